import PyProof.Rows.All
import Wide.All
import OpenK.AllK
import Wide.FinOn
import PyProof.ByEvalTree
import KE.BitLaws
import Lean
import PySem.Challenge.RW_im0096_04
set_option Elab.async false
set_option genSizeOf false
set_option genInjectivity false
set_option maxRecDepth 100000
namespace Mine
open PySem PySem.W PySem.Calls PyProof.Rows

/-! ## a dict whose entries are known in their order -/
inductive Ents : List DictEntry → List (Str × Value) → Prop
  | nil : Ents [] []
  | cons {e : DictEntry} {x : Str} {v : Value} {t : Tok} {es l} : e.key = .str x t → e.val = v → Ents es l → Ents (e :: es) ((x, v) :: l)
theorem Ents.snoc {h : Int} {x : Str} {t : Tok} {v : Value} : ∀ {es l}, Ents es l → Ents (es ++ [⟨h, .str x t, v⟩]) (l ++ [(x, v)])
  | _, _, .nil => .cons rfl rfl .nil
  | _, _, .cons a b r => .cons a b r.snoc
theorem Ents.find {x : Str} : ∀ {es l}, Ents es l → (es.find? (fun e => e.key.isStr x)).map (·.val) = l.lookup x
  | _, _, .nil => rfl
  | _, _, .cons (e := e) (x := y) (v := v) (t := t) a b r => by
    have hk : e.key.isStr x = (y == x) := by rw [a]; rfl
    rw [List.find?_cons, List.lookup_cons, hk]
    by_cases h : y = x
    · subst h; simp [b]
    · have h1 : (y == x) = false := by simpa using h
      have h2 : (x == y) = false := by simpa using (fun e => h e.symm : ¬ x = y)
      rw [h1, h2]; exact r.find
theorem Ents.strs {es l} (h : Ents es l) : ∀ e ∈ es, ∃ n t, e.key = .str n t := by
  induction h with
  | nil => exact fun e h => nomatch h
  | cons a _ _ ih => exact fun e h => (List.mem_cons.mp h).elim (fun q => q ▸ ⟨_, _, a⟩) (ih e)
theorem Ents.length : ∀ {es l}, Ents es l → es.length = l.length
  | _, _, .nil => rfl
  | _, _, .cons _ _ r => by simp [r.length]

noncomputable def DictIs (h : Heap) (a : Addr) (l : List (Str × Value)) : Prop :=
  ∃ es n, h.get? a = some ⟨.type "dict", none, .dict es n, #[]⟩ ∧ Ents es.toList l
theorem DictIs.ns {h : Heap} {a : Addr} {l} (D : DictIs h a l) : h.Ns a (fun x => l.lookup x) := by
  obtain ⟨es, n, e, r⟩ := D
  refine ⟨_, es, n, e, rfl, fun e he => r.strs e (Array.mem_toList_iff.mpr he), fun x => ?_⟩
  unfold nsFind findBy
  rw [← Array.find?_toList]
  exact r.find
theorem DictIs.at {h h' : Heap} {a : Addr} {l} (D : DictIs h a l) (e : ∀ o, h.get? a = some o → h'.get? a = some o) : DictIs h' a l :=
  let ⟨es, n, x, r⟩ := D; ⟨es, n, e _ x, r⟩
theorem DictIs.lt {h : Heap} {a : Addr} {l} (D : DictIs h a l) : a < h.objs.size := let ⟨_, _, x, _⟩ := D; Heap.lt_size x
theorem DictIs.new (h : Heap) : DictIs (h.push { cls := .type "dict", data := .dict #[] }) h.objs.size [] := ⟨#[], 0, Heap.get?_push_size _ rfl, .nil⟩

section
variable {M : Model} {A : Around} {E : Value → Shared → Prop} {s : Shared}
theorem wpT {α : Type} {b : Bool} {x y : Sem α} {Q : α → Shared → Prop} (h : b = true) (k : wpAny M A x Q E s) : wpAny M A (if b = true then x else y) Q E s := by rw [if_pos h]; exact k
theorem wpF {α : Type} {b : Bool} {x y : Sem α} {Q : α → Shared → Prop} (h : b = false) (k : wpAny M A y Q E s) : wpAny M A (if b = true then x else y) Q E s := by rw [h, if_neg Bool.false_ne_true]; exact k
theorem wpI {α : Type} {c : Prop} [Decidable c] {x y : Sem α} {Q : α → Shared → Prop} (h : c) (k : wpAny M A x Q E s) : wpAny M A (if c then x else y) Q E s := by rw [if_pos h]; exact k
theorem wpN {α : Type} {c : Prop} [Decidable c] {x y : Sem α} {Q : α → Shared → Prop} (h : ¬ c) (k : wpAny M A y Q E s) : wpAny M A (if c then x else y) Q E s := by rw [if_neg h]; exact k
theorem wpEq {α : Type} {x y : Sem α} {Q : α → Shared → Prop} (h : x = y) (k : wpAny M A y Q E s) : wpAny M A x Q E s := h ▸ k
theorem lookup_none_of {x : Str} : ∀ {l : List (Str × Value)}, x ∉ l.map (·.1) → l.lookup x = none
  | [], _ => rfl
  | (y, v) :: l, h => by
    simp only [List.map_cons, List.mem_cons, not_or] at h
    rw [List.lookup_cons]
    have : (x == y) = false := by simpa using h.1
    rw [this]; exact lookup_none_of h.2
/-- a new name is laid behind the others -/
theorem nsSet_new {a : Addr} {l : List (Str × Value)} {x : Str} {v : Value} {Q : Unit → Shared → Prop} (D : DictIs s.heap a l) (hn : x ∉ l.map (·.1))
    (h : ∀ h', DictIs h' a (l ++ [(x, v)]) → Heap.SameBut a s.heap h' → Q () { s with heap := h', toks := s.toks + 1 }) : wpAny M A (nsSet a x v) Q E s := by
  obtain ⟨es, n, ho, r⟩ := D
  unfold nsSet strHash
  refine wpAny_bind (wpAny_bind (wpAny_askSetting (wpAny_pure (wpAny_bind (wpAny_mkText (wpAny_bind (wpAny_loadPart ho ?_)))))))
  dsimp only
  have hany : es.any (·.refKey) = false := by
    rw [Array.any_eq_false']; intro e he; obtain ⟨n, t, h⟩ := r.strs e (Array.mem_toList_iff.mpr he); simp [DictEntry.refKey, h]
  have hf : es.find? (fun e => e.key.isStr x) = none := by
    have := r.find (x := x)
    rw [lookup_none_of hn] at this
    rw [← Array.find?_toList]
    exact Option.map_eq_none_iff.mp this
  have hi : es.findIdx? (fun e => e.key.isStr x) = none := by
    rw [Array.findIdx?_eq_none_iff]
    intro e he
    have := Array.find?_eq_none.mp hf e he
    simpa using this
  refine wpN (by rw [aRefKeyMayBeTheName_eq]; unfold aRefKeyMayBeTheNameByArray; rw [hany]; simp) ?_
  refine wpAny_updatePart ho (h _ ?_ (Heap.SameBut.update ..))
  refine ⟨es.push ⟨(if x.cps.isEmpty = true then 0 else reduceHash (M.w.params.strHash x.cps)), .str x s.toks, v⟩, n + 1, ?_, ?_⟩
  · rw [Heap.get?_update_self _ ho (by simp only [Obj.putName_eq, Obj.putNameByArray, hi]; rfl)]
    simp only [Obj.putName_eq, Obj.putNameByArray, hi]
  · rw [Array.toList_push]
    exact r.snoc
theorem nsGet_dict {a : Addr} {l : List (Str × Value)} {x : Str} {Q : Option Value → Shared → Prop} (D : DictIs s.heap a l) (h : Q (l.lookup x) s) : wpAny M A (nsGet a x) Q E s :=
  wpAny_nsGet D.ns h
end
end Mine
set_option genSizeOf false
set_option genInjectivity false
set_option maxRecDepth 100000
namespace Mine
open PySem PySem.W PySem.Calls PyProof.Rows

/-! ## a def at the top or in a class's body; how many objects it makes -/
theorem none_some {α : Type} {a : α} {P : Prop} (h : (none : Option α) = some a) : P := nomatch h
theorem if_some {α : Type} {b : Bool} {x y : Option α} {a : α} (hy : y = none) (h : (if b = true then x else y) = some a) : b = true ∧ x = some a := by
  cases b with
  | true => exact ⟨rfl, h⟩
  | false => exact none_some (hy.symm.trans h)
theorem and_t {a b : Bool} (h : (a && b) = true) : a = true ∧ b = true := by cases a <;> cases b <;> first | exact ⟨rfl, rfl⟩ | cases h
theorem not_t {a : Bool} (h : (!a) = true) : a = false := by cases a; rfl; cases h
theorem some_eq {α : Type} {a b : α} (h : some a = some b) : a = b := by cases h; rfl
theorem nil_of {α : Type} {l : List α} (h : l.isEmpty = true) : l = [] := by cases l; rfl; cases h
theorem none_of {α : Type} {o : Option α} (h : o.isNone = true) : o = none := by cases o; rfl; cases h
noncomputable def plainArgs (a : Arguments) : Bool := a.posonlyargs.isEmpty && a.vararg.isNone && a.kwonlyargs.isEmpty && a.kw_defaults.isEmpty && a.kwarg.isNone
theorem plainArgs_spec {a : Arguments} (h : plainArgs a = true) : a = ⟨[], a.args, none, [], [], none, a.defaults⟩ := by
  obtain ⟨h, h5⟩ := and_t h
  obtain ⟨h, h4⟩ := and_t h
  obtain ⟨h, h3⟩ := and_t h
  obtain ⟨h1, h2⟩ := and_t h
  have e1 := nil_of h1
  have e2 := none_of h2
  have e3 := nil_of h3
  have e4 := nil_of h4
  have e5 := none_of h5
  clear h1 h2 h3 h4 h5 h
  cases a with
  | mk p as va ko kd kw ds =>
    obtain rfl : p = [] := e1
    obtain rfl : va = none := e2
    obtain rfl : ko = [] := e3
    obtain rfl : kd = [] := e4
    obtain rfl : kw = none := e5
    rfl
noncomputable def okArgs (a : Arguments) : Bool := plainArgs a && (a.args.all (fun x => x.annotation.isNone) && a.defaults.all Expr.isPlainConst)
noncomputable def okDef (a : Arguments) (scope : Scope) (body : List Stmt) : Bool :=
  okArgs a && (scope.names.all fun x => x.2 != .free) && (docOf body).isNone

theorem annotationsOf_none (e : Env) : ∀ as : List Arg, (as.all fun x => x.annotation.isNone) = true → annotationsOf as e = []
  | [], _ => rfl
  | ⟨n, o, p⟩ :: r, h => by
    obtain ⟨h1, h2⟩ := and_t h
    have ih := annotationsOf_none e r h2
    obtain rfl : o = none := none_of h1
    exact ih
theorem annTrees_none {a : Arguments} (h : okArgs a = true) (e : Env) : annTrees a none e = [] := by
  obtain ⟨h1, h2⟩ := and_t h
  have h3 := annotationsOf_none e a.args (and_t h2).1
  rw [plainArgs_spec h1]
  show annotationsOf (a.args ++ [] ++ [] ++ [] ++ []) e ++ [] = []
  rw [List.append_nil, List.append_nil, List.append_nil, List.append_nil, List.append_nil]
  exact h3
theorem okArgs_kw {a : Arguments} (h : okArgs a = true) : a.kwonlyargs = [] ∧ a.kw_defaults = [] ∧ ∀ e ∈ a.defaults, e.isPlainConst = true := by
  obtain ⟨h1, h2⟩ := and_t h
  have e := plainArgs_spec h1
  exact ⟨congrArg (·.kwonlyargs) e, congrArg (·.kw_defaults) e, List.all_eq_true.mp (and_t h2).2⟩

inductive IsC (h : Heap) (c P : Addr) (ps : Array Value) : Prop
  | mk (o : Obj) (vs : Array Value) (file : Str) (tf : Tok) (flags : Int) (tg : Tok) (inF : Bool) (text : Int) (tt : Tok) (op : Obj) (x : h.get? c = some o) (r1 : o.data = .fields vs) (r2 : vs.getD 11 .none = .ref P) (r3 : vs.getD 18 .none = .str file tf)
    (r4 : vs.getD 7 .none = .int flags tg) (r5 : vs.getD 9 .none = .bool inF) (r6 : vs.getD 10 .none = .int text tt) (y : h.get? P = some op) (r7 : op.data = .fields ps) (r8 : TriplesOk ps.toList) (r9 : c ≠ P) : IsC h c P ps
theorem toC {h : Heap} {c P : Addr} {ps : Array Value} (x : h.IsCode c P ps) : IsC h c P ps := by
  obtain ⟨o, vs, file, tf, flags, tg, inF, text, tt, op, a, r1, r2, r3, r4, r5, r6, b, r7, r8, r9⟩ := x
  exact ⟨o, vs, file, tf, flags, tg, inF, text, tt, op, a, r1, r2, r3, r4, r5, r6, b, r7, r8, r9⟩
theorem ofC {h : Heap} {c P : Addr} {ps : Array Value} (x : IsC h c P ps) : h.IsCode c P ps :=
  let ⟨o, vs, file, tf, flags, tg, inF, text, tt, op, a, r1, r2, r3, r4, r5, r6, b, r7, r8, r9⟩ := x
  ⟨o, vs, file, tf, flags, tg, inF, text, tt, op, a, r1, r2, r3, r4, r5, r6, b, r7, r8, r9⟩
theorem codeKeep {h h' : Heap} {c P : Addr} {ps : Array Value} (x : h.IsCode c P ps) (k1 : ∀ o, h.get? c = some o → h'.get? c = some o) (k2 : ∀ o, h.get? P = some o → h'.get? P = some o) : h'.IsCode c P ps := by
  obtain ⟨o, vs, file, tf, flags, tg, inF, text, tt, op, a, r1, r2, r3, r4, r5, r6, b, r7, r8, r9⟩ := toC x
  exact ofC ⟨o, vs, file, tf, flags, tg, inF, text, tt, op, k1 _ a, r1, r2, r3, r4, r5, r6, k2 _ b, r7, r8, r9⟩
theorem tabKeep {h h' : Heap} {c P : Addr} {ps : Array Value} (x : h.TableAt c P ps) (k1 : ∀ o, h.get? c = some o → h'.get? c = some o) (k2 : ∀ o, h.get? P = some o → h'.get? P = some o) : h'.TableAt c P ps :=
  ⟨x.1.elim fun o h => h.elim fun vs h => ⟨o, vs, k1 _ h.1, h.2⟩, k2 _ x.2⟩
theorem recKeep {h h' : Heap} {c : Addr} {q : Str} (x : h.CodeRec (.ref c) q) (k1 : ∀ o, h.get? c = some o → h'.get? c = some o) : h'.CodeRec (.ref c) q := by
  obtain ⟨c, o, vs, t, e, g, r⟩ := x
  cases e
  exact ⟨_, o, vs, t, rfl, k1 _ g, r⟩
inductive TabAt (n₀ : Nat) (h : Heap) (c' : Addr) : Prop
  | mk (P' : Addr) (le : n₀ ≤ P') (i : h.IsCode c' P' #[]) (t : h.TableAt c' P' #[]) : TabAt n₀ h c'
inductive DflAt (n₀ : Nat) (h : Heap) (dv : List Value) (dV : Value) : Prop
  | none (e1 : dv = []) (e2 : dV = .none) : DflAt n₀ h dv dV
  | some (T : Addr) (ne : dv ≠ []) (e : dV = .ref T) (le : n₀ ≤ T) (g : h.get? T = some { cls := .type "tuple", data := .seq dv.toArray }) : DflAt n₀ h dv dV
/-- the function object of a def, its code record, its defaults -/
structure FnAt (n₀ : Nat) (h : Heap) (a : Addr) (name qual : Str) (params : Arguments) (body : List Stmt) (scope : Scope) (pm : Value) (dv : List Value) (dV : Value) (c' : Addr) : Prop where
  lo : n₀ ≤ a
  loc : n₀ ≤ c'
  fn : h.get? a = some { cls := .type "function", data := .func (defFd name qual params body scope mainGlobals dV .none none pm (.ref c') .none) }
  cr : h.CodeRec (.ref c') qual
  tab : TabAt n₀ h c'
  dvs : ConstVals params.defaults dv
  dfl : DflAt n₀ h dv dV

/-- everything from n₀ on stands -/
theorem FnAt.keep {n₀ : Nat} {h h' : Heap} {a name qual params body scope pm dv dV c'} (F : FnAt n₀ h a name qual params body scope pm dv dV c')
    (k : ∀ b o, n₀ ≤ b → h.get? b = some o → h'.get? b = some o) : FnAt n₀ h' a name qual params body scope pm dv dV c' := by
  refine ⟨F.lo, F.loc, k _ _ F.lo F.fn, recKeep F.cr fun o => k _ o F.loc, ?_, F.dvs, ?_⟩
  · obtain ⟨P', hP, hi, ht⟩ := F.tab
    exact ⟨P', hP, codeKeep hi (fun o => k _ o F.loc) (fun o => k _ o hP), tabKeep ht (fun o => k _ o F.loc) (fun o => k _ o hP)⟩
  · rcases F.dfl with ⟨x, y⟩ | ⟨T, x, e, hT, g⟩
    · exact .none x y
    · exact .some T x e hT (k _ _ hT g)
theorem FnAt.weaken {n₀ n₁ : Nat} {h : Heap} {a name qual params body scope pm dv dV c'} (F : FnAt n₁ h a name qual params body scope pm dv dV c') (le : n₀ ≤ n₁) : FnAt n₀ h a name qual params body scope pm dv dV c' := by
  refine ⟨Nat.le_trans le F.lo, Nat.le_trans le F.loc, F.fn, F.cr, ?_, F.dvs, ?_⟩
  · obtain ⟨P', hP, r1, r2⟩ := F.tab
    exact ⟨P', Nat.le_trans le hP, r1, r2⟩
  · rcases F.dfl with ⟨x, y⟩ | ⟨T, x, e, hT, g⟩
    · exact .none x y
    · exact .some T x e (Nat.le_trans le hT) g

section
variable {M : Model} {A : Around} {E : Value → Shared → Prop} {s : Shared}
noncomputable def kOf : Option (List Str × List Str) → Nat
  | some _ => 5
  | none => 3
noncomputable def bodyK (body : List Stmt) : Nat := match mayInlineStmts body with
  | true => 3
  | false => 5
theorem localNames_k (p : Arguments) (scope : Scope) (body : List Stmt) : kOf (localNames p scope (.stmts body)) = bodyK body := by
  unfold localNames bodyK
  cases h : mayInlineStmts body <;> simp [h, kOf]
theorem newCodeE {ctx : CodeContext} {name qualname : Str} {firstLine argc posonly kwonly flags : Nat} {free : List Str} {isFunction : Bool}
    {parse : Option Nat} {l : Option (List Str × List Str)} {fd : FuncData} {Q : Value → Shared → Prop}
    (hQ : ∀ c P h' tk, c = s.heap.objs.size + kOf l → (∀ b o, s.heap.get? b = some o → h'.get? b = some o) → h'.objs.size = s.heap.objs.size + (kOf l + 1) → s.heap.objs.size ≤ P → h'.IsCode c P #[] → h'.TableAt c P #[] →
      h'.CodeRec (.ref c) qualname → Q (.ref c) { s with heap := h', toks := tk }) :
    wpAny M A (newCode ctx name qualname firstLine argc posonly kwonly flags free isFunction parse l (some fd)) Q E s := by
  unfold newCode
  refine wpAny_bind (wpAny_mkText (wpAny_bind (wpAny_mkText (wpAny_bind (wpAny_mkText (wpAny_bind (wpAny_mkStrs fun fs =>
    wpAny_bind (wpAny_newObjAsIs_type (wpAny_bind (wpAny_alloc ?_))))))))))
  generalize hH : (s.heap.push { cls := .type "tuple", dict := none, data := .seq fs.toArray }) = H
  have hz : H.objs.size = s.heap.objs.size + 1 := by rw [← hH, Heap.size_push]
  have hk : ∀ b o, s.heap.get? b = some o → H.get? b = some o := fun b o e => hH ▸ Heap.get?_push_of_some _ e
  have hPl : (H.push { cls := .none, data := .fields #[] }).get? H.objs.size = some { cls := .none, data := .fields #[] } := Heap.get?_push_size _ rfl
  cases l with
  | some l =>
    refine wpAny_bind (wpAny_mkStrs fun a => wpAny_bind (wpAny_newObjAsIs_type (wpAny_bind (wpAny_mkStrs fun b => wpAny_bind (wpAny_newObjAsIs_type
      (wpAny_bind (wpAny_bind (wpAny_alloc (wpAny_pure (wpAny_bind (wpAny_fresh (wpAny_bind (wpAny_mkText (wpAny_newObj_type ?_ (by size_fits)))))))))))))))
    refine hQ _ H.objs.size _ _ (by simp only [Heap.size_push, hz]; rfl) (fun b o e => Heap.get?_push_of_some _ (Heap.get?_push_of_some _ (Heap.get?_push_of_some _ (Heap.get?_push_of_some _ (Heap.get?_push_of_some _ (hk b o e))))))
      (by simp only [Heap.size_push, hz]; rfl) (by rw [hz]; lia)
      (ofC ⟨_, _, _, _, _, _, _, _, _, _, Heap.get?_push_size _ rfl, rfl, rfl, rfl, rfl, rfl, rfl,
        Heap.get?_push_of_some _ (Heap.get?_push_of_some _ (Heap.get?_push_of_some _ (Heap.get?_push_of_some _ hPl))), rfl, trivial, by simp only [Heap.size_push]; exact Nat.ne_of_gt (by lia)⟩)
      ⟨⟨_, _, Heap.get?_push_size _ rfl, rfl, rfl, rfl⟩, Heap.get?_push_of_some _ (Heap.get?_push_of_some _ (Heap.get?_push_of_some _ (Heap.get?_push_of_some _ hPl)))⟩
      ⟨_, _, _, _, rfl, Heap.get?_push_size _ rfl, rfl, rfl⟩
  | none =>
    refine wpAny_bind (wpAny_pure (wpAny_bind (wpAny_pure
      (wpAny_bind (wpAny_bind (wpAny_alloc (wpAny_pure (wpAny_bind (wpAny_fresh (wpAny_bind (wpAny_mkText (wpAny_newObj_type ?_ (by size_fits)))))))))))))
    refine hQ _ H.objs.size _ _ (by simp only [Heap.size_push, hz]; rfl) (fun b o e => Heap.get?_push_of_some _ (Heap.get?_push_of_some _ (Heap.get?_push_of_some _ (hk b o e))))
      (by simp only [Heap.size_push, hz]; rfl) (by rw [hz]; lia)
      (ofC ⟨_, _, _, _, _, _, _, _, _, _, Heap.get?_push_size _ rfl, rfl, rfl, rfl, rfl, rfl, rfl,
        Heap.get?_push_of_some _ (Heap.get?_push_of_some _ hPl), rfl, trivial, by simp only [Heap.size_push]; exact Nat.ne_of_gt (by lia)⟩)
      ⟨⟨_, _, Heap.get?_push_size _ rfl, rfl, rfl, rfl⟩, Heap.get?_push_of_some _ (Heap.get?_push_of_some _ hPl)⟩
      ⟨_, _, _, _, rfl, Heap.get?_push_size _ rfl, rfl, rfl⟩

theorem codeAtE {env : Env} {c P : Addr} {ps : Array Value} {pos : Pos} {mk : CodeContext → Sem Value} {Q : Value → Shared → Prop} {X : Addr → Heap → Prop} (hc : env.code = .ref c) (hok : s.heap.IsCode c P ps) (hnf : codeAmong pos ps.toList = none)
    (hm : ∀ (ctx : CodeContext) (Q' : Value → Shared → Prop), (∀ c' h' tk, s.heap.objs.size ≤ c' → (∀ b o, s.heap.get? b = some o → h'.get? b = some o) → X c' h' → Q' (.ref c') { s with heap := h', toks := tk }) → wpAny M A (mk ctx) Q' E s)
    (hQ : ∀ c' h' h'' tk, s.heap.objs.size ≤ c' → P < s.heap.objs.size → X c' h' → Heap.SameBut P h' h'' → Heap.ExtBut P s.heap h'' → h''.IsCode c P (ps ++ #[rawInt pos.line, rawInt pos.col, .ref c']) → Q (.ref c') { s with heap := h'', toks := tk }) :
    wpAny M A (codeAt env pos mk) Q E s := by
  obtain ⟨o, vs, file, tf, flags, tg, inF, text, tt, op, ho, hd, h11, h2, h7, h9, h10, hop, hpd, htr, hne⟩ := toC hok
  unfold codeAt
  refine wpF (by rw [hc]; rfl) ?_
  rw [hc]
  refine wpAny_bind (wpAny_fieldsOf ho hd ?_)
  rw [h11]
  refine wpAny_bind (wpAny_fieldsOf hop hpd ?_)
  rw [hnf, h2, h7, h9, h10]
  refine wpAny_bind (hm _ _ fun c' h' tk hc' hk x => ?_)
  have hop' := hk _ _ hop
  refine wpAny_bind (wpAny_updateFieldsOfTheText hop' hpd ?_)
  have hnew : (Obj.mapFields (fun vs => if (codeAmong pos vs.toList).isSome = true then vs else vs ++ #[rawInt pos.line, rawInt pos.col, .ref c']) op).data =
      .fields (ps ++ #[rawInt pos.line, rawInt pos.col, .ref c']) := by
    rw [Obj.data_mapFields hpd, hnf]; rfl
  have hget := Heap.get?_update_self (h := h') (fun o => Obj.mapFields (fun vs => if (codeAmong pos vs.toList).isSome = true then vs else
    vs ++ #[rawInt pos.line, rawInt pos.col, .ref c']) o) hop' (Obj.isFreed_of_fields hnew)
  refine wpAny_bind (wpAny_fieldsOf hget hnew ?_)
  have hl : (ps ++ #[rawInt pos.line, rawInt pos.col, Value.ref c']).toList = ps.toList ++ [rawInt pos.line, rawInt pos.col, .ref c'] := by simp
  rw [hl, codeAmong_snoc _ htr hnf]
  have sb : ∀ f, Heap.SameBut P h' (h'.update P f) := fun f => Heap.SameBut.update ..
  refine wpAny_pure (hQ c' h' _ _ hc' (Heap.lt_size hop) x (sb _) (fun b o' hb e => ((sb _).extBut b o' hb (hk b o' e))) (ofC ⟨o, vs, file, tf, flags, tg, inF, text, tt, _, (sb _).extBut _ _ hne (hk _ _ ho), hd, h11, h2, h7, h9, h10, hget, hnew, ?_, hne⟩))
  rw [hl]; exact TriplesOk_snoc _ _ _ _ htr
theorem SameBut.ne {P : Addr} {h h' : Heap} (sb : Heap.SameBut P h h') {c : Addr} (hc : c ≠ P) : ∀ o, h.get? c = some o → h'.get? c = some o := fun o e => (sb.2 c hc).trans e
structure FnCd (n k : Nat) (q : Str) (c' : Addr) (h' : Heap) : Prop where
  c : c' = n + k
  z : h'.objs.size = n + (k + 1)
  t : TabAt n h' c'
  r : h'.CodeRec (.ref c') q
theorem functionCodeE {env : Env} {c P : Addr} {ps : Array Value} {pos : Pos} {firstLine : Nat} {name qualname : Str} {p : Arguments} {scope : Scope} {body : List Stmt}
    {Q : Value → Shared → Prop} (hc : env.code = .ref c) (hok : s.heap.IsCode c P ps) (hnf : codeAmong pos ps.toList = none)
    (hQ : ∀ h' tk, Heap.ExtBut P s.heap h' → h'.objs.size = s.heap.objs.size + (bodyK body + 1) → h'.IsCode c P (ps ++ #[rawInt pos.line, rawInt pos.col, .ref (s.heap.objs.size + bodyK body)]) → h'.CodeRec (.ref (s.heap.objs.size + bodyK body)) qualname →
      TabAt s.heap.objs.size h' (s.heap.objs.size + bodyK body) →
      Q (.ref (s.heap.objs.size + bodyK body)) { s with heap := h', toks := tk }) :
    wpAny M A (functionCode env pos firstLine name qualname p scope (.stmts body)) Q E s := by
  unfold functionCode
  refine codeAtE (X := FnCd s.heap.objs.size (bodyK body) qualname) hc hok hnf (fun ctx Q' h => newCodeE fun c' P' h' tk ec hk hz hP' hcode' htab' hrec' => ?_) fun c' h' h'' tk hc' hP x sb ex ok => ?_
  · rw [localNames_k] at ec hz
    exact h c' h' tk (by rw [ec]; exact Nat.le_add_right ..) hk ⟨ec, hz, ⟨P', hP', hcode', htab'⟩, hrec'⟩
  · obtain ⟨ec, hz, ⟨P', hP', hi, ht⟩, hr⟩ := x
    have n1 := SameBut.ne sb (Nat.ne_of_gt (Nat.lt_of_lt_of_le hP hc'))
    have n2 := SameBut.ne sb (Nat.ne_of_gt (Nat.lt_of_lt_of_le hP hP'))
    subst ec
    exact hQ h'' tk ex (sb.1.trans hz) ok (recKeep hr n1) ⟨P', hP', codeKeep hi n1 n2, tabKeep ht n1 n2⟩

theorem makeFunctionE {name qualname : Str} {params : Arguments} {body : List Stmt} {scope : Scope} {env : Env} {mg} {c Pl : Addr} {ps : Array Value} {pos : Pos} {firstLine : Nat} {dv : List Value} {Q : Value → Shared → Prop}
    (hkw : params.kwonlyargs = []) (hfree : ∀ x ∈ scope.names, x.2 ≠ .free) (hgl : env.globals = mainGlobals) (hdvs : ConstVals params.defaults dv)
    (hdoc : docOf body = none) (hg : s.heap.Ns mainGlobals mg) (hcode : env.code = .ref c) (hok : s.heap.IsCode c Pl ps) (hnf : codeAmong pos ps.toList = none) (hgP : mainGlobals ≠ Pl)
    (hb : s.heap.BuiltinsAt mg Pl)
    (h : ∀ c' h' tk dV, Heap.ExtBut Pl s.heap h' → h'.objs.size = s.heap.objs.size + (bodyK body + 2 + min 1 dv.length) → FnAt s.heap.objs.size h' (s.heap.objs.size + (bodyK body + 1 + min 1 dv.length)) name qualname params body scope ((mg "__name__").getD .none) dv dV c' →
      h'.IsCode c Pl (ps ++ #[rawInt pos.line, rawInt pos.col, .ref c']) →
      Q (.ref (s.heap.objs.size + (bodyK body + 1 + min 1 dv.length))) { s with heap := h', toks := tk }) :
    wpAny M A (makeFunction name qualname params (.stmts body) scope env dv [] [] pos firstLine) Q E s := by
  rw [makeFunction_eq, hkw]
  simp only [List.zip_nil_left, List.filterMap_nil, List.isEmpty_nil, if_true, pure_bind]
  have hc : closureFor scope env = pure [] := closureFor_none hfree
  have tail : ∀ (dV : Value) (h₀ : Heap), (∀ b o, s.heap.get? b = some o → h₀.get? b = some o) → h₀.objs.size = s.heap.objs.size + min 1 dv.length →
      ((dv = [] ∧ dV = .none) ∨ (dv ≠ [] ∧ ∃ T, dV = .ref T ∧ s.heap.objs.size ≤ T ∧ T < h₀.objs.size ∧ h₀.get? T = some { cls := .type "tuple", data := .seq dv.toArray })) →
      wpAny M A (makeTail name qualname params (.stmts body) scope env dV .none none pos firstLine) Q E { s with heap := h₀ } := by
    intro dV h₀ k₀ z₀ hd
    simp only [makeTail, List.isEmpty_nil, if_true, pure_bind, hc, hdoc]
    refine wpAny_bind (functionCodeE (s := { s with heap := h₀ }) hcode (hok.keeps k₀) hnf fun h' tk hx hz hok' hrec htb => ?_)
    dsimp only at hx hz hok' hrec htb ⊢
    have hb' := hb.keeps k₀
    obtain ⟨bm, o, hbm, hne0, _, hneP, hbo, hcls, hdict, hdata⟩ := hb'
    have hg' := (hg.keeps k₀).extBut hx hgP
    refine wpAny_bind (wpAny_builtinsFor (by rw [hgl]; exact hg') hbm hne0 (hx _ _ hneP hbo) hcls hdict hdata ?_)
    refine wpAny_bind (wpAny_nsGet (by rw [hgl]; exact hg') ?_)
    refine wpAny_newObj_type ?_ (by size_fits)
    have e1 : h'.objs.size = s.heap.objs.size + (bodyK body + 1 + min 1 dv.length) := by rw [hz, z₀]; lia
    rw [hgl]
    have ex : Heap.ExtBut Pl s.heap h' := fun b o hb e => hx b o hb (k₀ b o e)
    have hPl : Pl < s.heap.objs.size := hok.lt.2
    have key := h (h₀.objs.size + bodyK body) (h'.push { cls := .type "function", data := .func (defFd name qualname params body scope mainGlobals dV .none none ((mg "__name__").getD .none) (.ref (h₀.objs.size + bodyK body)) .none) }) tk dV
      (ex.push _) (by rw [Heap.size_push, e1]; lia) ?_ (hok'.push _)
    · rw [← e1] at key; exact key
    · refine ⟨Nat.le_add_right .., by rw [z₀]; lia, ?_, hrec.push _, ?_, hdvs, ?_⟩
      · rw [← e1]; exact Heap.get?_push_size _ rfl
      · obtain ⟨P', hP, a, b⟩ := htb
        exact ⟨P', by rw [z₀] at hP; lia, a.push _, b.push _⟩
      · rcases hd with ⟨x, y⟩ | ⟨x, T, e, hT, hT2, g⟩
        · exact .none x y
        · exact .some T x e hT (Heap.get?_push_of_some _ (hx _ _ (Nat.ne_of_gt (Nat.lt_of_lt_of_le hPl hT)) g))
  cases dv with
  | nil =>
    have := tail .none s.heap (fun _ _ e => e) rfl (.inl ⟨rfl, rfl⟩)
    simp only [List.isEmpty_nil, if_true, pure_bind]
    exact this
  | cons d ds =>
    refine wpAny_bind (wpAny_newTextTuple ?_)
    refine tail (.ref s.heap.objs.size) _ (fun b o e => Heap.get?_push_of_some _ e) (by rw [Heap.size_push, List.length_cons]; lia) (.inr ⟨List.cons_ne_nil _ _, _, rfl, Nat.le_refl _, by rw [Heap.size_push]; exact Nat.lt_succ_self _, Heap.get?_push_size _ rfl⟩)

theorem ConstVals.len : ∀ {es : List Expr} {vs : List Value}, ConstVals es vs → es.length = vs.length
  | [], [], _ => rfl
  | _ :: _, _ :: _, h => by simp [ConstVals.len h.2]

noncomputable def defSize (a : Arguments) (body : List Stmt) : Nat := bodyK body + 2 + min 1 a.defaults.length

theorem def_make {env : Env} {name : Str} {args : Arguments} {body : List Stmt} {scope : Scope} {pos : Pos} {c Pl : Addr} {ps : Array Value} {mg} {Q : Flow → Shared → Prop}
    (ok : okDef args scope body = true) (hgl : env.globals = mainGlobals) (hcode : env.code = .ref c) (hok : s.heap.IsCode c Pl ps) (hnf : codeAmong pos ps.toList = none) (hgP : mainGlobals ≠ Pl)
    (hg : s.heap.Ns mainGlobals mg) (hb : s.heap.BuiltinsAt mg Pl)
    (h : ∀ c' dv dV h' tk, Heap.ExtBut Pl s.heap h' → h'.objs.size = s.heap.objs.size + defSize args body → FnAt s.heap.objs.size h' (s.heap.objs.size + (defSize args body - 1)) name (qualnameIn env name name) args body scope ((mg "__name__").getD .none) dv dV c' →
      h'.IsCode c Pl (ps ++ #[rawInt pos.line, rawInt pos.col, .ref c']) → wpAny M A (bindName env name (.ref (s.heap.objs.size + (defSize args body - 1)))) (fun _ => Q .next) E { s with heap := h', toks := tk }) :
    wpAny M A (exec (.FunctionDef name args body [] none [] scope none name pos) env) Q E s := by
  simp only [okDef, Bool.and_eq_true, List.all_eq_true, Option.isNone_iff_eq_none] at ok
  obtain ⟨⟨ok1, ok2⟩, ok3⟩ := ok
  obtain ⟨k1, k2, k3⟩ := okArgs_kw ok1
  have hfree : ∀ x ∈ scope.names, x.2 ≠ .free := fun x hx => by simpa using ok2 x hx
  rw [exec_def, defaultsOf_eq, k2, annTrees_none ok1]
  refine wpAny_bind (wpAny_standAt (wpAny_bind (wpAny_holding ?_)))
  refine wpAny_bind (wpAny_evalAll_consts _ _ _ k3 fun dv tk₁ hdv => ?_)
  refine wpAny_bind (wpAny_holding (wpAny_pure ?_))
  refine wpAny_holding (wpAny_bind (wpAny_pure ?_))
  have hlen := ConstVals.len hdv
  refine makeFunctionE (s := { s with toks := tk₁ }) k1 hfree hgl hdv ok3 hg hcode hok hnf hgP hb fun c' h' tk dV hx hz F hok' => wpAny_bind (wpAny_standAt (wpAny_bind ?_))
  dsimp only at hz F ⊢
  rw [← hlen] at hz F ⊢
  have e : bodyK body + 1 + min 1 args.defaults.length = defSize args body - 1 := by unfold defSize; lia
  rw [e] at F ⊢
  exact wpAny_mono (h c' dv dV h' tk hx hz F hok') (fun _ _ z => wpAny_pure z) fun _ _ z => z
end
end Mine
set_option genSizeOf false
set_option genInjectivity false
set_option maxRecDepth 100000
namespace Mine
open PySem PySem.W PySem.Calls PyProof.Rows

/-! ## quick looks at names -/
noncomputable def natsEq : List Nat → List Nat → Bool
  | [], [] => true
  | a :: as, b :: bs => Nat.beq a b && natsEq as bs
  | _, _ => false
theorem ff {P : Prop} (h : false = true) : P := nomatch h
theorem natsEq_of : ∀ {a b : List Nat}, natsEq a b = true → a = b
  | [], [], _ => rfl
  | [], _ :: _, h => ff h
  | _ :: _, [], h => ff h
  | a :: as, b :: bs, h => by
    obtain ⟨h1, h2⟩ := and_t (show (Nat.beq a b && natsEq as bs) = true from h)
    rw [Nat.eq_of_beq_eq_true h1, natsEq_of h2]
theorem natsEq_self : ∀ a : List Nat, natsEq a a = true
  | [] => rfl
  | a :: as => by
    show (Nat.beq a a && natsEq as as) = true
    rw [Nat.beq_refl, natsEq_self as]; rfl
theorem natsEq_iff {a b : List Nat} : natsEq a b = true ↔ a = b := ⟨natsEq_of, fun h => h ▸ natsEq_self a⟩
noncomputable def sEq (a b : Str) : Bool := natsEq a.cps.toList b.cps.toList
theorem sEq_iff {a b : Str} : sEq a b = true ↔ a = b := by
  unfold sEq
  rw [natsEq_iff]
  constructor
  · intro h; cases a; cases b; exact congrArg Str.mk (Array.ext' h)
  · intro h; rw [h]
theorem sEq_beq (a b : Str) : sEq a b = (a == b) := by
  cases h : sEq a b with
  | true => rw [sEq_iff.mp h]; simp
  | false =>
    have : ¬ a = b := fun e => by rw [sEq_iff.mpr e] at h; cases h
    simp [this]
noncomputable def sMem (x : Str) : List Str → Bool
  | [] => false
  | y :: r => sEq x y || sMem x r
theorem sMem_iff {x : Str} : ∀ {l : List Str}, sMem x l = true ↔ x ∈ l
  | [] => ⟨fun h => ff h, fun h => nomatch h⟩
  | y :: r => by
    show (sEq x y || sMem x r) = true ↔ x ∈ y :: r
    rw [Bool.or_eq_true, sEq_iff, sMem_iff, List.mem_cons]
theorem sMem_false {x : Str} {l : List Str} : sMem x l = false ↔ x ∉ l := by
  rw [← sMem_iff]; simp
noncomputable def sLook {β : Type} (x : Str) : List (Str × β) → Option β
  | [] => none
  | (y, v) :: r => if sEq x y then some v else sLook x r
theorem sLook_eq {β : Type} (x : Str) : ∀ l : List (Str × β), sLook x l = l.lookup x
  | [] => rfl
  | (y, v) :: r => by
    show (if sEq x y then some v else sLook x r) = _
    rw [List.lookup_cons, sEq_beq, sLook_eq x r]
    cases (x == y) <;> rfl
noncomputable def isLoc0 : Option NameKind → Bool
  | some .local => true
  | _ => false
noncomputable def isLocal (names : List (Str × NameKind)) (x : Str) : Bool := isLoc0 (sLook x names)
theorem isLoc0_spec {o : Option NameKind} (h : isLoc0 o = true) : o = some .local := by
  cases o with
  | none => exact ff h
  | some k => cases k with
    | «local» => rfl
    | _ => exact ff h
theorem isLocal_spec {names : List (Str × NameKind)} {x : Str} (h : isLocal names x = true) : names.lookup x = some .local := sLook_eq x names ▸ isLoc0_spec h

/-! ## a class's body -/
inductive TL (L : Nat) : List Value → Prop
  | nil : TL L []
  | cons {a b : Int} {t u : Tok} {x : Value} {r : List Value} : a < (L : Int) → TL L r → TL L (.int a t :: .int b u :: x :: r)
theorem TL.none {L : Nat} {p : Pos} (hp : L ≤ p.line) {l : List Value} (h : TL L l) : codeAmong p l = none := by
  induction h with
  | nil => rfl
  | @cons a b t u x r h _ ih =>
    show (if (a == (p.line : Int) && b == (p.col : Int)) = true then some x else codeAmong p r) = Option.none
    rw [beq_false_of_ne (Int.ne_of_lt (Int.lt_of_lt_of_le h (Int.ofNat_le.mpr hp)))]
    exact ih
theorem TL.snoc {L L' : Nat} (hL : L ≤ L') {a b : Int} {c : Value} (ha : a < (L' : Int)) {l : List Value} (h : TL L l) : TL L' (l ++ [rawInt a, rawInt b, c]) := by
  induction h with
  | nil => exact .cons ha .nil
  | cons h _ ih => exact .cons (Int.lt_of_lt_of_le h (Int.ofNat_le.mpr hL)) ih
structure CB (n₀ n : Nat) (h : Heap) (N c Pl : Addr) (mg : Str → Option Value) (l : List (Str × Value)) (ps : Array Value) : Prop where
  d : DictIs h N l
  code : h.IsCode c Pl ps
  g : h.Ns mainGlobals mg
  b : h.BuiltinsAt mg Pl
  size : h.objs.size = n
  le : n₀ ≤ n
  lN : N < n₀
  lP : Pl < n₀
  nNP : N ≠ Pl
  nNG : mainGlobals ≠ N
  nPG : mainGlobals ≠ Pl
  nc : c ≠ N

/-- what a step in a class's body keeps -/
noncomputable def Keeps2 (N Pl : Addr) (h h' : Heap) : Prop := ∀ b o, b ≠ N → b ≠ Pl → h.get? b = some o → h'.get? b = some o
theorem Keeps2.refl (N Pl : Addr) (h : Heap) : Keeps2 N Pl h h := fun _ _ _ _ e => e
theorem Keeps2.trans {N Pl : Addr} {h h' h'' : Heap} (x : Keeps2 N Pl h h') (y : Keeps2 N Pl h' h'') : Keeps2 N Pl h h'' := fun b o h1 h2 e => y b o h1 h2 (x b o h1 h2 e)
theorem CB.up {n₀ n : Nat} {h h' : Heap} {N c Pl mg l ps} (B : CB n₀ n h N c Pl mg l ps) (k : Keeps2 N Pl h h') : ∀ b o, n₀ ≤ b → h.get? b = some o → h'.get? b = some o :=
  fun b o hb e => k b o (Nat.ne_of_gt (Nat.lt_of_lt_of_le B.lN hb)) (Nat.ne_of_gt (Nat.lt_of_lt_of_le B.lP hb)) e

theorem BuiltinsAt.moved {h h' : Heap} {mg} {Pl N : Addr} {l} (x : h.BuiltinsAt mg Pl) (D : DictIs h N l) (k : Keeps2 N Pl h h') : h'.BuiltinsAt mg Pl := by
  obtain ⟨bm, o, a, b, c, d, e, f, g, r⟩ := x
  refine ⟨bm, o, a, b, c, d, k _ _ ?_ d e, f, g, r⟩
  rintro rfl
  obtain ⟨es, n, q, _⟩ := D
  rw [e] at q; cases q; have f' : Value.type "dict" = Value.type "module" := f; exact absurd f' (by decide)

section
variable {M : Model} {A : Around} {E : Value → Shared → Prop} {s : Shared}
theorem lookup_some_of {x : Str} {l : List (Str × Value)} (h : x ∈ l.map (·.1)) : l.lookup x ≠ none := fun q => by
  obtain ⟨p, hp, e⟩ := List.mem_map.mp h
  have := List.lookup_eq_none_iff.mp q p hp
  rw [e, bne_self_eq_false] at this
  exact ff this
theorem class_store {env : Env} {x : Str} {v : Value} {l : List (Str × Value)} {Q : Unit → Shared → Prop} (hk : env.scope.kind = .class) (hl : env.kindOf x = some .local)
    (D : DictIs s.heap env.locals l) (hn : x ∉ l.map (·.1)) (h : ∀ h', DictIs h' env.locals (l ++ [(x, v)]) → Heap.SameBut env.locals s.heap h' → Q () { s with heap := h', toks := s.toks + 1 }) :
    wpAny M A (storeName env x v) Q E s := by
  have e : storeName env x v = localSet env x v := by
    unfold storeName
    rw [hl, hk]
    rfl
  refine wpEq e ?_
  unfold localSet
  have D' := D
  obtain ⟨es, n, ho, _⟩ := D'
  refine wpAny_bind (wpAny_load ho ?_)
  exact nsSet_new D hn h
theorem class_bind {env : Env} {x : Str} {v : Value} {l : List (Str × Value)} {Q : Unit → Shared → Prop} (hk : env.scope.kind = .class) (hl : env.kindOf x = some .local)
    (D : DictIs s.heap env.locals l) (hn : x ∉ l.map (·.1)) (h : ∀ h', DictIs h' env.locals (l ++ [(x, v)]) → Heap.SameBut env.locals s.heap h' → Q () { s with heap := h', toks := s.toks + 1 }) :
    wpAny M A (bindName env x v) Q E s := wpAny_bindName (class_store hk hl D hn h)
theorem class_load {env : Env} {x : Str} {v : Value} {l : List (Str × Value)} {Q : Value → Shared → Prop} (hk : env.scope.kind = .class) (hl : env.kindOf x = some .local)
    (D : DictIs s.heap env.locals l) (hv : l.lookup x = some v) (h : Q v s) : wpAny M A (loadName env x) Q E s := by
  obtain ⟨es, n, ho, _⟩ := id D
  unfold loadName Env.blockKind
  rw [hl, hk]
  refine wpF rfl (wpAny_bind ?_)
  unfold localGet
  refine wpAny_bind (wpAny_load ho ?_)
  refine nsGet_dict D ?_
  rw [hv]
  exact wpAny_pure h

noncomputable def nameP1 : Expr → Option Str
  | .Name y _ => some y
  | _ => none
noncomputable def EltIs (l : List (Str × Value)) : Expr → Value → Prop
  | .Name y _, v => l.lookup y = some v
  | .Constant c _ _, v => c.Val v
  | _, _ => False
noncomputable def EltsAre (l : List (Str × Value)) : List Expr → List Value → Prop
  | [], [] => True
  | e :: es, v :: vs => EltIs l e v ∧ EltsAre l es vs
  | _, _ => False
theorem EltsAre.length {l : List (Str × Value)} : ∀ {es vs}, EltsAre l es vs → es.length = vs.length
  | [], [], _ => rfl
  | _ :: _, _ :: _, h => by simp [EltsAre.length h.2]
noncomputable def okEltN (names : List (Str × NameKind)) (bound : List Str) (e : Expr) : Option Str → Bool
  | some y => isLocal names y && sMem y bound && !sEq y "__debug__"
  | none => e.isPlainConst
noncomputable def okElt (names : List (Str × NameKind)) (bound : List Str) (e : Expr) : Bool := okEltN names bound e (nameP1 e)
theorem class_elt {env : Env} {l : List (Str × Value)} {s : Shared} (hk : env.scope.kind = .class) {Q : Value → Shared → Prop} (D : DictIs s.heap env.locals l) {e : Expr} (ok1 : okElt env.scope.names (l.map (·.1)) e = true)
    (h : ∀ v tk, EltIs l e v → Q v { s with toks := tk }) : wpAny M A (eval e env) Q E s ∧ ∀ r, starEach (e :: r) env = (false, eval e env) :: starEach r env := by
  cases e with
  | Name y p =>
    obtain ⟨ok1, okD⟩ := and_t ok1
    obtain ⟨okL, okM⟩ := and_t ok1
    cases hq : l.lookup y with
    | some v => exact ⟨wpAny_Name (class_load hk (isLocal_spec okL) D hq (h v s.toks hq)) ((sEq_beq ..).symm.trans (not_t okD)), fun _ => rfl⟩
    | none => exact absurd hq (lookup_some_of (sMem_iff.mp okM))
  | Constant c k p => exact ⟨wpAny_eval_const ok1 fun v tk hv => h v tk hv, fun _ => rfl⟩
  | _ => exact ff ok1
theorem class_elts {env : Env} {l : List (Str × Value)} (hk : env.scope.kind = .class) {pos : Pos} (es : List Expr) : ∀ (s : Shared) (Q : List Value → Shared → Prop), DictIs s.heap env.locals l →
    (es.all (okElt env.scope.names (l.map (·.1)))) = true → (∀ vs tk, EltsAre l es vs → Q vs { s with toks := tk }) → wpAny M A (spliced (backTo pos (starEach es env))) Q E s := by
  induction es with
  | nil => exact fun s Q _ _ h => wpAny_items_nil (h [] s.toks trivial)
  | cons e es ih =>
    intro s Q D ok h
    obtain ⟨ok1, ok2⟩ := and_t ok
    have x := class_elt (M := M) (A := A) (E := E) hk (Q := fun v s₁ => wpAny M A (spliced (backTo pos (starEach es env))) (fun vs s₂ => Q (v :: vs) s₂) E s₁) D ok1 fun v tk hv =>
      ih { s with toks := tk } _ D ok2 fun vs tk' hvs => h (v :: vs) tk' ⟨hv, hvs⟩
    exact wpAny_items_cons x.1 (x.2 es)
end
end Mine
set_option genSizeOf false
set_option genInjectivity false
set_option maxRecDepth 100000
namespace Mine
open PySem PySem.W PySem.Calls PyProof.Rows

/-- a value but for its token -/
inductive Kd where
  | fn | lst | tup
noncomputable def Kd.name : Kd → String
  | .fn => "function"
  | .lst => "list"
  | .tup => "tuple"
inductive SV where
  | ref (a : Addr) (k : Kd)
  | none
  | bool (b : Bool)
  | int (i : Int)
  | str (s : Str)
noncomputable def SV.Is : SV → Value → Prop
  | .ref a _, v => v = .ref a
  | .none, v => v = .none
  | .bool b, v => v = .bool b
  | .int i, v => ∃ t, v = .int i t
  | .str s, v => ∃ t, v = .str s t
noncomputable def constSV : Const → Option SV
  | .none => some .none
  | .bool b => some (.bool b)
  | .int i => some (.int i)
  | .str s => some (.str s)
  | _ => Option.none
theorem constSV_is {c : Const} {v : Value} {sv : SV} (h : constSV c = some sv) (hv : c.Val v) : sv.Is v := by
  cases c <;> cases h <;> exact hv
noncomputable def SVsAre : List (Str × SV) → List (Str × Value) → Prop
  | [], [] => True
  | p :: r, q :: r' => p.1 = q.1 ∧ p.2.Is q.2 ∧ SVsAre r r'
  | _, _ => False
theorem SVsAre.snoc {x : Str} {sv : SV} {v : Value} (h : sv.Is v) : ∀ {r : List (Str × SV)} {r' : List (Str × Value)}, SVsAre r r' → SVsAre (r ++ [(x, sv)]) (r' ++ [(x, v)])
  | [], [], _ => ⟨rfl, h, trivial⟩
  | [], _ :: _, q => q.elim
  | _ :: _, [], q => q.elim
  | _ :: r, _ :: r', q => ⟨q.1, q.2.1, SVsAre.snoc (r := r) (r' := r') h q.2.2⟩
theorem SVsAre.names : ∀ {r : List (Str × SV)} {r' : List (Str × Value)}, SVsAre r r' → r.map (·.1) = r'.map (·.1)
  | [], [], _ => rfl
  | [], _ :: _, q => q.elim
  | _ :: _, [], q => q.elim
  | _ :: r, _ :: r', q => congr (congrArg List.cons q.1) (SVsAre.names (r := r) (r' := r') q.2.2)

noncomputable def ObjsOK (n₀ : Nat) (h : Heap) (l : List (Str × SV)) : Prop := ∀ x a k, (x, SV.ref a k) ∈ l → n₀ ≤ a ∧ ∃ dat, h.get? a = some ⟨.type k.name, none, dat, #[]⟩
theorem ObjsOK.keep {n₀ : Nat} {h h' : Heap} {l : List (Str × SV)} (O : ObjsOK n₀ h l) (k : ∀ b o, n₀ ≤ b → h.get? b = some o → h'.get? b = some o) : ObjsOK n₀ h' l := fun x a kd hm => by
  obtain ⟨a1, dat, e⟩ := O x a kd hm
  exact ⟨a1, dat, k _ _ a1 e⟩
theorem ObjsOK.snoc {n₀ : Nat} {h : Heap} {l : List (Str × SV)} (O : ObjsOK n₀ h l) {x : Str} {sv : SV} (hs : ∀ a k, sv = .ref a k → n₀ ≤ a ∧ ∃ dat, h.get? a = some ⟨.type k.name, none, dat, #[]⟩) : ObjsOK n₀ h (l ++ [(x, sv)]) := fun y a kd hm => by
  rcases List.mem_append.mp hm with hm | hm
  · exact O y a kd hm
  · rcases List.mem_singleton.mp hm with e
    cases e
    exact hs a kd rfl

inductive StOK (n₀ : Nat) (h : Heap) (pm : Value) (qual : Str) (l : List (Str × Value)) : Stmt → Prop
  | def_ {name args body scope bind pos a dv dV c'} : l.lookup name = some (.ref a) → FnAt n₀ h a name (qual ++ name) args body scope pm dv dV c' →
      StOK n₀ h pm qual l (.FunctionDef name args body [] none [] scope none bind pos)
  | const {x p c k p2 p3 v} : l.lookup x = some v → c.Val v → StOK n₀ h pm qual l (.Assign [.Name x p] (.Constant c k p2) p3)
  | list {x p es p2 p3 a items} : l.lookup x = some (.ref a) → n₀ ≤ a → h.get? a = some { cls := .type "list", data := .seq (List.toArray items) } → EltsAre l es items → StOK n₀ h pm qual l (.Assign [.Name x p] (.List es p2) p3)

theorem lookup_more {l more : List (Str × Value)} {x : Str} {v : Value} (h : l.lookup x = some v) : (l ++ more).lookup x = some v := by
  rw [List.lookup_append, h]; rfl
theorem EltIs.more {l more : List (Str × Value)} {e : Expr} {v : Value} (h : EltIs l e v) : EltIs (l ++ more) e v := by
  cases e with
  | Name y p => exact lookup_more h
  | Constant c k p => exact h
  | _ => exact False.elim h
theorem EltsAre.more {l more : List (Str × Value)} : ∀ {es : List Expr} {vs : List Value}, EltsAre l es vs → EltsAre (l ++ more) es vs
  | [], [], _ => trivial
  | _ :: _, _ :: _, h => ⟨h.1.more, EltsAre.more h.2⟩
theorem StOK.keep {n₀ : Nat} {h h' : Heap} {pm : Value} {qual : Str} {l more : List (Str × Value)} {st : Stmt} (S : StOK n₀ h pm qual l st) (k : ∀ b o, n₀ ≤ b → h.get? b = some o → h'.get? b = some o) :
    StOK n₀ h' pm qual (l ++ more) st := by
  cases S with
  | def_ a f => exact .def_ (lookup_more a) (f.keep k)
  | const a c => exact .const (lookup_more a) c
  | list a n g e => exact .list (lookup_more a) n (k _ _ n g) e.more

structure Step where
  L : Nat
  n : Nat
  x : Str
  sv : SV
noncomputable def optB {α β : Type} (o : Option α) (k : α → Option β) : Option β := match o with
  | some a => k a
  | none => none
noncomputable def noB {β : Type} (c : Bool) (k : Option β) : Option β := match c with
  | true => none
  | false => k
theorem optB_iff {α β : Type} {o : Option α} {k : α → Option β} {b : β} (h : optB o k = some b) : ∃ a, o = some a ∧ k a = some b := by
  cases o with
  | none => exact none_some h
  | some a => exact ⟨a, rfl, h⟩
theorem noB_iff {β : Type} {c : Bool} {k : Option β} {b : β} (h : noB c k = some b) : c = false ∧ k = some b := by
  cases c with
  | true => exact none_some h
  | false => exact ⟨rfl, h⟩
noncomputable def orB {α β : Type} (o : Option α) (k : α → Option β) (d : Option β) : Option β := match o with
  | some a => k a
  | none => d
theorem orB_iff {α β : Type} {o : Option α} {k : α → Option β} {d : Option β} {b : β} (h : orB o k d = some b) : (∃ a, o = some a ∧ k a = some b) ∨ d = some b := by
  cases o with
  | none => exact .inr h
  | some a => exact .inl ⟨a, rfl, h⟩
structure FD where
  name : Str
  args : Arguments
  body : List Stmt
  scope : Scope
  pos : Pos
noncomputable def FD.st (f : FD) : Stmt := .FunctionDef f.name f.args f.body [] none [] f.scope none f.name f.pos
noncomputable def fdP : Stmt → Option FD
  | .FunctionDef name args body ds ret tps scope ts bind pos => if ds.isEmpty && ret.isNone && tps.isEmpty && ts.isNone && sEq bind name then some ⟨name, args, body, scope, pos⟩ else none
  | _ => none
theorem fdP_spec {st : Stmt} {f : FD} (h : fdP st = some f) : st = f.st := by
  cases st with
  | FunctionDef name args body ds ret tps scope ts bind pos =>
    obtain ⟨q, e⟩ := if_some rfl h
    obtain ⟨q, q5⟩ := and_t q
    obtain ⟨q, q4⟩ := and_t q
    obtain ⟨q, q3⟩ := and_t q
    obtain ⟨q1, q2⟩ := and_t q
    rw [nil_of q1, none_of q2, nil_of q3, none_of q4, sEq_iff.mp q5, ← some_eq e]
    rfl
  | _ => exact none_some h
noncomputable def one {α : Type} : List α → Option α
  | [a] => some a
  | _ => none
theorem one_eq {α : Type} {l : List α} {a : α} (h : one l = some a) : l = [a] := by
  cases l with
  | nil => exact none_some h
  | cons b r => cases r with
    | nil => cases some_eq h; rfl
    | cons _ _ => exact none_some h
noncomputable def nameQ : Expr → Option (Str × Pos)
  | .Name x p => some (x, p)
  | _ => none
noncomputable def nameP (ts : List Expr) : Option (Str × Pos) := optB (one ts) nameQ
theorem nameQ_eq {e : Expr} {q : Str × Pos} (h : nameQ e = some q) : e = .Name q.1 q.2 := by
  cases e with
  | Name x p => rw [← some_eq h]
  | _ => exact none_some h
theorem nameP_spec {ts : List Expr} {q : Str × Pos} (h : nameP ts = some q) : ts = [.Name q.1 q.2] :=
  let ⟨_, e, h⟩ := optB_iff h
  (one_eq e).trans (congrArg (fun x => [x]) (nameQ_eq h))
noncomputable def asP : Stmt → Option (Str × Pos × Expr × Pos)
  | .Assign ts e p => optB (nameP ts) fun q => some (q.1, q.2, e, p)
  | _ => none
theorem asP_spec {st : Stmt} {q : Str × Pos × Expr × Pos} (h : asP st = some q) : st = .Assign [.Name q.1 q.2.1] q.2.2.1 q.2.2.2 := by
  cases st with
  | Assign ts e p =>
    obtain ⟨r, h1, h2⟩ := optB_iff h
    rw [nameP_spec h1, ← some_eq h2]
  | _ => exact none_some h
inductive OkSt (names : List (Str × NameKind)) (L n : Nat) (bound : List Str) : Stmt → Step → Prop
  | def_ {name : Str} {args : Arguments} {body : List Stmt} {scope : Scope} {pos : Pos} : okDef args scope body = true → isLocal names name = true → sMem name bound = false → L ≤ pos.line →
      OkSt names L n bound (.FunctionDef name args body [] none [] scope none name pos) ⟨pos.line + 1, n + defSize args body, name, .ref (n + (defSize args body - 1)) .fn⟩
  | const {x : Str} {p₁ p p₃ : Pos} {c : Const} {k : Nat} {sv : SV} : (Expr.Constant c k p).isPlainConst = true → isLocal names x = true → sMem x bound = false → constSV c = some sv →
      OkSt names L n bound (.Assign [.Name x p₁] (.Constant c k p) p₃) ⟨L, n, x, sv⟩
  | list {x : Str} {p₁ p p₃ : Pos} {es : List Expr} : es.all (okElt names bound) = true → es.length ≤ 100000 → isLocal names x = true → sMem x bound = false → OkSt names L n bound (.Assign [.Name x p₁] (.List es p) p₃) ⟨L, n + 1, x, .ref n .lst⟩
noncomputable def okFd (names : List (Str × NameKind)) (L n : Nat) (bound : List Str) (f : FD) : Option Step :=
  if okDef f.args f.scope f.body && isLocal names f.name && !sMem f.name bound && Nat.ble L f.pos.line then some ⟨f.pos.line + 1, n + defSize f.args f.body, f.name, .ref (n + (defSize f.args f.body - 1)) .fn⟩ else none
noncomputable def okVal (names : List (Str × NameKind)) (L n : Nat) (bound : List Str) (x : Str) : Expr → Option Step
  | .Constant c k p => if (Expr.Constant c k p).isPlainConst && isLocal names x && !sMem x bound then (constSV c).map fun sv => ⟨L, n, x, sv⟩ else none
  | .List es _ => if es.all (okElt names bound) && Nat.ble es.length 100000 && isLocal names x && !sMem x bound then some ⟨L, n + 1, x, .ref n .lst⟩ else none
  | _ => none
noncomputable def okCls (names : List (Str × NameKind)) (L n : Nat) (bound : List Str) (st : Stmt) : Option Step := orB (fdP st) (okFd names L n bound) (optB (asP st) fun q => okVal names L n bound q.1 q.2.2.1)
theorem okVal_spec {names : List (Str × NameKind)} {L n : Nat} {bound : List Str} {x : Str} {p₁ p₃ : Pos} {v : Expr} {S : Step} (h : okVal names L n bound x v = some S) : OkSt names L n bound (.Assign [.Name x p₁] v p₃) S := by
  cases v with
  | Constant c k p =>
    obtain ⟨q, e⟩ := if_some rfl h
    obtain ⟨q, q3⟩ := and_t q
    obtain ⟨q1, q2⟩ := and_t q
    obtain ⟨sv, h1, h2⟩ := Option.map_eq_some_iff.mp e
    exact h2 ▸ .const q1 q2 (not_t q3) h1
  | List es p =>
    obtain ⟨q, e⟩ := if_some rfl h
    obtain ⟨q, q4⟩ := and_t q
    obtain ⟨q, q3⟩ := and_t q
    obtain ⟨q1, q2⟩ := and_t q
    exact some_eq e ▸ .list q1 (Nat.le_of_ble_eq_true q2) q3 (not_t q4)
  | _ => exact none_some h
theorem okFd_spec {names : List (Str × NameKind)} {L n : Nat} {bound : List Str} {f : FD} {S : Step} (h : okFd names L n bound f = some S) : OkSt names L n bound f.st S := by
  obtain ⟨q, e⟩ := if_some rfl h
  obtain ⟨q, q5⟩ := and_t q
  obtain ⟨q, q4⟩ := and_t q
  obtain ⟨q2, q3⟩ := and_t q
  exact some_eq e ▸ .def_ q2 q3 (not_t q4) (Nat.le_of_ble_eq_true q5)
theorem okCls_spec {names : List (Str × NameKind)} {L n : Nat} {bound : List Str} {st : Stmt} {S : Step} (h : okCls names L n bound st = some S) : OkSt names L n bound st S := by
  rcases orB_iff h with ⟨f, hf, h⟩ | h
  · rw [fdP_spec hf]; exact okFd_spec h
  · obtain ⟨q, hq, h⟩ := optB_iff h
    rw [asP_spec hq]; exact okVal_spec h
/-- the whole body: its names with their values, and the size behind it -/
noncomputable def okBody (names : List (Str × NameKind)) (L n : Nat) (bound : List (Str × SV)) : List Stmt → Option (Nat × List (Str × SV))
  | [] => some (n, bound)
  | st :: r => optB (okCls names L n (bound.map (·.1)) st) fun S => okBody names S.L S.n (bound ++ [(S.x, S.sv)]) r

section
variable {M : Model} {A : Around} {E : Value → Shared → Prop}
structure ClsR (n₀ n : Nat) (N c Pl : Addr) (mg : Str → Option Value) (pm : Value) (qual : Str) (h : Heap) (l : List (Str × Value)) (st : Stmt) (S : Step) (h₁ : Heap) (ps₁ : Array Value) (v : Value) : Prop where
  cb : CB n₀ S.n h₁ N c Pl mg (l ++ [(S.x, v)]) ps₁
  is : S.sv.Is v
  ob : ∀ a k, S.sv = .ref a k → n₀ ≤ a ∧ ∃ dat, h₁.get? a = some ⟨.type k.name, none, dat, #[]⟩
  tl : TL S.L ps₁.toList
  ok : StOK n₀ h₁ pm qual (l ++ [(S.x, v)]) st
  keep : Keeps2 N Pl h h₁
theorem constSV_ref {cc : Const} {sv : SV} (h : constSV cc = some sv) {a : Addr} {k : Kd} (e : sv = .ref a k) {P : Prop} : P := by subst e; cases cc <;> cases h
theorem lookup_last {l : List (Str × Value)} {x : Str} {v : Value} (hx : x ∉ l.map (·.1)) : (l ++ [(x, v)]).lookup x = some v := by
  rw [List.lookup_append, lookup_none_of hx, List.lookup_cons, beq_self_eq_true]; rfl
theorem class_put {env : Env} {n₀ n N c Pl : Addr} {mg : Str → Option Value} {pm : Value} {l : List (Str × Value)} {ps ps₁ : Array Value} {s : Shared} {st : Stmt} {S : Step} {Q : Unit → Shared → Prop} {hp : Heap} {tk : Nat} {v : Value} (hk : env.scope.kind = .class) (hN : env.locals = N)
    (B : CB n₀ n s.heap N c Pl mg l ps) (hsv : S.sv.Is v) (hob : ∀ a k, S.sv = .ref a k → n₀ ≤ a ∧ ∃ dat, hp.get? a = some ⟨.type k.name, none, dat, #[]⟩) (hb : hp.BuiltinsAt mg Pl) (D : DictIs hp N l) (hcode : hp.IsCode c Pl ps₁) (hg : hp.Ns mainGlobals mg)
    (hz : hp.objs.size = S.n) (hz2 : n ≤ S.n) (K : Keeps2 N Pl s.heap hp) (T₁ : TL S.L ps₁.toList) (hl : isLocal env.scope.names S.x = true) (hn : sMem S.x (l.map (·.1)) = false) (hS : ∀ h₁, (∀ b o, n₀ ≤ b → hp.get? b = some o → h₁.get? b = some o) → StOK n₀ h₁ pm env.qual (l ++ [(S.x, v)]) st)
    (rest : ∀ h₁ tk, ClsR n₀ n N c Pl mg pm env.qual s.heap l st S h₁ ps₁ v → Q () { s with heap := h₁, toks := tk }) : wpAny M A (storeName env S.x v) Q E { s with heap := hp, toks := tk } := by
  refine class_store (s := { s with heap := hp, toks := tk }) hk (isLocal_spec hl) (by rw [hN]; exact D) (sMem_false.mp hn) fun h₁ D₁ hs₁ => ?_
  rw [hN] at D₁ hs₁
  have K₁ : Keeps2 N Pl hp h₁ := fun b o h1 _ e => (hs₁.2 b h1).trans e
  have up : ∀ b o, n₀ ≤ b → hp.get? b = some o → h₁.get? b = some o := fun b o hb' e => (hs₁.2 b (Nat.ne_of_gt (Nat.lt_of_lt_of_le B.lN hb'))).trans e
  exact rest h₁ _ ⟨⟨D₁, hcode.sameBut hs₁ B.nc (Ne.symm B.nNP), hg.sameBut hs₁ B.nNG, BuiltinsAt.moved hb D K₁, by rw [hs₁.1]; exact hz, Nat.le_trans B.le hz2, B.lN, B.lP, B.nNP, B.nNG, B.nPG, B.nc⟩, hsv,
    fun a k e => ⟨(hob a k e).1, (hob a k e).2.imp fun dat g => up _ _ (hob a k e).1 g⟩, T₁, hS h₁ up, K.trans K₁⟩
theorem class_one {env : Env} {n₀ n N c Pl : Addr} {mg : Str → Option Value} {pm : Value} {L : Nat} {l : List (Str × Value)} {ps : Array Value} {s : Shared} {st : Stmt} {S : Step} {Q : Flow → Shared → Prop} (hk : env.scope.kind = .class) (hN : env.locals = N) (hG : env.globals = mainGlobals)
    (hc : env.code = .ref c) (hpm : (mg "__name__").getD .none = pm) (sp : OkSt env.scope.names L n (l.map (·.1)) st S) (B : CB n₀ n s.heap N c Pl mg l ps) (T : TL L ps.toList)
    (rest : ∀ h₁ ps₁ tk v, ClsR n₀ n N c Pl mg pm env.qual s.heap l st S h₁ ps₁ v → Q .next { s with heap := h₁, toks := tk }) : wpAny M A (exec st env) Q E s := by
  cases sp with
  | @def_ name args body scope pos q2 q3 q4 hL =>
    refine def_make q2 hG hc B.code (T.none hL) B.nPG B.g B.b fun c' dv dV h₁ tk hx hz F hok => ?_
    have K : Keeps2 N Pl s.heap h₁ := fun b o _ h2 e => hx b o h2 e
    rw [B.size] at hz F ⊢
    refine wpAny_bindName (class_put (S := ⟨pos.line + 1, n + defSize args body, name, .ref (n + (defSize args body - 1)) .fn⟩) hk hN B rfl (fun a k e => by cases e; exact ⟨Nat.le_trans B.le (Nat.le_add_right ..), _, F.fn⟩) (BuiltinsAt.moved B.b B.d K) (B.d.at fun o e => hx _ _ B.nNP e) hok (B.g.extBut hx B.nPG) hz (Nat.le_add_right ..) K ?_ q3 q4 (fun h₂ k₂ => ?_) fun h₁ tk => rest h₁ _ tk _)
    · have : (ps ++ #[rawInt ↑pos.line, rawInt ↑pos.col, Value.ref c']).toList = ps.toList ++ [rawInt ↑pos.line, rawInt ↑pos.col, Value.ref c'] := by simp
      rw [this]
      show TL (pos.line + 1) _
      exact T.snoc (by lia) (by lia)
    · have hq : qualnameIn env name name = env.qual ++ name := by
        unfold qualnameIn
        rw [show env.kindOf name = some .local from isLocal_spec q3]
        rfl
      rw [hq, hpm] at F
      exact .def_ (lookup_last (sMem_false.mp q4)) ((F.weaken B.le).keep k₂)
  | @const x p₁ p p₃ cc k sv q1 q2 q3 h1 =>
    refine wpAny_Assign_Name (wpAny_eval_const q1 fun v tk hv => ?_)
    exact class_put (S := ⟨L, n, x, sv⟩) (hp := s.heap) (tk := tk) hk hN B (constSV_is h1 hv) (fun a k e => constSV_ref h1 e) B.b B.d B.code B.g B.size (Nat.le_refl _) (Keeps2.refl _ _ _) T q2 q3 (fun h₂ k₂ => .const (lookup_last (sMem_false.mp q3)) hv) fun h₁ tk => rest h₁ _ tk _
  | @list x p₁ p p₃ es q1 q2 q3 q4 =>
    refine wpAny_Assign_Name (wpAny_List (class_elts hk es _ _ (by rw [hN]; exact B.d) q1 fun vs tk hvs => ⟨?_, ?_⟩))
    · rw [← hvs.length]
      exact Nat.le_trans q2 (by unfold sizeLine; lia)
    · have K : Keeps2 N Pl s.heap (s.heap.push { cls := .type "list", data := .seq vs.toArray }) := fun b o _ _ e => Heap.get?_push_of_some _ e
      exact class_put (S := ⟨L, n + 1, x, .ref n .lst⟩) (hp := s.heap.push { cls := .type "list", data := .seq vs.toArray }) (tk := tk) (v := .ref s.heap.objs.size) hk hN B (by rw [B.size]; rfl) (fun a k e => by cases e; exact ⟨B.le, _, by rw [← B.size]; exact Heap.get?_push_size _ rfl⟩) (BuiltinsAt.moved B.b B.d K) (B.d.at fun o e => Heap.get?_push_of_some _ e) (B.code.push _) (B.g.push _)
        (by rw [Heap.size_push, B.size]) (Nat.le_succ _) K T q3 q4 (fun h₂ k₂ => .list (lookup_last (sMem_false.mp q4)) (by rw [B.size]; exact B.le) (k₂ _ _ (by rw [B.size]; exact B.le) (Heap.get?_push_size _ rfl)) hvs.more) fun h₁ tk => rest h₁ _ tk _
theorem class_body {env : Env} {n₀ N c Pl : Addr} {mg : Str → Option Value} {pm : Value} (hk : env.scope.kind = .class) (hN : env.locals = N) (hG : env.globals = mainGlobals) (hc : env.code = .ref c) (hpm : (mg "__name__").getD .none = pm) {nf : Nat} {fin : List (Str × SV)} :
    ∀ (body : List Stmt) (L n : Nat) (sl : List (Str × SV)) (l : List (Str × Value)) (ps : Array Value) (s : Shared) (Q : Flow → Shared → Prop),
      okBody env.scope.names L n sl body = some (nf, fin) → SVsAre sl l → ObjsOK n₀ s.heap sl → CB n₀ n s.heap N c Pl mg l ps → TL L ps.toList →
      (∀ h' l' ps' tk more, CB n₀ nf h' N c Pl mg l' ps' → l' = l ++ more → SVsAre fin l' → ObjsOK n₀ h' fin → (∀ st ∈ body, StOK n₀ h' pm env.qual l' st) → Keeps2 N Pl s.heap h' → Q .next { s with heap := h', toks := tk }) →
      wpAny M A (execs body env) Q E s
  | [], L, n, sl, l, ps, s, Q, ok, SA, OB, B, T, h => by
    cases ok
    exact wpAny_execs_nil (h s.heap l ps s.toks [] B (by simp) SA OB (fun _ hm => (nomatch hm)) (Keeps2.refl _ _ _))
  | st :: r, L, n, sl, l, ps, s, Q, ok, SA, OB, B, T, h => by
    obtain ⟨S, e, ok⟩ := optB_iff ok
    rw [SA.names] at e
    refine wpAny_execs_cons (class_one hk hN hG hc hpm (okCls_spec e) B T fun h₁ ps₁ tk v X => ?_)
    refine class_body hk hN hG hc hpm r S.L S.n _ _ ps₁ { s with heap := h₁, toks := tk } Q ok (SA.snoc X.is) ((OB.keep (B.up X.keep)).snoc X.ob) X.cb X.tl fun h' l' ps' tk' more B' em ef ob hs K' => ?_
    refine h h' l' ps' tk' ([(S.x, v)] ++ more) B' (by rw [em, List.append_assoc]) ef ob (fun st' hm => ?_) (X.keep.trans K')
    refine (List.mem_cons.mp hm).elim (fun q => ?_) (hs st')
    rw [q, em]; exact X.ok.keep (X.cb.up K')
end
end Mine
set_option genSizeOf false
set_option genInjectivity false
set_option maxRecDepth 100000
namespace Mine
open PySem PySem.W PySem.Calls PyProof.Rows

/-! ## a runner of trees over objects that are written out -/
noncomputable def look : List (Addr × Obj) → Addr → Option Obj
  | [], _ => none
  | (b, o) :: r, a => match Nat.beq b a with
    | true => some o
    | false => look r a
noncomputable def putO (a : Addr) (f : Obj → Obj) : List (Addr × Obj) → List (Addr × Obj)
  | [] => []
  | (b, o) :: r => match Nat.beq b a with
    | true => (b, f o) :: r
    | false => (b, o) :: putO a f r
theorem look_put (a : Addr) (f : Obj → Obj) (b : Addr) : ∀ T, look (putO a f T) b = if b = a then (look T b).map f else look T b
  | [] => by simp [putO, look]
  | (c, o) :: r => by
    unfold putO
    cases h : Nat.beq c a with
    | true =>
      have := Nat.eq_of_beq_eq_true h
      subst this
      simp only [look]
      cases h2 : Nat.beq c b with
      | true => have := Nat.eq_of_beq_eq_true h2; simp [this]
      | false =>
        have : ¬ b = c := fun e => by rw [e, Nat.beq_refl] at h2; cases h2
        simp [this]
    | false =>
      simp only [look]
      rw [look_put a f b r]
      cases h2 : Nat.beq c b with
      | true =>
        have e := Nat.eq_of_beq_eq_true h2
        have : ¬ b = a := fun e2 => by rw [e, e2, Nat.beq_refl] at h; cases h
        simp [this]
      | false => rfl

structure RS where
  T : List (Addr × Obj)
  n : Nat
  tk : Nat

mutual
noncomputable def rn (den : Code → Sem Fin) (S : Setting) (lo : Nat) : Nat → (α : Type) → RS → Sem α → Option (Except Value α × RS)
  | 0, _, _, _ => none
  | n + 1, α, st, t => match t with
    | .pure a => some (.ok a, st)
    | .raise e => some (.error e, st)
    | .rule _ k => rn den S lo n α st (k ())
    | .at _ k => rn den S lo n α st (k ())
    | .point _ k => rn den S lo n α st (k ())
    | .load a _ k => optB (look st.T a) fun o => rn den S lo n α st (k o)
    | .update a _ f k => optB (look st.T a) fun o => noB ((f o).isFreed || Nat.blt a lo) (rn den S lo n α ⟨putO a f st.T, st.n, st.tk⟩ (k ()))
    | .alloc o k => noB o.isFreed (rn den S lo n α ⟨(st.n, o) :: st.T, st.n + 1, st.tk⟩ (k st.n))
    | .fresh k => rn den S lo n α ⟨st.T, st.n, st.tk + 1⟩ (k st.tk)
    | .ask k => rn den S lo n α st (k S)
    | .handled own k => noB own (rn den S lo n α st (k none))
    | .call c hd _ _ k => (match hd with
      | none => optB (rnC den S lo n st c) fun p => rn den S lo n α p.2 (k p.1)
      | some _ => none)
    | _ => none
noncomputable def rnC (den : Code → Sem Fin) (S : Setting) (lo : Nat) : Nat → RS → Code → Option (Result × RS)
  | 0, _, _ => none
  | n + 1, st, c => optB (rn den S lo n Fin st (den c)) fun p => match p.1 with
    | .ok (.done f) => some (.ok f, p.2)
    | .ok (.again c') => noB (!c'.quiet) (rnC den S lo n p.2 c')
    | .error e => some (.error e, p.2)
end

structure RepT (st : RS) (s : Shared) : Prop where
  own : ∀ a o, look st.T a = some o → s.heap.get? a = some o
  size : s.heap.objs.size = st.n
  toks : s.toks = st.tk
structure After (lo : Nat) (st st' : RS) (s s' : Shared) : Prop where
  gens : s'.gens = s.gens
  drawn : s'.drawn = s.drawn
  os : s'.os = s.os
  keep : ∀ b o, b < lo → s.heap.get? b = some o → s'.heap.get? b = some o
  le : st.n ≤ st'.n
theorem After.refl (lo : Nat) (st : RS) (s : Shared) : After lo st st s s := ⟨rfl, rfl, rfl, fun _ _ _ e => e, Nat.le_refl _⟩
theorem After.trans {lo : Nat} {st₁ st₂ st₃ : RS} {s₁ s₂ s₃ : Shared} (x : After lo st₁ st₂ s₁ s₂) (y : After lo st₂ st₃ s₂ s₃) : After lo st₁ st₃ s₁ s₃ :=
  ⟨y.gens.trans x.gens, y.drawn.trans x.drawn, y.os.trans x.os, fun b o h e => y.keep b o h (x.keep b o h e), Nat.le_trans x.le y.le⟩

theorem RepT.update {lo : Nat} {st : RS} {s : Shared} (R : RepT st s) {a : Addr} {o : Obj} {f : Obj → Obj} (h : look st.T a = some o) (hf : (f o).isFreed = false) (hlo : lo ≤ a) :
    RepT ⟨putO a f st.T, st.n, st.tk⟩ { s with heap := s.heap.update a f } ∧ After lo st ⟨putO a f st.T, st.n, st.tk⟩ s { s with heap := s.heap.update a f } := by
  have hs : Heap.SameBut a s.heap (s.heap.update a f) := Heap.SameBut.update ..
  refine ⟨⟨fun b o' e => ?_, hs.1.trans R.size, R.toks⟩, ⟨rfl, rfl, rfl, fun b o' e g => (hs.2 b (Nat.ne_of_lt (Nat.lt_of_lt_of_le e hlo))).trans g, Nat.le_refl _⟩⟩
  rw [look_put] at e
  split at e
  · rename_i q
    subst q
    rw [h] at e
    cases e
    exact Heap.get?_update_self _ (R.own _ _ h) hf
  · rename_i q
    exact (hs.2 b q).trans (R.own _ _ e)
theorem RepT.alloc {lo : Nat} {st : RS} {s : Shared} (R : RepT st s) {o : Obj} (hf : o.isFreed = false) :
    RepT ⟨(st.n, o) :: st.T, st.n + 1, st.tk⟩ { s with heap := s.heap.push o } ∧ After lo st ⟨(st.n, o) :: st.T, st.n + 1, st.tk⟩ s { s with heap := s.heap.push o } := by
  refine ⟨⟨fun b o' e => ?_, by rw [Heap.size_push, R.size], R.toks⟩, ⟨rfl, rfl, rfl, fun b o' e g => Heap.get?_push_of_some _ g, Nat.le_succ _⟩⟩
  simp only [look] at e
  split at e
  · rename_i q
    have := Nat.eq_of_beq_eq_true q
    subst this
    cases e
    rw [← R.size]; exact Heap.get?_push_size _ hf
  · exact Heap.get?_push_of_some _ (R.own _ _ e)
theorem RepT.fresh {lo : Nat} {st : RS} {s : Shared} (R : RepT st s) : RepT ⟨st.T, st.n, st.tk + 1⟩ { s with toks := s.toks + 1 } ∧ After lo st ⟨st.T, st.n, st.tk + 1⟩ s { s with toks := s.toks + 1 } :=
  ⟨⟨R.own, R.size, by simp only [R.toks]⟩, ⟨rfl, rfl, rfl, fun _ _ _ e => e, Nat.le_refl _⟩⟩

noncomputable def endR {α : Type} (Q : α → Shared → Prop) (E : Value → Shared → Prop) : Except Value α → Shared → Prop
  | .ok a, s => Q a s
  | .error e, s => E e s

theorem under_handled (A : Around) (c : Code) : (A.under c).handled = A.handled := rfl

theorem rn_sound {prog : Program} {w : World} {lo : Nat} : ∀ n,
    (∀ (α : Type) (st : RS) (t : Sem α) (r : Except Value α) (st' : RS), rn (denote treeTable) ⟨prog, w.params⟩ lo n α st t = some (r, st') →
      ∀ (A : Around) (s : Shared) (Q : α → Shared → Prop) (E : Value → Shared → Prop), A.handled = none → RepT st s →
        (∀ s', RepT st' s' → After lo st st' s s' → endR Q E r s') → wpAny (model prog w) A t Q E s) ∧
    (∀ (st : RS) (c : Code) (r : Result) (st' : RS), rnC (denote treeTable) ⟨prog, w.params⟩ lo n st c = some (r, st') →
      ∀ (A : Around) (s : Shared) (R : Result → Shared → Prop), A.handled = none → RepT st s →
        (∀ s', RepT st' s' → After lo st st' s s' → R r s') → codeAny (model prog w) A c R s)
  | 0 => ⟨fun _ _ _ _ _ h => (nomatch h), fun _ _ _ _ h => (nomatch h)⟩
  | n + 1 => by
    obtain ⟨ih, ihC⟩ := rn_sound (prog := prog) (w := w) (lo := lo) n
    refine ⟨fun α st t r st' h A s Q E hA R k => ?_, fun st c r st' h A s Rr hA R k => ?_⟩
    · have step : ∀ {st₁ : RS} {s₁ : Shared} {t₁ : Sem α}, RepT st₁ s₁ → After lo st st₁ s s₁ → rn (denote treeTable) ⟨prog, w.params⟩ lo n α st₁ t₁ = some (r, st') → wpAny (model prog w) A t₁ Q E s₁ :=
        fun R₁ a₁ e => ih α _ _ r st' e A _ Q E hA R₁ fun s' R' a' => k s' R' (a₁.trans a')
      cases t with
      | pure a => cases h; exact wpAny_pure (k s R (After.refl _ _ _))
      | raise e => cases h; exact wpAny_throw (k s R (After.refl _ _ _))
      | rule _ f => exact step (t₁ := f ()) R (After.refl _ _ _) h
      | «at» p f => exact fun Γ q hΓ => step R (After.refl _ _ _) h Γ p hΓ
      | point _ f => exact step (t₁ := f ()) R (After.refl _ _ _) h
      | load a _ f =>
        obtain ⟨o, ho, h⟩ := optB_iff h
        exact nd_load (R.own _ _ ho) (step R (After.refl _ _ _) h)
      | update a part f kk =>
        obtain ⟨o, ho, h⟩ := optB_iff h
        obtain ⟨hf, h⟩ := noB_iff h
        rw [Bool.or_eq_false_iff] at hf
        obtain ⟨R₁, a₁⟩ := R.update (lo := lo) ho hf.1 (Nat.le_of_not_lt fun q => by have : Nat.blt a lo = true := Nat.ble_eq_true_of_le q; rw [this] at hf; cases hf.2)
        intro Γ q hΓ
        rw [Sem.wp_update]
        exact ⟨by rw [R.own _ _ ho]; rfl, step R₁ a₁ h Γ q hΓ⟩
      | alloc o kk =>
        obtain ⟨hf, h⟩ := noB_iff h
        obtain ⟨R₁, a₁⟩ := R.alloc (lo := lo) hf
        refine nd_alloc ?_
        rw [R.size]
        exact step R₁ a₁ h
      | fresh kk =>
        obtain ⟨R₁, a₁⟩ := R.fresh (lo := lo)
        refine nd_fresh ?_
        rw [R.toks]
        rw [R.toks] at R₁ a₁
        exact step R₁ a₁ h
      | ask kk => exact step (t₁ := kk ⟨prog, w.params⟩) R (After.refl _ _ _) h
      | handled own kk =>
        cases own with
        | true => cases h
        | false =>
          intro Γ q hΓ
          rw [Sem.wp_handled]
          have : (if false = true then Γ.own else Γ.handled) = none := by rw [if_neg Bool.false_ne_true, hΓ.1, hA]
          rw [this]
          exact step R (After.refl _ _ _) h Γ q hΓ
      | call c hd g l kk =>
        cases hd with
        | some e => cases h
        | none =>
          obtain ⟨⟨r₁, st₁⟩, e₁, h⟩ := optB_iff h
          intro Γ q hΓ
          rw [Sem.wp_call]
          have hc := ihC st c r₁ st₁ e₁ A s (fun r s' => wpAny (model prog w) A (kk r) Q E s') hA R fun s' R' a' => step R' a' h
          refine wpCode_mono (fun r s' z => z Γ q hΓ) (hc (Γ.enter c none q) q rfl ?_)
          exact hΓ.enter c none q (by intro x; cases x)
      | _ => exact (nomatch h)
    · obtain ⟨⟨r₁, st₁⟩, e₁, h⟩ := optB_iff h
      refine codeAny_of_tree ?_
      have den : (model prog w).den = denote treeTable := by show denote table = _; rw [table_eq_tree]
      rw [den]
      refine ih Fin _ _ _ _ e₁ _ s _ _ hA R fun s' R' a' => ?_
      cases r₁ with
      | error e => cases h; exact k s' R' a'
      | ok fin => cases fin with
        | done f => cases h; exact k s' R' a'
        | again c' =>
          obtain ⟨hq, h⟩ := noB_iff h
          have hq : c'.quiet = true := by cases hc : c'.quiet with
            | true => rfl
            | false => rw [hc] at hq; cases hq
          exact ⟨hq, ihC _ _ _ _ h A s' Rr hA R' fun s'' R'' a'' => k s'' R'' (a'.trans a'')⟩
end Mine
set_option genSizeOf false
set_option genInjectivity false
set_option maxRecDepth 100000
namespace Mine
open PySem PySem.W PySem.Calls PyProof.Rows

section
variable {M : Model} {A : Around} {E : Value → Shared → Prop} {s : Shared}
theorem newCodeE0 {ctx : CodeContext} {name qualname : Str} {firstLine argc posonly kwonly flags : Nat} {free : List Str} {isFunction : Bool} {Q : Value → Shared → Prop}
    (hQ : ∀ c P h' tk, c = s.heap.objs.size + 2 → (∀ b o, s.heap.get? b = some o → h'.get? b = some o) → h'.objs.size = s.heap.objs.size + 3 → P = s.heap.objs.size + 1 → h'.IsCode c P #[] → Q (.ref c) { s with heap := h', toks := tk }) :
    wpAny M A (newCode ctx name qualname firstLine argc posonly kwonly flags free isFunction none none none) Q E s := by
  unfold newCode
  refine wpAny_bind (wpAny_mkText (wpAny_bind (wpAny_mkText (wpAny_bind (wpAny_mkText (wpAny_bind (wpAny_mkStrs fun fs =>
    wpAny_bind (wpAny_newObjAsIs_type (wpAny_bind (wpAny_alloc ?_))))))))))
  generalize hH : (s.heap.push { cls := .type "tuple", dict := none, data := .seq fs.toArray }) = H
  have hz : H.objs.size = s.heap.objs.size + 1 := by rw [← hH, Heap.size_push]
  have hk : ∀ b o, s.heap.get? b = some o → H.get? b = some o := fun b o e => hH ▸ Heap.get?_push_of_some _ e
  have hPl : (H.push { cls := .none, data := .fields #[] }).get? H.objs.size = some { cls := .none, data := .fields #[] } := Heap.get?_push_size _ rfl
  refine wpAny_bind (wpAny_pure (wpAny_bind (wpAny_pure (wpAny_bind (wpAny_pure (wpAny_bind (wpAny_fresh (wpAny_bind (wpAny_mkText (wpAny_newObj_type ?_ (by size_fits)))))))))))
  exact hQ _ H.objs.size _ _ (by rw [Heap.size_push, hz]) (fun b o e => Heap.get?_push_of_some _ (Heap.get?_push_of_some _ (hk b o e))) (by rw [Heap.size_push, Heap.size_push, hz]) hz
    (ofC ⟨_, _, _, _, _, _, _, _, _, _, Heap.get?_push_size _ rfl, rfl, rfl, rfl, rfl, rfl, rfl, Heap.get?_push_of_some _ hPl, rfl, trivial, by rw [Heap.size_push]; exact Nat.succ_ne_self _⟩)

theorem classCodeE {env : Env} {c P : Addr} {ps : Array Value} {pos : Pos} {firstLine : Nat} {name qualname : Str} {scope : Scope}
    {Q : Value → Shared → Prop} (hc : env.code = .ref c) (hok : s.heap.IsCode c P ps) (hnf : codeAmong pos ps.toList = none)
    (hQ : ∀ c' P' h' tk, c' = s.heap.objs.size + 2 → P' = s.heap.objs.size + 1 → Heap.ExtBut P s.heap h' → h'.objs.size = s.heap.objs.size + 3 → h'.IsCode c P (ps ++ #[rawInt pos.line, rawInt pos.col, .ref c']) → h'.IsCode c' P' #[] →
      Q (.ref c') { s with heap := h', toks := tk }) :
    wpAny M A (classCode env pos firstLine name qualname scope) Q E s := by
  unfold classCode
  refine codeAtE (X := fun c' h' => c' = s.heap.objs.size + 2 ∧ h'.objs.size = s.heap.objs.size + 3 ∧ h'.IsCode c' (s.heap.objs.size + 1) #[]) hc hok hnf (fun ctx Q' h => newCodeE0 fun c' P' h' tk ec hk hz eP hcode' => ?_) fun c' h' h'' tk hc' hP x sb ex ok => ?_
  · subst eP
    exact h c' h' tk (by rw [ec]; exact Nat.le_add_right ..) hk ⟨ec, hz, hcode'⟩
  · exact hQ c' _ h'' tk x.1 rfl ex (sb.1.trans x.2.1) ok (codeKeep x.2.2 (SameBut.ne sb (Nat.ne_of_gt (Nat.lt_of_lt_of_le hP hc'))) (SameBut.ne sb (Nat.ne_of_gt (Nat.lt_of_lt_of_le hP (Nat.le_succ _)))))

theorem class_store0 {env : Env} {x : Str} {v : Value} {l : List (Str × Value)} {Q : Unit → Shared → Prop} (hk : env.scope.kind = .class) (hl : env.kindOf x = none) (hx : compilersOwnNames.contains x = true)
    (D : DictIs s.heap env.locals l) (hn : x ∉ l.map (·.1)) (h : ∀ h', DictIs h' env.locals (l ++ [(x, v)]) → Heap.SameBut env.locals s.heap h' → Q () { s with heap := h', toks := s.toks + 1 }) :
    wpAny M A (storeName env x v) Q E s := by
  have e : storeName env x v = localSet env x v := by
    simp only [storeName, hl, hk, Env.blockKind, ScopeKind.isAnnotationScope, hx]
    rfl
  rw [e]
  unfold localSet
  have D' := D
  obtain ⟨es, n, ho, _⟩ := D'
  refine wpAny_bind (wpAny_load ho ?_)
  exact nsSet_new D hn h
theorem class_load0 {env : Env} {x : Str} {v : Value} {l : List (Str × Value)} {mg} {Q : Value → Shared → Prop} (hk : env.scope.kind = .class) (hl : env.kindOf x = none) (hx : compilersOwnNames.contains x = true)
    (D : DictIs s.heap env.locals l) (hn : x ∉ l.map (·.1)) (hg : s.heap.Ns env.globals mg) (hv : mg x = some v) (h : Q v s) : wpAny M A (loadName env x) Q E s := by
  obtain ⟨es, n, ho, _⟩ := id D
  simp only [loadName, hl, hk, Env.blockKind, ScopeKind.isAnnotationScope, Bool.false_and, Bool.false_eq_true, if_false, hx, Bool.not_true]
  refine wpAny_bind ?_
  unfold localGet
  refine wpAny_bind (wpAny_load ho ?_)
  refine nsGet_dict D ?_
  rw [lookup_none_of hn]
  refine wpAny_bind (wpAny_nsGet hg ?_)
  rw [hv]
  exact wpAny_pure h
end

section
variable {prog : Program} {w : World} {A : Around} {E : Value → Shared → Prop} {s : Shared}
theorem by_rn {α : Type} {t : Sem α} {T : List (Addr × Obj)} {lo fuel n : Nat} {r : α} {st' : RS} {Q : α → Shared → Prop}
    (h : rn (denote treeTable) ⟨prog, w.params⟩ lo fuel α ⟨T, n, s.toks⟩ t = some (.ok r, st')) (hz : s.heap.objs.size = n) (own : ∀ a o, look T a = some o → s.heap.get? a = some o) (hA : A.handled = none)
    (k : ∀ h', (∀ a o, look st'.T a = some o → h'.get? a = some o) → h'.objs.size = st'.n → (∀ b o, b < lo → s.heap.get? b = some o → h'.get? b = some o) → Q r { s with heap := h', toks := st'.tk }) :
    wpAny (model prog w) A t Q E s := by
  refine (rn_sound fuel).1 α _ t _ _ h A s Q E hA ⟨own, hz, rfl⟩ fun s' R a => ?_
  obtain ⟨hp, g, d, tk, os⟩ := s'
  have := k hp R.own R.size a.keep
  have e1 : g = s.gens := a.gens
  have e2 : d = s.drawn := a.drawn
  have e3 : os = s.os := a.os
  have e4 : tk = st'.tk := R.toks
  subst e1 e2 e3 e4
  exact this

noncomputable def prepObj : Obj := ⟨.type "builtin_function_or_method", none, .fields #[.builtin "type.__prepare__", .type "type"], #[]⟩
theorem prep_get (S : Setting) (tk : Nat) : rn (denote treeTable) S 23 300 (Option Value) ⟨[], 23, tk⟩ (getAttr? (.type "type") "__prepare__") = some (.ok (some (.ref 23)), ⟨[(23, prepObj)], 24, tk + 1⟩) := by kernel_rfl
noncomputable def nsObj : Obj := ⟨.type "dict", none, .dict #[] 0, #[]⟩
theorem prep_call (S : Setting) (tk t : Nat) (x : Str) : rn (denote treeTable) S 24 300 Value ⟨[(23, prepObj)], 24, tk⟩ (call (.ref 23) [.str x t, .ref 22] []) = some (.ok (.ref 24), ⟨[(24, nsObj), (23, prepObj)], 25, tk⟩) := by kernel_rfl
theorem prep_item (S : Setting) (tk : Nat) : rn (denote treeTable) S 25 300 (Option Value) ⟨[(24, nsObj)], 25, tk⟩ (specialOf (.ref 24) "__getitem__") = some (.ok (some (.builtin "dict.__getitem__")), ⟨[(24, nsObj)], 25, tk⟩) := by kernel_rfl
end
end Mine
set_option genSizeOf false
set_option genInjectivity false
set_option maxRecDepth 100000
namespace Mine
open PySem PySem.W PySem.Calls PyProof.Rows

/-- the call of type: what comes out -/
structure TypeRun (prog : Program) (w : World) (n : Nat) (sl : List (Str × SV)) (l : List (Str × Value)) (cname : Str) (C : Addr) (P : Heap → Prop) : Prop where
  go : ∀ (A : Around) (s : Shared) (t : Nat) (Q : Value → Shared → Prop) (E : Value → Shared → Prop), A.handled = none → s.heap.objs.size = n → DictIs s.heap 24 l → ObjsOK 29 s.heap sl → s.heap.get? 22 = some ⟨.type "tuple", none, .seq #[] 0, #[]⟩ →
    s.heap.get? cStatics = some ⟨.none, none, .dict #[] 0, #[]⟩ →
    (∀ h' tk, P h' → (∀ b o, b < n → s.heap.get? b = some o → h'.get? b = some o) → n ≤ h'.objs.size → Q (.ref C) { s with heap := h', toks := tk }) →
    wpAny (model prog w) A (call (.type "type") [.str cname t, .ref 22, .ref 24] []) Q E s

theorem mapM_strs {M : Model} {A : Around} {E : Value → Shared → Prop} : ∀ (l : List Str) (s : Shared) (Q : List Value → Shared → Prop), (∀ x ∈ l, x.length ≤ sizeLine) → (∀ vs, vs.length = l.length → Q vs { s with toks := s.toks + l.length }) → wpAny M A (l.mapM mkText) Q E s
  | [], s, Q, _, h => by rw [List.mapM_nil]; exact wpAny_pure (h [] rfl)
  | x :: l, s, Q, hx, h => by
    rw [List.mapM_cons]
    refine wpAny_bind (wpAny_mkText (wpAny_bind (mapM_strs l _ _ (fun y hy => hx y (.tail _ hy)) fun vs hv => wpAny_pure ?_)))
    have := h (.str x s.toks :: vs) (by simp [hv])
    simpa only [List.length_cons, Nat.add_assoc, Nat.add_comm 1] using this

noncomputable def statS (n : Nat) : List (Str × SV) := [(Str.ofString "__static_attributes__", SV.ref n .tup)]
noncomputable def headS (xn qual : Str) (fl : Nat) : List (Str × SV) := [(Str.ofString "__module__", SV.str xn), (Str.ofString "__qualname__", SV.str qual), (Str.ofString "__firstlineno__", SV.int fl)]
section
variable {prog : Program} {w : World} {A : Around} {E : Value → Shared → Prop} {s : Shared}

structure ClsArgs (scope : Scope) (body : List Stmt) (names : List (Str × NameKind)) : Prop where
  kind : scope.kind = .class
  names : scope.names = names
  nocell : ∀ x ∈ scope.names, x.2 ≠ .free ∧ x.2 ≠ .cell
  own : ∀ x ∈ (["__name__", "__module__", "__qualname__", "__firstlineno__", "__static_attributes__", "__class__", "__classdict__"] : List Str), scope.names.lookup x = none
  ann : hasAnns body = false
  doc : docOf body = none

theorem build_class {name qual : Str} {body : List Stmt} {scope : Scope} {statics : List Str} {firstLine : Nat} {env : Env} {pos : Pos} {Q : Value → Shared → Prop} {names : List (Str × NameKind)}
    {c Pl : Addr} {ps : Array Value} {mg : Str → Option Value} {xn : Str} {tn : Nat} {nf : Nat} {fin : List (Str × SV)} {C : Addr} {P : List (Str × Value) → Heap → Prop}
    (K : ClsArgs scope body names) (hz : s.heap.objs.size = 22) (hA : A.handled = none) (hroom : A.depth + 1 < recursionLimit) (hlim : s.heap.NoLimit)
    (hgl : env.globals = mainGlobals) (hcode : env.code = .ref c) (hok : s.heap.IsCode c Pl ps) (hnf : codeAmong pos ps.toList = none) (hg : s.heap.Ns mainGlobals mg) (hPl : mainGlobals ≠ Pl ∧ cStatics ≠ Pl)
    (hb : s.heap.BuiltinsAt mg Pl) (hname : mg "__name__" = some (.str xn tn)) (hst : s.heap.get? cStatics = some ⟨.none, none, .dict #[] 0, #[]⟩)
    (hbody : okBody names 0 29 (headS xn qual firstLine) body = some (nf, fin)) (hstat : ∀ x ∈ statics, x.length ≤ sizeLine) (hfin : sMem "__static_attributes__" (fin.map (·.1)) = false)
    (hty : ∀ l, SVsAre (fin ++ statS nf) l → TypeRun prog w (nf + 1) (fin ++ statS nf) l name C (P l))
    (h : ∀ h' l tk, P l h' → SVsAre (fin ++ statS nf) l → (∀ st ∈ body, StOK 29 h' (.str xn tn) (qual ++ ".") l st) → (∀ b o, b < 22 → b ≠ Pl → s.heap.get? b = some o → h'.get? b = some o) →
      (∃ c', h'.IsCode c Pl (ps ++ #[rawInt pos.line, rawInt pos.col, .ref c'])) → nf + 1 ≤ h'.objs.size → Q (.ref C) { s with heap := h', toks := tk }) :
    wpAny (model prog w) A (buildClass name qual [] [] body scope statics firstLine env pos none) Q E s := by
  unfold buildClass
  refine wpAny_bind (wpAny_newObj_type ?_ (by size_fits))
  refine wpAny_bind (wpAny_pure (a := (([] : List Value), false)) ?_)
  refine wpAny_bind (wpAny_pure (a := Value.type "type") ?_)
  refine wpAny_bind (wpAny_pure (a := true) ?_)
  refine wpAny_ite_true rfl ?_
  refine wpAny_bind (wpAny_pure (a := Value.type "type") ?_)
  refine wpAny_bind (wpAny_mkText ?_)
  refine wpAny_ite_false rfl ?_
  refine wpAny_bind (wpAny_pure (a := Value.ref s.heap.objs.size) ?_)
  refine wpAny_holding (wpAny_bind ?_)
  have h22 : (s.heap.push { cls := Value.type "tuple", data := .seq #[] }).get? 22 = some ⟨.type "tuple", none, .seq #[] 0, #[]⟩ := hz ▸ Heap.get?_push_size _ rfl
  have k22 : ∀ b o, s.heap.get? b = some o → (s.heap.push { cls := Value.type "tuple", data := .seq #[] }).get? b = some o := fun b o e => Heap.get?_push_of_some _ e
  have z22 : (s.heap.push { cls := Value.type "tuple", data := .seq #[] }).objs.size = 23 := by rw [Heap.size_push, hz]
  have lt22 : ∀ b o, s.heap.get? b = some o → b < 22 := fun b o e => hz ▸ Heap.lt_size e
  rw [hz]
  generalize (s.heap.push { cls := Value.type "tuple", data := .seq #[] }) = h1 at *
  refine by_rn (prep_get _ _) z22 (fun _ _ e => (nomatch e)) hA fun h2 own2 z2 k2 => ?_
  dsimp only at own2 z2
  refine wpAny_bind (by_rn (prep_call _ _ _ _) z2 own2 hA fun h3 own3 z3 k3 => ?_)
  dsimp only at own3 z3 k3
  refine wpAny_bind (wpAny_pure ?_)
  refine wpAny_bind (by_rn (T := [(24, nsObj)]) (prep_item _ _) z3 (fun a o e => own3 a o (by
    simp only [look] at e ⊢
    split at e
    · exact e
    · cases e)) hA fun h4 own4 z4 k4 => ?_)
  dsimp only at own4 z4 k4
  refine wpN (by decide) ?_
  refine wpAny_holding ?_
  have nc : ∀ x : Str, scope.names.lookup x = none → (scope.names.lookup x == some NameKind.cell) = false := fun x e => by rw [e]; rfl
  refine wpF (nc _ (K.own "__class__" (by decide +kernel))) ?_
  refine wpAny_bind (wpAny_pure (a := (Option.none : Option Addr)) ?_)
  refine wpF (nc _ (K.own "__classdict__" (by decide +kernel))) ?_
  refine wpAny_bind (wpAny_pure (a := (Option.none : Option Addr)) ?_)
  have kk : ∀ b o, s.heap.get? b = some o → h4.get? b = some o := fun b o e =>
    have hb : @LT.lt Nat _ b 22 := lt22 b o e
    k4 b o (by lia) (k3 b o (by lia) (k2 b o (by lia) (k22 b o e)))
  have h24 : h4.get? 24 = some nsObj := own4 24 _ rfl
  have g22 : h4.get? 22 = some ⟨.type "tuple", none, .seq #[] 0, #[]⟩ := k4 _ _ (by lia) (k3 _ _ (by lia) (k2 _ _ (by lia) h22))
  have hPlt : Pl < 22 := hz ▸ hok.lt.2
  refine wpAny_bind (classCodeE (s := { s with heap := h4, toks := s.toks + 1 + 1 }) hcode (hok.keeps kk) hnf fun c' P' h5 tk5 ec eP x5 z5 hok5 hcode5 => ?_)
  dsimp only at ec eP x5 z5 ⊢
  rw [z4] at ec eP z5
  have hb4 := hb.keeps kk
  obtain ⟨bm, o, hbm, hne0, hneG, hneP, hbo, hcls, hdict, hdata⟩ := hb4
  have hg5 := (hg.keeps kk).extBut x5 hPl.1
  refine wpAny_bind (wpAny_builtinsFor (by rw [hgl]; exact hg5) hbm hne0 (x5 _ _ hneP hbo) hcls hdict hdata ?_)
  unfold newBodyFrame
  refine wpAny_bind (wpAny_bind (wpAny_nsGet (by rw [hgl]; exact hg5) (wpAny_alloc ?_)))
  have hcl : closureFor scope env = pure [] := closureFor_none fun x hx => (K.nocell x hx).1
  refine wpAny_bind (wpEq hcl (wpAny_pure ?_))
  have z5' : h5.objs.size = 28 := z5
  have hP24 : 24 ≠ Pl := Nat.ne_of_gt (Nat.lt_trans hPlt (by decide))
  -- the frame
  generalize hf6 : h5.push _ = h6
  have k6 : ∀ b o, b ≠ Pl → h4.get? b = some o → h6.get? b = some o := fun b o hb e => by rw [← hf6]; exact Heap.get?_push_of_some _ (x5 _ _ hb e)
  have z6 : h6.objs.size = 29 := by rw [← hf6, Heap.size_push, z5']
  have hok6 : h6.IsCode c Pl (ps ++ #[rawInt pos.line, rawInt pos.col, .ref c']) := by rw [← hf6]; exact hok5.push _
  have hcode6 : h6.IsCode c' P' #[] := by rw [← hf6]; exact hcode5.push _
  have D6 : DictIs h6 24 [] := ⟨#[], 0, k6 _ _ hP24 h24, .nil⟩
  have g6 : h6.Ns mainGlobals mg := by rw [← hf6]; exact hg5.push _
  have b6 : h6.BuiltinsAt mg Pl := ⟨bm, o, hbm, hne0, hneG, hneP, k6 _ _ hneP hbo, hcls, hdict, hdata⟩
  have lim6 : h6.NoLimit := by
    obtain ⟨mc, a, b⟩ := hlim
    exact ⟨mc, a.at fun o e => k6 _ _ hPl.2 (kk _ _ e), b⟩
  refine wpAny_holding (wpAny_bind (wpAny_enterFrame lim6 (Nat.lt_of_succ_lt hroom) ?_))
  rw [z5']
  dsimp only [Option.map, Option.toList, List.nil_append]
  generalize hce : ({ scope := scope, locals := 24, globals := env.globals, cells := [], qual := qual ++ Str.ofString ".", code := Value.ref c', frame := some 28, builtins := builtinsNs } : Env) = cenv
  have ce1 : cenv.scope = scope := by rw [← hce]
  have ce2 : cenv.locals = 24 := by rw [← hce]
  have ce3 : cenv.globals = mainGlobals := by rw [← hce]; exact hgl
  have ce4 : cenv.code = .ref c' := by rw [← hce]
  have ce5 : cenv.qual = qual ++ Str.ofString "." := by rw [← hce]
  have kof : ∀ x : Str, x ∈ (["__name__", "__module__", "__qualname__", "__firstlineno__", "__static_attributes__", "__class__", "__classdict__"] : List Str) → cenv.kindOf x = none := fun x hx => by
    unfold Env.kindOf; rw [ce1]; exact K.own x hx
  have kcl : cenv.scope.kind = .class := by rw [ce1]; exact K.kind
  have nG24 : mainGlobals ≠ (24 : Addr) := by decide
  have nC24 : cStatics ≠ (24 : Addr) := by decide
  refine wpAny_bind (wpAny_onRaise ?_)
  refine wpAny_bind (class_load0 (s := { s with heap := h6, toks := tk5 }) (l := []) kcl (kof _ (by decide +kernel)) (by decide +kernel) (by rw [ce2]; exact D6) (fun h => (nomatch h)) (by rw [ce3]; exact g6) hname ?_)
  refine wpAny_bind (class_store0 (s := { s with heap := h6, toks := tk5 }) (l := []) kcl (kof _ (by decide +kernel)) (by decide +kernel) (by rw [ce2]; exact D6) (fun h => (nomatch h)) fun h7 D7 s7 => ?_)
  refine wpAny_bind (wpAny_mkText ?_)
  refine wpAny_bind (class_store0 (s := { s with heap := h7, toks := tk5 + 1 + 1 }) (l := [("__module__", .str xn tn)]) kcl (kof _ (by decide +kernel)) (by decide +kernel) D7 (sMem_false.mp (show sMem (Str.ofString "__qualname__") [Str.ofString "__module__"] = false from by decide +kernel)) fun h8 D8 s8 => ?_)
  refine wpAny_bind (wpAny_mkInt ?_)
  refine wpAny_bind (class_store0 (s := { s with heap := h8, toks := tk5 + 1 + 1 + 1 + 1 }) (l := [("__module__", .str xn tn), ("__qualname__", .str qual (tk5 + 1))]) kcl (kof _ (by decide +kernel)) (by decide +kernel) D8 (sMem_false.mp (show sMem (Str.ofString "__firstlineno__") [Str.ofString "__module__", Str.ofString "__qualname__"] = false from by decide +kernel)) fun h9 D9 s9 => ?_)
  refine wpAny_pure ?_
  rw [ce2] at D9 s7 s8 s9
  have s79 : Heap.SameBut 24 h6 h9 := (s7.trans s8).trans s9
  have nPl : Pl ≠ 24 := Ne.symm hP24
  have hc24 : c ≠ 24 := Nat.ne_of_lt (Nat.lt_trans (hz ▸ hok.lt.1) (by decide))
  refine wpAny_bind (wpAny_run (codeAny_body K.ann K.doc ?_))
  have CB9 : CB 29 29 h9 24 c' P' mg [("__module__", .str xn tn), ("__qualname__", .str qual (tk5 + 1)), ("__firstlineno__", .int firstLine (tk5 + 1 + 1 + 1))] #[] := by
    refine ⟨D9, hcode6.sameBut s79 (by rw [ec]; decide) (by rw [eP]; decide), g6.sameBut s79 nG24, ?_, by rw [s79.1, z6], Nat.le_refl _, by decide, by rw [eP]; decide, by rw [eP]; decide, nG24, by rw [eP]; decide, by rw [ec]; decide⟩
    refine ⟨bm, o, hbm, hne0, hneG, ?_, (s79.2 bm ?_).trans (k6 _ _ hneP hbo), hcls, hdict, hdata⟩
    · rw [eP]; exact Nat.ne_of_lt (Nat.lt_of_lt_of_le (Heap.lt_size hbo) (by rw [z4]; decide))
    · rintro rfl
      rw [h24] at hbo; cases hbo; cases hdata
  refine class_body (mg := mg) (pm := .str xn tn) kcl ce2 ce3 ce4 (by rw [hname]; rfl) body 0 29 (headS xn qual firstLine) _ #[] { s with heap := h9, toks := tk5 + 1 + 1 + 1 + 1 + 1 } _ (by rw [ce1, K.names]; exact hbody) ?_ ?_ CB9 .nil fun h10 l10 ps10 tk10 more B10 em SA10 OB10 OK10 K10 => ?_
  · exact ⟨rfl, ⟨_, rfl⟩, rfl, ⟨_, rfl⟩, rfl, ⟨_, rfl⟩, trivial⟩
  · intro x a k hm; rcases hm with _ | ⟨_, _ | ⟨_, _ | ⟨_, hm⟩⟩⟩; cases hm
  -- the static attributes
  refine wpAny_bind (wpAny_onRaise ?_)
  refine wpAny_bind (mapM_strs statics _ _ hstat fun vs hvs => ?_)
  refine wpAny_bind (wpAny_newTextTuple ?_)
  have B10' := B10
  have z10 := B10.size
  dsimp only at z10 ⊢
  rw [z10]
  generalize hf11 : h10.push _ = h11
  have k11 : ∀ b o, h10.get? b = some o → h11.get? b = some o := fun b o e => by rw [← hf11]; exact Heap.get?_push_of_some _ e
  have z11 : h11.objs.size = nf + 1 := by rw [← hf11, Heap.size_push, z10]
  refine wpAny_bind (class_store0 (s := { s with heap := h11, toks := tk10 + statics.length }) (l := l10) kcl (kof _ (by decide +kernel)) (by decide +kernel) (by rw [ce2]; exact B10.d.at fun o e => k11 _ _ e) (by rw [← SA10.names]; exact sMem_false.mp hfin) fun h12 D12 s12 => ?_)
  rw [ce2] at D12 s12
  refine wpAny_bind (wpAny_pure (wpAny_pure ?_))
  refine wpF rfl ?_
  have SA12 : SVsAre (fin ++ statS nf) (l10 ++ [(Str.ofString "__static_attributes__", Value.ref nf)]) := SVsAre.snoc (sv := .ref nf .tup) (v := .ref nf) rfl SA10
  have tr := hty _ SA12
  -- what stands behind the body
  have k12 : ∀ b o, b ≠ 24 → b ≠ P' → h9.get? b = some o → h12.get? b = some o := fun b o h1 h2 e => (s12.2 b h1).trans (k11 _ _ (K10 b o h1 h2 e))
  have k9 : ∀ b o, b ≠ 24 → b ≠ Pl → h4.get? b = some o → h9.get? b = some o := fun b o h1 h2 e => (s79.2 b h1).trans (k6 _ _ h2 e)
  have n26 : ∀ b : Addr, @LT.lt Nat _ b 22 → b ≠ 24 ∧ b ≠ P' := fun b hb => ⟨Nat.ne_of_lt (Nat.lt_trans hb (by decide)), by rw [eP]; exact Nat.ne_of_lt (Nat.lt_trans hb (by decide))⟩
  have old : ∀ b o, @LT.lt Nat _ b 22 → b ≠ Pl → s.heap.get? b = some o → h12.get? b = some o := fun b o hb h2 e =>
    k12 b o (n26 b hb).1 (n26 b hb).2 (k9 b o (n26 b hb).1 h2 (kk b o e))
  refine wpAny_bind (tr.go A { s with heap := h12, toks := tk10 + statics.length + 1 } s.toks _ E hA (by rw [s12.1, z11]) D12 ?_ ?_ ?_ fun h13 tk13 hP k13 z13 => ?_)
  · have O12 : ObjsOK 29 h12 fin := OB10.keep fun b o hb e => (s12.2 b (Nat.ne_of_gt (Nat.lt_of_lt_of_le (by decide) hb))).trans (k11 _ _ e)
    refine O12.snoc fun a k e => ?_
    cases e
    refine ⟨B10.le, _, (s12.2 nf (Nat.ne_of_gt (Nat.lt_of_lt_of_le (by decide) B10.le))).trans (?_ : h11.get? nf = some { cls := .type "tuple", data := .seq vs.toArray })⟩
    rw [← hf11, ← z10]; exact Heap.get?_push_size _ rfl
  · exact k12 22 _ (by decide) (by rw [eP]; decide) (k9 22 _ (by decide) (Ne.symm (Nat.ne_of_lt hPlt)) g22)
  · exact old cStatics _ (by decide) hPl.2 hst
  · refine wpAny_pure ?_
    have hlt : 29 ≤ nf := B10.le
    refine h h13 _ tk13 hP SA12 (fun st hst' => ?_) (fun b o hb h2 e => k13 b o ?_ (old b o hb h2 e)) ⟨c', ?_⟩ z13
    · have S1 := OK10 st hst'
      rw [ce5] at S1
      refine S1.keep fun b o hb e => ?_
      have hb2 : @LT.lt Nat _ b nf := by rw [← z10]; exact Heap.lt_size e
      exact k13 b o (Nat.lt_succ_of_lt hb2) ((s12.2 b (Nat.ne_of_gt (Nat.lt_of_lt_of_le (by decide) hb))).trans (k11 _ _ e))
    · exact Nat.lt_of_lt_of_le hb (by lia)
    · have hc22 : @LT.lt Nat _ c 22 := hz ▸ hok.lt.1
      have e1 : ∀ b o, (b = c ∨ b = Pl) → h6.get? b = some o → h13.get? b = some o := fun b o hb e => by
        have hlt : @LT.lt Nat _ b 22 := by rcases hb with rfl | rfl; exact hc22; exact hPlt
        exact k13 b o (Nat.lt_of_lt_of_le hlt (by lia)) (k12 b o (n26 b hlt).1 (n26 b hlt).2 ((s79.2 b (n26 b hlt).1).trans e))
      exact codeKeep hok6 (fun o => e1 _ o (.inl rfl)) fun o => e1 _ o (.inr rfl)
end
end Mine
set_option genSizeOf false
set_option genInjectivity false
set_option maxRecDepth 100000
namespace Mine
open PySem PySem.W PySem.Calls PyProof.Rows

noncomputable def svV (t : Nat) : SV → Value
  | .ref a _ => .ref a
  | .none => .none
  | .bool b => .bool b
  | .int i => .int i t
  | .str s => .str s t
noncomputable def entsOf (hs : Nat → Int) (ts us : Nat → Nat) : Nat → List (Str × SV) → List DictEntry
  | _, [] => []
  | i, (x, sv) :: r => ⟨hs i, .str x (ts i), svV (us i) sv⟩ :: entsOf hs ts us (i + 1) r
noncomputable def tokOf : Option Value → Nat
  | some (.int _ t) => t
  | some (.str _ t) => t
  | _ => 0
theorem svV_is {sv : SV} {v : Value} (h : sv.Is v) : svV (tokOf (some v)) sv = v := by
  cases sv <;> first | exact h.symm | (obtain ⟨t, rfl⟩ := h; rfl)
theorem ents_of (full : List DictEntry) {es : List DictEntry} {l : List (Str × Value)} (hE : Ents es l) : ∀ (sl : List (Str × SV)) (pre : List DictEntry), full = pre ++ es → SVsAre sl l →
    es = entsOf (fun j => ((full[j]?).map (·.hash)).getD 0) (fun j => tokOf ((full[j]?).map (·.key))) (fun j => tokOf ((full[j]?).map (·.val))) pre.length sl := by
  induction hE with
  | nil =>
    intro sl pre _ h
    cases sl with
    | nil => rfl
    | cons _ _ => exact h.elim
  | @cons en y v t es l a b r ih =>
    intro sl pre e h
    cases sl with
    | nil => exact h.elim
    | cons p sl =>
      have hg : full[pre.length]? = some en := by rw [e, List.getElem?_append_right (Nat.le_refl _), Nat.sub_self]; rfl
      have ih := ih sl (pre ++ [en]) (by rw [e, List.append_assoc]; rfl) h.2.2
      rw [List.length_append] at ih
      refine congr (congrArg List.cons ?_) ih
      dsimp only
      rw [hg]
      have h2 := svV_is (b ▸ h.2.1 : p.2.Is en.val)
      have h1 : p.1 = y := h.1
      show en = ⟨en.hash, .str p.1 (tokOf (some en.key)), svV (tokOf (some en.val)) p.2⟩
      rw [h2, h1, a]
      show en = ⟨en.hash, .str y t, en.val⟩
      rw [← a]

noncomputable def objsOf (dat : Addr → Data) : List (Str × SV) → List (Addr × Obj)
  | [] => []
  | (_, .ref a k) :: r => (a, ⟨.type k.name, none, dat a, #[]⟩) :: objsOf dat r
  | _ :: r => objsOf dat r
theorem objsOf_own {h : Heap} {n₀ : Nat} {dat : Addr → Data} : ∀ {sl : List (Str × SV)}, (∀ x a k, (x, SV.ref a k) ∈ sl → h.get? a = some ⟨.type k.name, none, dat a, #[]⟩) → ∀ a o, look (objsOf dat sl) a = some o → h.get? a = some o
  | [], _, _, _, e => nomatch e
  | (x, sv) :: r, hh, a, o, e => by
    have ih := objsOf_own (n₀ := n₀) (sl := r) (fun y b k hm => hh y b k (.tail _ hm)) a o
    cases sv with
    | ref b k =>
      simp only [objsOf, look] at e
      split at e
      · rename_i q
        have := Nat.eq_of_beq_eq_true q
        subst this
        cases e
        exact hh x b k (.head _)
      · exact ih e
    | _ => exact ih e

noncomputable def TOf (dat : Addr → Data) (ep : Nat) (hs : Nat → Int) (ts us : Nat → Nat) (sl : List (Str × SV)) : List (Addr × Obj) :=
  (22, ⟨.type "tuple", none, .seq #[] 0, #[]⟩) :: (24, ⟨.type "dict", none, .dict (entsOf hs ts us 0 sl).toArray ep, #[]⟩) :: (2, ⟨.none, none, .dict #[] 0, #[]⟩) :: objsOf dat sl
/-- the class's own dict behind the call of type -/
noncomputable def nsBehind (n : Nat) (l : List (Str × SV)) : List (Str × SV) :=
  l.filter (fun p => !sEq p.1 "__qualname__") ++ [(Str.ofString "__dict__", SV.ref (n + 2) .fn), (Str.ofString "__weakref__", SV.ref (n + 3) .fn), (Str.ofString "__doc__", SV.none)]
noncomputable def clsObj (cname qual : Str) (n t q : Nat) : Obj :=
  ⟨.type "type", none, .cls { name := cname, bases := [.type "object"], mro := [.ref (n + 1), .type "object"], ns := n, qualname := qual }, #[none, none, some (.str cname t), some (.str qual q), some (.builtin "object.__new__"), some (.bool true)]⟩
noncomputable def pairOf (e : DictEntry) : Option Str × Value := ((match e.key with | .str x _ => some x | _ => none), e.val)
noncomputable def nsView : Option Obj → Option (List (Option Str × Value))
  | some ⟨.type "dict", none, .dict es _, sl⟩ => match sl.toList with
    | [] => some (es.toList.map pairOf)
    | _ => none
  | _ => none
noncomputable def viewT (n : Nat) (x : Except Value Value × RS) : (Option Value) × Option (List (Option Str × Value)) × Option Obj := ((match x.1 with | .ok v => some v | .error _ => none), nsView (look x.2.T n), look x.2.T (n + 1))
noncomputable def extraP (n : Nat) : List (Str × Value) := [(Str.ofString "__dict__", .ref (n + 2)), (Str.ofString "__weakref__", .ref (n + 3)), (Str.ofString "__doc__", .none)]
noncomputable def upP (l : List (Str × Value)) : List (Option Str × Value) := l.map fun p => (some p.1, p.2)

theorem Ents.of_pairs : ∀ {es : List DictEntry} {l : List (Str × Value)}, es.map pairOf = upP l → Ents es l
  | [], [], _ => .nil
  | [], _ :: _, h => nomatch h
  | _ :: _, [], h => nomatch h
  | ⟨hh, k, v⟩ :: es, (x, w) :: l, h => by
    simp only [upP, List.map_cons, List.cons.injEq, pairOf, Prod.mk.injEq] at h
    obtain ⟨⟨h1, h2⟩, h3⟩ := h
    have ih := Ents.of_pairs (es := es) (l := l) h3
    cases k <;> simp at h1
    rename_i y t
    exact .cons (t := t) (by rw [← h1]) h2 ih
theorem Ents.pairs : ∀ {es : List DictEntry} {l : List (Str × Value)}, Ents es l → es.map pairOf = upP l
  | [], [], _ => rfl
  | [], _ :: _, h => nomatch h
  | _ :: _, [], h => nomatch h
  | ⟨hh, k, v⟩ :: es, (x, w) :: l, h => by
    cases h
    rename_i t a b r
    have ih := Ents.pairs r
    dsimp only at a b
    subst a b
    simp only [upP, List.map_cons, pairOf] at ih ⊢
    rw [ih]

/-- what stands behind the class's statement -/
structure ClassMade (cname qual : Str) (n : Nat) (l : List (Str × Value)) (h : Heap) : Prop where
  cls : ∃ t q, h.get? (n + 1) = some (clsObj cname qual n t q)
  ns : DictIs h n (l.filter (fun p => !sEq p.1 "__qualname__") ++ extraP n)

theorem typeRun_of {prog : Program} {w : World} {n fuel : Nat} {cname qual : Str} {sl : List (Str × SV)} (hn : 29 ≤ n)
    (hrun : ∀ (dat : Addr → Data) (ep : Nat) (hs : Nat → Int) (ts us : Nat → Nat) (tk t : Nat),
      (rn (denote treeTable) ⟨prog, w.params⟩ n fuel Value ⟨TOf dat ep hs ts us sl, n, tk⟩ (call (.type "type") [.str cname t, .ref 22, .ref 24] [])).map (viewT n) =
        some (some (.ref (n + 1)), some (((entsOf hs ts us 0 sl).map pairOf).filter (fun p => !(match p.1 with | some x => sEq x "__qualname__" | none => false)) ++ upP (extraP n)), some (clsObj cname qual n t (us 1)))) :
    ∀ l, SVsAre sl l → TypeRun prog w n sl l cname (n + 1) (ClassMade cname qual n l) := by
  intro l SA
  refine ⟨fun A s t Q E hA hz D OB h22 hst h => ?_⟩
  obtain ⟨es, ep, h24, he⟩ := D
  have e1 := ents_of es.toList he sl [] rfl SA
  obtain ⟨hs, ts, us, e1⟩ : ∃ (hs : Nat → Int) (ts us : Nat → Nat), es.toList = entsOf hs ts us 0 sl := ⟨_, _, _, e1⟩
  obtain ⟨dat, hdat⟩ : ∃ dat : Addr → Data, ∀ x a k, (x, SV.ref a k) ∈ sl → s.heap.get? a = some ⟨.type k.name, none, dat a, #[]⟩ :=
    ⟨fun a => ((s.heap.get? a).map (·.data)).getD .plain, fun x a k hm => by
      obtain ⟨_, d, e⟩ := OB x a k hm
      simp only [e, Option.map_some, Option.getD_some]⟩
  have hr := hrun dat ep hs ts us s.toks t
  obtain ⟨⟨r, st'⟩, hr1, hr2⟩ := Option.map_eq_some_iff.mp hr
  simp only [viewT, Prod.mk.injEq] at hr2
  obtain ⟨v1, v2, v3⟩ := hr2
  cases r with
  | error _ => cases v1
  | ok r =>
    cases v1
    refine by_rn hr1 hz (fun a o e => ?_) hA fun h' own z k => ?_
    · simp only [TOf, look] at e
      split at e
      · rename_i q; have := Nat.eq_of_beq_eq_true q; subst this; cases e; exact h22
      · split at e
        · rename_i q; have := Nat.eq_of_beq_eq_true q; subst this; cases e
          rw [h24, ← e1]
        · split at e
          · rename_i q; have := Nat.eq_of_beq_eq_true q; subst this; cases e; exact hst
          · exact objsOf_own (n₀ := 29) hdat a o e
    · refine h h' _ ⟨⟨t, us 1, own _ _ v3⟩, ?_⟩ k ?_
      · unfold nsView at v2
        split at v2
        · rename_i es' ep' slt hl
          split at v2
          · rename_i hs'
            cases (Array.toList_eq_nil_iff.mp hs')
            refine ⟨es', ep', own _ _ hl, Ents.of_pairs ?_⟩
            rw [Option.some.inj v2]
            rw [← e1, he.pairs]
            simp only [upP, List.map_append, List.filter_map]
            rfl
          · cases v2
        · cases v2
      · have : n + 1 < h'.objs.size := Heap.lt_size (own _ _ v3)
        lia
end Mine
set_option genSizeOf false
set_option genInjectivity false
set_option maxRecDepth 100000
namespace Mine
open PySem PySem.W PySem.Calls PyProof.Rows

/-! ## the module's own statements -/
noncomputable def topEnv (p : Program) (c F : Addr) : Env := { scope := p.main.scope, locals := mainNs, globals := mainNs, cells := [], code := .ref c, frame := some F }

/-- the state between two statements of the top: 12 the table, 13 the code -/
structure MS (n : Nat) (h : Heap) (m₀ : Str → Option Value) (l : List (Str × Value)) (ps : Array Value) : Prop where
  g : h.Ns mainGlobals (fun x => match l.lookup x with | some v => some v | none => m₀ x)
  code : h.IsCode 13 12 ps
  b : h.BuiltinsAt (fun x => match l.lookup x with | some v => some v | none => m₀ x) 12
  size : h.objs.size = n
  le : 15 ≤ n

theorem MS.up {h h' : Heap} (k : Keeps2 mainGlobals 12 h h') : ∀ b o, 15 ≤ b → h.get? b = some o → h'.get? b = some o :=
  fun b o hb e => k b o (Nat.ne_of_gt (Nat.lt_of_lt_of_le (by decide) hb)) (Nat.ne_of_gt (Nat.lt_of_lt_of_le (by decide) hb)) e

theorem map_cons {m₀ : Str → Option Value} {l : List (Str × Value)} {x : Str} {v : Value} :
    (fun y => if y = x then some v else (match l.lookup y with | some v => some v | none => m₀ y)) = fun y => match ((x, v) :: l).lookup y with | some v => some v | none => m₀ y := by
  funext y
  rw [List.lookup_cons]
  by_cases h : y = x
  · subst h; simp
  · have : (y == x) = false := by simpa using h
    rw [if_neg h, this]

section
variable {M : Model} {A : Around} {E : Value → Shared → Prop} {s : Shared}
theorem mod_store {p : Program} {c F : Addr} {n : Nat} {m₀ l ps} {x : Str} {v : Value} {Q : Unit → Shared → Prop} (hk : p.main.scope.kind = .module) (hl : p.main.scope.names.lookup x = some .local) (hb : x ≠ "__builtins__")
    (S : MS n s.heap m₀ l ps) (h : ∀ h', MS n h' m₀ ((x, v) :: l) ps → Heap.SameBut mainGlobals s.heap h' → Q () { s with heap := h', toks := s.toks + 1 }) :
    wpAny M A (storeName (topEnv p c F) x v) Q E s := by
  refine wpAny_storeName_local (env := topEnv p c F) hl S.g (fun h' hn hs => h h' ?_ hs) (by show (p.main.scope.kind == .class || (p.main.scope.kind == .module && mainNs != mainNs)) = false; rw [hk]; rfl)
  have e : (fun y => if y = x then some v else (match l.lookup y with | some v => some v | none => m₀ y)) = _ := map_cons (m₀ := m₀) (l := l) (x := x) (v := v)
  have hn' : h'.Ns mainGlobals (fun y => if y = x then some v else (match l.lookup y with | some v => some v | none => m₀ y)) := hn
  rw [e] at hn'
  have hs : Heap.SameBut mainGlobals s.heap h' := hs
  refine ⟨hn', S.code.sameBut hs (by decide) (by decide), ?_, hs.1.trans S.size, S.le⟩
  obtain ⟨bm, o, a, b, c, d, e', f, g, r⟩ := S.b
  refine ⟨bm, o, ?_, b, c, d, (hs.2 bm c).trans e', f, g, r⟩
  have : (("__builtins__" : Str) == x) = false := by simpa using (fun q => hb q.symm : ¬ ("__builtins__" : Str) = x)
  show (match ((x, v) :: l).lookup ("__builtins__" : Str) with | some v => some v | none => m₀ "__builtins__") = _
  rw [List.lookup_cons, this]
  exact a

/-- keys that are numbers -/
noncomputable def intK : Const → Option Int
  | .int i => some i
  | _ => none
noncomputable def conP : Expr → Option (Const × Nat × Pos)
  | .Constant c k p => some (c, k, p)
  | _ => none
theorem conP_eq {e : Expr} {q : Const × Nat × Pos} (h : conP e = some q) : e = .Constant q.1 q.2.1 q.2.2 := by
  cases e with
  | Constant c k p => rw [← some_eq h]
  | _ => exact none_some h
noncomputable def intC (e : Expr) : Option Int := optB (conP e) fun q => intK q.1
theorem intK_eq {c : Const} {i : Int} (h : intK c = some i) : c = .int i := by
  cases c with
  | int j => rw [some_eq h]
  | _ => exact none_some h
theorem intC_eq {e : Expr} {i : Int} (h : intC e = some i) : ∃ k p, e = .Constant (.int i) k p :=
  let ⟨q, e, h⟩ := optB_iff h
  ⟨q.2.1, q.2.2, intK_eq h ▸ conP_eq e⟩
noncomputable def keysI : List (Option Expr) → Option (List Int)
  | [] => some []
  | k :: r => optB (optB k intC) fun i => optB (keysI r) fun l => some (i :: l)
theorem keysI_cons {k : Option Expr} {r : List (Option Expr)} {is : List Int} (h : keysI (k :: r) = some is) : ∃ i kk p l, k = some (.Constant (.int i) kk p) ∧ keysI r = some l ∧ is = i :: l := by
  obtain ⟨i, h1, h⟩ := optB_iff h
  obtain ⟨l, h2, h⟩ := optB_iff h
  obtain ⟨e, h3, h4⟩ := optB_iff h1
  obtain ⟨kk, p, h5⟩ := intC_eq h4
  exact ⟨i, kk, p, l, h5 ▸ h3, h2, (some_eq h).symm⟩
noncomputable def iMem (i : Int) : List Int → Bool
  | [] => false
  | j :: r => decide (i = j) || iMem i r
noncomputable def nodupI : List Int → Bool
  | [] => true
  | i :: r => !iMem i r && nodupI r
theorem iMem_of {i : Int} : ∀ {l : List Int}, i ∈ l → iMem i l = true
  | j :: r, h => by
    show (decide (i = j) || iMem i r) = true
    rcases List.mem_cons.mp h with q | h
    · rw [decide_eq_true q]; rfl
    · rw [iMem_of h, Bool.or_true]
theorem nodupI_spec : ∀ {l : List Int}, nodupI l = true → l.Nodup
  | [], _ => List.nodup_nil
  | i :: r, h => by
    obtain ⟨h1, h2⟩ := and_t (show (!iMem i r && nodupI r) = true from h)
    exact List.nodup_cons.mpr ⟨fun hm => by rw [iMem_of hm] at h1; exact ff h1, nodupI_spec h2⟩
noncomputable def okKeys (n : Nat) (is : List Int) : Bool := nodupI is && Nat.beq is.length n && Nat.ble 1 n && Nat.ble n 15
noncomputable def okDict (ks : List (Option Expr)) (n : Nat) : Bool := match keysI ks with
  | some is => okKeys n is
  | none => false
theorem okDict_iff {ks : List (Option Expr)} {n : Nat} (h : okDict ks n = true) : ∃ is, keysI ks = some is ∧ okKeys n is = true := by
  unfold okDict at h
  cases q : keysI ks with
  | none => rw [q] at h; exact ff h
  | some is => rw [q] at h; exact ⟨is, rfl, h⟩
/-- a dict of numbers, in whatever program -/
noncomputable def IntDict (o : Obj) (kvs : List (Int × Value)) : Prop := ∀ (p : Program) (w : World), o.IsDictOf (intKind p w) kvs
theorem dict_any {p : Program} {w : World} {o : Obj} {kvs : List (Int × Value)} (h : o.IsDictOf (intKind p w) kvs) : IntDict o kvs := by
  intro p' w'
  obtain ⟨es, ep, h1, h2, h3, h4, h5⟩ := h
  refine ⟨es, ep, h1, h2, fun e he => h3 e he, ?_, h5⟩
  clear h3 h5 h2
  generalize es.toList = l at h4
  induction h4 with
  | nil => exact .nil
  | cons a b _ ih => exact .cons a b ih
/-- written data: constants and lists of them, so deep -/
noncomputable def okData : Nat → Expr → Bool
  | 0, e => e.isPlainConst
  | n + 1, e => match e with
    | .List es _ => es.all (okData n) && Nat.ble es.length 100000
    | .Dict ks vs _ => vs.all (okData n) && okDict ks vs.length
    | _ => e.isPlainConst
inductive DataIs (n₀ : Nat) (h : Heap) : Expr → Value → Prop
  | const {c : Const} {k : Nat} {p : Pos} {v : Value} : c.Val v → DataIs n₀ h (.Constant c k p) v
  | list {es : List Expr} {p : Pos} {a : Addr} {items : List Value} : n₀ ≤ a → h.get? a = some { cls := .type "list", data := .seq (List.toArray items) } → (es.length = items.length) → (∀ (i : Nat) (e : Expr) (v : Value), es[i]? = some e → items[i]? = some v → DataIs n₀ h e v) → DataIs n₀ h (.List es p) (.ref a)
  | dict {ks : List (Option Expr)} {vs : List Expr} {p : Pos} {a : Addr} {o : Obj} {kvs : List (Int × Value)} {is : List Int} : n₀ ≤ a → h.get? a = some o → IntDict o kvs → keysI ks = some is → kvs.map (·.1) = is → (vs.length = kvs.length) →
      (∀ (i : Nat) (e : Expr) (kv : Int × Value), vs[i]? = some e → kvs[i]? = some kv → DataIs n₀ h e kv.2) → DataIs n₀ h (.Dict ks vs p) (.ref a)
theorem DataIs.keep {n₀ : Nat} {h h' : Heap} {e : Expr} {v : Value} (D : DataIs n₀ h e v) (k : ∀ b o, n₀ ≤ b → h.get? b = some o → h'.get? b = some o) : DataIs n₀ h' e v := by
  induction D with
  | const c => exact .const c
  | list a g l _ ih => exact .list a (k _ _ a g) l ih
  | dict a g d e1 e2 l _ ih => exact .dict a (k _ _ a g) d e1 e2 l ih
theorem DataIs.weaken {n₀ n₁ : Nat} {h : Heap} {e : Expr} {v : Value} (D : DataIs n₁ h e v) (le : n₀ ≤ n₁) : DataIs n₀ h e v := by
  induction D with
  | const c => exact .const c
  | list a g l _ ih => exact .list (Nat.le_trans le a) g l ih
  | dict a g d e1 e2 l _ ih => exact .dict (Nat.le_trans le a) g d e1 e2 l ih

noncomputable def DatasAre (n₀ : Nat) (h : Heap) : List Expr → List Value → Prop
  | [], [] => True
  | e :: es, v :: vs => DataIs n₀ h e v ∧ DatasAre n₀ h es vs
  | _, _ => False
theorem DatasAre.keep {n₀ : Nat} {h h' : Heap} (k : ∀ b o, n₀ ≤ b → h.get? b = some o → h'.get? b = some o) : ∀ {es : List Expr} {vs : List Value}, DatasAre n₀ h es vs → DatasAre n₀ h' es vs
  | [], [], _ => trivial
  | _ :: _, _ :: _, ⟨a, b⟩ => ⟨a.keep k, DatasAre.keep k b⟩
theorem DatasAre.get {n₀ : Nat} {h : Heap} : ∀ (es : List Expr) (vs : List Value), DatasAre n₀ h es vs → es.length = vs.length ∧ ∀ (i : Nat) (e : Expr) (v : Value), es[i]? = some e → vs[i]? = some v → DataIs n₀ h e v
  | [], [], _ => ⟨rfl, fun i e v h => none_some h⟩
  | e :: es, v :: vs, hd =>
    have ⟨l, g⟩ := DatasAre.get es vs hd.2
    ⟨congrArg Nat.succ l, fun i e' v' h1 h2 => match i with
      | 0 => some_eq h1 ▸ some_eq h2 ▸ hd.1
      | i + 1 => g i e' v' h1 h2⟩
  | [], _ :: _, hd => hd.elim
  | _ :: _, [], hd => hd.elim

variable {pp : Program} {ww : World}
/-- a piece of data is made -/
noncomputable def DataGo (pp : Program) (ww : World) (A : Around) (E : Value → Shared → Prop) (env : Env) (ok : Expr → Bool) (n₀ : Nat) : Prop :=
  ∀ (e : Expr) (s : Shared) (Q : Value → Shared → Prop), ok e = true → n₀ ≤ s.heap.objs.size →
      (∀ v h' tk, DataIs n₀ h' e v → (∀ b o, s.heap.get? b = some o → h'.get? b = some o) → s.heap.objs.size ≤ h'.objs.size → Q v { s with heap := h', toks := tk }) → wpAny (model pp ww) A (eval e env) Q E s
theorem star1 {e : Expr} {es : List Expr} {env : Env} (h : ∀ p x, e ≠ .Starred p x) : starEach (e :: es) env = (false, eval e env) :: starEach es env := by
  cases e <;> first | rfl | exact absurd rfl (h _ _)
theorem datas_eval {n₀ : Nat} {env : Env} {pos : Pos} {ok : Expr → Bool} (hn : ∀ e, ok e = true → ∀ p x, e ≠ .Starred p x) (one : DataGo pp ww A E env ok n₀) :
    ∀ (es : List Expr) (s : Shared) (Q : List Value → Shared → Prop), es.all ok = true → n₀ ≤ s.heap.objs.size →
    (∀ vs h' tk, DatasAre n₀ h' es vs → (∀ b o, s.heap.get? b = some o → h'.get? b = some o) → s.heap.objs.size ≤ h'.objs.size → Q vs { s with heap := h', toks := tk }) → wpAny (model pp ww) A (spliced (backTo pos (starEach es env))) Q E s := by
  intro es
  induction es with
  | nil => exact fun s Q _ _ h => wpAny_items_nil (h [] s.heap s.toks trivial (fun _ _ e => e) (Nat.le_refl _))
  | cons e es ih =>
    intro s Q o hz h
    obtain ⟨o1, o2⟩ := and_t o
    exact wpAny_items_cons (one e s _ o1 hz fun v h₁ tk₁ D₁ k₁ z₁ => ih { s with heap := h₁, toks := tk₁ } _ o2 (Nat.le_trans hz z₁) fun vs h₂ tk₂ D₂ k₂ z₂ =>
      h (v :: vs) h₂ tk₂ ⟨D₁.keep fun b o _ e => k₂ b o e, D₂⟩ (fun b o e => k₂ b o (k₁ b o e)) (Nat.le_trans z₁ z₂)) (star1 (hn e o1))
theorem keys_all : ∀ {ks : List (Option Expr)} {is : List Int}, keysI ks = some is → ks.all (·.isSome) = true ∧ ks.length = is.length
  | [], is, h => by cases h; exact ⟨rfl, rfl⟩
  | k :: r, is, h => by
    obtain ⟨i, kk, p, l, rfl, el, rfl⟩ := keysI_cons h
    obtain ⟨a, b⟩ := keys_all el
    exact ⟨a, congrArg Nat.succ b⟩
theorem pairs_eval {n₀ : Nat} {env : Env} {pos : Pos} {ok : Expr → Bool} (one : DataGo pp ww A E env ok n₀) :
    ∀ (ks : List (Option Expr)) (vs : List Expr) (is : List Int) (s : Shared) (Q : List (Value × Value) → Shared → Prop), keysI ks = some is → is.length = vs.length → vs.all ok = true → n₀ ≤ s.heap.objs.size →
    (∀ ps kvs h' tk, Carries (intKind pp ww) ps kvs → kvs.map (·.1) = is → DatasAre n₀ h' vs (kvs.map (·.2)) → (∀ b o, s.heap.get? b = some o → h'.get? b = some o) → s.heap.objs.size ≤ h'.objs.size → Q ps { s with heap := h', toks := tk }) →
    wpAny (model pp ww) A (evalPairs (pairTrees ks vs env pos)) Q E s := by
  intro ks
  induction ks with
  | nil =>
    intro vs is s Q hk hl ho hz h
    cases hk
    cases vs with
    | nil => exact pairTrees_nil_walk (h [] [] s.heap s.toks trivial rfl trivial (fun _ _ e => e) (Nat.le_refl _))
    | cons _ _ => exact nomatch hl
  | cons k ks ih =>
    intro vs is s Q hk hl ho hz h
    obtain ⟨i, kk, p, l, rfl, el, rfl⟩ := keysI_cons hk
    cases vs with
    | nil => exact nomatch hl
    | cons v vs =>
      obtain ⟨ho1, ho2⟩ := and_t ho
      refine pairTrees_cons_walk (wpAny_eval_const rfl fun kv tk hkv => one v { s with toks := tk } _ ho1 hz fun vv h₁ tk₁ D₁ k₁ z₁ => ?_)
      obtain ⟨t, rfl⟩ : ∃ t, kv = .int i t := hkv
      exact ih vs l { s with heap := h₁, toks := tk₁ } _ el (Nat.succ.inj hl) ho2 (Nat.le_trans hz z₁) fun ps kvs h₂ tk₂ C₂ m₂ D₂ k₂ z₂ =>
        h _ ((i, vv) :: kvs) h₂ tk₂ ⟨intKind_is _ _ _ _, rfl, C₂⟩ (congrArg (i :: ·) m₂) ⟨D₁.keep fun b o _ e => k₂ b o e, D₂⟩ (fun b o e => k₂ b o (k₁ b o e)) (Nat.le_trans z₁ z₂)
theorem const_eval {env : Env} (n₀ : Nat) : DataGo pp ww A E env Expr.isPlainConst n₀ := fun e s Q ok _ h => by
  refine wpAny_eval_const ok fun v tk hv => h v s.heap tk ?_ (fun _ _ e => e) (Nat.le_refl _)
  cases e with
  | Constant c k p => exact .const hv
  | _ => exact ff ok
theorem dict_eval {env : Env} {n n₀ : Nat} {ks : List (Option Expr)} {vs : List Expr} {p : Pos} {Q : Value → Shared → Prop} (ih : ∀ n₀, DataGo pp ww A E env (okData n) n₀) (ok1 : vs.all (okData n) = true) (ok2 : okDict ks vs.length = true) (hz : n₀ ≤ s.heap.objs.size)
    (h : ∀ v h' tk, DataIs n₀ h' (.Dict ks vs p) v → (∀ b o, s.heap.get? b = some o → h'.get? b = some o) → s.heap.objs.size ≤ h'.objs.size → Q v { s with heap := h', toks := tk }) : wpAny (model pp ww) A (eval (.Dict ks vs p) env) Q E s := by
  obtain ⟨is, his, ok2⟩ := okDict_iff ok2
  obtain ⟨ok2, o4⟩ := and_t ok2
  obtain ⟨ok2, o3⟩ := and_t ok2
  obtain ⟨o1, o2⟩ := and_t ok2
  have hlen := Nat.eq_of_beq_eq_true o2
  obtain ⟨hall, hkl⟩ := keys_all his
  have hkv := hkl.trans hlen
  have hne : ks ≠ [] := fun q => by
    have := Nat.le_of_ble_eq_true o3
    rw [← hkv, q] at this
    exact absurd this (by decide)
  refine wpAny_Dict_walk (knd := intKind pp ww) hall hkv hne (by have := Nat.le_of_ble_eq_true o4; lia) ?_
  have hsz : (s.heap.push { cls := .type "dict", data := .dict #[] }).objs.size = s.heap.objs.size + 1 := Heap.size_push ..
  refine pairs_eval (n₀ := s.heap.objs.size + 1) (ok := okData n) (ih _) ks vs is { s with heap := s.heap.push { cls := .type "dict", data := .dict #[] } } _ his hlen ok1 (Nat.le_of_eq hsz.symm) fun ps kvs h' tk C m D k z => ⟨kvs, C, (Heap.DictOf.new s.heap).keep k, fun h'' hd hsb => ?_⟩
  have hnd : (kvs.map (·.1)).Nodup := by rw [m]; exact nodupI_spec o1
  rw [merged_nil_of_nodup _ hnd] at hd
  obtain ⟨o, ho, hio⟩ := Heap.dictOf_iff.mp hd
  have D' : DatasAre (s.heap.objs.size + 1) h'' vs (kvs.map (·.2)) := D.keep fun b o hb e => (hsb.2 b (Nat.ne_of_gt hb)).trans e
  have gl := DatasAre.get _ _ D'
  refine h _ h'' _ (.dict hz ho (dict_any hio) his m (by rw [gl.1, List.length_map]) fun i e kv h1 h2 => ?_) (fun b o e => ?_) ?_
  · exact (gl.2 i e kv.2 h1 (by rw [List.getElem?_map, h2]; rfl)).weaken (Nat.le_succ_of_le hz)
  · exact (hsb.2 b (Nat.ne_of_lt (Heap.lt_size e))).trans (k b o (Heap.get?_push_of_some _ e))
  · rw [hsb.1]
    exact Nat.le_trans (Nat.le_succ _) (Nat.le_trans (Nat.le_of_eq hsz.symm) z)
theorem okData_star {n : Nat} {e : Expr} (h : okData n e = true) (p : Expr) (x : Pos) : e ≠ .Starred p x := fun q => by
  rw [q] at h
  cases n <;> exact ff h
theorem data_eval {env : Env} : ∀ (n n₀ : Nat), DataGo pp ww A E env (okData n) n₀ := by
  intro n
  induction n with
  | zero => exact fun n₀ => const_eval n₀
  | succ n ih =>
    intro n₀ e s Q ok hz h
    cases e with
    | Dict ks vs p => exact dict_eval ih (and_t ok).1 (and_t ok).2 hz h
    | List es p =>
      obtain ⟨ok1, ok2⟩ := and_t ok
      refine wpAny_List (datas_eval (pos := p) (ok := okData n) (fun e he => okData_star he) (ih n₀) es s _ ok1 hz fun vs h' tk D k z => ⟨?_, ?_⟩)
      · rw [← (DatasAre.get _ _ D).1]
        exact Nat.le_trans (Nat.le_of_ble_eq_true ok2) (by unfold sizeLine; lia)
      · refine h _ _ tk ?_ (fun b o e => Heap.get?_push_of_some _ (k b o e)) (by rw [Heap.size_push]; exact Nat.le_succ_of_le z)
        have D' : DatasAre n₀ (h'.push { cls := .type "list", data := .seq vs.toArray }) es vs := D.keep fun b o _ e => Heap.get?_push_of_some _ e
        exact .list (Nat.le_trans hz z) (Heap.get?_push_size _ rfl) (DatasAre.get _ _ D').1 (DatasAre.get _ _ D').2
    | _ => exact const_eval n₀ _ s Q ok hz h
end
end Mine
set_option genSizeOf false
set_option genInjectivity false
set_option maxRecDepth 100000
namespace Mine
open PySem PySem.W PySem.Calls PyProof.Rows

/-! ## a thread that comes through -/
noncomputable def isDone : PySem.Step → Bool
  | .halt (.done _) _ => true
  | _ => false
theorem ite_done {c : Prop} [Decidable c] {a b : PySem.Step} (ha : isDone a = false) (hb : isDone b = false) : isDone (if c then a else b) = false := by
  by_cases q : c
  · rw [if_pos q]; exact ha
  · rw [if_neg q]; exact hb
theorem no_done {den : Code → Sem Fin} {p : Program} {w : World} {heap : Heap} {gens : Array GenState} {drawn : Drawn} {toks : Nat} {os : OsState} {cur : Sem Fin} {code : Code} {pos : Pos} {stack : List Frame} (h : ∀ a, cur ≠ .pure a) : isDone (step den p w ⟨heap, gens, drawn, toks, os⟩ ⟨cur, code, pos, stack⟩) = false := by
  cases cur with
  | pure a => exact absurd rfl (h a)
  | raise e =>
    clear h
    cases stack with
    | nil => exact ite_done rfl rfl
    | cons F r => cases F <;> rfl
  | finish e => exact ite_done rfl rfl
  | load a _ k =>
    clear h
    delta step
    dsimp only
    cases heap.get? a <;> rfl
  | update a _ f k => exact ite_done rfl rfl
  | choose src n k => exact ite_done rfl rfl
  | genState g k =>
    clear h
    delta step
    dsimp only
    cases gens[g]? <;> rfl
  | resume g r l k =>
    clear h
    delta step
    dsimp only
    cases gens[g]? with
    | none => rfl
    | some st => cases st with
      | fresh c => cases r with
        | send v => cases v <;> rfl
        | throw e => rfl
      | _ => rfl
  | yield v g0 l kk =>
    clear h
    delta step
    dsimp only
    cases splitAtGen stack <;> rfl
  | _ => rfl
theorem done_cur {den : Code → Sem Fin} {p : Program} {w : World} {s : Shared} {cur : Sem Fin} {code : Code} {pos : Pos} {stack : List Frame} (h : isDone (step den p w s ⟨cur, code, pos, stack⟩) = true) : through ⟨cur, code, pos, stack⟩ = true := by
  obtain ⟨heap, gens, drawn, toks, os⟩ := s
  by_cases q : ∃ a, cur = .pure a
  · obtain ⟨a, rfl⟩ := q
    cases a with
    | again c => exact ff h
    | done g =>
      cases stack with
      | nil => rfl
      | cons F r => cases F <;> exact ff h
  · exact ff ((no_done fun a e => q ⟨a, e⟩).symm.trans h)
theorem step_done {den : Code → Sem Fin} {p : Program} {w : World} {s s' : Shared} {t : Thread} {f : Flow} (h : step den p w s t = .halt (.done f) s') : through t = true := by
  cases t
  exact done_cur (by rw [h]; rfl)

theorem run_last {p : Program} {w : World} {f : Flow} {s' : Shared} : ∀ (n : Nat) (s : Shared) (t : Thread), runN (denote table) p w n s t = .halted (.done f) s' →
    (∀ k s₁ t₁, runN (denote table) p w k s t = .running s₁ t₁ → t₁.calm = true) → s.asleep → ∃ m t₁, schedN (denote table) p w m (.single s t) = .running (.single s' t₁) ∧ through t₁ = true
  | 0, _, _, h, _, _ => by cases h
  | n + 1, s, t, h, hc, hz => by
    have e := sstep_single (denote table) p w s t (hc 0 s t rfl) hz
    simp only [runN] at h
    cases hs : step (denote table) p w s t with
    | go s₂ t₂ =>
      rw [hs] at h
      rw [hs] at e
      obtain ⟨m, t₁, a, b⟩ := run_last n s₂ t₂ h (fun k s₁ t₁ q => hc (k + 1) s₁ t₁ (by simp only [runN, hs]; exact q)) (Shared.asleep_of_life (step_life _ p w s s₂ t t₂ hs) hz)
      rcases e with e | e
      · exact ⟨m + 1, t₁, by simp only [schedN, e, Step.lift]; exact a, b⟩
      · cases e
    | halt o₂ s₂ =>
      rw [hs] at h
      cases h
      have := step_halt_same (denote table) p w s s' t _ hs
      subst this
      exact ⟨0, t, rfl, step_done hs⟩

theorem top_through {prog : Program} {w : World} {t : Sem Fin} {s : Shared} {R : Shared → Prop} (hreg : s.asleep) (hg0 : s.gens = #[])
    (h : wpAny (model prog w) callerA t (fun fin s' => ∃ f, fin = .done f ∧ R s' ∧ s'.gens = #[]) (fun _ _ => False) s) :
    ∃ n t₁ s₁, schedN (denote table) prog w n (.single s ⟨t, .builtin "claim.caller" {}, default, []⟩) = .running (.single s₁ t₁) ∧ through t₁ = true ∧ s₁.heap.life = s.heap.life ∧ R s₁ ∧ s₁.gens = #[] := by
  have h' := wp_of_wpAny_done (R := fun r s' => ((∃ f, r = .ok f) ∧ R s' ∧ s'.gens = #[]) ∧ leftWithCleanup s'.gens = false) caller_in
    (wpAny_mono h (fun _ _ ⟨f, e, a, b⟩ => ⟨f, e, ⟨⟨f, rfl⟩, a, b⟩, by rw [b]; simp [leftWithCleanup]⟩) fun _ _ x => x.elim) default
  obtain ⟨n, r, s₁, hn, ⟨f, rfl⟩, hR, hg⟩ := (wp_iff_halts (M := model prog w) (R := fun r s' => (∃ f, r = .ok f) ∧ R s' ∧ s'.gens = #[]) ..).mp h'
  obtain ⟨s₂, hr, hf, hc⟩ := runNI_real _ _ _ hn (outcomeOf_ends _)
  obtain rfl : s₂ = s₁ := Shared.eq_of_forget_eq hf hg
  obtain ⟨m, t₁, a, b⟩ := run_last n s _ hr hc hreg
  exact ⟨m, t₁, s₂, a, b, runN_life _ _ _ hr, hR, hg⟩
end Mine
set_option genSizeOf false
set_option genInjectivity false
set_option maxRecDepth 100000
namespace Mine
open PySem PySem.W PySem.Calls PyProof.Rows

inductive MOK (h : Heap) (l : List (Str × Value)) : Stmt → Prop
  | def_ {name : Str} {args body scope pos a dv dV c' pm} : name ≠ ("__name__" : Str) → l.lookup name = some (.ref a) → FnAt 15 h a name name args body scope pm dv dV c' → MOK h l (.FunctionDef name args body [] none [] scope none name pos)
  | data {x : Str} {p e p2 v} : x ≠ ("__name__" : Str) → l.lookup x = some v → DataIs 15 h e v → MOK h l (.Assign [.Name x p] e p2)
  | name {p e p2} : MOK h l (.Assign [.Name "__name__" p] e p2)
theorem MOK.keep {h h' : Heap} {l more : List (Str × Value)} {st : Stmt} (S : MOK h l st) (k : ∀ b o, 15 ≤ b → h.get? b = some o → h'.get? b = some o)
    (hm : ∀ x : Str, x ≠ ("__name__" : Str) → (l.lookup x).isSome = true → more.lookup x = none) : MOK h' (more ++ l) st := by
  have lk : ∀ (x : Str) v, x ≠ ("__name__" : Str) → l.lookup x = some v → (more ++ l).lookup x = some v := fun x v hx e => by
    rw [List.lookup_append, hm x hx (by rw [e]; rfl)]; exact e
  cases S with
  | def_ n a f => exact .def_ n (lk _ _ n a) (f.keep k)
  | data n a d => exact .data n (lk _ _ n a) (d.keep k)
  | name => exact .name

noncomputable def okName (names : List (Str × NameKind)) (x : Str) : Bool := isLocal names x && !sEq x "__builtins__" && !sMem x laidNames
structure MStep where
  L : Nat
  x : Str
noncomputable def okMfd (names : List (Str × NameKind)) (L : Nat) (bound : List Str) (f : FD) : Option MStep :=
  if okDef f.args f.scope f.body && isLocal names f.name && !sMem f.name bound && Nat.ble L f.pos.line && okName names f.name && !sEq f.name "__name__" then some ⟨f.pos.line + 1, f.name⟩ else none
noncomputable def okMas (names : List (Str × NameKind)) (L : Nat) (bound : List Str) (x : Str) (e : Expr) : Option MStep :=
  if okData 6 e && isLocal names x && (!sMem x bound || sEq x "__name__") && okName names x then some ⟨L, x⟩ else none
noncomputable def okMod (names : List (Str × NameKind)) (L : Nat) (bound : List Str) (st : Stmt) : Option MStep := orB (fdP st) (okMfd names L bound) (optB (asP st) fun q => okMas names L bound q.1 q.2.2.1)
noncomputable def okMods (names : List (Str × NameKind)) (L : Nat) (bound : List Str) : List Stmt → Option (Nat × List Str)
  | [] => some (L, bound)
  | st :: r => optB (okMod names L bound st) fun S => okMods names S.L (S.x :: bound) r

theorem okName_ne {names : List (Str × NameKind)} {x : Str} (h : okName names x = true) : x ≠ ("__builtins__" : Str) := by
  unfold okName at h
  simp only [Bool.and_eq_true, Bool.not_eq_true'] at h
  exact fun e => by have h := h.1.2; rw [sEq_iff.mpr e] at h; cases h
theorem okName_bound {p : Program} {x : Str} (h : okName p.main.scope.names x = true) : p.boundNames.contains x = true ∧ laidNames.contains x = false ∧ x ≠ ("__builtins__" : Str) := by
  have h3 := okName_ne h
  unfold okName at h
  simp only [Bool.and_eq_true, Bool.not_eq_true'] at h
  refine ⟨?_, ?_, h3⟩
  · have hl := isLocal_spec h.1.1
    rw [List.contains_iff_mem]
    unfold Program.boundNames
    refine List.mem_map.mpr ⟨(x, .local), List.mem_filter.mpr ⟨?_, rfl⟩, rfl⟩
    revert hl
    generalize p.main.scope.names = N
    intro hl
    induction N with
    | nil => cases hl
    | cons y r ih =>
      obtain ⟨y1, y2⟩ := y
      rw [List.lookup_cons] at hl
      split at hl
      · rename_i q
        cases hl
        rw [beq_iff_eq.mp q]; exact .head _
      · exact .tail _ (ih hl)
  · have := sMem_false.mp h.2
    cases hq : laidNames.contains x with
    | false => rfl
    | true => exact absurd (List.contains_iff_mem.mp hq) this
theorem lookup_here {α : Type} {x : Str} {v : α} {l : List (Str × α)} : ((x, v) :: l).lookup x = some v := by rw [List.lookup_cons, beq_self_eq_true]
theorem sEq_false {a b : Str} (h : sEq a b = false) : a ≠ b := fun e => by rw [sEq_iff.mpr e] at h; cases h
theorem empty_append (x : Str) : Str.empty ++ x = x := by
  cases x with
  | mk a => show Str.mk (#[] ++ a) = _; simp

section
variable {pp : Program} {ww : World} {A : Around} {E : Value → Shared → Prop} {s : Shared}
theorem mod_def {p : Program} {F : Addr} {n L : Nat} {m₀ l ps} {name : Str} {args : Arguments} {body : List Stmt} {scope : Scope} {pos : Pos} {Q : Flow → Shared → Prop}
    (hk : p.main.scope.kind = .module) (ok : okDef args scope body = true) (hl : p.main.scope.names.lookup name = some .local) (hb : name ≠ ("__builtins__" : Str)) (S : MS n s.heap m₀ l ps) (T : TL L ps.toList) (hL : L ≤ pos.line)
    (h : ∀ h' ps' tk a dv dV c' pm, MS (n + defSize args body) h' m₀ ((name, .ref a) :: l) ps' → TL (pos.line + 1) ps'.toList → FnAt 15 h' a name name args body scope pm dv dV c' → a = n + (defSize args body - 1) → Keeps2 mainGlobals 12 s.heap h' → Q .next { s with heap := h', toks := tk }) :
    wpAny (model pp ww) A (exec (.FunctionDef name args body [] none [] scope none name pos) (topEnv p 13 F)) Q E s := by
  refine def_make (env := topEnv p 13 F) (c := 13) (Pl := 12) ok rfl rfl S.code (T.none hL) (by decide) S.g S.b fun c' dv dV h₁ tk hx hz Fn hok => ?_
  have hq : qualnameIn (topEnv p 13 F) name name = name := by
    unfold qualnameIn
    rw [show (topEnv p 13 F).kindOf name = some .local from hl]
    exact empty_append name
  rw [hq] at Fn
  have B1 : h₁.BuiltinsAt (fun x => match l.lookup x with | some v => some v | none => m₀ x) 12 := by
    obtain ⟨bm, o, a, b, c, d, e', f, g, r⟩ := S.b
    exact ⟨bm, o, a, b, c, d, hx _ _ d e', f, g, r⟩
  have S₁ : MS (n + defSize args body) h₁ m₀ l (ps ++ #[rawInt pos.line, rawInt pos.col, .ref c']) := ⟨S.g.extBut hx (by decide), hok, B1, by rw [hz, S.size], Nat.le_add_right_of_le S.le⟩
  refine wpAny_bindName (mod_store (s := { s with heap := h₁, toks := tk }) hk hl hb S₁ fun h₂ S₂ hs => ?_)
  have K : Keeps2 mainGlobals 12 s.heap h₂ := fun b o h1 h2 e => (hs.2 b h1).trans (hx b o h2 e)
  refine h h₂ _ _ _ dv dV c' _ S₂ ?_ ((Fn.weaken (by rw [S.size]; exact S.le)).keep fun b o hb e => (hs.2 b (Nat.ne_of_gt (Nat.lt_of_lt_of_le (by decide) hb))).trans e) (by rw [S.size]) K
  have : (ps ++ #[rawInt ↑pos.line, rawInt ↑pos.col, Value.ref c']).toList = ps.toList ++ [rawInt ↑pos.line, rawInt ↑pos.col, Value.ref c'] := by simp
  rw [this]
  exact T.snoc (by omega) (by omega)

inductive OkM (names : List (Str × NameKind)) (L : Nat) (bound : List Str) : Stmt → MStep → Prop
  | def_ {name : Str} {args : Arguments} {body : List Stmt} {scope : Scope} {pos : Pos} (q2 : okDef args scope body = true) (q3 : isLocal names name = true) (q4 : sMem name bound = false) (q5 : L ≤ pos.line) (q6 : okName names name = true) (q7 : sEq name "__name__" = false) :
      OkM names L bound (.FunctionDef name args body [] none [] scope none name pos) ⟨pos.line + 1, name⟩
  | asg {x : Str} {p₁ p₂ : Pos} {e : Expr} (q1 : okData 6 e = true) (q2 : isLocal names x = true) (q3 : sMem x bound = false ∨ sEq x "__name__" = true) (q4 : okName names x = true) : OkM names L bound (.Assign [.Name x p₁] e p₂) ⟨L, x⟩
theorem or_t {a b : Bool} (h : (a || b) = true) : a = true ∨ b = true := by cases a <;> cases b <;> first | exact .inl rfl | exact .inr rfl | cases h
theorem okMod_spec {names : List (Str × NameKind)} {L : Nat} {bound : List Str} {st : Stmt} {S : MStep} (h : okMod names L bound st = some S) : OkM names L bound st S := by
  rcases orB_iff h with ⟨f, hf, h⟩ | h
  · rw [fdP_spec hf]
    obtain ⟨q, e⟩ := if_some rfl h
    obtain ⟨q, q7⟩ := and_t q
    obtain ⟨q, q6⟩ := and_t q
    obtain ⟨q, q5⟩ := and_t q
    obtain ⟨q, q4⟩ := and_t q
    obtain ⟨q2, q3⟩ := and_t q
    exact some_eq e ▸ .def_ q2 q3 (not_t q4) (Nat.le_of_ble_eq_true q5) q6 (not_t q7)
  · obtain ⟨q, hq, h⟩ := optB_iff h
    rw [asP_spec hq]
    obtain ⟨q, e⟩ := if_some rfl h
    obtain ⟨q, q4⟩ := and_t q
    obtain ⟨q, q3⟩ := and_t q
    obtain ⟨q1, q2⟩ := and_t q
    exact some_eq e ▸ .asg q1 q2 ((or_t q3).imp not_t id) q4
structure ModR (names : List (Str × NameKind)) (m₀ : Str → Option Value) (n : Nat) (h : Heap) (l : List (Str × Value)) (st : Stmt) (S : MStep) (h₁ : Heap) (n₁ : Nat) (ps₁ : Array Value) (v : Value) : Prop where
  ms : MS n₁ h₁ m₀ ((S.x, v) :: l) ps₁
  le : n ≤ n₁
  tl : TL S.L ps₁.toList
  new : S.x ≠ ("__name__" : Str) → S.x ∉ l.map (·.1)
  ok : MOK h₁ ((S.x, v) :: l) st
  nm : okName names S.x = true
  keep : Keeps2 mainGlobals 12 h h₁
theorem mod_one {p : Program} {F : Addr} {m₀} (hk : p.main.scope.kind = .module) {st : Stmt} {R : MStep} {L n : Nat} {l : List (Str × Value)} {ps : Array Value} {Q : Flow → Shared → Prop} (sp : OkM p.main.scope.names L (l.map (·.1)) st R) (S : MS n s.heap m₀ l ps) (T : TL L ps.toList)
    (rest : ∀ n₁ h₁ ps₁ tk v, ModR p.main.scope.names m₀ n s.heap l st R h₁ n₁ ps₁ v → Q .next { s with heap := h₁, toks := tk }) : wpAny (model pp ww) A (exec st (topEnv p 13 F)) Q E s := by
  cases sp with
  | def_ q2 q3 q4 q5 q6 q7 =>
    exact mod_def hk q2 (isLocal_spec q3) (okName_ne q6) S T q5 fun h₁ ps₁ tk a dv dV c' pm S₁ T₁ Fn ea K =>
      rest _ h₁ ps₁ tk (.ref a) ⟨S₁, Nat.le_add_right _ _, T₁, fun _ => sMem_false.mp q4, .def_ (sEq_false q7) lookup_here Fn, q6, K⟩
  | @asg x p₁ p₂ e1 q1 q2 q3 q4 =>
    refine wpAny_Assign_Name (hs := by cases e1 <;> first | rfl | cases q1) (data_eval 6 15 e1 s _ q1 (by rw [S.size]; exact S.le) fun v h₁ tk D k z => ?_)
    have S₁ : MS h₁.objs.size h₁ m₀ l ps := ⟨S.g.keeps k, S.code.keeps k, S.b.keeps k, rfl, Nat.le_trans S.le (by rw [← S.size]; exact z)⟩
    refine mod_store (s := { s with heap := h₁, toks := tk }) hk (isLocal_spec q2) (okName_ne q4) S₁ fun h₂ S₂ hs => ?_
    have up : ∀ b o, 15 ≤ b → h₁.get? b = some o → h₂.get? b = some o := fun b o hb e => (hs.2 b (Nat.ne_of_gt (Nat.lt_of_lt_of_le (by decide) hb))).trans e
    refine rest _ h₂ ps (tk + 1) v ⟨S₂, by rw [← S.size]; exact z, T, fun hn => ?_, ?_, q4, fun b o h1 h2 e => (hs.2 b h1).trans (k b o e)⟩
    · exact q3.elim sMem_false.mp fun q3 => absurd (sEq_iff.mp q3) hn
    · cases hn : sEq x "__name__" with
      | true =>
        have := sEq_iff.mp hn
        subst this
        exact .name
      | false => exact .data (sEq_false hn) lookup_here (D.keep up)
theorem mod_body {p : Program} {F : Addr} {m₀} (hk : p.main.scope.kind = .module) {Lf : Nat} {fin : List Str} {tail : List Stmt} : ∀ (body : List Stmt) (L n : Nat) (l : List (Str × Value)) (ps : Array Value) (s : Shared) (Q : Flow → Shared → Prop),
    okMods p.main.scope.names L (l.map (·.1)) body = some (Lf, fin) → MS n s.heap m₀ l ps → TL L ps.toList →
    (∀ n' h' ps' tk more, MS n' h' m₀ (more ++ l) ps' → n ≤ n' → TL Lf ps'.toList → (∀ x : Str, x ≠ ("__name__" : Str) → (l.lookup x).isSome = true → more.lookup x = none) → (∀ st ∈ body, MOK h' (more ++ l) st) → (∀ x ∈ more.map (·.1), okName p.main.scope.names x = true) → Keeps2 mainGlobals 12 s.heap h' → wpAny (model pp ww) A (execs tail (topEnv p 13 F)) Q E { s with heap := h', toks := tk }) →
    wpAny (model pp ww) A (execs (body ++ tail) (topEnv p 13 F)) Q E s
  | [], L, n, l, ps, s, Q, ok, S, T, h => by
    cases ok
    exact h n s.heap ps s.toks [] S (Nat.le_refl _) T (fun _ _ _ => rfl) (fun _ hm => (nomatch hm)) (fun _ hm => (nomatch hm)) (Keeps2.refl _ _ _)
  | st :: r, L, n, l, ps, s, Q, ok, S, T, h => by
    obtain ⟨R, e, ok⟩ := optB_iff ok
    refine wpAny_execs_cons (mod_one hk (okMod_spec e) S T fun n₁ h₁ ps₁ tk v X => ?_)
    refine mod_body hk r R.L n₁ ((R.x, v) :: l) ps₁ { s with heap := h₁, toks := tk } Q ok X.ms X.tl fun n' h' ps' tk' more S' le' T' hm' O' ON' K' => ?_
    have e' : more ++ (R.x, v) :: l = (more ++ [(R.x, v)]) ++ l := (List.append_assoc more [(R.x, v)] l).symm
    rw [e'] at S' O'
    refine h n' h' ps' tk' (more ++ [(R.x, v)]) S' (Nat.le_trans X.le le') T' (fun y hy hs => ?_) (fun st' hm => ?_) (fun y hy => ?_) (X.keep.trans K')
    · have hyx : y ≠ R.x := fun q => by
        rw [q, lookup_none_of (X.new (q ▸ hy))] at hs; cases hs
      have e2 : (y == R.x) = false := beq_eq_false_iff_ne.mpr hyx
      rw [List.lookup_append, hm' y hy (by rw [List.lookup_cons, e2]; exact hs), List.lookup_cons, e2]
      rfl
    · refine (List.mem_cons.mp hm).elim (fun q => ?_) (O' st')
      rw [q, ← e']
      exact X.ok.keep (more := more) (fun b o hb e => MS.up K' b o hb e) hm'
    · rw [List.map_append, List.mem_append] at hy
      refine hy.elim (ON' y) fun hy => ?_
      rw [List.mem_singleton.mp hy]; exact X.nm
end
end Mine
set_option genSizeOf false
set_option genInjectivity false
set_option maxRecDepth 100000
namespace Mine
open PySem PySem.W PySem.Calls PyProof.Rows

theorem exec_class (name : Str) (body : List Stmt) (scope : Scope) (ts : Option Scope) (bind : Str) (statics : List Str) (pos : Pos) (env : Env) :
    exec (.ClassDef name [] [] body [] [] scope ts bind statics pos) env = (do
      let decos ← evalAll []
      standAt pos
      buildClassGuard env
      let c ← holding decos do
        let a ← evalArgs (.builtin "__build_class__") false [] []
        standAt pos
        holding (a.pos ++ a.kw.map (·.2)) (buildClass name (qualnameIn env name bind) a.pos a.kw body scope statics (firstLineOf [] pos) env pos none)
      let c ← decorate (decos.zip []).reverse c
      standAt pos
      bindName env bind c
      pure .next) := by rfl

section
variable {M : Model} {A : Around} {E : Value → Shared → Prop} {s : Shared}
theorem wpAny_class {name : Str} {body : List Stmt} {scope : Scope} {ts : Option Scope} {bind : Str} {statics : List Str} {pos : Pos} {env : Env} {mb} {Q : Flow → Shared → Prop}
    (hb : s.heap.Ns env.builtins mb) (hbc : mb "__build_class__" = some (.builtin "__build_class__"))
    (h : wpAny M A (buildClass name (qualnameIn env name bind) [] [] body scope statics pos.line env pos none) (fun c s' => wpAny M A (storeName env bind c) (fun _ s'' => Q .next s'') E s') E s) :
    wpAny M A (exec (.ClassDef name [] [] body [] [] scope ts bind statics pos) env) Q E s := by
  rw [exec_class]
  refine wpAny_bind (wpAny_evalAll_nil (wpAny_bind (wpAny_standAt (wpAny_bind ?_))))
  unfold buildClassGuard
  refine wpAny_bind (wpAny_nsGet hb ?_)
  rw [hbc]
  refine wpAny_pure (wpAny_bind (wpAny_holding (wpAny_bind ?_)))
  unfold evalArgs
  refine wpAny_bind (Calls.spliced_nil ?_)
  refine wpAny_bind (wpAny_pure ?_)
  refine wpAny_holding ?_
  refine wpI (by rfl) ?_
  refine wpAny_bind (wpAny_evalAll_nil (wpAny_bind (wpAny_pure (wpAny_pure ?_))))
  refine wpAny_bind (wpAny_standAt (wpAny_holding ?_))
  refine wpAny_mono h (fun c s' h' => ?_) fun _ _ e => e
  refine wpAny_bind (wpAny_pure (wpAny_bind (wpAny_standAt (wpAny_bind (wpAny_bindName ?_)))))
  exact wpAny_mono h' (fun _ _ q => wpAny_pure q) fun _ _ e => e
end
end Mine
set_option genSizeOf false
set_option genInjectivity false
set_option maxRecDepth 100000
namespace Mine
open PySem PySem.W PySem.Calls PyProof.Rows

noncomputable def topTree (p : Program) : Sem Fin := do
  let code ← moduleCode p.main
  let frame ← newBodyFrame code mainNs mainNs
  let _ ← run (.body (behindTheImports p) { scope := p.main.scope, locals := mainNs, globals := mainNs, cells := [], code, frame := some frame })
  ret .none
theorem topStub_eq (p : Program) : topStub p = ⟨topTree p, .builtin "claim.caller" {}, default, []⟩ := rfl
noncomputable def topA (p : Program) : Around := (callerA.mark none).deeper (topEnv p 13 14)
noncomputable def m0 (P : Params) : Str → Option Value := (boot_heap P).nsMap 3

/-- behind the class's statement -/
structure AtRest (P : Params) (wn xn cname : Str) (cbody : List Stmt) (L nf : Nat) (fin : List (Str × SV)) (h : Heap) (t : Tok) (l : List (Str × Value)) (n : Nat) (ps : Array Value) : Prop where
  ms : MS n h (m0 P) [(cname, .ref (nf + 1 + 1)), (("__name__" : Str), .str xn t), (wn, .ref 21)] ps
  tl : TL L ps.toList
  cls : ClassMade cname cname (nf + 1) l h
  sv : SVsAre (fin ++ statS nf) l
  ok : ∀ st ∈ cbody, StOK 29 h (.str xn t) (cname ++ ".") l st
  keep : ∀ b o, b < 11 → b ≠ 3 → (boot_heap P).get? b = some o → h.get? b = some o

theorem top_walk {p : Program} {w : World} {s : Shared} {wn : Str} {wa : Arguments} {wb : List Stmt} {wsc : Scope} {wpos np cp ap : Pos} {kk : Nat} {xn cname : Str} {cbody : List Stmt} {csc : Scope} {cst : List Str} {cpos : Pos} {rest : List Stmt}
    {names : List (Str × NameKind)} {nf : Nat} {fin : List (Str × SV)} {R : Shared → Prop} {ts : Option Scope}
    (hs : s.heap = boot_heap w.params)
    (hb : behindTheImports p = .FunctionDef wn wa wb [] none [] wsc none wn wpos :: .Assign [.Name "__name__" np] (.Constant (.str xn) kk cp) ap :: .ClassDef cname [] [] cbody [] [] csc ts cname cst cpos :: rest)
    (hann : hasAnns (behindTheImports p) = false) (hdoc : docOf (behindTheImports p) = none) (hk : p.main.scope.kind = .module)
    (okw : okDef wa wsc wb = true) (hsz : defSize wa wb = 7) (hwl : isLocal p.main.scope.names wn = true) (hwb : sEq wn "__builtins__" = false) (hwn : sEq wn "__name__" = false)
    (hnl : isLocal p.main.scope.names "__name__" = true) (hcl : isLocal p.main.scope.names cname = true) (hcb : sEq cname "__builtins__" = false) (hln : wpos.line + 1 ≤ cpos.line)
    (okc : (Expr.Constant (.str xn) kk cp).isPlainConst = true)
    (hnf : 29 ≤ nf) (K : ClsArgs csc cbody names) (hbody : okBody names 0 29 (headS xn cname cpos.line) cbody = some (nf, fin)) (hstat : ∀ x ∈ cst, x.length ≤ sizeLine) (hfin : sMem "__static_attributes__" (fin.map (·.1)) = false)
    (hty : ∀ l, SVsAre (fin ++ statS nf) l → TypeRun p w (nf + 1) (fin ++ statS nf) l cname (nf + 1 + 1) (ClassMade cname cname (nf + 1) l))
    (h : ∀ h' tk t l n ps, AtRest w.params wn xn cname cbody (cpos.line + 1) nf fin h' t l n ps → wpAny (model p w) (topA p) (execs rest (topEnv p 13 14)) (fun f s' => f = .next ∧ R s' ∧ s'.gens = #[]) (fun _ _ => False) { s with heap := h', toks := tk }) :
    wpAny (model p w) callerA (topTree p) (fun fin s' => ∃ f, fin = .done f ∧ R s' ∧ s'.gens = #[]) (fun _ _ => False) s := by
  unfold topTree moduleCode
  have z0 : s.heap.objs.size = 11 := by rw [hs]; rfl
  refine wpAny_bind (wpAny_bind (wpAny_fresh (newCodeE0 fun c P h1 tk1 ec k1 z1 eP hcode1 => ?_)))
  dsimp only at ec eP k1 z1
  have ec' : c = 13 := ec.trans (congrArg (· + 2) z0)
  have eP' : P = 12 := eP.trans (congrArg (· + 1) z0)
  have z1' : h1.objs.size = 14 := by rw [z1, z0]
  subst ec' eP'
  have kb : ∀ b o, (boot_heap w.params).get? b = some o → h1.get? b = some o := fun b o e => k1 b o (by rw [hs]; exact e)
  have g0 : (boot_heap w.params).Ns mainGlobals (m0 w.params) := .of_isNs (by kernel_rfl)
  have b0 : (boot_heap w.params).Ns builtinsNs ((boot_heap w.params).nsMap builtinsNs) := .of_isNs (by kernel_rfl)
  have st0 : (boot_heap w.params).get? cStatics = some ⟨.none, none, .dict #[] 0, #[]⟩ := by rfl
  have bm0 : (boot_heap w.params).get? 4 = some { cls := .type "module", dict := some 0 } := by rfl
  unfold newBodyFrame
  refine wpAny_bind (wpAny_bind (wpAny_nsGet (g0.keeps kb) (wpAny_alloc ?_)))
  dsimp only
  rw [z1']
  generalize hf2 : h1.push _ = h2
  have k2 : ∀ b o, h1.get? b = some o → h2.get? b = some o := fun b o e => by rw [← hf2]; exact Heap.get?_push_of_some _ e
  have z2 : h2.objs.size = 15 := by rw [← hf2, Heap.size_push, z1']
  have kb2 : ∀ b o, (boot_heap w.params).get? b = some o → h2.get? b = some o := fun b o e => k2 b o (kb b o e)
  have S2 : MS 15 h2 (m0 w.params) [] #[] := by
    refine ⟨g0.keeps kb2, hcode1.keeps k2, ⟨4, _, by kernel_rfl, by decide, by decide, by decide, kb2 _ _ bm0, rfl, rfl, rfl⟩, z2, by decide⟩
  refine wpAny_bind (wpAny_run (codeAny_body hann hdoc ?_))
  show wpAny (model p w) (topA p) (execs (behindTheImports p) (topEnv p 13 14)) _ _ _
  rw [hb]
  have done : ∀ f s', f = Flow.next ∧ R s' ∧ s'.gens = #[] → wpAny (model p w) callerA (ret .none) (fun fin s' => ∃ f, fin = .done f ∧ R s' ∧ s'.gens = #[]) (fun _ _ => False) s' :=
    fun f s' hx => wpAny_pure ⟨_, rfl, hx.2⟩
  refine wpAny_execs_cons ?_
  refine mod_def (s := { s with heap := h2, toks := tk1 }) hk okw (isLocal_spec hwl) (sEq_false hwb) S2 (L := 0) .nil (Nat.zero_le _) fun h3 ps3 tk3 a3 dv dV c' pm S3 T3 F3 ea K3 => ?_
  rw [hsz] at S3 ea
  have ea' : a3 = 21 := ea
  subst ea'
  dsimp only
  refine wpAny_execs_cons ?_
  refine wpAny_Assign_Name (wpAny_eval_const okc fun v tk4 hv => ?_)
  obtain ⟨t, rfl⟩ : ∃ t, v = .str xn t := hv
  refine mod_store (s := { s with heap := h3, toks := tk4 }) hk (isLocal_spec hnl) (sEq_false (by decide +kernel)) S3 fun h4 S4 s4 => ?_
  dsimp only
  refine wpAny_execs_cons ?_
  have K4 : Keeps2 mainGlobals 12 h2 h4 := fun b o h1 h2 e => (s4.2 b h1).trans (K3 b o h1 h2 e)
  have old4 : ∀ b o, b ≠ 3 → b ≠ 12 → (boot_heap w.params).get? b = some o → h4.get? b = some o := fun b o h1 h2 e => K4 b o h1 h2 (kb2 b o e)
  have hst4 := old4 cStatics _ (by decide) (by decide) st0
  refine wpAny_class (mb := (boot_heap w.params).nsMap builtinsNs) ?_ (by kernel_rfl) ?_
  · obtain ⟨o, es, ep, e, r⟩ := b0
    exact ⟨o, es, ep, old4 builtinsNs _ (by decide) (by decide) e, r⟩
  have hq : qualnameIn (topEnv p 13 14) cname cname = cname := by
    unfold qualnameIn
    rw [show (topEnv p 13 14).kindOf cname = some .local from isLocal_spec hcl]
    exact empty_append cname
  rw [hq]
  have T3' : TL (wpos.line + 1) ps3.toList := T3
  refine build_class (s := { s with heap := h4, toks := tk4 + 1 }) (env := topEnv p 13 14) (c := 13) (Pl := 12) (tn := t) (P := fun l h => ClassMade cname cname (nf + 1) l h) (C := nf + 1 + 1) K S4.size rfl ?_ ⟨_, .of_isNs ?_, ?_⟩ rfl rfl S4.code (T3'.none hln) S4.g ⟨by decide, by decide⟩ S4.b ?_ hst4 hbody hstat hfin hty ?_
  · show callerA.depth + 1 + 1 < recursionLimit
    decide +kernel
  · show (h4.isNs cStatics) = true
    unfold Heap.isNs; rw [hst4]; simp
  · show (h4.nsMap cStatics) "sys.recursionlimit" = none
    unfold Heap.nsMap; rw [hst4]; simp [nsFind, findBy]
  · rfl
  intro h5 l tk5 P5 SA5 OK5 k5 ⟨c5, hcode5⟩ z5
  have lt22 : ∀ b o, h4.get? b = some o → b < 22 := fun b o e => by have := Heap.lt_size e; rw [S4.size] at this; exact this
  have kx5 : ∀ b o, b ≠ 12 → h4.get? b = some o → h5.get? b = some o := fun b o hb e => k5 b o (lt22 b o e) hb e
  have S5 : MS h5.objs.size h5 (m0 w.params) [(("__name__" : Str), .str xn t), (wn, .ref 21)] (ps3 ++ #[rawInt cpos.line, rawInt cpos.col, .ref c5]) := by
    refine ⟨?_, hcode5, ?_, rfl, ?_⟩
    · obtain ⟨o, es, ep, e, r⟩ := S4.g
      exact ⟨o, es, ep, kx5 _ _ (by decide) e, r⟩
    · obtain ⟨bm, o, a, b, c, d, e', f, g, r⟩ := S4.b
      exact ⟨bm, o, a, b, c, d, kx5 _ _ d e', f, g, r⟩
    · lia
  refine mod_store (s := { s with heap := h5, toks := tk5 }) hk (isLocal_spec hcl) (sEq_false hcb) S5 fun h6 S6 s6 => ?_
  have up : ∀ b o, b ≠ 3 → h5.get? b = some o → h6.get? b = some o := fun b o hb e => (s6.2 b hb).trans e
  have hR := h h6 (tk5 + 1) t l _ _ ⟨S6, ?_, ?_, SA5, ?_, ?_⟩
  · refine wpAny_mono hR (fun f s' hx => done f s' hx) fun _ _ hx => hx.elim
  · have : (ps3 ++ #[rawInt ↑cpos.line, rawInt ↑cpos.col, Value.ref c5]).toList = ps3.toList ++ [rawInt ↑cpos.line, rawInt ↑cpos.col, Value.ref c5] := by simp
    rw [this]
    exact T3'.snoc (by lia) (by lia)
  · obtain ⟨⟨t', q, e⟩, d⟩ := P5
    refine ⟨⟨t', q, up _ _ ?_ e⟩, d.at fun o e => up _ _ ?_ e⟩
    · exact fun q => absurd (show nf + 1 + 1 = 3 from q) (by lia)
    · exact fun q => absurd (show nf + 1 = 3 from q) (by lia)
  · intro st hst
    have := (OK5 st hst).keep (more := []) (h' := h6) (fun b o hb e => up b o (Nat.ne_of_gt (Nat.lt_of_lt_of_le (by decide) hb)) e)
    simpa using this
  · intro b o hb h3' e
    exact up b o h3' (kx5 b o (Nat.ne_of_lt (Nat.lt_trans hb (by decide))) (old4 b o h3' (Nat.ne_of_lt (Nat.lt_trans hb (by decide))) e))
end Mine
set_option genSizeOf false
set_option genInjectivity false
set_option maxRecDepth 100000
namespace Mine
open PySem PySem.W PySem.Calls PyProof.Rows

/-- what stands behind the whole top -/
structure TopEnd (p : Program) (P : Params) (h : Heap) (l : List (Str × Value)) : Prop where
  g : h.Ns mainGlobals (fun x => match l.lookup x with | some v => some v | none => m0 P x)
  keep : ∀ b o, b < 11 → b ≠ 3 → (boot_heap P).get? b = some o → h.get? b = some o
  bound : ∀ x ∈ l.map (·.1), p.boundNames.contains x = true ∧ laidNames.contains x = false ∧ x ≠ ("__builtins__" : Str)

theorem boot_g (P : Params) : (boot_heap P).isNs mainGlobals = true := by kernel_rfl
theorem boot_b (P : Params) : (boot_heap P).isNs builtinsNs = true := by kernel_rfl
theorem boot_view (P : Params) : (boot_heap P).bltView = bltViewBooted := by kernel_rfl
theorem boot_keys (P : Params) : (boot_heap P).nsKeys mainGlobals = startupNames := by kernel_rfl
theorem boot_st (P : Params) : (boot_heap P).get? cStatics = some ⟨.none, none, .dict #[] 0, #[]⟩ := by rfl
theorem boot_bm (P : Params) : (boot_heap P).get? 4 = some { cls := .type "module", dict := some 0 } := by rfl
theorem m0_bm (P : Params) : m0 P "__builtins__" = some (.ref 4) := by kernel_rfl

section
variable {p : Program} {w : World} {h : Heap} {l : List (Str × Value)}
theorem TopEnd.global (T : TopEnd p w.params h l) (x : Str) : globalOf h x = match l.lookup x with | some v => some v | none => m0 w.params x := by
  obtain ⟨o, es, ep, ho, hd, _, hf⟩ := T.g
  unfold globalOf
  rw [show h.get? mainNs = some o from ho]
  dsimp only
  rw [hd]
  exact hf x
theorem TopEnd.st (T : TopEnd p w.params h l) (key : Str) : staticOf h key = none := by
  unfold staticOf
  rw [T.keep cStatics _ (by decide) (by decide) (boot_st _)]
  simp
theorem TopEnd.out (T : TopEnd p w.params h l) {x : Str} (hx : p.boundNames.contains x = false ∨ laidNames.contains x = true ∨ x = ("__builtins__" : Str)) : l.lookup x = none := by
  refine lookup_none_of fun hm => ?_
  obtain ⟨a, b, c⟩ := T.bound x hm
  rcases hx with q | q | q
  · rw [a] at q; cases q
  · rw [b] at q; cases q
  · exact c q

theorem boot_globalOf (P : Params) (x : Str) : globalOf (boot_heap P) x = m0 P x := Pin.globalOf_eq (boot_g P) x

theorem topRan_of {s₀ : Shared} {X : Heap → List (Str × Value) → Prop} (h0 : s₀.heap = boot_heap w.params) (hg0 : s₀.gens = #[]) (hz : s₀.asleep)
    (hw : wpAny (model p w) callerA (topTree p) (fun fin s' => ∃ f, fin = .done f ∧ (∃ l, TopEnd p w.params s'.heap l ∧ X s'.heap l ∧ s'.os = s₀.os) ∧ s'.gens = #[]) (fun _ _ => False) s₀) :
    ∃ s₁ l, TopRan p w s₀ s₁ ∧ TopEnd p w.params s₁.heap l ∧ X s₁.heap l ∧ s₁.gens = #[] ∧ s₁.asleep := by
  obtain ⟨n, t₁, s₁, hn, ht, hl, ⟨l, T, hX, hos⟩, hg⟩ := top_through (R := fun s' => ∃ l, TopEnd p w.params s'.heap l ∧ X s'.heap l ∧ s'.os = s₀.os) hz hg0 hw
  refine ⟨s₁, l, ⟨⟨n, t₁, hn, ht⟩, hl, Shared.rest_eq hos, fun b o hb hno => ?_, fun key v hk => ?_, fun key => .inl ?_, Pin.keysAreStrs_of_ns T.g, ?_, ?_, ?_, fun x v hx => ?_, fun x hx => ?_⟩, T, hX, hg, Shared.asleep_of_life hl hz⟩
  · rw [h0] at hb
    exact T.keep b o (Heap.lt_size hb) (fun q => hno (.inl q)) hb
  · rw [T.st] at hk; cases hk
  · rw [T.st, h0]
    unfold staticOf
    rw [boot_st]
    simp
  · intro x hx
    have hb : builtinOf s₁.heap x = builtinOf (boot_heap w.params) x := by
      obtain ⟨o, es, ep, ho, _⟩ := Heap.Ns.of_isNs (boot_b w.params)
      unfold builtinOf
      rw [T.keep _ _ (by decide) (by decide) ho, ho]
    rw [hb]
    exact (Pin.builtinOf_eq (boot_b _) x).trans (Heap.of_bltView (boot_b _) (boot_view _) x hx)
  · refine ⟨4, _, ?_, T.keep 4 _ (by decide) (by decide) (boot_bm _), rfl, rfl⟩
    rw [T.global, T.out (.inr (.inr rfl))]
    exact m0_bm _
  · intro g hgm
    rw [hg] at hgm
    exact absurd hgm (Array.not_mem_empty g)
  · rw [T.global] at hx
    cases hq : l.lookup x with
    | some v' =>
      refine .inr ?_
      have hm : x ∈ l.map (·.1) := by
        apply Classical.byContradiction
        intro hn
        rw [lookup_none_of hn] at hq; cases hq
      exact List.contains_iff_mem.mp (T.bound x hm).1
    | none =>
      rw [hq] at hx
      refine .inl ?_
      apply Classical.byContradiction
      intro hn
      have : m0 w.params x = none := Heap.nsMap_none (a := mainGlobals) (by rw [boot_keys]; exact hn)
      have hx : m0 w.params x = some v := hx
      rw [this] at hx; cases hx
  · rw [T.global, T.out (.inr (.inl (List.contains_iff_mem.mpr hx))), h0]
    exact (boot_globalOf _ _).symm
end
end Mine
set_option genSizeOf false
set_option genInjectivity false
set_option maxRecDepth 100000
namespace Mine
open PySem PySem.W PySem.Calls PyProof.Rows

noncomputable def isI (v : Value) (j : Int) : Prop := match v with
  | .int i _ => i = j
  | _ => False
noncomputable def IntsAre : List Value → List Int → Prop
  | [], [] => True
  | v :: vs, j :: xs => isI v j ∧ IntsAre vs xs
  | _, _ => False

theorem int_of {cl : Str → Option Addr} {h : Heap} {d : WData} {v : Value} {as : List Addr} (hi : WShape.has [] d .int = true) (r : ReadsW [] cl h v d as) : ∃ i, isI v i := by
  cases r with
  | int i t => exact ⟨i, rfl⟩
  | _ => exact ff hi
theorem ints_of {cl : Str → Option Addr} {h : Heap} : ∀ (ds : List WData) (vs : List Value) (as : List Addr), WShape.hasItems [] ds .int = true → ReadsAllW [] cl h vs ds as → ∃ xs, IntsAre vs xs
  | [], vs, as, _, r => by cases r; exact ⟨[], trivial⟩
  | d :: ds, vs, as, hi, r => by
    cases r with
    | cons r1 r2 =>
      rw [WShape.hasItems] at hi
      obtain ⟨h1, h2⟩ := and_t hi
      obtain ⟨i, hx⟩ := int_of h1 r1
      obtain ⟨xs, hxs⟩ := ints_of ds _ _ h2 r2
      exact ⟨i :: xs, hx, hxs⟩

noncomputable def CallOK (p : Program) (name : Str) (X : World → Heap → List (Str × Value) → Prop) : Prop :=
  ∀ (w : World) (h₁ : Heap) (l : List (Str × Value)) (s : Shared) (a : Addr) (o : Obj) (items : Array Value) (n : Nat) (xs : List Int), TopEnd p w.params h₁ l → X w h₁ l → (∀ b o, h₁.get? b = some o → s.heap.get? b = some o) → s.gens = #[] →
    s.heap.get? a = some o → o.cls = .type "list" → o.data = .seq items n → IntsAre items.toList xs → xs.length ≤ 63 →
    ∃ f, l.lookup name = some f ∧ wpAny (model p w) callerA (PySem.call f [.ref a]) (fun v s' => v = .bool true ∧ OldK s.heap s'.heap ∧ s'.os = s.os ∧ AllBare s'.gens) (fun _ _ => False) s

theorem ints_length : ∀ {vs : List Value} {xs : List Int}, IntsAre vs xs → xs.length = vs.length
  | [], [], _ => rfl
  | [], _ :: _, h => h.elim
  | _ :: _, [], h => h.elim
  | _ :: vs, _ :: xs, h => congrArg Nat.succ (ints_length (vs := vs) (xs := xs) h.2)
theorem reads_length {cl : Str → Option Addr} {h : Heap} : ∀ {ds : List WData} {vs : List Value} {as : List Addr}, ReadsAllW [] cl h vs ds as → ds.length = vs.length
  | [], _, _, r => by cases r; rfl
  | d :: ds, _, _, r => by
    cases r with
    | cons r1 r2 => rw [List.length_cons, List.length_cons, reads_length r2]
theorem most_of {l : OpenLaw} (h : l.most = some 63) {ds : List WData} (q : l.row.toRowW.pre.holds l.row.toRowW.records { args := [.list ds] } = true) : ds.length ≤ 63 := by
  have q : WTm.holds [] l.pre { args := [.list ds] } = true := q
  unfold WTm.holds OpenLaw.pre at q
  rw [h] at q
  apply Classical.byContradiction
  intro hn
  have hlt : (63 : Int) < ds.length := by omega
  have hl : less? (.int 63) (.int ds.length) = some true := by simp [less?, Num.less?, hlt]
  have e1 : WTm.value [] (.lt (.lit (.int 63)) (.len (.arg 0))) { args := [.list ds] } = some (.bool true) := by
    simp [WTm.value, hl]
  have e2 : WTm.value [] (.not (.lt (.lit (.int 63)) (.len (.arg 0)))) { args := [.list ds] } = some (.bool false) := by
    rw [WTm.value, e1]; rfl
  rw [WTm.value] at q
  have e2' : WTm.value [] (match some 63 with
            | some n => ((WTm.lit (WData.int (n : Nat))).lt (WTm.arg 0).len).not
            | none => WTm.lit (WData.bool true)) { args := [.list ds] } = some (.bool false) := e2
  rw [e2'] at q
  cases q
inductive IsIntList (h : Heap) (v : Value) (d : WData) : Prop
  | mk (a : Addr) (o : Obj) (items : Array Value) (n : Nat) (xs : List Int) (ds : List WData) (e : v = .ref a) (ho : h.get? a = some o) (hc : o.cls = .type "list") (hd : o.data = .seq items n) (hx : IntsAre items.toList xs) (e2 : d = .list ds) (hl : ds.length = items.toList.length) : IsIntList h v d
theorem list_of {cl : Str → Option Addr} {h : Heap} {d : WData} {v : Value} {as : List Addr} (hi : WShape.has [] d (.list .int) = true) (r : ReadsW [] cl h v d as) : IsIntList h v d := by
  cases r with
  | list ho hc hd hr =>
    obtain ⟨xs, hx⟩ := ints_of _ _ _ ((Bool.or_false _).symm.trans hi) hr
    exact ⟨_, _, _, _, xs, _, rfl, ho, hc, hd, hx, rfl, reads_length hr⟩
  | _ => exact ff hi
theorem one_list {cl : Str → Option Addr} {h : Heap} {vs : List Value} {args : List WData} {as : List Addr} (hha : WShape.hasAll [] args [.list .int] = true) (hrd : ReadsAllW [] cl h vs args as) (hm : ∀ {ds : List WData}, args = [.list ds] → ds.length ≤ 63) :
    ∃ a o items n xs, vs = [.ref a] ∧ h.get? a = some o ∧ o.cls = .type "list" ∧ o.data = .seq items n ∧ IntsAre items.toList xs ∧ xs.length ≤ 63 := by
  obtain ⟨d, r, rfl, e2, e3⟩ := hasAllW_cons hha
  obtain rfl := hasAllW_nil e3
  cases hrd with
  | cons r1 r2 =>
    cases r2
    obtain ⟨a, o, items, n, xs, ds, rfl, ho, hc, hd, hx, rfl, hl⟩ := list_of e2 r1
    exact ⟨a, o, items, n, xs, rfl, ho, hc, hd, hx, by rw [ints_length hx, ← hl]; exact hm rfl⟩
theorem law_holds {l : OpenLaw} {X : World → Heap → List (Str × Value) → Prop} (hmost : l.most = some 63) (k1 : l.row.wellSaid = true) (hwr : l.writes = false) (hop : opensWell l.prog = true) (hb : l.prog.bare) (hw : l.row.toRowW.promised)
    (hopen : opening l.prog = plainProg l.prog.main.scope.names) (hfence : ∀ s, fenceModules? l.prog s = some s)
    (walk : ∀ (w : World) (s : Shared), s.heap = boot_heap w.params → s.gens = #[] → wpAny (model l.prog w) callerA (topTree l.prog) (fun fin s' => ∃ f, fin = .done f ∧ (∃ m, TopEnd l.prog w.params s'.heap m ∧ X w s'.heap m ∧ s'.os = s.os) ∧ s'.gens = #[]) (fun _ _ => False) s)
    (pin : ∀ w h m, TopEnd l.prog w.params h m → X w h m → isTheDefsW l.prog h l.name)
    (hcall : CallOK l.prog l.name X) : l.row.Holds := by
  refine ⟨k1, hw, ⟨hb, hop, rfl⟩, hw.witness, fun w => ?_⟩
  have h := boot_open (p := l.prog) (N := 600) hopen rfl hfence w
  rw [← table_eq_tree] at h
  obtain ⟨s₀, h1, e⟩ := Option.map_eq_some_iff.mp h
  obtain ⟨sA, h4, h5⟩ := Option.bind_eq_some_iff.mp h1
  have A := AfterImport.of_importEnds h4
  refine ⟨⟨sA, A⟩, fun s' hs' => ?_⟩
  obtain rfl : s' = sA := AfterImport.unique hs' A
  have z : s₀.asleep := Shared.asleep_of_life (fence_lifeW h5) A.life
  have eh : s₀.heap = boot_heap w.params := congrArg (fun x => x.1) e
  have eg : s₀.gens = #[] := congrArg (fun x => x.2.1) e
  obtain ⟨s₁, m, hT, T, hX, hg, hz⟩ := topRan_of (p := l.prog) (w := w) (X := X w) eh eg z (walk w s₀ eh eg)
  refine ⟨s₀, h5, eg, s₁, hT, fun n hn => ?_, fun x hx => (nomatch hx), fun x hx => (nomatch hx), ?_⟩
  · have : n = l.name := List.mem_singleton.mp hn
    subst this
    exact pin w s₁.heap m T hX
  · refine ClaimW.callFrom_of_specG (c := l.row.toRowW.claim) (tree := fun vs => do match ← nsGet mainNs l.name with
      | some f => do ret (← PySem.call f vs)
      | none => unsupported "claim.caller:no-such-global") hz hg fun args hpre hlay ord hord => ?_
    have hha : WShape.hasAll [] args [.list .int] = true := (pre_splitW (r := l.row.toRowW) hpre).1
    obtain ⟨⟨vs, s₂⟩, hlaid⟩ := Option.isSome_iff_exists.mp (layAllW_isSome (cl := classAt s₁.heap) (P := w.params) (ord := ord) (R := []) (by intro c hc; exact (nomatch hc)) args [.list .int] s₁ hha)
    have keeps := layAllW_keeps _ _ _ hlaid
    have hal := layAllW_rest _ _ _ hlaid
    obtain ⟨as, hrd, hin, hold⟩ := reads_layAllW hord _ _ _ hlaid hlay s₂.heap (fun _ _ e => e)
    have L : Laid [] w s₁ s₂ args vs as := ⟨⟨ord, hord, hlaid⟩, hrd, hin, hold, keeps, hal.1.trans hg, hal.2.2.1⟩
    obtain ⟨a, o, items, n, xs, rfl, ho, hc, hd, hx, hlen⟩ := one_list hha hrd fun e => most_of hmost (e ▸ (pre_splitW (r := l.row.toRowW) hpre).2)
    obtain ⟨f, hf, hcl⟩ := hcall w s₁.heap m s₂ a o items n xs T hX keeps L.gens ho hc hd hx hlen
    refine ⟨_, s₂, hlaid, wpAny_bind (wpAny_nsGet (T.g.keeps keeps) ?_)⟩
    rw [hf]
    refine wpAny_bind (wpAny_mono hcl (fun v s' ⟨hv, hK, hos, hgn⟩ => wpAny_pure ⟨_, rfl, ?_⟩) fun _ _ q => q.elim)
    subst hv
    have g : GoodWG l.row.toRowW.claim (classAt s₁.heap) (ExcName.means s₁.heap) args s₂ (.ok (.ret (.bool true))) s' := by
      refine ⟨.inl ⟨.bool true, .bool true, [], rfl, fun _ => rfl, .bool true, ?_, fun _ => ⟨List.nodup_nil, fun a ha => (nomatch ha)⟩⟩, hK, hos, hgn⟩
      show (WShape.has [] (.bool true) .bool && WTm.holds [] (.eq .res (.lit (.bool true))) { args := args, res := some (.bool true), after := args }) = true
      kernel_rfl
    have zz := g.laid (c := l.row.toRowW.claim) rfl rfl (ident_freeW (r := l.row.toRowW) rfl rfl rfl) L
    exact ⟨zz.1, zz.2.1, zz.2.2, fun q => absurd (show l.writes = true from q) (by rw [hwr]; exact Bool.false_ne_true)⟩
theorem law_holds' {l : OpenLaw} (hmost : l.most = some 63) (p : Program) (nm : Str) (hp : l.prog = p) (hn : l.name = nm) {X : World → Heap → List (Str × Value) → Prop} (k1 : l.row.wellSaid = true) (hwr : l.writes = false) (hop : opensWell p = true) (hb : p.bare) (hw : l.row.toRowW.promised)
    (hopen : opening p = plainProg p.main.scope.names) (hfence : ∀ s, fenceModules? p s = some s)
    (walk : ∀ (w : World) (s : Shared), s.heap = boot_heap w.params → s.gens = #[] → wpAny (model p w) callerA (topTree p) (fun fin s' => ∃ f, fin = .done f ∧ (∃ m, TopEnd p w.params s'.heap m ∧ X w s'.heap m ∧ s'.os = s.os) ∧ s'.gens = #[]) (fun _ _ => False) s)
    (pin : ∀ w h m, TopEnd p w.params h m → X w h m → isTheDefsW p h nm)
    (hcall : CallOK p nm X) : l.row.Holds := by
  subst hp hn
  exact law_holds hmost k1 hwr hop hb hw hopen hfence walk pin hcall
end Mine
set_option genSizeOf false
set_option genInjectivity false
set_option maxRecDepth 100000
namespace Mine
open PySem PySem.W PySem.Calls PyProof.Rows

structure Shape where
  wn : Str
  wa : Arguments
  wb : List Stmt
  wsc : Scope
  wpos : Pos
  np : Pos
  xn : Str
  kk : Nat
  cp : Pos
  ap : Pos
  cname : Str
  cbody : List Stmt
  csc : Scope
  ts : Option Scope
  cst : List Str
  cpos : Pos
  rest : List Stmt
noncomputable def Shape.stmts (S : Shape) : List Stmt :=
  .FunctionDef S.wn S.wa S.wb [] none [] S.wsc none S.wn S.wpos :: .Assign [.Name "__name__" S.np] (.Constant (.str S.xn) S.kk S.cp) S.ap :: .ClassDef S.cname [] [] S.cbody [] [] S.csc S.ts S.cname S.cst S.cpos :: S.rest
structure ClsP where
  name : Str
  body : List Stmt
  scope : Scope
  ts : Option Scope
  st : List Str
  pos : Pos
noncomputable def clsP : Stmt → Option ClsP
  | .ClassDef name _ _ body _ _ scope ts _ st pos => some ⟨name, body, scope, ts, st, pos⟩
  | _ => none
noncomputable def strK : Const → Option Str
  | .str s => some s
  | _ => none
noncomputable def shapeOf : List Stmt → Option Shape
  | a :: b :: c :: rest => optB (fdP a) fun f => optB (asP b) fun q => optB (conP q.2.2.1) fun k => optB (strK k.1) fun xn => optB (clsP c) fun d =>
    some ⟨f.name, f.args, f.body, f.scope, f.pos, q.2.1, xn, k.2.1, k.2.2, q.2.2.2, d.name, d.body, d.scope, d.ts, d.st, d.pos, rest⟩
  | _ => none
noncomputable def Program.shape (p : Program) (h : (shapeOf p.main.body).isSome = true) : Shape := (shapeOf p.main.body).get h

noncomputable def isClassKind : ScopeKind → Bool
  | .class => true
  | _ => false
noncomputable def noCellK : NameKind → Bool
  | .free => false
  | .cell => false
  | _ => true
noncomputable def noCells : List (Str × NameKind) → Bool
  | [] => true
  | p :: r => noCellK p.2 && noCells r
noncomputable def ownNames : List Str := ["__name__", "__module__", "__qualname__", "__firstlineno__", "__static_attributes__", "__class__", "__classdict__"]
noncomputable def okClsArgs (S : Shape) : Bool := isClassKind S.csc.kind && noCells S.csc.names && ownNames.all (fun x => (sLook x S.csc.names).isNone) && !hasAnns S.cbody && (docOf S.cbody).isNone
theorem noCellK_iff {k : NameKind} (h : noCellK k = true) : k ≠ .free ∧ k ≠ .cell := by
  cases k with
  | free => exact ff h
  | cell => exact ff h
  | _ => exact ⟨nofun, nofun⟩
theorem noCells_spec : ∀ {l : List (Str × NameKind)}, noCells l = true → ∀ x ∈ l, x.2 ≠ .free ∧ x.2 ≠ .cell
  | [], _, _, hx => nomatch hx
  | _ :: r, h, x, hx => (List.mem_cons.mp hx).elim (fun e => e ▸ noCellK_iff (and_t h).1) (noCells_spec (l := r) (and_t h).2 x)
theorem isClassKind_eq {k : ScopeKind} (h : isClassKind k = true) : k = .class := by cases k <;> first | rfl | exact ff h
theorem okClsArgs_spec {S : Shape} (h : okClsArgs S = true) : ClsArgs S.csc S.cbody S.csc.names := by
  obtain ⟨h, h5⟩ := and_t h
  obtain ⟨h, h4⟩ := and_t h
  obtain ⟨h, h3⟩ := and_t h
  obtain ⟨h1, h2⟩ := and_t h
  exact ⟨isClassKind_eq h1, rfl, noCells_spec h2, fun x hx => (sLook_eq ..).symm.trans (Option.isNone_iff_eq_none.mp (List.all_eq_true.mp h3 x hx)), not_t h4, none_of h5⟩

structure TopOut where
  nf : Nat
  fin : List (Str × SV)
noncomputable def isModKind : ScopeKind → Bool
  | .module => true
  | _ => false
noncomputable def okTop (p : Program) (S : Shape) (nf : Nat) : Bool :=
  !hasAnns p.main.body && (docOf p.main.body).isNone && isModKind p.main.scope.kind && okDef S.wa S.wsc S.wb && Nat.beq (defSize S.wa S.wb) 7 && okName p.main.scope.names S.wn && !sEq S.wn "__name__" &&
  okName p.main.scope.names "__name__" && okName p.main.scope.names S.cname && Nat.ble (S.wpos.line + 1) S.cpos.line && (Expr.Constant (.str S.xn) S.kk S.cp).isPlainConst && Nat.ble 29 nf && okClsArgs S &&
  S.cst.all (fun x => Nat.ble x.length 100000)
noncomputable def finOf (S : Shape) : Option (Nat × List (Str × SV)) := okBody S.csc.names 0 29 (headS S.xn S.cname S.cpos.line) S.cbody

theorem opt_pair {α β : Type} {o : Option (α × β)} {a : α} (i : o.isSome = true) (h : o.map (·.1) = some a) : o = some (a, (o.get i).2) := by
  cases o with
  | none => cases i
  | some x => cases x; cases h; rfl
theorem opt_some {α β : Type} {o : Option α} {f : α → β} {b : β} (h : o.map f = some b) : o.isSome = true := by
  cases o with
  | none => cases h
  | some x => rfl
theorem opt_snd {α β γ : Type} {o : Option α} {f : α → β} {g : α → γ} {b : β} {c : γ} (h : o.map (fun x => (f x, g x)) = some (b, c)) : o.map f = some b ∧ ∀ i, g (o.get i) = c := by
  cases o with
  | none => cases h
  | some x => cases h; exact ⟨rfl, fun _ => rfl⟩
theorem top_walk' {p : Program} {w : World} {s : Shared} {S : Shape} {nf : Nat} {fin : List (Str × SV)} {R : Shared → Prop}
    (hs : s.heap = boot_heap w.params) (hd : behindTheImports p = p.main.body) (hb : p.main.body = S.stmts) (ok : okTop p S nf = true) (hfin : finOf S = some (nf, fin)) (hst : sMem "__static_attributes__" (fin.map (·.1)) = false)
    (hrun : ∀ (dat : Addr → Data) (ep : Nat) (hs : Nat → Int) (ts us : Nat → Nat) (tk t : Nat),
      (rn (denote treeTable) ⟨p, w.params⟩ (nf + 1) 3000 Value ⟨TOf dat ep hs ts us (fin ++ statS nf), nf + 1, tk⟩ (call (.type "type") [.str S.cname t, .ref 22, .ref 24] [])).map (viewT (nf + 1)) =
        some (some (.ref (nf + 1 + 1)), some (((entsOf hs ts us 0 (fin ++ statS nf)).map pairOf).filter (fun p => !(match p.1 with | some x => sEq x "__qualname__" | none => false)) ++ upP (extraP (nf + 1))), some (clsObj S.cname S.cname (nf + 1) t (us 1))))
    (h : ∀ h' tk t l n ps, AtRest w.params S.wn S.xn S.cname S.cbody (S.cpos.line + 1) nf fin h' t l n ps → wpAny (model p w) (topA p) (execs S.rest (topEnv p 13 14)) (fun f s' => f = .next ∧ R s' ∧ s'.gens = #[]) (fun _ _ => False) { s with heap := h', toks := tk }) :
    wpAny (model p w) callerA (topTree p) (fun fin s' => ∃ f, fin = .done f ∧ R s' ∧ s'.gens = #[]) (fun _ _ => False) s := by
  unfold okTop at ok
  simp only [Bool.and_eq_true, Bool.not_eq_true', Option.isNone_iff_eq_none, List.all_eq_true] at ok
  obtain ⟨⟨⟨⟨⟨⟨⟨⟨⟨⟨⟨⟨⟨o1, o2⟩, o3⟩, o4⟩, o5⟩, o6⟩, o7⟩, o8⟩, o9⟩, o10⟩, o11⟩, o12⟩, o13⟩, o14⟩ := ok
  have loc : ∀ {x : Str}, okName p.main.scope.names x = true → isLocal p.main.scope.names x = true := fun h => by
    unfold okName at h; simp only [Bool.and_eq_true] at h; exact h.1.1
  have nb : ∀ {x : Str}, okName p.main.scope.names x = true → sEq x "__builtins__" = false := fun h => by
    unfold okName at h; simp only [Bool.and_eq_true, Bool.not_eq_true'] at h; exact h.1.2
  have hsh := hb
  refine top_walk hs (hd.trans hsh) (by rw [hd]; exact o1) (by rw [hd]; exact o2) ?_ o4 (Nat.eq_of_beq_eq_true o5) (loc o6) (nb o6) o7 (loc o8) (loc o9) (nb o9) (Nat.le_of_ble_eq_true o10) o11 (Nat.le_of_ble_eq_true o12) (okClsArgs_spec o13) hfin
    (fun x hx => Nat.le_trans (Nat.le_of_ble_eq_true (o14 x hx)) (by unfold sizeLine; lia)) hst (typeRun_of (by have := Nat.le_of_ble_eq_true o12; lia) hrun) h
  cases hk : p.main.scope.kind <;> rw [hk] at o3 <;> first | rfl | cases o3

/-- the facts behind the top -/
structure TopX (S : Shape) (nf : Nat) (fin : List (Str × SV)) (P : Params) (h : Heap) (m : List (Str × Value)) : Prop where
  cls : ∃ t l, ClassMade S.cname S.cname (nf + 1) l h ∧ SVsAre (fin ++ statS nf) l ∧ ∀ st ∈ S.cbody, StOK 29 h (.str S.xn t) (S.cname ++ ".") l st
  look : m.lookup S.cname = some (.ref (nf + 1 + 1))

theorem AtRest.after {P : Params} {wn xn cname : Str} {cbody : List Stmt} {L nf : Nat} {fin : List (Str × SV)} {h h' : Heap} {t : Tok} {l : List (Str × Value)} {n : Nat} {ps : Array Value} (hnf : 29 ≤ nf) (R : AtRest P wn xn cname cbody L nf fin h t l n ps) (K : Keeps2 mainGlobals 12 h h') :
    (ClassMade cname cname (nf + 1) l h' ∧ SVsAre (fin ++ statS nf) l ∧ ∀ st ∈ cbody, StOK 29 h' (.str xn t) (cname ++ ".") l st) ∧ (∀ b o, b < 11 → b ≠ 3 → (boot_heap P).get? b = some o → h'.get? b = some o) := by
  have up : ∀ b o, 15 ≤ b → h.get? b = some o → h'.get? b = some o := fun b o hb e => MS.up K b o hb e
  refine ⟨⟨?_, R.sv, fun st hst => ?_⟩, fun b o hb h3 e => K b o h3 (Nat.ne_of_lt (Nat.lt_trans hb (by decide))) (R.keep b o hb h3 e)⟩
  · obtain ⟨⟨t', q, e⟩, d⟩ := R.cls
    exact ⟨⟨t', q, up _ _ (show (15 : Nat) ≤ nf + 1 + 1 by lia) e⟩, d.at fun o e => up _ _ (show (15 : Nat) ≤ nf + 1 by lia) e⟩
  · have := (R.ok st hst).keep (more := []) (h' := h') (fun b o hb e => up b o (Nat.le_trans (by decide) hb) e)
    simpa using this

theorem walk_of {p : Program} {w : World} {s : Shared} {S : Shape} {nf : Nat} {fin : List (Str × SV)} {Lf : Nat} {fn : List Str}
    (hs : s.heap = boot_heap w.params) (hg : s.gens = #[]) (hd : behindTheImports p = p.main.body) (hb : p.main.body = S.stmts) (ok : okTop p S nf = true) (hfin : finOf S = some (nf, fin)) (hst : sMem "__static_attributes__" (fin.map (·.1)) = false)
    (hrun : ∀ (dat : Addr → Data) (ep : Nat) (hs : Nat → Int) (ts us : Nat → Nat) (tk t : Nat),
      (rn (denote treeTable) ⟨p, w.params⟩ (nf + 1) 3000 Value ⟨TOf dat ep hs ts us (fin ++ statS nf), nf + 1, tk⟩ (call (.type "type") [.str S.cname t, .ref 22, .ref 24] [])).map (viewT (nf + 1)) =
        some (some (.ref (nf + 1 + 1)), some (((entsOf hs ts us 0 (fin ++ statS nf)).map pairOf).filter (fun p => !(match p.1 with | some x => sEq x "__qualname__" | none => false)) ++ upP (extraP (nf + 1))), some (clsObj S.cname S.cname (nf + 1) t (us 1))))
    (hrest : okMods p.main.scope.names (S.cpos.line + 1) [S.cname, "__name__", S.wn] S.rest = some (Lf, fn)) (hcn : sEq S.cname "__name__" = false) :
    wpAny (model p w) callerA (topTree p) (fun fin' s' => ∃ f, fin' = .done f ∧ (∃ m, TopEnd p w.params s'.heap m ∧ (TopX S nf fin w.params s'.heap m ∧ ∀ st ∈ S.rest, MOK s'.heap m st) ∧ s'.os = s.os) ∧ s'.gens = #[]) (fun _ _ => False) s := by
  have ok' := ok
  unfold okTop at ok
  simp only [Bool.and_eq_true, Bool.not_eq_true', Option.isNone_iff_eq_none, List.all_eq_true] at ok
  obtain ⟨⟨⟨⟨⟨⟨⟨⟨⟨⟨⟨⟨⟨o1, o2⟩, o3⟩, o4⟩, o5⟩, o6⟩, o7⟩, o8⟩, o9⟩, o10⟩, o11⟩, o12⟩, o13⟩, o14⟩ := ok
  have hk : p.main.scope.kind = .module := by cases hk : p.main.scope.kind <;> rw [hk] at o3 <;> first | rfl | cases o3
  refine top_walk' (R := fun s' => ∃ m, TopEnd p w.params s'.heap m ∧ (TopX S nf fin w.params s'.heap m ∧ ∀ st ∈ S.rest, MOK s'.heap m st) ∧ s'.os = s.os) hs hd hb ok' hfin hst hrun fun h' tk t l n ps AR => ?_
  rw [← List.append_nil S.rest]
  refine mod_body hk S.rest _ _ _ _ _ _ (by exact hrest) AR.ms AR.tl fun n' h₂ ps' tk' more S₂ le T₂ hm O₂ ON₂ K₂ => wpAny_execs_nil ⟨rfl, ⟨_, ⟨S₂.g, ?_, ?_⟩, ⟨⟨?_, ?_⟩, by rw [List.append_nil]; exact O₂⟩, rfl⟩, hg⟩
  · exact (AR.after (Nat.le_of_ble_eq_true o12) K₂).2
  · intro x hx
    rw [List.map_append, List.mem_append] at hx
    rcases hx with hx | hx
    · exact okName_bound (ON₂ x hx)
    · have : x = S.cname ∨ x = ("__name__" : Str) ∨ x = S.wn := by simpa using hx
      rcases this with rfl | rfl | rfl
      · exact okName_bound o9
      · exact okName_bound o8
      · exact okName_bound o6
  · exact ⟨t, l, (AR.after (Nat.le_of_ble_eq_true o12) K₂).1⟩
  · rw [List.lookup_append, hm S.cname (sEq_false hcn) (by rw [List.lookup_cons]; simp)]
    rw [List.lookup_cons]; simp
end Mine
set_option genSizeOf false
set_option genInjectivity false
set_option maxRecDepth 100000
namespace Mine
open PySem PySem.W PySem.Calls PyProof.Rows TablesWhole

/-! ## the symbol tables, by pieces -/
theorem wSs_holds_append {top : Scope} {cx : TablesWhole.Ctx} {sc : Scope} : ∀ (a b : List Stmt), wSs holds top cx sc (a ++ b) = (wSs holds top cx sc a && wSs holds top cx sc b)
  | [], b => by
    rw [List.nil_append]
    show _ = (true && _)
    rw [Bool.true_and]
  | s :: r, b => by
    show (wS holds top cx sc s && wSs holds top cx sc (r ++ b)) = ((wS holds top cx sc s && wSs holds top cx sc r) && wSs holds top cx sc b)
    rw [wSs_holds_append r b]
    exact (Bool.and_assoc ..).symm
theorem wSs_gather_append {top : Scope} {cx : TablesWhole.Ctx} {sc : Scope} : ∀ (a b : List Stmt), wSs gather top cx sc (a ++ b) = wSs gather top cx sc a ++ wSs gather top cx sc b
  | [], b => by
    rw [List.nil_append]
    rfl
  | s :: r, b => by
    show wS gather top cx sc s ++ wSs gather top cx sc (r ++ b) = (wS gather top cx sc s ++ wSs gather top cx sc r) ++ wSs gather top cx sc b
    rw [wSs_gather_append r b]
    exact (List.append_assoc ..).symm
theorem holds_chunk {top : Scope} {cx : TablesWhole.Ctx} {sc : Scope} {l : List Stmt} (k : Nat) (h1 : wSs holds top cx sc (l.take k) = true) (h2 : wSs holds top cx sc (l.drop k) = true) : wSs holds top cx sc l = true := by
  rw [← List.take_append_drop k l, wSs_holds_append, h1, h2]; rfl
theorem gather_chunk {top : Scope} {cx : TablesWhole.Ctx} {sc : Scope} {l : List Stmt} (k : Nat) (h1 : wSs gather top cx sc (l.take k) = []) (h2 : wSs gather top cx sc (l.drop k) = []) : wSs gather top cx sc l = [] := by
  rw [← List.take_append_drop k l, wSs_gather_append, h1, h2]; rfl

noncomputable def topCx (m : Module) : TablesWhole.Ctx := ⟨m.scope, [], [], [], none⟩
noncomputable def clsCx (m : Module) (S : Shape) : TablesWhole.Ctx := ⟨S.csc, declSs false S.cbody, declSs true S.cbody, [], none⟩
noncomputable def clsHead (A : Alg α) (m : Module) (S : Shape) : α := wClassHead A (topCx m) m.scope [] [] [] [] S.csc S.ts S.cname S.cpos (declSs true S.cbody)

theorem tables_of {p : Program} {S : Shape} (hb : p.main.body = S.stmts) (hm : p.modules = []) (hp : p.parses = []) (hh : p.harvested = [])
    (g1 : wSs gather p.main.scope (topCx p.main) p.main.scope (S.stmts.take 2) = []) (g2 : clsHead gather p.main S = [])
    (g3 : wSs gather p.main.scope (clsCx p.main S) S.csc S.cbody = []) (g4 : wSs gather p.main.scope (topCx p.main) p.main.scope S.rest = [])
    (h0 : (holds.enter p.main.scope && holds.check "no name twice in a table, but a class's lawful pair" p.main.scope ("(the table)" : Str) (noTwice p.main.scope)) = true)
    (h1 : wSs holds p.main.scope (topCx p.main) p.main.scope (S.stmts.take 2) = true) (h2 : clsHead holds p.main S = true)
    (h3 : wSs holds p.main.scope (clsCx p.main S) S.csc S.cbody = true) (h4 : wSs holds p.main.scope (topCx p.main) p.main.scope S.rest = true) : p.tablesWhole = true := by
  have hs := hb
  have told : wSs gather p.main.scope (topCx p.main) p.main.scope p.main.body = [] := by
    rw [hs]
    refine gather_chunk 2 g1 ?_
    show wSs gather _ _ _ (.ClassDef S.cname [] [] S.cbody [] [] S.csc S.ts S.cname S.cst S.cpos :: S.rest) = []
    show wS gather _ _ _ _ ++ wSs gather _ _ _ S.rest = []
    rw [g4]
    have : wS gather p.main.scope (topCx p.main) p.main.scope (.ClassDef S.cname [] [] S.cbody [] [] S.csc S.ts S.cname S.cst S.cpos) = clsHead gather p.main S ++ wSs gather p.main.scope (clsCx p.main S) S.csc S.cbody := by
      rfl
    rw [this, g2, g3]; rfl
  have body : wSs holds p.main.scope (topCx p.main) p.main.scope p.main.body = true := by
    rw [hs]
    refine holds_chunk 2 h1 ?_
    show wSs holds _ _ _ (.ClassDef S.cname [] [] S.cbody [] [] S.csc S.ts S.cname S.cst S.cpos :: S.rest) = true
    show (wS holds _ _ _ _ && wSs holds _ _ _ S.rest) = true
    rw [h4]
    have : wS holds p.main.scope (topCx p.main) p.main.scope (.ClassDef S.cname [] [] S.cbody [] [] S.csc S.ts S.cname S.cst S.cpos) = (clsHead holds p.main S && wSs holds p.main.scope (clsCx p.main S) S.csc S.cbody) := by
      rfl
    rw [this, h2, h3]; rfl
  unfold Program.tablesWhole wProgram wModule
  rw [hm, hp, hh]
  have told' : wSs gather p.main.scope ⟨p.main.scope, [], [], [], none⟩ p.main.scope p.main.body = [] := told
  have body' : wSs holds p.main.scope ⟨p.main.scope, [], [], [], none⟩ p.main.scope p.main.body = true := body
  simp only [told', Alg.all, List.foldr_cons, List.foldr_nil, List.map_nil, body']
  simpa [holds] using h0
end Mine
set_option genSizeOf false
set_option genInjectivity false
set_option maxRecDepth 100000
namespace Mine
open PySem PySem.W PySem.Calls PyProof.Rows

/-! ## a def found by its name -/
structure DefP where
  args : Arguments
  body : List Stmt
  scope : Scope
  pos : Pos
noncomputable def DefP.stmt (nm : Str) (d : DefP) : Stmt := .FunctionDef nm d.args d.body [] none [] d.scope none nm d.pos
noncomputable def isDef (nm : Str) (st : Stmt) : Option DefP := optB (fdP st) fun f => noB (!sEq f.name nm) (some ⟨f.args, f.body, f.scope, f.pos⟩)
theorem isDef_spec {nm : Str} {st : Stmt} {d : DefP} (h : isDef nm st = some d) : st = d.stmt nm := by
  obtain ⟨f, e, h⟩ := optB_iff h
  obtain ⟨q, h⟩ := noB_iff h
  have q : sEq f.name nm = true := by
    cases w : sEq f.name nm with
    | true => rfl
    | false => rw [w] at q; exact ff q.symm
  rw [fdP_spec e, ← some_eq h, FD.st, sEq_iff.mp q]
  rfl
noncomputable def defIn (nm : Str) : List Stmt → Option DefP
  | [] => none
  | st :: r => orB (isDef nm st) some (defIn nm r)
theorem defIn_mem {nm : Str} {d : DefP} : ∀ {l : List Stmt}, defIn nm l = some d → d.stmt nm ∈ l
  | [], h => none_some h
  | st :: r, h => by
    rcases orB_iff (show orB (isDef nm st) some (defIn nm r) = some d from h) with ⟨d', e, h⟩ | h
    · rw [← some_eq h, isDef_spec e]; exact .head _
    · exact .tail _ (defIn_mem h)

theorem pin_of {p : Program} {P : Params} {h : Heap} {m : List (Str × Value)} {nm : Str} {d : DefP} (T : TopEnd p P h m) (M : MOK h m (d.stmt nm)) (hd : p.theDef nm = some (d.args, d.body, d.scope)) (h0 : d.args.defaults = []) (hk : d.args.kwonlyargs = []) (hkd : d.args.kw_defaults = []) :
    isTheDefsW p h nm := by
  have go : ∀ st, MOK h m st → st = d.stmt nm → isTheDefsW p h nm := by
    intro st M e
    cases M with
    | def_ hn hl F =>
      cases e
      rename_i a dv dV c' pm
      refine ⟨_, _, _, d.args, d.body, d.scope, ?_, F.fn, rfl, hd, rfl, rfl, rfl, rfl, rfl, rfl, rfl, rfl, ?_⟩
      · obtain ⟨o, es, ep, ho, hdt, _, hf⟩ := T.g
        unfold globalOf
        rw [show h.get? mainNs = some o from ho]
        dsimp only
        rw [hdt]
        have : nsFind es nm = _ := hf nm
        dsimp only at this
        rw [hl] at this
        exact this
      · have hdv : dv = [] := by
          have := F.dvs
          rw [h0] at this
          cases dv with
          | nil => rfl
          | cons _ _ => exact this.elim
        refine ⟨.inl ⟨h0, ?_⟩, [], by rw [hk, hkd]; rfl, .inl ⟨rfl, rfl⟩⟩
        rcases F.dfl with ⟨_, x⟩ | ⟨_, x, _, _, _⟩
        · exact x
        · exact absurd hdv x
    | data _ _ _ => cases e
    | name => cases e
  exact go _ M rfl
end Mine
set_option genSizeOf false
set_option genInjectivity false
set_option maxRecDepth 100000
namespace Mine
open PySem PySem.W PySem.Calls PyProof.Rows
set_option maxHeartbeats 0
noncomputable abbrev P4 : Program := PySem.Challenge.pw_im0096_04
theorem s4_some : (shapeOf P4.main.body).isSome = true := by kernel_rfl
noncomputable def S4 : Shape := (shapeOf P4.main.body).get s4_some
theorem s4 : P4.main.body = S4.stmts := by kernel_rfl
theorem f4_map : (finOf S4).map (fun x => (x.1, sMem "__static_attributes__" (x.2.map (·.1)))) = some (1426, false) := by kernel_rfl
theorem f4_some : (finOf S4).isSome = true := opt_some f4_map
noncomputable def F4 : Nat × List (Str × SV) := (finOf S4).get f4_some
theorem f4 : finOf S4 = some (1426, F4.2) := opt_pair f4_some (opt_snd f4_map).1
theorem st4 : sMem "__static_attributes__" (F4.2.map (·.1)) = false := (opt_snd f4_map).2 f4_some
theorem ok4 : okTop P4 S4 1426 = true := by kernel_rfl
theorem run4 (S : Setting) (dat : Addr → Data) (ep : Nat) (hs : Nat → Int) (ts us : Nat → Nat) (tk t : Nat) :
      (rn (denote treeTable) S (1426 + 1) 3000 Value ⟨TOf dat ep hs ts us (F4.2 ++ statS 1426), 1426 + 1, tk⟩ (call (.type "type") [.str S4.cname t, .ref 22, .ref 24] [])).map (viewT (1426 + 1)) =
        some (some (.ref (1426 + 1 + 1)), some (((entsOf hs ts us 0 (F4.2 ++ statS 1426)).map pairOf).filter (fun p => !(match p.1 with | some x => sEq x "__qualname__" | none => false)) ++ upP (extraP (1426 + 1))), some (clsObj S4.cname S4.cname (1426 + 1) t (us 1))) := by kernel_rfl
theorem m4_some : (okMods P4.main.scope.names (S4.cpos.line + 1) [S4.cname, "__name__", S4.wn] S4.rest).isSome = true := by kernel_rfl
noncomputable def X4 (w : World) (h : Heap) (m : List (Str × Value)) : Prop := TopX S4 1426 F4.2 w.params h m ∧ ∀ st ∈ S4.rest, MOK h m st
theorem walk4 (w : World) (s : Shared) (hs : s.heap = boot_heap w.params) (hg : s.gens = #[]) :
    wpAny (model P4 w) callerA (topTree P4) (fun fin' s' => ∃ f, fin' = .done f ∧ (∃ m, TopEnd P4 w.params s'.heap m ∧ X4 w s'.heap m ∧ s'.os = s.os) ∧ s'.gens = #[]) (fun _ _ => False) s := by
  obtain ⟨⟨Lf, fn⟩, hm⟩ := Option.isSome_iff_exists.mp m4_some
  exact walk_of hs hg (by kernel_rfl) s4 ok4 f4 st4 (run4 ⟨P4, w.params⟩) hm (by kernel_rfl)
theorem op4 : opening P4 = plainProg P4.main.scope.names := by kernel_rfl
theorem fe4 (s : Shared) : fenceModules? P4 s = some s := by kernel_rfl
theorem ow4 : opensWell P4 = true := by decide +kernel
theorem g3_4_0 : TablesWhole.wSs TablesWhole.gather P4.main.scope (clsCx P4.main S4) S4.csc (S4.cbody.take 40) = [] := by kernel_rfl
theorem g3_4_1 : TablesWhole.wSs TablesWhole.gather P4.main.scope (clsCx P4.main S4) S4.csc ((S4.cbody.drop 40).take 40) = [] := by kernel_rfl
theorem g3_4_2 : TablesWhole.wSs TablesWhole.gather P4.main.scope (clsCx P4.main S4) S4.csc (((S4.cbody.drop 40).drop 40).take 40) = [] := by kernel_rfl
theorem g3_4_3 : TablesWhole.wSs TablesWhole.gather P4.main.scope (clsCx P4.main S4) S4.csc ((((S4.cbody.drop 40).drop 40).drop 40).take 40) = [] := by kernel_rfl
theorem g3_4_4 : TablesWhole.wSs TablesWhole.gather P4.main.scope (clsCx P4.main S4) S4.csc (((((S4.cbody.drop 40).drop 40).drop 40).drop 40).take 40) = [] := by kernel_rfl
theorem g3_4_5 : TablesWhole.wSs TablesWhole.gather P4.main.scope (clsCx P4.main S4) S4.csc (((((S4.cbody.drop 40).drop 40).drop 40).drop 40).drop 40) = [] := by kernel_rfl
theorem g3_4 : TablesWhole.wSs TablesWhole.gather P4.main.scope (clsCx P4.main S4) S4.csc S4.cbody = [] := gather_chunk 40 g3_4_0 (gather_chunk 40 g3_4_1 (gather_chunk 40 g3_4_2 (gather_chunk 40 g3_4_3 (gather_chunk 40 g3_4_4 (g3_4_5)))))
theorem h3_4_0 : TablesWhole.wSs TablesWhole.holds P4.main.scope (clsCx P4.main S4) S4.csc (S4.cbody.take 40) = true := by kernel_rfl
theorem h3_4_1 : TablesWhole.wSs TablesWhole.holds P4.main.scope (clsCx P4.main S4) S4.csc ((S4.cbody.drop 40).take 40) = true := by kernel_rfl
theorem h3_4_2 : TablesWhole.wSs TablesWhole.holds P4.main.scope (clsCx P4.main S4) S4.csc (((S4.cbody.drop 40).drop 40).take 40) = true := by kernel_rfl
theorem h3_4_3 : TablesWhole.wSs TablesWhole.holds P4.main.scope (clsCx P4.main S4) S4.csc ((((S4.cbody.drop 40).drop 40).drop 40).take 40) = true := by kernel_rfl
theorem h3_4_4 : TablesWhole.wSs TablesWhole.holds P4.main.scope (clsCx P4.main S4) S4.csc (((((S4.cbody.drop 40).drop 40).drop 40).drop 40).take 40) = true := by kernel_rfl
theorem h3_4_5 : TablesWhole.wSs TablesWhole.holds P4.main.scope (clsCx P4.main S4) S4.csc (((((S4.cbody.drop 40).drop 40).drop 40).drop 40).drop 40) = true := by kernel_rfl
theorem h3_4 : TablesWhole.wSs TablesWhole.holds P4.main.scope (clsCx P4.main S4) S4.csc S4.cbody = true := holds_chunk 40 h3_4_0 (holds_chunk 40 h3_4_1 (holds_chunk 40 h3_4_2 (holds_chunk 40 h3_4_3 (holds_chunk 40 h3_4_4 (h3_4_5)))))
theorem tab4 : P4.tablesWhole = true := tables_of s4 (by kernel_rfl) (by kernel_rfl) (by kernel_rfl) (by kernel_rfl) (by kernel_rfl) g3_4 (by kernel_rfl) (by kernel_rfl) (by kernel_rfl) (by kernel_rfl) h3_4 (by kernel_rfl)
theorem bare4 : P4.bare := ⟨by kernel_rfl, by kernel_rfl, by kernel_rfl, by kernel_rfl, by kernel_rfl, tab4⟩

noncomputable def nm4 : Str := Str.ofString "law"
theorem prog4 : PySem.Challenge.rw_im0096_04.prog = P4 := by kernel_rfl
theorem name4 : PySem.Challenge.rw_im0096_04.name = nm4 := by kernel_rfl
theorem wr4 : PySem.Challenge.rw_im0096_04.writes = false := by kernel_rfl
theorem prom4 : PySem.Challenge.rw_im0096_04.row.toRowW.promised := by
  refine ⟨[.list [.int 3, .int 1]], ?_, ?_⟩ <;> decide +kernel
theorem head4 (k1 : PySem.Challenge.rw_im0096_04.row.wellSaid = true) (pin : ∀ w h m, TopEnd P4 w.params h m → X4 w h m → isTheDefsW P4 h nm4) (call : CallOK P4 nm4 X4) : PySem.Challenge.rw_im0096_04.row.Holds :=
  law_holds' (by kernel_rfl) P4 nm4 prog4 name4 k1 wr4 ow4 bare4 prom4 op4 fe4 walk4 pin call
end Mine
set_option genSizeOf false
set_option genInjectivity false
set_option maxRecDepth 100000
namespace Mine
open PySem PySem.W PySem.Calls PyProof.Rows

/-! ## what the texts compute, told over plain values -/
inductive Bi where
  | len | sum | range | enum | max | min
  deriving Inhabited, DecidableEq
noncomputable def Bi.id : Bi → String
  | .len => "len" | .sum => "sum" | .range => "range" | .enum => "enumerate" | .max => "max" | .min => "min"
inductive D where
  | none | bool (b : Bool) | int (i : Int) | str (s : Str)
  | tup (xs : List D) | list (xs : List D) | ints (xs : List Int)
  | fn (m : Bool) (name : Str) | meth (name : Str) | bi (id : Bi) | cls | mpu | rng (n : Int)
  | dict (xs : List (Int × D)) | arg (xs : List Int)
  deriving Inhabited
inductive V where
  | d (x : D) | loc (n : Nat)
  deriving Inhabited
noncomputable abbrev Loc := List (Str × V)
noncomputable abbrev Names := List (Str × NameKind)
structure Hs where
  hp : List D
  mp : Option Loc
inductive Fl where
  | next | brk | cont | ret (v : V)
noncomputable abbrev KE := V → Hs → Prop
noncomputable abbrev KS := Fl → Loc → Hs → Prop
noncomputable abbrev RecE := Names → Bool → Expr → Loc → Hs → KE → Prop
noncomputable abbrev CallR := Bool → Bool → Str → List V → Hs → KE → Prop
noncomputable abbrev RecS := Stmt → Loc → Hs → KS → Prop

/-- a branch -/
noncomputable def br (b : Bool) (A B : Prop) : Prop := match b with
  | true => A
  | false => B

/-- what the texts must be like -/
noncomputable def need (b : Bool) (A : Prop) : Prop := match b with
  | true => A
  | false => False
theorem not_t' {a : Bool} (h : (!a) = false) : a = true := by cases a; cases h; rfl
theorem need_iff {b : Bool} {P : Prop} (h : need b P) : b = true ∧ P := by cases b <;> first | exact False.elim h | exact ⟨rfl, h⟩
noncomputable def optP {α : Type} (o : Option α) (k : α → Prop) : Prop := match o with
  | some a => k a
  | none => False
theorem optP_iff {α : Type} {o : Option α} {k : α → Prop} (h : optP o k) : ∃ a, o = some a ∧ k a := by
  cases o with
  | none => exact False.elim h
  | some a => exact ⟨a, rfl, h⟩
theorem optP_of {α : Type} {o : Option α} {k : α → Prop} {a : α} (e : o = some a) (h : k a) : optP o k := by rw [e]; exact h
noncomputable def orP {α : Type} (o : Option α) (k : α → Prop) (d : Prop) : Prop := match o with
  | some a => k a
  | none => d
theorem orP_iff2 {α : Type} {o : Option α} {k : α → Prop} {d : Prop} (h : orP o k d) : (∃ a, o = some a ∧ k a) ∨ (o = none ∧ d) := by
  cases o with
  | none => exact .inr ⟨rfl, h⟩
  | some a => exact .inl ⟨a, rfl, h⟩
theorem orP_iff {α : Type} {o : Option α} {k : α → Prop} {d : Prop} (h : orP o k d) : (∃ a, o = some a ∧ k a) ∨ d := (orP_iff2 h).imp_right And.right
theorem none_of_isSome {α : Type} {o : Option α} (h : o.isSome = false) : o = none := by
  cases o with
  | none => rfl
  | some _ => exact nomatch h
noncomputable def both {α β : Type} (a : Option α) (b : Option β) : Option (α × β) := optB a fun x => optB b fun y => some (x, y)
theorem both_iff {α β : Type} {a : Option α} {b : Option β} {p : α × β} (h : both a b = some p) : a = some p.1 ∧ b = some p.2 := by
  cases a with
  | none => exact none_some h
  | some x => cases b with
    | none => exact none_some h
    | some y => cases some_eq h; exact ⟨rfl, rfl⟩
noncomputable def D.int? : D → Option Int
  | .int i => some i
  | _ => Option.none
theorem D.int_eq {d : D} {i : Int} (h : d.int? = some i) : d = .int i := by
  cases d with
  | int j => exact congrArg D.int (some_eq h)
  | _ => exact none_some h
noncomputable def D.ints? : D → Option (List Int)
  | .ints i => some i
  | _ => Option.none
theorem D.ints_eq {d : D} {i : List Int} (h : d.ints? = some i) : d = .ints i := by
  cases d with
  | «ints» j => exact congrArg D.ints (some_eq h)
  | _ => exact none_some h
noncomputable def D.tup? : D → Option (List D)
  | .tup i => some i
  | _ => Option.none
theorem D.tup_eq {d : D} {i : List D} (h : d.tup? = some i) : d = .tup i := by
  cases d with
  | tup j => exact congrArg D.tup (some_eq h)
  | _ => exact none_some h
noncomputable def V.d? : V → Option D
  | .d x => some x
  | .loc _ => none
theorem V.d_eq {v : V} {d : D} (h : v.d? = some d) : v = .d d := by
  cases v with
  | d x => exact congrArg V.d (some_eq h)
  | loc _ => exact none_some h
noncomputable def V.loc? : V → Option Nat
  | .d _ => none
  | .loc n => some n
theorem V.loc_eq {v : V} {n : Nat} (h : v.loc? = some n) : v = .loc n := by
  cases v with
  | d x => exact none_some h
  | loc _ => exact congrArg V.loc (some_eq h)
noncomputable def V.int? (v : V) : Option Int := optB v.d? D.int?
theorem V.int_eq {v : V} {i : Int} (h : v.int? = some i) : v = .d (.int i) :=
  let ⟨_, e, h⟩ := optB_iff h
  (V.d_eq e).trans (congrArg V.d (D.int_eq h))
noncomputable def isK (n : Nat) (e : Expr) : Bool := Nat.beq e.ctorIdx n
noncomputable def noStar : List Expr → Bool
  | [] => true
  | e :: r => !isK 22 e && noStar r
noncomputable def okBase (e : Expr) : Bool := isK 23 e || isK 20 e || isK 21 e
noncomputable def okArgsE (args : List Expr) : Bool := noStar args && Nat.ble args.length 12
noncomputable def noDebug (ns : Names) : Bool := (sLook "__debug__" ns).isNone
noncomputable def notSet (e : Expr) : Bool := !isK 7 e
noncomputable def isCall (e : Expr) : Bool := isK 16 e
noncomputable def isTupE (e : Expr) : Bool := isK 25 e
noncomputable def isLstE (e : Expr) : Bool := isK 24 e
noncomputable def isNameE (e : Expr) : Bool := isK 23 e
/-- no exchange of stores: not a tuple of names out of a written tuple -/
noncomputable def notSC (e : Expr) : Bool := !isK 9 e && !isK 10 e
noncomputable def isSliceE (e : Expr) : Bool := isK 26 e
noncomputable def okSwap (t e : Expr) : Bool := notSC e && match t with
  | .Tuple ts _ _ => (!isTupE e && !isLstE e) || ts.any (fun t => !isNameE t)
  | .List .. => false
  | .Starred .. => false
  | _ => true
noncomputable def isFn? : ScopeKind → Bool
  | .function => true
  | _ => false
noncomputable def okCK : NameKind → Bool
  | .local | .free | .globalImplicit => true
  | _ => false
noncomputable def okCompNames : Names → Bool
  | [] => true
  | p :: r => okCK p.2 && okCompNames r
noncomputable def nodupN : Names → Bool
  | [] => true
  | p :: r => (sLook p.1 r).isNone && nodupN r
/-- what a comprehension takes from around it stands in a cell -/
noncomputable def isCF : Option NameKind → Bool
  | some .cell => true
  | some .free => true
  | _ => false
noncomputable def isFr : NameKind → Bool
  | .free => true
  | _ => false
noncomputable def freeOK (sc : Names) : Names → Bool
  | [] => true
  | p :: r => (!isFr p.2 || isCF (sLook p.1 sc)) && freeOK sc r
noncomputable def okComp (sc : Names) (scope : Scope) : Bool := freeOK sc scope.names && isFn? scope.kind && okCompNames scope.names && nodupN scope.names && noDebug scope.names && !scope.isCoroutine && !scope.isGenerator
noncomputable def kwNs : List Keyword → Option (List Str)
  | [] => some []
  | k :: r => optB k.arg fun x => optB (kwNs r) fun l => some (x :: l)
noncomputable def sameNs : List Str → List Str → Bool
  | [], [] => true
  | x :: r, y :: t => sEq x y && sameNs r t
  | _, _ => false

structure PX where
  rest : List Stmt
  cbody : List Stmt
  cname : Str
  muts : List Str
  cuts : List Str

noncomputable def stName : Stmt → Option Str
  | .FunctionDef name _ _ _ _ _ _ _ _ _ => some name
  | .Assign ts _ _ => optB (one ts) nameP1
  | _ => none
noncomputable def isAt (x : Str) : Option Str → Bool
  | some y => sEq x y
  | none => false
noncomputable def findSt (x : Str) : List Stmt → Option Stmt
  | [] => none
  | s :: r => match isAt x (stName s) with
    | true => some s
    | false => findSt x r

noncomputable def constD : Const → Option D
  | .none => some .none
  | .bool b => some (.bool b)
  | .int i => some (.int i)
  | .str s => some (.str s)
  | _ => none
noncomputable def allSome {α : Type} : List (Option α) → Option (List α)
  | [] => some []
  | o :: r => optB o fun a => optB (allSome r) fun l => some (a :: l)
noncomputable def toInts : List D → Option (List Int)
  | [] => some []
  | d :: r => optB d.int? fun i => optB (toInts r) fun l => some (i :: l)
noncomputable def mkList (xs : List D) : D := match toInts xs with
  | some l => .ints l
  | none => .list xs
noncomputable def conD : Expr → Option D
  | .Constant c _ _ => constD c
  | _ => none
/-- data as it stands at the module's level -/
noncomputable def dataD : Nat → Expr → Option D
  | 0, e => conD e
  | n + 1, e => match e with
    | .Constant c _ _ => constD c
    | .List es _ => optB (allSome (es.map (dataD n))) fun l => some (mkList l)
    | .Dict ks vs _ => optB (keysI ks) fun ks => optB (allSome (vs.map (dataD n))) fun vs => some (.dict (ks.zip vs))
    | _ => none
noncomputable def topSt (x : Str) : Stmt → Option D
  | .FunctionDef name _ _ _ _ _ _ _ _ _ => some (.fn false name)
  | .Assign _ e _ => noB (sEq x "__name__") (dataD 6 e)
  | _ => none
noncomputable def topD (X : PX) (x : Str) : Option D := optB (findSt x X.rest) (topSt x)
noncomputable def biNames : List Bi := [.len, .sum, .range, .enum, .max, .min]
noncomputable def biD (x : Str) : List Bi → Option D
  | [] => none
  | s :: r => if sEq x (Str.ofString s.id) then some (.bi s) else biD x r
noncomputable def glob (X : PX) (x : Str) : Option D :=
  if sEq x X.cname then some .cls else orB (topD X x) some (biD x biNames)
noncomputable def intD : Const → Option D
  | .int i => some (.int i)
  | _ => none
noncomputable def eltD : Expr → Option D
  | .Constant c _ _ => intD c
  | .Name x _ => some (.fn true x)
  | _ => none
noncomputable def valD : Expr → Option D
  | .Constant c _ _ => constD c
  | .List es _ => optB (allSome (es.map eltD)) fun l => some (mkList l)
  | _ => none
noncomputable def stD : Stmt → Option D
  | .FunctionDef name _ _ _ _ _ _ _ _ _ => some (.fn true name)
  | .Assign _ e _ => valD e
  | _ => none
noncomputable def clsD (X : PX) (x : Str) : Option D := optB (findSt x X.cbody) stD
structure Fn where
  args : Arguments
  body : List Stmt
  scope : Scope
noncomputable def fnOf (X : PX) (m : Bool) (x : Str) : Option Fn := match findSt x (match m with | true => X.cbody | false => X.rest) with
  | some (.FunctionDef _ args body _ _ _ scope _ _ _) => some ⟨args, body, scope⟩
  | _ => none

/-! ### values -/
noncomputable def isLoc : NameKind → Bool
  | .local | .cell | .free => true
  | _ => false
noncomputable def evName (X : PX) (sc : Names) (x : Str) (loc : Loc) (hs : Hs) (K : KE) : Prop := optP (sLook x sc) fun k => match k with
  | .globalImplicit => optP (glob X x) fun d => K (.d d) hs
  | .local => optP (sLook x loc) fun v => K v hs
  | .cell => optP (sLook x loc) fun v => K v hs
  | _ => False

noncomputable def D.ref : D → Bool
  | .none | .bool _ | .int _ | .str _ => false
  | _ => true
noncomputable def lenD : D → Option Nat
  | .tup xs => some xs.length
  | .list xs => some xs.length
  | .ints xs => some xs.length
  | _ => none
noncomputable def deref (hs : Hs) : V → D
  | .d x => x
  | .loc n => hs.hp.getD n .none
noncomputable def truthB : D → Option Bool
  | .none => some false
  | .bool b => some b
  | .int i => some (i != 0)
  | .list xs => noB (!decide (xs.length < 2 ^ 62)) (some (!xs.isEmpty))
  | .ints xs => noB (!decide (xs.length < 2 ^ 62)) (some (!xs.isEmpty))
  | _ => none
noncomputable def truthV (v : V) (hs : Hs) (k : Bool → Prop) : Prop := optP (truthB (deref hs v)) k

noncomputable def idx (i : Int) (n : Nat) : Int := if i < 0 then i + n else i
noncomputable def small (i : Int) : Prop := -(2 ^ 62) < i ∧ i < 2 ^ 62
/-- the place an index names in a list of n -/
noncomputable def at' (i : Int) (n : Nat) (k : Nat → Prop) : Prop := small i ∧ 0 ≤ idx i n ∧ idx i n < n ∧ k (idx i n).toNat
noncomputable def cut {α : Type} (xs : List α) (lo hi : Option Int) : List α :=
  (xs.drop (lo.elim 0 (clipAt xs.length))).take (hi.elim xs.length (clipAt xs.length) - lo.elim 0 (clipAt xs.length))

noncomputable def alloc (m : Bool) (x : D) (hs : Hs) (K : KE) : Prop := match m with
  | true => K (.loc hs.hp.length) ⟨hs.hp ++ [x], hs.mp⟩
  | false => K (.d x) hs
noncomputable def lim : Nat := 2 ^ 20
noncomputable def putL (x : Str) (v : V) : Loc → Loc
  | [] => [(x, v)]
  | (y, u) :: r => if sEq x y then (x, v) :: r else (y, u) :: putL x v r

noncomputable def binInt (op : Operator) (a b : Int) (hs : Hs) (K : KE) : Prop := match op with
  | .Add => K (.d (.int (a + b))) hs
  | .Sub => K (.d (.int (a - b))) hs
  | .Mult => (a.natAbs < 2 ^ 62 ∨ b.natAbs < 2 ^ 62) ∧ K (.d (.int (a * b))) hs
  | .Mod => b ≠ 0 ∧ K (.d (.int (a.fmod b))) hs
  | .FloorDiv => (b ≠ 0 ∧ b.natAbs < 1073741824) ∧ K (.d (.int (a.fdiv b))) hs
  | .LShift => (0 ≤ b ∧ b ≤ 1000 ∧ a.natAbs < 2 ^ 62) ∧ K (.d (.int (a * 2 ^ b.toNat))) hs
  | .RShift => 0 ≤ b ∧ K (.d (.int (a.fdiv (2 ^ b.toNat)))) hs
  | .Pow => (0 ≤ b ∧ b ≤ 1000 ∧ a.natAbs < 2 ^ 62) ∧ K (.d (.int (a ^ b.toNat))) hs
  | .BitAnd => K (.d (.int (Builtin.bitAnd a b))) hs
  | .BitOr => K (.d (.int (Builtin.bitOr a b))) hs
  | .BitXor => K (.d (.int (Builtin.bitXor a b))) hs
  | _ => False
noncomputable def D.elts? : D → Option (List D)
  | .list xs => some xs
  | .ints xs => some (xs.map .int)
  | _ => Option.none
noncomputable def catD (x y : D) : Option D := orB (both x.ints? y.ints?) (fun p => some (.ints (p.1 ++ p.2))) (optB (both x.elts? y.elts?) fun p => some (.list (p.1 ++ p.2)))
noncomputable def rep {α : Type} (n : Int) (xs : List α) : List α := (List.replicate n.toNat xs).flatten
/-- a binary operation; m: whether a list it makes may be changed later -/
noncomputable def isMul : Operator → Bool
  | .Mult => true
  | _ => false
noncomputable def isAdd : Operator → Bool
  | .Add => true
  | _ => false
theorem mul_of {op : Operator} (h : isMul op = true) : op = .Mult := by cases op <;> first | rfl | exact ff h
theorem add_of {op : Operator} (h : isAdd op = true) : op = .Add := by cases op <;> first | rfl | exact ff h
noncomputable def binOpV (op : Operator) (m : Bool) (a b : V) (hs : Hs) (K : KE) : Prop :=
  orP (both (deref hs a).int? (deref hs b).int?) (fun p => binInt op p.1 p.2 hs K) <|
  orP (both (deref hs a).ints? (deref hs b).int?) (fun p => need (isMul op) ((0 ≤ p.2 ∧ p.2 ≤ lim ∧ p.1.length * p.2.toNat ≤ lim) ∧ alloc m (.ints (rep p.2 p.1)) hs K)) <|
  need (isAdd op) (optP (catD (deref hs a) (deref hs b)) fun z => optP (lenD z) fun n => n ≤ lim ∧ alloc m z hs K)
noncomputable def unOpV (op : UnaryOp) (a : V) (hs : Hs) (K : KE) : Prop := match op with
  | .Not => truthV a hs fun b => K (.d (.bool (!b))) hs
  | .USub => optP a.int? fun i => K (.d (.int (-i))) hs
  | .Invert => optP a.int? fun i => K (.d (.int (Builtin.bitNot i))) hs
  | .UAdd => False
noncomputable def toIntsT (d : D) : Option (List Int) := optB d.tup? toInts
noncomputable def cmpInt (op : CmpOp) (a b : Int) : Option Bool := match op with
  | .Eq => some (a == b)
  | .NotEq => some (a != b)
  | .Lt => some (decide (a < b))
  | .LtE => some (decide (a ≤ b))
  | .Gt => some (decide (b < a))
  | .GtE => some (decide (b ≤ a))
  | _ => none
noncomputable def cmpEq (op : CmpOp) (b : Bool) : Option Bool := match op with
  | .Eq => some b
  | .NotEq => some (!b)
  | _ => none
noncomputable def isNone : D → Bool
  | .none => true
  | _ => false
noncomputable def isIs : CmpOp → Bool
  | .Is => true
  | _ => false
noncomputable def cmpD (op : CmpOp) (x y : D) : Option Bool :=
  orB (both x.int? y.int?) (fun p => cmpInt op p.1 p.2) <|
  orB (both x.ints? y.ints?) (fun p => cmpEq op (decide (p.1 = p.2))) <|
  orB (both (toIntsT x) (toIntsT y)) (fun p => cmpEq op (decide (p.1 = p.2))) <|
  noB (!(isNone y && isIs op)) (some (isNone x))
theorem is_of {op : CmpOp} (h : isIs op = true) : op = .Is := by cases op <;> first | rfl | exact ff h
noncomputable def cmpV (op : CmpOp) (a b : V) (hs : Hs) (K : Bool → Prop) : Prop := optP (cmpD op (deref hs a) (deref hs b)) K

/-- an item of a list or a tuple -/
noncomputable def itemD (x : D) (i : Int) (hs : Hs) (K : KE) : Prop := match x with
  | .ints xs => at' i xs.length fun n => K (.d (.int (xs.getD n 0))) hs
  | .list xs => at' i xs.length fun n => K (.d (xs.getD n .none)) hs
  | .tup xs => at' i xs.length fun n => K (.d (xs.getD n .none)) hs
  | .dict xs => optP (xs.lookup i) fun d => K (.d d) hs
  | _ => False
noncomputable def itemV (a b : V) (hs : Hs) (K : KE) : Prop := optP b.int? fun i => itemD (deref hs a) i hs K
noncomputable def partV : Option V → Option (Option Int)
  | none => some none
  | some v => optB v.int? fun i => some (some i)
noncomputable def sliceD (m : Bool) (x : D) (l u : Option Int) (hs : Hs) (K : KE) : Prop := match x with
  | .ints xs => xs.length ≤ lim ∧ alloc m (.ints (cut xs l u)) hs K
  | .list xs => xs.length ≤ lim ∧ alloc m (.list (cut xs l u)) hs K
  | .arg xs => xs.length ≤ lim ∧ alloc m (.ints (cut xs l u)) hs K
  | _ => False
noncomputable def sliceV (m : Bool) (a : V) (lo hi : Option V) (hs : Hs) (K : KE) : Prop := optP (partV lo) fun l => optP (partV hi) fun u => sliceD m (deref hs a) l u hs K
noncomputable def fldNames : List Str := ["pc", "memory", "a", "x", "y", "p", "sp", "byteMask", "addrMask", "addrHighMask", "spBase", "excycles", "addcycles", "processorCycles", "start_pc", "name"]
noncomputable def V.isMpu : V → Bool
  | .d .mpu => true
  | _ => false
theorem V.isMpu_eq {v : V} (h : v.isMpu = true) : v = .d .mpu := by
  cases v with
  | loc _ => exact ff h
  | d x => cases x <;> first | rfl | exact ff h
/-- what stands in the class: a function is met as a method -/
noncomputable def boundD : D → D
  | .fn _ y => .meth y
  | d => d
noncomputable def getAttrV (X : PX) (v : V) (x : Str) (hs : Hs) (K : KE) : Prop := need v.isMpu <| optP hs.mp fun f =>
  orP (sLook x f) (fun u => need (sMem x fldNames) (K u hs)) (optP (clsD X x) fun d => K (.d (boundD d)) hs)
noncomputable def setAttrV (v : V) (x : Str) (u : V) (hs : Hs) (K : Hs → Prop) : Prop := need v.isMpu <| optP hs.mp fun f =>
  need (sMem x fldNames && Nat.ble f.length 100) (K ⟨hs.hp, some (putL x u f)⟩)
noncomputable def setItemV (a b u : V) (hs : Hs) (K : Hs → Prop) : Prop := optP a.loc? fun n => optP b.int? fun i => optP u.int? fun j => optP (hs.hp.getD n .none).ints? fun xs =>
  at' i xs.length fun k => K ⟨hs.hp.set n (.ints (xs.set k j)), hs.mp⟩
/-- l.append(x) -/
noncomputable def appendD (x y : D) : Option D := orB (both x.ints? y.int?) (fun p => some (.ints (p.1 ++ [p.2]))) (optB x.elts? fun xs => some (.list (xs ++ [y])))
noncomputable def growV (n : Nat) (z : Option D) (hs : Hs) (K : Hs → Prop) : Prop := optP z fun z => optP (lenD z) fun k => k ≤ lim ∧ K ⟨hs.hp.set n z, hs.mp⟩
noncomputable def extendV (n : Nat) (v : V) (hs : Hs) (K : Hs → Prop) : Prop := growV n (catD (hs.hp.getD n .none) (deref hs v)) hs K

/-! ### expressions -/
noncomputable def evs (rec : Expr → Hs → KE → Prop) : List Expr → Hs → (List V → Hs → Prop) → Prop
  | [], hs, K => K [] hs
  | e :: r, hs, K => rec e hs fun v hs => evs rec r hs fun vs hs => K (v :: vs) hs
noncomputable def asD : V → Option D
  | .d x => some x
  | .loc _ => none
noncomputable def asDs (vs : List V) : Option (List D) := allSome (vs.map asD)
noncomputable def evOpt (rec : Expr → Hs → KE → Prop) (e : Option Expr) (hs : Hs) (K : Option V → Hs → Prop) : Prop := match e with
  | none => K none hs
  | some e => rec e hs fun v hs => K (some v) hs
noncomputable def boolE (rec : Expr → Hs → KE → Prop) (op : BoolOp) : List Expr → Hs → KE → Prop
  | [], _, _ => False
  | [e], hs, K => rec e hs K
  | e :: r, hs, K => rec e hs fun v hs => truthV v hs fun b => match op with
    | .And => br b (boolE rec op r hs K) (K v hs)
    | .Or => br b (K v hs) (boolE rec op r hs K)
noncomputable def sumI : List Int → Int
  | [] => 0
  | i :: r => i + sumI r
noncomputable def biCall (id : Bi) (vs : List V) (hs : Hs) (K : KE) : Prop := optP (one vs) fun v => match id with
  | .len => optP (lenD (deref hs v)) fun n => n < 2 ^ 62 ∧ K (.d (.int n)) hs
  | .sum => optP (deref hs v).ints? fun xs => xs.length ≤ lim ∧ K (.d (.int xs.sum)) hs
  | .range => optP v.int? fun n => (small n) ∧ K (.d (.rng n)) hs
  | _ => False
noncomputable def stays (g : Option (Nat × D)) (hs : Hs) : Prop := match g with
  | none => True
  | some (n, d) => hs.hp.getD n .none = d
noncomputable def callD (call : CallR) (m : Bool) (f : D) (vs : List V) (hs : Hs) (K : KE) : Prop := match f with
  | .fn b x => call m b x vs hs K
  | .meth x => call m true x (.d .mpu :: vs) hs K
  | .bi id => biCall id vs hs K
  | _ => False
noncomputable def callV (call : CallR) (m : Bool) (f : V) (vs : List V) (hs : Hs) (K : KE) : Prop := optP f.d? fun f => callD call m f vs hs K
noncomputable def argNs (a : Arguments) : Option (List Str) := if plainArgs a then some (a.args.map (·.arg)) else none
/-- a class called with keywords -/
noncomputable def V.isCls : V → Bool
  | .d .cls => true
  | _ => false
theorem V.isCls_eq {v : V} (h : v.isCls = true) : v = .d .cls := by
  cases v with
  | loc _ => exact ff h
  | d x => cases x <;> first | rfl | exact ff h
noncomputable def V.isNone : V → Bool
  | .d .none => true
  | _ => false
theorem V.isNone_eq {v : V} (h : v.isNone = true) : v = .d .none := by
  cases v with
  | loc _ => exact ff h
  | d x => cases x <;> first | rfl | exact ff h
noncomputable def initNs : List Str → List Str → Bool
  | _ :: as, ns => sameNs as ns
  | [], _ => false
noncomputable def newV (X : PX) (call : CallR) (f : V) (ns : Option (List Str)) (vs : List V) (hs : Hs) (K : KE) : Prop :=
  need (f.isCls && hs.mp.isNone) <| optP (fnOf X true "__init__") fun F => optP (argNs F.args) fun as => optP ns fun ns =>
  need (initNs as ns) (call false true "__init__" (.d .mpu :: vs) ⟨hs.hp, some []⟩ fun r hs => need r.isNone (K (.d .mpu) hs))
noncomputable def D.fn? : D → Option Str
  | .fn _ y => some y
  | _ => Option.none
noncomputable def isMeth (X : PX) (x : Str) (f : Loc) : Option Str := noB (sLook x f).isSome (optB (clsD X x) D.fn?)
theorem D.fn_eq {d : D} {y : Str} (h : d.fn? = some y) : ∃ m, d = .fn m y := by
  cases d with
  | fn m y => exact ⟨m, congrArg (D.fn m) (some_eq h)⟩
  | _ => exact none_some h
theorem boundD_cases (d : D) : (∃ m y, d = .fn m y) ∨ ((∀ m y, d ≠ .fn m y) ∧ boundD d = d) := by
  cases d with
  | fn m y => exact .inl ⟨m, y, rfl⟩
  | _ => exact .inr ⟨fun m y e => (nomatch e), rfl⟩
inductive Tg where
  | m (y : Str) | app (n : Nat) | ext (n : Nat)
noncomputable def tgL (x : Str) (n : Nat) : Option Tg := if sEq x (Str.ofString "append") then some (.app n) else if sEq x (Str.ofString "extend") then some (.ext n) else none
theorem tgL_cases {x : Str} {n : Nat} {t : Tg} (h : tgL x n = some t) : (x = Str.ofString "append" ∧ t = .app n) ∨ (x = Str.ofString "extend" ∧ t = .ext n) := by
  unfold tgL at h
  by_cases q : sEq x (Str.ofString "append") = true
  · rw [if_pos q] at h; exact .inl ⟨sEq_iff.mp q, (some_eq h).symm⟩
  · rw [if_neg q] at h
    obtain ⟨q, h⟩ := if_some rfl h
    exact .inr ⟨sEq_iff.mp q, (some_eq h).symm⟩
noncomputable def tgOf (X : PX) (o : V) (x : Str) (hs : Hs) : Option Tg := orB o.loc? (tgL x) (noB (!o.isMpu) (optB hs.mp fun f => optB (isMeth X x f) fun y => some (.m y)))
noncomputable def callTg (call : CallR) (m : Bool) (t : Tg) (vs : List V) (hs : Hs) (K : KE) : Prop := match t with
  | .m y => call m true y (.d .mpu :: vs) hs K
  | .app n => optP (one vs) fun v => optP v.d? fun y => growV n (appendD (hs.hp.getD n .none) y) hs fun hs => K (.d .none) hs
  | .ext n => optP (one vs) fun v => extendV n v hs fun hs => K (.d .none) hs
noncomputable def itemsD : D → Option (List D)
  | .ints xs => some (xs.map .int)
  | .list xs => some xs
  | .rng n => some ((List.range n.toNat).map fun (i : Nat) => D.int i)
  | _ => none
noncomputable def enumFrom : Nat → List D → List D
  | _, [] => []
  | n, x :: r => .tup [.int n, x] :: enumFrom (n + 1) r
noncomputable def isRng : D → Bool
  | .rng _ => true
  | _ => false
noncomputable def smallR : D → Prop
  | .rng n => small n
  | _ => True
/-- what a for walks over: the items, and the list that must stay -/
noncomputable def guardOf (v : V) (hs : Hs) : Option (Nat × D) := optB v.loc? fun n => some (n, deref hs v)
noncomputable def iterE (rec : Expr → Hs → KE → Prop) (isEnum : Expr → Option Expr) (t e : Expr) (hs : Hs) (K : List D → Option (Nat × D) → Hs → Prop) : Prop :=
  orP (isEnum e) (fun e => need (isTupE t) (rec e hs fun v hs => need (!isRng (deref hs v)) (optP (itemsD (deref hs v)) fun xs => K (enumFrom 0 xs) (guardOf v hs) hs)))
    (rec e hs fun v hs => smallR (deref hs v) ∧ optP (itemsD (deref hs v)) fun xs => K xs (guardOf v hs) hs)
noncomputable def isGI : Option NameKind → Bool
  | some .globalImplicit => true
  | _ => false
noncomputable def D.isEnum : D → Bool
  | .bi .enum => true
  | _ => false
noncomputable def isEnumN (X : PX) (sc : Names) (x : Str) : Bool := isGI (sLook x sc) && (match glob X x with | some d => d.isEnum | none => false)
noncomputable def callP : Expr → Option (Expr × List Expr × List Keyword)
  | .Call f args kws _ => some (f, args, kws)
  | _ => none
noncomputable def enumOf (X : PX) (sc : Names) (e : Expr) : Option Expr := optB (callP e) fun q => optB (nameP1 q.1) fun x => optB (one q.2.1) fun e => noB (!(q.2.2.isEmpty && isEnumN X sc x && okArgsE [e])) (some e)
noncomputable def storable (k : Option NameKind) : Bool := match k with
  | some .local | some .cell => true
  | _ => false
noncomputable def locK (k : Option NameKind) : Bool := match k with
  | some .local => true
  | _ => false
/-- names bound to an item (a name, or a tuple of names) -/
noncomputable def bindNs (sc : Names) : List Expr → List D → Loc → Option Loc
  | [], [], loc => some loc
  | e :: es, d :: ds, loc => optB (nameQ e) fun q => noB (!locK (sLook q.1 sc)) (bindNs sc es ds (putL q.1 (.d d) loc))
  | _, _, _ => none
noncomputable def bindT (sc : Names) (t : Expr) (d : D) (loc : Loc) : Option Loc := match t with
  | .Name x _ => if locK (sLook x sc) then some (putL x (.d d) loc) else none
  | .Tuple ts _ _ => optB d.tup? fun ds => bindNs sc ts ds loc
  | _ => none
noncomputable def ifsE (rec : Expr → Hs → KE → Prop) : List Expr → Hs → (Bool → Hs → Prop) → Prop
  | [], hs, K => K true hs
  | e :: r, hs, K => rec e hs fun v hs => truthV v hs fun b => br b (ifsE rec r hs K) (K false hs)
noncomputable def compL (rec : Loc → Expr → Hs → KE → Prop) (sc : Names) (t elt : Expr) (ifs : List Expr) (g : Option (Nat × D)) (K : List D → Hs → Prop) : List D → Loc → Hs → List D → Prop
  | [], _, hs, acc => stays g hs ∧ K acc.reverse hs
  | x :: r, loc, hs, acc => stays g hs ∧ optP (bindT sc t x loc) fun loc => ifsE (rec loc) ifs hs fun b hs => br b (rec loc elt hs fun v hs => optP v.d? fun y => compL rec sc t elt ifs g K r loc hs (y :: acc)) (compL rec sc t elt ifs g K r loc hs acc)
/-- how the names of a comprehension's own block read -/
noncomputable def isCell : Option NameKind → Bool
  | some .cell => true
  | _ => false
noncomputable def compKind (sc : Names) (x : Str) (k : NameKind) : NameKind := match isFr k && isCell (sLook x sc) with
  | true => .cell
  | false => k
noncomputable def compSc (sc : Names) (own : Names) : Names := own.map fun p => (p.1, compKind sc p.1 p.2)
noncomputable def dropNames (own : Names) : Loc → Loc
  | [] => []
  | p :: r => match isLoc0 (sLook p.1 own) with
    | true => dropNames own r
    | false => p :: dropNames own r

noncomputable abbrev Ev := Expr → Hs → KE → Prop
noncomputable def cmpE (rec : Ev) (l : Expr) (ops : List CmpOp) (rs : List Expr) (hs : Hs) (K : KE) : Prop := match ops with
  | [op] => (match rs with
    | [r] => need (notSet r) (rec l hs fun a hs => rec r hs fun b hs => cmpV op a b hs fun c => K (.d (.bool c)) hs)
    | _ => False)
  | _ => False
noncomputable def attrP : Expr → Option (Expr × Str × Pos)
  | .Attribute o x ap => some (o, x, ap)
  | _ => none
noncomputable def callA (X : PX) (call : CallR) (rec : Ev) (m : Bool) (o : Expr) (x : Str) (ap : Pos) (args : List Expr) (kws : List Keyword) (p : Pos) (hs : Hs) (K : KE) : Prop := match kws with
  | [] => need (okArgsE args && okBase o && Nat.beq ap.endLine p.line) (rec o hs fun ov hs => optP (tgOf X ov x hs) fun t => evs rec args hs fun vs hs => callTg call m t vs hs K)
  | _ :: _ => False
noncomputable def callF (X : PX) (call : CallR) (rec : Ev) (m : Bool) (f : Expr) (args : List Expr) (kws : List Keyword) (hs : Hs) (K : KE) : Prop := match kws with
  | [] => need (okArgsE args) (rec f hs fun fv hs => evs rec args hs fun vs hs => callV call m fv vs hs K)
  | k :: ks => (match args with
    | [] => optP (kwNs (k :: ks)) fun ns => rec f hs fun fv hs => evs rec ((k :: ks).map (·.value)) hs fun vs hs => newV X call fv (some ns) vs hs K
    | _ :: _ => False)
noncomputable def callE (X : PX) (call : CallR) (rec : Ev) (m : Bool) (f : Expr) (args : List Expr) (kws : List Keyword) (p : Pos) (hs : Hs) (K : KE) : Prop := match attrP f with
  | some (o, x, ap) => callA X call rec m o x ap args kws p hs K
  | none => callF X call rec m f args kws hs K
noncomputable def sliceP : Expr → Option (Option Expr × Option Expr × Option Expr)
  | .Slice lo hi st _ => some (lo, hi, st)
  | _ => none
noncomputable def subE (rec : Ev) (m : Bool) (o i : Expr) (hs : Hs) (K : KE) : Prop := match sliceP i with
  | some (lo, hi, st) => need st.isNone (rec o hs fun ov hs => evOpt rec lo hs fun l hs => evOpt rec hi hs fun h hs => sliceV m ov l h hs K)
  | none => rec o hs fun ov hs => rec i hs fun iv hs => itemV ov iv hs K
noncomputable def genP (gens : List Comprehension) : Option (Expr × Expr × List Expr) := optB (one gens) fun g => noB (!decide (g.is_async = 0)) (some (g.target, g.iter, g.ifs))
noncomputable def stepE (X : PX) (call : CallR) (rec : RecE) : RecE := fun sc m e loc hs K => match e with
  | .Constant c _ _ => optP (constD c) fun d => K (.d d) hs
  | .Name x _ => evName X sc x loc hs K
  | .BinOp l op r _ => rec sc false l loc hs fun a hs => rec sc false r loc hs fun b hs => binOpV op m a b hs K
  | .UnaryOp op x _ => rec sc false x loc hs fun a hs => unOpV op a hs K
  | .BoolOp op es _ => boolE (fun e => rec sc false e loc) op es hs K
  | .IfExp t a b _ => rec sc false t loc hs fun v hs => truthV v hs fun c => br c (rec sc m a loc hs K) (rec sc m b loc hs K)
  | .List es _ => need (noStar es && Nat.ble es.length 2000) (evs (fun e => rec sc false e loc) es hs fun vs hs => optP (asDs vs) fun ds => alloc m (mkList ds) hs K)
  | .Tuple es _ _ => need (noStar es && Nat.ble es.length 2000) (evs (fun e => rec sc false e loc) es hs fun vs hs => optP (asDs vs) fun ds => K (.d (.tup ds)) hs)
  | .Compare l ops rs _ => cmpE (fun e => rec sc false e loc) l ops rs hs K
  | .Call f args kws p => callE X call (fun e => rec sc false e loc) m f args kws p hs K
  | .Attribute o x _ => need (okBase o) (rec sc false o loc hs fun ov hs => getAttrV X ov x hs K)
  | .Subscript o i _ => subE (fun e => rec sc false e loc) m o i hs K
  | .ListComp elt gens scope _ => optP (genP gens) fun q => need (okComp sc scope && notSet q.2.1) (iterE (fun e => rec sc false e loc) (enumOf X sc) q.1 q.2.1 hs fun xs g hs => xs.length ≤ lim ∧
      compL (fun loc e => rec (compSc sc scope.names) false e loc) (compSc sc scope.names) q.1 elt q.2.2 g (fun ds hs => alloc m (mkList ds) hs K) xs (dropNames scope.names loc) hs [])
  | _ => False
noncomputable def evE (X : PX) (call : CallR) : Nat → RecE
  | 0 => fun _ _ _ _ _ _ => False
  | n + 1 => stepE X call (evE X call n)

/-! ### statements -/
noncomputable def exL (rs : RecS) : List Stmt → Loc → Hs → KS → Prop
  | [], loc, hs, K => K .next loc hs
  | s :: r, loc, hs, K => rs s loc hs fun f loc hs => match f with
    | .next => exL rs r loc hs K
    | .brk => K .brk loc hs
    | .cont => K .cont loc hs
    | .ret v => K (.ret v) loc hs
noncomputable def tupP : Expr → Option (List Expr)
  | .Tuple ts _ _ => some ts
  | _ => none
noncomputable def asg1 (sc : Names) (rec : Expr → Loc → Hs → KE → Prop) (t : Expr) (v : V) (loc : Loc) (hs : Hs) (K : Loc → Hs → Prop) : Prop := match t with
  | .Name x _ => need (storable (sLook x sc)) (K (putL x v loc) hs)
  | .Attribute o x _ => rec o loc hs fun ov hs => setAttrV ov x v hs fun hs => K loc hs
  | .Subscript o i _ => need (!isSliceE i) (rec o loc hs fun ov hs => rec i loc hs fun iv hs => setItemV ov iv v hs fun hs => K loc hs)
  | _ => False
noncomputable def asgs (sc : Names) (rec : Expr → Loc → Hs → KE → Prop) : List Expr → List D → Loc → Hs → (Loc → Hs → Prop) → Prop
  | [], [], loc, hs, K => K loc hs
  | t :: ts, d :: ds, loc, hs, K => asg1 sc rec t (.d d) loc hs fun loc hs => asgs sc rec ts ds loc hs K
  | _, _, _, _, _ => False
noncomputable def asg (sc : Names) (rec : Expr → Loc → Hs → KE → Prop) (t : Expr) (v : V) (loc : Loc) (hs : Hs) (K : Loc → Hs → Prop) : Prop :=
  orP (tupP t) (fun ts => optP v.d? fun d => orP d.tup? (fun ds => need (Nat.beq ts.length ds.length && noStar ts) (asgs sc rec ts ds loc hs K)) (optP d.ints? fun is => need (Nat.beq ts.length is.length && noStar ts && Nat.ble 1 is.length) (asgs sc rec ts (is.map .int) loc hs K)))
    (asg1 sc rec t v loc hs K)
noncomputable def forL (bind : D → Loc → Hs → (Loc → Hs → Prop) → Prop) (body : Loc → Hs → KS → Prop) (g : Option (Nat × D)) (K : KS) : List D → Loc → Hs → Prop
  | [], loc, hs => stays g hs ∧ K .next loc hs
  | x :: r, loc, hs => stays g hs ∧ bind x loc hs fun loc hs => body loc hs fun f loc hs => match f with
    | .next => forL bind body g K r loc hs
    | .cont => forL bind body g K r loc hs
    | .brk => K .next loc hs
    | .ret v => K (.ret v) loc hs
noncomputable def whileN (test : Loc → Hs → (Bool → Hs → Prop) → Prop) (body : Loc → Hs → KS → Prop) (K : KS) : Nat → Loc → Hs → Prop
  | 0, _, _ => False
  | n + 1, loc, hs => test loc hs fun b hs => br b (body loc hs fun f loc hs => match f with
    | .next => whileN test body K n loc hs
    | .cont => whileN test body K n loc hs
    | .brk => K .next loc hs
    | .ret v => K (.ret v) loc hs) (K .next loc hs)
noncomputable def mutT (X : PX) : Expr → Bool
  | .Name x _ => sMem x X.muts
  | _ => false
noncomputable def augV (op : Operator) (old v : V) (hs : Hs) (K : KE) : Prop := optP old.int? fun i => optP v.int? fun j => binInt op i j hs K
noncomputable def augS (X : PX) (sc : Names) (ev : Expr → Loc → Hs → KE → Prop) (t : Expr) (op : Operator) (e : Expr) (loc : Loc) (hs : Hs) (K : KS) : Prop := match t with
  | .Name x _ => need (storable (sLook x sc)) (evName X sc x loc hs fun old hs => ev e loc hs fun v hs => augV op old v hs fun w hs => K .next (putL x w loc) hs)
  | .Attribute o x _ => ev o loc hs fun ov hs => getAttrV X ov x hs fun old hs => ev e loc hs fun v hs => augV op old v hs fun w hs => setAttrV ov x w hs fun hs => K .next loc hs
  | .Subscript o i _ => need (!isSliceE i) <| ev o loc hs fun ov hs => ev i loc hs fun iv hs => itemV ov iv hs fun old hs => ev e loc hs fun v hs => augV op old v hs fun w hs => setItemV ov iv w hs fun hs => K .next loc hs
  | _ => False
noncomputable def stepS (X : PX) (sc : Names) (rm : Bool) (ev : Bool → Expr → Loc → Hs → KE → Prop) (rec : RecS) : RecS := fun s loc hs K => match s with
  | .Expr e _ => need (isCall e) (ev false e loc hs fun _ hs => K .next loc hs)
  | .Pass _ => K .next loc hs
  | .Break _ => K .brk loc hs
  | .Continue _ => K .cont loc hs
  | .Return o _ => (match o with
    | none => K (.ret (.d .none)) loc hs
    | some e => ev rm e loc hs fun v hs => K (.ret v) loc hs)
  | .Assign ts e _ => (match ts with
    | [t] => need (okSwap t e) (ev (mutT X t) e loc hs fun v hs => asg sc (ev false) t v loc hs fun loc hs => K .next loc hs)
    | _ => False)
  | .AugAssign t op e _ => augS X sc (ev false) t op e loc hs K
  | .If t a b _ => ev false t loc hs fun v hs => truthV v hs fun c => br c (exL rec a loc hs K) (exL rec b loc hs K)
  | .While t body els _ => need els.isEmpty (∃ n, whileN (fun loc hs k => ev false t loc hs fun v hs => truthV v hs fun c => k c hs) (exL rec body) K n loc hs)
  | .For t it body els _ => need els.isEmpty (need (notSet it) (iterE (fun e => ev false e loc) (enumOf X sc) t it hs fun xs g hs => forL (fun d loc hs k => asg sc (ev false) t (.d d) loc hs k) (exL rec body) g K xs loc hs))
  | _ => False
noncomputable def evS (X : PX) (sc : Names) (rm : Bool) (ev : Bool → Expr → Loc → Hs → KE → Prop) : Nat → RecS
  | 0 => fun _ _ _ _ => False
  | n + 1 => stepS X sc rm ev (evS X sc rm ev n)

/-! ### calls -/
noncomputable def zipA : List Str → List V → Option Loc
  | [], [] => some []
  | x :: xs, v :: vs => optB (zipA xs vs) fun l => some ((x, v) :: l)
  | _, _ => none
noncomputable def retV : Fl → V
  | .ret v => v
  | _ => .d .none
noncomputable def depthE : Nat := 40
noncomputable def depthS : Nat := 12
noncomputable def bodyE (X : PX) (call : CallR) (rm : Bool) (F : Fn) (loc : Loc) (hs : Hs) (K : KS) : Prop :=
  exL (evS X F.scope.names rm (fun m e => evE X call depthE F.scope.names m e) depthS) F.body loc hs K
noncomputable def noFree : Names → Bool
  | [] => true
  | p :: r => !isFr p.2 && noFree r
noncomputable def okParams (ns : Names) : List Str → Bool
  | [] => true
  | x :: r => storable (sLook x ns) && okParams ns r
noncomputable def nodupS : List Str → Bool
  | [] => true
  | x :: r => !sMem x r && nodupS r
noncomputable def okFn (F : Fn) (ns : List Str) : Bool := nodupS ns && isFn? F.scope.kind && !F.scope.isCoroutine && !F.scope.isGenerator && noFree F.scope.names && nodupN F.scope.names && noDebug F.scope.names && okParams F.scope.names ns
/-- what is left of the lists that a call made -/
noncomputable def retC (cu : Bool) (n : Nat) (v : V) (hs : Hs) (K : KE) : Prop := match cu with
  | true => optP v.d? fun x => need hs.mp.isNone (K (.d x) ⟨hs.hp.take n, none⟩)
  | false => K v hs
noncomputable def callN (X : PX) : Nat → CallR
  | 0 => fun _ _ _ _ _ _ => False
  | n + 1 => fun m b x vs hs K => optP (fnOf X b x) fun F => optP (argNs F.args) fun ns => optP (zipA ns vs) fun loc =>
    need (okFn F ns) (bodyE X (callN X n) m F loc hs fun f _ hs' => retC (!b && sMem x X.cuts) hs.hp.length (retV f) hs' K)
end Mine
set_option genSizeOf false
set_option genInjectivity false
set_option maxRecDepth 100000
namespace Mine
open PySem PySem.W PySem.Calls PyProof.Rows

/-! ## how the plain values stand in the heap -/
structure Stat where
  P : Program
  w : World
  X : PX
  G₀ : Addr → Option Obj
  fa : Bool → Str → Option Addr
  ca : Addr
  os : OsState
structure Cn where
  G : Addr → Option Obj
  ρ : List Addr
  mx : Option (Addr × Addr)
noncomputable def Sub (G : Addr → Option Obj) (h : Heap) : Prop := ∀ b o, G b = some o → h.get? b = some o
noncomputable abbrev listO (vs : List Value) (n : Nat) : Obj := ⟨.type "list", none, .seq vs.toArray n, #[]⟩
noncomputable abbrev tupO (vs : List Value) (n : Nat) : Obj := ⟨.type "tuple", none, .seq vs.toArray n, #[]⟩
noncomputable def biV : Bi → Value
  | .range => .type "range"
  | .enum => .type "enumerate"
  | b => .builtin b.id

inductive RSeq (G : Addr → Option Obj) (m : List Value → Nat → Obj) (R : List Value → Prop) (v : Value) : Prop
  | mk (a : Addr) (vs : List Value) (n : Nat) (e : v = .ref a) (g : G a = some (m vs n)) (r : R vs) : RSeq G m R v
inductive RMeth (Z : Stat) (c : Cn) (x : Str) (v : Value) : Prop
  | mk (a f q d : Addr) (e : v = .ref a) (e2 : Z.fa true x = some f) (e3 : c.mx = some (q, d)) (g : c.G a = some (methodObj (.ref f) (.ref q))) : RMeth Z c x v
inductive RMpu (c : Cn) (v : Value) : Prop
  | mk (q d : Addr) (e : v = .ref q) (e3 : c.mx = some (q, d)) : RMpu c v
inductive RRng (G : Addr → Option Obj) (n : Int) (v : Value) : Prop
  | mk (a : Addr) (t u x : Tok) (e : v = .ref a) (g : G a = some { cls := .type "range", dict := none, data := .fields #[.int 0 t, .int n u, .int 1 x], slots := #[] }) : RRng G n v
inductive RArg (G : Addr → Option Obj) (xs : List Int) (v : Value) : Prop
  | mk (a : Addr) (o : Obj) (vs : Array Value) (n : Nat) (e : v = .ref a) (g : G a = some o) (r1 : o.cls = .type "list") (r2 : o.data = .seq vs n) (r3 : IntsAre vs.toList xs) : RArg G xs v
inductive RDict (Z : Stat) (G : Addr → Option Obj) (R : List (Int × Value) → Prop) (v : Value) : Prop
  | mk (a : Addr) (o : Obj) (kvs : List (Int × Value)) (e : v = .ref a) (g : G a = some o) (i : o.IsDictOf (intKind Z.P Z.w) kvs) (r : R kvs) : RDict Z G R v
inductive RCons {α : Type} (P : α → Prop) (R : List α → Prop) (vs : List α) : Prop
  | mk (v : α) (r : List α) (e : vs = v :: r) (h1 : P v) (h2 : R r) : RCons P R vs
inductive RKey (k : Int) (P : Value → Prop) (R : List (Int × Value) → Prop) (kvs : List (Int × Value)) : Prop
  | mk (v : Value) (r : List (Int × Value)) (e : kvs = (k, v) :: r) (h1 : P v) (h2 : R r) : RKey k P R kvs
inductive RLoc (ρ : List Addr) (n : Nat) (v : Value) : Prop
  | mk (a : Addr) (h : ρ[n]? = some a) (e : v = .ref a) : RLoc ρ n v
mutual
noncomputable def RepD (Z : Stat) (c : Cn) : D → Value → Prop
  | .none, v => v = .none
  | .bool b, v => v = .bool b
  | .int i, v => ∃ t, v = .int i t
  | .str x, v => ∃ t, v = .str x t
  | .tup xs, v => RSeq c.G tupO (fun vs => RepDs Z c xs vs) v
  | .list xs, v => RSeq c.G listO (fun vs => RepDs Z c xs vs) v
  | .ints xs, v => RSeq c.G listO (fun vs => IntsAre vs xs) v
  | .fn m x, v => ∃ a, v = .ref a ∧ Z.fa m x = some a
  | .meth x, v => RMeth Z c x v
  | .bi b, v => v = biV b
  | .cls, v => v = .ref Z.ca
  | .mpu, v => RMpu c v
  | .rng n, v => RRng c.G n v
  | .arg xs, v => RArg c.G xs v
  | .dict xs, v => RDict Z c.G (fun kvs => RepKs Z c xs kvs) v
noncomputable def RepKs (Z : Stat) (c : Cn) : List (Int × D) → List (Int × Value) → Prop
  | [], kvs => kvs = []
  | (k, x) :: xs, kvs => RKey k (fun v => RepD Z c x v) (fun r => RepKs Z c xs r) kvs
noncomputable def RepDs (Z : Stat) (c : Cn) : List D → List Value → Prop
  | [], vs => vs = []
  | x :: xs, vs => RCons (fun v => RepD Z c x v) (fun r => RepDs Z c xs r) vs
end
noncomputable def RepV (Z : Stat) (c : Cn) : V → Value → Prop
  | .d x, v => RepD Z c x v
  | .loc n, v => RLoc c.ρ n v
noncomputable def RepF (Z : Stat) (c : Cn) : Fl → Flow → Prop
  | .next, f => f = .next
  | .brk, f => f = .brk
  | .cont, f => f = .cont
  | .ret V, f => ∃ v, f = .ret v ∧ RepV Z c V v
noncomputable def RepVs (Z : Stat) (c : Cn) : List V → List Value → Prop
  | [], vs => vs = []
  | x :: xs, vs => RCons (fun v => RepV Z c x v) (fun r => RepVs Z c xs r) vs

structure Cn.le (c c' : Cn) : Prop where
  g : ∀ (b : Addr) (o : Obj), c.G b = some o → c'.G b = some o
  ρ : ∀ (n : Nat) (a : Addr), c.ρ[n]? = some a → c'.ρ[n]? = some a
  mx : ∀ p, c.mx = some p → c'.mx = some p
theorem Cn.le.refl (c : Cn) : c.le c := ⟨fun _ _ h => h, fun _ _ h => h, fun _ h => h⟩
theorem Cn.le.trans {a b c : Cn} (x : a.le b) (y : b.le c) : a.le c := ⟨fun p o h => y.g p o (x.g p o h), fun p o h => y.ρ p o (x.ρ p o h), fun p h => y.mx p (x.mx p h)⟩

structure Cn.leG (c c' : Cn) : Prop where
  g : ∀ (b : Addr) (o : Obj), c.G b = some o → c'.G b = some o
  mx : ∀ p, c.mx = some p → c'.mx = some p
theorem Cn.le.toG {c c' : Cn} (l : c.le c') : c.leG c' := ⟨l.g, l.mx⟩
mutual
theorem RepD.monoG {Z : Stat} {c c' : Cn} (l : c.leG c') : ∀ (x : D) (v : Value), RepD Z c x v → RepD Z c' x v
  | .none, v, h => h
  | .bool b, v, h => h
  | .int i, v, h => h
  | .str i, v, h => h
  | .tup xs, v, h => by
    obtain ⟨a, vs, n, e, g, r⟩ := h
    exact ⟨a, vs, n, e, l.g _ _ g, RepDs.monoG l xs vs r⟩
  | .list xs, v, h => by
    obtain ⟨a, vs, n, e, g, r⟩ := h
    exact ⟨a, vs, n, e, l.g _ _ g, RepDs.monoG l xs vs r⟩
  | .ints xs, v, h => by
    obtain ⟨a, vs, n, e, g, r⟩ := h
    exact ⟨a, vs, n, e, l.g _ _ g, r⟩
  | .fn m x, v, h => h
  | .meth x, v, h => by
    obtain ⟨a, f, q, d, e, e2, e3, g⟩ := h
    exact ⟨a, f, q, d, e, e2, l.mx _ e3, l.g _ _ g⟩
  | .bi b, v, h => h
  | .cls, v, h => h
  | .mpu, v, h => by
    obtain ⟨q, d, e, e3⟩ := h
    exact ⟨q, d, e, l.mx _ e3⟩
  | .rng n, v, h => by
    obtain ⟨a, t, u, x, e, g⟩ := h
    exact ⟨a, t, u, x, e, l.g _ _ g⟩
  | .arg xs, v, h => by
    obtain ⟨a, o, vs, n, e, g, r1, r2, r3⟩ := h
    exact ⟨a, o, vs, n, e, l.g _ _ g, r1, r2, r3⟩
  | .dict xs, v, h => by
    obtain ⟨a, o, kvs, e, g, i, r⟩ := h
    exact ⟨a, o, kvs, e, l.g _ _ g, i, RepKs.monoG l xs kvs r⟩
theorem RepKs.monoG {Z : Stat} {c c' : Cn} (l : c.leG c') : ∀ (xs : List (Int × D)) (kvs : List (Int × Value)), RepKs Z c xs kvs → RepKs Z c' xs kvs
  | [], vs, h => h
  | (k, x) :: xs, vs, h => by
    obtain ⟨v, r, e, h1, h2⟩ := h
    exact ⟨v, r, e, RepD.monoG l x v h1, RepKs.monoG l xs r h2⟩
theorem RepDs.monoG {Z : Stat} {c c' : Cn} (l : c.leG c') : ∀ (xs : List D) (vs : List Value), RepDs Z c xs vs → RepDs Z c' xs vs
  | [], vs, h => h
  | x :: xs, vs, h => by
    obtain ⟨v, r, e, h1, h2⟩ := h
    exact ⟨v, r, e, RepD.monoG l x v h1, RepDs.monoG l xs r h2⟩
end
theorem RepD.mono {Z : Stat} {c c' : Cn} (l : c.le c') (x : D) (v : Value) (h : RepD Z c x v) : RepD Z c' x v := RepD.monoG l.toG x v h
theorem RepDs.mono {Z : Stat} {c c' : Cn} (l : c.le c') (xs : List D) (vs : List Value) (h : RepDs Z c xs vs) : RepDs Z c' xs vs := RepDs.monoG l.toG xs vs h
theorem look_cons {k i : Int} {x : D} {xs : List (Int × D)} : ((k, x) :: xs).lookup i = if k = i then some x else xs.lookup i := by
  rw [List.lookup_cons]
  by_cases q : k = i
  · rw [if_pos q, q, beq_self_eq_true]
  · rw [if_neg q, beq_false_of_ne (Ne.symm q)]
theorem valueAt_cons {k i : Int} {x : Value} {xs : List (Int × Value)} : valueAt ((k, x) :: xs) i = if k = i then some x else valueAt xs i := by
  unfold valueAt
  rw [List.find?_cons]
  by_cases q : k = i
  · rw [if_pos q, decide_eq_true q]; rfl
  · rw [if_neg q, decide_eq_false q]
theorem RepKs.lookup {Z : Stat} {c : Cn} {i : Int} {d : D} : ∀ {xs : List (Int × D)} {kvs : List (Int × Value)}, RepKs Z c xs kvs → xs.lookup i = some d → ∃ v, valueAt kvs i = some v ∧ RepD Z c d v
  | [], kvs, h, e => none_some e
  | (k, x) :: xs, kvs, h, e => by
    obtain ⟨v, r, rfl, h1, h2⟩ := h
    rw [look_cons] at e
    rw [valueAt_cons]
    by_cases q : k = i
    · rw [if_pos q] at e ⊢
      exact ⟨v, rfl, some_eq e ▸ h1⟩
    · rw [if_neg q] at e ⊢
      exact RepKs.lookup h2 e
theorem RepV.mono {Z : Stat} {c c' : Cn} (l : c.le c') : ∀ {x : V} {v : Value}, RepV Z c x v → RepV Z c' x v
  | .d x, v, h => RepD.mono l x v h
  | .loc n, v, h => by
    obtain ⟨a, e, r⟩ := h
    exact ⟨a, l.ρ _ _ e, r⟩
theorem RepVs.mono {Z : Stat} {c c' : Cn} (l : c.le c') : ∀ {xs : List V} {vs : List Value}, RepVs Z c xs vs → RepVs Z c' xs vs
  | [], vs, h => h
  | x :: xs, vs, h => by
    obtain ⟨v, r, e, h1, h2⟩ := h
    exact ⟨v, r, e, h1.mono l, RepVs.mono l h2⟩
theorem RepF.mono {Z : Stat} {c c' : Cn} (l : c.le c') : ∀ {x : Fl} {v : Flow}, RepF Z c x v → RepF Z c' x v
  | .next, _, h => h
  | .brk, _, h => h
  | .cont, _, h => h
  | .ret V, _, h => by
    obtain ⟨v, e, r⟩ := h
    exact ⟨v, e, r.mono l⟩
theorem RepDs.length {Z : Stat} {c : Cn} : ∀ {xs : List D} {vs : List Value}, RepDs Z c xs vs → xs.length = vs.length
  | [], vs, h => by obtain rfl : vs = [] := h; rfl
  | x :: xs, vs, h => by
    obtain ⟨v, r, rfl, h1, h2⟩ := h
    exact congrArg Nat.succ (RepDs.length h2)
theorem RepDs.get {Z : Stat} {c : Cn} : ∀ {xs : List D} {vs : List Value}, RepDs Z c xs vs → ∀ n, n < xs.length → ∃ v, vs[n]? = some v ∧ RepD Z c (xs.getD n .none) v
  | [], vs, h, n, hn => absurd hn (Nat.not_lt_zero n)
  | x :: xs, vs, h, n, hn => by
    obtain ⟨v, r, rfl, h1, h2⟩ := h
    cases n with
    | zero => exact ⟨v, rfl, h1⟩
    | succ n => exact RepDs.get h2 n (Nat.lt_of_succ_lt_succ hn)
inductive IA : List Value → List Int → Prop
  | nil : IA [] []
  | cons {i : Int} {t : Tok} {vs : List Value} {xs : List Int} : IA vs xs → IA (.int i t :: vs) (i :: xs)
theorem isI_eq {v : Value} {j : Int} (h : isI v j) : ∃ t, v = .int j t := by
  cases v with
  | int i t => exact ⟨t, (h : i = j) ▸ rfl⟩
  | _ => exact False.elim h
theorem ia_of : ∀ {vs : List Value} {xs : List Int}, IntsAre vs xs → IA vs xs
  | [], [], _ => .nil
  | [], _ :: _, h => h.elim
  | _ :: _, [], h => h.elim
  | _ :: vs, _ :: xs, h => let ⟨_, e⟩ := isI_eq h.1; e ▸ .cons (ia_of (vs := vs) (xs := xs) h.2)
theorem of_ia {vs : List Value} {xs : List Int} (h : IA vs xs) : IntsAre vs xs := by
  induction h with
  | nil => trivial
  | cons _ ih => exact ⟨rfl, ih⟩
theorem IntsAre.length' {vs : List Value} {xs : List Int} (h : IntsAre vs xs) : xs.length = vs.length := ints_length h
/-- the same, read another way -/
theorem ints_reps {Z : Stat} {c : Cn} {xs : List Int} {vs : List Value} (h : IA vs xs) : RepDs Z c (xs.map .int) vs := by
  induction h with
  | nil => rfl
  | cons _ ih => exact ⟨_, _, rfl, ⟨_, rfl⟩, ih⟩
theorem reps_ints {Z : Stat} {c : Cn} : ∀ {xs : List Int} {vs : List Value}, RepDs Z c (xs.map .int) vs → IntsAre vs xs
  | [], vs, h => by obtain rfl : vs = [] := h; trivial
  | x :: xs, vs, h => by
    obtain ⟨v, r, rfl, ⟨t, rfl⟩, h⟩ := h
    exact ⟨rfl, reps_ints h⟩
theorem ints_iff {Z : Stat} {c : Cn} {xs : List Int} {vs : List Value} : IntsAre vs xs ↔ RepDs Z c (xs.map .int) vs := ⟨fun h => ints_reps (ia_of h), reps_ints⟩
theorem toInts_spec : ∀ {ds : List D} {is : List Int}, toInts ds = some is → ds = is.map .int
  | [], is, h => some_eq h ▸ rfl
  | d :: ds, is, h => by
    obtain ⟨i, e, h⟩ := optB_iff h
    obtain ⟨l, e2, h⟩ := optB_iff h
    rw [D.int_eq e, toInts_spec e2, ← some_eq h, List.map_cons]
/-- a list's parts, as they stand -/
noncomputable def ListAs (Z : Stat) (c : Cn) : D → List Value → Prop
  | .ints xs, vs => IntsAre vs xs
  | .list xs, vs => RepDs Z c xs vs
  | _, _ => False
theorem mkList_as {Z : Stat} {c : Cn} {ds : List D} {vs : List Value} (h : RepDs Z c ds vs) : ListAs Z c (mkList ds) vs := by
  unfold mkList
  cases e : toInts ds with
  | some l => rw [toInts_spec e] at h; exact reps_ints h
  | none => exact h
theorem ListAs.mono {Z : Stat} {c c' : Cn} (l : c.le c') {x : D} {vs : List Value} (h : ListAs Z c x vs) : ListAs Z c' x vs := by
  cases x <;> first | exact h | exact RepDs.mono l _ _ h
theorem ListAs.rep {Z : Stat} {c : Cn} {x : D} {vs : List Value} (h : ListAs Z c x vs) {a : Addr} {n : Nat} (e : c.G a = some (listO vs n)) : RepD Z c x (.ref a) := by
  cases x <;> first | exact h.elim | exact ⟨a, vs, n, rfl, e, h⟩

/-! ### the heap's parts that may change, and those that may not -/
inductive isObj (Z : Stat) (c : Cn) (x : D) (o : Obj) : Prop
  | mk (vs : List Value) (n : Nat) (e : o = listO vs n) (r : ListAs Z c x vs) : isObj Z c x o
inductive FldEnts (Z : Stat) (c : Cn) : List DictEntry → Loc → Prop
  | nil : FldEnts Z c [] []
  | cons {e : DictEntry} {es : List DictEntry} {x : Str} {t : Tok} {u : V} {f : Loc} : e.key = .str x t → RepV Z c u e.val → FldEnts Z c es f → FldEnts Z c (e :: es) ((x, u) :: f)
inductive isFld (Z : Stat) (c : Cn) (f : Loc) (o : Obj) : Prop
  | mk (es : List DictEntry) (n : Nat) (e : o = dictOf es n) (r : FldEnts Z c es f) : isFld Z c f o
theorem FldEnts.mono {Z : Stat} {c c' : Cn} (l : c.le c') {es : List DictEntry} {f : Loc} (h : FldEnts Z c es f) : FldEnts Z c' es f := by
  induction h with
  | nil => exact .nil
  | cons a b _ ih => exact .cons a (b.mono l) ih
theorem isObj.mono {Z : Stat} {c c' : Cn} (l : c.le c') {x : D} {o : Obj} (h : isObj Z c x o) : isObj Z c' x o := let ⟨vs, n, e, r⟩ := h; ⟨vs, n, e, r.mono l⟩
theorem isFld.mono {Z : Stat} {c c' : Cn} (l : c.le c') {f : Loc} {o : Obj} (h : isFld Z c f o) : isFld Z c' f o := let ⟨vs, n, e, r⟩ := h; ⟨vs, n, e, r.mono l⟩

noncomputable abbrev Led := List (Addr × (Obj → Prop))
noncomputable def Led.At (l : Led) (h : Heap) : Prop := ∀ p ∈ l, ∃ o, h.get? p.1 = some o ∧ p.2 o
noncomputable def objLed (Z : Stat) (c : Cn) : List Addr → List D → Led
  | a :: r, x :: xs => (a, isObj Z c x) :: objLed Z c r xs
  | _, _ => []
noncomputable def mpLed (Z : Stat) (c : Cn) (mx : Option (Addr × Addr)) (mp : Option Loc) : Led := match mx, mp with
  | some (_, d), some f => [(d, isFld Z c f)]
  | none, none => []
  | _, _ => [(0, fun _ => False)]
noncomputable def ledOf (Z : Stat) (c : Cn) (hs : Hs) : Led := mpLed Z c c.mx hs.mp ++ objLed Z c c.ρ hs.hp
/-- the made object stands among what never changes -/
noncomputable def InstG (Z : Stat) (c : Cn) : Prop := ∀ q d, c.mx = some (q, d) → ∃ sl, c.G q = some ⟨.ref Z.ca, some d, .plain, sl⟩
structure Core (Z : Stat) (Kp : Addr → Option Obj) (c : Cn) (hs : Hs) (s : Shared) : Prop where
  base : ∀ b o, Z.G₀ b = some o → c.G b = some o
  sub : Sub c.G s.heap
  kp : Sub Kp s.heap
  dis : ∀ b o, Kp b = some o → c.G b = none
  len : c.ρ.length = hs.hp.length
  led : (ledOf Z c hs).At s.heap
  apart : ((ledOf Z c hs).map (·.1)).Nodup
  free : ∀ p ∈ ledOf Z c hs, c.G p.1 = none ∧ Kp p.1 = none
  inst : InstG Z c
  gens : s.gens = #[]
  os : s.os = Z.os
end Mine
set_option genSizeOf false
set_option genInjectivity false
set_option maxRecDepth 100000
namespace Mine
open PySem PySem.W PySem.Calls PyProof.Rows

noncomputable def Cn.addG (c : Cn) (a : Addr) (o : Obj) : Cn := { c with G := fun b => if b = a then some o else c.G b }
noncomputable def Cn.addL (c : Cn) (a : Addr) : Cn := { c with ρ := c.ρ ++ [a] }
noncomputable def updK (K : Addr → Option Obj) (a : Addr) (o : Obj) : Addr → Option Obj := fun b => if b = a then some o else K b
theorem no2 {α : Type} {x : Option α} {o : α} {P : Prop} (h : x = none) (e : x = some o) : P := none_some (h.symm.trans e)
theorem ne_of {α : Type} {K : Addr → Option α} {a b : Addr} {o : α} (h : K a = none) (e : K b = some o) : b ≠ a := fun q => no2 (q ▸ h) e
theorem upd_ne {K : Addr → Option Obj} {a b : Addr} {o : Obj} (h : b ≠ a) : (if b = a then some o else K b) = K b := if_neg h
theorem upd_some {K : Addr → Option Obj} {a b : Addr} {o o' : Obj} {P : Prop} (e : (if b = a then some o else K b) = some o') (h1 : b = a → o = o' → P) (h2 : b ≠ a → K b = some o' → P) : P := by
  by_cases q : b = a
  · rw [if_pos q] at e; exact h1 q (some_eq e)
  · rw [if_neg q] at e; exact h2 q e
theorem Cn.addL_le (c : Cn) (a : Addr) : c.le (c.addL a) := ⟨fun _ _ h => h, fun n b h => by
  have : n < c.ρ.length := (List.getElem?_eq_some_iff.mp h).1
  show (c.ρ ++ [a])[n]? = some b
  rw [List.getElem?_append_left this]; exact h, fun _ h => h⟩
theorem Cn.addG_le {c : Cn} {a : Addr} {o : Obj} (e : c.G a = none) : c.le (c.addG a o) := by
  exact ⟨fun b o' h => (upd_ne (ne_of e h)).trans h, fun _ _ h => h, fun _ h => h⟩
theorem Cn.addG_get (c : Cn) (a : Addr) (o : Obj) : (c.addG a o).G a = some o := if_pos rfl

theorem none_of_fresh {h : Heap} {G : Addr → Option Obj} (S : Sub G h) {a : Addr} (e : h.get? a = none) : G a = none := by
  cases q : G a with
  | none => rfl
  | some o => exact no2 e (S a o q)
theorem fresh_size (h : Heap) : h.get? h.objs.size = none := by
  cases q : h.get? h.objs.size with
  | none => rfl
  | some o => exact absurd (Heap.lt_size q) (Nat.lt_irrefl _)
theorem fresh_ge {h : Heap} {a : Addr} (ha : h.objs.size ≤ a) : h.get? a = none := by
  cases q : h.get? a with
  | none => rfl
  | some o => exact absurd (Heap.lt_size q) (Nat.not_lt.mpr ha)

inductive LedMem (Z : Stat) (c : Cn) (r : List Addr) (xs : List D) (p : Addr × (Obj → Prop)) : Prop
  | mk (n : Nat) (x : D) (e1 : r[n]? = some p.1) (e2 : xs[n]? = some x) (e3 : p.2 = isObj Z c x) : LedMem Z c r xs p
theorem objLed_mem {Z : Stat} {c : Cn} : ∀ {r : List Addr} {xs : List D} {p : Addr × (Obj → Prop)}, p ∈ objLed Z c r xs → LedMem Z c r xs p
  | [], _, _, h => nomatch h
  | _ :: _, [], _, h => nomatch h
  | a :: r, x :: xs, p, h => by
    rcases List.mem_cons.mp (show p ∈ (a, isObj Z c x) :: objLed Z c r xs from h) with rfl | h
    · exact ⟨0, x, rfl, rfl, rfl⟩
    · obtain ⟨n, y, e1, e2, e3⟩ := objLed_mem h
      exact ⟨n + 1, y, e1, e2, e3⟩
theorem objLed_of {Z : Stat} {c : Cn} : ∀ {r : List Addr} {xs : List D} {n : Nat} {a : Addr} {x : D}, r[n]? = some a → xs[n]? = some x → (a, isObj Z c x) ∈ objLed Z c r xs
  | b :: r, y :: xs, 0, a, x, h1, h2 => by cases h1; cases h2; exact .head _
  | b :: r, y :: xs, n + 1, a, x, h1, h2 => .tail _ (objLed_of (n := n) h1 h2)
  | [], _, _, _, _, h1, _ => nomatch h1
  | _ :: _, [], _, _, _, _, h2 => nomatch h2
theorem objLed_addr {Z : Stat} {c : Cn} : ∀ {r : List Addr} {xs : List D}, r.length = xs.length → (objLed Z c r xs).map (·.1) = r
  | [], [], _ => rfl
  | a :: r, x :: xs, h => congrArg (a :: ·) (objLed_addr (Nat.succ.inj h))
  | [], _ :: _, h => nomatch h
  | _ :: _, [], h => nomatch h
theorem objLed_snoc {Z : Stat} {c : Cn} {a : Addr} {x : D} : ∀ {r : List Addr} {xs : List D}, r.length = xs.length → objLed Z c (r ++ [a]) (xs ++ [x]) = objLed Z c r xs ++ [(a, isObj Z c x)]
  | [], [], _ => rfl
  | b :: r, y :: xs, h => congrArg ((b, isObj Z c y) :: ·) (objLed_snoc (r := r) (xs := xs) (Nat.succ.inj h))
  | [], _ :: _, h => nomatch h
  | _ :: _, [], h => nomatch h
theorem mpLed_addr {Z : Stat} {c c' : Cn} {mx : Option (Addr × Addr)} {mp mp' : Option Loc} (h : mp.isSome = mp'.isSome) : (mpLed Z c mx mp).map (·.1) = (mpLed Z c' mx mp').map (·.1) := by
  cases mx <;> cases mp <;> cases mp' <;> first | rfl | exact nomatch h
theorem mpLed_at {Z : Stat} {c c' : Cn} {mx : Option (Addr × Addr)} {mp : Option Loc} {h h' : Heap} (l : c.le c') (k : ∀ p ∈ mpLed Z c mx mp, ∀ o, h.get? p.1 = some o → h'.get? p.1 = some o) (A : Led.At (mpLed Z c mx mp) h) : Led.At (mpLed Z c' mx mp) h' := by
  have no : ∀ {l : Led}, Led.At [((0 : Addr), fun _ => False)] h → Led.At l h' := fun A => let ⟨_, _, f⟩ := A _ (.head _); f.elim
  cases mx with
  | none => cases mp with
    | none => exact fun p hp => nomatch hp
    | some f => exact no A
  | some q => cases mp with
    | none => exact no A
    | some f =>
      intro p hp
      obtain rfl := List.mem_singleton.mp hp
      obtain ⟨o, e, f⟩ := A _ (.head _)
      exact ⟨o, k _ (.head _) o e, f.mono l⟩
theorem objLed_at {Z : Stat} {c c' : Cn} {r : List Addr} {xs : List D} {h h' : Heap} (l : c.le c') (k : ∀ a ∈ r, ∀ o, h.get? a = some o → h'.get? a = some o) (A : Led.At (objLed Z c r xs) h) : Led.At (objLed Z c' r xs) h' := by
  intro p hp
  obtain ⟨n, x, e1, e2, e3⟩ := objLed_mem hp
  obtain ⟨o, e, f⟩ := A _ (objLed_of (c := c) e1 e2)
  exact ⟨o, k _ (List.mem_of_getElem? e1) o e, by rw [e3]; exact f.mono l⟩

section
variable {Z : Stat} {Kp : Addr → Option Obj} {c : Cn} {hs : Hs} {s : Shared} {h' : Heap} {tk : Nat}
theorem Core.addr (C : Core Z Kp c hs s) : (ledOf Z c hs).map (·.1) = (mpLed Z c c.mx hs.mp).map (·.1) ++ c.ρ := by
  unfold ledOf
  rw [List.map_append, objLed_addr C.len]
theorem Core.atM (C : Core Z Kp c hs s) : Led.At (mpLed Z c c.mx hs.mp) s.heap := fun p hp => C.led p (List.mem_append_left _ hp)
theorem Core.atL (C : Core Z Kp c hs s) : Led.At (objLed Z c c.ρ hs.hp) s.heap := fun p hp => C.led p (List.mem_append_right _ hp)
theorem Led.at_append {l₁ l₂ : Led} {h : Heap} (a : l₁.At h) (b : l₂.At h) : Led.At (l₁ ++ l₂) h := fun p hp => (List.mem_append.mp hp).elim (a p) (b p)
theorem Core.freeR (C : Core Z Kp c hs s) {a : Addr} (ha : a ∈ c.ρ) : c.G a = none ∧ Kp a = none := by
  have : a ∈ (ledOf Z c hs).map (·.1) := by rw [C.addr]; exact List.mem_append_right _ ha
  obtain ⟨p, hp, rfl⟩ := List.mem_map.mp this
  exact C.free p hp
theorem Core.keepTo (C : Core Z Kp c hs s) (k : ∀ b o, s.heap.get? b = some o → h'.get? b = some o) : Core Z Kp c hs { s with heap := h', toks := tk } where
  base := C.base
  sub := fun b o e => k b o (C.sub b o e)
  kp := fun b o e => k b o (C.kp b o e)
  dis := C.dis
  len := C.len
  led := Led.at_append (mpLed_at (.refl c) (fun p _ o e => k p.1 o e) C.atM) (objLed_at (.refl c) (fun a _ o e => k a o e) C.atL)
  apart := C.apart
  free := C.free
  inst := C.inst
  gens := C.gens
  os := C.os
theorem Core.toks (C : Core Z Kp c hs s) : Core Z Kp c hs { s with toks := tk } := C.keepTo fun _ _ e => e
theorem free_map {l l' : Led} {P : Addr → Prop} (h : l'.map (·.1) = l.map (·.1)) (f : ∀ p ∈ l, P p.1) : ∀ p ∈ l', P p.1 := fun p hp => by
  have hm : p.1 ∈ l'.map (·.1) := List.mem_map_of_mem hp
  rw [h] at hm
  obtain ⟨q, hq, e⟩ := List.mem_map.mp hm
  exact e ▸ f q hq
theorem Core.notIn (C : Core Z Kp c hs s) {a : Addr} (fr : s.heap.get? a = none) {p : Addr × (Obj → Prop)} (hp : p ∈ ledOf Z c hs) : p.1 ≠ a := fun q =>
  let ⟨_, e', _⟩ := C.led p hp
  no2 (q ▸ fr) e'
theorem Core.addrG (C : Core Z Kp c hs s) (a : Addr) (o : Obj) : (ledOf Z (c.addG a o) hs).map (·.1) = (ledOf Z c hs).map (·.1) := by
  unfold ledOf
  rw [List.map_append, List.map_append]
  exact congr (congrArg _ (mpLed_addr rfl)) ((objLed_addr C.len).trans (objLed_addr C.len).symm)
theorem addL_led (C : Core Z Kp c hs s) (a : Addr) (x : D) : ledOf Z (c.addL a) ⟨hs.hp ++ [x], hs.mp⟩ = mpLed Z (c.addL a) c.mx hs.mp ++ (objLed Z (c.addL a) c.ρ hs.hp ++ [(a, isObj Z (c.addL a) x)]) :=
  congrArg (mpLed Z (c.addL a) c.mx hs.mp ++ ·) (objLed_snoc C.len)
theorem Core.addrL (C : Core Z Kp c hs s) (a : Addr) (x : D) : (ledOf Z (c.addL a) ⟨hs.hp ++ [x], hs.mp⟩).map (·.1) = (ledOf Z c hs).map (·.1) ++ [a] := by
  rw [addL_led C, C.addr, List.map_append, List.map_append, objLed_addr C.len, mpLed_addr (Z := Z) (c := c.addL a) (c' := c) (mp' := hs.mp) rfl, List.append_assoc]
  rfl
theorem Core.lenL (C : Core Z Kp c hs s) (a : Addr) (x : D) : (c.ρ ++ [a]).length = (hs.hp ++ [x]).length := by rw [List.length_append, List.length_append, C.len]; rfl
theorem Core.atL' (C : Core Z Kp c hs s) (a : Addr) (x : D) : (c.ρ ++ [a])[hs.hp.length]? = some a := by
  rw [← C.len, List.getElem?_append_right (Nat.le_refl _), Nat.sub_self]; rfl
theorem Core.addrL1 (C : Core Z Kp c hs s) (a : Addr) (x : D) : (ledOf Z (c.addL a) ⟨hs.hp ++ [x], hs.mp⟩).map (·.1) = (ledOf Z c hs ++ [(a, fun _ => True)] : Led).map (·.1) := by
  rw [C.addrL, List.map_append]; rfl
theorem free_snoc {l : Led} {a : Addr} {P : Addr → Prop} (f : ∀ p ∈ l, P p.1) (h : P a) : ∀ p ∈ l ++ [(a, fun _ => True)], P p.1 := fun p hp =>
  (List.mem_append.mp hp).elim (f p) fun hp => by rw [List.mem_singleton.mp hp]; exact h
theorem Led.at_one {h : Heap} {a : Addr} {x : D} {vs : List Value} {n : Nat} {c c' : Cn} (e : h.get? a = some (listO vs n)) (as : ListAs Z c x vs) (l : c.le c') : Led.At [(a, isObj Z c' x)] h := fun p hp =>
  (List.mem_singleton.mp hp) ▸ ⟨_, e, vs, n, rfl, as.mono l⟩
theorem nodup_snoc {α : Type} {l : List α} {a : α} (h : l.Nodup) (n : a ∉ l) : (l ++ [a]).Nodup :=
  List.nodup_append.mpr ⟨h, List.nodup_cons.mpr ⟨(nomatch ·), List.Pairwise.nil⟩, fun b hb b' hb' q => n ((q.trans (List.mem_singleton.mp hb')) ▸ hb)⟩
/-- something new that will never change -/
theorem Core.newG (C : Core Z Kp c hs s) {a : Addr} {o : Obj} (k : ∀ b o, s.heap.get? b = some o → h'.get? b = some o) (fr : s.heap.get? a = none) (e : h'.get? a = some o) :
    Core Z Kp (c.addG a o) hs { s with heap := h', toks := tk } ∧ c.le (c.addG a o) := by
  have l : c.le (c.addG a o) := Cn.addG_le (none_of_fresh C.sub fr)
  have addr := C.addrG a o
  exact ⟨⟨fun b o' e' => l.g b o' (C.base b o' e'), fun b o' e' => upd_some e' (fun q r => q ▸ r ▸ e) fun _ e' => k b o' (C.sub b o' e'), fun b o' e' => k b o' (C.kp b o' e'), fun b o' e' => (upd_ne (ne_of fr (C.kp b o' e'))).trans (C.dis b o' e'), C.len,
    Led.at_append (mpLed_at l (fun p _ o e => k p.1 o e) C.atM) (objLed_at l (fun a _ o e => k a o e) C.atL), addr ▸ C.apart,
    free_map (P := fun b => (c.addG a o).G b = none ∧ Kp b = none) addr fun p hp => ⟨(upd_ne (C.notIn fr hp)).trans (C.free p hp).1, (C.free p hp).2⟩, fun q d e' => (C.inst q d e').imp fun sl e'' => l.g _ _ e'', C.gens, C.os⟩, l⟩
/-- a new list that may change -/
theorem Core.newL (C : Core Z Kp c hs s) {a : Addr} {x : D} {vs : List Value} {n : Nat} (k : ∀ b o, s.heap.get? b = some o → h'.get? b = some o) (fr : s.heap.get? a = none) (e : h'.get? a = some (listO vs n)) (as : ListAs Z c x vs) :
    Core Z Kp (c.addL a) ⟨hs.hp ++ [x], hs.mp⟩ { s with heap := h', toks := tk } ∧ c.le (c.addL a) ∧ RepV Z (c.addL a) (.loc hs.hp.length) (.ref a) := by
  have l := Cn.addL_le c a
  refine ⟨⟨C.base, fun b o' e' => k b o' (C.sub b o' e'), fun b o' e' => k b o' (C.kp b o' e'), C.dis, C.lenL a x, ?_, ?_, ?_, C.inst, C.gens, C.os⟩, l, a, C.atL' a x, rfl⟩
  · rw [addL_led C]
    exact Led.at_append (mpLed_at l (fun p _ o e => k p.1 o e) C.atM) (Led.at_append (objLed_at l (fun a _ o e => k a o e) C.atL) (Led.at_one e as l))
  · rw [C.addrL]
    refine nodup_snoc C.apart fun hb => ?_
    obtain ⟨p, hp, q2⟩ := List.mem_map.mp hb
    exact C.notIn fr hp q2
  · exact free_map (P := fun b => c.G b = none ∧ Kp b = none) (C.addrL1 a x) (free_snoc (P := fun b => c.G b = none ∧ Kp b = none) C.free ⟨none_of_fresh C.sub fr, none_of_fresh C.kp fr⟩)
theorem Core.nodupR (C : Core Z Kp c hs s) : c.ρ.Nodup := by
  have := C.apart
  rw [C.addr] at this
  exact (List.nodup_append.mp this).2.1
theorem objLed_set {Z : Stat} {c : Cn} {x' : D} : ∀ {r : List Addr} {xs : List D} {n : Nat} {a : Addr}, r[n]? = some a → r.Nodup → ∀ p ∈ objLed Z c r (xs.set n x'), p = (a, isObj Z c x') ∨ (p ∈ objLed Z c r xs ∧ p.1 ≠ a)
  | b :: r, y :: xs, 0, a, h1, nd, p, hp => by
    cases h1
    rcases List.mem_cons.mp (show p ∈ (b, isObj Z c x') :: objLed Z c r xs from hp) with rfl | hp
    · exact .inl rfl
    · refine .inr ⟨.tail _ hp, fun q => ?_⟩
      obtain ⟨m, x, e1, _, _⟩ := objLed_mem hp
      rw [q] at e1
      exact (List.nodup_cons.mp nd).1 (List.mem_of_getElem? e1)
  | b :: r, y :: xs, n + 1, a, h1, nd, p, hp => by
    have h1' : r[n]? = some a := h1
    rcases List.mem_cons.mp (show p ∈ (b, isObj Z c y) :: objLed Z c r (xs.set n x') from hp) with rfl | hp
    · refine .inr ⟨.head _, fun q => ?_⟩
      have q : b = a := q
      rw [← q] at h1'
      exact (List.nodup_cons.mp nd).1 (List.mem_of_getElem? h1')
    · rcases objLed_set h1' (List.nodup_cons.mp nd).2 p hp with h | ⟨h, h2⟩
      · exact .inl h
      · exact .inr ⟨.tail _ h, h2⟩
  | [], _, _, _, h1, _, _, _ => nomatch h1
  | _ :: _, [], _, _, _, _, _, hp => nomatch hp
/-- a list changed in its place -/
theorem Core.setL (C : Core Z Kp c hs s) {n : Nat} {a : Addr} {x : D} {vs : List Value} {ep : Nat} (hn : c.ρ[n]? = some a) (k : ∀ b o, b ≠ a → s.heap.get? b = some o → h'.get? b = some o) (e : h'.get? a = some (listO vs ep)) (as : ListAs Z c x vs) :
    Core Z Kp c ⟨hs.hp.set n x, hs.mp⟩ { s with heap := h', toks := tk } := by
  have ha : a ∈ c.ρ := List.mem_of_getElem? hn
  have fr := C.freeR ha
  have len' : c.ρ.length = (hs.hp.set n x).length := by rw [List.length_set]; exact C.len
  have addr : (ledOf Z c ⟨hs.hp.set n x, hs.mp⟩).map (·.1) = (ledOf Z c hs).map (·.1) := by
    rw [C.addr]; unfold ledOf; rw [List.map_append, objLed_addr len']
  have nm : ∀ p ∈ mpLed Z c c.mx hs.mp, p.1 ≠ a := fun p hp q => by
    have := C.apart
    rw [C.addr] at this
    exact (List.nodup_append.mp this).2.2 p.1 (List.mem_map_of_mem hp) a ha q
  refine ⟨C.base, fun b o' e' => k b o' (ne_of fr.1 e') (C.sub b o' e'), fun b o' e' => k b o' (ne_of fr.2 e') (C.kp b o' e'), C.dis, len', ?_, ?_, ?_, C.inst, C.gens, C.os⟩
  · refine Led.at_append (mpLed_at (.refl c) (fun p hp o e => k p.1 o (nm p hp) e) C.atM) fun p hp => ?_
    rcases objLed_set hn C.nodupR p hp with rfl | ⟨hp, hne⟩
    · exact ⟨_, e, vs, ep, rfl, as⟩
    · obtain ⟨o, e1, f⟩ := C.atL p hp
      exact ⟨o, k _ o hne e1, f⟩
  · rw [addr]; exact C.apart
  · exact free_map (P := fun b => c.G b = none ∧ Kp b = none) addr C.free
/-- the made object's fields changed -/
theorem Core.setM (C : Core Z Kp c hs s) {q d : Addr} {f f' : Loc} {o : Obj} (hm : c.mx = some (q, d)) (hf : hs.mp = some f) (k : ∀ b o, b ≠ d → s.heap.get? b = some o → h'.get? b = some o) (e : h'.get? d = some o) (as : isFld Z c f' o) :
    Core Z Kp c ⟨hs.hp, some f'⟩ { s with heap := h', toks := tk } := by
  have eM : mpLed Z c c.mx hs.mp = [(d, isFld Z c f)] := by rw [hm, hf]; rfl
  have eM' : mpLed Z c c.mx (some f') = [(d, isFld Z c f')] := by rw [hm]; rfl
  have fr : c.G d = none ∧ Kp d = none := C.free (d, isFld Z c f) (List.mem_append_left _ (by rw [eM]; exact .head _))
  have addr : (ledOf Z c ⟨hs.hp, some f'⟩).map (·.1) = (ledOf Z c hs).map (·.1) := by
    unfold ledOf
    rw [List.map_append, List.map_append, eM, eM']
    rfl
  have nr : ∀ a ∈ c.ρ, a ≠ d := fun a ha q => by
    have := C.apart
    rw [C.addr, eM] at this
    exact (List.nodup_append.mp this).2.2 d (.head _) a ha q.symm
  refine ⟨C.base, fun b o' e' => k b o' (ne_of fr.1 e') (C.sub b o' e'), fun b o' e' => k b o' (ne_of fr.2 e') (C.kp b o' e'), C.dis, C.len, ?_, ?_, ?_, C.inst, C.gens, C.os⟩
  · refine Led.at_append ?_ (objLed_at (.refl c) (fun a ha o e => k a o (nr a ha) e) C.atL)
    rw [eM']
    intro p hp
    rw [List.mem_singleton.mp hp]
    exact ⟨o, e, as⟩
  · rw [addr]; exact C.apart
  · exact free_map (P := fun b => c.G b = none ∧ Kp b = none) addr C.free
/-- what is only kept -/
theorem Core.forget (C : Core Z Kp c hs s) {Kq : Addr → Option Obj} (h : ∀ b o, Kq b = some o → Kp b = some o) : Core Z Kq c hs s :=
  ⟨C.base, C.sub, fun b o e => C.kp b o (h b o e), fun b o e => C.dis b o (h b o e), C.len, C.led, C.apart, fun p hp => ⟨(C.free p hp).1, by
    cases q : Kq p.1 with
    | none => rfl
    | some o => rw [← (C.free p hp).2, h _ _ q]⟩, C.inst, C.gens, C.os⟩
theorem Core.newK (C : Core Z Kp c hs s) {a : Addr} {o : Obj} (k : ∀ b o, s.heap.get? b = some o → h'.get? b = some o) (fr : s.heap.get? a = none) (e : h'.get? a = some o) :
    Core Z (updK Kp a o) c hs { s with heap := h', toks := tk } := by
  have C' := C.keepTo (tk := tk) k
  exact ⟨C'.base, C'.sub, fun b o' e' => upd_some e' (fun q r => q ▸ r ▸ e) fun _ e' => C'.kp b o' e', fun b o' e' => upd_some e' (fun q _ => q ▸ none_of_fresh C.sub fr) fun _ e' => C.dis b o' e', C'.len, C'.led, C'.apart,
    fun p hp => ⟨(C.free p hp).1, (upd_ne (C.notIn fr hp)).trans (C.free p hp).2⟩, C'.inst, C'.gens, C'.os⟩
theorem Core.setK (C : Core Z Kp c hs s) {a : Addr} {o o₀ : Obj} (ha : Kp a = some o₀) (k : ∀ b o, b ≠ a → s.heap.get? b = some o → h'.get? b = some o) (e : h'.get? a = some o) :
    Core Z (updK Kp a o) c hs { s with heap := h', toks := tk } := by
  have ga := C.dis a o₀ ha
  have nl : ∀ p ∈ ledOf Z c hs, p.1 ≠ a := fun p hp => Ne.symm (ne_of (C.free p hp).2 ha)
  exact ⟨C.base, fun b o' e' => k b o' (ne_of ga e') (C.sub b o' e'), fun b o' e' => upd_some e' (fun q r => q ▸ r ▸ e) fun q e' => k b o' q (C.kp b o' e'), fun b o' e' => upd_some e' (fun q _ => q ▸ ga) fun _ e' => C.dis b o' e', C.len,
    fun p hp => let ⟨o', e', f⟩ := C.led p hp; ⟨o', k _ _ (nl p hp) e', f⟩, C.apart, fun p hp => ⟨(C.free p hp).1, (upd_ne (nl p hp)).trans (C.free p hp).2⟩, C.inst, C.gens, C.os⟩
/-- a list that may change, as it stands -/
inductive LocAt (Z : Stat) (c : Cn) (hs : Hs) (h : Heap) (n : Nat) (a : Addr) : Prop
  | mk (lt : n < hs.hp.length) (vs : List Value) (ep : Nat) (e : h.get? a = some (listO vs ep)) (as : ListAs Z c (hs.hp.getD n .none) vs) : LocAt Z c hs h n a
theorem Core.locAt (C : Core Z Kp c hs s) {n : Nat} {a : Addr} (hn : c.ρ[n]? = some a) : LocAt Z c hs s.heap n a := by
  have hlt : n < hs.hp.length := by rw [← C.len]; exact (List.getElem?_eq_some_iff.mp hn).1
  have e2 : hs.hp[n]? = some (hs.hp.getD n .none) := by rw [List.getD_eq_getElem?_getD, List.getElem?_eq_getElem hlt]; rfl
  obtain ⟨o, e, vs, ep, rfl, as⟩ := C.atL _ (objLed_of (Z := Z) (c := c) hn e2)
  exact ⟨hlt, vs, ep, e, as⟩
end
end Mine
set_option genSizeOf false
set_option genInjectivity false
set_option maxRecDepth 100000
namespace Mine
open PySem PySem.W PySem.Calls PyProof.Rows

noncomputable def Post (Z : Stat) (Kp : Addr → Option Obj) (c : Cn) (K : KE) (Q : Value → Shared → Prop) : Prop :=
  ∀ (c' : Cn) (V : V) (v : Value) (hs' : Hs) (s' : Shared), c.le c' → Core Z Kp c' hs' s' → RepV Z c' V v → K V hs' → Q v s'
noncomputable def PostU (Z : Stat) (Kp : Addr → Option Obj) (c : Cn) (K : Hs → Prop) (Q : Unit → Shared → Prop) : Prop :=
  ∀ (c' : Cn) (hs' : Hs) (s' : Shared), c.le c' → Core Z Kp c' hs' s' → K hs' → Q () s'
noncomputable def D.isL : D → Bool
  | .ints _ | .list _ => true
  | _ => false

section
variable {Z : Stat} {Kp : Addr → Option Obj} {c : Cn} {hs : Hs} {s : Shared} {K : KE} {Q : Value → Shared → Prop} {A : Around} {E : Value → Shared → Prop} {tk : Nat}
theorem Post.now (P : Post Z Kp c K Q) {V : V} {v : Value} (C : Core Z Kp c hs s) (R : RepV Z c V v) (k : K V hs) : Q v s := P c V v hs s (.refl c) C R k
theorem Post.int (P : Post Z Kp c K Q) {i : Int} {t : Tok} (C : Core Z Kp c hs s) (k : K (.d (.int i)) hs) : Q (.int i t) { s with toks := tk } := P.now (V := .d (.int i)) C.toks ⟨_, rfl⟩ k
theorem Post.bool (P : Post Z Kp c K Q) {b : Bool} (C : Core Z Kp c hs s) (k : K (.d (.bool b)) hs) : Q (.bool b) s := P.now (V := .d (.bool b)) C rfl k
theorem Post.none (P : Post Z Kp c K Q) (C : Core Z Kp c hs s) (k : K (.d .none) hs) : Q .none s := P.now (V := .d .none) C rfl k
theorem Post.up (P : Post Z Kp c K Q) {c' : Cn} (l : c.le c') : Post Z Kp c' K Q := fun d V v hs' s' l' => P d V v hs' s' (l.trans l')

inductive SeqAt (h : Heap) (R : List Value → Prop) (v : Value) : Prop
  | mk (a : Addr) (vs : List Value) (n : Nat) (e : v = .ref a) (g : h.get? a = some (listO vs n)) (r : R vs) : SeqAt h R v
theorem seq_at (C : Core Z Kp c hs s) {R : List Value → Prop} {v : Value} (h : RSeq c.G listO R v) : SeqAt s.heap R v :=
  let ⟨a, vs, n, e, g, r⟩ := h; ⟨a, vs, n, e, C.sub _ _ g, r⟩
theorem ListAs.isL {x : D} {vs : List Value} (h : ListAs Z c x vs) : x.isL = true := by
  cases x with
  | list _ => rfl
  | «ints» _ => rfl
  | _ => exact False.elim h
theorem view_list (C : Core Z Kp c hs s) {V : V} {v : Value} {x : D} (R : RepV Z c V v) (e : deref hs V = x) (hx : x.isL = true) :
    SeqAt s.heap (fun vs => ListAs Z c x vs) v := by
  cases e
  cases V with
  | d y => cases y with
    | list _ => exact seq_at C R
    | «ints» _ => exact seq_at C R
    | _ => exact ff hx
  | loc n =>
    obtain ⟨a, e1, rfl⟩ := R
    obtain ⟨_, vs, ep, e2, as⟩ := C.locAt e1
    exact ⟨a, vs, ep, rfl, e2, as⟩
theorem view_d (C : Core Z Kp c hs s) {V : V} {v : Value} {x : D} (R : RepV Z c V v) (e : deref hs V = x) (hx : x.isL = false) : RepD Z c x v := by
  cases e
  cases V with
  | d y => exact R
  | loc n =>
    obtain ⟨a, e1, _⟩ := R
    obtain ⟨_, vs, ep, e2, as⟩ := C.locAt e1
    exact ff (hx.symm.trans as.isL)
theorem listO_eq (arr : Array Value) (n : Nat) : listO arr.toList n = { cls := .type "list", data := .seq arr n } := by simp [listO]
theorem ListAs.length {x : D} {vs : List Value} (h : ListAs Z c x vs) : lenD x = some vs.length := by
  cases x with
  | list _ => exact congrArg some (RepDs.length h)
  | «ints» _ => exact congrArg some (IntsAre.length' h)
  | _ => exact False.elim h
theorem alloc_ok (P : Post Z Kp c K Q) (C : Core Z Kp c hs s) {m : Bool} {x : D} {arr : Array Value} {n : Nat} (h : alloc m x hs K) (as : ListAs Z c x arr.toList) :
    Q (.ref s.heap.objs.size) { s with heap := s.heap.push { cls := .type "list", data := .seq arr n }, toks := tk } := by
  have e : (s.heap.push { cls := .type "list", data := .seq arr n }).get? s.heap.objs.size = some (listO arr.toList n) := by rw [listO_eq]; exact Heap.get?_push_size _ rfl
  have k : ∀ b o, s.heap.get? b = some o → (s.heap.push { cls := .type "list", data := .seq arr n }).get? b = some o := fun b o e => Heap.get?_push_of_some _ e
  cases m with
  | true =>
    obtain ⟨C', l, R⟩ := C.newL (tk := tk) k (fresh_size _) e as
    exact P _ _ _ _ _ l C' R h
  | false =>
    obtain ⟨C', l⟩ := C.newG (tk := tk) k (fresh_size _) e
    exact P _ (.d x) _ _ _ l C' ((as.mono l).rep (Cn.addG_get _ _ _)) h
theorem alloc_at (P : Post Z Kp c K Q) (C : Core Z Kp c hs s) {m : Bool} {x : D} {a : Addr} {vs : List Value} {n : Nat} {h' : Heap} (k : ∀ b o, s.heap.get? b = some o → h'.get? b = some o) (fr : s.heap.get? a = none) (e : h'.get? a = some (listO vs n)) (h : alloc m x hs K) (as : ListAs Z c x vs) :
    Q (.ref a) { s with heap := h', toks := tk } := by
  cases m with
  | true =>
    obtain ⟨C', l, R⟩ := C.newL (tk := tk) k fr e as
    exact P _ _ _ _ _ l C' R h
  | false =>
    obtain ⟨C', l⟩ := C.newG (tk := tk) k fr e
    exact P _ (.d x) _ _ _ l C' ((as.mono l).rep (Cn.addG_get _ _ _)) h

/-! ### arithmetic -/
theorem intBits_le {a : Int} (h : a.natAbs < 2 ^ 62) : Builtin.Int.intBits a ≤ 62 := by
  unfold Builtin.Int.intBits
  split
  · lia
  · rename_i h0
    have h1 : a.natAbs ≠ 0 := fun e => h0 (by rw [Int.natAbs_eq_zero.mp e]; rfl)
    have := (Nat.log2_lt h1).mpr h
    lia
theorem mulOk {a b : Int} (h : a.natAbs < 2 ^ 62 ∨ b.natAbs < 2 ^ 62) : IntMulOk a b :=
  h.elim (fun h => .of_left (Nat.le_trans (intBits_le h) (by decide))) fun h => .of_right (Nat.le_trans (intBits_le h) (by decide))
theorem powOk {a n : Int} (h1 : 0 ≤ n) (h2 : n ≤ 1000) (h3 : a.natAbs < 2 ^ 62) : (Builtin.Int.intBits a : Int) * n ≤ 2 ^ 27 := by
  have h4 := intBits_le h3
  have : (Builtin.Int.intBits a : Int) * n ≤ 62 * 1000 := Int.mul_le_mul (by lia) h2 h1 (by decide)
  exact Int.le_trans this (by decide)
theorem binInt_ok (P : Post Z Kp c K Q) (C : Core Z Kp c hs s) {op : Operator} {i j : Int} {t u : Tok} (h : binInt op i j hs K) : wpAny (model Z.P Z.w) A (binaryOp op (.int i t) (.int j u)) Q E s := by
  cases op with
  | Add => exact PyProof.Rows.add_int (P.int C h)
  | Sub => exact PyProof.Rows.sub_int (P.int C h)
  | Mult => exact PyProof.Rows.mul_int (P.int C h.2) (mulOk h.1)
  | Mod => exact PyProof.Rows.mod_int' h.1 (P.int C h.2)
  | FloorDiv => exact PyProof.Rows.floordiv_int h.1.1 (P.int C h.2) (.inl (PyProof.noPylong_small h.1.2))
  | LShift =>
    obtain ⟨⟨h1, h2, h3⟩, h⟩ := h
    exact PyProof.Rows.lshift_int_small h1 (by lia) (by lia) (P.int C h)
  | RShift => exact PyProof.Rows.rshift_int h.1 (P.int C h.2)
  | Pow =>
    obtain ⟨⟨h1, h2, h3⟩, h⟩ := h
    exact PyProof.Rows.pow_int h1 (powOk h1 h2 h3) (P.int C h)
  | BitAnd => exact PyProof.Rows.and_int (P.int C h)
  | BitOr => exact PyProof.Rows.or_int (P.int C h)
  | BitXor => exact PyProof.Rows.xor_int (P.int C h)
  | _ => exact False.elim h
theorem binInt_ok' (P : Post Z Kp c K Q) (C : Core Z Kp c hs s) {op : Operator} {i j : Int} {t u : Tok} (h : binInt op i j hs K) : wpAny (model Z.P Z.w) A (inplaceOp op (.int i t) (.int j u)) Q E s := by
  cases op with
  | Add => exact PyProof.Rows.iadd_int (P.int C h)
  | Sub => exact PySem.P.isub_int (P.int C h)
  | Mult => exact PyProof.Rows.imul_int (P.int C h.2) (mulOk h.1)
  | Mod => exact PyProof.Rows.imod_int h.1 (P.int C h.2)
  | FloorDiv => exact PyProof.Rows.ifloordiv_int h.1.1 (P.int C h.2) (.inl (PyProof.noPylong_small h.1.2))
  | LShift =>
    obtain ⟨⟨h1, h2, h3⟩, h⟩ := h
    exact PyProof.Rows.ilshift_int_small h1 (by lia) (by lia) (P.int C h)
  | RShift => exact PyProof.Rows.irshift_int h.1 (P.int C h.2)
  | Pow =>
    obtain ⟨⟨h1, h2, h3⟩, h⟩ := h
    exact PyProof.Rows.ipow_int h1 (powOk h1 h2 h3) (P.int C h)
  | BitAnd => exact PyProof.Rows.iand_int (P.int C h)
  | BitOr => exact PyProof.Rows.ior_int (P.int C h)
  | BitXor => exact PyProof.Rows.ixor_int (P.int C h)
  | _ => exact False.elim h

/-! ### lists -/
theorem RepDs.append : ∀ {xs ys : List D} {vs ws : List Value}, RepDs Z c xs vs → RepDs Z c ys ws → RepDs Z c (xs ++ ys) (vs ++ ws)
  | [], ys, vs, ws, h, h' => by obtain rfl : vs = [] := h; exact h'
  | x :: xs, ys, vs, ws, h, h' => by
    obtain ⟨v, r, rfl, h1, h2⟩ := h
    exact ⟨v, r ++ ws, rfl, h1, RepDs.append h2 h'⟩
theorem ListAs.elts {x : D} {ds : List D} {vs : List Value} (e : x.elts? = some ds) (h : ListAs Z c x vs) : RepDs Z c ds vs := by
  cases x with
  | list _ => exact some_eq e ▸ h
  | «ints» _ => exact some_eq e ▸ ints_iff.mp h
  | _ => exact none_some e
theorem elts_isL {x : D} {ds : List D} (e : x.elts? = some ds) : x.isL = true := by
  cases x with
  | list _ => rfl
  | «ints» _ => rfl
  | _ => exact none_some e
theorem catD_as {x y z : D} {vs ws : List Value} (e : catD x y = some z) (h : ListAs Z c x vs) (h' : ListAs Z c y ws) : ListAs Z c z (vs ++ ws) := by
  rcases orB_iff e with ⟨p, hp, e⟩ | e
  · obtain ⟨h1, h2⟩ := both_iff hp
    rw [D.ints_eq h1] at h
    rw [D.ints_eq h2] at h'
    rw [← some_eq e]
    refine reps_ints (Z := Z) (c := c) ?_
    rw [List.map_append]
    exact RepDs.append (ints_iff.mp h) (ints_iff.mp h')
  · obtain ⟨p, hp, e⟩ := optB_iff e
    obtain ⟨h1, h2⟩ := both_iff hp
    exact some_eq e ▸ RepDs.append (h.elts h1) (h'.elts h2)
theorem catD_isL {x y z : D} (e : catD x y = some z) : x.isL = true ∧ y.isL = true := by
  rcases orB_iff e with ⟨p, hp, e⟩ | e
  · obtain ⟨h1, h2⟩ := both_iff hp
    exact ⟨D.ints_eq h1 ▸ rfl, D.ints_eq h2 ▸ rfl⟩
  · obtain ⟨p, hp, e⟩ := optB_iff e
    exact ⟨elts_isL (both_iff hp).1, elts_isL (both_iff hp).2⟩
theorem rep_as (Z : Stat) (c : Cn) {xs : List Int} {vs : List Value} (h : IntsAre vs xs) (k : Nat) : IntsAre (List.replicate k vs).flatten (List.replicate k xs).flatten := by
  refine reps_ints (Z := Z) (c := c) ?_
  induction k with
  | zero => rfl
  | succ k ih =>
    rw [List.replicate_succ, List.replicate_succ, List.flatten_cons, List.flatten_cons, List.map_append]
    exact RepDs.append (ints_iff.mp h) ih
theorem mulL_ok (P : Post Z Kp c K Q) (C : Core Z Kp c hs s) {m : Bool} {xs : List Int} {n : Int} {u : Tok} {va : Value} (R : SeqAt s.heap (fun vs => ListAs Z c (.ints xs) vs) va) (h1 : 0 ≤ n) (h2 : n ≤ lim) (h3 : xs.length * n.toNat ≤ lim) (h : alloc m (.ints (rep n xs)) hs K) :
    wpAny (model Z.P Z.w) A (binaryOp .Mult va (.int n u)) Q E s := by
  obtain ⟨a, vs, k, rfl, hl, as⟩ := R
  have len : xs.length = vs.length := IntsAre.length' as
  have hl' : s.heap.get? a = some { cls := .type "list", dict := none, data := .seq vs.toArray k, slots := #[] } := hl
  unfold lim at h2 h3
  rw [len] at h3
  have h4 : vs.toArray.size * n.toNat ≤ 2 ^ 20 := h3
  refine wpAny_binaryOp_repeat_ref (T := "list") (U := "int") (by decide) ⟨_, hl', rfl⟩ (fun s' => typeIs_int s' n u) noFill_list_mul F.fills_int_mul F.slot_int_rmul repeat_list F.slot_int_index.lookup
    (call_meets F.slot_int_rmul (typeIs_int s n u) F.entry_int_rmul (F.args_int_rmul_2 _ _) (int___rmul___int_list n u a vs.toArray k)
      ⟨hl', rfl, ⟨_, hl', rfl⟩, call_meets F.slot_list_mul ⟨_, hl', rfl⟩ F.entry_list_mul (F.args_list_mul_2 _ _)
        (AutoListH.list___mul___list_int_3 a vs.toArray k n u (by simp [Builtin.List.listFitsIndex]; lia) (by lia) (by simp [Builtin.List.listTooLong, sizeLine]; simp at h4; lia))
        ⟨hl', ?_⟩⟩)
  refine alloc_ok (n := 0) P C h ?_
  rw [PyProof.Rows.listMul_foldl]
  have e0 : (List.replicate (if vs.toArray.isEmpty = true then 0 else n.toNat) xs).flatten = rep n xs := by
    cases vs with
    | nil =>
      obtain rfl := List.eq_nil_of_length_eq_zero len
      unfold rep
      generalize n.toNat = k
      induction k with
      | zero => rfl
      | succ k ih => exact ih
    | cons v r => rfl
  rw [← e0]
  exact rep_as Z c as _
theorem addL_ok (P : Post Z Kp c K Q) (C : Core Z Kp c hs s) {m : Bool} {x y z : D} {n : Nat} {va vb : Value} (ez : catD x y = some z) (en : lenD z = some n) (Ra : SeqAt s.heap (fun vs => ListAs Z c x vs) va) (Rb : SeqAt s.heap (fun vs => ListAs Z c y vs) vb) (h1 : n ≤ lim) (h : alloc m z hs K) :
    wpAny (model Z.P Z.w) A (binaryOp .Add va vb) Q E s := by
  obtain ⟨a1, vs, k, rfl, hl, as⟩ := Ra
  obtain ⟨a2, ws, k2, rfl, hl2, as2⟩ := Rb
  have as3 := catD_as ez as as2
  have e3 : n = (vs ++ ws).length := some_eq (en.symm.trans as3.length)
  rw [e3, List.length_append] at h1
  refine PySem.P.add_list (n := k) (n2 := k2) hl hl2 ?_ (Nat.le_trans h1 (by decide : lim ≤ sizeLine))
  refine alloc_ok (n := 0) (tk := s.toks) P C h ?_
  rw [List.append_toArray]
  exact as3
theorem binOpV_ok (P : Post Z Kp c K Q) (C : Core Z Kp c hs s) {op : Operator} {m : Bool} {a b : V} {va vb : Value} (Ra : RepV Z c a va) (Rb : RepV Z c b vb) (h : binOpV op m a b hs K) :
    wpAny (model Z.P Z.w) A (binaryOp op va vb) Q E s := by
  rcases orP_iff h with ⟨p, hp, h⟩ | h
  · obtain ⟨h1, h2⟩ := both_iff hp
    obtain ⟨t, rfl⟩ := view_d C Ra (D.int_eq h1) rfl
    obtain ⟨u, rfl⟩ := view_d C Rb (D.int_eq h2) rfl
    exact binInt_ok P C h
  rcases orP_iff h with ⟨p, hp, h⟩ | h
  · obtain ⟨h1, h2⟩ := both_iff hp
    obtain ⟨u, rfl⟩ := view_d C Rb (D.int_eq h2) rfl
    obtain ⟨e, h⟩ := need_iff h
    cases mul_of e
    exact mulL_ok P C (view_list C Ra (D.ints_eq h1) rfl) h.1.1 h.1.2.1 h.1.2.2 h.2
  · obtain ⟨e, h⟩ := need_iff h
    cases add_of e
    obtain ⟨z, ez, h⟩ := optP_iff h
    obtain ⟨n, en, h⟩ := optP_iff h
    exact addL_ok P C ez en (view_list C Ra rfl (catD_isL ez).1) (view_list C Rb rfl (catD_isL ez).2) h.1 h.2
end
end Mine
set_option genSizeOf false
set_option genInjectivity false
set_option maxRecDepth 100000
namespace Mine
open PySem PySem.W PySem.Calls PyProof.Rows

section
variable {Z : Stat} {Kp : Addr → Option Obj} {c : Cn} {hs : Hs} {s : Shared} {K : KE} {Q : Value → Shared → Prop} {A : Around} {E : Value → Shared → Prop} {tk : Nat}

/-! ### truth -/
theorem isEmpty_eq {α β : Type} {xs : List α} {vs : List β} (h : xs.length = vs.length) : (!vs.isEmpty) = !xs.isEmpty := by
  cases xs <;> cases vs <;> first | rfl | exact nomatch h
theorem truthL_ok {Qb : Bool → Shared → Prop} {n : Nat} {b b' : Bool} (P : ∀ tk, Qb b' { s with toks := tk }) {R : List Value → Prop} {va : Value} (V : SeqAt s.heap R va) (hl : ∀ {vs}, R vs → n = vs.length ∧ (!vs.isEmpty) = b) (h : noB (!decide (n < 2 ^ 62)) (some b) = some b') :
    wpAny (model Z.P Z.w) A (truthy va) Qb E s := by
  obtain ⟨a', vs, m, rfl, g, as⟩ := V
  obtain ⟨len, e⟩ := hl as
  obtain ⟨h1, h⟩ := noB_iff h
  have h1 := of_decide_eq_true (not_t' h1)
  rw [len] at h1
  refine wpAny_truthy_list (items := vs.toArray) ⟨_, g, rfl, m, rfl⟩ (by show (vs.length : Int) < 2 ^ 63; omega) ?_
  rw [show (!vs.toArray.isEmpty) = b' by rw [← some_eq h, ← e, List.isEmpty_toArray]]
  exact P _
theorem truthV_ok {Qb : Bool → Shared → Prop} {k : Bool → Prop} (P : ∀ b tk, k b → Qb b { s with toks := tk }) (C : Core Z Kp c hs s) {a : V} {va : Value} (Ra : RepV Z c a va) (h : truthV a hs k) :
    wpAny (model Z.P Z.w) A (truthy va) Qb E s := by
  obtain ⟨b, h, hk⟩ := optP_iff h
  have q := fun tk => P b tk hk
  have d := fun x => view_d C Ra (x := x)
  have l := fun x => view_list C Ra (x := x)
  revert h d l
  generalize deref hs a = x
  intro h d l
  cases x with
  | none => cases d _ rfl rfl; cases some_eq h; exact PyProof.Rows.truthy_none (q s.toks)
  | bool b => cases d _ rfl rfl; cases some_eq h; exact wpAny_truthy_bool (q s.toks)
  | int i => obtain ⟨t, rfl⟩ := d _ rfl rfl; cases some_eq h; exact PyProof.Rows.truthy_int (q s.toks)
  | list xs => exact truthL_ok q (l _ rfl rfl) (fun as => have e := RepDs.length as; ⟨e, isEmpty_eq e⟩) h
  | «ints» xs => exact truthL_ok q (l _ rfl rfl) (fun as => have e := IntsAre.length' as; ⟨e, isEmpty_eq e⟩) h
  | _ => exact none_some h

theorem unOpV_ok (P : Post Z Kp c K Q) (C : Core Z Kp c hs s) {op : UnaryOp} {a : V} {va : Value} (Ra : RepV Z c a va) (h : unOpV op a hs K) :
    wpAny (model Z.P Z.w) A (unaryOp op va) Q E s := by
  cases op with
  | Not => exact PyProof.Rows.not_of (truthV_ok (k := fun b => K (.d (.bool (!b))) hs) (fun b tk k => P.now (V := .d (.bool _)) C.toks rfl k) C Ra h)
  | USub =>
    obtain ⟨i, e, h⟩ := optP_iff h
    rw [V.int_eq e] at Ra
    obtain ⟨t, rfl⟩ := Ra
    exact PyProof.Rows.neg_int (P.int C h)
  | Invert =>
    obtain ⟨i, e, h⟩ := optP_iff h
    rw [V.int_eq e] at Ra
    obtain ⟨t, rfl⟩ := Ra
    exact PyProof.Rows.invert_int (P.int C h)
  | UAdd => exact False.elim h

/-! ### comparisons -/
theorem ia_get {vs : List Value} {xs : List Int} (h : IA vs xs) : ∀ j, j < xs.length → ∃ t, vs[j]? = some (.int (xs.getD j 0) t) := by
  induction h with
  | nil => exact fun j hj => absurd hj (Nat.not_lt_zero j)
  | @cons i t vs xs _ ih => exact fun j hj => match j with
    | 0 => ⟨t, rfl⟩
    | j + 1 => ih j (Nat.lt_of_succ_lt_succ hj)
theorem ints_get {vs : List Value} {xs : List Int} (h : IntsAre vs xs) : ∀ j, j < xs.length → ∃ t, vs[j]? = some (.int (xs.getD j 0) t) := ia_get (ia_of h)
theorem eq_all (xs : List Int) : ∀ ys : List Int, xs.length = ys.length → (List.range xs.length).all (fun j => xs.getD j 0 == ys.getD j 0) = decide (xs = ys) := by
  intro ys hl
  rw [Bool.eq_iff_iff]
  simp only [List.all_eq_true, List.mem_range, beq_iff_eq, decide_eq_true_eq]
  constructor
  · intro h
    apply List.ext_getElem hl
    intro i h1 h2
    have := h i h1
    simpa [h1, h2] using this
  · rintro rfl; simp
theorem ints_eqAt {vs ws : List Value} {xs ys : List Int} (h : IntsAre vs xs) (h' : IntsAre ws ys) (j : Nat) (h1 : j < vs.toArray.size) (h2 : j < ws.toArray.size) : SeqAt.EqAt A s vs.toArray[j] ws.toArray[j] (xs.getD j 0 == ys.getD j 0) := by
  obtain ⟨t, e⟩ := ints_get h j (by rw [IntsAre.length' h]; simpa using h1)
  obtain ⟨u, e'⟩ := ints_get h' j (by rw [IntsAre.length' h']; simpa using h2)
  have e1 : vs.toArray[j] = .int (xs.getD j 0) t := by
    have : vs[j]? = some vs.toArray[j] := by simp at h1; simp [h1]
    rw [this] at e; exact Option.some.inj e
  have e2 : ws.toArray[j] = .int (ys.getD j 0) u := by
    have : ws[j]? = some ws.toArray[j] := by simp at h2; simp [h2]
    rw [this] at e'; exact Option.some.inj e'
  rw [e1, e2]
  exact SeqAt.EqAt.int_int _ _ _ _
theorem toInts_as {ds : List D} {is : List Int} {vs : List Value} (e : toInts ds = some is) (h : RepDs Z c ds vs) : IntsAre vs is := by
  rw [toInts_spec e] at h
  exact ints_iff.mpr h
theorem cmpI_ok {b : Bool} (q : Q (.bool b) s) {op : CmpOp} {i j : Int} {t u : Tok} (h : cmpInt op i j = some b) : wpAny (model Z.P Z.w) A (compareOp op (.int i t) (.int j u)) Q E s := by
  cases op with
  | Eq => exact PyProof.Rows.eq_int (some_eq h ▸ q)
  | NotEq => exact PyProof.Rows.ne_int (some_eq h ▸ q)
  | Lt => exact PyProof.Rows.lt_int (some_eq h ▸ q)
  | LtE => exact PyProof.Rows.le_int (some_eq h ▸ q)
  | Gt => exact PyProof.Rows.gt_int (some_eq h ▸ q)
  | GtE => exact PyProof.Rows.ge_int (some_eq h ▸ q)
  | _ => exact none_some h
theorem cmpL_ok {b : Bool} (q : Q (.bool b) s) (hu : A.units < cLine) {op : CmpOp} {xs ys : List Int} {va vb : Value} (Ra : SeqAt s.heap (fun vs => IntsAre vs xs) va) (Rb : SeqAt s.heap (fun vs => IntsAre vs ys) vb) (h : cmpEq op (decide (xs = ys)) = some b) :
    wpAny (model Z.P Z.w) A (compareOp op va vb) Q E s := by
  obtain ⟨a1, vs, n1, rfl, hl1, as1⟩ := Ra
  obtain ⟨a2, ws, n2, rfl, hl2, as2⟩ := Rb
  have l1 : s.heap.IsList a1 vs.toArray := ⟨_, hl1, rfl, n1, rfl⟩
  have l2 : s.heap.IsList a2 ws.toArray := ⟨_, hl2, rfl, n2, rfl⟩
  have len1 := IntsAre.length' as1
  have len2 := IntsAre.length' as2
  by_cases hz : vs.length = ws.length
  · rw [← eq_all xs ys (len1.trans (hz.trans len2.symm)), len1] at h
    cases op with
    | Eq => exact SeqAt.eq_listAt l1 l2 hz hu (fun j h1 h2 => ints_eqAt as1 as2 j h1 h2) (some_eq h ▸ q)
    | NotEq => exact SeqAt.RcNeAt.lists l1 l2 hz hu (fun j h1 h2 => ints_eqAt as1 as2 j h1 h2) _ _ _ _ (some_eq h ▸ q)
    | _ => exact none_some h
  · rw [decide_eq_false fun e => hz (len1.symm.trans ((congrArg _ e).trans len2))] at h
    cases op with
    | Eq => exact SeqAt.eq_list_lengthsAt l1 l2 (bne_iff_ne.mpr hz) hu (some_eq h ▸ q)
    | NotEq => exact SeqAt.RcNeAt.lists_lengths l1 l2 (bne_iff_ne.mpr hz) hu _ _ _ _ (by cases some_eq h; exact q)
    | _ => exact none_some h
theorem cmpT_ok {b : Bool} (q : Q (.bool b) s) (hu : A.units < cLine) {op : CmpOp} {xs ys : List Int} {a1 a2 : Addr} {vs ws : List Value} (l1 : s.heap.IsTuple a1 vs.toArray) (l2 : s.heap.IsTuple a2 ws.toArray) (as1 : IntsAre vs xs) (as2 : IntsAre ws ys) (h : cmpEq op (decide (xs = ys)) = some b) :
    wpAny (model Z.P Z.w) A (compareOp op (.ref a1) (.ref a2)) Q E s := by
  have len1 := IntsAre.length' as1
  have len2 := IntsAre.length' as2
  have e3 : ((List.range (min vs.toArray.size ws.toArray.size)).all (fun j => xs.getD j 0 == ys.getD j 0) && vs.toArray.size == ws.toArray.size) = decide (xs = ys) := by
    by_cases hz : vs.length = ws.length
    · rw [← eq_all xs ys (len1.trans (hz.trans len2.symm)), len1]
      show ((List.range (min vs.length ws.length)).all _ && vs.length == ws.length) = _
      rw [hz, Nat.min_self, beq_self_eq_true, Bool.and_true]
    · rw [decide_eq_false fun e => hz (len1.symm.trans ((congrArg _ e).trans len2)), beq_false_of_ne (by exact hz), Bool.and_false]
  rw [← e3] at h
  cases op with
  | Eq => exact SeqAt.eq_tupleAt l1 l2 hu (fun j h1 h2 => ints_eqAt as1 as2 j h1 h2) (some_eq h ▸ q)
  | NotEq => exact SeqAt.RcNeAt.tuples l1 l2 hu (fun j h1 h2 => ints_eqAt as1 as2 j h1 h2) _ _ _ _ (some_eq h ▸ q)
  | _ => exact none_some h
theorem repD_none {x : D} {v : Value} (R : RepD Z c x v) : (isNone x = true ∧ v = .none) ∨ (isNone x = false ∧ v ≠ .none) := by
  cases x with
  | none => exact .inl ⟨rfl, R⟩
  | bool b => exact .inr ⟨rfl, fun q => nomatch (R : v = .bool b).symm.trans q⟩
  | int i => exact .inr ⟨rfl, fun q => let ⟨_, e⟩ := R; nomatch e.symm.trans q⟩
  | str i => exact .inr ⟨rfl, fun q => let ⟨_, e⟩ := R; nomatch e.symm.trans q⟩
  | tup xs => exact .inr ⟨rfl, fun q => let ⟨_, _, _, e, _, _⟩ := R; nomatch e.symm.trans q⟩
  | list xs => exact .inr ⟨rfl, fun q => let ⟨_, _, _, e, _, _⟩ := R; nomatch e.symm.trans q⟩
  | «ints» xs => exact .inr ⟨rfl, fun q => let ⟨_, _, _, e, _, _⟩ := R; nomatch e.symm.trans q⟩
  | fn m x => exact .inr ⟨rfl, fun q => let ⟨_, e, _⟩ := R; nomatch e.symm.trans q⟩
  | meth x => exact .inr ⟨rfl, fun q => let ⟨_, _, _, _, e, _, _, _⟩ := R; nomatch e.symm.trans q⟩
  | bi b => exact .inr ⟨rfl, fun q => by rw [show v = biV b from R] at q; cases b <;> cases q⟩
  | cls => exact .inr ⟨rfl, fun q => nomatch (R : v = .ref Z.ca).symm.trans q⟩
  | mpu => exact .inr ⟨rfl, fun q => let ⟨_, _, e, _⟩ := R; nomatch e.symm.trans q⟩
  | rng n => exact .inr ⟨rfl, fun q => let ⟨_, _, _, _, e, _⟩ := R; nomatch e.symm.trans q⟩
  | arg xs => exact .inr ⟨rfl, fun q => let ⟨_, _, _, _, e, _, _, _, _⟩ := R; nomatch e.symm.trans q⟩
  | dict xs => exact .inr ⟨rfl, fun q => let ⟨_, _, _, e, _, _, _⟩ := R; nomatch e.symm.trans q⟩
theorem repV_none (C : Core Z Kp c hs s) {a : V} {v : Value} (R : RepV Z c a v) : (isNone (deref hs a) = true ∧ v = .none) ∨ (isNone (deref hs a) = false ∧ v ≠ .none) := by
  cases a with
  | d x => exact repD_none R
  | loc n =>
    obtain ⟨ad, e1, rfl⟩ := R
    obtain ⟨_, vs, ep, _, as⟩ := C.locAt e1
    refine .inr ⟨?_, fun q => nomatch q⟩
    show isNone (hs.hp.getD n .none) = false
    revert as
    cases hs.hp.getD n .none <;> first | exact fun _ => rfl | exact fun as => False.elim as
theorem isNone_eq {d : D} (h : isNone d = true) : d = .none := by cases d <;> first | rfl | exact ff h
theorem tupI_at (C : Core Z Kp c hs s) {a : V} {va : Value} {is : List Int} (Ra : RepV Z c a va) (e : toIntsT (deref hs a) = some is) : ∃ ad vs, va = .ref ad ∧ s.heap.IsTuple ad (List.toArray vs) ∧ IntsAre vs is := by
  obtain ⟨xs, e1, e2⟩ := optB_iff e
  obtain ⟨ad, vs, n, rfl, g, r⟩ := view_d C Ra (D.tup_eq e1) rfl
  exact ⟨ad, vs, rfl, ⟨_, C.sub _ _ g, rfl, n, rfl⟩, toInts_as e2 r⟩
theorem cmpV_ok {k : Bool → Prop} (P : ∀ b, k b → Q (.bool b) s) (C : Core Z Kp c hs s) (hu : A.units < cLine) {op : CmpOp} {a b : V} {va vb : Value} (Ra : RepV Z c a va) (Rb : RepV Z c b vb) (h : cmpV op a b hs k) :
    wpAny (model Z.P Z.w) A (compareOp op va vb) Q E s := by
  obtain ⟨r, h, hk⟩ := optP_iff h
  have q := P r hk
  rcases orB_iff h with ⟨p, hp, h⟩ | h
  · obtain ⟨t, rfl⟩ := view_d C Ra (D.int_eq (both_iff hp).1) rfl
    obtain ⟨u, rfl⟩ := view_d C Rb (D.int_eq (both_iff hp).2) rfl
    exact cmpI_ok q h
  rcases orB_iff h with ⟨p, hp, h⟩ | h
  · exact cmpL_ok q hu (view_list C Ra (D.ints_eq (both_iff hp).1) rfl) (view_list C Rb (D.ints_eq (both_iff hp).2) rfl) h
  rcases orB_iff h with ⟨p, hp, h⟩ | h
  · obtain ⟨_, _, rfl, l1, as1⟩ := tupI_at C Ra (both_iff hp).1
    obtain ⟨_, _, rfl, l2, as2⟩ := tupI_at C Rb (both_iff hp).2
    exact cmpT_ok q hu l1 l2 as1 as2 h
  · obtain ⟨e, h'⟩ := noB_iff h
    obtain ⟨e1, e2⟩ := and_t (not_t' e)
    cases is_of e2
    cases view_d C Rb (isNone_eq e1) rfl
    rw [← some_eq h'] at q
    rcases repV_none C Ra with ⟨e, rfl⟩ | ⟨e, hne⟩
    · rw [e] at q; exact wpAny_is_self (by decide) q
    · rw [e] at q; exact PyProof.Rows.is_none_ne hne q
end
end Mine
set_option genSizeOf false
set_option genInjectivity false
set_option maxRecDepth 100000
namespace Mine
open PySem PySem.W PySem.Calls PyProof.Rows

section
variable {Z : Stat} {Kp : Addr → Option Obj} {c : Cn} {hs : Hs} {s : Shared} {K : KE} {Q : Value → Shared → Prop} {A : Around} {E : Value → Shared → Prop} {tk : Nat}

/-! ### items -/
theorem fits_of {i : Int} (h : small i) : Builtin.List.listFitsIndex i = true := by
  unfold small at h
  simp [Builtin.List.listFitsIndex]; lia
theorem seqIndex_of {i : Int} {n : Nat} (h0 : 0 ≤ idx i n) (h1 : idx i n < n) : seqIndex? i n = some (idx i n).toNat := by
  unfold idx at h0 h1
  unfold seqIndex? idx
  simp only [Bool.and_eq_true, decide_eq_true_eq, if_pos (And.intro h0 h1)]
theorem getItem_listAt {a : Addr} {vs : List Value} {n : Nat} {i : Int} {t : Tok} {x : Value} (hl : s.heap.get? a = some (listO vs n)) (hs : small i) (h0 : 0 ≤ idx i vs.length) (h1 : idx i vs.length < vs.length) (hx : vs[(idx i vs.length).toNat]? = some x) (hq : Q x s) :
    wpAny (model Z.P Z.w) A (getItem (.ref a) (.int i t)) Q E s := by
  have l : s.heap.IsList a vs.toArray := ⟨_, hl, rfl, n, rfl⟩
  unfold small at hs
  by_cases hi : i < 0
  · have e : idx i vs.length = i + vs.length := if_pos hi
    rw [e] at h0 hx
    exact wpAny_getItem_list_neg l hi (by simp; lia) (by lia) (by simpa using hx) hq
  · have e : idx i vs.length = i := if_neg hi
    rw [e] at h0 hx
    exact wpAny_getItem_list l h0 (by lia) (by simpa using hx) hq
theorem getItem_tupAt {a : Addr} {vs : List Value} {n : Nat} {i : Int} {t : Tok} {x : Value} (hl : s.heap.get? a = some (tupO vs n)) (hs : small i) (h0 : 0 ≤ idx i vs.length) (h1 : idx i vs.length < vs.length) (hx : vs[(idx i vs.length).toNat]? = some x) (hq : Q x s) :
    wpAny (model Z.P Z.w) A (getItem (.ref a) (.int i t)) Q E s := by
  unfold small at hs
  exact PyProof.Rows.getItem_tuple (items := vs.toArray) ⟨_, hl, rfl, n, rfl⟩ (by lia) (by lia) (by simpa using seqIndex_of h0 h1) (by simpa using hx) hq
/-- what an item's reading asks of the value read from -/
noncomputable def itemType (s : Shared) (v : Value) : Prop := ∃ T id, s.TypeIs v T ∧ typeLookup (.type T) "__getitem__" = pure (some (.builtin id))
theorem idx_lt {i : Int} {n : Nat} (h0 : 0 ≤ idx i n) (h1 : idx i n < n) : (idx i n).toNat < n := by lia
theorem itemL_ok (P : Post Z Kp c K Q) (C : Core Z Kp c hs s) {R : List Value → Prop} {n : Nat} {f : Nat → D} {i : Int} {t : Tok} {va : Value} (V : SeqAt s.heap R va) (hR : ∀ {vs}, R vs → n = vs.length ∧ ∀ k, k < n → ∃ u, vs[k]? = some u ∧ RepD Z c (f k) u)
    (h : at' i n fun k => K (.d (f k)) hs) : wpAny (model Z.P Z.w) A (getItem va (.int i t)) Q E s ∧ itemType s va := by
  obtain ⟨a', vs, m, rfl, hl, as⟩ := V
  obtain ⟨rfl, g⟩ := hR as
  obtain ⟨u, hx, hr⟩ := g _ (idx_lt h.2.1 h.2.2.1)
  exact ⟨getItem_listAt hl h.1 h.2.1 h.2.2.1 hx (P.now (V := .d _) C hr h.2.2.2), "list", _, ⟨_, hl, rfl⟩, list_getitem_lookup⟩
theorem itemT_ok (P : Post Z Kp c K Q) (C : Core Z Kp c hs s) {xs : List D} {i : Int} {t : Tok} {va : Value} (V : RepD Z c (.tup xs) va) (h : at' i xs.length fun k => K (.d (xs.getD k .none)) hs) :
    wpAny (model Z.P Z.w) A (getItem va (.int i t)) Q E s ∧ itemType s va := by
  obtain ⟨a', vs, m, rfl, g, as⟩ := V
  have hl := C.sub _ _ g
  obtain ⟨u, hx, hr⟩ := RepDs.get as _ (idx_lt h.2.1 h.2.2.1)
  rw [RepDs.length as] at h hx hr
  exact ⟨getItem_tupAt hl h.1 h.2.1 h.2.2.1 hx (P.now (V := .d _) C hr h.2.2.2), "tuple", _, ⟨_, hl, rfl⟩, slot_tuple_getitem.lookup⟩
theorem itemD_ok (P : Post Z Kp c K Q) (C : Core Z Kp c hs s) {xs : List (Int × D)} {i : Int} {t : Tok} {va : Value} (V : RepD Z c (.dict xs) va) (h : optP (xs.lookup i) fun d => K (.d d) hs) :
    wpAny (model Z.P Z.w) A (getItem va (.int i t)) Q E s ∧ itemType s va := by
  obtain ⟨a', o, kvs, rfl, g, hi, rk⟩ := V
  obtain ⟨d, hd, h⟩ := optP_iff h
  obtain ⟨v, hv, rv⟩ := rk.lookup hd
  have hdo : s.heap.DictOf (intKind Z.P Z.w) a' kvs := Heap.dictOf_iff.mpr ⟨o, C.sub _ _ g, hi⟩
  exact ⟨wpAny_getItem_of (intKind_is _ _ i t) hdo.mapOf hv (P.now (V := .d _) C.toks rv h), "dict", _, hdo.typeIs, slot_dict_getitem.lookup⟩
theorem itemV_ok (P : Post Z Kp c K Q) (C : Core Z Kp c hs s) {a b : V} {va vb : Value} (Ra : RepV Z c a va) (Rb : RepV Z c b vb) (h : itemV a b hs K) :
    (wpAny (model Z.P Z.w) A (getItem va vb) Q E s ∧ itemType s va) ∧ ∃ i t, vb = .int i t := by
  obtain ⟨i, e, h⟩ := optP_iff h
  rw [V.int_eq e] at Rb
  obtain ⟨t, rfl⟩ := Rb
  refine ⟨?_, i, t, rfl⟩
  have d := fun x => view_d C Ra (x := x)
  have l := fun x => view_list C Ra (x := x)
  revert h d l
  generalize deref hs a = x
  intro h d l
  cases x with
  | «ints» xs => exact itemL_ok P C (f := fun k => .int (xs.getD k 0)) (l _ rfl rfl) (fun as => ⟨IntsAre.length' as, fun k hk => (ints_get as k hk).elim fun u e => ⟨_, e, u, rfl⟩⟩) h
  | list xs => exact itemL_ok P C (f := fun k => xs.getD k .none) (l _ rfl rfl) (fun as => ⟨RepDs.length as, RepDs.get as⟩) h
  | tup xs => exact itemT_ok P C (d _ rfl rfl) h
  | dict xs => exact itemD_ok P C (d _ rfl rfl) h
  | _ => exact False.elim h

/-! ### slices -/
theorem RepDs.drop : ∀ {xs : List D} {vs : List Value}, RepDs Z c xs vs → ∀ k, RepDs Z c (xs.drop k) (vs.drop k)
  | _, _, h, 0 => h
  | [], vs, h, k + 1 => by obtain rfl : vs = [] := h; rfl
  | x :: xs, vs, h, k + 1 => by
    obtain ⟨v, r, rfl, h1, h2⟩ := h
    exact RepDs.drop h2 k
theorem RepDs.take : ∀ {xs : List D} {vs : List Value}, RepDs Z c xs vs → ∀ k, RepDs Z c (xs.take k) (vs.take k)
  | _, _, _, 0 => rfl
  | [], vs, h, k + 1 => by obtain rfl : vs = [] := h; rfl
  | x :: xs, vs, h, k + 1 => by
    obtain ⟨v, r, rfl, h1, h2⟩ := h
    exact ⟨v, _, rfl, h1, RepDs.take h2 k⟩
theorem RepDs.cut {xs : List D} {vs : List Value} (h : RepDs Z c xs vs) (lo hi : Option Int) : RepDs Z c (cut xs lo hi) (cut vs lo hi) := by
  unfold Mine.cut
  rw [h.length]
  exact (h.drop _).take _
theorem cut_map {α β : Type} (f : α → β) (xs : List α) (lo hi : Option Int) : (cut xs lo hi).map f = cut (xs.map f) lo hi := by
  unfold cut
  rw [List.map_take, List.map_drop, List.length_map]
theorem cut_ints (Z : Stat) (c : Cn) {xs : List Int} {vs : List Value} (h : IntsAre vs xs) (lo hi : Option Int) : IntsAre (cut vs lo hi) (cut xs lo hi) := by
  refine (ints_iff (Z := Z) (c := c)).mpr ?_
  rw [cut_map]
  exact RepDs.cut (ints_iff.mp h) lo hi
theorem slicePick_cut (vs : List Value) (lo hi : Option Int) : (slicePick vs.toArray lo hi none).toList = cut vs lo hi := by
  rw [slicePick_plain]
  simp [cut]
noncomputable def RepO (Z : Stat) (c : Cn) : Option V → Value → Prop
  | none, v => v = .none
  | some V, v => RepV Z c V v
theorem RepO.mono {c c' : Cn} (l : c.le c') {V : Option V} {v : Value} (h : RepO Z c V v) : RepO Z c' V v := by
  cases V with
  | none => exact h
  | some V => exact RepV.mono l h
theorem partV_ok {V : Option V} {l : Option Int} {v : Value} (h : partV V = some l) (R : RepO Z c V v) : IsPart v l := by
  cases V with
  | none =>
    cases (R : v = .none)
    exact some_eq h ▸ .none
  | some V =>
    obtain ⟨i, e, h⟩ := optB_iff h
    have R : RepV Z c V v := R
    rw [V.int_eq e] at R
    obtain ⟨t, rfl⟩ := R
    exact some_eq h ▸ .int _ t
theorem sliceK_ok (P : Post Z Kp c K Q) (C : Core Z Kp c hs s) {m : Bool} {l u : Option Int} {vl vu : Value} {sl : Addr} (p1 : IsPart vl l) (p2 : IsPart vu u) (hsl : s.heap.IsSliceOf sl vl vu .none) {x : D} {b : Addr} {o : Obj} {vs : List Value} {n : Nat} (ho : s.heap.get? b = some o) (hc : o.cls = .type "list") (hd : o.data = .seq vs.toArray n)
    {k : Nat} (len : k = vs.length) (hz : k ≤ lim) (as : ListAs Z c x (cut vs l u)) (h : alloc m x hs K) : wpAny (model Z.P Z.w) A (getItem (.ref b) (.ref sl)) Q E s ∧ itemType s (.ref b) := by
  refine ⟨wpAny_getItem_list_slice ⟨o, ho, hc, n, hd⟩ hsl p1 p2 .none (by simp) ?_ (Nat.le_trans (len ▸ hz : vs.length ≤ lim) (by decide)), ⟨"list", _, ⟨o, ho, hc⟩, list_getitem_lookup⟩⟩
  exact alloc_ok (n := 0) (tk := s.toks) P C h (by rw [slicePick_cut]; exact as)
theorem sliceV_ok (P : Post Z Kp c K Q) (C : Core Z Kp c hs s) {m : Bool} {a : V} {lo hi : Option V} {va vl vu : Value} {sl : Addr} (Ra : RepV Z c a va)
    (Rl : RepO Z c lo vl) (Ru : RepO Z c hi vu) (hsl : s.heap.IsSliceOf sl vl vu .none) (h : sliceV m a lo hi hs K) :
    wpAny (model Z.P Z.w) A (getItem va (.ref sl)) Q E s ∧ itemType s va := by
  obtain ⟨l, e1, h⟩ := optP_iff h
  obtain ⟨u, e2, h⟩ := optP_iff h
  have p1 := partV_ok e1 Rl
  have p2 := partV_ok e2 Ru
  have d := fun x => view_d C Ra (x := x)
  have ls := fun x => view_list C Ra (x := x)
  revert h d ls
  generalize deref hs a = x
  intro h d ls
  cases x with
  | «ints» xs =>
    obtain ⟨a', vs, n, rfl, hl, as⟩ := ls _ rfl rfl
    exact sliceK_ok P C p1 p2 hsl (x := .ints (cut xs l u)) hl rfl rfl (IntsAre.length' as) h.1 (cut_ints Z c as l u) h.2
  | list xs =>
    obtain ⟨a', vs, n, rfl, hl, as⟩ := ls _ rfl rfl
    exact sliceK_ok P C p1 p2 hsl (x := .list (cut xs l u)) hl rfl rfl (RepDs.length as) h.1 (RepDs.cut as l u) h.2
  | arg xs =>
    obtain ⟨a', o, vs, n, rfl, g, hc, hd, as⟩ := d _ rfl rfl
    exact sliceK_ok P C p1 p2 hsl (x := .ints (cut xs l u)) (C.sub _ _ g) hc hd (IntsAre.length' as) h.1 (cut_ints Z c as l u) h.2
  | _ => exact False.elim h

/-! ### stores into a list -/
theorem ia_set {vs : List Value} {xs : List Int} (h : IA vs xs) (j : Int) (t : Tok) : ∀ k, IA (vs.set k (.int j t)) (xs.set k j) := by
  induction h with
  | nil => exact fun _ => .nil
  | cons h ih => exact fun k => match k with
    | 0 => .cons h
    | k + 1 => .cons (ih k)
theorem ints_set {vs : List Value} {xs : List Int} (h : IntsAre vs xs) (k : Nat) (j : Int) (t : Tok) : IntsAre (vs.set k (.int j t)) (xs.set k j) := of_ia (ia_set (ia_of h) j t k)
theorem setItem_listAt {Qu : Unit → Shared → Prop} {a : Addr} {vs : List Value} {n : Nat} {i : Int} {t : Tok} {x : Value} (hl : s.heap.get? a = some (listO vs n)) (hs : small i) (h0 : 0 ≤ idx i vs.length) (h1 : idx i vs.length < vs.length)
    (hq : ∀ h', h'.get? a = some (listO (vs.set (idx i vs.length).toNat x) n) → Heap.SameBut a s.heap h' → Qu () { s with heap := h' }) :
    wpAny (model Z.P Z.w) A (setItem (.ref a) (.int i t) x) Qu E s := by
  have hT : s.TypeIs (.ref a) "list" := ⟨_, hl, rfl⟩
  have hi := seqIndex_of h0 h1
  have fin : Qu () { s with heap := s.heap.update a (Obj.mapSeq (·.setIfInBounds (idx i vs.length).toNat x)) } := by
    refine hq _ ?_ (Heap.SameBut.update ..)
    rw [Heap.get?_update_self _ hl (by simp [Obj.mapSeq, Obj.isFreed])]
    simp [Obj.mapSeq]
  obtain ⟨y, hx⟩ : ∃ y, vs.toArray[(idx i vs.length).toNat]? = some y := ⟨_, Array.getElem?_eq_getElem (by simp; lia)⟩
  unfold setItem
  refine wpAny_holding ?_
  refine wpAny_bind (wpAny_sequenceKey hT (by decide) ?_)
  refine wpAny_bind (wpAny_callSpecial?_slot (name := Str.ofString "__setitem__") hT slot_list_setitem
    (wpAny_call_entry slot_list_setitem hT entry_list_setitem ?_ (args_list_setitem _ _ _)))
  show wpAny _ _ (Builtin.List.listSubscript? (.int i t) >>= _) _ _ s
  refine wpAny_bind (wpAny_listSubscript_int (fits_of hs) ?_)
  have tail : ∀ j : Nat, j = (idx i vs.length).toNat → wpAny (model Z.P Z.w) A.in1 (setSeqItemAt a j x >>= fun _ => ret .none) (fun fin s' => ∃ v, fin = .done (.ret v) ∧ (fun v s' => wpAny (model Z.P Z.w) A (pure ()) Qu E s') v s') E s := by
    rintro j rfl
    exact wpAny_bind (wpAny_setSeqItemAt hl rfl (wpAny_pure ⟨.none, rfl, wpAny_pure fin⟩))
  cases i with
  | ofNat j =>
    have e : idx (Int.ofNat j) vs.length = (j : Int) := if_neg (by simp)
    rw [e] at hx tail
    show wpAny _ _ ((seqItemAt a j >>= fun r => pure (r.map (j, ·))) >>= _) _ _ s
    refine wpAny_bind (wpAny_bind (wpAny_seqItemAt hl rfl (wpAny_pure ?_)))
    rw [show vs.toArray[j]? = _ from hx]
    exact tail j rfl
  | negSucc j =>
    show wpAny _ _ ((Builtin.List.listItems (.ref a) >>= fun xs => pure ((seqIndex? (Int.negSucc j) xs.size).bind fun i => xs[i]?.map (i, ·))) >>= _) _ _ s
    refine wpAny_bind (wpAny_bind ?_)
    show wpAny _ _ (seqItems? (.ref a) >>= _) _ _ s
    refine wpAny_bind (wpAny_seqItems hl rfl (wpAny_pure (wpAny_pure ?_)))
    rw [show vs.toArray.size = vs.length by simp, hi]
    simp only [Option.bind_some, hx, Option.map_some]
    exact tail _ rfl
theorem setItemV_ok {Ku : Hs → Prop} {Qu : Unit → Shared → Prop} (P : PostU Z Kp c Ku Qu) (C : Core Z Kp c hs s) {a b u : V} {va vb vu : Value} (Ra : RepV Z c a va) (Rb : RepV Z c b vb) (Ru : RepV Z c u vu) (h : setItemV a b u hs Ku) :
    wpAny (model Z.P Z.w) A (setItem va vb vu) Qu E s := by
  obtain ⟨n, ea, h⟩ := optP_iff h
  obtain ⟨i, eb, h⟩ := optP_iff h
  obtain ⟨j, eu, h⟩ := optP_iff h
  obtain ⟨xs, e, h⟩ := optP_iff h
  rw [V.loc_eq ea] at Ra
  rw [V.int_eq eb] at Rb
  rw [V.int_eq eu] at Ru
  obtain ⟨t, rfl⟩ := Rb
  obtain ⟨t', rfl⟩ := Ru
  obtain ⟨ad, e1, rfl⟩ := Ra
  obtain ⟨_, vs, ep, e2, as⟩ := C.locAt e1
  rw [D.ints_eq e] at as
  rw [IntsAre.length' as] at h
  exact setItem_listAt e2 h.1 h.2.1 h.2.2.1 fun h' e' hs' => P _ _ _ (.refl c) (C.setL (x := .ints _) (tk := s.toks) e1 (fun b o hb e => hs'.extBut b o hb e) e' (ints_set as _ j t')) h.2.2.2

/-! ### lists that grow -/
theorem appendD_as {x y z : D} {vs : List Value} {v : Value} (e : appendD x y = some z) (h : ListAs Z c x vs) (h' : RepD Z c y v) : ListAs Z c z (vs ++ [v]) := by
  have one : RepDs Z c [y] [v] := ⟨v, [], rfl, h', rfl⟩
  rcases orB_iff e with ⟨p, hp, e⟩ | e
  · obtain ⟨h1, h2⟩ := both_iff hp
    rw [D.ints_eq h1] at h
    rw [D.int_eq h2] at one
    rw [← some_eq e]
    refine reps_ints (Z := Z) (c := c) ?_
    rw [List.map_append]
    exact RepDs.append (ints_iff.mp h) one
  · obtain ⟨xs, hx, e⟩ := optB_iff e
    exact some_eq e ▸ RepDs.append (h.elts hx) one
theorem growV_ok {Ku : Hs → Prop} {n : Nat} {z : Option D} {a : Addr} {vs ws : List Value} (C : Core Z Kp c hs s) (hn : c.ρ[n]? = some a) (h : growV n z hs Ku) (as : ∀ z', z = some z' → ListAs Z c z' (vs ++ ws)) :
    vs.length + ws.length ≤ 2 ^ 20 ∧ ∀ h' ep, h'.get? a = some (listO (vs ++ ws) ep) → Heap.SameBut a s.heap h' → ∃ hs', Core Z Kp c hs' { s with heap := h', toks := tk } ∧ Ku hs' := by
  obtain ⟨z', ez, h⟩ := optP_iff h
  obtain ⟨k, ek, h⟩ := optP_iff h
  have as := as z' ez
  have e : k = (vs ++ ws).length := some_eq (ek.symm.trans as.length)
  exact ⟨List.length_append ▸ e ▸ h.1, fun h' _ e' hs' => ⟨_, C.setL hn (fun b o hb e => hs'.extBut b o hb e) e' as, h.2⟩⟩
theorem append_ok {Ku : Hs → Prop} (P : PostU Z Kp c Ku fun _ s' => Q .none s') (C : Core Z Kp c hs s) {n : Nat} {y : D} {va v : Value} (Ra : RepV Z c (.loc n) va) (Ry : RepD Z c y v) (h : growV n (appendD (hs.hp.getD n .none) y) hs Ku) :
    wpAny (model Z.P Z.w) A (call (.builtin "list.append") [va, v]) Q E s := by
  obtain ⟨ad, e1, rfl⟩ := Ra
  obtain ⟨_, vs, ep, e2, as⟩ := C.locAt e1
  obtain ⟨hz, hk⟩ := growV_ok (tk := s.toks) (vs := vs) (ws := [v]) C e1 h (fun z' e => appendD_as e as Ry)
  refine wpAny_call_entry slot_list_append ⟨_, e2, rfl⟩ entry_list_append ?_ (args_list_append _ _)
  show wpAny _ _ (updateSeq ad (·.push v) >>= fun _ => ret .none) _ _ s
  have hz1 : vs.toArray.size ≤ sizeLine := by simp [sizeLine]; simp at hz; lia
  refine wpAny_bind (wpAny_updateSeq e2 rfl (hz := hz1) (_hz' := by simp [sizeLine]; simp at hz; lia) (wpAny_pure ⟨.none, rfl, ?_⟩))
  obtain ⟨hs', C', k⟩ := hk (s.heap.update ad (Obj.mapSeq (·.push v))) (ep + 1) (by
    rw [Heap.get?_update_self _ e2 (by simp [Obj.mapSeq, Obj.isFreed])]
    simp [Obj.mapSeq]) (Heap.SameBut.update ..)
  exact P _ _ _ (.refl c) C' k
theorem extend_ok {Ku : Hs → Prop} (P : PostU Z Kp c Ku fun _ s' => Q .none s') (C : Core Z Kp c hs s) {n : Nat} {y : V} {va v : Value} (Ra : RepV Z c (.loc n) va) (Ry : RepV Z c y v) (h : extendV n y hs Ku) :
    wpAny (model Z.P Z.w) A (call (.builtin "list.extend") [va, v]) Q E s := by
  obtain ⟨ad, e1, rfl⟩ := Ra
  obtain ⟨_, vs, ep, e2, as⟩ := C.locAt e1
  obtain ⟨z, ez, _⟩ := optP_iff h
  · obtain ⟨l1, l2⟩ := catD_isL ez
    obtain ⟨a2, ws, k2, rfl, hl2, as2⟩ := view_list C Ry rfl l2
    obtain ⟨hz, hk⟩ := growV_ok (tk := s.toks) (vs := vs) (ws := ws) C e1 h (fun z' e => catD_as e as as2)
    have hz1 : vs.toArray.size ≤ sizeLine := by simp [sizeLine]; lia
    refine call_meets F.slot_list_extend ⟨_, e2, rfl⟩ F.entry_list_extend (F.args_list_extend_2 _ _) (AutoSeq1.list_extend_list_list_0 ad vs.toArray ep a2 ws.toArray k2 (by simp [Builtin.List.listTooLong, sizeLine]; intro _; lia) hz1 (by simp [sizeLine]; lia)) ⟨e2, hl2, ?_⟩
    obtain ⟨hs', C', k⟩ := hk (s.heap.update ad (Obj.mapSeq fun x => x ++ ws.toArray)) (if ((vs ++ ws).toArray.size == vs.toArray.size) = true then ep else ep + 1) (by
      rw [IsL.update (n := ep) (items := vs.toArray) e2]
      simp only [listO, List.append_toArray]) (Heap.SameBut.update ..)
    exact P _ _ _ (.refl c) C' k
end
end Mine
set_option genSizeOf false
set_option genInjectivity false
set_option maxRecDepth 100000
namespace Mine
open PySem PySem.W PySem.Calls PyProof.Rows

/-- what is known of the class -/
structure ClsOK (Z : Stat) (K : Frag) : Prop where
  inK : ∀ a o, K.lookup a = some o → Z.G₀ a = some o
  get : findIn K (.ref Z.ca) "__getattribute__" = some (some (.builtin "object.__getattribute__"))
  noget : findIn K (.ref Z.ca) "__getattr__" = some none
  set : findIn K (.ref Z.ca) "__setattr__" = some (some (.builtin "object.__setattr__"))
  plain : plainOver K Z.ca = true
  hasDict : hasDictIn K Z.ca = true
  makes : makesIn K Z.ca = true
  keep : keepIn K (.ref Z.ca) = true
  own : ∀ x, sMem x fldNames = true → findIn K (.ref Z.ca) x = some none
  meth : ∀ x m y, clsD Z.X x = some (.fn m y) → ∃ f, Z.fa true y = some f ∧ findIn K (.ref Z.ca) x = some (some (.ref f)) ∧ typeIn K (.ref f) = some (.type "function") ∧
    specialIn K (.ref f) "__get__" = some (some (.builtin "function.__get__")) ∧ takesIn K (.ref f) = some false ∧ copiedNames.contains x = false
  con : ∀ x d, clsD Z.X x = some d → (∀ m y, d ≠ .fn m y) → ∃ v, findIn K (.ref Z.ca) x = some (some v) ∧ RepD Z ⟨Z.G₀, [], none⟩ d v ∧ specialIn K v "__get__" = some none ∧ handedIn v = true ∧ copiedNames.contains x = false

section
variable {Z : Stat} {Kp : Addr → Option Obj} {c : Cn} {hs : Hs} {s : Shared} {K : KE} {Q : Value → Shared → Prop} {A : Around} {E : Value → Shared → Prop} {tk : Nat} {F : Frag}

theorem ClsOK.here (B : ClsOK Z F) (C : Core Z Kp c hs s) : F.In s.heap := fun a o e => C.sub _ _ (C.base _ _ (B.inK a o e))
theorem Core.baseLe (C : Core Z Kp c hs s) : Cn.le ⟨Z.G₀, [], none⟩ c := ⟨C.base, fun n a h => by simp at h, fun _ h => nomatch h⟩

theorem isStr_sEq (x y : Str) (t : Tok) : (Value.str y t).isStr x = sEq x y := by
  show (y == x) = sEq x y
  rw [← sEq_beq]
  cases h : sEq x y with
  | true => rw [sEq_iff.mp h]; exact sEq_iff.mpr rfl
  | false =>
    cases h2 : sEq y x with
    | true => rw [sEq_iff.mp h2, sEq_iff.mpr rfl] at h; cases h
    | false => rfl
/-! ### the made object -/
inductive FE (Z : Stat) (c : Cn) : Option V → Option DictEntry → Prop
  | none : FE Z c none none
  | some {u : V} {e : DictEntry} : RepV Z c u e.val → FE Z c (some u) (some e)
theorem FldEnts.fe {es : List DictEntry} {f : Loc} (h : FldEnts Z c es f) (x : Str) : FE Z c (sLook x f) (es.find? (·.key.isStr x)) := by
  induction h with
  | nil => exact .none
  | @cons e es y t u f ek R r ih =>
    have e1 : e.key.isStr x = sEq x y := by rw [ek]; exact isStr_sEq ..
    show FE Z c (if sEq x y = true then some u else sLook x f) _
    rw [List.find?_cons, e1]
    cases sEq x y with
    | true => exact .some R
    | false => exact ih
theorem FldEnts.refs {es : List DictEntry} {f : Loc} (h : FldEnts Z c es f) : es.any (·.refKey) = false := by
  induction h with
  | nil => rfl
  | @cons e es y t u f ek R r ih =>
    rw [List.any_cons, ih, Bool.or_false]
    unfold DictEntry.refKey
    rw [ek]
theorem FldEnts.find {es : List DictEntry} {f : Loc} (h : FldEnts Z c es f) (x : Str) : (∀ u, sLook x f = some u → ∃ v, getL x es = some (some v) ∧ RepV Z c u v) ∧ (sLook x f = none → getL x es = some none) := by
  have fe := h.fe x
  unfold getL
  rw [h.refs]
  revert fe
  generalize sLook x f = a
  generalize es.find? (·.key.isStr x) = b
  intro fe
  cases fe with
  | none => exact ⟨fun u h => (nomatch h), fun _ => rfl⟩
  | @some u e R => exact ⟨fun u h => ⟨e.val, rfl, some_eq h ▸ R⟩, fun h => nomatch h⟩
theorem FldEnts.put {es : List DictEntry} {f : Loc} (h : FldEnts Z c es f) (x : Str) (hsh : Int) (t : Tok) {u : V} {v : Value} (R : RepV Z c u v) : FldEnts Z c (W.putL x hsh (.str x t) v es) (putL x u f) := by
  induction h with
  | nil => exact .cons rfl R .nil
  | @cons e es y t' u' f ek R' r ih =>
    have e1 : e.key.isStr x = sEq x y := by rw [ek]; exact isStr_sEq ..
    show FldEnts Z c (if e.key.isStr x = true then _ else _) (if sEq x y = true then _ else _)
    rw [e1]
    cases hq : sEq x y with
    | true =>
      cases sEq_iff.mp hq
      exact .cons ek R r
    | false => exact .cons ek R' ih
theorem FldEnts.length {es : List DictEntry} {f : Loc} (h : FldEnts Z c es f) : es.length = f.length := by
  induction h with
  | nil => rfl
  | cons _ _ _ ih => exact congrArg Nat.succ ih
inductive InstIs (Z : Stat) (c : Cn) (h : Heap) (q d : Addr) (f : Loc) : Prop
  | mk (es : List DictEntry) (n : Nat) (sl : Array (Option Value)) (I : InstAt h q ⟨.ref Z.ca, some d, .plain, sl⟩ Z.ca (some (dictOf es n))) (e : h.get? d = some (dictOf es n)) (fe : FldEnts Z c es f) : InstIs Z c h q d f
theorem Core.instAt (C : Core Z Kp c hs s) {q d : Addr} {f : Loc} (hm : c.mx = some (q, d)) (hf : hs.mp = some f) : InstIs Z c s.heap q d f := by
  obtain ⟨sl, e⟩ := C.inst q d hm
  obtain ⟨o, e1, es, n, rfl, fe⟩ := C.atM (d, isFld Z c f) (by rw [hm, hf]; exact .head _)
  exact ⟨es, n, sl, ⟨C.sub _ _ e, rfl, rfl, e1⟩, e1, fe⟩
theorem handed_rep {x : D} {v : Value} (h : RepD Z c x v) : handedIn v = true ∨ ∃ b, x = .bi b := by
  cases x with
  | bi b => exact .inr ⟨b, rfl⟩
  | none => exact .inl (congrArg handedIn h)
  | bool _ => exact .inl (congrArg handedIn h)
  | int _ => exact .inl (let ⟨_, e⟩ := h; congrArg handedIn e)
  | str _ => exact .inl (let ⟨_, e⟩ := h; congrArg handedIn e)
  | cls => exact .inl (congrArg handedIn h)
  | fn _ _ => exact .inl (let ⟨_, e, _⟩ := h; congrArg handedIn e)
  | meth _ => exact .inl (let ⟨_, _, _, _, e, _, _, _⟩ := h; congrArg handedIn e)
  | mpu => exact .inl (let ⟨_, _, e, _⟩ := h; congrArg handedIn e)
  | rng _ => exact .inl (let ⟨_, _, _, _, e, _⟩ := h; congrArg handedIn e)
  | arg _ => exact .inl (let ⟨_, _, _, _, e, _, _, _, _⟩ := h; congrArg handedIn e)
  | dict _ => exact .inl (let ⟨_, _, _, e, _, _, _⟩ := h; congrArg handedIn e)
  | _ => exact .inl (let ⟨_, _, _, e, _, _⟩ := h; congrArg handedIn e)
theorem handed_bi (b : Bi) : handedIn (biV b) = true := by cases b <;> first | rfl | decide +kernel
theorem handed_all {x : V} {v : Value} (h : RepV Z c x v) : handedIn v = true := by
  cases x with
  | d x =>
    rcases handed_rep h with e | ⟨b, rfl⟩
    · exact e
    · rw [show v = biV b from h]; exact handed_bi b
  | loc n => obtain ⟨a, _, rfl⟩ := h; rfl
theorem getMeth_ok (B : ClsOK Z F) (P : Post Z Kp c K Q) (C : Core Z Kp c hs s) {q d : Addr} {es : List DictEntry} {n : Nat} {sl : Array (Option Value)} {x y : Str} {m expr : Bool} (hm : c.mx = some (q, d)) (I : InstAt s.heap q ⟨.ref Z.ca, some d, .plain, sl⟩ Z.ca (some (dictOf es n))) (hl : getL x es = some none)
    (hy : clsD Z.X x = some (.fn m y)) (h : K (.d (.meth y)) hs) : wpAny (model Z.P Z.w) A (getAttr (.ref q) x expr) Q E s := by
  have X := B.here C
  obtain ⟨f, hf, h1, h2, h3, h4, h5⟩ := B.meth x m y hy
  obtain ⟨cd, hc', hd⟩ := any_some B.hasDict
  have ho : W.ownOf cd (some (dictOf es n)) x = some none := by unfold W.ownOf; rw [if_pos hd]; exact hl
  have fo : findObj F Z.ca (some (dictOf es n)) x = some (.bind (.builtin "function.__get__") (.ref f)) := by
    unfold findObj
    rw [hc', Option.bind_some, h1, Option.bind_some]
    dsimp only
    rw [h3, Option.bind_some]
    dsimp only
    rw [h4, Option.bind_some]
    dsimp only
    rw [ho, h5]
    rfl
  have e2 : (s.heap.push (methodObj (.ref f) (.ref q))).get? s.heap.objs.size = some (methodObj (.ref f) (.ref q)) := Heap.get?_push_size _ rfl
  obtain ⟨C', l⟩ := C.newG (tk := s.toks + 1) (fun b o e => Heap.get?_push_of_some _ e) (fresh_size _) e2
  exact get_bind X I B.get fo B.noget (wpAny_call (fn_get (s := { s with toks := s.toks + 1 }) X h2 (handed_on rfl (P _ (.d (.meth y)) _ _ _ l C' ⟨_, f, q, d, rfl, hf, hm, Cn.addG_get _ _ _⟩ h))))
theorem getAttrV_ok (B : ClsOK Z F) (P : Post Z Kp c K Q) (C : Core Z Kp c hs s) {o : V} {vo : Value} {x : Str} {expr : Bool} (Ro : RepV Z c o vo) (h : getAttrV Z.X o x hs K) : wpAny (model Z.P Z.w) A (getAttr vo x expr) Q E s := by
  obtain ⟨eo, h⟩ := need_iff h
  obtain ⟨f, hf, h⟩ := optP_iff h
  rw [V.isMpu_eq eo] at Ro
  obtain ⟨q, d, rfl, hm⟩ := Ro
  obtain ⟨es, n, sl, I, e1, fe⟩ := C.instAt hm hf
  rcases orP_iff2 h with ⟨u, hu, h⟩ | ⟨hu, h⟩
  · obtain ⟨hx, h⟩ := need_iff h
    obtain ⟨v, hv, R⟩ := (fe.find x).1 u hu
    exact get_value (B.here C) I B.get (findObj_own B.hasDict (B.own x hx) rfl hv) (handed_all R) (P.now (C.toks (tk := s.toks + 1)) R h)
  · have hl := (fe.find x).2 hu
    obtain ⟨dd, hdd, h⟩ := optP_iff h
    rcases boundD_cases dd with ⟨m, y, rfl⟩ | ⟨hne, e⟩
    · exact getMeth_ok B P C hm I hl hdd h
    · obtain ⟨v, h1, R, h3, h4, h5⟩ := B.con x dd hdd hne
      rw [e] at h
      exact get_value (B.here C) I B.get (findObj_cls B.hasDict h1 h3 h4 h5 hl) h4 (P.now (V := .d dd) (C.toks (tk := s.toks + 1)) (RepD.mono C.baseLe _ _ R) h)

theorem putL_len (x : Str) (hsh : Int) (k v : Value) : ∀ es : List DictEntry, (W.putL x hsh k v es).length ≤ es.length + 1
  | [] => Nat.le_refl _
  | e :: r => by
    show (if e.key.isStr x = true then _ else _ : List DictEntry).length ≤ _
    split
    · exact Nat.le_succ _
    · exact Nat.succ_le_succ (putL_len x hsh k v r)
theorem getL_any {es : List DictEntry} {x : Str} (hl : (getL x es).isSome = true) : (!es.any (·.key.isStr x) && es.any (·.refKey)) = false := by
  unfold getL at hl
  cases he : es.find? (·.key.isStr x) with
  | some en => rw [List.any_eq_true.mpr ⟨en, List.mem_of_find?_eq_some he, List.find?_some he⟩]; rfl
  | none =>
    rw [he] at hl
    cases hr : es.any (·.refKey) with
    | false => exact Bool.and_false _
    | true => rw [hr] at hl; exact nomatch hl
theorem setattr_at {Qu : Unit → Shared → Prop} {q d : Addr} {ox : Obj} {es : List DictEntry} {n : Nat} {x : Str} {v : Value} (B : ClsOK Z F) (X : F.In s.heap) (I : InstAt s.heap q ox Z.ca (some (dictOf es n))) (hd : ox.dict = some d) (D : s.heap.get? d = some (dictOf es n))
    (hx : sMem x fldNames = true) (hl : (getL x es).isSome = true) (hz : es.length ≤ 500)
    (h : ∀ h', h'.get? d = some (dictOf (W.putL x (PyData.keyHash Z.w.params x) (.str x (s.toks + 1)) v es) (putN x es n)) → Heap.SameBut d s.heap h' → Qu () { s with heap := h', toks := s.toks + 2 }) :
    wpAny (model Z.P Z.w) A (setAttr (.ref q) x v) Qu E s := by
  have ht : takerIn F Z.ca x = some none := by unfold takerIn; rw [B.own x hx]; rfl
  refine set_plain X I B.set (osa_open (s := { s with toks := s.toks + 1 }) X I B.plain ht fun b => ?_)
  obtain ⟨cd, hc, hd'⟩ := any_some B.hasDict
  obtain ⟨hxx, hcl, hn, -⟩ := I
  obtain ⟨oc, odi, oda, osl⟩ := ox
  dsimp only at hcl hd
  subst hcl hd
  have put : Obj.putName x (PyData.keyHash Z.w.params x) (.str x (s.toks + 1)) v (dictOf es n) = dictOf (W.putL x (PyData.keyHash Z.w.params x) (.str x (s.toks + 1)) v es) (putN x es n) := putName_dict ..
  have D' : (s.heap.update d (Obj.putName x (PyData.keyHash Z.w.params x) (.str x (s.toks + 1)) v)).get? d = some (dictOf (W.putL x (PyData.keyHash Z.w.params x) (.str x (s.toks + 1)) v es) (putN x es n)) := by
    rw [Heap.get?_update_self _ D (by rw [put]; rfl), put]
  refine wpAny_bind (wpAny_pure (wpAny_bind (wpAny_bind (wpAny_loadPart hxx (wpAny_bind (looks_clsIn X hc _ _ _ _ (fun _ _ e => e) ?_))))))
  rw [hd']
  refine wpAny_pure (a := some d) (wpAny_bind (wpAny_pure (wpAny_bind ?_)))
  unfold nsSet
  refine wpAny_bind (wpAny_bind (wpAny_askSetting (wpAny_pure (wpAny_bind (wpAny_mkText (wpAny_bind (wpAny_loadPart D ?_)))))))
  refine wpF (by rw [aRefKeyMayBeTheName_at, List.any_toArray, List.any_toArray]; exact getL_any hl) ?_
  refine wpAny_updatePart D ?_
  refine wpAny_bind (wpAny_lookBehind D' (pastItsLine_dict (by
    have : (W.putL x (PyData.keyHash Z.w.params x) (.str x (s.toks + 1)) v es).length ≤ es.length + 1 := putL_len _ _ _ _ _
    rw [List.size_toArray, sizeLine_eq]; lia)) ?_)
  exact wpAny_pure (h _ D' (Heap.SameBut.update ..))
theorem setAttrV_ok {Ku : Hs → Prop} {Qu : Unit → Shared → Prop} (B : ClsOK Z F) (P : PostU Z Kp c Ku Qu) (C : Core Z Kp c hs s) {o u : V} {vo vu : Value} {x : Str} (Ro : RepV Z c o vo) (Ru : RepV Z c u vu) (h : setAttrV o x u hs Ku) :
    wpAny (model Z.P Z.w) A (setAttr vo x vu) Qu E s := by
  obtain ⟨eo, h⟩ := need_iff h
  obtain ⟨f, hf, h⟩ := optP_iff h
  obtain ⟨hx, h⟩ := need_iff h
  obtain ⟨hx, hn⟩ := and_t hx
  rw [V.isMpu_eq eo] at Ro
  obtain ⟨q, d, rfl, hm⟩ := Ro
  obtain ⟨es, n, sl, I, e1, fe⟩ := C.instAt hm hf
  have hl : (getL x es).isSome = true := by
    cases hu : sLook x f with
    | some u' => obtain ⟨v, hv, _⟩ := (fe.find x).1 u' hu; rw [hv]; rfl
    | none => rw [(fe.find x).2 hu]; rfl
  exact setattr_at B (B.here C) I rfl e1 hx hl (fe.length ▸ Nat.le_trans (Nat.le_of_ble_eq_true hn) (by decide)) fun h' e' hs' =>
    P _ _ _ (.refl c) (C.setM hm hf (fun b o hb e => hs'.extBut b o hb e) e' ⟨_, _, rfl, fe.put x _ _ Ru⟩) h
/-- a method looked up to be called -/
theorem isMeth_ok (B : ClsOK Z F) (C : Core Z Kp c hs s) {vo : Value} {x y : Str} {f : Loc} {pl : Sem Bool} {Qm : Value × List Value → Shared → Prop} (Ro : RepV Z c (.d .mpu) vo) (hf : hs.mp = some f) (h : isMeth Z.X x f = some y)
    (hq : ∀ a, Z.fa true y = some a → Qm (.ref a, [vo]) s) : wpAny (model Z.P Z.w) A (getMethod vo x pl) Qm E s := by
  obtain ⟨q, d, rfl, hm⟩ := Ro
  obtain ⟨hu, h⟩ := noB_iff h
  obtain ⟨dd, hd, h⟩ := optB_iff h
  obtain ⟨m, rfl⟩ := D.fn_eq h
  obtain ⟨es, n, sl, I, e1, fe⟩ := C.instAt hm hf
  obtain ⟨a, ha, h1, h2, h3, h4, h5⟩ := B.meth x m y hd
  have hl := (fe.find x).2 (none_of_isSome hu)
  exact method_fn (B.here C) I B.get B.noget h1 h2 (by show (lookIn x (dictOf es n)).map _ = _; rw [lookIn_dict, hl]; rfl) (hq a ha)
/-- a list's own method looked up to be called -/
theorem listMeth_ok {a : Addr} {vs : List Value} {n : Nat} (hl : s.heap.get? a = some (listO vs n)) {pl : Sem Bool} {Qm : Value × List Value → Shared → Prop} {x : Str} {id : String} (pa : PlainAttrs "list") (slot : Slot "list" x id) (hty : typeOf (.builtin id) = pure (.type "method_descriptor"))
    (hq : Qm (.builtin id, [.ref a]) s) : wpAny (model Z.P Z.w) A (getMethod (.ref a) x pl) Qm E s :=
  getMethod_builtin ⟨_, hl, rfl⟩ pa slot hty (fun b e => by cases e; exact ⟨_, hl, rfl⟩) hq

/-! ### built-in functions -/
theorem lenV_ok (P : Post Z Kp c K Q) (C : Core Z Kp c hs s) {v : V} {w : Value} {n : Nat} (R : RepV Z c v w) (hn : lenD (deref hs v) = some n) (hz : n < 2 ^ 62) (h : K (.d (.int n)) hs) : wpAny (model Z.P Z.w) A (call (.builtin "len") [w]) Q E s := by
  have d := fun x => view_d C R (x := x)
  have l := fun x => view_list C R (x := x)
  revert hn d l
  generalize deref hs v = x
  intro hn d l
  have hl : ∀ {vs : List Value}, n = vs.length → (vs.toArray.size : Int) < 2 ^ 63 := fun {vs} e => by show (vs.length : Int) < 2 ^ 63; lia
  have list : SeqAt s.heap (fun vs => n = vs.length) w → wpAny (model Z.P Z.w) A (call (.builtin "len") [w]) Q E s := fun V => by
    obtain ⟨a, vs, k, rfl, g, e⟩ := V
    exact PyProof.Rows.len_list (items := vs.toArray) ⟨_, g, rfl, k, rfl⟩ (hl e) (P.int C (by cases e; exact h))
  cases x with
  | tup xs =>
    obtain ⟨a, vs, k, rfl, g, as⟩ := d _ rfl rfl
    have e : n = vs.length := (some_eq hn).symm.trans as.length
    exact PyProof.Rows.len_tuple (items := vs.toArray) ⟨_, C.sub _ _ g, rfl, k, rfl⟩ (hl e) (P.int C (by cases e; exact h))
  | list xs => exact list (let ⟨a, vs, k, e, g, as⟩ := l _ rfl rfl; ⟨a, vs, k, e, g, (some_eq hn).symm.trans (RepDs.length as)⟩)
  | «ints» xs => exact list (let ⟨a, vs, k, e, g, as⟩ := l _ rfl rfl; ⟨a, vs, k, e, g, (some_eq hn).symm.trans (IntsAre.length' as)⟩)
  | _ => exact none_some hn
theorem sumV_ok (P : Post Z Kp c K Q) (C : Core Z Kp c hs s) {xs : List Int} {w : Value} (R : SeqAt s.heap (fun vs => IntsAre vs xs) w) (hh : A.handled = none) (h : K (.d (.int xs.sum)) hs) : wpAny (model Z.P Z.w) A (call (.builtin "sum") [w]) Q E s := by
  obtain ⟨a, vs, n, rfl, hl, as⟩ := R
  have l : s.heap.IsList a vs.toArray := ⟨_, hl, rfl, n, rfl⟩
  have len : xs.length = vs.length := IntsAre.length' as
  refine call_sum_walkG (wpAny_pyIter_list l ?_)
  have hlt := Heap.lt_size hl
  refine ⟨_, _, _, _, _, _, fun i => xs.getD i 0, rfl, Walks.list (A := A.in1) hh s.heap.objs.size a (Nat.ne_of_lt hlt) vs.toArray, ⟨⟨_, Heap.get?_push_size _ rfl, rfl, rfl⟩, ⟨_, Heap.get?_push_of_some _ hl, rfl, n, rfl⟩⟩, fun b hb => ?_, fun i v hv => ?_, fun h' tk t' hk => ?_⟩
  · show b < (s.heap.push _).objs.size
    rw [Heap.size_push]
    rcases List.mem_cons.mp hb with e | hb
    · rw [e]; exact Nat.lt_succ_self _
    · rw [List.mem_singleton.mp hb]; exact Nat.lt_succ_of_lt hlt
  · have e' : vs[i]? = some v := (List.getElem?_toArray ..).symm.trans hv
    obtain ⟨t, e⟩ := ints_get as i (len ▸ (List.getElem?_eq_some_iff.mp e').1)
    exact ⟨t, some_eq (e'.symm.trans e)⟩
  · have e : preSum (fun i => xs.getD i 0) vs.toArray.size = xs.sum := by
      rw [PyProof.Rows.preSum_getD, show vs.toArray.size = xs.length from len.symm, List.take_length]
    rw [e]
    refine P.now (V := .d (.int xs.sum)) (C.keepTo fun b o e => hk b o ?_ (Heap.get?_push_of_some _ e)) ⟨_, rfl⟩ h
    have := Heap.lt_size e
    exact fun q => absurd (List.mem_singleton.mp q) (Nat.ne_of_lt this)
theorem rangeV_ok (P : Post Z Kp c K Q) (C : Core Z Kp c hs s) {n : Int} {t : Tok} (h : K (.d (.rng n)) hs) : wpAny (model Z.P Z.w) A (call (.type "range") [.int n t]) Q E s := by
  refine call_range_1 ?_
  obtain ⟨C', l⟩ := C.newG (tk := s.toks + 1 + 1) (h' := s.heap.push { cls := .type "range", data := .fields #[.int 0 s.toks, .int n t, .int 1 (s.toks + 1)] }) (fun b o e => Heap.get?_push_of_some _ e) (fresh_size _) (Heap.get?_push_size _ rfl)
  exact P _ (.d (.rng n)) _ _ _ l C' ⟨_, _, _, _, rfl, Cn.addG_get _ _ _⟩ h
theorem biCall_ok (P : Post Z Kp c K Q) (C : Core Z Kp c hs s) {b : Bi} {vs : List V} {ws : List Value} (R : RepVs Z c vs ws) (hh : A.handled = none) (h : biCall b vs hs K) : wpAny (model Z.P Z.w) A (call (biV b) ws) Q E s := by
  obtain ⟨v, e, h⟩ := optP_iff h
  rw [one_eq e] at R
  obtain ⟨w, r, rfl, R1, rfl⟩ := R
  cases b with
  | len =>
    obtain ⟨n, hn, h⟩ := optP_iff h
    exact lenV_ok P C R1 hn h.1 h.2
  | sum =>
    obtain ⟨xs, hx, h⟩ := optP_iff h
    exact sumV_ok P C (view_list C R1 (D.ints_eq hx) rfl) hh h.2
  | range =>
    obtain ⟨n, hx, h⟩ := optP_iff h
    rw [V.int_eq hx] at R1
    obtain ⟨t, rfl⟩ := R1
    exact rangeV_ok P C h.2
  | _ => exact False.elim h
end
end Mine
set_option genSizeOf false
set_option genInjectivity false
set_option maxRecDepth 100000
namespace Mine
open PySem PySem.W PySem.Calls PyProof.Rows

inductive GlobA (h : Heap) (x : Str) (v : Value) : Prop
  | mk (gm : Str → Option Value) (h1 : h.Ns mainGlobals gm) (h2 : gm x = some v) : GlobA h x v
inductive GlobB (h : Heap) (x : Str) (v : Value) : Prop
  | mk (gm bm : Str → Option Value) (h1 : h.Ns mainGlobals gm) (h2 : gm x = none) (h3 : h.Ns builtinsNs bm) (h4 : bm x = some v) : GlobB h x v
noncomputable def GlobIs (h : Heap) (x : Str) (v : Value) : Prop := GlobA h x v ∨ GlobB h x v
structure BaseOK (Z : Stat) (F : Frag) : Prop where
  cls : ClsOK Z F
  glob : ∀ x d, glob Z.X x = some d → ∃ v, RepD Z ⟨Z.G₀, [], none⟩ d v ∧ ∀ h, Sub Z.G₀ h → GlobIs h x v
  nolim : ∀ h, Sub Z.G₀ h → h.NoLimit
  fns : ∀ m x a, Z.fa m x = some a → ∃ o fd, Z.G₀ a = some o ∧ o.data = .func fd
structure EnvOK (env : Env) (sc : Names) : Prop where
  names : env.scope.names = sc
  kind : env.scope.kind = .function
  glob : env.globals = mainGlobals
  blt : env.builtins = builtinsNs
  nodebug : sLook "__debug__" sc = none
  cells : ∀ x, (env.kindOf x = some .cell ∨ env.kindOf x = some .free) → (env.cells.lookup x).isSome = true
inductive NsIn (Z : Stat) (Kp : Addr → Option Obj) (c : Cn) (env : Env) (loc : Loc) : Prop
  | mk (o : Obj) (es : Array DictEntry) (ep : Nat) (h1 : Kp env.locals = some o) (h2 : o.data = .dict es ep) (h3 : StrKeys es) (h4 : ∀ x V, sLook x loc = some V → env.kindOf x = some .local → ∃ v, nsFind es x = some v ∧ RepV Z c V v) : NsIn Z Kp c env loc
inductive CellIn (Z : Stat) (Kp : Addr → Option Obj) (c : Cn) (env : Env) (x : Str) (V : V) : Prop
  | mk (a : Addr) (v : Value) (o : Obj) (h1 : env.cells.lookup x = some a) (h2 : Kp a = some o) (h3 : o.data = .cell (some v)) (h4 : RepV Z c V v) : CellIn Z Kp c env x V
structure FrameIn (Z : Stat) (Kp : Addr → Option Obj) (c : Cn) (env : Env) (loc : Loc) : Prop where
  ns : NsIn Z Kp c env loc
  cell : ∀ x V, sLook x loc = some V → (env.kindOf x = some .cell ∨ env.kindOf x = some .free) → CellIn Z Kp c env x V
theorem FrameIn.mono {Z : Stat} {Kp : Addr → Option Obj} {c c' : Cn} {env : Env} {loc : Loc} (l : c.le c') (h : FrameIn Z Kp c env loc) : FrameIn Z Kp c' env loc := by
  obtain ⟨⟨o, es, ep, h1, h2, h3, h4⟩, h5⟩ := h
  refine ⟨⟨o, es, ep, h1, h2, h3, fun x V e k => ?_⟩, fun x V e k => ?_⟩
  · obtain ⟨v, a, b⟩ := h4 x V e k
    exact ⟨v, a, b.mono l⟩
  · obtain ⟨a, v, o, h1, h2, h3, h4⟩ := h5 x V e k
    exact ⟨a, v, o, h1, h2, h3, h4.mono l⟩
structure AOK (d : Nat) (A : Around) : Prop where
  handled : A.handled = none
  depth : A.depth + 4 * d + 4 < recursionLimit
  units : A.units + 40 * d + 40 < cLine
theorem AOK.hu {d : Nat} {A : Around} (h : AOK d A) : A.units < cLine := Nat.lt_of_le_of_lt (Nat.le_trans (Nat.le_add_right _ _) (Nat.le_add_right _ _)) h.units

noncomputable def SE (Z : Stat) (d : Nat) (rec : RecE) : Prop :=
  ∀ (env : Env) (sc : Names) (m : Bool) (e : Expr) (loc : Loc) (hs : Hs) (K : KE) (Kp : Addr → Option Obj) (c : Cn) (s : Shared) (A : Around) (Q : Value → Shared → Prop) (E : Value → Shared → Prop),
    EnvOK env sc → AOK d A → FrameIn Z Kp c env loc → Core Z Kp c hs s → rec sc m e loc hs K → Post Z Kp c K Q → wpAny (model Z.P Z.w) A (eval e env) Q E s
noncomputable def PostB (Z : Stat) (Kp : Addr → Option Obj) (c : Cn) (K : Bool → Hs → Prop) (Q : Bool → Shared → Prop) : Prop :=
  ∀ (c' : Cn) (b : Bool) (hs' : Hs) (s' : Shared), c.le c' → Core Z Kp c' hs' s' → K b hs' → Q b s'
noncomputable def ST (Z : Stat) (d : Nat) (rec : RecE) : Prop :=
  ∀ (env : Env) (sc : Names) (e : Expr) (loc : Loc) (hs : Hs) (K : KE) (KB : Bool → Hs → Prop) (Kp : Addr → Option Obj) (c : Cn) (s : Shared) (A : Around) (Q : Bool → Shared → Prop) (E : Value → Shared → Prop),
    EnvOK env sc → AOK d A → FrameIn Z Kp c env loc → Core Z Kp c hs s → rec sc false e loc hs K → (∀ v hs, K v hs → truthV v hs fun b => KB b hs) → PostB Z Kp c KB Q → wpAny (model Z.P Z.w) A (isTrue e env (eval e env)) Q E s
noncomputable def SC (Z : Stat) (d : Nat) (call : CallR) : Prop :=
  ∀ (m isM : Bool) (name : Str) (vs : List V) (hs : Hs) (K : KE) (Kp : Addr → Option Obj) (c : Cn) (s : Shared) (A : Around) (Q : Value → Shared → Prop) (E : Value → Shared → Prop) (ws : List Value) (a : Addr),
    AOK d A → Core Z Kp c hs s → RepVs Z c vs ws → Z.fa isM name = some a → call m isM name vs hs K → Post Z Kp c K Q → codeAny (model Z.P Z.w) A (.call (.ref a) ⟨ws, []⟩) (fun r s' => match r with | .ok (.ret v) => Q v s' | .ok _ => False | .error e => E e s') s
/-- a class called -/
noncomputable def SN (Z : Stat) (d : Nat) (call : CallR) : Prop :=
  ∀ (f : V) (ns : List Str) (vs : List V) (hs : Hs) (K : KE) (Kp : Addr → Option Obj) (c : Cn) (s : Shared) (A : Around) (Q : Value → Shared → Prop) (E : Value → Shared → Prop) (ws : List Value) (v : Value),
    AOK d A → Core Z Kp c hs s → RepV Z c f v → RepVs Z c vs ws → newV Z.X call f (some ns) vs hs K → Post Z Kp c K Q → wpAny (model Z.P Z.w) A (PySem.call v [] (ns.zip ws)) Q E s

section
variable {Z : Stat} {Kp : Addr → Option Obj} {c : Cn} {hs : Hs} {s : Shared} {K : KE} {Q : Value → Shared → Prop} {A : Around} {E : Value → Shared → Prop} {tk : Nat} {F : Frag} {env : Env} {sc : Names} {loc : Loc} {d : Nat} {rec : RecE} {call : CallR}

theorem lookup_ne {x y : Str} {ns : Names} {k : NameKind} (h : ns.lookup x = some k) (h' : sLook y ns = none) : (x == y) = false := by
  cases q : x == y with
  | false => rfl
  | true =>
    rw [sLook_eq] at h'
    rw [beq_iff_eq.mp q, h'] at h
    cases h
theorem const_ok (P : Post Z Kp c K Q) (C : Core Z Kp c hs s) {k : Const} {dd : D} (h : constD k = some dd) (hk : K (.d dd) hs) : wpAny (model Z.P Z.w) A (constValue env k) Q E s := by
  cases k with
  | none => cases some_eq h; exact wpAny_pure (P.none C hk)
  | bool b => cases some_eq h; exact wpAny_pure (P.bool C hk)
  | int i => cases some_eq h; exact wpAny_mkInt (P.int C hk)
  | str x => cases some_eq h; exact wpAny_mkText (P.now (V := .d (.str _)) C.toks ⟨_, rfl⟩ hk)
  | _ => exact none_some h
theorem name_ok (B : BaseOK Z F) (O : EnvOK env sc) (FI : FrameIn Z Kp c env loc) (P : Post Z Kp c K Q) (C : Core Z Kp c hs s) {x : Str} {pos : Pos} (h : evName Z.X sc x loc hs K) : wpAny (model Z.P Z.w) A (eval (.Name x pos) env) Q E s := by
  obtain ⟨k, e, h⟩ := optP_iff h
  rw [sLook_eq] at e
  have hk : env.kindOf x = some k := by
    show env.scope.names.lookup x = some k
    rw [O.names]; exact e
  have hdb : (x == ("__debug__" : Str)) = false := lookup_ne e O.nodebug
  cases k with
  | globalImplicit =>
    obtain ⟨dd, hd, h⟩ := optP_iff h
    obtain ⟨v, R, hv⟩ := B.glob x dd hd
    have q : Q v s := P.now (V := .d dd) C (RepD.mono C.baseLe _ _ R) h
    refine Name_function_global O.kind hk ?_ hdb
    rcases hv s.heap (fun b o e => C.sub _ _ (C.base _ _ e)) with ⟨gm, h1, h2⟩ | ⟨gm, bm, h1, h2, h3, h4⟩
    · exact loadGlobal_global (O.glob.symm ▸ h1) h2 q
    · exact loadGlobal_builtin (O.glob.symm ▸ h1) h2 (O.blt.symm ▸ h3) h4 q
  | «local» =>
    obtain ⟨V, hV, h⟩ := optP_iff h
    obtain ⟨o, es, ep, h1, h2, h3, h4⟩ := FI.ns
    obtain ⟨v, e1, R⟩ := h4 x V hV hk
    exact wpAny_Name (wpAny_loadName_local O.kind hk ⟨o, es, ep, C.kp _ _ h1, h2, h3, fun n => rfl⟩ e1 (P.now C R h)) hdb
  | cell =>
    obtain ⟨V, hV, h⟩ := optP_iff h
    obtain ⟨a, v, o, h1, h2, h3, R⟩ := FI.cell x V hV (.inl hk)
    exact wpAny_Name (wpAny_loadName_cell O.kind hk h1 ⟨o, C.kp _ _ h2, h3⟩ (P.now C R h)) hdb
  | _ => exact False.elim h

/-! ### the parts of an expression -/
theorem SE.ev (S : SE Z d rec) (O : EnvOK env sc) (a : AOK d A) (FI : FrameIn Z Kp c env loc) (C : Core Z Kp c hs s) {m : Bool} {e : Expr} {Q : Value → Shared → Prop} (h : rec sc m e loc hs K)
    (k : ∀ c' V v hs' s', c.le c' → Core Z Kp c' hs' s' → FrameIn Z Kp c' env loc → RepV Z c' V v → K V hs' → Q v s') : wpAny (model Z.P Z.w) A (eval e env) Q E s :=
  S env sc m e loc hs K Kp c s A Q E O a FI C h fun c' V v hs' s' l C' R kk => k c' V v hs' s' l C' (FI.mono l) R kk
theorem star_one {e : Expr} {es : List Expr} (h : noStar (e :: es) = true) : starEach (e :: es) env = (false, eval e env) :: starEach es env ∧ noStar es = true := by
  obtain ⟨h1, h2⟩ := and_t h
  refine ⟨?_, h2⟩
  clear h h2
  cases e <;> first | rfl | exact absurd h1 Bool.false_ne_true
theorem evs_ok (S : SE Z d rec) (O : EnvOK env sc) (a : AOK d A) {pos : Pos} : ∀ {es : List Expr} {hs : Hs} {c : Cn} {s : Shared} {K : List V → Hs → Prop} {Q : List Value → Shared → Prop}, FrameIn Z Kp c env loc → Core Z Kp c hs s →
    noStar es = true → evs (fun e => rec sc false e loc) es hs K →
    (∀ c' Vs vs hs' s', c.le c' → Core Z Kp c' hs' s' → RepVs Z c' Vs vs → Vs.length = es.length → K Vs hs' → Q vs s') → wpAny (model Z.P Z.w) A (spliced (backTo pos (starEach es env))) Q E s
  | [], hs, c, s, K, Q, FI, C, _, h, k => wpAny_items_nil (k c [] [] hs s (.refl c) C rfl rfl h)
  | e :: es, hs, c, s, K, Q, FI, C, ns, h, k => by
    have hst := star_one (env := env) ns
    refine wpAny_items_cons (S.ev O a FI C h fun c₁ V v hs₁ s₁ l C₁ F₁ R h₁ => ?_) hst.1
    refine evs_ok S O a F₁ C₁ hst.2 h₁ fun c₂ Vs vs hs₂ s₂ l₂ C₂ Rs len h₂ => ?_
    exact k c₂ (V :: Vs) (v :: vs) hs₂ s₂ (l.trans l₂) C₂ ⟨v, vs, rfl, R.mono l₂, Rs⟩ (congrArg Nat.succ len) h₂
theorem allSome_cons {α : Type} {o : Option α} {r : List (Option α)} {l : List α} (h : allSome (o :: r) = some l) : ∃ a l', o = some a ∧ allSome r = some l' ∧ l = a :: l' := by
  obtain ⟨a, e, h⟩ := optB_iff h
  obtain ⟨l', e', h⟩ := optB_iff h
  exact ⟨a, l', e, e', (some_eq h).symm⟩
theorem asDs_ok : ∀ {Vs : List V} {vs : List Value} {ds : List D}, RepVs Z c Vs vs → asDs Vs = some ds → RepDs Z c ds vs
  | [], vs, ds, h, e => some_eq e ▸ h
  | V :: Vs, vs, ds, h, e => by
    obtain ⟨v, r, rfl, h1, h2⟩ := h
    obtain ⟨d, l, e1, e2, rfl⟩ := allSome_cons (show allSome (asD V :: Vs.map asD) = some ds from e)
    cases V with
    | loc n => exact none_some e1
    | d x => exact ⟨v, r, rfl, some_eq e1 ▸ h1, asDs_ok h2 e2⟩
theorem RepVs.length : ∀ {Vs : List V} {vs : List Value}, RepVs Z c Vs vs → Vs.length = vs.length
  | [], vs, h => by obtain rfl : vs = [] := h; rfl
  | V :: Vs, vs, h => by
    obtain ⟨v, r, rfl, _, h2⟩ := h
    exact congrArg Nat.succ (RepVs.length h2)
theorem okBase_base {o : Expr} {x : Str} {w : Sem Value} (h : okBase o = true) : attributeBase o x env w = w := by cases o <;> first | rfl | exact ff h
theorem br_iff {b : Bool} {P R : Prop} (h : br b P R) : (b = true ∧ P) ∨ (b = false ∧ R) := by cases b <;> first | exact .inl ⟨rfl, h⟩ | exact .inr ⟨rfl, h⟩
theorem boolE_ok (S : SE Z d rec) (O : EnvOK env sc) (a : AOK d A) {op : BoolOp} {pos : Pos} : ∀ {es : List Expr} {hs : Hs} {c : Cn} {s : Shared} {K : KE} {Q : Value → Shared → Prop}, FrameIn Z Kp c env loc → Core Z Kp c hs s →
    boolE (fun e => rec sc false e loc) op es hs K → Post Z Kp c K Q → wpAny (model Z.P Z.w) A (boolOp pos op (evalEach es env)) Q E s
  | [], hs, c, s, K, Q, FI, C, h, P => False.elim h
  | [e], hs, c, s, K, Q, FI, C, h, P => S env sc false e loc hs K Kp c s A Q E O a FI C h P
  | e :: e' :: es, hs, c, s, K, Q, FI, C, h, P => by
    show wpAny _ A (do
      let v ← eval e env
      standAt pos
      let t ← holding [v] (truthy v)
      match op, t with
      | .And, false | .Or, true => pure v
      | _, _ => boolOp pos op (evalEach (e' :: es) env)) Q E s
    refine wpAny_bind (S.ev O a FI C h fun c₁ V v hs₁ s₁ l C₁ F₁ R h₁ => wpAny_bind (wpAny_standAt (wpAny_bind (wpAny_holding ?_))))
    refine truthV_ok (fun b tk hb => ?_) C₁ R h₁
    cases op <;> rcases br_iff hb with ⟨rfl, hb⟩ | ⟨rfl, hb⟩
    · exact boolE_ok S O a F₁ C₁.toks hb (P.up l)
    · exact wpAny_pure (P c₁ V v hs₁ _ l C₁.toks R hb)
    · exact wpAny_pure (P c₁ V v hs₁ _ l C₁.toks R hb)
    · exact boolE_ok S O a F₁ C₁.toks hb (P.up l)
theorem part_ok (S : SE Z d rec) (O : EnvOK env sc) (a : AOK d A) (FI : FrameIn Z Kp c env loc) (C : Core Z Kp c hs s) {eo : Option Expr} {K : Option V → Hs → Prop} {Q : Value → Shared → Prop} (h : evOpt (fun e => rec sc false e loc) eo hs K)
    (k : ∀ c' V v hs' s', c.le c' → Core Z Kp c' hs' s' → FrameIn Z Kp c' env loc → RepO Z c' V v → K V hs' → Q v s') : wpAny (model Z.P Z.w) A (valueOrNone (evalOpt eo env)) Q E s := by
  cases eo with
  | none => exact wpAny_pure (k c none .none hs s (.refl c) C FI rfl h)
  | some e => exact S.ev O a FI C h fun c' V v hs' s' l C' F' R kk => k c' (some V) v hs' s' l C' F' R kk
theorem subscripted_false (slice : Expr) (o i : Value) : subscripted slice false o i = operate [i, o] (getItem o i) ∨ subscripted slice false o i = operate [o, i] (getItem o i) := by
  cases slice with
  | Slice lo hi st p => cases st <;> first | exact .inl rfl | exact .inr rfl
  | _ => exact .inr rfl
theorem sub_ok {slice : Expr} {b : Bool} {o i : Value} (hb : b = false) (h : wpAny (model Z.P Z.w) A (getItem o i) Q E s) : wpAny (model Z.P Z.w) A (subscripted slice b o i) Q E s := by
  cases hb
  rcases subscripted_false slice o i with e | e
  · exact wpEq e (PyProof.Rows.wpAny_operate' h)
  · exact wpEq e (PyProof.Rows.wpAny_operate' h)
/-- the end of a subscript -/
theorem tail_ok {slice value : Expr} {pos : Pos} {o i : Value} (hT : itemType s o) (h : wpAny (model Z.P Z.w) A (getItem o i) Q E s) :
    wpAny (model Z.P Z.w) A (do
      standAt pos
      let r ← subscripted slice (← getitemInPython o) o i
      letTemporaryGo value o r
      pure r) Q E s := by
  obtain ⟨T, id, hT, hl⟩ := hT
  refine wpAny_bind (wpAny_standAt (wpAny_bind ?_))
  rw [getitemInPython_of_ne hT.not_modules]
  refine wpAny_bind (wpAny_specialOf hT hl ?_)
  have fin : wpAny (model Z.P Z.w) A (subscripted slice false o i) (fun r s₃ => wpAny (model Z.P Z.w) A (letTemporaryGo value o r >>= fun _ => pure r) Q E s₃) E s :=
    sub_ok (A := A) rfl (wpAny_mono h (fun r s₃ h₃ => wpAny_bind (wpAny_letTemporaryGo (wpAny_pure h₃))) fun _ _ x => x)
  first
    | exact wpAny_pure (wpAny_bind fin)
    | exact wpAny_bind (wpAny_pure (wpAny_bind fin))
    | exact wpAny_bind fin
end
end Mine
set_option genSizeOf false
set_option genInjectivity false
set_option maxRecDepth 100000
namespace Mine
open PySem PySem.W PySem.Calls PyProof.Rows

section
variable {Z : Stat} {Kp : Addr → Option Obj} {c : Cn} {hs : Hs} {s : Shared} {K : KE} {Q : Value → Shared → Prop} {A : Around} {E : Value → Shared → Prop} {tk : Nat} {Fg : Frag} {env : Env} {sc : Names} {loc : Loc} {d : Nat} {rec : RecE} {call : CallR}

noncomputable def Keeps1 (Z : Stat) (f : Value) (h : Heap) : Prop := ∃ k, (k = Keeper.frame ∨ k = Keeper.machine ∨ k = Keeper.boundFrame) ∧ Looks (model Z.P Z.w) h (keeperOf f) k
theorem keeps_fn (B : BaseOK Z Fg) (C : Core Z Kp c hs s) {m : Bool} {x : Str} {a : Addr} (h : Z.fa m x = some a) : Keeps1 Z (.ref a) s.heap := by
  obtain ⟨o, fd, e, ed⟩ := B.fns m x a h
  refine ⟨.frame, .inl rfl, (Looks.ld (part := none) (C.sub _ _ (C.base _ _ e))).andThen ?_⟩
  rw [ed]
  exact .now
theorem keeps_meth (B : BaseOK Z Fg) (C : Core Z Kp c hs s) {x : Str} {v : Value} (h : RepD Z c (.meth x) v) : Keeps1 Z v s.heap := by
  obtain ⟨a, f, q, dd, rfl, hf, hm, g⟩ := h
  obtain ⟨o, fd, e, ed⟩ := B.fns true x f hf
  refine ⟨.boundFrame, .inr (.inr rfl), (Looks.ld (part := none) (C.sub _ _ g)).andThen ?_⟩
  refine (Looks.ld (part := none) (C.sub _ _ (C.base _ _ e))).andThen ?_
  rw [ed]
  exact .now
theorem keeps_bi (b : Bi) (h : Heap) : Keeps1 Z (biV b) h := ⟨.machine, .inr (.inl rfl), by cases b <;> exact .now⟩

theorem noStar_any {pos : Pos} : ∀ {es : List Expr}, noStar es = true → (backTo pos (starEach es env)).any (·.1) = false ∧ (backTo pos (starEach es env)).all (fun x => !x.1) = true
  | [], _ => ⟨rfl, rfl⟩
  | e :: es, h => by
    have hst := star_one (env := env) h
    obtain ⟨i1, i2⟩ := noStar_any (pos := pos) hst.2
    rw [hst.1]
    exact ⟨i1, i2⟩
theorem evalArgs_ok {f : Value} {pos : Pos} {es : List Expr} {Q : Args → Shared → Prop} (ns : noStar es = true) (h : wpAny (model Z.P Z.w) A (spliced (backTo pos (starEach es env))) (fun vs s₁ => Q ⟨vs, []⟩ s₁) E s) :
    wpAny (model Z.P Z.w) A (evalArgs f true (backTo pos (starEach es env)) []) Q E s := by
  cases es with
  | nil =>
    unfold evalArgs
    show wpAny _ _ (spliced (backTo pos (starEach [] env)) >>= _) _ _ _
    refine wpAny_bind (wpAny_mono h (fun vs s' h' => ?_) fun _ _ x => x)
    refine wpAny_bind (wpAny_pure ?_)
    refine wpAny_holding ?_
    exact wpAny_bind (wpAny_pure (wpAny_bind (wpAny_pure (wpAny_pure h'))))
  | cons e es =>
    have hst := (star_one (env := env) ns).1
    rw [hst] at h ⊢
    exact evalArgs_plain h
theorem callWith_ok (S : SE Z d rec) (O : EnvOK env sc) (a : AOK d A) (FI : FrameIn Z Kp c env loc) (C : Core Z Kp c hs s) {f : Value} {pos : Pos} {first : List Value} {es : List Expr} {K : List V → Hs → Prop} {Q : Value → Shared → Prop}
    (ns : noStar es = true) (h : evs (fun e => rec sc false e loc) es hs K)
    (hk : ∀ c' Vs hs' s', c.le c' → Core Z Kp c' hs' s' → K Vs hs' → Keeps1 Z f s'.heap)
    (k : ∀ c' Vs vs hs' s', c.le c' → Core Z Kp c' hs' s' → RepVs Z c' Vs vs → K Vs hs' → wpAny (model Z.P Z.w) A (PySem.call f (first ++ vs)) Q E s') :
    wpAny (model Z.P Z.w) A (callWith pos f first (backTo pos (starEach es env)) []) Q E s := by
  refine callWith_of (P := fun h => Keeps1 Z f h) (by rw [(noStar_any ns).1]; rfl) (fun _ h => h) (evalArgs_ok ns (evs_ok S O a FI C ns h fun c' Vs vs hs' s' l C' R _ kk => ⟨hk c' Vs hs' s' l C' kk, k c' Vs vs hs' s' l C' R kk⟩))
theorem callV_ok (B : BaseOK Z Fg) (SCC : SC Z d call) (a : AOK d A) (P : Post Z Kp c K Q) (C : Core Z Kp c hs s) {m : Bool} {f : V} {vf : Value} {Vs : List V} {vs : List Value} (Rf : RepV Z c f vf) (R : RepVs Z c Vs vs) (h : callV call m f Vs hs K) :
    wpAny (model Z.P Z.w) A (PySem.call vf vs) Q E s := by
  obtain ⟨x, e, h⟩ := optP_iff h
  rw [V.d_eq e] at Rf
  cases x with
  | fn b x =>
    obtain ⟨ad, rfl, hf⟩ := Rf
    exact wpAny_call (SCC _ _ _ _ _ _ _ _ _ _ _ _ _ _ a C R hf h P)
  | meth x =>
    obtain ⟨ad, f, q, dd, rfl, hf, hm, g⟩ := Rf
    exact wpAny_call (method_call (C.sub _ _ g) (SCC m true _ (.d .mpu :: Vs) _ _ _ _ _ _ _ _ _ _ a C ⟨_, _, rfl, ⟨q, dd, rfl, hm⟩, R⟩ hf h P))
  | bi id =>
    cases (Rf : vf = biV id)
    exact biCall_ok P C R a.handled h
  | _ => exact False.elim h
theorem keeps_V (B : BaseOK Z Fg) {m : Bool} {f : V} {vf : Value} {Vs : List V} {c' : Cn} (Rf : RepV Z c f vf) (h : callV call m f Vs hs K) (l : c.le c') (C : Core Z Kp c' hs s) : Keeps1 Z vf s.heap := by
  obtain ⟨x, e, h⟩ := optP_iff h
  rw [V.d_eq e] at Rf
  cases x with
  | fn b x =>
    obtain ⟨ad, rfl, hf⟩ := Rf
    exact keeps_fn B C hf
  | meth x => exact keeps_meth B C (RepD.mono l _ _ Rf)
  | bi id =>
    cases (Rf : vf = biV id)
    exact keeps_bi _ _
  | _ => exact False.elim h
theorem okArgsE_iff {es : List Expr} (h : okArgsE es = true) : noStar es = true ∧ es.length ≤ 12 := ⟨(and_t h).1, Nat.le_of_ble_eq_true (and_t h).2⟩
theorem methodCall_ok (B : BaseOK Z Fg) (S : SE Z d rec) (SCC : SC Z d call) (O : EnvOK env sc) (a : AOK d A) (FI : FrameIn Z Kp c env loc) (P : Post Z Kp c K Q) (C : Core Z Kp c hs s) {m : Bool} {o : Expr} {x : Str} {ap p : Pos} {es : List Expr} {ov : V} {vo : Value} {t : Tg}
    (ha : okArgsE es = true) (hl : Nat.beq ap.endLine p.line = true) (Ro : RepV Z c ov vo) (ht : tgOf Z.X ov x hs = some t) (h : evs (fun e => rec sc false e loc) es hs fun vs hs => callTg call m t vs hs K) :
    wpAny (model Z.P Z.w) A (methodCall o x ap p env vo (es.length + ([] : List Keyword).length) (backTo p (starEach es env)) (backToKw p (keywordEach [] env))) Q E s := by
  obtain ⟨ns, len⟩ := okArgsE_iff ha
  have hform : methodCallForm (es.length + ([] : List Keyword).length) (backTo p (starEach es env)) (backToKw p (keywordEach [] env)) = true := by
    unfold methodCallForm
    rw [(noStar_any ns).2]
    show (true && true && decide (es.length < 30)) = true
    rw [decide_eq_true (show es.length < 30 from Nat.lt_of_le_of_lt len (by decide))]; rfl
  have hpos : methodCallPos true o env ap p = pure p := by unfold methodCallPos; rw [show (ap.endLine == p.line) = true from beq_iff_eq.mpr (Nat.eq_of_beq_eq_true hl)]; rfl
  unfold methodCall
  rw [hform]
  unfold calleeOf
  rw [if_pos rfl]
  refine wpAny_bind (wpAny_holding ?_)
  have rest : ∀ (f : Value) (first : List Value), (∀ c' Vs hs' s', c.le c' → Core Z Kp c' hs' s' → callTg call m t Vs hs' K → Keeps1 Z f s'.heap) →
      (∀ c' Vs vs hs' s', c.le c' → Core Z Kp c' hs' s' → RepVs Z c' Vs vs → callTg call m t Vs hs' K → wpAny (model Z.P Z.w) A (PySem.call f (first ++ vs)) Q E s') →
      wpAny (model Z.P Z.w) A (methodCallPos true o env ap p >>= fun callPos => callWith callPos f first (backTo p (starEach es env)) (backToKw p (keywordEach [] env))) Q E s := by
    intro f first hk k
    exact wpAny_bind (wpAny_of_eq hpos (callWith_ok S O a FI C ns h hk k))
  rcases orB_iff ht with ⟨n, en, ht⟩ | ht
  · rw [V.loc_eq en] at Ro
    obtain ⟨ad, e1, rfl⟩ := id Ro
    obtain ⟨_, ws, ep, e2, as⟩ := C.locAt e1
    rcases tgL_cases ht with ⟨rfl, rfl⟩ | ⟨rfl, rfl⟩
    · refine listMeth_ok (vs := ws) e2 F.plainAttrs_list F.slot_list_append F.type_list_append (rest _ _ (fun c' Vs hs' s' l C' _ => ⟨.machine, .inr (.inl rfl), .now⟩) fun c' Vs vs hs' s' l C' R hc => ?_)
      obtain ⟨v, e, hc⟩ := optP_iff hc
      obtain ⟨y, e', hc⟩ := optP_iff hc
      rw [one_eq e, V.d_eq e'] at R
      obtain ⟨v, r, rfl, R1, rfl⟩ := R
      exact append_ok (fun c'' hs'' s'' l' C'' k => (P.up (l.trans l')).none C'' k) C' (Ro.mono l) R1 hc
    · refine listMeth_ok (vs := ws) e2 F.plainAttrs_list F.slot_list_extend F.type_list_extend (rest _ _ (fun c' Vs hs' s' l C' _ => ⟨.machine, .inr (.inl rfl), .now⟩) fun c' Vs vs hs' s' l C' R hc => ?_)
      obtain ⟨v, e, hc⟩ := optP_iff hc
      rw [one_eq e] at R
      obtain ⟨v, r, rfl, R1, rfl⟩ := R
      exact extend_ok (fun c'' hs'' s'' l' C'' k => (P.up (l.trans l')).none C'' k) C' (Ro.mono l) R1 hc
  · obtain ⟨eo, ht⟩ := noB_iff ht
    obtain ⟨f, hf, ht⟩ := optB_iff ht
    obtain ⟨y, hy, ht⟩ := optB_iff ht
    cases some_eq ht
    rw [V.isMpu_eq (not_t' eo)] at Ro
    exact isMeth_ok B.cls C Ro hf hy fun ad had => rest _ _ (fun c' Vs hs' s' l C' _ => keeps_fn B C' had) fun c' Vs vs hs' s' l C' R hc =>
      wpAny_call (SCC m true y (.d .mpu :: Vs) _ _ _ _ _ _ _ _ _ _ a C' ⟨vo, vs, rfl, Ro.mono l, R⟩ had hc (P.up l))
end
end Mine
set_option genSizeOf false
set_option genInjectivity false
set_option maxRecDepth 100000
namespace Mine
open PySem PySem.W PySem.Calls PyProof.Rows

section
variable {Z : Stat} {Kp : Addr → Option Obj} {c : Cn} {hs : Hs} {s : Shared} {K : KE} {Q : Value → Shared → Prop} {A : Around} {E : Value → Shared → Prop} {tk : Nat} {Fg : Frag} {env : Env} {sc : Names} {loc : Loc} {d : Nat} {rec : RecE} {call : CallR}

/-- what is asked of comprehensions -/
noncomputable def SComp (Z : Stat) (d : Nat) (rec : RecE) : Prop :=
  ∀ (env : Env) (sc : Names) (m : Bool) (elt t it : Expr) (ifs : List Expr) (scope : Scope) (pos : Pos) (loc : Loc) (hs : Hs) (K : KE) (Kp : Addr → Option Obj) (c : Cn) (s : Shared) (A : Around) (Q : Value → Shared → Prop) (E : Value → Shared → Prop),
    EnvOK env sc → AOK d A → FrameIn Z Kp c env loc → Core Z Kp c hs s → okComp sc scope = true → notSet it = true →
    (iterE (fun e => rec sc false e loc) (enumOf Z.X sc) t it hs fun xs g hs => xs.length ≤ lim ∧
      compL (fun loc e => rec (compSc sc scope.names) false e loc) (compSc sc scope.names) t elt ifs g (fun ds hs => alloc m (mkList ds) hs K) xs (dropNames scope.names loc) hs []) →
    Post Z Kp c K Q → wpAny (model Z.P Z.w) A (eval (.ListComp elt [⟨t, it, ifs, 0⟩] scope pos) env) Q E s

theorem notSet_marks {op : CmpOp} {r : Expr} (h : notSet r = true) : behindInMarks op r = false := by cases r <;> first | rfl | cases h
theorem evalAll_ok (S : SE Z d rec) (O : EnvOK env sc) (a : AOK d A) {p : Pos} : ∀ {kws : List Keyword} {hs : Hs} {c : Cn} {s : Shared} {K : List V → Hs → Prop} {Q : List Value → Shared → Prop}, FrameIn Z Kp c env loc → Core Z Kp c hs s →
    evs (fun e => rec sc false e loc) (kws.map (·.value)) hs K →
    (∀ c' Vs vs hs' s', c.le c' → Core Z Kp c' hs' s' → RepVs Z c' Vs vs → K Vs hs' → Q vs s') → wpAny (model Z.P Z.w) A (evalAll ((backToKw p (keywordEach kws env)).map (·.2))) Q E s
  | [], hs, c, s, K, Q, FI, C, h, k => wpAny_evalAll_nil (k c [] [] hs s (.refl c) C rfl h)
  | ⟨nm, e, kp⟩ :: kws, hs, c, s, K, Q, FI, C, h, k => by
    refine wpAny_evalAll_cons (wpAny_bind (S.ev O a FI C h fun c₁ V v hs₁ s₁ l C₁ F₁ R h₁ => wpAny_bind (wpAny_standAt (wpAny_pure ?_))))
    refine evalAll_ok S O a F₁ C₁ h₁ fun c₂ Vs vs hs₂ s₂ l₂ C₂ Rs h₂ => ?_
    refine k c₂ (V :: Vs) (v :: vs) hs₂ s₂ (l.trans l₂) C₂ ?_ h₂
    exact ⟨v, vs, rfl, R.mono l₂, Rs⟩
theorem kw_names {p : Pos} : ∀ {kws : List Keyword} {ns : List Str}, kwNs kws = some ns → (backToKw p (keywordEach kws env)).filterMap (·.1) = ns ∧ (backToKw p (keywordEach kws env)).all (·.1.isSome) = true ∧ (backToKw p (keywordEach kws env)).any (·.1.isNone) = false
  | [], ns, h => by cases some_eq h; exact ⟨rfl, rfl, rfl⟩
  | ⟨nm, e, kp⟩ :: r, ns, h => by
    obtain ⟨x, ex, h1⟩ := optB_iff h
    obtain ⟨l, el, h2⟩ := optB_iff h1
    cases (ex : nm = some x)
    cases some_eq h2
    obtain ⟨i1, i2, i3⟩ := kw_names (p := p) el
    exact ⟨congrArg (x :: ·) i1, i2, i3⟩

theorem genP_iff {gens : List Comprehension} {q : Expr × Expr × List Expr} (h : genP gens = some q) : gens = [⟨q.1, q.2.1, q.2.2, 0⟩] := by
  obtain ⟨g, e, h⟩ := optB_iff h
  obtain ⟨e2, h⟩ := noB_iff h
  rw [one_eq e]
  cases g with
  | mk t it ifs n =>
    have e3 : n = 0 := of_decide_eq_true (not_t' e2)
    rw [← some_eq h, e3]
theorem cmpE_ok (S : SE Z d rec) (O : EnvOK env sc) (a : AOK d A) (FI : FrameIn Z Kp c env loc) (C : Core Z Kp c hs s) {l : Expr} {ops : List CmpOp} {rs : List Expr} {p : Pos} {K : KE} {Q : Value → Shared → Prop} (h : cmpE (fun e => rec sc false e loc) l ops rs hs K)
    (P : Post Z Kp c K Q) : wpAny (model Z.P Z.w) A (eval (.Compare l ops rs p) env) Q E s := by
  rcases ops with _ | ⟨op, _ | ⟨op2, ops⟩⟩
  · exact False.elim h
  · rcases rs with _ | ⟨r, _ | ⟨r2, rs⟩⟩
    · exact False.elim h
    · obtain ⟨hn, h⟩ := need_iff h
      refine wpAny_Compare1 (S.ev O a FI C h fun c₁ V₁ v₁ hs₁ s₁ l₁ C₁ F₁ R₁ h₁ => S.ev O a F₁ C₁ h₁ fun c₂ V₂ v₂ hs₂ s₂ l₂ C₂ F₂ R₂ h₂ => ?_) (notSet_marks hn)
      exact cmpV_ok (fun b k => (P.up (l₁.trans l₂)).bool C₂ k) C₂ a.hu (R₁.mono l₂) R₂ h₂
    · exact False.elim h
  · exact False.elim h
theorem callA_ok (B : BaseOK Z Fg) (S : SE Z d rec) (SCC : SC Z d call) (O : EnvOK env sc) (a : AOK d A) (FI : FrameIn Z Kp c env loc) (C : Core Z Kp c hs s) {m : Bool} {o : Expr} {x : Str} {ap : Pos} {args : List Expr} {kws : List Keyword} {p : Pos} {K : KE} {Q : Value → Shared → Prop}
    (h : callA Z.X call (fun e => rec sc false e loc) m o x ap args kws p hs K) (P : Post Z Kp c K Q) : wpAny (model Z.P Z.w) A (eval (.Call (.Attribute o x ap) args kws p) env) Q E s := by
  cases kws with
  | cons _ _ => exact False.elim h
  | nil =>
    obtain ⟨hn, h⟩ := need_iff h
    obtain ⟨hn, h3⟩ := and_t hn
    obtain ⟨h1, h2⟩ := and_t hn
    rw [arm_eval_Call, okBase_base h2]
    refine wpAny_bind (S.ev O a FI C h fun c₁ V₁ v₁ hs₁ s₁ l₁ C₁ F₁ R₁ h₁ => wpAny_bind (wpAny_standAt ?_))
    obtain ⟨t, ht, h₁⟩ := optP_iff h₁
    exact methodCall_ok B S SCC O a F₁ (P.up l₁) C₁ h1 h3 R₁ ht h₁
theorem newKeep (B : BaseOK Z Fg) {V₁ : V} {v₁ : Value} {ns : List Str} {c₁ : Cn} {K : KE} (R₁ : RepV Z c₁ V₁ v₁) : ∀ c' Vs hs' s', Core Z Kp c' hs' s' → newV Z.X call V₁ (some ns) Vs hs' K → Keeps1 Z v₁ s'.heap := by
  intro c' Vs hs' s' C' k
  obtain ⟨e, _⟩ := need_iff k
  rw [V.isCls_eq (and_t e).1] at R₁
  cases (R₁ : v₁ = .ref Z.ca)
  obtain ⟨k, a, b⟩ := keeps_K (M := model Z.P Z.w) B.cls.keep s'.heap (B.cls.here C')
  exact ⟨k, a.elim .inl fun a => a.elim (fun q => .inr (.inl q)) fun q => .inr (.inr q), b⟩
theorem callF_ok (B : BaseOK Z Fg) (S : SE Z d rec) (SCC : SC Z d call) (SNN : SN Z d call) (O : EnvOK env sc) (a : AOK d A) (FI : FrameIn Z Kp c env loc) (C : Core Z Kp c hs s) {m : Bool} {f : Expr} {args : List Expr} {kws : List Keyword} {p : Pos} {K : KE} {Q : Value → Shared → Prop}
    (he : eval (.Call f args kws p) env = (do callWith p (← eval f env) [] (backTo p (starEach args env)) (backToKw p (keywordEach kws env))))
    (h : callF Z.X call (fun e => rec sc false e loc) m f args kws hs K) (P : Post Z Kp c K Q) : wpAny (model Z.P Z.w) A (eval (.Call f args kws p) env) Q E s := by
  rw [he]
  cases kws with
  | nil =>
    obtain ⟨hn, h⟩ := need_iff h
    obtain ⟨ns, len⟩ := okArgsE_iff hn
    refine wpAny_bind (S.ev O a FI C h fun c₁ V₁ v₁ hs₁ s₁ l₁ C₁ F₁ R₁ h₁ => ?_)
    exact callWith_ok S O a F₁ C₁ ns h₁ (fun c' Vs hs' s' l C' k => keeps_V B R₁ k l C') fun c₂ Vs vs hs₂ s₂ l₂ C₂ R₂ h₂ => callV_ok B SCC a (P.up (l₁.trans l₂)) C₂ (R₁.mono l₂) R₂ h₂
  | cons k ks => cases args with
    | cons _ _ => exact False.elim h
    | nil =>
      obtain ⟨ns, hn, h⟩ := optP_iff h
      refine wpAny_bind (S.ev O a FI C h fun c₁ V₁ v₁ hs₁ s₁ l₁ C₁ F₁ R₁ h₁ => ?_)
      obtain ⟨n1, n2, n3⟩ := kw_names (env := env) (p := p) hn
      have hcls := newKeep (call := call) (ns := ns) (Kp := Kp) (K := K) B R₁
      refine callWith_of (P := fun h => Keeps1 Z v₁ h) (by rw [n3]; rfl) (fun _ h => h) ?_
      refine evalArgs_kw_nil n2 (evalAll_ok S O a F₁ C₁ h₁ fun c₂ Vs vs hs₂ s₂ l₂ C₂ R₂ h₂ => ⟨hcls _ _ _ _ C₂ h₂, ?_⟩)
      rw [n1]
      exact SNN V₁ ns Vs hs₂ K Kp c₂ s₂ A Q E vs v₁ a C₂ (R₁.mono l₂) R₂ h₂ (P.up (l₁.trans l₂))
theorem callE_plain {f : Expr} {args : List Expr} {kws : List Keyword} {p : Pos} : (∃ o x ap, f = .Attribute o x ap) ∨ (attrP f = none ∧ eval (.Call f args kws p) env = (do callWith p (← eval f env) [] (backTo p (starEach args env)) (backToKw p (keywordEach kws env)))) := by
  cases f <;> first | exact .inr ⟨rfl, rfl⟩ | exact .inl ⟨_, _, _, rfl⟩
theorem subE_ok (B : BaseOK Z Fg) (S : SE Z d rec) (O : EnvOK env sc) (a : AOK d A) (FI : FrameIn Z Kp c env loc) (C : Core Z Kp c hs s) {m : Bool} {o i : Expr} {p : Pos} {K : KE} {Q : Value → Shared → Prop}
    (h : subE (fun e => rec sc false e loc) m o i hs K) (P : Post Z Kp c K Q) : wpAny (model Z.P Z.w) A (eval (.Subscript o i p) env) Q E s := by
  rw [arm_eval_Subscript]
  have hi : (∃ lo hi st q, i = .Slice lo hi st q) ∨ sliceP i = none := by cases i <;> first | exact .inr rfl | exact .inl ⟨_, _, _, _, rfl⟩
  rcases hi with ⟨lo, hi, st, q, rfl⟩ | hi
  · obtain ⟨hst, h⟩ := need_iff h
    cases st with
    | some _ => exact absurd hst Bool.false_ne_true
    | none =>
      refine wpAny_bind (S.ev O a FI C h fun c₁ V₁ v₁ hs₁ s₁ l₁ C₁ F₁ R₁ h₁ => wpAny_bind (wpAny_holding ?_))
      rw [arm_eval_Slice]
      refine wpAny_bind (part_ok S O a F₁ C₁ h₁ fun c₂ V₂ v₂ hs₂ s₂ l₂ C₂ F₂ R₂ h₂ => wpAny_bind (wpAny_holding (part_ok S O a F₂ C₂ h₂ fun c₃ V₃ v₃ hs₃ s₃ l₃ C₃ F₃ R₃ h₃ => ?_)))
      refine wpAny_bind (wpAny_holding (wpAny_pure ?_))
      refine wpAny_newObj_type ?_ (by size_fits)
      have hsl := Heap.IsSliceOf.new s₃.heap v₂ v₃ .none
      have C₄ := C₃.keepTo (tk := s₃.toks) (h' := s₃.heap.push { cls := .type "slice", data := .fields #[v₂, v₃, .none] }) fun b o e => Heap.get?_push_of_some _ e
      obtain ⟨g1, g2⟩ := sliceV_ok (A := A) (E := E) (Q := Q) (P.up ((l₁.trans l₂).trans l₃)) C₄ ((R₁.mono l₂).mono l₃) (R₂.mono l₃) R₃ hsl h₃
      exact tail_ok g2 g1
  · unfold subE at h
    rw [hi] at h
    refine wpAny_bind (S.ev O a FI C h fun c₁ V₁ v₁ hs₁ s₁ l₁ C₁ F₁ R₁ h₁ => wpAny_bind (wpAny_holding (S.ev O a F₁ C₁ h₁ fun c₂ V₂ v₂ hs₂ s₂ l₂ C₂ F₂ R₂ h₂ => ?_)))
    obtain ⟨⟨g1, g2⟩, _⟩ := itemV_ok (A := A) (E := E) (P.up (l₁.trans l₂)) C₂ (R₁.mono l₂) R₂ h₂
    exact tail_ok g2 g1
theorem len_line {Vs : List V} {vs : List Value} {es : List Expr} (R : RepVs Z c Vs vs) (len : Vs.length = es.length) (h : Nat.ble es.length 2000 = true) : vs.length ≤ sizeLine := by
  rw [← R.length, len, sizeLine_eq]
  exact Nat.le_trans (Nat.le_of_ble_eq_true h) (by decide)
theorem stepE_ok (B : BaseOK Z Fg) (S : SE Z d rec) (SCC : SC Z d call) (SNN : SN Z d call) (SCO : SComp Z d rec) (ST' : ST Z d rec) : SE Z d (stepE Z.X call rec) := by
  intro env sc m e loc hs K Kp c s A Q E O a FI C h P
  cases e with
  | Constant k kk p =>
    obtain ⟨dd, hd, h⟩ := optP_iff h
    rw [arm_eval_Constant]
    exact const_ok P C hd h
  | Name x p => exact name_ok B O FI P C h
  | BinOp l op r p =>
    rw [arm_eval_BinOp]
    refine wpAny_bind (S.ev O a FI C h fun c₁ V₁ v₁ hs₁ s₁ l₁ C₁ F₁ R₁ h₁ => wpAny_bind (wpAny_holding (S.ev O a F₁ C₁ h₁ fun c₂ V₂ v₂ hs₂ s₂ l₂ C₂ F₂ R₂ h₂ => wpAny_bind (wpAny_standAt (PyProof.Rows.wpAny_operate' ?_)))))
    exact binOpV_ok (P.up (l₁.trans l₂)) C₂ (R₁.mono l₂) R₂ h₂
  | UnaryOp op x p =>
    rw [arm_eval_UnaryOp]
    refine wpAny_bind (S.ev O a FI C h fun c₁ V₁ v₁ hs₁ s₁ l₁ C₁ F₁ R₁ h₁ => wpAny_bind (wpAny_standAt (wpAny_holding ?_)))
    exact unOpV_ok (P.up l₁) C₁ R₁ h₁
  | BoolOp op es p =>
    rw [arm_eval_BoolOp]
    exact boolE_ok S O a FI C h P
  | IfExp t x y p =>
    rw [arm_eval_IfExp]
    refine wpAny_bind (ST' env sc _ loc hs _ _ Kp c s A _ _ O a FI C h (fun v hs h => h) fun c₁ b hs₁ s₁ l₁ C₁ hb => ?_)
    cases b with
    | true => exact S _ _ _ _ _ _ _ _ _ _ _ _ _ O a (FI.mono l₁) C₁ hb (P.up l₁)
    | false => exact S _ _ _ _ _ _ _ _ _ _ _ _ _ O a (FI.mono l₁) C₁ hb (P.up l₁)
  | List es p =>
    obtain ⟨hn, h⟩ := need_iff h
    obtain ⟨hn, hn2⟩ := and_t hn
    refine wpAny_List (evs_ok S O a FI C hn h fun c₁ Vs vs hs₁ s₁ l₁ C₁ R len h₁ => ?_)
    obtain ⟨ds, hds, h₁⟩ := optP_iff h₁
    exact ⟨len_line R len hn2, alloc_ok (n := 0) (tk := s₁.toks) (P.up l₁) C₁ h₁ (mkList_as (asDs_ok R hds))⟩
  | Tuple es x p =>
    obtain ⟨hn, h⟩ := need_iff h
    obtain ⟨hn, hn2⟩ := and_t hn
    refine wpAny_Tuple (evs_ok S O a FI C hn h fun c₁ Vs vs hs₁ s₁ l₁ C₁ R len h₁ => ?_)
    obtain ⟨ds, hds, h₁⟩ := optP_iff h₁
    refine ⟨len_line R len hn2, ?_⟩
    obtain ⟨C', l⟩ := C₁.newG (tk := s₁.toks) (h' := s₁.heap.push { cls := .type "tuple", data := .seq vs.toArray }) (o := tupO vs 0) (fun b o e => Heap.get?_push_of_some _ e) (fresh_size _) (Heap.get?_push_size _ rfl)
    refine P _ (.d (.tup ds)) _ _ _ (l₁.trans l) C' ?_ h₁
    exact ⟨_, vs, 0, rfl, Cn.addG_get _ _ _, RepDs.mono l _ _ (asDs_ok R hds)⟩
  | Compare l ops rs p => exact cmpE_ok S O a FI C h P
  | Call f args kws p =>
    rcases callE_plain (env := env) (f := f) (args := args) (kws := kws) (p := p) with ⟨o, x, ap, rfl⟩ | ⟨h1, h2⟩
    · exact callA_ok B S SCC O a FI C h P
    · have h : callE Z.X call (fun e => rec sc false e loc) m f args kws p hs K := h
      unfold callE at h
      rw [h1] at h
      exact callF_ok B S SCC SNN O a FI C h2 h P
  | Attribute o x p =>
    obtain ⟨hn, h⟩ := need_iff h
    rw [arm_eval_Attribute, okBase_base hn]
    refine wpAny_bind (S.ev O a FI C h fun c₁ V₁ v₁ hs₁ s₁ l₁ C₁ F₁ R₁ h₁ => wpAny_bind (wpAny_standAt (wpAny_bind (wpAny_holding ?_))))
    refine getAttrV_ok (K := K) (Q := fun r s' => wpAny (model Z.P Z.w) A (letTemporaryGo _ v₁ r >>= fun _ => pure r) Q E s') B.cls (fun c₂ V₂ v₂ hs₂ s₂ l₂ C₂ R₂ k => wpAny_bind (wpAny_letTemporaryGo (wpAny_pure ?_))) C₁ R₁ h₁
    exact P c₂ V₂ v₂ hs₂ s₂ (l₁.trans l₂) C₂ R₂ k
  | Subscript o i p => exact subE_ok B S O a FI C h P
  | ListComp elt gens scope p =>
    obtain ⟨q, hq, h⟩ := optP_iff h
    obtain ⟨hn, h⟩ := need_iff h
    obtain ⟨hn, hn2⟩ := and_t hn
    rw [genP_iff hq]
    exact SCO _ _ _ _ _ _ _ _ _ _ _ _ _ _ _ _ _ _ O a FI C hn hn2 h P
  | _ => exact False.elim h
end
end Mine
set_option genSizeOf false
set_option genInjectivity false
set_option maxRecDepth 100000
namespace Mine
open PySem PySem.W PySem.Calls PyProof.Rows

section
variable {Z : Stat} {Kp : Addr → Option Obj} {c : Cn} {hs : Hs} {s : Shared} {K : KE} {Q : Value → Shared → Prop} {A : Around} {E : Value → Shared → Prop} {tk : Nat} {Fg : Frag} {env : Env} {sc : Names} {loc : Loc} {d : Nat} {rec : RecE} {call : CallR}

theorem truthV_mono {v : V} {k k' : Bool → Prop} (h : truthV v hs k) (i : ∀ b, k b → k' b) : truthV v hs k' := by
  obtain ⟨b, e, h⟩ := optP_iff h
  exact optP_of e (i b h)
theorem allTrue_ok (S : SE Z d rec) (T : ST Z d rec) (O : EnvOK env sc) (a : AOK d A) {op : BoolOp} {Qb : Bool → Shared → Prop} {KB : Bool → Hs → Prop} : ∀ {es : List Expr} {hs : Hs} {c : Cn} {s : Shared} {K : KE}, FrameIn Z Kp c env loc → Core Z Kp c hs s →
    boolE (fun e => rec sc false e loc) op es hs K → (∀ v hs, K v hs → truthV v hs fun b => KB b hs) → PostB Z Kp c KB Qb → wpAny (model Z.P Z.w) A (allTrue op es env) Qb E s
  | [], hs, c, s, K, FI, C, h, i, P => False.elim h
  | [e], hs, c, s, K, FI, C, h, i, P => by
    rw [arm_allTrue_cons]
    refine wpAny_bind (T env sc e loc hs K KB Kp c s A _ E O a FI C h i fun c₁ b hs₁ s₁ l₁ C₁ hb => ?_)
    have q := P c₁ b hs₁ s₁ l₁ C₁ hb
    cases op <;> cases b <;> first | exact wpAny_pure q | (exact wpAny_pure (a := true) q)
  | e :: e' :: es, hs, c, s, K, FI, C, h, i, P => by
    rw [arm_allTrue_cons]
    refine wpAny_bind (T env sc e loc hs _ (fun b hs => match op with
      | .And => br b (boolE (fun e => rec sc false e loc) op (e' :: es) hs K) (KB false hs)
      | .Or => br b (KB true hs) (boolE (fun e => rec sc false e loc) op (e' :: es) hs K)) Kp c s A _ E O a FI C h (fun v hs hv => ?_) fun c₁ b hs₁ s₁ l₁ C₁ hb => ?_)
    · -- the value that stands at the end is the one whose truth was asked
      obtain ⟨b, e, hv⟩ := optP_iff hv
      have i' : K v hs → KB b hs := fun hk => by
        obtain ⟨b', e', h'⟩ := optP_iff (i v hs hk)
        cases some_eq (e.symm.trans e')
        exact h'
      refine optP_of e ?_
      cases op <;> cases b
      · exact i' hv
      · exact hv
      · exact hv
      · exact i' hv
    · have up : ∀ {b : Bool}, PostB Z Kp c₁ KB Qb := fun {_} c₂ b hs₂ s₂ l₂ C₂ k => P c₂ b hs₂ s₂ (l₁.trans l₂) C₂ k
      cases op <;> cases b
      · exact wpAny_pure (P c₁ false hs₁ s₁ l₁ C₁ hb)
      · exact allTrue_ok S T O a (FI.mono l₁) C₁ hb i (up (b := true))
      · exact allTrue_ok S T O a (FI.mono l₁) C₁ hb i (up (b := true))
      · exact wpAny_pure (P c₁ true hs₁ s₁ l₁ C₁ hb)
theorem stepT_ok (S : SE Z d rec) (T : ST Z d rec) (S' : SE Z d (stepE Z.X call rec)) : ST Z d (stepE Z.X call rec) := by
  intro env sc e loc hs K KB Kp c s A Qb E O a FI C h i P
  have plain : isTrue e env (eval e env) = (do
      let v ← eval e env
      standAt e.pos
      holding [v] (truthy v)) → wpAny (model Z.P Z.w) A (isTrue e env (eval e env)) Qb E s := fun hsp => by
    rw [hsp]
    refine wpAny_bind (S'.ev O a FI C h fun c₁ V₁ v₁ hs₁ s₁ l₁ C₁ F₁ R₁ h₁ => wpAny_bind (wpAny_standAt (wpAny_holding ?_)))
    exact truthV_ok (fun b tk k => P c₁ b hs₁ _ l₁ C₁.toks k) C₁ R₁ (i _ _ h₁)
  cases e with
  | UnaryOp op x p =>
    cases op with
    | Not =>
      rw [arm_isTrue_UnaryOp]
      refine wpAny_bind (T env sc x loc hs _ (fun b hs => KB (!b) hs) Kp c s A _ E O a FI C h (fun v hs hv => ?_) fun c₁ b hs₁ s₁ l₁ C₁ hb => wpAny_pure (P c₁ _ hs₁ s₁ l₁ C₁ hb))
      exact truthV_mono hv fun b hb => i (.d (.bool (!b))) hs hb
    | _ => exact plain rfl
  | BoolOp op es p =>
    rw [arm_isTrue_BoolOp]
    exact allTrue_ok S T O a FI C h i P
  | IfExp t x y p =>
    rw [arm_isTrue_IfExp]
    refine wpAny_bind (T env sc t loc hs _ _ Kp c s A _ E O a FI C h (fun v hs h => h) fun c₁ b hs₁ s₁ l₁ C₁ hb => ?_)
    have up : PostB Z Kp c₁ KB Qb := fun c₂ b hs₂ s₂ l₂ C₂ k => P c₂ b hs₂ s₂ (l₁.trans l₂) C₂ k
    rcases br_iff hb with ⟨rfl, hb⟩ | ⟨rfl, hb⟩
    · exact T _ _ _ _ _ _ _ _ _ _ _ _ _ O a (FI.mono l₁) C₁ hb i up
    · exact T _ _ _ _ _ _ _ _ _ _ _ _ _ O a (FI.mono l₁) C₁ hb i up
  | Compare l ops rs p =>
    rcases ops with _ | ⟨op, _ | ⟨op2, ops⟩⟩ <;> rcases rs with _ | ⟨r, _ | ⟨r2, rs⟩⟩ <;> first | exact False.elim h | skip
    have h : need (notSet r) (rec sc false l loc hs fun a hs => rec sc false r loc hs fun b hs => cmpV op a b hs fun c => K (.d (.bool c)) hs) := h
    obtain ⟨hn, h⟩ := need_iff h
    refine wpAny_isTrue_Compare1 (S.ev O a FI C h fun c₁ V₁ v₁ hs₁ s₁ l₁ C₁ F₁ R₁ h₁ => S.ev O a F₁ C₁ h₁ fun c₂ V₂ v₂ hs₂ s₂ l₂ C₂ F₂ R₂ h₂ => ?_) (notSet_marks hn)
    refine cmpV_ok (fun b k => wpAny_truthy_bool ?_) C₂ a.hu (R₁.mono l₂) R₂ h₂
    exact P c₂ b hs₂ s₂ (l₁.trans l₂) C₂ (i (.d (.bool b)) hs₂ k)
  | _ => exact plain rfl
end
end Mine
set_option genSizeOf false
set_option genInjectivity false
set_option maxRecDepth 100000
namespace Mine
open PySem PySem.W PySem.Calls PyProof.Rows

/-! ### what is kept, changed at some addresses -/
noncomputable def over (ia : List Addr) (Kp K₀ : Addr → Option Obj) : Addr → Option Obj := fun b => if b ∈ ia then Kp b else K₀ b
noncomputable def minus (ia : List Addr) (Kp : Addr → Option Obj) : Addr → Option Obj := fun b => if b ∈ ia then none else Kp b
structure Ups (ia : List Addr) (Kp Kq : Addr → Option Obj) : Prop where
  same : ∀ b, b ∉ ia → Kq b = Kp b
  here : ∀ b, b ∈ ia → (Kq b).isSome = true
theorem Ups.trans {ia : List Addr} {K₁ K₂ K₃ : Addr → Option Obj} (a : Ups ia K₁ K₂) (b : Ups ia K₂ K₃) : Ups ia K₁ K₃ := ⟨fun x hx => (b.same x hx).trans (a.same x hx), b.here⟩

section
variable {Z : Stat} {Kp Kq : Addr → Option Obj} {c : Cn} {hs : Hs} {s : Shared} {h' : Heap} {tk : Nat} {ia : List Addr}
theorem free_ng (C : Core Z Kp c hs s) (hia : ∀ b ∈ ia, (Kp b).isSome = true) {b : Addr} (hb : b ∈ ia) : c.G b = none :=
  let ⟨o, ho⟩ := Option.isSome_iff_exists.mp (hia b hb)
  C.dis b o ho
theorem no_some {α : Type} {o : Option α} {P : Prop} (h : o = none) (e : o.isSome = true) : P := by rw [h] at e; exact ff e
/-- kept objects changed; where they are new or were kept before -/
theorem Core.upK (C : Core Z Kp c hs s) (U : Ups ia Kp Kq) (hia : ∀ b ∈ ia, (Kp b).isSome = true ∨ s.heap.get? b = none) (k : ∀ b o, b ∉ ia → s.heap.get? b = some o → h'.get? b = some o) (e : ∀ b ∈ ia, h'.get? b = Kq b) :
    Core Z Kq c hs { s with heap := h', toks := tk } := by
  have ng : ∀ b ∈ ia, c.G b = none := fun b hb => (hia b hb).elim (fun h => let ⟨o, ho⟩ := Option.isSome_iff_exists.mp h; C.dis b o ho) fun h => none_of_fresh C.sub h
  have nl : ∀ p ∈ ledOf Z c hs, p.1 ∉ ia := fun p hp q => (hia p.1 q).elim (fun h => no_some (C.free p hp).2 h) fun h => let ⟨_, e1, _⟩ := C.led p hp; no2 h e1
  refine ⟨C.base, fun b o e' => k b o (fun q => no2 (ng b q) e') (C.sub b o e'), fun b o e' => ?_, fun b o e' => ?_, C.len, fun p hp => ?_, C.apart, fun p hp => ⟨(C.free p hp).1, (U.same _ (nl p hp)).trans (C.free p hp).2⟩, C.inst, C.gens, C.os⟩
  · by_cases hb : b ∈ ia
    · exact (e b hb).trans e'
    · exact k b o hb (C.kp b o ((U.same b hb).symm.trans e'))
  · by_cases hb : b ∈ ia
    · exact ng b hb
    · exact C.dis b o ((U.same b hb).symm.trans e')
  · obtain ⟨o, e1, f⟩ := C.led p hp
    exact ⟨o, k _ _ (nl p hp) e1, f⟩
theorem minus_some {b : Addr} {o : Obj} (e : minus ia Kp b = some o) : b ∉ ia ∧ Kp b = some o := by
  unfold minus at e
  by_cases q : b ∈ ia
  · rw [if_pos q] at e; exact none_some e
  · rw [if_neg q] at e; exact ⟨q, e⟩
theorem Core.dropK (C : Core Z Kp c hs s) (hia : ∀ b ∈ ia, (Kp b).isSome = true) (k : ∀ b o, b ∉ ia → s.heap.get? b = some o → h'.get? b = some o) :
    Core Z (minus ia Kp) c hs { s with heap := h', toks := tk } := by
  have nl : ∀ p ∈ ledOf Z c hs, p.1 ∉ ia := fun p hp q => no_some (C.free p hp).2 (hia p.1 q)
  exact ⟨C.base, fun b o e' => k b o (fun q => no2 (free_ng C hia q) e') (C.sub b o e'), fun b o e' => k b o (minus_some e').1 (C.kp b o (minus_some e').2), fun b o e' => C.dis b o (minus_some e').2, C.len,
    fun p hp => let ⟨o, e1, f⟩ := C.led p hp; ⟨o, k _ _ (nl p hp) e1, f⟩, C.apart, fun p hp => ⟨(C.free p hp).1, (if_neg (nl p hp)).trans (C.free p hp).2⟩, C.inst, C.gens, C.os⟩
theorem none_of_sub (sub : ∀ b o, Kq b = some o → Kp b = some o) {b : Addr} (h : Kp b = none) : Kq b = none := by
  cases q : Kq b with
  | none => rfl
  | some o => exact no2 h (sub b o q)
/-- what was only kept stands among what never changes -/
theorem Core.toG (C : Core Z Kp c hs s) {a : Addr} {o : Obj} (ha : Kp a = some o) (hq : Kq a = none) (sub : ∀ b o, Kq b = some o → Kp b = some o) : Core Z Kq (c.addG a o) hs s ∧ c.le (c.addG a o) := by
  have l : c.le (c.addG a o) := Cn.addG_le (C.dis a o ha)
  have addr := C.addrG a o
  exact ⟨⟨fun b o' e' => l.g b o' (C.base b o' e'), fun b o' e' => upd_some e' (fun q r => q ▸ r ▸ C.kp _ _ ha) fun _ e' => C.sub b o' e', fun b o' e' => C.kp b o' (sub b o' e'), fun b o' e' => (upd_ne (ne_of hq e')).trans (C.dis b o' (sub b o' e')), C.len,
    Led.at_append (mpLed_at l (fun p _ o e => e) C.atM) (objLed_at l (fun a _ o e => e) C.atL), addr ▸ C.apart,
    free_map (P := fun b => (c.addG a o).G b = none ∧ Kq b = none) addr fun p hp => ⟨(upd_ne (Ne.symm (ne_of (C.free p hp).2 ha))).trans (C.free p hp).1, none_of_sub sub (C.free p hp).2⟩, fun q d e' => (C.inst q d e').imp fun sl e'' => l.g _ _ e'', C.gens, C.os⟩, l⟩
theorem Core.toL (C : Core Z Kp c hs s) {a : Addr} {x : D} {vs : List Value} {n : Nat} (ha : Kp a = some (listO vs n)) (hq : Kq a = none) (sub : ∀ b o, Kq b = some o → Kp b = some o) (as : ListAs Z c x vs) :
    Core Z Kq (c.addL a) ⟨hs.hp ++ [x], hs.mp⟩ s ∧ c.le (c.addL a) ∧ RepV Z (c.addL a) (.loc hs.hp.length) (.ref a) := by
  have l := Cn.addL_le c a
  refine ⟨⟨C.base, C.sub, fun b o' e' => C.kp b o' (sub b o' e'), fun b o' e' => C.dis b o' (sub b o' e'), C.lenL a x, ?_, ?_, ?_, C.inst, C.gens, C.os⟩, l, a, C.atL' a x, rfl⟩
  · rw [addL_led C]
    exact Led.at_append (mpLed_at l (fun p _ o e => e) C.atM) (Led.at_append (objLed_at l (fun a _ o e => e) C.atL) (Led.at_one (C.kp _ _ ha) as l))
  · rw [C.addrL]
    refine nodup_snoc C.apart fun hb => ?_
    obtain ⟨p, hp, q⟩ := List.mem_map.mp hb
    exact ne_of (C.free p hp).2 ha q.symm
  · exact free_map (P := fun b => c.G b = none ∧ Kq b = none) (C.addrL1 a x) (free_snoc (P := fun b => c.G b = none ∧ Kq b = none) (fun p hp => ⟨(C.free p hp).1, none_of_sub sub (C.free p hp).2⟩) ⟨C.dis _ _ ha, hq⟩)
end

/-! ### iterators -/
noncomputable def ListAt (Z : Stat) (c : Cn) (g : Option (Nat × D)) (l : Addr) (all : List D) : Prop := match g with
  | none => ∃ vs n, c.G l = some (listO vs n) ∧ RepDs Z c all vs
  | some (n, d) => c.ρ[n]? = some l ∧ itemsD d = some all ∧ isRng d = false
theorem ListAt.mono {Z : Stat} {c c' : Cn} {g : Option (Nat × D)} {l : Addr} {all : List D} (le : c.le c') (h : ListAt Z c g l all) : ListAt Z c' g l all := by
  cases g with
  | none => exact let ⟨vs, n, a, b⟩ := h; ⟨vs, n, le.g _ _ a, RepDs.mono le _ _ b⟩
  | some g => exact ⟨le.ρ _ _ h.1, h.2⟩
theorem items_as {Z : Stat} {c : Cn} {d : D} {all : List D} {vs : List Value} (as : ListAs Z c d vs) (b : itemsD d = some all) : RepDs Z c all vs := by
  cases d with
  | list xs => exact some_eq b ▸ as
  | «ints» xs => exact some_eq b ▸ ints_iff.mp as
  | _ => exact False.elim as
theorem ListAt.here {Z : Stat} {Kp : Addr → Option Obj} {c : Cn} {hs : Hs} {s : Shared} {g : Option (Nat × D)} {l : Addr} {all : List D} (C : Core Z Kp c hs s) (h : ListAt Z c g l all) (st : stays g hs) : ∃ vs n, s.heap.get? l = some (listO vs n) ∧ RepDs Z c all vs := by
  cases g with
  | none => exact let ⟨vs, n, a, b⟩ := h; ⟨vs, n, C.sub _ _ a, b⟩
  | some g =>
    obtain ⟨a, b, r⟩ := h
    obtain ⟨_, vs, ep, e, as⟩ := C.locAt a
    exact ⟨vs, ep, e, items_as ((show hs.hp.getD g.1 .none = g.2 from st) ▸ as) b⟩
noncomputable def intsFrom (x : Int) : Nat → List D
  | 0 => []
  | n + 1 => .int x :: intsFrom (x + 1) n
inductive ItSt (Z : Stat) (Kp : Addr → Option Obj) (c : Cn) (g : Option (Nat × D)) : List Addr → Bool → Value → List D → Prop
  | lst {I l : Addr} {i : Nat} {all : List D} {o : Obj} : Kp I = some o → o.cls = .type "list_iterator" → o.data = .fields #[.ref l, .int i 0] → ListAt Z c g l all → ItSt Z Kp c g [I] false (.ref I) (all.drop i)
  | rng {I : Addr} {x : Int} {n : Nat} : Kp I = some { cls := .type "range_iterator", dict := none, data := .fields #[rawInt x, rawInt n, rawInt 1], slots := #[] } → ItSt Z Kp c g [I] false (.ref I) (intsFrom x n)
  | enm {e I l : Addr} {i : Nat} {all : List D} {o : Obj} {old : Value} : e ≠ I → Kp e = some { cls := .type "enumerate", dict := none, data := .fields #[.none, .bool false, .ref I, rawInt i, .none, old], slots := #[] } →
      Kp I = some o → o.cls = .type "list_iterator" → o.data = .fields #[.ref l, .int i 0] → ListAt Z c g l all → ItSt Z Kp c g [e, I] true (.ref e) (enumFrom i (all.drop i))
theorem ItSt.mono {Z : Stat} {Kp Kq : Addr → Option Obj} {c c' : Cn} {g : Option (Nat × D)} {ia : List Addr} {b : Bool} {v : Value} {xs : List D} (l : c.le c') (hk : ∀ a ∈ ia, Kq a = Kp a) (h : ItSt Z Kp c g ia b v xs) : ItSt Z Kq c' g ia b v xs := by
  cases h with
  | lst a b c d => exact .lst ((hk _ (.head _)).trans a) b c (d.mono l)
  | rng a => exact .rng ((hk _ (.head _)).trans a)
  | enm n a b c d e => exact .enm n ((hk _ (.head _)).trans a) ((hk _ (.tail _ (.head _))).trans b) c d (e.mono l)
theorem some_one {Kp : Addr → Option Obj} {a : Addr} {o : Obj} (e : Kp a = some o) : ∀ b ∈ [a], (Kp b).isSome = true := fun b hb => by rw [List.mem_singleton.mp hb, e]; rfl
theorem some_two {Kp : Addr → Option Obj} {a b : Addr} {o p : Obj} (e : Kp a = some o) (e' : Kp b = some p) : ∀ x ∈ [a, b], (Kp x).isSome = true := fun x hx =>
  (List.mem_cons.mp hx).elim (fun q => by rw [q, e]; rfl) (some_one e' x)
theorem ItSt.some {Z : Stat} {Kp : Addr → Option Obj} {c : Cn} {g : Option (Nat × D)} {ia : List Addr} {b : Bool} {v : Value} {xs : List D} (h : ItSt Z Kp c g ia b v xs) : ∀ a ∈ ia, (Kp a).isSome = true := by
  cases h with
  | lst a b c d => exact some_one a
  | rng a => exact some_one a
  | enm n a b c d e => exact some_two a b
noncomputable def heapK (ia : List Addr) (h : Heap) (Kp : Addr → Option Obj) : Addr → Option Obj := fun b => if b ∈ ia then h.get? b else Kp b
end Mine
set_option genSizeOf false
set_option genInjectivity false
set_option maxRecDepth 100000
namespace Mine
open PySem PySem.W PySem.Calls PyProof.Rows

section
variable {Z : Stat} {Kp Kq : Addr → Option Obj} {c : Cn} {hs : Hs} {s : Shared} {A : Around} {E : Value → Shared → Prop} {tk : Nat} {ia : List Addr} {g : Option (Nat × D)}

noncomputable def ownNs : List String := ["enumerate", "zip", "dict_itemiterator", "dict_reverseitemiterator", "odict_iterator", "itertools.zip_longest", "itertools.pairwise"]
theorem letOwned_plain {t : Expr} {I : Addr} {u : Value} {o : Obj} {n : String} {vs : Array Value} {Q : Unit → Shared → Prop} (ho : s.heap.get? I = some o) (hc : o.cls = .type n) (hd : o.data = .fields vs)
    (hn : ownNs.contains n = false) (h : Q () s) : wpAny (model Z.P Z.w) A (letOwnedTupleGo t (.ref I) u) Q E s := by
  have key : ∀ a, wpAny (model Z.P Z.w) A (do
      let o ← load I
      match o.cls, o.data with
      | .type n, .fields vs =>
        if ["enumerate", "zip", "dict_itemiterator", "dict_reverseitemiterator", "odict_iterator", "itertools.zip_longest", "itertools.pairwise"].contains n && vs[0]? == some (rawInt a) then
          rule "for.unpacks-the-owned-tuple"
          updateField I 0 .none
      | _, _ => pure ()) Q E s := fun a => by
    refine wpAny_bind (wpAny_load ho ?_)
    rw [hc, hd]
    show wpAny _ _ (if (ownNs.contains n && _) = true then _ else _) _ _ _
    rw [hn]
    exact wpAny_pure h
  cases t <;> first | exact wpAny_pure h | (cases u <;> first | exact wpAny_pure h | exact key _)
theorem upsK (h' : Heap) (hh : ∀ b ∈ ia, (h'.get? b).isSome = true) : Ups ia Kp (heapK ia h' Kp) := ⟨fun b hb => if_neg hb, fun b hb => by unfold heapK; rw [if_pos hb]; exact hh b hb⟩
theorem heapK_in {b : Addr} {h' : Heap} (hb : b ∈ ia) : heapK ia h' Kp b = h'.get? b := if_pos hb
theorem Core.upH (C : Core Z Kp c hs s) {h' : Heap} (hh : ∀ b ∈ ia, (h'.get? b).isSome = true) (hia : ∀ b ∈ ia, (Kp b).isSome = true) (k : ∀ b o, b ∉ ia → s.heap.get? b = some o → h'.get? b = some o) :
    Core Z (heapK ia h' Kp) c hs { s with heap := h', toks := tk } := C.upK (upsK h' hh) (fun b hb => .inl (hia b hb)) k fun b hb => (heapK_in hb).symm
theorem not_one {b I : Addr} (h : b ∉ [I]) : b ≠ I := fun q => h (q ▸ .head _)
theorem not_two {b e I : Addr} (h : b ∉ [e, I]) : b ≠ e ∧ b ≠ I := ⟨fun q => h (q ▸ .head _), fun q => h (q ▸ .tail _ (.head _))⟩
theorem drop_at {α : Type} : ∀ {l : List α} {i : Nat} {x : α} {r : List α}, l.drop i = x :: r → l[i]? = some x ∧ r = l.drop (i + 1)
  | [], 0, _, _, h => nomatch h
  | [], _ + 1, _, _, h => nomatch h
  | _ :: _, 0, _, _, h => by cases h; exact ⟨rfl, rfl⟩
  | _ :: l, i + 1, _, _, h => drop_at (l := l) (i := i) h
theorem drop_nil {α : Type} {l : List α} {i : Nat} (h : l.drop i = []) : l[i]? = none := List.getElem?_eq_none (List.drop_eq_nil_iff.mp h)
theorem reps_at {xs : List D} {vs : List Value} (h : RepDs Z c xs vs) {i : Nat} {x : D} (e : xs[i]? = some x) : ∃ v, vs[i]? = some v ∧ RepD Z c x v := by
  obtain ⟨v, h1, h2⟩ := h.get i (List.getElem?_eq_some_iff.mp e).1
  rw [List.getD_eq_getElem?_getD, e] at h2
  exact ⟨v, h1, h2⟩
theorem reps_end {xs : List D} {vs : List Value} (h : RepDs Z c xs vs) {i : Nat} (e : xs.drop i = []) : vs.toArray[i]? = none := by
  have e := List.drop_eq_nil_iff.mp e
  rw [h.length] at e
  exact (List.getElem?_toArray ..).trans (List.getElem?_eq_none e)
theorem arr_at {vs : List Value} {i : Nat} {u : Value} (h : vs[i]? = some u) : vs.toArray[i]? = some u := (List.getElem?_toArray ..).trans h
/-- how the walk goes on behind an item -/
noncomputable def Owned (Z : Stat) (c' : Cn) (hs : Hs) (s : Shared) (A : Around) (g : Option (Nat × D)) (ia : List Addr) (b : Bool) (v u : Value) (r : List D) (Kq : Addr → Option Obj) : Prop :=
  ∀ (t : Expr) (Q' : Unit → Shared → Prop) (E' : Value → Shared → Prop), (b = true → isTupE t = true) → (∀ Kr s'', Ups ia Kq Kr → Core Z Kr c' hs s'' → ItSt Z Kr c' g ia b v r → Q' () s'') → wpAny (model Z.P Z.w) A (letOwnedTupleGo t v u) Q' E' s
noncomputable def NextC (Z : Stat) (Kp : Addr → Option Obj) (c : Cn) (hs : Hs) (A : Around) (g : Option (Nat × D)) (ia : List Addr) (b : Bool) (v : Value) (x : D) (r : List D) (Q : Option Value → Shared → Prop) : Prop :=
  ∀ c' Kq u s', c.le c' → Ups ia Kp Kq → Core Z Kq c' hs s' → RepD Z c' x u → Owned Z c' hs s' A g ia b v u r Kq → Q (some u) s'
theorem ups_refl {Kq : Addr → Option Obj} (h : ∀ b ∈ ia, (Kq b).isSome = true) : Ups ia Kq Kq := ⟨fun _ _ => rfl, h⟩
theorem next_lst {I l : Addr} {i : Nat} {all : List D} {o : Obj} {Q : Option Value → Shared → Prop} (hh : A.handled = none) (C : Core Z Kp c hs s) (h1 : Kp I = some o) (h2 : o.cls = .type "list_iterator") (h3 : o.data = .fields #[.ref l, .int i 0]) (h4 : ListAt Z c g l all) (st : stays g hs)
    (hnil : all.drop i = [] → ∀ s', Core Z (minus [I] Kp) c hs s' → Q none s') (hcons : ∀ x r, all.drop i = x :: r → NextC Z Kp c hs A g [I] false (.ref I) x r Q) : wpAny (model Z.P Z.w) A (pyNext (.ref I)) Q E s := by
  have hsome := some_one h1
  obtain ⟨vs, n, hl, R⟩ := h4.here C st
  have l1 : s.heap.IsList l vs.toArray := ⟨_, hl, rfl, n, rfl⟩
  have i1 : s.heap.IsListIter I l i := ⟨o, C.kp _ _ h1, h2, h3⟩
  cases hx : all.drop i with
  | nil => exact wpAny_pyNext_list_end hh i1 l1 (reps_end R hx) fun h' he => hnil hx _ (C.dropK (tk := s.toks) hsome fun b o hb e => he b o (not_one hb) e)
  | cons x r =>
    obtain ⟨e, rfl⟩ := drop_at hx
    obtain ⟨u, hu, Ru⟩ := reps_at R e
    refine wpAny_pyNext_list_item i1 l1 (arr_at hu) fun h' i2 hsb => ?_
    obtain ⟨o', e1, e2, e3⟩ := i2
    have hs' := some_one (Kp := h'.get?) e1
    have kI := (heapK_in (ia := [I]) (Kp := Kp) (h' := h') (b := I) (.head _)).trans e1
    have C' := C.upH (tk := s.toks) hs' hsome fun b o hb e => hsb.extBut b o (not_one hb) e
    exact hcons x _ hx c _ u _ (.refl c) (upsK h' hs') C' Ru fun t Q' E' _ hq => letOwned_plain e1 e2 e3 rfl (hq _ _ (ups_refl (some_one kI)) C' (.lst kI e2 e3 h4))
theorem next_rng {I : Addr} {x : Int} {n : Nat} {Q : Option Value → Shared → Prop} (hh : A.handled = none) (C : Core Z Kp c hs s) (h1 : Kp I = some { cls := .type "range_iterator", dict := none, data := .fields #[rawInt x, rawInt n, rawInt 1], slots := #[] })
    (hnil : intsFrom x n = [] → ∀ s', Core Z (minus [I] Kp) c hs s' → Q none s') (hcons : ∀ y r, intsFrom x n = y :: r → NextC Z Kp c hs A g [I] false (.ref I) y r Q) : wpAny (model Z.P Z.w) A (pyNext (.ref I)) Q E s := by
  have hsome := some_one h1
  have i1 : IsRangeIter s.heap I x n 1 := C.kp _ _ h1
  cases n with
  | zero => exact wpAny_pyNext_range_end hh i1 (by decide) fun h' he => hnil rfl _ (C.dropK (tk := s.toks) hsome fun b o hb e => he b o (not_one hb) e)
  | succ n =>
    refine wpAny_pyNext_range_item i1 (Int.natCast_pos.mpr (Nat.succ_pos n)) fun h' i2 hsb => ?_
    have e1 : h'.get? I = some { cls := .type "range_iterator", dict := none, data := .fields #[rawInt (x + 1), rawInt n, rawInt 1], slots := #[] } := by
      rw [show ((n : Nat) : Int) = ((n + 1 : Nat) : Int) - 1 from by lia]; exact i2
    have hs' := some_one (Kp := h'.get?) e1
    have kI := (heapK_in (ia := [I]) (Kp := Kp) (h' := h') (b := I) (.head _)).trans e1
    have C' := C.upH (tk := s.toks + 1) hs' hsome fun b o hb e => hsb.extBut b o (not_one hb) e
    exact hcons (.int x) _ rfl c _ _ _ (.refl c) (upsK h' hs') C' ⟨_, rfl⟩ fun t Q' E' _ hq => letOwned_plain e1 rfl rfl rfl (hq _ _ (ups_refl (some_one kI)) C' (.rng kI))
theorem updK_some {K : Addr → Option Obj} {a : Addr} {o : Obj} (h : ∀ b ∈ ia, (K b).isSome = true) : ∀ b ∈ a :: ia, (updK K a o b).isSome = true := fun b hb => by
  by_cases q : b = a
  · rw [show updK K a o b = _ from if_pos q]; rfl
  · rw [show updK K a o b = _ from if_neg q]; exact h b ((List.mem_cons.mp hb).resolve_left q)
/-- kept objects changed, and one that is new -/
theorem Core.upN (C : Core Z Kp c hs s) {h' : Heap} {a : Addr} {o : Obj} (fr : s.heap.get? a = none) (ea : h'.get? a = some o) (hh : ∀ b ∈ ia, (h'.get? b).isSome = true) (hia : ∀ b ∈ ia, (Kp b).isSome = true) (k : ∀ b o, b ∉ ia → s.heap.get? b = some o → h'.get? b = some o) :
    Core Z (heapK ia h' Kp) (c.addG a o) hs { s with heap := h', toks := tk } ∧ c.le (c.addG a o) := by
  have ne1 : a ∉ ia := fun hm => let ⟨_, e⟩ := Option.isSome_iff_exists.mp (hia a hm); no2 fr (C.kp _ _ e)
  have kq : heapK ia h' Kp a = none := (if_neg ne1).trans (none_of_fresh C.kp fr)
  have C1 : Core Z (updK (heapK ia h' Kp) a o) c hs { s with heap := h', toks := tk } := by
    refine C.upK (ia := a :: ia) ⟨fun b hb => ?_, updK_some (upsK h' hh).here⟩ (fun b hb => ?_) (fun b o hb e' => k b o (fun q => hb (.tail _ q)) e') fun b hb => ?_
    · exact (show updK (heapK ia h' Kp) a o b = heapK ia h' Kp b from if_neg fun (q : b = a) => hb (q ▸ .head _)).trans (if_neg fun (q : b ∈ ia) => hb (.tail _ q))
    · rcases List.mem_cons.mp hb with q | hb
      · exact .inr (q ▸ fr)
      · exact .inl (hia b hb)
    · by_cases q : b = a
      · rw [q]; exact ea.trans (if_pos rfl).symm
      · exact ((heapK_in ((List.mem_cons.mp hb).resolve_left q)).symm).trans (show updK (heapK ia h' Kp) a o b = heapK ia h' Kp b from if_neg q).symm
  exact C1.toG (if_pos rfl) kq fun b o' hb => (if_neg (ne_of kq hb)).trans hb
theorem next_enm {e I l : Addr} {i : Nat} {all : List D} {o : Obj} {old : Value} {Q : Option Value → Shared → Prop} (hh : A.handled = none) (C : Core Z Kp c hs s) (hne : e ≠ I) (he : Kp e = some { cls := .type "enumerate", dict := none, data := .fields #[.none, .bool false, .ref I, rawInt i, .none, old], slots := #[] })
    (h1 : Kp I = some o) (h2 : o.cls = .type "list_iterator") (h3 : o.data = .fields #[.ref l, .int i 0]) (h4 : ListAt Z c g l all) (st : stays g hs)
    (hnil : enumFrom i (all.drop i) = [] → ∀ s', Core Z (minus [e, I] Kp) c hs s' → Q none s') (hcons : ∀ x r, enumFrom i (all.drop i) = x :: r → NextC Z Kp c hs A g [e, I] true (.ref e) x r Q) : wpAny (model Z.P Z.w) A (pyNext (.ref e)) Q E s := by
  have hsome := some_two he h1
  obtain ⟨vs, n, hl, R⟩ := h4.here C st
  have l1 : s.heap.IsList l vs.toArray := ⟨_, hl, rfl, n, rfl⟩
  have i1 : s.heap.IsListIter I l i := ⟨o, C.kp _ _ h1, h2, h3⟩
  have e1 : IsEnum s.heap e I i old := C.kp _ _ he
  cases hx : all.drop i with
  | nil => exact wpAny_pyNext_enum_end hh e1 i1 l1 (reps_end R hx) fun h' he' => hnil (by rw [hx]; rfl) _ (C.dropK (tk := s.toks) hsome fun b o hb e => he' b o (not_two hb).2 e)
  | cons x r =>
    obtain ⟨q, rfl⟩ := drop_at hx
    obtain ⟨u, hu, Ru⟩ := reps_at R q
    refine wpAny_pyNext_enum_item e1 i1 l1 (arr_at hu) hne fun h' eo i2 ht hz hk => ?_
    obtain ⟨o', f1, f2, f3⟩ := i2
    have hs' := some_two (Kp := h'.get?) eo f1
    obtain ⟨C2, le⟩ := C.upN (tk := s.toks + 1) (o := tupO [.int i s.toks, u] 0) (fresh_size _) ht hs' hsome fun b o hb e => hk b o (not_two hb).1 (not_two hb).2 e
    refine hcons (.tup [.int i, x]) (enumFrom (i + 1) _) (by rw [hx]; rfl) _ _ _ _ le (upsK h' hs') C2 ⟨_, [.int i s.toks, u], 0, rfl, Cn.addG_get _ _ _, _, _, rfl, ⟨_, rfl⟩, u, [], rfl, RepD.mono le _ _ Ru, rfl⟩ fun t Q' E' htup hq => ?_
    have htup := htup rfl
    cases t with
    | Tuple =>
      refine wpAny_letOwnedTupleGo_enum eo fun h'' eo' hsb => ?_
      have f1' := (hsb.2 I (Ne.symm hne)).trans f1
      have hs'' := some_two (Kp := h''.get?) eo' f1'
      have C3 := C2.upH (tk := s.toks + 1) hs'' (upsK h' hs').here fun b o hb e' => hsb.extBut b o (not_two hb).1 e'
      exact hq _ _ (upsK h'' hs'') C3 (.enm (old := u) hne ((heapK_in (.head _)).trans eo') ((heapK_in (.tail _ (.head _))).trans f1') f2 f3 (h4.mono le))
    | _ => exact ff htup
theorem next_ok {v : Value} {b : Bool} {xs : List D} {Q : Option Value → Shared → Prop} (hh : A.handled = none) (C : Core Z Kp c hs s) (I : ItSt Z Kp c g ia b v xs) (st : stays g hs)
    (hnil : xs = [] → ∀ s', Core Z (minus ia Kp) c hs s' → Q none s') (hcons : ∀ x r, xs = x :: r → NextC Z Kp c hs A g ia b v x r Q) : wpAny (model Z.P Z.w) A (pyNext v) Q E s := by
  cases I with
  | lst h1 h2 h3 h4 => exact next_lst hh C h1 h2 h3 h4 st hnil hcons
  | rng h1 => exact next_rng hh C h1 hnil hcons
  | enm hne he h1 h2 h3 h4 => exact next_enm hh C hne he h1 h2 h3 h4 st hnil hcons
end
end Mine
set_option genSizeOf false
set_option genInjectivity false
set_option maxRecDepth 100000
namespace Mine
open PySem PySem.W PySem.Calls PyProof.Rows

section
variable {Z : Stat} {Kp Kq : Addr → Option Obj} {c : Cn} {hs : Hs} {s : Shared} {A : Around} {E : Value → Shared → Prop} {tk : Nat} {ia : List Addr} {g : Option (Nat × D)} {Fg : Frag} {env : Env} {sc : Names} {loc : Loc} {d : Nat} {rec : RecE}

theorem folded_ok {e : Expr} (h : notSet e = true) (x : Value) : foldedSetIterable e env x = pure x := by cases e <;> first | rfl | exact ff h
inductive ItemsAt (Z : Stat) (c : Cn) (h : Heap) (g : Option (Nat × D)) (all : List D) (v : Value) : Prop
  | mk (l : Addr) (vs : List Value) (n : Nat) (e : v = .ref l) (hl : h.get? l = some (listO vs n)) (LA : ListAt Z c g l all) : ItemsAt Z c h g all v
theorem items_at (C : Core Z Kp c hs s) {V : V} {v : Value} {all : List D} (R : RepV Z c V v) (h : itemsD (deref hs V) = some all) (hr : isRng (deref hs V) = false) :
    ItemsAt Z c s.heap (guardOf V hs) all v := by
  cases V with
  | d x => cases x with
    | list xs =>
      cases some_eq h
      obtain ⟨a, ws, k, rfl, gg, r⟩ := R
      exact ⟨a, ws, k, rfl, C.sub _ _ gg, ws, k, gg, r⟩
    | «ints» xs =>
      cases some_eq h
      obtain ⟨a, ws, k, rfl, gg, r⟩ := R
      exact ⟨a, ws, k, rfl, C.sub _ _ gg, ws, k, gg, ints_iff.mp r⟩
    | rng n => exact nomatch hr
    | _ => exact none_some h
  | loc m =>
    obtain ⟨a, e1, rfl⟩ := R
    obtain ⟨_, vs, ep, e, as⟩ := C.locAt e1
    exact ⟨a, vs, ep, rfl, e, e1, h, hr⟩
/-- an iterator, newly made -/
structure Made (Z : Stat) (Kp : Addr → Option Obj) (c : Cn) (hs : Hs) (t : Expr) (g : Option (Nat × D)) (v : Value) (xs : List D) (ia : List Addr) (Kq : Addr → Option Obj) (s' : Shared) (b : Bool) : Prop where
  core : Core Z Kq c hs s'
  same : ∀ x, x ∉ ia → Kq x = Kp x
  new : ∀ x ∈ ia, Kp x = none
  it : ItSt Z Kq c g ia b v xs
  tup : b = true → isTupE t = true
theorem Core.mk1 (C : Core Z Kp c hs s) {o : Obj} (hf : o.isFreed = false) : Core Z (updK Kp s.heap.objs.size o) c hs { s with heap := s.heap.push o, toks := tk } :=
  C.newK (fun b o e => Heap.get?_push_of_some _ e) (fresh_size _) (Heap.get?_push_size _ hf)
theorem intsFrom_eq : ∀ (n : Nat) (x : Int), intsFrom x n = (List.range n).map fun (i : Nat) => D.int (x + i)
  | 0, _ => rfl
  | n + 1, x => by
    rw [List.range_succ_eq_map, List.map_cons, List.map_map]
    refine congr (congrArg _ (congrArg D.int (Int.add_zero x).symm)) ((intsFrom_eq n (x + 1)).trans (List.map_congr_left fun i _ => congrArg D.int ?_))
    show x + 1 + (i : Int) = x + ((i + 1 : Nat) : Int)
    rw [Int.natCast_succ, Int.add_assoc, Int.add_comm 1]
theorem Core.made1 (C : Core Z Kp c hs s) {t : Expr} {xs : List D} {o : Obj} (hf : o.isFreed = false) (I : ItSt Z (updK Kp s.heap.objs.size o) c g [s.heap.objs.size] false (.ref s.heap.objs.size) xs) :
    Made Z Kp c hs t g (.ref s.heap.objs.size) xs [s.heap.objs.size] (updK Kp s.heap.objs.size o) { s with heap := s.heap.push o, toks := tk } false :=
  ⟨C.mk1 (tk := tk) hf, fun _ hx => if_neg (not_one hx), fun _ hx => List.mem_singleton.mp hx ▸ none_of_fresh C.kp (fresh_size _), I, fun h => nomatch h⟩
theorem isRng_eq {d : D} (h : isRng d = true) : ∃ n, d = .rng n := by
  cases d with
  | rng n => exact ⟨n, rfl⟩
  | _ => exact ff h
theorem pyIter_ok (C : Core Z Kp c hs s) {t : Expr} {V : V} {v : Value} {all : List D} {Q : Value → Shared → Prop} (R : RepV Z c V v) (h : itemsD (deref hs V) = some all) (hsm : smallR (deref hs V))
    (k : ∀ ia Kq u s', Made Z Kp c hs t (guardOf V hs) u all ia Kq s' false → Q u s') : wpAny (model Z.P Z.w) A (pyIter v) Q E s := by
  cases hr : isRng (deref hs V) with
  | false =>
    obtain ⟨l, vs, n, rfl, hl, LA⟩ := items_at C R h hr
    exact wpAny_pyIter_list (items := vs.toArray) ⟨_, hl, rfl, n, rfl⟩ (k _ _ _ _ (C.made1 (tk := s.toks) rfl (.lst (i := 0) (if_pos rfl) rfl rfl LA)))
  | true =>
    obtain ⟨n, hd⟩ := isRng_eq hr
    obtain ⟨a, t', u, x, rfl, gg⟩ := view_d C R hd rfl
    rw [hd] at h hsm
    have hn : -(2 ^ 62) < n ∧ n < 2 ^ 62 := hsm
    have hsz : Builtin.Range.rangeSize 0 n 1 = n.toNat := by rw [rangeSize_one]; split <;> lia
    refine wpAny_pyIter_range (C.sub _ _ gg) (small_one (by decide) (by decide) (by lia) (by lia)) ?_
    rw [hsz]
    refine k _ _ _ _ (C.made1 (tk := s.toks) rfl ?_)
    have : all = intsFrom 0 n.toNat := by
      rw [intsFrom_eq, ← some_eq h]
      exact List.map_congr_left fun i _ => congrArg D.int (Int.zero_add _).symm
    rw [this]
    exact .rng (if_pos rfl)
theorem isGI_eq {k : Option NameKind} (h : isGI k = true) : k = some .globalImplicit := by
  cases k with
  | none => exact ff h
  | some k => cases k <;> first | rfl | exact ff h
theorem isEnumN_iff {X : PX} {x : Str} (h : isEnumN X sc x = true) : sLook x sc = some .globalImplicit ∧ glob X x = some (.bi .enum) := by
  obtain ⟨h1, h2⟩ := and_t h
  refine ⟨isGI_eq h1, ?_⟩
  cases q : glob X x with
  | none => rw [q] at h2; exact ff h2
  | some d =>
    rw [q] at h2
    cases d with
    | bi b => cases b <;> first | rfl | exact ff h2
    | _ => exact ff h2
inductive EnumIs (X : PX) (sc : Names) (e it : Expr) : Prop
  | mk (x : Str) (px p : Pos) (q : it = .Call (.Name x px) [e] [] p) (n : isEnumN X sc x = true) (k : okArgsE [e] = true) : EnumIs X sc e it
theorem callP_eq {e : Expr} {q : Expr × List Expr × List Keyword} (h : callP e = some q) : ∃ p, e = .Call q.1 q.2.1 q.2.2 p := by
  cases e with
  | Call f args kws p => exact ⟨p, some_eq h ▸ rfl⟩
  | _ => exact none_some h
theorem nameP1_eq {e : Expr} {x : Str} (h : nameP1 e = some x) : ∃ p, e = .Name x p := by
  cases e with
  | Name y p => exact ⟨p, some_eq h ▸ rfl⟩
  | _ => exact none_some h
theorem enumOf_iff {X : PX} {it e : Expr} (h : enumOf X sc it = some e) : EnumIs X sc e it := by
  obtain ⟨q, h1, h⟩ := optB_iff h
  obtain ⟨x, h2, h⟩ := optB_iff h
  obtain ⟨e', h3, h⟩ := optB_iff h
  obtain ⟨h4, h⟩ := noB_iff h
  obtain ⟨h4, h6⟩ := and_t (not_t' h4)
  obtain ⟨h4, h5⟩ := and_t h4
  obtain ⟨p, e1⟩ := callP_eq h1
  obtain ⟨px, e2⟩ := nameP1_eq h2
  have e := some_eq h
  exact ⟨x, px, p, by rw [e1, e2, one_eq h3, List.isEmpty_iff.mp h4, e], h5, e ▸ h6⟩
theorem Core.enum_new (C : Core Z Kp c hs s) {h' : Heap} {o o2 : Obj} (e1 : h'.get? (s.heap.objs.size + 1) = some o) (e2 : h'.get? s.heap.objs.size = some o2) (k : ∀ b o, s.heap.get? b = some o → h'.get? b = some o) :
    Core Z (heapK [s.heap.objs.size + 1, s.heap.objs.size] h' Kp) c hs { s with heap := h', toks := tk } ∧ ∀ x ∈ [s.heap.objs.size + 1, s.heap.objs.size], Kp x = none := by
  have fr : ∀ b ∈ [s.heap.objs.size + 1, s.heap.objs.size], s.heap.get? b = none := fun b hb =>
    (List.mem_cons.mp hb).elim (fun q => q ▸ fresh_ge (Nat.le_succ _)) fun hb => List.mem_singleton.mp hb ▸ fresh_size _
  exact ⟨C.upK (upsK h' (some_two (Kp := h'.get?) e1 e2)) (fun b hb => .inr (fr b hb)) (fun b o _ e => k b o e) fun b hb => (heapK_in hb).symm, fun x hx => none_of_fresh C.kp (fr x hx)⟩
theorem enum_ok (B : BaseOK Z Fg) (S : SE Z d rec) (O : EnvOK env sc) (a : AOK d A) (FI : FrameIn Z Kp c env loc) (C : Core Z Kp c hs s) {t e : Expr} {x : Str} {px p : Pos} {K : List D → Option (Nat × D) → Hs → Prop} {Q : Value → Shared → Prop}
    (hn : isEnumN Z.X sc x = true) (hargs : okArgsE [e] = true) (htup : isTupE t = true) (h : rec sc false e loc hs fun v hs => need (!isRng (deref hs v)) (optP (itemsD (deref hs v)) fun xs => K (enumFrom 0 xs) (guardOf v hs) hs))
    (k : ∀ c' ia Kq u s' b xs g hs', c.le c' → Made Z Kp c' hs' t g u xs ia Kq s' b → K xs g hs' → Q u s') :
    wpAny (model Z.P Z.w) A (eval (.Call (.Name x px) [e] [] p) env) (fun x s₁ => wpAny (model Z.P Z.w) A (pyIter x) Q E s₁) E s := by
  obtain ⟨hk, hg⟩ := isEnumN_iff hn
  have e1 : eval (.Call (.Name x px) [e] [] p) env = (do callWith p (← eval (.Name x px) env) [] (backTo p (starEach [e] env)) (backToKw p (keywordEach [] env))) := rfl
  rw [e1]
  refine wpAny_bind (name_ok B O FI (K := fun v hs' => v = .d (.bi .enum) ∧ hs' = hs) (fun c₁ V₁ v₁ hs₁ s₁ l₁ C₁ R₁ hV => ?_) C (optP_of hk (optP_of hg ⟨rfl, rfl⟩)))
  obtain ⟨rfl, rfl⟩ := hV
  cases (R₁ : v₁ = biV .enum)
  refine callWith_ok (K := fun Vs hs => optP (one Vs) fun v => need (!isRng (deref hs v)) (optP (itemsD (deref hs v)) fun xs => K (enumFrom 0 xs) (guardOf v hs) hs)) S O a (FI.mono l₁) C₁ (okArgsE_iff hargs).1 h (fun _ _ _ s' _ _ _ => keeps_bi _ _) (fun c₂ Vs vs hs₂ s₂ l₂ C₂ R₂ h₂ => ?_)
  obtain ⟨V, eV, h₂⟩ := optP_iff h₂
  rw [one_eq eV] at R₂
  obtain ⟨v, r, rfl, RV, rfl⟩ := R₂
  obtain ⟨hr, h₂⟩ := need_iff h₂
  obtain ⟨all, hall, h₂⟩ := optP_iff h₂
  obtain ⟨l, vs, n, rfl, hl, LA⟩ := items_at C₂ RV hall (not_t hr)
  refine call_enumerate_list (items := vs.toArray) ⟨_, hl, rfl, n, rfl⟩ fun h' he hit hz hk' => wpAny_pyIter_enum he ?_
  obtain ⟨o, f1, f2, f3⟩ := hit
  obtain ⟨C₃, fr⟩ := C₂.enum_new (tk := s₂.toks) he f1 hk'
  exact k c₂ _ _ _ _ true _ _ _ (l₁.trans l₂) ⟨C₃, fun x hx => if_neg hx, fr, .enm (i := 0) (old := .none) (Nat.succ_ne_self _) ((heapK_in (.head _)).trans he) ((heapK_in (.tail _ (.head _))).trans f1) f2 f3 LA, fun _ => htup⟩ h₂
theorem iter_ok (B : BaseOK Z Fg) (S : SE Z d rec) (O : EnvOK env sc) (a : AOK d A) (FI : FrameIn Z Kp c env loc) (C : Core Z Kp c hs s) {t it : Expr} {K : List D → Option (Nat × D) → Hs → Prop} {Q : Value → Shared → Prop}
    (h : iterE (fun e => rec sc false e loc) (enumOf Z.X sc) t it hs K)
    (k : ∀ c' ia Kq u s' b xs g hs', c.le c' → Made Z Kp c' hs' t g u xs ia Kq s' b → K xs g hs' → Q u s') :
    wpAny (model Z.P Z.w) A (eval it env) (fun x s₁ => wpAny (model Z.P Z.w) A (pyIter x) Q E s₁) E s := by
  rcases orP_iff h with ⟨e, he, h'⟩ | h
  · obtain ⟨htup, h'⟩ := need_iff h'
    obtain ⟨x, px, p, rfl, hn, hargs⟩ := enumOf_iff he
    exact enum_ok B S O a FI C hn hargs htup h' k
  · refine S.ev O a FI C h fun c₁ V v hs₁ s₁ l C₁ F₁ R h₁ => ?_
    obtain ⟨hsm, h₁⟩ := h₁
    obtain ⟨all, hall, h₁⟩ := optP_iff h₁
    exact pyIter_ok (t := t) C₁ R hall hsm fun ia Kq u s' M => k c₁ ia Kq u s' false all _ hs₁ l M h₁
end
end Mine
set_option genSizeOf false
set_option genInjectivity false
set_option maxRecDepth 100000
namespace Mine
open PySem PySem.W PySem.Calls PyProof.Rows

/-- a frame that may be written: K₀ is what is kept of all else -/
inductive CellW (K₀ Kp : Addr → Option Obj) (env : Env) (x : Str) : Prop
  | mk (a : Addr) (o : Obj) (v : Option Value) (h1 : env.cells.lookup x = some a) (h2 : Kp a = some o) (h3 : o.data = .cell v) (h4 : K₀ a = none) (h5 : a ≠ env.locals) : CellW K₀ Kp env x
structure FrameW (Z : Stat) (K₀ Kp : Addr → Option Obj) (c : Cn) (env : Env) (loc : Loc) : Prop where
  in_ : FrameIn Z Kp c env loc
  le : ∀ b o, K₀ b = some o → Kp b = some o
  freeL : K₀ env.locals = none
  cells : ∀ x, env.kindOf x = some .cell → CellW K₀ Kp env x
  apart : ∀ x y a, env.kindOf x = some .cell → env.kindOf y = some .cell → env.cells.lookup x = some a → env.cells.lookup y = some a → x = y
  nofree : ∀ x, env.kindOf x ≠ some .free
theorem FrameW.mono {Z : Stat} {K₀ Kp : Addr → Option Obj} {c c' : Cn} {env : Env} {loc : Loc} (l : c.le c') (h : FrameW Z K₀ Kp c env loc) : FrameW Z K₀ Kp c' env loc := ⟨h.in_.mono l, h.le, h.freeL, h.cells, h.apart, h.nofree⟩

theorem sLook_cons {β : Type} {x y : Str} {u : β} {r : List (Str × β)} : sLook y ((x, u) :: r) = if y = x then some u else sLook y r := by
  show (if sEq y x = true then some u else sLook y r) = _
  by_cases q : y = x
  · rw [if_pos q, if_pos (sEq_iff.mpr q)]
  · rw [if_neg q, if_neg fun h => q (sEq_iff.mp h)]
theorem putL_cons {x z : Str} {U u : V} {r : Loc} : putL x U ((z, u) :: r) = if x = z then (x, U) :: r else (z, u) :: putL x U r := by
  show (if sEq x z = true then (x, U) :: r else (z, u) :: putL x U r) = _
  by_cases q : x = z
  · rw [if_pos q, if_pos (sEq_iff.mpr q)]
  · rw [if_neg q, if_neg fun h => q (sEq_iff.mp h)]
theorem putL_look (x y : Str) (V : V) : ∀ loc : Loc, sLook y (putL x V loc) = if y = x then some V else sLook y loc
  | [] => sLook_cons
  | (z, u) :: r => by
    rw [putL_cons, sLook_cons]
    by_cases h : x = z
    · rw [if_pos h, sLook_cons]
      by_cases q : y = x
      · rw [if_pos q, if_pos q]
      · rw [if_neg q, if_neg q, if_neg (h ▸ q)]
    · rw [if_neg h, sLook_cons, putL_look x y V r]
      by_cases q : y = z
      · rw [if_pos q, if_pos q, if_neg fun e => h (e.symm.trans q)]
      · rw [if_neg q, if_neg q]
theorem putL_cases {P : Prop} {x y : Str} {u U : V} {loc : Loc} (e : sLook y (putL x u loc) = some U) (h1 : y = x → u = U → P) (h2 : y ≠ x → sLook y loc = some U → P) : P := by
  rw [putL_look] at e
  by_cases q : y = x
  · rw [if_pos q] at e; exact h1 q (some_eq e)
  · rw [if_neg q] at e; exact h2 q e

section
variable {Z : Stat} {K₀ Kp Kq : Addr → Option Obj} {c : Cn} {hs : Hs} {s : Shared} {A : Around} {E : Value → Shared → Prop} {tk : Nat} {ia : List Addr} {g : Option (Nat × D)} {Fg : Frag} {env : Env} {sc : Names} {loc : Loc} {d : Nat} {rec : RecE}

theorem storable_iff {k : Option NameKind} (h : storable k = true) : k = some .local ∨ k = some .cell := by
  cases k with
  | none => exact ff h
  | some k => cases k <;> first | exact .inl rfl | exact .inr rfl | exact ff h
theorem cell_kind (W : FrameW Z K₀ Kp c env loc) {y : Str} (hy : env.kindOf y = some .cell ∨ env.kindOf y = some .free) : env.kindOf y = some .cell := hy.resolve_right (W.nofree y)
theorem kinds {x y : Str} (h : env.kindOf x = some .local) (h' : env.kindOf y = some .cell) : y ≠ x := fun q => by rw [q, h] at h'; exact nomatch some_eq h'
theorem not_mem1 {a b : Addr} (h : b ≠ a) : b ∉ [a] := fun q => h (List.mem_singleton.mp q)
theorem ups_upd {a : Addr} {o : Obj} : Ups [a] Kp (updK Kp a o) := ⟨fun b hb => upd_ne (not_one hb), some_one (if_pos rfl)⟩
/-- a name of the frame's own is bound -/
theorem storeN_ok (O : EnvOK env sc) (F : FrameIn Z Kp c env loc) (C : Core Z Kp c hs s) {x : Str} {V : V} {v : Value} (hk : env.kindOf x = some .local) (R : RepV Z c V v) {Q : Unit → Shared → Prop}
    (k : ∀ Kq s', FrameIn Z Kq c env (putL x V loc) → Core Z Kq c hs s' → Ups [env.locals] Kp Kq → Q () s') : wpAny (model Z.P Z.w) A (storeName env x v) Q E s := by
  have hp : (env.scope.kind == .class || (env.scope.kind == .module && env.locals != env.globals)) = false := by rw [O.kind]; rfl
  obtain ⟨o, es, ep, h1, h2, h3, h4⟩ := F.ns
  refine wpAny_storeName_local hk ⟨o, es, ep, C.kp _ _ h1, h2, h3, fun n => rfl⟩ (fun h' hn hsb => ?_) hp
  obtain ⟨o', es', ep', e1, e2, e3, e4⟩ := hn
  refine k _ _ ⟨⟨o', es', ep', if_pos rfl, e2, e3, fun y U e hy => ?_⟩, fun y U e hy => ?_⟩ (C.setK (tk := s.toks + 1) h1 (fun b o hb e => hsb.extBut b o hb e) e1) ups_upd
  · rw [show _ = if y = x then some v else _ from e4 y]
    refine putL_cases e (fun q r => ?_) fun q e => ?_
    · rw [if_pos q]; exact ⟨v, rfl, r ▸ R⟩
    · rw [if_neg q]; exact h4 y U e hy
  · refine putL_cases e (fun q _ => ?_) fun q e => ?_
    · rw [q, hk] at hy; exact hy.elim (fun q => nomatch some_eq q) fun q => nomatch some_eq q
    obtain ⟨a, u, ob, f1, f2, f3, f4⟩ := F.cell y U e hy
    exact ⟨a, u, ob, f1, (upd_ne fun (r : a = env.locals) => by rw [r, h1] at f2; rw [← some_eq f2, h2] at f3; exact nomatch f3).trans f2, f3, f4⟩
theorem store_local (O : EnvOK env sc) (W : FrameW Z K₀ Kp c env loc) (C : Core Z Kp c hs s) {x : Str} {V : V} {v : Value} (hk : env.kindOf x = some .local) (R : RepV Z c V v) {Q : Unit → Shared → Prop}
    (k : ∀ Kq s', FrameW Z K₀ Kq c env (putL x V loc) → Core Z Kq c hs s' → Q () s') : wpAny (model Z.P Z.w) A (storeName env x v) Q E s :=
  storeN_ok O W.in_ C hk R fun Kq s' F' C' U => k Kq s' ⟨F', fun b o e => (U.same b (not_mem1 (ne_of W.freeL e))).trans (W.le b o e), W.freeL, fun y hy =>
    let ⟨a', o', v', g1, g2, g3, g4, g5⟩ := W.cells y hy; ⟨a', o', v', g1, (U.same a' (not_mem1 g5)).trans g2, g3, g4, g5⟩, W.apart, W.nofree⟩ C'
theorem store_cell (O : EnvOK env sc) (W : FrameW Z K₀ Kp c env loc) (C : Core Z Kp c hs s) {x : Str} {V : V} {v : Value} (hk : env.kindOf x = some .cell) (R : RepV Z c V v) {Q : Unit → Shared → Prop}
    (k : ∀ Kq s', FrameW Z K₀ Kq c env (putL x V loc) → Core Z Kq c hs s' → Q () s') : wpAny (model Z.P Z.w) A (storeName env x v) Q E s := by
  obtain ⟨o, es, ep, h1, h2, h3, h4⟩ := W.in_.ns
  obtain ⟨a, oc, vc, g1, g2, g3, g4, g5⟩ := W.cells x hk
  refine wpAny_storeName_cell O.kind hk g1 ⟨oc, C.kp _ _ g2, g3⟩ fun h' hv hsb => ?_
  obtain ⟨o', e1, e2⟩ := hv
  refine k _ _ ⟨⟨⟨o, es, ep, (upd_ne (Ne.symm g5)).trans h1, h2, h3, fun y U e hy => putL_cases e (fun q _ => absurd q.symm (kinds hy hk)) fun _ e => h4 y U e hy⟩, fun y U e hy => ?_⟩, fun b ob e => (upd_ne (ne_of g4 e)).trans (W.le b ob e), W.freeL, fun y hy => ?_, W.apart, W.nofree⟩ (C.setK (tk := s.toks) g2 (fun b o hb e => hsb.extBut b o hb e) e1)
  · refine putL_cases e (fun q r => q ▸ r ▸ ⟨a, v, o', g1, if_pos rfl, e2, R⟩) fun q e => ?_
    obtain ⟨a2, u, ob, f1, f2, f3, f4⟩ := W.in_.cell y U e hy
    exact ⟨a2, u, ob, f1, (upd_ne fun (r : a2 = a) => q (W.apart y x a2 (cell_kind W hy) hk f1 (by rw [r]; exact g1))).trans f2, f3, f4⟩
  · obtain ⟨a2, o2, v2, f1, f2, f3, f4, f5⟩ := W.cells y hy
    by_cases q : a2 = a
    · exact ⟨a2, o', some v, f1, if_pos q, e2, f4, f5⟩
    · exact ⟨a2, o2, v2, f1, (upd_ne q).trans f2, f3, f4, f5⟩
theorem store_ok (O : EnvOK env sc) (W : FrameW Z K₀ Kp c env loc) (C : Core Z Kp c hs s) {x : Str} {V : V} {v : Value} (hk : storable (sLook x sc) = true) (R : RepV Z c V v) {Q : Unit → Shared → Prop}
    (k : ∀ Kq s', FrameW Z K₀ Kq c env (putL x V loc) → Core Z Kq c hs s' → Q () s') : wpAny (model Z.P Z.w) A (storeName env x v) Q E s := by
  have hko : sLook x sc = env.kindOf x := by
    rw [sLook_eq, ← O.names]; rfl
  rw [hko] at hk
  exact (storable_iff hk).elim (fun hk => store_local O W C hk R k) fun hk => store_cell O W C hk R k
theorem bind_ok (O : EnvOK env sc) (W : FrameW Z K₀ Kp c env loc) (C : Core Z Kp c hs s) {x : Str} {V : V} {v : Value} (hk : storable (sLook x sc) = true) (R : RepV Z c V v) {Q : Unit → Shared → Prop}
    (k : ∀ Kq s', FrameW Z K₀ Kq c env (putL x V loc) → Core Z Kq c hs s' → Q () s') : wpAny (model Z.P Z.w) A (bindName env x v) Q E s := by
  unfold bindName
  exact wpAny_bind (wpAny_holding (wpAny_point (wpAny_bind (wpAny_mono (store_ok (Q := Q) O W C hk R k) (fun _ _ h => wpAny_point h) fun _ _ h => h))))

/-- behind an expression the frame still stands -/
theorem FrameW.ev (S : SE Z d rec) (O : EnvOK env sc) (a : AOK d A) (W : FrameW Z K₀ Kp c env loc) (C : Core Z Kp c hs s) {m : Bool} {e : Expr} {K : KE} {Q : Value → Shared → Prop} (h : rec sc m e loc hs K)
    (k : ∀ c' V v hs' s', c.le c' → Core Z Kp c' hs' s' → FrameW Z K₀ Kp c' env loc → RepV Z c' V v → K V hs' → Q v s') : wpAny (model Z.P Z.w) A (eval e env) Q E s :=
  S.ev O a W.in_ C h fun c' V v hs' s' l C' _ R kk => k c' V v hs' s' l C' (W.mono l) R kk
theorem asg1_ok (B : BaseOK Z Fg) (S : SE Z d rec) (O : EnvOK env sc) (a : AOK d A) (W : FrameW Z K₀ Kp c env loc) (C : Core Z Kp c hs s) {t : Expr} {V : V} {v : Value} {K : Loc → Hs → Prop} {Q : Unit → Shared → Prop}
    (R : RepV Z c V v) (h : asg1 sc (rec sc false) t V loc hs K)
    (k : ∀ c' Kq loc' hs' s', c.le c' → FrameW Z K₀ Kq c' env loc' → Core Z Kq c' hs' s' → K loc' hs' → Q () s') : wpAny (model Z.P Z.w) A (assign t env v) Q E s := by
  cases t with
  | Name x p =>
    obtain ⟨hk, h⟩ := need_iff h
    rw [arm_assign_Name]
    exact wpAny_bind (wpAny_standAt (bind_ok O W C hk R fun Kq s' W' C' => k c Kq _ _ s' (.refl c) W' C' h))
  | Attribute o x p =>
    rw [arm_assign_Attribute]
    refine wpAny_bind (wpAny_holding (W.ev S O a C h fun c₁ V₁ v₁ hs₁ s₁ l₁ C₁ W₁ R₁ h₁ => wpAny_bind (wpAny_standAt (wpAny_bind (wpAny_holding ?_)))))
    exact setAttrV_ok B.cls (fun c₂ hs₂ s₂ l₂ C₂ hk => PyProof.Rows.wpAny_release' (k c₂ Kp loc hs₂ s₂ (l₁.trans l₂) (W₁.mono l₂) C₂ hk)) C₁ R₁ (R.mono l₁) h₁
  | Subscript o i p =>
    obtain ⟨_, h⟩ := need_iff h
    rw [arm_assign_Subscript]
    refine wpAny_bind (wpAny_holding (W.ev S O a C h fun c₁ V₁ v₁ hs₁ s₁ l₁ C₁ W₁ R₁ h₁ => wpAny_bind (wpAny_holding (W₁.ev S O a C₁ h₁ fun c₂ V₂ v₂ hs₂ s₂ l₂ C₂ W₂ R₂ h₂ => wpAny_bind (wpAny_standAt (wpAny_bind (wpAny_holding ?_)))))))
    exact setItemV_ok (fun c₃ hs₃ s₃ l₃ C₃ hk => PyProof.Rows.wpAny_release' (k c₃ Kp loc hs₃ s₃ ((l₁.trans l₂).trans l₃) (W₂.mono l₃) C₃ hk)) C₂ (R₁.mono l₂) R₂ ((R.mono l₁).mono l₂) h₂
  | _ => exact False.elim h
theorem assign_one {t : Expr} {ts : List Expr} (h : noStar (t :: ts) = true) : assignEach (t :: ts) env = (false, assign t env) :: assignEach ts env := by
  cases t <;> first | rfl | exact ff (and_t h).1
theorem assignEach_is : ∀ {ts : List Expr}, noStar ts = true → (assignEach ts env).length = ts.length ∧ (assignEach ts env).findIdx? (·.1) = none ∧ (assignEach ts env).map (·.2) = ts.map fun t => assign t env
  | [], _ => ⟨rfl, rfl, rfl⟩
  | t :: ts, h => by
    obtain ⟨i1, i2, i3⟩ := assignEach_is (and_t h).2
    rw [assign_one h]
    exact ⟨congrArg Nat.succ i1, by rw [List.findIdx?_cons, i2]; rfl, congrArg (_ :: ·) i3⟩
theorem asgs_ok (B : BaseOK Z Fg) (S : SE Z d rec) (O : EnvOK env sc) (a : AOK d A) {Q : Unit → Shared → Prop} {K : Loc → Hs → Prop} : ∀ {ts : List Expr} {ds : List D} {vs : List Value} {c : Cn} {Kp : Addr → Option Obj} {loc : Loc} {hs : Hs} {s : Shared}, FrameW Z K₀ Kp c env loc → Core Z Kp c hs s →
    RepDs Z c ds vs → asgs sc (rec sc false) ts ds loc hs K →
    (∀ c' Kq loc' hs' s', c.le c' → FrameW Z K₀ Kq c' env loc' → Core Z Kq c' hs' s' → K loc' hs' → Q () s') →
    wpAny (model Z.P Z.w) A (assignInOrder (ts.map fun t => assign t env) vs) Q E s
  | [], [], vs, c, Kp, loc, hs, s, W, C, R, h, k => by
    exact (show vs = [] from R) ▸ wpAny_pure (k c Kp loc hs s (.refl c) W C h)
  | t :: ts, x :: ds, vs, c, Kp, loc, hs, s, W, C, R, h, k => by
    obtain ⟨v, r, rfl, R1, R2⟩ := R
    refine wpAny_assignInOrder_more (asg1_ok (V := .d x) B S O a W C R1 h fun c₁ K₁ loc₁ hs₁ s₁ l₁ W₁ C₁ h₁ => ?_)
    exact asgs_ok B S O a W₁ C₁ (RepDs.mono l₁ _ _ R2) h₁ fun c₂ K₂ loc₂ hs₂ s₂ l₂ W₂ C₂ h₂ => k c₂ K₂ loc₂ hs₂ s₂ (l₁.trans l₂) W₂ C₂ h₂
  | [], _ :: _, _, _, _, _, _, _, _, _, _, h, _ => False.elim h
  | _ :: _, [], _, _, _, _, _, _, _, _, _, h, _ => False.elim h
theorem drop_get {items : Array Value} {i : Nat} (h : i < items.size) : items[i]? = some items[i] ∧ items.toList.drop i = items[i] :: items.toList.drop (i + 1) :=
  ⟨Array.getElem?_eq_getElem h, List.drop_eq_getElem_cons (l := items.toList) h⟩
theorem draw_list {it l : Addr} {items : Array Value} (hne : l ≠ it) (n : Nat) : ∀ (i : Nat) (s : Shared) (Q : List Value → Shared → Prop), s.heap.IsListIter it l i → s.heap.IsList l items → i + n ≤ items.size →
    (∀ h', h'.IsListIter it l (i + n) → Heap.SameBut it s.heap h' → Q ((items.toList.drop i).take n) { s with heap := h' }) → wpAny (model Z.P Z.w) A (draw (.ref it) n) Q E s := by
  induction n with
  | zero => exact fun i s Q hit _ _ hQ => wpAny_pure (hQ s.heap hit (Heap.SameBut.refl ..))
  | succ n ih =>
    intro i s Q hit ht hle hQ
    have hlt : i < items.size := by lia
    obtain ⟨g1, g2⟩ := drop_get hlt
    show wpAny _ _ (pyNext (.ref it) >>= _) Q E s
    refine wpAny_bind (wpAny_pyNext_list_item hit ht g1 fun h₁ hit₁ hs₁ => ?_)
    have ht₁ : h₁.IsList l items := let ⟨o, e, r⟩ := ht; ⟨o, (hs₁.2 l hne).trans e, r⟩
    refine wpAny_bind (wpAny_holding (ih (i + 1) _ _ hit₁ ht₁ (by lia) fun h₂ hit₂ hs₂ => wpAny_pure ?_))
    have := hQ h₂ (by rw [show i + (n + 1) = i + 1 + n by lia]; exact hit₂) (hs₁.trans hs₂)
    rwa [g2] at this
theorem unpack_list {l : Addr} {vs : List Value} {n : Nat} {targets : List (Bool × (Value → Sem Unit))} {Q : Unit → Shared → Prop} (hh : A.handled = none) (hl : s.heap.get? l = some (listO vs n))
    (hn : targets.length = vs.length) (hstar : targets.findIdx? (·.1) = none)
    (h : ∀ h', (∀ b o, s.heap.get? b = some o → h'.get? b = some o) → wpAny (model Z.P Z.w) A (assignInOrder (targets.map (·.2)) vs) Q E { s with heap := h' }) :
    wpAny (model Z.P Z.w) A (unpack (.ref l) targets) Q E s := by
  have ht : s.heap.IsList l vs.toArray := ⟨_, hl, rfl, n, rfl⟩
  have hlt : l ≠ s.heap.objs.size := Nat.ne_of_lt (Heap.lt_size hl)
  unfold unpack
  rw [hn, hstar]
  refine wpAny_bind (wpAny_holding ?_)
  unfold unpackItems
  refine wpAny_bind ?_
  unfold notIterableAtAll
  refine wpAny_bind (wpAny_specialOf ht.typeIs slot_list_iter.lookup (wpAny_pure (wpAny_bind (wpAny_holding (wpAny_pyIter_list ht ?_)))))
  have ht0 : (s.heap.push { cls := .type "list_iterator", data := .fields #[.ref l, .int 0 0] }).IsList l vs.toArray := ⟨_, Heap.get?_push_of_some _ hl, rfl, n, rfl⟩
  refine wpAny_bind (wpAny_holding (draw_list hlt vs.length 0 _ _ ⟨_, Heap.get?_push_size _ rfl, rfl, rfl⟩ ht0 (Nat.le_of_eq (Nat.zero_add _)) fun h₁ hit₁ hs₁ => ?_))
  rw [show List.take vs.length (List.drop 0 vs.toArray.toList) = vs from List.take_length]
  refine wpN (Nat.lt_irrefl _) ?_
  have ht₁ : h₁.IsList l vs.toArray := let ⟨o, e, r⟩ := ht0; ⟨o, (hs₁.2 l hlt).trans e, r⟩
  refine wpAny_bind (wpAny_holding (wpAny_pyNext_list_end hh hit₁ ht₁ (Array.getElem?_eq_none (Nat.le_of_eq (Nat.zero_add _).symm)) fun h₂ he₂ => ?_))
  have old : ∀ b o, s.heap.get? b = some o → b ≠ s.heap.objs.size := fun b o e => Nat.ne_of_lt (Heap.lt_size e)
  exact wpAny_pure (h h₂ fun b o e => he₂ b o (old b o e) (hs₁.extBut b o (old b o e) (Heap.get?_push_of_some _ e)))
theorem tupP_eq {e : Expr} {ts : List Expr} (h : tupP e = some ts) : ∃ x p, e = .Tuple ts x p := by
  cases e with
  | Tuple ts x p => exact ⟨x, p, some_eq h ▸ rfl⟩
  | _ => exact none_some h
theorem asg_ok (B : BaseOK Z Fg) (S : SE Z d rec) (O : EnvOK env sc) (a : AOK d A) (W : FrameW Z K₀ Kp c env loc) (C : Core Z Kp c hs s) {t : Expr} {V : V} {v : Value} {K : Loc → Hs → Prop} {Q : Unit → Shared → Prop}
    (R : RepV Z c V v) (h : asg sc (rec sc false) t V loc hs K)
    (k : ∀ c' Kq loc' hs' s', c.le c' → FrameW Z K₀ Kq c' env loc' → Core Z Kq c' hs' s' → K loc' hs' → Q () s') : wpAny (model Z.P Z.w) A (assign t env v) Q E s := by
  rcases orP_iff h with ⟨ts, et, h'⟩ | h
  · obtain ⟨x, p, rfl⟩ := tupP_eq et
    obtain ⟨d, ed, h'⟩ := optP_iff h'
    rw [V.d_eq ed] at R
    rcases orP_iff h' with ⟨ds, e, h'⟩ | h'
    · obtain ⟨hn, h'⟩ := need_iff h'
      obtain ⟨hn, hn2⟩ := and_t hn
      obtain ⟨e1, e2, e3⟩ := assignEach_is (env := env) hn2
      rw [D.tup_eq e] at R
      obtain ⟨ad, vs, n, rfl, g, R⟩ := R
      refine wpAny_assign_Tuple (items := vs.toArray) a.handled ⟨_, C.sub _ _ g, rfl, n, rfl⟩ (e1.trans ((Nat.eq_of_beq_eq_true hn).trans R.length)) e2 fun h₂ he => ?_
      rw [e3]
      exact asgs_ok B S O a W (C.keepTo fun b o e => he b o (Nat.ne_of_lt (Heap.lt_size e)) e) R h' k
    · obtain ⟨is, e, h'⟩ := optP_iff h'
      obtain ⟨hn, h'⟩ := need_iff h'
      obtain ⟨hn, _⟩ := and_t hn
      obtain ⟨hn, hn2⟩ := and_t hn
      obtain ⟨e1, e2, e3⟩ := assignEach_is (env := env) hn2
      rw [D.ints_eq e] at R
      obtain ⟨ad, vs, n, rfl, g, R⟩ := R
      rw [arm_assign_Tuple]
      refine wpAny_bind (wpAny_standAt (unpack_list a.handled (C.sub _ _ g) (e1.trans ((Nat.eq_of_beq_eq_true hn).trans (IntsAre.length' R))) e2 fun h₂ he => ?_))
      rw [e3]
      exact asgs_ok B S O a W (C.keepTo he) (ints_iff.mp R) h' k
  · exact asg1_ok B S O a W C R h k
end
end Mine
set_option genSizeOf false
set_option genInjectivity false
set_option maxRecDepth 100000
namespace Mine
open PySem PySem.W PySem.Calls PyProof.Rows

/-! ### the block of a comprehension -/
noncomputable def clsF (env : Env) : Names → List (Str × Addr) → List (Str × Addr)
  | [], cs => cs
  | p :: r, cs => clsF env r (match isFr p.2 with
    | true => (p.1, (env.cells.lookup p.1).getD 0) :: cs
    | false => cs)
theorem isCF_iff {o : Option NameKind} (h : isCF o = true) : o = some .cell ∨ o = some .free := by
  cases o with
  | none => exact ff h
  | some k => cases k <;> first | exact .inl rfl | exact .inr rfl | exact ff h
theorem kind_look {env : Env} {sc : Names} (hn : env.scope.names = sc) (x : Str) : env.kindOf x = sLook x sc := by
  rw [sLook_eq, ← hn]; rfl
theorem closure_is {env : Env} {sc : Names} (hn : env.scope.names = sc) (hc : ∀ x, (env.kindOf x = some .cell ∨ env.kindOf x = some .free) → (env.cells.lookup x).isSome = true) (scope : Scope) (hf : freeOK sc scope.names = true) :
    closureFor scope env = pure (clsF env scope.names []) := by
  have key : ∀ (ns : Names) (cs : List (Str × Addr)), freeOK sc ns = true → (forIn ns cs fun (x : Str × NameKind) (r : List (Str × Addr)) => match x with
      | (name, kind) => if (kind == NameKind.free) = true then do let a ← cellOf env name; pure (ForInStep.yield ((name, a) :: r)) else pure (ForInStep.yield r) : Sem (List (Str × Addr))) = pure (clsF env ns cs) := by
    intro ns
    induction ns with
    | nil => exact fun cs _ => rfl
    | cons p r ih =>
      intro cs h
      obtain ⟨x, k⟩ := p
      obtain ⟨h1, h2⟩ := and_t h
      rw [List.forIn_cons]
      cases k with
      | free =>
        obtain ⟨a, ha⟩ := Option.isSome_iff_exists.mp (hc x (by rw [kind_look hn]; exact isCF_iff h1))
        have hcell : cellOf env x = pure a := by unfold cellOf; rw [ha]
        show (cellOf env x >>= _) >>= _ = pure (clsF env r ((x, (env.cells.lookup x).getD 0) :: cs))
        rw [hcell, ha]
        exact ih _ h2
      | _ => exact ih cs h2
  exact (congrArg (fun m => m >>= fun r => pure r) (key scope.names [] hf)).trans rfl
theorem lookS_cons {β : Type} {x y : Str} {u : β} {r : List (Str × β)} : ((y, u) :: r).lookup x = if x = y then some u else r.lookup x := by
  rw [← sLook_eq, ← sLook_eq]; exact sLook_cons
theorem clsF_look {env : Env} {x : Str} {a : Addr} : ∀ {ns : Names} {cs : List (Str × Addr)}, (clsF env ns cs).lookup x = some a → (cs.lookup x = some a) ∨ a = (env.cells.lookup x).getD 0
  | [], cs, h => .inl h
  | (y, k) :: r, cs, h => by
    rcases clsF_look (ns := r) h with h | h
    · cases q : isFr k with
      | false => rw [q] at h; exact .inl h
      | true =>
        rw [q] at h
        have h := (lookS_cons (y := y) (r := cs)).symm.trans h
        by_cases e : x = y
        · rw [if_pos e] at h; exact .inr (e ▸ (some_eq h).symm)
        · rw [if_neg e] at h; exact .inl h
    · exact .inr h
theorem clsF_some {env : Env} {x : Str} : ∀ {ns : Names} {cs : List (Str × Addr)}, ((cs.lookup x).isSome = true ∨ (x, NameKind.free) ∈ ns) → ((clsF env ns cs).lookup x).isSome = true
  | [], cs, h => h.elim id fun h => nomatch h
  | (y, k) :: r, cs, h => by
    refine clsF_some (ns := r) ?_
    rcases h with h | h
    · left
      cases q : isFr k with
      | false => exact h
      | true =>
        show (((y, (env.cells.lookup y).getD 0) :: cs).lookup x).isSome = true
        rw [lookS_cons]
        by_cases e : x = y
        · rw [if_pos e]; rfl
        · rw [if_neg e]; exact h
    · rcases List.mem_cons.mp h with q | h
      · cases q
        left
        show (((x, (env.cells.lookup x).getD 0) :: cs).lookup x).isSome = true
        rw [lookS_cons, if_pos rfl]; rfl
      · exact .inr h
theorem look_mem {α : Type} {x : Str} {v : α} : ∀ {l : List (Str × α)}, sLook x l = some v → (x, v) ∈ l
  | [], h => none_some h
  | (y, u) :: r, h => by
    rw [sLook_cons] at h
    by_cases q : x = y
    · rw [if_pos q] at h; rw [q, some_eq h]; exact .head _
    · rw [if_neg q] at h; exact .tail _ (look_mem h)
theorem compSc_look {sc : Names} {x : Str} : ∀ {own : Names}, sLook x (compSc sc own) = (sLook x own).map (compKind sc x)
  | [] => rfl
  | (y, k) :: r => by
    show sLook x ((y, compKind sc y k) :: compSc sc r) = _
    rw [sLook_cons, sLook_cons]
    by_cases q : x = y
    · rw [if_pos q, if_pos q, q]; rfl
    · rw [if_neg q, if_neg q]; exact compSc_look
theorem freeOK_look {sc : Names} {x : Str} : ∀ {own : Names}, freeOK sc own = true → sLook x own = some .free → sLook x sc = some .cell ∨ sLook x sc = some .free
  | [], _, e => none_some e
  | (y, k) :: r, h, e => by
    obtain ⟨h1, h2⟩ := and_t h
    rw [sLook_cons] at e
    by_cases q : x = y
    · rw [if_pos q] at e
      cases some_eq e
      exact isCF_iff (q ▸ h1)
    · rw [if_neg q] at e; exact freeOK_look h2 e
theorem okCK_iff {k : NameKind} (h : okCK k = true) : k = .local ∨ k = .free ∨ k = .globalImplicit := by
  cases k <;> first | exact .inl rfl | exact .inr (.inl rfl) | exact .inr (.inr rfl) | exact ff h
theorem okNames_mem : ∀ {ns : Names}, okCompNames ns = true → ∀ p ∈ ns, p.2 = .local ∨ p.2 = .free ∨ p.2 = .globalImplicit
  | [], _, p, hp => nomatch hp
  | q :: r, h, p, hp => (List.mem_cons.mp hp).elim (fun e => e ▸ okCK_iff (and_t h).1) fun hp => okNames_mem (and_t h).2 p hp
theorem nodupN_mem : ∀ {ns : Names}, nodupN ns = true → ∀ p ∈ ns, sLook p.1 ns = some p.2
  | [], _, p, hp => nomatch hp
  | (y, k) :: r, h, p, hp => by
    obtain ⟨h1, h2⟩ := and_t h
    rw [sLook_cons]
    rcases List.mem_cons.mp hp with q | hp
    · rw [q, if_pos rfl]
    · have ih := nodupN_mem h2 p hp
      rw [if_neg fun (e : p.1 = y) => no2 (Option.isNone_iff_eq_none.mp h1) (e ▸ ih)]
      exact ih
theorem cell_beq (o : Option NameKind) : (o == some NameKind.cell) = isCell o := by
  cases o with
  | none => rfl
  | some k => cases k <;> rfl
theorem relabel_names {scope : Scope} {env : Env} {sc : Names} (O : EnvOK env sc) : (relabel scope env).names = compSc sc scope.names := by
  apply List.map_congr_left
  rintro ⟨x, k⟩ _
  show (if (k == .free && env.scope.kind == .function && env.kindOf x == some .cell) then (x, NameKind.cell) else (x, k)) = (x, compKind sc x k)
  rw [kind_look O.names, cell_beq, O.kind]
  unfold compKind
  cases k with
  | free => cases isCell (sLook x sc) <;> rfl
  | _ => rfl
/-- what is asked of a comprehension's block -/
structure OkC (sc : Names) (scope : Scope) : Prop where
  free : freeOK sc scope.names = true
  kind : scope.kind = .function
  names : okCompNames scope.names = true
  nodup : nodupN scope.names = true
  dbg : sLook "__debug__" scope.names = none
theorem isFn_eq {k : ScopeKind} (h : isFn? k = true) : k = .function := by cases k <;> first | rfl | exact ff h
theorem okComp_iff {sc : Names} {scope : Scope} (h : okComp sc scope = true) : OkC sc scope := by
  obtain ⟨h, _⟩ := and_t h
  obtain ⟨h, _⟩ := and_t h
  obtain ⟨h, h5⟩ := and_t h
  obtain ⟨h, h4⟩ := and_t h
  obtain ⟨h, h3⟩ := and_t h
  obtain ⟨h1, h2⟩ := and_t h
  exact ⟨h1, isFn_eq h2, h3, h4, Option.isNone_iff_eq_none.mp h5⟩
theorem comp_free {sc : Names} {scope : Scope} (h : OkC sc scope) {x : Str} (hx : (sLook x scope.names).map (compKind sc x) = some .cell ∨ (sLook x scope.names).map (compKind sc x) = some .free) : sLook x scope.names = some .free := by
  cases q : sLook x scope.names with
  | none => rw [q] at hx; exact hx.elim (fun e => none_some e) fun e => none_some e
  | some k =>
    rw [q] at hx
    rcases okNames_mem h.names _ (look_mem q) with e | e | e
    · rw [show k = _ from e] at hx; exact hx.elim (fun e => nomatch some_eq e) fun e => nomatch some_eq e
    · rw [show k = _ from e]
    · rw [show k = _ from e] at hx; exact hx.elim (fun e => nomatch some_eq e) fun e => nomatch some_eq e
theorem compEnv_kind {scope : Scope} {env : Env} {sc : Names} {C : Addr} (O : EnvOK env sc) (x : Str) : (compEnvC scope (clsF env scope.names []) C env).kindOf x = (sLook x scope.names).map (compKind sc x) := by
  rw [← compSc_look, sLook_eq, ← relabel_names O]; rfl
theorem compEnv_ok {scope : Scope} {env : Env} {sc : Names} {C : Addr} (O : EnvOK env sc) (h : OkC sc scope) : EnvOK (compEnvC scope (clsF env scope.names []) C env) (compSc sc scope.names) :=
  ⟨relabel_names O, h.kind, O.glob, O.blt, by rw [compSc_look, h.dbg]; rfl, fun x hx => clsF_some (.inr (look_mem (comp_free h (by rw [compEnv_kind O] at hx; exact hx))))⟩
theorem drop_look {own : Names} {x : Str} {V : V} : ∀ {loc : Loc}, sLook x (dropNames own loc) = some V → sLook x loc = some V ∧ isLoc0 (sLook x own) = false
  | [], h => none_some h
  | (y, u) :: r, h => by
    have e : dropNames own ((y, u) :: r) = match isLoc0 (sLook y own) with
      | true => dropNames own r
      | false => (y, u) :: dropNames own r := rfl
    rw [e] at h
    rw [sLook_cons]
    cases q : isLoc0 (sLook y own) with
    | true =>
      rw [q] at h
      obtain ⟨h1, h2⟩ := drop_look (loc := r) h
      rw [if_neg fun (e : x = y) => by rw [e, q] at h2; exact nomatch h2]
      exact ⟨h1, h2⟩
    | false =>
      rw [q] at h
      have h := (sLook_cons (r := dropNames own r)).symm.trans h
      by_cases e : x = y
      · rw [if_pos e] at h ⊢; exact ⟨h, e ▸ q⟩
      · rw [if_neg e] at h ⊢; exact drop_look h

section
variable {Z : Stat} {K₀ Kp Kq : Addr → Option Obj} {c : Cn} {hs : Hs} {s : Shared} {A : Around} {E : Value → Shared → Prop} {tk : Nat} {ia : List Addr} {g : Option (Nat × D)} {Fg : Frag} {env : Env} {sc : Names} {loc : Loc} {d : Nat} {rec : RecE} {K : KE}

noncomputable def isFrameData : Data → Bool
  | .dict .. => true
  | .cell .. => true
  | _ => false
theorem FrameIn.to (F : FrameIn Z Kp c env loc) (h : ∀ a o, Kp a = some o → isFrameData o.data = true → Kq a = some o) : FrameIn Z Kq c env loc := by
  obtain ⟨⟨o, es, ep, h1, h2, h3, h4⟩, h5⟩ := F
  refine ⟨⟨o, es, ep, h _ _ h1 (by rw [h2]; rfl), h2, h3, h4⟩, fun x V e k => ?_⟩
  obtain ⟨a, v, o, f1, f2, f3, f4⟩ := h5 x V e k
  exact ⟨a, v, o, f1, h _ _ f2 (by rw [f3]; rfl), f3, f4⟩
theorem fld_one {K : Addr → Option Obj} {a : Addr} {o : Obj} (e : K a = some o) (f : isFrameData o.data = false) : ∀ b ∈ [a], ∀ o', K b = some o' → isFrameData o'.data = false := fun b hb o' e' => by
  rw [List.mem_singleton.mp hb, e] at e'
  exact some_eq e' ▸ f
theorem ItSt.fields {b : Bool} {v : Value} {xs : List D} (h : ItSt Z Kp c g ia b v xs) : ∀ a ∈ ia, ∀ o, Kp a = Option.some o → isFrameData o.data = false := by
  cases h with
  | lst a b c d => exact fld_one a (by rw [c]; rfl)
  | rng a => exact fld_one a rfl
  | enm n a b c d e => exact fun x hx => (List.mem_cons.mp hx).elim (fun q => fld_one a rfl x (q ▸ .head _)) (fld_one b (by rw [d]; rfl) x)
theorem FrameIn.ups (F : FrameIn Z Kp c env loc) (U : Ups ia Kp Kq) (h : ∀ a ∈ ia, ∀ o, Kp a = some o → isFrameData o.data = false) : FrameIn Z Kq c env loc := F.to fun a o e f => by
  rw [U.same a fun q => by rw [h a q o e] at f; exact nomatch f]; exact e
theorem locK_eq {k : Option NameKind} (h : locK k = true) : k = some .local := by
  cases k with
  | none => exact ff h
  | some k => cases k <;> first | rfl | exact ff h
/-- a name of the block's own is bound -/
theorem storeL_ok (O : EnvOK env sc) (F : FrameIn Z Kp c env loc) (C : Core Z Kp c hs s) {x : Str} {V : V} {v : Value} (hk : locK (sLook x sc) = true) (R : RepV Z c V v) {Q : Unit → Shared → Prop}
    (k : ∀ Kq s', FrameIn Z Kq c env (putL x V loc) → Core Z Kq c hs s' → Ups [env.locals] Kp Kq → Q () s') : wpAny (model Z.P Z.w) A (bindName env x v) Q E s := by
  refine wpAny_bind (wpAny_holding (wpAny_point (wpAny_bind ?_)))
  exact wpAny_mono (storeN_ok (Q := Q) O F C ((kind_look O.names x).trans (locK_eq hk)) R k) (fun _ _ h => wpAny_point h) fun _ _ h => h
theorem bindNs_inv {t : Expr} {ts : List Expr} {ds : List D} {loc loc' : Loc} (h : bindNs sc (t :: ts) ds loc = some loc') : ∃ x p d r, t = .Name x p ∧ ds = d :: r ∧ locK (sLook x sc) = true ∧ bindNs sc ts r (putL x (.d d) loc) = some loc' := by
  cases ds with
  | nil => exact none_some h
  | cons d r =>
    obtain ⟨q, e, h⟩ := optB_iff h
    obtain ⟨h1, h2⟩ := noB_iff h
    exact ⟨q.1, q.2, d, r, nameQ_eq e, rfl, not_t' h1, h2⟩
theorem bindNs_nil {ds : List D} {loc loc' : Loc} (h : bindNs sc [] ds loc = some loc') : ds = [] ∧ loc = loc' := by
  cases ds with
  | nil => exact ⟨rfl, some_eq h⟩
  | cons _ _ => exact none_some h
theorem bindNs_static {loc' : Loc} : ∀ {ts : List Expr} {ds : List D} {loc : Loc}, bindNs sc ts ds loc = some loc' → noStar ts = true ∧ ts.length = ds.length
  | [], ds, loc, h => by obtain ⟨rfl, _⟩ := bindNs_nil h; exact ⟨rfl, rfl⟩
  | t :: ts, ds, loc, h => by
    obtain ⟨x, p, d, r, rfl, rfl, _, h⟩ := bindNs_inv h
    obtain ⟨a, b⟩ := bindNs_static h
    exact ⟨a, congrArg (· + 1) b⟩
theorem bindNs_run (O : EnvOK env sc) {Q : Unit → Shared → Prop} {loc' : Loc} : ∀ {ts : List Expr} {ds : List D} {vs : List Value} {Kp : Addr → Option Obj} {loc : Loc} {s : Shared}, FrameIn Z Kp c env loc → Core Z Kp c hs s →
    RepDs Z c ds vs → bindNs sc ts ds loc = some loc' → (∀ Kq s', FrameIn Z Kq c env loc' → Core Z Kq c hs s' → Ups [env.locals] Kp Kq → Q () s') → wpAny (model Z.P Z.w) A (assignInOrder (ts.map fun t => assign t env) vs) Q E s
  | [], ds, vs, Kp, loc, s, W, C, R, h, k => by
    obtain ⟨rfl, rfl⟩ := bindNs_nil h
    obtain ⟨o, es, ep, h1, _⟩ := W.ns
    exact (show vs = [] from R) ▸ wpAny_pure (k Kp s W C ⟨fun _ _ => rfl, some_one h1⟩)
  | t :: ts, ds, vs, Kp, loc, s, W, C, R, h, k => by
    obtain ⟨x', p, x, ds, rfl, rfl, hl, h⟩ := bindNs_inv h
    obtain ⟨v, r, rfl, R1, R2⟩ := R
    rw [List.map_cons]
    refine wpAny_assignInOrder_more ?_
    rw [arm_assign_Name]
    exact wpAny_bind (wpAny_standAt (storeL_ok (V := .d x) O W C hl R1 fun Kq s' W' C' U => bindNs_run O W' C' R2 h fun Kr s'' W'' C'' U'' => k Kr s'' W'' C'' (U.trans U'')))
theorem bindT_ok (hh : A.handled = none) (O : EnvOK env sc) (W : FrameIn Z Kp c env loc) (C : Core Z Kp c hs s) {t : Expr} {x : D} {v : Value} {loc' : Loc} (R : RepD Z c x v) (h : bindT sc t x loc = some loc') {Q : Unit → Shared → Prop}
    (k : ∀ Kq s', FrameIn Z Kq c env loc' → Core Z Kq c hs s' → Ups [env.locals] Kp Kq → Q () s') : wpAny (model Z.P Z.w) A (assign t env v) Q E s := by
  cases t with
  | Name y p =>
    obtain ⟨hl, h⟩ := if_some rfl h
    cases some_eq h
    rw [arm_assign_Name]
    exact wpAny_bind (wpAny_standAt (storeL_ok (V := .d x) O W C hl R k))
  | Tuple ts y p =>
    obtain ⟨ds, e, h⟩ := optB_iff h
    rw [D.tup_eq e] at R
    obtain ⟨ad, vs, n, rfl, gg, R⟩ := R
    obtain ⟨b1, b2⟩ := bindNs_static h
    obtain ⟨e1, e2, e3⟩ := assignEach_is (env := env) b1
    refine wpAny_assign_Tuple (items := vs.toArray) hh ⟨_, C.sub _ _ gg, rfl, n, rfl⟩ (e1.trans (b2.trans R.length)) e2 fun h' he => ?_
    rw [e3]
    exact bindNs_run O W (C.keepTo fun b o e => he b o (Nat.ne_of_lt (Heap.lt_size e)) e) R h k
  | _ => exact none_some h
end
end Mine
set_option genSizeOf false
set_option genInjectivity false
set_option maxRecDepth 100000
namespace Mine
open PySem PySem.W PySem.Calls PyProof.Rows

section
variable {Z : Stat} {K₀ Kp Kq : Addr → Option Obj} {c : Cn} {hs : Hs} {s : Shared} {A : Around} {E : Value → Shared → Prop} {tk : Nat} {ia : List Addr} {g : Option (Nat × D)} {Fg : Frag} {env : Env} {sc : Names} {loc : Loc} {d : Nat} {rec : RecE} {K : KE} {R : Result → Shared → Prop}

theorem compLoop_own {elt target iter : Expr} {ifs : List Expr} {scope : Scope} {pos : Pos} {it acc : Value} {env : Env} (I : Nat → Shared → Prop)
    (turn : ∀ n s, I n s → wpAny (model Z.P Z.w) A (pyNext it) (fun r s₁ => match r with
      | none => R (.ok .next) s₁
      | some v => wpAny (model Z.P Z.w) A (letOwnedTupleGo target it v) (fun _ s₂' => wpAny (model Z.P Z.w) A (assign target env v) (fun _ s₂ =>
          wpAny (model Z.P Z.w) A (forIn ifs true fun c r => if r = true then do let ok ← isTrue c env (eval c env); pure (ForInStep.yield ok) else pure (ForInStep.yield r)) (fun ok s₃ =>
            if ok = true then wpAny (model Z.P Z.w) A (eval elt env) (fun x s₄ =>
              wpAny (model Z.P Z.w) A (call (.builtin "list.append") [acc, x]) (fun _ s₅ => ∃ m, m < n ∧ I m s₅) (notedBy (model Z.P Z.w) A env fun e s' => R (.error e) s') s₄) (notedBy (model Z.P Z.w) A env fun e s' => R (.error e) s') s₃
            else ∃ m, m < n ∧ I m s₃) (notedBy (model Z.P Z.w) A env fun e s' => R (.error e) s') s₂) (notedBy (model Z.P Z.w) A env fun e s' => R (.error e) s') s₂') (notedBy (model Z.P Z.w) A env fun e s' => R (.error e) s') s₁) (notedBy (model Z.P Z.w) A env fun e s' => R (.error e) s') s)
    (n : Nat) (h : I n s) :
    codeAny (model Z.P Z.w) A (.compLoop (.ListComp elt [⟨target, iter, ifs, 0⟩] scope pos) 0 it acc env) R s := by
  refine codeAny_loop rfl I (fun n s hI => ?_) n h
  show wpAny _ A ((compTurn (.ListComp elt [⟨target, iter, ifs, 0⟩] scope pos) 0 it acc env).onRaise (fun x => do noteFrame x env; theTreesLotGoes x)) _ _ s
  refine wpAny_noted ?_
  rw [compTurn_list]
  refine wpAny_bind (wpAny_standAt (wpAny_bind (wpAny_mono (turn n s hI) (fun r s₁ h₁ => ?_) fun _ _ h' => h')))
  cases r with
  | none => exact wpAny_pure h₁
  | some v =>
    refine wpAny_bind (wpAny_mono h₁ (fun _ s₂' h₂' => wpAny_bind (wpAny_mono h₂' (fun _ s₂ h₂ => wpAny_bind (wpAny_mono h₂ (fun ok s₃ h₃ => ?_) fun _ _ h' => h')) fun _ _ h' => h')) fun _ _ h' => h')
    cases ok with
    | false => exact wpAny_pure ⟨rfl, h₃⟩
    | true =>
      exact wpAny_bind (wpAny_bind (wpAny_mono h₃ (fun x s₄ h₄ => wpAny_bind (wpAny_mono h₄ (fun _ s₅ h₅ => wpAny_pure (wpAny_pure ⟨rfl, h₅⟩)) fun _ _ h' => h')) fun _ _ h' => h'))

theorem tests_no {env : Env} {Q : Bool → Shared → Prop} (h : Q false s) : ∀ ifs : List Expr,
    wpAny (model Z.P Z.w) A (forIn ifs false fun c r => if r = true then do let ok ← isTrue c env (eval c env); pure (ForInStep.yield ok) else pure (ForInStep.yield r)) Q E s
  | [] => wpAny_pure h
  | e :: r => by
    rw [List.forIn_cons]
    exact wpAny_bind (wpAny_pure (tests_no h r))
theorem tests_ok (T : ST Z d rec) (O : EnvOK env sc) (a : AOK d A) {Q : Bool → Shared → Prop} {KB : Bool → Hs → Prop} : ∀ {ifs : List Expr} {hs : Hs} {c : Cn} {s : Shared}, FrameIn Z Kp c env loc → Core Z Kp c hs s →
    ifsE (rec sc false · loc) ifs hs KB → PostB Z Kp c KB Q →
    wpAny (model Z.P Z.w) A (forIn ifs true fun c r => if r = true then do let ok ← isTrue c env (eval c env); pure (ForInStep.yield ok) else pure (ForInStep.yield r)) Q E s
  | [], hs, c, s, F, C, h, P => wpAny_pure (P c true hs s (.refl c) C h)
  | e :: r, hs, c, s, F, C, h, P => by
    rw [List.forIn_cons]
    refine wpAny_bind ?_
    refine wpT rfl ?_
    refine wpAny_bind (T env sc e loc hs _ (fun b hs => br b (ifsE (rec sc false · loc) r hs KB) (KB false hs)) Kp c s A _ E O a F C h (fun v hs hv => hv) fun c₁ b hs₁ s₁ l₁ C₁ hb => ?_)
    refine wpAny_pure ?_
    cases b with
    | true => exact tests_ok T O a (F.mono l₁) C₁ hb fun c₂ b hs₂ s₂ l₂ C₂ k => P c₂ b hs₂ s₂ (l₁.trans l₂) C₂ k
    | false => exact tests_no (P c₁ false hs₁ s₁ l₁ C₁ hb) r

inductive NsO (o : Obj) : Prop
  | mk (es : Array DictEntry) (ep : Nat) (h1 : o.data = .dict es ep) (h2 : StrKeys es) : NsO o
theorem NsO.ns {o : Obj} (h : NsO o) {hp : Heap} {a : Addr} (e : hp.get? a = some o) : ∃ m, hp.Ns a m := let ⟨es, ep, e1, e2⟩ := h; ⟨_, o, es, ep, e, e1, e2, fun _ => rfl⟩
/-- where a comprehension stands between two turns -/
inductive AccAt (Z : Stat) (c : Cn) (Ke : Addr → Option Obj) (D : Addr) (acc : List Mine.D) : Prop
  | mk (vs : List Value) (n : Nat) (h1 : Ke D = some (listO vs n)) (h2 : RepDs Z c acc.reverse vs) : AccAt Z c Ke D acc
structure CompSt (Z : Stat) (Kp : Addr → Option Obj) (c : Cn) (g : Option (Nat × D)) (ia : List Addr) (b : Bool) (it : Value) (D C : Addr) (cenv : Env) (xs : List Mine.D) (acc : List Mine.D) (loc : Loc) (hs : Hs) (Ke : Addr → Option Obj) (s : Shared) : Prop where
  core : Core Z Ke c hs s
  same : ∀ x, x ≠ D → x ≠ C → x ∉ ia → Ke x = Kp x
  it : ItSt Z Ke c g ia b it xs
  acc : AccAt Z c Ke D acc
  fr : FrameIn Z Ke c cenv loc
structure CompFix (Kp : Addr → Option Obj) (ia : List Addr) (D C : Addr) (cenv : Env) : Prop where
  loc : cenv.locals = C
  dia : D ∉ ia
  cia : C ∉ ia
  dc : D ≠ C
  kd : Kp D = none
  kc : Kp C = none
  ki : ∀ x ∈ ia, Kp x = none
theorem AccAt.mono {c' : Cn} {Ke : Addr → Option Obj} {D : Addr} {acc : List Mine.D} (l : c.le c') (h : AccAt Z c Ke D acc) : AccAt Z c' Ke D acc := let ⟨vs, n, h1, h2⟩ := h; ⟨vs, n, h1, RepDs.mono l _ _ h2⟩
theorem AccAt.to {Ke : Addr → Option Obj} {D : Addr} {acc : List Mine.D} (h : AccAt Z c Ke D acc) (e : Kq D = Ke D) : AccAt Z c Kq D acc := let ⟨vs, n, h1, h2⟩ := h; ⟨vs, n, e.trans h1, h2⟩
inductive CompInv (Z : Stat) (Kp : Addr → Option Obj) (c : Cn) (g : Option (Nat × D)) (ia : List Addr) (b : Bool) (it : Value) (D C : Addr) (env : Env) (H : List Mine.D → Loc → Hs → List Mine.D → Prop) (n : Nat) (s' : Shared) : Prop
  | mk (c' : Cn) (xs acc : List Mine.D) (loc' : Loc) (hs' : Hs) (Ke : Addr → Option Obj) (l : c.le c') (st : CompSt Z Kp c' g ia b it D C env xs acc loc' hs' Ke s') (hlen : acc.length + xs.length ≤ lim) (h : H xs loc' hs' acc) (e : n = xs.length) : CompInv Z Kp c g ia b it D C env H n s'
section
variable {D C : Addr} {b : Bool} {it : Value} {xs acc : List Mine.D} {Ke : Addr → Option Obj}
theorem CompSt.mono {c' : Cn} {hs' : Hs} {s' : Shared} (l : c.le c') (C' : Core Z Ke c' hs' s') (st : CompSt Z Kp c g ia b it D C env xs acc loc hs Ke s) : CompSt Z Kp c' g ia b it D C env xs acc loc hs' Ke s' :=
  ⟨C', st.same, st.it.mono l fun _ _ => rfl, st.acc.mono l, st.fr.mono l⟩
/-- the end of the walk: the iterator goes -/
theorem CompSt.fin (X : CompFix Kp ia D C env) (st : CompSt Z Kp c g ia b it D C env xs acc loc hs Ke s) : AccAt Z c (minus ia Ke) D acc ∧ (∃ o, minus ia Ke C = some o ∧ NsO o) ∧ ∀ x, x ≠ D → x ≠ C → minus ia Ke x = Kp x := by
  obtain ⟨o, es, ep, h1, h2, h3, _⟩ := st.fr.ns
  rw [X.loc] at h1
  refine ⟨st.acc.to (if_neg X.dia), ⟨o, (if_neg X.cia).trans h1, es, ep, h2, h3⟩, fun x h1 h2 => ?_⟩
  by_cases q : x ∈ ia
  · exact (if_pos q).trans (X.ki x q).symm
  · exact (if_neg q).trans (st.same x h1 h2 q)
/-- an item is drawn and bound -/
theorem CompSt.next {c₁ : Cn} {Kr K₃ : Addr → Option Obj} {r : List Mine.D} {loc₂ : Loc} {s₃ : Shared} (X : CompFix Kp ia D C env) (st : CompSt Z Kp c g ia b it D C env xs acc loc hs Ke s) (l : c.le c₁) (U : Ups ia Ke Kr) (I : ItSt Z Kr c₁ g ia b it r)
    (F : FrameIn Z K₃ c₁ env loc₂) (C₃ : Core Z K₃ c₁ hs s₃) (U₃ : Ups [env.locals] Kr K₃) : CompSt Z Kp c₁ g ia b it D C env r acc loc₂ hs K₃ s₃ := by
  have h3 : ∀ x, x ≠ C → K₃ x = Kr x := fun x hx => U₃.same x (not_mem1 (X.loc ▸ hx))
  exact ⟨C₃, fun x h1 h2 q => (h3 x h2).trans ((U.same x q).trans (st.same x h1 h2 q)), I.mono (.refl c₁) fun x hx => h3 x fun e => X.cia (e ▸ hx), (st.acc.mono l).to ((h3 D X.dc).trans (U.same D X.dia)), F⟩
theorem CompSt.push (X : CompFix Kp ia D C env) (st : CompSt Z Kp c g ia b it D C env xs acc loc hs Ke s) {y : Mine.D} {v : Value} (R : RepD Z c y v) (hlen : acc.length < lim) {Q : Value → Shared → Prop}
    (k : ∀ Kq r s', CompSt Z Kp c g ia b it D C env xs (y :: acc) loc hs Kq s' → Q r s') : wpAny (model Z.P Z.w) A (call (.builtin "list.append") [.ref D, v]) Q E s := by
  obtain ⟨vs, n, hD, hR⟩ := st.acc
  have hl := st.core.kp _ _ hD
  have hvs : vs.length < lim := by rw [← hR.length, List.length_reverse]; exact hlen
  refine wpAny_list_append_plain ⟨n, hl⟩ (fun h' hp hsb => ?_) (Nat.le_trans (Nat.le_of_lt hvs) (show lim ≤ sizeLine by decide))
  obtain ⟨n', e'⟩ := hp
  rw [show vs.toArray.push v = (vs ++ [v]).toArray from List.push_toArray ..] at e'
  refine k _ _ _ ⟨st.core.setK (tk := s.toks) hD (fun b o hb e => hsb.extBut b o hb e) e', fun x h1 h2 h3 => (upd_ne h1).trans (st.same x h1 h2 h3), st.it.mono (.refl c) fun x hx => upd_ne fun (e : x = D) => X.dia (e ▸ hx), ⟨vs ++ [v], n', if_pos rfl, ?_⟩, st.fr.to fun a' o e f => ?_⟩
  · rw [List.reverse_cons]
    exact hR.append ⟨v, [], rfl, R, rfl⟩
  · exact (upd_ne fun (q : a' = D) => by rw [q, hD] at e; rw [← some_eq e] at f; exact ff f).trans e
theorem comp_loop (S : SE Z d rec) (T : ST Z d rec) (O : EnvOK env sc) (a : AOK d A) (X : CompFix Kp ia D C env) {elt t iter : Expr} {ifs : List Expr} {scope : Scope} {pos : Pos} {KD : List Mine.D → Hs → Prop} (htup : b = true → isTupE t = true)
    (hend : ∀ (c' : Cn) (acc : List Mine.D) (hs' : Hs) (Ke : Addr → Option Obj) (s' : Shared), c.le c' → (AccAt Z c' Ke D acc ∧ (∃ o, Ke C = some o ∧ NsO o) ∧ ∀ x, x ≠ D → x ≠ C → Ke x = Kp x) → Core Z Ke c' hs' s' → KD acc.reverse hs' → R (.ok .next) s')
    (st : CompSt Z Kp c g ia b it D C env xs acc loc hs Ke s) (hlen : acc.length + xs.length ≤ lim)
    (h : compL (fun loc e => rec sc false e loc) sc t elt ifs g KD xs loc hs acc) :
    codeAny (model Z.P Z.w) A (.compLoop (.ListComp elt [⟨t, iter, ifs, 0⟩] scope pos) 0 it (.ref D) env) R s := by
  refine compLoop_own (CompInv Z Kp c g ia b it D C env (compL (fun loc e => rec sc false e loc) sc t elt ifs g KD)) ?_ xs.length ⟨c, xs, acc, loc, hs, Ke, .refl c, st, hlen, h, rfl⟩
  clear st h hlen
  rintro n s' ⟨c', xs, acc, loc', hs', Ke, l, st, hlen, h, rfl⟩
  have hst : stays g hs' := by
    cases xs with
    | nil => exact h.1
    | cons x r => exact h.1
  refine next_ok a.handled st.core st.it hst (fun hnil s₁ C₁ => ?_) (fun x r hx c₁ Kq u s₁ l₁ U₁ C₁ Ru hgo => ?_)
  · rw [hnil] at h
    exact hend c' acc hs' (minus ia Ke) s₁ l (st.fin X) C₁ h.2
  · cases hx
    obtain ⟨loc₂, hb, h⟩ := optP_iff h.2
    have hlen : (acc.length + 1) + r.length ≤ lim := by rw [Nat.add_right_comm]; exact hlen
    have hlen' : acc.length + r.length ≤ lim := Nat.le_trans (Nat.add_le_add_right (Nat.le_succ _) _) hlen
    refine hgo t _ _ htup fun Kr s₂ U₂ C₂ I₂ => bindT_ok a.handled O ((st.fr.mono l₁).ups (U₁.trans U₂) st.it.fields) C₂ Ru hb fun K₃ s₃ F₃ C₃ U₃ => ?_
    have st₃ := st.next X l₁ (U₁.trans U₂) I₂ F₃ C₃ U₃
    refine tests_ok T O a F₃ C₃ h fun c₄ ok hs₄ s₄ l₄ C₄ h₄ => ?_
    have st₄ := st₃.mono l₄ C₄
    cases ok with
    | true =>
      rw [if_pos rfl]
      refine S.ev O a st₄.fr C₄ h₄ fun c₅ V₅ v₅ hs₅ s₅ l₅ C₅ F₅ R₅ h₅ => ?_
      obtain ⟨y, ey, h₅⟩ := optP_iff h₅
      rw [V.d_eq ey] at R₅
      exact (st₄.mono l₅ C₅).push X R₅ (Nat.lt_of_lt_of_le (Nat.lt_succ_self _) (Nat.le_trans (Nat.le_add_right _ _) hlen)) fun Kq _ s₆ st₆ => ⟨r.length, Nat.lt_succ_self _, c₅, r, y :: acc, loc₂, hs₅, Kq, ((l.trans l₁).trans l₄).trans l₅, st₆, hlen, h₅, rfl⟩
    | false =>
      rw [if_neg Bool.false_ne_true]
      exact ⟨r.length, Nat.lt_succ_self _, c₄, r, acc, loc₂, hs₄, K₃, (l.trans l₁).trans l₄, st₄, hlen', h₄, rfl⟩
end
theorem again_ok {b : Bool} {it : Value} {xs : List Mine.D} {Q : Value → Shared → Prop} (C : Core Z Kp c hs s) (I : ItSt Z Kp c g ia b it xs) (h : Q it s) : wpAny (model Z.P Z.w) A (pyIter it) Q E s := by
  cases I with
  | lst h1 h2 h3 _ => exact wpAny_pyIter_listiter ⟨_, C.kp _ _ h1, h2, h3⟩ h
  | rng h1 => exact wpAny_pyIter_rangeiter (C.kp _ _ h1) h
  | enm _ h1 _ _ _ _ => exact wpAny_pyIter_enum (C.kp _ _ h1) h
theorem comp_local {x : Str} {o : Option NameKind} (h : o.map (compKind sc x) = some .local) : isLoc0 o = true := by
  cases o with
  | none => exact none_some h
  | some k =>
    have h : compKind sc x k = .local := some_eq h
    unfold compKind at h
    cases k with
    | «local» => rfl
    | free => cases q : isCell (sLook x sc) <;> rw [q] at h <;> exact nomatch h
    | _ => exact nomatch h
theorem comp_frame (O : EnvOK env sc) {scope : Scope} (hok : OkC sc scope) (F : FrameIn Z Kq c env loc) {CC : Addr} {oC : Obj} {K' : Addr → Option Obj} (hC : K' CC = some oC) (nC : NsO oC) (hK : ∀ x o, Kq x = some o → K' x = some o) :
    FrameIn Z K' c (compEnvC scope (clsF env scope.names []) CC env) (dropNames scope.names loc) := by
  obtain ⟨es, ep, dC, kC⟩ := nC
  refine ⟨⟨oC, es, ep, hC, dC, kC, fun x V e hx => ?_⟩, fun x V e hx => ?_⟩
  · rw [compEnv_kind O] at hx
    exact nomatch (drop_look e).2.symm.trans (comp_local hx)
  · rw [compEnv_kind O] at hx
    have hfree := comp_free hok hx
    have hout := freeOK_look hok.free hfree
    rw [← kind_look O.names] at hout
    obtain ⟨ad, v, o, f1, f2, f3, f4⟩ := F.cell x V (drop_look e).1 hout
    obtain ⟨ad', had⟩ := Option.isSome_iff_exists.mp (clsF_some (env := env) (cs := []) (.inr (look_mem hfree)))
    have : ad' = ad := (clsF_look had).elim (fun w => none_some w) fun w => w.trans (by rw [f1]; rfl)
    exact ⟨ad, v, o, this ▸ had, hK _ _ f2, f3, f4⟩
theorem comp_end {DD CC : Addr} (X : CompFix Kp ia DD CC env) {m : Bool} {c' : Cn} {acc : List Mine.D} {hs' : Hs} {Ke : Addr → Option Obj} {s' : Shared} {P : Prop} (h : AccAt Z c' Ke DD acc ∧ (∃ o, Ke CC = some o ∧ NsO o) ∧ ∀ x, x ≠ DD → x ≠ CC → Ke x = Kp x) (C' : Core Z Ke c' hs' s') (hk : alloc m (mkList acc.reverse) hs' K)
    (k : ∀ (c'' : Cn) (V : V) (hs'' : Hs) (oC : Obj), c'.le c'' → NsO oC → Core Z (updK Kp CC oC) c'' hs'' s' → RepV Z c'' V (.ref DD) → K V hs'' → P) : P := by
  obtain ⟨⟨vs, n, hD, hR⟩, ⟨o, hC, hN⟩, hsame⟩ := h
  have hq : updK Kp CC o DD = none := (upd_ne X.dc).trans X.kd
  have hsub : ∀ b o', updK Kp CC o b = some o' → Ke b = some o' := fun b o' e => upd_some e (fun q r => by rw [q, ← r]; exact hC) fun q e => (hsame b (ne_of X.kd e) q).trans e
  have as := mkList_as hR
  cases m with
  | false =>
    obtain ⟨C'', le⟩ := C'.toG hD hq hsub
    exact k _ (.d _) hs' o le hN C'' ((as.mono le).rep (Cn.addG_get _ _ _)) hk
  | true =>
    obtain ⟨C'', le, r⟩ := C'.toL hD hq hsub as
    exact k _ _ _ o le hN C'' r hk
theorem comp_ok (B : BaseOK Z Fg) (S : SE Z d rec) (T : ST Z d rec) (O : EnvOK env sc) (a : AOK d A) (FI : FrameIn Z Kp c env loc) (Cr : Core Z Kp c hs s) {m : Bool} {elt t it : Expr} {ifs : List Expr} {scope : Scope} {pos pos' : Pos}
    (hok : okComp sc scope = true) (hset : notSet it = true)
    (h : iterE (fun e => rec sc false e loc) (enumOf Z.X sc) t it hs fun xs g hs => xs.length ≤ lim ∧
      compL (fun loc e => rec (compSc sc scope.names) false e loc) (compSc sc scope.names) t elt ifs g (fun ds hs => alloc m (mkList ds) hs K) xs (dropNames scope.names loc) hs [])
    {use : Option (Value → Sem Unit)} {Q : Value → Shared → Prop}
    (k : ∀ (c' : Cn) (V : V) (v : Value) (hs' : Hs) (s' : Shared) (C : Addr) (oC : Obj), c.le c' → Kp C = none → NsO oC → Core Z (updK Kp C oC) c' hs' s' → RepV Z c' V v → K V hs' → compPost (model Z.P Z.w) A E use Q v C (.ok .next) s') :
    wpAny (model Z.P Z.w) A (comprehension (.ListComp elt [⟨t, it, ifs, 0⟩] scope pos) scope env pos' (newList []) false (eval it env) use) Q E s := by
  have hok := okComp_iff hok
  refine wpAny_comprehension_free (g := ⟨t, it, ifs, 0⟩) (gs := []) rfl (folded_ok hset) (closure_is O.names O.cells scope hok.free) hok.kind (fun x hx hl => ?_) ?_
  · rw [← sLook_eq, nodupN_mem hok.nodup x hx, hl]
  refine iter_ok (t := t) B S O a FI Cr h fun c₁ ia Kq u s₁ b xs g hs₁ l₁ M h₁ => ?_
  obtain ⟨hlen, h₁⟩ := h₁
  have F₁ : FrameIn Z Kq c₁ env loc := (FI.mono l₁).to fun x o e _ => (M.same x fun hx => no2 (M.new x hx) e).trans e
  -- the list to be filled
  have C₂ := M.core.mk1 (tk := s₁.toks) (o := listO [] 0) rfl
  have hCs : (s₁.heap.push (listO [] 0)).objs.size = s₁.heap.objs.size + 1 := Heap.size_push ..
  refine wpAny_newObj_type (wpAny_newFunctionEnv (fun x hx => ?_) (fun y hy => nomatch hy) (fun h' hns hsb => ?_) hok.kind)
  · rcases okNames_mem hok.names x hx with e | e | e <;> rw [e] <;> decide
  have keep : ∀ b o, (s₁.heap.push (listO [] 0)).get? b = some o → h'.get? b = some o := fun b o e => hsb.extBut b o (Nat.ne_of_lt (Heap.lt_size e)) (Heap.get?_push_of_some _ e)
  obtain ⟨oC, es, ep, eC, dC, kC, fC⟩ := hns
  have C₃ := C₂.newK (h' := h') (tk := s₁.toks) keep (fresh_size _) eC
  have hDC : s₁.heap.objs.size ≠ (s₁.heap.push (listO [] 0)).objs.size := by rw [hCs]; exact Nat.ne_of_lt (Nat.lt_succ_self _)
  have Dfresh : Kq s₁.heap.objs.size = none := none_of_fresh M.core.kp (fresh_size _)
  have Cfresh : Kq (s₁.heap.push (listO [] 0)).objs.size = none := none_of_fresh M.core.kp (fresh_ge (by rw [hCs]; exact Nat.le_succ _))
  have nia : ∀ {x}, Kq x = none → x ∉ ia := fun e hx => no_some e (M.it.some _ hx)
  have fix : CompFix Kp ia s₁.heap.objs.size (s₁.heap.push (listO [] 0)).objs.size (compEnvC scope (clsF env scope.names []) (s₁.heap.push (listO [] 0)).objs.size env) :=
    ⟨rfl, nia Dfresh, nia Cfresh, hDC, (M.same _ (nia Dfresh)).symm.trans Dfresh, (M.same _ (nia Cfresh)).symm.trans Cfresh, M.new⟩
  have kk : ∀ x, x ≠ s₁.heap.objs.size → x ≠ (s₁.heap.push (listO [] 0)).objs.size → updK (updK Kq s₁.heap.objs.size (listO [] 0)) (s₁.heap.push (listO [] 0)).objs.size oC x = Kq x := fun x h1 h2 => (upd_ne h2).trans (upd_ne h1)
  have st : CompSt Z Kp c₁ g ia b u s₁.heap.objs.size (s₁.heap.push (listO [] 0)).objs.size (compEnvC scope (clsF env scope.names []) (s₁.heap.push (listO [] 0)).objs.size env) xs [] (dropNames scope.names loc) hs₁ _ { s₁ with heap := h', toks := s₁.toks } :=
    ⟨C₃, fun x h1 h2 h3 => (kk x h1 h2).trans (M.same x h3), M.it.mono (.refl _) fun x hx => kk x (fun e => fix.dia (e ▸ hx)) fun e => fix.cia (e ▸ hx), ⟨[], 0, (upd_ne hDC).trans (if_pos rfl), rfl⟩,
      comp_frame O hok F₁ (if_pos rfl) ⟨es, ep, dC, kC⟩ fun x o e => (kk x (ne_of Dfresh e) (ne_of Cfresh e)).trans e⟩
  refine (fun loop => codeAny_compStart_list loop (again_ok C₃ st.it loop)) (comp_loop S T (compEnv_ok O hok) a fix M.tup (fun c' acc hs' Ke s' l hE C' hk => ?_) st (Nat.le_trans (Nat.le_of_eq (Nat.zero_add _)) hlen) h₁)
  exact comp_end fix hE C' hk fun c'' V hs'' oC le hN C'' R hk => k c'' V _ hs'' s' _ oC ((l₁.trans l).trans le) fix.kc hN C'' R hk
theorem scomp_ok (B : BaseOK Z Fg) (S : SE Z d rec) (T : ST Z d rec) : SComp Z d rec := by
  intro env sc m elt t it ifs scope pos loc hs K Kp c s A Q E O a FI C hok hset h P
  rw [eval_ListComp]
  show wpAny _ _ (comprehension (.ListComp elt [⟨t, it, ifs, 0⟩] scope pos) scope env (firstIterPos [⟨t, it, ifs, 0⟩] pos) (newList []) false (eval it env)) _ _ _
  refine comp_ok B S T O a FI C hok hset h fun c' V v hs' s' CC oC l hC hN C' R hk => ?_
  obtain ⟨mm, hm⟩ := hN.ns (C'.kp CC oC (if_pos rfl))
  exact ⟨mm, hm, fun h' hsb => P c' V v hs' _ l ((C'.dropK (ia := [CC]) (tk := s'.toks) (some_one (if_pos rfl)) fun b o hb e => hsb.extBut b o (not_one hb) e).forget fun b o e =>
    (if_neg (not_mem1 (ne_of hC e))).trans ((upd_ne (ne_of hC e)).trans e)) R hk⟩
end
end Mine
set_option genSizeOf false
set_option genInjectivity false
set_option maxRecDepth 100000
namespace Mine
open PySem PySem.W PySem.Calls PyProof.Rows

/-! ## statements -/
noncomputable def PostS (Z : Stat) (K₀ : Addr → Option Obj) (env : Env) (c : Cn) (K : KS) (Q : Flow → Shared → Prop) : Prop :=
  ∀ (c' : Cn) (f : Fl) (F : Flow) (loc' : Loc) (hs' : Hs) (s' : Shared) (Kq : Addr → Option Obj), c.le c' → FrameW Z K₀ Kq c' env loc' → Core Z Kq c' hs' s' → RepF Z c' f F → K f loc' hs' → Q F s'
theorem PostS.up {Z : Stat} {K₀ : Addr → Option Obj} {env : Env} {c c' : Cn} {K : KS} {Q : Flow → Shared → Prop} (P : PostS Z K₀ env c K Q) (l : c.le c') : PostS Z K₀ env c' K Q := fun d f F loc' hs' s' Kq l' => P d f F loc' hs' s' Kq (l.trans l')
noncomputable def SS (Z : Stat) (A : Around) (env : Env) (rs : RecS) : Prop :=
  ∀ (st : Stmt) (loc : Loc) (hs : Hs) (K : KS) (K₀ Kp : Addr → Option Obj) (c : Cn) (s : Shared) (Q : Flow → Shared → Prop) (E : Value → Shared → Prop),
    FrameW Z K₀ Kp c env loc → Core Z Kp c hs s → rs st loc hs K → PostS Z K₀ env c K Q → wpAny (model Z.P Z.w) A (exec st env) Q E s
/-- a comprehension whose value goes to a name of the block -/
noncomputable def SU (Z : Stat) (d : Nat) (rec : RecE) : Prop :=
  ∀ (env : Env) (sc : Names) (m : Bool) (elt : Expr) (gens : List Comprehension) (scope : Scope) (pos : Pos) (loc : Loc) (hs : Hs) (K : KE) (K₀ Kp : Addr → Option Obj) (c : Cn) (s : Shared) (A : Around) (Q : Unit → Shared → Prop) (E : Value → Shared → Prop) (x : Str) (pos' : Pos),
    EnvOK env sc → AOK d A → FrameW Z K₀ Kp c env loc → Core Z Kp c hs s → rec sc m (.ListComp elt gens scope pos) loc hs K → storable (sLook x sc) = true →
    (∀ (c' : Cn) (V : V) (v : Value) (hs' : Hs) (s' : Shared) (Kq : Addr → Option Obj), c.le c' → FrameW Z K₀ Kq c' env (putL x V loc) → Core Z Kq c' hs' s' → K V hs' → Q () s') →
    wpAny (model Z.P Z.w) A (evalThenUse (.ListComp elt gens scope pos) env (assign (.Name x pos') env)) Q E s

section
variable {Z : Stat} {K₀ Kp Kq Kr Ks : Addr → Option Obj} {c : Cn} {hs : Hs} {s : Shared} {A : Around} {E : Value → Shared → Prop} {tk : Nat} {ia : List Addr} {g : Option (Nat × D)} {Fg : Frag} {env : Env} {sc : Names} {loc : Loc} {d : Nat} {rec : RecE} {call : CallR} {K : KS} {Q : Flow → Shared → Prop}

/-! ### a frame, while something beside it is kept -/
theorem FrameW.turn {K₁ K₂ : Addr → Option Obj} (W : FrameW Z K₁ Kp c env loc) (n : ∀ b, K₁ b = none → (Kp b).isSome = true → Kq b = Kp b ∧ K₂ b = none) (le : ∀ b o, K₂ b = some o → Kq b = some o) : FrameW Z K₂ Kq c env loc := by
  obtain ⟨⟨o, es, ep, h1, h2, h3, h4⟩, h5⟩ := W.in_
  have hL := n _ W.freeL (by rw [h1]; rfl)
  refine ⟨⟨⟨o, es, ep, hL.1.trans h1, h2, h3, h4⟩, fun x V e hx => ?_⟩, le, hL.2, fun x hx => ?_, W.apart, W.nofree⟩
  · obtain ⟨a, v, ob, f1, f2, f3, f4⟩ := h5 x V e hx
    obtain ⟨a', o', v', g1, g2, g3, g4, g5⟩ := W.cells x (cell_kind W hx)
    cases some_eq (f1.symm.trans g1)
    exact ⟨a, v, ob, f1, (n _ g4 (by rw [f2]; rfl)).1.trans f2, f3, f4⟩
  · obtain ⟨a, o, v, f1, f2, f3, f4, f5⟩ := W.cells x hx
    have q := n a f4 (by rw [f2]; rfl)
    exact ⟨a, o, v, f1, q.1.trans f2, f3, q.2, f5⟩
theorem over_out {a : Addr} (h : a ∉ ia) : over ia Ks K₀ a = K₀ a := if_neg h
theorem over_in {a : Addr} (h : a ∈ ia) : over ia Ks K₀ a = Ks a := if_pos h
theorem over_some {a : Addr} {o : Obj} {P : Prop} (e : over ia Ks K₀ a = some o) (h1 : a ∈ ia → Ks a = some o → P) (h2 : a ∉ ia → K₀ a = some o → P) : P := by
  by_cases q : a ∈ ia
  · exact h1 q ((over_in q).symm.trans e)
  · exact h2 q ((over_out q).symm.trans e)
theorem over_none {a : Addr} (h : over ia Ks K₀ a = none) (some' : ∀ x ∈ ia, (Ks x).isSome = true) : a ∉ ia ∧ K₀ a = none := by
  have q : a ∉ ia := fun q => no_some ((over_in q).symm.trans h) (some' a q)
  exact ⟨q, (over_out q).symm.trans h⟩
theorem FrameW.toOver (W : FrameW Z K₀ Kp c env loc) (same : ∀ x, x ∉ ia → Kq x = Kp x) (new : ∀ x ∈ ia, Kp x = none) : FrameW Z (over ia Kq K₀) Kq c env loc := by
  have ni : ∀ b, (Kp b).isSome = true → b ∉ ia := fun b h q => no_some (new b q) h
  exact W.turn (fun b h h' => ⟨same b (ni b h'), (over_out (ni b h')).trans h⟩) fun b o e => over_some e (fun _ e => e) fun q e => (same b q).trans (W.le b o e)
theorem FrameW.unover (W : FrameW Z (over ia Ks K₀) Kr c env loc) (h0 : ∀ x ∈ ia, K₀ x = none) (hs : ∀ x ∈ ia, (Ks x).isSome = true) : FrameW Z K₀ Kr c env loc :=
  W.turn (fun b h _ => ⟨rfl, (over_none h hs).2⟩) fun b o e => W.le b o ((over_out fun q => no2 (h0 b q) e).trans e)
theorem FrameW.ups (W : FrameW Z (over ia Ks K₀) Ks c env loc) (U : Ups ia Ks Kr) (hs : ∀ x ∈ ia, (Ks x).isSome = true) : FrameW Z (over ia Kr K₀) Kr c env loc :=
  W.turn (fun b h _ => have q := over_none h hs; ⟨U.same b q.1, (over_out q.1).trans q.2⟩) fun b o e => over_some e (fun _ e => e) fun q e => (U.same b q).trans (W.le b o ((over_out q).trans e))
theorem FrameW.drop (W : FrameW Z (over ia Ks K₀) Kr c env loc) (h0 : ∀ x ∈ ia, K₀ x = none) (hs : ∀ x ∈ ia, (Ks x).isSome = true) : FrameW Z K₀ (minus ia Kr) c env loc :=
  W.turn (fun b h _ => have q := over_none h hs; ⟨if_neg q.1, q.2⟩) fun b o e => by
    have q : b ∉ ia := fun q => no2 (h0 b q) e
    exact (show minus ia Kr b = Kr b from if_neg q).trans (W.le b o ((over_out q).trans e))
theorem over_eq (h : ∀ x ∈ ia, Kr x = Ks x) : over ia Kr K₀ = over ia Ks K₀ := by
  funext b
  by_cases q : b ∈ ia
  · rw [over_in q, over_in q]; exact h b q
  · rw [over_out q, over_out q]

/-! ### statement by statement -/
theorem sole_list {x : Str} {p : Pos} : (assignEach [.Name x p] env).map (·.2) = [assign (.Name x p) env] := rfl
theorem swaps_no {t e : Expr} {line : Nat} (h : notSC e = true) (h' : ∀ elt gens scope p, e = .ListComp elt gens scope p → ∀ x q, t ≠ .Name x q) : swapsWithSole [t] e line env = pure false := by
  unfold swapsWithSole swapsWith
  cases e with
  | ListComp elt gens scope p =>
    have h' := h' _ _ _ _ rfl
    clear h
    cases t with
    | Name x q => exact absurd rfl (h' x q)
    | _ => rfl
  | _ => first | rfl | exact ff h
theorem or_l {a b : Bool} (h : a = true) : (a || b) = true := by rw [h]; rfl
theorem fm_lt {α β : Type} {f : α → Option β} : ∀ {l : List α} {x : α}, x ∈ l → f x = none → (l.filterMap f).length < l.length
  | y :: r, x, h, e => by
    rw [List.filterMap_cons]
    cases h with
    | head => rw [e]; exact Nat.lt_succ_of_le (List.length_filterMap_le ..)
    | tail _ h =>
      have := fm_lt h e
      cases f y with
      | none => exact Nat.lt_succ_of_lt this
      | some _ => exact Nat.succ_lt_succ this
theorem ite3 {α : Type} {c1 c2 c3 : Bool} {x y : α} (h : c3 = true) : (if c1 = true then x else if c2 = true then x else if c3 = true then x else y) = x := by
  subst h
  cases c1 <;> cases c2 <;> rfl
theorem swapped_no {t e : Expr} (h : okSwap t e = true) : swappedStores [t] e env = pure none := by
  obtain ⟨h1, h⟩ := and_t h
  cases t with
  | Tuple ts k p =>
    cases e with
    | Tuple vs k' p' =>
      obtain ⟨x, hx, hn⟩ := List.any_eq_true.mp h
      unfold swappedStores
      refine ite3 (or_l (bne_iff_ne.mpr (Nat.ne_of_lt (fm_lt hx ?_))))
      clear h h1 hx
      cases x <;> first | rfl | exact absurd hn Bool.false_ne_true
    | _ => first | rfl | exact absurd h1 Bool.false_ne_true
  | _ => first | rfl | exact absurd h Bool.false_ne_true
theorem su_ok (B : BaseOK Z Fg) (S : SE Z d rec) (T : ST Z d rec) : SU Z d (stepE Z.X call rec) := by
  intro env sc m elt gens scope pos loc hs K K₀ Kp c s A Q E x pos' O a W C h hk k
  obtain ⟨⟨t, it, ifs⟩, hq, h1⟩ := optP_iff h
  obtain ⟨hok, h1⟩ := need_iff h1
  obtain ⟨hok1, hok2⟩ := and_t hok
  obtain rfl : gens = [⟨t, it, ifs, 0⟩] := genP_iff hq
  show wpAny _ A (do
    let _ ← comprehension (.ListComp elt [⟨t, it, ifs, 0⟩] scope pos) scope env (firstIterPos [⟨t, it, ifs, 0⟩] pos) (newList []) false (eval it env) (some (assign (.Name x pos') env))) Q E s
  refine wpAny_bind (wpAny_mono (Q := fun _ s' => Q () s') (comp_ok B S T O a W.in_ C hok1 hok2 h1 fun c' V v hs' s' CC oC l hC hN C' R hk' => ?_) (fun _ _ h => wpAny_pure h) fun _ _ e => e)
  have one : updK Kp CC oC CC = some oC := if_pos rfl
  have W' : FrameW Z (over [CC] (updK Kp CC oC) K₀) (updK Kp CC oC) c' env loc := (W.mono l).toOver (fun y hy => upd_ne (not_one hy)) fun y hy => by rw [List.mem_singleton.mp hy]; exact hC
  have h0 : ∀ y ∈ [CC], K₀ y = none := fun y hy => by rw [List.mem_singleton.mp hy]; exact none_of_sub W.le hC
  show wpAny _ A (assign (.Name x pos') env v) _ _ _
  rw [arm_assign_Name]
  refine wpAny_bind (wpAny_standAt (bind_ok O W' C' hk R fun Kq s₂ W₂ C₂ => ?_))
  have hq : Kq CC = some oC := W₂.le CC oC ((over_in (.head _)).trans one)
  obtain ⟨mm, hm⟩ := hN.ns (C₂.kp CC oC hq)
  exact ⟨mm, hm, fun h' hsb => k c' V v hs' _ _ l (W₂.drop h0 (some_one one)) (C₂.dropK (tk := s₂.toks) (some_one hq) fun b o hb e => hsb.extBut b o (not_one hb) e) hk'⟩

/-- a name read, before its change -/
theorem load_ok (O : EnvOK env sc) (FI : FrameIn Z Kp c env loc) {K : KE} {Q : Value → Shared → Prop} (P : Post Z Kp c K Q) (C : Core Z Kp c hs s) {x : Str} (hst : storable (sLook x sc) = true) (h : evName Z.X sc x loc hs K) : wpAny (model Z.P Z.w) A (loadName env x) Q E s := by
  obtain ⟨kk, ek, h⟩ := optP_iff h
  have hko := (kind_look O.names x).trans ek
  rcases storable_iff hst with e | e <;> rw [ek] at e <;> cases some_eq e <;> obtain ⟨V, hV, h⟩ := optP_iff h
  · obtain ⟨o, es, ep, h1, h2, h3, h4⟩ := FI.ns
    obtain ⟨v, e1, R⟩ := h4 x V hV hko
    exact wpAny_loadName_local O.kind hko ⟨o, es, ep, C.kp _ _ h1, h2, h3, fun n => rfl⟩ e1 (P.now C R h)
  · obtain ⟨a, v, o, h1, h2, h3, R⟩ := FI.cell x V hV (.inl hko)
    exact wpAny_loadName_cell O.kind hko h1 ⟨o, C.kp _ _ h2, h3⟩ (P.now C R h)
theorem augV_ok {K : KE} {Q : Value → Shared → Prop} (P : Post Z Kp c K Q) (C : Core Z Kp c hs s) {op : Operator} {V₁ V₂ : V} {v₁ v₂ : Value} (R₁ : RepV Z c V₁ v₁) (R₂ : RepV Z c V₂ v₂) (h : augV op V₁ V₂ hs K) : wpAny (model Z.P Z.w) A (inplaceOp op v₁ v₂) Q E s := by
  obtain ⟨i, e1, h⟩ := optP_iff h
  obtain ⟨j, e2, h⟩ := optP_iff h
  rw [V.int_eq e1] at R₁
  rw [V.int_eq e2] at R₂
  obtain ⟨t, rfl⟩ := R₁
  obtain ⟨u, rfl⟩ := R₂
  exact binInt_ok' P C h
theorem execs_ok {rs : RecS} (S : SS Z A env rs) : ∀ {b : List Stmt} {loc : Loc} {hs : Hs} {Kp : Addr → Option Obj} {c : Cn} {s : Shared}, FrameW Z K₀ Kp c env loc → Core Z Kp c hs s → exL rs b loc hs K → PostS Z K₀ env c K Q → wpAny (model Z.P Z.w) A (execs b env) Q E s
  | [], loc, hs, Kp, c, s, W, C, h, P => by
    rw [arm_execs_nil]
    exact wpAny_pure (P c .next .next loc hs s Kp (.refl c) W C rfl h)
  | st :: b, loc, hs, Kp, c, s, W, C, h, P => by
    rw [arm_execs_cons]
    refine wpAny_bind (S st loc hs _ K₀ Kp c s _ E W C h fun c₁ f F loc₁ hs₁ s₁ K₁ l₁ W₁ C₁ R₁ h₁ => ?_)
    cases f with
    | next =>
      cases (R₁ : F = .next)
      exact execs_ok S W₁ C₁ h₁ (P.up l₁)
    | brk =>
      cases (R₁ : F = .brk)
      exact wpAny_pure (P c₁ .brk .brk loc₁ hs₁ s₁ K₁ l₁ W₁ C₁ rfl h₁)
    | cont =>
      cases (R₁ : F = .cont)
      exact wpAny_pure (P c₁ .cont .cont loc₁ hs₁ s₁ K₁ l₁ W₁ C₁ rfl h₁)
    | ret V =>
      obtain ⟨v, rfl, R⟩ := R₁
      exact wpAny_pure (P c₁ (.ret V) (.ret v) loc₁ hs₁ s₁ K₁ l₁ W₁ C₁ ⟨v, rfl, R⟩ h₁)
end
end Mine
set_option genSizeOf false
set_option genInjectivity false
set_option maxRecDepth 100000
namespace Mine
open PySem PySem.W PySem.Calls PyProof.Rows

section
variable {Z : Stat} {K₀ Kp Kq Kr Ks : Addr → Option Obj} {c : Cn} {hs : Hs} {s : Shared} {A : Around} {E : Value → Shared → Prop} {tk : Nat} {ia : List Addr} {g : Option (Nat × D)} {Fg : Frag} {env : Env} {sc : Names} {loc : Loc} {d : Nat} {rec : RecE} {call : CallR} {K : KS} {Q : Flow → Shared → Prop} {rs : RecS}

inductive WhileInv (Z : Stat) (K₀ : Addr → Option Obj) (c : Cn) (env : Env) (H : Nat → Loc → Hs → Prop) (n : Nat) (s' : Shared) : Prop
  | mk (c' : Cn) (loc' : Loc) (hs' : Hs) (Kr : Addr → Option Obj) (l : c.le c') (W : FrameW Z K₀ Kr c' env loc') (C : Core Z Kr c' hs' s') (h : H n loc' hs') : WhileInv Z K₀ c env H n s'
inductive ForInv (Z : Stat) (K₀ : Addr → Option Obj) (c : Cn) (env : Env) (g : Option (Nat × D)) (ia : List Addr) (b : Bool) (u : Value) (H : List D → Loc → Hs → Prop) (n : Nat) (s' : Shared) : Prop
  | mk (c' : Cn) (xs : List D) (loc' : Loc) (hs' : Hs) (Kr : Addr → Option Obj) (l : c.le c') (W : FrameW Z (over ia Kr K₀) Kr c' env loc') (C : Core Z Kr c' hs' s') (I : ItSt Z Kr c' g ia b u xs) (h : H xs loc' hs') (e : n = xs.length) : ForInv Z K₀ c env g ia b u H n s'
theorem while_ok (T : ST Z d rec) (O : EnvOK env sc) (a : AOK d A) (S : SS Z A env rs) (W : FrameW Z K₀ Kp c env loc) (C : Core Z Kp c hs s) {t : Expr} {body : List Stmt} {pos : Pos} {n : Nat}
    (h : whileN (fun loc hs k => rec sc false t loc hs fun v hs => truthV v hs fun c => k c hs) (exL rs body) K n loc hs) (P : PostS Z K₀ env c K Q) : wpAny (model Z.P Z.w) A (exec (.While t body [] pos) env) Q E s := by
  refine wpAny_While (codeAny_whileLoop (WhileInv Z K₀ c env (whileN (fun loc hs k => rec sc false t loc hs fun v hs => truthV v hs fun c => k c hs) (exL rs body) K)) ?_ n ⟨c, loc, hs, Kp, .refl c, W, C, h⟩)
  clear h W C
  rintro n s' ⟨c', loc', hs', Kr, l, W, C, h⟩
  cases n with
  | zero => exact False.elim h
  | succ n =>
    refine T env sc t loc' hs' _ (fun b hs => br b (exL rs body loc' hs fun f loc hs => match f with
      | .next => whileN (fun loc hs k => rec sc false t loc hs fun v hs => truthV v hs fun c => k c hs) (exL rs body) K n loc hs
      | .cont => whileN (fun loc hs k => rec sc false t loc hs fun v hs => truthV v hs fun c => k c hs) (exL rs body) K n loc hs
      | .brk => K .next loc hs
      | .ret v => K (.ret v) loc hs) (K .next loc' hs)) Kr c' s' A _ _ O a W.in_ C h (fun v hs hv => hv) fun c₁ b hs₁ s₁ l₁ C₁ h₁ => ?_
    rcases br_iff h₁ with ⟨rfl, h₁⟩ | ⟨rfl, h₁⟩
    · rw [if_pos rfl]
      refine execs_ok S (W.mono l₁) C₁ h₁ fun c₂ f F loc₂ hs₂ s₂ K₂ l₂ W₂ C₂ R₂ h₂ => ?_
      cases f with
      | next =>
        cases (R₂ : F = .next)
        exact ⟨n, Nat.lt_succ_self n, c₂, loc₂, hs₂, K₂, (l.trans l₁).trans l₂, W₂, C₂, h₂⟩
      | brk =>
        cases (R₂ : F = .brk)
        exact P c₂ .next .next loc₂ hs₂ s₂ K₂ ((l.trans l₁).trans l₂) W₂ C₂ rfl h₂
      | cont =>
        cases (R₂ : F = .cont)
        exact ⟨n, Nat.lt_succ_self n, c₂, loc₂, hs₂, K₂, (l.trans l₁).trans l₂, W₂, C₂, h₂⟩
      | ret V =>
        obtain ⟨v, rfl, R⟩ := R₂
        exact P c₂ (.ret V) (.ret v) loc₂ hs₂ s₂ K₂ ((l.trans l₁).trans l₂) W₂ C₂ ⟨v, rfl, R⟩ h₂
    · rw [if_neg Bool.false_ne_true, arm_execs_nil]
      exact wpAny_pure (P c₁ .next .next loc' hs₁ s₁ Kr (l.trans l₁) (W.mono l₁) C₁ rfl h₁)
theorem for_ok (B : BaseOK Z Fg) (SX : SE Z d rec) (O : EnvOK env sc) (a : AOK d A) (S : SS Z A env rs) (W : FrameW Z K₀ Kp c env loc) (C : Core Z Kp c hs s) {t it : Expr} {body : List Stmt} {pos : Pos} (hset : notSet it = true)
    (h : iterE (fun e => rec sc false e loc) (enumOf Z.X sc) t it hs fun xs g hs => forL (fun d loc hs k => asg sc (rec sc false) t (.d d) loc hs k) (exL rs body) g K xs loc hs) (P : PostS Z K₀ env c K Q) :
    wpAny (model Z.P Z.w) A (exec (.For t it body [] pos) env) Q E s := by
  refine wpAny_For ?_ (folded_ok hset)
  refine wpAny_mono (iter_ok (t := t) (Q := fun u s₂ => codeAny (model Z.P Z.w) A (.forLoop t u body [] env) (fun r s' => match r with | .ok f => Q f s' | .error e => cameBackBy (model Z.P Z.w) A env E e s') s₂) B SX O a W.in_ C h fun c₁ ia Kq u s₁ b xs g hs₁ l₁ M h₁ => ?_) (fun _ _ h => h) fun _ _ h => h
  have h0 : ∀ x ∈ ia, K₀ x = none := fun x hx => none_of_sub W.le (M.new x hx)
  have W₁ : FrameW Z (over ia Kq K₀) Kq c₁ env loc := (W.mono l₁).toOver M.same M.new
  refine codeAny_forLoop_any (ForInv Z K₀ c₁ env g ia b u (forL (fun d loc hs k => asg sc (rec sc false) t (.d d) loc hs k) (exL rs body) g K)) ?_ xs.length
    ⟨c₁, xs, loc, hs₁, Kq, .refl _, W₁, M.core, M.it, h₁, rfl⟩
  clear h₁
  rintro n s' ⟨c', xs, loc', hs', Kr, l, W₂, C₂, I₂, h, rfl⟩
  have hst : stays g hs' := by
    cases xs with
    | nil => exact h.1
    | cons x r => exact h.1
  refine next_ok a.handled C₂ I₂ hst (fun hnil s₃ C₃ => ?_) (fun x r hx c₃ Kq₃ v s₃ l₃ U₃ C₃ R₃ hgo => ?_)
  · subst hnil
    show wpAny _ A (execs [] env) _ _ _
    rw [arm_execs_nil]
    exact wpAny_pure (P c' .next .next loc' hs' s₃ _ (l₁.trans l) (W₂.drop h0 I₂.some) C₃ rfl h.2)
  · subst hx
    refine hgo t _ _ M.tup fun K₄ s₄ U₄ C₄ I₄ => ?_
    have W₄ : FrameW Z (over ia K₄ K₀) K₄ c₃ env loc' := (W₂.mono l₃).ups (U₃.trans U₄) I₂.some
    refine asg_ok (V := .d x) B SX O a W₄ C₄ R₃ h.2 fun c₅ K₅ loc₅ hs₅ s₅ l₅ W₅ C₅ h₅ => ?_
    refine execs_ok S W₅ C₅ h₅ fun c₆ f F loc₆ hs₆ s₆ K₆ l₆ W₆ C₆ R₆ h₆ => ?_
    have lall := ((l.trans l₃).trans l₅).trans l₆
    have go : forL (fun d loc hs k => asg sc (rec sc false) t (.d d) loc hs k) (exL rs body) g K r loc₆ hs₆ → ∃ m, m < (x :: r).length ∧ ForInv Z K₀ c₁ env g ia b u (forL (fun d loc hs k => asg sc (rec sc false) t (.d d) loc hs k) (exL rs body) g K) m s₆ := fun h₆ => by
      have hk : ∀ y ∈ ia, K₆ y = K₄ y := fun y hy => by
        obtain ⟨o, ho⟩ := Option.isSome_iff_exists.mp (I₄.some y hy)
        rw [ho]
        exact W₆.le y o ((over_in hy).trans ho)
      refine ⟨r.length, Nat.lt_succ_self _, c₆, r, loc₆, hs₆, K₆, lall, ?_, C₆, I₄.mono (l₅.trans l₆) hk, h₆, rfl⟩
      rw [over_eq hk]
      exact W₆
    have W₇ := W₆.unover h0 I₄.some
    cases f with
    | next =>
      cases (R₆ : F = .next)
      exact go h₆
    | cont =>
      cases (R₆ : F = .cont)
      exact go h₆
    | brk =>
      cases (R₆ : F = .brk)
      exact P c₆ .next .next loc₆ hs₆ s₆ K₆ (l₁.trans lall) W₇ C₆ rfl h₆
    | ret V =>
      obtain ⟨v, rfl, R⟩ := R₆
      exact P c₆ (.ret V) (.ret v) loc₆ hs₆ s₆ K₆ (l₁.trans lall) W₇ C₆ ⟨v, rfl, R⟩ h₆
theorem interactive_no (O : EnvOK env sc) : interactive env = false := by unfold interactive; rw [O.kind]; rfl
theorem assign_star {t e : Expr} (h : okSwap t e = true) : (assignEach [t] env).map (·.2) = [assign t env] := by
  have h := (and_t h).2
  cases t <;> first | rfl | exact ff h
theorem call_drops {e : Expr} {line : Nat} (h : isCall e = true) : swapsWith e none line env = pure false := by cases e <;> first | rfl | exact ff h
theorem aug_store {i : Expr} (h : (!isSliceE i) = true) (ov iv new : Value) : augStore i ov iv new = (do holding [new, ov, iv] (setItem ov iv new); release [new, ov, iv] []; pure .next) := by
  cases i <;> first | rfl | exact ff h
theorem pure_inj {a b : Bool} (h : (pure a : Sem Bool) = pure b) : a = b := by injection h
theorem swaps_local {x : Str} {px q : Pos} {elt : Expr} {gens : List Comprehension} {scope : Scope} {line : Nat} (h : swapsWithSole [.Name x px] (.ListComp elt gens scope q) line env = pure true) : env.kindOf x = some .local := by
  have e1 : swapsWithSole [.Name x px] (.ListComp elt gens scope q) line env = pure (env.blockKind == .function && env.kindOf x == some .local && px.line == q.line
      && !(scope.names.any fun (n, k) => n == x && (k == .local || k == .cell))) := rfl
  exact eq_of_beq (and_t (and_t (and_t (pure_inj (e1.symm.trans h))).1).1).2
theorem assign_ok (B : BaseOK Z Fg) (S : SE Z d rec) (U : SU Z d rec) (O : EnvOK env sc) (a : AOK d A) (W : FrameW Z K₀ Kp c env loc) (C : Core Z Kp c hs s) {t e : Expr} {p : Pos}
    (h : need (okSwap t e) (rec sc (mutT Z.X t) e loc hs fun v hs => asg sc (rec sc false) t v loc hs fun loc hs => K .next loc hs)) (P : PostS Z K₀ env c K Q) : wpAny (model Z.P Z.w) A (exec (.Assign [t] e p) env) Q E s := by
  obtain ⟨hok, h⟩ := need_iff h
  have plain : swapsWithSole [t] e p.line env = pure false → wpAny (model Z.P Z.w) A (exec (.Assign [t] e p) env) Q E s := fun hsw => by
    refine wpAny_Assign_stores ?_ hsw (swapped_no hok)
    refine W.ev S O a C h fun c₁ V v hs₁ s₁ l₁ C₁ W₁ R₁ h₁ => ?_
    rw [assign_star hok]
    exact asg_ok B S O a W₁ C₁ R₁ h₁ fun c₂ K₂ loc₂ hs₂ s₂ l₂ W₂ C₂ h₂ => P c₂ .next .next loc₂ hs₂ s₂ K₂ (l₁.trans l₂) W₂ C₂ rfl h₂
  by_cases hcomp : ∃ elt gens scope q x px, e = .ListComp elt gens scope q ∧ t = .Name x px
  · obtain ⟨elt, gens, scope, q, x, px, rfl, rfl⟩ := hcomp
    obtain ⟨b, hb⟩ : ∃ b, swapsWithSole [.Name x px] (.ListComp elt gens scope q) p.line env = pure b := ⟨_, rfl⟩
    cases b with
    | false => exact plain hb
    | true =>
      have hst : storable (sLook x sc) = true := by rw [← kind_look O.names, swaps_local hb]; rfl
      rw [arm_exec_Assign]
      refine wpAny_bind (wpAny_standAt ?_)
      rw [hb]
      refine wpAny_bind (wpAny_pure (wpT rfl (wpAny_bind (m := evalThenUse _ _ _) ?_)))
      exact U env sc _ elt gens scope q loc hs _ K₀ Kp c s A _ E x px O a W C h hst fun c' V v hs' s' Kq l W' C' hk => wpAny_pure (P c' .next .next _ hs' s' Kq l W' C' rfl (need_iff hk).2)
  · exact plain (swaps_no (and_t hok).1 fun elt gens scope q e1 x px e2 => hcomp ⟨elt, gens, scope, q, x, px, e1, e2⟩)
theorem aug_ok (B : BaseOK Z Fg) (S : SE Z d rec) (O : EnvOK env sc) (a : AOK d A) (W : FrameW Z K₀ Kp c env loc) (C : Core Z Kp c hs s) {t e : Expr} {op : Operator} {p : Pos} (h : augS Z.X sc (rec sc false) t op e loc hs K) (P : PostS Z K₀ env c K Q) :
    wpAny (model Z.P Z.w) A (exec (.AugAssign t op e p) env) Q E s := by
  cases t with
  | Name x q =>
    obtain ⟨hst, h⟩ := need_iff h
    refine wpAny_AugAssign_Name (load_ok O W.in_ (fun c₁ V₁ v₁ hs₁ s₁ l₁ C₁ R₁ h₁ => ?_) C hst h)
    refine (W.mono l₁).ev S O a C₁ h₁ fun c₂ V₂ v₂ hs₂ s₂ l₂ C₂ W₂ R₂ h₂ => ?_
    refine augV_ok (fun c₃ V₃ v₃ hs₃ s₃ l₃ C₃ R₃ h₃ => ?_) C₂ (R₁.mono l₂) R₂ h₂
    refine store_ok O (W₂.mono l₃) C₃ hst R₃ fun K₄ s₄ W₄ C₄ => ?_
    exact P c₃ .next .next _ hs₃ s₄ K₄ ((l₁.trans l₂).trans l₃) W₄ C₄ rfl h₃
  | Attribute o x q =>
    refine wpAny_AugAssign_AttributeAny (W.ev S O a C h fun c₁ V₁ v₁ hs₁ s₁ l₁ C₁ W₁ R₁ h₁ => ?_)
    refine getAttrV_ok B.cls (fun c₂ V₂ v₂ hs₂ s₂ l₂ C₂ R₂ h₂ => ?_) C₁ R₁ h₁
    refine (W₁.mono l₂).ev S O a C₂ h₂ fun c₃ V₃ v₃ hs₃ s₃ l₃ C₃ W₃ R₃ h₃ => ?_
    refine augV_ok (fun c₄ V₄ v₄ hs₄ s₄ l₄ C₄ R₄ h₄ => ?_) C₃ (R₂.mono l₃) R₃ h₃
    refine setAttrV_ok B.cls (fun c₅ hs₅ s₅ l₅ C₅ h₅ => ?_) C₄ (((R₁.mono l₂).mono l₃).mono l₄) R₄ h₄
    exact P c₅ .next .next loc hs₅ s₅ Kp ((((l₁.trans l₂).trans l₃).trans l₄).trans l₅) ((W₃.mono l₄).mono l₅) C₅ rfl h₅
  | Subscript o i q =>
    obtain ⟨hsl, h⟩ := need_iff h
    refine wpAny_AugAssign_SubscriptAny (W.ev S O a C h fun c₁ V₁ v₁ hs₁ s₁ l₁ C₁ W₁ R₁ h₁ => W₁.ev S O a C₁ h₁ fun c₂ V₂ v₂ hs₂ s₂ l₂ C₂ W₂ R₂ h₂ => ?_) (aug_store hsl)
    refine (itemV_ok (fun c₃ V₃ v₃ hs₃ s₃ l₃ C₃ R₃ h₃ => ?_) C₂ (R₁.mono l₂) R₂ h₂).1.1
    refine (W₂.mono l₃).ev S O a C₃ h₃ fun c₄ V₄ v₄ hs₄ s₄ l₄ C₄ W₄ R₄ h₄ => ?_
    refine augV_ok (fun c₅ V₅ v₅ hs₅ s₅ l₅ C₅ R₅ h₅ => ?_) C₄ (R₃.mono l₄) R₄ h₄
    refine setItemV_ok (fun c₆ hs₆ s₆ l₆ C₆ h₆ => ?_) C₅ ((((R₁.mono l₂).mono l₃).mono l₄).mono l₅) (((R₂.mono l₃).mono l₄).mono l₅) R₅ h₅
    exact P c₆ .next .next loc hs₆ s₆ Kp (((((l₁.trans l₂).trans l₃).trans l₄).trans l₅).trans l₆) ((W₄.mono l₅).mono l₆) C₆ rfl h₆
  | _ => exact False.elim h
theorem stepS_ok (B : BaseOK Z Fg) (S : SE Z d rec) (T : ST Z d rec) (U : SU Z d rec) (O : EnvOK env sc) (a : AOK d A) {rm : Bool} (SR : SS Z A env rs) : SS Z A env (stepS Z.X sc rm (fun m e => rec sc m e) rs) := by
  intro st loc hs K K₀ Kp c s Q E W C h P
  cases st with
  | Expr e p =>
    obtain ⟨hc, h⟩ := need_iff h
    exact wpAny_Expr_any (W.ev S O a C h fun c₁ V v hs₁ s₁ l₁ C₁ W₁ R₁ h₁ => P c₁ .next .next loc hs₁ s₁ Kp l₁ W₁ C₁ rfl h₁) (interactive_no O) (call_drops hc)
  | Pass p =>
    rw [arm_exec_Pass]
    exact wpAny_bind (wpAny_standAt (wpAny_pure (P c .next .next loc hs s Kp (.refl c) W C rfl h)))
  | Break p =>
    rw [arm_exec_Break]
    exact wpAny_bind (wpAny_standAt (wpAny_pure (P c .brk .brk loc hs s Kp (.refl c) W C rfl h)))
  | Continue p =>
    rw [arm_exec_Continue]
    exact wpAny_bind (wpAny_standAt (wpAny_pure (P c .cont .cont loc hs s Kp (.refl c) W C rfl h)))
  | Return o p => cases o with
    | none => exact wpAny_Return_none (P c (.ret (.d .none)) (.ret .none) loc hs s Kp (.refl c) W C ⟨.none, rfl, rfl⟩ h)
    | some e => exact wpAny_Return_some (W.ev S O a C h fun c₁ V v hs₁ s₁ l₁ C₁ W₁ R₁ h₁ => P c₁ (.ret V) (.ret v) loc hs₁ s₁ Kp l₁ W₁ C₁ ⟨v, rfl, R₁⟩ h₁)
  | Assign ts e p => rcases ts with _ | ⟨t, _ | ⟨t2, r⟩⟩
                     · exact False.elim h
                     · exact assign_ok B S U O a W C h P
                     · exact False.elim h
  | AugAssign t op e p => exact aug_ok B S O a W C h P
  | If t b1 b2 p =>
    rw [arm_exec_If]
    refine wpAny_bind (wpAny_standAt (wpAny_bind (T env sc t loc hs _ (fun b hs => br b (exL rs b1 loc hs K) (exL rs b2 loc hs K)) Kp c s A _ E O a W.in_ C h (fun v hs hv => hv) fun c₁ b hs₁ s₁ l₁ C₁ h₁ => ?_)))
    cases b with
    | true => exact wpI rfl (execs_ok SR (W.mono l₁) C₁ h₁ (P.up l₁))
    | false => exact wpN Bool.false_ne_true (execs_ok SR (W.mono l₁) C₁ h₁ (P.up l₁))
  | While t body els p =>
    obtain ⟨he, n, h1⟩ := need_iff h
    cases els with
    | cons _ _ => exact absurd he Bool.false_ne_true
    | nil => exact while_ok T O a SR W C h1 P
  | For t it body els p =>
    obtain ⟨he, h1⟩ := need_iff h
    obtain ⟨hset, h1⟩ := need_iff h1
    cases els with
    | cons _ _ => exact absurd he Bool.false_ne_true
    | nil => exact for_ok B S O a SR W C hset h1 P
  | _ => exact False.elim h
theorem evE_ok (B : BaseOK Z Fg) (SCC : SC Z d call) (SNN : SN Z d call) : ∀ n, SE Z d (evE Z.X call n) ∧ ST Z d (evE Z.X call n) ∧ SU Z d (evE Z.X call n)
  | 0 => ⟨fun _ _ _ _ _ _ _ _ _ _ _ _ _ _ _ _ _ h _ => False.elim h, fun _ _ _ _ _ _ _ _ _ _ _ _ _ _ _ _ _ h _ _ => False.elim h, fun _ _ _ _ _ _ _ _ _ _ _ _ _ _ _ _ _ _ _ _ _ _ _ h _ _ => False.elim h⟩
  | n + 1 => by
    obtain ⟨S, T, U⟩ := evE_ok B SCC SNN n
    have S' := stepE_ok B S SCC SNN (scomp_ok B S T) T
    exact ⟨S', stepT_ok S T S', su_ok B S T⟩
theorem evS_ok (B : BaseOK Z Fg) (S : SE Z d rec) (T : ST Z d rec) (U : SU Z d rec) (O : EnvOK env sc) (a : AOK d A) {rm : Bool} : ∀ n, SS Z A env (evS Z.X sc rm (fun m e => rec sc m e) n)
  | 0 => fun _ _ _ _ _ _ _ _ _ _ _ _ h _ => False.elim h
  | n + 1 => stepS_ok B S T U O a (evS_ok B S T U O a n)
end
end Mine
set_option genSizeOf false
set_option genInjectivity false
set_option maxRecDepth 100000
namespace Mine
open PySem PySem.W PySem.Calls PyProof.Rows

/-! ## calls -/
theorem lookS_push {α : Type} {x y : Str} {a : α} {acc : List (Str × α)} (h : (acc.lookup x).isSome = true ∨ x = y) : (((y, a) :: acc).lookup x).isSome = true := by
  rw [lookS_cons]
  by_cases e : x = y
  · rw [if_pos e]; rfl
  · rw [if_neg e]; exact h.resolve_right e
theorem cellsFrom_some {x : Str} : ∀ {ns : Names} {n : Nat} {acc : List (Str × Addr)}, ((acc.lookup x).isSome = true ∨ sLook x ns = some .cell) → ((cellsFrom n ns acc).lookup x).isSome = true
  | [], n, acc, h => h.elim id fun h => none_some h
  | (y, k) :: r, n, acc, h => by
    rw [sLook_cons] at h
    by_cases e : x = y
    · rw [if_pos e] at h
      cases k with
      | cell => exact cellsFrom_some (ns := r) (n := n + 1) (.inl (lookS_push (.inr e)))
      | _ => exact cellsFrom_some (ns := r) (n := n) (.inl (h.resolve_right fun q => nomatch some_eq q))
    · rw [if_neg e] at h
      cases k with
      | cell => exact cellsFrom_some (ns := r) (n := n + 1) (h.imp_left fun h => lookS_push (.inl h))
      | _ => exact cellsFrom_some (ns := r) (n := n) h
theorem bindL_not {kd : Str → Option NameKind} {x : Str} : ∀ {ns : List Str} {ws : List Value} {m : Str → Option Value}, x ∉ ns → bindL kd (ns.zip ws) m x = m x
  | [], _, _, _ => rfl
  | _ :: _, [], _, _ => rfl
  | n :: ns, w :: ws, m, h => by
    refine (bindL_not (ns := ns) (ws := ws) fun q => h (.tail _ q)).trans ?_
    by_cases q : kd n = some .local
    · rw [if_pos q]; exact if_neg fun (e : x = n) => h (e ▸ .head _)
    · rw [if_neg q]
theorem bindC_not {kd : Str → Option NameKind} {x : Str} : ∀ {ns : List Str} {ws : List Value} {m : Str → Option Value}, x ∉ ns → bindC kd (ns.zip ws) m x = m x
  | [], _, _, _ => rfl
  | _ :: _, [], _, _ => rfl
  | n :: ns, w :: ws, m, h => by
    refine (bindC_not (ns := ns) (ws := ws) fun q => h (.tail _ q)).trans ?_
    by_cases q : kd n = some .local
    · rw [if_pos q]
    · rw [if_neg q]; exact if_neg fun (e : x = n) => h (e ▸ .head _)
theorem nodupS_not {n : Str} {ns : List Str} (h : nodupS (n :: ns) = true) : n ∉ ns := fun w => by
  have h := (and_t h).1
  rw [sMem_iff.mpr w] at h
  exact ff h
theorem bindL_is {kd : Str → Option NameKind} {x : Str} {v : Value} (hk : kd x = some .local) : ∀ {ns : List Str} {ws : List Value} {m : Str → Option Value}, nodupS ns = true → (ns.zip ws).lookup x = some v → bindL kd (ns.zip ws) m x = some v
  | [], _, _, _, h => none_some h
  | _ :: _, [], _, _, h => none_some h
  | n :: ns, w :: ws, m, hn, h => by
    have h2 := (lookS_cons (r := ns.zip ws)).symm.trans h
    by_cases q : x = n
    · rw [if_pos q] at h2
      cases q
      refine (bindL_not (nodupS_not hn)).trans ?_
      rw [if_pos hk]
      exact (if_pos rfl).trans h2
    · rw [if_neg q] at h2; exact bindL_is (ns := ns) hk (and_t hn).2 h2
theorem bindC_is {kd : Str → Option NameKind} {x : Str} {v : Value} (hk : kd x ≠ some .local) : ∀ {ns : List Str} {ws : List Value} {m : Str → Option Value}, nodupS ns = true → (ns.zip ws).lookup x = some v → bindC kd (ns.zip ws) m x = some v
  | [], _, _, _, h => none_some h
  | _ :: _, [], _, _, h => none_some h
  | n :: ns, w :: ws, m, hn, h => by
    have h2 := (lookS_cons (r := ns.zip ws)).symm.trans h
    by_cases q : x = n
    · rw [if_pos q] at h2
      cases q
      refine (bindC_not (nodupS_not hn)).trans ?_
      rw [if_neg hk]
      exact (if_pos rfl).trans h2
    · rw [if_neg q] at h2; exact bindC_is (ns := ns) hk (and_t hn).2 h2

structure FnObj (Z : Stat) (F : Fn) (fd : FuncData) (a : Addr) : Prop where
  at_ : ∃ o, Z.G₀ a = some o ∧ o.data = .func fd
  body : fd.body = .stmts F.body
  scope : fd.scope = F.scope
  glob : fd.globals = mainGlobals
  blt : fd.builtins = builtinsNs
  clo : fd.closure = []
  code : ∀ h, Sub Z.G₀ h → h.CodeRec fd.code fd.qualname
structure FnsOK (Z : Stat) : Prop where
  fn : ∀ m x a F, Z.fa m x = some a → fnOf Z.X m x = some F → ∃ fd, FnObj Z F fd a ∧ ∀ ns, argNs F.args = some ns → ∀ (s : Shared) (ws : List Value), Sub Z.G₀ s.heap → ws.length = ns.length → BindsTo s fd ⟨ws, []⟩ (ns.zip ws)

section
variable {Z : Stat} {K₀ Kp Kq Kr Ks : Addr → Option Obj} {c : Cn} {hs : Hs} {s : Shared} {A : Around} {E : Value → Shared → Prop} {tk : Nat} {ia : List Addr} {g : Option (Nat × D)} {Fg : Frag} {env : Env} {sc : Names} {loc : Loc} {d : Nat} {rec : RecE} {call : CallR} {K : KE} {R : Result → Shared → Prop}

theorem zip_loc : ∀ {ns : List Str} {Vs : List V} {ws : List Value} {loc : Loc}, zipA ns Vs = some loc → RepVs Z c Vs ws → ws.length = ns.length ∧ ∀ x V, sLook x loc = some V → ∃ v, (ns.zip ws).lookup x = some v ∧ RepV Z c V v
  | [], [], ws, loc, h, R => by
    cases h
    cases (R : ws = [])
    exact ⟨rfl, fun x V h => none_some h⟩
  | n :: ns, V :: Vs, ws, loc, h, R => by
    obtain ⟨l, e, h⟩ := optB_iff h
    cases some_eq h
    obtain ⟨v, r, rfl, R1, R2⟩ := R
    obtain ⟨i1, i2⟩ := zip_loc e R2
    refine ⟨congrArg Nat.succ i1, fun x U hx => ?_⟩
    rw [sLook_cons] at hx
    rw [show ((n :: ns).zip (v :: r)).lookup x = _ from lookS_cons]
    by_cases q : x = n
    · rw [if_pos q] at hx ⊢; exact ⟨v, rfl, some_eq hx ▸ R1⟩
    · rw [if_neg q] at hx ⊢; exact i2 x U hx
  | [], _ :: _, _, _, h, _ => none_some h
  | _ :: _, [], _, _, h, _ => none_some h
theorem noFree_look {x : Str} : ∀ {ns : Names}, noFree ns = true → sLook x ns ≠ some .free
  | [], _ => fun h => none_some h
  | (y, k) :: r, h => fun e => by
    obtain ⟨h1, h2⟩ := and_t h
    rw [sLook_cons] at e
    by_cases q : x = y
    · rw [if_pos q] at e; cases some_eq e; exact ff h1
    · rw [if_neg q] at e; exact noFree_look h2 e
theorem okParams_mem {ns : Names} : ∀ {ps : List Str}, okParams ns ps = true → ∀ x ∈ ps, storable (sLook x ns) = true
  | [], _, x, hx => nomatch hx
  | p :: ps, h, x, hx => (List.mem_cons.mp hx).elim (fun q => q ▸ (and_t h).1) fun hx => okParams_mem (and_t h).2 x hx
theorem AOK.down (a : AOK (d + 1) A) : AOK d (A.deeper env) := by
  have h1 := a.depth
  have h2 := a.units
  refine ⟨a.handled, ?_, ?_⟩
  · show A.depth + 1 + 4 * d + 4 < recursionLimit
    lia
  · show A.units + 3 + 40 * d + 40 < cLine
    lia
/-- what is asked of a def -/
structure OkF (F : Fn) (ns : List Str) : Prop where
  nodup : nodupS ns = true
  kind : F.scope.kind = .function
  co : F.scope.isCoroutine = false
  gen : F.scope.isGenerator = false
  free : noFree F.scope.names = true
  dbg : sLook "__debug__" F.scope.names = none
  params : okParams F.scope.names ns = true
theorem okFn_iff {F : Fn} {ns : List Str} (h : okFn F ns = true) : OkF F ns := by
  obtain ⟨h, h8⟩ := and_t h
  obtain ⟨h, h7⟩ := and_t h
  obtain ⟨h, _⟩ := and_t h
  obtain ⟨h, h5⟩ := and_t h
  obtain ⟨h, h4⟩ := and_t h
  obtain ⟨h, h3⟩ := and_t h
  obtain ⟨h1, h2⟩ := and_t h
  exact ⟨h1, isFn_eq h2, not_t h3, not_t h4, h5, Option.isNone_iff_eq_none.mp h7, h8⟩
/-- where the frame's own parts stand -/
noncomputable def frameAt (env : Env) : List Addr := env.locals :: env.cells.filterMap fun p => env.cells.lookup p.1
theorem in_frame {x : Str} {ca : Addr} (e : env.cells.lookup x = some ca) : ca ∈ frameAt env := .tail _ (List.mem_filterMap.mpr ⟨(x, ca), mem_of_lookup e, e⟩)
theorem frame_cases {P : Prop} {b : Addr} (h : b ∈ frameAt env) (h1 : b = env.locals → P) (h2 : ∀ x, env.cells.lookup x = some b → P) : P :=
  (List.mem_cons.mp h).elim h1 fun h => let ⟨p, _, e⟩ := List.mem_filterMap.mp h; h2 p.1 e
theorem frame_ok (C : Core Z Kp c hs s) {s₁ : Shared} {ns : List Str} {ws : List Value} {Vs : List V} (RV : RepVs Z c Vs ws) (hloc : zipA ns Vs = some loc) (hnd : nodupS ns = true) (O : EnvOK env sc) (hfr : ∀ x, env.kindOf x ≠ some .free)
    (X : InCallC s env.locals (bindL env.kindOf (ns.zip ws) fun _ => none) env.cells (bindC env.kindOf (ns.zip ws) fun _ => none) s₁) : ∃ Kq, FrameW Z Kp Kq c env loc ∧ Core Z Kq c hs s₁ := by
  obtain ⟨⟨⟨h', tk', rfl⟩, hns, hkeep, hfresh⟩, hcell, hap, habove⟩ := X
  obtain ⟨hlen, hlook⟩ := zip_loc hloc RV
  have hcells : ∀ x, env.kindOf x = some .cell → ∃ ca, env.cells.lookup x = some ca := fun x hx => Option.isSome_iff_exists.mp (O.cells x (.inl hx))
  have fresh0 : ∀ b, s.heap.objs.size ≤ b → Kp b = none := fun b hb => none_of_fresh C.kp (fresh_ge hb)
  have above : ∀ x ca, env.cells.lookup x = some ca → s.heap.objs.size ≤ ca ∧ ca ≠ env.locals := fun x ca e =>
    have hlo := habove x ca (mem_of_lookup e)
    ⟨Nat.le_trans hfresh (Nat.le_of_lt hlo), Nat.ne_of_gt hlo⟩
  obtain ⟨o', es, ep, e1, e2, e3, e4⟩ := hns
  have newAt : ∀ b ∈ frameAt env, s.heap.objs.size ≤ b := fun b hb => frame_cases hb (fun q => q ▸ hfresh) fun x e => (above x b e).1
  have hereAt : ∀ b ∈ frameAt env, (h'.get? b).isSome = true := fun b hb => frame_cases hb (fun q => by rw [q, e1]; rfl) fun x e => let ⟨o, e, _⟩ := hcell x b e; by rw [e]; rfl
  have C₁ : Core Z (heapK (frameAt env) h' Kp) c hs { s with heap := h', toks := tk' } := C.upK (upsK h' hereAt) (fun b hb => .inr (fresh_ge (newAt b hb))) (fun b o _ e => hkeep b o e) fun b hb => (heapK_in hb).symm
  refine ⟨_, ⟨⟨⟨o', es, ep, (heapK_in (.head _)).trans e1, e2, e3, fun x V e hx => ?_⟩, fun x V e hx => ?_⟩, fun b ob e => ?_, fresh0 _ hfresh, fun x hx => ?_, fun x y ca hx hy e1 e2 => name_of_addr hap (mem_of_lookup e1) (mem_of_lookup e2), hfr⟩, C₁⟩
  · obtain ⟨v, j2, j3⟩ := hlook x V e
    exact ⟨v, (e4 x).trans (bindL_is hx hnd j2), j3⟩
  · obtain ⟨v, j2, j3⟩ := hlook x V e
    have hx := hx.resolve_right (hfr x)
    obtain ⟨ca, hca⟩ := hcells x hx
    obtain ⟨o2, f1, f2⟩ := hcell x ca hca
    rw [bindC_is (by rw [hx]; exact fun q => nomatch some_eq q) hnd j2] at f2
    exact ⟨ca, v, o2, hca, (heapK_in (in_frame hca)).trans f1, f2, j3⟩
  · exact (show heapK (frameAt env) h' Kp b = Kp b from if_neg fun q => no2 (fresh0 b (newAt b q)) e).trans e
  · obtain ⟨ca, hca⟩ := hcells x hx
    obtain ⟨o2, f1, f2⟩ := hcell x ca hca
    exact ⟨ca, o2, _, hca, (heapK_in (in_frame hca)).trans f1, f2, fresh0 ca (above x ca hca).1, (above x ca hca).2⟩
theorem call_body (B : BaseOK Z Fg) (SCC : SC Z d call) (SNN : SN Z d call) (a : AOK (d + 1) A) (C : Core Z Kp c hs s) {F : Fn} {fd : FuncData} {ad : Addr} (FO : FnObj Z F fd ad) {args : Args} {ns : List Str} {ws : List Value} {Vs : List V}
    (hbind : BindsTo s fd args (ns.zip ws)) (RV : RepVs Z c Vs ws) (hloc : zipA ns Vs = some loc) (hok : okFn F ns = true) {m : Bool} {KS' : KS} (h : bodyE Z.X call m F loc hs KS')
    (k : ∀ c' f F' hs' s' loc', c.le c' → Core Z Kp c' hs' s' → RepF Z c' f F' → KS' f loc' hs' → R (.ok (.ret (match F' with | .ret v => v | _ => .none))) s') :
    codeAny (model Z.P Z.w) A (.call (.ref ad) args) R s := by
  have ok := okFn_iff hok
  obtain ⟨⟨o, hG, hdata⟩, hbody, hscope, hglob, hblt, hclo, hcode⟩ := FO
  have sub : Sub Z.G₀ s.heap := fun b o e => C.sub _ _ (C.base _ _ e)
  have hroom : A.depth < recursionLimit := Nat.lt_of_le_of_lt (Nat.le_add_right _ _) (Nat.lt_of_le_of_lt (Nat.le_add_right _ _) a.depth)
  refine codeAny_call_function hroom (sub _ _ hG) hdata (by rw [hscope]; exact ok.co) (by rw [hscope]; exact ok.gen) hbody (hcode _ sub) (hbind _ _ _ _ ?_)
  rw [hclo, hscope, hglob, hblt]
  refine wpAny_newFunctionEnv_cells ok.kind (fun p hp => ?_) fun env he s₁ X => ?_
  · have e := storable_iff (okParams_mem ok.params p.1 (List.of_mem_zip hp).1)
    rw [← sLook_eq]
    exact e.imp id fun e => ⟨e, cellsFrom_some (.inr e)⟩
  refine ⟨(B.nolim _ sub).keeps X.toInCall.keep, codeAny_func ?_⟩
  have hkk : ∀ x, env.kindOf x = sLook x F.scope.names := fun x => kind_look (by rw [he]; rfl) x
  have O : EnvOK env F.scope.names := by
    refine ⟨by rw [he]; rfl, by rw [he]; exact ok.kind, by rw [he]; rfl, by rw [he]; rfl, ok.dbg, fun x hx => ?_⟩
    rw [hkk] at hx
    rw [he]
    exact cellsFrom_some (.inr (hx.resolve_right (noFree_look ok.free)))
  obtain ⟨Kq, W, C₁⟩ := frame_ok C RV hloc ok.nodup O (fun x => by rw [hkk]; exact noFree_look ok.free) X
  obtain ⟨S, T, U⟩ := evE_ok B SCC SNN depthE
  exact execs_ok (evS_ok B S T U O a.down depthS) W C₁ h fun c₂ f F₂ loc₂ hs₂ s₂ K₂ l₂ W₂ C₂ R₂ h₂ => k c₂ f F₂ hs₂ s₂ loc₂ l₂ (C₂.forget W₂.le) R₂ h₂
end
end Mine
set_option genSizeOf false
set_option genInjectivity false
set_option maxRecDepth 100000
namespace Mine
open PySem PySem.W PySem.Calls PyProof.Rows

section
variable {Z : Stat} {K₀ Kp Kq Kr Ks : Addr → Option Obj} {c : Cn} {hs : Hs} {s : Shared} {A : Around} {E : Value → Shared → Prop} {tk : Nat} {ia : List Addr} {g : Option (Nat × D)} {Fg : Frag} {env : Env} {sc : Names} {loc : Loc} {d : Nat} {rec : RecE} {call : CallR} {K : KE} {R : Result → Shared → Prop}

noncomputable def Cn.cut (c : Cn) (n : Nat) : Cn := ⟨c.G, c.ρ.take n, c.mx⟩
theorem take_get {α : Type} {l : List α} {n m : Nat} {a : α} (h : (l.take n)[m]? = some a) : l[m]? = some a := by
  rw [List.getElem?_take] at h
  by_cases q : m < n
  · rw [if_pos q] at h; exact h
  · rw [if_neg q] at h; exact none_some h
theorem isObj.monoG {c c' : Cn} (l : c.leG c') {x : D} {o : Obj} (h : isObj Z c x o) : isObj Z c' x o := by
  obtain ⟨vs, n, e, r⟩ := h
  refine ⟨vs, n, e, ?_⟩
  cases x <;> first | exact r | exact RepDs.monoG l _ _ r
theorem Core.mxNone (C : Core Z Kp c hs s) (hm : hs.mp = none) : c.mx = none := by
  cases q : c.mx with
  | none => rfl
  | some p =>
    obtain ⟨o, _, h⟩ := C.atM (0, fun _ => False) (by rw [q, hm]; exact .head _)
    exact h.elim
theorem Core.full (C : Core Z Kp c hs s) (hm : hs.mp = none) : (ledOf Z c hs).map (·.1) = c.ρ := by
  rw [C.addr, hm, C.mxNone hm]; rfl
theorem Core.cutL (C : Core Z Kp c hs s) (n : Nat) (hm : hs.mp = none) : Core Z Kp (c.cut n) ⟨hs.hp.take n, none⟩ s := by
  have lg : c.leG (c.cut n) := ⟨fun _ _ h => h, fun _ h => h⟩
  have len : (c.ρ.take n).length = (hs.hp.take n).length := by rw [List.length_take, List.length_take, C.len]
  have eL : ledOf Z (c.cut n) ⟨hs.hp.take n, none⟩ = objLed Z (c.cut n) (c.ρ.take n) (hs.hp.take n) := by
    show mpLed Z (c.cut n) c.mx none ++ _ = _
    rw [C.mxNone hm]; rfl
  refine ⟨C.base, C.sub, C.kp, C.dis, len, fun p hp => ?_, ?_, fun p hp => ?_, C.inst, C.gens, C.os⟩
  · rw [eL] at hp
    obtain ⟨m, x, e1, e2, e3⟩ := objLed_mem hp
    obtain ⟨o, f1, f2⟩ := C.atL _ (objLed_of (take_get e1) (take_get e2))
    exact ⟨o, f1, by rw [e3]; exact isObj.monoG lg f2⟩
  · rw [eL, objLed_addr len]
    exact List.Sublist.nodup (List.take_sublist ..) C.nodupR
  · rw [eL] at hp
    obtain ⟨m, x, e1, e2, e3⟩ := objLed_mem hp
    exact C.freeR (List.mem_of_getElem? (take_get e1))
theorem Core.newM (C : Core Z Kp c hs s) (hm : hs.mp = none) {x dx : Addr} {o : Obj} {h' : Heap} (ho : ∃ sl, o = ⟨.ref Z.ca, some dx, .plain, sl⟩) (k : ∀ b o, s.heap.get? b = some o → h'.get? b = some o) (fx : s.heap.get? x = none) (fd : s.heap.get? dx = none) (hne : dx ≠ x)
    (ex : h'.get? x = some o) (ed : h'.get? dx = some (dictOf [] 0)) : ∃ c', c.le c' ∧ c'.mx = some (x, dx) ∧ Core Z Kp c' ⟨hs.hp, some []⟩ { s with heap := h', toks := tk } := by
  have l : c.le ⟨(c.addG x o).G, c.ρ, some (x, dx)⟩ := ⟨(Cn.addG_le (none_of_fresh C.sub fx)).g, fun _ _ h => h, fun p h => no2 (C.mxNone hm) h⟩
  refine ⟨_, l, rfl, fun b o' e => l.g b o' (C.base b o' e), fun b o' e => upd_some e (fun q r => q ▸ r ▸ ex) fun _ e => k b o' (C.sub b o' e), fun b o' e => k b o' (C.kp b o' e), fun b o' e => (upd_ne (ne_of fx (C.kp b o' e))).trans (C.dis b o' e), C.len, ?_, ?_, fun p hp => ?_, fun q dd e => ?_, C.gens, C.os⟩
  · refine Led.at_append (fun p hp => ?_) (objLed_at l (fun a _ o e => k a o e) C.atL)
    rw [List.mem_singleton.mp hp]
    exact ⟨_, ed, [], 0, rfl, .nil⟩
  · show (dx :: (objLed Z _ c.ρ hs.hp).map (·.1)).Nodup
    rw [objLed_addr C.len]
    refine List.nodup_cons.mpr ⟨fun q => ?_, C.nodupR⟩
    rw [← C.full hm] at q
    obtain ⟨p, hp, e⟩ := List.mem_map.mp q
    exact C.notIn fd hp e
  · rcases List.mem_append.mp hp with hp | hp
    · rw [List.mem_singleton.mp hp]
      exact ⟨(upd_ne hne).trans (none_of_fresh C.sub fd), none_of_fresh C.kp fd⟩
    · obtain ⟨m, y, e1, e2, e3⟩ := objLed_mem hp
      have q := C.freeR (List.mem_of_getElem? e1)
      obtain ⟨_, _, _, e, _⟩ := C.locAt e1
      exact ⟨(upd_ne (ne_of fx e)).trans q.1, q.2⟩
  · cases some_eq e
    obtain ⟨sl, rfl⟩ := ho
    exact ⟨sl, if_pos rfl⟩

structure InitOK (Z : Stat) (Fg : Frag) : Prop where
  init : ∃ fI, Z.fa true "__init__" = some fI ∧ findIn Fg (.ref Z.ca) "__init__" = some (some (.ref fI)) ∧ typeIn Fg (.ref fI) = some (.type "function") ∧
    ∀ F, fnOf Z.X true "__init__" = some F → ∃ fd, FnObj Z F fd fI ∧ ∀ self as, argNs F.args = some (self :: as) → ∀ (s : Shared) (x : Value) (ws : List Value), Sub Z.G₀ s.heap → ws.length = as.length → BindsTo s fd ⟨[x], as.zip ws⟩ ((self :: as).zip (x :: ws))
theorem sameNs_eq : ∀ {a b : List Str}, sameNs a b = true → a = b
  | [], [], _ => rfl
  | x :: r, y :: t, h => by
    obtain ⟨h1, h2⟩ := and_t (show (sEq x y && sameNs r t) = true from h)
    rw [sEq_iff.mp h1, sameNs_eq h2]
  | [], _ :: _, h => ff h
  | _ :: _, [], h => ff h
theorem AOK.le (a : AOK (d + 1) A) : AOK d A := by
  have h1 := a.depth
  have h2 := a.units
  exact ⟨a.handled, by lia, by lia⟩
theorem AOK.under (a : AOK (d + 1) A) (C : Addr) (vals : List Value) (kw : List (Str × Value)) : AOK d (A.under (.builtin "type.__call__" ⟨.ref C :: vals, kw⟩)) := by
  have h1 := a.depth
  have h2 := a.units
  have w : (A.under (.builtin "type.__call__" ⟨.ref C :: vals, kw⟩)).depth = A.depth + 1 := rfl
  have u : (A.under (.builtin "type.__call__" ⟨.ref C :: vals, kw⟩)).units = A.units + 1 := rfl
  exact ⟨a.handled, by lia, by lia⟩
noncomputable def outV (F : Flow) : Value := match F with
  | .ret v => v
  | _ => .none
theorem retOf {c : Cn} {f : Fl} {F : Flow} (h : RepF Z c f F) : RepV Z c (retV f) (outV F) := by
  cases f with
  | ret V => exact let ⟨v, e, r⟩ := h; e ▸ r
  | next => cases (h : F = .next); exact rfl
  | brk => cases (h : F = .brk); exact rfl
  | cont => cases (h : F = .cont); exact rfl
theorem retC_ok {cu : Bool} {c' : Cn} {V : V} {v : Value} {hs' : Hs} {s' : Shared} {Q : Value → Shared → Prop} (P : Post Z Kp c K Q) (l : c.le c') (C₀ : c.ρ.length = hs.hp.length) (C : Core Z Kp c' hs' s') (r : RepV Z c' V v) (h : retC cu hs.hp.length V hs' K) : Q v s' := by
  cases cu with
  | false => exact P c' V v hs' s' l C r h
  | true =>
    obtain ⟨x, ex, h⟩ := optP_iff h
    obtain ⟨hm, h⟩ := need_iff h
    rw [V.d_eq ex] at r
    refine P (c'.cut hs.hp.length) (.d x) v _ s' ⟨l.g, fun n a e => ?_, l.mx⟩ (C.cutL _ (Option.isNone_iff_eq_none.mp hm)) (RepD.monoG (c := c') (c' := c'.cut hs.hp.length) ⟨fun _ _ h => h, fun _ h => h⟩ x v r) h
    exact (List.getElem?_take_of_lt (C₀ ▸ (List.getElem?_eq_some_iff.mp e).1)).trans (l.ρ n a e)
inductive NewIs (X : PX) (call : CallR) (f : V) (ns : Option (List Str)) (vs : List V) (hs : Hs) (K : KE) : Prop
  | mk (F : Fn) (self : Str) (as : List Str) (e : f = .d .cls) (hm : hs.mp = none) (hF : fnOf X true "__init__" = some F) (hA : argNs F.args = some (self :: as)) (hn : ns = some as)
      (h : call false true "__init__" (.d .mpu :: vs) ⟨hs.hp, some []⟩ fun r hs => need r.isNone (K (.d .mpu) hs)) : NewIs X call f ns vs hs K
theorem newV_iff {X : PX} {f : V} {ns : Option (List Str)} {vs : List V} (h : newV X call f ns vs hs K) : NewIs X call f ns vs hs K := by
  obtain ⟨e, h⟩ := need_iff h
  obtain ⟨F, hF, h⟩ := optP_iff h
  obtain ⟨as, hA, h⟩ := optP_iff h
  obtain ⟨ns', hn, h⟩ := optP_iff h
  obtain ⟨hi, hc⟩ := need_iff h
  clear h
  cases as with
  | nil => exact ff hi
  | cons self as => exact ⟨F, self, as, V.isCls_eq (and_t e).1, Option.isNone_iff_eq_none.mp (and_t e).2, hF, hA, by rw [hn, sameNs_eq (show sameNs as ns' = true from hi)], hc⟩
theorem callN_body (B : BaseOK Z Fg) {n : Nat} (SCC : SC Z (2 * n) (callN Z.X n)) (SNN : SN Z (2 * n) (callN Z.X n)) {m isM : Bool} {name : Str} {vs : List V} {Q : Value → Shared → Prop} {ws : List Value} {ad : Addr} {F : Fn} {fd : FuncData} {args : Args}
    (a : AOK (2 * n + 1) A) (C : Core Z Kp c hs s) (RV : RepVs Z c vs ws) (hF : fnOf Z.X isM name = some F) (FOb : FnObj Z F fd ad) (hb : ∀ ns, argNs F.args = some ns → ws.length = ns.length → BindsTo s fd args (ns.zip ws)) (h : callN Z.X (n + 1) m isM name vs hs K) (P : Post Z Kp c K Q)
    (hR : ∀ v s', Q v s' → R (.ok (.ret v)) s') : codeAny (model Z.P Z.w) A (.call (.ref ad) args) R s := by
  obtain ⟨F', hF', h⟩ := optP_iff h
  cases some_eq (hF.symm.trans hF')
  obtain ⟨ns, hns, h⟩ := optP_iff h
  obtain ⟨loc, hloc, h⟩ := optP_iff h
  obtain ⟨hok, h⟩ := need_iff h
  exact call_body B SCC SNN a C FOb (hb ns hns (zip_loc hloc RV).1) RV hloc hok h fun c' f F' hs' s' loc' l C' RF hk => hR _ _ (retC_ok P l C.len C' (retOf RF) hk)
theorem callN_ok (B : BaseOK Z Fg) (FO : FnsOK Z) (IO : InitOK Z Fg) : ∀ n, SC Z (2 * n) (callN Z.X n) ∧ SN Z (2 * n) (callN Z.X n)
  | 0 => ⟨fun m isM name vs hs K Kp c s A Q E ws ad _ _ _ _ h _ => False.elim h, fun f ns vs hs K Kp c s A Q E ws v _ _ _ _ h _ => let ⟨_, _, _, _, _, _, _, _, h⟩ := newV_iff h; False.elim h⟩
  | n + 1 => by
    obtain ⟨SCC, SNN⟩ := callN_ok B FO IO n
    refine ⟨fun m isM name vs hs K Kp c s A Q E ws ad a C RV hfa h P => ?_, fun f ns vs hs K Kp c s A Q E ws v a C Rf RV h P => ?_⟩
    · obtain ⟨F, hF, _⟩ := optP_iff h
      obtain ⟨fd, FOb, hb⟩ := FO.fn isM name ad F hfa hF
      exact callN_body B SCC SNN (a.le) C RV hF FOb (fun ns hns hl => hb ns hns s ws (fun b o e => C.sub _ _ (C.base _ _ e)) hl) h P fun v s' q => q
    · obtain ⟨F, self, as, ef, hm, hF, hA, hn, h2⟩ := newV_iff h
      cases some_eq hn
      have a : AOK (2 * n + 1 + 1) A := a
      rw [ef] at Rf
      cases (Rf : v = .ref Z.ca)
      obtain ⟨fI, hfa, hfind, htype, hI⟩ := IO.init
      obtain ⟨fd, FOb, hb⟩ := hI F hF
      refine wpAny_call ?_
      have X := B.cls.here C
      obtain ⟨hp, gg, dd, tt, oo⟩ := s
      refine make_core (makes_of X B.cls.makes) (looks_findIn X hfind) (fun self => bind_fn X self htype) (.inl rfl) ?_
      have k : ∀ b o, hp.get? b = some o → ((hp.push emptyDict).push (instObj Z.ca hp.objs.size)).get? b = some o := fun b o e => Heap.get?_push_of_some _ (Heap.get?_push_of_some _ e)
      have hx : ((hp.push emptyDict).push (instObj Z.ca hp.objs.size)).get? (hp.objs.size + 1) = some (instObj Z.ca hp.objs.size) := by heap_get
      have hd : ((hp.push emptyDict).push (instObj Z.ca hp.objs.size)).get? hp.objs.size = some (dictOf [] 0) := by heap_get
      obtain ⟨c', l, hmx, C'⟩ := C.newM (tk := tt) hm (x := hp.objs.size + 1) (dx := hp.objs.size) ⟨_, rfl⟩ k (fresh_ge (Nat.le_succ _)) (fresh_ge (Nat.le_refl _)) (Nat.ne_of_lt (Nat.lt_succ_self _)) hx hd
      have RV' : RepVs Z c' (.d .mpu :: vs) (.ref (hp.objs.size + 1) :: ws) := ⟨_, _, rfl, ⟨_, _, rfl, hmx⟩, RV.mono l⟩
      refine callN_body B SCC SNN (Q := fun v s' => v = .none ∧ Q (.ref (hp.objs.size + 1)) s') (a.under _ _ _) C' RV' hF FOb (fun ns hns hl => ?_) h2 (fun c'' V v hs'' s'' l'' C'' RV'' hk => ?_) fun v s' q => q
      · rw [hA] at hns
        cases some_eq hns
        exact hb self _ hA _ _ ws (fun b o e => C'.sub _ _ (C'.base _ _ e)) (Nat.succ.inj hl)
      · obtain ⟨hv, hk⟩ := need_iff hk
        rw [V.isNone_eq hv] at RV''
        exact ⟨RV'', P c'' (.d .mpu) _ hs'' s'' (l.trans l'') C'' ⟨_, _, rfl, l''.mx _ hmx⟩ hk⟩
end
end Mine
set_option genSizeOf false
set_option genInjectivity false
set_option maxRecDepth 100000
namespace Mine
open PySem PySem.W PySem.Calls PyProof.Rows

/-! ## the ground: what stands when the law is called -/
noncomputable def heapF (h : Heap) : Frag := (List.range h.objs.size).filterMap fun a => (h.get? a).map fun o => (a, o)
theorem look_fm (h : Heap) (a : Addr) : ∀ l : List Nat, a ∈ l ∨ h.get? a = none → (l.filterMap fun a => (h.get? a).map fun o => (a, o)).lookup a = h.get? a
  | [], hh => (hh.resolve_left (nomatch ·)).symm
  | b :: r, hh => by
    rw [List.filterMap_cons]
    cases q : h.get? b with
    | none => exact look_fm h a r (hh.elim (fun m => (List.mem_cons.mp m).elim (fun e => .inr (e ▸ q)) .inl) .inr)
    | some o =>
      show ((b, o) :: _).lookup a = _
      rw [List.lookup_cons]
      by_cases e : a = b
      · rw [e, beq_self_eq_true, q]
      · rw [beq_false_of_ne e]; exact look_fm h a r (hh.imp_left fun m => (List.mem_cons.mp m).resolve_left e)
theorem heapF_look (h : Heap) (a : Addr) : (heapF h).lookup a = h.get? a := look_fm h a _ (by
  by_cases q : a < h.objs.size
  · exact .inl (List.mem_range.mpr q)
  · exact .inr (fresh_ge (Nat.not_lt.mp q)))

noncomputable def isFnSt : Option Stmt → Bool
  | some (.FunctionDef ..) => true
  | _ => false
noncomputable def PX.part (X : PX) (isM : Bool) : List Stmt := match isM with
  | true => X.cbody
  | false => X.rest
noncomputable def faOf (X : PX) (l m : List (Str × Value)) (isM : Bool) (x : Str) : Option Addr :=
  if isFnSt (findSt x (X.part isM)) then (match (match isM with | true => l | false => m).lookup x with
    | some (.ref a) => some a
    | _ => none) else none

/-- what the texts must be like, looked at once -/
noncomputable def okEltL (cbody : List Stmt) : Expr → Bool
  | .Constant (.int _) _ _ => true
  | .Name x _ => isFnSt (findSt x cbody)
  | _ => false
noncomputable def okClsSt (cbody : List Stmt) : Stmt → Bool
  | .FunctionDef _ args _ _ _ _ _ _ _ _ => nodupS (args.args.map (·.arg))
  | .Assign _ (.List es _) _ => es.all (okEltL cbody)
  | _ => true
noncomputable def okModSt : Stmt → Bool
  | .FunctionDef _ args _ _ _ _ _ _ _ _ => nodupS (args.args.map (·.arg))
  | _ => true
noncomputable def metaNames : List Str := ["__getattribute__", "__getattr__", "__setattr__"]
noncomputable def xNames : List Str := ["__dict__", "__weakref__", "__doc__"]
noncomputable def nmNames : List Str := Str.ofString "__qualname__" :: copiedNames
noncomputable def okX (p : Program) (X : PX) (names : List Str) : Bool :=
  (fldNames ++ metaNames).all (fun x => !sMem x (names ++ xNames)) && nmNames.all (fun x => (findSt x X.cbody).isNone) && X.cbody.all (okClsSt X.cbody) && X.rest.all okModSt &&
    biNames.all (fun b => !p.boundNames.contains (Str.ofString b.id))

structure Ground (p : Program) (P : Params) (X : PX) (N : Addr) (h : Heap) (l m : List (Str × Value)) (names : List Str) (pm : Value) : Prop where
  cls : ∃ t q, h.get? (N + 1) = some (clsObj X.cname X.cname N t q)
  ns : DictIs h N (l.filter (fun p => !sEq p.1 "__qualname__") ++ extraP N)
  names : names = l.map (·.1)
  st : ∀ st ∈ X.cbody, StOK 29 h pm (X.cname ++ ".") l st
  md : ∀ st ∈ X.rest, MOK h m st
  g : h.Ns mainGlobals (fun x => match m.lookup x with | some v => some v | none => m0 P x)
  b : h.Ns builtinsNs ((boot_heap P).nsMap builtinsNs)
  cst : h.get? cStatics = some ⟨.none, none, .dict #[] 0, #[]⟩
  look : m.lookup X.cname = some (.ref (N + 1))
  bound : ∀ x ∈ m.map (·.1), p.boundNames.contains x = true

inductive FnSt (x : Str) (st : Stmt) : Prop
  | mk (args : Arguments) (body : List Stmt) (deco : List Expr) (ret : Option Expr) (tp : List TypeParam) (scope : Scope) (ts : Option Scope) (bind : Str) (pos : Pos) (e : st = .FunctionDef x args body deco ret tp scope ts bind pos) : FnSt x st
inductive AsSt (x : Str) (st : Stmt) : Prop
  | mk (p : Pos) (v : Expr) (q : Pos) (e : st = .Assign [.Name x p] v q) : AsSt x st
theorem stName_iff {x : Str} {s : Stmt} (h : stName s = some x) : FnSt x s ∨ AsSt x s := by
  cases s with
  | FunctionDef => exact .inl (some_eq h ▸ ⟨_, _, _, _, _, _, _, _, _, rfl⟩)
  | Assign ts v q =>
    obtain ⟨t, e, h⟩ := optB_iff h
    obtain ⟨p, e'⟩ := nameP1_eq h
    exact .inr (one_eq e ▸ e' ▸ ⟨p, v, q, rfl⟩)
  | _ => exact none_some h
theorem isAt_eq {x : Str} {o : Option Str} (h : isAt x o = true) : o = some x := by
  cases o with
  | none => exact ff h
  | some y => rw [sEq_iff.mp h]
theorem findSt_spec {x : Str} {st : Stmt} : ∀ {b : List Stmt}, findSt x b = some st → st ∈ b ∧ (FnSt x st ∨ AsSt x st)
  | [], h => none_some h
  | s :: r, h => by
    have e : findSt x (s :: r) = match isAt x (stName s) with
      | true => some s
      | false => findSt x r := rfl
    rw [e] at h
    cases q : isAt x (stName s) with
    | true => rw [q] at h; exact some_eq h ▸ ⟨.head _, stName_iff (isAt_eq q)⟩
    | false => rw [q] at h; exact ⟨.tail _ (findSt_spec (b := r) h).1, (findSt_spec (b := r) h).2⟩

theorem isFnSt_iff {x : Str} {b : List Stmt} (h : isFnSt (findSt x b) = true) : ∃ st, findSt x b = some st ∧ FnSt x st := by
  cases q : findSt x b with
  | none => rw [q] at h; exact ff h
  | some st =>
    rcases (findSt_spec q).2 with f | ⟨_, _, _, e⟩
    · exact ⟨st, rfl, f⟩
    · rw [q, e] at h; exact ff h
section
variable {p : Program} {w : World} {X : PX} {N : Addr} {s : Shared} {l m : List (Str × Value)} {names : List Str} {pm : Value}

noncomputable def statOf (p : Program) (w : World) (X : PX) (N : Addr) (s : Shared) (l m : List (Str × Value)) : Stat := ⟨p, w, X, fun b => s.heap.get? b, faOf X l m, N + 1, s.os⟩

theorem lookF {a : Addr} {o : Obj} (e : s.heap.get? a = some o) : (heapF s.heap).lookup a = some o := (heapF_look _ _).trans e
theorem Ground.own (G : Ground p w.params X N s.heap l m names pm) (x : Str) : ownIn (heapF s.heap) x (.ref (N + 1)) = some ((l.filter (fun p => !sEq p.1 "__qualname__") ++ extraP N).lookup x) := by
  obtain ⟨t, q, e⟩ := G.cls
  obtain ⟨es, n, e2, he⟩ := G.ns
  have h1 : ownIn (heapF s.heap) x (.ref (N + 1)) = nsIn (heapF s.heap) N x := by
    unfold ownIn
    dsimp only
    rw [lookF e]
    rfl
  rw [h1]
  unfold nsIn
  rw [lookF e2]
  dsimp only
  have hf := he.find (x := x)
  have hr : es.toList.any (·.refKey) = false := by
    have : ∀ (es : List DictEntry) (L : List (Str × Value)), Ents es L → es.any (·.refKey) = false := by
      intro es L h
      induction h with
      | nil => rfl
      | cons a b r ih => rw [List.any_cons, ih, Bool.or_false]; unfold DictEntry.refKey; rw [a]
    exact this _ _ he
  rw [hr]
  rw [← hf]
  cases es.toList.find? (fun e => e.key.isStr x) <;> rfl
theorem Ground.find (G : Ground p w.params X N s.heap l m names pm) (x : Str) : findIn (heapF s.heap) (.ref (N + 1)) x = match (l.filter (fun p => !sEq p.1 "__qualname__") ++ extraP N).lookup x with
    | some v => some (some v)
    | none => alongIn (heapF s.heap) x [.type "object"] := by
  obtain ⟨t, q, e⟩ := G.cls
  unfold findIn
  dsimp only
  rw [lookF e]
  show alongIn (heapF s.heap) x [.ref (N + 1), .type "object"] = _
  rw [alongIn, G.own x]
  cases (l.filter (fun p => !sEq p.1 "__qualname__") ++ extraP N).lookup x <;> rfl
theorem look_filter {x : Str} (hx : x ≠ ("__qualname__" : Str)) : ∀ l : List (Str × Value), (l.filter (fun p => !sEq p.1 "__qualname__")).lookup x = l.lookup x
  | [] => rfl
  | (y, v) :: r => by
    rw [List.filter_cons, lookS_cons]
    cases q : sEq y "__qualname__" with
    | true => exact (look_filter hx r).trans (if_neg fun e => hx (e.trans (sEq_iff.mp q))).symm
    | false =>
      show ((y, v) :: _).lookup x = _
      rw [lookS_cons, look_filter hx r]
theorem Ground.has (G : Ground p w.params X N s.heap l m names pm) {x : Str} {v : Value} (hx : x ≠ ("__qualname__" : Str)) (h : l.lookup x = some v) : findIn (heapF s.heap) (.ref (N + 1)) x = some (some v) := by
  rw [G.find, List.lookup_append, look_filter hx, h]
  rfl
theorem Ground.hasnt (G : Ground p w.params X N s.heap l m names pm) {x : Str} (h : sMem x (names ++ xNames) = false) : findIn (heapF s.heap) (.ref (N + 1)) x = alongIn (heapF s.heap) x [.type "object"] := by
  have hn := sMem_false.mp h
  rw [List.mem_append, not_or] at hn
  have h1 : (l.filter (fun p => !sEq p.1 "__qualname__")).lookup x = none := by
    refine lookup_none_of fun hm => hn.1 ?_
    rw [G.names]
    obtain ⟨q, hq, e⟩ := List.mem_map.mp hm
    exact List.mem_map.mpr ⟨q, (List.mem_filter.mp hq).1, e⟩
  have h2 : (extraP N).lookup x = none := by
    refine lookup_none_of fun hm => hn.2 ?_
    exact hm
  rw [G.find, List.lookup_append, h1, h2]
  rfl
theorem okX_split (h : okX p X names = true) : (∀ x ∈ fldNames ++ metaNames, sMem x (names ++ xNames) = false) ∧ (∀ x ∈ nmNames, findSt x X.cbody = none) ∧ (∀ st ∈ X.cbody, okClsSt X.cbody st = true) ∧ (∀ st ∈ X.rest, okModSt st = true) ∧
    (∀ b ∈ biNames, p.boundNames.contains (Str.ofString b.id) = false) := by
  obtain ⟨h, h5⟩ := and_t h
  obtain ⟨h, h4⟩ := and_t h
  obtain ⟨h, h3⟩ := and_t h
  obtain ⟨h1, h2⟩ := and_t h
  exact ⟨fun x hx => not_t (List.all_eq_true.mp h1 x hx), fun x hx => Option.isNone_iff_eq_none.mp (List.all_eq_true.mp h2 x hx), List.all_eq_true.mp h3, List.all_eq_true.mp h4, fun b hb => not_t (List.all_eq_true.mp h5 b hb)⟩
theorem FnAt.obj {n₀ : Nat} {h : Heap} {a name qual params body scope pm dv dV c'} (F : FnAt n₀ h a name qual params body scope pm dv dV c') : ∃ fd, h.get? a = some { cls := .type "function", data := .func fd } := ⟨_, F.fn⟩
/-- a method's object -/
inductive FnIs (X : PX) (l m : List (Str × Value)) (h : Heap) (x : Str) (args : Arguments) (body : List Stmt) (scope : Scope) : Prop
  | mk (a : Addr) (dv : List Value) (dV : Value) (c' : Addr) (e1 : l.lookup x = some (.ref a)) (e2 : faOf X l m true x = some a) (F : FnAt 29 h a x (X.cname ++ "." ++ x) args body scope pm dv dV c') : FnIs X l m h x args body scope
inductive FnIsM (X : PX) (l m : List (Str × Value)) (h : Heap) (x : Str) (args : Arguments) (body : List Stmt) (scope : Scope) : Prop
  | mk (a : Addr) (dv : List Value) (dV : Value) (c' : Addr) (pm' : Value) (e1 : m.lookup x = some (.ref a)) (e2 : faOf X l m false x = some a) (F : FnAt 15 h a x x args body scope pm' dv dV c') : FnIsM X l m h x args body scope
theorem Ground.fn (G : Ground p w.params X N s.heap l m names pm) {x : Str} {args body deco ret tp scope ts bind pos} (hf : findSt x X.cbody = some (.FunctionDef x args body deco ret tp scope ts bind pos)) :
    FnIs (pm := pm) X l m s.heap x args body scope := by
  have hm := (findSt_spec hf).1
  have hst := G.st _ hm
  cases hst with
  | def_ hl F =>
    refine ⟨_, _, _, _, hl, ?_, F⟩
    unfold faOf PX.part
    rw [hf, hl]
    rfl
theorem Ground.fnM (G : Ground p w.params X N s.heap l m names pm) {x : Str} {args body deco ret tp scope ts bind pos} (hf : findSt x X.rest = some (.FunctionDef x args body deco ret tp scope ts bind pos)) :
    FnIsM X l m s.heap x args body scope := by
  have hm := (findSt_spec hf).1
  have hst := G.md _ hm
  cases hst with
  | def_ hn hl F =>
    refine ⟨_, _, _, _, _, hl, ?_, F⟩
    unfold faOf PX.part
    rw [hf, hl]
    rfl
theorem fn_special {f : Addr} {fd : FuncData} (e : s.heap.get? f = some { cls := .type "function", data := .func fd }) : typeIn (heapF s.heap) (.ref f) = some (.type "function") ∧
    specialIn (heapF s.heap) (.ref f) "__get__" = some (some (.builtin "function.__get__")) ∧ takesIn (heapF s.heap) (.ref f) = some false := by
  have ht : typeIn (heapF s.heap) (.ref f) = some (.type "function") := by
    unfold typeIn
    dsimp only
    rw [lookF e]; rfl
  refine ⟨ht, ?_, ?_⟩
  · unfold specialIn
    rw [ht]
    show fastLookup "function" "__get__" = _
    kernel_rfl
  · have h1 : specialIn (heapF s.heap) (.ref f) "__set__" = some none := by
      unfold specialIn
      rw [ht]
      show fastLookup "function" "__set__" = _
      kernel_rfl
    have h2 : specialIn (heapF s.heap) (.ref f) "__delete__" = some none := by
      unfold specialIn
      rw [ht]
      show fastLookup "function" "__delete__" = _
      kernel_rfl
    unfold takesIn
    rw [h1]
    dsimp only
    rw [h2]
    rfl
theorem val_special {T : String} {v : Value} (h : typeIn (heapF s.heap) v = some (.type T)) (h' : fastLookup T "__get__" = some none) : specialIn (heapF s.heap) v "__get__" = some none := by
  unfold specialIn
  rw [h]
  exact h'
end
end Mine
set_option genSizeOf false
set_option genInjectivity false
set_option maxRecDepth 100000
namespace Mine
open PySem PySem.W PySem.Calls PyProof.Rows

section
variable {p : Program} {w : World} {X : PX} {N : Addr} {s : Shared} {l m : List (Str × Value)} {names : List Str} {pm : Value}

theorem object_names : (fldNames.all fun x => (fastBuiltinOwn "object" x).isNone) = true := by kernel_rfl
theorem const_rep {Z : Stat} {c : Cn} {k : Const} {d : D} {v : Value} (h : constD k = some d) (hv : k.Val v) : RepD Z c d v := by
  cases k <;> first | exact none_some h | (cases some_eq h; exact hv)
theorem constD_notfn {k : Const} {d : D} (h : constD k = some d) : ∀ m y, d ≠ .fn m y := by
  cases k <;> first | exact none_some h | (cases some_eq h; exact fun _ _ => nofun)
theorem mkList_notfn (ds : List D) (m : Bool) (y : Str) : mkList ds ≠ .fn m y := by
  unfold mkList
  cases toInts ds <;> exact nofun
theorem intD_rep {Z : Stat} {c : Cn} {k : Const} {d : D} {v : Value} (h : intD k = some d) (hv : k.Val v) : RepD Z c d v := by
  cases k with
  | int i => exact some_eq h ▸ hv
  | _ => exact none_some h
theorem elt_rep {Z : Stat} {c : Cn} (hfa : ∀ x v, isFnSt (findSt x X.cbody) = true → l.lookup x = some v → ∃ a, v = .ref a ∧ Z.fa true x = some a) {e : Expr} {v : Value} {d : D} (ok : okEltL X.cbody e = true) (h1 : EltIs l e v) (h : eltD e = some d) : RepD Z c d v := by
  cases e with
  | Constant k a b => exact intD_rep h h1
  | Name x p => exact some_eq h ▸ hfa x v ok h1
  | _ => exact none_some h
theorem elts_rep {Z : Stat} {c : Cn} (hfa : ∀ x v, isFnSt (findSt x X.cbody) = true → l.lookup x = some v → ∃ a, v = .ref a ∧ Z.fa true x = some a) : ∀ {es : List Expr} {vs : List Value} {ds : List D}, es.all (okEltL X.cbody) = true → EltsAre l es vs → allSome (es.map eltD) = some ds → RepDs Z c ds vs
  | [], [], ds, _, _, h => some_eq h ▸ rfl
  | e :: es, v :: vs, ds, ok, ⟨h1, h2⟩, h => by
    obtain ⟨o1, o2⟩ := and_t (show (okEltL X.cbody e && es.all (okEltL X.cbody)) = true from ok)
    obtain ⟨d, e1, h⟩ := optB_iff (show (optB (eltD e) fun d => optB (allSome (es.map eltD)) fun l => some (d :: l)) = some ds from h)
    obtain ⟨l', e2, h⟩ := optB_iff h
    exact some_eq h ▸ ⟨v, vs, rfl, elt_rep hfa o1 h1 e1, elts_rep hfa o2 h2 e2⟩
  | [], _ :: _, _, _, h, _ => h.elim
  | _ :: _, [], _, _, h, _ => h.elim
theorem Ground.faM (G : Ground p w.params X N s.heap l m names pm) {x : Str} {v : Value} (h : isFnSt (findSt x X.cbody) = true) (hl : l.lookup x = some v) : ∃ a, v = .ref a ∧ faOf X l m true x = some a := by
  obtain ⟨st, q, args, body, deco, ret, tp, scope, ts, bind, pos, rfl⟩ := isFnSt_iff h
  obtain ⟨a, dv, dV, c', e1, e2, _⟩ := G.fn q
  exact ⟨a, some_eq (hl.symm.trans e1), e2⟩
inductive ClsV (X : PX) (x : Str) : D → Prop
  | fn {args : Arguments} {body : List Stmt} {deco : List Expr} {ret : Option Expr} {tp : List TypeParam} {scope : Scope} {ts : Option Scope} {bind : Str} {pos : Pos} (q : findSt x X.cbody = some (.FunctionDef x args body deco ret tp scope ts bind pos)) : ClsV X x (.fn true x)
  | const {p p₃ p₂ : Pos} {k : Const} {kk : Nat} {d : D} (q : findSt x X.cbody = some (.Assign [.Name x p] (.Constant k kk p₃) p₂)) (h : constD k = some d) : ClsV X x d
  | list {p p₃ p₂ : Pos} {es : List Expr} {ds : List D} (q : findSt x X.cbody = some (.Assign [.Name x p] (.List es p₃) p₂)) (h : allSome (es.map eltD) = some ds) : ClsV X x (mkList ds)
theorem valD_view {x : Str} {p q : Pos} {e : Expr} {d : D} (f : findSt x X.cbody = some (.Assign [.Name x p] e q)) (h : valD e = some d) : ClsV X x d := by
  cases e with
  | Constant c kk p₃ => exact .const f h
  | List es p₃ =>
    obtain ⟨l, h1, h2⟩ := optB_iff h
    exact some_eq h2 ▸ .list f h1
  | _ => exact none_some h
theorem clsD_view {x : Str} {d : D} (h : clsD X x = some d) : ClsV X x d := by
  obtain ⟨st, qq, h⟩ := optB_iff h
  rcases (findSt_spec qq).2 with ⟨args, body, deco, ret, tp, scope, ts, bind, pos, e⟩ | ⟨p1, e, p2, q⟩
  · rw [e] at qq h
    exact some_eq h ▸ .fn qq
  · rw [q] at qq h
    exact valD_view qq h
theorem const_con {k : Const} {d : D} {v : Value} (h : constD k = some d) (hv : k.Val v) : specialIn (heapF s.heap) v "__get__" = some none ∧ handedIn v = true := by
  cases k with
  | none => have hv : v = .none := hv
            subst hv
            exact ⟨val_special (s := s) (T := "NoneType") (by rfl) (by kernel_rfl), rfl⟩
  | bool b => have hv : v = .bool b := hv
              subst hv
              exact ⟨val_special (s := s) (T := "bool") (by rfl) (by kernel_rfl), rfl⟩
  | int i => obtain ⟨t, rfl⟩ : ∃ t, v = .int i t := hv
             exact ⟨val_special (s := s) (T := "int") (by rfl) (by kernel_rfl), rfl⟩
  | str x => obtain ⟨t, rfl⟩ : ∃ t, v = .str x t := hv
             exact ⟨val_special (s := s) (T := "str") (by rfl) (by kernel_rfl), rfl⟩
  | _ => exact none_some h
theorem assign_inj {x y : Str} {p q : Pos} {e e' : Expr} {r r' : Pos} (h : Stmt.Assign [.Name x p] e r = .Assign [.Name y q] e' r') : x = y ∧ e = e' := by cases h; exact ⟨rfl, rfl⟩
theorem ground_cls (G : Ground p w.params X N s.heap l m names pm) (ok : okX p X names = true) : ClsOK (statOf p w X N s l m) (heapF s.heap) := by
  obtain ⟨o1, o2, o3, o4, o5⟩ := okX_split ok
  obtain ⟨t, q, ec⟩ := G.cls
  have hcl := lookF ec
  have hn : ∀ x ∈ metaNames, findIn (heapF s.heap) (.ref (N + 1)) x = alongIn (heapF s.heap) x [.type "object"] := fun x hx => G.hasnt (o1 x (List.mem_append_right _ hx))
  have ht : typeIn (heapF s.heap) (.ref (N + 1)) = some (.type "type") := by
    unfold typeIn
    dsimp only
    rw [hcl]; rfl
  have hne : ∀ {x : Str} {st : Stmt}, findSt x X.cbody = some st → x ≠ ("__qualname__" : Str) ∧ copiedNames.contains x = false := fun {x st} h => by
    have hx : x ∉ nmNames := fun hm => by rw [o2 x hm] at h; cases h
    refine ⟨fun e => hx (by rw [e]; exact List.mem_cons_self ..), ?_⟩
    cases qq : copiedNames.contains x with
    | false => rfl
    | true => exact absurd (show x ∈ nmNames from List.mem_cons_of_mem _ (List.contains_iff_mem.mp qq)) hx
  refine ⟨fun a o e => ?_, ?_, ?_, ?_, ?_, ?_, ?_, ?_, fun x hx => ?_, fun x mm y h => ?_, fun x d h hd => ?_⟩
  · rw [heapF_look] at e; exact e
  · exact (hn _ (by decide)).trans (by kernel_rfl)
  · exact (hn _ (by decide)).trans (by kernel_rfl)
  · exact (hn _ (by decide)).trans (by kernel_rfl)
  · unfold plainOver clsIn
    show Option.any _ _ = true
    rw [show (statOf p w X N s l m).ca = N + 1 from rfl, hcl]
    rfl
  · unfold hasDictIn clsIn
    rw [show (statOf p w X N s l m).ca = N + 1 from rfl, hcl]
    rfl
  · unfold makesIn instIn specialIn
    rw [show (statOf p w X N s l m).ca = N + 1 from rfl, hcl, ht]
    show (_ && _) = true
    have h1 : (findIn (heapF s.heap) (.type "type") "__call__" == some (some (.builtin "type.__call__"))) = true := by kernel_rfl
    have h2 : (subIn (heapF s.heap) (.type "type") (.type "type") == some true) = true := by kernel_rfl
    simp only [Option.bind_some, h1, h2, Bool.and_true]
    simp [clsObj]
  · unfold keepIn specialIn
    dsimp only
    rw [show (statOf p w X N s l m).ca = N + 1 from rfl, hcl, ht]
    show ((some (Value.type "type")).bind _ == _) = true
    kernel_rfl
  · refine (G.hasnt (o1 x (List.mem_append_left _ (sMem_iff.mp hx)))).trans ?_
    have := List.all_eq_true.mp object_names x (sMem_iff.mp hx)
    unfold alongIn ownIn
    dsimp only
    rw [Option.isNone_iff_eq_none.mp this]
    rfl
  · generalize hd0 : D.fn mm y = d0 at h
    cases clsD_view h with
    | fn qq =>
      cases hd0
      obtain ⟨a, dv, dV, c', e1, e2, F⟩ := G.fn qq
      obtain ⟨fd, hfd⟩ := F.obj
      obtain ⟨s1, s2, s3⟩ := fn_special hfd
      exact ⟨a, e2, G.has (hne qq).1 e1, s1, s2, s3, (hne qq).2⟩
    | const qq hk => exact absurd hd0.symm (constD_notfn hk mm y)
    | list qq hds => exact absurd hd0.symm (mkList_notfn _ mm y)
  · cases clsD_view h with
    | fn qq => exact absurd rfl (hd true x)
    | const qq hk =>
      cases G.st _ (findSt_spec qq).1 with
      | const hl hv =>
        obtain ⟨c1, c2⟩ := const_con (s := s) hk hv
        exact ⟨_, G.has (hne qq).1 hl, const_rep (Z := statOf p w X N s l m) (c := ⟨(statOf p w X N s l m).G₀, [], none⟩) hk hv, c1, c2, (hne qq).2⟩
    | list qq hds =>
      cases G.st _ (findSt_spec qq).1 with
      | list hl ha hg hE =>
        have RR : RepDs (statOf p w X N s l m) ⟨(statOf p w X N s l m).G₀, [], none⟩ _ _ := elts_rep (X := X) (l := l) (fun x v h1 h2 => G.faM h1 h2) (o3 _ (findSt_spec qq).1) hE hds
        refine ⟨_, G.has (hne qq).1 hl, (mkList_as RR).rep (n := 0) hg, val_special (T := "list") ?_ (by kernel_rfl), rfl, (hne qq).2⟩
        unfold typeIn
        dsimp only
        rw [lookF hg]; rfl
end
end Mine
set_option genSizeOf false
set_option genInjectivity false
set_option maxRecDepth 100000
namespace Mine
open PySem PySem.W PySem.Calls PyProof.Rows
theorem look_app {α : Type} {n : Str} {w : α} {pre r : List (Str × α)} (h : pre.lookup n = none) : (pre ++ (n, w) :: r).lookup n = some w := by
  rw [List.lookup_append, h, lookS_cons, if_pos rfl]; rfl
theorem look_snoc {α : Type} {x n : Str} {w : α} {pre : List (Str × α)} (h : pre.lookup x = none) (q : x ≠ n) : (pre ++ [(n, w)]).lookup x = none := by
  rw [List.lookup_append, h, lookS_cons, if_neg q]; rfl
theorem filterMap_zip {α : Type} : ∀ {ns : List Str} {ws : List α} (pre : List (Str × α)), nodupS ns = true → ns.length = ws.length → (∀ x ∈ ns, pre.lookup x = none) → ns.filterMap (fun n => ((pre ++ ns.zip ws).lookup n).map (n, ·)) = ns.zip ws
  | [], [], _, _, _, _ => rfl
  | n :: ns, w :: ws, pre, hn, hl, hp => by
    have ih := filterMap_zip (ns := ns) (ws := ws) (pre ++ [(n, w)]) (and_t hn).2 (Nat.succ.inj hl) fun x hx => look_snoc (hp x (.tail _ hx)) fun q => nodupS_not hn (q ▸ hx)
    rw [List.append_assoc] at ih
    show (n :: ns).filterMap (fun k => ((pre ++ (n, w) :: ns.zip ws).lookup k).map (k, ·)) = (n, w) :: ns.zip ws
    rw [List.filterMap_cons, look_app (hp n (.head _))]
    exact congrArg ((n, w) :: ·) ih
theorem forIn_stay {α β : Type} {l : List α} {f : α → β → Sem (ForInStep β)} {c : β} (h : ∀ x ∈ l, f x c = pure (.yield c)) : forIn l c f = pure c := by
  induction l with
  | nil => rfl
  | cons x r ih =>
    rw [List.forIn_cons, h x (List.mem_cons_self ..)]
    exact ih fun y hy => h y (List.mem_cons_of_mem _ hy)
theorem zip_has {α : Type} {x : Str} : ∀ {ns : List Str} {ws : List α}, ns.length = ws.length → x ∈ ns → ((ns.zip ws).lookup x).isSome = true
  | n :: ns, w :: ws, hl, h => lookS_push ((Classical.em (x = n)).symm.imp_left fun e => zip_has (Nat.succ.inj hl) ((List.mem_cons.mp h).resolve_left e))
  | n :: ns, [], hl, h => nomatch hl
theorem has_not {ns : List Str} {ws : List Value} (hl : ns.length = ws.length) {x : Str} (hx : x ∈ ns) : ¬ ((ns.zip ws).lookup x).isNone = true := fun hn => no_some (Option.isNone_iff_eq_none.mp hn) (zip_has hl hx)
theorem missing_no {ns : List Str} {ws : List Value} (hl : ns.length = ws.length) (k : Nat) : (!(List.filter (fun n => ((ns.zip ws).lookup n).isNone) (List.take k ns)).isEmpty) = false := by
  rw [List.filter_eq_nil_iff.mpr fun x hx => has_not hl (List.mem_of_mem_take hx)]; rfl
theorem seqs_of {s : Shared} {M : Model} {A : Around} {E : Value → Shared → Prop} {df : Value} (hd : df = .none ∨ ∃ T o items n, df = .ref T ∧ s.heap.get? T = some o ∧ o.data = .seq items n) {Q' : Option (Array Value) → Shared → Prop} (h : ∀ dv, Q' dv s) : wpAny M A (seqItems? df) Q' E s := by
  rcases hd with rfl | ⟨T, o, items, n, rfl, h1, h2⟩
  · exact wpAny_pure (h none)
  · exact wpAny_seqItems h1 h2 (h _)
theorem binds_of {s : Shared} {fd : FuncData} {as : List Arg} {ds : List Expr} {args : Args} {ws : List Value} (hp : fd.params = ⟨[], as, none, [], [], none, ds⟩) (hd : fd.defaults = .none ∨ ∃ T o items n, fd.defaults = .ref T ∧ s.heap.get? T = some o ∧ o.data = .seq items n)
    (hn : nodupS (as.map (·.arg)) = true) (hl : ws.length = (as.map (·.arg)).length) (hpos : args.pos.length ≤ (as.map (·.arg)).length)
    (hkw : ∀ f : (Str × Value) → (List (Str × Value) × List (Str × Value)) → Sem (ForInStep (List (Str × Value) × List (Str × Value))), (∀ y sl, y.1 ∈ as.map (·.arg) → sl.lookup y.1 = none → f y (sl, []) = pure (.yield (sl ++ [y], []))) →
      forIn args.kw ((as.map (·.arg)).zip args.pos, []) f = pure ((as.map (·.arg)).zip ws, [])) : BindsTo s fd args ((as.map (·.arg)).zip ws) := by
  intro M A E Q q
  obtain ⟨nm, qn, pr, bd, sc, gl, cl, df, kd, dc, pm, an⟩ := fd
  obtain rfl : pr = ⟨[], as, none, [], [], none, ds⟩ := hp
  have fz := filterMap_zip (ns := as.map (·.arg)) (ws := ws) [] hn hl.symm (fun _ _ => rfl)
  unfold bindArgs
  refine wpAny_bind (wpEq (hkw _ fun y sl hy hs => ?_) (wpAny_pure ?_))
  · refine (if_pos ?_).trans (if_neg ?_)
    · rw [List.contains_iff_mem.mpr hy]; rfl
    · rw [hs]; exact Bool.false_ne_true
  refine wpAny_bind (seqs_of hd fun dv => ?_)
  refine wpF ?_ ?_
  · exact (congrArg (· && true) (decide_eq_false (Nat.not_lt.mpr hpos))).trans rfl
  refine wpF (missing_no hl.symm _) ?_
  refine wpAny_bind (wpEq (forIn_stay fun x hx => if_neg (has_not hl.symm (List.mem_of_mem_drop (List.of_mem_zip hx).1))) (wpAny_pure ?_))
  refine wpAny_bind (wpAny_pure ?_)
  refine wpF rfl ?_
  refine wpAny_pure ?_
  have e := (congrArg (List.filterMap fun n => ((([] : List (Str × Value)) ++ (as.map (·.arg)).zip ws).lookup n).map (n, ·)) (List.append_nil (as.map (·.arg)))).trans fz
  exact (congrArg (fun l => Q l s) e).mpr q
theorem binds_pos {s : Shared} {fd : FuncData} {as : List Arg} {ds : List Expr} {ws : List Value} (hp : fd.params = ⟨[], as, none, [], [], none, ds⟩) (hd : fd.defaults = .none ∨ ∃ T o items n, fd.defaults = .ref T ∧ s.heap.get? T = some o ∧ o.data = .seq items n)
    (hn : nodupS (as.map (·.arg)) = true) (hl : ws.length = (as.map (·.arg)).length) : BindsTo s fd ⟨ws, []⟩ ((as.map (·.arg)).zip ws) :=
  binds_of hp hd hn hl (Nat.le_of_eq hl) fun f _ => rfl
end Mine
set_option genSizeOf false
set_option genInjectivity false
set_option maxRecDepth 100000
namespace Mine
open PySem PySem.W PySem.Calls PyProof.Rows
theorem forIn_grow {ns : List Str} {f : (Str × Value) → (List (Str × Value) × List (Str × Value)) → Sem (ForInStep (List (Str × Value) × List (Str × Value)))} (hf : ∀ y sl, y.1 ∈ ns → sl.lookup y.1 = none → f y (sl, []) = pure (.yield (sl ++ [y], []))) :
    ∀ (ns₂ : List Str) (ws₂ : List Value) (sl : List (Str × Value)), (∀ z ∈ ns₂, z ∈ ns) → nodupS ns₂ = true → (∀ z ∈ ns₂, sl.lookup z = none) → forIn (ns₂.zip ws₂) (sl, []) f = pure (sl ++ ns₂.zip ws₂, [])
  | [], _, sl, _, _, _ => by
    rw [List.zip_nil_left, List.append_nil]
    rfl
  | n :: ns₂, [], sl, _, _, _ => by
    rw [List.zip_nil_right, List.append_nil]
    rfl
  | n :: ns₂, w :: ws₂, sl, hi, hn, hl => by
    have ih := forIn_grow hf ns₂ ws₂ (sl ++ [(n, w)]) (fun z hz => hi z (.tail _ hz)) (and_t hn).2 fun z hz => look_snoc (hl z (.tail _ hz)) fun q => nodupS_not hn (q ▸ hz)
    rw [List.append_assoc] at ih
    rw [List.zip_cons_cons, List.forIn_cons, hf (n, w) sl (hi n (.head _)) (hl n (.head _))]
    exact ih
theorem binds_init {s : Shared} {fd : FuncData} {as : List Arg} {ds : List Expr} {self : Str} {ns : List Str} {x : Value} {ws : List Value} (hp : fd.params = ⟨[], as, none, [], [], none, ds⟩) (has : as.map (·.arg) = self :: ns) (hd : fd.defaults = .none ∨ ∃ T o items n, fd.defaults = .ref T ∧ s.heap.get? T = some o ∧ o.data = .seq items n)
    (hn : nodupS (self :: ns) = true) (hl : ws.length = ns.length) : BindsTo s fd ⟨[x], ns.zip ws⟩ ((self :: ns).zip (x :: ws)) := by
  have := binds_of (s := s) (fd := fd) (as := as) (args := ⟨[x], ns.zip ws⟩) (ws := x :: ws) hp hd (has ▸ hn) (by rw [has, List.length_cons, List.length_cons, hl]) (by rw [has]; exact Nat.succ_le_succ (Nat.zero_le _)) (by
    rw [has]
    intro f hf
    show forIn (ns.zip ws) ((self, x) :: ns.zip [], []) f = _
    rw [List.zip_nil_right]
    refine (forIn_grow (ns := self :: ns) hf ns ws [(self, x)] (fun _ h => List.mem_cons_of_mem _ h) (and_t hn).2 fun z hz => lookS_cons.trans (if_neg fun (e : z = self) => nodupS_not hn (e ▸ hz))).trans rfl)
  rw [has] at this
  exact this
end Mine
set_option genSizeOf false
set_option genInjectivity false
set_option maxRecDepth 100000
namespace Mine
open PySem PySem.W PySem.Calls PyProof.Rows

section
variable {p : Program} {w : World} {X : PX} {N : Addr} {s : Shared} {l m : List (Str × Value)} {names : List Str} {pm : Value}

theorem reps_of {Z : Stat} {c : Cn} {f : Expr → Option D} : ∀ {es : List Expr} {vs : List Value} {ds : List D}, es.length = vs.length → (∀ (i : Nat) (e : Expr) (v : Value), es[i]? = some e → vs[i]? = some v → ∀ d, f e = some d → RepD Z c d v) → allSome (es.map f) = some ds → RepDs Z c ds vs
  | [], [], ds, _, _, h => some_eq h ▸ rfl
  | e :: es, v :: vs, ds, hl, hh, h => by
    obtain ⟨d, e1, h⟩ := optB_iff (show (optB (f e) fun d => optB (allSome (es.map f)) fun l => some (d :: l)) = some ds from h)
    obtain ⟨l', e2, h⟩ := optB_iff h
    cases some_eq h
    exact ⟨v, vs, rfl, hh 0 e v rfl rfl d e1, reps_of (Nat.succ.inj hl) (fun i e' v' h1 h2 => hh (i + 1) e' v' h1 h2) e2⟩
  | [], _ :: _, _, hl, _, _ => nomatch hl
  | _ :: _, [], _, hl, _, _ => nomatch hl
theorem repks_of {Z : Stat} {c : Cn} {f : Expr → Option D} : ∀ {es : List Expr} {kvs : List (Int × Value)} {ds : List D}, es.length = kvs.length → (∀ (i : Nat) (e : Expr) (kv : Int × Value), es[i]? = some e → kvs[i]? = some kv → ∀ d, f e = some d → RepD Z c d kv.2) → allSome (es.map f) = some ds → RepKs Z c ((kvs.map (·.1)).zip ds) kvs
  | [], [], ds, _, _, h => some_eq h ▸ rfl
  | e :: es, (k, v) :: kvs, ds, hl, hh, h => by
    obtain ⟨d, e1, h⟩ := optB_iff (show (optB (f e) fun d => optB (allSome (es.map f)) fun l => some (d :: l)) = some ds from h)
    obtain ⟨l', e2, h⟩ := optB_iff h
    cases some_eq h
    exact ⟨v, kvs, rfl, hh 0 e (k, v) rfl rfl d e1, repks_of (Nat.succ.inj hl) (fun i e' v' h1 h2 => hh (i + 1) e' v' h1 h2) e2⟩
  | [], _ :: _, _, hl, _, _ => nomatch hl
  | _ :: _, [], _, hl, _, _ => nomatch hl
theorem data_rep {Z : Stat} {c : Cn} {h : Heap} (hG : ∀ a o, h.get? a = some o → c.G a = some o) {n₀ : Nat} {e : Expr} {v : Value} (Dt : DataIs n₀ h e v) : ∀ n d, dataD n e = some d → RepD Z c d v := by
  induction Dt with
  | const hv => exact fun n d hd => by cases n <;> exact const_rep hd hv
  | list ha hg hl _ ih =>
    intro n d hd
    cases n with
    | zero => exact none_some hd
    | succ n =>
      obtain ⟨ds, hds, e⟩ := optB_iff hd
      exact some_eq e ▸ (mkList_as (reps_of (Z := Z) (c := c) hl (fun i e v h1 h2 d hd => ih i e v h1 h2 n d hd) hds)).rep (n := 0) (hG _ _ hg)
  | dict ha hg hi hk hm hl _ ih =>
    intro n d hd
    cases n with
    | zero => exact none_some hd
    | succ n =>
      obtain ⟨is, his, e⟩ := optB_iff hd
      obtain ⟨ds, hds, e⟩ := optB_iff e
      have RR := repks_of (Z := Z) (c := c) hl (fun i e v h1 h2 d hd => ih i e v h1 h2 n d hd) hds
      rw [hm, some_eq (hk.symm.trans his)] at RR
      exact some_eq e ▸ ⟨_, _, _, rfl, hG _ _ hg, hi _ _, RR⟩

theorem boot_bi (P : Params) (b : Bi) : (boot_heap P).nsMap builtinsNs (Str.ofString b.id) = some (biV b) := by cases b <;> kernel_rfl
theorem boot_m0 (P : Params) (b : Bi) : m0 P (Str.ofString b.id) = none := by cases b <;> kernel_rfl
theorem biD_spec {x : Str} {d : D} : ∀ {l : List Bi}, biD x l = some d → ∃ b ∈ l, x = Str.ofString b.id ∧ d = .bi b
  | [], h => none_some h
  | b :: r, h => by
    have e : biD x (b :: r) = if sEq x (Str.ofString b.id) = true then some (.bi b) else biD x r := rfl
    rw [e] at h
    by_cases q : sEq x (Str.ofString b.id) = true
    · rw [if_pos q] at h; exact ⟨b, .head _, sEq_iff.mp q, (some_eq h).symm⟩
    · rw [if_neg q] at h
      obtain ⟨b', h1, h2⟩ := biD_spec h
      exact ⟨b', .tail _ h1, h2⟩
inductive FaIs (b : List Stmt) (x : Str) : Prop
  | mk (args : Arguments) (body : List Stmt) (deco : List Expr) (ret : Option Expr) (tp : List TypeParam) (scope : Scope) (ts : Option Scope) (bind : Str) (pos : Pos) (e : findSt x b = some (.FunctionDef x args body deco ret tp scope ts bind pos)) : FaIs b x
theorem fa_iff {x : Str} {b : List Stmt} (h : isFnSt (findSt x b) = true) : FaIs b x :=
  let ⟨_, q, args, body, deco, ret, tp, scope, ts, bind, pos, e⟩ := isFnSt_iff h
  ⟨args, body, deco, ret, tp, scope, ts, bind, pos, e ▸ q⟩
theorem faOf_spec {isM : Bool} {x : Str} {a : Addr} (h : faOf X l m isM x = some a) : FaIs (X.part isM) x := fa_iff (if_some rfl h).1
theorem Ground.ns_of (G : Ground p w.params X N s.heap l m names pm) {x : Str} {v : Value} (h : m.lookup x = some v) {h' : Heap} (hs : ∀ b o, s.heap.get? b = some o → h'.get? b = some o) : GlobIs h' x v := by
  refine .inl ⟨_, G.g.keeps hs, ?_⟩
  rw [h]
noncomputable def GlobOK (p : Program) (w : World) (X : PX) (N : Addr) (s : Shared) (l m : List (Str × Value)) (x : Str) (d : D) : Prop :=
  ∃ v, RepD (statOf p w X N s l m) ⟨(statOf p w X N s l m).G₀, [], none⟩ d v ∧ ∀ h, Sub (statOf p w X N s l m).G₀ h → GlobIs h x v
theorem data_glob (G : Ground p w.params X N s.heap l m names pm) {x : Str} {q r : Pos} {e : Expr} {d : D} (hst : MOK s.heap m (.Assign [.Name x q] e r)) (hx : sEq x "__name__" = false) (hd : dataD 6 e = some d) : GlobOK p w X N s l m x d := by
  cases hst with
  | data hn hl D => exact ⟨_, data_rep (fun a o e => e) D 6 _ hd, fun h hs => G.ns_of hl hs⟩
  | name => exact ff (hx.symm.trans (by rfl))
theorem top_glob (G : Ground p w.params X N s.heap l m names pm) {x : Str} {d : D} (h : topD X x = some d) : GlobOK p w X N s l m x d := by
  obtain ⟨st, q, h⟩ := optB_iff h
  have hst := G.md _ (findSt_spec q).1
  rcases (findSt_spec q).2 with ⟨args, body, deco, ret, tp, scope, ts, bind, pos, e⟩ | ⟨p1, e, p2, e'⟩
  · rw [e] at q h
    obtain ⟨a, dv, dV, c', pm', e1, e2, F⟩ := G.fnM q
    exact some_eq h ▸ ⟨.ref a, ⟨a, rfl, e2⟩, fun h hs => G.ns_of e1 hs⟩
  · rw [e'] at h hst
    obtain ⟨h1, h2⟩ := noB_iff h
    exact data_glob G hst h1 h2
theorem bi_glob (G : Ground p w.params X N s.heap l m names pm) {b : Bi} (hb : p.boundNames.contains (Str.ofString b.id) = false) : GlobOK p w X N s l m (Str.ofString b.id) (.bi b) := by
  refine ⟨biV b, rfl, fun h hs => .inr ⟨_, _, G.g.keeps hs, ?_, G.b.keeps hs, boot_bi _ _⟩⟩
  rw [lookup_none_of fun hm => ff (hb.symm.trans (G.bound _ hm))]
  exact boot_m0 _ b
theorem glob_glob (G : Ground p w.params X N s.heap l m names pm) (o5 : ∀ b ∈ biNames, p.boundNames.contains (Str.ofString b.id) = false) {x : Str} {d : D} (h : glob X x = some d) : GlobOK p w X N s l m x d := by
  unfold glob at h
  by_cases q : sEq x X.cname = true
  · rw [if_pos q] at h
    exact some_eq h ▸ sEq_iff.mp q ▸ ⟨.ref (N + 1), rfl, fun h hs => G.ns_of G.look hs⟩
  · rw [if_neg q] at h
    rcases orB_iff h with ⟨d', hd, e⟩ | h
    · exact some_eq e ▸ top_glob G hd
    · obtain ⟨b, hb, rfl, rfl⟩ := biD_spec h
      exact bi_glob G (o5 b hb)
theorem ground_base (G : Ground p w.params X N s.heap l m names pm) (ok : okX p X names = true) : BaseOK (statOf p w X N s l m) (heapF s.heap) := by
  refine ⟨ground_cls G ok, fun x d h => glob_glob G (okX_split ok).2.2.2.2 h, fun h hs => ?_, fun mm x a h => ?_⟩
  · have e := hs _ _ (show (statOf p w X N s l m).G₀ cStatics = _ from G.cst)
    refine ⟨_, .of_isNs ?_, ?_⟩
    · show (h.isNs cStatics) = true
      unfold Heap.isNs; rw [e]; simp
    · show (h.nsMap cStatics) "sys.recursionlimit" = none
      unfold Heap.nsMap; rw [e]; simp [nsFind, findBy]
  · have h : faOf X l m mm x = some a := h
    obtain ⟨args, body, deco, ret, tp, scope, ts, bind, pos, hf⟩ := faOf_spec h
    cases mm with
    | true =>
      obtain ⟨a', dv, dV, c', e1, e2, F⟩ := G.fn hf
      cases some_eq (h.symm.trans e2)
      exact ⟨_, _, F.fn, rfl⟩
    | false =>
      obtain ⟨a', dv, dV, c', pm', e1, e2, F⟩ := G.fnM hf
      cases some_eq (h.symm.trans e2)
      exact ⟨_, _, F.fn, rfl⟩
theorem argNs_spec {args : Arguments} {ns : List Str} (h : argNs args = some ns) : ∃ as ds, args = ⟨[], as, none, [], [], none, ds⟩ ∧ ns = as.map (·.arg) := by
  obtain ⟨h1, h2⟩ := if_some rfl h
  exact ⟨_, _, plainArgs_spec h1, (some_eq h2).symm⟩
theorem fn_obj {Z : Stat} {n₀ : Nat} {a name qual params body scope pm dv dV c'} (hG : ∀ b o, s.heap.get? b = some o → Z.G₀ b = some o) (F : FnAt n₀ s.heap a name qual params body scope pm dv dV c') :
    FnObj Z ⟨params, body, scope⟩ (defFd name qual params body scope mainGlobals dV .none none pm (.ref c') .none) a ∧
    (∀ s' : Shared, Sub Z.G₀ s'.heap → (dV = .none ∨ ∃ T o items n, dV = .ref T ∧ s'.heap.get? T = some o ∧ o.data = .seq items n)) := by
  refine ⟨⟨⟨_, hG _ _ F.fn, rfl⟩, rfl, rfl, rfl, rfl, rfl, fun h hs => F.cr.keeps fun b o e => hs _ _ (hG _ _ e)⟩, fun s' hs => ?_⟩
  rcases F.dfl with ⟨_, e⟩ | ⟨T, _, e, _, g⟩
  · exact .inl e
  · exact .inr ⟨T, _, _, _, e, hs _ _ (hG _ _ g), rfl⟩
theorem fn_binds {F : Fn} {a : Addr} {args : Arguments} {body : List Stmt} {scope : Scope} {n₀ : Nat} {name qual : Str} {pm : Value} {dv : List Value} {dV : Value} {c' : Addr} (hnd : nodupS (args.args.map (·.arg)) = true) (hF : F = ⟨args, body, scope⟩) (Fa : FnAt n₀ s.heap a name qual args body scope pm dv dV c') :
    ∃ fd, FnObj (statOf p w X N s l m) F fd a ∧ ∀ ns, argNs F.args = some ns → ∀ (s' : Shared) (ws : List Value), Sub (statOf p w X N s l m).G₀ s'.heap → ws.length = ns.length → BindsTo s' fd ⟨ws, []⟩ (ns.zip ws) := by
  subst hF
  obtain ⟨h1, h2⟩ := fn_obj (Z := statOf p w X N s l m) (fun b o e => e) Fa
  refine ⟨_, h1, fun ns hns s' ws hs hl => ?_⟩
  obtain ⟨as, ds, e1, rfl⟩ := argNs_spec hns
  have e1 : args = _ := e1
  rw [e1] at hnd
  exact binds_pos (fd := defFd name qual args body scope mainGlobals dV .none none pm (.ref c') .none) e1 (h2 s' hs) hnd hl
noncomputable def fnSt : Option Stmt → Option Fn
  | some (.FunctionDef _ args body _ _ _ scope _ _ _) => some ⟨args, body, scope⟩
  | _ => none
theorem fnOf_is {F : Fn} {isM : Bool} {x : Str} {args body deco ret tp scope ts bind pos} (hf : findSt x (X.part isM) = some (.FunctionDef x args body deco ret tp scope ts bind pos)) (hF : fnOf X isM x = some F) : F = ⟨args, body, scope⟩ := by
  have e : fnOf X isM x = fnSt (findSt x (X.part isM)) := by cases isM <;> rfl
  rw [e, hf] at hF
  exact (some_eq hF).symm
theorem ground_fns (G : Ground p w.params X N s.heap l m names pm) (ok : okX p X names = true) : FnsOK (statOf p w X N s l m) := by
  obtain ⟨o1, o2, o3, o4, o5⟩ := okX_split ok
  refine ⟨fun mm x a F h hF => ?_⟩
  have h : faOf X l m mm x = some a := h
  obtain ⟨args, body, deco, ret, tp, scope, ts, bind, pos, hf⟩ := faOf_spec h
  have hF' := fnOf_is hf hF
  clear hF
  cases mm with
  | true =>
    obtain ⟨a', dv, dV, c', e1, e2, Fa⟩ := G.fn hf
    cases some_eq (h.symm.trans e2)
    exact fn_binds (o3 _ (findSt_spec hf).1) hF' Fa
  | false =>
    obtain ⟨a', dv, dV, c', pm', e1, e2, Fa⟩ := G.fnM hf
    cases some_eq (h.symm.trans e2)
    exact fn_binds (o4 _ (findSt_spec hf).1) hF' Fa
theorem ground_init (G : Ground p w.params X N s.heap l m names pm) (ok : okX p X names = true) (hi : isFnSt (findSt "__init__" X.cbody) = true) : InitOK (statOf p w X N s l m) (heapF s.heap) := by
  obtain ⟨o1, o2, o3, o4, o5⟩ := okX_split ok
  obtain ⟨args, body, deco, ret, tp, scope, ts, bind, pos, qq⟩ := fa_iff hi
  obtain ⟨a, dv, dV, c', e1, e2, Fa⟩ := G.fn qq
  obtain ⟨fd, hfd⟩ := Fa.obj
  obtain ⟨h1, h2⟩ := fn_obj (Z := statOf p w X N s l m) (fun b o e => e) Fa
  refine ⟨a, e2, G.has (fun e => ?_) e1, (fn_special hfd).1, fun F hF => ?_⟩
  · rw [e] at qq
    exact no2 (o2 _ (.head _)) qq
  · cases fnOf_is (isM := true) qq hF
    refine ⟨_, h1, fun self as' hns s' x ws hs hl => ?_⟩
    obtain ⟨as, ds, e3, e4⟩ := argNs_spec hns
    have e3 : args = _ := e3
    have hnd : nodupS (args.args.map (·.arg)) = true := o3 _ (findSt_spec qq).1
    rw [e3] at hnd
    exact binds_init e3 e4.symm (h2 s' hs) (e4 ▸ hnd) hl
end
end Mine
set_option genSizeOf false
set_option genInjectivity false
set_option maxRecDepth 100000
namespace Mine
open PySem PySem.W PySem.Calls PyProof.Rows

theorem caller_ok (n : Nat) (hn : n ≤ 30) : AOK (2 * n) callerA := by
  have h1 : callerA.depth ≤ 400 := by decide +kernel
  have h2 : callerA.units ≤ 400 := by decide +kernel
  refine ⟨rfl, ?_, ?_⟩
  · show callerA.depth + 4 * (2 * n) + 4 < 1000
    lia
  · show callerA.units + 40 * (2 * n) + 40 < 9900
    lia
theorem call_of {p : Program} {S : Shape} {nf : Nat} {fin : List (Str × SV)} {X : PX} {nm : Str} {n : Nat} (h1 : X.rest = S.rest) (h2 : X.cbody = S.cbody) (h3 : X.cname = S.cname) (ok : okX p X ((fin ++ statS nf).map (·.1)) = true) (hi : isFnSt (findSt "__init__" X.cbody) = true)
    (hf : isFnSt (findSt nm X.rest) = true) (hn : n ≤ 30)
    (hev : ∀ xs : List Int, xs.length ≤ 63 → callN X n false false nm [.d (.arg xs)] ⟨[], none⟩ fun v _ => v = .d (.bool true)) :
    CallOK p nm (fun w h m => TopX S nf fin w.params h m ∧ ∀ st ∈ S.rest, MOK h m st) := by
  intro w h₁ m s a o items nn xs T hX keep hg ha hc hd hx hlen
  obtain ⟨TX, MO⟩ := hX
  obtain ⟨t, l, CM, SA, ST⟩ := TX.cls
  have G : Ground p w.params X (nf + 1) s.heap l m ((fin ++ statS nf).map (·.1)) (.str S.xn t) := by
    refine ⟨?_, ?_, SA.names, fun st hst => ?_, fun st hst => ?_, T.g.keeps keep, ?_, keep _ _ (T.keep cStatics _ (by decide) (by decide) (boot_st _)), ?_, fun x hx => (T.bound x hx).1⟩
    · obtain ⟨t', q, e⟩ := CM.cls
      rw [h3]
      exact ⟨t', q, keep _ _ e⟩
    · exact CM.ns.at fun o e => keep _ _ e
    · rw [h2] at hst
      rw [h3]
      have := (ST st hst).keep (more := []) (h' := s.heap) (fun b o _ e => keep b o e)
      simpa using this
    · rw [h1] at hst
      have := (MO st hst).keep (more := []) (h' := s.heap) (fun b o _ e => keep b o e) (fun _ _ _ => rfl)
      simpa using this
    · obtain ⟨o, es, ep, e, r⟩ := Heap.Ns.of_isNs (boot_b w.params)
      exact ⟨o, es, ep, keep _ _ (T.keep builtinsNs _ (by decide) (by decide) e), r⟩
    · rw [h3]; exact TX.look
  obtain ⟨args, body, deco, ret, tp, scope, ts, bind, pos, qq⟩ := fa_iff hf
  obtain ⟨f, dv, dV, c', pm', e1, e2, F⟩ := G.fnM qq
  refine ⟨.ref f, e1, wpAny_call ?_⟩
  have C : Core (statOf p w X (nf + 1) s l m) (fun _ => none) ⟨(statOf p w X (nf + 1) s l m).G₀, [], none⟩ ⟨[], none⟩ s :=
    ⟨fun _ _ e => e, fun _ _ e => e, fun _ _ e => (nomatch e), fun _ _ e => (nomatch e), rfl, fun _ hp => (nomatch hp), List.nodup_nil, fun _ hp => (nomatch hp), fun _ _ e => (nomatch e), hg, rfl⟩
  refine (callN_ok (ground_base G ok) (ground_fns G ok) (ground_init G ok hi) n).1 false false nm [.d (.arg xs)] ⟨[], none⟩ (fun v _ => v = .d (.bool true)) (fun _ => none) _ s callerA (fun v s' => v = .bool true ∧ OldK s.heap s'.heap ∧ s'.os = s.os ∧ AllBare s'.gens) (fun _ _ => False) [.ref a] f (caller_ok n hn) C ⟨.ref a, [], rfl, ⟨a, o, items, nn, rfl, ha, hc, hd, hx⟩, rfl⟩ e2 (hev xs hlen) ?_
  intro c' V v hs' s' l' C' R hV
  rw [hV] at R
  exact ⟨R, OldK.of_keep fun b o e => C'.sub _ _ (C'.base _ _ e), C'.os, .of_eq C'.gens⟩
end Mine
set_option genSizeOf false
set_option genInjectivity false
set_option maxRecDepth 100000
namespace Mine
open PySem PySem.W PySem.Calls PyProof.Rows
set_option maxHeartbeats 0
noncomputable def PX4 : PX := ⟨S4.rest, S4.cbody, S4.cname, [Str.ofString "trees", Str.ofString "code", Str.ofString "memory"], [Str.ofString "_law_tree"]⟩
theorem okX4 : okX P4 PX4 ((F4.2 ++ statS 1426).map (·.1)) = true := by kernel_rfl
theorem hi4 : isFnSt (findSt "__init__" PX4.cbody) = true := by kernel_rfl
theorem hf4 : isFnSt (findSt nm4 PX4.rest) = true := by kernel_rfl
theorem call4 (hev : ∀ xs : List Int, xs.length ≤ 63 → callN PX4 20 false false nm4 [.d (.arg xs)] ⟨[], none⟩ fun v _ => v = .d (.bool true)) : CallOK P4 nm4 X4 :=
  call_of (S := S4) (nf := 1426) (fin := F4.2) rfl rfl rfl okX4 hi4 hf4 (by decide) hev
noncomputable def d4 : Option DefP := defIn nm4 S4.rest
theorem d4_some : d4.isSome = true := by kernel_rfl
theorem pin4 (w : World) (h : Heap) (m : List (Str × Value)) (T : TopEnd P4 w.params h m) (x : X4 w h m) : isTheDefsW P4 h nm4 := by
  have e : d4 = some (d4.get d4_some) := by simp
  refine pin_of (d := d4.get d4_some) T (x.2 _ (defIn_mem e)) ?_ ?_ ?_ ?_ <;> kernel_rfl
theorem law4 (k1 : PySem.Challenge.rw_im0096_04.row.wellSaid = true) (hev : ∀ xs : List Int, xs.length ≤ 63 → callN PX4 20 false false nm4 [.d (.arg xs)] ⟨[], none⟩ fun v _ => v = .d (.bool true)) : PySem.Challenge.rw_im0096_04.row.Holds :=
  head4 k1 pin4 (call4 hev)
end Mine
set_option genSizeOf false
set_option genInjectivity false
set_option maxRecDepth 100000
namespace Mine
open PySem PySem.W PySem.Calls PyProof.Rows Builtin

/-! ## the machine, told shortly -/
structure Cpu where
  m : List Int
  pc : Int
  sp : Int
  a : Int
  x : Int
  y : Int
  p : Int
  exc : Int
  addc : V
  cyc : Int
noncomputable def flds (ml : Nat) (st : Int) (σ : Cpu) : Loc :=
  [("name", .d (.str "6502")), ("byteMask", .d (.int 255)), ("addrMask", .d (.int 65535)), ("addrHighMask", .d (.int 65280)), ("spBase", .d (.int 256)),
   ("excycles", .d (.int σ.exc)), ("addcycles", σ.addc), ("processorCycles", .d (.int σ.cyc)), ("memory", .loc ml), ("start_pc", .d (.int st)),
   ("pc", .d (.int σ.pc)), ("sp", .d (.int σ.sp)), ("a", .d (.int σ.a)), ("x", .d (.int σ.x)), ("y", .d (.int σ.y)), ("p", .d (.int σ.p))]
noncomputable abbrev CK := Cpu → Prop
noncomputable abbrev Ad := Cpu → (Int → Prop) → Prop
noncomputable abbrev Op := Cpu → CK → Prop
noncomputable def rd (m : List Int) (i : Int) (k : Int → Prop) : Prop := at' i m.length fun n => k (m.getD n 0)
noncomputable def wr (σ : Cpu) (i v : Int) (k : CK) : Prop := at' i σ.m.length fun n => k { σ with m := σ.m.set n v }
noncomputable def shl (a b : Int) (k : Int → Prop) : Prop := (0 ≤ b ∧ b ≤ 1000 ∧ a.natAbs < 2 ^ 62) ∧ k (a * 2 ^ b.toNat)
noncomputable def shr (a b : Int) (k : Int → Prop) : Prop := 0 ≤ b ∧ k (a.fdiv (2 ^ b.toNat))
noncomputable def ok1 (i : Int) (n : Nat) (P : Prop) : Prop := small i ∧ 0 ≤ idx i n ∧ idx i n < n ∧ P

/-! ### where an octet stands -/
noncomputable def immA : Ad := fun σ k => k σ.pc
noncomputable def zpA : Ad := fun σ k => rd σ.m σ.pc k
noncomputable def zpxA : Ad := fun σ k => rd σ.m σ.pc fun v => k (bitAnd 255 (σ.x + v))
noncomputable def absA : Ad := fun σ k => rd σ.m σ.pc fun lo => rd σ.m (σ.pc + 1) fun hi => shl hi 8 fun h => k (lo + h)

/-! ### what is done -/
noncomputable def fnz (v : Int) : Op := fun σ k =>
  br (v == 0) (k { σ with p := bitOr (bitAnd σ.p (bitNot (bitOr 2 128))) 2 }) (k { σ with p := bitOr (bitAnd σ.p (bitNot (bitOr 2 128))) (bitAnd v 128) })
noncomputable def adv (n : Int) (op : Op) : Op := fun σ k => op σ fun σ => k { σ with pc := σ.pc + n }
noncomputable def lda (ad : Ad) : Op := fun σ k => ad σ fun i => rd σ.m i fun v => fnz v { σ with a := v } k
noncomputable def ldx (ad : Ad) : Op := fun σ k => ad σ fun i => rd σ.m i fun v => fnz v { σ with x := v } k
noncomputable def ldy (ad : Ad) : Op := fun σ k => ad σ fun i => rd σ.m i fun v => fnz v { σ with y := v } k
noncomputable def sta (ad : Ad) : Op := fun σ k => ad σ fun i => wr σ i σ.a k
noncomputable def stx (ad : Ad) : Op := fun σ k => ad σ fun i => wr σ i σ.x k
noncomputable def sty (ad : Ad) : Op := fun σ k => ad σ fun i => wr σ i σ.y k
noncomputable def ora (ad : Ad) : Op := fun σ k => ad σ fun i => rd σ.m i fun v => fnz (bitOr σ.a v) { σ with a := bitOr σ.a v } k
noncomputable def and_ (ad : Ad) : Op := fun σ k => ad σ fun i => rd σ.m i fun v => fnz (bitAnd σ.a v) { σ with a := bitAnd σ.a v } k
noncomputable def eor (ad : Ad) : Op := fun σ k => ad σ fun i => rd σ.m i fun v => fnz (bitXor σ.a v) { σ with a := bitXor σ.a v } k
noncomputable def orFl (c : Bool) (v : Int) : Op := fun σ k => br c (k { σ with p := bitOr σ.p v }) (k σ)
noncomputable def zn (v : Int) : Op := fun σ k => br (v == 0) (k { σ with p := bitOr σ.p 2 }) (k { σ with p := bitOr σ.p (bitAnd v 128) })
/-- the same, asked the other way round -/
noncomputable def nz (v : Int) : Op := fun σ k => br (v != 0) (k { σ with p := bitOr σ.p (bitAnd v 128) }) (k { σ with p := bitOr σ.p 2 })
noncomputable def noP (v : Int) (σ : Cpu) : Cpu := { σ with p := bitAnd σ.p (bitNot v) }
noncomputable def adcB (d : Int) : Op := fun σ k =>
  (fun k' : Int → Prop => br (bitAnd σ.p 1 != 0) (k' 1) (k' 0)) fun tmp =>
    orFl (bitAnd (bitAnd (bitNot (bitXor σ.a d)) (bitXor σ.a (d + σ.a + tmp))) 128 != 0) 64 (noP 195 σ) fun σ =>
    (fun k' : Cpu → Int → Prop => br (decide (255 < d + σ.a + tmp)) (k' { σ with p := bitOr σ.p 1 } (bitAnd (d + σ.a + tmp) 255)) (k' σ (d + σ.a + tmp))) fun σ r =>
    zn r σ fun σ => k { σ with a := r }
noncomputable def adcD (d : Int) : Op := fun σ₀ k => (fun σ : Cpu =>
  (fun g : Int → Int → Prop => br (decide (9 < bitAnd d 15 + bitAnd σ.a 15 + bitAnd σ.p 1)) (g 6 1) (g 0 0)) fun adj0 hc =>
  shr d 4 fun d4 => shr σ.a 4 fun a4 =>
  (fun g : Int → Int → Prop => br (decide (9 < bitAnd d4 15 + bitAnd a4 15 + hc)) (g 6 1) (g 0 0)) fun adj1 dc =>
  shl (bitAnd (bitAnd d4 15 + bitAnd a4 15 + hc) 15) 4 fun s =>
  (fun alu : Int => zn alu (noP 195 σ) fun σ => orFl (dc == 1) 1 σ fun σ => orFl (bitAnd (bitAnd (bitNot (bitXor σ.a d)) (bitXor σ.a alu)) 128 != 0) 64 σ fun σ' =>
    shl (bitAnd (bitAnd (bitAnd d4 15 + bitAnd a4 15 + hc) 15 + adj1) 15) 4 fun t => k { σ' with a := t + bitAnd (bitAnd (bitAnd d 15 + bitAnd σ₀.a 15 + bitAnd σ₀.p 1) 15 + adj0) 15 }) (s + bitAnd (bitAnd d 15 + bitAnd σ.a 15 + bitAnd σ.p 1) 15)) σ₀
noncomputable def adc (ad : Ad) : Op := fun σ k => ad σ fun i => rd σ.m i fun d => br (bitAnd σ.p 8 != 0) (adcD d σ k) (adcB d σ k)
noncomputable def sbcB (d : Int) : Op := fun σ k =>
  (fun r : Int => orFl (bitAnd (bitAnd (bitXor σ.a d) (bitXor σ.a r)) 128 != 0) 64 (noP 195 σ) fun σ =>
    orFl (bitAnd r 255 == 0) 2 σ fun σ => orFl (decide (255 < r)) 1 σ fun σ => k { σ with p := bitOr σ.p (bitAnd (bitAnd r 255) 128), a := bitAnd r 255 }) (σ.a + bitAnd (bitNot d) 255 + bitAnd σ.p 1)
noncomputable def sbcD (d : Int) : Op := fun σ k =>
  (fun g : Int → Int → Prop => br (decide (bitAnd σ.a 15 + bitAnd (bitNot d) 15 + bitAnd σ.p 1 ≤ 15)) (g 0 10) (g 1 0)) fun hc adj0 =>
  shr σ.a 4 fun a4 => shr (bitNot d) 4 fun d4 =>
  (fun g : Int → Prop => br (decide (bitAnd a4 15 + bitAnd d4 15 + hc ≤ 15)) (shl 10 4 g) (g 0)) fun adj1 =>
  (fun g : Int → Prop => br (decide (255 < σ.a + bitAnd (bitNot d) 255 + bitAnd σ.p 1)) (g 1) (g 0)) fun dc =>
  (fun alu : Int => shr (alu + adj1) 4 fun n1 => zn alu (noP 195 σ) fun σ => orFl (dc == 1) 1 σ fun σ => orFl (bitAnd (bitAnd (bitXor σ.a d) (bitXor σ.a alu)) 128 != 0) 64 σ fun σ' =>
    shl (bitAnd n1 15) 4 fun t => k { σ' with a := t + bitAnd (alu + adj0) 15 }) (bitAnd (σ.a + bitAnd (bitNot d) 255 + bitAnd σ.p 1) 255)
noncomputable def sbc (ad : Ad) : Op := fun σ k => ad σ fun i => rd σ.m i fun d => br (bitAnd σ.p 8 != 0) (sbcD d σ k) (sbcB d σ k)
noncomputable def cmp (ad : Ad) (reg : Cpu → Int) : Op := fun σ k => ad σ fun i => rd σ.m i fun d =>
  (fun σ' : Cpu => (fun k' : CK => br (reg σ == d) (k' { σ' with p := bitOr σ'.p (bitOr 1 2) }) (br (decide (d < reg σ)) (k' { σ' with p := bitOr σ'.p 1 }) (k' σ'))) fun σ' => k { σ' with p := bitOr σ'.p (bitAnd (reg σ - d) 128) }) (noP 131 σ)
/-- shifts: of a, or of an octet of the memory -/
noncomputable def onA (f : Int → Cpu → (Int → CK) → Prop) : Op := fun σ k => f σ.a σ fun v σ => k { σ with a := v }
noncomputable def onM (ad : Ad) (f : Int → Cpu → (Int → CK) → Prop) : Op := fun σ k => ad σ fun i => rd σ.m i fun d => f d σ fun v σ => wr σ i v k
noncomputable def aslF (d : Int) (σ : Cpu) (k : Int → CK) : Prop := orFl (bitAnd d 128 != 0) 1 (noP 131 σ) fun σ => shl d 1 fun s => nz (bitAnd s 255) σ fun σ => k (bitAnd s 255) σ
noncomputable def lsrF (d : Int) (σ : Cpu) (k : Int → CK) : Prop :=
  (fun σ : Cpu => shr d 1 fun s => br (s != 0) (k s σ) (k s { σ with p := bitOr σ.p 2 })) { noP 131 σ with p := bitOr (noP 131 σ).p (bitAnd d 1) }
noncomputable def rolF (d : Int) (σ : Cpu) (k : Int → CK) : Prop :=
  (fun k' : Int → CK => br (bitAnd σ.p 1 != 0) (br (bitAnd d 128 != 0) (shl d 1 fun s => k' (bitOr s 1) σ) (shl d 1 fun s => k' (bitOr s 1) (noP 1 σ)))
    (br (bitAnd d 128 != 0) (shl d 1 fun s => k' s { σ with p := bitOr σ.p 1 }) (shl d 1 fun s => k' s σ))) fun s σ => fnz (bitAnd s 255) σ fun σ => k (bitAnd s 255) σ
noncomputable def rorF (d : Int) (σ : Cpu) (k : Int → CK) : Prop :=
  (fun k' : Int → CK => br (bitAnd σ.p 1 != 0) (br (bitAnd d 1 != 0) (shr d 1 fun s => k' (bitOr s 128) σ) (shr d 1 fun s => k' (bitOr s 128) (noP 1 σ)))
    (br (bitAnd d 1 != 0) (shr d 1 fun s => k' s { σ with p := bitOr σ.p 1 }) (shr d 1 fun s => k' s σ))) fun s σ => fnz s σ fun σ => k s σ
noncomputable def branch : Op := fun σ k => rd σ.m σ.pc fun d =>
  (fun k' : Int → Prop => br (bitAnd d 128 != 0) (k' (σ.pc + 1 - bitXor d 255 - 1)) (k' (σ.pc + 1 + d))) fun ad =>
    br (bitAnd (σ.pc + 1) 65280 != bitAnd ad 65280) (k { σ with exc := σ.exc + 1 + 1, pc := bitAnd ad 65535 }) (k { σ with exc := σ.exc + 1, pc := bitAnd ad 65535 })
noncomputable def bst (f : Int) : Op := fun σ k => br (bitAnd σ.p f != 0) (branch σ k) (k { σ with pc := σ.pc + 1 })
noncomputable def bcl (f : Int) : Op := fun σ k => br (bitAnd σ.p f != 0) (k { σ with pc := σ.pc + 1 }) (branch σ k)
noncomputable def clr (f : Int) : Op := fun σ k => k (noP f σ)
noncomputable def set_ (f : Int) : Op := fun σ k => k { σ with p := bitOr σ.p f }
noncomputable def jmp : Op := fun σ k => absA σ fun i => k { σ with pc := i }
noncomputable def push (v : Int) : Op := fun σ k => wr σ (σ.sp + 256) (bitAnd v 255) fun σ => k { σ with sp := bitAnd (σ.sp - 1) 255 }
noncomputable def pull (σ : Cpu) (k : Int → CK) : Prop := rd σ.m (bitAnd (σ.sp + 1) 255 + 256) fun v => k v { σ with sp := bitAnd (σ.sp + 1) 255 }
noncomputable def pha : Op := fun σ k => push σ.a σ k
noncomputable def pla : Op := fun σ k => pull σ fun v σ => fnz v { σ with a := v } k
noncomputable def step1 (op ex ct : Int) (i : Op) : Op := fun σ k =>
  ok1 op 256 (ok1 op 256 (i { σ with pc := bitAnd (σ.pc + 1) 65535, exc := 0, addc := .d (.int ex) } fun σ => ok1 op 256 (k { σ with pc := bitAnd σ.pc 65535, cyc := σ.cyc + (ct + σ.exc) })))
/-- the machine's step, behind the reading of its code -/
noncomputable def stepR (X : PX) (d : Nat) (hs : Hs) (op : Int) (K : KE) : Prop := match fnOf X true "step" with
  | some F => exL (evS X F.scope.names false (fun m e => evE X (callN X (d + 7)) depthE F.scope.names m e) depthS) (F.body.drop 1) [("self", .d .mpu), ("instructCode", .d (.int op))] hs fun f _ hs' => retC false hs.hp.length (retV f) hs' K
  | none => False
end Mine
set_option genSizeOf false
set_option genInjectivity false
set_option maxRecDepth 100000
namespace Mine
open PySem PySem.W PySem.Calls PyProof.Rows Builtin

/-! ## bits -/
theorem oct {P : Int → Bool} (h : (List.range 256).all (fun n => P (n : Nat)) = true) {v : Int} (h0 : 0 ≤ v) (h1 : v < 256) : P v = true := by
  have := List.all_eq_true.mp h v.toNat (by simp; omega)
  rwa [Int.toNat_of_nonneg h0] at this
theorem and128 {v : Int} (h0 : 0 ≤ v) (h1 : v < 256) : bitAnd v 128 = if 128 ≤ v then 128 else 0 := by
  have := oct (P := fun v => decide (bitAnd v 128 = if 128 ≤ v then 128 else 0)) (by decide +kernel) h0 h1
  simpa using this
noncomputable def pk (p : Int) : Bool × Bool × Bool × Bool := (bitAnd p 1 != 0, bitAnd p 2 != 0, bitAnd p 128 != 0, bitAnd p 64 != 0)
structure Pok (p : Int) (c z n v : Bool) : Prop where
  lo : 0 ≤ p
  hi : p < 256
  d : bitAnd p 8 = 0
  fl : pk p = (c, z, n, v)
theorem pok_map {f : Int → Int} {g : Bool × Bool × Bool × Bool → Bool × Bool × Bool × Bool} (h : (List.range 256).all (fun n => (fun p : Int => decide (bitAnd p 8 ≠ 0) || decide (0 ≤ f p ∧ f p < 256 ∧ bitAnd (f p) 8 = 0 ∧ pk (f p) = g (pk p))) (n : Nat)) = true)
    {p : Int} {c z n v c' z' n' v' : Bool} (P : Pok p c z n v) (hg : g (c, z, n, v) = (c', z', n', v')) : Pok (f p) c' z' n' v' := by
  have := oct (P := fun p : Int => decide (bitAnd p 8 ≠ 0) || decide (0 ≤ f p ∧ f p < 256 ∧ bitAnd (f p) 8 = 0 ∧ pk (f p) = g (pk p))) h P.lo P.hi
  simp only [P.d, ne_eq, not_true_eq_false, decide_false, Bool.false_or, decide_eq_true_eq] at this
  obtain ⟨a, b, c, d⟩ := this
  exact ⟨a, b, c, by rw [d, P.fl, hg]⟩
section
variable {p : Int} {c z n v : Bool}
theorem Pok.no195 (P : Pok p c z n v) : Pok (bitAnd p (bitNot 195)) false false false false := pok_map (f := fun p => bitAnd p (bitNot 195)) (g := fun _ => (false, false, false, false)) (by decide +kernel) P rfl
theorem Pok.no131 (P : Pok p c z n v) : Pok (bitAnd p (bitNot 131)) false false false v := pok_map (f := fun p => bitAnd p (bitNot 131)) (g := fun (_, _, _, v) => (false, false, false, v)) (by decide +kernel) P rfl
theorem Pok.no130 (P : Pok p c z n v) : Pok (bitAnd p (bitNot (bitOr 2 128))) c false false v := pok_map (f := fun p => bitAnd p (bitNot (bitOr 2 128))) (g := fun (c, _, _, v) => (c, false, false, v)) (by decide +kernel) P rfl
theorem Pok.no1 (P : Pok p c z n v) : Pok (bitAnd p (bitNot 1)) false z n v := pok_map (f := fun p => bitAnd p (bitNot 1)) (g := fun (_, z, n, v) => (false, z, n, v)) (by decide +kernel) P rfl
theorem Pok.or1 (P : Pok p c z n v) : Pok (bitOr p 1) true z n v := pok_map (f := fun p => bitOr p 1) (g := fun (_, z, n, v) => (true, z, n, v)) (by decide +kernel) P rfl
theorem Pok.or2 (P : Pok p c z n v) : Pok (bitOr p 2) c true n v := pok_map (f := fun p => bitOr p 2) (g := fun (c, _, n, v) => (c, true, n, v)) (by decide +kernel) P rfl
theorem Pok.or3 (P : Pok p c z n v) : Pok (bitOr p (bitOr 1 2)) true true n v := pok_map (f := fun p => bitOr p (bitOr 1 2)) (g := fun (_, _, n, v) => (true, true, n, v)) (by decide +kernel) P rfl
theorem Pok.or64 (P : Pok p c z n v) : Pok (bitOr p 64) c z n true := pok_map (f := fun p => bitOr p 64) (g := fun (c, z, n, _) => (c, z, n, true)) (by decide +kernel) P rfl
theorem Pok.or128 (P : Pok p c z n v) : Pok (bitOr p 128) c z true v := pok_map (f := fun p => bitOr p 128) (g := fun (c, z, _, v) => (c, z, true, v)) (by decide +kernel) P rfl
theorem Pok.or0 (P : Pok p c z n v) : Pok (bitOr p 0) c z n v := pok_map (f := fun p => bitOr p 0) (g := id) (by decide +kernel) P rfl
theorem Pok.C (P : Pok p c z n v) : (bitAnd p 1 != 0) = c := by have := P.fl; simp only [pk, Prod.mk.injEq] at this; exact this.1
theorem Pok.Z (P : Pok p c z n v) : (bitAnd p 2 != 0) = z := by have := P.fl; simp only [pk, Prod.mk.injEq] at this; exact this.2.1
theorem Pok.N (P : Pok p c z n v) : (bitAnd p 128 != 0) = n := by have := P.fl; simp only [pk, Prod.mk.injEq] at this; exact this.2.2.1
theorem Pok.V (P : Pok p c z n v) : (bitAnd p 64 != 0) = v := by have := P.fl; simp only [pk, Prod.mk.injEq] at this; exact this.2.2.2
theorem Pok.D (P : Pok p c z n v) : (bitAnd p 8 != 0) = false := by rw [P.d]; rfl
theorem Pok.c1 (P : Pok p c z n v) : bitAnd p 1 = if c then 1 else 0 := by
  have h := P.C
  rw [bitAnd_m1] at h ⊢
  have := P.lo
  cases c
  · simp at h ⊢; lia
  · simp at h ⊢; lia
end

/-! ## the machine, told by what matters -/
structure Q where
  m : Int → Int
  pc : Int
  sp : Int
  a : Int
  x : Int
  c : Bool
  z : Bool
  n : Bool
  v : Bool
structure Abs (L : Nat) (σ : Cpu) (q : Q) : Prop where
  len : σ.m.length = L
  mem : ∀ i : Nat, i < L → σ.m.getD i 0 = q.m i
  pc : σ.pc = q.pc
  sp : σ.sp = q.sp
  a : σ.a = q.a
  x : σ.x = q.x
  p : Pok σ.p q.c q.z q.n q.v
noncomputable def OpGo (L : Nat) (i : Op) (q q' : Q) : Prop := ∀ σ, Abs L σ q → ∀ k : CK, (∀ σ', Abs L σ' q' → k σ') → i σ k
noncomputable def AdGo (L : Nat) (ad : Ad) (q : Q) (i : Int) : Prop := ∀ σ, Abs L σ q → ∀ k : Int → Prop, k i → ad σ k
noncomputable def upd (m : Int → Int) (i v : Int) : Int → Int := fun j => if j = i then v else m j
noncomputable def oct? (v : Int) : Prop := 0 ≤ v ∧ v < 256

theorem at_ok {i : Int} {n : Nat} {k : Nat → Prop} (h0 : 0 ≤ i) (h1 : i < n) (hn : n ≤ 65536) (h : k i.toNat) : at' i n k := by
  have e : idx i n = i := by unfold idx; rw [if_neg (by lia)]
  refine ⟨⟨by lia, by lia⟩, ?_, ?_, ?_⟩
  · rw [e]; exact h0
  · rw [e]; exact h1
  · rw [e]; exact h
theorem ok1_ok {i : Int} {n : Nat} {P : Prop} (h0 : 0 ≤ i) (h1 : i < n) (hn : n ≤ 65536) (h : P) : ok1 i n P := by
  have e : idx i n = i := by unfold idx; rw [if_neg (by lia)]
  refine ⟨⟨by lia, by lia⟩, ?_, ?_, h⟩
  · rw [e]; exact h0
  · rw [e]; exact h1
section
variable {L : Nat} {σ : Cpu} {q q' : Q} {k : CK} {i j : Op} {ad : Ad} {t : Int}
theorem Abs.rd (A : Abs L σ q) (hL : L ≤ 65536) {i : Int} (h0 : 0 ≤ i) (h1 : i < L) {k : Int → Prop} (h : k (q.m i)) : rd σ.m i k := by
  unfold Mine.rd
  refine at_ok h0 (by rw [A.len]; exact h1) (by rw [A.len]; exact hL) ?_
  rw [A.mem i.toNat (by lia), Int.toNat_of_nonneg h0]
  exact h
theorem Abs.wr (A : Abs L σ q) (hL : L ≤ 65536) {i v : Int} (h0 : 0 ≤ i) (h1 : i < L) (h : ∀ σ', Abs L σ' { q with m := upd q.m i v } → k σ') : wr σ i v k := by
  unfold Mine.wr
  refine at_ok h0 (by rw [A.len]; exact h1) (by rw [A.len]; exact hL) (h _ ⟨?_, fun j hj => ?_, A.pc, A.sp, A.a, A.x, A.p⟩)
  · show (σ.m.set _ _).length = L
    rw [List.length_set]; exact A.len
  · show (σ.m.set i.toNat v).getD j 0 = upd q.m i v j
    unfold upd
    rw [List.getD_eq_getElem?_getD, List.getElem?_set]
    have hl := A.len
    by_cases e : i.toNat = j
    · have e2 : (j : Int) = i := by lia
      rw [if_pos e, if_pos (by lia), if_pos e2]
      rfl
    · have e2 : ¬ (j : Int) = i := by lia
      rw [if_neg e, if_neg e2, ← List.getD_eq_getElem?_getD]
      exact A.mem j hj
theorem brT {A B : Prop} (h : A) : br true A B := h
theorem brF {A B : Prop} (h : B) : br false A B := h
theorem bnot_eq {v : Int} {b : Bool} (h : (v == 0) = b) : (v != 0) = !b := by rw [← h]; rfl
theorem setzn {v : Int} (hv : oct? v) (A : Abs L σ q) (hz : q.z = false) (hn : q.n = false) : (v == 0) = true ∧ Abs L { σ with p := bitOr σ.p 2 } { q with z := (v == 0), n := decide (128 ≤ v) } ∨ (v == 0) = false ∧ Abs L { σ with p := bitOr σ.p (bitAnd v 128) } { q with z := (v == 0), n := decide (128 ≤ v) } := by
  obtain ⟨h0, h1⟩ := hv
  have P := A.p
  rw [hz, hn] at P
  cases e : v == 0 with
  | true =>
    have : v = 0 := by simpa using e
    subst this
    exact .inl ⟨rfl, A.len, A.mem, A.pc, A.sp, A.a, A.x, P.or2⟩
  | false =>
    refine .inr ⟨rfl, A.len, A.mem, A.pc, A.sp, A.a, A.x, ?_⟩
    show Pok (bitOr σ.p (bitAnd v 128)) _ _ _ _
    rw [and128 h0 h1]
    by_cases h : 128 ≤ v
    · rw [if_pos h]
      simp only [h, decide_true]
      exact P.or128
    · rw [if_neg h]
      simp only [h, decide_false]
      exact P.or0
theorem fnz_ok {v : Int} (hv : oct? v) (A : Abs L σ q) (h : ∀ σ', Abs L σ' { q with z := (v == 0), n := decide (128 ≤ v) } → k σ') : fnz v σ k := by
  unfold fnz
  have A1 : Abs L { σ with p := bitAnd σ.p (bitNot (bitOr 2 128)) } { q with z := false, n := false } := ⟨A.len, A.mem, A.pc, A.sp, A.a, A.x, A.p.no130⟩
  rcases setzn hv A1 rfl rfl with ⟨e, A2⟩ | ⟨e, A2⟩
  · rw [e] at A2 ⊢
    refine h _ ?_
    rw [e]; exact A2
  · rw [e] at A2 ⊢
    refine h _ ?_
    rw [e]; exact A2
theorem zn_ok {v : Int} (hv : oct? v) (A : Abs L σ q) (hz : q.z = false) (hn : q.n = false) (h : ∀ σ', Abs L σ' { q with z := (v == 0), n := decide (128 ≤ v) } → k σ') : zn v σ k := by
  unfold zn
  rcases setzn hv A hz hn with ⟨e, A2⟩ | ⟨e, A2⟩
  · rw [e] at A2 ⊢
    refine h _ ?_
    rw [e]; exact A2
  · rw [e] at A2 ⊢
    refine h _ ?_
    rw [e]; exact A2
theorem nz_ok {v : Int} (hv : oct? v) (A : Abs L σ q) (hz : q.z = false) (hn : q.n = false) (h : ∀ σ', Abs L σ' { q with z := (v == 0), n := decide (128 ≤ v) } → k σ') : nz v σ k := by
  unfold nz
  rcases setzn hv A hz hn with ⟨e, A2⟩ | ⟨e, A2⟩
  · rw [bnot_eq e]
    exact h _ A2
  · rw [bnot_eq e]
    exact h _ A2
theorem Abs.noP131 (A : Abs L σ q) : Abs L (noP 131 σ) { q with c := false, z := false, n := false } := ⟨A.len, A.mem, A.pc, A.sp, A.a, A.x, A.p.no131⟩
theorem Abs.noP195 (A : Abs L σ q) : Abs L (noP 195 σ) { q with c := false, z := false, n := false, v := false } := ⟨A.len, A.mem, A.pc, A.sp, A.a, A.x, A.p.no195⟩
theorem Abs.noP1 (A : Abs L σ q) : Abs L (noP 1 σ) { q with c := false } := ⟨A.len, A.mem, A.pc, A.sp, A.a, A.x, A.p.no1⟩
theorem Abs.or1 (A : Abs L σ q) : Abs L { σ with p := bitOr σ.p 1 } { q with c := true } := ⟨A.len, A.mem, A.pc, A.sp, A.a, A.x, A.p.or1⟩
theorem Abs.or2 (A : Abs L σ q) : Abs L { σ with p := bitOr σ.p 2 } { q with z := true } := ⟨A.len, A.mem, A.pc, A.sp, A.a, A.x, A.p.or2⟩
theorem Abs.or64 (A : Abs L σ q) : Abs L { σ with p := bitOr σ.p 64 } { q with v := true } := ⟨A.len, A.mem, A.pc, A.sp, A.a, A.x, A.p.or64⟩
theorem orC_ok {b : Bool} (A : Abs L σ q) (hc : q.c = false) (h : ∀ σ', Abs L σ' { q with c := b } → k σ') : orFl b 1 σ k := by
  cases b with
  | true => exact h _ A.or1
  | false => refine h _ ?_; rw [← hc]; exact A
theorem orV_ok {b : Bool} (A : Abs L σ q) (hc : q.v = false) (h : ∀ σ', Abs L σ' { q with v := b } → k σ') : orFl b 64 σ k := by
  cases b with
  | true => exact h _ A.or64
  | false => refine h _ ?_; rw [← hc]; exact A
theorem orZ_ok {b : Bool} (A : Abs L σ q) (hc : q.z = false) (h : ∀ σ', Abs L σ' { q with z := b } → k σ') : orFl b 2 σ k := by
  cases b with
  | true => exact h _ A.or2
  | false => refine h _ ?_; rw [← hc]; exact A
theorem Abs.setA (A : Abs L σ q) {v : Int} : Abs L { σ with a := v } { q with a := v } := ⟨A.len, A.mem, A.pc, A.sp, rfl, A.x, A.p⟩
theorem Abs.setX (A : Abs L σ q) {v : Int} : Abs L { σ with x := v } { q with x := v } := ⟨A.len, A.mem, A.pc, A.sp, A.a, rfl, A.p⟩
theorem Abs.setPc (A : Abs L σ q) {v : Int} : Abs L { σ with pc := v } { q with pc := v } := ⟨A.len, A.mem, rfl, A.sp, A.a, A.x, A.p⟩
theorem Abs.setSp (A : Abs L σ q) {v : Int} : Abs L { σ with sp := v } { q with sp := v } := ⟨A.len, A.mem, A.pc, rfl, A.a, A.x, A.p⟩
theorem shl_ok {a b : Int} {k : Int → Prop} (h0 : 0 ≤ a) (h1 : a < 65536) (b0 : 0 ≤ b) (b1 : b ≤ 1000) (h : k (a * 2 ^ b.toNat)) : shl a b k := ⟨⟨b0, b1, by lia⟩, h⟩
theorem shr_ok {a b : Int} {k : Int → Prop} (b0 : 0 ≤ b) (h : k (a.fdiv (2 ^ b.toNat))) : shr a b k := ⟨b0, h⟩

/-! ### modes and operations -/
theorem immG : AdGo L immA q q.pc := fun σ A k h => by unfold immA; rw [A.pc]; exact h
theorem zpG (hL : L ≤ 65536) (h0 : 0 ≤ q.pc) (h1 : q.pc < L) : AdGo L zpA q (q.m q.pc) := fun σ A k h => by unfold zpA; rw [A.pc]; exact A.rd hL h0 h1 h
theorem zpxG (hL : L ≤ 65536) (h0 : 0 ≤ q.pc) (h1 : q.pc < L) : AdGo L zpxA q ((q.x + q.m q.pc) % 256) := fun σ A k h => by
  unfold zpxA
  rw [A.pc]
  refine A.rd hL h0 h1 ?_
  rw [bitAnd_m8', A.x]
  exact h
theorem absG (hL : L ≤ 65536) (h0 : 0 ≤ q.pc) (h1 : q.pc + 1 < L) (hi : oct? (q.m (q.pc + 1))) : AdGo L absA q (q.m q.pc + q.m (q.pc + 1) * 256) := fun σ A k h => by
  unfold absA
  rw [A.pc]
  refine A.rd hL h0 (by lia) (A.rd hL (by lia) h1 (shl_ok hi.1 (by have := hi.2; lia) (by decide) (by decide) ?_))
  exact h
theorem adv_go {n : Int} (g : OpGo L i q q') : OpGo L (adv n i) q { q' with pc := q'.pc + n } := fun σ A k h => g σ A _ fun σ' A' => h _ (by
  have := A'.setPc (v := σ'.pc + n)
  rw [A'.pc] at this ⊢
  exact this)
theorem lda_go (hL : L ≤ 65536) (g : AdGo L ad q t) (h0 : 0 ≤ t) (h1 : t < L) (hv : oct? (q.m t)) : OpGo L (lda ad) q { q with a := q.m t, z := (q.m t == 0), n := decide (128 ≤ q.m t) } := fun σ A k h => g σ A _ (A.rd hL h0 h1 (fnz_ok hv A.setA h))
theorem ldx_go (hL : L ≤ 65536) (g : AdGo L ad q t) (h0 : 0 ≤ t) (h1 : t < L) (hv : oct? (q.m t)) : OpGo L (ldx ad) q { q with x := q.m t, z := (q.m t == 0), n := decide (128 ≤ q.m t) } := fun σ A k h => g σ A _ (A.rd hL h0 h1 (fnz_ok hv A.setX h))
theorem sta_go (hL : L ≤ 65536) (g : AdGo L ad q t) (h0 : 0 ≤ t) (h1 : t < L) : OpGo L (sta ad) q { q with m := upd q.m t q.a } := fun σ A k h => g σ A _ (by rw [A.a]; exact A.wr hL h0 h1 h)
theorem bits_go (hL : L ≤ 65536) {f : Int → Int → Int} (op : Ad → Op) (hop : op = fun ad σ k => ad σ fun i => rd σ.m i fun v => fnz (f σ.a v) { σ with a := f σ.a v } k) (g : AdGo L ad q t) (h0 : 0 ≤ t) (h1 : t < L) (hv : oct? (f q.a (q.m t))) :
    OpGo L (op ad) q { q with a := f q.a (q.m t), z := (f q.a (q.m t) == 0), n := decide (128 ≤ f q.a (q.m t)) } := fun σ A k h => by
  rw [hop]
  exact g σ A _ (A.rd hL h0 h1 (by rw [A.a]; exact fnz_ok hv A.setA h))
theorem adc_go (hL : L ≤ 65536) (g : AdGo L ad q t) (h0 : 0 ≤ t) (h1 : t < L) (hd : oct? (q.m t)) (ha : oct? q.a) : ∃ vv, OpGo L (adc ad) q { q with a := (q.m t + q.a + if q.c then 1 else 0) % 256, c := decide (255 < q.m t + q.a + if q.c then 1 else 0), z := ((q.m t + q.a + if q.c then 1 else 0) % 256 == 0), n := decide (128 ≤ (q.m t + q.a + if q.c then 1 else 0) % 256), v := vv } := by
  refine ⟨(bitAnd (bitAnd (bitNot (bitXor q.a (q.m t))) (bitXor q.a (q.m t + q.a + if q.c then 1 else 0))) 128 != 0), fun σ A k h => g σ A _ (A.rd hL h0 h1 ?_)⟩
  rw [A.p.D]
  show adcB (q.m t) σ k
  unfold adcB
  have ea := A.a
  have hc : ∀ tmp : Int, tmp = (if q.c then 1 else 0) → orFl (bitAnd (bitAnd (bitNot (bitXor σ.a (q.m t))) (bitXor σ.a (q.m t + σ.a + tmp))) 128 != 0) 64 (noP 195 σ) (fun σ =>
    (fun k' : Cpu → Int → Prop => br (decide (255 < q.m t + σ.a + tmp)) (k' { σ with p := bitOr σ.p 1 } (bitAnd (q.m t + σ.a + tmp) 255)) (k' σ (q.m t + σ.a + tmp))) fun σ r =>
    zn r σ fun σ => k { σ with a := r }) := by
    intro tmp ht
    rw [ea, ht]
    refine orV_ok A.noP195 rfl fun σ' A' => ?_
    have ea' : σ'.a = q.a := A'.a
    dsimp only
    have es : q.m t + σ'.a + (if q.c then 1 else 0) = q.m t + q.a + if q.c then 1 else 0 := by rw [ea']
    rw [es]
    generalize hs : q.m t + q.a + (if q.c then 1 else 0) = s at *
    have hs0 : 0 ≤ s := by have := hd.1; have := ha.1; rw [← hs]; split <;> lia
    have hs1 : s < 512 := by have := hd.2; have := ha.2; rw [← hs]; split <;> lia
    by_cases hb : 255 < s
    · simp only [hb, decide_true]
      refine brT ?_
      rw [bitAnd_m8]
      refine zn_ok ⟨by lia, by lia⟩ A'.or1 rfl rfl fun σ'' A'' => h _ ?_
      have e := A''.setA (v := s % 256)
      simpa only [hb, decide_true] using e
    · simp only [hb, decide_false]
      refine brF ?_
      have e2 : s % 256 = s := by lia
      refine zn_ok ⟨by lia, by lia⟩ A' rfl rfl fun σ'' A'' => h _ ?_
      have e := A''.setA (v := s)
      simpa only [hb, decide_false, e2] using e
  have hC := A.p.C
  dsimp only
  rw [hC]
  cases hq : q.c with
  | true => exact hc 1 (by rw [hq]; rfl)
  | false => exact hc 0 (by rw [hq]; rfl)

theorem sbc_go (hL : L ≤ 65536) (g : AdGo L ad q t) (h0 : 0 ≤ t) (h1 : t < L) (hd : oct? (q.m t)) (ha : oct? q.a) :
    OpGo L (sbc ad) q { q with a := (q.a + (255 - q.m t) + if q.c then 1 else 0) % 256, c := decide (255 < q.a + (255 - q.m t) + if q.c then 1 else 0), z := ((q.a + (255 - q.m t) + if q.c then 1 else 0) % 256 == 0), n := decide (128 ≤ (q.a + (255 - q.m t) + if q.c then 1 else 0) % 256), v := (bitAnd (bitAnd (bitXor q.a (q.m t)) (bitXor q.a (q.a + (255 - q.m t) + if q.c then 1 else 0))) 128 != 0) } := by
  refine fun σ A k h => g σ A _ (A.rd hL h0 h1 ?_)
  rw [A.p.D]
  refine brF ?_
  unfold sbcB
  have e1 : bitAnd (bitNot (q.m t)) 255 = 255 - q.m t := by
    rw [bitAnd_m8]
    unfold bitNot
    have := hd.1; have := hd.2
    lia
  dsimp only
  rw [e1, A.a, A.p.c1]
  generalize hs : q.a + (255 - q.m t) + (if q.c then 1 else 0) = s at *
  have hs0 : 0 ≤ s := by have := hd.2; have := ha.1; rw [← hs]; split <;> lia
  have hs1 : s < 512 := by have := hd.1; have := ha.2; rw [← hs]; split <;> lia
  refine orV_ok A.noP195 rfl fun σ1 A1 => ?_
  rw [bitAnd_m8]
  refine orZ_ok A1 rfl fun σ2 A2 => orC_ok A2 rfl fun σ3 A3 => ?_
  have hb : oct? (s % 256) := ⟨by lia, by lia⟩
  have P := A3.p
  refine h _ ⟨A3.len, A3.mem, A3.pc, A3.sp, rfl, A3.x, ?_⟩
  show Pok (bitOr σ3.p (bitAnd (s % 256) 128)) _ _ _ _
  rw [and128 hb.1 hb.2]
  by_cases e : 128 ≤ s % 256
  · rw [if_pos e]
    simp only [e, decide_true]
    exact P.or128
  · rw [if_neg e]
    simp only [e, decide_false]
    exact P.or0
theorem and128' {x : Int} (h0 : -256 < x) (h1 : x < 256) : bitAnd x 128 = 0 ∨ bitAnd x 128 = 128 := by
  have h := List.all_eq_true.mp (show (List.range 511).all (fun n => decide (bitAnd ((n : Nat) - 255 : Int) 128 = 0 ∨ bitAnd ((n : Nat) - 255 : Int) 128 = 128)) = true by decide +kernel) (x + 255).toNat (by simp; lia)
  simp only [decide_eq_true_eq] at h
  have e : (((x + 255).toNat : Nat) : Int) - 255 = x := by lia
  rw [e] at h
  exact h
theorem cmpA_go (hL : L ≤ 65536) (g : AdGo L ad q t) (h0 : 0 ≤ t) (h1 : t < L) (hd : oct? (q.m t)) (ha : oct? q.a) :
    ∃ nn, OpGo L (cmp ad Cpu.a) q { q with c := decide (q.m t ≤ q.a), z := (q.a == q.m t), n := nn } := by
  have hx := and128' (x := q.a - q.m t) (by have := hd.2; have := ha.1; lia) (by have := hd.1; have := ha.2; lia)
  refine ⟨decide (bitAnd (q.a - q.m t) 128 = 128), fun σ A k h => g σ A _ (A.rd hL h0 h1 ?_)⟩
  have fin : ∀ {σ' : Cpu} {c z : Bool}, Abs L σ' { q with c := c, z := z, n := false } → c = decide (q.m t ≤ q.a) → z = (q.a == q.m t) → k { σ' with p := bitOr σ'.p (bitAnd (σ.a - q.m t) 128) } := by
    intro σ' c z A' hc hz
    rw [A.a]
    have P := A'.p
    refine h _ ⟨A'.len, A'.mem, A'.pc, A'.sp, A'.a, A'.x, ?_⟩
    rw [← hc, ← hz]
    show Pok (bitOr σ'.p (bitAnd (q.a - q.m t) 128)) _ _ _ _
    rcases hx with e | e
    · rw [e]; exact P.or0
    · rw [e]; exact P.or128
  dsimp only
  cases e1 : (σ.a == q.m t) with
  | true =>
    refine brT ?_
    have A1 := A.noP131
    have e2 : q.a = q.m t := by rw [← A.a]; simpa using e1
    exact fin (σ' := { noP 131 σ with p := bitOr (noP 131 σ).p (bitOr 1 2) }) (c := true) (z := true) ⟨A1.len, A1.mem, A1.pc, A1.sp, A1.a, A1.x, A1.p.or3⟩ (by simp [e2]) (by simp [e2])
  | false =>
    refine brF ?_
    have A1 := A.noP131
    have e2 : ¬ q.a = q.m t := by rw [← A.a]; simpa using e1
    by_cases e3 : q.m t < σ.a
    · rw [decide_eq_true e3]
      refine brT ?_
      rw [A.a] at e3
      exact fin (c := true) (z := false) A1.or1 (by simp; lia) (by simp [e2])
    · rw [decide_eq_false e3]
      refine brF ?_
      rw [A.a] at e3
      exact fin (c := false) (z := false) A1 (by simp; lia) (by simp [e2])
/-- shifts -/
noncomputable def ShGo (L : Nat) (f : Int → Cpu → (Int → CK) → Prop) (d : Int) (q : Q) (r : Int) (q' : Q) : Prop := ∀ σ, Abs L σ q → ∀ k : Int → CK, (∀ σ', Abs L σ' q' → k r σ') → f d σ k
theorem b128 {d : Int} (hd : oct? d) : (bitAnd d 128 != 0) = decide (128 ≤ d) := by
  rw [and128 hd.1 hd.2]
  by_cases h : 128 ≤ d <;> simp [h]
theorem asl_sh {d : Int} (hd : oct? d) : ShGo L aslF d q (2 * d % 256) { q with c := decide (128 ≤ d), z := (2 * d % 256 == 0), n := decide (128 ≤ 2 * d % 256) } := fun σ A k h => by
  unfold aslF
  rw [b128 hd]
  refine orC_ok A.noP131 rfl fun σ1 A1 => shl_ok hd.1 (by have := hd.2; lia) (by decide) (by decide) ?_
  have e : bitAnd (d * 2 ^ (1 : Int).toNat) 255 = 2 * d % 256 := by
    rw [bitAnd_m8]
    have : (2 : Int) ^ (1 : Int).toNat = 2 := by decide
    rw [this]
    lia
  rw [e]
  exact nz_ok ⟨by lia, by lia⟩ A1 rfl rfl h
theorem fdiv2 {d : Int} (h : 0 ≤ d) : d.fdiv (2 ^ (1 : Int).toNat) = d / 2 := by
  have : (2 : Int) ^ (1 : Int).toNat = 2 := by decide
  rw [this, Int.fdiv_eq_ediv_of_nonneg _ (by decide)]
theorem lsr_sh {d : Int} (hd : oct? d) : ShGo L lsrF d q (d / 2) { q with c := decide (d % 2 = 1), z := (d / 2 == 0), n := false } := fun σ A k h => by
  unfold lsrF
  have A1 := A.noP131
  have A2 : Abs L { noP 131 σ with p := bitOr (noP 131 σ).p (bitAnd d 1) } { q with c := decide (d % 2 = 1), z := false, n := false } := by
    refine ⟨A1.len, A1.mem, A1.pc, A1.sp, A1.a, A1.x, ?_⟩
    show Pok (bitOr (noP 131 σ).p (bitAnd d 1)) _ _ _ _
    have P := A1.p
    rw [bitAnd_m1]
    by_cases e : d % 2 = 1
    · rw [e]; simp only [decide_true]; exact P.or1
    · have e0 : d % 2 = 0 := by lia
      rw [e0]; simp only [show ((0 : Int) = 1) = False by simp, decide_false]; exact P.or0
  dsimp only
  refine shr_ok (by decide) ?_
  rw [fdiv2 hd.1]
  cases e : d / 2 == 0 with
  | true =>
    rw [bnot_eq e]
    refine brF (h _ ?_)
    have := A2.or2
    rw [e]
    exact this
  | false =>
    rw [bnot_eq e]
    refine brT (h _ ?_)
    rw [e]
    exact A2
theorem or_1 {d : Int} (h : d % 2 = 0) : bitOr d 1 = d + 1 := by rw [bitOr_and, bitAnd_m1, h]; lia
theorem rol_sh {d : Int} (hd : oct? d) : ShGo L rolF d q ((2 * d + if q.c then 1 else 0) % 256) { q with c := decide (128 ≤ d), z := ((2 * d + if q.c then 1 else 0) % 256 == 0), n := decide (128 ≤ (2 * d + if q.c then 1 else 0) % 256) } := fun σ A k h => by
  unfold rolF
  rw [b128 hd, A.p.C]
  have e0 : d * 2 ^ (1 : Int).toNat = 2 * d := by
    have : (2 : Int) ^ (1 : Int).toNat = 2 := by decide
    rw [this]; lia
  have fin : ∀ {σ' : Cpu}, Abs L σ' { q with c := decide (128 ≤ d) } → ∀ s : Int, s = 2 * d + (if q.c then 1 else 0) → fnz (bitAnd s 255) σ' (fun σ => k (bitAnd s 255) σ) := by
    intro σ' A' s hs
    rw [bitAnd_m8, hs]
    exact fnz_ok ⟨by lia, by lia⟩ A' h
  have sh : ∀ {k : Int → Prop}, k (2 * d) → shl d 1 k := fun hk => shl_ok hd.1 (by have := hd.2; lia) (by decide) (by decide) (by rw [e0]; exact hk)
  dsimp only
  cases hc : q.c with
  | true =>
    refine brT ?_
    by_cases e : 128 ≤ d
    · simp only [e, decide_true] at fin ⊢
      refine brT (sh ?_)
      rw [or_1 (by lia)]
      refine fin ?_ _ (by rw [hc]; rfl)
      rw [← hc]; exact A
    · simp only [e, decide_false] at fin ⊢
      refine brF (sh ?_)
      rw [or_1 (by lia)]
      exact fin A.noP1 _ (by rw [hc]; rfl)
  | false =>
    refine brF ?_
    by_cases e : 128 ≤ d
    · simp only [e, decide_true] at fin ⊢
      refine brT (sh ?_)
      exact fin A.or1 _ (by rw [hc]; simp)
    · simp only [e, decide_false] at fin ⊢
      refine brF (sh ?_)
      refine fin ?_ _ (by rw [hc]; simp)
      rw [← hc]; exact A
theorem or_128 {s : Int} (h0 : 0 ≤ s) (h1 : s < 128) : bitOr s 128 = s + 128 := by
  rw [bitOr_and, and128 h0 (by lia), if_neg (by lia)]; lia
theorem b1 (d : Int) : (bitAnd d 1 != 0) = decide (d % 2 = 1) := by
  rw [bitAnd_m1]
  by_cases h : d % 2 = 1
  · simp [h]
  · have : d % 2 = 0 := by lia
    simp [this]
theorem ror_sh {d : Int} (hd : oct? d) : ShGo L rorF d q (d / 2 + if q.c then 128 else 0) { q with c := decide (d % 2 = 1), z := ((d / 2 + if q.c then 128 else 0) == 0), n := decide (128 ≤ d / 2 + if q.c then 128 else 0) } := fun σ A k h => by
  unfold rorF
  rw [b1 d, A.p.C]
  have h1 := hd.1
  have h2 := hd.2
  have fin : ∀ {σ' : Cpu}, Abs L σ' { q with c := decide (d % 2 = 1) } → ∀ s : Int, s = d / 2 + (if q.c then 128 else 0) → fnz s σ' (fun σ => k s σ) := by
    intro σ' A' s hs
    rw [hs]
    exact fnz_ok ⟨by split <;> lia, by split <;> lia⟩ A' h
  have sh : ∀ {k : Int → Prop}, k (d / 2) → shr d 1 k := fun hk => shr_ok (by decide) (by rw [fdiv2 h1]; exact hk)
  dsimp only
  cases hc : q.c with
  | true =>
    refine brT ?_
    by_cases e : d % 2 = 1
    · simp only [e, decide_true] at fin ⊢
      refine brT (sh ?_)
      rw [or_128 (by lia) (by lia)]
      refine fin ?_ _ (by rw [hc]; rfl)
      rw [← hc]; exact A
    · simp only [e, decide_false] at fin ⊢
      refine brF (sh ?_)
      rw [or_128 (by lia) (by lia)]
      exact fin A.noP1 _ (by rw [hc]; rfl)
  | false =>
    refine brF ?_
    by_cases e : d % 2 = 1
    · simp only [e, decide_true] at fin ⊢
      refine brT (sh ?_)
      exact fin A.or1 _ (by rw [hc]; simp)
    · simp only [e, decide_false] at fin ⊢
      refine brF (sh ?_)
      refine fin ?_ _ (by rw [hc]; simp)
      rw [← hc]; exact A
theorem onA_go {f : Int → Cpu → (Int → CK) → Prop} {r : Int} (g : ShGo L f q.a q r q') : OpGo L (onA f) q { q' with a := r } := fun σ A k h => by
  unfold onA
  rw [A.a]
  exact g σ A _ fun σ' A' => h _ A'.setA
theorem onM_go (hL : L ≤ 65536) {f : Int → Cpu → (Int → CK) → Prop} {r : Int} (g : AdGo L ad q t) (h0 : 0 ≤ t) (h1 : t < L) (gs : ShGo L f (q.m t) q r q') : OpGo L (onM ad f) q { q' with m := upd q'.m t r } := fun σ A k h => g σ A _ (A.rd hL h0 h1 (gs σ A _ fun σ' A' => A'.wr hL h0 h1 h))
theorem branch_ok (hL : L ≤ 65536) (A : Abs L σ q) (h0 : 0 ≤ q.pc) (h1 : q.pc < L) (hd : 0 ≤ q.m q.pc) (hd2 : q.m q.pc < 128) (hp : q.pc + 1 + q.m q.pc < 65536) (h : ∀ σ', Abs L σ' { q with pc := q.pc + 1 + q.m q.pc } → k σ') : branch σ k := by
  unfold branch
  rw [A.pc]
  refine A.rd hL h0 h1 ?_
  rw [b128 ⟨hd, by lia⟩, decide_eq_false (by lia)]
  refine brF ?_
  have e : bitAnd (q.pc + 1 + q.m q.pc) 65535 = q.pc + 1 + q.m q.pc := by rw [bitAnd_m16]; lia
  dsimp only
  rw [e]
  have fin : ∀ ex : Int, k { σ with exc := ex, pc := q.pc + 1 + q.m q.pc } := fun ex => h _ ⟨A.len, A.mem, rfl, A.sp, A.a, A.x, A.p⟩
  cases (bitAnd (q.pc + 1) 65280 != bitAnd (q.pc + 1 + q.m q.pc) 65280)
  · exact fin _
  · exact fin _
theorem bst_go (hL : L ≤ 65536) {f : Int} {b : Bool} (hf : ∀ σ, Abs L σ q → (bitAnd σ.p f != 0) = b) (h0 : 0 ≤ q.pc) (h1 : q.pc < L) (hd : 0 ≤ q.m q.pc) (hd2 : q.m q.pc < 128) (hp : q.pc + 1 + q.m q.pc < 65536) :
    OpGo L (bst f) q { q with pc := if b then q.pc + 1 + q.m q.pc else q.pc + 1 } := fun σ A k h => by
  unfold bst
  rw [hf σ A]
  cases b with
  | true => exact branch_ok hL A h0 h1 hd hd2 hp h
  | false =>
    refine brF (h _ ?_)
    have := A.setPc (v := σ.pc + 1)
    rw [A.pc] at this ⊢
    exact this
theorem bcl_go (hL : L ≤ 65536) {f : Int} {b : Bool} (hf : ∀ σ, Abs L σ q → (bitAnd σ.p f != 0) = b) (h0 : 0 ≤ q.pc) (h1 : q.pc < L) (hd : 0 ≤ q.m q.pc) (hd2 : q.m q.pc < 128) (hp : q.pc + 1 + q.m q.pc < 65536) :
    OpGo L (bcl f) q { q with pc := if b then q.pc + 1 else q.pc + 1 + q.m q.pc } := fun σ A k h => by
  unfold bcl
  rw [hf σ A]
  cases b with
  | false => exact branch_ok hL A h0 h1 hd hd2 hp h
  | true =>
    refine brT (h _ ?_)
    have := A.setPc (v := σ.pc + 1)
    rw [A.pc] at this ⊢
    exact this
theorem clc_go : OpGo L (clr 1) q { q with c := false } := fun σ A k h => h _ A.noP1
theorem sec_go : OpGo L (set_ 1) q { q with c := true } := fun σ A k h => h _ A.or1
theorem jmp_go (hL : L ≤ 65536) (h0 : 0 ≤ q.pc) (h1 : q.pc + 1 < L) (hi : oct? (q.m (q.pc + 1))) : OpGo L jmp q { q with pc := q.m q.pc + q.m (q.pc + 1) * 256 } := fun σ A k h => absG hL h0 h1 hi σ A _ (h _ A.setPc)
theorem pha_go (hL : L ≤ 65536) (h5 : 512 ≤ L) (hs : oct? q.sp) (ha : oct? q.a) : OpGo L pha q { q with m := upd q.m (q.sp + 256) q.a, sp := (q.sp - 1) % 256 } := fun σ A k h => by
  have h1 := hs.1; have h2 := hs.2; have h3 := ha.1; have h4 := ha.2
  unfold pha push
  rw [A.sp, A.a, bitAnd_m8, Int.emod_eq_of_lt h3 h4]
  refine A.wr hL (by lia) (by lia) fun σ' A' => h _ ?_
  have := A'.setSp (v := bitAnd (σ'.sp - 1) 255)
  rw [bitAnd_m8, A'.sp] at this ⊢
  exact this
theorem pla_go (hL : L ≤ 65536) (h5 : 512 ≤ L) (hv : oct? (q.m ((q.sp + 1) % 256 + 256))) : OpGo L pla q { q with a := q.m ((q.sp + 1) % 256 + 256), sp := (q.sp + 1) % 256, z := (q.m ((q.sp + 1) % 256 + 256) == 0), n := decide (128 ≤ q.m ((q.sp + 1) % 256 + 256)) } := fun σ A k h => by
  unfold pla pull
  rw [bitAnd_m8, A.sp]
  refine A.rd hL (by lia) (by lia) (fnz_ok (q := { q with a := q.m ((q.sp + 1) % 256 + 256), sp := (q.sp + 1) % 256 }) hv ?_ h)
  have := (A.setSp (v := (q.sp + 1) % 256)).setA (v := q.m ((q.sp + 1) % 256 + 256))
  exact this
theorem step1_go {op ex ct : Int} (ho : 0 ≤ op) (ho2 : op < 256) (h0 : 0 ≤ q.pc) (h1 : q.pc + 1 < 65536) (g : OpGo L i { q with pc := q.pc + 1 } q') (h2 : 0 ≤ q'.pc) (h3 : q'.pc < 65536) : OpGo L (step1 op ex ct i) q q' := fun σ A k h => by
  unfold step1
  refine ok1_ok ho ho2 (by decide) (ok1_ok ho ho2 (by decide) ?_)
  refine g _ ?_ _ fun σ' A' => ok1_ok ho ho2 (by decide) (h _ ?_)
  · refine ⟨A.len, A.mem, ?_, A.sp, A.a, A.x, A.p⟩
    show bitAnd (σ.pc + 1) 65535 = q.pc + 1
    rw [bitAnd_m16, A.pc]; lia
  · refine ⟨A'.len, A'.mem, ?_, A'.sp, A'.a, A'.x, A'.p⟩
    show bitAnd σ'.pc 65535 = q'.pc
    rw [bitAnd_m16, A'.pc]; lia
end
end Mine
set_option genSizeOf false
set_option genInjectivity false
set_option maxRecDepth 100000
namespace Mine
open PySem PySem.W PySem.Calls PyProof.Rows Builtin

/-! ## runs -/
noncomputable def ops : List (Int × Op) := [(5, step1 5 0 3 (adv 1 (ora zpA))), (6, step1 6 0 5 (adv 1 (onM zpA aslF))), (10, step1 10 0 2 (onA aslF)), (24, step1 24 0 2 (clr 1)), (37, step1 37 0 3 (adv 1 (and_ zpA))), (38, step1 38 0 5 (adv 1 (onM zpA rolF))), (42, step1 42 0 2 (onA rolF)), (48, step1 48 2 2 (bst 128)), (56, step1 56 0 2 (set_ 1)), (69, step1 69 0 3 (adv 1 (eor zpA))), (72, step1 72 0 3 (pha)), (73, step1 73 0 2 (adv 1 (eor immA))), (74, step1 74 0 2 (onA lsrF)), (76, step1 76 0 3 (jmp)), (80, step1 80 2 2 (bcl 64)), (101, step1 101 0 3 (adv 1 (adc zpA))), (102, step1 102 0 5 (adv 1 (onM zpA rorF))), (104, step1 104 0 4 (pla)), (133, step1 133 0 3 (adv 1 (sta zpA))), (162, step1 162 0 2 (adv 1 (ldx immA))), (165, step1 165 0 3 (adv 1 (lda zpA))), (169, step1 169 0 2 (adv 1 (lda immA))), (176, step1 176 2 2 (bst 1)), (181, step1 181 0 4 (adv 1 (lda zpxA))), (197, step1 197 0 3 (adv 1 (cmp zpA Cpu.a))), (201, step1 201 0 2 (adv 1 (cmp immA Cpu.a))), (208, step1 208 2 2 (bcl 2)), (229, step1 229 0 3 (adv 1 (sbc zpA)))]
noncomputable def Goes (L : Nat) (q q' : Q) : Prop := ∃ op, (q.m q.pc, op) ∈ ops ∧ OpGo L op q q' ∧ 0 ≤ q.pc ∧ q.pc < L
noncomputable def Run (L : Nat) (hi : Int) : Nat → Q → Q → Prop
  | 0, q, q' => q = q'
  | n + 1, q, q' => q.pc < hi ∧ ∃ q₁, Goes L q q₁ ∧ Run L hi n q₁ q'
theorem Run.append {L : Nat} {hi : Int} : ∀ {n k : Nat} {a b c : Q}, Run L hi n a b → Run L hi k b c → Run L hi (n + k) a c
  | 0, k, a, b, c, h, h' => by cases h; rw [Nat.zero_add]; exact h'
  | n + 1, k, a, b, c, ⟨h0, q₁, h1, h2⟩, h' => by
    rw [Nat.succ_add]
    exact ⟨h0, q₁, h1, h2.append h'⟩
theorem Run.mono {L : Nat} {hi hi' : Int} (le : hi ≤ hi') : ∀ {n : Nat} {a b : Q}, Run L hi n a b → Run L hi' n a b
  | 0, _, _, h => h
  | _ + 1, _, _, ⟨h0, q₁, h1, h2⟩ => ⟨Int.lt_of_lt_of_le h0 le, q₁, h1, h2.mono le⟩
noncomputable def Reach (L : Nat) (hi : Int) (n : Nat) (q : Q) (P : Q → Prop) : Prop := ∃ q', Run L hi n q q' ∧ P q'
theorem Reach.done {L : Nat} {hi : Int} {q : Q} {P : Q → Prop} (h : P q) : Reach L hi 0 q P := ⟨q, rfl, h⟩
theorem Reach.then {L : Nat} {hi : Int} {n k : Nat} {q : Q} {P R : Q → Prop} (h : Reach L hi n q P) (h' : ∀ q', P q' → Reach L hi k q' R) : Reach L hi (n + k) q R := by
  obtain ⟨q₁, h1, h2⟩ := h
  obtain ⟨q₂, h3, h4⟩ := h' q₁ h2
  exact ⟨q₂, h1.append h3, h4⟩
theorem Reach.imp {L : Nat} {hi : Int} {n : Nat} {q : Q} {P R : Q → Prop} (h : Reach L hi n q P) (h' : ∀ q', P q' → R q') : Reach L hi n q R := by
  obtain ⟨q₁, h1, h2⟩ := h
  exact ⟨q₁, h1, h' _ h2⟩
section
variable {L : Nat} {hi : Int} {k : Nat} {P : Q → Prop} {m : Int → Int} {pc sp a x : Int} {c z n v : Bool} {npc w u t : Int}
theorem r_one {q q₁ : Q} {o ex ct : Int} {i : Op} (h0 : q.m q.pc = o) (hm : (o, step1 o ex ct i) ∈ ops) (ho : 0 ≤ o) (ho2 : o < 256) (b0 : 0 ≤ q.pc) (b1 : q.pc + 1 < L) (hL : L ≤ 65536) (hh : q.pc < hi)
    (g : OpGo L i { q with pc := q.pc + 1 } q₁) (c0 : 0 ≤ q₁.pc) (c1 : q₁.pc < 65536) (K : Reach L hi k q₁ P) : Reach L hi (k + 1) q P := by
  obtain ⟨q', h1, h2⟩ := K
  exact ⟨q', ⟨hh, q₁, ⟨_, by rw [h0]; exact hm, step1_go ho ho2 b0 (by lia) g c0 c1, b0, by lia⟩, h1⟩, h2⟩
theorem opm {x : Int × Op} (i : Nat) (h : ops[i]? = some x) : x ∈ ops := List.mem_of_getElem? h
theorem p1 {y : Int} (h : 0 ≤ y) : 0 ≤ y + 1 := Int.add_nonneg h (by decide)
theorem pL {y : Int} (h : y + 2 < L) : y + 1 < L := by lia
theorem zlt (h : 512 ≤ L) {y : Int} (hy : oct? y) : y < L := by have := hy.2; lia
theorem mlt (h : 512 ≤ L) {y : Int} : y % 256 < L := by lia
theorem m256 {y : Int} : 0 ≤ y % 256 := Int.emod_nonneg _ (by decide)
theorem zpG2 {q : Q} (hL : L ≤ 65536) (b0 : 0 ≤ q.pc) (b1 : q.pc + 2 < L) : AdGo L zpA { q with pc := q.pc + 1 } (q.m (q.pc + 1)) := zpG hL (p1 b0) (pL b1)
theorem zpxG2 {q : Q} (hL : L ≤ 65536) (b0 : 0 ≤ q.pc) (b1 : q.pc + 2 < L) : AdGo L zpxA { q with pc := q.pc + 1 } ((q.x + q.m (q.pc + 1)) % 256) := zpxG hL (p1 b0) (pL b1)
theorem r_sgl {q q₁ : Q} {o ex ct : Int} {i : Op} (h0 : q.m q.pc = o) (hm : (o, step1 o ex ct i) ∈ ops) (ho : 0 ≤ o) (ho2 : o < 256) (b0 : 0 ≤ q.pc) (b1 : q.pc + 1 < L) (hL : L ≤ 65536) (hh : q.pc < hi)
    (g : OpGo L i { q with pc := q.pc + 1 } q₁) (hp : q₁.pc = q.pc + 1) (K : Reach L hi k q₁ P) : Reach L hi (k + 1) q P :=
  r_one h0 hm ho ho2 b0 b1 hL hh g (by rw [hp]; exact p1 b0) (by rw [hp]; lia) K
theorem r_adv {q q₁ : Q} {o ex ct : Int} {i : Op} (h0 : q.m q.pc = o) (hm : (o, step1 o ex ct (adv 1 i)) ∈ ops) (ho : 0 ≤ o) (ho2 : o < 256) (b0 : 0 ≤ q.pc) (b1 : q.pc + 2 < L) (hL : L ≤ 65536) (hh : q.pc < hi)
    (g : OpGo L i { q with pc := q.pc + 1 } q₁) (hp : q₁.pc = q.pc + 1) (K : Reach L hi k { q₁ with pc := q.pc + 2 } P) : Reach L hi (k + 1) q P := by
  have e : q₁.pc + 1 = q.pc + 2 := by rw [hp, Int.add_assoc]; rfl
  have g2 := adv_go (n := 1) g
  rw [e] at g2
  exact r_one h0 hm ho ho2 b0 (pL b1) hL hh g2 (Int.add_nonneg b0 (by decide)) (by show q.pc + 2 < 65536; lia) K
theorem r_brc {q : Q} {o ex ct f : Int} {b s : Bool} {i : Op} (h0 : q.m q.pc = o) (hm : (o, step1 o ex ct i) ∈ ops) (ho : 0 ≤ o) (ho2 : o < 256) (b0 : 0 ≤ q.pc) (b1 : q.pc + 2 < L) (hL : L ≤ 65536) (hh : q.pc < hi)
    (hi' : i = if s then bst f else bcl f) (hf : ∀ σ, Abs L σ { q with pc := q.pc + 1 } → (bitAnd σ.p f != 0) = b) (u0 : 0 ≤ q.m (q.pc + 1)) (u1 : q.m (q.pc + 1) < 128) (b2 : q.pc + 2 + q.m (q.pc + 1) < 65536)
    (K : Reach L hi k { q with pc := if b == s then q.pc + 2 + q.m (q.pc + 1) else q.pc + 2 } P) : Reach L hi (k + 1) q P := by
  have e : q.pc + 1 + 1 = q.pc + 2 := by rw [Int.add_assoc]; rfl
  have g : OpGo L i { q with pc := q.pc + 1 } { q with pc := if b == s then q.pc + 2 + q.m (q.pc + 1) else q.pc + 2 } := by
    rw [hi', ← e]
    cases s with
    | true =>
      have := bst_go (q := { q with pc := q.pc + 1 }) hL hf (p1 b0) (pL b1) u0 u1 (by rw [show ({ q with pc := q.pc + 1 } : Q).pc + 1 = q.pc + 2 from e]; exact b2)
      cases b <;> exact this
    | false =>
      have := bcl_go (q := { q with pc := q.pc + 1 }) hL hf (p1 b0) (pL b1) u0 u1 (by rw [show ({ q with pc := q.pc + 1 } : Q).pc + 1 = q.pc + 2 from e]; exact b2)
      cases b <;> exact this
  refine r_one h0 hm ho ho2 b0 (pL b1) hL hh g ?_ ?_ K
  · show 0 ≤ if b == s then q.pc + 2 + q.m (q.pc + 1) else q.pc + 2
    split <;> lia
  · show (if b == s then q.pc + 2 + q.m (q.pc + 1) else q.pc + 2) < 65536
    split <;> lia
theorem r_lda (hL : L ≤ 65536) (b0 : 0 ≤ pc) (b1 : pc + 2 < L) (h5 : 512 ≤ L) (hh : pc < hi) (h0 : m pc = 165) (h1 : m (pc + 1) = w) (hw : oct? w) (hu : m w = u) (bu : oct? u) (hn : npc = pc + 2) (K : Reach L hi k ⟨m, npc, sp, u, x, c, (u == 0), decide (128 ≤ u), v⟩ P) : Reach L hi (k + 1) ⟨m, pc, sp, a, x, c, z, n, v⟩ P := by
  subst hn h1 hu
  have g := lda_go hL (zpG2 (q := ⟨m, pc, sp, a, x, c, z, n, v⟩) hL b0 b1) hw.1 (zlt h5 hw) bu
  exact r_adv (q := ⟨m, pc, sp, a, x, c, z, n, v⟩) (ex := 0) (ct := 3) h0 (opm 20 rfl) (by decide) (by decide) b0 b1 hL hh g rfl K
theorem r_sta (hL : L ≤ 65536) (b0 : 0 ≤ pc) (b1 : pc + 2 < L) (h5 : 512 ≤ L) (hh : pc < hi) (h0 : m pc = 133) (h1 : m (pc + 1) = w) (hw : oct? w) (hu : m w = u) (hn : npc = pc + 2) (K : Reach L hi k ⟨upd m w a, npc, sp, a, x, c, z, n, v⟩ P) : Reach L hi (k + 1) ⟨m, pc, sp, a, x, c, z, n, v⟩ P := by
  subst hn h1 hu
  have g := sta_go hL (zpG2 (q := ⟨m, pc, sp, a, x, c, z, n, v⟩) hL b0 b1) hw.1 (zlt h5 hw)
  exact r_adv (q := ⟨m, pc, sp, a, x, c, z, n, v⟩) (ex := 0) (ct := 3) h0 (opm 18 rfl) (by decide) (by decide) b0 b1 hL hh g rfl K
theorem r_and (hL : L ≤ 65536) (b0 : 0 ≤ pc) (b1 : pc + 2 < L) (h5 : 512 ≤ L) (hh : pc < hi) (h0 : m pc = 37) (h1 : m (pc + 1) = w) (hw : oct? w) (hu : m w = u) (bu : oct? (bitAnd a u)) (hn : npc = pc + 2) (K : Reach L hi k ⟨m, npc, sp, bitAnd a u, x, c, (bitAnd a u == 0), decide (128 ≤ bitAnd a u), v⟩ P) : Reach L hi (k + 1) ⟨m, pc, sp, a, x, c, z, n, v⟩ P := by
  subst hn h1 hu
  have g := bits_go hL (f := bitAnd) and_ rfl (zpG2 (q := ⟨m, pc, sp, a, x, c, z, n, v⟩) hL b0 b1) hw.1 (zlt h5 hw) bu
  exact r_adv (q := ⟨m, pc, sp, a, x, c, z, n, v⟩) (ex := 0) (ct := 3) h0 (opm 4 rfl) (by decide) (by decide) b0 b1 hL hh g rfl K
theorem r_ora (hL : L ≤ 65536) (b0 : 0 ≤ pc) (b1 : pc + 2 < L) (h5 : 512 ≤ L) (hh : pc < hi) (h0 : m pc = 5) (h1 : m (pc + 1) = w) (hw : oct? w) (hu : m w = u) (bu : oct? (bitOr a u)) (hn : npc = pc + 2) (K : Reach L hi k ⟨m, npc, sp, bitOr a u, x, c, (bitOr a u == 0), decide (128 ≤ bitOr a u), v⟩ P) : Reach L hi (k + 1) ⟨m, pc, sp, a, x, c, z, n, v⟩ P := by
  subst hn h1 hu
  have g := bits_go hL (f := bitOr) ora rfl (zpG2 (q := ⟨m, pc, sp, a, x, c, z, n, v⟩) hL b0 b1) hw.1 (zlt h5 hw) bu
  exact r_adv (q := ⟨m, pc, sp, a, x, c, z, n, v⟩) (ex := 0) (ct := 3) h0 (opm 0 rfl) (by decide) (by decide) b0 b1 hL hh g rfl K
theorem r_eor (hL : L ≤ 65536) (b0 : 0 ≤ pc) (b1 : pc + 2 < L) (h5 : 512 ≤ L) (hh : pc < hi) (h0 : m pc = 69) (h1 : m (pc + 1) = w) (hw : oct? w) (hu : m w = u) (bu : oct? (bitXor a u)) (hn : npc = pc + 2) (K : Reach L hi k ⟨m, npc, sp, bitXor a u, x, c, (bitXor a u == 0), decide (128 ≤ bitXor a u), v⟩ P) : Reach L hi (k + 1) ⟨m, pc, sp, a, x, c, z, n, v⟩ P := by
  subst hn h1 hu
  have g := bits_go hL (f := bitXor) eor rfl (zpG2 (q := ⟨m, pc, sp, a, x, c, z, n, v⟩) hL b0 b1) hw.1 (zlt h5 hw) bu
  exact r_adv (q := ⟨m, pc, sp, a, x, c, z, n, v⟩) (ex := 0) (ct := 3) h0 (opm 9 rfl) (by decide) (by decide) b0 b1 hL hh g rfl K
theorem r_adc (hL : L ≤ 65536) (b0 : 0 ≤ pc) (b1 : pc + 2 < L) (h5 : 512 ≤ L) (hh : pc < hi) (h0 : m pc = 101) (h1 : m (pc + 1) = w) (hw : oct? w) (hu : m w = u) (bu : oct? u) (ba : oct? a) (hn : npc = pc + 2) (K : ∀ b : Bool, Reach L hi k ⟨m, npc, sp, (u + a + if c then 1 else 0) % 256, x, decide (255 < (u + a + if c then 1 else 0)), ((u + a + if c then 1 else 0) % 256 == 0), decide (128 ≤ (u + a + if c then 1 else 0) % 256), b⟩ P) : Reach L hi (k + 1) ⟨m, pc, sp, a, x, c, z, n, v⟩ P := by
  subst hn h1 hu
  obtain ⟨bb, g⟩ := adc_go hL (zpG2 (q := ⟨m, pc, sp, a, x, c, z, n, v⟩) hL b0 b1) hw.1 (zlt h5 hw) bu ba
  exact r_adv (q := ⟨m, pc, sp, a, x, c, z, n, v⟩) (ex := 0) (ct := 3) h0 (opm 15 rfl) (by decide) (by decide) b0 b1 hL hh g rfl (K bb)
theorem r_sbc (hL : L ≤ 65536) (b0 : 0 ≤ pc) (b1 : pc + 2 < L) (h5 : 512 ≤ L) (hh : pc < hi) (h0 : m pc = 229) (h1 : m (pc + 1) = w) (hw : oct? w) (hu : m w = u) (bu : oct? u) (ba : oct? a) (hn : npc = pc + 2) (K : Reach L hi k ⟨m, npc, sp, (a + (255 - u) + if c then 1 else 0) % 256, x, decide (255 < (a + (255 - u) + if c then 1 else 0)), ((a + (255 - u) + if c then 1 else 0) % 256 == 0), decide (128 ≤ (a + (255 - u) + if c then 1 else 0) % 256), (bitAnd (bitAnd (bitXor a u) (bitXor a (a + (255 - u) + if c then 1 else 0))) 128 != 0)⟩ P) : Reach L hi (k + 1) ⟨m, pc, sp, a, x, c, z, n, v⟩ P := by
  subst hn h1 hu
  have g := sbc_go hL (zpG2 (q := ⟨m, pc, sp, a, x, c, z, n, v⟩) hL b0 b1) hw.1 (zlt h5 hw) bu ba
  exact r_adv (q := ⟨m, pc, sp, a, x, c, z, n, v⟩) (ex := 0) (ct := 3) h0 (opm 27 rfl) (by decide) (by decide) b0 b1 hL hh g rfl K
theorem r_cmp (hL : L ≤ 65536) (b0 : 0 ≤ pc) (b1 : pc + 2 < L) (h5 : 512 ≤ L) (hh : pc < hi) (h0 : m pc = 197) (h1 : m (pc + 1) = w) (hw : oct? w) (hu : m w = u) (bu : oct? u) (ba : oct? a) (hn : npc = pc + 2) (K : ∀ b : Bool, Reach L hi k ⟨m, npc, sp, a, x, decide (u ≤ a), (a == u), b, v⟩ P) : Reach L hi (k + 1) ⟨m, pc, sp, a, x, c, z, n, v⟩ P := by
  subst hn h1 hu
  obtain ⟨bb, g⟩ := cmpA_go hL (zpG2 (q := ⟨m, pc, sp, a, x, c, z, n, v⟩) hL b0 b1) hw.1 (zlt h5 hw) bu ba
  exact r_adv (q := ⟨m, pc, sp, a, x, c, z, n, v⟩) (ex := 0) (ct := 3) h0 (opm 24 rfl) (by decide) (by decide) b0 b1 hL hh g rfl (K bb)
theorem r_asl (hL : L ≤ 65536) (b0 : 0 ≤ pc) (b1 : pc + 2 < L) (h5 : 512 ≤ L) (hh : pc < hi) (h0 : m pc = 6) (h1 : m (pc + 1) = w) (hw : oct? w) (hu : m w = u) (bu : oct? u) (hn : npc = pc + 2) (K : Reach L hi k ⟨upd m w (2 * u % 256), npc, sp, a, x, decide (128 ≤ u), (2 * u % 256 == 0), decide (128 ≤ 2 * u % 256), v⟩ P) : Reach L hi (k + 1) ⟨m, pc, sp, a, x, c, z, n, v⟩ P := by
  subst hn h1 hu
  have g := onM_go hL (zpG2 (q := ⟨m, pc, sp, a, x, c, z, n, v⟩) hL b0 b1) hw.1 (zlt h5 hw) (asl_sh bu)
  exact r_adv (q := ⟨m, pc, sp, a, x, c, z, n, v⟩) (ex := 0) (ct := 5) h0 (opm 1 rfl) (by decide) (by decide) b0 b1 hL hh g rfl K
theorem r_rol (hL : L ≤ 65536) (b0 : 0 ≤ pc) (b1 : pc + 2 < L) (h5 : 512 ≤ L) (hh : pc < hi) (h0 : m pc = 38) (h1 : m (pc + 1) = w) (hw : oct? w) (hu : m w = u) (bu : oct? u) (hn : npc = pc + 2) (K : Reach L hi k ⟨upd m w ((2 * u + if c then 1 else 0) % 256), npc, sp, a, x, decide (128 ≤ u), (((2 * u + if c then 1 else 0) % 256) == 0), decide (128 ≤ ((2 * u + if c then 1 else 0) % 256)), v⟩ P) : Reach L hi (k + 1) ⟨m, pc, sp, a, x, c, z, n, v⟩ P := by
  subst hn h1 hu
  have g := onM_go hL (zpG2 (q := ⟨m, pc, sp, a, x, c, z, n, v⟩) hL b0 b1) hw.1 (zlt h5 hw) (rol_sh bu)
  exact r_adv (q := ⟨m, pc, sp, a, x, c, z, n, v⟩) (ex := 0) (ct := 5) h0 (opm 5 rfl) (by decide) (by decide) b0 b1 hL hh g rfl K
theorem r_ror (hL : L ≤ 65536) (b0 : 0 ≤ pc) (b1 : pc + 2 < L) (h5 : 512 ≤ L) (hh : pc < hi) (h0 : m pc = 102) (h1 : m (pc + 1) = w) (hw : oct? w) (hu : m w = u) (bu : oct? u) (hn : npc = pc + 2) (K : Reach L hi k ⟨upd m w (u / 2 + if c then 128 else 0), npc, sp, a, x, decide (u % 2 = 1), ((u / 2 + if c then 128 else 0) == 0), decide (128 ≤ (u / 2 + if c then 128 else 0)), v⟩ P) : Reach L hi (k + 1) ⟨m, pc, sp, a, x, c, z, n, v⟩ P := by
  subst hn h1 hu
  have g := onM_go hL (zpG2 (q := ⟨m, pc, sp, a, x, c, z, n, v⟩) hL b0 b1) hw.1 (zlt h5 hw) (ror_sh bu)
  exact r_adv (q := ⟨m, pc, sp, a, x, c, z, n, v⟩) (ex := 0) (ct := 5) h0 (opm 16 rfl) (by decide) (by decide) b0 b1 hL hh g rfl K
theorem r_ldaI (hL : L ≤ 65536) (b0 : 0 ≤ pc) (b1 : pc + 2 < L) (h5 : 512 ≤ L) (hh : pc < hi) (h0 : m pc = 169) (hu : m (pc + 1) = u) (bu : oct? u) (hn : npc = pc + 2) (K : Reach L hi k ⟨m, npc, sp, u, x, c, (u == 0), decide (128 ≤ u), v⟩ P) : Reach L hi (k + 1) ⟨m, pc, sp, a, x, c, z, n, v⟩ P := by
  subst hn hu
  have g := lda_go hL (immG (q := ⟨m, pc + 1, sp, a, x, c, z, n, v⟩)) (p1 b0) (pL b1) bu
  exact r_adv (q := ⟨m, pc, sp, a, x, c, z, n, v⟩) (ex := 0) (ct := 2) h0 (opm 21 rfl) (by decide) (by decide) b0 b1 hL hh g rfl K
theorem r_ldxI (hL : L ≤ 65536) (b0 : 0 ≤ pc) (b1 : pc + 2 < L) (h5 : 512 ≤ L) (hh : pc < hi) (h0 : m pc = 162) (hu : m (pc + 1) = u) (bu : oct? u) (hn : npc = pc + 2) (K : Reach L hi k ⟨m, npc, sp, a, u, c, (u == 0), decide (128 ≤ u), v⟩ P) : Reach L hi (k + 1) ⟨m, pc, sp, a, x, c, z, n, v⟩ P := by
  subst hn hu
  have g := ldx_go hL (immG (q := ⟨m, pc + 1, sp, a, x, c, z, n, v⟩)) (p1 b0) (pL b1) bu
  exact r_adv (q := ⟨m, pc, sp, a, x, c, z, n, v⟩) (ex := 0) (ct := 2) h0 (opm 19 rfl) (by decide) (by decide) b0 b1 hL hh g rfl K
theorem r_eorI (hL : L ≤ 65536) (b0 : 0 ≤ pc) (b1 : pc + 2 < L) (h5 : 512 ≤ L) (hh : pc < hi) (h0 : m pc = 73) (hu : m (pc + 1) = u) (bu : oct? (bitXor a u)) (hn : npc = pc + 2) (K : Reach L hi k ⟨m, npc, sp, bitXor a u, x, c, (bitXor a u == 0), decide (128 ≤ bitXor a u), v⟩ P) : Reach L hi (k + 1) ⟨m, pc, sp, a, x, c, z, n, v⟩ P := by
  subst hn hu
  have g := bits_go hL (f := bitXor) eor rfl (immG (q := ⟨m, pc + 1, sp, a, x, c, z, n, v⟩)) (p1 b0) (pL b1) bu
  exact r_adv (q := ⟨m, pc, sp, a, x, c, z, n, v⟩) (ex := 0) (ct := 2) h0 (opm 11 rfl) (by decide) (by decide) b0 b1 hL hh g rfl K
theorem r_cmpI (hL : L ≤ 65536) (b0 : 0 ≤ pc) (b1 : pc + 2 < L) (h5 : 512 ≤ L) (hh : pc < hi) (h0 : m pc = 201) (hu : m (pc + 1) = u) (bu : oct? u) (ba : oct? a) (hn : npc = pc + 2) (K : ∀ b : Bool, Reach L hi k ⟨m, npc, sp, a, x, decide (u ≤ a), (a == u), b, v⟩ P) : Reach L hi (k + 1) ⟨m, pc, sp, a, x, c, z, n, v⟩ P := by
  subst hn hu
  obtain ⟨bb, g⟩ := cmpA_go hL (immG (q := ⟨m, pc + 1, sp, a, x, c, z, n, v⟩)) (p1 b0) (pL b1) bu ba
  exact r_adv (q := ⟨m, pc, sp, a, x, c, z, n, v⟩) (ex := 0) (ct := 2) h0 (opm 25 rfl) (by decide) (by decide) b0 b1 hL hh g rfl (K bb)
theorem r_ldaX (hL : L ≤ 65536) (b0 : 0 ≤ pc) (b1 : pc + 2 < L) (h5 : 512 ≤ L) (hh : pc < hi) (h0 : m pc = 181) (h1 : m (pc + 1) = w) (ht : t = (x + w) % 256) (hu : m t = u) (bu : oct? u) (hn : npc = pc + 2) (K : Reach L hi k ⟨m, npc, sp, u, x, c, (u == 0), decide (128 ≤ u), v⟩ P) : Reach L hi (k + 1) ⟨m, pc, sp, a, x, c, z, n, v⟩ P := by
  subst hn h1 hu ht
  have g := lda_go hL (zpxG2 (q := ⟨m, pc, sp, a, x, c, z, n, v⟩) hL b0 b1) m256 (mlt h5) bu
  exact r_adv (q := ⟨m, pc, sp, a, x, c, z, n, v⟩) (ex := 0) (ct := 4) h0 (opm 23 rfl) (by decide) (by decide) b0 b1 hL hh g rfl K
theorem r_clc (hL : L ≤ 65536) (b0 : 0 ≤ pc) (b1 : pc + 1 < L) (h5 : 512 ≤ L) (hh : pc < hi) (h0 : m pc = 24) (hn : npc = pc + 1) (K : Reach L hi k ⟨m, npc, sp, a, x, false, z, n, v⟩ P) : Reach L hi (k + 1) ⟨m, pc, sp, a, x, c, z, n, v⟩ P := by
  subst hn
  have g := clc_go (L := L) (q := { m := m, pc := pc + 1, sp := sp, a := a, x := x, c := c, z := z, n := n, v := v })
  exact r_sgl (q := ⟨m, pc, sp, a, x, c, z, n, v⟩) (ex := 0) (ct := 2) h0 (opm 3 rfl) (by decide) (by decide) b0 b1 hL hh g rfl K

theorem r_sec (hL : L ≤ 65536) (b0 : 0 ≤ pc) (b1 : pc + 1 < L) (h5 : 512 ≤ L) (hh : pc < hi) (h0 : m pc = 56) (hn : npc = pc + 1) (K : Reach L hi k ⟨m, npc, sp, a, x, true, z, n, v⟩ P) : Reach L hi (k + 1) ⟨m, pc, sp, a, x, c, z, n, v⟩ P := by
  subst hn
  have g := sec_go (L := L) (q := { m := m, pc := pc + 1, sp := sp, a := a, x := x, c := c, z := z, n := n, v := v })
  exact r_sgl (q := ⟨m, pc, sp, a, x, c, z, n, v⟩) (ex := 0) (ct := 2) h0 (opm 8 rfl) (by decide) (by decide) b0 b1 hL hh g rfl K

theorem r_aslA (hL : L ≤ 65536) (b0 : 0 ≤ pc) (b1 : pc + 1 < L) (h5 : 512 ≤ L) (hh : pc < hi) (h0 : m pc = 10) (ba : oct? a) (hn : npc = pc + 1) (K : Reach L hi k ⟨m, npc, sp, 2 * a % 256, x, decide (128 ≤ a), (2 * a % 256 == 0), decide (128 ≤ 2 * a % 256), v⟩ P) : Reach L hi (k + 1) ⟨m, pc, sp, a, x, c, z, n, v⟩ P := by
  subst hn
  have g := onA_go (asl_sh (L := L) (q := { m := m, pc := pc + 1, sp := sp, a := a, x := x, c := c, z := z, n := n, v := v }) ba)
  exact r_sgl (q := ⟨m, pc, sp, a, x, c, z, n, v⟩) (ex := 0) (ct := 2) h0 (opm 2 rfl) (by decide) (by decide) b0 b1 hL hh g rfl K

theorem r_rolA (hL : L ≤ 65536) (b0 : 0 ≤ pc) (b1 : pc + 1 < L) (h5 : 512 ≤ L) (hh : pc < hi) (h0 : m pc = 42) (ba : oct? a) (hn : npc = pc + 1) (K : Reach L hi k ⟨m, npc, sp, ((2 * a + if c then 1 else 0) % 256), x, decide (128 ≤ a), (((2 * a + if c then 1 else 0) % 256) == 0), decide (128 ≤ ((2 * a + if c then 1 else 0) % 256)), v⟩ P) : Reach L hi (k + 1) ⟨m, pc, sp, a, x, c, z, n, v⟩ P := by
  subst hn
  have g := onA_go (rol_sh (L := L) (q := { m := m, pc := pc + 1, sp := sp, a := a, x := x, c := c, z := z, n := n, v := v }) ba)
  exact r_sgl (q := ⟨m, pc, sp, a, x, c, z, n, v⟩) (ex := 0) (ct := 2) h0 (opm 6 rfl) (by decide) (by decide) b0 b1 hL hh g rfl K

theorem r_lsrA (hL : L ≤ 65536) (b0 : 0 ≤ pc) (b1 : pc + 1 < L) (h5 : 512 ≤ L) (hh : pc < hi) (h0 : m pc = 74) (ba : oct? a) (hn : npc = pc + 1) (K : Reach L hi k ⟨m, npc, sp, a / 2, x, decide (a % 2 = 1), (a / 2 == 0), false, v⟩ P) : Reach L hi (k + 1) ⟨m, pc, sp, a, x, c, z, n, v⟩ P := by
  subst hn
  have g := onA_go (lsr_sh (L := L) (q := { m := m, pc := pc + 1, sp := sp, a := a, x := x, c := c, z := z, n := n, v := v }) ba)
  exact r_sgl (q := ⟨m, pc, sp, a, x, c, z, n, v⟩) (ex := 0) (ct := 2) h0 (opm 12 rfl) (by decide) (by decide) b0 b1 hL hh g rfl K

theorem r_pha (hL : L ≤ 65536) (b0 : 0 ≤ pc) (b1 : pc + 1 < L) (h5 : 512 ≤ L) (hh : pc < hi) (h0 : m pc = 72) (hs : oct? sp) (ba : oct? a) (hn : npc = pc + 1) (K : Reach L hi k ⟨upd m (sp + 256) a, npc, (sp - 1) % 256, a, x, c, z, n, v⟩ P) : Reach L hi (k + 1) ⟨m, pc, sp, a, x, c, z, n, v⟩ P := by
  subst hn
  have g := pha_go hL h5 (q := { m := m, pc := pc + 1, sp := sp, a := a, x := x, c := c, z := z, n := n, v := v }) hs ba
  exact r_sgl (q := ⟨m, pc, sp, a, x, c, z, n, v⟩) (ex := 0) (ct := 3) h0 (opm 10 rfl) (by decide) (by decide) b0 b1 hL hh g rfl K

theorem r_pla (hL : L ≤ 65536) (b0 : 0 ≤ pc) (b1 : pc + 1 < L) (h5 : 512 ≤ L) (hh : pc < hi) (h0 : m pc = 104) (hu : m ((sp + 1) % 256 + 256) = u) (bu : oct? u) (hn : npc = pc + 1) (K : Reach L hi k ⟨m, npc, (sp + 1) % 256, u, x, c, (u == 0), decide (128 ≤ u), v⟩ P) : Reach L hi (k + 1) ⟨m, pc, sp, a, x, c, z, n, v⟩ P := by
  subst hn
  have g := (by rw [← hu] at bu ⊢; exact pla_go hL h5 (q := { m := m, pc := pc + 1, sp := sp, a := a, x := x, c := c, z := z, n := n, v := v }) bu : OpGo L pla { m := m, pc := pc + 1, sp := sp, a := a, x := x, c := c, z := z, n := n, v := v } { m := m, pc := pc + 1, sp := (sp + 1) % 256, a := u, x := x, c := c, z := (u == 0), n := decide (128 ≤ u), v := v })
  exact r_sgl (q := ⟨m, pc, sp, a, x, c, z, n, v⟩) (ex := 0) (ct := 4) h0 (opm 17 rfl) (by decide) (by decide) b0 b1 hL hh g rfl K

theorem r_bvc (hL : L ≤ 65536) (b0 : 0 ≤ pc) (b1 : pc + 2 < L) (h5 : 512 ≤ L) (hh : pc < hi) (h0 : m pc = 80) (hu : m (pc + 1) = u) (u0 : 0 ≤ u) (u1 : u < 128) (b2 : pc + 2 + u < 65536) (K : Reach L hi k ⟨m, if v then pc + 2 else pc + 2 + u, sp, a, x, c, z, n, v⟩ P) : Reach L hi (k + 1) ⟨m, pc, sp, a, x, c, z, n, v⟩ P := by
  subst hu
  refine r_brc (q := ⟨m, pc, sp, a, x, c, z, n, v⟩) (ex := 2) (ct := 2) (f := 64) (b := v) (s := false) h0 (opm 14 rfl) (by decide) (by decide) b0 b1 hL hh rfl (fun σ A => A.p.V) u0 u1 b2 ?_
  cases v <;> exact K
theorem r_bne (hL : L ≤ 65536) (b0 : 0 ≤ pc) (b1 : pc + 2 < L) (h5 : 512 ≤ L) (hh : pc < hi) (h0 : m pc = 208) (hu : m (pc + 1) = u) (u0 : 0 ≤ u) (u1 : u < 128) (b2 : pc + 2 + u < 65536) (K : Reach L hi k ⟨m, if z then pc + 2 else pc + 2 + u, sp, a, x, c, z, n, v⟩ P) : Reach L hi (k + 1) ⟨m, pc, sp, a, x, c, z, n, v⟩ P := by
  subst hu
  refine r_brc (q := ⟨m, pc, sp, a, x, c, z, n, v⟩) (ex := 2) (ct := 2) (f := 2) (b := z) (s := false) h0 (opm 26 rfl) (by decide) (by decide) b0 b1 hL hh rfl (fun σ A => A.p.Z) u0 u1 b2 ?_
  cases z <;> exact K
theorem r_bcs (hL : L ≤ 65536) (b0 : 0 ≤ pc) (b1 : pc + 2 < L) (h5 : 512 ≤ L) (hh : pc < hi) (h0 : m pc = 176) (hu : m (pc + 1) = u) (u0 : 0 ≤ u) (u1 : u < 128) (b2 : pc + 2 + u < 65536) (K : Reach L hi k ⟨m, if c then pc + 2 + u else pc + 2, sp, a, x, c, z, n, v⟩ P) : Reach L hi (k + 1) ⟨m, pc, sp, a, x, c, z, n, v⟩ P := by
  subst hu
  refine r_brc (q := ⟨m, pc, sp, a, x, c, z, n, v⟩) (ex := 2) (ct := 2) (f := 1) (b := c) (s := true) h0 (opm 22 rfl) (by decide) (by decide) b0 b1 hL hh rfl (fun σ A => A.p.C) u0 u1 b2 ?_
  cases c <;> exact K
theorem r_bmi (hL : L ≤ 65536) (b0 : 0 ≤ pc) (b1 : pc + 2 < L) (h5 : 512 ≤ L) (hh : pc < hi) (h0 : m pc = 48) (hu : m (pc + 1) = u) (u0 : 0 ≤ u) (u1 : u < 128) (b2 : pc + 2 + u < 65536) (K : Reach L hi k ⟨m, if n then pc + 2 + u else pc + 2, sp, a, x, c, z, n, v⟩ P) : Reach L hi (k + 1) ⟨m, pc, sp, a, x, c, z, n, v⟩ P := by
  subst hu
  refine r_brc (q := ⟨m, pc, sp, a, x, c, z, n, v⟩) (ex := 2) (ct := 2) (f := 128) (b := n) (s := true) h0 (opm 7 rfl) (by decide) (by decide) b0 b1 hL hh rfl (fun σ A => A.p.N) u0 u1 b2 ?_
  cases n <;> exact K
theorem r_jmp (hL : L ≤ 65536) (b0 : 0 ≤ pc) (b1 : pc + 3 < L) (h5 : 512 ≤ L) (hh : pc < hi) (h0 : m pc = 76) (hw : m (pc + 1) = w) (hu : m (pc + 2) = u) (bw : oct? w) (bu : oct? u) (hn : npc = w + u * 256) (K : Reach L hi k ⟨m, npc, sp, a, x, c, z, n, v⟩ P) : Reach L hi (k + 1) ⟨m, pc, sp, a, x, c, z, n, v⟩ P := by
  have e : pc + 1 + 1 = pc + 2 := by lia
  have b3 := bw.1; have b4 := bw.2; have b5 := bu.1; have b6 := bu.2
  have g := jmp_go hL (L := L) (q := { m := m, pc := pc + 1, sp := sp, a := a, x := x, c := c, z := z, n := n, v := v }) (by first | lia | (dsimp only; lia)) (by first | lia | (dsimp only; lia)) (by dsimp only; rw [e, hu]; exact bu)
  dsimp only at g
  rw [e, hw, hu, ← hn] at g
  exact r_one (ex := 0) (ct := 3) h0 (opm 13 rfl) (by decide) (by decide) b0 (by first | lia | (dsimp only; lia)) hL hh g (by first | lia | (dsimp only; lia)) (by first | lia | (dsimp only; lia)) K
end
end Mine
set_option genSizeOf false
set_option genInjectivity false
set_option maxRecDepth 100000
namespace Mine
open PySem PySem.W PySem.Calls PyProof.Rows Builtin

/-! ## bits of two octets -/
theorem nat_xor_and (a b : Nat) : (a ^^^ b) + 2 * (a &&& b) = a + b := by
  have h1 := nat_or_add_and (a ^^^ b) (a &&& b)
  have h2 := nat_or_add_and a b
  have e1 : (a ^^^ b) ||| (a &&& b) = a ||| b := by
    apply Nat.eq_of_testBit_eq
    intro i
    simp only [Nat.testBit_or, Nat.testBit_xor, Nat.testBit_and]
    cases a.testBit i <;> cases b.testBit i <;> rfl
  have e2 : (a ^^^ b) &&& (a &&& b) = 0 := by
    apply Nat.eq_of_testBit_eq
    intro i
    simp only [Nat.testBit_xor, Nat.testBit_and, Nat.zero_testBit]
    cases a.testBit i <;> cases b.testBit i <;> rfl
  rw [e1, e2] at h1
  lia
theorem bitXor_pp {x y : Int} (hx : 0 ≤ x) (hy : 0 ≤ y) : bitXor x y = ((x.toNat ^^^ y.toNat : Nat) : Int) := by
  rw [bitXor_and, bitAnd_pp hx hy]
  have := nat_xor_and x.toNat y.toNat
  lia
theorem bitOr_pp {x y : Int} (hx : 0 ≤ x) (hy : 0 ≤ y) : bitOr x y = ((x.toNat ||| y.toNat : Nat) : Int) := by
  rw [bitOr_and, bitAnd_pp hx hy]
  have := nat_or_add_and x.toNat y.toNat
  lia
theorem nat_and_two (l1 h1 l2 h2 : Nat) (a : l1 < 256) (b : l2 < 256) : (l1 + 256 * h1) &&& (l2 + 256 * h2) = (l1 &&& l2) + 256 * (h1 &&& h2) := by
  apply Nat.eq_of_testBit_eq
  intro i
  have hl : (l1 &&& l2) < 2 ^ 8 := Nat.lt_of_le_of_lt Nat.and_le_left a
  have e : ∀ (l h : Nat), l < 2 ^ 8 → (l + 256 * h).testBit i = if i < 8 then l.testBit i else h.testBit (i - 8) := fun l h hl => by
    have := Nat.testBit_two_pow_mul_add h hl i
    rw [Nat.add_comm]
    exact this
  rw [Nat.testBit_and, e _ _ a, e _ _ b, e _ _ hl]
  by_cases q : i < 8
  · simp [q]
  · simp [q]
theorem and_two {l1 h1 l2 h2 : Int} (a : oct? l1) (b : oct? h1) (c : oct? l2) (d : oct? h2) : bitAnd (l1 + 256 * h1) (l2 + 256 * h2) = bitAnd l1 l2 + 256 * bitAnd h1 h2 := by
  have a1 := a.1; have a2 := a.2; have b1 := b.1; have b2 := b.2; have c1 := c.1; have c2 := c.2; have d1 := d.1; have d2 := d.2
  rw [bitAnd_pp (by lia) (by lia), bitAnd_pp a1 c1, bitAnd_pp b1 d1]
  have e1 : (l1 + 256 * h1).toNat = l1.toNat + 256 * h1.toNat := by lia
  have e2 : (l2 + 256 * h2).toNat = l2.toNat + 256 * h2.toNat := by lia
  rw [e1, e2, nat_and_two _ _ _ _ (by lia) (by lia)]
  lia
theorem or_two {l1 h1 l2 h2 : Int} (a : oct? l1) (b : oct? h1) (c : oct? l2) (d : oct? h2) : bitOr (l1 + 256 * h1) (l2 + 256 * h2) = bitOr l1 l2 + 256 * bitOr h1 h2 := by
  rw [bitOr_and, bitOr_and, bitOr_and, and_two a b c d]; lia
theorem xor_two {l1 h1 l2 h2 : Int} (a : oct? l1) (b : oct? h1) (c : oct? l2) (d : oct? h2) : bitXor (l1 + 256 * h1) (l2 + 256 * h2) = bitXor l1 l2 + 256 * bitXor h1 h2 := by
  rw [bitXor_and, bitXor_and, bitXor_and, and_two a b c d]; lia
theorem and_oct {x y : Int} (a : oct? x) (b : oct? y) : oct? (bitAnd x y) := by
  have := bitAnd_range x b.1
  exact ⟨this.1, by have := b.2; lia⟩
theorem or_oct {x y : Int} (a : oct? x) (b : oct? y) : oct? (bitOr x y) := by
  have a1 := a.1; have a2 := a.2; have b1 := b.1; have b2 := b.2
  rw [bitOr_pp a1 b1]
  have : x.toNat ||| y.toNat < 2 ^ 8 := Nat.or_lt_two_pow (by lia) (by lia)
  exact ⟨by lia, by lia⟩
theorem xor_oct {x y : Int} (a : oct? x) (b : oct? y) : oct? (bitXor x y) := by
  have a1 := a.1; have a2 := a.2; have b1 := b.1; have b2 := b.2
  rw [bitXor_pp a1 b1]
  have : x.toNat ^^^ y.toNat < 2 ^ 8 := Nat.xor_lt_two_pow (by lia) (by lia)
  exact ⟨by lia, by lia⟩
/-- the seventh bit -/
theorem and128n (n : Nat) : (n &&& 128 ≠ 0) ↔ n.testBit 7 = true := by
  have h : n &&& 128 = if n.testBit 7 then 128 else 0 := by
    apply Nat.eq_of_testBit_eq
    intro i
    rw [Nat.testBit_and, show (128 : Nat) = 2 ^ 7 by decide, Nat.testBit_two_pow]
    by_cases q : 7 = i
    · subst q
      cases n.testBit 7
      · simp
      · simp only [if_true, Bool.true_and, decide_true]
        decide
    · have : decide (7 = i) = false := by simpa using q
      rw [this, Bool.and_false]
      split
      · rw [Nat.testBit_two_pow, this]
      · rw [Nat.zero_testBit]
  rw [h]
  cases n.testBit 7 <;> simp
theorem vflag {a d r : Int} (ha : 0 ≤ a) (hd : 0 ≤ d) (hr : 0 ≤ r) : (bitAnd (bitAnd (bitXor a d) (bitXor a r)) 128 != 0) = (decide ((a / 128) % 2 ≠ (d / 128) % 2) && decide ((a / 128) % 2 ≠ (r / 128) % 2)) := by
  rw [bitXor_pp ha hd, bitXor_pp ha hr, bitAnd_pp (Int.natCast_nonneg _) (Int.natCast_nonneg _), bitAnd_pp (Int.natCast_nonneg _) (by decide)]
  simp only [Int.toNat_natCast]
  have h128 : (128 : Int).toNat = 128 := by decide
  rw [h128]
  have tb : ∀ x : Int, 0 ≤ x → x.toNat.testBit 7 = decide ((x / 128) % 2 = 1) := fun x hx => by
    rw [Nat.testBit_eq_decide_div_mod_eq]
    have : (x / 128) % 2 = 1 ↔ x.toNat / 2 ^ 7 % 2 = 1 := by
      have : (2 : Nat) ^ 7 = 128 := by decide
      rw [this]
      lia
    simp [this]
  have key := and128n ((a.toNat ^^^ d.toNat) &&& (a.toNat ^^^ r.toNat))
  rw [Nat.testBit_and, Nat.testBit_xor, Nat.testBit_xor, tb a ha, tb d hd, tb r hr] at key
  have e : ((((a.toNat ^^^ d.toNat) &&& (a.toNat ^^^ r.toNat) &&& 128 : Nat) : Int) != 0) = decide (((a.toNat ^^^ d.toNat) &&& (a.toNat ^^^ r.toNat)) &&& 128 ≠ 0) := by
    rw [Bool.eq_iff_iff]
    simp
  rw [e]
  rw [Bool.eq_iff_iff, decide_eq_true_iff, key]
  have p1 : (a / 128) % 2 = 0 ∨ (a / 128) % 2 = 1 := by lia
  have p2 : (d / 128) % 2 = 0 ∨ (d / 128) % 2 = 1 := by lia
  have p3 : (r / 128) % 2 = 0 ∨ (r / 128) % 2 = 1 := by lia
  rcases p1 with p1 | p1 <;> rcases p2 with p2 | p2 <;> rcases p3 with p3 | p3 <;> simp [p1, p2, p3]
theorem xor128 {x : Int} (h : oct? x) : bitXor x 128 = if 128 ≤ x then x - 128 else x + 128 := by
  rw [bitXor_and, and128 h.1 h.2]
  split <;> lia

/-! ## code that stands in the memory -/
noncomputable def Code (m : Int → Int) (s : Int) (l : List Int) : Prop := ∀ (i : Nat) (b : Int), l[i]? = some b → m (s + i) = b
theorem Code.at {m : Int → Int} {s : Int} {l : List Int} (C : Code m s l) (i : Nat) {j : Int} {b : Int} (h : l[i]? = some b) (hj : j = s + i) : m j = b := by rw [hj]; exact C i b h
theorem Code.left {m : Int → Int} {s : Int} {l r : List Int} (C : Code m s (l ++ r)) : Code m s l := fun i b h => C i b (by
  rw [List.getElem?_append_left]
  · exact h
  · exact (List.getElem?_eq_some_iff.mp h).1)
theorem Code.right {m : Int → Int} {s t : Int} {l r : List Int} (C : Code m s (l ++ r)) (ht : t = s + l.length) : Code m t r := fun i b h => by
  have := C (l.length + i) b (by rw [List.getElem?_append_right (by lia)]; simpa using h)
  rw [ht]
  have e : s + (l.length : Int) + (i : Int) = s + ((l.length + i : Nat) : Int) := by lia
  rw [e]; exact this
theorem Code.same {m m' : Int → Int} {s : Int} {l : List Int} (C : Code m s l) (h : ∀ j, 512 ≤ j → m' j = m j) (hs : 512 ≤ s) : Code m' s l := fun i b e => by rw [h _ (by lia)]; exact C i b e
end Mine
set_option genSizeOf false
set_option genInjectivity false
set_option maxRecDepth 100000
namespace Mine
open PySem PySem.W PySem.Calls PyProof.Rows Builtin

theorem upd_same {m : Int → Int} {i v : Int} : upd m i v i = v := if_pos rfl
theorem mupd_ne {m : Int → Int} {i v j : Int} (h : j ≠ i) : upd m i v j = m j := if_neg h
theorem upd_far {m : Int → Int} {i v j b : Int} (hj : 512 ≤ j) (hi : i < 512) (h : m j = b) : upd m i v j = b := (mupd_ne (by lia)).trans h
theorem g0 {s : Int} (b : 512 ≤ s) : 0 ≤ s := Int.le_trans (by decide) b
theorem g0k {s k : Int} (b : 512 ≤ s) (h : 0 ≤ k) : 0 ≤ s + k := Int.add_nonneg (g0 b) h
theorem g5 {s k : Int} (b : 512 ≤ s) (h : 0 ≤ k) : 512 ≤ s + k := Int.le_trans b (Int.le_add_of_nonneg_right h)
theorem g6 {s o k : Int} (b : 512 ≤ s) (h : 0 ≤ o) (h' : 0 ≤ k) : 512 ≤ s + o + k := g5 (g5 b h) h'
theorem gl {s k N : Int} {L : Nat} (b : s + N < L) (h : k ≤ N) : s + k < L := by lia
theorem glk {s o k N : Int} {L : Nat} (b : s + N < L) (h : o + k ≤ N) : s + o + k < L := by lia
theorem gh {s N hi : Int} (b : s + N ≤ hi) (h : 0 < N) : s < hi := by lia
theorem ghk {s o N hi : Int} (b : s + N ≤ hi) (h : o < N) : s + o < hi := by lia
theorem octm (x : Int) : oct? (x % 256) := ⟨Int.emod_nonneg x (by decide), Int.emod_lt_of_pos x (by decide)⟩
theorem word_sum {B t1 t2 V : Int} (h0 : 0 ≤ t1) (h1 : t1 < 512) (q2 : t2 = B + (if 255 < t1 then 1 else 0)) (hV : (t1 + 256 * B) % 65536 = V) : t1 % 256 + 256 * (t2 % 256) = V := by
  rw [← hV, q2]; split <;> omega
theorem half_oct {u : Int} {p : Prop} [Decidable p] (h : oct? u) : oct? (u / 2 + if p then 128 else 0) := by
  obtain ⟨h1, h2⟩ := h
  unfold oct?
  split <;> lia
theorem half_sum {l h : Int} (l0 : 0 ≤ l) (l1 : l < 256) (h0 : 0 ≤ h) (h1 : h < 256) : (l / 2 + if h % 2 = 1 then 128 else 0) + 256 * (h / 2 + if 128 ≤ h then 128 else 0) = (if 32767 < l + 256 * h then l + 256 * h - 65536 else l + 256 * h) / 2 % 65536 := by
  by_cases k : 128 ≤ h
  · rw [if_pos k, if_pos (show 32767 < l + 256 * h by lia)]
    split <;> lia
  · rw [if_neg k, if_neg (show ¬ 32767 < l + 256 * h by lia)]
    split <;> lia
theorem word_mod {x y : Int} (h : x = y + 65536) : x % 65536 = y % 65536 := by rw [h, Int.add_emod_right]
structure Post2 (m : Int → Int) (e sp V : Int) (q : Q) : Prop where
  pc : q.pc = e
  sp : q.sp = sp
  o2 : oct? (q.m 2)
  o3 : oct? (q.m 3)
  v : q.m 2 + 256 * q.m 3 = V
  fr : ∀ j, j ≠ 2 → j ≠ 3 → q.m j = m j
section
variable {L : Nat} {hi : Int} {m : Int → Int} {s sp a x : Int} {c z n v : Bool} {l2 h3 l4 h5' : Int} (hL : L ≤ 65536) (h5 : 512 ≤ L)
include hL h5
theorem f_const {b1' b2' : Int} (p1 : oct? b1') (p2 : oct? b2') (C : Code m s [169, b1', 133, 2, 169, b2', 133, 3]) (b0 : 512 ≤ s) (b1 : s + 8 < L) (b2 : s + 8 ≤ hi) : Reach L hi 4 ⟨m, s, sp, a, x, c, z, n, v⟩ (Post2 m (s + 8) sp (b1' + 256 * b2')) := by
  refine r_ldaI hL (g0 b0) (gl b1 (by decide)) h5 (gh b2 (by decide)) (C.at 0 rfl (Int.add_zero s).symm) (u := b1') (C.at 1 rfl rfl) (by assumption) (npc := s + 2) rfl ?_
  refine r_sta hL (g0k b0 (by decide)) (glk b1 (by decide)) h5 (ghk b2 (by decide)) (C.at 2 rfl rfl) (C.at 3 rfl (Int.add_assoc s 2 1)) (w := 2) ⟨by decide, by decide⟩ rfl (npc := s + 4) (Int.add_assoc s 2 2).symm ?_
  refine r_ldaI hL (g0k b0 (by decide)) (glk b1 (by decide)) h5 (ghk b2 (by decide)) (upd_far (g5 b0 (by decide)) (by decide) (C.at 4 rfl rfl)) (u := b2') (upd_far (g6 b0 (by decide) (by decide)) (by decide) (C.at 5 rfl (Int.add_assoc s 4 1))) (by assumption) (npc := s + 6) (Int.add_assoc s 4 2).symm ?_
  refine r_sta hL (g0k b0 (by decide)) (glk b1 (by decide)) h5 (ghk b2 (by decide)) (upd_far (g5 b0 (by decide)) (by decide) (C.at 6 rfl rfl)) (upd_far (g6 b0 (by decide) (by decide)) (by decide) (C.at 7 rfl (Int.add_assoc s 6 1))) (w := 3) ⟨by decide, by decide⟩ rfl (npc := s + 8) (Int.add_assoc s 6 2).symm ?_
  refine Reach.done ⟨rfl, rfl, ?_, ?_, ?_, fun j e2 e3 => by simp [upd, e2, e3]⟩
  · simpa [upd] using p1
  · simpa [upd] using p2
  · simp [upd]

theorem f_var {k2 : Int} (k0 : 0 ≤ k2) (k1 : k2 ≤ 6) (mv : m (16 + k2) = l4) (mw : m (17 + k2) = h5') (o4 : oct? l4) (o5 : oct? h5') (C : Code m s [162, k2, 181, 16, 133, 2, 181, 17, 133, 3]) (b0 : 512 ≤ s) (b1 : s + 10 < L) (b2 : s + 10 ≤ hi) : Reach L hi 5 ⟨m, s, sp, a, x, c, z, n, v⟩ (Post2 m (s + 10) sp (l4 + 256 * h5')) := by
  refine r_ldxI hL (g0 b0) (gl b1 (by decide)) h5 (gh b2 (by decide)) (C.at 0 rfl (Int.add_zero s).symm) (u := k2) (C.at 1 rfl rfl) (by exact ⟨by lia, by lia⟩) (npc := s + 2) rfl ?_
  refine r_ldaX hL (g0k b0 (by decide)) (glk b1 (by decide)) h5 (ghk b2 (by decide)) (C.at 2 rfl rfl) (w := 16) (C.at 3 rfl (Int.add_assoc s 2 1)) (t := 16 + k2) (by lia) (u := l4) mv (by assumption) (npc := s + 4) (by lia) ?_
  refine r_sta hL (g0k b0 (by decide)) (glk b1 (by decide)) h5 (ghk b2 (by decide)) (C.at 4 rfl rfl) (C.at 5 rfl (Int.add_assoc s 4 1)) (w := 2) ⟨by decide, by decide⟩ rfl (npc := s + 6) (Int.add_assoc s 4 2).symm ?_
  refine r_ldaX hL (g0k b0 (by decide)) (glk b1 (by decide)) h5 (ghk b2 (by decide)) (upd_far (g5 b0 (by decide)) (by decide) (C.at 6 rfl rfl)) (w := 17) (upd_far (g6 b0 (by decide) (by decide)) (by decide) (C.at 7 rfl (Int.add_assoc s 6 1))) (t := 17 + k2) (by lia) (u := h5') (by simp only [upd]; rw [if_neg (by lia)]; exact mw) (by assumption) (npc := s + 8) (by lia) ?_
  refine r_sta hL (g0k b0 (by decide)) (glk b1 (by decide)) h5 (ghk b2 (by decide)) (upd_far (g5 b0 (by decide)) (by decide) (C.at 8 rfl rfl)) (upd_far (g6 b0 (by decide) (by decide)) (by decide) (C.at 9 rfl (Int.add_assoc s 8 1))) (w := 3) ⟨by decide, by decide⟩ rfl (npc := s + 10) (Int.add_assoc s 8 2).symm ?_
  refine Reach.done ⟨rfl, rfl, ?_, ?_, ?_, fun j e2 e3 => by simp [upd, e2, e3]⟩
  · simpa [upd] using o4
  · simpa [upd] using o5
  · simp [upd]

theorem f_push (m2 : m 2 = l2) (m3 : m 3 = h3) (o2 : oct? l2) (o3 : oct? h3) (s0 : 2 ≤ sp) (s1 : sp < 256) (C : Code m s [165, 2, 72, 165, 3, 72]) (b0 : 512 ≤ s) (b1 : s + 6 < L) (b2 : s + 6 ≤ hi) : Reach L hi 4 ⟨m, s, sp, a, x, c, z, n, v⟩ (fun q => q.pc = s + 6 ∧ q.sp = sp - 2 ∧ q.m = upd (upd m (sp + 256) l2) (sp + 255) h3) := by
  refine r_lda hL (g0 b0) (gl b1 (by decide)) h5 (gh b2 (by decide)) (C.at 0 rfl (Int.add_zero s).symm) (C.at 1 rfl rfl) (w := 2) ⟨by decide, by decide⟩ (u := l2) m2 (by assumption) (npc := s + 2) rfl ?_
  refine r_pha hL (g0k b0 (by decide)) (glk b1 (by decide)) h5 (ghk b2 (by decide)) (C.at 2 rfl rfl) (by exact ⟨by lia, by lia⟩) (by assumption) (npc := s + 3) (Int.add_assoc s 2 1).symm ?_
  refine r_lda hL (g0k b0 (by decide)) (glk b1 (by decide)) h5 (ghk b2 (by decide)) (upd_far (g5 b0 (by decide)) (by lia) (C.at 3 rfl rfl)) (upd_far (g6 b0 (by decide) (by decide)) (by lia) (C.at 4 rfl (Int.add_assoc s 3 1))) (w := 3) ⟨by decide, by decide⟩ (u := h3) ((mupd_ne (by lia)).trans m3) (by assumption) (npc := s + 5) (Int.add_assoc s 3 2).symm ?_
  refine r_pha hL (g0k b0 (by decide)) (glk b1 (by decide)) h5 (ghk b2 (by decide)) (upd_far (g5 b0 (by decide)) (by lia) (C.at 5 rfl rfl)) (by exact ⟨by lia, by lia⟩) (by assumption) (npc := s + 6) (Int.add_assoc s 5 1).symm ?_
  have e1 : (sp - 1) % 256 = sp - 1 := by lia
  refine Reach.done ⟨rfl, ?_, ?_⟩
  · dsimp only
    lia
  · dsimp only
    rw [e1, show sp - 1 + 256 = sp + 255 by lia]

theorem f_pull (mp1 : m (sp + 257) = h3) (mp2 : m (sp + 258) = l2) (o2 : oct? l2) (o3 : oct? h3) (s0 : 0 ≤ sp) (s1 : sp < 254) (C : Code m s [104, 133, 5, 104, 133, 4]) (b0 : 512 ≤ s) (b1 : s + 6 < L) (b2 : s + 6 ≤ hi) : Reach L hi 4 ⟨m, s, sp, a, x, c, z, n, v⟩ (fun q => q.pc = s + 6 ∧ q.sp = sp + 2 ∧ q.m = upd (upd m 5 h3) 4 l2) := by
  refine r_pla hL (g0 b0) (gl b1 (by decide)) h5 (gh b2 (by decide)) (C.at 0 rfl (Int.add_zero s).symm) (u := h3) (by rw [show (sp + 1) % 256 + 256 = sp + 257 by lia]; exact mp1) (by assumption) (npc := s + 1) rfl ?_
  refine r_sta hL (g0k b0 (by decide)) (glk b1 (by decide)) h5 (ghk b2 (by decide)) (C.at 1 rfl rfl) (C.at 2 rfl (Int.add_assoc s 1 1)) (w := 5) ⟨by decide, by decide⟩ rfl (npc := s + 3) (Int.add_assoc s 1 2).symm ?_
  refine r_pla hL (g0k b0 (by decide)) (glk b1 (by decide)) h5 (ghk b2 (by decide)) (upd_far (g5 b0 (by decide)) (by decide) (C.at 3 rfl rfl)) (u := l2) (by simp only [upd]; rw [if_neg (by lia), show ((sp + 1) % 256 + 1) % 256 + 256 = sp + 258 by lia]; exact mp2) (by assumption) (npc := s + 4) (Int.add_assoc s 3 1).symm ?_
  refine r_sta hL (g0k b0 (by decide)) (glk b1 (by decide)) h5 (ghk b2 (by decide)) (upd_far (g5 b0 (by decide)) (by decide) (C.at 4 rfl rfl)) (upd_far (g6 b0 (by decide) (by decide)) (by decide) (C.at 5 rfl (Int.add_assoc s 4 1))) (w := 4) ⟨by decide, by decide⟩ rfl (npc := s + 6) (Int.add_assoc s 4 2).symm ?_
  refine Reach.done ⟨rfl, ?_, rfl⟩
  dsimp only
  lia

theorem f_add (m2 : m 2 = l2) (m3 : m 3 = h3) (o2 : oct? l2) (o3 : oct? h3) (m4 : m 4 = l4) (m5 : m 5 = h5') (o4 : oct? l4) (o5 : oct? h5') (C : Code m s [24, 165, 4, 101, 2, 133, 2, 165, 5, 101, 3, 133, 3]) (b0 : 512 ≤ s) (b1 : s + 13 < L) (b2 : s + 13 ≤ hi) : Reach L hi 7 ⟨m, s, sp, a, x, c, z, n, v⟩ (Post2 m (s + 13) sp ((l4 + 256 * h5' + (l2 + 256 * h3)) % 65536)) := by
  have a1 := o2.1; have a2 := o2.2; have a3 := o3.1; have a4 := o3.2
  have a5 := o4.1; have a6 := o4.2; have a7 := o5.1; have a8 := o5.2
  refine r_clc hL (g0 b0) (gl b1 (by decide)) h5 (gh b2 (by decide)) (C.at 0 rfl (Int.add_zero s).symm) (npc := s + 1) rfl ?_
  refine r_lda hL (g0k b0 (by decide)) (glk b1 (by decide)) h5 (ghk b2 (by decide)) (C.at 1 rfl rfl) (C.at 2 rfl (Int.add_assoc s 1 1)) (w := 4) ⟨by decide, by decide⟩ (u := l4) m4 (by assumption) (npc := s + 3) (Int.add_assoc s 1 2).symm ?_
  refine r_adc hL (g0k b0 (by decide)) (glk b1 (by decide)) h5 (ghk b2 (by decide)) (C.at 3 rfl rfl) (C.at 4 rfl (Int.add_assoc s 3 1)) (w := 2) ⟨by decide, by decide⟩ (u := l2) m2 (by assumption) (by assumption) (npc := s + 5) (Int.add_assoc s 3 2).symm fun _ => ?_
  generalize q1 : (l2 + l4 + if false = true then 1 else 0) = t1
  have q1 : t1 = l2 + l4 := by rw [← q1]; simp
  refine r_sta hL (g0k b0 (by decide)) (glk b1 (by decide)) h5 (ghk b2 (by decide)) (C.at 5 rfl rfl) (C.at 6 rfl (Int.add_assoc s 5 1)) (w := 2) ⟨by decide, by decide⟩ rfl (npc := s + 7) (Int.add_assoc s 5 2).symm ?_
  refine r_lda hL (g0k b0 (by decide)) (glk b1 (by decide)) h5 (ghk b2 (by decide)) (upd_far (g5 b0 (by decide)) (by decide) (C.at 7 rfl rfl)) (upd_far (g6 b0 (by decide) (by decide)) (by decide) (C.at 8 rfl (Int.add_assoc s 7 1))) (w := 5) ⟨by decide, by decide⟩ (u := h5') ((mupd_ne (by decide)).trans m5) (by assumption) (npc := s + 9) (Int.add_assoc s 7 2).symm ?_
  refine r_adc hL (g0k b0 (by decide)) (glk b1 (by decide)) h5 (ghk b2 (by decide)) (upd_far (g5 b0 (by decide)) (by decide) (C.at 9 rfl rfl)) (upd_far (g6 b0 (by decide) (by decide)) (by decide) (C.at 10 rfl (Int.add_assoc s 9 1))) (w := 3) ⟨by decide, by decide⟩ (u := h3) ((mupd_ne (by decide)).trans m3) (by assumption) (by assumption) (npc := s + 11) (Int.add_assoc s 9 2).symm fun _ => ?_
  generalize q2 : (h3 + h5' + if decide (255 < t1) = true then 1 else 0) = t2
  have q2 : t2 = h3 + h5' + (if 255 < t1 then 1 else 0) := by rw [← q2]; simp
  refine r_sta hL (g0k b0 (by decide)) (glk b1 (by decide)) h5 (ghk b2 (by decide)) (upd_far (g5 b0 (by decide)) (by decide) (C.at 11 rfl rfl)) (upd_far (g6 b0 (by decide) (by decide)) (by decide) (C.at 12 rfl (Int.add_assoc s 11 1))) (w := 3) ⟨by decide, by decide⟩ rfl (npc := s + 13) (Int.add_assoc s 11 2).symm ?_
  refine Reach.done ⟨rfl, rfl, ?_, ?_, ?_, fun j e2 e3 => by simp [upd, e2, e3]⟩
  · dsimp only; rw [mupd_ne (by decide), upd_same]; exact octm _
  · dsimp only; rw [upd_same]; exact octm _
  · dsimp only; rw [mupd_ne (by decide), upd_same, upd_same]; exact word_sum (by lia) (by lia) q2 (congrArg (· % 65536) (by lia))

theorem f_sub (m2 : m 2 = l2) (m3 : m 3 = h3) (o2 : oct? l2) (o3 : oct? h3) (m4 : m 4 = l4) (m5 : m 5 = h5') (o4 : oct? l4) (o5 : oct? h5') (C : Code m s [56, 165, 4, 229, 2, 133, 2, 165, 5, 229, 3, 133, 3]) (b0 : 512 ≤ s) (b1 : s + 13 < L) (b2 : s + 13 ≤ hi) : Reach L hi 7 ⟨m, s, sp, a, x, c, z, n, v⟩ (Post2 m (s + 13) sp ((l4 + 256 * h5' - (l2 + 256 * h3)) % 65536)) := by
  have a1 := o2.1; have a2 := o2.2; have a3 := o3.1; have a4 := o3.2
  have a5 := o4.1; have a6 := o4.2; have a7 := o5.1; have a8 := o5.2
  refine r_sec hL (g0 b0) (gl b1 (by decide)) h5 (gh b2 (by decide)) (C.at 0 rfl (Int.add_zero s).symm) (npc := s + 1) rfl ?_
  refine r_lda hL (g0k b0 (by decide)) (glk b1 (by decide)) h5 (ghk b2 (by decide)) (C.at 1 rfl rfl) (C.at 2 rfl (Int.add_assoc s 1 1)) (w := 4) ⟨by decide, by decide⟩ (u := l4) m4 (by assumption) (npc := s + 3) (Int.add_assoc s 1 2).symm ?_
  refine r_sbc hL (g0k b0 (by decide)) (glk b1 (by decide)) h5 (ghk b2 (by decide)) (C.at 3 rfl rfl) (C.at 4 rfl (Int.add_assoc s 3 1)) (w := 2) ⟨by decide, by decide⟩ (u := l2) m2 (by assumption) (by assumption) (npc := s + 5) (Int.add_assoc s 3 2).symm ?_
  generalize q1 : (l4 + (255 - l2) + if true = true then 1 else 0) = t1
  have q1 : t1 = l4 + (255 - l2) + 1 := by rw [← q1]; simp
  refine r_sta hL (g0k b0 (by decide)) (glk b1 (by decide)) h5 (ghk b2 (by decide)) (C.at 5 rfl rfl) (C.at 6 rfl (Int.add_assoc s 5 1)) (w := 2) ⟨by decide, by decide⟩ rfl (npc := s + 7) (Int.add_assoc s 5 2).symm ?_
  refine r_lda hL (g0k b0 (by decide)) (glk b1 (by decide)) h5 (ghk b2 (by decide)) (upd_far (g5 b0 (by decide)) (by decide) (C.at 7 rfl rfl)) (upd_far (g6 b0 (by decide) (by decide)) (by decide) (C.at 8 rfl (Int.add_assoc s 7 1))) (w := 5) ⟨by decide, by decide⟩ (u := h5') ((mupd_ne (by decide)).trans m5) (by assumption) (npc := s + 9) (Int.add_assoc s 7 2).symm ?_
  refine r_sbc hL (g0k b0 (by decide)) (glk b1 (by decide)) h5 (ghk b2 (by decide)) (upd_far (g5 b0 (by decide)) (by decide) (C.at 9 rfl rfl)) (upd_far (g6 b0 (by decide) (by decide)) (by decide) (C.at 10 rfl (Int.add_assoc s 9 1))) (w := 3) ⟨by decide, by decide⟩ (u := h3) ((mupd_ne (by decide)).trans m3) (by assumption) (by assumption) (npc := s + 11) (Int.add_assoc s 9 2).symm ?_
  generalize q2 : (h5' + (255 - h3) + if decide (255 < t1) = true then 1 else 0) = t2
  have q2 : t2 = h5' + (255 - h3) + (if 255 < t1 then 1 else 0) := by rw [← q2]; simp
  refine r_sta hL (g0k b0 (by decide)) (glk b1 (by decide)) h5 (ghk b2 (by decide)) (upd_far (g5 b0 (by decide)) (by decide) (C.at 11 rfl rfl)) (upd_far (g6 b0 (by decide) (by decide)) (by decide) (C.at 12 rfl (Int.add_assoc s 11 1))) (w := 3) ⟨by decide, by decide⟩ rfl (npc := s + 13) (Int.add_assoc s 11 2).symm ?_
  refine Reach.done ⟨rfl, rfl, ?_, ?_, ?_, fun j e2 e3 => by simp [upd, e2, e3]⟩
  · dsimp only; rw [mupd_ne (by decide), upd_same]; exact octm _
  · dsimp only; rw [upd_same]; exact octm _
  · dsimp only; rw [mupd_ne (by decide), upd_same, upd_same]; exact word_sum (by lia) (by lia) q2 (word_mod (by lia))

theorem f_and (m2 : m 2 = l2) (m3 : m 3 = h3) (o2 : oct? l2) (o3 : oct? h3) (m4 : m 4 = l4) (m5 : m 5 = h5') (o4 : oct? l4) (o5 : oct? h5') (C : Code m s [165, 4, 37, 2, 133, 2, 165, 5, 37, 3, 133, 3]) (b0 : 512 ≤ s) (b1 : s + 12 < L) (b2 : s + 12 ≤ hi) : Reach L hi 6 ⟨m, s, sp, a, x, c, z, n, v⟩ (Post2 m (s + 12) sp (bitAnd (l4 + 256 * h5') (l2 + 256 * h3))) := by
  refine r_lda hL (g0 b0) (gl b1 (by decide)) h5 (gh b2 (by decide)) (C.at 0 rfl (Int.add_zero s).symm) (C.at 1 rfl rfl) (w := 4) ⟨by decide, by decide⟩ (u := l4) m4 (by assumption) (npc := s + 2) rfl ?_
  refine r_and hL (g0k b0 (by decide)) (glk b1 (by decide)) h5 (ghk b2 (by decide)) (C.at 2 rfl rfl) (C.at 3 rfl (Int.add_assoc s 2 1)) (w := 2) ⟨by decide, by decide⟩ (u := l2) m2 (and_oct o4 o2) (npc := s + 4) (Int.add_assoc s 2 2).symm ?_
  refine r_sta hL (g0k b0 (by decide)) (glk b1 (by decide)) h5 (ghk b2 (by decide)) (C.at 4 rfl rfl) (C.at 5 rfl (Int.add_assoc s 4 1)) (w := 2) ⟨by decide, by decide⟩ rfl (npc := s + 6) (Int.add_assoc s 4 2).symm ?_
  refine r_lda hL (g0k b0 (by decide)) (glk b1 (by decide)) h5 (ghk b2 (by decide)) (upd_far (g5 b0 (by decide)) (by decide) (C.at 6 rfl rfl)) (upd_far (g6 b0 (by decide) (by decide)) (by decide) (C.at 7 rfl (Int.add_assoc s 6 1))) (w := 5) ⟨by decide, by decide⟩ (u := h5') ((mupd_ne (by decide)).trans m5) (by assumption) (npc := s + 8) (Int.add_assoc s 6 2).symm ?_
  refine r_and hL (g0k b0 (by decide)) (glk b1 (by decide)) h5 (ghk b2 (by decide)) (upd_far (g5 b0 (by decide)) (by decide) (C.at 8 rfl rfl)) (upd_far (g6 b0 (by decide) (by decide)) (by decide) (C.at 9 rfl (Int.add_assoc s 8 1))) (w := 3) ⟨by decide, by decide⟩ (u := h3) ((mupd_ne (by decide)).trans m3) (and_oct o5 o3) (npc := s + 10) (Int.add_assoc s 8 2).symm ?_
  refine r_sta hL (g0k b0 (by decide)) (glk b1 (by decide)) h5 (ghk b2 (by decide)) (upd_far (g5 b0 (by decide)) (by decide) (C.at 10 rfl rfl)) (upd_far (g6 b0 (by decide) (by decide)) (by decide) (C.at 11 rfl (Int.add_assoc s 10 1))) (w := 3) ⟨by decide, by decide⟩ rfl (npc := s + 12) (Int.add_assoc s 10 2).symm ?_
  refine Reach.done ⟨rfl, rfl, ?_, ?_, ?_, fun j e2 e3 => by simp [upd, e2, e3]⟩
  · simpa [upd] using and_oct o4 o2
  · simpa [upd] using and_oct o5 o3
  · dsimp only; rw [mupd_ne (by decide), upd_same, upd_same, and_two o4 o5 o2 o3]

theorem f_or (m2 : m 2 = l2) (m3 : m 3 = h3) (o2 : oct? l2) (o3 : oct? h3) (m4 : m 4 = l4) (m5 : m 5 = h5') (o4 : oct? l4) (o5 : oct? h5') (C : Code m s [165, 4, 5, 2, 133, 2, 165, 5, 5, 3, 133, 3]) (b0 : 512 ≤ s) (b1 : s + 12 < L) (b2 : s + 12 ≤ hi) : Reach L hi 6 ⟨m, s, sp, a, x, c, z, n, v⟩ (Post2 m (s + 12) sp (bitOr (l4 + 256 * h5') (l2 + 256 * h3))) := by
  refine r_lda hL (g0 b0) (gl b1 (by decide)) h5 (gh b2 (by decide)) (C.at 0 rfl (Int.add_zero s).symm) (C.at 1 rfl rfl) (w := 4) ⟨by decide, by decide⟩ (u := l4) m4 (by assumption) (npc := s + 2) rfl ?_
  refine r_ora hL (g0k b0 (by decide)) (glk b1 (by decide)) h5 (ghk b2 (by decide)) (C.at 2 rfl rfl) (C.at 3 rfl (Int.add_assoc s 2 1)) (w := 2) ⟨by decide, by decide⟩ (u := l2) m2 (or_oct o4 o2) (npc := s + 4) (Int.add_assoc s 2 2).symm ?_
  refine r_sta hL (g0k b0 (by decide)) (glk b1 (by decide)) h5 (ghk b2 (by decide)) (C.at 4 rfl rfl) (C.at 5 rfl (Int.add_assoc s 4 1)) (w := 2) ⟨by decide, by decide⟩ rfl (npc := s + 6) (Int.add_assoc s 4 2).symm ?_
  refine r_lda hL (g0k b0 (by decide)) (glk b1 (by decide)) h5 (ghk b2 (by decide)) (upd_far (g5 b0 (by decide)) (by decide) (C.at 6 rfl rfl)) (upd_far (g6 b0 (by decide) (by decide)) (by decide) (C.at 7 rfl (Int.add_assoc s 6 1))) (w := 5) ⟨by decide, by decide⟩ (u := h5') ((mupd_ne (by decide)).trans m5) (by assumption) (npc := s + 8) (Int.add_assoc s 6 2).symm ?_
  refine r_ora hL (g0k b0 (by decide)) (glk b1 (by decide)) h5 (ghk b2 (by decide)) (upd_far (g5 b0 (by decide)) (by decide) (C.at 8 rfl rfl)) (upd_far (g6 b0 (by decide) (by decide)) (by decide) (C.at 9 rfl (Int.add_assoc s 8 1))) (w := 3) ⟨by decide, by decide⟩ (u := h3) ((mupd_ne (by decide)).trans m3) (or_oct o5 o3) (npc := s + 10) (Int.add_assoc s 8 2).symm ?_
  refine r_sta hL (g0k b0 (by decide)) (glk b1 (by decide)) h5 (ghk b2 (by decide)) (upd_far (g5 b0 (by decide)) (by decide) (C.at 10 rfl rfl)) (upd_far (g6 b0 (by decide) (by decide)) (by decide) (C.at 11 rfl (Int.add_assoc s 10 1))) (w := 3) ⟨by decide, by decide⟩ rfl (npc := s + 12) (Int.add_assoc s 10 2).symm ?_
  refine Reach.done ⟨rfl, rfl, ?_, ?_, ?_, fun j e2 e3 => by simp [upd, e2, e3]⟩
  · simpa [upd] using or_oct o4 o2
  · simpa [upd] using or_oct o5 o3
  · dsimp only; rw [mupd_ne (by decide), upd_same, upd_same, or_two o4 o5 o2 o3]

theorem f_xor (m2 : m 2 = l2) (m3 : m 3 = h3) (o2 : oct? l2) (o3 : oct? h3) (m4 : m 4 = l4) (m5 : m 5 = h5') (o4 : oct? l4) (o5 : oct? h5') (C : Code m s [165, 4, 69, 2, 133, 2, 165, 5, 69, 3, 133, 3]) (b0 : 512 ≤ s) (b1 : s + 12 < L) (b2 : s + 12 ≤ hi) : Reach L hi 6 ⟨m, s, sp, a, x, c, z, n, v⟩ (Post2 m (s + 12) sp (bitXor (l4 + 256 * h5') (l2 + 256 * h3))) := by
  refine r_lda hL (g0 b0) (gl b1 (by decide)) h5 (gh b2 (by decide)) (C.at 0 rfl (Int.add_zero s).symm) (C.at 1 rfl rfl) (w := 4) ⟨by decide, by decide⟩ (u := l4) m4 (by assumption) (npc := s + 2) rfl ?_
  refine r_eor hL (g0k b0 (by decide)) (glk b1 (by decide)) h5 (ghk b2 (by decide)) (C.at 2 rfl rfl) (C.at 3 rfl (Int.add_assoc s 2 1)) (w := 2) ⟨by decide, by decide⟩ (u := l2) m2 (xor_oct o4 o2) (npc := s + 4) (Int.add_assoc s 2 2).symm ?_
  refine r_sta hL (g0k b0 (by decide)) (glk b1 (by decide)) h5 (ghk b2 (by decide)) (C.at 4 rfl rfl) (C.at 5 rfl (Int.add_assoc s 4 1)) (w := 2) ⟨by decide, by decide⟩ rfl (npc := s + 6) (Int.add_assoc s 4 2).symm ?_
  refine r_lda hL (g0k b0 (by decide)) (glk b1 (by decide)) h5 (ghk b2 (by decide)) (upd_far (g5 b0 (by decide)) (by decide) (C.at 6 rfl rfl)) (upd_far (g6 b0 (by decide) (by decide)) (by decide) (C.at 7 rfl (Int.add_assoc s 6 1))) (w := 5) ⟨by decide, by decide⟩ (u := h5') ((mupd_ne (by decide)).trans m5) (by assumption) (npc := s + 8) (Int.add_assoc s 6 2).symm ?_
  refine r_eor hL (g0k b0 (by decide)) (glk b1 (by decide)) h5 (ghk b2 (by decide)) (upd_far (g5 b0 (by decide)) (by decide) (C.at 8 rfl rfl)) (upd_far (g6 b0 (by decide) (by decide)) (by decide) (C.at 9 rfl (Int.add_assoc s 8 1))) (w := 3) ⟨by decide, by decide⟩ (u := h3) ((mupd_ne (by decide)).trans m3) (xor_oct o5 o3) (npc := s + 10) (Int.add_assoc s 8 2).symm ?_
  refine r_sta hL (g0k b0 (by decide)) (glk b1 (by decide)) h5 (ghk b2 (by decide)) (upd_far (g5 b0 (by decide)) (by decide) (C.at 10 rfl rfl)) (upd_far (g6 b0 (by decide) (by decide)) (by decide) (C.at 11 rfl (Int.add_assoc s 10 1))) (w := 3) ⟨by decide, by decide⟩ rfl (npc := s + 12) (Int.add_assoc s 10 2).symm ?_
  refine Reach.done ⟨rfl, rfl, ?_, ?_, ?_, fun j e2 e3 => by simp [upd, e2, e3]⟩
  · simpa [upd] using xor_oct o4 o2
  · simpa [upd] using xor_oct o5 o3
  · dsimp only; rw [mupd_ne (by decide), upd_same, upd_same, xor_two o4 o5 o2 o3]

theorem f_neg (m2 : m 2 = l2) (m3 : m 3 = h3) (o2 : oct? l2) (o3 : oct? h3) (C : Code m s [56, 169, 0, 229, 2, 133, 2, 169, 0, 229, 3, 133, 3]) (b0 : 512 ≤ s) (b1 : s + 13 < L) (b2 : s + 13 ≤ hi) : Reach L hi 7 ⟨m, s, sp, a, x, c, z, n, v⟩ (Post2 m (s + 13) sp ((-(l2 + 256 * h3)) % 65536)) := by
  have a1 := o2.1; have a2 := o2.2; have a3 := o3.1; have a4 := o3.2
  refine r_sec hL (g0 b0) (gl b1 (by decide)) h5 (gh b2 (by decide)) (C.at 0 rfl (Int.add_zero s).symm) (npc := s + 1) rfl ?_
  refine r_ldaI hL (g0k b0 (by decide)) (glk b1 (by decide)) h5 (ghk b2 (by decide)) (C.at 1 rfl rfl) (u := 0) (C.at 2 rfl (Int.add_assoc s 1 1)) ⟨by decide, by decide⟩ (npc := s + 3) (Int.add_assoc s 1 2).symm ?_
  refine r_sbc hL (g0k b0 (by decide)) (glk b1 (by decide)) h5 (ghk b2 (by decide)) (C.at 3 rfl rfl) (C.at 4 rfl (Int.add_assoc s 3 1)) (w := 2) ⟨by decide, by decide⟩ (u := l2) m2 (by assumption) ⟨by decide, by decide⟩ (npc := s + 5) (Int.add_assoc s 3 2).symm ?_
  generalize q1 : (0 + (255 - l2) + if true = true then 1 else 0) = t1
  have q1 : t1 = 256 - l2 := by rw [← q1]; simp; lia
  refine r_sta hL (g0k b0 (by decide)) (glk b1 (by decide)) h5 (ghk b2 (by decide)) (C.at 5 rfl rfl) (C.at 6 rfl (Int.add_assoc s 5 1)) (w := 2) ⟨by decide, by decide⟩ rfl (npc := s + 7) (Int.add_assoc s 5 2).symm ?_
  refine r_ldaI hL (g0k b0 (by decide)) (glk b1 (by decide)) h5 (ghk b2 (by decide)) (upd_far (g5 b0 (by decide)) (by decide) (C.at 7 rfl rfl)) (u := 0) (upd_far (g6 b0 (by decide) (by decide)) (by decide) (C.at 8 rfl (Int.add_assoc s 7 1))) ⟨by decide, by decide⟩ (npc := s + 9) (Int.add_assoc s 7 2).symm ?_
  refine r_sbc hL (g0k b0 (by decide)) (glk b1 (by decide)) h5 (ghk b2 (by decide)) (upd_far (g5 b0 (by decide)) (by decide) (C.at 9 rfl rfl)) (upd_far (g6 b0 (by decide) (by decide)) (by decide) (C.at 10 rfl (Int.add_assoc s 9 1))) (w := 3) ⟨by decide, by decide⟩ (u := h3) ((mupd_ne (by decide)).trans m3) (by assumption) ⟨by decide, by decide⟩ (npc := s + 11) (Int.add_assoc s 9 2).symm ?_
  generalize q2 : (0 + (255 - h3) + if decide (255 < t1) = true then 1 else 0) = t2
  have q2 : t2 = 255 - h3 + (if 255 < t1 then 1 else 0) := by rw [← q2]; simp
  refine r_sta hL (g0k b0 (by decide)) (glk b1 (by decide)) h5 (ghk b2 (by decide)) (upd_far (g5 b0 (by decide)) (by decide) (C.at 11 rfl rfl)) (upd_far (g6 b0 (by decide) (by decide)) (by decide) (C.at 12 rfl (Int.add_assoc s 11 1))) (w := 3) ⟨by decide, by decide⟩ rfl (npc := s + 13) (Int.add_assoc s 11 2).symm ?_
  refine Reach.done ⟨rfl, rfl, ?_, ?_, ?_, fun j e2 e3 => by simp [upd, e2, e3]⟩
  · dsimp only; rw [mupd_ne (by decide), upd_same]; exact octm _
  · dsimp only; rw [upd_same]; exact octm _
  · dsimp only; rw [mupd_ne (by decide), upd_same, upd_same]; exact word_sum (by lia) (by lia) q2 (word_mod (by lia))

theorem f_half (m2 : m 2 = l2) (m3 : m 3 = h3) (o2 : oct? l2) (o3 : oct? h3) (C : Code m s [165, 3, 201, 128, 102, 3, 102, 2]) (b0 : 512 ≤ s) (b1 : s + 8 < L) (b2 : s + 8 ≤ hi) : Reach L hi 4 ⟨m, s, sp, a, x, c, z, n, v⟩ (Post2 m (s + 8) sp ((if 32767 < l2 + 256 * h3 then l2 + 256 * h3 - 65536 else l2 + 256 * h3) / 2 % 65536)) := by
  have a1 := o2.1; have a2 := o2.2; have a3 := o3.1; have a4 := o3.2
  refine r_lda hL (g0 b0) (gl b1 (by decide)) h5 (gh b2 (by decide)) (C.at 0 rfl (Int.add_zero s).symm) (C.at 1 rfl rfl) (w := 3) ⟨by decide, by decide⟩ (u := h3) m3 (by assumption) (npc := s + 2) rfl ?_
  refine r_cmpI hL (g0k b0 (by decide)) (glk b1 (by decide)) h5 (ghk b2 (by decide)) (C.at 2 rfl rfl) (u := 128) (C.at 3 rfl (Int.add_assoc s 2 1)) ⟨by decide, by decide⟩ (by assumption) (npc := s + 4) (Int.add_assoc s 2 2).symm fun _ => ?_
  refine r_ror hL (g0k b0 (by decide)) (glk b1 (by decide)) h5 (ghk b2 (by decide)) (C.at 4 rfl rfl) (C.at 5 rfl (Int.add_assoc s 4 1)) (w := 3) ⟨by decide, by decide⟩ (u := h3) m3 (by assumption) (npc := s + 6) (Int.add_assoc s 4 2).symm ?_
  refine r_ror hL (g0k b0 (by decide)) (glk b1 (by decide)) h5 (ghk b2 (by decide)) (upd_far (g5 b0 (by decide)) (by decide) (C.at 6 rfl rfl)) (upd_far (g6 b0 (by decide) (by decide)) (by decide) (C.at 7 rfl (Int.add_assoc s 6 1))) (w := 2) ⟨by decide, by decide⟩ (u := l2) ((mupd_ne (by decide)).trans m2) (by assumption) (npc := s + 8) (Int.add_assoc s 6 2).symm ?_
  have k1 : (if decide (128 ≤ h3) = true then (128 : Int) else 0) = if 128 ≤ h3 then 128 else 0 := by simp
  have k2 : (if decide (h3 % 2 = 1) = true then (128 : Int) else 0) = if h3 % 2 = 1 then 128 else 0 := by simp
  refine Reach.done ⟨rfl, rfl, ?_, ?_, ?_, fun j e2 e3 => by simp [upd, e2, e3]⟩
  · dsimp only; rw [upd_same]; exact half_oct o2
  · dsimp only; rw [mupd_ne (by decide), upd_same]; exact half_oct o3
  · dsimp only; rw [upd_same, mupd_ne (by decide), upd_same, k1, k2]; exact half_sum a1 a2 a3 a4

theorem f_less (m2 : m 2 = l2) (m3 : m 3 = h3) (o2 : oct? l2) (o3 : oct? h3) (m4 : m 4 = l4) (m5 : m 5 = h5') (o4 : oct? l4) (o5 : oct? h5') (C : Code m s [165, 4, 197, 2, 165, 5, 229, 3, 169, 0, 133, 3, 42, 73, 1, 133, 2]) (b0 : 512 ≤ s) (b1 : s + 17 < L) (b2 : s + 17 ≤ hi) : Reach L hi 9 ⟨m, s, sp, a, x, c, z, n, v⟩ (Post2 m (s + 17) sp (if l4 + 256 * h5' < l2 + 256 * h3 then 1 else 0)) := by
  have a1 := o2.1; have a2 := o2.2; have a3 := o3.1; have a4 := o3.2
  have a5 := o4.1; have a6 := o4.2; have a7 := o5.1; have a8 := o5.2
  refine r_lda hL (g0 b0) (gl b1 (by decide)) h5 (gh b2 (by decide)) (C.at 0 rfl (Int.add_zero s).symm) (C.at 1 rfl rfl) (w := 4) ⟨by decide, by decide⟩ (u := l4) m4 (by assumption) (npc := s + 2) rfl ?_
  refine r_cmp hL (g0k b0 (by decide)) (glk b1 (by decide)) h5 (ghk b2 (by decide)) (C.at 2 rfl rfl) (C.at 3 rfl (Int.add_assoc s 2 1)) (w := 2) ⟨by decide, by decide⟩ (u := l2) m2 (by assumption) (by assumption) (npc := s + 4) (Int.add_assoc s 2 2).symm fun _ => ?_
  refine r_lda hL (g0k b0 (by decide)) (glk b1 (by decide)) h5 (ghk b2 (by decide)) (C.at 4 rfl rfl) (C.at 5 rfl (Int.add_assoc s 4 1)) (w := 5) ⟨by decide, by decide⟩ (u := h5') m5 (by assumption) (npc := s + 6) (Int.add_assoc s 4 2).symm ?_
  refine r_sbc hL (g0k b0 (by decide)) (glk b1 (by decide)) h5 (ghk b2 (by decide)) (C.at 6 rfl rfl) (C.at 7 rfl (Int.add_assoc s 6 1)) (w := 3) ⟨by decide, by decide⟩ (u := h3) m3 (by assumption) (by assumption) (npc := s + 8) (Int.add_assoc s 6 2).symm ?_
  generalize q2 : (h5' + (255 - h3) + if decide (l2 ≤ l4) = true then 1 else 0) = t2
  have q2 : t2 = h5' + (255 - h3) + (if l2 ≤ l4 then 1 else 0) := by rw [← q2]; simp
  refine r_ldaI hL (g0k b0 (by decide)) (glk b1 (by decide)) h5 (ghk b2 (by decide)) (C.at 8 rfl rfl) (u := 0) (C.at 9 rfl (Int.add_assoc s 8 1)) ⟨by decide, by decide⟩ (npc := s + 10) (Int.add_assoc s 8 2).symm ?_
  refine r_sta hL (g0k b0 (by decide)) (glk b1 (by decide)) h5 (ghk b2 (by decide)) (C.at 10 rfl rfl) (C.at 11 rfl (Int.add_assoc s 10 1)) (w := 3) ⟨by decide, by decide⟩ rfl (npc := s + 12) (Int.add_assoc s 10 2).symm ?_
  refine r_rolA hL (g0k b0 (by decide)) (glk b1 (by decide)) h5 (ghk b2 (by decide)) (upd_far (g5 b0 (by decide)) (by decide) (C.at 12 rfl rfl)) ⟨by decide, by decide⟩ (npc := s + 13) (Int.add_assoc s 12 1).symm ?_
  have k1 : ((2 * 0 + if decide (255 < t2) = true then (1 : Int) else 0) % 256) = if 255 < t2 then 1 else 0 := by by_cases k : 255 < t2 <;> simp [k]
  rw [k1]
  have k2 : bitXor (if 255 < t2 then 1 else 0) 1 = if 255 < t2 then 0 else 1 := by by_cases k : 255 < t2 <;> simp [k] <;> decide
  have k3 : oct? (bitXor (if 255 < t2 then 1 else 0) 1) := by rw [k2]; exact ⟨by split <;> lia, by split <;> lia⟩
  refine r_eorI hL (g0k b0 (by decide)) (glk b1 (by decide)) h5 (ghk b2 (by decide)) (upd_far (g5 b0 (by decide)) (by decide) (C.at 13 rfl rfl)) (u := 1) (upd_far (g6 b0 (by decide) (by decide)) (by decide) (C.at 14 rfl (Int.add_assoc s 13 1))) k3 (npc := s + 15) (Int.add_assoc s 13 2).symm ?_
  refine r_sta hL (g0k b0 (by decide)) (glk b1 (by decide)) h5 (ghk b2 (by decide)) (upd_far (g5 b0 (by decide)) (by decide) (C.at 15 rfl rfl)) (upd_far (g6 b0 (by decide) (by decide)) (by decide) (C.at 16 rfl (Int.add_assoc s 15 1))) (w := 2) ⟨by decide, by decide⟩ rfl (npc := s + 17) (Int.add_assoc s 15 2).symm ?_
  refine Reach.done ⟨rfl, rfl, ?_, ?_, ?_, fun j e2 e3 => by simp [upd, e2, e3]⟩
  · dsimp only; rw [upd_same]; exact k3
  · dsimp only; rw [mupd_ne (by decide), upd_same]; exact ⟨by decide, by decide⟩
  · dsimp only; rw [upd_same, mupd_ne (by decide), upd_same, k2]; split at q2 <;> split <;> split <;> lia

theorem f_dbl (m2 : m 2 = l2) (m3 : m 3 = h3) (o2 : oct? l2) (o3 : oct? h3) (C : Code m s [6, 2, 38, 3]) (b0 : 512 ≤ s) (b1 : s + 4 < L) (b2 : s + 4 ≤ hi) : Reach L hi 2 ⟨m, s, sp, a, x, c, z, n, v⟩ (Post2 m (s + 4) sp ((2 * (l2 + 256 * h3)) % 65536)) := by
  have a1 := o2.1; have a2 := o2.2; have a3 := o3.1; have a4 := o3.2
  refine r_asl hL (g0 b0) (gl b1 (by decide)) h5 (gh b2 (by decide)) (C.at 0 rfl (Int.add_zero s).symm) (C.at 1 rfl rfl) (w := 2) ⟨by decide, by decide⟩ (u := l2) m2 (by assumption) (npc := s + 2) rfl ?_
  refine r_rol hL (g0k b0 (by decide)) (glk b1 (by decide)) h5 (ghk b2 (by decide)) (upd_far (g5 b0 (by decide)) (by decide) (C.at 2 rfl rfl)) (upd_far (g6 b0 (by decide) (by decide)) (by decide) (C.at 3 rfl (Int.add_assoc s 2 1))) (w := 3) ⟨by decide, by decide⟩ (u := h3) ((mupd_ne (by decide)).trans m3) (by assumption) (npc := s + 4) (Int.add_assoc s 2 2).symm ?_
  have k1 : (if decide (128 ≤ l2) = true then (1 : Int) else 0) = if 255 < 2 * l2 then 1 else 0 := by
    by_cases h : 128 ≤ l2
    · rw [decide_eq_true h, if_pos rfl, if_pos (by lia)]
    · rw [decide_eq_false h, if_neg Bool.false_ne_true, if_neg (by lia)]
  refine Reach.done ⟨rfl, rfl, ?_, ?_, ?_, fun j e2 e3 => by simp [upd, e2, e3]⟩
  · dsimp only; rw [mupd_ne (by decide), upd_same]; exact octm _
  · dsimp only; rw [upd_same]; exact octm _
  · dsimp only; rw [mupd_ne (by decide), upd_same, upd_same, k1]; exact word_sum (by lia) (by lia) rfl (congrArg (· % 65536) (by lia))

theorem f_copy (m2 : m 2 = l2) (m3 : m 3 = h3) (o2 : oct? l2) (o3 : oct? h3) (C : Code m s [165, 2, 133, 4, 165, 3, 133, 5]) (b0 : 512 ≤ s) (b1 : s + 8 < L) (b2 : s + 8 ≤ hi) : Reach L hi 4 ⟨m, s, sp, a, x, c, z, n, v⟩ (fun q => q.pc = s + 8 ∧ q.sp = sp ∧ q.m = upd (upd m 4 l2) 5 h3) := by
  refine r_lda hL (g0 b0) (gl b1 (by decide)) h5 (gh b2 (by decide)) (C.at 0 rfl (Int.add_zero s).symm) (C.at 1 rfl rfl) (w := 2) ⟨by decide, by decide⟩ (u := l2) m2 (by assumption) (npc := s + 2) rfl ?_
  refine r_sta hL (g0k b0 (by decide)) (glk b1 (by decide)) h5 (ghk b2 (by decide)) (C.at 2 rfl rfl) (C.at 3 rfl (Int.add_assoc s 2 1)) (w := 4) ⟨by decide, by decide⟩ rfl (npc := s + 4) (Int.add_assoc s 2 2).symm ?_
  refine r_lda hL (g0k b0 (by decide)) (glk b1 (by decide)) h5 (ghk b2 (by decide)) (upd_far (g5 b0 (by decide)) (by decide) (C.at 4 rfl rfl)) (upd_far (g6 b0 (by decide) (by decide)) (by decide) (C.at 5 rfl (Int.add_assoc s 4 1))) (w := 3) ⟨by decide, by decide⟩ (u := h3) ((mupd_ne (by decide)).trans m3) (by assumption) (npc := s + 6) (Int.add_assoc s 4 2).symm ?_
  refine r_sta hL (g0k b0 (by decide)) (glk b1 (by decide)) h5 (ghk b2 (by decide)) (upd_far (g5 b0 (by decide)) (by decide) (C.at 6 rfl rfl)) (upd_far (g6 b0 (by decide) (by decide)) (by decide) (C.at 7 rfl (Int.add_assoc s 6 1))) (w := 5) ⟨by decide, by decide⟩ rfl (npc := s + 8) (Int.add_assoc s 6 2).symm ?_
  exact Reach.done ⟨rfl, rfl, rfl⟩

end
end Mine
set_option genSizeOf false
set_option genInjectivity false
set_option maxRecDepth 100000
namespace Mine
open PySem PySem.W PySem.Calls PyProof.Rows Builtin

noncomputable def ReachLe (L : Nat) (hi : Int) (N : Nat) (q : Q) (P : Q → Prop) : Prop := ∃ n, n ≤ N ∧ Reach L hi n q P
theorem ReachLe.of {L : Nat} {hi : Int} {n : Nat} {q : Q} {P : Q → Prop} (h : Reach L hi n q P) {N : Nat} (le : n ≤ N) : ReachLe L hi N q P := ⟨n, le, h⟩
theorem ReachLe.then {L : Nat} {hi : Int} {n k : Nat} {q : Q} {P R : Q → Prop} (h : ReachLe L hi n q P) (h' : ∀ q', P q' → ReachLe L hi k q' R) : ReachLe L hi (n + k) q R := by
  obtain ⟨a, ha, q₁, h1, h2⟩ := h
  obtain ⟨b, hb, q₂, h3, h4⟩ := h' q₁ h2
  exact ⟨a + b, by lia, q₂, h1.append h3, h4⟩
theorem ReachLe.imp {L : Nat} {hi : Int} {n : Nat} {q : Q} {P R : Q → Prop} (h : ReachLe L hi n q P) (h' : ∀ q', P q' → R q') : ReachLe L hi n q R := by
  obtain ⟨a, ha, r⟩ := h
  exact ⟨a, ha, r.imp h'⟩
theorem ReachLe.le {L : Nat} {hi : Int} {n k : Nat} {q : Q} {P : Q → Prop} (h : ReachLe L hi n q P) (le : n ≤ k) : ReachLe L hi k q P := by
  obtain ⟨a, ha, r⟩ := h
  exact ⟨a, by lia, r⟩
theorem ReachLe.hi {L : Nat} {hi hi' : Int} {n : Nat} {q : Q} {P : Q → Prop} (h : ReachLe L hi n q P) (le : hi ≤ hi') : ReachLe L hi' n q P := by
  obtain ⟨a, ha, q', h1, h2⟩ := h
  exact ⟨a, ha, q', h1.mono le, h2⟩
noncomputable def TestPost (m : Int → Int) (sp e tgt : Int) (b : Bool) (q : Q) : Prop := q.pc = (if b then e else tgt) ∧ q.sp = sp ∧ q.m = m
section
variable {L : Nat} {hi : Int} {m : Int → Int} {s sp a x : Int} {c z n v : Bool} {l2 h3 l4 h5' w1 w2 : Int} (hL : L ≤ 65536) (h5 : 512 ≤ L)
include hL h5
theorem f_jmp (C : Code m s [76, w1, w2]) (b0 : 512 ≤ s) (b1 : s + 3 < L) (b2 : s + 3 ≤ hi) (o1 : oct? w1) (o2 : oct? w2) : Reach L hi 1 ⟨m, s, sp, a, x, c, z, n, v⟩ (fun q => q.pc = w1 + 256 * w2 ∧ q.sp = sp ∧ q.m = m) := by
  refine r_jmp hL (g0 b0) (gl b1 (by decide)) h5 (gh b2 (by decide)) (C.at 0 rfl (Int.add_zero s).symm) (C.at 1 rfl rfl) (C.at 2 rfl rfl) o1 o2 rfl ?_
  refine Reach.done ⟨?_, rfl, rfl⟩
  dsimp only
  lia

theorem f_test0 (m2 : m 2 = l2) (m3 : m 3 = h3) (o2 : oct? l2) (o3 : oct? h3) (p1 : oct? w1) (p2 : oct? w2) (C : Code m s [165, 2, 5, 3, 208, 3, 76, w1, w2]) (b0 : 512 ≤ s) (b1 : s + 9 < L) (b2 : s + 9 ≤ hi) : ReachLe L hi 4 ⟨m, s, sp, a, x, c, z, n, v⟩ (TestPost m sp (s + 9) (w1 + 256 * w2) (decide (l2 + 256 * h3 ≠ 0))) := by
  have a1 := o2.1; have a2 := o2.2; have a3 := o3.1; have a4 := o3.2
  have hB : (bitOr l2 h3 == 0) = !decide (l2 + 256 * h3 ≠ 0) := by
    have k : bitOr l2 h3 = 0 ↔ l2 + 256 * h3 = 0 := by
      have e1 := bitOr_and l2 h3
      have e2 := bitAnd_range l2 (y := h3) a3
      have e3 := bitAnd_range h3 (y := l2) a1
      rw [bitAnd_comm] at e3
      lia
    rw [Bool.eq_iff_iff]
    simp [k]
  by_cases hc : decide (l2 + 256 * h3 ≠ 0) = true
  · refine ReachLe.of (n := 3) ?_ (by lia)
    refine r_lda hL (g0 b0) (gl b1 (by decide)) h5 (gh b2 (by decide)) (C.at 0 rfl (Int.add_zero s).symm) (C.at 1 rfl rfl) (w := 2) ⟨by decide, by decide⟩ (u := l2) m2 (by assumption) (npc := s + 2) rfl ?_
    refine r_ora hL (g0k b0 (by decide)) (glk b1 (by decide)) h5 (ghk b2 (by decide)) (C.at 2 rfl rfl) (C.at 3 rfl (Int.add_assoc s 2 1)) (w := 3) ⟨by decide, by decide⟩ (u := h3) m3 (or_oct o2 o3) (npc := s + 4) (Int.add_assoc s 2 2).symm ?_
    refine r_bne hL (g0k b0 (by decide)) (glk b1 (by decide)) h5 (ghk b2 (by decide)) (C.at 4 rfl rfl) (u := 3) (C.at 5 rfl (Int.add_assoc s 4 1)) (by decide) (by decide) (by lia) ?_
    rw [hB, hc]
    simp only [Bool.not_true, Bool.false_eq_true, if_false]
    refine Reach.done ⟨?_, rfl, rfl⟩
    dsimp only
    rw [if_pos rfl]
    lia
  · have hc' : decide (l2 + 256 * h3 ≠ 0) = false := by simpa using hc
    refine ReachLe.of (n := 4) ?_ (by lia)
    refine r_lda hL (g0 b0) (gl b1 (by decide)) h5 (gh b2 (by decide)) (C.at 0 rfl (Int.add_zero s).symm) (C.at 1 rfl rfl) (w := 2) ⟨by decide, by decide⟩ (u := l2) m2 (by assumption) (npc := s + 2) rfl ?_
    refine r_ora hL (g0k b0 (by decide)) (glk b1 (by decide)) h5 (ghk b2 (by decide)) (C.at 2 rfl rfl) (C.at 3 rfl (Int.add_assoc s 2 1)) (w := 3) ⟨by decide, by decide⟩ (u := h3) m3 (or_oct o2 o3) (npc := s + 4) (Int.add_assoc s 2 2).symm ?_
    refine r_bne hL (g0k b0 (by decide)) (glk b1 (by decide)) h5 (ghk b2 (by decide)) (C.at 4 rfl rfl) (u := 3) (C.at 5 rfl (Int.add_assoc s 4 1)) (by decide) (by decide) (by lia) ?_
    rw [hB, hc']
    simp only [Bool.not_false, if_true]
    refine r_jmp hL (by lia) (by lia) h5 (by lia) (C.at 6 rfl (by lia)) (C.at 7 rfl (by lia)) (C.at 8 rfl (by lia)) p1 p2 rfl ?_
    refine Reach.done ⟨?_, rfl, rfl⟩
    dsimp only
    rw [if_neg (by decide)]
    lia


theorem f_test1 (m2 : m 2 = l2) (m3 : m 3 = h3) (o2 : oct? l2) (o3 : oct? h3) (p1 : oct? w1) (p2 : oct? w2) (C : Code m s [165, 2, 74, 176, 3, 76, w1, w2]) (b0 : 512 ≤ s) (b1 : s + 8 < L) (b2 : s + 8 ≤ hi) : ReachLe L hi 4 ⟨m, s, sp, a, x, c, z, n, v⟩ (TestPost m sp (s + 8) (w1 + 256 * w2) (decide ((l2 + 256 * h3) % 2 = 1))) := by
  have a1 := o2.1; have a2 := o2.2; have a3 := o3.1; have a4 := o3.2
  have hB : decide (l2 % 2 = 1) = decide ((l2 + 256 * h3) % 2 = 1) := by
    rw [Bool.eq_iff_iff]
    simp
    lia
  by_cases hc : decide ((l2 + 256 * h3) % 2 = 1) = true
  · refine ReachLe.of (n := 3) ?_ (by lia)
    refine r_lda hL (g0 b0) (gl b1 (by decide)) h5 (gh b2 (by decide)) (C.at 0 rfl (Int.add_zero s).symm) (C.at 1 rfl rfl) (w := 2) ⟨by decide, by decide⟩ (u := l2) m2 (by assumption) (npc := s + 2) rfl ?_
    refine r_lsrA hL (g0k b0 (by decide)) (glk b1 (by decide)) h5 (ghk b2 (by decide)) (C.at 2 rfl rfl) (by assumption) (npc := s + 3) (Int.add_assoc s 2 1).symm ?_
    refine r_bcs hL (g0k b0 (by decide)) (glk b1 (by decide)) h5 (ghk b2 (by decide)) (C.at 3 rfl rfl) (u := 3) (C.at 4 rfl (Int.add_assoc s 3 1)) (by decide) (by decide) (by lia) ?_
    rw [hB, hc]
    simp only [if_true]
    refine Reach.done ⟨?_, rfl, rfl⟩
    dsimp only
    rw [if_pos rfl]
    lia
  · have hc' : decide ((l2 + 256 * h3) % 2 = 1) = false := by simpa using hc
    refine ReachLe.of (n := 4) ?_ (by lia)
    refine r_lda hL (g0 b0) (gl b1 (by decide)) h5 (gh b2 (by decide)) (C.at 0 rfl (Int.add_zero s).symm) (C.at 1 rfl rfl) (w := 2) ⟨by decide, by decide⟩ (u := l2) m2 (by assumption) (npc := s + 2) rfl ?_
    refine r_lsrA hL (g0k b0 (by decide)) (glk b1 (by decide)) h5 (ghk b2 (by decide)) (C.at 2 rfl rfl) (by assumption) (npc := s + 3) (Int.add_assoc s 2 1).symm ?_
    refine r_bcs hL (g0k b0 (by decide)) (glk b1 (by decide)) h5 (ghk b2 (by decide)) (C.at 3 rfl rfl) (u := 3) (C.at 4 rfl (Int.add_assoc s 3 1)) (by decide) (by decide) (by lia) ?_
    rw [hB, hc']
    simp only [Bool.false_eq_true, if_false]
    refine r_jmp hL (by lia) (by lia) h5 (by lia) (C.at 5 rfl (by lia)) (C.at 6 rfl (by lia)) (C.at 7 rfl (by lia)) p1 p2 rfl ?_
    refine Reach.done ⟨?_, rfl, rfl⟩
    dsimp only
    rw [if_neg (by decide)]
    lia


theorem f_test2 (m2 : m 2 = l2) (m3 : m 3 = h3) (o2 : oct? l2) (o3 : oct? h3) (p1 : oct? w1) (p2 : oct? w2) (C : Code m s [165, 3, 48, 3, 76, w1, w2]) (b0 : 512 ≤ s) (b1 : s + 7 < L) (b2 : s + 7 ≤ hi) : ReachLe L hi 3 ⟨m, s, sp, a, x, c, z, n, v⟩ (TestPost m sp (s + 7) (w1 + 256 * w2) (decide (32767 < l2 + 256 * h3))) := by
  have a1 := o2.1; have a2 := o2.2; have a3 := o3.1; have a4 := o3.2
  have hB : decide (128 ≤ h3) = decide (32767 < l2 + 256 * h3) := by
    rw [Bool.eq_iff_iff]
    simp
    lia
  by_cases hc : decide (32767 < l2 + 256 * h3) = true
  · refine ReachLe.of (n := 2) ?_ (by lia)
    refine r_lda hL (g0 b0) (gl b1 (by decide)) h5 (gh b2 (by decide)) (C.at 0 rfl (Int.add_zero s).symm) (C.at 1 rfl rfl) (w := 3) ⟨by decide, by decide⟩ (u := h3) m3 (by assumption) (npc := s + 2) rfl ?_
    refine r_bmi hL (g0k b0 (by decide)) (glk b1 (by decide)) h5 (ghk b2 (by decide)) (C.at 2 rfl rfl) (u := 3) (C.at 3 rfl (Int.add_assoc s 2 1)) (by decide) (by decide) (by lia) ?_
    rw [hB, hc]
    simp only [if_true]
    refine Reach.done ⟨?_, rfl, rfl⟩
    dsimp only
    rw [if_pos rfl]
    lia
  · have hc' : decide (32767 < l2 + 256 * h3) = false := by simpa using hc
    refine ReachLe.of (n := 3) ?_ (by lia)
    refine r_lda hL (g0 b0) (gl b1 (by decide)) h5 (gh b2 (by decide)) (C.at 0 rfl (Int.add_zero s).symm) (C.at 1 rfl rfl) (w := 3) ⟨by decide, by decide⟩ (u := h3) m3 (by assumption) (npc := s + 2) rfl ?_
    refine r_bmi hL (g0k b0 (by decide)) (glk b1 (by decide)) h5 (ghk b2 (by decide)) (C.at 2 rfl rfl) (u := 3) (C.at 3 rfl (Int.add_assoc s 2 1)) (by decide) (by decide) (by lia) ?_
    rw [hB, hc']
    simp only [Bool.false_eq_true, if_false]
    refine r_jmp hL (by lia) (by lia) h5 (by lia) (C.at 4 rfl (by lia)) (C.at 5 rfl (by lia)) (C.at 6 rfl (by lia)) p1 p2 rfl ?_
    refine Reach.done ⟨?_, rfl, rfl⟩
    dsimp only
    rw [if_neg (by decide)]
    lia


omit hL h5 in
theorem less_eq {A B : Prop} [Decidable A] [Decidable B] (h : A ↔ B) : (if A then (1 : Int) else 0) + 256 * 0 = if B then 1 else 0 := by
  by_cases k : A
  · rw [if_pos k, if_pos (h.mp k)]; rfl
  · rw [if_neg k, if_neg (fun q => k (h.mpr q))]; rfl
noncomputable def sg8 (h : Int) : Int := if 128 ≤ h then h - 256 else h
omit hL h5 in
theorem oct_bit {h : Int} (o : oct? h) : (h / 128) % 2 = if 128 ≤ h then 1 else 0 := by
  have := o.1; have := o.2
  split <;> lia
omit hL h5 in
theorem lk1 {u : Int} (h0 : -256 ≤ u) (h1 : u ≤ 255) : (128 ≤ if (u < -128 ∨ 127 < u) then (if 128 ≤ u % 256 then u % 256 - 128 else u % 256 + 128) else u % 256) ↔ u < 0 := by
  split
  · split <;> lia
  · lia
omit hL h5 in
theorem lk2 {l h : Int} (ol : oct? l) : (if 32767 < l + 256 * h then l + 256 * h - 65536 else l + 256 * h) = l + 256 * sg8 h := by
  unfold sg8
  have := ol.1; have := ol.2
  split <;> split <;> lia
omit hL h5 in
theorem lk3 {l4 l2 a b : Int} (o2 : oct? l2) (o4 : oct? l4) : l4 + 256 * a < l2 + 256 * b ↔ a - b - 1 + (if l2 ≤ l4 then 1 else 0) < 0 := by
  have := o2.1; have := o2.2; have := o4.1; have := o4.2
  split <;> lia
omit hL h5 in
theorem lk4 {h5' h3 c : Int} (o5 : oct? h5') (o3 : oct? h3) (c0 : 0 ≤ c) (c1 : c ≤ 1) : -256 ≤ sg8 h5' - sg8 h3 - 1 + c ∧ sg8 h5' - sg8 h3 - 1 + c ≤ 255 ∧ (h5' + (255 - h3) + c) % 256 = (sg8 h5' - sg8 h3 - 1 + c) % 256 ∧
    (((h5' / 128) % 2 ≠ (h3 / 128) % 2 ∧ (h5' / 128) % 2 ≠ ((h5' + (255 - h3) + c) / 128) % 2) ↔ (sg8 h5' - sg8 h3 - 1 + c < -128 ∨ 127 < sg8 h5' - sg8 h3 - 1 + c)) := by
  rw [oct_bit o5, oct_bit o3]
  unfold sg8
  have := o5.1; have := o5.2; have := o3.1; have := o3.2
  by_cases x : 128 ≤ h5' <;> by_cases y : 128 ≤ h3 <;> simp only [x, y, if_true, if_false] <;> refine ⟨by lia, by lia, by lia, by lia⟩
omit hL h5 in
theorem less_key {t2 : Int} (o2 : oct? l2) (o3 : oct? h3) (o4 : oct? l4) (o5 : oct? h5') (q2 : t2 = h5' + (255 - h3) + (if l2 ≤ l4 then 1 else 0)) : ((128 ≤ if ((h5' / 128) % 2 ≠ (h3 / 128) % 2 ∧ (h5' / 128) % 2 ≠ (t2 / 128) % 2) then (if 128 ≤ t2 % 256 then t2 % 256 - 128 else t2 % 256 + 128) else t2 % 256) ↔
    (if 32767 < l4 + 256 * h5' then l4 + 256 * h5' - 65536 else l4 + 256 * h5') < (if 32767 < l2 + 256 * h3 then l2 + 256 * h3 - 65536 else l2 + 256 * h3)) := by
  subst q2
  have c0 : (0 : Int) ≤ if l2 ≤ l4 then 1 else 0 := by split <;> decide
  have c1 : (if l2 ≤ l4 then (1 : Int) else 0) ≤ 1 := by split <;> decide
  obtain ⟨u0, u1, e, v⟩ := lk4 o5 o3 c0 c1
  rw [lk2 o4, lk2 o2, e]
  refine Iff.trans ?_ (lk3 o2 o4).symm
  refine Iff.trans (Iff.of_eq (congrArg (128 ≤ ·) ?_)) (lk1 u0 u1)
  by_cases h : sg8 h5' - sg8 h3 - 1 + (if l2 ≤ l4 then 1 else 0) < -128 ∨ 127 < sg8 h5' - sg8 h3 - 1 + (if l2 ≤ l4 then 1 else 0)
  · rw [if_pos h, if_pos (v.mpr h)]
  · rw [if_neg h, if_neg (fun q => h (v.mp q))]
theorem f_lessS (m2 : m 2 = l2) (m3 : m 3 = h3) (o2 : oct? l2) (o3 : oct? h3) (m4 : m 4 = l4) (m5 : m 5 = h5') (o4 : oct? l4) (o5 : oct? h5') (C : Code m s [165, 4, 197, 2, 165, 5, 229, 3, 80, 2, 73, 128, 10, 169, 0, 133, 3, 42, 133, 2]) (b0 : 512 ≤ s) (b1 : s + 20 < L) (b2 : s + 20 ≤ hi) : ReachLe L hi 11 ⟨m, s, sp, a, x, c, z, n, v⟩ (Post2 m (s + 20) sp (if (if 32767 < l4 + 256 * h5' then l4 + 256 * h5' - 65536 else l4 + 256 * h5') < (if 32767 < l2 + 256 * h3 then l2 + 256 * h3 - 65536 else l2 + 256 * h3) then 1 else 0)) := by
  have a1 := o2.1; have a2 := o2.2; have a3 := o3.1; have a4 := o3.2
  have a5 := o4.1; have a6 := o4.2; have a7 := o5.1; have a8 := o5.2
  have q2n : (0 : Int) ≤ h5' + (255 - h3) + (if l2 ≤ l4 then 1 else 0) := by split <;> lia
  have vf := vflag (a := h5') (d := h3) (r := h5' + (255 - h3) + (if l2 ≤ l4 then 1 else 0)) a7 a3 q2n
  have lk := less_key (t2 := h5' + (255 - h3) + (if l2 ≤ l4 then 1 else 0)) o2 o3 o4 o5 rfl
  by_cases hv : ((h5' / 128) % 2 ≠ (h3 / 128) % 2 ∧ (h5' / 128) % 2 ≠ ((h5' + (255 - h3) + (if l2 ≤ l4 then 1 else 0)) / 128) % 2)
  · rw [if_pos hv] at lk
    have vf' := vf.trans (show _ = true by simp only [Bool.and_eq_true, decide_eq_true_eq]; exact hv)
    clear vf hv
    generalize q2 : h5' + (255 - h3) + (if l2 ≤ l4 then (1 : Int) else 0) = t2 at *
    refine ReachLe.of (n := 11) ?_ (by lia)
    refine r_lda hL (g0 b0) (gl b1 (by decide)) h5 (gh b2 (by decide)) (C.at 0 rfl (Int.add_zero s).symm) (C.at 1 rfl rfl) (w := 4) ⟨by decide, by decide⟩ (u := l4) m4 (by assumption) (npc := s + 2) rfl ?_
    refine r_cmp hL (g0k b0 (by decide)) (glk b1 (by decide)) h5 (ghk b2 (by decide)) (C.at 2 rfl rfl) (C.at 3 rfl (Int.add_assoc s 2 1)) (w := 2) ⟨by decide, by decide⟩ (u := l2) m2 (by assumption) (by assumption) (npc := s + 4) (Int.add_assoc s 2 2).symm fun _ => ?_
    refine r_lda hL (g0k b0 (by decide)) (glk b1 (by decide)) h5 (ghk b2 (by decide)) (C.at 4 rfl rfl) (C.at 5 rfl (Int.add_assoc s 4 1)) (w := 5) ⟨by decide, by decide⟩ (u := h5') m5 (by assumption) (npc := s + 6) (Int.add_assoc s 4 2).symm ?_
    refine r_sbc hL (g0k b0 (by decide)) (glk b1 (by decide)) h5 (ghk b2 (by decide)) (C.at 6 rfl rfl) (C.at 7 rfl (Int.add_assoc s 6 1)) (w := 3) ⟨by decide, by decide⟩ (u := h3) m3 (by assumption) (by assumption) (npc := s + 8) (Int.add_assoc s 6 2).symm ?_
    have q2x : (h5' + (255 - h3) + if decide (l2 ≤ l4) = true then (1 : Int) else 0) = t2 := by rw [← q2]; simp
    rw [q2x, vf']
    refine r_bvc hL (g0k b0 (by decide)) (glk b1 (by decide)) h5 (ghk b2 (by decide)) (C.at 8 rfl rfl) (u := 2) (C.at 9 rfl (Int.add_assoc s 8 1)) (by decide) (by decide) (by lia) ?_
    simp only [if_true]
    have ot : oct? (t2 % 256) := ⟨by lia, by lia⟩
    have ox := xor_oct ot (y := 128) ⟨by decide, by decide⟩
    refine r_eorI hL (by lia) (by lia) h5 (by lia) (C.at 10 rfl (by lia)) (u := 128) (C.at 11 rfl (by lia)) ox (npc := s + 12) (by lia) ?_
    rw [xor128 ot] at ox ⊢
    generalize qa : (if 128 ≤ t2 % 256 then t2 % 256 - 128 else t2 % 256 + 128) = aa at *
    refine r_aslA hL (g0k b0 (by decide)) (glk b1 (by decide)) h5 (ghk b2 (by decide)) (C.at 12 rfl rfl) ox (npc := s + 13) (Int.add_assoc s 12 1).symm ?_
    refine r_ldaI hL (g0k b0 (by decide)) (glk b1 (by decide)) h5 (ghk b2 (by decide)) (C.at 13 rfl rfl) (u := 0) (C.at 14 rfl (Int.add_assoc s 13 1)) ⟨by decide, by decide⟩ (npc := s + 15) (Int.add_assoc s 13 2).symm ?_
    refine r_sta hL (g0k b0 (by decide)) (glk b1 (by decide)) h5 (ghk b2 (by decide)) (C.at 15 rfl rfl) (C.at 16 rfl (Int.add_assoc s 15 1)) (w := 3) ⟨by decide, by decide⟩ rfl (npc := s + 17) (Int.add_assoc s 15 2).symm ?_
    refine r_rolA hL (g0k b0 (by decide)) (glk b1 (by decide)) h5 (ghk b2 (by decide)) (upd_far (g5 b0 (by decide)) (by decide) (C.at 17 rfl rfl)) ⟨by decide, by decide⟩ (npc := s + 18) (Int.add_assoc s 17 1).symm ?_
    have k1 : ((2 * 0 + if decide (128 ≤ aa) = true then (1 : Int) else 0) % 256) = if 128 ≤ aa then 1 else 0 := by by_cases k : 128 ≤ aa <;> simp [k]
    rw [k1]
    refine r_sta hL (g0k b0 (by decide)) (glk b1 (by decide)) h5 (ghk b2 (by decide)) (upd_far (g5 b0 (by decide)) (by decide) (C.at 18 rfl rfl)) (upd_far (g6 b0 (by decide) (by decide)) (by decide) (C.at 19 rfl (Int.add_assoc s 18 1))) (w := 2) ⟨by decide, by decide⟩ rfl (npc := s + 20) (Int.add_assoc s 18 2).symm ?_
    refine Reach.done ⟨rfl, rfl, ?_, ?_, ?_, fun j e2 e3 => by simp [upd, e2, e3]⟩
    · dsimp only; rw [upd_same]; exact ⟨by split <;> lia, by split <;> lia⟩
    · dsimp only; rw [mupd_ne (by decide), upd_same]; exact ⟨by decide, by decide⟩
    · dsimp only; rw [upd_same, mupd_ne (by decide), upd_same]; exact less_eq lk
  · rw [if_neg hv] at lk
    have vf' := vf.trans (show _ = false by rw [← Bool.decide_and]; exact decide_eq_false hv)
    clear vf hv
    generalize q2 : h5' + (255 - h3) + (if l2 ≤ l4 then (1 : Int) else 0) = t2 at *
    refine ReachLe.of (n := 10) ?_ (by lia)
    refine r_lda hL (g0 b0) (gl b1 (by decide)) h5 (gh b2 (by decide)) (C.at 0 rfl (Int.add_zero s).symm) (C.at 1 rfl rfl) (w := 4) ⟨by decide, by decide⟩ (u := l4) m4 (by assumption) (npc := s + 2) rfl ?_
    refine r_cmp hL (g0k b0 (by decide)) (glk b1 (by decide)) h5 (ghk b2 (by decide)) (C.at 2 rfl rfl) (C.at 3 rfl (Int.add_assoc s 2 1)) (w := 2) ⟨by decide, by decide⟩ (u := l2) m2 (by assumption) (by assumption) (npc := s + 4) (Int.add_assoc s 2 2).symm fun _ => ?_
    refine r_lda hL (g0k b0 (by decide)) (glk b1 (by decide)) h5 (ghk b2 (by decide)) (C.at 4 rfl rfl) (C.at 5 rfl (Int.add_assoc s 4 1)) (w := 5) ⟨by decide, by decide⟩ (u := h5') m5 (by assumption) (npc := s + 6) (Int.add_assoc s 4 2).symm ?_
    refine r_sbc hL (g0k b0 (by decide)) (glk b1 (by decide)) h5 (ghk b2 (by decide)) (C.at 6 rfl rfl) (C.at 7 rfl (Int.add_assoc s 6 1)) (w := 3) ⟨by decide, by decide⟩ (u := h3) m3 (by assumption) (by assumption) (npc := s + 8) (Int.add_assoc s 6 2).symm ?_
    have q2x : (h5' + (255 - h3) + if decide (l2 ≤ l4) = true then (1 : Int) else 0) = t2 := by rw [← q2]; simp
    rw [q2x, vf']
    refine r_bvc hL (g0k b0 (by decide)) (glk b1 (by decide)) h5 (ghk b2 (by decide)) (C.at 8 rfl rfl) (u := 2) (C.at 9 rfl (Int.add_assoc s 8 1)) (by decide) (by decide) (by lia) ?_
    simp only [Bool.false_eq_true, if_false]
    rw [show s + 8 + 2 + 2 = s + 12 by lia]
    have ox : oct? (t2 % 256) := ⟨by lia, by lia⟩
    generalize qa : t2 % 256 = aa at *
    refine r_aslA hL (g0k b0 (by decide)) (glk b1 (by decide)) h5 (ghk b2 (by decide)) (C.at 12 rfl rfl) ox (npc := s + 13) (Int.add_assoc s 12 1).symm ?_
    refine r_ldaI hL (g0k b0 (by decide)) (glk b1 (by decide)) h5 (ghk b2 (by decide)) (C.at 13 rfl rfl) (u := 0) (C.at 14 rfl (Int.add_assoc s 13 1)) ⟨by decide, by decide⟩ (npc := s + 15) (Int.add_assoc s 13 2).symm ?_
    refine r_sta hL (g0k b0 (by decide)) (glk b1 (by decide)) h5 (ghk b2 (by decide)) (C.at 15 rfl rfl) (C.at 16 rfl (Int.add_assoc s 15 1)) (w := 3) ⟨by decide, by decide⟩ rfl (npc := s + 17) (Int.add_assoc s 15 2).symm ?_
    refine r_rolA hL (g0k b0 (by decide)) (glk b1 (by decide)) h5 (ghk b2 (by decide)) (upd_far (g5 b0 (by decide)) (by decide) (C.at 17 rfl rfl)) ⟨by decide, by decide⟩ (npc := s + 18) (Int.add_assoc s 17 1).symm ?_
    have k1 : ((2 * 0 + if decide (128 ≤ aa) = true then (1 : Int) else 0) % 256) = if 128 ≤ aa then 1 else 0 := by by_cases k : 128 ≤ aa <;> simp [k]
    rw [k1]
    refine r_sta hL (g0k b0 (by decide)) (glk b1 (by decide)) h5 (ghk b2 (by decide)) (upd_far (g5 b0 (by decide)) (by decide) (C.at 18 rfl rfl)) (upd_far (g6 b0 (by decide) (by decide)) (by decide) (C.at 19 rfl (Int.add_assoc s 18 1))) (w := 2) ⟨by decide, by decide⟩ rfl (npc := s + 20) (Int.add_assoc s 18 2).symm ?_
    refine Reach.done ⟨rfl, rfl, ?_, ?_, ?_, fun j e2 e3 => by simp [upd, e2, e3]⟩
    · dsimp only; rw [upd_same]; exact ⟨by split <;> lia, by split <;> lia⟩
    · dsimp only; rw [mupd_ne (by decide), upd_same]; exact ⟨by decide, by decide⟩
    · dsimp only; rw [upd_same, mupd_ne (by decide), upd_same]; exact less_eq lk


end
end Mine
set_option genSizeOf false
set_option genInjectivity false
set_option maxRecDepth 100000
namespace Mine
open PySem PySem.W PySem.Calls PyProof.Rows
set_option maxHeartbeats 0
noncomputable abbrev cmp4 (n : Nat) (d : D) (hs : Hs) (K : KE) : Prop := callN PX4 n false false "_law_compile" [.d d, .loc 0] hs K
noncomputable def ext (xs : List Int) (hs : Hs) (k : Hs → Prop) : Prop := growV 0 (catD (hs.hp.getD 0 .none) (.ints xs)) hs k
noncomputable def ends (k : Int) : List Int := match topD PX4 "_law_ends" with
  | some (.dict xs) => match xs.lookup k with
    | some (.ints is) => is
    | _ => []
  | _ => []
noncomputable def lenC (hs : Hs) (k : Int → Prop) : Prop := match lenD (hs.hp.getD 0 .none) with
  | some n => n < 2 ^ 62 ∧ k (n : Nat)
  | none => False
noncomputable def bodyB (k : Int) (n : Nat) (a b : D) (hs : Hs) (K : KE) : Prop :=
   ok1 0 2 (cmp4 n a hs fun _ hs => 2 < 2 ^ 62 ∧ ext [165, 2, 72, 165, 3, 72] hs fun hs => ok1 1 2 (cmp4 n b hs fun _ hs => ext [104, 133, 5, 104, 133, 4] hs fun hs => ext (ends k) hs fun hs => K (.d .none) hs))
noncomputable def bodyU (k : Int) (n : Nat) (a : D) (hs : Hs) (K : KE) : Prop :=
   ok1 0 1 (cmp4 n a hs fun _ hs => 1 < 2 ^ 62 ∧ ext (ends k) hs fun hs => K (.d .none) hs)
theorem cb2 (n : Nat) (e : Int) (a b : D) (hs : Hs) (K : KE) : cmp4 (n + 1) (.tup [.int 2, .int e, .list [a, b]]) hs K = bodyB 2 n a b hs K := by kernel_rfl
theorem cb3 (n : Nat) (e : Int) (a b : D) (hs : Hs) (K : KE) : cmp4 (n + 1) (.tup [.int 3, .int e, .list [a, b]]) hs K = bodyB 3 n a b hs K := by kernel_rfl
theorem cb4 (n : Nat) (e : Int) (a b : D) (hs : Hs) (K : KE) : cmp4 (n + 1) (.tup [.int 4, .int e, .list [a, b]]) hs K = bodyB 4 n a b hs K := by kernel_rfl
theorem cb5 (n : Nat) (e : Int) (a b : D) (hs : Hs) (K : KE) : cmp4 (n + 1) (.tup [.int 5, .int e, .list [a, b]]) hs K = bodyB 5 n a b hs K := by kernel_rfl
theorem cb6 (n : Nat) (e : Int) (a b : D) (hs : Hs) (K : KE) : cmp4 (n + 1) (.tup [.int 6, .int e, .list [a, b]]) hs K = bodyB 6 n a b hs K := by kernel_rfl
theorem cb10 (n : Nat) (e : Int) (a b : D) (hs : Hs) (K : KE) : cmp4 (n + 1) (.tup [.int 10, .int e, .list [a, b]]) hs K = bodyB 10 n a b hs K := by kernel_rfl
theorem cb11 (n : Nat) (e : Int) (a b : D) (hs : Hs) (K : KE) : cmp4 (n + 1) (.tup [.int 11, .int e, .list [a, b]]) hs K = bodyB 11 n a b hs K := by kernel_rfl
theorem cb7 (n : Nat) (e : Int) (a : D) (hs : Hs) (K : KE) : cmp4 (n + 1) (.tup [.int 7, .int e, .list [a]]) hs K = bodyU 7 n a hs K := by kernel_rfl
theorem cb8 (n : Nat) (e : Int) (a : D) (hs : Hs) (K : KE) : cmp4 (n + 1) (.tup [.int 8, .int e, .list [a]]) hs K = bodyU 8 n a hs K := by kernel_rfl
theorem cb0 (n : Nat) (e : Int) (d : D) (hs : Hs) (K : KE) : cmp4 (n + 1) (.tup [.int 0, .int e, d]) hs K =
   ((256 : Int) ≠ 0 ∧ ((256 : Int) ≠ 0 ∧ (256 : Int).natAbs < 1073741824) ∧ ext [169, e.fmod 256, 133, 2, 169, e.fdiv 256, 133, 3] hs fun hs => K (.d .none) hs) := by kernel_rfl
theorem cb1 (n : Nat) (e : Int) (d : D) (hs : Hs) (K : KE) : cmp4 (n + 1) (.tup [.int 1, .int e, d]) hs K =
   (((2 : Int).natAbs < 2 ^ 62 ∨ e.natAbs < 2 ^ 62) ∧ ext [162, 2 * e, 181, 16, 133, 2, 181, 17, 133, 3] hs fun hs => K (.d .none) hs) := by kernel_rfl
noncomputable def bit9 (e : Int) (b : Int) (hs : Hs) (k : Hs → Prop) : Prop :=
  True ∧ ((2 : Int).natAbs < 2 ^ 62 ∨ b.natAbs < 2 ^ 62) ∧ br (decide (2 * b ≤ e)) (ext [6, 2, 38, 3] hs fun hs => br (Builtin.bitAnd e b != 0) (ext (ends 2) hs k) (k hs)) (k hs)
theorem cb9 (n : Nat) (e : Int) (a : D) (hs : Hs) (K : KE) : cmp4 (n + 1) (.tup [.int 9, .int e, .list [a]]) hs K =
   ok1 0 1 (cmp4 n a hs fun _ hs => ext [165, 2, 133, 4, 165, 3, 133, 5] hs fun hs => True ∧ bit9 e 4 hs fun hs => bit9 e 2 hs fun hs => bit9 e 1 hs fun hs => True ∧ K (.d .none) hs) := by kernel_rfl
noncomputable def put2 (hole : Int) (hs : Hs) (k : Hs → Prop) : Prop :=
  lenC hs fun n => (256 : Int) ≠ 0 ∧ setItemV (.loc 0) (.d (.int hole)) (.d (.int (Int.fmod (512 + n) 256))) hs fun hs =>
  lenC hs fun n => ((256 : Int) ≠ 0 ∧ (256 : Int).natAbs < 1073741824) ∧ setItemV (.loc 0) (.d (.int (hole + 1))) (.d (.int (Int.fdiv (512 + n) 256))) hs k
noncomputable def tests : List D := [.ints [165, 2, 5, 3, 208, 3], .ints [165, 2, 74, 176, 3], .ints [165, 3, 48, 3]]
theorem cb12 (n : Nat) (e : Int) (a b c : D) (hs : Hs) (K : KE) : cmp4 (n + 1) (.tup [.int 12, .int e, .list [a, b, c]]) hs K =
   ok1 0 3 (cmp4 n a hs fun _ hs => (3 : Int) ≠ 0 ∧ at' (e.fmod 3) 3 fun i => binOpV .Add false (.d (tests.getD i .none)) (.d (.ints [76, 0, 0])) hs fun v hs => extendV 0 v hs fun hs =>
     lenC hs fun h1 => ok1 1 3 (cmp4 n b hs fun _ hs => ext [76, 0, 0] hs fun hs => put2 (h1 - 2) hs fun hs => lenC hs fun h2 => ok1 2 3 (cmp4 n c hs fun _ hs => put2 (h2 - 2) hs fun hs => K (.d .none) hs))) := by kernel_rfl
end Mine
set_option genSizeOf false
set_option genInjectivity false
set_option maxRecDepth 100000
namespace Mine
open PySem PySem.W PySem.Calls PyProof.Rows
set_option maxHeartbeats 0
noncomputable abbrev val4 (n : Nat) (d : D) (vs : List Int) (hs : Hs) (K : KE) : Prop := callN PX4 n false false "_law_value" [.d d, .d (.ints vs)] hs K
theorem vb0 (n : Nat) (e : Int) (d : D) (vs : List Int) (hs : Hs) (K : KE) : val4 (n + 1) (.tup [.int 0, .int e, d]) vs hs K = K (.d (.int e)) hs := by kernel_rfl
theorem vb1 (n : Nat) (e : Int) (d : D) (vs : List Int) (hs : Hs) (K : KE) : val4 (n + 1) (.tup [.int 1, .int e, d]) vs hs K = at' e vs.length fun i => K (.d (.int (vs.getD i 0))) hs := by kernel_rfl
theorem vb12 (n : Nat) (e : Int) (a b c : D) (vs : List Int) (hs : Hs) (K : KE) : val4 (n + 1) (.tup [.int 12, .int e, .list [a, b, c]]) vs hs K =
   ok1 0 3 (val4 n a vs hs fun v hs => cmpV .NotEq v (.d (.int 0)) hs fun c1 => binOpV .Mod false v (.d (.int 2)) hs fun w hs => cmpV .Eq w (.d (.int 1)) hs fun c2 => cmpV .Gt v (.d (.int 32767)) hs fun c3 =>
     (3 : Int) ≠ 0 ∧ at' (e.fmod 3) 3 fun i => truthV (.d (([.bool c1, .bool c2, .bool c3] : List D).getD i .none)) hs fun t => br t (ok1 1 3 (val4 n b vs hs K)) (ok1 2 3 (val4 n c vs hs K))) := by kernel_rfl
noncomputable def toldL (n : Nat) (vs : List Int) (k : List D → Hs → Prop) : List D → Hs → List D → Prop
  | [], hs, acc => True ∧ k acc.reverse hs
  | a :: r, hs, acc => True ∧ val4 n a vs hs fun v hs => optP v.d? fun y => toldL n vs k r hs (y :: acc)
noncomputable def fnV : Option Fn := fnOf PX4 false "_law_value"
noncomputable def valRest (n : Nat) (k e : Int) (kids : List D) (vs : List Int) (told : V) (hs : Hs) (K : KE) : Prop := match fnV with
  | some F => exL (evS PX4 F.scope.names false (fun m e => evE PX4 (callN PX4 n) depthE F.scope.names m e) depthS) (F.body.drop 5)
      [("tree", .d (.tup [.int k, .int e, .list kids])), ("variables", .d (.ints vs)), ("kind", .d (.int k)), ("extra", .d (.int e)), ("kids", .d (.list kids)), ("told", told)] hs fun f _ hs => K (retV f) hs
  | none => False
noncomputable def sg (x : Int) (k : Int → Prop) : Prop := br (decide (32767 < x)) (k (x - 65536)) (k x)
theorem vt2 (n : Nat) (e : Int) (a b : D) (vs : List Int) (hs : Hs) (K : KE) : val4 (n + 1) (.tup [.int 2, .int e, .list [a, b]]) vs hs K = (True ∧ 2 ≤ lim ∧ toldL n vs (fun ds hs => valRest n 2 e [a, b] vs (.d (mkList ds)) hs K) [a, b] hs []) := by kernel_rfl
theorem vt3 (n : Nat) (e : Int) (a b : D) (vs : List Int) (hs : Hs) (K : KE) : val4 (n + 1) (.tup [.int 3, .int e, .list [a, b]]) vs hs K = (True ∧ 2 ≤ lim ∧ toldL n vs (fun ds hs => valRest n 3 e [a, b] vs (.d (mkList ds)) hs K) [a, b] hs []) := by kernel_rfl
theorem vt4 (n : Nat) (e : Int) (a b : D) (vs : List Int) (hs : Hs) (K : KE) : val4 (n + 1) (.tup [.int 4, .int e, .list [a, b]]) vs hs K = (True ∧ 2 ≤ lim ∧ toldL n vs (fun ds hs => valRest n 4 e [a, b] vs (.d (mkList ds)) hs K) [a, b] hs []) := by kernel_rfl
theorem vt5 (n : Nat) (e : Int) (a b : D) (vs : List Int) (hs : Hs) (K : KE) : val4 (n + 1) (.tup [.int 5, .int e, .list [a, b]]) vs hs K = (True ∧ 2 ≤ lim ∧ toldL n vs (fun ds hs => valRest n 5 e [a, b] vs (.d (mkList ds)) hs K) [a, b] hs []) := by kernel_rfl
theorem vt6 (n : Nat) (e : Int) (a b : D) (vs : List Int) (hs : Hs) (K : KE) : val4 (n + 1) (.tup [.int 6, .int e, .list [a, b]]) vs hs K = (True ∧ 2 ≤ lim ∧ toldL n vs (fun ds hs => valRest n 6 e [a, b] vs (.d (mkList ds)) hs K) [a, b] hs []) := by kernel_rfl
theorem vt10 (n : Nat) (e : Int) (a b : D) (vs : List Int) (hs : Hs) (K : KE) : val4 (n + 1) (.tup [.int 10, .int e, .list [a, b]]) vs hs K = (True ∧ 2 ≤ lim ∧ toldL n vs (fun ds hs => valRest n 10 e [a, b] vs (.d (mkList ds)) hs K) [a, b] hs []) := by kernel_rfl
theorem vt11 (n : Nat) (e : Int) (a b : D) (vs : List Int) (hs : Hs) (K : KE) : val4 (n + 1) (.tup [.int 11, .int e, .list [a, b]]) vs hs K = (True ∧ 2 ≤ lim ∧ toldL n vs (fun ds hs => valRest n 11 e [a, b] vs (.d (mkList ds)) hs K) [a, b] hs []) := by kernel_rfl
theorem vt7 (n : Nat) (e : Int) (a : D) (vs : List Int) (hs : Hs) (K : KE) : val4 (n + 1) (.tup [.int 7, .int e, .list [a]]) vs hs K = (True ∧ 1 ≤ lim ∧ toldL n vs (fun ds hs => valRest n 7 e [a] vs (.d (mkList ds)) hs K) [a] hs []) := by kernel_rfl
theorem vt8 (n : Nat) (e : Int) (a : D) (vs : List Int) (hs : Hs) (K : KE) : val4 (n + 1) (.tup [.int 8, .int e, .list [a]]) vs hs K = (True ∧ 1 ≤ lim ∧ toldL n vs (fun ds hs => valRest n 8 e [a] vs (.d (mkList ds)) hs K) [a] hs []) := by kernel_rfl
theorem vt9 (n : Nat) (e : Int) (a : D) (vs : List Int) (hs : Hs) (K : KE) : val4 (n + 1) (.tup [.int 9, .int e, .list [a]]) vs hs K = (True ∧ 1 ≤ lim ∧ toldL n vs (fun ds hs => valRest n 9 e [a] vs (.d (mkList ds)) hs K) [a] hs []) := by kernel_rfl
theorem vr2 (n : Nat) (e : Int) (a b : D) (vs : List Int) (x y : Int) (hs : Hs) (K : KE) : valRest n 2 e [a, b] vs (.d (.ints [x, y])) hs K = (True ∧ 2 ≤ lim ∧ True ∧ sg x fun _ => True ∧ sg y fun _ => True ∧ ok1 0 2 (ok1 1 2 ((65536 : Int) ≠ 0 ∧ K (.d (.int ((x + y).fmod 65536))) hs))) := by kernel_rfl
theorem vr3 (n : Nat) (e : Int) (a b : D) (vs : List Int) (x y : Int) (hs : Hs) (K : KE) : valRest n 3 e [a, b] vs (.d (.ints [x, y])) hs K = (True ∧ 2 ≤ lim ∧ True ∧ sg x fun _ => True ∧ sg y fun _ => True ∧ ok1 0 2 (ok1 1 2 ((65536 : Int) ≠ 0 ∧ K (.d (.int ((x - y).fmod 65536))) hs))) := by kernel_rfl
theorem vr4 (n : Nat) (e : Int) (a b : D) (vs : List Int) (x y : Int) (hs : Hs) (K : KE) : valRest n 4 e [a, b] vs (.d (.ints [x, y])) hs K = (True ∧ 2 ≤ lim ∧ True ∧ sg x fun _ => True ∧ sg y fun _ => True ∧ ok1 0 2 (ok1 1 2 ((65536 : Int) ≠ 0 ∧ K (.d (.int ((Builtin.bitAnd x y).fmod 65536))) hs))) := by kernel_rfl
theorem vr5 (n : Nat) (e : Int) (a b : D) (vs : List Int) (x y : Int) (hs : Hs) (K : KE) : valRest n 5 e [a, b] vs (.d (.ints [x, y])) hs K = (True ∧ 2 ≤ lim ∧ True ∧ sg x fun _ => True ∧ sg y fun _ => True ∧ ok1 0 2 (ok1 1 2 ((65536 : Int) ≠ 0 ∧ K (.d (.int ((Builtin.bitOr x y).fmod 65536))) hs))) := by kernel_rfl
theorem vr6 (n : Nat) (e : Int) (a b : D) (vs : List Int) (x y : Int) (hs : Hs) (K : KE) : valRest n 6 e [a, b] vs (.d (.ints [x, y])) hs K = (True ∧ 2 ≤ lim ∧ True ∧ sg x fun _ => True ∧ sg y fun _ => True ∧ ok1 0 2 (ok1 1 2 ((65536 : Int) ≠ 0 ∧ K (.d (.int ((Builtin.bitXor x y).fmod 65536))) hs))) := by kernel_rfl
theorem vr10 (n : Nat) (e : Int) (a b : D) (vs : List Int) (x y : Int) (hs : Hs) (K : KE) : valRest n 10 e [a, b] vs (.d (.ints [x, y])) hs K = (True ∧ 2 ≤ lim ∧ True ∧ sg x fun sx => True ∧ sg y fun sy => True ∧ ok1 0 2 (ok1 1 2 (br (decide (sx < sy)) ((65536 : Int) ≠ 0 ∧ K (.d (.int ((1 : Int).fmod 65536))) hs) ((65536 : Int) ≠ 0 ∧ K (.d (.int ((0 : Int).fmod 65536))) hs)))) := by kernel_rfl
theorem vr11 (n : Nat) (e : Int) (a b : D) (vs : List Int) (x y : Int) (hs : Hs) (K : KE) : valRest n 11 e [a, b] vs (.d (.ints [x, y])) hs K = (True ∧ 2 ≤ lim ∧ True ∧ sg x fun _ => True ∧ sg y fun _ => True ∧ ok1 0 2 (ok1 1 2 (br (decide (x < y)) ((65536 : Int) ≠ 0 ∧ K (.d (.int ((1 : Int).fmod 65536))) hs) ((65536 : Int) ≠ 0 ∧ K (.d (.int ((0 : Int).fmod 65536))) hs)))) := by kernel_rfl
theorem vr7 (n : Nat) (e : Int) (a : D) (vs : List Int) (x : Int) (hs : Hs) (K : KE) : valRest n 7 e [a] vs (.d (.ints [x])) hs K = (True ∧ 1 ≤ lim ∧ True ∧ sg x fun _ => True ∧ ok1 0 1 ((65536 : Int) ≠ 0 ∧ K (.d (.int ((-x).fmod 65536))) hs)) := by kernel_rfl
theorem vr8 (n : Nat) (e : Int) (a : D) (vs : List Int) (x : Int) (hs : Hs) (K : KE) : valRest n 8 e [a] vs (.d (.ints [x])) hs K = (True ∧ 1 ≤ lim ∧ True ∧ sg x fun sx => True ∧ ok1 0 1 (((2 : Int) ≠ 0 ∧ (2 : Int).natAbs < 1073741824) ∧ (65536 : Int) ≠ 0 ∧ K (.d (.int ((sx.fdiv 2).fmod 65536))) hs)) := by kernel_rfl
theorem vr9 (n : Nat) (e : Int) (a : D) (vs : List Int) (x : Int) (hs : Hs) (K : KE) : valRest n 9 e [a] vs (.d (.ints [x])) hs K = (True ∧ 1 ≤ lim ∧ True ∧ sg x fun _ => True ∧ ok1 0 1 ((x.natAbs < 2 ^ 62 ∨ e.natAbs < 2 ^ 62) ∧ (65536 : Int) ≠ 0 ∧ K (.d (.int ((x * e).fmod 65536))) hs)) := by kernel_rfl
end Mine
set_option genSizeOf false
set_option genInjectivity false
set_option maxRecDepth 100000
namespace Mine
open PySem PySem.W PySem.Calls PyProof.Rows
set_option maxHeartbeats 0
noncomputable def forPart : List Stmt → Option (Expr × Expr × List Stmt)
  | .For t it b _ _ :: _ => some (t, it, b)
  | _ :: r => forPart r
  | [] => none
noncomputable def whilePart : List Stmt → Option (Expr × List Stmt)
  | .While t b _ _ :: _ => some (t, b)
  | _ :: r => whilePart r
  | [] => none
noncomputable def fnT : Fn := (fnOf PX4 false "_law_tree").getD ⟨⟨[], [], none, [], [], none, []⟩, [], default⟩
theorem fnT_is : fnOf PX4 false "_law_tree" = some fnT := by kernel_rfl
noncomputable def nsT : Names := fnT.scope.names
noncomputable def evT (n : Nat) : Bool → Expr → Loc → Hs → KE → Prop := fun m e => evE PX4 (callN PX4 n) depthE nsT m e
noncomputable def rsT (n k : Nat) : RecS := evS PX4 nsT false (evT n) k
noncomputable def forT : Expr × Expr × List Stmt := (forPart fnT.body).getD (.Name "x" default, .Name "x" default, [])
noncomputable def bodyT : List Stmt := forT.2.2
noncomputable def whT : Expr × List Stmt := (whilePart bodyT).getD (.Name "x" default, [])
noncomputable def whU : Expr × List Stmt := (whilePart fnT.body).getD (.Name "x" default, [])
noncomputable abbrev tree4 (n : Nat) (dr : List Int) (hs : Hs) (K : KE) : Prop := callN PX4 n false false "_law_tree" [.d (.ints dr)] hs K
/-- behind a statement -/
noncomputable def behind (rs : RecS) (r : List Stmt) (K : KS) : KS := fun f loc hs => match f with
  | .next => exL rs r loc hs K
  | .brk => K .brk loc hs
  | .cont => K .cont loc hs
  | .ret v => K (.ret v) loc hs
noncomputable def loopT (n : Nat) (K : KS) (xs : List D) (loc : Loc) (hs : Hs) : Prop := forL (fun d loc hs k => asg nsT (evT n false) forT.1 (.d d) loc hs k) (exL (rsT n 11) bodyT) none K xs loc hs
noncomputable def outT (K : KE) : KS := fun f _ hs => retC true 0 (retV f) hs K
theorem tr0 (n : Nat) (dr : List Int) (K : KE) : tree4 (n + 1) dr ⟨[], none⟩ K = (True ∧ loopT n (behind (rsT n 12) (fnT.body.drop 2) (outT K)) (dr.map .int) [("drawn", .d (.ints dr)), ("trees", .loc 0)] ⟨[.ints []], none⟩) := by kernel_rfl
noncomputable def shape (dr : List Int) (T : V) (x k e nd : Int) (tail : Loc) : Loc :=
  ("drawn", .d (.ints dr)) :: ("trees", T) :: ("number", .d (.int x)) :: ("kind", .d (.int k)) :: ("extra", .d (.int e)) :: ("needs", .d (.int nd)) :: tail
noncomputable def needsL : List Int := [0, 0, 2, 2, 2, 2, 2, 1, 1, 1, 2, 2, 3]
/-- behind a turn -/
noncomputable def turnK (n : Nat) (K : KS) (r : List D) : KS := fun f loc hs => match f with
  | .next => loopT n K r loc hs
  | .cont => loopT n K r loc hs
  | .brk => K .next loc hs
  | .ret v => K (.ret v) loc hs
noncomputable def turnT (n : Nat) (dr : List Int) (T : V) (x : Int) (tail : Loc) (hs : Hs) (KB : KS) : Prop :=
  (13 : Int) ≠ 0 ∧ ((13 : Int) ≠ 0 ∧ (13 : Int).natAbs < 1073741824) ∧ at' (x.fmod 13) 13 fun i => exL (rsT n 11) (bodyT.drop 3) (shape dr T x (x.fmod 13) (x.fdiv 13) (needsL.getD i 0) tail) hs KB
theorem ta0 (n : Nat) (dr : List Int) (T : V) (x : Int) (r : List D) (hs : Hs) (K : KS) : loopT (n + 1) K (.int x :: r) [("drawn", .d (.ints dr)), ("trees", T)] hs = (True ∧ turnT (n + 1) dr T x [] hs (turnK (n + 1) K r)) := by kernel_rfl
theorem ta1 (n : Nat) (dr : List Int) (T : V) (x x₀ k e nd : Int) (tail : Loc) (r : List D) (hs : Hs) (K : KS) : loopT (n + 1) K (.int x :: r) (shape dr T x₀ k e nd tail) hs = (True ∧ turnT (n + 1) dr T x tail hs (turnK (n + 1) K r)) := by kernel_rfl
noncomputable def lenV (v : V) (hs : Hs) (k : Int → Prop) : Prop := match lenD (deref hs v) with
  | some n => n < 2 ^ 62 ∧ k (n : Nat)
  | none => False
noncomputable def getV (x : Str) (loc : Loc) (k : V → Prop) : Prop := match sLook x loc with
  | some v => k v
  | none => False
noncomputable def whileT (n : Nat) (KB : KS) (j : Nat) (loc : Loc) (hs : Hs) : Prop :=
  whileN (fun loc hs k => evT n false whT.1 loc hs fun v hs => truthV v hs fun c => k c hs) (exL (rsT n 10) whT.2) (behind (rsT n 11) (bodyT.drop 4) KB) j loc hs
theorem tb0 (n : Nat) (dr : List Int) (T : V) (x k e nd : Int) (tail : Loc) (hs : Hs) (KB : KS) : exL (rsT n 11) (bodyT.drop 3) (shape dr T x k e nd tail) hs KB = ∃ j, whileT n KB j (shape dr T x k e nd tail) hs := by kernel_rfl
noncomputable def fillD (e ln : Int) : D := .list [.tup [.int 1, .int ((e + ln).fmod 4), .ints []]]
theorem tb1 (n : Nat) (dr : List Int) (T : V) (x k e nd : Int) (tail : Loc) (hs : Hs) (KB : KS) (j : Nat) : whileT n KB (j + 1) (shape dr T x k e nd tail) hs =
    lenV T hs fun ln => br (decide (ln < nd)) (lenV T hs fun ln => (4 : Int) ≠ 0 ∧
      (fun A B : Prop => br (k == 12) (br (k == 12) A B) ((2 : Int) ≠ 0 ∧ br (e.fmod 2 == 1) A B))
        (getV "fill" (putL "fill" (.d (fillD e ln)) tail) fun fv => binOpV .Add true T fv hs fun v hs => whileT n KB j (shape dr v x k e nd (putL "fill" (.d (fillD e ln)) tail)) hs)
        (getV "fill" (putL "fill" (.d (fillD e ln)) tail) fun fv => binOpV .Add true fv T hs fun v hs => whileT n KB j (shape dr v x k e nd (putL "fill" (.d (fillD e ln)) tail)) hs))
      (exL (rsT n 11) (bodyT.drop 4) (shape dr T x k e nd tail) hs KB) := by kernel_rfl
theorem tc1 (n : Nat) (dr : List Int) (T : V) (x k e nd : Int) (tail : Loc) (hs : Hs) (KB : KS) : exL (rsT n 11) (bodyT.drop 4) (shape dr T x k e nd tail) hs KB =
    lenV T hs fun ln => sliceV false T (some (.d (.int (ln - nd)))) none hs fun kv hs => exL (rsT n 11) (bodyT.drop 5) (shape dr T x k e nd (putL "kids" kv tail)) hs KB := by kernel_rfl
theorem tc2 (n : Nat) (dr : List Int) (T : V) (x k e nd : Int) (tail : Loc) (hs : Hs) (KB : KS) : exL (rsT n 11) (bodyT.drop 5) (shape dr T x k e nd tail) hs KB =
    lenV T hs fun ln => sliceV true T none (some (.d (.int (ln - nd)))) hs fun v hs => exL (rsT n 11) (bodyT.drop 6) (shape dr v x k e nd tail) hs KB := by kernel_rfl
theorem tc3 (n : Nat) (dr : List Int) (T : V) (x k e nd : Int) (tail : Loc) (hs : Hs) (KB : KS) : exL (rsT n 11) (bodyT.drop 6) (shape dr T x k e nd tail) hs KB =
    (fun G : Int → Prop => br (k == 0) (((4099 : Int).natAbs < 2 ^ 62 ∨ e.natAbs < 2 ^ 62) ∧ (65536 : Int) ≠ 0 ∧ G ((4099 * e).fmod 65536)) (br (k == 1) ((4 : Int) ≠ 0 ∧ G (e.fmod 4)) (br (k == 9) ((14 : Int) ≠ 0 ∧ G (2 + e.fmod 14)) (G e))))
      fun e => exL (rsT n 11) (bodyT.drop 7) (shape dr T x k e nd tail) hs KB := by kernel_rfl
noncomputable def tupK (k e : Int) (kv : V) (K : D → Prop) : Prop := match asDs [.d (.int k), .d (.int e), kv] with
  | some ds => K (.tup ds)
  | none => False
theorem tc4 (n : Nat) (dr : List Int) (t : Nat) (x k e nd : Int) (tail : Loc) (hs : Hs) (KB : KS) : exL (rsT n 11) (bodyT.drop 7) (shape dr (.loc t) x k e nd tail) hs KB =
    getV "kids" tail fun kv => tupK k e kv fun y => growV t (appendD (hs.hp.getD t .none) y) hs fun hs => KB .next (shape dr (.loc t) x k e nd tail) hs := by kernel_rfl
noncomputable def endT (n : Nat) (K : KE) (j : Nat) (loc : Loc) (hs : Hs) : Prop :=
  whileN (fun loc hs k => evT n false whU.1 loc hs fun v hs => truthV v hs fun c => k c hs) (exL (rsT n 11) whU.2) (behind (rsT n 12) (fnT.body.drop 4) (outT K)) j loc hs
noncomputable def two (dr : List Int) (T : V) (tail : Loc) : Loc := ("drawn", .d (.ints dr)) :: ("trees", T) :: tail
theorem te0 (n : Nat) (dr : List Int) (T : V) (tail : Loc) (hs : Hs) (K : KE) : behind (rsT n 12) (fnT.body.drop 2) (outT K) .next (two dr T tail) hs =
    truthV T hs fun b => br (!b) (∃ j, endT n K j (two dr (.loc hs.hp.length) tail) ⟨hs.hp ++ [.list [.tup [.int 1, .int 3, .ints []]]], hs.mp⟩) (∃ j, endT n K j (two dr T tail) hs) := by kernel_rfl
theorem te1 (n : Nat) (dr : List Int) (T : V) (tail : Loc) (hs : Hs) (K : KE) (j : Nat) : endT n K (j + 1) (two dr T tail) hs =
    lenV T hs fun ln => br (decide (1 < ln)) (sliceV false T none (some (.d (.int (-2)))) hs fun a hs => sliceV false T (some (.d (.int (-2)))) none hs fun kv hs => tupK 2 0 kv fun y => binOpV .Add true a (.d (.list [y])) hs fun v hs => endT n K j (two dr v tail) hs)
      (itemV T (.d (.int 0)) hs fun v hs => retC true 0 v hs K) := by kernel_rfl
end Mine
set_option genSizeOf false
set_option genInjectivity false
set_option maxRecDepth 100000
namespace Mine
open PySem PySem.W PySem.Calls PyProof.Rows
set_option maxHeartbeats 0
noncomputable def hs4 (c : List Int) (σ : Cpu) : Hs := ⟨[.ints c, .ints σ.m], some (flds 1 512 σ)⟩
theorem st4_0 (d : Nat) (c : List Int) (σ : Cpu) (K : KE) : callN PX4 (d + 8) false true "step" [.d .mpu] (hs4 c σ) K = rd σ.m σ.pc fun op => stepR PX4 d (hs4 c σ) op K := by kernel_rfl
theorem st4_5 (d : Nat) (c : List Int) (σ : Cpu) (K : KE) : stepR PX4 d (hs4 c σ) 5 K = step1 5 0 3 (adv 1 (ora zpA)) σ fun σ => K (.d .mpu) (hs4 c σ) := by kernel_rfl
theorem st4_6 (d : Nat) (c : List Int) (σ : Cpu) (K : KE) : stepR PX4 d (hs4 c σ) 6 K = step1 6 0 5 (adv 1 (onM zpA aslF)) σ fun σ => K (.d .mpu) (hs4 c σ) := by kernel_rfl
theorem st4_10 (d : Nat) (c : List Int) (σ : Cpu) (K : KE) : stepR PX4 d (hs4 c σ) 10 K = step1 10 0 2 (onA aslF) σ fun σ => K (.d .mpu) (hs4 c σ) := by kernel_rfl
theorem st4_24 (d : Nat) (c : List Int) (σ : Cpu) (K : KE) : stepR PX4 d (hs4 c σ) 24 K = step1 24 0 2 (clr 1) σ fun σ => K (.d .mpu) (hs4 c σ) := by kernel_rfl
theorem st4_37 (d : Nat) (c : List Int) (σ : Cpu) (K : KE) : stepR PX4 d (hs4 c σ) 37 K = step1 37 0 3 (adv 1 (and_ zpA)) σ fun σ => K (.d .mpu) (hs4 c σ) := by kernel_rfl
theorem st4_38 (d : Nat) (c : List Int) (σ : Cpu) (K : KE) : stepR PX4 d (hs4 c σ) 38 K = step1 38 0 5 (adv 1 (onM zpA rolF)) σ fun σ => K (.d .mpu) (hs4 c σ) := by kernel_rfl
theorem st4_42 (d : Nat) (c : List Int) (σ : Cpu) (K : KE) : stepR PX4 d (hs4 c σ) 42 K = step1 42 0 2 (onA rolF) σ fun σ => K (.d .mpu) (hs4 c σ) := by kernel_rfl
theorem st4_48 (d : Nat) (c : List Int) (σ : Cpu) (K : KE) : stepR PX4 d (hs4 c σ) 48 K = step1 48 2 2 (bst 128) σ fun σ => K (.d .mpu) (hs4 c σ) := by kernel_rfl
theorem st4_56 (d : Nat) (c : List Int) (σ : Cpu) (K : KE) : stepR PX4 d (hs4 c σ) 56 K = step1 56 0 2 (set_ 1) σ fun σ => K (.d .mpu) (hs4 c σ) := by kernel_rfl
theorem st4_69 (d : Nat) (c : List Int) (σ : Cpu) (K : KE) : stepR PX4 d (hs4 c σ) 69 K = step1 69 0 3 (adv 1 (eor zpA)) σ fun σ => K (.d .mpu) (hs4 c σ) := by kernel_rfl
theorem st4_72 (d : Nat) (c : List Int) (σ : Cpu) (K : KE) : stepR PX4 d (hs4 c σ) 72 K = step1 72 0 3 (pha) σ fun σ => K (.d .mpu) (hs4 c σ) := by kernel_rfl
theorem st4_73 (d : Nat) (c : List Int) (σ : Cpu) (K : KE) : stepR PX4 d (hs4 c σ) 73 K = step1 73 0 2 (adv 1 (eor immA)) σ fun σ => K (.d .mpu) (hs4 c σ) := by kernel_rfl
theorem st4_74 (d : Nat) (c : List Int) (σ : Cpu) (K : KE) : stepR PX4 d (hs4 c σ) 74 K = step1 74 0 2 (onA lsrF) σ fun σ => K (.d .mpu) (hs4 c σ) := by kernel_rfl
theorem st4_76 (d : Nat) (c : List Int) (σ : Cpu) (K : KE) : stepR PX4 d (hs4 c σ) 76 K = step1 76 0 3 (jmp) σ fun σ => K (.d .mpu) (hs4 c σ) := by kernel_rfl
theorem st4_80 (d : Nat) (c : List Int) (σ : Cpu) (K : KE) : stepR PX4 d (hs4 c σ) 80 K = step1 80 2 2 (bcl 64) σ fun σ => K (.d .mpu) (hs4 c σ) := by kernel_rfl
theorem st4_101 (d : Nat) (c : List Int) (σ : Cpu) (K : KE) : stepR PX4 d (hs4 c σ) 101 K = step1 101 0 3 (adv 1 (adc zpA)) σ fun σ => K (.d .mpu) (hs4 c σ) := by kernel_rfl
theorem st4_102 (d : Nat) (c : List Int) (σ : Cpu) (K : KE) : stepR PX4 d (hs4 c σ) 102 K = step1 102 0 5 (adv 1 (onM zpA rorF)) σ fun σ => K (.d .mpu) (hs4 c σ) := by kernel_rfl
theorem st4_104 (d : Nat) (c : List Int) (σ : Cpu) (K : KE) : stepR PX4 d (hs4 c σ) 104 K = step1 104 0 4 (pla) σ fun σ => K (.d .mpu) (hs4 c σ) := by kernel_rfl
theorem st4_133 (d : Nat) (c : List Int) (σ : Cpu) (K : KE) : stepR PX4 d (hs4 c σ) 133 K = step1 133 0 3 (adv 1 (sta zpA)) σ fun σ => K (.d .mpu) (hs4 c σ) := by kernel_rfl
theorem st4_162 (d : Nat) (c : List Int) (σ : Cpu) (K : KE) : stepR PX4 d (hs4 c σ) 162 K = step1 162 0 2 (adv 1 (ldx immA)) σ fun σ => K (.d .mpu) (hs4 c σ) := by kernel_rfl
theorem st4_165 (d : Nat) (c : List Int) (σ : Cpu) (K : KE) : stepR PX4 d (hs4 c σ) 165 K = step1 165 0 3 (adv 1 (lda zpA)) σ fun σ => K (.d .mpu) (hs4 c σ) := by kernel_rfl
theorem st4_169 (d : Nat) (c : List Int) (σ : Cpu) (K : KE) : stepR PX4 d (hs4 c σ) 169 K = step1 169 0 2 (adv 1 (lda immA)) σ fun σ => K (.d .mpu) (hs4 c σ) := by kernel_rfl
theorem st4_176 (d : Nat) (c : List Int) (σ : Cpu) (K : KE) : stepR PX4 d (hs4 c σ) 176 K = step1 176 2 2 (bst 1) σ fun σ => K (.d .mpu) (hs4 c σ) := by kernel_rfl
theorem st4_181 (d : Nat) (c : List Int) (σ : Cpu) (K : KE) : stepR PX4 d (hs4 c σ) 181 K = step1 181 0 4 (adv 1 (lda zpxA)) σ fun σ => K (.d .mpu) (hs4 c σ) := by kernel_rfl
theorem st4_197 (d : Nat) (c : List Int) (σ : Cpu) (K : KE) : stepR PX4 d (hs4 c σ) 197 K = step1 197 0 3 (adv 1 (cmp zpA Cpu.a)) σ fun σ => K (.d .mpu) (hs4 c σ) := by kernel_rfl
theorem st4_201 (d : Nat) (c : List Int) (σ : Cpu) (K : KE) : stepR PX4 d (hs4 c σ) 201 K = step1 201 0 2 (adv 1 (cmp immA Cpu.a)) σ fun σ => K (.d .mpu) (hs4 c σ) := by kernel_rfl
theorem st4_208 (d : Nat) (c : List Int) (σ : Cpu) (K : KE) : stepR PX4 d (hs4 c σ) 208 K = step1 208 2 2 (bcl 2) σ fun σ => K (.d .mpu) (hs4 c σ) := by kernel_rfl
theorem st4_216 (d : Nat) (c : List Int) (σ : Cpu) (K : KE) : stepR PX4 d (hs4 c σ) 216 K = step1 216 0 2 (clr 8) σ fun σ => K (.d .mpu) (hs4 c σ) := by kernel_rfl
theorem st4_229 (d : Nat) (c : List Int) (σ : Cpu) (K : KE) : stepR PX4 d (hs4 c σ) 229 K = step1 229 0 3 (adv 1 (sbc zpA)) σ fun σ => K (.d .mpu) (hs4 c σ) := by kernel_rfl
end Mine
set_option genSizeOf false
set_option genInjectivity false
set_option maxRecDepth 100000
namespace Mine
open PySem PySem.W PySem.Calls PyProof.Rows
set_option maxHeartbeats 0
noncomputable def fnL : Fn := (fnOf PX4 false "law").getD ⟨⟨[], [], none, [], [], none, []⟩, [], default⟩
noncomputable def nsL : Names := fnL.scope.names
noncomputable def evL (n : Nat) : Bool → Expr → Loc → Hs → KE → Prop := fun m e => evE PX4 (callN PX4 n) depthE nsL m e
noncomputable def rsL (n k : Nat) : RecS := evS PX4 nsL false (evL n) k
noncomputable def forL2 : Expr × Expr × List Stmt := (forPart (fnL.body.drop 8)).getD (.Name "x" default, .Name "x" default, [])
noncomputable def outL (K : KE) : KS := fun f _ hs => retC false 0 (retV f) hs K
noncomputable def vr (t b o : Int) : Int := (t * b + o).fmod 65536
noncomputable def varsOf (t : Int) : List Int := [vr t 1 0, vr t 257 255, vr t 4099 32767, vr t 30011 65280]
noncomputable def mulc (a b : Int) : Prop := a.natAbs < 2 ^ 62 ∨ b.natAbs < 2 ^ 62
noncomputable def locA (xs dr : List Int) (t : Int) (tl : Loc) : Loc := ("script", .d (.arg xs)) :: ("drawn", .d (.ints dr)) :: ("total", .d (.int t)) :: ("variables", .d (.ints (varsOf t))) :: tl
theorem l1 (n : Nat) (xs : List Int) (K : KE) : callN PX4 (n + 1) false false nm4 [.d (.arg xs)] ⟨[], none⟩ K =
   (xs.length ≤ lim ∧ (fun dr : List Int => dr.length ≤ lim ∧ (fun t : Int => True ∧ 4 ≤ lim ∧ True ∧ mulc t 1 ∧ (65536 : Int) ≠ 0 ∧ True ∧ mulc t 257 ∧ (65536 : Int) ≠ 0 ∧ True ∧ mulc t 4099 ∧ (65536 : Int) ≠ 0 ∧ True ∧ mulc t 30011 ∧ (65536 : Int) ≠ 0 ∧ True ∧
     tree4 n dr ⟨[], none⟩ fun tv hs => exL (rsL n 12) (fnL.body.drop 4) (locA xs dr t [("tree", tv)]) hs (outL K)) dr.sum) (cut xs none (some 9))) := by kernel_rfl
noncomputable def locB (xs dr : List Int) (t : Int) (td : D) (tl : Loc) : Loc := locA xs dr t (("tree", .d td) :: ("code", .loc 0) :: tl)
theorem l2 (n : Nat) (xs dr : List Int) (t : Int) (td : D) (KL : KS) : exL (rsL n 12) (fnL.body.drop 4) (locA xs dr t [("tree", .d td)]) ⟨[], none⟩ KL =
   cmp4 n td ⟨[.ints []], none⟩ fun _ hs => exL (rsL n 12) (fnL.body.drop 6) (locB xs dr t td []) hs KL := by kernel_rfl
noncomputable def mem0 (c : List Int) : List Int := rep 512 [234] ++ c ++ rep (1536 - c.length) [234]
noncomputable def locC (xs dr : List Int) (t : Int) (td : D) (tl : Loc) : Loc := locB xs dr t td (("memory", .loc 1) :: tl)
theorem l3 (n : Nat) (xs dr c : List Int) (t : Int) (td : D) (KL : KS) : exL (rsL n 12) (fnL.body.drop 6) (locB xs dr t td []) ⟨[.ints c], none⟩ KL =
   (((0 : Int) ≤ 512 ∧ (512 : Int) ≤ lim ∧ 1 * (512 : Int).toNat ≤ lim) ∧ (rep 512 [234] ++ c).length ≤ lim ∧ c.length < 2 ^ 62 ∧ (0 ≤ 1536 - (c.length : Int) ∧ 1536 - (c.length : Int) ≤ lim ∧ 1 * (1536 - (c.length : Int)).toNat ≤ lim) ∧ (mem0 c).length ≤ lim ∧
     exL (rsL n 12) (fnL.body.drop 7) (locC xs dr t td []) ⟨[.ints c, .ints (mem0 c)], none⟩ KL) := by kernel_rfl
noncomputable def setM (i v : Int) (hs : Hs) (k : Hs → Prop) : Prop := setItemV (.loc 1) (.d (.int i)) (.d (.int v)) hs k
noncomputable def putV (p v : Int) (hs : Hs) (k : Hs → Prop) : Prop := True ∧ (256 : Int) ≠ 0 ∧ mulc 2 p ∧ setM (16 + 2 * p) (v.fmod 256) hs fun hs => ((256 : Int) ≠ 0 ∧ (256 : Int).natAbs < 1073741824) ∧ mulc 2 p ∧ setM (17 + 2 * p) (v.fdiv 256) hs k
noncomputable def locD (xs dr : List Int) (t : Int) (td : D) (tl : Loc) : Loc := locC xs dr t td (("place", .d (.int 3)) :: ("number", .d (.int (vr t 30011 65280))) :: tl)
noncomputable def forV : Expr × Expr × List Stmt := (forPart (fnL.body.drop 7)).getD (.Name "x" default, .Name "x" default, [])
noncomputable def loopV (n : Nat) (K : KS) (xs : List D) (loc : Loc) (hs : Hs) : Prop := forL (fun d loc hs k => asg nsL (evL n false) forV.1 (.d d) loc hs k) (exL (rsL n 11) forV.2.2) none K xs loc hs
theorem l4a (n : Nat) (xs dr : List Int) (t : Int) (td : D) (hs : Hs) (KL : KS) : exL (rsL n 12) (fnL.body.drop 7) (locC xs dr t td []) hs KL =
   loopV n (behind (rsL n 12) (fnL.body.drop 8) KL) (enumFrom 0 ((varsOf t).map .int)) (locC xs dr t td []) hs := by kernel_rfl
noncomputable def pn (p v : Int) : Loc := [("place", .d (.int p)), ("number", .d (.int v))]
noncomputable def turnV (n : Nat) (K : KS) (r : List D) : KS := fun f loc hs => match f with
  | .next => loopV n K r loc hs
  | .cont => loopV n K r loc hs
  | .brk => K .next loc hs
  | .ret v => K (.ret v) loc hs
theorem l4c0 (n : Nat) (xs dr : List Int) (t p v : Int) (td : D) (hs : Hs) (r : List D) (K : KS) : loopV n K (.tup [.int p, .int v] :: r) (locC xs dr t td []) hs = (True ∧ exL (rsL n 11) forV.2.2 (locC xs dr t td (pn p v)) hs (turnV n K r)) := by kernel_rfl
theorem l4c1 (n : Nat) (xs dr : List Int) (t p v p₀ v₀ : Int) (td : D) (hs : Hs) (r : List D) (K : KS) : loopV n K (.tup [.int p, .int v] :: r) (locC xs dr t td (pn p₀ v₀)) hs = (True ∧ exL (rsL n 11) forV.2.2 (locC xs dr t td (pn p v)) hs (turnV n K r)) := by kernel_rfl
theorem l4b (n : Nat) (xs dr : List Int) (t p v : Int) (td : D) (hs : Hs) (KL : KS) : exL (rsL n 11) forV.2.2 (locC xs dr t td (pn p v)) hs KL =
   ((256 : Int) ≠ 0 ∧ mulc 2 p ∧ setM (16 + 2 * p) (v.fmod 256) hs fun hs => ((256 : Int) ≠ 0 ∧ (256 : Int).natAbs < 1073741824) ∧ mulc 2 p ∧ setM (17 + 2 * p) (v.fdiv 256) hs fun hs => KL .next (locC xs dr t td (pn p v)) hs) := by kernel_rfl
noncomputable def cpu0 (m : List Int) : Cpu := ⟨m, 512, 255, 0, 0, 0, 48, 0, .d (.bool false), 0⟩
noncomputable def locE (xs dr : List Int) (t : Int) (td : D) (b : List Int) (tl : Loc) : Loc := locD xs dr t td (("before", .d (.ints b)) :: ("mpu", .d .mpu) :: tl)
noncomputable def shc (a b : Int) : Prop := 0 ≤ b ∧ b ≤ 1000 ∧ a.natAbs < 2 ^ 62
noncomputable def loopM (n : Nat) (K : KS) (xs : List D) (loc : Loc) (hs : Hs) : Prop := forL (fun d loc hs k => asg nsL (evL n false) forL2.1 (.d d) loc hs k) (exL (rsL n 11) forL2.2.2) none K xs loc hs
theorem l5 (n : Nat) (xs dr c m : List Int) (t : Int) (td : D) (KL : KS) : exL (rsL (n + 8) 12) (fnL.body.drop 8) (locD xs dr t td []) ⟨[.ints c, .ints m], none⟩ KL =
   (m.length ≤ lim ∧ shc 1 8 ∧ shc 1 16 ∧ shc 255 8 ∧ shc 1 8 ∧ small 500 ∧ small 500 ∧
     loopM (n + 8) (behind (rsL (n + 8) 12) (fnL.body.drop 11) KL) ((List.range 500).map fun (i : Nat) => D.int i) (locE xs dr t td (cut m none none) []) (hs4 c (cpu0 m))) := by kernel_rfl
noncomputable def turnM (n : Nat) (K : KS) (r : List D) : KS := fun f loc hs => match f with
  | .next => loopM n K r loc hs
  | .cont => loopM n K r loc hs
  | .brk => K .next loc hs
  | .ret v => K (.ret v) loc hs
theorem l6 (n : Nat) (xs dr c : List Int) (t : Int) (td : D) (b : List Int) (tl : Loc) (x : D) (r : List D) (σ : Cpu) (K : KS) : loopM (n + 8) K (x :: r) (locE xs dr t td b tl) (hs4 c σ) =
   (True ∧ c.length < 2 ^ 62 ∧ br (σ.pc == 512 + (c.length : Nat)) (K .next (locE xs dr t td b (putL "turn" (.d x) tl)) (hs4 c σ))
     (callN PX4 (n + 8) false true "step" [.d .mpu] (hs4 c σ) fun _ hs => loopM (n + 8) K r (locE xs dr t td b (putL "turn" (.d x) tl)) hs)) := by kernel_rfl
theorem l7 (n : Nat) (xs dr c : List Int) (t : Int) (td : D) (b : List Int) (tl : Loc) (σ : Cpu) (KL : KS) : behind (rsL n 12) (fnL.body.drop 11) KL .next (locE xs dr t td b tl) (hs4 c σ) =
   val4 n td (varsOf t) (hs4 c σ) fun v hs => exL (rsL n 12) (fnL.body.drop 12) (locE xs dr t td b (putL "value" v tl)) hs KL := by kernel_rfl
noncomputable def sliceM (m : List Int) (lo hi : Option Int) (k : List Int → Prop) : Prop := m.length ≤ lim ∧ k (cut m lo hi)
theorem l8 (n : Nat) (xs dr c : List Int) (t y : Int) (td tx : D) (b : List Int) (σ : Cpu) (K : KE) : exL (rsL n 12) (fnL.body.drop 12) (locE xs dr t td b [("turn", .d tx), ("value", .d (.int y))]) (hs4 c σ) (outL K) =
   (c.length < 2 ^ 62 ∧ br (!decide ([σ.pc, σ.sp] = [512 + ((c.length : Nat) : Int), 255])) (K (.d (.bool false)) (hs4 c σ))
     (sliceM σ.m (some 2) (some 4) fun s1 => (256 : Int) ≠ 0 ∧ ((256 : Int) ≠ 0 ∧ (256 : Int).natAbs < 1073741824) ∧ br (!decide (s1 = [y.fmod 256, y.fdiv 256])) (K (.d (.bool false)) (hs4 c σ))
       (sliceM σ.m none (some 2) fun s => sliceM b none (some 2) fun s' => br (decide (s = s'))
         (sliceM σ.m (some 6) (some 494) fun u => sliceM b (some 6) (some 494) fun u' => br (decide (u = u'))
           (sliceM σ.m (some 512) none fun w => sliceM b (some 512) none fun w' => K (.d (.bool (decide (w = w')))) (hs4 c σ))
           (K (.d (.bool (decide (u = u')))) (hs4 c σ)))
         (K (.d (.bool (decide (s = s')))) (hs4 c σ))))) := by kernel_rfl
end Mine
set_option genSizeOf false
set_option genInjectivity false
set_option maxRecDepth 100000
namespace Mine
open PySem PySem.W PySem.Calls PyProof.Rows

/-! ## trees, their code and their values -/
inductive T where
  | num (e : Int)
  | var (e : Int)
  | un (k e : Int) (a : T)
  | bin (k e : Int) (a b : T)
  | mul (e : Int) (a : T)
  | ite (e : Int) (a b c : T)
noncomputable def T.WT : T → Prop
  | .num e => 0 ≤ e ∧ e < 65536
  | .var e => 0 ≤ e ∧ e < 4
  | .un k _ a => (k = 7 ∨ k = 8) ∧ a.WT
  | .bin k _ a b => (k = 2 ∨ k = 3 ∨ k = 4 ∨ k = 5 ∨ k = 6 ∨ k = 10 ∨ k = 11) ∧ a.WT ∧ b.WT
  | .mul e a => (2 ≤ e ∧ e ≤ 15) ∧ a.WT
  | .ite _ a b c => a.WT ∧ b.WT ∧ c.WT
noncomputable def IsT : T → D → Prop
  | .num e, d => ∃ kd, d = .tup [.int 0, .int e, kd]
  | .var e, d => ∃ kd, d = .tup [.int 1, .int e, kd]
  | .un k e a, d => ∃ da, d = .tup [.int k, .int e, .list [da]] ∧ IsT a da
  | .bin k e a b, d => ∃ da db, d = .tup [.int k, .int e, .list [da, db]] ∧ IsT a da ∧ IsT b db
  | .mul e a, d => ∃ da, d = .tup [.int 9, .int e, .list [da]] ∧ IsT a da
  | .ite e a b c, d => ∃ da db dc, d = .tup [.int 12, .int e, .list [da, db, dc]] ∧ IsT a da ∧ IsT b db ∧ IsT c dc
noncomputable def T.ht : T → Nat
  | .num _ => 1
  | .var _ => 1
  | .un _ _ a => a.ht + 1
  | .bin _ _ a b => max a.ht b.ht + 1
  | .mul _ a => a.ht + 1
  | .ite _ a b c => max a.ht (max b.ht c.ht) + 1
noncomputable def testC (j : Int) : List Int := if j = 0 then [165, 2, 5, 3, 208, 3] else if j = 1 then [165, 2, 74, 176, 3] else [165, 3, 48, 3]
noncomputable def dblC (e b : Int) : List Int := if 2 * b ≤ e then [6, 2, 38, 3] ++ (if Builtin.bitAnd e b ≠ 0 then ends 2 else []) else []
noncomputable def pushC : List Int := [165, 2, 72, 165, 3, 72]
noncomputable def pullC : List Int := [104, 133, 5, 104, 133, 4]
noncomputable def copyC : List Int := [165, 2, 133, 4, 165, 3, 133, 5]
noncomputable def T.len : T → Nat
  | .num _ => 8
  | .var _ => 10
  | .un k _ a => a.len + (ends k).length
  | .bin k _ a b => a.len + 6 + b.len + 6 + (ends k).length
  | .mul e a => a.len + 8 + (dblC e 4).length + (dblC e 2).length + (dblC e 1).length
  | .ite e a b c => a.len + (testC (e % 3)).length + 3 + b.len + 3 + c.len
noncomputable def jmpC (t : Int) : List Int := [76, t % 256, t / 256]
noncomputable def T.code : T → Int → List Int
  | .num e, _ => [169, e % 256, 133, 2, 169, e / 256, 133, 3]
  | .var e, _ => [162, 2 * e, 181, 16, 133, 2, 181, 17, 133, 3]
  | .un k _ a, s => a.code s ++ ends k
  | .bin k _ a b, s => a.code s ++ pushC ++ b.code (s + a.len + 6) ++ pullC ++ ends k
  | .mul e a, s => a.code s ++ copyC ++ dblC e 4 ++ dblC e 2 ++ dblC e 1
  | .ite e a b c, s => a.code s ++ testC (e % 3) ++ jmpC (s + a.len + (testC (e % 3)).length + 3 + b.len + 3) ++ b.code (s + a.len + (testC (e % 3)).length + 3) ++
      jmpC (s + a.len + (testC (e % 3)).length + 3 + b.len + 3 + c.len) ++ c.code (s + a.len + (testC (e % 3)).length + 3 + b.len + 3)
theorem code_len : ∀ (t : T) (s : Int), (t.code s).length = t.len
  | .num _, _ => rfl
  | .var _, _ => rfl
  | .un k _ a, s => by simp only [T.code, T.len, List.length_append, code_len a]
  | .bin k _ a b, s => by simp only [T.code, T.len, List.length_append, code_len a, code_len b, pushC, pullC, List.length_cons, List.length_nil]
  | .mul e a, s => by simp only [T.code, T.len, List.length_append, code_len a, copyC, List.length_cons, List.length_nil]
  | .ite e a b c, s => by simp only [T.code, T.len, List.length_append, code_len a, code_len b, code_len c, jmpC, List.length_cons, List.length_nil]
noncomputable def sgnI (x : Int) : Int := if 32767 < x then x - 65536 else x
noncomputable def binI (k x y : Int) : Int :=
  if k = 2 then (x + y) % 65536 else if k = 3 then (x - y) % 65536 else if k = 4 then Builtin.bitAnd x y else if k = 5 then Builtin.bitOr x y else if k = 6 then Builtin.bitXor x y
  else if k = 10 then (if sgnI x < sgnI y then 1 else 0) else if x < y then 1 else 0
noncomputable def unI (k x : Int) : Int := if k = 7 then (-x) % 65536 else sgnI x / 2 % 65536
noncomputable def condI (j x : Int) : Bool := if j = 0 then decide (x ≠ 0) else if j = 1 then decide (x % 2 = 1) else decide (32767 < x)
noncomputable def T.val (vs : List Int) : T → Int
  | .num e => e
  | .var e => vs.getD e.toNat 0
  | .un k _ a => unI k (a.val vs)
  | .bin k _ a b => binI k (a.val vs) (b.val vs)
  | .mul e a => (a.val vs * e) % 65536
  | .ite e a b c => if condI (e % 3) (a.val vs) then b.val vs else c.val vs
noncomputable def word? (x : Int) : Prop := 0 ≤ x ∧ x < 65536
theorem sg_range {x : Int} (h : word? x) : -32768 ≤ sgnI x ∧ sgnI x ≤ 32767 := by
  have h1 := h.1; have h2 := h.2
  unfold sgnI
  split <;> exact ⟨by lia, by lia⟩
theorem nat_and_lt {a b : Nat} (h : a < 65536) : a &&& b < 65536 := Nat.lt_of_le_of_lt Nat.and_le_left h
theorem binI_word {k x y : Int} (hx : word? x) (hy : word? y) : word? (binI k x y) := by
  have h1 := hx.1; have h2 := hx.2; have h3 := hy.1; have h4 := hy.2
  unfold binI
  split
  · exact ⟨by lia, by lia⟩
  split
  · exact ⟨by lia, by lia⟩
  split
  · rw [bitAnd_pp h1 h3]
    have := nat_and_lt (a := x.toNat) (b := y.toNat) (by lia)
    exact ⟨by lia, by lia⟩
  split
  · rw [bitOr_pp h1 h3]
    have : x.toNat ||| y.toNat < 2 ^ 16 := Nat.or_lt_two_pow (by lia) (by lia)
    exact ⟨by lia, by lia⟩
  split
  · rw [bitXor_pp h1 h3]
    have : x.toNat ^^^ y.toNat < 2 ^ 16 := Nat.xor_lt_two_pow (by lia) (by lia)
    exact ⟨by lia, by lia⟩
  split
  · split <;> exact ⟨by lia, by lia⟩
  · split <;> exact ⟨by lia, by lia⟩
theorem unI_word {k x : Int} : word? (unI k x) := by
  unfold unI
  split <;> exact ⟨by lia, by lia⟩
theorem val_word {vs : List Int} (hv : ∀ i, i < 4 → word? (vs.getD i 0)) : ∀ {t : T}, t.WT → word? (t.val vs)
  | .num e, h => h
  | .var e, h => hv _ (by have h1 := h.1; have h2 := h.2; lia)
  | .un k e a, h => unI_word
  | .bin k e a b, h => binI_word (val_word hv h.2.1) (val_word hv h.2.2)
  | .mul e a, h => by
    unfold T.val
    exact ⟨by lia, by lia⟩
  | .ite e a b c, h => by
    unfold T.val
    split
    · exact val_word hv h.2.1
    · exact val_word hv h.2.2

/-! ### the compiler -/
noncomputable def H1 (c : List Int) : Hs := ⟨[.ints c], none⟩
theorem ext_is (c xs : List Int) (k : Hs → Prop) : ext xs (H1 c) k = ((c ++ xs).length ≤ lim ∧ k (H1 (c ++ xs))) := rfl
theorem lenC_is (c : List Int) (k : Int → Prop) : lenC (H1 c) k = (c.length < 2 ^ 62 ∧ k (c.length : Nat)) := rfl
theorem setC_is (c : List Int) (i v : Int) (k : Hs → Prop) : setItemV (.loc 0) (.d (.int i)) (.d (.int v)) (H1 c) k = at' i c.length fun j => k (H1 (c.set j v)) := rfl
theorem lim_is : lim = 1048576 := by decide
theorem at_ok' {i : Int} {n : Nat} {k : Nat → Prop} (h0 : 0 ≤ i) (h1 : i < n) (hn : n ≤ 2097152) (h : k i.toNat) : at' i n k := by
  have e : idx i n = i := by unfold idx; rw [if_neg (by lia)]
  refine ⟨⟨by lia, by lia⟩, ?_, ?_, ?_⟩
  · rw [e]; exact h0
  · rw [e]; exact h1
  · rw [e]; exact h
theorem ext_ok {c xs : List Int} {k : Hs → Prop} (hl : c.length + xs.length ≤ lim) (h : k (H1 (c ++ xs))) : ext xs (H1 c) k := by
  rw [ext_is]
  exact ⟨by rw [List.length_append]; exact hl, h⟩
theorem fmod_pos {x m : Int} (h : 0 ≤ m) : x.fmod m = x % m := Int.fmod_eq_emod_of_nonneg _ h
theorem fdiv_pos {x m : Int} (h : 0 ≤ m) : x.fdiv m = x / m := Int.fdiv_eq_ediv_of_nonneg _ h
theorem bit9_ok {c : List Int} {e b : Int} {k : Hs → Prop} (hb : 0 ≤ b) (hb2 : b < 100) (hl : c.length + 17 ≤ lim) (he : (ends 2).length = 13) (h : k (H1 (c ++ dblC e b))) : bit9 e b (H1 c) k := by
  unfold bit9
  refine ⟨trivial, .inl (by decide), ?_⟩
  unfold dblC at h
  by_cases q : 2 * b ≤ e
  · rw [if_pos q] at h
    rw [decide_eq_true q]
    refine brT (ext_ok (by simp; lia) ?_)
    by_cases q2 : Builtin.bitAnd e b ≠ 0
    · rw [if_pos q2] at h
      have : (Builtin.bitAnd e b != 0) = true := by simpa using q2
      rw [this]
      refine brT (ext_ok (by rw [List.length_append, he]; simp; lia) ?_)
      rw [List.append_assoc]; exact h
    · rw [if_neg q2] at h
      have : (Builtin.bitAnd e b != 0) = false := by simpa using q2
      rw [this]
      refine brF ?_
      rw [List.append_nil] at h; exact h
  · rw [if_neg q, List.append_nil] at h
    rw [decide_eq_false q]
    exact brF h
theorem set_mid {xs ys : List Int} {a b v : Int} {n : Nat} (hn : n = xs.length) : (xs ++ a :: ys).set n v = xs ++ v :: ys := by
  rw [hn, List.set_append_right _ _ (Nat.le_refl _)]
  simp
theorem put2_ok {xs ys : List Int} {hole : Int} {k : Hs → Prop} (hh : hole = xs.length + 1) (hl : xs.length + 3 + ys.length ≤ lim) (h : k (H1 (xs ++ jmpC (512 + ((xs.length + 3 + ys.length : Nat) : Int)) ++ ys))) :
    put2 hole (H1 (xs ++ [76, 0, 0] ++ ys)) k := by
  unfold put2
  have hlim := lim_is
  have e0 : (xs ++ [76, 0, 0] ++ ys).length = xs.length + 3 + ys.length := by simp; lia
  rw [lenC_is]
  refine ⟨by lia, by decide, ?_⟩
  rw [setC_is]
  refine at_ok' (by lia) (by lia) (by lia) ?_
  have e1 : xs ++ [76, 0, 0] ++ ys = (xs ++ [76]) ++ 0 :: (0 :: ys) := by simp
  have n1 : hole.toNat = (xs ++ [76]).length := by simp; lia
  have hl1 : ∀ v : Int, ((xs ++ [76, 0, 0] ++ ys).set hole.toNat v).length = xs.length + 3 + ys.length := fun v => by rw [List.length_set]; exact e0
  rw [lenC_is, hl1]
  refine ⟨by lia, ⟨by decide, by decide⟩, ?_⟩
  rw [setC_is]
  refine at_ok' (by lia) (by rw [hl1]; lia) (by rw [hl1]; lia) ?_
  rw [e0, e1, set_mid (b := 0) n1]
  have e2 : (xs ++ [76]) ++ Int.fmod (512 + ((xs.length + 3 + ys.length : Nat) : Int)) 256 :: (0 :: ys) = (xs ++ [76, Int.fmod (512 + ((xs.length + 3 + ys.length : Nat) : Int)) 256]) ++ 0 :: ys := by simp
  have n2 : (hole + 1).toNat = (xs ++ [76, Int.fmod (512 + ((xs.length + 3 + ys.length : Nat) : Int)) 256]).length := by simp; lia
  rw [e2, set_mid (b := 0) n2, fmod_pos (by decide), fdiv_pos (by decide)]
  have e3 : (xs ++ [76, (512 + ((xs.length + 3 + ys.length : Nat) : Int)) % 256]) ++ (512 + ((xs.length + 3 + ys.length : Nat) : Int)) / 256 :: ys = xs ++ jmpC (512 + ((xs.length + 3 + ys.length : Nat) : Int)) ++ ys := by simp [jmpC]
  rw [e3]
  exact h
end Mine
set_option genSizeOf false
set_option genInjectivity false
set_option maxRecDepth 100000
namespace Mine
open PySem PySem.W PySem.Calls PyProof.Rows
theorem ends_2 : ends 2 = [24, 165, 4, 101, 2, 133, 2, 165, 5, 101, 3, 133, 3] := by kernel_rfl
theorem ends_3 : ends 3 = [56, 165, 4, 229, 2, 133, 2, 165, 5, 229, 3, 133, 3] := by kernel_rfl
theorem ends_4 : ends 4 = [165, 4, 37, 2, 133, 2, 165, 5, 37, 3, 133, 3] := by kernel_rfl
theorem ends_5 : ends 5 = [165, 4, 5, 2, 133, 2, 165, 5, 5, 3, 133, 3] := by kernel_rfl
theorem ends_6 : ends 6 = [165, 4, 69, 2, 133, 2, 165, 5, 69, 3, 133, 3] := by kernel_rfl
theorem ends_7 : ends 7 = [56, 169, 0, 229, 2, 133, 2, 169, 0, 229, 3, 133, 3] := by kernel_rfl
theorem ends_8 : ends 8 = [165, 3, 201, 128, 102, 3, 102, 2] := by kernel_rfl
theorem ends_10 : ends 10 = [165, 4, 197, 2, 165, 5, 229, 3, 80, 2, 73, 128, 10, 169, 0, 133, 3, 42, 133, 2] := by kernel_rfl
theorem ends_11 : ends 11 = [165, 4, 197, 2, 165, 5, 229, 3, 169, 0, 133, 3, 42, 73, 1, 133, 2] := by kernel_rfl
theorem ht_pos : ∀ t : T, 1 ≤ t.ht := by intro t; cases t <;> simp [T.ht]
theorem dbl_len (e b : Int) : (dblC e b).length ≤ 17 := by
  unfold dblC
  split
  · split
    · rw [ends_2]; decide
    · decide
  · decide
theorem bodyB_ok {k : Int} {n : Nat} {a b : T} {da db : D} {c : List Int} {e : Int} {K : KE}
    (iha : ∀ {c : List Int} {K : KE}, c.length + a.len + 100 ≤ lim → K (.d .none) (H1 (c ++ a.code (512 + (c.length : Nat)))) → cmp4 n da (H1 c) K) (ihb : ∀ {c : List Int} {K : KE}, c.length + b.len + 100 ≤ lim → K (.d .none) (H1 (c ++ b.code (512 + (c.length : Nat)))) → cmp4 n db (H1 c) K)
    (hl : c.length + (T.bin k e a b).len + 100 ≤ lim) (h : K (.d .none) (H1 (c ++ (T.bin k e a b).code (512 + (c.length : Nat))))) : bodyB k n da db (H1 c) K := by
  have hlim := lim_is
  simp only [T.len] at hl
  have la := code_len a (512 + (c.length : Nat))
  unfold bodyB
  refine ok1_ok (by decide) (by decide) (by decide) (iha (by lia) ⟨by decide, ext_ok (by rw [List.length_append, la]; simp; lia) (ok1_ok (by decide) (by decide) (by decide) (ihb ?_ (ext_ok ?_ (ext_ok ?_ ?_))))⟩)
  · simp only [List.length_append, la, List.length_cons, List.length_nil]; lia
  · simp only [List.length_append, la, code_len, List.length_cons, List.length_nil]; lia
  · simp only [List.length_append, la, code_len, List.length_cons, List.length_nil]; lia
  · have e1 : (512 : Int) + (((c ++ a.code (512 + (c.length : Nat)) ++ [165, 2, 72, 165, 3, 72]).length : Nat) : Int) = 512 + (c.length : Nat) + (a.len : Nat) + 6 := by
      simp only [List.length_append, la, List.length_cons, List.length_nil]; lia
    rw [e1]
    simp only [T.code, pushC, pullC] at h
    simp only [List.append_assoc] at h ⊢
    exact h
theorem comp_ev : ∀ (t : T) {d : D} {n : Nat} {c : List Int} {K : KE}, t.WT → IsT t d → t.ht ≤ n → c.length + t.len + 100 ≤ lim → K (.d .none) (H1 (c ++ t.code (512 + (c.length : Nat)))) → cmp4 n d (H1 c) K
  | .num e, d, n, c, K, w, hd, hn, hl, h => by
    obtain ⟨kd, rfl⟩ := hd
    cases n with
    | zero => simp [T.ht] at hn
    | succ n =>
      rw [cb0]
      simp only [T.len] at hl
      refine ⟨by decide, ⟨by decide, by decide⟩, ext_ok (by simp; lia) ?_⟩
      rw [fmod_pos (by decide), fdiv_pos (by decide)]
      exact h
  | .var e, d, n, c, K, w, hd, hn, hl, h => by
    obtain ⟨kd, rfl⟩ := hd
    cases n with
    | zero => simp [T.ht] at hn
    | succ n =>
      rw [cb1]
      simp only [T.len] at hl
      exact ⟨.inl (by decide), ext_ok (by simp; lia) h⟩
  | .un k e a, d, n, c, K, w, hd, hn, hl, h => by
    obtain ⟨da, rfl, ha⟩ := hd
    cases n with
    | zero => simp [T.ht] at hn
    | succ n =>
      simp only [T.ht] at hn
      have hlim := lim_is
      simp only [T.len] at hl
      have la := code_len a (512 + (c.length : Nat))
      have key : bodyU k n da (H1 c) K := by
        unfold bodyU
        refine ok1_ok (by decide) (by decide) (by decide) (comp_ev a w.2 ha (by lia) (by lia) ⟨by decide, ext_ok (by rw [List.length_append, la]; lia) ?_⟩)
        simp only [T.code] at h
        simp only [List.append_assoc] at h ⊢
        exact h
      rcases w.1 with rfl | rfl
      · rw [cb7]; exact key
      · rw [cb8]; exact key
  | .bin k e a b, d, n, c, K, w, hd, hn, hl, h => by
    obtain ⟨da, db, rfl, ha, hb⟩ := hd
    cases n with
    | zero => simp [T.ht] at hn
    | succ n =>
      simp only [T.ht] at hn
      have key : bodyB k n da db (H1 c) K := bodyB_ok (fun hl h => comp_ev a w.2.1 ha (by lia) hl h) (fun hl h => comp_ev b w.2.2 hb (by lia) hl h) hl h
      rcases w.1 with rfl | rfl | rfl | rfl | rfl | rfl | rfl
      · rw [cb2]; exact key
      · rw [cb3]; exact key
      · rw [cb4]; exact key
      · rw [cb5]; exact key
      · rw [cb6]; exact key
      · rw [cb10]; exact key
      · rw [cb11]; exact key
  | .mul e a, d, n, c, K, w, hd, hn, hl, h => by
    obtain ⟨da, rfl, ha⟩ := hd
    cases n with
    | zero => simp [T.ht] at hn
    | succ n =>
      simp only [T.ht] at hn
      have hlim := lim_is
      simp only [T.len] at hl
      have la := code_len a (512 + (c.length : Nat))
      have he : (ends 2).length = 13 := by rw [ends_2]; rfl
      have d4 := dbl_len e 4
      have d2 := dbl_len e 2
      rw [cb9]
      simp only [T.code, copyC] at h
      refine ok1_ok (by decide) (by decide) (by decide) (comp_ev a w.2 ha (by lia) (by lia) (ext_ok (by rw [List.length_append, la]; simp; lia) ⟨trivial, ?_⟩))
      refine bit9_ok (by decide) (by decide) ?_ he (bit9_ok (by decide) (by decide) ?_ he (bit9_ok (by decide) (by decide) ?_ he ⟨trivial, ?_⟩))
      · simp only [List.length_append, la, List.length_cons, List.length_nil]; lia
      · simp only [List.length_append, la, List.length_cons, List.length_nil]; lia
      · simp only [List.length_append, la, List.length_cons, List.length_nil]; lia
      · simp only [List.append_assoc] at h ⊢
        exact h
  | .ite e a b c', d, n, c, K, w, hd, hn, hl, h => by
    obtain ⟨da, db, dc, rfl, ha, hb, hc⟩ := hd
    cases n with
    | zero => simp [T.ht] at hn
    | succ n =>
      simp only [T.ht] at hn
      have hlim := lim_is
      simp only [T.len] at hl
      have la := code_len a (512 + (c.length : Nat))
      have hj : e % 3 = 0 ∨ e % 3 = 1 ∨ e % 3 = 2 := by lia
      rw [cb12]
      refine ok1_ok (by decide) (by decide) (by decide) (comp_ev a w.1 ha (by lia) (by lia) ⟨by decide, ?_⟩)
      rw [fmod_pos (by decide)]
      refine at_ok' (by lia) (by have : ((3 : Nat) : Int) = 3 := rfl; lia) (by decide) ?_
      -- the test that was chosen
      have tc : tests.getD (e % 3).toNat .none = .ints (testC (e % 3)) ∧ (testC (e % 3)).length ≤ 6 := by
        rcases hj with q | q | q <;> rw [q] <;> exact ⟨rfl, by decide⟩
      rw [tc.1]
      generalize hA : a.code (512 + (c.length : Nat)) = A at *
      generalize hT : testC (e % 3) = Tc at *
      show (Tc ++ [76, 0, 0]).length ≤ lim ∧ (((c ++ A) ++ (Tc ++ [76, 0, 0])).length ≤ lim ∧ _)
      refine ⟨by simp; lia, by simp; lia, ?_⟩
      have e0 : (c ++ A ++ (Tc ++ [76, 0, 0])) = (c ++ A ++ Tc) ++ [76, 0, 0] ++ [] := by simp
      show lenC (H1 (c ++ A ++ (Tc ++ [76, 0, 0]))) _
      rw [lenC_is]
      refine ⟨by simp; lia, ok1_ok (by decide) (by decide) (by decide) (comp_ev b w.2.1 hb (by lia) (by simp; lia) (ext_ok (by simp [code_len]; lia) ?_))⟩
      have l2 : (c ++ A ++ (Tc ++ [76, 0, 0])).length = c.length + a.len + Tc.length + 3 := by simp; lia
      rw [l2]
      generalize hB : b.code (512 + ((c.length + a.len + Tc.length + 3 : Nat) : Int)) = B at *
      have lB : B.length = b.len := by rw [← hB]; exact code_len b _
      have e1 : c ++ A ++ (Tc ++ [76, 0, 0]) ++ B ++ [76, 0, 0] = (c ++ A ++ Tc) ++ [76, 0, 0] ++ (B ++ [76, 0, 0]) := by simp
      rw [e1]
      refine put2_ok (by simp; lia) (by simp; lia) ?_
      generalize hJ : jmpC (512 + (((c ++ A ++ Tc).length + 3 + (B ++ [76, 0, 0]).length : Nat) : Int)) = J at *
      have lJ : J.length = 3 := by rw [← hJ]; rfl
      rw [lenC_is]
      have e2 : c ++ A ++ Tc ++ J ++ (B ++ [76, 0, 0]) = (c ++ A ++ Tc ++ J ++ B) ++ [76, 0, 0] ++ [] := by simp
      refine ⟨by simp; lia, ok1_ok (by decide) (by decide) (by decide) (comp_ev c' w.2.2 hc (by lia) (by simp; lia) ?_)⟩
      have l3 : (c ++ A ++ Tc ++ J ++ (B ++ [76, 0, 0])).length = c.length + a.len + Tc.length + 3 + b.len + 3 := by simp; lia
      rw [l3]
      generalize hC : c'.code (512 + ((c.length + a.len + Tc.length + 3 + b.len + 3 : Nat) : Int)) = C at *
      have lC : C.length = c'.len := by rw [← hC]; exact code_len c' _
      have e3 : c ++ A ++ Tc ++ J ++ (B ++ [76, 0, 0]) ++ C = (c ++ A ++ Tc ++ J ++ B) ++ [76, 0, 0] ++ C := by simp
      rw [e3]
      refine put2_ok (by simp; lia) (by simp; lia) ?_
      have f1 : (512 : Int) + (((c ++ A ++ Tc).length + 3 + (B ++ [76, 0, 0]).length : Nat) : Int) = 512 + (c.length : Nat) + (a.len : Nat) + (Tc.length : Nat) + 3 + (b.len : Nat) + 3 := by simp; lia
      have f2 : (512 : Int) + ((c.length + a.len + Tc.length + 3 : Nat) : Int) = 512 + (c.length : Nat) + (a.len : Nat) + (Tc.length : Nat) + 3 := by lia
      have f3 : (512 : Int) + ((c.length + a.len + Tc.length + 3 + b.len + 3 : Nat) : Int) = 512 + (c.length : Nat) + (a.len : Nat) + (Tc.length : Nat) + 3 + (b.len : Nat) + 3 := by lia
      have f4 : (512 : Int) + (((c ++ A ++ Tc ++ J ++ B).length + 3 + C.length : Nat) : Int) = 512 + (c.length : Nat) + (a.len : Nat) + (Tc.length : Nat) + 3 + (b.len : Nat) + 3 + (c'.len : Nat) := by simp; lia
      rw [f4]
      rw [f1] at hJ
      rw [f2] at hB
      rw [f3] at hC
      simp only [T.code, hA, hT, hB, hC, hJ] at h
      simp only [List.append_assoc] at h ⊢
      exact h
end Mine
set_option genSizeOf false
set_option genInjectivity false
set_option maxRecDepth 100000
namespace Mine
open PySem PySem.W PySem.Calls PyProof.Rows
theorem sg_ok {x : Int} {k : Int → Prop} (h : k (sgnI x)) : sg x k := by
  unfold sg
  unfold sgnI at h
  by_cases q : 32767 < x
  · rw [if_pos q] at h
    rw [decide_eq_true q]
    exact h
  · rw [if_neg q] at h
    rw [decide_eq_false q]
    exact h
theorem told2 {n : Nat} {vs : List Int} {k : List D → Hs → Prop} {da db : D} {hs : Hs} {x y : Int} (ha : ∀ K : KE, K (.d (.int x)) hs → val4 n da vs hs K) (hb : ∀ K : KE, K (.d (.int y)) hs → val4 n db vs hs K) (h : k [.int x, .int y] hs) : toldL n vs k [da, db] hs [] :=
  ⟨trivial, ha _ ⟨trivial, hb _ ⟨trivial, h⟩⟩⟩
theorem told1 {n : Nat} {vs : List Int} {k : List D → Hs → Prop} {da : D} {hs : Hs} {x : Int} (ha : ∀ K : KE, K (.d (.int x)) hs → val4 n da vs hs K) (h : k [.int x] hs) : toldL n vs k [da] hs [] :=
  ⟨trivial, ha _ ⟨trivial, h⟩⟩
theorem okk {n : Nat} {i : Int} {P : Prop} (h0 : 0 ≤ i) (h1 : i < n) (hn : n ≤ 65536) (h : P) : ok1 i n P := ok1_ok h0 h1 hn h
theorem val_ev {vs : List Int} (hl : vs.length = 4) (hv : ∀ i, i < 4 → word? (vs.getD i 0)) : ∀ (t : T) {d : D} {n : Nat} {hs : Hs} {K : KE}, t.WT → IsT t d → t.ht ≤ n → K (.d (.int (t.val vs))) hs → val4 n d vs hs K
  | .num e, d, n, hs, K, w, hd, hn, h => by
    obtain ⟨kd, rfl⟩ := hd
    cases n with
    | zero => simp [T.ht] at hn
    | succ n => rw [vb0]; exact h
  | .var e, d, n, hs, K, w, hd, hn, h => by
    obtain ⟨kd, rfl⟩ := hd
    cases n with
    | zero => simp [T.ht] at hn
    | succ n =>
      rw [vb1]
      refine at_ok' w.1 (by rw [hl]; have := w.2; lia) (by lia) h
  | .un k e a, d, n, hs, K, w, hd, hn, h => by
    obtain ⟨da, rfl, ha⟩ := hd
    cases n with
    | zero => simp [T.ht] at hn
    | succ n =>
      simp only [T.ht] at hn
      have iha := fun (K : KE) h => val_ev hl hv a (n := n) (hs := hs) (K := K) w.2 ha (by lia) h
      have hl1 : (1 : Nat) ≤ lim := by rw [lim_is]; decide
      simp only [T.val] at h
      generalize a.val vs = x at *
      rcases w.1 with rfl | rfl
      · rw [vt7]
        refine ⟨trivial, hl1, told1 iha ?_⟩
        show valRest n 7 e [da] vs (.d (.ints [x])) hs K
        rw [vr7]
        refine ⟨trivial, hl1, trivial, sg_ok ⟨trivial, okk (by decide) (by decide) (by decide) ⟨by decide, ?_⟩⟩⟩
        rw [fmod_pos (by decide)]
        exact h
      · rw [vt8]
        refine ⟨trivial, hl1, told1 iha ?_⟩
        show valRest n 8 e [da] vs (.d (.ints [x])) hs K
        rw [vr8]
        refine ⟨trivial, hl1, trivial, sg_ok ⟨trivial, okk (by decide) (by decide) (by decide) ⟨⟨by decide, by decide⟩, by decide, ?_⟩⟩⟩
        rw [fmod_pos (by decide), fdiv_pos (by decide)]
        exact h
  | .bin k e a b, d, n, hs, K, w, hd, hn, h => by
    obtain ⟨da, db, rfl, ha, hb⟩ := hd
    cases n with
    | zero => simp [T.ht] at hn
    | succ n =>
      simp only [T.ht] at hn
      have iha := fun (K : KE) h => val_ev hl hv a (n := n) (hs := hs) (K := K) w.2.1 ha (by lia) h
      have ihb := fun (K : KE) h => val_ev hl hv b (n := n) (hs := hs) (K := K) w.2.2 hb (by lia) h
      have wa := val_word hv w.2.1
      have wb := val_word hv w.2.2
      have hl2 : (2 : Nat) ≤ lim := by rw [lim_is]; decide
      simp only [T.val] at h
      generalize a.val vs = x at *
      generalize b.val vs = y at *
      have hw : ∀ j, word? (binI j x y) := fun j => binI_word wa wb
      have small' : ∀ z : Int, word? z → z.fmod 65536 = z := fun z hz => by rw [fmod_pos (by decide)]; exact Int.emod_eq_of_lt hz.1 hz.2
      rcases w.1 with rfl | rfl | rfl | rfl | rfl | rfl | rfl
      · rw [vt2]
        refine ⟨trivial, hl2, told2 iha ihb ?_⟩
        show valRest n 2 e [da, db] vs (.d (.ints [x, y])) hs K
        rw [vr2]
        refine ⟨trivial, hl2, trivial, sg_ok ⟨trivial, sg_ok ⟨trivial, okk (by decide) (by decide) (by decide) (okk (by decide) (by decide) (by decide) ⟨by decide, ?_⟩)⟩⟩⟩
        rw [fmod_pos (by decide)]
        exact h
      · rw [vt3]
        refine ⟨trivial, hl2, told2 iha ihb ?_⟩
        show valRest n 3 e [da, db] vs (.d (.ints [x, y])) hs K
        rw [vr3]
        refine ⟨trivial, hl2, trivial, sg_ok ⟨trivial, sg_ok ⟨trivial, okk (by decide) (by decide) (by decide) (okk (by decide) (by decide) (by decide) ⟨by decide, ?_⟩)⟩⟩⟩
        rw [fmod_pos (by decide)]
        exact h
      · rw [vt4]
        refine ⟨trivial, hl2, told2 iha ihb ?_⟩
        show valRest n 4 e [da, db] vs (.d (.ints [x, y])) hs K
        rw [vr4]
        refine ⟨trivial, hl2, trivial, sg_ok ⟨trivial, sg_ok ⟨trivial, okk (by decide) (by decide) (by decide) (okk (by decide) (by decide) (by decide) ⟨by decide, ?_⟩)⟩⟩⟩
        rw [small' _ (show word? (Builtin.bitAnd x y) from hw 4)]
        exact h
      · rw [vt5]
        refine ⟨trivial, hl2, told2 iha ihb ?_⟩
        show valRest n 5 e [da, db] vs (.d (.ints [x, y])) hs K
        rw [vr5]
        refine ⟨trivial, hl2, trivial, sg_ok ⟨trivial, sg_ok ⟨trivial, okk (by decide) (by decide) (by decide) (okk (by decide) (by decide) (by decide) ⟨by decide, ?_⟩)⟩⟩⟩
        rw [small' _ (show word? (Builtin.bitOr x y) from hw 5)]
        exact h
      · rw [vt6]
        refine ⟨trivial, hl2, told2 iha ihb ?_⟩
        show valRest n 6 e [da, db] vs (.d (.ints [x, y])) hs K
        rw [vr6]
        refine ⟨trivial, hl2, trivial, sg_ok ⟨trivial, sg_ok ⟨trivial, okk (by decide) (by decide) (by decide) (okk (by decide) (by decide) (by decide) ⟨by decide, ?_⟩)⟩⟩⟩
        rw [small' _ (show word? (Builtin.bitXor x y) from hw 6)]
        exact h
      · rw [vt10]
        refine ⟨trivial, hl2, told2 iha ihb ?_⟩
        show valRest n 10 e [da, db] vs (.d (.ints [x, y])) hs K
        rw [vr10]
        refine ⟨trivial, hl2, trivial, sg_ok ⟨trivial, sg_ok ⟨trivial, okk (by decide) (by decide) (by decide) (okk (by decide) (by decide) (by decide) ?_)⟩⟩⟩
        have h' : K (.d (.int (if sgnI x < sgnI y then 1 else 0))) hs := h
        by_cases q : sgnI x < sgnI y
        · rw [if_pos q] at h'
          rw [decide_eq_true q]
          exact brT ⟨by decide, h'⟩
        · rw [if_neg q] at h'
          rw [decide_eq_false q]
          exact brF ⟨by decide, h'⟩
      · rw [vt11]
        refine ⟨trivial, hl2, told2 iha ihb ?_⟩
        show valRest n 11 e [da, db] vs (.d (.ints [x, y])) hs K
        rw [vr11]
        refine ⟨trivial, hl2, trivial, sg_ok ⟨trivial, sg_ok ⟨trivial, okk (by decide) (by decide) (by decide) (okk (by decide) (by decide) (by decide) ?_)⟩⟩⟩
        have h' : K (.d (.int (if x < y then 1 else 0))) hs := h
        by_cases q : x < y
        · rw [if_pos q] at h'
          rw [decide_eq_true q]
          exact brT ⟨by decide, h'⟩
        · rw [if_neg q] at h'
          rw [decide_eq_false q]
          exact brF ⟨by decide, h'⟩
  | .mul e a, d, n, hs, K, w, hd, hn, h => by
    obtain ⟨da, rfl, ha⟩ := hd
    cases n with
    | zero => simp [T.ht] at hn
    | succ n =>
      simp only [T.ht] at hn
      have iha := fun (K : KE) h => val_ev hl hv a (n := n) (hs := hs) (K := K) w.2 ha (by lia) h
      have hl1 : (1 : Nat) ≤ lim := by rw [lim_is]; decide
      simp only [T.val] at h
      have w1 := w.1
      generalize a.val vs = x at *
      rw [vt9]
      refine ⟨trivial, hl1, told1 iha ?_⟩
      show valRest n 9 e [da] vs (.d (.ints [x])) hs K
      rw [vr9]
      refine ⟨trivial, hl1, trivial, sg_ok ⟨trivial, okk (by decide) (by decide) (by decide) ⟨.inr (by lia), by decide, ?_⟩⟩⟩
      rw [fmod_pos (by decide)]
      exact h
  | .ite e a b c, d, n, hs, K, w, hd, hn, h => by
    obtain ⟨da, db, dc, rfl, ha, hb, hc⟩ := hd
    cases n with
    | zero => simp [T.ht] at hn
    | succ n =>
      simp only [T.ht] at hn
      have iha := fun (K : KE) h => val_ev hl hv a (n := n) (hs := hs) (K := K) w.1 ha (by lia) h
      have ihb := fun (K : KE) h => val_ev hl hv b (n := n) (hs := hs) (K := K) w.2.1 hb (by lia) h
      have ihc := fun (K : KE) h => val_ev hl hv c (n := n) (hs := hs) (K := K) w.2.2 hc (by lia) h
      rw [vb12]
      refine okk (by decide) (by decide) (by decide) (iha _ ?_)
      simp only [T.val] at h
      generalize a.val vs = x at *
      show (2 : Int) ≠ 0 ∧ _
      refine ⟨by decide, ?_⟩
      show (3 : Int) ≠ 0 ∧ at' (e.fmod 3) 3 fun i => truthV (.d (([.bool (x != 0), .bool (x.fmod 2 == 1), .bool (decide (32767 < x))] : List D).getD i .none)) hs fun t => br t (ok1 1 3 (val4 n db vs hs K)) (ok1 2 3 (val4 n dc vs hs K))
      refine ⟨by decide, ?_⟩
      rw [fmod_pos (by decide), fmod_pos (by decide)]
      have hj : e % 3 = 0 ∨ e % 3 = 1 ∨ e % 3 = 2 := by lia
      refine at_ok' (by lia) (by have : ((3 : Nat) : Int) = 3 := rfl; lia) (by decide) ?_
      have fin : ∀ bb : Bool, bb = condI (e % 3) x → br bb (ok1 1 3 (val4 n db vs hs K)) (ok1 2 3 (val4 n dc vs hs K)) := by
        intro bb hbb
        rw [← hbb] at h
        cases bb with
        | true => exact brT (okk (by decide) (by decide) (by decide) (ihb _ h))
        | false => exact brF (okk (by decide) (by decide) (by decide) (ihc _ h))
      rcases hj with q | q | q <;> rw [q] at fin ⊢
      · exact fin (x != 0) (by unfold condI; rw [if_pos rfl, Bool.eq_iff_iff]; simp)
      · exact fin (x % 2 == 1) (by unfold condI; rw [if_neg (by decide), if_pos rfl, Bool.eq_iff_iff]; simp)
      · exact fin (decide (32767 < x)) (by unfold condI; rw [if_neg (by decide), if_neg (by decide)])
end Mine
set_option genSizeOf false
set_option genInjectivity false
set_option maxRecDepth 100000
namespace Mine
open PySem PySem.W PySem.Calls PyProof.Rows
noncomputable def T.sd : T → Nat
  | .num _ => 0
  | .var _ => 0
  | .un _ _ a => a.sd
  | .bin _ _ a b => max a.sd (1 + b.sd)
  | .mul _ a => a.sd
  | .ite _ a b c => max a.sd (max b.sd c.sd)
noncomputable def T.cost : T → Nat
  | .num _ => 4
  | .var _ => 5
  | .un _ _ a => a.cost + 7
  | .bin _ _ a b => a.cost + (4 + (b.cost + (4 + 11)))
  | .mul _ a => a.cost + (4 + (9 + (9 + 9)))
  | .ite _ a b c => a.cost + (4 + max (b.cost + 1) c.cost)
noncomputable def Fr (m : Int → Int) (sp : Int) (d : Nat) (m' : Int → Int) : Prop := ∀ j, (j < 2 ∨ 5 < j) → (j ≤ 256 + sp - 2 * (d : Int) ∨ 256 + sp < j) → m' j = m j
noncomputable def Vars (m : Int → Int) (vs : List Int) : Prop := ∀ i : Nat, i < 4 → m (16 + 2 * (i : Int)) = vs.getD i 0 % 256 ∧ m (17 + 2 * (i : Int)) = vs.getD i 0 / 256
structure Got (m : Int → Int) (e sp : Int) (d : Nat) (V : Int) (q : Q) : Prop where
  hpc : q.pc = e
  hsp : q.sp = sp
  o2 : oct? (q.m 2)
  o3 : oct? (q.m 3)
  hv : q.m 2 + 256 * q.m 3 = V
  fr : Fr m sp d q.m
section
variable {L : Nat} {hi : Int} (hL : L ≤ 65536) (h5 : 512 ≤ L)
theorem Fr.code {m m' : Int → Int} {sp : Int} {d : Nat} (F : Fr m sp d m') (h : sp < 256) {s : Int} {l : List Int} (C : Code m s l) (hs : 512 ≤ s) : Code m' s l := C.same (fun j hj => F j (.inr (by lia)) (.inr (by lia))) hs
theorem Fr.vars {m m' : Int → Int} {sp : Int} {d : Nat} (F : Fr m sp d m') (h : 2 * (d : Int) ≤ sp) {vs : List Int} (V : Vars m vs) : Vars m' vs := fun i hi => by
  obtain ⟨a, b⟩ := V i hi
  exact ⟨(F _ (.inr (by lia)) (.inl (by lia))).trans a, (F _ (.inr (by lia)) (.inl (by lia))).trans b⟩
theorem Fr.le {m m' : Int → Int} {sp : Int} {d d' : Nat} (F : Fr m sp d m') (h : d ≤ d') : Fr m sp d' m' := fun j h1 h2 => F j h1 (by rcases h2 with h2 | h2; exact .inl (by lia); exact .inr h2)
theorem Fr.trans {m m' m'' : Int → Int} {sp : Int} {d : Nat} (F : Fr m sp d m') (G : Fr m' sp d m'') : Fr m sp d m'' := fun j h1 h2 => (G j h1 h2).trans (F j h1 h2)
theorem word_parts {x l h : Int} (e : l + 256 * h = x) (ol : oct? l) (oh : oct? h) : word? x := by
  have a := ol.1; have b := ol.2; have c := oh.1; have d := oh.2
  exact ⟨by lia, by lia⟩
include hL h5
theorem f_end {k e : Int} {a b : T} (hk : (T.bin k e a b).WT) {m : Int → Int} {s sp ra rx l2 h3 l4 h5' : Int} {c z n v : Bool} (m2 : m 2 = l2) (m3 : m 3 = h3) (o2 : oct? l2) (o3 : oct? h3) (m4 : m 4 = l4) (m5 : m 5 = h5') (o4 : oct? l4) (o5 : oct? h5')
    (C : Code m s (ends k)) (b0 : 512 ≤ s) (b1 : s + ((ends k).length : Int) < L) (b2 : s + ((ends k).length : Int) ≤ hi) : ReachLe L hi 11 ⟨m, s, sp, ra, rx, c, z, n, v⟩ (Post2 m (s + ((ends k).length : Int)) sp (binI k (l4 + 256 * h5') (l2 + 256 * h3))) := by
  rcases hk.1 with rfl | rfl | rfl | rfl | rfl | rfl | rfl
  · rw [ends_2] at C b1 b2 ⊢
    exact ReachLe.of (f_add hL h5 m2 m3 o2 o3 m4 m5 o4 o5 C b0 b1 b2) (by decide)
  · rw [ends_3] at C b1 b2 ⊢
    exact ReachLe.of (f_sub hL h5 m2 m3 o2 o3 m4 m5 o4 o5 C b0 b1 b2) (by decide)
  · rw [ends_4] at C b1 b2 ⊢
    exact ReachLe.of (f_and hL h5 m2 m3 o2 o3 m4 m5 o4 o5 C b0 b1 b2) (by decide)
  · rw [ends_5] at C b1 b2 ⊢
    exact ReachLe.of (f_or hL h5 m2 m3 o2 o3 m4 m5 o4 o5 C b0 b1 b2) (by decide)
  · rw [ends_6] at C b1 b2 ⊢
    exact ReachLe.of (f_xor hL h5 m2 m3 o2 o3 m4 m5 o4 o5 C b0 b1 b2) (by decide)
  · rw [ends_10] at C b1 b2 ⊢
    exact f_lessS hL h5 m2 m3 o2 o3 m4 m5 o4 o5 C b0 b1 b2
  · rw [ends_11] at C b1 b2 ⊢
    exact ReachLe.of (f_less hL h5 m2 m3 o2 o3 m4 m5 o4 o5 C b0 b1 b2) (by decide)
theorem f_un {k e : Int} {a : T} (hk : (T.un k e a).WT) {m : Int → Int} {s sp ra rx l2 h3 : Int} {c z n v : Bool} (m2 : m 2 = l2) (m3 : m 3 = h3) (o2 : oct? l2) (o3 : oct? h3)
    (C : Code m s (ends k)) (b0 : 512 ≤ s) (b1 : s + ((ends k).length : Int) < L) (b2 : s + ((ends k).length : Int) ≤ hi) : ReachLe L hi 7 ⟨m, s, sp, ra, rx, c, z, n, v⟩ (Post2 m (s + ((ends k).length : Int)) sp (unI k (l2 + 256 * h3))) := by
  rcases hk.1 with rfl | rfl
  · rw [ends_7] at C b1 b2 ⊢
    exact ReachLe.of (f_neg hL h5 m2 m3 o2 o3 C b0 b1 b2) (by decide)
  · rw [ends_8] at C b1 b2 ⊢
    exact ReachLe.of (f_half hL h5 m2 m3 o2 o3 C b0 b1 b2) (by decide)
noncomputable def dv (e b y x : Int) : Int := if 2 * b ≤ e then (if Builtin.bitAnd e b ≠ 0 then (2 * y + x) % 65536 else (2 * y) % 65536) else y
theorem f_bit {e b : Int} {m : Int → Int} {s sp ra rx l2 h3 l4 h5' : Int} {c z n v : Bool} (m2 : m 2 = l2) (m3 : m 3 = h3) (o2 : oct? l2) (o3 : oct? h3) (m4 : m 4 = l4) (m5 : m 5 = h5') (o4 : oct? l4) (o5 : oct? h5')
    (C : Code m s (dblC e b)) (b0 : 512 ≤ s) (b1 : s + ((dblC e b).length : Int) < L) (b2 : s + ((dblC e b).length : Int) ≤ hi) : ReachLe L hi 9 ⟨m, s, sp, ra, rx, c, z, n, v⟩ (Post2 m (s + ((dblC e b).length : Int)) sp (dv e b (l2 + 256 * h3) (l4 + 256 * h5'))) := by
  unfold dblC at C b1 b2 ⊢
  unfold dv
  by_cases q : 2 * b ≤ e
  · rw [if_pos q] at C b1 b2 ⊢
    rw [if_pos q]
    by_cases q2 : Builtin.bitAnd e b ≠ 0
    · rw [if_pos q2] at C b1 b2 ⊢
      rw [if_pos q2]
      rw [ends_2] at C b1 b2 ⊢
      refine ReachLe.then (n := 2) (k := 7) (ReachLe.of (f_dbl hL h5 m2 m3 o2 o3 C.left b0 (by simp at b1; lia) (by simp at b2; lia)) (Nat.le_refl _)) fun q' hq => ?_
      obtain ⟨m', pc', sp', ra', rx', c', z', n', v'⟩ := q'
      obtain ⟨e1, e2, e3, e4, e5, e6⟩ := hq
      dsimp only at e1 e2 e3 e4 e5 e6
      subst e1 e2
      refine ReachLe.of ((f_add hL h5 (m := m') rfl rfl e3 e4 ((e6 4 (by decide) (by decide)).trans m4) ((e6 5 (by decide) (by decide)).trans m5) o4 o5 ((C.right (t := s + 4) rfl).same (fun j hj => e6 j (by lia) (by lia)) (by lia)) (by lia) (by simp at b1; lia) (by simp at b2; lia)).imp fun q'' hq' => ?_) (Nat.le_refl _)
      obtain ⟨f1, f2, f3, f4, f5, f6⟩ := hq'
      refine ⟨by rw [f1]; simp; lia, f2, f3, f4, ?_, fun j h2 h3 => (f6 j h2 h3).trans (e6 j h2 h3)⟩
      rw [f5, e5]
      lia
    · rw [if_neg q2] at C b1 b2 ⊢
      rw [if_neg q2]
      rw [List.append_nil] at C b1 b2 ⊢
      exact ReachLe.of (f_dbl hL h5 m2 m3 o2 o3 C b0 b1 b2) (by decide)
  · rw [if_neg q] at C b1 b2 ⊢
    rw [if_neg q]
    refine ReachLe.of (n := 0) (Reach.done ⟨by simp, rfl, by rw [show Q.m _ 2 = m 2 from rfl, m2]; exact o2, by rw [show Q.m _ 3 = m 3 from rfl, m3]; exact o3, by dsimp only; rw [m2, m3], fun j _ _ => rfl⟩) (by decide)
omit hL h5 in
noncomputable def stp (e b k : Int) : Int := if 2 * b ≤ e then (if Builtin.bitAnd e b ≠ 0 then 2 * k + 1 else 2 * k) else k
omit hL h5 in
theorem two_mod (z x : Int) : (2 * (z % 65536) + x) % 65536 = (2 * z + x) % 65536 := by lia
omit hL h5 in
theorem dv_stp {e b k y x : Int} (h : y = x * k % 65536) : dv e b y x = x * stp e b k % 65536 := by
  unfold dv stp
  subst h
  split
  · split
    · rw [two_mod, Int.mul_add, Int.mul_left_comm, Int.mul_one]
    · have := two_mod (x * k) 0
      rw [Int.add_zero, Int.add_zero] at this
      rw [this, Int.mul_left_comm]
  · rfl
omit hL h5 in
theorem stp_all : ∀ n : Nat, n < 16 → 2 ≤ n → stp n 1 (stp n 2 (stp n 4 1)) = n := by decide +kernel
omit hL h5 in
theorem dv_mul {e x : Int} (he : 2 ≤ e ∧ e ≤ 15) (hx : word? x) : dv e 1 (dv e 2 (dv e 4 x x) x) x = x * e % 65536 := by
  rw [dv_stp (dv_stp (dv_stp (k := 1) (by rw [Int.mul_one, Int.emod_eq_of_lt hx.1 hx.2])))]
  have := stp_all e.toNat (by omega) (by omega)
  rw [Int.toNat_of_nonneg (by omega)] at this
  rw [this]
end
end Mine
set_option genSizeOf false
set_option genInjectivity false
set_option maxRecDepth 100000
namespace Mine
open PySem PySem.W PySem.Calls PyProof.Rows
theorem split_word {t : Int} (h0 : 0 ≤ t) (h1 : t < 65536) : oct? (t % 256) ∧ oct? (t / 256) ∧ t % 256 + 256 * (t / 256) = t := ⟨⟨by lia, by lia⟩, ⟨by lia, by lia⟩, by lia⟩
section
variable {L : Nat} {hi : Int} (hL : L ≤ 65536) (h5 : 512 ≤ L)
include hL h5
theorem f_test {j : Int} (hj : j = 0 ∨ j = 1 ∨ j = 2) {t : Int} {m : Int → Int} {s sp ra rx l2 h3 : Int} {c z n v : Bool} (m2 : m 2 = l2) (m3 : m 3 = h3) (o2 : oct? l2) (o3 : oct? h3) (t0 : 0 ≤ t) (t1 : t < 65536)
    (C : Code m s (testC j ++ jmpC t)) (b0 : 512 ≤ s) (b1 : s + ((testC j).length : Int) + 3 < L) (b2 : s + ((testC j).length : Int) + 3 ≤ hi) : ReachLe L hi 4 ⟨m, s, sp, ra, rx, c, z, n, v⟩ (TestPost m sp (s + ((testC j).length : Int) + 3) t (condI j (l2 + 256 * h3))) := by
  obtain ⟨p1, p2, p3⟩ := split_word t0 t1
  rcases hj with rfl | rfl | rfl
  · have := f_test0 hL h5 (hi := hi) (sp := sp) (a := ra) (x := rx) (c := c) (z := z) (n := n) (v := v) m2 m3 o2 o3 p1 p2 C b0 (by simp [testC] at b1; lia) (by simp [testC] at b2; lia)
    rw [p3] at this
    have e : s + ((testC 0).length : Int) + 3 = s + 9 := by simp [testC]; lia
    rw [e]
    exact this
  · have := f_test1 hL h5 (hi := hi) (sp := sp) (a := ra) (x := rx) (c := c) (z := z) (n := n) (v := v) m2 m3 o2 o3 p1 p2 C b0 (by simp [testC] at b1; lia) (by simp [testC] at b2; lia)
    rw [p3] at this
    have e : s + ((testC 1).length : Int) + 3 = s + 8 := by simp [testC]; lia
    rw [e]
    exact this.le (by decide)
  · have := f_test2 hL h5 (hi := hi) (sp := sp) (a := ra) (x := rx) (c := c) (z := z) (n := n) (v := v) m2 m3 o2 o3 p1 p2 C b0 (by simp [testC] at b1; lia) (by simp [testC] at b2; lia)
    rw [p3] at this
    have e : s + ((testC 2).length : Int) + 3 = s + 7 := by simp [testC]; lia
    rw [e]
    exact this.le (by decide)
theorem comp_run {vs : List Int} (hv : ∀ i, i < 4 → word? (vs.getD i 0)) : ∀ (t : T) {m : Int → Int} {s sp ra rx : Int} {c z n v : Bool}, t.WT → Code m s (t.code s) → 512 ≤ s → s + (t.len : Int) < L → s + (t.len : Int) ≤ hi → 2 * (t.sd : Int) ≤ sp → sp < 256 → Vars m vs →
    ReachLe L hi t.cost ⟨m, s, sp, ra, rx, c, z, n, v⟩ (Got m (s + (t.len : Int)) sp t.sd (t.val vs))
  | .num e, m, s, sp, ra, rx, c, z, n, v, w, C, b0, b1, b2, s0, s1, V => by
    obtain ⟨p1, p2, p3⟩ := split_word w.1 w.2
    refine ReachLe.of ((f_const hL h5 p1 p2 C b0 b1 b2).imp fun q hq => ?_) (Nat.le_refl _)
    obtain ⟨e1, e2, e3, e4, e5, e6⟩ := hq
    exact ⟨e1, e2, e3, e4, e5.trans p3, fun j h1 h2 => e6 j (by lia) (by lia)⟩
  | .var e, m, s, sp, ra, rx, c, z, n, v, w, C, b0, b1, b2, s0, s1, V => by
    have h1 := w.1; have h2 := w.2
    obtain ⟨v1, v2⟩ := V e.toNat (by lia)
    have hw := hv e.toNat (by lia)
    obtain ⟨p1, p2, p3⟩ := split_word hw.1 hw.2
    have ee : ((e.toNat : Nat) : Int) = e := Int.toNat_of_nonneg h1
    rw [ee] at v1 v2
    refine ReachLe.of ((f_var hL h5 (k2 := 2 * e) (by lia) (by lia) v1 v2 p1 p2 C b0 b1 b2).imp fun q hq => ?_) (Nat.le_refl _)
    obtain ⟨e1, e2, e3, e4, e5, e6⟩ := hq
    exact ⟨e1, e2, e3, e4, e5.trans p3, fun j h1 h2 => e6 j (by lia) (by lia)⟩
  | .un k e a, m, s, sp, ra, rx, c, z, n, v, w, C, b0, b1, b2, s0, s1, V => by
    simp only [T.code] at C
    simp only [T.len] at b1 b2
    have la := code_len a s
    refine ReachLe.then (comp_run hv a w.2 C.left b0 (by lia) (by lia) s0 s1 V) fun q hq => ?_
    obtain ⟨m', pc', sp', ra', rx', c', z', n', v'⟩ := q
    obtain ⟨e1, e2, e3, e4, e5, e6⟩ := hq
    dsimp only at e1 e2 e3 e4 e5 e6
    subst e1 e2
    refine (f_un hL h5 w (m := m') rfl rfl e3 e4 (e6.code s1 (C.right (t := s + (a.len : Int)) (by rw [la])) (by lia)) (by lia) (by lia) (by lia)).imp fun q' hq' => ?_
    obtain ⟨f1, f2, f3, f4, f5, f6⟩ := hq'
    refine ⟨?_, f2, f3, f4, by rw [f5, e5]; rfl, fun j h1 h2 => (f6 j (by lia) (by lia)).trans (e6 j h1 h2)⟩
    rw [f1]
    simp only [T.len]
    lia
  | .bin k e a b, m, s, sp, ra, rx, c, z, n, v, w, C, b0, b1, b2, s0, s1, V => by
    simp only [T.code] at C
    simp only [T.len] at b1 b2
    simp only [T.sd] at s0
    have la := code_len a s
    have lb := code_len b (s + a.len + 6)
    have da : a.sd ≤ max a.sd (1 + b.sd) := Nat.le_max_left ..
    have db : 1 + b.sd ≤ max a.sd (1 + b.sd) := Nat.le_max_right ..
    refine ReachLe.then (comp_run hv a w.2.1 C.left.left.left.left b0 (by lia) (by lia) (by lia) s1 V) fun q hq => ?_
    obtain ⟨m', pc', sp', ra', rx', c', z', n', v'⟩ := q
    obtain ⟨e1, e2, e3, e4, e5, e6⟩ := hq
    dsimp only at e1 e2 e3 e4 e5 e6
    subst e1 e2
    have C1 := e6.code s1 (C.left.left.left.right (t := s + (a.len : Int)) (by rw [la])) (by lia)
    refine ReachLe.then (ReachLe.of (f_push hL h5 (m := m') rfl rfl e3 e4 (by lia) s1 C1 (by lia) (by lia) (by lia)) (Nat.le_refl _)) fun q hq => ?_
    obtain ⟨m1, pc1, sp1, ra1, rx1, c1, z1, n1, v1⟩ := q
    obtain ⟨g1, g2, g3⟩ := hq
    dsimp only at g1 g2 g3
    subst g1 g2
    -- what the pushes changed
    have F1 : ∀ j, (j ≤ 254 + sp' ∨ 256 + sp' < j) → m1 j = m' j := fun j hj => by
      rw [g3, mupd_ne (by lia), mupd_ne (by lia)]
    have V1 : Vars m1 vs := fun i hi => by
      obtain ⟨x1, x2⟩ := e6.vars (by lia) V i hi
      exact ⟨(F1 _ (.inl (by lia))).trans x1, (F1 _ (.inl (by lia))).trans x2⟩
    have Cb := (e6.code s1 (C.left.left.right (t := s + a.len + 6) (by rw [List.length_append, la]; simp [pushC]; lia)) (by lia)).same (fun j hj => F1 j (.inr (by lia))) (by lia)
    refine ReachLe.then (comp_run hv b w.2.2 (s := s + a.len + 6) Cb (by lia) (by lia) (by lia) (by lia) (by lia) V1) fun q hq => ?_
    obtain ⟨m2, pc2, sp2, ra2, rx2, c2, z2, n2, v2⟩ := q
    obtain ⟨i1, i2, i3, i4, i5, i6⟩ := hq
    dsimp only at i1 i2 i3 i4 i5 i6
    subst i1 i2
    have p1 : m2 (sp' - 2 + 257) = m' 3 := by
      rw [i6 _ (.inr (by lia)) (.inr (by lia)), g3, show sp' - 2 + 257 = sp' + 255 by lia, upd_same]
    have p2 : m2 (sp' - 2 + 258) = m' 2 := by
      rw [i6 _ (.inr (by lia)) (.inr (by lia)), g3, show sp' - 2 + 258 = sp' + 256 by lia, mupd_ne (by lia), upd_same]
    have up : ∀ {s₀ : Int} {l : List Int}, Code m s₀ l → 512 ≤ s₀ → Code m2 s₀ l := fun Cx h => (i6.code (by lia) ((e6.code s1 Cx h).same (fun j hj => F1 j (.inr (by lia))) h) h)
    have Cp := up (C.left.right (t := s + a.len + 6 + b.len) (by rw [List.length_append, List.length_append, la, lb]; simp [pushC]; lia)) (by lia)
    refine ReachLe.then (ReachLe.of (f_pull hL h5 (m := m2) p1 p2 e3 e4 (by lia) (by lia) Cp (by lia) (by lia) (by lia)) (Nat.le_refl _)) fun q hq => ?_
    obtain ⟨m3, pc3, sp3, ra3, rx3, c3, z3, n3, v3⟩ := q
    obtain ⟨k1, k2, k3⟩ := hq
    dsimp only at k1 k2 k3
    subst k1 k2
    have r2 : m3 2 = m2 2 := by rw [k3, mupd_ne (by decide), mupd_ne (by decide)]
    have r3 : m3 3 = m2 3 := by rw [k3, mupd_ne (by decide), mupd_ne (by decide)]
    have r4 : m3 4 = m' 2 := by rw [k3, upd_same]
    have r5 : m3 5 = m' 3 := by rw [k3, mupd_ne (by decide), upd_same]
    have Ce := (up (C.right (t := s + a.len + 6 + b.len + 6) (by rw [List.length_append, List.length_append, List.length_append, la, lb]; simp [pushC, pullC]; lia)) (by lia)).same (m' := m3) (fun j hj => by rw [k3, mupd_ne (by lia), mupd_ne (by lia)]) (by lia)
    refine (f_end hL h5 w (m := m3) r2 r3 i3 i4 r4 r5 e3 e4 Ce (by lia) (by lia) (by lia)).imp fun q' hq' => ?_
    obtain ⟨f1, f2, f3, f4, f5, f6⟩ := hq'
    refine ⟨?_, by rw [f2]; lia, f3, f4, ?_, fun j h1 h2 => ?_⟩
    · rw [f1]
      simp only [T.len]
      lia
    · rw [f5, e5, i5]; rfl
    · simp only [T.sd] at h2
      rw [f6 j (by lia) (by lia), k3, mupd_ne (by lia), mupd_ne (by lia), i6 j h1 (by lia), F1 j (by lia), e6 j h1 (by lia)]
  | .mul e a, m, s, sp, ra, rx, c, z, n, v, w, C, b0, b1, b2, s0, s1, V => by
    simp only [T.code] at C
    simp only [T.len] at b1 b2
    have la := code_len a s
    refine ReachLe.then (comp_run hv a w.2 C.left.left.left.left b0 (by lia) (by lia) s0 s1 V) fun q hq => ?_
    obtain ⟨m', pc', sp', ra', rx', c', z', n', v'⟩ := q
    obtain ⟨e1, e2, e3, e4, e5, e6⟩ := hq
    dsimp only at e1 e2 e3 e4 e5 e6
    subst e1 e2
    have wx := word_parts e5 e3 e4
    have C1 := e6.code s1 (C.left.left.left.right (t := s + (a.len : Int)) (by rw [la])) (by lia)
    refine ReachLe.then (ReachLe.of (f_copy hL h5 (m := m') rfl rfl e3 e4 C1 (by lia) (by lia) (by lia)) (Nat.le_refl _)) fun q hq => ?_
    obtain ⟨m1, pc1, sp1, ra1, rx1, c1, z1, n1, v1⟩ := q
    obtain ⟨g1, g2, g3⟩ := hq
    dsimp only at g1 g2 g3
    subst g1 g2
    have r2 : m1 2 = m' 2 := by rw [g3, mupd_ne (by decide), mupd_ne (by decide)]
    have r3 : m1 3 = m' 3 := by rw [g3, mupd_ne (by decide), mupd_ne (by decide)]
    have r4 : m1 4 = m' 2 := by rw [g3, mupd_ne (by decide), upd_same]
    have r5 : m1 5 = m' 3 := by rw [g3, upd_same]
    have up1 : ∀ {s₀ : Int} {l : List Int}, Code m s₀ l → 512 ≤ s₀ → Code m1 s₀ l := fun Cx h => (e6.code s1 Cx h).same (fun j hj => by rw [g3, mupd_ne (by lia), mupd_ne (by lia)]) h
    have Ca := up1 (C.left.left.right (t := s + a.len + 8) (by rw [List.length_append, la]; simp [copyC]; lia)) (by lia)
    refine ReachLe.then (f_bit hL h5 (m := m1) (e := e) (b := 4) r2 r3 e3 e4 r4 r5 e3 e4 Ca (by lia) (by lia) (by lia)) fun q hq => ?_
    obtain ⟨m2, pc2, sp2, ra2, rx2, c2, z2, n2, v2⟩ := q
    obtain ⟨i1, i2, i3, i4, i5, i6⟩ := hq
    dsimp only at i1 i2 i3 i4 i5 i6
    subst i1 i2
    have Cb := (up1 (C.left.right (t := s + a.len + 8 + (dblC e 4).length) (by rw [List.length_append, List.length_append, la]; simp [copyC]; lia)) (by lia)).same (m' := m2) (fun j hj => i6 j (by lia) (by lia)) (by lia)
    refine ReachLe.then (f_bit hL h5 (m := m2) (e := e) (b := 2) rfl rfl i3 i4 ((i6 4 (by decide) (by decide)).trans r4) ((i6 5 (by decide) (by decide)).trans r5) e3 e4 Cb (by lia) (by lia) (by lia)) fun q hq => ?_
    obtain ⟨m3, pc3, sp3, ra3, rx3, c3, z3, n3, v3⟩ := q
    obtain ⟨j1, j2, j3, j4, j5, j6⟩ := hq
    dsimp only at j1 j2 j3 j4 j5 j6
    subst j1 j2
    have Cc := ((up1 (C.right (t := s + a.len + 8 + (dblC e 4).length + (dblC e 2).length) (by rw [List.length_append, List.length_append, List.length_append, la]; simp [copyC]; lia)) (by lia)).same (m' := m2) (fun j hj => i6 j (by lia) (by lia)) (by lia)).same (m' := m3) (fun j hj => j6 j (by lia) (by lia)) (by lia)
    refine (f_bit hL h5 (m := m3) (e := e) (b := 1) rfl rfl j3 j4 ((j6 4 (by decide) (by decide)).trans ((i6 4 (by decide) (by decide)).trans r4)) ((j6 5 (by decide) (by decide)).trans ((i6 5 (by decide) (by decide)).trans r5)) e3 e4 Cc (by lia) (by lia) (by lia)).imp fun q' hq' => ?_
    obtain ⟨f1, f2, f3, f4, f5, f6⟩ := hq'
    refine ⟨?_, f2, f3, f4, ?_, fun j h1 h2 => ?_⟩
    · rw [f1]
      simp only [T.len]
      lia
    · rw [f5, j5, i5, e5, dv_mul w.1 wx]; rfl
    · rw [f6 j (by lia) (by lia), j6 j (by lia) (by lia), i6 j (by lia) (by lia), g3, mupd_ne (by lia), mupd_ne (by lia), e6 j h1 h2]
  | .ite e a b c', m, s, sp, ra, rx, c, z, n, v, w, C, b0, b1, b2, s0, s1, V => by
    simp only [T.code] at C
    simp only [T.len] at b1 b2
    simp only [T.sd] at s0
    have la := code_len a s
    have da : a.sd ≤ max a.sd (max b.sd c'.sd) := Nat.le_max_left ..
    have db : b.sd ≤ max a.sd (max b.sd c'.sd) := Nat.le_trans (Nat.le_max_left ..) (Nat.le_max_right ..)
    have dc : c'.sd ≤ max a.sd (max b.sd c'.sd) := Nat.le_trans (Nat.le_max_right ..) (Nat.le_max_right ..)
    have hj : e % 3 = 0 ∨ e % 3 = 1 ∨ e % 3 = 2 := by lia
    generalize hT : testC (e % 3) = Tc at *
    generalize ht1 : s + (a.len : Int) + (Tc.length : Int) + 3 + (b.len : Int) + 3 = t1 at *
    have lb := code_len b (s + a.len + Tc.length + 3)
    have lc := code_len c' t1
    refine ReachLe.then (comp_run hv a w.1 C.left.left.left.left.left b0 (by lia) (by lia) (by lia) s1 V) fun q hq => ?_
    obtain ⟨m', pc', sp', ra', rx', cc, z', n', v'⟩ := q
    obtain ⟨e1, e2, e3, e4, e5, e6⟩ := hq
    dsimp only at e1 e2 e3 e4 e5 e6
    subst e1 e2
    have C0 : Code m s (a.code s ++ (testC (e % 3) ++ jmpC t1)) := by
      have := C.left.left.left
      rw [List.append_assoc, ← hT] at this
      exact this
    have Ct := e6.code s1 (C0.right (t := s + (a.len : Int)) (by rw [la])) (by lia)
    refine ReachLe.then (f_test hL h5 hj (m := m') (t := t1) rfl rfl e3 e4 (by lia) (by lia) Ct (by lia) (by rw [hT]; lia) (by rw [hT]; lia)) fun q hq => ?_
    obtain ⟨m1, pc1, sp1, ra1, rx1, c1, z1, n1, v1⟩ := q
    obtain ⟨g1, g2, g3⟩ := hq
    dsimp only at g1 g2 g3
    rw [hT, e5] at g1
    subst g2 g3
    have V1 := e6.vars (by lia) V
    have hval : (T.ite e a b c').val vs = if condI (e % 3) (a.val vs) then b.val vs else c'.val vs := rfl
    by_cases hc : condI (e % 3) (a.val vs) = true
    · rw [hc, if_pos rfl] at g1
      rw [hval, if_pos hc]
      subst g1
      have Cb := e6.code s1 (C.left.left.right (t := s + a.len + Tc.length + 3) (by rw [List.length_append, List.length_append, la]; simp [jmpC]; lia)) (by lia)
      refine ReachLe.le (ReachLe.then (comp_run hv b w.2.1 (s := s + a.len + Tc.length + 3) Cb (by lia) (by lia) (by lia) (by lia) s1 V1) fun q hq => ?_) (Nat.le_max_left (b.cost + 1) c'.cost)
      obtain ⟨m2, pc2, sp2, ra2, rx2, c2, z2, n2, v2⟩ := q
      obtain ⟨i1, i2, i3, i4, i5, i6⟩ := hq
      dsimp only at i1 i2 i3 i4 i5 i6
      subst i1 i2
      obtain ⟨p1, p2, p3⟩ := split_word (t := t1 + (c'.len : Int)) (by lia) (by lia)
      have Cj := i6.code s1 (e6.code s1 (C.left.right (t := s + a.len + Tc.length + 3 + b.len) (by rw [List.length_append, List.length_append, List.length_append, la, lb]; simp [jmpC]; lia)) (by lia)) (by lia)
      refine ReachLe.of ((f_jmp hL h5 (m := m2) Cj (by lia) (by lia) (by lia) p1 p2).imp fun q' hq' => ?_) (Nat.le_refl _)
      obtain ⟨f1, f2, f3⟩ := hq'
      refine ⟨?_, f2, by rw [f3]; exact i3, by rw [f3]; exact i4, by rw [f3]; exact i5, fun j h1 h2 => ?_⟩
      · rw [f1, p3]
        simp only [T.len]
        rw [hT]
        lia
      · simp only [T.sd] at h2
        rw [f3, i6 j h1 (by lia), e6 j h1 (by lia)]
    · rw [if_neg hc] at g1
      rw [hval, if_neg hc]
      subst pc1
      have Cc := e6.code s1 (C.right (t := t1) (by rw [List.length_append, List.length_append, List.length_append, List.length_append, la, lb]; simp [jmpC]; lia)) (by lia)
      refine ReachLe.le ((comp_run hv c' w.2.2 (s := t1) Cc (by lia) (by lia) (by lia) (by lia) s1 V1).imp fun q' hq' => ?_) (Nat.le_max_right (b.cost + 1) c'.cost)
      obtain ⟨f1, f2, f3, f4, f5, f6⟩ := hq'
      refine ⟨?_, f2, f3, f4, f5, fun j h1 h2 => ?_⟩
      · rw [f1]
        simp only [T.len]
        rw [hT]
        lia
      · simp only [T.sd] at h2
        rw [f6 j h1 (by lia), e6 j h1 (by lia)]
end
end Mine
set_option genSizeOf false
set_option genInjectivity false
set_option maxRecDepth 100000
namespace Mine
open PySem PySem.W PySem.Calls PyProof.Rows
noncomputable def AreT : List T → List D → Prop
  | [], [] => True
  | t :: ts, d :: ds => IsT t d ∧ AreT ts ds
  | _, _ => False
theorem AreT.length : ∀ {ts : List T} {ds : List D}, AreT ts ds → ts.length = ds.length
  | [], [], _ => rfl
  | _ :: _, _ :: _, h => by rw [List.length_cons, List.length_cons, AreT.length h.2]
  | [], _ :: _, h => h.elim
  | _ :: _, [], h => h.elim
theorem AreT.append : ∀ {ts : List T} {ds : List D} {us : List T} {es : List D}, AreT ts ds → AreT us es → AreT (ts ++ us) (ds ++ es)
  | [], [], _, _, _, h => h
  | _ :: _, _ :: _, _, _, h, h' => ⟨h.1, AreT.append h.2 h'⟩
  | [], _ :: _, _, _, h, _ => h.elim
  | _ :: _, [], _, _, h, _ => h.elim
theorem AreT.drop : ∀ {ts : List T} {ds : List D} (n : Nat), AreT ts ds → AreT (ts.drop n) (ds.drop n)
  | _, _, 0, h => h
  | [], [], n + 1, _ => trivial
  | _ :: _, _ :: _, n + 1, h => AreT.drop n h.2
  | [], _ :: _, _ + 1, h => h.elim
  | _ :: _, [], _ + 1, h => h.elim
theorem AreT.take : ∀ {ts : List T} {ds : List D} (n : Nat), AreT ts ds → AreT (ts.take n) (ds.take n)
  | _, _, 0, _ => trivial
  | [], [], n + 1, _ => trivial
  | _ :: _, _ :: _, n + 1, h => ⟨h.1, AreT.take n h.2⟩
  | [], _ :: _, _ + 1, h => h.elim
  | _ :: _, [], _ + 1, h => h.elim
noncomputable def AsL (d : D) (ds : List D) : Prop := d = .list ds ∨ (d = .ints [] ∧ ds = [])
structure St (hs : Hs) (t : Nat) (ds : List D) : Prop where
  mp : hs.mp = none
  lt : t < hs.hp.length
  as : AsL (hs.hp.getD t .none) ds
  len : ds.length ≤ 100
theorem deref_loc (hs : Hs) (t : Nat) : deref hs (.loc t) = hs.hp.getD t .none := rfl
section
variable {hs : Hs} {t : Nat} {ds : List D}
theorem plenV_ok (S : St hs t ds) {k : Int → Prop} (h : k (ds.length : Nat)) : lenV (.loc t) hs k := by
  unfold lenV
  rw [deref_loc]
  have := S.len
  rcases S.as with e | ⟨e, rfl⟩
  · rw [e]; exact ⟨by lia, h⟩
  · rw [e]; exact ⟨by decide, h⟩
noncomputable def pushH (hs : Hs) (z : D) : Hs := ⟨hs.hp ++ [z], hs.mp⟩
theorem St.push (hm : hs.mp = none) {xs : List D} (hl : xs.length ≤ 100) : St (pushH hs (.list xs)) hs.hp.length xs := by
  refine ⟨hm, by simp [pushH], .inl ?_, hl⟩
  unfold pushH
  simp [List.getD_eq_getElem?_getD]
theorem St.push0 (hm : hs.mp = none) : St (pushH hs (.ints [])) hs.hp.length [] := by
  refine ⟨hm, by simp [pushH], .inr ⟨?_, rfl⟩, by decide⟩
  unfold pushH
  simp [List.getD_eq_getElem?_getD]
theorem addR_ok (S : St hs t ds) {fs : List D} {k : KE} (hl : ds.length + fs.length ≤ 100) (h : k (.loc hs.hp.length) (pushH hs (.list (ds ++ fs)))) : binOpV .Add true (.loc t) (.d (.list fs)) hs k := by
  have hlim := lim_is
  unfold binOpV
  rw [deref_loc]
  rcases S.as with e | ⟨e, rfl⟩
  · rw [e]
    exact ⟨by simp; lia, h⟩
  · rw [e]
    refine ⟨by simp at hl ⊢; lia, h⟩
theorem paddL_ok (S : St hs t ds) {fs : List D} {k : KE} (hl : fs.length + ds.length ≤ 100) (h : k (.loc hs.hp.length) (pushH hs (.list (fs ++ ds)))) : binOpV .Add true (.d (.list fs)) (.loc t) hs k := by
  have hlim := lim_is
  unfold binOpV
  rw [deref_loc]
  rcases S.as with e | ⟨e, rfl⟩
  · rw [e]
    exact ⟨by simp; lia, h⟩
  · rw [e]
    exact ⟨by simp at hl ⊢; lia, h⟩
theorem clip_nat {n j : Nat} (h : j ≤ n) : clipAt n (j : Nat) = j := by
  unfold clipAt
  rw [if_neg (by omega)]
  omega
theorem cut_drop {α : Type} {xs : List α} {j : Nat} (h : j ≤ xs.length) : cut xs (some (j : Nat)) none = xs.drop j := by
  unfold cut
  simp only [Option.elim_some, Option.elim_none]
  rw [clip_nat h]
  exact List.take_of_length_le (by simp)
theorem cut_take {α : Type} {xs : List α} {j : Nat} (h : j ≤ xs.length) : cut xs none (some (j : Nat)) = xs.take j := by
  unfold cut
  simp only [Option.elim_some, Option.elim_none]
  rw [clip_nat h]
  simp
theorem cutK_ok (S : St hs t ds) {i : Int} {j : Nat} (hi : i = j) (hj : j ≤ ds.length) {k : KE} (h : ∀ y, AsL y (ds.drop j) → k (.d y) hs) : sliceV false (.loc t) (some (.d (.int i))) none hs k := by
  have hlim := lim_is
  have := S.len
  subst hi
  unfold sliceV
  show match deref hs (.loc t) with
    | .ints xs => xs.length ≤ lim ∧ alloc false (.ints (cut xs (some (j : Nat)) none)) hs k
    | .list xs => xs.length ≤ lim ∧ alloc false (.list (cut xs (some (j : Nat)) none)) hs k
    | .arg xs => xs.length ≤ lim ∧ alloc false (.ints (cut xs (some (j : Nat)) none)) hs k
    | _ => False
  rw [deref_loc]
  rcases S.as with e | ⟨e, rfl⟩
  · rw [e]
    refine ⟨by lia, h _ (.inl ?_)⟩
    rw [cut_drop hj]
  · rw [e]
    have : j = 0 := by simpa using hj
    subst this
    exact ⟨by simp, h _ (.inr ⟨rfl, rfl⟩)⟩
theorem cutT_ok (S : St hs t ds) {i : Int} {j : Nat} (hi : i = j) (hj : j ≤ ds.length) {k : KE} (h : ∀ hs' t', St hs' t' (ds.take j) → k (.loc t') hs') : sliceV true (.loc t) none (some (.d (.int i))) hs k := by
  have hlim := lim_is
  have := S.len
  subst hi
  unfold sliceV
  show match deref hs (.loc t) with
    | .ints xs => xs.length ≤ lim ∧ alloc true (.ints (cut xs none (some (j : Nat)))) hs k
    | .list xs => xs.length ≤ lim ∧ alloc true (.list (cut xs none (some (j : Nat)))) hs k
    | .arg xs => xs.length ≤ lim ∧ alloc true (.ints (cut xs none (some (j : Nat)))) hs k
    | _ => False
  rw [deref_loc]
  rcases S.as with e | ⟨e, rfl⟩
  · rw [e]
    refine ⟨by lia, ?_⟩
    rw [cut_take hj]
    exact h _ _ (St.push S.mp (by rw [List.length_take]; lia))
  · rw [e]
    have : j = 0 := by simpa using hj
    subst this
    exact ⟨by simp, h _ _ (St.push0 S.mp)⟩
theorem app_ok (S : St hs t ds) {ys : List D} (hl : ds.length + 1 ≤ 100) {k : Hs → Prop} (h : ∀ hs', St hs' t (ds ++ [.tup ys]) → k hs') : growV t (appendD (hs.hp.getD t .none) (.tup ys)) hs k := by
  have hlim := lim_is
  have set_ok : St ⟨hs.hp.set t (.list (ds ++ [.tup ys])), hs.mp⟩ t (ds ++ [.tup ys]) := by
    refine ⟨S.mp, by simpa using S.lt, .inl ?_, by simp; lia⟩
    rw [List.getD_eq_getElem?_getD, List.getElem?_set_self S.lt]
    rfl
  rcases S.as with e | ⟨e, rfl⟩
  · rw [e]
    exact ⟨by simp; lia, h _ set_ok⟩
  · rw [e]
    exact ⟨by simp [lenD]; lia, h _ set_ok⟩
end
theorem getV_putL {x : Str} {v : V} {tl : Loc} {k : V → Prop} (h : k v) : getV x (putL x v tl) k := by
  unfold getV
  rw [putL_look, if_pos rfl]
  exact h
noncomputable def isFill (f : D) : Prop := ∃ v : Int, 0 ≤ v ∧ v < 4 ∧ f = .tup [.int 1, .int v, .ints []]
noncomputable def Filled (nd k : Int) (ds ds' : List D) : Prop := ∃ fs : List D, (∀ f ∈ fs, isFill f) ∧ (ds' = ds ++ fs ∨ (k ≠ 12 ∧ ds' = fs ++ ds)) ∧ ((fs.length : Int) = nd - ds.length ∨ (fs = [] ∧ nd ≤ ds.length))
theorem fill_ok (n : Nat) (dr : List Int) (x k e nd : Int) (hnd : nd ≤ 3) (KB : KS) : ∀ (g : Nat) (hs : Hs) (t : Nat) (ds : List D) (tail : Loc), St hs t ds → ds.length ≤ 50 → nd - ds.length ≤ g →
    (∀ hs' t' ds' tail', St hs' t' ds' → Filled nd k ds ds' → exL (rsT n 11) (bodyT.drop 4) (shape dr (.loc t') x k e nd tail') hs' KB) → ∃ j, whileT n KB j (shape dr (.loc t) x k e nd tail) hs := by
  -- which side is filled does not change
  have key : ∀ (dir : Bool), dir = (k == 12 || e % 2 == 1) → ∀ (g : Nat) (hs : Hs) (t : Nat) (ds : List D) (tail : Loc), St hs t ds → ds.length ≤ 60 → nd - ds.length ≤ g →
      (∀ hs' t' fs tail', St hs' t' (if dir then ds ++ fs else fs ++ ds) → (∀ f ∈ fs, isFill f) → ((fs.length : Int) = nd - ds.length ∨ (fs = [] ∧ nd ≤ ds.length)) → exL (rsT n 11) (bodyT.drop 4) (shape dr (.loc t') x k e nd tail') hs' KB) →
      ∃ j, whileT n KB j (shape dr (.loc t) x k e nd tail) hs := by
    intro dir hdir g
    induction g with
    | zero =>
      intro hs t ds tail S hl hg h
      refine ⟨1, ?_⟩
      rw [tb1]
      refine plenV_ok S ?_
      rw [decide_eq_false (by lia)]
      refine brF (h hs t [] tail ?_ (fun _ h => nomatch h) (.inr ⟨rfl, by lia⟩))
      cases dir <;> simpa using S
    | succ g ih =>
      intro hs t ds tail S hl hg h
      by_cases hlt : (ds.length : Int) < nd
      · have mk : ∀ (f : D), isFill f → ∀ tail', ∃ j, whileT n KB j (shape dr (.loc hs.hp.length) x k e nd tail') (pushH hs (.list (if dir then ds ++ [f] else [f] ++ ds))) := by
          intro f hf tail'
          refine ih _ _ (if dir then ds ++ [f] else [f] ++ ds) tail' (St.push S.mp (by split <;> simp <;> lia)) (by split <;> simp <;> lia) (by split <;> simp <;> lia) fun hs' t' fs tail'' S' hfs hn => ?_
          refine h hs' t' (if dir then f :: fs else fs ++ [f]) tail'' ?_ ?_ ?_
          · cases dir
            · simpa using S'
            · simpa using S'
          · intro y hy
            cases dir
            · rcases List.mem_append.mp hy with hy | hy
              · exact hfs y hy
              · rw [List.mem_singleton.mp hy]; exact hf
            · rcases List.mem_cons.mp hy with hy | hy
              · rw [hy]; exact hf
              · exact hfs y hy
          · left
            rcases hn with hn | ⟨hn, hn2⟩
            · cases dir <;> simp at hn ⊢ <;> lia
            · subst hn
              cases dir <;> simp at hn2 ⊢ <;> lia
        have hf : isFill (.tup [.int 1, .int ((e + (ds.length : Nat)).fmod 4), .ints []]) := by
          refine ⟨_, ?_, ?_, rfl⟩
          · rw [fmod_pos (by decide)]; lia
          · rw [fmod_pos (by decide)]; lia
        obtain ⟨j, hj⟩ := mk _ hf (putL "fill" (.d (fillD e (ds.length : Nat))) tail)
        refine ⟨j + 1, ?_⟩
        rw [tb1]
        refine plenV_ok S ?_
        rw [decide_eq_true hlt]
        refine brT (plenV_ok S ⟨by decide, ?_⟩)
        have A : dir = true → getV "fill" (putL "fill" (.d (fillD e (ds.length : Nat))) tail) fun fv => binOpV .Add true (.loc t) fv hs fun v hs => whileT n KB j (shape dr v x k e nd (putL "fill" (.d (fillD e (ds.length : Nat))) tail)) hs := fun hd => by
          refine getV_putL (addR_ok S (by simp; lia) ?_)
          rw [hd] at hj
          exact hj
        have B : dir = false → getV "fill" (putL "fill" (.d (fillD e (ds.length : Nat))) tail) fun fv => binOpV .Add true fv (.loc t) hs fun v hs => whileT n KB j (shape dr v x k e nd (putL "fill" (.d (fillD e (ds.length : Nat))) tail)) hs := fun hd => by
          refine getV_putL (paddL_ok S (by simp; lia) ?_)
          rw [hd] at hj
          exact hj
        dsimp only
        cases h12 : (k == 12) with
        | true =>
          rw [h12, Bool.true_or] at hdir
          exact brT (brT (A hdir))
        | false =>
          rw [h12, Bool.false_or] at hdir
          refine brF ⟨by decide, ?_⟩
          rw [fmod_pos (by decide), ← hdir]
          cases hd : dir with
          | true => exact brT (A hd)
          | false => exact brF (B hd)
      · refine ⟨1, ?_⟩
        rw [tb1]
        refine plenV_ok S ?_
        rw [decide_eq_false hlt]
        refine brF (h hs t [] tail ?_ (fun _ h => nomatch h) (.inr ⟨rfl, by lia⟩))
        cases dir <;> simpa using S
  intro g hs t ds tail S hl hg h
  refine key _ rfl g hs t ds tail S (by lia) hg fun hs' t' fs tail' S' hfs hn => h hs' t' _ tail' S' ⟨fs, hfs, ?_, hn⟩
  cases h12 : (k == 12 || e % 2 == 1) with
  | true => exact .inl rfl
  | false =>
    refine .inr ⟨fun hk => ?_, rfl⟩
    rw [hk] at h12
    simp at h12
end Mine
set_option genSizeOf false
set_option genInjectivity false
set_option maxRecDepth 100000
namespace Mine
open PySem PySem.W PySem.Calls PyProof.Rows
noncomputable def S1 (ts : List T) : Nat := (ts.map fun t => t.cost + 19).sum
noncomputable def S2 (ts : List T) : Nat := (ts.map fun t => t.len + 32).sum
theorem S1_app (a b : List T) : S1 (a ++ b) = S1 a + S1 b := by unfold S1; rw [List.map_append, List.sum_append]
theorem S2_app (a b : List T) : S2 (a ++ b) = S2 a + S2 b := by unfold S2; rw [List.map_append, List.sum_append]
structure Inv (ts : List T) (c : Nat) : Prop where
  all : ∀ t ∈ ts, t.WT ∧ t.sd + ts.length ≤ c + 1 ∧ t.ht + ts.length ≤ c + 2
  s1 : S1 ts ≤ 55 * c
  s2 : S2 ts ≤ 101 * c
  len : ts.length ≤ c
/-- with f leaves filled in -/
structure InvF (ts : List T) (c f nd : Nat) : Prop where
  all : ∀ t ∈ ts, t.WT ∧ t.sd + ts.length ≤ c + 1 + f ∧ t.ht + ts.length ≤ c + 2 + f
  s1 : S1 ts ≤ 55 * c + 24 * f
  s2 : S2 ts ≤ 101 * c + 42 * f
  len : ts.length ≤ c + f
  le : nd ≤ ts.length
  ff : f ≤ nd
  some' : 0 < f → ts.length = nd
  full : f = nd → 0 < nd → ∀ t ∈ ts, t.sd = 0 ∧ t.ht = 1
theorem fills_are : ∀ {fs : List D}, (∀ f ∈ fs, isFill f) → ∃ us : List T, AreT us fs ∧ us.length = fs.length ∧ ∀ u ∈ us, ∃ v : Int, 0 ≤ v ∧ v < 4 ∧ u = .var v
  | [], _ => ⟨[], trivial, rfl, fun _ h => nomatch h⟩
  | f :: fs, h => by
    obtain ⟨us, h1, h2, h3⟩ := fills_are (fs := fs) fun g hg => h g (List.mem_cons_of_mem _ hg)
    obtain ⟨v, v0, v1, rfl⟩ := h f (List.mem_cons_self ..)
    refine ⟨.var v :: us, ⟨⟨_, rfl⟩, h1⟩, by simp [h2], fun u hu => ?_⟩
    rcases List.mem_cons.mp hu with q | hu
    · exact ⟨v, v0, v1, q⟩
    · exact h3 u hu
theorem fill_inv {ts : List T} {ds ds' : List D} {c nd : Nat} {k : Int} (A : AreT ts ds) (I : Inv ts c) (F : Filled nd k ds ds') : ∃ ts' f, AreT ts' ds' ∧ InvF ts' c f nd := by
  obtain ⟨fs, h1, h2, h3⟩ := F
  obtain ⟨us, u1, u2, u3⟩ := fills_are h1
  have lA := A.length
  have sU : ∀ us : List T, (∀ u ∈ us, ∃ v : Int, 0 ≤ v ∧ v < 4 ∧ u = .var v) → S1 us = 24 * us.length ∧ S2 us = 42 * us.length := by
    intro us
    induction us with
    | nil => intro _; exact ⟨rfl, rfl⟩
    | cons u r ih =>
      intro h
      obtain ⟨v, _, _, rfl⟩ := h u (List.mem_cons_self ..)
      obtain ⟨i1, i2⟩ := ih fun x hx => h x (List.mem_cons_of_mem _ hx)
      have e1 : S1 (.var v :: r) = 24 + S1 r := rfl
      have e2 : S2 (.var v :: r) = 42 + S2 r := rfl
      rw [e1, e2, i1, i2, List.length_cons]
      exact ⟨by lia, by lia⟩
  obtain ⟨s1, s2⟩ := sU us u3
  -- the two sides are alike
  have both : ∀ ts' : List T, (ts' = ts ++ us ∨ ts' = us ++ ts) → InvF ts' c us.length nd := by
    intro ts' h
    have hm : ∀ t, t ∈ ts' ↔ t ∈ ts ∨ t ∈ us := fun t => by rcases h with rfl | rfl <;> simp [List.mem_append, or_comm]
    have hl : ts'.length = ts.length + us.length := by rcases h with rfl | rfl <;> simp [List.length_append, Nat.add_comm]
    have e1 : S1 ts' = S1 ts + S1 us := by rcases h with rfl | rfl <;> rw [S1_app] <;> lia
    have e2 : S2 ts' = S2 ts + S2 us := by rcases h with rfl | rfl <;> rw [S2_app] <;> lia
    have i1 := I.s1; have i2 := I.s2; have i3 := I.len
    have hn : ((us.length : Int) = nd - ts.length) ∨ (us.length = 0 ∧ nd ≤ ts.length) := by
      rcases h3 with h3 | ⟨h3, h4⟩
      · left; rw [u2, h3, lA]
      · right; rw [u2, h3]; exact ⟨rfl, by rw [lA]; lia⟩
    refine ⟨fun t ht => ?_, by lia, by lia, by lia, by lia, by lia, fun h => by lia, fun hf hp t ht => ?_⟩
    · rcases (hm t).mp ht with q | q
      · obtain ⟨a, b, d⟩ := I.all t q
        exact ⟨a, by lia, by lia⟩
      · obtain ⟨v, v0, v1, rfl⟩ := u3 t q
        exact ⟨⟨v0, v1⟩, by simp only [T.sd]; lia, by simp only [T.ht]; lia⟩
    · rcases (hm t).mp ht with q | q
      · have : 0 < ts.length := List.length_pos_of_mem q
        lia
      · obtain ⟨v, v0, v1, rfl⟩ := u3 t q
        exact ⟨rfl, rfl⟩
  rcases h2 with h2 | ⟨_, h2⟩
  · exact ⟨ts ++ us, us.length, by rw [h2]; exact A.append u1, both _ (.inl rfl)⟩
  · exact ⟨us ++ ts, us.length, by rw [h2]; exact u1.append A, both _ (.inr rfl)⟩
/-- a tree made of the last ones -/
theorem mk_inv {rest kids : List T} {c f nd : Nat} {t : T} {C D δ : Nat} (I : InvF (rest ++ kids) c f nd) (hk : kids.length = nd) (w : t.WT) (hC : t.cost + 19 * nd ≤ S1 kids + C) (hD : t.len + 32 * nd ≤ S2 kids + D)
    (hsd : ∀ M, (∀ x ∈ kids, x.sd ≤ M) → t.sd ≤ M + δ) (hht : ∀ M, (∀ x ∈ kids, x.ht ≤ M) → t.ht ≤ M + 1) (hδ : δ ≤ 1) (hδ2 : δ ≤ nd) (h1 : 24 * f + C ≤ 36 + 19 * nd) (h2 : 42 * f + D ≤ 69 + 32 * nd) : Inv (rest ++ [t]) (c + 1) := by
  have i1 := I.s1; have i2 := I.s2; have i3 := I.len; have i4 := I.le; have i5 := I.ff; have i6 := I.some'
  rw [S1_app] at i1
  rw [S2_app] at i2
  have hl : (rest ++ kids).length = rest.length + nd := by rw [List.length_append, hk]
  rw [hl] at i3 i4 i6
  have lt : (rest ++ [t]).length = rest.length + 1 := by simp
  refine ⟨fun x hx => ?_, ?_, ?_, by rw [lt]; lia⟩
  · rw [lt]
    rcases List.mem_append.mp hx with hx | hx
    · obtain ⟨a, b, d⟩ := I.all x (List.mem_append_left _ hx)
      rw [hl] at b d
      have : 0 < rest.length := List.length_pos_of_mem hx
      exact ⟨a, by lia, by lia⟩
    · rw [List.mem_singleton.mp hx]
      refine ⟨w, ?_, ?_⟩
      · by_cases hfn : f = nd ∧ 0 < nd
        · have hz := I.full hfn.1 hfn.2
          have := hsd 0 fun x hx => by rw [(hz x (List.mem_append_right _ hx)).1]; exact Nat.le_refl _
          lia
        · have hk2 : ∀ x ∈ kids, x.sd ≤ c + 1 + f - (rest.length + nd) := fun x hx => by
            obtain ⟨a, b, d⟩ := I.all x (List.mem_append_right _ hx)
            rw [hl] at b
            lia
          have := hsd _ hk2
          by_cases hn : nd = 0
          · have h0 := hsd 0 fun x hx => by
              have : 0 < kids.length := List.length_pos_of_mem hx
              lia
            lia
          · have hne : 0 < kids.length := by lia
            obtain ⟨x, hx⟩ := List.exists_mem_of_length_pos hne
            obtain ⟨a, b, d⟩ := I.all x (List.mem_append_right _ hx)
            rw [hl] at b
            lia
      · by_cases hfn : f = nd ∧ 0 < nd
        · have hz := I.full hfn.1 hfn.2
          have := hht 1 fun x hx => by rw [(hz x (List.mem_append_right _ hx)).2]; exact Nat.le_refl _
          lia
        · by_cases hn : nd = 0
          · have h0 := hht 0 fun x hx => by
              have : 0 < kids.length := List.length_pos_of_mem hx
              lia
            lia
          · have hk2 : ∀ x ∈ kids, x.ht ≤ c + 2 + f - (rest.length + nd) := fun x hx => by
              obtain ⟨a, b, d⟩ := I.all x (List.mem_append_right _ hx)
              rw [hl] at d
              lia
            have := hht _ hk2
            have hne : 0 < kids.length := by lia
            obtain ⟨x, hx⟩ := List.exists_mem_of_length_pos hne
            obtain ⟨a, b, d⟩ := I.all x (List.mem_append_right _ hx)
            rw [hl] at d
            lia
  · rw [S1_app]
    have : S1 [t] = t.cost + 19 := by simp [S1]
    lia
  · rw [S2_app]
    have : S2 [t] = t.len + 32 := by simp [S2]
    lia
theorem len1 {α : Type} {l : List α} (h : l.length = 1) : ∃ a, l = [a] := by
  match l, h with
  | [a], _ => exact ⟨a, rfl⟩
theorem len2 {α : Type} {l : List α} (h : l.length = 2) : ∃ a b, l = [a, b] := by
  match l, h with
  | [a, b], _ => exact ⟨a, b, rfl⟩
theorem len3 {α : Type} {l : List α} (h : l.length = 3) : ∃ a b c, l = [a, b, c] := by
  match l, h with
  | [a, b, c], _ => exact ⟨a, b, c, rfl⟩
noncomputable def exI (k e : Int) : Int := if k = 0 then 4099 * e % 65536 else if k = 1 then e % 4 else if k = 9 then 2 + e % 14 else e
inductive OneT (k e : Int) (y : D) (kids : List T) (nd f : Nat) : Prop
  | mk (t : T) (C D δ : Nat) (h1 : IsT t (.tup [.int k, .int (exI k e), y])) (h2 : t.WT) (h3 : t.cost + 19 * nd ≤ S1 kids + C) (h4 : t.len + 32 * nd ≤ S2 kids + D) (h5 : ∀ M, (∀ x ∈ kids, x.sd ≤ M) → t.sd ≤ M + δ) (h6 : ∀ M, (∀ x ∈ kids, x.ht ≤ M) → t.ht ≤ M + 1) (h7 : δ ≤ 1) (h8 : δ ≤ nd)
      (h9 : 24 * f + C ≤ 36 + 19 * nd) (h10 : 42 * f + D ≤ 69 + 32 * nd) : OneT k e y kids nd f
theorem one_num {e : Int} {y : D} : OneT 0 e y [] 0 0 :=
  ⟨.num (exI 0 e), 5, 10, 0, ⟨_, rfl⟩, ⟨Int.emod_nonneg _ (by decide), Int.emod_lt_of_pos _ (by decide)⟩, (by show 4 + 19 * 0 ≤ 0 + 5; decide), (by show 8 + 32 * 0 ≤ 0 + 10; decide), fun M _ => Nat.zero_le _, fun M _ => Nat.le_add_left 1 M, by decide, by decide, by decide, by decide⟩
theorem one_var {e : Int} {y : D} : OneT 1 e y [] 0 0 :=
  ⟨.var (exI 1 e), 5, 10, 0, ⟨_, rfl⟩, ⟨Int.emod_nonneg _ (by decide), Int.emod_lt_of_pos _ (by decide)⟩, (by show 5 + 19 * 0 ≤ 0 + 5; decide), (by show 10 + 32 * 0 ≤ 0 + 10; decide), fun M _ => Nat.zero_le _, fun M _ => Nat.le_add_left 1 M, by decide, by decide, by decide, by decide⟩
theorem sum1 (a : T) : S1 [a] = a.cost + 19 ∧ S2 [a] = a.len + 32 := ⟨rfl, rfl⟩
theorem one_bin {k e : Int} {a b : T} {da db : D} {f : Nat} (hk : k = 2 ∨ k = 3 ∨ k = 4 ∨ k = 5 ∨ k = 6 ∨ k = 10 ∨ k = 11) (he : (ends k).length ≤ 20) (ha : IsT a da) (hb : IsT b db) (wa : a.WT) (wb : b.WT) (hf : f ≤ 2) : OneT k e (.list [da, db]) [a, b] 2 f := by
  have e1 : S1 [a, b] = a.cost + 19 + (b.cost + 19) := rfl
  have e2 : S2 [a, b] = a.len + 32 + (b.len + 32) := rfl
  have c1 : (T.bin k (exI k e) a b).cost = a.cost + (4 + (b.cost + (4 + 11))) := rfl
  have c2 : (T.bin k (exI k e) a b).len = a.len + 6 + b.len + 6 + (ends k).length := rfl
  refine ⟨.bin k (exI k e) a b, 19, 32, 1, ⟨da, db, rfl, ha, hb⟩, ⟨hk, wa, wb⟩, by lia, by lia, fun M hM => ?_, fun M hM => ?_, by decide, by decide, by lia, by lia⟩
  · have := hM a (.head _); have := hM b (.tail _ (.head _))
    show max a.sd (1 + b.sd) ≤ M + 1
    lia
  · have := hM a (.head _); have := hM b (.tail _ (.head _))
    show max a.ht b.ht + 1 ≤ M + 1
    lia
theorem one_un {k e : Int} {a : T} {da : D} {f : Nat} (hk : k = 7 ∨ k = 8) (he : (ends k).length ≤ 13) (ha : IsT a da) (wa : a.WT) (hf : f ≤ 1) : OneT k e (.list [da]) [a] 1 f := by
  obtain ⟨e1, e2⟩ := sum1 a
  have c1 : (T.un k (exI k e) a).cost = a.cost + 7 := rfl
  have c2 : (T.un k (exI k e) a).len = a.len + (ends k).length := rfl
  exact ⟨.un k (exI k e) a, 7, 13, 0, ⟨da, rfl, ha⟩, ⟨hk, wa⟩, by lia, by lia, fun M hM => hM a (.head _), fun M hM => Nat.succ_le_succ (hM a (.head _)), by decide, by decide, by lia, by lia⟩
theorem one_mul {e : Int} {a : T} {da : D} {f : Nat} (ha : IsT a da) (wa : a.WT) (hf : f ≤ 1) : OneT 9 e (.list [da]) [a] 1 f := by
  obtain ⟨e1, e2⟩ := sum1 a
  have d4 := dbl_len (exI 9 e) 4
  have d2 := dbl_len (exI 9 e) 2
  have d1 := dbl_len (exI 9 e) 1
  have c1 : (T.mul (exI 9 e) a).cost = a.cost + (4 + (9 + (9 + 9))) := rfl
  have c2 : (T.mul (exI 9 e) a).len = a.len + 8 + (dblC (exI 9 e) 4).length + (dblC (exI 9 e) 2).length + (dblC (exI 9 e) 1).length := rfl
  have w : 2 ≤ exI 9 e ∧ exI 9 e ≤ 15 := by show 2 ≤ 2 + e % 14 ∧ 2 + e % 14 ≤ 15; lia
  exact ⟨.mul (exI 9 e) a, 31, 59, 0, ⟨da, rfl, ha⟩, ⟨w, wa⟩, by lia, by lia, fun M hM => hM a (.head _), fun M hM => Nat.succ_le_succ (hM a (.head _)), by decide, by decide, by lia, by lia⟩
theorem testC_len (j : Int) : (testC j).length ≤ 6 := by
  unfold testC
  split
  · decide
  · split <;> decide
theorem one_ite {e : Int} {a b c : T} {da db dc : D} {f : Nat} (ha : IsT a da) (hb : IsT b db) (hc : IsT c dc) (wa : a.WT) (wb : b.WT) (wc : c.WT) (hf : f ≤ 3) : OneT 12 e (.list [da, db, dc]) [a, b, c] 3 f := by
  have e1 : S1 [a, b, c] = a.cost + 19 + (b.cost + 19 + (c.cost + 19)) := rfl
  have e2 : S2 [a, b, c] = a.len + 32 + (b.len + 32 + (c.len + 32)) := rfl
  have ht := testC_len (exI 12 e % 3)
  have c1 : (T.ite (exI 12 e) a b c).cost = a.cost + (4 + max (b.cost + 1) c.cost) := rfl
  have c2 : (T.ite (exI 12 e) a b c).len = a.len + (testC (exI 12 e % 3)).length + 3 + b.len + 3 + c.len := rfl
  refine ⟨.ite (exI 12 e) a b c, 5, 12, 0, ⟨da, db, dc, rfl, ha, hb, hc⟩, ⟨wa, wb, wc⟩, by lia, by lia, fun M hM => ?_, fun M hM => ?_, by decide, by decide, by lia, by lia⟩
  · have := hM a (.head _); have := hM b (.tail _ (.head _)); have := hM c (.tail _ (.tail _ (.head _)))
    show max a.sd (max b.sd c.sd) ≤ M + 0
    lia
  · have := hM a (.head _); have := hM b (.tail _ (.head _)); have := hM c (.tail _ (.tail _ (.head _)))
    show max a.ht (max b.ht c.ht) + 1 ≤ M + 1
    lia
theorem k13 : ∀ n : Nat, n < 13 → ((n : Int) = 0 ∨ (n : Int) = 1 ∨ (n : Int) = 2 ∨ (n : Int) = 3 ∨ (n : Int) = 4 ∨ (n : Int) = 5 ∨ (n : Int) = 6 ∨ (n : Int) = 7 ∨ (n : Int) = 8 ∨ (n : Int) = 9 ∨ (n : Int) = 10 ∨ (n : Int) = 11 ∨ (n : Int) = 12) := by decide
theorem one_tree {kids : List T} {kd : List D} {k e : Int} {y : D} {nd f : Nat} (k0 : 0 ≤ k) (k1 : k < 13) (hnd : (nd : Int) = needsL.getD k.toNat 0) (hkl : kids.length = nd) (Ak : AreT kids kd) (hy : AsL y kd) (hW : ∀ x ∈ kids, x.WT) (hf : f ≤ nd) : OneT k e y kids nd f := by
  have lk := Ak.length
  have yL : 0 < nd → y = .list kd := fun h => hy.elim id fun hy => by
    rw [hy.2, List.length_nil] at lk
    omega
  have ndo : ∀ {j : Int} {v : Nat}, k = j → needsL.getD j.toNat 0 = v → nd = v := fun h e => by rw [h, e] at hnd; exact Int.ofNat.inj hnd
  have two : (k = 2 ∨ k = 3 ∨ k = 4 ∨ k = 5 ∨ k = 6 ∨ k = 10 ∨ k = 11) → nd = 2 → (ends k).length ≤ 20 → OneT k e y kids nd f := by
    intro hk h2 he
    obtain ⟨a, b, rfl⟩ := len2 (hkl.trans h2)
    obtain ⟨da, db, rfl⟩ := len2 (lk.symm.trans (hkl.trans h2))
    rw [yL (by omega), h2]
    exact one_bin hk he Ak.1 Ak.2.1 (hW a (.head _)) (hW b (.tail _ (.head _))) (h2 ▸ hf)
  have one : (k = 7 ∨ k = 8) → nd = 1 → (ends k).length ≤ 13 → OneT k e y kids nd f := by
    intro hk h2 he
    obtain ⟨a, rfl⟩ := len1 (hkl.trans h2)
    obtain ⟨da, rfl⟩ := len1 (lk.symm.trans (hkl.trans h2))
    rw [yL (by omega), h2]
    exact one_un hk he Ak.1 (hW a (.head _)) (h2 ▸ hf)
  have leaf : nd = 0 → kids = [] ∧ f = 0 := fun h => ⟨List.eq_nil_of_length_eq_zero (hkl.trans h), by omega⟩
  have hc : k = 0 ∨ k = 1 ∨ k = 2 ∨ k = 3 ∨ k = 4 ∨ k = 5 ∨ k = 6 ∨ k = 7 ∨ k = 8 ∨ k = 9 ∨ k = 10 ∨ k = 11 ∨ k = 12 := by
    have := k13 k.toNat (by omega)
    rwa [Int.toNat_of_nonneg k0] at this
  rcases hc with h | h | h | h | h | h | h | h | h | h | h | h | h
  · have n := ndo h rfl
    rw [h, n, (leaf n).1, (leaf n).2]; exact one_num
  · have n := ndo h rfl
    rw [h, n, (leaf n).1, (leaf n).2]; exact one_var
  · exact two (.inl h) (ndo h rfl) (by rw [h, ends_2]; decide)
  · exact two (.inr (.inl h)) (ndo h rfl) (by rw [h, ends_3]; decide)
  · exact two (.inr (.inr (.inl h))) (ndo h rfl) (by rw [h, ends_4]; decide)
  · exact two (.inr (.inr (.inr (.inl h)))) (ndo h rfl) (by rw [h, ends_5]; decide)
  · exact two (.inr (.inr (.inr (.inr (.inl h))))) (ndo h rfl) (by rw [h, ends_6]; decide)
  · exact one (.inl h) (ndo h rfl) (by rw [h, ends_7]; decide)
  · exact one (.inr h) (ndo h rfl) (by rw [h, ends_8]; decide)
  · have h2 := ndo h (v := 1) rfl
    obtain ⟨a, rfl⟩ := len1 (hkl.trans h2)
    obtain ⟨da, rfl⟩ := len1 (lk.symm.trans (hkl.trans h2))
    rw [yL (by omega), h2, h]
    exact one_mul Ak.1 (hW a (.head _)) (h2 ▸ hf)
  · exact two (.inr (.inr (.inr (.inr (.inr (.inl h)))))) (ndo h rfl) (by rw [h, ends_10]; decide)
  · exact two (.inr (.inr (.inr (.inr (.inr (.inr h)))))) (ndo h rfl) (by rw [h, ends_11]; decide)
  · have h2 := ndo h (v := 3) rfl
    obtain ⟨a, b, c', rfl⟩ := len3 (hkl.trans h2)
    obtain ⟨da, db, dc, rfl⟩ := len3 (lk.symm.trans (hkl.trans h2))
    rw [yL (by omega), h2, h]
    exact one_ite Ak.1 Ak.2.1 Ak.2.2.1 (hW a (.head _)) (hW b (.tail _ (.head _))) (hW c' (.tail _ (.tail _ (.head _)))) (h2 ▸ hf)
theorem new_tree {ts : List T} {ds' : List D} {c f nd : Nat} {k e : Int} {y : D} (A : AreT ts ds') (I : InvF ts c f nd) (k0 : 0 ≤ k) (k1 : k < 13) (hnd : (nd : Int) = needsL.getD k.toNat 0) (hy : AsL y (ds'.drop (ds'.length - nd))) :
    ∃ ts', AreT ts' (ds'.take (ds'.length - nd) ++ [.tup [.int k, .int (exI k e), y]]) ∧ Inv ts' (c + 1) := by
  have lA := A.length
  have i4 := I.le
  have hsplit : ts = ts.take (ds'.length - nd) ++ ts.drop (ds'.length - nd) := (List.take_append_drop ..).symm
  have hkl : (ts.drop (ds'.length - nd)).length = nd := by rw [List.length_drop, lA]; lia
  have Ak := A.drop (ds'.length - nd)
  have Ar := A.take (ds'.length - nd)
  generalize ts.drop (ds'.length - nd) = kids at *
  generalize ts.take (ds'.length - nd) = rest at *
  generalize ds'.drop (ds'.length - nd) = kd at *
  rw [hsplit] at I
  obtain ⟨t, C, D, δ, h1, h2, h3, h4, h5, h6, h7, h8, h9, h10⟩ := one_tree (e := e) k0 k1 hnd hkl Ak hy (fun x hx => (I.all x (List.mem_append_right _ hx)).1) I.ff
  exact ⟨rest ++ [t], Ar.append ⟨h1, trivial⟩, mk_inv I hkl h2 h3 h4 h5 h6 h7 h8 h9 h10⟩
end Mine
set_option genSizeOf false
set_option genInjectivity false
set_option maxRecDepth 100000
namespace Mine
open PySem PySem.W PySem.Calls PyProof.Rows
theorem needs_le : ∀ k : Nat, k < 13 → 0 ≤ needsL.getD k 0 ∧ needsL.getD k 0 ≤ 3 := by decide
theorem turn_ok {n c : Nat} {dr : List Int} {t : Nat} {x : Int} {tail : Loc} {hs : Hs} {ds : List D} {ts : List T} {KB : KS} (S : St hs t ds) (A : AreT ts ds) (I : Inv ts c) (hc : c ≤ 20)
    (h : ∀ hs' t' ds' ts' k e nd tail', St hs' t' ds' → AreT ts' ds' → Inv ts' (c + 1) → KB .next (shape dr (.loc t') x k e nd tail') hs') : turnT n dr (.loc t) x tail hs KB := by
  unfold turnT
  rw [fmod_pos (by decide), fdiv_pos (by decide)]
  refine ⟨by decide, ⟨by decide, by decide⟩, at_ok' (by lia) (by have : ((13 : Nat) : Int) = 13 := rfl; lia) (by decide) ?_⟩
  have k0 : 0 ≤ x % 13 := by lia
  have k1 : x % 13 < 13 := by lia
  generalize x % 13 = k at *
  generalize x / 13 = e at *
  obtain ⟨n0, n1⟩ := needs_le k.toNat (by lia)
  obtain ⟨nd, hnd⟩ : ∃ nd : Nat, (nd : Int) = needsL.getD k.toNat 0 := ⟨(needsL.getD k.toNat 0).toNat, Int.toNat_of_nonneg n0⟩
  rw [← hnd] at n0 n1 ⊢
  have il := I.len
  have lA := A.length
  rw [tb0]
  refine fill_ok n dr x k e nd n1 KB 3 hs t ds tail S (by lia) (by lia) fun hs₁ t₁ ds₁ tail₁ S₁ F => ?_
  obtain ⟨ts₁, f, A₁, I₁⟩ := fill_inv A I F
  have l1 := A₁.length
  have i4 := I₁.le
  have i3 := I₁.len
  have i5 := I₁.ff
  rw [tc1]
  refine plenV_ok S₁ (cutK_ok S₁ (j := ds₁.length - nd) (by lia) (by lia) fun y hy => ?_)
  rw [tc2]
  refine plenV_ok S₁ (cutT_ok S₁ (j := ds₁.length - nd) (by lia) (by lia) fun hs₂ t₂ S₂ => ?_)
  obtain ⟨ts₂, A₂, I₂⟩ := new_tree (e := e) A₁ I₁ k0 k1 hnd hy
  have fin : exL (rsT n 11) (bodyT.drop 7) (shape dr (.loc t₂) x k (exI k e) nd (putL "kids" (.d y) tail₁)) hs₂ KB := by
    rw [tc4]
    refine getV_putL ?_
    show growV t₂ (appendD (hs₂.hp.getD t₂ .none) (.tup [.int k, .int (exI k e), y])) hs₂ _
    refine app_ok S₂ (by rw [List.length_take]; lia) fun hs₃ S₃ => h hs₃ t₂ _ ts₂ k (exI k e) nd _ S₃ A₂ I₂
  rw [tc3]
  have h4 : (4099 * e).fmod 65536 = 4099 * e % 65536 := fmod_pos (by decide)
  have h5 : e.fmod 4 = e % 4 := fmod_pos (by decide)
  have h6 : e.fmod 14 = e % 14 := fmod_pos (by decide)
  dsimp only
  rw [h4, h5, h6]
  unfold exI at fin
  by_cases q0 : k = 0
  · rw [if_pos q0] at fin
    have : (k == 0) = true := by simpa using q0
    rw [this]
    exact brT ⟨.inl (by decide), by decide, fin⟩
  · rw [if_neg q0] at fin
    have : (k == 0) = false := by simpa using q0
    rw [this]
    refine brF ?_
    by_cases q1 : k = 1
    · rw [if_pos q1] at fin
      have : (k == 1) = true := by simpa using q1
      rw [this]
      exact brT ⟨by decide, fin⟩
    · rw [if_neg q1] at fin
      have : (k == 1) = false := by simpa using q1
      rw [this]
      refine brF ?_
      by_cases q9 : k = 9
      · rw [if_pos q9] at fin
        have : (k == 9) = true := by simpa using q9
        rw [this]
        exact brT ⟨by decide, fin⟩
      · rw [if_neg q9] at fin
        have : (k == 9) = false := by simpa using q9
        rw [this]
        exact brF fin
theorem loop_ok {n : Nat} {dr : List Int} {K : KS} : ∀ (xs : List Int) (c : Nat) (hs : Hs) (t : Nat) (x₀ k e nd : Int) (tail : Loc) (ds : List D) (ts : List T), St hs t ds → AreT ts ds → Inv ts c → c + xs.length ≤ 20 →
    (∀ hs' t' ds' ts' tail', St hs' t' ds' → AreT ts' ds' → Inv ts' (c + xs.length) → K .next (two dr (.loc t') tail') hs') → loopT (n + 1) K (xs.map .int) (shape dr (.loc t) x₀ k e nd tail) hs
  | [], c, hs, t, x₀, k, e, nd, tail, ds, ts, S, A, I, hc, h => ⟨trivial, h hs t ds ts _ S A I⟩
  | x :: xs, c, hs, t, x₀, k, e, nd, tail, ds, ts, S, A, I, hc, h => by
    rw [List.length_cons] at hc h
    rw [List.map_cons, ta1]
    refine ⟨trivial, turn_ok S A I (by lia) fun hs' t' ds' ts' k' e' nd' tail' S' A' I' => ?_⟩
    exact loop_ok xs (c + 1) hs' t' x k' e' nd' tail' ds' ts' S' A' I' (by lia) fun hs'' t'' ds'' ts'' tail'' S'' A'' I'' => h hs'' t'' ds'' ts'' tail'' S'' A'' (by rw [show c + (xs.length + 1) = c + 1 + xs.length by lia]; exact I'')
theorem Inv.nil : Inv [] 0 := ⟨fun _ h => (nomatch h), by decide, by decide, by decide⟩
structure Fine (t : T) : Prop where
  w : t.WT
  cost : t.cost ≤ 476
  sd : t.sd ≤ 9
  ht : t.ht ≤ 10
  len : t.len ≤ 900
theorem neg2 {α : Type} {xs : List α} (h : 2 ≤ xs.length) : cut xs none (some (-2)) = xs.take (xs.length - 2) ∧ cut xs (some (-2)) none = xs.drop (xs.length - 2) := by
  have e : clipAt xs.length (-2) = xs.length - 2 := by
    unfold clipAt
    rw [if_pos (by decide), Int.min_eq_left (Int.add_le_of_le_sub_left (by omega)), Int.max_eq_right (by omega), show (-2 + (xs.length : Int)) = ((xs.length - 2 : Nat) : Int) by omega]
    rfl
  unfold cut
  simp only [Option.elim_some, Option.elim_none]
  rw [e]
  exact ⟨by simp, List.take_of_length_le (by simp)⟩
theorem join_ok {n : Nat} {dr : List Int} {K : KE} {c : Nat} (hc : c ≤ 9) (hK : ∀ t d, Fine t → IsT t d → K (.d d) ⟨[], none⟩) : ∀ (g : Nat) (hs : Hs) (t : Nat) (tail : Loc) (ds : List D) (ts : List T), St hs t ds → AreT ts ds → Inv ts c → ds.length = g + 1 → ∃ j, endT n K j (two dr (.loc t) tail) hs := by
  intro g
  induction g with
  | zero =>
    intro hs t tail ds ts S A I hl
    refine ⟨1, ?_⟩
    rw [te1]
    refine plenV_ok S ?_
    rw [decide_eq_false (by lia)]
    refine brF ?_
    obtain ⟨d, rfl⟩ := len1 hl
    obtain ⟨u, rfl⟩ := len1 (A.length.trans hl)
    obtain ⟨hu, _⟩ := A
    obtain ⟨w, a1, a2⟩ := I.all u (by simp)
    have s1 := I.s1
    have s2 := I.s2
    have e1 : S1 [u] = u.cost + 19 := by simp [S1]
    have e2 : S2 [u] = u.len + 32 := by simp [S2]
    simp only [List.length_singleton] at a1 a2
    have hFine : Fine u := ⟨w, by lia, by lia, by lia, by lia⟩
    have as : hs.hp.getD t .none = .list [d] := by
      rcases S.as with q | ⟨_, q⟩
      · exact q
      · cases q
    unfold itemV
    rw [deref_loc, as]
    show at' 0 ([d] : List D).length fun n => retC true 0 (.d (([d] : List D).getD n .none)) hs K
    refine at_ok' (by decide) (by simp) (by simp) ?_
    show retC true 0 (.d d) hs K
    unfold retC
    dsimp only
    rw [S.mp]
    exact hK u d hFine hu
  | succ g ih =>
    intro hs t tail ds ts S A I hl
    have lA := A.length
    have as : hs.hp.getD t .none = .list ds := by
      rcases S.as with q | ⟨_, q⟩
      · exact q
      · rw [q] at hl; cases hl
    have hlim := lim_is
    have sl := S.len
    obtain ⟨c1, c2⟩ := neg2 (xs := ds) (by lia)
    have Ar := A.take (ds.length - 2)
    have Ak := A.drop (ds.length - 2)
    have hkd : (ds.drop (ds.length - 2)).length = 2 := by rw [List.length_drop]; lia
    have hkt : (ts.drop (ds.length - 2)).length = 2 := by rw [List.length_drop]; lia
    have hsp : ts = ts.take (ds.length - 2) ++ ts.drop (ds.length - 2) := (List.take_append_drop ..).symm
    obtain ⟨da, db, hkd⟩ := len2 hkd
    obtain ⟨a, b, hkt⟩ := len2 hkt
    rw [hkd, hkt] at Ak
    rw [hkt] at hsp
    obtain ⟨ha, hb, _⟩ := Ak
    have hrl : (ts.take (ds.length - 2)).length = g := by rw [List.length_take]; lia
    generalize ts.take (ds.length - 2) = rest at *
    subst hsp
    have nI : Inv (rest ++ [.bin 2 0 a b]) c := by
      have s1 := I.s1; have s2 := I.s2
      rw [S1_app] at s1
      rw [S2_app] at s2
      have e1 : S1 [a, b] = a.cost + 19 + (b.cost + 19) := by simp [S1]
      have e2 : S2 [a, b] = a.len + 32 + (b.len + 32) := by simp [S2]
      have il := I.len
      have l2 : (rest ++ [a, b]).length = g + 2 := by simp [hrl]
      have l1 : (rest ++ [T.bin 2 0 a b]).length = g + 1 := by simp [hrl]
      obtain ⟨wa, xa, ya⟩ := I.all a (by simp)
      obtain ⟨wb, xb, yb⟩ := I.all b (by simp)
      rw [l2] at xa ya xb yb il
      refine ⟨fun x hx => ?_, ?_, ?_, by lia⟩
      · rw [l1]
        rcases List.mem_append.mp hx with hx | hx
        · obtain ⟨p1, p2, p3⟩ := I.all x (List.mem_append_left _ hx)
          rw [l2] at p2 p3
          exact ⟨p1, by lia, by lia⟩
        · rw [List.mem_singleton.mp hx]
          refine ⟨⟨by simp, wa, wb⟩, ?_, ?_⟩
          · simp only [T.sd]; lia
          · simp only [T.ht]; lia
      · rw [S1_app]
        have : S1 [T.bin 2 0 a b] = a.cost + b.cost + 19 + 19 := by simp [S1, T.cost]; lia
        lia
      · rw [S2_app]
        have : S2 [T.bin 2 0 a b] = a.len + b.len + 25 + 32 := by simp [S2, T.len, ends_2]; lia
        lia
    have nA : AreT (rest ++ [.bin 2 0 a b]) (ds.take (ds.length - 2) ++ [.tup [.int 2, .int 0, .list [da, db]]]) := Ar.append ⟨⟨da, db, rfl, ha, hb⟩, trivial⟩
    have nS : St (pushH hs (.list (ds.take (ds.length - 2) ++ [.tup [.int 2, .int 0, .list [da, db]]]))) hs.hp.length (ds.take (ds.length - 2) ++ [.tup [.int 2, .int 0, .list [da, db]]]) := St.push S.mp (by simp; lia)
    obtain ⟨j, hj⟩ := ih _ _ tail _ _ nS nA nI (by simp; lia)
    refine ⟨j + 1, ?_⟩
    rw [te1]
    refine plenV_ok S ?_
    rw [decide_eq_true (by lia)]
    refine brT ?_
    unfold sliceV
    show match deref hs (.loc t) with
      | .ints xs => xs.length ≤ lim ∧ alloc false (.ints (cut xs none (some (-2)))) hs _
      | .list xs => xs.length ≤ lim ∧ alloc false (.list (cut xs none (some (-2)))) hs _
      | .arg xs => xs.length ≤ lim ∧ alloc false (.ints (cut xs none (some (-2)))) hs _
      | _ => False
    rw [deref_loc, as]
    refine ⟨by lia, ?_⟩
    show match deref hs (.loc t) with
      | .ints xs => xs.length ≤ lim ∧ alloc false (.ints (cut xs (some (-2)) none)) hs _
      | .list xs => xs.length ≤ lim ∧ alloc false (.list (cut xs (some (-2)) none)) hs _
      | .arg xs => xs.length ≤ lim ∧ alloc false (.ints (cut xs (some (-2)) none)) hs _
      | _ => False
    rw [deref_loc, as]
    refine ⟨by lia, ?_⟩
    rw [c1, c2, hkd]
    show (ds.take (ds.length - 2) ++ [D.tup [.int 2, .int 0, .list [da, db]]]).length ≤ lim ∧ _
    exact ⟨by simp; lia, hj⟩
theorem truth_list {xs : List D} (h : xs.length < 2 ^ 62) : truthB (.list xs) = some (!xs.isEmpty) := by
  show noB (!decide (xs.length < 2 ^ 62)) _ = _
  rw [decide_eq_true h]; rfl
theorem tree_ok {n : Nat} {dr : List Int} {K : KE} (hl : dr.length ≤ 9) (hK : ∀ t d, Fine t → IsT t d → K (.d d) ⟨[], none⟩) : tree4 (n + 2) dr ⟨[], none⟩ K := by
  rw [tr0]
  refine ⟨trivial, ?_⟩
  have S0 : St ⟨[.ints []], none⟩ 0 [] := ⟨rfl, by decide, .inr ⟨rfl, rfl⟩, by decide⟩
  -- the end, from whatever list
  have fin : ∀ hs t ds ts tail, St hs t ds → AreT ts ds → Inv ts dr.length → behind (rsT (n + 1) 12) (fnT.body.drop 2) (outT K) .next (two dr (.loc t) tail) hs := by
    intro hs t ds ts tail S A I
    rw [te0]
    have lA := A.length
    have il := I.len
    have sl := S.len
    unfold truthV
    rw [deref_loc]
    by_cases h0 : ds = []
    · subst h0
      have nS : St (pushH hs (.list [.tup [.int 1, .int 3, .ints []]])) hs.hp.length [.tup [.int 1, .int 3, .ints []]] := St.push S.mp (by decide)
      have go := join_ok (n := n + 1) (dr := dr) (K := K) (c := 1) (by decide) hK 0 _ _ tail _ [.var 3] nS ⟨⟨_, rfl⟩, trivial⟩ ⟨fun t ht => by rw [List.mem_singleton.mp ht]; exact ⟨⟨by decide, by decide⟩, by decide, by decide⟩, by decide, by decide, by decide⟩ rfl
      rcases S.as with q | ⟨q, _⟩
      · rw [q]; exact go
      · rw [q]; exact go
    · have as : hs.hp.getD t .none = .list ds := by
        rcases S.as with q | ⟨_, q⟩
        · exact q
        · exact absurd q h0
      rw [as]
      have hp : 0 < ds.length := List.length_pos_iff.mpr h0
      have hne : ds.isEmpty = false := by cases ds with
        | nil => exact absurd rfl h0
        | cons _ _ => rfl
      rw [truth_list (by lia), hne]
      exact join_ok (c := dr.length) hl hK (ds.length - 1) hs t tail ds ts S A I (by lia)
  cases dr with
  | nil => exact ⟨trivial, fin _ 0 [] [] _ S0 trivial Inv.nil⟩
  | cons x r =>
    rw [List.map_cons, ta0]
    rw [List.length_cons] at hl fin
    refine ⟨trivial, turn_ok S0 (ts := []) trivial Inv.nil (by decide) fun hs' t' ds' ts' k' e' nd' tail' S' A' I' => ?_⟩
    exact loop_ok r 1 hs' t' x k' e' nd' tail' ds' ts' S' A' I' (by lia) fun hs'' t'' ds'' ts'' tail'' S'' A'' I'' => fin hs'' t'' ds'' ts'' tail'' S'' A'' (by rw [Nat.add_comm]; exact I'')
end Mine
set_option genSizeOf false
set_option genInjectivity false
set_option maxRecDepth 100000
namespace Mine
open PySem PySem.W PySem.Calls PyProof.Rows
theorem tab_st {op : Int} {i : Op} (h : (op, i) ∈ ops) (d : Nat) (c : List Int) (σ : Cpu) (K : KE) : stepR PX4 d (hs4 c σ) op K = i σ fun σ => K (.d .mpu) (hs4 c σ) := by
  unfold ops at h
  simp only [List.mem_cons, Prod.mk.injEq, List.not_mem_nil, or_false] at h
  rcases h with ⟨rfl, rfl⟩ | ⟨rfl, rfl⟩ | ⟨rfl, rfl⟩ | ⟨rfl, rfl⟩ | ⟨rfl, rfl⟩ | ⟨rfl, rfl⟩ | ⟨rfl, rfl⟩ | ⟨rfl, rfl⟩ | ⟨rfl, rfl⟩ | ⟨rfl, rfl⟩ | ⟨rfl, rfl⟩ | ⟨rfl, rfl⟩ | ⟨rfl, rfl⟩ | ⟨rfl, rfl⟩ | ⟨rfl, rfl⟩ | ⟨rfl, rfl⟩ | ⟨rfl, rfl⟩ | ⟨rfl, rfl⟩ | ⟨rfl, rfl⟩ | ⟨rfl, rfl⟩ | ⟨rfl, rfl⟩ | ⟨rfl, rfl⟩ | ⟨rfl, rfl⟩ | ⟨rfl, rfl⟩ | ⟨rfl, rfl⟩ | ⟨rfl, rfl⟩ | ⟨rfl, rfl⟩ | ⟨rfl, rfl⟩
  · exact st4_5 d c σ K
  · exact st4_6 d c σ K
  · exact st4_10 d c σ K
  · exact st4_24 d c σ K
  · exact st4_37 d c σ K
  · exact st4_38 d c σ K
  · exact st4_42 d c σ K
  · exact st4_48 d c σ K
  · exact st4_56 d c σ K
  · exact st4_69 d c σ K
  · exact st4_72 d c σ K
  · exact st4_73 d c σ K
  · exact st4_74 d c σ K
  · exact st4_76 d c σ K
  · exact st4_80 d c σ K
  · exact st4_101 d c σ K
  · exact st4_102 d c σ K
  · exact st4_104 d c σ K
  · exact st4_133 d c σ K
  · exact st4_162 d c σ K
  · exact st4_165 d c σ K
  · exact st4_169 d c σ K
  · exact st4_176 d c σ K
  · exact st4_181 d c σ K
  · exact st4_197 d c σ K
  · exact st4_201 d c σ K
  · exact st4_208 d c σ K
  · exact st4_229 d c σ K
theorem step_ok {n L : Nat} {c : List Int} {σ : Cpu} {q q₁ : Q} {K : KE} (hL : L ≤ 65536) (A : Abs L σ q) (G : Goes L q q₁) (h : ∀ σ', Abs L σ' q₁ → K (.d .mpu) (hs4 c σ')) : callN PX4 (n + 8) false true "step" [.d .mpu] (hs4 c σ) K := by
  obtain ⟨op, hm, g, b0, b1⟩ := G
  rw [st4_0, A.pc]
  refine A.rd hL b0 b1 ?_
  rw [tab_st hm]
  exact g σ A _ h
noncomputable def isTl (tl : Loc) : Prop := tl = [] ∨ ∃ x : D, tl = ([("turn", .d x)] : Loc)
theorem putTl {tl : Loc} (h : isTl tl) (x : D) : putL "turn" (.d x) tl = ([("turn", .d x)] : Loc) := by
  rcases h with rfl | ⟨y, rfl⟩
  · rfl
  · rfl
theorem loop_run {n L : Nat} {xs dr c b : List Int} {t : Int} {td : D} {K : KS} {q' : Q} (hL : L ≤ 65536) (hc : c.length < 2 ^ 62) (e : q'.pc = 512 + ((c.length : Nat) : Int))
    (h : ∀ σ' x, Abs L σ' q' → K .next (locE xs dr t td b [("turn", .d x)]) (hs4 c σ')) : ∀ (k : Nat) (is : List D) (tl : Loc) (σ : Cpu) (q : Q), isTl tl → Abs L σ q → Run L (512 + ((c.length : Nat) : Int)) k q q' → k < is.length →
    loopM (n + 8) K is (locE xs dr t td b tl) (hs4 c σ)
  | _, [], _, _, _, _, _, _, hk => absurd hk (by simp)
  | 0, x :: is, tl, σ, q, ht, A, R, hk => by
    have R : q = q' := R
    subst R
    rw [l6, putTl ht]
    refine ⟨trivial, hc, ?_⟩
    have : (σ.pc == 512 + ((c.length : Nat) : Int)) = true := by rw [A.pc, e]; simp
    rw [this]
    exact brT (h σ x A)
  | k + 1, x :: is, tl, σ, q, ht, A, R, hk => by
    obtain ⟨hlt, q₁, G, R⟩ := R
    rw [l6, putTl ht]
    refine ⟨trivial, hc, ?_⟩
    have : (σ.pc == 512 + ((c.length : Nat) : Int)) = false := by rw [A.pc]; simp; lia
    rw [this]
    refine brF (step_ok hL A G fun σ' A' => ?_)
    exact loop_run hL hc e h k is _ σ' q₁ (.inr ⟨x, rfl⟩) A' R (by simp at hk; lia)

/-! ### the memory -/
theorem rep_len (n : Int) : (rep n [(234 : Int)]).length = n.toNat := by unfold rep; simp
theorem mem0_len {c : List Int} (h : c.length ≤ 1536) : (mem0 c).length = 2048 := by
  unfold mem0
  rw [List.length_append, List.length_append, rep_len, rep_len]
  lia
theorem mem0_code (c : List Int) {i : Nat} {b : Int} (h : c[i]? = some b) : (mem0 c).getD (512 + i) 0 = b := by
  have hi : i < c.length := (List.getElem?_eq_some_iff.mp h).1
  have e : (rep 512 [(234 : Int)]).length = 512 := rep_len 512
  unfold mem0
  rw [List.getD_eq_getElem?_getD, List.getElem?_append_left (by rw [List.length_append, e]; lia), List.getElem?_append_right (by lia), e]
  rw [show 512 + i - 512 = i by lia, h]
  rfl
noncomputable def put (i : Nat) (v : Int) (m : List Int) : List Int := (m.set (16 + 2 * i) (v % 256)).set (17 + 2 * i) (v / 256)
theorem put_len {i : Nat} {v : Int} {m : List Int} : (put i v m).length = m.length := by unfold put; simp
theorem set_getD {m : List Int} {i j : Nat} {v : Int} (h : i < m.length) : (m.set i v).getD j 0 = if j = i then v else m.getD j 0 := by
  rw [List.getD_eq_getElem?_getD, List.getD_eq_getElem?_getD, List.getElem?_set]
  by_cases q : j = i
  · subst q; simp [h]
  · rw [if_neg (fun x => q x.symm), if_neg q]
theorem put_get {i j : Nat} {v : Int} {m : List Int} (h : 17 + 2 * i < m.length) : (put i v m).getD j 0 = if j = 17 + 2 * i then v / 256 else if j = 16 + 2 * i then v % 256 else m.getD j 0 := by
  unfold put
  rw [set_getD (by simpa using h), set_getD (by lia)]
noncomputable def H2 (c m : List Int) : Hs := ⟨[.ints c, .ints m], none⟩
theorem setM_is (i v : Int) (c m : List Int) (k : Hs → Prop) : setM i v (H2 c m) k = at' i m.length fun j => k (H2 c (m.set j v)) := rfl
theorem putV_ok {n p : Nat} {xs dr c m : List Int} {t v : Int} {td : D} {KL : KS} (hp : p < 4) (hm : m.length = 2048) (h : KL .next (locC xs dr t td (pn p v)) (H2 c (put p v m))) : exL (rsL n 11) forV.2.2 (locC xs dr t td (pn p v)) (H2 c m) KL := by
  rw [l4b, fmod_pos (by decide), fdiv_pos (by decide)]
  refine ⟨by decide, .inl (by decide), ?_⟩
  rw [setM_is]
  refine at_ok' (by lia) (by lia) (by lia) ⟨⟨by decide, by decide⟩, .inl (by decide), ?_⟩
  rw [setM_is, List.length_set]
  refine at_ok' (by lia) (by lia) (by lia) ?_
  have e1 : (16 + 2 * (p : Int)).toNat = 16 + 2 * p := by lia
  have e2 : (17 + 2 * (p : Int)).toNat = 17 + 2 * p := by lia
  rw [e1, e2]
  exact h
theorem seg_eq {m m' : List Int} {lo hi : Nat} (hl : m.length = m'.length) (h : ∀ j, lo ≤ j → j < hi → m.getD j 0 = m'.getD j 0) : (m.drop lo).take (hi - lo) = (m'.drop lo).take (hi - lo) := by
  apply List.ext_getElem?
  intro i
  by_cases q : i < hi - lo
  · rw [List.getElem?_take_of_lt q, List.getElem?_take_of_lt q, List.getElem?_drop, List.getElem?_drop]
    have := h (lo + i) (by lia) (by lia)
    rw [List.getD_eq_getElem?_getD, List.getD_eq_getElem?_getD] at this
    by_cases r : lo + i < m.length
    · rw [List.getElem?_eq_getElem r, List.getElem?_eq_getElem (by lia)] at this ⊢
      simpa using this
    · rw [List.getElem?_eq_none (by lia), List.getElem?_eq_none (by lia)]
  · rw [List.getElem?_take_eq_none (by lia), List.getElem?_take_eq_none (by lia)]
theorem cut_seg {m : List Int} {lo hi : Nat} (h1 : lo ≤ m.length) (h2 : hi ≤ m.length) : cut m (some (lo : Nat)) (some (hi : Nat)) = (m.drop lo).take (hi - lo) := by
  unfold cut
  simp only [Option.elim_some]
  rw [clip_nat (j := lo) h1, clip_nat (j := hi) h2]
theorem cut_pre {m : List Int} {hi : Nat} (h2 : hi ≤ m.length) : cut m none (some (hi : Nat)) = (m.drop 0).take (hi - 0) := by
  rw [cut_take h2]; rfl
theorem cut_suf {m : List Int} {lo : Nat} (h1 : lo ≤ m.length) : cut m (some (lo : Nat)) none = (m.drop lo).take (m.length - lo) := by
  rw [cut_drop h1, List.take_of_length_le (by simp)]
theorem cut_all (m : List Int) : cut m none none = m := by unfold cut; simp
end Mine
set_option genSizeOf false
set_option genInjectivity false
set_option maxRecDepth 100000
namespace Mine
open PySem PySem.W PySem.Calls PyProof.Rows
theorem cut9 (xs : List Int) : (cut xs none (some 9)).length ≤ 9 := by
  unfold cut
  simp only [Option.elim_none, Option.elim_some, List.drop_zero, Nat.sub_zero, List.length_take]
  have : clipAt xs.length 9 ≤ 9 := by
    unfold clipAt
    rw [if_neg (by decide)]
    lia
  lia
theorem vr_word (t b o : Int) : word? (vr t b o) := by
  unfold vr
  rw [fmod_pos (by decide)]
  exact ⟨by lia, by lia⟩
theorem two_of : ∀ {m : List Int}, 4 ≤ m.length → (m.drop 2).take (4 - 2) = [m.getD 2 0, m.getD 3 0]
  | _ :: _ :: _ :: _ :: _, _ => rfl
  | [], h => absurd h (by decide)
  | [_], h => absurd h (by simp)
  | [_, _], h => absurd h (by simp)
  | [_, _, _], h => absurd h (by simp)
theorem pok48 : Pok 48 false false false false := ⟨by decide, by decide, by decide +kernel, by decide +kernel⟩
noncomputable def m4 (t : Int) (c : List Int) : List Int := put 3 (vr t 30011 65280) (put 2 (vr t 4099 32767) (put 1 (vr t 257 255) (put 0 (vr t 1 0) (mem0 c))))
theorem m4_len {t : Int} {c : List Int} (h : c.length ≤ 1536) : (m4 t c).length = 2048 := by
  unfold m4
  rw [put_len, put_len, put_len, put_len, mem0_len h]
theorem m4_hi {t : Int} {c : List Int} (h : c.length ≤ 1536) {j : Nat} (hj : 23 < j) : (m4 t c).getD j 0 = (mem0 c).getD j 0 := by
  have h0 := mem0_len h
  unfold m4
  rw [put_get (by simp only [put_len]; lia), put_get (by simp only [put_len]; lia), put_get (by simp only [put_len]; lia), put_get (by lia)]
  rw [if_neg (by lia), if_neg (by lia), if_neg (by lia), if_neg (by lia), if_neg (by lia), if_neg (by lia), if_neg (by lia), if_neg (by lia)]
theorem m4_vars {t : Int} {c : List Int} (h : c.length ≤ 1536) : Vars (fun i => (m4 t c).getD i.toNat 0) (varsOf t) := by
  have h0 := mem0_len h
  have g : ∀ j : Nat, (m4 t c).getD j 0 = if j = 23 then vr t 30011 65280 / 256 else if j = 22 then vr t 30011 65280 % 256 else if j = 21 then vr t 4099 32767 / 256 else if j = 20 then vr t 4099 32767 % 256 else
      if j = 19 then vr t 257 255 / 256 else if j = 18 then vr t 257 255 % 256 else if j = 17 then vr t 1 0 / 256 else if j = 16 then vr t 1 0 % 256 else (mem0 c).getD j 0 := by
    intro j
    unfold m4
    rw [put_get (by simp only [put_len]; lia), put_get (by simp only [put_len]; lia), put_get (by simp only [put_len]; lia), put_get (by lia)]
  intro i hi
  have e1 : (16 + 2 * (i : Int)).toNat = 16 + 2 * i := by lia
  have e2 : (17 + 2 * (i : Int)).toNat = 17 + 2 * i := by lia
  dsimp only
  rw [e1, e2, g, g]
  have : i = 0 ∨ i = 1 ∨ i = 2 ∨ i = 3 := by lia
  rcases this with rfl | rfl | rfl | rfl
  · exact ⟨rfl, rfl⟩
  · exact ⟨rfl, rfl⟩
  · exact ⟨rfl, rfl⟩
  · exact ⟨rfl, rfl⟩
theorem end4 {xs dr c : List Int} {t y : Int} {td tx : D} {b : List Int} {σ : Cpu} {K : KE} (lm : σ.m.length = 2048) (lb : b.length = 2048) (lc : c.length ≤ 1536) (p1 : σ.pc = 512 + ((c.length : Nat) : Int)) (p2 : σ.sp = 255)
    (g2 : σ.m.getD 2 0 = y % 256) (g3 : σ.m.getD 3 0 = y / 256) (fr : ∀ j : Nat, (j < 2 ∨ 5 < j) → (j < 494 ∨ 511 < j) → j < 2048 → σ.m.getD j 0 = b.getD j 0) (h : K (.d (.bool true)) (hs4 c σ)) (n : Nat) :
    exL (rsL n 12) (fnL.body.drop 12) (locE xs dr t td b [("turn", .d tx), ("value", .d (.int y))]) (hs4 c σ) (outL K) := by
  have hlim := lim_is
  rw [l8]
  refine ⟨by lia, ?_⟩
  rw [p1, p2, decide_eq_true rfl]
  refine brF ⟨by lia, by decide, ⟨by decide, by decide⟩, ?_⟩
  have c1 : cut σ.m (some 2) (some 4) = [y.fmod 256, y.fdiv 256] := by
    have e : cut σ.m (some 2) (some 4) = (σ.m.drop 2).take (4 - 2) := cut_seg (lo := 2) (hi := 4) (by lia) (by lia)
    rw [e, two_of (by lia), g2, g3, fmod_pos (by decide), fdiv_pos (by decide)]
  rw [decide_eq_true c1]
  refine brF ⟨by lia, by lia, ?_⟩
  have c2 : cut σ.m none (some 2) = cut b none (some 2) := by
    have e : cut σ.m none (some 2) = (σ.m.drop 0).take (2 - 0) := cut_pre (hi := 2) (by lia)
    have e' : cut b none (some 2) = (b.drop 0).take (2 - 0) := cut_pre (hi := 2) (by lia)
    rw [e, e']
    exact seg_eq (by lia) fun j h1 h2 => fr j (by lia) (by lia) (by lia)
  dsimp only
  rw [decide_eq_true c2]
  refine brT ⟨by lia, by lia, ?_⟩
  have c3 : cut σ.m (some 6) (some 494) = cut b (some 6) (some 494) := by
    have e : cut σ.m (some 6) (some 494) = (σ.m.drop 6).take (494 - 6) := cut_seg (lo := 6) (hi := 494) (by lia) (by lia)
    have e' : cut b (some 6) (some 494) = (b.drop 6).take (494 - 6) := cut_seg (lo := 6) (hi := 494) (by lia) (by lia)
    rw [e, e']
    exact seg_eq (by lia) fun j h1 h2 => fr j (by lia) (by lia) (by lia)
  dsimp only
  rw [decide_eq_true c3]
  refine brT ⟨by lia, by lia, ?_⟩
  have c4 : cut σ.m (some 512) none = cut b (some 512) none := by
    have e : cut σ.m (some 512) none = (σ.m.drop 512).take (σ.m.length - 512) := cut_suf (lo := 512) (by lia)
    have e' : cut b (some 512) none = (b.drop 512).take (b.length - 512) := cut_suf (lo := 512) (by lia)
    rw [e, e', lm, lb]
    exact seg_eq (by lia) fun j h1 h2 => fr j (by lia) (by lia) (by lia)
  dsimp only
  rw [decide_eq_true c4]
  exact h
theorem vars_word (t : Int) : ∀ i, i < 4 → word? ((varsOf t).getD i 0) := by
  intro i hi
  have : i = 0 ∨ i = 1 ∨ i = 2 ∨ i = 3 := by lia
  rcases this with rfl | rfl | rfl | rfl <;> exact vr_word ..
theorem hev4 : ∀ xs : List Int, xs.length ≤ 63 → callN PX4 20 false false nm4 [.d (.arg xs)] ⟨[], none⟩ fun v _ => v = .d (.bool true) := by
  intro xs hx
  have hlim := lim_is
  show callN PX4 (19 + 1) false false nm4 [.d (.arg xs)] ⟨[], none⟩ fun v _ => v = .d (.bool true)
  rw [l1]
  refine ⟨by lia, ?_⟩
  have h9 := cut9 xs
  generalize cut xs none (some 9) = dr at *
  dsimp only
  generalize dr.sum = t
  refine ⟨by lia, trivial, by lia, trivial, .inr (by decide), by decide, trivial, .inr (by decide), by decide, trivial, .inr (by decide), by decide, trivial, .inr (by decide), by decide, trivial, ?_⟩
  refine tree_ok (n := 17) h9 fun tr d F I => ?_
  show exL (rsL 19 12) (fnL.body.drop 4) (locA xs dr t [("tree", .d d)]) ⟨[], none⟩ _
  rw [l2]
  have fl := F.len
  have fh := F.ht
  have fs := F.sd
  have fc := F.cost
  refine comp_ev tr (c := []) F.w I (by lia) (by simp; lia) ?_
  have e0 : ([] : List Int) ++ tr.code (512 + (([] : List Int).length : Nat)) = tr.code 512 := rfl
  rw [e0]
  have cl := code_len tr 512
  generalize hc : tr.code 512 = c at *
  show exL (rsL 19 12) (fnL.body.drop 6) (locB xs dr t d []) ⟨[.ints c], none⟩ _
  rw [l3]
  have h1 : (rep 512 [(234 : Int)] ++ c).length ≤ lim := by
    rw [List.length_append, rep_len]; lia
  have lc : c.length ≤ 1536 := by lia
  have hm := mem0_len lc
  refine ⟨⟨by decide, by lia, by lia⟩, h1, by lia, ⟨by lia, by lia, by lia⟩, by lia, ?_⟩
  rw [l4a]
  show loopV 19 _ [.tup [.int 0, .int (vr t 1 0)], .tup [.int 1, .int (vr t 257 255)], .tup [.int 2, .int (vr t 4099 32767)], .tup [.int 3, .int (vr t 30011 65280)]] (locC xs dr t d []) (H2 c (mem0 c))
  refine (l4c0 ..).mpr ⟨trivial, putV_ok (p := 0) (by decide) hm ?_⟩
  refine (l4c1 ..).mpr ⟨trivial, putV_ok (p := 1) (by decide) (by rw [put_len, hm]) ?_⟩
  refine (l4c1 ..).mpr ⟨trivial, putV_ok (p := 2) (by decide) (by rw [put_len, put_len, hm]) ?_⟩
  refine (l4c1 ..).mpr ⟨trivial, putV_ok (p := 3) (by decide) (by rw [put_len, put_len, put_len, hm]) ⟨trivial, ?_⟩⟩
  show exL (rsL (11 + 8) 12) (fnL.body.drop 8) (locD xs dr t d []) ⟨[.ints c, .ints (m4 t c)], none⟩ _
  rw [l5]
  have lm := m4_len (t := t) lc
  refine ⟨by lia, ⟨by decide, by decide, by decide⟩, ⟨by decide, by decide, by decide⟩, ⟨by decide, by decide, by decide⟩, ⟨by decide, by decide, by decide⟩, ⟨by lia, by lia⟩, ⟨by lia, by lia⟩, ?_⟩
  rw [cut_all]
  have C : Code (fun i => (m4 t c).getD i.toNat 0) 512 (tr.code 512) := fun i b hb => by
    rw [hc] at hb
    have e1 : ((512 : Int) + (i : Int)).toNat = 512 + i := by lia
    dsimp only
    rw [e1, m4_hi lc (by lia)]
    exact mem0_code c hb
  obtain ⟨k, hk, q', R, G⟩ := comp_run (L := 2048) (hi := 512 + ((c.length : Nat) : Int)) (by decide) (by decide) (vars_word t) tr (m := fun i => (m4 t c).getD i.toNat 0) (s := 512) (sp := 255) (ra := 0) (rx := 0) (c := false) (z := false) (n := false) (v := false) F.w C (by decide) (by lia) (by lia) (by lia) (by decide) (m4_vars lc)
  obtain ⟨g1, g2, g3, g4, g5, g6⟩ := G
  have A0 : Abs 2048 (cpu0 (m4 t c)) ⟨fun i => (m4 t c).getD i.toNat 0, 512, 255, 0, 0, false, false, false, false⟩ := ⟨lm, fun i hi => rfl, rfl, rfl, rfl, rfl, pok48⟩
  refine loop_run (L := 2048) (q' := q') (by decide) (by lia) (by rw [g1]; lia) (fun σ' x A => ?_) k _ [] (cpu0 (m4 t c)) _ (.inl rfl) A0 R (by simp; lia)
  show behind (rsL 19 12) (fnL.body.drop 11) _ .next (locE xs dr t d (m4 t c) [("turn", .d x)]) (hs4 c σ')
  rw [l7]
  refine val_ev rfl (vars_word t) tr F.w I (by lia) ?_
  show exL (rsL 19 12) (fnL.body.drop 12) (locE xs dr t d (m4 t c) [("turn", .d x), ("value", .d (.int (tr.val (varsOf t))))]) (hs4 c σ') (outL fun v _ => v = .d (.bool true))
  have a2 : σ'.m.getD 2 0 = q'.m 2 := A.mem 2 (by decide)
  have a3 : σ'.m.getD 3 0 = q'.m 3 := A.mem 3 (by decide)
  have o1 := g3.1
  have o2 := g3.2
  refine end4 A.len lm lc (by rw [A.pc, g1]; lia) (by rw [A.sp, g2]) (by rw [a2]; lia) (by rw [a3]; lia) (fun j h1 h2 h3 => ?_) rfl 19
  rw [A.mem j h3, g6 j (by lia) (by lia)]
  rfl
end Mine
set_option genSizeOf false
set_option genInjectivity false
set_option maxRecDepth 100000
namespace Mine
open PySem PySem.W
set_option maxHeartbeats 0
noncomputable abbrev R4 : Program := PySem.Challenge.rw_im0096_04.row.prog
theorem look4a : (sreFenced R4.main && ((moduleNames R4.main.body).isEmpty || lookedIntoSs (moduleNames R4.main.body) R4.main.body)) = true := by kernel_rfl
theorem look4b : namesResolve R4 = true := by kernel_rfl
theorem look4c : R4.boundNames.all (fun n => !worldNames.contains n) = true := by kernel_rfl
theorem look4d : noRoadLSs { strict := !(importedModules R4.main.body).all cThrough.contains, foot := none, bare := (["vars", "dir", "locals"] : List Str).filter (readsOut R4 R4.main.body) } R4.main.body = true := by kernel_rfl
theorem look4e : (namesMeet R4 R4.main.body fun _ n => attrL n) = true := by kernel_rfl
theorem looks4 : looksOpen R4 = true := look_both (look_both (look_both (look_both look4a look4b) look4c) look4d) look4e
theorem start4 : (!startupNames.contains PySem.Challenge.rw_im0096_04.row.name) = true := by rw [PySem.W.Fast.te12749700546528644094]; kernel_rfl
theorem row4 : PySem.Challenge.rw_im0096_04.row.wellSaid = true := by
  delta OpenRow.wellSaid OpenRow.partSaid
  repeat' (with_reducible refine look_both ?_ ?_)
  all_goals with_reducible first | exact looks4 | exact start4 | kernel_rfl
theorem wsaid4 : PySem.Challenge.rw_im0096_04.wellSaid = true := by
  delta OpenLaw.wellSaid
  repeat' (with_reducible refine look_both ?_ ?_)
  all_goals with_reducible first | exact row4 | kernel_rfl
end Mine
set_option genSizeOf false
set_option genInjectivity false
set_option maxRecDepth 100000
open PySem PySem.W
theorem PySem.Challenge.cw_im0096_04_holds : PySem.Challenge.rw_im0096_04.Holds :=
  ⟨Mine.wsaid4, Mine.law4 Mine.row4 Mine.hev4⟩
