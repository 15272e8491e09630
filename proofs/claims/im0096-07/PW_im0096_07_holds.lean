import PyProof.Rows.All
import Wide.All
import OpenK.AllK
import Wide.FinOn
import PyProof.ByEvalTree
import KE.BitLaws
import Lean
import PySem.Challenge.RW_im0096_07
set_option Elab.async false
set_option tactic.hygienic false
set_option backward.match.sparseCases false
set_option linter.all false
set_option genSizeOf false
set_option genInjectivity false
set_option maxRecDepth 100000
namespace Mine
open PySem PySem.W PySem.Calls PyProof.Rows
inductive Ents : List DictEntry -> List (Str × Value) -> Prop
 | nil : Ents [] []
 | cons {e : DictEntry} {x : Str} {v : Value} {t : Tok} {es l} : e.key = .str x t -> e.val = v -> Ents es l -> Ents (e :: es) ((x, v) :: l)
theorem Ents.snoc {h : Int} {x : Str} {t : Tok} {v : Value} : ∀ {es l}, Ents es l -> Ents (es ++ [⟨h, .str x t, v⟩]) (l ++ [(x, v)]) := fun E => by
 induction E with
 | nil => exact .cons rfl rfl .nil
 | cons a b _ ih => exact .cons a b ih
theorem Ents.find {x : Str} : ∀ {es l}, Ents es l -> (es.find? (fun e => e.key.isStr x)).map (·.val) = l.lookup x := fun E => by
 induction E with
 | nil => rfl
 | @cons e y v t _ _ a b r ih =>
  have hk : e.key.isStr x = (y == x) := by rw [a]; rfl
  rw [List.find?_cons, List.lookup_cons, hk]
  by_cases h : y = x
  ·subst h; simp [b]
  ·have h1 : (y == x) = false := by simpa using h
   have h2 : (x == y) = false := by simpa using (fun e => h e.symm : ¬ x = y)
   rw [h1, h2]; exact ih
theorem Ents.strs {es l} (h : Ents es l) : ∀ e ∈ es, ∃ n t, e.key = .str n t := by
 induction h with
 | nil => exact fun e h => nomatch h
 | cons a _ _ ih => exact fun e h => (List.mem_cons.mp h).elim (fun q => q ▸ ⟨_, _, a⟩) (ih e)
theorem Ents.length : ∀ {es l}, Ents es l -> es.length = l.length
 | _, _, .nil => rfl
 | _, _, .cons _ _ r => by simp [r.length]
noncomputable def DictIs (h : Heap) (a : Addr) (l : List (Str × Value)) : Prop :=
 ∃ es n, h.get? a = some ⟨.type "dict", none, .dict es n, #[]⟩ /\ Ents es.toList l
theorem DictIs.ns {h : Heap} {a : Addr} {l} (D : DictIs h a l) : h.Ns a (fun x => l.lookup x) := by
 obtain ⟨es, n, e, r⟩ := D
 refine ⟨_, es, n, e, rfl, fun e he => r.strs e (Array.mem_toList_iff.mpr he), fun x => ?_⟩
 unfold nsFind findBy
 rw [<- Array.find?_toList]
 exact r.find
theorem DictIs.at {h h' : Heap} {a : Addr} {l} (D : DictIs h a l) (e : ∀ o, h.get? a = some o -> h'.get? a = some o) : DictIs h' a l :=
 let ⟨es, n, x, r⟩ := D; ⟨es, n, e _ x, r⟩
theorem DictIs.lt {h : Heap} {a : Addr} {l} (D : DictIs h a l) : a < h.objs.size := let ⟨_, _, x, _⟩ := D; Heap.lt_size x
theorem DictIs.new (h : Heap) : DictIs (h.push { cls := .type "dict", data := .dict #[] }) h.objs.size [] := ⟨#[], 0, Heap.get?_push_size _ rfl, .nil⟩
section
variable {M : Model} {A : Around} {E : Value -> Shared -> Prop} {s : Shared}
theorem wpT {α : Type} {b : Bool} {x y : Sem α} {Q : α -> Shared -> Prop} (h : b = true) (k : wpAny M A x Q E s) : wpAny M A (if b = true then x else y) Q E s := by rw [if_pos h]; exact k
theorem wpF {α : Type} {b : Bool} {x y : Sem α} {Q : α -> Shared -> Prop} (h : b = false) (k : wpAny M A y Q E s) : wpAny M A (if b = true then x else y) Q E s := by rw [h, if_neg Bool.false_ne_true]; exact k
theorem wpI {α : Type} {c : Prop} [Decidable c] {x y : Sem α} {Q : α -> Shared -> Prop} (h : c) (k : wpAny M A x Q E s) : wpAny M A (if c then x else y) Q E s := by rw [if_pos h]; exact k
theorem wpN {α : Type} {c : Prop} [Decidable c] {x y : Sem α} {Q : α -> Shared -> Prop} (h : ¬ c) (k : wpAny M A y Q E s) : wpAny M A (if c then x else y) Q E s := by rw [if_neg h]; exact k
theorem wpEq {α : Type} {x y : Sem α} {Q : α -> Shared -> Prop} (h : x = y) (k : wpAny M A y Q E s) : wpAny M A x Q E s := h ▸ k
theorem wpB {α β : Type} {a : α} {f : α -> Sem β} {Q : β -> Shared -> Prop} (h : wpAny M A (f a) Q E s) : wpAny M A (pure a >>= f) Q E s := wpAny_bind (wpAny_pure h)
theorem wpMT {β : Type} {x : Str} {f : Value -> Sem β} {Q : β -> Shared -> Prop} (h : wpAny M A (f (.str x s.toks)) Q E { s with toks := s.toks + 1 }) : wpAny M A (mkText x >>= f) Q E s := wpAny_bind (wpAny_mkText h)
theorem lookup_none_of {x : Str} : ∀ {l : List (Str × Value)}, x ∉ l.map (·.1) -> l.lookup x = none
 | [], _ => rfl
 | (y, v) :: l, h => by
  simp only [List.map_cons, List.mem_cons, not_or] at h
  rw [List.lookup_cons]
  have : (x == y) = false := by simpa using h.1
  rw [this]; exact lookup_none_of h.2
theorem nsSet_new {a : Addr} {l : List (Str × Value)} {x : Str} {v : Value} {Q : Unit -> Shared -> Prop} (D : DictIs s.heap a l) (hn : x ∉ l.map (·.1))
  (h : ∀ h', DictIs h' a (l ++ [(x, v)]) -> Heap.SameBut a s.heap h' -> Q () { s with heap := h', toks := s.toks + 1 }) : wpAny M A (nsSet a x v) Q E s := by
 obtain ⟨es, n, ho, r⟩ := D
 unfold nsSet strHash
 refine wpAny_bind (wpAny_bind (wpAny_askSetting (wpAny_pure (wpAny_bind (wpAny_mkText (wpAny_bind (wpAny_loadPart ho ?_)))))))
 dsimp only
 have hany : es.any (·.refKey) = false := by
  rw [Array.any_eq_false']; intro e he; obtain ⟨n, t, h⟩ := r.strs e (Array.mem_toList_iff.mpr he); simp [DictEntry.refKey, h]
 have hf : es.find? (fun e => e.key.isStr x) = none := by
  have := r.find (x := x)
  rw [lookup_none_of hn] at this
  rw [<- Array.find?_toList]
  exact Option.map_eq_none_iff.mp this
 have hi : es.findIdx? (fun e => e.key.isStr x) = none := by
  rw [Array.findIdx?_eq_none_iff]
  intro e he
  have := Array.find?_eq_none.mp hf e he
  simpa using this
 refine wpN (by rw [aRefKeyMayBeTheName_eq]; unfold aRefKeyMayBeTheNameByArray; rw [hany]; simp) ?_
 refine wpAny_updatePart ho (h _ ?_ (Heap.SameBut.update ..))
 refine ⟨es.push ⟨(if x.cps.isEmpty = true then 0 else reduceHash (M.w.params.strHash x.cps)), .str x s.toks, v⟩, n + 1, ?_, ?_⟩
 ·rw [Heap.get?_update_self _ ho (by simp only [Obj.putName_eq, Obj.putNameByArray, hi]; rfl)]
  simp only [Obj.putName_eq, Obj.putNameByArray, hi]
 ·rw [Array.toList_push]
  exact r.snoc
theorem nsGet_dict {a : Addr} {l : List (Str × Value)} {x : Str} {Q : Option Value -> Shared -> Prop} (D : DictIs s.heap a l) (h : Q (l.lookup x) s) : wpAny M A (nsGet a x) Q E s :=
 wpAny_nsGet D.ns h
end
theorem none_some {α : Type} {a : α} {P : Prop} (h : (none : Option α) = some a) : P := nomatch h
theorem if_some {α : Type} {b : Bool} {x y : Option α} {a : α} (hy : y = none) (h : (if b = true then x else y) = some a) : b = true /\ x = some a := by
 cases b with
 | true => exact ⟨rfl, h⟩
 | false => exact none_some (hy.symm.trans h)
theorem and_t {a b : Bool} (h : (a && b) = true) : a = true /\ b = true := by cases a <;> cases b <;> first | exact ⟨rfl, rfl⟩ | cases h
theorem not_t {a : Bool} (h : (!a) = true) : a = false := by cases a; rfl; cases h
theorem some_eq {α : Type} {a b : α} (h : some a = some b) : a = b := by cases h; rfl
theorem nil_of {α : Type} {l : List α} (h : l.isEmpty = true) : l = [] := by cases l; rfl; cases h
theorem none_of {α : Type} {o : Option α} (h : o.isNone = true) : o = none := by cases o; rfl; cases h
noncomputable def plainArgs (a : Arguments) : Bool := a.posonlyargs.isEmpty && a.vararg.isNone && a.kwonlyargs.isEmpty && a.kw_defaults.isEmpty && a.kwarg.isNone
theorem plainArgs_spec {a : Arguments} (h : plainArgs a = true) : a = ⟨[], a.args, none, [], [], none, a.defaults⟩ := by
 obtain ⟨h, h5⟩ := and_t h
 obtain ⟨h, h4⟩ := and_t h
 obtain ⟨h, h3⟩ := and_t h
 obtain ⟨h1, h2⟩ := and_t h
 have e1 := nil_of h1
 have e2 := none_of h2
 have e3 := nil_of h3
 have e4 := nil_of h4
 have e5 := none_of h5
 clear h1 h2 h3 h4 h5 h
 cases a with
 | mk p as va ko kd kw ds =>
  obtain rfl : p = [] := e1
  obtain rfl : va = none := e2
  obtain rfl : ko = [] := e3
  obtain rfl : kd = [] := e4
  obtain rfl : kw = none := e5
  rfl
noncomputable def okArgs (a : Arguments) : Bool := plainArgs a && (a.args.all (fun x => x.annotation.isNone) && a.defaults.all Expr.isPlainConst)
noncomputable def okDef (a : Arguments) (scope : Scope) (body : List Stmt) : Bool :=
 okArgs a && (scope.names.all fun x => x.2 != .free) && (docOf body).isNone
theorem annotationsOf_none (e : Env) : ∀ as : List Arg, (as.all fun x => x.annotation.isNone) = true -> annotationsOf as e = []
 | [], _ => rfl
 | ⟨n, o, p⟩ :: r, h => by
  obtain ⟨h1, h2⟩ := and_t h
  have ih := annotationsOf_none e r h2
  obtain rfl : o = none := none_of h1
  exact ih
theorem annTrees_none {a : Arguments} (h : okArgs a = true) (e : Env) : annTrees a none e = [] := by
 obtain ⟨h1, h2⟩ := and_t h
 have h3 := annotationsOf_none e a.args (and_t h2).1
 rw [plainArgs_spec h1]
 show annotationsOf (a.args ++ [] ++ [] ++ [] ++ []) e ++ [] = []
 rw [List.append_nil, List.append_nil, List.append_nil, List.append_nil, List.append_nil]
 exact h3
theorem okArgs_kw {a : Arguments} (h : okArgs a = true) : a.kwonlyargs = [] /\ a.kw_defaults = [] /\ ∀ e ∈ a.defaults, e.isPlainConst = true := by
 obtain ⟨h1, h2⟩ := and_t h
 have e := plainArgs_spec h1
 exact ⟨congrArg (·.kwonlyargs) e, congrArg (·.kw_defaults) e, List.all_eq_true.mp (and_t h2).2⟩
inductive IsC (h : Heap) (c P : Addr) (ps : Array Value) : Prop
 | mk (o : Obj) (vs : Array Value) (file : Str) (tf : Tok) (flags : Int) (tg : Tok) (inF : Bool) (text : Int) (tt : Tok) (op : Obj) (x : h.get? c = some o) (r1 : o.data = .fields vs) (r2 : vs.getD 11 .none = .ref P) (r3 : vs.getD 18 .none = .str file tf)
  (r4 : vs.getD 7 .none = .int flags tg) (r5 : vs.getD 9 .none = .bool inF) (r6 : vs.getD 10 .none = .int text tt) (y : h.get? P = some op) (r7 : op.data = .fields ps) (r8 : TriplesOk ps.toList) (r9 : c ≠ P) : IsC h c P ps
theorem toC {h : Heap} {c P : Addr} {ps : Array Value} (x : h.IsCode c P ps) : IsC h c P ps := by
 obtain ⟨o, vs, file, tf, flags, tg, inF, text, tt, op, a, r1, r2, r3, r4, r5, r6, b, r7, r8, r9⟩ := x
 exact ⟨o, vs, file, tf, flags, tg, inF, text, tt, op, a, r1, r2, r3, r4, r5, r6, b, r7, r8, r9⟩
theorem ofC {h : Heap} {c P : Addr} {ps : Array Value} (x : IsC h c P ps) : h.IsCode c P ps :=
 let ⟨o, vs, file, tf, flags, tg, inF, text, tt, op, a, r1, r2, r3, r4, r5, r6, b, r7, r8, r9⟩ := x
 ⟨o, vs, file, tf, flags, tg, inF, text, tt, op, a, r1, r2, r3, r4, r5, r6, b, r7, r8, r9⟩
theorem codeKeep {h h' : Heap} {c P : Addr} {ps : Array Value} (x : h.IsCode c P ps) (k1 : ∀ o, h.get? c = some o -> h'.get? c = some o) (k2 : ∀ o, h.get? P = some o -> h'.get? P = some o) : h'.IsCode c P ps := by
 obtain ⟨o, vs, file, tf, flags, tg, inF, text, tt, op, a, r1, r2, r3, r4, r5, r6, b, r7, r8, r9⟩ := toC x
 exact ofC ⟨o, vs, file, tf, flags, tg, inF, text, tt, op, k1 _ a, r1, r2, r3, r4, r5, r6, k2 _ b, r7, r8, r9⟩
theorem tabKeep {h h' : Heap} {c P : Addr} {ps : Array Value} (x : h.TableAt c P ps) (k1 : ∀ o, h.get? c = some o -> h'.get? c = some o) (k2 : ∀ o, h.get? P = some o -> h'.get? P = some o) : h'.TableAt c P ps :=
 ⟨x.1.elim fun o h => h.elim fun vs h => ⟨o, vs, k1 _ h.1, h.2⟩, k2 _ x.2⟩
theorem recKeep {h h' : Heap} {c : Addr} {q : Str} (x : h.CodeRec (.ref c) q) (k1 : ∀ o, h.get? c = some o -> h'.get? c = some o) : h'.CodeRec (.ref c) q := by
 obtain ⟨c, o, vs, t, e, g, r⟩ := x
 cases e
 exact ⟨_, o, vs, t, rfl, k1 _ g, r⟩
inductive TabAt (n₀ : Nat) (h : Heap) (c' : Addr) : Prop
 | mk (P' : Addr) (le : n₀ <= P') (i : h.IsCode c' P' #[]) (t : h.TableAt c' P' #[]) : TabAt n₀ h c'
inductive DflAt (n₀ : Nat) (h : Heap) (dv : List Value) (dV : Value) : Prop
 | none (e1 : dv = []) (e2 : dV = .none) : DflAt n₀ h dv dV
 | some (T : Addr) (ne : dv ≠ []) (e : dV = .ref T) (le : n₀ <= T) (g : h.get? T = some { cls := .type "tuple", data := .seq dv.toArray }) : DflAt n₀ h dv dV
structure FnAt (n₀ : Nat) (h : Heap) (a : Addr) (name qual : Str) (params : Arguments) (body : List Stmt) (scope : Scope) (pm : Value) (dv : List Value) (dV : Value) (c' : Addr) : Prop where
 lo : n₀ <= a
 loc : n₀ <= c'
 fn : h.get? a = some { cls := .type "function", data := .func (defFd name qual params body scope mainGlobals dV .none none pm (.ref c') .none) }
 cr : h.CodeRec (.ref c') qual
 tab : TabAt n₀ h c'
 dvs : ConstVals params.defaults dv
 dfl : DflAt n₀ h dv dV
theorem FnAt.keep {n₀ : Nat} {h h' : Heap} {a name qual params body scope pm dv dV c'} (F : FnAt n₀ h a name qual params body scope pm dv dV c')
  (k : ∀ b o, n₀ <= b -> h.get? b = some o -> h'.get? b = some o) : FnAt n₀ h' a name qual params body scope pm dv dV c' := by
 refine ⟨F.lo, F.loc, k _ _ F.lo F.fn, recKeep F.cr fun o => k _ o F.loc, ?_, F.dvs, ?_⟩
 ·obtain ⟨P', hP, hi, ht⟩ := F.tab
  exact ⟨P', hP, codeKeep hi (fun o => k _ o F.loc) (fun o => k _ o hP), tabKeep ht (fun o => k _ o F.loc) (fun o => k _ o hP)⟩
 ·rcases F.dfl with ⟨x, y⟩ | ⟨T, x, e, hT, g⟩
  ·exact .none x y
  ·exact .some T x e hT (k _ _ hT g)
theorem FnAt.weaken {n₀ n₁ : Nat} {h : Heap} {a name qual params body scope pm dv dV c'} (F : FnAt n₁ h a name qual params body scope pm dv dV c') (le : n₀ <= n₁) : FnAt n₀ h a name qual params body scope pm dv dV c' := by
 refine ⟨Nat.le_trans le F.lo, Nat.le_trans le F.loc, F.fn, F.cr, ?_, F.dvs, ?_⟩
 ·obtain ⟨P', hP, r1, r2⟩ := F.tab
  exact ⟨P', Nat.le_trans le hP, r1, r2⟩
 ·rcases F.dfl with ⟨x, y⟩ | ⟨T, x, e, hT, g⟩
  ·exact .none x y
  ·exact .some T x e (Nat.le_trans le hT) g
section
variable {M : Model} {A : Around} {E : Value -> Shared -> Prop} {s : Shared}
noncomputable def kOf : Option (List Str × List Str) -> Nat
 | some _ => 5
 | none => 3
noncomputable def bodyK (body : List Stmt) : Nat := match mayInlineStmts body with
 | true => 3
 | false => 5
theorem localNames_k (p : Arguments) (scope : Scope) (body : List Stmt) : kOf (localNames p scope (.stmts body)) = bodyK body := by
 unfold localNames bodyK
 cases h : mayInlineStmts body <;> simp [h, kOf]
theorem newCodeE {ctx : CodeContext} {name qualname : Str} {firstLine argc posonly kwonly flags : Nat} {free : List Str} {isFunction : Bool}
  {parse : Option Nat} {l : Option (List Str × List Str)} {fd : FuncData} {Q : Value -> Shared -> Prop}
  (hQ : ∀ c P h' tk, c = s.heap.objs.size + kOf l -> (∀ b o, s.heap.get? b = some o -> h'.get? b = some o) -> h'.objs.size = s.heap.objs.size + (kOf l + 1) -> s.heap.objs.size <= P -> h'.IsCode c P #[] -> h'.TableAt c P #[] ->
   h'.CodeRec (.ref c) qualname -> Q (.ref c) { s with heap := h', toks := tk }) :
  wpAny M A (newCode ctx name qualname firstLine argc posonly kwonly flags free isFunction parse l (some fd)) Q E s := by
 unfold newCode
 refine wpAny_bind (wpAny_mkText (wpAny_bind (wpAny_mkText (wpAny_bind (wpAny_mkText (wpAny_bind (wpAny_mkStrs fun fs =>
  wpAny_bind (wpAny_newObjAsIs_type (wpAny_bind (wpAny_alloc ?_))))))))))
 generalize hH : (s.heap.push { cls := .type "tuple", dict := none, data := .seq fs.toArray }) = H
 have hz : H.objs.size = s.heap.objs.size + 1 := by rw [<- hH, Heap.size_push]
 have hk : ∀ b o, s.heap.get? b = some o -> H.get? b = some o := fun b o e => hH ▸ Heap.get?_push_of_some _ e
 have hPl : (H.push { cls := .none, data := .fields #[] }).get? H.objs.size = some { cls := .none, data := .fields #[] } := Heap.get?_push_size _ rfl
 cases l with
 | some l =>
  refine wpAny_bind (wpAny_mkStrs fun a => wpAny_bind (wpAny_newObjAsIs_type (wpAny_bind (wpAny_mkStrs fun b => wpAny_bind (wpAny_newObjAsIs_type
   (wpAny_bind (wpAny_bind (wpAny_alloc (wpAny_pure (wpAny_bind (wpAny_fresh (wpAny_bind (wpAny_mkText (wpAny_newObj_type ?_ (by size_fits)))))))))))))))
  refine hQ _ H.objs.size _ _ (by simp only [Heap.size_push, hz]; rfl) (fun b o e => Heap.get?_push_of_some _ (Heap.get?_push_of_some _ (Heap.get?_push_of_some _ (Heap.get?_push_of_some _ (Heap.get?_push_of_some _ (hk b o e))))))
   (by simp only [Heap.size_push, hz]; rfl) (by rw [hz]; lia)
   (ofC ⟨_, _, _, _, _, _, _, _, _, _, Heap.get?_push_size _ rfl, rfl, rfl, rfl, rfl, rfl, rfl,
    Heap.get?_push_of_some _ (Heap.get?_push_of_some _ (Heap.get?_push_of_some _ (Heap.get?_push_of_some _ hPl))), rfl, trivial, by simp only [Heap.size_push]; exact Nat.ne_of_gt (by lia)⟩)
   ⟨⟨_, _, Heap.get?_push_size _ rfl, rfl, rfl, rfl⟩, Heap.get?_push_of_some _ (Heap.get?_push_of_some _ (Heap.get?_push_of_some _ (Heap.get?_push_of_some _ hPl)))⟩
   ⟨_, _, _, _, rfl, Heap.get?_push_size _ rfl, rfl, rfl⟩
 | none =>
  refine wpAny_bind (wpAny_pure (wpAny_bind (wpAny_pure
   (wpAny_bind (wpAny_bind (wpAny_alloc (wpAny_pure (wpAny_bind (wpAny_fresh (wpAny_bind (wpAny_mkText (wpAny_newObj_type ?_ (by size_fits)))))))))))))
  refine hQ _ H.objs.size _ _ (by simp only [Heap.size_push, hz]; rfl) (fun b o e => Heap.get?_push_of_some _ (Heap.get?_push_of_some _ (Heap.get?_push_of_some _ (hk b o e))))
   (by simp only [Heap.size_push, hz]; rfl) (by rw [hz]; lia)
   (ofC ⟨_, _, _, _, _, _, _, _, _, _, Heap.get?_push_size _ rfl, rfl, rfl, rfl, rfl, rfl, rfl,
    Heap.get?_push_of_some _ (Heap.get?_push_of_some _ hPl), rfl, trivial, by simp only [Heap.size_push]; exact Nat.ne_of_gt (by lia)⟩)
   ⟨⟨_, _, Heap.get?_push_size _ rfl, rfl, rfl, rfl⟩, Heap.get?_push_of_some _ (Heap.get?_push_of_some _ hPl)⟩
   ⟨_, _, _, _, rfl, Heap.get?_push_size _ rfl, rfl, rfl⟩
theorem codeAtE {env : Env} {c P : Addr} {ps : Array Value} {pos : Pos} {mk : CodeContext -> Sem Value} {Q : Value -> Shared -> Prop} {X : Addr -> Heap -> Prop} (hc : env.code = .ref c) (hok : s.heap.IsCode c P ps) (hnf : codeAmong pos ps.toList = none)
  (hm : ∀ (ctx : CodeContext) (Q' : Value -> Shared -> Prop), (∀ c' h' tk, s.heap.objs.size <= c' -> (∀ b o, s.heap.get? b = some o -> h'.get? b = some o) -> X c' h' -> Q' (.ref c') { s with heap := h', toks := tk }) -> wpAny M A (mk ctx) Q' E s)
  (hQ : ∀ c' h' h'' tk, s.heap.objs.size <= c' -> P < s.heap.objs.size -> X c' h' -> Heap.SameBut P h' h'' -> Heap.ExtBut P s.heap h'' -> h''.IsCode c P (ps ++ #[rawInt pos.line, rawInt pos.col, .ref c']) -> Q (.ref c') { s with heap := h'', toks := tk }) :
  wpAny M A (codeAt env pos mk) Q E s := by
 obtain ⟨o, vs, file, tf, flags, tg, inF, text, tt, op, ho, hd, h11, h2, h7, h9, h10, hop, hpd, htr, hne⟩ := toC hok
 unfold codeAt
 refine wpF (by rw [hc]; rfl) ?_
 rw [hc]
 refine wpAny_bind (wpAny_fieldsOf ho hd ?_)
 rw [h11]
 refine wpAny_bind (wpAny_fieldsOf hop hpd ?_)
 rw [hnf, h2, h7, h9, h10]
 refine wpAny_bind (hm _ _ fun c' h' tk hc' hk x => ?_)
 have hop' := hk _ _ hop
 refine wpAny_bind (wpAny_updateFieldsOfTheText hop' hpd ?_)
 have hnew : (Obj.mapFields (fun vs => if (codeAmong pos vs.toList).isSome = true then vs else vs ++ #[rawInt pos.line, rawInt pos.col, .ref c']) op).data =
   .fields (ps ++ #[rawInt pos.line, rawInt pos.col, .ref c']) := by
  rw [Obj.data_mapFields hpd, hnf]; rfl
 have hget := Heap.get?_update_self (h := h') (fun o => Obj.mapFields (fun vs => if (codeAmong pos vs.toList).isSome = true then vs else
  vs ++ #[rawInt pos.line, rawInt pos.col, .ref c']) o) hop' (Obj.isFreed_of_fields hnew)
 refine wpAny_bind (wpAny_fieldsOf hget hnew ?_)
 have hl : (ps ++ #[rawInt pos.line, rawInt pos.col, Value.ref c']).toList = ps.toList ++ [rawInt pos.line, rawInt pos.col, .ref c'] := by simp
 rw [hl, codeAmong_snoc _ htr hnf]
 have sb : ∀ f, Heap.SameBut P h' (h'.update P f) := fun f => Heap.SameBut.update ..
 refine wpAny_pure (hQ c' h' _ _ hc' (Heap.lt_size hop) x (sb _) (fun b o' hb e => ((sb _).extBut b o' hb (hk b o' e))) (ofC ⟨o, vs, file, tf, flags, tg, inF, text, tt, _, (sb _).extBut _ _ hne (hk _ _ ho), hd, h11, h2, h7, h9, h10, hget, hnew, ?_, hne⟩))
 rw [hl]; exact TriplesOk_snoc _ _ _ _ htr
theorem SameBut.ne {P : Addr} {h h' : Heap} (sb : Heap.SameBut P h h') {c : Addr} (hc : c ≠ P) : ∀ o, h.get? c = some o -> h'.get? c = some o := fun o e => (sb.2 c hc).trans e
structure FnCd (n k : Nat) (q : Str) (c' : Addr) (h' : Heap) : Prop where
 c : c' = n + k
 z : h'.objs.size = n + (k + 1)
 t : TabAt n h' c'
 r : h'.CodeRec (.ref c') q
theorem functionCodeE {env : Env} {c P : Addr} {ps : Array Value} {pos : Pos} {firstLine : Nat} {name qualname : Str} {p : Arguments} {scope : Scope} {body : List Stmt}
  {Q : Value -> Shared -> Prop} (hc : env.code = .ref c) (hok : s.heap.IsCode c P ps) (hnf : codeAmong pos ps.toList = none)
  (hQ : ∀ h' tk, Heap.ExtBut P s.heap h' -> h'.objs.size = s.heap.objs.size + (bodyK body + 1) -> h'.IsCode c P (ps ++ #[rawInt pos.line, rawInt pos.col, .ref (s.heap.objs.size + bodyK body)]) -> h'.CodeRec (.ref (s.heap.objs.size + bodyK body)) qualname ->
   TabAt s.heap.objs.size h' (s.heap.objs.size + bodyK body) ->
   Q (.ref (s.heap.objs.size + bodyK body)) { s with heap := h', toks := tk }) :
  wpAny M A (functionCode env pos firstLine name qualname p scope (.stmts body)) Q E s := by
 unfold functionCode
 refine codeAtE (X := FnCd s.heap.objs.size (bodyK body) qualname) hc hok hnf (fun ctx Q' h => newCodeE fun c' P' h' tk ec hk hz hP' hcode' htab' hrec' => ?_) fun c' h' h'' tk hc' hP x sb ex ok => ?_
 ·rw [localNames_k] at ec hz
  exact h c' h' tk (by rw [ec]; exact Nat.le_add_right ..) hk ⟨ec, hz, ⟨P', hP', hcode', htab'⟩, hrec'⟩
 ·obtain ⟨ec, hz, ⟨P', hP', hi, ht⟩, hr⟩ := x
  have n1 := SameBut.ne sb (Nat.ne_of_gt (Nat.lt_of_lt_of_le hP hc'))
  have n2 := SameBut.ne sb (Nat.ne_of_gt (Nat.lt_of_lt_of_le hP hP'))
  subst ec
  exact hQ h'' tk ex (sb.1.trans hz) ok (recKeep hr n1) ⟨P', hP', codeKeep hi n1 n2, tabKeep ht n1 n2⟩
theorem BuiltinsAt.ext {h h' : Heap} {mg} {Pl : Addr} (b : h.BuiltinsAt mg Pl) (k : ∀ b o, b ≠ Pl -> h.get? b = some o -> h'.get? b = some o) : h'.BuiltinsAt mg Pl :=
 b.elim fun bm b => b.elim fun o b => ⟨bm, o, b.1, b.2.1, b.2.2.1, b.2.2.2.1, k _ _ b.2.2.2.1 b.2.2.2.2.1, b.2.2.2.2.2⟩
theorem wpAny_bf {mg} {Pl g running : Addr} {Q : Addr -> Shared -> Prop} (hg : s.heap.Ns g mg) (b : s.heap.BuiltinsAt mg Pl) (h : Q builtinsNs s) : wpAny M A (builtinsFor g running) Q E s :=
 b.elim fun bm b => b.elim fun o b => wpAny_builtinsFor hg b.1 b.2.1 b.2.2.2.2.1 b.2.2.2.2.2.1 b.2.2.2.2.2.2.1 b.2.2.2.2.2.2.2 h
theorem makeFunctionE {name qualname : Str} {params : Arguments} {body : List Stmt} {scope : Scope} {env : Env} {mg} {c Pl : Addr} {ps : Array Value} {pos : Pos} {firstLine : Nat} {dv : List Value} {Q : Value -> Shared -> Prop}
  (hkw : params.kwonlyargs = []) (hfree : ∀ x ∈ scope.names, x.2 ≠ .free) (hgl : env.globals = mainGlobals) (hdvs : ConstVals params.defaults dv)
  (hdoc : docOf body = none) (hg : s.heap.Ns mainGlobals mg) (hcode : env.code = .ref c) (hok : s.heap.IsCode c Pl ps) (hnf : codeAmong pos ps.toList = none) (hgP : mainGlobals ≠ Pl)
  (hb : s.heap.BuiltinsAt mg Pl)
  (h : ∀ c' h' tk dV, Heap.ExtBut Pl s.heap h' -> h'.objs.size = s.heap.objs.size + (bodyK body + 2 + min 1 dv.length) -> FnAt s.heap.objs.size h' (s.heap.objs.size + (bodyK body + 1 + min 1 dv.length)) name qualname params body scope ((mg "__name__").getD .none) dv dV c' ->
   h'.IsCode c Pl (ps ++ #[rawInt pos.line, rawInt pos.col, .ref c']) ->
   Q (.ref (s.heap.objs.size + (bodyK body + 1 + min 1 dv.length))) { s with heap := h', toks := tk }) :
  wpAny M A (makeFunction name qualname params (.stmts body) scope env dv [] [] pos firstLine) Q E s := by
 rw [makeFunction_eq, hkw]
 simp only [List.zip_nil_left, List.filterMap_nil, List.isEmpty_nil, if_true, pure_bind]
 have hc : closureFor scope env = pure [] := closureFor_none hfree
 have tail : ∀ (dV : Value) (h₀ : Heap), (∀ b o, s.heap.get? b = some o -> h₀.get? b = some o) -> h₀.objs.size = s.heap.objs.size + min 1 dv.length ->
   ((dv = [] /\ dV = .none) \/ (dv ≠ [] /\ ∃ T, dV = .ref T /\ s.heap.objs.size <= T /\ T < h₀.objs.size /\ h₀.get? T = some { cls := .type "tuple", data := .seq dv.toArray })) ->
   wpAny M A (makeTail name qualname params (.stmts body) scope env dV .none none pos firstLine) Q E { s with heap := h₀ } := by
  intro dV h₀ k₀ z₀ hd
  simp only [makeTail, List.isEmpty_nil, if_true, pure_bind, hc, hdoc]
  refine wpAny_bind (functionCodeE (s := { s with heap := h₀ }) hcode (hok.keeps k₀) hnf fun h' tk hx hz hok' hrec htb => ?_)
  dsimp only at hx hz hok' hrec htb ⊢
  have hg' := (hg.keeps k₀).extBut hx hgP
  refine wpAny_bind (wpAny_bf (hgl ▸ hg') (BuiltinsAt.ext (hb.keeps k₀) hx) ?_)
  refine wpAny_bind (wpAny_nsGet (hgl ▸ hg') ?_)
  refine wpAny_newObj_type ?_ (by size_fits)
  have e1 : h'.objs.size = s.heap.objs.size + (bodyK body + 1 + min 1 dv.length) := by rw [hz, z₀]; lia
  rw [hgl]
  have ex : Heap.ExtBut Pl s.heap h' := fun b o hb e => hx b o hb (k₀ b o e)
  have hPl : Pl < s.heap.objs.size := hok.lt.2
  have key := h (h₀.objs.size + bodyK body) (h'.push { cls := .type "function", data := .func (defFd name qualname params body scope mainGlobals dV .none none ((mg "__name__").getD .none) (.ref (h₀.objs.size + bodyK body)) .none) }) tk dV
   (ex.push _) (by rw [Heap.size_push, e1]; lia) ?_ (hok'.push _)
  ·rw [<- e1] at key; exact key
  ·refine ⟨Nat.le_add_right .., by rw [z₀]; lia, ?_, hrec.push _, ?_, hdvs, ?_⟩
   ·rw [<- e1]; exact Heap.get?_push_size _ rfl
   ·obtain ⟨P', hP, a, b⟩ := htb
    exact ⟨P', by rw [z₀] at hP; lia, a.push _, b.push _⟩
   ·rcases hd with ⟨x, y⟩ | ⟨x, T, e, hT, hT2, g⟩
    ·exact .none x y
    ·exact .some T x e hT (Heap.get?_push_of_some _ (hx _ _ (Nat.ne_of_gt (Nat.lt_of_lt_of_le hPl hT)) g))
 cases dv with
 | nil =>
  have := tail .none s.heap (fun _ _ e => e) rfl (.inl ⟨rfl, rfl⟩)
  simp only [List.isEmpty_nil, if_true, pure_bind]
  exact this
 | cons d ds =>
  refine wpAny_bind (wpAny_newTextTuple ?_)
  refine tail (.ref s.heap.objs.size) _ (fun b o e => Heap.get?_push_of_some _ e) (by rw [Heap.size_push, List.length_cons]; lia) (.inr ⟨List.cons_ne_nil _ _, _, rfl, Nat.le_refl _, by rw [Heap.size_push]; exact Nat.lt_succ_self _, Heap.get?_push_size _ rfl⟩)
theorem ConstVals.len : ∀ {es : List Expr} {vs : List Value}, ConstVals es vs -> es.length = vs.length := by
 intro es
 induction es with
 | nil => intro vs h; cases vs with
  | nil => rfl
  | cons _ _ => exact h.elim
 | cons e es ih => intro vs h; cases vs with
  | nil => exact h.elim
  | cons _ _ => exact congrArg Nat.succ (ih h.2)
noncomputable def defSize (a : Arguments) (body : List Stmt) : Nat := bodyK body + 2 + min 1 a.defaults.length
theorem def_make {env : Env} {name : Str} {args : Arguments} {body : List Stmt} {scope : Scope} {pos : Pos} {c Pl : Addr} {ps : Array Value} {mg} {Q : Flow -> Shared -> Prop}
  (ok : okDef args scope body = true) (hgl : env.globals = mainGlobals) (hcode : env.code = .ref c) (hok : s.heap.IsCode c Pl ps) (hnf : codeAmong pos ps.toList = none) (hgP : mainGlobals ≠ Pl)
  (hg : s.heap.Ns mainGlobals mg) (hb : s.heap.BuiltinsAt mg Pl)
  (h : ∀ c' dv dV h' tk, Heap.ExtBut Pl s.heap h' -> h'.objs.size = s.heap.objs.size + defSize args body -> FnAt s.heap.objs.size h' (s.heap.objs.size + (defSize args body - 1)) name (qualnameIn env name name) args body scope ((mg "__name__").getD .none) dv dV c' ->
   h'.IsCode c Pl (ps ++ #[rawInt pos.line, rawInt pos.col, .ref c']) -> wpAny M A (bindName env name (.ref (s.heap.objs.size + (defSize args body - 1)))) (fun _ => Q .next) E { s with heap := h', toks := tk }) :
  wpAny M A (exec (.FunctionDef name args body [] none [] scope none name pos) env) Q E s := by
 simp only [okDef, Bool.and_eq_true, List.all_eq_true, Option.isNone_iff_eq_none] at ok
 obtain ⟨⟨ok1, ok2⟩, ok3⟩ := ok
 obtain ⟨k1, k2, k3⟩ := okArgs_kw ok1
 have hfree : ∀ x ∈ scope.names, x.2 ≠ .free := fun x hx => by simpa using ok2 x hx
 rw [exec_def, defaultsOf_eq, k2, annTrees_none ok1]
 refine wpAny_bind (wpAny_standAt (wpAny_bind (wpAny_holding ?_)))
 refine wpAny_bind (wpAny_evalAll_consts _ _ _ k3 fun dv tk₁ hdv => ?_)
 refine wpAny_bind (wpAny_holding (wpAny_pure ?_))
 refine wpAny_holding (wpAny_bind (wpAny_pure ?_))
 have hlen := ConstVals.len hdv
 refine makeFunctionE (s := { s with toks := tk₁ }) k1 hfree hgl hdv ok3 hg hcode hok hnf hgP hb fun c' h' tk dV hx hz F hok' => wpAny_bind (wpAny_standAt (wpAny_bind ?_))
 dsimp only at hz F ⊢
 rw [<- hlen] at hz F ⊢
 have e : bodyK body + 1 + min 1 args.defaults.length = defSize args body - 1 := by unfold defSize; lia
 rw [e] at F ⊢
 exact wpAny_mono (h c' dv dV h' tk hx hz F hok') (fun _ _ z => wpAny_pure z) fun _ _ z => z
end
noncomputable def natsEq : List Nat -> List Nat -> Bool
 | [], [] => true
 | a :: as, b :: bs => Nat.beq a b && natsEq as bs
 | _, _ => false
theorem ff {P : Prop} (h : false = true) : P := nomatch h
theorem natsEq_of : ∀ {a b : List Nat}, natsEq a b = true -> a = b
 | [], [], _ => rfl
 | [], _ :: _, h => ff h
 | _ :: _, [], h => ff h
 | a :: as, b :: bs, h => by
  obtain ⟨h1, h2⟩ := and_t (show (Nat.beq a b && natsEq as bs) = true from h)
  rw [Nat.eq_of_beq_eq_true h1, natsEq_of h2]
theorem natsEq_self : ∀ a : List Nat, natsEq a a = true
 | [] => rfl
 | a :: as => by
  show (Nat.beq a a && natsEq as as) = true
  rw [Nat.beq_refl, natsEq_self as]; rfl
theorem natsEq_iff {a b : List Nat} : natsEq a b = true ↔ a = b := ⟨natsEq_of, fun h => h ▸ natsEq_self a⟩
noncomputable def sEq (a b : Str) : Bool := natsEq a.cps.toList b.cps.toList
theorem sEq_iff {a b : Str} : sEq a b = true ↔ a = b := by
 unfold sEq
 rw [natsEq_iff]
 constructor
 ·intro h; cases a; cases b; exact congrArg Str.mk (Array.ext' h)
 ·intro h; rw [h]
theorem sEq_beq (a b : Str) : sEq a b = (a == b) := by
 cases h : sEq a b with
 | true => rw [sEq_iff.mp h]; simp
 | false =>
  have : ¬ a = b := fun e => by rw [sEq_iff.mpr e] at h; cases h
  simp [this]
noncomputable def sMem (x : Str) : List Str -> Bool
 | [] => false
 | y :: r => sEq x y || sMem x r
theorem sMem_iff {x : Str} : ∀ {l : List Str}, sMem x l = true ↔ x ∈ l
 | [] => ⟨fun h => ff h, fun h => nomatch h⟩
 | y :: r => by
  show (sEq x y || sMem x r) = true ↔ x ∈ y :: r
  rw [Bool.or_eq_true, sEq_iff, sMem_iff, List.mem_cons]
theorem sMem_false {x : Str} {l : List Str} : sMem x l = false ↔ x ∉ l := by
 rw [<- sMem_iff]; simp
noncomputable def sLook {β : Type} (x : Str) : List (Str × β) -> Option β
 | [] => none
 | (y, v) :: r => if sEq x y then some v else sLook x r
theorem sLook_eq {β : Type} (x : Str) : ∀ l : List (Str × β), sLook x l = l.lookup x
 | [] => rfl
 | (y, v) :: r => by
  show (if sEq x y then some v else sLook x r) = _
  rw [List.lookup_cons, sEq_beq, sLook_eq x r]
  cases (x == y) <;> rfl
noncomputable def isLoc0 : Option NameKind -> Bool
 | some .local => true
 | _ => false
noncomputable def isLocal (names : List (Str × NameKind)) (x : Str) : Bool := isLoc0 (sLook x names)
theorem isLoc0_spec {o : Option NameKind} (h : isLoc0 o = true) : o = some .local := by
 cases o with
 | none => exact ff h
 | some k => cases k with
  | «local» => rfl
  | _ => exact ff h
theorem isLocal_spec {names : List (Str × NameKind)} {x : Str} (h : isLocal names x = true) : names.lookup x = some .local := sLook_eq x names ▸ isLoc0_spec h
inductive TL (L : Nat) : List Value -> Prop
 | nil : TL L []
 | cons {a b : Int} {t u : Tok} {x : Value} {r : List Value} : a < (L : Int) -> TL L r -> TL L (.int a t :: .int b u :: x :: r)
theorem TL.none {L : Nat} {p : Pos} (hp : L <= p.line) {l : List Value} (h : TL L l) : codeAmong p l = none := by
 induction h with
 | nil => rfl
 | @cons a b t u x r h _ ih =>
  show (if (a == (p.line : Int) && b == (p.col : Int)) = true then some x else codeAmong p r) = Option.none
  rw [beq_false_of_ne (Int.ne_of_lt (Int.lt_of_lt_of_le h (Int.ofNat_le.mpr hp)))]
  exact ih
theorem TL.snoc {L L' : Nat} (hL : L <= L') {a b : Int} {c : Value} (ha : a < (L' : Int)) {l : List Value} (h : TL L l) : TL L' (l ++ [rawInt a, rawInt b, c]) := by
 induction h with
 | nil => exact .cons ha .nil
 | cons h _ ih => exact .cons (Int.lt_of_lt_of_le h (Int.ofNat_le.mpr hL)) ih
structure CB (n₀ n : Nat) (h : Heap) (N c Pl : Addr) (mg : Str -> Option Value) (l : List (Str × Value)) (ps : Array Value) : Prop where
 d : DictIs h N l
 code : h.IsCode c Pl ps
 g : h.Ns mainGlobals mg
 b : h.BuiltinsAt mg Pl
 size : h.objs.size = n
 le : n₀ <= n
 lN : N < n₀
 lP : Pl < n₀
 nNP : N ≠ Pl
 nNG : mainGlobals ≠ N
 nPG : mainGlobals ≠ Pl
 nc : c ≠ N
noncomputable def Keeps2 (N Pl : Addr) (h h' : Heap) : Prop := ∀ b o, b ≠ N -> b ≠ Pl -> h.get? b = some o -> h'.get? b = some o
theorem Keeps2.refl (N Pl : Addr) (h : Heap) : Keeps2 N Pl h h := fun _ _ _ _ e => e
theorem Keeps2.trans {N Pl : Addr} {h h' h'' : Heap} (x : Keeps2 N Pl h h') (y : Keeps2 N Pl h' h'') : Keeps2 N Pl h h'' := fun b o h1 h2 e => y b o h1 h2 (x b o h1 h2 e)
theorem CB.up {n₀ n : Nat} {h h' : Heap} {N c Pl mg l ps} (B : CB n₀ n h N c Pl mg l ps) (k : Keeps2 N Pl h h') : ∀ b o, n₀ <= b -> h.get? b = some o -> h'.get? b = some o :=
 fun b o hb e => k b o (Nat.ne_of_gt (Nat.lt_of_lt_of_le B.lN hb)) (Nat.ne_of_gt (Nat.lt_of_lt_of_le B.lP hb)) e
theorem BuiltinsAt.moved {h h' : Heap} {mg} {Pl N : Addr} {l} (x : h.BuiltinsAt mg Pl) (D : DictIs h N l) (k : Keeps2 N Pl h h') : h'.BuiltinsAt mg Pl := by
 obtain ⟨bm, o, a, b, c, d, e, f, g, r⟩ := x
 refine ⟨bm, o, a, b, c, d, k _ _ ?_ d e, f, g, r⟩
 rintro rfl
 obtain ⟨es, n, q, _⟩ := D
 rw [e] at q; cases q; have f' : Value.type "dict" = Value.type "module" := f; exact absurd f' (by decide)
section
variable {M : Model} {A : Around} {E : Value -> Shared -> Prop} {s : Shared}
theorem lookup_some_of {x : Str} {l : List (Str × Value)} (h : x ∈ l.map (·.1)) : l.lookup x ≠ none := fun q => by
 obtain ⟨p, hp, e⟩ := List.mem_map.mp h
 have := List.lookup_eq_none_iff.mp q p hp
 rw [e, bne_self_eq_false] at this
 exact ff this
theorem class_store {env : Env} {x : Str} {v : Value} {l : List (Str × Value)} {Q : Unit -> Shared -> Prop} (hk : env.scope.kind = .class) (hl : env.kindOf x = some .local)
  (D : DictIs s.heap env.locals l) (hn : x ∉ l.map (·.1)) (h : ∀ h', DictIs h' env.locals (l ++ [(x, v)]) -> Heap.SameBut env.locals s.heap h' -> Q () { s with heap := h', toks := s.toks + 1 }) :
  wpAny M A (storeName env x v) Q E s := by
 have e : storeName env x v = localSet env x v := by
  unfold storeName
  rw [hl, hk]
  rfl
 refine wpEq e ?_
 unfold localSet
 have D' := D
 obtain ⟨es, n, ho, _⟩ := D'
 refine wpAny_bind (wpAny_load ho ?_)
 exact nsSet_new D hn h
theorem class_bind {env : Env} {x : Str} {v : Value} {l : List (Str × Value)} {Q : Unit -> Shared -> Prop} (hk : env.scope.kind = .class) (hl : env.kindOf x = some .local)
  (D : DictIs s.heap env.locals l) (hn : x ∉ l.map (·.1)) (h : ∀ h', DictIs h' env.locals (l ++ [(x, v)]) -> Heap.SameBut env.locals s.heap h' -> Q () { s with heap := h', toks := s.toks + 1 }) :
  wpAny M A (bindName env x v) Q E s := wpAny_bindName (class_store hk hl D hn h)
theorem class_load {env : Env} {x : Str} {v : Value} {l : List (Str × Value)} {Q : Value -> Shared -> Prop} (hk : env.scope.kind = .class) (hl : env.kindOf x = some .local)
  (D : DictIs s.heap env.locals l) (hv : l.lookup x = some v) (h : Q v s) : wpAny M A (loadName env x) Q E s := by
 obtain ⟨es, n, ho, _⟩ := id D
 unfold loadName Env.blockKind
 rw [hl, hk]
 refine wpF rfl (wpAny_bind ?_)
 unfold localGet
 refine wpAny_bind (wpAny_load ho ?_)
 refine nsGet_dict D ?_
 rw [hv]
 exact wpAny_pure h
noncomputable def nameP1 : Expr -> Option Str
 | .Name y _ => some y
 | _ => none
noncomputable def EltIs (l : List (Str × Value)) : Expr -> Value -> Prop
 | .Name y _, v => l.lookup y = some v
 | .Constant c _ _, v => c.Val v
 | _, _ => False
noncomputable def EltsAre (l : List (Str × Value)) : List Expr -> List Value -> Prop
 | [], [] => True
 | e :: es, v :: vs => EltIs l e v /\ EltsAre l es vs
 | _, _ => False
theorem EltsAre.length {l : List (Str × Value)} : ∀ {es vs}, EltsAre l es vs -> es.length = vs.length := by
 intro es
 induction es with
 | nil => intro vs h; cases vs with
  | nil => rfl
  | cons _ _ => exact h.elim
 | cons e es ih => intro vs h; cases vs with
  | nil => exact h.elim
  | cons _ _ => exact congrArg Nat.succ (ih h.2)
noncomputable def okEltN (names : List (Str × NameKind)) (bound : List Str) (e : Expr) : Option Str -> Bool
 | some y => isLocal names y && sMem y bound && !sEq y "__debug__"
 | none => e.isPlainConst
noncomputable def okElt (names : List (Str × NameKind)) (bound : List Str) (e : Expr) : Bool := okEltN names bound e (nameP1 e)
theorem class_elt {env : Env} {l : List (Str × Value)} {s : Shared} (hk : env.scope.kind = .class) {Q : Value -> Shared -> Prop} (D : DictIs s.heap env.locals l) {e : Expr} (ok1 : okElt env.scope.names (l.map (·.1)) e = true)
  (h : ∀ v tk, EltIs l e v -> Q v { s with toks := tk }) : wpAny M A (eval e env) Q E s /\ ∀ r, starEach (e :: r) env = (false, eval e env) :: starEach r env := by
 cases e with
 | Name y p =>
  obtain ⟨ok1, okD⟩ := and_t ok1
  obtain ⟨okL, okM⟩ := and_t ok1
  cases hq : l.lookup y with
  | some v => exact ⟨wpAny_Name (class_load hk (isLocal_spec okL) D hq (h v s.toks hq)) ((sEq_beq ..).symm.trans (not_t okD)), fun _ => rfl⟩
  | none => exact absurd hq (lookup_some_of (sMem_iff.mp okM))
 | Constant c k p => exact ⟨wpAny_eval_const ok1 fun v tk hv => h v tk hv, fun _ => rfl⟩
 | _ => exact ff ok1
theorem class_elts {env : Env} {l : List (Str × Value)} (hk : env.scope.kind = .class) {pos : Pos} (es : List Expr) : ∀ (s : Shared) (Q : List Value -> Shared -> Prop), DictIs s.heap env.locals l ->
  (es.all (okElt env.scope.names (l.map (·.1)))) = true -> (∀ vs tk, EltsAre l es vs -> Q vs { s with toks := tk }) -> wpAny M A (spliced (backTo pos (starEach es env))) Q E s := by
 induction es with
 | nil => exact fun s Q _ _ h => wpAny_items_nil (h [] s.toks trivial)
 | cons e es ih =>
  intro s Q D ok h
  obtain ⟨ok1, ok2⟩ := and_t ok
  have x := class_elt (M := M) (A := A) (E := E) hk (Q := fun v s₁ => wpAny M A (spliced (backTo pos (starEach es env))) (fun vs s₂ => Q (v :: vs) s₂) E s₁) D ok1 fun v tk hv =>
   ih { s with toks := tk } _ D ok2 fun vs tk' hvs => h (v :: vs) tk' ⟨hv, hvs⟩
  exact wpAny_items_cons x.1 (x.2 es)
end
inductive Kd where
 | fn | lst | tup
noncomputable def Kd.name : Kd -> String
 | .fn => "function"
 | .lst => "list"
 | .tup => "tuple"
inductive SV where
 | ref (a : Addr) (k : Kd)
 | none
 | bool (b : Bool)
 | int (i : Int)
 | str (s : Str)
noncomputable def SV.Is : SV -> Value -> Prop
 | .ref a _, v => v = .ref a
 | .none, v => v = .none
 | .bool b, v => v = .bool b
 | .int i, v => ∃ t, v = .int i t
 | .str s, v => ∃ t, v = .str s t
noncomputable def constSV : Const -> Option SV
 | .none => some .none
 | .bool b => some (.bool b)
 | .int i => some (.int i)
 | .str s => some (.str s)
 | _ => Option.none
theorem constSV_is {c : Const} {v : Value} {sv : SV} (h : constSV c = some sv) (hv : c.Val v) : sv.Is v := by
 cases c <;> cases h <;> exact hv
noncomputable def SVsAre : List (Str × SV) -> List (Str × Value) -> Prop
 | [], [] => True
 | p :: r, q :: r' => p.1 = q.1 /\ p.2.Is q.2 /\ SVsAre r r'
 | _, _ => False
theorem SVsAre.snoc {x : Str} {sv : SV} {v : Value} (h : sv.Is v) : ∀ {r : List (Str × SV)} {r' : List (Str × Value)}, SVsAre r r' -> SVsAre (r ++ [(x, sv)]) (r' ++ [(x, v)])
 | [], [], _ => ⟨rfl, h, trivial⟩
 | [], _ :: _, q => q.elim
 | _ :: _, [], q => q.elim
 | _ :: r, _ :: r', q => ⟨q.1, q.2.1, SVsAre.snoc (r := r) (r' := r') h q.2.2⟩
theorem SVsAre.names : ∀ {r : List (Str × SV)} {r' : List (Str × Value)}, SVsAre r r' -> r.map (·.1) = r'.map (·.1)
 | [], [], _ => rfl
 | [], _ :: _, q => q.elim
 | _ :: _, [], q => q.elim
 | _ :: r, _ :: r', q => congr (congrArg List.cons q.1) (SVsAre.names (r := r) (r' := r') q.2.2)
noncomputable def ObjsOK (n₀ : Nat) (h : Heap) (l : List (Str × SV)) : Prop := ∀ x a k, (x, SV.ref a k) ∈ l -> n₀ <= a /\ ∃ dat, h.get? a = some ⟨.type k.name, none, dat, #[]⟩
theorem ObjsOK.keep {n₀ : Nat} {h h' : Heap} {l : List (Str × SV)} (O : ObjsOK n₀ h l) (k : ∀ b o, n₀ <= b -> h.get? b = some o -> h'.get? b = some o) : ObjsOK n₀ h' l := fun x a kd hm => by
 obtain ⟨a1, dat, e⟩ := O x a kd hm
 exact ⟨a1, dat, k _ _ a1 e⟩
theorem ObjsOK.snoc {n₀ : Nat} {h : Heap} {l : List (Str × SV)} (O : ObjsOK n₀ h l) {x : Str} {sv : SV} (hs : ∀ a k, sv = .ref a k -> n₀ <= a /\ ∃ dat, h.get? a = some ⟨.type k.name, none, dat, #[]⟩) : ObjsOK n₀ h (l ++ [(x, sv)]) := fun y a kd hm => by
 rcases List.mem_append.mp hm with hm | hm
 ·exact O y a kd hm
 ·rcases List.mem_singleton.mp hm with e
  cases e
  exact hs a kd rfl
inductive StOK (n₀ : Nat) (h : Heap) (pm : Value) (qual : Str) (l : List (Str × Value)) : Stmt -> Prop
 | def_ {name args body scope bind pos a dv dV c'} : l.lookup name = some (.ref a) -> FnAt n₀ h a name (qual ++ name) args body scope pm dv dV c' ->
   StOK n₀ h pm qual l (.FunctionDef name args body [] none [] scope none bind pos)
 | const {x p c k p2 p3 v} : l.lookup x = some v -> c.Val v -> StOK n₀ h pm qual l (.Assign [.Name x p] (.Constant c k p2) p3)
 | list {x p es p2 p3 a items} : l.lookup x = some (.ref a) -> n₀ <= a -> h.get? a = some { cls := .type "list", data := .seq (List.toArray items) } -> EltsAre l es items -> StOK n₀ h pm qual l (.Assign [.Name x p] (.List es p2) p3)
theorem lookup_more {l more : List (Str × Value)} {x : Str} {v : Value} (h : l.lookup x = some v) : (l ++ more).lookup x = some v := by
 rw [List.lookup_append, h]; rfl
theorem EltIs.more {l more : List (Str × Value)} {e : Expr} {v : Value} (h : EltIs l e v) : EltIs (l ++ more) e v := by
 cases e with
 | Name y p => exact lookup_more h
 | Constant c k p => exact h
 | _ => exact False.elim h
theorem EltsAre.more {l more : List (Str × Value)} : ∀ {es : List Expr} {vs : List Value}, EltsAre l es vs -> EltsAre (l ++ more) es vs := by
 intro es
 induction es with
 | nil => intro vs h; cases vs with
  | nil => exact trivial
  | cons _ _ => exact h.elim
 | cons e es ih => intro vs h; cases vs with
  | nil => exact h.elim
  | cons _ _ => exact ⟨h.1.more, ih h.2⟩
theorem StOK.keep {n₀ : Nat} {h h' : Heap} {pm : Value} {qual : Str} {l more : List (Str × Value)} {st : Stmt} (S : StOK n₀ h pm qual l st) (k : ∀ b o, n₀ <= b -> h.get? b = some o -> h'.get? b = some o) :
  StOK n₀ h' pm qual (l ++ more) st := by
 cases S with
 | def_ a f => exact .def_ (lookup_more a) (f.keep k)
 | const a c => exact .const (lookup_more a) c
 | list a n g e => exact .list (lookup_more a) n (k _ _ n g) e.more
structure Step where
 L : Nat
 n : Nat
 x : Str
 sv : SV
noncomputable def optB {α β : Type} (o : Option α) (k : α -> Option β) : Option β := match o with
 | some a => k a
 | none => none
noncomputable def noB {β : Type} (c : Bool) (k : Option β) : Option β := match c with
 | true => none
 | false => k
theorem optB_iff {α β : Type} {o : Option α} {k : α -> Option β} {b : β} (h : optB o k = some b) : ∃ a, o = some a /\ k a = some b := by
 cases o with
 | none => exact none_some h
 | some a => exact ⟨a, rfl, h⟩
theorem noB_iff {β : Type} {c : Bool} {k : Option β} {b : β} (h : noB c k = some b) : c = false /\ k = some b := by
 cases c with
 | true => exact none_some h
 | false => exact ⟨rfl, h⟩
noncomputable def orB {α β : Type} (o : Option α) (k : α -> Option β) (d : Option β) : Option β := match o with
 | some a => k a
 | none => d
theorem orB_iff {α β : Type} {o : Option α} {k : α -> Option β} {d : Option β} {b : β} (h : orB o k d = some b) : (∃ a, o = some a /\ k a = some b) \/ d = some b := by
 cases o with
 | none => exact .inr h
 | some a => exact .inl ⟨a, rfl, h⟩
structure FD where
 name : Str
 args : Arguments
 body : List Stmt
 scope : Scope
 pos : Pos
noncomputable def FD.st (f : FD) : Stmt := .FunctionDef f.name f.args f.body [] none [] f.scope none f.name f.pos
noncomputable def fdP : Stmt -> Option FD
 | .FunctionDef name args body ds ret tps scope ts bind pos => if ds.isEmpty && ret.isNone && tps.isEmpty && ts.isNone && sEq bind name then some ⟨name, args, body, scope, pos⟩ else none
 | _ => none
theorem fdP_spec {st : Stmt} {f : FD} (h : fdP st = some f) : st = f.st := by
 cases st with
 | FunctionDef name args body ds ret tps scope ts bind pos =>
  obtain ⟨q, e⟩ := if_some rfl h
  obtain ⟨q, q5⟩ := and_t q
  obtain ⟨q, q4⟩ := and_t q
  obtain ⟨q, q3⟩ := and_t q
  obtain ⟨q1, q2⟩ := and_t q
  rw [nil_of q1, none_of q2, nil_of q3, none_of q4, sEq_iff.mp q5, <- some_eq e]
  rfl
 | _ => exact none_some h
noncomputable def one {α : Type} : List α -> Option α
 | [a] => some a
 | _ => none
theorem one_eq {α : Type} {l : List α} {a : α} (h : one l = some a) : l = [a] := by
 cases l with
 | nil => exact none_some h
 | cons b r => cases r with
  | nil => cases some_eq h; rfl
  | cons _ _ => exact none_some h
noncomputable def nameQ : Expr -> Option (Str × Pos)
 | .Name x p => some (x, p)
 | _ => none
noncomputable def nameP (ts : List Expr) : Option (Str × Pos) := optB (one ts) nameQ
theorem nameQ_eq {e : Expr} {q : Str × Pos} (h : nameQ e = some q) : e = .Name q.1 q.2 := by
 cases e with
 | Name x p => rw [<- some_eq h]
 | _ => exact none_some h
theorem nameP_spec {ts : List Expr} {q : Str × Pos} (h : nameP ts = some q) : ts = [.Name q.1 q.2] :=
 let ⟨_, e, h⟩ := optB_iff h
 (one_eq e).trans (congrArg (fun x => [x]) (nameQ_eq h))
noncomputable def asP : Stmt -> Option (Str × Pos × Expr × Pos)
 | .Assign ts e p => optB (nameP ts) fun q => some (q.1, q.2, e, p)
 | _ => none
theorem asP_spec {st : Stmt} {q : Str × Pos × Expr × Pos} (h : asP st = some q) : st = .Assign [.Name q.1 q.2.1] q.2.2.1 q.2.2.2 := by
 cases st with
 | Assign ts e p =>
  obtain ⟨r, h1, h2⟩ := optB_iff h
  rw [nameP_spec h1, <- some_eq h2]
 | _ => exact none_some h
inductive OkSt (names : List (Str × NameKind)) (L n : Nat) (bound : List Str) : Stmt -> Step -> Prop
 | def_ {name : Str} {args : Arguments} {body : List Stmt} {scope : Scope} {pos : Pos} : okDef args scope body = true -> isLocal names name = true -> sMem name bound = false -> L <= pos.line ->
   OkSt names L n bound (.FunctionDef name args body [] none [] scope none name pos) ⟨pos.line + 1, n + defSize args body, name, .ref (n + (defSize args body - 1)) .fn⟩
 | const {x : Str} {p₁ p p₃ : Pos} {c : Const} {k : Nat} {sv : SV} : (Expr.Constant c k p).isPlainConst = true -> isLocal names x = true -> sMem x bound = false -> constSV c = some sv ->
   OkSt names L n bound (.Assign [.Name x p₁] (.Constant c k p) p₃) ⟨L, n, x, sv⟩
 | list {x : Str} {p₁ p p₃ : Pos} {es : List Expr} : es.all (okElt names bound) = true -> es.length <= 100000 -> isLocal names x = true -> sMem x bound = false -> OkSt names L n bound (.Assign [.Name x p₁] (.List es p) p₃) ⟨L, n + 1, x, .ref n .lst⟩
noncomputable def okFd (names : List (Str × NameKind)) (L n : Nat) (bound : List Str) (f : FD) : Option Step :=
 if okDef f.args f.scope f.body && isLocal names f.name && !sMem f.name bound && Nat.ble L f.pos.line then some ⟨f.pos.line + 1, n + defSize f.args f.body, f.name, .ref (n + (defSize f.args f.body - 1)) .fn⟩ else none
noncomputable def okVal (names : List (Str × NameKind)) (L n : Nat) (bound : List Str) (x : Str) : Expr -> Option Step
 | .Constant c k p => if (Expr.Constant c k p).isPlainConst && isLocal names x && !sMem x bound then (constSV c).map fun sv => ⟨L, n, x, sv⟩ else none
 | .List es _ => if es.all (okElt names bound) && Nat.ble es.length 100000 && isLocal names x && !sMem x bound then some ⟨L, n + 1, x, .ref n .lst⟩ else none
 | _ => none
noncomputable def okCls (names : List (Str × NameKind)) (L n : Nat) (bound : List Str) (st : Stmt) : Option Step := orB (fdP st) (okFd names L n bound) (optB (asP st) fun q => okVal names L n bound q.1 q.2.2.1)
theorem okVal_spec {names : List (Str × NameKind)} {L n : Nat} {bound : List Str} {x : Str} {p₁ p₃ : Pos} {v : Expr} {S : Step} (h : okVal names L n bound x v = some S) : OkSt names L n bound (.Assign [.Name x p₁] v p₃) S := by
 cases v with
 | Constant c k p =>
  obtain ⟨q, e⟩ := if_some rfl h
  obtain ⟨q, q3⟩ := and_t q
  obtain ⟨q1, q2⟩ := and_t q
  obtain ⟨sv, h1, h2⟩ := Option.map_eq_some_iff.mp e
  exact h2 ▸ .const q1 q2 (not_t q3) h1
 | List es p =>
  obtain ⟨q, e⟩ := if_some rfl h
  obtain ⟨q, q4⟩ := and_t q
  obtain ⟨q, q3⟩ := and_t q
  obtain ⟨q1, q2⟩ := and_t q
  exact some_eq e ▸ .list q1 (Nat.le_of_ble_eq_true q2) q3 (not_t q4)
 | _ => exact none_some h
theorem okFd_spec {names : List (Str × NameKind)} {L n : Nat} {bound : List Str} {f : FD} {S : Step} (h : okFd names L n bound f = some S) : OkSt names L n bound f.st S := by
 obtain ⟨q, e⟩ := if_some rfl h
 obtain ⟨q, q5⟩ := and_t q
 obtain ⟨q, q4⟩ := and_t q
 obtain ⟨q2, q3⟩ := and_t q
 exact some_eq e ▸ .def_ q2 q3 (not_t q4) (Nat.le_of_ble_eq_true q5)
theorem okCls_spec {names : List (Str × NameKind)} {L n : Nat} {bound : List Str} {st : Stmt} {S : Step} (h : okCls names L n bound st = some S) : OkSt names L n bound st S := by
 rcases orB_iff h with ⟨f, hf, h⟩ | h
 ·rw [fdP_spec hf]; exact okFd_spec h
 ·obtain ⟨q, hq, h⟩ := optB_iff h
  rw [asP_spec hq]; exact okVal_spec h
noncomputable def okBody (names : List (Str × NameKind)) (L n : Nat) (bound : List (Str × SV)) : List Stmt -> Option (Nat × List (Str × SV))
 | [] => some (n, bound)
 | st :: r => optB (okCls names L n (bound.map (·.1)) st) fun S => okBody names S.L S.n (bound ++ [(S.x, S.sv)]) r
section
variable {M : Model} {A : Around} {E : Value -> Shared -> Prop}
structure ClsR (n₀ n : Nat) (N c Pl : Addr) (mg : Str -> Option Value) (pm : Value) (qual : Str) (h : Heap) (l : List (Str × Value)) (st : Stmt) (S : Step) (h₁ : Heap) (ps₁ : Array Value) (v : Value) : Prop where
 cb : CB n₀ S.n h₁ N c Pl mg (l ++ [(S.x, v)]) ps₁
 is : S.sv.Is v
 ob : ∀ a k, S.sv = .ref a k -> n₀ <= a /\ ∃ dat, h₁.get? a = some ⟨.type k.name, none, dat, #[]⟩
 tl : TL S.L ps₁.toList
 ok : StOK n₀ h₁ pm qual (l ++ [(S.x, v)]) st
 keep : Keeps2 N Pl h h₁
theorem constSV_ref {cc : Const} {sv : SV} (h : constSV cc = some sv) {a : Addr} {k : Kd} (e : sv = .ref a k) {P : Prop} : P := by subst e; cases cc <;> cases h
theorem lookup_last {l : List (Str × Value)} {x : Str} {v : Value} (hx : x ∉ l.map (·.1)) : (l ++ [(x, v)]).lookup x = some v := by
 rw [List.lookup_append, lookup_none_of hx, List.lookup_cons, beq_self_eq_true]; rfl
theorem class_put {env : Env} {n₀ n N c Pl : Addr} {mg : Str -> Option Value} {pm : Value} {l : List (Str × Value)} {ps ps₁ : Array Value} {s : Shared} {st : Stmt} {S : Step} {Q : Unit -> Shared -> Prop} {hp : Heap} {tk : Nat} {v : Value} (hk : env.scope.kind = .class) (hN : env.locals = N)
  (B : CB n₀ n s.heap N c Pl mg l ps) (hsv : S.sv.Is v) (hob : ∀ a k, S.sv = .ref a k -> n₀ <= a /\ ∃ dat, hp.get? a = some ⟨.type k.name, none, dat, #[]⟩) (hb : hp.BuiltinsAt mg Pl) (D : DictIs hp N l) (hcode : hp.IsCode c Pl ps₁) (hg : hp.Ns mainGlobals mg)
  (hz : hp.objs.size = S.n) (hz2 : n <= S.n) (K : Keeps2 N Pl s.heap hp) (T₁ : TL S.L ps₁.toList) (hl : isLocal env.scope.names S.x = true) (hn : sMem S.x (l.map (·.1)) = false) (hS : ∀ h₁, (∀ b o, n₀ <= b -> hp.get? b = some o -> h₁.get? b = some o) -> StOK n₀ h₁ pm env.qual (l ++ [(S.x, v)]) st)
  (rest : ∀ h₁ tk, ClsR n₀ n N c Pl mg pm env.qual s.heap l st S h₁ ps₁ v -> Q () { s with heap := h₁, toks := tk }) : wpAny M A (storeName env S.x v) Q E { s with heap := hp, toks := tk } := by
 refine class_store (s := { s with heap := hp, toks := tk }) hk (isLocal_spec hl) (by rw [hN]; exact D) (sMem_false.mp hn) fun h₁ D₁ hs₁ => ?_
 rw [hN] at D₁ hs₁
 have K₁ : Keeps2 N Pl hp h₁ := fun b o h1 _ e => (hs₁.2 b h1).trans e
 have up : ∀ b o, n₀ <= b -> hp.get? b = some o -> h₁.get? b = some o := fun b o hb' e => (hs₁.2 b (Nat.ne_of_gt (Nat.lt_of_lt_of_le B.lN hb'))).trans e
 exact rest h₁ _ ⟨⟨D₁, hcode.sameBut hs₁ B.nc (Ne.symm B.nNP), hg.sameBut hs₁ B.nNG, BuiltinsAt.moved hb D K₁, by rw [hs₁.1]; exact hz, Nat.le_trans B.le hz2, B.lN, B.lP, B.nNP, B.nNG, B.nPG, B.nc⟩, hsv,
  fun a k e => ⟨(hob a k e).1, (hob a k e).2.imp fun dat g => up _ _ (hob a k e).1 g⟩, T₁, hS h₁ up, K.trans K₁⟩
theorem class_one {env : Env} {n₀ n N c Pl : Addr} {mg : Str -> Option Value} {pm : Value} {L : Nat} {l : List (Str × Value)} {ps : Array Value} {s : Shared} {st : Stmt} {S : Step} {Q : Flow -> Shared -> Prop} (hk : env.scope.kind = .class) (hN : env.locals = N) (hG : env.globals = mainGlobals)
  (hc : env.code = .ref c) (hpm : (mg "__name__").getD .none = pm) (sp : OkSt env.scope.names L n (l.map (·.1)) st S) (B : CB n₀ n s.heap N c Pl mg l ps) (T : TL L ps.toList)
  (rest : ∀ h₁ ps₁ tk v, ClsR n₀ n N c Pl mg pm env.qual s.heap l st S h₁ ps₁ v -> Q .next { s with heap := h₁, toks := tk }) : wpAny M A (exec st env) Q E s := by
 cases sp with
 | @def_ name args body scope pos q2 q3 q4 hL =>
  refine def_make q2 hG hc B.code (T.none hL) B.nPG B.g B.b fun c' dv dV h₁ tk hx hz F hok => ?_
  have K : Keeps2 N Pl s.heap h₁ := fun b o _ h2 e => hx b o h2 e
  rw [B.size] at hz F ⊢
  refine wpAny_bindName (class_put (S := ⟨pos.line + 1, n + defSize args body, name, .ref (n + (defSize args body - 1)) .fn⟩) hk hN B rfl (fun a k e => by cases e; exact ⟨Nat.le_trans B.le (Nat.le_add_right ..), _, F.fn⟩) (BuiltinsAt.moved B.b B.d K) (B.d.at fun o e => hx _ _ B.nNP e) hok (B.g.extBut hx B.nPG) hz (Nat.le_add_right ..) K ?_ q3 q4 (fun h₂ k₂ => ?_) fun h₁ tk => rest h₁ _ tk _)
  ·have : (ps ++ #[rawInt ↑pos.line, rawInt ↑pos.col, Value.ref c']).toList = ps.toList ++ [rawInt ↑pos.line, rawInt ↑pos.col, Value.ref c'] := by simp
   rw [this]
   show TL (pos.line + 1) _
   exact T.snoc (by lia) (by lia)
  ·have hq : qualnameIn env name name = env.qual ++ name := by
    unfold qualnameIn
    rw [show env.kindOf name = some .local from isLocal_spec q3]
    rfl
   rw [hq, hpm] at F
   exact .def_ (lookup_last (sMem_false.mp q4)) ((F.weaken B.le).keep k₂)
 | @const x p₁ p p₃ cc k sv q1 q2 q3 h1 =>
  refine wpAny_Assign_Name (wpAny_eval_const q1 fun v tk hv => ?_)
  exact class_put (S := ⟨L, n, x, sv⟩) (hp := s.heap) (tk := tk) hk hN B (constSV_is h1 hv) (fun a k e => constSV_ref h1 e) B.b B.d B.code B.g B.size (Nat.le_refl _) (Keeps2.refl _ _ _) T q2 q3 (fun h₂ k₂ => .const (lookup_last (sMem_false.mp q3)) hv) fun h₁ tk => rest h₁ _ tk _
 | @list x p₁ p p₃ es q1 q2 q3 q4 =>
  refine wpAny_Assign_Name (wpAny_List (class_elts hk es _ _ (by rw [hN]; exact B.d) q1 fun vs tk hvs => ⟨?_, ?_⟩))
  ·rw [<- hvs.length]
   exact Nat.le_trans q2 (by unfold sizeLine; lia)
  ·have K : Keeps2 N Pl s.heap (s.heap.push { cls := .type "list", data := .seq vs.toArray }) := fun b o _ _ e => Heap.get?_push_of_some _ e
   exact class_put (S := ⟨L, n + 1, x, .ref n .lst⟩) (hp := s.heap.push { cls := .type "list", data := .seq vs.toArray }) (tk := tk) (v := .ref s.heap.objs.size) hk hN B (by rw [B.size]; rfl) (fun a k e => by cases e; exact ⟨B.le, _, by rw [<- B.size]; exact Heap.get?_push_size _ rfl⟩) (BuiltinsAt.moved B.b B.d K) (B.d.at fun o e => Heap.get?_push_of_some _ e) (B.code.push _) (B.g.push _)
    (by rw [Heap.size_push, B.size]) (Nat.le_succ _) K T q3 q4 (fun h₂ k₂ => .list (lookup_last (sMem_false.mp q4)) (by rw [B.size]; exact B.le) (k₂ _ _ (by rw [B.size]; exact B.le) (Heap.get?_push_size _ rfl)) hvs.more) fun h₁ tk => rest h₁ _ tk _
theorem class_body {env : Env} {n₀ N c Pl : Addr} {mg : Str -> Option Value} {pm : Value} (hk : env.scope.kind = .class) (hN : env.locals = N) (hG : env.globals = mainGlobals) (hc : env.code = .ref c) (hpm : (mg "__name__").getD .none = pm) {nf : Nat} {fin : List (Str × SV)} :
  ∀ (body : List Stmt) (L n : Nat) (sl : List (Str × SV)) (l : List (Str × Value)) (ps : Array Value) (s : Shared) (Q : Flow -> Shared -> Prop),
   okBody env.scope.names L n sl body = some (nf, fin) -> SVsAre sl l -> ObjsOK n₀ s.heap sl -> CB n₀ n s.heap N c Pl mg l ps -> TL L ps.toList ->
   (∀ h' l' ps' tk more, CB n₀ nf h' N c Pl mg l' ps' -> l' = l ++ more -> SVsAre fin l' -> ObjsOK n₀ h' fin -> (∀ st ∈ body, StOK n₀ h' pm env.qual l' st) -> Keeps2 N Pl s.heap h' -> Q .next { s with heap := h', toks := tk }) ->
   wpAny M A (execs body env) Q E s := by
 intro body
 induction body with
 | nil =>
  intro L n sl l ps s Q ok SA OB B T h
  cases ok
  exact wpAny_execs_nil (h s.heap l ps s.toks [] B (by simp) SA OB (fun _ hm => (nomatch hm)) (Keeps2.refl _ _ _))
 | cons st r ih =>
  intro L n sl l ps s Q ok SA OB B T h
  obtain ⟨S, e, ok⟩ := optB_iff ok
  rw [SA.names] at e
  refine wpAny_execs_cons (class_one hk hN hG hc hpm (okCls_spec e) B T fun h₁ ps₁ tk v X => ?_)
  refine ih S.L S.n _ _ ps₁ { s with heap := h₁, toks := tk } Q ok (SA.snoc X.is) ((OB.keep (B.up X.keep)).snoc X.ob) X.cb X.tl fun h' l' ps' tk' more B' em ef ob hs K' => ?_
  refine h h' l' ps' tk' ([(S.x, v)] ++ more) B' (by rw [em, List.append_assoc]) ef ob (fun st' hm => ?_) (X.keep.trans K')
  refine (List.mem_cons.mp hm).elim (fun q => ?_) (hs st')
  rw [q, em]; exact X.ok.keep (X.cb.up K')
end
noncomputable def look : List (Addr × Obj) -> Addr -> Option Obj
 | [], _ => none
 | (b, o) :: r, a => match Nat.beq b a with
  | true => some o
  | false => look r a
noncomputable def putO (a : Addr) (f : Obj -> Obj) : List (Addr × Obj) -> List (Addr × Obj)
 | [] => []
 | (b, o) :: r => match Nat.beq b a with
  | true => (b, f o) :: r
  | false => (b, o) :: putO a f r
theorem look_put (a : Addr) (f : Obj -> Obj) (b : Addr) : ∀ T, look (putO a f T) b = if b = a then (look T b).map f else look T b
 | [] => by simp [putO, look]
 | (c, o) :: r => by
  unfold putO
  cases h : Nat.beq c a with
  | true =>
   have := Nat.eq_of_beq_eq_true h
   subst this
   simp only [look]
   cases h2 : Nat.beq c b with
   | true => have := Nat.eq_of_beq_eq_true h2; simp [this]
   | false =>
    have : ¬ b = c := fun e => by rw [e, Nat.beq_refl] at h2; cases h2
    simp [this]
  | false =>
   simp only [look]
   rw [look_put a f b r]
   cases h2 : Nat.beq c b with
   | true =>
    have e := Nat.eq_of_beq_eq_true h2
    have : ¬ b = a := fun e2 => by rw [e, e2, Nat.beq_refl] at h; cases h
    simp [this]
   | false => rfl
structure RS where
 T : List (Addr × Obj)
 n : Nat
 tk : Nat
mutual
noncomputable def rn (den : Code -> Sem Fin) (S : Setting) (lo : Nat) : Nat -> (α : Type) -> RS -> Sem α -> Option (Except Value α × RS)
 | 0, _, _, _ => none
 | n + 1, α, st, t => match t with
  | .pure a => some (.ok a, st)
  | .raise e => some (.error e, st)
  | .rule _ k => rn den S lo n α st (k ())
  | .at _ k => rn den S lo n α st (k ())
  | .point _ k => rn den S lo n α st (k ())
  | .load a _ k => optB (look st.T a) fun o => rn den S lo n α st (k o)
  | .update a _ f k => optB (look st.T a) fun o => noB ((f o).isFreed || Nat.blt a lo) (rn den S lo n α ⟨putO a f st.T, st.n, st.tk⟩ (k ()))
  | .alloc o k => noB o.isFreed (rn den S lo n α ⟨(st.n, o) :: st.T, st.n + 1, st.tk⟩ (k st.n))
  | .fresh k => rn den S lo n α ⟨st.T, st.n, st.tk + 1⟩ (k st.tk)
  | .ask k => rn den S lo n α st (k S)
  | .handled own k => noB own (rn den S lo n α st (k none))
  | .call c hd _ _ k => (match hd with
   | none => optB (rnC den S lo n st c) fun p => rn den S lo n α p.2 (k p.1)
   | some _ => none)
  | _ => none
noncomputable def rnC (den : Code -> Sem Fin) (S : Setting) (lo : Nat) : Nat -> RS -> Code -> Option (Result × RS)
 | 0, _, _ => none
 | n + 1, st, c => optB (rn den S lo n Fin st (den c)) fun p => match p.1 with
  | .ok (.done f) => some (.ok f, p.2)
  | .ok (.again c') => noB (!c'.quiet) (rnC den S lo n p.2 c')
  | .error e => some (.error e, p.2)
end
structure RepT (st : RS) (s : Shared) : Prop where
 own : ∀ a o, look st.T a = some o -> s.heap.get? a = some o
 size : s.heap.objs.size = st.n
 toks : s.toks = st.tk
structure After (lo : Nat) (st st' : RS) (s s' : Shared) : Prop where
 gens : s'.gens = s.gens
 drawn : s'.drawn = s.drawn
 os : s'.os = s.os
 keep : ∀ b o, b < lo -> s.heap.get? b = some o -> s'.heap.get? b = some o
 le : st.n <= st'.n
theorem After.refl (lo : Nat) (st : RS) (s : Shared) : After lo st st s s := ⟨rfl, rfl, rfl, fun _ _ _ e => e, Nat.le_refl _⟩
theorem After.trans {lo : Nat} {st₁ st₂ st₃ : RS} {s₁ s₂ s₃ : Shared} (x : After lo st₁ st₂ s₁ s₂) (y : After lo st₂ st₃ s₂ s₃) : After lo st₁ st₃ s₁ s₃ :=
 ⟨y.gens.trans x.gens, y.drawn.trans x.drawn, y.os.trans x.os, fun b o h e => y.keep b o h (x.keep b o h e), Nat.le_trans x.le y.le⟩
theorem RepT.update {lo : Nat} {st : RS} {s : Shared} (R : RepT st s) {a : Addr} {o : Obj} {f : Obj -> Obj} (h : look st.T a = some o) (hf : (f o).isFreed = false) (hlo : lo <= a) :
  RepT ⟨putO a f st.T, st.n, st.tk⟩ { s with heap := s.heap.update a f } /\ After lo st ⟨putO a f st.T, st.n, st.tk⟩ s { s with heap := s.heap.update a f } := by
 have hs : Heap.SameBut a s.heap (s.heap.update a f) := Heap.SameBut.update ..
 refine ⟨⟨fun b o' e => ?_, hs.1.trans R.size, R.toks⟩, ⟨rfl, rfl, rfl, fun b o' e g => (hs.2 b (Nat.ne_of_lt (Nat.lt_of_lt_of_le e hlo))).trans g, Nat.le_refl _⟩⟩
 rw [look_put] at e
 split at e
 ·rename_i q
  subst q
  rw [h] at e
  cases e
  exact Heap.get?_update_self _ (R.own _ _ h) hf
 ·rename_i q
  exact (hs.2 b q).trans (R.own _ _ e)
theorem RepT.alloc {lo : Nat} {st : RS} {s : Shared} (R : RepT st s) {o : Obj} (hf : o.isFreed = false) :
  RepT ⟨(st.n, o) :: st.T, st.n + 1, st.tk⟩ { s with heap := s.heap.push o } /\ After lo st ⟨(st.n, o) :: st.T, st.n + 1, st.tk⟩ s { s with heap := s.heap.push o } := by
 refine ⟨⟨fun b o' e => ?_, by rw [Heap.size_push, R.size], R.toks⟩, ⟨rfl, rfl, rfl, fun b o' e g => Heap.get?_push_of_some _ g, Nat.le_succ _⟩⟩
 simp only [look] at e
 split at e
 ·rename_i q
  have := Nat.eq_of_beq_eq_true q
  subst this
  cases e
  rw [<- R.size]; exact Heap.get?_push_size _ hf
 ·exact Heap.get?_push_of_some _ (R.own _ _ e)
theorem RepT.fresh {lo : Nat} {st : RS} {s : Shared} (R : RepT st s) : RepT ⟨st.T, st.n, st.tk + 1⟩ { s with toks := s.toks + 1 } /\ After lo st ⟨st.T, st.n, st.tk + 1⟩ s { s with toks := s.toks + 1 } :=
 ⟨⟨R.own, R.size, by simp only [R.toks]⟩, ⟨rfl, rfl, rfl, fun _ _ _ e => e, Nat.le_refl _⟩⟩
noncomputable def endR {α : Type} (Q : α -> Shared -> Prop) (E : Value -> Shared -> Prop) : Except Value α -> Shared -> Prop
 | .ok a, s => Q a s
 | .error e, s => E e s
theorem under_handled (A : Around) (c : Code) : (A.under c).handled = A.handled := rfl
theorem rn_sound {prog : Program} {w : World} {lo : Nat} : ∀ n,
  (∀ (α : Type) (st : RS) (t : Sem α) (r : Except Value α) (st' : RS), rn (denote treeTable) ⟨prog, w.params⟩ lo n α st t = some (r, st') ->
   ∀ (A : Around) (s : Shared) (Q : α -> Shared -> Prop) (E : Value -> Shared -> Prop), A.handled = none -> RepT st s ->
    (∀ s', RepT st' s' -> After lo st st' s s' -> endR Q E r s') -> wpAny (model prog w) A t Q E s) /\
  (∀ (st : RS) (c : Code) (r : Result) (st' : RS), rnC (denote treeTable) ⟨prog, w.params⟩ lo n st c = some (r, st') ->
   ∀ (A : Around) (s : Shared) (R : Result -> Shared -> Prop), A.handled = none -> RepT st s ->
    (∀ s', RepT st' s' -> After lo st st' s s' -> R r s') -> codeAny (model prog w) A c R s)
 | 0 => ⟨fun _ _ _ _ _ h => (nomatch h), fun _ _ _ _ h => (nomatch h)⟩
 | n + 1 => by
  obtain ⟨ih, ihC⟩ := rn_sound (prog := prog) (w := w) (lo := lo) n
  refine ⟨fun α st t r st' h A s Q E hA R k => ?_, fun st c r st' h A s Rr hA R k => ?_⟩
  ·have step : ∀ {st₁ : RS} {s₁ : Shared} {t₁ : Sem α}, RepT st₁ s₁ -> After lo st st₁ s s₁ -> rn (denote treeTable) ⟨prog, w.params⟩ lo n α st₁ t₁ = some (r, st') -> wpAny (model prog w) A t₁ Q E s₁ :=
    fun R₁ a₁ e => ih α _ _ r st' e A _ Q E hA R₁ fun s' R' a' => k s' R' (a₁.trans a')
   cases t with
   | pure a => cases h; exact wpAny_pure (k s R (After.refl _ _ _))
   | raise e => cases h; exact wpAny_throw (k s R (After.refl _ _ _))
   | rule _ f => exact step (t₁ := f ()) R (After.refl _ _ _) h
   | «at» p f => exact fun Γ q hΓ => step R (After.refl _ _ _) h Γ p hΓ
   | point _ f => exact step (t₁ := f ()) R (After.refl _ _ _) h
   | load a _ f =>
    obtain ⟨o, ho, h⟩ := optB_iff h
    exact nd_load (R.own _ _ ho) (step R (After.refl _ _ _) h)
   | update a part f kk =>
    obtain ⟨o, ho, h⟩ := optB_iff h
    obtain ⟨hf, h⟩ := noB_iff h
    rw [Bool.or_eq_false_iff] at hf
    obtain ⟨R₁, a₁⟩ := R.update (lo := lo) ho hf.1 (Nat.le_of_not_lt fun q => by have : Nat.blt a lo = true := Nat.ble_eq_true_of_le q; rw [this] at hf; cases hf.2)
    intro Γ q hΓ
    rw [Sem.wp_update]
    exact ⟨by rw [R.own _ _ ho]; rfl, step R₁ a₁ h Γ q hΓ⟩
   | alloc o kk =>
    obtain ⟨hf, h⟩ := noB_iff h
    obtain ⟨R₁, a₁⟩ := R.alloc (lo := lo) hf
    refine nd_alloc ?_
    rw [R.size]
    exact step R₁ a₁ h
   | fresh kk =>
    obtain ⟨R₁, a₁⟩ := R.fresh (lo := lo)
    refine nd_fresh ?_
    rw [R.toks]
    rw [R.toks] at R₁ a₁
    exact step R₁ a₁ h
   | ask kk => exact step (t₁ := kk ⟨prog, w.params⟩) R (After.refl _ _ _) h
   | handled own kk =>
    cases own with
    | true => cases h
    | false =>
     intro Γ q hΓ
     rw [Sem.wp_handled]
     have : (if false = true then Γ.own else Γ.handled) = none := by rw [if_neg Bool.false_ne_true, hΓ.1, hA]
     rw [this]
     exact step R (After.refl _ _ _) h Γ q hΓ
   | call c hd g l kk =>
    cases hd with
    | some e => cases h
    | none =>
     obtain ⟨⟨r₁, st₁⟩, e₁, h⟩ := optB_iff h
     intro Γ q hΓ
     rw [Sem.wp_call]
     have hc := ihC st c r₁ st₁ e₁ A s (fun r s' => wpAny (model prog w) A (kk r) Q E s') hA R fun s' R' a' => step R' a' h
     refine wpCode_mono (fun r s' z => z Γ q hΓ) (hc (Γ.enter c none q) q rfl ?_)
     exact hΓ.enter c none q (by intro x; cases x)
   | _ => exact (nomatch h)
  ·obtain ⟨⟨r₁, st₁⟩, e₁, h⟩ := optB_iff h
   refine codeAny_of_tree ?_
   have den : (model prog w).den = denote treeTable := by show denote table = _; rw [table_eq_tree]
   rw [den]
   refine ih Fin _ _ _ _ e₁ _ s _ _ hA R fun s' R' a' => ?_
   cases r₁ with
   | error e => cases h; exact k s' R' a'
   | ok fin => cases fin with
    | done f => cases h; exact k s' R' a'
    | again c' =>
     obtain ⟨hq, h⟩ := noB_iff h
     have hq : c'.quiet = true := by cases hc : c'.quiet with
      | true => rfl
      | false => rw [hc] at hq; cases hq
     exact ⟨hq, ihC _ _ _ _ h A s' Rr hA R' fun s'' R'' a'' => k s'' R'' (a'.trans a'')⟩
section
variable {M : Model} {A : Around} {E : Value -> Shared -> Prop} {s : Shared}
theorem newCodeE0 {ctx : CodeContext} {name qualname : Str} {firstLine argc posonly kwonly flags : Nat} {free : List Str} {isFunction : Bool} {Q : Value -> Shared -> Prop}
  (hQ : ∀ c P h' tk, c = s.heap.objs.size + 2 -> (∀ b o, s.heap.get? b = some o -> h'.get? b = some o) -> h'.objs.size = s.heap.objs.size + 3 -> P = s.heap.objs.size + 1 -> h'.IsCode c P #[] -> Q (.ref c) { s with heap := h', toks := tk }) :
  wpAny M A (newCode ctx name qualname firstLine argc posonly kwonly flags free isFunction none none none) Q E s := by
 unfold newCode
 refine wpAny_bind (wpAny_mkText (wpAny_bind (wpAny_mkText (wpAny_bind (wpAny_mkText (wpAny_bind (wpAny_mkStrs fun fs =>
  wpAny_bind (wpAny_newObjAsIs_type (wpAny_bind (wpAny_alloc ?_))))))))))
 generalize hH : (s.heap.push { cls := .type "tuple", dict := none, data := .seq fs.toArray }) = H
 have hz : H.objs.size = s.heap.objs.size + 1 := by rw [<- hH, Heap.size_push]
 have hk : ∀ b o, s.heap.get? b = some o -> H.get? b = some o := fun b o e => hH ▸ Heap.get?_push_of_some _ e
 have hPl : (H.push { cls := .none, data := .fields #[] }).get? H.objs.size = some { cls := .none, data := .fields #[] } := Heap.get?_push_size _ rfl
 refine wpAny_bind (wpAny_pure (wpAny_bind (wpAny_pure (wpAny_bind (wpAny_pure (wpAny_bind (wpAny_fresh (wpAny_bind (wpAny_mkText (wpAny_newObj_type ?_ (by size_fits)))))))))))
 exact hQ _ H.objs.size _ _ (by rw [Heap.size_push, hz]) (fun b o e => Heap.get?_push_of_some _ (Heap.get?_push_of_some _ (hk b o e))) (by rw [Heap.size_push, Heap.size_push, hz]) hz
  (ofC ⟨_, _, _, _, _, _, _, _, _, _, Heap.get?_push_size _ rfl, rfl, rfl, rfl, rfl, rfl, rfl, Heap.get?_push_of_some _ hPl, rfl, trivial, by rw [Heap.size_push]; exact Nat.succ_ne_self _⟩)
theorem classCodeE {env : Env} {c P : Addr} {ps : Array Value} {pos : Pos} {firstLine : Nat} {name qualname : Str} {scope : Scope}
  {Q : Value -> Shared -> Prop} (hc : env.code = .ref c) (hok : s.heap.IsCode c P ps) (hnf : codeAmong pos ps.toList = none)
  (hQ : ∀ c' P' h' tk, c' = s.heap.objs.size + 2 -> P' = s.heap.objs.size + 1 -> Heap.ExtBut P s.heap h' -> h'.objs.size = s.heap.objs.size + 3 -> h'.IsCode c P (ps ++ #[rawInt pos.line, rawInt pos.col, .ref c']) -> h'.IsCode c' P' #[] ->
   Q (.ref c') { s with heap := h', toks := tk }) :
  wpAny M A (classCode env pos firstLine name qualname scope) Q E s := by
 unfold classCode
 refine codeAtE (X := fun c' h' => c' = s.heap.objs.size + 2 /\ h'.objs.size = s.heap.objs.size + 3 /\ h'.IsCode c' (s.heap.objs.size + 1) #[]) hc hok hnf (fun ctx Q' h => newCodeE0 fun c' P' h' tk ec hk hz eP hcode' => ?_) fun c' h' h'' tk hc' hP x sb ex ok => ?_
 ·subst eP
  exact h c' h' tk (by rw [ec]; exact Nat.le_add_right ..) hk ⟨ec, hz, hcode'⟩
 ·exact hQ c' _ h'' tk x.1 rfl ex (sb.1.trans x.2.1) ok (codeKeep x.2.2 (SameBut.ne sb (Nat.ne_of_gt (Nat.lt_of_lt_of_le hP hc'))) (SameBut.ne sb (Nat.ne_of_gt (Nat.lt_of_lt_of_le hP (Nat.le_succ _)))))
theorem class_store0 {env : Env} {x : Str} {v : Value} {l : List (Str × Value)} {Q : Unit -> Shared -> Prop} (hk : env.scope.kind = .class) (hl : env.kindOf x = none) (hx : compilersOwnNames.contains x = true)
  (D : DictIs s.heap env.locals l) (hn : x ∉ l.map (·.1)) (h : ∀ h', DictIs h' env.locals (l ++ [(x, v)]) -> Heap.SameBut env.locals s.heap h' -> Q () { s with heap := h', toks := s.toks + 1 }) :
  wpAny M A (storeName env x v) Q E s := by
 have e : storeName env x v = localSet env x v := by
  simp only [storeName, hl, hk, Env.blockKind, ScopeKind.isAnnotationScope, hx]
  rfl
 rw [e]
 unfold localSet
 have D' := D
 obtain ⟨es, n, ho, _⟩ := D'
 refine wpAny_bind (wpAny_load ho ?_)
 exact nsSet_new D hn h
theorem class_load0 {env : Env} {x : Str} {v : Value} {l : List (Str × Value)} {mg} {Q : Value -> Shared -> Prop} (hk : env.scope.kind = .class) (hl : env.kindOf x = none) (hx : compilersOwnNames.contains x = true)
  (D : DictIs s.heap env.locals l) (hn : x ∉ l.map (·.1)) (hg : s.heap.Ns env.globals mg) (hv : mg x = some v) (h : Q v s) : wpAny M A (loadName env x) Q E s := by
 obtain ⟨es, n, ho, _⟩ := id D
 simp only [loadName, hl, hk, Env.blockKind, ScopeKind.isAnnotationScope, Bool.false_and, Bool.false_eq_true, if_false, hx, Bool.not_true]
 refine wpAny_bind ?_
 unfold localGet
 refine wpAny_bind (wpAny_load ho ?_)
 refine nsGet_dict D ?_
 rw [lookup_none_of hn]
 refine wpAny_bind (wpAny_nsGet hg ?_)
 rw [hv]
 exact wpAny_pure h
end
section
variable {prog : Program} {w : World} {A : Around} {E : Value -> Shared -> Prop} {s : Shared}
theorem by_rn {α : Type} {t : Sem α} {T : List (Addr × Obj)} {lo fuel n : Nat} {r : α} {st' : RS} {Q : α -> Shared -> Prop}
  (h : rn (denote treeTable) ⟨prog, w.params⟩ lo fuel α ⟨T, n, s.toks⟩ t = some (.ok r, st')) (hz : s.heap.objs.size = n) (own : ∀ a o, look T a = some o -> s.heap.get? a = some o) (hA : A.handled = none)
  (k : ∀ h', (∀ a o, look st'.T a = some o -> h'.get? a = some o) -> h'.objs.size = st'.n -> (∀ b o, b < lo -> s.heap.get? b = some o -> h'.get? b = some o) -> Q r { s with heap := h', toks := st'.tk }) :
  wpAny (model prog w) A t Q E s := by
 refine (rn_sound fuel).1 α _ t _ _ h A s Q E hA ⟨own, hz, rfl⟩ fun s' R a => ?_
 obtain ⟨hp, g, d, tk, os⟩ := s'
 have := k hp R.own R.size a.keep
 have e1 : g = s.gens := a.gens
 have e2 : d = s.drawn := a.drawn
 have e3 : os = s.os := a.os
 have e4 : tk = st'.tk := R.toks
 subst e1 e2 e3 e4
 exact this
noncomputable def prepObj : Obj := ⟨.type "builtin_function_or_method", none, .fields #[.builtin "type.__prepare__", .type "type"], #[]⟩
theorem prep_get (S : Setting) (tk : Nat) : rn (denote treeTable) S 23 300 (Option Value) ⟨[], 23, tk⟩ (getAttr? (.type "type") "__prepare__") = some (.ok (some (.ref 23)), ⟨[(23, prepObj)], 24, tk + 1⟩) := by kernel_rfl
noncomputable def nsObj : Obj := ⟨.type "dict", none, .dict #[] 0, #[]⟩
theorem prep_call (S : Setting) (tk t : Nat) (x : Str) : rn (denote treeTable) S 24 300 Value ⟨[(23, prepObj)], 24, tk⟩ (call (.ref 23) [.str x t, .ref 22] []) = some (.ok (.ref 24), ⟨[(24, nsObj), (23, prepObj)], 25, tk⟩) := by kernel_rfl
theorem prep_item (S : Setting) (tk : Nat) : rn (denote treeTable) S 25 300 (Option Value) ⟨[(24, nsObj)], 25, tk⟩ (specialOf (.ref 24) "__getitem__") = some (.ok (some (.builtin "dict.__getitem__")), ⟨[(24, nsObj)], 25, tk⟩) := by kernel_rfl
end
structure TypeRun (prog : Program) (w : World) (n : Nat) (sl : List (Str × SV)) (l : List (Str × Value)) (cname : Str) (C : Addr) (P : Heap -> Prop) : Prop where
 go : ∀ (A : Around) (s : Shared) (t : Nat) (Q : Value -> Shared -> Prop) (E : Value -> Shared -> Prop), A.handled = none -> s.heap.objs.size = n -> DictIs s.heap 24 l -> ObjsOK 29 s.heap sl -> s.heap.get? 22 = some ⟨.type "tuple", none, .seq #[] 0, #[]⟩ ->
  s.heap.get? cStatics = some ⟨.none, none, .dict #[] 0, #[]⟩ ->
  (∀ h' tk, P h' -> (∀ b o, b < n -> s.heap.get? b = some o -> h'.get? b = some o) -> n <= h'.objs.size -> Q (.ref C) { s with heap := h', toks := tk }) ->
  wpAny (model prog w) A (call (.type "type") [.str cname t, .ref 22, .ref 24] []) Q E s
theorem mapM_strs {M : Model} {A : Around} {E : Value -> Shared -> Prop} : ∀ (l : List Str) (s : Shared) (Q : List Value -> Shared -> Prop), (∀ x ∈ l, x.length <= sizeLine) -> (∀ vs, vs.length = l.length -> Q vs { s with toks := s.toks + l.length }) -> wpAny M A (l.mapM mkText) Q E s
 | [], s, Q, _, h => by rw [List.mapM_nil]; exact wpAny_pure (h [] rfl)
 | x :: l, s, Q, hx, h => by
  rw [List.mapM_cons]
  refine wpAny_bind (wpAny_mkText (wpAny_bind (mapM_strs l _ _ (fun y hy => hx y (.tail _ hy)) fun vs hv => wpAny_pure ?_)))
  have := h (.str x s.toks :: vs) (by simp [hv])
  simpa only [List.length_cons, Nat.add_assoc, Nat.add_comm 1] using this
noncomputable def statS (n : Nat) : List (Str × SV) := [(Str.ofString "__static_attributes__", SV.ref n .tup)]
noncomputable def headS (xn qual : Str) (fl : Nat) : List (Str × SV) := [(Str.ofString "__module__", SV.str xn), (Str.ofString "__qualname__", SV.str qual), (Str.ofString "__firstlineno__", SV.int fl)]
noncomputable def noRef : SV -> Bool
 | .ref _ _ => false
 | _ => true
theorem headS_objs {xn qual : Str} {fl n₀ : Nat} {h : Heap} : ObjsOK n₀ h (headS xn qual fl) := fun x a k hm => by
 have := List.all_eq_true.mp (show (headS xn qual fl).all (fun p => noRef p.2) = true from rfl) _ hm
 exact nomatch this
theorem not_ns {o : Obj} {x : Option Obj} (hn : x = some nsObj) (e : x = some o) (r : o.data = .plain) : False := by
 rw [<- some_eq (hn.symm.trans e)] at r; cases r
theorem BuiltinsAt.over {h h' : Heap} {mg} {Pl P' : Addr} (b : h.BuiltinsAt mg Pl) (hn : h.get? 24 = some nsObj) (hP : h.objs.size <= P') (k : ∀ b o, b ≠ 24 -> b ≠ Pl -> h.get? b = some o -> h'.get? b = some o) : h'.BuiltinsAt mg P' :=
 b.elim fun bm b => b.elim fun o b =>
 ⟨bm, o, b.1, b.2.1, b.2.2.1, Nat.ne_of_lt (Nat.lt_of_lt_of_le (Heap.lt_size b.2.2.2.2.1) hP), k _ _ (fun q => not_ns hn (q ▸ b.2.2.2.2.1) b.2.2.2.2.2.2.2) b.2.2.2.1 b.2.2.2.2.1, b.2.2.2.2.2⟩
section
variable {prog : Program} {w : World} {A : Around} {E : Value -> Shared -> Prop} {s : Shared}
structure ClsArgs (scope : Scope) (body : List Stmt) (names : List (Str × NameKind)) : Prop where
 kind : scope.kind = .class
 names : scope.names = names
 nocell : ∀ x ∈ scope.names, x.2 ≠ .free /\ x.2 ≠ .cell
 own : ∀ x ∈ (["__name__", "__module__", "__qualname__", "__firstlineno__", "__static_attributes__", "__class__", "__classdict__"] : List Str), scope.names.lookup x = none
 ann : hasAnns body = false
 doc : docOf body = none
theorem build_class {name qual : Str} {body : List Stmt} {scope : Scope} {statics : List Str} {firstLine : Nat} {env : Env} {pos : Pos} {Q : Value -> Shared -> Prop} {names : List (Str × NameKind)}
  {c Pl : Addr} {ps : Array Value} {mg : Str -> Option Value} {xn : Str} {tn : Nat} {nf : Nat} {fin : List (Str × SV)} {C : Addr} {P : List (Str × Value) -> Heap -> Prop}
  (K : ClsArgs scope body names) (hz : s.heap.objs.size = 22) (hA : A.handled = none) (hroom : A.depth + 1 < recursionLimit) (hlim : s.heap.NoLimit)
  (hgl : env.globals = mainGlobals) (hcode : env.code = .ref c) (hok : s.heap.IsCode c Pl ps) (hnf : codeAmong pos ps.toList = none) (hg : s.heap.Ns mainGlobals mg) (hPl : mainGlobals ≠ Pl /\ cStatics ≠ Pl)
  (hb : s.heap.BuiltinsAt mg Pl) (hname : mg "__name__" = some (.str xn tn)) (hst : s.heap.get? cStatics = some ⟨.none, none, .dict #[] 0, #[]⟩)
  (hbody : okBody names 0 29 (headS xn qual firstLine) body = some (nf, fin)) (hstat : ∀ x ∈ statics, x.length <= sizeLine) (hfin : sMem "__static_attributes__" (fin.map (·.1)) = false)
  (hty : ∀ l, SVsAre (fin ++ statS nf) l -> TypeRun prog w (nf + 1) (fin ++ statS nf) l name C (P l))
  (h : ∀ h' l tk, P l h' -> SVsAre (fin ++ statS nf) l -> (∀ st ∈ body, StOK 29 h' (.str xn tn) (qual ++ ".") l st) -> (∀ b o, b < 22 -> b ≠ Pl -> s.heap.get? b = some o -> h'.get? b = some o) ->
   (∃ c', h'.IsCode c Pl (ps ++ #[rawInt pos.line, rawInt pos.col, .ref c'])) -> nf + 1 <= h'.objs.size -> Q (.ref C) { s with heap := h', toks := tk }) :
  wpAny (model prog w) A (buildClass name qual [] [] body scope statics firstLine env pos none) Q E s := by
 unfold buildClass
 refine wpAny_bind (wpAny_newObj_type ?_ (by size_fits))
 refine wpB (a := (([] : List Value), false)) ?_
 refine wpB (a := Value.type "type") ?_
 refine wpB (a := true) ?_
 refine wpAny_ite_true rfl ?_
 refine wpB (a := Value.type "type") ?_
 refine wpMT ?_
 refine wpAny_ite_false rfl ?_
 refine wpAny_bind (wpEq (congrArg (fun n => (pure (Value.ref n) : Sem Value)) hz) (wpAny_pure ?_))
 refine wpAny_holding (wpAny_bind ?_)
 have h22 : (s.heap.push { cls := Value.type "tuple", data := .seq #[] }).get? 22 = some ⟨.type "tuple", none, .seq #[] 0, #[]⟩ := hz ▸ Heap.get?_push_size _ rfl
 have k22 : ∀ b o, s.heap.get? b = some o -> (s.heap.push { cls := Value.type "tuple", data := .seq #[] }).get? b = some o := fun b o e => Heap.get?_push_of_some _ e
 have z22 : (s.heap.push { cls := Value.type "tuple", data := .seq #[] }).objs.size = 23 := by rw [Heap.size_push, hz]
 have lt22 : ∀ b o, s.heap.get? b = some o -> b < 22 := fun b o e => hz ▸ Heap.lt_size e
 generalize (s.heap.push { cls := Value.type "tuple", data := .seq #[] }) = h1 at *
 refine by_rn (prep_get _ _) z22 (fun _ _ e => (nomatch e)) hA fun h2 own2 z2 k2 => ?_
 dsimp only at own2 z2
 refine wpAny_bind (by_rn (prep_call _ _ _ _) z2 own2 hA fun h3 own3 z3 k3 => ?_)
 dsimp only at own3 z3 k3
 refine wpB ?_
 refine wpAny_bind (by_rn (T := [(24, nsObj)]) (prep_item _ _) z3 (fun a o e => own3 a o (by
  simp only [look] at e ⊢
  split at e
  ·exact e
  ·cases e)) hA fun h4 own4 z4 k4 => ?_)
 dsimp only at own4 z4 k4
 refine wpN (by decide) ?_
 refine wpAny_holding ?_
 have nc : ∀ x : Str, scope.names.lookup x = none -> (scope.names.lookup x == some NameKind.cell) = false := fun x e => by rw [e]; rfl
 refine wpF (nc _ (K.own "__class__" (by decide +kernel))) ?_
 refine wpB (a := (Option.none : Option Addr)) ?_
 refine wpF (nc _ (K.own "__classdict__" (by decide +kernel))) ?_
 refine wpB (a := (Option.none : Option Addr)) ?_
 have kk : ∀ b o, s.heap.get? b = some o -> h4.get? b = some o := fun b o e =>
  have hb : @LT.lt Nat _ b 22 := lt22 b o e
  k4 b o (by lia) (k3 b o (by lia) (k2 b o (by lia) (k22 b o e)))
 have h24 : h4.get? 24 = some nsObj := own4 24 _ rfl
 have g22 : h4.get? 22 = some ⟨.type "tuple", none, .seq #[] 0, #[]⟩ := k4 _ _ (by lia) (k3 _ _ (by lia) (k2 _ _ (by lia) h22))
 have hPlt : Pl < 22 := hz ▸ hok.lt.2
 refine wpAny_bind (classCodeE (s := { s with heap := h4, toks := s.toks + 1 + 1 }) hcode (hok.keeps kk) hnf fun c' P' h5 tk5 ec eP x5 z5 hok5 hcode5 => ?_)
 dsimp only at ec eP x5 z5 ⊢
 rw [z4] at ec eP z5
 have hb4 := hb.keeps kk
 have hg5 := (hg.keeps kk).extBut x5 hPl.1
 refine wpAny_bind (wpAny_bf (hgl ▸ hg5) (BuiltinsAt.ext hb4 x5) ?_)
 unfold newBodyFrame
 refine wpAny_bind (wpAny_bind (wpAny_nsGet (hgl ▸ hg5) (wpAny_alloc ?_)))
 have hcl : closureFor scope env = pure [] := closureFor_none fun x hx => (K.nocell x hx).1
 refine wpAny_bind (wpEq hcl (wpAny_pure ?_))
 have z5' : h5.objs.size = 28 := z5
 have hP24 : 24 ≠ Pl := Nat.ne_of_gt (Nat.lt_trans hPlt (by decide))
 generalize hf6 : h5.push _ = h6
 have k6 : ∀ b o, b ≠ Pl -> h4.get? b = some o -> h6.get? b = some o := fun b o hb e => by rw [<- hf6]; exact Heap.get?_push_of_some _ (x5 _ _ hb e)
 have z6 : h6.objs.size = 29 := by rw [<- hf6, Heap.size_push, z5']
 have hok6 : h6.IsCode c Pl (ps ++ #[rawInt pos.line, rawInt pos.col, .ref c']) := by rw [<- hf6]; exact hok5.push _
 have hcode6 : h6.IsCode c' P' #[] := by rw [<- hf6]; exact hcode5.push _
 have D6 : DictIs h6 24 [] := ⟨#[], 0, k6 _ _ hP24 h24, .nil⟩
 have g6 : h6.Ns mainGlobals mg := by rw [<- hf6]; exact hg5.push _
 have lim6 : h6.NoLimit := by
  obtain ⟨mc, a, b⟩ := hlim
  exact ⟨mc, a.at fun o e => k6 _ _ hPl.2 (kk _ _ e), b⟩
 refine wpAny_holding (wpAny_bind (wpAny_enterFrame lim6 (Nat.lt_of_succ_lt hroom) ?_))
 rw [z5']
 dsimp only [Option.map, Option.toList, List.nil_append]
 generalize hce : ({ scope := scope, locals := 24, globals := env.globals, cells := [], qual := qual ++ Str.ofString ".", code := Value.ref c', frame := some 28, builtins := builtinsNs } : Env) = cenv
 have ce1 : cenv.scope = scope := by rw [<- hce]
 have ce2 : cenv.locals = 24 := by rw [<- hce]
 have ce3 : cenv.globals = mainGlobals := by rw [<- hce]; exact hgl
 have ce4 : cenv.code = .ref c' := by rw [<- hce]
 have ce5 : cenv.qual = qual ++ Str.ofString "." := by rw [<- hce]
 have kof : ∀ x : Str, x ∈ (["__name__", "__module__", "__qualname__", "__firstlineno__", "__static_attributes__", "__class__", "__classdict__"] : List Str) -> cenv.kindOf x = none := fun x hx => by
  unfold Env.kindOf; rw [ce1]; exact K.own x hx
 have kcl : cenv.scope.kind = .class := by rw [ce1]; exact K.kind
 have nG24 : mainGlobals ≠ (24 : Addr) := by decide
 have nC24 : cStatics ≠ (24 : Addr) := by decide
 refine wpAny_bind (wpAny_onRaise ?_)
 refine wpAny_bind (class_load0 (s := { s with heap := h6, toks := tk5 }) (l := []) kcl (kof _ (by decide +kernel)) (by decide +kernel) (by rw [ce2]; exact D6) (fun h => (nomatch h)) (by rw [ce3]; exact g6) hname ?_)
 refine wpAny_bind (class_store0 (s := { s with heap := h6, toks := tk5 }) (l := []) kcl (kof _ (by decide +kernel)) (by decide +kernel) (by rw [ce2]; exact D6) (fun h => (nomatch h)) fun h7 D7 s7 => ?_)
 refine wpMT ?_
 refine wpAny_bind (class_store0 (s := { s with heap := h7, toks := tk5 + 1 + 1 }) (l := [("__module__", .str xn tn)]) kcl (kof _ (by decide +kernel)) (by decide +kernel) D7 (sMem_false.mp (show sMem (Str.ofString "__qualname__") [Str.ofString "__module__"] = false from by decide +kernel)) fun h8 D8 s8 => ?_)
 refine wpAny_bind (wpAny_mkInt ?_)
 refine wpAny_bind (class_store0 (s := { s with heap := h8, toks := tk5 + 1 + 1 + 1 + 1 }) (l := [("__module__", .str xn tn), ("__qualname__", .str qual (tk5 + 1))]) kcl (kof _ (by decide +kernel)) (by decide +kernel) D8 (sMem_false.mp (show sMem (Str.ofString "__firstlineno__") [Str.ofString "__module__", Str.ofString "__qualname__"] = false from by decide +kernel)) fun h9 D9 s9 => ?_)
 refine wpAny_pure ?_
 rw [ce2] at D9 s7 s8 s9
 have s79 : Heap.SameBut 24 h6 h9 := (s7.trans s8).trans s9
 have nPl : Pl ≠ 24 := Ne.symm hP24
 have hc24 : c ≠ 24 := Nat.ne_of_lt (Nat.lt_trans (hz ▸ hok.lt.1) (by decide))
 refine wpAny_bind (wpAny_run (codeAny_body K.ann K.doc ?_))
 have CB9 : CB 29 29 h9 24 c' P' mg [("__module__", .str xn tn), ("__qualname__", .str qual (tk5 + 1)), ("__firstlineno__", .int firstLine (tk5 + 1 + 1 + 1))] #[] := by
  refine ⟨D9, hcode6.sameBut s79 (by rw [ec]; decide) (by rw [eP]; decide), g6.sameBut s79 nG24, BuiltinsAt.over hb4 h24 (by rw [z4, eP]; decide) fun b o h1 h2 e => (s79.2 b h1).trans (k6 b o h2 e), by rw [s79.1, z6], Nat.le_refl _, by decide, by rw [eP]; decide, by rw [eP]; decide, nG24, by rw [eP]; decide, by rw [ec]; decide⟩
 refine class_body (mg := mg) (pm := .str xn tn) kcl ce2 ce3 ce4 (by rw [hname]; rfl) body 0 29 (headS xn qual firstLine) _ #[] { s with heap := h9, toks := tk5 + 1 + 1 + 1 + 1 + 1 } _ (by rw [ce1, K.names]; exact hbody) ?_ ?_ CB9 .nil fun h10 l10 ps10 tk10 more B10 em SA10 OB10 OK10 K10 => ?_
 ·exact ⟨rfl, ⟨_, rfl⟩, rfl, ⟨_, rfl⟩, rfl, ⟨_, rfl⟩, trivial⟩
 ·exact headS_objs
 refine wpAny_bind (wpAny_onRaise ?_)
 refine wpAny_bind (mapM_strs statics _ _ hstat fun vs hvs => ?_)
 refine wpAny_bind (wpAny_newTextTuple ?_)
 have B10' := B10
 have z10 := B10.size
 dsimp only at z10 ⊢
 rw [z10]
 generalize hf11 : h10.push _ = h11
 have k11 : ∀ b o, h10.get? b = some o -> h11.get? b = some o := fun b o e => by rw [<- hf11]; exact Heap.get?_push_of_some _ e
 have z11 : h11.objs.size = nf + 1 := by rw [<- hf11, Heap.size_push, z10]
 refine wpAny_bind (class_store0 (s := { s with heap := h11, toks := tk10 + statics.length }) (l := l10) kcl (kof _ (by decide +kernel)) (by decide +kernel) (by rw [ce2]; exact B10.d.at fun o e => k11 _ _ e) (by rw [<- SA10.names]; exact sMem_false.mp hfin) fun h12 D12 s12 => ?_)
 rw [ce2] at D12 s12
 refine wpB (wpAny_pure ?_)
 refine wpF rfl ?_
 have SA12 : SVsAre (fin ++ statS nf) (l10 ++ [(Str.ofString "__static_attributes__", Value.ref nf)]) := SVsAre.snoc (sv := .ref nf .tup) (v := .ref nf) rfl SA10
 have tr := hty _ SA12
 have k12 : ∀ b o, b ≠ 24 -> b ≠ P' -> h9.get? b = some o -> h12.get? b = some o := fun b o h1 h2 e => (s12.2 b h1).trans (k11 _ _ (K10 b o h1 h2 e))
 have k9 : ∀ b o, b ≠ 24 -> b ≠ Pl -> h4.get? b = some o -> h9.get? b = some o := fun b o h1 h2 e => (s79.2 b h1).trans (k6 _ _ h2 e)
 have n26 : ∀ b : Addr, @LT.lt Nat _ b 22 -> b ≠ 24 /\ b ≠ P' := fun b hb => ⟨Nat.ne_of_lt (Nat.lt_trans hb (by decide)), by rw [eP]; exact Nat.ne_of_lt (Nat.lt_trans hb (by decide))⟩
 have old : ∀ b o, @LT.lt Nat _ b 22 -> b ≠ Pl -> s.heap.get? b = some o -> h12.get? b = some o := fun b o hb h2 e =>
  k12 b o (n26 b hb).1 (n26 b hb).2 (k9 b o (n26 b hb).1 h2 (kk b o e))
 refine wpAny_bind (tr.go A { s with heap := h12, toks := tk10 + statics.length + 1 } s.toks _ E hA (by rw [s12.1, z11]) D12 ?_ ?_ ?_ fun h13 tk13 hP k13 z13 => ?_)
 ·have O12 : ObjsOK 29 h12 fin := OB10.keep fun b o hb e => (s12.2 b (Nat.ne_of_gt (Nat.lt_of_lt_of_le (by decide) hb))).trans (k11 _ _ e)
  refine O12.snoc fun a k e => ?_
  cases e
  refine ⟨B10.le, _, (s12.2 nf (Nat.ne_of_gt (Nat.lt_of_lt_of_le (by decide) B10.le))).trans (?_ : h11.get? nf = some { cls := .type "tuple", data := .seq vs.toArray })⟩
  rw [<- hf11, <- z10]; exact Heap.get?_push_size _ rfl
 ·exact k12 22 _ (by decide) (by rw [eP]; decide) (k9 22 _ (by decide) (Ne.symm (Nat.ne_of_lt hPlt)) g22)
 ·exact old cStatics _ (by decide) hPl.2 hst
 ·refine wpAny_pure ?_
  have hlt : 29 <= nf := B10.le
  refine h h13 _ tk13 hP SA12 (fun st hst' => ?_) (fun b o hb h2 e => k13 b o ?_ (old b o hb h2 e)) ⟨c', ?_⟩ z13
  ·have S1 := OK10 st hst'
   rw [ce5] at S1
   refine S1.keep fun b o hb e => ?_
   have hb2 : @LT.lt Nat _ b nf := by rw [<- z10]; exact Heap.lt_size e
   exact k13 b o (Nat.lt_succ_of_lt hb2) ((s12.2 b (Nat.ne_of_gt (Nat.lt_of_lt_of_le (by decide) hb))).trans (k11 _ _ e))
  ·exact Nat.lt_of_lt_of_le hb (by lia)
  ·have hc22 : @LT.lt Nat _ c 22 := hz ▸ hok.lt.1
   have e1 : ∀ b o, (b = c \/ b = Pl) -> h6.get? b = some o -> h13.get? b = some o := fun b o hb e => by
    have hlt : @LT.lt Nat _ b 22 := by rcases hb with rfl | rfl; exact hc22; exact hPlt
    exact k13 b o (Nat.lt_of_lt_of_le hlt (by lia)) (k12 b o (n26 b hlt).1 (n26 b hlt).2 ((s79.2 b (n26 b hlt).1).trans e))
   exact codeKeep hok6 (fun o => e1 _ o (.inl rfl)) fun o => e1 _ o (.inr rfl)
end
set_option backward.match.sparseCases true
noncomputable def svV (t : Nat) : SV -> Value
 | .ref a _ => .ref a
 | .none => .none
 | .bool b => .bool b
 | .int i => .int i t
 | .str s => .str s t
noncomputable def entsOf (hs : Nat -> Int) (ts us : Nat -> Nat) : Nat -> List (Str × SV) -> List DictEntry
 | _, [] => []
 | i, (x, sv) :: r => ⟨hs i, .str x (ts i), svV (us i) sv⟩ :: entsOf hs ts us (i + 1) r
noncomputable def tokOf : Option Value -> Nat
 | some (.int _ t) => t
 | some (.str _ t) => t
 | _ => 0
theorem svV_is {sv : SV} {v : Value} (h : sv.Is v) : svV (tokOf (some v)) sv = v := by
 cases sv <;> first | exact h.symm | (obtain ⟨t, rfl⟩ := h; rfl)
theorem ents_of (full : List DictEntry) {es : List DictEntry} {l : List (Str × Value)} (hE : Ents es l) : ∀ (sl : List (Str × SV)) (pre : List DictEntry), full = pre ++ es -> SVsAre sl l ->
  es = entsOf (fun j => ((full[j]?).map (·.hash)).getD 0) (fun j => tokOf ((full[j]?).map (·.key))) (fun j => tokOf ((full[j]?).map (·.val))) pre.length sl := by
 induction hE with
 | nil =>
  intro sl pre _ h
  cases sl with
  | nil => rfl
  | cons _ _ => exact h.elim
 | @cons en y v t es l a b r ih =>
  intro sl pre e h
  cases sl with
  | nil => exact h.elim
  | cons p sl =>
   have hg : full[pre.length]? = some en := by rw [e, List.getElem?_append_right (Nat.le_refl _), Nat.sub_self]; rfl
   have ih := ih sl (pre ++ [en]) (by rw [e, List.append_assoc]; rfl) h.2.2
   rw [List.length_append] at ih
   refine congr (congrArg List.cons ?_) ih
   dsimp only
   rw [hg]
   have h2 := svV_is (b ▸ h.2.1 : p.2.Is en.val)
   have h1 : p.1 = y := h.1
   show en = ⟨en.hash, .str p.1 (tokOf (some en.key)), svV (tokOf (some en.val)) p.2⟩
   rw [h2, h1, a]
   show en = ⟨en.hash, .str y t, en.val⟩
   rw [<- a]
noncomputable def objsOf (dat : Addr -> Data) : List (Str × SV) -> List (Addr × Obj)
 | [] => []
 | (_, .ref a k) :: r => (a, ⟨.type k.name, none, dat a, #[]⟩) :: objsOf dat r
 | _ :: r => objsOf dat r
theorem objsOf_own {h : Heap} {n₀ : Nat} {dat : Addr -> Data} : ∀ {sl : List (Str × SV)}, (∀ x a k, (x, SV.ref a k) ∈ sl -> h.get? a = some ⟨.type k.name, none, dat a, #[]⟩) -> ∀ a o, look (objsOf dat sl) a = some o -> h.get? a = some o
 | [], _, _, _, e => nomatch e
 | (x, sv) :: r, hh, a, o, e => by
  have ih := objsOf_own (n₀ := n₀) (sl := r) (fun y b k hm => hh y b k (.tail _ hm)) a o
  cases sv with
  | ref b k =>
   simp only [objsOf, look] at e
   split at e
   ·rename_i q
    have := Nat.eq_of_beq_eq_true q
    subst this
    cases e
    exact hh x b k (.head _)
   ·exact ih e
  | _ => exact ih e
noncomputable def TOf (dat : Addr -> Data) (ep : Nat) (hs : Nat -> Int) (ts us : Nat -> Nat) (sl : List (Str × SV)) : List (Addr × Obj) :=
 (22, ⟨.type "tuple", none, .seq #[] 0, #[]⟩) :: (24, ⟨.type "dict", none, .dict (entsOf hs ts us 0 sl).toArray ep, #[]⟩) :: (2, ⟨.none, none, .dict #[] 0, #[]⟩) :: objsOf dat sl
noncomputable def nsBehind (n : Nat) (l : List (Str × SV)) : List (Str × SV) :=
 l.filter (fun p => !sEq p.1 "__qualname__") ++ [(Str.ofString "__dict__", SV.ref (n + 2) .fn), (Str.ofString "__weakref__", SV.ref (n + 3) .fn), (Str.ofString "__doc__", SV.none)]
noncomputable def clsObj (cname qual : Str) (n t q : Nat) : Obj :=
 ⟨.type "type", none, .cls { name := cname, bases := [.type "object"], mro := [.ref (n + 1), .type "object"], ns := n, qualname := qual }, #[none, none, some (.str cname t), some (.str qual q), some (.builtin "object.__new__"), some (.bool true)]⟩
noncomputable def pairOf (e : DictEntry) : Option Str × Value := ((match e.key with | .str x _ => some x | _ => none), e.val)
noncomputable def nsView : Option Obj -> Option (List (Option Str × Value))
 | some ⟨.type "dict", none, .dict es _, sl⟩ => match sl.toList with
  | [] => some (es.toList.map pairOf)
  | _ => none
 | _ => none
noncomputable def viewT (n : Nat) (x : Except Value Value × RS) : (Option Value) × Option (List (Option Str × Value)) × Option Obj := ((match x.1 with | .ok v => some v | .error _ => none), nsView (look x.2.T n), look x.2.T (n + 1))
noncomputable def extraP (n : Nat) : List (Str × Value) := [(Str.ofString "__dict__", .ref (n + 2)), (Str.ofString "__weakref__", .ref (n + 3)), (Str.ofString "__doc__", .none)]
noncomputable def upP (l : List (Str × Value)) : List (Option Str × Value) := l.map fun p => (some p.1, p.2)
set_option tactic.hygienic true in
theorem Ents.of_pairs : ∀ {es : List DictEntry} {l : List (Str × Value)}, es.map pairOf = upP l -> Ents es l
 | [], [], _ => .nil
 | [], _ :: _, h => nomatch h
 | _ :: _, [], h => nomatch h
 | ⟨hh, k, v⟩ :: es, (x, w) :: l, h => by
  simp only [upP, List.map_cons, List.cons.injEq, pairOf, Prod.mk.injEq] at h
  obtain ⟨⟨h1, h2⟩, h3⟩ := h
  have ih := Ents.of_pairs (es := es) (l := l) h3
  cases k <;> simp at h1
  rename_i y t
  exact .cons (t := t) (by rw [<- h1]) h2 ih
set_option tactic.hygienic true in
theorem Ents.pairs : ∀ {es : List DictEntry} {l : List (Str × Value)}, Ents es l -> es.map pairOf = upP l
 | [], [], _ => rfl
 | [], _ :: _, h => nomatch h
 | _ :: _, [], h => nomatch h
 | ⟨hh, k, v⟩ :: es, (x, w) :: l, h => by
  cases h
  rename_i t a b r
  have ih := Ents.pairs r
  dsimp only at a b
  subst a b
  simp only [upP, List.map_cons, pairOf] at ih ⊢
  rw [ih]
structure ClassMade (cname qual : Str) (n : Nat) (l : List (Str × Value)) (h : Heap) : Prop where
 cls : ∃ t q, h.get? (n + 1) = some (clsObj cname qual n t q)
 ns : DictIs h n (l.filter (fun p => !sEq p.1 "__qualname__") ++ extraP n)
set_option tactic.hygienic true in
theorem typeRun_of {prog : Program} {w : World} {n fuel : Nat} {cname qual : Str} {sl : List (Str × SV)} (hn : 29 <= n)
  (hrun : ∀ (dat : Addr -> Data) (ep : Nat) (hs : Nat -> Int) (ts us : Nat -> Nat) (tk t : Nat),
   (rn (denote treeTable) ⟨prog, w.params⟩ n fuel Value ⟨TOf dat ep hs ts us sl, n, tk⟩ (call (.type "type") [.str cname t, .ref 22, .ref 24] [])).map (viewT n) =
    some (some (.ref (n + 1)), some (((entsOf hs ts us 0 sl).map pairOf).filter (fun p => !(match p.1 with | some x => sEq x "__qualname__" | none => false)) ++ upP (extraP n)), some (clsObj cname qual n t (us 1)))) :
  ∀ l, SVsAre sl l -> TypeRun prog w n sl l cname (n + 1) (ClassMade cname qual n l) := by
 intro l SA
 refine ⟨fun A s t Q E hA hz D OB h22 hst h => ?_⟩
 obtain ⟨es, ep, h24, he⟩ := D
 have e1 := ents_of es.toList he sl [] rfl SA
 obtain ⟨hs, ts, us, e1⟩ : ∃ (hs : Nat -> Int) (ts us : Nat -> Nat), es.toList = entsOf hs ts us 0 sl := ⟨_, _, _, e1⟩
 obtain ⟨dat, hdat⟩ : ∃ dat : Addr -> Data, ∀ x a k, (x, SV.ref a k) ∈ sl -> s.heap.get? a = some ⟨.type k.name, none, dat a, #[]⟩ :=
  ⟨fun a => ((s.heap.get? a).map (·.data)).getD .plain, fun x a k hm => by
   obtain ⟨_, d, e⟩ := OB x a k hm
   simp only [e, Option.map_some, Option.getD_some]⟩
 have hr := hrun dat ep hs ts us s.toks t
 obtain ⟨⟨r, st'⟩, hr1, hr2⟩ := Option.map_eq_some_iff.mp hr
 simp only [viewT, Prod.mk.injEq] at hr2
 obtain ⟨v1, v2, v3⟩ := hr2
 cases r with
 | error _ => cases v1
 | ok r =>
  cases v1
  refine by_rn hr1 hz (fun a o e => ?_) hA fun h' own z k => ?_
  ·simp only [TOf, look] at e
   split at e
   ·rename_i q; have := Nat.eq_of_beq_eq_true q; subst this; cases e; exact h22
   ·split at e
    ·rename_i q; have := Nat.eq_of_beq_eq_true q; subst this; cases e
     rw [h24, <- e1]
    ·split at e
     ·rename_i q; have := Nat.eq_of_beq_eq_true q; subst this; cases e; exact hst
     ·exact objsOf_own (n₀ := 29) hdat a o e
  ·refine h h' _ ⟨⟨t, us 1, own _ _ v3⟩, ?_⟩ k ?_
   ·unfold nsView at v2
    split at v2
    ·rename_i es' ep' slt hl
     split at v2
     ·rename_i hs'
      cases (Array.toList_eq_nil_iff.mp hs')
      refine ⟨es', ep', own _ _ hl, Ents.of_pairs ?_⟩
      rw [Option.some.inj v2]
      rw [<- e1, he.pairs]
      simp only [upP, List.map_append, List.filter_map]
      rfl
     ·cases v2
    ·cases v2
   ·have : n + 1 < h'.objs.size := Heap.lt_size (own _ _ v3)
    lia
set_option backward.match.sparseCases false
noncomputable def topEnv (p : Program) (c F : Addr) : Env := { scope := p.main.scope, locals := mainNs, globals := mainNs, cells := [], code := .ref c, frame := some F }
structure MS (n : Nat) (h : Heap) (m₀ : Str -> Option Value) (l : List (Str × Value)) (ps : Array Value) : Prop where
 g : h.Ns mainGlobals (fun x => match l.lookup x with | some v => some v | none => m₀ x)
 code : h.IsCode 13 12 ps
 b : h.BuiltinsAt (fun x => match l.lookup x with | some v => some v | none => m₀ x) 12
 size : h.objs.size = n
 le : 15 <= n
theorem MS.up {h h' : Heap} (k : Keeps2 mainGlobals 12 h h') : ∀ b o, 15 <= b -> h.get? b = some o -> h'.get? b = some o :=
 fun b o hb e => k b o (Nat.ne_of_gt (Nat.lt_of_lt_of_le (by decide) hb)) (Nat.ne_of_gt (Nat.lt_of_lt_of_le (by decide) hb)) e
theorem map_cons {m₀ : Str -> Option Value} {l : List (Str × Value)} {x : Str} {v : Value} :
  (fun y => if y = x then some v else (match l.lookup y with | some v => some v | none => m₀ y)) = fun y => match ((x, v) :: l).lookup y with | some v => some v | none => m₀ y := by
 funext y
 rw [List.lookup_cons]
 by_cases h : y = x
 ·subst h; simp
 ·have : (y == x) = false := by simpa using h
  rw [if_neg h, this]
section
variable {M : Model} {A : Around} {E : Value -> Shared -> Prop} {s : Shared}
theorem mod_store {p : Program} {c F : Addr} {n : Nat} {m₀ l ps} {x : Str} {v : Value} {Q : Unit -> Shared -> Prop} (hk : p.main.scope.kind = .module) (hl : p.main.scope.names.lookup x = some .local) (hb : x ≠ "__builtins__")
  (S : MS n s.heap m₀ l ps) (h : ∀ h', MS n h' m₀ ((x, v) :: l) ps -> Heap.SameBut mainGlobals s.heap h' -> Q () { s with heap := h', toks := s.toks + 1 }) :
  wpAny M A (storeName (topEnv p c F) x v) Q E s := by
 refine wpAny_storeName_local (env := topEnv p c F) hl S.g (fun h' hn hs => h h' ?_ hs) (by show (p.main.scope.kind == .class || (p.main.scope.kind == .module && mainNs != mainNs)) = false; rw [hk]; rfl)
 have e : (fun y => if y = x then some v else (match l.lookup y with | some v => some v | none => m₀ y)) = _ := map_cons (m₀ := m₀) (l := l) (x := x) (v := v)
 have hn' : h'.Ns mainGlobals (fun y => if y = x then some v else (match l.lookup y with | some v => some v | none => m₀ y)) := hn
 rw [e] at hn'
 have hs : Heap.SameBut mainGlobals s.heap h' := hs
 refine ⟨hn', S.code.sameBut hs (by decide) (by decide), ?_, hs.1.trans S.size, S.le⟩
 obtain ⟨bm, o, a, b, c, d, e', f, g, r⟩ := S.b
 refine ⟨bm, o, ?_, b, c, d, (hs.2 bm c).trans e', f, g, r⟩
 have : (("__builtins__" : Str) == x) = false := by simpa using (fun q => hb q.symm : ¬ ("__builtins__" : Str) = x)
 show (match ((x, v) :: l).lookup ("__builtins__" : Str) with | some v => some v | none => m₀ "__builtins__") = _
 rw [List.lookup_cons, this]
 exact a
noncomputable def intK : Const -> Option Int
 | .int i => some i
 | _ => none
noncomputable def conP : Expr -> Option (Const × Nat × Pos)
 | .Constant c k p => some (c, k, p)
 | _ => none
theorem conP_eq {e : Expr} {q : Const × Nat × Pos} (h : conP e = some q) : e = .Constant q.1 q.2.1 q.2.2 := by
 cases e with
 | Constant c k p => rw [<- some_eq h]
 | _ => exact none_some h
noncomputable def okData : Nat -> Expr -> Bool
 | 0, e => e.isPlainConst
 | n + 1, e => match e with
  | .List es _ => es.all (okData n) && Nat.ble es.length 100000
  | _ => e.isPlainConst
inductive DataIs (n₀ : Nat) (h : Heap) : Expr -> Value -> Prop
 | const {c : Const} {k : Nat} {p : Pos} {v : Value} : c.Val v -> DataIs n₀ h (.Constant c k p) v
 | list {es : List Expr} {p : Pos} {a : Addr} {items : List Value} : n₀ <= a -> h.get? a = some { cls := .type "list", data := .seq (List.toArray items) } -> (es.length = items.length) -> (∀ (i : Nat) (e : Expr) (v : Value), es[i]? = some e -> items[i]? = some v -> DataIs n₀ h e v) -> DataIs n₀ h (.List es p) (.ref a)
theorem DataIs.keep {n₀ : Nat} {h h' : Heap} {e : Expr} {v : Value} (D : DataIs n₀ h e v) (k : ∀ b o, n₀ <= b -> h.get? b = some o -> h'.get? b = some o) : DataIs n₀ h' e v := by
 induction D with
 | const c => exact .const c
 | list a g l _ ih => exact .list a (k _ _ a g) l ih
theorem DataIs.weaken {n₀ n₁ : Nat} {h : Heap} {e : Expr} {v : Value} (D : DataIs n₁ h e v) (le : n₀ <= n₁) : DataIs n₀ h e v := by
 induction D with
 | const c => exact .const c
 | list a g l _ ih => exact .list (Nat.le_trans le a) g l ih
noncomputable def DatasAre (n₀ : Nat) (h : Heap) : List Expr -> List Value -> Prop
 | [], [] => True
 | e :: es, v :: vs => DataIs n₀ h e v /\ DatasAre n₀ h es vs
 | _, _ => False
theorem DatasAre.keep {n₀ : Nat} {h h' : Heap} (k : ∀ b o, n₀ <= b -> h.get? b = some o -> h'.get? b = some o) : ∀ {es : List Expr} {vs : List Value}, DatasAre n₀ h es vs -> DatasAre n₀ h' es vs := by
 intro es
 induction es with
 | nil => intro vs h; cases vs with
  | nil => exact trivial
  | cons _ _ => exact h.elim
 | cons e es ih => intro vs h; cases vs with
  | nil => exact h.elim
  | cons _ _ => exact ⟨h.1.keep k, ih h.2⟩
theorem DatasAre.get {n₀ : Nat} {h : Heap} : ∀ (es : List Expr) (vs : List Value), DatasAre n₀ h es vs -> es.length = vs.length /\ ∀ (i : Nat) (e : Expr) (v : Value), es[i]? = some e -> vs[i]? = some v -> DataIs n₀ h e v
 | [], [], _ => ⟨rfl, fun i e v h => none_some h⟩
 | e :: es, v :: vs, hd =>
  have ⟨l, g⟩ := DatasAre.get es vs hd.2
  ⟨congrArg Nat.succ l, fun i e' v' h1 h2 => match i with
   | 0 => some_eq h1 ▸ some_eq h2 ▸ hd.1
   | i + 1 => g i e' v' h1 h2⟩
 | [], _ :: _, hd => hd.elim
 | _ :: _, [], hd => hd.elim
variable {pp : Program} {ww : World}
noncomputable def DataGo (pp : Program) (ww : World) (A : Around) (E : Value -> Shared -> Prop) (env : Env) (ok : Expr -> Bool) (n₀ : Nat) : Prop :=
 ∀ (e : Expr) (s : Shared) (Q : Value -> Shared -> Prop), ok e = true -> n₀ <= s.heap.objs.size ->
   (∀ v h' tk, DataIs n₀ h' e v -> (∀ b o, s.heap.get? b = some o -> h'.get? b = some o) -> s.heap.objs.size <= h'.objs.size -> Q v { s with heap := h', toks := tk }) -> wpAny (model pp ww) A (eval e env) Q E s
theorem star1 {e : Expr} {es : List Expr} {env : Env} (h : ∀ p x, e ≠ .Starred p x) : starEach (e :: es) env = (false, eval e env) :: starEach es env := by
 cases e <;> first | rfl | exact absurd rfl (h _ _)
theorem datas_eval {n₀ : Nat} {env : Env} {pos : Pos} {ok : Expr -> Bool} (hn : ∀ e, ok e = true -> ∀ p x, e ≠ .Starred p x) (one : DataGo pp ww A E env ok n₀) :
  ∀ (es : List Expr) (s : Shared) (Q : List Value -> Shared -> Prop), es.all ok = true -> n₀ <= s.heap.objs.size ->
  (∀ vs h' tk, DatasAre n₀ h' es vs -> (∀ b o, s.heap.get? b = some o -> h'.get? b = some o) -> s.heap.objs.size <= h'.objs.size -> Q vs { s with heap := h', toks := tk }) -> wpAny (model pp ww) A (spliced (backTo pos (starEach es env))) Q E s := by
 intro es
 induction es with
 | nil => exact fun s Q _ _ h => wpAny_items_nil (h [] s.heap s.toks trivial (fun _ _ e => e) (Nat.le_refl _))
 | cons e es ih =>
  intro s Q o hz h
  obtain ⟨o1, o2⟩ := and_t o
  exact wpAny_items_cons (one e s _ o1 hz fun v h₁ tk₁ D₁ k₁ z₁ => ih { s with heap := h₁, toks := tk₁ } _ o2 (Nat.le_trans hz z₁) fun vs h₂ tk₂ D₂ k₂ z₂ =>
   h (v :: vs) h₂ tk₂ ⟨D₁.keep fun b o _ e => k₂ b o e, D₂⟩ (fun b o e => k₂ b o (k₁ b o e)) (Nat.le_trans z₁ z₂)) (star1 (hn e o1))
theorem const_eval {env : Env} (n₀ : Nat) : DataGo pp ww A E env Expr.isPlainConst n₀ := fun e s Q ok _ h => by
 refine wpAny_eval_const ok fun v tk hv => h v s.heap tk ?_ (fun _ _ e => e) (Nat.le_refl _)
 cases e with
 | Constant c k p => exact .const hv
 | _ => exact ff ok
theorem okData_star {n : Nat} {e : Expr} (h : okData n e = true) (p : Expr) (x : Pos) : e ≠ .Starred p x := fun q => by
 rw [q] at h
 cases n <;> exact ff h
theorem data_eval {env : Env} : ∀ (n n₀ : Nat), DataGo pp ww A E env (okData n) n₀ := by
 intro n
 induction n with
 | zero => exact fun n₀ => const_eval n₀
 | succ n ih =>
  intro n₀ e s Q ok hz h
  cases e with
  | List es p =>
   obtain ⟨ok1, ok2⟩ := and_t ok
   refine wpAny_List (datas_eval (pos := p) (ok := okData n) (fun e he => okData_star he) (ih n₀) es s _ ok1 hz fun vs h' tk D k z => ⟨?_, ?_⟩)
   ·rw [<- (DatasAre.get _ _ D).1]
    exact Nat.le_trans (Nat.le_of_ble_eq_true ok2) (by unfold sizeLine; lia)
   ·refine h _ _ tk ?_ (fun b o e => Heap.get?_push_of_some _ (k b o e)) (by rw [Heap.size_push]; exact Nat.le_succ_of_le z)
    have D' : DatasAre n₀ (h'.push { cls := .type "list", data := .seq vs.toArray }) es vs := D.keep fun b o _ e => Heap.get?_push_of_some _ e
    exact .list (Nat.le_trans hz z) (Heap.get?_push_size _ rfl) (DatasAre.get _ _ D').1 (DatasAre.get _ _ D').2
  | _ => exact const_eval n₀ _ s Q ok hz h
end
noncomputable def isDone : PySem.Step -> Bool
 | .halt (.done _) _ => true
 | _ => false
theorem ite_done {c : Prop} [Decidable c] {a b : PySem.Step} (ha : isDone a = false) (hb : isDone b = false) : isDone (if c then a else b) = false := by
 by_cases q : c
 ·rw [if_pos q]; exact ha
 ·rw [if_neg q]; exact hb
theorem no_done {den : Code -> Sem Fin} {p : Program} {w : World} {heap : Heap} {gens : Array GenState} {drawn : Drawn} {toks : Nat} {os : OsState} {cur : Sem Fin} {code : Code} {pos : Pos} {stack : List Frame} (h : ∀ a, cur ≠ .pure a) : isDone (step den p w ⟨heap, gens, drawn, toks, os⟩ ⟨cur, code, pos, stack⟩) = false := by
 cases cur with
 | pure a => exact absurd rfl (h a)
 | raise e =>
  clear h
  cases stack with
  | nil => exact ite_done rfl rfl
  | cons F r => cases F <;> rfl
 | finish e => exact ite_done rfl rfl
 | load a _ k =>
  clear h
  delta step
  dsimp only
  cases heap.get? a <;> rfl
 | update a _ f k => exact ite_done rfl rfl
 | choose src n k => exact ite_done rfl rfl
 | genState g k =>
  clear h
  delta step
  dsimp only
  cases gens[g]? <;> rfl
 | resume g r l k =>
  clear h
  delta step
  dsimp only
  cases gens[g]? with
  | none => rfl
  | some st => cases st with
   | fresh c => cases r with
    | send v => cases v <;> rfl
    | throw e => rfl
   | _ => rfl
 | yield v g0 l kk =>
  clear h
  delta step
  dsimp only
  cases splitAtGen stack <;> rfl
 | _ => rfl
theorem done_cur {den : Code -> Sem Fin} {p : Program} {w : World} {s : Shared} {cur : Sem Fin} {code : Code} {pos : Pos} {stack : List Frame} (h : isDone (step den p w s ⟨cur, code, pos, stack⟩) = true) : through ⟨cur, code, pos, stack⟩ = true := by
 obtain ⟨heap, gens, drawn, toks, os⟩ := s
 by_cases q : ∃ a, cur = .pure a
 ·obtain ⟨a, rfl⟩ := q
  cases a with
  | again c => exact ff h
  | done g =>
   cases stack with
   | nil => rfl
   | cons F r => cases F <;> exact ff h
 ·exact ff ((no_done fun a e => q ⟨a, e⟩).symm.trans h)
theorem step_done {den : Code -> Sem Fin} {p : Program} {w : World} {s s' : Shared} {t : Thread} {f : Flow} (h : step den p w s t = .halt (.done f) s') : through t = true := by
 cases t
 exact done_cur (by rw [h]; rfl)
theorem run_last {p : Program} {w : World} {f : Flow} {s' : Shared} : ∀ (n : Nat) (s : Shared) (t : Thread), runN (denote table) p w n s t = .halted (.done f) s' ->
  (∀ k s₁ t₁, runN (denote table) p w k s t = .running s₁ t₁ -> t₁.calm = true) -> s.asleep -> ∃ m t₁, schedN (denote table) p w m (.single s t) = .running (.single s' t₁) /\ through t₁ = true
 | 0, _, _, h, _, _ => by cases h
 | n + 1, s, t, h, hc, hz => by
  have e := sstep_single (denote table) p w s t (hc 0 s t rfl) hz
  simp only [runN] at h
  cases hs : step (denote table) p w s t with
  | go s₂ t₂ =>
   rw [hs] at h
   rw [hs] at e
   obtain ⟨m, t₁, a, b⟩ := run_last n s₂ t₂ h (fun k s₁ t₁ q => hc (k + 1) s₁ t₁ (by simp only [runN, hs]; exact q)) (Shared.asleep_of_life (step_life _ p w s s₂ t t₂ hs) hz)
   rcases e with e | e
   ·exact ⟨m + 1, t₁, by simp only [schedN, e, Step.lift]; exact a, b⟩
   ·cases e
  | halt o₂ s₂ =>
   rw [hs] at h
   cases h
   have := step_halt_same (denote table) p w s s' t _ hs
   subst this
   exact ⟨0, t, rfl, step_done hs⟩
theorem top_through {prog : Program} {w : World} {t : Sem Fin} {s : Shared} {R : Shared -> Prop} (hreg : s.asleep) (hg0 : s.gens = #[])
  (h : wpAny (model prog w) callerA t (fun fin s' => ∃ f, fin = .done f /\ R s' /\ s'.gens = #[]) (fun _ _ => False) s) :
  ∃ n t₁ s₁, schedN (denote table) prog w n (.single s ⟨t, .builtin "claim.caller" {}, default, []⟩) = .running (.single s₁ t₁) /\ through t₁ = true /\ s₁.heap.life = s.heap.life /\ R s₁ /\ s₁.gens = #[] := by
 have h' := wp_of_wpAny_done (R := fun r s' => ((∃ f, r = .ok f) /\ R s' /\ s'.gens = #[]) /\ leftWithCleanup s'.gens = false) caller_in
  (wpAny_mono h (fun _ _ ⟨f, e, a, b⟩ => ⟨f, e, ⟨⟨f, rfl⟩, a, b⟩, by rw [b]; simp [leftWithCleanup]⟩) fun _ _ x => x.elim) default
 obtain ⟨n, r, s₁, hn, ⟨f, rfl⟩, hR, hg⟩ := (wp_iff_halts (M := model prog w) (R := fun r s' => (∃ f, r = .ok f) /\ R s' /\ s'.gens = #[]) ..).mp h'
 obtain ⟨s₂, hr, hf, hc⟩ := runNI_real _ _ _ hn (outcomeOf_ends _)
 obtain rfl : s₂ = s₁ := Shared.eq_of_forget_eq hf hg
 obtain ⟨m, t₁, a, b⟩ := run_last n s _ hr hc hreg
 exact ⟨m, t₁, s₂, a, b, runN_life _ _ _ hr, hR, hg⟩
inductive MOK (h : Heap) (l : List (Str × Value)) : Stmt -> Prop
 | def_ {name : Str} {args body scope pos a dv dV c' pm} : name ≠ ("__name__" : Str) -> l.lookup name = some (.ref a) -> FnAt 15 h a name name args body scope pm dv dV c' -> MOK h l (.FunctionDef name args body [] none [] scope none name pos)
 | data {x : Str} {p e p2 v} : x ≠ ("__name__" : Str) -> l.lookup x = some v -> DataIs 15 h e v -> MOK h l (.Assign [.Name x p] e p2)
 | name {p e p2} : MOK h l (.Assign [.Name "__name__" p] e p2)
theorem MOK.keep {h h' : Heap} {l more : List (Str × Value)} {st : Stmt} (S : MOK h l st) (k : ∀ b o, 15 <= b -> h.get? b = some o -> h'.get? b = some o)
  (hm : ∀ x : Str, x ≠ ("__name__" : Str) -> (l.lookup x).isSome = true -> more.lookup x = none) : MOK h' (more ++ l) st := by
 have lk : ∀ (x : Str) v, x ≠ ("__name__" : Str) -> l.lookup x = some v -> (more ++ l).lookup x = some v := fun x v hx e => by
  rw [List.lookup_append, hm x hx (by rw [e]; rfl)]; exact e
 cases S with
 | def_ n a f => exact .def_ n (lk _ _ n a) (f.keep k)
 | data n a d => exact .data n (lk _ _ n a) (d.keep k)
 | name => exact .name
noncomputable def okName (names : List (Str × NameKind)) (x : Str) : Bool := isLocal names x && !sEq x "__builtins__" && !sMem x laidNames
structure MStep where
 L : Nat
 x : Str
noncomputable def okMfd (names : List (Str × NameKind)) (L : Nat) (bound : List Str) (f : FD) : Option MStep :=
 if okDef f.args f.scope f.body && isLocal names f.name && !sMem f.name bound && Nat.ble L f.pos.line && okName names f.name && !sEq f.name "__name__" then some ⟨f.pos.line + 1, f.name⟩ else none
noncomputable def okMas (names : List (Str × NameKind)) (L : Nat) (bound : List Str) (x : Str) (e : Expr) : Option MStep :=
 if okData 6 e && isLocal names x && (!sMem x bound || sEq x "__name__") && okName names x then some ⟨L, x⟩ else none
noncomputable def okMod (names : List (Str × NameKind)) (L : Nat) (bound : List Str) (st : Stmt) : Option MStep := orB (fdP st) (okMfd names L bound) (optB (asP st) fun q => okMas names L bound q.1 q.2.2.1)
noncomputable def okMods (names : List (Str × NameKind)) (L : Nat) (bound : List Str) : List Stmt -> Option (Nat × List Str)
 | [] => some (L, bound)
 | st :: r => optB (okMod names L bound st) fun S => okMods names S.L (S.x :: bound) r
theorem okName_ne {names : List (Str × NameKind)} {x : Str} (h : okName names x = true) : x ≠ ("__builtins__" : Str) := by
 unfold okName at h
 simp only [Bool.and_eq_true, Bool.not_eq_true'] at h
 exact fun e => by have h := h.1.2; rw [sEq_iff.mpr e] at h; cases h
theorem okName_bound {p : Program} {x : Str} (h : okName p.main.scope.names x = true) : p.boundNames.contains x = true /\ laidNames.contains x = false /\ x ≠ ("__builtins__" : Str) := by
 have h3 := okName_ne h
 unfold okName at h
 simp only [Bool.and_eq_true, Bool.not_eq_true'] at h
 refine ⟨?_, ?_, h3⟩
 ·have hl := isLocal_spec h.1.1
  rw [List.contains_iff_mem]
  unfold Program.boundNames
  refine List.mem_map.mpr ⟨(x, .local), List.mem_filter.mpr ⟨?_, rfl⟩, rfl⟩
  revert hl
  generalize p.main.scope.names = N
  intro hl
  induction N with
  | nil => cases hl
  | cons y r ih =>
   obtain ⟨y1, y2⟩ := y
   rw [List.lookup_cons] at hl
   split at hl
   ·rename_i q
    cases hl
    rw [beq_iff_eq.mp q]; exact .head _
   ·exact .tail _ (ih hl)
 ·have := sMem_false.mp h.2
  cases hq : laidNames.contains x with
  | false => rfl
  | true => exact absurd (List.contains_iff_mem.mp hq) this
theorem lookup_here {α : Type} {x : Str} {v : α} {l : List (Str × α)} : ((x, v) :: l).lookup x = some v := by rw [List.lookup_cons, beq_self_eq_true]
theorem sEq_false {a b : Str} (h : sEq a b = false) : a ≠ b := fun e => by rw [sEq_iff.mpr e] at h; cases h
theorem empty_append (x : Str) : Str.empty ++ x = x := by
 cases x with
 | mk a => show Str.mk (#[] ++ a) = _; simp
section
variable {pp : Program} {ww : World} {A : Around} {E : Value -> Shared -> Prop} {s : Shared}
theorem mod_def {p : Program} {F : Addr} {n L : Nat} {m₀ l ps} {name : Str} {args : Arguments} {body : List Stmt} {scope : Scope} {pos : Pos} {Q : Flow -> Shared -> Prop}
  (hk : p.main.scope.kind = .module) (ok : okDef args scope body = true) (hl : p.main.scope.names.lookup name = some .local) (hb : name ≠ ("__builtins__" : Str)) (S : MS n s.heap m₀ l ps) (T : TL L ps.toList) (hL : L <= pos.line)
  (h : ∀ h' ps' tk a dv dV c' pm, MS (n + defSize args body) h' m₀ ((name, .ref a) :: l) ps' -> TL (pos.line + 1) ps'.toList -> FnAt 15 h' a name name args body scope pm dv dV c' -> a = n + (defSize args body - 1) -> Keeps2 mainGlobals 12 s.heap h' -> Q .next { s with heap := h', toks := tk }) :
  wpAny (model pp ww) A (exec (.FunctionDef name args body [] none [] scope none name pos) (topEnv p 13 F)) Q E s := by
 refine def_make (env := topEnv p 13 F) (c := 13) (Pl := 12) ok rfl rfl S.code (T.none hL) (by decide) S.g S.b fun c' dv dV h₁ tk hx hz Fn hok => ?_
 have hq : qualnameIn (topEnv p 13 F) name name = name := by
  unfold qualnameIn
  rw [show (topEnv p 13 F).kindOf name = some .local from hl]
  exact empty_append name
 rw [hq] at Fn
 have B1 : h₁.BuiltinsAt (fun x => match l.lookup x with | some v => some v | none => m₀ x) 12 := by
  obtain ⟨bm, o, a, b, c, d, e', f, g, r⟩ := S.b
  exact ⟨bm, o, a, b, c, d, hx _ _ d e', f, g, r⟩
 have S₁ : MS (n + defSize args body) h₁ m₀ l (ps ++ #[rawInt pos.line, rawInt pos.col, .ref c']) := ⟨S.g.extBut hx (by decide), hok, B1, by rw [hz, S.size], Nat.le_add_right_of_le S.le⟩
 refine wpAny_bindName (mod_store (s := { s with heap := h₁, toks := tk }) hk hl hb S₁ fun h₂ S₂ hs => ?_)
 have K : Keeps2 mainGlobals 12 s.heap h₂ := fun b o h1 h2 e => (hs.2 b h1).trans (hx b o h2 e)
 refine h h₂ _ _ _ dv dV c' _ S₂ ?_ ((Fn.weaken (by rw [S.size]; exact S.le)).keep fun b o hb e => (hs.2 b (Nat.ne_of_gt (Nat.lt_of_lt_of_le (by decide) hb))).trans e) (by rw [S.size]) K
 have : (ps ++ #[rawInt ↑pos.line, rawInt ↑pos.col, Value.ref c']).toList = ps.toList ++ [rawInt ↑pos.line, rawInt ↑pos.col, Value.ref c'] := by simp
 rw [this]
 exact T.snoc (by lia) (by lia)
inductive OkM (names : List (Str × NameKind)) (L : Nat) (bound : List Str) : Stmt -> MStep -> Prop
 | def_ {name : Str} {args : Arguments} {body : List Stmt} {scope : Scope} {pos : Pos} (q2 : okDef args scope body = true) (q3 : isLocal names name = true) (q4 : sMem name bound = false) (q5 : L <= pos.line) (q6 : okName names name = true) (q7 : sEq name "__name__" = false) :
   OkM names L bound (.FunctionDef name args body [] none [] scope none name pos) ⟨pos.line + 1, name⟩
 | asg {x : Str} {p₁ p₂ : Pos} {e : Expr} (q1 : okData 6 e = true) (q2 : isLocal names x = true) (q3 : sMem x bound = false \/ sEq x "__name__" = true) (q4 : okName names x = true) : OkM names L bound (.Assign [.Name x p₁] e p₂) ⟨L, x⟩
theorem or_t {a b : Bool} (h : (a || b) = true) : a = true \/ b = true := by cases a <;> cases b <;> first | exact .inl rfl | exact .inr rfl | cases h
theorem okMod_spec {names : List (Str × NameKind)} {L : Nat} {bound : List Str} {st : Stmt} {S : MStep} (h : okMod names L bound st = some S) : OkM names L bound st S := by
 rcases orB_iff h with ⟨f, hf, h⟩ | h
 ·rw [fdP_spec hf]
  obtain ⟨q, e⟩ := if_some rfl h
  obtain ⟨q, q7⟩ := and_t q
  obtain ⟨q, q6⟩ := and_t q
  obtain ⟨q, q5⟩ := and_t q
  obtain ⟨q, q4⟩ := and_t q
  obtain ⟨q2, q3⟩ := and_t q
  exact some_eq e ▸ .def_ q2 q3 (not_t q4) (Nat.le_of_ble_eq_true q5) q6 (not_t q7)
 ·obtain ⟨q, hq, h⟩ := optB_iff h
  rw [asP_spec hq]
  obtain ⟨q, e⟩ := if_some rfl h
  obtain ⟨q, q4⟩ := and_t q
  obtain ⟨q, q3⟩ := and_t q
  obtain ⟨q1, q2⟩ := and_t q
  exact some_eq e ▸ .asg q1 q2 ((or_t q3).imp not_t id) q4
structure ModR (names : List (Str × NameKind)) (m₀ : Str -> Option Value) (n : Nat) (h : Heap) (l : List (Str × Value)) (st : Stmt) (S : MStep) (h₁ : Heap) (n₁ : Nat) (ps₁ : Array Value) (v : Value) : Prop where
 ms : MS n₁ h₁ m₀ ((S.x, v) :: l) ps₁
 le : n <= n₁
 tl : TL S.L ps₁.toList
 new : S.x ≠ ("__name__" : Str) -> S.x ∉ l.map (·.1)
 ok : MOK h₁ ((S.x, v) :: l) st
 nm : okName names S.x = true
 keep : Keeps2 mainGlobals 12 h h₁
theorem mod_one {p : Program} {F : Addr} {m₀} (hk : p.main.scope.kind = .module) {st : Stmt} {R : MStep} {L n : Nat} {l : List (Str × Value)} {ps : Array Value} {Q : Flow -> Shared -> Prop} (sp : OkM p.main.scope.names L (l.map (·.1)) st R) (S : MS n s.heap m₀ l ps) (T : TL L ps.toList)
  (rest : ∀ n₁ h₁ ps₁ tk v, ModR p.main.scope.names m₀ n s.heap l st R h₁ n₁ ps₁ v -> Q .next { s with heap := h₁, toks := tk }) : wpAny (model pp ww) A (exec st (topEnv p 13 F)) Q E s := by
 cases sp with
 | def_ q2 q3 q4 q5 q6 q7 =>
  exact mod_def hk q2 (isLocal_spec q3) (okName_ne q6) S T q5 fun h₁ ps₁ tk a dv dV c' pm S₁ T₁ Fn ea K =>
   rest _ h₁ ps₁ tk (.ref a) ⟨S₁, Nat.le_add_right _ _, T₁, fun _ => sMem_false.mp q4, .def_ (sEq_false q7) lookup_here Fn, q6, K⟩
 | @asg x p₁ p₂ e1 q1 q2 q3 q4 =>
  refine wpAny_Assign_Name (hs := by cases e1 <;> first | rfl | cases q1) (data_eval 6 15 e1 s _ q1 (by rw [S.size]; exact S.le) fun v h₁ tk D k z => ?_)
  have S₁ : MS h₁.objs.size h₁ m₀ l ps := ⟨S.g.keeps k, S.code.keeps k, S.b.keeps k, rfl, Nat.le_trans S.le (by rw [<- S.size]; exact z)⟩
  refine mod_store (s := { s with heap := h₁, toks := tk }) hk (isLocal_spec q2) (okName_ne q4) S₁ fun h₂ S₂ hs => ?_
  have up : ∀ b o, 15 <= b -> h₁.get? b = some o -> h₂.get? b = some o := fun b o hb e => (hs.2 b (Nat.ne_of_gt (Nat.lt_of_lt_of_le (by decide) hb))).trans e
  refine rest _ h₂ ps (tk + 1) v ⟨S₂, by rw [<- S.size]; exact z, T, fun hn => ?_, ?_, q4, fun b o h1 h2 e => (hs.2 b h1).trans (k b o e)⟩
  ·exact q3.elim sMem_false.mp fun q3 => absurd (sEq_iff.mp q3) hn
  ·cases hn : sEq x "__name__" with
   | true =>
    have := sEq_iff.mp hn
    subst this
    exact .name
   | false => exact .data (sEq_false hn) lookup_here (D.keep up)
theorem mod_body {p : Program} {F : Addr} {m₀} (hk : p.main.scope.kind = .module) {Lf : Nat} {fin : List Str} {tail : List Stmt} : ∀ (body : List Stmt) (L n : Nat) (l : List (Str × Value)) (ps : Array Value) (s : Shared) (Q : Flow -> Shared -> Prop),
  okMods p.main.scope.names L (l.map (·.1)) body = some (Lf, fin) -> MS n s.heap m₀ l ps -> TL L ps.toList ->
  (∀ n' h' ps' tk more, MS n' h' m₀ (more ++ l) ps' -> n <= n' -> TL Lf ps'.toList -> (∀ x : Str, x ≠ ("__name__" : Str) -> (l.lookup x).isSome = true -> more.lookup x = none) -> (∀ st ∈ body, MOK h' (more ++ l) st) -> (∀ x ∈ more.map (·.1), okName p.main.scope.names x = true) -> Keeps2 mainGlobals 12 s.heap h' -> wpAny (model pp ww) A (execs tail (topEnv p 13 F)) Q E { s with heap := h', toks := tk }) ->
  wpAny (model pp ww) A (execs (body ++ tail) (topEnv p 13 F)) Q E s := by
 intro body
 induction body with
 | nil =>
  intro L n l ps s Q ok S T h
  cases ok
  exact h n s.heap ps s.toks [] S (Nat.le_refl _) T (fun _ _ _ => rfl) (fun _ hm => (nomatch hm)) (fun _ hm => (nomatch hm)) (Keeps2.refl _ _ _)
 | cons st r ih =>
  intro L n l ps s Q ok S T h
  obtain ⟨R, e, ok⟩ := optB_iff ok
  refine wpAny_execs_cons (mod_one hk (okMod_spec e) S T fun n₁ h₁ ps₁ tk v X => ?_)
  refine ih R.L n₁ ((R.x, v) :: l) ps₁ { s with heap := h₁, toks := tk } Q ok X.ms X.tl fun n' h' ps' tk' more S' le' T' hm' O' ON' K' => ?_
  have e' : more ++ (R.x, v) :: l = (more ++ [(R.x, v)]) ++ l := (List.append_assoc more [(R.x, v)] l).symm
  rw [e'] at S' O'
  refine h n' h' ps' tk' (more ++ [(R.x, v)]) S' (Nat.le_trans X.le le') T' (fun y hy hs => ?_) (fun st' hm => ?_) (fun y hy => ?_) (X.keep.trans K')
  ·have hyx : y ≠ R.x := fun q => by
    rw [q, lookup_none_of (X.new (q ▸ hy))] at hs; cases hs
   have e2 : (y == R.x) = false := beq_eq_false_iff_ne.mpr hyx
   rw [List.lookup_append, hm' y hy (by rw [List.lookup_cons, e2]; exact hs), List.lookup_cons, e2]
   rfl
  ·refine (List.mem_cons.mp hm).elim (fun q => ?_) (O' st')
   rw [q, <- e']
   exact X.ok.keep (more := more) (fun b o hb e => MS.up K' b o hb e) hm'
  ·rw [List.map_append, List.mem_append] at hy
   refine hy.elim (ON' y) fun hy => ?_
   rw [List.mem_singleton.mp hy]; exact X.nm
end
theorem exec_class (name : Str) (body : List Stmt) (scope : Scope) (ts : Option Scope) (bind : Str) (statics : List Str) (pos : Pos) (env : Env) :
  exec (.ClassDef name [] [] body [] [] scope ts bind statics pos) env = (do
   let decos <- evalAll []
   standAt pos
   buildClassGuard env
   let c <- holding decos do
    let a <- evalArgs (.builtin "__build_class__") false [] []
    standAt pos
    holding (a.pos ++ a.kw.map (·.2)) (buildClass name (qualnameIn env name bind) a.pos a.kw body scope statics (firstLineOf [] pos) env pos none)
   let c <- decorate (decos.zip []).reverse c
   standAt pos
   bindName env bind c
   pure .next) := by rfl
section
variable {M : Model} {A : Around} {E : Value -> Shared -> Prop} {s : Shared}
theorem wpAny_class {name : Str} {body : List Stmt} {scope : Scope} {ts : Option Scope} {bind : Str} {statics : List Str} {pos : Pos} {env : Env} {mb} {Q : Flow -> Shared -> Prop}
  (hb : s.heap.Ns env.builtins mb) (hbc : mb "__build_class__" = some (.builtin "__build_class__"))
  (h : wpAny M A (buildClass name (qualnameIn env name bind) [] [] body scope statics pos.line env pos none) (fun c s' => wpAny M A (storeName env bind c) (fun _ s'' => Q .next s'') E s') E s) :
  wpAny M A (exec (.ClassDef name [] [] body [] [] scope ts bind statics pos) env) Q E s := by
 rw [exec_class]
 refine wpAny_bind (wpAny_evalAll_nil (wpAny_bind (wpAny_standAt (wpAny_bind ?_))))
 unfold buildClassGuard
 refine wpAny_bind (wpAny_nsGet hb ?_)
 rw [hbc]
 refine wpAny_pure (wpAny_bind (wpAny_holding (wpAny_bind ?_)))
 unfold evalArgs
 refine wpAny_bind (Calls.spliced_nil ?_)
 refine wpAny_bind (wpAny_pure ?_)
 refine wpAny_holding ?_
 refine wpI (by rfl) ?_
 refine wpAny_bind (wpAny_evalAll_nil (wpAny_bind (wpAny_pure (wpAny_pure ?_))))
 refine wpAny_bind (wpAny_standAt (wpAny_holding ?_))
 refine wpAny_mono h (fun c s' h' => ?_) fun _ _ e => e
 refine wpAny_bind (wpAny_pure (wpAny_bind (wpAny_standAt (wpAny_bind (wpAny_bindName ?_)))))
 exact wpAny_mono h' (fun _ _ q => wpAny_pure q) fun _ _ e => e
end
noncomputable def topTree (p : Program) : Sem Fin := do
 let code <- moduleCode p.main
 let frame <- newBodyFrame code mainNs mainNs
 let _ <- run (.body (behindTheImports p) { scope := p.main.scope, locals := mainNs, globals := mainNs, cells := [], code, frame := some frame })
 ret .none
theorem topStub_eq (p : Program) : topStub p = ⟨topTree p, .builtin "claim.caller" {}, default, []⟩ := rfl
noncomputable def topA (p : Program) : Around := (callerA.mark none).deeper (topEnv p 13 14)
noncomputable def m0 (P : Params) : Str -> Option Value := (boot_heap P).nsMap 3
structure AtRest (P : Params) (wn xn cname : Str) (cbody : List Stmt) (L nf : Nat) (fin : List (Str × SV)) (h : Heap) (t : Tok) (l : List (Str × Value)) (n : Nat) (ps : Array Value) : Prop where
 ms : MS n h (m0 P) [(cname, .ref (nf + 1 + 1)), (("__name__" : Str), .str xn t), (wn, .ref 21)] ps
 tl : TL L ps.toList
 cls : ClassMade cname cname (nf + 1) l h
 sv : SVsAre (fin ++ statS nf) l
 ok : ∀ st ∈ cbody, StOK 29 h (.str xn t) (cname ++ ".") l st
 keep : ∀ b o, b < 11 -> b ≠ 3 -> (boot_heap P).get? b = some o -> h.get? b = some o
theorem top_walk {p : Program} {w : World} {s : Shared} {wn : Str} {wa : Arguments} {wb : List Stmt} {wsc : Scope} {wpos np cp ap : Pos} {kk : Nat} {xn cname : Str} {cbody : List Stmt} {csc : Scope} {cst : List Str} {cpos : Pos} {rest : List Stmt}
  {names : List (Str × NameKind)} {nf : Nat} {fin : List (Str × SV)} {R : Shared -> Prop} {ts : Option Scope}
  (hs : s.heap = boot_heap w.params)
  (hb : behindTheImports p = .FunctionDef wn wa wb [] none [] wsc none wn wpos :: .Assign [.Name "__name__" np] (.Constant (.str xn) kk cp) ap :: .ClassDef cname [] [] cbody [] [] csc ts cname cst cpos :: rest)
  (hann : hasAnns (behindTheImports p) = false) (hdoc : docOf (behindTheImports p) = none) (hk : p.main.scope.kind = .module)
  (okw : okDef wa wsc wb = true) (hsz : defSize wa wb = 7) (hwl : isLocal p.main.scope.names wn = true) (hwb : sEq wn "__builtins__" = false) (hwn : sEq wn "__name__" = false)
  (hnl : isLocal p.main.scope.names "__name__" = true) (hcl : isLocal p.main.scope.names cname = true) (hcb : sEq cname "__builtins__" = false) (hln : wpos.line + 1 <= cpos.line)
  (okc : (Expr.Constant (.str xn) kk cp).isPlainConst = true)
  (hnf : 29 <= nf) (K : ClsArgs csc cbody names) (hbody : okBody names 0 29 (headS xn cname cpos.line) cbody = some (nf, fin)) (hstat : ∀ x ∈ cst, x.length <= sizeLine) (hfin : sMem "__static_attributes__" (fin.map (·.1)) = false)
  (hty : ∀ l, SVsAre (fin ++ statS nf) l -> TypeRun p w (nf + 1) (fin ++ statS nf) l cname (nf + 1 + 1) (ClassMade cname cname (nf + 1) l))
  (h : ∀ h' tk t l n ps, AtRest w.params wn xn cname cbody (cpos.line + 1) nf fin h' t l n ps -> wpAny (model p w) (topA p) (execs rest (topEnv p 13 14)) (fun f s' => f = .next /\ R s' /\ s'.gens = #[]) (fun _ _ => False) { s with heap := h', toks := tk }) :
  wpAny (model p w) callerA (topTree p) (fun fin s' => ∃ f, fin = .done f /\ R s' /\ s'.gens = #[]) (fun _ _ => False) s := by
 unfold topTree moduleCode
 have z0 : s.heap.objs.size = 11 := by rw [hs]; rfl
 refine wpAny_bind (wpAny_bind (wpAny_fresh (newCodeE0 fun c P h1 tk1 ec k1 z1 eP hcode1 => ?_)))
 dsimp only at ec eP k1 z1
 have ec' : c = 13 := ec.trans (congrArg (· + 2) z0)
 have eP' : P = 12 := eP.trans (congrArg (· + 1) z0)
 have z1' : h1.objs.size = 14 := by rw [z1, z0]
 subst ec' eP'
 have kb : ∀ b o, (boot_heap w.params).get? b = some o -> h1.get? b = some o := fun b o e => k1 b o (by rw [hs]; exact e)
 have g0 : (boot_heap w.params).Ns mainGlobals (m0 w.params) := .of_isNs (by kernel_rfl)
 have b0 : (boot_heap w.params).Ns builtinsNs ((boot_heap w.params).nsMap builtinsNs) := .of_isNs (by kernel_rfl)
 have st0 : (boot_heap w.params).get? cStatics = some ⟨.none, none, .dict #[] 0, #[]⟩ := by rfl
 have bm0 : (boot_heap w.params).get? 4 = some { cls := .type "module", dict := some 0 } := by rfl
 unfold newBodyFrame
 refine wpAny_bind (wpAny_bind (wpAny_nsGet (g0.keeps kb) (wpAny_alloc ?_)))
 dsimp only
 rw [z1']
 generalize hf2 : h1.push _ = h2
 have k2 : ∀ b o, h1.get? b = some o -> h2.get? b = some o := fun b o e => by rw [<- hf2]; exact Heap.get?_push_of_some _ e
 have z2 : h2.objs.size = 15 := by rw [<- hf2, Heap.size_push, z1']
 have kb2 : ∀ b o, (boot_heap w.params).get? b = some o -> h2.get? b = some o := fun b o e => k2 b o (kb b o e)
 have S2 : MS 15 h2 (m0 w.params) [] #[] := by
  refine ⟨g0.keeps kb2, hcode1.keeps k2, ⟨4, _, by kernel_rfl, by decide, by decide, by decide, kb2 _ _ bm0, rfl, rfl, rfl⟩, z2, by decide⟩
 refine wpAny_bind (wpAny_run (codeAny_body hann hdoc ?_))
 show wpAny (model p w) (topA p) (execs (behindTheImports p) (topEnv p 13 14)) _ _ _
 rw [hb]
 have done : ∀ f s', f = Flow.next /\ R s' /\ s'.gens = #[] -> wpAny (model p w) callerA (ret .none) (fun fin s' => ∃ f, fin = .done f /\ R s' /\ s'.gens = #[]) (fun _ _ => False) s' :=
  fun f s' hx => wpAny_pure ⟨_, rfl, hx.2⟩
 refine wpAny_execs_cons ?_
 refine mod_def (s := { s with heap := h2, toks := tk1 }) hk okw (isLocal_spec hwl) (sEq_false hwb) S2 (L := 0) .nil (Nat.zero_le _) fun h3 ps3 tk3 a3 dv dV c' pm S3 T3 F3 ea K3 => ?_
 rw [hsz] at S3 ea
 have ea' : a3 = 21 := ea
 subst ea'
 dsimp only
 refine wpAny_execs_cons ?_
 refine wpAny_Assign_Name (wpAny_eval_const okc fun v tk4 hv => ?_)
 obtain ⟨t, rfl⟩ : ∃ t, v = .str xn t := hv
 refine mod_store (s := { s with heap := h3, toks := tk4 }) hk (isLocal_spec hnl) (sEq_false (by decide +kernel)) S3 fun h4 S4 s4 => ?_
 dsimp only
 refine wpAny_execs_cons ?_
 have K4 : Keeps2 mainGlobals 12 h2 h4 := fun b o h1 h2 e => (s4.2 b h1).trans (K3 b o h1 h2 e)
 have old4 : ∀ b o, b ≠ 3 -> b ≠ 12 -> (boot_heap w.params).get? b = some o -> h4.get? b = some o := fun b o h1 h2 e => K4 b o h1 h2 (kb2 b o e)
 have hst4 := old4 cStatics _ (by decide) (by decide) st0
 refine wpAny_class (mb := (boot_heap w.params).nsMap builtinsNs) ?_ (by kernel_rfl) ?_
 ·obtain ⟨o, es, ep, e, r⟩ := b0
  exact ⟨o, es, ep, old4 builtinsNs _ (by decide) (by decide) e, r⟩
 have hq : qualnameIn (topEnv p 13 14) cname cname = cname := by
  unfold qualnameIn
  rw [show (topEnv p 13 14).kindOf cname = some .local from isLocal_spec hcl]
  exact empty_append cname
 rw [hq]
 have T3' : TL (wpos.line + 1) ps3.toList := T3
 refine build_class (s := { s with heap := h4, toks := tk4 + 1 }) (env := topEnv p 13 14) (c := 13) (Pl := 12) (tn := t) (P := fun l h => ClassMade cname cname (nf + 1) l h) (C := nf + 1 + 1) K S4.size rfl ?_ ⟨_, .of_isNs ?_, ?_⟩ rfl rfl S4.code (T3'.none hln) S4.g ⟨by decide, by decide⟩ S4.b ?_ hst4 hbody hstat hfin hty ?_
 ·show callerA.depth + 1 + 1 < recursionLimit
  decide +kernel
 ·show (h4.isNs cStatics) = true
  unfold Heap.isNs; rw [hst4]; simp
 ·show (h4.nsMap cStatics) "sys.recursionlimit" = none
  unfold Heap.nsMap; rw [hst4]; simp [nsFind, findBy]
 ·rfl
 intro h5 l tk5 P5 SA5 OK5 k5 ⟨c5, hcode5⟩ z5
 have lt22 : ∀ b o, h4.get? b = some o -> b < 22 := fun b o e => by have := Heap.lt_size e; rw [S4.size] at this; exact this
 have kx5 : ∀ b o, b ≠ 12 -> h4.get? b = some o -> h5.get? b = some o := fun b o hb e => k5 b o (lt22 b o e) hb e
 have S5 : MS h5.objs.size h5 (m0 w.params) [(("__name__" : Str), .str xn t), (wn, .ref 21)] (ps3 ++ #[rawInt cpos.line, rawInt cpos.col, .ref c5]) := by
  refine ⟨?_, hcode5, ?_, rfl, ?_⟩
  ·obtain ⟨o, es, ep, e, r⟩ := S4.g
   exact ⟨o, es, ep, kx5 _ _ (by decide) e, r⟩
  ·obtain ⟨bm, o, a, b, c, d, e', f, g, r⟩ := S4.b
   exact ⟨bm, o, a, b, c, d, kx5 _ _ d e', f, g, r⟩
  ·lia
 refine mod_store (s := { s with heap := h5, toks := tk5 }) hk (isLocal_spec hcl) (sEq_false hcb) S5 fun h6 S6 s6 => ?_
 have up : ∀ b o, b ≠ 3 -> h5.get? b = some o -> h6.get? b = some o := fun b o hb e => (s6.2 b hb).trans e
 have hR := h h6 (tk5 + 1) t l _ _ ⟨S6, ?_, ?_, SA5, ?_, ?_⟩
 ·refine wpAny_mono hR (fun f s' hx => done f s' hx) fun _ _ hx => hx.elim
 ·have : (ps3 ++ #[rawInt ↑cpos.line, rawInt ↑cpos.col, Value.ref c5]).toList = ps3.toList ++ [rawInt ↑cpos.line, rawInt ↑cpos.col, Value.ref c5] := by simp
  rw [this]
  exact T3'.snoc (by lia) (by lia)
 ·obtain ⟨⟨t', q, e⟩, d⟩ := P5
  refine ⟨⟨t', q, up _ _ ?_ e⟩, d.at fun o e => up _ _ ?_ e⟩
  ·exact fun q => absurd (show nf + 1 + 1 = 3 from q) (by lia)
  ·exact fun q => absurd (show nf + 1 = 3 from q) (by lia)
 ·intro st hst
  have := (OK5 st hst).keep (more := []) (h' := h6) (fun b o hb e => up b o (Nat.ne_of_gt (Nat.lt_of_lt_of_le (by decide) hb)) e)
  simpa using this
 ·intro b o hb h3' e
  exact up b o h3' (kx5 b o (Nat.ne_of_lt (Nat.lt_trans hb (by decide))) (old4 b o h3' (Nat.ne_of_lt (Nat.lt_trans hb (by decide))) e))
structure TopEnd (p : Program) (P : Params) (h : Heap) (l : List (Str × Value)) : Prop where
 g : h.Ns mainGlobals (fun x => match l.lookup x with | some v => some v | none => m0 P x)
 keep : ∀ b o, b < 11 -> b ≠ 3 -> (boot_heap P).get? b = some o -> h.get? b = some o
 bound : ∀ x ∈ l.map (·.1), p.boundNames.contains x = true /\ laidNames.contains x = false /\ x ≠ ("__builtins__" : Str)
theorem boot_g (P : Params) : (boot_heap P).isNs mainGlobals = true := by kernel_rfl
theorem boot_b (P : Params) : (boot_heap P).isNs builtinsNs = true := by kernel_rfl
theorem boot_view (P : Params) : (boot_heap P).bltView = bltViewBooted := by kernel_rfl
theorem boot_keys (P : Params) : (boot_heap P).nsKeys mainGlobals = startupNames := by kernel_rfl
theorem boot_st (P : Params) : (boot_heap P).get? cStatics = some ⟨.none, none, .dict #[] 0, #[]⟩ := by rfl
theorem boot_bm (P : Params) : (boot_heap P).get? 4 = some { cls := .type "module", dict := some 0 } := by rfl
theorem m0_bm (P : Params) : m0 P "__builtins__" = some (.ref 4) := by kernel_rfl
section
variable {p : Program} {w : World} {h : Heap} {l : List (Str × Value)}
theorem TopEnd.global (T : TopEnd p w.params h l) (x : Str) : globalOf h x = match l.lookup x with | some v => some v | none => m0 w.params x := by
 obtain ⟨o, es, ep, ho, hd, _, hf⟩ := T.g
 unfold globalOf
 rw [show h.get? mainNs = some o from ho]
 dsimp only
 rw [hd]
 exact hf x
theorem TopEnd.st (T : TopEnd p w.params h l) (key : Str) : staticOf h key = none := by
 unfold staticOf
 rw [T.keep cStatics _ (by decide) (by decide) (boot_st _)]
 simp
theorem TopEnd.out (T : TopEnd p w.params h l) {x : Str} (hx : p.boundNames.contains x = false \/ laidNames.contains x = true \/ x = ("__builtins__" : Str)) : l.lookup x = none := by
 refine lookup_none_of fun hm => ?_
 obtain ⟨a, b, c⟩ := T.bound x hm
 rcases hx with q | q | q
 ·rw [a] at q; cases q
 ·rw [b] at q; cases q
 ·exact c q
theorem boot_globalOf (P : Params) (x : Str) : globalOf (boot_heap P) x = m0 P x := Pin.globalOf_eq (boot_g P) x
theorem topRan_of {s₀ : Shared} {X : Heap -> List (Str × Value) -> Prop} (h0 : s₀.heap = boot_heap w.params) (hg0 : s₀.gens = #[]) (hz : s₀.asleep)
  (hw : wpAny (model p w) callerA (topTree p) (fun fin s' => ∃ f, fin = .done f /\ (∃ l, TopEnd p w.params s'.heap l /\ X s'.heap l /\ s'.os = s₀.os) /\ s'.gens = #[]) (fun _ _ => False) s₀) :
  ∃ s₁ l, TopRan p w s₀ s₁ /\ TopEnd p w.params s₁.heap l /\ X s₁.heap l /\ s₁.gens = #[] /\ s₁.asleep := by
 obtain ⟨n, t₁, s₁, hn, ht, hl, ⟨l, T, hX, hos⟩, hg⟩ := top_through (R := fun s' => ∃ l, TopEnd p w.params s'.heap l /\ X s'.heap l /\ s'.os = s₀.os) hz hg0 hw
 refine ⟨s₁, l, ⟨⟨n, t₁, hn, ht⟩, hl, Shared.rest_eq hos, fun b o hb hno => ?_, fun key v hk => ?_, fun key => .inl ?_, Pin.keysAreStrs_of_ns T.g, ?_, ?_, ?_, fun x v hx => ?_, fun x hx => ?_⟩, T, hX, hg, Shared.asleep_of_life hl hz⟩
 ·rw [h0] at hb
  exact T.keep b o (Heap.lt_size hb) (fun q => hno (.inl q)) hb
 ·rw [T.st] at hk; cases hk
 ·rw [T.st, h0]
  unfold staticOf
  rw [boot_st]
  simp
 ·intro x hx
  have hb : builtinOf s₁.heap x = builtinOf (boot_heap w.params) x := by
   obtain ⟨o, es, ep, ho, _⟩ := Heap.Ns.of_isNs (boot_b w.params)
   unfold builtinOf
   rw [T.keep _ _ (by decide) (by decide) ho, ho]
  rw [hb]
  exact (Pin.builtinOf_eq (boot_b _) x).trans (Heap.of_bltView (boot_b _) (boot_view _) x hx)
 ·refine ⟨4, _, ?_, T.keep 4 _ (by decide) (by decide) (boot_bm _), rfl, rfl⟩
  rw [T.global, T.out (.inr (.inr rfl))]
  exact m0_bm _
 ·intro g hgm
  rw [hg] at hgm
  exact absurd hgm (Array.not_mem_empty g)
 ·rw [T.global] at hx
  cases hq : l.lookup x with
  | some v' =>
   refine .inr ?_
   have hm : x ∈ l.map (·.1) := by
    apply Classical.byContradiction
    intro hn
    rw [lookup_none_of hn] at hq; cases hq
   exact List.contains_iff_mem.mp (T.bound x hm).1
  | none =>
   rw [hq] at hx
   refine .inl ?_
   apply Classical.byContradiction
   intro hn
   have : m0 w.params x = none := Heap.nsMap_none (a := mainGlobals) (by rw [boot_keys]; exact hn)
   have hx : m0 w.params x = some v := hx
   rw [this] at hx; cases hx
 ·rw [T.global, T.out (.inr (.inl (List.contains_iff_mem.mpr hx))), h0]
  exact (boot_globalOf _ _).symm
end
noncomputable def isI (v : Value) (j : Int) : Prop := match v with
 | .int i _ => i = j
 | _ => False
noncomputable def IntsAre : List Value -> List Int -> Prop
 | [], [] => True
 | v :: vs, j :: xs => isI v j /\ IntsAre vs xs
 | _, _ => False
theorem int_of {cl : Str -> Option Addr} {h : Heap} {d : WData} {v : Value} {as : List Addr} (hi : WShape.has [] d .int = true) (r : ReadsW [] cl h v d as) : ∃ i, isI v i := by
 cases r with
 | int i t => exact ⟨i, rfl⟩
 | _ => exact ff hi
theorem ints_of {cl : Str -> Option Addr} {h : Heap} : ∀ (ds : List WData) (vs : List Value) (as : List Addr), WShape.hasItems [] ds .int = true -> ReadsAllW [] cl h vs ds as -> ∃ xs, IntsAre vs xs
 | [], vs, as, _, r => by cases r; exact ⟨[], trivial⟩
 | d :: ds, vs, as, hi, r => by
  cases r with
  | cons r1 r2 =>
   rw [WShape.hasItems] at hi
   obtain ⟨h1, h2⟩ := and_t hi
   obtain ⟨i, hx⟩ := int_of h1 r1
   obtain ⟨xs, hxs⟩ := ints_of ds _ _ h2 r2
   exact ⟨i :: xs, hx, hxs⟩
noncomputable def CallOK (p : Program) (name : Str) (X : World -> Heap -> List (Str × Value) -> Prop) : Prop :=
 ∀ (w : World) (h₁ : Heap) (l : List (Str × Value)) (s : Shared) (a : Addr) (o : Obj) (items : Array Value) (n : Nat) (xs : List Int), TopEnd p w.params h₁ l -> X w h₁ l -> (∀ b o, h₁.get? b = some o -> s.heap.get? b = some o) -> s.gens = #[] ->
  s.heap.get? a = some o -> o.cls = .type "list" -> o.data = .seq items n -> IntsAre items.toList xs -> xs.length <= 63 ->
  ∃ f, l.lookup name = some f /\ wpAny (model p w) callerA (PySem.call f [.ref a]) (fun v s' => v = .bool true /\ OldK s.heap s'.heap /\ s'.os = s.os /\ AllBare s'.gens) (fun _ _ => False) s
theorem ints_length : ∀ {vs : List Value} {xs : List Int}, IntsAre vs xs -> xs.length = vs.length
 | [], [], _ => rfl
 | [], _ :: _, h => h.elim
 | _ :: _, [], h => h.elim
 | _ :: vs, _ :: xs, h => congrArg Nat.succ (ints_length (vs := vs) (xs := xs) h.2)
theorem reads_length {cl : Str -> Option Addr} {h : Heap} : ∀ {ds : List WData} {vs : List Value} {as : List Addr}, ReadsAllW [] cl h vs ds as -> ds.length = vs.length
 | [], _, _, r => by cases r; rfl
 | d :: ds, _, _, r => by
  cases r with
  | cons r1 r2 => rw [List.length_cons, List.length_cons, reads_length r2]
theorem most_of {l : OpenLaw} (h : l.most = some 63) {ds : List WData} (q : l.row.toRowW.pre.holds l.row.toRowW.records { args := [.list ds] } = true) : ds.length <= 63 := by
 have q : WTm.holds [] l.pre { args := [.list ds] } = true := q
 unfold WTm.holds OpenLaw.pre at q
 rw [h] at q
 apply Classical.byContradiction
 intro hn
 have hlt : (63 : Int) < ds.length := by lia
 have hl : less? (.int 63) (.int ds.length) = some true := by simp [less?, Num.less?, hlt]
 have e1 : WTm.value [] (.lt (.lit (.int 63)) (.len (.arg 0))) { args := [.list ds] } = some (.bool true) := by
  simp [WTm.value, hl]
 have e2 : WTm.value [] (.not (.lt (.lit (.int 63)) (.len (.arg 0)))) { args := [.list ds] } = some (.bool false) := by
  rw [WTm.value, e1]; rfl
 rw [WTm.value] at q
 have e2' : WTm.value [] (match some 63 with
      | some n => ((WTm.lit (WData.int (n : Nat))).lt (WTm.arg 0).len).not
      | none => WTm.lit (WData.bool true)) { args := [.list ds] } = some (.bool false) := e2
 rw [e2'] at q
 cases q
inductive IsIntList (h : Heap) (v : Value) (d : WData) : Prop
 | mk (a : Addr) (o : Obj) (items : Array Value) (n : Nat) (xs : List Int) (ds : List WData) (e : v = .ref a) (ho : h.get? a = some o) (hc : o.cls = .type "list") (hd : o.data = .seq items n) (hx : IntsAre items.toList xs) (e2 : d = .list ds) (hl : ds.length = items.toList.length) : IsIntList h v d
theorem list_of {cl : Str -> Option Addr} {h : Heap} {d : WData} {v : Value} {as : List Addr} (hi : WShape.has [] d (.list .int) = true) (r : ReadsW [] cl h v d as) : IsIntList h v d := by
 cases r with
 | list ho hc hd hr =>
  obtain ⟨xs, hx⟩ := ints_of _ _ _ ((Bool.or_false _).symm.trans hi) hr
  exact ⟨_, _, _, _, xs, _, rfl, ho, hc, hd, hx, rfl, reads_length hr⟩
 | _ => exact ff hi
theorem one_list {cl : Str -> Option Addr} {h : Heap} {vs : List Value} {args : List WData} {as : List Addr} (hha : WShape.hasAll [] args [.list .int] = true) (hrd : ReadsAllW [] cl h vs args as) (hm : ∀ {ds : List WData}, args = [.list ds] -> ds.length <= 63) :
  ∃ a o items n xs, vs = [.ref a] /\ h.get? a = some o /\ o.cls = .type "list" /\ o.data = .seq items n /\ IntsAre items.toList xs /\ xs.length <= 63 := by
 obtain ⟨d, r, rfl, e2, e3⟩ := hasAllW_cons hha
 obtain rfl := hasAllW_nil e3
 cases hrd with
 | cons r1 r2 =>
  cases r2
  obtain ⟨a, o, items, n, xs, ds, rfl, ho, hc, hd, hx, rfl, hl⟩ := list_of e2 r1
  exact ⟨a, o, items, n, xs, rfl, ho, hc, hd, hx, by rw [ints_length hx, <- hl]; exact hm rfl⟩
theorem law_holds {l : OpenLaw} {X : World -> Heap -> List (Str × Value) -> Prop} (hmost : l.most = some 63) (k1 : l.row.wellSaid = true) (hwr : l.writes = false) (hop : opensWell l.prog = true) (hb : l.prog.bare) (hw : l.row.toRowW.promised)
  (hopen : opening l.prog = plainProg l.prog.main.scope.names) (hfence : ∀ s, fenceModules? l.prog s = some s)
  (walk : ∀ (w : World) (s : Shared), s.heap = boot_heap w.params -> s.gens = #[] -> wpAny (model l.prog w) callerA (topTree l.prog) (fun fin s' => ∃ f, fin = .done f /\ (∃ m, TopEnd l.prog w.params s'.heap m /\ X w s'.heap m /\ s'.os = s.os) /\ s'.gens = #[]) (fun _ _ => False) s)
  (pin : ∀ w h m, TopEnd l.prog w.params h m -> X w h m -> isTheDefsW l.prog h l.name)
  (hcall : CallOK l.prog l.name X) : l.row.Holds := by
 refine ⟨k1, hw, ⟨hb, hop, rfl⟩, hw.witness, fun w => ?_⟩
 have h := boot_open (p := l.prog) (N := 600) hopen rfl hfence w
 rw [<- table_eq_tree] at h
 obtain ⟨s₀, h1, e⟩ := Option.map_eq_some_iff.mp h
 obtain ⟨sA, h4, h5⟩ := Option.bind_eq_some_iff.mp h1
 have A := AfterImport.of_importEnds h4
 refine ⟨⟨sA, A⟩, fun s' hs' => ?_⟩
 obtain rfl : s' = sA := AfterImport.unique hs' A
 have z : s₀.asleep := Shared.asleep_of_life (fence_lifeW h5) A.life
 have eh : s₀.heap = boot_heap w.params := congrArg (fun x => x.1) e
 have eg : s₀.gens = #[] := congrArg (fun x => x.2.1) e
 obtain ⟨s₁, m, hT, T, hX, hg, hz⟩ := topRan_of (p := l.prog) (w := w) (X := X w) eh eg z (walk w s₀ eh eg)
 refine ⟨s₀, h5, eg, s₁, hT, fun n hn => ?_, fun x hx => (nomatch hx), fun x hx => (nomatch hx), ?_⟩
 ·have : n = l.name := List.mem_singleton.mp hn
  subst this
  exact pin w s₁.heap m T hX
 ·refine ClaimW.callFrom_of_specG (c := l.row.toRowW.claim) (tree := fun vs => do match <- nsGet mainNs l.name with
   | some f => do ret (<- PySem.call f vs)
   | none => unsupported "claim.caller:no-such-global") hz hg fun args hpre hlay ord hord => ?_
  have hha : WShape.hasAll [] args [.list .int] = true := (pre_splitW (r := l.row.toRowW) hpre).1
  obtain ⟨⟨vs, s₂⟩, hlaid⟩ := Option.isSome_iff_exists.mp (layAllW_isSome (cl := classAt s₁.heap) (P := w.params) (ord := ord) (R := []) (by intro c hc; exact (nomatch hc)) args [.list .int] s₁ hha)
  have keeps := layAllW_keeps _ _ _ hlaid
  have hal := layAllW_rest _ _ _ hlaid
  obtain ⟨as, hrd, hin, hold⟩ := reads_layAllW hord _ _ _ hlaid hlay s₂.heap (fun _ _ e => e)
  have L : Laid [] w s₁ s₂ args vs as := ⟨⟨ord, hord, hlaid⟩, hrd, hin, hold, keeps, hal.1.trans hg, hal.2.2.1⟩
  obtain ⟨a, o, items, n, xs, rfl, ho, hc, hd, hx, hlen⟩ := one_list hha hrd fun e => most_of hmost (e ▸ (pre_splitW (r := l.row.toRowW) hpre).2)
  obtain ⟨f, hf, hcl⟩ := hcall w s₁.heap m s₂ a o items n xs T hX keeps L.gens ho hc hd hx hlen
  refine ⟨_, s₂, hlaid, wpAny_bind (wpAny_nsGet (T.g.keeps keeps) ?_)⟩
  rw [hf]
  refine wpAny_bind (wpAny_mono hcl (fun v s' ⟨hv, hK, hos, hgn⟩ => wpAny_pure ⟨_, rfl, ?_⟩) fun _ _ q => q.elim)
  subst hv
  have g : GoodWG l.row.toRowW.claim (classAt s₁.heap) (ExcName.means s₁.heap) args s₂ (.ok (.ret (.bool true))) s' := by
   refine ⟨.inl ⟨.bool true, .bool true, [], rfl, fun _ => rfl, .bool true, ?_, fun _ => ⟨List.nodup_nil, fun a ha => (nomatch ha)⟩⟩, hK, hos, hgn⟩
   show (WShape.has [] (.bool true) .bool && WTm.holds [] (.eq .res (.lit (.bool true))) { args := args, res := some (.bool true), after := args }) = true
   kernel_rfl
  have zz := g.laid (c := l.row.toRowW.claim) rfl rfl (ident_freeW (r := l.row.toRowW) rfl rfl rfl) L
  exact ⟨zz.1, zz.2.1, zz.2.2, fun q => absurd (show l.writes = true from q) (by rw [hwr]; exact Bool.false_ne_true)⟩
theorem law_holds' {l : OpenLaw} (hmost : l.most = some 63) (p : Program) (nm : Str) (hp : l.prog = p) (hn : l.name = nm) {X : World -> Heap -> List (Str × Value) -> Prop} (k1 : l.row.wellSaid = true) (hwr : l.writes = false) (hop : opensWell p = true) (hb : p.bare) (hw : l.row.toRowW.promised)
  (hopen : opening p = plainProg p.main.scope.names) (hfence : ∀ s, fenceModules? p s = some s)
  (walk : ∀ (w : World) (s : Shared), s.heap = boot_heap w.params -> s.gens = #[] -> wpAny (model p w) callerA (topTree p) (fun fin s' => ∃ f, fin = .done f /\ (∃ m, TopEnd p w.params s'.heap m /\ X w s'.heap m /\ s'.os = s.os) /\ s'.gens = #[]) (fun _ _ => False) s)
  (pin : ∀ w h m, TopEnd p w.params h m -> X w h m -> isTheDefsW p h nm)
  (hcall : CallOK p nm X) : l.row.Holds := by
 subst hp hn
 exact law_holds hmost k1 hwr hop hb hw hopen hfence walk pin hcall
structure Shape where
 wn : Str
 wa : Arguments
 wb : List Stmt
 wsc : Scope
 wpos : Pos
 np : Pos
 xn : Str
 kk : Nat
 cp : Pos
 ap : Pos
 cname : Str
 cbody : List Stmt
 csc : Scope
 ts : Option Scope
 cst : List Str
 cpos : Pos
 rest : List Stmt
noncomputable def Shape.stmts (S : Shape) : List Stmt :=
 .FunctionDef S.wn S.wa S.wb [] none [] S.wsc none S.wn S.wpos :: .Assign [.Name "__name__" S.np] (.Constant (.str S.xn) S.kk S.cp) S.ap :: .ClassDef S.cname [] [] S.cbody [] [] S.csc S.ts S.cname S.cst S.cpos :: S.rest
structure ClsP where
 name : Str
 body : List Stmt
 scope : Scope
 ts : Option Scope
 st : List Str
 pos : Pos
noncomputable def clsP : Stmt -> Option ClsP
 | .ClassDef name _ _ body _ _ scope ts _ st pos => some ⟨name, body, scope, ts, st, pos⟩
 | _ => none
noncomputable def strK : Const -> Option Str
 | .str s => some s
 | _ => none
noncomputable def shapeOf : List Stmt -> Option Shape
 | a :: b :: c :: rest => optB (fdP a) fun f => optB (asP b) fun q => optB (conP q.2.2.1) fun k => optB (strK k.1) fun xn => optB (clsP c) fun d =>
  some ⟨f.name, f.args, f.body, f.scope, f.pos, q.2.1, xn, k.2.1, k.2.2, q.2.2.2, d.name, d.body, d.scope, d.ts, d.st, d.pos, rest⟩
 | _ => none
noncomputable def Program.shape (p : Program) (h : (shapeOf p.main.body).isSome = true) : Shape := (shapeOf p.main.body).get h
noncomputable def isClassKind : ScopeKind -> Bool
 | .class => true
 | _ => false
noncomputable def noCellK : NameKind -> Bool
 | .free => false
 | .cell => false
 | _ => true
noncomputable def noCells : List (Str × NameKind) -> Bool
 | [] => true
 | p :: r => noCellK p.2 && noCells r
noncomputable def ownNames : List Str := ["__name__", "__module__", "__qualname__", "__firstlineno__", "__static_attributes__", "__class__", "__classdict__"]
noncomputable def okClsArgs (S : Shape) : Bool := isClassKind S.csc.kind && noCells S.csc.names && ownNames.all (fun x => (sLook x S.csc.names).isNone) && !hasAnns S.cbody && (docOf S.cbody).isNone
theorem noCellK_iff {k : NameKind} (h : noCellK k = true) : k ≠ .free /\ k ≠ .cell := by
 cases k with
 | free => exact ff h
 | cell => exact ff h
 | _ => exact ⟨nofun, nofun⟩
theorem noCells_spec : ∀ {l : List (Str × NameKind)}, noCells l = true -> ∀ x ∈ l, x.2 ≠ .free /\ x.2 ≠ .cell
 | [], _, _, hx => nomatch hx
 | _ :: r, h, x, hx => (List.mem_cons.mp hx).elim (fun e => e ▸ noCellK_iff (and_t h).1) (noCells_spec (l := r) (and_t h).2 x)
theorem isClassKind_eq {k : ScopeKind} (h : isClassKind k = true) : k = .class := by cases k <;> first | rfl | exact ff h
theorem okClsArgs_spec {S : Shape} (h : okClsArgs S = true) : ClsArgs S.csc S.cbody S.csc.names := by
 obtain ⟨h, h5⟩ := and_t h
 obtain ⟨h, h4⟩ := and_t h
 obtain ⟨h, h3⟩ := and_t h
 obtain ⟨h1, h2⟩ := and_t h
 exact ⟨isClassKind_eq h1, rfl, noCells_spec h2, fun x hx => (sLook_eq ..).symm.trans (Option.isNone_iff_eq_none.mp (List.all_eq_true.mp h3 x hx)), not_t h4, none_of h5⟩
structure TopOut where
 nf : Nat
 fin : List (Str × SV)
noncomputable def isModKind : ScopeKind -> Bool
 | .module => true
 | _ => false
noncomputable def okTop (p : Program) (S : Shape) (nf : Nat) : Bool :=
 !hasAnns p.main.body && (docOf p.main.body).isNone && isModKind p.main.scope.kind && okDef S.wa S.wsc S.wb && Nat.beq (defSize S.wa S.wb) 7 && okName p.main.scope.names S.wn && !sEq S.wn "__name__" &&
 okName p.main.scope.names "__name__" && okName p.main.scope.names S.cname && Nat.ble (S.wpos.line + 1) S.cpos.line && (Expr.Constant (.str S.xn) S.kk S.cp).isPlainConst && Nat.ble 29 nf && okClsArgs S &&
 S.cst.all (fun x => Nat.ble x.length 100000)
noncomputable def finOf (S : Shape) : Option (Nat × List (Str × SV)) := okBody S.csc.names 0 29 (headS S.xn S.cname S.cpos.line) S.cbody
theorem opt_pair {α β : Type} {o : Option (α × β)} {a : α} (i : o.isSome = true) (h : o.map (·.1) = some a) : o = some (a, (o.get i).2) := by
 cases o with
 | none => cases i
 | some x => cases x; cases h; rfl
theorem opt_some {α β : Type} {o : Option α} {f : α -> β} {b : β} (h : o.map f = some b) : o.isSome = true := by
 cases o with
 | none => cases h
 | some x => rfl
theorem opt_snd {α β γ : Type} {o : Option α} {f : α -> β} {g : α -> γ} {b : β} {c : γ} (h : o.map (fun x => (f x, g x)) = some (b, c)) : o.map f = some b /\ ∀ i, g (o.get i) = c := by
 cases o with
 | none => cases h
 | some x => cases h; exact ⟨rfl, fun _ => rfl⟩
theorem top_walk' {p : Program} {w : World} {s : Shared} {S : Shape} {nf : Nat} {fin : List (Str × SV)} {R : Shared -> Prop}
  (hs : s.heap = boot_heap w.params) (hd : behindTheImports p = p.main.body) (hb : p.main.body = S.stmts) (ok : okTop p S nf = true) (hfin : finOf S = some (nf, fin)) (hst : sMem "__static_attributes__" (fin.map (·.1)) = false)
  (hrun : ∀ (dat : Addr -> Data) (ep : Nat) (hs : Nat -> Int) (ts us : Nat -> Nat) (tk t : Nat),
   (rn (denote treeTable) ⟨p, w.params⟩ (nf + 1) 3000 Value ⟨TOf dat ep hs ts us (fin ++ statS nf), nf + 1, tk⟩ (call (.type "type") [.str S.cname t, .ref 22, .ref 24] [])).map (viewT (nf + 1)) =
    some (some (.ref (nf + 1 + 1)), some (((entsOf hs ts us 0 (fin ++ statS nf)).map pairOf).filter (fun p => !(match p.1 with | some x => sEq x "__qualname__" | none => false)) ++ upP (extraP (nf + 1))), some (clsObj S.cname S.cname (nf + 1) t (us 1))))
  (h : ∀ h' tk t l n ps, AtRest w.params S.wn S.xn S.cname S.cbody (S.cpos.line + 1) nf fin h' t l n ps -> wpAny (model p w) (topA p) (execs S.rest (topEnv p 13 14)) (fun f s' => f = .next /\ R s' /\ s'.gens = #[]) (fun _ _ => False) { s with heap := h', toks := tk }) :
  wpAny (model p w) callerA (topTree p) (fun fin s' => ∃ f, fin = .done f /\ R s' /\ s'.gens = #[]) (fun _ _ => False) s := by
 unfold okTop at ok
 simp only [Bool.and_eq_true, Bool.not_eq_true', Option.isNone_iff_eq_none, List.all_eq_true] at ok
 obtain ⟨⟨⟨⟨⟨⟨⟨⟨⟨⟨⟨⟨⟨o1, o2⟩, o3⟩, o4⟩, o5⟩, o6⟩, o7⟩, o8⟩, o9⟩, o10⟩, o11⟩, o12⟩, o13⟩, o14⟩ := ok
 have loc : ∀ {x : Str}, okName p.main.scope.names x = true -> isLocal p.main.scope.names x = true := fun h => by
  unfold okName at h; simp only [Bool.and_eq_true] at h; exact h.1.1
 have nb : ∀ {x : Str}, okName p.main.scope.names x = true -> sEq x "__builtins__" = false := fun h => by
  unfold okName at h; simp only [Bool.and_eq_true, Bool.not_eq_true'] at h; exact h.1.2
 have hsh := hb
 refine top_walk hs (hd.trans hsh) (by rw [hd]; exact o1) (by rw [hd]; exact o2) ?_ o4 (Nat.eq_of_beq_eq_true o5) (loc o6) (nb o6) o7 (loc o8) (loc o9) (nb o9) (Nat.le_of_ble_eq_true o10) o11 (Nat.le_of_ble_eq_true o12) (okClsArgs_spec o13) hfin
  (fun x hx => Nat.le_trans (Nat.le_of_ble_eq_true (o14 x hx)) (by unfold sizeLine; lia)) hst (typeRun_of (by have := Nat.le_of_ble_eq_true o12; lia) hrun) h
 cases hk : p.main.scope.kind <;> rw [hk] at o3 <;> first | rfl | cases o3
structure TopX (S : Shape) (nf : Nat) (fin : List (Str × SV)) (P : Params) (h : Heap) (m : List (Str × Value)) : Prop where
 cls : ∃ t l, ClassMade S.cname S.cname (nf + 1) l h /\ SVsAre (fin ++ statS nf) l /\ ∀ st ∈ S.cbody, StOK 29 h (.str S.xn t) (S.cname ++ ".") l st
 look : m.lookup S.cname = some (.ref (nf + 1 + 1))
theorem AtRest.after {P : Params} {wn xn cname : Str} {cbody : List Stmt} {L nf : Nat} {fin : List (Str × SV)} {h h' : Heap} {t : Tok} {l : List (Str × Value)} {n : Nat} {ps : Array Value} (hnf : 29 <= nf) (R : AtRest P wn xn cname cbody L nf fin h t l n ps) (K : Keeps2 mainGlobals 12 h h') :
  (ClassMade cname cname (nf + 1) l h' /\ SVsAre (fin ++ statS nf) l /\ ∀ st ∈ cbody, StOK 29 h' (.str xn t) (cname ++ ".") l st) /\ (∀ b o, b < 11 -> b ≠ 3 -> (boot_heap P).get? b = some o -> h'.get? b = some o) := by
 have up : ∀ b o, 15 <= b -> h.get? b = some o -> h'.get? b = some o := fun b o hb e => MS.up K b o hb e
 refine ⟨⟨?_, R.sv, fun st hst => ?_⟩, fun b o hb h3 e => K b o h3 (Nat.ne_of_lt (Nat.lt_trans hb (by decide))) (R.keep b o hb h3 e)⟩
 ·obtain ⟨⟨t', q, e⟩, d⟩ := R.cls
  exact ⟨⟨t', q, up _ _ (show (15 : Nat) <= nf + 1 + 1 by lia) e⟩, d.at fun o e => up _ _ (show (15 : Nat) <= nf + 1 by lia) e⟩
 ·have := (R.ok st hst).keep (more := []) (h' := h') (fun b o hb e => up b o (Nat.le_trans (by decide) hb) e)
  simpa using this
theorem walk_of {p : Program} {w : World} {s : Shared} {S : Shape} {nf : Nat} {fin : List (Str × SV)} {Lf : Nat} {fn : List Str}
  (hs : s.heap = boot_heap w.params) (hg : s.gens = #[]) (hd : behindTheImports p = p.main.body) (hb : p.main.body = S.stmts) (ok : okTop p S nf = true) (hfin : finOf S = some (nf, fin)) (hst : sMem "__static_attributes__" (fin.map (·.1)) = false)
  (hrun : ∀ (dat : Addr -> Data) (ep : Nat) (hs : Nat -> Int) (ts us : Nat -> Nat) (tk t : Nat),
   (rn (denote treeTable) ⟨p, w.params⟩ (nf + 1) 3000 Value ⟨TOf dat ep hs ts us (fin ++ statS nf), nf + 1, tk⟩ (call (.type "type") [.str S.cname t, .ref 22, .ref 24] [])).map (viewT (nf + 1)) =
    some (some (.ref (nf + 1 + 1)), some (((entsOf hs ts us 0 (fin ++ statS nf)).map pairOf).filter (fun p => !(match p.1 with | some x => sEq x "__qualname__" | none => false)) ++ upP (extraP (nf + 1))), some (clsObj S.cname S.cname (nf + 1) t (us 1))))
  (hrest : okMods p.main.scope.names (S.cpos.line + 1) [S.cname, "__name__", S.wn] S.rest = some (Lf, fn)) (hcn : sEq S.cname "__name__" = false) :
  wpAny (model p w) callerA (topTree p) (fun fin' s' => ∃ f, fin' = .done f /\ (∃ m, TopEnd p w.params s'.heap m /\ (TopX S nf fin w.params s'.heap m /\ ∀ st ∈ S.rest, MOK s'.heap m st) /\ s'.os = s.os) /\ s'.gens = #[]) (fun _ _ => False) s := by
 have ok' := ok
 unfold okTop at ok
 simp only [Bool.and_eq_true, Bool.not_eq_true', Option.isNone_iff_eq_none, List.all_eq_true] at ok
 obtain ⟨⟨⟨⟨⟨⟨⟨⟨⟨⟨⟨⟨⟨o1, o2⟩, o3⟩, o4⟩, o5⟩, o6⟩, o7⟩, o8⟩, o9⟩, o10⟩, o11⟩, o12⟩, o13⟩, o14⟩ := ok
 have hk : p.main.scope.kind = .module := by cases hk : p.main.scope.kind <;> rw [hk] at o3 <;> first | rfl | cases o3
 refine top_walk' (R := fun s' => ∃ m, TopEnd p w.params s'.heap m /\ (TopX S nf fin w.params s'.heap m /\ ∀ st ∈ S.rest, MOK s'.heap m st) /\ s'.os = s.os) hs hd hb ok' hfin hst hrun fun h' tk t l n ps AR => ?_
 rw [<- List.append_nil S.rest]
 refine mod_body hk S.rest _ _ _ _ _ _ (by exact hrest) AR.ms AR.tl fun n' h₂ ps' tk' more S₂ le T₂ hm O₂ ON₂ K₂ => wpAny_execs_nil ⟨rfl, ⟨_, ⟨S₂.g, ?_, ?_⟩, ⟨⟨?_, ?_⟩, by rw [List.append_nil]; exact O₂⟩, rfl⟩, hg⟩
 ·exact (AR.after (Nat.le_of_ble_eq_true o12) K₂).2
 ·intro x hx
  rw [List.map_append, List.mem_append] at hx
  rcases hx with hx | hx
  ·exact okName_bound (ON₂ x hx)
  ·have : x = S.cname \/ x = ("__name__" : Str) \/ x = S.wn := by simpa using hx
   rcases this with rfl | rfl | rfl
   ·exact okName_bound o9
   ·exact okName_bound o8
   ·exact okName_bound o6
 ·exact ⟨t, l, (AR.after (Nat.le_of_ble_eq_true o12) K₂).1⟩
 ·rw [List.lookup_append, hm S.cname (sEq_false hcn) (by rw [List.lookup_cons]; simp)]
  rw [List.lookup_cons]; simp
end Mine
namespace Mine
open PySem PySem.W PySem.Calls PyProof.Rows TablesWhole
theorem wSs_holds_append {top : Scope} {cx : TablesWhole.Ctx} {sc : Scope} : ∀ (a b : List Stmt), wSs holds top cx sc (a ++ b) = (wSs holds top cx sc a && wSs holds top cx sc b)
 | [], b => by
  rw [List.nil_append]
  show _ = (true && _)
  rw [Bool.true_and]
 | s :: r, b => by
  show (wS holds top cx sc s && wSs holds top cx sc (r ++ b)) = ((wS holds top cx sc s && wSs holds top cx sc r) && wSs holds top cx sc b)
  rw [wSs_holds_append r b]
  exact (Bool.and_assoc ..).symm
theorem wSs_gather_append {top : Scope} {cx : TablesWhole.Ctx} {sc : Scope} : ∀ (a b : List Stmt), wSs gather top cx sc (a ++ b) = wSs gather top cx sc a ++ wSs gather top cx sc b
 | [], b => by
  rw [List.nil_append]
  rfl
 | s :: r, b => by
  show wS gather top cx sc s ++ wSs gather top cx sc (r ++ b) = (wS gather top cx sc s ++ wSs gather top cx sc r) ++ wSs gather top cx sc b
  rw [wSs_gather_append r b]
  exact (List.append_assoc ..).symm
theorem holds_chunk {top : Scope} {cx : TablesWhole.Ctx} {sc : Scope} {l : List Stmt} (k : Nat) (h1 : wSs holds top cx sc (l.take k) = true) (h2 : wSs holds top cx sc (l.drop k) = true) : wSs holds top cx sc l = true := by
 rw [<- List.take_append_drop k l, wSs_holds_append, h1, h2]; rfl
theorem gather_chunk {top : Scope} {cx : TablesWhole.Ctx} {sc : Scope} {l : List Stmt} (k : Nat) (h1 : wSs gather top cx sc (l.take k) = []) (h2 : wSs gather top cx sc (l.drop k) = []) : wSs gather top cx sc l = [] := by
 rw [<- List.take_append_drop k l, wSs_gather_append, h1, h2]; rfl
noncomputable def topCx (m : Module) : TablesWhole.Ctx := ⟨m.scope, [], [], [], none⟩
noncomputable def clsCx (m : Module) (S : Shape) : TablesWhole.Ctx := ⟨S.csc, declSs false S.cbody, declSs true S.cbody, [], none⟩
noncomputable def clsHead (A : Alg α) (m : Module) (S : Shape) : α := wClassHead A (topCx m) m.scope [] [] [] [] S.csc S.ts S.cname S.cpos (declSs true S.cbody)
theorem tables_of {p : Program} {S : Shape} (hb : p.main.body = S.stmts) (hm : p.modules = []) (hp : p.parses = []) (hh : p.harvested = [])
  (g1 : wSs gather p.main.scope (topCx p.main) p.main.scope (S.stmts.take 2) = []) (g2 : clsHead gather p.main S = [])
  (g3 : wSs gather p.main.scope (clsCx p.main S) S.csc S.cbody = []) (g4 : wSs gather p.main.scope (topCx p.main) p.main.scope S.rest = [])
  (h0 : (holds.enter p.main.scope && holds.check "no name twice in a table, but a class's lawful pair" p.main.scope ("(the table)" : Str) (noTwice p.main.scope)) = true)
  (h1 : wSs holds p.main.scope (topCx p.main) p.main.scope (S.stmts.take 2) = true) (h2 : clsHead holds p.main S = true)
  (h3 : wSs holds p.main.scope (clsCx p.main S) S.csc S.cbody = true) (h4 : wSs holds p.main.scope (topCx p.main) p.main.scope S.rest = true) : p.tablesWhole = true := by
 have hs := hb
 have told : wSs gather p.main.scope (topCx p.main) p.main.scope p.main.body = [] := by
  rw [hs]
  refine gather_chunk 2 g1 ?_
  show wSs gather _ _ _ (.ClassDef S.cname [] [] S.cbody [] [] S.csc S.ts S.cname S.cst S.cpos :: S.rest) = []
  show wS gather _ _ _ _ ++ wSs gather _ _ _ S.rest = []
  rw [g4]
  have : wS gather p.main.scope (topCx p.main) p.main.scope (.ClassDef S.cname [] [] S.cbody [] [] S.csc S.ts S.cname S.cst S.cpos) = clsHead gather p.main S ++ wSs gather p.main.scope (clsCx p.main S) S.csc S.cbody := by
   rfl
  rw [this, g2, g3]; rfl
 have body : wSs holds p.main.scope (topCx p.main) p.main.scope p.main.body = true := by
  rw [hs]
  refine holds_chunk 2 h1 ?_
  show wSs holds _ _ _ (.ClassDef S.cname [] [] S.cbody [] [] S.csc S.ts S.cname S.cst S.cpos :: S.rest) = true
  show (wS holds _ _ _ _ && wSs holds _ _ _ S.rest) = true
  rw [h4]
  have : wS holds p.main.scope (topCx p.main) p.main.scope (.ClassDef S.cname [] [] S.cbody [] [] S.csc S.ts S.cname S.cst S.cpos) = (clsHead holds p.main S && wSs holds p.main.scope (clsCx p.main S) S.csc S.cbody) := by
   rfl
  rw [this, h2, h3]; rfl
 unfold Program.tablesWhole wProgram wModule
 rw [hm, hp, hh]
 have told' : wSs gather p.main.scope ⟨p.main.scope, [], [], [], none⟩ p.main.scope p.main.body = [] := told
 have body' : wSs holds p.main.scope ⟨p.main.scope, [], [], [], none⟩ p.main.scope p.main.body = true := body
 simp only [told', Alg.all, List.foldr_cons, List.foldr_nil, List.map_nil, body']
 simpa [holds] using h0
end Mine
namespace Mine
open PySem PySem.W PySem.Calls PyProof.Rows
structure DefP where
 args : Arguments
 body : List Stmt
 scope : Scope
 pos : Pos
noncomputable def DefP.stmt (nm : Str) (d : DefP) : Stmt := .FunctionDef nm d.args d.body [] none [] d.scope none nm d.pos
noncomputable def isDef (nm : Str) (st : Stmt) : Option DefP := optB (fdP st) fun f => noB (!sEq f.name nm) (some ⟨f.args, f.body, f.scope, f.pos⟩)
theorem isDef_spec {nm : Str} {st : Stmt} {d : DefP} (h : isDef nm st = some d) : st = d.stmt nm := by
 obtain ⟨f, e, h⟩ := optB_iff h
 obtain ⟨q, h⟩ := noB_iff h
 have q : sEq f.name nm = true := by
  cases w : sEq f.name nm with
  | true => rfl
  | false => rw [w] at q; exact ff q.symm
 rw [fdP_spec e, <- some_eq h, FD.st, sEq_iff.mp q]
 rfl
noncomputable def defIn (nm : Str) : List Stmt -> Option DefP
 | [] => none
 | st :: r => orB (isDef nm st) some (defIn nm r)
theorem defIn_mem {nm : Str} {d : DefP} : ∀ {l : List Stmt}, defIn nm l = some d -> d.stmt nm ∈ l
 | [], h => none_some h
 | st :: r, h => by
  rcases orB_iff (show orB (isDef nm st) some (defIn nm r) = some d from h) with ⟨d', e, h⟩ | h
  ·rw [<- some_eq h, isDef_spec e]; exact .head _
  ·exact .tail _ (defIn_mem h)
set_option tactic.hygienic true in
theorem pin_of {p : Program} {P : Params} {h : Heap} {m : List (Str × Value)} {nm : Str} {d : DefP} (T : TopEnd p P h m) (M : MOK h m (d.stmt nm)) (hd : p.theDef nm = some (d.args, d.body, d.scope)) (h0 : d.args.defaults = []) (hk : d.args.kwonlyargs = []) (hkd : d.args.kw_defaults = []) :
  isTheDefsW p h nm := by
 have go : ∀ st, MOK h m st -> st = d.stmt nm -> isTheDefsW p h nm := by
  intro st M e
  cases M with
  | def_ hn hl F =>
   cases e
   rename_i a dv dV c' pm
   refine ⟨_, _, _, d.args, d.body, d.scope, ?_, F.fn, rfl, hd, rfl, rfl, rfl, rfl, rfl, rfl, rfl, rfl, ?_⟩
   ·obtain ⟨o, es, ep, ho, hdt, _, hf⟩ := T.g
    unfold globalOf
    rw [show h.get? mainNs = some o from ho]
    dsimp only
    rw [hdt]
    have : nsFind es nm = _ := hf nm
    dsimp only at this
    rw [hl] at this
    exact this
   ·have hdv : dv = [] := by
     have := F.dvs
     rw [h0] at this
     cases dv with
     | nil => rfl
     | cons _ _ => exact this.elim
    refine ⟨.inl ⟨h0, ?_⟩, [], by rw [hk, hkd]; rfl, .inl ⟨rfl, rfl⟩⟩
    rcases F.dfl with ⟨_, x⟩ | ⟨_, x, _, _, _⟩
    ·exact x
    ·exact absurd hdv x
  | data _ _ _ => cases e
  | name => cases e
 exact go _ M rfl
set_option maxHeartbeats 0
noncomputable abbrev P7 : Program := PySem.Challenge.pw_im0096_07
theorem s7_some : (shapeOf P7.main.body).isSome = true := by kernel_rfl
noncomputable def S7 : Shape := (shapeOf P7.main.body).get s7_some
theorem s7 : P7.main.body = S7.stmts := by kernel_rfl
theorem f7_map : (finOf S7).map (fun x => (x.1, sMem "__static_attributes__" (x.2.map (·.1)))) = some (1426, false) := by kernel_rfl
theorem f7_some : (finOf S7).isSome = true := opt_some f7_map
noncomputable def F7 : Nat × List (Str × SV) := (finOf S7).get f7_some
theorem f7 : finOf S7 = some (1426, F7.2) := opt_pair f7_some (opt_snd f7_map).1
theorem st7 : sMem "__static_attributes__" (F7.2.map (·.1)) = false := (opt_snd f7_map).2 f7_some
theorem ok7 : okTop P7 S7 1426 = true := by kernel_rfl
theorem run7 (S : Setting) (dat : Addr -> Data) (ep : Nat) (hs : Nat -> Int) (ts us : Nat -> Nat) (tk t : Nat) :
   (rn (denote treeTable) S (1426 + 1) 3000 Value ⟨TOf dat ep hs ts us (F7.2 ++ statS 1426), 1426 + 1, tk⟩ (call (.type "type") [.str S7.cname t, .ref 22, .ref 24] [])).map (viewT (1426 + 1)) =
    some (some (.ref (1426 + 1 + 1)), some (((entsOf hs ts us 0 (F7.2 ++ statS 1426)).map pairOf).filter (fun p => !(match p.1 with | some x => sEq x "__qualname__" | none => false)) ++ upP (extraP (1426 + 1))), some (clsObj S7.cname S7.cname (1426 + 1) t (us 1))) := by kernel_rfl
theorem m7_some : (okMods P7.main.scope.names (S7.cpos.line + 1) [S7.cname, "__name__", S7.wn] S7.rest).isSome = true := by kernel_rfl
noncomputable def X7 (w : World) (h : Heap) (m : List (Str × Value)) : Prop := TopX S7 1426 F7.2 w.params h m /\ ∀ st ∈ S7.rest, MOK h m st
theorem walk7 (w : World) (s : Shared) (hs : s.heap = boot_heap w.params) (hg : s.gens = #[]) :
  wpAny (model P7 w) callerA (topTree P7) (fun fin' s' => ∃ f, fin' = .done f /\ (∃ m, TopEnd P7 w.params s'.heap m /\ X7 w s'.heap m /\ s'.os = s.os) /\ s'.gens = #[]) (fun _ _ => False) s := by
 obtain ⟨⟨Lf, fn⟩, hm⟩ := Option.isSome_iff_exists.mp m7_some
 exact walk_of hs hg (by kernel_rfl) s7 ok7 f7 st7 (run7 ⟨P7, w.params⟩) hm (by kernel_rfl)
theorem op7 : opening P7 = plainProg P7.main.scope.names := by kernel_rfl
theorem fe7 (s : Shared) : fenceModules? P7 s = some s := by kernel_rfl
theorem ow7 : opensWell P7 = true := by decide +kernel
theorem g7_3_0 : TablesWhole.wSs TablesWhole.gather P7.main.scope (clsCx P7.main S7) S7.csc (S7.cbody.take 40) = [] := by kernel_rfl
theorem g7_3_1 : TablesWhole.wSs TablesWhole.gather P7.main.scope (clsCx P7.main S7) S7.csc ((S7.cbody.drop 40).take 40) = [] := by kernel_rfl
theorem g7_3_2 : TablesWhole.wSs TablesWhole.gather P7.main.scope (clsCx P7.main S7) S7.csc (((S7.cbody.drop 40).drop 40).take 40) = [] := by kernel_rfl
theorem g7_3_3 : TablesWhole.wSs TablesWhole.gather P7.main.scope (clsCx P7.main S7) S7.csc ((((S7.cbody.drop 40).drop 40).drop 40).take 40) = [] := by kernel_rfl
theorem g7_3_4 : TablesWhole.wSs TablesWhole.gather P7.main.scope (clsCx P7.main S7) S7.csc (((((S7.cbody.drop 40).drop 40).drop 40).drop 40).take 40) = [] := by kernel_rfl
theorem g7_3_5 : TablesWhole.wSs TablesWhole.gather P7.main.scope (clsCx P7.main S7) S7.csc (((((S7.cbody.drop 40).drop 40).drop 40).drop 40).drop 40) = [] := by kernel_rfl
theorem g7_3 : TablesWhole.wSs TablesWhole.gather P7.main.scope (clsCx P7.main S7) S7.csc S7.cbody = [] := gather_chunk 40 g7_3_0 (gather_chunk 40 g7_3_1 (gather_chunk 40 g7_3_2 (gather_chunk 40 g7_3_3 (gather_chunk 40 g7_3_4 (g7_3_5)))))
theorem h7_3_0 : TablesWhole.wSs TablesWhole.holds P7.main.scope (clsCx P7.main S7) S7.csc (S7.cbody.take 40) = true := by kernel_rfl
theorem h7_3_1 : TablesWhole.wSs TablesWhole.holds P7.main.scope (clsCx P7.main S7) S7.csc ((S7.cbody.drop 40).take 40) = true := by kernel_rfl
theorem h7_3_2 : TablesWhole.wSs TablesWhole.holds P7.main.scope (clsCx P7.main S7) S7.csc (((S7.cbody.drop 40).drop 40).take 40) = true := by kernel_rfl
theorem h7_3_3 : TablesWhole.wSs TablesWhole.holds P7.main.scope (clsCx P7.main S7) S7.csc ((((S7.cbody.drop 40).drop 40).drop 40).take 40) = true := by kernel_rfl
theorem h7_3_4 : TablesWhole.wSs TablesWhole.holds P7.main.scope (clsCx P7.main S7) S7.csc (((((S7.cbody.drop 40).drop 40).drop 40).drop 40).take 40) = true := by kernel_rfl
theorem h7_3_5 : TablesWhole.wSs TablesWhole.holds P7.main.scope (clsCx P7.main S7) S7.csc (((((S7.cbody.drop 40).drop 40).drop 40).drop 40).drop 40) = true := by kernel_rfl
theorem h7_3 : TablesWhole.wSs TablesWhole.holds P7.main.scope (clsCx P7.main S7) S7.csc S7.cbody = true := holds_chunk 40 h7_3_0 (holds_chunk 40 h7_3_1 (holds_chunk 40 h7_3_2 (holds_chunk 40 h7_3_3 (holds_chunk 40 h7_3_4 (h7_3_5)))))
theorem tab7 : P7.tablesWhole = true := tables_of s7 (by kernel_rfl) (by kernel_rfl) (by kernel_rfl) (by kernel_rfl) (by kernel_rfl) g7_3 (by kernel_rfl) (by kernel_rfl) (by kernel_rfl) (by kernel_rfl) h7_3 (by kernel_rfl)
theorem bare7 : P7.bare := ⟨by kernel_rfl, by kernel_rfl, by kernel_rfl, by kernel_rfl, by kernel_rfl, tab7⟩
noncomputable def nm7 : Str := Str.ofString "law"
theorem prog7 : PySem.Challenge.rw_im0096_07.prog = P7 := by kernel_rfl
theorem name7 : PySem.Challenge.rw_im0096_07.name = nm7 := by kernel_rfl
theorem wr7 : PySem.Challenge.rw_im0096_07.writes = false := by kernel_rfl
theorem prom7 : PySem.Challenge.rw_im0096_07.row.toRowW.promised := by
 refine ⟨[.list [.int 3, .int 1]], ?_, ?_⟩ <;> decide +kernel
theorem head7 (k1 : PySem.Challenge.rw_im0096_07.row.wellSaid = true) (pin : ∀ w h m, TopEnd P7 w.params h m -> X7 w h m -> isTheDefsW P7 h nm7) (call : CallOK P7 nm7 X7) : PySem.Challenge.rw_im0096_07.row.Holds :=
 law_holds' (by kernel_rfl) P7 nm7 prog7 name7 k1 wr7 ow7 bare7 prom7 op7 fe7 walk7 pin call
inductive Bi where
 | len | sum | range | enum | max | min
 deriving Inhabited, DecidableEq
noncomputable def Bi.id : Bi -> String
 | .len => "len" | .sum => "sum" | .range => "range" | .enum => "enumerate" | .max => "max" | .min => "min"
inductive D where
 | none | bool (b : Bool) | int (i : Int) | str (s : Str)
 | tup (xs : List D) | list (xs : List D) | ints (xs : List Int)
 | fn (m : Bool) (name : Str) | meth (name : Str) | bi (id : Bi) | cls | mpu | rng (n : Int)
 | dict (k i : Int) | sdict (xs : List (Str × Int)) | arg (xs : List Int)
 deriving Inhabited
inductive V where
 | d (x : D) | loc (n : Nat)
 deriving Inhabited
noncomputable abbrev Loc := List (Str × V)
noncomputable abbrev Names := List (Str × NameKind)
structure Hs where
 hp : List D
 mp : Option Loc
inductive Fl where
 | next | brk | ret (v : V)
noncomputable abbrev KE := V -> Hs -> Prop
noncomputable abbrev KS := Fl -> Loc -> Hs -> Prop
noncomputable abbrev RecE := Names -> Bool -> Expr -> Loc -> Hs -> KE -> Prop
noncomputable abbrev CallR := Bool -> Bool -> Str -> List V -> Hs -> KE -> Prop
noncomputable abbrev RecS := Stmt -> Loc -> Hs -> KS -> Prop
noncomputable def br (b : Bool) (A B : Prop) : Prop := match b with
 | true => A
 | false => B
noncomputable def need (b : Bool) (A : Prop) : Prop := match b with
 | true => A
 | false => False
theorem not_t' {a : Bool} (h : (!a) = false) : a = true := by cases a; cases h; rfl
theorem need_iff {b : Bool} {P : Prop} (h : need b P) : b = true /\ P := by cases b <;> first | exact False.elim h | exact ⟨rfl, h⟩
noncomputable def optP {α : Type} (o : Option α) (k : α -> Prop) : Prop := match o with
 | some a => k a
 | none => False
theorem optP_iff {α : Type} {o : Option α} {k : α -> Prop} (h : optP o k) : ∃ a, o = some a /\ k a := by
 cases o with
 | none => exact False.elim h
 | some a => exact ⟨a, rfl, h⟩
theorem optP_of {α : Type} {o : Option α} {k : α -> Prop} {a : α} (e : o = some a) (h : k a) : optP o k := by rw [e]; exact h
noncomputable def orP {α : Type} (o : Option α) (k : α -> Prop) (d : Prop) : Prop := match o with
 | some a => k a
 | none => d
theorem orP_iff2 {α : Type} {o : Option α} {k : α -> Prop} {d : Prop} (h : orP o k d) : (∃ a, o = some a /\ k a) \/ (o = none /\ d) := by
 cases o with
 | none => exact .inr ⟨rfl, h⟩
 | some a => exact .inl ⟨a, rfl, h⟩
theorem orP_iff {α : Type} {o : Option α} {k : α -> Prop} {d : Prop} (h : orP o k d) : (∃ a, o = some a /\ k a) \/ d := (orP_iff2 h).imp_right And.right
theorem none_of_isSome {α : Type} {o : Option α} (h : o.isSome = false) : o = none := by
 cases o with
 | none => rfl
 | some _ => exact nomatch h
noncomputable def both {α β : Type} (a : Option α) (b : Option β) : Option (α × β) := optB a fun x => optB b fun y => some (x, y)
theorem both_iff {α β : Type} {a : Option α} {b : Option β} {p : α × β} (h : both a b = some p) : a = some p.1 /\ b = some p.2 := by
 cases a with
 | none => exact none_some h
 | some x => cases b with
  | none => exact none_some h
  | some y => cases some_eq h; exact ⟨rfl, rfl⟩
noncomputable def pairL {α : Type} : List α -> Option (α × α)
 | [a, b] => some (a, b)
 | _ => none
theorem pairL_eq {α : Type} {l : List α} {p : α × α} (h : pairL l = some p) : l = [p.1, p.2] := by
 rcases l with _ | ⟨x, _ | ⟨y, _ | ⟨z, l⟩⟩⟩
 ·exact none_some h
 ·exact none_some h
 ·cases some_eq h; rfl
 ·exact none_some h
noncomputable def D.int? : D -> Option Int
 | .int i => some i
 | _ => Option.none
theorem D.int_eq {d : D} {i : Int} (h : d.int? = some i) : d = .int i := by
 cases d with
 | int j => exact congrArg D.int (some_eq h)
 | _ => exact none_some h
noncomputable def D.ints? : D -> Option (List Int)
 | .ints i => some i
 | _ => Option.none
theorem D.ints_eq {d : D} {i : List Int} (h : d.ints? = some i) : d = .ints i := by
 cases d with
 | «ints» j => exact congrArg D.ints (some_eq h)
 | _ => exact none_some h
noncomputable def D.isDct : D -> Bool
 | .dict _ _ => true
 | _ => false
noncomputable def D.tup? : D -> Option (List D)
 | .tup i => some i
 | _ => Option.none
theorem D.tup_eq {d : D} {i : List D} (h : d.tup? = some i) : d = .tup i := by
 cases d with
 | tup j => exact congrArg D.tup (some_eq h)
 | _ => exact none_some h
noncomputable def D.str? : D -> Option Str
 | .str x => some x
 | _ => Option.none
theorem D.str_eq {d : D} {x : Str} (h : d.str? = some x) : d = .str x := by
 cases d with
 | str y => exact congrArg D.str (some_eq h)
 | _ => exact none_some h
noncomputable def D.sdict? : D -> Option (List (Str × Int))
 | .sdict x => some x
 | _ => Option.none
theorem D.sdict_eq {d : D} {x : List (Str × Int)} (h : d.sdict? = some x) : d = .sdict x := by
 cases d with
 | sdict y => exact congrArg D.sdict (some_eq h)
 | _ => exact none_some h
noncomputable def D.dict? : D -> Option (Int × Int)
 | .dict k i => some (k, i)
 | _ => Option.none
theorem D.dict_eq {d : D} {p : Int × Int} (h : d.dict? = some p) : d = .dict p.1 p.2 := by
 cases d with
 | dict k i => cases some_eq h; rfl
 | _ => exact none_some h
noncomputable def V.d? : V -> Option D
 | .d x => some x
 | .loc _ => none
theorem V.d_eq {v : V} {d : D} (h : v.d? = some d) : v = .d d := by
 cases v with
 | d x => exact congrArg V.d (some_eq h)
 | loc _ => exact none_some h
noncomputable def V.loc? : V -> Option Nat
 | .d _ => none
 | .loc n => some n
theorem V.loc_eq {v : V} {n : Nat} (h : v.loc? = some n) : v = .loc n := by
 cases v with
 | d x => exact none_some h
 | loc _ => exact congrArg V.loc (some_eq h)
noncomputable def V.int? (v : V) : Option Int := optB v.d? D.int?
theorem V.int_eq {v : V} {i : Int} (h : v.int? = some i) : v = .d (.int i) :=
 let ⟨_, e, h⟩ := optB_iff h
 (V.d_eq e).trans (congrArg V.d (D.int_eq h))
noncomputable def V.str? (v : V) : Option Str := optB v.d? D.str?
theorem V.str_eq {v : V} {i : Str} (h : v.str? = some i) : v = .d (.str i) :=
 let ⟨_, e, h⟩ := optB_iff h
 (V.d_eq e).trans (congrArg V.d (D.str_eq h))
noncomputable def isK (n : Nat) (e : Expr) : Bool := Nat.beq e.ctorIdx n
noncomputable def noStar : List Expr -> Bool
 | [] => true
 | e :: r => !isK 22 e && noStar r
noncomputable def okBase (e : Expr) : Bool := isK 23 e || isK 20 e || isK 21 e
noncomputable def okArgsE (args : List Expr) : Bool := noStar args && Nat.ble args.length 12
noncomputable def noDebug (ns : Names) : Bool := (sLook "__debug__" ns).isNone
noncomputable def notSet (e : Expr) : Bool := !isK 7 e
noncomputable def isCall (e : Expr) : Bool := isK 16 e
noncomputable def isTupE (e : Expr) : Bool := isK 25 e
noncomputable def isLstE (e : Expr) : Bool := isK 24 e
noncomputable def isNameE (e : Expr) : Bool := isK 23 e
noncomputable def notSC (e : Expr) : Bool := !isK 9 e && !isK 10 e
noncomputable def isSliceE (e : Expr) : Bool := isK 26 e
noncomputable def isFn? : ScopeKind -> Bool
 | .function => true
 | _ => false
noncomputable def okCK : NameKind -> Bool
 | .local | .free | .globalImplicit => true
 | _ => false
noncomputable def okCompNames : Names -> Bool
 | [] => true
 | p :: r => okCK p.2 && okCompNames r
noncomputable def nodupN : Names -> Bool
 | [] => true
 | p :: r => (sLook p.1 r).isNone && nodupN r
noncomputable def isCF : Option NameKind -> Bool
 | some .cell => true
 | some .free => true
 | _ => false
noncomputable def isFr : NameKind -> Bool
 | .free => true
 | _ => false
noncomputable def freeOK (sc : Names) : Names -> Bool
 | [] => true
 | p :: r => (!isFr p.2 || isCF (sLook p.1 sc)) && freeOK sc r
noncomputable def okComp (sc : Names) (scope : Scope) : Bool := freeOK sc scope.names && isFn? scope.kind && okCompNames scope.names && nodupN scope.names && noDebug scope.names && !scope.isCoroutine && !scope.isGenerator
noncomputable def kwNs : List Keyword -> Option (List Str)
 | [] => some []
 | k :: r => optB k.arg fun x => optB (kwNs r) fun l => some (x :: l)
noncomputable def sameNs : List Str -> List Str -> Bool
 | [], [] => true
 | x :: r, y :: t => sEq x y && sameNs r t
 | _, _ => false
structure WrapP where
 fn : Str
 wn : Str
 np : Pos
 as : Arguments
 xn : Str
 lb : Expr
 lsc : Scope
 lp : Pos
 p1 : Pos
 e1 : Expr
 o : Expr
 x : Str
 ap : Pos
 np' : Pos
 ea : Expr
 ip : Pos
 cp : Pos
 e2 : Expr
 sp : Pos
 bp : Pos
 rp : Pos
noncomputable def WrapP.inner (W : WrapP) : Expr := .Call (.Name W.wn W.np') [W.ea] [] W.ip
noncomputable def WrapP.stmts (W : WrapP) : List Stmt :=
 [.Assign [.Name W.wn W.np] (.Lambda W.as W.lb W.lsc W.lp) W.p1,
  .Return (some (.BinOp W.e1 .Add (.BinOp (.Call (.Attribute W.o W.x W.ap) [W.inner] [] W.cp) .LShift W.e2 W.sp) W.bp)) W.rp]
structure PX where
 wrap : Option WrapP
 rest : List Stmt
 cbody : List Stmt
 cname : Str
 muts : List Str
 cuts : List Str
noncomputable def stName : Stmt -> Option Str
 | .FunctionDef name _ _ _ _ _ _ _ _ _ => some name
 | .Assign ts _ _ => optB (one ts) nameP1
 | _ => none
noncomputable def isAt (x : Str) : Option Str -> Bool
 | some y => sEq x y
 | none => false
noncomputable def findSt (x : Str) : List Stmt -> Option Stmt
 | [] => none
 | s :: r => match isAt x (stName s) with
  | true => some s
  | false => findSt x r
noncomputable def constD : Const -> Option D
 | .none => some .none
 | .bool b => some (.bool b)
 | .int i => some (.int i)
 | .str s => some (.str s)
 | _ => none
noncomputable def allSome {α : Type} : List (Option α) -> Option (List α)
 | [] => some []
 | o :: r => optB o fun a => optB (allSome r) fun l => some (a :: l)
noncomputable def toInts : List D -> Option (List Int)
 | [] => some []
 | d :: r => optB d.int? fun i => optB (toInts r) fun l => some (i :: l)
noncomputable def mkList (xs : List D) : D := match toInts xs with
 | some l => .ints l
 | none => .list xs
noncomputable def conD : Expr -> Option D
 | .Constant c _ _ => constD c
 | _ => none
noncomputable def dataD : Nat -> Expr -> Option D
 | 0, e => conD e
 | n + 1, e => match e with
  | .Constant c _ _ => constD c
  | .List es _ => optB (allSome (es.map (dataD n))) fun l => some (mkList l)
  | _ => none
noncomputable def topSt (x : Str) : Stmt -> Option D
 | .FunctionDef name _ _ _ _ _ _ _ _ _ => some (.fn false name)
 | .Assign _ e _ => noB (sEq x "__name__") (dataD 6 e)
 | _ => none
noncomputable def topD (X : PX) (x : Str) : Option D := optB (findSt x X.rest) (topSt x)
noncomputable def biNames : List Bi := [.len, .sum, .range, .enum, .max, .min]
noncomputable def biD (x : Str) : List Bi -> Option D
 | [] => none
 | s :: r => if sEq x (Str.ofString s.id) then some (.bi s) else biD x r
noncomputable def glob (X : PX) (x : Str) : Option D :=
 if sEq x X.cname then some .cls else orB (topD X x) some (biD x biNames)
noncomputable def intD : Const -> Option D
 | .int i => some (.int i)
 | _ => none
noncomputable def eltD : Expr -> Option D
 | .Constant c _ _ => intD c
 | .Name x _ => some (.fn true x)
 | _ => none
noncomputable def valD : Expr -> Option D
 | .Constant c _ _ => constD c
 | .List es _ => optB (allSome (es.map eltD)) fun l => some (mkList l)
 | _ => none
noncomputable def stD : Stmt -> Option D
 | .FunctionDef name _ _ _ _ _ _ _ _ _ => some (.fn true name)
 | .Assign _ e _ => valD e
 | _ => none
noncomputable def clsD (X : PX) (x : Str) : Option D := optB (findSt x X.cbody) stD
structure Fn where
 args : Arguments
 body : List Stmt
 scope : Scope
noncomputable def fnOf (X : PX) (m : Bool) (x : Str) : Option Fn := match findSt x (match m with | true => X.cbody | false => X.rest) with
 | some (.FunctionDef _ args body _ _ _ scope _ _ _) => some ⟨args, body, scope⟩
 | _ => none
noncomputable def isLoc : NameKind -> Bool
 | .local | .cell | .free => true
 | _ => false
noncomputable def evName (X : PX) (sc : Names) (x : Str) (loc : Loc) (hs : Hs) (K : KE) : Prop := optP (sLook x sc) fun k => match k with
 | .globalImplicit => optP (glob X x) fun d => K (.d d) hs
 | .local => optP (sLook x loc) fun v => K v hs
 | .cell => optP (sLook x loc) fun v => K v hs
 | .free => need (!sEq x (Str.ofString "__classdict__")) (optP (sLook x loc) fun v => K v hs)
 | _ => False
noncomputable def D.ref : D -> Bool
 | .none | .bool _ | .int _ | .str _ => false
 | _ => true
noncomputable def lenD : D -> Option Nat
 | .tup xs => some xs.length
 | .list xs => some xs.length
 | .ints xs => some xs.length
 | _ => none
noncomputable def deref (hs : Hs) : V -> D
 | .d x => x
 | .loc n => hs.hp.getD n .none
noncomputable def truthB : D -> Option Bool
 | .none => some false
 | .bool b => some b
 | .int i => some (i != 0)
 | .list xs => noB (!decide (xs.length < 2 ^ 62)) (some (!xs.isEmpty))
 | .ints xs => noB (!decide (xs.length < 2 ^ 62)) (some (!xs.isEmpty))
 | _ => none
noncomputable def truthV (v : V) (hs : Hs) (k : Bool -> Prop) : Prop := optP (truthB (deref hs v)) k
noncomputable def idx (i : Int) (n : Nat) : Int := if i < 0 then i + n else i
noncomputable def small (i : Int) : Prop := -(2 ^ 62) < i /\ i < 2 ^ 62
noncomputable def at' (i : Int) (n : Nat) (k : Nat -> Prop) : Prop := small i /\ 0 <= idx i n /\ idx i n < n /\ k (idx i n).toNat
noncomputable def cut {α : Type} (xs : List α) (lo hi : Option Int) : List α :=
 (xs.drop (lo.elim 0 (clipAt xs.length))).take (hi.elim xs.length (clipAt xs.length) - lo.elim 0 (clipAt xs.length))
noncomputable def alloc (m : Bool) (x : D) (hs : Hs) (K : KE) : Prop := match m with
 | true => K (.loc hs.hp.length) ⟨hs.hp ++ [x], hs.mp⟩
 | false => K (.d x) hs
noncomputable def lim : Nat := 2 ^ 20
noncomputable def putL (x : Str) (v : V) : Loc -> Loc
 | [] => [(x, v)]
 | (y, u) :: r => if sEq x y then (x, v) :: r else (y, u) :: putL x v r
noncomputable def binInt (op : Operator) (a b : Int) (hs : Hs) (K : KE) : Prop := match op with
 | .Add => K (.d (.int (a + b))) hs
 | .Sub => K (.d (.int (a - b))) hs
 | .Mult => (a.natAbs < 2 ^ 62 \/ b.natAbs < 2 ^ 62) /\ K (.d (.int (a * b))) hs
 | .Mod => b ≠ 0 /\ K (.d (.int (a.fmod b))) hs
 | .FloorDiv => (b ≠ 0 /\ b.natAbs < 1073741824) /\ K (.d (.int (a.fdiv b))) hs
 | .LShift => (0 <= b /\ b <= 1000 /\ a.natAbs < 2 ^ 62) /\ K (.d (.int (a * 2 ^ b.toNat))) hs
 | .RShift => 0 <= b /\ K (.d (.int (a.fdiv (2 ^ b.toNat)))) hs
 | .Pow => (0 <= b /\ b <= 1000 /\ a.natAbs < 2 ^ 62) /\ K (.d (.int (a ^ b.toNat))) hs
 | .BitAnd => K (.d (.int (Builtin.bitAnd a b))) hs
 | .BitOr => K (.d (.int (Builtin.bitOr a b))) hs
 | .BitXor => K (.d (.int (Builtin.bitXor a b))) hs
 | _ => False
noncomputable def D.elts? : D -> Option (List D)
 | .list xs => some xs
 | .ints xs => some (xs.map .int)
 | _ => Option.none
noncomputable def catD (x y : D) : Option D := orB (both x.ints? y.ints?) (fun p => some (.ints (p.1 ++ p.2))) (optB (both x.elts? y.elts?) fun p => some (.list (p.1 ++ p.2)))
noncomputable def rep {α : Type} (n : Int) (xs : List α) : List α := (List.replicate n.toNat xs).flatten
noncomputable def isMul : Operator -> Bool
 | .Mult => true
 | _ => false
noncomputable def isAdd : Operator -> Bool
 | .Add => true
 | _ => false
theorem mul_of {op : Operator} (h : isMul op = true) : op = .Mult := by cases op <;> first | rfl | exact ff h
theorem add_of {op : Operator} (h : isAdd op = true) : op = .Add := by cases op <;> first | rfl | exact ff h
noncomputable def binOpV (op : Operator) (m : Bool) (a b : V) (hs : Hs) (K : KE) : Prop :=
 orP (both (deref hs a).int? (deref hs b).int?) (fun p => binInt op p.1 p.2 hs K) <|
 orP (both (deref hs a).ints? (deref hs b).int?) (fun p => need (isMul op) ((0 <= p.2 /\ p.2 <= lim /\ p.1.length * p.2.toNat <= lim) /\ alloc m (.ints (rep p.2 p.1)) hs K)) <|
 need (isAdd op) (optP (catD (deref hs a) (deref hs b)) fun z => optP (lenD z) fun n => n <= lim /\ alloc m z hs K)
noncomputable def unOpV (op : UnaryOp) (a : V) (hs : Hs) (K : KE) : Prop := match op with
 | .Not => truthV a hs fun b => K (.d (.bool (!b))) hs
 | .USub => optP a.int? fun i => K (.d (.int (-i))) hs
 | .Invert => optP a.int? fun i => K (.d (.int (Builtin.bitNot i))) hs
 | .UAdd => False
noncomputable def toIntsT (d : D) : Option (List Int) := optB d.tup? toInts
noncomputable def cmpInt (op : CmpOp) (a b : Int) : Option Bool := match op with
 | .Eq => some (a == b)
 | .NotEq => some (a != b)
 | .Lt => some (decide (a < b))
 | .LtE => some (decide (a <= b))
 | .Gt => some (decide (b < a))
 | .GtE => some (decide (b <= a))
 | _ => none
noncomputable def cmpEq (op : CmpOp) (b : Bool) : Option Bool := match op with
 | .Eq => some b
 | .NotEq => some (!b)
 | _ => none
noncomputable def isNone : D -> Bool
 | .none => true
 | _ => false
noncomputable def isIs : CmpOp -> Bool
 | .Is => true
 | _ => false
noncomputable def cmpStr (op : CmpOp) (a b : Str) : Option Bool := match op with
 | .Eq => some (a.cps.toList == b.cps.toList)
 | .NotEq => some (a.cps.toList != b.cps.toList)
 | .In => some (!(Builtin.Str.occurrences b a 0 b.length 1).isEmpty)
 | _ => none
noncomputable def cmpD (op : CmpOp) (x y : D) : Option Bool :=
 orB (both x.int? y.int?) (fun p => cmpInt op p.1 p.2) <|
 orB (both x.str? y.str?) (fun p => cmpStr op p.1 p.2) <|
 orB (both x.ints? y.ints?) (fun p => cmpEq op (decide (p.1 = p.2))) <|
 noB (!(isNone y && isIs op)) (some (isNone x))
theorem is_of {op : CmpOp} (h : isIs op = true) : op = .Is := by cases op <;> first | rfl | exact ff h
noncomputable def cmpV (op : CmpOp) (a b : V) (hs : Hs) (K : Bool -> Prop) : Prop := optP (cmpD op (deref hs a) (deref hs b)) K
noncomputable def itemD (x : D) (i : Int) (hs : Hs) (K : KE) : Prop := match x with
 | .ints xs => at' i xs.length fun n => K (.d (.int (xs.getD n 0))) hs
 | .list xs => at' i xs.length fun n => K (.d (xs.getD n .none)) hs
 | .tup xs => at' i xs.length fun n => K (.d (xs.getD n .none)) hs
 | .dict k j => k = i /\ K (.d (.int j)) hs
 | .str x => at' i x.length fun n => optP x.cps[n]? fun c => K (.d (.str ⟨#[c]⟩)) hs
 | _ => False
noncomputable def itemV (a b : V) (hs : Hs) (K : KE) : Prop := orP b.str? (fun x => optP (deref hs a).sdict? fun xs => optP (sLook x xs) fun j => K (.d (.int j)) hs)
 (optP b.int? fun i => itemD (deref hs a) i hs K)
noncomputable def partV : Option V -> Option (Option Int)
 | none => some none
 | some v => optB v.int? fun i => some (some i)
noncomputable def sliceD (m : Bool) (x : D) (l u : Option Int) (hs : Hs) (K : KE) : Prop := match x with
 | .ints xs => xs.length <= lim /\ alloc m (.ints (cut xs l u)) hs K
 | .list xs => xs.length <= lim /\ alloc m (.list (cut xs l u)) hs K
 | .arg xs => xs.length <= lim /\ alloc m (.ints (cut xs l u)) hs K
 | _ => False
noncomputable def sliceV (m : Bool) (a : V) (lo hi : Option V) (hs : Hs) (K : KE) : Prop := optP (partV lo) fun l => optP (partV hi) fun u => sliceD m (deref hs a) l u hs K
noncomputable def fldNames : List Str := ["pc", "memory", "a", "x", "y", "p", "sp", "byteMask", "addrMask", "addrHighMask", "spBase", "excycles", "addcycles", "processorCycles", "start_pc", "name"]
noncomputable def V.isMpu : V -> Bool
 | .d .mpu => true
 | _ => false
theorem V.isMpu_eq {v : V} (h : v.isMpu = true) : v = .d .mpu := by
 cases v with
 | loc _ => exact ff h
 | d x => cases x <;> first | rfl | exact ff h
noncomputable def boundD : D -> D
 | .fn _ y => .meth y
 | d => d
noncomputable def getAttrV (X : PX) (v : V) (x : Str) (hs : Hs) (K : KE) : Prop := need v.isMpu <| optP hs.mp fun f =>
 orP (sLook x f) (fun u => need (sMem x fldNames) (K u hs)) (optP (clsD X x) fun d => K (.d (boundD d)) hs)
noncomputable def setAttrV (v : V) (x : Str) (u : V) (hs : Hs) (K : Hs -> Prop) : Prop := need v.isMpu <| optP hs.mp fun f =>
 need (sMem x fldNames && Nat.ble f.length 100) (K ⟨hs.hp, some (putL x u f)⟩)
noncomputable def setItemV (a b u : V) (hs : Hs) (K : Hs -> Prop) : Prop := optP a.loc? fun n => optP b.int? fun i => optP u.int? fun j => orP (hs.hp.getD n .none).ints? (fun xs =>
 at' i xs.length fun k => K ⟨hs.hp.set n (.ints (xs.set k j)), hs.mp⟩) (optP (hs.hp.getD n .none).dict? fun p => p.1 = i /\ K ⟨hs.hp.set n (.dict i j), hs.mp⟩)
noncomputable def splice {α : Type} (xs : List α) (lo hi : Option Int) (ys : List α) : List α :=
 xs.take (lo.elim 0 (clipAt xs.length)) ++ ys ++ xs.drop (max (lo.elim 0 (clipAt xs.length)) (hi.elim xs.length (clipAt xs.length)))
noncomputable def setSliceV (a : V) (lo hi : Option V) (u : V) (hs : Hs) (K : Hs -> Prop) : Prop := optP a.loc? fun n => optP (partV lo) fun l => optP (partV hi) fun h => optP (hs.hp.getD n .none).ints? fun xs => optP (deref hs u).ints? fun ys =>
 xs.length + ys.length <= lim /\ K ⟨hs.hp.set n (.ints (splice xs l h ys)), hs.mp⟩
noncomputable def growV (n : Nat) (z : Option D) (hs : Hs) (K : Hs -> Prop) : Prop := optP z fun z => optP (lenD z) fun k => k <= lim /\ K ⟨hs.hp.set n z, hs.mp⟩
noncomputable def extendV (n : Nat) (v : V) (hs : Hs) (K : Hs -> Prop) : Prop := growV n (catD (hs.hp.getD n .none) (deref hs v)) hs K
noncomputable def evs (rec : Expr -> Hs -> KE -> Prop) : List Expr -> Hs -> (List V -> Hs -> Prop) -> Prop
 | [], hs, K => K [] hs
 | e :: r, hs, K => rec e hs fun v hs => evs rec r hs fun vs hs => K (v :: vs) hs
noncomputable def asD : V -> Option D
 | .d x => some x
 | .loc _ => none
noncomputable def asDs (vs : List V) : Option (List D) := allSome (vs.map asD)
noncomputable def evOpt (rec : Expr -> Hs -> KE -> Prop) (e : Option Expr) (hs : Hs) (K : Option V -> Hs -> Prop) : Prop := match e with
 | none => K none hs
 | some e => rec e hs fun v hs => K (some v) hs
noncomputable def boolE (rec : Expr -> Hs -> KE -> Prop) (op : BoolOp) : List Expr -> Hs -> KE -> Prop
 | [], _, _ => False
 | [e], hs, K => rec e hs K
 | e :: r, hs, K => rec e hs fun v hs => truthV v hs fun b => match op with
  | .And => br b (boolE rec op r hs K) (K v hs)
  | .Or => br b (K v hs) (boolE rec op r hs K)
noncomputable def sumI : List Int -> Int
 | [] => 0
 | i :: r => i + sumI r
noncomputable def pairI (d : D) : Option (Int × Int) := optB (toIntsT d) pairL
noncomputable def biCall (id : Bi) (vs : List V) (hs : Hs) (K : KE) : Prop := optP (one vs) fun v => match id with
 | .len => optP (lenD (deref hs v)) fun n => n < 2 ^ 62 /\ K (.d (.int n)) hs
 | .sum => orP (pairI (deref hs v)) (fun p => K (.d (.int (p.1 + p.2))) hs) (optP (deref hs v).ints? fun xs => xs.length <= lim /\ K (.d (.int xs.sum)) hs)
 | .max => optP (pairI (deref hs v)) fun p => K (.d (.int (if p.1 < p.2 then p.2 else p.1))) hs
 | .min => optP (pairI (deref hs v)) fun p => K (.d (.int (if p.2 < p.1 then p.2 else p.1))) hs
 | .range => optP v.int? fun n => (small n) /\ K (.d (.rng n)) hs
 | _ => False
noncomputable def stays (g : Option (Nat × D)) (hs : Hs) : Prop := match g with
 | none => True
 | some (n, d) => hs.hp.getD n .none = d
noncomputable def callD (call : CallR) (m : Bool) (f : D) (vs : List V) (hs : Hs) (K : KE) : Prop := match f with
 | .fn b x => call m b x vs hs K
 | .meth x => call m true x (.d .mpu :: vs) hs K
 | .bi id => biCall id vs hs K
 | _ => False
noncomputable def callV (call : CallR) (m : Bool) (f : V) (vs : List V) (hs : Hs) (K : KE) : Prop := optP f.d? fun f => callD call m f vs hs K
noncomputable def argNs (a : Arguments) : Option (List Str) := if plainArgs a then some (a.args.map (·.arg)) else none
noncomputable def V.isCls : V -> Bool
 | .d .cls => true
 | _ => false
theorem V.isCls_eq {v : V} (h : v.isCls = true) : v = .d .cls := by
 cases v with
 | loc _ => exact ff h
 | d x => cases x <;> first | rfl | exact ff h
noncomputable def V.isNone : V -> Bool
 | .d .none => true
 | _ => false
theorem V.isNone_eq {v : V} (h : v.isNone = true) : v = .d .none := by
 cases v with
 | loc _ => exact ff h
 | d x => cases x <;> first | rfl | exact ff h
noncomputable def initNs : List Str -> List Str -> Bool
 | _ :: as, ns => sameNs as ns
 | [], _ => false
noncomputable def newV (X : PX) (call : CallR) (f : V) (ns : Option (List Str)) (vs : List V) (hs : Hs) (K : KE) : Prop :=
 need (f.isCls && hs.mp.isNone) <| optP (fnOf X true "__init__") fun F => optP (argNs F.args) fun as => optP ns fun ns =>
 need (initNs as ns) (call false true "__init__" (.d .mpu :: vs) ⟨hs.hp, some []⟩ fun r hs => need r.isNone (K (.d .mpu) hs))
noncomputable def D.fn? : D -> Option Str
 | .fn _ y => some y
 | _ => Option.none
noncomputable def isMeth (X : PX) (x : Str) (f : Loc) : Option Str := noB (sLook x f).isSome (optB (clsD X x) D.fn?)
theorem D.fn_eq {d : D} {y : Str} (h : d.fn? = some y) : ∃ m, d = .fn m y := by
 cases d with
 | fn m y => exact ⟨m, congrArg (D.fn m) (some_eq h)⟩
 | _ => exact none_some h
theorem boundD_cases (d : D) : (∃ m y, d = .fn m y) \/ ((∀ m y, d ≠ .fn m y) /\ boundD d = d) := by
 cases d with
 | fn m y => exact .inl ⟨m, y, rfl⟩
 | _ => exact .inr ⟨fun m y e => (nomatch e), rfl⟩
noncomputable def tgOf (X : PX) (o : V) (x : Str) (hs : Hs) : Option Str := noB (!o.isMpu) (optB hs.mp fun f => isMeth X x f)
noncomputable def callTg (call : CallR) (m : Bool) (t : Str) (vs : List V) (hs : Hs) (K : KE) : Prop := call m true t (.d .mpu :: vs) hs K
noncomputable def itemsD : D -> Option (List D)
 | .ints xs => some (xs.map .int)
 | .list xs => some xs
 | .rng n => some ((List.range n.toNat).map fun (i : Nat) => D.int i)
 | _ => none
noncomputable def enumFrom : Nat -> List D -> List D
 | _, [] => []
 | n, x :: r => .tup [.int n, x] :: enumFrom (n + 1) r
noncomputable def isRng : D -> Bool
 | .rng _ => true
 | _ => false
noncomputable def smallR : D -> Prop
 | .rng n => small n
 | _ => True
noncomputable def guardOf (v : V) (hs : Hs) : Option (Nat × D) := optB v.loc? fun n => some (n, deref hs v)
noncomputable def iterE (rec : Expr -> Hs -> KE -> Prop) (isEnum : Expr -> Option Expr) (t e : Expr) (hs : Hs) (K : List D -> Option (Nat × D) -> Hs -> Prop) : Prop :=
 orP (isEnum e) (fun e => need (isTupE t) (rec e hs fun v hs => need (!isRng (deref hs v)) (optP (itemsD (deref hs v)) fun xs => K (enumFrom 0 xs) (guardOf v hs) hs)))
  (rec e hs fun v hs => smallR (deref hs v) /\ optP (itemsD (deref hs v)) fun xs => K xs (guardOf v hs) hs)
noncomputable def isGI : Option NameKind -> Bool
 | some .globalImplicit => true
 | _ => false
noncomputable def D.isEnum : D -> Bool
 | .bi .enum => true
 | _ => false
noncomputable def isEnumN (X : PX) (sc : Names) (x : Str) : Bool := isGI (sLook x sc) && (match glob X x with | some d => d.isEnum | none => false)
noncomputable def callP : Expr -> Option (Expr × List Expr × List Keyword)
 | .Call f args kws _ => some (f, args, kws)
 | _ => none
noncomputable def enumOf (X : PX) (sc : Names) (e : Expr) : Option Expr := optB (callP e) fun q => optB (nameP1 q.1) fun x => optB (one q.2.1) fun e => noB (!(q.2.2.isEmpty && isEnumN X sc x && okArgsE [e])) (some e)
noncomputable def storable (k : Option NameKind) : Bool := match k with
 | some .local | some .cell => true
 | _ => false
noncomputable def locK (k : Option NameKind) : Bool := match k with
 | some .local => true
 | _ => false
noncomputable def isLocN (sc : Names) (t : Expr) : Bool := match nameQ t with
 | some q => locK (sLook q.1 sc)
 | none => false
noncomputable def okSwap (sc : Names) (t e : Expr) : Bool := notSC e && match t with
 | .Tuple ts _ _ => (!isTupE e && !isLstE e) || ts.any (fun t => !isLocN sc t)
 | .List .. => false
 | .Starred .. => false
 | _ => true
noncomputable def tupP : Expr -> Option (List Expr)
 | .Tuple ts _ _ => some ts
 | _ => none
noncomputable def swapNs (sc : Names) (t e : Expr) : Option (Str × Str) := optB (tupP t) fun ts => optB (tupP e) fun es => optB (pairL ts) fun p => optB (nameQ p.1) fun x => optB (nameQ p.2) fun y =>
 noB (!(locK (sLook x.1 sc) && locK (sLook y.1 sc) && Nat.beq y.2.line x.2.line && !sEq x.1 y.1 && Nat.beq es.length 2 && noStar es && !es.all (foldedForSure 8) && !es.all (constantsAlone 8))) (some (x.1, y.1))
noncomputable def two (d : D) : Option (D × D) := optB d.tup? pairL
noncomputable def bindNs (sc : Names) : List Expr -> List D -> Loc -> Option Loc
 | [], [], loc => some loc
 | e :: es, d :: ds, loc => optB (nameQ e) fun q => noB (!locK (sLook q.1 sc)) (bindNs sc es ds (putL q.1 (.d d) loc))
 | _, _, _ => none
noncomputable def bindT (sc : Names) (t : Expr) (d : D) (loc : Loc) : Option Loc := match t with
 | .Name x _ => if locK (sLook x sc) then some (putL x (.d d) loc) else none
 | .Tuple ts _ _ => optB d.tup? fun ds => bindNs sc ts ds loc
 | _ => none
noncomputable def ifsE (rec : Expr -> Hs -> KE -> Prop) : List Expr -> Hs -> (Bool -> Hs -> Prop) -> Prop
 | [], hs, K => K true hs
 | e :: r, hs, K => rec e hs fun v hs => truthV v hs fun b => br b (ifsE rec r hs K) (K false hs)
noncomputable def compL (rec : Loc -> Expr -> Hs -> KE -> Prop) (sc : Names) (t elt : Expr) (ifs : List Expr) (g : Option (Nat × D)) (K : List D -> Hs -> Prop) : List D -> Loc -> Hs -> List D -> Prop
 | [], _, hs, acc => stays g hs /\ K acc.reverse hs
 | x :: r, loc, hs, acc => stays g hs /\ optP (bindT sc t x loc) fun loc => ifsE (rec loc) ifs hs fun b hs => br b (rec loc elt hs fun v hs => optP v.d? fun y => compL rec sc t elt ifs g K r loc hs (y :: acc)) (compL rec sc t elt ifs g K r loc hs acc)
noncomputable def isCell : Option NameKind -> Bool
 | some .cell => true
 | _ => false
noncomputable def compKind (sc : Names) (x : Str) (k : NameKind) : NameKind := match isFr k && isCell (sLook x sc) with
 | true => .cell
 | false => k
noncomputable def compSc (sc : Names) (own : Names) : Names := own.map fun p => (p.1, compKind sc p.1 p.2)
noncomputable def dropNames (own : Names) : Loc -> Loc
 | [] => []
 | p :: r => match isLoc0 (sLook p.1 own) with
  | true => dropNames own r
  | false => p :: dropNames own r
noncomputable abbrev Ev := Expr -> Hs -> KE -> Prop
noncomputable def cmpE (rec : Ev) (l : Expr) (ops : List CmpOp) (rs : List Expr) (hs : Hs) (K : KE) : Prop := match ops with
 | [op] => (match rs with
  | [r] => need (notSet r) (rec l hs fun a hs => rec r hs fun b hs => cmpV op a b hs fun c => K (.d (.bool c)) hs)
  | _ => False)
 | _ => False
noncomputable def attrP : Expr -> Option (Expr × Str × Pos)
 | .Attribute o x ap => some (o, x, ap)
 | _ => none
noncomputable def callA (X : PX) (call : CallR) (rec : Ev) (m : Bool) (o : Expr) (x : Str) (ap : Pos) (args : List Expr) (kws : List Keyword) (p : Pos) (hs : Hs) (K : KE) : Prop := match kws with
 | [] => need (okArgsE args && okBase o && Nat.beq ap.endLine p.line) (rec o hs fun ov hs => optP (tgOf X ov x hs) fun t => evs rec args hs fun vs hs => callTg call m t vs hs K)
 | _ :: _ => False
noncomputable def callF (X : PX) (call : CallR) (rec : Ev) (m : Bool) (f : Expr) (args : List Expr) (kws : List Keyword) (hs : Hs) (K : KE) : Prop := match kws with
 | [] => need (okArgsE args) (rec f hs fun fv hs => evs rec args hs fun vs hs => callV call m fv vs hs K)
 | k :: ks => (match args with
  | [] => optP (kwNs (k :: ks)) fun ns => rec f hs fun fv hs => evs rec ((k :: ks).map (·.value)) hs fun vs hs => newV X call fv (some ns) vs hs K
  | _ :: _ => False)
noncomputable def callE (X : PX) (call : CallR) (rec : Ev) (m : Bool) (f : Expr) (args : List Expr) (kws : List Keyword) (p : Pos) (hs : Hs) (K : KE) : Prop := match attrP f with
 | some (o, x, ap) => callA X call rec m o x ap args kws p hs K
 | none => callF X call rec m f args kws hs K
noncomputable def sliceP : Expr -> Option (Option Expr × Option Expr × Option Expr)
 | .Slice lo hi st _ => some (lo, hi, st)
 | _ => none
noncomputable def subE (rec : Ev) (m : Bool) (o i : Expr) (hs : Hs) (K : KE) : Prop := match sliceP i with
 | some (lo, hi, st) => need st.isNone (rec o hs fun ov hs => evOpt rec lo hs fun l hs => evOpt rec hi hs fun h hs => sliceV m ov l h hs K)
 | none => rec o hs fun ov hs => rec i hs fun iv hs => itemV ov iv hs K
noncomputable def genP (gens : List Comprehension) : Option (Expr × Expr × List Expr) := optB (one gens) fun g => noB (!decide (g.is_async = 0)) (some (g.target, g.iter, g.ifs))
noncomputable def nodupS : List Str -> Bool
 | [] => true
 | x :: r => !sMem x r && nodupS r
noncomputable def keyS (k : Option Expr) : Option Str := optB k fun e => optB (conP e) fun q => strK q.1
noncomputable def keyI (k : Option Expr) : Option Int := optB k fun e => optB (conP e) fun q => intK q.1
noncomputable def dictS : List (Option Expr) -> List Expr -> Option (List (Str × Int))
 | [], [] => some []
 | k :: ks, v :: vs => optB (keyS k) fun x => optB (keyI (some v)) fun i => optB (dictS ks vs) fun l => some ((x, i) :: l)
 | _, _ => none
noncomputable def dictI (ks : List (Option Expr)) (vs : List Expr) : Option (Int × Int) := optB (one ks) fun k => optB (one vs) fun v => both (keyI k) (keyI (some v))
noncomputable def okSd (l : List (Str × Int)) : Bool := nodupS (l.map (·.1)) && Nat.ble l.length 15 && !l.isEmpty
noncomputable def dictE (m : Bool) (ks : List (Option Expr)) (vs : List Expr) (hs : Hs) (K : KE) : Prop := match m with
 | true => optP (dictI ks vs) fun p => K (.loc hs.hp.length) ⟨hs.hp ++ [.dict p.1 p.2], hs.mp⟩
 | false => optP (dictS ks vs) fun l => need (okSd l) (K (.d (.sdict l)) hs)
noncomputable def stepE (X : PX) (call : CallR) (rec : RecE) : RecE := fun sc m e loc hs K => match e with
 | .Constant c _ _ => optP (constD c) fun d => K (.d d) hs
 | .Name x _ => evName X sc x loc hs K
 | .BinOp l op r _ => rec sc false l loc hs fun a hs => rec sc false r loc hs fun b hs => binOpV op m a b hs K
 | .UnaryOp op x _ => rec sc false x loc hs fun a hs => unOpV op a hs K
 | .BoolOp op es _ => boolE (fun e => rec sc false e loc) op es hs K
 | .IfExp t a b _ => rec sc false t loc hs fun v hs => truthV v hs fun c => br c (rec sc m a loc hs K) (rec sc m b loc hs K)
 | .List es _ => need (noStar es && Nat.ble es.length 2000) (evs (fun e => rec sc false e loc) es hs fun vs hs => optP (asDs vs) fun ds => alloc m (mkList ds) hs K)
 | .Tuple es _ _ => need (noStar es && Nat.ble es.length 2000) (evs (fun e => rec sc false e loc) es hs fun vs hs => optP (asDs vs) fun ds => K (.d (.tup ds)) hs)
 | .Compare l ops rs _ => cmpE (fun e => rec sc false e loc) l ops rs hs K
 | .Call f args kws p => callE X call (fun e => rec sc false e loc) m f args kws p hs K
 | .Attribute o x _ => need (okBase o) (rec sc false o loc hs fun ov hs => getAttrV X ov x hs K)
 | .Subscript o i _ => subE (fun e => rec sc false e loc) m o i hs K
 | .Dict ks vs _ => dictE m ks vs hs K
 | .ListComp elt gens scope _ => optP (genP gens) fun q => need (okComp sc scope && notSet q.2.1) (iterE (fun e => rec sc false e loc) (enumOf X sc) q.1 q.2.1 hs fun xs g hs => xs.length <= lim /\
   compL (fun loc e => rec (compSc sc scope.names) false e loc) (compSc sc scope.names) q.1 elt q.2.2 g (fun ds hs => alloc m (mkList ds) hs K) xs (dropNames scope.names loc) hs [])
 | _ => False
noncomputable def evE (X : PX) (call : CallR) : Nat -> RecE
 | 0 => fun _ _ _ _ _ _ => False
 | n + 1 => stepE X call (evE X call n)
noncomputable def exL (rs : RecS) : List Stmt -> Loc -> Hs -> KS -> Prop
 | [], loc, hs, K => K .next loc hs
 | s :: r, loc, hs, K => rs s loc hs fun f loc hs => match f with
  | .next => exL rs r loc hs K
  | .brk => K .brk loc hs
  | .ret v => K (.ret v) loc hs
noncomputable def asg1 (sc : Names) (rec : Expr -> Loc -> Hs -> KE -> Prop) (t : Expr) (v : V) (loc : Loc) (hs : Hs) (K : Loc -> Hs -> Prop) : Prop := match t with
 | .Name x _ => need (storable (sLook x sc)) (K (putL x v loc) hs)
 | .Attribute o x _ => rec o loc hs fun ov hs => setAttrV ov x v hs fun hs => K loc hs
 | .Subscript o i _ => orP (sliceP i) (fun q => need q.2.2.isNone (rec o loc hs fun ov hs => evOpt (fun e => rec e loc) q.1 hs fun l hs => evOpt (fun e => rec e loc) q.2.1 hs fun h hs => setSliceV ov l h v hs fun hs => K loc hs))
  (rec o loc hs fun ov hs => rec i loc hs fun iv hs => setItemV ov iv v hs fun hs => K loc hs)
 | _ => False
noncomputable def asgs (sc : Names) (rec : Expr -> Loc -> Hs -> KE -> Prop) : List Expr -> List D -> Loc -> Hs -> (Loc -> Hs -> Prop) -> Prop
 | [], [], loc, hs, K => K loc hs
 | t :: ts, d :: ds, loc, hs, K => asg1 sc rec t (.d d) loc hs fun loc hs => asgs sc rec ts ds loc hs K
 | _, _, _, _, _ => False
noncomputable def asg (sc : Names) (rec : Expr -> Loc -> Hs -> KE -> Prop) (t : Expr) (v : V) (loc : Loc) (hs : Hs) (K : Loc -> Hs -> Prop) : Prop :=
 orP (tupP t) (fun ts => optP v.d? fun d => orP d.tup? (fun ds => need (Nat.beq ts.length ds.length && noStar ts) (asgs sc rec ts ds loc hs K)) (optP d.ints? fun is => need (Nat.beq ts.length is.length && noStar ts && Nat.ble 1 is.length) (asgs sc rec ts (is.map .int) loc hs K)))
  (asg1 sc rec t v loc hs K)
noncomputable def forL (bind : D -> Loc -> Hs -> (Loc -> Hs -> Prop) -> Prop) (body : Loc -> Hs -> KS -> Prop) (g : Option (Nat × D)) (K : KS) : List D -> Loc -> Hs -> Prop
 | [], loc, hs => stays g hs /\ K .next loc hs
 | x :: r, loc, hs => stays g hs /\ bind x loc hs fun loc hs => body loc hs fun f loc hs => match f with
  | .next => forL bind body g K r loc hs
  | .brk => K .next loc hs
  | .ret v => K (.ret v) loc hs
noncomputable def mutT (X : PX) : Expr -> Bool
 | .Name x _ => sMem x X.muts
 | _ => false
noncomputable def augV (op : Operator) (old v : V) (hs : Hs) (K : KE) : Prop := orP old.int? (fun i => optP v.int? fun j => binInt op i j hs K)
 (need (isAdd op) (optP old.loc? fun n => extendV n v hs fun hs => K (.loc n) hs))
noncomputable def augS (X : PX) (sc : Names) (ev : Expr -> Loc -> Hs -> KE -> Prop) (t : Expr) (op : Operator) (e : Expr) (loc : Loc) (hs : Hs) (K : KS) : Prop := match t with
 | .Name x _ => need (storable (sLook x sc)) (evName X sc x loc hs fun old hs => ev e loc hs fun v hs => augV op old v hs fun w hs => K .next (putL x w loc) hs)
 | .Attribute o x _ => ev o loc hs fun ov hs => getAttrV X ov x hs fun old hs => ev e loc hs fun v hs => augV op old v hs fun w hs => setAttrV ov x w hs fun hs => K .next loc hs
 | .Subscript o i _ => need (!isSliceE i) <| ev o loc hs fun ov hs => ev i loc hs fun iv hs => itemV ov iv hs fun old hs => ev e loc hs fun v hs => augV op old v hs fun w hs => setItemV ov iv w hs fun hs => K .next loc hs
 | _ => False
noncomputable def stepS (X : PX) (sc : Names) (rm : Bool) (ev : Bool -> Expr -> Loc -> Hs -> KE -> Prop) (rec : RecS) : RecS := fun s loc hs K => match s with
 | .Expr e _ => need (isCall e) (ev false e loc hs fun _ hs => K .next loc hs)
 | .Pass _ => K .next loc hs
 | .Break _ => K .brk loc hs
 | .Return o _ => (match o with
  | none => K (.ret (.d .none)) loc hs
  | some e => ev rm e loc hs fun v hs => K (.ret v) loc hs)
 | .Assign ts e _ => (match ts with
  | [t] => orP (swapNs sc t e) (fun p => ev false e loc hs fun v hs => optP v.d? fun d => optP (two d) fun q => K .next (putL p.1 (.d q.1) (putL p.2 (.d q.2) loc)) hs)
   (need (okSwap sc t e) (ev (mutT X t) e loc hs fun v hs => asg sc (ev false) t v loc hs fun loc hs => K .next loc hs))
  | _ => False)
 | .AugAssign t op e _ => augS X sc (ev false) t op e loc hs K
 | .If t a b _ => ev false t loc hs fun v hs => truthV v hs fun c => br c (exL rec a loc hs K) (exL rec b loc hs K)
 | .For t it body els _ => need els.isEmpty (need (notSet it) (iterE (fun e => ev false e loc) (enumOf X sc) t it hs fun xs g hs => forL (fun d loc hs k => asg sc (ev false) t (.d d) loc hs k) (exL rec body) g K xs loc hs))
 | _ => False
noncomputable def evS (X : PX) (sc : Names) (rm : Bool) (ev : Bool -> Expr -> Loc -> Hs -> KE -> Prop) : Nat -> RecS
 | 0 => fun _ _ _ _ => False
 | n + 1 => stepS X sc rm ev (evS X sc rm ev n)
noncomputable def zipA : List Str -> List V -> Option Loc
 | [], [] => some []
 | x :: xs, v :: vs => optB (zipA xs vs) fun l => some ((x, v) :: l)
 | _, _ => none
noncomputable def retV : Fl -> V
 | .ret v => v
 | _ => .d .none
noncomputable def depthE : Nat := 40
noncomputable def depthS : Nat := 12
noncomputable def bodyE (X : PX) (call : CallR) (rm : Bool) (F : Fn) (loc : Loc) (hs : Hs) (K : KS) : Prop :=
 exL (evS X F.scope.names rm (fun m e => evE X call depthE F.scope.names m e) depthS) F.body loc hs K
noncomputable def noFree : Names -> Bool
 | [] => true
 | p :: r => !isFr p.2 && noFree r
noncomputable def okParams (ns : Names) : List Str -> Bool
 | [] => true
 | x :: r => storable (sLook x ns) && okParams ns r
noncomputable def okFn (F : Fn) (ns : List Str) : Bool := nodupS ns && isFn? F.scope.kind && !F.scope.isCoroutine && !F.scope.isGenerator && noFree F.scope.names && nodupN F.scope.names && noDebug F.scope.names && okParams F.scope.names ns
noncomputable def noCall : CallR := fun _ _ _ _ _ _ => False
noncomputable def okWrap (W : WrapP) (sc : Names) (loc : Loc) : Bool :=
 okComp sc W.lsc && locK (sLook W.wn sc) && (sLook W.wn loc).isNone && locK (sLook W.xn W.lsc.names) && okArgsE [W.inner] && okArgsE [W.ea] && okBase W.o && Nat.beq W.ap.endLine W.cp.line
noncomputable def wrapB (X : PX) (call : CallR) (rm : Bool) (W : WrapP) (sc : Names) (loc : Loc) (hs : Hs) (K : KS) : Prop := need (okWrap W sc loc) <|
 evE X call depthE sc false W.e1 loc hs fun v1 hs => evE X call depthE sc false W.o loc hs fun ov hs => optP (tgOf X ov W.x hs) fun t => evE X call depthE sc false W.ea loc hs fun v hs =>
 evE X noCall depthE W.lsc.names false W.lb ((W.xn, v) :: dropNames W.lsc.names loc) hs fun u hs => callTg call false t [u] hs fun w hs =>
 evE X call depthE sc false W.e2 loc hs fun z hs => binOpV .LShift false w z hs fun y hs => binOpV .Add rm v1 y hs fun r hs => K (.ret r) loc hs
noncomputable def wrapOf (X : PX) (b : Bool) (x : Str) : Option WrapP := optB X.wrap fun W => noB (!(b && sEq x W.fn)) (some W)
noncomputable def bodyW (X : PX) (call : CallR) (rm : Bool) (W : Option WrapP) (F : Fn) (loc : Loc) (hs : Hs) (K : KS) : Prop := match W with
 | some W => wrapB X call rm W F.scope.names loc hs K
 | none => bodyE X call rm F loc hs K
noncomputable def retC (cu : Bool) (n : Nat) (v : V) (hs : Hs) (K : KE) : Prop := match cu with
 | true => optP v.d? fun x => need hs.mp.isNone (K (.d x) ⟨hs.hp.take n, none⟩)
 | false => K v hs
noncomputable def callN (X : PX) : Nat -> CallR
 | 0 => fun _ _ _ _ _ _ => False
 | n + 1 => fun m b x vs hs K => optP (fnOf X b x) fun F => optP (argNs F.args) fun ns => optP (zipA ns vs) fun loc =>
  need (okFn F ns) (bodyW X (callN X n) m (wrapOf X b x) F loc hs fun f _ hs' => retC (!b && sMem x X.cuts) hs.hp.length (retV f) hs' K)
structure WrapI where
 cc : Addr
 tb : Addr
 pos : Pos
 qual : Str
structure Stat where
 wrap : Option WrapI
 P : Program
 w : World
 X : PX
 G₀ : Addr -> Option Obj
 fa : Bool -> Str -> Option Addr
 ca : Addr
 os : OsState
structure Cn where
 G : Addr -> Option Obj
 ρ : List Addr
 mx : Option (Addr × Addr)
noncomputable def Sub (G : Addr -> Option Obj) (h : Heap) : Prop := ∀ b o, G b = some o -> h.get? b = some o
noncomputable abbrev listO (vs : List Value) (n : Nat) : Obj := ⟨.type "list", none, .seq vs.toArray n, #[]⟩
noncomputable abbrev tupO (vs : List Value) (n : Nat) : Obj := ⟨.type "tuple", none, .seq vs.toArray n, #[]⟩
noncomputable def biV : Bi -> Value
 | .range => .type "range"
 | .enum => .type "enumerate"
 | b => .builtin b.id
inductive RSeq (G : Addr -> Option Obj) (m : List Value -> Nat -> Obj) (R : List Value -> Prop) (v : Value) : Prop
 | mk (a : Addr) (vs : List Value) (n : Nat) (e : v = .ref a) (g : G a = some (m vs n)) (r : R vs) : RSeq G m R v
inductive RMeth (Z : Stat) (c : Cn) (x : Str) (v : Value) : Prop
 | mk (a f q d : Addr) (e : v = .ref a) (e2 : Z.fa true x = some f) (e3 : c.mx = some (q, d)) (g : c.G a = some (methodObj (.ref f) (.ref q))) : RMeth Z c x v
inductive RMpu (c : Cn) (v : Value) : Prop
 | mk (q d : Addr) (e : v = .ref q) (e3 : c.mx = some (q, d)) : RMpu c v
inductive RRng (G : Addr -> Option Obj) (n : Int) (v : Value) : Prop
 | mk (a : Addr) (t u x : Tok) (e : v = .ref a) (g : G a = some { cls := .type "range", dict := none, data := .fields #[.int 0 t, .int n u, .int 1 x], slots := #[] }) : RRng G n v
inductive RArg (G : Addr -> Option Obj) (xs : List Int) (v : Value) : Prop
 | mk (a : Addr) (o : Obj) (vs : Array Value) (n : Nat) (e : v = .ref a) (g : G a = some o) (r1 : o.cls = .type "list") (r2 : o.data = .seq vs n) (r3 : IntsAre vs.toList xs) : RArg G xs v
inductive SI : List (Str × Value) -> List (Str × Int) -> Prop
 | nil : SI [] []
 | cons {x : Str} {i : Int} {t : Tok} {kvs : List (Str × Value)} {xs : List (Str × Int)} : SI kvs xs -> SI ((x, .int i t) :: kvs) ((x, i) :: xs)
inductive RSDict (Z : Stat) (G : Addr -> Option Obj) (xs : List (Str × Int)) (v : Value) : Prop
 | mk (a : Addr) (o : Obj) (kvs : List (Str × Value)) (e : v = .ref a) (g : G a = some o) (i : o.IsDictOf (strKind Z.P Z.w) kvs) (r : SI kvs xs) : RSDict Z G xs v
inductive RCons {α : Type} (P : α -> Prop) (R : List α -> Prop) (vs : List α) : Prop
 | mk (v : α) (r : List α) (e : vs = v :: r) (h1 : P v) (h2 : R r) : RCons P R vs
inductive RLoc (ρ : List Addr) (n : Nat) (v : Value) : Prop
 | mk (a : Addr) (h : ρ[n]? = some a) (e : v = .ref a) : RLoc ρ n v
mutual
noncomputable def RepD (Z : Stat) (c : Cn) : D -> Value -> Prop
 | .none, v => v = .none
 | .bool b, v => v = .bool b
 | .int i, v => ∃ t, v = .int i t
 | .str x, v => ∃ t, v = .str x t
 | .tup xs, v => RSeq c.G tupO (fun vs => RepDs Z c xs vs) v
 | .list xs, v => RSeq c.G listO (fun vs => RepDs Z c xs vs) v
 | .ints xs, v => RSeq c.G listO (fun vs => IntsAre vs xs) v
 | .fn m x, v => ∃ a, v = .ref a /\ Z.fa m x = some a
 | .meth x, v => RMeth Z c x v
 | .bi b, v => v = biV b
 | .cls, v => v = .ref Z.ca
 | .mpu, v => RMpu c v
 | .rng n, v => RRng c.G n v
 | .arg xs, v => RArg c.G xs v
 | .dict _ _, _ => False
 | .sdict xs, v => RSDict Z c.G xs v
noncomputable def RepDs (Z : Stat) (c : Cn) : List D -> List Value -> Prop
 | [], vs => vs = []
 | x :: xs, vs => RCons (fun v => RepD Z c x v) (fun r => RepDs Z c xs r) vs
end
noncomputable def RepV (Z : Stat) (c : Cn) : V -> Value -> Prop
 | .d x, v => RepD Z c x v
 | .loc n, v => RLoc c.ρ n v
noncomputable def RepF (Z : Stat) (c : Cn) : Fl -> Flow -> Prop
 | .next, f => f = .next
 | .brk, f => f = .brk
 | .ret V, f => ∃ v, f = .ret v /\ RepV Z c V v
noncomputable def RepVs (Z : Stat) (c : Cn) : List V -> List Value -> Prop
 | [], vs => vs = []
 | x :: xs, vs => RCons (fun v => RepV Z c x v) (fun r => RepVs Z c xs r) vs
structure Cn.le (c c' : Cn) : Prop where
 g : ∀ (b : Addr) (o : Obj), c.G b = some o -> c'.G b = some o
 ρ : ∀ (n : Nat) (a : Addr), c.ρ[n]? = some a -> c'.ρ[n]? = some a
 mx : ∀ p, c.mx = some p -> c'.mx = some p
theorem Cn.le.refl (c : Cn) : c.le c := ⟨fun _ _ h => h, fun _ _ h => h, fun _ h => h⟩
theorem Cn.le.trans {a b c : Cn} (x : a.le b) (y : b.le c) : a.le c := ⟨fun p o h => y.g p o (x.g p o h), fun p o h => y.ρ p o (x.ρ p o h), fun p h => y.mx p (x.mx p h)⟩
structure Cn.leG (c c' : Cn) : Prop where
 g : ∀ (b : Addr) (o : Obj), c.G b = some o -> c'.G b = some o
 mx : ∀ p, c.mx = some p -> c'.mx = some p
theorem Cn.le.toG {c c' : Cn} (l : c.le c') : c.leG c' := ⟨l.g, l.mx⟩
mutual
theorem RepD.monoG {Z : Stat} {c c' : Cn} (l : c.leG c') : ∀ (x : D) (v : Value), RepD Z c x v -> RepD Z c' x v
 | .none, v, h => h
 | .bool b, v, h => h
 | .int i, v, h => h
 | .str i, v, h => h
 | .tup xs, v, h => by
  obtain ⟨a, vs, n, e, g, r⟩ := h
  exact ⟨a, vs, n, e, l.g _ _ g, RepDs.monoG l xs vs r⟩
 | .list xs, v, h => by
  obtain ⟨a, vs, n, e, g, r⟩ := h
  exact ⟨a, vs, n, e, l.g _ _ g, RepDs.monoG l xs vs r⟩
 | .ints xs, v, h => by
  obtain ⟨a, vs, n, e, g, r⟩ := h
  exact ⟨a, vs, n, e, l.g _ _ g, r⟩
 | .fn m x, v, h => h
 | .meth x, v, h => by
  obtain ⟨a, f, q, d, e, e2, e3, g⟩ := h
  exact ⟨a, f, q, d, e, e2, l.mx _ e3, l.g _ _ g⟩
 | .bi b, v, h => h
 | .cls, v, h => h
 | .mpu, v, h => by
  obtain ⟨q, d, e, e3⟩ := h
  exact ⟨q, d, e, l.mx _ e3⟩
 | .rng n, v, h => by
  obtain ⟨a, t, u, x, e, g⟩ := h
  exact ⟨a, t, u, x, e, l.g _ _ g⟩
 | .arg xs, v, h => by
  obtain ⟨a, o, vs, n, e, g, r1, r2, r3⟩ := h
  exact ⟨a, o, vs, n, e, l.g _ _ g, r1, r2, r3⟩
 | .dict _ _, v, h => h
 | .sdict xs, v, h => by
  obtain ⟨a, o, kvs, e, g, i, r⟩ := h
  exact ⟨a, o, kvs, e, l.g _ _ g, i, r⟩
theorem RepDs.monoG {Z : Stat} {c c' : Cn} (l : c.leG c') : ∀ (xs : List D) (vs : List Value), RepDs Z c xs vs -> RepDs Z c' xs vs
 | [], vs, h => h
 | x :: xs, vs, h => by
  obtain ⟨v, r, e, h1, h2⟩ := h
  exact ⟨v, r, e, RepD.monoG l x v h1, RepDs.monoG l xs r h2⟩
end
theorem RepD.mono {Z : Stat} {c c' : Cn} (l : c.le c') (x : D) (v : Value) (h : RepD Z c x v) : RepD Z c' x v := RepD.monoG l.toG x v h
theorem RepDs.mono {Z : Stat} {c c' : Cn} (l : c.le c') (xs : List D) (vs : List Value) (h : RepDs Z c xs vs) : RepDs Z c' xs vs := RepDs.monoG l.toG xs vs h
theorem SI.lookup {x : Str} {i : Int} {kvs : List (Str × Value)} {xs : List (Str × Int)} (h : SI kvs xs) : sLook x xs = some i -> ∃ t, valueAt kvs x = some (.int i t) := by
 induction h with
 | nil => exact fun e => nomatch e
 | @cons y j t kvs xs _ ih =>
  intro e
  unfold valueAt
  rw [List.find?_cons]
  unfold sLook at e
  by_cases q : y = x
  ·rw [decide_eq_true q]
   rw [if_pos (sEq_iff.mpr (by first | exact q | exact q.symm))] at e
   cases some_eq e
   exact ⟨t, rfl⟩
  ·rw [decide_eq_false q]
   rw [if_neg fun h => q (by first | exact sEq_iff.mp h | exact (sEq_iff.mp h).symm)] at e
   exact ih e
theorem RepV.mono {Z : Stat} {c c' : Cn} (l : c.le c') : ∀ {x : V} {v : Value}, RepV Z c x v -> RepV Z c' x v
 | .d x, v, h => RepD.mono l x v h
 | .loc n, v, h => by
  obtain ⟨a, e, r⟩ := h
  exact ⟨a, l.ρ _ _ e, r⟩
theorem RepVs.mono {Z : Stat} {c c' : Cn} (l : c.le c') : ∀ {xs : List V} {vs : List Value}, RepVs Z c xs vs -> RepVs Z c' xs vs
 | [], vs, h => h
 | x :: xs, vs, h => by
  obtain ⟨v, r, e, h1, h2⟩ := h
  exact ⟨v, r, e, h1.mono l, RepVs.mono l h2⟩
theorem RepF.mono {Z : Stat} {c c' : Cn} (l : c.le c') : ∀ {x : Fl} {v : Flow}, RepF Z c x v -> RepF Z c' x v
 | .next, _, h => h
 | .brk, _, h => h
 | .ret V, _, h => by
  obtain ⟨v, e, r⟩ := h
  exact ⟨v, e, r.mono l⟩
theorem RepDs.length {Z : Stat} {c : Cn} : ∀ {xs : List D} {vs : List Value}, RepDs Z c xs vs -> xs.length = vs.length
 | [], vs, h => by obtain rfl : vs = [] := h; rfl
 | x :: xs, vs, h => by
  obtain ⟨v, r, rfl, h1, h2⟩ := h
  exact congrArg Nat.succ (RepDs.length h2)
theorem RepDs.get {Z : Stat} {c : Cn} : ∀ {xs : List D} {vs : List Value}, RepDs Z c xs vs -> ∀ n, n < xs.length -> ∃ v, vs[n]? = some v /\ RepD Z c (xs.getD n .none) v
 | [], vs, h, n, hn => absurd hn (Nat.not_lt_zero n)
 | x :: xs, vs, h, n, hn => by
  obtain ⟨v, r, rfl, h1, h2⟩ := h
  cases n with
  | zero => exact ⟨v, rfl, h1⟩
  | succ n => exact RepDs.get h2 n (Nat.lt_of_succ_lt_succ hn)
inductive IA : List Value -> List Int -> Prop
 | nil : IA [] []
 | cons {i : Int} {t : Tok} {vs : List Value} {xs : List Int} : IA vs xs -> IA (.int i t :: vs) (i :: xs)
theorem isI_eq {v : Value} {j : Int} (h : isI v j) : ∃ t, v = .int j t := by
 cases v with
 | int i t => exact ⟨t, (h : i = j) ▸ rfl⟩
 | _ => exact False.elim h
theorem ia_of : ∀ {vs : List Value} {xs : List Int}, IntsAre vs xs -> IA vs xs
 | [], [], _ => .nil
 | [], _ :: _, h => h.elim
 | _ :: _, [], h => h.elim
 | _ :: vs, _ :: xs, h => let ⟨_, e⟩ := isI_eq h.1; e ▸ .cons (ia_of (vs := vs) (xs := xs) h.2)
theorem of_ia {vs : List Value} {xs : List Int} (h : IA vs xs) : IntsAre vs xs := by
 induction h with
 | nil => trivial
 | cons _ ih => exact ⟨rfl, ih⟩
theorem IntsAre.length' {vs : List Value} {xs : List Int} (h : IntsAre vs xs) : xs.length = vs.length := ints_length h
theorem ints_reps {Z : Stat} {c : Cn} {xs : List Int} {vs : List Value} (h : IA vs xs) : RepDs Z c (xs.map .int) vs := by
 induction h with
 | nil => rfl
 | cons _ ih => exact ⟨_, _, rfl, ⟨_, rfl⟩, ih⟩
theorem reps_ints {Z : Stat} {c : Cn} : ∀ {xs : List Int} {vs : List Value}, RepDs Z c (xs.map .int) vs -> IntsAre vs xs
 | [], vs, h => by obtain rfl : vs = [] := h; trivial
 | x :: xs, vs, h => by
  obtain ⟨v, r, rfl, ⟨t, rfl⟩, h⟩ := h
  exact ⟨rfl, reps_ints h⟩
theorem ints_iff {Z : Stat} {c : Cn} {xs : List Int} {vs : List Value} : IntsAre vs xs ↔ RepDs Z c (xs.map .int) vs := ⟨fun h => ints_reps (ia_of h), reps_ints⟩
theorem toInts_spec : ∀ {ds : List D} {is : List Int}, toInts ds = some is -> ds = is.map .int
 | [], is, h => some_eq h ▸ rfl
 | d :: ds, is, h => by
  obtain ⟨i, e, h⟩ := optB_iff h
  obtain ⟨l, e2, h⟩ := optB_iff h
  rw [D.int_eq e, toInts_spec e2, <- some_eq h, List.map_cons]
noncomputable def ListAs (Z : Stat) (c : Cn) : D -> List Value -> Prop
 | .ints xs, vs => IntsAre vs xs
 | .list xs, vs => RepDs Z c xs vs
 | _, _ => False
theorem mkList_as {Z : Stat} {c : Cn} {ds : List D} {vs : List Value} (h : RepDs Z c ds vs) : ListAs Z c (mkList ds) vs := by
 unfold mkList
 cases e : toInts ds with
 | some l => rw [toInts_spec e] at h; exact reps_ints h
 | none => exact h
theorem ListAs.mono {Z : Stat} {c c' : Cn} (l : c.le c') {x : D} {vs : List Value} (h : ListAs Z c x vs) : ListAs Z c' x vs := by
 cases x <;> first | exact h | exact RepDs.mono l _ _ h
theorem ListAs.rep {Z : Stat} {c : Cn} {x : D} {vs : List Value} (h : ListAs Z c x vs) {a : Addr} {n : Nat} (e : c.G a = some (listO vs n)) : RepD Z c x (.ref a) := by
 cases x <;> first | exact h.elim | exact ⟨a, vs, n, rfl, e, h⟩
inductive isObj (Z : Stat) (c : Cn) (x : D) (o : Obj) : Prop
 | mk (vs : List Value) (n : Nat) (e : o = listO vs n) (r : ListAs Z c x vs) : isObj Z c x o
 | dct (k i : Int) (t : Tok) (e : x = .dict k i) (d : o.IsDictOf (intKind Z.P Z.w) [(k, .int i t)]) : isObj Z c x o
inductive FldEnts (Z : Stat) (c : Cn) : List DictEntry -> Loc -> Prop
 | nil : FldEnts Z c [] []
 | cons {e : DictEntry} {es : List DictEntry} {x : Str} {t : Tok} {u : V} {f : Loc} : e.key = .str x t -> RepV Z c u e.val -> FldEnts Z c es f -> FldEnts Z c (e :: es) ((x, u) :: f)
inductive isFld (Z : Stat) (c : Cn) (f : Loc) (o : Obj) : Prop
 | mk (es : List DictEntry) (n : Nat) (e : o = dictOf es n) (r : FldEnts Z c es f) : isFld Z c f o
theorem FldEnts.mono {Z : Stat} {c c' : Cn} (l : c.le c') {es : List DictEntry} {f : Loc} (h : FldEnts Z c es f) : FldEnts Z c' es f := by
 induction h with
 | nil => exact .nil
 | cons a b _ ih => exact .cons a (b.mono l) ih
theorem isObj.mono {Z : Stat} {c c' : Cn} (l : c.le c') {x : D} {o : Obj} (h : isObj Z c x o) : isObj Z c' x o := by
 cases h with
 | mk vs n e r => exact .mk vs n e (r.mono l)
 | dct k i t e d => exact .dct k i t e d
theorem isObj.lst {Z : Stat} {c : Cn} {x : D} {o : Obj} (h : isObj Z c x o) (hx : x.isDct = false) : ∃ vs n, o = listO vs n /\ ListAs Z c x vs := by
 cases h with
 | mk vs n e r => exact ⟨vs, n, e, r⟩
 | dct k i t e d => cases e; exact nomatch hx
theorem isObj.dict {Z : Stat} {c : Cn} {k i : Int} {o : Obj} (h : isObj Z c (.dict k i) o) : ∃ t, o.IsDictOf (intKind Z.P Z.w) [(k, .int i t)] := by
 cases h with
 | mk vs n e r => exact r.elim
 | dct k i t e d => cases e; exact ⟨t, d⟩
theorem isFld.mono {Z : Stat} {c c' : Cn} (l : c.le c') {f : Loc} {o : Obj} (h : isFld Z c f o) : isFld Z c' f o := let ⟨vs, n, e, r⟩ := h; ⟨vs, n, e, r.mono l⟩
noncomputable abbrev Led := List (Addr × (Obj -> Prop))
noncomputable def Led.At (l : Led) (h : Heap) : Prop := ∀ p ∈ l, ∃ o, h.get? p.1 = some o /\ p.2 o
noncomputable def objLed (Z : Stat) (c : Cn) : List Addr -> List D -> Led
 | a :: r, x :: xs => (a, isObj Z c x) :: objLed Z c r xs
 | _, _ => []
inductive isTab (w : WrapI) (c : Cn) (o : Obj) : Prop
 | nil (e : o = { cls := .none, data := .fields #[] }) : isTab w c o
 | one (c' : Addr) (oc : Obj) (vs : Array Value) (t : Tok) (e : o = { cls := .none, data := .fields #[rawInt w.pos.line, rawInt w.pos.col, .ref c'] }) (g : c.G c' = some oc) (d : oc.data = .fields vs) (q : vs[1]? = some (.str w.qual t)) : isTab w c o
theorem isTab.mono {w : WrapI} {c c' : Cn} (l : c.le c') {o : Obj} (h : isTab w c o) : isTab w c' o := by
 cases h with
 | nil e => exact .nil e
 | one c' oc vs t e g d q => exact .one c' oc vs t e (l.g _ _ g) d q
theorem isTab.monoG {w : WrapI} {c c' : Cn} (l : c.leG c') {o : Obj} (h : isTab w c o) : isTab w c' o := by
 cases h with
 | nil e => exact .nil e
 | one c' oc vs t e g d q => exact .one c' oc vs t e (l.g _ _ g) d q
noncomputable def tabLed (w : Option WrapI) (c : Cn) : Led := match w with
 | some w => [(w.tb, isTab w c)]
 | none => []
noncomputable def mpLed0 (Z : Stat) (c : Cn) (mx : Option (Addr × Addr)) (mp : Option Loc) : Led := match mx, mp with
 | some (_, d), some f => [(d, isFld Z c f)]
 | none, none => []
 | _, _ => [(0, fun _ => False)]
noncomputable def mpLed (Z : Stat) (c : Cn) (mx : Option (Addr × Addr)) (mp : Option Loc) : Led := tabLed Z.wrap c ++ mpLed0 Z c mx mp
noncomputable def ledOf (Z : Stat) (c : Cn) (hs : Hs) : Led := mpLed Z c c.mx hs.mp ++ objLed Z c c.ρ hs.hp
noncomputable def InstG (Z : Stat) (c : Cn) : Prop := ∀ q d, c.mx = some (q, d) -> ∃ sl, c.G q = some ⟨.ref Z.ca, some d, .plain, sl⟩
structure Core (Z : Stat) (Kp : Addr -> Option Obj) (c : Cn) (hs : Hs) (s : Shared) : Prop where
 base : ∀ b o, Z.G₀ b = some o -> c.G b = some o
 sub : Sub c.G s.heap
 kp : Sub Kp s.heap
 dis : ∀ b o, Kp b = some o -> c.G b = none
 len : c.ρ.length = hs.hp.length
 led : (ledOf Z c hs).At s.heap
 apart : ((ledOf Z c hs).map (·.1)).Nodup
 free : ∀ p ∈ ledOf Z c hs, c.G p.1 = none /\ Kp p.1 = none
 inst : InstG Z c
 gens : s.gens = #[]
 os : s.os = Z.os
noncomputable def Cn.addG (c : Cn) (a : Addr) (o : Obj) : Cn := { c with G := fun b => if b = a then some o else c.G b }
noncomputable def Cn.addL (c : Cn) (a : Addr) : Cn := { c with ρ := c.ρ ++ [a] }
noncomputable def updK (K : Addr -> Option Obj) (a : Addr) (o : Obj) : Addr -> Option Obj := fun b => if b = a then some o else K b
theorem no2 {α : Type} {x : Option α} {o : α} {P : Prop} (h : x = none) (e : x = some o) : P := none_some (h.symm.trans e)
theorem ne_of {α : Type} {K : Addr -> Option α} {a b : Addr} {o : α} (h : K a = none) (e : K b = some o) : b ≠ a := fun q => no2 (q ▸ h) e
theorem upd_ne {K : Addr -> Option Obj} {a b : Addr} {o : Obj} (h : b ≠ a) : (if b = a then some o else K b) = K b := if_neg h
theorem upd_some {K : Addr -> Option Obj} {a b : Addr} {o o' : Obj} {P : Prop} (e : (if b = a then some o else K b) = some o') (h1 : b = a -> o = o' -> P) (h2 : b ≠ a -> K b = some o' -> P) : P := by
 by_cases q : b = a
 ·rw [if_pos q] at e; exact h1 q (some_eq e)
 ·rw [if_neg q] at e; exact h2 q e
theorem Cn.addL_le (c : Cn) (a : Addr) : c.le (c.addL a) := ⟨fun _ _ h => h, fun n b h => by
 have : n < c.ρ.length := (List.getElem?_eq_some_iff.mp h).1
 show (c.ρ ++ [a])[n]? = some b
 rw [List.getElem?_append_left this]; exact h, fun _ h => h⟩
theorem Cn.addG_le {c : Cn} {a : Addr} {o : Obj} (e : c.G a = none) : c.le (c.addG a o) := by
 exact ⟨fun b o' h => (upd_ne (ne_of e h)).trans h, fun _ _ h => h, fun _ h => h⟩
theorem Cn.addG_get (c : Cn) (a : Addr) (o : Obj) : (c.addG a o).G a = some o := if_pos rfl
theorem none_of_fresh {h : Heap} {G : Addr -> Option Obj} (S : Sub G h) {a : Addr} (e : h.get? a = none) : G a = none := by
 cases q : G a with
 | none => rfl
 | some o => exact no2 e (S a o q)
theorem fresh_size (h : Heap) : h.get? h.objs.size = none := by
 cases q : h.get? h.objs.size with
 | none => rfl
 | some o => exact absurd (Heap.lt_size q) (Nat.lt_irrefl _)
theorem fresh_ge {h : Heap} {a : Addr} (ha : h.objs.size <= a) : h.get? a = none := by
 cases q : h.get? a with
 | none => rfl
 | some o => exact absurd (Heap.lt_size q) (Nat.not_lt.mpr ha)
inductive LedMem (Z : Stat) (c : Cn) (r : List Addr) (xs : List D) (p : Addr × (Obj -> Prop)) : Prop
 | mk (n : Nat) (x : D) (e1 : r[n]? = some p.1) (e2 : xs[n]? = some x) (e3 : p.2 = isObj Z c x) : LedMem Z c r xs p
theorem objLed_mem {Z : Stat} {c : Cn} : ∀ {r : List Addr} {xs : List D} {p : Addr × (Obj -> Prop)}, p ∈ objLed Z c r xs -> LedMem Z c r xs p
 | [], _, _, h => nomatch h
 | _ :: _, [], _, h => nomatch h
 | a :: r, x :: xs, p, h => by
  rcases List.mem_cons.mp (show p ∈ (a, isObj Z c x) :: objLed Z c r xs from h) with rfl | h
  ·exact ⟨0, x, rfl, rfl, rfl⟩
  ·obtain ⟨n, y, e1, e2, e3⟩ := objLed_mem h
   exact ⟨n + 1, y, e1, e2, e3⟩
theorem objLed_of {Z : Stat} {c : Cn} : ∀ {r : List Addr} {xs : List D} {n : Nat} {a : Addr} {x : D}, r[n]? = some a -> xs[n]? = some x -> (a, isObj Z c x) ∈ objLed Z c r xs
 | b :: r, y :: xs, 0, a, x, h1, h2 => by cases h1; cases h2; exact .head _
 | b :: r, y :: xs, n + 1, a, x, h1, h2 => .tail _ (objLed_of (n := n) h1 h2)
 | [], _, _, _, _, h1, _ => nomatch h1
 | _ :: _, [], _, _, _, _, h2 => nomatch h2
theorem objLed_addr {Z : Stat} {c : Cn} : ∀ {r : List Addr} {xs : List D}, r.length = xs.length -> (objLed Z c r xs).map (·.1) = r
 | [], [], _ => rfl
 | a :: r, x :: xs, h => congrArg (a :: ·) (objLed_addr (Nat.succ.inj h))
 | [], _ :: _, h => nomatch h
 | _ :: _, [], h => nomatch h
theorem objLed_snoc {Z : Stat} {c : Cn} {a : Addr} {x : D} : ∀ {r : List Addr} {xs : List D}, r.length = xs.length -> objLed Z c (r ++ [a]) (xs ++ [x]) = objLed Z c r xs ++ [(a, isObj Z c x)]
 | [], [], _ => rfl
 | b :: r, y :: xs, h => congrArg ((b, isObj Z c y) :: ·) (objLed_snoc (r := r) (xs := xs) (Nat.succ.inj h))
 | [], _ :: _, h => nomatch h
 | _ :: _, [], h => nomatch h
theorem tabLed_addr {w : Option WrapI} {c c' : Cn} : (tabLed w c).map (·.1) = (tabLed w c').map (·.1) := by cases w <;> rfl
theorem tabLed_at {w : Option WrapI} {c c' : Cn} {h h' : Heap} (l : c.leG c') (k : ∀ p ∈ tabLed w c, ∀ o, h.get? p.1 = some o -> h'.get? p.1 = some o) (A : Led.At (tabLed w c) h) : Led.At (tabLed w c') h' := by
 cases w with
 | none => exact fun p hp => nomatch hp
 | some w =>
  intro p hp
  obtain rfl := List.mem_singleton.mp hp
  obtain ⟨o, e, f⟩ := A _ (.head _)
  exact ⟨o, k _ (.head _) o e, f.monoG l⟩
theorem mpLed_addr {Z : Stat} {c c' : Cn} {mx : Option (Addr × Addr)} {mp mp' : Option Loc} (h : mp.isSome = mp'.isSome) : (mpLed Z c mx mp).map (·.1) = (mpLed Z c' mx mp').map (·.1) := by
 unfold mpLed
 rw [List.map_append, List.map_append, tabLed_addr (c' := c')]
 cases mx <;> cases mp <;> cases mp' <;> first | rfl | exact nomatch h
theorem mpLed0_at {Z : Stat} {c c' : Cn} {mx : Option (Addr × Addr)} {mp : Option Loc} {h h' : Heap} (l : c.le c') (k : ∀ p ∈ mpLed0 Z c mx mp, ∀ o, h.get? p.1 = some o -> h'.get? p.1 = some o) (A : Led.At (mpLed0 Z c mx mp) h) : Led.At (mpLed0 Z c' mx mp) h' := by
 have no : ∀ {l : Led}, Led.At [((0 : Addr), fun _ => False)] h -> Led.At l h' := fun A => let ⟨_, _, f⟩ := A _ (.head _); f.elim
 cases mx with
 | none => cases mp with
  | none => exact fun p hp => nomatch hp
  | some f => exact no A
 | some q => cases mp with
  | none => exact no A
  | some f =>
   intro p hp
   obtain rfl := List.mem_singleton.mp hp
   obtain ⟨o, e, f⟩ := A _ (.head _)
   exact ⟨o, k _ (.head _) o e, f.mono l⟩
theorem Led.at_append {l₁ l₂ : Led} {h : Heap} (a : l₁.At h) (b : l₂.At h) : Led.At (l₁ ++ l₂) h := fun p hp => (List.mem_append.mp hp).elim (a p) (b p)
theorem Led.at_l {l₁ l₂ : Led} {h : Heap} (a : Led.At (l₁ ++ l₂) h) : l₁.At h := fun p hp => a p (List.mem_append_left _ hp)
theorem Led.at_r {l₁ l₂ : Led} {h : Heap} (a : Led.At (l₁ ++ l₂) h) : l₂.At h := fun p hp => a p (List.mem_append_right _ hp)
theorem mpLed_at {Z : Stat} {c c' : Cn} {mx : Option (Addr × Addr)} {mp : Option Loc} {h h' : Heap} (l : c.le c') (k : ∀ p ∈ mpLed Z c mx mp, ∀ o, h.get? p.1 = some o -> h'.get? p.1 = some o) (A : Led.At (mpLed Z c mx mp) h) : Led.At (mpLed Z c' mx mp) h' :=
 Led.at_append (tabLed_at l.toG (fun p hp => k p (List.mem_append_left _ hp)) (Led.at_l A)) (mpLed0_at l (fun p hp => k p (List.mem_append_right _ hp)) (Led.at_r A))
theorem objLed_at {Z : Stat} {c c' : Cn} {r : List Addr} {xs : List D} {h h' : Heap} (l : c.le c') (k : ∀ a ∈ r, ∀ o, h.get? a = some o -> h'.get? a = some o) (A : Led.At (objLed Z c r xs) h) : Led.At (objLed Z c' r xs) h' := by
 intro p hp
 obtain ⟨n, x, e1, e2, e3⟩ := objLed_mem hp
 obtain ⟨o, e, f⟩ := A _ (objLed_of (c := c) e1 e2)
 exact ⟨o, k _ (List.mem_of_getElem? e1) o e, by rw [e3]; exact f.mono l⟩
section
variable {Z : Stat} {Kp : Addr -> Option Obj} {c : Cn} {hs : Hs} {s : Shared} {h' : Heap} {tk : Nat}
theorem Core.addr (C : Core Z Kp c hs s) : (ledOf Z c hs).map (·.1) = (mpLed Z c c.mx hs.mp).map (·.1) ++ c.ρ := by
 unfold ledOf
 rw [List.map_append, objLed_addr C.len]
theorem Core.atM (C : Core Z Kp c hs s) : Led.At (mpLed Z c c.mx hs.mp) s.heap := fun p hp => C.led p (List.mem_append_left _ hp)
theorem Core.atL (C : Core Z Kp c hs s) : Led.At (objLed Z c c.ρ hs.hp) s.heap := fun p hp => C.led p (List.mem_append_right _ hp)
theorem Core.freeR (C : Core Z Kp c hs s) {a : Addr} (ha : a ∈ c.ρ) : c.G a = none /\ Kp a = none := by
 have : a ∈ (ledOf Z c hs).map (·.1) := by rw [C.addr]; exact List.mem_append_right _ ha
 obtain ⟨p, hp, rfl⟩ := List.mem_map.mp this
 exact C.free p hp
theorem Core.keepTo (C : Core Z Kp c hs s) (k : ∀ b o, s.heap.get? b = some o -> h'.get? b = some o) : Core Z Kp c hs { s with heap := h', toks := tk } where
 base := C.base
 sub := fun b o e => k b o (C.sub b o e)
 kp := fun b o e => k b o (C.kp b o e)
 dis := C.dis
 len := C.len
 led := Led.at_append (mpLed_at (.refl c) (fun p _ o e => k p.1 o e) C.atM) (objLed_at (.refl c) (fun a _ o e => k a o e) C.atL)
 apart := C.apart
 free := C.free
 inst := C.inst
 gens := C.gens
 os := C.os
theorem Core.toks (C : Core Z Kp c hs s) : Core Z Kp c hs { s with toks := tk } := C.keepTo fun _ _ e => e
theorem free_map {l l' : Led} {P : Addr -> Prop} (h : l'.map (·.1) = l.map (·.1)) (f : ∀ p ∈ l, P p.1) : ∀ p ∈ l', P p.1 := fun p hp => by
 have hm : p.1 ∈ l'.map (·.1) := List.mem_map_of_mem hp
 rw [h] at hm
 obtain ⟨q, hq, e⟩ := List.mem_map.mp hm
 exact e ▸ f q hq
theorem Core.notIn (C : Core Z Kp c hs s) {a : Addr} (fr : s.heap.get? a = none) {p : Addr × (Obj -> Prop)} (hp : p ∈ ledOf Z c hs) : p.1 ≠ a := fun q =>
 let ⟨_, e', _⟩ := C.led p hp
 no2 (q ▸ fr) e'
theorem Core.addrG (C : Core Z Kp c hs s) (a : Addr) (o : Obj) : (ledOf Z (c.addG a o) hs).map (·.1) = (ledOf Z c hs).map (·.1) := by
 unfold ledOf
 rw [List.map_append, List.map_append]
 exact congr (congrArg _ (mpLed_addr rfl)) ((objLed_addr C.len).trans (objLed_addr C.len).symm)
theorem addL_led (C : Core Z Kp c hs s) (a : Addr) (x : D) : ledOf Z (c.addL a) ⟨hs.hp ++ [x], hs.mp⟩ = mpLed Z (c.addL a) c.mx hs.mp ++ (objLed Z (c.addL a) c.ρ hs.hp ++ [(a, isObj Z (c.addL a) x)]) :=
 congrArg (mpLed Z (c.addL a) c.mx hs.mp ++ ·) (objLed_snoc C.len)
theorem Core.addrL (C : Core Z Kp c hs s) (a : Addr) (x : D) : (ledOf Z (c.addL a) ⟨hs.hp ++ [x], hs.mp⟩).map (·.1) = (ledOf Z c hs).map (·.1) ++ [a] := by
 rw [addL_led C, C.addr, List.map_append, List.map_append, objLed_addr C.len, mpLed_addr (Z := Z) (c := c.addL a) (c' := c) (mp' := hs.mp) rfl, List.append_assoc]
 rfl
theorem Core.lenL (C : Core Z Kp c hs s) (a : Addr) (x : D) : (c.ρ ++ [a]).length = (hs.hp ++ [x]).length := by rw [List.length_append, List.length_append, C.len]; rfl
theorem Core.atL' (C : Core Z Kp c hs s) (a : Addr) (x : D) : (c.ρ ++ [a])[hs.hp.length]? = some a := by
 rw [<- C.len, List.getElem?_append_right (Nat.le_refl _), Nat.sub_self]; rfl
theorem Core.addrL1 (C : Core Z Kp c hs s) (a : Addr) (x : D) : (ledOf Z (c.addL a) ⟨hs.hp ++ [x], hs.mp⟩).map (·.1) = (ledOf Z c hs ++ [(a, fun _ => True)] : Led).map (·.1) := by
 rw [C.addrL, List.map_append]; rfl
theorem free_snoc {l : Led} {a : Addr} {P : Addr -> Prop} (f : ∀ p ∈ l, P p.1) (h : P a) : ∀ p ∈ l ++ [(a, fun _ => True)], P p.1 := fun p hp =>
 (List.mem_append.mp hp).elim (f p) fun hp => by rw [List.mem_singleton.mp hp]; exact h
theorem Led.at_one {h : Heap} {a : Addr} {x : D} {o : Obj} {c c' : Cn} (e : h.get? a = some o) (as : isObj Z c x o) (l : c.le c') : Led.At [(a, isObj Z c' x)] h := fun p hp =>
 (List.mem_singleton.mp hp) ▸ ⟨_, e, as.mono l⟩
theorem nodup_snoc {α : Type} {l : List α} {a : α} (h : l.Nodup) (n : a ∉ l) : (l ++ [a]).Nodup :=
 List.nodup_append.mpr ⟨h, List.nodup_cons.mpr ⟨(nomatch ·), List.Pairwise.nil⟩, fun b hb b' hb' q => n ((q.trans (List.mem_singleton.mp hb')) ▸ hb)⟩
theorem Core.newG (C : Core Z Kp c hs s) {a : Addr} {o : Obj} (k : ∀ b o, s.heap.get? b = some o -> h'.get? b = some o) (fr : s.heap.get? a = none) (e : h'.get? a = some o) :
  Core Z Kp (c.addG a o) hs { s with heap := h', toks := tk } /\ c.le (c.addG a o) := by
 have l : c.le (c.addG a o) := Cn.addG_le (none_of_fresh C.sub fr)
 have addr := C.addrG a o
 exact ⟨⟨fun b o' e' => l.g b o' (C.base b o' e'), fun b o' e' => upd_some e' (fun q r => q ▸ r ▸ e) fun _ e' => k b o' (C.sub b o' e'), fun b o' e' => k b o' (C.kp b o' e'), fun b o' e' => (upd_ne (ne_of fr (C.kp b o' e'))).trans (C.dis b o' e'), C.len,
  Led.at_append (mpLed_at l (fun p _ o e => k p.1 o e) C.atM) (objLed_at l (fun a _ o e => k a o e) C.atL), addr ▸ C.apart,
  free_map (P := fun b => (c.addG a o).G b = none /\ Kp b = none) addr fun p hp => ⟨(upd_ne (C.notIn fr hp)).trans (C.free p hp).1, (C.free p hp).2⟩, fun q d e' => (C.inst q d e').imp fun sl e'' => l.g _ _ e'', C.gens, C.os⟩, l⟩
theorem Core.newL (C : Core Z Kp c hs s) {a : Addr} {x : D} {o : Obj} (k : ∀ b o, s.heap.get? b = some o -> h'.get? b = some o) (fr : s.heap.get? a = none) (e : h'.get? a = some o) (as : isObj Z c x o) :
  Core Z Kp (c.addL a) ⟨hs.hp ++ [x], hs.mp⟩ { s with heap := h', toks := tk } /\ c.le (c.addL a) /\ RepV Z (c.addL a) (.loc hs.hp.length) (.ref a) := by
 have l := Cn.addL_le c a
 refine ⟨⟨C.base, fun b o' e' => k b o' (C.sub b o' e'), fun b o' e' => k b o' (C.kp b o' e'), C.dis, C.lenL a x, ?_, ?_, ?_, C.inst, C.gens, C.os⟩, l, a, C.atL' a x, rfl⟩
 ·rw [addL_led C]
  exact Led.at_append (mpLed_at l (fun p _ o e => k p.1 o e) C.atM) (Led.at_append (objLed_at l (fun a _ o e => k a o e) C.atL) (Led.at_one e as l))
 ·rw [C.addrL]
  refine nodup_snoc C.apart fun hb => ?_
  obtain ⟨p, hp, q2⟩ := List.mem_map.mp hb
  exact C.notIn fr hp q2
 ·exact free_map (P := fun b => c.G b = none /\ Kp b = none) (C.addrL1 a x) (free_snoc (P := fun b => c.G b = none /\ Kp b = none) C.free ⟨none_of_fresh C.sub fr, none_of_fresh C.kp fr⟩)
theorem Core.nodupR (C : Core Z Kp c hs s) : c.ρ.Nodup := by
 have := C.apart
 rw [C.addr] at this
 exact (List.nodup_append.mp this).2.1
theorem objLed_set {Z : Stat} {c : Cn} {x' : D} : ∀ {r : List Addr} {xs : List D} {n : Nat} {a : Addr}, r[n]? = some a -> r.Nodup -> ∀ p ∈ objLed Z c r (xs.set n x'), p = (a, isObj Z c x') \/ (p ∈ objLed Z c r xs /\ p.1 ≠ a)
 | b :: r, y :: xs, 0, a, h1, nd, p, hp => by
  cases h1
  rcases List.mem_cons.mp (show p ∈ (b, isObj Z c x') :: objLed Z c r xs from hp) with rfl | hp
  ·exact .inl rfl
  ·refine .inr ⟨.tail _ hp, fun q => ?_⟩
   obtain ⟨m, x, e1, _, _⟩ := objLed_mem hp
   rw [q] at e1
   exact (List.nodup_cons.mp nd).1 (List.mem_of_getElem? e1)
 | b :: r, y :: xs, n + 1, a, h1, nd, p, hp => by
  have h1' : r[n]? = some a := h1
  rcases List.mem_cons.mp (show p ∈ (b, isObj Z c y) :: objLed Z c r (xs.set n x') from hp) with rfl | hp
  ·refine .inr ⟨.head _, fun q => ?_⟩
   have q : b = a := q
   rw [<- q] at h1'
   exact (List.nodup_cons.mp nd).1 (List.mem_of_getElem? h1')
  ·rcases objLed_set h1' (List.nodup_cons.mp nd).2 p hp with h | ⟨h, h2⟩
   ·exact .inl h
   ·exact .inr ⟨.tail _ h, h2⟩
 | [], _, _, _, h1, _, _, _ => nomatch h1
 | _ :: _, [], _, _, _, _, _, hp => nomatch hp
theorem Core.setL (C : Core Z Kp c hs s) {n : Nat} {a : Addr} {x : D} {o : Obj} (hn : c.ρ[n]? = some a) (k : ∀ b o, b ≠ a -> s.heap.get? b = some o -> h'.get? b = some o) (e : h'.get? a = some o) (as : isObj Z c x o) :
  Core Z Kp c ⟨hs.hp.set n x, hs.mp⟩ { s with heap := h', toks := tk } := by
 have ha : a ∈ c.ρ := List.mem_of_getElem? hn
 have fr := C.freeR ha
 have len' : c.ρ.length = (hs.hp.set n x).length := by rw [List.length_set]; exact C.len
 have addr : (ledOf Z c ⟨hs.hp.set n x, hs.mp⟩).map (·.1) = (ledOf Z c hs).map (·.1) := by
  rw [C.addr]; unfold ledOf; rw [List.map_append, objLed_addr len']
 have nm : ∀ p ∈ mpLed Z c c.mx hs.mp, p.1 ≠ a := fun p hp q => by
  have := C.apart
  rw [C.addr] at this
  exact (List.nodup_append.mp this).2.2 p.1 (List.mem_map_of_mem hp) a ha q
 refine ⟨C.base, fun b o' e' => k b o' (ne_of fr.1 e') (C.sub b o' e'), fun b o' e' => k b o' (ne_of fr.2 e') (C.kp b o' e'), C.dis, len', ?_, ?_, ?_, C.inst, C.gens, C.os⟩
 ·refine Led.at_append (mpLed_at (.refl c) (fun p hp o e => k p.1 o (nm p hp) e) C.atM) fun p hp => ?_
  rcases objLed_set hn C.nodupR p hp with rfl | ⟨hp, hne⟩
  ·exact ⟨_, e, as⟩
  ·obtain ⟨o, e1, f⟩ := C.atL p hp
   exact ⟨o, k _ o hne e1, f⟩
 ·rw [addr]; exact C.apart
 ·exact free_map (P := fun b => c.G b = none /\ Kp b = none) addr C.free
theorem Core.setM (C : Core Z Kp c hs s) {q d : Addr} {f f' : Loc} {o : Obj} (hm : c.mx = some (q, d)) (hf : hs.mp = some f) (k : ∀ b o, b ≠ d -> s.heap.get? b = some o -> h'.get? b = some o) (e : h'.get? d = some o) (as : isFld Z c f' o) :
  Core Z Kp c ⟨hs.hp, some f'⟩ { s with heap := h', toks := tk } := by
 have eM : mpLed Z c c.mx hs.mp = tabLed Z.wrap c ++ [(d, isFld Z c f)] := by rw [hm, hf]; rfl
 have eM' : mpLed Z c c.mx (some f') = tabLed Z.wrap c ++ [(d, isFld Z c f')] := by rw [hm]; rfl
 have hmem : (d, isFld Z c f) ∈ mpLed Z c c.mx hs.mp := by rw [eM]; exact List.mem_append_right _ (.head _)
 have fr : c.G d = none /\ Kp d = none := C.free (d, isFld Z c f) (List.mem_append_left _ hmem)
 have addr : (ledOf Z c ⟨hs.hp, some f'⟩).map (·.1) = (ledOf Z c hs).map (·.1) := by
  unfold ledOf
  rw [List.map_append, List.map_append, eM, eM', List.map_append, List.map_append]
  rfl
 have ap := C.apart
 rw [C.addr] at ap
 obtain ⟨ap1, _, ap2⟩ := List.nodup_append.mp ap
 have nr : ∀ a ∈ c.ρ, a ≠ d := fun a ha q => ap2 d (List.mem_map_of_mem hmem) a ha q.symm
 rw [eM, List.map_append] at ap1
 have nt : ∀ p ∈ tabLed Z.wrap c, p.1 ≠ d := fun p hp => (List.nodup_append.mp ap1).2.2 p.1 (List.mem_map_of_mem hp) d (.head _)
 refine ⟨C.base, fun b o' e' => k b o' (ne_of fr.1 e') (C.sub b o' e'), fun b o' e' => k b o' (ne_of fr.2 e') (C.kp b o' e'), C.dis, C.len, ?_, ?_, ?_, C.inst, C.gens, C.os⟩
 ·refine Led.at_append ?_ (objLed_at (.refl c) (fun a ha o e => k a o (nr a ha) e) C.atL)
  rw [eM']
  have aM := C.atM
  rw [eM] at aM
  refine Led.at_append (tabLed_at (Cn.le.refl c).toG (fun p hp o e => k p.1 o (nt p hp) e) (Led.at_l aM)) fun p hp => ?_
  rw [List.mem_singleton.mp hp]
  exact ⟨o, e, as⟩
 ·rw [addr]; exact C.apart
 ·exact free_map (P := fun b => c.G b = none /\ Kp b = none) addr C.free
theorem Core.setT (C : Core Z Kp c hs s) {w : WrapI} (hw : Z.wrap = some w) {a : Addr} {oc o : Obj} (fr : s.heap.get? a = none) (ea : h'.get? a = some oc) (k : ∀ b o, b ≠ w.tb -> s.heap.get? b = some o -> h'.get? b = some o) (e : h'.get? w.tb = some o) (as : isTab w (c.addG a oc) o) :
  Core Z Kp (c.addG a oc) hs { s with heap := h', toks := tk } /\ c.le (c.addG a oc) := by
 have l : c.le (c.addG a oc) := Cn.addG_le (none_of_fresh C.sub fr)
 have eT : tabLed Z.wrap c = [(w.tb, isTab w c)] := by rw [hw]; rfl
 have hmem : (w.tb, isTab w c) ∈ ledOf Z c hs := List.mem_append_left _ (List.mem_append_left _ (by rw [eT]; exact .head _))
 have ft := C.free _ hmem
 have nl : ∀ p ∈ mpLed0 Z c c.mx hs.mp, p.1 ≠ w.tb := fun p hp q => by
  have ap := C.apart
  rw [C.addr] at ap
  have ap1 := (List.nodup_append.mp ap).1
  unfold mpLed at ap1
  rw [eT, List.map_append] at ap1
  exact (List.nodup_append.mp ap1).2.2 w.tb (.head _) p.1 (List.mem_map_of_mem hp) q.symm
 have nr : ∀ x ∈ c.ρ, x ≠ w.tb := fun x hx q => by
  have ap := C.apart
  rw [C.addr] at ap
  have hM : (w.tb, isTab w c) ∈ mpLed Z c c.mx hs.mp := List.mem_append_left _ (by rw [eT]; exact .head _)
  exact (List.nodup_append.mp ap).2.2 w.tb (List.mem_map_of_mem hM) x hx q.symm
 have addr := C.addrG a oc
 refine ⟨⟨fun b o' e' => l.g b o' (C.base b o' e'), fun b o' e' => upd_some e' (fun q r => q ▸ r ▸ ea) fun _ e' => k b o' (ne_of ft.1 e') (C.sub b o' e'), fun b o' e' => k b o' (ne_of ft.2 e') (C.kp b o' e'), fun b o' e' => (upd_ne (ne_of fr (C.kp b o' e'))).trans (C.dis b o' e'), C.len,
  Led.at_append (Led.at_append ?_ (mpLed0_at l (fun p hp o e => k p.1 o (nl p hp) e) (Led.at_r C.atM))) (objLed_at l (fun x hx o e => k x o (nr x hx) e) C.atL), addr ▸ C.apart,
  free_map (P := fun b => (c.addG a oc).G b = none /\ Kp b = none) addr fun p hp => ⟨(upd_ne (C.notIn fr hp)).trans (C.free p hp).1, (C.free p hp).2⟩, fun q d e' => (C.inst q d e').imp fun sl e'' => l.g _ _ e'', C.gens, C.os⟩, l⟩
 rw [hw]
 intro p hp
 rw [List.mem_singleton.mp hp]
 exact ⟨o, e, as⟩
theorem Core.tabAt (C : Core Z Kp c hs s) {w : WrapI} (hw : Z.wrap = some w) : ∃ o, s.heap.get? w.tb = some o /\ isTab w c o := by
 have eT : tabLed Z.wrap c = [(w.tb, isTab w c)] := by rw [hw]; rfl
 exact C.led (w.tb, isTab w c) (List.mem_append_left _ (List.mem_append_left _ (by rw [eT]; exact .head _)))
theorem Core.forget (C : Core Z Kp c hs s) {Kq : Addr -> Option Obj} (h : ∀ b o, Kq b = some o -> Kp b = some o) : Core Z Kq c hs s :=
 ⟨C.base, C.sub, fun b o e => C.kp b o (h b o e), fun b o e => C.dis b o (h b o e), C.len, C.led, C.apart, fun p hp => ⟨(C.free p hp).1, by
  cases q : Kq p.1 with
  | none => rfl
  | some o => rw [<- (C.free p hp).2, h _ _ q]⟩, C.inst, C.gens, C.os⟩
theorem Core.newK (C : Core Z Kp c hs s) {a : Addr} {o : Obj} (k : ∀ b o, s.heap.get? b = some o -> h'.get? b = some o) (fr : s.heap.get? a = none) (e : h'.get? a = some o) :
  Core Z (updK Kp a o) c hs { s with heap := h', toks := tk } := by
 have C' := C.keepTo (tk := tk) k
 exact ⟨C'.base, C'.sub, fun b o' e' => upd_some e' (fun q r => q ▸ r ▸ e) fun _ e' => C'.kp b o' e', fun b o' e' => upd_some e' (fun q _ => q ▸ none_of_fresh C.sub fr) fun _ e' => C.dis b o' e', C'.len, C'.led, C'.apart,
  fun p hp => ⟨(C.free p hp).1, (upd_ne (C.notIn fr hp)).trans (C.free p hp).2⟩, C'.inst, C'.gens, C'.os⟩
theorem Core.setK (C : Core Z Kp c hs s) {a : Addr} {o o₀ : Obj} (ha : Kp a = some o₀) (k : ∀ b o, b ≠ a -> s.heap.get? b = some o -> h'.get? b = some o) (e : h'.get? a = some o) :
  Core Z (updK Kp a o) c hs { s with heap := h', toks := tk } := by
 have ga := C.dis a o₀ ha
 have nl : ∀ p ∈ ledOf Z c hs, p.1 ≠ a := fun p hp => Ne.symm (ne_of (C.free p hp).2 ha)
 exact ⟨C.base, fun b o' e' => k b o' (ne_of ga e') (C.sub b o' e'), fun b o' e' => upd_some e' (fun q r => q ▸ r ▸ e) fun q e' => k b o' q (C.kp b o' e'), fun b o' e' => upd_some e' (fun q _ => q ▸ ga) fun _ e' => C.dis b o' e', C.len,
  fun p hp => let ⟨o', e', f⟩ := C.led p hp; ⟨o', k _ _ (nl p hp) e', f⟩, C.apart, fun p hp => ⟨(C.free p hp).1, (upd_ne (nl p hp)).trans (C.free p hp).2⟩, C.inst, C.gens, C.os⟩
inductive LocAt (Z : Stat) (c : Cn) (hs : Hs) (h : Heap) (n : Nat) (a : Addr) : Prop
 | mk (lt : n < hs.hp.length) (o : Obj) (e : h.get? a = some o) (as : isObj Z c (hs.hp.getD n .none) o) : LocAt Z c hs h n a
theorem Core.locO (C : Core Z Kp c hs s) {n : Nat} {a : Addr} (hn : c.ρ[n]? = some a) : LocAt Z c hs s.heap n a := by
 have hlt : n < hs.hp.length := by rw [<- C.len]; exact (List.getElem?_eq_some_iff.mp hn).1
 have e2 : hs.hp[n]? = some (hs.hp.getD n .none) := by rw [List.getD_eq_getElem?_getD, List.getElem?_eq_getElem hlt]; rfl
 obtain ⟨o, e, r⟩ := C.atL _ (objLed_of (Z := Z) (c := c) hn e2)
 exact ⟨hlt, o, e, r⟩
inductive LstAt (Z : Stat) (c : Cn) (hs : Hs) (h : Heap) (n : Nat) (a : Addr) : Prop
 | mk (lt : n < hs.hp.length) (vs : List Value) (ep : Nat) (e : h.get? a = some (listO vs ep)) (as : ListAs Z c (hs.hp.getD n .none) vs) : LstAt Z c hs h n a
theorem Core.locAt (C : Core Z Kp c hs s) {n : Nat} {a : Addr} (hn : c.ρ[n]? = some a) (hx : (hs.hp.getD n .none).isDct = false) : LstAt Z c hs s.heap n a := by
 obtain ⟨hlt, o, e, r⟩ := C.locO hn
 obtain ⟨vs, ep, rfl, as⟩ := r.lst hx
 exact ⟨hlt, vs, ep, e, as⟩
end
noncomputable def Post (Z : Stat) (Kp : Addr -> Option Obj) (c : Cn) (K : KE) (Q : Value -> Shared -> Prop) : Prop :=
 ∀ (c' : Cn) (V : V) (v : Value) (hs' : Hs) (s' : Shared), c.le c' -> Core Z Kp c' hs' s' -> RepV Z c' V v -> K V hs' -> Q v s'
noncomputable def PostU (Z : Stat) (Kp : Addr -> Option Obj) (c : Cn) (K : Hs -> Prop) (Q : Unit -> Shared -> Prop) : Prop :=
 ∀ (c' : Cn) (hs' : Hs) (s' : Shared), c.le c' -> Core Z Kp c' hs' s' -> K hs' -> Q () s'
noncomputable def D.isL : D -> Bool
 | .ints _ | .list _ => true
 | _ => false
noncomputable def D.isPl : D -> Bool
 | .ints _ | .list _ | .dict _ _ => true
 | _ => false
theorem D.isL_dct {x : D} (h : x.isL = true) : x.isDct = false := by cases x <;> first | rfl | exact ff h
section
variable {Z : Stat} {Kp : Addr -> Option Obj} {c : Cn} {hs : Hs} {s : Shared} {K : KE} {Q : Value -> Shared -> Prop} {A : Around} {E : Value -> Shared -> Prop} {tk : Nat}
theorem Post.now (P : Post Z Kp c K Q) {V : V} {v : Value} (C : Core Z Kp c hs s) (R : RepV Z c V v) (k : K V hs) : Q v s := P c V v hs s (.refl c) C R k
theorem Post.int (P : Post Z Kp c K Q) {i : Int} {t : Tok} (C : Core Z Kp c hs s) (k : K (.d (.int i)) hs) : Q (.int i t) { s with toks := tk } := P.now (V := .d (.int i)) C.toks ⟨_, rfl⟩ k
theorem Post.bool (P : Post Z Kp c K Q) {b : Bool} (C : Core Z Kp c hs s) (k : K (.d (.bool b)) hs) : Q (.bool b) s := P.now (V := .d (.bool b)) C rfl k
theorem Post.none (P : Post Z Kp c K Q) (C : Core Z Kp c hs s) (k : K (.d .none) hs) : Q .none s := P.now (V := .d .none) C rfl k
theorem Post.up (P : Post Z Kp c K Q) {c' : Cn} (l : c.le c') : Post Z Kp c' K Q := fun d V v hs' s' l' => P d V v hs' s' (l.trans l')
inductive SeqAt (h : Heap) (R : List Value -> Prop) (v : Value) : Prop
 | mk (a : Addr) (vs : List Value) (n : Nat) (e : v = .ref a) (g : h.get? a = some (listO vs n)) (r : R vs) : SeqAt h R v
theorem seq_at (C : Core Z Kp c hs s) {R : List Value -> Prop} {v : Value} (h : RSeq c.G listO R v) : SeqAt s.heap R v :=
 let ⟨a, vs, n, e, g, r⟩ := h; ⟨a, vs, n, e, C.sub _ _ g, r⟩
theorem ListAs.isL {x : D} {vs : List Value} (h : ListAs Z c x vs) : x.isL = true := by
 cases x with
 | list _ => rfl
 | «ints» _ => rfl
 | _ => exact False.elim h
theorem view_list (C : Core Z Kp c hs s) {V : V} {v : Value} {x : D} (R : RepV Z c V v) (e : deref hs V = x) (hx : x.isL = true) :
  SeqAt s.heap (fun vs => ListAs Z c x vs) v := by
 cases e
 cases V with
 | d y => cases y with
  | list _ => exact seq_at C R
  | «ints» _ => exact seq_at C R
  | _ => exact ff hx
 | loc n =>
  obtain ⟨a, e1, rfl⟩ := R
  obtain ⟨_, vs, ep, e2, as⟩ := C.locAt e1 (D.isL_dct hx)
  exact ⟨a, vs, ep, rfl, e2, as⟩
theorem view_d (C : Core Z Kp c hs s) {V : V} {v : Value} {x : D} (R : RepV Z c V v) (e : deref hs V = x) (hx : x.isPl = false) : RepD Z c x v := by
 cases e
 cases V with
 | d y => exact R
 | loc n =>
  obtain ⟨a, e1, _⟩ := R
  obtain ⟨_, o, e2, as⟩ := C.locO e1
  revert as hx
  show D.isPl (hs.hp.getD n .none) = false -> _
  generalize hs.hp.getD n .none = y
  intro hx as
  cases as with
  | mk vs ep e as => cases y <;> first | exact as.elim | exact ff hx.symm
  | dct k i t e d => cases e; exact ff hx.symm
theorem listO_eq (arr : Array Value) (n : Nat) : listO arr.toList n = { cls := .type "list", data := .seq arr n } := by simp [listO]
theorem ListAs.length {x : D} {vs : List Value} (h : ListAs Z c x vs) : lenD x = some vs.length := by
 cases x with
 | list _ => exact congrArg some (RepDs.length h)
 | «ints» _ => exact congrArg some (IntsAre.length' h)
 | _ => exact False.elim h
theorem alloc_ok (P : Post Z Kp c K Q) (C : Core Z Kp c hs s) {m : Bool} {x : D} {arr : Array Value} {n : Nat} (h : alloc m x hs K) (as : ListAs Z c x arr.toList) :
  Q (.ref s.heap.objs.size) { s with heap := s.heap.push { cls := .type "list", data := .seq arr n }, toks := tk } := by
 have e : (s.heap.push { cls := .type "list", data := .seq arr n }).get? s.heap.objs.size = some (listO arr.toList n) := by rw [listO_eq]; exact Heap.get?_push_size _ rfl
 have k : ∀ b o, s.heap.get? b = some o -> (s.heap.push { cls := .type "list", data := .seq arr n }).get? b = some o := fun b o e => Heap.get?_push_of_some _ e
 cases m with
 | true =>
  obtain ⟨C', l, R⟩ := C.newL (tk := tk) k (fresh_size _) e (.mk _ _ rfl as)
  exact P _ _ _ _ _ l C' R h
 | false =>
  obtain ⟨C', l⟩ := C.newG (tk := tk) k (fresh_size _) e
  exact P _ (.d x) _ _ _ l C' ((as.mono l).rep (Cn.addG_get _ _ _)) h
theorem alloc_at (P : Post Z Kp c K Q) (C : Core Z Kp c hs s) {m : Bool} {x : D} {a : Addr} {vs : List Value} {n : Nat} {h' : Heap} (k : ∀ b o, s.heap.get? b = some o -> h'.get? b = some o) (fr : s.heap.get? a = none) (e : h'.get? a = some (listO vs n)) (h : alloc m x hs K) (as : ListAs Z c x vs) :
  Q (.ref a) { s with heap := h', toks := tk } := by
 cases m with
 | true =>
  obtain ⟨C', l, R⟩ := C.newL (tk := tk) k fr e (.mk _ _ rfl as)
  exact P _ _ _ _ _ l C' R h
 | false =>
  obtain ⟨C', l⟩ := C.newG (tk := tk) k fr e
  exact P _ (.d x) _ _ _ l C' ((as.mono l).rep (Cn.addG_get _ _ _)) h
theorem intBits_le {a : Int} (h : a.natAbs < 2 ^ 62) : Builtin.Int.intBits a <= 62 := by
 unfold Builtin.Int.intBits
 split
 ·lia
 ·rename_i h0
  have h1 : a.natAbs ≠ 0 := fun e => h0 (by rw [Int.natAbs_eq_zero.mp e]; rfl)
  have := (Nat.log2_lt h1).mpr h
  lia
theorem mulOk {a b : Int} (h : a.natAbs < 2 ^ 62 \/ b.natAbs < 2 ^ 62) : IntMulOk a b :=
 h.elim (fun h => .of_left (Nat.le_trans (intBits_le h) (by decide))) fun h => .of_right (Nat.le_trans (intBits_le h) (by decide))
theorem powOk {a n : Int} (h1 : 0 <= n) (h2 : n <= 1000) (h3 : a.natAbs < 2 ^ 62) : (Builtin.Int.intBits a : Int) * n <= 2 ^ 27 := by
 have h4 := intBits_le h3
 have : (Builtin.Int.intBits a : Int) * n <= 62 * 1000 := Int.mul_le_mul (by lia) h2 h1 (by decide)
 exact Int.le_trans this (by decide)
theorem binInt_ok (P : Post Z Kp c K Q) (C : Core Z Kp c hs s) {op : Operator} {i j : Int} {t u : Tok} (h : binInt op i j hs K) : wpAny (model Z.P Z.w) A (binaryOp op (.int i t) (.int j u)) Q E s := by
 cases op with
 | Add => exact PyProof.Rows.add_int (P.int C h)
 | Sub => exact PyProof.Rows.sub_int (P.int C h)
 | Mult => exact PyProof.Rows.mul_int (P.int C h.2) (mulOk h.1)
 | Mod => exact PyProof.Rows.mod_int' h.1 (P.int C h.2)
 | FloorDiv => exact PyProof.Rows.floordiv_int h.1.1 (P.int C h.2) (.inl (PyProof.noPylong_small h.1.2))
 | LShift =>
  obtain ⟨⟨h1, h2, h3⟩, h⟩ := h
  exact PyProof.Rows.lshift_int_small h1 (by lia) (by lia) (P.int C h)
 | RShift => exact PyProof.Rows.rshift_int h.1 (P.int C h.2)
 | Pow =>
  obtain ⟨⟨h1, h2, h3⟩, h⟩ := h
  exact PyProof.Rows.pow_int h1 (powOk h1 h2 h3) (P.int C h)
 | BitAnd => exact PyProof.Rows.and_int (P.int C h)
 | BitOr => exact PyProof.Rows.or_int (P.int C h)
 | BitXor => exact PyProof.Rows.xor_int (P.int C h)
 | _ => exact False.elim h
theorem binInt_ok' (P : Post Z Kp c K Q) (C : Core Z Kp c hs s) {op : Operator} {i j : Int} {t u : Tok} (h : binInt op i j hs K) : wpAny (model Z.P Z.w) A (inplaceOp op (.int i t) (.int j u)) Q E s := by
 cases op with
 | Add => exact PyProof.Rows.iadd_int (P.int C h)
 | Sub => exact PySem.P.isub_int (P.int C h)
 | Mult => exact PyProof.Rows.imul_int (P.int C h.2) (mulOk h.1)
 | Mod => exact PyProof.Rows.imod_int h.1 (P.int C h.2)
 | FloorDiv => exact PyProof.Rows.ifloordiv_int h.1.1 (P.int C h.2) (.inl (PyProof.noPylong_small h.1.2))
 | LShift =>
  obtain ⟨⟨h1, h2, h3⟩, h⟩ := h
  exact PyProof.Rows.ilshift_int_small h1 (by lia) (by lia) (P.int C h)
 | RShift => exact PyProof.Rows.irshift_int h.1 (P.int C h.2)
 | Pow =>
  obtain ⟨⟨h1, h2, h3⟩, h⟩ := h
  exact PyProof.Rows.ipow_int h1 (powOk h1 h2 h3) (P.int C h)
 | BitAnd => exact PyProof.Rows.iand_int (P.int C h)
 | BitOr => exact PyProof.Rows.ior_int (P.int C h)
 | BitXor => exact PyProof.Rows.ixor_int (P.int C h)
 | _ => exact False.elim h
theorem RepDs.append : ∀ {xs ys : List D} {vs ws : List Value}, RepDs Z c xs vs -> RepDs Z c ys ws -> RepDs Z c (xs ++ ys) (vs ++ ws)
 | [], ys, vs, ws, h, h' => by obtain rfl : vs = [] := h; exact h'
 | x :: xs, ys, vs, ws, h, h' => by
  obtain ⟨v, r, rfl, h1, h2⟩ := h
  exact ⟨v, r ++ ws, rfl, h1, RepDs.append h2 h'⟩
theorem ListAs.elts {x : D} {ds : List D} {vs : List Value} (e : x.elts? = some ds) (h : ListAs Z c x vs) : RepDs Z c ds vs := by
 cases x with
 | list _ => exact some_eq e ▸ h
 | «ints» _ => exact some_eq e ▸ ints_iff.mp h
 | _ => exact none_some e
theorem elts_isL {x : D} {ds : List D} (e : x.elts? = some ds) : x.isL = true := by
 cases x with
 | list _ => rfl
 | «ints» _ => rfl
 | _ => exact none_some e
theorem catD_as {x y z : D} {vs ws : List Value} (e : catD x y = some z) (h : ListAs Z c x vs) (h' : ListAs Z c y ws) : ListAs Z c z (vs ++ ws) := by
 rcases orB_iff e with ⟨p, hp, e⟩ | e
 ·obtain ⟨h1, h2⟩ := both_iff hp
  rw [D.ints_eq h1] at h
  rw [D.ints_eq h2] at h'
  rw [<- some_eq e]
  refine reps_ints (Z := Z) (c := c) ?_
  rw [List.map_append]
  exact RepDs.append (ints_iff.mp h) (ints_iff.mp h')
 ·obtain ⟨p, hp, e⟩ := optB_iff e
  obtain ⟨h1, h2⟩ := both_iff hp
  exact some_eq e ▸ RepDs.append (h.elts h1) (h'.elts h2)
theorem catD_isL {x y z : D} (e : catD x y = some z) : x.isL = true /\ y.isL = true := by
 rcases orB_iff e with ⟨p, hp, e⟩ | e
 ·obtain ⟨h1, h2⟩ := both_iff hp
  exact ⟨D.ints_eq h1 ▸ rfl, D.ints_eq h2 ▸ rfl⟩
 ·obtain ⟨p, hp, e⟩ := optB_iff e
  exact ⟨elts_isL (both_iff hp).1, elts_isL (both_iff hp).2⟩
theorem rep_as (Z : Stat) (c : Cn) {xs : List Int} {vs : List Value} (h : IntsAre vs xs) (k : Nat) : IntsAre (List.replicate k vs).flatten (List.replicate k xs).flatten := by
 refine reps_ints (Z := Z) (c := c) ?_
 induction k with
 | zero => rfl
 | succ k ih =>
  rw [List.replicate_succ, List.replicate_succ, List.flatten_cons, List.flatten_cons, List.map_append]
  exact RepDs.append (ints_iff.mp h) ih
theorem mulL_ok (P : Post Z Kp c K Q) (C : Core Z Kp c hs s) {m : Bool} {xs : List Int} {n : Int} {u : Tok} {va : Value} (R : SeqAt s.heap (fun vs => ListAs Z c (.ints xs) vs) va) (h1 : 0 <= n) (h2 : n <= lim) (h3 : xs.length * n.toNat <= lim) (h : alloc m (.ints (rep n xs)) hs K) :
  wpAny (model Z.P Z.w) A (binaryOp .Mult va (.int n u)) Q E s := by
 obtain ⟨a, vs, k, rfl, hl, as⟩ := R
 have len : xs.length = vs.length := IntsAre.length' as
 have hl' : s.heap.get? a = some { cls := .type "list", dict := none, data := .seq vs.toArray k, slots := #[] } := hl
 unfold lim at h2 h3
 rw [len] at h3
 have h4 : vs.toArray.size * n.toNat <= 2 ^ 20 := h3
 refine wpAny_binaryOp_repeat_ref (T := "list") (U := "int") (by decide) ⟨_, hl', rfl⟩ (fun s' => typeIs_int s' n u) noFill_list_mul F.fills_int_mul F.slot_int_rmul repeat_list F.slot_int_index.lookup
  (call_meets F.slot_int_rmul (typeIs_int s n u) F.entry_int_rmul (F.args_int_rmul_2 _ _) (int___rmul___int_list n u a vs.toArray k)
   ⟨hl', rfl, ⟨_, hl', rfl⟩, call_meets F.slot_list_mul ⟨_, hl', rfl⟩ F.entry_list_mul (F.args_list_mul_2 _ _)
    (AutoListH.list___mul___list_int_3 a vs.toArray k n u (by simp [Builtin.List.listFitsIndex]; lia) (by lia) (by simp [Builtin.List.listTooLong, sizeLine]; simp at h4; lia))
    ⟨hl', ?_⟩⟩)
 refine alloc_ok (n := 0) P C h ?_
 rw [PyProof.Rows.listMul_foldl]
 have e0 : (List.replicate (if vs.toArray.isEmpty = true then 0 else n.toNat) xs).flatten = rep n xs := by
  cases vs with
  | nil =>
   obtain rfl := List.eq_nil_of_length_eq_zero len
   unfold rep
   generalize n.toNat = k
   induction k with
   | zero => rfl
   | succ k ih => exact ih
  | cons v r => rfl
 rw [<- e0]
 exact rep_as Z c as _
theorem addL_ok (P : Post Z Kp c K Q) (C : Core Z Kp c hs s) {m : Bool} {x y z : D} {n : Nat} {va vb : Value} (ez : catD x y = some z) (en : lenD z = some n) (Ra : SeqAt s.heap (fun vs => ListAs Z c x vs) va) (Rb : SeqAt s.heap (fun vs => ListAs Z c y vs) vb) (h1 : n <= lim) (h : alloc m z hs K) :
  wpAny (model Z.P Z.w) A (binaryOp .Add va vb) Q E s := by
 obtain ⟨a1, vs, k, rfl, hl, as⟩ := Ra
 obtain ⟨a2, ws, k2, rfl, hl2, as2⟩ := Rb
 have as3 := catD_as ez as as2
 have e3 : n = (vs ++ ws).length := some_eq (en.symm.trans as3.length)
 rw [e3, List.length_append] at h1
 refine PySem.P.add_list (n := k) (n2 := k2) hl hl2 ?_ (Nat.le_trans h1 (by decide : lim <= sizeLine))
 refine alloc_ok (n := 0) (tk := s.toks) P C h ?_
 rw [List.append_toArray]
 exact as3
theorem binOpV_ok (P : Post Z Kp c K Q) (C : Core Z Kp c hs s) {op : Operator} {m : Bool} {a b : V} {va vb : Value} (Ra : RepV Z c a va) (Rb : RepV Z c b vb) (h : binOpV op m a b hs K) :
  wpAny (model Z.P Z.w) A (binaryOp op va vb) Q E s := by
 rcases orP_iff h with ⟨p, hp, h⟩ | h
 ·obtain ⟨h1, h2⟩ := both_iff hp
  obtain ⟨t, rfl⟩ := view_d C Ra (D.int_eq h1) rfl
  obtain ⟨u, rfl⟩ := view_d C Rb (D.int_eq h2) rfl
  exact binInt_ok P C h
 rcases orP_iff h with ⟨p, hp, h⟩ | h
 ·obtain ⟨h1, h2⟩ := both_iff hp
  obtain ⟨u, rfl⟩ := view_d C Rb (D.int_eq h2) rfl
  obtain ⟨e, h⟩ := need_iff h
  cases mul_of e
  exact mulL_ok P C (view_list C Ra (D.ints_eq h1) rfl) h.1.1 h.1.2.1 h.1.2.2 h.2
 ·obtain ⟨e, h⟩ := need_iff h
  cases add_of e
  obtain ⟨z, ez, h⟩ := optP_iff h
  obtain ⟨n, en, h⟩ := optP_iff h
  exact addL_ok P C ez en (view_list C Ra rfl (catD_isL ez).1) (view_list C Rb rfl (catD_isL ez).2) h.1 h.2
end
section
variable {Z : Stat} {Kp : Addr -> Option Obj} {c : Cn} {hs : Hs} {s : Shared} {K : KE} {Q : Value -> Shared -> Prop} {A : Around} {E : Value -> Shared -> Prop} {tk : Nat}
theorem isEmpty_eq {α β : Type} {xs : List α} {vs : List β} (h : xs.length = vs.length) : (!vs.isEmpty) = !xs.isEmpty := by
 cases xs <;> cases vs <;> first | rfl | exact nomatch h
theorem truthL_ok {Qb : Bool -> Shared -> Prop} {n : Nat} {b b' : Bool} (P : ∀ tk, Qb b' { s with toks := tk }) {R : List Value -> Prop} {va : Value} (V : SeqAt s.heap R va) (hl : ∀ {vs}, R vs -> n = vs.length /\ (!vs.isEmpty) = b) (h : noB (!decide (n < 2 ^ 62)) (some b) = some b') :
  wpAny (model Z.P Z.w) A (truthy va) Qb E s := by
 obtain ⟨a', vs, m, rfl, g, as⟩ := V
 obtain ⟨len, e⟩ := hl as
 obtain ⟨h1, h⟩ := noB_iff h
 have h1 := of_decide_eq_true (not_t' h1)
 rw [len] at h1
 refine wpAny_truthy_list (items := vs.toArray) ⟨_, g, rfl, m, rfl⟩ (by show (vs.length : Int) < 2 ^ 63; lia) ?_
 rw [show (!vs.toArray.isEmpty) = b' by rw [<- some_eq h, <- e, List.isEmpty_toArray]]
 exact P _
theorem truthV_ok {Qb : Bool -> Shared -> Prop} {k : Bool -> Prop} (P : ∀ b tk, k b -> Qb b { s with toks := tk }) (C : Core Z Kp c hs s) {a : V} {va : Value} (Ra : RepV Z c a va) (h : truthV a hs k) :
  wpAny (model Z.P Z.w) A (truthy va) Qb E s := by
 obtain ⟨b, h, hk⟩ := optP_iff h
 have q := fun tk => P b tk hk
 have d := fun x => view_d C Ra (x := x)
 have l := fun x => view_list C Ra (x := x)
 revert h d l
 generalize deref hs a = x
 intro h d l
 cases x with
 | none => cases d _ rfl rfl; cases some_eq h; exact PyProof.Rows.truthy_none (q s.toks)
 | bool b => cases d _ rfl rfl; cases some_eq h; exact wpAny_truthy_bool (q s.toks)
 | int i => obtain ⟨t, rfl⟩ := d _ rfl rfl; cases some_eq h; exact PyProof.Rows.truthy_int (q s.toks)
 | list xs => exact truthL_ok q (l _ rfl rfl) (fun as => have e := RepDs.length as; ⟨e, isEmpty_eq e⟩) h
 | «ints» xs => exact truthL_ok q (l _ rfl rfl) (fun as => have e := IntsAre.length' as; ⟨e, isEmpty_eq e⟩) h
 | _ => exact none_some h
theorem unOpV_ok (P : Post Z Kp c K Q) (C : Core Z Kp c hs s) {op : UnaryOp} {a : V} {va : Value} (Ra : RepV Z c a va) (h : unOpV op a hs K) :
  wpAny (model Z.P Z.w) A (unaryOp op va) Q E s := by
 cases op with
 | Not => exact PyProof.Rows.not_of (truthV_ok (k := fun b => K (.d (.bool (!b))) hs) (fun b tk k => P.now (V := .d (.bool _)) C.toks rfl k) C Ra h)
 | USub =>
  obtain ⟨i, e, h⟩ := optP_iff h
  rw [V.int_eq e] at Ra
  obtain ⟨t, rfl⟩ := Ra
  exact PyProof.Rows.neg_int (P.int C h)
 | Invert =>
  obtain ⟨i, e, h⟩ := optP_iff h
  rw [V.int_eq e] at Ra
  obtain ⟨t, rfl⟩ := Ra
  exact PyProof.Rows.invert_int (P.int C h)
 | UAdd => exact False.elim h
theorem ia_get {vs : List Value} {xs : List Int} (h : IA vs xs) : ∀ j, j < xs.length -> ∃ t, vs[j]? = some (.int (xs.getD j 0) t) := by
 induction h with
 | nil => exact fun j hj => absurd hj (Nat.not_lt_zero j)
 | @cons i t vs xs _ ih => exact fun j hj => match j with
  | 0 => ⟨t, rfl⟩
  | j + 1 => ih j (Nat.lt_of_succ_lt_succ hj)
theorem ints_get {vs : List Value} {xs : List Int} (h : IntsAre vs xs) : ∀ j, j < xs.length -> ∃ t, vs[j]? = some (.int (xs.getD j 0) t) := ia_get (ia_of h)
theorem eq_all (xs : List Int) : ∀ ys : List Int, xs.length = ys.length -> (List.range xs.length).all (fun j => xs.getD j 0 == ys.getD j 0) = decide (xs = ys) := by
 intro ys hl
 rw [Bool.eq_iff_iff]
 simp only [List.all_eq_true, List.mem_range, beq_iff_eq, decide_eq_true_eq]
 constructor
 ·intro h
  apply List.ext_getElem hl
  intro i h1 h2
  have := h i h1
  simpa [h1, h2] using this
 ·rintro rfl; simp
theorem ints_eqAt {vs ws : List Value} {xs ys : List Int} (h : IntsAre vs xs) (h' : IntsAre ws ys) (j : Nat) (h1 : j < vs.toArray.size) (h2 : j < ws.toArray.size) : SeqAt.EqAt A s vs.toArray[j] ws.toArray[j] (xs.getD j 0 == ys.getD j 0) := by
 obtain ⟨t, e⟩ := ints_get h j (by rw [IntsAre.length' h]; simpa using h1)
 obtain ⟨u, e'⟩ := ints_get h' j (by rw [IntsAre.length' h']; simpa using h2)
 have e1 : vs.toArray[j] = .int (xs.getD j 0) t := by
  have : vs[j]? = some vs.toArray[j] := by simp at h1; simp [h1]
  rw [this] at e; exact Option.some.inj e
 have e2 : ws.toArray[j] = .int (ys.getD j 0) u := by
  have : ws[j]? = some ws.toArray[j] := by simp at h2; simp [h2]
  rw [this] at e'; exact Option.some.inj e'
 rw [e1, e2]
 exact SeqAt.EqAt.int_int _ _ _ _
theorem toInts_as {ds : List D} {is : List Int} {vs : List Value} (e : toInts ds = some is) (h : RepDs Z c ds vs) : IntsAre vs is := by
 rw [toInts_spec e] at h
 exact ints_iff.mpr h
theorem cmpI_ok {b : Bool} (q : Q (.bool b) s) {op : CmpOp} {i j : Int} {t u : Tok} (h : cmpInt op i j = some b) : wpAny (model Z.P Z.w) A (compareOp op (.int i t) (.int j u)) Q E s := by
 cases op with
 | Eq => exact PyProof.Rows.eq_int (some_eq h ▸ q)
 | NotEq => exact PyProof.Rows.ne_int (some_eq h ▸ q)
 | Lt => exact PyProof.Rows.lt_int (some_eq h ▸ q)
 | LtE => exact PyProof.Rows.le_int (some_eq h ▸ q)
 | Gt => exact PyProof.Rows.gt_int (some_eq h ▸ q)
 | GtE => exact PyProof.Rows.ge_int (some_eq h ▸ q)
 | _ => exact none_some h
theorem cmpL_ok {b : Bool} (q : Q (.bool b) s) (hu : A.units < cLine) {op : CmpOp} {xs ys : List Int} {va vb : Value} (Ra : SeqAt s.heap (fun vs => IntsAre vs xs) va) (Rb : SeqAt s.heap (fun vs => IntsAre vs ys) vb) (h : cmpEq op (decide (xs = ys)) = some b) :
  wpAny (model Z.P Z.w) A (compareOp op va vb) Q E s := by
 obtain ⟨a1, vs, n1, rfl, hl1, as1⟩ := Ra
 obtain ⟨a2, ws, n2, rfl, hl2, as2⟩ := Rb
 have l1 : s.heap.IsList a1 vs.toArray := ⟨_, hl1, rfl, n1, rfl⟩
 have l2 : s.heap.IsList a2 ws.toArray := ⟨_, hl2, rfl, n2, rfl⟩
 have len1 := IntsAre.length' as1
 have len2 := IntsAre.length' as2
 by_cases hz : vs.length = ws.length
 ·rw [<- eq_all xs ys (len1.trans (hz.trans len2.symm)), len1] at h
  cases op with
  | Eq => exact SeqAt.eq_listAt l1 l2 hz hu (fun j h1 h2 => ints_eqAt as1 as2 j h1 h2) (some_eq h ▸ q)
  | NotEq => exact SeqAt.RcNeAt.lists l1 l2 hz hu (fun j h1 h2 => ints_eqAt as1 as2 j h1 h2) _ _ _ _ (some_eq h ▸ q)
  | _ => exact none_some h
 ·rw [decide_eq_false fun e => hz (len1.symm.trans ((congrArg _ e).trans len2))] at h
  cases op with
  | Eq => exact SeqAt.eq_list_lengthsAt l1 l2 (bne_iff_ne.mpr hz) hu (some_eq h ▸ q)
  | NotEq => exact SeqAt.RcNeAt.lists_lengths l1 l2 (bne_iff_ne.mpr hz) hu _ _ _ _ (by cases some_eq h; exact q)
  | _ => exact none_some h
theorem repD_none {x : D} {v : Value} (R : RepD Z c x v) : (isNone x = true /\ v = .none) \/ (isNone x = false /\ v ≠ .none) := by
 cases x with
 | none => exact .inl ⟨rfl, R⟩
 | bool b => exact .inr ⟨rfl, fun q => nomatch (R : v = .bool b).symm.trans q⟩
 | int i => exact .inr ⟨rfl, fun q => let ⟨_, e⟩ := R; nomatch e.symm.trans q⟩
 | str i => exact .inr ⟨rfl, fun q => let ⟨_, e⟩ := R; nomatch e.symm.trans q⟩
 | tup xs => exact .inr ⟨rfl, fun q => let ⟨_, _, _, e, _, _⟩ := R; nomatch e.symm.trans q⟩
 | list xs => exact .inr ⟨rfl, fun q => let ⟨_, _, _, e, _, _⟩ := R; nomatch e.symm.trans q⟩
 | «ints» xs => exact .inr ⟨rfl, fun q => let ⟨_, _, _, e, _, _⟩ := R; nomatch e.symm.trans q⟩
 | fn m x => exact .inr ⟨rfl, fun q => let ⟨_, e, _⟩ := R; nomatch e.symm.trans q⟩
 | meth x => exact .inr ⟨rfl, fun q => let ⟨_, _, _, _, e, _, _, _⟩ := R; nomatch e.symm.trans q⟩
 | bi b => exact .inr ⟨rfl, fun q => by rw [show v = biV b from R] at q; cases b <;> cases q⟩
 | cls => exact .inr ⟨rfl, fun q => nomatch (R : v = .ref Z.ca).symm.trans q⟩
 | mpu => exact .inr ⟨rfl, fun q => let ⟨_, _, e, _⟩ := R; nomatch e.symm.trans q⟩
 | rng n => exact .inr ⟨rfl, fun q => let ⟨_, _, _, _, e, _⟩ := R; nomatch e.symm.trans q⟩
 | arg xs => exact .inr ⟨rfl, fun q => let ⟨_, _, _, _, e, _, _, _, _⟩ := R; nomatch e.symm.trans q⟩
 | dict k i => exact R.elim
 | sdict xs => exact .inr ⟨rfl, fun q => let ⟨_, _, _, e, _, _, _⟩ := R; nomatch e.symm.trans q⟩
theorem repV_none (C : Core Z Kp c hs s) {a : V} {v : Value} (R : RepV Z c a v) : (isNone (deref hs a) = true /\ v = .none) \/ (isNone (deref hs a) = false /\ v ≠ .none) := by
 cases a with
 | d x => exact repD_none R
 | loc n =>
  obtain ⟨ad, e1, rfl⟩ := R
  obtain ⟨_, o, _, as⟩ := C.locO e1
  refine .inr ⟨?_, fun q => nomatch q⟩
  show isNone (hs.hp.getD n .none) = false
  revert as
  generalize hs.hp.getD n .none = y
  intro as
  cases as with
  | mk vs n e as => cases y <;> first | rfl | exact as.elim
  | dct k i t e d => cases e; rfl
theorem isNone_eq {d : D} (h : isNone d = true) : d = .none := by cases d <;> first | rfl | exact ff h
theorem tupI_at (C : Core Z Kp c hs s) {a : V} {va : Value} {is : List Int} (Ra : RepV Z c a va) (e : toIntsT (deref hs a) = some is) : ∃ ad vs, va = .ref ad /\ s.heap.IsTuple ad (List.toArray vs) /\ IntsAre vs is := by
 obtain ⟨xs, e1, e2⟩ := optB_iff e
 obtain ⟨ad, vs, n, rfl, g, r⟩ := view_d C Ra (D.tup_eq e1) rfl
 exact ⟨ad, vs, rfl, ⟨_, C.sub _ _ g, rfl, n, rfl⟩, toInts_as e2 r⟩
theorem cmpS_ok {b : Bool} (q : Q (.bool b) s) {op : CmpOp} {x y : Str} {t u : Tok} (h : cmpStr op x y = some b) : wpAny (model Z.P Z.w) A (compareOp op (.str x t) (.str y u)) Q E s := by
 cases op with
 | Eq => exact P.eq_str (some_eq h ▸ q)
 | NotEq => exact P.ne_str (some_eq h ▸ q)
 | In => exact P.in_str (some_eq h ▸ q)
 | _ => exact none_some h
theorem cmpV_ok {k : Bool -> Prop} (P : ∀ b, k b -> Q (.bool b) s) (C : Core Z Kp c hs s) (hu : A.units < cLine) {op : CmpOp} {a b : V} {va vb : Value} (Ra : RepV Z c a va) (Rb : RepV Z c b vb) (h : cmpV op a b hs k) :
  wpAny (model Z.P Z.w) A (compareOp op va vb) Q E s := by
 obtain ⟨r, h, hk⟩ := optP_iff h
 have q := P r hk
 rcases orB_iff h with ⟨p, hp, h⟩ | h
 ·obtain ⟨t, rfl⟩ := view_d C Ra (D.int_eq (both_iff hp).1) rfl
  obtain ⟨u, rfl⟩ := view_d C Rb (D.int_eq (both_iff hp).2) rfl
  exact cmpI_ok q h
 rcases orB_iff h with ⟨p, hp, h⟩ | h
 ·obtain ⟨t, rfl⟩ := view_d C Ra (D.str_eq (both_iff hp).1) rfl
  obtain ⟨u, rfl⟩ := view_d C Rb (D.str_eq (both_iff hp).2) rfl
  exact cmpS_ok q h
 rcases orB_iff h with ⟨p, hp, h⟩ | h
 ·exact cmpL_ok q hu (view_list C Ra (D.ints_eq (both_iff hp).1) rfl) (view_list C Rb (D.ints_eq (both_iff hp).2) rfl) h
 ·obtain ⟨e, h'⟩ := noB_iff h
  obtain ⟨e1, e2⟩ := and_t (not_t' e)
  cases is_of e2
  cases view_d C Rb (isNone_eq e1) rfl
  rw [<- some_eq h'] at q
  rcases repV_none C Ra with ⟨e, rfl⟩ | ⟨e, hne⟩
  ·rw [e] at q; exact wpAny_is_self (by decide) q
  ·rw [e] at q; exact PyProof.Rows.is_none_ne hne q
end
section
variable {Z : Stat} {Kp : Addr -> Option Obj} {c : Cn} {hs : Hs} {s : Shared} {K : KE} {Q : Value -> Shared -> Prop} {A : Around} {E : Value -> Shared -> Prop} {tk : Nat}
theorem fits_of {i : Int} (h : small i) : Builtin.List.listFitsIndex i = true := by
 unfold small at h
 simp [Builtin.List.listFitsIndex]; lia
theorem seqIndex_of {i : Int} {n : Nat} (h0 : 0 <= idx i n) (h1 : idx i n < n) : seqIndex? i n = some (idx i n).toNat := by
 unfold idx at h0 h1
 unfold seqIndex? idx
 simp only [Bool.and_eq_true, decide_eq_true_eq, if_pos (And.intro h0 h1)]
theorem getItem_listAt {a : Addr} {vs : List Value} {n : Nat} {i : Int} {t : Tok} {x : Value} (hl : s.heap.get? a = some (listO vs n)) (hs : small i) (h0 : 0 <= idx i vs.length) (h1 : idx i vs.length < vs.length) (hx : vs[(idx i vs.length).toNat]? = some x) (hq : Q x s) :
  wpAny (model Z.P Z.w) A (getItem (.ref a) (.int i t)) Q E s := by
 have l : s.heap.IsList a vs.toArray := ⟨_, hl, rfl, n, rfl⟩
 unfold small at hs
 by_cases hi : i < 0
 ·have e : idx i vs.length = i + vs.length := if_pos hi
  rw [e] at h0 hx
  exact wpAny_getItem_list_neg l hi (by simp; lia) (by lia) (by simpa using hx) hq
 ·have e : idx i vs.length = i := if_neg hi
  rw [e] at h0 hx
  exact wpAny_getItem_list l h0 (by lia) (by simpa using hx) hq
theorem getItem_tupAt {a : Addr} {vs : List Value} {n : Nat} {i : Int} {t : Tok} {x : Value} (hl : s.heap.get? a = some (tupO vs n)) (hs : small i) (h0 : 0 <= idx i vs.length) (h1 : idx i vs.length < vs.length) (hx : vs[(idx i vs.length).toNat]? = some x) (hq : Q x s) :
  wpAny (model Z.P Z.w) A (getItem (.ref a) (.int i t)) Q E s := by
 unfold small at hs
 exact PyProof.Rows.getItem_tuple (items := vs.toArray) ⟨_, hl, rfl, n, rfl⟩ (by lia) (by lia) (by simpa using seqIndex_of h0 h1) (by simpa using hx) hq
noncomputable def itemType (s : Shared) (v : Value) : Prop := ∃ T id, s.TypeIs v T /\ typeLookup (.type T) "__getitem__" = pure (some (.builtin id))
theorem idx_lt {i : Int} {n : Nat} (h0 : 0 <= idx i n) (h1 : idx i n < n) : (idx i n).toNat < n := by lia
theorem itemL_ok (P : Post Z Kp c K Q) (C : Core Z Kp c hs s) {R : List Value -> Prop} {n : Nat} {f : Nat -> D} {i : Int} {t : Tok} {va : Value} (V : SeqAt s.heap R va) (hR : ∀ {vs}, R vs -> n = vs.length /\ ∀ k, k < n -> ∃ u, vs[k]? = some u /\ RepD Z c (f k) u)
  (h : at' i n fun k => K (.d (f k)) hs) : wpAny (model Z.P Z.w) A (getItem va (.int i t)) Q E s /\ itemType s va := by
 obtain ⟨a', vs, m, rfl, hl, as⟩ := V
 obtain ⟨rfl, g⟩ := hR as
 obtain ⟨u, hx, hr⟩ := g _ (idx_lt h.2.1 h.2.2.1)
 exact ⟨getItem_listAt hl h.1 h.2.1 h.2.2.1 hx (P.now (V := .d _) C hr h.2.2.2), "list", _, ⟨_, hl, rfl⟩, list_getitem_lookup⟩
theorem itemT_ok (P : Post Z Kp c K Q) (C : Core Z Kp c hs s) {xs : List D} {i : Int} {t : Tok} {va : Value} (V : RepD Z c (.tup xs) va) (h : at' i xs.length fun k => K (.d (xs.getD k .none)) hs) :
  wpAny (model Z.P Z.w) A (getItem va (.int i t)) Q E s /\ itemType s va := by
 obtain ⟨a', vs, m, rfl, g, as⟩ := V
 have hl := C.sub _ _ g
 obtain ⟨u, hx, hr⟩ := RepDs.get as _ (idx_lt h.2.1 h.2.2.1)
 rw [RepDs.length as] at h hx hr
 exact ⟨getItem_tupAt hl h.1 h.2.1 h.2.2.1 hx (P.now (V := .d _) C hr h.2.2.2), "tuple", _, ⟨_, hl, rfl⟩, slot_tuple_getitem.lookup⟩
theorem itemG_ok (P : Post Z Kp c K Q) (C : Core Z Kp c hs s) {o : Obj} {k i j : Int} {t u : Tok} {a : Addr} (e : s.heap.get? a = some o) (hd : o.IsDictOf (intKind Z.P Z.w) [(k, .int j u)]) (h : k = i /\ K (.d (.int j)) hs) :
  wpAny (model Z.P Z.w) A (getItem (.ref a) (.int i t)) Q E s /\ itemType s (.ref a) := by
 obtain ⟨rfl, h⟩ := h
 have hdo : s.heap.DictOf (intKind Z.P Z.w) a [(k, .int j u)] := Heap.dictOf_iff.mpr ⟨o, e, hd⟩
 exact ⟨wpAny_getItem_of (intKind_is _ _ k t) hdo.mapOf (by unfold valueAt; rw [List.find?_cons, decide_eq_true rfl]; rfl) (P.now (V := .d (.int j)) C.toks ⟨u, rfl⟩ h), "dict", _, hdo.typeIs, slot_dict_getitem.lookup⟩
theorem itemC_ok (P : Post Z Kp c K Q) (C : Core Z Kp c hs s) {x : Str} {i : Int} {t : Tok} {va : Value} (R : RepD Z c (.str x) va) (h : at' i x.length fun n => optP x.cps[n]? fun c => K (.d (.str ⟨#[c]⟩)) hs) :
  wpAny (model Z.P Z.w) A (getItem va (.int i t)) Q E s /\ itemType s va := by
 obtain ⟨u, rfl⟩ := R
 obtain ⟨h1, h2, h3, h4⟩ := h
 obtain ⟨ch, e, h⟩ := optP_iff h4
 refine ⟨PySem.P.getItem_str ?_ ?_ (Post.now P (V := .d (.str _)) C.toks ⟨_, rfl⟩ h), "str", _, typeIs_str s x u, F.slot_str_getitem.lookup⟩
 ·have := fits_of h1
  unfold small at h1
  rw [decide_eq_false (by lia), decide_eq_false (by lia)]; rfl
 ·rw [seqIndex_of h2 h3]; exact e
theorem itemS_ok (P : Post Z Kp c K Q) (C : Core Z Kp c hs s) {xs : List (Str × Int)} {x : Str} {t : Tok} {va : Value} (R : RepD Z c (.sdict xs) va) (h : optP (sLook x xs) fun j => K (.d (.int j)) hs) :
  wpAny (model Z.P Z.w) A (getItem va (.str x t)) Q E s /\ itemType s va := by
 obtain ⟨a', o, kvs, rfl, g, hi, rk⟩ := R
 obtain ⟨d, hd, h⟩ := optP_iff h
 obtain ⟨v, hv⟩ := rk.lookup hd
 have hdo : s.heap.DictOf (strKind Z.P Z.w) a' kvs := Heap.dictOf_iff.mpr ⟨o, C.sub _ _ g, hi⟩
 exact ⟨wpAny_getItem_of (strKind_is _ _ x t) hdo.mapOf hv (P.now (V := .d (.int d)) C.toks ⟨v, rfl⟩ h), "dict", _, hdo.typeIs, slot_dict_getitem.lookup⟩
theorem view_dict (C : Core Z Kp c hs s) {V : V} {v : Value} {k i : Int} (R : RepV Z c V v) (e : deref hs V = .dict k i) : ∃ a o t, v = .ref a /\ s.heap.get? a = some o /\ o.IsDictOf (intKind Z.P Z.w) [(k, .int i t)] := by
 cases V with
 | d y => cases (show y = .dict k i from e); exact R.elim
 | loc n =>
  obtain ⟨a, e1, rfl⟩ := R
  obtain ⟨_, o, e2, as⟩ := C.locO e1
  rw [show hs.hp.getD n .none = .dict k i from e] at as
  obtain ⟨t, hd⟩ := as.dict
  exact ⟨a, o, t, rfl, e2, hd⟩
theorem itemV_ok (P : Post Z Kp c K Q) (C : Core Z Kp c hs s) {a b : V} {va vb : Value} (Ra : RepV Z c a va) (Rb : RepV Z c b vb) (h : itemV a b hs K) :
  wpAny (model Z.P Z.w) A (getItem va vb) Q E s /\ itemType s va := by
 rcases orP_iff h with ⟨x, e, h⟩ | h
 ·rw [V.str_eq e] at Rb
  obtain ⟨t, rfl⟩ := Rb
  obtain ⟨xs, e, h⟩ := optP_iff h
  exact itemS_ok P C (view_d C Ra (D.sdict_eq e) rfl) h
 obtain ⟨i, e, h⟩ := optP_iff h
 rw [V.int_eq e] at Rb
 obtain ⟨t, rfl⟩ := Rb
 have d := fun x => view_d C Ra (x := x)
 have l := fun x => view_list C Ra (x := x)
 have g := fun k i => view_dict C Ra (k := k) (i := i)
 revert h d l g
 generalize deref hs a = x
 intro h d l g
 cases x with
 | «ints» xs => exact itemL_ok P C (f := fun k => .int (xs.getD k 0)) (l _ rfl rfl) (fun as => ⟨IntsAre.length' as, fun k hk => (ints_get as k hk).elim fun u e => ⟨_, e, u, rfl⟩⟩) h
 | list xs => exact itemL_ok P C (f := fun k => xs.getD k .none) (l _ rfl rfl) (fun as => ⟨RepDs.length as, RepDs.get as⟩) h
 | tup xs => exact itemT_ok P C (d _ rfl rfl) h
 | str x => exact itemC_ok P C (d _ rfl rfl) h
 | dict k j =>
  obtain ⟨ad, o, u, rfl, e1, e2⟩ := g k j rfl
  exact itemG_ok P C e1 e2 h
 | _ => exact False.elim h
theorem RepDs.drop : ∀ {xs : List D} {vs : List Value}, RepDs Z c xs vs -> ∀ k, RepDs Z c (xs.drop k) (vs.drop k)
 | _, _, h, 0 => h
 | [], vs, h, k + 1 => by obtain rfl : vs = [] := h; rfl
 | x :: xs, vs, h, k + 1 => by
  obtain ⟨v, r, rfl, h1, h2⟩ := h
  exact RepDs.drop h2 k
theorem RepDs.take : ∀ {xs : List D} {vs : List Value}, RepDs Z c xs vs -> ∀ k, RepDs Z c (xs.take k) (vs.take k)
 | _, _, _, 0 => rfl
 | [], vs, h, k + 1 => by obtain rfl : vs = [] := h; rfl
 | x :: xs, vs, h, k + 1 => by
  obtain ⟨v, r, rfl, h1, h2⟩ := h
  exact ⟨v, _, rfl, h1, RepDs.take h2 k⟩
theorem RepDs.cut {xs : List D} {vs : List Value} (h : RepDs Z c xs vs) (lo hi : Option Int) : RepDs Z c (cut xs lo hi) (cut vs lo hi) := by
 unfold Mine.cut
 rw [h.length]
 exact (h.drop _).take _
theorem cut_map {α β : Type} (f : α -> β) (xs : List α) (lo hi : Option Int) : (cut xs lo hi).map f = cut (xs.map f) lo hi := by
 unfold cut
 rw [List.map_take, List.map_drop, List.length_map]
theorem cut_ints (Z : Stat) (c : Cn) {xs : List Int} {vs : List Value} (h : IntsAre vs xs) (lo hi : Option Int) : IntsAre (cut vs lo hi) (cut xs lo hi) := by
 refine (ints_iff (Z := Z) (c := c)).mpr ?_
 rw [cut_map]
 exact RepDs.cut (ints_iff.mp h) lo hi
theorem slicePick_cut (vs : List Value) (lo hi : Option Int) : (slicePick vs.toArray lo hi none).toList = cut vs lo hi := by
 rw [slicePick_plain]
 simp [cut]
noncomputable def RepO (Z : Stat) (c : Cn) : Option V -> Value -> Prop
 | none, v => v = .none
 | some V, v => RepV Z c V v
theorem RepO.mono {c c' : Cn} (l : c.le c') {V : Option V} {v : Value} (h : RepO Z c V v) : RepO Z c' V v := by
 cases V with
 | none => exact h
 | some V => exact RepV.mono l h
theorem partV_ok {V : Option V} {l : Option Int} {v : Value} (h : partV V = some l) (R : RepO Z c V v) : IsPart v l := by
 cases V with
 | none =>
  cases (R : v = .none)
  exact some_eq h ▸ .none
 | some V =>
  obtain ⟨i, e, h⟩ := optB_iff h
  have R : RepV Z c V v := R
  rw [V.int_eq e] at R
  obtain ⟨t, rfl⟩ := R
  exact some_eq h ▸ .int _ t
theorem sliceK_ok (P : Post Z Kp c K Q) (C : Core Z Kp c hs s) {m : Bool} {l u : Option Int} {vl vu : Value} {sl : Addr} (p1 : IsPart vl l) (p2 : IsPart vu u) (hsl : s.heap.IsSliceOf sl vl vu .none) {x : D} {b : Addr} {o : Obj} {vs : List Value} {n : Nat} (ho : s.heap.get? b = some o) (hc : o.cls = .type "list") (hd : o.data = .seq vs.toArray n)
  {k : Nat} (len : k = vs.length) (hz : k <= lim) (as : ListAs Z c x (cut vs l u)) (h : alloc m x hs K) : wpAny (model Z.P Z.w) A (getItem (.ref b) (.ref sl)) Q E s /\ itemType s (.ref b) := by
 refine ⟨wpAny_getItem_list_slice ⟨o, ho, hc, n, hd⟩ hsl p1 p2 .none (by simp) ?_ (Nat.le_trans (len ▸ hz : vs.length <= lim) (by decide)), ⟨"list", _, ⟨o, ho, hc⟩, list_getitem_lookup⟩⟩
 exact alloc_ok (n := 0) (tk := s.toks) P C h (by rw [slicePick_cut]; exact as)
theorem sliceV_ok (P : Post Z Kp c K Q) (C : Core Z Kp c hs s) {m : Bool} {a : V} {lo hi : Option V} {va vl vu : Value} {sl : Addr} (Ra : RepV Z c a va)
  (Rl : RepO Z c lo vl) (Ru : RepO Z c hi vu) (hsl : s.heap.IsSliceOf sl vl vu .none) (h : sliceV m a lo hi hs K) :
  wpAny (model Z.P Z.w) A (getItem va (.ref sl)) Q E s /\ itemType s va := by
 obtain ⟨l, e1, h⟩ := optP_iff h
 obtain ⟨u, e2, h⟩ := optP_iff h
 have p1 := partV_ok e1 Rl
 have p2 := partV_ok e2 Ru
 have d := fun x => view_d C Ra (x := x)
 have ls := fun x => view_list C Ra (x := x)
 revert h d ls
 generalize deref hs a = x
 intro h d ls
 cases x with
 | «ints» xs =>
  obtain ⟨a', vs, n, rfl, hl, as⟩ := ls _ rfl rfl
  exact sliceK_ok P C p1 p2 hsl (x := .ints (cut xs l u)) hl rfl rfl (IntsAre.length' as) h.1 (cut_ints Z c as l u) h.2
 | list xs =>
  obtain ⟨a', vs, n, rfl, hl, as⟩ := ls _ rfl rfl
  exact sliceK_ok P C p1 p2 hsl (x := .list (cut xs l u)) hl rfl rfl (RepDs.length as) h.1 (RepDs.cut as l u) h.2
 | arg xs =>
  obtain ⟨a', o, vs, n, rfl, g, hc, hd, as⟩ := d _ rfl rfl
  exact sliceK_ok P C p1 p2 hsl (x := .ints (cut xs l u)) (C.sub _ _ g) hc hd (IntsAre.length' as) h.1 (cut_ints Z c as l u) h.2
 | _ => exact False.elim h
theorem ia_set {vs : List Value} {xs : List Int} (h : IA vs xs) (j : Int) (t : Tok) : ∀ k, IA (vs.set k (.int j t)) (xs.set k j) := by
 induction h with
 | nil => exact fun _ => .nil
 | cons h ih => exact fun k => match k with
  | 0 => .cons h
  | k + 1 => .cons (ih k)
theorem ints_set {vs : List Value} {xs : List Int} (h : IntsAre vs xs) (k : Nat) (j : Int) (t : Tok) : IntsAre (vs.set k (.int j t)) (xs.set k j) := of_ia (ia_set (ia_of h) j t k)
theorem setItem_listAt {Qu : Unit -> Shared -> Prop} {a : Addr} {vs : List Value} {n : Nat} {i : Int} {t : Tok} {x : Value} (hl : s.heap.get? a = some (listO vs n)) (hs : small i) (h0 : 0 <= idx i vs.length) (h1 : idx i vs.length < vs.length)
  (hq : ∀ h', h'.get? a = some (listO (vs.set (idx i vs.length).toNat x) n) -> Heap.SameBut a s.heap h' -> Qu () { s with heap := h' }) :
  wpAny (model Z.P Z.w) A (setItem (.ref a) (.int i t) x) Qu E s := by
 have hT : s.TypeIs (.ref a) "list" := ⟨_, hl, rfl⟩
 have hi := seqIndex_of h0 h1
 have fin : Qu () { s with heap := s.heap.update a (Obj.mapSeq (·.setIfInBounds (idx i vs.length).toNat x)) } := by
  refine hq _ ?_ (Heap.SameBut.update ..)
  rw [Heap.get?_update_self _ hl (by simp [Obj.mapSeq, Obj.isFreed])]
  simp [Obj.mapSeq]
 obtain ⟨y, hx⟩ : ∃ y, vs.toArray[(idx i vs.length).toNat]? = some y := ⟨_, Array.getElem?_eq_getElem (by simp; lia)⟩
 unfold setItem
 refine wpAny_holding ?_
 refine wpAny_bind (wpAny_sequenceKey hT (by decide) ?_)
 refine wpAny_bind (wpAny_callSpecial?_slot (name := Str.ofString "__setitem__") hT slot_list_setitem
  (wpAny_call_entry slot_list_setitem hT entry_list_setitem ?_ (args_list_setitem _ _ _)))
 show wpAny _ _ (Builtin.List.listSubscript? (.int i t) >>= _) _ _ s
 refine wpAny_bind (wpAny_listSubscript_int (fits_of hs) ?_)
 have tail : ∀ j : Nat, j = (idx i vs.length).toNat -> wpAny (model Z.P Z.w) A.in1 (setSeqItemAt a j x >>= fun _ => ret .none) (fun fin s' => ∃ v, fin = .done (.ret v) /\ (fun v s' => wpAny (model Z.P Z.w) A (pure ()) Qu E s') v s') E s := by
  rintro j rfl
  exact wpAny_bind (wpAny_setSeqItemAt hl rfl (wpAny_pure ⟨.none, rfl, wpAny_pure fin⟩))
 cases i with
 | ofNat j =>
  have e : idx (Int.ofNat j) vs.length = (j : Int) := if_neg (by simp)
  rw [e] at hx tail
  show wpAny _ _ ((seqItemAt a j >>= fun r => pure (r.map (j, ·))) >>= _) _ _ s
  refine wpAny_bind (wpAny_bind (wpAny_seqItemAt hl rfl (wpAny_pure ?_)))
  rw [show vs.toArray[j]? = _ from hx]
  exact tail j rfl
 | negSucc j =>
  show wpAny _ _ ((Builtin.List.listItems (.ref a) >>= fun xs => pure ((seqIndex? (Int.negSucc j) xs.size).bind fun i => xs[i]?.map (i, ·))) >>= _) _ _ s
  refine wpAny_bind (wpAny_bind ?_)
  show wpAny _ _ (seqItems? (.ref a) >>= _) _ _ s
  refine wpAny_bind (wpAny_seqItems hl rfl (wpAny_pure (wpAny_pure ?_)))
  rw [show vs.toArray.size = vs.length by simp, hi]
  simp only [Option.bind_some, hx, Option.map_some]
  exact tail _ rfl
theorem setItemV_ok {Ku : Hs -> Prop} {Qu : Unit -> Shared -> Prop} (P : PostU Z Kp c Ku Qu) (C : Core Z Kp c hs s) {a b u : V} {va vb vu : Value} (Ra : RepV Z c a va) (Rb : RepV Z c b vb) (Ru : RepV Z c u vu) (h : setItemV a b u hs Ku) :
  wpAny (model Z.P Z.w) A (setItem va vb vu) Qu E s := by
 obtain ⟨n, ea, h⟩ := optP_iff h
 obtain ⟨i, eb, h⟩ := optP_iff h
 obtain ⟨j, eu, h⟩ := optP_iff h
 rw [V.loc_eq ea] at Ra
 rw [V.int_eq eb] at Rb
 rw [V.int_eq eu] at Ru
 obtain ⟨t, rfl⟩ := Rb
 obtain ⟨t', rfl⟩ := Ru
 obtain ⟨ad, e1, rfl⟩ := Ra
 rcases orP_iff h with ⟨xs, e, h⟩ | h
 ·obtain ⟨_, vs, ep, e2, as⟩ := C.locAt e1 (by rw [D.ints_eq e]; rfl)
  rw [D.ints_eq e] at as
  rw [IntsAre.length' as] at h
  exact setItem_listAt e2 h.1 h.2.1 h.2.2.1 fun h' e' hs' => P _ _ _ (.refl c) (C.setL (x := .ints _) (tk := s.toks) e1 (fun b o hb e => hs'.extBut b o hb e) e' (.mk _ _ rfl (ints_set as _ j t'))) h.2.2.2
 ·obtain ⟨⟨k, j'⟩, e, h⟩ := optP_iff h
  obtain ⟨_, o, e2, as⟩ := C.locO e1
  rw [D.dict_eq e] at as
  obtain ⟨u, hd⟩ := as.dict
  obtain ⟨rfl, h⟩ := h
  have hdo : s.heap.DictOf (intKind Z.P Z.w) ad [(k, .int j' u)] := Heap.dictOf_iff.mpr ⟨o, e2, hd⟩
  refine wpAny_setItem_pairs (intKind_is _ _ k t) hdo (fun h' hd' hs' => ?_) (by rw [sizeLine_eq]; exact Nat.le_of_ble_eq_true rfl)
  obtain ⟨o', e', hd'⟩ := Heap.dictOf_iff.mp hd'
  have hst : stored [(k, Value.int j' u)] k (.int j t') = [(k, .int j t')] := by unfold stored; simp
  rw [hst] at hd'
  exact P _ _ _ (.refl c) (C.setL (x := .dict k j) (tk := _) e1 (fun b o hb e => hs'.extBut b o hb e) e' (.dct k j t' rfl hd')) h
theorem growV_ok {Ku : Hs -> Prop} {n : Nat} {z : Option D} {a : Addr} {vs ws : List Value} (C : Core Z Kp c hs s) (hn : c.ρ[n]? = some a) (h : growV n z hs Ku) (as : ∀ z', z = some z' -> ListAs Z c z' (vs ++ ws)) :
  vs.length + ws.length <= 2 ^ 20 /\ ∀ h' ep, h'.get? a = some (listO (vs ++ ws) ep) -> Heap.SameBut a s.heap h' -> ∃ hs', Core Z Kp c hs' { s with heap := h', toks := tk } /\ Ku hs' := by
 obtain ⟨z', ez, h⟩ := optP_iff h
 obtain ⟨k, ek, h⟩ := optP_iff h
 have as := as z' ez
 have e : k = (vs ++ ws).length := some_eq (ek.symm.trans as.length)
 exact ⟨List.length_append ▸ e ▸ h.1, fun h' _ e' hs' => ⟨_, C.setL hn (fun b o hb e => hs'.extBut b o hb e) e' (.mk _ _ rfl as), h.2⟩⟩
end
section
variable {M : Model} {A : Around} {E : Value -> Shared -> Prop} {s : Shared}
theorem list_iseq : fillsInplaceSlot (.type "list") "add" (Operator.Add == .Add) = pure false := by
 unfold fillsInplaceSlot
 show (typeLookup (.type "list") (dunderI "add") >>= fun fi => pure (fi.isSome && !isSeqSlot fi)) = pure false
 rw [F.slot_list_iadd.lookup]
 rfl
theorem list_seq : seqSlot? (.type "list") (dunderI "add") = pure (some (.builtin "list.__iadd__")) := by
 unfold seqSlot?
 rw [F.slot_list_iadd.lookup]
 rfl
theorem inplace_list {a b : Value} {Q : Value -> Shared -> Prop} (ha : s.TypeIs a "list") (hb : s.TypeIs b "list") (hc : wpAny M A (call (.builtin "list.__iadd__") [a, b]) Q E s) : wpAny M A (inplaceOp .Add a b) Q E s := by
 unfold inplaceOp
 refine wpAny_holding ?_
 refine wpAny_bind (wpAny_typeOf ha (wpAny_bind (wpAny_of_eq list_iseq ?_)))
 refine wpF rfl ?_
 refine wpAny_bind (wpAny_binaryOp1_none (nm := "add") ha hb noFill_list_add ?_)
 refine wpAny_bind (wpAny_of_eq list_seq ?_)
 exact wpAny_bind (wpAny_rule hc)
end
section
variable {Z : Stat} {Kp : Addr -> Option Obj} {c : Cn} {hs : Hs} {s : Shared} {K : KE} {Q : Value -> Shared -> Prop} {A : Around} {E : Value -> Shared -> Prop} {tk : Nat}
theorem iadd_ok (P : Post Z Kp c K Q) (C : Core Z Kp c hs s) {n : Nat} {y : V} {va v : Value} (Ra : RepV Z c (.loc n) va) (Ry : RepV Z c y v) (h : extendV n y hs fun hs => K (.loc n) hs) :
  wpAny (model Z.P Z.w) A (inplaceOp .Add va v) Q E s := by
 have Ra' := Ra
 obtain ⟨ad, e1, rfl⟩ := Ra
 obtain ⟨z, ez, _⟩ := optP_iff h
 obtain ⟨l1, l2⟩ := catD_isL ez
 obtain ⟨_, vs, ep, e2, as⟩ := C.locAt e1 (D.isL_dct l1)
 obtain ⟨a2, ws, k2, rfl, hl2, as2⟩ := view_list C Ry rfl l2
 obtain ⟨hz, hk⟩ := growV_ok (tk := s.toks) (vs := vs) (ws := ws) C e1 h (fun z' e => catD_as e as as2)
 have hz1 : vs.toArray.size <= sizeLine := by simp [sizeLine]; lia
 refine inplace_list ⟨_, e2, rfl⟩ ⟨_, hl2, rfl⟩ (call_meets F.slot_list_iadd ⟨_, e2, rfl⟩ F.entry_list_iadd (F.args_list_iadd_2 _ _) (AutoSeq1.list___iadd___list_list_0 ad vs.toArray ep a2 ws.toArray k2 (by simp [Builtin.List.listTooLong, sizeLine]; intro _; lia) hz1 (by simp [sizeLine]; lia)) ⟨e2, hl2, ?_⟩)
 obtain ⟨hs', C', k⟩ := hk (s.heap.update ad (Obj.mapSeq fun x => x ++ ws.toArray)) (if ((vs ++ ws).toArray.size == vs.toArray.size) = true then ep else ep + 1) (by
  rw [IsL.update (n := ep) (items := vs.toArray) e2]
  simp only [listO, List.append_toArray]) (Heap.SameBut.update ..)
 exact P _ _ _ _ _ (.refl c) C' Ra' k
end
theorem splice_arr {vs ws : List Value} {lo hi : Option Int} : vs.toArray.extract 0 (((lo.elim 0 (clipAt vs.toArray.size) : Nat) : Int)).toNat ++ ws.toArray ++ vs.toArray.extract (max ((lo.elim 0 (clipAt vs.toArray.size) : Nat) : Int) ((hi.elim vs.toArray.size (clipAt vs.toArray.size) : Nat) : Int)).toNat = (splice vs lo hi ws).toArray := by
 have e : (max ((lo.elim 0 (clipAt vs.toArray.size) : Nat) : Int) ((hi.elim vs.toArray.size (clipAt vs.toArray.size) : Nat) : Int)).toNat = max (lo.elim 0 (clipAt vs.toArray.size)) (hi.elim vs.toArray.size (clipAt vs.toArray.size)) := by omega
 rw [e, Int.toNat_natCast]
 apply Array.ext'
 simp [splice]
 exact List.take_of_length_le (by simp)
theorem splice_size {vs ws : List Value} {lo hi : Option Int} (hz : vs.length + ws.length <= lim) : (splice vs lo hi ws).toArray.size <= sizeLine + 1 := by
 have hq : lim <= sizeLine := by decide
 simp only [splice, List.size_toArray, List.length_append, List.length_take, List.length_drop]
 omega
section
variable {Z : Stat} {s : Shared} {A : Around} {E : Value -> Shared -> Prop}
theorem letGo_ok {M : Model} {Q : Unit -> Shared -> Prop} (h : Q () s) : ∀ (l k : List Value), wpAny M A (letGo l k) Q E s
 | [], _ => wpAny_pure h
 | _ :: r, k => by
  unfold letGo
  exact wpAny_bind (wpAny_holding (wpAny_point (letGo_ok h r k)))
theorem setSlice_at {Qu : Unit -> Shared -> Prop} {a b sl : Addr} {vs ws : List Value} {n m : Nat} {vl vu : Value} {lo hi : Option Int} (hl : s.heap.get? a = some (listO vs n)) (hb : s.heap.get? b = some (listO ws m))
  (hs : s.heap.IsSliceOf sl vl vu .none) (pl : IsPart vl lo) (pu : IsPart vu hi) (hz : vs.length + ws.length <= lim)
  (hq : ∀ h' k, h'.get? a = some (listO (splice vs lo hi ws) k) -> Heap.SameBut a s.heap h' -> Qu () { s with heap := h' }) :
  wpAny (model Z.P Z.w) A (setItem (.ref a) (.ref sl) (.ref b)) Qu E s := by
 have hT : s.TypeIs (.ref a) "list" := ⟨_, hl, rfl⟩
 have hTb : s.TypeIs (.ref b) "list" := ⟨_, hb, rfl⟩
 obtain ⟨os, hos, hcs, hds⟩ := id hs
 have hTs : s.TypeIs (.ref sl) "slice" := ⟨os, hos, hcs⟩
 unfold setItem
 refine wpAny_holding ?_
 refine wpAny_bind (wpAny_sequenceKey hT (by decide) ?_)
 refine wpAny_bind (wpAny_callSpecial?_slot (name := Str.ofString "__setitem__") hT slot_list_setitem
  (wpAny_call_entry slot_list_setitem hT entry_list_setitem ?_ (args_list_setitem _ _ _)))
 show wpAny _ _ (Builtin.List.listSubscript? (.ref sl) >>= _) _ _ s
 refine wpAny_bind ?_
 unfold Builtin.List.listSubscript?
 refine wpAny_bind (wpAny_specialOf hTs slice_no_index (wpAny_pure ?_))
 show wpAny _ _ (typeOf (.ref sl) >>= _) _ _ s
 refine wpAny_bind (wpAny_typeOf hTs ?_)
 rw [if_neg (by decide), listSliceParts_eq]
 refine wpAny_bind (wpAny_bind (wpAny_field hos hds (x := .none) rfl (wpAny_bind (wpAny_listPart .none ?_))))
 refine wpF rfl ?_
 refine wpAny_bind (wpAny_field hos hds (x := vl) rfl (wpAny_bind (wpAny_listPart pl ?_)))
 refine wpAny_bind (wpAny_field hos hds (x := vu) rfl (wpAny_bind (wpAny_listPart pu (wpAny_pure ?_))))
 have items : ∀ {c : Addr} {us : List Value} {k : Nat} {Q : Array Value -> Shared -> Prop}, s.heap.get? c = some (listO us k) -> Q us.toArray s -> wpAny (model Z.P Z.w) A.in1 (Builtin.List.listItems (.ref c)) Q E s := fun e h => by
  unfold Builtin.List.listItems
  exact wpAny_bind (wpAny_seqItems e rfl (wpAny_pure h))
 have all : ∀ {Q : Array Value -> Shared -> Prop}, Q ws.toArray s -> wpAny (model Z.P Z.w) A.in1 (Builtin.List.listAllItems (.ref b) "must assign iterable to extended slice") Q E s := fun h => by
  unfold Builtin.List.listAllItems
  refine wpAny_bind (wpAny_typeOf hTb ?_)
  exact wpT rfl (items hb h)
 dsimp only
 cases Builtin.List.listSameRef (.ref a) (.ref b) <;> (first | refine wpT rfl (wpAny_bind (items hb ?_)) | refine wpF rfl (wpAny_bind (all ?_)))
 all_goals
  refine wpAny_bind (items hl ?_)
  refine wpAny_bind (wpAny_of_eq (sliceIndices_raw lo hi none vs.toArray.size (by simp)) ?_)
  rw [sliceBounds_plain]
  refine wpT rfl (wpAny_bind (wpAny_rule ?_))
  refine wpF (by have hq : lim <= sizeLine := (by decide); simp [Builtin.List.listTooLong]; lia) ?_
  refine wpAny_bind (m := Builtin.List.listUpdate _ _) ?_
  refine wpAny_updateSeq (n := n) hl rfl (wpAny_bind (letGo_ok (wpAny_pure ⟨_, rfl, wpAny_pure (hq _ _ (by
   rw [IsL.update (n := n) (items := vs.toArray) hl, splice_arr]) (Heap.SameBut.update ..))⟩) _ _)) (by have hq : lim <= sizeLine := (by decide); simp; lia) (by rw [splice_arr]; exact splice_size hz)
end
section
variable {Z : Stat} {Kp : Addr -> Option Obj} {c : Cn} {hs : Hs} {s : Shared} {K : KE} {Q : Value -> Shared -> Prop} {A : Around} {E : Value -> Shared -> Prop} {tk : Nat}
theorem splice_map {α β : Type} (f : α -> β) (xs ys : List α) (lo hi : Option Int) : splice (xs.map f) lo hi (ys.map f) = (splice xs lo hi ys).map f := by
 unfold splice
 rw [List.length_map, List.map_append, List.map_append, List.map_take, List.map_drop]
theorem splice_ints (Z : Stat) (c : Cn) {xs ys : List Int} {vs ws : List Value} (h : IntsAre vs xs) (h' : IntsAre ws ys) (lo hi : Option Int) : IntsAre (splice vs lo hi ws) (splice xs lo hi ys) := by
 refine (ints_iff (Z := Z) (c := c)).mpr ?_
 rw [<- splice_map]
 have a := (ints_iff (Z := Z) (c := c)).mp h
 unfold splice
 rw [<- (show (xs.map D.int).length = vs.length from RepDs.length a)]
 exact ((a.take _).append ((ints_iff (Z := Z) (c := c)).mp h')).append (a.drop _)
theorem setSliceV_ok {Ku : Hs -> Prop} {Qu : Unit -> Shared -> Prop} (P : PostU Z Kp c Ku Qu) (C : Core Z Kp c hs s) {a u : V} {lo hi : Option V} {va vl vh vu : Value} {sl : Addr} (Ra : RepV Z c a va) (Rl : RepO Z c lo vl) (Rh : RepO Z c hi vh) (Ru : RepV Z c u vu) (hsl : s.heap.IsSliceOf sl vl vh .none)
  (h : setSliceV a lo hi u hs Ku) : wpAny (model Z.P Z.w) A (setItem va (.ref sl) vu) Qu E s := by
 obtain ⟨n, ea, h⟩ := optP_iff h
 obtain ⟨l, el, h⟩ := optP_iff h
 obtain ⟨k, ek, h⟩ := optP_iff h
 obtain ⟨xs, ex, h⟩ := optP_iff h
 obtain ⟨ys, ey, h⟩ := optP_iff h
 rw [V.loc_eq ea] at Ra
 obtain ⟨ad, e1, rfl⟩ := Ra
 obtain ⟨_, vs, ep, e2, as⟩ := C.locAt e1 (by rw [D.ints_eq ex]; rfl)
 rw [D.ints_eq ex] at as
 obtain ⟨b, ws, m, rfl, hb, as2⟩ := view_list C Ru (D.ints_eq ey) rfl
 rw [IntsAre.length' as, IntsAre.length' as2] at h
 exact setSlice_at e2 hb hsl (partV_ok el Rl) (partV_ok ek Rh) h.1 fun h' k' e' hs' => P _ _ _ (.refl c) (C.setL (x := .ints _) (tk := s.toks) e1 (fun b o hb e => hs'.extBut b o hb e) e' (.mk _ _ rfl (splice_ints Z c as as2 l k))) h.2
end
structure ClsOK (Z : Stat) (K : Frag) : Prop where
 inK : ∀ a o, K.lookup a = some o -> Z.G₀ a = some o
 get : findIn K (.ref Z.ca) "__getattribute__" = some (some (.builtin "object.__getattribute__"))
 noget : findIn K (.ref Z.ca) "__getattr__" = some none
 set : findIn K (.ref Z.ca) "__setattr__" = some (some (.builtin "object.__setattr__"))
 plain : plainOver K Z.ca = true
 hasDict : hasDictIn K Z.ca = true
 makes : makesIn K Z.ca = true
 keep : keepIn K (.ref Z.ca) = true
 own : ∀ x, sMem x fldNames = true -> findIn K (.ref Z.ca) x = some none
 meth : ∀ x m y, clsD Z.X x = some (.fn m y) -> ∃ f, Z.fa true y = some f /\ findIn K (.ref Z.ca) x = some (some (.ref f)) /\ typeIn K (.ref f) = some (.type "function") /\
  specialIn K (.ref f) "__get__" = some (some (.builtin "function.__get__")) /\ takesIn K (.ref f) = some false /\ copiedNames.contains x = false
 con : ∀ x d, clsD Z.X x = some d -> (∀ m y, d ≠ .fn m y) -> ∃ v, findIn K (.ref Z.ca) x = some (some v) /\ RepD Z ⟨Z.G₀, [], none⟩ d v /\ specialIn K v "__get__" = some none /\ handedIn v = true /\ copiedNames.contains x = false
section
variable {Z : Stat} {Kp : Addr -> Option Obj} {c : Cn} {hs : Hs} {s : Shared} {K : KE} {Q : Value -> Shared -> Prop} {A : Around} {E : Value -> Shared -> Prop} {tk : Nat} {F : Frag}
theorem ClsOK.here (B : ClsOK Z F) (C : Core Z Kp c hs s) : F.In s.heap := fun a o e => C.sub _ _ (C.base _ _ (B.inK a o e))
theorem Core.baseLe (C : Core Z Kp c hs s) : Cn.le ⟨Z.G₀, [], none⟩ c := ⟨C.base, fun n a h => by simp at h, fun _ h => nomatch h⟩
theorem isStr_sEq (x y : Str) (t : Tok) : (Value.str y t).isStr x = sEq x y := by
 show (y == x) = sEq x y
 rw [<- sEq_beq]
 cases h : sEq x y with
 | true => rw [sEq_iff.mp h]; exact sEq_iff.mpr rfl
 | false =>
  cases h2 : sEq y x with
  | true => rw [sEq_iff.mp h2, sEq_iff.mpr rfl] at h; cases h
  | false => rfl
inductive FE (Z : Stat) (c : Cn) : Option V -> Option DictEntry -> Prop
 | none : FE Z c none none
 | some {u : V} {e : DictEntry} : RepV Z c u e.val -> FE Z c (some u) (some e)
theorem FldEnts.fe {es : List DictEntry} {f : Loc} (h : FldEnts Z c es f) (x : Str) : FE Z c (sLook x f) (es.find? (·.key.isStr x)) := by
 induction h with
 | nil => exact .none
 | @cons e es y t u f ek R r ih =>
  have e1 : e.key.isStr x = sEq x y := by rw [ek]; exact isStr_sEq ..
  show FE Z c (if sEq x y = true then some u else sLook x f) _
  rw [List.find?_cons, e1]
  cases sEq x y with
  | true => exact .some R
  | false => exact ih
theorem FldEnts.refs {es : List DictEntry} {f : Loc} (h : FldEnts Z c es f) : es.any (·.refKey) = false := by
 induction h with
 | nil => rfl
 | @cons e es y t u f ek R r ih =>
  rw [List.any_cons, ih, Bool.or_false]
  unfold DictEntry.refKey
  rw [ek]
theorem FldEnts.find {es : List DictEntry} {f : Loc} (h : FldEnts Z c es f) (x : Str) : (∀ u, sLook x f = some u -> ∃ v, getL x es = some (some v) /\ RepV Z c u v) /\ (sLook x f = none -> getL x es = some none) := by
 have fe := h.fe x
 unfold getL
 rw [h.refs]
 revert fe
 generalize sLook x f = a
 generalize es.find? (·.key.isStr x) = b
 intro fe
 cases fe with
 | none => exact ⟨fun u h => (nomatch h), fun _ => rfl⟩
 | @some u e R => exact ⟨fun u h => ⟨e.val, rfl, some_eq h ▸ R⟩, fun h => nomatch h⟩
theorem FldEnts.put {es : List DictEntry} {f : Loc} (h : FldEnts Z c es f) (x : Str) (hsh : Int) (t : Tok) {u : V} {v : Value} (R : RepV Z c u v) : FldEnts Z c (W.putL x hsh (.str x t) v es) (putL x u f) := by
 induction h with
 | nil => exact .cons rfl R .nil
 | @cons e es y t' u' f ek R' r ih =>
  have e1 : e.key.isStr x = sEq x y := by rw [ek]; exact isStr_sEq ..
  show FldEnts Z c (if e.key.isStr x = true then _ else _) (if sEq x y = true then _ else _)
  rw [e1]
  cases hq : sEq x y with
  | true =>
   cases sEq_iff.mp hq
   exact .cons ek R r
  | false => exact .cons ek R' ih
theorem FldEnts.length {es : List DictEntry} {f : Loc} (h : FldEnts Z c es f) : es.length = f.length := by
 induction h with
 | nil => rfl
 | cons _ _ _ ih => exact congrArg Nat.succ ih
inductive InstIs (Z : Stat) (c : Cn) (h : Heap) (q d : Addr) (f : Loc) : Prop
 | mk (es : List DictEntry) (n : Nat) (sl : Array (Option Value)) (I : InstAt h q ⟨.ref Z.ca, some d, .plain, sl⟩ Z.ca (some (dictOf es n))) (e : h.get? d = some (dictOf es n)) (fe : FldEnts Z c es f) : InstIs Z c h q d f
theorem Core.instAt (C : Core Z Kp c hs s) {q d : Addr} {f : Loc} (hm : c.mx = some (q, d)) (hf : hs.mp = some f) : InstIs Z c s.heap q d f := by
 obtain ⟨sl, e⟩ := C.inst q d hm
 obtain ⟨o, e1, es, n, rfl, fe⟩ := C.atM (d, isFld Z c f) (by rw [hm, hf]; exact List.mem_append_right _ (.head _))
 exact ⟨es, n, sl, ⟨C.sub _ _ e, rfl, rfl, e1⟩, e1, fe⟩
theorem handed_rep {x : D} {v : Value} (h : RepD Z c x v) : handedIn v = true \/ ∃ b, x = .bi b := by
 cases x with
 | bi b => exact .inr ⟨b, rfl⟩
 | none => exact .inl (congrArg handedIn h)
 | bool _ => exact .inl (congrArg handedIn h)
 | int _ => exact .inl (let ⟨_, e⟩ := h; congrArg handedIn e)
 | str _ => exact .inl (let ⟨_, e⟩ := h; congrArg handedIn e)
 | cls => exact .inl (congrArg handedIn h)
 | fn _ _ => exact .inl (let ⟨_, e, _⟩ := h; congrArg handedIn e)
 | meth _ => exact .inl (let ⟨_, _, _, _, e, _, _, _⟩ := h; congrArg handedIn e)
 | mpu => exact .inl (let ⟨_, _, e, _⟩ := h; congrArg handedIn e)
 | rng _ => exact .inl (let ⟨_, _, _, _, e, _⟩ := h; congrArg handedIn e)
 | arg _ => exact .inl (let ⟨_, _, _, _, e, _, _, _, _⟩ := h; congrArg handedIn e)
 | dict _ _ => exact h.elim
 | sdict _ => exact .inl (let ⟨_, _, _, e, _, _, _⟩ := h; congrArg handedIn e)
 | _ => exact .inl (let ⟨_, _, _, e, _, _⟩ := h; congrArg handedIn e)
theorem handed_bi (b : Bi) : handedIn (biV b) = true := by cases b <;> first | rfl | decide +kernel
theorem handed_all {x : V} {v : Value} (h : RepV Z c x v) : handedIn v = true := by
 cases x with
 | d x =>
  rcases handed_rep h with e | ⟨b, rfl⟩
  ·exact e
  ·rw [show v = biV b from h]; exact handed_bi b
 | loc n => obtain ⟨a, _, rfl⟩ := h; rfl
theorem getMeth_ok (B : ClsOK Z F) (P : Post Z Kp c K Q) (C : Core Z Kp c hs s) {q d : Addr} {es : List DictEntry} {n : Nat} {sl : Array (Option Value)} {x y : Str} {m expr : Bool} (hm : c.mx = some (q, d)) (I : InstAt s.heap q ⟨.ref Z.ca, some d, .plain, sl⟩ Z.ca (some (dictOf es n))) (hl : getL x es = some none)
  (hy : clsD Z.X x = some (.fn m y)) (h : K (.d (.meth y)) hs) : wpAny (model Z.P Z.w) A (getAttr (.ref q) x expr) Q E s := by
 have X := B.here C
 obtain ⟨f, hf, h1, h2, h3, h4, h5⟩ := B.meth x m y hy
 obtain ⟨cd, hc', hd⟩ := any_some B.hasDict
 have ho : W.ownOf cd (some (dictOf es n)) x = some none := by unfold W.ownOf; rw [if_pos hd]; exact hl
 have fo : findObj F Z.ca (some (dictOf es n)) x = some (.bind (.builtin "function.__get__") (.ref f)) := by
  unfold findObj
  rw [hc', Option.bind_some, h1, Option.bind_some]
  dsimp only
  rw [h3, Option.bind_some]
  dsimp only
  rw [h4, Option.bind_some]
  dsimp only
  rw [ho, h5]
  rfl
 have e2 : (s.heap.push (methodObj (.ref f) (.ref q))).get? s.heap.objs.size = some (methodObj (.ref f) (.ref q)) := Heap.get?_push_size _ rfl
 obtain ⟨C', l⟩ := C.newG (tk := s.toks + 1) (fun b o e => Heap.get?_push_of_some _ e) (fresh_size _) e2
 exact get_bind X I B.get fo B.noget (wpAny_call (fn_get (s := { s with toks := s.toks + 1 }) X h2 (handed_on rfl (P _ (.d (.meth y)) _ _ _ l C' ⟨_, f, q, d, rfl, hf, hm, Cn.addG_get _ _ _⟩ h))))
theorem getAttrV_ok (B : ClsOK Z F) (P : Post Z Kp c K Q) (C : Core Z Kp c hs s) {o : V} {vo : Value} {x : Str} {expr : Bool} (Ro : RepV Z c o vo) (h : getAttrV Z.X o x hs K) : wpAny (model Z.P Z.w) A (getAttr vo x expr) Q E s := by
 obtain ⟨eo, h⟩ := need_iff h
 obtain ⟨f, hf, h⟩ := optP_iff h
 rw [V.isMpu_eq eo] at Ro
 obtain ⟨q, d, rfl, hm⟩ := Ro
 obtain ⟨es, n, sl, I, e1, fe⟩ := C.instAt hm hf
 rcases orP_iff2 h with ⟨u, hu, h⟩ | ⟨hu, h⟩
 ·obtain ⟨hx, h⟩ := need_iff h
  obtain ⟨v, hv, R⟩ := (fe.find x).1 u hu
  exact get_value (B.here C) I B.get (findObj_own B.hasDict (B.own x hx) rfl hv) (handed_all R) (P.now (C.toks (tk := s.toks + 1)) R h)
 ·have hl := (fe.find x).2 hu
  obtain ⟨dd, hdd, h⟩ := optP_iff h
  rcases boundD_cases dd with ⟨m, y, rfl⟩ | ⟨hne, e⟩
  ·exact getMeth_ok B P C hm I hl hdd h
  ·obtain ⟨v, h1, R, h3, h4, h5⟩ := B.con x dd hdd hne
   rw [e] at h
   exact get_value (B.here C) I B.get (findObj_cls B.hasDict h1 h3 h4 h5 hl) h4 (P.now (V := .d dd) (C.toks (tk := s.toks + 1)) (RepD.mono C.baseLe _ _ R) h)
theorem putL_len (x : Str) (hsh : Int) (k v : Value) : ∀ es : List DictEntry, (W.putL x hsh k v es).length <= es.length + 1
 | [] => Nat.le_refl _
 | e :: r => by
  show (if e.key.isStr x = true then _ else _ : List DictEntry).length <= _
  split
  ·exact Nat.le_succ _
  ·exact Nat.succ_le_succ (putL_len x hsh k v r)
theorem getL_any {es : List DictEntry} {x : Str} (hl : (getL x es).isSome = true) : (!es.any (·.key.isStr x) && es.any (·.refKey)) = false := by
 unfold getL at hl
 cases he : es.find? (·.key.isStr x) with
 | some en => rw [List.any_eq_true.mpr ⟨en, List.mem_of_find?_eq_some he, List.find?_some he⟩]; rfl
 | none =>
  rw [he] at hl
  cases hr : es.any (·.refKey) with
  | false => exact Bool.and_false _
  | true => rw [hr] at hl; exact nomatch hl
theorem setattr_at {Qu : Unit -> Shared -> Prop} {q d : Addr} {ox : Obj} {es : List DictEntry} {n : Nat} {x : Str} {v : Value} (B : ClsOK Z F) (X : F.In s.heap) (I : InstAt s.heap q ox Z.ca (some (dictOf es n))) (hd : ox.dict = some d) (D : s.heap.get? d = some (dictOf es n))
  (hx : sMem x fldNames = true) (hl : (getL x es).isSome = true) (hz : es.length <= 500)
  (h : ∀ h', h'.get? d = some (dictOf (W.putL x (PyData.keyHash Z.w.params x) (.str x (s.toks + 1)) v es) (putN x es n)) -> Heap.SameBut d s.heap h' -> Qu () { s with heap := h', toks := s.toks + 2 }) :
  wpAny (model Z.P Z.w) A (setAttr (.ref q) x v) Qu E s := by
 have ht : takerIn F Z.ca x = some none := by unfold takerIn; rw [B.own x hx]; rfl
 refine set_plain X I B.set (osa_open (s := { s with toks := s.toks + 1 }) X I B.plain ht fun b => ?_)
 obtain ⟨cd, hc, hd'⟩ := any_some B.hasDict
 obtain ⟨hxx, hcl, hn, -⟩ := I
 obtain ⟨oc, odi, oda, osl⟩ := ox
 dsimp only at hcl hd
 subst hcl hd
 have put : Obj.putName x (PyData.keyHash Z.w.params x) (.str x (s.toks + 1)) v (dictOf es n) = dictOf (W.putL x (PyData.keyHash Z.w.params x) (.str x (s.toks + 1)) v es) (putN x es n) := putName_dict ..
 have D' : (s.heap.update d (Obj.putName x (PyData.keyHash Z.w.params x) (.str x (s.toks + 1)) v)).get? d = some (dictOf (W.putL x (PyData.keyHash Z.w.params x) (.str x (s.toks + 1)) v es) (putN x es n)) := by
  rw [Heap.get?_update_self _ D (by rw [put]; rfl), put]
 refine wpAny_bind (wpAny_pure (wpAny_bind (wpAny_bind (wpAny_loadPart hxx (wpAny_bind (looks_clsIn X hc _ _ _ _ (fun _ _ e => e) ?_))))))
 rw [hd']
 refine wpAny_pure (a := some d) (wpAny_bind (wpAny_pure (wpAny_bind ?_)))
 unfold nsSet
 refine wpAny_bind (wpAny_bind (wpAny_askSetting (wpAny_pure (wpAny_bind (wpAny_mkText (wpAny_bind (wpAny_loadPart D ?_)))))))
 refine wpF (by rw [aRefKeyMayBeTheName_at, List.any_toArray, List.any_toArray]; exact getL_any hl) ?_
 refine wpAny_updatePart D ?_
 refine wpAny_bind (wpAny_lookBehind D' (pastItsLine_dict (by
  have : (W.putL x (PyData.keyHash Z.w.params x) (.str x (s.toks + 1)) v es).length <= es.length + 1 := putL_len _ _ _ _ _
  rw [List.size_toArray, sizeLine_eq]; lia)) ?_)
 exact wpAny_pure (h _ D' (Heap.SameBut.update ..))
theorem setAttrV_ok {Ku : Hs -> Prop} {Qu : Unit -> Shared -> Prop} (B : ClsOK Z F) (P : PostU Z Kp c Ku Qu) (C : Core Z Kp c hs s) {o u : V} {vo vu : Value} {x : Str} (Ro : RepV Z c o vo) (Ru : RepV Z c u vu) (h : setAttrV o x u hs Ku) :
  wpAny (model Z.P Z.w) A (setAttr vo x vu) Qu E s := by
 obtain ⟨eo, h⟩ := need_iff h
 obtain ⟨f, hf, h⟩ := optP_iff h
 obtain ⟨hx, h⟩ := need_iff h
 obtain ⟨hx, hn⟩ := and_t hx
 rw [V.isMpu_eq eo] at Ro
 obtain ⟨q, d, rfl, hm⟩ := Ro
 obtain ⟨es, n, sl, I, e1, fe⟩ := C.instAt hm hf
 have hl : (getL x es).isSome = true := by
  cases hu : sLook x f with
  | some u' => obtain ⟨v, hv, _⟩ := (fe.find x).1 u' hu; rw [hv]; rfl
  | none => rw [(fe.find x).2 hu]; rfl
 exact setattr_at B (B.here C) I rfl e1 hx hl (fe.length ▸ Nat.le_trans (Nat.le_of_ble_eq_true hn) (by decide)) fun h' e' hs' =>
  P _ _ _ (.refl c) (C.setM hm hf (fun b o hb e => hs'.extBut b o hb e) e' ⟨_, _, rfl, fe.put x _ _ Ru⟩) h
theorem isMeth_ok (B : ClsOK Z F) (C : Core Z Kp c hs s) {vo : Value} {x y : Str} {f : Loc} {pl : Sem Bool} {Qm : Value × List Value -> Shared -> Prop} (Ro : RepV Z c (.d .mpu) vo) (hf : hs.mp = some f) (h : isMeth Z.X x f = some y)
  (hq : ∀ a, Z.fa true y = some a -> Qm (.ref a, [vo]) s) : wpAny (model Z.P Z.w) A (getMethod vo x pl) Qm E s := by
 obtain ⟨q, d, rfl, hm⟩ := Ro
 obtain ⟨hu, h⟩ := noB_iff h
 obtain ⟨dd, hd, h⟩ := optB_iff h
 obtain ⟨m, rfl⟩ := D.fn_eq h
 obtain ⟨es, n, sl, I, e1, fe⟩ := C.instAt hm hf
 obtain ⟨a, ha, h1, h2, h3, h4, h5⟩ := B.meth x m y hd
 have hl := (fe.find x).2 (none_of_isSome hu)
 exact method_fn (B.here C) I B.get B.noget h1 h2 (by show (lookIn x (dictOf es n)).map _ = _; rw [lookIn_dict, hl]; rfl) (hq a ha)
theorem lenV_ok (P : Post Z Kp c K Q) (C : Core Z Kp c hs s) {v : V} {w : Value} {n : Nat} (R : RepV Z c v w) (hn : lenD (deref hs v) = some n) (hz : n < 2 ^ 62) (h : K (.d (.int n)) hs) : wpAny (model Z.P Z.w) A (call (.builtin "len") [w]) Q E s := by
 have d := fun x => view_d C R (x := x)
 have l := fun x => view_list C R (x := x)
 revert hn d l
 generalize deref hs v = x
 intro hn d l
 have hl : ∀ {vs : List Value}, n = vs.length -> (vs.toArray.size : Int) < 2 ^ 63 := fun {vs} e => by show (vs.length : Int) < 2 ^ 63; lia
 have list : SeqAt s.heap (fun vs => n = vs.length) w -> wpAny (model Z.P Z.w) A (call (.builtin "len") [w]) Q E s := fun V => by
  obtain ⟨a, vs, k, rfl, g, e⟩ := V
  exact PyProof.Rows.len_list (items := vs.toArray) ⟨_, g, rfl, k, rfl⟩ (hl e) (P.int C (by cases e; exact h))
 cases x with
 | tup xs =>
  obtain ⟨a, vs, k, rfl, g, as⟩ := d _ rfl rfl
  have e : n = vs.length := (some_eq hn).symm.trans as.length
  exact PyProof.Rows.len_tuple (items := vs.toArray) ⟨_, C.sub _ _ g, rfl, k, rfl⟩ (hl e) (P.int C (by cases e; exact h))
 | list xs => exact list (let ⟨a, vs, k, e, g, as⟩ := l _ rfl rfl; ⟨a, vs, k, e, g, (some_eq hn).symm.trans (RepDs.length as)⟩)
 | «ints» xs => exact list (let ⟨a, vs, k, e, g, as⟩ := l _ rfl rfl; ⟨a, vs, k, e, g, (some_eq hn).symm.trans (IntsAre.length' as)⟩)
 | _ => exact none_some hn
theorem sumV_ok (P : Post Z Kp c K Q) (C : Core Z Kp c hs s) {xs : List Int} {w : Value} (R : SeqAt s.heap (fun vs => IntsAre vs xs) w) (hh : A.handled = none) (h : K (.d (.int xs.sum)) hs) : wpAny (model Z.P Z.w) A (call (.builtin "sum") [w]) Q E s := by
 obtain ⟨a, vs, n, rfl, hl, as⟩ := R
 have l : s.heap.IsList a vs.toArray := ⟨_, hl, rfl, n, rfl⟩
 have len : xs.length = vs.length := IntsAre.length' as
 refine call_sum_walkG (wpAny_pyIter_list l ?_)
 have hlt := Heap.lt_size hl
 refine ⟨_, _, _, _, _, _, fun i => xs.getD i 0, rfl, Walks.list (A := A.in1) hh s.heap.objs.size a (Nat.ne_of_lt hlt) vs.toArray, ⟨⟨_, Heap.get?_push_size _ rfl, rfl, rfl⟩, ⟨_, Heap.get?_push_of_some _ hl, rfl, n, rfl⟩⟩, fun b hb => ?_, fun i v hv => ?_, fun h' tk t' hk => ?_⟩
 ·show b < (s.heap.push _).objs.size
  rw [Heap.size_push]
  rcases List.mem_cons.mp hb with e | hb
  ·rw [e]; exact Nat.lt_succ_self _
  ·rw [List.mem_singleton.mp hb]; exact Nat.lt_succ_of_lt hlt
 ·have e' : vs[i]? = some v := (List.getElem?_toArray ..).symm.trans hv
  obtain ⟨t, e⟩ := ints_get as i (len ▸ (List.getElem?_eq_some_iff.mp e').1)
  exact ⟨t, some_eq (e'.symm.trans e)⟩
 ·have e : preSum (fun i => xs.getD i 0) vs.toArray.size = xs.sum := by
   rw [PyProof.Rows.preSum_getD, show vs.toArray.size = xs.length from len.symm, List.take_length]
  rw [e]
  refine P.now (V := .d (.int xs.sum)) (C.keepTo fun b o e => hk b o ?_ (Heap.get?_push_of_some _ e)) ⟨_, rfl⟩ h
  have := Heap.lt_size e
  exact fun q => absurd (List.mem_singleton.mp q) (Nat.ne_of_lt this)
inductive PairAt (h : Heap) (p : Int × Int) (w : Value) : Prop
 | mk (a : Addr) (t u : Tok) (e : w = .ref a) (l : h.IsTuple a #[.int p.1 t, .int p.2 u]) : PairAt h p w
theorem pair_at (C : Core Z Kp c hs s) {v : V} {w : Value} {p : Int × Int} (R : RepV Z c v w) (e : pairI (deref hs v) = some p) : PairAt s.heap p w := by
 obtain ⟨l, e1, e⟩ := optB_iff e
 obtain ⟨a, vs, rfl, ht, as⟩ := tupI_at C R e1
 rw [pairL_eq e] at as
 cases ia_of as with
 | cons as => cases as with
  | cons as => cases as with
   | nil => exact ⟨a, _, _, rfl, ht⟩
theorem Core.kept (C : Core Z Kp c hs s) {h' : Heap} {o : Obj} (hk : ∀ b o', b ∉ [s.heap.objs.size] -> (s.heap.push o).get? b = some o' -> h'.get? b = some o') : Core Z Kp c hs { s with heap := h', toks := tk } :=
 C.keepTo fun b o e => hk b o (fun q => absurd (List.mem_singleton.mp q) (Nat.ne_of_lt (Heap.lt_size e))) (Heap.get?_push_of_some _ e)
theorem pair_fp {l : Addr} {h : Heap} {items : Array Value} (ht : h.IsTuple l items) (o : Obj) : ∀ b ∈ [h.objs.size, l], b < (h.push o).objs.size := fun b hb => by
 obtain ⟨o', ho, _⟩ := ht
 rw [Heap.size_push]
 rcases List.mem_cons.mp hb with rfl | hb
 ·exact Nat.lt_succ_self _
 ·rw [List.mem_singleton.mp hb]; exact Nat.lt_succ_of_lt (Heap.lt_size ho)
noncomputable def valP (p : Int × Int) : Nat -> Int
 | 0 => p.1
 | _ => p.2
theorem pair_val {p : Int × Int} {t u : Tok} (i : Nat) (v : Value) (h : #[Value.int p.1 t, .int p.2 u][i]? = some v) : ∃ t, v = .int (valP p i) t := by
 match i with
 | 0 => exact ⟨t, (some_eq h).symm⟩
 | 1 => exact ⟨u, (some_eq h).symm⟩
 | i + 2 => exact nomatch h
theorem pair_is {p : Int × Int} {t u : Tok} {b : Bool} {v : Value} (h : #[Value.int p.1 t, .int p.2 u][if b = true then 1 else 0]? = some v) : v = .int (if b = true then p.2 else p.1) (if b = true then u else t) := by cases b <;> exact (some_eq h).symm
theorem maxV_ok (P : Post Z Kp c K Q) (C : Core Z Kp c hs s) {p : Int × Int} {w : Value} (R : PairAt s.heap p w) (hh : A.handled = none) (h : K (.d (.int (if p.1 < p.2 then p.2 else p.1))) hs) : wpAny (model Z.P Z.w) A (call (.builtin "max") [w]) Q E s := by
 obtain ⟨l, t, u, rfl, ht⟩ := R
 have hne : l ≠ s.heap.objs.size := Nat.ne_of_lt (by obtain ⟨o, e, _⟩ := ht; exact Heap.lt_size e)
 refine call_max_walk (wpAny_pyIter_tuple ht ?_)
 refine ⟨_, _, _, _, _, _, _, rfl, Walks.tuple (A := A.in1) hh _ l hne #[.int p.1 t, .int p.2 u], ⟨⟨_, Heap.get?_push_size _ rfl, rfl, rfl⟩, ht.at fun o e => Heap.get?_push_of_some _ e⟩, pair_fp ht _, Nat.zero_lt_succ 1, CmpOf.ints_gt (valP p) pair_val, fun v h' tk hP hk => ?_⟩
 cases pair_is (b := decide (p.1 < p.2)) hP
 refine P.now (V := .d (.int (if p.1 < p.2 then p.2 else p.1))) (C.kept hk) ⟨if decide (p.1 < p.2) = true then u else t, ?_⟩ h
 by_cases q : p.1 < p.2
 ·rw [if_pos q, decide_eq_true q]; rfl
 ·rw [if_neg q, decide_eq_false q]; rfl
theorem minV_ok (P : Post Z Kp c K Q) (C : Core Z Kp c hs s) {p : Int × Int} {w : Value} (R : PairAt s.heap p w) (hh : A.handled = none) (h : K (.d (.int (if p.2 < p.1 then p.2 else p.1))) hs) : wpAny (model Z.P Z.w) A (call (.builtin "min") [w]) Q E s := by
 obtain ⟨l, t, u, rfl, ht⟩ := R
 have hne : l ≠ s.heap.objs.size := Nat.ne_of_lt (by obtain ⟨o, e, _⟩ := ht; exact Heap.lt_size e)
 refine call_min_walk (wpAny_pyIter_tuple ht ?_)
 refine ⟨_, _, _, _, _, _, _, rfl, Walks.tuple (A := A.in1) hh _ l hne #[.int p.1 t, .int p.2 u], ⟨⟨_, Heap.get?_push_size _ rfl, rfl, rfl⟩, ht.at fun o e => Heap.get?_push_of_some _ e⟩, pair_fp ht _, Nat.zero_lt_succ 1, CmpOf.ints_lt (valP p) pair_val, fun v h' tk hP hk => ?_⟩
 cases pair_is (b := decide (p.2 < p.1)) hP
 refine P.now (V := .d (.int (if p.2 < p.1 then p.2 else p.1))) (C.kept hk) ⟨if decide (p.2 < p.1) = true then u else t, ?_⟩ h
 by_cases q : p.2 < p.1
 ·rw [if_pos q, decide_eq_true q]; rfl
 ·rw [if_neg q, decide_eq_false q]; rfl
theorem sumP_ok (P : Post Z Kp c K Q) (C : Core Z Kp c hs s) {p : Int × Int} {w : Value} (R : PairAt s.heap p w) (hh : A.handled = none) (h : K (.d (.int (p.1 + p.2))) hs) : wpAny (model Z.P Z.w) A (call (.builtin "sum") [w]) Q E s := by
 obtain ⟨l, t, u, rfl, ht⟩ := R
 have e1 : intItems #[(p.1, t), (p.2, u)] = #[.int p.1 t, .int p.2 u] := by simp [intItems]
 have e2 : preSum (numAt #[(p.1, t), (p.2, u)]) 2 = p.1 + p.2 := by simp [preSum, numAt]
 refine ktm_sumG (xs := #[(p.1, t), (p.2, u)]) hh (e1 ▸ ht) fun h' tk t' hk => ?_
 exact P.now (V := .d (.int (p.1 + p.2))) (C.keepTo hk) ⟨t', congrArg (Value.int · t') e2⟩ h
theorem rangeV_ok (P : Post Z Kp c K Q) (C : Core Z Kp c hs s) {n : Int} {t : Tok} (h : K (.d (.rng n)) hs) : wpAny (model Z.P Z.w) A (call (.type "range") [.int n t]) Q E s := by
 refine call_range_1 ?_
 obtain ⟨C', l⟩ := C.newG (tk := s.toks + 1 + 1) (h' := s.heap.push { cls := .type "range", data := .fields #[.int 0 s.toks, .int n t, .int 1 (s.toks + 1)] }) (fun b o e => Heap.get?_push_of_some _ e) (fresh_size _) (Heap.get?_push_size _ rfl)
 exact P _ (.d (.rng n)) _ _ _ l C' ⟨_, _, _, _, rfl, Cn.addG_get _ _ _⟩ h
theorem biCall_ok (P : Post Z Kp c K Q) (C : Core Z Kp c hs s) {b : Bi} {vs : List V} {ws : List Value} (R : RepVs Z c vs ws) (hh : A.handled = none) (h : biCall b vs hs K) : wpAny (model Z.P Z.w) A (call (biV b) ws) Q E s := by
 obtain ⟨v, e, h⟩ := optP_iff h
 rw [one_eq e] at R
 obtain ⟨w, r, rfl, R1, rfl⟩ := R
 cases b with
 | len =>
  obtain ⟨n, hn, h⟩ := optP_iff h
  exact lenV_ok P C R1 hn h.1 h.2
 | sum =>
  rcases orP_iff h with ⟨p, hp, h⟩ | h
  ·exact sumP_ok P C (pair_at C R1 hp) hh h
  obtain ⟨xs, hx, h⟩ := optP_iff h
  exact sumV_ok P C (view_list C R1 (D.ints_eq hx) rfl) hh h.2
 | max =>
  obtain ⟨p, hp, h⟩ := optP_iff h
  exact maxV_ok P C (pair_at C R1 hp) hh h
 | min =>
  obtain ⟨p, hp, h⟩ := optP_iff h
  exact minV_ok P C (pair_at C R1 hp) hh h
 | range =>
  obtain ⟨n, hx, h⟩ := optP_iff h
  rw [V.int_eq hx] at R1
  obtain ⟨t, rfl⟩ := R1
  exact rangeV_ok P C h.2
 | _ => exact False.elim h
end
inductive GlobA (h : Heap) (x : Str) (v : Value) : Prop
 | mk (gm : Str -> Option Value) (h1 : h.Ns mainGlobals gm) (h2 : gm x = some v) : GlobA h x v
inductive GlobB (h : Heap) (x : Str) (v : Value) : Prop
 | mk (gm bm : Str -> Option Value) (h1 : h.Ns mainGlobals gm) (h2 : gm x = none) (h3 : h.Ns builtinsNs bm) (h4 : bm x = some v) : GlobB h x v
noncomputable def GlobIs (h : Heap) (x : Str) (v : Value) : Prop := GlobA h x v \/ GlobB h x v
structure BaseOK (Z : Stat) (F : Frag) : Prop where
 cls : ClsOK Z F
 glob : ∀ x d, glob Z.X x = some d -> ∃ v, RepD Z ⟨Z.G₀, [], none⟩ d v /\ ∀ h, Sub Z.G₀ h -> GlobIs h x v
 nolim : ∀ h, Sub Z.G₀ h -> h.NoLimit
 fns : ∀ m x a, Z.fa m x = some a -> ∃ o fd, Z.G₀ a = some o /\ o.data = .func fd
structure EnvOK (env : Env) (sc : Names) : Prop where
 names : env.scope.names = sc
 kind : env.scope.kind = .function
 glob : env.globals = mainGlobals
 blt : env.builtins = builtinsNs
 nodebug : sLook "__debug__" sc = none
 cells : ∀ x, (env.kindOf x = some .cell \/ env.kindOf x = some .free) -> (env.cells.lookup x).isSome = true
inductive NsIn (Z : Stat) (Kp : Addr -> Option Obj) (c : Cn) (env : Env) (loc : Loc) : Prop
 | mk (o : Obj) (es : Array DictEntry) (ep : Nat) (h1 : Kp env.locals = some o) (h2 : o.data = .dict es ep) (h3 : StrKeys es) (h4 : ∀ x V, sLook x loc = some V -> env.kindOf x = some .local -> ∃ v, nsFind es x = some v /\ RepV Z c V v) : NsIn Z Kp c env loc
inductive CellIn (Z : Stat) (Kp : Addr -> Option Obj) (c : Cn) (env : Env) (x : Str) (V : V) : Prop
 | mk (a : Addr) (v : Value) (o : Obj) (h1 : env.cells.lookup x = some a) (h2 : Kp a = some o) (h3 : o.data = .cell (some v)) (h4 : RepV Z c V v) : CellIn Z Kp c env x V
structure FrameIn (Z : Stat) (Kp : Addr -> Option Obj) (c : Cn) (env : Env) (loc : Loc) : Prop where
 ns : NsIn Z Kp c env loc
 cell : ∀ x V, sLook x loc = some V -> (env.kindOf x = some .cell \/ env.kindOf x = some .free) -> CellIn Z Kp c env x V
theorem FrameIn.mono {Z : Stat} {Kp : Addr -> Option Obj} {c c' : Cn} {env : Env} {loc : Loc} (l : c.le c') (h : FrameIn Z Kp c env loc) : FrameIn Z Kp c' env loc := by
 obtain ⟨⟨o, es, ep, h1, h2, h3, h4⟩, h5⟩ := h
 refine ⟨⟨o, es, ep, h1, h2, h3, fun x V e k => ?_⟩, fun x V e k => ?_⟩
 ·obtain ⟨v, a, b⟩ := h4 x V e k
  exact ⟨v, a, b.mono l⟩
 ·obtain ⟨a, v, o, h1, h2, h3, h4⟩ := h5 x V e k
  exact ⟨a, v, o, h1, h2, h3, h4.mono l⟩
structure AOK (d : Nat) (A : Around) : Prop where
 handled : A.handled = none
 depth : A.depth + 4 * d + 4 < recursionLimit
 units : A.units + 40 * d + 40 < cLine
theorem AOK.hu {d : Nat} {A : Around} (h : AOK d A) : A.units < cLine := Nat.lt_of_le_of_lt (Nat.le_trans (Nat.le_add_right _ _) (Nat.le_add_right _ _)) h.units
noncomputable def SE (Z : Stat) (d : Nat) (rec : RecE) : Prop :=
 ∀ (env : Env) (sc : Names) (m : Bool) (e : Expr) (loc : Loc) (hs : Hs) (K : KE) (Kp : Addr -> Option Obj) (c : Cn) (s : Shared) (A : Around) (Q : Value -> Shared -> Prop) (E : Value -> Shared -> Prop),
  EnvOK env sc -> AOK d A -> FrameIn Z Kp c env loc -> Core Z Kp c hs s -> rec sc m e loc hs K -> Post Z Kp c K Q -> wpAny (model Z.P Z.w) A (eval e env) Q E s
noncomputable def PostB (Z : Stat) (Kp : Addr -> Option Obj) (c : Cn) (K : Bool -> Hs -> Prop) (Q : Bool -> Shared -> Prop) : Prop :=
 ∀ (c' : Cn) (b : Bool) (hs' : Hs) (s' : Shared), c.le c' -> Core Z Kp c' hs' s' -> K b hs' -> Q b s'
noncomputable def ST (Z : Stat) (d : Nat) (rec : RecE) : Prop :=
 ∀ (env : Env) (sc : Names) (e : Expr) (loc : Loc) (hs : Hs) (K : KE) (KB : Bool -> Hs -> Prop) (Kp : Addr -> Option Obj) (c : Cn) (s : Shared) (A : Around) (Q : Bool -> Shared -> Prop) (E : Value -> Shared -> Prop),
  EnvOK env sc -> AOK d A -> FrameIn Z Kp c env loc -> Core Z Kp c hs s -> rec sc false e loc hs K -> (∀ v hs, K v hs -> truthV v hs fun b => KB b hs) -> PostB Z Kp c KB Q -> wpAny (model Z.P Z.w) A (isTrue e env (eval e env)) Q E s
set_option backward.match.sparseCases true in
noncomputable def SC (Z : Stat) (d : Nat) (call : CallR) : Prop :=
 ∀ (m isM : Bool) (name : Str) (vs : List V) (hs : Hs) (K : KE) (Kp : Addr -> Option Obj) (c : Cn) (s : Shared) (A : Around) (Q : Value -> Shared -> Prop) (E : Value -> Shared -> Prop) (ws : List Value) (a : Addr),
  AOK d A -> Core Z Kp c hs s -> RepVs Z c vs ws -> Z.fa isM name = some a -> call m isM name vs hs K -> Post Z Kp c K Q -> codeAny (model Z.P Z.w) A (.call (.ref a) ⟨ws, []⟩) (fun r s' => match r with | .ok (.ret v) => Q v s' | .ok _ => False | .error e => E e s') s
noncomputable def SN (Z : Stat) (d : Nat) (call : CallR) : Prop :=
 ∀ (f : V) (ns : List Str) (vs : List V) (hs : Hs) (K : KE) (Kp : Addr -> Option Obj) (c : Cn) (s : Shared) (A : Around) (Q : Value -> Shared -> Prop) (E : Value -> Shared -> Prop) (ws : List Value) (v : Value),
  AOK d A -> Core Z Kp c hs s -> RepV Z c f v -> RepVs Z c vs ws -> newV Z.X call f (some ns) vs hs K -> Post Z Kp c K Q -> wpAny (model Z.P Z.w) A (PySem.call v [] (ns.zip ws)) Q E s
section
variable {Z : Stat} {Kp : Addr -> Option Obj} {c : Cn} {hs : Hs} {s : Shared} {K : KE} {Q : Value -> Shared -> Prop} {A : Around} {E : Value -> Shared -> Prop} {tk : Nat} {F : Frag} {env : Env} {sc : Names} {loc : Loc} {d : Nat} {rec : RecE} {call : CallR}
theorem lookup_ne {x y : Str} {ns : Names} {k : NameKind} (h : ns.lookup x = some k) (h' : sLook y ns = none) : (x == y) = false := by
 cases q : x == y with
 | false => rfl
 | true =>
  rw [sLook_eq] at h'
  rw [beq_iff_eq.mp q, h'] at h
  cases h
theorem const_ok (P : Post Z Kp c K Q) (C : Core Z Kp c hs s) {k : Const} {dd : D} (h : constD k = some dd) (hk : K (.d dd) hs) : wpAny (model Z.P Z.w) A (constValue env k) Q E s := by
 cases k with
 | none => cases some_eq h; exact wpAny_pure (P.none C hk)
 | bool b => cases some_eq h; exact wpAny_pure (P.bool C hk)
 | int i => cases some_eq h; exact wpAny_mkInt (P.int C hk)
 | str x => cases some_eq h; exact wpAny_mkText (P.now (V := .d (.str _)) C.toks ⟨_, rfl⟩ hk)
 | _ => exact none_some h
theorem name_ok (B : BaseOK Z F) (O : EnvOK env sc) (FI : FrameIn Z Kp c env loc) (P : Post Z Kp c K Q) (C : Core Z Kp c hs s) {x : Str} {pos : Pos} (h : evName Z.X sc x loc hs K) : wpAny (model Z.P Z.w) A (eval (.Name x pos) env) Q E s := by
 obtain ⟨k, e, h⟩ := optP_iff h
 rw [sLook_eq] at e
 have hk : env.kindOf x = some k := by
  show env.scope.names.lookup x = some k
  rw [O.names]; exact e
 have hdb : (x == ("__debug__" : Str)) = false := lookup_ne e O.nodebug
 cases k with
 | globalImplicit =>
  obtain ⟨dd, hd, h⟩ := optP_iff h
  obtain ⟨v, R, hv⟩ := B.glob x dd hd
  have q : Q v s := P.now (V := .d dd) C (RepD.mono C.baseLe _ _ R) h
  refine Name_function_global O.kind hk ?_ hdb
  rcases hv s.heap (fun b o e => C.sub _ _ (C.base _ _ e)) with ⟨gm, h1, h2⟩ | ⟨gm, bm, h1, h2, h3, h4⟩
  ·exact loadGlobal_global (O.glob.symm ▸ h1) h2 q
  ·exact loadGlobal_builtin (O.glob.symm ▸ h1) h2 (O.blt.symm ▸ h3) h4 q
 | «local» =>
  obtain ⟨V, hV, h⟩ := optP_iff h
  obtain ⟨o, es, ep, h1, h2, h3, h4⟩ := FI.ns
  obtain ⟨v, e1, R⟩ := h4 x V hV hk
  exact wpAny_Name (wpAny_loadName_local O.kind hk ⟨o, es, ep, C.kp _ _ h1, h2, h3, fun n => rfl⟩ e1 (P.now C R h)) hdb
 | cell =>
  obtain ⟨V, hV, h⟩ := optP_iff h
  obtain ⟨a, v, o, h1, h2, h3, R⟩ := FI.cell x V hV (.inl hk)
  exact wpAny_Name (wpAny_loadName_cell O.kind hk h1 ⟨o, C.kp _ _ h2, h3⟩ (P.now C R h)) hdb
 | free =>
  obtain ⟨hcd, h⟩ := need_iff h
  obtain ⟨V, hV, h⟩ := optP_iff h
  obtain ⟨a, v, o, h1, h2, h3, R⟩ := FI.cell x V hV (.inr hk)
  exact wpAny_Name (wpAny_loadName_free O.kind hk h1 ⟨o, C.kp _ _ h2, h3⟩ (P.now C R h) ((sEq_beq _ _).symm.trans (not_t hcd))) hdb
 | _ => exact False.elim h
theorem SE.ev (S : SE Z d rec) (O : EnvOK env sc) (a : AOK d A) (FI : FrameIn Z Kp c env loc) (C : Core Z Kp c hs s) {m : Bool} {e : Expr} {Q : Value -> Shared -> Prop} (h : rec sc m e loc hs K)
  (k : ∀ c' V v hs' s', c.le c' -> Core Z Kp c' hs' s' -> FrameIn Z Kp c' env loc -> RepV Z c' V v -> K V hs' -> Q v s') : wpAny (model Z.P Z.w) A (eval e env) Q E s :=
 S env sc m e loc hs K Kp c s A Q E O a FI C h fun c' V v hs' s' l C' R kk => k c' V v hs' s' l C' (FI.mono l) R kk
theorem star_one {e : Expr} {es : List Expr} (h : noStar (e :: es) = true) : starEach (e :: es) env = (false, eval e env) :: starEach es env /\ noStar es = true := by
 obtain ⟨h1, h2⟩ := and_t h
 refine ⟨?_, h2⟩
 clear h h2
 cases e <;> first | rfl | exact absurd h1 Bool.false_ne_true
theorem evs_ok (S : SE Z d rec) (O : EnvOK env sc) (a : AOK d A) {pos : Pos} : ∀ {es : List Expr} {hs : Hs} {c : Cn} {s : Shared} {K : List V -> Hs -> Prop} {Q : List Value -> Shared -> Prop}, FrameIn Z Kp c env loc -> Core Z Kp c hs s ->
  noStar es = true -> evs (fun e => rec sc false e loc) es hs K ->
  (∀ c' Vs vs hs' s', c.le c' -> Core Z Kp c' hs' s' -> RepVs Z c' Vs vs -> Vs.length = es.length -> K Vs hs' -> Q vs s') -> wpAny (model Z.P Z.w) A (spliced (backTo pos (starEach es env))) Q E s := by
 intro L₀
 induction L₀ with
 | nil =>
  intro hs c s K Q FI C _ h k
  exact wpAny_items_nil (k c [] [] hs s (.refl c) C rfl rfl h)
 | cons e es ih =>
  intro hs c s K Q FI C ns h k
  have hst := star_one (env := env) ns
  refine wpAny_items_cons (S.ev O a FI C h fun c₁ V v hs₁ s₁ l C₁ F₁ R h₁ => ?_) hst.1
  refine ih F₁ C₁ hst.2 h₁ fun c₂ Vs vs hs₂ s₂ l₂ C₂ Rs len h₂ => ?_
  exact k c₂ (V :: Vs) (v :: vs) hs₂ s₂ (l.trans l₂) C₂ ⟨v, vs, rfl, R.mono l₂, Rs⟩ (congrArg Nat.succ len) h₂
theorem allSome_cons {α : Type} {o : Option α} {r : List (Option α)} {l : List α} (h : allSome (o :: r) = some l) : ∃ a l', o = some a /\ allSome r = some l' /\ l = a :: l' := by
 obtain ⟨a, e, h⟩ := optB_iff h
 obtain ⟨l', e', h⟩ := optB_iff h
 exact ⟨a, l', e, e', (some_eq h).symm⟩
theorem asDs_ok : ∀ {Vs : List V} {vs : List Value} {ds : List D}, RepVs Z c Vs vs -> asDs Vs = some ds -> RepDs Z c ds vs
 | [], vs, ds, h, e => some_eq e ▸ h
 | V :: Vs, vs, ds, h, e => by
  obtain ⟨v, r, rfl, h1, h2⟩ := h
  obtain ⟨d, l, e1, e2, rfl⟩ := allSome_cons (show allSome (asD V :: Vs.map asD) = some ds from e)
  cases V with
  | loc n => exact none_some e1
  | d x => exact ⟨v, r, rfl, some_eq e1 ▸ h1, asDs_ok h2 e2⟩
theorem RepVs.length : ∀ {Vs : List V} {vs : List Value}, RepVs Z c Vs vs -> Vs.length = vs.length
 | [], vs, h => by obtain rfl : vs = [] := h; rfl
 | V :: Vs, vs, h => by
  obtain ⟨v, r, rfl, _, h2⟩ := h
  exact congrArg Nat.succ (RepVs.length h2)
theorem okBase_base {o : Expr} {x : Str} {w : Sem Value} (h : okBase o = true) : attributeBase o x env w = w := by cases o <;> first | rfl | exact ff h
theorem br_iff {b : Bool} {P R : Prop} (h : br b P R) : (b = true /\ P) \/ (b = false /\ R) := by cases b <;> first | exact .inl ⟨rfl, h⟩ | exact .inr ⟨rfl, h⟩
set_option backward.match.sparseCases true in
theorem boolE_ok (S : SE Z d rec) (O : EnvOK env sc) (a : AOK d A) {op : BoolOp} {pos : Pos} : ∀ {es : List Expr} {hs : Hs} {c : Cn} {s : Shared} {K : KE} {Q : Value -> Shared -> Prop}, FrameIn Z Kp c env loc -> Core Z Kp c hs s ->
  boolE (fun e => rec sc false e loc) op es hs K -> Post Z Kp c K Q -> wpAny (model Z.P Z.w) A (boolOp pos op (evalEach es env)) Q E s
 | [], hs, c, s, K, Q, FI, C, h, P => False.elim h
 | [e], hs, c, s, K, Q, FI, C, h, P => S env sc false e loc hs K Kp c s A Q E O a FI C h P
 | e :: e' :: es, hs, c, s, K, Q, FI, C, h, P => by
  show wpAny _ A (do
   let v <- eval e env
   standAt pos
   let t <- holding [v] (truthy v)
   match op, t with
   | .And, false | .Or, true => pure v
   | _, _ => boolOp pos op (evalEach (e' :: es) env)) Q E s
  refine wpAny_bind (S.ev O a FI C h fun c₁ V v hs₁ s₁ l C₁ F₁ R h₁ => wpAny_bind (wpAny_standAt (wpAny_bind (wpAny_holding ?_))))
  refine truthV_ok (fun b tk hb => ?_) C₁ R h₁
  cases op <;> rcases br_iff hb with ⟨rfl, hb⟩ | ⟨rfl, hb⟩
  ·exact boolE_ok S O a F₁ C₁.toks hb (P.up l)
  ·exact wpAny_pure (P c₁ V v hs₁ _ l C₁.toks R hb)
  ·exact wpAny_pure (P c₁ V v hs₁ _ l C₁.toks R hb)
  ·exact boolE_ok S O a F₁ C₁.toks hb (P.up l)
theorem part_ok (S : SE Z d rec) (O : EnvOK env sc) (a : AOK d A) (FI : FrameIn Z Kp c env loc) (C : Core Z Kp c hs s) {eo : Option Expr} {K : Option V -> Hs -> Prop} {Q : Value -> Shared -> Prop} (h : evOpt (fun e => rec sc false e loc) eo hs K)
  (k : ∀ c' V v hs' s', c.le c' -> Core Z Kp c' hs' s' -> FrameIn Z Kp c' env loc -> RepO Z c' V v -> K V hs' -> Q v s') : wpAny (model Z.P Z.w) A (valueOrNone (evalOpt eo env)) Q E s := by
 cases eo with
 | none => exact wpAny_pure (k c none .none hs s (.refl c) C FI rfl h)
 | some e => exact S.ev O a FI C h fun c' V v hs' s' l C' F' R kk => k c' (some V) v hs' s' l C' F' R kk
theorem subscripted_false (slice : Expr) (o i : Value) : subscripted slice false o i = operate [i, o] (getItem o i) \/ subscripted slice false o i = operate [o, i] (getItem o i) := by
 cases slice with
 | Slice lo hi st p => cases st <;> first | exact .inl rfl | exact .inr rfl
 | _ => exact .inr rfl
theorem sub_ok {slice : Expr} {b : Bool} {o i : Value} (hb : b = false) (h : wpAny (model Z.P Z.w) A (getItem o i) Q E s) : wpAny (model Z.P Z.w) A (subscripted slice b o i) Q E s := by
 cases hb
 rcases subscripted_false slice o i with e | e
 ·exact wpEq e (PyProof.Rows.wpAny_operate' h)
 ·exact wpEq e (PyProof.Rows.wpAny_operate' h)
theorem tail_ok {slice value : Expr} {pos : Pos} {o i : Value} (hT : itemType s o) (h : wpAny (model Z.P Z.w) A (getItem o i) Q E s) :
  wpAny (model Z.P Z.w) A (do
   standAt pos
   let r <- subscripted slice (<- getitemInPython o) o i
   letTemporaryGo value o r
   pure r) Q E s := by
 obtain ⟨T, id, hT, hl⟩ := hT
 refine wpAny_bind (wpAny_standAt (wpAny_bind ?_))
 rw [getitemInPython_of_ne hT.not_modules]
 refine wpAny_bind (wpAny_specialOf hT hl ?_)
 have fin : wpAny (model Z.P Z.w) A (subscripted slice false o i) (fun r s₃ => wpAny (model Z.P Z.w) A (letTemporaryGo value o r >>= fun _ => pure r) Q E s₃) E s :=
  sub_ok (A := A) rfl (wpAny_mono h (fun r s₃ h₃ => wpAny_bind (wpAny_letTemporaryGo (wpAny_pure h₃))) fun _ _ x => x)
 first
  | exact wpAny_pure (wpAny_bind fin)
  | exact wpAny_bind (wpAny_pure (wpAny_bind fin))
  | exact wpAny_bind fin
end
section
variable {Z : Stat} {Kp : Addr -> Option Obj} {c : Cn} {hs : Hs} {s : Shared} {K : KE} {Q : Value -> Shared -> Prop} {A : Around} {E : Value -> Shared -> Prop} {tk : Nat} {Fg : Frag} {env : Env} {sc : Names} {loc : Loc} {d : Nat} {rec : RecE} {call : CallR}
noncomputable def Keeps1 (Z : Stat) (f : Value) (h : Heap) : Prop := ∃ k, (k = Keeper.frame \/ k = Keeper.machine \/ k = Keeper.boundFrame) /\ Looks (model Z.P Z.w) h (keeperOf f) k
theorem keeps_fn (B : BaseOK Z Fg) (C : Core Z Kp c hs s) {m : Bool} {x : Str} {a : Addr} (h : Z.fa m x = some a) : Keeps1 Z (.ref a) s.heap := by
 obtain ⟨o, fd, e, ed⟩ := B.fns m x a h
 refine ⟨.frame, .inl rfl, (Looks.ld (part := none) (C.sub _ _ (C.base _ _ e))).andThen ?_⟩
 rw [ed]
 exact .now
theorem keeps_meth (B : BaseOK Z Fg) (C : Core Z Kp c hs s) {x : Str} {v : Value} (h : RepD Z c (.meth x) v) : Keeps1 Z v s.heap := by
 obtain ⟨a, f, q, dd, rfl, hf, hm, g⟩ := h
 obtain ⟨o, fd, e, ed⟩ := B.fns true x f hf
 refine ⟨.boundFrame, .inr (.inr rfl), (Looks.ld (part := none) (C.sub _ _ g)).andThen ?_⟩
 refine (Looks.ld (part := none) (C.sub _ _ (C.base _ _ e))).andThen ?_
 rw [ed]
 exact .now
theorem keeps_bi (b : Bi) (h : Heap) : Keeps1 Z (biV b) h := ⟨.machine, .inr (.inl rfl), by cases b <;> exact .now⟩
theorem noStar_any {pos : Pos} : ∀ {es : List Expr}, noStar es = true -> (backTo pos (starEach es env)).any (·.1) = false /\ (backTo pos (starEach es env)).all (fun x => !x.1) = true
 | [], _ => ⟨rfl, rfl⟩
 | e :: es, h => by
  have hst := star_one (env := env) h
  obtain ⟨i1, i2⟩ := noStar_any (pos := pos) hst.2
  rw [hst.1]
  exact ⟨i1, i2⟩
theorem evalArgs_ok {f : Value} {pos : Pos} {es : List Expr} {Q : Args -> Shared -> Prop} (ns : noStar es = true) (h : wpAny (model Z.P Z.w) A (spliced (backTo pos (starEach es env))) (fun vs s₁ => Q ⟨vs, []⟩ s₁) E s) :
  wpAny (model Z.P Z.w) A (evalArgs f true (backTo pos (starEach es env)) []) Q E s := by
 cases es with
 | nil =>
  unfold evalArgs
  show wpAny _ _ (spliced (backTo pos (starEach [] env)) >>= _) _ _ _
  refine wpAny_bind (wpAny_mono h (fun vs s' h' => ?_) fun _ _ x => x)
  refine wpAny_bind (wpAny_pure ?_)
  refine wpAny_holding ?_
  exact wpAny_bind (wpAny_pure (wpAny_bind (wpAny_pure (wpAny_pure h'))))
 | cons e es =>
  have hst := (star_one (env := env) ns).1
  rw [hst] at h ⊢
  exact evalArgs_plain h
theorem callWith_ok (S : SE Z d rec) (O : EnvOK env sc) (a : AOK d A) (FI : FrameIn Z Kp c env loc) (C : Core Z Kp c hs s) {f : Value} {pos : Pos} {first : List Value} {es : List Expr} {K : List V -> Hs -> Prop} {Q : Value -> Shared -> Prop}
  (ns : noStar es = true) (h : evs (fun e => rec sc false e loc) es hs K)
  (hk : ∀ c' Vs hs' s', c.le c' -> Core Z Kp c' hs' s' -> K Vs hs' -> Keeps1 Z f s'.heap)
  (k : ∀ c' Vs vs hs' s', c.le c' -> Core Z Kp c' hs' s' -> RepVs Z c' Vs vs -> K Vs hs' -> wpAny (model Z.P Z.w) A (PySem.call f (first ++ vs)) Q E s') :
  wpAny (model Z.P Z.w) A (callWith pos f first (backTo pos (starEach es env)) []) Q E s := by
 refine callWith_of (P := fun h => Keeps1 Z f h) (by rw [(noStar_any ns).1]; rfl) (fun _ h => h) (evalArgs_ok ns (evs_ok S O a FI C ns h fun c' Vs vs hs' s' l C' R _ kk => ⟨hk c' Vs hs' s' l C' kk, k c' Vs vs hs' s' l C' R kk⟩))
theorem callV_ok (B : BaseOK Z Fg) (SCC : SC Z d call) (a : AOK d A) (P : Post Z Kp c K Q) (C : Core Z Kp c hs s) {m : Bool} {f : V} {vf : Value} {Vs : List V} {vs : List Value} (Rf : RepV Z c f vf) (R : RepVs Z c Vs vs) (h : callV call m f Vs hs K) :
  wpAny (model Z.P Z.w) A (PySem.call vf vs) Q E s := by
 obtain ⟨x, e, h⟩ := optP_iff h
 rw [V.d_eq e] at Rf
 cases x with
 | fn b x =>
  obtain ⟨ad, rfl, hf⟩ := Rf
  exact wpAny_call (SCC _ _ _ _ _ _ _ _ _ _ _ _ _ _ a C R hf h P)
 | meth x =>
  obtain ⟨ad, f, q, dd, rfl, hf, hm, g⟩ := Rf
  exact wpAny_call (method_call (C.sub _ _ g) (SCC m true _ (.d .mpu :: Vs) _ _ _ _ _ _ _ _ _ _ a C ⟨_, _, rfl, ⟨q, dd, rfl, hm⟩, R⟩ hf h P))
 | bi id =>
  cases (Rf : vf = biV id)
  exact biCall_ok P C R a.handled h
 | _ => exact False.elim h
theorem keeps_V (B : BaseOK Z Fg) {m : Bool} {f : V} {vf : Value} {Vs : List V} {c' : Cn} (Rf : RepV Z c f vf) (h : callV call m f Vs hs K) (l : c.le c') (C : Core Z Kp c' hs s) : Keeps1 Z vf s.heap := by
 obtain ⟨x, e, h⟩ := optP_iff h
 rw [V.d_eq e] at Rf
 cases x with
 | fn b x =>
  obtain ⟨ad, rfl, hf⟩ := Rf
  exact keeps_fn B C hf
 | meth x => exact keeps_meth B C (RepD.mono l _ _ Rf)
 | bi id =>
  cases (Rf : vf = biV id)
  exact keeps_bi _ _
 | _ => exact False.elim h
theorem okArgsE_iff {es : List Expr} (h : okArgsE es = true) : noStar es = true /\ es.length <= 12 := ⟨(and_t h).1, Nat.le_of_ble_eq_true (and_t h).2⟩
theorem methodCall_ok (B : BaseOK Z Fg) (SCC : SC Z d call) (a : AOK d A) (P : Post Z Kp c K Q) (C : Core Z Kp c hs s) {m : Bool} {o : Expr} {x : Str} {ap p : Pos} {es : List Expr} {ov : V} {vo : Value} {t : Str}
  (ha : okArgsE es = true) (hl : Nat.beq ap.endLine p.line = true) (Ro : RepV Z c ov vo) (ht : tgOf Z.X ov x hs = some t) (H : ∀ Q' : List Value -> Shared -> Prop, (∀ c' Vs vs hs' s', c.le c' -> Core Z Kp c' hs' s' -> RepVs Z c' Vs vs -> callTg call m t Vs hs' K -> Q' vs s') -> wpAny (model Z.P Z.w) A (spliced (backTo p (starEach es env))) Q' E s) :
  wpAny (model Z.P Z.w) A (methodCall o x ap p env vo (es.length + ([] : List Keyword).length) (backTo p (starEach es env)) (backToKw p (keywordEach [] env))) Q E s := by
 obtain ⟨ns, len⟩ := okArgsE_iff ha
 have hform : methodCallForm (es.length + ([] : List Keyword).length) (backTo p (starEach es env)) (backToKw p (keywordEach [] env)) = true := by
  unfold methodCallForm
  rw [(noStar_any ns).2]
  show (true && true && decide (es.length < 30)) = true
  rw [decide_eq_true (show es.length < 30 from Nat.lt_of_le_of_lt len (by decide))]; rfl
 have hpos : methodCallPos true o env ap p = pure p := by unfold methodCallPos; rw [show (ap.endLine == p.line) = true from beq_iff_eq.mpr (Nat.eq_of_beq_eq_true hl)]; rfl
 unfold methodCall
 rw [hform]
 unfold calleeOf
 rw [if_pos rfl]
 refine wpAny_bind (wpAny_holding ?_)
 have rest : ∀ (f : Value) (first : List Value), (∀ c' Vs hs' s', c.le c' -> Core Z Kp c' hs' s' -> callTg call m t Vs hs' K -> Keeps1 Z f s'.heap) ->
   (∀ c' Vs vs hs' s', c.le c' -> Core Z Kp c' hs' s' -> RepVs Z c' Vs vs -> callTg call m t Vs hs' K -> wpAny (model Z.P Z.w) A (PySem.call f (first ++ vs)) Q E s') ->
   wpAny (model Z.P Z.w) A (methodCallPos true o env ap p >>= fun callPos => callWith callPos f first (backTo p (starEach es env)) (backToKw p (keywordEach [] env))) Q E s := by
  intro f first hk k
  exact wpAny_bind (wpAny_of_eq hpos (callWith_of (P := fun h => Keeps1 Z f h) (by rw [(noStar_any ns).1]; rfl) (fun _ h => h) (evalArgs_ok ns (H _ fun c' Vs vs hs' s' l C' R kk => ⟨hk c' Vs hs' s' l C' kk, k c' Vs vs hs' s' l C' R kk⟩))))
 obtain ⟨eo, ht⟩ := noB_iff ht
 obtain ⟨f, hf, hy⟩ := optB_iff ht
 rw [V.isMpu_eq (not_t' eo)] at Ro
 exact isMeth_ok B.cls C Ro hf hy fun ad had => rest _ _ (fun c' Vs hs' s' l C' _ => keeps_fn B C' had) fun c' Vs vs hs' s' l C' R hc =>
  wpAny_call (SCC m true t (.d .mpu :: Vs) _ _ _ _ _ _ _ _ _ _ a C' ⟨vo, vs, rfl, Ro.mono l, R⟩ had hc (P.up l))
end
section
variable {Z : Stat} {Kp : Addr -> Option Obj} {c : Cn} {hs : Hs} {s : Shared} {K : KE} {Q : Value -> Shared -> Prop} {A : Around} {E : Value -> Shared -> Prop} {tk : Nat} {Fg : Frag} {env : Env} {sc : Names} {loc : Loc} {d : Nat} {rec : RecE} {call : CallR}
noncomputable def SComp (Z : Stat) (d : Nat) (rec : RecE) : Prop :=
 ∀ (env : Env) (sc : Names) (m : Bool) (elt t it : Expr) (ifs : List Expr) (scope : Scope) (pos : Pos) (loc : Loc) (hs : Hs) (K : KE) (Kp : Addr -> Option Obj) (c : Cn) (s : Shared) (A : Around) (Q : Value -> Shared -> Prop) (E : Value -> Shared -> Prop),
  EnvOK env sc -> AOK d A -> FrameIn Z Kp c env loc -> Core Z Kp c hs s -> okComp sc scope = true -> notSet it = true ->
  (iterE (fun e => rec sc false e loc) (enumOf Z.X sc) t it hs fun xs g hs => xs.length <= lim /\
   compL (fun loc e => rec (compSc sc scope.names) false e loc) (compSc sc scope.names) t elt ifs g (fun ds hs => alloc m (mkList ds) hs K) xs (dropNames scope.names loc) hs []) ->
  Post Z Kp c K Q -> wpAny (model Z.P Z.w) A (eval (.ListComp elt [⟨t, it, ifs, 0⟩] scope pos) env) Q E s
theorem notSet_marks {op : CmpOp} {r : Expr} (h : notSet r = true) : behindInMarks op r = false := by cases r <;> first | rfl | cases h
theorem evalAll_ok (S : SE Z d rec) (O : EnvOK env sc) (a : AOK d A) {p : Pos} : ∀ {kws : List Keyword} {hs : Hs} {c : Cn} {s : Shared} {K : List V -> Hs -> Prop} {Q : List Value -> Shared -> Prop}, FrameIn Z Kp c env loc -> Core Z Kp c hs s ->
  evs (fun e => rec sc false e loc) (kws.map (·.value)) hs K ->
  (∀ c' Vs vs hs' s', c.le c' -> Core Z Kp c' hs' s' -> RepVs Z c' Vs vs -> K Vs hs' -> Q vs s') -> wpAny (model Z.P Z.w) A (evalAll ((backToKw p (keywordEach kws env)).map (·.2))) Q E s := by
 intro L₀
 induction L₀ with
 | nil =>
  intro hs c s K Q FI C h k
  exact wpAny_evalAll_nil (k c [] [] hs s (.refl c) C rfl h)
 | cons p₀ kws ih =>
  intro hs c s K Q FI C h k
  obtain ⟨nm, e, kp⟩ := p₀
  refine wpAny_evalAll_cons (wpAny_bind (S.ev O a FI C h fun c₁ V v hs₁ s₁ l C₁ F₁ R h₁ => wpAny_bind (wpAny_standAt (wpAny_pure ?_))))
  refine ih F₁ C₁ h₁ fun c₂ Vs vs hs₂ s₂ l₂ C₂ Rs h₂ => ?_
  refine k c₂ (V :: Vs) (v :: vs) hs₂ s₂ (l.trans l₂) C₂ ?_ h₂
  exact ⟨v, vs, rfl, R.mono l₂, Rs⟩
theorem kw_names {p : Pos} : ∀ {kws : List Keyword} {ns : List Str}, kwNs kws = some ns -> (backToKw p (keywordEach kws env)).filterMap (·.1) = ns /\ (backToKw p (keywordEach kws env)).all (·.1.isSome) = true /\ (backToKw p (keywordEach kws env)).any (·.1.isNone) = false
 | [], ns, h => by cases some_eq h; exact ⟨rfl, rfl, rfl⟩
 | ⟨nm, e, kp⟩ :: r, ns, h => by
  obtain ⟨x, ex, h1⟩ := optB_iff h
  obtain ⟨l, el, h2⟩ := optB_iff h1
  cases (ex : nm = some x)
  cases some_eq h2
  obtain ⟨i1, i2, i3⟩ := kw_names (p := p) el
  exact ⟨congrArg (x :: ·) i1, i2, i3⟩
theorem genP_iff {gens : List Comprehension} {q : Expr × Expr × List Expr} (h : genP gens = some q) : gens = [⟨q.1, q.2.1, q.2.2, 0⟩] := by
 obtain ⟨g, e, h⟩ := optB_iff h
 obtain ⟨e2, h⟩ := noB_iff h
 rw [one_eq e]
 cases g with
 | mk t it ifs n =>
  have e3 : n = 0 := of_decide_eq_true (not_t' e2)
  rw [<- some_eq h, e3]
theorem cmpE_ok (S : SE Z d rec) (O : EnvOK env sc) (a : AOK d A) (FI : FrameIn Z Kp c env loc) (C : Core Z Kp c hs s) {l : Expr} {ops : List CmpOp} {rs : List Expr} {p : Pos} {K : KE} {Q : Value -> Shared -> Prop} (h : cmpE (fun e => rec sc false e loc) l ops rs hs K)
  (P : Post Z Kp c K Q) : wpAny (model Z.P Z.w) A (eval (.Compare l ops rs p) env) Q E s := by
 rcases ops with _ | ⟨op, _ | ⟨op2, ops⟩⟩
 ·exact False.elim h
 ·rcases rs with _ | ⟨r, _ | ⟨r2, rs⟩⟩
  ·exact False.elim h
  ·obtain ⟨hn, h⟩ := need_iff h
   refine wpAny_Compare1 (S.ev O a FI C h fun c₁ V₁ v₁ hs₁ s₁ l₁ C₁ F₁ R₁ h₁ => S.ev O a F₁ C₁ h₁ fun c₂ V₂ v₂ hs₂ s₂ l₂ C₂ F₂ R₂ h₂ => ?_) (notSet_marks hn)
   exact cmpV_ok (fun b k => (P.up (l₁.trans l₂)).bool C₂ k) C₂ a.hu (R₁.mono l₂) R₂ h₂
  ·exact False.elim h
 ·exact False.elim h
theorem callA_ok (B : BaseOK Z Fg) (S : SE Z d rec) (SCC : SC Z d call) (O : EnvOK env sc) (a : AOK d A) (FI : FrameIn Z Kp c env loc) (C : Core Z Kp c hs s) {m : Bool} {o : Expr} {x : Str} {ap : Pos} {args : List Expr} {kws : List Keyword} {p : Pos} {K : KE} {Q : Value -> Shared -> Prop}
  (h : callA Z.X call (fun e => rec sc false e loc) m o x ap args kws p hs K) (P : Post Z Kp c K Q) : wpAny (model Z.P Z.w) A (eval (.Call (.Attribute o x ap) args kws p) env) Q E s := by
 cases kws with
 | cons _ _ => exact False.elim h
 | nil =>
  obtain ⟨hn, h⟩ := need_iff h
  obtain ⟨hn, h3⟩ := and_t hn
  obtain ⟨h1, h2⟩ := and_t hn
  rw [arm_eval_Call, okBase_base h2]
  refine wpAny_bind (S.ev O a FI C h fun c₁ V₁ v₁ hs₁ s₁ l₁ C₁ F₁ R₁ h₁ => wpAny_bind (wpAny_standAt ?_))
  obtain ⟨t, ht, h₁⟩ := optP_iff h₁
  exact methodCall_ok B SCC a (P.up l₁) C₁ h1 h3 R₁ ht fun Q' hq => evs_ok S O a F₁ C₁ (okArgsE_iff h1).1 h₁ fun c' Vs vs hs' s' l C' R _ kk => hq c' Vs vs hs' s' l C' R kk
theorem newKeep (B : BaseOK Z Fg) {V₁ : V} {v₁ : Value} {ns : List Str} {c₁ : Cn} {K : KE} (R₁ : RepV Z c₁ V₁ v₁) : ∀ c' Vs hs' s', Core Z Kp c' hs' s' -> newV Z.X call V₁ (some ns) Vs hs' K -> Keeps1 Z v₁ s'.heap := by
 intro c' Vs hs' s' C' k
 obtain ⟨e, _⟩ := need_iff k
 rw [V.isCls_eq (and_t e).1] at R₁
 cases (R₁ : v₁ = .ref Z.ca)
 obtain ⟨k, a, b⟩ := keeps_K (M := model Z.P Z.w) B.cls.keep s'.heap (B.cls.here C')
 exact ⟨k, a.elim .inl fun a => a.elim (fun q => .inr (.inl q)) fun q => .inr (.inr q), b⟩
theorem callF_ok (B : BaseOK Z Fg) (S : SE Z d rec) (SCC : SC Z d call) (SNN : SN Z d call) (O : EnvOK env sc) (a : AOK d A) (FI : FrameIn Z Kp c env loc) (C : Core Z Kp c hs s) {m : Bool} {f : Expr} {args : List Expr} {kws : List Keyword} {p : Pos} {K : KE} {Q : Value -> Shared -> Prop}
  (he : eval (.Call f args kws p) env = (do callWith p (<- eval f env) [] (backTo p (starEach args env)) (backToKw p (keywordEach kws env))))
  (h : callF Z.X call (fun e => rec sc false e loc) m f args kws hs K) (P : Post Z Kp c K Q) : wpAny (model Z.P Z.w) A (eval (.Call f args kws p) env) Q E s := by
 rw [he]
 cases kws with
 | nil =>
  obtain ⟨hn, h⟩ := need_iff h
  obtain ⟨ns, len⟩ := okArgsE_iff hn
  refine wpAny_bind (S.ev O a FI C h fun c₁ V₁ v₁ hs₁ s₁ l₁ C₁ F₁ R₁ h₁ => ?_)
  exact callWith_ok S O a F₁ C₁ ns h₁ (fun c' Vs hs' s' l C' k => keeps_V B R₁ k l C') fun c₂ Vs vs hs₂ s₂ l₂ C₂ R₂ h₂ => callV_ok B SCC a (P.up (l₁.trans l₂)) C₂ (R₁.mono l₂) R₂ h₂
 | cons k ks => cases args with
  | cons _ _ => exact False.elim h
  | nil =>
   obtain ⟨ns, hn, h⟩ := optP_iff h
   refine wpAny_bind (S.ev O a FI C h fun c₁ V₁ v₁ hs₁ s₁ l₁ C₁ F₁ R₁ h₁ => ?_)
   obtain ⟨n1, n2, n3⟩ := kw_names (env := env) (p := p) hn
   have hcls := newKeep (call := call) (ns := ns) (Kp := Kp) (K := K) B R₁
   refine callWith_of (P := fun h => Keeps1 Z v₁ h) (by rw [n3]; rfl) (fun _ h => h) ?_
   refine evalArgs_kw_nil n2 (evalAll_ok S O a F₁ C₁ h₁ fun c₂ Vs vs hs₂ s₂ l₂ C₂ R₂ h₂ => ⟨hcls _ _ _ _ C₂ h₂, ?_⟩)
   rw [n1]
   exact SNN V₁ ns Vs hs₂ K Kp c₂ s₂ A Q E vs v₁ a C₂ (R₁.mono l₂) R₂ h₂ (P.up (l₁.trans l₂))
theorem callE_plain {f : Expr} {args : List Expr} {kws : List Keyword} {p : Pos} : (∃ o x ap, f = .Attribute o x ap) \/ (attrP f = none /\ eval (.Call f args kws p) env = (do callWith p (<- eval f env) [] (backTo p (starEach args env)) (backToKw p (keywordEach kws env)))) := by
 cases f <;> first | exact .inr ⟨rfl, rfl⟩ | exact .inl ⟨_, _, _, rfl⟩
theorem subE_ok (B : BaseOK Z Fg) (S : SE Z d rec) (O : EnvOK env sc) (a : AOK d A) (FI : FrameIn Z Kp c env loc) (C : Core Z Kp c hs s) {m : Bool} {o i : Expr} {p : Pos} {K : KE} {Q : Value -> Shared -> Prop}
  (h : subE (fun e => rec sc false e loc) m o i hs K) (P : Post Z Kp c K Q) : wpAny (model Z.P Z.w) A (eval (.Subscript o i p) env) Q E s := by
 rw [arm_eval_Subscript]
 have hi : (∃ lo hi st q, i = .Slice lo hi st q) \/ sliceP i = none := by cases i <;> first | exact .inr rfl | exact .inl ⟨_, _, _, _, rfl⟩
 rcases hi with ⟨lo, hi, st, q, rfl⟩ | hi
 ·obtain ⟨hst, h⟩ := need_iff h
  cases st with
  | some _ => exact absurd hst Bool.false_ne_true
  | none =>
   refine wpAny_bind (S.ev O a FI C h fun c₁ V₁ v₁ hs₁ s₁ l₁ C₁ F₁ R₁ h₁ => wpAny_bind (wpAny_holding ?_))
   rw [arm_eval_Slice]
   refine wpAny_bind (part_ok S O a F₁ C₁ h₁ fun c₂ V₂ v₂ hs₂ s₂ l₂ C₂ F₂ R₂ h₂ => wpAny_bind (wpAny_holding (part_ok S O a F₂ C₂ h₂ fun c₃ V₃ v₃ hs₃ s₃ l₃ C₃ F₃ R₃ h₃ => ?_)))
   refine wpAny_bind (wpAny_holding (wpAny_pure ?_))
   refine wpAny_newObj_type ?_ (by size_fits)
   have hsl := Heap.IsSliceOf.new s₃.heap v₂ v₃ .none
   have C₄ := C₃.keepTo (tk := s₃.toks) (h' := s₃.heap.push { cls := .type "slice", data := .fields #[v₂, v₃, .none] }) fun b o e => Heap.get?_push_of_some _ e
   obtain ⟨g1, g2⟩ := sliceV_ok (A := A) (E := E) (Q := Q) (P.up ((l₁.trans l₂).trans l₃)) C₄ ((R₁.mono l₂).mono l₃) (R₂.mono l₃) R₃ hsl h₃
   exact tail_ok g2 g1
 ·unfold subE at h
  rw [hi] at h
  refine wpAny_bind (S.ev O a FI C h fun c₁ V₁ v₁ hs₁ s₁ l₁ C₁ F₁ R₁ h₁ => wpAny_bind (wpAny_holding (S.ev O a F₁ C₁ h₁ fun c₂ V₂ v₂ hs₂ s₂ l₂ C₂ F₂ R₂ h₂ => ?_)))
  obtain ⟨g1, g2⟩ := itemV_ok (A := A) (E := E) (P.up (l₁.trans l₂)) C₂ (R₁.mono l₂) R₂ h₂
  exact tail_ok g2 g1
theorem len_line {Vs : List V} {vs : List Value} {es : List Expr} (R : RepVs Z c Vs vs) (len : Vs.length = es.length) (h : Nat.ble es.length 2000 = true) : vs.length <= sizeLine := by
 rw [<- R.length, len, sizeLine_eq]
 exact Nat.le_trans (Nat.le_of_ble_eq_true h) (by decide)
theorem strK_eq {k : Const} {x : Str} (h : strK k = some x) : k = .str x := by
 cases k <;> first | exact congrArg _ (some_eq h) | exact none_some h
theorem intK_eq {k : Const} {x : Int} (h : intK k = some x) : k = .int x := by
 cases k <;> first | exact congrArg _ (some_eq h) | exact none_some h
theorem keyS_eq {k : Option Expr} {x : Str} (h : keyS k = some x) : ∃ a p, k = some (.Constant (.str x) a p) := by
 obtain ⟨e, e1, h⟩ := optB_iff h
 obtain ⟨q, e2, h⟩ := optB_iff h
 exact ⟨_, _, by rw [e1, conP_eq e2, strK_eq h]⟩
theorem keyI_eq {k : Option Expr} {x : Int} (h : keyI k = some x) : ∃ a p, k = some (.Constant (.int x) a p) := by
 obtain ⟨e, e1, h⟩ := optB_iff h
 obtain ⟨q, e2, h⟩ := optB_iff h
 exact ⟨_, _, by rw [e1, conP_eq e2, intK_eq h]⟩
theorem constI {x : Int} {a : Nat} {p : Pos} {Q : Value -> Shared -> Prop} (h : Q (.int x s.toks) { s with toks := s.toks + 1 }) : wpAny (model Z.P Z.w) A (eval (.Constant (.int x) a p) env) Q E s := wpAny_mkInt h
theorem constS {x : Str} {a : Nat} {p : Pos} {Q : Value -> Shared -> Prop} (h : Q (.str x s.toks) { s with toks := s.toks + 1 }) : wpAny (model Z.P Z.w) A (eval (.Constant (.str x) a p) env) Q E s := wpAny_mkText h
inductive DictS (ks : List (Option Expr)) (vs : List Expr) : List (Str × Int) -> Prop
 | nil (h1 : ks = []) (h2 : vs = []) : DictS ks vs []
 | cons (x : Str) (i : Int) (a b : Nat) (p q : Pos) (k : List (Option Expr)) (v : List Expr) (l : List (Str × Int)) (h1 : ks = some (.Constant (.str x) a p) :: k) (h2 : vs = .Constant (.int i) b q :: v) (h3 : dictS k v = some l) : DictS ks vs ((x, i) :: l)
theorem dictS_is : ∀ {ks : List (Option Expr)} {vs : List Expr} {l : List (Str × Int)}, dictS ks vs = some l -> DictS ks vs l
 | [], [], l, h => some_eq h ▸ .nil rfl rfl
 | [], _ :: _, l, h => none_some h
 | _ :: _, [], l, h => none_some h
 | k :: ks, v :: vs, l, h => by
  obtain ⟨x, e1, h1⟩ := optB_iff h
  obtain ⟨i, e2, h2⟩ := optB_iff h1
  obtain ⟨r, e3, h3⟩ := optB_iff h2
  obtain ⟨a, p, rfl⟩ := keyS_eq e1
  obtain ⟨b, q, e⟩ := keyI_eq e2
  cases some_eq e
  exact some_eq h3 ▸ .cons x i a b p q ks vs r rfl rfl e3
theorem dictS_len : ∀ {l : List (Str × Int)} {ks : List (Option Expr)} {vs : List Expr}, dictS ks vs = some l -> ks.length = l.length /\ vs.length = l.length /\ ks.all (·.isSome) = true
 | [], ks, vs, h => by cases dictS_is h with | nil h1 h2 => subst h1 h2; exact ⟨rfl, rfl, rfl⟩
 | _ :: l, ks, vs, h => by
  cases dictS_is h with
  | cons x i a b p q k v _ h1 h2 h3 =>
   subst h1 h2
   obtain ⟨e1, e2, e3⟩ := dictS_len h3
   exact ⟨congrArg Nat.succ e1, congrArg Nat.succ e2, e3⟩
theorem pairs_strs {pos : Pos} : ∀ {l : List (Str × Int)} {ks : List (Option Expr)} {vs : List Expr} {s : Shared} {Q : List (Value × Value) -> Shared -> Prop}, dictS ks vs = some l ->
  (∀ ws kvs tk, Carries (strKind Z.P Z.w) ws kvs -> SI kvs l -> Q ws { s with toks := tk }) -> wpAny (model Z.P Z.w) A (evalPairs (pairTrees ks vs env pos)) Q E s := by
 intro L₀
 induction L₀ with
 | nil =>
  intro ks vs s Q h hq
  cases dictS_is h with
  | nil h1 h2 => subst h1 h2; exact pairTrees_nil_walk (hq [] [] s.toks trivial .nil)
 | cons p₀ l ih =>
  intro ks vs s Q h hq
  obtain ⟨x, i⟩ := p₀
  cases dictS_is h with
  | cons _ _ a b p q k v _ h1 h2 h3 =>
   subst h1 h2
   exact pairTrees_cons_walk (constS (constI (ih h3 fun ws kvs tk hc hs => hq _ ((x, .int i _) :: kvs) tk ⟨strKind_is _ _ x _, rfl, hc⟩ (.cons hs))))
theorem SI.keys {kvs : List (Str × Value)} {l : List (Str × Int)} (h : SI kvs l) : kvs.map (·.1) = l.map (·.1) := by
 induction h with
 | nil => rfl
 | cons _ ih => rw [List.map_cons, List.map_cons, ih]
theorem nodupS_nodup : ∀ {l : List Str}, nodupS l = true -> l.Nodup
 | [], _ => List.nodup_nil
 | x :: r, h => List.nodup_cons.mpr ⟨sMem_false.mp (not_t (and_t h).1), nodupS_nodup (and_t h).2⟩
theorem Core.dictNew (C : Core Z Kp c hs s) {h' : Heap} (hs' : Heap.SameBut s.heap.objs.size (s.heap.push { cls := .type "dict", data := .dict #[] }) h') : ∀ b o, s.heap.get? b = some o -> h'.get? b = some o := fun b o e =>
 hs'.extBut b o (Nat.ne_of_lt (Heap.lt_size e)) (Heap.get?_push_of_some _ e)
theorem dictE_ok (C : Core Z Kp c hs s) {m : Bool} {ks : List (Option Expr)} {vs : List Expr} {p : Pos} {K : KE} {Q : Value -> Shared -> Prop} (h : dictE m ks vs hs K) (P : Post Z Kp c K Q) : wpAny (model Z.P Z.w) A (eval (.Dict ks vs p) env) Q E s := by
 cases m with
 | true =>
  obtain ⟨⟨k, i⟩, e, h⟩ := optP_iff h
  obtain ⟨ko, e1, e⟩ := optB_iff e
  obtain ⟨v, e2, e⟩ := optB_iff e
  obtain ⟨a, q, rfl⟩ := keyI_eq (both_iff e).1
  obtain ⟨b, q', e'⟩ := keyI_eq (both_iff e).2
  cases some_eq e'
  rw [one_eq e1, one_eq e2]
  refine wpAny_Dict_walk (knd := intKind Z.P Z.w) rfl rfl (fun h => nomatch h) (Nat.le_of_ble_eq_true rfl) (pairTrees_cons_walk (constI (constI (pairTrees_nil_walk ?_))))
  refine ⟨[(k, .int i _)], ⟨intKind_is _ _ k _, rfl, trivial⟩, Heap.DictOf.new _, fun h' hd hs' => ?_⟩
  obtain ⟨o, eo, hd⟩ := Heap.dictOf_iff.mp hd
  obtain ⟨C', l, R⟩ := C.newL (x := .dict k i) (tk := s.toks + 1 + 1 + 1) (C.dictNew hs') (fresh_size _) eo (.dct k i _ rfl hd)
  exact P _ _ _ _ _ l C' R h
 | false =>
  obtain ⟨l, e, h⟩ := optP_iff h
  obtain ⟨hk, h⟩ := need_iff h
  obtain ⟨hk, hk3⟩ := and_t hk
  obtain ⟨hk1, hk2⟩ := and_t hk
  obtain ⟨e1, e2, e3⟩ := dictS_len e
  refine wpAny_Dict_walk (knd := strKind Z.P Z.w) e3 (e1.trans e2.symm) (fun q => ?_) (e1 ▸ Nat.le_of_ble_eq_true hk2) (pairs_strs e fun ws kvs tk hc hsi => ⟨kvs, hc, Heap.DictOf.new _, fun h' hd hs' => ?_⟩)
  ·rw [q] at e1
   rw [List.length_eq_zero_iff.mp e1.symm] at hk3
   exact ff hk3
  ·rw [merged_append_of_fresh [] kvs (by rw [List.nil_append, hsi.keys]; exact nodupS_nodup hk1)] at hd
   obtain ⟨o, eo, hd⟩ := Heap.dictOf_iff.mp hd
   obtain ⟨C', l⟩ := C.newG (tk := tk + ws.length) (C.dictNew hs') (fresh_size _) eo
   exact P _ (.d (.sdict _)) _ _ _ l C' ⟨_, o, kvs, rfl, Cn.addG_get _ _ _, hd, hsi⟩ h
theorem stepE_ok (B : BaseOK Z Fg) (S : SE Z d rec) (SCC : SC Z d call) (SNN : SN Z d call) (SCO : SComp Z d rec) (ST' : ST Z d rec) : SE Z d (stepE Z.X call rec) := by
 intro env sc m e loc hs K Kp c s A Q E O a FI C h P
 cases e with
 | Constant k kk p =>
  obtain ⟨dd, hd, h⟩ := optP_iff h
  rw [arm_eval_Constant]
  exact const_ok P C hd h
 | Name x p => exact name_ok B O FI P C h
 | BinOp l op r p =>
  rw [arm_eval_BinOp]
  refine wpAny_bind (S.ev O a FI C h fun c₁ V₁ v₁ hs₁ s₁ l₁ C₁ F₁ R₁ h₁ => wpAny_bind (wpAny_holding (S.ev O a F₁ C₁ h₁ fun c₂ V₂ v₂ hs₂ s₂ l₂ C₂ F₂ R₂ h₂ => wpAny_bind (wpAny_standAt (PyProof.Rows.wpAny_operate' ?_)))))
  exact binOpV_ok (P.up (l₁.trans l₂)) C₂ (R₁.mono l₂) R₂ h₂
 | UnaryOp op x p =>
  rw [arm_eval_UnaryOp]
  refine wpAny_bind (S.ev O a FI C h fun c₁ V₁ v₁ hs₁ s₁ l₁ C₁ F₁ R₁ h₁ => wpAny_bind (wpAny_standAt (wpAny_holding ?_)))
  exact unOpV_ok (P.up l₁) C₁ R₁ h₁
 | BoolOp op es p =>
  rw [arm_eval_BoolOp]
  exact boolE_ok S O a FI C h P
 | IfExp t x y p =>
  rw [arm_eval_IfExp]
  refine wpAny_bind (ST' env sc _ loc hs _ _ Kp c s A _ _ O a FI C h (fun v hs h => h) fun c₁ b hs₁ s₁ l₁ C₁ hb => ?_)
  cases b with
  | true => exact S _ _ _ _ _ _ _ _ _ _ _ _ _ O a (FI.mono l₁) C₁ hb (P.up l₁)
  | false => exact S _ _ _ _ _ _ _ _ _ _ _ _ _ O a (FI.mono l₁) C₁ hb (P.up l₁)
 | List es p =>
  obtain ⟨hn, h⟩ := need_iff h
  obtain ⟨hn, hn2⟩ := and_t hn
  refine wpAny_List (evs_ok S O a FI C hn h fun c₁ Vs vs hs₁ s₁ l₁ C₁ R len h₁ => ?_)
  obtain ⟨ds, hds, h₁⟩ := optP_iff h₁
  exact ⟨len_line R len hn2, alloc_ok (n := 0) (tk := s₁.toks) (P.up l₁) C₁ h₁ (mkList_as (asDs_ok R hds))⟩
 | Tuple es x p =>
  obtain ⟨hn, h⟩ := need_iff h
  obtain ⟨hn, hn2⟩ := and_t hn
  refine wpAny_Tuple (evs_ok S O a FI C hn h fun c₁ Vs vs hs₁ s₁ l₁ C₁ R len h₁ => ?_)
  obtain ⟨ds, hds, h₁⟩ := optP_iff h₁
  refine ⟨len_line R len hn2, ?_⟩
  obtain ⟨C', l⟩ := C₁.newG (tk := s₁.toks) (h' := s₁.heap.push { cls := .type "tuple", data := .seq vs.toArray }) (o := tupO vs 0) (fun b o e => Heap.get?_push_of_some _ e) (fresh_size _) (Heap.get?_push_size _ rfl)
  refine P _ (.d (.tup ds)) _ _ _ (l₁.trans l) C' ?_ h₁
  exact ⟨_, vs, 0, rfl, Cn.addG_get _ _ _, RepDs.mono l _ _ (asDs_ok R hds)⟩
 | Compare l ops rs p => exact cmpE_ok S O a FI C h P
 | Call f args kws p =>
  rcases callE_plain (env := env) (f := f) (args := args) (kws := kws) (p := p) with ⟨o, x, ap, rfl⟩ | ⟨h1, h2⟩
  ·exact callA_ok B S SCC O a FI C h P
  ·have h : callE Z.X call (fun e => rec sc false e loc) m f args kws p hs K := h
   unfold callE at h
   rw [h1] at h
   exact callF_ok B S SCC SNN O a FI C h2 h P
 | Attribute o x p =>
  obtain ⟨hn, h⟩ := need_iff h
  rw [arm_eval_Attribute, okBase_base hn]
  refine wpAny_bind (S.ev O a FI C h fun c₁ V₁ v₁ hs₁ s₁ l₁ C₁ F₁ R₁ h₁ => wpAny_bind (wpAny_standAt (wpAny_bind (wpAny_holding ?_))))
  refine getAttrV_ok (K := K) (Q := fun r s' => wpAny (model Z.P Z.w) A (letTemporaryGo _ v₁ r >>= fun _ => pure r) Q E s') B.cls (fun c₂ V₂ v₂ hs₂ s₂ l₂ C₂ R₂ k => wpAny_bind (wpAny_letTemporaryGo (wpAny_pure ?_))) C₁ R₁ h₁
  exact P c₂ V₂ v₂ hs₂ s₂ (l₁.trans l₂) C₂ R₂ k
 | Subscript o i p => exact subE_ok B S O a FI C h P
 | Dict ks vs p => exact dictE_ok C h P
 | ListComp elt gens scope p =>
  obtain ⟨q, hq, h⟩ := optP_iff h
  obtain ⟨hn, h⟩ := need_iff h
  obtain ⟨hn, hn2⟩ := and_t hn
  rw [genP_iff hq]
  exact SCO _ _ _ _ _ _ _ _ _ _ _ _ _ _ _ _ _ _ O a FI C hn hn2 h P
 | _ => exact False.elim h
end
section
variable {Z : Stat} {Kp : Addr -> Option Obj} {c : Cn} {hs : Hs} {s : Shared} {K : KE} {Q : Value -> Shared -> Prop} {A : Around} {E : Value -> Shared -> Prop} {tk : Nat} {Fg : Frag} {env : Env} {sc : Names} {loc : Loc} {d : Nat} {rec : RecE} {call : CallR}
theorem truthV_mono {v : V} {k k' : Bool -> Prop} (h : truthV v hs k) (i : ∀ b, k b -> k' b) : truthV v hs k' := by
 obtain ⟨b, e, h⟩ := optP_iff h
 exact optP_of e (i b h)
theorem allTrue_ok (S : SE Z d rec) (T : ST Z d rec) (O : EnvOK env sc) (a : AOK d A) {op : BoolOp} {Qb : Bool -> Shared -> Prop} {KB : Bool -> Hs -> Prop} : ∀ {es : List Expr} {hs : Hs} {c : Cn} {s : Shared} {K : KE}, FrameIn Z Kp c env loc -> Core Z Kp c hs s ->
  boolE (fun e => rec sc false e loc) op es hs K -> (∀ v hs, K v hs -> truthV v hs fun b => KB b hs) -> PostB Z Kp c KB Qb -> wpAny (model Z.P Z.w) A (allTrue op es env) Qb E s
 | [], hs, c, s, K, FI, C, h, i, P => False.elim h
 | [e], hs, c, s, K, FI, C, h, i, P => by
  rw [arm_allTrue_cons]
  refine wpAny_bind (T env sc e loc hs K KB Kp c s A _ E O a FI C h i fun c₁ b hs₁ s₁ l₁ C₁ hb => ?_)
  have q := P c₁ b hs₁ s₁ l₁ C₁ hb
  cases op <;> cases b <;> first | exact wpAny_pure q | (exact wpAny_pure (a := true) q)
 | e :: e' :: es, hs, c, s, K, FI, C, h, i, P => by
  rw [arm_allTrue_cons]
  refine wpAny_bind (T env sc e loc hs _ (fun b hs => match op with
   | .And => br b (boolE (fun e => rec sc false e loc) op (e' :: es) hs K) (KB false hs)
   | .Or => br b (KB true hs) (boolE (fun e => rec sc false e loc) op (e' :: es) hs K)) Kp c s A _ E O a FI C h (fun v hs hv => ?_) fun c₁ b hs₁ s₁ l₁ C₁ hb => ?_)
  ·-- the value that stands at the end is the one whose truth was asked
   obtain ⟨b, e, hv⟩ := optP_iff hv
   have i' : K v hs -> KB b hs := fun hk => by
    obtain ⟨b', e', h'⟩ := optP_iff (i v hs hk)
    cases some_eq (e.symm.trans e')
    exact h'
   refine optP_of e ?_
   cases op <;> cases b
   ·exact i' hv
   ·exact hv
   ·exact hv
   ·exact i' hv
  ·have up : ∀ {b : Bool}, PostB Z Kp c₁ KB Qb := fun {_} c₂ b hs₂ s₂ l₂ C₂ k => P c₂ b hs₂ s₂ (l₁.trans l₂) C₂ k
   cases op <;> cases b
   ·exact wpAny_pure (P c₁ false hs₁ s₁ l₁ C₁ hb)
   ·exact allTrue_ok S T O a (FI.mono l₁) C₁ hb i (up (b := true))
   ·exact allTrue_ok S T O a (FI.mono l₁) C₁ hb i (up (b := true))
   ·exact wpAny_pure (P c₁ true hs₁ s₁ l₁ C₁ hb)
theorem stepT_ok (S : SE Z d rec) (T : ST Z d rec) (S' : SE Z d (stepE Z.X call rec)) : ST Z d (stepE Z.X call rec) := by
 intro env sc e loc hs K KB Kp c s A Qb E O a FI C h i P
 have plain : isTrue e env (eval e env) = (do
   let v <- eval e env
   standAt e.pos
   holding [v] (truthy v)) -> wpAny (model Z.P Z.w) A (isTrue e env (eval e env)) Qb E s := fun hsp => by
  rw [hsp]
  refine wpAny_bind (S'.ev O a FI C h fun c₁ V₁ v₁ hs₁ s₁ l₁ C₁ F₁ R₁ h₁ => wpAny_bind (wpAny_standAt (wpAny_holding ?_)))
  exact truthV_ok (fun b tk k => P c₁ b hs₁ _ l₁ C₁.toks k) C₁ R₁ (i _ _ h₁)
 cases e with
 | UnaryOp op x p =>
  cases op with
  | Not =>
   rw [arm_isTrue_UnaryOp]
   refine wpAny_bind (T env sc x loc hs _ (fun b hs => KB (!b) hs) Kp c s A _ E O a FI C h (fun v hs hv => ?_) fun c₁ b hs₁ s₁ l₁ C₁ hb => wpAny_pure (P c₁ _ hs₁ s₁ l₁ C₁ hb))
   exact truthV_mono hv fun b hb => i (.d (.bool (!b))) hs hb
  | _ => exact plain rfl
 | BoolOp op es p =>
  rw [arm_isTrue_BoolOp]
  exact allTrue_ok S T O a FI C h i P
 | IfExp t x y p =>
  rw [arm_isTrue_IfExp]
  refine wpAny_bind (T env sc t loc hs _ _ Kp c s A _ E O a FI C h (fun v hs h => h) fun c₁ b hs₁ s₁ l₁ C₁ hb => ?_)
  have up : PostB Z Kp c₁ KB Qb := fun c₂ b hs₂ s₂ l₂ C₂ k => P c₂ b hs₂ s₂ (l₁.trans l₂) C₂ k
  rcases br_iff hb with ⟨rfl, hb⟩ | ⟨rfl, hb⟩
  ·exact T _ _ _ _ _ _ _ _ _ _ _ _ _ O a (FI.mono l₁) C₁ hb i up
  ·exact T _ _ _ _ _ _ _ _ _ _ _ _ _ O a (FI.mono l₁) C₁ hb i up
 | Compare l ops rs p =>
  rcases ops with _ | ⟨op, _ | ⟨op2, ops⟩⟩ <;> rcases rs with _ | ⟨r, _ | ⟨r2, rs⟩⟩ <;> first | exact False.elim h | skip
  have h : need (notSet r) (rec sc false l loc hs fun a hs => rec sc false r loc hs fun b hs => cmpV op a b hs fun c => K (.d (.bool c)) hs) := h
  obtain ⟨hn, h⟩ := need_iff h
  refine wpAny_isTrue_Compare1 (S.ev O a FI C h fun c₁ V₁ v₁ hs₁ s₁ l₁ C₁ F₁ R₁ h₁ => S.ev O a F₁ C₁ h₁ fun c₂ V₂ v₂ hs₂ s₂ l₂ C₂ F₂ R₂ h₂ => ?_) (notSet_marks hn)
  refine cmpV_ok (fun b k => wpAny_truthy_bool ?_) C₂ a.hu (R₁.mono l₂) R₂ h₂
  exact P c₂ b hs₂ s₂ (l₁.trans l₂) C₂ (i (.d (.bool b)) hs₂ k)
 | _ => exact plain rfl
end
noncomputable def over (ia : List Addr) (Kp K₀ : Addr -> Option Obj) : Addr -> Option Obj := fun b => if b ∈ ia then Kp b else K₀ b
noncomputable def minus (ia : List Addr) (Kp : Addr -> Option Obj) : Addr -> Option Obj := fun b => if b ∈ ia then none else Kp b
structure Ups (ia : List Addr) (Kp Kq : Addr -> Option Obj) : Prop where
 same : ∀ b, b ∉ ia -> Kq b = Kp b
 here : ∀ b, b ∈ ia -> (Kq b).isSome = true
theorem Ups.trans {ia : List Addr} {K₁ K₂ K₃ : Addr -> Option Obj} (a : Ups ia K₁ K₂) (b : Ups ia K₂ K₃) : Ups ia K₁ K₃ := ⟨fun x hx => (b.same x hx).trans (a.same x hx), b.here⟩
section
variable {Z : Stat} {Kp Kq : Addr -> Option Obj} {c : Cn} {hs : Hs} {s : Shared} {h' : Heap} {tk : Nat} {ia : List Addr}
theorem free_ng (C : Core Z Kp c hs s) (hia : ∀ b ∈ ia, (Kp b).isSome = true) {b : Addr} (hb : b ∈ ia) : c.G b = none :=
 let ⟨o, ho⟩ := Option.isSome_iff_exists.mp (hia b hb)
 C.dis b o ho
theorem no_some {α : Type} {o : Option α} {P : Prop} (h : o = none) (e : o.isSome = true) : P := by rw [h] at e; exact ff e
theorem Core.upK (C : Core Z Kp c hs s) (U : Ups ia Kp Kq) (hia : ∀ b ∈ ia, (Kp b).isSome = true \/ s.heap.get? b = none) (k : ∀ b o, b ∉ ia -> s.heap.get? b = some o -> h'.get? b = some o) (e : ∀ b ∈ ia, h'.get? b = Kq b) :
  Core Z Kq c hs { s with heap := h', toks := tk } := by
 have ng : ∀ b ∈ ia, c.G b = none := fun b hb => (hia b hb).elim (fun h => let ⟨o, ho⟩ := Option.isSome_iff_exists.mp h; C.dis b o ho) fun h => none_of_fresh C.sub h
 have nl : ∀ p ∈ ledOf Z c hs, p.1 ∉ ia := fun p hp q => (hia p.1 q).elim (fun h => no_some (C.free p hp).2 h) fun h => let ⟨_, e1, _⟩ := C.led p hp; no2 h e1
 refine ⟨C.base, fun b o e' => k b o (fun q => no2 (ng b q) e') (C.sub b o e'), fun b o e' => ?_, fun b o e' => ?_, C.len, fun p hp => ?_, C.apart, fun p hp => ⟨(C.free p hp).1, (U.same _ (nl p hp)).trans (C.free p hp).2⟩, C.inst, C.gens, C.os⟩
 ·by_cases hb : b ∈ ia
  ·exact (e b hb).trans e'
  ·exact k b o hb (C.kp b o ((U.same b hb).symm.trans e'))
 ·by_cases hb : b ∈ ia
  ·exact ng b hb
  ·exact C.dis b o ((U.same b hb).symm.trans e')
 ·obtain ⟨o, e1, f⟩ := C.led p hp
  exact ⟨o, k _ _ (nl p hp) e1, f⟩
theorem minus_some {b : Addr} {o : Obj} (e : minus ia Kp b = some o) : b ∉ ia /\ Kp b = some o := by
 unfold minus at e
 by_cases q : b ∈ ia
 ·rw [if_pos q] at e; exact none_some e
 ·rw [if_neg q] at e; exact ⟨q, e⟩
theorem Core.dropK (C : Core Z Kp c hs s) (hia : ∀ b ∈ ia, (Kp b).isSome = true) (k : ∀ b o, b ∉ ia -> s.heap.get? b = some o -> h'.get? b = some o) :
  Core Z (minus ia Kp) c hs { s with heap := h', toks := tk } := by
 have nl : ∀ p ∈ ledOf Z c hs, p.1 ∉ ia := fun p hp q => no_some (C.free p hp).2 (hia p.1 q)
 exact ⟨C.base, fun b o e' => k b o (fun q => no2 (free_ng C hia q) e') (C.sub b o e'), fun b o e' => k b o (minus_some e').1 (C.kp b o (minus_some e').2), fun b o e' => C.dis b o (minus_some e').2, C.len,
  fun p hp => let ⟨o, e1, f⟩ := C.led p hp; ⟨o, k _ _ (nl p hp) e1, f⟩, C.apart, fun p hp => ⟨(C.free p hp).1, (if_neg (nl p hp)).trans (C.free p hp).2⟩, C.inst, C.gens, C.os⟩
theorem none_of_sub (sub : ∀ b o, Kq b = some o -> Kp b = some o) {b : Addr} (h : Kp b = none) : Kq b = none := by
 cases q : Kq b with
 | none => rfl
 | some o => exact no2 h (sub b o q)
theorem Core.toG (C : Core Z Kp c hs s) {a : Addr} {o : Obj} (ha : Kp a = some o) (hq : Kq a = none) (sub : ∀ b o, Kq b = some o -> Kp b = some o) : Core Z Kq (c.addG a o) hs s /\ c.le (c.addG a o) := by
 have l : c.le (c.addG a o) := Cn.addG_le (C.dis a o ha)
 have addr := C.addrG a o
 exact ⟨⟨fun b o' e' => l.g b o' (C.base b o' e'), fun b o' e' => upd_some e' (fun q r => q ▸ r ▸ C.kp _ _ ha) fun _ e' => C.sub b o' e', fun b o' e' => C.kp b o' (sub b o' e'), fun b o' e' => (upd_ne (ne_of hq e')).trans (C.dis b o' (sub b o' e')), C.len,
  Led.at_append (mpLed_at l (fun p _ o e => e) C.atM) (objLed_at l (fun a _ o e => e) C.atL), addr ▸ C.apart,
  free_map (P := fun b => (c.addG a o).G b = none /\ Kq b = none) addr fun p hp => ⟨(upd_ne (Ne.symm (ne_of (C.free p hp).2 ha))).trans (C.free p hp).1, none_of_sub sub (C.free p hp).2⟩, fun q d e' => (C.inst q d e').imp fun sl e'' => l.g _ _ e'', C.gens, C.os⟩, l⟩
theorem Core.toL (C : Core Z Kp c hs s) {a : Addr} {x : D} {vs : List Value} {n : Nat} (ha : Kp a = some (listO vs n)) (hq : Kq a = none) (sub : ∀ b o, Kq b = some o -> Kp b = some o) (as : ListAs Z c x vs) :
  Core Z Kq (c.addL a) ⟨hs.hp ++ [x], hs.mp⟩ s /\ c.le (c.addL a) /\ RepV Z (c.addL a) (.loc hs.hp.length) (.ref a) := by
 have l := Cn.addL_le c a
 refine ⟨⟨C.base, C.sub, fun b o' e' => C.kp b o' (sub b o' e'), fun b o' e' => C.dis b o' (sub b o' e'), C.lenL a x, ?_, ?_, ?_, C.inst, C.gens, C.os⟩, l, a, C.atL' a x, rfl⟩
 ·rw [addL_led C]
  exact Led.at_append (mpLed_at l (fun p _ o e => e) C.atM) (Led.at_append (objLed_at l (fun a _ o e => e) C.atL) (Led.at_one (C.kp _ _ ha) (.mk _ _ rfl as) l))
 ·rw [C.addrL]
  refine nodup_snoc C.apart fun hb => ?_
  obtain ⟨p, hp, q⟩ := List.mem_map.mp hb
  exact ne_of (C.free p hp).2 ha q.symm
 ·exact free_map (P := fun b => c.G b = none /\ Kq b = none) (C.addrL1 a x) (free_snoc (P := fun b => c.G b = none /\ Kq b = none) (fun p hp => ⟨(C.free p hp).1, none_of_sub sub (C.free p hp).2⟩) ⟨C.dis _ _ ha, hq⟩)
end
noncomputable def ListAt (Z : Stat) (c : Cn) (g : Option (Nat × D)) (l : Addr) (all : List D) : Prop := match g with
 | none => ∃ vs n, c.G l = some (listO vs n) /\ RepDs Z c all vs
 | some (n, d) => c.ρ[n]? = some l /\ itemsD d = some all /\ isRng d = false
theorem ListAt.mono {Z : Stat} {c c' : Cn} {g : Option (Nat × D)} {l : Addr} {all : List D} (le : c.le c') (h : ListAt Z c g l all) : ListAt Z c' g l all := by
 cases g with
 | none => exact let ⟨vs, n, a, b⟩ := h; ⟨vs, n, le.g _ _ a, RepDs.mono le _ _ b⟩
 | some g => exact ⟨le.ρ _ _ h.1, h.2⟩
theorem items_as {Z : Stat} {c : Cn} {d : D} {all : List D} {vs : List Value} (as : ListAs Z c d vs) (b : itemsD d = some all) : RepDs Z c all vs := by
 cases d with
 | list xs => exact some_eq b ▸ as
 | «ints» xs => exact some_eq b ▸ ints_iff.mp as
 | _ => exact False.elim as
theorem ListAt.here {Z : Stat} {Kp : Addr -> Option Obj} {c : Cn} {hs : Hs} {s : Shared} {g : Option (Nat × D)} {l : Addr} {all : List D} (C : Core Z Kp c hs s) (h : ListAt Z c g l all) (st : stays g hs) : ∃ vs n, s.heap.get? l = some (listO vs n) /\ RepDs Z c all vs := by
 cases g with
 | none => exact let ⟨vs, n, a, b⟩ := h; ⟨vs, n, C.sub _ _ a, b⟩
 | some g =>
  obtain ⟨a, b, r⟩ := h
  have st : hs.hp.getD g.1 .none = g.2 := st
  obtain ⟨_, vs, ep, e, as⟩ := C.locAt a (by rw [st]; revert b; cases g.2 <;> first | exact fun _ => rfl | exact fun b => none_some b)
  exact ⟨vs, ep, e, items_as ((show hs.hp.getD g.1 .none = g.2 from st) ▸ as) b⟩
noncomputable def intsFrom (x : Int) : Nat -> List D
 | 0 => []
 | n + 1 => .int x :: intsFrom (x + 1) n
inductive ItSt (Z : Stat) (Kp : Addr -> Option Obj) (c : Cn) (g : Option (Nat × D)) : List Addr -> Bool -> Value -> List D -> Prop
 | lst {I l : Addr} {i : Nat} {all : List D} {o : Obj} : Kp I = some o -> o.cls = .type "list_iterator" -> o.data = .fields #[.ref l, .int i 0] -> ListAt Z c g l all -> ItSt Z Kp c g [I] false (.ref I) (all.drop i)
 | rng {I : Addr} {x : Int} {n : Nat} : Kp I = some { cls := .type "range_iterator", dict := none, data := .fields #[rawInt x, rawInt n, rawInt 1], slots := #[] } -> ItSt Z Kp c g [I] false (.ref I) (intsFrom x n)
 | enm {e I l : Addr} {i : Nat} {all : List D} {o : Obj} {old : Value} : e ≠ I -> Kp e = some { cls := .type "enumerate", dict := none, data := .fields #[.none, .bool false, .ref I, rawInt i, .none, old], slots := #[] } ->
   Kp I = some o -> o.cls = .type "list_iterator" -> o.data = .fields #[.ref l, .int i 0] -> ListAt Z c g l all -> ItSt Z Kp c g [e, I] true (.ref e) (enumFrom i (all.drop i))
theorem ItSt.mono {Z : Stat} {Kp Kq : Addr -> Option Obj} {c c' : Cn} {g : Option (Nat × D)} {ia : List Addr} {b : Bool} {v : Value} {xs : List D} (l : c.le c') (hk : ∀ a ∈ ia, Kq a = Kp a) (h : ItSt Z Kp c g ia b v xs) : ItSt Z Kq c' g ia b v xs := by
 cases h with
 | lst a b c d => exact .lst ((hk _ (.head _)).trans a) b c (d.mono l)
 | rng a => exact .rng ((hk _ (.head _)).trans a)
 | enm n a b c d e => exact .enm n ((hk _ (.head _)).trans a) ((hk _ (.tail _ (.head _))).trans b) c d (e.mono l)
theorem some_one {Kp : Addr -> Option Obj} {a : Addr} {o : Obj} (e : Kp a = some o) : ∀ b ∈ [a], (Kp b).isSome = true := fun b hb => by rw [List.mem_singleton.mp hb, e]; rfl
theorem some_two {Kp : Addr -> Option Obj} {a b : Addr} {o p : Obj} (e : Kp a = some o) (e' : Kp b = some p) : ∀ x ∈ [a, b], (Kp x).isSome = true := fun x hx =>
 (List.mem_cons.mp hx).elim (fun q => by rw [q, e]; rfl) (some_one e' x)
theorem ItSt.some {Z : Stat} {Kp : Addr -> Option Obj} {c : Cn} {g : Option (Nat × D)} {ia : List Addr} {b : Bool} {v : Value} {xs : List D} (h : ItSt Z Kp c g ia b v xs) : ∀ a ∈ ia, (Kp a).isSome = true := by
 cases h with
 | lst a b c d => exact some_one a
 | rng a => exact some_one a
 | enm n a b c d e => exact some_two a b
noncomputable def heapK (ia : List Addr) (h : Heap) (Kp : Addr -> Option Obj) : Addr -> Option Obj := fun b => if b ∈ ia then h.get? b else Kp b
section
variable {Z : Stat} {Kp Kq : Addr -> Option Obj} {c : Cn} {hs : Hs} {s : Shared} {A : Around} {E : Value -> Shared -> Prop} {tk : Nat} {ia : List Addr} {g : Option (Nat × D)}
noncomputable def ownNs : List String := ["enumerate", "zip", "dict_itemiterator", "dict_reverseitemiterator", "odict_iterator", "itertools.zip_longest", "itertools.pairwise"]
set_option backward.match.sparseCases true in
theorem letOwned_plain {t : Expr} {I : Addr} {u : Value} {o : Obj} {n : String} {vs : Array Value} {Q : Unit -> Shared -> Prop} (ho : s.heap.get? I = some o) (hc : o.cls = .type n) (hd : o.data = .fields vs)
  (hn : ownNs.contains n = false) (h : Q () s) : wpAny (model Z.P Z.w) A (letOwnedTupleGo t (.ref I) u) Q E s := by
 have key : ∀ a, wpAny (model Z.P Z.w) A (do
   let o <- load I
   match o.cls, o.data with
   | .type n, .fields vs =>
    if ["enumerate", "zip", "dict_itemiterator", "dict_reverseitemiterator", "odict_iterator", "itertools.zip_longest", "itertools.pairwise"].contains n && vs[0]? == some (rawInt a) then
     rule "for.unpacks-the-owned-tuple"
     updateField I 0 .none
   | _, _ => pure ()) Q E s := fun a => by
  refine wpAny_bind (wpAny_load ho ?_)
  rw [hc, hd]
  show wpAny _ _ (if (ownNs.contains n && _) = true then _ else _) _ _ _
  rw [hn]
  exact wpAny_pure h
 cases t <;> first | exact wpAny_pure h | (cases u <;> first | exact wpAny_pure h | exact key _)
theorem upsK (h' : Heap) (hh : ∀ b ∈ ia, (h'.get? b).isSome = true) : Ups ia Kp (heapK ia h' Kp) := ⟨fun b hb => if_neg hb, fun b hb => by unfold heapK; rw [if_pos hb]; exact hh b hb⟩
theorem heapK_in {b : Addr} {h' : Heap} (hb : b ∈ ia) : heapK ia h' Kp b = h'.get? b := if_pos hb
theorem Core.upH (C : Core Z Kp c hs s) {h' : Heap} (hh : ∀ b ∈ ia, (h'.get? b).isSome = true) (hia : ∀ b ∈ ia, (Kp b).isSome = true) (k : ∀ b o, b ∉ ia -> s.heap.get? b = some o -> h'.get? b = some o) :
  Core Z (heapK ia h' Kp) c hs { s with heap := h', toks := tk } := C.upK (upsK h' hh) (fun b hb => .inl (hia b hb)) k fun b hb => (heapK_in hb).symm
theorem not_one {b I : Addr} (h : b ∉ [I]) : b ≠ I := fun q => h (q ▸ .head _)
theorem not_two {b e I : Addr} (h : b ∉ [e, I]) : b ≠ e /\ b ≠ I := ⟨fun q => h (q ▸ .head _), fun q => h (q ▸ .tail _ (.head _))⟩
theorem drop_at {α : Type} : ∀ {l : List α} {i : Nat} {x : α} {r : List α}, l.drop i = x :: r -> l[i]? = some x /\ r = l.drop (i + 1)
 | [], 0, _, _, h => nomatch h
 | [], _ + 1, _, _, h => nomatch h
 | _ :: _, 0, _, _, h => by cases h; exact ⟨rfl, rfl⟩
 | _ :: l, i + 1, _, _, h => drop_at (l := l) (i := i) h
theorem drop_nil {α : Type} {l : List α} {i : Nat} (h : l.drop i = []) : l[i]? = none := List.getElem?_eq_none (List.drop_eq_nil_iff.mp h)
theorem reps_at {xs : List D} {vs : List Value} (h : RepDs Z c xs vs) {i : Nat} {x : D} (e : xs[i]? = some x) : ∃ v, vs[i]? = some v /\ RepD Z c x v := by
 obtain ⟨v, h1, h2⟩ := h.get i (List.getElem?_eq_some_iff.mp e).1
 rw [List.getD_eq_getElem?_getD, e] at h2
 exact ⟨v, h1, h2⟩
theorem reps_end {xs : List D} {vs : List Value} (h : RepDs Z c xs vs) {i : Nat} (e : xs.drop i = []) : vs.toArray[i]? = none := by
 have e := List.drop_eq_nil_iff.mp e
 rw [h.length] at e
 exact (List.getElem?_toArray ..).trans (List.getElem?_eq_none e)
theorem arr_at {vs : List Value} {i : Nat} {u : Value} (h : vs[i]? = some u) : vs.toArray[i]? = some u := (List.getElem?_toArray ..).trans h
noncomputable def Owned (Z : Stat) (c' : Cn) (hs : Hs) (s : Shared) (A : Around) (g : Option (Nat × D)) (ia : List Addr) (b : Bool) (v u : Value) (r : List D) (Kq : Addr -> Option Obj) : Prop :=
 ∀ (t : Expr) (Q' : Unit -> Shared -> Prop) (E' : Value -> Shared -> Prop), (b = true -> isTupE t = true) -> (∀ Kr s'', Ups ia Kq Kr -> Core Z Kr c' hs s'' -> ItSt Z Kr c' g ia b v r -> Q' () s'') -> wpAny (model Z.P Z.w) A (letOwnedTupleGo t v u) Q' E' s
noncomputable def NextC (Z : Stat) (Kp : Addr -> Option Obj) (c : Cn) (hs : Hs) (A : Around) (g : Option (Nat × D)) (ia : List Addr) (b : Bool) (v : Value) (x : D) (r : List D) (Q : Option Value -> Shared -> Prop) : Prop :=
 ∀ c' Kq u s', c.le c' -> Ups ia Kp Kq -> Core Z Kq c' hs s' -> RepD Z c' x u -> Owned Z c' hs s' A g ia b v u r Kq -> Q (some u) s'
theorem ups_refl {Kq : Addr -> Option Obj} (h : ∀ b ∈ ia, (Kq b).isSome = true) : Ups ia Kq Kq := ⟨fun _ _ => rfl, h⟩
theorem next_lst {I l : Addr} {i : Nat} {all : List D} {o : Obj} {Q : Option Value -> Shared -> Prop} (hh : A.handled = none) (C : Core Z Kp c hs s) (h1 : Kp I = some o) (h2 : o.cls = .type "list_iterator") (h3 : o.data = .fields #[.ref l, .int i 0]) (h4 : ListAt Z c g l all) (st : stays g hs)
  (hnil : all.drop i = [] -> ∀ s', Core Z (minus [I] Kp) c hs s' -> Q none s') (hcons : ∀ x r, all.drop i = x :: r -> NextC Z Kp c hs A g [I] false (.ref I) x r Q) : wpAny (model Z.P Z.w) A (pyNext (.ref I)) Q E s := by
 have hsome := some_one h1
 obtain ⟨vs, n, hl, R⟩ := h4.here C st
 have l1 : s.heap.IsList l vs.toArray := ⟨_, hl, rfl, n, rfl⟩
 have i1 : s.heap.IsListIter I l i := ⟨o, C.kp _ _ h1, h2, h3⟩
 cases hx : all.drop i with
 | nil => exact wpAny_pyNext_list_end hh i1 l1 (reps_end R hx) fun h' he => hnil hx _ (C.dropK (tk := s.toks) hsome fun b o hb e => he b o (not_one hb) e)
 | cons x r =>
  obtain ⟨e, rfl⟩ := drop_at hx
  obtain ⟨u, hu, Ru⟩ := reps_at R e
  refine wpAny_pyNext_list_item i1 l1 (arr_at hu) fun h' i2 hsb => ?_
  obtain ⟨o', e1, e2, e3⟩ := i2
  have hs' := some_one (Kp := h'.get?) e1
  have kI := (heapK_in (ia := [I]) (Kp := Kp) (h' := h') (b := I) (.head _)).trans e1
  have C' := C.upH (tk := s.toks) hs' hsome fun b o hb e => hsb.extBut b o (not_one hb) e
  exact hcons x _ hx c _ u _ (.refl c) (upsK h' hs') C' Ru fun t Q' E' _ hq => letOwned_plain e1 e2 e3 rfl (hq _ _ (ups_refl (some_one kI)) C' (.lst kI e2 e3 h4))
theorem next_rng {I : Addr} {x : Int} {n : Nat} {Q : Option Value -> Shared -> Prop} (hh : A.handled = none) (C : Core Z Kp c hs s) (h1 : Kp I = some { cls := .type "range_iterator", dict := none, data := .fields #[rawInt x, rawInt n, rawInt 1], slots := #[] })
  (hnil : intsFrom x n = [] -> ∀ s', Core Z (minus [I] Kp) c hs s' -> Q none s') (hcons : ∀ y r, intsFrom x n = y :: r -> NextC Z Kp c hs A g [I] false (.ref I) y r Q) : wpAny (model Z.P Z.w) A (pyNext (.ref I)) Q E s := by
 have hsome := some_one h1
 have i1 : IsRangeIter s.heap I x n 1 := C.kp _ _ h1
 cases n with
 | zero => exact wpAny_pyNext_range_end hh i1 (by decide) fun h' he => hnil rfl _ (C.dropK (tk := s.toks) hsome fun b o hb e => he b o (not_one hb) e)
 | succ n =>
  refine wpAny_pyNext_range_item i1 (Int.natCast_pos.mpr (Nat.succ_pos n)) fun h' i2 hsb => ?_
  have e1 : h'.get? I = some { cls := .type "range_iterator", dict := none, data := .fields #[rawInt (x + 1), rawInt n, rawInt 1], slots := #[] } := by
   rw [show ((n : Nat) : Int) = ((n + 1 : Nat) : Int) - 1 from by lia]; exact i2
  have hs' := some_one (Kp := h'.get?) e1
  have kI := (heapK_in (ia := [I]) (Kp := Kp) (h' := h') (b := I) (.head _)).trans e1
  have C' := C.upH (tk := s.toks + 1) hs' hsome fun b o hb e => hsb.extBut b o (not_one hb) e
  exact hcons (.int x) _ rfl c _ _ _ (.refl c) (upsK h' hs') C' ⟨_, rfl⟩ fun t Q' E' _ hq => letOwned_plain e1 rfl rfl rfl (hq _ _ (ups_refl (some_one kI)) C' (.rng kI))
theorem updK_some {K : Addr -> Option Obj} {a : Addr} {o : Obj} (h : ∀ b ∈ ia, (K b).isSome = true) : ∀ b ∈ a :: ia, (updK K a o b).isSome = true := fun b hb => by
 by_cases q : b = a
 ·rw [show updK K a o b = _ from if_pos q]; rfl
 ·rw [show updK K a o b = _ from if_neg q]; exact h b ((List.mem_cons.mp hb).resolve_left q)
theorem Core.upN (C : Core Z Kp c hs s) {h' : Heap} {a : Addr} {o : Obj} (fr : s.heap.get? a = none) (ea : h'.get? a = some o) (hh : ∀ b ∈ ia, (h'.get? b).isSome = true) (hia : ∀ b ∈ ia, (Kp b).isSome = true) (k : ∀ b o, b ∉ ia -> s.heap.get? b = some o -> h'.get? b = some o) :
  Core Z (heapK ia h' Kp) (c.addG a o) hs { s with heap := h', toks := tk } /\ c.le (c.addG a o) := by
 have ne1 : a ∉ ia := fun hm => let ⟨_, e⟩ := Option.isSome_iff_exists.mp (hia a hm); no2 fr (C.kp _ _ e)
 have kq : heapK ia h' Kp a = none := (if_neg ne1).trans (none_of_fresh C.kp fr)
 have C1 : Core Z (updK (heapK ia h' Kp) a o) c hs { s with heap := h', toks := tk } := by
  refine C.upK (ia := a :: ia) ⟨fun b hb => ?_, updK_some (upsK h' hh).here⟩ (fun b hb => ?_) (fun b o hb e' => k b o (fun q => hb (.tail _ q)) e') fun b hb => ?_
  ·exact (show updK (heapK ia h' Kp) a o b = heapK ia h' Kp b from if_neg fun (q : b = a) => hb (q ▸ .head _)).trans (if_neg fun (q : b ∈ ia) => hb (.tail _ q))
  ·rcases List.mem_cons.mp hb with q | hb
   ·exact .inr (q ▸ fr)
   ·exact .inl (hia b hb)
  ·by_cases q : b = a
   ·rw [q]; exact ea.trans (if_pos rfl).symm
   ·exact ((heapK_in ((List.mem_cons.mp hb).resolve_left q)).symm).trans (show updK (heapK ia h' Kp) a o b = heapK ia h' Kp b from if_neg q).symm
 exact C1.toG (if_pos rfl) kq fun b o' hb => (if_neg (ne_of kq hb)).trans hb
theorem next_enm {e I l : Addr} {i : Nat} {all : List D} {o : Obj} {old : Value} {Q : Option Value -> Shared -> Prop} (hh : A.handled = none) (C : Core Z Kp c hs s) (hne : e ≠ I) (he : Kp e = some { cls := .type "enumerate", dict := none, data := .fields #[.none, .bool false, .ref I, rawInt i, .none, old], slots := #[] })
  (h1 : Kp I = some o) (h2 : o.cls = .type "list_iterator") (h3 : o.data = .fields #[.ref l, .int i 0]) (h4 : ListAt Z c g l all) (st : stays g hs)
  (hnil : enumFrom i (all.drop i) = [] -> ∀ s', Core Z (minus [e, I] Kp) c hs s' -> Q none s') (hcons : ∀ x r, enumFrom i (all.drop i) = x :: r -> NextC Z Kp c hs A g [e, I] true (.ref e) x r Q) : wpAny (model Z.P Z.w) A (pyNext (.ref e)) Q E s := by
 have hsome := some_two he h1
 obtain ⟨vs, n, hl, R⟩ := h4.here C st
 have l1 : s.heap.IsList l vs.toArray := ⟨_, hl, rfl, n, rfl⟩
 have i1 : s.heap.IsListIter I l i := ⟨o, C.kp _ _ h1, h2, h3⟩
 have e1 : IsEnum s.heap e I i old := C.kp _ _ he
 cases hx : all.drop i with
 | nil => exact wpAny_pyNext_enum_end hh e1 i1 l1 (reps_end R hx) fun h' he' => hnil (by rw [hx]; rfl) _ (C.dropK (tk := s.toks) hsome fun b o hb e => he' b o (not_two hb).2 e)
 | cons x r =>
  obtain ⟨q, rfl⟩ := drop_at hx
  obtain ⟨u, hu, Ru⟩ := reps_at R q
  refine wpAny_pyNext_enum_item e1 i1 l1 (arr_at hu) hne fun h' eo i2 ht hz hk => ?_
  obtain ⟨o', f1, f2, f3⟩ := i2
  have hs' := some_two (Kp := h'.get?) eo f1
  obtain ⟨C2, le⟩ := C.upN (tk := s.toks + 1) (o := tupO [.int i s.toks, u] 0) (fresh_size _) ht hs' hsome fun b o hb e => hk b o (not_two hb).1 (not_two hb).2 e
  refine hcons (.tup [.int i, x]) (enumFrom (i + 1) _) (by rw [hx]; rfl) _ _ _ _ le (upsK h' hs') C2 ⟨_, [.int i s.toks, u], 0, rfl, Cn.addG_get _ _ _, _, _, rfl, ⟨_, rfl⟩, u, [], rfl, RepD.mono le _ _ Ru, rfl⟩ fun t Q' E' htup hq => ?_
  have htup := htup rfl
  cases t with
  | Tuple =>
   refine wpAny_letOwnedTupleGo_enum eo fun h'' eo' hsb => ?_
   have f1' := (hsb.2 I (Ne.symm hne)).trans f1
   have hs'' := some_two (Kp := h''.get?) eo' f1'
   have C3 := C2.upH (tk := s.toks + 1) hs'' (upsK h' hs').here fun b o hb e' => hsb.extBut b o (not_two hb).1 e'
   exact hq _ _ (upsK h'' hs'') C3 (.enm (old := u) hne ((heapK_in (.head _)).trans eo') ((heapK_in (.tail _ (.head _))).trans f1') f2 f3 (h4.mono le))
  | _ => exact ff htup
theorem next_ok {v : Value} {b : Bool} {xs : List D} {Q : Option Value -> Shared -> Prop} (hh : A.handled = none) (C : Core Z Kp c hs s) (I : ItSt Z Kp c g ia b v xs) (st : stays g hs)
  (hnil : xs = [] -> ∀ s', Core Z (minus ia Kp) c hs s' -> Q none s') (hcons : ∀ x r, xs = x :: r -> NextC Z Kp c hs A g ia b v x r Q) : wpAny (model Z.P Z.w) A (pyNext v) Q E s := by
 cases I with
 | lst h1 h2 h3 h4 => exact next_lst hh C h1 h2 h3 h4 st hnil hcons
 | rng h1 => exact next_rng hh C h1 hnil hcons
 | enm hne he h1 h2 h3 h4 => exact next_enm hh C hne he h1 h2 h3 h4 st hnil hcons
end
section
variable {Z : Stat} {Kp Kq : Addr -> Option Obj} {c : Cn} {hs : Hs} {s : Shared} {A : Around} {E : Value -> Shared -> Prop} {tk : Nat} {ia : List Addr} {g : Option (Nat × D)} {Fg : Frag} {env : Env} {sc : Names} {loc : Loc} {d : Nat} {rec : RecE}
theorem folded_ok {e : Expr} (h : notSet e = true) (x : Value) : foldedSetIterable e env x = pure x := by cases e <;> first | rfl | exact ff h
inductive ItemsAt (Z : Stat) (c : Cn) (h : Heap) (g : Option (Nat × D)) (all : List D) (v : Value) : Prop
 | mk (l : Addr) (vs : List Value) (n : Nat) (e : v = .ref l) (hl : h.get? l = some (listO vs n)) (LA : ListAt Z c g l all) : ItemsAt Z c h g all v
theorem items_at (C : Core Z Kp c hs s) {V : V} {v : Value} {all : List D} (R : RepV Z c V v) (h : itemsD (deref hs V) = some all) (hr : isRng (deref hs V) = false) :
  ItemsAt Z c s.heap (guardOf V hs) all v := by
 cases V with
 | d x => cases x with
  | list xs =>
   cases some_eq h
   obtain ⟨a, ws, k, rfl, gg, r⟩ := R
   exact ⟨a, ws, k, rfl, C.sub _ _ gg, ws, k, gg, r⟩
  | «ints» xs =>
   cases some_eq h
   obtain ⟨a, ws, k, rfl, gg, r⟩ := R
   exact ⟨a, ws, k, rfl, C.sub _ _ gg, ws, k, gg, ints_iff.mp r⟩
  | rng n => exact nomatch hr
  | _ => exact none_some h
 | loc m =>
  obtain ⟨a, e1, rfl⟩ := R
  obtain ⟨_, vs, ep, e, as⟩ := C.locAt e1 (by
   revert h
   show itemsD (hs.hp.getD m .none) = _ -> _
   cases hs.hp.getD m .none <;> first | exact fun _ => rfl | exact fun b => none_some b)
  exact ⟨a, vs, ep, rfl, e, e1, h, hr⟩
structure Made (Z : Stat) (Kp : Addr -> Option Obj) (c : Cn) (hs : Hs) (t : Expr) (g : Option (Nat × D)) (v : Value) (xs : List D) (ia : List Addr) (Kq : Addr -> Option Obj) (s' : Shared) (b : Bool) : Prop where
 core : Core Z Kq c hs s'
 same : ∀ x, x ∉ ia -> Kq x = Kp x
 new : ∀ x ∈ ia, Kp x = none
 it : ItSt Z Kq c g ia b v xs
 tup : b = true -> isTupE t = true
theorem Core.mk1 (C : Core Z Kp c hs s) {o : Obj} (hf : o.isFreed = false) : Core Z (updK Kp s.heap.objs.size o) c hs { s with heap := s.heap.push o, toks := tk } :=
 C.newK (fun b o e => Heap.get?_push_of_some _ e) (fresh_size _) (Heap.get?_push_size _ hf)
theorem intsFrom_eq : ∀ (n : Nat) (x : Int), intsFrom x n = (List.range n).map fun (i : Nat) => D.int (x + i)
 | 0, _ => rfl
 | n + 1, x => by
  rw [List.range_succ_eq_map, List.map_cons, List.map_map]
  refine congr (congrArg _ (congrArg D.int (Int.add_zero x).symm)) ((intsFrom_eq n (x + 1)).trans (List.map_congr_left fun i _ => congrArg D.int ?_))
  show x + 1 + (i : Int) = x + ((i + 1 : Nat) : Int)
  rw [Int.natCast_succ, Int.add_assoc, Int.add_comm 1]
theorem Core.made1 (C : Core Z Kp c hs s) {t : Expr} {xs : List D} {o : Obj} (hf : o.isFreed = false) (I : ItSt Z (updK Kp s.heap.objs.size o) c g [s.heap.objs.size] false (.ref s.heap.objs.size) xs) :
  Made Z Kp c hs t g (.ref s.heap.objs.size) xs [s.heap.objs.size] (updK Kp s.heap.objs.size o) { s with heap := s.heap.push o, toks := tk } false :=
 ⟨C.mk1 (tk := tk) hf, fun _ hx => if_neg (not_one hx), fun _ hx => List.mem_singleton.mp hx ▸ none_of_fresh C.kp (fresh_size _), I, fun h => nomatch h⟩
theorem isRng_eq {d : D} (h : isRng d = true) : ∃ n, d = .rng n := by
 cases d with
 | rng n => exact ⟨n, rfl⟩
 | _ => exact ff h
theorem pyIter_ok (C : Core Z Kp c hs s) {t : Expr} {V : V} {v : Value} {all : List D} {Q : Value -> Shared -> Prop} (R : RepV Z c V v) (h : itemsD (deref hs V) = some all) (hsm : smallR (deref hs V))
  (k : ∀ ia Kq u s', Made Z Kp c hs t (guardOf V hs) u all ia Kq s' false -> Q u s') : wpAny (model Z.P Z.w) A (pyIter v) Q E s := by
 cases hr : isRng (deref hs V) with
 | false =>
  obtain ⟨l, vs, n, rfl, hl, LA⟩ := items_at C R h hr
  exact wpAny_pyIter_list (items := vs.toArray) ⟨_, hl, rfl, n, rfl⟩ (k _ _ _ _ (C.made1 (tk := s.toks) rfl (.lst (i := 0) (if_pos rfl) rfl rfl LA)))
 | true =>
  obtain ⟨n, hd⟩ := isRng_eq hr
  obtain ⟨a, t', u, x, rfl, gg⟩ := view_d C R hd rfl
  rw [hd] at h hsm
  have hn : -(2 ^ 62) < n /\ n < 2 ^ 62 := hsm
  have hsz : Builtin.Range.rangeSize 0 n 1 = n.toNat := by rw [rangeSize_one]; split <;> lia
  refine wpAny_pyIter_range (C.sub _ _ gg) (small_one (by decide) (by decide) (by lia) (by lia)) ?_
  rw [hsz]
  refine k _ _ _ _ (C.made1 (tk := s.toks) rfl ?_)
  have : all = intsFrom 0 n.toNat := by
   rw [intsFrom_eq, <- some_eq h]
   exact List.map_congr_left fun i _ => congrArg D.int (Int.zero_add _).symm
  rw [this]
  exact .rng (if_pos rfl)
theorem isGI_eq {k : Option NameKind} (h : isGI k = true) : k = some .globalImplicit := by
 cases k with
 | none => exact ff h
 | some k => cases k <;> first | rfl | exact ff h
theorem isEnumN_iff {X : PX} {x : Str} (h : isEnumN X sc x = true) : sLook x sc = some .globalImplicit /\ glob X x = some (.bi .enum) := by
 obtain ⟨h1, h2⟩ := and_t h
 refine ⟨isGI_eq h1, ?_⟩
 cases q : glob X x with
 | none => rw [q] at h2; exact ff h2
 | some d =>
  rw [q] at h2
  cases d with
  | bi b => cases b <;> first | rfl | exact ff h2
  | _ => exact ff h2
inductive EnumIs (X : PX) (sc : Names) (e it : Expr) : Prop
 | mk (x : Str) (px p : Pos) (q : it = .Call (.Name x px) [e] [] p) (n : isEnumN X sc x = true) (k : okArgsE [e] = true) : EnumIs X sc e it
theorem callP_eq {e : Expr} {q : Expr × List Expr × List Keyword} (h : callP e = some q) : ∃ p, e = .Call q.1 q.2.1 q.2.2 p := by
 cases e with
 | Call f args kws p => exact ⟨p, some_eq h ▸ rfl⟩
 | _ => exact none_some h
theorem nameP1_eq {e : Expr} {x : Str} (h : nameP1 e = some x) : ∃ p, e = .Name x p := by
 cases e with
 | Name y p => exact ⟨p, some_eq h ▸ rfl⟩
 | _ => exact none_some h
theorem enumOf_iff {X : PX} {it e : Expr} (h : enumOf X sc it = some e) : EnumIs X sc e it := by
 obtain ⟨q, h1, h⟩ := optB_iff h
 obtain ⟨x, h2, h⟩ := optB_iff h
 obtain ⟨e', h3, h⟩ := optB_iff h
 obtain ⟨h4, h⟩ := noB_iff h
 obtain ⟨h4, h6⟩ := and_t (not_t' h4)
 obtain ⟨h4, h5⟩ := and_t h4
 obtain ⟨p, e1⟩ := callP_eq h1
 obtain ⟨px, e2⟩ := nameP1_eq h2
 have e := some_eq h
 exact ⟨x, px, p, by rw [e1, e2, one_eq h3, List.isEmpty_iff.mp h4, e], h5, e ▸ h6⟩
theorem Core.enum_new (C : Core Z Kp c hs s) {h' : Heap} {o o2 : Obj} (e1 : h'.get? (s.heap.objs.size + 1) = some o) (e2 : h'.get? s.heap.objs.size = some o2) (k : ∀ b o, s.heap.get? b = some o -> h'.get? b = some o) :
  Core Z (heapK [s.heap.objs.size + 1, s.heap.objs.size] h' Kp) c hs { s with heap := h', toks := tk } /\ ∀ x ∈ [s.heap.objs.size + 1, s.heap.objs.size], Kp x = none := by
 have fr : ∀ b ∈ [s.heap.objs.size + 1, s.heap.objs.size], s.heap.get? b = none := fun b hb =>
  (List.mem_cons.mp hb).elim (fun q => q ▸ fresh_ge (Nat.le_succ _)) fun hb => List.mem_singleton.mp hb ▸ fresh_size _
 exact ⟨C.upK (upsK h' (some_two (Kp := h'.get?) e1 e2)) (fun b hb => .inr (fr b hb)) (fun b o _ e => k b o e) fun b hb => (heapK_in hb).symm, fun x hx => none_of_fresh C.kp (fr x hx)⟩
theorem enum_ok (B : BaseOK Z Fg) (S : SE Z d rec) (O : EnvOK env sc) (a : AOK d A) (FI : FrameIn Z Kp c env loc) (C : Core Z Kp c hs s) {t e : Expr} {x : Str} {px p : Pos} {K : List D -> Option (Nat × D) -> Hs -> Prop} {Q : Value -> Shared -> Prop}
  (hn : isEnumN Z.X sc x = true) (hargs : okArgsE [e] = true) (htup : isTupE t = true) (h : rec sc false e loc hs fun v hs => need (!isRng (deref hs v)) (optP (itemsD (deref hs v)) fun xs => K (enumFrom 0 xs) (guardOf v hs) hs))
  (k : ∀ c' ia Kq u s' b xs g hs', c.le c' -> Made Z Kp c' hs' t g u xs ia Kq s' b -> K xs g hs' -> Q u s') :
  wpAny (model Z.P Z.w) A (eval (.Call (.Name x px) [e] [] p) env) (fun x s₁ => wpAny (model Z.P Z.w) A (pyIter x) Q E s₁) E s := by
 obtain ⟨hk, hg⟩ := isEnumN_iff hn
 have e1 : eval (.Call (.Name x px) [e] [] p) env = (do callWith p (<- eval (.Name x px) env) [] (backTo p (starEach [e] env)) (backToKw p (keywordEach [] env))) := rfl
 rw [e1]
 refine wpAny_bind (name_ok B O FI (K := fun v hs' => v = .d (.bi .enum) /\ hs' = hs) (fun c₁ V₁ v₁ hs₁ s₁ l₁ C₁ R₁ hV => ?_) C (optP_of hk (optP_of hg ⟨rfl, rfl⟩)))
 obtain ⟨rfl, rfl⟩ := hV
 cases (R₁ : v₁ = biV .enum)
 refine callWith_ok (K := fun Vs hs => optP (one Vs) fun v => need (!isRng (deref hs v)) (optP (itemsD (deref hs v)) fun xs => K (enumFrom 0 xs) (guardOf v hs) hs)) S O a (FI.mono l₁) C₁ (okArgsE_iff hargs).1 h (fun _ _ _ s' _ _ _ => keeps_bi _ _) (fun c₂ Vs vs hs₂ s₂ l₂ C₂ R₂ h₂ => ?_)
 obtain ⟨V, eV, h₂⟩ := optP_iff h₂
 rw [one_eq eV] at R₂
 obtain ⟨v, r, rfl, RV, rfl⟩ := R₂
 obtain ⟨hr, h₂⟩ := need_iff h₂
 obtain ⟨all, hall, h₂⟩ := optP_iff h₂
 obtain ⟨l, vs, n, rfl, hl, LA⟩ := items_at C₂ RV hall (not_t hr)
 refine call_enumerate_list (items := vs.toArray) ⟨_, hl, rfl, n, rfl⟩ fun h' he hit hz hk' => wpAny_pyIter_enum he ?_
 obtain ⟨o, f1, f2, f3⟩ := hit
 obtain ⟨C₃, fr⟩ := C₂.enum_new (tk := s₂.toks) he f1 hk'
 exact k c₂ _ _ _ _ true _ _ _ (l₁.trans l₂) ⟨C₃, fun x hx => if_neg hx, fr, .enm (i := 0) (old := .none) (Nat.succ_ne_self _) ((heapK_in (.head _)).trans he) ((heapK_in (.tail _ (.head _))).trans f1) f2 f3 LA, fun _ => htup⟩ h₂
theorem iter_ok (B : BaseOK Z Fg) (S : SE Z d rec) (O : EnvOK env sc) (a : AOK d A) (FI : FrameIn Z Kp c env loc) (C : Core Z Kp c hs s) {t it : Expr} {K : List D -> Option (Nat × D) -> Hs -> Prop} {Q : Value -> Shared -> Prop}
  (h : iterE (fun e => rec sc false e loc) (enumOf Z.X sc) t it hs K)
  (k : ∀ c' ia Kq u s' b xs g hs', c.le c' -> Made Z Kp c' hs' t g u xs ia Kq s' b -> K xs g hs' -> Q u s') :
  wpAny (model Z.P Z.w) A (eval it env) (fun x s₁ => wpAny (model Z.P Z.w) A (pyIter x) Q E s₁) E s := by
 rcases orP_iff h with ⟨e, he, h'⟩ | h
 ·obtain ⟨htup, h'⟩ := need_iff h'
  obtain ⟨x, px, p, rfl, hn, hargs⟩ := enumOf_iff he
  exact enum_ok B S O a FI C hn hargs htup h' k
 ·refine S.ev O a FI C h fun c₁ V v hs₁ s₁ l C₁ F₁ R h₁ => ?_
  obtain ⟨hsm, h₁⟩ := h₁
  obtain ⟨all, hall, h₁⟩ := optP_iff h₁
  exact pyIter_ok (t := t) C₁ R hall hsm fun ia Kq u s' M => k c₁ ia Kq u s' false all _ hs₁ l M h₁
end
inductive CellW (K₀ Kp : Addr -> Option Obj) (env : Env) (x : Str) : Prop
 | mk (a : Addr) (o : Obj) (v : Option Value) (h1 : env.cells.lookup x = some a) (h2 : Kp a = some o) (h3 : o.data = .cell v) (h4 : K₀ a = none) (h5 : a ≠ env.locals) : CellW K₀ Kp env x
structure FrameW (Z : Stat) (K₀ Kp : Addr -> Option Obj) (c : Cn) (env : Env) (loc : Loc) : Prop where
 in_ : FrameIn Z Kp c env loc
 le : ∀ b o, K₀ b = some o -> Kp b = some o
 freeL : K₀ env.locals = none
 cells : ∀ x, env.kindOf x = some .cell -> CellW K₀ Kp env x
 apart : ∀ x y a, env.kindOf x = some .cell -> env.kindOf y = some .cell -> env.cells.lookup x = some a -> env.cells.lookup y = some a -> x = y
 nofree : ∀ x, env.kindOf x ≠ some .free
theorem FrameW.mono {Z : Stat} {K₀ Kp : Addr -> Option Obj} {c c' : Cn} {env : Env} {loc : Loc} (l : c.le c') (h : FrameW Z K₀ Kp c env loc) : FrameW Z K₀ Kp c' env loc := ⟨h.in_.mono l, h.le, h.freeL, h.cells, h.apart, h.nofree⟩
theorem sLook_cons {β : Type} {x y : Str} {u : β} {r : List (Str × β)} : sLook y ((x, u) :: r) = if y = x then some u else sLook y r := by
 show (if sEq y x = true then some u else sLook y r) = _
 by_cases q : y = x
 ·rw [if_pos q, if_pos (sEq_iff.mpr q)]
 ·rw [if_neg q, if_neg fun h => q (sEq_iff.mp h)]
theorem putL_cons {x z : Str} {U u : V} {r : Loc} : putL x U ((z, u) :: r) = if x = z then (x, U) :: r else (z, u) :: putL x U r := by
 show (if sEq x z = true then (x, U) :: r else (z, u) :: putL x U r) = _
 by_cases q : x = z
 ·rw [if_pos q, if_pos (sEq_iff.mpr q)]
 ·rw [if_neg q, if_neg fun h => q (sEq_iff.mp h)]
theorem putL_look (x y : Str) (V : V) : ∀ loc : Loc, sLook y (putL x V loc) = if y = x then some V else sLook y loc
 | [] => sLook_cons
 | (z, u) :: r => by
  rw [putL_cons, sLook_cons]
  by_cases h : x = z
  ·rw [if_pos h, sLook_cons]
   by_cases q : y = x
   ·rw [if_pos q, if_pos q]
   ·rw [if_neg q, if_neg q, if_neg (h ▸ q)]
  ·rw [if_neg h, sLook_cons, putL_look x y V r]
   by_cases q : y = z
   ·rw [if_pos q, if_pos q, if_neg fun e => h (e.symm.trans q)]
   ·rw [if_neg q, if_neg q]
theorem putL_cases {P : Prop} {x y : Str} {u U : V} {loc : Loc} (e : sLook y (putL x u loc) = some U) (h1 : y = x -> u = U -> P) (h2 : y ≠ x -> sLook y loc = some U -> P) : P := by
 rw [putL_look] at e
 by_cases q : y = x
 ·rw [if_pos q] at e; exact h1 q (some_eq e)
 ·rw [if_neg q] at e; exact h2 q e
section
variable {Z : Stat} {K₀ Kp Kq : Addr -> Option Obj} {c : Cn} {hs : Hs} {s : Shared} {A : Around} {E : Value -> Shared -> Prop} {tk : Nat} {ia : List Addr} {g : Option (Nat × D)} {Fg : Frag} {env : Env} {sc : Names} {loc : Loc} {d : Nat} {rec : RecE}
theorem storable_iff {k : Option NameKind} (h : storable k = true) : k = some .local \/ k = some .cell := by
 cases k with
 | none => exact ff h
 | some k => cases k <;> first | exact .inl rfl | exact .inr rfl | exact ff h
theorem cell_kind (W : FrameW Z K₀ Kp c env loc) {y : Str} (hy : env.kindOf y = some .cell \/ env.kindOf y = some .free) : env.kindOf y = some .cell := hy.resolve_right (W.nofree y)
theorem kinds {x y : Str} (h : env.kindOf x = some .local) (h' : env.kindOf y = some .cell) : y ≠ x := fun q => by rw [q, h] at h'; exact nomatch some_eq h'
theorem not_mem1 {a b : Addr} (h : b ≠ a) : b ∉ [a] := fun q => h (List.mem_singleton.mp q)
theorem ups_upd {a : Addr} {o : Obj} : Ups [a] Kp (updK Kp a o) := ⟨fun b hb => upd_ne (not_one hb), some_one (if_pos rfl)⟩
theorem storeN_ok (O : EnvOK env sc) (F : FrameIn Z Kp c env loc) (C : Core Z Kp c hs s) {x : Str} {V : V} {v : Value} (hk : env.kindOf x = some .local) (R : RepV Z c V v) {Q : Unit -> Shared -> Prop}
  (k : ∀ Kq s', FrameIn Z Kq c env (putL x V loc) -> Core Z Kq c hs s' -> Ups [env.locals] Kp Kq -> Q () s') : wpAny (model Z.P Z.w) A (storeName env x v) Q E s := by
 have hp : (env.scope.kind == .class || (env.scope.kind == .module && env.locals != env.globals)) = false := by rw [O.kind]; rfl
 obtain ⟨o, es, ep, h1, h2, h3, h4⟩ := F.ns
 refine wpAny_storeName_local hk ⟨o, es, ep, C.kp _ _ h1, h2, h3, fun n => rfl⟩ (fun h' hn hsb => ?_) hp
 obtain ⟨o', es', ep', e1, e2, e3, e4⟩ := hn
 refine k _ _ ⟨⟨o', es', ep', if_pos rfl, e2, e3, fun y U e hy => ?_⟩, fun y U e hy => ?_⟩ (C.setK (tk := s.toks + 1) h1 (fun b o hb e => hsb.extBut b o hb e) e1) ups_upd
 ·rw [show _ = if y = x then some v else _ from e4 y]
  refine putL_cases e (fun q r => ?_) fun q e => ?_
  ·rw [if_pos q]; exact ⟨v, rfl, r ▸ R⟩
  ·rw [if_neg q]; exact h4 y U e hy
 ·refine putL_cases e (fun q _ => ?_) fun q e => ?_
  ·rw [q, hk] at hy; exact hy.elim (fun q => nomatch some_eq q) fun q => nomatch some_eq q
  obtain ⟨a, u, ob, f1, f2, f3, f4⟩ := F.cell y U e hy
  exact ⟨a, u, ob, f1, (upd_ne fun (r : a = env.locals) => by rw [r, h1] at f2; rw [<- some_eq f2, h2] at f3; exact nomatch f3).trans f2, f3, f4⟩
theorem store_local (O : EnvOK env sc) (W : FrameW Z K₀ Kp c env loc) (C : Core Z Kp c hs s) {x : Str} {V : V} {v : Value} (hk : env.kindOf x = some .local) (R : RepV Z c V v) {Q : Unit -> Shared -> Prop}
  (k : ∀ Kq s', FrameW Z K₀ Kq c env (putL x V loc) -> Core Z Kq c hs s' -> Q () s') : wpAny (model Z.P Z.w) A (storeName env x v) Q E s :=
 storeN_ok O W.in_ C hk R fun Kq s' F' C' U => k Kq s' ⟨F', fun b o e => (U.same b (not_mem1 (ne_of W.freeL e))).trans (W.le b o e), W.freeL, fun y hy =>
  let ⟨a', o', v', g1, g2, g3, g4, g5⟩ := W.cells y hy; ⟨a', o', v', g1, (U.same a' (not_mem1 g5)).trans g2, g3, g4, g5⟩, W.apart, W.nofree⟩ C'
theorem store_cell (O : EnvOK env sc) (W : FrameW Z K₀ Kp c env loc) (C : Core Z Kp c hs s) {x : Str} {V : V} {v : Value} (hk : env.kindOf x = some .cell) (R : RepV Z c V v) {Q : Unit -> Shared -> Prop}
  (k : ∀ Kq s', FrameW Z K₀ Kq c env (putL x V loc) -> Core Z Kq c hs s' -> Q () s') : wpAny (model Z.P Z.w) A (storeName env x v) Q E s := by
 obtain ⟨o, es, ep, h1, h2, h3, h4⟩ := W.in_.ns
 obtain ⟨a, oc, vc, g1, g2, g3, g4, g5⟩ := W.cells x hk
 refine wpAny_storeName_cell O.kind hk g1 ⟨oc, C.kp _ _ g2, g3⟩ fun h' hv hsb => ?_
 obtain ⟨o', e1, e2⟩ := hv
 refine k _ _ ⟨⟨⟨o, es, ep, (upd_ne (Ne.symm g5)).trans h1, h2, h3, fun y U e hy => putL_cases e (fun q _ => absurd q.symm (kinds hy hk)) fun _ e => h4 y U e hy⟩, fun y U e hy => ?_⟩, fun b ob e => (upd_ne (ne_of g4 e)).trans (W.le b ob e), W.freeL, fun y hy => ?_, W.apart, W.nofree⟩ (C.setK (tk := s.toks) g2 (fun b o hb e => hsb.extBut b o hb e) e1)
 ·refine putL_cases e (fun q r => q ▸ r ▸ ⟨a, v, o', g1, if_pos rfl, e2, R⟩) fun q e => ?_
  obtain ⟨a2, u, ob, f1, f2, f3, f4⟩ := W.in_.cell y U e hy
  exact ⟨a2, u, ob, f1, (upd_ne fun (r : a2 = a) => q (W.apart y x a2 (cell_kind W hy) hk f1 (by rw [r]; exact g1))).trans f2, f3, f4⟩
 ·obtain ⟨a2, o2, v2, f1, f2, f3, f4, f5⟩ := W.cells y hy
  by_cases q : a2 = a
  ·exact ⟨a2, o', some v, f1, if_pos q, e2, f4, f5⟩
  ·exact ⟨a2, o2, v2, f1, (upd_ne q).trans f2, f3, f4, f5⟩
theorem store_ok (O : EnvOK env sc) (W : FrameW Z K₀ Kp c env loc) (C : Core Z Kp c hs s) {x : Str} {V : V} {v : Value} (hk : storable (sLook x sc) = true) (R : RepV Z c V v) {Q : Unit -> Shared -> Prop}
  (k : ∀ Kq s', FrameW Z K₀ Kq c env (putL x V loc) -> Core Z Kq c hs s' -> Q () s') : wpAny (model Z.P Z.w) A (storeName env x v) Q E s := by
 have hko : sLook x sc = env.kindOf x := by
  rw [sLook_eq, <- O.names]; rfl
 rw [hko] at hk
 exact (storable_iff hk).elim (fun hk => store_local O W C hk R k) fun hk => store_cell O W C hk R k
theorem bind_ok (O : EnvOK env sc) (W : FrameW Z K₀ Kp c env loc) (C : Core Z Kp c hs s) {x : Str} {V : V} {v : Value} (hk : storable (sLook x sc) = true) (R : RepV Z c V v) {Q : Unit -> Shared -> Prop}
  (k : ∀ Kq s', FrameW Z K₀ Kq c env (putL x V loc) -> Core Z Kq c hs s' -> Q () s') : wpAny (model Z.P Z.w) A (bindName env x v) Q E s := by
 unfold bindName
 exact wpAny_bind (wpAny_holding (wpAny_point (wpAny_bind (wpAny_mono (store_ok (Q := Q) O W C hk R k) (fun _ _ h => wpAny_point h) fun _ _ h => h))))
theorem FrameW.ev (S : SE Z d rec) (O : EnvOK env sc) (a : AOK d A) (W : FrameW Z K₀ Kp c env loc) (C : Core Z Kp c hs s) {m : Bool} {e : Expr} {K : KE} {Q : Value -> Shared -> Prop} (h : rec sc m e loc hs K)
  (k : ∀ c' V v hs' s', c.le c' -> Core Z Kp c' hs' s' -> FrameW Z K₀ Kp c' env loc -> RepV Z c' V v -> K V hs' -> Q v s') : wpAny (model Z.P Z.w) A (eval e env) Q E s :=
 S.ev O a W.in_ C h fun c' V v hs' s' l C' _ R kk => k c' V v hs' s' l C' (W.mono l) R kk
theorem sliceP_eq {i : Expr} {q : Option Expr × Option Expr × Option Expr} (h : sliceP i = some q) (hn : q.2.2.isNone = true) : ∃ p, i = .Slice q.1 q.2.1 none p := by
 cases i with
 | Slice lo hi st p =>
  cases some_eq h
  cases st with
  | none => exact ⟨p, rfl⟩
  | some _ => exact ff hn
 | _ => exact none_some h
theorem asg1_ok (B : BaseOK Z Fg) (S : SE Z d rec) (O : EnvOK env sc) (a : AOK d A) (W : FrameW Z K₀ Kp c env loc) (C : Core Z Kp c hs s) {t : Expr} {V : V} {v : Value} {K : Loc -> Hs -> Prop} {Q : Unit -> Shared -> Prop}
  (R : RepV Z c V v) (h : asg1 sc (rec sc false) t V loc hs K)
  (k : ∀ c' Kq loc' hs' s', c.le c' -> FrameW Z K₀ Kq c' env loc' -> Core Z Kq c' hs' s' -> K loc' hs' -> Q () s') : wpAny (model Z.P Z.w) A (assign t env v) Q E s := by
 cases t with
 | Name x p =>
  obtain ⟨hk, h⟩ := need_iff h
  rw [arm_assign_Name]
  exact wpAny_bind (wpAny_standAt (bind_ok O W C hk R fun Kq s' W' C' => k c Kq _ _ s' (.refl c) W' C' h))
 | Attribute o x p =>
  rw [arm_assign_Attribute]
  refine wpAny_bind (wpAny_holding (W.ev S O a C h fun c₁ V₁ v₁ hs₁ s₁ l₁ C₁ W₁ R₁ h₁ => wpAny_bind (wpAny_standAt (wpAny_bind (wpAny_holding ?_)))))
  exact setAttrV_ok B.cls (fun c₂ hs₂ s₂ l₂ C₂ hk => PyProof.Rows.wpAny_release' (k c₂ Kp loc hs₂ s₂ (l₁.trans l₂) (W₁.mono l₂) C₂ hk)) C₁ R₁ (R.mono l₁) h₁
 | Subscript o i p =>
  rw [arm_assign_Subscript]
  rcases orP_iff h with ⟨q, eq, h⟩ | h
  ·obtain ⟨hst, h⟩ := need_iff h
   obtain ⟨sp, rfl⟩ := sliceP_eq eq hst
   refine wpAny_bind (wpAny_holding (W.ev S O a C h fun c₁ V₁ v₁ hs₁ s₁ l₁ C₁ W₁ R₁ h₁ => wpAny_bind (wpAny_holding ?_)))
   rw [arm_eval_Slice]
   refine wpAny_bind (part_ok S O a W₁.in_ C₁ h₁ fun c₂ V₂ v₂ hs₂ s₂ l₂ C₂ F₂ R₂ h₂ => wpAny_bind (wpAny_holding (part_ok S O a F₂ C₂ h₂ fun c₃ V₃ v₃ hs₃ s₃ l₃ C₃ F₃ R₃ h₃ => ?_)))
   refine wpAny_bind (wpAny_holding (wpAny_pure (wpAny_newObj_type ?_ (by size_fits))))
   have hsl := Heap.IsSliceOf.new s₃.heap v₂ v₃ .none
   have C₄ := C₃.keepTo (tk := s₃.toks) (h' := s₃.heap.push { cls := .type "slice", data := .fields #[v₂, v₃, .none] }) fun b o e => Heap.get?_push_of_some _ e
   refine wpAny_bind (wpAny_standAt (wpAny_bind (wpAny_holding ?_)))
   exact setSliceV_ok (fun c₄ hs₄ s₄ l₄ C₅ hk => PyProof.Rows.wpAny_release' (k c₄ Kp loc hs₄ s₄ (((l₁.trans l₂).trans l₃).trans l₄) (((W₁.mono l₂).mono l₃).mono l₄) C₅ hk)) C₄ ((R₁.mono l₂).mono l₃) (R₂.mono l₃) R₃ (((R.mono l₁).mono l₂).mono l₃) hsl h₃
  ·refine wpAny_bind (wpAny_holding (W.ev S O a C h fun c₁ V₁ v₁ hs₁ s₁ l₁ C₁ W₁ R₁ h₁ => wpAny_bind (wpAny_holding (W₁.ev S O a C₁ h₁ fun c₂ V₂ v₂ hs₂ s₂ l₂ C₂ W₂ R₂ h₂ => wpAny_bind (wpAny_standAt (wpAny_bind (wpAny_holding ?_)))))))
   exact setItemV_ok (fun c₃ hs₃ s₃ l₃ C₃ hk => PyProof.Rows.wpAny_release' (k c₃ Kp loc hs₃ s₃ ((l₁.trans l₂).trans l₃) (W₂.mono l₃) C₃ hk)) C₂ (R₁.mono l₂) R₂ ((R.mono l₁).mono l₂) h₂
 | _ => exact False.elim h
theorem assign_one {t : Expr} {ts : List Expr} (h : noStar (t :: ts) = true) : assignEach (t :: ts) env = (false, assign t env) :: assignEach ts env := by
 cases t <;> first | rfl | exact ff (and_t h).1
theorem assignEach_is : ∀ {ts : List Expr}, noStar ts = true -> (assignEach ts env).length = ts.length /\ (assignEach ts env).findIdx? (·.1) = none /\ (assignEach ts env).map (·.2) = ts.map fun t => assign t env
 | [], _ => ⟨rfl, rfl, rfl⟩
 | t :: ts, h => by
  obtain ⟨i1, i2, i3⟩ := assignEach_is (and_t h).2
  rw [assign_one h]
  exact ⟨congrArg Nat.succ i1, by rw [List.findIdx?_cons, i2]; rfl, congrArg (_ :: ·) i3⟩
theorem asgs_ok (B : BaseOK Z Fg) (S : SE Z d rec) (O : EnvOK env sc) (a : AOK d A) {Q : Unit -> Shared -> Prop} {K : Loc -> Hs -> Prop} : ∀ {ts : List Expr} {ds : List D} {vs : List Value} {c : Cn} {Kp : Addr -> Option Obj} {loc : Loc} {hs : Hs} {s : Shared}, FrameW Z K₀ Kp c env loc -> Core Z Kp c hs s ->
  RepDs Z c ds vs -> asgs sc (rec sc false) ts ds loc hs K ->
  (∀ c' Kq loc' hs' s', c.le c' -> FrameW Z K₀ Kq c' env loc' -> Core Z Kq c' hs' s' -> K loc' hs' -> Q () s') ->
  wpAny (model Z.P Z.w) A (assignInOrder (ts.map fun t => assign t env) vs) Q E s := by
 intro L₀
 induction L₀ with
 | nil =>
  intro M₀
  cases M₀ with
  | nil =>
   intro vs c Kp loc hs s W C R h k
   exact (show vs = [] from R) ▸ wpAny_pure (k c Kp loc hs s (.refl c) W C h)
  | cons _ _ =>
   intro _ _ _ _ _ _ _ _ _ h _
   exact False.elim h
 | cons t ts ih =>
  intro M₀
  cases M₀ with
  | cons x ds =>
   intro vs c Kp loc hs s W C R h k
   obtain ⟨v, r, rfl, R1, R2⟩ := R
   refine wpAny_assignInOrder_more (asg1_ok (V := .d x) B S O a W C R1 h fun c₁ K₁ loc₁ hs₁ s₁ l₁ W₁ C₁ h₁ => ?_)
   exact ih W₁ C₁ (RepDs.mono l₁ _ _ R2) h₁ fun c₂ K₂ loc₂ hs₂ s₂ l₂ W₂ C₂ h₂ => k c₂ K₂ loc₂ hs₂ s₂ (l₁.trans l₂) W₂ C₂ h₂
  | nil =>
   intro _ _ _ _ _ _ _ _ _ h _
   exact False.elim h
theorem drop_get {items : Array Value} {i : Nat} (h : i < items.size) : items[i]? = some items[i] /\ items.toList.drop i = items[i] :: items.toList.drop (i + 1) :=
 ⟨Array.getElem?_eq_getElem h, List.drop_eq_getElem_cons (l := items.toList) h⟩
theorem draw_list {it l : Addr} {items : Array Value} (hne : l ≠ it) (n : Nat) : ∀ (i : Nat) (s : Shared) (Q : List Value -> Shared -> Prop), s.heap.IsListIter it l i -> s.heap.IsList l items -> i + n <= items.size ->
  (∀ h', h'.IsListIter it l (i + n) -> Heap.SameBut it s.heap h' -> Q ((items.toList.drop i).take n) { s with heap := h' }) -> wpAny (model Z.P Z.w) A (draw (.ref it) n) Q E s := by
 induction n with
 | zero => exact fun i s Q hit _ _ hQ => wpAny_pure (hQ s.heap hit (Heap.SameBut.refl ..))
 | succ n ih =>
  intro i s Q hit ht hle hQ
  have hlt : i < items.size := by lia
  obtain ⟨g1, g2⟩ := drop_get hlt
  show wpAny _ _ (pyNext (.ref it) >>= _) Q E s
  refine wpAny_bind (wpAny_pyNext_list_item hit ht g1 fun h₁ hit₁ hs₁ => ?_)
  have ht₁ : h₁.IsList l items := let ⟨o, e, r⟩ := ht; ⟨o, (hs₁.2 l hne).trans e, r⟩
  refine wpAny_bind (wpAny_holding (ih (i + 1) _ _ hit₁ ht₁ (by lia) fun h₂ hit₂ hs₂ => wpAny_pure ?_))
  have := hQ h₂ (by rw [show i + (n + 1) = i + 1 + n by lia]; exact hit₂) (hs₁.trans hs₂)
  rwa [g2] at this
theorem unpack_list {l : Addr} {vs : List Value} {n : Nat} {targets : List (Bool × (Value -> Sem Unit))} {Q : Unit -> Shared -> Prop} (hh : A.handled = none) (hl : s.heap.get? l = some (listO vs n))
  (hn : targets.length = vs.length) (hstar : targets.findIdx? (·.1) = none)
  (h : ∀ h', (∀ b o, s.heap.get? b = some o -> h'.get? b = some o) -> wpAny (model Z.P Z.w) A (assignInOrder (targets.map (·.2)) vs) Q E { s with heap := h' }) :
  wpAny (model Z.P Z.w) A (unpack (.ref l) targets) Q E s := by
 have ht : s.heap.IsList l vs.toArray := ⟨_, hl, rfl, n, rfl⟩
 have hlt : l ≠ s.heap.objs.size := Nat.ne_of_lt (Heap.lt_size hl)
 unfold unpack
 rw [hn, hstar]
 refine wpAny_bind (wpAny_holding ?_)
 unfold unpackItems
 refine wpAny_bind ?_
 unfold notIterableAtAll
 refine wpAny_bind (wpAny_specialOf ht.typeIs slot_list_iter.lookup (wpAny_pure (wpAny_bind (wpAny_holding (wpAny_pyIter_list ht ?_)))))
 have ht0 : (s.heap.push { cls := .type "list_iterator", data := .fields #[.ref l, .int 0 0] }).IsList l vs.toArray := ⟨_, Heap.get?_push_of_some _ hl, rfl, n, rfl⟩
 refine wpAny_bind (wpAny_holding (draw_list hlt vs.length 0 _ _ ⟨_, Heap.get?_push_size _ rfl, rfl, rfl⟩ ht0 (Nat.le_of_eq (Nat.zero_add _)) fun h₁ hit₁ hs₁ => ?_))
 rw [show List.take vs.length (List.drop 0 vs.toArray.toList) = vs from List.take_length]
 refine wpN (Nat.lt_irrefl _) ?_
 have ht₁ : h₁.IsList l vs.toArray := let ⟨o, e, r⟩ := ht0; ⟨o, (hs₁.2 l hlt).trans e, r⟩
 refine wpAny_bind (wpAny_holding (wpAny_pyNext_list_end hh hit₁ ht₁ (Array.getElem?_eq_none (Nat.le_of_eq (Nat.zero_add _).symm)) fun h₂ he₂ => ?_))
 have old : ∀ b o, s.heap.get? b = some o -> b ≠ s.heap.objs.size := fun b o e => Nat.ne_of_lt (Heap.lt_size e)
 exact wpAny_pure (h h₂ fun b o e => he₂ b o (old b o e) (hs₁.extBut b o (old b o e) (Heap.get?_push_of_some _ e)))
theorem tupP_eq {e : Expr} {ts : List Expr} (h : tupP e = some ts) : ∃ x p, e = .Tuple ts x p := by
 cases e with
 | Tuple ts x p => exact ⟨x, p, some_eq h ▸ rfl⟩
 | _ => exact none_some h
theorem asg_ok (B : BaseOK Z Fg) (S : SE Z d rec) (O : EnvOK env sc) (a : AOK d A) (W : FrameW Z K₀ Kp c env loc) (C : Core Z Kp c hs s) {t : Expr} {V : V} {v : Value} {K : Loc -> Hs -> Prop} {Q : Unit -> Shared -> Prop}
  (R : RepV Z c V v) (h : asg sc (rec sc false) t V loc hs K)
  (k : ∀ c' Kq loc' hs' s', c.le c' -> FrameW Z K₀ Kq c' env loc' -> Core Z Kq c' hs' s' -> K loc' hs' -> Q () s') : wpAny (model Z.P Z.w) A (assign t env v) Q E s := by
 rcases orP_iff h with ⟨ts, et, h'⟩ | h
 ·obtain ⟨x, p, rfl⟩ := tupP_eq et
  obtain ⟨d, ed, h'⟩ := optP_iff h'
  rw [V.d_eq ed] at R
  rcases orP_iff h' with ⟨ds, e, h'⟩ | h'
  ·obtain ⟨hn, h'⟩ := need_iff h'
   obtain ⟨hn, hn2⟩ := and_t hn
   obtain ⟨e1, e2, e3⟩ := assignEach_is (env := env) hn2
   rw [D.tup_eq e] at R
   obtain ⟨ad, vs, n, rfl, g, R⟩ := R
   refine wpAny_assign_Tuple (items := vs.toArray) a.handled ⟨_, C.sub _ _ g, rfl, n, rfl⟩ (e1.trans ((Nat.eq_of_beq_eq_true hn).trans R.length)) e2 fun h₂ he => ?_
   rw [e3]
   exact asgs_ok B S O a W (C.keepTo fun b o e => he b o (Nat.ne_of_lt (Heap.lt_size e)) e) R h' k
  ·obtain ⟨is, e, h'⟩ := optP_iff h'
   obtain ⟨hn, h'⟩ := need_iff h'
   obtain ⟨hn, _⟩ := and_t hn
   obtain ⟨hn, hn2⟩ := and_t hn
   obtain ⟨e1, e2, e3⟩ := assignEach_is (env := env) hn2
   rw [D.ints_eq e] at R
   obtain ⟨ad, vs, n, rfl, g, R⟩ := R
   rw [arm_assign_Tuple]
   refine wpAny_bind (wpAny_standAt (unpack_list a.handled (C.sub _ _ g) (e1.trans ((Nat.eq_of_beq_eq_true hn).trans (IntsAre.length' R))) e2 fun h₂ he => ?_))
   rw [e3]
   exact asgs_ok B S O a W (C.keepTo he) (ints_iff.mp R) h' k
 ·exact asg1_ok B S O a W C R h k
end
noncomputable def clsF (env : Env) : Names -> List (Str × Addr) -> List (Str × Addr)
 | [], cs => cs
 | p :: r, cs => clsF env r (match isFr p.2 with
  | true => (p.1, (env.cells.lookup p.1).getD 0) :: cs
  | false => cs)
theorem isCF_iff {o : Option NameKind} (h : isCF o = true) : o = some .cell \/ o = some .free := by
 cases o with
 | none => exact ff h
 | some k => cases k <;> first | exact .inl rfl | exact .inr rfl | exact ff h
theorem kind_look {env : Env} {sc : Names} (hn : env.scope.names = sc) (x : Str) : env.kindOf x = sLook x sc := by
 rw [sLook_eq, <- hn]; rfl
theorem closure_is {env : Env} {sc : Names} (hn : env.scope.names = sc) (hc : ∀ x, (env.kindOf x = some .cell \/ env.kindOf x = some .free) -> (env.cells.lookup x).isSome = true) (scope : Scope) (hf : freeOK sc scope.names = true) :
  closureFor scope env = pure (clsF env scope.names []) := by
 have key : ∀ (ns : Names) (cs : List (Str × Addr)), freeOK sc ns = true -> (forIn ns cs fun (x : Str × NameKind) (r : List (Str × Addr)) => match x with
   | (name, kind) => if (kind == NameKind.free) = true then do let a <- cellOf env name; pure (ForInStep.yield ((name, a) :: r)) else pure (ForInStep.yield r) : Sem (List (Str × Addr))) = pure (clsF env ns cs) := by
  intro ns
  induction ns with
  | nil => exact fun cs _ => rfl
  | cons p r ih =>
   intro cs h
   obtain ⟨x, k⟩ := p
   obtain ⟨h1, h2⟩ := and_t h
   rw [List.forIn_cons]
   cases k with
   | free =>
    obtain ⟨a, ha⟩ := Option.isSome_iff_exists.mp (hc x (by rw [kind_look hn]; exact isCF_iff h1))
    have hcell : cellOf env x = pure a := by unfold cellOf; rw [ha]
    show (cellOf env x >>= _) >>= _ = pure (clsF env r ((x, (env.cells.lookup x).getD 0) :: cs))
    rw [hcell, ha]
    exact ih _ h2
   | _ => exact ih cs h2
 exact (congrArg (fun m => m >>= fun r => pure r) (key scope.names [] hf)).trans rfl
theorem lookS_cons {β : Type} {x y : Str} {u : β} {r : List (Str × β)} : ((y, u) :: r).lookup x = if x = y then some u else r.lookup x := by
 rw [<- sLook_eq, <- sLook_eq]; exact sLook_cons
theorem clsF_look {env : Env} {x : Str} {a : Addr} : ∀ {ns : Names} {cs : List (Str × Addr)}, (clsF env ns cs).lookup x = some a -> (cs.lookup x = some a) \/ a = (env.cells.lookup x).getD 0
 | [], cs, h => .inl h
 | (y, k) :: r, cs, h => by
  rcases clsF_look (ns := r) h with h | h
  ·cases q : isFr k with
   | false => rw [q] at h; exact .inl h
   | true =>
    rw [q] at h
    have h := (lookS_cons (y := y) (r := cs)).symm.trans h
    by_cases e : x = y
    ·rw [if_pos e] at h; exact .inr (e ▸ (some_eq h).symm)
    ·rw [if_neg e] at h; exact .inl h
  ·exact .inr h
theorem clsF_some {env : Env} {x : Str} : ∀ {ns : Names} {cs : List (Str × Addr)}, ((cs.lookup x).isSome = true \/ (x, NameKind.free) ∈ ns) -> ((clsF env ns cs).lookup x).isSome = true
 | [], cs, h => h.elim id fun h => nomatch h
 | (y, k) :: r, cs, h => by
  refine clsF_some (ns := r) ?_
  rcases h with h | h
  ·left
   cases q : isFr k with
   | false => exact h
   | true =>
    show (((y, (env.cells.lookup y).getD 0) :: cs).lookup x).isSome = true
    rw [lookS_cons]
    by_cases e : x = y
    ·rw [if_pos e]; rfl
    ·rw [if_neg e]; exact h
  ·rcases List.mem_cons.mp h with q | h
   ·cases q
    left
    show (((x, (env.cells.lookup x).getD 0) :: cs).lookup x).isSome = true
    rw [lookS_cons, if_pos rfl]; rfl
   ·exact .inr h
theorem look_mem {α : Type} {x : Str} {v : α} : ∀ {l : List (Str × α)}, sLook x l = some v -> (x, v) ∈ l
 | [], h => none_some h
 | (y, u) :: r, h => by
  rw [sLook_cons] at h
  by_cases q : x = y
  ·rw [if_pos q] at h; rw [q, some_eq h]; exact .head _
  ·rw [if_neg q] at h; exact .tail _ (look_mem h)
theorem compSc_look {sc : Names} {x : Str} : ∀ {own : Names}, sLook x (compSc sc own) = (sLook x own).map (compKind sc x)
 | [] => rfl
 | (y, k) :: r => by
  show sLook x ((y, compKind sc y k) :: compSc sc r) = _
  rw [sLook_cons, sLook_cons]
  by_cases q : x = y
  ·rw [if_pos q, if_pos q, q]; rfl
  ·rw [if_neg q, if_neg q]; exact compSc_look
theorem freeOK_look {sc : Names} {x : Str} : ∀ {own : Names}, freeOK sc own = true -> sLook x own = some .free -> sLook x sc = some .cell \/ sLook x sc = some .free
 | [], _, e => none_some e
 | (y, k) :: r, h, e => by
  obtain ⟨h1, h2⟩ := and_t h
  rw [sLook_cons] at e
  by_cases q : x = y
  ·rw [if_pos q] at e
   cases some_eq e
   exact isCF_iff (q ▸ h1)
  ·rw [if_neg q] at e; exact freeOK_look h2 e
theorem okCK_iff {k : NameKind} (h : okCK k = true) : k = .local \/ k = .free \/ k = .globalImplicit := by
 cases k <;> first | exact .inl rfl | exact .inr (.inl rfl) | exact .inr (.inr rfl) | exact ff h
theorem okNames_mem : ∀ {ns : Names}, okCompNames ns = true -> ∀ p ∈ ns, p.2 = .local \/ p.2 = .free \/ p.2 = .globalImplicit
 | [], _, p, hp => nomatch hp
 | q :: r, h, p, hp => (List.mem_cons.mp hp).elim (fun e => e ▸ okCK_iff (and_t h).1) fun hp => okNames_mem (and_t h).2 p hp
theorem nodupN_mem : ∀ {ns : Names}, nodupN ns = true -> ∀ p ∈ ns, sLook p.1 ns = some p.2
 | [], _, p, hp => nomatch hp
 | (y, k) :: r, h, p, hp => by
  obtain ⟨h1, h2⟩ := and_t h
  rw [sLook_cons]
  rcases List.mem_cons.mp hp with q | hp
  ·rw [q, if_pos rfl]
  ·have ih := nodupN_mem h2 p hp
   rw [if_neg fun (e : p.1 = y) => no2 (Option.isNone_iff_eq_none.mp h1) (e ▸ ih)]
   exact ih
theorem cell_beq (o : Option NameKind) : (o == some NameKind.cell) = isCell o := by
 cases o with
 | none => rfl
 | some k => cases k <;> rfl
theorem relabel_names {scope : Scope} {env : Env} {sc : Names} (O : EnvOK env sc) : (relabel scope env).names = compSc sc scope.names := by
 apply List.map_congr_left
 rintro ⟨x, k⟩ _
 show (if (k == .free && env.scope.kind == .function && env.kindOf x == some .cell) then (x, NameKind.cell) else (x, k)) = (x, compKind sc x k)
 rw [kind_look O.names, cell_beq, O.kind]
 unfold compKind
 cases k with
 | free => cases isCell (sLook x sc) <;> rfl
 | _ => rfl
structure OkC (sc : Names) (scope : Scope) : Prop where
 free : freeOK sc scope.names = true
 kind : scope.kind = .function
 names : okCompNames scope.names = true
 nodup : nodupN scope.names = true
 dbg : sLook "__debug__" scope.names = none
theorem isFn_eq {k : ScopeKind} (h : isFn? k = true) : k = .function := by cases k <;> first | rfl | exact ff h
theorem okComp_iff {sc : Names} {scope : Scope} (h : okComp sc scope = true) : OkC sc scope := by
 obtain ⟨h, _⟩ := and_t h
 obtain ⟨h, _⟩ := and_t h
 obtain ⟨h, h5⟩ := and_t h
 obtain ⟨h, h4⟩ := and_t h
 obtain ⟨h, h3⟩ := and_t h
 obtain ⟨h1, h2⟩ := and_t h
 exact ⟨h1, isFn_eq h2, h3, h4, Option.isNone_iff_eq_none.mp h5⟩
theorem comp_free {sc : Names} {scope : Scope} (h : OkC sc scope) {x : Str} (hx : (sLook x scope.names).map (compKind sc x) = some .cell \/ (sLook x scope.names).map (compKind sc x) = some .free) : sLook x scope.names = some .free := by
 cases q : sLook x scope.names with
 | none => rw [q] at hx; exact hx.elim (fun e => none_some e) fun e => none_some e
 | some k =>
  rw [q] at hx
  rcases okNames_mem h.names _ (look_mem q) with e | e | e
  ·rw [show k = _ from e] at hx; exact hx.elim (fun e => nomatch some_eq e) fun e => nomatch some_eq e
  ·rw [show k = _ from e]
  ·rw [show k = _ from e] at hx; exact hx.elim (fun e => nomatch some_eq e) fun e => nomatch some_eq e
theorem compEnv_kind {scope : Scope} {env : Env} {sc : Names} {C : Addr} (O : EnvOK env sc) (x : Str) : (compEnvC scope (clsF env scope.names []) C env).kindOf x = (sLook x scope.names).map (compKind sc x) := by
 rw [<- compSc_look, sLook_eq, <- relabel_names O]; rfl
theorem compEnv_ok {scope : Scope} {env : Env} {sc : Names} {C : Addr} (O : EnvOK env sc) (h : OkC sc scope) : EnvOK (compEnvC scope (clsF env scope.names []) C env) (compSc sc scope.names) :=
 ⟨relabel_names O, h.kind, O.glob, O.blt, by rw [compSc_look, h.dbg]; rfl, fun x hx => clsF_some (.inr (look_mem (comp_free h (by rw [compEnv_kind O] at hx; exact hx))))⟩
theorem drop_look {own : Names} {x : Str} {V : V} : ∀ {loc : Loc}, sLook x (dropNames own loc) = some V -> sLook x loc = some V /\ isLoc0 (sLook x own) = false
 | [], h => none_some h
 | (y, u) :: r, h => by
  have e : dropNames own ((y, u) :: r) = match isLoc0 (sLook y own) with
   | true => dropNames own r
   | false => (y, u) :: dropNames own r := rfl
  rw [e] at h
  rw [sLook_cons]
  cases q : isLoc0 (sLook y own) with
  | true =>
   rw [q] at h
   obtain ⟨h1, h2⟩ := drop_look (loc := r) h
   rw [if_neg fun (e : x = y) => by rw [e, q] at h2; exact nomatch h2]
   exact ⟨h1, h2⟩
  | false =>
   rw [q] at h
   have h := (sLook_cons (r := dropNames own r)).symm.trans h
   by_cases e : x = y
   ·rw [if_pos e] at h ⊢; exact ⟨h, e ▸ q⟩
   ·rw [if_neg e] at h ⊢; exact drop_look h
section
variable {Z : Stat} {K₀ Kp Kq : Addr -> Option Obj} {c : Cn} {hs : Hs} {s : Shared} {A : Around} {E : Value -> Shared -> Prop} {tk : Nat} {ia : List Addr} {g : Option (Nat × D)} {Fg : Frag} {env : Env} {sc : Names} {loc : Loc} {d : Nat} {rec : RecE} {K : KE}
noncomputable def isFrameData : Data -> Bool
 | .dict .. => true
 | .cell .. => true
 | _ => false
theorem FrameIn.to (F : FrameIn Z Kp c env loc) (h : ∀ a o, Kp a = some o -> isFrameData o.data = true -> Kq a = some o) : FrameIn Z Kq c env loc := by
 obtain ⟨⟨o, es, ep, h1, h2, h3, h4⟩, h5⟩ := F
 refine ⟨⟨o, es, ep, h _ _ h1 (by rw [h2]; rfl), h2, h3, h4⟩, fun x V e k => ?_⟩
 obtain ⟨a, v, o, f1, f2, f3, f4⟩ := h5 x V e k
 exact ⟨a, v, o, f1, h _ _ f2 (by rw [f3]; rfl), f3, f4⟩
theorem fld_one {K : Addr -> Option Obj} {a : Addr} {o : Obj} (e : K a = some o) (f : isFrameData o.data = false) : ∀ b ∈ [a], ∀ o', K b = some o' -> isFrameData o'.data = false := fun b hb o' e' => by
 rw [List.mem_singleton.mp hb, e] at e'
 exact some_eq e' ▸ f
theorem ItSt.fields {b : Bool} {v : Value} {xs : List D} (h : ItSt Z Kp c g ia b v xs) : ∀ a ∈ ia, ∀ o, Kp a = Option.some o -> isFrameData o.data = false := by
 cases h with
 | lst a b c d => exact fld_one a (by rw [c]; rfl)
 | rng a => exact fld_one a rfl
 | enm n a b c d e => exact fun x hx => (List.mem_cons.mp hx).elim (fun q => fld_one a rfl x (q ▸ .head _)) (fld_one b (by rw [d]; rfl) x)
theorem FrameIn.ups (F : FrameIn Z Kp c env loc) (U : Ups ia Kp Kq) (h : ∀ a ∈ ia, ∀ o, Kp a = some o -> isFrameData o.data = false) : FrameIn Z Kq c env loc := F.to fun a o e f => by
 rw [U.same a fun q => by rw [h a q o e] at f; exact nomatch f]; exact e
theorem locK_eq {k : Option NameKind} (h : locK k = true) : k = some .local := by
 cases k with
 | none => exact ff h
 | some k => cases k <;> first | rfl | exact ff h
theorem storeL_ok (O : EnvOK env sc) (F : FrameIn Z Kp c env loc) (C : Core Z Kp c hs s) {x : Str} {V : V} {v : Value} (hk : locK (sLook x sc) = true) (R : RepV Z c V v) {Q : Unit -> Shared -> Prop}
  (k : ∀ Kq s', FrameIn Z Kq c env (putL x V loc) -> Core Z Kq c hs s' -> Ups [env.locals] Kp Kq -> Q () s') : wpAny (model Z.P Z.w) A (bindName env x v) Q E s := by
 refine wpAny_bind (wpAny_holding (wpAny_point (wpAny_bind ?_)))
 exact wpAny_mono (storeN_ok (Q := Q) O F C ((kind_look O.names x).trans (locK_eq hk)) R k) (fun _ _ h => wpAny_point h) fun _ _ h => h
theorem bindNs_inv {t : Expr} {ts : List Expr} {ds : List D} {loc loc' : Loc} (h : bindNs sc (t :: ts) ds loc = some loc') : ∃ x p d r, t = .Name x p /\ ds = d :: r /\ locK (sLook x sc) = true /\ bindNs sc ts r (putL x (.d d) loc) = some loc' := by
 cases ds with
 | nil => exact none_some h
 | cons d r =>
  obtain ⟨q, e, h⟩ := optB_iff h
  obtain ⟨h1, h2⟩ := noB_iff h
  exact ⟨q.1, q.2, d, r, nameQ_eq e, rfl, not_t' h1, h2⟩
theorem bindNs_nil {ds : List D} {loc loc' : Loc} (h : bindNs sc [] ds loc = some loc') : ds = [] /\ loc = loc' := by
 cases ds with
 | nil => exact ⟨rfl, some_eq h⟩
 | cons _ _ => exact none_some h
theorem bindNs_static {loc' : Loc} : ∀ {ts : List Expr} {ds : List D} {loc : Loc}, bindNs sc ts ds loc = some loc' -> noStar ts = true /\ ts.length = ds.length
 | [], ds, loc, h => by obtain ⟨rfl, _⟩ := bindNs_nil h; exact ⟨rfl, rfl⟩
 | t :: ts, ds, loc, h => by
  obtain ⟨x, p, d, r, rfl, rfl, _, h⟩ := bindNs_inv h
  obtain ⟨a, b⟩ := bindNs_static h
  exact ⟨a, congrArg (· + 1) b⟩
theorem bindNs_run (O : EnvOK env sc) {Q : Unit -> Shared -> Prop} {loc' : Loc} : ∀ {ts : List Expr} {ds : List D} {vs : List Value} {Kp : Addr -> Option Obj} {loc : Loc} {s : Shared}, FrameIn Z Kp c env loc -> Core Z Kp c hs s ->
  RepDs Z c ds vs -> bindNs sc ts ds loc = some loc' -> (∀ Kq s', FrameIn Z Kq c env loc' -> Core Z Kq c hs s' -> Ups [env.locals] Kp Kq -> Q () s') -> wpAny (model Z.P Z.w) A (assignInOrder (ts.map fun t => assign t env) vs) Q E s := by
 intro L₀
 induction L₀ with
 | nil =>
  intro ds vs Kp loc s W C R h k
  obtain ⟨rfl, rfl⟩ := bindNs_nil h
  obtain ⟨o, es, ep, h1, _⟩ := W.ns
  exact (show vs = [] from R) ▸ wpAny_pure (k Kp s W C ⟨fun _ _ => rfl, some_one h1⟩)
 | cons t ts ih =>
  intro ds vs Kp loc s W C R h k
  obtain ⟨x', p, x, ds, rfl, rfl, hl, h⟩ := bindNs_inv h
  obtain ⟨v, r, rfl, R1, R2⟩ := R
  rw [List.map_cons]
  refine wpAny_assignInOrder_more ?_
  rw [arm_assign_Name]
  exact wpAny_bind (wpAny_standAt (storeL_ok (V := .d x) O W C hl R1 fun Kq s' W' C' U => ih W' C' R2 h fun Kr s'' W'' C'' U'' => k Kr s'' W'' C'' (U.trans U'')))
theorem bindT_ok (hh : A.handled = none) (O : EnvOK env sc) (W : FrameIn Z Kp c env loc) (C : Core Z Kp c hs s) {t : Expr} {x : D} {v : Value} {loc' : Loc} (R : RepD Z c x v) (h : bindT sc t x loc = some loc') {Q : Unit -> Shared -> Prop}
  (k : ∀ Kq s', FrameIn Z Kq c env loc' -> Core Z Kq c hs s' -> Ups [env.locals] Kp Kq -> Q () s') : wpAny (model Z.P Z.w) A (assign t env v) Q E s := by
 cases t with
 | Name y p =>
  obtain ⟨hl, h⟩ := if_some rfl h
  cases some_eq h
  rw [arm_assign_Name]
  exact wpAny_bind (wpAny_standAt (storeL_ok (V := .d x) O W C hl R k))
 | Tuple ts y p =>
  obtain ⟨ds, e, h⟩ := optB_iff h
  rw [D.tup_eq e] at R
  obtain ⟨ad, vs, n, rfl, gg, R⟩ := R
  obtain ⟨b1, b2⟩ := bindNs_static h
  obtain ⟨e1, e2, e3⟩ := assignEach_is (env := env) b1
  refine wpAny_assign_Tuple (items := vs.toArray) hh ⟨_, C.sub _ _ gg, rfl, n, rfl⟩ (e1.trans (b2.trans R.length)) e2 fun h' he => ?_
  rw [e3]
  exact bindNs_run O W (C.keepTo fun b o e => he b o (Nat.ne_of_lt (Heap.lt_size e)) e) R h k
 | _ => exact none_some h
end
section
variable {Z : Stat} {K₀ Kp Kq : Addr -> Option Obj} {c : Cn} {hs : Hs} {s : Shared} {A : Around} {E : Value -> Shared -> Prop} {tk : Nat} {ia : List Addr} {g : Option (Nat × D)} {Fg : Frag} {env : Env} {sc : Names} {loc : Loc} {d : Nat} {rec : RecE} {K : KE} {R : Result -> Shared -> Prop}
theorem compLoop_own {elt target iter : Expr} {ifs : List Expr} {scope : Scope} {pos : Pos} {it acc : Value} {env : Env} (I : Nat -> Shared -> Prop)
  (turn : ∀ n s, I n s -> wpAny (model Z.P Z.w) A (pyNext it) (fun r s₁ => match r with
   | none => R (.ok .next) s₁
   | some v => wpAny (model Z.P Z.w) A (letOwnedTupleGo target it v) (fun _ s₂' => wpAny (model Z.P Z.w) A (assign target env v) (fun _ s₂ =>
     wpAny (model Z.P Z.w) A (forIn ifs true fun c r => if r = true then do let ok <- isTrue c env (eval c env); pure (ForInStep.yield ok) else pure (ForInStep.yield r)) (fun ok s₃ =>
      if ok = true then wpAny (model Z.P Z.w) A (eval elt env) (fun x s₄ =>
       wpAny (model Z.P Z.w) A (call (.builtin "list.append") [acc, x]) (fun _ s₅ => ∃ m, m < n /\ I m s₅) (notedBy (model Z.P Z.w) A env fun e s' => R (.error e) s') s₄) (notedBy (model Z.P Z.w) A env fun e s' => R (.error e) s') s₃
      else ∃ m, m < n /\ I m s₃) (notedBy (model Z.P Z.w) A env fun e s' => R (.error e) s') s₂) (notedBy (model Z.P Z.w) A env fun e s' => R (.error e) s') s₂') (notedBy (model Z.P Z.w) A env fun e s' => R (.error e) s') s₁) (notedBy (model Z.P Z.w) A env fun e s' => R (.error e) s') s)
  (n : Nat) (h : I n s) :
  codeAny (model Z.P Z.w) A (.compLoop (.ListComp elt [⟨target, iter, ifs, 0⟩] scope pos) 0 it acc env) R s := by
 refine codeAny_loop rfl I (fun n s hI => ?_) n h
 show wpAny _ A ((compTurn (.ListComp elt [⟨target, iter, ifs, 0⟩] scope pos) 0 it acc env).onRaise (fun x => do noteFrame x env; theTreesLotGoes x)) _ _ s
 refine wpAny_noted ?_
 rw [compTurn_list]
 refine wpAny_bind (wpAny_standAt (wpAny_bind (wpAny_mono (turn n s hI) (fun r s₁ h₁ => ?_) fun _ _ h' => h')))
 cases r with
 | none => exact wpAny_pure h₁
 | some v =>
  refine wpAny_bind (wpAny_mono h₁ (fun _ s₂' h₂' => wpAny_bind (wpAny_mono h₂' (fun _ s₂ h₂ => wpAny_bind (wpAny_mono h₂ (fun ok s₃ h₃ => ?_) fun _ _ h' => h')) fun _ _ h' => h')) fun _ _ h' => h')
  cases ok with
  | false => exact wpAny_pure ⟨rfl, h₃⟩
  | true =>
   exact wpAny_bind (wpAny_bind (wpAny_mono h₃ (fun x s₄ h₄ => wpAny_bind (wpAny_mono h₄ (fun _ s₅ h₅ => wpAny_pure (wpAny_pure ⟨rfl, h₅⟩)) fun _ _ h' => h')) fun _ _ h' => h'))
theorem tests_no {env : Env} {Q : Bool -> Shared -> Prop} (h : Q false s) : ∀ ifs : List Expr,
  wpAny (model Z.P Z.w) A (forIn ifs false fun c r => if r = true then do let ok <- isTrue c env (eval c env); pure (ForInStep.yield ok) else pure (ForInStep.yield r)) Q E s
 | [] => wpAny_pure h
 | e :: r => by
  rw [List.forIn_cons]
  exact wpAny_bind (wpAny_pure (tests_no h r))
theorem tests_ok (T : ST Z d rec) (O : EnvOK env sc) (a : AOK d A) {Q : Bool -> Shared -> Prop} {KB : Bool -> Hs -> Prop} : ∀ {ifs : List Expr} {hs : Hs} {c : Cn} {s : Shared}, FrameIn Z Kp c env loc -> Core Z Kp c hs s ->
  ifsE (rec sc false · loc) ifs hs KB -> PostB Z Kp c KB Q ->
  wpAny (model Z.P Z.w) A (forIn ifs true fun c r => if r = true then do let ok <- isTrue c env (eval c env); pure (ForInStep.yield ok) else pure (ForInStep.yield r)) Q E s := by
 intro L₀
 induction L₀ with
 | nil =>
  intro hs c s F C h P
  exact wpAny_pure (P c true hs s (.refl c) C h)
 | cons e r ih =>
  intro hs c s F C h P
  rw [List.forIn_cons]
  refine wpAny_bind ?_
  refine wpT rfl ?_
  refine wpAny_bind (T env sc e loc hs _ (fun b hs => br b (ifsE (rec sc false · loc) r hs KB) (KB false hs)) Kp c s A _ E O a F C h (fun v hs hv => hv) fun c₁ b hs₁ s₁ l₁ C₁ hb => ?_)
  refine wpAny_pure ?_
  cases b with
  | true => exact ih (F.mono l₁) C₁ hb fun c₂ b hs₂ s₂ l₂ C₂ k => P c₂ b hs₂ s₂ (l₁.trans l₂) C₂ k
  | false => exact tests_no (P c₁ false hs₁ s₁ l₁ C₁ hb) r
inductive NsO (o : Obj) : Prop
 | mk (es : Array DictEntry) (ep : Nat) (h1 : o.data = .dict es ep) (h2 : StrKeys es) : NsO o
theorem NsO.ns {o : Obj} (h : NsO o) {hp : Heap} {a : Addr} (e : hp.get? a = some o) : ∃ m, hp.Ns a m := let ⟨es, ep, e1, e2⟩ := h; ⟨_, o, es, ep, e, e1, e2, fun _ => rfl⟩
inductive AccAt (Z : Stat) (c : Cn) (Ke : Addr -> Option Obj) (D : Addr) (acc : List Mine.D) : Prop
 | mk (vs : List Value) (n : Nat) (h1 : Ke D = some (listO vs n)) (h2 : RepDs Z c acc.reverse vs) : AccAt Z c Ke D acc
structure CompSt (Z : Stat) (Kp : Addr -> Option Obj) (c : Cn) (g : Option (Nat × D)) (ia : List Addr) (b : Bool) (it : Value) (D C : Addr) (cenv : Env) (xs : List Mine.D) (acc : List Mine.D) (loc : Loc) (hs : Hs) (Ke : Addr -> Option Obj) (s : Shared) : Prop where
 core : Core Z Ke c hs s
 same : ∀ x, x ≠ D -> x ≠ C -> x ∉ ia -> Ke x = Kp x
 it : ItSt Z Ke c g ia b it xs
 acc : AccAt Z c Ke D acc
 fr : FrameIn Z Ke c cenv loc
structure CompFix (Kp : Addr -> Option Obj) (ia : List Addr) (D C : Addr) (cenv : Env) : Prop where
 loc : cenv.locals = C
 dia : D ∉ ia
 cia : C ∉ ia
 dc : D ≠ C
 kd : Kp D = none
 kc : Kp C = none
 ki : ∀ x ∈ ia, Kp x = none
theorem AccAt.mono {c' : Cn} {Ke : Addr -> Option Obj} {D : Addr} {acc : List Mine.D} (l : c.le c') (h : AccAt Z c Ke D acc) : AccAt Z c' Ke D acc := let ⟨vs, n, h1, h2⟩ := h; ⟨vs, n, h1, RepDs.mono l _ _ h2⟩
theorem AccAt.to {Ke : Addr -> Option Obj} {D : Addr} {acc : List Mine.D} (h : AccAt Z c Ke D acc) (e : Kq D = Ke D) : AccAt Z c Kq D acc := let ⟨vs, n, h1, h2⟩ := h; ⟨vs, n, e.trans h1, h2⟩
inductive CompInv (Z : Stat) (Kp : Addr -> Option Obj) (c : Cn) (g : Option (Nat × D)) (ia : List Addr) (b : Bool) (it : Value) (D C : Addr) (env : Env) (H : List Mine.D -> Loc -> Hs -> List Mine.D -> Prop) (n : Nat) (s' : Shared) : Prop
 | mk (c' : Cn) (xs acc : List Mine.D) (loc' : Loc) (hs' : Hs) (Ke : Addr -> Option Obj) (l : c.le c') (st : CompSt Z Kp c' g ia b it D C env xs acc loc' hs' Ke s') (hlen : acc.length + xs.length <= lim) (h : H xs loc' hs' acc) (e : n = xs.length) : CompInv Z Kp c g ia b it D C env H n s'
section
variable {D C : Addr} {b : Bool} {it : Value} {xs acc : List Mine.D} {Ke : Addr -> Option Obj}
theorem CompSt.mono {c' : Cn} {hs' : Hs} {s' : Shared} (l : c.le c') (C' : Core Z Ke c' hs' s') (st : CompSt Z Kp c g ia b it D C env xs acc loc hs Ke s) : CompSt Z Kp c' g ia b it D C env xs acc loc hs' Ke s' :=
 ⟨C', st.same, st.it.mono l fun _ _ => rfl, st.acc.mono l, st.fr.mono l⟩
theorem CompSt.fin (X : CompFix Kp ia D C env) (st : CompSt Z Kp c g ia b it D C env xs acc loc hs Ke s) : AccAt Z c (minus ia Ke) D acc /\ (∃ o, minus ia Ke C = some o /\ NsO o) /\ ∀ x, x ≠ D -> x ≠ C -> minus ia Ke x = Kp x := by
 obtain ⟨o, es, ep, h1, h2, h3, _⟩ := st.fr.ns
 rw [X.loc] at h1
 refine ⟨st.acc.to (if_neg X.dia), ⟨o, (if_neg X.cia).trans h1, es, ep, h2, h3⟩, fun x h1 h2 => ?_⟩
 by_cases q : x ∈ ia
 ·exact (if_pos q).trans (X.ki x q).symm
 ·exact (if_neg q).trans (st.same x h1 h2 q)
theorem CompSt.next {c₁ : Cn} {Kr K₃ : Addr -> Option Obj} {r : List Mine.D} {loc₂ : Loc} {s₃ : Shared} (X : CompFix Kp ia D C env) (st : CompSt Z Kp c g ia b it D C env xs acc loc hs Ke s) (l : c.le c₁) (U : Ups ia Ke Kr) (I : ItSt Z Kr c₁ g ia b it r)
  (F : FrameIn Z K₃ c₁ env loc₂) (C₃ : Core Z K₃ c₁ hs s₃) (U₃ : Ups [env.locals] Kr K₃) : CompSt Z Kp c₁ g ia b it D C env r acc loc₂ hs K₃ s₃ := by
 have h3 : ∀ x, x ≠ C -> K₃ x = Kr x := fun x hx => U₃.same x (not_mem1 (X.loc ▸ hx))
 exact ⟨C₃, fun x h1 h2 q => (h3 x h2).trans ((U.same x q).trans (st.same x h1 h2 q)), I.mono (.refl c₁) fun x hx => h3 x fun e => X.cia (e ▸ hx), (st.acc.mono l).to ((h3 D X.dc).trans (U.same D X.dia)), F⟩
theorem CompSt.push (X : CompFix Kp ia D C env) (st : CompSt Z Kp c g ia b it D C env xs acc loc hs Ke s) {y : Mine.D} {v : Value} (R : RepD Z c y v) (hlen : acc.length < lim) {Q : Value -> Shared -> Prop}
  (k : ∀ Kq r s', CompSt Z Kp c g ia b it D C env xs (y :: acc) loc hs Kq s' -> Q r s') : wpAny (model Z.P Z.w) A (call (.builtin "list.append") [.ref D, v]) Q E s := by
 obtain ⟨vs, n, hD, hR⟩ := st.acc
 have hl := st.core.kp _ _ hD
 have hvs : vs.length < lim := by rw [<- hR.length, List.length_reverse]; exact hlen
 refine wpAny_list_append_plain ⟨n, hl⟩ (fun h' hp hsb => ?_) (Nat.le_trans (Nat.le_of_lt hvs) (show lim <= sizeLine by decide))
 obtain ⟨n', e'⟩ := hp
 rw [show vs.toArray.push v = (vs ++ [v]).toArray from List.push_toArray ..] at e'
 refine k _ _ _ ⟨st.core.setK (tk := s.toks) hD (fun b o hb e => hsb.extBut b o hb e) e', fun x h1 h2 h3 => (upd_ne h1).trans (st.same x h1 h2 h3), st.it.mono (.refl c) fun x hx => upd_ne fun (e : x = D) => X.dia (e ▸ hx), ⟨vs ++ [v], n', if_pos rfl, ?_⟩, st.fr.to fun a' o e f => ?_⟩
 ·rw [List.reverse_cons]
  exact hR.append ⟨v, [], rfl, R, rfl⟩
 ·exact (upd_ne fun (q : a' = D) => by rw [q, hD] at e; rw [<- some_eq e] at f; exact ff f).trans e
theorem comp_loop (S : SE Z d rec) (T : ST Z d rec) (O : EnvOK env sc) (a : AOK d A) (X : CompFix Kp ia D C env) {elt t iter : Expr} {ifs : List Expr} {scope : Scope} {pos : Pos} {KD : List Mine.D -> Hs -> Prop} (htup : b = true -> isTupE t = true)
  (hend : ∀ (c' : Cn) (acc : List Mine.D) (hs' : Hs) (Ke : Addr -> Option Obj) (s' : Shared), c.le c' -> (AccAt Z c' Ke D acc /\ (∃ o, Ke C = some o /\ NsO o) /\ ∀ x, x ≠ D -> x ≠ C -> Ke x = Kp x) -> Core Z Ke c' hs' s' -> KD acc.reverse hs' -> R (.ok .next) s')
  (st : CompSt Z Kp c g ia b it D C env xs acc loc hs Ke s) (hlen : acc.length + xs.length <= lim)
  (h : compL (fun loc e => rec sc false e loc) sc t elt ifs g KD xs loc hs acc) :
  codeAny (model Z.P Z.w) A (.compLoop (.ListComp elt [⟨t, iter, ifs, 0⟩] scope pos) 0 it (.ref D) env) R s := by
 refine compLoop_own (CompInv Z Kp c g ia b it D C env (compL (fun loc e => rec sc false e loc) sc t elt ifs g KD)) ?_ xs.length ⟨c, xs, acc, loc, hs, Ke, .refl c, st, hlen, h, rfl⟩
 clear st h hlen
 rintro n s' ⟨c', xs, acc, loc', hs', Ke, l, st, hlen, h, rfl⟩
 have hst : stays g hs' := by
  cases xs with
  | nil => exact h.1
  | cons x r => exact h.1
 refine next_ok a.handled st.core st.it hst (fun hnil s₁ C₁ => ?_) (fun x r hx c₁ Kq u s₁ l₁ U₁ C₁ Ru hgo => ?_)
 ·rw [hnil] at h
  exact hend c' acc hs' (minus ia Ke) s₁ l (st.fin X) C₁ h.2
 ·cases hx
  obtain ⟨loc₂, hb, h⟩ := optP_iff h.2
  have hlen : (acc.length + 1) + r.length <= lim := by rw [Nat.add_right_comm]; exact hlen
  have hlen' : acc.length + r.length <= lim := Nat.le_trans (Nat.add_le_add_right (Nat.le_succ _) _) hlen
  refine hgo t _ _ htup fun Kr s₂ U₂ C₂ I₂ => bindT_ok a.handled O ((st.fr.mono l₁).ups (U₁.trans U₂) st.it.fields) C₂ Ru hb fun K₃ s₃ F₃ C₃ U₃ => ?_
  have st₃ := st.next X l₁ (U₁.trans U₂) I₂ F₃ C₃ U₃
  refine tests_ok T O a F₃ C₃ h fun c₄ ok hs₄ s₄ l₄ C₄ h₄ => ?_
  have st₄ := st₃.mono l₄ C₄
  cases ok with
  | true =>
   rw [if_pos rfl]
   refine S.ev O a st₄.fr C₄ h₄ fun c₅ V₅ v₅ hs₅ s₅ l₅ C₅ F₅ R₅ h₅ => ?_
   obtain ⟨y, ey, h₅⟩ := optP_iff h₅
   rw [V.d_eq ey] at R₅
   exact (st₄.mono l₅ C₅).push X R₅ (Nat.lt_of_lt_of_le (Nat.lt_succ_self _) (Nat.le_trans (Nat.le_add_right _ _) hlen)) fun Kq _ s₆ st₆ => ⟨r.length, Nat.lt_succ_self _, c₅, r, y :: acc, loc₂, hs₅, Kq, ((l.trans l₁).trans l₄).trans l₅, st₆, hlen, h₅, rfl⟩
  | false =>
   rw [if_neg Bool.false_ne_true]
   exact ⟨r.length, Nat.lt_succ_self _, c₄, r, acc, loc₂, hs₄, K₃, (l.trans l₁).trans l₄, st₄, hlen', h₄, rfl⟩
end
theorem again_ok {b : Bool} {it : Value} {xs : List Mine.D} {Q : Value -> Shared -> Prop} (C : Core Z Kp c hs s) (I : ItSt Z Kp c g ia b it xs) (h : Q it s) : wpAny (model Z.P Z.w) A (pyIter it) Q E s := by
 cases I with
 | lst h1 h2 h3 _ => exact wpAny_pyIter_listiter ⟨_, C.kp _ _ h1, h2, h3⟩ h
 | rng h1 => exact wpAny_pyIter_rangeiter (C.kp _ _ h1) h
 | enm _ h1 _ _ _ _ => exact wpAny_pyIter_enum (C.kp _ _ h1) h
theorem comp_local {x : Str} {o : Option NameKind} (h : o.map (compKind sc x) = some .local) : isLoc0 o = true := by
 cases o with
 | none => exact none_some h
 | some k =>
  have h : compKind sc x k = .local := some_eq h
  unfold compKind at h
  cases k with
  | «local» => rfl
  | free => cases q : isCell (sLook x sc) <;> rw [q] at h <;> exact nomatch h
  | _ => exact nomatch h
theorem comp_frame (O : EnvOK env sc) {scope : Scope} (hok : OkC sc scope) (F : FrameIn Z Kq c env loc) {CC : Addr} {oC : Obj} {K' : Addr -> Option Obj} (hC : K' CC = some oC) (nC : NsO oC) (hK : ∀ x o, Kq x = some o -> K' x = some o) :
  FrameIn Z K' c (compEnvC scope (clsF env scope.names []) CC env) (dropNames scope.names loc) := by
 obtain ⟨es, ep, dC, kC⟩ := nC
 refine ⟨⟨oC, es, ep, hC, dC, kC, fun x V e hx => ?_⟩, fun x V e hx => ?_⟩
 ·rw [compEnv_kind O] at hx
  exact nomatch (drop_look e).2.symm.trans (comp_local hx)
 ·rw [compEnv_kind O] at hx
  have hfree := comp_free hok hx
  have hout := freeOK_look hok.free hfree
  rw [<- kind_look O.names] at hout
  obtain ⟨ad, v, o, f1, f2, f3, f4⟩ := F.cell x V (drop_look e).1 hout
  obtain ⟨ad', had⟩ := Option.isSome_iff_exists.mp (clsF_some (env := env) (cs := []) (.inr (look_mem hfree)))
  have : ad' = ad := (clsF_look had).elim (fun w => none_some w) fun w => w.trans (by rw [f1]; rfl)
  exact ⟨ad, v, o, this ▸ had, hK _ _ f2, f3, f4⟩
theorem comp_end {DD CC : Addr} (X : CompFix Kp ia DD CC env) {m : Bool} {c' : Cn} {acc : List Mine.D} {hs' : Hs} {Ke : Addr -> Option Obj} {s' : Shared} {P : Prop} (h : AccAt Z c' Ke DD acc /\ (∃ o, Ke CC = some o /\ NsO o) /\ ∀ x, x ≠ DD -> x ≠ CC -> Ke x = Kp x) (C' : Core Z Ke c' hs' s') (hk : alloc m (mkList acc.reverse) hs' K)
  (k : ∀ (c'' : Cn) (V : V) (hs'' : Hs) (oC : Obj), c'.le c'' -> NsO oC -> Core Z (updK Kp CC oC) c'' hs'' s' -> RepV Z c'' V (.ref DD) -> K V hs'' -> P) : P := by
 obtain ⟨⟨vs, n, hD, hR⟩, ⟨o, hC, hN⟩, hsame⟩ := h
 have hq : updK Kp CC o DD = none := (upd_ne X.dc).trans X.kd
 have hsub : ∀ b o', updK Kp CC o b = some o' -> Ke b = some o' := fun b o' e => upd_some e (fun q r => by rw [q, <- r]; exact hC) fun q e => (hsame b (ne_of X.kd e) q).trans e
 have as := mkList_as hR
 cases m with
 | false =>
  obtain ⟨C'', le⟩ := C'.toG hD hq hsub
  exact k _ (.d _) hs' o le hN C'' ((as.mono le).rep (Cn.addG_get _ _ _)) hk
 | true =>
  obtain ⟨C'', le, r⟩ := C'.toL hD hq hsub as
  exact k _ _ _ o le hN C'' r hk
theorem comp_ok (B : BaseOK Z Fg) (S : SE Z d rec) (T : ST Z d rec) (O : EnvOK env sc) (a : AOK d A) (FI : FrameIn Z Kp c env loc) (Cr : Core Z Kp c hs s) {m : Bool} {elt t it : Expr} {ifs : List Expr} {scope : Scope} {pos pos' : Pos}
  (hok : okComp sc scope = true) (hset : notSet it = true)
  (h : iterE (fun e => rec sc false e loc) (enumOf Z.X sc) t it hs fun xs g hs => xs.length <= lim /\
   compL (fun loc e => rec (compSc sc scope.names) false e loc) (compSc sc scope.names) t elt ifs g (fun ds hs => alloc m (mkList ds) hs K) xs (dropNames scope.names loc) hs [])
  {use : Option (Value -> Sem Unit)} {Q : Value -> Shared -> Prop}
  (k : ∀ (c' : Cn) (V : V) (v : Value) (hs' : Hs) (s' : Shared) (C : Addr) (oC : Obj), c.le c' -> Kp C = none -> NsO oC -> Core Z (updK Kp C oC) c' hs' s' -> RepV Z c' V v -> K V hs' -> compPost (model Z.P Z.w) A E use Q v C (.ok .next) s') :
  wpAny (model Z.P Z.w) A (comprehension (.ListComp elt [⟨t, it, ifs, 0⟩] scope pos) scope env pos' (newList []) false (eval it env) use) Q E s := by
 have hok := okComp_iff hok
 refine wpAny_comprehension_free (g := ⟨t, it, ifs, 0⟩) (gs := []) rfl (folded_ok hset) (closure_is O.names O.cells scope hok.free) hok.kind (fun x hx hl => ?_) ?_
 ·rw [<- sLook_eq, nodupN_mem hok.nodup x hx, hl]
 refine iter_ok (t := t) B S O a FI Cr h fun c₁ ia Kq u s₁ b xs g hs₁ l₁ M h₁ => ?_
 obtain ⟨hlen, h₁⟩ := h₁
 have F₁ : FrameIn Z Kq c₁ env loc := (FI.mono l₁).to fun x o e _ => (M.same x fun hx => no2 (M.new x hx) e).trans e
 have C₂ := M.core.mk1 (tk := s₁.toks) (o := listO [] 0) rfl
 have hCs : (s₁.heap.push (listO [] 0)).objs.size = s₁.heap.objs.size + 1 := Heap.size_push ..
 refine wpAny_newObj_type (wpAny_newFunctionEnv (fun x hx => ?_) (fun y hy => nomatch hy) (fun h' hns hsb => ?_) hok.kind)
 ·rcases okNames_mem hok.names x hx with e | e | e <;> rw [e] <;> decide
 have keep : ∀ b o, (s₁.heap.push (listO [] 0)).get? b = some o -> h'.get? b = some o := fun b o e => hsb.extBut b o (Nat.ne_of_lt (Heap.lt_size e)) (Heap.get?_push_of_some _ e)
 obtain ⟨oC, es, ep, eC, dC, kC, fC⟩ := hns
 have C₃ := C₂.newK (h' := h') (tk := s₁.toks) keep (fresh_size _) eC
 have hDC : s₁.heap.objs.size ≠ (s₁.heap.push (listO [] 0)).objs.size := by rw [hCs]; exact Nat.ne_of_lt (Nat.lt_succ_self _)
 have Dfresh : Kq s₁.heap.objs.size = none := none_of_fresh M.core.kp (fresh_size _)
 have Cfresh : Kq (s₁.heap.push (listO [] 0)).objs.size = none := none_of_fresh M.core.kp (fresh_ge (by rw [hCs]; exact Nat.le_succ _))
 have nia : ∀ {x}, Kq x = none -> x ∉ ia := fun e hx => no_some e (M.it.some _ hx)
 have fix : CompFix Kp ia s₁.heap.objs.size (s₁.heap.push (listO [] 0)).objs.size (compEnvC scope (clsF env scope.names []) (s₁.heap.push (listO [] 0)).objs.size env) :=
  ⟨rfl, nia Dfresh, nia Cfresh, hDC, (M.same _ (nia Dfresh)).symm.trans Dfresh, (M.same _ (nia Cfresh)).symm.trans Cfresh, M.new⟩
 have kk : ∀ x, x ≠ s₁.heap.objs.size -> x ≠ (s₁.heap.push (listO [] 0)).objs.size -> updK (updK Kq s₁.heap.objs.size (listO [] 0)) (s₁.heap.push (listO [] 0)).objs.size oC x = Kq x := fun x h1 h2 => (upd_ne h2).trans (upd_ne h1)
 have st : CompSt Z Kp c₁ g ia b u s₁.heap.objs.size (s₁.heap.push (listO [] 0)).objs.size (compEnvC scope (clsF env scope.names []) (s₁.heap.push (listO [] 0)).objs.size env) xs [] (dropNames scope.names loc) hs₁ _ { s₁ with heap := h', toks := s₁.toks } :=
  ⟨C₃, fun x h1 h2 h3 => (kk x h1 h2).trans (M.same x h3), M.it.mono (.refl _) fun x hx => kk x (fun e => fix.dia (e ▸ hx)) fun e => fix.cia (e ▸ hx), ⟨[], 0, (upd_ne hDC).trans (if_pos rfl), rfl⟩,
   comp_frame O hok F₁ (if_pos rfl) ⟨es, ep, dC, kC⟩ fun x o e => (kk x (ne_of Dfresh e) (ne_of Cfresh e)).trans e⟩
 refine (fun loop => codeAny_compStart_list loop (again_ok C₃ st.it loop)) (comp_loop S T (compEnv_ok O hok) a fix M.tup (fun c' acc hs' Ke s' l hE C' hk => ?_) st (Nat.le_trans (Nat.le_of_eq (Nat.zero_add _)) hlen) h₁)
 exact comp_end fix hE C' hk fun c'' V hs'' oC le hN C'' R hk => k c'' V _ hs'' s' _ oC ((l₁.trans l).trans le) fix.kc hN C'' R hk
theorem scomp_ok (B : BaseOK Z Fg) (S : SE Z d rec) (T : ST Z d rec) : SComp Z d rec := by
 intro env sc m elt t it ifs scope pos loc hs K Kp c s A Q E O a FI C hok hset h P
 rw [eval_ListComp]
 show wpAny _ _ (comprehension (.ListComp elt [⟨t, it, ifs, 0⟩] scope pos) scope env (firstIterPos [⟨t, it, ifs, 0⟩] pos) (newList []) false (eval it env)) _ _ _
 refine comp_ok B S T O a FI C hok hset h fun c' V v hs' s' CC oC l hC hN C' R hk => ?_
 obtain ⟨mm, hm⟩ := hN.ns (C'.kp CC oC (if_pos rfl))
 exact ⟨mm, hm, fun h' hsb => P c' V v hs' _ l ((C'.dropK (ia := [CC]) (tk := s'.toks) (some_one (if_pos rfl)) fun b o hb e => hsb.extBut b o (not_one hb) e).forget fun b o e =>
  (if_neg (not_mem1 (ne_of hC e))).trans ((upd_ne (ne_of hC e)).trans e)) R hk⟩
end
noncomputable def PostS (Z : Stat) (K₀ : Addr -> Option Obj) (env : Env) (c : Cn) (K : KS) (Q : Flow -> Shared -> Prop) : Prop :=
 ∀ (c' : Cn) (f : Fl) (F : Flow) (loc' : Loc) (hs' : Hs) (s' : Shared) (Kq : Addr -> Option Obj), c.le c' -> FrameW Z K₀ Kq c' env loc' -> Core Z Kq c' hs' s' -> RepF Z c' f F -> K f loc' hs' -> Q F s'
theorem PostS.up {Z : Stat} {K₀ : Addr -> Option Obj} {env : Env} {c c' : Cn} {K : KS} {Q : Flow -> Shared -> Prop} (P : PostS Z K₀ env c K Q) (l : c.le c') : PostS Z K₀ env c' K Q := fun d f F loc' hs' s' Kq l' => P d f F loc' hs' s' Kq (l.trans l')
noncomputable def SS (Z : Stat) (A : Around) (env : Env) (rs : RecS) : Prop :=
 ∀ (st : Stmt) (loc : Loc) (hs : Hs) (K : KS) (K₀ Kp : Addr -> Option Obj) (c : Cn) (s : Shared) (Q : Flow -> Shared -> Prop) (E : Value -> Shared -> Prop),
  FrameW Z K₀ Kp c env loc -> Core Z Kp c hs s -> rs st loc hs K -> PostS Z K₀ env c K Q -> wpAny (model Z.P Z.w) A (exec st env) Q E s
noncomputable def SU (Z : Stat) (d : Nat) (rec : RecE) : Prop :=
 ∀ (env : Env) (sc : Names) (m : Bool) (elt : Expr) (gens : List Comprehension) (scope : Scope) (pos : Pos) (loc : Loc) (hs : Hs) (K : KE) (K₀ Kp : Addr -> Option Obj) (c : Cn) (s : Shared) (A : Around) (Q : Unit -> Shared -> Prop) (E : Value -> Shared -> Prop) (x : Str) (pos' : Pos),
  EnvOK env sc -> AOK d A -> FrameW Z K₀ Kp c env loc -> Core Z Kp c hs s -> rec sc m (.ListComp elt gens scope pos) loc hs K -> storable (sLook x sc) = true ->
  (∀ (c' : Cn) (V : V) (v : Value) (hs' : Hs) (s' : Shared) (Kq : Addr -> Option Obj), c.le c' -> FrameW Z K₀ Kq c' env (putL x V loc) -> Core Z Kq c' hs' s' -> K V hs' -> Q () s') ->
  wpAny (model Z.P Z.w) A (evalThenUse (.ListComp elt gens scope pos) env (assign (.Name x pos') env)) Q E s
section
variable {Z : Stat} {K₀ Kp Kq Kr Ks : Addr -> Option Obj} {c : Cn} {hs : Hs} {s : Shared} {A : Around} {E : Value -> Shared -> Prop} {tk : Nat} {ia : List Addr} {g : Option (Nat × D)} {Fg : Frag} {env : Env} {sc : Names} {loc : Loc} {d : Nat} {rec : RecE} {call : CallR} {K : KS} {Q : Flow -> Shared -> Prop}
theorem FrameW.turn {K₁ K₂ : Addr -> Option Obj} (W : FrameW Z K₁ Kp c env loc) (n : ∀ b, K₁ b = none -> (Kp b).isSome = true -> Kq b = Kp b /\ K₂ b = none) (le : ∀ b o, K₂ b = some o -> Kq b = some o) : FrameW Z K₂ Kq c env loc := by
 obtain ⟨⟨o, es, ep, h1, h2, h3, h4⟩, h5⟩ := W.in_
 have hL := n _ W.freeL (by rw [h1]; rfl)
 refine ⟨⟨⟨o, es, ep, hL.1.trans h1, h2, h3, h4⟩, fun x V e hx => ?_⟩, le, hL.2, fun x hx => ?_, W.apart, W.nofree⟩
 ·obtain ⟨a, v, ob, f1, f2, f3, f4⟩ := h5 x V e hx
  obtain ⟨a', o', v', g1, g2, g3, g4, g5⟩ := W.cells x (cell_kind W hx)
  cases some_eq (f1.symm.trans g1)
  exact ⟨a, v, ob, f1, (n _ g4 (by rw [f2]; rfl)).1.trans f2, f3, f4⟩
 ·obtain ⟨a, o, v, f1, f2, f3, f4, f5⟩ := W.cells x hx
  have q := n a f4 (by rw [f2]; rfl)
  exact ⟨a, o, v, f1, q.1.trans f2, f3, q.2, f5⟩
theorem over_out {a : Addr} (h : a ∉ ia) : over ia Ks K₀ a = K₀ a := if_neg h
theorem over_in {a : Addr} (h : a ∈ ia) : over ia Ks K₀ a = Ks a := if_pos h
theorem over_some {a : Addr} {o : Obj} {P : Prop} (e : over ia Ks K₀ a = some o) (h1 : a ∈ ia -> Ks a = some o -> P) (h2 : a ∉ ia -> K₀ a = some o -> P) : P := by
 by_cases q : a ∈ ia
 ·exact h1 q ((over_in q).symm.trans e)
 ·exact h2 q ((over_out q).symm.trans e)
theorem over_none {a : Addr} (h : over ia Ks K₀ a = none) (some' : ∀ x ∈ ia, (Ks x).isSome = true) : a ∉ ia /\ K₀ a = none := by
 have q : a ∉ ia := fun q => no_some ((over_in q).symm.trans h) (some' a q)
 exact ⟨q, (over_out q).symm.trans h⟩
theorem FrameW.toOver (W : FrameW Z K₀ Kp c env loc) (same : ∀ x, x ∉ ia -> Kq x = Kp x) (new : ∀ x ∈ ia, Kp x = none) : FrameW Z (over ia Kq K₀) Kq c env loc := by
 have ni : ∀ b, (Kp b).isSome = true -> b ∉ ia := fun b h q => no_some (new b q) h
 exact W.turn (fun b h h' => ⟨same b (ni b h'), (over_out (ni b h')).trans h⟩) fun b o e => over_some e (fun _ e => e) fun q e => (same b q).trans (W.le b o e)
theorem FrameW.unover (W : FrameW Z (over ia Ks K₀) Kr c env loc) (h0 : ∀ x ∈ ia, K₀ x = none) (hs : ∀ x ∈ ia, (Ks x).isSome = true) : FrameW Z K₀ Kr c env loc :=
 W.turn (fun b h _ => ⟨rfl, (over_none h hs).2⟩) fun b o e => W.le b o ((over_out fun q => no2 (h0 b q) e).trans e)
theorem FrameW.ups (W : FrameW Z (over ia Ks K₀) Ks c env loc) (U : Ups ia Ks Kr) (hs : ∀ x ∈ ia, (Ks x).isSome = true) : FrameW Z (over ia Kr K₀) Kr c env loc :=
 W.turn (fun b h _ => have q := over_none h hs; ⟨U.same b q.1, (over_out q.1).trans q.2⟩) fun b o e => over_some e (fun _ e => e) fun q e => (U.same b q).trans (W.le b o ((over_out q).trans e))
theorem FrameW.drop (W : FrameW Z (over ia Ks K₀) Kr c env loc) (h0 : ∀ x ∈ ia, K₀ x = none) (hs : ∀ x ∈ ia, (Ks x).isSome = true) : FrameW Z K₀ (minus ia Kr) c env loc :=
 W.turn (fun b h _ => have q := over_none h hs; ⟨if_neg q.1, q.2⟩) fun b o e => by
  have q : b ∉ ia := fun q => no2 (h0 b q) e
  exact (show minus ia Kr b = Kr b from if_neg q).trans (W.le b o ((over_out q).trans e))
theorem over_eq (h : ∀ x ∈ ia, Kr x = Ks x) : over ia Kr K₀ = over ia Ks K₀ := by
 funext b
 by_cases q : b ∈ ia
 ·rw [over_in q, over_in q]; exact h b q
 ·rw [over_out q, over_out q]
theorem sole_list {x : Str} {p : Pos} : (assignEach [.Name x p] env).map (·.2) = [assign (.Name x p) env] := rfl
theorem swaps_no {t e : Expr} {line : Nat} (h : notSC e = true) (h' : ∀ elt gens scope p, e = .ListComp elt gens scope p -> ∀ x q, t ≠ .Name x q) : swapsWithSole [t] e line env = pure false := by
 unfold swapsWithSole swapsWith
 cases e with
 | ListComp elt gens scope p =>
  have h' := h' _ _ _ _ rfl
  clear h
  cases t with
  | Name x q => exact absurd rfl (h' x q)
  | _ => rfl
 | _ => first | rfl | exact ff h
theorem or_l {a b : Bool} (h : a = true) : (a || b) = true := by rw [h]; rfl
theorem fm_lt {α β : Type} {f : α -> Option β} : ∀ {l : List α} {x : α}, x ∈ l -> f x = none -> (l.filterMap f).length < l.length
 | y :: r, x, h, e => by
  rw [List.filterMap_cons]
  cases h with
  | head => rw [e]; exact Nat.lt_succ_of_le (List.length_filterMap_le ..)
  | tail _ h =>
   have := fm_lt h e
   cases f y with
   | none => exact Nat.lt_succ_of_lt this
   | some _ => exact Nat.succ_lt_succ this
theorem ite3 {α : Type} {c1 c2 c3 : Bool} {x y : α} (h : c3 = true) : (if c1 = true then x else if c2 = true then x else if c3 = true then x else y) = x := by
 subst h
 cases c1 <;> cases c2 <;> rfl
theorem swapped_no (O : EnvOK env sc) {t e : Expr} (h : okSwap sc t e = true) : swappedStores [t] e env = pure none := by
 obtain ⟨h1, h⟩ := and_t h
 cases t with
 | Tuple ts k p =>
  cases e with
  | Tuple vs k' p' =>
   obtain ⟨x, hx, hn⟩ := List.any_eq_true.mp h
   unfold swappedStores
   refine ite3 (or_l (bne_iff_ne.mpr (Nat.ne_of_lt (fm_lt hx ?_))))
   clear h h1 hx
   cases x with
   | Name y q =>
    refine if_neg fun w => ?_
    have w1 := (and_t w).1
    rw [kind_look O.names] at w1
    have hn : (!locK (sLook y sc)) = true := hn
    rw [eq_of_beq w1] at hn
    exact ff hn
   | _ => rfl
  | _ => first | rfl | exact absurd h1 Bool.false_ne_true
 | _ => first | rfl | exact absurd h Bool.false_ne_true
theorem nstar_mem : ∀ {es : List Expr}, noStar es = true -> ∀ e ∈ es, isK 22 e = false
 | e :: r, h, x, hx => by
  cases hx with
  | head => exact not_t (and_t h).1
  | tail _ hx => exact nstar_mem (and_t h).2 x hx
structure Swap (sc : Names) (t e : Expr) (x y : Str) : Prop where
 e1 : ∃ p q k r es k' r', t = .Tuple [.Name x p, .Name y q] k r /\ e = .Tuple es k' r' /\ q.line = p.line /\ es.length = 2 /\ noStar es = true /\ es.all (foldedForSure 8) = false /\ es.all (constantsAlone 8) = false
 hx : locK (sLook x sc) = true
 hy : locK (sLook y sc) = true
 ne : x ≠ y
theorem swapNs_iff {t e : Expr} {n : Str × Str} (h : swapNs sc t e = some n) : Swap sc t e n.1 n.2 := by
 obtain ⟨ts, e1, h1⟩ := optB_iff h
 obtain ⟨es, e2, h2⟩ := optB_iff h1
 obtain ⟨p, e3, h3⟩ := optB_iff h2
 obtain ⟨x, e4, h4⟩ := optB_iff h3
 obtain ⟨y, e5, h5⟩ := optB_iff h4
 obtain ⟨g, h6⟩ := noB_iff h5
 obtain ⟨k, r, rfl⟩ := tupP_eq e1
 obtain ⟨k', r', rfl⟩ := tupP_eq e2
 cases some_eq h6
 rw [pairL_eq e3, nameQ_eq e4, nameQ_eq e5]
 obtain ⟨g, g8⟩ := and_t (not_t' g)
 obtain ⟨g, g7⟩ := and_t g
 obtain ⟨g, g6⟩ := and_t g
 obtain ⟨g, g5⟩ := and_t g
 obtain ⟨g, g4⟩ := and_t g
 obtain ⟨g, g3⟩ := and_t g
 obtain ⟨g1, g2⟩ := and_t g
 exact ⟨⟨_, _, k, r, es, k', r', rfl, rfl, Nat.eq_of_beq_eq_true g3, Nat.eq_of_beq_eq_true g5, g6, not_t g7, not_t g8⟩, g1, g2, fun q => by rw [sEq_iff.mpr q] at g4; exact ff g4⟩
theorem swapped_yes (O : EnvOK env sc) {t e : Expr} {x y : Str} (h : Swap sc t e x y) : swappedStores [t] e env = pure (some [x, y]) := by
 obtain ⟨⟨p, q, k, r, es, k', r', rfl, rfl, hl, h2, hs, hf, hc⟩, hx, hy, ne⟩ := h
 have kx : (env.kindOf x == some .local) = true := by rw [kind_look O.names x, locK_eq hx]; rfl
 have ky : (env.kindOf y == some .local) = true := by rw [kind_look O.names y, locK_eq hy]; rfl
 have kb : (env.blockKind != ScopeKind.function) = false := by
  unfold Env.blockKind; rw [O.kind]; rfl
 have er : ([x, y] : List Str).eraseDups = [x, y] := by
  rw [List.eraseDups_cons, List.filter_cons, List.filter_nil]
  rw [if_pos (by simpa using Ne.symm ne)]
  rfl
 unfold swappedStores
 refine (if_neg ?_).trans ((if_neg fun w => ?_).trans ?_)
 ·show ¬ ((false || es.length != 2) || env.blockKind != ScopeKind.function) = true
  rw [h2, kb]; decide
 ·obtain ⟨z, hz, w⟩ := List.any_eq_true.mp w
  have := nstar_mem hs z hz
  cases z <;> first | exact ff w | exact nomatch this
 ·have en : ∀ f : Expr -> Option Str, f (.Name x p) = some x -> f (.Name y q) = some y -> [Expr.Name x p, Expr.Name y q].filterMap f = [x, y] := fun f h1 h2 => by
   rw [List.filterMap_cons, h1, List.filterMap_cons, h2]; rfl
  have n1 : (if (env.kindOf x == some .local && p.line == p.line) = true then some x else none) = some x := by rw [kx, beq_self_eq_true]; rfl
  have n2 : (if (env.kindOf y == some .local && q.line == p.line) = true then some y else none) = some y := by rw [ky, hl, beq_self_eq_true]; rfl
  refine (if_neg ?_).trans ((if_neg ?_).trans ((if_neg ?_).trans (congrArg (fun l => (pure (some l) : Sem _)) (en _ n1 n2))))
  ·rw [en _ n1 n2, er]; exact fun h => nomatch h
  ·rw [hf]; decide
  ·rw [hc]; decide
theorem su_ok (B : BaseOK Z Fg) (S : SE Z d rec) (T : ST Z d rec) : SU Z d (stepE Z.X call rec) := by
 intro env sc m elt gens scope pos loc hs K K₀ Kp c s A Q E x pos' O a W C h hk k
 obtain ⟨⟨t, it, ifs⟩, hq, h1⟩ := optP_iff h
 obtain ⟨hok, h1⟩ := need_iff h1
 obtain ⟨hok1, hok2⟩ := and_t hok
 obtain rfl : gens = [⟨t, it, ifs, 0⟩] := genP_iff hq
 show wpAny _ A (do
  let _ <- comprehension (.ListComp elt [⟨t, it, ifs, 0⟩] scope pos) scope env (firstIterPos [⟨t, it, ifs, 0⟩] pos) (newList []) false (eval it env) (some (assign (.Name x pos') env))) Q E s
 refine wpAny_bind (wpAny_mono (Q := fun _ s' => Q () s') (comp_ok B S T O a W.in_ C hok1 hok2 h1 fun c' V v hs' s' CC oC l hC hN C' R hk' => ?_) (fun _ _ h => wpAny_pure h) fun _ _ e => e)
 have one : updK Kp CC oC CC = some oC := if_pos rfl
 have W' : FrameW Z (over [CC] (updK Kp CC oC) K₀) (updK Kp CC oC) c' env loc := (W.mono l).toOver (fun y hy => upd_ne (not_one hy)) fun y hy => by rw [List.mem_singleton.mp hy]; exact hC
 have h0 : ∀ y ∈ [CC], K₀ y = none := fun y hy => by rw [List.mem_singleton.mp hy]; exact none_of_sub W.le hC
 show wpAny _ A (assign (.Name x pos') env v) _ _ _
 rw [arm_assign_Name]
 refine wpAny_bind (wpAny_standAt (bind_ok O W' C' hk R fun Kq s₂ W₂ C₂ => ?_))
 have hq : Kq CC = some oC := W₂.le CC oC ((over_in (.head _)).trans one)
 obtain ⟨mm, hm⟩ := hN.ns (C₂.kp CC oC hq)
 exact ⟨mm, hm, fun h' hsb => k c' V v hs' _ _ l (W₂.drop h0 (some_one one)) (C₂.dropK (tk := s₂.toks) (some_one hq) fun b o hb e => hsb.extBut b o (not_one hb) e) hk'⟩
theorem load_ok (O : EnvOK env sc) (FI : FrameIn Z Kp c env loc) {K : KE} {Q : Value -> Shared -> Prop} (P : Post Z Kp c K Q) (C : Core Z Kp c hs s) {x : Str} (hst : storable (sLook x sc) = true) (h : evName Z.X sc x loc hs K) : wpAny (model Z.P Z.w) A (loadName env x) Q E s := by
 obtain ⟨kk, ek, h⟩ := optP_iff h
 have hko := (kind_look O.names x).trans ek
 rcases storable_iff hst with e | e <;> rw [ek] at e <;> cases some_eq e <;> obtain ⟨V, hV, h⟩ := optP_iff h
 ·obtain ⟨o, es, ep, h1, h2, h3, h4⟩ := FI.ns
  obtain ⟨v, e1, R⟩ := h4 x V hV hko
  exact wpAny_loadName_local O.kind hko ⟨o, es, ep, C.kp _ _ h1, h2, h3, fun n => rfl⟩ e1 (P.now C R h)
 ·obtain ⟨a, v, o, h1, h2, h3, R⟩ := FI.cell x V hV (.inl hko)
  exact wpAny_loadName_cell O.kind hko h1 ⟨o, C.kp _ _ h2, h3⟩ (P.now C R h)
theorem augV_ok {K : KE} {Q : Value -> Shared -> Prop} (P : Post Z Kp c K Q) (C : Core Z Kp c hs s) {op : Operator} {V₁ V₂ : V} {v₁ v₂ : Value} (R₁ : RepV Z c V₁ v₁) (R₂ : RepV Z c V₂ v₂) (h : augV op V₁ V₂ hs K) : wpAny (model Z.P Z.w) A (inplaceOp op v₁ v₂) Q E s := by
 rcases orP_iff h with ⟨i, e1, h⟩ | h
 ·obtain ⟨j, e2, h⟩ := optP_iff h
  rw [V.int_eq e1] at R₁
  rw [V.int_eq e2] at R₂
  obtain ⟨t, rfl⟩ := R₁
  obtain ⟨u, rfl⟩ := R₂
  exact binInt_ok' P C h
 ·obtain ⟨e, h⟩ := need_iff h
  cases add_of e
  obtain ⟨n, e1, h⟩ := optP_iff h
  rw [V.loc_eq e1] at R₁
  exact iadd_ok P C R₁ R₂ h
theorem execs_ok {rs : RecS} (S : SS Z A env rs) : ∀ {b : List Stmt} {loc : Loc} {hs : Hs} {Kp : Addr -> Option Obj} {c : Cn} {s : Shared}, FrameW Z K₀ Kp c env loc -> Core Z Kp c hs s -> exL rs b loc hs K -> PostS Z K₀ env c K Q -> wpAny (model Z.P Z.w) A (execs b env) Q E s := by
 intro L₀
 induction L₀ with
 | nil =>
  intro loc hs Kp c s W C h P
  rw [arm_execs_nil]
  exact wpAny_pure (P c .next .next loc hs s Kp (.refl c) W C rfl h)
 | cons st b ih =>
  intro loc hs Kp c s W C h P
  rw [arm_execs_cons]
  refine wpAny_bind (S st loc hs _ K₀ Kp c s _ E W C h fun c₁ f F loc₁ hs₁ s₁ K₁ l₁ W₁ C₁ R₁ h₁ => ?_)
  cases f with
  | next =>
   cases (R₁ : F = .next)
   exact ih W₁ C₁ h₁ (P.up l₁)
  | brk =>
   cases (R₁ : F = .brk)
   exact wpAny_pure (P c₁ .brk .brk loc₁ hs₁ s₁ K₁ l₁ W₁ C₁ rfl h₁)
  | ret V =>
   obtain ⟨v, rfl, R⟩ := R₁
   exact wpAny_pure (P c₁ (.ret V) (.ret v) loc₁ hs₁ s₁ K₁ l₁ W₁ C₁ ⟨v, rfl, R⟩ h₁)
end
section
variable {Z : Stat} {K₀ Kp Kq Kr Ks : Addr -> Option Obj} {c : Cn} {hs : Hs} {s : Shared} {A : Around} {E : Value -> Shared -> Prop} {tk : Nat} {ia : List Addr} {g : Option (Nat × D)} {Fg : Frag} {env : Env} {sc : Names} {loc : Loc} {d : Nat} {rec : RecE} {call : CallR} {K : KS} {Q : Flow -> Shared -> Prop} {rs : RecS}
inductive ForInv (Z : Stat) (K₀ : Addr -> Option Obj) (c : Cn) (env : Env) (g : Option (Nat × D)) (ia : List Addr) (b : Bool) (u : Value) (H : List D -> Loc -> Hs -> Prop) (n : Nat) (s' : Shared) : Prop
 | mk (c' : Cn) (xs : List D) (loc' : Loc) (hs' : Hs) (Kr : Addr -> Option Obj) (l : c.le c') (W : FrameW Z (over ia Kr K₀) Kr c' env loc') (C : Core Z Kr c' hs' s') (I : ItSt Z Kr c' g ia b u xs) (h : H xs loc' hs') (e : n = xs.length) : ForInv Z K₀ c env g ia b u H n s'
theorem for_ok (B : BaseOK Z Fg) (SX : SE Z d rec) (O : EnvOK env sc) (a : AOK d A) (S : SS Z A env rs) (W : FrameW Z K₀ Kp c env loc) (C : Core Z Kp c hs s) {t it : Expr} {body : List Stmt} {pos : Pos} (hset : notSet it = true)
  (h : iterE (fun e => rec sc false e loc) (enumOf Z.X sc) t it hs fun xs g hs => forL (fun d loc hs k => asg sc (rec sc false) t (.d d) loc hs k) (exL rs body) g K xs loc hs) (P : PostS Z K₀ env c K Q) :
  wpAny (model Z.P Z.w) A (exec (.For t it body [] pos) env) Q E s := by
 refine wpAny_For ?_ (folded_ok hset)
 refine wpAny_mono (iter_ok (t := t) (Q := fun u s₂ => codeAny (model Z.P Z.w) A (.forLoop t u body [] env) (fun r s' => match r with | .ok f => Q f s' | .error e => cameBackBy (model Z.P Z.w) A env E e s') s₂) B SX O a W.in_ C h fun c₁ ia Kq u s₁ b xs g hs₁ l₁ M h₁ => ?_) (fun _ _ h => h) fun _ _ h => h
 have h0 : ∀ x ∈ ia, K₀ x = none := fun x hx => none_of_sub W.le (M.new x hx)
 have W₁ : FrameW Z (over ia Kq K₀) Kq c₁ env loc := (W.mono l₁).toOver M.same M.new
 refine codeAny_forLoop_any (ForInv Z K₀ c₁ env g ia b u (forL (fun d loc hs k => asg sc (rec sc false) t (.d d) loc hs k) (exL rs body) g K)) ?_ xs.length
  ⟨c₁, xs, loc, hs₁, Kq, .refl _, W₁, M.core, M.it, h₁, rfl⟩
 clear h₁
 rintro n s' ⟨c', xs, loc', hs', Kr, l, W₂, C₂, I₂, h, rfl⟩
 have hst : stays g hs' := by
  cases xs with
  | nil => exact h.1
  | cons x r => exact h.1
 refine next_ok a.handled C₂ I₂ hst (fun hnil s₃ C₃ => ?_) (fun x r hx c₃ Kq₃ v s₃ l₃ U₃ C₃ R₃ hgo => ?_)
 ·subst hnil
  show wpAny _ A (execs [] env) _ _ _
  rw [arm_execs_nil]
  exact wpAny_pure (P c' .next .next loc' hs' s₃ _ (l₁.trans l) (W₂.drop h0 I₂.some) C₃ rfl h.2)
 ·subst hx
  refine hgo t _ _ M.tup fun K₄ s₄ U₄ C₄ I₄ => ?_
  have W₄ : FrameW Z (over ia K₄ K₀) K₄ c₃ env loc' := (W₂.mono l₃).ups (U₃.trans U₄) I₂.some
  refine asg_ok (V := .d x) B SX O a W₄ C₄ R₃ h.2 fun c₅ K₅ loc₅ hs₅ s₅ l₅ W₅ C₅ h₅ => ?_
  refine execs_ok S W₅ C₅ h₅ fun c₆ f F loc₆ hs₆ s₆ K₆ l₆ W₆ C₆ R₆ h₆ => ?_
  have lall := ((l.trans l₃).trans l₅).trans l₆
  have go : forL (fun d loc hs k => asg sc (rec sc false) t (.d d) loc hs k) (exL rs body) g K r loc₆ hs₆ -> ∃ m, m < (x :: r).length /\ ForInv Z K₀ c₁ env g ia b u (forL (fun d loc hs k => asg sc (rec sc false) t (.d d) loc hs k) (exL rs body) g K) m s₆ := fun h₆ => by
   have hk : ∀ y ∈ ia, K₆ y = K₄ y := fun y hy => by
    obtain ⟨o, ho⟩ := Option.isSome_iff_exists.mp (I₄.some y hy)
    rw [ho]
    exact W₆.le y o ((over_in hy).trans ho)
   refine ⟨r.length, Nat.lt_succ_self _, c₆, r, loc₆, hs₆, K₆, lall, ?_, C₆, I₄.mono (l₅.trans l₆) hk, h₆, rfl⟩
   rw [over_eq hk]
   exact W₆
  have W₇ := W₆.unover h0 I₄.some
  cases f with
  | next =>
   cases (R₆ : F = .next)
   exact go h₆
  | brk =>
   cases (R₆ : F = .brk)
   exact P c₆ .next .next loc₆ hs₆ s₆ K₆ (l₁.trans lall) W₇ C₆ rfl h₆
  | ret V =>
   obtain ⟨v, rfl, R⟩ := R₆
   exact P c₆ (.ret V) (.ret v) loc₆ hs₆ s₆ K₆ (l₁.trans lall) W₇ C₆ ⟨v, rfl, R⟩ h₆
theorem interactive_no (O : EnvOK env sc) : interactive env = false := by unfold interactive; rw [O.kind]; rfl
theorem assign_star {t e : Expr} (h : okSwap sc t e = true) : (assignEach [t] env).map (·.2) = [assign t env] := by
 have h := (and_t h).2
 cases t <;> first | rfl | exact ff h
theorem call_drops {e : Expr} {line : Nat} (h : isCall e = true) : swapsWith e none line env = pure false := by cases e <;> first | rfl | exact ff h
theorem aug_store {i : Expr} (h : (!isSliceE i) = true) (ov iv new : Value) : augStore i ov iv new = (do holding [new, ov, iv] (setItem ov iv new); release [new, ov, iv] []; pure .next) := by
 cases i <;> first | rfl | exact ff h
theorem pure_inj {a b : Bool} (h : (pure a : Sem Bool) = pure b) : a = b := by injection h
theorem swaps_local {x : Str} {px q : Pos} {elt : Expr} {gens : List Comprehension} {scope : Scope} {line : Nat} (h : swapsWithSole [.Name x px] (.ListComp elt gens scope q) line env = pure true) : env.kindOf x = some .local := by
 have e1 : swapsWithSole [.Name x px] (.ListComp elt gens scope q) line env = pure (env.blockKind == .function && env.kindOf x == some .local && px.line == q.line
   && !(scope.names.any fun (n, k) => n == x && (k == .local || k == .cell))) := rfl
 exact eq_of_beq (and_t (and_t (and_t (pure_inj (e1.symm.trans h))).1).1).2
theorem swap_ok (S : SE Z d rec) (O : EnvOK env sc) (a : AOK d A) (W : FrameW Z K₀ Kp c env loc) (C : Core Z Kp c hs s) {t e : Expr} {x y : Str} {p : Pos} (w : Swap sc t e x y)
  (h : rec sc false e loc hs fun v hs => optP v.d? fun d => optP (two d) fun q => K .next (putL x (.d q.1) (putL y (.d q.2) loc)) hs) (P : PostS Z K₀ env c K Q) : wpAny (model Z.P Z.w) A (exec (.Assign [t] e p) env) Q E s := by
 have hsw : swapsWithSole [t] e p.line env = pure false := by
  obtain ⟨⟨_, _, _, _, _, _, _, _, rfl, _⟩, _⟩ := w
  rfl
 rw [exec_Assign_arm]
 refine wpAny_bind (wpAny_standAt ?_)
 rw [hsw]
 refine wpAny_bind (wpAny_pure ?_)
 rw [if_neg (by decide)]
 refine wpAny_bind (W.ev S O a C h fun c₁ V v hs₁ s₁ l₁ C₁ W₁ R₁ h₁ => ?_)
 rw [swapped_yes O w]
 refine wpAny_bind (wpAny_pure ?_)
 obtain ⟨d, ed, h₁⟩ := optP_iff h₁
 obtain ⟨⟨d1, d2⟩, e2, h₁⟩ := optP_iff h₁
 obtain ⟨l, e3, e4⟩ := optB_iff e2
 rw [V.d_eq ed, D.tup_eq e3, pairL_eq e4] at R₁
 obtain ⟨ad, vs, n, rfl, g, v1, r1, rfl, R1, v2, r2, rfl, R2, e5⟩ := R₁
 cases (show r2 = [] from e5)
 refine wpAny_bind (wpAny_rule (wpAny_bind (wpAny_unpackItems_tuple (items := #[v1, v2]) a.handled ⟨_, C₁.sub _ _ g, rfl, n, rfl⟩ fun h₂ he => ?_)))
 have C₂ : Core Z Kp c₁ hs₁ { s₁ with heap := h₂ } := C₁.keepTo fun b o e => he b o (Nat.ne_of_lt (Heap.lt_size e)) e
 have st : ∀ {z : Str}, locK (sLook z sc) = true -> storable (sLook z sc) = true := fun h => by rw [locK_eq h]; rfl
 refine wpAny_bind (wpAny_assignInOrder_more (bind_ok (V := .d d2) O W₁ C₂ (st w.hy) R2 fun K₃ s₃ W₃ C₃ => wpAny_assignInOrder_more (bind_ok (V := .d d1) O W₃ C₃ (st w.hx) R1 fun K₄ s₄ W₄ C₄ => ?_)))
 exact wpAny_pure (wpAny_pure (P c₁ .next .next _ hs₁ s₄ K₄ l₁ W₄ C₄ rfl h₁))
theorem assign_ok (B : BaseOK Z Fg) (S : SE Z d rec) (U : SU Z d rec) (O : EnvOK env sc) (a : AOK d A) (W : FrameW Z K₀ Kp c env loc) (C : Core Z Kp c hs s) {t e : Expr} {p : Pos}
  (h : orP (swapNs sc t e) (fun p => rec sc false e loc hs fun v hs => optP v.d? fun d => optP (two d) fun q => K .next (putL p.1 (.d q.1) (putL p.2 (.d q.2) loc)) hs)
   (need (okSwap sc t e) (rec sc (mutT Z.X t) e loc hs fun v hs => asg sc (rec sc false) t v loc hs fun loc hs => K .next loc hs))) (P : PostS Z K₀ env c K Q) : wpAny (model Z.P Z.w) A (exec (.Assign [t] e p) env) Q E s := by
 rcases orP_iff h with ⟨n, en, h⟩ | h
 ·exact swap_ok S O a W C (swapNs_iff en) h P
 obtain ⟨hok, h⟩ := need_iff h
 have plain : swapsWithSole [t] e p.line env = pure false -> wpAny (model Z.P Z.w) A (exec (.Assign [t] e p) env) Q E s := fun hsw => by
  refine wpAny_Assign_stores ?_ hsw (swapped_no O hok)
  refine W.ev S O a C h fun c₁ V v hs₁ s₁ l₁ C₁ W₁ R₁ h₁ => ?_
  rw [assign_star hok]
  exact asg_ok B S O a W₁ C₁ R₁ h₁ fun c₂ K₂ loc₂ hs₂ s₂ l₂ W₂ C₂ h₂ => P c₂ .next .next loc₂ hs₂ s₂ K₂ (l₁.trans l₂) W₂ C₂ rfl h₂
 by_cases hcomp : ∃ elt gens scope q x px, e = .ListComp elt gens scope q /\ t = .Name x px
 ·obtain ⟨elt, gens, scope, q, x, px, rfl, rfl⟩ := hcomp
  obtain ⟨b, hb⟩ : ∃ b, swapsWithSole [.Name x px] (.ListComp elt gens scope q) p.line env = pure b := ⟨_, rfl⟩
  cases b with
  | false => exact plain hb
  | true =>
   have hst : storable (sLook x sc) = true := by rw [<- kind_look O.names, swaps_local hb]; rfl
   rw [arm_exec_Assign]
   refine wpAny_bind (wpAny_standAt ?_)
   rw [hb]
   refine wpAny_bind (wpAny_pure (wpT rfl (wpAny_bind (m := evalThenUse _ _ _) ?_)))
   exact U env sc _ elt gens scope q loc hs _ K₀ Kp c s A _ E x px O a W C h hst fun c' V v hs' s' Kq l W' C' hk => wpAny_pure (P c' .next .next _ hs' s' Kq l W' C' rfl (need_iff hk).2)
 ·exact plain (swaps_no (and_t hok).1 fun elt gens scope q e1 x px e2 => hcomp ⟨elt, gens, scope, q, x, px, e1, e2⟩)
theorem aug_ok (B : BaseOK Z Fg) (S : SE Z d rec) (O : EnvOK env sc) (a : AOK d A) (W : FrameW Z K₀ Kp c env loc) (C : Core Z Kp c hs s) {t e : Expr} {op : Operator} {p : Pos} (h : augS Z.X sc (rec sc false) t op e loc hs K) (P : PostS Z K₀ env c K Q) :
  wpAny (model Z.P Z.w) A (exec (.AugAssign t op e p) env) Q E s := by
 cases t with
 | Name x q =>
  obtain ⟨hst, h⟩ := need_iff h
  refine wpAny_AugAssign_Name (load_ok O W.in_ (fun c₁ V₁ v₁ hs₁ s₁ l₁ C₁ R₁ h₁ => ?_) C hst h)
  refine (W.mono l₁).ev S O a C₁ h₁ fun c₂ V₂ v₂ hs₂ s₂ l₂ C₂ W₂ R₂ h₂ => ?_
  refine augV_ok (fun c₃ V₃ v₃ hs₃ s₃ l₃ C₃ R₃ h₃ => ?_) C₂ (R₁.mono l₂) R₂ h₂
  refine store_ok O (W₂.mono l₃) C₃ hst R₃ fun K₄ s₄ W₄ C₄ => ?_
  exact P c₃ .next .next _ hs₃ s₄ K₄ ((l₁.trans l₂).trans l₃) W₄ C₄ rfl h₃
 | Attribute o x q =>
  refine wpAny_AugAssign_AttributeAny (W.ev S O a C h fun c₁ V₁ v₁ hs₁ s₁ l₁ C₁ W₁ R₁ h₁ => ?_)
  refine getAttrV_ok B.cls (fun c₂ V₂ v₂ hs₂ s₂ l₂ C₂ R₂ h₂ => ?_) C₁ R₁ h₁
  refine (W₁.mono l₂).ev S O a C₂ h₂ fun c₃ V₃ v₃ hs₃ s₃ l₃ C₃ W₃ R₃ h₃ => ?_
  refine augV_ok (fun c₄ V₄ v₄ hs₄ s₄ l₄ C₄ R₄ h₄ => ?_) C₃ (R₂.mono l₃) R₃ h₃
  refine setAttrV_ok B.cls (fun c₅ hs₅ s₅ l₅ C₅ h₅ => ?_) C₄ (((R₁.mono l₂).mono l₃).mono l₄) R₄ h₄
  exact P c₅ .next .next loc hs₅ s₅ Kp ((((l₁.trans l₂).trans l₃).trans l₄).trans l₅) ((W₃.mono l₄).mono l₅) C₅ rfl h₅
 | Subscript o i q =>
  obtain ⟨hsl, h⟩ := need_iff h
  refine wpAny_AugAssign_SubscriptAny (W.ev S O a C h fun c₁ V₁ v₁ hs₁ s₁ l₁ C₁ W₁ R₁ h₁ => W₁.ev S O a C₁ h₁ fun c₂ V₂ v₂ hs₂ s₂ l₂ C₂ W₂ R₂ h₂ => ?_) (aug_store hsl)
  refine (itemV_ok (fun c₃ V₃ v₃ hs₃ s₃ l₃ C₃ R₃ h₃ => ?_) C₂ (R₁.mono l₂) R₂ h₂).1
  refine (W₂.mono l₃).ev S O a C₃ h₃ fun c₄ V₄ v₄ hs₄ s₄ l₄ C₄ W₄ R₄ h₄ => ?_
  refine augV_ok (fun c₅ V₅ v₅ hs₅ s₅ l₅ C₅ R₅ h₅ => ?_) C₄ (R₃.mono l₄) R₄ h₄
  refine setItemV_ok (fun c₆ hs₆ s₆ l₆ C₆ h₆ => ?_) C₅ ((((R₁.mono l₂).mono l₃).mono l₄).mono l₅) (((R₂.mono l₃).mono l₄).mono l₅) R₅ h₅
  exact P c₆ .next .next loc hs₆ s₆ Kp (((((l₁.trans l₂).trans l₃).trans l₄).trans l₅).trans l₆) ((W₄.mono l₅).mono l₆) C₆ rfl h₆
 | _ => exact False.elim h
theorem stepS_ok (B : BaseOK Z Fg) (S : SE Z d rec) (T : ST Z d rec) (U : SU Z d rec) (O : EnvOK env sc) (a : AOK d A) {rm : Bool} (SR : SS Z A env rs) : SS Z A env (stepS Z.X sc rm (fun m e => rec sc m e) rs) := by
 intro st loc hs K K₀ Kp c s Q E W C h P
 cases st with
 | Expr e p =>
  obtain ⟨hc, h⟩ := need_iff h
  exact wpAny_Expr_any (W.ev S O a C h fun c₁ V v hs₁ s₁ l₁ C₁ W₁ R₁ h₁ => P c₁ .next .next loc hs₁ s₁ Kp l₁ W₁ C₁ rfl h₁) (interactive_no O) (call_drops hc)
 | Pass p =>
  rw [arm_exec_Pass]
  exact wpAny_bind (wpAny_standAt (wpAny_pure (P c .next .next loc hs s Kp (.refl c) W C rfl h)))
 | Break p =>
  rw [arm_exec_Break]
  exact wpAny_bind (wpAny_standAt (wpAny_pure (P c .brk .brk loc hs s Kp (.refl c) W C rfl h)))
 | Return o p => cases o with
  | none => exact wpAny_Return_none (P c (.ret (.d .none)) (.ret .none) loc hs s Kp (.refl c) W C ⟨.none, rfl, rfl⟩ h)
  | some e => exact wpAny_Return_some (W.ev S O a C h fun c₁ V v hs₁ s₁ l₁ C₁ W₁ R₁ h₁ => P c₁ (.ret V) (.ret v) loc hs₁ s₁ Kp l₁ W₁ C₁ ⟨v, rfl, R₁⟩ h₁)
 | Assign ts e p =>
  rcases ts with _ | ⟨t, _ | ⟨t2, r⟩⟩
  ·exact False.elim h
  ·exact assign_ok B S U O a W C h P
  ·exact False.elim h
 | AugAssign t op e p => exact aug_ok B S O a W C h P
 | If t b1 b2 p =>
  rw [arm_exec_If]
  refine wpAny_bind (wpAny_standAt (wpAny_bind (T env sc t loc hs _ (fun b hs => br b (exL rs b1 loc hs K) (exL rs b2 loc hs K)) Kp c s A _ E O a W.in_ C h (fun v hs hv => hv) fun c₁ b hs₁ s₁ l₁ C₁ h₁ => ?_)))
  cases b with
  | true => exact wpI rfl (execs_ok SR (W.mono l₁) C₁ h₁ (P.up l₁))
  | false => exact wpN Bool.false_ne_true (execs_ok SR (W.mono l₁) C₁ h₁ (P.up l₁))
 | For t it body els p =>
  obtain ⟨he, h1⟩ := need_iff h
  obtain ⟨hset, h1⟩ := need_iff h1
  cases els with
  | cons _ _ => exact absurd he Bool.false_ne_true
  | nil => exact for_ok B S O a SR W C hset h1 P
 | _ => exact False.elim h
theorem evE_ok (B : BaseOK Z Fg) (SCC : SC Z d call) (SNN : SN Z d call) : ∀ n, SE Z d (evE Z.X call n) /\ ST Z d (evE Z.X call n) /\ SU Z d (evE Z.X call n)
 | 0 => ⟨fun _ _ _ _ _ _ _ _ _ _ _ _ _ _ _ _ _ h _ => False.elim h, fun _ _ _ _ _ _ _ _ _ _ _ _ _ _ _ _ _ h _ _ => False.elim h, fun _ _ _ _ _ _ _ _ _ _ _ _ _ _ _ _ _ _ _ _ _ _ _ h _ _ => False.elim h⟩
 | n + 1 => by
  obtain ⟨S, T, U⟩ := evE_ok B SCC SNN n
  have S' := stepE_ok B S SCC SNN (scomp_ok B S T) T
  exact ⟨S', stepT_ok S T S', su_ok B S T⟩
theorem evS_ok (B : BaseOK Z Fg) (S : SE Z d rec) (T : ST Z d rec) (U : SU Z d rec) (O : EnvOK env sc) (a : AOK d A) {rm : Bool} : ∀ n, SS Z A env (evS Z.X sc rm (fun m e => rec sc m e) n)
 | 0 => fun _ _ _ _ _ _ _ _ _ _ _ _ h _ => False.elim h
 | n + 1 => stepS_ok B S T U O a (evS_ok B S T U O a n)
end
theorem lookS_push {α : Type} {x y : Str} {a : α} {acc : List (Str × α)} (h : (acc.lookup x).isSome = true \/ x = y) : (((y, a) :: acc).lookup x).isSome = true := by
 rw [lookS_cons]
 by_cases e : x = y
 ·rw [if_pos e]; rfl
 ·rw [if_neg e]; exact h.resolve_right e
theorem cellsFrom_some {x : Str} : ∀ {ns : Names} {n : Nat} {acc : List (Str × Addr)}, ((acc.lookup x).isSome = true \/ sLook x ns = some .cell) -> ((cellsFrom n ns acc).lookup x).isSome = true
 | [], n, acc, h => h.elim id fun h => none_some h
 | (y, k) :: r, n, acc, h => by
  rw [sLook_cons] at h
  by_cases e : x = y
  ·rw [if_pos e] at h
   cases k with
   | cell => exact cellsFrom_some (ns := r) (n := n + 1) (.inl (lookS_push (.inr e)))
   | _ => exact cellsFrom_some (ns := r) (n := n) (.inl (h.resolve_right fun q => nomatch some_eq q))
  ·rw [if_neg e] at h
   cases k with
   | cell => exact cellsFrom_some (ns := r) (n := n + 1) (h.imp_left fun h => lookS_push (.inl h))
   | _ => exact cellsFrom_some (ns := r) (n := n) h
theorem bindL_not {kd : Str -> Option NameKind} {x : Str} : ∀ {ns : List Str} {ws : List Value} {m : Str -> Option Value}, x ∉ ns -> bindL kd (ns.zip ws) m x = m x
 | [], _, _, _ => rfl
 | _ :: _, [], _, _ => rfl
 | n :: ns, w :: ws, m, h => by
  refine (bindL_not (ns := ns) (ws := ws) fun q => h (.tail _ q)).trans ?_
  by_cases q : kd n = some .local
  ·rw [if_pos q]; exact if_neg fun (e : x = n) => h (e ▸ .head _)
  ·rw [if_neg q]
theorem bindC_not {kd : Str -> Option NameKind} {x : Str} : ∀ {ns : List Str} {ws : List Value} {m : Str -> Option Value}, x ∉ ns -> bindC kd (ns.zip ws) m x = m x
 | [], _, _, _ => rfl
 | _ :: _, [], _, _ => rfl
 | n :: ns, w :: ws, m, h => by
  refine (bindC_not (ns := ns) (ws := ws) fun q => h (.tail _ q)).trans ?_
  by_cases q : kd n = some .local
  ·rw [if_pos q]
  ·rw [if_neg q]; exact if_neg fun (e : x = n) => h (e ▸ .head _)
theorem nodupS_not {n : Str} {ns : List Str} (h : nodupS (n :: ns) = true) : n ∉ ns := fun w => by
 have h := (and_t h).1
 rw [sMem_iff.mpr w] at h
 exact ff h
theorem bindL_is {kd : Str -> Option NameKind} {x : Str} {v : Value} (hk : kd x = some .local) : ∀ {ns : List Str} {ws : List Value} {m : Str -> Option Value}, nodupS ns = true -> (ns.zip ws).lookup x = some v -> bindL kd (ns.zip ws) m x = some v
 | [], _, _, _, h => none_some h
 | _ :: _, [], _, _, h => none_some h
 | n :: ns, w :: ws, m, hn, h => by
  have h2 := (lookS_cons (r := ns.zip ws)).symm.trans h
  by_cases q : x = n
  ·rw [if_pos q] at h2
   cases q
   refine (bindL_not (nodupS_not hn)).trans ?_
   rw [if_pos hk]
   exact (if_pos rfl).trans h2
  ·rw [if_neg q] at h2; exact bindL_is (ns := ns) hk (and_t hn).2 h2
theorem bindC_is {kd : Str -> Option NameKind} {x : Str} {v : Value} (hk : kd x ≠ some .local) : ∀ {ns : List Str} {ws : List Value} {m : Str -> Option Value}, nodupS ns = true -> (ns.zip ws).lookup x = some v -> bindC kd (ns.zip ws) m x = some v
 | [], _, _, _, h => none_some h
 | _ :: _, [], _, _, h => none_some h
 | n :: ns, w :: ws, m, hn, h => by
  have h2 := (lookS_cons (r := ns.zip ws)).symm.trans h
  by_cases q : x = n
  ·rw [if_pos q] at h2
   cases q
   refine (bindC_not (nodupS_not hn)).trans ?_
   rw [if_neg hk]
   exact (if_pos rfl).trans h2
  ·rw [if_neg q] at h2; exact bindC_is (ns := ns) hk (and_t hn).2 h2
structure FnObj (Z : Stat) (F : Fn) (fd : FuncData) (a : Addr) : Prop where
 at_ : ∃ o, Z.G₀ a = some o /\ o.data = .func fd
 body : fd.body = .stmts F.body
 scope : fd.scope = F.scope
 glob : fd.globals = mainGlobals
 blt : fd.builtins = builtinsNs
 clo : fd.closure = []
 code : ∀ h, Sub Z.G₀ h -> h.CodeRec fd.code fd.qualname
structure FnsOK (Z : Stat) : Prop where
 fn : ∀ m x a F, Z.fa m x = some a -> fnOf Z.X m x = some F -> ∃ fd, FnObj Z F fd a /\ ∀ ns, argNs F.args = some ns -> ∀ (s : Shared) (ws : List Value), Sub Z.G₀ s.heap -> ws.length = ns.length -> BindsTo s fd ⟨ws, []⟩ (ns.zip ws)
section
variable {Z : Stat} {K₀ Kp Kq Kr Ks : Addr -> Option Obj} {c : Cn} {hs : Hs} {s : Shared} {A : Around} {E : Value -> Shared -> Prop} {tk : Nat} {ia : List Addr} {g : Option (Nat × D)} {Fg : Frag} {env : Env} {sc : Names} {loc : Loc} {d : Nat} {rec : RecE} {call : CallR} {K : KE} {R : Result -> Shared -> Prop}
theorem zip_loc : ∀ {ns : List Str} {Vs : List V} {ws : List Value} {loc : Loc}, zipA ns Vs = some loc -> RepVs Z c Vs ws -> ws.length = ns.length /\ ∀ x V, sLook x loc = some V -> ∃ v, (ns.zip ws).lookup x = some v /\ RepV Z c V v := by
 intro L₀
 induction L₀ with
 | nil =>
  intro M₀
  cases M₀ with
  | nil =>
   intro ws loc h R
   cases h
   cases (R : ws = [])
   exact ⟨rfl, fun x V h => none_some h⟩
  | cons _ _ =>
   intro _ _ h _
   exact none_some h
 | cons n ns ih =>
  intro M₀
  cases M₀ with
  | cons V Vs =>
   intro ws loc h R
   obtain ⟨l, e, h⟩ := optB_iff h
   cases some_eq h
   obtain ⟨v, r, rfl, R1, R2⟩ := R
   obtain ⟨i1, i2⟩ := ih e R2
   refine ⟨congrArg Nat.succ i1, fun x U hx => ?_⟩
   rw [sLook_cons] at hx
   rw [show ((n :: ns).zip (v :: r)).lookup x = _ from lookS_cons]
   by_cases q : x = n
   ·rw [if_pos q] at hx ⊢; exact ⟨v, rfl, some_eq hx ▸ R1⟩
   ·rw [if_neg q] at hx ⊢; exact i2 x U hx
  | nil =>
   intro _ _ h _
   exact none_some h
theorem noFree_look {x : Str} : ∀ {ns : Names}, noFree ns = true -> sLook x ns ≠ some .free
 | [], _ => fun h => none_some h
 | (y, k) :: r, h => fun e => by
  obtain ⟨h1, h2⟩ := and_t h
  rw [sLook_cons] at e
  by_cases q : x = y
  ·rw [if_pos q] at e; cases some_eq e; exact ff h1
  ·rw [if_neg q] at e; exact noFree_look h2 e
theorem okParams_mem {ns : Names} : ∀ {ps : List Str}, okParams ns ps = true -> ∀ x ∈ ps, storable (sLook x ns) = true
 | [], _, x, hx => nomatch hx
 | p :: ps, h, x, hx => (List.mem_cons.mp hx).elim (fun q => q ▸ (and_t h).1) fun hx => okParams_mem (and_t h).2 x hx
theorem AOK.down (a : AOK (d + 1) A) : AOK d (A.deeper env) := by
 have h1 := a.depth
 have h2 := a.units
 refine ⟨a.handled, ?_, ?_⟩
 ·show A.depth + 1 + 4 * d + 4 < recursionLimit
  lia
 ·show A.units + 3 + 40 * d + 40 < cLine
  lia
structure OkF (F : Fn) (ns : List Str) : Prop where
 nodup : nodupS ns = true
 kind : F.scope.kind = .function
 co : F.scope.isCoroutine = false
 gen : F.scope.isGenerator = false
 free : noFree F.scope.names = true
 dbg : sLook "__debug__" F.scope.names = none
 params : okParams F.scope.names ns = true
theorem okFn_iff {F : Fn} {ns : List Str} (h : okFn F ns = true) : OkF F ns := by
 obtain ⟨h, h8⟩ := and_t h
 obtain ⟨h, h7⟩ := and_t h
 obtain ⟨h, _⟩ := and_t h
 obtain ⟨h, h5⟩ := and_t h
 obtain ⟨h, h4⟩ := and_t h
 obtain ⟨h, h3⟩ := and_t h
 obtain ⟨h1, h2⟩ := and_t h
 exact ⟨h1, isFn_eq h2, not_t h3, not_t h4, h5, Option.isNone_iff_eq_none.mp h7, h8⟩
noncomputable def frameAt (env : Env) : List Addr := env.locals :: env.cells.filterMap fun p => env.cells.lookup p.1
theorem in_frame {x : Str} {ca : Addr} (e : env.cells.lookup x = some ca) : ca ∈ frameAt env := .tail _ (List.mem_filterMap.mpr ⟨(x, ca), mem_of_lookup e, e⟩)
theorem frame_cases {P : Prop} {b : Addr} (h : b ∈ frameAt env) (h1 : b = env.locals -> P) (h2 : ∀ x, env.cells.lookup x = some b -> P) : P :=
 (List.mem_cons.mp h).elim h1 fun h => let ⟨p, _, e⟩ := List.mem_filterMap.mp h; h2 p.1 e
theorem frame_ok (C : Core Z Kp c hs s) {s₁ : Shared} {ns : List Str} {ws : List Value} {Vs : List V} (RV : RepVs Z c Vs ws) (hloc : zipA ns Vs = some loc) (hnd : nodupS ns = true) (O : EnvOK env sc) (hfr : ∀ x, env.kindOf x ≠ some .free)
  (X : InCallC s env.locals (bindL env.kindOf (ns.zip ws) fun _ => none) env.cells (bindC env.kindOf (ns.zip ws) fun _ => none) s₁) : ∃ Kq, FrameW Z Kp Kq c env loc /\ Core Z Kq c hs s₁ := by
 obtain ⟨⟨⟨h', tk', rfl⟩, hns, hkeep, hfresh⟩, hcell, hap, habove⟩ := X
 obtain ⟨hlen, hlook⟩ := zip_loc hloc RV
 have hcells : ∀ x, env.kindOf x = some .cell -> ∃ ca, env.cells.lookup x = some ca := fun x hx => Option.isSome_iff_exists.mp (O.cells x (.inl hx))
 have fresh0 : ∀ b, s.heap.objs.size <= b -> Kp b = none := fun b hb => none_of_fresh C.kp (fresh_ge hb)
 have above : ∀ x ca, env.cells.lookup x = some ca -> s.heap.objs.size <= ca /\ ca ≠ env.locals := fun x ca e =>
  have hlo := habove x ca (mem_of_lookup e)
  ⟨Nat.le_trans hfresh (Nat.le_of_lt hlo), Nat.ne_of_gt hlo⟩
 obtain ⟨o', es, ep, e1, e2, e3, e4⟩ := hns
 have newAt : ∀ b ∈ frameAt env, s.heap.objs.size <= b := fun b hb => frame_cases hb (fun q => q ▸ hfresh) fun x e => (above x b e).1
 have hereAt : ∀ b ∈ frameAt env, (h'.get? b).isSome = true := fun b hb => frame_cases hb (fun q => by rw [q, e1]; rfl) fun x e => let ⟨o, e, _⟩ := hcell x b e; by rw [e]; rfl
 have C₁ : Core Z (heapK (frameAt env) h' Kp) c hs { s with heap := h', toks := tk' } := C.upK (upsK h' hereAt) (fun b hb => .inr (fresh_ge (newAt b hb))) (fun b o _ e => hkeep b o e) fun b hb => (heapK_in hb).symm
 refine ⟨_, ⟨⟨⟨o', es, ep, (heapK_in (.head _)).trans e1, e2, e3, fun x V e hx => ?_⟩, fun x V e hx => ?_⟩, fun b ob e => ?_, fresh0 _ hfresh, fun x hx => ?_, fun x y ca hx hy e1 e2 => name_of_addr hap (mem_of_lookup e1) (mem_of_lookup e2), hfr⟩, C₁⟩
 ·obtain ⟨v, j2, j3⟩ := hlook x V e
  exact ⟨v, (e4 x).trans (bindL_is hx hnd j2), j3⟩
 ·obtain ⟨v, j2, j3⟩ := hlook x V e
  have hx := hx.resolve_right (hfr x)
  obtain ⟨ca, hca⟩ := hcells x hx
  obtain ⟨o2, f1, f2⟩ := hcell x ca hca
  rw [bindC_is (by rw [hx]; exact fun q => nomatch some_eq q) hnd j2] at f2
  exact ⟨ca, v, o2, hca, (heapK_in (in_frame hca)).trans f1, f2, j3⟩
 ·exact (show heapK (frameAt env) h' Kp b = Kp b from if_neg fun q => no2 (fresh0 b (newAt b q)) e).trans e
 ·obtain ⟨ca, hca⟩ := hcells x hx
  obtain ⟨o2, f1, f2⟩ := hcell x ca hca
  exact ⟨ca, o2, _, hca, (heapK_in (in_frame hca)).trans f1, f2, fresh0 ca (above x ca hca).1, (above x ca hca).2⟩
set_option backward.match.sparseCases true in
theorem call_body (B : BaseOK Z Fg) (a : AOK (d + 1) A) (C : Core Z Kp c hs s) {F : Fn} {fd : FuncData} {ad : Addr} (FO : FnObj Z F fd ad) {args : Args} {ns : List Str} {ws : List Value} {Vs : List V}
  (hbind : BindsTo s fd args (ns.zip ws)) (RV : RepVs Z c Vs ws) (hloc : zipA ns Vs = some loc) (hok : okFn F ns = true) {KS' : KS}
  (H : ∀ env, EnvOK env F.scope.names -> env.code = fd.code -> env.qual = fd.qualname ++ ".<locals>." -> ∀ Kq s₁ Q E, FrameW Z Kp Kq c env loc -> Core Z Kq c hs s₁ -> PostS Z Kp env c KS' Q -> wpAny (model Z.P Z.w) (A.deeper env) (execs F.body env) Q E s₁)
  (k : ∀ c' f F' hs' s' loc', c.le c' -> Core Z Kp c' hs' s' -> RepF Z c' f F' -> KS' f loc' hs' -> R (.ok (.ret (match F' with | .ret v => v | _ => .none))) s') :
  codeAny (model Z.P Z.w) A (.call (.ref ad) args) R s := by
 have ok := okFn_iff hok
 obtain ⟨⟨o, hG, hdata⟩, hbody, hscope, hglob, hblt, hclo, hcode⟩ := FO
 have sub : Sub Z.G₀ s.heap := fun b o e => C.sub _ _ (C.base _ _ e)
 have hroom : A.depth < recursionLimit := Nat.lt_of_le_of_lt (Nat.le_add_right _ _) (Nat.lt_of_le_of_lt (Nat.le_add_right _ _) a.depth)
 refine codeAny_call_function hroom (sub _ _ hG) hdata (by rw [hscope]; exact ok.co) (by rw [hscope]; exact ok.gen) hbody (hcode _ sub) (hbind _ _ _ _ ?_)
 rw [hclo, hscope, hglob, hblt]
 refine wpAny_newFunctionEnv_cells ok.kind (fun p hp => ?_) fun env he s₁ X => ?_
 ·have e := storable_iff (okParams_mem ok.params p.1 (List.of_mem_zip hp).1)
  rw [<- sLook_eq]
  exact e.imp id fun e => ⟨e, cellsFrom_some (.inr e)⟩
 refine ⟨(B.nolim _ sub).keeps X.toInCall.keep, codeAny_func ?_⟩
 have hkk : ∀ x, env.kindOf x = sLook x F.scope.names := fun x => kind_look (by rw [he]; rfl) x
 have O : EnvOK env F.scope.names := by
  refine ⟨by rw [he]; rfl, by rw [he]; exact ok.kind, by rw [he]; rfl, by rw [he]; rfl, ok.dbg, fun x hx => ?_⟩
  rw [hkk] at hx
  rw [he]
  exact cellsFrom_some (.inr (hx.resolve_right (noFree_look ok.free)))
 obtain ⟨Kq, W, C₁⟩ := frame_ok C RV hloc ok.nodup O (fun x => by rw [hkk]; exact noFree_look ok.free) X
 exact H env O (by rw [he]; rfl) (by rw [he]; rfl) _ _ _ _ W C₁ fun c₂ f F₂ loc₂ hs₂ s₂ K₂ l₂ W₂ C₂ R₂ h₂ => k c₂ f F₂ hs₂ s₂ loc₂ l₂ (C₂.forget W₂.le) R₂ h₂
end
structure WrapOK (Z : Stat) (W : WrapP) (w : WrapI) : Prop where
 hd : ∀ h, Sub Z.G₀ h -> CodeHd h w.cc w.tb
 gl : ∀ h, Sub Z.G₀ h -> ∃ mg, h.Ns mainGlobals mg /\ h.BuiltinsAt mg w.tb
 ne : mainGlobals ≠ w.tb
 pos : W.lp = w.pos
 bind : ∀ (s : Shared) (q : Str) (cl : List (Str × Addr)) (pm cv ct v : Value), BindsTo s (kla_fn "<lambda>" q W.as W.lb W.lsc cl pm cv ct) ⟨[v], []⟩ [(W.xn, v)]
 dflt : ∀ env, defaultsOf W.as env = ([], [])
section
variable {Z : Stat} {K₀ Kp Kq Kr Ks : Addr -> Option Obj} {c : Cn} {hs : Hs} {s : Shared} {A : Around} {E : Value -> Shared -> Prop} {tk : Nat} {Fg : Frag} {env : Env} {sc : Names} {loc : Loc} {d : Nat} {rec : RecE} {call : CallR} {K : KE} {Q : Value -> Shared -> Prop}
theorem lam_frame (C : Core Z Kp c hs s) (O : EnvOK env sc) (FI : FrameIn Z Kp c env loc) {scope : Scope} (ok : OkC sc scope) {env' : Env} (hn : env'.scope.names = scope.names) (hcl : env'.cells = clsF env scope.names [])
  {x : Str} {V : V} {v : Value} (R : RepV Z c V v) {o : Obj} {es : Array DictEntry} {ep : Nat} (e2 : o.data = .dict es ep) (e3 : StrKeys es) (e4 : nsFind es x = some v) (fr : Kp env'.locals = none) (hx : sLook x scope.names = some .local) :
  FrameIn Z (updK Kp env'.locals o) c env' ((x, V) :: dropNames scope.names loc) := by
 refine ⟨⟨o, es, ep, if_pos rfl, e2, e3, fun y U e hy => ?_⟩, fun y U e hy => ?_⟩
 ·rw [kind_look hn] at hy
  rw [sLook_cons] at e
  by_cases q : y = x
  ·rw [if_pos q] at e
   exact ⟨v, q ▸ e4, some_eq e ▸ R⟩
  ·rw [if_neg q] at e
   have := (drop_look e).2
   rw [hy] at this
   exact ff this.symm
 ·rw [kind_look hn] at hy
  have hf : sLook y scope.names = some .free := by
   rcases hy with hy | hy
   ·rcases okNames_mem ok.names _ (look_mem hy) with q | q | q <;> exact nomatch q
   ·exact hy
  rw [sLook_cons] at e
  by_cases q : y = x
  ·rw [q, hx] at hf; exact nomatch some_eq hf
  ·rw [if_neg q] at e
   obtain ⟨a, u, ob, f1, f2, f3, f4⟩ := FI.cell y U (drop_look e).1 (by rw [kind_look O.names]; exact freeOK_look ok.free hf)
   obtain ⟨a', ha'⟩ := Option.isSome_iff_exists.mp (clsF_some (env := env) (cs := []) (.inr (look_mem hf)))
   have ha : a' = a := (clsF_look ha').elim (fun h => none_some h) fun h => by rw [h, f1]; rfl
   exact ⟨a, u, ob, by rw [hcl, ha', ha], (upd_ne (ne_of fr f2)).trans f2, f3, f4⟩
set_option backward.match.sparseCases true in
theorem lam_call (S0 : SE Z d rec) (a : AOK (d + 1) A) (nolim : ∀ h, Sub Z.G₀ h -> h.NoLimit) (O : EnvOK env sc) (FI : FrameIn Z Kp c env loc) (C : Core Z Kp c hs s) {W : WrapP} {w : WrapI} (WO : WrapOK Z W w) (ok : OkC sc W.lsc) (hco : W.lsc.isCoroutine = false) (hgen : W.lsc.isGenerator = false)
  (hx : locK (sLook W.xn W.lsc.names) = true) {f c' : Addr} {q : Str} {pm ctv : Value} (gf : c.G f = some (kla_obj "<lambda>" q W.as W.lb W.lsc (clsF env W.lsc.names []) pm c' ctv)) (hcd : s.heap.CodeRec (.ref c') q) {V : V} {v : Value} (R : RepV Z c V v)
  (h : rec W.lsc.names false W.lb ((W.xn, V) :: dropNames W.lsc.names loc) hs K) (P : Post Z Kp c K Q) :
  codeAny (model Z.P Z.w) A (.call (.ref f) ⟨[v], []⟩) (fun r s' => match r with | .ok (.ret v) => Q v s' | .ok _ => False | .error e => E e s') s := by
 have hroom : A.depth < recursionLimit := Nat.lt_of_le_of_lt (Nat.le_add_right _ _) (Nat.lt_of_le_of_lt (Nat.le_add_right _ _) a.depth)
 have hl := locK_eq hx
 refine kla_callFunE hroom (C.sub _ _ gf) rfl hco hgen rfl hcd (WO.bind s q _ pm (.ref c') ctv v _ _ _ _ (wpAny_newFunctionEnv (fun p hp e => ?_) (fun p hp => ?_) (fun h₁ hns hsb => ?_) ok.kind))
 ·rcases okNames_mem ok.names p hp with q | q | q <;> exact nomatch q.symm.trans e
 ·rw [List.mem_singleton.mp hp, <- sLook_eq]; exact hl
 have kk : ∀ b o, s.heap.get? b = some o -> h₁.get? b = some o := fun b o e => hsb.extBut b o (fun q => no2 (fresh_size _) (q ▸ e)) (Heap.get?_push_of_some _ e)
 obtain ⟨o, es, ep, e1, e2, e3, e4⟩ := hns
 have fr : Kp s.heap.objs.size = none := none_of_fresh C.kp (fresh_size _)
 have C₁ : Core Z (updK Kp s.heap.objs.size o) c hs { s with heap := h₁, toks := s.toks + 1 } := C.newK kk (fresh_size _) e1
 refine ⟨nolim _ fun b o e => C₁.sub _ _ (C₁.base _ _ e), kla_codeExpr ?_⟩
 have FI' := lam_frame C O FI ok (env' := newEnv W.lsc s.heap.objs.size mainGlobals (clsF env W.lsc.names []) (q ++ ".<locals>.") (some f) (.ref c') none builtinsNs) rfl rfl R e2 e3
  ((e4 W.xn).trans (by show List.lookup W.xn [(W.xn, v)] = _; rw [lookS_cons, if_pos rfl])) fr hl
 have O' : EnvOK (newEnv W.lsc s.heap.objs.size mainGlobals (clsF env W.lsc.names []) (q ++ ".<locals>.") (some f) (.ref c') none builtinsNs) W.lsc.names := by
  refine ⟨rfl, ok.kind, rfl, rfl, ok.dbg, fun x hx => ?_⟩
  rw [kind_look (sc := W.lsc.names) rfl] at hx
  refine clsF_some (.inr (look_mem ?_))
  rcases hx with hx | hx
  ·rcases okNames_mem ok.names _ (look_mem hx) with q | q | q <;> exact nomatch q
  ·exact hx
 refine S0.ev O' a.down FI' C₁ h fun c₂ V₂ v₂ hs₂ s₂ l₂ C₂ _ R₂ h₂ => ?_
 exact P c₂ V₂ v₂ hs₂ s₂ l₂ (C₂.forget fun b o e => (upd_ne (ne_of fr e)).trans e) R₂ h₂
theorem lam_make (C : Core Z Kp c hs s) (O : EnvOK env sc) {W : WrapP} {w : WrapI} (hcode : env.code = .ref w.cc) (hw : Z.wrap = some w) (WO : WrapOK Z W w) (ok : OkC sc W.lsc) (hq : env.qual ++ "<lambda>" = w.qual)
  (k : ∀ c' f c₁ pm ctv s', c.le c' -> Core Z Kp c' hs s' -> c'.G f = some (kla_obj "<lambda>" w.qual W.as W.lb W.lsc (clsF env W.lsc.names []) pm c₁ ctv) -> (∀ h, Sub c'.G h -> h.CodeRec (.ref c₁) w.qual) -> Q (.ref f) s') :
  wpAny (model Z.P Z.w) A (eval (.Lambda W.as W.lb W.lsc W.lp) env) Q E s := by
 refine kla_eval (WO.dflt env) ?_
 rw [hq, WO.pos]
 have sub : Sub Z.G₀ s.heap := fun b o e => C.sub _ _ (C.base _ _ e)
 obtain ⟨mg, hg, hb⟩ := WO.gl _ sub
 have hcl := closure_is O.names O.cells W.lsc ok.free
 obtain ⟨o, ho, ht⟩ := C.tabAt hw
 cases ht with
 | nil e =>
  refine kla_makeFunction (ps := #[]) hcl O.glob hg hcode (WO.hd _ sub) (ho.trans (congrArg some e)) trivial rfl WO.ne hb fun c₁ ctv h' tk hx hge hlt hrec htb => ?_
  obtain ⟨c₂, oc, vs, t, e2, hoc, hd, hv⟩ := hrec
  cases e2
  obtain ⟨C₁, l₁⟩ := C.setT (tk := tk) hw (fresh_ge hge) hoc (fun b o hb e => hx b o hb e) htb (.one c₁ oc vs t rfl (Cn.addG_get _ _ _) hd hv)
  have e3 : (h'.push (kla_obj "<lambda>" w.qual W.as W.lb W.lsc (clsF env W.lsc.names []) ((mg "__name__").getD .none) c₁ ctv)).get? h'.objs.size = some _ := Heap.get?_push_size _ rfl
  obtain ⟨C₂, l₂⟩ := C₁.newG (tk := tk) (fun b o e => Heap.get?_push_of_some _ e) (fresh_size _) e3
  exact k _ _ c₁ _ ctv _ (l₁.trans l₂) C₂ (Cn.addG_get _ _ _) fun h hs => ⟨c₁, oc, vs, t, rfl, hs _ _ (l₂.g _ _ (Cn.addG_get _ _ _)), hd, hv⟩
 | one c₁ oc vs t e g hd hv =>
  refine kla_makeFunctionHit (ps := #[rawInt w.pos.line, rawInt w.pos.col, .ref c₁]) hcl O.glob hg hcode (WO.hd _ sub) (ho.trans (congrArg some e)) trivial (if_pos (by rw [beq_self_eq_true, beq_self_eq_true]; rfl)) hb fun ctv h' tk hx hsz => ?_
  have e3 : (h'.push (kla_obj "<lambda>" w.qual W.as W.lb W.lsc (clsF env W.lsc.names []) ((mg "__name__").getD .none) c₁ ctv)).get? h'.objs.size = some _ := Heap.get?_push_size _ rfl
  obtain ⟨C₂, l₂⟩ := C.newG (tk := tk) (fun b o e => Heap.get?_push_of_some _ (hx b o e)) (fresh_ge hsz) e3
  exact k _ _ c₁ _ ctv _ l₂ C₂ (Cn.addG_get _ _ _) fun h hs => ⟨c₁, oc, vs, t, rfl, hs _ _ (l₂.g _ _ g), hd, hv⟩
theorem AOK.le (a : AOK (d + 1) A) : AOK d A := by
 have h1 := a.depth
 have h2 := a.units
 exact ⟨a.handled, by lia, by lia⟩
inductive WIn (Kp : Addr -> Option Obj) (env : Env) (x : Str) (v : Value) : Prop
 | mk (o : Obj) (es : Array DictEntry) (ep : Nat) (h1 : Kp env.locals = some o) (h2 : o.data = .dict es ep) (h3 : StrKeys es) (h4 : nsFind es x = some v) : WIn Kp env x v
theorem store_raw (O : EnvOK env sc) (W : FrameW Z K₀ Kp c env loc) (C : Core Z Kp c hs s) {x : Str} {v : Value} (hk : env.kindOf x = some .local) (hl : sLook x loc = none) {Q : Unit -> Shared -> Prop}
  (k : ∀ Kq s', FrameW Z K₀ Kq c env loc -> Core Z Kq c hs s' -> WIn Kq env x v -> Q () s') : wpAny (model Z.P Z.w) A (storeName env x v) Q E s := by
 have hp : (env.scope.kind == .class || (env.scope.kind == .module && env.locals != env.globals)) = false := by rw [O.kind]; rfl
 obtain ⟨o, es, ep, h1, h2, h3, h4⟩ := W.in_.ns
 refine wpAny_storeName_local hk ⟨o, es, ep, C.kp _ _ h1, h2, h3, fun n => rfl⟩ (fun h' hn hsb => ?_) hp
 obtain ⟨o', es', ep', e1, e2, e3, e4⟩ := hn
 have U : Ups [env.locals] Kp (updK Kp env.locals o') := ups_upd
 refine k _ _ ⟨⟨⟨o', es', ep', if_pos rfl, e2, e3, fun y V e hy => ?_⟩, fun y V e hy => ?_⟩, fun b o e => (U.same b (not_mem1 (ne_of W.freeL e))).trans (W.le b o e), W.freeL, fun y hy =>
  let ⟨a', o', v', g1, g2, g3, g4, g5⟩ := W.cells y hy; ⟨a', o', v', g1, (U.same a' (not_mem1 g5)).trans g2, g3, g4, g5⟩, W.apart, W.nofree⟩ (C.setK (tk := s.toks + 1) h1 (fun b o hb e => hsb.extBut b o hb e) e1)
  ⟨o', es', ep', if_pos rfl, e2, e3, (e4 x).trans (if_pos rfl)⟩
 ·rw [show _ = if y = x then some v else _ from e4 y, if_neg fun q => no2 hl (q ▸ e)]
  exact h4 y V e hy
 ·obtain ⟨a, u, ob, f1, f2, f3, f4⟩ := W.in_.cell y V e hy
  exact ⟨a, u, ob, f1, (upd_ne fun (r : a = env.locals) => by rw [r, h1] at f2; rw [<- some_eq f2, h2] at f3; exact nomatch f3).trans f2, f3, f4⟩
theorem inner_ok (S : SE Z d rec) {rec0 : RecE} (S0 : SE Z d rec0) (nolim : ∀ h, Sub Z.G₀ h -> h.NoLimit) (O : EnvOK env sc) (a : AOK (d + 1) A) (FI : FrameIn Z Kp c env loc) (C : Core Z Kp c hs s) {W : WrapP} {w : WrapI} (WO : WrapOK Z W w) (ok : OkC sc W.lsc) (hco : W.lsc.isCoroutine = false) (hgen : W.lsc.isGenerator = false)
  (hx : locK (sLook W.xn W.lsc.names) = true) {f c₁ : Addr} {pm ctv : Value} (hk : env.kindOf W.wn = some .local) (hI : WIn Kp env W.wn (.ref f)) (gf : c.G f = some (kla_obj "<lambda>" w.qual W.as W.lb W.lsc (clsF env W.lsc.names []) pm c₁ ctv)) (hcd : ∀ h, Sub c.G h -> h.CodeRec (.ref c₁) w.qual) (ha : okArgsE [W.ea] = true)
  (h : rec sc false W.ea loc hs fun v hs => rec0 W.lsc.names false W.lb ((W.xn, v) :: dropNames W.lsc.names loc) hs K) (P : Post Z Kp c K Q) : wpAny (model Z.P Z.w) A (eval W.inner env) Q E s := by
 have he : eval W.inner env = (do callWith W.ip (<- eval (.Name W.wn W.np') env) [] (backTo W.ip (starEach [W.ea] env)) (backToKw W.ip (keywordEach [] env))) := rfl
 have hdb : (W.wn == ("__debug__" : Str)) = false := lookup_ne (by have := hk; unfold Env.kindOf at this; rw [O.names] at this; exact this) O.nodebug
 obtain ⟨o, es, ep, h1, h2, h3, h4⟩ := hI
 rw [he]
 refine wpAny_bind (wpAny_Name (wpAny_loadName_local O.kind hk ⟨o, es, ep, C.kp _ _ h1, h2, h3, fun n => rfl⟩ h4 ?_) hdb)
 refine callWith_ok S O a.le FI (C.toks (tk := s.toks)) (K := fun Vs hs => optP (one Vs) fun v => rec0 W.lsc.names false W.lb ((W.xn, v) :: dropNames W.lsc.names loc) hs K) (okArgsE_iff ha).1 h (fun c' Vs hs' s' l C' _ => ?_) fun c' Vs vs hs' s' l C' R h' => ?_
 ·refine ⟨.frame, .inl rfl, (Looks.ld (part := none) (C'.sub _ _ (l.g _ _ gf))).andThen ?_⟩
  exact .now
 ·obtain ⟨v, e, h'⟩ := optP_iff h'
  rw [one_eq e] at R
  obtain ⟨u, r, rfl, R1, rfl⟩ := R
  exact wpAny_call (lam_call S0 a nolim O (FI.mono l) C' WO ok hco hgen hx (l.g _ _ gf) (hcd _ fun b o e => C'.sub _ _ (l.g _ _ e)) R1 h' (P.up l))
structure OkW (W : WrapP) (sc : Names) (loc : Loc) : Prop where
 comp : OkC sc W.lsc
 co : W.lsc.isCoroutine = false
 gen : W.lsc.isGenerator = false
 wn : locK (sLook W.wn sc) = true
 new : sLook W.wn loc = none
 xn : locK (sLook W.xn W.lsc.names) = true
 i : okArgsE [W.inner] = true
 a : okArgsE [W.ea] = true
 b : okBase W.o = true
 l : Nat.beq W.ap.endLine W.cp.line = true
theorem okWrap_iff {W : WrapP} (h : okWrap W sc loc = true) : OkW W sc loc := by
 obtain ⟨h, h8⟩ := and_t h
 obtain ⟨h, h7⟩ := and_t h
 obtain ⟨h, h6⟩ := and_t h
 obtain ⟨h, h5⟩ := and_t h
 obtain ⟨h, h4⟩ := and_t h
 obtain ⟨h, h3⟩ := and_t h
 obtain ⟨h1, h2⟩ := and_t h
 obtain ⟨g, g2⟩ := and_t h1
 obtain ⟨_, g1⟩ := and_t g
 exact ⟨okComp_iff h1, not_t g1, not_t g2, h2, Option.isNone_iff_eq_none.mp h3, h4, h5, h6, h7, h8⟩
theorem wcall_ok (B : BaseOK Z Fg) (S : SE Z d rec) (SCC : SC Z d call) {rec0 : RecE} (S0 : SE Z d rec0) (O : EnvOK env sc) (a : AOK (d + 1) A) (FI : FrameIn Z Kp c env loc) (C : Core Z Kp c hs s) {W : WrapP} {w : WrapI} (WO : WrapOK Z W w) (ok : OkW W sc loc)
  {f c₁ : Addr} {pm ctv : Value} (hI : WIn Kp env W.wn (.ref f)) (gf : c.G f = some (kla_obj "<lambda>" w.qual W.as W.lb W.lsc (clsF env W.lsc.names []) pm c₁ ctv)) (hcd : ∀ h, Sub c.G h -> h.CodeRec (.ref c₁) w.qual)
  (h : rec sc false W.o loc hs fun ov hs => optP (tgOf Z.X ov W.x hs) fun t => rec sc false W.ea loc hs fun v hs => rec0 W.lsc.names false W.lb ((W.xn, v) :: dropNames W.lsc.names loc) hs fun u hs => callTg call false t [u] hs K) (P : Post Z Kp c K Q) :
  wpAny (model Z.P Z.w) A (eval (.Call (.Attribute W.o W.x W.ap) [W.inner] [] W.cp) env) Q E s := by
 rw [arm_eval_Call, okBase_base ok.b]
 refine wpAny_bind (S.ev O a.le FI C h fun c₁ V₁ v₁ hs₁ s₁ l₁ C₁ F₁ R₁ h₁ => wpAny_bind (wpAny_standAt ?_))
 obtain ⟨t, ht, h₁⟩ := optP_iff h₁
 refine methodCall_ok (m := false) B SCC a.le (P.up l₁) C₁ ok.i ok.l R₁ ht fun Q' hq => ?_
 refine wpAny_items_cons (e := W.inner) (inner_ok S S0 B.nolim O a F₁ C₁ WO ok.comp ok.co ok.gen ok.xn ((kind_look O.names _).trans (locK_eq ok.wn)) hI (l₁.g _ _ gf) (fun h hs => hcd h fun b o e => hs b o (l₁.g b o e)) ok.a h₁
  fun c₂ V₂ v₂ hs₂ s₂ l₂ C₂ R₂ h₂ => wpAny_items_nil (hq c₂ [V₂] [v₂] hs₂ s₂ l₂ C₂ ⟨v₂, [], rfl, R₂, rfl⟩ h₂)) rfl
theorem wrap_exec (B : BaseOK Z Fg) (SCC : SC Z d call) (S : SE Z d (evE Z.X call depthE)) (S0 : SE Z d (evE Z.X noCall depthE)) (O : EnvOK env sc) (a : AOK (d + 1) A) (W₀ : FrameW Z K₀ Kp c env loc) (C : Core Z Kp c hs s) {W : WrapP} {w : WrapI} (WO : WrapOK Z W w)
  (hw : Z.wrap = some w) (hcode : env.code = .ref w.cc) (hq : env.qual ++ "<lambda>" = w.qual) {rm : Bool} {K : KS} {Q : Flow -> Shared -> Prop} (h : wrapB Z.X call rm W sc loc hs K) (P : PostS Z K₀ env c K Q) : wpAny (model Z.P Z.w) A (execs W.stmts env) Q E s := by
 obtain ⟨hok, h⟩ := need_iff h
 have ok := okWrap_iff hok
 refine wpAny_execs_cons (wpAny_Assign_Name (lam_make C O hcode hw WO ok.comp hq fun c₁ f cc pm ctv s₁ l₁ C₁ gf hcd => ?_))
 refine store_raw O (W₀.mono l₁) C₁ ((kind_look O.names _).trans (locK_eq ok.wn)) ok.new fun Kq s₂ W₂ C₂ hI => ?_
 refine wpAny_execs_cons (wpAny_Return_some ?_)
 rw [arm_eval_BinOp]
 refine wpAny_bind (W₂.ev S O a.le C₂ h fun c₃ V₃ v₃ hs₃ s₃ l₃ C₃ W₃ R₃ h₃ => wpAny_bind (wpAny_holding ?_))
 rw [arm_eval_BinOp]
 refine wpAny_bind (wcall_ok B S SCC S0 O a W₃.in_ C₃ WO ok hI (l₃.g _ _ gf) (fun h hs => hcd h fun b o e => hs b o (l₃.g b o e)) h₃ fun c₄ V₄ v₄ hs₄ s₄ l₄ C₄ R₄ h₄ => wpAny_bind (wpAny_holding ?_))
 refine (W₃.mono l₄).ev S O a.le C₄ h₄ fun c₅ V₅ v₅ hs₅ s₅ l₅ C₅ W₅ R₅ h₅ => wpAny_bind (wpAny_standAt (PyProof.Rows.wpAny_operate' ?_))
 refine binOpV_ok (fun c₆ V₆ v₆ hs₆ s₆ l₆ C₆ R₆ h₆ => wpAny_bind (wpAny_standAt (PyProof.Rows.wpAny_operate' ?_))) C₅ (R₄.mono l₅) R₅ h₅
 refine binOpV_ok (fun c₇ V₇ v₇ hs₇ s₇ l₇ C₇ R₇ h₇ => ?_) C₆ (((R₃.mono l₄).mono l₅).mono l₆) R₆ h₆
 exact P c₇ (.ret V₇) (.ret v₇) loc hs₇ s₇ Kq ((((l₁.trans l₃).trans l₄).trans l₅).trans (l₆.trans l₇)) (((W₅.mono l₆).mono l₇)) C₇ ⟨v₇, rfl, R₇⟩ h₇
structure WrapAt (Z : Stat) (W : WrapP) (w : WrapI) : Prop where
 wr : Z.wrap = some w
 ok : WrapOK Z W w
 fn : sEq "__init__" W.fn = false
 at_ : ∀ F fd a, fnOf Z.X true W.fn = some F -> Z.fa true W.fn = some a -> FnObj Z F fd a -> F.body = W.stmts /\ fd.code = .ref w.cc /\ fd.qualname ++ ".<locals>." ++ "<lambda>" = w.qual
noncomputable def WrapsOK (Z : Stat) : Prop := ∀ W, Z.X.wrap = some W -> ∃ w, WrapAt Z W w
theorem wrapOf_iff {b : Bool} {x : Str} {W : WrapP} (h : wrapOf Z.X b x = some W) : Z.X.wrap = some W /\ b = true /\ x = W.fn := by
 obtain ⟨W', e, h⟩ := optB_iff h
 obtain ⟨h1, h⟩ := noB_iff h
 cases some_eq h
 obtain ⟨h2, h3⟩ := and_t (not_t' h1)
 exact ⟨e, h2, sEq_iff.mp h3⟩
theorem noCall_ok : SC Z d noCall /\ SN Z d noCall :=
 ⟨fun m isM name vs hs K Kp c s A Q E ws ad _ _ _ _ h _ => False.elim h, fun f ns vs hs K Kp c s A Q E ws v _ _ _ _ h _ => by
  obtain ⟨_, h⟩ := need_iff h
  obtain ⟨F, _, h⟩ := optP_iff h
  obtain ⟨as, _, h⟩ := optP_iff h
  obtain ⟨ns', _, h⟩ := optP_iff h
  exact False.elim (need_iff h).2⟩
theorem body_ok (B : BaseOK Z Fg) (WS : WrapsOK Z) (SCC : SC Z d call) (SNN : SN Z d call) {isM : Bool} {name : Str} {F : Fn} {fd : FuncData} {ad : Addr} (hfa : Z.fa isM name = some ad) (hF : fnOf Z.X isM name = some F) (FOb : FnObj Z F fd ad)
  (a : AOK (d + 1) A) (aw : ∀ W, wrapOf Z.X isM name = some W -> AOK (d + 2) A) {rm : Bool} {K : KS} (h : bodyW Z.X call rm (wrapOf Z.X isM name) F loc hs K) :
  ∀ env, EnvOK env F.scope.names -> env.code = fd.code -> env.qual = fd.qualname ++ ".<locals>." -> ∀ Kq s₁ Q E, FrameW Z Kp Kq c env loc -> Core Z Kq c hs s₁ -> PostS Z Kp env c K Q -> wpAny (model Z.P Z.w) (A.deeper env) (execs F.body env) Q E s₁ := by
 intro env O hc hq Kq s₁ Q E W C P
 obtain ⟨S, T, U⟩ := evE_ok B SCC SNN depthE
 cases e : wrapOf Z.X isM name with
 | none =>
  rw [e] at h
  exact execs_ok (evS_ok B S T U O a.down depthS) W C h P
 | some V =>
  rw [e] at h
  obtain ⟨e1, rfl, rfl⟩ := wrapOf_iff e
  obtain ⟨w, WA⟩ := WS V e1
  obtain ⟨f1, f2, f3⟩ := WA.at_ F fd ad hF hfa FOb
  rw [f1]
  exact wrap_exec B SCC S (evE_ok B noCall_ok.1 noCall_ok.2 depthE).1 O (aw V e).down W C WA.ok WA.wr (hc.trans f2) (by rw [hq]; exact f3) h P
end
section
variable {Z : Stat} {K₀ Kp Kq Kr Ks : Addr -> Option Obj} {c : Cn} {hs : Hs} {s : Shared} {A : Around} {E : Value -> Shared -> Prop} {tk : Nat} {ia : List Addr} {g : Option (Nat × D)} {Fg : Frag} {env : Env} {sc : Names} {loc : Loc} {d : Nat} {rec : RecE} {call : CallR} {K : KE} {R : Result -> Shared -> Prop}
noncomputable def Cn.cut (c : Cn) (n : Nat) : Cn := ⟨c.G, c.ρ.take n, c.mx⟩
theorem take_get {α : Type} {l : List α} {n m : Nat} {a : α} (h : (l.take n)[m]? = some a) : l[m]? = some a := by
 rw [List.getElem?_take] at h
 by_cases q : m < n
 ·rw [if_pos q] at h; exact h
 ·rw [if_neg q] at h; exact none_some h
theorem isObj.monoG {c c' : Cn} (l : c.leG c') {x : D} {o : Obj} (h : isObj Z c x o) : isObj Z c' x o := by
 cases h with
 | mk vs n e r =>
  refine .mk vs n e ?_
  cases x <;> first | exact r | exact RepDs.monoG l _ _ r
 | dct k i t e d => exact .dct k i t e d
theorem Core.mxNone (C : Core Z Kp c hs s) (hm : hs.mp = none) : c.mx = none := by
 cases q : c.mx with
 | none => rfl
 | some p =>
  obtain ⟨o, _, h⟩ := C.atM (0, fun _ => False) (List.mem_append_right _ (by rw [q, hm]; exact .head _))
  exact h.elim
theorem Core.cutL (C : Core Z Kp c hs s) (n : Nat) (hm : hs.mp = none) : Core Z Kp (c.cut n) ⟨hs.hp.take n, none⟩ s := by
 have lg : c.leG (c.cut n) := ⟨fun _ _ h => h, fun _ h => h⟩
 have len : (c.ρ.take n).length = (hs.hp.take n).length := by rw [List.length_take, List.length_take, C.len]
 have hmx := C.mxNone hm
 have e1 : mpLed Z (c.cut n) (c.cut n).mx none = tabLed Z.wrap (c.cut n) := by
  show tabLed Z.wrap (c.cut n) ++ mpLed0 Z (c.cut n) c.mx none = _
  rw [hmx]; exact List.append_nil _
 have e0 : mpLed Z c c.mx hs.mp = tabLed Z.wrap c := by
  rw [hmx, hm]; exact List.append_nil _
 have ap := C.apart
 rw [C.addr, e0, tabLed_addr (c' := c.cut n)] at ap
 obtain ⟨ap1, ap2, ap3⟩ := List.nodup_append.mp ap
 have old : ∀ p ∈ objLed Z (c.cut n) (c.ρ.take n) (hs.hp.take n), (∃ o, s.heap.get? p.1 = some o /\ p.2 o) /\ p.1 ∈ c.ρ := fun p hp => by
  obtain ⟨m, x, e1, e2, e3⟩ := objLed_mem hp
  obtain ⟨o, f1, f2⟩ := C.atL _ (objLed_of (take_get e1) (take_get e2))
  exact ⟨⟨o, f1, by rw [e3]; exact isObj.monoG lg f2⟩, List.mem_of_getElem? (take_get e1)⟩
 have aT : Led.At (tabLed Z.wrap (c.cut n)) s.heap := tabLed_at lg (fun _ _ o e => e) (by have := C.atM; rw [e0] at this; exact this)
 refine ⟨C.base, C.sub, C.kp, C.dis, len, ?_, ?_, fun p hp => ?_, C.inst, C.gens, C.os⟩
 ·unfold ledOf
  rw [e1]
  exact Led.at_append aT fun p hp => (old p hp).1
 ·unfold ledOf
  rw [e1, List.map_append]
  show (_ ++ (objLed Z (c.cut n) (c.ρ.take n) (hs.hp.take n)).map (·.1)).Nodup
  rw [objLed_addr len]
  exact List.nodup_append.mpr ⟨ap1, List.Sublist.nodup (List.take_sublist ..) C.nodupR, fun a ha b hb => ap3 a ha b (List.mem_of_mem_take hb)⟩
 ·unfold ledOf at hp
  rw [e1] at hp
  rcases List.mem_append.mp hp with hp | hp
  ·have hq : p.1 ∈ (tabLed Z.wrap c).map (·.1) := by rw [tabLed_addr (c' := c.cut n)]; exact List.mem_map_of_mem hp
   obtain ⟨q, hq, e⟩ := List.mem_map.mp hq
   exact e ▸ C.free q (List.mem_append_left _ (by rw [e0]; exact hq))
  ·exact C.freeR (old p hp).2
theorem Core.newM (C : Core Z Kp c hs s) (hm : hs.mp = none) {x dx : Addr} {o : Obj} {h' : Heap} (ho : ∃ sl, o = ⟨.ref Z.ca, some dx, .plain, sl⟩) (k : ∀ b o, s.heap.get? b = some o -> h'.get? b = some o) (fx : s.heap.get? x = none) (fd : s.heap.get? dx = none) (hne : dx ≠ x)
  (ex : h'.get? x = some o) (ed : h'.get? dx = some (dictOf [] 0)) : ∃ c', c.le c' /\ c'.mx = some (x, dx) /\ Core Z Kp c' ⟨hs.hp, some []⟩ { s with heap := h', toks := tk } := by
 have l : c.le ⟨(c.addG x o).G, c.ρ, some (x, dx)⟩ := ⟨(Cn.addG_le (none_of_fresh C.sub fx)).g, fun _ _ h => h, fun p h => no2 (C.mxNone hm) h⟩
 have e0 : mpLed Z c c.mx hs.mp = tabLed Z.wrap c := by
  rw [C.mxNone hm, hm]; exact List.append_nil _
 have ap := C.apart
 rw [C.addr, e0, tabLed_addr (c' := ⟨(c.addG x o).G, c.ρ, some (x, dx)⟩)] at ap
 obtain ⟨ap1, ap2, ap3⟩ := List.nodup_append.mp ap
 have aT : Led.At (tabLed Z.wrap c) s.heap := by have := C.atM; rw [e0] at this; exact this
 have inT : ∀ p ∈ tabLed Z.wrap (⟨(c.addG x o).G, c.ρ, some (x, dx)⟩ : Cn), ∃ q ∈ ledOf Z c hs, q.1 = p.1 := fun p hp => by
  have hq : p.1 ∈ (tabLed Z.wrap c).map (·.1) := by rw [tabLed_addr (c' := ⟨(c.addG x o).G, c.ρ, some (x, dx)⟩)]; exact List.mem_map_of_mem hp
  obtain ⟨q, hq, e⟩ := List.mem_map.mp hq
  exact ⟨q, List.mem_append_left _ (by rw [e0]; exact hq), e⟩
 have inR : ∀ a ∈ c.ρ, ∃ q ∈ ledOf Z c hs, q.1 = a := fun a ha => by
  have hq : a ∈ (ledOf Z c hs).map (·.1) := by rw [C.addr]; exact List.mem_append_right _ ha
  obtain ⟨q, hq, e⟩ := List.mem_map.mp hq
  exact ⟨q, hq, e⟩
 refine ⟨_, l, rfl, fun b o' e => l.g b o' (C.base b o' e), fun b o' e => upd_some e (fun q r => q ▸ r ▸ ex) fun _ e => k b o' (C.sub b o' e), fun b o' e => k b o' (C.kp b o' e), fun b o' e => (upd_ne (ne_of fx (C.kp b o' e))).trans (C.dis b o' e), C.len, ?_, ?_, fun p hp => ?_, fun q dd e => ?_, C.gens, C.os⟩
 ·refine Led.at_append (Led.at_append (tabLed_at l.toG (fun _ _ o e => k _ o e) aT) fun p hp => ?_) (objLed_at l (fun a _ o e => k a o e) C.atL)
  rw [List.mem_singleton.mp hp]
  exact ⟨_, ed, [], 0, rfl, .nil⟩
 ·show (List.map (fun p : Addr × (Obj -> Prop) => p.1) ((tabLed Z.wrap ⟨(c.addG x o).G, c.ρ, some (x, dx)⟩ ++ [(dx, isFld Z ⟨(c.addG x o).G, c.ρ, some (x, dx)⟩ [])]) ++ objLed Z ⟨(c.addG x o).G, c.ρ, some (x, dx)⟩ c.ρ hs.hp)).Nodup
  rw [List.map_append, List.map_append, objLed_addr C.len]
  refine List.nodup_append.mpr ⟨nodup_snoc ap1 fun hb => ?_, ap2, fun a ha b hb q => ?_⟩
  ·obtain ⟨p, hp, e⟩ := List.mem_map.mp hb
   obtain ⟨q, hq, e'⟩ := inT p hp
   exact C.notIn fd hq (e'.trans e)
  ·rcases List.mem_append.mp ha with ha | ha
   ·exact ap3 a ha b hb q
   ·obtain ⟨z, hz, e'⟩ := inR b hb
    exact C.notIn fd hz (e'.trans (q.symm.trans (List.mem_singleton.mp ha)))
 ·rcases List.mem_append.mp hp with hp | hp
  ·rcases List.mem_append.mp hp with hp | hp
   ·obtain ⟨q, hq, e⟩ := inT p hp
    exact e ▸ ⟨(upd_ne (C.notIn fx hq)).trans (C.free q hq).1, (C.free q hq).2⟩
   ·rw [List.mem_singleton.mp hp]
    exact ⟨(upd_ne hne).trans (none_of_fresh C.sub fd), none_of_fresh C.kp fd⟩
  ·obtain ⟨m, y, e1, e2, e3⟩ := objLed_mem hp
   have q := C.freeR (List.mem_of_getElem? e1)
   obtain ⟨_, _, e, _⟩ := C.locO e1
   exact ⟨(upd_ne (ne_of fx e)).trans q.1, q.2⟩
 ·cases some_eq e
  obtain ⟨sl, rfl⟩ := ho
  exact ⟨sl, if_pos rfl⟩
structure InitOK (Z : Stat) (Fg : Frag) : Prop where
 init : ∃ fI, Z.fa true "__init__" = some fI /\ findIn Fg (.ref Z.ca) "__init__" = some (some (.ref fI)) /\ typeIn Fg (.ref fI) = some (.type "function") /\
  ∀ F, fnOf Z.X true "__init__" = some F -> ∃ fd, FnObj Z F fd fI /\ ∀ self as, argNs F.args = some (self :: as) -> ∀ (s : Shared) (x : Value) (ws : List Value), Sub Z.G₀ s.heap -> ws.length = as.length -> BindsTo s fd ⟨[x], as.zip ws⟩ ((self :: as).zip (x :: ws))
theorem sameNs_eq : ∀ {a b : List Str}, sameNs a b = true -> a = b
 | [], [], _ => rfl
 | x :: r, y :: t, h => by
  obtain ⟨h1, h2⟩ := and_t (show (sEq x y && sameNs r t) = true from h)
  rw [sEq_iff.mp h1, sameNs_eq h2]
 | [], _ :: _, h => ff h
 | _ :: _, [], h => ff h
theorem AOK.under (a : AOK (d + 1) A) (C : Addr) (vals : List Value) (kw : List (Str × Value)) : AOK d (A.under (.builtin "type.__call__" ⟨.ref C :: vals, kw⟩)) := by
 have h1 := a.depth
 have h2 := a.units
 have w : (A.under (.builtin "type.__call__" ⟨.ref C :: vals, kw⟩)).depth = A.depth + 1 := rfl
 have u : (A.under (.builtin "type.__call__" ⟨.ref C :: vals, kw⟩)).units = A.units + 1 := rfl
 exact ⟨a.handled, by lia, by lia⟩
set_option backward.match.sparseCases true in
noncomputable def outV (F : Flow) : Value := match F with
 | .ret v => v
 | _ => .none
theorem retOf {c : Cn} {f : Fl} {F : Flow} (h : RepF Z c f F) : RepV Z c (retV f) (outV F) := by
 cases f with
 | ret V => exact let ⟨v, e, r⟩ := h; e ▸ r
 | next => cases (h : F = .next); exact rfl
 | brk => cases (h : F = .brk); exact rfl
theorem retC_ok {cu : Bool} {c' : Cn} {V : V} {v : Value} {hs' : Hs} {s' : Shared} {Q : Value -> Shared -> Prop} (P : Post Z Kp c K Q) (l : c.le c') (C₀ : c.ρ.length = hs.hp.length) (C : Core Z Kp c' hs' s') (r : RepV Z c' V v) (h : retC cu hs.hp.length V hs' K) : Q v s' := by
 cases cu with
 | false => exact P c' V v hs' s' l C r h
 | true =>
  obtain ⟨x, ex, h⟩ := optP_iff h
  obtain ⟨hm, h⟩ := need_iff h
  rw [V.d_eq ex] at r
  refine P (c'.cut hs.hp.length) (.d x) v _ s' ⟨l.g, fun n a e => ?_, l.mx⟩ (C.cutL _ (Option.isNone_iff_eq_none.mp hm)) (RepD.monoG (c := c') (c' := c'.cut hs.hp.length) ⟨fun _ _ h => h, fun _ h => h⟩ x v r) h
  exact (List.getElem?_take_of_lt (C₀ ▸ (List.getElem?_eq_some_iff.mp e).1)).trans (l.ρ n a e)
inductive NewIs (X : PX) (call : CallR) (f : V) (ns : Option (List Str)) (vs : List V) (hs : Hs) (K : KE) : Prop
 | mk (F : Fn) (self : Str) (as : List Str) (e : f = .d .cls) (hm : hs.mp = none) (hF : fnOf X true "__init__" = some F) (hA : argNs F.args = some (self :: as)) (hn : ns = some as)
   (h : call false true "__init__" (.d .mpu :: vs) ⟨hs.hp, some []⟩ fun r hs => need r.isNone (K (.d .mpu) hs)) : NewIs X call f ns vs hs K
theorem newV_iff {X : PX} {f : V} {ns : Option (List Str)} {vs : List V} (h : newV X call f ns vs hs K) : NewIs X call f ns vs hs K := by
 obtain ⟨e, h⟩ := need_iff h
 obtain ⟨F, hF, h⟩ := optP_iff h
 obtain ⟨as, hA, h⟩ := optP_iff h
 obtain ⟨ns', hn, h⟩ := optP_iff h
 obtain ⟨hi, hc⟩ := need_iff h
 clear h
 cases as with
 | nil => exact ff hi
 | cons self as => exact ⟨F, self, as, V.isCls_eq (and_t e).1, Option.isNone_iff_eq_none.mp (and_t e).2, hF, hA, by rw [hn, sameNs_eq (show sameNs as ns' = true from hi)], hc⟩
theorem callN_body (B : BaseOK Z Fg) (WS : WrapsOK Z) {n : Nat} (SCC : SC Z (2 * n) (callN Z.X n)) (SNN : SN Z (2 * n) (callN Z.X n)) {m isM : Bool} {name : Str} {vs : List V} {Q : Value -> Shared -> Prop} {ws : List Value} {ad : Addr} {F : Fn} {fd : FuncData} {args : Args}
  (a : AOK (2 * n + 1) A) (C : Core Z Kp c hs s) (RV : RepVs Z c vs ws) (hF : fnOf Z.X isM name = some F) (hfa : Z.fa isM name = some ad) (aw : ∀ W, wrapOf Z.X isM name = some W -> AOK (2 * n + 2) A) (FOb : FnObj Z F fd ad) (hb : ∀ ns, argNs F.args = some ns -> ws.length = ns.length -> BindsTo s fd args (ns.zip ws)) (h : callN Z.X (n + 1) m isM name vs hs K) (P : Post Z Kp c K Q)
  (hR : ∀ v s', Q v s' -> R (.ok (.ret v)) s') : codeAny (model Z.P Z.w) A (.call (.ref ad) args) R s := by
 obtain ⟨F', hF', h⟩ := optP_iff h
 cases some_eq (hF.symm.trans hF')
 obtain ⟨ns, hns, h⟩ := optP_iff h
 obtain ⟨loc, hloc, h⟩ := optP_iff h
 obtain ⟨hok, h⟩ := need_iff h
 exact call_body B a C FOb (hb ns hns (zip_loc hloc RV).1) RV hloc hok (body_ok B WS SCC SNN hfa hF FOb a aw h) fun c' f F' hs' s' loc' l C' RF hk => hR _ _ (retC_ok P l C.len C' (retOf RF) hk)
theorem callN_ok (B : BaseOK Z Fg) (WS : WrapsOK Z) (FO : FnsOK Z) (IO : InitOK Z Fg) : ∀ n, SC Z (2 * n) (callN Z.X n) /\ SN Z (2 * n) (callN Z.X n)
 | 0 => ⟨fun m isM name vs hs K Kp c s A Q E ws ad _ _ _ _ h _ => False.elim h, fun f ns vs hs K Kp c s A Q E ws v _ _ _ _ h _ => let ⟨_, _, _, _, _, _, _, _, h⟩ := newV_iff h; False.elim h⟩
 | n + 1 => by
  obtain ⟨SCC, SNN⟩ := callN_ok B WS FO IO n
  refine ⟨fun m isM name vs hs K Kp c s A Q E ws ad a C RV hfa h P => ?_, fun f ns vs hs K Kp c s A Q E ws v a C Rf RV h P => ?_⟩
  ·obtain ⟨F, hF, _⟩ := optP_iff h
   obtain ⟨fd, FOb, hb⟩ := FO.fn isM name ad F hfa hF
   exact callN_body B WS SCC SNN (a.le) C RV hF hfa (fun _ _ => a) FOb (fun ns hns hl => hb ns hns s ws (fun b o e => C.sub _ _ (C.base _ _ e)) hl) h P fun v s' q => q
  ·obtain ⟨F, self, as, ef, hm, hF, hA, hn, h2⟩ := newV_iff h
   cases some_eq hn
   have a : AOK (2 * n + 1 + 1) A := a
   rw [ef] at Rf
   cases (Rf : v = .ref Z.ca)
   obtain ⟨fI, hfa, hfind, htype, hI⟩ := IO.init
   obtain ⟨fd, FOb, hb⟩ := hI F hF
   refine wpAny_call ?_
   have X := B.cls.here C
   obtain ⟨hp, gg, dd, tt, oo⟩ := s
   refine make_core (makes_of X B.cls.makes) (looks_findIn X hfind) (fun self => bind_fn X self htype) (.inl rfl) ?_
   have k : ∀ b o, hp.get? b = some o -> ((hp.push emptyDict).push (instObj Z.ca hp.objs.size)).get? b = some o := fun b o e => Heap.get?_push_of_some _ (Heap.get?_push_of_some _ e)
   have hx : ((hp.push emptyDict).push (instObj Z.ca hp.objs.size)).get? (hp.objs.size + 1) = some (instObj Z.ca hp.objs.size) := by heap_get
   have hd : ((hp.push emptyDict).push (instObj Z.ca hp.objs.size)).get? hp.objs.size = some (dictOf [] 0) := by heap_get
   obtain ⟨c', l, hmx, C'⟩ := C.newM (tk := tt) hm (x := hp.objs.size + 1) (dx := hp.objs.size) ⟨_, rfl⟩ k (fresh_ge (Nat.le_succ _)) (fresh_ge (Nat.le_refl _)) (Nat.ne_of_lt (Nat.lt_succ_self _)) hx hd
   have RV' : RepVs Z c' (.d .mpu :: vs) (.ref (hp.objs.size + 1) :: ws) := ⟨_, _, rfl, ⟨_, _, rfl, hmx⟩, RV.mono l⟩
   refine callN_body B WS SCC SNN (Q := fun v s' => v = .none /\ Q (.ref (hp.objs.size + 1)) s') (a.under _ _ _) C' RV' hF hfa (fun W e => ?_) FOb (fun ns hns hl => ?_) h2 (fun c'' V v hs'' s'' l'' C'' RV'' hk => ?_) fun v s' q => q
   ·obtain ⟨e1, _, e2⟩ := wrapOf_iff e
    obtain ⟨w, WA⟩ := WS W e1
    have := WA.fn
    rw [sEq_iff.mpr e2] at this
    exact ff this.symm
   ·rw [hA] at hns
    cases some_eq hns
    exact hb self _ hA _ _ ws (fun b o e => C'.sub _ _ (C'.base _ _ e)) (Nat.succ.inj hl)
   ·obtain ⟨hv, hk⟩ := need_iff hk
    rw [V.isNone_eq hv] at RV''
    exact ⟨RV'', P c'' (.d .mpu) _ hs'' s'' (l.trans l'') C'' ⟨_, _, rfl, l''.mx _ hmx⟩ hk⟩
end
noncomputable def hid : Option WrapI -> Heap -> Addr -> Option Obj
 | some w, h, b => if b = w.tb then none else h.get? b
 | none, h, b => h.get? b
noncomputable def notTab (o : Obj) : Bool := match o.data with
 | .fields vs => decide (0 < vs.size)
 | _ => true
noncomputable def TabIn (wi : Option WrapI) (h : Heap) : Prop := ∀ w, wi = some w -> h.get? w.tb = some (tabObj #[])
theorem hid_of {wi : Option WrapI} {h : Heap} (T : TabIn wi h) {a : Addr} {o : Obj} (e : h.get? a = some o) (n : notTab o = true) : hid wi h a = some o := by
 cases wi with
 | none => exact e
 | some w => exact (if_neg fun q => by rw [q, T w rfl] at e; rw [<- some_eq e] at n; exact ff n).trans e
theorem hid_le {wi : Option WrapI} {h : Heap} {a : Addr} {o : Obj} (e : hid wi h a = some o) : h.get? a = some o := by
 cases wi with
 | none => exact e
 | some w =>
  by_cases q : a = w.tb
  ·exact none_some ((if_pos q).symm.trans e)
  ·exact (if_neg q).symm.trans e
noncomputable def hidF (wi : Option WrapI) (h : Heap) : Frag := (List.range h.objs.size).filterMap fun a => (hid wi h a).map fun o => (a, o)
theorem look_fm (g : Addr -> Option Obj) (a : Addr) : ∀ l : List Nat, a ∈ l \/ g a = none -> (l.filterMap fun a => (g a).map fun o => (a, o)).lookup a = g a
 | [], hh => (hh.resolve_left (nomatch ·)).symm
 | b :: r, hh => by
  rw [List.filterMap_cons]
  cases q : g b with
  | none => exact look_fm g a r (hh.elim (fun m => (List.mem_cons.mp m).elim (fun e => .inr (e ▸ q)) .inl) .inr)
  | some o =>
   show ((b, o) :: _).lookup a = _
   rw [List.lookup_cons]
   by_cases e : a = b
   ·rw [e, beq_self_eq_true, q]
   ·rw [beq_false_of_ne e]; exact look_fm g a r (hh.imp_left fun m => (List.mem_cons.mp m).resolve_left e)
theorem hidF_look (wi : Option WrapI) (h : Heap) (a : Addr) : (hidF wi h).lookup a = hid wi h a := look_fm (hid wi h) a _ (by
 by_cases q : a < h.objs.size
 ·exact .inl (List.mem_range.mpr q)
 ·refine .inr ?_
  cases e : hid wi h a with
  | none => rfl
  | some o => exact no2 (fresh_ge (Nat.not_lt.mp q)) (hid_le e))
noncomputable def isFnSt : Option Stmt -> Bool
 | some (.FunctionDef ..) => true
 | _ => false
noncomputable def PX.part (X : PX) (isM : Bool) : List Stmt := match isM with
 | true => X.cbody
 | false => X.rest
noncomputable def faOf (X : PX) (l m : List (Str × Value)) (isM : Bool) (x : Str) : Option Addr :=
 if isFnSt (findSt x (X.part isM)) then (match (match isM with | true => l | false => m).lookup x with
  | some (.ref a) => some a
  | _ => none) else none
noncomputable def okEltL (cbody : List Stmt) : Expr -> Bool
 | .Constant (.int _) _ _ => true
 | .Name x _ => isFnSt (findSt x cbody)
 | _ => false
noncomputable def okClsSt (cbody : List Stmt) : Stmt -> Bool
 | .FunctionDef _ args _ _ _ _ _ _ _ _ => nodupS (args.args.map (·.arg))
 | .Assign _ (.List es _) _ => es.all (okEltL cbody)
 | _ => true
noncomputable def okModSt : Stmt -> Bool
 | .FunctionDef _ args _ _ _ _ _ _ _ _ => nodupS (args.args.map (·.arg))
 | _ => true
noncomputable def metaNames : List Str := ["__getattribute__", "__getattr__", "__setattr__"]
noncomputable def xNames : List Str := ["__dict__", "__weakref__", "__doc__"]
noncomputable def nmNames : List Str := Str.ofString "__qualname__" :: copiedNames
noncomputable def okX (p : Program) (X : PX) (names : List Str) : Bool :=
 (fldNames ++ metaNames).all (fun x => !sMem x (names ++ xNames)) && nmNames.all (fun x => (findSt x X.cbody).isNone) && X.cbody.all (okClsSt X.cbody) && X.rest.all okModSt &&
  biNames.all (fun b => !p.boundNames.contains (Str.ofString b.id))
structure Ground (wi : Option WrapI) (p : Program) (P : Params) (X : PX) (N : Addr) (h : Heap) (l m : List (Str × Value)) (names : List Str) (pm : Value) : Prop where
 cls : ∃ t q, h.get? (N + 1) = some (clsObj X.cname X.cname N t q)
 ns : DictIs h N (l.filter (fun p => !sEq p.1 "__qualname__") ++ extraP N)
 names : names = l.map (·.1)
 st : ∀ st ∈ X.cbody, StOK 29 h pm (X.cname ++ ".") l st
 md : ∀ st ∈ X.rest, MOK h m st
 g : h.Ns mainGlobals (fun x => match m.lookup x with | some v => some v | none => m0 P x)
 b : h.Ns builtinsNs ((boot_heap P).nsMap builtinsNs)
 cst : h.get? cStatics = some ⟨.none, none, .dict #[] 0, #[]⟩
 look : m.lookup X.cname = some (.ref (N + 1))
 bound : ∀ x ∈ m.map (·.1), p.boundNames.contains x = true
 tab : TabIn wi h
 nob : m.lookup (Str.ofString "__builtins__") = none
 bm : h.get? 4 = some { cls := .type "module", dict := some 0 }
inductive FnSt (x : Str) (st : Stmt) : Prop
 | mk (args : Arguments) (body : List Stmt) (deco : List Expr) (ret : Option Expr) (tp : List TypeParam) (scope : Scope) (ts : Option Scope) (bind : Str) (pos : Pos) (e : st = .FunctionDef x args body deco ret tp scope ts bind pos) : FnSt x st
inductive AsSt (x : Str) (st : Stmt) : Prop
 | mk (p : Pos) (v : Expr) (q : Pos) (e : st = .Assign [.Name x p] v q) : AsSt x st
theorem stName_iff {x : Str} {s : Stmt} (h : stName s = some x) : FnSt x s \/ AsSt x s := by
 cases s with
 | FunctionDef => exact .inl (some_eq h ▸ ⟨_, _, _, _, _, _, _, _, _, rfl⟩)
 | Assign ts v q =>
  obtain ⟨t, e, h⟩ := optB_iff h
  obtain ⟨p, e'⟩ := nameP1_eq h
  exact .inr (one_eq e ▸ e' ▸ ⟨p, v, q, rfl⟩)
 | _ => exact none_some h
theorem isAt_eq {x : Str} {o : Option Str} (h : isAt x o = true) : o = some x := by
 cases o with
 | none => exact ff h
 | some y => rw [sEq_iff.mp h]
theorem findSt_spec {x : Str} {st : Stmt} : ∀ {b : List Stmt}, findSt x b = some st -> st ∈ b /\ (FnSt x st \/ AsSt x st)
 | [], h => none_some h
 | s :: r, h => by
  have e : findSt x (s :: r) = match isAt x (stName s) with
   | true => some s
   | false => findSt x r := rfl
  rw [e] at h
  cases q : isAt x (stName s) with
  | true => rw [q] at h; exact some_eq h ▸ ⟨.head _, stName_iff (isAt_eq q)⟩
  | false => rw [q] at h; exact ⟨.tail _ (findSt_spec (b := r) h).1, (findSt_spec (b := r) h).2⟩
theorem isFnSt_iff {x : Str} {b : List Stmt} (h : isFnSt (findSt x b) = true) : ∃ st, findSt x b = some st /\ FnSt x st := by
 cases q : findSt x b with
 | none => rw [q] at h; exact ff h
 | some st =>
  rcases (findSt_spec q).2 with f | ⟨_, _, _, e⟩
  ·exact ⟨st, rfl, f⟩
  ·rw [q, e] at h; exact ff h
section
variable {wi : Option WrapI} {p : Program} {w : World} {X : PX} {N : Addr} {s : Shared} {l m : List (Str × Value)} {names : List Str} {pm : Value}
noncomputable def statOf (wi : Option WrapI) (p : Program) (w : World) (X : PX) (N : Addr) (s : Shared) (l m : List (Str × Value)) : Stat := ⟨wi, p, w, X, hid wi s.heap, faOf X l m, N + 1, s.os⟩
theorem lookF {a : Addr} {o : Obj} (T : TabIn wi s.heap) (e : s.heap.get? a = some o) (n : notTab o = true) : (hidF wi s.heap).lookup a = some o := (hidF_look _ _ _).trans (hid_of T e n)
theorem Ground.own (G : Ground wi p w.params X N s.heap l m names pm) (x : Str) : ownIn (hidF wi s.heap) x (.ref (N + 1)) = some ((l.filter (fun p => !sEq p.1 "__qualname__") ++ extraP N).lookup x) := by
 obtain ⟨t, q, e⟩ := G.cls
 obtain ⟨es, n, e2, he⟩ := G.ns
 have h1 : ownIn (hidF wi s.heap) x (.ref (N + 1)) = nsIn (hidF wi s.heap) N x := by
  unfold ownIn
  dsimp only
  rw [lookF G.tab e rfl]
  rfl
 rw [h1]
 unfold nsIn
 rw [lookF G.tab e2 rfl]
 dsimp only
 have hf := he.find (x := x)
 have hr : es.toList.any (·.refKey) = false := by
  have : ∀ (es : List DictEntry) (L : List (Str × Value)), Ents es L -> es.any (·.refKey) = false := by
   intro es L h
   induction h with
   | nil => rfl
   | cons a b r ih => rw [List.any_cons, ih, Bool.or_false]; unfold DictEntry.refKey; rw [a]
  exact this _ _ he
 rw [hr]
 rw [<- hf]
 cases es.toList.find? (fun e => e.key.isStr x) <;> rfl
theorem Ground.find (G : Ground wi p w.params X N s.heap l m names pm) (x : Str) : findIn (hidF wi s.heap) (.ref (N + 1)) x = match (l.filter (fun p => !sEq p.1 "__qualname__") ++ extraP N).lookup x with
  | some v => some (some v)
  | none => alongIn (hidF wi s.heap) x [.type "object"] := by
 obtain ⟨t, q, e⟩ := G.cls
 unfold findIn
 dsimp only
 rw [lookF G.tab e rfl]
 show alongIn (hidF wi s.heap) x [.ref (N + 1), .type "object"] = _
 rw [alongIn, G.own x]
 cases (l.filter (fun p => !sEq p.1 "__qualname__") ++ extraP N).lookup x <;> rfl
theorem look_filter {x : Str} (hx : x ≠ ("__qualname__" : Str)) : ∀ l : List (Str × Value), (l.filter (fun p => !sEq p.1 "__qualname__")).lookup x = l.lookup x
 | [] => rfl
 | (y, v) :: r => by
  rw [List.filter_cons, lookS_cons]
  cases q : sEq y "__qualname__" with
  | true => exact (look_filter hx r).trans (if_neg fun e => hx (e.trans (sEq_iff.mp q))).symm
  | false =>
   show ((y, v) :: _).lookup x = _
   rw [lookS_cons, look_filter hx r]
theorem Ground.has (G : Ground wi p w.params X N s.heap l m names pm) {x : Str} {v : Value} (hx : x ≠ ("__qualname__" : Str)) (h : l.lookup x = some v) : findIn (hidF wi s.heap) (.ref (N + 1)) x = some (some v) := by
 rw [G.find, List.lookup_append, look_filter hx, h]
 rfl
theorem Ground.hasnt (G : Ground wi p w.params X N s.heap l m names pm) {x : Str} (h : sMem x (names ++ xNames) = false) : findIn (hidF wi s.heap) (.ref (N + 1)) x = alongIn (hidF wi s.heap) x [.type "object"] := by
 have hn := sMem_false.mp h
 rw [List.mem_append, not_or] at hn
 have h1 : (l.filter (fun p => !sEq p.1 "__qualname__")).lookup x = none := by
  refine lookup_none_of fun hm => hn.1 ?_
  rw [G.names]
  obtain ⟨q, hq, e⟩ := List.mem_map.mp hm
  exact List.mem_map.mpr ⟨q, (List.mem_filter.mp hq).1, e⟩
 have h2 : (extraP N).lookup x = none := by
  refine lookup_none_of fun hm => hn.2 ?_
  exact hm
 rw [G.find, List.lookup_append, h1, h2]
 rfl
theorem okX_split (h : okX p X names = true) : (∀ x ∈ fldNames ++ metaNames, sMem x (names ++ xNames) = false) /\ (∀ x ∈ nmNames, findSt x X.cbody = none) /\ (∀ st ∈ X.cbody, okClsSt X.cbody st = true) /\ (∀ st ∈ X.rest, okModSt st = true) /\
  (∀ b ∈ biNames, p.boundNames.contains (Str.ofString b.id) = false) := by
 obtain ⟨h, h5⟩ := and_t h
 obtain ⟨h, h4⟩ := and_t h
 obtain ⟨h, h3⟩ := and_t h
 obtain ⟨h1, h2⟩ := and_t h
 exact ⟨fun x hx => not_t (List.all_eq_true.mp h1 x hx), fun x hx => Option.isNone_iff_eq_none.mp (List.all_eq_true.mp h2 x hx), List.all_eq_true.mp h3, List.all_eq_true.mp h4, fun b hb => not_t (List.all_eq_true.mp h5 b hb)⟩
theorem FnAt.obj {n₀ : Nat} {h : Heap} {a name qual params body scope pm dv dV c'} (F : FnAt n₀ h a name qual params body scope pm dv dV c') : ∃ fd, h.get? a = some { cls := .type "function", data := .func fd } := ⟨_, F.fn⟩
inductive FnIs (X : PX) (l m : List (Str × Value)) (h : Heap) (x : Str) (args : Arguments) (body : List Stmt) (scope : Scope) : Prop
 | mk (a : Addr) (dv : List Value) (dV : Value) (c' : Addr) (e1 : l.lookup x = some (.ref a)) (e2 : faOf X l m true x = some a) (F : FnAt 29 h a x (X.cname ++ "." ++ x) args body scope pm dv dV c') : FnIs X l m h x args body scope
inductive FnIsM (X : PX) (l m : List (Str × Value)) (h : Heap) (x : Str) (args : Arguments) (body : List Stmt) (scope : Scope) : Prop
 | mk (a : Addr) (dv : List Value) (dV : Value) (c' : Addr) (pm' : Value) (e1 : m.lookup x = some (.ref a)) (e2 : faOf X l m false x = some a) (F : FnAt 15 h a x x args body scope pm' dv dV c') : FnIsM X l m h x args body scope
theorem Ground.fn (G : Ground wi p w.params X N s.heap l m names pm) {x : Str} {args body deco ret tp scope ts bind pos} (hf : findSt x X.cbody = some (.FunctionDef x args body deco ret tp scope ts bind pos)) :
  FnIs (pm := pm) X l m s.heap x args body scope := by
 have hm := (findSt_spec hf).1
 have hst := G.st _ hm
 cases hst with
 | def_ hl F =>
  refine ⟨_, _, _, _, hl, ?_, F⟩
  unfold faOf PX.part
  rw [hf, hl]
  rfl
theorem Ground.fnM (G : Ground wi p w.params X N s.heap l m names pm) {x : Str} {args body deco ret tp scope ts bind pos} (hf : findSt x X.rest = some (.FunctionDef x args body deco ret tp scope ts bind pos)) :
  FnIsM X l m s.heap x args body scope := by
 have hm := (findSt_spec hf).1
 have hst := G.md _ hm
 cases hst with
 | def_ hn hl F =>
  refine ⟨_, _, _, _, _, hl, ?_, F⟩
  unfold faOf PX.part
  rw [hf, hl]
  rfl
theorem fn_special (T : TabIn wi s.heap) {f : Addr} {fd : FuncData} (e : s.heap.get? f = some { cls := .type "function", data := .func fd }) : typeIn (hidF wi s.heap) (.ref f) = some (.type "function") /\
  specialIn (hidF wi s.heap) (.ref f) "__get__" = some (some (.builtin "function.__get__")) /\ takesIn (hidF wi s.heap) (.ref f) = some false := by
 have ht : typeIn (hidF wi s.heap) (.ref f) = some (.type "function") := by
  unfold typeIn
  dsimp only
  rw [lookF T e rfl]; rfl
 refine ⟨ht, ?_, ?_⟩
 ·unfold specialIn
  rw [ht]
  show fastLookup "function" "__get__" = _
  kernel_rfl
 ·have h1 : specialIn (hidF wi s.heap) (.ref f) "__set__" = some none := by
   unfold specialIn
   rw [ht]
   show fastLookup "function" "__set__" = _
   kernel_rfl
  have h2 : specialIn (hidF wi s.heap) (.ref f) "__delete__" = some none := by
   unfold specialIn
   rw [ht]
   show fastLookup "function" "__delete__" = _
   kernel_rfl
  unfold takesIn
  rw [h1]
  dsimp only
  rw [h2]
  rfl
theorem val_special {T : String} {v : Value} (h : typeIn (hidF wi s.heap) v = some (.type T)) (h' : fastLookup T "__get__" = some none) : specialIn (hidF wi s.heap) v "__get__" = some none := by
 unfold specialIn
 rw [h]
 exact h'
end
section
variable {wi : Option WrapI} {p : Program} {w : World} {X : PX} {N : Addr} {s : Shared} {l m : List (Str × Value)} {names : List Str} {pm : Value}
theorem object_names : (fldNames.all fun x => (fastBuiltinOwn "object" x).isNone) = true := by kernel_rfl
theorem const_rep {Z : Stat} {c : Cn} {k : Const} {d : D} {v : Value} (h : constD k = some d) (hv : k.Val v) : RepD Z c d v := by
 cases k <;> first | exact none_some h | (cases some_eq h; exact hv)
theorem constD_notfn {k : Const} {d : D} (h : constD k = some d) : ∀ m y, d ≠ .fn m y := by
 cases k <;> first | exact none_some h | (cases some_eq h; exact fun _ _ => nofun)
theorem mkList_notfn (ds : List D) (m : Bool) (y : Str) : mkList ds ≠ .fn m y := by
 unfold mkList
 cases toInts ds <;> exact nofun
theorem intD_rep {Z : Stat} {c : Cn} {k : Const} {d : D} {v : Value} (h : intD k = some d) (hv : k.Val v) : RepD Z c d v := by
 cases k with
 | int i => exact some_eq h ▸ hv
 | _ => exact none_some h
theorem elt_rep {Z : Stat} {c : Cn} (hfa : ∀ x v, isFnSt (findSt x X.cbody) = true -> l.lookup x = some v -> ∃ a, v = .ref a /\ Z.fa true x = some a) {e : Expr} {v : Value} {d : D} (ok : okEltL X.cbody e = true) (h1 : EltIs l e v) (h : eltD e = some d) : RepD Z c d v := by
 cases e with
 | Constant k a b => exact intD_rep h h1
 | Name x p => exact some_eq h ▸ hfa x v ok h1
 | _ => exact none_some h
theorem elts_rep {Z : Stat} {c : Cn} (hfa : ∀ x v, isFnSt (findSt x X.cbody) = true -> l.lookup x = some v -> ∃ a, v = .ref a /\ Z.fa true x = some a) : ∀ {es : List Expr} {vs : List Value} {ds : List D}, es.all (okEltL X.cbody) = true -> EltsAre l es vs -> allSome (es.map eltD) = some ds -> RepDs Z c ds vs := by
 intro L₀
 induction L₀ with
 | nil =>
  intro M₀
  cases M₀ with
  | nil =>
   intro ds _ _ h
   exact some_eq h ▸ rfl
  | cons _ _ =>
   intro _ _ h _
   exact h.elim
 | cons e es ih =>
  intro M₀
  cases M₀ with
  | cons v vs =>
   intro ds ok q2 h
   obtain ⟨h1, h2⟩ := q2
   obtain ⟨o1, o2⟩ := and_t (show (okEltL X.cbody e && es.all (okEltL X.cbody)) = true from ok)
   obtain ⟨d, e1, h⟩ := optB_iff (show (optB (eltD e) fun d => optB (allSome (es.map eltD)) fun l => some (d :: l)) = some ds from h)
   obtain ⟨l', e2, h⟩ := optB_iff h
   exact some_eq h ▸ ⟨v, vs, rfl, elt_rep hfa o1 h1 e1, ih o2 h2 e2⟩
  | nil =>
   intro _ _ h _
   exact h.elim
theorem Ground.faM (G : Ground wi p w.params X N s.heap l m names pm) {x : Str} {v : Value} (h : isFnSt (findSt x X.cbody) = true) (hl : l.lookup x = some v) : ∃ a, v = .ref a /\ faOf X l m true x = some a := by
 obtain ⟨st, q, args, body, deco, ret, tp, scope, ts, bind, pos, rfl⟩ := isFnSt_iff h
 obtain ⟨a, dv, dV, c', e1, e2, _⟩ := G.fn q
 exact ⟨a, some_eq (hl.symm.trans e1), e2⟩
inductive ClsV (X : PX) (x : Str) : D -> Prop
 | fn {args : Arguments} {body : List Stmt} {deco : List Expr} {ret : Option Expr} {tp : List TypeParam} {scope : Scope} {ts : Option Scope} {bind : Str} {pos : Pos} (q : findSt x X.cbody = some (.FunctionDef x args body deco ret tp scope ts bind pos)) : ClsV X x (.fn true x)
 | const {p p₃ p₂ : Pos} {k : Const} {kk : Nat} {d : D} (q : findSt x X.cbody = some (.Assign [.Name x p] (.Constant k kk p₃) p₂)) (h : constD k = some d) : ClsV X x d
 | list {p p₃ p₂ : Pos} {es : List Expr} {ds : List D} (q : findSt x X.cbody = some (.Assign [.Name x p] (.List es p₃) p₂)) (h : allSome (es.map eltD) = some ds) : ClsV X x (mkList ds)
theorem valD_view {x : Str} {p q : Pos} {e : Expr} {d : D} (f : findSt x X.cbody = some (.Assign [.Name x p] e q)) (h : valD e = some d) : ClsV X x d := by
 cases e with
 | Constant c kk p₃ => exact .const f h
 | List es p₃ =>
  obtain ⟨l, h1, h2⟩ := optB_iff h
  exact some_eq h2 ▸ .list f h1
 | _ => exact none_some h
theorem clsD_view {x : Str} {d : D} (h : clsD X x = some d) : ClsV X x d := by
 obtain ⟨st, qq, h⟩ := optB_iff h
 rcases (findSt_spec qq).2 with ⟨args, body, deco, ret, tp, scope, ts, bind, pos, e⟩ | ⟨p1, e, p2, q⟩
 ·rw [e] at qq h
  exact some_eq h ▸ .fn qq
 ·rw [q] at qq h
  exact valD_view qq h
theorem const_con {k : Const} {d : D} {v : Value} (h : constD k = some d) (hv : k.Val v) : specialIn (hidF wi s.heap) v "__get__" = some none /\ handedIn v = true := by
 cases k with
 | none =>
  have hv : v = .none := hv
  subst hv
  exact ⟨val_special (s := s) (T := "NoneType") (by rfl) (by kernel_rfl), rfl⟩
 | bool b =>
  have hv : v = .bool b := hv
  subst hv
  exact ⟨val_special (s := s) (T := "bool") (by rfl) (by kernel_rfl), rfl⟩
 | int i =>
  obtain ⟨t, rfl⟩ : ∃ t, v = .int i t := hv
  exact ⟨val_special (s := s) (T := "int") (by rfl) (by kernel_rfl), rfl⟩
 | str x =>
  obtain ⟨t, rfl⟩ : ∃ t, v = .str x t := hv
  exact ⟨val_special (s := s) (T := "str") (by rfl) (by kernel_rfl), rfl⟩
 | _ => exact none_some h
theorem assign_inj {x y : Str} {p q : Pos} {e e' : Expr} {r r' : Pos} (h : Stmt.Assign [.Name x p] e r = .Assign [.Name y q] e' r') : x = y /\ e = e' := by cases h; exact ⟨rfl, rfl⟩
theorem ground_cls (G : Ground wi p w.params X N s.heap l m names pm) (ok : okX p X names = true) : ClsOK (statOf wi p w X N s l m) (hidF wi s.heap) := by
 obtain ⟨o1, o2, o3, o4, o5⟩ := okX_split ok
 obtain ⟨t, q, ec⟩ := G.cls
 have hcl := lookF G.tab ec rfl
 have hn : ∀ x ∈ metaNames, findIn (hidF wi s.heap) (.ref (N + 1)) x = alongIn (hidF wi s.heap) x [.type "object"] := fun x hx => G.hasnt (o1 x (List.mem_append_right _ hx))
 have ht : typeIn (hidF wi s.heap) (.ref (N + 1)) = some (.type "type") := by
  unfold typeIn
  dsimp only
  rw [hcl]; rfl
 have hne : ∀ {x : Str} {st : Stmt}, findSt x X.cbody = some st -> x ≠ ("__qualname__" : Str) /\ copiedNames.contains x = false := fun {x st} h => by
  have hx : x ∉ nmNames := fun hm => by rw [o2 x hm] at h; cases h
  refine ⟨fun e => hx (by rw [e]; exact List.mem_cons_self ..), ?_⟩
  cases qq : copiedNames.contains x with
  | false => rfl
  | true => exact absurd (show x ∈ nmNames from List.mem_cons_of_mem _ (List.contains_iff_mem.mp qq)) hx
 refine ⟨fun a o e => ?_, ?_, ?_, ?_, ?_, ?_, ?_, ?_, fun x hx => ?_, fun x mm y h => ?_, fun x d h hd => ?_⟩
 ·rw [hidF_look] at e; exact e
 ·exact (hn _ (by decide)).trans (by kernel_rfl)
 ·exact (hn _ (by decide)).trans (by kernel_rfl)
 ·exact (hn _ (by decide)).trans (by kernel_rfl)
 ·unfold plainOver clsIn
  show Option.any _ _ = true
  rw [show (statOf wi p w X N s l m).ca = N + 1 from rfl, hcl]
  rfl
 ·unfold hasDictIn clsIn
  rw [show (statOf wi p w X N s l m).ca = N + 1 from rfl, hcl]
  rfl
 ·unfold makesIn instIn specialIn
  rw [show (statOf wi p w X N s l m).ca = N + 1 from rfl, hcl, ht]
  show (_ && _) = true
  have h1 : (findIn (hidF wi s.heap) (.type "type") "__call__" == some (some (.builtin "type.__call__"))) = true := by kernel_rfl
  have h2 : (subIn (hidF wi s.heap) (.type "type") (.type "type") == some true) = true := by kernel_rfl
  simp only [Option.bind_some, h1, h2, Bool.and_true]
  simp [clsObj]
 ·unfold keepIn specialIn
  dsimp only
  rw [show (statOf wi p w X N s l m).ca = N + 1 from rfl, hcl, ht]
  show ((some (Value.type "type")).bind _ == _) = true
  kernel_rfl
 ·refine (G.hasnt (o1 x (List.mem_append_left _ (sMem_iff.mp hx)))).trans ?_
  have := List.all_eq_true.mp object_names x (sMem_iff.mp hx)
  unfold alongIn ownIn
  dsimp only
  rw [Option.isNone_iff_eq_none.mp this]
  rfl
 ·generalize hd0 : D.fn mm y = d0 at h
  cases clsD_view h with
  | fn qq =>
   cases hd0
   obtain ⟨a, dv, dV, c', e1, e2, F⟩ := G.fn qq
   obtain ⟨fd, hfd⟩ := F.obj
   obtain ⟨s1, s2, s3⟩ := fn_special G.tab hfd
   exact ⟨a, e2, G.has (hne qq).1 e1, s1, s2, s3, (hne qq).2⟩
  | const qq hk => exact absurd hd0.symm (constD_notfn hk mm y)
  | list qq hds => exact absurd hd0.symm (mkList_notfn _ mm y)
 ·cases clsD_view h with
  | fn qq => exact absurd rfl (hd true x)
  | const qq hk =>
   cases G.st _ (findSt_spec qq).1 with
   | const hl hv =>
    obtain ⟨c1, c2⟩ := const_con (s := s) hk hv
    exact ⟨_, G.has (hne qq).1 hl, const_rep (Z := statOf wi p w X N s l m) (c := ⟨(statOf wi p w X N s l m).G₀, [], none⟩) hk hv, c1, c2, (hne qq).2⟩
  | list qq hds =>
   cases G.st _ (findSt_spec qq).1 with
   | list hl ha hg hE =>
    have RR : RepDs (statOf wi p w X N s l m) ⟨(statOf wi p w X N s l m).G₀, [], none⟩ _ _ := elts_rep (X := X) (l := l) (fun x v h1 h2 => G.faM h1 h2) (o3 _ (findSt_spec qq).1) hE hds
    refine ⟨_, G.has (hne qq).1 hl, (mkList_as RR).rep (n := 0) (hid_of G.tab hg rfl), val_special (T := "list") ?_ (by kernel_rfl), rfl, (hne qq).2⟩
    unfold typeIn
    dsimp only
    rw [lookF G.tab hg rfl]; rfl
end
theorem look_app {α : Type} {n : Str} {w : α} {pre r : List (Str × α)} (h : pre.lookup n = none) : (pre ++ (n, w) :: r).lookup n = some w := by
 rw [List.lookup_append, h, lookS_cons, if_pos rfl]; rfl
theorem look_snoc {α : Type} {x n : Str} {w : α} {pre : List (Str × α)} (h : pre.lookup x = none) (q : x ≠ n) : (pre ++ [(n, w)]).lookup x = none := by
 rw [List.lookup_append, h, lookS_cons, if_neg q]; rfl
theorem filterMap_zip {α : Type} : ∀ {ns : List Str} {ws : List α} (pre : List (Str × α)), nodupS ns = true -> ns.length = ws.length -> (∀ x ∈ ns, pre.lookup x = none) -> ns.filterMap (fun n => ((pre ++ ns.zip ws).lookup n).map (n, ·)) = ns.zip ws := by
 intro L₀
 induction L₀ with
 | nil =>
  intro M₀
  cases M₀ with
  | nil =>
   intro _ _ _ _
   exact rfl
  | cons _ _ =>
   intro _ _ hl _
   cases hl
 | cons n ns ih =>
  intro M₀
  cases M₀ with
  | cons w ws =>
   intro pre hn hl hp
   have ih := ih (ws := ws) (pre ++ [(n, w)]) (and_t hn).2 (Nat.succ.inj hl) fun x hx => look_snoc (hp x (.tail _ hx)) fun q => nodupS_not hn (q ▸ hx)
   rw [List.append_assoc] at ih
   show (n :: ns).filterMap (fun k => ((pre ++ (n, w) :: ns.zip ws).lookup k).map (k, ·)) = (n, w) :: ns.zip ws
   rw [List.filterMap_cons, look_app (hp n (.head _))]
   exact congrArg ((n, w) :: ·) ih
  | nil =>
   intro _ _ hl _
   cases hl
theorem forIn_stay {α β : Type} {l : List α} {f : α -> β -> Sem (ForInStep β)} {c : β} (h : ∀ x ∈ l, f x c = pure (.yield c)) : forIn l c f = pure c := by
 induction l with
 | nil => rfl
 | cons x r ih =>
  rw [List.forIn_cons, h x (List.mem_cons_self ..)]
  exact ih fun y hy => h y (List.mem_cons_of_mem _ hy)
theorem zip_has {α : Type} {x : Str} : ∀ {ns : List Str} {ws : List α}, ns.length = ws.length -> x ∈ ns -> ((ns.zip ws).lookup x).isSome = true
 | n :: ns, w :: ws, hl, h => lookS_push ((Classical.em (x = n)).symm.imp_left fun e => zip_has (Nat.succ.inj hl) ((List.mem_cons.mp h).resolve_left e))
 | n :: ns, [], hl, h => nomatch hl
theorem has_not {ns : List Str} {ws : List Value} (hl : ns.length = ws.length) {x : Str} (hx : x ∈ ns) : ¬ ((ns.zip ws).lookup x).isNone = true := fun hn => no_some (Option.isNone_iff_eq_none.mp hn) (zip_has hl hx)
theorem missing_no {ns : List Str} {ws : List Value} (hl : ns.length = ws.length) (k : Nat) : (!(List.filter (fun n => ((ns.zip ws).lookup n).isNone) (List.take k ns)).isEmpty) = false := by
 rw [List.filter_eq_nil_iff.mpr fun x hx => has_not hl (List.mem_of_mem_take hx)]; rfl
theorem seqs_of {s : Shared} {M : Model} {A : Around} {E : Value -> Shared -> Prop} {df : Value} (hd : df = .none \/ ∃ T o items n, df = .ref T /\ s.heap.get? T = some o /\ o.data = .seq items n) {Q' : Option (Array Value) -> Shared -> Prop} (h : ∀ dv, Q' dv s) : wpAny M A (seqItems? df) Q' E s := by
 rcases hd with rfl | ⟨T, o, items, n, rfl, h1, h2⟩
 ·exact wpAny_pure (h none)
 ·exact wpAny_seqItems h1 h2 (h _)
theorem binds_of {s : Shared} {fd : FuncData} {as : List Arg} {ds : List Expr} {args : Args} {ws : List Value} (hp : fd.params = ⟨[], as, none, [], [], none, ds⟩) (hd : fd.defaults = .none \/ ∃ T o items n, fd.defaults = .ref T /\ s.heap.get? T = some o /\ o.data = .seq items n)
  (hn : nodupS (as.map (·.arg)) = true) (hl : ws.length = (as.map (·.arg)).length) (hpos : args.pos.length <= (as.map (·.arg)).length)
  (hkw : ∀ f : (Str × Value) -> (List (Str × Value) × List (Str × Value)) -> Sem (ForInStep (List (Str × Value) × List (Str × Value))), (∀ y sl, y.1 ∈ as.map (·.arg) -> sl.lookup y.1 = none -> f y (sl, []) = pure (.yield (sl ++ [y], []))) ->
   forIn args.kw ((as.map (·.arg)).zip args.pos, []) f = pure ((as.map (·.arg)).zip ws, [])) : BindsTo s fd args ((as.map (·.arg)).zip ws) := by
 intro M A E Q q
 obtain ⟨nm, qn, pr, bd, sc, gl, cl, df, kd, dc, pm, an⟩ := fd
 obtain rfl : pr = ⟨[], as, none, [], [], none, ds⟩ := hp
 have fz := filterMap_zip (ns := as.map (·.arg)) (ws := ws) [] hn hl.symm (fun _ _ => rfl)
 unfold bindArgs
 refine wpAny_bind (wpEq (hkw _ fun y sl hy hs => ?_) (wpAny_pure ?_))
 ·refine (if_pos ?_).trans (if_neg ?_)
  ·rw [List.contains_iff_mem.mpr hy]; rfl
  ·rw [hs]; exact Bool.false_ne_true
 refine wpAny_bind (seqs_of hd fun dv => ?_)
 refine wpF ?_ ?_
 ·exact (congrArg (· && true) (decide_eq_false (Nat.not_lt.mpr hpos))).trans rfl
 refine wpF (missing_no hl.symm _) ?_
 refine wpAny_bind (wpEq (forIn_stay fun x hx => if_neg (has_not hl.symm (List.mem_of_mem_drop (List.of_mem_zip hx).1))) (wpAny_pure ?_))
 refine wpAny_bind (wpAny_pure ?_)
 refine wpF rfl ?_
 refine wpAny_pure ?_
 have e := (congrArg (List.filterMap fun n => ((([] : List (Str × Value)) ++ (as.map (·.arg)).zip ws).lookup n).map (n, ·)) (List.append_nil (as.map (·.arg)))).trans fz
 exact (congrArg (fun l => Q l s) e).mpr q
theorem binds_pos {s : Shared} {fd : FuncData} {as : List Arg} {ds : List Expr} {ws : List Value} (hp : fd.params = ⟨[], as, none, [], [], none, ds⟩) (hd : fd.defaults = .none \/ ∃ T o items n, fd.defaults = .ref T /\ s.heap.get? T = some o /\ o.data = .seq items n)
  (hn : nodupS (as.map (·.arg)) = true) (hl : ws.length = (as.map (·.arg)).length) : BindsTo s fd ⟨ws, []⟩ ((as.map (·.arg)).zip ws) :=
 binds_of hp hd hn hl (Nat.le_of_eq hl) fun f _ => rfl
theorem forIn_grow {ns : List Str} {f : (Str × Value) -> (List (Str × Value) × List (Str × Value)) -> Sem (ForInStep (List (Str × Value) × List (Str × Value)))} (hf : ∀ y sl, y.1 ∈ ns -> sl.lookup y.1 = none -> f y (sl, []) = pure (.yield (sl ++ [y], []))) :
  ∀ (ns₂ : List Str) (ws₂ : List Value) (sl : List (Str × Value)), (∀ z ∈ ns₂, z ∈ ns) -> nodupS ns₂ = true -> (∀ z ∈ ns₂, sl.lookup z = none) -> forIn (ns₂.zip ws₂) (sl, []) f = pure (sl ++ ns₂.zip ws₂, [])
 | [], _, sl, _, _, _ => by
  rw [List.zip_nil_left, List.append_nil]
  rfl
 | n :: ns₂, [], sl, _, _, _ => by
  rw [List.zip_nil_right, List.append_nil]
  rfl
 | n :: ns₂, w :: ws₂, sl, hi, hn, hl => by
  have ih := forIn_grow hf ns₂ ws₂ (sl ++ [(n, w)]) (fun z hz => hi z (.tail _ hz)) (and_t hn).2 fun z hz => look_snoc (hl z (.tail _ hz)) fun q => nodupS_not hn (q ▸ hz)
  rw [List.append_assoc] at ih
  rw [List.zip_cons_cons, List.forIn_cons, hf (n, w) sl (hi n (.head _)) (hl n (.head _))]
  exact ih
theorem binds_init {s : Shared} {fd : FuncData} {as : List Arg} {ds : List Expr} {self : Str} {ns : List Str} {x : Value} {ws : List Value} (hp : fd.params = ⟨[], as, none, [], [], none, ds⟩) (has : as.map (·.arg) = self :: ns) (hd : fd.defaults = .none \/ ∃ T o items n, fd.defaults = .ref T /\ s.heap.get? T = some o /\ o.data = .seq items n)
  (hn : nodupS (self :: ns) = true) (hl : ws.length = ns.length) : BindsTo s fd ⟨[x], ns.zip ws⟩ ((self :: ns).zip (x :: ws)) := by
 have := binds_of (s := s) (fd := fd) (as := as) (args := ⟨[x], ns.zip ws⟩) (ws := x :: ws) hp hd (has ▸ hn) (by rw [has, List.length_cons, List.length_cons, hl]) (by rw [has]; exact Nat.succ_le_succ (Nat.zero_le _)) (by
  rw [has]
  intro f hf
  show forIn (ns.zip ws) ((self, x) :: ns.zip [], []) f = _
  rw [List.zip_nil_right]
  refine (forIn_grow (ns := self :: ns) hf ns ws [(self, x)] (fun _ h => List.mem_cons_of_mem _ h) (and_t hn).2 fun z hz => lookS_cons.trans (if_neg fun (e : z = self) => nodupS_not hn (e ▸ hz))).trans rfl)
 rw [has] at this
 exact this
section
variable {wi : Option WrapI} {p : Program} {w : World} {X : PX} {N : Addr} {s : Shared} {l m : List (Str × Value)} {names : List Str} {pm : Value}
theorem reps_of {Z : Stat} {c : Cn} {f : Expr -> Option D} : ∀ {es : List Expr} {vs : List Value} {ds : List D}, es.length = vs.length -> (∀ (i : Nat) (e : Expr) (v : Value), es[i]? = some e -> vs[i]? = some v -> ∀ d, f e = some d -> RepD Z c d v) -> allSome (es.map f) = some ds -> RepDs Z c ds vs := by
 intro L₀
 induction L₀ with
 | nil =>
  intro M₀
  cases M₀ with
  | nil =>
   intro ds _ _ h
   exact some_eq h ▸ rfl
  | cons _ _ =>
   intro _ hl _ _
   cases hl
 | cons e es ih =>
  intro M₀
  cases M₀ with
  | cons v vs =>
   intro ds hl hh h
   obtain ⟨d, e1, h⟩ := optB_iff (show (optB (f e) fun d => optB (allSome (es.map f)) fun l => some (d :: l)) = some ds from h)
   obtain ⟨l', e2, h⟩ := optB_iff h
   cases some_eq h
   exact ⟨v, vs, rfl, hh 0 e v rfl rfl d e1, ih (Nat.succ.inj hl) (fun i e' v' h1 h2 => hh (i + 1) e' v' h1 h2) e2⟩
  | nil =>
   intro _ hl _ _
   cases hl
theorem data_rep {Z : Stat} {c : Cn} {h : Heap} (hG : ∀ a o, h.get? a = some o -> notTab o = true -> c.G a = some o) {n₀ : Nat} {e : Expr} {v : Value} (Dt : DataIs n₀ h e v) : ∀ n d, dataD n e = some d -> RepD Z c d v := by
 induction Dt with
 | const hv => exact fun n d hd => by cases n <;> exact const_rep hd hv
 | list ha hg hl _ ih =>
  intro n d hd
  cases n with
  | zero => exact none_some hd
  | succ n =>
   obtain ⟨ds, hds, e⟩ := optB_iff hd
   exact some_eq e ▸ (mkList_as (reps_of (Z := Z) (c := c) hl (fun i e v h1 h2 d hd => ih i e v h1 h2 n d hd) hds)).rep (n := 0) (hG _ _ hg rfl)
theorem boot_bi (P : Params) (b : Bi) : (boot_heap P).nsMap builtinsNs (Str.ofString b.id) = some (biV b) := by cases b <;> kernel_rfl
theorem boot_m0 (P : Params) (b : Bi) : m0 P (Str.ofString b.id) = none := by cases b <;> kernel_rfl
theorem biD_spec {x : Str} {d : D} : ∀ {l : List Bi}, biD x l = some d -> ∃ b ∈ l, x = Str.ofString b.id /\ d = .bi b
 | [], h => none_some h
 | b :: r, h => by
  have e : biD x (b :: r) = if sEq x (Str.ofString b.id) = true then some (.bi b) else biD x r := rfl
  rw [e] at h
  by_cases q : sEq x (Str.ofString b.id) = true
  ·rw [if_pos q] at h; exact ⟨b, .head _, sEq_iff.mp q, (some_eq h).symm⟩
  ·rw [if_neg q] at h
   obtain ⟨b', h1, h2⟩ := biD_spec h
   exact ⟨b', .tail _ h1, h2⟩
inductive FaIs (b : List Stmt) (x : Str) : Prop
 | mk (args : Arguments) (body : List Stmt) (deco : List Expr) (ret : Option Expr) (tp : List TypeParam) (scope : Scope) (ts : Option Scope) (bind : Str) (pos : Pos) (e : findSt x b = some (.FunctionDef x args body deco ret tp scope ts bind pos)) : FaIs b x
theorem fa_iff {x : Str} {b : List Stmt} (h : isFnSt (findSt x b) = true) : FaIs b x :=
 let ⟨_, q, args, body, deco, ret, tp, scope, ts, bind, pos, e⟩ := isFnSt_iff h
 ⟨args, body, deco, ret, tp, scope, ts, bind, pos, e ▸ q⟩
theorem faOf_spec {isM : Bool} {x : Str} {a : Addr} (h : faOf X l m isM x = some a) : FaIs (X.part isM) x := fa_iff (if_some rfl h).1
theorem ns_hid (T : TabIn wi s.heap) {a : Addr} {f : Str -> Option Value} (n : s.heap.Ns a f) {h' : Heap} (hs : ∀ b o, hid wi s.heap b = some o -> h'.get? b = some o) : h'.Ns a f := by
 obtain ⟨o, es, ep, e, hd, r⟩ := n
 exact ⟨o, es, ep, hs _ _ (hid_of T e (by unfold notTab; rw [hd])), hd, r⟩
theorem Ground.ns_of (G : Ground wi p w.params X N s.heap l m names pm) {x : Str} {v : Value} (h : m.lookup x = some v) {h' : Heap} (hs : ∀ b o, hid wi s.heap b = some o -> h'.get? b = some o) : GlobIs h' x v := by
 refine .inl ⟨_, ns_hid G.tab G.g hs, ?_⟩
 rw [h]
noncomputable def GlobOK (wi : Option WrapI) (p : Program) (w : World) (X : PX) (N : Addr) (s : Shared) (l m : List (Str × Value)) (x : Str) (d : D) : Prop :=
 ∃ v, RepD (statOf wi p w X N s l m) ⟨(statOf wi p w X N s l m).G₀, [], none⟩ d v /\ ∀ h, Sub (statOf wi p w X N s l m).G₀ h -> GlobIs h x v
theorem data_glob (G : Ground wi p w.params X N s.heap l m names pm) {x : Str} {q r : Pos} {e : Expr} {d : D} (hst : MOK s.heap m (.Assign [.Name x q] e r)) (hx : sEq x "__name__" = false) (hd : dataD 6 e = some d) : GlobOK wi p w X N s l m x d := by
 cases hst with
 | data hn hl D => exact ⟨_, data_rep (fun a o e n => hid_of G.tab e n) D 6 _ hd, fun h hs => G.ns_of hl hs⟩
 | name => exact ff (hx.symm.trans (by rfl))
theorem top_glob (G : Ground wi p w.params X N s.heap l m names pm) {x : Str} {d : D} (h : topD X x = some d) : GlobOK wi p w X N s l m x d := by
 obtain ⟨st, q, h⟩ := optB_iff h
 have hst := G.md _ (findSt_spec q).1
 rcases (findSt_spec q).2 with ⟨args, body, deco, ret, tp, scope, ts, bind, pos, e⟩ | ⟨p1, e, p2, e'⟩
 ·rw [e] at q h
  obtain ⟨a, dv, dV, c', pm', e1, e2, F⟩ := G.fnM q
  exact some_eq h ▸ ⟨.ref a, ⟨a, rfl, e2⟩, fun h hs => G.ns_of e1 hs⟩
 ·rw [e'] at h hst
  obtain ⟨h1, h2⟩ := noB_iff h
  exact data_glob G hst h1 h2
theorem bi_glob (G : Ground wi p w.params X N s.heap l m names pm) {b : Bi} (hb : p.boundNames.contains (Str.ofString b.id) = false) : GlobOK wi p w X N s l m (Str.ofString b.id) (.bi b) := by
 refine ⟨biV b, rfl, fun h hs => .inr ⟨_, _, ns_hid G.tab G.g hs, ?_, ns_hid G.tab G.b hs, boot_bi _ _⟩⟩
 rw [lookup_none_of fun hm => ff (hb.symm.trans (G.bound _ hm))]
 exact boot_m0 _ b
theorem glob_glob (G : Ground wi p w.params X N s.heap l m names pm) (o5 : ∀ b ∈ biNames, p.boundNames.contains (Str.ofString b.id) = false) {x : Str} {d : D} (h : glob X x = some d) : GlobOK wi p w X N s l m x d := by
 unfold glob at h
 by_cases q : sEq x X.cname = true
 ·rw [if_pos q] at h
  exact some_eq h ▸ sEq_iff.mp q ▸ ⟨.ref (N + 1), rfl, fun h hs => G.ns_of G.look hs⟩
 ·rw [if_neg q] at h
  rcases orB_iff h with ⟨d', hd, e⟩ | h
  ·exact some_eq e ▸ top_glob G hd
  ·obtain ⟨b, hb, rfl, rfl⟩ := biD_spec h
   exact bi_glob G (o5 b hb)
theorem ground_base (G : Ground wi p w.params X N s.heap l m names pm) (ok : okX p X names = true) : BaseOK (statOf wi p w X N s l m) (hidF wi s.heap) := by
 refine ⟨ground_cls G ok, fun x d h => glob_glob G (okX_split ok).2.2.2.2 h, fun h hs => ?_, fun mm x a h => ?_⟩
 ·have e := hs _ _ (show (statOf wi p w X N s l m).G₀ cStatics = _ from hid_of G.tab G.cst rfl)
  refine ⟨_, .of_isNs ?_, ?_⟩
  ·show (h.isNs cStatics) = true
   unfold Heap.isNs; rw [e]; simp
  ·show (h.nsMap cStatics) "sys.recursionlimit" = none
   unfold Heap.nsMap; rw [e]; simp [nsFind, findBy]
 ·have h : faOf X l m mm x = some a := h
  obtain ⟨args, body, deco, ret, tp, scope, ts, bind, pos, hf⟩ := faOf_spec h
  cases mm with
  | true =>
   obtain ⟨a', dv, dV, c', e1, e2, F⟩ := G.fn hf
   cases some_eq (h.symm.trans e2)
   exact ⟨_, _, hid_of G.tab F.fn rfl, rfl⟩
  | false =>
   obtain ⟨a', dv, dV, c', pm', e1, e2, F⟩ := G.fnM hf
   cases some_eq (h.symm.trans e2)
   exact ⟨_, _, hid_of G.tab F.fn rfl, rfl⟩
theorem argNs_spec {args : Arguments} {ns : List Str} (h : argNs args = some ns) : ∃ as ds, args = ⟨[], as, none, [], [], none, ds⟩ /\ ns = as.map (·.arg) := by
 obtain ⟨h1, h2⟩ := if_some rfl h
 exact ⟨_, _, plainArgs_spec h1, (some_eq h2).symm⟩
theorem fn_obj {Z : Stat} {n₀ : Nat} {a name qual params body scope pm dv dV c'} (hG : ∀ b o, s.heap.get? b = some o -> notTab o = true -> Z.G₀ b = some o) (F : FnAt n₀ s.heap a name qual params body scope pm dv dV c') :
  FnObj Z ⟨params, body, scope⟩ (defFd name qual params body scope mainGlobals dV .none none pm (.ref c') .none) a /\
  (∀ s' : Shared, Sub Z.G₀ s'.heap -> (dV = .none \/ ∃ T o items n, dV = .ref T /\ s'.heap.get? T = some o /\ o.data = .seq items n)) := by
 refine ⟨⟨⟨_, hG _ _ F.fn rfl, rfl⟩, rfl, rfl, rfl, rfl, rfl, fun h hs => ?_⟩, fun s' hs => ?_⟩
 ·obtain ⟨c, o, vs, t, e, g, hd, hq⟩ := F.cr
  refine ⟨c, o, vs, t, e, hs _ _ (hG _ _ g ?_), hd, hq⟩
  unfold notTab
  rw [hd]
  exact decide_eq_true (Nat.lt_of_le_of_lt (Nat.zero_le _) (Array.getElem?_eq_some_iff.mp hq).1)
 ·rcases F.dfl with ⟨_, e⟩ | ⟨T, _, e, _, g⟩
  ·exact .inl e
  ·exact .inr ⟨T, _, _, _, e, hs _ _ (hG _ _ g rfl), rfl⟩
theorem fn_binds (T : TabIn wi s.heap) {F : Fn} {a : Addr} {args : Arguments} {body : List Stmt} {scope : Scope} {n₀ : Nat} {name qual : Str} {pm : Value} {dv : List Value} {dV : Value} {c' : Addr} (hnd : nodupS (args.args.map (·.arg)) = true) (hF : F = ⟨args, body, scope⟩) (Fa : FnAt n₀ s.heap a name qual args body scope pm dv dV c') :
  ∃ fd, FnObj (statOf wi p w X N s l m) F fd a /\ ∀ ns, argNs F.args = some ns -> ∀ (s' : Shared) (ws : List Value), Sub (statOf wi p w X N s l m).G₀ s'.heap -> ws.length = ns.length -> BindsTo s' fd ⟨ws, []⟩ (ns.zip ws) := by
 subst hF
 obtain ⟨h1, h2⟩ := fn_obj (Z := statOf wi p w X N s l m) (fun b o e n => hid_of T e n) Fa
 refine ⟨_, h1, fun ns hns s' ws hs hl => ?_⟩
 obtain ⟨as, ds, e1, rfl⟩ := argNs_spec hns
 have e1 : args = _ := e1
 rw [e1] at hnd
 exact binds_pos (fd := defFd name qual args body scope mainGlobals dV .none none pm (.ref c') .none) e1 (h2 s' hs) hnd hl
noncomputable def fnSt : Option Stmt -> Option Fn
 | some (.FunctionDef _ args body _ _ _ scope _ _ _) => some ⟨args, body, scope⟩
 | _ => none
theorem fnOf_is {F : Fn} {isM : Bool} {x : Str} {args body deco ret tp scope ts bind pos} (hf : findSt x (X.part isM) = some (.FunctionDef x args body deco ret tp scope ts bind pos)) (hF : fnOf X isM x = some F) : F = ⟨args, body, scope⟩ := by
 have e : fnOf X isM x = fnSt (findSt x (X.part isM)) := by cases isM <;> rfl
 rw [e, hf] at hF
 exact (some_eq hF).symm
theorem ground_fns (G : Ground wi p w.params X N s.heap l m names pm) (ok : okX p X names = true) : FnsOK (statOf wi p w X N s l m) := by
 obtain ⟨o1, o2, o3, o4, o5⟩ := okX_split ok
 refine ⟨fun mm x a F h hF => ?_⟩
 have h : faOf X l m mm x = some a := h
 obtain ⟨args, body, deco, ret, tp, scope, ts, bind, pos, hf⟩ := faOf_spec h
 have hF' := fnOf_is hf hF
 clear hF
 cases mm with
 | true =>
  obtain ⟨a', dv, dV, c', e1, e2, Fa⟩ := G.fn hf
  cases some_eq (h.symm.trans e2)
  exact fn_binds G.tab (o3 _ (findSt_spec hf).1) hF' Fa
 | false =>
  obtain ⟨a', dv, dV, c', pm', e1, e2, Fa⟩ := G.fnM hf
  cases some_eq (h.symm.trans e2)
  exact fn_binds G.tab (o4 _ (findSt_spec hf).1) hF' Fa
theorem ground_init (G : Ground wi p w.params X N s.heap l m names pm) (ok : okX p X names = true) (hi : isFnSt (findSt "__init__" X.cbody) = true) : InitOK (statOf wi p w X N s l m) (hidF wi s.heap) := by
 obtain ⟨o1, o2, o3, o4, o5⟩ := okX_split ok
 obtain ⟨args, body, deco, ret, tp, scope, ts, bind, pos, qq⟩ := fa_iff hi
 obtain ⟨a, dv, dV, c', e1, e2, Fa⟩ := G.fn qq
 obtain ⟨fd, hfd⟩ := Fa.obj
 obtain ⟨h1, h2⟩ := fn_obj (Z := statOf wi p w X N s l m) (fun b o e n => hid_of G.tab e n) Fa
 refine ⟨a, e2, G.has (fun e => ?_) e1, (fn_special G.tab hfd).1, fun F hF => ?_⟩
 ·rw [e] at qq
  exact no2 (o2 _ (.head _)) qq
 ·cases fnOf_is (isM := true) qq hF
  refine ⟨_, h1, fun self as' hns s' x ws hs hl => ?_⟩
  obtain ⟨as, ds, e3, e4⟩ := argNs_spec hns
  have e3 : args = _ := e3
  have hnd : nodupS (args.args.map (·.arg)) = true := o3 _ (findSt_spec qq).1
  rw [e3] at hnd
  exact binds_init e3 e4.symm (h2 s' hs) (e4 ▸ hnd) hl
end
theorem caller_ok (n : Nat) (hn : n <= 30) : AOK (2 * n) callerA := by
 have h1 : callerA.depth <= 400 := by decide +kernel
 have h2 : callerA.units <= 400 := by decide +kernel
 refine ⟨rfl, ?_, ?_⟩
 ·show callerA.depth + 4 * (2 * n) + 4 < 1000
  lia
 ·show callerA.units + 40 * (2 * n) + 40 < 9900
  lia
structure WrapT (X : PX) (W : WrapP) : Prop where
 init : sEq "__init__" W.fn = false
 def_ : isFnSt (findSt W.fn X.cbody) = true
 body_ : (fnOf X true W.fn).map (·.body) = some W.stmts
 as : ∃ as, W.as = ⟨[], as, none, [], [], none, []⟩ /\ as.map (·.arg) = [W.xn]
theorem WrapT.body {X : PX} {W : WrapP} (T : WrapT X W) : ∃ args deco ret tp scope ts bind pos, findSt W.fn X.cbody = some (.FunctionDef W.fn args W.stmts deco ret tp scope ts bind pos) := by
 obtain ⟨args, body, deco, ret, tp, scope, ts, bind, pos, q⟩ := fa_iff T.def_
 obtain ⟨F, hF, e⟩ := Option.map_eq_some_iff.mp T.body_
 rw [fnOf_is (isM := true) q hF] at e
 have e : body = W.stmts := e
 exact ⟨args, deco, ret, tp, scope, ts, bind, pos, e ▸ q⟩
noncomputable def WrapS (X : PX) : Prop := ∀ W, X.wrap = some W -> WrapT X W
section
variable {wi : Option WrapI} {p : Program} {w : World} {X : PX} {N : Addr} {s : Shared} {l m : List (Str × Value)} {names : List Str} {pm : Value}
theorem fields_pos {vs : Array Value} {i : Nat} {v : Value} {o : Obj} (hd : o.data = .fields vs) (e : vs[i]? = some v) : notTab o = true := by
 unfold notTab
 rw [hd]
 exact decide_eq_true (Nat.lt_of_le_of_lt (Nat.zero_le _) (Array.getElem?_eq_some_iff.mp e).1)
structure WrapAtI (X : PX) (s : Shared) (l m : List (Str × Value)) (pm : Value) (W : WrapP) (wi : WrapI) : Prop where
 pos : wi.pos = W.lp
 qual : wi.qual = X.cname ++ "." ++ W.fn ++ ".<locals>." ++ "<lambda>"
 code : s.heap.IsCode wi.cc wi.tb #[]
 tab : s.heap.TableAt wi.cc wi.tb #[]
 fn : ∃ a args scope dv dV, faOf X l m true W.fn = some a /\ FnAt 29 s.heap a W.fn (X.cname ++ "." ++ W.fn) args W.stmts scope pm dv dV wi.cc
theorem Ground.wrapI (G : Ground none p w.params X N s.heap l m names pm) {W : WrapP} (T : WrapT X W) : ∃ wi, WrapAtI X s l m pm W wi := by
 obtain ⟨args, deco, ret, tp, scope, ts, bind, pos, q⟩ := T.body
 obtain ⟨a, dv, dV, c', e1, e2, F⟩ := G.fn q
 obtain ⟨P', _, i, t⟩ := F.tab
 exact ⟨⟨c', P', W.lp, _⟩, rfl, rfl, i, t, a, args, scope, dv, dV, e2, F⟩
theorem old_of (hT : ∀ i, wi = some i -> s.heap.TableAt i.cc i.tb #[]) {Kp : Addr -> Option Obj} {c : Cn} {hs : Hs} {s' : Shared} (C : Core (statOf wi p w X N s l m) Kp c hs s') : OldK s.heap s'.heap := by
 cases wi with
 | none => exact OldK.of_keep fun b o e => C.sub _ _ (C.base _ _ e)
 | some i =>
  have tb := hT i rfl
  obtain ⟨o', e', h⟩ := C.tabAt (w := i) rfl
  refine ⟨fun b o e => ?_, fun b o e => ?_⟩
  ·by_cases q : b = i.tb
   ·rw [q, tb.2] at e
    cases some_eq e
    cases h with
    | nil ho => exact .inl (q ▸ e'.trans (congrArg some ho))
    | one c₁ oc vs t ho => exact .inr (.inl ⟨q ▸ tb.isCodeTable, rfl, #[], #[rawInt i.pos.line, rawInt i.pos.col, .ref c₁], rfl, q ▸ e'.trans (congrArg some ho)⟩)
   ·exact .inl (C.sub _ _ (C.base _ _ ((if_neg q).trans e)))
  ·by_cases q : b = i.tb
   ·exact ⟨o', q ▸ e'⟩
   ·exact ⟨o, C.sub _ _ (C.base _ _ ((if_neg q).trans e))⟩
theorem ground_wrapOK (G : Ground wi p w.params X N s.heap l m names pm) {W : WrapP} (T : WrapT X W) {i : WrapI} (I : WrapAtI X s l m pm W i) : WrapOK (statOf wi p w X N s l m) W i := by
 obtain ⟨as, ea, ex⟩ := T.as
 have tab : s.heap.get? i.tb = some (tabObj #[]) := I.tab.2
 refine ⟨fun h hs => ?_, fun h hs => ⟨_, ns_hid G.tab G.g hs, 4, _, ?_, by decide, by decide, ?_, hs _ _ (hid_of G.tab G.bm rfl), rfl, rfl, rfl⟩, ?_, I.pos.symm, fun s q cl pm cv ct v => ?_, fun env => ?_⟩
 ·obtain ⟨o, vs, file, tf, flags, tg, inF, text, tt, e1, e2, e3, e4, r⟩ := CodeHd.of I.code I.tab
  exact ⟨o, vs, file, tf, flags, tg, inF, text, tt, hs _ _ (hid_of G.tab e1 (fields_pos e3 e4)), e2, e3, e4, r⟩
 ·dsimp only; rw [G.nob]; exact m0_bm _
 ·intro q
  have e := G.bm
  rw [q, tab] at e
  exact nomatch some_eq e
 ·intro q
  obtain ⟨o, es, ep, e, hd, _⟩ := G.g
  rw [q, tab] at e
  rw [<- some_eq e] at hd
  exact nomatch hd
 ·have := binds_pos (s := s) (fd := kla_fn "<lambda>" q W.as W.lb W.lsc cl pm cv ct) (ws := [v]) ea (.inl rfl) (by rw [ex]; rfl) (by rw [ex]; rfl)
  rw [ex] at this
  exact this
 ·rw [ea]; rfl
theorem ground_wraps (G : Ground wi p w.params X N s.heap l m names pm) (hW : WrapS X) (hI : ∀ W, X.wrap = some W -> ∃ i, wi = some i /\ WrapAtI X s l m pm W i) : WrapsOK (statOf wi p w X N s l m) := by
 intro W e
 obtain ⟨i, ei, I⟩ := hI W e
 have T := hW W e
 refine ⟨i, ei, ground_wrapOK G T I, T.init, fun F fd a hF ha O => ?_⟩
 obtain ⟨a', args, scope, dv, dV, e2, Fa⟩ := I.fn
 cases some_eq (e2.symm.trans ha)
 obtain ⟨args', deco, ret, tp, scope', ts, bind, pos, q⟩ := T.body
 obtain ⟨o, e3, e4⟩ := O.at_
 have e5 := (hid_of G.tab Fa.fn rfl).symm.trans e3
 rw [<- some_eq e5] at e4
 cases e4
 refine ⟨by rw [fnOf_is (isM := true) q hF], rfl, I.qual.symm⟩
end
theorem call_of {p : Program} {S : Shape} {nf : Nat} {fin : List (Str × SV)} {X : PX} {nm : Str} {n : Nat} (h1 : X.rest = S.rest) (h2 : X.cbody = S.cbody) (h3 : X.cname = S.cname) (ok : okX p X ((fin ++ statS nf).map (·.1)) = true) (hi : isFnSt (findSt "__init__" X.cbody) = true)
  (hf : isFnSt (findSt nm X.rest) = true) (hn : n <= 30) (hW : WrapS X)
  (hev : ∀ xs : List Int, xs.length <= 63 -> callN X n false false nm [.d (.arg xs)] ⟨[], none⟩ fun v _ => v = .d (.bool true)) :
  CallOK p nm (fun w h m => TopX S nf fin w.params h m /\ ∀ st ∈ S.rest, MOK h m st) := by
 intro w h₁ m s a o items nn xs T hX keep hg ha hc hd hx hlen
 obtain ⟨TX, MO⟩ := hX
 obtain ⟨t, l, CM, SA, ST⟩ := TX.cls
 have G₀ : Ground none p w.params X (nf + 1) s.heap l m ((fin ++ statS nf).map (·.1)) (.str S.xn t) := by
  refine ⟨?_, ?_, SA.names, fun st hst => ?_, fun st hst => ?_, T.g.keeps keep, ?_, keep _ _ (T.keep cStatics _ (by decide) (by decide) (boot_st _)), ?_, fun x hx => (T.bound x hx).1, fun w e => (nomatch e), lookup_none_of fun hm => (T.bound _ hm).2.2 rfl, keep _ _ (T.keep 4 _ (by decide) (by decide) (boot_bm _))⟩
  ·obtain ⟨t', q, e⟩ := CM.cls
   rw [h3]
   exact ⟨t', q, keep _ _ e⟩
  ·exact CM.ns.at fun o e => keep _ _ e
  ·rw [h2] at hst
   rw [h3]
   have := (ST st hst).keep (more := []) (h' := s.heap) (fun b o _ e => keep b o e)
   simpa using this
  ·rw [h1] at hst
   have := (MO st hst).keep (more := []) (h' := s.heap) (fun b o _ e => keep b o e) (fun _ _ _ => rfl)
   simpa using this
  ·obtain ⟨o, es, ep, e, r⟩ := Heap.Ns.of_isNs (boot_b w.params)
   exact ⟨o, es, ep, keep _ _ (T.keep builtinsNs _ (by decide) (by decide) e), r⟩
  ·rw [h3]; exact TX.look
 obtain ⟨wi, hTb, hI⟩ : ∃ wi : Option WrapI, (∀ i, wi = some i -> s.heap.TableAt i.cc i.tb #[]) /\ ∀ W, X.wrap = some W -> ∃ i, wi = some i /\ WrapAtI X s l m (.str S.xn t) W i := by
  cases e : X.wrap with
  | none => exact ⟨none, fun _ e => (nomatch e), fun W e' => (nomatch e')⟩
  | some W =>
   obtain ⟨i, I⟩ := G₀.wrapI (hW W e)
   exact ⟨some i, fun _ e' => some_eq e' ▸ I.tab, fun W' e' => some_eq e' ▸ ⟨i, rfl, I⟩⟩
 have hT : TabIn wi s.heap := fun i e => (hTb i e).2
 have G : Ground wi p w.params X (nf + 1) s.heap l m ((fin ++ statS nf).map (·.1)) (.str S.xn t) :=
  ⟨G₀.cls, G₀.ns, G₀.names, G₀.st, G₀.md, G₀.g, G₀.b, G₀.cst, G₀.look, G₀.bound, hT, G₀.nob, G₀.bm⟩
 obtain ⟨args, body, deco, ret, tp, scope, ts, bind, pos, qq⟩ := fa_iff hf
 obtain ⟨f, dv, dV, c', pm', e1, e2, F⟩ := G.fnM qq
 refine ⟨.ref f, e1, wpAny_call ?_⟩
 have C : Core (statOf wi p w X (nf + 1) s l m) (fun _ => none) ⟨(statOf wi p w X (nf + 1) s l m).G₀, [], none⟩ ⟨[], none⟩ s := by
  refine ⟨fun _ _ e => e, fun _ _ e => hid_le e, fun _ _ e => (nomatch e), fun _ _ e => (nomatch e), rfl, ?_, ?_, ?_, fun _ _ e => (nomatch e), hg, rfl⟩
  all_goals cases wi with
  | none => first | exact fun _ hp => (nomatch hp) | exact List.nodup_nil
  | some i => first
   | exact fun p hp => (List.mem_singleton.mp hp) ▸ ⟨_, hT i rfl, .nil rfl⟩
   | exact List.nodup_cons.mpr ⟨(nomatch ·), List.nodup_nil⟩
   | exact fun p hp => (List.mem_singleton.mp hp) ▸ ⟨if_pos rfl, rfl⟩
 refine (callN_ok (ground_base G ok) (ground_wraps G hW hI) (ground_fns G ok) (ground_init G ok hi) n).1 false false nm [.d (.arg xs)] ⟨[], none⟩ (fun v _ => v = .d (.bool true)) (fun _ => none) _ s callerA (fun v s' => v = .bool true /\ OldK s.heap s'.heap /\ s'.os = s.os /\ AllBare s'.gens) (fun _ _ => False) [.ref a] f (caller_ok n hn) C ⟨.ref a, [], rfl, ⟨a, o, items, nn, rfl, hid_of hT ha (by unfold notTab; rw [hd]), hc, hd, hx⟩, rfl⟩ e2 (hev xs hlen) ?_
 intro c' V v hs' s' l' C' R hV
 rw [hV] at R
 exact ⟨R, old_of hTb C', C'.os, .of_eq C'.gens⟩
set_option maxHeartbeats 0
noncomputable def asR : Stmt -> Option (List Expr × Expr × Pos)
 | .Assign ts e p => some (ts, e, p)
 | _ => none
noncomputable def retR : Stmt -> Option (Option Expr × Pos)
 | .Return o p => some (o, p)
 | _ => none
noncomputable def lamR : Expr -> Option (Arguments × Expr × Scope × Pos)
 | .Lambda a b s p => some (a, b, s, p)
 | _ => none
noncomputable def binR : Expr -> Option (Expr × Expr × Pos)
 | .BinOp l _ r p => some (l, r, p)
 | _ => none
noncomputable def callR : Expr -> Option (Expr × List Expr × Pos)
 | .Call f a _ p => some (f, a, p)
 | _ => none
noncomputable def nameR : Expr -> Option (Str × Pos)
 | .Name x p => some (x, p)
 | _ => none
noncomputable def wrapR (fn : Str) (b : List Stmt) : Option WrapP :=
 optB b[0]? fun s1 => optB b[1]? fun s2 => optB (asR s1) fun q1 => optB (one q1.1) fun t => optB (nameR t) fun wn => optB (lamR q1.2.1) fun lam => optB (one lam.1.args) fun xa => optB (retR s2) fun q2 => optB q2.1 fun e =>
 optB (binR e) fun add => optB (binR add.2.1) fun sh => optB (callR sh.1) fun oc => optB (attrP oc.1) fun at_ => optB (one oc.2.1) fun ie => optB (callR ie) fun ic => optB (nameR ic.1) fun nm => optB (one ic.2.1) fun ea =>
  some ⟨fn, wn.1, wn.2, lam.1, xa.arg, lam.2.1, lam.2.2.1, lam.2.2.2, q1.2.2, add.1, at_.1, at_.2.1, at_.2.2, nm.2, ea, ic.2.2, oc.2.2, sh.2.1, sh.2.2, add.2.2, q2.2⟩
noncomputable def wfn7 : Str := Str.ofString "WrapAt"
noncomputable def body7 : List Stmt := match findSt wfn7 S7.cbody with
 | some s => (fnSt (some s)).elim [] (·.body)
 | none => []
theorem w7_some : (wrapR wfn7 body7).isSome = true := by kernel_rfl
noncomputable def W7 : WrapP := (wrapR wfn7 body7).get w7_some
theorem w7_as : W7.as = ⟨[], W7.as.args, none, [], [], none, []⟩ := by kernel_rfl
theorem w7_arg : W7.as.args.map (·.arg) = [W7.xn] := by kernel_rfl
theorem w7_init : sEq "__init__" W7.fn = false := by kernel_rfl
noncomputable def PX7 : PX := ⟨some W7, S7.rest, S7.cbody, S7.cname, [Str.ofString "at", Str.ofString "cells", Str.ofString "values", Str.ofString "memory", Str.ofString "plain", Str.ofString "seen", Str.ofString "head"], [Str.ofString "_law_code"]⟩
theorem w7_def : isFnSt (findSt W7.fn PX7.cbody) = true := by kernel_rfl
theorem w7_body : (fnOf PX7 true W7.fn).map (·.body) = some W7.stmts := by kernel_rfl
theorem ws7 : WrapS PX7 := fun W e => some_eq e ▸ ⟨w7_init, w7_def, w7_body, _, w7_as, w7_arg⟩
theorem okX7 : okX P7 PX7 ((F7.2 ++ statS 1426).map (·.1)) = true := by kernel_rfl
theorem hi7 : isFnSt (findSt "__init__" PX7.cbody) = true := by kernel_rfl
theorem hf7 : isFnSt (findSt nm7 PX7.rest) = true := by kernel_rfl
theorem call7 (hev : ∀ xs : List Int, xs.length <= 63 -> callN PX7 20 false false nm7 [.d (.arg xs)] ⟨[], none⟩ fun v _ => v = .d (.bool true)) : CallOK P7 nm7 X7 :=
 call_of (S := S7) (nf := 1426) (fin := F7.2) rfl rfl rfl okX7 hi7 hf7 (by decide) ws7 hev
noncomputable def d7 : Option DefP := defIn nm7 S7.rest
theorem d7_some : d7.isSome = true := by kernel_rfl
theorem pin7 (w : World) (h : Heap) (m : List (Str × Value)) (T : TopEnd P7 w.params h m) (x : X7 w h m) : isTheDefsW P7 h nm7 := by
 have e : d7 = some (d7.get d7_some) := by simp
 refine pin_of (d := d7.get d7_some) T (x.2 _ (defIn_mem e)) ?_ ?_ ?_ ?_ <;> kernel_rfl
theorem law7 (k1 : PySem.Challenge.rw_im0096_07.row.wellSaid = true) (hev : ∀ xs : List Int, xs.length <= 63 -> callN PX7 20 false false nm7 [.d (.arg xs)] ⟨[], none⟩ fun v _ => v = .d (.bool true)) : PySem.Challenge.rw_im0096_07.row.Holds :=
 head7 k1 pin7 (call7 hev)
end Mine
namespace Mine
open PySem PySem.W PySem.Calls PyProof.Rows Builtin
structure Cpu where
 m : List Int
 pc : Int
 sp : Int
 a : Int
 x : Int
 y : Int
 p : Int
 exc : Int
 addc : V
 cyc : Int
noncomputable def flds (ml : Nat) (st : Int) (σ : Cpu) : Loc :=
 [("name", .d (.str "6502")), ("byteMask", .d (.int 255)), ("addrMask", .d (.int 65535)), ("addrHighMask", .d (.int 65280)), ("spBase", .d (.int 256)),
  ("excycles", .d (.int σ.exc)), ("addcycles", σ.addc), ("processorCycles", .d (.int σ.cyc)), ("memory", .loc ml), ("start_pc", .d (.int st)),
  ("pc", .d (.int σ.pc)), ("sp", .d (.int σ.sp)), ("a", .d (.int σ.a)), ("x", .d (.int σ.x)), ("y", .d (.int σ.y)), ("p", .d (.int σ.p))]
noncomputable abbrev CK := Cpu -> Prop
noncomputable abbrev Op := Cpu -> CK -> Prop
noncomputable abbrev AdX := Cpu -> (Int -> CK) -> Prop
noncomputable def rd (m : List Int) (i : Int) (k : Int -> Prop) : Prop := at' i m.length fun n => k (m.getD n 0)
noncomputable def wr (σ : Cpu) (i v : Int) (k : CK) : Prop := at' i σ.m.length fun n => k { σ with m := σ.m.set n v }
noncomputable def shl (a b : Int) (k : Int -> Prop) : Prop := (0 <= b /\ b <= 1000 /\ a.natAbs < 2 ^ 62) /\ k (a * 2 ^ b.toNat)
noncomputable def shr (a b : Int) (k : Int -> Prop) : Prop := 0 <= b /\ k (a.fdiv (2 ^ b.toNat))
noncomputable def ok1 (i : Int) (n : Nat) (P : Prop) : Prop := small i /\ 0 <= idx i n /\ idx i n < n /\ P
noncomputable def wordA (σ : Cpu) (k : Int -> Prop) : Prop := rd σ.m σ.pc fun lo => rd σ.m (σ.pc + 1) fun hi => shl hi 8 fun h => k (lo + h)
noncomputable def wrapA (a : Int) (σ : Cpu) (k : Int -> Prop) : Prop := rd σ.m a fun lo => rd σ.m (bitAnd a 65280 + bitAnd (a + 1) 255) fun hi => shl hi 8 fun h => k (lo + h)
noncomputable def plus (c : Bool) (a i : Int) (σ : Cpu) (k : Int -> CK) : Prop := match c with
 | true => br (bitAnd a 65280 != bitAnd (bitAnd (a + i) 65535) 65280) (k (bitAnd (a + i) 65535) { σ with exc := σ.exc + 1 }) (k (bitAnd (a + i) 65535) σ)
 | false => k (bitAnd (a + i) 65535) σ
noncomputable def immX : AdX := fun σ k => k σ.pc σ
noncomputable def zpX : AdX := fun σ k => rd σ.m σ.pc fun v => k v σ
noncomputable def zxX : AdX := fun σ k => rd σ.m σ.pc fun v => k (bitAnd 255 (σ.x + v)) σ
noncomputable def zyX : AdX := fun σ k => rd σ.m σ.pc fun v => k (bitAnd 255 (σ.y + v)) σ
noncomputable def abX : AdX := fun σ k => wordA σ fun a => k a σ
noncomputable def axX (c : Bool) : AdX := fun σ k => wordA σ fun a => plus c a σ.x σ k
noncomputable def ayX (c : Bool) : AdX := fun σ k => wordA σ fun a => plus c a σ.y σ k
noncomputable def ixX : AdX := fun σ k => rd σ.m σ.pc fun v => wrapA (bitAnd 255 (v + σ.x)) σ fun a => k a σ
noncomputable def iyX (c : Bool) : AdX := fun σ k => rd σ.m σ.pc fun v => wrapA v σ fun a => plus c a σ.y σ k
noncomputable def fnz (v : Int) : Op := fun σ k =>
 br (v == 0) (k { σ with p := bitOr (bitAnd σ.p (bitNot (bitOr 2 128))) 2 }) (k { σ with p := bitOr (bitAnd σ.p (bitNot (bitOr 2 128))) (bitAnd v 128) })
noncomputable def adv (n : Int) (op : Op) : Op := fun σ k => op σ fun σ => k { σ with pc := σ.pc + n }
noncomputable def lda (ad : AdX) : Op := fun σ k => ad σ fun i σ => rd σ.m i fun v => fnz v { σ with a := v } k
noncomputable def ldx (ad : AdX) : Op := fun σ k => ad σ fun i σ => rd σ.m i fun v => fnz v { σ with x := v } k
noncomputable def ldy (ad : AdX) : Op := fun σ k => ad σ fun i σ => rd σ.m i fun v => fnz v { σ with y := v } k
noncomputable def sta (ad : AdX) : Op := fun σ k => ad σ fun i σ => wr σ i σ.a k
noncomputable def stx (ad : AdX) : Op := fun σ k => ad σ fun i σ => wr σ i σ.x k
noncomputable def sty (ad : AdX) : Op := fun σ k => ad σ fun i σ => wr σ i σ.y k
noncomputable def ora (ad : AdX) : Op := fun σ k => ad σ fun i σ => rd σ.m i fun v => fnz (bitOr σ.a v) { σ with a := bitOr σ.a v } k
noncomputable def and_ (ad : AdX) : Op := fun σ k => ad σ fun i σ => rd σ.m i fun v => fnz (bitAnd σ.a v) { σ with a := bitAnd σ.a v } k
noncomputable def eor (ad : AdX) : Op := fun σ k => ad σ fun i σ => rd σ.m i fun v => fnz (bitXor σ.a v) { σ with a := bitXor σ.a v } k
noncomputable def orFl (c : Bool) (v : Int) : Op := fun σ k => br c (k { σ with p := bitOr σ.p v }) (k σ)
noncomputable def zn (v : Int) : Op := fun σ k => br (v == 0) (k { σ with p := bitOr σ.p 2 }) (k { σ with p := bitOr σ.p (bitAnd v 128) })
noncomputable def nz (v : Int) : Op := fun σ k => br (v != 0) (k { σ with p := bitOr σ.p (bitAnd v 128) }) (k { σ with p := bitOr σ.p 2 })
noncomputable def noP (v : Int) (σ : Cpu) : Cpu := { σ with p := bitAnd σ.p (bitNot v) }
noncomputable def adcB (d : Int) : Op := fun σ k =>
 (fun k' : Int -> Prop => br (bitAnd σ.p 1 != 0) (k' 1) (k' 0)) fun tmp =>
  orFl (bitAnd (bitAnd (bitNot (bitXor σ.a d)) (bitXor σ.a (d + σ.a + tmp))) 128 != 0) 64 (noP 195 σ) fun σ =>
  (fun k' : Cpu -> Int -> Prop => br (decide (255 < d + σ.a + tmp)) (k' { σ with p := bitOr σ.p 1 } (bitAnd (d + σ.a + tmp) 255)) (k' σ (d + σ.a + tmp))) fun σ r =>
  zn r σ fun σ => k { σ with a := r }
noncomputable def adcD (d : Int) : Op := fun σ₀ k => (fun σ : Cpu =>
 (fun g : Int -> Int -> Prop => br (decide (9 < bitAnd d 15 + bitAnd σ.a 15 + bitAnd σ.p 1)) (g 6 1) (g 0 0)) fun adj0 hc =>
 shr d 4 fun d4 => shr σ.a 4 fun a4 =>
 (fun g : Int -> Int -> Prop => br (decide (9 < bitAnd d4 15 + bitAnd a4 15 + hc)) (g 6 1) (g 0 0)) fun adj1 dc =>
 shl (bitAnd (bitAnd d4 15 + bitAnd a4 15 + hc) 15) 4 fun s =>
 (fun alu : Int => zn alu (noP 195 σ) fun σ => orFl (dc == 1) 1 σ fun σ => orFl (bitAnd (bitAnd (bitNot (bitXor σ.a d)) (bitXor σ.a alu)) 128 != 0) 64 σ fun σ' =>
  shl (bitAnd (bitAnd (bitAnd d4 15 + bitAnd a4 15 + hc) 15 + adj1) 15) 4 fun t => k { σ' with a := t + bitAnd (bitAnd (bitAnd d 15 + bitAnd σ₀.a 15 + bitAnd σ₀.p 1) 15 + adj0) 15 }) (s + bitAnd (bitAnd d 15 + bitAnd σ.a 15 + bitAnd σ.p 1) 15)) σ₀
noncomputable def adc (ad : AdX) : Op := fun σ k => ad σ fun i σ => rd σ.m i fun d => br (bitAnd σ.p 8 != 0) (adcD d σ k) (adcB d σ k)
noncomputable def sbcB (d : Int) : Op := fun σ k =>
 (fun r : Int => orFl (bitAnd (bitAnd (bitXor σ.a d) (bitXor σ.a r)) 128 != 0) 64 (noP 195 σ) fun σ =>
  orFl (bitAnd r 255 == 0) 2 σ fun σ => orFl (decide (255 < r)) 1 σ fun σ => k { σ with p := bitOr σ.p (bitAnd (bitAnd r 255) 128), a := bitAnd r 255 }) (σ.a + bitAnd (bitNot d) 255 + bitAnd σ.p 1)
noncomputable def sbcD (d : Int) : Op := fun σ k =>
 (fun g : Int -> Int -> Prop => br (decide (bitAnd σ.a 15 + bitAnd (bitNot d) 15 + bitAnd σ.p 1 <= 15)) (g 0 10) (g 1 0)) fun hc adj0 =>
 shr σ.a 4 fun a4 => shr (bitNot d) 4 fun d4 =>
 (fun g : Int -> Prop => br (decide (bitAnd a4 15 + bitAnd d4 15 + hc <= 15)) (shl 10 4 g) (g 0)) fun adj1 =>
 (fun g : Int -> Prop => br (decide (255 < σ.a + bitAnd (bitNot d) 255 + bitAnd σ.p 1)) (g 1) (g 0)) fun dc =>
 (fun alu : Int => shr (alu + adj1) 4 fun n1 => zn alu (noP 195 σ) fun σ => orFl (dc == 1) 1 σ fun σ => orFl (bitAnd (bitAnd (bitXor σ.a d) (bitXor σ.a alu)) 128 != 0) 64 σ fun σ' =>
  shl (bitAnd n1 15) 4 fun t => k { σ' with a := t + bitAnd (alu + adj0) 15 }) (bitAnd (σ.a + bitAnd (bitNot d) 255 + bitAnd σ.p 1) 255)
noncomputable def sbc (ad : AdX) : Op := fun σ k => ad σ fun i σ => rd σ.m i fun d => br (bitAnd σ.p 8 != 0) (sbcD d σ k) (sbcB d σ k)
noncomputable def cmp (ad : AdX) (reg : Cpu -> Int) : Op := fun σ k => ad σ fun i σ => rd σ.m i fun d =>
 (fun σ' : Cpu => (fun k' : CK => br (reg σ == d) (k' { σ' with p := bitOr σ'.p (bitOr 1 2) }) (br (decide (d < reg σ)) (k' { σ' with p := bitOr σ'.p 1 }) (k' σ'))) fun σ' => k { σ' with p := bitOr σ'.p (bitAnd (reg σ - d) 128) }) (noP 131 σ)
noncomputable def onA (f : Int -> Cpu -> (Int -> CK) -> Prop) : Op := fun σ k => f σ.a σ fun v σ => k { σ with a := v }
noncomputable def onM (ad : AdX) (f : Int -> Cpu -> (Int -> CK) -> Prop) : Op := fun σ k => ad σ fun i σ => rd σ.m i fun d => f d σ fun v σ => wr σ i v k
noncomputable def aslF (d : Int) (σ : Cpu) (k : Int -> CK) : Prop := orFl (bitAnd d 128 != 0) 1 (noP 131 σ) fun σ => shl d 1 fun s => nz (bitAnd s 255) σ fun σ => k (bitAnd s 255) σ
noncomputable def lsrF (d : Int) (σ : Cpu) (k : Int -> CK) : Prop :=
 (fun σ : Cpu => shr d 1 fun s => br (s != 0) (k s σ) (k s { σ with p := bitOr σ.p 2 })) { noP 131 σ with p := bitOr (noP 131 σ).p (bitAnd d 1) }
noncomputable def rolF (d : Int) (σ : Cpu) (k : Int -> CK) : Prop :=
 (fun k' : Int -> CK => br (bitAnd σ.p 1 != 0) (br (bitAnd d 128 != 0) (shl d 1 fun s => k' (bitOr s 1) σ) (shl d 1 fun s => k' (bitOr s 1) (noP 1 σ)))
  (br (bitAnd d 128 != 0) (shl d 1 fun s => k' s { σ with p := bitOr σ.p 1 }) (shl d 1 fun s => k' s σ))) fun s σ => fnz (bitAnd s 255) σ fun σ => k (bitAnd s 255) σ
noncomputable def rorF (d : Int) (σ : Cpu) (k : Int -> CK) : Prop :=
 (fun k' : Int -> CK => br (bitAnd σ.p 1 != 0) (br (bitAnd d 1 != 0) (shr d 1 fun s => k' (bitOr s 128) σ) (shr d 1 fun s => k' (bitOr s 128) (noP 1 σ)))
  (br (bitAnd d 1 != 0) (shr d 1 fun s => k' s { σ with p := bitOr σ.p 1 }) (shr d 1 fun s => k' s σ))) fun s σ => fnz s σ fun σ => k s σ
noncomputable def branch : Op := fun σ k => rd σ.m σ.pc fun d =>
 (fun k' : Int -> Prop => br (bitAnd d 128 != 0) (k' (σ.pc + 1 - bitXor d 255 - 1)) (k' (σ.pc + 1 + d))) fun ad =>
  br (bitAnd (σ.pc + 1) 65280 != bitAnd ad 65280) (k { σ with exc := σ.exc + 1 + 1, pc := bitAnd ad 65535 }) (k { σ with exc := σ.exc + 1, pc := bitAnd ad 65535 })
noncomputable def bst (f : Int) : Op := fun σ k => br (bitAnd σ.p f != 0) (branch σ k) (k { σ with pc := σ.pc + 1 })
noncomputable def bcl (f : Int) : Op := fun σ k => br (bitAnd σ.p f != 0) (k { σ with pc := σ.pc + 1 }) (branch σ k)
noncomputable def clr (f : Int) : Op := fun σ k => k (noP f σ)
noncomputable def set_ (f : Int) : Op := fun σ k => k { σ with p := bitOr σ.p f }
noncomputable def jmp : Op := fun σ k => wordA σ fun i => k { σ with pc := i }
noncomputable def push (v : Int) : Op := fun σ k => wr σ (σ.sp + 256) (bitAnd v 255) fun σ => k { σ with sp := bitAnd (σ.sp - 1) 255 }
noncomputable def pull (σ : Cpu) (k : Int -> CK) : Prop := rd σ.m (bitAnd (σ.sp + 1) 255 + 256) fun v => k v { σ with sp := bitAnd (σ.sp + 1) 255 }
noncomputable def pha : Op := fun σ k => push σ.a σ k
noncomputable def pla : Op := fun σ k => pull σ fun v σ => fnz v { σ with a := v } k
noncomputable def step1 (op ex ct : Int) (i : Op) : Op := fun σ k =>
 ok1 op 256 (ok1 op 256 (i { σ with pc := bitAnd (σ.pc + 1) 65535, exc := 0, addc := .d (.int ex) } fun σ => ok1 op 256 (k { σ with pc := bitAnd σ.pc 65535, cyc := σ.cyc + (ct + σ.exc) })))
noncomputable def decF (d : Int) (σ : Cpu) (k : Int -> CK) : Prop := nz (bitAnd (d - 1) 255) { σ with p := bitAnd σ.p (bitNot (bitOr 2 128)) } (k (bitAnd (d - 1) 255))
noncomputable def incF (d : Int) (σ : Cpu) (k : Int -> CK) : Prop := nz (bitAnd (d + 1) 255) { σ with p := bitAnd σ.p (bitNot (bitOr 2 128)) } (k (bitAnd (d + 1) 255))
noncomputable def toX (f : Cpu -> Int) : Op := fun σ k => fnz (f σ) { σ with x := f σ } k
noncomputable def toY (f : Cpu -> Int) : Op := fun σ k => fnz (f σ) { σ with y := f σ } k
noncomputable def toA (f : Cpu -> Int) : Op := fun σ k => fnz (f σ) { σ with a := f σ } k
@[irreducible] noncomputable def stepR (X : PX) (d : Nat) (hs : Hs) (op : Int) (K : KE) : Prop := match fnOf X true "step" with
 | some F => exL (evS X F.scope.names false (fun m e => evE X (callN X (d + 7)) depthE F.scope.names m e) depthS) (F.body.drop 1) [("self", .d .mpu), ("instructCode", .d (.int op))] hs fun f _ hs' => retC false hs.hp.length (retV f) hs' K
 | none => False
noncomputable def clsInts (x : Str) : List Int := match clsD PX7 x with
 | some (.ints l) => l
 | _ => []
noncomputable def exF (o : Int) : Int := (clsInts "extracycles").getD o.toNat 0
noncomputable def ctF (o : Int) : Int := (clsInts "cycletime").getD o.toNat 0
noncomputable def code1 (o : Int) (i : Op) : Int × Op := (o, step1 o (exF o) (ctF o) i)
structure Md where
 col : Int
 ad : Bool -> AdX
 len : Int
noncomputable def mZ : Md := ⟨1, fun _ => zpX, 1⟩
noncomputable def mZx : Md := ⟨5, fun _ => zxX, 1⟩
noncomputable def mZy : Md := ⟨5, fun _ => zyX, 1⟩
noncomputable def mW : Md := ⟨3, fun _ => abX, 2⟩
noncomputable def mWx : Md := ⟨7, axX, 2⟩
noncomputable def mWy : Md := ⟨6, ayX, 2⟩
noncomputable def mWy7 : Md := ⟨7, ayX, 2⟩
noncomputable def mIx : Md := ⟨0, fun _ => ixX, 1⟩
noncomputable def mIy : Md := ⟨4, iyX, 1⟩
noncomputable def codeM (o : Int) (op : AdX -> Op) (M : Md) : Int × Op := code1 (o + 4 * M.col) (adv M.len (op (M.ad (exF (o + 4 * M.col) != 0))))
noncomputable def mdsA : List Md := [mZ, mZx, mW, mWx, mWy, mIx, mIy]
noncomputable def mdsM : List Md := [mZ, mZx, mW, mWx]
noncomputable def mdsY : List Md := [mZ, mZy, mW, mWy7]
noncomputable def opsA : List (Int × (AdX -> Op)) := [(1, ora), (33, and_), (65, eor), (97, adc), (129, sta), (161, lda), (193, fun ad => cmp ad fun σ => σ.a), (225, sbc)]
noncomputable def opsM : List (Int × (AdX -> Op)) := [(2, fun ad => onM ad aslF), (34, fun ad => onM ad rolF), (66, fun ad => onM ad lsrF), (98, fun ad => onM ad rorF), (194, fun ad => onM ad decF), (226, fun ad => onM ad incF), (160, ldy)]
noncomputable def codes1 : List (Int × Op) :=
 [code1 162 (adv 1 (ldx immX)), code1 160 (adv 1 (ldy immX)), code1 169 (adv 1 (lda immX)), code1 73 (adv 1 (eor immX)), code1 10 (onA aslF), code1 42 (onA rolF), code1 74 (onA lsrF), code1 106 (onA rorF),
  code1 24 (clr 1), code1 56 (set_ 1), code1 170 (toX fun σ => σ.a), code1 138 (toA fun σ => σ.x), code1 168 (toY fun σ => σ.a), code1 152 (toA fun σ => σ.y), code1 72 pha, code1 104 pla,
  code1 232 (toX fun σ => bitAnd (σ.x + 1) 255), code1 202 (toX fun σ => bitAnd (σ.x - 1) 255), code1 200 (toY fun σ => bitAnd (σ.y + 1) 255), code1 136 (toY fun σ => bitAnd (σ.y - 1) 255),
  code1 76 jmp, code1 144 (bcl 1), code1 176 (bst 1), code1 240 (bst 2), code1 208 (bcl 2), code1 80 (bcl 64), code1 48 (bst 128), code1 16 (bcl 128)]
noncomputable def codes7 : List (Int × Op) := (opsA.flatMap fun p => mdsA.map fun M => codeM p.1 p.2 M) ++ (opsM.flatMap fun p => mdsM.map fun M => codeM p.1 p.2 M) ++ (mdsY.map fun M => codeM 162 ldx M) ++ ([mZ, mZy, mW].map fun M => codeM 130 stx M) ++ ([mZ, mZx, mW].map fun M => codeM 128 sty M) ++ codes1
end Mine
namespace Mine
open PySem PySem.W PySem.Calls PyProof.Rows
set_option maxHeartbeats 0
noncomputable def fn7 (x : Str) : Fn := (fnOf PX7 false x).getD ⟨⟨[], [], none, [], [], none, []⟩, [], default⟩
noncomputable def ev7 (x : Str) (n : Nat) : Bool -> Expr -> Loc -> Hs -> KE -> Prop := fun m e => evE PX7 (callN PX7 n) depthE (fn7 x).scope.names m e
noncomputable def rs7 (x : Str) (rm : Bool) (n k : Nat) : RecS := evS PX7 (fn7 x).scope.names rm (ev7 x n) k
noncomputable def bd7 (x : Str) (i : Nat) : List Stmt := (fn7 x).body.drop i
noncomputable def hs7 (h : D) (cs : List Int) (hr : List D) (mp : Option Loc) : Hs := ⟨h :: .ints cs :: hr, mp⟩
noncomputable def fDo : Str := Str.ofString "_law_do"
noncomputable def out7 (cu : Bool) (n : Nat) (K : KE) : KS := fun f _ hs => retC cu n (retV f) hs K
section
variable (n : Nat) (h : D) (cs : List Int) (hr : List D) (mp : Option Loc) (K : KE) (rm : Bool)
noncomputable def locDo (code : Int) (ms : D) (cell q place : Int) (tl : Loc) : Loc :=
 ("cells", .loc 1) :: ("code", .d (.int code)) :: ("modes", .d ms) :: ("cell", .d (.int cell)) :: ("q", .d (.int q)) :: ("place", .d (.int place)) :: ("pointer", .d (.int ((241 + 2 * cell).fmod 256))) :: tl
theorem do1 (code : Int) (ms : D) (cell q : Int) : callN PX7 (n + 1) rm false fDo [.loc 1, .d (.int code), .d ms, .d (.int cell), .d (.int q)] (hs7 h cs hr mp) K =
  at' cell cs.length fun i => ((2 : Int).natAbs < 2 ^ 62 \/ cell.natAbs < 2 ^ 62) /\ (256 : Int) ≠ 0 /\
  exL (rs7 fDo rm n 12) (bd7 fDo 1) (locDo code ms cell q (cs.getD i 0) []) (hs7 h cs hr mp) (out7 false (hr.length + 2) K) := by kernel_rfl
end
set_option maxHeartbeats 0
noncomputable def compPart : Expr -> Option (Expr × List Comprehension × Scope)
 | .ListComp e g s _ => some (e, g, s)
 | .Call _ [e] _ _ => compPart e
 | _ => none
noncomputable def gen1 (g : List Comprehension) : Expr × Expr × List Expr := (genP g).getD (.Name "x" default, .Name "x" default, [])
noncomputable def compAt (b : List Stmt) : Expr × List Comprehension × Scope := match b with
 | .Assign _ e _ :: _ => (compPart e).getD (.Name "x" default, [], default)
 | _ => (.Name "x" default, [], default)
noncomputable def cmp7 (x : Str) (n dep : Nat) (c : Expr × List Comprehension × Scope) (g : Option (Nat × D)) (K : List D -> Hs -> Prop) : List D -> Loc -> Hs -> List D -> Prop :=
 compL (fun loc e => evE PX7 (callN PX7 n) dep (compSc (fn7 x).scope.names c.2.2.names) false e loc) (compSc (fn7 x).scope.names c.2.2.names) (gen1 c.2.1).1 c.1 (gen1 c.2.1).2.2 g K
noncomputable def cDo : Expr × List Comprehension × Scope := compAt (bd7 fDo 1)
noncomputable def mulc (a b : Int) : Prop := a.natAbs < 2 ^ 62 \/ b.natAbs < 2 ^ 62
section
variable (n : Nat) (h : D) (cs : List Int) (hr : List D) (mp : Option Loc) (K : KE) (KL : KS) (rm : Bool) (code : Int) (ms : D) (cell q place : Int)
noncomputable def latDo (tl : Loc) : Loc := dropNames cDo.2.2.names (locDo code ms cell q place []) ++ tl
theorem do2 (ss : List D) (hs : Hs) : exL (rs7 fDo rm n 12) (bd7 fDo 1) (locDo code (.list ss) cell q place []) hs KL =
  (True /\ (ss.length <= lim /\ cmp7 fDo n 39 cDo none (fun ds hs => exL (rs7 fDo rm n 12) (bd7 fDo 2) (locDo code (.list ss) cell q place [("fit", .d (mkList ds))]) hs KL) ss (latDo code (.list ss) cell q place []) hs [])) := by kernel_rfl
noncomputable def fitK (P : List D -> Hs -> Prop) (s : Str) (A B : Prop) : Prop :=
 br (decide (place < 256)) (br (decide (place < 256)) A B) (at' 0 s.length fun k => optP s.cps[k]? fun c => br ((⟨#[c]⟩ : Str).cps.toList != (Str.ofString "z").cps.toList) A B)
theorem do2a (s : Str) (r : List D) (acc : List D) (P : List D -> Hs -> Prop) (hs : Hs) : cmp7 fDo n 39 cDo none P (.str s :: r) (latDo code ms cell q place []) hs acc =
  (True /\ fitK place P s (cmp7 fDo n 39 cDo none P r (latDo code ms cell q place [("mode", .d (.str s))]) hs (.str s :: acc)) (cmp7 fDo n 39 cDo none P r (latDo code ms cell q place [("mode", .d (.str s))]) hs acc)) := by kernel_rfl
theorem do2b (s : Str) (u : V) (r : List D) (acc : List D) (P : List D -> Hs -> Prop) (hs : Hs) : cmp7 fDo n 39 cDo none P (.str s :: r) (latDo code ms cell q place [("mode", u)]) hs acc =
  (True /\ fitK place P s (cmp7 fDo n 39 cDo none P r (latDo code ms cell q place [("mode", .d (.str s))]) hs (.str s :: acc)) (cmp7 fDo n 39 cDo none P r (latDo code ms cell q place [("mode", .d (.str s))]) hs acc)) := by kernel_rfl
theorem do3 (fs : List D) (hs : Hs) : exL (rs7 fDo rm n 12) (bd7 fDo 2) (locDo code ms cell q place [("fit", .d (.list fs))]) hs KL =
  (fs.length < 2 ^ 62 /\ (fs.length : Int) ≠ 0 /\ at' (q.fmod fs.length) fs.length fun k => exL (rs7 fDo rm n 12) (bd7 fDo 3) (locDo code ms cell q place [("fit", .d (.list fs)), ("mode", .d (fs.getD k .none))]) hs KL) := by kernel_rfl
noncomputable def doR (ix : List Int) (col : Int) (opn : List Int) (hs : Hs) (K : KE) : Prop :=
 mulc 4 col /\ binOpV .Add false (.d (.ints ix)) (.d (.ints [code + 4 * col])) hs fun v hs => binOpV .Add rm v (.d (.ints opn)) hs K
noncomputable def awayI (q : Int) : Int := (29 * q + 101).fmod 256
noncomputable def dm7 (k : Nat) (rm : Bool) (n : Nat) (h : D) (cs : List Int) (hr : List D) (mp : Option Loc) (code : Int) (ms : D) (cell q place : Int) (f : V) (M : Str) (K : KE) : Prop :=
 exL (rs7 fDo rm (n + 2) 12) (bd7 fDo 3) (locDo code ms cell q place [("fit", f), ("mode", .d (.str M))]) (hs7 h cs hr mp) (out7 false k K)
noncomputable def doM (P : Prop) : Prop := mulc 29 q /\ (256 : Int) ≠ 0 /\ P
noncomputable def wordR (w : Int) (K : List Int -> Prop) : Prop := (65536 : Int) ≠ 0 /\ (256 : Int) ≠ 0 /\ ((256 : Int) ≠ 0 /\ (256 : Int).natAbs < 1073741824) /\ K [(w.fmod 65536).fmod 256, (w.fmod 65536).fdiv 256]
theorem do_z (k : Nat) (f : V) : dm7 k rm n h cs hr mp code ms cell q place f "z" K = doM q (ok1 0 1 ((256 : Int) ≠ 0 /\ doR rm code [] 1 [(place - 0).fmod 256] (hs7 h cs hr mp) K)) := by kernel_rfl
theorem do_zx (k : Nat) (f : V) : dm7 k rm n h cs hr mp code ms cell q place f "z,x" K = doM q (ok1 0 3 ((256 : Int) ≠ 0 /\ doR rm code [162, awayI q] 5 [(place - awayI q).fmod 256] (hs7 h cs hr mp) K)) := by kernel_rfl
theorem do_zy (k : Nat) (f : V) : dm7 k rm n h cs hr mp code ms cell q place f "z,y" K = doM q (ok1 0 3 ((256 : Int) ≠ 0 /\ doR rm code [160, awayI q] 5 [(place - awayI q).fmod 256] (hs7 h cs hr mp) K)) := by kernel_rfl
theorem do_w (k : Nat) (f : V) : dm7 k rm n h cs hr mp code ms cell q place f "w" K = doM q (ok1 0 1 (wordR (place - 0) fun w => doR rm code [] 3 w (hs7 h cs hr mp) K)) := by kernel_rfl
theorem do_wx (k : Nat) (f : V) : dm7 k rm n h cs hr mp code ms cell q place f "w,x" K = doM q (ok1 0 3 (wordR (place - awayI q) fun w => doR rm code [162, awayI q] 7 w (hs7 h cs hr mp) K)) := by kernel_rfl
theorem do_wy (k : Nat) (f : V) : dm7 k rm n h cs hr mp code ms cell q place f "w,y" K = doM q ((4 : Int) ≠ 0 /\ br (code.fmod 4 == 2) (ok1 0 3 (wordR (place - awayI q) fun w => doR rm code [160, awayI q] 7 w (hs7 h cs hr mp) K)) (ok1 0 3 (wordR (place - awayI q) fun w => doR rm code [160, awayI q] 6 w (hs7 h cs hr mp) K))) := by kernel_rfl
theorem do_iy (k : Nat) (f : V) : dm7 k rm n h cs hr mp code ms cell q place f "(z),y" K = doM q (mulc 31 cell /\ mulc 2 cell /\ doR rm code [160, 31 * cell + 9] 4 [160 + 2 * cell] (hs7 h cs hr mp) K) := by kernel_rfl
theorem do_ix (k : Nat) (f : V) : dm7 k rm n h cs hr mp code ms cell q place f "(z,x)" K = doM q ((256 : Int) ≠ 0 /\ doR rm code [162, awayI q] 0 [((241 + 2 * cell).fmod 256 - awayI q).fmod 256] (hs7 h cs hr mp) K) := by kernel_rfl
end
set_option maxHeartbeats 0
noncomputable def fLoad : Str := Str.ofString "_law_load"
noncomputable def fStore : Str := Str.ofString "_law_store"
noncomputable def fCode : Str := Str.ofString "_law_code"
noncomputable def fWord : Str := Str.ofString "_law_word"
noncomputable def modesD (l : List String) : D := .list (l.map fun s => .str (Str.ofString s))
noncomputable def allM : List String := ["w", "w,x", "w,y", "(z,x)", "(z),y", "z", "z,x"]
noncomputable def memM : List String := ["w", "w,x", "z", "z,x"]
section
variable (n : Nat) (h : D) (cs : List Int) (hr : List D) (K : KE) (rm : Bool)
@[irreducible] noncomputable def doV (code : Int) (ms : List String) (cell q : Int) (rm : Bool) (hs : Hs) (K : KE) : Prop := callN PX7 n rm false fDo [.loc 1, .d (.int code), .d (modesD ms), .d (.int cell), .d (.int q)] hs K
@[irreducible] noncomputable def ldV (cell q : Int) (rm : Bool) (hs : Hs) (K : KE) : Prop := callN PX7 n rm false fLoad [.loc 1, .d (.int cell), .d (.int q)] hs K
@[irreducible] noncomputable def stV (cell q : Int) (hs : Hs) (K : KE) : Prop := callN PX7 n false false fStore [.loc 1, .d (.int cell), .d (.int q)] hs K
theorem load1 (mp : Option Loc) (cell q : Int) : ldV (n + 1) cell q rm (hs7 h cs hr mp) K = doV n 161 allM cell q rm (hs7 h cs hr mp) K := by kernel_rfl
theorem store1 (mp : Option Loc) (cell q : Int) : stV (n + 1) cell q (hs7 h cs hr mp) K = doV n 129 allM cell q false (hs7 h cs hr mp) K := by kernel_rfl
theorem word1 (w : Int) (hs : Hs) (N : Nat) (e : hs.hp.length = N) : callN PX7 (n + 1) false false fWord [.d (.int w)] hs K = ((256 : Int) ≠ 0 /\ ((256 : Int) ≠ 0 /\ (256 : Int).natAbs < 1073741824) /\ K (.d (.ints [w.fmod 256, w.fdiv 256])) hs) := by kernel_rfl
noncomputable def cat2 (u v : V) (hs : Hs) (K : KE) : Prop := binOpV .Add false u v hs K
noncomputable def li (l : List Int) : V := .d (.ints l)
@[irreducible] noncomputable def codeV (k one two octet q : Int) (ps : D) (base : Int) (hs : Hs) (K : KE) : Prop := callN PX7 n false false fCode [.loc 1, .d (.tup [.int k, .int one, .int two, .int octet, .int q, ps]), .d (.int base)] hs K
noncomputable def rC (N : Nat) (K : KE) : KE := fun v hs => retC true N v hs K
variable (one two octet q base : Int) (ps : D)
theorem code_0 : codeV (n + 1) 0 one two octet q ps base (hs7 h cs hr none) K =
  (stV n one q (hs7 h cs hr none) fun v hs => cat2 (li [169, octet]) v hs (rC (hr.length + 2) K)) := by kernel_rfl
noncomputable def ways (octet : Int) : List D := [.ints [], .ints [170, 169, octet, 138], .ints [168, 169, octet, 152]]
theorem code_1 : codeV (n + 1) 1 one two octet q ps base (hs7 h cs hr none) K =
  ((3 : Int) ≠ 0 /\ at' (octet.fmod 3) 3 fun i => ldV n two q false (hs7 h cs hr none) fun v hs => cat2 v (.d ((ways octet).getD i .none)) hs fun v hs => stV n one (q + 3) hs fun u hs => cat2 v u hs (rC (hr.length + 2) K)) := by kernel_rfl
noncomputable def code5 (before : List Int) (c : Int) (one two q : Int) (hs : Hs) (K : KE) : Prop := ldV n one q false hs fun v hs => cat2 v (li before) hs fun v hs => doV n c allM two (q + 2) false hs fun u hs => cat2 v u hs fun v hs => stV n one (q + 5) hs fun u hs => cat2 v u hs K
theorem code_2 : codeV (n + 1) 2 one two octet q ps base (hs7 h cs hr none) K =
  (ok1 0 5 (code5 n [] 1 one two q (hs7 h cs hr none) (rC (hr.length + 2) K))) := by kernel_rfl
theorem code_3 : codeV (n + 1) 3 one two octet q ps base (hs7 h cs hr none) K =
  (ok1 1 5 (code5 n [] 33 one two q (hs7 h cs hr none) (rC (hr.length + 2) K))) := by kernel_rfl
theorem code_4 : codeV (n + 1) 4 one two octet q ps base (hs7 h cs hr none) K =
  (ok1 2 5 (code5 n [] 65 one two q (hs7 h cs hr none) (rC (hr.length + 2) K))) := by kernel_rfl
theorem code_5 : codeV (n + 1) 5 one two octet q ps base (hs7 h cs hr none) K =
  (ok1 3 5 (code5 n [24] 97 one two q (hs7 h cs hr none) (rC (hr.length + 2) K))) := by kernel_rfl
theorem code_6 : codeV (n + 1) 6 one two octet q ps base (hs7 h cs hr none) K =
  (ok1 4 5 (code5 n [56] 225 one two q (hs7 h cs hr none) (rC (hr.length + 2) K))) := by kernel_rfl
noncomputable def code7 (before code bc : Int) (one two octet q : Int) (hs : Hs) (K : KE) : Prop := doV n bc memM two (q + 3) false hs fun bh hs => ((8 : Int) ≠ 0 /\ (8 : Int).natAbs < 1073741824) /\ (2 : Int) ≠ 0 /\ br ((octet.fdiv 8).fmod 2 == 0)
  (doV n code memM one q false hs fun v hs => cat2 (li [before]) v hs fun v hs => cat2 v bh hs K)
  (ldV n one q false hs fun v hs => cat2 v (li [before]) hs fun v hs => cat2 v (li [code + 8]) hs fun v hs => stV n one (q + 1) hs fun u hs => cat2 v u hs fun v hs => cat2 v bh hs K)
theorem code_7 : codeV (n + 1) 7 one two octet q ps base (hs7 h cs hr none) K =
  (((4 : Int) ≠ 0 /\ (4 : Int).natAbs < 1073741824) /\ (2 : Int) ≠ 0 /\ mulc ((octet.fdiv 4).fmod 2) 32 /\ (4 : Int) ≠ 0 /\ mulc 32 (octet.fmod 4) /\ (4 : Int) ≠ 0 /\
  (fun k : Int -> Prop => br (decide (octet.fmod 4 < 2)) (k 34) (k 98)) fun bc => code7 n (24 + (octet.fdiv 4).fmod 2 * 32) (32 * octet.fmod 4 + 2) bc one two octet q (hs7 h cs hr none) (rC (hr.length + 2) K)) := by kernel_rfl
theorem code_8 : codeV (n + 1) 8 one two octet q ps base (hs7 h cs hr none) K =
  ((2 : Int) ≠ 0 /\ mulc (octet.fmod 2) 32 /\ doV n (194 + octet.fmod 2 * 32) memM one q false (hs7 h cs hr none) (rC (hr.length + 2) K)) := by kernel_rfl
theorem code_9 : codeV (n + 1) 9 one two octet q ps base (hs7 h cs hr none) K =
  (ldV n one q false (hs7 h cs hr none) fun v hs => cat2 v (li [72]) hs fun v hs => ldV n two (q + 1) false hs fun u hs => cat2 v u hs fun v hs => stV n one (q + 2) hs fun u hs => cat2 v u hs fun v hs => cat2 v (li [104]) hs fun v hs => stV n two (q + 3) hs fun u hs => cat2 v u hs (rC (hr.length + 2) K)) := by kernel_rfl
noncomputable def code10 (lc sc up dn : Int) (lm sm : List String) (one two octet q : Int) (hs : Hs) (K : KE) : Prop := doV n lc lm two q false hs fun v hs => (2 : Int) ≠ 0 /\ (fun k : Int -> Prop => br (octet.fmod 2 == 0) (k up) (k dn)) fun c => cat2 v (li [c]) hs fun v hs => doV n sc sm one (q + 1) false hs fun u hs => cat2 v u hs K
theorem code_10 : codeV (n + 1) 10 one two octet q ps base (hs7 h cs hr none) K =
  ((4 : Int) ≠ 0 /\ br (decide (octet.fmod 4 < 2)) (code10 n 162 130 232 202 ["w", "w,y", "z", "z,y"] ["w", "z", "z,y"] one two octet q (hs7 h cs hr none) (rC (hr.length + 2) K))
  (code10 n 160 128 200 136 memM ["w", "z", "z,x"] one two octet q (hs7 h cs hr none) (rC (hr.length + 2) K))) := by kernel_rfl
noncomputable def code11 (c : Int) (one two q : Int) (step : Int) (line : V) (hs : Hs) (K : KE) : Prop := True /\ (8 : Int) ≠ 0 /\ ldV n ((one + step).fmod 8) (q + step) false hs fun u hs => cat2 line u hs fun line hs => (8 : Int) ≠ 0 /\ doV n c allM ((two + step).fmod 8) (q + 2 + step) false hs fun u hs => cat2 line u hs fun line hs => (8 : Int) ≠ 0 /\ stV n ((one + step).fmod 8) (q + 5 + step) hs fun u hs => cat2 line u hs K
theorem code_11 : codeV (n + 1) 11 one two octet q ps base (hs7 h cs hr none) K =
  ((2 : Int) ≠ 0 /\ (fun k : Int -> Int -> Prop => br (octet.fmod 2 == 0) (k 97 24) (k 225 56)) fun c b => small 2 /\ small 2 /\ code11 n c one two q 0 (li [b]) (hs7 h cs hr none) fun line hs => code11 n c one two q 1 line hs fun line hs => True /\ (rC (hr.length + 2) K) line hs) := by kernel_rfl
end
set_option maxHeartbeats 0
section
variable (n : Nat) (h : D) (cs : List Int) (hr : List D) (K : KE) (one two octet q base : Int) (t1 t2 : D)
noncomputable def lenV (v : V) (hs : Hs) (k : Nat -> Prop) : Prop := optP (lenD (deref hs v)) fun m => m < 2 ^ 62 /\ k m
@[irreducible] noncomputable def subV (t : D) (b : Int) (hs : Hs) (K : KE) : Prop := callN PX7 n false false fCode [.loc 1, .d t, .d (.int b)] hs K
@[irreducible] noncomputable def wordV (w : Int) (hs : Hs) (K : KE) : Prop := callN PX7 n false false fWord [.d (.int w)] hs K
noncomputable def tail12 (base : Int) (t1 t2 : D) (hd : V) (hs : Hs) (K : KE) : Prop := ok1 0 2 <| lenV hd hs fun m => subV n t1 (base + m + 3) hs fun f1 hs =>
 lenV hd hs fun m => lenV f1 hs fun m1 => ok1 1 2 <| subV n t2 (base + m + 3 + m1 + 3) hs fun f2 hs =>
 cat2 hd (li [76]) hs fun v hs => wordV n (base + m + 3 + m1 + 3) hs fun w hs => cat2 v w hs fun v hs => cat2 v f1 hs fun v hs => cat2 v (li [76]) hs fun v hs =>
 lenV f2 hs fun m2 => wordV n (base + m + 3 + m1 + 3 + m2) hs fun w hs => cat2 v w hs fun v hs => cat2 v f2 hs K
theorem code_12 : codeV (n + 1) 12 one two octet q (.list [t1, t2]) base (hs7 h cs hr none) K =
  (ldV n one q true (hs7 h cs hr none) fun hd hs => (8 : Int) ≠ 0 /\ br (decide (octet.fmod 8 < 4))
   (doV n 193 allM two (q + 2) false hs fun v hs => at' (octet.fmod 8) 4 fun i => cat2 v (li [[144, 176, 240, 208].getD i 0, 3]) hs fun v hs => augV .Add hd v hs fun hd hs => tail12 n base t1 t2 hd hs (rC (hr.length + 2) K))
   (br (decide (octet.fmod 8 < 6)) (doV n 225 allM two (q + 2) false hs fun v hs => cat2 (li [56]) v hs fun v hs => at' (octet.fmod 8 - 4) 2 fun i => cat2 v (li [80, 2, 73, 128, [48, 16].getD i 0, 3]) hs fun v hs => augV .Add hd v hs fun hd hs => tail12 n base t1 t2 hd hs (rC (hr.length + 2) K))
    (at' (octet.fmod 8 - 6) 2 fun i => augV .Add hd (li [[240, 48].getD i 0, 3]) hs fun hd hs => tail12 n base t1 t2 hd hs (rC (hr.length + 2) K)))) := by kernel_rfl
theorem code_13 : codeV (n + 1) 13 one two octet q (.list [t1, t2]) base (hs7 h cs hr none) K =
  (ok1 0 2 <| subV n t1 (base + 4) (hs7 h cs hr none) fun f1 hs => ok1 1 2 <| lenV f1 hs fun m1 => subV n t2 (base + 4 + m1) hs fun f2 hs => (2 : Int) ≠ 0 /\
   cat2 (li [169, 2 + octet.fmod 2, 133, 8]) f1 hs fun v hs => cat2 v f2 hs fun v hs => cat2 v (li [198, 8, 240, 3, 76]) hs fun v hs => wordV n (base + 4) hs fun w hs => cat2 v w hs (rC (hr.length + 2) K)) := by kernel_rfl
end
set_option maxHeartbeats 0
noncomputable def fTree : Str := Str.ofString "_law_tree"
noncomputable def fPlay : Str := Str.ofString "_law_play"
noncomputable def pos3 (b : Int) (P : Prop) : Prop := (b ≠ 0 /\ b.natAbs < 1073741824) /\ P
section
variable (n : Nat) (K : KE)
@[irreducible] noncomputable def treeV (nums : List Int) (depth : Int) (hs : Hs) (K : KE) : Prop := callN PX7 n false false fTree [.d (.ints nums), .loc 0, .d (.int depth)] hs K
noncomputable def treeT (kind a x m : Int) (ps : D) (hs : Hs) (K : KE) : Prop := mulc 3 a /\ (8 : Int) ≠ 0 /\ pos3 8 ((8 : Int) ≠ 0 /\ pos3 64 (mulc 37 x /\ (256 : Int) ≠ 0 /\ pos3 16 (pos3 8
 (K (.d (.tup [.int kind, .int ((m + 3 * a).fmod 8), .int ((m.fdiv 8 + a).fmod 8), .int ((m.fdiv 64 + 37 * x + 11).fmod 256), .int (x.fdiv 16 + m.fdiv 8 + a), ps])) hs))))
noncomputable def andB (p q : Bool) (A B : Prop) : Prop := br p (br q A B) (br p A B)
theorem tree1 (nums : List Int) (a depth : Int) (hr : List D) : treeV (n + 1) nums depth ⟨.ints [a] :: hr, none⟩ K =
 ok1 0 1 (at' a nums.length fun i => at' (a + 1) nums.length fun j => ok1 0 1 (ok1 0 1 (pos3 2 (mulc 5 (a.fdiv 2) /\ (16 : Int) ≠ 0 /\
  (fun (x m : Int) (hs : Hs) => (fun kind : Int => andB (decide (11 < kind)) (depth == 0) (treeT (kind - 12) a x m (.ints []) hs K)
   (br (decide (11 < kind)) (andB (decide (13 < kind)) (depth == 2)
    (treeV n nums (depth - 1) hs fun u hs => treeV n nums (depth - 1) hs fun v hs => optP (asDs [u, v]) fun ds => treeT 13 a x m (mkList ds) hs K)
    (treeV n nums (depth - 1) hs fun u hs => treeV n nums (depth - 1) hs fun v hs => optP (asDs [u, v]) fun ds => treeT 12 a x m (mkList ds) hs K))
   (treeT kind a x m (.ints []) hs K))) ((x + 5 * a.fdiv 2).fmod 16)) (nums.getD i 0) (nums.getD j 0) ⟨.ints [a + 2] :: hr, none⟩)))) := by kernel_rfl
end
section
variable (n : Nat) (a b c d : D) (vs : List Int) (sn : Int) (mp : Option Loc) (K : KE)
noncomputable def hsP (a b : D) (vs : List Int) (c d : D) (sn : Int) (mp : Option Loc) : Hs := ⟨[a, b, .ints vs, c, d, .dict 511 sn], mp⟩
@[irreducible] noncomputable def playT (t : D) (hs : Hs) (K : KE) : Prop := callN PX7 n false false fPlay [.loc 2, .loc 5, .d t] hs K
noncomputable def playV (k one two octet q : Int) (ps : D) (hs : Hs) (K : KE) : Prop := playT n (.tup [.int k, .int one, .int two, .int octet, .int q, ps]) hs K
noncomputable def two2 (one two : Int) (vs : List Int) (k : Int -> Int -> Prop) : Prop := at' one vs.length fun i => at' two vs.length fun j => k (vs.getD i 0) (vs.getD j 0)
noncomputable def setP (i v : Int) (vs : List Int) (k : List Int -> Prop) : Prop := at' i vs.length fun j => k (vs.set j v)
variable (one two octet q : Int) (ps t1 t2 : D)
noncomputable def fin7 (a b c d : D) (sn : Int) (mp : Option Loc) (K : KE) (vs : List Int) : Prop := K (.d .none) (hsP a b vs c d sn mp)
noncomputable def sg (x : Int) (k : Int -> Prop) : Prop := br (decide (127 < x)) (k (x - 256)) (k x)
noncomputable def tests (x y l r : Int) : List D := [.bool (decide (x < y)), .bool (decide (y <= x)), .bool (x == y), .bool (x != y), .bool (decide (l < r)), .bool (decide (r <= l)), .bool (x == 0), .bool (decide (127 < x))]
theorem play_0 : playV (n + 1) 0 one two octet q ps (hsP a b vs c d sn mp) K =
  (two2 one two vs fun x y => setP one octet vs (fin7 a b c d sn mp K)) := by kernel_rfl
theorem play_1 : playV (n + 1) 1 one two octet q ps (hsP a b vs c d sn mp) K =
  (two2 one two vs fun x y => setP one y vs (fin7 a b c d sn mp K)) := by kernel_rfl
theorem play_5 : playV (n + 1) 5 one two octet q ps (hsP a b vs c d sn mp) K =
  (two2 one two vs fun x y => (256 : Int) ≠ 0 /\ setP one ((x + y).fmod 256) vs (fin7 a b c d sn mp K)) := by kernel_rfl
theorem play_6 : playV (n + 1) 6 one two octet q ps (hsP a b vs c d sn mp) K =
  (two2 one two vs fun x y => (256 : Int) ≠ 0 /\ setP one ((x + -y).fmod 256) vs (fin7 a b c d sn mp K)) := by kernel_rfl
noncomputable def if1 (b : Bool) (u v : Int) (k : Int -> Prop) : Prop := br b (k u) (k v)
noncomputable def play7 (x octet one two : Int) (enter : Int) (up : Bool) (vs : List Int) (F : List Int -> Prop) : Prop :=
 (fun k : Int -> Prop => br up (pos3 128 (k (x.fdiv 128))) ((2 : Int) ≠ 0 /\ k (x.fmod 2))) fun out =>
 (fun k : Int -> Prop => br up (mulc x 2 /\ (256 : Int) ≠ 0 /\ k ((x * 2).fmod 256 + enter)) (pos3 2 (mulc 128 enter /\ k (x.fdiv 2 + 128 * enter)))) fun w => setP one w vs fun vs =>
 (fun k : Int -> Prop => br up (at' two vs.length fun j => mulc (vs.getD j 0) 2 /\ (256 : Int) ≠ 0 /\ k ((vs.getD j 0 * 2).fmod 256 + out)) (at' two vs.length fun j => pos3 2 (mulc 128 out /\ k ((vs.getD j 0).fdiv 2 + 128 * out)))) fun w => setP two w vs F
theorem play_7 : playV (n + 1) 7 one two octet q ps (hsP a b vs c d sn mp) K =
  (two2 one two vs fun x y => (2 : Int) ≠ 0 /\ (fun k : Int -> Prop => br (octet.fmod 2 == 1) (pos3 4 ((2 : Int) ≠ 0 /\ k ((octet.fdiv 4).fmod 2))) (k 0)) fun enter => (4 : Int) ≠ 0 /\ play7 x octet one two enter (decide (octet.fmod 4 < 2)) vs (fin7 a b c d sn mp K)) := by kernel_rfl
theorem play_8 : playV (n + 1) 8 one two octet q ps (hsP a b vs c d sn mp) K =
  (two2 one two vs fun x y => (2 : Int) ≠ 0 /\ if1 (octet.fmod 2 == 1) 1 (-1) fun w => (256 : Int) ≠ 0 /\ setP one ((x + w).fmod 256) vs (fin7 a b c d sn mp K)) := by kernel_rfl
theorem play_9 : playV (n + 1) 9 one two octet q ps (hsP a b vs c d sn mp) K =
  (two2 one two vs fun x y => (511 : Int) = 511 /\ setP one y vs fun vs => setP two x vs (fin7 a b c d x mp K)) := by kernel_rfl
theorem play_10 : playV (n + 1) 10 one two octet q ps (hsP a b vs c d sn mp) K =
  (two2 one two vs fun x y => (2 : Int) ≠ 0 /\ if1 (octet.fmod 2 == 0) 1 (-1) fun w => (256 : Int) ≠ 0 /\ setP one ((y + w).fmod 256) vs (fin7 a b c d sn mp K)) := by kernel_rfl
theorem play_11 : playV (n + 1) 11 one two octet q ps (hsP a b vs c d sn mp) K =
  (two2 one two vs fun x y => (2 : Int) ≠ 0 /\ if1 (octet.fmod 2 == 0) 1 (-1) fun s => mulc s y /\ (256 : Int) ≠ 0 /\ setP one ((x + s * y).fmod 256) vs fun vs => (8 : Int) ≠ 0 /\ (8 : Int) ≠ 0 /\ two2 ((one + 1).fmod 8) ((two + 1).fmod 8) vs fun x2 y2 => mulc s y2 /\ pos3 256 ((256 : Int) ≠ 0 /\ setP ((one + 1).fmod 8) ((x2 + s * y2 + (x + s * y).fdiv 256).fmod 256) vs (fin7 a b c d sn mp K))) := by kernel_rfl
theorem play_12 : playV (n + 2) 12 one two octet q (.list [t1, t2]) (hsP a b vs c d sn mp) K =
  (two2 one two vs fun x y => sg x fun l => sg y fun r => (8 : Int) ≠ 0 /\ at' (octet.fmod 8) 8 fun i => optP (truthB ((tests x y l r).getD i .none)) fun h => br h (ok1 0 2 (playT (n + 1) t1 (hsP a b vs c d sn mp) fun _ hs => K (.d .none) hs)) (ok1 1 2 (playT (n + 1) t2 (hsP a b vs c d sn mp) fun _ hs => K (.d .none) hs))) := by kernel_rfl
end
set_option maxHeartbeats 0
noncomputable def ifAt : List Stmt -> List Stmt × List Stmt
 | .If _ x y _ :: _ => (x, y)
 | _ => ([], [])
noncomputable def elsN : Nat -> List Stmt -> List Stmt
 | 0, b => b
 | k + 1, b => elsN k (ifAt b).2
noncomputable def forPart : List Stmt -> Option (Expr × Expr × List Stmt)
 | .For t it b _ _ :: _ => some (t, it, b)
 | _ :: r => forPart r
 | [] => none
noncomputable def forAt (b : List Stmt) : Expr × Expr × List Stmt := (forPart b).getD (.Name "x" default, .Name "x" default, [])
noncomputable def behind (rs : RecS) (r : List Stmt) (K : KS) : KS := fun f loc hs => match f with
 | .next => exL rs r loc hs K
 | .brk => K .brk loc hs
 | .ret v => K (.ret v) loc hs
@[irreducible] noncomputable def turn7 (x : Str) (n dep : Nat) (F : Expr × Expr × List Stmt) (g : Option (Nat × D)) (K : KS) (is : List D) (loc : Loc) (hs : Hs) : Prop :=
 forL (fun d loc hs k => asg (fn7 x).scope.names (ev7 x n false) F.1 (.d d) loc hs k) (exL (rs7 x false n dep) F.2.2) g K is loc hs
noncomputable def rangeD (k : Int) : List D := (List.range k.toNat).map fun (i : Nat) => D.int i
section
variable (n : Nat) (a b c d : D) (vs : List Int) (sn : Int) (mp : Option Loc) (K : KE) (one two octet q : Int) (ps t1 t2 : D) (k x y : Int)
noncomputable def locP (k one two octet q : Int) (ps : D) (x y : Int) (tl : Loc) : Loc := ("values", .loc 2) :: ("seen", .loc 5) :: ("tree", .d (.tup [.int k, .int one, .int two, .int octet, .int q, ps])) ::
 ("kind", .d (.int k)) :: ("one", .d (.int one)) :: ("two", .d (.int two)) :: ("octet", .d (.int octet)) :: ("q", .d (.int q)) :: ("parts", .d ps) :: ("mine", .d (.int x)) :: ("other", .d (.int y)) :: tl
noncomputable def fP : Expr × Expr × List Stmt := forAt (ifAt (elsN 1 (bd7 fPlay 2))).1
noncomputable def nestP (n : Nat) (K : KE) : Nat -> KS
 | 0 => out7 false 6 K
 | j + 1 => behind (rs7 fPlay false n (12 - j)) [] (nestP n K j)
theorem play_13 : playV (n + 1) 13 one two octet q ps (hsP a b vs c d sn mp) K =
  (two2 one two vs fun x y => (2 : Int) ≠ 0 /\ small (2 + octet.fmod 2) /\ small (2 + octet.fmod 2) /\ turn7 fPlay n 9 fP none (nestP n K 3) (rangeD (2 + octet.fmod 2)) (locP 13 one two octet q ps x y []) (hsP a b vs c d sn mp)) := by kernel_rfl
theorem play_13a (KL : KS) (u : Int) (r : List D) (hs : Hs) : turn7 fPlay n 9 fP none KL (.int u :: r) (locP 13 one two octet q (.list [t1, t2]) x y []) hs =
  (True /\ ok1 0 2 (playT n t1 hs fun _ hs => ok1 1 2 (playT n t2 hs fun _ hs => turn7 fPlay n 9 fP none KL r (locP 13 one two octet q (.list [t1, t2]) x y [("turn", .d (.int u))]) hs))) := by kernel_rfl
theorem play_13b (KL : KS) (u : Int) (w : V) (r : List D) (hs : Hs) : turn7 fPlay n 9 fP none KL (.int u :: r) (locP 13 one two octet q (.list [t1, t2]) x y [("turn", w)]) hs =
  (True /\ ok1 0 2 (playT n t1 hs fun _ hs => ok1 1 2 (playT n t2 hs fun _ hs => turn7 fPlay n 9 fP none KL r (locP 13 one two octet q (.list [t1, t2]) x y [("turn", .d (.int u))]) hs))) := by kernel_rfl
theorem play_13c (w : V) (hs : Hs) : turn7 fPlay n 9 fP none (nestP n K 3) [] (locP 13 one two octet q ps x y [("turn", w)]) hs = (True /\ K (.d .none) hs) := by kernel_rfl
end
set_option maxHeartbeats 0
noncomputable def bitP (x : Int) (e : Int) (k : Int -> Prop) : Prop := (0 <= e /\ e <= 1000 /\ (2 : Int).natAbs < 2 ^ 62) /\ ((2 : Int) ^ e.toNat ≠ 0 /\ ((2 : Int) ^ e.toNat).natAbs < 1073741824) /\ (2 : Int) ≠ 0 /\ k ((x.fdiv (2 ^ e.toNat)).fmod 2)
noncomputable def powR (b e : Int) (k : Int -> Prop) : Prop := (0 <= e /\ e <= 1000 /\ (2 : Int).natAbs < 2 ^ 62) /\ mulc b (2 ^ e.toNat) /\ k (b * 2 ^ e.toNat)
noncomputable def mixL (u v : Int) : List Int := [if u < v then v else u, if v < u then v else u, (u + v).fmod 2]
noncomputable def pairR (x y : Int) (KD : List (Int × Int) -> Prop) : List Int -> List (Int × Int) -> Prop
 | [], acc => True /\ KD acc.reverse
 | e :: r, acc => True /\ bitP x e fun u => bitP y e fun v => pairR x y KD r ((u, v) :: acc)
noncomputable def mixR (k : Int) (KD : List Int -> Prop) : List (Int × Int) -> List Int -> Prop
 | [], acc => True /\ KD acc.reverse
 | p :: r, acc => True /\ (2 : Int) ≠ 0 /\ at' (k - 2) 3 fun i => mixR k KD r ((mixL p.1 p.2).getD i 0 :: acc)
noncomputable def sumR (KD : List Int -> Prop) : Int -> List Int -> List Int -> Prop
 | _, [], acc => True /\ KD acc.reverse
 | e, b :: r, acc => True /\ powR b e fun w => sumR KD (e + 1) r (w :: acc)
section
variable (n : Nat) (a b c d : D) (vs : List Int) (sn : Int) (mp : Option Loc) (K : KE) (one two octet q : Int) (ps : D)
theorem play_2 (k : Int) (h : k = 2 \/ k = 3 \/ k = 4) : playV (n + 1) k one two octet q ps (hsP a b vs c d sn mp) K =
  (two2 one two vs fun x y => small 8 /\ small 8 /\ (8 <= lim /\ pairR x y (fun ps => True /\ (8 <= lim /\ mixR k (fun bs => 8 <= lim /\ sumR (fun ws => 8 <= lim /\ setP one ws.sum vs (fin7 a b c d sn mp K)) 0 bs []) ps [])) [0, 1, 2, 3, 4, 5, 6, 7] [])) := by
 rcases h with h | h | h <;> subst h <;> kernel_rfl
end
set_option maxHeartbeats 0
noncomputable def tlN : Option Int -> Loc
 | none => []
 | some w => [("n", .d (.int w))]
noncomputable def locL (xs : List Int) (t : Int) (o : Option Int) (tl : Loc) : Loc := ("script", .d (.arg xs)) :: ("total", .d (.int t)) :: (tlN o ++ tl)
noncomputable def compR : List Stmt -> Expr × List Comprehension × Scope
 | .Assign _ (.BinOp _ _ r _) _ :: _ => (compPart r).getD (.Name "x" default, [], default)
 | _ => (.Name "x" default, [], default)
noncomputable def fL (i : Nat) : Expr × Expr × List Stmt := forAt (bd7 nm7 i)
@[irreducible] noncomputable def exB (n i : Nat) (loc : Loc) (hs : Hs) (K : KE) : Prop := exL (rs7 nm7 false n 12) (bd7 nm7 i) loc hs (out7 false 0 K)
@[irreducible] noncomputable def bhB (n i : Nat) (K : KE) : KS := behind (rs7 nm7 false n 12) (bd7 nm7 i) (out7 false 0 K)
noncomputable def cL2 : Expr × List Comprehension × Scope := compR (bd7 nm7 2)
noncomputable def cL4 : Expr × List Comprehension × Scope := compAt (bd7 nm7 4)
noncomputable def cL6 : Expr × List Comprehension × Scope := compAt (bd7 nm7 6)
noncomputable def cL8 : Expr × List Comprehension × Scope := compAt (bd7 nm7 8)
noncomputable def latL (c : Expr × List Comprehension × Scope) (l tl : Loc) : Loc := dropNames c.2.2.names l ++ tl
noncomputable def tlB (nums : List Int) (ts : D) (tl : Loc) : Loc := ("numbers", .d (.ints nums)) :: ("at", .loc 0) :: ("trees", .d ts) :: tl
noncomputable def tlC (nums : List Int) (ts : D) (pg : Int) (tl : Loc) : Loc := tlB nums ts (("page", .d (.int pg)) :: ("cells", .loc 1) :: tl)
section
variable (n : Nat) (K : KE) (xs nums c4 cs vs m : List Int) (t : Int) (o : Option Int) (u v : Int) (r acc : List D) (hs : Hs) (KL : KS) (ts A : D) (pg : Int) (KD : List D -> Hs -> Prop) (w : V)
theorem l1 : callN PX7 (n + 1) false false nm7 [.d (.arg xs)] ⟨[], none⟩ K = (xs.length <= lim /\ True /\ turn7 nm7 n 11 (fL 1) none (bhB n 2 K) ((cut xs none (some 40)).map .int) (locL xs 0 none []) ⟨[], none⟩) := by kernel_rfl
theorem l1a : turn7 nm7 n 11 (fL 1) none KL (.int v :: r) (locL xs t o []) hs = (True /\ mulc 31 t /\ (1000003 : Int) ≠ 0 /\ turn7 nm7 n 11 (fL 1) none KL r (locL xs ((31 * t + v).fmod 1000003) (some v) []) hs) := by cases o <;> kernel_rfl
theorem l1b : turn7 nm7 n 11 (fL 1) none (bhB n 2 K) [] (locL xs t o []) hs = (True /\ exB n 2 (locL xs t o []) hs K) := by kernel_rfl
theorem l2 : exB n 2 (locL xs t o []) hs K = (xs.length <= lim /\ small 60 /\ small 60 /\ (60 <= lim /\ cmp7 nm7 n 38 cL2 none (fun ds hs => binOpV .Add false (.d (.ints (cut xs none (some 40)))) (.d (mkList ds)) hs fun v hs => exB n 3 (locL xs t o [("numbers", v)]) hs K)
  (rangeD 60) (latL cL2 (locL xs t o []) []) hs [])) := by cases o <;> kernel_rfl
theorem l2a : cmp7 nm7 n 38 cL2 none KD (.int u :: r) (latL cL2 (locL xs t o []) []) hs acc = (True /\ mulc 7 u /\ cmp7 nm7 n 38 cL2 none KD r (latL cL2 (locL xs t o []) [("spot", .d (.int u))]) hs (.int (t + 7 * u) :: acc)) := by cases o <;> kernel_rfl
theorem l2b : cmp7 nm7 n 38 cL2 none KD (.int u :: r) (latL cL2 (locL xs t o []) [("spot", w)]) hs acc = (True /\ mulc 7 u /\ cmp7 nm7 n 38 cL2 none KD r (latL cL2 (locL xs t o []) [("spot", .d (.int u))]) hs (.int (t + 7 * u) :: acc)) := by cases o <;> kernel_rfl
theorem l3 : exB n 3 (locL xs t o [("numbers", .d (.ints nums))]) ⟨[], none⟩ K = (small 3 /\ small 3 /\ (3 <= lim /\ cmp7 nm7 n 39 cL4 none (fun ds hs => exB n 5 (locL xs t o (tlB nums (mkList ds) [])) hs K)
  (rangeD 3) (latL cL4 (locL xs t o [("numbers", .d (.ints nums)), ("at", .loc 0)]) []) ⟨[.ints [0]], none⟩ [])) := by cases o <;> kernel_rfl
theorem l3a : cmp7 nm7 n 39 cL4 none KD (.int u :: r) (latL cL4 (locL xs t o [("numbers", .d (.ints nums)), ("at", .loc 0)]) []) hs acc =
  (True /\ treeV n nums 2 hs fun v hs => optP v.d? fun y => cmp7 nm7 n 39 cL4 none KD r (latL cL4 (locL xs t o [("numbers", .d (.ints nums)), ("at", .loc 0)]) [("turn", .d (.int u))]) hs (y :: acc)) := by cases o <;> kernel_rfl
theorem l3b : cmp7 nm7 n 39 cL4 none KD (.int u :: r) (latL cL4 (locL xs t o [("numbers", .d (.ints nums)), ("at", .loc 0)]) [("turn", w)]) hs acc =
  (True /\ treeV n nums 2 hs fun v hs => optP v.d? fun y => cmp7 nm7 n 39 cL4 none KD r (latL cL4 (locL xs t o [("numbers", .d (.ints nums)), ("at", .loc 0)]) [("turn", .d (.int u))]) hs (y :: acc)) := by cases o <;> kernel_rfl
theorem l5 : exB n 5 (locL xs t o (tlB nums ts [])) ⟨[A], none⟩ K = ((40 : Int) ≠ 0 /\ mulc 256 (t.fmod 40) /\ small 4 /\ small 4 /\ (4 <= lim /\
  cmp7 nm7 n 39 cL6 none (fun ds hs => exB n 7 (locL xs t o (tlB nums ts [("page", .d (.int (4096 + 256 * t.fmod 40))), ("cells", .loc hs.hp.length)])) ⟨hs.hp ++ [mkList ds], hs.mp⟩ K) (rangeD 4) (latL cL6 (locL xs t o (tlB nums ts [("page", .d (.int (4096 + 256 * t.fmod 40)))])) []) ⟨[A], none⟩ [])) := by cases o <;> kernel_rfl
theorem l5a : cmp7 nm7 n 39 cL6 none KD (.int u :: r) (latL cL6 (locL xs t o (tlB nums ts [("page", .d (.int pg))])) []) hs acc = (True /\ (100 : Int) ≠ 0 /\ cmp7 nm7 n 39 cL6 none KD r (latL cL6 (locL xs t o (tlB nums ts [("page", .d (.int pg))])) [("spot", .d (.int u))]) hs (.int (20 + t.fmod 100 + u) :: acc)) := by cases o <;> kernel_rfl
theorem l5b : cmp7 nm7 n 39 cL6 none KD (.int u :: r) (latL cL6 (locL xs t o (tlB nums ts [("page", .d (.int pg))])) [("spot", w)]) hs acc = (True /\ (100 : Int) ≠ 0 /\ cmp7 nm7 n 39 cL6 none KD r (latL cL6 (locL xs t o (tlB nums ts [("page", .d (.int pg))])) [("spot", .d (.int u))]) hs (.int (20 + t.fmod 100 + u) :: acc)) := by cases o <;> kernel_rfl
noncomputable def more (t pg : Int) : List Int := [65535 - t.fmod 5, pg + 255, pg + 256, 300 + t.fmod 100]
theorem l7 : exB n 7 (locL xs t o (tlC nums ts pg [])) ⟨[A, .ints c4], none⟩ K = ((5 : Int) ≠ 0 /\ (100 : Int) ≠ 0 /\ ((c4 ++ more t pg).length <= lim /\ small 8 /\ small 8 /\ (8 <= lim /\
  cmp7 nm7 n 39 cL8 none (fun ds hs => exB n 9 (locL xs t o (tlC nums ts pg [("values", .loc hs.hp.length)])) ⟨hs.hp ++ [mkList ds], hs.mp⟩ K) (rangeD 8) (latL cL8 (locL xs t o (tlC nums ts pg [])) []) ⟨[A, .ints (c4 ++ more t pg)], none⟩ []))) := by cases o <;> kernel_rfl
noncomputable def posd (b : Int) (P : Prop) : Prop := (b ≠ 0 /\ b.natAbs < 1073741824) /\ P
theorem l7a : cmp7 nm7 n 39 cL8 none KD (.int u :: r) (latL cL8 (locL xs t o (tlC nums ts pg [])) []) hs acc =
  (True /\ posd (u + 1) (mulc 67 u /\ (256 : Int) ≠ 0 /\ cmp7 nm7 n 39 cL8 none KD r (latL cL8 (locL xs t o (tlC nums ts pg [])) [("spot", .d (.int u))]) hs (.int ((t.fdiv (u + 1) + 67 * u).fmod 256) :: acc))) := by cases o <;> kernel_rfl
theorem l7b : cmp7 nm7 n 39 cL8 none KD (.int u :: r) (latL cL8 (locL xs t o (tlC nums ts pg [])) [("spot", w)]) hs acc =
  (True /\ posd (u + 1) (mulc 67 u /\ (256 : Int) ≠ 0 /\ cmp7 nm7 n 39 cL8 none KD r (latL cL8 (locL xs t o (tlC nums ts pg [])) [("spot", .d (.int u))]) hs (.int ((t.fdiv (u + 1) + 67 * u).fmod 256) :: acc))) := by cases o <;> kernel_rfl
noncomputable def tlD (nums : List Int) (ts : D) (pg : Int) (tl : Loc) : Loc := tlC nums ts pg (("values", .loc 2) :: ("memory", .loc 3) :: tl)
noncomputable def hsM (A : D) (cs vs m : List Int) : Hs := ⟨[A, .ints cs, .ints vs, .ints m], none⟩
theorem l9 : exB n 9 (locL xs t o (tlC nums ts pg [("values", .loc 2)])) ⟨[A, .ints cs, .ints vs], none⟩ K =
  ((0 <= (65536 : Int) /\ 65536 <= (lim : Int) /\ [(0 : Int)].length * (65536 : Int).toNat <= lim) /\ small 8 /\ small 8 /\ turn7 nm7 n 11 (fL 10) none (bhB n 11 K) (rangeD 8) (locL xs t o (tlD nums ts pg [])) (hsM A cs vs (rep 65536 [0]))) := by cases o <;> kernel_rfl
noncomputable def wrM (m : List Int) (i v : Int) (k : List Int -> Prop) : Prop := at' i m.length fun j => k (m.set j v)
noncomputable def layC (n : Nat) (cs vs m : List Int) (u : Int) (k : List Int -> Prop) : Prop := at' u vs.length fun i => at' u cs.length fun j => wrM m (cs.getD j 0) (vs.getD i 0) fun m => mulc 2 u /\ (256 : Int) ≠ 0 /\ at' u cs.length fun j =>
 (256 : Int) ≠ 0 /\ ((256 : Int) ≠ 0 /\ (256 : Int).natAbs < 1073741824) /\ wrM m ((241 + 2 * u).fmod 256) ((cs.getD j 0).fmod 256) fun m => (256 : Int) ≠ 0 /\ wrM m (((241 + 2 * u).fmod 256 + 1).fmod 256) ((cs.getD j 0).fdiv 256) fun m =>
 at' u cs.length fun j => mulc 31 u /\ (65536 : Int) ≠ 0 /\ (256 : Int) ≠ 0 /\ ((256 : Int) ≠ 0 /\ (256 : Int).natAbs < 1073741824) /\ mulc 2 u /\ mulc 2 u /\ (m.length + 2 <= lim /\
 k (splice m (some (160 + 2 * u)) (some (162 + 2 * u)) [((cs.getD j 0 - 31 * u - 9).fmod 65536).fmod 256, ((cs.getD j 0 - 31 * u - 9).fmod 65536).fdiv 256]))
theorem l9a : turn7 nm7 (n + 1) 11 (fL 10) none KL (.int u :: r) (locL xs t o (tlD nums ts pg [])) (hsM A cs vs m) = (True /\ layC n cs vs m u fun m =>
  turn7 nm7 (n + 1) 11 (fL 10) none KL r (locL xs t o (tlD nums ts pg [("cell", .d (.int u)), ("pointer", .d (.int ((241 + 2 * u).fmod 256)))])) (hsM A cs vs m)) := by cases o <;> kernel_rfl
theorem l9b (w' : V) : turn7 nm7 (n + 1) 11 (fL 10) none KL (.int u :: r) (locL xs t o (tlD nums ts pg [("cell", w), ("pointer", w')])) (hsM A cs vs m) = (True /\ layC n cs vs m u fun m =>
  turn7 nm7 (n + 1) 11 (fL 10) none KL r (locL xs t o (tlD nums ts pg [("cell", .d (.int u)), ("pointer", .d (.int ((241 + 2 * u).fmod 256)))])) (hsM A cs vs m)) := by cases o <;> kernel_rfl
end
set_option maxHeartbeats 0
noncomputable def tlE (nums : List Int) (ts : D) (pg ce po en st : Int) (tl : Loc) : Loc := tlD nums ts pg (("cell", .d (.int ce)) :: ("pointer", .d (.int po)) :: ("end", .d (.int en)) :: ("start", .d (.int st)) :: tl)
noncomputable def tlT (t code : D) (tl : Loc) : Loc := ("tree", .d t) :: ("code", .d code) :: tl
noncomputable def hs8 (A : D) (cs vs : List Int) (b : List Int) (st : Int) (σ : Cpu) (r : List D) : Hs := ⟨A :: .ints cs :: .ints vs :: .ints σ.m :: .ints b :: r, some (flds 3 st σ)⟩
noncomputable def shc (a b : Int) : Prop := 0 <= b /\ b <= 1000 /\ a.natAbs < 2 ^ 62
noncomputable def cpu7 (m : List Int) (st : Int) : Cpu := ⟨m, st, 255, 0, 0, 0, 48, 0, .d (.bool false), 0⟩
section
variable (n : Nat) (K : KE) (xs nums cs vs m b l : List Int) (t : Int) (o : Option Int) (u v : Int) (r : List D) (hs : Hs) (KL : KS) (ts A tr cd tr' cd' : D) (pg ce po en st sn : Int) (w : V) (σ : Cpu)
theorem l11 : bhB n 11 K .next (locL xs t o (tlD nums ts pg [("cell", .d (.int ce)), ("pointer", .d (.int po))])) (hsM A cs vs m) = ((40000 : Int) ≠ 0 /\ exB n 13 (locL xs t o (tlE nums ts pg ce po (20000 + t.fmod 40000) (20000 + t.fmod 40000) [])) (hsM A cs vs m) K) := by cases o <;> kernel_rfl
theorem l13 : exB n 13 (locL xs t o (tlE nums (.list r) pg ce po en st [])) hs K = (True /\ turn7 nm7 n 11 (fL 13) none (bhB n 14 K) r (locL xs t o (tlE nums (.list r) pg ce po en st [])) hs) := by cases o <;> kernel_rfl
noncomputable def layT (n : Nat) (tr : D) (en : Int) (A : D) (cs vs m : List Int) (k : List Int -> List Int -> Prop) : Prop := subV n tr en (hsM A cs vs m) fun v hs => lenV v hs fun j => setSliceV (.loc 3) (some (.d (.int en))) (some (.d (.int (en + j)))) v hs fun hs =>
 optP (deref hs v).ints? fun l => optP (hs.hp.getD 3 .none).ints? fun m => k l m
theorem l13a : turn7 nm7 n 11 (fL 13) none KL (tr :: r) (locL xs t o (tlE nums ts pg ce po en st [])) (hsM A cs vs m) = (True /\ subV n tr en (hsM A cs vs m) fun v hs => lenV v hs fun j => setSliceV (.loc 3) (some (.d (.int en))) (some (.d (.int (en + j)))) v hs fun hs =>
  lenV v hs fun j => turn7 nm7 n 11 (fL 13) none KL r (locL xs t o (tlE nums ts pg ce po (en + j) st [("tree", .d tr), ("code", v)])) hs) := by cases o <;> kernel_rfl
theorem l13b (w' : V) : turn7 nm7 n 11 (fL 13) none KL (tr :: r) (locL xs t o (tlE nums ts pg ce po en st [("tree", w), ("code", w')])) (hsM A cs vs m) = (True /\ subV n tr en (hsM A cs vs m) fun v hs => lenV v hs fun j => setSliceV (.loc 3) (some (.d (.int en))) (some (.d (.int (en + j)))) v hs fun hs =>
  lenV v hs fun j => turn7 nm7 n 11 (fL 13) none KL r (locL xs t o (tlE nums ts pg ce po (en + j) st [("tree", .d tr), ("code", v)])) hs) := by cases o <;> kernel_rfl
theorem l14 : bhB (n + 8) 14 K .next (locL xs t o (tlE nums ts pg ce po en st (tlT tr cd []))) (hsM A cs vs m) = (m.length <= lim /\ shc 1 8 /\ shc 1 16 /\ shc 255 8 /\ shc 1 8 /\ small 900 /\ small 900 /\
  turn7 nm7 (n + 8) 11 (fL 16) none (bhB (n + 8) 17 K) (rangeD 900) (locL xs t o (tlE nums ts pg ce po en st (tlT tr cd [("plain", .loc 4), ("mpu", .d .mpu)]))) (hs8 A cs vs (cut m none none) st (cpu7 m st) [])) := by cases o <;> kernel_rfl
noncomputable def tlU (tr cd : D) (u : Option Int) (tl : Loc) : Loc := tlT tr cd (("plain", .loc 4) :: ("mpu", .d .mpu) :: ((match u with | none => [] | some u => [("turn", .d (.int u))]) ++ tl))
theorem l16a (u₀ : Option Int) : turn7 nm7 (n + 8) 11 (fL 16) none KL (.int u :: r) (locL xs t o (tlE nums ts pg ce po en st (tlU tr cd u₀ []))) (hs8 A cs vs b st σ []) =
  (True /\ br (σ.pc == en) (KL .next (locL xs t o (tlE nums ts pg ce po en st (tlU tr cd (some u) []))) (hs8 A cs vs b st σ []))
   (callN PX7 (n + 8) false true "step" [.d .mpu] (hs8 A cs vs b st σ []) fun _ hs => turn7 nm7 (n + 8) 11 (fL 16) none KL r (locL xs t o (tlE nums ts pg ce po en st (tlU tr cd (some u) []))) hs)) := by cases o <;> cases u₀ <;> kernel_rfl
theorem l17 : bhB n 17 K .next (locL xs t o (tlE nums (.list r) pg ce po en st (tlU tr cd (some u) []))) (hs8 A cs vs b st σ []) =
  (True /\ turn7 nm7 n 11 (fL 18) none (bhB n 19 K) r (locL xs t o (tlE nums (.list r) pg ce po en st (tlU tr cd (some u) [("seen", .loc 5)]))) (hs8 A cs vs b st σ [.dict 511 0])) := by cases o <;> kernel_rfl
theorem l18a : turn7 nm7 n 11 (fL 18) none KL (tr' :: r) (locL xs t o (tlE nums ts pg ce po en st (tlU tr cd (some u) [("seen", .loc 5)]))) hs =
  (True /\ playT n tr' hs fun _ hs => turn7 nm7 n 11 (fL 18) none KL r (locL xs t o (tlE nums ts pg ce po en st (tlU tr' cd (some u) [("seen", .loc 5)]))) hs) := by cases o <;> kernel_rfl
theorem l19 : bhB n 19 K .next (locL xs t o (tlE nums ts pg ce po en st (tlU tr cd (some u) [("seen", .loc 5)]))) (hs8 A cs vs b st σ [.dict 511 sn]) =
  ((511 : Int) = 511 /\ wrM b 511 sn fun b => small 8 /\ small 8 /\ turn7 nm7 n 11 (fL 20) none (bhB n 21 K) (rangeD 8) (locL xs t o (tlE nums ts pg ce po en st (tlU tr cd (some u) [("seen", .loc 5)]))) (hs8 A cs vs b st σ [.dict 511 sn])) := by cases o <;> kernel_rfl
theorem l20a : turn7 nm7 n 11 (fL 20) none KL (.int v :: r) (locL xs t o (tlE nums ts pg ce po en st (tlU tr cd (some u) [("seen", .loc 5)]))) (hs8 A cs vs b st σ [.dict 511 sn]) =
  (True /\ at' v vs.length fun i => at' v cs.length fun j => wrM b (cs.getD j 0) (vs.getD i 0) fun b => turn7 nm7 n 11 (fL 20) none KL r (locL xs t o (tlE nums ts pg v po en st (tlU tr cd (some u) [("seen", .loc 5)]))) (hs8 A cs vs b st σ [.dict 511 sn])) := by cases o <;> kernel_rfl
theorem l21 : bhB n 21 K .next (locL xs t o (tlE nums ts pg ce po en st (tlU tr cd (some u) [("seen", .loc 5)]))) (hs8 A cs vs b st σ [.dict 511 sn]) =
  br (σ.pc == en) (br (σ.sp == 255) (K (.d (.bool (decide (σ.m = b)))) (hs8 A cs vs b st σ [.dict 511 sn])) (K (.d (.bool (σ.sp == 255))) (hs8 A cs vs b st σ [.dict 511 sn]))) (K (.d (.bool (σ.pc == en))) (hs8 A cs vs b st σ [.dict 511 sn])) := by cases o <;> kernel_rfl
end
end Mine
namespace Mine
open PySem PySem.W PySem.Calls PyProof.Rows Builtin
set_option maxHeartbeats 0
theorem step0 (d : Nat) (A : D) (cs vs b : List Int) (st : Int) (r : List D) (σ : Cpu) (K : KE) : callN PX7 (d + 8) false true "step" [.d .mpu] (hs8 A cs vs b st σ r) K = rd σ.m σ.pc fun op => stepR PX7 d (hs8 A cs vs b st σ r) op K := by kernel_rfl
theorem stepT (d : Nat) (A : D) (cs vs b : List Int) (st : Int) (r : List D) (σ : Cpu) (K : KE) : (codes7.map fun e => stepR PX7 d (hs8 A cs vs b st σ r) e.1 K) = codes7.map fun e => e.2 σ fun σ => K (.d .mpu) (hs8 A cs vs b st σ r) := by kernel_rfl
theorem cut0 {P : Nat -> Prop} : ∀ j, j < 0 -> P j := fun j h => absurd h (Nat.not_lt_zero j)
theorem cutS {P : Nat -> Prop} {n : Nat} (h : ∀ j, j < n -> P j) (hn : P n) : ∀ j, j < n + 1 -> P j := fun j hj => (Nat.lt_succ_iff_lt_or_eq.mp hj).elim (h j) fun e => e ▸ hn
theorem of2 {P : Nat -> Prop} (h0 : P 0) (h1 : P 1) {j : Nat} : j < 2 -> P j := cutS (cutS cut0 h0) h1 j
theorem of3 {P : Nat -> Prop} (h0 : P 0) (h1 : P 1) (h2 : P 2) {j : Nat} : j < 3 -> P j := cutS (cutS (cutS cut0 h0) h1) h2 j
theorem of4 {P : Nat -> Prop} (h0 : P 0) (h1 : P 1) (h2 : P 2) (h3 : P 3) {j : Nat} : j < 4 -> P j := cutS (cutS (cutS (cutS cut0 h0) h1) h2) h3 j
theorem of8 {P : Nat -> Prop} (h0 : P 0) (h1 : P 1) (h2 : P 2) (h3 : P 3) (h4 : P 4) (h5 : P 5) (h6 : P 6) (h7 : P 7) {j : Nat} : j < 8 -> P j :=
 cutS (cutS (cutS (cutS (cutS (cutS (cutS (cutS cut0 h0) h1) h2) h3) h4) h5) h6) h7 j
theorem of12 {P : Nat -> Prop} (h0 : P 0) (h1 : P 1) (h2 : P 2) (h3 : P 3) (h4 : P 4) (h5 : P 5) (h6 : P 6) (h7 : P 7) (h8 : P 8) (h9 : P 9) (h10 : P 10) (h11 : P 11) {j : Nat} : j < 12 -> P j :=
 cutS (cutS (cutS (cutS (cutS (cutS (cutS (cutS (cutS (cutS (cutS (cutS cut0 h0) h1) h2) h3) h4) h5) h6) h7) h8) h9) h10) h11 j
theorem oct {P : Int -> Bool} (h : (List.range 256).all (fun n => P (n : Nat)) = true) {v : Int} (h0 : 0 <= v) (h1 : v < 256) : P v = true := by
 have := List.all_eq_true.mp h v.toNat (by simp; omega)
 rwa [Int.toNat_of_nonneg h0] at this
theorem and128 {v : Int} (h0 : 0 <= v) (h1 : v < 256) : bitAnd v 128 = if 128 <= v then 128 else 0 := by
 have := oct (P := fun v => decide (bitAnd v 128 = if 128 <= v then 128 else 0)) (by decide +kernel) h0 h1
 simpa using this
noncomputable def pk (p : Int) : Bool × Bool × Bool × Bool := (bitAnd p 1 != 0, bitAnd p 2 != 0, bitAnd p 128 != 0, bitAnd p 64 != 0)
structure Pok (p : Int) (c z n v : Bool) : Prop where
 lo : 0 <= p
 hi : p < 256
 d : bitAnd p 8 = 0
 fl : pk p = (c, z, n, v)
theorem pok_map {f : Int -> Int} {g : Bool × Bool × Bool × Bool -> Bool × Bool × Bool × Bool} (h : (List.range 256).all (fun n => (fun p : Int => decide (bitAnd p 8 ≠ 0) || decide (0 <= f p /\ f p < 256 /\ bitAnd (f p) 8 = 0 /\ pk (f p) = g (pk p))) (n : Nat)) = true)
  {p : Int} {c z n v c' z' n' v' : Bool} (P : Pok p c z n v) (hg : g (c, z, n, v) = (c', z', n', v')) : Pok (f p) c' z' n' v' := by
 have := oct (P := fun p : Int => decide (bitAnd p 8 ≠ 0) || decide (0 <= f p /\ f p < 256 /\ bitAnd (f p) 8 = 0 /\ pk (f p) = g (pk p))) h P.lo P.hi
 simp only [P.d, ne_eq, not_true_eq_false, decide_false, Bool.false_or, decide_eq_true_eq] at this
 obtain ⟨a, b, c, d⟩ := this
 exact ⟨a, b, c, by rw [d, P.fl, hg]⟩
section
variable {p : Int} {c z n v : Bool}
theorem Pok.no195 (P : Pok p c z n v) : Pok (bitAnd p (bitNot 195)) false false false false := pok_map (f := fun p => bitAnd p (bitNot 195)) (g := fun _ => (false, false, false, false)) (by decide +kernel) P rfl
theorem Pok.no131 (P : Pok p c z n v) : Pok (bitAnd p (bitNot 131)) false false false v := pok_map (f := fun p => bitAnd p (bitNot 131)) (g := fun (_, _, _, v) => (false, false, false, v)) (by decide +kernel) P rfl
theorem Pok.no130 (P : Pok p c z n v) : Pok (bitAnd p (bitNot (bitOr 2 128))) c false false v := pok_map (f := fun p => bitAnd p (bitNot (bitOr 2 128))) (g := fun (c, _, _, v) => (c, false, false, v)) (by decide +kernel) P rfl
theorem Pok.no1 (P : Pok p c z n v) : Pok (bitAnd p (bitNot 1)) false z n v := pok_map (f := fun p => bitAnd p (bitNot 1)) (g := fun (_, z, n, v) => (false, z, n, v)) (by decide +kernel) P rfl
theorem Pok.or1 (P : Pok p c z n v) : Pok (bitOr p 1) true z n v := pok_map (f := fun p => bitOr p 1) (g := fun (_, z, n, v) => (true, z, n, v)) (by decide +kernel) P rfl
theorem Pok.or2 (P : Pok p c z n v) : Pok (bitOr p 2) c true n v := pok_map (f := fun p => bitOr p 2) (g := fun (c, _, n, v) => (c, true, n, v)) (by decide +kernel) P rfl
theorem Pok.or3 (P : Pok p c z n v) : Pok (bitOr p (bitOr 1 2)) true true n v := pok_map (f := fun p => bitOr p (bitOr 1 2)) (g := fun (_, _, n, v) => (true, true, n, v)) (by decide +kernel) P rfl
theorem Pok.or64 (P : Pok p c z n v) : Pok (bitOr p 64) c z n true := pok_map (f := fun p => bitOr p 64) (g := fun (c, z, n, _) => (c, z, n, true)) (by decide +kernel) P rfl
theorem Pok.or128 (P : Pok p c z n v) : Pok (bitOr p 128) c z true v := pok_map (f := fun p => bitOr p 128) (g := fun (c, z, _, v) => (c, z, true, v)) (by decide +kernel) P rfl
theorem Pok.or0 (P : Pok p c z n v) : Pok (bitOr p 0) c z n v := pok_map (f := fun p => bitOr p 0) (g := id) (by decide +kernel) P rfl
theorem Pok.C (P : Pok p c z n v) : (bitAnd p 1 != 0) = c := by have := P.fl; simp only [pk, Prod.mk.injEq] at this; exact this.1
theorem Pok.Z (P : Pok p c z n v) : (bitAnd p 2 != 0) = z := by have := P.fl; simp only [pk, Prod.mk.injEq] at this; exact this.2.1
theorem Pok.N (P : Pok p c z n v) : (bitAnd p 128 != 0) = n := by have := P.fl; simp only [pk, Prod.mk.injEq] at this; exact this.2.2.1
theorem Pok.V (P : Pok p c z n v) : (bitAnd p 64 != 0) = v := by have := P.fl; simp only [pk, Prod.mk.injEq] at this; exact this.2.2.2
theorem Pok.D (P : Pok p c z n v) : (bitAnd p 8 != 0) = false := by rw [P.d]; rfl
theorem Pok.c1 (P : Pok p c z n v) : bitAnd p 1 = if c then 1 else 0 := by
 have h := P.C
 rw [bitAnd_m1] at h ⊢
 have := P.lo
 cases c
 ·simp at h ⊢; lia
 ·simp at h ⊢; lia
end
structure Q where
 m : Int -> Int
 pc : Int
 sp : Int
 a : Int
 x : Int
 y : Int
 c : Bool
 z : Bool
 n : Bool
 v : Bool
structure Abs (L : Nat) (σ : Cpu) (q : Q) : Prop where
 len : σ.m.length = L
 mem : ∀ i : Nat, i < L -> σ.m.getD i 0 = q.m i
 pc : σ.pc = q.pc
 sp : σ.sp = q.sp
 a : σ.a = q.a
 x : σ.x = q.x
 y : σ.y = q.y
 p : Pok σ.p q.c q.z q.n q.v
noncomputable def OpGo (L : Nat) (i : Op) (q q' : Q) : Prop := ∀ σ, Abs L σ q -> ∀ k : CK, (∀ σ', Abs L σ' q' -> k σ') -> i σ k
noncomputable def AxGo (L : Nat) (ad : AdX) (q : Q) (i : Int) : Prop := ∀ σ, Abs L σ q -> ∀ k : Int -> CK, (∀ σ', Abs L σ' q -> k i σ') -> ad σ k
noncomputable def upd (m : Int -> Int) (i v : Int) : Int -> Int := fun j => if j = i then v else m j
noncomputable def oct? (v : Int) : Prop := 0 <= v /\ v < 256
theorem nat_xor_and (a b : Nat) : (a ^^^ b) + 2 * (a &&& b) = a + b := by
 have h1 := nat_or_add_and (a ^^^ b) (a &&& b)
 have h2 := nat_or_add_and a b
 have e1 : (a ^^^ b) ||| (a &&& b) = a ||| b := by
  apply Nat.eq_of_testBit_eq
  intro i
  simp only [Nat.testBit_or, Nat.testBit_xor, Nat.testBit_and]
  cases a.testBit i <;> cases b.testBit i <;> rfl
 have e2 : (a ^^^ b) &&& (a &&& b) = 0 := by
  apply Nat.eq_of_testBit_eq
  intro i
  simp only [Nat.testBit_xor, Nat.testBit_and, Nat.zero_testBit]
  cases a.testBit i <;> cases b.testBit i <;> rfl
 rw [e1, e2] at h1
 lia
theorem bitXor_pp {x y : Int} (hx : 0 <= x) (hy : 0 <= y) : bitXor x y = ((x.toNat ^^^ y.toNat : Nat) : Int) := by
 rw [bitXor_and, bitAnd_pp hx hy]
 have := nat_xor_and x.toNat y.toNat
 omega
theorem nat_and_two (l1 h1 l2 h2 : Nat) (a : l1 < 256) (b : l2 < 256) : (l1 + 256 * h1) &&& (l2 + 256 * h2) = (l1 &&& l2) + 256 * (h1 &&& h2) := by
 apply Nat.eq_of_testBit_eq
 intro i
 have hl : (l1 &&& l2) < 2 ^ 8 := Nat.lt_of_le_of_lt Nat.and_le_left a
 have e : ∀ (l h : Nat), l < 2 ^ 8 -> (l + 256 * h).testBit i = if i < 8 then l.testBit i else h.testBit (i - 8) := fun l h hl => by
  have := Nat.testBit_two_pow_mul_add h hl i
  rw [Nat.add_comm]
  exact this
 rw [Nat.testBit_and, e _ _ a, e _ _ b, e _ _ hl]
 by_cases q : i < 8
 ·simp [q]
 ·simp [q]
theorem and_two {l1 h1 l2 h2 : Int} (a : oct? l1) (b : oct? h1) (c : oct? l2) (d : oct? h2) : bitAnd (l1 + 256 * h1) (l2 + 256 * h2) = bitAnd l1 l2 + 256 * bitAnd h1 h2 := by
 have a1 := a.1; have a2 := a.2; have b1 := b.1; have b2 := b.2; have c1 := c.1; have c2 := c.2; have d1 := d.1; have d2 := d.2
 rw [bitAnd_pp (by lia) (by lia), bitAnd_pp a1 c1, bitAnd_pp b1 d1]
 have e1 : (l1 + 256 * h1).toNat = l1.toNat + 256 * h1.toNat := by lia
 have e2 : (l2 + 256 * h2).toNat = l2.toNat + 256 * h2.toNat := by lia
 rw [e1, e2, nat_and_two _ _ _ _ (by lia) (by lia)]
 lia
theorem xor_oct {x y : Int} (a : oct? x) (b : oct? y) : oct? (bitXor x y) := by
 have a1 := a.1; have a2 := a.2; have b1 := b.1; have b2 := b.2
 rw [bitXor_pp a1 b1]
 have : x.toNat ^^^ y.toNat < 2 ^ 8 := Nat.xor_lt_two_pow (by lia) (by lia)
 exact ⟨by lia, by lia⟩
theorem at_ok {i : Int} {n : Nat} {k : Nat -> Prop} (h0 : 0 <= i) (h1 : i < n) (hn : n <= 65536) (h : k i.toNat) : at' i n k := by
 have e : idx i n = i := by unfold idx; rw [if_neg (by lia)]
 refine ⟨⟨by lia, by lia⟩, ?_, ?_, ?_⟩
 ·rw [e]; exact h0
 ·rw [e]; exact h1
 ·rw [e]; exact h
theorem ok1_ok {i : Int} {n : Nat} {P : Prop} (h0 : 0 <= i) (h1 : i < n) (hn : n <= 65536) (h : P) : ok1 i n P := by
 have e : idx i n = i := by unfold idx; rw [if_neg (by lia)]
 refine ⟨⟨by lia, by lia⟩, ?_, ?_, h⟩
 ·rw [e]; exact h0
 ·rw [e]; exact h1
section
variable {L : Nat} {σ : Cpu} {q q' : Q} {k : CK} {i j : Op} {ad : AdX} {t : Int}
theorem Abs.rd (A : Abs L σ q) (hL : L <= 65536) {i : Int} (h0 : 0 <= i) (h1 : i < L) {k : Int -> Prop} (h : k (q.m i)) : rd σ.m i k := by
 unfold Mine.rd
 refine at_ok h0 (by rw [A.len]; exact h1) (by rw [A.len]; exact hL) ?_
 rw [A.mem i.toNat (by lia), Int.toNat_of_nonneg h0]
 exact h
theorem Abs.wr (A : Abs L σ q) (hL : L <= 65536) {i v : Int} (h0 : 0 <= i) (h1 : i < L) (h : ∀ σ', Abs L σ' { q with m := upd q.m i v } -> k σ') : wr σ i v k := by
 unfold Mine.wr
 refine at_ok h0 (by rw [A.len]; exact h1) (by rw [A.len]; exact hL) (h _ ⟨?_, fun j hj => ?_, A.pc, A.sp, A.a, A.x, A.y, A.p⟩)
 ·show (σ.m.set _ _).length = L
  rw [List.length_set]; exact A.len
 ·show (σ.m.set i.toNat v).getD j 0 = upd q.m i v j
  unfold upd
  rw [List.getD_eq_getElem?_getD, List.getElem?_set]
  have hl := A.len
  by_cases e : i.toNat = j
  ·have e2 : (j : Int) = i := by lia
   rw [if_pos e, if_pos (by lia), if_pos e2]
   rfl
  ·have e2 : ¬ (j : Int) = i := by lia
   rw [if_neg e, if_neg e2, <- List.getD_eq_getElem?_getD]
   exact A.mem j hj
theorem brT {A B : Prop} (h : A) : br true A B := h
theorem brF {A B : Prop} (h : B) : br false A B := h
theorem bnot_eq {v : Int} {b : Bool} (h : (v == 0) = b) : (v != 0) = !b := by rw [<- h]; rfl
theorem setzn {v : Int} (hv : oct? v) (A : Abs L σ q) (hz : q.z = false) (hn : q.n = false) : (v == 0) = true /\ Abs L { σ with p := bitOr σ.p 2 } { q with z := (v == 0), n := decide (128 <= v) } \/ (v == 0) = false /\ Abs L { σ with p := bitOr σ.p (bitAnd v 128) } { q with z := (v == 0), n := decide (128 <= v) } := by
 obtain ⟨h0, h1⟩ := hv
 have P := A.p
 rw [hz, hn] at P
 cases e : v == 0 with
 | true =>
  have : v = 0 := by simpa using e
  subst this
  exact .inl ⟨rfl, A.len, A.mem, A.pc, A.sp, A.a, A.x, A.y, P.or2⟩
 | false =>
  refine .inr ⟨rfl, A.len, A.mem, A.pc, A.sp, A.a, A.x, A.y, ?_⟩
  show Pok (bitOr σ.p (bitAnd v 128)) _ _ _ _
  rw [and128 h0 h1]
  by_cases h : 128 <= v
  ·rw [if_pos h]
   simp only [h, decide_true]
   exact P.or128
  ·rw [if_neg h]
   simp only [h, decide_false]
   exact P.or0
theorem fnz_ok {v : Int} (hv : oct? v) (A : Abs L σ q) (h : ∀ σ', Abs L σ' { q with z := (v == 0), n := decide (128 <= v) } -> k σ') : fnz v σ k := by
 unfold fnz
 have A1 : Abs L { σ with p := bitAnd σ.p (bitNot (bitOr 2 128)) } { q with z := false, n := false } := ⟨A.len, A.mem, A.pc, A.sp, A.a, A.x, A.y, A.p.no130⟩
 rcases setzn hv A1 rfl rfl with ⟨e, A2⟩ | ⟨e, A2⟩
 ·rw [e] at A2 ⊢
  refine h _ ?_
  rw [e]; exact A2
 ·rw [e] at A2 ⊢
  refine h _ ?_
  rw [e]; exact A2
theorem zn_ok {v : Int} (hv : oct? v) (A : Abs L σ q) (hz : q.z = false) (hn : q.n = false) (h : ∀ σ', Abs L σ' { q with z := (v == 0), n := decide (128 <= v) } -> k σ') : zn v σ k := by
 unfold zn
 rcases setzn hv A hz hn with ⟨e, A2⟩ | ⟨e, A2⟩
 ·rw [e] at A2 ⊢
  refine h _ ?_
  rw [e]; exact A2
 ·rw [e] at A2 ⊢
  refine h _ ?_
  rw [e]; exact A2
theorem nz_ok {v : Int} (hv : oct? v) (A : Abs L σ q) (hz : q.z = false) (hn : q.n = false) (h : ∀ σ', Abs L σ' { q with z := (v == 0), n := decide (128 <= v) } -> k σ') : nz v σ k := by
 unfold nz
 rcases setzn hv A hz hn with ⟨e, A2⟩ | ⟨e, A2⟩
 ·rw [bnot_eq e]
  exact h _ A2
 ·rw [bnot_eq e]
  exact h _ A2
theorem Abs.noP131 (A : Abs L σ q) : Abs L (noP 131 σ) { q with c := false, z := false, n := false } := ⟨A.len, A.mem, A.pc, A.sp, A.a, A.x, A.y, A.p.no131⟩
theorem Abs.noP195 (A : Abs L σ q) : Abs L (noP 195 σ) { q with c := false, z := false, n := false, v := false } := ⟨A.len, A.mem, A.pc, A.sp, A.a, A.x, A.y, A.p.no195⟩
theorem Abs.noP1 (A : Abs L σ q) : Abs L (noP 1 σ) { q with c := false } := ⟨A.len, A.mem, A.pc, A.sp, A.a, A.x, A.y, A.p.no1⟩
theorem Abs.or1 (A : Abs L σ q) : Abs L { σ with p := bitOr σ.p 1 } { q with c := true } := ⟨A.len, A.mem, A.pc, A.sp, A.a, A.x, A.y, A.p.or1⟩
theorem Abs.or2 (A : Abs L σ q) : Abs L { σ with p := bitOr σ.p 2 } { q with z := true } := ⟨A.len, A.mem, A.pc, A.sp, A.a, A.x, A.y, A.p.or2⟩
theorem Abs.or64 (A : Abs L σ q) : Abs L { σ with p := bitOr σ.p 64 } { q with v := true } := ⟨A.len, A.mem, A.pc, A.sp, A.a, A.x, A.y, A.p.or64⟩
theorem orC_ok {b : Bool} (A : Abs L σ q) (hc : q.c = false) (h : ∀ σ', Abs L σ' { q with c := b } -> k σ') : orFl b 1 σ k := by
 cases b with
 | true => exact h _ A.or1
 | false => refine h _ ?_; rw [<- hc]; exact A
theorem orV_ok {b : Bool} (A : Abs L σ q) (hc : q.v = false) (h : ∀ σ', Abs L σ' { q with v := b } -> k σ') : orFl b 64 σ k := by
 cases b with
 | true => exact h _ A.or64
 | false => refine h _ ?_; rw [<- hc]; exact A
theorem orZ_ok {b : Bool} (A : Abs L σ q) (hc : q.z = false) (h : ∀ σ', Abs L σ' { q with z := b } -> k σ') : orFl b 2 σ k := by
 cases b with
 | true => exact h _ A.or2
 | false => refine h _ ?_; rw [<- hc]; exact A
theorem Abs.setA (A : Abs L σ q) {v : Int} : Abs L { σ with a := v } { q with a := v } := ⟨A.len, A.mem, A.pc, A.sp, rfl, A.x, A.y, A.p⟩
theorem Abs.setX (A : Abs L σ q) {v : Int} : Abs L { σ with x := v } { q with x := v } := ⟨A.len, A.mem, A.pc, A.sp, A.a, rfl, A.y, A.p⟩
theorem Abs.setY (A : Abs L σ q) {v : Int} : Abs L { σ with y := v } { q with y := v } := ⟨A.len, A.mem, A.pc, A.sp, A.a, A.x, rfl, A.p⟩
theorem Abs.setPc (A : Abs L σ q) {v : Int} : Abs L { σ with pc := v } { q with pc := v } := ⟨A.len, A.mem, rfl, A.sp, A.a, A.x, A.y, A.p⟩
theorem Abs.setSp (A : Abs L σ q) {v : Int} : Abs L { σ with sp := v } { q with sp := v } := ⟨A.len, A.mem, A.pc, rfl, A.a, A.x, A.y, A.p⟩
theorem shl_ok {a b : Int} {k : Int -> Prop} (h0 : 0 <= a) (h1 : a < 65536) (b0 : 0 <= b) (b1 : b <= 1000) (h : k (a * 2 ^ b.toNat)) : shl a b k := ⟨⟨b0, b1, by lia⟩, h⟩
theorem shr_ok {a b : Int} {k : Int -> Prop} (b0 : 0 <= b) (h : k (a.fdiv (2 ^ b.toNat))) : shr a b k := ⟨b0, h⟩
theorem Abs.setE (A : Abs L σ q) {e : Int} : Abs L { σ with exc := e } q := ⟨A.len, A.mem, A.pc, A.sp, A.a, A.x, A.y, A.p⟩
theorem Abs.no130 (A : Abs L σ q) : Abs L { σ with p := bitAnd σ.p (bitNot (bitOr 2 128)) } { q with z := false, n := false } := ⟨A.len, A.mem, A.pc, A.sp, A.a, A.x, A.y, A.p.no130⟩
noncomputable def nxt (a : Int) : Int := a / 256 * 256 + (a + 1) % 256
theorem hi_page {a : Int} (h0 : 0 <= a) (h1 : a < 65536) : bitAnd a 65280 = a / 256 * 256 := by
 have h := and_two (l1 := a % 256) (h1 := a / 256) (l2 := 0) (h2 := 255) ⟨by lia, by lia⟩ ⟨by lia, by lia⟩ ⟨by decide, by decide⟩ ⟨by decide, by decide⟩
 have e1 : a % 256 + 256 * (a / 256) = a := by lia
 rw [e1, bitAnd_m8, bitAnd_zero] at h
 rw [show (65280 : Int) = 0 + 256 * 255 by decide, h]
 lia
end
section
variable {L : Nat} {σ : Cpu} {q q' : Q} {k : CK} {i j : Op} {ad : AdX} {t : Int}
theorem wordA_ok (hL : L <= 65536) (A : Abs L σ q) (h0 : 0 <= q.pc) (h1 : q.pc + 1 < L) (hi : oct? (q.m (q.pc + 1))) {k : Int -> Prop} (h : k (q.m q.pc + q.m (q.pc + 1) * 256)) : wordA σ k := by
 unfold wordA
 rw [A.pc]
 refine A.rd hL h0 (by lia) (A.rd hL (by lia) h1 (shl_ok hi.1 (by have := hi.2; lia) (by decide) (by decide) ?_))
 exact h
theorem wrapA_ok (hL : L <= 65536) (A : Abs L σ q) {a : Int} (h0 : 0 <= a) (h1 : a < L) (h2 : nxt a < L) (ho : oct? (q.m (nxt a))) {k : Int -> Prop} (h : k (q.m a + q.m (nxt a) * 256)) : wrapA a σ k := by
 refine A.rd hL h0 h1 ?_
 have e : bitAnd a 65280 + bitAnd (a + 1) 255 = nxt a := by rw [hi_page h0 (by lia), bitAnd_m8]; rfl
 rw [e]
 refine A.rd hL (by unfold nxt; lia) h2 (shl_ok ho.1 (by have := ho.2; lia) (by decide) (by decide) ?_)
 exact h
theorem plus_ok (A : Abs L σ q) {c : Bool} {a i : Int} {k : Int -> CK} (h : ∀ σ', Abs L σ' q -> k ((a + i) % 65536) σ') : plus c a i σ k := by
 unfold plus
 rw [bitAnd_m16]
 cases c with
 | true =>
  dsimp only
  cases (bitAnd a 65280 != bitAnd ((a + i) % 65536) 65280) with
  | true => exact brT (h _ A.setE)
  | false => exact brF (h _ A)
 | false => exact h _ A
theorem immG : AxGo L immX q q.pc := fun σ A k h => by unfold immX; rw [A.pc]; exact h σ A
theorem zpG (hL : L <= 65536) (h0 : 0 <= q.pc) (h1 : q.pc < L) : AxGo L zpX q (q.m q.pc) := fun σ A k h => by unfold zpX; rw [A.pc]; exact A.rd hL h0 h1 (h σ A)
theorem zxG (hL : L <= 65536) (h0 : 0 <= q.pc) (h1 : q.pc < L) : AxGo L zxX q ((q.x + q.m q.pc) % 256) := fun σ A k h => by
 unfold zxX
 rw [A.pc]
 refine A.rd hL h0 h1 ?_
 rw [bitAnd_m8', A.x]
 exact h σ A
theorem zyG (hL : L <= 65536) (h0 : 0 <= q.pc) (h1 : q.pc < L) : AxGo L zyX q ((q.y + q.m q.pc) % 256) := fun σ A k h => by
 unfold zyX
 rw [A.pc]
 refine A.rd hL h0 h1 ?_
 rw [bitAnd_m8', A.y]
 exact h σ A
theorem abG (hL : L <= 65536) (h0 : 0 <= q.pc) (h1 : q.pc + 1 < L) (hi : oct? (q.m (q.pc + 1))) : AxGo L abX q (q.m q.pc + q.m (q.pc + 1) * 256) := fun σ A k h => wordA_ok hL A h0 h1 hi (h σ A)
theorem axG (c : Bool) (hL : L <= 65536) (h0 : 0 <= q.pc) (h1 : q.pc + 1 < L) (hi : oct? (q.m (q.pc + 1))) : AxGo L (axX c) q ((q.m q.pc + q.m (q.pc + 1) * 256 + q.x) % 65536) := fun σ A k h => wordA_ok hL A h0 h1 hi (by rw [A.x]; exact plus_ok A h)
theorem ayG (c : Bool) (hL : L <= 65536) (h0 : 0 <= q.pc) (h1 : q.pc + 1 < L) (hi : oct? (q.m (q.pc + 1))) : AxGo L (ayX c) q ((q.m q.pc + q.m (q.pc + 1) * 256 + q.y) % 65536) := fun σ A k h => wordA_ok hL A h0 h1 hi (by rw [A.y]; exact plus_ok A h)
theorem ixG {p : Int} (hL : L <= 65536) (h5 : 512 <= L) (h0 : 0 <= q.pc) (h1 : q.pc < L) (hp : (q.m q.pc + q.x) % 256 = p) (ho : oct? (q.m ((p + 1) % 256))) : AxGo L ixX q (q.m p + q.m ((p + 1) % 256) * 256) := fun σ A k h => by
 have e : nxt p = (p + 1) % 256 := by unfold nxt; lia
 unfold ixX
 rw [A.pc]
 refine A.rd hL h0 h1 ?_
 rw [bitAnd_m8', A.x, hp]
 refine wrapA_ok hL A (by lia) (by lia) (by lia) (by rw [e]; exact ho) ?_
 rw [e]
 exact h σ A
theorem iyG (c : Bool) {p : Int} (hL : L <= 65536) (h5 : 512 <= L) (h0 : 0 <= q.pc) (h1 : q.pc < L) (hp : q.m q.pc = p) (op : oct? p) (ho : oct? (q.m ((p + 1) % 256))) : AxGo L (iyX c) q ((q.m p + q.m ((p + 1) % 256) * 256 + q.y) % 65536) := fun σ A k h => by
 have e : nxt p = (p + 1) % 256 := by unfold nxt; have := op.1; have := op.2; lia
 unfold iyX
 rw [A.pc]
 refine A.rd hL h0 h1 ?_
 rw [hp]
 refine wrapA_ok hL A op.1 (by have := op.2; lia) (by rw [e]; lia) (by rw [e]; exact ho) ?_
 rw [e, A.y]
 exact plus_ok A h
theorem adv_go {n : Int} (g : OpGo L i q q') : OpGo L (adv n i) q { q' with pc := q'.pc + n } := fun σ A k h => g σ A _ fun σ' A' => h _ (by
 have := A'.setPc (v := σ'.pc + n)
 rw [A'.pc] at this ⊢
 exact this)
theorem lda_go (hL : L <= 65536) (g : AxGo L ad q t) (h0 : 0 <= t) (h1 : t < L) (hv : oct? (q.m t)) : OpGo L (lda ad) q { q with a := q.m t, z := (q.m t == 0), n := decide (128 <= q.m t) } := fun σ A k h => g σ A _ fun σ A => (A.rd hL h0 h1 (fnz_ok hv A.setA h))
theorem ldx_go (hL : L <= 65536) (g : AxGo L ad q t) (h0 : 0 <= t) (h1 : t < L) (hv : oct? (q.m t)) : OpGo L (ldx ad) q { q with x := q.m t, z := (q.m t == 0), n := decide (128 <= q.m t) } := fun σ A k h => g σ A _ fun σ A => (A.rd hL h0 h1 (fnz_ok hv A.setX h))
theorem sta_go (hL : L <= 65536) (g : AxGo L ad q t) (h0 : 0 <= t) (h1 : t < L) : OpGo L (sta ad) q { q with m := upd q.m t q.a } := fun σ A k h => g σ A _ fun σ A => (by rw [A.a]; exact A.wr hL h0 h1 h)
theorem bits_go (hL : L <= 65536) {f : Int -> Int -> Int} (op : AdX -> Op) (hop : op = fun ad σ k => ad σ fun i σ => rd σ.m i fun v => fnz (f σ.a v) { σ with a := f σ.a v } k) (g : AxGo L ad q t) (h0 : 0 <= t) (h1 : t < L) (hv : oct? (f q.a (q.m t))) :
  OpGo L (op ad) q { q with a := f q.a (q.m t), z := (f q.a (q.m t) == 0), n := decide (128 <= f q.a (q.m t)) } := fun σ A k h => by
 rw [hop]
 exact g σ A _ fun σ A => (A.rd hL h0 h1 (by rw [A.a]; exact fnz_ok hv A.setA h))
theorem adc_go (hL : L <= 65536) (g : AxGo L ad q t) (h0 : 0 <= t) (h1 : t < L) (hd : oct? (q.m t)) (ha : oct? q.a) : OpGo L (adc ad) q { q with a := (q.m t + q.a + if q.c then 1 else 0) % 256, c := decide (255 < q.m t + q.a + if q.c then 1 else 0), z := ((q.m t + q.a + if q.c then 1 else 0) % 256 == 0), n := decide (128 <= (q.m t + q.a + if q.c then 1 else 0) % 256), v := (bitAnd (bitAnd (bitNot (bitXor q.a (q.m t))) (bitXor q.a (q.m t + q.a + if q.c then 1 else 0))) 128 != 0) } := by
 refine fun σ A k h => g σ A _ fun σ A => (A.rd hL h0 h1 ?_)
 rw [A.p.D]
 show adcB (q.m t) σ k
 unfold adcB
 have ea := A.a
 have hc : ∀ tmp : Int, tmp = (if q.c then 1 else 0) -> orFl (bitAnd (bitAnd (bitNot (bitXor σ.a (q.m t))) (bitXor σ.a (q.m t + σ.a + tmp))) 128 != 0) 64 (noP 195 σ) (fun σ =>
  (fun k' : Cpu -> Int -> Prop => br (decide (255 < q.m t + σ.a + tmp)) (k' { σ with p := bitOr σ.p 1 } (bitAnd (q.m t + σ.a + tmp) 255)) (k' σ (q.m t + σ.a + tmp))) fun σ r =>
  zn r σ fun σ => k { σ with a := r }) := by
  intro tmp ht
  rw [ea, ht]
  refine orV_ok A.noP195 rfl fun σ' A' => ?_
  have ea' : σ'.a = q.a := A'.a
  dsimp only
  have es : q.m t + σ'.a + (if q.c then 1 else 0) = q.m t + q.a + if q.c then 1 else 0 := by rw [ea']
  rw [es]
  generalize hs : q.m t + q.a + (if q.c then 1 else 0) = s at *
  have hs0 : 0 <= s := by have := hd.1; have := ha.1; rw [<- hs]; split <;> lia
  have hs1 : s < 512 := by have := hd.2; have := ha.2; rw [<- hs]; split <;> lia
  by_cases hb : 255 < s
  ·simp only [hb, decide_true]
   refine brT ?_
   rw [bitAnd_m8]
   refine zn_ok ⟨by lia, by lia⟩ A'.or1 rfl rfl fun σ'' A'' => h _ ?_
   have e := A''.setA (v := s % 256)
   simpa only [hb, decide_true] using e
  ·simp only [hb, decide_false]
   refine brF ?_
   have e2 : s % 256 = s := by lia
   refine zn_ok ⟨by lia, by lia⟩ A' rfl rfl fun σ'' A'' => h _ ?_
   have e := A''.setA (v := s)
   simpa only [hb, decide_false, e2] using e
 have hC := A.p.C
 dsimp only
 rw [hC]
 cases hq : q.c with
 | true => exact hc 1 (by rw [hq]; rfl)
 | false => exact hc 0 (by rw [hq]; rfl)
theorem sbc_go (hL : L <= 65536) (g : AxGo L ad q t) (h0 : 0 <= t) (h1 : t < L) (hd : oct? (q.m t)) (ha : oct? q.a) :
  OpGo L (sbc ad) q { q with a := (q.a + (255 - q.m t) + if q.c then 1 else 0) % 256, c := decide (255 < q.a + (255 - q.m t) + if q.c then 1 else 0), z := ((q.a + (255 - q.m t) + if q.c then 1 else 0) % 256 == 0), n := decide (128 <= (q.a + (255 - q.m t) + if q.c then 1 else 0) % 256), v := (bitAnd (bitAnd (bitXor q.a (q.m t)) (bitXor q.a (q.a + (255 - q.m t) + if q.c then 1 else 0))) 128 != 0) } := by
 refine fun σ A k h => g σ A _ fun σ A => (A.rd hL h0 h1 ?_)
 rw [A.p.D]
 refine brF ?_
 unfold sbcB
 have e1 : bitAnd (bitNot (q.m t)) 255 = 255 - q.m t := by
  rw [bitAnd_m8]
  unfold bitNot
  have := hd.1; have := hd.2
  lia
 dsimp only
 rw [e1, A.a, A.p.c1]
 generalize hs : q.a + (255 - q.m t) + (if q.c then 1 else 0) = s at *
 have hs0 : 0 <= s := by have := hd.2; have := ha.1; rw [<- hs]; split <;> lia
 have hs1 : s < 512 := by have := hd.1; have := ha.2; rw [<- hs]; split <;> lia
 refine orV_ok A.noP195 rfl fun σ1 A1 => ?_
 rw [bitAnd_m8]
 refine orZ_ok A1 rfl fun σ2 A2 => orC_ok A2 rfl fun σ3 A3 => ?_
 have hb : oct? (s % 256) := ⟨by lia, by lia⟩
 have P := A3.p
 refine h _ ⟨A3.len, A3.mem, A3.pc, A3.sp, rfl, A3.x, A3.y, ?_⟩
 show Pok (bitOr σ3.p (bitAnd (s % 256) 128)) _ _ _ _
 rw [and128 hb.1 hb.2]
 by_cases e : 128 <= s % 256
 ·rw [if_pos e]
  simp only [e, decide_true]
  exact P.or128
 ·rw [if_neg e]
  simp only [e, decide_false]
  exact P.or0
theorem and128' {x : Int} (h0 : -256 < x) (h1 : x < 256) : bitAnd x 128 = 0 \/ bitAnd x 128 = 128 := by
 have h := List.all_eq_true.mp (show (List.range 511).all (fun n => decide (bitAnd ((n : Nat) - 255 : Int) 128 = 0 \/ bitAnd ((n : Nat) - 255 : Int) 128 = 128)) = true by decide +kernel) (x + 255).toNat (by simp; lia)
 simp only [decide_eq_true_eq] at h
 have e : (((x + 255).toNat : Nat) : Int) - 255 = x := by lia
 rw [e] at h
 exact h
theorem cmpA_go (hL : L <= 65536) (g : AxGo L ad q t) (h0 : 0 <= t) (h1 : t < L) (hd : oct? (q.m t)) (ha : oct? q.a) :
  OpGo L (cmp ad Cpu.a) q { q with c := decide (q.m t <= q.a), z := (q.a == q.m t), n := decide (bitAnd (q.a - q.m t) 128 = 128) } := by
 have hx := and128' (x := q.a - q.m t) (by have := hd.2; have := ha.1; lia) (by have := hd.1; have := ha.2; lia)
 refine fun σ A k h => g σ A _ fun σ A => (A.rd hL h0 h1 ?_)
 have fin : ∀ {σ' : Cpu} {c z : Bool}, Abs L σ' { q with c := c, z := z, n := false } -> c = decide (q.m t <= q.a) -> z = (q.a == q.m t) -> k { σ' with p := bitOr σ'.p (bitAnd (σ.a - q.m t) 128) } := by
  intro σ' c z A' hc hz
  rw [A.a]
  have P := A'.p
  refine h _ ⟨A'.len, A'.mem, A'.pc, A'.sp, A'.a, A'.x, A'.y, ?_⟩
  rw [<- hc, <- hz]
  show Pok (bitOr σ'.p (bitAnd (q.a - q.m t) 128)) _ _ _ _
  rcases hx with e | e
  ·rw [e]; exact P.or0
  ·rw [e]; exact P.or128
 dsimp only
 cases e1 : (σ.a == q.m t) with
 | true =>
  refine brT ?_
  have A1 := A.noP131
  have e2 : q.a = q.m t := by rw [<- A.a]; simpa using e1
  exact fin (σ' := { noP 131 σ with p := bitOr (noP 131 σ).p (bitOr 1 2) }) (c := true) (z := true) ⟨A1.len, A1.mem, A1.pc, A1.sp, A1.a, A1.x, A1.y, A1.p.or3⟩ (by simp [e2]) (by simp [e2])
 | false =>
  refine brF ?_
  have A1 := A.noP131
  have e2 : ¬ q.a = q.m t := by rw [<- A.a]; simpa using e1
  by_cases e3 : q.m t < σ.a
  ·rw [decide_eq_true e3]
   refine brT ?_
   rw [A.a] at e3
   exact fin (c := true) (z := false) A1.or1 (by simp; lia) (by simp [e2])
  ·rw [decide_eq_false e3]
   refine brF ?_
   rw [A.a] at e3
   exact fin (c := false) (z := false) A1 (by simp; lia) (by simp [e2])
noncomputable def ShGo (L : Nat) (f : Int -> Cpu -> (Int -> CK) -> Prop) (d : Int) (q : Q) (r : Int) (q' : Q) : Prop := ∀ σ, Abs L σ q -> ∀ k : Int -> CK, (∀ σ', Abs L σ' q' -> k r σ') -> f d σ k
theorem b128 {d : Int} (hd : oct? d) : (bitAnd d 128 != 0) = decide (128 <= d) := by
 rw [and128 hd.1 hd.2]
 by_cases h : 128 <= d <;> simp [h]
theorem asl_sh {d : Int} (hd : oct? d) : ShGo L aslF d q (2 * d % 256) { q with c := decide (128 <= d), z := (2 * d % 256 == 0), n := decide (128 <= 2 * d % 256) } := fun σ A k h => by
 unfold aslF
 rw [b128 hd]
 refine orC_ok A.noP131 rfl fun σ1 A1 => shl_ok hd.1 (by have := hd.2; lia) (by decide) (by decide) ?_
 have e : bitAnd (d * 2 ^ (1 : Int).toNat) 255 = 2 * d % 256 := by
  rw [bitAnd_m8]
  have : (2 : Int) ^ (1 : Int).toNat = 2 := by decide
  rw [this]
  lia
 rw [e]
 exact nz_ok ⟨by lia, by lia⟩ A1 rfl rfl h
theorem fdiv2 {d : Int} (h : 0 <= d) : d.fdiv (2 ^ (1 : Int).toNat) = d / 2 := by
 have : (2 : Int) ^ (1 : Int).toNat = 2 := by decide
 rw [this, Int.fdiv_eq_ediv_of_nonneg _ (by decide)]
theorem lsr_sh {d : Int} (hd : oct? d) : ShGo L lsrF d q (d / 2) { q with c := decide (d % 2 = 1), z := (d / 2 == 0), n := false } := fun σ A k h => by
 unfold lsrF
 have A1 := A.noP131
 have A2 : Abs L { noP 131 σ with p := bitOr (noP 131 σ).p (bitAnd d 1) } { q with c := decide (d % 2 = 1), z := false, n := false } := by
  refine ⟨A1.len, A1.mem, A1.pc, A1.sp, A1.a, A1.x, A1.y, ?_⟩
  show Pok (bitOr (noP 131 σ).p (bitAnd d 1)) _ _ _ _
  have P := A1.p
  rw [bitAnd_m1]
  by_cases e : d % 2 = 1
  ·rw [e]; simp only [decide_true]; exact P.or1
  ·have e0 : d % 2 = 0 := by lia
   rw [e0]; simp only [show ((0 : Int) = 1) = False by simp, decide_false]; exact P.or0
 dsimp only
 refine shr_ok (by decide) ?_
 rw [fdiv2 hd.1]
 cases e : d / 2 == 0 with
 | true =>
  rw [bnot_eq e]
  refine brF (h _ ?_)
  have := A2.or2
  rw [e]
  exact this
 | false =>
  rw [bnot_eq e]
  refine brT (h _ ?_)
  rw [e]
  exact A2
theorem or_1 {d : Int} (h : d % 2 = 0) : bitOr d 1 = d + 1 := by rw [bitOr_and, bitAnd_m1, h]; lia
theorem rol_sh {d : Int} (hd : oct? d) : ShGo L rolF d q ((2 * d + if q.c then 1 else 0) % 256) { q with c := decide (128 <= d), z := ((2 * d + if q.c then 1 else 0) % 256 == 0), n := decide (128 <= (2 * d + if q.c then 1 else 0) % 256) } := fun σ A k h => by
 unfold rolF
 rw [b128 hd, A.p.C]
 have e0 : d * 2 ^ (1 : Int).toNat = 2 * d := by
  have : (2 : Int) ^ (1 : Int).toNat = 2 := by decide
  rw [this]; lia
 have fin : ∀ {σ' : Cpu}, Abs L σ' { q with c := decide (128 <= d) } -> ∀ s : Int, s = 2 * d + (if q.c then 1 else 0) -> fnz (bitAnd s 255) σ' (fun σ => k (bitAnd s 255) σ) := by
  intro σ' A' s hs
  rw [bitAnd_m8, hs]
  exact fnz_ok ⟨by lia, by lia⟩ A' h
 have sh : ∀ {k : Int -> Prop}, k (2 * d) -> shl d 1 k := fun hk => shl_ok hd.1 (by have := hd.2; lia) (by decide) (by decide) (by rw [e0]; exact hk)
 dsimp only
 cases hc : q.c with
 | true =>
  refine brT ?_
  by_cases e : 128 <= d
  ·simp only [e, decide_true] at fin ⊢
   refine brT (sh ?_)
   rw [or_1 (by lia)]
   refine fin ?_ _ (by rw [hc]; rfl)
   rw [<- hc]; exact A
  ·simp only [e, decide_false] at fin ⊢
   refine brF (sh ?_)
   rw [or_1 (by lia)]
   exact fin A.noP1 _ (by rw [hc]; rfl)
 | false =>
  refine brF ?_
  by_cases e : 128 <= d
  ·simp only [e, decide_true] at fin ⊢
   refine brT (sh ?_)
   exact fin A.or1 _ (by rw [hc]; simp)
  ·simp only [e, decide_false] at fin ⊢
   refine brF (sh ?_)
   refine fin ?_ _ (by rw [hc]; simp)
   rw [<- hc]; exact A
theorem or_128 {s : Int} (h0 : 0 <= s) (h1 : s < 128) : bitOr s 128 = s + 128 := by
 rw [bitOr_and, and128 h0 (by lia), if_neg (by lia)]; lia
theorem b1 (d : Int) : (bitAnd d 1 != 0) = decide (d % 2 = 1) := by
 rw [bitAnd_m1]
 by_cases h : d % 2 = 1
 ·simp [h]
 ·have : d % 2 = 0 := by lia
  simp [this]
theorem ror_sh {d : Int} (hd : oct? d) : ShGo L rorF d q (d / 2 + if q.c then 128 else 0) { q with c := decide (d % 2 = 1), z := ((d / 2 + if q.c then 128 else 0) == 0), n := decide (128 <= d / 2 + if q.c then 128 else 0) } := fun σ A k h => by
 unfold rorF
 rw [b1 d, A.p.C]
 have h1 := hd.1
 have h2 := hd.2
 have fin : ∀ {σ' : Cpu}, Abs L σ' { q with c := decide (d % 2 = 1) } -> ∀ s : Int, s = d / 2 + (if q.c then 128 else 0) -> fnz s σ' (fun σ => k s σ) := by
  intro σ' A' s hs
  rw [hs]
  exact fnz_ok ⟨by split <;> lia, by split <;> lia⟩ A' h
 have sh : ∀ {k : Int -> Prop}, k (d / 2) -> shr d 1 k := fun hk => shr_ok (by decide) (by rw [fdiv2 h1]; exact hk)
 dsimp only
 cases hc : q.c with
 | true =>
  refine brT ?_
  by_cases e : d % 2 = 1
  ·simp only [e, decide_true] at fin ⊢
   refine brT (sh ?_)
   rw [or_128 (by lia) (by lia)]
   refine fin ?_ _ (by rw [hc]; rfl)
   rw [<- hc]; exact A
  ·simp only [e, decide_false] at fin ⊢
   refine brF (sh ?_)
   rw [or_128 (by lia) (by lia)]
   exact fin A.noP1 _ (by rw [hc]; rfl)
 | false =>
  refine brF ?_
  by_cases e : d % 2 = 1
  ·simp only [e, decide_true] at fin ⊢
   refine brT (sh ?_)
   exact fin A.or1 _ (by rw [hc]; simp)
  ·simp only [e, decide_false] at fin ⊢
   refine brF (sh ?_)
   refine fin ?_ _ (by rw [hc]; simp)
   rw [<- hc]; exact A
theorem onA_go {f : Int -> Cpu -> (Int -> CK) -> Prop} {r : Int} (g : ShGo L f q.a q r q') : OpGo L (onA f) q { q' with a := r } := fun σ A k h => by
 unfold onA
 rw [A.a]
 exact g σ A _ fun σ' A' => h _ A'.setA
theorem onM_go (hL : L <= 65536) {f : Int -> Cpu -> (Int -> CK) -> Prop} {r : Int} (g : AxGo L ad q t) (h0 : 0 <= t) (h1 : t < L) (gs : ShGo L f (q.m t) q r q') : OpGo L (onM ad f) q { q' with m := upd q'.m t r } := fun σ A k h => g σ A _ fun σ A => (A.rd hL h0 h1 (gs σ A _ fun σ' A' => A'.wr hL h0 h1 h))
theorem branch_ok (hL : L <= 65536) (A : Abs L σ q) (h0 : 0 <= q.pc) (h1 : q.pc < L) (hd : 0 <= q.m q.pc) (hd2 : q.m q.pc < 128) (hp : q.pc + 1 + q.m q.pc < 65536) (h : ∀ σ', Abs L σ' { q with pc := q.pc + 1 + q.m q.pc } -> k σ') : branch σ k := by
 unfold branch
 rw [A.pc]
 refine A.rd hL h0 h1 ?_
 rw [b128 ⟨hd, by lia⟩, decide_eq_false (by lia)]
 refine brF ?_
 have e : bitAnd (q.pc + 1 + q.m q.pc) 65535 = q.pc + 1 + q.m q.pc := by rw [bitAnd_m16]; lia
 dsimp only
 rw [e]
 have fin : ∀ ex : Int, k { σ with exc := ex, pc := q.pc + 1 + q.m q.pc } := fun ex => h _ ⟨A.len, A.mem, rfl, A.sp, A.a, A.x, A.y, A.p⟩
 cases (bitAnd (q.pc + 1) 65280 != bitAnd (q.pc + 1 + q.m q.pc) 65280)
 ·exact fin _
 ·exact fin _
theorem bst_go (hL : L <= 65536) {f : Int} {b : Bool} (hf : ∀ σ, Abs L σ q -> (bitAnd σ.p f != 0) = b) (h0 : 0 <= q.pc) (h1 : q.pc < L) (hd : 0 <= q.m q.pc) (hd2 : q.m q.pc < 128) (hp : q.pc + 1 + q.m q.pc < 65536) :
  OpGo L (bst f) q { q with pc := if b then q.pc + 1 + q.m q.pc else q.pc + 1 } := fun σ A k h => by
 unfold bst
 rw [hf σ A]
 cases b with
 | true => exact branch_ok hL A h0 h1 hd hd2 hp h
 | false =>
  refine brF (h _ ?_)
  have := A.setPc (v := σ.pc + 1)
  rw [A.pc] at this ⊢
  exact this
theorem bcl_go (hL : L <= 65536) {f : Int} {b : Bool} (hf : ∀ σ, Abs L σ q -> (bitAnd σ.p f != 0) = b) (h0 : 0 <= q.pc) (h1 : q.pc < L) (hd : 0 <= q.m q.pc) (hd2 : q.m q.pc < 128) (hp : q.pc + 1 + q.m q.pc < 65536) :
  OpGo L (bcl f) q { q with pc := if b then q.pc + 1 else q.pc + 1 + q.m q.pc } := fun σ A k h => by
 unfold bcl
 rw [hf σ A]
 cases b with
 | false => exact branch_ok hL A h0 h1 hd hd2 hp h
 | true =>
  refine brT (h _ ?_)
  have := A.setPc (v := σ.pc + 1)
  rw [A.pc] at this ⊢
  exact this
theorem clc_go : OpGo L (clr 1) q { q with c := false } := fun σ A k h => h _ A.noP1
theorem sec_go : OpGo L (set_ 1) q { q with c := true } := fun σ A k h => h _ A.or1
theorem jmp_go (hL : L <= 65536) (h0 : 0 <= q.pc) (h1 : q.pc + 1 < L) (hi : oct? (q.m (q.pc + 1))) : OpGo L jmp q { q with pc := q.m q.pc + q.m (q.pc + 1) * 256 } := fun σ A k h => wordA_ok hL A h0 h1 hi (h _ A.setPc)
theorem pha_go (hL : L <= 65536) (h5 : 512 <= L) (hs : oct? q.sp) (ha : oct? q.a) : OpGo L pha q { q with m := upd q.m (q.sp + 256) q.a, sp := (q.sp - 1) % 256 } := fun σ A k h => by
 have h1 := hs.1; have h2 := hs.2; have h3 := ha.1; have h4 := ha.2
 unfold pha push
 rw [A.sp, A.a, bitAnd_m8, Int.emod_eq_of_lt h3 h4]
 refine A.wr hL (by lia) (by lia) fun σ' A' => h _ ?_
 have := A'.setSp (v := bitAnd (σ'.sp - 1) 255)
 rw [bitAnd_m8, A'.sp] at this ⊢
 exact this
theorem pla_go (hL : L <= 65536) (h5 : 512 <= L) (hv : oct? (q.m ((q.sp + 1) % 256 + 256))) : OpGo L pla q { q with a := q.m ((q.sp + 1) % 256 + 256), sp := (q.sp + 1) % 256, z := (q.m ((q.sp + 1) % 256 + 256) == 0), n := decide (128 <= q.m ((q.sp + 1) % 256 + 256)) } := fun σ A k h => by
 unfold pla pull
 rw [bitAnd_m8, A.sp]
 refine A.rd hL (by lia) (by lia) (fnz_ok (q := { q with a := q.m ((q.sp + 1) % 256 + 256), sp := (q.sp + 1) % 256 }) hv ?_ h)
 have := (A.setSp (v := (q.sp + 1) % 256)).setA (v := q.m ((q.sp + 1) % 256 + 256))
 exact this
theorem step1_go {op ex ct : Int} (ho : 0 <= op) (ho2 : op < 256) (h0 : 0 <= q.pc) (h1 : q.pc + 1 < 65536) (g : OpGo L i { q with pc := q.pc + 1 } q') (h2 : 0 <= q'.pc) (h3 : q'.pc < 65536) : OpGo L (step1 op ex ct i) q q' := fun σ A k h => by
 unfold step1
 refine ok1_ok ho ho2 (by decide) (ok1_ok ho ho2 (by decide) ?_)
 refine g _ ?_ _ fun σ' A' => ok1_ok ho ho2 (by decide) (h _ ?_)
 ·refine ⟨A.len, A.mem, ?_, A.sp, A.a, A.x, A.y, A.p⟩
  show bitAnd (σ.pc + 1) 65535 = q.pc + 1
  rw [bitAnd_m16, A.pc]; lia
 ·refine ⟨A'.len, A'.mem, ?_, A'.sp, A'.a, A'.x, A'.y, A'.p⟩
  show bitAnd σ'.pc 65535 = q'.pc
  rw [bitAnd_m16, A'.pc]; lia
end
theorem and128n (n : Nat) : (n &&& 128 ≠ 0) ↔ n.testBit 7 = true := by
 have h : n &&& 128 = if n.testBit 7 then 128 else 0 := by
  apply Nat.eq_of_testBit_eq
  intro i
  rw [Nat.testBit_and, show (128 : Nat) = 2 ^ 7 by decide, Nat.testBit_two_pow]
  by_cases q : 7 = i
  ·subst q
   cases n.testBit 7
   ·simp
   ·simp only [if_true, Bool.true_and, decide_true]
    decide
  ·have : decide (7 = i) = false := by simpa using q
   rw [this, Bool.and_false]
   split
   ·rw [Nat.testBit_two_pow, this]
   ·rw [Nat.zero_testBit]
 rw [h]
 cases n.testBit 7 <;> simp
theorem vflag {a d r : Int} (ha : 0 <= a) (hd : 0 <= d) (hr : 0 <= r) : (bitAnd (bitAnd (bitXor a d) (bitXor a r)) 128 != 0) = (decide ((a / 128) % 2 ≠ (d / 128) % 2) && decide ((a / 128) % 2 ≠ (r / 128) % 2)) := by
 rw [bitXor_pp ha hd, bitXor_pp ha hr, bitAnd_pp (Int.natCast_nonneg _) (Int.natCast_nonneg _), bitAnd_pp (Int.natCast_nonneg _) (by decide)]
 simp only [Int.toNat_natCast]
 have h128 : (128 : Int).toNat = 128 := by decide
 rw [h128]
 have tb : ∀ x : Int, 0 <= x -> x.toNat.testBit 7 = decide ((x / 128) % 2 = 1) := fun x hx => by
  rw [Nat.testBit_eq_decide_div_mod_eq]
  have : (x / 128) % 2 = 1 ↔ x.toNat / 2 ^ 7 % 2 = 1 := by
   have : (2 : Nat) ^ 7 = 128 := by decide
   rw [this]
   lia
  simp [this]
 have key := and128n ((a.toNat ^^^ d.toNat) &&& (a.toNat ^^^ r.toNat))
 rw [Nat.testBit_and, Nat.testBit_xor, Nat.testBit_xor, tb a ha, tb d hd, tb r hr] at key
 have e : ((((a.toNat ^^^ d.toNat) &&& (a.toNat ^^^ r.toNat) &&& 128 : Nat) : Int) != 0) = decide (((a.toNat ^^^ d.toNat) &&& (a.toNat ^^^ r.toNat)) &&& 128 ≠ 0) := by
  rw [Bool.eq_iff_iff]
  simp
 rw [e]
 rw [Bool.eq_iff_iff, decide_eq_true_iff, key]
 have p1 : (a / 128) % 2 = 0 \/ (a / 128) % 2 = 1 := by lia
 have p2 : (d / 128) % 2 = 0 \/ (d / 128) % 2 = 1 := by lia
 have p3 : (r / 128) % 2 = 0 \/ (r / 128) % 2 = 1 := by lia
 rcases p1 with p1 | p1 <;> rcases p2 with p2 | p2 <;> rcases p3 with p3 | p3 <;> simp [p1, p2, p3]
theorem xor128 {x : Int} (h : oct? x) : bitXor x 128 = if 128 <= x then x - 128 else x + 128 := by
 rw [bitXor_and, and128 h.1 h.2]
 split <;> lia
noncomputable def sgn (x : Int) : Int := if 127 < x then x - 256 else x
theorem half {x : Int} (hx : oct? x) : (x / 128) % 2 = if 127 < x then 1 else 0 := by
 have := hx.1; have := hx.2
 split <;> lia
theorem rhalf {r : Int} (h0 : 0 < r) (h1 : r < 512) : (r / 128) % 2 = if 128 <= r % 256 then 1 else 0 := by split <;> lia
theorem near {u : Int} (h0 : -128 < u) (h1 : u < 128) : 128 <= (u + 256) % 256 ↔ u < 0 := by lia
theorem less8 {x y : Int} (hx : oct? x) (hy : oct? y) : (128 <= if ((x / 128) % 2 ≠ (y / 128) % 2 /\ (x / 128) % 2 ≠ ((x + (255 - y) + 1) / 128) % 2) then (if 128 <= (x + (255 - y) + 1) % 256 then (x + (255 - y) + 1) % 256 - 128 else (x + (255 - y) + 1) % 256 + 128) else (x + (255 - y) + 1) % 256) ↔ sgn x < sgn y := by
 have a1 := hx.1; have a2 := hx.2; have a3 := hy.1; have a4 := hy.2
 rw [half hx, half hy, rhalf (by lia) (by lia), show x + (255 - y) + 1 = (x - y) + 256 by lia]
 have r0 : 0 <= (x - y + 256) % 256 := Int.emod_nonneg _ (by decide)
 have r1 : (x - y + 256) % 256 < 256 := Int.emod_lt_of_pos _ (by decide)
 have k : (-128 < x - y /\ x - y < 128) -> (128 <= (x - y + 256) % 256 ↔ x - y < 0) := fun h => near h.1 h.2
 generalize (x - y + 256) % 256 = r at *
 unfold sgn
 by_cases h1 : 127 < x <;> by_cases h2 : 127 < y
 ·rw [if_pos h1, if_pos h2, if_pos h1, if_pos h2, if_neg fun h => h.1 rfl, k (by lia)]; clear k; lia
 ·rw [if_pos h1, if_neg h2, if_pos h1, if_neg h2]
  refine ⟨fun _ => by clear k; lia, fun _ => ?_⟩
  by_cases h3 : 128 <= r
  ·rw [if_pos h3, if_pos h3, if_neg fun h => h.2 rfl]; exact h3
  ·rw [if_neg h3, if_neg h3, if_pos ⟨by decide, by decide⟩]; clear k; lia
 ·rw [if_neg h1, if_pos h2, if_neg h1, if_pos h2]
  refine ⟨fun h => ?_, fun h => by clear k; lia⟩
  by_cases h3 : 128 <= r
  ·rw [if_pos h3, if_pos h3, if_pos ⟨by decide, by decide⟩] at h; clear k; lia
  ·rw [if_neg h3, if_neg h3, if_neg fun h => h.2 rfl] at h; exact absurd h h3
 ·rw [if_neg h1, if_neg h2, if_neg h1, if_neg h2, if_neg fun h => h.1 rfl, k (by lia)]; clear k; lia
section
variable {L : Nat} {σ : Cpu} {q q' : Q} {k : CK} {i j : Op} {ad : AdX} {t : Int}
theorem ldy_go (hL : L <= 65536) (g : AxGo L ad q t) (h0 : 0 <= t) (h1 : t < L) (hv : oct? (q.m t)) : OpGo L (ldy ad) q { q with y := q.m t, z := (q.m t == 0), n := decide (128 <= q.m t) } := fun σ A k h => g σ A _ fun σ A => (A.rd hL h0 h1 (fnz_ok hv A.setY h))
theorem stx_go (hL : L <= 65536) (g : AxGo L ad q t) (h0 : 0 <= t) (h1 : t < L) : OpGo L (stx ad) q { q with m := upd q.m t q.x } := fun σ A k h => g σ A _ fun σ A => (by rw [A.x]; exact A.wr hL h0 h1 h)
theorem sty_go (hL : L <= 65536) (g : AxGo L ad q t) (h0 : 0 <= t) (h1 : t < L) : OpGo L (sty ad) q { q with m := upd q.m t q.y } := fun σ A k h => g σ A _ fun σ A => (by rw [A.y]; exact A.wr hL h0 h1 h)
theorem toX_go {f : Cpu -> Int} {r : Int} (hf : ∀ σ, Abs L σ q -> f σ = r) (hr : oct? r) : OpGo L (toX f) q { q with x := r, z := (r == 0), n := decide (128 <= r) } := fun σ A k h => by
 unfold toX
 rw [hf σ A]
 exact fnz_ok hr A.setX h
theorem toY_go {f : Cpu -> Int} {r : Int} (hf : ∀ σ, Abs L σ q -> f σ = r) (hr : oct? r) : OpGo L (toY f) q { q with y := r, z := (r == 0), n := decide (128 <= r) } := fun σ A k h => by
 unfold toY
 rw [hf σ A]
 exact fnz_ok hr A.setY h
theorem toA_go {f : Cpu -> Int} {r : Int} (hf : ∀ σ, Abs L σ q -> f σ = r) (hr : oct? r) : OpGo L (toA f) q { q with a := r, z := (r == 0), n := decide (128 <= r) } := fun σ A k h => by
 unfold toA
 rw [hf σ A]
 exact fnz_ok hr A.setA h
theorem dec_sh {d : Int} : ShGo L decF d q ((d - 1) % 256) { q with z := ((d - 1) % 256 == 0), n := decide (128 <= (d - 1) % 256) } := fun σ A k h => by
 unfold decF
 rw [bitAnd_m8]
 exact nz_ok ⟨by omega, by omega⟩ A.no130 rfl rfl h
theorem inc_sh {d : Int} : ShGo L incF d q ((d + 1) % 256) { q with z := ((d + 1) % 256 == 0), n := decide (128 <= (d + 1) % 256) } := fun σ A k h => by
 unfold incF
 rw [bitAnd_m8]
 exact nz_ok ⟨by lia, by lia⟩ A.no130 rfl rfl h
end
noncomputable def Goes (q q' : Q) : Prop := ∃ op, (q.m q.pc, op) ∈ codes7 /\ OpGo 65536 op q q' /\ 0 <= q.pc /\ q.pc < 65536
noncomputable def Run (hi : Int) : Nat -> Q -> Q -> Prop
 | 0, q, q' => q = q'
 | n + 1, q, q' => q.pc < hi /\ ∃ q₁, Goes q q₁ /\ Run hi n q₁ q'
noncomputable def Reach (hi : Int) (n : Nat) (q : Q) (P : Q -> Prop) : Prop := ∃ k, k <= n /\ ∃ q', Run hi k q q' /\ P q'
theorem Reach.done {hi : Int} {n : Nat} {q : Q} {P : Q -> Prop} (h : P q) : Reach hi n q P := ⟨0, Nat.zero_le n, q, rfl, h⟩
theorem Reach.le {hi : Int} {n k : Nat} {q : Q} {P : Q -> Prop} (h : Reach hi n q P) (l : n <= k) : Reach hi k q P := by
 obtain ⟨i, l1, h⟩ := h
 exact ⟨i, Nat.le_trans l1 l, h⟩
theorem codes_oct : (codes7.all fun e => decide (0 <= e.1 /\ e.1 < 256)) = true := by decide +kernel
theorem code_oct {e : Int × Op} (h : e ∈ codes7) : 0 <= e.1 /\ e.1 < 256 := of_decide_eq_true (List.all_eq_true.mp codes_oct e h)
theorem reach_one {hi : Int} {k : Nat} {P : Q -> Prop} {q q₁ : Q} {o : Int} {i : Op} (h0 : q.m q.pc = o) (hm : code1 o i ∈ codes7) (b0 : 0 <= q.pc) (b1 : q.pc + 1 < 65536) (hh : q.pc < hi)
  (g : OpGo 65536 i { q with pc := q.pc + 1 } q₁) (c0 : 0 <= q₁.pc) (c1 : q₁.pc < 65536) (K : Reach hi k q₁ P) : Reach hi (k + 1) q P := by
 obtain ⟨j, le, q', h1, h2⟩ := K
 have ho := code_oct hm
 exact ⟨j + 1, Nat.succ_le_succ le, q', ⟨hh, q₁, ⟨_, by rw [h0]; exact hm, step1_go ho.1 ho.2 b0 b1 g c0 c1, b0, by lia⟩, h1⟩, h2⟩
structure Lay where
 f0 : Int -> Int
 cl : Nat -> Int
 E : Int
noncomputable def Other (S : Lay) (j : Int) : Prop := j ≠ 8 /\ j ≠ 511 /\ ∀ i, i < 8 -> j ≠ S.cl i
structure LayOk (S : Lay) : Prop where
 z : ∀ i, i < 8 -> (20 <= S.cl i /\ S.cl i <= 122) \/ (300 <= S.cl i /\ S.cl i < 400) \/ (4000 <= S.cl i /\ S.cl i < 20000) \/ (65531 <= S.cl i /\ S.cl i < 65536)
 inj : ∀ i j, i < 8 -> j < 8 -> S.cl i = S.cl j -> i = j
 oct : ∀ j, oct? (S.f0 j)
 p1 : ∀ i : Nat, i < 8 -> S.f0 ((241 + 2 * i) % 256) = S.cl i % 256
 p2 : ∀ i : Nat, i < 8 -> S.f0 (((241 + 2 * i) % 256 + 1) % 256) = S.cl i / 256
 q1 : ∀ i : Nat, i < 8 -> S.f0 (160 + 2 * i) = (S.cl i - 31 * i - 9) % 65536 % 256
 q2 : ∀ i : Nat, i < 8 -> S.f0 (161 + 2 * i) = (S.cl i - 31 * i - 9) % 65536 / 256
 hE : S.E <= 65000
structure W where
 vs : List Int
 cnt : Int
 top : Int
 sp : Int
 a : Int
 x : Int
 y : Int
 c : Bool
 z : Bool
 n : Bool
 v : Bool
structure Mem (S : Lay) (vs : List Int) (cnt top : Int) (m : Int -> Int) : Prop where
 cell : ∀ i, i < 8 -> m (S.cl i) = vs.getD i 0
 cnt : m 8 = cnt
 top : m 511 = top
 oth : ∀ j, Other S j -> m j = S.f0 j
structure Wok (w : W) : Prop where
 len : w.vs.length = 8
 vs : ∀ i, oct? (w.vs.getD i 0)
 a : oct? w.a
 x : oct? w.x
 y : oct? w.y
noncomputable def W.q (w : W) (m : Int -> Int) (pc : Int) : Q := ⟨m, pc, w.sp, w.a, w.x, w.y, w.c, w.z, w.n, w.v⟩
noncomputable def RW (S : Lay) (k : Nat) (pc : Int) (w : W) (P : Q -> Prop) : Prop := ∀ m, Mem S w.vs w.cnt w.top m -> Reach S.E k (w.q m pc) P
structure CodeAt (S : Lay) (b : Int) (l : List Int) : Prop where
 lo : 20000 <= b
 hi : b + l.length <= S.E
 at_ : ∀ i : Nat, i < l.length -> S.f0 (b + i) = l.getD i 0
theorem getD_l {l r : List Int} {i : Nat} (h : i < l.length) : (l ++ r).getD i 0 = l.getD i 0 := by
 rw [List.getD_eq_getElem?_getD, List.getD_eq_getElem?_getD, List.getElem?_append_left h]
theorem getD_r (l r : List Int) (i : Nat) : (l ++ r).getD (l.length + i) 0 = r.getD i 0 := by
 rw [List.getD_eq_getElem?_getD, List.getD_eq_getElem?_getD, List.getElem?_append_right (Nat.le_add_right ..), Nat.add_sub_cancel_left]
theorem CodeAt.l {S : Lay} {b : Int} {l r : List Int} (C : CodeAt S b (l ++ r)) : CodeAt S b l := by
 have := C.hi
 rw [List.length_append] at this
 exact ⟨C.lo, by lia, fun i h => by rw [C.at_ i (by rw [List.length_append]; lia), getD_l h]⟩
theorem CodeAt.r {S : Lay} {b : Int} {l r : List Int} (C : CodeAt S b (l ++ r)) : CodeAt S (b + l.length) r := by
 have h1 := C.hi
 have h2 := C.lo
 rw [List.length_append] at h1
 refine ⟨by lia, by lia, fun i h => ?_⟩
 have := C.at_ (l.length + i) (by rw [List.length_append]; lia)
 rw [getD_r] at this
 rw [<- this]
 congr 1
 lia
section
variable {S : Lay} {vs : List Int} {cnt top : Int} {m : Int -> Int}
theorem Other.code (H : LayOk S) {j : Int} (h0 : 20000 <= j) (h1 : j < S.E) : Other S j := by
 have := H.hE
 exact ⟨by lia, by lia, fun i hi e => by have := H.z i hi; lia⟩
theorem Other.zero (H : LayOk S) {j : Int} (h : j = 0 \/ (160 <= j /\ j < 256)) : Other S j :=
 ⟨by lia, by lia, fun i hi e => by have := H.z i hi; lia⟩
theorem CodeAt.get (H : LayOk S) {b : Int} {l : List Int} (C : CodeAt S b l) (M : Mem S vs cnt top m) {i : Nat} (h : i < l.length) {j : Int} (hj : j = b + i) : m j = l.getD i 0 := by
 rw [hj, M.oth _ (Other.code H (by have := C.lo; lia) (by have := C.hi; lia))]
 exact C.at_ i h
theorem Mem.oct (H : LayOk S) (M : Mem S vs cnt top m) (hv : ∀ i, oct? (vs.getD i 0)) {j : Int} (hj : j ≠ 8 /\ j ≠ 511) : oct? (m j) := by
 by_cases h : ∃ i, i < 8 /\ j = S.cl i
 ·obtain ⟨i, hi, e⟩ := h
  rw [e, M.cell i hi]
  exact hv i
 ·rw [M.oth j ⟨hj.1, hj.2, fun i hi e => h ⟨i, hi, e⟩⟩]
  exact H.oct j
theorem Mem.set (H : LayOk S) (M : Mem S vs cnt top m) (hl : vs.length = 8) {i : Nat} (hi : i < 8) (r : Int) : Mem S (vs.set i r) cnt top (upd m (S.cl i) r) := by
 have hz := H.z i hi
 refine ⟨fun j hj => ?_, ?_, ?_, fun j hj => ?_⟩
 ·unfold upd
  rw [List.getD_eq_getElem?_getD, List.getElem?_set]
  by_cases e : i = j
  ·subst e
   rw [if_pos rfl, if_pos rfl, if_pos (by lia)]; rfl
  ·rw [if_neg (fun q => e (H.inj _ _ hi hj q.symm)), if_neg e, <- List.getD_eq_getElem?_getD]
   exact M.cell j hj
 ·unfold upd; rw [if_neg (by lia)]; exact M.cnt
 ·unfold upd; rw [if_neg (by lia)]; exact M.top
 ·unfold upd; rw [if_neg (hj.2.2 i hi)]; exact M.oth j hj
theorem Mem.setC (H : LayOk S) (M : Mem S vs cnt top m) (r : Int) : Mem S vs r top (upd m 8 r) := by
 refine ⟨fun j hj => ?_, if_pos rfl, ?_, fun j hj => ?_⟩
 ·have := H.z j hj
  unfold upd; rw [if_neg (by omega)]; exact M.cell j hj
 ·unfold upd; rw [if_neg (by decide)]; exact M.top
 ·unfold upd; rw [if_neg hj.1]; exact M.oth j hj
theorem Mem.setT (H : LayOk S) (M : Mem S vs cnt top m) (r : Int) : Mem S vs cnt r (upd m 511 r) := by
 refine ⟨fun j hj => ?_, ?_, if_pos rfl, fun j hj => ?_⟩
 ·have := H.z j hj
  unfold upd; rw [if_neg (by omega)]; exact M.cell j hj
 ·unfold upd; rw [if_neg (by decide)]; exact M.cnt
 ·unfold upd; rw [if_neg hj.2.1]; exact M.oth j hj
end
noncomputable def RdE (op : AdX -> Op) (d : Int) (w w' : W) : Prop := ∀ (ad : AdX) (m : Int -> Int) (pc t : Int), 0 <= t -> t < 65536 -> m t = d -> AxGo 65536 ad (w.q m pc) t -> OpGo 65536 (op ad) (w.q m pc) (w'.q m pc)
noncomputable def Eff (S : Lay) (op : AdX -> Op) (i : Nat) (w w' : W) : Prop := ∀ (ad : AdX) (m : Int -> Int) (pc : Int), Mem S w.vs w.cnt w.top m -> AxGo 65536 ad (w.q m pc) (S.cl i) -> ∃ m', Mem S w'.vs w'.cnt w'.top m' /\ OpGo 65536 (op ad) (w.q m pc) (w'.q m' pc)
noncomputable def Same (w w' : W) : Prop := w'.vs = w.vs /\ w'.cnt = w.cnt /\ w'.top = w.top
theorem hL7 : (65536 : Nat) <= 65536 := Nat.le_refl _
section
variable {S : Lay} {w w' : W} {i : Nat} {d : Int}
theorem LayOk.in_ (H : LayOk S) (hi : i < 8) : 0 <= S.cl i /\ S.cl i < 65536 := by have := H.z i hi; lia
theorem RdE.eff {op : AdX -> Op} (H : LayOk S) (hi : i < 8) (h : RdE op (w.vs.getD i 0) w w') (s : Same w w') : Eff S op i w w' := fun ad m pc M g =>
 ⟨m, by rw [s.1, s.2.1, s.2.2]; exact M, h ad m pc _ (H.in_ hi).1 (H.in_ hi).2 (M.cell i hi) g⟩
theorem e_lda (hd : oct? d) : RdE lda d w { w with a := d, z := (d == 0), n := decide (128 <= d) } := fun ad m pc t h0 h1 e g => by subst e; exact lda_go hL7 g h0 h1 hd
theorem e_ldx (hd : oct? d) : RdE ldx d w { w with x := d, z := (d == 0), n := decide (128 <= d) } := fun ad m pc t h0 h1 e g => by subst e; exact ldx_go hL7 g h0 h1 hd
theorem e_ldy (hd : oct? d) : RdE ldy d w { w with y := d, z := (d == 0), n := decide (128 <= d) } := fun ad m pc t h0 h1 e g => by subst e; exact ldy_go hL7 g h0 h1 hd
theorem e_bits {f : Int -> Int -> Int} {op : AdX -> Op} (hop : op = fun ad σ k => ad σ fun i σ => rd σ.m i fun v => fnz (f σ.a v) { σ with a := f σ.a v } k) (hd : oct? (f w.a d)) : RdE op d w { w with a := f w.a d, z := (f w.a d == 0), n := decide (128 <= f w.a d) } := fun ad m pc t h0 h1 e g => by
 subst e; exact bits_go hL7 op hop g h0 h1 hd
theorem e_adc (hd : oct? d) (ha : oct? w.a) : RdE adc d w { w with a := (d + w.a + if w.c then 1 else 0) % 256, c := decide (255 < d + w.a + if w.c then 1 else 0), z := ((d + w.a + if w.c then 1 else 0) % 256 == 0), n := decide (128 <= (d + w.a + if w.c then 1 else 0) % 256), v := (bitAnd (bitAnd (bitNot (bitXor w.a d)) (bitXor w.a (d + w.a + if w.c then 1 else 0))) 128 != 0) } := fun ad m pc t h0 h1 e g => by
 subst e; exact adc_go hL7 g h0 h1 hd ha
theorem e_sbc (hd : oct? d) (ha : oct? w.a) : RdE sbc d w { w with a := (w.a + (255 - d) + if w.c then 1 else 0) % 256, c := decide (255 < w.a + (255 - d) + if w.c then 1 else 0), z := ((w.a + (255 - d) + if w.c then 1 else 0) % 256 == 0), n := decide (128 <= (w.a + (255 - d) + if w.c then 1 else 0) % 256), v := (bitAnd (bitAnd (bitXor w.a d) (bitXor w.a (w.a + (255 - d) + if w.c then 1 else 0))) 128 != 0) } := fun ad m pc t h0 h1 e g => by
 subst e; exact sbc_go hL7 g h0 h1 hd ha
theorem e_cmp (hd : oct? d) (ha : oct? w.a) : RdE (fun ad => cmp ad fun σ => σ.a) d w { w with c := decide (d <= w.a), z := (w.a == d), n := decide (bitAnd (w.a - d) 128 = 128) } := fun ad m pc t h0 h1 e g => by
 subst e; exact cmpA_go hL7 g h0 h1 hd ha
theorem e_sta (H : LayOk S) (hl : w.vs.length = 8) (hi : i < 8) : Eff S sta i w { w with vs := w.vs.set i w.a } := fun ad m pc M g => ⟨_, M.set H hl hi w.a, sta_go hL7 g (H.in_ hi).1 (H.in_ hi).2⟩
theorem e_stx (H : LayOk S) (hl : w.vs.length = 8) (hi : i < 8) : Eff S stx i w { w with vs := w.vs.set i w.x } := fun ad m pc M g => ⟨_, M.set H hl hi w.x, stx_go hL7 g (H.in_ hi).1 (H.in_ hi).2⟩
theorem e_sty (H : LayOk S) (hl : w.vs.length = 8) (hi : i < 8) : Eff S sty i w { w with vs := w.vs.set i w.y } := fun ad m pc M g => ⟨_, M.set H hl hi w.y, sty_go hL7 g (H.in_ hi).1 (H.in_ hi).2⟩
theorem e_rmw {f : Int -> Cpu -> (Int -> CK) -> Prop} {r : Int} {w₁ : W} (H : LayOk S) (hl : w.vs.length = 8) (hi : i < 8) (s : Same w w₁) (g : ∀ m pc, ShGo 65536 f (w.vs.getD i 0) (w.q m pc) r (w₁.q m pc)) : Eff S (fun ad => onM ad f) i w { w₁ with vs := w.vs.set i r } := fun ad m pc M ga =>
 ⟨upd m (S.cl i) r, by dsimp only; rw [s.2.1, s.2.2]; exact M.set H hl hi r, onM_go hL7 ga (H.in_ hi).1 (H.in_ hi).2 (by have := g m pc; rw [show (w.q m pc).m (S.cl i) = w.vs.getD i 0 from M.cell i hi]; exact this)⟩
end
section
variable {S : Lay} {w w' : W} {i : Nat} {d b b' o : Int} {k : Nat} {P : Q -> Prop} {l : List Int}
theorem RW.le {k k' : Nat} (h : RW S k b w P) (e : k <= k') : RW S k' b w P := fun m M => (h m M).le e
theorem rw_step {j : Op} (H : LayOk S) (hm : code1 o j ∈ codes7) (C : CodeAt S b (o :: l)) (g : ∀ m, Mem S w.vs w.cnt w.top m -> ∃ m', Mem S w'.vs w'.cnt w'.top m' /\ OpGo 65536 j (w.q m (b + 1)) (w'.q m' b')) (c0 : 0 <= b') (c1 : b' < 65536)
  (K : RW S k b' w' P) : RW S (k + 1) b w P := fun m M => by
 obtain ⟨m', M', go⟩ := g m M
 have h1 := C.hi; have h2 := C.lo; have h3 := H.hE
 rw [List.length_cons] at h1
 exact reach_one (q := w.q m b) (C.get H M (i := 0) (Nat.zero_lt_succ _) (show b = b + ((0 : Nat) : Int) by lia)) hm (by show 0 <= b; lia) (by show b + 1 < 65536; lia) (by show b < S.E; lia) go c0 c1 (K m' M')
theorem CodeAt.cons {S : Lay} {b x : Int} {l : List Int} (C : CodeAt S b (x :: l)) : CodeAt S (b + 1) l := C.r (l := [x])
theorem CodeAt.bd (H : LayOk S) {l : List Int} (C : CodeAt S b l) : 0 <= b + l.length /\ b + l.length < 65536 := by
 have h1 := C.hi; have h2 := C.lo; have h3 := H.hE
 lia
theorem r_reg {j : Op} (H : LayOk S) (hm : code1 o j ∈ codes7) (C : CodeAt S b (o :: l)) (g : ∀ m, OpGo 65536 j (w.q m (b + 1)) (w'.q m (b + 1))) (s : Same w w') (K : RW S k (b + 1) w' P) : RW S (k + 1) b w P :=
 have hb := C.l (l := [o]) |>.bd H
 rw_step H hm C (fun m M => ⟨m, by rw [s.1, s.2.1, s.2.2]; exact M, g m⟩) hb.1 hb.2 K
theorem r_imm {op : AdX -> Op} {u : Int} (H : LayOk S) (hm : code1 o (adv 1 (op immX)) ∈ codes7) (C : CodeAt S b (o :: u :: l)) (e : RdE op u w w') (s : Same w w') (K : RW S k (b + 2) w' P) : RW S (k + 1) b w P := by
 have hb := (C.l (l := [o, u])).bd H
 have h2 := C.lo
 have hb2 : b + 2 < 65536 := hb.2
 have e2 : b + 1 + 1 = b + 2 := Int.add_assoc b 1 1
 refine rw_step H hm C (fun m M => ⟨m, by rw [s.1, s.2.1, s.2.2]; exact M, ?_⟩) (by lia) hb2 K
 have g := adv_go (n := 1) (e immX m (b + 1) (b + 1) (by lia) (by lia) (C.get H M (i := 1) (by simp) rfl) immG)
 rw [<- e2]
 exact g
noncomputable def ixL : Option (Bool × Int) -> List Int
 | none => []
 | some (false, v) => [162, v]
 | some (true, v) => [160, v]
noncomputable def ixW : Option (Bool × Int) -> W -> W
 | none, w => w
 | some (false, v), w => { w with x := v, z := (v == 0), n := decide (128 <= v) }
 | some (true, v), w => { w with y := v, z := (v == 0), n := decide (128 <= v) }
noncomputable def ixAt : Option (Bool × Int) -> W -> Prop
 | none, _ => True
 | some (false, v), w => w.x = v
 | some (true, v), w => w.y = v
noncomputable def Hits (S : Lay) (i : Nat) (ix : Option (Bool × Int)) (md : Md) (opn : List Int) : Prop := ∀ (c : Bool) (w : W) (m : Int -> Int) (pc : Int), Mem S w.vs w.cnt w.top m -> CodeAt S pc opn -> ixAt ix w -> AxGo 65536 (md.ad c) (w.q m pc) (S.cl i)
structure IsDo (cl : Nat -> Int) (o : Int) (R : Bool -> Prop) (mds : List Md) (i : Nat) (l : List Int) : Prop where
 ex : ∃ ix md opn, md ∈ mds /\ l = ixL ix ++ (o + 4 * md.col) :: opn /\ (∀ b v, ix = some (b, v) -> R b /\ oct? v) /\ md.len = opn.length /\ ∀ S, LayOk S -> S.cl = cl -> Hits S i ix md opn
 len : l.length <= 5
 oct : ∀ x ∈ l, oct? x
noncomputable def Idx (R : Bool -> Prop) (w w₁ : W) : Prop := ∃ x y z n, w₁ = { w with x := x, y := y, z := z, n := n } /\ oct? x /\ oct? y /\ (¬ R false -> x = w.x) /\ (¬ R true -> y = w.y)
theorem r_md {op : AdX -> Op} {md : Md} {opn : List Int} (H : LayOk S) (hm : codeM o op md ∈ codes7) (hl : md.len = opn.length) (C : CodeAt S b ((o + 4 * md.col) :: opn))
  (hh : ∀ c m, Mem S w.vs w.cnt w.top m -> AxGo 65536 (md.ad c) (w.q m (b + 1)) (S.cl i)) (e : Eff S op i w w') (K : RW S k (b + ((o + 4 * md.col) :: opn).length) w' P) : RW S (k + 1) b w P := by
 have hb := C.bd H
 refine rw_step H hm C (fun m M => ?_) hb.1 hb.2 K
 obtain ⟨m', M', go⟩ := e _ m (b + 1) M (hh _ m M)
 refine ⟨m', M', ?_⟩
 have g := adv_go (n := md.len) go
 have e2 : b + ((o + 4 * md.col) :: opn).length = b + 1 + md.len := by rw [hl, List.length_cons]; lia
 rw [e2]
 exact g
theorem imm_ldx : code1 162 (adv 1 (ldx immX)) ∈ codes7 := List.mem_append_right _ (List.mem_of_getElem? (i := 0) rfl)
theorem imm_ldy : code1 160 (adv 1 (ldy immX)) ∈ codes7 := List.mem_append_right _ (List.mem_of_getElem? (i := 1) rfl)
theorem r_do {op : AdX -> Op} {F : W -> W} {R : Bool -> Prop} {mds : List Md} (H : LayOk S) (hF : ∀ w, Wok w -> Eff S op i w (F w) /\ Wok (F w)) (hm : ∀ md ∈ mds, codeM o op md ∈ codes7) (D : IsDo S.cl o R mds i l) (ok : Wok w) (C : CodeAt S b l)
  (K : ∀ w₁, Idx R w w₁ -> Wok (F w₁) -> RW S k (b + l.length) (F w₁) P) : RW S (k + 2) b w P := by
 obtain ⟨ix, md, opn, h1, rfl, h3, h4, h5⟩ := D.ex
 have hit := h5 S H rfl
 have one : ∀ w₁, Wok w₁ -> Idx R w w₁ -> ixAt ix w₁ -> CodeAt S (b + (ixL ix).length) ((o + 4 * md.col) :: opn) -> RW S (k + 1) (b + (ixL ix).length) w₁ P := fun w₁ ok₁ I A C' => by
  obtain ⟨e1, e2⟩ := hF w₁ ok₁
  refine r_md H (hm md h1) h4 C' (fun c m M => hit c w₁ m _ M C'.cons A) e1 ?_
  have := K w₁ I e2
  rw [List.length_append] at this
  rw [Int.add_assoc]
  exact this
 rcases ix with _ | ⟨_ | _, v⟩
 ·exact RW.le (by have := one w ok ⟨w.x, w.y, w.z, w.n, rfl, ok.x, ok.y, fun _ => rfl, fun _ => rfl⟩ trivial C.r; rw [show b + (ixL none).length = b from Int.add_zero b] at this; exact this) (Nat.le_succ _)
 ·obtain ⟨hr, hv⟩ := h3 _ _ rfl
  exact r_imm (op := ldx) H imm_ldx C (e_ldx hv) ⟨rfl, rfl, rfl⟩ (one _ ⟨ok.len, ok.vs, ok.a, hv, ok.y⟩ ⟨v, w.y, _, _, rfl, hv, ok.y, fun h => absurd hr h, fun _ => rfl⟩ rfl C.r)
 ·obtain ⟨hr, hv⟩ := h3 _ _ rfl
  exact r_imm (op := ldy) H imm_ldy C (e_ldy hv) ⟨rfl, rfl, rfl⟩ (one _ ⟨ok.len, ok.vs, ok.a, ok.x, hv⟩ ⟨w.x, v, _, _, rfl, ok.x, hv, fun _ => rfl, fun h => absurd hr h⟩ rfl C.r)
end
section
variable {S : Lay} {w w' : W} {i : Nat} {d : Int}
theorem Wok.set {w : W} (ok : Wok w) (i : Nat) {r : Int} (hr : oct? r) : (w.vs.set i r).length = 8 /\ ∀ j, oct? ((w.vs.set i r).getD j 0) := by
 refine ⟨by rw [List.length_set]; exact ok.len, fun j => ?_⟩
 rw [List.getD_eq_getElem?_getD, List.getElem?_set]
 split
 ·split
  ·exact hr
  ·exact ⟨by decide, by decide⟩
 ·rw [<- List.getD_eq_getElem?_getD]; exact ok.vs j
noncomputable abbrev HF (S : Lay) (op : AdX -> Op) (i : Nat) (F : W -> W) : Prop := ∀ w, Wok w -> Eff S op i w (F w) /\ Wok (F w)
noncomputable def rdA (f : W -> Int) (w : W) : W := { w with a := f w, z := (f w == 0), n := decide (128 <= f w) }
theorem f_lda (H : LayOk S) (hi : i < 8) : HF S lda i (rdA fun w => w.vs.getD i 0) := fun _ ok => ⟨(e_lda (ok.vs i)).eff H hi ⟨rfl, rfl, rfl⟩, ok.len, ok.vs, ok.vs i, ok.x, ok.y⟩
theorem f_ldx (H : LayOk S) (hi : i < 8) : HF S ldx i (fun w => { w with x := w.vs.getD i 0, z := (w.vs.getD i 0 == 0), n := decide (128 <= w.vs.getD i 0) }) := fun _ ok => ⟨(e_ldx (ok.vs i)).eff H hi ⟨rfl, rfl, rfl⟩, ok.len, ok.vs, ok.a, ok.vs i, ok.y⟩
theorem f_ldy (H : LayOk S) (hi : i < 8) : HF S ldy i (fun w => { w with y := w.vs.getD i 0, z := (w.vs.getD i 0 == 0), n := decide (128 <= w.vs.getD i 0) }) := fun _ ok => ⟨(e_ldy (ok.vs i)).eff H hi ⟨rfl, rfl, rfl⟩, ok.len, ok.vs, ok.a, ok.x, ok.vs i⟩
theorem and_oct {x y : Int} (a : oct? x) (b : oct? y) : oct? (bitAnd x y) := by
 rw [bitAnd_pp a.1 b.1]
 have := Nat.and_le_left (n := x.toNat) (m := y.toNat)
 have h := a.2
 exact ⟨by lia, by lia⟩
theorem or_oct {x y : Int} (a : oct? x) (b : oct? y) : oct? (bitOr x y) := by
 rw [bitOr_and, bitAnd_pp a.1 b.1]
 have h1 := nat_or_add_and x.toNat y.toNat
 have h2 : x.toNat ||| y.toNat < 2 ^ 8 := Nat.or_lt_two_pow (by have := a.2; omega) (by have := b.2; omega)
 have := a.1; have := b.1
 exact ⟨by omega, by omega⟩
theorem f_ora (H : LayOk S) (hi : i < 8) : HF S ora i (rdA fun w => bitOr w.a (w.vs.getD i 0)) := fun _ ok => ⟨(e_bits (f := bitOr) rfl (or_oct ok.a (ok.vs i))).eff H hi ⟨rfl, rfl, rfl⟩, ok.len, ok.vs, or_oct ok.a (ok.vs i), ok.x, ok.y⟩
theorem f_and (H : LayOk S) (hi : i < 8) : HF S and_ i (rdA fun w => bitAnd w.a (w.vs.getD i 0)) := fun _ ok => ⟨(e_bits (f := bitAnd) rfl (and_oct ok.a (ok.vs i))).eff H hi ⟨rfl, rfl, rfl⟩, ok.len, ok.vs, and_oct ok.a (ok.vs i), ok.x, ok.y⟩
theorem f_eor (H : LayOk S) (hi : i < 8) : HF S eor i (rdA fun w => bitXor w.a (w.vs.getD i 0)) := fun _ ok => ⟨(e_bits (f := bitXor) rfl (xor_oct ok.a (ok.vs i))).eff H hi ⟨rfl, rfl, rfl⟩, ok.len, ok.vs, xor_oct ok.a (ok.vs i), ok.x, ok.y⟩
theorem m256o {x : Int} : oct? (x % 256) := ⟨Int.emod_nonneg _ (by decide), Int.emod_lt_of_pos _ (by decide)⟩
noncomputable def cI (c : Bool) : Int := if c then 1 else 0
noncomputable def adW (i : Nat) (w : W) : W := { w with a := (w.vs.getD i 0 + w.a + cI w.c) % 256, c := decide (255 < w.vs.getD i 0 + w.a + cI w.c), z := ((w.vs.getD i 0 + w.a + cI w.c) % 256 == 0), n := decide (128 <= (w.vs.getD i 0 + w.a + cI w.c) % 256), v := (bitAnd (bitAnd (bitNot (bitXor w.a (w.vs.getD i 0))) (bitXor w.a (w.vs.getD i 0 + w.a + cI w.c))) 128 != 0) }
theorem f_adc (H : LayOk S) (hi : i < 8) : HF S adc i (adW i) := fun _ ok => ⟨(e_adc (ok.vs i) ok.a).eff H hi ⟨rfl, rfl, rfl⟩, ok.len, ok.vs, m256o, ok.x, ok.y⟩
noncomputable def sbW (i : Nat) (w : W) : W := { w with a := (w.a + (255 - w.vs.getD i 0) + cI w.c) % 256, c := decide (255 < w.a + (255 - w.vs.getD i 0) + cI w.c), z := ((w.a + (255 - w.vs.getD i 0) + cI w.c) % 256 == 0), n := decide (128 <= (w.a + (255 - w.vs.getD i 0) + cI w.c) % 256), v := (bitAnd (bitAnd (bitXor w.a (w.vs.getD i 0)) (bitXor w.a (w.a + (255 - w.vs.getD i 0) + cI w.c))) 128 != 0) }
theorem f_sbc (H : LayOk S) (hi : i < 8) : HF S sbc i (sbW i) := fun _ ok => ⟨(e_sbc (ok.vs i) ok.a).eff H hi ⟨rfl, rfl, rfl⟩, ok.len, ok.vs, m256o, ok.x, ok.y⟩
noncomputable def cpW (i : Nat) (w : W) : W := { w with c := decide (w.vs.getD i 0 <= w.a), z := (w.a == w.vs.getD i 0), n := decide (bitAnd (w.a - w.vs.getD i 0) 128 = 128) }
theorem f_cmp (H : LayOk S) (hi : i < 8) : HF S (fun ad => cmp ad fun σ => σ.a) i (cpW i) := fun _ ok => ⟨(e_cmp (ok.vs i) ok.a).eff H hi ⟨rfl, rfl, rfl⟩, ok.len, ok.vs, ok.a, ok.x, ok.y⟩
theorem f_sta (H : LayOk S) (hi : i < 8) : HF S sta i (fun w => { w with vs := w.vs.set i w.a }) := fun _ ok => ⟨e_sta H ok.len hi, (ok.set i ok.a).1, (ok.set i ok.a).2, ok.a, ok.x, ok.y⟩
theorem f_stx (H : LayOk S) (hi : i < 8) : HF S stx i (fun w => { w with vs := w.vs.set i w.x }) := fun _ ok => ⟨e_stx H ok.len hi, (ok.set i ok.x).1, (ok.set i ok.x).2, ok.a, ok.x, ok.y⟩
theorem f_sty (H : LayOk S) (hi : i < 8) : HF S sty i (fun w => { w with vs := w.vs.set i w.y }) := fun _ ok => ⟨e_sty H ok.len hi, (ok.set i ok.y).1, (ok.set i ok.y).2, ok.a, ok.x, ok.y⟩
noncomputable def mvW (i : Nat) (r : W -> Int) (c z n : W -> Bool) (w : W) : W := { w with vs := w.vs.set i (r w), c := c w, z := z w, n := n w }
theorem f_rmw {f : Int -> Cpu -> (Int -> CK) -> Prop} {r : W -> Int} {c z n : W -> Bool} (H : LayOk S) (hi : i < 8) (hr : ∀ w, Wok w -> oct? (r w)) (g : ∀ w m pc, Wok w -> ShGo 65536 f (w.vs.getD i 0) (w.q m pc) (r w) ({ w with c := c w, z := z w, n := n w }.q m pc)) : HF S (fun ad => onM ad f) i (mvW i r c z n) := fun w ok =>
 ⟨e_rmw (w₁ := { w with c := c w, z := z w, n := n w }) H ok.len hi ⟨rfl, rfl, rfl⟩ (fun m pc => g w m pc ok), (ok.set i (hr w ok)).1, (ok.set i (hr w ok)).2, ok.a, ok.x, ok.y⟩
noncomputable def shR : Nat -> Int -> Bool -> Int
 | 0, d, _ => 2 * d % 256
 | 1, d, c => (2 * d + cI c) % 256
 | 2, d, _ => d / 2
 | _, d, c => d / 2 + if c then 128 else 0
noncomputable def shC : Nat -> Int -> Bool
 | 0, d => decide (128 <= d)
 | 1, d => decide (128 <= d)
 | _, d => decide (d % 2 = 1)
noncomputable def shN : Nat -> Int -> Bool -> Bool
 | 2, _, _ => false
 | j, d, c => decide (128 <= shR j d c)
noncomputable def shF : Nat -> Int -> Cpu -> (Int -> CK) -> Prop
 | 0 => aslF
 | 1 => rolF
 | 2 => lsrF
 | _ => rorF
theorem shR_oct {j : Nat} {d : Int} {c : Bool} (hd : oct? d) : oct? (shR j d c) := by
 have h1 := hd.1; have h2 := hd.2
 match j with
 | 0 => exact m256o
 | 1 => exact m256o
 | 2 => exact ⟨by show 0 <= d / 2; lia, by show d / 2 < 256; lia⟩
 | j + 3 => cases c with
  | true => exact ⟨by show 0 <= d / 2 + 128; lia, by show d / 2 + 128 < 256; lia⟩
  | false => exact ⟨by show 0 <= d / 2 + 0; lia, by show d / 2 + 0 < 256; lia⟩
theorem sh_go {q : Q} {j : Nat} {d : Int} (hd : oct? d) : ShGo 65536 (shF j) d q (shR j d q.c) { q with c := shC j d, z := (shR j d q.c == 0), n := shN j d q.c } := by
 match j with
 | 0 => exact asl_sh hd
 | 1 => exact rol_sh hd
 | 2 => exact lsr_sh hd
 | j + 3 => exact ror_sh hd
theorem f_sh (j : Nat) (H : LayOk S) (hi : i < 8) : HF S (fun ad => onM ad (shF j)) i (mvW i (fun w => shR j (w.vs.getD i 0) w.c) (fun w => shC j (w.vs.getD i 0)) (fun w => (shR j (w.vs.getD i 0) w.c == 0)) (fun w => shN j (w.vs.getD i 0) w.c)) :=
 f_rmw H hi (fun w ok => shR_oct (ok.vs i)) fun w m pc ok => sh_go (ok.vs i)
theorem f_dec (H : LayOk S) (hi : i < 8) : HF S (fun ad => onM ad decF) i (mvW i (fun w => (w.vs.getD i 0 - 1) % 256) (fun w => w.c) (fun w => ((w.vs.getD i 0 - 1) % 256 == 0)) (fun w => decide (128 <= (w.vs.getD i 0 - 1) % 256))) :=
 f_rmw H hi (fun w ok => m256o) fun w m pc ok => dec_sh
theorem f_inc (H : LayOk S) (hi : i < 8) : HF S (fun ad => onM ad incF) i (mvW i (fun w => (w.vs.getD i 0 + 1) % 256) (fun w => w.c) (fun w => ((w.vs.getD i 0 + 1) % 256 == 0)) (fun w => decide (128 <= (w.vs.getD i 0 + 1) % 256))) :=
 f_rmw H hi (fun w ok => m256o) fun w m pc ok => inc_sh
end
theorem memA {o : Int} {op : AdX -> Op} (j : Nat) (h : opsA[j]? = some (o, op)) : ∀ md ∈ mdsA, codeM o op md ∈ codes7 := fun md hm =>
 List.mem_append_left _ (List.mem_append_left _ (List.mem_append_left _ (List.mem_append_left _ (List.mem_append_left _ (List.mem_flatMap.mpr ⟨_, List.mem_of_getElem? h, List.mem_map_of_mem hm⟩)))))
theorem memM' {o : Int} {op : AdX -> Op} (j : Nat) (h : opsM[j]? = some (o, op)) : ∀ md ∈ mdsM, codeM o op md ∈ codes7 := fun md hm =>
 List.mem_append_left _ (List.mem_append_left _ (List.mem_append_left _ (List.mem_append_left _ (List.mem_append_right _ (List.mem_flatMap.mpr ⟨_, List.mem_of_getElem? h, List.mem_map_of_mem hm⟩)))))
theorem memLx : ∀ md ∈ mdsY, codeM 162 ldx md ∈ codes7 := fun md hm => List.mem_append_left _ (List.mem_append_left _ (List.mem_append_left _ (List.mem_append_right _ (List.mem_map_of_mem hm))))
theorem memSx : ∀ md ∈ [mZ, mZy, mW], codeM 130 stx md ∈ codes7 := fun md hm => List.mem_append_left _ (List.mem_append_left _ (List.mem_append_right _ (List.mem_map_of_mem hm)))
theorem memSy : ∀ md ∈ [mZ, mZx, mW], codeM 128 sty md ∈ codes7 := fun md hm => List.mem_append_left _ (List.mem_append_right _ (List.mem_map_of_mem hm))
theorem mem1 {e : Int × Op} (j : Nat) (h : codes1[j]? = some e) : e ∈ codes7 := List.mem_append_right _ (List.mem_of_getElem? h)
noncomputable def Ex (S : Lay) (l : List Int) (n : Nat) (w : W) (T : W -> Prop) : Prop := ∀ (b : Int) (k : Nat) (P : Q -> Prop), CodeAt S b l -> (∀ w', T w' -> RW S k (b + l.length) w' P) -> RW S (k + n) b w P
theorem Ex.seq {S : Lay} {l₁ l₂ : List Int} {n₁ n₂ : Nat} {w : W} {T₁ T₂ : W -> Prop} (h₁ : Ex S l₁ n₁ w T₁) (h₂ : ∀ w₁, T₁ w₁ -> Ex S l₂ n₂ w₁ T₂) : Ex S (l₁ ++ l₂) (n₁ + n₂) w T₂ := fun b k P C K => by
 have := h₁ b (k + n₂) P C.l fun w₁ t₁ => h₂ w₁ t₁ (b + l₁.length) k P C.r fun w' t => by
  have := K w' t
  rw [List.length_append, Int.natCast_add, <- Int.add_assoc] at this
  exact this
 rw [show k + (n₁ + n₂) = k + n₂ + n₁ by lia]
 exact this
theorem Ex.imp {S : Lay} {l : List Int} {n : Nat} {w : W} {T T' : W -> Prop} (h : Ex S l n w T) (i : ∀ w', T w' -> T' w') : Ex S l n w T' := fun b k P C K => h b k P C fun w' t => K w' (i w' t)
theorem Ex.le {S : Lay} {l : List Int} {n n' : Nat} {w : W} {T : W -> Prop} (h : Ex S l n w T) (e : n <= n') : Ex S l n' w T := fun b k P C K => (h b k P C K).le (Nat.add_le_add_left e k)
theorem Ex.nil {S : Lay} {w : W} {T : W -> Prop} (h : T w) : Ex S [] 0 w T := fun b k P C K => by
 have := K w h
 rw [show b + (([] : List Int).length : Int) = b from Int.add_zero b] at this
 exact this
structure Fin (w w' : W) (r : List Int × Int) : Prop where
 vs : w'.vs = r.1
 top : w'.top = r.2
 cnt : w'.cnt = w.cnt
 sp : w'.sp = w.sp
 ok : Wok w'
noncomputable def RA : Bool -> Prop := fun _ => True
noncomputable def RX : Bool -> Prop := fun b => b = false
noncomputable def RY : Bool -> Prop := fun b => b = true
section
variable {S : Lay} {w w' : W} {i one two : Nat} {o : Int} {R : Bool -> Prop} {mds : List Md} {l l₁ l₂ l₃ : List Int}
theorem x_do {op : AdX -> Op} {F : W -> W} (H : LayOk S) (hF : HF S op i F) (hm : ∀ md ∈ mds, codeM o op md ∈ codes7) (D : IsDo S.cl o R mds i l) (ok : Wok w) : Ex S l 2 w fun w' => ∃ w₁, Idx R w w₁ /\ w' = F w₁ /\ Wok w' :=
 fun b k P C K => r_do H hF hm D ok C fun w₁ I ok₁ => K _ ⟨w₁, I, rfl, ok₁⟩
theorem x_reg {j : Op} (H : LayOk S) (hm : code1 o j ∈ codes7) (g : ∀ m pc, OpGo 65536 j (w.q m pc) (w'.q m pc)) (s : Same w w') : Ex S [o] 1 w fun x => x = w' := fun b k P C K => r_reg H hm C (fun m => g m _) s (K w' rfl)
theorem x_imm {op : AdX -> Op} {u : Int} (H : LayOk S) (hm : code1 o (adv 1 (op immX)) ∈ codes7) (e : RdE op u w w') (s : Same w w') : Ex S [o, u] 1 w fun x => x = w' := fun b k P C K => r_imm H hm C e s (K w' rfl)
theorem x_clc (H : LayOk S) : Ex S [24] 1 w fun x => x = { w with c := false } := x_reg H (mem1 8 rfl) (fun m pc => clc_go) ⟨rfl, rfl, rfl⟩
theorem x_sec (H : LayOk S) : Ex S [56] 1 w fun x => x = { w with c := true } := x_reg H (mem1 9 rfl) (fun m pc => sec_go) ⟨rfl, rfl, rfl⟩
theorem x_ldaI {u : Int} (H : LayOk S) (hu : oct? u) : Ex S [169, u] 1 w fun x => x = { w with a := u, z := (u == 0), n := decide (128 <= u) } := x_imm H (mem1 2 rfl) (e_lda hu) ⟨rfl, rfl, rfl⟩
theorem x_tax (H : LayOk S) (ok : Wok w) : Ex S [170] 1 w fun x => x = { w with x := w.a, z := (w.a == 0), n := decide (128 <= w.a) } := x_reg H (mem1 10 rfl) (fun m pc => toX_go (fun σ A => A.a) ok.a) ⟨rfl, rfl, rfl⟩
theorem x_txa (H : LayOk S) (ok : Wok w) : Ex S [138] 1 w fun x => x = { w with a := w.x, z := (w.x == 0), n := decide (128 <= w.x) } := x_reg H (mem1 11 rfl) (fun m pc => toA_go (fun σ A => A.x) ok.x) ⟨rfl, rfl, rfl⟩
theorem x_tay (H : LayOk S) (ok : Wok w) : Ex S [168] 1 w fun x => x = { w with y := w.a, z := (w.a == 0), n := decide (128 <= w.a) } := x_reg H (mem1 12 rfl) (fun m pc => toY_go (fun σ A => A.a) ok.a) ⟨rfl, rfl, rfl⟩
theorem x_tya (H : LayOk S) (ok : Wok w) : Ex S [152] 1 w fun x => x = { w with a := w.y, z := (w.y == 0), n := decide (128 <= w.y) } := x_reg H (mem1 13 rfl) (fun m pc => toA_go (fun σ A => A.y) ok.y) ⟨rfl, rfl, rfl⟩
theorem x_inx (H : LayOk S) : Ex S [232] 1 w fun x => x = { w with x := (w.x + 1) % 256, z := ((w.x + 1) % 256 == 0), n := decide (128 <= (w.x + 1) % 256) } := x_reg H (mem1 16 rfl) (fun m pc => toX_go (fun σ A => by rw [bitAnd_m8, A.x]; rfl) m256o) ⟨rfl, rfl, rfl⟩
theorem x_dex (H : LayOk S) : Ex S [202] 1 w fun x => x = { w with x := (w.x - 1) % 256, z := ((w.x - 1) % 256 == 0), n := decide (128 <= (w.x - 1) % 256) } := x_reg H (mem1 17 rfl) (fun m pc => toX_go (fun σ A => by rw [bitAnd_m8, A.x]; rfl) m256o) ⟨rfl, rfl, rfl⟩
theorem x_iny (H : LayOk S) : Ex S [200] 1 w fun x => x = { w with y := (w.y + 1) % 256, z := ((w.y + 1) % 256 == 0), n := decide (128 <= (w.y + 1) % 256) } := x_reg H (mem1 18 rfl) (fun m pc => toY_go (fun σ A => by rw [bitAnd_m8, A.y]; rfl) m256o) ⟨rfl, rfl, rfl⟩
theorem x_dey (H : LayOk S) : Ex S [136] 1 w fun x => x = { w with y := (w.y - 1) % 256, z := ((w.y - 1) % 256 == 0), n := decide (128 <= (w.y - 1) % 256) } := x_reg H (mem1 19 rfl) (fun m pc => toY_go (fun σ A => by rw [bitAnd_m8, A.y]; rfl) m256o) ⟨rfl, rfl, rfl⟩
theorem x_shA (j : Nat) (hj : j < 4) (H : LayOk S) (ok : Wok w) : Ex S [10 + 32 * (j : Int)] 1 w fun x => x = { w with a := shR j w.a w.c, c := shC j w.a, z := (shR j w.a w.c == 0), n := shN j w.a w.c } := by
 have x : code1 (10 + 32 * (j : Int)) (onA (shF j)) ∈ codes7 := of4 (P := fun j => code1 (10 + 32 * (j : Int)) (onA (shF j)) ∈ codes7) (mem1 4 rfl) (mem1 5 rfl) (mem1 6 rfl) (mem1 7 rfl) hj
 exact x_reg H x (fun m pc => onA_go (sh_go ok.a)) ⟨rfl, rfl, rfl⟩
theorem x_pha (H : LayOk S) (ok : Wok w) (hs : w.sp = 255) : Ex S [72] 1 w fun x => x = { w with top := w.a, sp := 254 } := fun b k P C K => by
 have hb := C.bd H
 refine rw_step H (mem1 14 rfl) C (fun m M => ⟨upd m 511 w.a, M.setT H w.a, ?_⟩) hb.1 hb.2 (K _ rfl)
 have := pha_go (q := w.q m (b + 1)) hL7 (by decide) (show oct? w.sp by rw [hs]; exact ⟨by decide, by decide⟩) ok.a
 unfold W.q at this ⊢
 dsimp only at this ⊢
 rw [hs] at this ⊢
 exact this
theorem pla_go' {q : Q} {t s : Int} (es : (q.sp + 1) % 256 = s) (e : q.m (s + 256) = t) (ht : oct? t) : OpGo 65536 pla q { q with a := t, sp := s, z := (t == 0), n := decide (128 <= t) } := by
 subst es
 subst e
 exact pla_go hL7 (by decide) ht
theorem x_pla (H : LayOk S) (ht : oct? w.top) (hs : w.sp = 254) : Ex S [104] 1 w fun x => x = { w with a := w.top, sp := 255, z := (w.top == 0), n := decide (128 <= w.top) } := fun b k P C K => by
 have hb := C.bd H
 exact rw_step (w' := { w with a := w.top, sp := 255, z := (w.top == 0), n := decide (128 <= w.top) }) H (mem1 15 rfl) C (fun m M => ⟨m, M, pla_go' (q := w.q m (b + 1)) (show (w.sp + 1) % 256 = 255 by rw [hs]; rfl) M.top ht⟩) hb.1 hb.2 (K _ rfl)
end
theorem Wok.setA {w : W} (ok : Wok w) {a : Int} (ha : oct? a) (z n : Bool) : Wok { w with a := a, z := z, n := n } := ⟨ok.len, ok.vs, ha, ok.x, ok.y⟩
noncomputable def up4 (j : Nat) : Nat := if j < 2 then 1 else 3
noncomputable def leaf7 (j : Nat) (e : Bool) (one two : Nat) (vs : List Int) : List Int :=
 (vs.set one (shR j (vs.getD one 0) e)).set two (shR (up4 j) ((vs.set one (shR j (vs.getD one 0) e)).getD two 0) (shC j (vs.getD one 0)))
noncomputable def sum11 (s : Bool) (x y : Int) : Int := if s then x + y else x - y
noncomputable def leaf11 (s : Bool) (one two : Nat) (vs : List Int) : List Int :=
 (vs.set one (sum11 s (vs.getD one 0) (vs.getD two 0) % 256)).set ((one + 1) % 8)
  ((sum11 s ((vs.set one (sum11 s (vs.getD one 0) (vs.getD two 0) % 256)).getD ((one + 1) % 8) 0) ((vs.set one (sum11 s (vs.getD one 0) (vs.getD two 0) % 256)).getD ((two + 1) % 8) 0) + sum11 s (vs.getD one 0) (vs.getD two 0) / 256) % 256)
section
variable {S : Lay} {w w' : W} {one two : Nat} {o : Int} {l l₁ l₂ l₃ l₄ : List Int} {cl : Nat -> Int}
noncomputable abbrev IsA (S : Lay) (o : Int) (i : Nat) (l : List Int) : Prop := IsDo S.cl o RA mdsA i l
noncomputable abbrev IsM (S : Lay) (o : Int) (i : Nat) (l : List Int) : Prop := IsDo S.cl o RX mdsM i l
theorem leaf_0 (H : LayOk S) (ok : Wok w) (h1 : one < 8) (ho : oct? o) (D : IsA S 129 one l) : Ex S ([169, o] ++ l) 3 w fun w' => Fin w w' (w.vs.set one o, w.top) :=
 Ex.seq (n₁ := 1) (n₂ := 2) (x_ldaI H ho) fun w₁ e => by
  subst e
  refine (x_do H (f_sta H h1) (memA 4 rfl) D (ok.setA ho _ _)).imp ?_
  rintro _ ⟨_, ⟨x, y, z, n, rfl, -⟩, rfl, ok₁⟩
  exact ⟨rfl, rfl, rfl, rfl, ok₁⟩
theorem leaf_1 {way : List Int} (H : LayOk S) (ok : Wok w) (h1 : one < 8) (h2 : two < 8) (ho : oct? o) (hw : way = [] \/ way = [170, 169, o, 138] \/ way = [168, 169, o, 152]) (D₁ : IsA S 161 two l₁) (D₂ : IsA S 129 one l₂) :
  Ex S ((l₁ ++ way) ++ l₂) 7 w fun w' => Fin w w' (w.vs.set one (w.vs.getD two 0), w.top) := by
 have st : ∀ w₁ : W, Wok w₁ -> w₁.vs = w.vs -> w₁.top = w.top -> w₁.cnt = w.cnt -> w₁.sp = w.sp -> w₁.a = w.vs.getD two 0 -> Ex S l₂ 2 w₁ fun w' => Fin w w' (w.vs.set one (w.vs.getD two 0), w.top) := fun w₁ ok₁ e1 e2 e3 e4 e5 => by
  refine (x_do H (f_sta H h1) (memA 4 rfl) D₂ ok₁).imp ?_
  rintro _ ⟨_, ⟨x, y, z, n, rfl, -⟩, rfl, ok₂⟩
  exact ⟨show w₁.vs.set one w₁.a = _ by rw [e1, e5], e2, e3, e4, ok₂⟩
 refine Ex.seq (n₁ := 5) (n₂ := 2) (T₁ := fun w₁ => Wok w₁ /\ w₁.vs = w.vs /\ w₁.top = w.top /\ w₁.cnt = w.cnt /\ w₁.sp = w.sp /\ w₁.a = w.vs.getD two 0) ?_ fun w₁ h => st w₁ h.1 h.2.1 h.2.2.1 h.2.2.2.1 h.2.2.2.2.1 h.2.2.2.2.2
 refine Ex.seq (n₁ := 2) (n₂ := 3) (x_do H (f_lda H h2) (memA 5 rfl) D₁ ok) ?_
 rintro _ ⟨_, ⟨x, y, z, n, rfl, -⟩, rfl, ok₁⟩
 rcases hw with rfl | rfl | rfl
 ·exact (Ex.nil ⟨ok₁, rfl, rfl, rfl, rfl, rfl⟩).le (Nat.zero_le _)
 ·refine Ex.seq (l₁ := [170]) (l₂ := [169, o, 138]) (n₁ := 1) (n₂ := 2) (x_tax H ok₁) fun w₂ e => ?_
  subst e
  refine Ex.seq (l₁ := [169, o]) (l₂ := [138]) (n₁ := 1) (n₂ := 1) (x_ldaI H ho) fun w₃ e => ?_
  subst e
  refine (x_txa H (Wok.setA (w := { w with a := w.vs.getD two 0, x := w.vs.getD two 0, y := y }) ⟨ok.len, ok.vs, ok₁.a, ok₁.a, ok₁.y⟩ ho _ _)).imp fun w₄ e => ?_
  subst e
  exact ⟨⟨ok.len, ok.vs, ok₁.a, ok₁.a, ok₁.y⟩, rfl, rfl, rfl, rfl, rfl⟩
 ·refine Ex.seq (l₁ := [168]) (l₂ := [169, o, 152]) (n₁ := 1) (n₂ := 2) (x_tay H ok₁) fun w₂ e => ?_
  subst e
  refine Ex.seq (l₁ := [169, o]) (l₂ := [152]) (n₁ := 1) (n₂ := 1) (x_ldaI H ho) fun w₃ e => ?_
  subst e
  refine (x_tya H (Wok.setA (w := { w with a := w.vs.getD two 0, x := x, y := w.vs.getD two 0 }) ⟨ok.len, ok.vs, ok₁.a, ok₁.x, ok₁.a⟩ ho _ _)).imp fun w₄ e => ?_
  subst e
  exact ⟨⟨ok.len, ok.vs, ok₁.a, ok₁.x, ok₁.a⟩, rfl, rfl, rfl, rfl, rfl⟩
theorem leaf_5 {before : List Int} {c : Option Bool} {f : Int -> Int -> Int} {F : W -> W} {op : AdX -> Op} (H : LayOk S) (ok : Wok w) (h1 : one < 8) (hb : before = match c with | none => [] | some false => [24] | some true => [56])
  (hF : HF S op two F) (hm : ∀ md ∈ mdsA, codeM o op md ∈ codes7) (e : ∀ w₁, w₁.vs = w.vs -> w₁.a = w.vs.getD one 0 -> (∀ b, c = some b -> w₁.c = b) -> (F w₁).a = f (w.vs.getD one 0) (w.vs.getD two 0) /\ Same w₁ (F w₁) /\ (F w₁).sp = w₁.sp)
  (D₁ : IsA S 161 one l₁) (D₂ : IsA S o two l₂) (D₃ : IsA S 129 one l₃) : Ex S (((l₁ ++ before) ++ l₂) ++ l₃) 7 w fun w' => Fin w w' (w.vs.set one (f (w.vs.getD one 0) (w.vs.getD two 0)), w.top) := by
 refine Ex.seq (n₁ := 5) (n₂ := 2) (T₁ := fun w₁ => Wok w₁ /\ w₁.vs = w.vs /\ w₁.top = w.top /\ w₁.cnt = w.cnt /\ w₁.sp = w.sp /\ w₁.a = f (w.vs.getD one 0) (w.vs.getD two 0)) ?_ fun w₁ h => ?_
 ·refine Ex.seq (n₁ := 3) (n₂ := 2) (T₁ := fun w₁ => Wok w₁ /\ w₁.vs = w.vs /\ w₁.top = w.top /\ w₁.cnt = w.cnt /\ w₁.sp = w.sp /\ w₁.a = w.vs.getD one 0 /\ ∀ b, c = some b -> w₁.c = b) ?_ fun w₁ h => ?_
  ·refine Ex.seq (n₁ := 2) (n₂ := 1) (x_do H (f_lda H h1) (memA 5 rfl) D₁ ok) ?_
   rintro _ ⟨_, ⟨x, y, z, n, rfl, -⟩, rfl, ok₁⟩
   match c, hb with
   | none, hb => exact hb ▸ (Ex.nil ⟨ok₁, rfl, rfl, rfl, rfl, rfl, fun b q => nomatch q⟩).le (Nat.zero_le _)
   | some false, hb => exact hb ▸ (x_clc H).imp fun w₂ e => by subst e; exact ⟨⟨ok₁.len, ok₁.vs, ok₁.a, ok₁.x, ok₁.y⟩, rfl, rfl, rfl, rfl, rfl, fun b q => some_eq q⟩
   | some true, hb => exact hb ▸ (x_sec H).imp fun w₂ e => by subst e; exact ⟨⟨ok₁.len, ok₁.vs, ok₁.a, ok₁.x, ok₁.y⟩, rfl, rfl, rfl, rfl, rfl, fun b q => some_eq q⟩
  ·obtain ⟨ok₁, e1, e2, e3, e4, e5, e6⟩ := h
   refine (x_do H hF hm D₂ ok₁).imp ?_
   rintro _ ⟨w₂, ⟨x, y, z, n, rfl, -⟩, rfl, ok₂⟩
   obtain ⟨g1, g2, g3⟩ := e { w₁ with x := x, y := y, z := z, n := n } e1 e5 e6
   exact ⟨ok₂, g2.1.trans e1, g2.2.2.trans e2, g2.2.1.trans e3, g3.trans e4, g1⟩
 ·obtain ⟨ok₁, e1, e2, e3, e4, e5⟩ := h
  refine (x_do H (f_sta H h1) (memA 4 rfl) D₃ ok₁).imp ?_
  rintro _ ⟨_, ⟨x, y, z, n, rfl, -⟩, rfl, ok₂⟩
  exact ⟨show w₁.vs.set one w₁.a = _ by rw [e1, e5], e2, e3, e4, ok₂⟩
theorem leaf_7m {j : Nat} {e : Bool} (H : LayOk S) (ok : Wok w) (h1 : one < 8) (h2 : two < 8) (hm : ∀ md ∈ mdsM, codeM o (fun ad => onM ad (shF j)) md ∈ codes7) {o₂ : Int} (hm₂ : ∀ md ∈ mdsM, codeM o₂ (fun ad => onM ad (shF (up4 j))) md ∈ codes7)
  (D₁ : IsM S o one l₁) (D₂ : IsM S o₂ two l₂) : Ex S (([if e then 56 else 24] ++ l₁) ++ l₂) 5 w fun w' => Fin w w' (leaf7 j e one two w.vs, w.top) := by
 refine Ex.seq (n₁ := 3) (n₂ := 2) (T₁ := fun w₁ => Wok w₁ /\ w₁.vs = w.vs.set one (shR j (w.vs.getD one 0) e) /\ w₁.top = w.top /\ w₁.cnt = w.cnt /\ w₁.sp = w.sp /\ w₁.c = shC j (w.vs.getD one 0)) ?_ fun w₁ h => ?_
 ·refine Ex.seq (n₁ := 1) (n₂ := 2) (T₁ := fun w₁ => w₁ = { w with c := e }) ?_ ?_
  ·cases e
   ·exact x_clc H
   ·exact x_sec H
  ·rintro _ rfl
   refine (x_do H (f_sh j H h1) hm D₁ (⟨ok.len, ok.vs, ok.a, ok.x, ok.y⟩ : Wok { w with c := e })).imp ?_
   rintro _ ⟨_, ⟨x, y, z, n, rfl, -⟩, rfl, ok₁⟩
   exact ⟨ok₁, rfl, rfl, rfl, rfl, rfl⟩
 ·obtain ⟨ok₁, e1, e2, e3, e4, e5⟩ := h
  refine (x_do H (f_sh (up4 j) H h2) hm₂ D₂ ok₁).imp ?_
  rintro _ ⟨_, ⟨x, y, z, n, rfl, -⟩, rfl, ok₂⟩
  exact ⟨show w₁.vs.set two (shR (up4 j) (w₁.vs.getD two 0) w₁.c) = _ by rw [e1, e5]; rfl, e2, e3, e4, ok₂⟩
theorem leaf_7a {j : Nat} {e : Bool} (hj : j < 4) (H : LayOk S) (ok : Wok w) (h1 : one < 8) (h2 : two < 8) {o₂ : Int} (hm₂ : ∀ md ∈ mdsM, codeM o₂ (fun ad => onM ad (shF (up4 j))) md ∈ codes7)
  (D₁ : IsA S 161 one l₁) (D₃ : IsA S 129 one l₃) (D₂ : IsM S o₂ two l₂) : Ex S ((((l₁ ++ [if e then 56 else 24]) ++ [10 + 32 * (j : Int)]) ++ l₃) ++ l₂) 8 w fun w' => Fin w w' (leaf7 j e one two w.vs, w.top) := by
 refine Ex.seq (n₁ := 6) (n₂ := 2) (T₁ := fun w₁ => Wok w₁ /\ w₁.vs = w.vs.set one (shR j (w.vs.getD one 0) e) /\ w₁.top = w.top /\ w₁.cnt = w.cnt /\ w₁.sp = w.sp /\ w₁.c = shC j (w.vs.getD one 0)) ?_ fun w₁ h => ?_
 ·refine Ex.seq (n₁ := 4) (n₂ := 2) (T₁ := fun w₁ => Wok w₁ /\ w₁.vs = w.vs /\ w₁.top = w.top /\ w₁.cnt = w.cnt /\ w₁.sp = w.sp /\ w₁.a = shR j (w.vs.getD one 0) e /\ w₁.c = shC j (w.vs.getD one 0)) ?_ fun w₁ h => ?_
  ·refine Ex.seq (n₁ := 3) (n₂ := 1) (T₁ := fun w₁ => Wok w₁ /\ w₁.vs = w.vs /\ w₁.top = w.top /\ w₁.cnt = w.cnt /\ w₁.sp = w.sp /\ w₁.a = w.vs.getD one 0 /\ w₁.c = e) ?_ fun w₁ h => ?_
   ·refine Ex.seq (n₁ := 2) (n₂ := 1) (x_do H (f_lda H h1) (memA 5 rfl) D₁ ok) ?_
    rintro _ ⟨_, ⟨x, y, z, n, rfl, -⟩, rfl, ok₁⟩
    cases e
    ·exact (x_clc H).imp fun w₂ e => by subst e; exact ⟨⟨ok₁.len, ok₁.vs, ok₁.a, ok₁.x, ok₁.y⟩, rfl, rfl, rfl, rfl, rfl, rfl⟩
    ·exact (x_sec H).imp fun w₂ e => by subst e; exact ⟨⟨ok₁.len, ok₁.vs, ok₁.a, ok₁.x, ok₁.y⟩, rfl, rfl, rfl, rfl, rfl, rfl⟩
   ·obtain ⟨ok₁, e1, e2, e3, e4, e5, e6⟩ := h
    refine (x_shA j hj H ok₁).imp fun w₂ q => ?_
    subst q
    exact ⟨⟨ok₁.len, ok₁.vs, shR_oct ok₁.a, ok₁.x, ok₁.y⟩, e1, e2, e3, e4, show shR j w₁.a w₁.c = _ by rw [e5, e6], show shC j w₁.a = _ by rw [e5]⟩
  ·obtain ⟨ok₁, e1, e2, e3, e4, e5, e6⟩ := h
   refine (x_do H (f_sta H h1) (memA 4 rfl) D₃ ok₁).imp ?_
   rintro _ ⟨_, ⟨x, y, z, n, rfl, -⟩, rfl, ok₂⟩
   exact ⟨ok₂, show w₁.vs.set one w₁.a = _ by rw [e1, e5], e2, e3, e4, e6⟩
 ·obtain ⟨ok₁, e1, e2, e3, e4, e5⟩ := h
  refine (x_do H (f_sh (up4 j) H h2) hm₂ D₂ ok₁).imp ?_
  rintro _ ⟨_, ⟨x, y, z, n, rfl, -⟩, rfl, ok₂⟩
  exact ⟨show w₁.vs.set two (shR (up4 j) (w₁.vs.getD two 0) w₁.c) = _ by rw [e1, e5]; rfl, e2, e3, e4, ok₂⟩
theorem leaf_8 {up : Bool} (H : LayOk S) (ok : Wok w) (h1 : one < 8) (D : IsM S (if up then 226 else 194) one l) : Ex S l 2 w fun w' => Fin w w' (w.vs.set one ((w.vs.getD one 0 + if up then 1 else -1) % 256), w.top) := by
 cases up
 ·refine (x_do H (f_dec H h1) (memM' 4 rfl) D ok).imp ?_
  rintro _ ⟨_, ⟨x, y, z, n, rfl, -⟩, rfl, ok₂⟩
  exact ⟨rfl, rfl, rfl, rfl, ok₂⟩
 ·refine (x_do H (f_inc H h1) (memM' 5 rfl) D ok).imp ?_
  rintro _ ⟨_, ⟨x, y, z, n, rfl, -⟩, rfl, ok₂⟩
  exact ⟨rfl, rfl, rfl, rfl, ok₂⟩
theorem leaf_9 (H : LayOk S) (ok : Wok w) (h1 : one < 8) (h2 : two < 8) (hs : w.sp = 255) (D₁ : IsA S 161 one l₁) (D₂ : IsA S 161 two l₂) (D₃ : IsA S 129 one l₃) (D₄ : IsA S 129 two l₄) :
  Ex S (((((l₁ ++ [72]) ++ l₂) ++ l₃) ++ [104]) ++ l₄) 10 w fun w' => Fin w w' ((w.vs.set one (w.vs.getD two 0)).set two (w.vs.getD one 0), w.vs.getD one 0) := by
 refine Ex.seq (n₁ := 8) (n₂ := 2) (T₁ := fun w₁ => Wok w₁ /\ w₁.vs = w.vs.set one (w.vs.getD two 0) /\ w₁.top = w.vs.getD one 0 /\ w₁.cnt = w.cnt /\ w₁.sp = 255 /\ w₁.a = w.vs.getD one 0) ?_ fun w₁ h => ?_
 ·refine Ex.seq (n₁ := 7) (n₂ := 1) (T₁ := fun w₁ => Wok w₁ /\ w₁.vs = w.vs.set one (w.vs.getD two 0) /\ w₁.top = w.vs.getD one 0 /\ w₁.cnt = w.cnt /\ w₁.sp = 254) ?_ fun w₁ h => ?_
  ·refine Ex.seq (n₁ := 5) (n₂ := 2) (T₁ := fun w₁ => Wok w₁ /\ w₁.vs = w.vs /\ w₁.top = w.vs.getD one 0 /\ w₁.cnt = w.cnt /\ w₁.sp = 254 /\ w₁.a = w.vs.getD two 0) ?_ fun w₁ h => ?_
   ·refine Ex.seq (n₁ := 3) (n₂ := 2) (T₁ := fun w₁ => Wok w₁ /\ w₁.vs = w.vs /\ w₁.top = w.vs.getD one 0 /\ w₁.cnt = w.cnt /\ w₁.sp = 254) ?_ fun w₁ h => ?_
    ·refine Ex.seq (n₁ := 2) (n₂ := 1) (x_do H (f_lda H h1) (memA 5 rfl) D₁ ok) ?_
     rintro _ ⟨_, ⟨x, y, z, n, rfl, -⟩, rfl, ok₁⟩
     exact (x_pha H ok₁ hs).imp fun w₂ e => by subst e; exact ⟨⟨ok₁.len, ok₁.vs, ok₁.a, ok₁.x, ok₁.y⟩, rfl, rfl, rfl, rfl⟩
    ·obtain ⟨ok₁, e1, e2, e3, e4⟩ := h
     refine (x_do H (f_lda H h2) (memA 5 rfl) D₂ ok₁).imp ?_
     rintro _ ⟨_, ⟨x, y, z, n, rfl, -⟩, rfl, ok₂⟩
     exact ⟨ok₂, e1, e2, e3, e4, show w₁.vs.getD two 0 = _ by rw [e1]⟩
   ·obtain ⟨ok₁, e1, e2, e3, e4, e5⟩ := h
    refine (x_do H (f_sta H h1) (memA 4 rfl) D₃ ok₁).imp ?_
    rintro _ ⟨_, ⟨x, y, z, n, rfl, -⟩, rfl, ok₂⟩
    exact ⟨ok₂, show w₁.vs.set one w₁.a = _ by rw [e1, e5], e2, e3, e4⟩
  ·obtain ⟨ok₁, e1, e2, e3, e4⟩ := h
   refine (x_pla H (by rw [e2]; exact ok.vs one) e4).imp fun w₂ q => ?_
   subst q
   exact ⟨⟨ok₁.len, ok₁.vs, by show oct? w₁.top; rw [e2]; exact ok.vs one, ok₁.x, ok₁.y⟩, e1, e2, e3, rfl, e2⟩
 ·obtain ⟨ok₁, e1, e2, e3, e4, e5⟩ := h
  refine (x_do H (f_sta H h2) (memA 4 rfl) D₄ ok₁).imp ?_
  rintro _ ⟨_, ⟨x, y, z, n, rfl, -⟩, rfl, ok₂⟩
  exact ⟨show w₁.vs.set two w₁.a = _ by rw [e1, e5], e2, e3, e4.trans hs.symm, ok₂⟩
theorem leaf_10x {up : Bool} (H : LayOk S) (ok : Wok w) (h1 : one < 8) (h2 : two < 8) (D₁ : IsDo S.cl 162 RY mdsY two l₁) (D₂ : IsDo S.cl 130 RY [mZ, mZy, mW] one l₂) :
  Ex S ((l₁ ++ [if up then 232 else 202]) ++ l₂) 5 w fun w' => Fin w w' (w.vs.set one ((w.vs.getD two 0 + if up then 1 else -1) % 256), w.top) := by
 refine Ex.seq (n₁ := 3) (n₂ := 2) (T₁ := fun w₁ => Wok w₁ /\ w₁.vs = w.vs /\ w₁.top = w.top /\ w₁.cnt = w.cnt /\ w₁.sp = w.sp /\ w₁.x = (w.vs.getD two 0 + if up then 1 else -1) % 256) ?_ fun w₁ h => ?_
 ·refine Ex.seq (n₁ := 2) (n₂ := 1) (x_do H (f_ldx H h2) memLx D₁ ok) ?_
  rintro _ ⟨_, ⟨x, y, z, n, rfl, -⟩, rfl, ok₁⟩
  cases up
  ·exact (x_dex H).imp fun w₂ e => by subst e; exact ⟨⟨ok₁.len, ok₁.vs, ok₁.a, m256o, ok₁.y⟩, rfl, rfl, rfl, rfl, rfl⟩
  ·exact (x_inx H).imp fun w₂ e => by subst e; exact ⟨⟨ok₁.len, ok₁.vs, ok₁.a, m256o, ok₁.y⟩, rfl, rfl, rfl, rfl, rfl⟩
 ·obtain ⟨ok₁, e1, e2, e3, e4, e5⟩ := h
  refine (x_do H (f_stx H h1) memSx D₂ ok₁).imp ?_
  rintro _ ⟨_, ⟨x, y, z, n, rfl, -, -, q, -⟩, rfl, ok₂⟩
  exact ⟨show w₁.vs.set one x = _ by rw [e1, q (fun h => nomatch h), e5], e2, e3, e4, ok₂⟩
theorem leaf_10y {up : Bool} (H : LayOk S) (ok : Wok w) (h1 : one < 8) (h2 : two < 8) (D₁ : IsM S 160 two l₁) (D₂ : IsDo S.cl 128 RX [mZ, mZx, mW] one l₂) :
  Ex S ((l₁ ++ [if up then 200 else 136]) ++ l₂) 5 w fun w' => Fin w w' (w.vs.set one ((w.vs.getD two 0 + if up then 1 else -1) % 256), w.top) := by
 refine Ex.seq (n₁ := 3) (n₂ := 2) (T₁ := fun w₁ => Wok w₁ /\ w₁.vs = w.vs /\ w₁.top = w.top /\ w₁.cnt = w.cnt /\ w₁.sp = w.sp /\ w₁.y = (w.vs.getD two 0 + if up then 1 else -1) % 256) ?_ fun w₁ h => ?_
 ·refine Ex.seq (n₁ := 2) (n₂ := 1) (x_do H (f_ldy H h2) (memM' 6 rfl) D₁ ok) ?_
  rintro _ ⟨_, ⟨x, y, z, n, rfl, -⟩, rfl, ok₁⟩
  cases up
  ·exact (x_dey H).imp fun w₂ e => by subst e; exact ⟨⟨ok₁.len, ok₁.vs, ok₁.a, ok₁.x, m256o⟩, rfl, rfl, rfl, rfl, rfl⟩
  ·exact (x_iny H).imp fun w₂ e => by subst e; exact ⟨⟨ok₁.len, ok₁.vs, ok₁.a, ok₁.x, m256o⟩, rfl, rfl, rfl, rfl, rfl⟩
 ·obtain ⟨ok₁, e1, e2, e3, e4, e5⟩ := h
  refine (x_do H (f_sty H h1) memSy D₂ ok₁).imp ?_
  rintro _ ⟨_, ⟨x, y, z, n, rfl, -, -, -, q⟩, rfl, ok₂⟩
  exact ⟨show w₁.vs.set one y = _ by rw [e1, q (fun h => nomatch h), e5], e2, e3, e4, ok₂⟩
end
section
variable {S : Lay} {w w' : W} {one two : Nat} {o : Int} {l l₁ l₂ l₃ l₄ l₅ l₆ : List Int}
noncomputable def raw (s : Bool) (x y : Int) (c : Bool) : Int := if s then y + x + cI c else x + (255 - y) + cI c
theorem tri (s : Bool) (H : LayOk S) (ok : Wok w) (h1 : one < 8) (h2 : two < 8) (D₁ : IsA S 161 one l₁) (D₂ : IsA S (if s then 97 else 225) two l₂) (D₃ : IsA S 129 one l₃) : Ex S (l₁ ++ (l₂ ++ l₃)) 6 w fun w₁ =>
  Wok w₁ /\ w₁.vs = w.vs.set one (raw s (w.vs.getD one 0) (w.vs.getD two 0) w.c % 256) /\ w₁.top = w.top /\ w₁.cnt = w.cnt /\ w₁.sp = w.sp /\ w₁.c = decide (255 < raw s (w.vs.getD one 0) (w.vs.getD two 0) w.c) := by
 refine Ex.seq (n₁ := 2) (n₂ := 4) (x_do H (f_lda H h1) (memA 5 rfl) D₁ ok) ?_
 rintro _ ⟨_, ⟨x, y, z, n, rfl, -⟩, rfl, ok₁⟩
 refine Ex.seq (n₁ := 2) (n₂ := 2) (T₁ := fun w₁ => Wok w₁ /\ w₁.vs = w.vs /\ w₁.top = w.top /\ w₁.cnt = w.cnt /\ w₁.sp = w.sp /\ w₁.a = raw s (w.vs.getD one 0) (w.vs.getD two 0) w.c % 256 /\ w₁.c = decide (255 < raw s (w.vs.getD one 0) (w.vs.getD two 0) w.c)) ?_ fun w₁ h => ?_
 ·cases s
  ·refine (x_do H (f_sbc H h2) (memA 7 rfl) D₂ ok₁).imp ?_
   rintro _ ⟨_, ⟨x, y, z, n, rfl, -⟩, rfl, ok₂⟩
   exact ⟨ok₂, rfl, rfl, rfl, rfl, rfl, rfl⟩
  ·refine (x_do H (f_adc H h2) (memA 3 rfl) D₂ ok₁).imp ?_
   rintro _ ⟨_, ⟨x, y, z, n, rfl, -⟩, rfl, ok₂⟩
   exact ⟨ok₂, rfl, rfl, rfl, rfl, rfl, rfl⟩
 ·obtain ⟨ok₁, e1, e2, e3, e4, e5, e6⟩ := h
  refine (x_do H (f_sta H h1) (memA 4 rfl) D₃ ok₁).imp ?_
  rintro _ ⟨_, ⟨x, y, z, n, rfl, -⟩, rfl, ok₂⟩
  exact ⟨ok₂, show w₁.vs.set one w₁.a = _ by rw [e1, e5], e2, e3, e4, e6⟩
theorem raw1 (s : Bool) {x y : Int} : raw s x y (!s) % 256 = sum11 s x y % 256 := by
 cases s
 ·show (x + (255 - y) + 1) % 256 = (x - y) % 256
  lia
 ·show (y + x + 0) % 256 = (x + y) % 256
  lia
theorem d256 {z : Int} (h0 : 0 <= z) (h1 : z < 512) : z / 256 = cI (decide (255 < z)) := by
 by_cases h : 255 < z
 ·rw [decide_eq_true h]; show z / 256 = 1; omega
 ·rw [decide_eq_false h]; show z / 256 = 0; omega
theorem raw2 (s : Bool) {x y x' y' : Int} (hx : oct? x) (hy : oct? y) : raw s x' y' (decide (255 < raw s x y (!s))) % 256 = (sum11 s x' y' + sum11 s x y / 256) % 256 := by
 have h1 := hx.1; have h2 := hx.2; have h3 := hy.1; have h4 := hy.2
 cases s
 ·show (x' + (255 - y') + cI (decide (255 < x + (255 - y) + 1))) % 256 = (x' - y' + (x - y) / 256) % 256
  have e := d256 (z := x + (255 - y) + 1) (by lia) (by lia)
  rw [show x + (255 - y) + 1 = x - y + 1 * 256 by lia, Int.add_mul_ediv_right _ _ (by decide)] at e
  rw [show x + (255 - y) + 1 = x - y + 1 * 256 by lia, <- e, show x' + (255 - y') + ((x - y) / 256 + 1) = x' - y' + (x - y) / 256 + 256 by lia, Int.add_emod_right]
 ·show (y' + x' + cI (decide (255 < y + x + 0))) % 256 = (x' + y' + (x + y) / 256) % 256
  rw [Int.add_zero, Int.add_comm y x, Int.add_comm y' x', <- d256 (by lia) (by lia)]
theorem leaf_11 (s : Bool) (H : LayOk S) (ok : Wok w) (h1 : one < 8) (h2 : two < 8) (D₁ : IsA S 161 one l₁) (D₂ : IsA S (if s then 97 else 225) two l₂) (D₃ : IsA S 129 one l₃)
  (D₄ : IsA S 161 ((one + 1) % 8) l₄) (D₅ : IsA S (if s then 97 else 225) ((two + 1) % 8) l₅) (D₆ : IsA S 129 ((one + 1) % 8) l₆) :
  Ex S ((((((([if s then 24 else 56] ++ l₁) ++ l₂) ++ l₃) ++ l₄) ++ l₅) ++ l₆)) 13 w fun w' => Fin w w' (leaf11 s one two w.vs, w.top) := by
 have e : (((((([if s then (24 : Int) else 56] ++ l₁) ++ l₂) ++ l₃) ++ l₄) ++ l₅) ++ l₆) = [if s then 24 else 56] ++ ((l₁ ++ (l₂ ++ l₃)) ++ (l₄ ++ (l₅ ++ l₆))) := by simp only [List.append_assoc]
 rw [e]
 refine Ex.seq (n₁ := 1) (n₂ := 12) (T₁ := fun w₁ => w₁ = { w with c := !s }) ?_ ?_
 ·cases s
  ·exact x_sec H
  ·exact x_clc H
 rintro _ rfl
 refine Ex.seq (n₁ := 6) (n₂ := 6) (tri (w := { w with c := !s }) s H ⟨ok.len, ok.vs, ok.a, ok.x, ok.y⟩ h1 h2 D₁ D₂ D₃) fun w₁ h => ?_
 obtain ⟨ok₁, e1, e2, e3, e4, e5⟩ := h
 refine (tri s H ok₁ (Nat.mod_lt _ (by decide)) (Nat.mod_lt _ (by decide)) D₄ D₅ D₆).imp fun w₂ h => ?_
 obtain ⟨ok₂, f1, f2, f3, f4, -⟩ := h
 refine ⟨?_, f2.trans e2, f3.trans e3, f4.trans e4, ok₂⟩
 rw [f1, e5]
 dsimp only at e1 ⊢
 rw [raw2 s (ok.vs one) (ok.vs two), e1, raw1]
 rfl
theorem r_br {f : Int} {s bv : Bool} {b : Int} {k : Nat} {P : Q -> Prop} {u : Int} {l : List Int} (H : LayOk S) (hm : code1 o (if s then bst f else bcl f) ∈ codes7) (C : CodeAt S b (o :: u :: l)) (u0 : 0 <= u) (u1 : u < 128) (hb : b + 2 + u < 65536)
  (hf : ∀ σ m, Abs 65536 σ (w.q m (b + 1)) -> (bitAnd σ.p f != 0) = bv) (K : RW S k (if bv == s then b + 2 + u else b + 2) w P) : RW S (k + 1) b w P := by
 have h2 := C.lo
 have e : b + 1 + 1 = b + 2 := Int.add_assoc b 1 1
 refine rw_step H hm C (fun m M => ⟨m, M, ?_⟩) (by split <;> lia) (by split <;> lia) K
 have hu : m (b + 1) = u := C.get H M (i := 1) (by simp) rfl
 have p1 : (w.q m (b + 1)).m (w.q m (b + 1)).pc = u := hu
 have p2 : (w.q m (b + 1)).pc + 1 = b + 2 := e
 cases s with
 | true =>
  have := bst_go (q := w.q m (b + 1)) hL7 (fun σ A => hf σ m A) (by show 0 <= b + 1; lia) (by show b + 1 < 65536; lia) (by rw [p1]; exact u0) (by rw [p1]; exact u1) (by rw [p1, p2]; exact hb)
  rw [p1, p2] at this
  cases bv <;> exact this
 | false =>
  have := bcl_go (q := w.q m (b + 1)) hL7 (fun σ A => hf σ m A) (by show 0 <= b + 1; lia) (by show b + 1 < 65536; lia) (by rw [p1]; exact u0) (by rw [p1]; exact u1) (by rw [p1, p2]; exact hb)
  rw [p1, p2] at this
  cases bv <;> exact this
theorem r_jmp {b t lo hi : Int} {k : Nat} {P : Q -> Prop} {l : List Int} (H : LayOk S) (C : CodeAt S b (76 :: lo :: hi :: l)) (o2 : oct? hi) (ht : lo + hi * 256 = t) (t0 : 0 <= t) (t1 : t < 65536) (K : RW S k t w P) : RW S (k + 1) b w P := by
 have h2 := C.lo
 have hb := (C.l (l := [76, lo, hi])).bd H
 have hb2 : b + 3 < 65536 := hb.2
 refine rw_step H (mem1 20 rfl) C (fun m M => ⟨m, M, ?_⟩) t0 t1 K
 have e1 : m (b + 1) = lo := C.get H M (i := 1) (by simp) rfl
 have e2 : m (b + 1 + 1) = hi := C.get H M (i := 2) (by simp) (Int.add_assoc b 1 1)
 have := jmp_go (q := w.q m (b + 1)) hL7 (by show 0 <= b + 1; lia) (by show b + 1 + 1 < 65536; lia) (by show oct? (m (b + 1 + 1)); rw [e2]; exact o2)
 have e3 : (w.q m (b + 1)).m (w.q m (b + 1)).pc + (w.q m (b + 1)).m ((w.q m (b + 1)).pc + 1) * 256 = t := by
  show m (b + 1) + m (b + 1 + 1) * 256 = t
  rw [e1, e2]; exact ht
 rw [e3] at this
 exact this
theorem c_sta : codeM 129 sta mZ ∈ codes7 := memA 4 rfl mZ (.head _)
theorem c_dec : codeM 194 (fun ad => onM ad decF) mZ ∈ codes7 := memM' 4 rfl mZ (.head _)
theorem x_sta8 (H : LayOk S) : Ex S [133, 8] 1 w fun x => x = { w with cnt := w.a } := fun b k P C K => by
 have h2 := C.lo
 have hb := C.bd H
 refine rw_step (w' := { w with cnt := w.a }) H (o := 133) (j := adv 1 (sta zpX)) c_sta C (fun m M => ⟨upd m 8 w.a, M.setC H w.a, ?_⟩) hb.1 hb.2 (K _ rfl)
 have hu : m (b + 1) = 8 := C.get H M (i := 1) (by simp) rfl
 have g := zpG (q := w.q m (b + 1)) hL7 (by show 0 <= b + 1; lia) (by have : b + 2 < 65536 := hb.2; show b + 1 < 65536; lia)
 rw [show (w.q m (b + 1)).m (w.q m (b + 1)).pc = 8 from hu] at g
 have := adv_go (n := 1) (sta_go hL7 g (by decide) (by decide))
 rw [show b + (([133, 8] : List Int).length : Int) = b + 1 + 1 from (Int.add_assoc b 1 1).symm]
 exact this
theorem x_dec8 (H : LayOk S) : Ex S [198, 8] 1 w fun x => x = { w with cnt := (w.cnt - 1) % 256, z := ((w.cnt - 1) % 256 == 0), n := decide (128 <= (w.cnt - 1) % 256) } := fun b k P C K => by
 have h2 := C.lo
 have hb := C.bd H
 refine rw_step (w' := { w with cnt := (w.cnt - 1) % 256, z := ((w.cnt - 1) % 256 == 0), n := decide (128 <= (w.cnt - 1) % 256) }) H (o := 198) (j := adv 1 (onM zpX decF)) c_dec C (fun m M => ⟨upd m 8 ((w.cnt - 1) % 256), M.setC H _, ?_⟩) hb.1 hb.2 (K _ rfl)
 have hu : m (b + 1) = 8 := C.get H M (i := 1) (by simp) rfl
 have g := zpG (q := w.q m (b + 1)) hL7 (by show 0 <= b + 1; lia) (by have : b + 2 < 65536 := hb.2; show b + 1 < 65536; lia)
 rw [show (w.q m (b + 1)).m (w.q m (b + 1)).pc = 8 from hu] at g
 have gd : ShGo 65536 decF ((w.q m (b + 1)).m 8) (w.q m (b + 1)) ((w.cnt - 1) % 256) { w.q m (b + 1) with z := ((w.cnt - 1) % 256 == 0), n := decide (128 <= (w.cnt - 1) % 256) } := by
  rw [show (w.q m (b + 1)).m 8 = w.cnt from M.cnt]
  exact dec_sh
 have := adv_go (n := 1) (onM_go hL7 g (by decide) (by decide) gd)
 rw [show b + (([198, 8] : List Int).length : Int) = b + 1 + 1 from (Int.add_assoc b 1 1).symm]
 exact this
end
inductive Tr where
 | leaf (k one two : Nat) (o q : Int)
 | ite (one two : Nat) (o q : Int) (a b : Tr)
 | loop (one two : Nat) (o q : Int) (a b : Tr)
noncomputable def leaf (k one two : Nat) (o : Int) (r : List Int × Int) : List Int × Int := match k with
 | 0 => (r.1.set one o, r.2)
 | 1 => (r.1.set one (r.1.getD two 0), r.2)
 | 2 => (r.1.set one (bitOr (r.1.getD one 0) (r.1.getD two 0)), r.2)
 | 3 => (r.1.set one (bitAnd (r.1.getD one 0) (r.1.getD two 0)), r.2)
 | 4 => (r.1.set one (bitXor (r.1.getD one 0) (r.1.getD two 0)), r.2)
 | 5 => (r.1.set one ((r.1.getD one 0 + r.1.getD two 0) % 256), r.2)
 | 6 => (r.1.set one ((r.1.getD one 0 - r.1.getD two 0) % 256), r.2)
 | 7 => (leaf7 (o % 4).toNat (decide (o / 4 % 2 = 1)) one two r.1, r.2)
 | 8 => (r.1.set one ((r.1.getD one 0 + if decide (o % 2 = 1) then 1 else -1) % 256), r.2)
 | 9 => ((r.1.set one (r.1.getD two 0)).set two (r.1.getD one 0), r.1.getD one 0)
 | 10 => (r.1.set one ((r.1.getD two 0 + if decide (o % 2 = 0) then 1 else -1) % 256), r.2)
 | _ => (leaf11 (decide (o % 2 = 0)) one two r.1, r.2)
noncomputable def testB (j : Nat) (x y : Int) : Bool := match j with
 | 0 => decide (x < y)
 | 1 => decide (y <= x)
 | 2 => x == y
 | 3 => x != y
 | 4 => decide (sgn x < sgn y)
 | 5 => decide (sgn y <= sgn x)
 | 6 => x == 0
 | _ => decide (127 < x)
noncomputable def iterN {α : Type} (f : α -> α) : Nat -> α -> α
 | 0, a => a
 | n + 1, a => iterN f n (f a)
noncomputable def play : Tr -> List Int × Int -> List Int × Int
 | .leaf k one two o _, r => leaf k one two o r
 | .ite one two o _ a b, r => if testB (o % 8).toNat (r.1.getD one 0) (r.1.getD two 0) then play a r else play b r
 | .loop _ _ o _ a b, r => iterN (fun r => play b (play a r)) (2 + o % 2).toNat r
noncomputable def okTr : Nat -> Tr -> Prop
 | _, .leaf k one two o _ => k < 12 /\ one < 8 /\ two < 8 /\ oct? o
 | d, .ite one two o _ a b => 0 < d /\ one < 8 /\ two < 8 /\ oct? o /\ okTr (d - 1) a /\ okTr (d - 1) b
 | d, .loop one two o _ a b => d = 2 /\ one < 8 /\ two < 8 /\ oct? o /\ okTr 1 a /\ okTr 1 b
noncomputable def nS : Nat -> Nat
 | 0 => 13
 | 1 => 23
 | _ => 149
noncomputable def nL : Nat -> Nat
 | 0 => 31
 | 1 => 85
 | _ => 193
noncomputable def ExB (S : Lay) (b : Int) (l : List Int) (n : Nat) (w : W) (T : W -> Prop) : Prop := ∀ (k : Nat) (P : Q -> Prop), CodeAt S b l -> (∀ w', T w' -> RW S k (b + l.length) w' P) -> RW S (k + n) b w P
structure TreeCode (cl : Nat -> Int) (b : Int) (l : List Int) (d : Nat) (t : Tr) : Prop where
 len : l.length <= nL d
 oct : ∀ x ∈ l, oct? x
 run : ∀ S, LayOk S -> S.cl = cl -> ∀ w, Wok w -> w.sp = 255 -> (d = 2 -> w.cnt = 0) -> ExB S b l (nS d) w fun w' => Fin w w' (play t (w.vs, w.top))
section
variable {S : Lay} {w w' : W} {one two : Nat} {o b : Int} {l l₁ l₂ : List Int} {k : Nat} {P : Q -> Prop}
noncomputable def TestCode (cl : Nat -> Int) (h : List Int) (j one two : Nat) : Prop := h.length <= 17 /\ (∀ x ∈ h, oct? x) /\ ∀ S, LayOk S -> S.cl = cl -> ∀ b w k P, Wok w -> CodeAt S b h -> b + h.length + 3 < 65000 ->
 (∀ w', Wok w' -> w'.vs = w.vs -> w'.top = w.top -> w'.cnt = w.cnt -> w'.sp = w.sp -> RW S k (if testB j (w.vs.getD one 0) (w.vs.getD two 0) then b + h.length + 3 else b + h.length) w' P) -> RW S (k + 8) b w P
structure Keep (w w' : W) : Prop where
 vs : w'.vs = w.vs
 top : w'.top = w.top
 cnt : w'.cnt = w.cnt
 sp : w'.sp = w.sp
 ok : Wok w'
theorem word_val {t : Int} (h0 : 0 <= t) (h1 : t < 65536) : oct? (t % 256) /\ oct? (t / 256) /\ t % 256 + t / 256 * 256 = t := ⟨⟨by lia, by lia⟩, ⟨by lia, by lia⟩, by lia⟩
theorem ite_ok {cl : Nat -> Int} {d : Nat} {hd f₁ f₂ : List Int} {t₁ t₂ : Tr} {q : Int} (hb : 20000 <= b /\ b <= 64000) (hd' : d < 2) (T : TestCode cl hd (o % 8).toNat one two)
  (h₁ : TreeCode cl (b + hd.length + 3) f₁ d t₁) (h₂ : TreeCode cl (b + hd.length + 3 + f₁.length + 3) f₂ d t₂) :
  TreeCode cl b ((((((hd ++ [76]) ++ [(b + hd.length + 3 + f₁.length + 3) % 256, (b + hd.length + 3 + f₁.length + 3) / 256]) ++ f₁) ++ [76]) ++ [(b + hd.length + 3 + f₁.length + 3 + f₂.length) % 256, (b + hd.length + 3 + f₁.length + 3 + f₂.length) / 256]) ++ f₂) (d + 1) (.ite one two o q t₁ t₂) := by
 have hn : nL d <= 85 := of2 (P := fun d => nL d <= 85) (by decide) (by decide) hd'
 have l1 := h₁.len; have l2 := h₂.len; have lt := T.1
 have v1 := word_val (t := b + hd.length + 3 + f₁.length + 3) (by lia) (by lia)
 have v2 := word_val (t := b + hd.length + 3 + f₁.length + 3 + f₂.length) (by lia) (by lia)
 refine ⟨?_, ?_, fun S H hc w ok hs hcn k P C K => ?_⟩
 ·simp only [List.length_append, List.length_cons, List.length_nil]
  have : 23 + nL d + nL d <= nL (d + 1) := of2 (P := fun d => 23 + nL d + nL d <= nL (d + 1)) (by decide) (by decide) hd'
  lia
 ·intro x hx
  simp only [List.mem_append, List.mem_cons, List.not_mem_nil, or_false] at hx
  rcases hx with ((((((hx | hx) | hx) | hx) | hx) | hx) | hx)
  ·exact T.2.1 x hx
  ·subst hx; exact ⟨by decide, by decide⟩
  ·rcases hx with rfl | rfl
   ·exact v1.1
   ·exact v1.2.1
  ·exact h₁.oct x hx
  ·subst hx; exact ⟨by decide, by decide⟩
  ·rcases hx with rfl | rfl
   ·exact v2.1
   ·exact v2.2.1
  ·exact h₂.oct x hx
 ·subst hc
  have hE := C.bd H
  have hlen : b + (((((((hd ++ [76]) ++ [(b + hd.length + 3 + f₁.length + 3) % 256, (b + hd.length + 3 + f₁.length + 3) / 256]) ++ f₁) ++ [76]) ++ [(b + hd.length + 3 + f₁.length + 3 + f₂.length) % 256, (b + hd.length + 3 + f₁.length + 3 + f₂.length) / 256]) ++ f₂).length : Nat) = b + hd.length + 3 + f₁.length + 3 + f₂.length := by
   simp only [List.length_append, List.length_cons, List.length_nil]; lia
  rw [hlen] at K
  have hS : 10 + nS d <= nS (d + 1) := of2 (P := fun d => 10 + nS d <= nS (d + 1)) (by decide) (by decide) hd'
  have C0 : CodeAt S b hd := C.l.l.l.l.l.l
  have a1 : CodeAt S (b + hd.length) (76 :: (b + hd.length + 3 + f₁.length + 3) % 256 :: (b + hd.length + 3 + f₁.length + 3) / 256 :: (f₁ ++ (76 :: (b + hd.length + 3 + f₁.length + 3 + f₂.length) % 256 :: (b + hd.length + 3 + f₁.length + 3 + f₂.length) / 256 :: f₂))) := by
   have := C
   simp only [List.append_assoc] at this
   exact this.r
  have a2 := (a1.r (l := [76, (b + hd.length + 3 + f₁.length + 3) % 256, (b + hd.length + 3 + f₁.length + 3) / 256]))
  have e3 : b + (hd.length : Int) + (([76, (b + hd.length + 3 + f₁.length + 3) % 256, (b + hd.length + 3 + f₁.length + 3) / 256] : List Int).length : Int) = b + hd.length + 3 := rfl
  rw [e3] at a2
  have a3 := a2.r
  have a4 : CodeAt S (b + hd.length + 3 + f₁.length + 3) f₂ := a3.r (l := [76, (b + hd.length + 3 + f₁.length + 3 + f₂.length) % 256, (b + hd.length + 3 + f₁.length + 3 + f₂.length) / 256])
  have go : RW S (k + (2 + nS d) + 8) b w P := by
   refine T.2.2 S H rfl b w _ P ok C0 (by lia) fun w₁ ok₁ e1 e2 e3 e4 => ?_
   have pl : play (.ite one two o q t₁ t₂) (w.vs, w.top) = if testB (o % 8).toNat (w.vs.getD one 0) (w.vs.getD two 0) then play t₁ (w₁.vs, w₁.top) else play t₂ (w₁.vs, w₁.top) := by rw [e1, e2]; rfl
   cases hq : testB (o % 8).toNat (w.vs.getD one 0) (w.vs.getD two 0) with
   | true =>
    rw [hq, if_pos rfl] at pl
    rw [if_pos rfl]
    refine RW.le (k := k + 1 + nS d) (h₁.run S H rfl w₁ ok₁ (e4.trans hs) (fun q => absurd q (by lia)) (k + 1) P a2.l fun w' F => ?_) (by lia)
    refine r_jmp H a3 v2.2.1 v2.2.2 (by lia) (by lia) (K w' ⟨by rw [pl]; exact F.vs, by rw [pl]; exact F.top, F.cnt.trans e3, F.sp.trans e4, F.ok⟩)
   | false =>
    rw [hq, if_neg Bool.false_ne_true] at pl
    rw [if_neg Bool.false_ne_true]
    refine RW.le (k := k + nS d + 1) (r_jmp H a1 v1.2.1 v1.2.2 (by lia) (by lia) (h₂.run S H rfl w₁ ok₁ (e4.trans hs) (fun q => absurd q (by lia)) k P a4 fun w' F => ?_)) (by lia)
    exact K w' ⟨by rw [pl]; exact F.vs, by rw [pl]; exact F.top, F.cnt.trans e3, F.sp.trans e4, F.ok⟩
  exact go.le (by lia)
end
section
variable {S : Lay} {w w' : W} {one two : Nat} {o b : Int} {l l₁ l₂ f₁ f₂ : List Int} {k : Nat} {P : Q -> Prop} {cl : Nat -> Int}
theorem Wok.setC {w : W} (ok : Wok w) (c : Bool) : Wok { w with c := c } := ⟨ok.len, ok.vs, ok.a, ok.x, ok.y⟩
noncomputable def octs (l : List Int) : Bool := l.all fun x => decide (0 <= x /\ x < 256)
theorem octs_iff {l : List Int} (h : octs l = true) : ∀ x ∈ l, oct? x := fun x hx => (of_decide_eq_true (List.all_eq_true.mp h x hx) : 0 <= x /\ x < 256)
theorem beq_t (b : Bool) : b = (b == true) := by cases b <;> rfl
theorem beq_f (b : Bool) : (!b) = (b == false) := by cases b <;> rfl
theorem test_go {o f : Int} {s bv : Bool} {j : Nat} {x y : Int} (H : LayOk S) (hm : code1 o (if s then bst f else bcl f) ∈ codes7) (C : CodeAt S b [o, 3]) (hb : b + 5 < 65000) (hf : ∀ σ m, Abs 65536 σ (w.q m (b + 1)) -> (bitAnd σ.p f != 0) = bv)
  (hj : testB j x y = (bv == s)) (K : RW S k (if testB j x y then b + 5 else b + 2) w P) : RW S (k + 1) b w P := by
 refine r_br H hm C (by decide) (by decide) (by lia) hf ?_
 rw [<- hj]
 have e : b + 2 + 3 = b + 5 := Int.add_assoc b 2 3
 rw [e]
 exact K
theorem len_br (b : Int) (l₁ : List Int) (x : Int) (n : Nat) (e : l₁.length = n) : b + ((l₁ ++ [x, 3]).length : Nat) = b + n + 2 := by rw [List.length_append, e]; show b + ((n + 2 : Nat) : Int) = _; lia
theorem test_end {o f : Int} {s bv : Bool} {j : Nat} {x y : Int} {h : List Int} (H : LayOk S) (hm : code1 o (if s then bst f else bcl f) ∈ codes7) (C : CodeAt S b (h ++ [o, 3])) (hb : b + (h ++ [o, 3]).length + 3 < 65000)
  (hf : ∀ σ m, Abs 65536 σ (w.q m (b + h.length + 1)) -> (bitAnd σ.p f != 0) = bv) (hj : testB j x y = (bv == s)) (K : RW S k (if testB j x y then b + (h ++ [o, 3]).length + 3 else b + (h ++ [o, 3]).length) w P) : RW S (k + 1) (b + h.length) w P := by
 rw [len_br b h o _ rfl] at K hb
 refine test_go H hm C.r (by lia) hf hj ?_
 have e : b + (h.length : Int) + 2 + 3 = b + h.length + 5 := Int.add_assoc _ 2 3
 rw [e] at K
 exact K
theorem t_zero {j : Nat} {c : Int} (hj : (j = 6 /\ c = 240) \/ (j = 7 /\ c = 48)) (h1 : one < 8) (D : ∀ S, LayOk S -> S.cl = cl -> IsA S 161 one l) (hl : l.length <= 5) (ho : ∀ x ∈ l, oct? x) : TestCode cl (l ++ [c, 3]) j one two := by
 refine ⟨by rw [List.length_append]; exact Nat.add_le_add hl (show 2 <= 12 by decide), fun x hx => ?_, fun S H hc b w k P ok C hb K => ?_⟩
 ·rcases List.mem_append.mp hx with hx | hx
  ·exact ho x hx
  ·rcases hj with ⟨_, rfl⟩ | ⟨_, rfl⟩ <;> exact octs_iff rfl x hx
 ·refine RW.le (k := k + 1 + 2) (x_do H (f_lda H h1) (memA 5 rfl) (D S H hc) ok b (k + 1) P C.l ?_) (by lia)
  rintro _ ⟨_, ⟨x, y, z, n, rfl, -⟩, rfl, ok₁⟩
  have K := K _ ok₁ rfl rfl rfl rfl
  rcases hj with ⟨rfl, rfl⟩ | ⟨rfl, rfl⟩
  ·exact test_end (s := true) (bv := (w.vs.getD one 0 == 0)) H (mem1 23 rfl) C hb (fun σ m A => A.p.Z) (beq_t _) K
  ·exact test_end (j := 7) (x := w.vs.getD one 0) (y := w.vs.getD two 0) (s := true) (bv := decide (128 <= w.vs.getD one 0)) H (mem1 26 rfl) C hb (fun σ m A => A.p.N) ((decide_eq_decide.mpr ⟨fun h => h, fun h => h⟩ : decide (127 < w.vs.getD one 0) = decide (128 <= w.vs.getD one 0)).trans (beq_t _)) K
theorem not_le_dec (x y : Int) : decide (x < y) = !decide (y <= x) := by rw [<- decide_not]; exact decide_eq_decide.mpr ⟨fun h => by lia, fun h => by lia⟩
theorem not_lt_dec (x y : Int) : decide (y <= x) = !decide (x < y) := by rw [<- decide_not]; exact decide_eq_decide.mpr ⟨fun h => by lia, fun h => by lia⟩
theorem t_cmp {j : Nat} {c : Int} (hj : (j = 0 /\ c = 144) \/ (j = 1 /\ c = 176) \/ (j = 2 /\ c = 240) \/ (j = 3 /\ c = 208)) (h1 : one < 8) (h2 : two < 8) (D₁ : ∀ S, LayOk S -> S.cl = cl -> IsA S 161 one l₁) (D₂ : ∀ S, LayOk S -> S.cl = cl -> IsA S 193 two l₂)
  (hl : l₁.length <= 5 /\ l₂.length <= 5) (ho : (∀ x ∈ l₁, oct? x) /\ ∀ x ∈ l₂, oct? x) : TestCode cl (l₁ ++ (l₂ ++ [c, 3])) j one two := by
 rw [<- List.append_assoc]
 refine ⟨by rw [List.length_append, List.length_append]; show _ + 2 <= 17; lia, fun x hx => ?_, fun S H hc b w k P ok C hb K => ?_⟩
 ·rcases List.mem_append.mp hx with hx | hx
  ·exact (List.mem_append.mp hx).elim (ho.1 x) (ho.2 x)
  ·rcases hj with ⟨_, rfl⟩ | ⟨_, rfl⟩ | ⟨_, rfl⟩ | ⟨_, rfl⟩ <;> exact octs_iff rfl x hx
 ·refine RW.le (k := k + 1 + 4) (Ex.seq (n₁ := 2) (n₂ := 2) (T₂ := fun w' => Wok w' /\ w'.vs = w.vs /\ w'.top = w.top /\ w'.cnt = w.cnt /\ w'.sp = w.sp /\ w'.c = decide (w.vs.getD two 0 <= w.vs.getD one 0) /\ w'.z = (w.vs.getD one 0 == w.vs.getD two 0)) (x_do H (f_lda H h1) (memA 5 rfl) (D₁ S H hc) ok) ?_ b (k + 1) P C.l fun w₁ h => ?_) (by lia)
  ·rintro _ ⟨_, ⟨x, y, z, n, rfl, -⟩, rfl, ok₁⟩
   refine (x_do H (f_cmp H h2) (memA 6 rfl) (D₂ S H hc) ok₁).imp ?_
   rintro _ ⟨_, ⟨x, y, z, n, rfl, -⟩, rfl, ok₂⟩
   exact ⟨ok₂, rfl, rfl, rfl, rfl, rfl, rfl⟩
  ·obtain ⟨ok₁, e1, e2, e3, e4, e5, e6⟩ := h
   have K := K w₁ ok₁ e1 e2 e3 e4
   rcases hj with ⟨rfl, rfl⟩ | ⟨rfl, rfl⟩ | ⟨rfl, rfl⟩ | ⟨rfl, rfl⟩
   ·exact test_end (s := false) (bv := w₁.c) H (mem1 21 rfl) C hb (fun σ m A => A.p.C) (by rw [e5]; exact (not_le_dec _ _).trans (beq_f _)) K
   ·exact test_end (s := true) (bv := w₁.c) H (mem1 22 rfl) C hb (fun σ m A => A.p.C) (by rw [e5]; exact beq_t _) K
   ·exact test_end (s := true) (bv := w₁.z) H (mem1 23 rfl) C hb (fun σ m A => A.p.Z) (by rw [e6]; exact beq_t _) K
   ·exact test_end (s := false) (bv := w₁.z) H (mem1 24 rfl) C hb (fun σ m A => A.p.Z) (by rw [e6]; exact beq_f _) K
theorem c_eor : code1 73 (adv 1 (eor immX)) ∈ codes7 := mem1 3 rfl
theorem x_mend {x y : Int} (H : LayOk S) (ok : Wok w) (hx : oct? x) (hy : oct? y) (C : CodeAt S b [80, 2, 73, 128]) (ea : w.a = (x + (255 - y) + 1) % 256) (en : w.n = decide (128 <= (x + (255 - y) + 1) % 256))
  (ev : w.v = (bitAnd (bitAnd (bitXor x y) (bitXor x (x + (255 - y) + 1))) 128 != 0)) (K : ∀ w', Keep w w' -> w'.n = decide (sgn x < sgn y) -> RW S k (b + 4) w' P) : RW S (k + 2) b w P := by
 have h2 := C.lo
 have hb : b + 4 < 65536 := (C.bd H).2
 have vf := vflag (a := x) (d := y) (r := x + (255 - y) + 1) hx.1 hy.1 (by have := hx.1; have := hy.2; lia)
 have lk := less8 hx hy
 refine r_br (bv := w.v) (s := false) (f := 64) H (mem1 25 rfl) C (by decide) (by decide) (by lia) (fun σ m A => A.p.V) ?_
 have ev' : w.v = decide ((x / 128) % 2 ≠ (y / 128) % 2 /\ (x / 128) % 2 ≠ ((x + (255 - y) + 1) / 128) % 2) := by
  rw [ev, vf]
  simp only [ne_eq, Bool.decide_and]
 by_cases hv : ((x / 128) % 2 ≠ (y / 128) % 2 /\ (x / 128) % 2 ≠ ((x + (255 - y) + 1) / 128) % 2)
 ·rw [if_pos hv] at lk
  rw [show w.v = true from ev'.trans (decide_eq_true hv), if_neg (by decide)]
  have ox : oct? (bitXor w.a 128) := xor_oct ok.a ⟨by decide, by decide⟩
  refine r_imm (o := 73) (u := 128) (op := eor) (w' := { w with a := bitXor w.a 128, z := (bitXor w.a 128 == 0), n := decide (128 <= bitXor w.a 128) }) H c_eor (C.r (l := [80, 2])) (e_bits (f := bitXor) rfl ox) ⟨rfl, rfl, rfl⟩ ?_
  have e : b + 2 + 2 = b + 4 := Int.add_assoc b 2 2
  rw [e]
  refine K _ ⟨rfl, rfl, rfl, rfl, ⟨ok.len, ok.vs, ox, ok.x, ok.y⟩⟩ ?_
  show decide (128 <= bitXor w.a 128) = _
  rw [xor128 ok.a, ea]
  exact decide_eq_decide.mpr lk
 ·rw [if_neg hv] at lk
  rw [show w.v = false from ev'.trans (decide_eq_false hv), if_pos (by decide)]
  have e : b + 2 + 2 = b + 4 := Int.add_assoc b 2 2
  rw [e]
  refine (K w ⟨rfl, rfl, rfl, rfl, ok⟩ ?_).le (by lia)
  rw [en]
  exact decide_eq_decide.mpr lk
theorem t_sgn {j : Nat} {c : Int} (hj : (j = 4 /\ c = 48) \/ (j = 5 /\ c = 16)) (h1 : one < 8) (h2 : two < 8) (D₁ : ∀ S, LayOk S -> S.cl = cl -> IsA S 161 one l₁) (D₂ : ∀ S, LayOk S -> S.cl = cl -> IsA S 225 two l₂)
  (hl : l₁.length <= 5 /\ l₂.length <= 5) (ho : (∀ x ∈ l₁, oct? x) /\ ∀ x ∈ l₂, oct? x) : TestCode cl (l₁ ++ (([56] ++ l₂) ++ [80, 2, 73, 128, c, 3])) j one two := by
 have e : l₁ ++ (([56] ++ l₂) ++ [80, 2, 73, 128, c, 3]) = ((l₁ ++ ([56] ++ l₂)) ++ [80, 2, 73, 128]) ++ [c, 3] := by simp only [List.append_assoc]; rfl
 rw [e]
 have len : ((l₁ ++ ([56] ++ l₂)) ++ [80, 2, 73, 128]).length = (l₁ ++ ([56] ++ l₂)).length + 4 := by rw [List.length_append]; rfl
 have len2 : (l₁ ++ ([56] ++ l₂)).length = l₁.length + (1 + l₂.length) := by rw [List.length_append, List.length_append]; rfl
 refine ⟨by rw [List.length_append, len, len2]; show _ + 2 <= 17; lia, fun x hx => ?_, fun S H hc b w k P ok C hb K => ?_⟩
 ·simp only [List.mem_append] at hx
  rcases hx with ((hx | hx | hx) | hx) | hx
  ·exact ho.1 x hx
  ·rw [List.mem_singleton.mp hx]; exact ⟨by decide, by decide⟩
  ·exact ho.2 x hx
  ·exact octs_iff (l := [80, 2, 73, 128]) rfl x hx
  ·rcases hj with ⟨_, rfl⟩ | ⟨_, rfl⟩ <;> exact octs_iff rfl x hx
 ·refine RW.le (k := k + 1 + 2 + 5) (Ex.seq (n₁ := 2) (n₂ := 3) (T₂ := fun w' => Wok w' /\ w'.vs = w.vs /\ w'.top = w.top /\ w'.cnt = w.cnt /\ w'.sp = w.sp /\ w'.a = (w.vs.getD one 0 + (255 - w.vs.getD two 0) + 1) % 256 /\ w'.n = decide (128 <= (w.vs.getD one 0 + (255 - w.vs.getD two 0) + 1) % 256) /\
    w'.v = (bitAnd (bitAnd (bitXor (w.vs.getD one 0) (w.vs.getD two 0)) (bitXor (w.vs.getD one 0) (w.vs.getD one 0 + (255 - w.vs.getD two 0) + 1))) 128 != 0)) (x_do H (f_lda H h1) (memA 5 rfl) (D₁ S H hc) ok) ?_ b (k + 1 + 2) P C.l.l fun w₁ h => ?_) (by lia)
  ·rintro _ ⟨_, ⟨x, y, z, n, rfl, -⟩, rfl, ok₁⟩
   refine Ex.seq (n₁ := 1) (n₂ := 2) (x_sec H) ?_
   rintro _ rfl
   refine (x_do H (f_sbc H h2) (memA 7 rfl) (D₂ S H hc) (ok₁.setC true)).imp ?_
   rintro _ ⟨_, ⟨x, y, z, n, rfl, -⟩, rfl, ok₂⟩
   exact ⟨ok₂, rfl, rfl, rfl, rfl, rfl, rfl, rfl⟩
  ·obtain ⟨ok₁, e1, e2, e3, e4, e5, e6, e7⟩ := h
   refine x_mend H ok₁ (ok.vs one) (ok.vs two) C.l.r e5 e6 e7 fun w₂ Kp e8 => ?_
   have K := K w₂ Kp.ok (Kp.vs.trans e1) (Kp.top.trans e2) (Kp.cnt.trans e3) (Kp.sp.trans e4)
   have el : b + ((l₁ ++ ([56] ++ l₂)).length : Int) + 4 = b + (((l₁ ++ ([56] ++ l₂)) ++ [80, 2, 73, 128]).length : Nat) := by rw [len]; lia
   rw [el]
   rcases hj with ⟨rfl, rfl⟩ | ⟨rfl, rfl⟩
   ·exact test_end (s := true) (bv := w₂.n) H (mem1 26 rfl) C hb (fun σ m A => A.p.N) (by rw [e8]; exact beq_t _) K
   ·exact test_end (s := false) (bv := w₂.n) H (mem1 27 rfl) C hb (fun σ m A => A.p.N) (by rw [e8]; exact (not_lt_dec _ _).trans (beq_f _)) K
theorem loop_ok {t₁ t₂ : Tr} {q : Int} (hb : 20000 <= b /\ b <= 64000) (h₁ : TreeCode cl (b + 4) f₁ 1 t₁) (h₂ : TreeCode cl (b + 4 + f₁.length) f₂ 1 t₂) :
  TreeCode cl b (((([169, 2 + o % 2, 133, 8] ++ f₁) ++ f₂) ++ [198, 8, 240, 3, 76]) ++ [(b + 4) % 256, (b + 4) / 256]) 2 (.loop one two o q t₁ t₂) := by
 have l1 : f₁.length <= 85 := h₁.len
 have l2 : f₂.length <= 85 := h₂.len
 have v1 := word_val (t := b + 4) (by lia) (by lia)
 have on : oct? (2 + o % 2) := ⟨by lia, by lia⟩
 refine ⟨?_, ?_, fun S H hc w ok hs hcn k P C K => ?_⟩
 ·simp only [List.length_append, List.length_cons, List.length_nil]
  show _ <= 193
  lia
 ·intro x hx
  simp only [List.mem_append] at hx
  rcases hx with (((hx | hx) | hx) | hx) | hx
  ·simp only [List.mem_cons, List.not_mem_nil, or_false] at hx
   rcases hx with rfl | rfl | rfl | rfl
   ·exact ⟨by decide, by decide⟩
   ·exact on
   ·exact ⟨by decide, by decide⟩
   ·exact ⟨by decide, by decide⟩
  ·exact h₁.oct x hx
  ·exact h₂.oct x hx
  ·exact octs_iff (l := [198, 8, 240, 3, 76]) rfl x hx
  ·simp only [List.mem_cons, List.not_mem_nil, or_false] at hx
   rcases hx with rfl | rfl
   ·exact v1.1
   ·exact v1.2.1
 ·subst hc
  have hlen : b + ((((([169, 2 + o % 2, 133, 8] ++ f₁) ++ f₂) ++ [198, 8, 240, 3, 76]) ++ [(b + 4) % 256, (b + 4) / 256]).length : Nat) = b + 4 + f₁.length + f₂.length + 7 := by
   simp only [List.length_append, List.length_cons, List.length_nil]; lia
  have hE := C.bd H
  rw [hlen] at K hE
  have C' : CodeAt S b ([169, 2 + o % 2] ++ ([133, 8] ++ (f₁ ++ (f₂ ++ ([198, 8] ++ (240 :: 3 :: 76 :: (b + 4) % 256 :: (b + 4) / 256 :: [])))))) := by
   have := C
   simp only [List.append_assoc] at this
   exact this
  have C2 : CodeAt S (b + 4) (f₁ ++ (f₂ ++ ([198, 8] ++ (240 :: 3 :: 76 :: (b + 4) % 256 :: (b + 4) / 256 :: [])))) := by
   have := C'.r.r
   rw [show b + (([169, 2 + o % 2] : List Int).length : Int) + (([133, 8] : List Int).length : Int) = b + 4 from Int.add_assoc b 2 2] at this
   exact this
  have C3 := C2.r.r
  have C4 : CodeAt S (b + 4 + f₁.length + f₂.length + 2) (240 :: 3 :: 76 :: (b + 4) % 256 :: (b + 4) / 256 :: []) := C3.r
  have C5 : CodeAt S (b + 4 + f₁.length + f₂.length + 2 + 2) (76 :: (b + 4) % 256 :: (b + 4) / 256 :: []) := C4.r (l := [240, 3])
  have turn : ∀ (n : Nat) (r : List Int × Int) (w₁ : W), n <= 3 -> 0 < n -> Wok w₁ -> w₁.sp = 255 -> w₁.cnt = n -> w₁.vs = r.1 -> w₁.top = r.2 -> (∀ w', Fin w w' (iterN (fun r => play t₂ (play t₁ r)) n r) -> RW S k (b + 4 + f₁.length + f₂.length + 7) w' P) -> RW S (k + n * 49) (b + 4) w₁ P := by
   intro n
   induction n with
   | zero => exact fun r w₁ _ h => absurd h (Nat.lt_irrefl 0)
   | succ n ih =>
    intro r w₁ hn _ ok₁ hs₁ hc₁ e1 e2 K
    refine RW.le (k := k + n * 49 + 3 + nS 1 + nS 1) (h₁.run S H rfl w₁ ok₁ hs₁ (fun h => absurd h (by decide)) _ P C2.l fun w₂ F₂ => h₂.run S H rfl w₂ F₂.ok (F₂.sp.trans hs₁) (fun h => absurd h (by decide)) _ P C2.r.l fun w₃ F₃ => ?_) (by show _ + 23 + 23 <= _; lia)
    have c3 : w₃.cnt = n + 1 := F₃.cnt.trans (F₂.cnt.trans hc₁)
    have v3 : (w₃.vs, w₃.top) = play t₂ (play t₁ r) := by rw [F₃.vs, F₃.top, F₂.vs, F₂.top, e1, e2]
    have cm : (w₃.cnt - 1) % 256 = n := by rw [c3]; lia
    refine x_dec8 (w := w₃) H _ (k + n * 49 + 2) P C3.l fun w₄ h4 => ?_
    subst h4
    rw [cm]
    show RW S _ (b + 4 + f₁.length + f₂.length + 2) _ P
    refine r_br (bv := ((n : Int) == 0)) (s := true) (f := 2) (k := k + n * 49 + 1) H (mem1 23 rfl) C4 (by decide) (by decide) (by lia) (fun σ m A => A.p.Z) ?_
    have ok₄ : ∀ z n' c, Wok { w₃ with cnt := c, z := z, n := n' } := fun z n' c => ⟨F₃.ok.len, F₃.ok.vs, F₃.ok.a, F₃.ok.x, F₃.ok.y⟩
    cases n with
    | zero =>
     refine RW.le (k := k) ?_ (by lia)
     have e : b + 4 + (f₁.length : Int) + f₂.length + 2 + 2 + 3 = b + 4 + f₁.length + f₂.length + 7 := by lia
     rw [if_pos (by decide), e]
     refine K _ ⟨?_, ?_, (hcn rfl).symm, (F₃.sp.trans (F₂.sp.trans hs₁)).trans hs.symm, ok₄ _ _ _⟩
     ·exact congrArg Prod.fst v3
     ·exact congrArg Prod.snd v3
    | succ n =>
     have e : (((n + 1 : Nat) : Int) == 0) = false := by simp; lia
     rw [e, if_neg (by decide)]
     refine r_jmp H C5 v1.2.1 v1.2.2 (by lia) (by lia) ?_
     refine ih (play t₂ (play t₁ r)) _ (by lia) (Nat.zero_lt_succ _) (ok₄ _ _ _) (F₃.sp.trans (F₂.sp.trans hs₁)) rfl (congrArg Prod.fst v3) (congrArg Prod.snd v3) K
  have hn : (((2 + o % 2).toNat : Nat) : Int) = 2 + o % 2 := by lia
  refine RW.le (k := k + (2 + o % 2).toNat * 49 + 2) ?_ (by show _ <= k + 149; lia)
  refine Ex.seq (n₁ := 1) (n₂ := 1) (T₂ := fun x => Wok x /\ x.sp = w.sp /\ x.cnt = 2 + o % 2 /\ x.vs = w.vs /\ x.top = w.top) (x_ldaI H on) ?_ b _ P (l₁ := [169, 2 + o % 2]) (l₂ := [133, 8]) ?_ fun w₁ h => ?_
  ·rintro _ rfl
   refine (x_sta8 H).imp fun w₁ h => ?_
   subst h
   exact ⟨⟨ok.len, ok.vs, on, ok.x, ok.y⟩, rfl, rfl, rfl, rfl⟩
  ·exact (show CodeAt S b (([169, 2 + o % 2] ++ [133, 8]) ++ (f₁ ++ (f₂ ++ ([198, 8] ++ (240 :: 3 :: 76 :: (b + 4) % 256 :: (b + 4) / 256 :: []))))) from C').l
  ·obtain ⟨ok₁, e1, e2, e3, e4⟩ := h
   exact turn _ (w.vs, w.top) w₁ (by lia) (by lia) ok₁ (e1.trans hs) (e2.trans hn.symm) e3 e4 K
end
noncomputable def pA (k : Nat) : Int := (241 + 2 * (k : Int)) % 256
noncomputable def qA (k : Nat) : Int := (pA k + 1) % 256
theorem pA_e {k : Nat} (hk : k < 8) : pA k = 241 + 2 * k := Int.emod_eq_of_lt (by lia) (by lia)
theorem qA_e {k : Nat} (hk : k < 8) : qA k = 242 + 2 * k \/ (qA k = 0 /\ k = 7) := by
 have e : qA k = (242 + 2 * (k : Int)) % 256 := by unfold qA; rw [pA_e hk]; congr 1; lia
 rw [e]; clear e; lia
theorem pA_out {k : Nat} (hk : k < 8) : 176 <= pA k := by rw [pA_e hk]; lia
theorem qA_out {k : Nat} (hk : k < 8) : qA k < 160 \/ 176 <= qA k := (qA_e hk).symm.imp (fun e => by rw [e.1]; decide) fun e => by rw [e]; lia
theorem pA_oct {k : Nat} : oct? (pA k) := m256o
theorem qA_zero {k : Nat} (hk : k < 8) : qA k = 0 \/ (160 <= qA k /\ qA k < 256) := (qA_e hk).symm.imp (fun e => e.1) fun e => ⟨by rw [e]; lia, Int.emod_lt_of_pos _ (by decide)⟩
theorem d256o {x : Int} (h : 0 <= x /\ x < 65536) : oct? (x / 256) := ⟨Int.ediv_nonneg h.1 (by decide), Int.ediv_lt_of_lt_mul (by decide) h.2⟩
section
variable {S : Lay} {i : Nat} {a : Int}
theorem opn1 (H : LayOk S) {vs : List Int} {cnt top pc x : Int} {m : Int -> Int} (M : Mem S vs cnt top m) (C : CodeAt S pc [x]) : 0 <= pc /\ pc < 65536 /\ m pc = x := by
 have := C.bd H
 have h2 := C.lo
 have h3 : pc + 1 < 65536 := this.2
 exact ⟨by lia, by lia, C.get H M (i := 0) (by simp) (Int.add_zero pc).symm⟩
theorem opn2 (H : LayOk S) {vs : List Int} {cnt top pc x y : Int} {m : Int -> Int} (M : Mem S vs cnt top m) (C : CodeAt S pc [x, y]) : 0 <= pc /\ pc + 1 < 65536 /\ m pc = x /\ m (pc + 1) = y := by
 have := C.bd H
 have h2 := C.lo
 have h3 : pc + 2 < 65536 := this.2
 exact ⟨by lia, by lia, C.get H M (i := 0) (by simp) (Int.add_zero pc).symm, C.get H M (i := 1) (by simp) rfl⟩
theorem AxGo.to {ad : AdX} {q : Q} {t t' : Int} (g : AxGo 65536 ad q t) (e : t = t') : AxGo 65536 ad q t' := e ▸ g
theorem hit_z (H : LayOk S) (hi : i < 8) (hp : S.cl i < 256) : Hits S i none mZ [(S.cl i - 0) % 256] := fun c w m pc M C _ => by
 obtain ⟨p0, p1, e⟩ := opn1 H M C
 have := (H.in_ hi).1
 exact (zpG hL7 p0 p1).to (e.trans (by lia))
theorem hit_zx (H : LayOk S) (hi : i < 8) (hp : S.cl i < 256) : Hits S i (some (false, a)) mZx [(S.cl i - a) % 256] := fun c w m pc M C A => by
 obtain ⟨p0, p1, e⟩ := opn1 H M C
 have := (H.in_ hi).1
 refine (zxG hL7 p0 p1).to ?_
 show (w.x + m pc) % 256 = _
 rw [e, show w.x = a from A]
 lia
theorem hit_zy (H : LayOk S) (hi : i < 8) (hp : S.cl i < 256) : Hits S i (some (true, a)) mZy [(S.cl i - a) % 256] := fun c w m pc M C A => by
 obtain ⟨p0, p1, e⟩ := opn1 H M C
 have := (H.in_ hi).1
 refine (zyG hL7 p0 p1).to ?_
 show (w.y + m pc) % 256 = _
 rw [e, show w.y = a from A]
 lia
theorem hit_w (H : LayOk S) (hi : i < 8) : Hits S i none mW [(S.cl i - 0) % 65536 % 256, (S.cl i - 0) % 65536 / 256] := fun c w m pc M C _ => by
 obtain ⟨p0, p1, e1, e2⟩ := opn2 H M C
 have h := H.in_ hi
 refine (abG hL7 p0 p1 (by show oct? (m (pc + 1)); rw [e2]; exact ⟨by lia, by lia⟩)).to ?_
 show m pc + m (pc + 1) * 256 = _
 rw [e1, e2]
 lia
theorem hit_wx (H : LayOk S) (hi : i < 8) : Hits S i (some (false, a)) mWx [(S.cl i - a) % 65536 % 256, (S.cl i - a) % 65536 / 256] := fun c w m pc M C A => by
 obtain ⟨p0, p1, e1, e2⟩ := opn2 H M C
 have h := H.in_ hi
 refine (axG c hL7 p0 p1 (by show oct? (m (pc + 1)); rw [e2]; exact ⟨by lia, by lia⟩)).to ?_
 show (m pc + m (pc + 1) * 256 + w.x) % 65536 = _
 rw [e1, e2, show w.x = a from A]
 lia
theorem hit_wy (H : LayOk S) (hi : i < 8) (md : Md) (hm : md.ad = ayX) : Hits S i (some (true, a)) md [(S.cl i - a) % 65536 % 256, (S.cl i - a) % 65536 / 256] := fun c w m pc M C A => by
 obtain ⟨p0, p1, e1, e2⟩ := opn2 H M C
 have h := H.in_ hi
 rw [hm]
 refine (ayG c hL7 p0 p1 (by show oct? (m (pc + 1)); rw [e2]; exact ⟨by lia, by lia⟩)).to ?_
 show (m pc + m (pc + 1) * 256 + w.y) % 65536 = _
 rw [e1, e2, show w.y = a from A]
 lia
theorem hit_ix (H : LayOk S) (hi : i < 8) : Hits S i (some (false, a)) mIx [((241 + 2 * (i : Int)) % 256 - a) % 256] := fun c w m pc M C A => by
 obtain ⟨p0, p1, e⟩ := opn1 H M C
 have e1 : m (pA i) = S.cl i % 256 := (M.oth _ (Other.zero H (.inr ⟨Int.le_trans (by decide) (pA_out hi), pA_oct.2⟩))).trans (H.p1 i hi)
 have e2 : m ((pA i + 1) % 256) = S.cl i / 256 := (M.oth _ (Other.zero H (qA_zero hi))).trans (H.p2 i hi)
 refine (ixG (p := pA i) hL7 (by decide) p0 p1 ?_ (by show oct? (m _); rw [e2]; exact d256o (H.in_ hi))).to ?_
 ·show (m pc + w.x) % 256 = _
  rw [e, show w.x = a from A, Int.emod_add_emod, Int.sub_add_cancel]
  exact Int.emod_eq_of_lt pA_oct.1 pA_oct.2
 ·show m _ + m _ * 256 = _
  rw [e1, e2]
  exact Int.emod_add_ediv_mul ..
theorem hit_iy (H : LayOk S) (hi : i < 8) : Hits S i (some (true, 31 * (i : Int) + 9)) mIy [160 + 2 * (i : Int)] := fun c w m pc M C A => by
 obtain ⟨p0, p1, e⟩ := opn1 H M C
 have x0 : 0 <= (S.cl i - 31 * i - 9) % 65536 /\ (S.cl i - 31 * i - 9) % 65536 < 65536 := ⟨Int.emod_nonneg _ (by decide), Int.emod_lt_of_pos _ (by decide)⟩
 have z : 160 <= 160 + 2 * (i : Int) /\ 161 + 2 * (i : Int) < 256 := by clear A C M; lia
 have z1 : 160 + 2 * (i : Int) < 256 := by clear A C M; lia
 have e1 : m (160 + 2 * (i : Int)) = (S.cl i - 31 * i - 9) % 65536 % 256 := (M.oth _ (Other.zero H (.inr ⟨z.1, z1⟩))).trans (H.q1 i hi)
 have e2 : m ((160 + 2 * (i : Int) + 1) % 256) = (S.cl i - 31 * i - 9) % 65536 / 256 := by
  rw [show (160 + 2 * (i : Int) + 1) % 256 = 161 + 2 * i by clear A C M e1; lia]
  exact (M.oth _ (Other.zero H (.inr ⟨by clear A C M e1; lia, z.2⟩))).trans (H.q2 i hi)
 refine (iyG c (p := 160 + 2 * (i : Int)) hL7 (by decide) p0 p1 e ⟨Int.le_trans (by decide) z.1, z1⟩ (by show oct? (m _); rw [e2]; exact d256o x0)).to ?_
 show (m _ + m _ * 256 + w.y) % 65536 = _
 rw [e1, e2, show w.y = 31 * (i : Int) + 9 from A, Int.emod_add_ediv_mul, Int.emod_add_emod, show S.cl i - 31 * i - 9 + (31 * i + 9) = S.cl i by clear A C M e1 e2 x0 z z1; lia]
 exact Int.emod_eq_of_lt (H.in_ hi).1 (H.in_ hi).2
end
theorem fmod_pos {a b : Int} (h : 0 <= b) : a.fmod b = a % b := Int.fmod_eq_emod_of_nonneg _ h
theorem fdiv_pos {a b : Int} (h : 0 <= b) : a.fdiv b = a / b := Int.fdiv_eq_ediv_of_nonneg _ h
theorem lim_is : lim = 1048576 := rfl
theorem at_nat {j n : Nat} {k : Nat -> Prop} (h : j < n) (hn : n <= 65536) (hk : k j) : at' (j : Int) n k := at_ok (by lia) (by lia) hn (by rw [Int.toNat_natCast]; exact hk)
theorem at_all {i : Int} {n : Nat} {k : Nat -> Prop} (h0 : 0 <= i) (h1 : i < n) (hn : n <= 65536) (h : ∀ j, j < n -> k j) : at' i n k := at_ok h0 h1 hn (h _ (by lia))
noncomputable def clOf (cs : List Int) : Nat -> Int := fun i => cs.getD i 0
theorem cat_ok {m : Bool} {u v : V} {x y : List Int} {hs : Hs} {K : KE} (eu : deref hs u = .ints x) (ev : deref hs v = .ints y) (hl : x.length + y.length <= 1000) (h : alloc m (.ints (x ++ y)) hs K) : binOpV .Add m u v hs K := by
 unfold binOpV
 rw [eu, ev]
 exact ⟨by show (x ++ y).length <= 1048576; rw [List.length_append]; lia, h⟩
section
variable {n : Nat} {h : D} {cs : List Int} {hr : List D} {mp : Option Loc} {K : KE} {rm : Bool} {code q : Int} {ms : D} {cell k : Nat} {f : V} {R : Bool -> Prop} {mds : List Md}
theorem doR_ok (ix : Option (Bool × Int)) (md : Md) {opn : List Int} {hs : Hs} (hmd : md ∈ mds) (hix : ∀ b v, ix = some (b, v) -> R b /\ oct? v) (hl : md.len = opn.length) (ho : opn.length <= 2 /\ ∀ x ∈ opn, oct? x) (hc : ∀ md ∈ mds, oct? (code + 4 * md.col))
  (hit : ∀ S, LayOk S -> S.cl = clOf cs -> Hits S cell ix md opn) (K' : ∀ l, IsDo (clOf cs) code R mds cell l -> alloc rm (.ints l) hs K) : doR rm code (ixL ix) md.col opn hs K := by
 have hx : (ixL ix).length <= 2 /\ ∀ x ∈ ixL ix, oct? x := by
  match ix, hix with
  | none, _ => exact ⟨by decide, fun x h => nomatch h⟩
  | some (false, v), hix => exact ⟨Nat.le_refl 2, fun x h => by rcases List.mem_cons.mp h with rfl | h; exact ⟨by decide, by decide⟩; rw [List.mem_singleton.mp h]; exact (hix _ _ rfl).2⟩
  | some (true, v), hix => exact ⟨Nat.le_refl 2, fun x h => by rcases List.mem_cons.mp h with rfl | h; exact ⟨by decide, by decide⟩; rw [List.mem_singleton.mp h]; exact (hix _ _ rfl).2⟩
 refine ⟨.inl (by decide), cat_ok (x := ixL ix) (y := [code + 4 * md.col]) rfl rfl (by show _ + 1 <= 1000; lia) (cat_ok (x := ixL ix ++ [code + 4 * md.col]) (y := opn) rfl rfl (by rw [List.length_append]; show _ + 1 + _ <= 1000; lia) (K' _ ⟨⟨ix, md, opn, hmd, by rw [List.append_assoc]; rfl, hix, hl, hit⟩, ?_, fun x hm => ?_⟩))⟩
 ·rw [List.length_append, List.length_append]
  show _ + 1 + _ <= 5
  lia
 ·rcases List.mem_append.mp hm with hm | hm
  ·rcases List.mem_append.mp hm with hm | hm
   ·exact hx.2 x hm
   ·rw [List.mem_singleton.mp hm]; exact hc md hmd
  ·exact ho.2 x hm
theorem doM_ok {P : Prop} (h : P) : doM q P := ⟨.inl (by decide), by decide, h⟩
theorem mul4 (x : Int) : mulc 4 x := .inl (by decide)
noncomputable def Dm (k : Nat) (rm : Bool) (n : Nat) (h : D) (cs : List Int) (hr : List D) (mp : Option Loc) (code : Int) (ms : D) (cell : Nat) (q : Int) (f : V) (K : KE) (M : Str) : Prop := dm7 k rm n h cs hr mp code ms cell q (clOf cs cell) f M K
theorem opn_o1 {x : Int} : ([x % 256] : List Int).length <= 2 /\ ∀ y ∈ [x % 256], oct? y := ⟨Nat.le_succ 1, fun y h => by rw [List.mem_singleton.mp h]; exact m256o⟩
theorem opn_o2 {x : Int} : ([x % 65536 % 256, x % 65536 / 256] : List Int).length <= 2 /\ ∀ y ∈ [x % 65536 % 256, x % 65536 / 256], oct? y := ⟨Nat.le_refl 2, fun y h => by
 rcases List.mem_cons.mp h with rfl | h
 ·exact m256o
 ·rw [List.mem_singleton.mp h]; exact ⟨by lia, by lia⟩⟩
theorem word_ok {w : Int} {P : List Int -> Prop} (h : P [w % 65536 % 256, w % 65536 / 256]) : wordR w P := ⟨by decide, by decide, ⟨by decide, by decide⟩, by rw [fmod_pos (by decide), fmod_pos (by decide), fdiv_pos (by decide)]; exact h⟩
theorem away_oct (q : Int) : oct? (awayI q) := by unfold awayI; rw [fmod_pos (by decide)]; exact m256o
theorem ix_none : ∀ b v, (none : Option (Bool × Int)) = some (b, v) -> R b /\ oct? v := fun b v h => nomatch h
theorem ix_some {b : Bool} {v : Int} (hr : R b) (hv : oct? v) : ∀ b' v', some (b, v) = some (b', v') -> R b' /\ oct? v' := fun b' v' h => by cases some_eq h; exact ⟨hr, hv⟩
theorem m_z (hm : mZ ∈ mds) (hc : ∀ md ∈ mds, oct? (code + 4 * md.col)) (hi : cell < 8) (hp : clOf cs cell < 256) (K' : ∀ l, IsDo (clOf cs) code R mds cell l -> alloc rm (.ints l) (hs7 h cs hr mp) K) : Dm k rm n h cs hr mp code ms cell q f K "z" := by
 unfold Dm
 rw [do_z, fmod_pos (by decide)]
 exact doM_ok (ok1_ok (by decide) (by decide) (by decide) ⟨by decide, doR_ok none mZ hm ix_none rfl opn_o1 hc (fun S H e => by rw [<- e] at hp ⊢; exact hit_z H hi hp) K'⟩)
theorem m_zx (hm : mZx ∈ mds) (hr' : R false) (hc : ∀ md ∈ mds, oct? (code + 4 * md.col)) (hi : cell < 8) (hp : clOf cs cell < 256) (K' : ∀ l, IsDo (clOf cs) code R mds cell l -> alloc rm (.ints l) (hs7 h cs hr mp) K) : Dm k rm n h cs hr mp code ms cell q f K "z,x" := by
 unfold Dm
 rw [do_zx, fmod_pos (by decide)]
 exact doM_ok (ok1_ok (by decide) (by decide) (by decide) ⟨by decide, doR_ok (some (false, awayI q)) mZx hm (ix_some hr' (away_oct q)) rfl opn_o1 hc (fun S H e => by rw [<- e] at hp ⊢; exact hit_zx H hi hp) K'⟩)
theorem m_zy (hm : mZy ∈ mds) (hr' : R true) (hc : ∀ md ∈ mds, oct? (code + 4 * md.col)) (hi : cell < 8) (hp : clOf cs cell < 256) (K' : ∀ l, IsDo (clOf cs) code R mds cell l -> alloc rm (.ints l) (hs7 h cs hr mp) K) : Dm k rm n h cs hr mp code ms cell q f K "z,y" := by
 unfold Dm
 rw [do_zy, fmod_pos (by decide)]
 exact doM_ok (ok1_ok (by decide) (by decide) (by decide) ⟨by decide, doR_ok (some (true, awayI q)) mZy hm (ix_some hr' (away_oct q)) rfl opn_o1 hc (fun S H e => by rw [<- e] at hp ⊢; exact hit_zy H hi hp) K'⟩)
theorem m_w (hm : mW ∈ mds) (hc : ∀ md ∈ mds, oct? (code + 4 * md.col)) (hi : cell < 8) (K' : ∀ l, IsDo (clOf cs) code R mds cell l -> alloc rm (.ints l) (hs7 h cs hr mp) K) : Dm k rm n h cs hr mp code ms cell q f K "w" := by
 unfold Dm
 rw [do_w]
 exact doM_ok (ok1_ok (by decide) (by decide) (by decide) (word_ok (doR_ok none mW hm ix_none rfl opn_o2 hc (fun S H e => by rw [<- e]; exact hit_w H hi) K')))
theorem m_wx (hm : mWx ∈ mds) (hr' : R false) (hc : ∀ md ∈ mds, oct? (code + 4 * md.col)) (hi : cell < 8) (K' : ∀ l, IsDo (clOf cs) code R mds cell l -> alloc rm (.ints l) (hs7 h cs hr mp) K) : Dm k rm n h cs hr mp code ms cell q f K "w,x" := by
 unfold Dm
 rw [do_wx]
 exact doM_ok (ok1_ok (by decide) (by decide) (by decide) (word_ok (doR_ok (some (false, awayI q)) mWx hm (ix_some hr' (away_oct q)) rfl opn_o2 hc (fun S H e => by rw [<- e]; exact hit_wx H hi) K')))
theorem m_wy (h6 : (code % 4 == 2) = false) (hm : mWy ∈ mds) (hr' : R true) (hc : ∀ md ∈ mds, oct? (code + 4 * md.col)) (hi : cell < 8) (K' : ∀ l, IsDo (clOf cs) code R mds cell l -> alloc rm (.ints l) (hs7 h cs hr mp) K) : Dm k rm n h cs hr mp code ms cell q f K "w,y" := by
 unfold Dm
 rw [do_wy, fmod_pos (a := code) (by decide), h6]
 exact doM_ok ⟨by decide, ok1_ok (by decide) (by decide) (by decide) (word_ok (doR_ok (some (true, awayI q)) mWy hm (ix_some hr' (away_oct q)) rfl opn_o2 hc (fun S H e => by rw [<- e]; exact hit_wy H hi mWy rfl) K'))⟩
theorem m_wy7 (h6 : (code % 4 == 2) = true) (hm : mWy7 ∈ mds) (hr' : R true) (hc : ∀ md ∈ mds, oct? (code + 4 * md.col)) (hi : cell < 8) (K' : ∀ l, IsDo (clOf cs) code R mds cell l -> alloc rm (.ints l) (hs7 h cs hr mp) K) : Dm k rm n h cs hr mp code ms cell q f K "w,y" := by
 unfold Dm
 rw [do_wy, fmod_pos (a := code) (by decide), h6]
 exact doM_ok ⟨by decide, ok1_ok (by decide) (by decide) (by decide) (word_ok (doR_ok (some (true, awayI q)) mWy7 hm (ix_some hr' (away_oct q)) rfl opn_o2 hc (fun S H e => by rw [<- e]; exact hit_wy H hi mWy7 rfl) K'))⟩
theorem m_iy (hm : mIy ∈ mds) (hr' : R true) (hc : ∀ md ∈ mds, oct? (code + 4 * md.col)) (hi : cell < 8) (K' : ∀ l, IsDo (clOf cs) code R mds cell l -> alloc rm (.ints l) (hs7 h cs hr mp) K) : Dm k rm n h cs hr mp code ms cell q f K "(z),y" := by
 unfold Dm
 rw [do_iy]
 exact doM_ok ⟨.inl (by decide), .inl (by decide), doR_ok (some (true, 31 * (cell : Int) + 9)) mIy hm (ix_some hr' ⟨by lia, by lia⟩) rfl ⟨Nat.le_succ 1, fun y h => by rw [List.mem_singleton.mp h]; exact ⟨by lia, by lia⟩⟩ hc (fun S H e => hit_iy H hi) K'⟩
theorem m_ix (hm : mIx ∈ mds) (hr' : R false) (hc : ∀ md ∈ mds, oct? (code + 4 * md.col)) (hi : cell < 8) (K' : ∀ l, IsDo (clOf cs) code R mds cell l -> alloc rm (.ints l) (hs7 h cs hr mp) K) : Dm k rm n h cs hr mp code ms cell q f K "(z,x)" := by
 unfold Dm
 rw [do_ix, fmod_pos (by decide), fmod_pos (by decide)]
 exact doM_ok ⟨by decide, doR_ok (some (false, awayI q)) mIx hm (ix_some hr' (away_oct q)) rfl opn_o1 hc (fun S H e => hit_ix H hi) K'⟩
noncomputable def noZ (s : Str) : Bool := match s.cps[0]? with
 | some c => (⟨#[c]⟩ : Str).cps.toList != (Str.ofString "z").cps.toList
 | none => true
noncomputable def fitB (place : Int) (s : Str) : Bool := decide (place < 256) || noZ s
theorem fit_one {place : Int} {P : List D -> Hs -> Prop} {s : Str} {A B : Prop} (hs : 0 < s.length /\ s.length <= 10) (h : br (fitB place s) A B) : fitK place P s A B := by
 unfold fitK
 by_cases hp : place < 256
 ·rw [decide_eq_true hp]
  unfold fitB at h
  rw [decide_eq_true hp, Bool.true_or] at h
  exact h
 ·rw [decide_eq_false hp]
  unfold fitB at h
  rw [decide_eq_false hp, Bool.false_or] at h
  unfold noZ at h
  refine brF (at_ok (i := 0) (n := s.length) (by decide) (by lia) (by lia) ?_)
  have e : s.cps[(0 : Int).toNat]? = some (s.cps[0]'hs.1) := Array.getElem?_eq_getElem hs.1
  refine optP_of e ?_
  rw [show s.cps[0]? = some (s.cps[0]'hs.1) from e] at h
  exact h
theorem fit_all {place : Int} {c : Int} {P : List D -> Hs -> Prop} {hs : Hs} : ∀ (ss : List Str) (acc : List D) (u : V), (∀ s ∈ ss, 0 < s.length /\ s.length <= 10) -> P (acc.reverse ++ (ss.filter (fitB place)).map .str) hs ->
  cmp7 fDo n 39 cDo none P (ss.map .str) (latDo code ms c q place [("mode", u)]) hs acc
 | [], acc, u, _, h => by
  rw [List.filter_nil, List.map_nil, List.append_nil] at h
  exact ⟨trivial, h⟩
 | s :: r, acc, u, hl, h => by
  rw [List.map_cons, do2b]
  refine ⟨trivial, fit_one (hl s (.head _)) ?_⟩
  rw [List.filter_cons] at h
  cases hf : fitB place s with
  | true =>
   rw [hf, if_pos rfl] at h
   exact fit_all r (.str s :: acc) _ (fun s hs => hl s (.tail _ hs)) (by rw [List.reverse_cons, List.append_assoc]; exact h)
  | false =>
   rw [hf, if_neg Bool.false_ne_true] at h
   exact fit_all r acc _ (fun s hs => hl s (.tail _ hs)) h
end
section
variable {n : Nat} {h : D} {cs : List Int} {hr : List D} {mp : Option Loc} {K : KE} {rm : Bool} {code q : Int} {cell k : Nat} {R : Bool -> Prop} {mds : List Md}
theorem mkList_str {l : List Str} (hl : l ≠ []) : mkList (l.map .str) = .list (l.map .str) := by
 cases l with
 | nil => exact absurd rfl hl
 | cons s r => rfl
theorem fit_first {place c : Int} {P : List D -> Hs -> Prop} {hs : Hs} {ms : D} : ∀ (ss : List Str), (∀ s ∈ ss, 0 < s.length /\ s.length <= 10) -> P ((ss.filter (fitB place)).map .str) hs ->
  cmp7 fDo n 39 cDo none P (ss.map .str) (latDo code ms c q place []) hs []
 | [], _, h => ⟨trivial, h⟩
 | s :: r, hl, h => by
  rw [List.map_cons, do2a]
  refine ⟨trivial, fit_one (hl s (.head _)) ?_⟩
  rw [List.filter_cons] at h
  cases hf : fitB place s with
  | true =>
   rw [hf, if_pos rfl] at h
   exact fit_all r [.str s] _ (fun s hs => hl s (.tail _ hs)) h
  | false =>
   rw [hf, if_neg Bool.false_ne_true] at h
   exact fit_all r [] _ (fun s hs => hl s (.tail _ hs)) h
noncomputable def okMs (ms : List String) : Bool := ms.all (fun s => decide (0 < (Str.ofString s).length /\ (Str.ofString s).length <= 10)) && decide (ms.length <= 20)
theorem do_front (ms : List String) (ho : okMs ms = true) (hw : "w" ∈ ms) (hi : cell < 8) (hcs : cs.length = 8)
  (H : ∀ s ∈ ms, fitB (clOf cs cell) (Str.ofString s) = true -> ∀ f, Dm (hr.length + 2) rm n h cs hr mp code (modesD ms) cell q f K (Str.ofString s)) : doV (n + 3) code ms cell q rm (hs7 h cs hr mp) K := by
 obtain ⟨ho, h20⟩ := and_t ho
 have h20 : ms.length <= 20 := of_decide_eq_true h20
 have em : modesD ms = .list ((ms.map Str.ofString).map .str) := by unfold modesD; rw [List.map_map]; rfl
 unfold doV
 rw [do1]
 refine at_nat (by lia) (by lia) ⟨.inl (by decide), by decide, ?_⟩
 rw [em, do2]
 refine ⟨trivial, by rw [List.length_map, List.length_map, lim_is]; lia, fit_first _ (fun s hs => ?_) ?_⟩
 ·obtain ⟨x, hx, rfl⟩ := List.mem_map.mp hs
  exact of_decide_eq_true (List.all_eq_true.mp ho x hx)
 ·have hin : Str.ofString "w" ∈ (ms.map Str.ofString).filter (fitB (cs.getD cell 0)) := List.mem_filter.mpr ⟨List.mem_map_of_mem hw, by
   unfold fitB
   rw [show noZ (Str.ofString "w") = true from by decide +kernel, Bool.or_true]⟩
  have hl : ((ms.map Str.ofString).filter (fitB (cs.getD cell 0))).length <= 20 := Nat.le_trans (List.length_filter_le ..) (by rw [List.length_map]; exact h20)
  have hp := List.length_pos_of_mem hin
  rw [mkList_str (List.ne_nil_of_length_pos hp), do3]
  rw [List.length_map, fmod_pos (by lia)]
  refine ⟨by lia, by lia, at_all (Int.emod_nonneg _ (by lia)) (Int.emod_lt_of_pos _ (by lia)) (by lia) fun j hj => ?_⟩
  have ej : (((ms.map Str.ofString).filter (fitB (cs.getD cell 0))).map D.str).getD j .none = .str (((ms.map Str.ofString).filter (fitB (cs.getD cell 0)))[j]'hj) := by
   rw [List.getD_eq_getElem?_getD, List.getElem?_map, List.getElem?_eq_getElem hj]; rfl
  rw [ej]
  obtain ⟨m1, m2⟩ := List.mem_filter.mp (List.getElem_mem hj)
  obtain ⟨s, hs, e⟩ := List.mem_map.mp m1
  have := H s hs (by rw [e]; exact m2) (.d (.list (((ms.map Str.ofString).filter (fitB (cs.getD cell 0))).map .str)))
  rw [e, em] at this
  exact this
theorem fit_lt {p : Int} {s : String} (h : fitB p (Str.ofString s) = true) (hz : noZ (Str.ofString s) = false) : p < 256 := by
 unfold fitB at h
 rw [hz, Bool.or_false] at h
 exact of_decide_eq_true h
variable (hi : cell < 8) (hcs : cs.length = 8)
include hi hcs
theorem do_A (h6 : (code % 4 == 2) = false) (hc : ∀ md ∈ mdsA, oct? (code + 4 * md.col)) (K' : ∀ l, IsDo (clOf cs) code RA mdsA cell l -> alloc rm (.ints l) (hs7 h cs hr mp) K) : doV (n + 3) code allM cell q rm (hs7 h cs hr mp) K := by
 refine do_front allM (by decide +kernel) (.head _) hi hcs fun s hs hf f => ?_
 have mem : ∀ (j : Nat) {md : Md}, mdsA[j]? = some md -> md ∈ mdsA := fun j _ e => List.mem_of_getElem? e
 rcases List.mem_cons.mp hs with rfl | hs
 ·exact m_w (mem 2 rfl) hc hi K'
 rcases List.mem_cons.mp hs with rfl | hs
 ·exact m_wx (mem 3 rfl) trivial hc hi K'
 rcases List.mem_cons.mp hs with rfl | hs
 ·exact m_wy h6 (mem 4 rfl) trivial hc hi K'
 rcases List.mem_cons.mp hs with rfl | hs
 ·exact m_ix (mem 5 rfl) trivial hc hi K'
 rcases List.mem_cons.mp hs with rfl | hs
 ·exact m_iy (mem 6 rfl) trivial hc hi K'
 rcases List.mem_cons.mp hs with rfl | hs
 ·exact m_z (mem 0 rfl) hc hi (fit_lt hf (by decide +kernel)) K'
 rcases List.mem_cons.mp hs with rfl | hs
 ·exact m_zx (mem 1 rfl) trivial hc hi (fit_lt hf (by decide +kernel)) K'
 exact nomatch hs
theorem do_M (hc : ∀ md ∈ mdsM, oct? (code + 4 * md.col)) (K' : ∀ l, IsDo (clOf cs) code RX mdsM cell l -> alloc rm (.ints l) (hs7 h cs hr mp) K) : doV (n + 3) code memM cell q rm (hs7 h cs hr mp) K := by
 refine do_front memM (by decide +kernel) (.head _) hi hcs fun s hs hf f => ?_
 have mem : ∀ (j : Nat) {md : Md}, mdsM[j]? = some md -> md ∈ mdsM := fun j _ e => List.mem_of_getElem? e
 rcases List.mem_cons.mp hs with rfl | hs
 ·exact m_w (mem 2 rfl) hc hi K'
 rcases List.mem_cons.mp hs with rfl | hs
 ·exact m_wx (R := RX) (mem 3 rfl) rfl hc hi K'
 rcases List.mem_cons.mp hs with rfl | hs
 ·exact m_z (mem 0 rfl) hc hi (fit_lt hf (by decide +kernel)) K'
 rcases List.mem_cons.mp hs with rfl | hs
 ·exact m_zx (R := RX) (mem 1 rfl) rfl hc hi (fit_lt hf (by decide +kernel)) K'
 exact nomatch hs
theorem do_LX (h6 : (code % 4 == 2) = true) (hc : ∀ md ∈ mdsY, oct? (code + 4 * md.col)) (K' : ∀ l, IsDo (clOf cs) code RY mdsY cell l -> alloc rm (.ints l) (hs7 h cs hr mp) K) : doV (n + 3) code ["w", "w,y", "z", "z,y"] cell q rm (hs7 h cs hr mp) K := by
 refine do_front _ (by decide +kernel) (.head _) hi hcs fun s hs hf f => ?_
 have mem : ∀ (j : Nat) {md : Md}, mdsY[j]? = some md -> md ∈ mdsY := fun j _ e => List.mem_of_getElem? e
 rcases List.mem_cons.mp hs with rfl | hs
 ·exact m_w (mem 2 rfl) hc hi K'
 rcases List.mem_cons.mp hs with rfl | hs
 ·exact m_wy7 (R := RY) h6 (mem 3 rfl) rfl hc hi K'
 rcases List.mem_cons.mp hs with rfl | hs
 ·exact m_z (mem 0 rfl) hc hi (fit_lt hf (by decide +kernel)) K'
 rcases List.mem_cons.mp hs with rfl | hs
 ·exact m_zy (R := RY) (mem 1 rfl) rfl hc hi (fit_lt hf (by decide +kernel)) K'
 exact nomatch hs
theorem do_SX (hc : ∀ md ∈ [mZ, mZy, mW], oct? (code + 4 * md.col)) (K' : ∀ l, IsDo (clOf cs) code RY [mZ, mZy, mW] cell l -> alloc rm (.ints l) (hs7 h cs hr mp) K) : doV (n + 3) code ["w", "z", "z,y"] cell q rm (hs7 h cs hr mp) K := by
 refine do_front _ (by decide +kernel) (.head _) hi hcs fun s hs hf f => ?_
 have mem : ∀ (j : Nat) {md : Md}, [mZ, mZy, mW][j]? = some md -> md ∈ [mZ, mZy, mW] := fun j _ e => List.mem_of_getElem? e
 rcases List.mem_cons.mp hs with rfl | hs
 ·exact m_w (mem 2 rfl) hc hi K'
 rcases List.mem_cons.mp hs with rfl | hs
 ·exact m_z (mem 0 rfl) hc hi (fit_lt hf (by decide +kernel)) K'
 rcases List.mem_cons.mp hs with rfl | hs
 ·exact m_zy (R := RY) (mem 1 rfl) rfl hc hi (fit_lt hf (by decide +kernel)) K'
 exact nomatch hs
theorem do_SY (hc : ∀ md ∈ [mZ, mZx, mW], oct? (code + 4 * md.col)) (K' : ∀ l, IsDo (clOf cs) code RX [mZ, mZx, mW] cell l -> alloc rm (.ints l) (hs7 h cs hr mp) K) : doV (n + 3) code ["w", "z", "z,x"] cell q rm (hs7 h cs hr mp) K := by
 refine do_front _ (by decide +kernel) (.head _) hi hcs fun s hs hf f => ?_
 have mem : ∀ (j : Nat) {md : Md}, [mZ, mZx, mW][j]? = some md -> md ∈ [mZ, mZx, mW] := fun j _ e => List.mem_of_getElem? e
 rcases List.mem_cons.mp hs with rfl | hs
 ·exact m_w (mem 2 rfl) hc hi K'
 rcases List.mem_cons.mp hs with rfl | hs
 ·exact m_z (mem 0 rfl) hc hi (fit_lt hf (by decide +kernel)) K'
 rcases List.mem_cons.mp hs with rfl | hs
 ·exact m_zx (R := RX) (mem 1 rfl) rfl hc hi (fit_lt hf (by decide +kernel)) K'
 exact nomatch hs
end
structure Ok (l : List Int) (n : Nat) : Prop where
 len : l.length <= n
 oct : ∀ x ∈ l, oct? x
theorem Ok.app {l₁ l₂ : List Int} {n₁ n₂ : Nat} (h₁ : Ok l₁ n₁) (h₂ : Ok l₂ n₂) : Ok (l₁ ++ l₂) (n₁ + n₂) := ⟨by rw [List.length_append]; exact Nat.add_le_add h₁.len h₂.len, fun x hx => (List.mem_append.mp hx).elim (h₁.oct x) (h₂.oct x)⟩
theorem IsDo.ok {cl : Nat -> Int} {o : Int} {R : Bool -> Prop} {mds : List Md} {i : Nat} {l : List Int} (D : IsDo cl o R mds i l) : Ok l 5 := ⟨D.len, D.oct⟩
theorem ok_c {l : List Int} (h : octs l = true) : Ok l l.length := ⟨Nat.le_refl _, octs_iff h⟩
theorem ok_1 {x : Int} (h : oct? x) : Ok [x] 1 := ⟨Nat.le_refl 1, fun y hy => by rw [List.mem_singleton.mp hy]; exact h⟩
noncomputable def octM (c : Int) (mds : List Md) : Bool := mds.all fun md => decide (0 <= c + 4 * md.col /\ c + 4 * md.col < 256)
theorem octM_iff {c : Int} {mds : List Md} (h : octM c mds = true) : ∀ md ∈ mds, oct? (c + 4 * md.col) := fun md hm => (of_decide_eq_true (List.all_eq_true.mp h md hm) : _ /\ _)
theorem mk_leaf {cl : Nat -> Int} {base : Int} {l : List Int} {d n m k one two : Nat} {o q : Int} (hl : Ok l m) (hm : m <= 31) (hn : n <= 13) (run : ∀ S, LayOk S -> S.cl = cl -> ∀ w, Wok w -> w.sp = 255 -> Ex S l n w fun w' => Fin w w' (leaf k one two o (w.vs, w.top))) :
  TreeCode cl base l d (.leaf k one two o q) := by
 have h1 : 31 <= nL d := by unfold nL; split <;> decide
 have h2 : 13 <= nS d := by unfold nS; split <;> decide
 exact ⟨Nat.le_trans hl.len (Nat.le_trans hm h1), hl.oct, fun S H hc w ok hs _ k P C K => (run S H hc w ok hs _ k P C K).le (by lia)⟩
section
variable {n : Nat} {h : D} {cs : List Int} {hr : List D} {K : KE} {mp : Option Loc} {rm : Bool} {q base o : Int} {ps : D} {one two i d : Nat}
theorem cat2_ok {x y : List Int} {hs : Hs} (hl : x.length + y.length <= 1000) (h : K (li (x ++ y)) hs) : cat2 (li x) (li y) hs K := cat_ok rfl rfl hl h
theorem rc_ok {x : D} (hk : K (.d x) (hs7 h cs hr none)) : rC (hr.length + 2) K (.d x) (hs7 h cs hr none) := by
 show K (.d x) ⟨(h :: .ints cs :: hr).take (hr.length + 2), none⟩
 rw [show (h :: D.ints cs :: hr).take (hr.length + 2) = h :: .ints cs :: hr from List.take_of_length_le (Nat.le_refl _)]
 exact hk
theorem ld_ok (hi : i < 8) (hcs : cs.length = 8) (k : ∀ l, IsDo (clOf cs) 161 RA mdsA i l -> alloc rm (.ints l) (hs7 h cs hr none) K) : ldV (n + 4) i q rm (hs7 h cs hr none) K := by
 rw [load1]
 exact do_A hi hcs (by decide) (octM_iff rfl) k
theorem st_ok (hi : i < 8) (hcs : cs.length = 8) (k : ∀ l, IsDo (clOf cs) 129 RA mdsA i l -> K (li l) (hs7 h cs hr none)) : stV (n + 4) i q (hs7 h cs hr none) K := by
 rw [store1]
 exact do_A hi hcs (by decide) (octM_iff rfl) k
variable (h1 : one < 8) (h2 : two < 8) (ho : oct? o) (hcs : cs.length = 8)
include h1 h2 ho hcs
theorem c_0 (k : ∀ l, TreeCode (clOf cs) base l d (.leaf 0 one two o q) -> K (li l) (hs7 h cs hr none)) : codeV (n + 5) 0 one two o q ps base (hs7 h cs hr none) K := by
 rw [code_0]
 refine st_ok h1 hcs fun l D => cat2_ok (by have := D.len; show 2 + _ <= _; lia) (rc_ok (k _ (mk_leaf (n := 3) ((Ok.app (n₁ := 2) ⟨Nat.le_refl 2, ?_⟩ D.ok)) (by decide) (by decide) fun S H hc w ok hs => ?_)))
 ·intro x hx
  rcases List.mem_cons.mp hx with rfl | hx
  ·exact ⟨by decide, by decide⟩
  ·rw [List.mem_singleton.mp hx]; exact ho
 ·rw [<- hc] at D
  exact leaf_0 H ok h1 ho D
theorem way_ok {j : Nat} (hj : j < 3) : ∃ way, (ways o).getD j .none = .ints way /\ (way = [] \/ way = [170, 169, o, 138] \/ way = [168, 169, o, 152]) /\ Ok way 4 := by
 have q : ∀ a b : Int, oct? a -> oct? b -> Ok [a, 169, o, b] 4 := fun a b ha hb => ⟨Nat.le_refl 4, fun x hx => by
  rcases List.mem_cons.mp hx with rfl | hx; exact ha
  rcases List.mem_cons.mp hx with rfl | hx; exact ⟨by decide, by decide⟩
  rcases List.mem_cons.mp hx with rfl | hx; exact ho
  rw [List.mem_singleton.mp hx]; exact hb⟩
 exact of3 (P := fun j => ∃ way, (ways o).getD j .none = .ints way /\ (way = [] \/ way = [170, 169, o, 138] \/ way = [168, 169, o, 152]) /\ Ok way 4) ⟨_, rfl, .inl rfl, Nat.zero_le _, fun x h => nomatch h⟩ ⟨_, rfl, .inr (.inl rfl), q 170 138 ⟨by decide, by decide⟩ ⟨by decide, by decide⟩⟩ ⟨_, rfl, .inr (.inr rfl), q 168 152 ⟨by decide, by decide⟩ ⟨by decide, by decide⟩⟩ hj
theorem c_1 (k : ∀ l, TreeCode (clOf cs) base l d (.leaf 1 one two o q) -> K (li l) (hs7 h cs hr none)) : codeV (n + 5) 1 one two o q ps base (hs7 h cs hr none) K := by
 rw [code_1, fmod_pos (by decide)]
 refine ⟨by decide, at_all (by lia) (by lia) (by decide) fun j hj => ld_ok h2 hcs fun l₁ D₁ => ?_⟩
 obtain ⟨way, e, hw, ow⟩ := way_ok h1 h2 ho hcs hj
 rw [e]
 have a1 := D₁.len; have a2 := ow.len
 refine cat2_ok (by lia) (st_ok h1 hcs fun l₂ D₂ => cat2_ok (by have := D₂.len; rw [List.length_append]; lia) (rc_ok (k _ (mk_leaf (n := 7) ((D₁.ok.app ow).app D₂.ok) (by decide) (by decide) fun S H hc w ok hs => ?_))))
 rw [<- hc] at D₁ D₂
 exact leaf_1 H ok h1 h2 ho hw D₁ D₂
theorem c_5 {kk : Int} {k' : Nat} {before : List Int} {c : Int} {cc : Option Bool} {f : Int -> Int -> Int} {F : W -> W} {op : AdX -> Op} (heq : codeV (n + 5) kk one two o q ps base (hs7 h cs hr none) K = ok1 (kk - 2) 5 (code5 (n + 4) before c one two q (hs7 h cs hr none) (rC (hr.length + 2) K)))
  (hk : 0 <= kk - 2 /\ kk - 2 < 5) (h6 : (c % 4 == 2) = false) (hc' : octM c mdsA = true) (hb : before = match cc with | none => [] | some false => [24] | some true => [56]) (hF : ∀ S, LayOk S -> HF S op two F) (hm : ∀ md ∈ mdsA, codeM c op md ∈ codes7)
  (e : ∀ w w₁ : W, w₁.vs = w.vs -> w₁.a = w.vs.getD one 0 -> (∀ b, cc = some b -> w₁.c = b) -> (F w₁).a = f (w.vs.getD one 0) (w.vs.getD two 0) /\ Same w₁ (F w₁) /\ (F w₁).sp = w₁.sp)
  (hl : ∀ r, leaf k' one two o r = (r.1.set one (f (r.1.getD one 0) (r.1.getD two 0)), r.2))
  (k : ∀ l, TreeCode (clOf cs) base l d (.leaf k' one two o q) -> K (li l) (hs7 h cs hr none)) : codeV (n + 5) kk one two o q ps base (hs7 h cs hr none) K := by
 have ob : Ok before 1 := by
  rw [hb]
  match cc with
  | none => exact ⟨Nat.zero_le _, fun x h => nomatch h⟩
  | some false => exact ok_c rfl
  | some true => exact ok_c rfl
 have b1 := ob.len
 rw [heq]
 refine ok1_ok hk.1 (by have := hk.2; exact this) (by decide) (ld_ok h1 hcs fun l₁ D₁ => ?_)
 have a1 := D₁.len
 refine cat2_ok (by lia) (do_A h2 hcs h6 (octM_iff hc') fun l₂ D₂ => ?_)
 have a2 := D₂.len
 refine cat2_ok (by rw [List.length_append]; lia) (st_ok h1 hcs fun l₃ D₃ => ?_)
 have a3 := D₃.len
 refine cat2_ok (by rw [List.length_append, List.length_append]; lia) (rc_ok (k _ (mk_leaf (n := 7) (((D₁.ok.app ob).app D₂.ok).app D₃.ok) (by decide) (by decide) fun S H hc w ok hs => ?_)))
 rw [<- hc] at D₁ D₂ D₃
 rw [hl]
 exact leaf_5 H ok h1 hb (hF S H) hm (e w) D₁ D₂ D₃
theorem c_2 (k : ∀ l, TreeCode (clOf cs) base l d (.leaf 2 one two o q) -> K (li l) (hs7 h cs hr none)) : codeV (n + 5) 2 one two o q ps base (hs7 h cs hr none) K :=
 c_5 (cc := none) (f := bitOr) h1 h2 ho hcs (code_2 ..) (by decide) (by decide) rfl rfl (fun S H => f_ora H h2) (memA 0 rfl) (fun w w₁ e1 e2 _ => ⟨by show bitOr w₁.a (w₁.vs.getD two 0) = _; rw [e1, e2], ⟨rfl, rfl, rfl⟩, rfl⟩) (fun r => rfl) k
theorem c_3 (k : ∀ l, TreeCode (clOf cs) base l d (.leaf 3 one two o q) -> K (li l) (hs7 h cs hr none)) : codeV (n + 5) 3 one two o q ps base (hs7 h cs hr none) K :=
 c_5 (cc := none) (f := bitAnd) h1 h2 ho hcs (code_3 ..) (by decide) (by decide) rfl rfl (fun S H => f_and H h2) (memA 1 rfl) (fun w w₁ e1 e2 _ => ⟨by show bitAnd w₁.a (w₁.vs.getD two 0) = _; rw [e1, e2], ⟨rfl, rfl, rfl⟩, rfl⟩) (fun r => rfl) k
theorem c_4 (k : ∀ l, TreeCode (clOf cs) base l d (.leaf 4 one two o q) -> K (li l) (hs7 h cs hr none)) : codeV (n + 5) 4 one two o q ps base (hs7 h cs hr none) K :=
 c_5 (cc := none) (f := bitXor) h1 h2 ho hcs (code_4 ..) (by decide) (by decide) rfl rfl (fun S H => f_eor H h2) (memA 2 rfl) (fun w w₁ e1 e2 _ => ⟨by show bitXor w₁.a (w₁.vs.getD two 0) = _; rw [e1, e2], ⟨rfl, rfl, rfl⟩, rfl⟩) (fun r => rfl) k
theorem c_5a (k : ∀ l, TreeCode (clOf cs) base l d (.leaf 5 one two o q) -> K (li l) (hs7 h cs hr none)) : codeV (n + 5) 5 one two o q ps base (hs7 h cs hr none) K :=
 c_5 (cc := some false) (f := fun x y => (x + y) % 256) h1 h2 ho hcs (code_5 ..) (by decide) (by decide) rfl rfl (fun S H => f_adc H h2) (memA 3 rfl) (fun w w₁ e1 e2 e3 => ⟨by show (w₁.vs.getD two 0 + w₁.a + cI w₁.c) % 256 = _; rw [e1, e2, e3 _ rfl]; show (_ + _ + 0) % 256 = _; lia, ⟨rfl, rfl, rfl⟩, rfl⟩) (fun r => rfl) k
theorem c_6 (k : ∀ l, TreeCode (clOf cs) base l d (.leaf 6 one two o q) -> K (li l) (hs7 h cs hr none)) : codeV (n + 5) 6 one two o q ps base (hs7 h cs hr none) K :=
 c_5 (cc := some true) (f := fun x y => (x - y) % 256) h1 h2 ho hcs (code_6 ..) (by decide) (by decide) rfl rfl (fun S H => f_sbc H h2) (memA 7 rfl) (fun w w₁ e1 e2 e3 => ⟨by show (w₁.a + (255 - w₁.vs.getD two 0) + cI w₁.c) % 256 = _; rw [e1, e2, e3 _ rfl]; show (_ + (255 - _) + 1) % 256 = _; lia, ⟨rfl, rfl, rfl⟩, rfl⟩) (fun r => rfl) k
end
theorem br_ok {b : Bool} {A B : Prop} (h1 : b = true -> A) (h2 : b = false -> B) : br b A B := by cases b; exact h2 rfl; exact h1 rfl
theorem sh_mem {j : Nat} (hj : j < 4) : ∀ md ∈ mdsM, codeM (32 * (j : Int) + 2) (fun ad => onM ad (shF j)) md ∈ codes7 := by
 apply of4 ?_ ?_ ?_ ?_ hj
 ·exact memM' 0 rfl
 ·exact memM' 1 rfl
 ·exact memM' 2 rfl
 ·exact memM' 3 rfl
theorem sh_oct {j : Nat} (hj : j < 4) : octM (32 * (j : Int) + 2) mdsM = true :=
 of4 (P := fun j : Nat => octM (32 * (j : Int) + 2) mdsM = true) rfl rfl rfl rfl hj
theorem up4_lt (j : Nat) : up4 j < 4 := by unfold up4; split <;> decide
section
variable {n : Nat} {h : D} {cs : List Int} {hr : List D} {K : KE} {q base o : Int} {ps : D} {one two d : Nat}
variable (h1 : one < 8) (h2 : two < 8) (ho : oct? o) (hcs : cs.length = 8)
include h1 h2 ho hcs
omit ho in
theorem c7_ok {j : Nat} {e : Bool} (hj : j < 4) (hl : ∀ r, leaf 7 one two o r = (leaf7 j e one two r.1, r.2))
  (k : ∀ l, TreeCode (clOf cs) base l d (.leaf 7 one two o q) -> K (li l) (hs7 h cs hr none)) : code7 (n + 4) (if e then 56 else 24) (32 * (j : Int) + 2) (32 * (up4 j : Int) + 2) one two o q (hs7 h cs hr none) (rC (hr.length + 2) K) := by
 have he : Ok [if e then (56 : Int) else 24] 1 := ok_1 (by cases e <;> exact ⟨by decide, by decide⟩)
 refine do_M h2 hcs (octM_iff (sh_oct (up4_lt j))) fun l₂ D₂ => ⟨⟨by decide, by decide⟩, by decide, br_ok (fun _ => ?_) fun _ => ?_⟩
 ·have a2 := D₂.len
  refine do_M h1 hcs (octM_iff (sh_oct hj)) fun l₁ D₁ => ?_
  have a1 := D₁.len
  refine cat2_ok (by show 1 + _ <= _; lia) (cat2_ok (by rw [List.length_append]; show 1 + _ + _ <= _; lia) (rc_ok (k _ (mk_leaf (n := 5) ((he.app D₁.ok).app D₂.ok) (by decide) (by decide) fun S H hc w ok hs => ?_))))
  rw [<- hc] at D₁ D₂
  rw [hl]
  exact leaf_7m H ok h1 h2 (sh_mem hj) (sh_mem (up4_lt j)) D₁ D₂
 ·have a2 := D₂.len
  refine ld_ok h1 hcs fun l₁ D₁ => ?_
  have a1 := D₁.len
  have e8 : 32 * (j : Int) + 2 + 8 = 10 + 32 * j := by lia
  rw [e8]
  have hj' : Ok [10 + 32 * (j : Int)] 1 := ok_1 ⟨by lia, by lia⟩
  refine cat2_ok (by show _ + 1 <= _; lia) (cat2_ok (by rw [List.length_append]; show _ + 1 + 1 <= _; lia) (st_ok h1 hcs fun l₃ D₃ => ?_))
  have a3 := D₃.len
  refine cat2_ok (by rw [List.length_append, List.length_append]; show _ + 1 + 1 + _ <= _; lia) (cat2_ok (by rw [List.length_append, List.length_append, List.length_append]; show _ + 1 + 1 + _ + _ <= _; lia) (rc_ok (k _ (mk_leaf (n := 8) ((((D₁.ok.app he).app hj').app D₃.ok).app D₂.ok) (by decide) (by decide) fun S H hc w ok hs => ?_))))
  rw [<- hc] at D₁ D₂ D₃
  rw [hl]
  exact leaf_7a hj H ok h1 h2 (sh_mem (up4_lt j)) D₁ D₃ D₂
theorem c_7 (k : ∀ l, TreeCode (clOf cs) base l d (.leaf 7 one two o q) -> K (li l) (hs7 h cs hr none)) : codeV (n + 5) 7 one two o q ps base (hs7 h cs hr none) K := by
 have f4 : o.fmod 4 = ((o % 4).toNat : Int) := by rw [fmod_pos (by decide)]; lia
 have d4 : (o.fdiv 4).fmod 2 = if decide (o / 4 % 2 = 1) then 1 else 0 := by
  rw [fdiv_pos (by decide), fmod_pos (by decide)]
  by_cases e : o / 4 % 2 = 1
  ·rw [decide_eq_true e, if_pos rfl, e]
  ·rw [decide_eq_false e, if_neg (by decide)]; lia
 rw [code_7, f4, d4]
 have eb : 24 + (if decide (o / 4 % 2 = 1) then (1 : Int) else 0) * 32 = if decide (o / 4 % 2 = 1) then 56 else 24 := by cases decide (o / 4 % 2 = 1) <;> rfl
 rw [eb]
 refine ⟨⟨by decide, by decide⟩, by decide, .inr (by decide), by decide, .inl (by decide), by decide, ?_⟩
 have go := c7_ok (n := n) (h := h) (hr := hr) (K := K) (q := q) (base := base) (d := d) (o := o) h1 h2 hcs (j := (o % 4).toNat) (e := decide (o / 4 % 2 = 1)) (by lia) (fun r => rfl) k
 refine br_ok (fun e => ?_) fun e => ?_
 ·have e : (((o % 4).toNat : Nat) : Int) < 2 := of_decide_eq_true e
  rw [show up4 (o % 4).toNat = 1 from if_pos (by lia)] at go
  exact go
 ·have e : ¬ (((o % 4).toNat : Nat) : Int) < 2 := of_decide_eq_false e
  rw [show up4 (o % 4).toNat = 3 from if_neg (by lia)] at go
  exact go
theorem c_8 (k : ∀ l, TreeCode (clOf cs) base l d (.leaf 8 one two o q) -> K (li l) (hs7 h cs hr none)) : codeV (n + 5) 8 one two o q ps base (hs7 h cs hr none) K := by
 have e2 : 194 + o.fmod 2 * 32 = if decide (o % 2 = 1) then 226 else 194 := by
  rw [fmod_pos (by decide)]
  by_cases e : o % 2 = 1
  ·rw [decide_eq_true e, if_pos rfl, e]; rfl
  ·rw [decide_eq_false e, if_neg (by decide)]; lia
 rw [code_8, e2]
 have ho' : octM (if decide (o % 2 = 1) then 226 else 194) mdsM = true := by cases decide (o % 2 = 1) <;> rfl
 exact ⟨by decide, .inr (by decide), do_M h1 hcs (octM_iff ho') fun l D => rc_ok (k _ (mk_leaf (n := 2) D.ok (by decide) (by decide) fun S H hc w ok hs => by
  rw [<- hc] at D
  exact leaf_8 H ok h1 D))⟩
theorem c_9 (k : ∀ l, TreeCode (clOf cs) base l d (.leaf 9 one two o q) -> K (li l) (hs7 h cs hr none)) : codeV (n + 5) 9 one two o q ps base (hs7 h cs hr none) K := by
 rw [code_9]
 refine ld_ok h1 hcs fun l₁ D₁ => ?_
 have a1 := D₁.len
 refine cat2_ok (by show _ + 1 <= _; lia) (ld_ok h2 hcs fun l₂ D₂ => ?_)
 have a2 := D₂.len
 refine cat2_ok (by rw [List.length_append]; show _ + 1 + _ <= _; lia) (st_ok h1 hcs fun l₃ D₃ => ?_)
 have a3 := D₃.len
 refine cat2_ok (by rw [List.length_append, List.length_append]; show _ + 1 + _ + _ <= _; lia) (cat2_ok (by rw [List.length_append, List.length_append, List.length_append]; show _ + 1 + _ + _ + 1 <= _; lia) (st_ok h2 hcs fun l₄ D₄ => ?_))
 have a4 := D₄.len
 refine cat2_ok (by rw [List.length_append, List.length_append, List.length_append, List.length_append]; show _ + 1 + _ + _ + 1 + _ <= _; lia) (rc_ok (k _ (mk_leaf (n := 10) (((((D₁.ok.app (ok_c rfl)).app D₂.ok).app D₃.ok).app (ok_c rfl)).app D₄.ok) (by decide) (by decide) fun S H hc w ok hs => ?_)))
 rw [<- hc] at D₁ D₂ D₃ D₄
 exact leaf_9 H ok h1 h2 hs D₁ D₂ D₃ D₄
theorem c_10 (k : ∀ l, TreeCode (clOf cs) base l d (.leaf 10 one two o q) -> K (li l) (hs7 h cs hr none)) : codeV (n + 5) 10 one two o q ps base (hs7 h cs hr none) K := by
 have e2 : (o.fmod 2 == 0) = decide (o % 2 = 0) := by rw [fmod_pos (by decide)]; rfl
 rw [code_10]
 refine ⟨by decide, br_ok (fun _ => ?_) fun _ => ?_⟩
 ·refine do_LX h2 hcs rfl (octM_iff rfl) fun l₁ D₁ => ?_
  have a1 := D₁.len
  refine ⟨by decide, ?_⟩
  have go : ∀ c : Int, c = (if decide (o % 2 = 0) then 232 else 202) -> cat2 (li l₁) (li [c]) (hs7 h cs hr none) fun v hs => doV (n + 4) 130 ["w", "z", "z,y"] one (q + 1) false hs fun u hs => cat2 v u hs (rC (hr.length + 2) K) := by
   intro c hc
   have oc : Ok [c] 1 := ok_1 (by rw [hc]; split <;> exact ⟨by decide, by decide⟩)
   refine cat2_ok (by show _ + 1 <= _; lia) (do_SX h1 hcs (octM_iff rfl) fun l₂ D₂ => ?_)
   have a2 := D₂.len
   refine cat2_ok (by rw [List.length_append]; show _ + 1 + _ <= _; lia) (rc_ok (k _ (mk_leaf (n := 5) ((D₁.ok.app oc).app D₂.ok) (by decide) (by decide) fun S H hS w ok hs => ?_)))
   rw [<- hS] at D₁ D₂
   subst hc
   exact leaf_10x H ok h1 h2 D₁ D₂
  rw [e2]
  exact br_ok (fun e => go 232 (by rw [e]; rfl)) fun e => go 202 (by rw [e]; rfl)
 ·refine do_M h2 hcs (octM_iff rfl) fun l₁ D₁ => ?_
  have a1 := D₁.len
  refine ⟨by decide, ?_⟩
  have go : ∀ c : Int, c = (if decide (o % 2 = 0) then 200 else 136) -> cat2 (li l₁) (li [c]) (hs7 h cs hr none) fun v hs => doV (n + 4) 128 ["w", "z", "z,x"] one (q + 1) false hs fun u hs => cat2 v u hs (rC (hr.length + 2) K) := by
   intro c hc
   have oc : Ok [c] 1 := ok_1 (by rw [hc]; split <;> exact ⟨by decide, by decide⟩)
   refine cat2_ok (by show _ + 1 <= _; lia) (do_SY h1 hcs (octM_iff rfl) fun l₂ D₂ => ?_)
   have a2 := D₂.len
   refine cat2_ok (by rw [List.length_append]; show _ + 1 + _ <= _; lia) (rc_ok (k _ (mk_leaf (n := 5) ((D₁.ok.app oc).app D₂.ok) (by decide) (by decide) fun S H hS w ok hs => ?_)))
   rw [<- hS] at D₁ D₂
   subst hc
   exact leaf_10y H ok h1 h2 D₁ D₂
  rw [e2]
  exact br_ok (fun e => go 200 (by rw [e]; rfl)) fun e => go 136 (by rw [e]; rfl)
theorem c_11 (k : ∀ l, TreeCode (clOf cs) base l d (.leaf 11 one two o q) -> K (li l) (hs7 h cs hr none)) : codeV (n + 5) 11 one two o q ps base (hs7 h cs hr none) K := by
 have e2 : (o.fmod 2 == 0) = decide (o % 2 = 0) := by rw [fmod_pos (by decide)]; rfl
 have s2 : small 2 := ⟨by decide, by decide⟩
 have m0 : ∀ j : Nat, j < 8 -> ((j : Int) + 0).fmod 8 = (j : Nat) := fun j hj => by rw [fmod_pos (by decide)]; lia
 have m1 : ∀ j : Nat, ((j : Int) + 1).fmod 8 = ((j + 1) % 8 : Nat) := fun j => by rw [fmod_pos (by decide)]; lia
 have l1 : (one + 1) % 8 < 8 := Nat.mod_lt _ (by decide)
 have l2 : (two + 1) % 8 < 8 := Nat.mod_lt _ (by decide)
 rw [code_11, e2]
 refine ⟨by decide, ?_⟩
 have go : ∀ (s : Bool), decide (o % 2 = 0) = s -> small 2 /\ small 2 /\ code11 (n + 4) (if s then 97 else 225) one two q 0 (li [if s then 24 else 56]) (hs7 h cs hr none) fun line hs => code11 (n + 4) (if s then 97 else 225) one two q 1 line hs fun line hs => True /\ rC (hr.length + 2) K line hs := by
  intro s hs
  have h6 : ((if s then (97 : Int) else 225) % 4 == 2) = false := by cases s <;> rfl
  have hc : octM (if s then (97 : Int) else 225) mdsA = true := by cases s <;> rfl
  have ob : Ok [if s then (24 : Int) else 56] 1 := ok_1 (by cases s <;> exact ⟨by decide, by decide⟩)
  refine ⟨s2, s2, trivial, by decide, ?_⟩
  rw [m0 one h1, m0 two h2]
  refine ld_ok h1 hcs fun l₁ D₁ => ?_
  have a1 := D₁.len
  refine cat2_ok (by show 1 + _ <= _; lia) ⟨by decide, do_A h2 hcs h6 (octM_iff hc) fun l₂ D₂ => ?_⟩
  have a2 := D₂.len
  have b1 : ([if s then (24 : Int) else 56] ++ l₁).length <= 6 := (ob.app D₁.ok).len
  refine cat2_ok (by lia) ⟨by decide, st_ok h1 hcs fun l₃ D₃ => ?_⟩
  have a3 := D₃.len
  have o2 := (ob.app D₁.ok).app D₂.ok
  refine cat2_ok (by have := o2.len; lia) ⟨trivial, by decide, ?_⟩
  rw [m1, m1]
  have o3 := o2.app D₃.ok
  refine ld_ok l1 hcs fun l₄ D₄ => ?_
  have a4 := D₄.len
  refine cat2_ok (by have := o3.len; lia) ⟨by decide, do_A l2 hcs h6 (octM_iff hc) fun l₅ D₅ => ?_⟩
  have a5 := D₅.len
  have o4 := o3.app D₄.ok
  refine cat2_ok (by have := o4.len; lia) ⟨by decide, st_ok l1 hcs fun l₆ D₆ => ?_⟩
  have a6 := D₆.len
  have o5 := o4.app D₅.ok
  refine cat2_ok (by have := o5.len; lia) ⟨trivial, rc_ok (k _ (mk_leaf (n := 13) (o5.app D₆.ok) (by decide) (by decide) fun S H hS w ok hs' => ?_))⟩
  rw [<- hS] at D₁ D₂ D₃ D₄ D₅ D₆
  show Ex S _ 13 w fun w' => Fin w w' (leaf11 (decide (o % 2 = 0)) one two w.vs, w.top)
  rw [hs]
  exact leaf_11 s H ok h1 h2 D₁ D₂ D₃ D₄ D₅ D₆
 exact br_ok (fun e => go true e) fun e => go false e
end
noncomputable def toD : Tr -> D
 | .leaf k one two o q => .tup [.int k, .int one, .int two, .int o, .int q, .ints []]
 | .ite one two o q a b => .tup [.int 12, .int one, .int two, .int o, .int q, .list [toD a, toD b]]
 | .loop one two o q a b => .tup [.int 13, .int one, .int two, .int o, .int q, .list [toD a, toD b]]
section
variable {n : Nat} {h : D} {cs : List Int} {hr : List D} {K : KE} {q base o : Int} {ps : D} {one two d : Nat} {t₁ t₂ : Tr}
theorem getD_last (l : List D) (x : D) : (l ++ [x]).getD l.length .none = x := by
 rw [List.getD_eq_getElem?_getD, List.getElem?_append_right (Nat.le_refl _), Nat.sub_self]; rfl
theorem set_last (l : List D) (x y : D) : (l ++ [x]).set l.length y = l ++ [y] := by rw [List.set_append_right _ _ (Nat.le_refl _), Nat.sub_self]; rfl
theorem at_last {x : D} : deref (hs7 h cs (hr ++ [x]) none) (.loc (hr.length + 2)) = x := getD_last hr x
theorem ldT_ok {i : Nat} (hi : i < 8) (hcs : cs.length = 8) (k : ∀ l, IsDo (clOf cs) 161 RA mdsA i l -> K (.loc (hr.length + 2)) (hs7 h cs (hr ++ [.ints l]) none)) : ldV (n + 4) i q true (hs7 h cs hr none) K := ld_ok hi hcs k
theorem alloc_f {x : D} {hs : Hs} {K : KE} (h : K (.d x) hs) : alloc false x hs K := h
theorem as_int (P : Int -> Prop) {a b : Int} (e : a = b) (h : P b) : P a := e ▸ h
theorem augL_ok {x y : List Int} (hl : x.length + y.length <= 1000) (k : K (.loc (hr.length + 2)) (hs7 h cs (hr ++ [.ints (x ++ y)]) none)) : augV .Add (.loc (hr.length + 2)) (li y) (hs7 h cs (hr ++ [.ints x]) none) K := by
 show growV (hr.length + 2) (catD (deref (hs7 h cs (hr ++ [.ints x]) none) (.loc (hr.length + 2))) (.ints y)) (hs7 h cs (hr ++ [.ints x]) none) fun hs => K (.loc (hr.length + 2)) hs
 rw [at_last]
 refine ⟨by show (x ++ y).length <= 1048576; rw [List.length_append]; lia, ?_⟩
 show K _ ⟨h :: D.ints cs :: (hr ++ [D.ints x]).set hr.length (D.ints (x ++ y)), none⟩
 rw [set_last]
 exact k
theorem rc_last {x y : D} (k : K (.d x) (hs7 h cs hr none)) : rC (hr.length + 2) K (.d x) (hs7 h cs (hr ++ [y]) none) := by
 show K (.d x) ⟨(h :: .ints cs :: (hr ++ [y])).take (hr.length + 2), none⟩
 rw [show (h :: D.ints cs :: (hr ++ [y])).take (hr.length + 2) = h :: .ints cs :: hr from by
  show h :: .ints cs :: (hr ++ [y]).take hr.length = _
  rw [List.take_left]]
 exact k
theorem len_ok {v : V} {hs : Hs} {l : List Int} {k : Nat -> Prop} (e : deref hs v = .ints l) (hl : l.length <= 1000) (h : k l.length) : lenV v hs k := by
 unfold lenV
 rw [e]
 exact ⟨by lia, h⟩
theorem wordV_ok {w : Int} {hs : Hs} (k : K (li [w % 256, w / 256]) hs) : wordV (n + 1) w hs K := by
 unfold wordV
 rw [word1 n K w hs hs.hp.length rfl, fmod_pos (by decide), fdiv_pos (by decide)]
 exact ⟨by decide, ⟨by decide, by decide⟩, k⟩
theorem cat2_l {u : V} {x y : List Int} {hs : Hs} (e : deref hs u = .ints x) (hl : x.length + y.length <= 1000) (h : K (li (x ++ y)) hs) : cat2 u (li y) hs K := cat_ok e rfl hl h
theorem sub_code {m : Nat} {k : Int} {hs : Hs} : subV m (.tup [.int k, .int one, .int two, .int o, .int q, ps]) base hs K = codeV m k one two o q ps base hs K := by kernel_rfl
noncomputable def Asks (n d : Nat) (cs : List Int) (t : Tr) : Prop := ∀ (h : D) (hr : List D) (base : Int) (K : KE), 20000 <= base -> base + 500 * d <= 63000 -> (∀ l, TreeCode (clOf cs) base l d t -> K (li l) (hs7 h cs hr none)) -> subV n (toD t) base (hs7 h cs hr none) K
theorem nL_lt (d : Nat) : nL d <= 193 := by unfold nL; split <;> decide
theorem tail7_ok {hdl : List Int} (hd : d < 2) (hb : 20000 <= base) (hb2 : base + 500 * (d + 1 : Nat) <= 63000) (T : TestCode (clOf cs) hdl (o % 8).toNat one two) (A₁ : Asks (n + 1) d cs t₁) (A₂ : Asks (n + 1) d cs t₂)
  (k : ∀ l, TreeCode (clOf cs) base l (d + 1) (.ite one two o q t₁ t₂) -> K (li l) (hs7 h cs hr none)) : tail12 (n + 1) base (toD t₁) (toD t₂) (.loc (hr.length + 2)) (hs7 h cs (hr ++ [.ints hdl]) none) (rC (hr.length + 2) K) := by
 have lt := T.1
 have l85 : nL d <= 85 := of2 (P := fun d => nL d <= 85) (by decide) (by decide) hd
 refine ok1_ok (by decide) (by decide) (by decide) (len_ok at_last (by lia) (A₁ _ _ _ _ (by lia) (by lia) fun f₁ C₁ => ?_))
 have q1 := C₁.len
 refine len_ok at_last (by lia) (len_ok rfl (by lia) (ok1_ok (by decide) (by decide) (by decide) (A₂ _ _ _ _ (by lia) (by lia) fun f₂ C₂ => ?_)))
 have q2 := C₂.len
 refine cat2_l at_last (by show _ + 1 <= _; lia) (wordV_ok (cat2_ok (by rw [List.length_append]; show _ + 1 + 2 <= _; lia) (cat2_ok (by rw [List.length_append, List.length_append]; show _ + 1 + 2 + _ <= _; lia) ?_)))
 refine cat2_ok (by rw [List.length_append, List.length_append, List.length_append]; show _ + 1 + 2 + _ + 1 <= _; lia) (len_ok rfl (by lia) (wordV_ok (cat2_ok (by rw [List.length_append, List.length_append, List.length_append, List.length_append]; show _ + 1 + 2 + _ + 1 + 2 <= _; lia) ?_)))
 refine cat2_ok (by rw [List.length_append, List.length_append, List.length_append, List.length_append, List.length_append]; show _ + 1 + 2 + _ + 1 + 2 + _ <= _; lia) (rc_last (k _ ?_))
 exact ite_ok ⟨hb, by lia⟩ hd T C₁ C₂
theorem of_do {cl : Nat -> Int} {o : Int} {i : Nat} {l : List Int} (D : IsDo cl o RA mdsA i l) : ∀ S, LayOk S -> S.cl = cl -> IsA S o i l := fun S _ e => by rw [<- e] at D; exact D
theorem c_12 (h1 : one < 8) (h2 : two < 8) (hcs : cs.length = 8) (hd : d < 2) (hb : 20000 <= base) (hb2 : base + 500 * (d + 1 : Nat) <= 63000) (A₁ : Asks (n + 4) d cs t₁) (A₂ : Asks (n + 4) d cs t₂)
  (k : ∀ l, TreeCode (clOf cs) base l (d + 1) (.ite one two o q t₁ t₂) -> K (li l) (hs7 h cs hr none)) : codeV (n + 5) 12 one two o q (.list [toD t₁, toD t₂]) base (hs7 h cs hr none) K := by
 have e8 : o.fmod 8 = ((o % 8).toNat : Int) := by rw [fmod_pos (by decide)]; lia
 have j8 : (o % 8).toNat < 8 := by lia
 have tl := fun hdl T => tail7_ok (h := h) (hr := hr) (K := K) (q := q) (n := n + 3) (hdl := hdl) hd hb hb2 T A₁ A₂ k
 rw [code_12, e8]
 generalize (o % 8).toNat = j at *
 refine ldT_ok h1 hcs fun l₁ D₁ => ⟨by decide, br_ok (fun e => ?_) fun e => br_ok (fun e' => ?_) fun e' => ?_⟩
 ·have e : j < 4 := by have := of_decide_eq_true e; lia
  refine do_A h2 hcs rfl (octM_iff rfl) fun l₂ D₂ => ?_
  refine alloc_f ?_
  refine at_nat e (by decide) ?_
  have a1 := D₁.len; have a2 := D₂.len
  have a3 : (l₂ ++ [([144, 176, 240, 208] : List Int).getD j 0, 3]).length = l₂.length + 2 := List.length_append
  refine cat2_ok (by show _ + 2 <= _; lia) (augL_ok (by lia) (tl _ (t_cmp ?_ h1 h2 (of_do D₁) (of_do D₂) ⟨a1, a2⟩ ⟨D₁.oct, D₂.oct⟩)))
  apply of4 ?_ ?_ ?_ ?_ e
  ·exact .inl ⟨rfl, rfl⟩
  ·exact .inr (.inl ⟨rfl, rfl⟩)
  ·exact .inr (.inr (.inl ⟨rfl, rfl⟩))
  ·exact .inr (.inr (.inr ⟨rfl, rfl⟩))
 ·have e : ¬ (j : Int) < 4 := of_decide_eq_false e
  have e' : (j : Int) < 6 := of_decide_eq_true e'
  obtain ⟨i, rfl⟩ : ∃ i, j = i + 4 := ⟨j - 4, by lia⟩
  refine do_A h2 hcs rfl (octM_iff rfl) fun l₂ D₂ => ?_
  have a1 := D₁.len; have a2 := D₂.len
  refine cat2_ok (by show 1 + _ <= _; lia) ?_
  rw [show (((i + 4 : Nat) : Int) - 4) = (i : Nat) by lia]
  have hi : i < 2 := by lia
  refine at_nat hi (by decide) ?_
  have b1 : ([56] ++ l₂).length = 1 + l₂.length := List.length_append
  have b2 : (([56] ++ l₂) ++ [80, 2, 73, 128, ([48, 16] : List Int).getD i 0, 3]).length = ([56] ++ l₂).length + 6 := List.length_append
  refine cat2_ok (by show _ + 6 <= _; lia) (augL_ok (by lia) (tl _ (t_sgn ?_ h1 h2 (of_do D₁) (of_do D₂) ⟨a1, a2⟩ ⟨D₁.oct, D₂.oct⟩)))
  apply of2 ?_ ?_ hi
  ·exact .inl ⟨rfl, rfl⟩
  ·exact .inr ⟨rfl, rfl⟩
 ·have e' : ¬ (j : Int) < 6 := of_decide_eq_false e'
  obtain ⟨i, rfl⟩ : ∃ i, j = i + 6 := ⟨j - 6, by lia⟩
  rw [show (((i + 6 : Nat) : Int) - 6) = (i : Nat) by lia]
  have hi : i < 2 := by lia
  refine at_nat hi (by decide) ?_
  have a1 := D₁.len
  refine augL_ok (by show _ + 2 <= _; lia) (tl _ (t_zero ?_ h1 (of_do D₁) a1 D₁.oct))
  apply of2 ?_ ?_ hi
  ·exact .inl ⟨rfl, rfl⟩
  ·exact .inr ⟨rfl, rfl⟩
theorem c_13 (hb : 20000 <= base) (hb2 : base + 1000 <= 63000) (A₁ : Asks (n + 1) 1 cs t₁) (A₂ : Asks (n + 1) 1 cs t₂)
  (k : ∀ l, TreeCode (clOf cs) base l 2 (.loop one two o q t₁ t₂) -> K (li l) (hs7 h cs hr none)) : codeV (n + 2) 13 one two o q (.list [toD t₁, toD t₂]) base (hs7 h cs hr none) K := by
 rw [code_13]
 refine ok1_ok (by decide) (by decide) (by decide) (A₁ _ _ _ _ (by lia) (by lia) fun f₁ C₁ => ok1_ok (by decide) (by decide) (by decide) ?_)
 have q1 : f₁.length <= 85 := C₁.len
 refine len_ok rfl (by lia) (A₂ _ _ _ _ (by lia) (by lia) fun f₂ C₂ => ⟨by decide, ?_⟩)
 have q2 : f₂.length <= 85 := C₂.len
 rw [fmod_pos (by decide)]
 refine cat2_ok (by show 4 + _ <= _; lia) (cat2_ok (by rw [List.length_append]; show 4 + _ + _ <= _; lia) (cat2_ok (by rw [List.length_append, List.length_append]; show 4 + _ + _ + 5 <= _; lia) (wordV_ok (cat2_ok (by rw [List.length_append, List.length_append, List.length_append]; show 4 + _ + _ + 5 + 2 <= _; lia) (rc_ok (k _ ?_))))))
 exact loop_ok ⟨hb, by lia⟩ C₁ C₂
theorem code_ok (hcs : cs.length = 8) : ∀ (t : Tr) (d n : Nat), okTr d t -> d <= 2 -> d + 5 <= n -> Asks n d cs t
 | .leaf k one two o q, d, n, ok, hd, hn => by
  intro h hr base K hb hb2 kk
  obtain ⟨m, rfl⟩ : ∃ m, n = m + 5 := ⟨n - 5, by lia⟩
  obtain ⟨k12, h1, h2, ho⟩ := ok
  show subV (m + 5) (.tup [.int k, .int one, .int two, .int o, .int q, .ints []]) base (hs7 h cs hr none) K
  rw [sub_code]
  revert kk
  apply of12 ?_ ?_ ?_ ?_ ?_ ?_ ?_ ?_ ?_ ?_ ?_ ?_ k12
  ·exact c_0 h1 h2 ho hcs
  ·exact c_1 h1 h2 ho hcs
  ·exact c_2 h1 h2 ho hcs
  ·exact c_3 h1 h2 ho hcs
  ·exact c_4 h1 h2 ho hcs
  ·exact c_5a h1 h2 ho hcs
  ·exact c_6 h1 h2 ho hcs
  ·exact c_7 h1 h2 ho hcs
  ·exact c_8 h1 h2 ho hcs
  ·exact c_9 h1 h2 ho hcs
  ·exact c_10 h1 h2 ho hcs
  ·exact c_11 h1 h2 ho hcs
 | .ite one two o q a b, d, n, ok, hd, hn => by
  intro h hr base K hb hb2 kk
  obtain ⟨d0, h1, h2, ho, oa, ob⟩ := ok
  obtain ⟨d, rfl⟩ : ∃ d', d = d' + 1 := ⟨d - 1, by lia⟩
  obtain ⟨m, rfl⟩ : ∃ m, n = m + 5 := ⟨n - 5, by lia⟩
  show subV (m + 5) (.tup [.int 12, .int one, .int two, .int o, .int q, .list [toD a, toD b]]) base (hs7 h cs hr none) K
  rw [sub_code]
  exact c_12 h1 h2 hcs (by lia) hb hb2 (code_ok hcs a d (m + 4) oa (by lia) (by lia)) (code_ok hcs b d (m + 4) ob (by lia) (by lia)) kk
 | .loop one two o q a b, d, n, ok, hd, hn => by
  intro h hr base K hb hb2 kk
  obtain ⟨rfl, h1, h2, ho, oa, ob⟩ := ok
  obtain ⟨m, rfl⟩ : ∃ m, n = m + 2 := ⟨n - 2, by lia⟩
  show subV (m + 2) (.tup [.int 13, .int one, .int two, .int o, .int q, .list [toD a, toD b]]) base (hs7 h cs hr none) K
  rw [sub_code]
  exact c_13 hb (by lia) (code_ok hcs a 1 (m + 1) oa (by lia) (by lia)) (code_ok hcs b 1 (m + 1) ob (by lia) (by lia)) kk
end
structure Vok (vs : List Int) : Prop where
 len : vs.length = 8
 oct : ∀ i, oct? (vs.getD i 0)
theorem oz : oct? (0 : Int) := ⟨by decide, by decide⟩
theorem Vok.set {vs : List Int} (h : Vok vs) (i : Nat) {r : Int} (hr : oct? r) : Vok (vs.set i r) :=
 have q := Wok.set (w := ⟨vs, 0, 0, 0, 0, 0, 0, true, true, true, true⟩) ⟨h.len, h.oct, oz, oz, oz⟩ i hr
 ⟨q.1, q.2⟩
theorem leaf_vok {k one two : Nat} {o : Int} {r : List Int × Int} (h : Vok r.1) (ho : oct? o) : Vok (leaf k one two o r).1 := by
 unfold leaf
 split
 ·exact h.set _ ho
 ·exact h.set _ (h.oct _)
 ·exact h.set _ (or_oct (h.oct _) (h.oct _))
 ·exact h.set _ (and_oct (h.oct _) (h.oct _))
 ·exact h.set _ (xor_oct (h.oct _) (h.oct _))
 ·exact h.set _ m256o
 ·exact h.set _ m256o
 ·exact (h.set _ (shR_oct (h.oct _))).set _ (shR_oct ((h.set _ (shR_oct (h.oct _))).oct _))
 ·exact h.set _ m256o
 ·exact (h.set _ (h.oct _)).set _ (h.oct _)
 ·exact h.set _ m256o
 ·exact (h.set _ m256o).set _ m256o
theorem iterN_vok {f : List Int × Int -> List Int × Int} (hf : ∀ r, Vok r.1 -> Vok (f r).1) : ∀ (n : Nat) (r : List Int × Int), Vok r.1 -> Vok (iterN f n r).1
 | 0, _, h => h
 | n + 1, r, h => iterN_vok hf n (f r) (hf r h)
theorem play_vok : ∀ (t : Tr) (d : Nat) (r : List Int × Int), okTr d t -> Vok r.1 -> Vok (play t r).1
 | .leaf .., d, r, ok, h => leaf_vok h ok.2.2.2
 | .ite one two o q a b, d, r, ok, h => by
  show Vok (if testB (o % 8).toNat (r.1.getD one 0) (r.1.getD two 0) then play a r else play b r).1
  split
  ·exact play_vok a _ r ok.2.2.2.2.1 h
  ·exact play_vok b _ r ok.2.2.2.2.2 h
 | .loop one two o q a b, d, r, ok, h => iterN_vok (fun r hr => play_vok b _ _ ok.2.2.2.2.2 (play_vok a _ r ok.2.2.2.2.1 hr)) _ r h
theorem tb {x i : Nat} : x / 2 ^ i % 2 = if x.testBit i then 1 else 0 := by
 rw [Nat.testBit_eq_decide_div_mod_eq]
 by_cases h : x / 2 ^ i % 2 = 1
 ·rw [decide_eq_true h, if_pos rfl, h]
 ·rw [decide_eq_false h, if_neg (by decide)]; lia
noncomputable def mixB (j : Nat) (u v : Nat) : Nat := match j with
 | 0 => if u < v then v else u
 | 1 => if v < u then v else u
 | _ => (u + v) % 2
noncomputable def mixN (j : Nat) (x y : Nat) : Nat := match j with
 | 0 => x ||| y
 | 1 => x &&& y
 | _ => x ^^^ y
theorem mix_bit {j x y i : Nat} : mixN j x y / 2 ^ i % 2 = mixB j (x / 2 ^ i % 2) (y / 2 ^ i % 2) := by
 rw [tb, tb, tb]
 match j with
 | 0 =>
  show (if (x ||| y).testBit i then 1 else 0) = _
  rw [Nat.testBit_or]
  cases x.testBit i <;> cases y.testBit i <;> rfl
 | 1 =>
  show (if (x &&& y).testBit i then 1 else 0) = _
  rw [Nat.testBit_and]
  cases x.testBit i <;> cases y.testBit i <;> rfl
 | j + 2 =>
  show (if (x ^^^ y).testBit i then 1 else 0) = _
  rw [Nat.testBit_xor]
  cases x.testBit i <;> cases y.testBit i <;> rfl
noncomputable def mixI (j : Nat) (x y : Int) : Int := match j with
 | 0 => bitOr x y
 | 1 => bitAnd x y
 | _ => bitXor x y
theorem mixI_nat {j : Nat} {x y : Int} (hx : 0 <= x) (hy : 0 <= y) : mixI j x y = (mixN j x.toNat y.toNat : Nat) := by
 match j with
 | 0 =>
  show bitOr x y = ((x.toNat ||| y.toNat : Nat) : Int)
  rw [bitOr_and, bitAnd_pp hx hy]
  have := nat_or_add_and x.toNat y.toNat
  omega
 | 1 => exact bitAnd_pp hx hy
 | j + 2 => exact bitXor_pp hx hy
theorem mixL_at {j : Nat} (hj : j < 3) (u v : Nat) : (mixL u v).getD j 0 = (mixB j u v : Nat) := by
 match j, hj with
 | 0, _ =>
  show (if (u : Int) < v then (v : Int) else u) = ((if u < v then v else u : Nat) : Int)
  by_cases h : u < v
  ·rw [if_pos h, if_pos (by lia)]
  ·rw [if_neg h, if_neg (by lia)]
 | 1, _ =>
  show (if (v : Int) < u then (v : Int) else u) = ((if v < u then v else u : Nat) : Int)
  by_cases h : v < u
  ·rw [if_pos h, if_pos (by lia)]
  ·rw [if_neg h, if_neg (by lia)]
 | 2, _ =>
  show ((u : Int) + v).fmod 2 = (((u + v) % 2 : Nat) : Int)
  rw [fmod_pos (by decide)]
  lia
theorem bitP_ok {x : Int} {i : Nat} {k : Int -> Prop} (hx : 0 <= x) (hi : i < 8) (h : k ((x.toNat / 2 ^ i % 2 : Nat) : Int)) : bitP x (i : Int) k := by
 have p : (2 : Int) ^ ((i : Int)).toNat = ((2 ^ i : Nat) : Int) := by rw [Int.toNat_natCast]; norm_cast
 have p1 : 0 < 2 ^ i := Nat.two_pow_pos i
 have p2 : 2 ^ i <= 2 ^ 8 := Nat.pow_le_pow_right (by decide) (by lia)
 unfold bitP
 rw [p]
 refine ⟨⟨by lia, by lia, by decide⟩, ⟨by lia, by lia⟩, by decide, ?_⟩
 rw [fdiv_pos (by lia), fmod_pos (by decide)]
 have e : x / ((2 ^ i : Nat) : Int) % 2 = ((x.toNat / 2 ^ i % 2 : Nat) : Int) := by
  have : x = (x.toNat : Int) := by lia
  rw [this]
  norm_cast
 rw [e]
 exact h
theorem powR_ok {b i : Nat} {k : Int -> Prop} (hi : i < 8) (h : k ((b * 2 ^ i : Nat) : Int)) : powR b (i : Int) k := by
 have p : (2 : Int) ^ ((i : Int)).toNat = ((2 ^ i : Nat) : Int) := by rw [Int.toNat_natCast]; norm_cast
 have p2 : 2 ^ i <= 2 ^ 8 := Nat.pow_le_pow_right (by decide) (by lia)
 unfold powR
 rw [p]
 exact ⟨⟨by lia, by lia, by decide⟩, .inr (by rw [Int.natAbs_natCast]; lia), by have := h; norm_cast at this ⊢⟩
noncomputable def bitsAt (x : Nat) (i : Nat) : Nat := x / 2 ^ i % 2
noncomputable def nP (p : Nat × Nat) : Int × Int := ((p.1 : Int), (p.2 : Int))
theorem pairR_ok {x y : Int} {KD : List (Int × Int) -> Prop} (hx : 0 <= x) (hy : 0 <= y) : ∀ (es : List Nat) (acc : List (Int × Int)), (∀ e ∈ es, e < 8) -> KD (acc.reverse ++ es.map fun i => nP (bitsAt x.toNat i, bitsAt y.toNat i)) -> pairR x y KD (es.map fun (i : Nat) => (i : Int)) acc
 | [], acc, _, h => ⟨trivial, by rw [List.map_nil, List.append_nil] at h; exact h⟩
 | e :: r, acc, hl, h => ⟨trivial, bitP_ok hx (hl e (.head _)) (bitP_ok hy (hl e (.head _)) (pairR_ok hx hy r _ (fun i hi => hl i (.tail _ hi)) (by rw [List.reverse_cons, List.append_assoc]; exact h)))⟩
theorem mixR_ok {j : Nat} (hj : j < 3) {k : Int} (hk : k - 2 = j) {KD : List Int -> Prop} : ∀ (ps : List (Nat × Nat)) (acc : List Int), KD (acc.reverse ++ ps.map fun p => ((mixB j p.1 p.2 : Nat) : Int)) -> mixR k KD (ps.map nP) acc
 | [], acc, h => ⟨trivial, by rw [List.map_nil, List.append_nil] at h; exact h⟩
 | p :: r, acc, h => by
  refine ⟨trivial, by decide, ?_⟩
  rw [hk]
  refine at_nat hj (by decide) (mixR_ok hj hk r _ ?_)
  rw [show (mixL (nP p).1 (nP p).2).getD j 0 = (mixB j p.1 p.2 : Nat) from mixL_at hj p.1 p.2, List.reverse_cons, List.append_assoc]
  exact h
noncomputable def wts : Nat -> List Nat -> List Int
 | _, [] => []
 | e, b :: r => ((b * 2 ^ e : Nat) : Int) :: wts (e + 1) r
theorem sumR_ok {KD : List Int -> Prop} : ∀ (bs : List Nat) (e : Nat) (acc : List Int), e + bs.length <= 8 -> KD (acc.reverse ++ wts e bs) -> sumR KD (e : Int) (bs.map fun (b : Nat) => (b : Int)) acc
 | [], e, acc, _, h => ⟨trivial, by rw [show wts e [] = [] from rfl, List.append_nil] at h; exact h⟩
 | b :: r, e, acc, hl, h => ⟨trivial, powR_ok (by rw [List.length_cons] at hl; lia) (by
  have := sumR_ok (KD := KD) r (e + 1) (((b * 2 ^ e : Nat) : Int) :: acc) (by rw [List.length_cons] at hl; lia) (by rw [List.reverse_cons, List.append_assoc]; exact h)
  exact this)⟩
theorem wts_sum {N : Nat} (h : N < 256) : (wts 0 ([0, 1, 2, 3, 4, 5, 6, 7].map fun i => N / 2 ^ i % 2)).sum = N := by
 have e : N % 2 ^ 8 = N := Nat.mod_eq_of_lt h
 simp only [Nat.mod_pow_succ] at e
 rw [Nat.pow_zero, Nat.mod_one] at e
 simp only [wts, List.map_cons, List.map_nil, List.sum_cons, List.sum_nil]
 generalize N / 2 ^ 0 % 2 = b0 at *
 generalize N / 2 ^ 1 % 2 = b1 at *
 generalize N / 2 ^ 2 % 2 = b2 at *
 generalize N / 2 ^ 3 % 2 = b3 at *
 generalize N / 2 ^ 4 % 2 = b4 at *
 generalize N / 2 ^ 5 % 2 = b5 at *
 generalize N / 2 ^ 6 % 2 = b6 at *
 generalize N / 2 ^ 7 % 2 = b7 at *
 lia
theorem bits_ok {j : Nat} (hj : j < 3) {k x y : Int} (hk : k - 2 = j) (hx : oct? x) (hy : oct? y) {P : Int -> Prop} (h : P (mixI j x y)) :
  pairR x y (fun ps => True /\ (8 <= lim /\ mixR k (fun bs => 8 <= lim /\ sumR (fun ws => 8 <= lim /\ P ws.sum) 0 bs []) ps [])) [0, 1, 2, 3, 4, 5, 6, 7] [] := by
 have l8 : 8 <= lim := by decide
 have hN : mixN j x.toNat y.toNat < 256 := by
  have h1 := hx.1; have h2 := hx.2; have h3 := hy.1; have h4 := hy.2
  have a : x.toNat < 2 ^ 8 := by lia
  have b : y.toNat < 2 ^ 8 := by lia
  match j with
  | 0 => exact Nat.or_lt_two_pow a b
  | 1 => exact Nat.lt_of_le_of_lt Nat.and_le_left a
  | j + 2 => exact Nat.xor_lt_two_pow a b
 refine pairR_ok hx.1 hy.1 [0, 1, 2, 3, 4, 5, 6, 7] [] (by decide) ⟨trivial, l8, ?_⟩
 refine mixR_ok hj hk ([0, 1, 2, 3, 4, 5, 6, 7].map fun i => (bitsAt x.toNat i, bitsAt y.toNat i)) [] ⟨l8, ?_⟩
 refine sumR_ok ([0, 1, 2, 3, 4, 5, 6, 7].map fun i => mixB j (bitsAt x.toNat i) (bitsAt y.toNat i)) 0 [] (Nat.le_refl 8) ⟨l8, ?_⟩
 have e : (fun i => mixB j (bitsAt x.toNat i) (bitsAt y.toNat i)) = fun i => mixN j x.toNat y.toNat / 2 ^ i % 2 := funext fun i => mix_bit.symm
 rw [e, List.reverse_nil, List.nil_append, wts_sum hN, <- mixI_nat hx.1 hy.1]
 exact h
section
variable {n : Nat} {a b c d : D} {vs : List Int} {sn : Int} {mp : Option Loc} {K : KE} {one two k : Nat} {o q : Int} {ps : D}
theorem two_ok {F : Int -> Int -> Prop} (hv : Vok vs) (h1 : one < 8) (h2 : two < 8) (h : F (vs.getD one 0) (vs.getD two 0)) : two2 one two vs F := at_nat (by rw [hv.len]; exact h1) (by rw [hv.len]; decide) (at_nat (by rw [hv.len]; exact h2) (by rw [hv.len]; decide) h)
theorem set_ok {v : Int} {F : List Int -> Prop} (hv : vs.length = 8) (h1 : one < 8) (h : F (vs.set one v)) : setP one v vs F := at_nat (by rw [hv]; exact h1) (by rw [hv]; decide) h
noncomputable def PlayOk (n : Nat) (a b : D) (vs : List Int) (c d : D) (sn : Int) (mp : Option Loc) (t : Tr) (K : KE) : Prop := K (.d .none) (hsP a b (play t (vs, sn)).1 c d (play t (vs, sn)).2 mp) -> playT n (toD t) (hsP a b vs c d sn mp) K
theorem play_tup {k : Int} {hs : Hs} {one two : Int} : playT n (.tup [.int k, .int one, .int two, .int o, .int q, ps]) hs K = playV n k one two o q ps hs K := rfl
theorem p7_up {x oc enter : Int} {F : List Int -> Prop} (hv : Vok vs) (h1 : one < 8) (h2 : two < 8) (h : F ((vs.set one (x * 2 % 256 + enter)).set two ((vs.set one (x * 2 % 256 + enter)).getD two 0 * 2 % 256 + x / 128))) : play7 x oc one two enter true vs F := by
 have hl : ∀ v, (vs.set one v).length = 8 := fun v => by rw [List.length_set]; exact hv.len
 unfold play7
 rw [fmod_pos (a := x * 2) (by decide), fdiv_pos (a := x) (b := 128) (by decide)]
 refine ⟨⟨by decide, by decide⟩, .inr (by decide), by decide, set_ok hv.len h1 (brT (at_nat (by rw [hl]; exact h2) (by rw [hl]; decide) ⟨.inr (by decide), by decide, ?_⟩))⟩
 rw [fmod_pos (by decide)]
 exact set_ok (hl _) h2 h
theorem p7_dn {x oc enter : Int} {F : List Int -> Prop} (hv : Vok vs) (h1 : one < 8) (h2 : two < 8) (h : F ((vs.set one (x / 2 + 128 * enter)).set two ((vs.set one (x / 2 + 128 * enter)).getD two 0 / 2 + 128 * (x % 2)))) : play7 x oc one two enter false vs F := by
 have hl : ∀ v, (vs.set one v).length = 8 := fun v => by rw [List.length_set]; exact hv.len
 unfold play7
 rw [fmod_pos (a := x) (b := 2) (by decide), fdiv_pos (a := x) (b := 2) (by decide)]
 refine ⟨by decide, ⟨by decide, by decide⟩, .inl (by decide), set_ok hv.len h1 (brF (at_nat (by rw [hl]; exact h2) (by rw [hl]; decide) ⟨⟨by decide, by decide⟩, .inl (by decide), ?_⟩))⟩
 rw [fdiv_pos (by decide)]
 exact set_ok (hl _) h2 h
theorem sh_up {x y : Int} (hy : oct? y) (hx : oct? x) : y * 2 % 256 + x / 128 = shR 1 y (decide (128 <= x)) := by
 have := hy.1; have := hy.2; have := hx.1; have := hx.2
 show _ = (2 * y + cI (decide (128 <= x))) % 256
 by_cases q : 128 <= x
 ·rw [decide_eq_true q]; show _ = (_ + 1) % 256; lia
 ·rw [decide_eq_false q]; show _ = (_ + 0) % 256; lia
theorem sh_dn {x y : Int} : y / 2 + 128 * (x % 2) = shR 3 y (decide (x % 2 = 1)) := by
 show _ = y / 2 + if decide (x % 2 = 1) then 128 else 0
 by_cases q : x % 2 = 1
 ·rw [decide_eq_true q, if_pos rfl, q]; rfl
 ·rw [decide_eq_false q, if_neg (by decide)]; lia
theorem p_7 {j : Nat} {e : Bool} {oc enter : Int} {F : List Int -> Prop} (hv : Vok vs) (h1 : one < 8) (h2 : two < 8) (hj : j < 4) (he : enter = if j % 2 = 1 then cI e else 0) (h : F (leaf7 j e one two vs)) :
  play7 (vs.getD one 0) oc one two enter (decide ((j : Int) < 2)) vs F := by
 have ox := hv.oct one
 generalize hx : vs.getD one 0 = x at *
 have o1 := ox.1; have o2 := ox.2
 have oy : ∀ j, oct? ((vs.set one (shR j x e)).getD two 0) := fun j => (hv.set one (shR_oct ox)).oct two
 unfold leaf7 at h
 rw [hx] at h
 revert he h
 apply of4 ?_ ?_ ?_ ?_ hj <;> intro he h
 ·have w1 : x * 2 % 256 + enter = shR 0 x e := by rw [he]; show _ + 0 = 2 * x % 256; clear oy h; lia
  exact p7_up hv h1 h2 (by rw [w1, sh_up (oy 0) ox]; exact h)
 ·have w1 : x * 2 % 256 + enter = shR 1 x e := by rw [he]; show _ + cI e = (2 * x + cI e) % 256; cases e; exact (by show _ + 0 = (_ + 0) % 256; lia); exact (by show _ + 1 = (_ + 1) % 256; lia)
  exact p7_up hv h1 h2 (by rw [w1, sh_up (oy 1) ox]; exact h)
 ·have w1 : x / 2 + 128 * enter = shR 2 x e := by rw [he]; show _ + 128 * 0 = x / 2; lia
  exact p7_dn hv h1 h2 (by rw [w1, sh_dn]; exact h)
 ·have w1 : x / 2 + 128 * enter = shR 3 x e := by rw [he]; show _ + 128 * cI e = x / 2 + if e then 128 else 0; cases e <;> rfl
  exact p7_dn hv h1 h2 (by rw [w1, sh_dn]; exact h)
theorem sg_ok {x : Int} {k : Int -> Prop} (h : k (sgn x)) : sg x k := by
 unfold sgn at h
 exact br_ok (fun e => by rw [if_pos (of_decide_eq_true e)] at h; exact h) fun e => by rw [if_neg (of_decide_eq_false e)] at h; exact h
theorem tests_at {j : Nat} (hj : j < 8) (x y : Int) : (tests x y (sgn x) (sgn y)).getD j .none = .bool (testB j x y) := by
 exact of8 (P := fun j => (tests x y (sgn x) (sgn y)).getD j .none = .bool (testB j x y)) rfl rfl rfl rfl rfl rfl rfl rfl hj
theorem if1_ok {b : Bool} {u v : Int} {k : Int -> Prop} (h : k (if b then u else v)) : if1 b u v k := by cases b <;> exact h
theorem play_leaf (hv : Vok vs) (hk : k < 12) (h1 : one < 8) (h2 : two < 8) (ho : oct? o) (h : K (.d .none) (hsP a b (leaf k one two o (vs, sn)).1 c d (leaf k one two o (vs, sn)).2 mp)) : playV (n + 1) k one two o q ps (hsP a b vs c d sn mp) K := by
 have ox := hv.oct one; have oy := hv.oct two
 have mix : ∀ j : Nat, j < 3 -> ∀ kk : Int, (kk = 2 \/ kk = 3 \/ kk = 4) -> kk - 2 = j -> K (.d .none) (hsP a b (vs.set one (mixI j (vs.getD one 0) (vs.getD two 0))) c d sn mp) -> playV (n + 1) kk one two o q ps (hsP a b vs c d sn mp) K := fun j hj kk h3 hk hh => by
  rw [play_2 n a b c d vs sn mp K one two o q ps kk h3]
  exact two_ok hv h1 h2 ⟨⟨by decide, by decide⟩, ⟨by decide, by decide⟩, by decide, bits_ok (P := fun v => setP one v vs (fin7 a b c d sn mp K)) hj hk ox oy (set_ok hv.len h1 hh)⟩
 revert h
 apply of12 ?_ ?_ ?_ ?_ ?_ ?_ ?_ ?_ ?_ ?_ ?_ ?_ hk <;> intro h
 ·exact Eq.mpr (play_0 ..) (two_ok hv h1 h2 (set_ok hv.len h1 h))
 ·exact Eq.mpr (play_1 ..) (two_ok hv h1 h2 (set_ok hv.len h1 h))
 ·exact mix 0 (by decide) 2 (.inl rfl) rfl h
 ·exact mix 1 (by decide) 3 (.inr (.inl rfl)) rfl h
 ·exact mix 2 (by decide) 4 (.inr (.inr rfl)) rfl h
 ·exact Eq.mpr (play_5 ..) (two_ok hv h1 h2 ⟨by decide, by rw [fmod_pos (by decide)]; exact set_ok hv.len h1 h⟩)
 ·exact Eq.mpr (play_6 ..) (two_ok hv h1 h2 ⟨by decide, by rw [fmod_pos (by decide)]; exact set_ok hv.len h1 h⟩)
 ·refine Eq.mpr (play_7 ..) ?_
  have e4 : o.fmod 4 = ((o % 4).toNat : Int) := by rw [fmod_pos (by decide)]; lia
  rw [e4]
  have go : ∀ enter : Int, enter = (if (o % 4).toNat % 2 = 1 then cI (decide (o / 4 % 2 = 1)) else 0) -> (4 : Int) ≠ 0 /\ play7 (vs.getD one 0) o one two enter (decide (((o % 4).toNat : Int) < 2)) vs (fin7 a b c d sn mp K) := fun enter he => ⟨by decide, p_7 hv h1 h2 (by lia) he h⟩
  refine two_ok hv h1 h2 ⟨by decide, br_ok (fun e => ⟨⟨by decide, by decide⟩, by decide, go _ ?_⟩) fun e => go 0 ?_⟩
  ·have e : o.fmod 2 = 1 := by simpa using e
   rw [fmod_pos (by decide)] at e
   rw [if_pos (by lia), fmod_pos (by decide), fdiv_pos (by decide)]
   unfold cI
   by_cases e' : o / 4 % 2 = 1
   ·rw [decide_eq_true e', if_pos rfl, e']
   ·rw [decide_eq_false e', if_neg (by decide)]; lia
  ·have e : ¬ o.fmod 2 = 1 := by simpa using e
   rw [fmod_pos (by decide)] at e
   rw [if_neg (by lia)]
 ·refine Eq.mpr (play_8 ..) ?_
  rw [fmod_pos (by decide)]
  exact two_ok hv h1 h2 ⟨by decide, if1_ok ⟨by decide, by rw [fmod_pos (by decide)]; exact set_ok hv.len h1 h⟩⟩
 ·exact Eq.mpr (play_9 ..) (two_ok hv h1 h2 ⟨rfl, set_ok hv.len h1 (set_ok (by rw [List.length_set]; exact hv.len) h2 h)⟩)
 ·refine Eq.mpr (play_10 ..) ?_
  rw [fmod_pos (by decide)]
  exact two_ok hv h1 h2 ⟨by decide, if1_ok ⟨by decide, by rw [fmod_pos (by decide)]; exact set_ok hv.len h1 h⟩⟩
 ·refine Eq.mpr (play_11 ..) ?_
  have m1 : ∀ j : Nat, ((j : Int) + 1).fmod 8 = ((j + 1) % 8 : Nat) := fun j => by rw [fmod_pos (by decide)]; lia
  have es : ∀ u v : Int, u + (if decide (o % 2 = 0) then 1 else -1) * v = sum11 (decide (o % 2 = 0)) u v := fun u v => by
   unfold sum11
   cases decide (o % 2 = 0)
   ·show u + -1 * v = u - v; lia
   ·show u + 1 * v = u + v; lia
  rw [fmod_pos (by decide), m1, m1]
  refine two_ok hv h1 h2 ⟨by decide, if1_ok (b := decide (o % 2 = 0)) ⟨?_, by decide, ?_⟩⟩
  ·cases decide (o % 2 = 0) <;> exact .inl (by decide)
  rw [es, fmod_pos (by decide), fdiv_pos (by decide)]
  have hv2 : Vok (vs.set one (sum11 (decide (o % 2 = 0)) (vs.getD one 0) (vs.getD two 0) % 256)) := hv.set _ m256o
  refine set_ok hv.len h1 ⟨by decide, by decide, two_ok hv2 (Nat.mod_lt _ (by decide)) (Nat.mod_lt _ (by decide)) ⟨?_, ⟨by decide, by decide⟩, by decide, ?_⟩⟩
  ·cases decide (o % 2 = 0) <;> exact .inl (by decide)
  rw [es, fmod_pos (by decide)]
  exact set_ok hv2.len (Nat.mod_lt _ (by decide)) h
end
section
variable {n : Nat} {a b c d : D} {mp : Option Loc} {K : KE} {one two : Nat} {o q : Int} {t₁ t₂ : Tr}
noncomputable def Reads (n : Nat) (t : Tr) : Prop := ∀ (a b c d : D) (mp : Option Loc) (r : List Int × Int) (K : KE), Vok r.1 -> K (.d .none) (hsP a b (play t r).1 c d (play t r).2 mp) -> playT n (toD t) (hsP a b r.1 c d r.2 mp) K
theorem loop_turns {x y : Int} (p₁ : Reads n t₁) (p₂ : Reads n t₂) (v₁ : ∀ r : List Int × Int, Vok r.1 -> Vok (play t₁ r).1) (v₂ : ∀ r : List Int × Int, Vok r.1 -> Vok (play t₂ r).1) : ∀ (us : List Int) (w : V) (r : List Int × Int), Vok r.1 ->
  K (.d .none) (hsP a b (iterN (fun r => play t₂ (play t₁ r)) us.length r).1 c d (iterN (fun r => play t₂ (play t₁ r)) us.length r).2 mp) ->
  turn7 fPlay n 9 fP none (nestP n K 3) (us.map .int) (locP 13 one two o q (.list [toD t₁, toD t₂]) x y [("turn", w)]) (hsP a b r.1 c d r.2 mp)
 | [], w, r, hv, h => by
  rw [List.map_nil, play_13c]
  exact ⟨trivial, h⟩
 | u :: us, w, r, hv, h => by
  rw [List.map_cons, play_13b]
  exact ⟨trivial, ok1_ok (by decide) (by decide) (by decide) (p₁ _ _ _ _ _ r _ hv (ok1_ok (by decide) (by decide) (by decide) (p₂ _ _ _ _ _ (play t₁ r) _ (v₁ r hv) (loop_turns p₁ p₂ v₁ v₂ us _ _ (v₂ _ (v₁ r hv)) h))))⟩
theorem play_ok : ∀ (t : Tr) (d n : Nat), okTr d t -> d <= 2 -> d + 2 <= n -> Reads n t
 | .leaf k one two o q, d, n, ok, hd, hn => by
  intro a b c d' mp r K hv h
  obtain ⟨m, rfl⟩ : ∃ m, n = m + 1 := ⟨n - 1, by lia⟩
  exact play_leaf (vs := r.1) (sn := r.2) hv ok.1 ok.2.1 ok.2.2.1 ok.2.2.2 h
 | .ite one two o q t₁ t₂, d, n, ok, hd, hn => by
  intro a b c d' mp r K hv h
  obtain ⟨d0, h1, h2, ho, oa, ob⟩ := ok
  obtain ⟨m, rfl⟩ : ∃ m, n = m + 2 := ⟨n - 2, by lia⟩
  show playV (m + 2) 12 one two o q (.list [toD t₁, toD t₂]) (hsP a b r.1 c d' r.2 mp) K
  have e8 : o.fmod 8 = ((o % 8).toNat : Int) := by rw [fmod_pos (by decide)]; lia
  rw [play_12, e8]
  refine two_ok hv h1 h2 (sg_ok (sg_ok ⟨by decide, at_nat (show (o % 8).toNat < 8 by lia) (by decide) ?_⟩))
  rw [tests_at (by lia)]
  have pl : play (.ite one two o q t₁ t₂) r = if testB (o % 8).toNat (r.1.getD one 0) (r.1.getD two 0) then play t₁ r else play t₂ r := rfl
  rw [pl] at h
  refine optP_of (a := testB (o % 8).toNat (r.1.getD one 0) (r.1.getD two 0)) rfl (br_ok (fun e => ?_) fun e => ?_)
  ·rw [e, if_pos rfl] at h
   exact ok1_ok (by decide) (by decide) (by decide) (play_ok t₁ (d - 1) (m + 1) oa (by lia) (by lia) _ _ _ _ _ r _ hv h)
  ·rw [e, if_neg Bool.false_ne_true] at h
   exact ok1_ok (by decide) (by decide) (by decide) (play_ok t₂ (d - 1) (m + 1) ob (by lia) (by lia) _ _ _ _ _ r _ hv h)
 | .loop one two o q t₁ t₂, d, n, ok, hd, hn => by
  intro a b c d' mp r K hv h
  obtain ⟨rfl, h1, h2, ho, oa, ob⟩ := ok
  obtain ⟨m, rfl⟩ : ∃ m, n = m + 1 := ⟨n - 1, by lia⟩
  have p₁ := play_ok t₁ 1 m oa (by decide) (by lia)
  have p₂ := play_ok t₂ 1 m ob (by decide) (by lia)
  have v₁ := fun r hr => play_vok t₁ 1 r oa hr
  have v₂ := fun r hr => play_vok t₂ 1 r ob hr
  show playV (m + 1) 13 one two o q (.list [toD t₁, toD t₂]) (hsP a b r.1 c d' r.2 mp) K
  rw [play_13, fmod_pos (by decide)]
  have s : small (2 + o % 2) := ⟨by lia, by lia⟩
  refine two_ok hv h1 h2 ⟨by decide, s, s, ?_⟩
  obtain ⟨k, hk⟩ : ∃ k, (2 + o % 2).toNat = k + 1 := ⟨(2 + o % 2).toNat - 1, by lia⟩
  have er : rangeD (2 + o % 2) = .int 0 :: (((List.range' 1 k).map fun (i : Nat) => (i : Int)).map .int) := by
   unfold rangeD
   rw [hk, List.range_eq_range', List.range'_succ, List.map_cons, List.map_map]
   rfl
  rw [er, play_13a]
  refine ⟨trivial, ok1_ok (by decide) (by decide) (by decide) (p₁ _ _ _ _ _ r _ hv (ok1_ok (by decide) (by decide) (by decide) (p₂ _ _ _ _ _ (play t₁ r) _ (v₁ r hv) (loop_turns p₁ p₂ v₁ v₂ _ _ _ (v₂ _ (v₁ r hv)) ?_))))⟩
  rw [List.length_map, List.length_range']
  have pl : play (.loop one two o q t₁ t₂) r = iterN (fun r => play t₂ (play t₁ r)) (2 + o % 2).toNat r := rfl
  rw [pl, hk] at h
  exact h
theorem mk_tr {T₁ T₂ : Tr} : mkList [toD T₁, toD T₂] = .list [toD T₁, toD T₂] := by cases T₁ <;> rfl
theorem andB_ok {p q : Bool} {A B : Prop} (h1 : p = true -> q = true -> A) (h2 : (p && q) = false -> B) : andB p q A B := by
 cases p
 ·exact h2 rfl
 ·cases q
  ·exact h2 rfl
  ·exact h1 rfl rfl
theorem treeT_ok {kind a x m : Int} {ps : D} {hs : Hs} (h : ∀ (one two : Nat) (o q : Int), one < 8 -> two < 8 -> oct? o -> K (.d (.tup [.int kind, .int one, .int two, .int o, .int q, ps])) hs) : treeT kind a x m ps hs K := by
 unfold treeT
 have e1 : (m + 3 * a).fmod 8 = (((m + 3 * a) % 8).toNat : Int) := by rw [fmod_pos (by decide)]; lia
 have e2 : (m.fdiv 8 + a).fmod 8 = (((m.fdiv 8 + a) % 8).toNat : Int) := by rw [fmod_pos (by decide)]; lia
 rw [e1, e2, fmod_pos (b := 256) (by decide)]
 exact ⟨.inl (by decide), by decide, ⟨by decide, by decide⟩, by decide, ⟨by decide, by decide⟩, .inl (by decide), by decide, ⟨by decide, by decide⟩, ⟨by decide, by decide⟩, h _ _ _ _ (by lia) (by lia) m256o⟩
theorem m16 (x : Int) : ∃ kk : Nat, x % 16 = kk /\ kk < 16 := ⟨(x % 16).toNat, by lia, by lia⟩
theorem tree_ok {nums : List Int} (hn : 60 <= nums.length /\ nums.length <= 1000) : ∀ (d n a : Nat) (hr : List D) (K : KE), d <= 2 -> d + 1 <= n -> a + 2 ^ (d + 2) <= 62 ->
  (∀ T a', okTr d T -> a' + 2 <= a + 2 ^ (d + 2) -> K (.d (toD T)) ⟨.ints [((a' : Nat) : Int)] :: hr, none⟩) -> treeV n nums d ⟨.ints [((a : Nat) : Int)] :: hr, none⟩ K := by
 intro d
 induction d using Nat.strongRecOn with
 | ind d ih =>
  intro n a hr K hd hn' ha k
  obtain ⟨m, rfl⟩ : ∃ m, n = m + 1 := ⟨n - 1, by clear ih k ha; lia⟩
  have p0 : 4 <= 2 ^ (d + 2) := Nat.pow_le_pow_right (n := 2) (i := 2) (by decide) (Nat.le_add_left 2 d)
  have a4 : a + 4 <= 62 := Nat.le_trans (Nat.add_le_add_left p0 a) ha
  have lf : ∀ kk : Nat, kk < 12 -> treeT kk a (nums.getD a 0) (nums.getD (a + 1) 0) (.ints []) ⟨.ints [(a : Int) + 2] :: hr, none⟩ K := fun kk hk => treeT_ok fun one two o q h1 h2 ho => k (.leaf kk one two o q) (a + 2) ⟨hk, h1, h2, ho⟩ (Nat.add_le_add_left p0 a)
  have n0 : a < nums.length /\ a + 1 < nums.length := by clear ih k p0 ha lf; lia
  have n1 : nums.length <= 1000 := hn.2
  rw [tree1]
  refine ok1_ok (by decide) (by decide) (by decide) (at_nat n0.1 (Nat.le_trans n1 (by decide)) ?_)
  refine at_nat (j := a + 1) n0.2 (Nat.le_trans n1 (by decide)) (ok1_ok (by decide) (by decide) (by decide) (ok1_ok (by decide) (by decide) (by decide) ⟨⟨by decide, by decide⟩, .inl (by decide), by decide, ?_⟩))
  dsimp only
  rw [fmod_pos (b := 16) (by decide)]
  obtain ⟨kk, e, hk⟩ : ∃ kk : Nat, (nums.getD a 0 + 5 * (a : Int).fdiv 2) % 16 = kk /\ kk < 16 := m16 _
  rw [e]
  refine andB_ok (fun h _ => ?_) fun h => br_ok (fun h' => ?_) fun h' => lf kk (Nat.lt_succ_of_le (by have := of_decide_eq_false h'; clear lf k ih; lia))
  ·have h : (11 : Int) < kk := of_decide_eq_true h
   rw [show (kk : Int) - 12 = ((kk - 12 : Nat) : Int) by clear lf k ih; lia]
   exact lf _ (by clear lf k ih; lia)
  ·rw [h', Bool.true_and] at h
   cases d with
   | zero => exact nomatch h
   | succ d =>
   rw [show 2 ^ (d + 1 + 2) = 2 ^ (d + 2) + 2 ^ (d + 2) from (Nat.pow_succ (n := 2) (m := d + 2)).trans (Nat.mul_two _)] at ha k
   have two : ∀ (z : Int), (z = 12 \/ z = 13 /\ d = 1) -> treeV m nums (((d + 1 : Nat) : Int) - 1) ⟨.ints [(a : Int) + 2] :: hr, none⟩ fun u hs => treeV m nums (((d + 1 : Nat) : Int) - 1) hs fun v hs => optP (asDs [u, v]) fun ds => treeT z a (nums.getD a 0) (nums.getD (a + 1) 0) (mkList ds) hs K := fun z hz => by
    rw [show ((d + 1 : Nat) : Int) - 1 = (d : Nat) by rw [Int.natCast_succ]; exact Int.add_sub_cancel ..]
    have p3 : 4 <= 2 ^ (d + 2) := Nat.pow_le_pow_right (n := 2) (i := 2) (by decide) (Nat.le_add_left 2 d)
    have hd' : d <= 2 := Nat.le_of_succ_le hd
    have hm : d + 1 <= m := Nat.le_of_succ_le_succ hn'
    refine ih d (Nat.lt_succ_self d) m (a + 2) hr _ hd' hm (by clear lf k ih e n0 p0; lia) fun T₁ a₁ ok₁ l₁ => ih d (Nat.lt_succ_self d) m a₁ hr _ hd' hm (by clear lf k ih e n0 p0; lia) fun T₂ a₂ ok₂ l₂ => ?_
    have l : a₂ + 2 <= a + (2 ^ (d + 2) + 2 ^ (d + 2)) := by clear lf k ih e n0 p0; lia
    refine optP_of (a := [toD T₁, toD T₂]) rfl ?_
    rw [mk_tr]
    refine treeT_ok fun one two o q h1 h2 ho => ?_
    rcases hz with rfl | ⟨rfl, rfl⟩
    ·exact k (.ite one two o q T₁ T₂) a₂ ⟨Nat.zero_lt_succ _, h1, h2, ho, ok₁, ok₂⟩ l
    ·exact k (.loop one two o q T₁ T₂) a₂ ⟨rfl, h1, h2, ho, ok₁, ok₂⟩ l
   exact andB_ok (fun _ h2 => two 13 (.inr ⟨rfl, by have h2 : ((d + 1 : Nat) : Int) = 2 := of_decide_eq_true h2; clear lf k ih two; lia⟩)) fun _ => two 12 (.inl rfl)
end
structure MemIs (m : List Int) (f : Int -> Int) : Prop where
 len : m.length = 65536
 get : ∀ j : Nat, j < 65536 -> m.getD j 0 = f j
theorem MemIs.set {m : List Int} {f : Int -> Int} (I : MemIs m f) {i : Nat} (hi : i < 65536) (v : Int) : MemIs (m.set i v) (upd f i v) := by
 refine ⟨by rw [List.length_set]; exact I.len, fun j hj => ?_⟩
 have l := I.len
 unfold upd
 rw [List.getD_eq_getElem?_getD, List.getElem?_set]
 by_cases e : i = j
 ·subst e
  rw [if_pos rfl, if_pos rfl, if_pos (by lia)]; rfl
 ·rw [if_neg e, if_neg (by lia), <- List.getD_eq_getElem?_getD]
  exact I.get j hj
theorem wrM_ok {m : List Int} {f : Int -> Int} (I : MemIs m f) {i v : Int} (i0 : 0 <= i) (i1 : i < 65536) {k : List Int -> Prop} (h : ∀ m', MemIs m' (upd f i v) -> k m') : wrM m i v k :=
 at_ok i0 (by rw [I.len]; exact i1) (by rw [I.len]; decide) (h _ (by
  have := I.set (i := i.toNat) (by lia) v
  rw [Int.toNat_of_nonneg i0] at this
  exact this))
noncomputable def laid (f : Int -> Int) (a : Int) (l : List Int) : Int -> Int := fun j => if a <= j /\ j < a + l.length then l.getD (j - a).toNat 0 else f j
theorem clip_nat {n j : Nat} (h : j <= n) : clipAt n (j : Int) = j := by unfold clipAt; rw [if_neg (by omega)]; omega
theorem splice_ok {m l : List Int} {f : Int -> Int} (I : MemIs m f) (a : Nat) (h : a + l.length <= 65536) : MemIs (splice m (some (a : Int)) (some ((a : Int) + l.length)) l) (laid f a l) := by
 have hl := I.len
 have e : splice m (some (a : Int)) (some ((a : Int) + l.length)) l = m.take a ++ l ++ m.drop (a + l.length) := by
  unfold splice
  rw [Option.elim_some, Option.elim_some, clip_nat (by lia), <- Int.natCast_add, clip_nat (by lia), Nat.max_eq_right (by lia)]
 have lt : (m.take a).length = a := by rw [List.length_take]; lia
 rw [e]
 refine ⟨by rw [List.length_append, List.length_append, lt, List.length_drop]; lia, fun j hj => ?_⟩
 rw [List.getD_eq_getElem?_getD]
 unfold laid
 by_cases h1 : j < a
 ·rw [if_neg (by lia), List.append_assoc, List.getElem?_append_left (by lia), List.getElem?_take_of_lt h1, <- List.getD_eq_getElem?_getD]
  exact I.get j hj
 ·by_cases h2 : j < a + l.length
  ·rw [if_pos (by lia), List.getElem?_append_left (by rw [List.length_append]; lia), List.getElem?_append_right (by lia), lt, <- List.getD_eq_getElem?_getD]
   congr 1
   lia
  ·rw [if_neg (by lia), List.getElem?_append_right (by rw [List.length_append]; lia), List.length_append, lt, List.getElem?_drop, <- List.getD_eq_getElem?_getD, show a + l.length + (j - (a + l.length)) = j by lia]
   exact I.get j hj
theorem laid_in {f : Int -> Int} {a : Int} {l : List Int} {i : Nat} (h : i < l.length) : laid f a l (a + i) = l.getD i 0 := by
 unfold laid
 rw [if_pos (by lia)]
 congr 1
 lia
theorem laid_out {f : Int -> Int} {a j : Int} {l : List Int} (h : j < a \/ a + l.length <= j) : laid f a l j = f j := if_neg (by lia)
theorem laid_oct {f : Int -> Int} {a : Int} {l : List Int} (hf : ∀ j, oct? (f j)) (hl : ∀ x ∈ l, oct? x) (j : Int) : oct? (laid f a l j) := by
 unfold laid
 split
 ·rw [List.getD_eq_getElem?_getD]
  cases e : l[(j - a).toNat]? with
  | none => exact oz
  | some x => exact hl x (List.mem_of_getElem? e)
 ·exact hf j
structure CellsOk (cl : Nat -> Int) : Prop where
 z : ∀ i, i < 8 -> (20 <= cl i /\ cl i <= 122) \/ (300 <= cl i /\ cl i < 400) \/ (4000 <= cl i /\ cl i < 20000) \/ (65531 <= cl i /\ cl i < 65536)
 inj : ∀ i j, i < 8 -> j < 8 -> cl i = cl j -> i = j
structure Ini (cl : Nat -> Int) (vs : List Int) (k : Nat) (f : Int -> Int) : Prop where
 cell : ∀ i : Nat, i < k -> f (cl i) = vs.getD i 0
 p1 : ∀ i : Nat, i < k -> f ((241 + 2 * i) % 256) = cl i % 256
 p2 : ∀ i : Nat, i < k -> f (((241 + 2 * i) % 256 + 1) % 256) = cl i / 256
 q1 : ∀ i : Nat, i < k -> f (160 + 2 * i) = (cl i - 31 * i - 9) % 65536 % 256
 q2 : ∀ i : Nat, i < k -> f (161 + 2 * i) = (cl i - 31 * i - 9) % 65536 / 256
 oct : ∀ j, oct? (f j)
 z8 : f 8 = 0
 zt : f 511 = 0
noncomputable def ini1 (f : Int -> Int) (cl : Nat -> Int) (vs : List Int) (k : Nat) : Int -> Int :=
 laid (upd (upd (upd f (cl k) (vs.getD k 0)) ((241 + 2 * (k : Int)) % 256) (cl k % 256)) (((241 + 2 * (k : Int)) % 256 + 1) % 256) (cl k / 256)) (160 + 2 * k) [(cl k - 31 * k - 9) % 65536 % 256, (cl k - 31 * k - 9) % 65536 / 256]
theorem upd_not {m : Int -> Int} {i v j : Int} (h : j ≠ i) : upd m i v j = m j := if_neg h
theorem upd_is {m : Int -> Int} {i v : Int} : upd m i v i = v := if_pos rfl
theorem far {j : Int} {k : Nat} (hk : k < 8) (h : j < 160 \/ 176 <= j) : j < 160 + 2 * k \/ 162 + 2 * k <= j := h.imp (fun h => by lia) fun h => by lia
theorem pp {i k : Nat} (hk : k < 8) (h : i < k) : pA i ≠ pA k := by rw [pA_e hk, pA_e (Nat.lt_trans h hk)]; lia
theorem qp {i k : Nat} (hi : i < 8) (hk : k < 8) : qA i ≠ pA k := by
 rw [pA_e hk]
 rcases qA_e hi with e | e
 ·rw [e]; lia
 ·rw [e.1]; lia
theorem qq {i k : Nat} (hk : k < 8) (h : i < k) : qA i ≠ qA k := by
 have e := (qA_e (Nat.lt_trans h hk)).resolve_right fun e => by lia
 rw [e]
 rcases qA_e hk with e | e
 ·rw [e]; lia
 ·rw [e.1]; lia
theorem cell_far {c : Int} (h : (20 <= c /\ c <= 122) \/ (300 <= c /\ c < 400) \/ (4000 <= c /\ c < 20000) \/ (65531 <= c /\ c < 65536)) : 20 <= c /\ c < 65536 /\ (c <= 122 \/ 300 <= c) /\ c ≠ 511 := by omega
theorem cell_p {c : Int} {k : Nat} (h : c <= 122 \/ 300 <= c) (hk : k < 8) : c ≠ pA k := by rw [pA_e hk]; lia
theorem cell_q {c : Int} {k : Nat} (h0 : 20 <= c) (h : c <= 122 \/ 300 <= c) (hk : k < 8) : c ≠ qA k := by
 rcases qA_e hk with e | e
 ·rw [e]; lia
 ·rw [e.1]; lia
theorem cell_out {c : Int} (h : c <= 122 \/ 300 <= c) : c < 160 \/ 176 <= c := h.imp (fun h => by lia) fun h => by lia
theorem low_out {c : Int} {k : Nat} (hk : k < 8) (h1 : 160 <= c) (h2 : c < 176) : c ≠ qA k /\ c ≠ pA k := by
 rw [pA_e hk]
 rcases qA_e hk with e | e
 ·rw [e]; lia
 ·rw [e.1]; lia
section
variable {cl : Nat -> Int} {vs : List Int} {k : Nat} {f : Int -> Int}
theorem ini_old {j : Int} (h1 : j < 160 + 2 * k \/ 162 + 2 * k <= j) (h2 : j ≠ qA k) (h3 : j ≠ pA k) (h4 : j ≠ cl k) : ini1 f cl vs k j = f j :=
 (laid_out (h1.imp id fun h => by show (160 + 2 * (k : Int)) + 2 <= j; lia)).trans ((upd_not h2).trans ((upd_not h3).trans (upd_not h4)))
theorem upd_o {g : Int -> Int} {a v : Int} (hg : ∀ j, oct? (g j)) (hv : oct? v) (j : Int) : oct? (upd g a v j) := by
 unfold upd
 split
 ·exact hv
 ·exact hg j
theorem ini_step (H : CellsOk cl) (hk : k < 8) (hv : Vok vs) (I : Ini cl vs k f) : Ini cl vs (k + 1) (ini1 f cl vs k) := by
 have z := fun i (hi : i < 8) => cell_far (H.z i hi)
 have zk := z k hk
 have l8 : ∀ {i}, i < k -> i < 8 := fun h => Nat.lt_trans h hk
 have cut : ∀ {i}, i < k + 1 -> i < k \/ i = k := Nat.lt_succ_iff_lt_or_eq.mp
 have w1 : oct? (cl k / 256) := ⟨Int.ediv_nonneg (Int.le_trans (by decide) zk.1) (by decide), Int.ediv_lt_of_lt_mul (by decide) zk.2.1⟩
 have out : ∀ {j : Int}, (j < 160 \/ 176 <= j) -> ini1 f cl vs k j = upd (upd (upd f (cl k) (vs.getD k 0)) (pA k) (cl k % 256)) (qA k) (cl k / 256) j := fun hj => laid_out ((far hk hj).imp id fun h => by show (160 + 2 * (k : Int)) + 2 <= _; lia)
 have old : ∀ {j : Int}, (j < 160 \/ 176 <= j) -> j ≠ qA k -> j ≠ pA k -> j ≠ cl k -> ini1 f cl vs k j = f j := fun h => ini_old (far hk h)
 have low : ∀ {i : Nat} {j : Int}, i < k -> (j = 160 + 2 * i \/ j = 161 + 2 * i) -> ini1 f cl vs k j = f j := fun {i j} h e => by
  have r : 160 <= j /\ j < 176 /\ j < 160 + 2 * k := by clear out old cut l8; lia
  have := low_out hk r.1 r.2.1
  exact ini_old (.inl r.2.2) this.1 this.2 fun e' => (cell_out zk.2.2.1).elim (fun h => by lia) fun h => by lia
 refine ⟨fun i hi => (cut hi).elim (fun hi => ?_) fun e => ?_, fun i hi => (cut hi).elim (fun hi => ?_) fun e => ?_, fun i hi => (cut hi).elim (fun hi => ?_) fun e => ?_, fun i hi => (cut hi).elim (fun hi => ?_) fun e => ?_, fun i hi => (cut hi).elim (fun hi => ?_) fun e => ?_, laid_oct (upd_o (upd_o (upd_o I.oct (hv.oct k)) m256o) w1) opn_o2.2, ?_, ?_⟩
 ·have zi := z i (l8 hi)
  exact (old (cell_out zi.2.2.1) (cell_q zi.1 zi.2.2.1 hk) (cell_p zi.2.2.1 hk) fun h => Nat.ne_of_lt hi (H.inj i k (l8 hi) hk h)).trans (I.cell i hi)
 ·rw [e]; exact (out (cell_out zk.2.2.1)).trans ((upd_not (cell_q zk.1 zk.2.2.1 hk)).trans ((upd_not (cell_p zk.2.2.1 hk)).trans upd_is))
 ·exact (old (.inr (pA_out (l8 hi))) (qp hk (l8 hi)).symm (pp hk hi) (cell_p zk.2.2.1 (l8 hi)).symm).trans (I.p1 i hi)
 ·rw [e]; exact (out (.inr (pA_out hk))).trans ((upd_not (qp hk hk).symm).trans upd_is)
 ·exact (old (qA_out (l8 hi)) (qq hk hi) (qp (l8 hi) hk) (cell_q zk.1 zk.2.2.1 (l8 hi)).symm).trans (I.p2 i hi)
 ·rw [e]; exact (out (qA_out hk)).trans upd_is
 ·exact (low hi (.inl rfl)).trans (I.q1 i hi)
 ·rw [e]; exact (congrArg _ (Int.add_zero _).symm).trans (laid_in (i := 0) (by show 0 < 2; decide))
 ·exact (low hi (.inr rfl)).trans (I.q2 i hi)
 ·rw [e, show (161 : Int) + 2 * (k : Int) = 160 + 2 * k + ((1 : Nat) : Int) by lia]
  exact laid_in (i := 1) (by show 1 < 2; decide)
 ·exact (old (.inl (by decide)) (by rcases qA_e hk with e | e <;> lia) (by rw [pA_e hk]; lia) (by lia)).trans I.z8
 ·exact (old (.inr (by decide)) (by rcases qA_e hk with e | e <;> lia) (by rw [pA_e hk]; lia) (Ne.symm zk.2.2.2)).trans I.zt
theorem lay_ok {n : Nat} {cs m : List Int} {K : List Int -> Prop} (H : CellsOk (clOf cs)) (hk : k < 8) (hcs : cs.length = 8) (hvs : vs.length = 8) (I : MemIs m f) (h : ∀ m', MemIs m' (ini1 f (clOf cs) vs k) -> K m') : layC n cs vs m k K := by
 have zk := H.z k hk
 have zc : (20 <= cs.getD k 0 /\ cs.getD k 0 <= 122) \/ (300 <= cs.getD k 0 /\ cs.getD k 0 < 400) \/ (4000 <= cs.getD k 0 /\ cs.getD k 0 < 20000) \/ (65531 <= cs.getD k 0 /\ cs.getD k 0 < 65536) := zk
 have c8 : ∀ {P : Nat -> Prop}, P k -> at' (k : Int) cs.length P := fun h => at_nat (by rw [hcs]; exact hk) (by rw [hcs]; decide) h
 refine at_nat (by rw [hvs]; exact hk) (by rw [hvs]; decide) (c8 (wrM_ok I (by lia) (by lia) fun m₁ I₁ => ⟨.inl (by decide), by decide, c8 ⟨by decide, ⟨by decide, by decide⟩, ?_⟩⟩))
 rw [fmod_pos (b := 256) (by decide), fmod_pos (b := 256) (by decide), fdiv_pos (b := 256) (by decide)]
 refine wrM_ok I₁ (by lia) (by lia) fun m₂ I₂ => ⟨by decide, ?_⟩
 rw [fmod_pos (b := 256) (by decide)]
 refine wrM_ok I₂ (by lia) (by lia) fun m₃ I₃ => c8 ⟨.inl (by decide), by decide, by decide, ⟨by decide, by decide⟩, .inl (by decide), .inl (by decide), by rw [I₃.len]; decide, ?_⟩
 rw [fmod_pos (b := 65536) (by decide), fmod_pos (b := 256) (by decide), fdiv_pos (b := 256) (by decide)]
 have S := splice_ok (l := [(cs.getD k 0 - 31 * k - 9) % 65536 % 256, (cs.getD k 0 - 31 * k - 9) % 65536 / 256]) I₃ (160 + 2 * k) (by show 160 + 2 * k + 2 <= _; lia)
 have e1 : (((160 + 2 * k : Nat) : Int)) = 160 + 2 * (k : Int) := by lia
 have e2 : (160 : Int) + 2 * (k : Int) + (([(cs.getD k 0 - 31 * k - 9) % 65536 % 256, (cs.getD k 0 - 31 * k - 9) % 65536 / 256] : List Int).length : Nat) = 162 + 2 * k := by show 160 + 2 * (k : Int) + 2 = _; lia
 rw [e1, e2] at S
 exact h _ S
end
section
variable {n : Nat} {A B : D} {cs vs b : List Int} {st : Int} {r : List D} {K : KS} {en : Int}
theorem code_st {op : Int} {i : Op} (h : (op, i) ∈ codes7) (d : Nat) (σ : Cpu) (K : KE) : stepR PX7 d (hs8 A cs vs b st σ r) op K = i σ fun σ => K (.d .mpu) (hs8 A cs vs b st σ r) := (List.map_inj_left.mp (stepT d A cs vs b st r σ K)) _ h
theorem step_ok {σ : Cpu} {q q₁ : Q} {K : KE} (A' : Abs 65536 σ q) (G : Goes q q₁) (h : ∀ σ', Abs 65536 σ' q₁ -> K (.d .mpu) (hs8 A cs vs b st σ' r)) : callN PX7 (n + 8) false true "step" [.d .mpu] (hs8 A cs vs b st σ r) K := by
 obtain ⟨op, hm, g, b0, b1⟩ := G
 rw [step0, A'.pc]
 refine A'.rd (by decide) b0 b1 ?_
 rw [code_st hm]
 exact g σ A' _ h
theorem loopM {F : Expr × Expr × List Stmt} (L : Option Int -> Loc) (step : ∀ (u : Int) (i : Option Int) (r : List D) (σ : Cpu), turn7 nm7 (n + 8) 11 F none K (.int u :: r) (L i) (hs8 A cs vs b st σ []) = (True /\ br (σ.pc == en) (K .next (L (some u)) (hs8 A cs vs b st σ []))
   (callN PX7 (n + 8) false true "step" [.d .mpu] (hs8 A cs vs b st σ []) fun _ hs => turn7 nm7 (n + 8) 11 F none K r (L (some u)) hs))) {q' : Q} (hq : q'.pc = en) (h : ∀ u σ', Abs 65536 σ' q' -> K .next (L (some u)) (hs8 A cs vs b st σ' [])) :
  ∀ (k s l : Nat) (i : Option Int) (σ : Cpu) (q : Q), Abs 65536 σ q -> Run en k q q' -> k < l -> turn7 nm7 (n + 8) 11 F none K ((List.range' s l).map fun (i : Nat) => D.int i) (L i) (hs8 A cs vs b st σ [])
 | k, s, 0, i, σ, q, A', R, hk => absurd hk (Nat.not_lt_zero _)
 | 0, s, l + 1, i, σ, q, A', R, hk => by
  have R : q = q' := R
  subst R
  rw [List.range'_succ, List.map_cons, step]
  have : (σ.pc == en) = true := by rw [A'.pc, hq]; exact beq_self_eq_true _
  rw [this]
  exact ⟨trivial, brT (h _ σ A')⟩
 | k + 1, s, l + 1, i, σ, q, A', R, hk => by
  obtain ⟨hlt, q₁, G, R⟩ := R
  rw [List.range'_succ, List.map_cons, step]
  have : (σ.pc == en) = false := by rw [A'.pc]; exact beq_false_of_ne (by lia)
  rw [this]
  exact ⟨trivial, brF (step_ok A' G fun σ' A'' => loopM L step hq h k (s + 1) l _ σ' q₁ A'' R (by lia))⟩
end
section
variable {S : Lay} {cl : Nat -> Int} {e₁ e₂ e₃ st : Int} {l₁ l₂ l₃ : List Int} {T₁ T₂ T₃ : Tr} {w : W}
theorem three_ok (H : LayOk S) (ok : Wok w) (hs : w.sp = 255) (hc : w.cnt = 0) (c₁ : TreeCode S.cl st l₁ 2 T₁) (c₂ : TreeCode S.cl (st + l₁.length) l₂ 2 T₂) (c₃ : TreeCode S.cl (st + l₁.length + l₂.length) l₃ 2 T₃)
  (C₁ : CodeAt S st l₁) (C₂ : CodeAt S (st + l₁.length) l₂) (C₃ : CodeAt S (st + l₁.length + l₂.length) l₃) :
  RW S (0 + 149 + 149 + 149) st w fun q => ∃ (w' : W) (m : Int -> Int), q = w'.q m (st + l₁.length + l₂.length + l₃.length) /\ Mem S w'.vs 0 w'.top m /\ w'.sp = 255 /\ (w'.vs, w'.top) = play T₃ (play T₂ (play T₁ (w.vs, w.top))) := by
 refine c₁.run S H rfl w ok hs (fun _ => hc) _ _ C₁ fun w₁ F₁ => c₂.run S H rfl w₁ F₁.ok (F₁.sp.trans hs) (fun _ => F₁.cnt.trans hc) _ _ C₂ fun w₂ F₂ => c₃.run S H rfl w₂ F₂.ok (F₂.sp.trans (F₁.sp.trans hs)) (fun _ => F₂.cnt.trans (F₁.cnt.trans hc)) _ _ C₃ fun w₃ F₃ => ?_
 intro m M
 have hc3 : w₃.cnt = 0 := F₃.cnt.trans (F₂.cnt.trans (F₁.cnt.trans hc))
 refine Reach.done ⟨w₃, m, rfl, by rw [<- hc3]; exact M, F₃.sp.trans (F₂.sp.trans (F₁.sp.trans hs)), ?_⟩
 rw [F₃.vs, F₃.top, F₂.vs, F₂.top, F₁.vs, F₁.top]
end
structure Fp (cl : Nat -> Int) (vs : List Int) (f : Int -> Int) (top : Int) (k : Nat) (g : Int -> Int) : Prop where
 cell : ∀ i : Nat, i < k -> g (cl i) = vs.getD i 0
 top : g 511 = top
 oth : ∀ j, j ≠ 511 -> (∀ i, i < 8 -> j ≠ cl i) -> g j = f j
theorem fp_step {cl : Nat -> Int} {vs : List Int} {f g : Int -> Int} {top : Int} {k : Nat} (H : CellsOk cl) (hk : k < 8) (F : Fp cl vs f top k g) : Fp cl vs f top (k + 1) (upd g (cl k) (vs.getD k 0)) := by
 refine ⟨fun i hi => ?_, ?_, fun j h1 h2 => ?_⟩
 ·by_cases e : i = k
  ·subst e; exact upd_is
  ·rw [upd_not fun h => e (H.inj i k (by omega) hk h)]
   exact F.cell i (by omega)
 ·have := H.z k hk
  rw [upd_not (by omega)]
  exact F.top
 ·rw [upd_not (h2 k hk)]
  exact F.oth j h1 h2
theorem fp_eq {S : Lay} {vs : List Int} {top : Int} {m g : Int -> Int} (hf : S.f0 8 = 0) (H : LayOk S) (F : Fp S.cl vs S.f0 top 8 g) (M : Mem S vs 0 top m) (j : Int) : m j = g j := by
 by_cases h : ∃ i, i < 8 /\ j = S.cl i
 ·obtain ⟨i, hi, e⟩ := h
  rw [e, M.cell i hi, F.cell i hi]
 ·have h' : ∀ i, i < 8 -> j ≠ S.cl i := fun i hi e => h ⟨i, hi, e⟩
  by_cases h1 : j = 511
  ·subst h1; rw [M.top, F.top]
  ·rw [F.oth j h1 h']
   by_cases h2 : j = 8
   ·subst h2; rw [M.cnt, hf]
   ·exact M.oth j ⟨h2, h1, h'⟩
theorem mem_eq {m b : List Int} {f g : Int -> Int} (h1 : m.length = 65536) (h2 : ∀ j : Nat, j < 65536 -> m.getD j 0 = f j) (I : MemIs b g) (e : ∀ j, f j = g j) : m = b := by
 refine List.ext_getElem (h1.trans I.len.symm) fun j j1 j2 => ?_
 have a1 := h2 j (by lia)
 have a2 := I.get j (by lia)
 rw [List.getD_eq_getElem?_getD, List.getElem?_eq_getElem j1] at a1
 rw [List.getD_eq_getElem?_getD, List.getElem?_eq_getElem j2] at a2
 exact (a1.trans (e j)).trans a2.symm
theorem turn7_nil (x : Str) (n dep : Nat) (F : Expr × Expr × List Stmt) (K : KS) (loc : Loc) (hs : Hs) : turn7 x n dep F none K [] loc hs = (True /\ K .next loc hs) := by kernel_rfl
theorem toInts_map : ∀ l : List Int, toInts (l.map .int) = some l
 | [] => rfl
 | i :: l => by
  show optB (some i) (fun i => optB (toInts (l.map .int)) fun l => some (i :: l)) = _
  rw [toInts_map l]; rfl
theorem mkList_ints (l : List Int) : mkList (l.map .int) = .ints l := by unfold mkList; rw [toInts_map]
theorem rangeD_nat (k : Nat) : rangeD k = (List.range k).map fun (i : Nat) => D.int i := by unfold rangeD; rw [Int.toNat_natCast]
theorem comp_ints {C : List D -> Loc -> List D -> Prop} {KD : List D -> Prop} {f : Int -> Int} {L₀ : Loc} {L₁ : Int -> Loc} {k : Nat} (s₀ : ∀ (u : Nat) r acc, u < k -> C r (L₁ u) (.int (f u) :: acc) -> C (.int u :: r) L₀ acc)
  (s₁ : ∀ (w : Int) (u : Nat) r acc, u < k -> C r (L₁ u) (.int (f u) :: acc) -> C (.int u :: r) (L₁ w) acc) (nil : ∀ L acc, KD acc.reverse -> C [] L acc) (h : KD (((List.range k).map fun (u : Nat) => f u).map .int)) : C (rangeD k) L₀ [] := by
 have go : ∀ (us : List Nat) (w : Int) (acc : List D), (∀ u ∈ us, u < k) -> KD (acc.reverse ++ (us.map fun (u : Nat) => f u).map .int) -> C (us.map fun (u : Nat) => .int u) (L₁ w) acc := by
  intro us
  induction us with
  | nil => exact fun w acc _ h => nil _ _ (by rw [List.map_nil, List.map_nil, List.append_nil] at h; exact h)
  | cons u r ih => exact fun w acc hu h => s₁ w u _ _ (hu u (.head _)) (ih u _ (fun x hx => hu x (.tail _ hx)) (by rw [List.reverse_cons, List.append_assoc]; exact h))
 rw [rangeD_nat]
 have hu : ∀ u ∈ List.range k, u < k := fun u hu => List.mem_range.mp hu
 generalize List.range k = us at *
 cases us with
 | nil => exact nil _ _ h
 | cons u r => exact s₀ u _ _ (hu u (.head _)) (go r u _ (fun x hx => hu x (.tail _ hx)) h)
theorem cut_all (m : List Int) : cut m none none = m := by unfold cut; simp
theorem cut_len (xs : List Int) : (cut xs none (some 40)).length <= 40 := by
 unfold cut
 rw [List.length_take]
 have : clipAt xs.length 40 <= 40 := by unfold clipAt; rw [if_neg (by decide)]; omega
 rw [Option.elim_some]
 omega
theorem small_nat {k : Nat} (h : k < 1000) : small k := ⟨by lia, by lia⟩
section
variable {n : Nat} {K : KE} {xs nums c4 cs vs m : List Int} {t : Int} {o : Option Int} {ts A : D} {hs : Hs} {pg : Int}
theorem sum_loop (k : ∀ t o, 0 <= t -> t < 1000003 -> exB n 2 (locL xs t o []) hs K) : ∀ (l : List Int) (t : Int) (o : Option Int), 0 <= t -> t < 1000003 -> turn7 nm7 n 11 (fL 1) none (bhB n 2 K) (l.map .int) (locL xs t o []) hs
 | [], t, o, h0, h1 => by
  rw [List.map_nil, l1b]
  exact ⟨trivial, k t o h0 h1⟩
 | v :: l, t, o, h0, h1 => by
  rw [List.map_cons, l1a, fmod_pos (by decide)]
  exact ⟨trivial, .inl (by decide), by decide, sum_loop k l _ _ (Int.emod_nonneg _ (by decide)) (Int.emod_lt_of_pos _ (by decide))⟩
theorem st_2 (hx : xs.length <= 63) (k : ∀ nums : List Int, 60 <= nums.length -> nums.length <= 1000 -> exB n 3 (locL xs t o [("numbers", .d (.ints nums))]) ⟨[], none⟩ K) : exB n 2 (locL xs t o []) ⟨[], none⟩ K := by
 have hc := cut_len xs
 rw [l2]
 refine ⟨by rw [lim_is]; lia, small_nat (k := 60) (by decide), small_nat (k := 60) (by decide), by decide, ?_⟩
 refine comp_ints (C := fun r L acc => cmp7 nm7 n 38 cL2 none (fun ds hs => binOpV .Add false (.d (.ints (cut xs none (some 40)))) (.d (mkList ds)) hs fun v hs => exB n 3 (locL xs t o [("numbers", v)]) hs K) r L ⟨[], none⟩ acc)
  (KD := fun ds => binOpV .Add false (.d (.ints (cut xs none (some 40)))) (.d (mkList ds)) ⟨[], none⟩ fun v hs => exB n 3 (locL xs t o [("numbers", v)]) hs K) (f := fun u => t + 7 * u) (L₁ := fun u => latL cL2 (locL xs t o []) [("spot", .d (.int u))])
  (fun u r acc hu h => by rw [l2a]; exact ⟨trivial, .inl (by decide), h⟩) (fun w u r acc hu h => by rw [l2b]; exact ⟨trivial, .inl (by decide), h⟩) (fun L acc h => ⟨trivial, h⟩) (k := 60) ?_
 rw [mkList_ints]
 refine cat_ok rfl rfl (by rw [List.length_map, List.length_range]; lia) (k _ ?_ ?_) <;> rw [List.length_append, List.length_map, List.length_range] <;> lia
theorem st_3 (hn : 60 <= nums.length /\ nums.length <= 1000) (h3 : 3 <= n) (k : ∀ (T₁ T₂ T₃ : Tr) (a : Nat), okTr 2 T₁ -> okTr 2 T₂ -> okTr 2 T₃ -> exB n 5 (locL xs t o (tlB nums (.list [toD T₁, toD T₂, toD T₃]) [])) ⟨[.ints [(a : Int)]], none⟩ K) :
  exB n 3 (locL xs t o [("numbers", .d (.ints nums))]) ⟨[], none⟩ K := by
 rw [l3]
 refine ⟨small_nat (k := 3) (by decide), small_nat (k := 3) (by decide), by decide, ?_⟩
 rw [show rangeD 3 = [.int 0, .int 1, .int 2] from rfl, l3a]
 refine ⟨trivial, tree_ok hn 2 n 0 [] _ (by decide) h3 (by decide) fun T₁ a₁ ok₁ b₁ => optP_of rfl ?_⟩
 rw [l3b]
 refine ⟨trivial, tree_ok hn 2 n a₁ [] _ (by decide) h3 (by lia) fun T₂ a₂ ok₂ b₂ => optP_of rfl ?_⟩
 rw [l3b]
 refine ⟨trivial, tree_ok hn 2 n a₂ [] _ (by decide) h3 (by lia) fun T₃ a₃ ok₃ b₃ => optP_of rfl ⟨trivial, ?_⟩⟩
 have := k T₁ T₂ T₃ a₃ ok₁ ok₂ ok₃
 have e : mkList [toD T₁, toD T₂, toD T₃] = .list [toD T₁, toD T₂, toD T₃] := by cases T₁ <;> rfl
 rw [<- e] at this
 exact this
noncomputable def c4L (t : Int) : List Int := (List.range 4).map fun (u : Nat) => 20 + t % 100 + (u : Int)
noncomputable def csL (t : Int) : List Int := c4L t ++ more t (4096 + 256 * t.fmod 40)
noncomputable def vsL (t : Int) : List Int := (List.range 8).map fun (u : Nat) => (t / ((u : Int) + 1) + 67 * (u : Int)) % 256
theorem st_5 (k : exB n 7 (locL xs t o (tlC nums ts (4096 + 256 * t.fmod 40) [])) ⟨[A, .ints (c4L t)], none⟩ K) : exB n 5 (locL xs t o (tlB nums ts [])) ⟨[A], none⟩ K := by
 rw [l5]
 refine ⟨by decide, .inl (by decide), small_nat (k := 4) (by decide), small_nat (k := 4) (by decide), by decide, ?_⟩
 refine comp_ints (C := fun r L acc => cmp7 nm7 n 39 cL6 none (fun ds hs => exB n 7 (locL xs t o (tlB nums ts [("page", .d (.int (4096 + 256 * t.fmod 40))), ("cells", .loc hs.hp.length)])) ⟨hs.hp ++ [mkList ds], hs.mp⟩ K) r L ⟨[A], none⟩ acc)
  (KD := fun ds => exB n 7 (locL xs t o (tlC nums ts (4096 + 256 * t.fmod 40) [])) ⟨[A, mkList ds], none⟩ K) (f := fun u => 20 + t % 100 + u) (L₁ := fun u => latL cL6 (locL xs t o (tlB nums ts [("page", .d (.int (4096 + 256 * t.fmod 40)))])) [("spot", .d (.int u))])
  (fun u r acc hu h => by rw [l5a, fmod_pos (b := 100) (by decide)]; exact ⟨trivial, by decide, h⟩) (fun w u r acc hu h => by rw [l5b, fmod_pos (b := 100) (by decide)]; exact ⟨trivial, by decide, h⟩) (fun L acc h => ⟨trivial, h⟩) (k := 4) ?_
 rw [mkList_ints]
 exact k
theorem st_7 (h8 : (c4 ++ more t pg).length <= 100) (k : exB n 9 (locL xs t o (tlC nums ts pg [("values", .loc 2)])) ⟨[A, .ints (c4 ++ more t pg), .ints (vsL t)], none⟩ K) : exB n 7 (locL xs t o (tlC nums ts pg [])) ⟨[A, .ints c4], none⟩ K := by
 rw [l7]
 refine ⟨by decide, by decide, by rw [lim_is]; lia, small_nat (k := 8) (by decide), small_nat (k := 8) (by decide), by decide, ?_⟩
 refine comp_ints (C := fun r L acc => cmp7 nm7 n 39 cL8 none (fun ds hs => exB n 9 (locL xs t o (tlC nums ts pg [("values", .loc hs.hp.length)])) ⟨hs.hp ++ [mkList ds], hs.mp⟩ K) r L ⟨[A, .ints (c4 ++ more t pg)], none⟩ acc)
  (KD := fun ds => exB n 9 (locL xs t o (tlC nums ts pg [("values", .loc 2)])) ⟨[A, .ints (c4 ++ more t pg), mkList ds], none⟩ K) (f := fun u => (t / (u + 1) + 67 * u) % 256) (L₁ := fun u => latL cL8 (locL xs t o (tlC nums ts pg [])) [("spot", .d (.int u))])
  (fun u r acc hu h => by rw [l7a, fmod_pos (b := 256) (by decide), fdiv_pos (by lia)]; exact ⟨trivial, ⟨by lia, by lia⟩, .inl (by decide), by decide, h⟩) (fun w u r acc hu h => by rw [l7b, fmod_pos (b := 256) (by decide), fdiv_pos (by lia)]; exact ⟨trivial, ⟨by lia, by lia⟩, .inl (by decide), by decide, h⟩) (fun L acc h => ⟨trivial, h⟩) (k := 8) ?_
 rw [mkList_ints]
 exact k
end
theorem getD_mapr (f : Nat -> Int) (k i : Nat) : ((List.range k).map f).getD i 0 = if i < k then f i else 0 := by
 rw [List.getD_eq_getElem?_getD, List.getElem?_map]
 by_cases h : i < k
 ·rw [List.getElem?_range h, if_pos h]; rfl
 ·rw [List.getElem?_eq_none (by rw [List.length_range]; lia), if_neg h]; rfl
theorem vsL_ok (t : Int) : Vok (vsL t) := ⟨by unfold vsL; rw [List.length_map, List.length_range], fun i => by
 unfold vsL
 rw [getD_mapr]
 split
 ·exact m256o
 ·exact oz⟩
theorem csL_len (t : Int) : (csL t).length = 8 := by unfold csL c4L; rw [List.length_append, List.length_map, List.length_range]; rfl
theorem csL_lo (t : Int) {i : Nat} (h : i < 4) : clOf (csL t) i = 20 + t % 100 + i := by
 unfold clOf csL
 have : (c4L t).length = 4 := by unfold c4L; rw [List.length_map, List.length_range]
 rw [getD_l (by lia)]
 unfold c4L
 rw [getD_mapr, if_pos h]
theorem csL_hi (t : Int) (i : Nat) : clOf (csL t) (4 + i) = (more t (4096 + 256 * t.fmod 40)).getD i 0 := by
 unfold clOf csL
 have : (c4L t).length = 4 := by unfold c4L; rw [List.length_map, List.length_range]
 have := getD_r (c4L t) (more t (4096 + 256 * t.fmod 40)) i
 rw [‹(c4L t).length = 4›] at this
 exact this
noncomputable def unC (t c : Int) : Nat := if c < 200 then (c - 20 - t % 100).toNat else if c < 400 then 7 else if 60000 <= c then 4 else if c % 256 = 255 then 5 else 6
theorem un_lo {w : Int} (h0 : 0 <= w) (h1 : w < 100) {i : Nat} (h : i < 4) : 20 <= 20 + w + i /\ 20 + w + i <= 122 := by lia
theorem cells_un (t : Int) {i : Nat} : i < 8 -> ((20 <= clOf (csL t) i /\ clOf (csL t) i <= 122) \/ (300 <= clOf (csL t) i /\ clOf (csL t) i < 400) \/ (4000 <= clOf (csL t) i /\ clOf (csL t) i < 20000) \/ (65531 <= clOf (csL t) i /\ clOf (csL t) i < 65536)) /\ unC t (clOf (csL t) i) = i := by
 have w0 := Int.emod_nonneg t (b := 100) (by decide)
 have w1 := Int.emod_lt_of_pos t (b := 100) (by decide)
 have lo : ∀ i, i < 4 -> _ := fun i h => by
  have l := un_lo w0 w1 h
  rw [<- csL_lo t h] at l
  have e : unC t (clOf (csL t) i) = i := (if_pos (by clear w0 w1; lia)).trans (by rw [csL_lo t h, show 20 + t % 100 + (i : Int) - 20 - t % 100 = i by clear l w0 w1; lia]; rfl)
  exact And.intro (Or.inl (b := (300 <= clOf (csL t) i /\ clOf (csL t) i < 400) \/ (4000 <= clOf (csL t) i /\ clOf (csL t) i < 20000) \/ (65531 <= clOf (csL t) i /\ clOf (csL t) i < 65536)) l) e
 have u0 := Int.emod_nonneg t (b := 40) (by decide)
 have u1 := Int.emod_lt_of_pos t (b := 40) (by decide)
 intro hi
 apply of8 (lo 0 (by decide)) (lo 1 (by decide)) (lo 2 (by decide)) (lo 3 (by decide)) ?_ ?_ ?_ ?_ hi
 ·rw [show clOf (csL t) 4 = 65535 - t % 5 from (csL_hi t 0).trans (by show 65535 - t.fmod 5 = _; rw [fmod_pos (by decide)])]
  have v0 := Int.emod_nonneg t (b := 5) (by decide)
  have v1 := Int.emod_lt_of_pos t (b := 5) (by decide)
  generalize t % 5 = v at *
  clear w0 w1 lo u0 u1
  exact ⟨.inr (.inr (.inr ⟨by lia, by lia⟩)), (if_neg (by lia)).trans ((if_neg (by lia)).trans (if_pos (by lia)))⟩
 ·rw [show clOf (csL t) 5 = 4096 + 256 * (t % 40) + 255 from (csL_hi t 1).trans (by show 4096 + 256 * t.fmod 40 + 255 = _; rw [fmod_pos (by decide)])]
  generalize t % 40 = u at *
  clear w0 w1 lo
  exact ⟨.inr (.inr (.inl ⟨by lia, by lia⟩)), (if_neg (by lia)).trans ((if_neg (by lia)).trans ((if_neg (by lia)).trans (if_pos (by lia))))⟩
 ·rw [show clOf (csL t) 6 = 4096 + 256 * (t % 40) + 256 from (csL_hi t 2).trans (by show 4096 + 256 * t.fmod 40 + 256 = _; rw [fmod_pos (by decide)])]
  generalize t % 40 = u at *
  clear w0 w1 lo
  exact ⟨.inr (.inr (.inl ⟨by lia, by lia⟩)), (if_neg (by lia)).trans ((if_neg (by lia)).trans ((if_neg (by lia)).trans (if_neg (by lia))))⟩
 ·rw [show clOf (csL t) 7 = 300 + t % 100 from (csL_hi t 3).trans (by show 300 + t.fmod 100 = _; rw [fmod_pos (by decide)])]
  clear u0 u1 lo
  exact ⟨.inr (.inl ⟨by lia, by lia⟩), (if_neg (by lia)).trans (if_pos (by lia))⟩
theorem cells_ok (t : Int) : CellsOk (clOf (csL t)) :=
 ⟨fun i hi => (cells_un t hi).1, fun i j hi hj e => (cells_un t hi).2.symm.trans ((congrArg (unC t) e).trans (cells_un t hj).2)⟩
section
variable {n : Nat} {K : KE} {xs nums cs vs m : List Int} {t : Int} {o : Option Int} {ts A : D} {pg : Int} {f : Int -> Int}
theorem st_9 (H : CellsOk (clOf cs)) (hcs : cs.length = 8) (hv : Vok vs) (k : ∀ m f, MemIs m f -> Ini (clOf cs) vs 8 f -> ∀ po, bhB (n + 1) 11 K .next (locL xs t o (tlD nums ts pg [("cell", .d (.int 7)), ("pointer", .d (.int po))])) (hsM A cs vs m)) :
  exB (n + 1) 9 (locL xs t o (tlC nums ts pg [("values", .loc 2)])) ⟨[A, .ints cs, .ints vs], none⟩ K := by
 have go : ∀ (j i : Nat) (w w' : V) (m : List Int) (f : Int -> Int), i + j + 1 = 8 -> MemIs m f -> Ini (clOf cs) vs (i + 1) f -> ∀ po, turn7 nm7 (n + 1) 11 (fL 10) none (bhB (n + 1) 11 K) ((List.range' (i + 1) j).map fun (i : Nat) => D.int i) (locL xs t o (tlD nums ts pg [("cell", .d (.int i)), ("pointer", .d (.int po))])) (hsM A cs vs m) := by
  intro j
  induction j with
  | zero =>
   intro i w w' m f hi I J po
   obtain rfl : i = 7 := by lia
   rw [List.range'_zero, List.map_nil, turn7_nil]
   exact ⟨trivial, k m f I J po⟩
  | succ j ih =>
   intro i w w' m f hi I J po
   rw [List.range'_succ, List.map_cons, l9b]
   exact ⟨trivial, lay_ok H (by lia) hcs hv.len I fun m' I' => ih (i + 1) w w' m' _ (by lia) I' (ini_step H (by lia) hv J) _⟩
 rw [l9]
 refine ⟨⟨by decide, by decide, by decide⟩, small_nat (k := 8) (by decide), small_nat (k := 8) (by decide), ?_⟩
 have I0 : MemIs (rep 65536 [0]) (fun _ => 0) := by
  have e : rep 65536 [(0 : Int)] = List.replicate 65536 0 := by
   unfold rep
   show (List.replicate 65536 [(0 : Int)]).flatten = _
   generalize (65536 : Nat) = k
   induction k with
   | zero => rfl
   | succ k ih => rw [List.replicate_succ, List.flatten_cons, ih, List.replicate_succ]; rfl
  rw [e]
  refine ⟨List.length_replicate, fun j hj => ?_⟩
  rw [List.getD_eq_getElem?_getD, List.getElem?_replicate, if_pos hj]; rfl
 have J0 : Ini (clOf cs) vs 0 (fun _ => 0) := ⟨fun i h => absurd h (Nat.not_lt_zero i), fun i h => absurd h (Nat.not_lt_zero i), fun i h => absurd h (Nat.not_lt_zero i), fun i h => absurd h (Nat.not_lt_zero i), fun i h => absurd h (Nat.not_lt_zero i), fun _ => oz, rfl, rfl⟩
 rw [show rangeD 8 = .int 0 :: (List.range' (0 + 1) 7).map fun (i : Nat) => D.int i from rfl, l9a]
 exact ⟨trivial, lay_ok (k := 0) H (by decide) hcs hv.len I0 fun m' I' => go 7 0 (.d .none) (.d .none) m' _ rfl I' (ini_step H (by decide) hv J0) _⟩
theorem ini_laid {cl : Nat -> Int} {a : Int} {l : List Int} (H : CellsOk cl) (ha : 20000 <= a) (hl : a + l.length <= 65000) (ol : ∀ x ∈ l, oct? x) (J : Ini cl vs 8 f) : Ini cl vs 8 (laid f a l) := by
 refine ⟨fun i hi => ?_, fun i hi => ?_, fun i hi => ?_, fun i hi => ?_, fun i hi => ?_, laid_oct J.oct ol, ?_, ?_⟩
 ·rw [laid_out (by have := H.z i hi; omega)]; exact J.cell i hi
 ·rw [laid_out (by omega)]; exact J.p1 i hi
 ·rw [laid_out (by omega)]; exact J.p2 i hi
 ·rw [laid_out (by omega)]; exact J.q1 i hi
 ·rw [laid_out (by omega)]; exact J.q2 i hi
 ·rw [laid_out (by omega)]; exact J.z8
 ·rw [laid_out (by omega)]; exact J.zt
theorem lay_code {T : Tr} {en : Int} (e : Nat) (he : en = (e : Int)) {G : V -> Hs -> Nat -> Prop} (hcs : cs.length = 8) (h7 : 7 <= n) (ok : okTr 2 T) (e0 : 20000 <= e) (e1 : e <= 61000) (I : MemIs m f) (h : ∀ l m', TreeCode (clOf cs) en l 2 T -> MemIs m' (laid f en l) -> G (li l) (hsM A cs vs m') l.length) :
  subV n (toD T) en (hsM A cs vs m) fun v hs => lenV v hs fun j => setSliceV (.loc 3) (some (.d (.int en))) (some (.d (.int (en + (j : Int))))) v hs fun hs => lenV v hs fun j => G v hs j := by
 subst he
 refine code_ok hcs T 2 n ok (by decide) h7 A [.ints vs, .ints m] (e : Int) _ (by lia) (by lia) fun l C => ?_
 have hl : l.length <= 193 := C.len
 refine len_ok rfl (by lia) ?_
 show m.length + l.length <= lim /\ lenV (li l) (hsM A cs vs (splice m (some (e : Int)) (some ((e : Int) + l.length)) l)) fun j => G (li l) (hsM A cs vs (splice m (some (e : Int)) (some ((e : Int) + l.length)) l)) j
 refine ⟨by rw [I.len, lim_is]; lia, len_ok rfl (by lia) (h l _ C (splice_ok I e (by lia)))⟩
end
section
variable {K : KE} {xs nums cs vs m b : List Int} {t : Int} {o : Option Int} {A : D} {pg : Int} {f : Int -> Int} {T₁ T₂ T₃ : Tr}
theorem pok48 : Pok 48 false false false false := ⟨by decide, by decide, by decide +kernel, by decide +kernel⟩
theorem st_19 {n : Nat} {ts : D} {po en st : Int} {ce : Int} {tr cd : D} {u : Int} {σ : Cpu} {top : Int} {q : Q} (H : CellsOk (clOf cs)) (hcs : cs.length = 8) (hvs : vs.length = 8) (I : MemIs b f)
  (A' : Abs 65536 σ q) (hpc : q.pc = en) (hsp : q.sp = 255) (fin : ∀ g, Fp (clOf cs) vs f top 8 g -> ∀ j, q.m j = g j) :
  bhB n 19 (fun v _ => v = .d (.bool true)) .next (locL xs t o (tlE nums ts pg ce po en st (tlU tr cd (some u) [("seen", .loc 5)]))) (hs8 A cs vs b st σ [.dict 511 top]) := by
 have go : ∀ (j i : Nat) (ce : Int) (b : List Int) (g : Int -> Int), i + j = 8 -> MemIs b g -> Fp (clOf cs) vs f top i g ->
   turn7 nm7 n 11 (fL 20) none (bhB n 21 (fun v _ => v = .d (.bool true))) ((List.range' i j).map fun (i : Nat) => D.int i) (locL xs t o (tlE nums ts pg ce po en st (tlU tr cd (some u) [("seen", .loc 5)]))) (hs8 A cs vs b st σ [.dict 511 top]) := by
  intro j
  induction j with
  | zero =>
   intro i ce b g hi I F
   obtain rfl : i = 8 := by lia
   rw [List.range'_zero, List.map_nil, turn7_nil, l21]
   have e1 : (σ.pc == en) = true := by rw [A'.pc, hpc]; exact beq_self_eq_true _
   have e2 : (σ.sp == 255) = true := by rw [A'.sp, hsp]; rfl
   rw [e1, e2]
   refine ⟨trivial, brT (brT ?_)⟩
   rw [decide_eq_true (mem_eq A'.len A'.mem I (fin g F))]
  | succ j ih =>
   intro i ce b g hi I F
   have zi := H.z i (by lia)
   have zc : 0 <= cs.getD i 0 /\ cs.getD i 0 < 65536 := by have : clOf cs i = cs.getD i 0 := rfl; rw [<- this]; lia
   rw [List.range'_succ, List.map_cons, l20a]
   exact ⟨trivial, at_nat (by lia) (by lia) (at_nat (by lia) (by lia) (wrM_ok I zc.1 zc.2 fun b' I' => ih (i + 1) _ b' _ (by lia) I' (fp_step H (by lia) F)))⟩
 rw [l19]
 refine ⟨rfl, wrM_ok I (by decide) (by decide) fun b' I' => ⟨small_nat (k := 8) (by decide), small_nat (k := 8) (by decide), ?_⟩⟩
 rw [show rangeD 8 = (List.range' 0 8).map fun (i : Nat) => D.int i from rfl]
 exact go 8 0 _ b' _ rfl I' ⟨fun i h => absurd h (Nat.not_lt_zero i), upd_is, fun j h _ => upd_not h⟩
theorem st_14 {po : Int} {st : Nat} {l₁ l₂ l₃ : List Int} {cd : D} (H : CellsOk (clOf cs)) (hcs : cs.length = 8) (hv : Vok vs) (ok₁ : okTr 2 T₁) (ok₂ : okTr 2 T₂) (ok₃ : okTr 2 T₃) (s0 : 20000 <= st) (s1 : st <= 60000)
  (c₁ : TreeCode (clOf cs) st l₁ 2 T₁) (c₂ : TreeCode (clOf cs) ((st : Int) + l₁.length) l₂ 2 T₂) (c₃ : TreeCode (clOf cs) ((st : Int) + l₁.length + l₂.length) l₃ 2 T₃)
  (I : MemIs m f) (J : Ini (clOf cs) vs 8 f) (g₁ : ∀ i : Nat, i < l₁.length -> f ((st : Int) + i) = l₁.getD i 0) (g₂ : ∀ i : Nat, i < l₂.length -> f ((st : Int) + l₁.length + i) = l₂.getD i 0) (g₃ : ∀ i : Nat, i < l₃.length -> f ((st : Int) + l₁.length + l₂.length + i) = l₃.getD i 0) :
  bhB (11 + 8) 14 (fun v _ => v = .d (.bool true)) .next (locL xs t o (tlE nums (.list [toD T₁, toD T₂, toD T₃]) pg 7 po ((st : Int) + l₁.length + l₂.length + l₃.length) st (tlT (toD T₃) cd []))) (hsM A cs vs m) := by
 have n1 : l₁.length <= 193 := c₁.len
 have n2 : l₂.length <= 193 := c₂.len
 have n3 : l₃.length <= 193 := c₃.len
 have L : LayOk ⟨f, clOf cs, (st : Int) + l₁.length + l₂.length + l₃.length⟩ := ⟨H.z, H.inj, J.oct, J.p1, J.p2, J.q1, J.q2, by show (st : Int) + _ + _ + _ <= 65000; lia⟩
 have ok₀ : Wok ⟨vs, 0, 0, 255, 0, 0, 0, false, false, false, false⟩ := ⟨hv.len, hv.oct, oz, oz, oz⟩
 have M : Mem ⟨f, clOf cs, (st : Int) + l₁.length + l₂.length + l₃.length⟩ vs 0 0 f := ⟨J.cell, J.z8, J.zt, fun _ _ => rfl⟩
 obtain ⟨k, hk, q', R, w', m', rfl, M', hsp, hpl⟩ := three_ok (S := ⟨f, clOf cs, (st : Int) + l₁.length + l₂.length + l₃.length⟩) L ok₀ rfl rfl c₁ c₂ c₃ ⟨by lia, by show _ <= (st : Int) + _ + _ + _; lia, g₁⟩ ⟨by lia, by show _ <= (st : Int) + _ + _ + _; lia, g₂⟩ ⟨by lia, by show _ <= (st : Int) + _ + _ + _; lia, g₃⟩ f M
 rw [l14]
 refine ⟨by rw [I.len, lim_is]; decide, ⟨by decide, by decide, by decide⟩, ⟨by decide, by decide, by decide⟩, ⟨by decide, by decide, by decide⟩, ⟨by decide, by decide, by decide⟩, small_nat (k := 900) (by decide), small_nat (k := 900) (by decide), ?_⟩
 rw [cut_all, show rangeD 900 = (List.range' 0 900).map fun (i : Nat) => D.int i by rw [<- List.range_eq_range']; exact rangeD_nat 900]
 have A₀ : Abs 65536 (cpu7 m st) ((⟨vs, 0, 0, 255, 0, 0, 0, false, false, false, false⟩ : W).q f st) := ⟨I.len, fun i hi => I.get i hi, rfl, rfl, rfl, rfl, rfl, pok48⟩
 refine loopM (n := 11) (en := (st : Int) + l₁.length + l₂.length + l₃.length) (fun u => locL xs t o (tlE nums (.list [toD T₁, toD T₂, toD T₃]) pg 7 po ((st : Int) + l₁.length + l₂.length + l₃.length) st (tlU (toD T₃) cd u []))) (fun u i r σ => l16a ..) rfl (fun u σ' A' => ?_) k 0 900 none (cpu7 m st) _ A₀ R (by lia)
 rw [l17]
 refine ⟨trivial, ?_⟩
 have v1 := play_vok T₁ 2 (vs, 0) ok₁ hv
 have v2 := play_vok T₂ 2 _ ok₂ v1
 have v3 := play_vok T₃ 2 _ ok₃ v2
 rw [l18a]
 refine ⟨trivial, play_ok T₁ 2 19 ok₁ (by decide) (by decide) A (.ints cs) (.ints σ'.m) (.ints m) (some (flds 3 st σ')) (vs, 0) _ hv ?_⟩
 rw [l18a]
 refine ⟨trivial, play_ok T₂ 2 19 ok₂ (by decide) (by decide) A (.ints cs) (.ints σ'.m) (.ints m) (some (flds 3 st σ')) (play T₁ (vs, 0)) _ v1 ?_⟩
 rw [l18a]
 refine ⟨trivial, play_ok T₃ 2 19 ok₃ (by decide) (by decide) A (.ints cs) (.ints σ'.m) (.ints m) (some (flds 3 st σ')) (play T₂ (play T₁ (vs, 0))) _ v2 ?_⟩
 rw [turn7_nil, <- hpl]
 rw [<- hpl] at v3
 exact ⟨trivial, st_19 (n := 19) (vs := w'.vs) (b := m) (f := f) (top := w'.top) (en := (st : Int) + l₁.length + l₂.length + l₃.length) H hcs v3.len I A' rfl hsp fun g F j => fp_eq (S := ⟨f, clOf cs, (st : Int) + l₁.length + l₂.length + l₃.length⟩) J.z8 L F M' j⟩
end
theorem st_11 {xs nums cs vs m : List Int} {t : Int} {o : Option Int} {A : D} {pg po : Int} {f : Int -> Int} {T₁ T₂ T₃ : Tr} (H : CellsOk (clOf cs)) (hcs : cs.length = 8) (hv : Vok vs) (ok₁ : okTr 2 T₁) (ok₂ : okTr 2 T₂) (ok₃ : okTr 2 T₃) (I : MemIs m f) (J : Ini (clOf cs) vs 8 f) :
  bhB (11 + 8) 11 (fun v _ => v = .d (.bool true)) .next (locL xs t o (tlD nums (.list [toD T₁, toD T₂, toD T₃]) pg [("cell", .d (.int 7)), ("pointer", .d (.int po))])) (hsM A cs vs m) := by
 rw [l11, fmod_pos (by decide)]
 obtain ⟨st, e, s0, s1⟩ : ∃ st : Nat, 20000 + t % 40000 = st /\ 20000 <= st /\ st <= 60000 := ⟨(20000 + t % 40000).toNat, by lia, by lia, by lia⟩
 rw [e]
 refine ⟨by decide, ?_⟩
 rw [l13]
 refine ⟨trivial, ?_⟩
 rw [l13a]
 refine ⟨trivial, lay_code st rfl hcs (by decide) ok₁ s0 (by lia) I fun l₁ m₁ c₁ I₁ => ?_⟩
 have n1 : l₁.length <= 193 := c₁.len
 have J₁ := ini_laid H (a := (st : Int)) (by lia) (by lia) c₁.oct J
 rw [l13b]
 refine ⟨trivial, lay_code (st + l₁.length) (Int.natCast_add ..).symm hcs (by decide) ok₂ (by lia) (by lia) I₁ fun l₂ m₂ c₂ I₂ => ?_⟩
 have n2 : l₂.length <= 193 := c₂.len
 have J₂ := ini_laid H (a := (st : Int) + l₁.length) (by lia) (by lia) c₂.oct J₁
 rw [l13b]
 refine ⟨trivial, lay_code (st + l₁.length + l₂.length) (by lia) hcs (by decide) ok₃ (by lia) (by lia) I₂ fun l₃ m₃ c₃ I₃ => ?_⟩
 have n3 : l₃.length <= 193 := c₃.len
 have J₃ := ini_laid H (a := (st : Int) + l₁.length + l₂.length) (by lia) (by lia) c₃.oct J₂
 rw [turn7_nil]
 exact ⟨trivial, st_14 (cd := .ints l₃) H hcs hv ok₁ ok₂ ok₃ s0 s1 c₁ c₂ c₃ I₃ J₃ (fun i hi => (laid_out (.inl (by lia))).trans ((laid_out (.inl (by lia))).trans (laid_in hi))) (fun i hi => (laid_out (.inl (by lia))).trans (laid_in hi)) (fun i hi => laid_in hi)⟩
theorem hev7 : ∀ xs : List Int, xs.length <= 63 -> callN PX7 20 false false nm7 [.d (.arg xs)] ⟨[], none⟩ fun v _ => v = .d (.bool true) := fun xs hx => by
 rw [show (20 : Nat) = (11 + 8) + 1 from rfl, l1]
 refine ⟨by rw [lim_is]; lia, trivial, sum_loop (fun t o h0 h1 => st_2 hx fun nums n1 n2 => st_3 ⟨n1, n2⟩ (by decide) fun T₁ T₂ T₃ a ok₁ ok₂ ok₃ => st_5 (st_7 ?_ (st_9 (n := 18) (cs := csL t) (cells_ok t) (csL_len t) (vsL_ok t) fun m f I J po => st_11 (cells_ok t) (csL_len t) (vsL_ok t) ok₁ ok₂ ok₃ I J))) _ 0 none (by decide) (by decide)⟩
 have := csL_len t
 unfold csL at this
 lia
end Mine
namespace Mine
open PySem PySem.W
set_option maxHeartbeats 0
noncomputable abbrev RW7 : Program := PySem.Challenge.rw_im0096_07.row.prog
theorem look7a : (sreFenced RW7.main && ((moduleNames RW7.main.body).isEmpty || lookedIntoSs (moduleNames RW7.main.body) RW7.main.body)) = true := by kernel_rfl
theorem look7b : namesResolve RW7 = true := by kernel_rfl
theorem look7c : RW7.boundNames.all (fun n => !worldNames.contains n) = true := by kernel_rfl
theorem look7d : noRoadLSs { strict := !(importedModules RW7.main.body).all cThrough.contains, foot := none, bare := (["vars", "dir", "locals"] : List Str).filter (readsOut RW7 RW7.main.body) } RW7.main.body = true := by kernel_rfl
theorem look7e : (namesMeet RW7 RW7.main.body fun _ n => attrL n) = true := by kernel_rfl
theorem looks7 : looksOpen RW7 = true := look_both (look_both (look_both (look_both look7a look7b) look7c) look7d) look7e
theorem start7 : (!startupNames.contains PySem.Challenge.rw_im0096_07.row.name) = true := by rw [PySem.W.Fast.te12749700546528644094]; kernel_rfl
theorem row7 : PySem.Challenge.rw_im0096_07.row.wellSaid = true := by
 delta OpenRow.wellSaid OpenRow.partSaid
 repeat' (with_reducible refine look_both ?_ ?_)
 all_goals with_reducible first | exact looks7 | exact start7 | kernel_rfl
theorem wsaid7 : PySem.Challenge.rw_im0096_07.wellSaid = true := by
 delta OpenLaw.wellSaid
 repeat' (with_reducible refine look_both ?_ ?_)
 all_goals with_reducible first | exact row7 | kernel_rfl
end Mine
open PySem PySem.W
theorem PySem.Challenge.cw_im0096_07_holds : PySem.Challenge.rw_im0096_07.Holds :=
 ⟨Mine.wsaid7, Mine.law7 Mine.row7 Mine.hev7⟩
