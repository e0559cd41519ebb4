import PyProof.Rows.All
import Wide.All
import OpenK.AllK
import Wide.FinOn
import PyProof.Rows.ListMul
import PyProof.SliceList
import PyProof.Rows.SumAny
import PyProof.ListRange
import PyProof.Rows.StrTemp
import KE.KSortTup
import Lean
import PyProof.FactsAll.set_2
import KE.KDictIter
import PyProof.RulesAs
import PyProof.ExcStrCall
import PyProof.RulesRaise
import PyProof.ExcFactsAll.TypeError
import PyProof.ExcStrAll.TypeError
import PySem.Challenge.RW_dn0048_06
set_option Elab.async false
set_option tactic.hygienic false
set_option compiler.extract_closed false
set_option bootstrap.genMatcherCode false
set_option maxHeartbeats 8000000
set_option linter.unusedVariables false
set_option linter.unusedSimpArgs false
namespace Mine
@[elab_as_elim] theorem rE {α : Sort _} {a b : α} {P : α→Prop} (h : a = b) (m : P b) : P a := h ▸ m
@[elab_as_elim] theorem rF {α : Sort _} {a b : α} {P : α→Prop} (h : b = a) (m : P b) : P a := h ▸ m
theorem eA  {p q : Prop} {R : Prop} (h : p∧q) (f : p→q→R) : R := f h.1 h.2
theorem eE {α0 : Sort _} {p : α0→Prop} {R : Prop} (h : ∃ w,p w) (f : ∀ w,p w→R) : R := h.elim fun w h => f w h
theorem eAA  {p q r : Prop} {R : Prop} (h : p∧q∧r) (f : p→q→r→R) : R := f h.1 h.2.1 h.2.2
theorem eEA {α0 : Sort _} {p q : α0→Prop} {R : Prop} (h : ∃ w,p w∧q w) (f : ∀ w,p w→q w→R) : R := h.elim fun w h => f w h.1 h.2
theorem eEE {α0 : Sort _} {α1 : Sort _} {p : α0→α1→Prop} {R : Prop} (h : ∃ w v,p w v) (f : ∀ w v,p w v→R) : R := h.elim fun w h => h.elim fun v h => f w v h
theorem eAAA  {p q r s : Prop} {R : Prop} (h : p∧q∧r∧s) (f : p→q→r→s→R) : R := f h.1 h.2.1 h.2.2.1 h.2.2.2
theorem eEAA {α0 : Sort _} {p q r : α0→Prop} {R : Prop} (h : ∃ w,p w∧q w∧r w) (f : ∀ w,p w→q w→r w→R) : R := h.elim fun w h => f w h.1 h.2.1 h.2.2
theorem eEEA {α0 : Sort _} {α1 : Sort _} {p q : α0→α1→Prop} {R : Prop} (h : ∃ w v,p w v∧q w v) (f : ∀ w v,p w v→q w v→R) : R := h.elim fun w h => h.elim fun v h => f w v h.1 h.2
theorem eEEE {α0 : Sort _} {α1 : Sort _} {α2 : Sort _} {p : α0→α1→α2→Prop} {R : Prop} (h : ∃ w v u,p w v u) (f : ∀ w v u,p w v u→R) : R := h.elim fun w h => h.elim fun v h => h.elim fun u h => f w v u h
theorem eAAAA  {p q r s t : Prop} {R : Prop} (h : p∧q∧r∧s∧t) (f : p→q→r→s→t→R) : R := f h.1 h.2.1 h.2.2.1 h.2.2.2.1 h.2.2.2.2
theorem eEAAA {α0 : Sort _} {p q r s : α0→Prop} {R : Prop} (h : ∃ w,p w∧q w∧r w∧s w) (f : ∀ w,p w→q w→r w→s w→R) : R := h.elim fun w h => f w h.1 h.2.1 h.2.2.1 h.2.2.2
theorem eEEAA {α0 : Sort _} {α1 : Sort _} {p q r : α0→α1→Prop} {R : Prop} (h : ∃ w v,p w v∧q w v∧r w v) (f : ∀ w v,p w v→q w v→r w v→R) : R := h.elim fun w h => h.elim fun v h => f w v h.1 h.2.1 h.2.2
theorem eEEEA {α0 : Sort _} {α1 : Sort _} {α2 : Sort _} {p q : α0→α1→α2→Prop} {R : Prop} (h : ∃ w v u,p w v u∧q w v u) (f : ∀ w v u,p w v u→q w v u→R) : R := h.elim fun w h => h.elim fun v h => h.elim fun u h => f w v u h.1 h.2
def syn4 : Lean.Syntax := Lean.Unhygienic.run `(Lean.Parser.Tactic.tacticSeq| decide)
def syn3 : Lean.Syntax := Lean.Unhygienic.run `(Lean.Parser.Tactic.tacticSeq| intro _ _; with_unfolding_all rfl)
def syn2 : Lean.Syntax := Lean.Unhygienic.run `(Lean.Parser.Tactic.tacticSeq| intro _; with_unfolding_all rfl)
def syn5 : Lean.Syntax := Lean.Unhygienic.run `(Lean.Parser.Tactic.tacticSeq| kernel_rfl)
def syn1 : Lean.Syntax := Lean.Unhygienic.run `(Lean.Parser.Tactic.tacticSeq| with_unfolding_all rfl)
end Mine
section
namespace Mine
noncomputable section
theorem mid2_le {l r : Nat} (h : l≤r) : l≤(l + r) / 2 := by lia
theorem mid2_lt {l r : Nat} (h : l < r) : (l + r) / 2 < r := by lia
theorem go_up {hi f lo m : Nat} (a : lo≤m) (h : hi≤f + 1 + lo) : hi≤f + (m + 1) := by lia
theorem go_dn {hi f lo m : Nat} (a : m < hi) (h : hi≤f + 1 + lo) : m≤f + lo := by lia
theorem no1 {α : Type} {o : Option α} {c : α} (a : o = none) (b : o = some c) : False := by rw [a] at b; cases b
theorem no2 {α : Type} {o : Option α} {c : α} (a : o = some c) (b : o = none) : False := by rw [a] at b; cases b
end
end Mine
end
section
open PySem PySem.Calls PySem.W PyProof.Rows
set_option maxRecDepth 100000
namespace Mine
noncomputable section
inductive V where
 | con (v : Value)
 | int (i : Int)
 | str (x : Str)
 | tup (l : List V)
 | rng (a b c : Int)
 | imm (o : Obj)
 | fn (name qual : Str) (params : Arguments) (body : PySem.Expr) (scope : Scope) (cl : List (Str × Addr))
 | ref (a : Addr)
noncomputable abbrev V.none : V := .con .none
noncomputable abbrev V.bool (b : Bool) : V := .con (.bool b)
noncomputable abbrev Loc := List (Str × V)
inductive CObj where
 | list (xs : List V)
 | dict (kvs : List (Int × V)) (ep : Nat)
 | set (S : Int→Bool) (n : Nat)
 | cell (v : Option V)
 | inst (C d : Addr) (sl : List (Option V))
 | idict (fs : Loc)
 | liter (l : Addr) (i : Nat)
 | raw (o : Obj)
 | tab (qs : List ((Nat × Nat) × Str))
noncomputable def CObj.tg : CObj→Nat
 | .list _ => 1 | .dict .. => 2 | .set .. => 3 | .cell _ => 4 | .inst .. => 5 | .idict _ => 6 | .liter .. => 7 | .raw _ => 8 | .tab _ => 9
noncomputable def tgO : Option CObj→Nat | none => 0 | some c => c.tg + 1
noncomputable abbrev CH := Addr→Option CObj
theorem ne_at {H : CH} {x y : Addr} {u v : Option CObj} (h2 : H x = u) (h1 : H y = v) (h : Nat.beq (tgO u) (tgO v) = false := by rfl) : x≠y := fun e => by
 subst e
 rw [← h2,← h1,Nat.beq_refl] at h
 cases h
noncomputable def CH.set (H : CH) (a : Addr) (c : CObj) : CH := fun b => if b = a then some c else H b
theorem CH.set_same {H : CH} {a : Addr} {c : CObj} : H.set a c a = some c := by simp [CH.set]
theorem CH.set_ne {H : CH} {a b : Addr} {c : CObj} (h : b≠a) : H.set a c b = H b := by simp [CH.set,h]
noncomputable def immCls : List String := ["tuple", "range", "function", "dict_values", "dict_keys", "dict_items", "method-wrapper", "method", "builtin_function_or_method"]
noncomputable def Imm (o : Obj) : Prop := o.isFreed = false∧((∃ T ∈ immCls,o.cls = .type T)∨∃ vs x t,o.data = .fields vs∧vs[1]? = some (.str x t))∧(∀ es ep,o.data≠.dict es ep)∧(∀ v,o.data≠.cell v)∧∀ es ep t,o.data≠.set es ep t
theorem Imm.tup {items : Array Value} {n : Nat} : Imm (seqObj "tuple" items n) := ⟨rfl,.inl ⟨"tuple",by decide,rfl⟩,(by intro _ _ e; cases e),(by intro _ e; cases e),(by intro _ _ _ e; cases e)⟩
theorem Imm.rng {vs : Array Value} : Imm { cls := .type "range",dict := none,data := .fields vs,slots := #[] } := ⟨rfl,.inl ⟨"range",by decide,rfl⟩,(by intro _ _ e; cases e),(by intro _ e; cases e),(by intro _ _ _ e; cases e)⟩
theorem Imm.fn {fd : FuncData} : Imm { cls := .type "function",data := .func fd } := ⟨rfl,.inl ⟨"function",by decide,rfl⟩,(by intro _ _ e; cases e),(by intro _ e; cases e),(by intro _ _ _ e; cases e)⟩
theorem Imm.code {o : Obj} {vs : Array Value} {x : Str} {t : Tok} (hd : o.data = .fields vs) (h : vs[1]? = some (.str x t)) : Imm o :=
 ⟨Obj.isFreed_of_fields hd,.inr ⟨vs,x,t,hd,h⟩,(by intro _ _ e; rw [hd] at e; cases e),(by intro _ e; rw [hd] at e; cases e),(by intro _ _ _ e; rw [hd] at e; cases e)⟩
mutual
noncomputable def VR (h : Heap) : V→Value→Prop
 | .con c,v => v = c
 | .int i,v => ∃ t,v = .int i t
 | .str x,v => ∃ t,v = .str x t
 | .tup l,v => ∃ a items n,v = .ref a∧h.get? a = some (seqObj "tuple" items n)∧VRs h l items.toList
 | .rng a b c,v => ∃ r t u w,v = .ref r∧h.get? r = some { cls := .type "range",dict := none,data := .fields #[.int a t,.int b u,.int c w],slots := #[] }
 | .imm o,v => Imm o∧∃ a,v = .ref a∧h.get? a = some o
 | .fn name qual params body scope cl,v => ∃ a pm c ctv,v = .ref a∧h.get? a = some (kla_obj name qual params body scope cl pm c ctv)∧h.CodeRec (.ref c) qual
 | .ref a,v => v = .ref a
noncomputable def VRs (h : Heap) : List V→List Value→Prop
 | [],[] => True
 | x :: xs,y :: ys => VR h x y∧VRs h xs ys
 | _,_ => False
end
noncomputable def TupKeep (h h' : Heap) : Prop := ∀ b o,Imm o→h.get? b = some o→h'.get? b = some o
theorem TupKeep.rec {h h' : Heap} (k : TupKeep h h') {v : Value} {q : Str} (x : h.CodeRec v q) : h'.CodeRec v q :=
 let ⟨c,o,vs,t,e,g,hd,hv⟩ := x; ⟨c,o,vs,t,e,k _ _ (.code hd hv) g,hd,hv⟩
mutual
theorem VR.keep {h h' : Heap} (k : TupKeep h h') : ∀ {x : V} {v : Value},VR h x v→VR h' x v
 | .con _,_,r => r
 | .int _,_,r => r
 | .str _,_,r => r
 | .ref _,_,r => r
 | .rng a b c,v,r => by
  unfold VR at r ⊢
  obtain ⟨x,t,u,w,e,ho⟩ := r
  exact ⟨x,t,u,w,e,k _ _ .rng ho⟩
 | .imm o,v,r => by
  unfold VR at r ⊢
  obtain ⟨i,x,e,ho⟩ := r
  exact ⟨i,x,e,k _ _ i ho⟩
 | .fn ..,v,r => by
  unfold VR at r ⊢
  obtain ⟨a,pm,c,ctv,e,ho,hc⟩ := r
  exact ⟨a,pm,c,ctv,e,k _ _ .fn ho,k.rec hc⟩
 | .tup l,v,r => by
  unfold VR at r ⊢
  obtain ⟨a,items,n,e,ho,hs⟩ := r
  exact ⟨a,items,n,e,k _ _ .tup ho,VRs.keep k hs⟩
theorem VRs.keep {h h' : Heap} (k : TupKeep h h') : ∀ {xs : List V} {vs : List Value},VRs h xs vs→VRs h' xs vs
 | [],[],_ => by unfold VRs; trivial
 | [],_ :: _,r => by unfold VRs at r; exact r.elim
 | _ :: _,[],r => by unfold VRs at r; exact r.elim
 | x :: xs,y :: ys,r => by
  unfold VRs at r ⊢
  exact ⟨VR.keep k r.1,VRs.keep k r.2⟩
end
theorem VRs.nil {h : Heap} : VRs h [] [] := by unfold VRs; trivial
theorem VRs.cons {h : Heap} {x : V} {xs : List V} {y : Value} {ys : List Value} (a : VR h x y) (b : VRs h xs ys) : VRs h (x :: xs) (y :: ys) := by unfold VRs; exact ⟨a,b⟩
theorem VRs.head {h : Heap} {x : V} {xs : List V} {y : Value} {ys : List Value} (r : VRs h (x :: xs) (y :: ys)) : VR h x y := by unfold VRs at r; exact r.1
theorem VRs.tail {h : Heap} {x : V} {xs : List V} {y : Value} {ys : List Value} (r : VRs h (x :: xs) (y :: ys)) : VRs h xs ys := by unfold VRs at r; exact r.2
theorem VRs.length {h : Heap} : ∀ {xs : List V} {vs : List Value},VRs h xs vs→xs.length = vs.length
 | [],[],_ => rfl
 | [],_ :: _,r => by unfold VRs at r; exact r.elim
 | _ :: _,[],r => by unfold VRs at r; exact r.elim
 | _ :: _,_ :: _,r => by refine rE List.length_cons (rE List.length_cons (rE (VRs.length r.tail) rfl))
theorem VRs.nil_inv {h : Heap} {vs : List Value} (r : VRs h [] vs) : vs = [] := by
 cases vs with
 | nil => rfl
 | cons => unfold VRs at r; exact r.elim
theorem VRs.cons_inv {h : Heap} {x : V} {xs : List V} {vs : List Value} (r : VRs h (x :: xs) vs) : ∃ y ys,vs = y :: ys∧VR h x y∧VRs h xs ys := by
 cases vs with
 | nil => unfold VRs at r; exact r.elim
 | cons y ys => exact ⟨y,ys,rfl,r.head,r.tail⟩
theorem VRs.get {h : Heap} : ∀ {xs : List V} {vs : List Value},VRs h xs vs→∀ {i : Nat} {x : V},xs[i]? = some x→∃ v,vs[i]? = some v∧VR h x v
 | [],_,_,i,x,e => by simp at e
 | x :: xs,vs,r,i,x',e => by
  refine eEEAA r.cons_inv fun y ys zz2 a b => ?_; subst zz2
  cases i with
  | zero => simp at e; subst e; exact ⟨y,by exact List.getElem?_cons_zero,a⟩
  | succ i => simp at e; refine eEA (VRs.get b e) fun v hv q => ?_; exact ⟨v,by assumption,q⟩
theorem VRs.append {h : Heap} : ∀ {xs ys : List V} {vs ws : List Value},VRs h xs vs→VRs h ys ws→VRs h (xs ++ ys) (vs ++ ws)
 | [],_,vs,_,r,q => by have := r.nil_inv; subst this; exact q
 | x :: xs,_,vs,_,r,q => by
  refine eEEAA r.cons_inv fun y ys zz2 a b => ?_; subst zz2
  exact .cons a (VRs.append b q)
theorem VRs.set {h : Heap} : ∀ {xs : List V} {vs : List Value},VRs h xs vs→∀ (i : Nat) {x : V} {v : Value},VR h x v→VRs h (xs.set i x) (vs.set i v)
 | [],vs,r,i,x,v,_ => by have := r.nil_inv; subst this; exact .nil
 | y :: xs,vs,r,i,x,v,q => by
  refine eEEAA r.cons_inv fun z ys zz2 a b => ?_; subst zz2
  cases i with
  | zero => exact .cons q b
  | succ i => exact .cons a (VRs.set b i q)
theorem VRs.take {h : Heap} : ∀ {xs : List V} {vs : List Value},VRs h xs vs→∀ (n : Nat),VRs h (xs.take n) (vs.take n)
 | [],vs,r,n => by have := r.nil_inv; subst this; simpa using VRs.nil
 | y :: xs,vs,r,n => by
  refine eEEAA r.cons_inv fun z ys zz2 a b => ?_; subst zz2
  cases n with
  | zero => exact .nil
  | succ n => exact .cons a (VRs.take b n)
theorem VRs.drop {h : Heap} : ∀ {xs : List V} {vs : List Value},VRs h xs vs→∀ (n : Nat),VRs h (xs.drop n) (vs.drop n)
 | [],vs,r,n => by have := r.nil_inv; subst this; simpa using VRs.nil
 | y :: xs,vs,r,n => by
  refine eEEAA r.cons_inv fun z ys zz2 a b => ?_; subst zz2
  cases n with
  | zero => exact .cons a b
  | succ n => exact VRs.drop b n
theorem VRs.eraseIdx {h : Heap} : ∀ {xs : List V} {vs : List Value},VRs h xs vs→∀ (n : Nat),VRs h (xs.eraseIdx n) (vs.eraseIdx n)
 | [],vs,r,n => by have := r.nil_inv; subst this; simpa using VRs.nil
 | y :: xs,vs,r,n => by
  refine eEEAA r.cons_inv fun z ys zz2 a b => ?_; subst zz2
  cases n with
  | zero => exact b
  | succ n => exact .cons a (VRs.eraseIdx b n)
noncomputable def OptR (h : Heap) : Option V→Option Value→Prop
 | none,none => True
 | some v,some r => VR h v r
 | _,_ => False
noncomputable def Knows (h : Heap) (m : Loc) (mr : Str→Option Value) : Prop := ∀ x v,m.lookup x = some v→∃ r,mr x = some r∧VR h v r
noncomputable def OptRs (h : Heap) : List (Option V)→List (Option Value)→Prop
 | [],[] => True
 | a :: as,b :: bs => OptR h a b∧OptRs h as bs
 | _,_ => False
noncomputable def EsR (h : Heap) : Loc→List DictEntry→Prop
 | [],[] => True
 | (x,v) :: fs,e :: es => (∃ t,e.key = .str x t)∧VR h v e.val∧EsR h fs es
 | _,_ => False
structure Cx where
 prog : Program
 w : World
 h₀ : Heap
 env : Env
 fr : List Env
noncomputable def ORep (C : Cx) (h : Heap) : CObj→Obj→Prop
 | .list xs,o => ∃ items n,o = seqObj "list" items n∧VRs h xs items.toList
 | .dict kvs ep,o => o.ExactDict∧∃ es rs,o.data = .dict es ep∧KeysOf (intKind C.prog C.w) es∧Pairs (intKind C.prog C.w) es.toList ((kvs.map (·.1)).zip rs)∧(kvs.map (·.1)).Nodup∧VRs h (kvs.map (·.2)) rs
 | .set S n,o => o.ExactSet∧∃ es ep t,o.data = .set es ep t∧ElemsOf (intKind C.prog C.w) es.toList∧(∀ k,S k = true↔∃ e ∈ es.toList,(intKind C.prog C.w).is k e.2 = true)∧es.size < scanBound∧t.fits es.size = true∧es.size = n
 | .cell v,o => ∃ r,o.data = .cell r∧OptR h v r
 | .inst K d sl,o => ∃ rs : Array (Option Value),o = { cls := .ref K,dict := some d,data := .plain,slots := rs }∧OptRs h sl rs.toList
 | .idict fs,o => ∃ es n,o = dictOf es n∧EsR h fs es
 | .liter l i,o => o = { cls := .type "list_iterator",data := .fields #[.ref l,.int i 0] }
 | .raw o',o => o = o'∧o.isFreed = false∧¬ Imm o
 | .tab qs,o => ∃ ps,o = tabObj ps∧TriplesOk ps.toList∧∀ pos cv,codeAmong pos ps.toList = some cv→∀ q,qs.lookup (pos.line,pos.col) = some q→h.CodeRec cv q
theorem Knows.keep {h h' : Heap} (k : TupKeep h h') {m : Loc} {mr : Str→Option Value} (x : Knows h m mr) : Knows h' m mr := fun n v e =>
 let ⟨r,a,b⟩ := x n v e; ⟨r,a,b.keep k⟩
theorem OptR.keep {h h' : Heap} (k : TupKeep h h') : ∀ {v : Option V} {r : Option Value},OptR h v r→OptR h' v r
 | none,none,_ => trivial
 | some _,some _,x => VR.keep k x
 | none,some _,x => x.elim
 | some _,none,x => x.elim
theorem OptRs.keep {h h' : Heap} (k : TupKeep h h') : ∀ {a : List (Option V)} {b : List (Option Value)},OptRs h a b→OptRs h' a b
 | [],[],_ => trivial
 | _ :: _,_ :: _,x => ⟨x.1.keep k,x.2.keep k⟩
 | [],_ :: _,x => x.elim
 | _ :: _,[],x => x.elim
theorem EsR.keep {h h' : Heap} (k : TupKeep h h') : ∀ {a : Loc} {b : List DictEntry},EsR h a b→EsR h' a b
 | [],[],_ => trivial
 | (_,_) :: _,_ :: _,x => ⟨x.1,x.2.1.keep k,x.2.2.keep k⟩
 | [],_ :: _,x => x.elim
 | _ :: _,[],x => x.elim
theorem ORep.keep {C : Cx} {h h' : Heap} (k : TupKeep h h') {c : CObj} {o : Obj} (x : ORep C h c o) : ORep C h' c o := by
 cases c with
 | list xs => obtain ⟨items,n,e,r⟩ := x; exact ⟨items,n,e,r.keep k⟩
 | dict kvs ep => obtain ⟨a,es,rs,b,c,d,e,r⟩ := x; exact ⟨a,es,rs,b,c,d,e,r.keep k⟩
 | set S n => exact x
 | cell v => obtain ⟨r,e,q⟩ := x; exact ⟨r,e,q.keep k⟩
 | inst K d sl => obtain ⟨rs,e,r⟩ := x; exact ⟨rs,e,r.keep k⟩
 | idict fs => obtain ⟨es,n,e,r⟩ := x; exact ⟨es,n,e,r.keep k⟩
 | liter l i => exact x
 | raw o' => exact x
 | tab qs => obtain ⟨ps,e,ht,hq⟩ := x; exact ⟨ps,e,ht,fun pos cv e q hl => k.rec (hq pos cv e q hl)⟩
theorem triples_no_str {l : List Value} (h : TriplesOk l) : ∀ x t,l[1]?≠some (.str x t) := by
 intro x t e
 rcases l with _ | ⟨a,_ | ⟨b,r⟩⟩
 ·cases e
 ·cases e
 ·obtain rfl : b = .str x t := Option.some.inj e
  cases a <;> exact h
theorem ORep.not_imm {C : Cx} {h : Heap} {c : CObj} {o : Obj} (x : ORep C h c o) : ¬ Imm o := fun ⟨hfr,hcl,hd,hce,hs⟩ => by
 have key : ∀ {T : String},o.cls = .type T→immCls.contains T = false→(∀ vs x t,o.data = .fields vs→vs[1]?≠some (.str x t))→False := fun {T} hc hn hv => by
  rcases hcl with ⟨T',hT',hc'⟩ | ⟨vs,x,t,e,h⟩
  ·rw [hc] at hc'; cases hc'
   have : immCls.contains T = true := List.contains_iff_mem.mpr hT'
   rw [hn] at this; cases this
  ·exact hv vs x t e h
 have key2 : (∀ T,o.cls≠.type T)→(∀ vs x t,o.data = .fields vs→vs[1]?≠some (.str x t))→False := fun hn hv => by
  rcases hcl with ⟨T',hT',hc'⟩ | ⟨vs,x,t,e,h⟩
  ·exact hn _ hc'
  ·exact hv vs x t e h
 cases c with
 | list xs => obtain ⟨items,n,rfl,_⟩ := x; exact key rfl (by decide) (by intro _ _ _ e; cases e)
 | dict kvs ep => obtain ⟨_,es,rs,b,_⟩ := x; exact hd _ _ b
 | set S n => obtain ⟨_,es,ep,t,b,_⟩ := x; exact hs _ _ _ b
 | cell v => obtain ⟨r,b,_⟩ := x; exact hce _ b
 | inst K d sl => obtain ⟨rs,rfl,_⟩ := x; exact key2 (by intro _ e; cases e) (by intro _ _ _ e; cases e)
 | idict fs => obtain ⟨es,n,rfl,_⟩ := x; exact hd _ _ rfl
 | liter l i => unfold ORep at x; subst x; exact key (T := "list_iterator") rfl (by decide) (by intro _ _ _ e; cases e; intro q; cases q)
 | raw o' => exact x.2.2 ⟨hfr,hcl,hd,hce,hs⟩
 | tab qs => obtain ⟨ps,rfl,ht,_⟩ := x; exact key2 (by intro _ e; cases e) (by intro _ _ _ e; cases e; simpa using triples_no_str ht _ _)
theorem ORep.not_freed {C : Cx} {h : Heap} {c : CObj} {o : Obj} (x : ORep C h c o) : o.isFreed = false := by
 cases c with
 | list xs => obtain ⟨items,n,rfl,_⟩ := x; rfl
 | dict kvs ep => obtain ⟨_,es,rs,b,_⟩ := x; obtain ⟨c,d,dt,sl⟩ := o; subst b; rfl
 | set S n => obtain ⟨_,es,ep,t,b,_⟩ := x; obtain ⟨c,d,dt,sl⟩ := o; subst b; rfl
 | cell v => obtain ⟨r,b,_⟩ := x; obtain ⟨c,d,dt,sl⟩ := o; subst b; rfl
 | inst K d sl => obtain ⟨rs,rfl,_⟩ := x; rfl
 | idict fs => obtain ⟨es,n,rfl,_⟩ := x; rfl
 | liter l i => unfold ORep at x; subst x; rfl
 | raw o' => exact x.2.1
 | tab qs => obtain ⟨ps,rfl,_⟩ := x; rfl
noncomputable def Kin (o o' : Obj) : Prop := o' = o∨((∃ es ep,o.data = .dict es ep)∧o'.data = o.data)
theorem Kin.refl (o : Obj) : Kin o o := .inl rfl
theorem Kin.trans {a b c : Obj} (x : Kin a b) (y : Kin b c) : Kin a c := by
 rcases x with rfl | ⟨⟨es,ep,hd⟩,e⟩
 ·exact y
 ·rcases y with rfl | ⟨_,e'⟩
  ·exact .inr ⟨⟨es,ep,hd⟩,e⟩
  ·exact .inr ⟨⟨es,ep,hd⟩,e'.trans e⟩
theorem Kin.exact {o o' : Obj} (x : Kin o o') (h : ∀ es ep,o.data≠.dict es ep) : o' = o := x.elim id fun ⟨⟨es,ep,e⟩,_⟩ => absurd e (h es ep)
theorem Kin.data {o o' : Obj} (x : Kin o o') : o'.data = o.data := by
 rcases x with rfl | ⟨_,e⟩
 ·rfl
 ·exact e
structure HS (C : Cx) (H : CH) (s : Shared) : Prop where
 base : ∀ b o,C.h₀.get? b = some o→s.heap.get? b = some o
 own : ∀ a c,H a = some c→C.h₀.get? a = none∧∃ o,s.heap.get? a = some o∧ORep C s.heap c o
 gens : s.gens = #[]
theorem HS.base_none {C : Cx} {H : CH} {s : Shared} (S : HS C H s) {a : Addr} (h : s.heap.get? a = none) : C.h₀.get? a = none := by
 cases q : C.h₀.get? a with
 | none => rfl
 | some o => exact (no2 (S.base a o q) h).elim
theorem HS.own_none {C : Cx} {H : CH} {s : Shared} (S : HS C H s) {a : Addr} (h : s.heap.get? a = none) : H a = none := by
 cases q : H a with
 | none => rfl
 | some c => obtain ⟨_,o,e,_⟩ := S.own a c q; exact (no1 h e).elim
inductive FrameOk (h₀ : Heap) (H : CH) (h : Heap) (e : Env) : Prop
 | mk (a1 : e.scope.kind = .function) (a2 : e.scope.isGenerator = false) (a3 : e.scope.isCoroutine = false) (f : Addr) (o : Obj) (es : Array DictEntry) (ep : Nat) (hf : e.frame = some f) (ho : h.get? f = some o) (hd : o.data = .dict es ep) (hn : H f = none) (hb : h₀.get? f = none)
noncomputable def Frs (C : Cx) (H : CH) (s : Shared) : Prop := ∀ e ∈ C.fr,FrameOk C.h₀ H s.heap e
structure St (C : Cx) (m : Loc) (H : CH) (s : Shared) : Prop extends HS C H s where
 ns : ∃ mr,s.heap.Ns C.env.locals mr∧Knows s.heap m mr
 loc : H C.env.locals = none
 locb : C.h₀.get? C.env.locals = none
 frs : Frs C H s
structure AfterC (H : CH) (s : Shared) (H' : CH) (s' : Shared) : Prop where
 stay : ∀ b o,H b = none→s.heap.get? b = some o→∃ o',s'.heap.get? b = some o'∧Kin o o'
 grow : ∀ b o,H b = none→s.heap.get? b = some o→H' b = none
 there : ∀ b o,s.heap.get? b = some o→∃ o',s'.heap.get? b = some o'
 drawn : () = ()
 os : s'.os = s.os
structure After (C : Cx) (H : CH) (s : Shared) (H' : CH) (s' : Shared) : Prop where
 stay : ∀ b o,b≠C.env.locals→H b = none→s.heap.get? b = some o→∃ o',s'.heap.get? b = some o'∧Kin o o'
 grow : ∀ b o,H b = none→s.heap.get? b = some o→H' b = none
 there : ∀ b o,s.heap.get? b = some o→∃ o',s'.heap.get? b = some o'
 drawn : () = ()
 os : s'.os = s.os
theorem After.there_none {C : Cx} {H H' : CH} {s s' : Shared} (x : After C H s H' s') {a : Addr} (h : s'.heap.get? a = none) : s.heap.get? a = none := by
 cases q : s.heap.get? a with
 | none => rfl
 | some o => refine eE (x.there a o q) fun o' e => ?_; exact (no1 h e).elim
theorem AfterC.after {C : Cx} {H H' : CH} {s s' : Shared} (a : AfterC H s H' s') : After C H s H' s' := ⟨fun b o _ => a.stay b o,a.grow,a.there,a.drawn,a.os⟩
theorem AfterC.refl (H : CH) (s : Shared) : AfterC H s H s := ⟨fun _ o _ e => ⟨o,e,.refl o⟩,fun _ _ h _ => h,fun _ o e => ⟨o,e⟩,rfl,rfl⟩
theorem AfterC.trans {H₁ H₂ H₃ : CH} {s₁ s₂ s₃ : Shared} (a : AfterC H₁ s₁ H₂ s₂) (b : AfterC H₂ s₂ H₃ s₃) : AfterC H₁ s₁ H₃ s₃ where
 stay := fun x o hn e =>
  let ⟨o₁,e₁,k₁⟩ := a.stay x o hn e
  let ⟨o₂,e₂,k₂⟩ := b.stay x o₁ (a.grow x o hn e) e₁
  ⟨o₂,e₂,k₁.trans k₂⟩
 grow := fun x o hn e => let ⟨o₁,e₁,_⟩ := a.stay x o hn e; b.grow x o₁ (a.grow x o hn e) e₁
 there := fun x o e => let ⟨o₁,e₁⟩ := a.there x o e; b.there x o₁ e₁
 drawn := b.drawn.trans a.drawn
 os := b.os.trans a.os
theorem HS.not_imm {C : Cx} {H : CH} {s : Shared} (S : HS C H s) {a : Addr} {o : Obj} (i : Imm o) (e : s.heap.get? a = some o) : H a = none := by
 cases h : H a with
 | none => rfl
 | some c =>
  obtain ⟨_,o',ho,r⟩ := S.own a c h
  rw [e] at ho; cases ho
  exact absurd i r.not_imm
theorem AfterC.tup {C : Cx} {H H' : CH} {s s' : Shared} (S : HS C H s) (a : AfterC H s H' s') : TupKeep s.heap s'.heap := fun b o i e => by
 refine eEA (a.stay b _ (S.not_imm i e) e) fun o' e' k => ?_
 rw [k.exact i.2.2.1] at e'; exact e'
theorem St.not_imm {C : Cx} {m : Loc} {H : CH} {s : Shared} (S : St C m H s) {a : Addr} {o : Obj} (i : Imm o) (e : s.heap.get? a = some o) : H a = none∧a≠C.env.locals := by
 refine ⟨S.toHS.not_imm i e,?_⟩
 rintro rfl
 refine eEA S.ns fun mr zz1 _ => ?_; obtain ⟨o',es,ep,ho,hd,_⟩ := zz1
 rw [e] at ho; cases ho; exact i.2.2.1 _ _ hd
theorem After.tup {C : Cx} {m : Loc} {H H' : CH} {s s' : Shared} (S : St C m H s) (a : After C H s H' s') : TupKeep s.heap s'.heap := fun b o i e => by
 refine eEA (a.stay b _ (S.not_imm i e).2 (S.not_imm i e).1 e) fun o' e' k => ?_
 rw [k.exact i.2.2.1] at e'; exact e'
theorem After.refl (C : Cx) (H : CH) (s : Shared) : After C H s H s := (AfterC.refl H s).after
theorem St.at_loc {C : Cx} {m : Loc} {H : CH} {s : Shared} (S : St C m H s) : ∃ o,s.heap.get? C.env.locals = some o := by
 refine eEA S.ns fun mr zz1 _ => ?_; obtain ⟨o,es,ep,ho,_⟩ := zz1; exact ⟨o,ho⟩
theorem After.then {C : Cx} {m' : Loc} {H₁ H₂ H₃ : CH} {s₁ s₂ s₃ : Shared} (S₂ : St C m' H₂ s₂) (a : After C H₁ s₁ H₂ s₂) (b : After C H₂ s₂ H₃ s₃) : After C H₁ s₁ H₃ s₃ where
 stay := fun x o hx hn e =>
  let ⟨o₁,e₁,k₁⟩ := a.stay x o hx hn e
  let ⟨o₂,e₂,k₂⟩ := b.stay x o₁ hx (a.grow x o hn e) e₁
  ⟨o₂,e₂,k₁.trans k₂⟩
 grow := fun x o hn e => by
  by_cases hx : x = C.env.locals
  ·subst hx
   refine eE S₂.at_loc fun o' e' => ?_
   exact b.grow _ o' (a.grow _ o hn e) e'
  ·refine eEA (a.stay x o hx hn e) fun o₁ e₁ _ => ?_
   exact b.grow x o₁ (a.grow x o hn e) e₁
 there := fun x o e => let ⟨o₁,e₁⟩ := a.there x o e; b.there x o₁ e₁
 drawn := b.drawn.trans a.drawn
 os := b.os.trans a.os
theorem Frs.keep {C : Cx} {H H' : CH} {s s' : Shared} (F : Frs C H s) (hs : ∀ b o es ep,C.h₀.get? b = none→H b = none→s.heap.get? b = some o→o.data = .dict es ep→H' b = none∧∃ o',s'.heap.get? b = some o'∧o'.data = o.data) : Frs C H' s' := fun e he => by
 obtain ⟨a1,a2,a3,f,o,es,ep,hf,ho,hd,hn,hb⟩ := F e he
 obtain ⟨hn',o',ho',hd'⟩ := hs f o es ep hb hn ho hd
 exact ⟨a1,a2,a3,f,o',es,ep,hf,ho',hd'.trans hd,hn',hb⟩
theorem Frs.after {C : Cx} {H H' : CH} {s s' : Shared} (F : Frs C H s) (a : AfterC H s H' s') : Frs C H' s' := F.keep fun b o _ _ _ hn e _ =>
 let ⟨o',e',k⟩ := a.stay b o hn e; ⟨a.grow b o hn e,o',e',k.data⟩
theorem St.toks {C : Cx} {m : Loc} {H : CH} {s : Shared} (S : St C m H s) (tk : Nat) : St C m H { s with toks := tk } := ⟨⟨S.base,S.own,S.gens⟩,S.ns,S.loc,S.locb,S.frs⟩
theorem AfterC.toks {H : CH} (s : Shared) (tk : Nat) : AfterC H s H { s with toks := tk } := ⟨fun _ o _ e => ⟨o,e,.refl o⟩,fun _ _ h _ => h,fun _ o e => ⟨o,e⟩,rfl,rfl⟩
theorem After.toks {C : Cx} {H : CH} (s : Shared) (tk : Nat) : After C H s H { s with toks := tk } := (AfterC.toks s tk).after
theorem St.known {C : Cx} {m : Loc} {H : CH} {s : Shared} (S : St C m H s) {x : Str} {v : V} (e : m.lookup x = some v) : ∃ mr r,s.heap.Ns C.env.locals mr∧mr x = some r∧VR s.heap v r := by
 refine eEA S.ns fun mr hn k => ?_
 obtain ⟨r,a,b⟩ := k x v e
 exact ⟨mr,r,hn,a,b⟩
theorem St.sub {C : Cx} {m m' : Loc} {H : CH} {s : Shared} (S : St C m H s) (h : ∀ x v,m'.lookup x = some v→m.lookup x = some v) : St C m' H s :=
 ⟨S.toHS,let ⟨mr,hn,k⟩ := S.ns; ⟨mr,hn,fun x v e => k x v (h x v e)⟩,S.loc,S.locb,S.frs⟩
theorem TupKeep.push (h : Heap) (o : Obj) : TupKeep h (h.push o) := fun _ _ _ e => Heap.get?_push_of_some o e
theorem TupKeep.trans {h₁ h₂ h₃ : Heap} (a : TupKeep h₁ h₂) (b : TupKeep h₂ h₃) : TupKeep h₁ h₃ := fun x o i e => b x o i (a x o i e)
theorem TupKeep.of_keep {h h' : Heap} (k : ∀ b o,h.get? b = some o→h'.get? b = some o) : TupKeep h h' := fun b _ _ e => k b _ e
theorem HS.more {C : Cx} {H : CH} {s : Shared} (S : HS C H s) {h' : Heap} {tk : Nat} (k : ∀ b o,s.heap.get? b = some o→h'.get? b = some o) : HS C H { s with heap := h',toks := tk } where
 base := fun b o e => k b o (S.base b o e)
 own := fun a c e => let ⟨x,o,ho,r⟩ := S.own a c e; ⟨x,o,k a o ho,r.keep (.of_keep k)⟩
 gens := S.gens
theorem St.more {C : Cx} {m : Loc} {H : CH} {s : Shared} (S : St C m H s) {h' : Heap} {tk : Nat} (k : ∀ b o,s.heap.get? b = some o→h'.get? b = some o) : St C m H { s with heap := h',toks := tk } where
 toHS := S.toHS.more k
 ns := let ⟨mr,hn,kn⟩ := S.ns; ⟨mr,hn.keeps k,kn.keep (.of_keep k)⟩
 loc := S.loc
 locb := S.locb
 frs := S.frs.keep fun b o _ _ _ hn e _ => ⟨hn,o,k b o e,rfl⟩
theorem AfterC.more {H : CH} {s : Shared} {h' : Heap} {tk : Nat} (k : ∀ b o,s.heap.get? b = some o→h'.get? b = some o) : AfterC H s H { s with heap := h',toks := tk } :=
 ⟨fun b o _ e => ⟨o,k b o e,.refl o⟩,fun _ _ h _ => h,fun b o e => ⟨o,k b o e⟩,rfl,rfl⟩
theorem After.more {C : Cx} {H : CH} {s : Shared} {h' : Heap} {tk : Nat} (k : ∀ b o,s.heap.get? b = some o→h'.get? b = some o) : After C H s H { s with heap := h',toks := tk } := (AfterC.more k).after
theorem keep_push (h : Heap) (o : Obj) : ∀ b o',h.get? b = some o'→(h.push o).get? b = some o' := fun _ _ e => Heap.get?_push_of_some o e
theorem HS.alloc {C : Cx} {H : CH} {s : Shared} (S : HS C H s) {o : Obj} {c : CObj} {tk : Nat} (r : ORep C s.heap c o) : HS C (H.set s.heap.objs.size c) { s with heap := s.heap.push o,toks := tk } where
 base := fun b o' e => keep_push _ _ b o' (S.base b o' e)
 own := fun a c' e => by
  by_cases h : a = s.heap.objs.size
  ·subst h
   rw [CH.set_same] at e; cases e
   refine ⟨?_,o,Heap.get?_push_size _ r.not_freed,r.keep (.push _ _)⟩
   cases q : C.h₀.get? s.heap.objs.size with
   | none => rfl
   | some o' => exact absurd (Heap.lt_size (S.base _ _ q)) (Nat.lt_irrefl _)
  ·rw [CH.set_ne h] at e
   obtain ⟨x,o',ho,r'⟩ := S.own a c' e
   exact ⟨x,o',keep_push _ _ a o' ho,r'.keep (.push _ _)⟩
 gens := S.gens
theorem St.alloc {C : Cx} {m : Loc} {H : CH} {s : Shared} (S : St C m H s) {o : Obj} {c : CObj} {tk : Nat} (r : ORep C s.heap c o) : St C m (H.set s.heap.objs.size c) { s with heap := s.heap.push o,toks := tk } where
 toHS := S.toHS.alloc r
 ns := let ⟨mr,hn,kn⟩ := S.ns; ⟨mr,hn.keeps (keep_push _ _),kn.keep (.push _ _)⟩
 loc := by
  refine eE S.at_loc fun o' e => ?_
  refine rE (CH.set_ne (Nat.ne_of_lt (Heap.lt_size e))) ?_; exact S.loc
 locb := S.locb
 frs := S.frs.keep fun b o' _ _ _ hn e _ => ⟨by refine rE (CH.set_ne (Nat.ne_of_lt (Heap.lt_size e))) ?_; exact hn,o',keep_push _ _ b o' e,rfl⟩
theorem AfterC.alloc {H : CH} {s : Shared} {o : Obj} {c : CObj} {tk : Nat} : AfterC H s (H.set s.heap.objs.size c) { s with heap := s.heap.push o,toks := tk } where
 stay := fun b o' _ e => ⟨o',keep_push _ _ b o' e,.refl o'⟩
 grow := fun b o' hn e => by refine rE (CH.set_ne (Nat.ne_of_lt (Heap.lt_size e))) ?_; exact hn
 there := fun b o' e => ⟨o',keep_push _ _ b o' e⟩
 drawn := rfl
 os := rfl
theorem After.alloc {C : Cx} {H : CH} {s : Shared} {o : Obj} {c : CObj} {tk : Nat} : After C H s (H.set s.heap.objs.size c) { s with heap := s.heap.push o,toks := tk } := AfterC.alloc.after
theorem HS.fresh {C : Cx} {H : CH} {s : Shared} (S : HS C H s) : H s.heap.objs.size = none := by
 cases h : H s.heap.objs.size with
 | none => rfl
 | some c => obtain ⟨_,o,ho,_⟩ := S.own _ _ h; exact absurd (Heap.lt_size ho) (Nat.lt_irrefl _)
theorem HS.freshb {C : Cx} {H : CH} {s : Shared} (S : HS C H s) : C.h₀.get? s.heap.objs.size = none := by
 cases q : C.h₀.get? s.heap.objs.size with
 | none => rfl
 | some o' => exact absurd (Heap.lt_size (S.base _ _ q)) (Nat.lt_irrefl _)
theorem HS.upd {C : Cx} {H : CH} {s : Shared} (S : HS C H s) {a : Addr} {c c' : CObj} (hc : H a = some c) {h' : Heap} {o' : Obj} {tk : Nat} (hs : Heap.SameBut a s.heap h') (ho : h'.get? a = some o') (r : ORep C s.heap c' o') :
  HS C (H.set a c') { s with heap := h',toks := tk }∧TupKeep s.heap h' := by
 obtain ⟨ha0,oa,hoa,ra⟩ := S.own a c hc
 have k : ∀ b o,b≠a→s.heap.get? b = some o→h'.get? b = some o := fun b o hb e => (hs.2 b hb).trans e
 have tk' : TupKeep s.heap h' := fun b o i e => k b _ (fun q => by subst q; rw [hoa] at e; cases e; exact ra.not_imm i) e
 refine ⟨⟨fun b o e => k b o (fun q => by subst q; exact (no1 ha0 e).elim) (S.base b o e),fun b d e => ?_,S.gens⟩,tk'⟩
 by_cases h : b = a
 ·subst h; rw [CH.set_same] at e; cases e; exact ⟨ha0,o',ho,r.keep tk'⟩
 ·rw [CH.set_ne h] at e
  obtain ⟨x,o,hob,rb⟩ := S.own b d e
  exact ⟨x,o,k b o h hob,rb.keep tk'⟩
theorem St.upd {C : Cx} {m : Loc} {H : CH} {s : Shared} (S : St C m H s) {a : Addr} {c c' : CObj} (hc : H a = some c) {h' : Heap} {o' : Obj} {tk : Nat} (hs : Heap.SameBut a s.heap h') (ho : h'.get? a = some o') (r : ORep C s.heap c' o') :
  St C m (H.set a c') { s with heap := h',toks := tk } := by
 have hne : C.env.locals≠a := fun e => by rw [← e,S.loc] at hc; cases hc
 refine eA (S.toHS.upd (tk := tk) hc hs ho r) fun hS tk' => ?_
 refine ⟨hS,?_,?_,S.locb,S.frs.keep fun b o _ _ _ hn e _ => ?_⟩
 ·refine eEA S.ns fun mr hn kn => ?_; exact ⟨mr,hn.sameBut hs hne,kn.keep tk'⟩
 ·show H.set a c' C.env.locals = none; refine rE (CH.set_ne hne) ?_; exact S.loc
 ·have hb : b≠a := fun q => by subst q; exact (no1 hn hc).elim
  exact ⟨by refine rE (CH.set_ne hb) ?_; exact hn,o,(hs.2 b hb).trans e,rfl⟩
theorem AfterC.upd {H : CH} {s : Shared} {a : Addr} {c c' : CObj} (hc : H a = some c) {h' : Heap} {tk : Nat} (hs : Heap.SameBut a s.heap h') {o' : Obj} (ho : h'.get? a = some o') : AfterC H s (H.set a c') { s with heap := h',toks := tk } where
 stay := fun b o hn e => ⟨o,(hs.2 b (fun q => by subst q; exact (no1 hn hc).elim)).trans e,.refl o⟩
 grow := fun b o hn _ => by refine rE (CH.set_ne (fun q => by subst q; exact (no1 hn hc).elim)) ?_; exact hn
 there := fun b o e => by
  by_cases q : b = a
  ·subst q; exact ⟨o',ho⟩
  ·exact ⟨o,(hs.2 b q).trans e⟩
 drawn := rfl
 os := rfl
theorem After.upd {C : Cx} {H : CH} {s : Shared} {a : Addr} {c c' : CObj} (hc : H a = some c) {h' : Heap} {tk : Nat} (hs : Heap.SameBut a s.heap h') {o' : Obj} (ho : h'.get? a = some o') : After C H s (H.set a c') { s with heap := h',toks := tk } := (AfterC.upd hc hs ho).after
theorem St.hid {C : Cx} {m : Loc} {H : CH} {s : Shared} (S : St C m H s) {a : Addr} {oa : Obj} (ha : s.heap.get? a = some oa) (hH : H a = none) (hb : C.h₀.get? a = none) (hd : ∀ es ep,oa.data≠.dict es ep) (ht : ¬ Imm oa) {h' : Heap} {tk : Nat}
  (hs : Heap.ExtBut a s.heap h') : St C m H { s with heap := h',toks := tk } := by
 have hl : a≠C.env.locals := fun e => by
  subst e
  refine eEA S.ns fun mr zz1 _ => ?_; obtain ⟨o,es,ep,ho,hd',_⟩ := zz1
  rw [ha] at ho; cases ho; exact hd _ _ hd'
 have tk' : TupKeep s.heap h' := fun b o i e => hs b _ (fun q => by subst q; rw [ha] at e; cases e; exact ht i) e
 refine ⟨⟨fun b o e => hs b o (fun q => by subst q; exact (no1 hb e).elim) (S.base b o e),fun b d e => ?_,S.gens⟩,?_,S.loc,S.locb,S.frs.keep fun b o es ep _ hn e hde => ?_⟩
 ·obtain ⟨x,o,hob,rb⟩ := S.own b d e
  exact ⟨x,o,hs b o (fun q => by subst q; exact (no1 hH e).elim) hob,rb.keep tk'⟩
 ·refine eEA S.ns fun mr hn kn => ?_; exact ⟨mr,hn.extBut hs (Ne.symm hl),kn.keep tk'⟩
 ·exact ⟨hn,o,hs b o (fun q => by subst q; rw [ha] at e; cases e; exact hd _ _ hde) e,rfl⟩
theorem After.hid {C : Cx} {H H' : CH} {s s' : Shared} (a : After C H s H' s') {I : Addr} (hI : s.heap.get? I = none) {h' : Heap} {tk : Nat} (hs : Heap.ExtBut I s'.heap h') : After C H s H' { s' with heap := h',toks := tk } where
 stay := fun b o hb hn e => let ⟨o',e',k⟩ := a.stay b o hb hn e; ⟨o',hs b o' (fun q => by subst q; exact (no1 hI e).elim) e',k⟩
 grow := a.grow
 there := fun b o e => let ⟨o',e'⟩ := a.there b o e; ⟨o',hs b o' (fun q => by subst q; exact (no1 hI e).elim) e'⟩
 drawn := a.drawn
 os := a.os
theorem St.store {C : Cx} {m : Loc} {H : CH} {s : Shared} (S : St C m H s) {x : Str} {v : V} {r : Value} (hv : VR s.heap v r) {mr : Str→Option Value} (hk : Knows s.heap m mr) {h' : Heap} {tk : Nat}
  (hn : h'.Ns C.env.locals (fun y => if y = x then some r else mr y)) (hs : Heap.SameBut C.env.locals s.heap h') : St C ((x,v) :: m) H { s with heap := h',toks := tk } := by
 have tk' : TupKeep s.heap h' := fun b o i e => (hs.2 b (S.not_imm i e).2).trans e
 refine ⟨⟨fun b o e => (hs.2 b (fun q => by subst q; exact (no1 (S.locb) e).elim)).trans (S.base b o e),fun b d e => ?_,S.gens⟩,⟨_,hn,fun y w e => ?_⟩,S.loc,S.locb,fun e he => ?_⟩
 ·obtain ⟨z,o,hob,rb⟩ := S.own b d e
  exact ⟨z,o,(hs.2 b (fun q => by subst q; exact (no1 (S.loc) e).elim)).trans hob,rb.keep tk'⟩
 ·rw [List.lookup_cons] at e
  by_cases hy : y = x
  ·subst hy
   simp only [beq_self_eq_true] at e; cases e
   exact ⟨r,by exact if_pos rfl,hv.keep tk'⟩
  ·have hb : (y == x) = false := beq_eq_false_iff_ne.mpr hy
   simp only [hb] at e
   obtain ⟨r',a,b⟩ := hk y w e
   exact ⟨r',by simp [hy,a],b.keep tk'⟩
 ·obtain ⟨a1,a2,a3,f,o,es,ep,hf,ho,hd,hn',hb⟩ := S.frs e he
  by_cases hfl : f = C.env.locals
  ·subst hfl
   obtain ⟨o',es',ep',ho',hd',_⟩ := hn
   exact ⟨a1,a2,a3,_,o',es',ep',hf,ho',hd',hn',hb⟩
  ·exact ⟨a1,a2,a3,f,o,es,ep,hf,(hs.2 f hfl).trans ho,hd,hn',hb⟩
theorem After.store {C : Cx} {H : CH} {s : Shared} {h' : Heap} {tk : Nat} {mr : Str→Option Value} (hn : h'.Ns C.env.locals mr) (hs : Heap.SameBut C.env.locals s.heap h') : After C H s H { s with heap := h',toks := tk } :=
 ⟨fun b o hb _ e => ⟨o,(hs.2 b hb).trans e,.refl o⟩,fun _ _ h _ => h,fun b o e => by
  by_cases q : b = C.env.locals
  ·subst q; obtain ⟨o',es,ep,ho,_⟩ := hn; exact ⟨o',ho⟩
  ·exact ⟨o,(hs.2 b q).trans e⟩,rfl,rfl⟩
noncomputable def CH.Le (H H' : CH) : Prop := ∀ a c,H a = some c→H' a = some c
theorem CH.Le.absent {H H' : CH} (l : H.Le H') {a : Addr} (h : H' a = Option.none) : H a = Option.none := by
 cases e : H a with
 | none => rfl
 | some c => exact (no2 (l a c e) h).elim
theorem HS.less {C : Cx} {H H' : CH} {s : Shared} (S : HS C H' s) (l : H.Le H') : HS C H s := ⟨S.base,fun a c e => S.own a c (l a c e),S.gens⟩
theorem Frs.less {C : Cx} {H H' : CH} {s : Shared} (F : Frs C H' s) (l : H.Le H') : Frs C H s := fun e he => by
 obtain ⟨a1,a2,a3,f,o,es,ep,hf,ho,hd,hn,hb⟩ := F e he
 exact ⟨a1,a2,a3,f,o,es,ep,hf,ho,hd,l.absent hn,hb⟩
theorem St.less {C : Cx} {m : Loc} {H H' : CH} {s : Shared} (S : St C m H' s) (l : H.Le H') : St C m H s := ⟨S.toHS.less l,S.ns,l.absent S.loc,S.locb,S.frs.less l⟩
end
end Mine
end
section
open PySem PySem.Calls PySem.W PyProof.Rows
set_option maxRecDepth 100000
namespace Mine
noncomputable section
noncomputable abbrev NoE : Value→Shared→Prop := fun _ _ => False
inductive Fl where
 | next | brk | cont
 | ret (v : V)
noncomputable def FlR (h : Heap) : Fl→Flow→Prop
 | .next,f => f = .next
 | .brk,f => f = .brk
 | .cont,f => f = .cont
 | .ret v,f => ∃ r,f = .ret r∧VR h v r
inductive PV (C : Cx) (H : CH) (s : Shared) (Q : V→Loc→CH→Prop) (r : Value) (s' : Shared) : Prop
 | mk (v : V) (m' : Loc) (H' : CH) (hv : VR s'.heap v r) (hS : St C m' H' s') (ha : After C H s H' s') (q : Q v m' H') : PV C H s Q r s'
inductive PA {α : Type} (C : Cx) (H : CH) (s : Shared) (Q : α→Loc→CH→Prop) (b : α) (s' : Shared) : Prop
 | mk (m' : Loc) (H' : CH) (hS : St C m' H' s') (ha : After C H s H' s') (q : Q b m' H') : PA C H s Q b s'
inductive PL (C : Cx) (H : CH) (s : Shared) (Q : List V→Loc→CH→Prop) (rs : List Value) (s' : Shared) : Prop
 | mk (vs : List V) (m' : Loc) (H' : CH) (hv : VRs s'.heap vs rs) (hS : St C m' H' s') (ha : After C H s H' s') (q : Q vs m' H') : PL C H s Q rs s'
inductive PF (C : Cx) (H : CH) (s : Shared) (Q : Fl→Loc→CH→Prop) (f : Flow) (s' : Shared) : Prop
 | mk (fl : Fl) (m' : Loc) (H' : CH) (hf : FlR s'.heap fl f) (hS : St C m' H' s') (ha : After C H s H' s') (q : Q fl m' H') : PF C H s Q f s'
section
variable (C : Cx) (A : Around)
noncomputable def EV (e : PySem.Expr) (m : Loc) (H : CH) (Q : V→Loc→CH→Prop) : Prop := ∀ s,St C m H s→wpAny (model C.prog C.w) A (eval e C.env) (PV C H s Q) NoE s
noncomputable def EB (e : PySem.Expr) (m : Loc) (H : CH) (Q : Bool→Loc→CH→Prop) : Prop := ∀ s,St C m H s→wpAny (model C.prog C.w) A (isTrue e C.env (eval e C.env)) (PA C H s Q) NoE s
noncomputable def ES (st : Stmt) (m : Loc) (H : CH) (Q : Fl→Loc→CH→Prop) : Prop := ∀ s,St C m H s→wpAny (model C.prog C.w) A (exec st C.env) (PF C H s Q) NoE s
noncomputable def EX (b : List Stmt) (m : Loc) (H : CH) (Q : Fl→Loc→CH→Prop) : Prop := ∀ s,St C m H s→wpAny (model C.prog C.w) A (execs b C.env) (PF C H s Q) NoE s
noncomputable def ASG (t : PySem.Expr) (v : V) (m : Loc) (H : CH) (Q : Loc→CH→Prop) : Prop := ∀ s r,St C m H s→VR s.heap v r→wpAny (model C.prog C.w) A (assign t C.env r) (PA C H s fun _ => Q) NoE s
noncomputable def O1 (t : Value→Sem Value) (v : V) (m : Loc) (H : CH) (Q : V→Loc→CH→Prop) : Prop := ∀ s r,St C m H s→VR s.heap v r→wpAny (model C.prog C.w) A (t r) (PV C H s Q) NoE s
noncomputable def O2 (t : Value→Value→Sem Value) (v w : V) (m : Loc) (H : CH) (Q : V→Loc→CH→Prop) : Prop := ∀ s r q,St C m H s→VR s.heap v r→VR s.heap w q→wpAny (model C.prog C.w) A (t r q) (PV C H s Q) NoE s
noncomputable def O3 (t : Value→Value→Value→Sem Unit) (v w x : V) (m : Loc) (H : CH) (Q : Loc→CH→Prop) : Prop := ∀ s r q p,St C m H s→VR s.heap v r→VR s.heap w q→VR s.heap x p→wpAny (model C.prog C.w) A (t r q p) (PA C H s fun _ => Q) NoE s
noncomputable def OB (t : Value→Sem Bool) (v : V) (m : Loc) (H : CH) (Q : Bool→Loc→CH→Prop) : Prop := ∀ s r,St C m H s→VR s.heap v r→wpAny (model C.prog C.w) A (t r) (PA C H s Q) NoE s
noncomputable def OL (t : List Value→Sem Value) (vs : List V) (m : Loc) (H : CH) (Q : V→Loc→CH→Prop) : Prop := ∀ s rs,St C m H s→VRs s.heap vs rs→wpAny (model C.prog C.w) A (t rs) (PV C H s Q) NoE s
noncomputable def EL (es : List PySem.Expr) (m : Loc) (H : CH) (Q : List V→Loc→CH→Prop) : Prop := ∀ s pos,St C m H s→wpAny (model C.prog C.w) A (spliced (backTo pos (starEach es C.env))) (PL C H s Q) NoE s
end
theorem wpAny_hide {α : Type} {M : Model} {A : Around} {t : Sem α} {T : α→Shared→Prop} {E : Value→Shared→Prop} {s : Shared} (h : ∀ R : α→Shared→Prop,(∀ a s',T a s'→R a s')→wpAny M A t R E s) : wpAny M A t T E s := h T fun _ _ h => h
noncomputable abbrev KO1 (C : Cx) (A : Around) (F : Value→Sem Value) (Q : V→Loc→CH→Prop) : V→Loc→CH→Prop := fun v m H => O1 C A F v m H Q
noncomputable abbrev KO2 (C : Cx) (A : Around) (F : Value→Value→Sem Value) (Q : V→Loc→CH→Prop) (v : V) : V→Loc→CH→Prop := fun w m H => O2 C A F v w m H Q
noncomputable abbrev KE2 (C : Cx) (A : Around) (e : PySem.Expr) (F : Value→Value→Sem Value) (Q : V→Loc→CH→Prop) : V→Loc→CH→Prop := fun v m H => EV C A e m H (KO2 C A F Q v)
noncomputable abbrev KBool (Q : Bool→Loc→CH→Prop) : V→Loc→CH→Prop := fun x m H => ∃ b,x = .bool b∧Q b m H
noncomputable abbrev KNot (Q : Bool→Loc→CH→Prop) : Bool→Loc→CH→Prop := fun b => Q (!b)
noncomputable abbrev KOB (C : Cx) (A : Around) (Q : Bool→Loc→CH→Prop) : V→Loc→CH→Prop := fun v m H => OB C A truthy v m H Q
noncomputable abbrev KIfV (C : Cx) (A : Around) (b o : PySem.Expr) (Q : V→Loc→CH→Prop) : Bool→Loc→CH→Prop := fun c m H => (c = true→EV C A b m H Q)∧(c = false→EV C A o m H Q)
noncomputable abbrev KIf (C : Cx) (A : Around) (b o : List Stmt) (Q : Fl→Loc→CH→Prop) : Bool→Loc→CH→Prop := fun c m H => (c = true→EX C A b m H Q)∧(c = false→EX C A o m H Q)
noncomputable abbrev KAnd (C : Cx) (A : Around) (y : PySem.Expr) (Q : Bool→Loc→CH→Prop) : Bool→Loc→CH→Prop := fun c m H => (c = true→EB C A y m H Q)∧(c = false→Q false m H)
noncomputable abbrev KOr (C : Cx) (A : Around) (y : PySem.Expr) (Q : Bool→Loc→CH→Prop) : Bool→Loc→CH→Prop := fun c m H => (c = true→Q true m H)∧(c = false→EB C A y m H Q)
noncomputable abbrev KCons (Q : List V→Loc→CH→Prop) (v : V) : List V→Loc→CH→Prop := fun vs => Q (v :: vs)
noncomputable abbrev KEL (C : Cx) (A : Around) (es : List PySem.Expr) (Q : List V→Loc→CH→Prop) : V→Loc→CH→Prop := fun v m H => EL C A es m H (KCons Q v)
noncomputable abbrev KTup (Q : V→Loc→CH→Prop) : List V→Loc→CH→Prop := fun vs m H => vs.length≤sizeLine∧Q (.tup vs) m H
noncomputable abbrev KLst (Q : V→Loc→CH→Prop) : List V→Loc→CH→Prop := fun vs m H => vs.length≤sizeLine∧∀ a,H a = none→Q (.ref a) m (H.set a (.list vs))
noncomputable abbrev KRet (Q : Fl→Loc→CH→Prop) : V→Loc→CH→Prop := fun v => Q (.ret v)
noncomputable abbrev KNext (Q : Fl→Loc→CH→Prop) : V→Loc→CH→Prop := fun _ => Q .next
noncomputable abbrev KAsg (C : Cx) (A : Around) (t : PySem.Expr) (Q : Fl→Loc→CH→Prop) : V→Loc→CH→Prop := fun v m H => ASG C A t v m H (Q .next)
noncomputable abbrev KAsl (C : Cx) (A : Around) (x : Str) (rest : List Stmt) (Q : Fl→Loc→CH→Prop) : V→Loc→CH→Prop := fun v m H => EX C A rest ((x,v) :: m) H Q
noncomputable abbrev KExs (C : Cx) (A : Around) (rest : List Stmt) (Q : Fl→Loc→CH→Prop) : V→Loc→CH→Prop := fun _ m H => EX C A rest m H Q
noncomputable abbrev KO3 (C : Cx) (A : Around) (F : Value→Value→Value→Sem Unit) (x : V) (Q : Loc→CH→Prop) (v : V) : V→Loc→CH→Prop := fun w m H => O3 C A F v w x m H Q
noncomputable abbrev KE3 (C : Cx) (A : Around) (e : PySem.Expr) (F : Value→Value→Value→Sem Unit) (x : V) (Q : Loc→CH→Prop) : V→Loc→CH→Prop := fun v m H => EV C A e m H (KO3 C A F x Q v)
section
variable {C : Cx} {A : Around} {m : Loc} {H : CH} {s : Shared}
theorem PV.same {v : V} {r : Value} {Q : V→Loc→CH→Prop} (S : St C m H s) (hv : VR s.heap v r) (q : Q v m H) (tk : Nat) : PV C H s Q r { s with toks := tk } := ⟨v,m,H,hv,S.toks tk,.toks s tk,q⟩
theorem PV.here {v : V} {r : Value} {Q : V→Loc→CH→Prop} (S : St C m H s) (hv : VR s.heap v r) (q : Q v m H) : PV C H s Q r s := ⟨v,m,H,hv,S,.refl ..,q⟩
theorem PA.here {α : Type} {b : α} {Q : α→Loc→CH→Prop} (S : St C m H s) (q : Q b m H) : PA C H s Q b s := ⟨m,H,S,.refl ..,q⟩
theorem PA.same {α : Type} {b : α} {Q : α→Loc→CH→Prop} (S : St C m H s) (q : Q b m H) (tk : Nat) : PA C H s Q b { s with toks := tk } := ⟨m,H,S.toks tk,.toks s tk,q⟩
theorem PF.here {f : Fl} {r : Flow} {Q : Fl→Loc→CH→Prop} (S : St C m H s) (hf : FlR s.heap f r) (q : Q f m H) : PF C H s Q r s := ⟨f,m,H,hf,S,.refl ..,q⟩
theorem PV.mono {H₁ : CH} {s₁ : Shared} {m₁ : Loc} {Q : V→Loc→CH→Prop} {r : Value} {s₂ : Shared} (S₁ : St C m₁ H₁ s₁) (a : After C H s H₁ s₁) (x : PV C H₁ s₁ Q r s₂) : PV C H s Q r s₂ :=
 let ⟨v,m',H',hv,S',a',q⟩ := x; ⟨v,m',H',hv,S',a.then S₁ a',q⟩
theorem PA.mono {α : Type} {H₁ : CH} {s₁ : Shared} {m₁ : Loc} {Q : α→Loc→CH→Prop} {r : α} {s₂ : Shared} (S₁ : St C m₁ H₁ s₁) (a : After C H s H₁ s₁) (x : PA C H₁ s₁ Q r s₂) : PA C H s Q r s₂ :=
 let ⟨m',H',S',a',q⟩ := x; ⟨m',H',S',a.then S₁ a',q⟩
theorem PF.mono {H₁ : CH} {s₁ : Shared} {m₁ : Loc} {Q : Fl→Loc→CH→Prop} {r : Flow} {s₂ : Shared} (S₁ : St C m₁ H₁ s₁) (a : After C H s H₁ s₁) (x : PF C H₁ s₁ Q r s₂) : PF C H s Q r s₂ :=
 let ⟨v,m',H',hv,S',a',q⟩ := x; ⟨v,m',H',hv,S',a.then S₁ a',q⟩
theorem EV.mono {e : PySem.Expr} {Q Q' : V→Loc→CH→Prop} (h : EV C A e m H Q) (q : ∀ v m' H',Q v m' H'→Q' v m' H') : EV C A e m H Q' := fun s S =>
 wpAny_mono (h s S) (fun r s' ⟨v,m',H',a,b,c,d⟩ => ⟨v,m',H',a,b,c,q _ _ _ d⟩) fun _ _ x => x
theorem EX.mono {e : List Stmt} {Q Q' : Fl→Loc→CH→Prop} (h : EX C A e m H Q) (q : ∀ v m' H',Q v m' H'→Q' v m' H') : EX C A e m H Q' := fun s S =>
 wpAny_mono (h s S) (fun r s' ⟨v,m',H',a,b,c,d⟩ => ⟨v,m',H',a,b,c,q _ _ _ d⟩) fun _ _ x => x
theorem ES.mono {e : Stmt} {Q Q' : Fl→Loc→CH→Prop} (h : ES C A e m H Q) (q : ∀ v m' H',Q v m' H'→Q' v m' H') : ES C A e m H Q' := fun s S =>
 wpAny_mono (h s S) (fun r s' ⟨v,m',H',a,b,c,d⟩ => ⟨v,m',H',a,b,c,q _ _ _ d⟩) fun _ _ x => x
theorem EB.mono {e : PySem.Expr} {Q Q' : Bool→Loc→CH→Prop} (h : EB C A e m H Q) (q : ∀ v m' H',Q v m' H'→Q' v m' H') : EB C A e m H Q' := fun s S =>
 wpAny_mono (h s S) (fun r s' ⟨m',H',b,c,d⟩ => ⟨m',H',b,c,q _ _ _ d⟩) fun _ _ x => x
noncomputable def Sub (m' m : Loc) : Prop := ∀ x v,m'.lookup x = some v→m.lookup x = some v
theorem EX.sub {e : List Stmt} {m' : Loc} {Q : Fl→Loc→CH→Prop} (hs : Sub m' m) (h : EX C A e m' H Q) : EX C A e m H Q := fun s S => h s (S.sub hs)
theorem Sub.nil {m : Loc} : Sub [] m := fun _ _ e => by simp at e
theorem Sub.cons {m m' : Loc} {x : Str} {v : V} (h : m.lookup x = some v) (r : Sub m' m) : Sub ((x,v) :: m') m := fun y w e => by
 rw [List.lookup_cons] at e
 by_cases hy : y = x
 ·subst hy; simp only [beq_self_eq_true] at e; cases e; exact h
 ·have hb : (y == x) = false := beq_eq_false_iff_ne.mpr hy
  simp only [hb] at e; exact r y w e
theorem EV_local {x : Str} {p : Pos} {v : V} {Q : V→Loc→CH→Prop} (hm : m.lookup x = some v) (h : Q v m H)
  (hk : autoParam (C.env.scope.kind = .function) Mine.syn1) (hl : autoParam (C.env.kindOf x = some .local) Mine.syn1) (hd : autoParam ((x == ("__debug__" : Str)) = false) Mine.syn4) : EV C A (.Name x p) m H Q := fun s S => by
 refine eEEAA (S.known hm) fun mr r hn hr hv => ?_
 exact wpAny_Name (wpAny_loadName_local hk hl hn hr (.here S hv h)) hd
theorem VR.con_inv {h : Heap} {v r : Value} (x : VR h (.con v) r) : r = v := by unfold VR at x; exact x
theorem VR.con {h : Heap} {v : Value} : VR h (.con v) v := by unfold VR; rfl
theorem VR.ref {h : Heap} {a : Addr} : VR h (.ref a) (.ref a) := by unfold VR; rfl
theorem VR.ref_inv {h : Heap} {a : Addr} {r : Value} (x : VR h (.ref a) r) : r = .ref a := by unfold VR at x; exact x
theorem VR.int {h : Heap} {i : Int} {t : Tok} : VR h (.int i) (.int i t) := by unfold VR; exact ⟨t,rfl⟩
theorem VR.int_inv {h : Heap} {i : Int} {r : Value} (x : VR h (.int i) r) : ∃ t,r = .int i t := by unfold VR at x; exact x
theorem VR.str {h : Heap} {i : Str} {t : Tok} : VR h (.str i) (.str i t) := by unfold VR; exact ⟨t,rfl⟩
theorem VR.str_inv {h : Heap} {i : Str} {r : Value} (x : VR h (.str i) r) : ∃ t,r = .str i t := by unfold VR at x; exact x
theorem VR.tup_inv {h : Heap} {l : List V} {r : Value} (x : VR h (.tup l) r) : ∃ a items n,r = .ref a∧h.get? a = some (seqObj "tuple" items n)∧VRs h l items.toList := by unfold VR at x; exact x
theorem VR.tup {h : Heap} {l : List V} {a : Addr} {items : Array Value} {n : Nat} (e : h.get? a = some (seqObj "tuple" items n)) (hs : VRs h l items.toList) : VR h (.tup l) (.ref a) := by unfold VR; exact ⟨a,items,n,rfl,e,hs⟩
theorem St.cell {c : Addr} {v : Option V} (S : HS C H s) (hc : H c = some (.cell v)) : ∃ r,s.heap.IsCell c r∧OptR s.heap v r := by
 obtain ⟨_,o,ho,r,hd,hr⟩ := S.own _ _ hc
 exact ⟨r,⟨o,ho,hd⟩,hr⟩
theorem OptR.some_inv {h : Heap} {v : V} {r : Option Value} (x : OptR h (some v) r) : ∃ q,r = some q∧VR h v q := by
 cases r with
 | none => exact x.elim
 | some q => exact ⟨q,rfl,x⟩
theorem EV_cell {x : Str} {p : Pos} {c : Addr} {v : V} {Q : V→Loc→CH→Prop} (hc : C.env.cells.lookup x = some c) (hm : H c = some (.cell (some v))) (h : Q v m H)
  (hk : autoParam (C.env.scope.kind = .function) Mine.syn1) (hl : autoParam (C.env.kindOf x = some .cell) Mine.syn1) (hd : autoParam ((x == ("__debug__" : Str)) = false) Mine.syn4) : EV C A (.Name x p) m H Q := fun s S => by
 refine eEA (St.cell S.toHS hm) fun r hI hr => ?_
 refine eEA hr.some_inv fun q zz1 hq => ?_; subst zz1
 exact wpAny_Name (wpAny_loadName_cell hk hl hc hI (.here S hq h)) hd
theorem EV_free {x : Str} {p : Pos} {c : Addr} {v : V} {Q : V→Loc→CH→Prop} (hc : C.env.cells.lookup x = some c) (hm : H c = some (.cell (some v))) (h : Q v m H)
  (hk : autoParam (C.env.scope.kind = .function) Mine.syn1) (hl : autoParam (C.env.kindOf x = some .free) Mine.syn1) (hd : autoParam ((x == ("__debug__" : Str)) = false) Mine.syn4) (hn : autoParam ((x == ("__classdict__" : Str)) = false) Mine.syn4) : EV C A (.Name x p) m H Q := fun s S => by
 refine eEA (St.cell S.toHS hm) fun r hI hr => ?_
 refine eEA hr.some_inv fun q zz1 hq => ?_; subst zz1
 exact wpAny_Name (wpAny_loadName_free hk hl hc hI (.here S hq h) hn) hd
theorem VR.rng_inv {h : Heap} {a b c : Int} {r : Value} (x : VR h (.rng a b c) r) : ∃ z t u w,r = .ref z∧h.get? z = some { cls := .type "range",dict := none,data := .fields #[.int a t,.int b u,.int c w],slots := #[] } := by unfold VR at x; exact x
theorem VR.rng {h : Heap} {a b c : Int} {z : Addr} {t u w : Tok} (e : h.get? z = some { cls := .type "range",dict := none,data := .fields #[.int a t,.int b u,.int c w],slots := #[] }) : VR h (.rng a b c) (.ref z) := by unfold VR; exact ⟨z,t,u,w,rfl,e⟩
theorem VR.imm_inv {h : Heap} {o : Obj} {r : Value} (x : VR h (.imm o) r) : Imm o∧∃ a,r = .ref a∧h.get? a = some o := by unfold VR at x; exact x
theorem VR.imm {h : Heap} {o : Obj} {a : Addr} (i : Imm o) (e : h.get? a = some o) : VR h (.imm o) (.ref a) := by unfold VR; exact ⟨i,a,rfl,e⟩
theorem VR.fn_inv {h : Heap} {name qual : Str} {params : Arguments} {body : PySem.Expr} {scope : Scope} {cl : List (Str × Addr)} {r : Value} (x : VR h (.fn name qual params body scope cl) r) :
  ∃ a pm c ctv,r = .ref a∧h.get? a = some (kla_obj name qual params body scope cl pm c ctv)∧h.CodeRec (.ref c) qual := by unfold VR at x; exact x
theorem VR.fn {h : Heap} {name qual : Str} {params : Arguments} {body : PySem.Expr} {scope : Scope} {cl : List (Str × Addr)} {a c : Addr} {pm ctv : Value} (e : h.get? a = some (kla_obj name qual params body scope cl pm c ctv)) (hc : h.CodeRec (.ref c) qual) :
  VR h (.fn name qual params body scope cl) (.ref a) := by unfold VR; exact ⟨a,pm,c,ctv,rfl,e,hc⟩
structure Names (C : Cx) (mg mb : Str→Option Value) : Prop where
 g : C.h₀.Ns C.env.globals mg
 b : C.h₀.Ns C.env.builtins mb
theorem EV_int {i : Int} {k : Nat} {p : Pos} {Q : V→Loc→CH→Prop} (h : Q (.int i) m H) : EV C A (.Constant (.int i) k p) m H Q := fun s S => wpAny_Constant_int (.same S .int h _)
theorem EV_str {x : Str} {k : Nat} {p : Pos} {Q : V→Loc→CH→Prop} (h : Q (.str x) m H) : EV C A (.Constant (.str x) k p) m H Q := fun s S => Constant_str (.same S .str h _)
theorem EV_none {k : Nat} {p : Pos} {Q : V→Loc→CH→Prop} (h : Q .none m H) : EV C A (.Constant .none k p) m H Q := fun s S => wpAny_Constant_none (.here S .con h)
theorem EV_bool {b : Bool} {k : Nat} {p : Pos} {Q : V→Loc→CH→Prop} (h : Q (.bool b) m H) : EV C A (.Constant (.bool b) k p) m H Q := fun s S => wpAny_Constant_bool (.here S .con h)
theorem EV_bin {l r : PySem.Expr} {op : Operator} {p : Pos} {Q : V→Loc→CH→Prop} (h : EV C A l m H (KE2 C A r (binaryOp op) Q)) : EV C A (.BinOp l op r p) m H Q := fun s S => by
 refine wpAny_BinOp (wpAny_mono (h s S) ?_ fun _ _ x => x)
 rintro a s₁ ⟨v,m₁,H₁,ra,S₁,af₁,h₁⟩
 refine wpAny_mono (h₁ s₁ S₁) ?_ fun _ _ x => x
 rintro b s₂ ⟨w,m₂,H₂,rb,S₂,af₂,h₂⟩
 exact wpAny_mono (h₂ s₂ a b S₂ (ra.keep (af₂.tup S₁)) rb) (fun _ _ x => x.mono S₂ (af₁.then S₁ af₂)) fun _ _ x => x
theorem EV_cmp {l r : PySem.Expr} {op : CmpOp} {p : Pos} {Q : V→Loc→CH→Prop} (h : EV C A l m H (KE2 C A r (compareOp op) Q))
  (hm : autoParam (behindInMarks op r = false) Mine.syn1) : EV C A (.Compare l [op] [r] p) m H Q := fun s S => by
 refine wpAny_Compare1 (wpAny_mono (h s S) ?_ fun _ _ x => x) hm
 rintro a s₁ ⟨v,m₁,H₁,ra,S₁,af₁,h₁⟩
 refine wpAny_mono (h₁ s₁ S₁) ?_ fun _ _ x => x
 rintro b s₂ ⟨w,m₂,H₂,rb,S₂,af₂,h₂⟩
 exact wpAny_mono (h₂ s₂ a b S₂ (ra.keep (af₂.tup S₁)) rb) (fun _ _ x => x.mono S₂ (af₁.then S₁ af₂)) fun _ _ x => x
theorem EB_cmp {l r : PySem.Expr} {op : CmpOp} {p : Pos} {Q : Bool→Loc→CH→Prop} (h : EV C A l m H (KE2 C A r (compareOp op) (KBool Q)))
  (hm : autoParam (behindInMarks op r = false) Mine.syn1) : EB C A (.Compare l [op] [r] p) m H Q := fun s S => by
 refine wpAny_isTrue_Compare1 (wpAny_mono (h s S) ?_ fun _ _ x => x) hm
 rintro a s₁ ⟨v,m₁,H₁,ra,S₁,af₁,h₁⟩
 refine wpAny_mono (h₁ s₁ S₁) ?_ fun _ _ x => x
 rintro b s₂ ⟨w,m₂,H₂,rb,S₂,af₂,h₂⟩
 refine wpAny_mono (h₂ s₂ a b S₂ (ra.keep (af₂.tup S₁)) rb) ?_ fun _ _ x => x
 rintro c s₃ ⟨x,m₃,H₃,rc,S₃,af₃,b',rfl,q⟩
 refine rE rc.con_inv ?_
 exact wpAny_truthy_bool ⟨m₃,H₃,S₃,(af₁.then S₁ af₂).then S₂ af₃,q⟩
theorem EV_un {x : PySem.Expr} {op : UnaryOp} {p : Pos} {Q : V→Loc→CH→Prop} (h : EV C A x m H (KO1 C A (unaryOp op) Q)) : EV C A (.UnaryOp op x p) m H Q := fun s S => by
 refine wpAny_UnaryOp (wpAny_mono (h s S) ?_ fun _ _ x => x)
 rintro a s₁ ⟨v,m₁,H₁,ra,S₁,af₁,h₁⟩
 exact wpAny_mono (h₁ s₁ a S₁ ra) (fun _ _ x => x.mono S₁ af₁) fun _ _ x => x
theorem EB_not {x : PySem.Expr} {p : Pos} {Q : Bool→Loc→CH→Prop} (h : EB C A x m H (KNot Q)) : EB C A (.UnaryOp .Not x p) m H Q := fun s S =>
 wpAny_isTrue_Not (wpAny_mono (h s S) (fun b s' ⟨m',H',a,c,d⟩ => ⟨m',H',a,c,d⟩) fun _ _ x => x)
theorem EB_val {e : PySem.Expr} {Q : Bool→Loc→CH→Prop} (h : EV C A e m H (KOB C A Q)) (he : autoParam (∀ whole,isTrue e C.env whole = (do let v ← whole; standAt e.pos; holding [v] (truthy v))) Mine.syn2) : EB C A e m H Q := fun s S => by
 refine wpAny_isTrue_value (wpAny_mono (h s S) ?_ fun _ _ x => x) (he _)
 rintro a s₁ ⟨v,m₁,H₁,ra,S₁,af₁,h₁⟩
 exact wpAny_mono (h₁ s₁ a S₁ ra) (fun _ _ x => x.mono S₁ af₁) fun _ _ x => x
theorem EV_if {t b o : PySem.Expr} {p : Pos} {Q : V→Loc→CH→Prop} (h : EB C A t m H (KIfV C A b o Q)) : EV C A (.IfExp t b o p) m H Q := fun s S => by
 refine wpAny_IfExp (wpAny_mono (h s S) ?_ fun _ _ x => x)
 rintro c s₁ ⟨m₁,H₁,S₁,af₁,h₁⟩
 cases c with
 | true => exact wpAny_mono (h₁.1 rfl s₁ S₁) (fun _ _ x => x.mono S₁ af₁) fun _ _ x => x
 | false => exact wpAny_mono (h₁.2 rfl s₁ S₁) (fun _ _ x => x.mono S₁ af₁) fun _ _ x => x
theorem EB_and {x y : PySem.Expr} {p : Pos} {Q : Bool→Loc→CH→Prop} (h : EB C A x m H (KAnd C A y Q)) : EB C A (.BoolOp .And [x,y] p) m H Q := fun s S => by
 refine wpAny_isTrue_BoolOp (wpAny_allTrue_And_cons (wpAny_mono (h s S) ?_ fun _ _ x => x))
 rintro c s₁ ⟨m₁,H₁,S₁,af₁,h₁⟩
 cases c with
 | true =>
  refine wpAny_allTrue_And_cons (wpAny_mono (h₁.1 rfl s₁ S₁) ?_ fun _ _ x => x)
  rintro c s₂ h₂
  have h₃ := h₂.mono S₁ af₁
  cases c with
  | true => exact wpAny_allTrue_And_nil h₃
  | false => exact h₃
 | false => exact ⟨m₁,H₁,S₁,af₁,h₁.2 rfl⟩
theorem EB_or {x y : PySem.Expr} {p : Pos} {Q : Bool→Loc→CH→Prop} (h : EB C A x m H (KOr C A y Q)) : EB C A (.BoolOp .Or [x,y] p) m H Q := fun s S => by
 refine wpAny_isTrue_BoolOp (wpAny_allTrue_Or_cons (wpAny_mono (h s S) ?_ fun _ _ x => x))
 rintro c s₁ ⟨m₁,H₁,S₁,af₁,h₁⟩
 cases c with
 | false =>
  refine wpAny_allTrue_Or_cons (wpAny_mono (h₁.2 rfl s₁ S₁) ?_ fun _ _ x => x)
  rintro c s₂ h₂
  have h₃ := h₂.mono S₁ af₁
  cases c with
  | false => exact wpAny_allTrue_Or_nil h₃
  | true => exact h₃
 | true => exact ⟨m₁,H₁,S₁,af₁,h₁.1 rfl⟩
theorem EL_nil {Q : List V→Loc→CH→Prop} (h : Q [] m H) : EL C A [] m H Q := fun s pos S => spliced_nil ⟨[],m,H,.nil,S,.refl ..,h⟩
theorem EL_cons {e : PySem.Expr} {rest : List PySem.Expr} {Q : List V→Loc→CH→Prop} (h : EV C A e m H (KEL C A rest Q))
  (he : autoParam (starEach (e :: rest) C.env = (false,eval e C.env) :: starEach rest C.env) Mine.syn1) : EL C A (e :: rest) m H Q := fun s pos S => by
 refine rE he ?_
 refine spliced_cons (rest := backTo pos (starEach rest C.env)) (x := eval e C.env) (wpAny_mono (h s S) ?_ fun _ _ x => x)
 rintro a s₁ ⟨v,m₁,H₁,ra,S₁,af₁,h₁⟩
 refine wpAny_mono (h₁ s₁ pos S₁) ?_ fun _ _ x => x
 rintro vs s₂ ⟨ws,m₂,H₂,rb,S₂,af₂,h₂⟩
 exact ⟨v :: ws,m₂,H₂,.cons (ra.keep (af₂.tup S₁)) rb,S₂,af₁.then S₁ af₂,h₂⟩
theorem EV_tuple {es : List PySem.Expr} {k : Nat} {p : Pos} {Q : V→Loc→CH→Prop} (h : EL C A es m H (KTup Q)) : EV C A (.Tuple es k p) m H Q := fun s S => by
 refine Tuple_ (wpAny_mono (h s p S) ?_ fun _ _ x => x)
 rintro vs s₁ ⟨ws,m₁,H₁,ra,S₁,af₁,hl,h₁⟩
 refine wpAny_newObj_type ?_ (by show vs.toArray.size≤sizeLine; refine rE List.size_toArray (rF ra.length ?_); exact hl)
 exact ⟨.tup ws,m₁,H₁,.tup (Heap.get?_push_size _ rfl) (by refine rE List.toList_toArray ?_; exact ra.keep (.push _ _)),S₁.more (keep_push _ _),af₁.then S₁ (.more (keep_push _ _)),h₁⟩
theorem EV_list {es : List PySem.Expr} {p : Pos} {Q : V→Loc→CH→Prop} (h : EL C A es m H (KLst Q)) : EV C A (.List es p) m H Q := fun s S => by
 refine List_ (wpAny_mono (h s p S) ?_ fun _ _ x => x)
 rintro vs s₁ ⟨ws,m₁,H₁,ra,S₁,af₁,hl,h₁⟩
 refine wpAny_newObj_type ?_ (by show vs.toArray.size≤sizeLine; refine rE List.size_toArray (rF ra.length ?_); exact hl)
 exact ⟨_,m₁,_,.ref,S₁.alloc (c := .list ws) ⟨_,0,rfl,by refine rE List.toList_toArray ?_; exact ra⟩,af₁.then S₁ .alloc,h₁ _ S₁.toHS.fresh⟩
theorem EX_nil {Q : Fl→Loc→CH→Prop} (h : Q .next m H) : EX C A [] m H Q := fun s S => wpAny_execs_nil (PF.here (f := .next) S rfl h)
noncomputable def SeqE (C : Cx) (A : Around) (rest : List Stmt) (Q : Fl→Loc→CH→Prop) (fl : Fl) (m : Loc) (H : CH) : Prop := match fl with
 | .next => EX C A rest m H Q
 | fl => Q fl m H
noncomputable def SeqK (R : Loc→CH→Prop) (Q : Fl→Loc→CH→Prop) (fl : Fl) (m : Loc) (H : CH) : Prop := match fl with
 | .next => R m H
 | fl => Q fl m H
section
variable {rest : List Stmt} {Q : Fl→Loc→CH→Prop} {R : Loc→CH→Prop} {v : V}
theorem SeqE.n (h : EX C A rest m H Q) : SeqE C A rest Q .next m H := h
theorem SeqE.b (h : Q .brk m H) : SeqE C A rest Q .brk m H := h
theorem SeqE.c (h : Q .cont m H) : SeqE C A rest Q .cont m H := h
theorem SeqE.r (h : Q (.ret v) m H) : SeqE C A rest Q (.ret v) m H := h
theorem SeqK.n (h : R m H) : SeqK R Q .next m H := h
theorem SeqK.b (h : Q .brk m H) : SeqK R Q .brk m H := h
theorem SeqK.c (h : Q .cont m H) : SeqK R Q .cont m H := h
theorem SeqK.r (h : Q (.ret v) m H) : SeqK R Q (.ret v) m H := h
end
theorem EX_cons {st : Stmt} {rest : List Stmt} {Q : Fl→Loc→CH→Prop} (h : ES C A st m H (SeqE C A rest Q)) : EX C A (st :: rest) m H Q := fun s S => by
 refine wpAny_execs_cons (wpAny_mono (h s S) ?_ fun _ _ x => x)
 rintro f s₁ ⟨fl,m₁,H₁,hf,S₁,af₁,h₁⟩
 cases fl with
 | next => cases hf; exact wpAny_mono (h₁ s₁ S₁) (fun _ _ x => x.mono S₁ af₁) fun _ _ x => x
 | brk => cases hf; exact ⟨.brk,m₁,H₁,rfl,S₁,af₁,h₁⟩
 | cont => cases hf; exact ⟨.cont,m₁,H₁,rfl,S₁,af₁,h₁⟩
 | ret v => obtain ⟨r,rfl,hr⟩ := hf; exact ⟨.ret v,m₁,H₁,⟨r,rfl,hr⟩,S₁,af₁,h₁⟩
theorem ES_ret {e : PySem.Expr} {p : Pos} {Q : Fl→Loc→CH→Prop} (h : EV C A e m H (KRet Q)) : ES C A (.Return (some e) p) m H Q := fun s S => by
 refine wpAny_Return_some (wpAny_mono (h s S) ?_ fun _ _ x => x)
 rintro a s₁ ⟨v,m₁,H₁,ra,S₁,af₁,h₁⟩
 exact ⟨.ret v,m₁,H₁,⟨a,rfl,ra⟩,S₁,af₁,h₁⟩
theorem ES_break {p : Pos} {Q : Fl→Loc→CH→Prop} (h : Q .brk m H) : ES C A (.Break p) m H Q := fun s S => wpAny_Break (PF.here (f := .brk) S rfl h)
theorem ES_continue {p : Pos} {Q : Fl→Loc→CH→Prop} (h : Q .cont m H) : ES C A (.Continue p) m H Q := fun s S => wpAny_Continue (PF.here (f := .cont) S rfl h)
theorem ES_if {t : PySem.Expr} {b o : List Stmt} {p : Pos} {Q : Fl→Loc→CH→Prop} (h : EB C A t m H (KIf C A b o Q)) : ES C A (.If t b o p) m H Q := fun s S => by
 refine wpAny_If (wpAny_mono (h s S) ?_ fun _ _ x => x)
 rintro c s₁ ⟨m₁,H₁,S₁,af₁,h₁⟩
 cases c with
 | true => simp only [if_true]; exact wpAny_mono (h₁.1 rfl s₁ S₁) (fun _ _ x => x.mono S₁ af₁) fun _ _ x => x
 | false => simp only [Bool.false_eq_true,if_false]; exact wpAny_mono (h₁.2 rfl s₁ S₁) (fun _ _ x => x.mono S₁ af₁) fun _ _ x => x
theorem ES_assign {t e : PySem.Expr} {p : Pos} {Q : Fl→Loc→CH→Prop} (h : EV C A e m H (KAsg C A t Q))
  (hs : autoParam (swapsWithSole [t] e p.line C.env = pure false) Mine.syn1) (hw : autoParam (swappedStores [t] e C.env = pure none) Mine.syn1) (ht : autoParam ((assignEach [t] C.env).map (·.2) = [assign t C.env]) Mine.syn1) : ES C A (.Assign [t] e p) m H Q := fun s S => by
 refine wpAny_Assign_stores (wpAny_mono (h s S) ?_ fun _ _ x => x) hs hw
 rintro a s₁ ⟨v,m₁,H₁,ra,S₁,af₁,h₁⟩
 refine rE ht ?_
 refine wpAny_mono (h₁ s₁ a S₁ ra) ?_ fun _ _ x => x
 rintro _ s₂ ⟨m₂,H₂,S₂,af₂,h₂⟩
 exact ⟨.next,m₂,H₂,rfl,S₂,af₁.then S₁ af₂,h₂⟩
theorem ASG_local {x : Str} {p : Pos} {v : V} {Q : Loc→CH→Prop} (h : Q ((x,v) :: m) H)
  (hl : autoParam (C.env.kindOf x = some .local) Mine.syn1) (hp : autoParam ((C.env.scope.kind == .class || (C.env.scope.kind == .module && C.env.locals != C.env.globals)) = false) Mine.syn1) : ASG C A (.Name x p) v m H Q := fun s r S hv => by
 refine eEA S.ns fun mr hn hk => ?_
 refine wpAny_assign_Name (wpAny_storeName_local hl hn (fun h' hn' hs => ?_) hp)
 exact ⟨_,H,S.store hv hk hn' hs,.store hn' hs,h⟩
theorem EX_gen {b : List Stmt} {Q : Fl→Loc→CH→Prop} (h : ∀ H',H' = H→EX C A b m H' Q) : EX C A b m H Q := h H rfl
theorem EX_asn {ts : List PySem.Expr} {e : PySem.Expr} {p : Pos} {rest : List Stmt} {Q : Fl→Loc→CH→Prop} (h : ES C A (.Assign ts e p) m H (SeqE C A rest Q)) : EX C A (.Assign ts e p :: rest) m H Q := EX_cons h
theorem EX_brk {p : Pos} {rest : List Stmt} {Q : Fl→Loc→CH→Prop} (h : ES C A (.Break p) m H (SeqE C A rest Q)) : EX C A (.Break p :: rest) m H Q := EX_cons h
theorem EX_cnt {p : Pos} {rest : List Stmt} {Q : Fl→Loc→CH→Prop} (h : ES C A (.Continue p) m H (SeqE C A rest Q)) : EX C A (.Continue p :: rest) m H Q := EX_cons h
theorem EX_aug {t : PySem.Expr} {o : Operator} {e : PySem.Expr} {p : Pos} {rest : List Stmt} {Q : Fl→Loc→CH→Prop} (h : ES C A (.AugAssign t o e p) m H (SeqE C A rest Q)) : EX C A (.AugAssign t o e p :: rest) m H Q := EX_cons h
theorem EX_ifs {t : PySem.Expr} {b o : List Stmt} {p : Pos} {rest : List Stmt} {Q : Fl→Loc→CH→Prop} (h : EB C A t m H (KIf C A b o (SeqE C A rest Q))) : EX C A (.If t b o p :: rest) m H Q := EX_cons (ES_if h)
theorem EV_loc {x : Str} {p : Pos} {v : V} {Q : V→Loc→CH→Prop} (h : Q v m H) (hm : autoParam (m.lookup x = some v) Mine.syn1) (hk : autoParam (C.env.scope.kind = .function) Mine.syn1) (hl : autoParam (C.env.kindOf x = some .local) Mine.syn1) (hd : autoParam ((x == ("__debug__" : Str)) = false) Mine.syn4) : EV C A (.Name x p) m H Q := EV_local hm h hk hl hd
theorem EX_asl {x : Str} {np : Pos} {e : PySem.Expr} {rest : List Stmt} {p : Pos} {Q : Fl→Loc→CH→Prop} (h : EV C A e m H (KAsl C A x rest Q))
  (hl : autoParam (C.env.kindOf x = some .local) Mine.syn1) (hp : autoParam ((C.env.scope.kind == .class || (C.env.scope.kind == .module && C.env.locals != C.env.globals)) = false) Mine.syn1)
  (hs : autoParam (swapsWithSole [.Name x np] e p.line C.env = pure false) Mine.syn1) (hw : autoParam (swappedStores [.Name x np] e C.env = pure none) Mine.syn1) (ht : autoParam ((assignEach [.Name x np] C.env).map (·.2) = [assign (.Name x np) C.env]) Mine.syn1) : EX C A (.Assign [.Name x np] e p :: rest) m H Q :=
 EX_cons (ES_assign (h.mono fun _ _ _ h => ASG_local h hl hp) hs hw ht)
theorem EX_ret {e : PySem.Expr} {rest : List Stmt} {p : Pos} {Q : Fl→Loc→CH→Prop} (h : EV C A e m H (KRet Q)) : EX C A (.Return (some e) p :: rest) m H Q := EX_cons (ES_ret h)
theorem ASG_cell {x : Str} {p : Pos} {c : Addr} {v : V} {v₀ : Option V} {Q : Loc→CH→Prop} (hc : C.env.cells.lookup x = some c) (hm : H c = some (.cell v₀)) (h : Q m (H.set c (.cell (some v))))
  (hk : autoParam (C.env.scope.kind = .function) Mine.syn1) (hl : autoParam (C.env.kindOf x = some .cell) Mine.syn1) : ASG C A (.Name x p) v m H Q := fun s r S hv => by
 refine eEA (St.cell S.toHS hm) fun q hI hr => ?_
 refine wpAny_assign_Name (wpAny_storeName_cell hk hl hc hI fun h' hI' hs => ?_)
 obtain ⟨o',ho',hd'⟩ := hI'
 exact ⟨m,_,S.upd (c' := .cell (some v)) (tk := s.toks) hm hs ho' ⟨_,hd',hv⟩,.upd hm hs ho',h⟩
noncomputable def ASGs (C : Cx) (A : Around) : List PySem.Expr→List V→Loc→CH→(Loc→CH→Prop)→Prop
 | [],[],m,H,Q => Q m H
 | t :: ts,v :: vs,m,H,Q => ASG C A t v m H fun m₁ H₁ => ASGs C A ts vs m₁ H₁ Q
 | _,_,_,_,_ => False
theorem assignInOrder_of : ∀ (ts : List PySem.Expr) (vs : List V) (rs : List Value) (m : Loc) (H : CH) (s : Shared) (Q : Loc→CH→Prop),ASGs C A ts vs m H Q→St C m H s→VRs s.heap vs rs →
  wpAny (model C.prog C.w) A (assignInOrder (ts.map fun t => assign t C.env) rs) (PA C H s fun _ => Q) NoE s
 | [],[],rs,m,H,s,Q,h,S,r => by have := r.nil_inv; subst this; exact wpAny_assignInOrder_none ⟨m,H,S,.refl ..,h⟩
 | [],_ :: _,_,_,_,_,_,h,_,_ => h.elim
 | _ :: _,[],_,_,_,_,_,h,_,_ => h.elim
 | t :: ts,v :: vs,rs,m,H,s,Q,h,S,r => by
  refine eEEAA r.cons_inv fun y ys zz2 a b => ?_; subst zz2
  refine wpAny_assignInOrder_more (wpAny_mono (h s y S a) ?_ fun _ _ x => x)
  rintro _ s₁ ⟨m₁,H₁,S₁,af₁,h₁⟩
  exact wpAny_mono (assignInOrder_of ts vs ys m₁ H₁ s₁ Q h₁ S₁ (b.keep (af₁.tup S))) (fun _ _ x => x.mono S₁ af₁) fun _ _ x => x
theorem ASG_tuple {ts : List PySem.Expr} {k : Nat} {p : Pos} {vs : List V} {Q : Loc→CH→Prop} (hA : A.handled = none) (hlen : ts.length = vs.length) (h : ASGs C A ts vs m H Q)
  (ht : autoParam (assignEach ts C.env = ts.map fun t => (false,assign t C.env)) Mine.syn1) : ASG C A (.Tuple ts k p) (.tup vs) m H Q := fun s r S hv => by
 obtain ⟨a,items,n,rfl,ho,hs⟩ := hv.tup_inv
 have hl : items.size = vs.length := by have := hs.length; simp at this; exact Nat.add_right_cancel (congrFun (congrArg HAdd.hAdd (id (Eq.symm this))) k)
 refine wpAny_assign_Tuple hA ⟨_,ho,rfl,n,rfl⟩ (by refine rE ht (rE (List.length_map ..) (rE hl (rE hlen rfl)))) (by refine rE ht (rE List.findIdx?_map ?_); simp) fun h' he => ?_
 refine rE ht (rE List.map_map ?_)
 have S' : St C m H { s with heap := h' } := S.more (tk := s.toks) fun b o e => he b o (Nat.ne_of_lt (Heap.lt_size e)) e
 have := assignInOrder_of (A := A) ts vs items.toList m H { s with heap := h' } Q h S' (hs.keep (.of_keep fun b o e => he b o (Nat.ne_of_lt (Heap.lt_size e)) e))
 refine wpAny_mono this (fun _ _ x => x.mono S' (.more (tk := s.toks) fun b o e => he b o (Nat.ne_of_lt (Heap.lt_size e)) e)) fun _ _ x => x
end
end
end Mine
end
section
open PySem PySem.Calls PySem.W PyProof.Rows
set_option maxRecDepth 100000
namespace Mine
noncomputable section
section
variable {C : Cx} {A : Around} {m : Loc} {H : CH} {s : Shared} {Q : V→Loc→CH→Prop} {a b : Int}
theorem O2_add (h : Q (.int (a + b)) m H) : O2 C A (binaryOp .Add) (.int a) (.int b) m H Q := fun s r q S hr hq => by
 refine eE hr.int_inv fun t zz1 => ?_; subst zz1; (refine eE hq.int_inv fun u zz1 => ?_; subst zz1); exact add_int (.same S .int h _)
theorem O2_sub (h : Q (.int (a - b)) m H) : O2 C A (binaryOp .Sub) (.int a) (.int b) m H Q := fun s r q S hr hq => by
 refine eE hr.int_inv fun t zz1 => ?_; subst zz1; (refine eE hq.int_inv fun u zz1 => ?_; subst zz1); exact sub_int (.same S .int h _)
theorem O2_mul (hm : IntMulOk a b) (h : Q (.int (a * b)) m H) : O2 C A (binaryOp .Mult) (.int a) (.int b) m H Q := fun s r q S hr hq => by
 refine eE hr.int_inv fun t zz1 => ?_; subst zz1; (refine eE hq.int_inv fun u zz1 => ?_; subst zz1); exact P.mul_int (.same S .int h _) hm
theorem O2_mod (hb : b≠0) (h : Q (.int (a.fmod b)) m H) : O2 C A (binaryOp .Mod) (.int a) (.int b) m H Q := fun s r q S hr hq => by
 refine eE hr.int_inv fun t zz1 => ?_; subst zz1; (refine eE hq.int_inv fun u zz1 => ?_; subst zz1); exact mod_int hb (.same S .int h _)
theorem O2_div (hb : b≠0) (hs : b.natAbs < 1073741824) (h : Q (.int (a.fdiv b)) m H) : O2 C A (binaryOp .FloorDiv) (.int a) (.int b) m H Q := fun s r q S hr hq => by
 refine eE hr.int_inv fun t zz1 => ?_; subst zz1; (refine eE hq.int_inv fun u zz1 => ?_; subst zz1); exact floordiv_int hb (.same S .int h _) (.inl (PyProof.noPylong_small hs))
theorem O2_shr (hb : 0≤b) (h : Q (.int (a.fdiv (2 ^ b.toNat))) m H) : O2 C A (binaryOp .RShift) (.int a) (.int b) m H Q := fun s r q S hr hq => by
 refine eE hr.int_inv fun t zz1 => ?_; subst zz1; (refine eE hq.int_inv fun u zz1 => ?_; subst zz1); exact rshift_int hb (.same S .int h _)
theorem O2_pow (hb : 0≤b) (hsz : (Builtin.Int.intBits a : Int) * b≤2 ^ 27) (h : Q (.int (a ^ b.toNat)) m H) : O2 C A (binaryOp .Pow) (.int a) (.int b) m H Q := fun s r q S hr hq => by
 refine eE hr.int_inv fun t zz1 => ?_; subst zz1; (refine eE hq.int_inv fun u zz1 => ?_; subst zz1); exact pow_int hb hsz (.same S .int h _)
theorem O2_iadd (h : Q (.int (a + b)) m H) : O2 C A (inplaceOp .Add) (.int a) (.int b) m H Q := fun s r q S hr hq => by
 refine eE hr.int_inv fun t zz1 => ?_; subst zz1; (refine eE hq.int_inv fun u zz1 => ?_; subst zz1); exact iadd_int (.same S .int h _)
theorem O2_isub (h : Q (.int (a - b)) m H) : O2 C A (inplaceOp .Sub) (.int a) (.int b) m H Q := fun s r q S hr hq => by
 refine eE hr.int_inv fun t zz1 => ?_; subst zz1; (refine eE hq.int_inv fun u zz1 => ?_; subst zz1); exact P.isub_int (.same S .int h _)
theorem O1_neg (h : Q (.int (-a)) m H) : O1 C A (unaryOp .USub) (.int a) m H Q := fun s r S hr => by
 refine eE hr.int_inv fun t zz1 => ?_; subst zz1; exact P.neg_int (.same S .int h _)
theorem O2_lt (h : Q (.bool (decide (a < b))) m H) : O2 C A (compareOp .Lt) (.int a) (.int b) m H Q := fun s r q S hr hq => by
 refine eE hr.int_inv fun t zz1 => ?_; subst zz1; (refine eE hq.int_inv fun u zz1 => ?_; subst zz1); exact lt_int (.here S .con h)
theorem O2_gt (h : Q (.bool (decide (b < a))) m H) : O2 C A (compareOp .Gt) (.int a) (.int b) m H Q := fun s r q S hr hq => by
 refine eE hr.int_inv fun t zz1 => ?_; subst zz1; (refine eE hq.int_inv fun u zz1 => ?_; subst zz1); exact gt_int (.here S .con h)
theorem O2_le (h : Q (.bool (decide (a≤b))) m H) : O2 C A (compareOp .LtE) (.int a) (.int b) m H Q := fun s r q S hr hq => by
 refine eE hr.int_inv fun t zz1 => ?_; subst zz1; (refine eE hq.int_inv fun u zz1 => ?_; subst zz1); exact P.le_int (.here S .con h)
theorem O2_ge (h : Q (.bool (decide (b≤a))) m H) : O2 C A (compareOp .GtE) (.int a) (.int b) m H Q := fun s r q S hr hq => by
 refine eE hr.int_inv fun t zz1 => ?_; subst zz1; (refine eE hq.int_inv fun u zz1 => ?_; subst zz1); exact P.ge_int (.here S .con h)
theorem O2_eq (h : Q (.bool (decide (a = b))) m H) : O2 C A (compareOp .Eq) (.int a) (.int b) m H Q := fun s r q S hr hq => by
 refine eE hr.int_inv fun t zz1 => ?_; subst zz1; (refine eE hq.int_inv fun u zz1 => ?_; subst zz1)
 refine P.eq_int (.here S .con ?_)
 refine rE (show (a == b) = decide (a = b) from by by_cases h : a = b <;> simp [h]) ?_; exact h
theorem O2_ne (h : Q (.bool (decide (a≠b))) m H) : O2 C A (compareOp .NotEq) (.int a) (.int b) m H Q := fun s r q S hr hq => by
 refine eE hr.int_inv fun t zz1 => ?_; subst zz1; (refine eE hq.int_inv fun u zz1 => ?_; subst zz1)
 refine P.ne_int (.here S .con ?_)
 refine rE (show (a != b) = decide (a≠b) from by by_cases h : a = b <;> simp [h]) ?_; exact h
noncomputable def V.isNone : V→Bool
 | .con .none => true
 | _ => false
theorem VR.isNone {h : Heap} {v : V} {r : Value} (x : VR h v r) : (r == Value.none) = v.isNone := by
 cases v with
 | con c => refine rE x.con_inv ?_; cases c <;> rfl
 | int i => (refine eE x.int_inv fun t zz1 => ?_; subst zz1); rfl
 | str i => (refine eE x.str_inv fun t zz1 => ?_; subst zz1); rfl
 | tup l => (refine eEEEA x.tup_inv fun a items n zz3 _ => ?_; subst zz3); rfl
 | rng => obtain ⟨z,t,u,w,rfl,_⟩ := x.rng_inv; rfl
 | imm => obtain ⟨_,a,rfl,_⟩ := x.imm_inv; rfl
 | fn => obtain ⟨a,_,_,_,rfl,_⟩ := x.fn_inv; rfl
 | ref a => refine rE x.ref_inv ?_; rfl
theorem O2_isNone {v : V} (h : Q (.bool v.isNone) m H) : O2 C A (compareOp .Is) v .none m H Q := fun s r q S hr hq => by
 refine rE hq.con_inv ?_; exact is_none (.here S .con (by refine rE hr.isNone ?_; exact h))
theorem O2_isNotNone {v : V} (h : Q (.bool (!v.isNone)) m H) : O2 C A (compareOp .IsNot) v .none m H Q := fun s r q S hr hq => by
 refine rE hq.con_inv ?_; exact isNot_none (.here S .con (by refine rE hr.isNone ?_; exact h))
variable {QB : Bool→Loc→CH→Prop}
theorem OB_bool {b : Bool} (h : QB b m H) : OB C A truthy (.bool b) m H QB := fun s r S hr => by refine rE hr.con_inv ?_; exact wpAny_truthy_bool (.here S h)
inductive LAt (C : Cx) (H : CH) (l : Addr) (xs : List V) : Prop where
 | own (h : H l = some (.list xs)) : LAt C H l xs
 | base (items : Array Value) (n : Nat) (h : C.h₀.get? l = some (seqObj "list" items n)) (hv : VRs C.h₀ xs items.toList) : LAt C H l xs
inductive LRep (s : Shared) (l : Addr) (xs : List V) : Prop
 | mk (items : Array Value) (n : Nat) (h : IsL s.heap l items n) (hv : VRs s.heap xs items.toList) (hz : items.size = xs.length) : LRep s l xs
theorem HS.list {l : Addr} {xs : List V} (S : HS C H s) (hl : LAt C H l xs) : LRep s l xs := by
 cases hl with
 | own hl =>
  obtain ⟨_,o,ho,items,n,rfl,hr⟩ := S.own _ _ hl
  exact ⟨items,n,ho,hr,by have := hr.length; simp at this; exact Nat.add_right_cancel (congrFun (congrArg HAdd.hAdd (id (Eq.symm this))) l)⟩
 | base items n h hv => exact ⟨items,n,S.base _ _ h,hv.keep (.of_keep S.base),by have := hv.length; simp at this; exact Nat.add_right_cancel (congrFun (congrArg HAdd.hAdd (id (Eq.symm this))) l)⟩
theorem OB_list {l : Addr} {xs : List V} (hl : LAt C H l xs) (hsz : xs.length≤sizeLine) (h : QB (!xs.isEmpty) m H) : OB C A truthy (.ref l) m H QB := fun s r S hr => by
 refine rE hr.ref_inv ?_
 obtain ⟨items,n,hI,hv,hz⟩ := S.toHS.list hl
 have : items.isEmpty = xs.isEmpty := by
  cases xs with
  | nil => simp at hz; simp [hz]
  | cons => simp at hz; simp; intro e; simp [e] at hz
 refine wpAny_truthy_list hI.isList (by refine rE hz ?_; unfold sizeLine at hsz; lia) ?_
 refine rE this ?_; exact .same S h _
theorem EV_sub {value slice : PySem.Expr} {p : Pos} (h : EV C A value m H (KE2 C A slice (subscriptTail value slice) Q)) : EV C A (.Subscript value slice p) m H Q := fun s S => by
 refine Subscript_ (wpAny_mono (h s S) ?_ fun _ _ x => x)
 rintro a s₁ ⟨v,m₁,H₁,ra,S₁,af₁,h₁⟩
 refine wpAny_mono (h₁ s₁ S₁) ?_ fun _ _ x => x
 rintro b s₂ ⟨w,m₂,H₂,rb,S₂,af₂,h₂⟩
 exact wpAny_mono (h₂ s₂ a b S₂ (ra.keep (af₂.tup S₁)) rb) (fun _ _ x => x.mono S₂ (af₁.then S₁ af₂)) fun _ _ x => x
noncomputable abbrev NoSlice (slice : PySem.Expr) : Prop := ∀ o i,subscripted slice false o i = operate [o,i] (getItem o i)
theorem sub_list {value slice : PySem.Expr} {l : Addr} {xs : List V} {k : Int} {v : V} (hl : LAt C H l xs) (h0 : 0≤k) (hv : xs[k.toNat]? = some v) (hsz : xs.length≤sizeLine) (h : Q v m H) (hs : autoParam (NoSlice slice) Mine.syn3) :
  O2 C A (subscriptTail value slice) (.ref l) (.int k) m H Q := fun s r q S hr hq => by
 refine rE hr.ref_inv ?_; (refine eE hq.int_inv fun u zz1 => ?_; subst zz1)
 obtain ⟨items,n,hI,hvs,hz⟩ := S.toHS.list hl
 refine eEA (hvs.get hv) fun x hx hvx => ?_
 have hx' : items[k.toNat]? = some x := by simpa using hx
 have hk : k.toNat < xs.length := (List.getElem?_eq_some_iff.mp hv).1
 exact tail_any hI.isList.typeIs slot_list_getitem.lookup (wpAny_getItem_list hI.isList h0 (by unfold sizeLine at hsz; (clear h0 hv hx hx'; lia)) hx' (.here S hvx h)) (hs _ _)
theorem sub_list_neg {value slice : PySem.Expr} {l : Addr} {xs : List V} {k : Int} {v : V} (hl : LAt C H l xs) (h0 : k < 0) (h1 : -(xs.length : Int)≤k) (hv : xs[(k + xs.length).toNat]? = some v) (hsz : xs.length≤sizeLine) (h : Q v m H) (hs : autoParam (NoSlice slice) Mine.syn3) :
  O2 C A (subscriptTail value slice) (.ref l) (.int k) m H Q := fun s r q S hr hq => by
 refine rE hr.ref_inv ?_; (refine eE hq.int_inv fun u zz1 => ?_; subst zz1)
 obtain ⟨items,n,hI,hvs,hz⟩ := S.toHS.list hl
 refine eEA (hvs.get hv) fun x hx hvx => ?_
 have hx' : items[(k + items.size).toNat]? = some x := by refine rE hz ?_; simpa using hx
 exact tail_any hI.isList.typeIs slot_list_getitem.lookup (wpAny_getItem_list_neg hI.isList h0 (by refine rE hz ?_; exact h1) (by unfold sizeLine at hsz; lia) hx' (.here S hvx h)) (hs _ _)
theorem sub_tup {value slice : PySem.Expr} {xs : List V} {k : Int} {v : V} (h0 : 0≤k) (hv : xs[k.toNat]? = some v) (hsz : xs.length≤sizeLine) (h : Q v m H) (hs : autoParam (NoSlice slice) Mine.syn3) :
  O2 C A (subscriptTail value slice) (.tup xs) (.int k) m H Q := fun s r q S hr hq => by
 obtain ⟨a,items,n,rfl,ho,hvs⟩ := hr.tup_inv; (refine eE hq.int_inv fun u zz1 => ?_; subst zz1)
 refine eEA (hvs.get hv) fun x hx hvx => ?_
 have hk : k.toNat < xs.length := (List.getElem?_eq_some_iff.mp hv).1
 have hz : items.size = xs.length := by have := hvs.length; simp at this; exact Nat.add_right_cancel (congrFun (congrArg HAdd.hAdd (id (Eq.symm this))) a)
 have hj : seqIndex? k items.size = some k.toNat := seqIndex_at h0 (by lia)
 exact tail_any ⟨_,ho,rfl⟩ F.slot_tuple_getitem.lookup (P.getItem_tuple ho (by lia) (by unfold sizeLine at hsz; lia) hj (by simpa using hx) (.here S hvx h)) (hs _ _)
theorem set_list {l : Addr} {xs : List V} {k : Int} {v : V} {QU : Loc→CH→Prop} (hl : H l = some (.list xs)) (h0 : 0≤k) (hk : k < xs.length) (hsz : xs.length≤sizeLine) (h : QU m (H.set l (.list (xs.set k.toNat v)))) :
  O3 C A setItem (.ref l) (.int k) v m H QU := fun s r q p S hr hq hp => by
 refine rE hr.ref_inv ?_; (refine eE hq.int_inv fun u zz1 => ?_; subst zz1)
 obtain ⟨items,n,hI,hvs,hz⟩ := S.toHS.list (.own hl)
 unfold setItem
 try with_reducible refine wpAny_holding ?_
 first | refine wpAny_bind (wpAny_pure ?_) | skip
 refine wpAny_bind (wpAny_sequenceKey hI.isList.typeIs (by decide) ?_)
 refine wpAny_bind (wpAny_callSpecial?_slot (name := Str.ofString "__setitem__") hI.isList.typeIs slot_list_setitem
  (wpAny_call_entry slot_list_setitem hI.isList.typeIs entry_list_setitem ?_ (args_list_setitem _ _ _)))
 show wpAny _ _ (Builtin.List.listSubscript? (.int k u) >>= _) _ _ s
 refine wpAny_bind (wpAny_listSubscript_int (fitsIndex_of h0 (by unfold sizeLine at hsz; lia)) ?_)
 refine eE (Int.eq_ofNat_of_zero_le h0) fun j zz1 => ?_; subst zz1
 have hj : j < items.size := by lia
 have hx' : items[j]? = some items[j] := Array.getElem?_eq_getElem hj
 show wpAny _ _ ((seqItemAt l j >>= fun r => pure (r.map (j,·))) >>= _) _ _ s
 refine wpAny_bind (wpAny_bind (wpAny_seqItemAt hI rfl (wpAny_pure ?_)))
 refine rE hx' ?_
 have fin : PA C H s (fun _ => QU) () { s with heap := s.heap.update l (Obj.mapSeq (·.setIfInBounds j p)) } := by
  refine ⟨m,_,S.upd (tk := s.toks) (c' := .list (xs.set j v)) hl (Heap.SameBut.update ..) (hI.update _) ⟨_,_,rfl,?_⟩,.upd hl (Heap.SameBut.update ..) (hI.update _),h⟩
  refine rE Array.toList_setIfInBounds ?_; exact hvs.set j hp
 first
  | exact wpAny_bind (wpAny_setSeqItemAt hI rfl (wpAny_pure ⟨_,rfl,wpAny_pure fin⟩))
  | exact wpAny_bind (wpAny_setSeqItemAt hI rfl (wpAny_bind (wpAny_pure (wpAny_pure ⟨_,rfl,wpAny_pure fin⟩))))
  | exact wpAny_setSeqItemAt hI rfl (wpAny_pure ⟨_,rfl,wpAny_pure fin⟩)
end
end
end Mine
end
section
open PySem PySem.Calls PySem.W PyProof.Rows
set_option maxRecDepth 100000
namespace Mine
noncomputable section
section
variable {C : Cx} {A : Around} {m : Loc} {H : CH} {s : Shared}
noncomputable def Turn (Q : Fl→Loc→CH→Prop) (J : Loc→CH→Prop) (fl : Fl) (m₂ : Loc) (H₂ : CH) : Prop := match fl with
 | .next | .cont => J m₂ H₂
 | .brk => Q .next m₂ H₂
 | .ret v => Q (.ret v) m₂ H₂
inductive NextJ (J : Nat→Loc→CH→Prop) (i : Nat) (m : Loc) (H : CH) : Prop
 | mk (m₃ : Loc) (hs : Sub m₃ m) (h : J i m₃ H) : NextJ J i m H
inductive LessJ (J : Nat→Loc→CH→Prop) (n : Nat) (m : Loc) (H : CH) : Prop
 | mk (k : Nat) (m₃ : Loc) (hk : k < n) (hs : Sub m₃ m) (h : J k m₃ H) : LessJ J n m H
theorem ES_while {test : PySem.Expr} {body orelse : List Stmt} {p : Pos} {Q : Fl→Loc→CH→Prop} (I : Nat→Loc→CH→Prop) (n : Nat) (m' : Loc) (hs : Sub m' m) (h0 : I n m' H)
  (turn : ∀ n m H,I n m H→EB C A test m H fun b m₁ H₁ => (b = true→EX C A body m₁ H₁ (Turn Q (LessJ I n)))∧(b = false→EX C A orelse m₁ H₁ Q)) :
  ES C A (.While test body orelse p) m H Q := fun s S => by
 refine wpAny_While (codeAny_whileLoop (fun k s' => ∃ m₁ H₁,St C m₁ H₁ s'∧After C H s H₁ s'∧I k m₁ H₁) ?_ n ⟨m',H,S.sub hs,.refl ..,h0⟩)
 rintro k s₁ ⟨m₁,H₁,S₁,af₁,hI⟩
 refine wpAny_noRaise (wpAny_mono (turn k m₁ H₁ hI s₁ S₁) ?_ fun _ _ x => x)
 rintro b s₂ ⟨m₂,H₂,S₂,af₂,h₂⟩
 cases b with
 | false =>
  simp only [Bool.false_eq_true,if_false]
  exact wpAny_noRaise (wpAny_mono (h₂.2 rfl s₂ S₂) (fun _ _ x => (x.mono S₂ (af₁.then S₁ af₂))) fun _ _ x => x)
 | true =>
  simp only [if_true]
  refine wpAny_noRaise (wpAny_mono (h₂.1 rfl s₂ S₂) ?_ fun _ _ x => x)
  rintro f s₃ ⟨fl,m₃,H₃,hf,S₃,af₃,h₃⟩
  have af : After C H s H₃ s₃ := (af₁.then S₁ af₂).then S₂ af₃
  cases fl with
  | next => cases hf; obtain ⟨j,m₄,hj,hs₄,hI₄⟩ := h₃; exact ⟨j,hj,m₄,H₃,S₃.sub hs₄,af,hI₄⟩
  | cont => cases hf; obtain ⟨j,m₄,hj,hs₄,hI₄⟩ := h₃; exact ⟨j,hj,m₄,H₃,S₃.sub hs₄,af,hI₄⟩
  | brk => cases hf; exact ⟨.next,m₃,H₃,rfl,S₃,af,h₃⟩
  | ret v => obtain ⟨r,rfl,hr⟩ := hf; exact ⟨.ret v,m₃,H₃,⟨r,rfl,hr⟩,S₃,af,h₃⟩
inductive NextR (I : Addr) (ob : Nat→Heap→Obj→Prop) (i : Nat) (v : V) (s : Shared) (r : Option Value) (s' : Shared) : Prop
 | mk (rv : Value) (h' : Heap) (tk : Nat) (o' : Obj) (e1 : r = some rv) (e2 : s' = { s with heap := h',toks := tk }) (hv : VR h' v rv) (hx : Heap.ExtBut I s.heap h') (ho : h'.get? I = some o') (hob : ob (i + 1) s.heap o') : NextR I ob i v s r s'
inductive DoneR (I : Addr) (s : Shared) (r : Option Value) (s' : Shared) : Prop
 | mk (h' : Heap) (tk : Nat) (e1 : r = none) (e2 : s' = { s with heap := h',toks := tk }) (hx : Heap.ExtBut I s.heap h') : DoneR I s r s'
structure Prot (C : Cx) (A : Around) (I : Addr) (ob : Nat→Heap→Obj→Prop) (nx : CH→Nat→Option (Option V)) : Prop where
 plain : ∀ i h o,ob i h o→¬ Imm o
 nodict : ∀ i h o es ep,ob i h o→o.data≠.dict es ep
 kept : ∀ i h h' o,TupKeep h h'→ob i h o→ob i h' o
 item : ∀ H s i o v,HS C H s→H I = none→s.heap.get? I = some o→ob i s.heap o→nx H i = some (some v) →
  wpAny (model C.prog C.w) A (pyNext (.ref I)) (NextR I ob i v s) NoE s
 done : ∀ H s i o,HS C H s→H I = none→s.heap.get? I = some o→ob i s.heap o→nx H i = some none →
  wpAny (model C.prog C.w) A (pyNext (.ref I)) (DoneR I s) NoE s
 own : ∀ (target : PySem.Expr) (v : Value) (s : Shared) (i : Nat) (h : Heap) (o : Obj) (Q : Unit→Shared→Prop),s.heap.get? I = some o→ob i h o→Q () s→wpAny (model C.prog C.w) A (letOwnedTupleGo target (.ref I) v) Q NoE s
 self : ∀ (s : Shared) (i : Nat) (h : Heap) (o : Obj) (E : Value→Shared→Prop) (Q : Value→Shared→Prop),s.heap.get? I = some o→ob i h o→Q (.ref I) s→wpAny (model C.prog C.w) A (pyIter (.ref I)) Q E s
theorem tup_ext {I : Addr} {h h' : Heap} {o : Obj} (ho : h.get? I = some o) (hp : ¬ Imm o) (he : Heap.ExtBut I h h') : TupKeep h h' := fun b o' i e =>
 he b _ (fun q => by subst q; rw [ho] at e; cases e; exact hp i) e
inductive IterR (C : Cx) (A : Around) (nx : CH→Nat→Option (Option V)) (s : Shared) (ri : Value) (s' : Shared) : Prop
 | mk (I : Addr) (ob : Nat→Heap→Obj→Prop) (h' : Heap) (tk : Nat) (o : Obj) (e1 : ri = .ref I) (e2 : s' = { s with heap := h',toks := tk }) (hk : ∀ b o,s.heap.get? b = some o→h'.get? b = some o) (hI : s.heap.get? I = none) (ho : h'.get? I = some o) (hob : ob 0 h' o) (P : Prot C A I ob nx) : IterR C A nx s ri s'
noncomputable def Iterable (C : Cx) (A : Around) (v : V) (H : CH) (nx : CH→Nat→Option (Option V)) : Prop := ∀ s r,HS C H s→VR s.heap v r →
 wpAny (model C.prog C.w) A (pyIter r) (IterR C A nx s) NoE s
inductive ForI (C : Cx) (ob : Nat→Heap→Obj→Prop) (J : Nat→Loc→CH→Prop) (I : Addr) (N : Nat) (H : CH) (s : Shared) (k : Nat) (s' : Shared) : Prop
 | mk (i : Nat) (m' : Loc) (H' : CH) (o : Obj) (hk : k = N + 1 - i) (hS : St C m' H' s') (ha : After C H s H' s') (hI : H' I = none) (ho : s'.heap.get? I = some o) (hob : ob i s'.heap o) (hJ : J i m' H') : ForI C ob J I N H s k s'
theorem for_core {target : PySem.Expr} {body orelse : List Stmt} {Q : Fl→Loc→CH→Prop} {I : Addr} {ob : Nat→Heap→Obj→Prop} {nx : CH→Nat→Option (Option V)} {N : Nat} {J : Nat→Loc→CH→Prop} {R : Result→Shared→Prop}
  (P : Prot C A I ob nx) (hIl : I≠C.env.locals) (hIb : C.h₀.get? I = none)
  (hidA : ∀ {H' : CH} {s' : Shared} {h' : Heap} {tk : Nat} {o : Obj},After C H s H' s'→Heap.ExtBut I s'.heap h'→h'.get? I = some o→After C H s H' { s' with heap := h',toks := tk })
  (done : ∀ m' H' s' i o,St C m' H' s'→After C H s H' s'→H' I = none→s'.heap.get? I = some o→ob i s'.heap o→nx H' i = some none→wpAny (model C.prog C.w) A (pyNext (.ref I)) (fun r s'' => DoneR I s' r s''∧After C H s H' s'') NoE s')
  (turn : ∀ i m H,J i m H→i≤N∧((∃ v,nx H i = some (some v)∧ASG C A target v m H fun m' H' => EX C A body m' H' (Turn Q (NextJ J (i + 1))))∨(nx H i = some none∧EX C A orelse m H Q)))
  (fin : ∀ f s',PF C H s Q f s'→R (.ok f) s') {k : Nat} {s₁ : Shared} (h : ForI C ob J I N H s k s₁) : codeAny (model C.prog C.w) A (.forLoop target (.ref I) body orelse C.env) R s₁ := by
 refine codeAny_forLoop_any (ForI C ob J I N H s) ?_ k h
 rintro k s₃ ⟨i,m₃,H₃,o3,rfl,S₃,af₃,hI3,hob3,hoi3,hJ3⟩
 refine eA (turn i m₃ H₃ hJ3) fun hN h3 => ?_
 rcases h3 with ⟨x,hx,hasg⟩ | ⟨hx,hq⟩
 ·refine wpAny_noRaise (wpAny_mono (P.item H₃ s₃ i o3 x S₃.toHS hI3 hob3 hoi3 hx) ?_ fun _ _ x => x)
  rintro r s₄ ⟨rx,h4,tk4,o4,rfl,rfl,hvx,he,hob4,hoi4⟩
  have S₄ : St C m₃ H₃ { s₃ with heap := h4,toks := tk4 } := S₃.hid hob3 hI3 hIb (fun es ep => P.nodict i _ o3 es ep hoi3) (P.plain i _ o3 hoi3) he
  have af₄ : After C H s H₃ { s₃ with heap := h4,toks := tk4 } := hidA af₃ he hob4
  refine wpAny_noRaise (P.own target rx _ (i + 1) _ o4 _ hob4 hoi4 ?_)
  refine wpAny_noRaise (wpAny_mono (hasg _ rx S₄ hvx) ?_ fun _ _ x => x)
  rintro _ s₅ ⟨m₅,H₅,S₅,af₅,h₅⟩
  refine wpAny_noRaise (wpAny_mono (h₅ s₅ S₅) ?_ fun _ _ x => x)
  rintro f s₆ ⟨fl,m₆,H₆,hf,S₆,af₆,h₆⟩
  have af : After C H s H₆ s₆ := (af₄.then S₄ af₅).then S₅ af₆
  have again : NextJ J (i + 1) m₆ H₆→∃ k,k < N + 1 - i∧ForI C ob J I N H s k s₆ := by
   rintro ⟨m₇,hs7,hJ7⟩
   have a5 := af₅.grow I _ hI3 hob4
   refine eEA (af₅.stay I _ hIl hI3 hob4) fun o5 b5 k5 => ?_
   rw [k5.exact (fun es ep => P.nodict _ _ o4 es ep hoi4)] at b5
   refine eEA (af₆.stay I _ hIl a5 b5) fun o6 b6 k6 => ?_
   rw [k6.exact (fun es ep => P.nodict _ _ o4 es ep hoi4)] at b6
   exact ⟨N + 1 - (i + 1),by grind,i + 1,m₇,H₆,o4,rfl,S₆.sub hs7,af,af₆.grow I _ a5 b5,b6,P.kept _ _ _ _ (((tup_ext hob3 (P.plain i _ o3 hoi3) he).trans (af₅.tup S₄)).trans (af₆.tup S₅)) hoi4,hJ7⟩
  cases fl with
  | next => cases hf; exact again h₆
  | cont => cases hf; exact again h₆
  | brk => cases hf; exact fin _ _ ⟨.next,m₆,H₆,rfl,S₆,af,h₆⟩
  | ret v => obtain ⟨r,rfl,hr⟩ := hf; exact fin _ _ ⟨.ret v,m₆,H₆,⟨r,rfl,hr⟩,S₆,af,h₆⟩
 ·refine wpAny_noRaise (wpAny_mono (done m₃ H₃ s₃ i o3 S₃ af₃ hI3 hob3 hoi3 hx) ?_ fun _ _ x => x)
  rintro r s₄ ⟨⟨h4,tk4,rfl,rfl,he⟩,af₄⟩
  have S₄ : St C m₃ H₃ { s₃ with heap := h4,toks := tk4 } := S₃.hid hob3 hI3 hIb (fun es ep => P.nodict i _ o3 es ep hoi3) (P.plain i _ o3 hoi3) he
  exact wpAny_noRaise (wpAny_mono (hq _ S₄) (fun _ _ x => fin _ _ (x.mono S₄ af₄)) fun _ _ x => x)
theorem ES_for {target iter : PySem.Expr} {body orelse : List Stmt} {p : Pos} {Q : Fl→Loc→CH→Prop}
  (h : EV C A iter m H fun v m₁ H₁ => ∃ (nx : CH→Nat→Option (Option V)) (N : Nat) (m₂ : Loc) (J : Nat→Loc→CH→Prop),Iterable C A v H₁ nx∧Sub m₂ m₁∧J 0 m₂ H₁∧∀ i m H,J i m H→i≤N ∧
   ((∃ v,nx H i = some (some v)∧ASG C A target v m H fun m' H' => EX C A body m' H' (Turn Q (NextJ J (i + 1))))∨(nx H i = some none∧EX C A orelse m H Q)))
  (hs : autoParam (∀ x,foldedSetIterable iter C.env x = pure x) Mine.syn2) : ES C A (.For target iter body orelse p) m H Q := fun s S => by
 refine wpAny_For (wpAny_mono (h s S) ?_ fun _ _ x => x) hs
 rintro r s₁ ⟨v,m₁,H₁,rv,S₁,af₁,nx,N,m₂,J,it,hsub,hJ,turn⟩
 refine wpAny_noRaise (wpAny_mono (it s₁ r S₁.toHS rv) ?_ fun _ _ x => x)
 rintro ri s₂ ⟨I,ob,h',tk,o0,rfl,rfl,hk,hI,hob,hob0,P⟩
 have hIl : I≠C.env.locals := fun e => by refine eE S₁.at_loc fun o e' => ?_; rw [← e,hI] at e'; cases e'
 have hIb : C.h₀.get? I = none := by
  exact S₁.base_none hI
 have hI1 : H₁ I = none := by
  exact S₁.own_none hI
 have hI0 : s.heap.get? I = none := by
  exact af₁.there_none hI
 refine for_core P hIl hIb (fun a he _ => a.hid hI0 he) (fun m' H' s' i o S' a hI ho hob hn => wpAny_mono (P.done H' s' i o S'.toHS hI ho hob hn) ?_ fun _ _ x => x) turn (fun _ _ x => x) (k := N + 1)
  ⟨0,m₂,H₁,_,rfl,(S₁.more hk).sub hsub,af₁.then S₁ (.more hk),hI1,hob,hob0,hJ⟩
 rintro r s'' ⟨h4,tk4,rfl,rfl,he⟩
 exact ⟨⟨h4,tk4,rfl,rfl,he⟩,a.hid hI0 he⟩
theorem ES_expr {e : PySem.Expr} {p : Pos} {Q : Fl→Loc→CH→Prop} (h : EV C A e m H (KNext Q)) (hi : autoParam (interactive C.env = false) Mine.syn1) (hs : autoParam (swapsWith e none p.line C.env = pure false) Mine.syn1) : ES C A (.Expr e p) m H Q := fun s S => by
 refine wpAny_Expr_any (wpAny_mono (h s S) ?_ fun _ _ x => x) hi hs
 rintro r s₁ ⟨v,m₁,H₁,rv,S₁,af₁,h₁⟩
 exact ⟨.next,m₁,H₁,rfl,S₁,af₁,h₁⟩
theorem EX_exs {e : PySem.Expr} {rest : List Stmt} {p : Pos} {Q : Fl→Loc→CH→Prop} (h : EV C A e m H (KExs C A rest Q)) (hi : autoParam (interactive C.env = false) Mine.syn1) (hs : autoParam (swapsWith e none p.line C.env = pure false) Mine.syn1) : EX C A (.Expr e p :: rest) m H Q :=
 EX_cons (ES_expr h hi hs)
theorem ASG_sub {o i : PySem.Expr} {p : Pos} {v : V} {Q : Loc→CH→Prop} (h : EV C A o m H (KE3 C A i setItem v Q)) : ASG C A (.Subscript o i p) v m H Q := fun s r S hv => by
 refine rE (assign_Subscript ..) ?_
 refine wpAny_bind (wpAny_holding (wpAny_mono (h s S) ?_ fun _ _ x => x))
 rintro a s₁ ⟨ov,m₁,H₁,ra,S₁,af₁,h₁⟩
 refine wpAny_bind (wpAny_holding (wpAny_mono (h₁ s₁ S₁) ?_ fun _ _ x => x))
 rintro b s₂ ⟨iv,m₂,H₂,rb,S₂,af₂,h₂⟩
 refine wpAny_bind (wpAny_standAt (wpAny_bind (wpAny_holding (wpAny_mono (h₂ s₂ a b r S₂ (ra.keep (af₂.tup S₁)) rb ((hv.keep (af₁.tup S)).keep (af₂.tup S₁))) ?_ fun _ _ x => x))))
 rintro _ s₃ x
 have := x.mono S₂ (af₁.then S₁ af₂)
 exact fun Γ p hΓ => by refine rE (Sem.wp_release ..) ?_; exact this
end
end
end Mine
end
section
open PySem PySem.Calls PySem.W PyProof.Rows
set_option maxRecDepth 100000
namespace Mine
noncomputable section
section
variable {C : Cx} {A : Around} {m : Loc} {H : CH} {s : Shared}
noncomputable def KWs (h : Heap) (kws : List (Str × V)) (rkw : List (Str × Value)) : Prop := rkw.map (·.1) = kws.map (·.1)∧VRs h (kws.map (·.2)) (rkw.map (·.2))
theorem KWs.keep {h h' : Heap} (k : TupKeep h h') {kws : List (Str × V)} {rkw : List (Str × Value)} (x : KWs h kws rkw) : KWs h' kws rkw := ⟨x.1,x.2.keep k⟩
theorem KWs.nil {h : Heap} : KWs h [] [] := ⟨rfl,.nil⟩
theorem KWs.nil_inv {h : Heap} {rkw : List (Str × Value)} (x : KWs h [] rkw) : rkw = [] := List.map_eq_nil_iff.mp x.1
noncomputable def CALL (C : Cx) (A : Around) (f : V) (vs : List V) (kws : List (Str × V)) (H : CH) (Q : V→CH→Prop) : Prop := ∀ s rf rs rkw,HS C H s→Frs C H s→VR s.heap f rf→VRs s.heap vs rs→KWs s.heap kws rkw →
 codeAny (model C.prog C.w) A (.call rf ⟨rs,rkw⟩) (fun r s' => match r with | .ok (.ret rv) => ∃ v H',VR s'.heap v rv∧HS C H' s'∧AfterC H s H' s'∧Q v H' | _ => False) s
noncomputable def CV (C : Cx) (A : Around) (f : V) (vs : List V) (kws : List (Str × V)) (m : Loc) (H : CH) (Q : V→Loc→CH→Prop) : Prop := ∀ s rf rs rkw,St C m H s→VR s.heap f rf→VRs s.heap vs rs→KWs s.heap kws rkw →
 wpAny (model C.prog C.w) A (call rf rs rkw) (PV C H s Q) NoE s
theorem St.called {H' : CH} {s' : Shared} (S : St C m H s) (S' : HS C H' s') (a : AfterC H s H' s') : St C m H' s' := by
 refine eEA S.ns fun mr hn k => ?_
 obtain ⟨o,es,ep,ho,hd,hk,hf⟩ := hn
 refine eEA (a.stay _ o S.loc ho) fun o' ho' kin => ?_
 exact ⟨S',⟨mr,⟨o',es,ep,ho',kin.data.trans hd,hk,hf⟩,k.keep (a.tup S.toHS)⟩,a.grow _ o S.loc ho,S.locb,S.frs.after a⟩
theorem CALL_hide {f : V} {vs : List V} {kws : List (Str × V)} {T : V→CH→Prop} (h : ∀ R : V→CH→Prop,(∀ v H',T v H'→R v H')→CALL C A f vs kws H R) : CALL C A f vs kws H T := h T fun _ _ h => h
noncomputable abbrev KAt (m : Loc) (Q : V→Loc→CH→Prop) : V→CH→Prop := fun v H => Q v m H
theorem CV_of {f : V} {vs : List V} {kws : List (Str × V)} {Q : V→Loc→CH→Prop} (h : CALL C A f vs kws H (KAt m Q)) : CV C A f vs kws m H Q := fun s rf rs rkw S hf hv hk => by
 refine wpAny_call (codeAny_mono (h s rf rs rkw S.toHS S.frs hf hv hk) ?_)
 rintro r s' x
 cases r with
 | error e => exact x.elim
 | ok f =>
  cases f with
  | ret rv => obtain ⟨v,H',a,b,c,d⟩ := x; exact ⟨v,m,H',a,S.called b c,c.after,d⟩
  | next => exact x.elim
  | brk => exact x.elim
  | cont => exact x.elim
theorem CALL.mono {f : V} {vs : List V} {kws : List (Str × V)} {Q Q' : V→CH→Prop} (h : CALL C A f vs kws H Q) (q : ∀ v H',Q v H'→Q' v H') : CALL C A f vs kws H Q' := fun s rf rs rkw S F hf hv hk => by
 refine codeAny_mono (h s rf rs rkw S F hf hv hk) ?_
 rintro r s' x
 cases r with
 | error e => exact x.elim
 | ok f =>
  cases f with
  | ret rv => obtain ⟨v,H',a,b,c,d⟩ := x; exact ⟨v,H',a,b,c,q _ _ d⟩
  | next => exact x.elim
  | brk => exact x.elim
  | cont => exact x.elim
noncomputable def KP (C : Cx) (f : V) (H : CH) : Prop := ∀ s rf,HS C H s→VR s.heap f rf→∃ k,Looks (model C.prog C.w) s.heap (keeperOf rf) k
theorem KP_built {id : String} : KP C (.con (.builtin id)) H := fun s rf S hf => ⟨.machine,by refine rE hf.con_inv ?_; exact Looks.of_pure rfl⟩
theorem KP_type {n : String} : KP C (.con (.type n)) H := fun s rf S hf => ⟨.machine,by refine rE hf.con_inv ?_; exact Looks.of_pure rfl⟩
theorem looks_keeper_fn {M : Model} {h : Heap} {a : Addr} {o : Obj} {fd : FuncData} (e : h.get? a = some o) (hd : o.data = .func fd) : Looks M h (keeperOf (.ref a)) .frame := by
 intro A Q E s k q
 unfold keeperOf
 refine wpAny_bind (wpAny_load (k _ _ e) ?_)
 refine rE hd ?_; exact wpAny_pure q
theorem KP_fn {a : Addr} {o : Obj} {fd : FuncData} (e : C.h₀.get? a = some o) (hd : o.data = .func fd) : KP C (.con (.ref a)) H := fun s rf S hf => by
 refine rE hf.con_inv ?_; exact ⟨.frame,looks_keeper_fn (S.base _ _ e) hd⟩
theorem callWith_any {M : Model} {E : Value→Shared→Prop} {pos : Pos} {f : Value} {first : List Value} {args : List (Bool × Sem Value)} {kws : List (Option Str × Sem Value)} {Q : Value→Shared→Prop}
  (h : wpAny M A (evalArgs f true args kws) (fun a s₁ => ∃ k,Looks M s₁.heap (keeperOf f) k∧wpAny M A (call f (first ++ a.pos) a.kw) Q E s₁) E s) : wpAny M A (callWith pos f first args kws) Q E s := by
 unfold callWith
 refine wpAny_bind (wpAny_holding (wpAny_mono h (fun a s₁ h₁ => wpAny_bind (wpAny_standAt ?_)) fun _ _ x => x))
 refine eEA h₁ fun k L hc => ?_
 refine wpAny_bind (L.here ?_)
 have tail : ∀ {t : Sem Value},wpAny M A t Q E s₁→wpAny M A (t >>= fun r => holding [r] point >>= fun _ => pure r) Q E s₁ :=
  fun ht => wpAny_bind (wpAny_mono ht (fun r s₂ hr => wpAny_bind (wpAny_holding (wpAny_point (wpAny_pure hr)))) fun _ _ x => x)
 have marked (mk : Value) : wpAny M A (callMarked mk f (first ++ a.pos) a.kw) Q E s₁ := by unfold callMarked; exact Calls.wpAny_keep hc
 cases k <;> cases (args.any (·.1) || kws.any (·.1.isNone)) <;> dsimp only <;> first
  | exact tail (marked _)
  | exact tail hc
  | exact tail (wpAny_operating hc)
  | (split <;> first | exact tail hc | exact tail (marked _))
theorem evalArgs_gen {M : Model} {E : Value→Shared→Prop} {f : Value} {args : List (Bool × Sem Value)} {Q : Args→Shared→Prop} (hne : (args.head?.map (·.1)).getD false = false)
  (h : wpAny M A (spliced args) (fun vs s' => Q ⟨vs,[]⟩ s') E s) : wpAny M A (evalArgs f true args []) Q E s := by
 match args,hne,h with
 | (false,x) :: r,_,h => exact evalArgs_plain h
 | [],_,h =>
  unfold evalArgs
  show wpAny M A (spliced [] >>= _) Q E s
  refine wpAny_bind (wpAny_mono h (fun vs s' h' => ?_) fun _ _ x => x)
  refine wpAny_bind (wpAny_pure ?_)
  refine wpAny_holding ?_
  exact wpAny_bind (wpAny_pure (wpAny_bind (wpAny_pure (wpAny_pure h'))))
theorem evalArgs_of {f : Value} {es : List PySem.Expr} {pos : Pos} {Q : List V→Loc→CH→Prop} {Q' : Args→Shared→Prop} (h : EL C A es m H Q) (hst : ((backTo pos (starEach es C.env)).head?.map (·.1)).getD false = false) (S : St C m H s)
  (hq : ∀ rs s',PL C H s Q rs s'→Q' ⟨rs,[]⟩ s') : wpAny (model C.prog C.w) A (evalArgs f true (backTo pos (starEach es C.env)) (backToKw pos (keywordEach [] C.env))) Q' NoE s :=
 evalArgs_gen hst (wpAny_mono (h s pos S) (fun rs s' x => hq rs s' x) fun _ _ x => x)
noncomputable abbrev NoLone (C : Cx) (es : List PySem.Expr) : Prop := ∀ pos,((backTo pos (starEach es C.env)).head?.map (·.1)).getD false = false
noncomputable abbrev KCl (C : Cx) (A : Around) (Q : V→Loc→CH→Prop) (f : V) : List V→Loc→CH→Prop := fun vs m H => KP C f H∧CV C A f vs [] m H Q
noncomputable abbrev KCa (C : Cx) (A : Around) (args : List PySem.Expr) (Q : V→Loc→CH→Prop) : V→Loc→CH→Prop := fun f m H => EL C A args m H (KCl C A Q f)
theorem EV_call {func : PySem.Expr} {args : List PySem.Expr} {p : Pos} {Q : V→Loc→CH→Prop} (h : EV C A func m H (KCa C A args Q))
  (hst : autoParam (NoLone C args) Mine.syn2)
  (he : autoParam (eval (.Call func args [] p) C.env = (do callWith p (← eval func C.env) [] (backTo p (starEach args C.env)) (backToKw p (keywordEach [] C.env)))) Mine.syn1) : EV C A (.Call func args [] p) m H Q := fun s S => by
 refine rE he ?_
 refine wpAny_bind (wpAny_mono (h s S) ?_ fun _ _ x => x)
 rintro rf s₁ ⟨f,m₁,H₁,vf,S₁,af₁,h₁⟩
 refine callWith_any (evalArgs_of h₁ (hst p) S₁ ?_)
 rintro rs s₂ ⟨vs,m₂,H₂,vr,S₂,af₂,hk,h₂⟩
 have vf₂ := vf.keep (af₂.tup S₁)
 obtain ⟨k,L⟩ := hk s₂ rf S₂.toHS vf₂
 exact ⟨k,L,wpAny_mono (h₂ s₂ rf rs [] S₂ vf₂ vr .nil) (fun _ _ x => x.mono S₂ (af₁.then S₁ af₂)) fun _ _ x => x⟩
noncomputable def GM (C : Cx) (A : Around) (o : V) (name : Str) (m : Loc) (H : CH) (Q : V→List V→Prop) : Prop := ∀ s ro (pl : Sem Bool),St C m H s→VR s.heap o ro →
 wpAny (model C.prog C.w) A (getMethod ro name pl) (fun r s' => ∃ f first,VR s'.heap f r.1∧VRs s'.heap first r.2∧s'.heap = s.heap∧s'.gens = s.gens∧s'.drawn = s.drawn∧s'.os = s.os∧Q f first) NoE s
noncomputable abbrev KMl (C : Cx) (A : Around) (Q : V→Loc→CH→Prop) (f : V) (first : List V) : List V→Loc→CH→Prop := fun vs m H => KP C f H∧CV C A f (first ++ vs) [] m H Q
noncomputable abbrev KMe (C : Cx) (A : Around) (args : List PySem.Expr) (m : Loc) (H : CH) (Q : V→Loc→CH→Prop) : V→List V→Prop := fun f first => EL C A args m H (KMl C A Q f first)
noncomputable abbrev KMo (C : Cx) (A : Around) (name : Str) (args : List PySem.Expr) (Q : V→Loc→CH→Prop) : V→Loc→CH→Prop := fun ov m H => GM C A ov name m H (KMe C A args m H Q)
theorem EV_meth {o : PySem.Expr} {name : Str} {apos p : Pos} {args : List PySem.Expr} {Q : V→Loc→CH→Prop}
  (h : EV C A o m H (KMo C A name args Q))
  (hst : autoParam (NoLone C args) Mine.syn2)
  (hb : autoParam (∀ whole,attributeBase o name C.env whole = whole) Mine.syn2) (hn : autoParam (methodCallForm (args.length + 0) (backTo p (starEach args C.env)) [] = true) Mine.syn1)
  (hp : autoParam (apos.endLine == p.line) Mine.syn1) : EV C A (.Call (.Attribute o name apos) args [] p) m H Q := fun s S => by
 have he : eval (.Call (.Attribute o name apos) args [] p) C.env = (do
   let ov ← attributeBase o name C.env (eval o C.env)
   standAt apos.atName
   methodCall o name apos p C.env ov (args.length + 0) (backTo p (starEach args C.env)) []) := rfl
 refine rE he (rE (hb ..) ?_)
 refine wpAny_bind (wpAny_mono (h s S) ?_ fun _ _ x => x)
 rintro ro s₁ ⟨ov,m₁,H₁,vo,S₁,af₁,h₁⟩
 refine wpAny_bind (wpAny_standAt ?_)
 unfold methodCall
 refine rE hn ?_
 refine wpAny_bind (wpAny_holding ?_)
 show wpAny _ _ (getMethod ro name _) _ _ s₁
 refine wpAny_mono (h₁ s₁ ro _ S₁ vo) ?_ fun _ _ x => x
 rintro ⟨rf,rfirst⟩ s₂ ⟨f,first,vf,vfi,hh,hg,hd,ho,h₂⟩
 have hq : methodCallPos true o C.env apos p = pure p := by unfold methodCallPos; refine rE hp ?_; rfl
 refine rE hq ?_
 refine wpAny_bind (wpAny_pure ?_)
 have S₂ : St C m₁ H₁ s₂ := ⟨⟨by refine rE hh ?_; exact S₁.base,by refine rE hh ?_; exact S₁.own,hg.trans S₁.gens⟩,by refine rE hh ?_; exact S₁.ns,S₁.loc,S₁.locb,by unfold Frs; refine rE hh ?_; exact S₁.frs⟩
 have af₂ : After C H s H₁ s₂ := ⟨by refine rE hh ?_; exact af₁.stay,af₁.grow,by refine rE hh ?_; exact af₁.there,rfl,ho.trans af₁.os⟩
 refine callWith_any (evalArgs_of h₂ (hst p) S₂ ?_)
 rintro rs s₃ ⟨vs,m₃,H₃,vr,S₃,af₃,hk,h₃⟩
 have vf₃ := vf.keep (af₃.tup S₂)
 obtain ⟨k,L⟩ := hk s₃ rf S₃.toHS vf₃
 exact ⟨k,L,wpAny_mono (h₃ s₃ rf _ [] S₃ vf₃ ((vfi.keep (af₃.tup S₂)).append vr) .nil) (fun _ _ x => x.mono S₃ (af₂.then S₂ af₃)) fun _ _ x => x⟩
noncomputable def Binds (C : Cx) (H : CH) (fd : FuncData) (vs : List V) (kws : List (Str × V)) (binds : List (Str × V)) : Prop := ∀ s rs rkw,HS C H s→VRs s.heap vs rs→KWs s.heap kws rkw →
 ∃ rb : List (Str × Value),BindsTo s fd ⟨rs,rkw⟩ rb∧KWs s.heap binds rb
theorem lookup_kws {h : Heap} : ∀ {binds : List (Str × V)} {rb : List (Str × Value)},KWs h binds rb→∀ {x : Str} {v : V},binds.lookup x = some v→∃ r,rb.lookup x = some r∧VR h v r
 | [],_,_,x,v,e => by simp at e
 | (y,w) :: b,rb,k,x,v,e => by
  obtain ⟨k1,k2⟩ := k
  cases rb with
  | nil => simp at k1
  | cons q rb =>
   obtain ⟨z,r⟩ := q
   simp only [List.map_cons,List.cons.injEq] at k1 k2
   obtain ⟨rfl,k1⟩ := k1
   rw [List.lookup_cons] at e ⊢
   cases hb : x == z with
   | true => rw [hb] at e; cases e; exact ⟨r,rfl,k2.head⟩
   | false => rw [hb] at e; exact lookup_kws ⟨k1,k2.tail⟩ e
theorem VRs.rev {h : Heap} : ∀ {xs : List V} {vs : List Value},VRs h xs vs→VRs h xs.reverse vs.reverse
 | [],vs,r => by have := r.nil_inv; subst this; exact .nil
 | x :: xs,vs,r => by
  refine eEEAA r.cons_inv fun y ys zz2 a b => ?_; subst zz2
  refine rE List.reverse_cons (rE List.reverse_cons ?_)
  exact b.rev.append (.cons a .nil)
theorem KWs.rev {h : Heap} {binds : List (Str × V)} {rb : List (Str × Value)} (k : KWs h binds rb) : KWs h binds.reverse rb.reverse :=
 ⟨by refine rE List.map_reverse (rE List.map_reverse (rE k.1 rfl)),by refine rE List.map_reverse (rE List.map_reverse ?_); exact k.2.rev⟩
noncomputable abbrev Cx.at (C : Cx) (env : Env) : Cx := { C with env := env,fr := env :: C.fr }
theorem HS.at {env : Env} (S : HS C H s) : HS (C.at env) H s := ⟨S.base,S.own,S.gens⟩
theorem HS.back {env : Env} (S : HS (C.at env) H s) : HS C H s := ⟨S.base,S.own,S.gens⟩
noncomputable def retOf : Fl→V
 | .ret v => v
 | _ => V.none
theorem CALL_def {f : Addr} {o : Obj} {fd : FuncData} {body : List Stmt} {vs : List V} {kws binds : List (Str × V)} {m' : Loc} {Q : V→CH→Prop}
  (ho : C.h₀.get? f = some o) (hd : o.data = .func fd) (hlim : C.h₀.NoLimit) (hcd : C.h₀.CodeRec fd.code fd.qualname) (hbody : fd.body = .stmts body) (hroom : A.depth < recursionLimit)
  (hcell : ∀ x ∈ fd.scope.names,x.2≠.cell) (hb : Binds C H fd vs kws binds) (hloc : ∀ x ∈ binds,fd.scope.names.lookup x.1 = some .local) (hm : m' = binds.reverse)
  (h : ∀ L,H L = none→C.h₀.get? L = none→EX (C.at (callEnv fd L f)) (A.deeper (callEnv fd L f)) body m' H fun fl _ H' => Q (retOf fl) H')
  (hco : autoParam (fd.scope.isCoroutine = false) Mine.syn1) (hgen : autoParam (fd.scope.isGenerator = false) Mine.syn1) (hk : autoParam (fd.scope.kind = .function) Mine.syn1) : CALL C A (.con (.ref f)) vs kws H Q := fun s rf rs rkw S F hf hv hkw => by
 refine rE hf.con_inv ?_
 obtain ⟨rb,hB,hrb⟩ := hb s rs rkw S hv hkw
 have hloc' : ∀ x ∈ rb,fd.scope.names.lookup x.1 = some .local := fun x hx => by
  have : x.1 ∈ binds.map (·.1) := hrb.1 ▸ List.mem_map_of_mem hx
  refine eEA (List.mem_map.mp this) fun y hy e => ?_
  refine rF e ?_; exact hloc y hy
 refine codeAny_call_def hroom (S.base _ _ ho) hd (hlim.keeps S.base) (hcd.keeps S.base) hbody hB hcell hloc' (fun h₁ hns hk₁ => ?_) hco hgen hk
 have hE : (callEnv fd s.heap.objs.size f).locals = s.heap.objs.size := rfl
 have S₁ : St (C.at (callEnv fd s.heap.objs.size f)) m' H { s with heap := h₁,toks := s.toks + rb.length } := by
  refine ⟨(S.more hk₁).at,⟨_,hns,fun x v e => ?_⟩,S.fresh,S.freshb,fun e he => ?_⟩
  ·subst hm
   exact lookup_kws (hrb.rev.keep (.of_keep hk₁)) e
  ·rcases List.mem_cons.mp he with rfl | he
   ·obtain ⟨o',es,ep,ho',hd',_⟩ := hns
    exact ⟨hk,hgen,hco,_,o',es,ep,rfl,ho',hd',S.fresh,S.freshb⟩
   ·exact F.keep (s' := { s with heap := h₁ }) (fun b o _ _ _ hn e _ => ⟨hn,o,hk₁ b o e,rfl⟩) e he
 refine wpAny_noRaise (wpAny_mono (h _ S.fresh S.freshb _ S₁) ?_ fun _ _ x => x)
 rintro fl s' ⟨f',m₂,H₂,hfl,S₂,af,q⟩
 have a : AfterC H s H₂ s' := ⟨fun b o hn e => af.stay b o (Nat.ne_of_lt (Heap.lt_size e)) hn (hk₁ b o e),fun b o hn e => af.grow b o hn (hk₁ b o e),fun b o e => af.there b o (hk₁ b o e),af.drawn,af.os⟩
 cases f' with
 | ret v => obtain ⟨r,rfl,hr⟩ := hfl; exact ⟨v,H₂,hr,S₂.toHS.back,a,q⟩
 | next => cases hfl; exact ⟨V.none,H₂,.con,S₂.toHS.back,a,q⟩
 | brk => cases hfl; exact ⟨V.none,H₂,.con,S₂.toHS.back,a,q⟩
 | cont => cases hfl; exact ⟨V.none,H₂,.con,S₂.toHS.back,a,q⟩
theorem Binds.pos1 {fd : FuncData} {x : Str} {v : V} (h : autoParam (∀ r,bindArgs fd ⟨[r],[]⟩ = pure [(x,r)]) Mine.syn2) : Binds C H fd [v] [] [(x,v)] := fun s rs rkw S hv hk => by
 have := hk.nil_inv; subst this
 refine eEEAA hv.cons_inv fun r rs zz2 a b => ?_; subst zz2; have := b.nil_inv; subst this
 exact ⟨_,.of_eq (h r),rfl,.cons a .nil⟩
theorem Binds.pos2 {fd : FuncData} {x y : Str} {v w : V} (h : autoParam (∀ r q,bindArgs fd ⟨[r,q],[]⟩ = pure [(x,r),(y,q)]) Mine.syn3) : Binds C H fd [v,w] [] [(x,v),(y,w)] := fun s rs rkw S hv hk => by
 have := hk.nil_inv; subst this
 refine eEEAA hv.cons_inv fun r rs zz2 a b => ?_; subst zz2; obtain ⟨q,rs,rfl,a',b⟩ := b.cons_inv; have := b.nil_inv; subst this
 exact ⟨_,.of_eq (h r q),rfl,.cons a (.cons a' .nil)⟩
theorem Binds.pos3 {fd : FuncData} {x y z : Str} {v w u : V} (h : ∀ r q p,bindArgs fd ⟨[r,q,p],[]⟩ = pure [(x,r),(y,q),(z,p)] := by intro _ _ _; with_unfolding_all rfl) : Binds C H fd [v,w,u] [] [(x,v),(y,w),(z,u)] := fun s rs rkw S hv hk => by
 have := hk.nil_inv; subst this
 refine eEEAA hv.cons_inv fun r rs zz2 a b => ?_; subst zz2; obtain ⟨q,rs,rfl,a',b⟩ := b.cons_inv; obtain ⟨p,rs,rfl,a'',b⟩ := b.cons_inv; have := b.nil_inv; subst this
 exact ⟨_,.of_eq (h r q p),rfl,.cons a (.cons a' (.cons a'' .nil))⟩
end
end
end Mine
end
section
open PySem PySem.Calls PySem.W PyProof.Rows
set_option maxRecDepth 100000
namespace Mine
noncomputable section
section
variable {C : Cx} {A : Around} {m : Loc} {H : CH} {s : Shared} {Q : V→Loc→CH→Prop}
theorem tup_lt_eq (a b : Value) : Builtin.«tuple.__lt__» ⟨[a,b],[]⟩ = (do
 let (a,[b]) ← slotArgs "__lt__" 1 ⟨[a,b],[]⟩ | unsupported "internal:tuple.compare"
 if !(← isInstance b (.type "tuple")) then return ← ret .notImplemented
 let xs ← Builtin.Tuple.tupleItemsOf a
 let ys ← Builtin.Tuple.tupleItemsOf b
 for (x,y) in xs.toList.zip ys.toList do
  if !(← eqBool x y) then
   match CmpOp.Lt with
   | .Eq => return ← ret (.bool false)
   | .NotEq => return ← ret (.bool true)
   | _ => rule "tuple.compare.by-the-first-pair-that-differs"; return ← ret (← richCompare .Lt x y)
 ret (Builtin.Tuple.tupleCompareSizes .Lt xs.size ys.size)) := rfl
theorem VRs.two {h : Heap} {x y : V} {items : Array Value} (r : VRs h [x,y] items.toList) : ∃ a b,items = #[a,b]∧VR h x a∧VR h y b := by
 refine eEEAA r.cons_inv fun a l e ha r => ?_
 obtain ⟨b,l,rfl,hb,r⟩ := r.cons_inv
 have := r.nil_inv; subst this
 exact ⟨a,b,by apply Array.ext'; rw [e],ha,hb⟩
theorem ltp_raw {a b c d : Int} {r q : Value} {Q : Value→Shared→Prop} (hu : A.units < cLine) (hr : VR s.heap (.tup [.int a,.int b]) r) (hq : VR s.heap (.tup [.int c,.int d]) q) (h : Q (.bool (decide (a < c∨(a = c∧b < d)))) s) : wpAny (model C.prog C.w) A (richCompare .Lt r q) Q NoE s := by
 obtain ⟨l,items,n,rfl,ho,hv⟩ := hr.tup_inv
 obtain ⟨l2,items2,n2,rfl,ho2,hv2⟩ := hq.tup_inv
 refine eEEAA hv.two fun x0 x1 zz2 h0 h1 => ?_; subst zz2
 refine eEEAA hv2.two fun y0 y1 zz2 g0 g1 => ?_; subst zz2
 refine eE h0.int_inv fun t0 zz1 => ?_; subst zz1; (refine eE h1.int_inv fun t1 zz1 => ?_; subst zz1)
 refine eE g0.int_inv fun u0 zz1 => ?_; subst zz1; (refine eE g1.int_inv fun u1 zz1 => ?_; subst zz1)
 refine wpAny_richCompare_same_room (op := .Lt) (T := "tuple") ⟨_,ho,rfl⟩ ⟨_,ho2,rfl⟩ F.slot_tuple_lt ?_ hu
 refine wpAny_call_entry F.slot_tuple_lt ⟨_,ho,rfl⟩ F.entry_tuple_lt ?_ (F.args_tuple_lt_2 _ _)
 refine rE (tup_lt_eq ..) ?_
 have hi : ∀ {Q : Bool→Shared→Prop},Q true s→wpAny (model C.prog C.w) A.in1 (isInstance (.ref l2) (.type "tuple")) Q NoE s := fun q => wpAny_isInstance ⟨_,ho2,rfl⟩ AutoSeq1.sub_tuple_tuple q
 refine wpAny_bind (wpAny_pure ?_)
 dsimp only
 refine wpAny_bind (hi ?_)
 simp only [Bool.not_true,Bool.false_eq_true,if_false]
 refine wpAny_bind (wpAny_tupleItemsOf ho rfl ?_)
 refine wpAny_bind (wpAny_tupleItemsOf ho2 rfl ?_)
 have lt0 : ∀ {a b : Int} {t u : Tok} {Q : Value→Shared→Prop},Q (.bool (decide (a < b))) s→wpAny (model C.prog C.w) A.in1 (richCompare .Lt (.int a t) (.int b u)) Q NoE s := fun q => lt_int q
 have ez : (#[Value.int a t0,Value.int b t1] : Array Value).toList.zip (#[Value.int c u0,Value.int d u1] : Array Value).toList = [(Value.int a t0,Value.int c u0),(Value.int b t1,Value.int d u1)] := rfl
 refine rE ez (rE (List.forIn_cons ..) ?_)
 refine wpAny_bind (wpAny_bind (wpAny_bind (wpAny_eqBool_int ?_)))
 by_cases hac : a = c
 ·subst hac
  simp only [beq_self_eq_true,Bool.not_true,Bool.false_eq_true,if_false]
  refine wpAny_pure ?_
  dsimp only
  refine rE (List.forIn_cons ..) ?_
  refine wpAny_bind (wpAny_bind (wpAny_eqBool_int ?_))
  by_cases hbd : b = d
  ·subst hbd
   simp only [beq_self_eq_true,Bool.not_true,Bool.false_eq_true,if_false]
   refine wpAny_pure ?_
   dsimp only
   refine rE List.forIn_nil ?_
   refine wpAny_pure ?_
   refine wpAny_pure ⟨_,rfl,by unfold Builtin.Tuple.tupleCompareSizes; simp,?_⟩
   have e : decide (a < a∨(a = a∧b < b)) = false := by simp
   rw [e] at h
   exact h
  ·have hb' : (b == d) = false := by exact PyProof.Rows.beq_int_false hbd
   simp only [hb',Bool.not_false,if_true]
   refine wpAny_bind (wpAny_rule (wpAny_bind (lt0 (wpAny_bind (wpAny_pure (wpAny_pure ?_))))))
   refine wpAny_pure (wpAny_pure ⟨_,rfl,by (intro h; injection h),?_⟩)
   have e : decide (a < a∨(a = a∧b < d)) = decide (b < d) := by simp
   rw [e] at h
   exact h
 ·have hb' : (a == c) = false := by exact PyProof.Rows.beq_int_false hac
  simp only [hb',Bool.not_false,if_true]
  refine wpAny_bind (wpAny_rule (wpAny_bind (lt0 (wpAny_bind (wpAny_pure (wpAny_pure ?_))))))
  refine wpAny_pure (wpAny_pure ⟨_,rfl,by (intro h; injection h),?_⟩)
  have e : decide (a < c∨(a = c∧b < d)) = decide (a < c) := by simp [hac]
  rw [e] at h
  exact h
theorem O2_ltp {a b c d : Int} (hu : A.units < cLine) (h : Q (.bool (decide (a < c∨(a = c∧b < d)))) m H) : O2 C A (compareOp .Lt) (.tup [.int a,.int b]) (.tup [.int c,.int d]) m H Q := fun s r q S hr hq => by
 show wpAny _ _ (richCompare .Lt r q) _ _ s
 exact ltp_raw hu hr hq (.here S .con h)
end
end
end Mine
end
section
open PySem PySem.Calls PySem.W PyProof.Rows
set_option maxRecDepth 100000
namespace Mine
noncomputable section
section
variable {C : Cx} {A : Around} {m : Loc} {H : CH} {s : Shared} {Q : V→Loc→CH→Prop}
theorem GM_list {l : Addr} {xs : List V} {name : Str} {id : String} {Q : V→List V→Prop} (hl : LAt C H l xs) (slot : Slot "list" name id) (hty : typeOf (.builtin id) = pure (.type "method_descriptor")) (h : Q (.con (.builtin id)) [.ref l]) :
  GM C A (.ref l) name m H Q := fun s ro pl S hr => by
 refine rE hr.ref_inv ?_
 obtain ⟨items,n,hI,hv,hz⟩ := S.toHS.list hl
 exact getMethod_builtin ⟨_,hI,rfl⟩ F.plainAttrs_list slot hty (fun a e => by cases e; exact ⟨_,hI,rfl⟩) ⟨_,_,.con,.cons .ref .nil,rfl,rfl,rfl,rfl,h⟩
theorem PV.upd {a : Addr} {c c' : CObj} {v : V} {r : Value} (S : St C m H s) (hc : H a = some c) {h' : Heap} {o' : Obj} {tk : Nat} (hs : Heap.SameBut a s.heap h') (ho : h'.get? a = some o') (hr : ORep C s.heap c' o') (hv : VR s.heap v r) (q : Q v m (H.set a c')) : PV C H s Q r { s with heap := h',toks := tk } :=
 ⟨v,m,_,hv.keep (S.toHS.upd (tk := tk) hc hs ho hr).2,S.upd hc hs ho hr,.upd hc hs ho,q⟩
theorem two_inv {h : Heap} {x y : V} {rs : List Value} (r : VRs h [x,y] rs) : ∃ a b,rs = [a,b]∧VR h x a∧VR h y b := by
 obtain ⟨a,l,rfl,ha,r⟩ := r.cons_inv
 obtain ⟨b,l,rfl,hb,r⟩ := r.cons_inv
 have := r.nil_inv; subst this
 exact ⟨a,b,rfl,ha,hb⟩
theorem one_inv {h : Heap} {x : V} {rs : List Value} (r : VRs h [x] rs) : ∃ a,rs = [a]∧VR h x a := by
 obtain ⟨a,l,rfl,ha,r⟩ := r.cons_inv
 have := r.nil_inv; subst this
 exact ⟨a,rfl,ha⟩
theorem three_inv {h : Heap} {x y z : V} {rs : List Value} (r : VRs h [x,y,z] rs) : ∃ a b c,rs = [a,b,c]∧VR h x a∧VR h y b∧VR h z c := by
 obtain ⟨a,l,rfl,ha,r⟩ := r.cons_inv
 obtain ⟨b,c,rfl,hb,hc⟩ := two_inv r
 exact ⟨a,b,c,rfl,ha,hb,hc⟩
theorem CV_append {l : Addr} {xs : List V} {v : V} (hl : H l = some (.list xs)) (hsz : xs.length≤sizeLine) (h : Q V.none m (H.set l (.list (xs ++ [v])))) : CV C A (.con (.builtin "list.append")) [.ref l,v] [] m H Q := fun s rf rs rkw S hf hv hk => by
 have := hk.nil_inv; subst this
 refine rE hf.con_inv ?_
 refine eEEAA (two_inv hv) fun a b zz2 ha hb => ?_; subst zz2
 refine rE ha.ref_inv ?_
 obtain ⟨items,n,hI,hvs,hz⟩ := S.toHS.list (.own hl)
 refine call_meets F.slot_list_append ⟨_,hI,rfl⟩ F.entry_list_append (F.args_list_append_2 _ _) (list_append l items n b (by lia)) ⟨hI,?_⟩
 exact PV.upd (c' := .list (xs ++ [v])) S hl (Heap.SameBut.update ..) (hI.update _) ⟨_,_,rfl,by refine rE Array.toList_push ?_; exact hvs.append (.cons hb .nil)⟩ .con h
theorem CV_pop {l : Addr} {xs : List V} {v : V} (hl : H l = some (.list (xs ++ [v]))) (hsz : xs.length + 1≤sizeLine) (h : Q v m (H.set l (.list xs))) : CV C A (.con (.builtin "list.pop")) [.ref l] [] m H Q := fun s rf rs rkw S hf hv hk => by
 have := hk.nil_inv; subst this
 refine rE hf.con_inv ?_
 refine eEA (one_inv hv) fun a zz1 ha => ?_; subst zz1
 refine rE ha.ref_inv ?_
 obtain ⟨items,n,hI,hvs,hz⟩ := S.toHS.list (.own hl)
 have hz' : items.size = xs.length + 1 := by refine rE hz ?_; simp
 refine eEA (hvs.get (i := xs.length) (x := v) (by exact List.getElem?_concat_length)) fun y hy hvy => ?_
 have hy' : items[items.size - 1]? = some y := by refine rE hz' (rE (Nat.add_sub_cancel ..) ?_); simpa using hy
 refine call_meets F.slot_list_pop ⟨_,hI,rfl⟩ F.entry_list_pop (F.args_list_pop_1 _) (MeetsSeq.list_pop_last l items n y hy' (by lia)) ⟨hI,?_⟩
 refine PV.upd (c' := .list xs) S hl (Heap.SameBut.update ..) (hI.update _) ⟨_,_,rfl,?_⟩ hvy h
 have e : (items.eraseIdxIfInBounds (items.size - 1)).toList = items.toList.eraseIdx xs.length := by
  refine rE hz' (rE (Nat.add_sub_cancel ..) (rE Array.eraseIdxIfInBounds_eq (rE (dif_pos (by lia)) (rE Array.toList_eraseIdx rfl))))
 refine rE e ?_
 have := hvs.eraseIdx xs.length
 rwa [show (xs ++ [v]).eraseIdx xs.length = xs from by rw [List.eraseIdx_append_of_length_le (Nat.le_refl _)]; simp] at this
theorem CV_clear {l : Addr} {xs : List V} (hl : H l = some (.list xs)) (hsz : xs.length≤sizeLine) (h : Q V.none m (H.set l (.list []))) : CV C A (.con (.builtin "list.clear")) [.ref l] [] m H Q := fun s rf rs rkw S hf hva hk => by
 have := hk.nil_inv; subst this
 refine rE hf.con_inv ?_
 refine eEA (one_inv hva) fun a zz1 ha => ?_; subst zz1
 refine rE ha.ref_inv ?_
 obtain ⟨items,n,hI,hvs,hz⟩ := S.toHS.list (.own hl)
 refine call_meets F.slot_list_clear ⟨_,hI,rfl⟩ F.entry_list_clear (F.args_list_clear_1 _) (AutoSeq1.list_clear_list_0 l items n (by omega)) ⟨hI,?_⟩
 exact PV.upd (c' := .list []) S hl (Heap.SameBut.update ..) (hI.update _) ⟨_,_,rfl,.nil⟩ .con h
theorem CV_insert {l : Addr} {xs : List V} {v : V} {i : Int} (hl : H l = some (.list xs)) (h0 : 0≤i) (hi : i≤xs.length) (hsz : xs.length≤sizeLine) (h : Q V.none m (H.set l (.list (xs.take i.toNat ++ v :: xs.drop i.toNat)))) :
  CV C A (.con (.builtin "list.insert")) [.ref l,.int i,v] [] m H Q := fun s rf rs rkw S hf hva hk => by
 have := hk.nil_inv; subst this
 refine rE hf.con_inv ?_
 obtain ⟨a,b,c,rfl,ha,hb,hc⟩ := three_inv hva
 refine rE ha.ref_inv ?_; (refine eE hb.int_inv fun u zz1 => ?_; subst zz1)
 obtain ⟨items,n,hI,hvs,hz⟩ := S.toHS.list (.own hl)
 have hfit : Builtin.List.listFitsIndex i = true := fitsIndex_of h0 (by unfold sizeLine at hsz; lia)
 refine call_meets F.slot_list_insert ⟨_,hI,rfl⟩ F.entry_list_insert (F.args_list_insert_3 _ _ _) (AutoSeq1.list_insert_list_int_val_1 l items n i u c (by refine rE hfit ?_; simp) (by omega)) ⟨hI,?_⟩
 refine PV.upd (c' := .list (xs.take i.toNat ++ v :: xs.drop i.toNat)) S hl (Heap.SameBut.update ..) (hI.update _) ⟨_,_,rfl,?_⟩ .con h
 have e : (if i < 0 then (i + (items.size : Int)).toNat else min i.toNat items.size) = i.toNat := by refine rE (if_neg (by exact Int.not_lt_of_ge h0)) ?_; grind
 dsimp only
 refine rE e (rE Array.toList_append (rE Array.toList_push (rE Array.toList_extract (rE Array.toList_extract ?_))))
 simp only [List.extract_eq_drop_take,List.drop_zero,Nat.sub_zero]
 have e2 : List.take (items.size - i.toNat) (List.drop i.toNat items.toList) = List.drop i.toNat items.toList := by
  apply List.take_of_length_le; simp
 refine rE e2 (rE (List.append_assoc ..) ?_)
 exact (hvs.take _).append (.cons hc (hvs.drop _))
theorem CV_len {l : Addr} {xs : List V} (hl : LAt C H l xs) (hsz : xs.length≤sizeLine) (h : Q (.int xs.length) m H) : CV C A (.con (.builtin "len")) [.ref l] [] m H Q := fun s rf rs rkw S hf hva hk => by
 have := hk.nil_inv; subst this
 refine rE hf.con_inv ?_
 refine eEA (one_inv hva) fun a zz1 ha => ?_; subst zz1
 refine rE ha.ref_inv ?_
 obtain ⟨items,n,hI,hvs,hz⟩ := S.toHS.list hl
 refine call_len_list hI.isList (by unfold sizeLine at hsz; lia) ?_
 refine rE hz ?_; exact .same S .int h _
theorem CV_len_tup {xs : List V} (hsz : xs.length≤sizeLine) (h : Q (.int xs.length) m H) : CV C A (.con (.builtin "len")) [.tup xs] [] m H Q := fun s rf rs rkw S hf hva hk => by
 have := hk.nil_inv; subst this
 refine rE hf.con_inv ?_
 refine eEA (one_inv hva) fun a zz1 ha => ?_; subst zz1
 obtain ⟨t,items,n,rfl,ho,hvs⟩ := ha.tup_inv
 have hz : items.size = xs.length := by have := hvs.length; simp at this; exact Nat.add_right_cancel (congrFun (congrArg HAdd.hAdd (id (Eq.symm this))) t)
 refine len_tuple ⟨_,ho,rfl,n,rfl⟩ (by unfold sizeLine at hsz; omega) ?_
 refine rE hz ?_; exact .same S .int h _
theorem add_lists {l b : Addr} {xs ys : List V} (hl : LAt C H l xs) (hb : LAt C H b ys) (hsz : xs.length + ys.length≤sizeLine) (h : ∀ a,H a = none→Q (.ref a) m (H.set a (.list (xs ++ ys)))) : O2 C A (binaryOp .Add) (.ref l) (.ref b) m H Q := fun s r q S hr hq => by
 refine rE hr.ref_inv (rE hq.ref_inv ?_)
 obtain ⟨items,n,hI,hvs,hz⟩ := S.toHS.list hl
 obtain ⟨items2,n2,hI2,hvs2,hz2⟩ := S.toHS.list hb
 refine P.add_list hI hI2 ?_ (by lia)
 exact ⟨_,m,_,.ref,S.alloc (c := .list (xs ++ ys)) ⟨_,0,rfl,by refine rE Array.toList_append ?_; exact hvs.append hvs2⟩,.alloc,h _ S.toHS.fresh⟩
end
end
end Mine
end
section
open PySem PySem.Calls PySem.W PyProof.Rows
set_option maxRecDepth 100000
namespace Mine
noncomputable section
structure Bs (h₀ : Heap) (K : Frag) (mg mb : Str→Option Value) : Prop where
 X : K.In h₀
 lim : h₀.NoLimit
 g : h₀.Ns mainGlobals mg
 b : h₀.Ns builtinsNs mb
 boot : ∀ x : Str,x≠("__name__" : Str)→mb x = bootBuiltins x
 sys : ∃ o,h₀.get? sysModules = some o
 bm : ∃ bm ob,mg "__builtins__" = some (.ref bm)∧bm≠builtinsNs∧h₀.get? bm = some ob∧ob.cls = .type "module"∧ob.dict = some builtinsNs∧ob.data = .plain
theorem mg_none {K : Frag} {h : Heap} {mg : Str→Option Value} {n : Str} (X : K.In h) (G : h.Ns mainGlobals mg) (e : nsIn K mainGlobals n = some none) : mg n = none := mg_none_of X G e
structure AOK (C : Cx) (A : Around) (n : Nat) : Prop where
 handled : A.handled = none
 depth : A.depth + n < recursionLimit
 units : A.units + 4 * n + 40 < cLine
 frames : A.frames = some C.fr
theorem AOK.le {C : Cx} {A : Around} {n k : Nat} (h : AOK C A n) (q : k≤n) : AOK C A k := ⟨h.handled,by have := h.depth; lia,by have := h.units; lia,h.frames⟩
theorem AOK.at {C : Cx} {A : Around} {n : Nat} {env : Env} (h : AOK C A (n + 1)) : AOK (C.at env) (A.deeper env) n :=
 ⟨h.handled,by have := h.depth; show A.depth + 1 + n < _; lia,by have := h.units; show A.units + 3 + 4 * n + 40 < _; lia,Around.frames_deeper h.frames⟩
theorem AOK.u10 {C : Cx} {A : Around} {n : Nat} (h : AOK C A n) : A.units + 10 < cLine := by have := h.units; lia
theorem AOK.room {C : Cx} {A : Around} {n : Nat} (h : AOK C A n) : A.depth < recursionLimit := by have := h.depth; exact Nat.lt_of_add_right_lt this
theorem AOK.line {C : Cx} {A : Around} {n : Nat} (h : AOK C A n) : A.units < cLine := by have := h.units; lia
section
variable {C : Cx} {A : Around} {m : Loc} {H : CH} {s : Shared} {Q : V→Loc→CH→Prop} {K : Frag} {mg mb : Str→Option Value}
theorem EV_g {x : Str} {p : Pos} {v : Value} (B : Bs C.h₀ K mg mb) (e : nsIn K mainGlobals x = some (some v)) (h : Q (.con v) m H) (hG : autoParam (C.env.globals = mainGlobals) Mine.syn1)
  (hk : autoParam (C.env.scope.kind = .function) Mine.syn1) (hl : autoParam (C.env.kindOf x = some .globalImplicit) Mine.syn1) (hd : autoParam ((x == ("__debug__" : Str)) = false) Mine.syn4) : EV C A (.Name x p) m H Q := fun s S =>
 Name_function_global hk hl (loadGlobal_global (hG ▸ B.g.keeps S.base) (mg_of B.X B.g e) (.here S .con h)) hd
theorem EV_b {x : Str} {p : Pos} {v : Value} (B : Bs C.h₀ K mg mb) (e : nsIn K mainGlobals x = some none) (hv : bootBuiltins x = some v) (h : Q (.con v) m H) (hn : autoParam (x≠("__name__" : Str)) Mine.syn4) (hG : autoParam (C.env.globals = mainGlobals) Mine.syn1) (hB : autoParam (C.env.builtins = builtinsNs) Mine.syn1)
  (hk : autoParam (C.env.scope.kind = .function) Mine.syn1) (hl : autoParam (C.env.kindOf x = some .globalImplicit) Mine.syn1) (hd : autoParam ((x == ("__debug__" : Str)) = false) Mine.syn4) : EV C A (.Name x p) m H Q := fun s S =>
 Name_function_global hk hl (loadGlobal_builtin (hG ▸ B.g.keeps S.base) (mg_none B.X B.g e) (hB ▸ B.b.keeps S.base) ((B.boot x hn).trans hv) (.here S .con h)) hd
theorem KP_K {f : Addr} {name qual : Str} {params : Arguments} {body : List Stmt} {scope : Scope} {cl : List (Str × Addr)} {dV kV doc pm cdv ct oc : Value} {an od : Option Addr} {osl : Array (Option Value)} (B : Bs C.h₀ K mg mb)
  (ho : K.lookup f = some ⟨oc,od,.func (fnX name qual params body scope cl dV kV doc pm an cdv ct),osl⟩) : KP C (.con (.ref f)) H := KP_fn (B.X _ _ ho) rfl
theorem CALL_K {f : Addr} {name qual : Str} {params : Arguments} {body : List Stmt} {scope : Scope} {cl : List (Str × Addr)} {dV kV doc pm cdv ct oc : Value} {an od : Option Addr} {osl : Array (Option Value)} {vs : List V} {kws binds : List (Str × V)} {m' : Loc} {Q : V→CH→Prop}
  (B : Bs C.h₀ K mg mb) (ho : K.lookup f = some ⟨oc,od,.func (fnX name qual params body scope cl dV kV doc pm an cdv ct),osl⟩) (hcd : codeIn K cdv qual = true) {n : Nat} (hA : AOK C A (n + 1))
  (hb : Binds C H (fnX name qual params body scope cl dV kV doc pm an cdv ct) vs kws binds) (hok : (scope.names.all (fun x => x.2 != .cell) && binds.all (fun x => scope.names.lookup x.1 == some .local) && !scope.isCoroutine && !scope.isGenerator && scope.kind == .function) = true) (hm : m' = binds.reverse)
  (h : ∀ L,H L = none→C.h₀.get? L = none→AOK (C.at (callEnv (fnX name qual params body scope cl dV kV doc pm an cdv ct) L f)) (A.deeper (callEnv (fnX name qual params body scope cl dV kV doc pm an cdv ct) L f)) n→EX (C.at (callEnv (fnX name qual params body scope cl dV kV doc pm an cdv ct) L f)) (A.deeper (callEnv (fnX name qual params body scope cl dV kV doc pm an cdv ct) L f)) body m' H fun fl _ H' => Q (retOf fl) H') :
  CALL C A (.con (.ref f)) vs kws H Q := by
 simp only [Bool.and_eq_true,List.all_eq_true,Bool.not_eq_true',beq_iff_eq,bne_iff_ne] at hok
 refine eA hok fun zz0 h5 => ?_; obtain ⟨⟨⟨h1,h2⟩,h3⟩,h4⟩ := zz0
 exact CALL_def (B.X _ _ ho) rfl B.lim (codeRec_of B.X hcd) rfl hA.room h1 hb h2 hm (fun L hL hL0 => h L hL hL0 hA.at) h3 h4 h5
theorem EX_mid {st : Stmt} {rest : List Stmt} {Q : Fl→Loc→CH→Prop} (R : Loc→CH→Prop) (h : ES C A st m H (SeqK R Q)) (k : ∀ m₁ H₁,R m₁ H₁→EX C A rest m₁ H₁ Q) : EX C A (st :: rest) m H Q :=
 EX_cons (h.mono fun fl m₁ H₁ q => by cases fl <;> first | exact k _ _ q | exact q)
theorem CH.set_set {H : CH} {a : Addr} {c d : CObj} : (H.set a c).set a d = H.set a d := by
 funext b; unfold CH.set; split <;> rfl
theorem CH.set_self {H : CH} {a : Addr} {c : CObj} (h : H a = some c) : H.set a c = H := by
 funext b; unfold CH.set; split
 ·subst b; exact h.symm
 ·rfl
end
end
end Mine
end
section
open PySem PySem.Calls PySem.W PyProof.Rows
set_option maxRecDepth 100000
namespace Mine
noncomputable section
section
variable {C : Cx} {A : Around} {m : Loc} {H : CH} {s : Shared}
noncomputable def SeqOf (C : Cx) (A : Around) (v : V) (H : CH) (xs : List V) (ok : CH→Prop) : Prop := ∃ nx,Iterable C A v H nx∧∀ H' i,ok H'→nx H' i = some xs[i]?
theorem not_imm_cls {o : Obj} {T : String} (h : o.cls = .type T) (hT : immCls.contains T = false) (hv : ∀ vs x t,o.data = .fields vs→vs[1]?≠some (.str x t)) : ¬ Imm o := fun ⟨_,hcl,_⟩ => by
 rcases hcl with ⟨T',hT',hc⟩ | ⟨vs,x,t,e,q⟩
 ·rw [h] at hc; cases hc
  have : immCls.contains T = true := List.contains_iff_mem.mpr hT'
  rw [hT] at this; cases this
 ·exact hv vs x t e q
set_option tactic.hygienic true in
theorem letOwned_plain {M : Model} {E : Value→Shared→Prop} {target : PySem.Expr} {I : Addr} {v : Value} {o : Obj} {T : String} {Q : Unit→Shared→Prop} (ho : s.heap.get? I = some o) (hc : o.cls = .type T)
  (hT : (["enumerate", "zip", "dict_itemiterator", "dict_reverseitemiterator", "odict_iterator", "itertools.zip_longest", "itertools.pairwise"].contains T) = false) (h : Q () s) :
  wpAny M A (letOwnedTupleGo target (.ref I) v) Q E s := by
 have key : wpAny M A (do
  let (.ref r,.ref a) := (Value.ref I,v) | return
  let o ← load r
  match o.cls,o.data with
  | .type n,.fields vs =>
   if ["enumerate", "zip", "dict_itemiterator", "dict_reverseitemiterator", "odict_iterator", "itertools.zip_longest", "itertools.pairwise"].contains n && vs[0]? == some (rawInt a) then
    rule "for.unpacks-the-owned-tuple"
    updateField r 0 .none
  | _,_ => pure () : Sem Unit) Q E s := by
  cases v with
  | ref a =>
   refine wpAny_bind (wpAny_load ho ?_)
   refine rE hc ?_
   split
   ·rename_i n vs h1 h2
    cases h1
    refine rE hT (rE (Bool.false_and ..) ?_)
    exact wpAny_pure h
   ·exact wpAny_pure h
  | _ => exact wpAny_pure h
 unfold letOwnedTupleGo
 cases target <;> first | exact wpAny_pure h | exact key
noncomputable def nxList (l : Addr) (H : CH) (i : Nat) : Option (Option V) := match H l with
 | some (.list xs) => some xs[i]?
 | _ => none
theorem prot_list {I l : Addr} {nx : CH→Nat→Option (Option V)} (hA : A.handled = none) (hne : l≠I) (hx : ∀ H i x,nx H i = some x→∃ xs,LAt C H l xs∧x = xs[i]?) :
  Prot C A I (fun i _ o => o.cls = .type "list_iterator"∧o.data = .fields #[.ref l,.int i 0]) nx where
 plain := fun i _ o h e => not_imm_cls h.1 (by decide) (by intro vs x t e q; rw [h.2] at e; cases e; cases q) e
 nodict := fun i _ o es ep h e => by rw [h.2] at e; cases e
 kept := fun _ _ _ _ _ h => h
 item := fun H s i o v S hI ho hob hn => by
  refine eEA (hx H i _ hn) fun xs hl hv => ?_
  obtain ⟨items,n,hL,hvs,hz⟩ := S.list hl
  refine eEA (hvs.get hv.symm) fun r hr hvr => ?_
  refine wpAny_pyNext_list_item ⟨o,ho,hob.1,hob.2⟩ hL.isList (by simpa using hr) fun h' hit hs => ?_
  obtain ⟨o',ho',hc',hd'⟩ := hit
  refine ⟨r,h',s.toks,o',rfl,rfl,hvr.keep (tup_ext ho (fun e => not_imm_cls hob.1 (by decide) (by intro vs x t e q; rw [hob.2] at e; cases e; cases q) e) hs.extBut),hs.extBut,ho',hc',hd'⟩
 done := fun H s i o S hI ho hob hn => by
  refine eEA (hx H i _ hn) fun xs hl hv => ?_
  obtain ⟨items,n,hL,hvs,hz⟩ := S.list hl
  have : items[i]? = none := by
   have : xs.length≤i := List.getElem?_eq_none_iff.mp hv.symm
   exact Array.getElem?_eq_none (by exact le_of_eq_of_le hz this)
  exact wpAny_pyNext_list_end hA ⟨o,ho,hob.1,hob.2⟩ hL.isList this fun h' he => ⟨h',s.toks,rfl,rfl,he⟩
 own := fun target v s i _ o Q ho hob h => letOwned_plain ho hob.1 (by decide) h
 self := fun s i _ o E Q ho hob h => wpAny_pyIter_listiter (i := i) ⟨o,ho,hob.1,hob.2⟩ h
theorem size_none : s.heap.get? s.heap.objs.size = none := by
 cases e : s.heap.get? s.heap.objs.size with
 | none => rfl
 | some o => exact absurd (Heap.lt_size e) (Nat.lt_irrefl _)
set_option tactic.hygienic true in
theorem seq_own {l : Addr} {xs : List V} (hA : A.handled = none) (h : H l = some (.list xs)) : SeqOf C A (.ref l) H xs (fun H' => H' l = some (.list xs)) := by
 refine ⟨nxList l,fun s r S hr => ?_,fun H' i ok => ?_⟩
 ·refine rE hr.ref_inv ?_
  obtain ⟨items,n,hL,hvs,hz⟩ := S.list (.own h)
  refine wpAny_pyIter_list hL.isList ⟨s.heap.objs.size,fun i _ o => o.cls = .type "list_iterator"∧o.data = .fields #[.ref l,.int i 0],_,s.toks,_,rfl,rfl,keep_push _ _,size_none,Heap.get?_push_size _ rfl,⟨rfl,rfl⟩,prot_list hA ?_ ?_⟩
  ·exact Nat.ne_of_lt (Heap.lt_size hL)
  ·intro H i x e
   unfold nxList at e
   split at e
   ·rename_i xs hx; cases e; exact ⟨xs,.own hx,rfl⟩
   ·cases e
 ·unfold nxList; refine rE ok rfl
theorem prot_tup {I t : Addr} {xs : List V} (hA : A.handled = none) (hne : t≠I) :
  Prot C A I (fun i h o => (o.cls = .type "tuple_iterator"∧o.data = .fields #[.ref t,.int i 0])∧VR h (.tup xs) (.ref t)) (fun _ i => some xs[i]?) where
 plain := fun i _ o h e => not_imm_cls h.1.1 (by decide) (by intro vs x t e q; rw [h.1.2] at e; cases e; cases q) e
 nodict := fun i _ o es ep h e => by rw [h.1.2] at e; cases e
 kept := fun _ _ _ _ k h => ⟨h.1,h.2.keep k⟩
 item := fun H s i o v S hI ho hob hn => by
  obtain ⟨t',items,n,e,ht,hvs⟩ := hob.2.tup_inv
  cases e
  refine eEA (hvs.get (Option.some.inj hn)) fun r hr hvr => ?_
  refine wpAny_pyNext_tuple_item ⟨o,ho,hob.1.1,hob.1.2⟩ ⟨_,ht,rfl,n,rfl⟩ (by simpa using hr) fun h' hit hs => ?_
  obtain ⟨o',ho',hc',hd'⟩ := hit
  have k : TupKeep s.heap h' := tup_ext ho (fun e => not_imm_cls hob.1.1 (by decide) (by intro vs x t e q; rw [hob.1.2] at e; cases e; cases q) e) hs.extBut
  exact ⟨r,h',s.toks,o',rfl,rfl,hvr.keep k,hs.extBut,ho',⟨hc',hd'⟩,hob.2⟩
 done := fun H s i o S hI ho hob hn => by
  obtain ⟨t',items,n,e,ht,hvs⟩ := hob.2.tup_inv
  cases e
  have : items[i]? = none := by
   have : xs.length≤i := List.getElem?_eq_none_iff.mp (Option.some.inj hn)
   have hz := hvs.length; simp at hz
   exact Array.getElem?_eq_none (by exact le_of_eq_of_le (id (Eq.symm hz)) this)
  exact wpAny_pyNext_tuple_end hA ⟨o,ho,hob.1.1,hob.1.2⟩ ⟨_,ht,rfl,n,rfl⟩ this fun h' he => ⟨h',s.toks,rfl,rfl,he⟩
 own := fun target v s i _ o Q ho hob h => letOwned_plain ho hob.1.1 (by decide) h
 self := fun s i _ o E Q ho hob h => wpAny_pyIter_tupleiter (i := i) ⟨o,ho,hob.1.1,hob.1.2⟩ h
theorem seq_tup {xs : List V} (hA : A.handled = none) : SeqOf C A (.tup xs) H xs (fun _ => True) := by
 refine ⟨fun _ i => some xs[i]?,fun s r S hr => ?_,fun H' i ok => rfl⟩
 obtain ⟨t,items,n,rfl,ho,hvs⟩ := hr.tup_inv
 have hne : t≠s.heap.objs.size := Nat.ne_of_lt (Heap.lt_size ho)
 exact wpAny_pyIter_tuple ⟨_,ho,rfl,n,rfl⟩ ⟨s.heap.objs.size,_,_,s.toks,_,rfl,rfl,keep_push _ _,size_none,Heap.get?_push_size _ rfl,⟨⟨rfl,rfl⟩,hr.keep (.push _ _)⟩,prot_tup hA hne⟩
noncomputable def rangeInts (a c : Int) (n : Nat) : List V := (List.range n).map fun i => .int (a + (i : Nat) * c)
theorem rangeInts_get {a c : Int} {n i : Nat} : (rangeInts a c n)[i]? = if i < n then some (.int (a + (i : Nat) * c)) else none := by
 unfold rangeInts
 refine rE List.getElem?_map ?_
 by_cases h : i < n
 ·refine rE (List.getElem?_range h) (rE (if_pos h) ?_); rfl
 ·refine rE (List.getElem?_eq_none (by simp; exact Nat.le_of_not_lt h)) (rE (if_neg h) ?_); rfl
theorem prot_range {I : Addr} {a c : Int} {n : Nat} (hA : A.handled = none) :
  Prot C A I (fun i _ o => o = { cls := .type "range_iterator",dict := none,data := .fields #[rawInt (a + (i : Nat) * c),rawInt ((n : Int) - (i : Nat)),rawInt c],slots := #[] }) (fun _ i => some (rangeInts a c n)[i]?) where
 plain := fun i _ o h e => not_imm_cls (T := "range_iterator") (by refine rE h rfl) (by decide) (by intro vs x t e q; rw [h] at e; cases e; cases q) e
 nodict := fun i _ o es ep h e => by subst h; cases e
 kept := fun _ _ _ _ _ h => h
 item := fun H s i o v S hI ho hob hn => by
  subst hob
  rw [rangeInts_get] at hn
  by_cases hi : i < n
  ·rw [if_pos hi] at hn; cases hn
   refine wpAny_pyNext_range_item ho (by lia) fun h' hit hs => ?_
   refine ⟨_,h',_,_,rfl,rfl,.int,hs.extBut,hit,?_⟩
   have e1 : a + ((i + 1 : Nat) : Int) * c = a + (i : Int) * c + c := by push_cast; refine rE (Int.add_mul ..) (rE (Int.one_mul ..) (rE (Int.add_assoc ..) rfl))
   have e2 : (n : Int) - ((i + 1 : Nat) : Int) = (n : Int) - (i : Int) - 1 := by push_cast; exact Eq.symm (Int.sub_sub (↑n) (↑i) 1)
   refine rE e1 (rE e2 rfl)
  ·rw [if_neg hi] at hn; cases hn
 done := fun H s i o S hI ho hob hn => by
  subst hob
  rw [rangeInts_get] at hn
  by_cases hi : i < n
  ·rw [if_pos hi] at hn; cases hn
  ·exact wpAny_pyNext_range_end hA ho (by lia) fun h' he => ⟨h',s.toks,rfl,rfl,he⟩
 own := fun target v s i _ o Q ho hob h => letOwned_plain ho (by refine rE hob rfl) (T := "range_iterator") (by decide) h
 self := fun s i _ o E Q ho hob h => by subst hob; exact wpAny_pyIter_rangeiter ho h
theorem seq_rng {a b c : Int} {n : Nat} (hA : A.handled = none) (hs : Builtin.Range.small a b c = true) (hn : Builtin.Range.rangeSize a b c = n) : SeqOf C A (.rng a b c) H (rangeInts a c n) (fun _ => True) := by
 refine ⟨fun _ i => some (rangeInts a c n)[i]?,fun s r S hr => ?_,fun H' i ok => rfl⟩
 obtain ⟨z,t,u,w,rfl,ho⟩ := hr.rng_inv
 refine wpAny_pyIter_range ho hs ⟨s.heap.objs.size,_,_,s.toks,_,rfl,rfl,keep_push _ _,size_none,Heap.get?_push_size _ rfl,?_,prot_range hA⟩
 simp [hn]
theorem seq_rng1 {n : Nat} (hA : A.handled = none) (hn : n < 2 ^ 62) : SeqOf C A (.rng 0 n 1) H (rangeInts 0 1 n) (fun _ => True) :=
 seq_rng hA (small_one (by exact Int.neg_ofNat_le_ofNat (2 ^ 62) 0) (by exact PySem.W.kbt_pos 62) (by exact Int.neg_ofNat_le_natCast (2 ^ 62) n) (by exact Int.lt_toNat.mp hn)) (by refine rE (rangeSize_one ..) ?_; split <;> lia)
theorem CV_range1 {n : Int} {Q : V→Loc→CH→Prop} (h : Q (.rng 0 n 1) m H) : CV C A (.con (.type "range")) [.int n] [] m H Q := fun s rf rs rkw S hf hva hk => by
 have := hk.nil_inv; subst this
 refine rE hf.con_inv ?_
 refine eEA (one_inv hva) fun a zz1 ha => ?_; subst zz1
 refine eE ha.int_inv fun t zz1 => ?_; subst zz1
 exact call_range_1 ⟨_,m,H,.rng (Heap.get?_push_size _ rfl),S.more (keep_push _ _),.more (keep_push _ _),h⟩
theorem ES_for' {target iter : PySem.Expr} {body orelse : List Stmt} {p : Pos} {Q : Fl→Loc→CH→Prop}
  (h : EV C A iter m H fun v m₁ H₁ => ∃ (xs : List V) (ok : CH→Prop) (m₂ : Loc) (J : Nat→Loc→CH→Prop),SeqOf C A v H₁ xs ok∧Sub m₂ m₁∧J 0 m₂ H₁∧∀ i m H,J i m H→ok H ∧
   (∀ x,xs[i]? = some x→ASG C A target x m H fun m' H' => EX C A body m' H' (Turn Q (NextJ J (i + 1))))∧(i = xs.length→EX C A orelse m H Q))
  (hs : autoParam (∀ x,foldedSetIterable iter C.env x = pure x) Mine.syn2) : ES C A (.For target iter body orelse p) m H Q :=
 by
  refine ES_for (fun s S => wpAny_mono (h s S) ?_ fun _ _ x => x) hs
  rintro r s' ⟨v,m₁,H₁,hv,S₁,af,xs,ok,m₂,J,⟨nx,it,hnx⟩,hsub,hJ,turn⟩
  refine ⟨v,m₁,H₁,hv,S₁,af,nx,xs.length,m₂,fun i m H => J i m H∧i≤xs.length,it,hsub,⟨hJ,Nat.zero_le _⟩,?_⟩
  rintro i m H ⟨hj,hi⟩
  refine eAA (turn i m H hj) fun h1 h2 h3 => ?_
  refine ⟨hi,?_⟩
  rcases Nat.lt_or_ge i xs.length with hlt | hge
  ·have hx : xs[i]? = some xs[i] := List.getElem?_eq_getElem hlt
   refine .inl ⟨xs[i],(hnx H i h1).trans (by refine rE hx rfl),?_⟩
   have h2' := h2 _ hx
   intro s r S hr
   refine wpAny_mono (h2' s r S hr) (fun _ s' ⟨m',H',S',af',q⟩ => ⟨m',H',S',af',q.mono fun fl m₂ H₂ hq => ?_⟩) fun _ _ x => x
   cases fl with
   | next => obtain ⟨m₃,a,b⟩ := hq; exact ⟨m₃,a,b,hlt⟩
   | cont => obtain ⟨m₃,a,b⟩ := hq; exact ⟨m₃,a,b,hlt⟩
   | brk => exact hq
   | ret v => exact hq
  ·exact .inr ⟨(hnx H i h1).trans (by refine rE (List.getElem?_eq_none hge) rfl),h3 (by exact Nat.le_antisymm hi hge)⟩
end
end
end Mine
end
section
open PySem PySem.Calls PySem.W PyProof.Rows
set_option maxRecDepth 100000
namespace Mine
noncomputable section
section
variable {C : Cx} {A : Around} {m : Loc} {H : CH} {s : Shared}
inductive ForL (C : Cx) (A : Around) (xs : List V) (ok : CH→Prop) (m0 : Loc) (J : CH→Prop) (v : V) (m : Loc) (H : CH) : Prop
 | mk (q : SeqOf C A v H xs ok) (hs : Sub m0 m) (h : J H)
theorem EX_forL {α : Type} {l : List α} {f : α→V} {ok : CH→Prop} {m0 : Loc} {J : Nat→CH→Prop} {target iter : PySem.Expr} {body rest : List Stmt} {p : Pos} {Q : Fl→Loc→CH→Prop}
  (h : EV C A iter m H (ForL C A (l.map f) ok m0 (J 0))) (hok : ∀ t H,J t H→ok H)
  (turn : ∀ t x,l[t]? = some x→∀ H,J t H→∀ R : Fl→Loc→CH→Prop,(∀ m' H',Sub m0 m'→J (t + 1) H'→R .next m' H'∧R .cont m' H')→ASG C A target (f x) m0 H fun m' H' => EX C A body m' H' R)
  (k : ∀ H',J l.length H'→EX C A rest m0 H' Q)
  (hs : autoParam (∀ x,foldedSetIterable iter C.env x = pure x) Mine.syn2) : EX C A (.For target iter body [] p :: rest) m H Q := by
 refine EX_mid (fun m H => m = m0∧J l.length H) (ES_for' (h.mono fun v m₁ H₁ q => ?_) hs) (by rintro m₁ H₁ ⟨rfl,hq⟩; exact k H₁ hq)
 obtain ⟨q,hs,h0⟩ := q
 refine ⟨l.map f,ok,m0,fun i m H => m = m0∧J i H,q,hs,⟨rfl,h0⟩,?_⟩
 rintro i m' H' ⟨rfl,hJ⟩
 refine ⟨hok i H' hJ,fun y hy => ?_,fun hi => ?_⟩
 ·rw [List.getElem?_map] at hy
  refine eEA (Option.map_eq_some_iff.mp hy) fun x hx zz2 => ?_; subst zz2
  exact turn i x hx H' hJ _ fun m'' H'' hs hJ => ⟨⟨_,hs,rfl,hJ⟩,⟨_,hs,rfl,hJ⟩⟩
 ·rw [List.length_map] at hi
  subst hi
  exact EX_nil ⟨rfl,hJ⟩
theorem EX_forN {N : Nat} {f : Nat→V} {m0 : Loc} {J : Nat→CH→Prop} {target iter : PySem.Expr} {body rest : List Stmt} {p : Pos} {Q : Fl→Loc→CH→Prop}
  (h : EV C A iter m H (ForL C A ((List.range N).map f) (fun _ => True) m0 (J 0)))
  (turn : ∀ i,i < N→∀ H,J i H→∀ R : Fl→Loc→CH→Prop,(∀ m' H',Sub m0 m'→J (i + 1) H'→R .next m' H'∧R .cont m' H')→ASG C A target (f i) m0 H fun m' H' => EX C A body m' H' R)
  (k : ∀ H',J N H'→EX C A rest m0 H' Q)
  (hs : autoParam (∀ x,foldedSetIterable iter C.env x = pure x) Mine.syn2) : EX C A (.For target iter body [] p :: rest) m H Q := by
 refine EX_forL h (fun _ _ _ => trivial) (fun t x hx => ?_) (fun H' hJ => k H' (by rw [List.length_range] at hJ; exact hJ)) hs
 have ht : t < N := by
  have := (List.getElem?_eq_some_iff.mp hx).1
  rw [List.length_range] at this; exact this
 rw [List.getElem?_range ht] at hx
 cases hx
 exact turn t ht
end
inductive And2 (p q : Prop) : Prop
 | mk (h1 : p) (h2 : q)
end
end Mine
end
section
open PySem PySem.Calls PySem.W PyProof.Rows
set_option maxRecDepth 100000
namespace Mine
noncomputable section
noncomputable abbrev Cx.comp (C : Cx) (scope : Scope) (cl : List (Str × Addr)) (L : Addr) : Cx := { C with env := compEnvC scope cl L C.env }
noncomputable def ETs (C : Cx) (A : Around) : List PySem.Expr→Loc→CH→(Bool→Loc→CH→Prop)→Prop
 | [],m,H,Q => Q true m H
 | c :: cs,m,H,Q => EB C A c m H fun b m₁ H₁ => (b = true→ETs C A cs m₁ H₁ Q)∧(b = false→Q false m₁ H₁)
section
variable {C : Cx} {A : Around} {m : Loc} {H : CH} {s : Shared}
theorem tests_false {M : Model} {env : Env} {E : Value→Shared→Prop} {Q : Bool→Shared→Prop} : ∀ {ifs : List PySem.Expr} {s : Shared},Q false s →
  wpAny M A (forIn ifs false fun c r => if r = true then do let ok ← isTrue c env (eval c env); pure (ForInStep.yield ok) else pure (ForInStep.yield r)) Q E s
 | [],s,h => wpAny_pure h
 | c :: cs,s,h => by
  refine rE (List.forIn_cons ..) ?_
  exact wpAny_bind (wpAny_pure (tests_false h))
theorem tests_of {Q : Bool→Loc→CH→Prop} : ∀ {ifs : List PySem.Expr} {m : Loc} {H : CH} {s : Shared},ETs C A ifs m H Q→St C m H s →
  wpAny (model C.prog C.w) A (forIn ifs true fun c r => if r = true then do let ok ← isTrue c C.env (eval c C.env); pure (ForInStep.yield ok) else pure (ForInStep.yield r)) (PA C H s Q) NoE s
 | [],m,H,s,h,S => wpAny_pure (.here S h)
 | c :: cs,m,H,s,h,S => by
  refine rE (List.forIn_cons ..) ?_
  refine wpAny_bind (wpAny_bind (wpAny_mono (h s S) ?_ fun _ _ x => x))
  rintro b s₁ ⟨m₁,H₁,S₁,af₁,h₁⟩
  refine wpAny_pure ?_
  cases b with
  | true => exact wpAny_mono (tests_of (h₁.1 rfl) S₁) (fun _ _ x => x.mono S₁ af₁) fun _ _ x => x
  | false => exact tests_false ⟨m₁,H₁,S₁,af₁,h₁.2 rfl⟩
theorem HS.adopt (S : HS C H s) {a : Addr} {o : Obj} {c : CObj} (hb : C.h₀.get? a = none) (ho : s.heap.get? a = some o) (r : ORep C s.heap c o) : HS C (H.set a c) s where
 base := S.base
 own := fun b d e => by
  by_cases h : b = a
  ·subst h; rw [CH.set_same] at e; cases e; exact ⟨hb,o,ho,r⟩
  ·rw [CH.set_ne h] at e; exact S.own b d e
 gens := S.gens
theorem AfterC.thenAt {H₁ H₂ H₃ : CH} {s₁ s₂ s₃ : Shared} (a : AfterC H₁ s₁ H₂ s₂) (b : After C H₂ s₂ H₃ s₃) (hL : s₁.heap.get? C.env.locals = none) : AfterC H₁ s₁ H₃ s₃ where
 stay := fun x o hn e =>
  let ⟨o₁,e₁,k₁⟩ := a.stay x o hn e
  let ⟨o₂,e₂,k₂⟩ := b.stay x o₁ (fun q => by subst q; exact (no1 hL e).elim) (a.grow x o hn e) e₁
  ⟨o₂,e₂,k₁.trans k₂⟩
 grow := fun x o hn e => let ⟨o₁,e₁,_⟩ := a.stay x o hn e; b.grow x o₁ (a.grow x o hn e) e₁
 there := fun x o e => let ⟨o₁,e₁⟩ := a.there x o e; b.there x o₁ e₁
 drawn := b.drawn.trans a.drawn
 os := b.os.trans a.os
theorem AfterC.adopt {H₁ H₂ : CH} {s₁ s₂ : Shared} (a : AfterC H₁ s₁ H₂ s₂) {D : Addr} {c : CObj} (hD : s₁.heap.get? D = none) : AfterC H₁ s₁ (H₂.set D c) s₂ :=
 ⟨a.stay,fun b o hn e => by refine rE (CH.set_ne (fun q => by subst q; exact (no1 hD e).elim)) ?_; exact a.grow b o hn e,a.there,a.drawn,a.os⟩
theorem AfterC.hid {H₁ H₂ : CH} {s₁ s₂ : Shared} (a : AfterC H₁ s₁ H₂ s₂) {I : Addr} (hI : s₁.heap.get? I = none) {h' : Heap} {tk : Nat} (hs : Heap.ExtBut I s₂.heap h') : AfterC H₁ s₁ H₂ { s₂ with heap := h',toks := tk } :=
 ⟨fun b o hn e => let ⟨o',e',k⟩ := a.stay b o hn e; ⟨o',hs b o' (fun q => by subst q; exact (no1 hI e).elim) e',k⟩,a.grow,
  fun b o e => let ⟨o',e'⟩ := a.there b o e; ⟨o',hs b o' (fun q => by subst q; exact (no1 hI e).elim) e'⟩,a.drawn,a.os⟩
theorem HS.hid (S : HS C H s) {a : Addr} {oa : Obj} (ha : s.heap.get? a = some oa) (hH : H a = none) (hb : C.h₀.get? a = none) (ht : ¬ Imm oa) {h' : Heap} {tk : Nat} (hs : Heap.ExtBut a s.heap h') : HS C H { s with heap := h',toks := tk } := by
 have tk' : TupKeep s.heap h' := fun b o i e => hs b _ (fun q => by subst q; rw [ha] at e; cases e; exact ht i) e
 refine ⟨fun b o e => hs b o (fun q => by subst q; exact (no1 hb e).elim) (S.base b o e),fun b d e => ?_,S.gens⟩
 obtain ⟨x,o,hob,rb⟩ := S.own b d e
 exact ⟨x,o,hs b o (fun q => by subst q; exact (no1 hH e).elim) hob,rb.keep tk'⟩
theorem ns_not_imm {h : Heap} {L : Addr} {o : Obj} {mr : Str→Option Value} (hn : h.Ns L mr) (ho : h.get? L = some o) : ¬ Imm o := fun i => by
 obtain ⟨o',es,ep,ho',hd,_⟩ := hn
 rw [ho] at ho'; cases ho'; exact i.2.2.1 _ _ hd
structure Comp (C : Cx) (A : Around) (elt target : PySem.Expr) (ifs : List PySem.Expr) (scope : Scope) (cl : List (Str × Addr)) (xs : List V) (ok : CH→Prop) (J : Nat→List V→CH→Prop) : Prop where
 turn : ∀ i ys H',J i ys H'→ok H'∧ys.length≤sizeLine∧∀ x,xs[i]? = some x→∀ L,H' L = none→ASG (C.comp scope cl L) A target x [] H' fun m₂ H₂ => ETs (C.comp scope cl L) A ifs m₂ H₂ fun b m₃ H₃ =>
  (b = true→EV (C.comp scope cl L) A elt m₃ H₃ fun y m₄ H₄ => J (i + 1) (ys ++ [y]) H₄)∧(b = false→J (i + 1) ys H₃)
inductive CompI (C : Cx) (ob : Nat→Heap→Obj→Prop) (J : Nat→List V→CH→Prop) (N : Nat) (I D L : Addr) (H : CH) (s : Shared) (k : Nat) (s' : Shared) : Prop
 | mk (i : Nat) (ys : List V) (H' : CH) (mr : Str→Option Value) (o : Obj) (items : Array Value) (n : Nat) (hi : i≤N) (hk : k = N - i) (S : HS C H' s') (a : AfterC H s H' s') (hI : H' I = none) (hD : H' D = none) (hL : H' L = none) (hn : s'.heap.Ns L mr)
   (ho : s'.heap.get? I = some o) (hob : ob i s'.heap o) (hDo : s'.heap.get? D = some (seqObj "list" items n)) (hys : VRs s'.heap ys items.toList) (hJ : J i ys H') : CompI C ob J N I D L H s k s'
inductive CompO (P : Heap→Prop) (I D L : Addr) (ys : List V) (items : Array Value) (n : Nat) (o : Obj) (H : CH) (h : Heap) : Prop
 | mk (mr : Str→Option Value) (hI : H I = none) (hD : H D = none) (ho : h.get? I = some o) (hob : P h) (hDo : h.get? D = some (seqObj "list" items n)) (hys : VRs h ys items.toList) (hn : h.Ns L mr) : CompO P I D L ys items n o H h
theorem comp_loop {elt target iter : PySem.Expr} {ifs : List PySem.Expr} {scope : Scope} {cl : List (Str × Addr)} {pos : Pos} {RRl : Result→Shared→Prop} {I D L : Addr} {ob : Nat→Heap→Obj→Prop} {nx : CH→Nat→Option (Option V)} {xs : List V} {ok : CH→Prop} {J : Nat→List V→CH→Prop}
  (F₁ : Frs C H s) (P : Prot C A I ob nx) (hnx : ∀ H' i,ok H'→nx H' i = some xs[i]?) (K : Comp C A elt target ifs scope cl xs ok J) (hI : s.heap.get? I = none) (hD0 : s.heap.get? D = none) (hL0 : s.heap.get? L = none) (hDL : D≠L) (hID : I≠D) (hIL : I≠L) (hnb : ∀ a,s.heap.get? a = none→C.h₀.get? a = none)
  (fin : ∀ s' H' ys mr,HS C H' s'→AfterC H s H' s'→H' D = none→H' L = none→s'.heap.Ns L mr→(∃ items n,s'.heap.get? D = some (seqObj "list" items n)∧VRs s'.heap ys items.toList)→J xs.length ys H'→RRl (.ok .next) s') {k : Nat} {s₄ : Shared} (h : CompI C ob J xs.length I D L H s k s₄) :
  codeAny (model C.prog C.w) A (.compLoop (.ListComp elt [⟨target,iter,ifs,0⟩] scope pos) 0 (.ref I) (.ref D) (C.comp scope cl L).env) RRl s₄ := by
 refine codeAny_loop rfl (CompI C ob J xs.length I D L H s) ?_ k h
 rintro k s' ⟨i,ys,H',mr,oi,items,n,hi,rfl,S',af',hI',hD',hL',hn',hoi,hobi,hDi,hys,hJ'⟩
 show wpAny _ A ((compTurn (.ListComp elt [⟨target,iter,ifs,0⟩] scope pos) 0 (.ref I) (.ref D) (C.comp scope cl L).env).onRaise (fun x => do noteFrame x (C.comp scope cl L).env; theTreesLotGoes x)) _ _ s'
 refine wpAny_noted (wpAny_noRaise ?_)
 refine wpAny_hide fun R0 hR0 => ?_
 refine rE (compTurn_list ..) ?_
 refine eAA (K.turn i ys H' hJ') fun hok hsz turn => ?_
 rcases Nat.lt_or_ge i xs.length with hlt | hge
 ·have hx : xs[i]? = some xs[i] := List.getElem?_eq_getElem hlt
  refine wpAny_bind (wpAny_standAt (wpAny_bind (wpAny_mono (P.item H' s' i oi xs[i] S' hI' hoi hobi ((hnx H' i hok).trans (by refine rE hx rfl))) ?_ fun _ _ x => x)))
  rintro rx s₅ ⟨rv,h₅,tk₅,o₅,rfl,rfl,hrv,he₅,hI₅,hob₅⟩
  dsimp only
  refine wpAny_bind (P.own target rv _ (i + 1) _ o₅ _ hI₅ hob₅ ?_)
  have hIb := hnb I hI
  have S₅ : HS C H' { s' with heap := h₅,toks := tk₅ } := S'.hid hoi hI' hIb (P.plain _ _ _ hobi) he₅
  have af₅ : AfterC H s H' { s' with heap := h₅,toks := tk₅ } := af'.hid hI he₅
  have k₅ : TupKeep s'.heap h₅ := tup_ext hoi (P.plain _ _ _ hobi) he₅
  have T₅ : St (C.comp scope cl L) [] H' { s' with heap := h₅,toks := tk₅ } := ⟨⟨S₅.base,S₅.own,S₅.gens⟩,⟨mr,hn'.extBut he₅ (Ne.symm hIL),fun _ _ e => by simp at e⟩,hL',hnb L hL0,fun e he => F₁.after af₅ e he⟩
  refine wpAny_bind (wpAny_mono (turn xs[i] hx L hL' _ rv T₅ hrv) ?_ fun _ _ x => x)
  rintro _ s₆ ⟨m₆,H₆,T₆,a₆,h₆⟩
  refine wpAny_bind (wpAny_mono (tests_of h₆ T₆) ?_ fun _ _ x => x)
  rintro b s₇ ⟨m₇,H₇,T₇,a₇,h₇⟩
  have aL₇ := a₆.then T₆ a₇
  have af₇ : AfterC H s H₇ s₇ := af₅.thenAt (C := C.comp scope cl L) aL₇ hL0
  have other : ∀ {s₉ : Shared} {H₉ : CH} {m₉ : Loc},St (C.comp scope cl L) m₉ H₉ s₉→After (C.comp scope cl L) H' { s' with heap := h₅,toks := tk₅ } H₉ s₉ →
    CompO (fun h => ob (i + 1) h o₅) I D L ys items n o₅ H₉ s₉.heap := fun {s₉ H₉ m₉} T₉ a₉ => by
   obtain ⟨o1,e1,k1⟩ := a₉.stay I o₅ hIL hI' hI₅
   rw [k1.exact (fun es ep => P.nodict _ _ _ es ep hob₅)] at e1
   have hD₅ : h₅.get? D = some (seqObj "list" items n) := he₅ D _ (Ne.symm hID) hDi
   obtain ⟨o2,e2,k2⟩ := a₉.stay D _ hDL hD' hD₅
   rw [k2.exact (by intro es ep q; cases q)] at e2
   refine eEA T₉.ns fun mr9 hn9 _ => ?_
   exact ⟨mr9,a₉.grow I _ hI' hI₅,a₉.grow D _ hD' hD₅,e1,P.kept _ _ _ _ (a₉.tup T₅) (P.kept _ _ _ _ k₅ hob₅),e2,(hys.keep k₅).keep (a₉.tup T₅),hn9⟩
  cases b with
  | false =>
   obtain ⟨mr9,b1,b2,b3,b4,b5,b6,b7⟩ := other T₇ aL₇
   exact wpAny_pure (hR0 _ _ ⟨rfl,xs.length - (i + 1),by exact Nat.sub_succ_lt_self xs.length i hlt,i + 1,ys,H₇,mr9,o₅,items,n,hlt,rfl,⟨T₇.base,T₇.own,T₇.gens⟩,af₇,b1,b2,T₇.loc,b7,b3,b4,b5,b6,h₇.2 rfl⟩)
  | true =>
   refine wpAny_bind (wpAny_bind (wpAny_mono (h₇.1 rfl s₇ T₇) ?_ fun _ _ x => x))
   rintro ry s₈ ⟨y,m₈,H₈,hy,T₈,a₈,h₈⟩
   have aL₈ := aL₇.then T₇ a₈
   have af₈ : AfterC H s H₈ s₈ := af₅.thenAt (C := C.comp scope cl L) aL₈ hL0
   obtain ⟨mr9,b1,b2,b3,b4,b5,b6,b7⟩ := other T₈ aL₈
   have hzz : items.size≤sizeLine := by have := b6.length; simp at this; lia
   refine wpAny_bind (call_meets F.slot_list_append ⟨_,b5,rfl⟩ F.entry_list_append (F.args_list_append_2 _ _) (list_append D items n ry hzz) ⟨b5,?_⟩)
   refine wpAny_pure (wpAny_pure ?_)
   have hu : Heap.SameBut D s₈.heap (s₈.heap.update D (Obj.mapSeq (·.push ry))) := Heap.SameBut.update ..
   have S₈ : HS C H₈ s₈ := ⟨T₈.base,T₈.own,T₈.gens⟩
   have niD : ¬ Imm (seqObj "list" items n) := not_imm_cls (T := "list") rfl (by decide) (by intro _ _ _ e; cases e)
   have k₉ : TupKeep s₈.heap (s₈.heap.update D (Obj.mapSeq (·.push ry))) := tup_ext b5 niD hu.extBut
   refine hR0 _ _ ⟨rfl,xs.length - (i + 1),by exact Nat.sub_succ_lt_self xs.length i hlt,i + 1,ys ++ [y],H₈,mr9,o₅,_,_,hlt,rfl,S₈.hid (tk := s₈.toks) b5 b2 (hnb D hD0) niD hu.extBut,af₈.hid (tk := s₈.toks) hD0 hu.extBut,b1,b2,T₈.loc,b7.sameBut hu (Ne.symm hDL),hu.extBut I _ hID b3,P.kept _ _ _ _ k₉ b4,IsL.update b5 _,?_,h₈⟩
   refine rE Array.toList_push ?_
   exact (b6.keep k₉).append (.cons (hy.keep k₉) .nil)
 ·have hie : i = xs.length := by exact Nat.le_antisymm hi hge
  subst hie
  refine wpAny_bind (wpAny_standAt (wpAny_bind (wpAny_mono (P.done H' s' xs.length oi S' hI' hoi hobi ((hnx H' xs.length hok).trans (by refine rE (List.getElem?_eq_none (Nat.le_refl _)) rfl))) ?_ fun _ _ x => x)))
  rintro rx s₅ ⟨h₅,tk₅,rfl,rfl,he₅⟩
  have k₅ : TupKeep s'.heap h₅ := tup_ext hoi (P.plain _ _ _ hobi) he₅
  exact wpAny_pure (hR0 _ _ (fin _ H' ys mr (S'.hid hoi hI' (hnb I hI) (P.plain _ _ _ hobi) he₅) (af'.hid hI he₅) hD' hL' (hn'.extBut he₅ (Ne.symm hIL)) ⟨items,n,he₅ D _ (Ne.symm hID) hDi,hys.keep k₅⟩ hJ'))
theorem HS.draw (S : HS C H s) (d : Drawn) : HS C H { s with drawn := d } := ⟨S.base,S.own,S.gens⟩
theorem AfterC.draw {H' : CH} {s' : Shared} (a : AfterC H s H' s') (d : Drawn) : AfterC H s H' { s' with drawn := d } := ⟨a.stay,a.grow,a.there,rfl,a.os⟩
inductive LCI (C : Cx) (A : Around) (elt target : PySem.Expr) (ifs : List PySem.Expr) (scope : Scope) (cl : List (Str × Addr)) (H : CH) (s : Shared) (Qf : List V→CH→Prop) (ri : Value) (s' : Shared) : Prop
 | mk (xs : List V) (ok : CH→Prop) (J : Nat→List V→CH→Prop) (nx : CH→Nat→Option (Option V)) (I : Addr) (ob : Nat→Heap→Obj→Prop) (h' : Heap) (tk : Nat) (d : Drawn) (o : Obj) (e1 : ri = .ref I) (e2 : s' = { s with heap := h',toks := tk,drawn := d }) (hk : ∀ b o,s.heap.get? b = some o→h'.get? b = some o) (hI : s.heap.get? I = none) (ho : h'.get? I = some o) (hob : ob 0 h' o) (P : Prot C A I ob nx)
   (hnx : ∀ H' i,ok H'→nx H' i = some xs[i]?) (K : Comp C A elt target ifs scope cl xs ok J) (hJ : J 0 [] H) (fin : ∀ ys H',J xs.length ys H'→Qf ys H') : LCI C A elt target ifs scope cl H s Qf ri s'
theorem comp_core {elt target iter : PySem.Expr} {ifs : List PySem.Expr} {scope : Scope} {cl : List (Str × Addr)} {pos : Pos} {RR : Value→Addr→Result→Shared→Prop} {r : Value} {Qf : List V→CH→Prop}
  (hcell : ∀ y ∈ scope.names,y.2≠.cell) (hkind : scope.kind = .function) (S₁ : HS C H s) (F₁ : Frs C H s) (q : wpAny (model C.prog C.w) A (pyIter r) (LCI C A elt target ifs scope cl H s Qf) NoE s)
  (fin : ∀ D L s' H' ys mr,HS C H' s'→AfterC H s H' s'→s.heap.get? D = none→s.heap.get? L = none→D≠L→H' D = none→H' L = none→C.h₀.get? D = none→C.h₀.get? L = none→s'.heap.Ns L mr→(∃ items n,s'.heap.get? D = some (seqObj "list" items n)∧VRs s'.heap ys items.toList)→Qf ys H'→RR (.ref D) L (.ok .next) s') :
  wpAny (model C.prog C.w) A (pyIter r) (fun it s₂ => wpAny (model C.prog C.w) A (newList []) (fun acc s₃ => wpAny (model C.prog C.w) A (newFunctionEnv scope C.env.globals cl [] C.env.qual none .none (some C.env)) (fun cenv s₄ =>
   codeAny (model C.prog C.w) A (.compStart (.ListComp elt [⟨target,iter,ifs,0⟩] scope pos) 0 it acc { cenv with scope := relabel scope C.env }) (RR acc cenv.locals) s₄) NoE s₃) NoE s₂) NoE s := by
 refine wpAny_mono q ?_ fun _ _ x => x
 rintro ri s₂ ⟨xs,ok,J,nx,I,ob,h₂,tk₂,d₂,o0,rfl,rfl,hk₂,hI,hob,hob0,P,hnx,K,hJ,finJ⟩
 refine wpAny_newObj_type (wpAny_newFunctionEnv hcell (by intro y hy; simp at hy) (fun h₄ hns₄ hsb₄ => ?_) hkind)
 dsimp only at hns₄ hsb₄ ⊢
 generalize hDd : h₂.objs.size = D at *
 generalize hH3 : h₂.push { cls := .type "list",dict := none,data := .seq ([] : List Value).toArray } = H3 at *
 generalize hLd : H3.objs.size = L at *
 have hDL : D≠L := by
  have : H3.objs.size = h₂.objs.size + 1 := by refine rF hH3 (rE (Heap.size_push ..) rfl)
  show ¬ ((D : Nat) = L)
  lia
 have keep4 : ∀ b o,h₂.get? b = some o→h₄.get? b = some o := fun b o e => by
  have hb : (b : Nat) < h₂.objs.size := Heap.lt_size e
  have h3 : H3.get? b = some o := by refine rF hH3 ?_; exact Heap.get?_push_of_some _ e
  have h3s : H3.objs.size = h₂.objs.size + 1 := by refine rF hH3 (rE (Heap.size_push ..) rfl)
  have hbL : (b : Nat) < L := by refine rF hLd (rE h3s ?_); exact Nat.lt_succ_of_lt hb
  exact hsb₄.extBut b o (Nat.ne_of_lt hbL) (Heap.get?_push_of_some _ h3)
 have fresh : ∀ a,(h₂.objs.size : Nat)≤a→s.heap.get? a = none := fun a ha => by
  cases e : s.heap.get? a with
  | none => rfl
  | some o' => exact absurd (Heap.lt_size (hk₂ _ _ e)) (Nat.not_lt.mpr ha)
 have hD0 : s.heap.get? D = none := fresh D (by show (h₂.objs.size : Nat)≤D; exact Nat.le_of_eq hDd)
 have hL0 : s.heap.get? L = none := fresh L (by
  have : H3.objs.size = h₂.objs.size + 1 := by refine rF hH3 (rE (Heap.size_push ..) rfl)
  show (h₂.objs.size : Nat)≤L; lia)
 have hnb : ∀ a,s.heap.get? a = none→C.h₀.get? a = none := fun a ha => by
  exact S₁.base_none ha
 have hnH : ∀ a,s.heap.get? a = none→H a = none := fun a ha => by
  exact S₁.own_none ha
 have hDobj : h₄.get? D = some (seqObj "list" #[] 0) := by
  have h3 : H3.get? D = some (seqObj "list" #[] 0) := by refine rF hH3 (rF hDd ?_); exact Heap.get?_push_size _ rfl
  exact hsb₄.extBut D _ hDL (Heap.get?_push_of_some _ h3)
 have hIobj : h₄.get? I = some o0 := keep4 I o0 hob
 have hID : I≠D := fun e => by
  have := Heap.lt_size hob
  exact absurd (show (D : Nat) < h₂.objs.size from e ▸ this) (by (clear hkind hI hob hH3 hLd hDL hD0 hL0 hDobj hIobj e this; lia))
 have hIL : I≠L := fun e => by
  have := Heap.lt_size hob
  have h3 : H3.objs.size = h₂.objs.size + 1 := by refine rF hH3 (rE (Heap.size_push ..) rfl)
  exact absurd (show (L : Nat) < h₂.objs.size from e ▸ this) (by (clear hkind hI hob hH3 hDL hD0 hL0 hDobj hIobj hID e this; lia))
 have af4 : AfterC H s H { s with heap := h₄,toks := tk₂,drawn := d₂ } := (AfterC.more (tk := tk₂) fun b o e => keep4 b o (hk₂ b o e)).draw d₂
 have S4 : HS C H { s with heap := h₄,toks := tk₂,drawn := d₂ } := (S₁.more (tk := tk₂) fun b o e => keep4 b o (hk₂ b o e)).draw d₂
 have loop := comp_loop (elt := elt) (target := target) (iter := iter) (ifs := ifs) (pos := pos) (RRl := RR (.ref D) L) F₁ P hnx K hI hD0 hL0 hDL hID hIL hnb (fun s' H' ys mr a b c d e f g => fin D L s' H' ys mr a b hD0 hL0 hDL c d (hnb D hD0) (hnb L hL0) e f (finJ _ _ g)) (k := xs.length) (s₄ := { s with heap := h₄,toks := tk₂,drawn := d₂ })
  ⟨0,[],H,_,o0,#[],0,Nat.zero_le _,rfl,S4,af4,hnH I hI,hnH D hD0,hnH L hL0,hns₄,hIobj,P.kept _ _ _ _ (.of_keep keep4) hob0,hDobj,.nil,hJ⟩
 exact codeAny_compStart_list loop (P.self _ 0 h₂ o0 _ _ hIobj hob0 loop)
noncomputable def scopeOk (scope : Scope) : Bool := scope.kind == .function && scope.names.all (fun y => y.2 != .cell) && scope.names.all (fun y => y.2 != .local || scope.names.lookup y.1 == some .local)
theorem scopeOk.get {scope : Scope} (h : scopeOk scope = true) : scope.kind = .function∧(∀ y ∈ scope.names,y.2≠.cell)∧∀ y ∈ scope.names,y.2 = .local→scope.names.lookup y.1 = some .local := by
 unfold scopeOk at h
 simp only [Bool.and_eq_true,List.all_eq_true,beq_iff_eq,bne_iff_ne,Bool.or_eq_true] at h
 refine ⟨h.1.1,h.1.2,fun y hy hl => ?_⟩
 rcases h.2 y hy with q | q
 ·exact absurd hl q
 ·exact q
inductive LC (C : Cx) (A : Around) (elt target : PySem.Expr) (ifs : List PySem.Expr) (scope : Scope) (cl : List (Str × Addr)) (v : V) (H : CH) (Q : V→CH→Prop) : Prop
 | mk (Qf : List V→CH→Prop) (g : ∀ s r,HS C H s→VR s.heap v r→wpAny (model C.prog C.w) A (pyIter r) (LCI C A elt target ifs scope cl H s Qf) NoE s) (fin : ∀ ys H' D,Qf ys H'→H' D = none→C.h₀.get? D = none→Q (.ref D) (H'.set D (.list ys)))
theorem LC.of {elt target : PySem.Expr} {ifs : List PySem.Expr} {scope : Scope} {cl : List (Str × Addr)} {v : V} {Q : V→CH→Prop} (xs : List V) (ok : CH→Prop) (J : Nat→List V→CH→Prop) (q : SeqOf C A v H xs ok) (K : Comp C A elt target ifs scope cl xs ok J) (h0 : J 0 [] H)
  (fin : ∀ ys H' D,J xs.length ys H'→H' D = none→C.h₀.get? D = none→Q (.ref D) (H'.set D (.list ys))) : LC C A elt target ifs scope cl v H Q := by
 obtain ⟨nx,it,hnx⟩ := q
 refine ⟨J xs.length,fun s r S hv => wpAny_mono (it s r S hv) ?_ fun _ _ x => x,fin⟩
 rintro ri s₂ ⟨I,ob,h₂,tk₂,o0,rfl,rfl,hk₂,hI,hob,hob0,P⟩
 exact ⟨xs,ok,J,nx,I,ob,h₂,tk₂,s.drawn,o0,rfl,rfl,hk₂,hI,hob,hob0,P,hnx,K,h0,fun _ _ h => h⟩
noncomputable abbrev KLc (C : Cx) (A : Around) (elt target : PySem.Expr) (ifs : List PySem.Expr) (scope : Scope) (cl : List (Str × Addr)) (Q : V→Loc→CH→Prop) : V→Loc→CH→Prop := fun v m H => LC C A elt target ifs scope cl v H (KAt m Q)
theorem EV_lc {elt target iter : PySem.Expr} {ifs : List PySem.Expr} {scope : Scope} {cl : List (Str × Addr)} {pos : Pos} {Q : V→Loc→CH→Prop}
  (h : EV C A iter m H (KLc C A elt target ifs scope cl Q))
  (hclos : autoParam (closureFor scope C.env = pure cl) Mine.syn1) (hok : autoParam (scopeOk scope = true) Mine.syn1) (hs : autoParam (∀ x,foldedSetIterable iter C.env x = pure x) Mine.syn2) :
  EV C A (.ListComp elt [⟨target,iter,ifs,0⟩] scope pos) m H Q := fun s S => by
 refine eAA (scopeOk.get hok) fun hkind hcell hnames => ?_
 refine rE (eval_ListComp ..) ?_
 refine wpAny_comprehension_free (use := none) rfl hs hclos hkind hnames (wpAny_mono (h s S) ?_ fun _ _ x => x)
 rintro r s₁ ⟨v,m₁,H₁,hv,S₁,af₁,Qf,g,fin⟩
 refine comp_core (RR := fun acc L => compPost (model C.prog C.w) A NoE none (PV C H s Q) acc L) hcell hkind S₁.toHS S₁.frs (g s₁ r S₁.toHS hv) ?_
 intro D L s' H' ys mr S' af' hD hL hDL hD' hL' hDb hLb hn ⟨items,n,hDo,hys⟩ hJ'
 refine ⟨mr,hn,fun h'' hs'' => ?_⟩
 obtain ⟨oL,_,_,hoL,_⟩ := id hn
 have S₂ : HS C H' { s' with heap := h'' } := S'.hid (tk := s'.toks) hoL hL' hLb (ns_not_imm hn hoL) hs''.extBut
 have af₂ : AfterC H₁ s₁ H' { s' with heap := h'' } := af'.hid (tk := s'.toks) hL hs''.extBut
 have hDo' : h''.get? D = some (seqObj "list" items n) := hs''.extBut D _ hDL hDo
 have tk' : TupKeep s'.heap h'' := tup_ext hoL (ns_not_imm hn hoL) hs''.extBut
 have S₃ : HS C (H'.set D (.list ys)) { s' with heap := h'' } := S₂.adopt hDb hDo' ⟨items,n,rfl,hys.keep tk'⟩
 have af₃ : AfterC H₁ s₁ (H'.set D (.list ys)) { s' with heap := h'' } := af₂.adopt hD
 exact ⟨.ref D,m₁,_,.ref,S₁.called S₃ af₃,af₁.then S₁ af₃.after,fin ys H' D hJ' hD' hDb⟩
theorem ES_assign_lc {elt target iter : PySem.Expr} {ifs : List PySem.Expr} {scope : Scope} {cl : List (Str × Addr)} {x : Str} {px pos spos : Pos} {Q : Fl→Loc→CH→Prop}
  (h : EV C A iter m H fun v m₁ H₁ => LC C A elt target ifs scope cl v H₁ fun v H' => Q .next ((x,v) :: m₁) H')
  (hsw : autoParam (swapsWith (.ListComp elt [⟨target,iter,ifs,0⟩] scope pos) (some (.Name x px)) spos.line C.env = pure true) Mine.syn1)
  (hclos : autoParam (closureFor scope C.env = pure cl) Mine.syn1) (hok : autoParam (scopeOk scope = true) Mine.syn1) (hs : autoParam (∀ x,foldedSetIterable iter C.env x = pure x) Mine.syn2)
  (hl : autoParam (C.env.kindOf x = some .local) Mine.syn1) (hp : autoParam ((C.env.scope.kind == .class || (C.env.scope.kind == .module && C.env.locals != C.env.globals)) = false) Mine.syn1) :
  ES C A (.Assign [.Name x px] (.ListComp elt [⟨target,iter,ifs,0⟩] scope pos) spos) m H Q := fun s S => by
 refine eAA (scopeOk.get hok) fun hkind hcell hnames => ?_
 refine rE (exec_Assign_Name_used _ _ _ _ hsw) ?_
 refine wpAny_bind (wpAny_standAt (wpAny_bind ?_))
 show wpAny _ A (do let _ ← comprehension (.ListComp elt [⟨target,iter,ifs,0⟩] scope pos) scope C.env _ (newList []) false (eval iter C.env) (some (assign (.Name x px) C.env))) _ _ s
 refine wpAny_bind (wpAny_mono (wpAny_comprehension_free (use := some (assign (.Name x px) C.env)) (Q := fun _ s' => PF C H s Q .next s') rfl hs hclos hkind hnames
  (wpAny_mono (h s S) ?_ fun _ _ e => e)) (fun _ s' hq => wpAny_pure (wpAny_pure hq)) fun _ _ e => e)
 rintro r s₁ ⟨v,m₁,H₁,hv,S₁,af₁,Qf,g,fin⟩
 refine comp_core (RR := fun acc L => compPost (model C.prog C.w) A NoE (some (assign (.Name x px) C.env)) (fun _ s' => PF C H s Q .next s') acc L) hcell hkind S₁.toHS S₁.frs (g s₁ r S₁.toHS hv) ?_
 intro D L s' H' ys mr S' af' hD hL hDL hD' hL' hDb hLb hn ⟨items,n,hDo,hys⟩ hJ'
 have S₃ : HS C (H'.set D (.list ys)) s' := S'.adopt hDb hDo ⟨items,n,rfl,hys⟩
 have af₃ : AfterC H₁ s₁ (H'.set D (.list ys)) s' := af'.adopt hD
 have T₃ : St C m₁ (H'.set D (.list ys)) s' := S₁.called S₃ af₃
 have hLl : C.env.locals≠L := fun e => by refine eE S₁.at_loc fun o e' => ?_; rw [e,hL] at e'; cases e'
 refine eEA T₃.ns fun mr' hn' hk' => ?_
 show wpAny _ A (assign (.Name x px) C.env (.ref D)) _ _ _
 refine wpAny_assign_Name (wpAny_storeName_local hl hn' (fun h₂ hn₂ hs₂ => ?_) hp)
 have T₄ : St C ((x,.ref D) :: m₁) (H'.set D (.list ys)) { s' with heap := h₂,toks := s'.toks + 1 } := T₃.store (tk := s'.toks + 1) (v := .ref D) .ref hk' hn₂ hs₂
 have af₄ : After C H₁ s₁ (H'.set D (.list ys)) { s' with heap := h₂,toks := s'.toks + 1 } := (After.then T₃ af₃.after (.store (tk := s'.toks + 1) hn₂ hs₂))
 have hnL : h₂.Ns L mr := hn.sameBut hs₂ (Ne.symm hLl)
 refine ⟨mr,hnL,fun h₃ hs₃ => ?_⟩
 obtain ⟨oL,_,_,hoL,_⟩ := id hnL
 have hLD : (H'.set D (.list ys)) L = none := by refine rE (CH.set_ne (Ne.symm hDL)) ?_; exact hL'
 have af₅ : After C H₁ s₁ (H'.set D (.list ys)) { s' with heap := h₃,toks := s'.toks + 1 } := af₄.hid (tk := s'.toks + 1) hL hs₃.extBut
 have S₅ : HS C (H'.set D (.list ys)) { s' with heap := h₃,toks := s'.toks + 1 } := T₄.toHS.hid (tk := s'.toks + 1) hoL hLD hLb (ns_not_imm hnL hoL) hs₃.extBut
 have tk₅ : TupKeep h₂ h₃ := tup_ext hoL (ns_not_imm hnL hoL) hs₃.extBut
 have T₅ : St C ((x,.ref D) :: m₁) (H'.set D (.list ys)) { s' with heap := h₃,toks := s'.toks + 1 } := by
  refine eEA T₄.ns fun mr5 hn5 k5 => ?_
  refine ⟨S₅,⟨mr5,hn5.extBut hs₃.extBut hLl,k5.keep tk₅⟩,T₄.loc,T₄.locb,fun e he => ?_⟩
  obtain ⟨a1,a2,a3,f,o,es,ep,hf,ho,hd,hnf,hb⟩ := T₄.frs e he
  have hfL : f≠L := fun q => by
   obtain ⟨_,_,_,f',o',es',ep',hf',ho',_⟩ := S₁.frs e he
   rw [hf] at hf'; cases hf'; rw [q,hL] at ho'; cases ho'
  exact ⟨a1,a2,a3,f,o,es,ep,hf,hs₃.extBut f _ hfL ho,hd,hnf,hb⟩
 exact ⟨.next,_,_,rfl,T₅,af₁.then S₁ af₅,fin ys H' D hJ' hD' hDb⟩
theorem LC_pure {elt target : PySem.Expr} {ifs : List PySem.Expr} {scope : Scope} {cl : List (Str × Addr)} {v : V} {Q : V→CH→Prop} {α : Type} (l : List α) (φ : α→V) (p : α→Bool) (f : α→V) {ok : CH→Prop}
  (hs : SeqOf C A v H (l.map φ) ok) (hok : ok H) (hsz : l.length≤sizeLine)
  (turn : ∀ a ∈ l,∀ L,H L = none→ASG (C.comp scope cl L) A target (φ a) [] H fun m₂ H₂ => ETs (C.comp scope cl L) A ifs m₂ H₂ fun b m₃ H₃ => b = p a∧H₃ = H∧(b = true→EV (C.comp scope cl L) A elt m₃ H₃ fun y m₄ H₄ => y = f a∧H₄ = H))
  (fin : ∀ D,H D = none→C.h₀.get? D = none→Q (.ref D) (H.set D (.list ((l.filter p).map f)))) : LC C A elt target ifs scope cl v H Q := by
 refine .of (l.map φ) ok (fun i ys H' => H' = H∧i≤l.length∧ys = ((l.take i).filter p).map f) hs ⟨?_⟩ ⟨rfl,Nat.zero_le _,by rfl⟩ ?_
 ·rintro i ys H' ⟨rfl,hi,rfl⟩
  refine ⟨hok,?_,?_⟩
  ·refine rE (List.length_map ..) ?_
   exact Nat.le_trans (List.length_filter_le ..) (Nat.le_trans (by refine rE List.length_take ?_; exact Nat.min_le_right i l.length) hsz)
  ·intro x hx L hL
   rw [List.getElem?_map] at hx
   refine eEA (Option.map_eq_some_iff.mp hx) fun a ha zz2 => ?_; subst zz2
   have hil : i < l.length := (List.getElem?_eq_some_iff.mp ha).1
   have htk : l.take (i + 1) = l.take i ++ [a] := by refine rE List.take_add_one (rE ha ?_); rfl
   have := turn a (List.mem_of_getElem? ha) L hL
   intro s r S hr
   refine wpAny_mono (this s r S hr) (fun _ s' ⟨m₂,H₂,S₂,af₂,h₂⟩ => ⟨m₂,H₂,S₂,af₂,?_⟩) fun _ _ x => x
   have mono : ∀ {ifs : List PySem.Expr} {m₂ : Loc} {H₂ : CH} {Q Q' : Bool→Loc→CH→Prop},(∀ b m H,Q b m H→Q' b m H)→ETs (C.comp scope cl L) A ifs m₂ H₂ Q→ETs (C.comp scope cl L) A ifs m₂ H₂ Q' := by
    intro ifs
    induction ifs with
    | nil => intro m₂ H₂ Q Q' q h; exact q _ _ _ h
    | cons c cs ih => intro m₂ H₂ Q Q' q h; exact EB.mono h fun b m H hb => ⟨fun e => ih q (hb.1 e),fun e => q _ _ _ (hb.2 e)⟩
   refine mono ?_ h₂
   rintro b m₃ H₃ ⟨rfl,rfl,hel⟩
   refine ⟨fun hb => (hel hb).mono ?_,fun hb => ⟨rfl,hil,?_⟩⟩
   ·rintro y m₄ H₄ ⟨rfl,rfl⟩
    exact ⟨rfl,hil,by refine rE htk (rE (List.filter_append ..) (rE List.map_append (rE List.filter_cons (rE hb ?_)))); rfl⟩
   ·refine rE htk (rE (List.filter_append ..) (rE List.map_append (rE List.filter_cons (rE hb ?_)))); simp
 ·rintro ys H' D ⟨rfl,_,rfl⟩ hD hDb
  refine rE (List.length_map ..) (rE List.take_length ?_)
  exact fin D hD hDb
theorem LC_all {elt target : PySem.Expr} {ifs : List PySem.Expr} {scope : Scope} {cl : List (Str × Addr)} {v : V} {Q : V→CH→Prop} {α : Type} (l : List α) (φ : α→V) (f : α→V) {ok : CH→Prop}
  (hs : SeqOf C A v H (l.map φ) ok) (hok : ok H) (hsz : l.length≤sizeLine)
  (turn : ∀ a ∈ l,∀ L,H L = none→ASG (C.comp scope cl L) A target (φ a) [] H fun m₂ H₂ => ETs (C.comp scope cl L) A ifs m₂ H₂ fun b m₃ H₃ => b = true∧H₃ = H∧(b = true→EV (C.comp scope cl L) A elt m₃ H₃ fun y m₄ H₄ => y = f a∧H₄ = H))
  (fin : ∀ D,H D = none→C.h₀.get? D = none→Q (.ref D) (H.set D (.list (l.map f)))) : LC C A elt target ifs scope cl v H Q :=
 LC_pure l φ (fun _ => true) f hs hok hsz turn fun D h1 h2 => by refine rE (List.filter_eq_self.mpr fun _ _ => rfl) ?_; exact fin D h1 h2
end
end
end Mine
end
section
open PySem PySem.Calls PySem.W PyProof.Rows
set_option maxRecDepth 100000
namespace Mine
noncomputable section
section
variable {C : Cx} {A : Around} {m : Loc} {H : CH} {s : Shared} {K : Frag} {mg mb : Str→Option Value}
theorem HS.updExt (S : HS C H s) {a : Addr} {c c' : CObj} (hc : H a = some c) {h' : Heap} {o' : Obj} {tk : Nat} (hs : Heap.ExtBut a s.heap h') (ho : h'.get? a = some o') (r : ORep C h' c' o') :
  HS C (H.set a c') { s with heap := h',toks := tk }∧TupKeep s.heap h' := by
 obtain ⟨ha0,oa,hoa,ra⟩ := S.own a c hc
 have tk' : TupKeep s.heap h' := fun b o i e => hs b _ (fun q => by subst q; rw [hoa] at e; cases e; exact ra.not_imm i) e
 refine ⟨⟨fun b o e => hs b _ (fun q => by subst q; rw [ha0] at e; cases e) (S.base b o e),fun b d e => ?_,S.gens⟩,tk'⟩
 by_cases h : b = a
 ·subst h; rw [CH.set_same] at e; cases e; exact ⟨ha0,o',ho,r⟩
 ·rw [CH.set_ne h] at e
  obtain ⟨x,o,hob,rb⟩ := S.own b d e
  exact ⟨x,o,hs b o h hob,rb.keep tk'⟩
theorem AfterC.updExt {a : Addr} {c c' : CObj} (hc : H a = some c) {h' : Heap} {tk : Nat} (hs : Heap.ExtBut a s.heap h') {o' : Obj} (ho : h'.get? a = some o') : AfterC H s (H.set a c') { s with heap := h',toks := tk } where
 stay := fun b o hn e => ⟨o,hs b o (fun q => by subst q; rw [hn] at hc; cases hc) e,.refl o⟩
 grow := fun b o hn _ => by refine rE (CH.set_ne (fun q => by subst q; rw [hn] at hc; cases hc)) ?_; exact hn
 there := fun b o e => by
  by_cases q : b = a
  ·subst q; exact ⟨o',ho⟩
  ·exact ⟨o,hs b o q e⟩
 drawn := rfl
 os := rfl
set_option tactic.hygienic true in
theorem codeAmong_app {pos : Pos} {c : Value} {a b : Nat} (l : List Value) (h : TriplesOk l) : ∀ cv,codeAmong pos (l ++ [rawInt a,rawInt b,c]) = some cv→codeAmong pos l = some cv∨(a = pos.line∧b = pos.col∧cv = c) := by
 fun_induction TriplesOk l with
 | case1 =>
  intro cv e
  simp only [List.nil_append,codeAmong,rawInt] at e
  split at e
  ·rename_i hc
   simp only [Bool.and_eq_true,beq_iff_eq,Int.natCast_inj] at hc
   exact .inr ⟨hc.1,hc.2,(Option.some.inj e).symm⟩
  ·cases e
 | case2 x t y u z rest ih =>
  intro cv e
  simp only [List.cons_append,codeAmong] at e ⊢
  split at e
  ·rename_i hc; refine rE (if_pos hc) ?_; exact .inl e
  ·rename_i hc; refine rE (if_neg hc) ?_; exact ih h cv e
 | case3 => exact h.elim
theorem triples_app {c : Value} {a b : Nat} (l : List Value) (h : TriplesOk l) : TriplesOk (l ++ [rawInt a,rawInt b,c]) := by
 fun_induction TriplesOk l with
 | case1 => simp [rawInt,TriplesOk]
 | case2 x t y u z rest ih => simp only [List.cons_append,TriplesOk]; exact ih h
 | case3 => exact h.elim
theorem EV_lambda {params : Arguments} {body : PySem.Expr} {scope : Scope} {pos : Pos} {cl : List (Str × Addr)} {c P : Addr} {qs : List ((Nat × Nat) × Str)} {Q : V→Loc→CH→Prop} (B : Bs C.h₀ K mg mb) (hP : H P = some (.tab qs)) (hC : CodeHd C.h₀ c P)
  (h : Q (.fn "<lambda>" (C.env.qual ++ "<lambda>") params body scope cl) m H) (hc : autoParam (C.env.code = .ref c) Mine.syn1) (hge0 : autoParam (C.env.globals = mainGlobals) Mine.syn1) (hq : autoParam (qs.lookup (pos.line,pos.col) = some (C.env.qual ++ "<lambda>")) Mine.syn1)
  (hdef : autoParam (defaultsOf params C.env = ([],[])) Mine.syn1) (hclos : autoParam (closureFor scope C.env = pure cl) Mine.syn1) : EV C A (.Lambda params body scope pos) m H Q := fun s S => by
 refine kla_eval hdef ?_
 obtain ⟨hPb,o,ho,ps,rfl,ht,hqs⟩ := S.own P _ hP
 have hgs := B.g.keeps S.base
 obtain ⟨bm,ob,b1,b2,b3,b4,b5,b6⟩ := B.bm
 have hgP : mainGlobals≠P := fun q => by
  obtain ⟨o,es,ep,e,hd,_⟩ := hgs
  rw [q,ho] at e; cases e; cases hd
 have hbP : bm≠P := fun q => by
  rw [q,hPb] at b3; cases b3
 have hbG : bm≠mainGlobals := fun q => by
  obtain ⟨o,es,ep,e,hd,_⟩ := B.g
  rw [q,e] at b3; cases b3; rw [hd] at b6; cases b6
 cases hca : codeAmong pos ps.toList with
 | some cv =>
  have hr := hqs pos cv hca _ hq
  obtain ⟨c',oc,vs,t,e2,hoc,hd,hv⟩ := id hr
  subst e2
  refine kla_makeFunctionHit (mg := mg) hclos hge0 hgs hc (hC.keeps S.base) ho ht hca ⟨bm,ob,b1,b2,hbG,hbP,S.base _ _ b3,b4,b5,b6⟩ fun ctv h' tk hk hsz => ?_
  have k : ∀ b o,s.heap.get? b = some o→(h'.push (kla_obj "<lambda>" (C.env.qual ++ "<lambda>") params body scope cl ((mg "__name__").getD .none) c' ctv)).get? b = some o := fun b o e => Heap.get?_push_of_some _ (hk b o e)
  exact ⟨_,m,H,.fn (Heap.get?_push_size _ rfl) (hr.keeps k),S.more k,.more k,h⟩
 | none =>
  refine kla_makeFunction (mg := mg) hclos hge0 hgs hc (hC.keeps S.base) ho ht hca hgP ⟨bm,ob,b1,b2,hbG,hbP,S.base _ _ b3,b4,b5,b6⟩ fun c' ctv h' tk hx hge hlt hrec htb => ?_
  have hset : H.set P (.tab qs) = H := by
   funext b; unfold CH.set; split
   ·subst b; exact hP.symm
   ·rfl
  have tk' : TupKeep s.heap h' := fun b o i e => hx b _ (fun q => by subst q; rw [ho] at e; cases e; exact (show ORep C s.heap (.tab qs) _ from ⟨ps,rfl,ht,hqs⟩).not_imm i) e
  have hrep : ORep C h' (.tab qs) (tabObj (ps ++ #[rawInt pos.line,rawInt pos.col,.ref c'])) := by
   refine ⟨_,rfl,?_,?_⟩
   ·refine rE Array.toList_append ?_; exact triples_app _ ht
   ·intro pos' cv hcv q hq'
    rw [Array.toList_append] at hcv
    rcases codeAmong_app _ ht cv hcv with h1 | ⟨h1,h2,rfl⟩
    ·exact tk'.rec (hqs pos' cv h1 q hq')
    ·rw [← h1,← h2,hq] at hq'; cases hq'; exact hrec
  refine eA (S.toHS.updExt (tk := tk) hP hx htb hrep) fun S1 _ => ?_
  have a1 : AfterC H s (H.set P (.tab qs)) { s with heap := h',toks := tk } := .updExt hP hx htb
  rw [hset] at S1 a1
  have T1 : St C m H { s with heap := h',toks := tk } := by
   refine eEA S.ns fun mr hn kn => ?_
   have hl : C.env.locals≠P := ne_at S.loc hP
   exact ⟨S1,⟨mr,hn.extBut hx hl,kn.keep tk'⟩,S.loc,S.locb,S.frs.after a1⟩
  exact ⟨_,m,H,.fn (Heap.get?_push_size _ rfl) (hrec.push _),T1.more (tk := tk) (keep_push _ _),a1.after.then T1 (.more (tk := tk) (keep_push _ _)),h⟩
noncomputable abbrev fnData (name qual : Str) (params : Arguments) (body : PySem.Expr) (scope : Scope) (cl : List (Str × Addr)) (pm ctv : Value) (c : Addr) : FuncData := kla_fn name qual params body scope cl pm (.ref c) ctv
theorem CALL_fn {name qual : Str} {params : Arguments} {body : PySem.Expr} {scope : Scope} {cl : List (Str × Addr)} {vs : List V} {kws binds : List (Str × V)} {m' : Loc} {Q : V→CH→Prop}
  (hlim : C.h₀.NoLimit) {n : Nat} (hA : AOK C A (n + 1)) (hb : ∀ pm c ctv,Binds C H (fnData name qual params body scope cl pm ctv c) vs kws binds)
  (hok : (scope.names.all (fun x => x.2 != .cell) && binds.all (fun x => scope.names.lookup x.1 == some .local) && !scope.isCoroutine && !scope.isGenerator && scope.kind == .function) = true) (hm : m' = binds.reverse)
  (h : ∀ L a c,H L = none→C.h₀.get? L = none→AOK (C.at (envX qual scope L a (.ref c) cl)) (A.deeper (envX qual scope L a (.ref c) cl)) n→EV (C.at (envX qual scope L a (.ref c) cl)) (A.deeper (envX qual scope L a (.ref c) cl)) body m' H fun v _ H' => Q v H') :
  CALL C A (.fn name qual params body scope cl) vs kws H Q := fun s rf rs rkw S F hf hv hkw => by
 simp only [Bool.and_eq_true,List.all_eq_true,Bool.not_eq_true',beq_iff_eq,bne_iff_ne] at hok
 refine eA hok fun zz0 hk => ?_; obtain ⟨⟨⟨hcell,hloc⟩,hco⟩,hgen⟩ := zz0
 obtain ⟨a,pm,c,ctv,rfl,ho,hcd⟩ := hf.fn_inv
 obtain ⟨rb,hB,hrb⟩ := hb pm c ctv s rs rkw S hv hkw
 have hloc' : ∀ x ∈ rb,scope.names.lookup x.1 = some .local := fun x hx => by
  have : x.1 ∈ binds.map (·.1) := hrb.1 ▸ List.mem_map_of_mem hx
  refine eEA (List.mem_map.mp this) fun y hy e => ?_
  refine rF e ?_; exact hloc y hy
 refine kla_callFunE hA.room ho rfl hco hgen rfl hcd ?_
 refine hB _ _ _ _ (wpAny_newFunctionEnv hcell hloc' (fun h₁ hns hsb => ⟨(hlim.keeps S.base).fresh _ hsb,?_⟩) hk)
 show codeAny _ _ (.expr body (envX qual scope s.heap.objs.size a (.ref c) cl)) _ _
 have hk₁ : ∀ b o,s.heap.get? b = some o→h₁.get? b = some o := fun b o e => hsb.extBut b o (Nat.ne_of_lt (Heap.lt_size e)) (Heap.get?_push_of_some _ e)
 have S₁ : St (C.at (envX qual scope s.heap.objs.size a (.ref c) cl)) m' H { s with heap := h₁,toks := s.toks + rb.length } := by
  refine ⟨(S.more hk₁).at,⟨_,hns,fun x v e => ?_⟩,S.fresh,S.freshb,fun e he => ?_⟩
  ·subst hm
   exact lookup_kws (hrb.rev.keep (.of_keep hk₁)) e
  ·rcases List.mem_cons.mp he with rfl | he
   ·obtain ⟨o',es,ep,ho',hd',_⟩ := hns
    exact ⟨hk,hgen,hco,_,o',es,ep,rfl,ho',hd',S.fresh,S.freshb⟩
   ·exact F.keep (s' := { s with heap := h₁ }) (fun b o _ _ _ hn e _ => ⟨hn,o,hk₁ b o e,rfl⟩) e he
 refine kla_codeExpr (wpAny_noRaise (wpAny_mono (h _ a c S.fresh S.freshb hA.at _ S₁) ?_ fun _ _ x => x))
 rintro rv s' ⟨v,m₂,H₂,hv,S₂,af,q⟩
 exact ⟨v,H₂,hv,S₂.toHS.back,⟨fun b o hn e => af.stay b o (Nat.ne_of_lt (Heap.lt_size e)) hn (hk₁ b o e),fun b o hn e => af.grow b o hn (hk₁ b o e),fun b o e => af.there b o (hk₁ b o e),af.drawn,af.os⟩,q⟩
theorem KP_lam {name qual : Str} {params : Arguments} {body : PySem.Expr} {scope : Scope} {cl : List (Str × Addr)} : KP C (.fn name qual params body scope cl) H := fun s rf S hf => by
 obtain ⟨a,pm,c,ctv,rfl,ho,hcd⟩ := hf.fn_inv
 exact ⟨.frame,looks_keeper_fn ho rfl⟩
end
end
end Mine
end
section
open PySem PySem.Calls PySem.W PyProof.Rows
set_option maxRecDepth 100000
namespace Mine
noncomputable section
noncomputable def setCells : List (Str × Addr)→(Str→Option V)→CH→CH
 | [],_,H => H
 | (n,c) :: r,f,H => (setCells r f H).set c (.cell (f n))
theorem setCells_low {L : Addr} : ∀ {cs : List (Str × Addr)} {f : Str→Option V} {H : CH},(∀ q ∈ cs,L < q.2)→∀ b,b≤L→setCells cs f H b = H b
 | [],_,_,_,_,_ => rfl
 | (n,c) :: r,f,H,h,b,hb => by
  unfold setCells
  have : b≠c := fun e => by have := h (n,c) List.mem_cons_self; subst e; exact absurd this (Nat.not_lt.mpr hb)
  refine rE (CH.set_ne this) ?_
  exact setCells_low (fun q hq => h q (List.mem_cons_of_mem _ hq)) b hb
theorem look_one {x n : Str} {v : Value} : List.lookup x [(n,v)] = if x = n then some v else none := by
 refine rE List.lookup_cons ?_
 by_cases hx : x = n
 ·subst hx; simp
 ·refine rE (beq_eq_false_iff_ne.mpr hx) (rE (if_neg hx) ?_); rfl
theorem bindL_look {k : Str→Option NameKind} {x : Str} : ∀ (rb : List (Str × Value)) (m : Str→Option Value),bindL k rb m x = (((rb.filter fun p => k p.1 == some .local).reverse.lookup x).or (m x))
 | [],m => by simp [bindL]
 | (n,v) :: r,m => by
  unfold bindL
  rw [bindL_look r]
  by_cases h : k n = some .local
  ·rewrite [if_pos h]; refine rE List.filter_cons (rE (if_pos (show (k n == some NameKind.local) = true from beq_iff_eq.mpr h)) (rE List.reverse_cons (rE List.lookup_append (rE look_one ?_))))
   by_cases hx : x = n
   ·refine rE (if_pos hx) (rE (if_pos hx) (rE Option.or_assoc ?_)); rfl
   ·refine rE (if_neg hx) (rE (if_neg hx) (rE Option.or_none rfl))
  ·rewrite [if_neg h]; refine rE List.filter_cons (rE (if_neg (show ¬ (k n == some NameKind.local) = true from fun q => h (beq_iff_eq.mp q))) rfl)
theorem bindC_look {k : Str→Option NameKind} {x : Str} (hx : k x≠some .local) : ∀ (rb : List (Str × Value)) (m : Str→Option Value),bindC k rb m x = ((rb.reverse.lookup x).or (m x))
 | [],m => by simp [bindC]
 | (n,v) :: r,m => by
  unfold bindC
  rewrite [bindC_look hx r]; refine rE List.reverse_cons (rE List.lookup_append (rE look_one ?_))
  by_cases h : k n = some .local
  ·have hn : x≠n := fun e => hx (e ▸ h)
   rewrite [if_pos h]; refine rE (if_neg hn) (rE Option.or_none rfl)
  ·rewrite [if_neg h]
   by_cases hx' : x = n
   ·refine rE (if_pos hx') (rE (if_pos hx') (rE Option.or_assoc ?_)); rfl
   ·refine rE (if_neg hx') (rE (if_neg hx') (rE Option.or_none rfl))
section
variable {C : Cx} {A : Around} {m : Loc} {H : CH} {s : Shared} {K : Frag} {mg mb : Str→Option Value}
theorem lookup_pairs {h : Heap} {names : List Str} {vs : List V} {rs : List Value} (hv : VRs h vs rs) : KWs h (names.zip vs) (names.zip rs) := by
 induction names generalizing vs rs with
 | nil => exact ⟨rfl,.nil⟩
 | cons n names ih =>
  cases vs with
  | nil => have := hv.nil_inv; subst this; exact ⟨rfl,.nil⟩
  | cons v vs =>
   refine eEEAA hv.cons_inv fun r rs zz2 a b => ?_; subst zz2
   obtain ⟨h1,h2⟩ := ih b
   exact ⟨by simp only [List.zip_cons_cons,List.map_cons,h1],by simp only [List.zip_cons_cons,List.map_cons]; exact .cons a h2⟩
theorem KWs.filter {h : Heap} {p : Str→Bool} : ∀ {a : List (Str × V)} {b : List (Str × Value)},KWs h a b→KWs h (a.filter fun q => p q.1) (b.filter fun q => p q.1)
 | [],b,k => by have := k.nil_inv; subst this; exact .nil
 | (x,v) :: a,b,k => by
  obtain ⟨k1,k2⟩ := k
  cases b with
  | nil => simp at k1
  | cons q b =>
   obtain ⟨y,r⟩ := q
   simp only [List.map_cons,List.cons.injEq] at k1 k2
   obtain ⟨rfl,k1⟩ := k1
   have ih := KWs.filter (p := p) ⟨k1,k2.tail⟩
   refine rE List.filter_cons (rE List.filter_cons ?_)
   by_cases hp : p y = true
   ·refine rE (if_pos hp) (rE (if_pos hp) ?_)
    exact ⟨by simp only [List.map_cons,ih.1],by simp only [List.map_cons]; exact .cons k2.head ih.2⟩
   ·refine rE (if_neg hp) (rE (if_neg hp) ?_); exact ih
theorem opt_kws {h : Heap} {a : List (Str × V)} {b : List (Str × Value)} (k : KWs h a b) {x : Str} : OptR h (a.lookup x) (b.lookup x) := by
 cases e : a.lookup x with
 | some v => refine eEA (lookup_kws k e) fun r hr hv => ?_; refine rE hr ?_; exact hv
 | none =>
  have : b.lookup x = none := by
   obtain ⟨k1,k2⟩ := k
   rw [List.lookup_eq_none_iff] at e ⊢
   intro p hp
   have : p.1 ∈ b.map (·.1) := List.mem_map_of_mem hp
   rw [k1] at this
   refine eEA (List.mem_map.mp this) fun q hq e' => ?_
   refine rF e' ?_; exact e q hq
  refine rE this ?_; trivial
theorem HS.cells {f : Str→Option V} (S : HS C H s) : ∀ {cs : List (Str × Addr)},(∀ q ∈ cs,C.h₀.get? q.2 = none∧∃ r,s.heap.IsCell q.2 r∧OptR s.heap (f q.1) r)→HS C (setCells cs f H) s
 | [],_ => S
 | (n,c) :: r,h => by
  unfold setCells
  obtain ⟨hb,rv,⟨o,ho,hd⟩,hr⟩ := h (n,c) List.mem_cons_self
  exact (HS.cells S fun q hq => h q (List.mem_cons_of_mem _ hq)).adopt hb ho ⟨rv,hd,hr⟩
theorem look_mem : ∀ {l : List (Str × Addr)} {x : Str},x ∈ l.map (·.1)→(l.lookup x).isSome = true
 | [],_,h => by cases h
 | (y,c) :: r,x,h => by
  refine rE List.lookup_cons ?_
  cases e : x == y with
  | true => rfl
  | false =>
   refine look_mem ((List.mem_cons.mp h).resolve_left fun q => ?_)
   have q : x = y := q
   rw [q,beq_self_eq_true] at e; cases e
theorem look_nodup : ∀ {l : List (Str × Addr)} {q : Str × Addr},(l.map (·.1)).Nodup→q ∈ l→l.lookup q.1 = some q.2
 | [],_,_,h => by cases h
 | (y,c) :: r,q,hn,h => by
  rw [List.map_cons,List.nodup_cons] at hn
  refine rE List.lookup_cons ?_
  rcases List.mem_cons.mp h with rfl | h
  ·refine rE (beq_self_eq_true ..) rfl
  ·have hne : (q.1 == y) = false := beq_eq_false_iff_ne.mpr fun e => hn.1 (e ▸ List.mem_map_of_mem (f := (·.1)) h)
   refine rE hne ?_; exact look_nodup hn.2 h
theorem cells_ok {names : List Str} {scope : Scope} (h : (names.all (fun x => scope.names.lookup x == some .local || (scope.names.lookup x == some .cell && ((cellsFrom 0 scope.names []).map (·.1)).contains x)) && ((cellsFrom 0 scope.names []).map (·.1)).all (fun x => scope.names.lookup x == some .cell) && decide ((cellsFrom 0 scope.names []).map (·.1)).Nodup && !scope.isCoroutine && !scope.isGenerator && scope.kind == .function) = true) (L : Nat) :
  (names.all (fun x => scope.names.lookup x == some .local || (scope.names.lookup x == some .cell && ((cellsFrom (L + 1) scope.names []).lookup x).isSome)) && (cellsFrom (L + 1) scope.names []).all (fun q => scope.names.lookup q.1 == some .cell && (cellsFrom (L + 1) scope.names []).lookup q.1 == some q.2) && !scope.isCoroutine && !scope.isGenerator && scope.kind == .function) = true := by
 have e : (cellsFrom (L + 1) scope.names []).map (·.1) = (cellsFrom 0 scope.names []).map (·.1) := cellsFrom_names scope.names _ _ [] [] rfl
 rw [← e] at h
 simp only [Bool.and_eq_true,List.all_eq_true,Bool.or_eq_true,decide_eq_true_eq,beq_iff_eq,List.contains_iff_mem] at h ⊢
 refine eA h fun zz0 h6 => ?_; obtain ⟨⟨⟨⟨h1,h2⟩,h3⟩,h4⟩,h5⟩ := zz0
 refine ⟨⟨⟨⟨fun x hx => (h1 x hx).imp id fun q => ⟨q.1,look_mem q.2⟩,fun q hq => ⟨h2 q.1 (List.mem_map_of_mem (f := (·.1)) hq),look_nodup h3 hq⟩⟩,h4⟩,h5⟩,h6⟩
theorem CALL_cells {f : Addr} {name qual : Str} {params : Arguments} {body : List Stmt} {scope : Scope} {dV kV doc pm cdv ct oc : Value} {an od : Option Addr} {osl : Array (Option Value)} {vs : List V} {names : List Str} {m' : Loc} {Q : V→CH→Prop}
  (B : Bs C.h₀ K mg mb) (ho : K.lookup f = some ⟨oc,od,.func (fnX name qual params body scope [] dV kV doc pm an cdv ct),osl⟩) (hcd : codeIn K cdv qual = true) {n : Nat} (hA : AOK C A (n + 1))
  (hlen : vs.length = names.length) (hb : ∀ rs : List Value,rs.length = names.length→bindArgs (fnX name qual params body scope [] dV kV doc pm an cdv ct) ⟨rs,[]⟩ = pure (names.zip rs))
  (hok : ∀ L,(names.all (fun x => scope.names.lookup x == some .local || (scope.names.lookup x == some .cell && ((cellsFrom (L + 1) scope.names []).lookup x).isSome)) && (cellsFrom (L + 1) scope.names []).all (fun q => scope.names.lookup q.1 == some .cell && (cellsFrom (L + 1) scope.names []).lookup q.1 == some q.2) && !scope.isCoroutine && !scope.isGenerator && scope.kind == .function) = true)
  (hm : m' = ((names.zip vs).filter fun p => scope.names.lookup p.1 == some .local).reverse)
  (h : ∀ L,(∀ b,L≤b→H b = none∧C.h₀.get? b = none)→AOK (C.at (callEnvC (fnX name qual params body scope [] dV kV doc pm an cdv ct) L f)) (A.deeper (callEnvC (fnX name qual params body scope [] dV kV doc pm an cdv ct) L f)) n →
   EX (C.at (callEnvC (fnX name qual params body scope [] dV kV doc pm an cdv ct) L f)) (A.deeper (callEnvC (fnX name qual params body scope [] dV kV doc pm an cdv ct) L f)) body m'
    (setCells (cellsFrom (L + 1) scope.names []) (fun x => (names.zip vs).reverse.lookup x) H) fun fl _ H' => Q (retOf fl) H') :
  CALL C A (.con (.ref f)) vs [] H Q := fun s rf rs rkw S F hf hv hkw => by
 have := hkw.nil_inv; subst this
 refine rE hf.con_inv ?_
 have hok' := hok s.heap.objs.size
 simp only [Bool.and_eq_true,List.all_eq_true,Bool.not_eq_true',beq_iff_eq,Bool.or_eq_true] at hok'
 refine eA hok' fun zz0 h5 => ?_; obtain ⟨⟨⟨h1,h2⟩,h3⟩,h4⟩ := zz0
 have hpk := lookup_pairs (names := names) hv
 refine codeAny_call_cells hA.room (S.base _ _ (B.X _ _ ho)) rfl (B.lim.keeps S.base) ((codeRec_of B.X hcd).keeps S.base) rfl (hb rs (by refine rF hv.length (rE hlen rfl))) rfl (fun x hx => ?_) (fun s₁ x => ?_) h3 h4 h5
 ·have hx' : x.1 ∈ names := by
   have := List.mem_map_of_mem (f := (·.1)) hx
   rw [List.map_fst_zip] at this
   ·exact this
   ·refine rF hlen (rE hv.length ?_); exact Nat.le_refl _
  exact h1 x.1 hx'
 ·generalize hL : s.heap.objs.size = L at *
  have hfr : ∀ b,L≤b→H b = none∧C.h₀.get? b = none := fun b hb => by
   have hs0 : s.heap.get? b = none := by
    cases e : s.heap.get? b with
    | none => rfl
    | some o => have := Heap.lt_size e; rw [hL] at this; exact absurd this (Nat.not_lt.mpr hb)
   refine ⟨?_,?_⟩
   ·exact S.own_none hs0
   ·exact S.base_none hs0
  have hkeep := x.toInCall.keep
  have tk' : TupKeep s.heap s₁.heap := .of_keep hkeep
  refine eEE x.toInCall.same fun h₁ tk₁ zz2 => ?_; subst zz2
  have S₁ : HS C H { s with heap := h₁,toks := tk₁ } := S.more hkeep
  have hcs : (callEnvC (fnX name qual params body scope [] dV kV doc pm an cdv ct) L f).cells = cellsFrom (L + 1) scope.names [] := rfl
  have hab : ∀ q ∈ cellsFrom (L + 1) scope.names [],L < q.2 := fun q hq => x.above q.1 q.2 hq
  have hrep : HS C (setCells (cellsFrom (L + 1) scope.names []) (fun x => (names.zip vs).reverse.lookup x) H) { s with heap := h₁,toks := tk₁ } := by
   refine S₁.cells fun q hq => ⟨(hfr q.2 (Nat.le_of_lt (hab q hq))).2,_,x.cell q.1 q.2 (h2 q hq).2,?_⟩
   rewrite [bindC_look (by show scope.names.lookup q.1≠some .local; rw [(h2 q hq).1]; decide)]; refine rE Option.or_none ?_
   exact opt_kws (hpk.keep tk').rev
  have low := fun b (hb : b≤L) => setCells_low (f := fun x => (names.zip vs).reverse.lookup x) (H := H) hab b hb
  have hlt : ∀ {b o},s.heap.get? b = some o→b≤L := fun {b o} e => by refine rF hL ?_; exact Nat.le_of_lt (Heap.lt_size e)
  have a₁ : AfterC H s (setCells (cellsFrom (L + 1) scope.names []) (fun x => (names.zip vs).reverse.lookup x) H) { s with heap := h₁,toks := tk₁ } :=
   ⟨fun b o hn e => ⟨o,hkeep b o e,.refl o⟩,fun b o hn e => by refine rE (low b (hlt e)) ?_; exact hn,fun b o e => ⟨o,hkeep b o e⟩,rfl,rfl⟩
  have T₁ : St (C.at (callEnvC (fnX name qual params body scope [] dV kV doc pm an cdv ct) L f)) m' (setCells (cellsFrom (L + 1) scope.names []) (fun x => (names.zip vs).reverse.lookup x) H) { s with heap := h₁,toks := tk₁ } := by
   refine ⟨⟨hrep.base,hrep.own,hrep.gens⟩,⟨_,x.toInCall.ns,fun y v e => ?_⟩,?_,(hfr L (Nat.le_refl _)).2,fun e he => ?_⟩
   ·subst hm
    refine rE (bindL_look ..) (rE Option.or_none ?_)
    exact lookup_kws ((hpk.filter (p := fun y => scope.names.lookup y == some .local)).rev.keep tk') e
   ·show setCells _ _ H L = none
    refine rE (low L (Nat.le_refl _)) ?_; exact (hfr L (Nat.le_refl _)).1
   ·rcases List.mem_cons.mp he with rfl | he
    ·obtain ⟨o',es,ep,ho',hd',_⟩ := x.toInCall.ns
     refine ⟨h5,h4,h3,L,o',es,ep,rfl,ho',hd',?_,(hfr L (Nat.le_refl _)).2⟩
     refine rE (low L (Nat.le_refl _)) ?_; exact (hfr L (Nat.le_refl _)).1
    ·exact F.after a₁ e he
  refine wpAny_noRaise (wpAny_mono (h L hfr hA.at _ T₁) ?_ fun _ _ x => x)
  rintro fl s' ⟨f',m₂,H₂,hfl,S₂,af,q⟩
  have a : AfterC H s H₂ s' := by
   have hl0 : s.heap.get? L = none := by
    cases e : s.heap.get? L with
    | none => rfl
    | some o => have := Heap.lt_size e; rw [hL] at this; exact absurd this (Nat.lt_irrefl _)
   exact a₁.thenAt (C := C.at (callEnvC (fnX name qual params body scope [] dV kV doc pm an cdv ct) L f)) af hl0
  cases f' with
  | ret v => obtain ⟨r,rfl,hr⟩ := hfl; exact ⟨v,H₂,hr,S₂.toHS.back,a,q⟩
  | next => cases hfl; exact ⟨V.none,H₂,.con,S₂.toHS.back,a,q⟩
  | brk => cases hfl; exact ⟨V.none,H₂,.con,S₂.toHS.back,a,q⟩
  | cont => cases hfl; exact ⟨V.none,H₂,.con,S₂.toHS.back,a,q⟩
theorem bz1 {fd : FuncData} {x : Str} (h : autoParam (∀ a,bindArgs fd ⟨[a],[]⟩ = pure [(x,a)]) Mine.syn2) : ∀ rs : List Value,rs.length = [x].length→bindArgs fd ⟨rs,[]⟩ = pure ([x].zip rs) := fun rs e => by
 refine eE (List.length_eq_one_iff.mp e) fun a zz1 => ?_; subst zz1; exact h a
theorem bz2 {fd : FuncData} {x y : Str} (h : autoParam (∀ a b,bindArgs fd ⟨[a,b],[]⟩ = pure [(x,a),(y,b)]) Mine.syn3) : ∀ rs : List Value,rs.length = [x,y].length→bindArgs fd ⟨rs,[]⟩ = pure ([x,y].zip rs) := fun rs e => by
 rcases rs with _ | ⟨a,_ | ⟨b,_ | ⟨c,r⟩⟩⟩
 ·cases e
 ·cases e
 ·exact h a b
 ·cases e
theorem bz3 {fd : FuncData} {x y z : Str} (h : ∀ a b c,bindArgs fd ⟨[a,b,c],[]⟩ = pure [(x,a),(y,b),(z,c)] := by intro _ _ _; with_unfolding_all rfl) : ∀ rs : List Value,rs.length = [x,y,z].length→bindArgs fd ⟨rs,[]⟩ = pure ([x,y,z].zip rs) := fun rs e => by
 rcases rs with _ | ⟨a,_ | ⟨b,_ | ⟨c,_ | ⟨d,r⟩⟩⟩⟩
 ·cases e
 ·cases e
 ·cases e
 ·exact h a b c
 ·cases e
theorem bz4 {fd : FuncData} {x y z w : Str} (h : ∀ a b c d,bindArgs fd ⟨[a,b,c,d],[]⟩ = pure [(x,a),(y,b),(z,c),(w,d)] := by intro _ _ _ _; with_unfolding_all rfl) : ∀ rs : List Value,rs.length = [x,y,z,w].length→bindArgs fd ⟨rs,[]⟩ = pure ([x,y,z,w].zip rs)
 | [a,b,c,d],_ => h a b c d
end
end
end Mine
end
section
open PySem PySem.Calls PySem.W PyProof.Rows
set_option maxRecDepth 100000
namespace Mine
noncomputable section
noncomputable def getI (kvs : List (Int × V)) (k : Int) : Option V := kvs.lookup k
noncomputable def putI (kvs : List (Int × V)) (k : Int) (v : V) : List (Int × V) :=
 if kvs.any (fun kv => kv.1 == k) then kvs.map (fun kv => if kv.1 = k then (kv.1,v) else kv) else kvs ++ [(k,v)]
noncomputable def dropI (kvs : List (Int × V)) (k : Int) : List (Int × V) := kvs.filter fun kv => kv.1 != k
section
variable {C : Cx} {A : Around} {m : Loc} {H : CH} {s : Shared} {K : Frag} {mg mb : Str→Option Value}
noncomputable def rawOf (kvs : List (Int × V)) (rs : List Value) : List (Int × Value) := (kvs.map (·.1)).zip rs
theorem valueAt_lookup {k : Int} : ∀ {l : List (Int × Value)},valueAt l k = l.lookup k
 | [] => rfl
 | (a,v) :: l => by
  unfold valueAt
  refine rE List.find?_cons (rE List.lookup_cons ?_)
  by_cases h : a = k
  ·subst h; simp
  ·have h' : k≠a := fun e => h e.symm
   simp only [h,decide_false,beq_eq_false_iff_ne.mpr h']
   exact valueAt_lookup
theorem lookup_raw {h : Heap} {k : Int} : ∀ {kvs : List (Int × V)} {rs : List Value},VRs h (kvs.map (·.2)) rs→OptR h (kvs.lookup k) ((rawOf kvs rs).lookup k)
 | [],rs,r => by have := r.nil_inv; subst this; trivial
 | (a,v) :: kvs,rs,r => by
  refine eEEAA r.cons_inv fun y ys zz2 p q => ?_; subst zz2
  show OptR h (List.lookup k ((a,v) :: kvs)) (List.lookup k ((a,y) :: rawOf kvs ys))
  refine rE List.lookup_cons (rE List.lookup_cons ?_)
  by_cases h : k = a
  ·subst h; simp only [beq_self_eq_true]; exact p
  ·simp only [beq_eq_false_iff_ne.mpr h]; exact lookup_raw q
theorem raw_length {h : Heap} {kvs : List (Int × V)} {rs : List Value} (r : VRs h (kvs.map (·.2)) rs) : (rawOf kvs rs).length = kvs.length := by
 have := r.length; unfold rawOf; simp at this ⊢; grind
theorem raw_keys {h : Heap} {kvs : List (Int × V)} {rs : List Value} (r : VRs h (kvs.map (·.2)) rs) : (rawOf kvs rs).map (·.1) = kvs.map (·.1) := by
 unfold rawOf; rw [List.map_fst_zip]; have := r.length; simp at this ⊢; exact Nat.le_of_eq this
theorem VRs.of_raw {h : Heap} : ∀ {kvs : List (Int × V)} {l : List (Int × Value)},l.map (·.1) = kvs.map (·.1)→VRs h (kvs.map (·.2)) (l.map (·.2))→l = rawOf kvs (l.map (·.2))
 | [],l,e,_ => by have := List.map_eq_nil_iff.mp e; subst this; rfl
 | (a,v) :: kvs,l,e,r => by
  cases l with
  | nil => simp at e
  | cons q l =>
   obtain ⟨b,y⟩ := q
   simp only [List.map_cons,List.cons.injEq] at e r
   obtain ⟨rfl,e⟩ := e
   show (b,y) :: l = (b,y) :: rawOf kvs (l.map (·.2))
   refine rF (VRs.of_raw e r.tail) rfl
theorem put_raw {h : Heap} {k : Int} {v : V} {r : Value} (hv : VR h v r) {kvs : List (Int × V)} {rs : List Value} (hr : VRs h (kvs.map (·.2)) rs) :
  ∃ rs',stored (rawOf kvs rs) k r = rawOf (putI kvs k v) rs'∧VRs h ((putI kvs k v).map (·.2)) rs' := by
 have hany : (rawOf kvs rs).any (fun kv => decide (kv.1 = k)) = kvs.any (fun kv => kv.1 == k) := by
  have h1 : ∀ l : List (Int × Value),l.any (fun kv => decide (kv.1 = k)) = (l.map (·.1)).any (fun a => decide (a = k)) := fun l => by refine rE List.any_map ?_; rfl
  have h2 : kvs.any (fun kv => kv.1 == k) = (kvs.map (·.1)).any (fun a => decide (a = k)) := by
   refine rE List.any_map ?_; congr 1
  refine rE (h1 ..) (rE h2 (rE (raw_keys hr) rfl))
 have main : ∀ {kvs : List (Int × V)} {rs : List Value},VRs h (kvs.map (·.2)) rs→VRs h ((kvs.map fun kv => if kv.1 = k then (kv.1,v) else kv).map (·.2)) (((rawOf kvs rs).map fun kv => if kv.1 = k then (kv.1,r) else kv).map (·.2)) := by
  intro kvs
  induction kvs with
  | nil => intro rs q; have := q.nil_inv; subst this; exact .nil
  | cons p kvs ih =>
   intro rs q
   obtain ⟨a,w⟩ := p
   refine eEEAA q.cons_inv fun y ys zz2 p1 p2 => ?_; subst zz2
   show VRs h (_ :: _) (_ :: _)
   refine .cons ?_ (ih p2)
   by_cases hk : a = k
   ·simp only [hk,if_true]; exact hv
   ·simp only [hk,if_false]; exact p1
 have keys : ∀ {kvs : List (Int × V)} {rs : List Value},VRs h (kvs.map (·.2)) rs→(((rawOf kvs rs).map fun kv => if kv.1 = k then (kv.1,r) else kv).map (·.1)) = ((kvs.map fun kv => if kv.1 = k then (kv.1,v) else kv).map (·.1)) := by
  intro kvs rs q
  have e1 : ∀ l : List (Int × Value),((l.map fun kv => if kv.1 = k then (kv.1,r) else kv).map (·.1)) = l.map (·.1) := fun l => by
   refine rE List.map_map ?_; congr 1; funext kv; simp only [Function.comp]; split <;> rfl
  have e2 : ∀ l : List (Int × V),((l.map fun kv => if kv.1 = k then (kv.1,v) else kv).map (·.1)) = l.map (·.1) := fun l => by
   refine rE List.map_map ?_; congr 1; funext kv; simp only [Function.comp]; split <;> rfl
  refine rE (e1 ..) (rE (e2 ..) (rE (raw_keys q) rfl))
 unfold stored putI
 refine rE hany ?_
 by_cases ha : (kvs.any fun kv => kv.1 == k) = true
 ·refine rE (if_pos ha) (rE (if_pos ha) ?_)
  exact ⟨_,VRs.of_raw (keys hr) (main hr),main hr⟩
 ·refine rE (if_neg ha) (rE (if_neg ha) ?_)
  refine ⟨rs ++ [r],?_,?_⟩
  ·unfold rawOf
   refine rE List.map_append (rE (List.zip_append (by have := hr.length; simp at this ⊢; omega)) ?_); rfl
  ·refine rE List.map_append ?_; exact hr.append (.cons hv .nil)
theorem drop_raw {h : Heap} {k : Int} {kvs : List (Int × V)} {rs : List Value} (hr : VRs h (kvs.map (·.2)) rs) :
  ∃ rs',without (rawOf kvs rs) k = rawOf (dropI kvs k) rs'∧VRs h ((dropI kvs k).map (·.2)) rs' := by
 induction kvs generalizing rs with
 | nil => have := hr.nil_inv; subst this; exact ⟨[],rfl,.nil⟩
 | cons p kvs ih =>
  obtain ⟨a,w⟩ := p
  refine eEEAA hr.cons_inv fun y ys zz2 p1 p2 => ?_; subst zz2
  refine eEA (ih p2) fun rs' e q => ?_
  show ∃ rs',without ((a,y) :: rawOf kvs ys) k = rawOf (dropI ((a,w) :: kvs) k) rs'∧_
  unfold without dropI at *
  refine rE List.filter_cons (rE List.filter_cons (rE e ?_))
  by_cases hk : a = k
  ·subst hk; simp only [ne_eq,not_true_eq_false,decide_false,bne_self_eq_false,Bool.false_eq_true,if_false]; exact ⟨rs',rfl,q⟩
  ·have hb : (a != k) = true := bne_iff_ne.mpr hk
   simp only [ne_eq,hk,not_false_eq_true,decide_true,hb,if_true]
   exact ⟨y :: rs',rfl,.cons p1 q⟩
theorem HS.dict (S : HS C H s) {d : Addr} {kvs : List (Int × V)} {ep : Nat} (hd : H d = some (.dict kvs ep)) : ∃ rs,s.heap.DictAt (intKind C.prog C.w) d (rawOf kvs rs) ep∧VRs s.heap (kvs.map (·.2)) rs := by
 obtain ⟨_,o,ho,he,es,rs,hdt,hk,hp,hn,hr⟩ := S.own d _ hd
 exact ⟨rs,⟨o,es,ho,he,hdt,hk,hp,by refine rE (show (rawOf kvs rs).map (·.1) = kvs.map (·.1) from raw_keys hr) ?_; exact hn⟩,hr⟩
theorem dict_rep {h : Heap} {d : Addr} {kvs : List (Int × V)} {l : List (Int × Value)} {rs : List Value} {h₁ : Heap} (hm : h.DictOf (intKind C.prog C.w) d l) (e : l = rawOf kvs rs) (hr : VRs h₁ (kvs.map (·.2)) rs) :
  ∃ o ep,h.get? d = some o∧ORep C h₁ (.dict kvs ep) o := by
 obtain ⟨o,es,ep,ho,he,hdt,hk,hp,hn⟩ := hm
 subst e
 exact ⟨o,ep,ho,he,es,rs,hdt,hk,hp,by rw [raw_keys hr] at hn; exact hn,hr⟩
theorem Bs.sysm (B : Bs C.h₀ K mg mb) (S : HS C H s) {d : Addr} {c : CObj} (hd : H d = some c) : (d == sysModules) = false := by
 refine eA (S.own d c hd) fun hb _ => ?_
 refine eE B.sys fun o ho => ?_
 refine beq_eq_false_iff_ne.mpr fun e => ?_
 rw [e,ho] at hb; cases hb
theorem map_of {d : Addr} {kvs : List (Int × V)} {rs : List Value} {ep : Nat} (x : s.heap.DictAt (intKind C.prog C.w) d (rawOf kvs rs) ep) : s.heap.MapOf (intKind C.prog C.w) d (fun k => (rawOf kvs rs).lookup k) := by
 have := x.dictOf.mapOf
 rwa [show valueAt (rawOf kvs rs) = fun k => (rawOf kvs rs).lookup k from funext fun k => valueAt_lookup] at this
variable {d : Addr} {kvs : List (Int × V)} {ep : Nat} {k : Int} {Q : V→Loc→CH→Prop}
theorem EV_dict {p : Pos} (h : ∀ a,H a = none→C.h₀.get? a = none→Q (.ref a) m (H.set a (.dict [] 0))) : EV C A (.Dict [] [] p) m H Q := fun s S =>
 wpAny_Dict_empty ⟨_,m,_,.ref,S.alloc (tk := s.toks) (c := .dict [] 0) ⟨⟨rfl,rfl,rfl⟩,#[],[],rfl,fun _ he => by simp at he,.nil,.nil,.nil⟩,.alloc,h _ S.toHS.fresh S.toHS.freshb⟩
theorem sub_dict {value slice : PySem.Expr} {v : V} (hd : H d = some (.dict kvs ep)) (hv : kvs.lookup k = some v) (h : Q v m H) (hs : autoParam (NoSlice slice) Mine.syn3) : O2 C A (subscriptTail value slice) (.ref d) (.int k) m H Q := fun s r q S hr hq => by
 refine rE hr.ref_inv ?_; (refine eE hq.int_inv fun u zz1 => ?_; subst zz1)
 refine eEA (S.toHS.dict hd) fun rs hD hrs => ?_
 have := lookup_raw (k := k) hrs
 rw [hv] at this
 refine eEA this.some_inv fun y hy hvy => ?_
 exact tail_any hD.dictOf.typeIs slot_dict_getitem.lookup (wpAny_getItem_of (knd := intKind C.prog C.w) (intKind_is _ _ _ _) (map_of hD) hy (.same S hvy h _)) (hs _ _)
theorem set_dict {v : V} {QU : Loc→CH→Prop} (hd : H d = some (.dict kvs ep)) (hsz : kvs.length≤sizeLine) (h : ∀ ep',QU m (H.set d (.dict (putI kvs k v) ep'))) : O3 C A setItem (.ref d) (.int k) v m H QU := fun s r q p S hr hq hp => by
 refine rE hr.ref_inv ?_; (refine eE hq.int_inv fun u zz1 => ?_; subst zz1)
 refine eEA (S.toHS.dict hd) fun rs hD hrs => ?_
 refine eEA (put_raw (k := k) hp hrs) fun rs' e hrs' => ?_
 refine wpAny_setItem_pairs (knd := intKind C.prog C.w) (intKind_is _ _ _ _) hD.dictOf (fun h' hm hs => ?_) (by refine rE (raw_length hrs) ?_; exact hsz)
 refine eEEA (dict_rep (C := C) hm e hrs') fun o ep' ho hrep => ?_
 exact ⟨m,_,S.upd (tk := s.toks + 1) hd hs ho hrep,.upd (tk := s.toks + 1) hd hs ho,h ep'⟩
theorem O2_in_dict (B : Bs C.h₀ K mg mb) (hd : H d = some (.dict kvs ep)) (h : Q (.bool (kvs.lookup k).isSome) m H) : O2 C A (compareOp .In) (.int k) (.ref d) m H Q := fun s q r S hq hr => by
 refine rE hr.ref_inv ?_; (refine eE hq.int_inv fun u zz1 => ?_; subst zz1)
 refine eEA (S.toHS.dict hd) fun rs hD hrs => ?_
 refine wpAny_in_of (knd := intKind C.prog C.w) (intKind_is _ _ _ _) (B.sysm S.toHS hd) (map_of hD) ?_
 have e : ((rawOf kvs rs).lookup k).isSome = (kvs.lookup k).isSome := by
  have := lookup_raw (k := k) hrs
  cases e1 : kvs.lookup k <;> cases e2 : (rawOf kvs rs).lookup k <;> rw [e1,e2] at this <;> first | rfl | exact this.elim
 refine rE e ?_; exact .same S .con h _
theorem GM_dict {name : Str} {id : String} {Q : V→List V→Prop} (hd : H d = some (.dict kvs ep)) (slot : Slot "dict" name id) (hty : typeOf (.builtin id) = pure (.type "method_descriptor")) (h : Q (.con (.builtin id)) [.ref d]) : GM C A (.ref d) name m H Q := fun s ro pl S hr => by
 refine rE hr.ref_inv ?_
 refine eEA (S.toHS.dict hd) fun rs zz1 _ => ?_; obtain ⟨o,es,ho,he,hdt,_⟩ := zz1
 exact getMethod_builtin ⟨_,ho,he.1⟩ F.plainAttrs_dict slot hty (fun a e => by cases e; exact ⟨_,ho,he.2.1⟩) ⟨_,_,.con,.cons .ref .nil,rfl,rfl,rfl,rfl,h⟩
theorem CV_get (B : Bs C.h₀ K mg mb) (hd : H d = some (.dict kvs ep)) (h : Q ((kvs.lookup k).getD V.none) m H) : CV C A (.con (.builtin "dict.get")) [.ref d,.int k] [] m H Q := fun s rf rs rkw S hf hva hk => by
 have := hk.nil_inv; subst this
 refine rE hf.con_inv ?_
 refine eEEAA (two_inv hva) fun a b zz2 ha hb => ?_; subst zz2
 refine rE ha.ref_inv ?_; (refine eE hb.int_inv fun u zz1 => ?_; subst zz1)
 refine eEA (S.toHS.dict hd) fun rs hD hrs => ?_
 refine call_meetsIn F.slot_dict_get hD.dictOf.typeIs F.entry_dict_get (F.args_dict_get_2 _ _) (meets_dict_get (intKind C.prog C.w) d (intKind_is _ _ _ _) (B.sysm S.toHS hd)) ⟨_,map_of hD,?_⟩
 have := lookup_raw (k := k) hrs
 cases e1 : kvs.lookup k with
 | none =>
  cases e2 : (rawOf kvs rs).lookup k with
  | none => rw [e1] at h; exact .same S .con h _
  | some => rw [e1,e2] at this; exact this.elim
 | some v =>
  rw [e1] at this h
  refine eEA this.some_inv fun y hy hvy => ?_
  simp only [hy,Option.getD_some]
  exact .same S hvy h _
end
end
end Mine
end
section
open PySem PySem.Calls PySem.W PyProof.Rows
set_option maxRecDepth 100000
namespace Mine
noncomputable section
mutual
inductive DR (C : Cx) (H : CH) : V→Dat→Prop
 | none : DR C H V.none .none
 | int (i : Int) : DR C H (.int i) (.int i)
 | str (x : Str) : DR C H (.str x) (.str x)
 | tup {l : List V} {ds : List Dat} : DRs C H l ds→DR C H (.tup l) (.tuple ds)
 | list {a : Addr} {xs : List V} {ds : List Dat} : LAt C H a xs→DRs C H xs ds→DR C H (.ref a) (.list ds)
inductive DRs (C : Cx) (H : CH) : List V→List Dat→Prop
 | nil : DRs C H [] []
 | cons {v : V} {d : Dat} {vs : List V} {ds : List Dat} : DR C H v d→DRs C H vs ds→DRs C H (v :: vs) (d :: ds)
end
theorem DRs.map {C : Cx} {H : CH} {α : Type} {f : α→V} {g : α→Dat} : ∀ {l : List α},(∀ a ∈ l,DR C H (f a) (g a))→DRs C H (l.map f) (l.map g)
 | [],_ => .nil
 | a :: l,h => .cons (h a List.mem_cons_self) (DRs.map fun b hb => h b (List.mem_cons_of_mem _ hb))
section
variable {C : Cx} {A : Around} {m : Loc} {H : CH} {s : Shared} {K : Frag} {mg mb : Str→Option Value} {Q : V→Loc→CH→Prop}
theorem DR.reads2 (S : HS C H s) : (∀ {v : V} {d : Dat},DR C H v d→∀ {r : Value},VR s.heap v r→∃ as,Reads s.heap r (kqdP d) as)∧∀ {vs : List V} {ds : List Dat},DRs C H vs ds→∀ {rs : List Value},VRs s.heap vs rs→∃ as,ReadsAll s.heap rs (kqdPs ds) as := by
 have c1 : ∀ r,VR s.heap V.none r→∃ as,Reads s.heap r (kqdP .none) as := fun r hv => by refine rE hv.con_inv ?_; exact ⟨_,.none⟩
 have c2 : ∀ i r,VR s.heap (.int i) r→∃ as,Reads s.heap r (kqdP (.int i)) as := fun i r hv => by (refine eE hv.int_inv fun t zz1 => ?_; subst zz1); exact ⟨_,.int i t⟩
 have c3 : ∀ x r,VR s.heap (.str x) r→∃ as,Reads s.heap r (kqdP (.str x)) as := fun x r hv => by (refine eE hv.str_inv fun t zz1 => ?_; subst zz1); exact ⟨_,.str x t⟩
 have c4 : ∀ {l : List V} {ds : List Dat},(∀ rs,VRs s.heap l rs→∃ as,ReadsAll s.heap rs (kqdPs ds) as)→∀ r,VR s.heap (.tup l) r→∃ as,Reads s.heap r (kqdP (.tuple ds)) as := fun q r hv => by
  obtain ⟨a,items,n,rfl,ho,hs⟩ := hv.tup_inv
  refine eE (q _ hs) fun as h => ?_
  rw [kqdP]; exact ⟨as,reads_tuple_at ho rfl rfl h⟩
 have c5 : ∀ {a : Addr} {xs : List V} {ds : List Dat},LAt C H a xs→(∀ rs,VRs s.heap xs rs→∃ as,ReadsAll s.heap rs (kqdPs ds) as)→∀ r,VR s.heap (.ref a) r→∃ as,Reads s.heap r (kqdP (.list ds)) as := fun hl q r hv => by
  refine rE hv.ref_inv ?_
  obtain ⟨items,n,hL,hvs,hz⟩ := S.list hl
  refine eE (q _ hvs) fun as h => ?_
  rw [kqdP]; exact ⟨_,reads_list_at hL rfl rfl h⟩
 have c6 : ∀ rs,VRs s.heap [] rs→∃ as,ReadsAll s.heap rs (kqdPs []) as := fun rs hv => by have := hv.nil_inv; subst this; exact ⟨_,.nil⟩
 have c7 : ∀ {v : V} {d : Dat} {vs : List V} {ds : List Dat},(∀ r,VR s.heap v r→∃ as,Reads s.heap r (kqdP d) as)→(∀ rs,VRs s.heap vs rs→∃ as,ReadsAll s.heap rs (kqdPs ds) as)→∀ rs,VRs s.heap (v :: vs) rs→∃ as,ReadsAll s.heap rs (kqdPs (d :: ds)) as := fun p q rs hv => by
  refine eEEAA hv.cons_inv fun y ys zz2 a b => ?_; subst zz2
  refine eE (p _ a) fun as h1 => ?_
  refine eE (q _ b) fun bs h2 => ?_
  rw [kqdPs]; exact ⟨_,.cons h1 h2⟩
 exact ⟨fun {v d} h {r} => DR.rec (motive_1 := fun v d _ => ∀ r,VR s.heap v r→∃ as,Reads s.heap r (kqdP d) as) (motive_2 := fun vs ds _ => ∀ rs,VRs s.heap vs rs→∃ as,ReadsAll s.heap rs (kqdPs ds) as) c1 c2 c3 (fun _ q => c4 q) (fun hl _ q => c5 hl q) c6 (fun _ _ p q => c7 p q) h r,
  fun {vs ds} h {rs} => DRs.rec (motive_1 := fun v d _ => ∀ r,VR s.heap v r→∃ as,Reads s.heap r (kqdP d) as) (motive_2 := fun vs ds _ => ∀ rs,VRs s.heap vs rs→∃ as,ReadsAll s.heap rs (kqdPs ds) as) c1 c2 c3 (fun _ q => c4 q) (fun hl _ q => c5 hl q) c6 (fun _ _ p q => c7 p q) h rs⟩
theorem DR.reads (S : HS C H s) {v : V} {d : Dat} {r : Value} (h : DR C H v d) (hv : VR s.heap v r) : ∃ as,Reads s.heap r (kqdP d) as := (DR.reads2 S).1 h hv
theorem O2_eqd {v w : V} {d e : Dat} (hd : DR C H v d) (he : DR C H w e) (kd : kqdOk 8 d = true) (ke : kqdOk 8 e = true) (hu : A.units + 10 < cLine) (h : ∀ b,(b = true↔d = e)→Q (.bool b) m H) : O2 C A (compareOp .Eq) v w m H Q := fun s r q S hr hq => by
 refine eE (hd.reads S.toHS hr) fun as ra => ?_
 refine eE (he.reads S.toHS hq) fun bs rb => ?_
 have la := kqd_lay 8 d kd
 have lb := kqd_lay 8 e ke
 exact SeqAt.compareEq_reads ra rb la.1 lb.1 (by have := la.2; have := lb.2; lia) (.here S .con (h _ (kqd_eqv 8 d e 8 kd ke)))
theorem O2_ned {v w : V} {d e : Dat} (hd : DR C H v d) (he : DR C H w e) (kd : kqdOk 8 d = true) (ke : kqdOk 8 e = true) (hu : A.units + 10 < cLine) (h : ∀ b,(b = true↔d≠e)→Q (.bool b) m H) : O2 C A (compareOp .NotEq) v w m H Q := fun s r q S hr hq => by
 refine eE (hd.reads S.toHS hr) fun as ra => ?_
 refine eE (he.reads S.toHS hq) fun bs rb => ?_
 have la := kqd_lay 8 d kd
 have lb := kqd_lay 8 e ke
 have k := kqd_eqv 8 d e 8 kd ke
 exact SeqAt.compareNe_reads ra rb la.1 lb.1 (by have := la.2; have := lb.2; (clear kd ke k this; lia)) (.here S .con (h _ (by (refine rE (Bool.not_eq_true' ..) (rF (Bool.not_eq_true ..) ?_); rw [k]))))
theorem O2_inl {l : Addr} {xs : List V} {v : V} {ds : List Dat} {d : Dat} (hl : LAt C H l xs) (hds : DRs C H xs ds) (hd : DR C H v d) (kds : ∀ e ∈ ds,kqdOk 8 e = true) (kd : kqdOk 8 d = true) (hu : A.units + 10 < cLine)
  (h : ∀ b,(b = true↔d ∈ ds)→Q (.bool b) m H) : O2 C A (compareOp .In) v (.ref l) m H Q := fun s q r S hq hr => by
 refine eE ((DR.list hl hds).reads S.toHS hr) fun as ra => ?_
 refine eE (hd.reads S.toHS hq) fun bs rb => ?_
 rw [kqdP] at ra
 have l := kqd_layL kds
 have ld := kqd_lay 8 d kd
 refine SeqAt.in_list_reads ra rb l.1 ld.1 ?_ (.here S .con (h _ (kqd_any ds d kds kd)))
 have := Nat.min_le_right (PyData.depthAll (kqdPs ds)) (kqdP d).depth
 have := ld.2; lia
variable {a : Addr} {T : Int→Bool} {n : Nat} {k : Int}
theorem HS.set (S : HS C H s) (ha : H a = some (.set T n)) : s.heap.SetOf (intKind C.prog C.w) a T n := by
 obtain ⟨_,o,ho,he,es,ep,t,hd,r⟩ := S.own a _ ha
 exact ⟨o,es,ep,t,ho,he,hd,r⟩
theorem set_rep {h : Heap} (x : h.SetOf (intKind C.prog C.w) a T n) {h₁ : Heap} : ∃ o,h.get? a = some o∧ORep C h₁ (.set T n) o := by
 obtain ⟨o,es,ep,t,ho,he,hd,r⟩ := x
 exact ⟨o,ho,he,es,ep,t,hd,r⟩
theorem CV_set0 (h : ∀ a,H a = none→C.h₀.get? a = none→Q (.ref a) m (H.set a (.set (fun _ => false) 0))) : CV C A (.con (.type "set")) [] [] m H Q := fun s rf rs rkw S hf hva hk => by
 have := hk.nil_inv; subst this
 refine rE hf.con_inv ?_
 have := hva.nil_inv; subst this
 refine call_set_0 fun led => ?_
 exact ⟨_,m,_,.ref,S.alloc (tk := s.toks) (c := .set (fun _ => false) 0) ⟨⟨rfl,rfl,rfl⟩,#[],0,.fresh 0 0 led,rfl,fun _ he => by simp at he,fun _ => by simp,by decide,by rfl,rfl⟩,.alloc,h _ S.toHS.fresh S.toHS.freshb⟩
theorem GM_set {Q : V→List V→Prop} (ha : H a = some (.set T n)) (h : Q (.con (.builtin "set.add")) [.ref a]) : GM C A (.ref a) "add" m H Q := fun s ro pl S hr => by
 refine rE hr.ref_inv ?_
 exact getMethod_set_add (S.toHS.set ha) ⟨_,_,.con,.cons .ref .nil,rfl,rfl,rfl,rfl,h⟩
theorem CV_add (ha : H a = some (.set T n)) (hroom : n + 1 < scanBound) (h : Q V.none m (H.set a (.set (fun x => T x || decide (x = k)) (if T k then n else n + 1)))) : CV C A (.con (.builtin "set.add")) [.ref a,.int k] [] m H Q := fun s rf rs rkw S hf hva hk => by
 have := hk.nil_inv; subst this
 refine rE hf.con_inv ?_
 refine eEEAA (two_inv hva) fun x y zz2 hx hy => ?_; subst zz2
 refine rE hx.ref_inv ?_; (refine eE hy.int_inv fun u zz1 => ?_; subst zz1)
 refine call_set_add (knd := intKind C.prog C.w) (intKind_is _ _ _ _) rfl (S.toHS.set ha) hroom fun h' hs hm => ?_
 refine eEA (set_rep (C := C) hm (h₁ := s.heap)) fun o ho hrep => ?_
 exact ⟨_,m,_,.con,S.upd (tk := s.toks + 1) ha hs ho hrep,.upd (tk := s.toks + 1) ha hs ho,h⟩
theorem O2_inset (ha : H a = some (.set T n)) (h : Q (.bool (T k)) m H) : O2 C A (compareOp .In) (.int k) (.ref a) m H Q := fun s q r S hq hr => by
 refine rE hr.ref_inv ?_; (refine eE hq.int_inv fun u zz1 => ?_; subst zz1)
 exact wpAny_inSet_of (knd := intKind C.prog C.w) (intKind_is _ _ _ _) rfl (S.toHS.set ha) (.same S .con h _)
theorem ES_del {o i : PySem.Expr} {p p' : Pos} {Q : Fl→Loc→CH→Prop} (h : EV C A o m H fun ov m₁ H₁ => EV C A i m₁ H₁ fun iv m₂ H₂ => ∃ d k kvs ep,ov = .ref d∧iv = .int k∧H₂ d = some (.dict kvs ep)∧kvs.length≤sizeLine∧(kvs.lookup k).isSome = true∧∀ ep',Q .next m₂ (H₂.set d (.dict (dropI kvs k) ep'))) :
  ES C A (.Delete [.Subscript o i p] p') m H Q := fun s S => by
 refine wpAny_Delete (wpAny_deleteEach_cons ?_)
 refine rE (arm_delete_Subscript ..) ?_
 refine wpAny_bind (wpAny_mono (h s S) ?_ fun _ _ x => x)
 rintro a s₁ ⟨ov,m₁,H₁,ra,S₁,af₁,h₁⟩
 refine wpAny_bind (wpAny_holding (wpAny_mono (h₁ s₁ S₁) ?_ fun _ _ x => x))
 rintro b s₂ ⟨iv,m₂,H₂,rb,S₂,af₂,d,k,kvs,ep,rfl,rfl,hd,hsz,hk,hq⟩
 have ra₂ := ra.keep (af₂.tup S₁)
 obtain rfl := ra₂.ref_inv
 refine eE rb.int_inv fun u zz1 => ?_; subst zz1
 refine eEA (S₂.toHS.dict hd) fun rs hD hrs => ?_
 have fin : wpAny (model C.prog C.w) A (delItem (.ref d) (.int k u)) (fun _ s' => PF C H s Q .next s') NoE s₂ := by
  unfold delItem
  try with_reducible refine wpAny_holding ?_
  refine wpAny_bind (wpAny_sequenceKey hD.dictOf.typeIs (by decide) ?_)
  have hthere : (valueAt (rawOf kvs rs) k).isSome = true := by
   refine rE valueAt_lookup ?_
   have := lookup_raw (k := k) hrs
   cases e1 : kvs.lookup k with
   | none => rw [e1] at hk; cases hk
   | some v => rw [e1] at this; refine eEA this.some_inv fun y hy _ => ?_; refine rE hy ?_; rfl
  refine wpAny_bind (wpAny_callSpecial?_slot (name := Str.ofString "__delitem__") hD.dictOf.typeIs PySem.F.slot_dict_delitem
   (call_meetsIn PySem.F.slot_dict_delitem hD.dictOf.typeIs PySem.F.entry_dict_delitem (PySem.F.args_dict_delitem_2 _ _) (meets_dict_delitem_pairs (intKind C.prog C.w) d (intKind_is _ _ _ _)) ⟨rawOf kvs rs,hD.dictOf,by refine rE (raw_length hrs) ?_; exact hsz,hthere,fun h' hmm hs => ?_⟩))
  refine eEA (drop_raw (k := k) hrs) fun rs' e hrs' => ?_
  refine eEEA (dict_rep (C := C) hmm e hrs') fun o ep' ho hrep => ?_
  exact wpAny_pure ⟨.next,m₂,_,rfl,S₂.upd (tk := s₂.toks + 1) hd hs ho hrep,(af₁.then S₁ af₂).then S₂ (.upd (tk := s₂.toks + 1) hd hs ho),hq ep'⟩
 refine wpAny_bind (wpAny_standAt (wpAny_bind (wpAny_holding (wpAny_mono fin (fun _ s₃ x => ?_) fun _ _ x => x))))
 have x' : wpAny (model C.prog C.w) A (deleteEach [] C.env) (fun _ s₁ => PF C H s Q .next s₁) NoE s₃ := wpAny_deleteEach_nil x
 exact fun Γ p hΓ => by refine rE (Sem.wp_release ..) ?_; exact x'
end
end
end Mine
end
section
open PySem PySem.Calls PySem.W PyProof.Rows
set_option maxRecDepth 100000
namespace Mine
noncomputable section
noncomputable def putS : Loc→Str→V→Loc
 | [],x,v => [(x,v)]
 | (y,w) :: r,x,v => if y = x then (y,v) :: r else (y,w) :: putS r x v
theorem EsR.get {h : Heap} {x : Str} : ∀ {fs : Loc} {es : List DictEntry},EsR h fs es→∀ {v : V},fs.lookup x = some v→∃ r,getL x es = some (some r)∧VR h v r
 | [],[],_,v,e => by simp at e
 | (y,w) :: fs,en :: es,r,v,e => by
  obtain ⟨⟨t,hk⟩,hv,hr⟩ := r
  unfold getL
  refine rE List.find?_cons (rE hk (rE (show (Value.str y t).isStr x = (y == x) from rfl) ?_))
  rw [List.lookup_cons] at e
  by_cases hxy : x = y
  ·subst hxy; simp only [beq_self_eq_true] at e ⊢; cases e; exact ⟨_,rfl,hv⟩
  ·rw [beq_eq_false_iff_ne.mpr hxy] at e
   refine rE (beq_eq_false_iff_ne.mpr (Ne.symm hxy)) ?_
   refine eEA (EsR.get hr e) fun q hq hv' => ?_
   refine ⟨q,?_,hv'⟩
   unfold getL at hq
   cases hf : List.find? (fun x_1 => x_1.key.isStr x) es with
   | some e' => rw [hf] at hq; exact hq
   | none => rw [hf] at hq; dsimp only at hq; split at hq <;> cases hq
 | [],_ :: _,r,_,_ => r.elim
 | _ :: _,[],r,_,_ => r.elim
theorem EsR.noRef {h : Heap} : ∀ {fs : Loc} {es : List DictEntry},EsR h fs es→es.any (·.refKey) = false
 | [],[],_ => rfl
 | (y,w) :: fs,en :: es,r => by
  obtain ⟨⟨t,hk⟩,hv,hr⟩ := r
  refine rE List.any_cons (rE hr.noRef ?_)
  simp [DictEntry.refKey,hk]
 | [],_ :: _,r => r.elim
 | _ :: _,[],r => r.elim
theorem EsR.miss {h : Heap} {x : Str} {fs : Loc} {es : List DictEntry} (r : EsR h fs es) (e : fs.lookup x = none) : getL x es = some none := by
 have hf : ∀ {fs : Loc} {es : List DictEntry},EsR h fs es→fs.lookup x = none→es.find? (·.key.isStr x) = none := by
  intro fs
  induction fs with
  | nil => intro es r _; cases es with
   | nil => rfl
   | cons => exact r.elim
  | cons p fs ih =>
   intro es r e
   obtain ⟨y,w⟩ := p
   cases es with
   | nil => exact r.elim
   | cons en es =>
    obtain ⟨⟨t,hk⟩,hv,hr⟩ := r
    rw [List.lookup_cons] at e
    have hxy : x≠y := fun q => by subst q; simp at e
    rw [beq_eq_false_iff_ne.mpr hxy] at e
    refine rE List.find?_cons (rE hk (rE (show (Value.str y t).isStr x = (y == x) from rfl) ?_))
    refine rE (beq_eq_false_iff_ne.mpr (Ne.symm hxy)) ?_
    exact ih hr e
 unfold getL
 refine rE (hf r e) (rE r.noRef ?_); rfl
theorem EsR.put {h : Heap} {x : Str} {v : V} {r : Value} {hs : Int} {t : Tok} (hv : VR h v r) : ∀ {fs : Loc} {es : List DictEntry},EsR h fs es→EsR h (putS fs x v) (putL x hs (.str x t) r es)
 | [],[],_ => ⟨⟨t,rfl⟩,hv,trivial⟩
 | (y,w) :: fs,en :: es,q => by
  obtain ⟨⟨u,hk⟩,hw,hr⟩ := q
  unfold putS putL
  refine rE hk (rE (show (Value.str y u).isStr x = (y == x) from rfl) ?_)
  by_cases hxy : y = x
  ·subst hxy; refine rE (if_pos rfl) (rE (if_pos (beq_self_eq_true _)) ?_); exact ⟨⟨u,rfl⟩,hv,hr⟩
  ·refine rE (if_neg hxy) (rE (if_neg (by rw [beq_eq_false_iff_ne.mpr hxy]; decide)) ?_)
   exact ⟨⟨u,hk⟩,hw,EsR.put hv hr⟩
 | [],_ :: _,r => r.elim
 | _ :: _,[],r => r.elim
theorem EsR.length {h : Heap} : ∀ {fs : Loc} {es : List DictEntry},EsR h fs es→es.length = fs.length
 | [],[],_ => rfl
 | _ :: _,_ :: _,r => by refine rE List.length_cons (rE List.length_cons (rE r.2.2.length rfl))
 | [],_ :: _,r => r.elim
 | _ :: _,[],r => r.elim
section
variable {C : Cx} {A : Around} {m : Loc} {H : CH} {s : Shared} {K : Frag} {mg mb : Str→Option Value} {Q : V→Loc→CH→Prop} {QU : Loc→CH→Prop} {x d k : Addr} {sl : List (Option V)} {fs : Loc} {name : Str} {v : V}
structure RawInst (h : Heap) (x k d : Addr) (sl : List (Option V)) (fs : Loc) (rs : Array (Option Value)) (es : List DictEntry) (n : Nat) : Prop where
 ox : h.get? x = some { cls := .ref k,dict := some d,data := .plain,slots := rs }
 sl : OptRs h sl rs.toList
 od : h.get? d = some (dictOf es n)
 es : EsR h fs es
theorem RawInst.at {h : Heap} {rs : Array (Option Value)} {es : List DictEntry} {n : Nat} (R : RawInst h x k d sl fs rs es n) : InstAt h x { cls := .ref k,dict := some d,data := .plain,slots := rs } k (some (dictOf es n)) := ⟨R.ox,rfl,rfl,R.od⟩
theorem HS.inst (S : HS C H s) (hx : H x = some (.inst k d sl)) (hd : H d = some (.idict fs)) : ∃ rs es n,RawInst s.heap x k d sl fs rs es n := by
 obtain ⟨_,o,ho,rs,rfl,hsl⟩ := S.own x _ hx
 obtain ⟨_,o',ho',es,n,rfl,hes⟩ := S.own d _ hd
 exact ⟨rs,es,n,ho,hsl,ho',hes⟩
theorem OptRs.get {h : Heap} : ∀ {sl : List (Option V)} {rs : List (Option Value)},OptRs h sl rs→∀ {i : Nat} {v : V},sl[i]? = some (some v)→∃ r,rs[i]? = some (some r)∧VR h v r
 | [],_,_,i,v,e => by simp at e
 | a :: as,[],r,_,_,_ => r.elim
 | a :: as,b :: bs,r,i,v,e => by
  cases i with
  | zero =>
   simp at e; subst e
   obtain ⟨q,rfl,hq⟩ := OptR.some_inv r.1
   exact ⟨q,by exact List.getElem?_cons_zero,hq⟩
  | succ i => simp at e; obtain ⟨q,hq,hv⟩ := OptRs.get r.2 e; exact ⟨q,by assumption,hv⟩
theorem EV_attr {o : PySem.Expr} {p : Pos} (h : EV C A o m H (KO1 C A (fun r => getAttr r name true) Q))
  (he : autoParam (eval (.Attribute o name p) C.env = (do
   let ov ← eval o C.env
   standAt p.atName
   let r ← holding [ov] (getAttr ov name true)
   letTemporaryGo o ov r
   pure r)) Mine.syn1) : EV C A (.Attribute o name p) m H Q := fun s S => by
 refine Attribute_any_ (wpAny_mono (h s S) ?_ fun _ _ x => x) he
 rintro r s₁ ⟨ov,m₁,H₁,hv,S₁,af₁,h₁⟩
 exact wpAny_mono (h₁ s₁ r S₁ hv) (fun _ _ x => x.mono S₁ af₁) fun _ _ x => x
noncomputable def ownOk (K : Frag) (c : Addr) (name : Str) : Bool := plainGet K c name && hasDictIn K c && (match findIn K (.ref c) name with | some a => noGet K a | none => false)
noncomputable def VHand : V→Prop
 | .con v => handedIn v = true
 | _ => True
theorem VR.hand {h : Heap} {v : V} {r : Value} (x : VR h v r) (hh : VHand v) : handedIn r = true := by
 cases v with
 | con c => refine rE x.con_inv ?_; exact hh
 | int i => (refine eE x.int_inv fun t zz1 => ?_; subst zz1); rfl
 | str i => (refine eE x.str_inv fun t zz1 => ?_; subst zz1); rfl
 | tup l => (refine eEEEA x.tup_inv fun a items n zz3 _ => ?_; subst zz3); rfl
 | rng => obtain ⟨z,t,u,w,rfl,_⟩ := x.rng_inv; rfl
 | imm => obtain ⟨_,a,rfl,_⟩ := x.imm_inv; rfl
 | fn => obtain ⟨a,_,_,_,rfl,_⟩ := x.fn_inv; rfl
 | ref a => refine rE x.ref_inv ?_; rfl
set_option tactic.hygienic true in
theorem GA_own (B : Bs C.h₀ K mg mb) (hx : H x = some (.inst k d sl)) (hd : H d = some (.idict fs)) (hv : fs.lookup name = some v) (h : Q v m H) (hok : autoParam (ownOk K k name = true) Mine.syn5) (hh : VHand v := by first | exact trivial | rfl) :
  O1 C A (fun r => getAttr r name true) (.ref x) m H Q := fun s r S hr => by
 refine rE hr.ref_inv ?_
 refine eEEE (S.toHS.inst hx hd) fun rs es n R => ?_
 unfold ownOk at hok
 simp only [Bool.and_eq_true] at hok
 refine eA hok fun zz0 h3 => ?_; obtain ⟨h1,h2⟩ := zz0
 split at h3
 ·rename_i a ha
  refine eEA (R.es.get hv) fun q hq hvq => ?_
  exact get_value (B.X.keeps S.base) R.at (plainGet_of h1).1 (findObj_own h2 ha h3 hq) (hvq.hand hh) (.same S hvq h _)
 ·cases h3
noncomputable def slotOk (K : Frag) (c : Addr) (name : Str) (p : Addr) (i : Nat) : Bool := plainGet K c name && isClsIn K c && (findIn K (.ref c) name == some (some (.ref p))) && (specialIn K (.ref p) "__get__" == some (some (.builtin "member_descriptor.__get__"))) && (takesIn K (.ref p) == some true) && (slotIn K p c == some i)
theorem GA_slot {p : Addr} {i : Nat} (B : Bs C.h₀ K mg mb) (hx : H x = some (.inst k d sl)) (hd : H d = some (.idict fs)) (hv : sl[i]? = some (some v)) (h : Q v m H) (hok : autoParam (slotOk K k name p i = true) Mine.syn5) (hh : VHand v := by first | exact trivial | rfl) :
  O1 C A (fun r => getAttr r name true) (.ref x) m H Q := fun s r S hr => by
 refine rE hr.ref_inv ?_
 refine eEEE (S.toHS.inst hx hd) fun rs es n R => ?_
 unfold slotOk at hok
 simp only [Bool.and_eq_true,beq_iff_eq] at hok
 refine eA hok fun zz0 h6 => ?_; obtain ⟨⟨⟨⟨h1,h2⟩,h3⟩,h4⟩,h5⟩ := zz0
 have X : K.In s.heap := B.X.keeps S.base
 refine eEA (R.sl.get hv) fun q hq hvq => ?_
 refine get_bind X R.at (plainGet_of h1).1 (findObj_data h2 h3 h4 h5) (plainGet_of h1).2 (wpAny_call (slot_get (s := { s with toks := s.toks + 1 }) X R.at h6 (v := q) ?_ (handed_on (hvq.hand hh) (.same S hvq h _))))
 show (rs[i]?).join = some q
 refine rF Array.getElem?_toList (rE hq ?_); rfl
noncomputable def fnOk (K : Frag) (c : Addr) (name : Str) (f : Addr) : Bool := plainGet K c name && hasDictIn K c && (findIn K (.ref c) name == some (some (.ref f))) && isFn K (.ref f) && (specialIn K (.ref f) "__get__" == some (some (.builtin "function.__get__"))) && (takesIn K (.ref f) == some false) && !copiedNames.contains name
theorem GM_inst {f : Addr} {Q : V→List V→Prop} (B : Bs C.h₀ K mg mb) (hx : H x = some (.inst k d sl)) (hd : H d = some (.idict fs)) (hv : fs.lookup name = none) (h : Q (.con (.ref f)) [.ref x]) (hok : autoParam (fnOk K k name f = true) Mine.syn5) : GM C A (.ref x) name m H Q := fun s r pl S hr => by
 refine rE hr.ref_inv ?_
 refine eEEE (S.toHS.inst hx hd) fun rs es n R => ?_
 unfold fnOk at hok
 simp only [Bool.and_eq_true,beq_iff_eq] at hok
 refine eA hok fun zz0 h7 => ?_; obtain ⟨⟨⟨⟨⟨h1,h2⟩,h3⟩,h4⟩,h5⟩,h6⟩ := zz0
 exact method_fn (B.X.keeps S.base) R.at (plainGet_of h1).1 (plainGet_of h1).2 h3 (beq_iff_eq.mp h4) (by show (lookIn name (dictOf es n)).map _ = _; refine rE (lookIn_dict ..) (rE (R.es.miss hv) ?_); rfl) ⟨_,_,.con,.cons .ref .nil,rfl,rfl,rfl,rfl,h⟩
theorem Imm.meth {f self : Value} (h : ∀ x t,self≠.str x t) : Imm (methodObj f self) := ⟨rfl,.inl ⟨"method",by decide,rfl⟩,(by intro _ _ e; cases e),(by intro _ e; cases e),(by intro _ _ _ e; cases e)⟩
theorem GA_bound {f : Addr} (B : Bs C.h₀ K mg mb) (hx : H x = some (.inst k d sl)) (hd : H d = some (.idict fs)) (hv : fs.lookup name = none) (h : Q (.imm (methodObj (.ref f) (.ref x))) m H) (hok : autoParam (fnOk K k name f = true) Mine.syn5) :
  O1 C A (fun r => getAttr r name true) (.ref x) m H Q := fun s r S hr => by
 refine rE hr.ref_inv ?_
 refine eEEE (S.toHS.inst hx hd) fun rs es n R => ?_
 unfold fnOk at hok
 simp only [Bool.and_eq_true,beq_iff_eq,Bool.not_eq_true'] at hok
 refine eA hok fun zz0 h7 => ?_; obtain ⟨⟨⟨⟨⟨h1,h2⟩,h3⟩,h4⟩,h5⟩,h6⟩ := zz0
 have X : K.In s.heap := B.X.keeps S.base
 refine get_bind X R.at (plainGet_of h1).1 (findObj_fn h2 h3 h5 h6 h7 (by show lookIn name (dictOf es n) = _; refine rE (lookIn_dict ..) (rE (R.es.miss hv) rfl))) (plainGet_of h1).2
  (wpAny_call (fn_get (s := { s with toks := s.toks + 1 }) X (beq_iff_eq.mp h4) (handed_on rfl ?_)))
 exact ⟨_,m,H,.imm (.meth (by intro _ _ e; cases e)) (Heap.get?_push_size _ rfl),S.more (tk := s.toks + 1) (keep_push _ _),.more (tk := s.toks + 1) (keep_push _ _),h⟩
theorem CALL_bound {f : Addr} {vs : List V} {kws : List (Str × V)} {Q : V→CH→Prop} (h : CALL C A (.con (.ref f)) (.ref x :: vs) kws H Q) : CALL C A (.imm (methodObj (.ref f) (.ref x))) vs kws H Q := fun s rf rs rkw S F hf hv hk => by
 obtain ⟨_,a,rfl,ho⟩ := hf.imm_inv
 exact method_call ho (h s (.ref f) (.ref x :: rs) rkw S F .con (.cons .ref hv) hk)
theorem KP_bound {f : Addr} {o : Obj} {fd : FuncData} (e : C.h₀.get? f = some o) (hd : o.data = .func fd) : KP C (.imm (methodObj (.ref f) (.ref x))) H := fun s rf S hf => by
 obtain ⟨_,a,rfl,ho⟩ := hf.imm_inv
 refine ⟨.boundFrame,(Looks.ld (part := none) ho).andThen ?_⟩
 refine (Looks.ld (part := none) (S.base _ _ e)).andThen ?_
 refine rE hd ?_; exact .now
noncomputable def SA (C : Cx) (A : Around) (ov : V) (name : Str) (v : V) (m : Loc) (H : CH) (Q : Loc→CH→Prop) : Prop := ∀ s ro rv,St C m H s→VR s.heap ov ro→VR s.heap v rv→wpAny (model C.prog C.w) A (setAttr ro name rv) (PA C H s fun _ => Q) NoE s
noncomputable abbrev KSA (C : Cx) (A : Around) (name : Str) (v : V) (Q : Loc→CH→Prop) : V→Loc→CH→Prop := fun ov m H => SA C A ov name v m H Q
theorem ASG_attr {o : PySem.Expr} {p : Pos} (h : EV C A o m H (KSA C A name v QU)) : ASG C A (.Attribute o name p) v m H QU := fun s r S hv => by
 refine kas_attr (wpAny_mono (h s S) ?_ fun _ _ x => x)
 rintro ro s₁ ⟨ov,m₁,H₁,ho,S₁,af₁,h₁⟩
 exact wpAny_mono (h₁ s₁ ro r S₁ ho (hv.keep (af₁.tup S))) (fun _ _ x => x.mono S₁ af₁) fun _ _ x => x
set_option tactic.hygienic true in
theorem osa_raw {prog : Program} {w : World} {R : Result→Shared→Prop} {ox : Obj} {es : List DictEntry} {n : Nat} {dx : Addr} {tk : Tok} {r : Value} (X : K.In s.heap) (I : InstAt s.heap x ox k (some (dictOf es n))) (hd : ox.dict = some dx)
  (hp : plainOver K k = true) (ht : takerIn K k name = some none) (hh : (clsIn K k).any (·.hasDict) = true) (hl : (getL name es).isSome = true) (hz : es.length < 1000)
  (h : ∀ h',Heap.SameBut dx s.heap h'→h'.get? dx = some (dictOf (putL name (PyData.keyHash w.params name) (.str name s.toks) r es) (putN name es n))→R (.ok (.ret .none)) { s with heap := h',toks := s.toks + 1 }) :
  codeAny (model prog w) A (.call (.builtin "object.__setattr__") ⟨[.ref x,.str name tk,r],[]⟩) R s := by
 refine osa_open X I hp ht fun b => ?_
 refine eEA (any_some hh) fun cd hc hd' => ?_
 obtain ⟨hx,hcl,hn,hdd⟩ := I
 obtain ⟨oc,odi,oda,osl⟩ := ox
 dsimp only at hcl hd hdd
 subst hcl hd
 dsimp only at hdd
 have e := putName_dict name (PyData.keyHash w.params name) (.str name s.toks) r es n
 have D' : (s.heap.update dx (Obj.putName name (PyData.keyHash w.params name) (.str name s.toks) r)).get? dx = some (dictOf (putL name (PyData.keyHash w.params name) (.str name s.toks) r es) (putN name es n)) := by
  refine rF e ?_; exact Heap.get?_update_self _ hdd (by refine rE e ?_; rfl)
 refine wpAny_bind (wpAny_pure (wpAny_bind (wpAny_bind (wpAny_loadPart hx (wpAny_bind ((looks_clsIn X hc).here ?_))))))
 refine rE hd' ?_
 refine wpAny_pure (a := some dx) (wpAny_bind (wpAny_pure (wpAny_bind ?_)))
 unfold nsSet
 refine wpAny_bind (wpAny_bind (wpAny_askSetting (wpAny_pure (wpAny_bind (wpAny_mkText (wpAny_bind (wpAny_loadPart hdd ?_)))))))
 have hlen : ∀ es : List DictEntry,(putL name (PyData.keyHash w.params name) (.str name s.toks) r es).length≤es.length + 1 := by
  intro es
  induction es with
  | nil => exact Nat.le_refl _
  | cons e es ih => unfold putL; split <;> simp <;> omega
 have c : (!es.toArray.any (·.key.isStr name) && es.toArray.any (·.refKey)) = false := by
  refine rE List.any_toArray (rE List.any_toArray ?_)
  unfold getL at hl
  split at hl
  ·rename_i en he
   refine rE (List.any_eq_true.mpr ⟨en,List.mem_of_find?_eq_some he,List.find?_some he⟩) ?_; rfl
  ·split at hl
   ·cases hl
   ·rename_i z; rw [Bool.not_eq_true] at z; refine rE z (rE (Bool.and_false ..) rfl)
 dsimp only
 refine rE (aRefKeyMayBeTheName_at ..) (rE c ?_)
 refine wpAny_updatePart hdd ?_
 refine wpAny_bind (wpAny_lookBehind D' (pastItsLine_dict (by refine rE List.size_toArray (rE sizeLine_eq ?_); have := hlen es; lia)) ?_)
 exact wpAny_pure (h _ (Heap.SameBut.update ..) D')
noncomputable def setOk (K : Frag) (c : Addr) (name : Str) : Bool := (findIn K (.ref c) "__setattr__" == some (some (.builtin "object.__setattr__"))) && plainOver K c && (match takerIn K c name with | some none => true | _ => false) && (clsIn K c).any (·.hasDict)
set_option tactic.hygienic true in
theorem SA_own (B : Bs C.h₀ K mg mb) (hx : H x = some (.inst k d sl)) (hd : H d = some (.idict fs)) (hz : fs.length < 1000) (h : QU m (H.set d (.idict (putS fs name v)))) (hok : autoParam (setOk K k name = true) Mine.syn5) : SA C A (.ref x) name v m H QU := fun s ro rv S ho hv => by
 refine rE ho.ref_inv ?_
 refine eEEE (S.toHS.inst hx hd) fun rs es n R => ?_
 unfold setOk at hok
 simp only [Bool.and_eq_true,beq_iff_eq] at hok
 refine eA hok fun zz0 h4 => ?_; obtain ⟨⟨h1,h2⟩,h3⟩ := zz0
 split at h3
 ·rename_i ht
  have X : K.In s.heap := B.X.keeps S.base
  have hg : (getL name es).isSome = true := by
   cases e : fs.lookup name with
   | none => refine rE (R.es.miss e) ?_; rfl
   | some w => refine eEA (R.es.get e) fun q hq _ => ?_; refine rE hq ?_; rfl
  refine set_plain X R.at h1 (osa_raw (s := { s with toks := s.toks + 1 }) X R.at rfl h2 ht h4 hg (by refine rE R.es.length ?_; exact hz) fun h' hs hg' => ?_)
  exact ⟨m,_,S.upd (tk := s.toks + 1 + 1) (c' := .idict (putS fs name v)) hd hs hg' ⟨_,_,rfl,EsR.put hv R.es⟩,.upd (tk := s.toks + 1 + 1) hd hs hg',h⟩
 ·cases h3
end
end
end Mine
end
section
open PySem PySem.Calls PySem.W PyProof.Rows Builtin Builtin.ObjectAttr Builtin.Getset_descriptor
set_option maxRecDepth 100000
set_option maxHeartbeats 4000000
namespace Mine
noncomputable section
section
variable {C : Cx} {A : Around} {m : Loc} {H : CH} {s : Shared} {K : Frag} {mg mb : Str→Option Value} {Q : V→Loc→CH→Prop} {QU : Loc→CH→Prop} {x d k : Addr} {sl : List (Option V)} {fs : Loc} {name : Str} {v : V}
theorem slot_raw {prog : Program} {w : World} {R : Result→Shared→Prop} {ox : Obj} {od : Option Obj} {r : Value} {p : Addr} {i : Nat} (X : K.In s.heap) (I : InstAt s.heap x ox k od) (hp : slotIn K p k = some i) (hi : i < 1000)
  (h : R (.ok (.ret .none)) { s with heap := s.heap.update x (fun o => { o with slots := (o.slots ++ Array.replicate (i + 1 - o.slots.size) none).setIfInBounds i (some r) }) }) :
  codeAny (model prog w) A (.call (.builtin "member_descriptor.__set__") ⟨[.ref p,.ref x,r],[]⟩) R s := by
 obtain ⟨n,tn,owner,behind,tb,d,sl,cd,ho,hc,hm,hb,rfl⟩ := slot_of X hp
 obtain ⟨hh,g,dr,t,os⟩ := s
 have L0 := I.type (M := model prog w)
 have L1 := looks_mroIn (M := model prog w) X hm
 have L2 : Looks (model prog w) hh (Slots.slotNamesOf (.ref k)) cd.slotNames := (looks_clsIn X hc).andThen .now
 have hx := I.at_
 dsimp only at ho hx L0 L1
 have f0 := looks_field (M := model prog w) ho 0 (v := .str n tn) rfl
 have f1 := looks_field (M := model prog w) ho 1 (v := owner) rfl
 have f3 := looks_field (M := model prog w) ho 3 (v := .builtin "proto.slot#set") rfl
 have f4 := looks_field (M := model prog w) ho 4 (v := .int behind tb) rfl
 refine codeAny_call_builtin KF.slot_mset.plain KF.entry_mset (KF.slot_mset.check _ _ _ _ _ _ _ _ ⟨_,ho,rfl⟩ (KF.args_mset _ _ _) ?_)
 unfold Builtin.«member_descriptor.__set__» descrSet descrStoreThrough descrCheckInstance descrNameAndClass isInstance
 have f5 : Looks (model prog w) hh (descrItself (.ref p)) [.ref p] := ((Looks.ld (part := none) ho).andThen .now).andThen (Looks.of_pure (by kernel_rfl))
 repeat lk
 refine ⟨Code.quiet_builtin _ (by decide +kernel),codeAny_builtin KF.entry_slotset ?_⟩
 unfold Builtin.«proto.slot#set» Slots.target
 repeat lk
 refine rE (if_neg hb) ?_
 refine wpAny_pure (wpAny_bind ?_)
 unfold setSlotAt
 dsimp only
 refine rE (if_neg (by rw [sizeLine_eq]; lia)) ?_
 exact wpAny_updatePart hx (wpAny_pure h)
noncomputable def setSlotOk (K : Frag) (c : Addr) (name : Str) (p : Addr) (i : Nat) : Bool := (findIn K (.ref c) "__setattr__" == some (some (.builtin "object.__setattr__"))) && plainOver K c && (match takerIn K c name with | some (some (.ref q)) => q == p | _ => false) && (typeIn K (.ref p) == some (.type "member_descriptor")) && (slotIn K p c == some i) && decide (i < 1000)
noncomputable def putSl (sl : List (Option V)) (i : Nat) (v : V) : List (Option V) := (sl ++ List.replicate (i + 1 - sl.length) none).set i (some v)
theorem OptRs.append {h : Heap} : ∀ {a : List (Option V)} {b : List (Option Value)} {c : List (Option V)} {e : List (Option Value)},OptRs h a b→OptRs h c e→OptRs h (a ++ c) (b ++ e)
 | [],[],_,_,_,q => q
 | _ :: _,_ :: _,_,_,p,q => ⟨p.1,p.2.append q⟩
 | [],_ :: _,_,_,p,_ => p.elim
 | _ :: _,[],_,_,p,_ => p.elim
theorem OptRs.nones {h : Heap} : ∀ n : Nat,OptRs h (List.replicate n none) (List.replicate n none)
 | 0 => trivial
 | n + 1 => ⟨trivial,OptRs.nones n⟩
theorem OptRs.set {h : Heap} {v : V} {r : Value} (hv : VR h v r) : ∀ {a : List (Option V)} {b : List (Option Value)},OptRs h a b→∀ i,OptRs h (a.set i (some v)) (b.set i (some r))
 | [],[],_,_ => trivial
 | _ :: _,_ :: _,p,0 => ⟨hv,p.2⟩
 | _ :: _,_ :: _,p,i + 1 => ⟨p.1,p.2.set hv i⟩
 | [],_ :: _,p,_ => p.elim
 | _ :: _,[],p,_ => p.elim
theorem OptRs.length {h : Heap} : ∀ {a : List (Option V)} {b : List (Option Value)},OptRs h a b→b.length = a.length
 | [],[],_ => rfl
 | _ :: _,_ :: _,p => by refine rE List.length_cons (rE List.length_cons (rE p.2.length rfl))
 | [],_ :: _,p => p.elim
 | _ :: _,[],p => p.elim
set_option tactic.hygienic true in
theorem SA_slot {p : Addr} {i : Nat} (B : Bs C.h₀ K mg mb) (hx : H x = some (.inst k d sl)) (hd : H d = some (.idict fs)) (h : QU m (H.set x (.inst k d (putSl sl i v)))) (hok : autoParam (setSlotOk K k name p i = true) Mine.syn5) : SA C A (.ref x) name v m H QU := fun s ro rv S ho hv => by
 refine rE ho.ref_inv ?_
 refine eEEE (S.toHS.inst hx hd) fun rs es n R => ?_
 unfold setSlotOk at hok
 simp only [Bool.and_eq_true,beq_iff_eq,decide_eq_true_eq] at hok
 refine eA hok fun zz0 h6 => ?_; obtain ⟨⟨⟨⟨h1,h2⟩,h3⟩,h4⟩,h5⟩ := zz0
 split at h3
 ·rename_i q ht
  rw [beq_iff_eq] at h3; subst h3
  have X : K.In s.heap := B.X.keeps S.base
  refine set_plain X R.at h1 (osa_descr (s := { s with toks := s.toks + 1 }) KF.slot_mset X R.at h2 ht h4 (slot_raw (s := { s with toks := s.toks + 1 }) X R.at h5 h6 ?_))
  have ho' := Heap.get?_update_self (fun o => { o with slots := (o.slots ++ Array.replicate (i + 1 - o.slots.size) none).setIfInBounds i (some rv) }) R.ox rfl
  refine ⟨m,_,S.upd (tk := s.toks + 1) (c' := .inst k d (putSl sl i v)) hx (Heap.SameBut.update ..) ho' ⟨_,rfl,?_⟩,.upd (tk := s.toks + 1) hx (Heap.SameBut.update ..) ho',h⟩
  show OptRs s.heap (putSl sl i v) ((rs ++ Array.replicate (i + 1 - rs.size) none).setIfInBounds i (some rv)).toList
  refine rE Array.toList_setIfInBounds (rE Array.toList_append (rE Array.toList_replicate ?_))
  unfold putSl
  have hz : rs.size = sl.length := by have := R.sl.length; simpa using this
  refine rE hz ?_
  exact (R.sl.append (OptRs.nones _)).set hv i
 ·cases h3
theorem AOK.under {n : Nat} {rest : List Value} {kw : List (Str × Value)} (h : AOK C A (n + 1)) : AOK C (A.under (.builtin "type.__call__" ⟨.ref k :: rest,kw⟩)) n := by
 have hw : (Code.builtin "type.__call__" ⟨.ref k :: rest,kw⟩).weight = 1 := rfl
 have hu : (Code.builtin "type.__call__" ⟨.ref k :: rest,kw⟩).cUnits = 1 := rfl
 have he : (Code.builtin "type.__call__" ⟨.ref k :: rest,kw⟩).envs = [] := rfl
 refine ⟨h.handled,?_,?_,?_⟩
 ·show A.depth + _ + n < _; refine rE hw ?_; have := h.depth; lia
 ·show A.units + _ + 4 * n + 40 < _; refine rE hu ?_; have := h.units; lia
 ·unfold Around.under; dsimp only; refine rE he ?_; exact h.frames
noncomputable def makeOk (K : Frag) (c fI : Addr) : Bool := makesIn K c && (findIn K (.ref c) "__init__" == some (some (.ref fI))) && (typeIn K (.ref fI) == some (.type "function"))
theorem CALL_make {c fI : Addr} {vs : List V} {kws : List (Str × V)} {Q : V→CH→Prop} (B : Bs C.h₀ K mg mb) (hok : makeOk K c fI = true)
  (h : ∀ x d rest kw,H x = none→H d = none→C.h₀.get? x = none→C.h₀.get? d = none→x≠d→CALL C (A.under (.builtin "type.__call__" ⟨.ref c :: rest,kw⟩)) (.con (.ref fI)) (.ref x :: vs) kws ((H.set d (.idict [])).set x (.inst c d [])) fun v H' => v = V.none∧Q (.ref x) H') : CALL C A (.con (.ref c)) vs kws H Q := fun s rf rs rkw S F hf hv hk => by
 unfold makeOk at hok
 simp only [Bool.and_eq_true,beq_iff_eq] at hok
 refine eA hok fun zz0 h3 => ?_; obtain ⟨h1,h2⟩ := zz0
 refine rE hf.con_inv ?_
 have X : K.In s.heap := B.X.keeps S.base
 obtain ⟨hh,g,dr,t,os⟩ := s
 refine make_core (makes_of X h1) (looks_findIn X h2) (fun self => bind_fn X self h3) (.inl rfl) ?_
 have S1 := S.alloc (tk := t) (o := emptyDict) (c := .idict []) ⟨[],0,rfl,trivial⟩
 have a1 : AfterC H ⟨hh,g,dr,t,os⟩ _ _ := .alloc (tk := t) (o := emptyDict) (c := .idict [])
 have S2 := S1.alloc (tk := t) (o := instObj c hh.objs.size) (c := .inst c hh.objs.size []) ⟨#[],rfl,trivial⟩
 have a2 := a1.trans (.alloc (tk := t) (o := instObj c hh.objs.size) (c := .inst c hh.objs.size []))
 have hsz : (hh.push emptyDict).objs.size = hh.objs.size + 1 := Heap.size_push ..
 have hx0 : hh.get? (hh.objs.size + 1) = none := by
  cases e : hh.get? (hh.objs.size + 1) with
  | none => rfl
  | some o => have := Heap.lt_size e; exact absurd this (by exact Nat.not_succ_lt_self)
 have hnb : C.h₀.get? (hh.objs.size + 1) = none := by
  cases e : C.h₀.get? (hh.objs.size + 1) with
  | none => rfl
  | some o => have := S.base _ _ e; dsimp only at this; exact (no1 hx0 this).elim
 have hnH : H (hh.objs.size + 1) = none := by
  cases e : H (hh.objs.size + 1) with
  | none => rfl
  | some c => obtain ⟨_,o,ho,_⟩ := S.own _ _ e; dsimp only at ho; exact (no1 hx0 ho).elim
 dsimp only at S2 a2
 rw [hsz] at S2 a2
 have keep : ∀ b o,hh.get? b = some o→((hh.push emptyDict).push (instObj c hh.objs.size)).get? b = some o := fun b o e => Heap.get?_push_of_some _ (Heap.get?_push_of_some _ e)
 refine codeAny_mono (h (hh.objs.size + 1) hh.objs.size rs rkw hnH S.fresh hnb S.freshb (Nat.succ_ne_self _) _ _ _ _ S2 (F.after a2) .con (.cons .ref (hv.keep (.of_keep keep))) (hk.keep (.of_keep keep))) ?_
 rintro r s' z
 cases r with
 | error e => exact z.elim
 | ok fl =>
  cases fl with
  | ret rv =>
   obtain ⟨v,H',hvr,S',a',rfl,q⟩ := z
   exact ⟨hvr.con_inv,.ref _,H',.ref,S',a2.trans a',q⟩
  | next => exact z.elim
  | brk => exact z.elim
  | cont => exact z.elim
theorem KP_cls {c : Addr} (B : Bs C.h₀ K mg mb) (hk : keepIn K (.ref c) = true) : KP C (.con (.ref c)) H := fun s rf S hf => by
 refine rE hf.con_inv ?_
 refine eEA (looks_keep (M := model C.prog C.w) hk (B.X.keeps S.base)) fun k _ L => ?_
 exact ⟨k,L⟩
theorem ES_aug_attr {o : PySem.Expr} {op : Operator} {value : PySem.Expr} {p p' : Pos} {Q : Fl→Loc→CH→Prop}
  (h : EV C A o m H fun ov m₁ H₁ => O1 C A (fun r => getAttr r name true) ov m₁ H₁ fun old m₂ H₂ => EV C A value m₂ H₂ fun v m₃ H₃ => O2 C A (inplaceOp op) old v m₃ H₃ fun r m₄ H₄ => SA C A ov name r m₄ H₄ (Q .next)) :
  ES C A (.AugAssign (.Attribute o name p') op value p) m H Q := fun s S => by
 refine wpAny_AugAssign_AttributeAny (wpAny_mono (h s S) ?_ fun _ _ x => x)
 rintro ro s₁ ⟨ov,m₁,H₁,ho,S₁,af₁,h₁⟩
 refine wpAny_mono (h₁ s₁ ro S₁ ho) ?_ fun _ _ x => x
 rintro ra s₂ ⟨old,m₂,H₂,ha,S₂,af₂,h₂⟩
 refine wpAny_mono (h₂ s₂ S₂) ?_ fun _ _ x => x
 rintro rb s₃ ⟨v,m₃,H₃,hb,S₃,af₃,h₃⟩
 refine wpAny_mono (h₃ s₃ ra rb S₃ (ha.keep (af₃.tup S₂)) hb) ?_ fun _ _ x => x
 rintro rc s₄ ⟨u,m₄,H₄,hc,S₄,af₄,h₄⟩
 refine wpAny_mono (h₄ s₄ ro rc S₄ (((ho.keep (af₂.tup S₁)).keep (af₃.tup S₂)).keep (af₄.tup S₃)) hc) ?_ fun _ _ x => x
 rintro _ s₅ ⟨m₅,H₅,S₅,af₅,h₅⟩
 exact ⟨.next,m₅,H₅,rfl,S₅,((((af₁.then S₁ af₂).then S₂ af₃).then S₃ af₄).then S₄ af₅),h₅⟩
theorem EV_named {t e : PySem.Expr} {p : Pos} (h : EV C A e m H fun v m₁ H₁ => ASG C A t v m₁ H₁ (Q v)) : EV C A (.NamedExpr t e p) m H Q := fun s S => by
 refine wpAny_NamedExpr (wpAny_mono (h s S) ?_ fun _ _ x => x)
 rintro r s₁ ⟨v,m₁,H₁,hv,S₁,af₁,h₁⟩
 refine wpAny_mono (h₁ s₁ r S₁ hv) ?_ fun _ _ x => x
 rintro _ s₂ ⟨m₂,H₂,S₂,af₂,h₂⟩
 exact ⟨v,m₂,H₂,hv.keep (af₂.tup S₁),S₂,af₁.then S₁ af₂,h₂⟩
end
end
end Mine
end
section
open PySem PySem.Calls PySem.W PyProof.Rows
set_option maxRecDepth 100000
namespace Mine
noncomputable section
section
variable {C : Cx} {A : Around} {m : Loc} {H : CH} {s : Shared} {K : Frag} {mg mb : Str→Option Value} {Q : V→Loc→CH→Prop} {name : Str}
inductive Spread (C : Cx) (H : CH) : V→List V→Prop
 | tup (xs : List V) : Spread C H (.tup xs) xs
 | list {l : Addr} {xs : List V} : LAt C H l xs→Spread C H (.ref l) xs
theorem Spread.star {v : V} {r : Value} {xs : List V} (q : Spread C H v xs) (hsz : xs.length≤sizeLine) (S : St C m H s) (hv : VR s.heap v r) {P : List Value→Shared→Prop}
  (h : ∀ rs h',VRs h' xs rs→(∀ b o,s.heap.get? b = some o→h'.get? b = some o)→P rs { s with heap := h' }) : StarOf (model C.prog C.w) A NoE r P s := by
 cases q with
 | tup =>
  obtain ⟨a,items,n,rfl,ho,hs⟩ := hv.tup_inv
  have hz : items.size≤sizeLine := by have := hs.length; simp at this; lia
  unfold StarOf notIterableAtAll
  have hT : s.TypeIs (.ref a) "tuple" := ⟨_,ho,rfl⟩
  exact wpAny_bind (wpAny_specialOf hT PySem.F.slot_tuple_iter.lookup (wpAny_pure ⟨rfl,wpAny_collect_seq a (.inr rfl) ho rfl rfl (fun h' hk => h _ h' (hs.keep (.of_keep hk)) hk) hz⟩))
 | list hl =>
  refine rE hv.ref_inv ?_
  obtain ⟨items,n,hL,hs,hz⟩ := S.toHS.list hl
  unfold StarOf notIterableAtAll
  exact wpAny_bind (wpAny_specialOf hL.isList.typeIs PySem.F.slot_list_iter.lookup (wpAny_pure ⟨rfl,wpAny_collect_seq _ (.inl rfl) hL rfl rfl (fun h' hk => h _ h' (hs.keep (.of_keep hk)) hk) (by lia)⟩))
theorem EL_star {e : PySem.Expr} {p : Pos} {rest : List PySem.Expr} {Q : List V→Loc→CH→Prop} (h : EV C A e m H fun v m₁ H₁ => ∃ xs,Spread C H₁ v xs∧xs.length≤sizeLine∧EL C A rest m₁ H₁ fun vs => Q (xs ++ vs)) : EL C A (.Starred e p :: rest) m H Q := fun s pos S => by
 show wpAny _ _ (spliced ((true,(do let v ← eval e C.env; standAt pos; pure v)) :: backTo pos (starEach rest C.env))) _ _ _
 refine ks_spliced (wpAny_mono (h s S) ?_ fun _ _ x => x)
 rintro r s₁ ⟨v,m₁,H₁,hv,S₁,af₁,xs,q,hsz,h₁⟩
 refine q.star hsz S₁ hv fun rs h' hrs hk => ?_
 have S₂ : St C m₁ H₁ { s₁ with heap := h' } := S₁.more (tk := s₁.toks) hk
 refine wpAny_mono (h₁ _ pos S₂) ?_ fun _ _ x => x
 rintro vs s₃ ⟨ws,m₃,H₃,hws,S₃,af₃,h₃⟩
 exact ⟨xs ++ ws,m₃,H₃,(hrs.keep (af₃.tup S₂)).append hws,S₃,(af₁.then S₁ (.more (tk := s₁.toks) hk)).then S₂ af₃,h₃⟩
theorem EV_methS {o : PySem.Expr} {apos p : Pos} {args : List PySem.Expr}
  (h : EV C A o m H (KO1 C A (fun r => getAttr r name true) (KCa C A args Q)))
  (hst : autoParam (NoLone C args) Mine.syn2)
  (hb : autoParam (∀ whole,attributeBase o name C.env whole = whole) Mine.syn2) (hn : autoParam (methodCallForm (args.length + 0) (backTo p (starEach args C.env)) [] = false) Mine.syn1) :
  EV C A (.Call (.Attribute o name apos) args [] p) m H Q := fun s S => by
 have he : eval (.Call (.Attribute o name apos) args [] p) C.env = (do
   let ov ← attributeBase o name C.env (eval o C.env)
   standAt apos.atName
   methodCall o name apos p C.env ov (args.length + 0) (backTo p (starEach args C.env)) []) := rfl
 refine rE he (rE (hb ..) ?_)
 refine wpAny_bind (wpAny_mono (h s S) ?_ fun _ _ x => x)
 rintro ro s₁ ⟨ov,m₁,H₁,vo,S₁,af₁,h₁⟩
 refine wpAny_bind (wpAny_standAt ?_)
 unfold methodCall
 refine rE hn ?_
 refine wpAny_bind (wpAny_holding ?_)
 show wpAny _ _ (do pure (← getAttr ro name true,[])) _ _ s₁
 refine wpAny_bind (wpAny_mono (h₁ s₁ ro S₁ vo) ?_ fun _ _ x => x)
 rintro rf s₂ ⟨f,m₂,H₂,vf,S₂,af₂,h₂⟩
 refine wpAny_pure ?_
 have hq : methodCallPos false o C.env apos p = pure p := rfl
 dsimp only
 refine rE hq ?_
 refine wpAny_bind (wpAny_pure ?_)
 refine callWith_any (evalArgs_of h₂ (hst p) S₂ ?_)
 rintro rs s₃ ⟨vs,m₃,H₃,vr,S₃,af₃,hk,h₃⟩
 have vf₃ := vf.keep (af₃.tup S₂)
 obtain ⟨k,L⟩ := hk s₃ rf S₃.toHS vf₃
 exact ⟨k,L,wpAny_mono (h₃ s₃ rf _ [] S₃ vf₃ vr .nil) (fun _ _ x => x.mono S₃ ((af₁.then S₁ af₂).then S₂ af₃)) fun _ _ x => x⟩
theorem EV_methL {o e : PySem.Expr} {apos p p' : Pos}
  (h : EV C A o m H fun ov m₁ H₁ => O1 C A (fun r => getAttr r name true) ov m₁ H₁ fun f m₂ H₂ => EV C A e m₂ H₂ fun v m₃ H₃ => ∃ xs,Spread C H₃ v xs∧xs.length≤sizeLine∧KP C f H₃∧CV C A f xs [] m₃ H₃ Q)
  (hb : autoParam (∀ whole,attributeBase o name C.env whole = whole) Mine.syn2) :
  EV C A (.Call (.Attribute o name apos) [.Starred e p'] [] p) m H Q := fun s S => by
 have he : eval (.Call (.Attribute o name apos) [.Starred e p'] [] p) C.env = (do
   let ov ← attributeBase o name C.env (eval o C.env)
   standAt apos.atName
   methodCall o name apos p C.env ov (1 + 0) [(true,(do let v ← eval e C.env; standAt p; pure v))] []) := rfl
 refine rE he (rE (hb ..) ?_)
 refine wpAny_bind (wpAny_mono (h s S) ?_ fun _ _ x => x)
 rintro ro s₁ ⟨ov,m₁,H₁,vo,S₁,af₁,h₁⟩
 refine wpAny_bind (wpAny_standAt ?_)
 unfold methodCall
 refine wpAny_bind (wpAny_holding ?_)
 show wpAny _ _ (do pure (← getAttr ro name true,[])) _ _ s₁
 refine wpAny_bind (wpAny_mono (h₁ s₁ ro S₁ vo) ?_ fun _ _ x => x)
 rintro rf s₂ ⟨f,m₂,H₂,vf,S₂,af₂,h₂⟩
 refine wpAny_pure ?_
 refine wpAny_bind (m := methodCallPos false o C.env apos p) (wpAny_pure ?_)
 refine callWith_any (ks_lone (wpAny_mono (h₂ s₂ S₂) ?_ fun _ _ x => x))
 rintro r s₃ ⟨v,m₃,H₃,hv,S₃,af₃,xs,q,hsz,hk,h₃⟩
 refine q.star hsz S₃ hv fun rs h' hrs hkp => ?_
 have S₄ : St C m₃ H₃ { s₃ with heap := h' } := S₃.more (tk := s₃.toks) hkp
 have vf₄ : VR h' f rf := (vf.keep (af₃.tup S₂)).keep (.of_keep hkp)
 obtain ⟨k,L⟩ := hk _ rf S₄.toHS vf₄
 exact ⟨k,L,wpAny_mono (h₃ _ rf _ [] S₄ vf₄ hrs .nil) (fun _ _ x => x.mono S₄ (((af₁.then S₁ af₂).then S₂ af₃).then S₃ (.more (tk := s₃.toks) hkp))) fun _ _ x => x⟩
theorem CV_min2 {a b : Int} (hA : A.handled = none) (h : Q (.int (if b < a then b else a)) m H) : CV C A (.con (.builtin "min")) [.int a,.int b] [] m H Q := fun s rf rs rkw S hf hva hk => by
 have := hk.nil_inv; subst this
 refine rE hf.con_inv ?_
 refine eEEAA (two_inv hva) fun x y zz2 hx hy => ?_; subst zz2
 refine eE hx.int_inv fun t zz1 => ?_; subst zz1; (refine eE hy.int_inv fun u zz1 => ?_; subst zz1)
 refine min_two_ints hA fun h' tk hkp => ⟨_,m,H,?_,S.more (tk := tk) hkp,.more (tk := tk) hkp,h⟩
 split <;> exact .int
theorem CV_max2 {a b : Int} (hA : A.handled = none) (h : Q (.int (if b > a then b else a)) m H) : CV C A (.con (.builtin "max")) [.int a,.int b] [] m H Q := fun s rf rs rkw S hf hva hk => by
 have := hk.nil_inv; subst this
 refine rE hf.con_inv ?_
 refine eEEAA (two_inv hva) fun x y zz2 hx hy => ?_; subst zz2
 refine eE hx.int_inv fun t zz1 => ?_; subst zz1; (refine eE hy.int_inv fun u zz1 => ?_; subst zz1)
 refine max_two_ints hA fun h' tk hkp => ⟨_,m,H,?_,S.more (tk := tk) hkp,.more (tk := tk) hkp,h⟩
 split <;> exact .int
theorem CV_tuple_list {l : Addr} {xs : List V} (hl : LAt C H l xs) (hsz : xs.length≤sizeLine) (h : Q (.tup xs) m H) : CV C A (.con (.type "tuple")) [.ref l] [] m H Q := fun s rf rs rkw S hf hva hk => by
 have := hk.nil_inv; subst this
 refine rE hf.con_inv ?_
 refine eEA (one_inv hva) fun x zz1 hx => ?_; subst zz1
 refine rE hx.ref_inv ?_
 obtain ⟨items,n,hL,hs,hz⟩ := S.toHS.list hl
 refine call_tuple_list hL.isList (fun h' hk => ?_) (by omega)
 have k2 : ∀ b o,s.heap.get? b = some o→(h'.push { cls := .type "tuple",data := .seq items }).get? b = some o := fun b o e => Heap.get?_push_of_some _ (hk b o e)
 exact ⟨_,m,H,.tup (Heap.get?_push_size _ rfl) (hs.keep (.of_keep k2)),S.more (tk := s.toks) k2,.more (tk := s.toks) k2,h⟩
theorem CV_list_of {v : V} {xs : List V} (q : Spread C H v xs) (hsz : xs.length≤sizeLine) (h : ∀ a,H a = none→C.h₀.get? a = none→Q (.ref a) m (H.set a (.list xs))) : CV C A (.con (.type "list")) [v] [] m H Q := fun s rf rs rkw S hf hva hk => by
 have := hk.nil_inv; subst this
 refine rE hf.con_inv ?_
 refine eEA (one_inv hva) fun x zz1 hx => ?_; subst zz1
 have fin : ∀ (it : Addr) (T : String) (items : Array Value) (n : Nat),(T = "list"∨T = "tuple")→s.heap.get? it = some (seqObj T items n)→VRs s.heap xs items.toList→items.size≤sizeLine→wpAny (model C.prog C.w) A (call (.type "list") [.ref it]) (PV C H s Q) NoE s := by
  intro it T items n hT ho hs hz
  refine call_list_seq it hT ho rfl rfl (fun h' c' hk hg => ?_) hz
  have S2 : St C m H { s with heap := h' } := S.more (tk := s.toks) hk
  have hn : s.heap.get? s.heap.objs.size = none := size_none
  have S3 := S2.toHS.adopt (c := .list xs) S.freshb hg ⟨items,c',rfl,hs.keep (.of_keep hk)⟩
  have a3 : AfterC H s (H.set s.heap.objs.size (.list xs)) { s with heap := h' } := (AfterC.more (tk := s.toks) hk).adopt hn
  exact ⟨_,m,_,.ref,S.called S3 a3,a3.after,h _ S.fresh S.freshb⟩
 cases q with
 | tup =>
  obtain ⟨a,items,n,rfl,ho,hs⟩ := hx.tup_inv
  exact fin a "tuple" items n (.inr rfl) ho hs (by have := hs.length; simp at this; omega)
 | list hl =>
  refine rE hx.ref_inv ?_
  obtain ⟨items,n,hL,hs,hz⟩ := S.toHS.list hl
  exact fin _ "list" items n (.inl rfl) hL hs (by omega)
end
end
end Mine
end
section
open PySem PySem.Calls PySem.W PyProof.Rows
set_option maxRecDepth 100000
namespace Mine
noncomputable section
namespace LI
theorem slot_ga : Slot "list_iterator" "__getattribute__" "object.__getattribute__" :=
 .of (owner := "object") (n := "__getattribute__") (by refine rE (typeLookup_type ..) (rE builtinLookup_eq_fast ?_); kernel_rfl) (by decide +kernel) (by decide +kernel) (by decide +kernel)
  (by first | exact .inl (by decide +kernel) | exact .inr (by decide +kernel)) (by refine rE (isSubtype_type ..) ?_; kernel_rfl)
theorem entry_ga : entryFor table "object.__getattribute__" = some Builtin.«object.__getattribute__» := entryFor_of_tree (by kernel_rfl)
theorem args_ga (a b : Value) : argsOk "object.__getattribute__" ⟨[a,b],[]⟩ := by unfold argsOk; kernel_rfl
theorem type_next : typeOf (.builtin "list_iterator.__next__") = pure (.type "wrapper_descriptor") := by show builtinType _ = _; refine rE builtinType_eq_fast ?_; kernel_rfl
theorem slot_wget : Slot "wrapper_descriptor" "__get__" "wrapper_descriptor.__get__" :=
 .of (owner := "wrapper_descriptor") (n := "__get__") (by refine rE (typeLookup_type ..) (rE builtinLookup_eq_fast ?_); kernel_rfl) (by decide +kernel) (by decide +kernel) (by decide +kernel)
  (by first | exact .inl (by decide +kernel) | exact .inr (by decide +kernel)) (by refine rE (isSubtype_type ..) ?_; kernel_rfl)
theorem entry_wget : entryFor table "wrapper_descriptor.__get__" = some Builtin.«wrapper_descriptor.__get__» := entryFor_of_tree (by kernel_rfl)
theorem args_wget (a b c : Value) : argsOk "wrapper_descriptor.__get__" ⟨[a,b,c],[]⟩ := by unfold argsOk; kernel_rfl
theorem no_wset : typeLookup (.type "wrapper_descriptor") "__set__" = pure none := by refine rE (typeLookup_type ..) (rE builtinLookup_eq_fast ?_); kernel_rfl
theorem no_wdel : typeLookup (.type "wrapper_descriptor") "__delete__" = pure none := by refine rE (typeLookup_type ..) (rE builtinLookup_eq_fast ?_); kernel_rfl
theorem sub_li : isSubtype (.type "list_iterator") (.type "list_iterator") = pure true := by refine rE (isSubtype_type ..) ?_; kernel_rfl
theorem own_next : (".".intercalate ("list_iterator.__next__".cutAt '.').dropLast) = "list_iterator" := by decide +kernel
theorem sub_own : isSubtype (.type "list_iterator") (.type (".".intercalate ("list_iterator.__next__".cutAt '.').dropLast)) = pure true := by refine rE own_next ?_; exact sub_li
end LI
noncomputable abbrev mwObj (I : Addr) : Obj := { cls := .type "method-wrapper",data := .fields #[.builtin "list_iterator.__next__",.ref I] }
section
variable {prog : Program} {w : World} {A : Around} {E : Value→Shared→Prop} {s : Shared}
theorem wget_raw {I : Addr} {h : Heap} {g : Array GenState} {d : Drawn} {t : Nat} {os : OsState} {R : Result→Shared→Prop} {o : Obj} (ho : h.get? I = some o) (hc : o.cls = .type "list_iterator") (hq : R (.ok (.ret (.ref h.objs.size))) ⟨h.push (mwObj I),g,d,t,os⟩) :
  codeAny (model prog w) A (.call (.builtin "wrapper_descriptor.__get__") ⟨[.builtin "list_iterator.__next__",.ref I,.type "list_iterator"],[]⟩) R ⟨h,g,d,t,os⟩ := by
 have hT : (⟨h,g,d,t,os⟩ : Shared).TypeIs (.ref I) "list_iterator" := ⟨_,ho,hc⟩
 have hT5 : (⟨h,g,d,t,os⟩ : Shared).TypeIs (.builtin "list_iterator.__next__") "wrapper_descriptor" := LI.type_next
 have f8 := LI.sub_own
 refine codeAny_call_builtin LI.slot_wget.plain LI.entry_wget (LI.slot_wget.check _ _ _ _ _ _ _ _ hT5 (LI.args_wget _ _ _) ?_)
 repeat (any_goals (first | assumption | wp_step))
theorem ga_entry {I : Addr} {o : Obj} {h : Heap} {g : Array GenState} {d : Drawn} {t : Nat} {os : OsState} {tk : Tok} {Q : Fin→Shared→Prop} (ho : h.get? I = some o) (hc : o.cls = .type "list_iterator") (hd : o.dict = none) {vs : Array Value} (hv : o.data = .fields vs) (hq : Q (.done (.ret (.ref h.objs.size))) ⟨h.push (mwObj I),g,d,t,os⟩) :
  wpAny (model prog w) A (Builtin.«object.__getattribute__» ⟨[.ref I,.str "__next__" tk],[]⟩) Q E ⟨h,g,d,t,os⟩ := by
 obtain ⟨oc,od,oda,osl⟩ := o
 dsimp only at hc hd hv
 subst hc hd hv
 have hT : (⟨h,g,d,t,os⟩ : Shared).TypeIs (.ref I) "list_iterator" := ⟨_,ho,rfl⟩
 have hT5 : (⟨h,g,d,t,os⟩ : Shared).TypeIs (.builtin "list_iterator.__next__") "wrapper_descriptor" := LI.type_next
 have f4 := slot_listiter_next.lookup
 have f5 := LI.type_next
 have f6 := LI.slot_wget.lookup
 have f7 := LI.no_wset
 have f8 := LI.no_wdel
 have f9 := LI.slot_wget.bind (.builtin "list_iterator.__next__")
 repeat (any_goals (first | assumption | wp_step))
 refine wget_raw ho rfl ?_
 repeat (any_goals (first | assumption | wp_step))
theorem ga_raw {I : Addr} {o : Obj} {h : Heap} {g : Array GenState} {d : Drawn} {t : Nat} {os : OsState} {Q : Value→Shared→Prop} (ho : h.get? I = some o) (hc : o.cls = .type "list_iterator") (hd : o.dict = none) {vs : Array Value} (hv : o.data = .fields vs) (hq : Q (.ref h.objs.size) ⟨h.push (mwObj I),g,d,t + 1,os⟩) :
  wpAny (model prog w) A (getAttr (.ref I) "__next__" true) Q E ⟨h,g,d,t,os⟩ := by
 obtain ⟨oc,od,oda,osl⟩ := o
 dsimp only at hc hd hv
 subst hc hd hv
 have hT : ∀ tk',(⟨h,g,d,tk',os⟩ : Shared).TypeIs (.ref I) "list_iterator" := fun _ => ⟨_,ho,rfl⟩
 have f3 := LI.slot_ga.lookup
 have f4 := LI.slot_ga.bind (.ref I)
 have f5 := slot_listiter_next.lookup
 unfold getAttr getAttrBy
 repeat (any_goals (first | assumption | exact hT _ | wp_step))
 refine codeAny_call_builtin LI.slot_ga.plain LI.entry_ga (LI.slot_ga.check _ _ _ _ _ _ _ _ (hT _) (LI.args_ga _ _) (ga_entry ho rfl rfl rfl ?_))
 repeat (any_goals (first | assumption | exact hT _ | wp_step))
end
end
end Mine
end
section
open PySem PySem.Calls PySem.W PyProof.Rows
set_option maxRecDepth 100000
namespace Mine
noncomputable section
noncomputable def CH.del (H : CH) (a : Addr) : CH := fun b => if b = a then none else H b
theorem CH.del_le {H : CH} {a : Addr} : (H.del a).Le H := fun b c e => by
 unfold CH.del at e; split at e
 ·cases e
 ·exact e
theorem CH.del_same {H : CH} {a : Addr} : H.del a a = none := by simp [CH.del]
theorem CH.del_ne {H : CH} {a b : Addr} (h : b≠a) : H.del a b = H b := by simp [CH.del,h]
inductive Trc (C : Cx) (H : CH) (h h' : Heap) (e : Addr) (x : Value) : Prop
 | none (hx : x = .none) : Trc C H h h' e x
 | tb (T : Addr) (oT : Obj) (ts : Array Value) (hx : x = .ref T) (ho : h'.get? T = some oT) (hd : oT.data = .fields ts) (h3 : ts[3]? = some .none) (ni : ¬ Imm oT) (hn : h.get? T = Option.none) (hH : H T = Option.none) (hb : C.h₀.get? T = Option.none) (hne : T≠e) : Trc C H h h' e x
inductive PE (C : Cx) (H : CH) (s : Shared) (cls : String) (R : Loc→CH→Prop) (ev : Value) (s' : Shared) : Prop
 | mk (e : Addr) (oe : Obj) (vs : Array Value) (x : Value) (m' : Loc) (H' : CH) (h1 : ev = .ref e) (h2 : s'.heap.get? e = some oe) (h3 : oe.cls = .type cls) (h4 : oe.data = .fields vs) (h5 : vs[1]? = some x) (h5c : vs[2]? = some .none) (ht : Trc C H' s.heap s'.heap e x) (h6 : ¬ Imm oe) (h7 : s.heap.get? e = none) (h8 : H' e = none) (h9 : C.h₀.get? e = none) (hS : St C m' H' s') (ha : After C H s H' s') (q : R m' H') : PE C H s cls R ev s'
theorem Trc.mono {C : Cx} {H : CH} {h₀ h h' : Heap} {e : Addr} {x : Value} (th : ∀ b o,h₀.get? b = some o→∃ o',h.get? b = some o') (t : Trc C H h h' e x) : Trc C H h₀ h' e x := by
 cases t with
 | none hx => exact .none hx
 | tb T oT ts hx ho hd h3 ni hn hH hb hne =>
  refine .tb T oT ts hx ho hd h3 ni ?_ hH hb hne
  cases q : h₀.get? T with
  | none => rfl
  | some o => refine eE (th T o q) fun o' e' => ?_; exact (no1 hn e').elim
section
variable {C : Cx} {A : Around} {m : Loc} {H : CH} {s : Shared} {K : Frag} {mg mb : Str→Option Value} {Q : V→Loc→CH→Prop} {cls : String} {R : Loc→CH→Prop}
theorem PE.mono {m₁ : Loc} {H₁ : CH} {s₁ s₂ : Shared} {ev : Value} (S₁ : St C m₁ H₁ s₁) (a : After C H s H₁ s₁) (x : PE C H₁ s₁ cls R ev s₂) : PE C H s cls R ev s₂ := by
 obtain ⟨e,oe,vs,x,m',H',a1,a2,a3,a4,a5,a5c,tr,a6,a7,a8,a9,S',af,q⟩ := x
 refine ⟨e,oe,vs,x,m',H',a1,a2,a3,a4,a5,a5c,tr.mono a.there,a6,?_,a8,a9,S',a.then S₁ af,q⟩
 exact a.there_none a7
noncomputable def EVX (C : Cx) (A : Around) (e : PySem.Expr) (m : Loc) (H : CH) (Q : V→Loc→CH→Prop) (cls : String) (R : Loc→CH→Prop) : Prop := ∀ s,St C m H s→wpAny (model C.prog C.w) A (eval e C.env) (PV C H s Q) (PE C H s cls R) s
noncomputable def EXX (C : Cx) (A : Around) (b : List Stmt) (m : Loc) (H : CH) (Q : Fl→Loc→CH→Prop) (cls : String) (R : Loc→CH→Prop) : Prop := ∀ s,St C m H s→wpAny (model C.prog C.w) A (execs b C.env) (PF C H s Q) (PE C H s cls R) s
noncomputable def ESX (C : Cx) (A : Around) (st : Stmt) (m : Loc) (H : CH) (Q : Fl→Loc→CH→Prop) (cls : String) (R : Loc→CH→Prop) : Prop := ∀ s,St C m H s→wpAny (model C.prog C.w) A (exec st C.env) (PF C H s Q) (PE C H s cls R) s
noncomputable def CVX (C : Cx) (A : Around) (f : V) (vs : List V) (m : Loc) (H : CH) (Q : V→Loc→CH→Prop) (cls : String) (R : Loc→CH→Prop) : Prop := ∀ s rf rs,St C m H s→VR s.heap f rf→VRs s.heap vs rs→wpAny (model C.prog C.w) A (call rf rs []) (PV C H s Q) (PE C H s cls R) s
theorem EXX_cons {st : Stmt} {rest : List Stmt} {Q : Fl→Loc→CH→Prop} (h : ESX C A st m H (fun fl m₁ H₁ => match fl with | .next => EXX C A rest m₁ H₁ Q cls R | fl => Q fl m₁ H₁) cls R) : EXX C A (st :: rest) m H Q cls R := fun s S => by
 refine wpAny_execs_cons (wpAny_mono (h s S) ?_ fun _ _ x => x)
 rintro f s₁ ⟨fl,m₁,H₁,hf,S₁,af₁,h₁⟩
 cases fl with
 | next => cases hf; exact wpAny_mono (h₁ s₁ S₁) (fun _ _ x => x.mono S₁ af₁) fun _ _ x => x.mono S₁ af₁
 | brk => cases hf; exact ⟨.brk,m₁,H₁,rfl,S₁,af₁,h₁⟩
 | cont => cases hf; exact ⟨.cont,m₁,H₁,rfl,S₁,af₁,h₁⟩
 | ret v => obtain ⟨r,rfl,hr⟩ := hf; exact ⟨.ret v,m₁,H₁,⟨r,rfl,hr⟩,S₁,af₁,h₁⟩
theorem EXX_of {b : List Stmt} {Q : Fl→Loc→CH→Prop} (h : EX C A b m H Q) : EXX C A b m H Q cls R := fun s S => wpAny_noRaise (h s S)
theorem ESX_assign {t e : PySem.Expr} {p : Pos} {Q : Fl→Loc→CH→Prop} (h : EVX C A e m H (fun v m₁ H₁ => ASG C A t v m₁ H₁ (Q .next)) cls R)
  (hs : autoParam (swapsWithSole [t] e p.line C.env = pure false) Mine.syn1) (hw : autoParam (swappedStores [t] e C.env = pure none) Mine.syn1) (ht : autoParam ((assignEach [t] C.env).map (·.2) = [assign t C.env]) Mine.syn1) : ESX C A (.Assign [t] e p) m H Q cls R := fun s S => by
 refine wpAny_Assign_stores (wpAny_mono (h s S) ?_ fun _ _ x => x) hs hw
 rintro a s₁ ⟨v,m₁,H₁,ra,S₁,af₁,h₁⟩
 refine rE ht ?_
 refine wpAny_noRaise (wpAny_mono (h₁ s₁ a S₁ ra) ?_ fun _ _ x => x)
 rintro _ s₂ ⟨m₂,H₂,S₂,af₂,h₂⟩
 exact ⟨.next,m₂,H₂,rfl,S₂,af₁.then S₁ af₂,h₂⟩
theorem EVX_call {func : PySem.Expr} {args : List PySem.Expr} {p : Pos} (h : EV C A func m H fun f m₁ H₁ => EL C A args m₁ H₁ fun vs m₂ H₂ => KP C f H₂∧CVX C A f vs m₂ H₂ Q cls R)
  (hst : autoParam (NoLone C args) Mine.syn2)
  (he : autoParam (eval (.Call func args [] p) C.env = (do callWith p (← eval func C.env) [] (backTo p (starEach args C.env)) (backToKw p (keywordEach [] C.env)))) Mine.syn1) : EVX C A (.Call func args [] p) m H Q cls R := fun s S => by
 refine rE he ?_
 refine wpAny_bind (wpAny_noRaise (wpAny_mono (h s S) ?_ fun _ _ x => x))
 rintro rf s₁ ⟨f,m₁,H₁,vf,S₁,af₁,h₁⟩
 refine callWith_any (wpAny_noRaise (evalArgs_of h₁ (hst p) S₁ ?_))
 rintro rs s₂ ⟨vs,m₂,H₂,vr,S₂,af₂,hk,h₂⟩
 have vf₂ := vf.keep (af₂.tup S₁)
 obtain ⟨k,L⟩ := hk s₂ rf S₂.toHS vf₂
 exact ⟨k,L,wpAny_mono (h₂ s₂ rf rs S₂ vf₂ vr) (fun _ _ x => x.mono S₂ (af₁.then S₁ af₂)) fun _ _ x => x.mono S₂ (af₁.then S₁ af₂)⟩
theorem Imm.mw {I : Addr} : Imm (mwObj I) := ⟨rfl,.inl ⟨"method-wrapper",by decide,rfl⟩,(by intro _ _ e; cases e),(by intro _ e; cases e),(by intro _ _ _ e; cases e)⟩
theorem KP_mw {I : Addr} : KP C (.imm (mwObj I)) H := fun s rf S hf => by
 obtain ⟨_,a,rfl,ho⟩ := hf.imm_inv
 exact ⟨.machine,(Looks.ld (part := none) ho).andThen .now⟩
theorem HS.liter (S : HS C H s) {I l : Addr} {i : Nat} (h : H I = some (.liter l i)) : s.heap.get? I = some { cls := .type "list_iterator",data := .fields #[.ref l,.int i 0] } := by
 obtain ⟨_,o,ho,rfl⟩ := S.own I _ h; exact ho
theorem CV_iter {l : Addr} {xs : List V} (hl : LAt C H l xs) (h : ∀ I,H I = none→C.h₀.get? I = none→Q (.ref I) m (H.set I (.liter l 0))) : CV C A (.con (.builtin "iter")) [.ref l] [] m H Q := fun s rf rs rkw S hf hva hk => by
 have := hk.nil_inv; subst this
 refine rE hf.con_inv ?_
 refine eEA (one_inv hva) fun x zz1 hx => ?_; subst zz1
 refine rE hx.ref_inv ?_
 obtain ⟨items,n,hL,hs,hz⟩ := S.toHS.list hl
 refine call_function_entry (by decide +kernel) (by decide +kernel) kdk_entry_iter (kdk_args_iter _) ?_
 unfold Builtin.«iter»
 refine wpAny_bind (m := someArgs "iter" 1 2 _) (wpAny_of_eq (a := [Value.ref l]) (by first | rfl | kernel_rfl) ?_)
 show wpAny _ _ (pyIter (.ref l) >>= _) _ _ _
 refine wpAny_bind (wpAny_pyIter_list hL.isList ?_)
 exact wpAny_pure ⟨_,rfl,_,m,_,.ref,S.alloc (tk := s.toks) (c := .liter l 0) rfl,.alloc (tk := s.toks),h _ S.toHS.fresh S.toHS.freshb⟩
theorem GA_next {I l : Addr} {i : Nat} (hI : H I = some (.liter l i)) (h : Q (.imm (mwObj I)) m H) : O1 C A (fun r => getAttr r "__next__" true) (.ref I) m H Q := fun s r S hr => by
 refine rE hr.ref_inv ?_
 have ho := S.toHS.liter hI
 obtain ⟨hh,g,d,t,os⟩ := s
 exact ga_raw ho rfl rfl rfl ⟨_,m,H,.imm .mw (Heap.get?_push_size _ rfl),S.more (tk := t + 1) (keep_push _ _),.more (tk := t + 1) (keep_push _ _),h⟩
theorem check_mw (I : Addr) : checkBoundCall "list_iterator.__next__" ⟨[.ref I],[]⟩ = pure () := by first | kernel_rfl | rfl
theorem quiet_mw {as : Args} : (Code.builtin "list_iterator.__next__" as).quiet = true := Code.quiet_builtin _ (by decide +kernel)
theorem call_mw {I W : Addr} {E : Value→Shared→Prop} {Q : Value→Shared→Prop} (hW : s.heap.get? W = some (mwObj I))
  (h : wpAny (model C.prog C.w) A.in1 (Builtin.«list_iterator.__next__» ⟨[.ref I],[]⟩) (fun fin s' => ∃ v,fin = .done (.ret v)∧Q v s') E s) :
  wpAny (model C.prog C.w) A (call (.ref W) []) Q E s := by
 refine wpAny_call (codeAny_of_tree ?_)
 show wpAny _ A.in1 (callAny (.ref W) ⟨[],[]⟩) _ _ s
 unfold callAny
 refine wpAny_bind (wpAny_load hW ?_)
 show wpAny _ A.in1 (if (Value.type "method-wrapper" == Value.type "method" || Value.type "method-wrapper" == Value.type "builtin_function_or_method" || Value.type "method-wrapper" == Value.type "method-wrapper") = true then (if (Value.type "method-wrapper" != Value.type "method") = true then (do checkBoundCall "list_iterator.__next__" ⟨[.ref I],[]⟩; again (.builtin "list_iterator.__next__" ⟨[.ref I],[]⟩)) else _) else _) _ _ s
 refine rE (if_pos (by decide)) (rE (if_pos (by decide)) (rE (check_mw ..) ?_))
 refine wpAny_bind (wpAny_pure (wpAny_pure ⟨quiet_mw,codeAny_builtin entry_listiter_next ?_⟩))
 refine rE (show A.under (.builtin "list_iterator.__next__" ⟨[.ref I],[]⟩) = A.in1 from Around.under_plainId (by decide +kernel) _) ?_
 refine wpAny_mono h (fun fin s' ⟨v,e,q⟩ => ?_) fun _ _ x => x
 subst e; exact q
theorem CV_mw {I l : Addr} {i : Nat} {xs : List V} {x : V} (hI : H I = some (.liter l i)) (hl : LAt C H l xs) (hx : xs[i]? = some x) (h : Q x m (H.set I (.liter l (i + 1)))) : CV C A (.imm (mwObj I)) [] [] m H Q := fun s rf rs rkw S hf hva hk => by
 have := hk.nil_inv; subst this
 have := hva.nil_inv; subst this
 obtain ⟨_,W,rfl,hW⟩ := hf.imm_inv
 have ho := S.toHS.liter hI
 obtain ⟨items,n,hL,hvs,hz⟩ := S.toHS.list hl
 refine eEA (hvs.get hx) fun r hr hvr => ?_
 have hr' : items[i]? = some r := by simpa using hr
 refine call_mw hW ?_
 show wpAny _ _ (field (.ref I) 0 >>= _) _ _ s
 refine wpAny_bind (wpAny_field ho rfl (x := .ref l) rfl ?_)
 show wpAny _ _ (if (Value.ref l == Value.none) = true then _ else _) _ _ s
 refine rE (if_neg (show ¬ ((Value.ref l == Value.none) = true) from Bool.false_ne_true)) ?_
 show wpAny _ _ (field (.ref I) 1 >>= _) _ _ s
 refine wpAny_bind (wpAny_field ho rfl (x := .int i 0) rfl ?_)
 show wpAny _ _ (seqItems? (.ref l) >>= _) _ _ s
 refine wpAny_bind (wpAny_seqItems hL rfl ?_)
 simp only [Int.toNat_natCast,hr']
 refine wpAny_bind (wpAny_setField ho rfl (by exact Nat.one_lt_succ_succ [].length) (wpAny_pure ⟨r,rfl,?_⟩))
 have ho' := Heap.get?_update_self (Obj.mapFields (·.setIfInBounds 1 (rawInt ((i : Int) + 1)))) ho rfl
 exact PV.upd (tk := s.toks) (c' := .liter l (i + 1)) S hI (Heap.SameBut.update ..) ho' (by show _ = _; simp [Obj.mapFields,rawInt]) hvr h
theorem HS.fresh' {H' : CH} {s' : Shared} {a : Addr} (S' : HS C H' s') (h : s.heap.get? a = none) (S : St C m H s) (l : H'.Le H := by exact CH.del_le) : H' a = none := l.absent (by
 exact S.own_none h)
theorem St.freshb' {a : Addr} (S : St C m H s) (h : s.heap.get? a = none) : C.h₀.get? a = none := by
 exact S.base_none h
theorem next_end {A' : Around} {I l : Addr} {i : Nat} {xs : List V} {P : Fin→Shared→Prop} (hA : A'.handled = none) (S : St C m H s) (hI : H I = some (.liter l i)) (hl : LAt C H l xs) (hx : xs.length≤i) (h : R m (H.del I)) :
  wpAny (model C.prog C.w) A' (Builtin.«list_iterator.__next__» ⟨[.ref I],[]⟩) P (PE C H s "StopIteration" R) s := by
 have ho := S.toHS.liter hI
 obtain ⟨items,n,hL,hvs,hz⟩ := S.toHS.list hl
 have hr' : items[i]? = none := Array.getElem?_eq_none (by exact le_of_eq_of_le hz hx)
 show wpAny _ _ (field (.ref I) 0 >>= _) _ _ s
 refine wpAny_bind (wpAny_field ho rfl (x := .ref l) rfl ?_)
 show wpAny _ _ (if (Value.ref l == Value.none) = true then _ else _) _ _ s
 refine rE (if_neg (show ¬ ((Value.ref l == Value.none) = true) from Bool.false_ne_true)) ?_
 show wpAny _ _ (field (.ref I) 1 >>= _) _ _ s
 refine wpAny_bind (wpAny_field ho rfl (x := .int i 0) rfl ?_)
 show wpAny _ _ (seqItems? (.ref l) >>= _) _ _ s
 refine wpAny_bind (wpAny_seqItems hL rfl ?_)
 simp only [Int.toNat_natCast,hr']
 refine wpAny_bind (wpAny_rule (wpAny_bind (wpAny_setField ho rfl (by exact PySem.size_pos_of_not_empty rfl) ?_)))
 show wpAny _ _ (newExc (.type "StopIteration") [] >>= _) _ _ _
 refine wpAny_bind ?_
 simp only [newExc,newTuple]
 refine wpAny_bind (wpAny_newObj_type ?_ (by size_fits))
 refine wpAny_bind (m := firstArgMember _ _) (wpAny_of_eq (a := Value.none) (by first | rfl | (simp only [firstArgMember]; rfl)) ?_)
 refine wpAny_newObj_type ?_ (by size_fits)
 unfold raiseNew
 refine wpAny_bind (wpAny_handled ?_)
 refine rE hA ?_
 refine wpAny_bind (wpAny_pure (wpAny_throw ?_))
 have hu : Heap.SameBut I s.heap (s.heap.update I (Obj.mapFields (·.setIfInBounds 0 .none))) := Heap.SameBut.update ..
 have hb := (S.own I _ hI).1
 have ni : ¬ Imm ({ cls := .type "list_iterator",data := .fields #[.ref l,.int i 0] } : Obj) := not_imm_cls (T := "list_iterator") rfl (by decide) (by intro _ _ _ e; cases e; intro q; cases q)
 have ho2 := Heap.get?_update_self (Obj.mapFields (·.setIfInBounds 0 .none)) ho rfl
 generalize hh1 : s.heap.update I (Obj.mapFields (·.setIfInBounds 0 .none)) = h1 at hu ho2 ⊢
 have S1 : St C m (H.del I) { s with heap := h1 } := (S.less CH.del_le).hid (tk := s.toks) ho CH.del_same hb (by intro _ _ e; cases e) ni hu.extBut
 generalize hh2 : h1.push { cls := .type "tuple",data := .seq #[] } = h2
 have k2 : ∀ b o,h1.get? b = some o→h2.get? b = some o := fun b o e => by refine rF hh2 ?_; exact Heap.get?_push_of_some _ e
 generalize hex : ({ cls := .type "StopIteration",data := .fields (#[.ref h1.objs.size,.none,.none,.none,.bool false,.none] ++ ownMembersOf (.type "StopIteration") []) } : Obj) = ex
 have k3 : ∀ b o,h1.get? b = some o→(h2.push ex).get? b = some o := fun b o e => Heap.get?_push_of_some _ (k2 b o e)
 have S3 : St C m (H.del I) { s with heap := h2.push ex } := S1.more (tk := s.toks) k3
 have hnone : s.heap.get? h2.objs.size = none := by
  cases e : s.heap.get? h2.objs.size with
  | none => rfl
  | some o =>
   have h1n : ∃ o',h1.get? h2.objs.size = some o' := by
    by_cases q : h2.objs.size = I
    ·exact ⟨_,by refine rE q ?_; exact ho2⟩
    ·exact ⟨o,(hu.2 _ q).trans e⟩
   refine eE h1n fun o' e' => ?_
   exact absurd (Heap.lt_size (k2 _ _ e')) (Nat.lt_irrefl _)
 have hex1 : ex.isFreed = false := by refine rF hex ?_; rfl
 refine ⟨h2.objs.size,ex,_,_,m,H.del I,rfl,Heap.get?_push_size _ hex1,by refine rF hex rfl,by refine rF hex rfl,by rfl,by rfl,.none rfl,?_,hnone,S3.toHS.fresh' hnone S,S.freshb' hnone,S3,?_,h⟩
 ·refine rF hex ?_; exact not_imm_cls (T := "StopIteration") rfl (by decide) (by intro vs x t e; cases e; intro q; cases q)
 ·refine ⟨fun b o hbl hn e => ?_,fun b o hn _ => CH.del_le.absent hn,fun b o e => ?_,rfl,rfl⟩
  ·have hbI : b≠I := fun q => by subst q; exact (no1 hn hI).elim
   exact ⟨o,k3 b o ((hu.2 b hbI).trans e),.refl o⟩
  ·by_cases q : b = I
   ·subst q; exact ⟨_,k3 b _ ho2⟩
   ·exact ⟨o,k3 b o ((hu.2 b q).trans e)⟩
theorem CVX_mw {I l : Addr} {i : Nat} {xs : List V} (hA : A.handled = none) (hI : H I = some (.liter l i)) (hl : LAt C H l xs) (hx : xs.length≤i) (h : R m (H.del I)) : CVX C A (.imm (mwObj I)) [] m H Q "StopIteration" R := fun s rf rs S hf hva => by
 have := hva.nil_inv; subst this
 obtain ⟨_,W,rfl,hW⟩ := hf.imm_inv
 exact call_mw hW (next_end (A' := A.in1) hA S hI hl hx h)
end
end
end Mine
end
section
open PySem PySem.Calls PySem.W PyProof.Rows
set_option maxRecDepth 100000
namespace Mine
noncomputable section
section
variable {C : Cx} {A : Around} {m : Loc} {H : CH} {s : Shared} {K : Frag} {mg mb : Str→Option Value} {cls : String} {R : Loc→CH→Prop}
noncomputable def framesOf (l : List Env) : List Addr := l.filterMap (·.frame)
theorem frames_fun {base h₀ : Heap} {h : Heap} : ∀ {l : List Env},(∀ e ∈ l,FrameOk h₀ H h e)→(∀ a ∈ framesOf l,base.get? a = none)→h.FunFrames base l
 | [],_,_ => trivial
 | e :: l,F,hb => by
  obtain ⟨a1,a2,a3,f,o,es,ep,hf,ho,hd,hn,hb0⟩ := F e List.mem_cons_self
  refine ⟨by refine rE a1 ?_; decide,⟨f,o,hf,hb f ?_,ho,fun vs q => by rw [hd] at q; cases q⟩,frames_fun (fun e' he => F e' (List.mem_cons_of_mem _ he)) fun a ha => hb a ?_⟩
  ·unfold framesOf; refine rE List.filterMap_cons (rE hf ?_); exact List.mem_cons_self
  ·unfold framesOf at ha ⊢; refine rE List.filterMap_cons (rE hf ?_); exact List.mem_cons_of_mem _ ha
theorem frames_mem {h₀ h : Heap} {l : List Env} (F : ∀ e ∈ l,FrameOk h₀ H h e) {a : Addr} (ha : a ∈ framesOf l) : ∃ o es ep,h.get? a = some o∧o.data = .dict es ep∧H a = none∧h₀.get? a = none := by
 unfold framesOf at ha
 refine eEA (List.mem_filterMap.mp ha) fun e he hf => ?_
 obtain ⟨_,_,_,f,o,es,ep,hf',ho,hd,hn,hb⟩ := F e he
 rw [hf'] at hf; cases hf
 exact ⟨o,es,ep,ho,hd,hn,hb⟩
structure StoodG (g : Option Addr) (C : Cx) (e : Addr) (cls : Value) (s s' : Shared) : Prop where
 rest : ∀ b o,b≠e→b ∉ framesOf C.fr→s.heap.get? b = some o→s'.heap.get? b = some o
 frames : ∀ b,b ∈ framesOf C.fr→∀ o,s.heap.get? b = some o→∃ o',s'.heap.get? b = some o'∧o'.data = o.data
 same : s' = { s with heap := s'.heap }
 trace : ∃ oe vs T oT ts,s'.heap.get? e = some oe∧oe.cls = cls∧oe.data = .fields vs∧vs[1]? = some (.ref T)∧s.heap.get? T = none∧T≠e∧s'.heap.get? T = some oT∧oT.data = .fields ts∧ts[3]? = some (g.elim .none fun f => rawInt f)∧¬ Imm oT
 only : ∀ o vs,s.heap.get? e = some o→o.data = .fields vs→∃ o' vs',s'.heap.get? e = some o'∧o'.data = .fields vs'∧∀ i,i≠1→vs'[i]? = vs[i]?
noncomputable abbrev Stood := StoodG none
theorem trace_not_imm {ts : Array Value} {L : Addr} (h : ts[1]? = some (.ref L)) : ¬ Imm { cls := .type "traceback",data := .fields ts } :=
 not_imm_cls (T := "traceback") rfl (by decide) (by intro vs x t e q; cases e; rw [h] at q; cases q)
set_option tactic.hygienic true in
theorem update_same {h : Heap} {a : Addr} {o : Obj} {f : Obj→Obj} (ho : h.get? a = some o) (hf : f o = o) : h.update a f = h := by
 obtain ⟨objs,l⟩ := h
 have hoo : objs[a]? = some o := by
  unfold Heap.get? at ho
  dsimp only at ho
  split at ho
  ·cases ho
  ·exact ho
 show Heap.mk (objs.modify a f) l = ⟨objs,l⟩
 congr 1
 apply Array.ext_getElem?
 intro i
 refine rE Array.getElem?_modify ?_
 split
 ·rename_i q; subst q; refine rE hoo ?_; exact congrArg some hf
 ·rfl
set_option tactic.hygienic true in
theorem note_gen (g : Option Addr) {A₂ : Around} {E₂ : Value→Shared→Prop} {E : Value→Shared→Prop} {Q : Unit→Shared→Prop} {outer : List Env} {e : Addr} {oe : Obj} {vs : Array Value} (hA : A.frames = some C.fr) (hfr : C.fr = C.env :: outer) (S : St C m H s) (he : s.heap.get? e = some oe) (hd : oe.data = .fields vs) {x : Value} (h1 : vs[1]? = some x) {hh : Heap} {H' : CH} (hx : Trc C H' hh s.heap e x)
  (h : ∀ s',StoodG g C e oe.cls s s'→Q () s') :
  wpAny (model C.prog C.w) A (noteFrame (.ref e) C.env) (fun _ s₂ => wpAny (model C.prog C.w) A₂ (setFlight (.ref e) g) Q E₂ s₂∧∃ o vs T,s₂.heap.get? e = some o∧o.data = .fields vs∧vs[1]? = some (.ref T)) E s := by
 have hef : e ∉ framesOf C.fr := fun q => by
  obtain ⟨o,es,ep,ho,hdd,_⟩ := frames_mem S.frs q
  rw [he] at ho; cases ho; rw [hd] at hdd; cases hdd
 have hb : ∀ a,a ∈ e :: framesOf C.fr→(hideAll s.heap (e :: framesOf C.fr)).get? a = none := fun a ha => hideAll_none _ ha
 have hl : s.heap.FunFrames (hideAll s.heap (e :: framesOf C.fr)) (C.env :: outer) := by
  refine rF hfr ?_; exact frames_fun S.frs fun a ha => hb a (List.mem_cons_of_mem _ ha)
 obtain ⟨_,_,_,f,o,es,ep,hf,ho,hdd,_,_⟩ := S.frs C.env (by refine rE hfr ?_; exact List.mem_cons_self)
 unfold noteFrame
 simp only [hf]
 refine wpAny_bind (wpAny_field he hd h1 ?_)
 have main : wpAny (model C.prog C.w) A (frameOf C.env >>= fun fr => entryPlaceOf f (x != Value.none) >>= fun pl => EntryCells.newEntry x fr Value.none (rawInt f) Value.none pl >>= fun en => setField (.ref e) 1 en) (fun _ s₂ => wpAny (model C.prog C.w) A₂ (setFlight (.ref e) g) Q E₂ s₂∧∃ o vs T,s₂.heap.get? e = some o∧o.data = .fields vs∧vs[1]? = some (.ref T)) E s := by
  refine wpAny_bind (wpAny_frameOf_fun (by refine rE hA (rE hfr rfl)) hl hf fun h₁ hs₁ => ?_)
  rw [show (C.env :: outer).filterMap (·.frame) = framesOf C.fr from by refine rE hfr ?_; rfl] at hs₁
  refine wpAny_bind (wpAny_entryPlaceOf fun pl hpl => ?_)
  unfold EntryCells.newEntry newFields
  refine wpAny_bind (wpAny_newObj_type ?_ (hpl.sizeOk5 _ _ _ _ _))
  generalize hts : ([x,Value.ref f,Value.none,rawInt f,Value.none] ++ (if pl.isEmpty then List.replicate 6 Value.none else pl)).toArray = ts
  have ts1 : ts[1]? = some (.ref f) := by refine rF hts ?_; simp
  have ts3 : 3 < ts.size := by refine rF hts ?_; simp
  have he₁ : h₁.get? e = some oe := (hs₁.2.1 e hef).trans he
  have he₂ := Heap.get?_push_of_some (h := h₁) { cls := .type "traceback",dict := none,data := .fields ts } he₁
  have hT₂ : (h₁.push { cls := .type "traceback",dict := none,data := .fields ts }).get? h₁.objs.size = some { cls := .type "traceback",dict := none,data := .fields ts } := Heap.get?_push_size h₁ rfl
  have hsz : 1 < vs.size := (Array.getElem?_eq_some_iff.mp h1).1
  have hTe : h₁.objs.size≠e := Nat.ne_of_gt (Heap.lt_size he₁)
  have hTn : s.heap.get? h₁.objs.size = none := by
   cases q : s.heap.get? h₁.objs.size with
   | none => rfl
   | some o => obtain ⟨sl,hs⟩ := hs₁.2.2 _ o q; exact absurd (Heap.lt_size hs) (Nat.lt_irrefl _)
  have low : ∀ b o,h₁.get? b = some o→b≠h₁.objs.size := fun b o hb => Nat.ne_of_lt (Heap.lt_size hb)
  generalize hh2 : h₁.push { cls := .type "traceback",dict := none,data := .fields ts } = h₂ at he₂ hT₂ ⊢
  have k2 : ∀ b o,h₁.get? b = some o→h₂.get? b = some o := fun b o hb => by refine rF hh2 ?_; exact Heap.get?_push_of_some _ hb
  generalize h₁.objs.size = T at *
  refine wpAny_setField he₂ hd hsz ?_
  have hd₃ := Obj.data_mapFields hd (·.setIfInBounds 1 (Value.ref T))
  have he₃ := Heap.get?_update_self (Obj.mapFields (·.setIfInBounds 1 (Value.ref T))) he₂ (Obj.isFreed_of_fields hd₃)
  have hT₃ := (Heap.get?_update_other h₂ (Obj.mapFields (·.setIfInBounds 1 (Value.ref T))) (Ne.symm hTe)).trans hT₂
  refine ⟨?_,_,_,T,he₃,hd₃,by exact Array.getElem?_setIfInBounds_self_of_lt hsz⟩
  unfold setFlight
  refine wpAny_bind (wpAny_field he₃ hd₃ (x := .ref T) (by exact Array.getElem?_setIfInBounds_self_of_lt hsz) ?_)
  refine rE (if_pos (show (Value.ref T != Value.none) = true from by rfl)) ?_
  refine wpAny_setField hT₃ rfl ts3 (h _ ?_)
  have keep : ∀ b o,b≠e→h₁.get? b = some o→((h₂.update e (Obj.mapFields (·.setIfInBounds 1 (Value.ref T)))).update T (Obj.mapFields (·.setIfInBounds 3 (g.elim Value.none fun f => rawInt f)))).get? b = some o := fun b o hbe hb => by
   refine rE (Heap.get?_update_other _ _ (Ne.symm (low b o hb))) (rE (Heap.get?_update_other _ _ (Ne.symm hbe)) ?_)
   exact k2 b o hb
  refine ⟨fun b o hbe hbf hbo => keep b o hbe ((hs₁.2.1 b hbf).trans hbo),fun b hbf o hbo => ?_,rfl,?_,fun o us ho hu => ?_⟩
  ·obtain ⟨sl,hs⟩ := hs₁.2.2 b o hbo
   exact ⟨_,keep b _ (fun q => hef (q ▸ hbf)) hs,rfl⟩
  ·have hT₄ := Heap.get?_update_self (Obj.mapFields (·.setIfInBounds 3 (g.elim Value.none fun f => rawInt f))) hT₃ (Obj.isFreed_of_fields (Obj.data_mapFields rfl _))
   refine ⟨_,_,T,_,_,(Heap.get?_update_other _ _ hTe).trans he₃,Obj.cls_mapFields _ _,hd₃,by exact Array.getElem?_setIfInBounds_self_of_lt hsz,hTn,hTe,hT₄,Obj.data_mapFields rfl _,by exact Array.getElem?_setIfInBounds_self_of_lt ts3,?_⟩
   have : Obj.mapFields (·.setIfInBounds 3 (g.elim Value.none fun f => rawInt f)) { cls := .type "traceback",dict := none,data := .fields ts } = { cls := .type "traceback",dict := none,data := .fields (ts.setIfInBounds 3 (g.elim Value.none fun f => rawInt f)) } := rfl
   refine rE this ?_
   exact trace_not_imm (L := f) (by refine rE (Array.getElem?_setIfInBounds_ne (by decide)) ?_; exact ts1)
  ·rw [he] at ho; cases ho
   rw [hd] at hu; cases hu
   exact ⟨_,_,(Heap.get?_update_other _ _ hTe).trans he₃,hd₃,fun i hi => Array.getElem?_setIfInBounds_ne (Ne.symm hi)⟩
 cases hx with
 | none q =>
  subst q
  refine rE (if_neg (by decide)) ?_
  exact main
 | tb T oT ts q ho hd2 h3 ni hn hH hb hne =>
  subst q
  refine rE (if_pos (by rfl)) ?_
  refine wpAny_bind (wpAny_field ho hd2 h3 ?_)
  refine rE (if_neg (by exact ne_true_of_eq_false rfl)) ?_
  refine wpAny_bind (wpAny_setField ho hd2 (Array.getElem?_eq_some_iff.mp h3).1 ?_)
  rw [update_same ho (by
   obtain ⟨c,d,dt,sl⟩ := oT
   dsimp only at hd2
   subst hd2
   show Obj.mk c d (.fields (ts.setIfInBounds 3 .none)) sl = _
   congr 2
   apply Array.ext_getElem?
   intro i
   refine rE Array.getElem?_setIfInBounds ?_
   split
   ·rename_i q; subst q; refine rE h3 ?_; simp [(Array.getElem?_eq_some_iff.mp h3).1]
   ·rfl)]
  exact main
theorem note_first {E : Value→Shared→Prop} {Q : Unit→Shared→Prop} {outer : List Env} {e : Addr} {oe : Obj} {vs : Array Value} (hA : A.frames = some C.fr) (hfr : C.fr = C.env :: outer) (S : St C m H s) (he : s.heap.get? e = some oe) (hd : oe.data = .fields vs) {x : Value} (h1 : vs[1]? = some x) {hh : Heap} {H' : CH} (hx : Trc C H' hh s.heap e x)
  (h : ∀ s',Stood C e oe.cls s s'→Q () s') :
  wpAny (model C.prog C.w) A (noteFrame (.ref e) C.env) (fun _ s₂ => wpAny (model C.prog C.w) A (setFlight (.ref e) none) Q E s₂) E s :=
 wpAny_mono (note_gen none hA hfr S he hd h1 hx h) (fun _ _ q => q.1) fun _ _ x => x
theorem StoodG.tup {g : Option Addr} {e : Addr} {cls : Value} {s' : Shared} {oe : Obj} (x : StoodG g C e cls s s') (S : St C m H s) (he : s.heap.get? e = some oe) (ni : ¬ Imm oe) : TupKeep s.heap s'.heap := fun b o i hbo =>
 x.rest b o (fun q => by subst q; rw [he] at hbo; cases hbo; exact ni i) (fun q => by
  obtain ⟨o',es,ep,ho,hd,_⟩ := frames_mem S.frs q
  rw [hbo] at ho; cases ho; exact i.2.2.1 _ _ hd) hbo
theorem StoodG.st {g : Option Addr} {e : Addr} {cls : Value} {s' : Shared} {oe : Obj} (x : StoodG g C e cls s s') (S : St C m H s) (he : s.heap.get? e = some oe) (ni : ¬ Imm oe) (hH : H e = none) (hb : C.h₀.get? e = none) (nd : ∀ es ep,oe.data≠.dict es ep) : St C m H s' := by
 have tk := x.tup S he ni
 have nf : ∀ b c,H b = some c→b ∉ framesOf C.fr := fun b c e q => by
  obtain ⟨_,_,_,_,_,hn,_⟩ := frames_mem S.frs q
  exact (no1 hn e).elim
 have nb : ∀ b o,C.h₀.get? b = some o→b ∉ framesOf C.fr := fun b o e q => by
  obtain ⟨_,_,_,_,_,_,hn⟩ := frames_mem S.frs q
  exact (no1 hn e).elim
 have data : ∀ b o,b≠e→s.heap.get? b = some o→∃ o',s'.heap.get? b = some o'∧o'.data = o.data := fun b o hbe hbo => by
  by_cases q : b ∈ framesOf C.fr
  ·exact x.frames b q o hbo
  ·exact ⟨o,x.rest b o hbe q hbo,rfl⟩
 refine ⟨⟨fun b o ho => x.rest b o (fun q => by subst q; exact (no1 hb ho).elim) (nb b o ho) (S.base b o ho),fun b c hc => ?_,by refine rE x.same ?_; exact S.gens⟩,?_,S.loc,S.locb,?_⟩
 ·obtain ⟨h0,o,ho,r⟩ := S.own b c hc
  exact ⟨h0,o,x.rest b o (fun q => by subst q; exact (no1 hH hc).elim) (nf b c hc) ho,r.keep tk⟩
 ·refine eEA S.ns fun mr zz1 kn => ?_; obtain ⟨o,es,ep,ho,hd,hk,hf⟩ := zz1
  have hne : C.env.locals≠e := fun q => by rw [q,he] at ho; cases ho; exact nd _ _ hd
  refine eEA (data _ o hne ho) fun o' ho' hd' => ?_
  exact ⟨mr,⟨o',es,ep,ho',hd'.trans hd,hk,hf⟩,kn.keep tk⟩
 ·exact S.frs.keep fun b o es ep _ hn hbo hd => by
   have hne : b≠e := fun q => by rw [q,he] at hbo; cases hbo; exact nd _ _ hd
   refine eEA (data b o hne hbo) fun o' ho' hd' => ?_
   exact ⟨hn,o',ho',hd'⟩
theorem StoodG.after {g : Option Addr} {e : Addr} {cls : Value} {s₀ s' : Shared} {H₀ : CH} {oe : Obj} (x : StoodG g C e cls s s') (S : St C m H s) (he : s.heap.get? e = some oe) (a : After C H₀ s₀ H s) (hn : s₀.heap.get? e = none) : After C H₀ s₀ H s' := by
 have kin : ∀ b o,b≠e→s.heap.get? b = some o→∃ o',s'.heap.get? b = some o'∧Kin o o' := fun b o hbe hbo => by
  by_cases q : b ∈ framesOf C.fr
  ·refine eEA (x.frames b q o hbo) fun o' ho' hd' => ?_
   obtain ⟨o'',es,ep,ho'',hd'',_⟩ := frames_mem S.frs q
   rw [hbo] at ho''; cases ho''
   exact ⟨o',ho',.inr ⟨⟨es,ep,hd''⟩,hd'⟩⟩
  ·exact ⟨o,x.rest b o hbe q hbo,.refl o⟩
 refine ⟨fun b o hbl hb hbo => ?_,a.grow,fun b o hbo => ?_,?_,?_⟩
 ·refine eEA (a.stay b o hbl hb hbo) fun o₁ e₁ k₁ => ?_
  refine eEA (kin b o₁ (fun q => by subst q; exact (no1 hn hbo).elim) e₁) fun o₂ e₂ k₂ => ?_
  exact ⟨o₂,e₂,k₁.trans k₂⟩
 ·refine eE (a.there b o hbo) fun o₁ e₁ => ?_
  refine eEA (kin b o₁ (fun q => by subst q; exact (no1 hn hbo).elim) e₁) fun o₂ e₂ _ => ?_
  exact ⟨o₂,e₂⟩
 ·rfl
 ·refine rE x.same ?_; exact a.os
theorem ES_try {body orelse suite : List Stmt} {b₀ : Stmt} {t : PySem.Expr} {p p' : Pos} {Q : Fl→Loc→CH→Prop} {outer : List Env} {T : String} (hA : A.frames = some C.fr) (hfr : C.fr = C.env :: outer)
  (hexc : isSubtype (.type T) (.type "BaseException") = pure true) (hnt : isSubtype (.type ((Manifest.find? T).elim "type" fun x => x.metatype)) (.type "tuple") = pure false) (hsub : isSubtype (.type cls) (.type T) = pure true)
  (h : EXX C A body m H (SeqE C A orelse Q) cls R)
  (ht : ∀ m' H' h',R m' H'→EV C (A.mark h') t m' H' fun v m₁ H₁ => v = .con (.type T)∧EX C (A.mark h') (b₀ :: suite) m₁ H₁ Q) :
  ES C A (.Try body [.ExceptHandler (some t) none (b₀ :: suite) p'] orelse [] p) m H Q := fun s S => by
 refine wpAny_Try_except (wpAny_mono (h s S) ?_ ?_)
 ·rintro f s₁ ⟨fl,m₁,H₁,hf,S₁,af₁,h₁⟩
  cases fl with
  | next => cases hf; exact wpAny_mono (h₁ s₁ S₁) (fun _ _ x => x.mono S₁ af₁) fun _ _ x => x
  | brk => cases hf; exact ⟨.brk,m₁,H₁,rfl,S₁,af₁,h₁⟩
  | cont => cases hf; exact ⟨.cont,m₁,H₁,rfl,S₁,af₁,h₁⟩
  | ret v => obtain ⟨r,rfl,hr⟩ := hf; exact ⟨.ret v,m₁,H₁,⟨r,rfl,hr⟩,S₁,af₁,h₁⟩
 ·rintro ev s₁ ⟨e,oe,vs,x0,m₁,H₁,rfl,he,hc,hd,h1,_,tr,ni,hn,hH,hb,S₁,af₁,hR⟩
  refine note_first hA hfr S₁ he hd h1 tr fun s₂ x => ?_
  have S₂ := x.st S₁ he ni hH hb (by intro es ep q; rw [hd] at q; cases q)
  have af₂ := x.after S₁ he af₁ hn
  obtain ⟨oe',vs',Tb,oT,ts,g1,g2,g3,g4,g5,g6,g7,g8,g9,nT⟩ := x.trace
  have hTH : H₁ Tb = none := by
   exact S₁.own_none g5
  have hTb : C.h₀.get? Tb = none := by
   exact S₁.base_none g5
  have hTn : s.heap.get? Tb = none := by
   exact af₁.there_none g5
  have hTl : Tb≠C.env.locals := fun q => by refine eE S₁.at_loc fun o e' => ?_; rw [← q,g5] at e'; cases e'
  have hel : e≠C.env.locals := fun q => by
   refine eEA S₁.ns fun mr zz1 _ => ?_; obtain ⟨o,es,ep,ho,hd',_⟩ := zz1
   rw [← q,he] at ho; cases ho; rw [hd] at hd'; cases hd'
  rw [hc] at g2
  refine wpAny_handleBy_builtin (X := cls) (T := T) (b := true) hexc hnt hsub (wpAny_noRaise (wpAny_mono (ht m₁ H₁ _ hR s₂ S₂) ?_ fun _ _ x => x))
  rintro c s₃ ⟨v,m₃,H₃,hv,S₃,af₃,rfl,hx⟩
  refine eEA (af₃.stay e oe' hel hH g1) fun oe3 e3 k3 => ?_
  rw [k3.exact (by intro es ep q; rw [g3] at q; cases q)] at e3
  refine eEA (af₃.stay Tb oT hTl hTH g7) fun oT3 eT3 kT3 => ?_
  rw [kT3.exact (by intro es ep q; rw [g8] at q; cases q)] at eT3
  refine ⟨hv.con_inv,⟨oe',e3,g2⟩,?_⟩
  simp only [if_true]
  refine wpAny_setFlight_none e3 g3 g4 eT3 g8 (Array.getElem?_eq_some_iff.mp g9).1 ?_
  have hu : Heap.SameBut Tb s₃.heap (s₃.heap.update Tb (Obj.mapFields (·.setIfInBounds 3 .none))) := Heap.SameBut.update ..
  have S₄ : St C m₃ H₃ { s₃ with heap := s₃.heap.update Tb (Obj.mapFields (·.setIfInBounds 3 .none)) } :=
   S₃.hid (tk := s₃.toks) eT3 (af₃.grow Tb _ hTH g7) hTb (by intro es ep q; rw [g8] at q; cases q) nT hu.extBut
  have af₄ : After C H s H₃ { s₃ with heap := s₃.heap.update Tb (Obj.mapFields (·.setIfInBounds 3 .none)) } := (af₂.then S₂ af₃).hid (tk := s₃.toks) hTn hu.extBut
  exact wpAny_noRaise (wpAny_mono (hx _ S₄) (fun _ _ x => x.mono S₄ af₄) fun _ _ x => x)
end
end
end Mine
end
section
open PySem PySem.Calls PySem.W PyProof.Rows
set_option maxRecDepth 100000
namespace Mine
noncomputable section
section
variable {C : Cx} {A : Around} {m : Loc} {H : CH} {s : Shared} {K : Frag} {mg mb : Str→Option Value} {Q : V→Loc→CH→Prop}
noncomputable def BindsW (C : Cx) (H : CH) (fd : FuncData) (vs : List V) (kws binds : List (Str × V)) : Prop := ∀ (M : Model) (A : Around) (E : Value→Shared→Prop) (s : Shared) rs rkw (Q : List (Str × Value)→Shared→Prop),HS C H s→VRs s.heap vs rs→KWs s.heap kws rkw →
 (∀ rb h' tk,(∀ b o,s.heap.get? b = some o→h'.get? b = some o)→KWs h' binds rb→Q rb { s with heap := h',toks := tk })→wpAny M A (bindArgs fd ⟨rs,rkw⟩) Q E s
theorem CALL_KW {f : Addr} {name qual : Str} {params : Arguments} {body : List Stmt} {scope : Scope} {cl : List (Str × Addr)} {dV kV doc pm cdv ct oc : Value} {an od : Option Addr} {osl : Array (Option Value)} {vs : List V} {kws binds : List (Str × V)} {m' : Loc} {Q : V→CH→Prop}
  (B : Bs C.h₀ K mg mb) (ho : K.lookup f = some ⟨oc,od,.func (fnX name qual params body scope cl dV kV doc pm an cdv ct),osl⟩) (hcd : codeIn K cdv qual = true) {n : Nat} (hA : AOK C A (n + 1))
  (hb : BindsW C H (fnX name qual params body scope cl dV kV doc pm an cdv ct) vs kws binds) (hok : (scope.names.all (fun x => x.2 != .cell) && binds.all (fun x => scope.names.lookup x.1 == some .local) && !scope.isCoroutine && !scope.isGenerator && scope.kind == .function) = true) (hm : m' = binds.reverse)
  (h : ∀ L,H L = none→C.h₀.get? L = none→AOK (C.at (callEnv (fnX name qual params body scope cl dV kV doc pm an cdv ct) L f)) (A.deeper (callEnv (fnX name qual params body scope cl dV kV doc pm an cdv ct) L f)) n→EX (C.at (callEnv (fnX name qual params body scope cl dV kV doc pm an cdv ct) L f)) (A.deeper (callEnv (fnX name qual params body scope cl dV kV doc pm an cdv ct) L f)) body m' H fun fl _ H' => Q (retOf fl) H') :
  CALL C A (.con (.ref f)) vs kws H Q := fun s rf rs rkw S F hf hv hkw => by
 simp only [Bool.and_eq_true,List.all_eq_true,Bool.not_eq_true',beq_iff_eq,bne_iff_ne] at hok
 refine eA hok fun zz0 hk => ?_; obtain ⟨⟨⟨hcell,hloc⟩,hco⟩,hgen⟩ := zz0
 refine rE hf.con_inv ?_
 refine codeAny_call_function hA.room (S.base _ _ (B.X _ _ ho)) rfl hco hgen rfl ((codeRec_of B.X hcd).keeps S.base) (hb _ _ _ s rs rkw _ S hv hkw fun rb h₁ tk₁ hk₁ hrb => ?_)
 have hloc' : ∀ x ∈ rb,scope.names.lookup x.1 = some .local := fun x hx => by
  have : x.1 ∈ binds.map (·.1) := hrb.1 ▸ List.mem_map_of_mem hx
  refine eEA (List.mem_map.mp this) fun y hy e => ?_
  refine rF e ?_; exact hloc y hy
 have S₁ := S.more (tk := tk₁) hk₁
 refine wpAny_newFunctionEnv hcell hloc' (fun h₂ hns hsb => ⟨(B.lim.keeps S₁.base).fresh _ hsb,?_⟩) hk
 have hk₂ : ∀ b o,h₁.get? b = some o→h₂.get? b = some o := fun b o e => hsb.extBut b o (Nat.ne_of_lt (Heap.lt_size e)) (Heap.get?_push_of_some _ e)
 have hk₃ : ∀ b o,s.heap.get? b = some o→h₂.get? b = some o := fun b o e => hk₂ b o (hk₁ b o e)
 dsimp only at hns hsb ⊢
 generalize hL : h₁.objs.size = L at *
 have hL0 : s.heap.get? L = none := by
  cases e : s.heap.get? L with
  | none => rfl
  | some o => have := Heap.lt_size (hk₁ _ _ e); rw [hL] at this; exact absurd this (Nat.lt_irrefl _)
 have hLb : C.h₀.get? L = none := by
  exact S.base_none hL0
 have hLH : H L = none := by
  exact S.own_none hL0
 have S₂ : St (C.at (callEnv (fnX name qual params body scope cl dV kV doc pm an cdv ct) L f)) m' H { s with heap := h₂,toks := tk₁ + rb.length } := by
  refine ⟨(S.more hk₃).at,⟨_,hns,fun x v e => ?_⟩,hLH,hLb,fun e he => ?_⟩
  ·subst hm
   exact lookup_kws (hrb.rev.keep (.of_keep hk₂)) e
  ·rcases List.mem_cons.mp he with rfl | he
   ·obtain ⟨o',es,ep,ho',hd',_⟩ := hns
    exact ⟨hk,hgen,hco,_,o',es,ep,rfl,ho',hd',hLH,hLb⟩
   ·exact F.keep (s' := { s with heap := h₂ }) (fun b o _ _ _ hn e _ => ⟨hn,o,hk₃ b o e,rfl⟩) e he
 refine codeAny_func (wpAny_noRaise (wpAny_mono (h L hLH hLb hA.at _ S₂) ?_ fun _ _ x => x))
 rintro fl s' ⟨f',m₂,H₂,hfl,T₂,af,q⟩
 have a : AfterC H s H₂ s' := (AfterC.more (tk := tk₁ + rb.length) hk₃).thenAt (C := C.at (callEnv (fnX name qual params body scope cl dV kV doc pm an cdv ct) L f)) af hL0
 cases f' with
 | ret v => obtain ⟨r,rfl,hr⟩ := hfl; exact ⟨v,H₂,hr,T₂.toHS.back,a,q⟩
 | next => cases hfl; exact ⟨V.none,H₂,.con,T₂.toHS.back,a,q⟩
 | brk => cases hfl; exact ⟨V.none,H₂,.con,T₂.toHS.back,a,q⟩
 | cont => cases hfl; exact ⟨V.none,H₂,.con,T₂.toHS.back,a,q⟩
theorem BindsW.dflt {fd : FuncData} {vs : List V} {binds : List (Str × V)} {T : Addr} {items : List Value} {n : Nat} (B : Bs C.h₀ K mg mb) (hT : K.lookup T = some (seqObj "tuple" items.toArray n))
  (h : ∀ (h : Heap) rs,VRs h vs rs→∃ (k : Option (Array Value)→Sem (List (Str × Value))) (rb : List (Str × Value)),bindArgs fd ⟨rs,[]⟩ = (seqItems? (.ref T) >>= k)∧k (some items.toArray) = pure rb∧KWs h binds rb) : BindsW C H fd vs [] binds := fun M A E s rs rkw Q S hv hk hq => by
 have := hk.nil_inv; subst this
 refine eEEAA (h s.heap rs hv) fun k rb e1 e2 e3 => ?_
 refine rE e1 ?_
 refine wpAny_bind (wpAny_seqItems (S.base _ _ (B.X _ _ hT)) rfl ?_)
 refine rE e2 ?_
 exact wpAny_pure (hq rb s.heap s.toks (fun _ _ e => e) e3)
theorem BindsW.star1 {fd : FuncData} {x y : Str} {v : V} {vs : List V} (hsz : vs.length≤sizeLine) (h : ∀ r rs,bindArgs fd ⟨r :: rs,[]⟩ = (newTuple rs >>= fun t => pure [(x,r),(y,t)])) : BindsW C H fd (v :: vs) [] [(x,v),(y,.tup vs)] := fun M A E s rs rkw Q S hv hk hq => by
 have := hk.nil_inv; subst this
 refine eEEAA hv.cons_inv fun r rs zz2 a b => ?_; subst zz2
 refine rE (h ..) ?_
 have hz : rs.length≤sizeLine := by refine rF b.length ?_; exact hsz
 unfold newTuple
 refine wpAny_bind (wpAny_newObj_type (wpAny_pure ?_) (by show rs.toArray.size≤sizeLine; simpa using hz))
 have k := keep_push s.heap (seqObj "tuple" rs.toArray 0)
 refine hq _ _ s.toks k ⟨rfl,.cons (a.keep (.of_keep k)) (.cons (.tup (Heap.get?_push_size _ rfl) (by refine rE List.toList_toArray ?_; exact b.keep (.of_keep k))) .nil)⟩
theorem BindsW.star2 {fd : FuncData} {x y z : Str} {v w : V} {vs : List V} (hsz : vs.length≤sizeLine) (h : ∀ r q rs,bindArgs fd ⟨r :: q :: rs,[]⟩ = (newTuple rs >>= fun t => pure [(x,r),(y,q),(z,t)])) : BindsW C H fd (v :: w :: vs) [] [(x,v),(y,w),(z,.tup vs)] := fun M A E s rs rkw Q S hv hk hq => by
 have := hk.nil_inv; subst this
 refine eEEAA hv.cons_inv fun r rs zz2 a b => ?_; subst zz2
 obtain ⟨q,rs,rfl,c,b⟩ := b.cons_inv
 refine rE (h ..) ?_
 have hz : rs.length≤sizeLine := by refine rF b.length ?_; exact hsz
 unfold newTuple
 refine wpAny_bind (wpAny_newObj_type (wpAny_pure ?_) (by show rs.toArray.size≤sizeLine; simpa using hz))
 have k := keep_push s.heap (seqObj "tuple" rs.toArray 0)
 refine hq _ _ s.toks k ⟨rfl,.cons (a.keep (.of_keep k)) (.cons (c.keep (.of_keep k)) (.cons (.tup (Heap.get?_push_size _ rfl) (by refine rE List.toList_toArray ?_; exact b.keep (.of_keep k))) .nil))⟩
variable {d : Addr} {kvs : List (Int × V)} {ep : Nat}
noncomputable def nxDict (d : Addr) (f : List (Int × V)→List V) (ep : Nat) (N : Nat) (H : CH) (i : Nat) : Option (Option V) := match H d with
 | some (.dict kvs ep') => if ep' = ep∧kvs.length = N then some (f kvs)[i]? else none
 | _ => none
set_option tactic.hygienic true in
theorem nxDict_inv {f : List (Int × V)→List V} {N : Nat} {i : Nat} {x : Option V} (h : nxDict d f ep N H i = some x) : ∃ kvs,H d = some (.dict kvs ep)∧kvs.length = N∧x = (f kvs)[i]? := by
 unfold nxDict at h
 split at h
 ·rename_i kvs ep' e
  split at h
  ·rename_i c; (refine eA c fun zz0 c2 => ?_; clear c; subst zz0); cases h; exact ⟨kvs,e,c2,rfl⟩
  ·cases h
 ·cases h
theorem raw_get {h : Heap} {kvs : List (Int × V)} {rs : List Value} (hr : VRs h (kvs.map (·.2)) rs) {i : Nat} {p : Int × V} (hp : kvs[i]? = some p) : ∃ r,(rawOf kvs rs)[i]? = some (p.1,r)∧VR h p.2 r := by
 obtain ⟨r,hr',hv⟩ := hr.get (i := i) (x := p.2) (by refine rE List.getElem?_map (rE hp ?_); rfl)
 refine ⟨r,?_,hv⟩
 unfold rawOf
 rw [List.getElem?_zip_eq_some]
 exact ⟨by refine rE List.getElem?_map (rE hp ?_); rfl,hr'⟩
theorem raw_none {h : Heap} {kvs : List (Int × V)} {rs : List Value} (hr : VRs h (kvs.map (·.2)) rs) {i : Nat} (hp : kvs[i]? = none) : (rawOf kvs rs)[i]? = none := by
 rw [List.getElem?_eq_none_iff] at hp ⊢
 refine rE (raw_length hr) ?_; exact hp
noncomputable abbrev keysOf (kvs : List (Int × V)) : List V := kvs.map fun p => .int p.1
noncomputable abbrev valsOf (kvs : List (Int × V)) : List V := kvs.map (·.2)
theorem prot_keys {I : Addr} {N : Nat} (hA : A.handled = none) (hne : d≠I) :
  Prot C A I (fun i _ o => o.cls = .type "dict_keyiterator"∧o.data = .fields #[.ref d,.int i 0,.int N 0,.int ep 0]) (nxDict d keysOf ep N) where
 plain := fun i _ o h e => not_imm_cls h.1 (by decide) (by intro vs x t e q; rw [h.2] at e; cases e; cases q) e
 nodict := fun i _ o es ep h e => by rw [h.2] at e; cases e
 kept := fun _ _ _ _ _ h => h
 item := fun H s i o v S hI ho hob hn => by
  refine eEAA (nxDict_inv hn) fun kvs hd zz2 hv => ?_; subst zz2
  refine eEA (S.dict hd) fun rs hD hrs => ?_
  rw [List.getElem?_map] at hv
  refine eEA (Option.map_eq_some_iff.mp hv.symm) fun p hp zz2 => ?_; subst zz2
  refine eEA (raw_get hrs hp) fun r hr _ => ?_
  refine wpAny_pyNext_dict_item (knd := intKind C.prog C.w) (kvs := rawOf kvs rs) (by refine rE (raw_length hrs) ?_; exact ⟨o,ho,hob.1,hob.2⟩) hD hr fun key h' hkey hit hs => ?_
  obtain ⟨t,rfl⟩ := Value.isInt_shape hkey
  rw [raw_length hrs] at hit
  obtain ⟨o',ho',hc',hd'⟩ := hit
  exact ⟨_,h',s.toks,o',rfl,rfl,.int,hs.extBut,ho',hc',hd'⟩
 done := fun H s i o S hI ho hob hn => by
  refine eEAA (nxDict_inv hn) fun kvs hd zz2 hv => ?_; subst zz2
  refine eEA (S.dict hd) fun rs hD hrs => ?_
  have hp : kvs[i]? = none := by rw [List.getElem?_map] at hv; exact Option.map_eq_none_iff.mp hv.symm
  exact wpAny_pyNext_dict_end (knd := intKind C.prog C.w) (kvs := rawOf kvs rs) hA (by refine rE (raw_length hrs) ?_; exact ⟨o,ho,hob.1,hob.2⟩) hD (raw_none hrs hp) fun h' he => ⟨h',s.toks,rfl,rfl,he⟩
 own := fun target v s i _ o Q ho hob h => letOwned_plain ho hob.1 (by decide) h
 self := fun s i _ o E Q ho hob h => wpAny_pyIter_keyiter (i := i) ⟨o,ho,hob.1,hob.2⟩ h
theorem seq_keys (B : Bs C.h₀ K mg mb) (hA : A.handled = none) (hd : H d = some (.dict kvs ep)) : SeqOf C A (.ref d) H (keysOf kvs) (fun H' => H' d = some (.dict kvs ep)) := by
 refine ⟨nxDict d keysOf ep kvs.length,fun s r S hr => ?_,fun H' i ok => ?_⟩
 ·refine rE hr.ref_inv ?_
  refine eEA (S.dict hd) fun rs hD hrs => ?_
  refine wpAny_pyIter_dict (knd := intKind C.prog C.w) (B.sysm S hd) hD ?_
  refine rE (raw_length hrs) ?_
  exact ⟨s.heap.objs.size,_,_,s.toks,_,rfl,rfl,keep_push _ _,size_none,Heap.get?_push_size _ rfl,⟨rfl,rfl⟩,prot_keys hA (Nat.ne_of_lt hD.lt_size)⟩
 ·unfold nxDict; refine rE ok ?_; simp
theorem prot_vals {I : Addr} {N : Nat} (hA : A.handled = none) (hne : d≠I) :
  Prot C A I (fun i _ o => o.cls = .type "dict_valueiterator"∧o.data = .fields #[.ref d,.int i 0,.int N 0,.int ep 0]) (nxDict d valsOf ep N) where
 plain := fun i _ o h e => not_imm_cls h.1 (by decide) (by intro vs x t e q; rw [h.2] at e; cases e; cases q) e
 nodict := fun i _ o es ep h e => by rw [h.2] at e; cases e
 kept := fun _ _ _ _ _ h => h
 item := fun H s i o v S hI ho hob hn => by
  refine eEAA (nxDict_inv hn) fun kvs hd zz2 hv => ?_; subst zz2
  refine eEA (S.dict hd) fun rs hD hrs => ?_
  rw [List.getElem?_map] at hv
  refine eEA (Option.map_eq_some_iff.mp hv.symm) fun p hp zz2 => ?_; subst zz2
  refine eEA (raw_get hrs hp) fun r hr hvr => ?_
  refine wpAny_pyNext_values_item (knd := intKind C.prog C.w) (kvs := rawOf kvs rs) (by refine rE (raw_length hrs) ?_; exact ⟨o,ho,hob.1,hob.2⟩) hD hr fun h' hit hs => ?_
  rw [raw_length hrs] at hit
  obtain ⟨o',ho',hc',hd'⟩ := hit
  exact ⟨_,h',s.toks,o',rfl,rfl,hvr.keep (tup_ext ho (fun e => not_imm_cls hob.1 (by decide) (by intro vs x t e q; rw [hob.2] at e; cases e; cases q) e) hs.extBut),hs.extBut,ho',hc',hd'⟩
 done := fun H s i o S hI ho hob hn => by
  refine eEAA (nxDict_inv hn) fun kvs hd zz2 hv => ?_; subst zz2
  refine eEA (S.dict hd) fun rs hD hrs => ?_
  have hp : kvs[i]? = none := by rw [List.getElem?_map] at hv; exact Option.map_eq_none_iff.mp hv.symm
  exact wpAny_pyNext_values_end (knd := intKind C.prog C.w) (kvs := rawOf kvs rs) hA (by refine rE (raw_length hrs) ?_; exact ⟨o,ho,hob.1,hob.2⟩) hD (raw_none hrs hp) fun h' he => ⟨h',s.toks,rfl,rfl,he⟩
 own := fun target v s i _ o Q ho hob h => letOwned_plain ho hob.1 (by decide) h
 self := fun s i _ o E Q ho hob h => wpAny_pyIter_valiter (i := i) ⟨o,ho,hob.1,hob.2⟩ h
noncomputable abbrev dvObj (d : Addr) : Obj := { cls := .type "dict_values",data := .fields #[.ref d] }
theorem Imm.dv : Imm (dvObj d) := ⟨rfl,.inl ⟨"dict_values",by decide,rfl⟩,(by intro _ _ e; cases e),(by intro _ e; cases e),(by intro _ _ _ e; cases e)⟩
theorem CV_values (B : Bs C.h₀ K mg mb) (hd : H d = some (.dict kvs ep)) (h : Q (.imm (dvObj d)) m H) : CV C A (.con (.builtin "dict.values")) [.ref d] [] m H Q := fun s rf rs rkw S hf hva hk => by
 have := hk.nil_inv; subst this
 refine rE hf.con_inv ?_
 refine eEA (one_inv hva) fun a zz1 ha => ?_; subst zz1
 refine rE ha.ref_inv ?_
 refine eEA (S.toHS.dict hd) fun rs hD hrs => ?_
 exact call_meetsIn F.slot_dict_values hD.dictOf.typeIs F.entry_dict_values (F.args_dict_values_1 _) (meets_dict_values (intKind C.prog C.w) d (B.sysm S.toHS hd)) ⟨⟨_,hD.dictOf⟩,_,m,H,.imm .dv (Heap.get?_push_size _ rfl),S.more (tk := s.toks) (keep_push _ _),.more (tk := s.toks) (keep_push _ _),h⟩
theorem seq_vals (hA : A.handled = none) (hd : H d = some (.dict kvs ep)) : SeqOf C A (.imm (dvObj d)) H (valsOf kvs) (fun H' => H' d = some (.dict kvs ep)) := by
 refine ⟨nxDict d valsOf ep kvs.length,fun s r S hr => ?_,fun H' i ok => ?_⟩
 ·obtain ⟨_,v,rfl,hv⟩ := hr.imm_inv
  refine eEA (S.dict hd) fun rs hD hrs => ?_
  refine wpAny_pyIter_values (knd := intKind C.prog C.w) ⟨_,hv,rfl,rfl⟩ hD ?_
  refine rE (raw_length hrs) ?_
  exact ⟨s.heap.objs.size,_,_,s.toks,_,rfl,rfl,keep_push _ _,size_none,Heap.get?_push_size _ rfl,⟨rfl,rfl⟩,prot_vals hA (Nat.ne_of_lt hD.lt_size)⟩
 ·unfold nxDict; refine rE ok ?_; simp
end
end
end Mine
end
section
open PySem PySem.Calls PySem.W PyProof.Rows
set_option maxRecDepth 100000
namespace Mine
noncomputable section
section
variable {C : Cx} {A : Around} {m : Loc} {H : CH} {s : Shared} {K : Frag} {mg mb : Str→Option Value} {Q : V→Loc→CH→Prop}
theorem After.hid2 {H' : CH} {s' : Shared} (a : After C H s H' s') {I : Addr} (hI : H I≠none) {h' : Heap} {tk : Nat} (hs : Heap.ExtBut I s'.heap h') {o : Obj} (ho : h'.get? I = some o) : After C H s H' { s' with heap := h',toks := tk } where
 stay := fun b o hb hn e => let ⟨o',e',k⟩ := a.stay b o hb hn e; ⟨o',hs b o' (fun q => by subst q; exact hI hn) e',k⟩
 grow := a.grow
 there := fun b o' e => by
  refine eE (a.there b o' e) fun o₁ e₁ => ?_
  by_cases q : b = I
  ·subst q; exact ⟨o,ho⟩
  ·exact ⟨o₁,hs b o₁ q e₁⟩
 drawn := a.drawn
 os := a.os
theorem pyNext_end {E : Value→Shared→Prop} {I l : Addr} {i : Nat} {items : Array Value} {Q : Option Value→Shared→Prop} (hA : A.handled = none) (hit : s.heap.IsListIter I l i) (hl : s.heap.IsList l items) (hx : items[i]? = none)
  (hQ : ∀ h' o',Heap.ExtBut I s.heap h'→h'.get? I = some o'→Q none { s with heap := h' }) : wpAny (model C.prog C.w) A (pyNext (.ref I)) Q E s := by
 obtain ⟨o,ho,hc,hd⟩ := id hit
 obtain ⟨ol,hol,_,nl,hdl⟩ := hl
 unfold pyNext
 refine wpAny_bind (wpAny_attempt (wpAny_callSpecial?_slot (name := Str.ofString "__next__") hit.typeIs slot_listiter_next (wpAny_call_entry slot_listiter_next hit.typeIs entry_listiter_next ?_ (args_listiter_next _))))
 show wpAny _ _ (field (.ref I) 0 >>= _) _ _ s
 refine wpAny_bind (wpAny_field ho hd (x := .ref l) rfl ?_)
 show wpAny _ _ (if (Value.ref l == Value.none) = true then _ else _) _ _ s
 refine rE (if_neg (show ¬ ((Value.ref l == Value.none) = true) from Bool.false_ne_true)) ?_
 show wpAny _ _ (field (.ref I) 1 >>= _) _ _ s
 refine wpAny_bind (wpAny_field ho hd (x := .int i 0) rfl ?_)
 show wpAny _ _ (seqItems? (.ref l) >>= _) _ _ s
 refine wpAny_bind (wpAny_seqItems hol hdl ?_)
 simp only [Int.toNat_natCast,hx]
 refine wpAny_bind (wpAny_rule (wpAny_bind (wpAny_setField ho hd (by exact PySem.size_pos_of_not_empty rfl) ?_)))
 show wpAny _ _ (newExc (.type "StopIteration") [] >>= _) _ _ _
 refine wpAny_bind ?_
 simp only [newExc,newTuple]
 refine wpAny_bind (wpAny_newObj_type ?_ (by size_fits))
 refine wpAny_bind (m := firstArgMember _ _) (wpAny_of_eq (a := Value.none) (by first | rfl | (simp only [firstArgMember]; rfl)) ?_)
 refine wpAny_newObj_type ?_ (by size_fits)
 unfold raiseNew
 refine wpAny_bind (wpAny_handled ?_)
 refine rE (show A.in1.handled = none from hA) ?_
 refine wpAny_bind (wpAny_pure (wpAny_throw ?_))
 refine wpAny_bind (wpAny_isInstance (T := "StopIteration") (b := true) ⟨_,Heap.get?_push_size _ rfl,rfl⟩ isSubtype_stop ?_)
 have ho2 := Heap.get?_update_self (Obj.mapFields (·.setIfInBounds 0 .none)) ho (Obj.isFreed_of_fields (Obj.data_mapFields hd _))
 exact wpAny_pure (hQ _ _ (((Heap.SameBut.update ..).extBut.push _).push _) (Heap.get?_push_of_some _ (Heap.get?_push_of_some _ ho2)))
theorem ES_for_own {target : PySem.Expr} {x : Str} {px : Pos} {body orelse : List Stmt} {p : Pos} {Q : Fl→Loc→CH→Prop} {I : Addr} {c : CObj} {ob : Nat→Heap→Obj→Prop} {nx : CH→Nat→Option (Option V)} {i₀ N : Nat} (P : Prot C A I ob nx)
  (done : ∀ H s i o,HS C H s→H I = none→s.heap.get? I = some o→ob i s.heap o→nx H i = some none→wpAny (model C.prog C.w) A (pyNext (.ref I)) (fun r s' => DoneR I s r s'∧∃ o',s'.heap.get? I = some o') NoE s)
  (hm : m.lookup x = some (.ref I)) (hI : H I = some c) (hob : ∀ s,HS C H s→∃ o,s.heap.get? I = some o∧ob i₀ s.heap o) (m₂ : Loc) (J : Nat→Loc→CH→Prop) (hsub : Sub m₂ m) (h0 : J i₀ m₂ (H.del I))
  (turn : ∀ i m H,J i m H→i≤N∧((∃ v,nx H i = some (some v)∧ASG C A target v m H fun m' H' => EX C A body m' H' (Turn Q (NextJ J (i + 1))))∨(nx H i = some none∧EX C A orelse m H Q)))
  (hs : autoParam (∀ y,foldedSetIterable (.Name x px) C.env y = pure y) Mine.syn2)
  (hk : autoParam (C.env.scope.kind = .function) Mine.syn1) (hl : autoParam (C.env.kindOf x = some .local) Mine.syn1) (hd : autoParam ((x == ("__debug__" : Str)) = false) Mine.syn4) : ES C A (.For target (.Name x px) body orelse p) m H Q := fun s S => by
 refine eEA (hob s S.toHS) fun o0 ho0 hb0 => ?_
 have hIb := (S.own I _ hI).1
 have hIl : I≠C.env.locals := ne_at hI S.loc
 refine eEEAA (S.known hm) fun mr r hn hr hv => ?_
 obtain rfl := hv.ref_inv
 refine wpAny_For (wpAny_Name (wpAny_loadName_local hk hl hn hr ?_) hd) hs
 refine P.self s i₀ s.heap _ _ _ ho0 hb0 ?_
 have hIne : H I≠none := by refine rE hI ?_; simp
 refine for_core P hIl hIb (fun a he ho => a.hid2 hIne he ho) (fun m' H' s' i o S' a hI ho hob hn => wpAny_mono (done H' s' i o S'.toHS hI ho hob hn) ?_ fun _ _ x => x) turn (fun _ _ x => x) (k := N + 1 - i₀)
  ⟨i₀,m₂,H.del I,o0,rfl,(S.less CH.del_le).sub hsub,⟨fun b o _ _ e => ⟨o,e,.refl o⟩,fun b o hn _ => CH.del_le.absent hn,fun b o e => ⟨o,e⟩,rfl,rfl⟩,CH.del_same,ho0,hb0,h0⟩
 rintro r s'' ⟨⟨h4,tk4,rfl,rfl,he⟩,o',ho'⟩
 exact ⟨⟨h4,tk4,rfl,rfl,he⟩,a.hid2 hIne he ho'⟩
set_option tactic.hygienic true in
theorem ES_for_it {target : PySem.Expr} {x : Str} {px : Pos} {body orelse : List Stmt} {p : Pos} {Q : Fl→Loc→CH→Prop} {I l : Addr} {i₀ : Nat} {xs : List V} (hA : A.handled = none) (hm : m.lookup x = some (.ref I)) (hI : H I = some (.liter l i₀)) (m₂ : Loc) (J : Nat→Loc→CH→Prop) (hsub : Sub m₂ m) (h0 : J i₀ m₂ (H.del I)) (hi0 : i₀≤xs.length)
  (turn : ∀ i m H,J i m H→H l = some (.list xs)∧(∀ x,xs[i]? = some x→ASG C A target x m H fun m' H' => EX C A body m' H' (Turn Q (NextJ J (i + 1))))∧(i = xs.length→EX C A orelse m H Q))
  (hs : autoParam (∀ y,foldedSetIterable (.Name x px) C.env y = pure y) Mine.syn2)
  (hk : autoParam (C.env.scope.kind = .function) Mine.syn1) (hl : autoParam (C.env.kindOf x = some .local) Mine.syn1) (hd : autoParam ((x == ("__debug__" : Str)) = false) Mine.syn4) : ES C A (.For target (.Name x px) body orelse p) m H Q := by
 have nxl : ∀ H i x,nxList l H i = some x→∃ xs,LAt C H l xs∧x = xs[i]? := fun H i x e => by
  unfold nxList at e
  split at e
  ·rename_i xs hx; cases e; exact ⟨xs,.own hx,rfl⟩
  ·cases e
 have P := prot_list (C := C) (A := A) (I := I) (l := l) (nx := nxList l) hA (fun e => by
  subst e
  refine eA (turn _ _ _ h0) fun h1 _ => ?_
  exact (no1 (CH.del_same) h1).elim) nxl
 refine ES_for_own (N := xs.length) P (fun H s i o S _ ho hob hn => ?_) hm hI (fun s S => ⟨_,S.liter hI,rfl,rfl⟩) m₂ (fun i m H => J i m H∧i≤xs.length) hsub ⟨h0,hi0⟩ (fun i m H ⟨hj,hi⟩ => ⟨hi,?_⟩) hs hk hl hd
 ·refine eEA (nxl H i _ hn) fun ys hl' hv => ?_
  obtain ⟨items,n,hL,hvs,hz⟩ := S.list hl'
  have : items[i]? = none := by
   have : ys.length≤i := List.getElem?_eq_none_iff.mp hv.symm
   exact Array.getElem?_eq_none (by lia)
  exact pyNext_end hA ⟨o,ho,hob.1,hob.2⟩ hL.isList this fun h' o' he ho' => ⟨⟨h',s.toks,rfl,rfl,he⟩,o',ho'⟩
 ·refine eAA (turn i m H hj) fun h1 h2 h3 => ?_
  have nx0 : nxList l H i = some xs[i]? := by unfold nxList; refine rE h1 rfl
  rcases Nat.lt_or_ge i xs.length with hlt | hge
  ·have hx : xs[i]? = some xs[i] := List.getElem?_eq_getElem hlt
   refine .inl ⟨xs[i],nx0.trans (by refine rE hx rfl),fun s r S hr => wpAny_mono (h2 _ hx s r S hr) (fun _ s' ⟨m',H',S',af',q⟩ => ⟨m',H',S',af',q.mono fun fl m₂ H₂ hq => ?_⟩) fun _ _ x => x⟩
   cases fl with
   | next => obtain ⟨m₃,a,b⟩ := hq; exact ⟨m₃,a,b,hlt⟩
   | cont => obtain ⟨m₃,a,b⟩ := hq; exact ⟨m₃,a,b,hlt⟩
   | brk => exact hq
   | ret v => exact hq
  ·exact .inr ⟨nx0.trans (by refine rE (List.getElem?_eq_none hge) rfl),h3 (by exact Nat.le_antisymm hi hge)⟩
theorem O2_is_mark {v : V} {y : Addr} {oy : Obj} (hy : C.h₀.get? y = some oy) (hc : oy.cls≠.type "tuple") (hv : (∃ i,v = .int i)∨v = V.none∨(∃ a c,v = .ref a∧H a = some c)∨∃ l,v = .tup l) (h : Q (.bool false) m H) : O2 C A (compareOp .Is) v (.con (.ref y)) m H Q := fun s r q S hr hq => by
 refine rE hq.con_inv ?_
 have key : ∀ a o,a≠y→s.heap.get? a = some o→wpAny (model C.prog C.w) A (compareOp .Is (.ref a) (.ref y)) (PV C H s Q) NoE s := fun a o hne ho => by
  show wpAny _ A (do return Value.bool (← isSame (.ref a) (.ref y))) _ _ s
  exact wpAny_bind (SeqAt.wpAny_isSame_ref_other' hne ho (S.base _ _ hy) hc (wpAny_pure (.here S .con h)))
 rcases hv with ⟨i,rfl⟩ | rfl | ⟨a,c,rfl,ha⟩ | ⟨l,rfl⟩
 ·refine eE hr.int_inv fun t zz1 => ?_; subst zz1
  exact wpAny_is_other rfl (by intro e; cases e) (.here S .con h)
 ·refine rE hr.con_inv ?_
  exact wpAny_is_other rfl (by intro e; cases e) (.here S .con h)
 ·refine rE hr.ref_inv ?_
  obtain ⟨hb,o,ho,_⟩ := S.own a c ha
  exact key a o (fun e => by rw [e,hy] at hb; cases hb) ho
 ·obtain ⟨a,items,n,rfl,ho,_⟩ := hr.tup_inv
  exact key a _ (fun e => by have := S.base _ _ hy; rw [← e,ho] at this; cases this; exact hc rfl) ho
theorem O2_is_self {y : Addr} (h : Q (.bool true) m H) : O2 C A (compareOp .Is) (.con (.ref y)) (.con (.ref y)) m H Q := fun s r q S hr hq => by
 refine rE hr.con_inv (rE hq.con_inv ?_); exact wpAny_is_ref_self (.here S .con h)
theorem EV_or {x y : PySem.Expr} {p : Pos} (h : EV C A x m H fun v m₁ H₁ => OB C A truthy v m₁ H₁ fun b m₂ H₂ => (b = true→Q v m₂ H₂)∧(b = false→EV C A y m₂ H₂ Q)) : EV C A (.BoolOp .Or [x,y] p) m H Q := fun s S => by
 refine BoolOp_or (wpAny_mono (h s S) ?_ fun _ _ x => x)
 rintro r s₁ ⟨v,m₁,H₁,hv,S₁,af₁,h₁⟩
 refine wpAny_mono (h₁ s₁ r S₁ hv) ?_ fun _ _ x => x
 rintro b s₂ ⟨m₂,H₂,S₂,af₂,h₂⟩
 cases b with
 | true => exact ⟨v,m₂,H₂,hv.keep (af₂.tup S₁),S₂,af₁.then S₁ af₂,h₂.1 rfl⟩
 | false => exact BoolOp_one (wpAny_mono (h₂.2 rfl s₂ S₂) (fun _ _ x => x.mono S₂ (af₁.then S₁ af₂)) fun _ _ x => x)
theorem OB_none {Q : Bool→Loc→CH→Prop} (h : Q false m H) : OB C A truthy V.none m H Q := fun s r S hr => by
 refine rE hr.con_inv ?_; exact wpAny_pure (.here S h)
theorem meets_bool_new_list (l : Addr) (items : Array Value) (n : Nat) (hz : items.size≤sizeLine) : Meets (Builtin.«bool.__new__» ⟨[.type "bool",.ref l],[]⟩) (fun _ R s => IsL s.heap l items n∧∀ tk,R (.ok (.ret (.bool (!items.isEmpty)))) { s with toks := tk }) :=
 Meets.of_wp fun prog w A R s hs => by
  obtain ⟨hp,g,d,tk,os⟩ := s
  have f1 := F.conv_sub_bool
  have hb : (items.size : Int) < 2 ^ 63 := by unfold sizeLine at hz; lia
  have ht : ∀ {A' : Around} {E' : Value→Shared→Prop} {tk' : Nat} {Q' : Bool→Shared→Prop},Q' (!items.isEmpty) ⟨hp,g,d,tk' + 1 + 1,os⟩→wpAny (model prog w) A' (truthy (.ref l)) Q' E' ⟨hp,g,d,tk',os⟩ := fun {_ _ _ _} q => wpAny_truthy_list (s := ⟨hp,g,d,_,os⟩) hs.1.isList hb q
  repeat (any_goals (first | assumption | with_reducible apply ht | wp_step))
  all_goals exact ⟨_,rfl,hs.2 _⟩
theorem CV_bool_list {l : Addr} {xs : List V} (hl : LAt C H l xs) (hsz : xs.length≤sizeLine) (h : Q (.bool (!xs.isEmpty)) m H) : CV C A (.con (.type "bool")) [.ref l] [] m H Q := fun s rf rs rkw S hf hva hk => by
 have := hk.nil_inv; subst this
 refine rE hf.con_inv ?_
 refine eEA (one_inv hva) fun x zz1 hx => ?_; subst zz1
 refine rE hx.ref_inv ?_
 obtain ⟨items,n,hL,hs,hz⟩ := S.toHS.list hl
 have he : items.isEmpty = xs.isEmpty := by
  cases xs with
  | nil => simp at hz; simp [hz]
  | cons => simp at hz; simp; intro e; simp [e] at hz
 refine call_bool_1 (meets_bool_new_list l items n (by lia)) ⟨hL,fun tk => ⟨?_,?_⟩⟩
 ·exact PySem.typeIs_bool _ _
 ·refine rE he ?_; exact .same S .con h _
theorem ES_assign2 {t u e : PySem.Expr} {p : Pos} {Q : Fl→Loc→CH→Prop} (h : EV C A e m H fun v m₁ H₁ => ASG C A t v m₁ H₁ fun m₂ H₂ => ASG C A u v m₂ H₂ (Q .next))
  (hs : autoParam (swapsWithSole [t,u] e p.line C.env = pure false) Mine.syn1) (hw : autoParam (swappedStores [t,u] e C.env = pure none) Mine.syn1) (ht : autoParam ((assignEach [t,u] C.env).map (·.2) = [assign t C.env,assign u C.env]) Mine.syn1) : ES C A (.Assign [t,u] e p) m H Q := fun s S => by
 refine wpAny_Assign_stores (wpAny_mono (h s S) ?_ fun _ _ x => x) hs hw
 rintro a s₁ ⟨v,m₁,H₁,ra,S₁,af₁,h₁⟩
 refine rE ht ?_
 refine wpAny_bind (wpAny_holding (wpAny_mono (h₁ s₁ a S₁ ra) ?_ fun _ _ x => x))
 rintro _ s₂ ⟨m₂,H₂,S₂,af₂,h₂⟩
 refine wpAny_mono (h₂ s₂ a S₂ (ra.keep (af₂.tup S₁))) ?_ fun _ _ x => x
 rintro _ s₃ ⟨m₃,H₃,S₃,af₃,h₃⟩
 exact ⟨.next,m₃,H₃,rfl,S₃,(af₁.then S₁ af₂).then S₂ af₃,h₃⟩
end
end
end Mine
end
section
open PySem PySem.Calls PySem.W PyProof.Rows
set_option maxRecDepth 100000
namespace Mine
noncomputable section
section
variable {C : Cx} {A : Around} {m : Loc} {H : CH}
theorem ASGs_cons {t : PySem.Expr} {ts : List PySem.Expr} {v : V} {vs : List V} {Q : Loc→CH→Prop} (h : ASG C A t v m H fun m₁ H₁ => ASGs C A ts vs m₁ H₁ Q) : ASGs C A (t :: ts) (v :: vs) m H Q := h
theorem ASGs_nil {Q : Loc→CH→Prop} (h : Q m H) : ASGs C A [] [] m H Q := h
theorem ETs_nil {Q : Bool→Loc→CH→Prop} (h : Q true m H) : ETs C A [] m H Q := h
theorem ETs_cons {c : PySem.Expr} {cs : List PySem.Expr} {Q : Bool→Loc→CH→Prop} (h : EB C A c m H fun b m₁ H₁ => (b = true→ETs C A cs m₁ H₁ Q)∧(b = false→Q false m₁ H₁)) : ETs C A (c :: cs) m H Q := h
end
end
end Mine
end
section
open PySem PySem.Calls PySem.W PyProof.Rows
set_option maxRecDepth 100000
namespace Mine
noncomputable section
section
variable {C : Cx} {A : Around} {m : Loc} {H : CH} {s : Shared} {Q : V→Loc→CH→Prop}
theorem fold_cat {α : Type} : ∀ (k : Nat) (acc items : Array α),(List.foldl (fun x1 x2 => x1 ++ x2) acc (List.replicate k items)).toList = acc.toList ++ (List.replicate k items.toList).flatten
 | 0,acc,items => by simp
 | k + 1,acc,items => by
  refine rE List.replicate_succ (rE List.foldl_cons ?_); rewrite [fold_cat k]; refine rE Array.toList_append (rE List.replicate_succ (rE List.flatten_cons (rE (List.append_assoc ..) rfl)))
theorem VRs.times {h : Heap} {vs : List V} {rs : List Value} (r : VRs h vs rs) : ∀ k : Nat,VRs h (List.replicate k vs).flatten (List.replicate k rs).flatten
 | 0 => .nil
 | k + 1 => by refine rE List.replicate_succ (rE List.replicate_succ (rE List.flatten_cons (rE List.flatten_cons ?_))); exact r.append (VRs.times r k)
theorem O2_mul_list {l : Addr} {xs : List V} {n : Int} (hl : LAt C H l xs) (hn : n < 2 ^ 63) (h0 : 0≤n) (hsz : xs.length * n.toNat≤sizeLine) (h : ∀ a,H a = none→Q (.ref a) m (H.set a (.list (List.replicate n.toNat xs).flatten))) : O2 C A (binaryOp .Mult) (.ref l) (.int n) m H Q := fun s r q S hr hq => by
 refine rE hr.ref_inv ?_; (refine eE hq.int_inv fun u zz1 => ?_; subst zz1)
 obtain ⟨items,k,hI,hvs,hz⟩ := S.toHS.list hl
 have hsz' : items.size * n.toNat≤2 ^ 24 := by refine rE hz ?_; exact hsz
 have hI' : s.heap.get? l = some { cls := .type "list",dict := none,data := .seq items k,slots := #[] } := hI
 refine wpAny_binaryOp_repeat_ref (T := "list") (U := "int") (by decide) ⟨_,hI',rfl⟩ (fun s' => typeIs_int s' n u) noFill_list_mul F.fills_int_mul F.slot_int_rmul repeat_list F.slot_int_index.lookup
  (call_meets F.slot_int_rmul (typeIs_int s n u) F.entry_int_rmul (F.args_int_rmul_2 _ _) (int___rmul___int_list n u l items k)
   ⟨hI',rfl,⟨_,hI',rfl⟩,call_meets F.slot_list_mul ⟨_,hI',rfl⟩ F.entry_list_mul (F.args_list_mul_2 _ _)
    (AutoListH.list___mul___list_int_3 l items k n u (by simp [Builtin.List.listFitsIndex]; lia) (by grind) (by simp [Builtin.List.listTooLong,sizeLine]; omega))
    ⟨hI',?_⟩⟩)
 have e : (List.foldl (fun x1 x2 => x1 ++ x2) #[] (List.replicate (if items.isEmpty = true then 0 else n.toNat) items)).toList = (List.replicate n.toNat items.toList).flatten := by
  refine rE (fold_cat ..) ?_
  by_cases he : items.isEmpty = true
  ·have : items.toList = [] := by simpa using he
   refine rE (if_pos he) (rE this ?_); simp
  ·refine rE (if_neg he) ?_; simp
 exact ⟨_,m,_,.ref,S.alloc (tk := s.toks) (c := .list (List.replicate n.toNat xs).flatten) ⟨_,0,rfl,by refine rE e ?_; exact hvs.times _⟩,.alloc,h _ S.toHS.fresh⟩
end
end
end Mine
end
section
open PySem PySem.Calls PySem.W PyProof.Rows
set_option maxRecDepth 100000
namespace Mine
noncomputable section
noncomputable def cut (h : Heap) (ts : List Addr) : Heap := { h with objs := h.objs.mapIdx fun i o => if i ∈ ts then { o with data := .freed } else o }
theorem cut_get {h : Heap} {ts : List Addr} {b : Addr} : (cut h ts).get? b = if b ∈ ts then none else h.get? b := by
 unfold cut Heap.get?
 simp only [Array.getElem?_mapIdx]
 cases e : h.objs[b]? with
 | none => simp
 | some o =>
  simp only [Option.map_some]
  by_cases q : b ∈ ts
  ·refine rE (if_pos q) (rE (if_pos q) rfl)
  ·refine rE (if_neg q) (rE (if_neg q) rfl)
theorem ns_cut {h : Heap} {ts : List Addr} {a : Addr} {m : Str→Option Value} (N : h.Ns a m) (ha : a ∉ ts) : (cut h ts).Ns a m :=
 let ⟨o,es,ep,e,r⟩ := N; ⟨o,es,ep,by refine rE cut_get (rE (if_neg ha) ?_); exact e,r⟩
noncomputable def tabsH (qs : List (Addr × List ((Nat × Nat) × Str))) : CH := fun a => (qs.lookup a).map CObj.tab
theorem tabsH_mem {qs : List (Addr × List ((Nat × Nat) × Str))} {a : Addr} {c : CObj} (h : tabsH qs a = some c) : a ∈ qs.map (·.1)∧∃ q,c = .tab q := by
 unfold tabsH at h
 refine eEA (Option.map_eq_some_iff.mp h) fun q h1 zz2 => ?_; subst zz2
 refine eEEA (List.lookup_eq_some_iff.mp h1) fun l1 l2 e _ => ?_
 exact ⟨by refine rE e ?_; simp,q,rfl⟩
section
variable {prog : Program} {w : World} {c : ClaimW} {cl : Str→Option Addr} {mean : ExcName→Option Value} {args : List WData} {s₁ : Shared} {K : Frag} {mg mb : Str→Option Value} {fa l : Addr} {ns : List Int} {E : Value→Shared→Prop}
theorem codeTable_of {P a : Addr} {vs : Array Value} {d : Option Addr} {sl : Array (Option Value)} (X : K.In s₁.heap) (hk : K.lookup a = some ⟨.type "code",d,.fields vs,sl⟩) (hv : vs[11]? = some (.ref P)) : isCodeTable s₁.heap P :=
 ⟨a,_,vs,X _ _ hk,rfl,rfl,hv⟩
theorem well_ints {P : Params} {h : Heap} : ∀ {ns : List Int} {vs : List Value},WellAll P h vs (ns.map .int)→VRs h (ns.map .int) vs
 | [],vs,W => by cases W; exact .nil
 | n :: ns,vs,W => by
  cases W with
  | cons a b => cases a; exact .cons .int (well_ints b)
theorem VRs.ints_any {h h' : Heap} : ∀ {ns : List Int} {vs : List Value},VRs h (ns.map .int) vs→VRs h' (ns.map .int) vs
 | [],vs,r => by have := r.nil_inv; subst this; exact .nil
 | n :: ns,vs,r => by
  refine eEEAA r.cons_inv fun y ys zz2 a b => ?_; subst zz2
  refine eE a.int_inv fun t zz1 => ?_; subst zz1
  exact .cons .int (VRs.ints_any b)
theorem ofPys_ints : ∀ ns : List Int,ofPys (ns.map .int) = ns.map .int
 | [] => rfl
 | a :: r => by
  show ofPy (.int a) :: ofPys (r.map .int) = _
  refine rE (ofPys_ints r) ?_; rfl
theorem law_ends (qs : List (Addr × List ((Nat × Nat) × Str))) (X : K.In s₁.heap) (TT : ∀ P ∈ qs.map (·.1),s₁.heap.get? P = some (tabObj #[])) (hk : ∀ P ∈ qs.map (·.1),K.lookup P = none) (hct : ∀ P ∈ qs.map (·.1),isCodeTable s₁.heap P)
  (hlow : ∀ P ∈ qs.map (·.1),3 < P) (lim : s₁.heap.NoLimit) (g : s₁.heap.Ns mainGlobals mg) (b : s₁.heap.Ns builtinsNs mb) (boot : ∀ x : Str,x ≠ "__name__"→mb x = bootBuiltins x) (sys : s₁.heap.NoSeer)
  (bm : ∃ bm ob,mg "__builtins__" = some (.ref bm)∧bm≠builtinsNs∧s₁.heap.get? bm = some ob∧ob.cls = .type "module"∧ob.dict = some builtinsNs∧ob.data = .plain)
  (hl : Well w.params s₁.heap (.ref l) (ofPy (.list (ns.map .int)))) (hgens : s₁.gens = #[]) (hr : ∀ cls,c.raises args cls = false) (hp : c.post args (.bool true) args = true)
  (h : ∀ (C : Cx) (items : Array Value),C.w = w→C.fr = []→Bs C.h₀ K mg mb→(∀ n,n≤100→AOK C callerA n)→C.h₀.get? l = some (seqObj "list" items 0)→VRs C.h₀ (ns.map .int) items.toList→CALL C callerA (.con (.ref fa)) [.ref l] [] (tabsH qs) fun v H' => v = .bool true∧∀ b,tabsH qs b≠none→H' b = tabsH qs b) :
  wpAny (model prog w) callerA (call (.ref fa) [.ref l]) (fun v s' => GoodWG c cl mean args s₁ (.ok (.ret v)) s') E s₁ := by
 have low : ∀ {a : Addr},a≤3→a ∉ qs.map (·.1) := fun {a} ha hm => absurd (hlow a hm) (Nat.not_lt.mpr ha)
 have hout : ∀ {a : Addr} {o : Obj},s₁.heap.get? a = some o→(∀ vs,o.data≠.fields vs)→a ∉ qs.map (·.1) := fun {a o} ho hd hm => by
  rw [TT a hm] at ho; cases ho; exact hd _ rfl
 have keep : ∀ {a : Addr} {o : Obj},s₁.heap.get? a = some o→a ∉ qs.map (·.1)→(cut s₁.heap (qs.map (·.1))).get? a = some o := fun {a o} ho hm => by refine rE cut_get (rE (if_neg hm) ?_); exact ho
 have hlist : ∃ vs : List Value,s₁.heap.get? l = some (seqObj "list" vs.toArray 0)∧WellAll w.params s₁.heap vs (ns.map .int) := by
  have e : ofPy (.list (ns.map .int)) = .list (ns.map .int) := by
   simp only [ofPy]
   refine rE (ofPys_ints ..) rfl
  rw [e] at hl
  cases hl with
  | list a b => exact ⟨_,a,b⟩
 refine eEA hlist fun vs hl1 hl2 => ?_
 have hl3 := keep hl1 (hout hl1 (by intro _ e; cases e))
 refine eEA sys.mods fun mm hmm _ => ?_
 obtain ⟨om,_,_,hom,_⟩ := id hmm
 obtain ⟨bmA,ob,b1,b2,b3,b4,b5,b6⟩ := bm
 have B : Bs (cut s₁.heap (qs.map (·.1))) K mg mb := by
  refine ⟨fun a o e => ?_,?_,ns_cut g (low (by decide)),ns_cut b (low (by decide)),boot,⟨om,keep hom (low (by decide))⟩,bmA,ob,b1,b2,keep b3 (hout b3 (by intro vs e; rw [b6] at e; cases e)),b4,b5,b6⟩
  ·refine keep (X a o e) fun hm => ?_
   exact (no1 (hk a hm) e).elim
  ·obtain ⟨mc,h1,h2⟩ := lim
   exact ⟨mc,ns_cut h1 (low (by decide)),h2⟩
 have S : HS ⟨prog,w,cut s₁.heap (qs.map (·.1)),default,[]⟩ (tabsH qs) s₁ := by
  refine ⟨fun b o e => ?_,fun a c e => ?_,hgens⟩
  ·have e : (cut s₁.heap (qs.map (·.1))).get? b = some o := e
   rw [cut_get] at e
   by_cases q : b ∈ qs.map (·.1)
   ·exact (no1 (if_pos q) e).elim
   ·rw [if_neg q] at e; exact e
  ·obtain ⟨hm,q,rfl⟩ := tabsH_mem e
   refine ⟨by show (cut _ _).get? a = none; refine rE cut_get (rE (if_pos hm) rfl),_,TT a hm,#[],rfl,trivial,fun pos cv e => ?_⟩
   simp [codeAmong] at e
 refine wpAny_call (codeAny_mono (h ⟨prog,w,cut s₁.heap (qs.map (·.1)),default,[]⟩ vs.toArray rfl rfl B (fun n hn => ⟨rfl,?_,?_,rfl⟩) hl3 (by refine rE List.toList_toArray ?_; exact VRs.ints_any (well_ints hl2)) s₁ _ _ _ S (by intro e he; cases he) .con (.cons .ref .nil) .nil) ?_)
 ·show 1 + claimMargin + n < recursionLimit
  have : 1 + claimMargin + 100 < recursionLimit := by decide
  lia
 ·show 4 + 4 * n + 40 < cLine
  have : 4 + 4 * 100 + 40 < cLine := by decide
  lia
 rintro r s' x
 cases r with
 | error e => exact x.elim
 | ok f =>
  cases f with
  | ret rv =>
   obtain ⟨v,H',hv,S',af,rfl,hkeep⟩ := x
   obtain rfl := hv.con_inv
   refine ⟨.inl ⟨.bool true,.bool true,[],rfl,hr,.bool true,hp,fun _ => ⟨.nil,fun a ha => by cases ha⟩⟩,⟨fun b o e => ?_,fun b o e => af.there b o e⟩,af.os,fun y hy => by rw [S'.gens] at hy; simp at hy⟩
   by_cases q : b ∈ qs.map (·.1)
   ·refine .inr (.inl ⟨hct b q,?_⟩)
    rw [TT b q] at e; cases e
    have hq : ∃ q,tabsH qs b = some (.tab q) := by
     refine eEA (List.mem_map.mp q) fun y hy zz2 => ?_; subst zz2
     unfold tabsH
     cases e : qs.lookup y.1 with
     | none => exact absurd (List.lookup_eq_none_iff.mp e y hy) (by simp)
     | some z => exact ⟨z,rfl⟩
    refine eE hq fun q' hq' => ?_
    have h2 := hkeep b (by refine rE hq' ?_; simp)
    rw [hq'] at h2
    obtain ⟨_,o,ho,ps,rfl,_⟩ := S'.own b _ h2
    exact ⟨rfl,#[],ps,rfl,by refine rE Array.empty_append ?_; exact ho⟩
   ·exact .inl (S'.base b o (keep e q))
  | next => exact x.elim
  | brk => exact x.elim
  | cont => exact x.elim
end
end
end Mine
end
section
namespace Mine
noncomputable section
section
variable {α : Type} (lt : α→α→Bool)
structure LtOk : Prop where
 asymm : ∀ a b,lt a b = true→lt b a = false
 ntrans : ∀ a b c,lt a b = false→lt b c = false→lt a c = false
noncomputable def par (k : Nat) : Nat := (k - 1) / 2
theorem par_lt {k : Nat} (h : 0 < k) : par k < k := by unfold par; omega
noncomputable def IsHeap (l : List α) : Prop := ∀ k (h0 : 0 < k) (hk : k < l.length),lt (l[k]'hk) (l[par k]'(Nat.lt_trans (par_lt h0) hk)) = false
noncomputable def sdown (x : α) (pos : Nat) (l : List α) : List α :=
 Nat.lt_wfRel.wf.fix (C := fun _ => List α→List α) (fun pos f l =>
  if h : 0 < pos then
   match l[par pos]? with
   | some y => if lt x y = true then f (par pos) (par_lt h) (l.set pos y) else l.set pos x
   | none => l
  else l.set pos x) pos l
theorem sdown_eq (x : α) (pos : Nat) (l : List α) : sdown lt x pos l =
  if h : 0 < pos then
   match l[par pos]? with
   | some y => if lt x y = true then sdown lt x (par pos) (l.set pos y) else l.set pos x
   | none => l
  else l.set pos x := by
 exact congrFun (Nat.lt_wfRel.wf.fix_eq (C := fun _ => List α→List α) _ pos) l
noncomputable def kid (l : List α) (pos : Nat) : Nat := match l[2 * pos + 1]?,l[2 * pos + 2]? with
 | some a,some b => if lt a b = true then 2 * pos + 1 else 2 * pos + 2
 | _,_ => 2 * pos + 1
theorem kid_le (l : List α) (pos : Nat) : 2 * pos + 1≤kid lt l pos := by
 unfold kid; split <;> try split
 all_goals lia
theorem kid_near {l : List α} {pos : Nat} {y : α} (h : 2 * pos + 1 < l.length) : (l.set pos y).length - kid lt l pos < l.length - pos := by
 have := kid_le lt l pos
 refine rE List.length_set ?_; omega
noncomputable def sup (pos : Nat) (l : List α) : Nat × List α :=
 (measure fun p : Nat × List α => p.2.length - p.1).wf.fix (C := fun _ => Nat × List α) (fun p f =>
  if h : 2 * p.1 + 1 < p.2.length then
   match p.2[kid lt p.2 p.1]? with
   | some y => f (kid lt p.2 p.1,p.2.set p.1 y) (kid_near lt h)
   | none => p
  else p) (pos,l)
theorem sup_eq (pos : Nat) (l : List α) : sup lt pos l =
  if h : 2 * pos + 1 < l.length then
   match l[kid lt l pos]? with
   | some y => sup lt (kid lt l pos) (l.set pos y)
   | none => (pos,l)
  else (pos,l) := WellFounded.fix_eq ..
variable {lt}
theorem set_swap_perm {l : List α} {i j : Nat} (hi : i < l.length) (hj : j < l.length) (x : α) : ((l.set i l[j]).set j x).Perm (l.set i x) := by
 by_cases hij : i = j
 ·subst hij; (refine rE (List.set_set ..) ?_; rfl)
 ·have h := List.set_set_perm (as := l.set i x) (i := i) (j := j) (by simpa using hi) (by simpa using hj)
  rw [List.set_set] at h
  have e1 : (l.set i x)[j]'(by simpa using hj) = l[j] := by rw [List.getElem_set_ne hij]
  have e2 : (l.set i x)[i]'(by simpa using hi) = x := by refine rE (List.getElem_set_self ..) rfl
  rw [e1,e2] at h
  exact h
set_option tactic.hygienic true in
theorem sdown_perm (x : α) : ∀ (pos : Nat) (l : List α),pos < l.length→(sdown lt x pos l).Perm (l.set pos x) := by
 intro pos
 induction pos using Nat.strongRecOn with
 | _ pos ih =>
  intro l hp
  refine rE (sdown_eq ..) ?_
  split
  ·rename_i h
   have hq := par_lt h
   have hq' : par pos < l.length := Nat.lt_trans hq hp
   refine rE (List.getElem?_eq_getElem hq') ?_
   dsimp only
   split
   ·refine (ih _ hq _ (by refine rE List.length_set ?_; exact hq')).trans ?_
    exact set_swap_perm hp hq' x
   ·exact .refl _
  ·exact .refl _
structure Hole (lt : α→α→Bool) (l : List α) (pos : Nat) : Prop where
 rest : ∀ k (h0 : 0 < k) (hk : k < l.length),k≠pos→par k≠pos→lt (l[k]'hk) (l[par k]'(Nat.lt_trans (par_lt h0) hk)) = false
 over : ∀ k (h0 : 0 < k) (hk : k < l.length) (hp : 0 < pos) (hpl : pos < l.length),par k = pos→lt (l[k]'hk) (l[par pos]'(Nat.lt_trans (par_lt hp) hpl)) = false
theorem getElem_set' {l : List α} {i k : Nat} {x : α} (hk : k < (l.set i x).length) : (l.set i x)[k]'hk = if i = k then x else l[k]'(by simpa using hk) := by
 refine rE (List.getElem_set ..) rfl
set_option tactic.hygienic true in
theorem sdown_heap (ok : LtOk lt) (x : α) : ∀ (pos : Nat) (l : List α),pos < l.length→Hole lt l pos→(∀ k (h0 : 0 < k) (hk : k < l.length),par k = pos→lt (l[k]'hk) x = false)→IsHeap lt (sdown lt x pos l) := by
 intro pos
 induction pos using Nat.strongRecOn with
 | _ pos ih =>
  intro l hp H hx
  refine rE (sdown_eq ..) ?_
  split
  ·rename_i h
   have hq := par_lt h
   have hq' : par pos < l.length := Nat.lt_trans hq hp
   refine rE (List.getElem?_eq_getElem hq') ?_
   dsimp only
   split
   ·rename_i hlt
    have hyx := ok.asymm _ _ hlt
    refine ih _ hq _ (by refine rE List.length_set ?_; exact hq') ⟨fun k h0 hk hk1 hk2 => ?_,fun k h0 hk hp0 hpl hk1 => ?_⟩ fun k h0 hk hk1 => ?_
    ·have hk' : k < l.length := by simpa using hk
     refine rE (getElem_set' ..) (rE (getElem_set' ..) ?_)
     by_cases e1 : pos = k
     ·exact absurd (e1 ▸ rfl) hk2
     ·refine rE (if_neg e1) ?_
      by_cases e2 : pos = par k
      ·refine rE (if_pos e2) ?_; exact H.over k h0 hk' h hp e2.symm
      ·refine rE (if_neg e2) ?_; exact H.rest k h0 hk' (Ne.symm e1) (Ne.symm e2)
    ·have hk' : k < l.length := by simpa using hk
     have hpp := par_lt hp0
     refine rE (getElem_set' ..) (rE (getElem_set' ..) (rE (if_neg (by lia : ¬ pos = par (par pos))) ?_))
     have base := H.rest (par pos) hp0 hq' (by exact Nat.ne_of_lt hq) (by lia)
     by_cases e1 : pos = k
     ·refine rE (if_pos e1) ?_; exact base
     ·refine rE (if_neg e1) ?_
      have a := H.rest k h0 hk' (Ne.symm e1) (by refine rE hk1 ?_; exact Nat.ne_of_lt hq)
      have : lt (l[k]'hk') (l[par pos]'hq') = false := by
       have e : par k = par pos := hk1
       simpa [e] using a
      exact ok.ntrans _ _ _ this base
    ·have hk' : k < l.length := by simpa using hk
     refine rE (getElem_set' ..) ?_
     by_cases e1 : pos = k
     ·refine rE (if_pos e1) ?_; exact hyx
     ·refine rE (if_neg e1) ?_
      have a := H.rest k h0 hk' (Ne.symm e1) (by refine rE hk1 ?_; exact Nat.ne_of_lt hq)
      have : lt (l[k]'hk') (l[par pos]'hq') = false := by
       have e : par k = par pos := hk1
       simpa [e] using a
      exact ok.ntrans _ _ _ this hyx
   ·rename_i hlt
    have hlt' : lt x (l[par pos]'hq') = false := by simpa using hlt
    intro k h0 hk
    have hk' : k < l.length := by simpa using hk
    have hkp := par_lt h0
    refine rE (getElem_set' ..) (rE (getElem_set' ..) ?_)
    by_cases e1 : pos = k
    ·subst e1
     refine rE (if_pos rfl) (rE (if_neg (by exact Nat.ne_of_lt' hq)) ?_); exact hlt'
    ·refine rE (if_neg e1) ?_
     by_cases e2 : pos = par k
     ·refine rE (if_pos e2) ?_; exact hx k h0 hk' e2.symm
     ·refine rE (if_neg e2) ?_; exact H.rest k h0 hk' (Ne.symm e1) (Ne.symm e2)
  ·rename_i h
   have h0' : pos = 0 := by lia
   subst h0'
   intro k h0 hk
   have hk' : k < l.length := by simpa using hk
   refine rE (getElem_set' ..) (rE (getElem_set' ..) (rE (if_neg (by exact Nat.ne_of_lt h0)) ?_))
   by_cases e2 : 0 = par k
   ·refine rE (if_pos e2) ?_; exact hx k h0 hk' e2.symm
   ·refine rE (if_neg e2) ?_; exact H.rest k h0 hk' (by exact Nat.ne_zero_of_lt h0) (Ne.symm e2)
theorem push_perm (x : α) (l : List α) : (sdown lt x l.length (l ++ [x])).Perm (x :: l) := by
 refine (sdown_perm x _ _ (by simp)).trans ?_
 refine rE (show (l ++ [x]).set l.length x = l ++ [x] from by simp) ?_
 exact List.perm_append_singleton x l
theorem push_heap (ok : LtOk lt) (x : α) (l : List α) (H : IsHeap lt l) : IsHeap lt (sdown lt x l.length (l ++ [x])) := by
 refine sdown_heap ok x _ _ (by simp) ⟨fun k h0 hk h1 h2 => ?_,fun k h0 hk _ _ h1 => ?_⟩ fun k h0 hk h1 => ?_
 ·have hk' : k < l.length := by simp at hk; lia
  have hp := par_lt h0
  refine rE (List.getElem_append_left hk') (rE (List.getElem_append_left (Nat.lt_trans hp hk')) ?_)
  exact H k h0 hk'
 ·have hp := par_lt h0; simp at hk; grind
 ·have hp := par_lt h0; simp at hk; omega
set_option tactic.hygienic true in
theorem kid_lt {l : List α} {pos : Nat} (h : 2 * pos + 1 < l.length) : kid lt l pos < l.length := by
 unfold kid
 split
 ·rename_i a b ha hb
  have := (List.getElem?_eq_some_iff.mp hb).1
  split <;> omega
 ·exact h
theorem kid_par {l : List α} {pos : Nat} : par (kid lt l pos) = pos := by
 unfold kid par
 split <;> try split
 all_goals lia
theorem kid_least (ok : LtOk lt) {l : List α} {pos : Nat} (h : 2 * pos + 1 < l.length) : ∀ k (h0 : 0 < k) (hk : k < l.length),par k = pos→lt (l[k]'hk) (l[kid lt l pos]'(kid_lt h)) = false := by
 intro k h0 hk hp
 have irr : ∀ a,lt a a = false := fun a => by
  cases e : lt a a with
  | false => rfl
  | true => rw [ok.asymm a a e] at e; cases e
 have hk2 : k = 2 * pos + 1∨k = 2 * pos + 2 := by unfold par at hp; (clear h hk; grind)
 by_cases h2 : 2 * pos + 2 < l.length
 ·have e : kid lt l pos = if lt (l[2 * pos + 1]'h) (l[2 * pos + 2]'h2) = true then 2 * pos + 1 else 2 * pos + 2 := by
   unfold kid
   refine rE (List.getElem?_eq_getElem h) (rE (List.getElem?_eq_getElem h2) rfl)
  have main : ∀ j (hj : j < l.length),kid lt l pos = j→lt (l[k]'hk) (l[j]'hj) = false := by
   intro j hj ej
   rw [e] at ej
   by_cases hc : lt (l[2 * pos + 1]'h) (l[2 * pos + 2]'h2) = true
   ·rw [if_pos hc] at ej; subst ej
    rcases hk2 with rfl | rfl
    ·exact irr _
    ·exact ok.asymm _ _ hc
   ·rw [if_neg hc] at ej; subst ej
    rcases hk2 with rfl | rfl
    ·simpa using hc
    ·exact irr _
  exact main _ (kid_lt h) rfl
 ·have e : kid lt l pos = 2 * pos + 1 := by
   unfold kid
   refine rE (List.getElem?_eq_getElem h) (rE (List.getElem?_eq_none (by exact Nat.le_of_not_lt h2)) rfl)
  have main : ∀ j (hj : j < l.length),kid lt l pos = j→lt (l[k]'hk) (l[j]'hj) = false := by
   intro j hj ej
   rw [e] at ej; subst ej
   have : k = 2 * pos + 1 := by lia
   subst this; exact irr _
  exact main _ (kid_lt h) rfl
theorem sup_ok (ok : LtOk lt) (x : α) : ∀ (n : Nat) (pos : Nat) (l : List α),l.length - pos≤n→pos < l.length→Hole lt l pos →
  (sup lt pos l).2.length = l.length∧(sup lt pos l).1 < l.length∧Hole lt (sup lt pos l).2 (sup lt pos l).1∧¬ (2 * (sup lt pos l).1 + 1 < l.length)∧((sup lt pos l).2.set (sup lt pos l).1 x).Perm (l.set pos x) := by
 intro n
 induction n with
 | zero => intro pos l h1 h2; grind
 | succ n ih =>
  intro pos l hn hp H
  by_cases h : 2 * pos + 1 < l.length
  ·have hk := kid_lt (lt := lt) h
   have hge := kid_le lt l pos
   have e : sup lt pos l = sup lt (kid lt l pos) (l.set pos (l[kid lt l pos]'hk)) := by
    conv => lhs; rw [sup_eq]
    refine rE (dif_pos h) (rE (List.getElem?_eq_getElem hk) rfl)
   have hpk : par (kid lt l pos) = pos := kid_par
   have H' : Hole lt (l.set pos (l[kid lt l pos]'hk)) (kid lt l pos) := by
    refine ⟨fun k h0 hk0 h1 h2 => ?_,fun k h0 hk0 h1 h2 h3 => ?_⟩
    ·have hk' : k < l.length := by simpa using hk0
     refine rE (getElem_set' ..) (rE (getElem_set' ..) ?_)
     by_cases e1 : pos = k
     ·subst e1
      refine rE (if_pos rfl) (rE (if_neg (by have := par_lt h0; exact Nat.ne_of_lt' this)) ?_)
      exact H.over _ (by exact Nat.zero_lt_of_lt hge) hk h0 hp hpk
     ·refine rE (if_neg e1) ?_
      by_cases e2 : pos = par k
      ·refine rE (if_pos e2) ?_; exact kid_least ok h k h0 hk' e2.symm
      ·refine rE (if_neg e2) ?_; exact H.rest k h0 hk' (Ne.symm e1) (Ne.symm e2)
    ·have hk' : k < l.length := by simpa using hk0
     have hkp := par_lt h0
     refine rE (getElem_set' ..) (rE (getElem_set' ..) (rE (if_neg (by (clear hn hp h e h0 hk0 h2 hk'; lia))) (rE (if_pos (by rw [hpk])) ?_)))
     have a := H.rest k h0 hk' (by (clear hn hp h e h0 hk0 h2 hk'; lia)) (by (clear hn hp h e h0 hk0 h1 h2 hk' hkp; lia))
     have : ∀ j (hj : j < l.length),par k = j→lt (l[k]'hk') (l[j]'hj) = false := by intro j hj ej; subst ej; exact a
     exact this _ hk h3
   refine eAAAA (ih (kid lt l pos) (l.set pos (l[kid lt l pos]'hk)) (by rw [List.length_set]; grind) (by rw [List.length_set]; exact hk) H') fun a1 a2 a3 a4 a5 => ?_
   refine rE e ?_
   rw [List.length_set] at a1 a2 a4
   exact ⟨a1,a2,a3,a4,a5.trans (set_swap_perm hp hk x)⟩
  ·have e : sup lt pos l = (pos,l) := by refine rE (sup_eq ..) (rE (dif_neg h) rfl)
   refine rE e ?_
   exact ⟨rfl,hp,H,h,.refl _⟩
noncomputable def popped (x : α) (l : List α) : List α := sdown lt x (sup lt 0 (l.set 0 x)).1 ((sup lt 0 (l.set 0 x)).2.set (sup lt 0 (l.set 0 x)).1 x)
theorem pop_ok (ok : LtOk lt) {a x : α} {l : List α} (H : IsHeap lt (a :: l ++ [x])) : IsHeap lt (popped (lt := lt) x (a :: l))∧(popped (lt := lt) x (a :: l)).Perm (x :: l) := by
 have H0 : Hole lt ((a :: l).set 0 x) 0 := by
  refine ⟨fun k h0 hk h1 h2 => ?_,fun k h0 hk hp _ _ => absurd hp (by exact Nat.not_lt_zero 0)⟩
  have hk' : k < (a :: l).length := by simpa using hk
  refine rE (getElem_set' ..) (rE (getElem_set' ..) (rE (if_neg (by exact Nat.ne_of_lt h0)) (rE (if_neg (by exact PySem.W.neN (id (Ne.symm h2)))) ?_)))
  have := H k h0 (by simp at hk' ⊢; exact Nat.lt_add_right 1 hk)
  rw [List.getElem_append_left hk',List.getElem_append_left (Nat.lt_trans (par_lt h0) hk')] at this
  exact this
 refine eAAAA (sup_ok ok x (a :: l).length 0 ((a :: l).set 0 x) (by simp) (by simp) H0) fun a1 a2 a3 a4 a5 => ?_
 unfold popped
 generalize hs : sup lt 0 ((a :: l).set 0 x) = r at *
 obtain ⟨p,l'⟩ := r
 dsimp only at *
 have hlen : l'.length = (a :: l).length := by simpa using a1
 have hp : p < l'.length := by refine rE a1 ?_; exact a2
 constructor
 ·refine sdown_heap ok x p _ (by refine rE List.length_set ?_; exact hp) ⟨fun k h0 hk h1 h2 => ?_,fun k h0 hk hp0 hpl h1 => ?_⟩ fun k h0 hk h1 => ?_
  ·have hk' : k < l'.length := by simpa using hk
   refine rE (getElem_set' ..) (rE (getElem_set' ..) (rE (if_neg (Ne.symm h1)) (rE (if_neg (Ne.symm h2)) ?_)))
   exact a3.rest k h0 hk' h1 h2
  ·exfalso; have hk' : k < l'.length := by simpa using hk
   unfold par at h1; (clear hs a2 hp hk hp0 hpl; grind)
  ·exfalso; have hk' : k < l'.length := by simpa using hk
   unfold par at h1; omega
 ·refine (sdown_perm x p _ (by refine rE List.length_set ?_; exact hp)).trans ?_
  refine rE (List.set_set ..) ?_
  refine a5.trans ?_
  refine rE (List.set_set ..) ?_; exact .refl _
theorem heap_root (ok : LtOk lt) {a : α} {l : List α} (H : IsHeap lt (a :: l)) : ∀ y ∈ a :: l,lt y a = false := by
 have main : ∀ k (hk : k < (a :: l).length),lt ((a :: l)[k]'hk) a = false := by
  intro k
  induction k using Nat.strongRecOn with
  | _ k ih =>
   intro hk
   by_cases h0 : 0 < k
   ·have hp := par_lt h0
    exact ok.ntrans _ _ _ (H k h0 hk) (ih _ hp (Nat.lt_trans hp hk))
   ·have : k = 0 := by lia
    subst this
    cases e : lt a a with
    | false => exact e
    | true => rw [ok.asymm a a e] at e; cases e
 intro y hy
 obtain ⟨k,hk,rfl⟩ := List.getElem_of_mem hy
 exact main k hk
end
noncomputable def plt (p q : Int × Int) : Bool := decide (p.1 < q.1∨(p.1 = q.1∧p.2 < q.2))
theorem plt_ok : LtOk plt where
 asymm := fun a b h => by unfold plt at *; simp at *; lia
 ntrans := fun a b c h1 h2 => by unfold plt at *; simp at *; grind
end
end Mine
end
section
open PySem PySem.W PyProof.Rows
set_option maxRecDepth 100000
set_option maxHeartbeats 0
namespace Mine
theorem left_of_run {p q : Program} {loose : List Str} {Xt : Shared→Bool} {α : Type} {Yf : Shared→α} {Ya : World→α} {N : Nat} {g0 : Bool} {H₀ : Params→Heap} {gs₀ : Array GenState} {d₀ : Drawn} {k₀ : Nat} {m₀ : Nat} {ann : Option Value}
  (open_ : ∀ w : World,(fencedOpening treeTable p w N).map (fun s => (s.heap,s.gens,s.drawn,s.toks)) = some (H₀ w.params,gs₀,d₀,k₀))
  (size : ∀ w : World,((H₀ w.params).isNs mainGlobals && gs₀.size == 0,(H₀ w.params).objs.size,(H₀ w.params).nsMap mainGlobals "__annotations__") = (true,m₀,ann))
  (run : ∀ (w : World) (os : OsState),(topRun treeTable p w m₀ ann N ⟨H₀ w.params,gs₀,d₀,k₀,os⟩ (topStub p)).map (fun s₁ => (staticsOk (importedModules p.main.body) (H₀ w.params) s₁.heap && namesBound p s₁.heap && gensDone s₁ && laidKept (H₀ w.params) s₁.heap,
    openSeen q loose (importedModules p.main.body) Xt g0 s₁,Yf s₁)) = some (true,openGood q loose,Ya w)) : LeftO p q loose Xt Yf Ya N g0 := fun w => by
 refine eEA (Option.map_eq_some_iff.mp (open_ w)) fun zz0 e e' => ?_; obtain ⟨h,gs,d,k,os⟩ := zz0
 obtain ⟨rfl,rfl,rfl,rfl⟩ : h = H₀ w.params∧gs = gs₀∧d = d₀∧k = k₀ := by simpa using e'
 obtain ⟨z1,z2,z3⟩ : _∧_∧_ := by simpa only [Prod.mk.injEq] using size w
 refine eEA (Option.map_eq_some_iff.mp (run w os)) fun s₁ r l => ?_
 obtain ⟨l1,l2,l3⟩ : _∧_∧_ := by simpa only [Prod.mk.injEq] using l
 have t : topFrom treeTable p w N ⟨H₀ w.params,gs,d,k,os⟩ = some s₁ := by
  unfold topFrom
  dsimp only
  refine rE z1 (rE z2 (rE z3 (rE r ?_)))
  show (match staticsOk (importedModules p.main.body) (H₀ w.params) s₁.heap && namesBound p s₁.heap && gensDone s₁ && laidKept (H₀ w.params) s₁.heap with | true => _ | false => _) = _
  refine rE l1 rfl
 unfold openEnds
 refine rE e ?_
 show (topFrom treeTable p w N _).map _ = _
 refine rE t ?_
 exact congrArg some (Prod.ext l2 l3)
theorem boot_size : ∀ w : World,((boot_heap w.params).isNs mainGlobals && (Array.mk [] : Array GenState).size == 0,(boot_heap w.params).objs.size,(boot_heap w.params).nsMap mainGlobals "__annotations__") = (true,11,some (.ref 6)) := by
 intro w; kernel_rfl
noncomputable abbrev pw : Program := PySem.Challenge.pw_dn0048_06
noncomputable def view : Program := { pw with main := { pw.main with body := pw.main.body.drop 24 } }
noncomputable abbrev looseN : List Str := ["_wall", "_initial_missing", "reduce", "insort_right", "bisect_right", "_NODE_OUT", "_NODE_DONE", "_NodeInfo", "CycleError", "TopologicalSorter", "heappush", "heappop", "_siftdown", "_siftup", "_law_wishes", "_law_joined", "_law_moved", "_law_told", "_law_least"].map Str.ofString
theorem booted : ∀ w : World,(fencedOpening treeTable pw w 3168).map (fun s => (s.heap,s.gens,s.drawn,s.toks)) = some (boot_heap w.params,Array.mk [],boot_drawn,boot_toks) :=
 boot_open (p := pw) (N := 3168) (by kernel_rfl) (by decide) (by intro s; kernel_rfl)
theorem said_ : PySem.Challenge.rw_dn0048_06.wellSaid = true := (congrFun PySem.W.Fast.te9446332074065402090 _).trans (by kernel_rfl)
theorem head_and {r : OpenRow} {L W : Prop} (h : L→W→r.Holds) (x : L∧W) : r.Holds := h x.1 x.2
local macro_rules
 | `(tactic| o_law) => `(tactic| refine holds_law Mine.said_ fun said => ?_)
local macro_rules
 | `(tactic| o_head $H) => do
  let hl := Lean.mkIdent `hl
  let hw := Lean.mkIdent `hw
  let hc := Lean.mkIdent `hc
  `(tactic| (refine head_and (fun $hl $hc => holds_open (q := Mine.view) (loose := Mine.looseN) (Xt := fun s => xlAt Mine.view [] s && recOk (RowW.records (OpenRow.toRowW PySem.Challenge.rw_dn0048_06.row)) s) (XP := XL Mine.view []) (Yf := Hook.obs $H) (Ya := Hook.val $H) (YP := Hook.says $H) (N := 3168) $hl:ident (Hook.of $H) (Hook.keeps $H) (fun s e => xl_of s (Bool.and_eq_true_iff.mp e).1) XL.keeps (by rfl) (by rfl) (by rfl) (fun s e => recFacts_of (Bool.and_eq_true_iff.mp e).2) (by rfl) (PySem.W.row_said Mine.said_) (by decide +kernel) ⟨rfl,rfl,rfl,rfl,rfl,by decide +kernel⟩ ?$hw:ident $hc:ident) ?$hc:ident))
open_top hd06 for PySem.Challenge.rw_dn0048_06
end Mine
end
section
open PySem PySem.Calls PySem.W PyProof.Rows
set_option maxRecDepth 100000
namespace Mine
noncomputable section
section
variable {C : Cx} {A : Around} {m : Loc} {H : CH} {s : Shared} {K : Frag} {mg mb : Str→Option Value} {Q : V→Loc→CH→Prop} {cls : String} {R : Loc→CH→Prop}
inductive PX (C : Cx) (H : CH) (s : Shared) (cls : String) (R : CH→Prop) (ev : Value) (s' : Shared) : Prop
 | mk (e : Addr) (oe : Obj) (vs : Array Value) (x : Value) (H' : CH) (h1 : ev = .ref e) (h2 : s'.heap.get? e = some oe) (h3 : oe.cls = .type cls) (h4 : oe.data = .fields vs) (h5 : vs[1]? = some x) (h5c : vs[2]? = some .none) (ht : Trc C H' s.heap s'.heap e x) (h6 : ¬ Imm oe) (h7 : s.heap.get? e = none) (h8 : H' e = none) (h9 : C.h₀.get? e = none) (hS : HS C H' s') (ha : AfterC H s H' s') (q : R H') : PX C H s cls R ev s'
noncomputable def RX (C : Cx) (H : CH) (s : Shared) (cls : String) (R : CH→Prop) (r : Result) (s' : Shared) : Prop := match r with
 | .error ev => PX C H s cls R ev s'
 | .ok _ => False
noncomputable def CALLX (C : Cx) (A : Around) (f : V) (vs : List V) (H : CH) (cls : String) (R : CH→Prop) : Prop := ∀ s rf rs,HS C H s→Frs C H s→VR s.heap f rf→VRs s.heap vs rs→codeAny (model C.prog C.w) A (.call rf ⟨rs,[]⟩) (RX C H s cls R) s
end
end
end Mine
end
section
open PySem PySem.Calls PySem.W PyProof.Rows
set_option maxRecDepth 100000
namespace Mine
noncomputable section
section
variable {C : Cx} {A : Around} {m : Loc} {H : CH} {s : Shared} {K : Frag} {mg mb : Str→Option Value} {Q : V→Loc→CH→Prop}
noncomputable def pickL {α : Type} (xs : List α) (lo hi st : Option Int) : List α := (sliceRange (sliceBounds lo hi st xs.length).1 (sliceBounds lo hi st xs.length).2.1 (sliceBounds lo hi st xs.length).2.2).filterMap (xs[·]?)
theorem VRs.at_iff {h : Heap} {xs : List V} {rs : List Value} (r : VRs h xs rs) (i : Nat) : (xs[i]? = none∧rs[i]? = none)∨∃ x y,xs[i]? = some x∧rs[i]? = some y∧VR h x y := by
 cases e : xs[i]? with
 | none =>
  left
  have := List.getElem?_eq_none_iff.mp e
  exact ⟨rfl,List.getElem?_eq_none (by have := r.length; lia)⟩
 | some x => refine eEA (r.get e) fun y h1 h2 => ?_; exact .inr ⟨x,y,rfl,h1,h2⟩
theorem VRs.of_get {h : Heap} : ∀ {xs : List V} {rs : List Value},xs.length = rs.length→(∀ (j : Nat) (x : V),xs[j]? = some x→∃ y,rs[j]? = some y∧VR h x y)→VRs h xs rs
 | [],[],_,_ => .nil
 | x :: xs,y :: ys,hl,hg => by
  refine eEA (hg 0 x rfl) fun y' h1 h2 => ?_
  cases h1
  exact .cons h2 (VRs.of_get (by exact Nat.add_right_cancel hl) fun j x hx => hg (j + 1) x hx)
 | [],_ :: _,hl,_ => by simp at hl
 | _ :: _,[],hl,_ => by simp at hl
theorem VRs.picks {h : Heap} {xs : List V} {rs : List Value} (r : VRs h xs rs) : ∀ idx : List Nat,VRs h (idx.filterMap (xs[·]?)) (idx.filterMap (rs[·]?))
 | [] => .nil
 | i :: idx => by
  rcases r.at_iff i with ⟨h1,h2⟩ | ⟨x,y,h1,h2,h3⟩
  ·refine rE (List.filterMap_cons_none h1) (rE (List.filterMap_cons_none h2) ?_); exact r.picks idx
  ·refine rE (List.filterMap_cons_some h1) (rE (List.filterMap_cons_some h2) ?_); exact .cons h3 (r.picks idx)
theorem VRs.pick {h : Heap} {xs : List V} {items : Array Value} (r : VRs h xs items.toList) (hz : items.size = xs.length) (lo hi st : Option Int) : VRs h (pickL xs lo hi st) (slicePick items lo hi st).toList := by
 unfold pickL slicePick
 refine rE hz ?_
 have := r.picks (sliceRange (sliceBounds lo hi st xs.length).1 (sliceBounds lo hi st xs.length).2.1 (sliceBounds lo hi st xs.length).2.2)
 simpa using this
theorem pickL_map {α β : Type} (f : α→β) (xs : List α) (lo hi st : Option Int) : pickL (xs.map f) lo hi st = (pickL xs lo hi st).map f := by
 unfold pickL
 refine rE (List.length_map ..) (rE List.map_filterMap ?_)
 congr 1
 funext i
 refine rE List.getElem?_map rfl
theorem slice_end {l : Addr} {xs : List V} {vl vu vs : Value} {lo hi st : Option Int} (S : St C m H s) (hl : LAt C H l xs) (hsz : xs.length≤sizeLine) (pl : IsPart vl lo) (pu : IsPart vu hi) (ps : IsPart vs st) (h0 : st≠some 0)
  (h : ∀ a,H a = none→Q (.ref a) m (H.set a (.list (pickL xs lo hi st)))) :
  wpAny (model C.prog C.w) A (getItem (.ref l) (.ref s.heap.objs.size)) (PV C H s Q) NoE { s with heap := s.heap.push { cls := .type "slice",data := .fields #[vl,vu,vs] } } := by
 obtain ⟨items,n,hI,hvs,hz⟩ := S.toHS.list hl
 refine wpAny_getItem_list_slice (hI.isList.push _) (Heap.IsSliceOf.new ..) pl pu ps h0 ?_ (by refine rE hz ?_; exact hsz)
 have S1 : St C m H { s with heap := s.heap.push { cls := .type "slice",data := .fields #[vl,vu,vs] } } := S.more (tk := s.toks) (keep_push _ _)
 have k1 := keep_push s.heap { cls := .type "slice",data := .fields #[vl,vu,vs] }
 exact ⟨_,m,_,.ref,S1.alloc (tk := s.toks) (c := .list (pickL xs lo hi st)) ⟨_,0,rfl,(hvs.pick hz lo hi st).keep (.of_keep k1)⟩,(After.more (tk := s.toks) k1).then S1 (.alloc (tk := s.toks)),h _ S1.toHS.fresh⟩
theorem EV_slice {value lower : PySem.Expr} {p pos : Pos} (h : EV C A value m H fun o m₁ H₁ => EV C A lower m₁ H₁ fun i m₂ H₂ => ∃ l xs k,o = .ref l∧i = .int k∧LAt C H₂ l xs∧xs.length≤sizeLine∧∀ a,H₂ a = none→Q (.ref a) m₂ (H₂.set a (.list (pickL xs (some k) none none)))) : EV C A (.Subscript value (.Slice (some lower) none none p) pos) m H Q := fun s S => by
 refine Subscript_ (wpAny_mono (h s S) ?_ fun _ _ x => x)
 rintro a s₁ ⟨v,m₁,H₁,ra,S₁,af₁,h₁⟩
 refine wpAny_Slice (wpAny_mono (h₁ s₁ S₁) ?_ fun _ _ x => x)
 rintro b s₂ ⟨i,m₂,H₂,rb,S₂,af₂,l,xs,k,rfl,rfl,hl,hsz,hq⟩
 refine rE (evalPart_none ..) ?_
 refine wpAny_pure (wpAny_pure ?_)
 refine rE ra.ref_inv ?_
 refine eE rb.int_inv fun t zz1 => ?_; subst zz1
 obtain ⟨items,n,hI,hvs,hz⟩ := S₂.toHS.list hl
 exact tail_any (ops := [.ref s₂.heap.objs.size,.ref l]) (hI.isList.push _).typeIs list_getitem_lookup (wpAny_mono (slice_end S₂ hl hsz (.int k t) .none .none (by exact Ne.symm (Option.some_ne_none 0)) hq) (fun _ _ x => x.mono S₂ (af₁.then S₁ af₂)) fun _ _ x => x) rfl
theorem ints_all {h : Heap} : ∀ {ns : List Int} {rs : List Value},VRs h (ns.map .int) rs→IntsAre rs ns
 | [],rs,r => by have := r.nil_inv; subst this; exact .nil
 | n :: ns,rs,r => by
  refine eEEAA r.cons_inv fun y ys zz2 a b => ?_; subst zz2
  refine eE a.int_inv fun t zz1 => ?_; subst zz1
  exact .cons n t (ints_all b)
structure Iters (C : Cx) (A : Around) (v : V) (H : CH) (c : CObj) (xs : List V) (ok : CH→Prop) : Prop where
 make : ∀ {m : Loc} {Q : V→Loc→CH→Prop},(∀ I,H I = none→C.h₀.get? I = none→Q (.ref I) m (H.set I c))→CV C A (.con (.builtin "iter")) [v] [] m H Q
 loop : ∀ I,H I = none→∃ ob nx,Prot C A I ob nx∧(∀ H s i o,HS C H s→H I = none→s.heap.get? I = some o→ob i s.heap o→nx H i = some none→wpAny (model C.prog C.w) A (pyNext (.ref I)) (fun r s' => DoneR I s r s'∧∃ o',s'.heap.get? I = some o') NoE s) ∧
  (∀ s,HS C (H.set I c) s→∃ o,s.heap.get? I = some o∧ob 0 s.heap o)∧∀ H' i,ok H'→nx H' i = some xs[i]?
set_option tactic.hygienic true in
theorem iters_list {l : Addr} {xs : List V} (hA : A.handled = none) (hl : H l = some (.list xs)) : Iters C A (.ref l) H (.liter l 0) xs (fun H' => H' l = some (.list xs)) where
 make := fun h => CV_iter (.own hl) h
 loop := fun I hI => by
  have nxl : ∀ H i x,nxList l H i = some x→∃ xs,LAt C H l xs∧x = xs[i]? := fun H i x e => by
   unfold nxList at e
   split at e
   ·rename_i xs hx; cases e; exact ⟨xs,.own hx,rfl⟩
   ·cases e
  refine ⟨_,_,prot_list (C := C) (A := A) (I := I) (l := l) (nx := nxList l) hA (ne_at hl hI) nxl,fun H s i o S _ ho hob hn => ?_,fun s S => ⟨_,S.liter CH.set_same,rfl,rfl⟩,fun H' i ok => by unfold nxList; refine rE ok rfl⟩
  refine eEA (nxl H i _ hn) fun ys hl' hv => ?_
  obtain ⟨items,n,hL,hvs,hz⟩ := S.list hl'
  have : items[i]? = none := by
   have : ys.length≤i := List.getElem?_eq_none_iff.mp hv.symm
   exact Array.getElem?_eq_none (by lia)
  exact pyNext_end hA ⟨o,ho,hob.1,hob.2⟩ hL.isList this fun h' o' he ho' => ⟨⟨h',s.toks,rfl,rfl,he⟩,o',ho'⟩
noncomputable abbrev rngIt (a n c : Int) : Obj := { cls := .type "range_iterator",data := .fields #[rawInt a,rawInt n,rawInt c] }
theorem ES_for_iters {target : PySem.Expr} {x : Str} {px : Pos} {body orelse : List Stmt} {p : Pos} {Q : Fl→Loc→CH→Prop} {I : Addr} {v : V} {c : CObj} {xs : List V} {ok : CH→Prop} (it : Iters C A v H c xs ok) (hI : H I = none) (hm : m.lookup x = some (.ref I)) (m₂ : Loc) (J : Nat→Loc→CH→Prop) (hsub : Sub m₂ m) (h0 : J 0 m₂ H)
  (turn : ∀ i m H,J i m H→ok H∧(∀ x,xs[i]? = some x→ASG C A target x m H fun m' H' => EX C A body m' H' (Turn Q (NextJ J (i + 1))))∧(i = xs.length→EX C A orelse m H Q))
  (hs : autoParam (∀ y,foldedSetIterable (.Name x px) C.env y = pure y) Mine.syn2)
  (hk : autoParam (C.env.scope.kind = .function) Mine.syn1) (hl : autoParam (C.env.kindOf x = some .local) Mine.syn1) (hd : autoParam ((x == ("__debug__" : Str)) = false) Mine.syn4) : ES C A (.For target (.Name x px) body orelse p) m (H.set I c) Q := by
 obtain ⟨ob,nx,P,done,h1,h2⟩ := it.loop I hI
 have e0 : (H.set I c).del I = H := by
  funext b; unfold CH.del CH.set; split
  ·subst b; exact hI.symm
  ·rfl
 refine ES_for_own (N := xs.length) P done hm CH.set_same h1 m₂ (fun i m H => J i m H∧i≤xs.length) hsub ⟨by refine rE e0 ?_; exact h0,Nat.zero_le _⟩ (fun i m H ⟨hj,hi⟩ => ⟨hi,?_⟩) hs hk hl hd
 refine eAA (turn i m H hj) fun t1 t2 t3 => ?_
 rcases Nat.lt_or_ge i xs.length with hlt | hge
 ·have hx : xs[i]? = some xs[i] := List.getElem?_eq_getElem hlt
  refine .inl ⟨xs[i],(h2 H i t1).trans (by refine rE hx rfl),fun s r S hr => wpAny_mono (t2 _ hx s r S hr) (fun _ s' ⟨m',H',S',af',q⟩ => ⟨m',H',S',af',q.mono fun fl m₂ H₂ hq => ?_⟩) fun _ _ x => x⟩
  cases fl with
  | next => obtain ⟨m₃,a,b⟩ := hq; exact ⟨m₃,a,b,hlt⟩
  | cont => obtain ⟨m₃,a,b⟩ := hq; exact ⟨m₃,a,b,hlt⟩
  | brk => exact hq
  | ret v => exact hq
 ·exact .inr ⟨(h2 H i t1).trans (by refine rE (List.getElem?_eq_none hge) rfl),t3 (by exact Nat.le_antisymm hi hge)⟩
theorem CV_list_rng {n : Nat} (hA : A.handled = none) (hn : n < 2 ^ 20) (h : ∀ a,H a = none→C.h₀.get? a = none→Q (.ref a) m (H.set a (.list (rangeInts 0 1 n)))) : CV C A (.con (.type "list")) [.rng 0 n 1] [] m H Q := fun s rf rs rkw S hf hva hk => by
 have := hk.nil_inv; subst this
 refine rE hf.con_inv ?_
 refine eEA (one_inv hva) fun x zz1 hx => ?_; subst zz1
 obtain ⟨z,t,u,w,rfl,ho⟩ := hx.rng_inv
 have e : Builtin.Range.rangeSize 0 n 1 = n := by refine rE (rangeSize_one ..) ?_; split <;> lia
 refine call_list_range hA ho (small_one (by exact Int.neg_ofNat_le_ofNat (2 ^ 62) 0) (by exact PySem.W.kbt_pos 62) (by exact Int.neg_ofNat_le_natCast (2 ^ 62) n) (by lia)) e (by lia) fun h' tk acc c hkp hD hit => ?_
 have hn0 : s.heap.get? s.heap.objs.size = none := size_none
 have S2 : St C m H { s with heap := h',toks := tk } := S.more (tk := tk) hkp
 have hr : VRs h' (rangeInts 0 1 n) acc.toList := by
  refine VRs.of_get (by refine rE (show (rangeInts 0 1 n).length = n from by unfold rangeInts; simp) (rE Array.length_toList (rE hit.1 rfl))) fun j x hx => ?_
  rw [rangeInts_get] at hx
  by_cases hj : j < n
  ·rw [if_pos hj] at hx; cases hx
   have hja : j < acc.size := by refine rE hit.1 ?_; exact hj
   have hv : acc[j]? = some acc[j] := Array.getElem?_eq_getElem hja
   obtain ⟨tk',e'⟩ := hit.2 j _ hv
   exact ⟨acc[j],by exact (List.getElem_eq_iff hja).mp rfl,by refine rE e' ?_; exact .int⟩
  ·exact (no1 (if_neg hj) hx).elim
 have S3 := S2.toHS.adopt (c := .list (rangeInts 0 1 n)) S.freshb hD ⟨acc,c,rfl,hr⟩
 have a3 : AfterC H s (H.set s.heap.objs.size (.list (rangeInts 0 1 n))) { s with heap := h',toks := tk } := (AfterC.more (tk := tk) hkp).adopt hn0
 exact ⟨_,m,_,.ref,S.called S3 a3,a3.after,h _ S.fresh S.freshb⟩
end
end
end Mine
end
section
open PySem PySem.Calls PySem.W PyProof.Rows
set_option maxRecDepth 100000
namespace Mine
noncomputable section
noncomputable def allBut (h : Heap) (L : Addr) : List (Addr × Obj) := (List.range h.objs.size).filterMap fun b => if b = L then none else (h.get? b).map fun o => (b,o)
noncomputable abbrev noHeap : Heap := { objs := #[] }
section
variable {C : Cx} {A : Around} {m : Loc} {H : CH} {s : Shared} {K : Frag} {mg mb : Str→Option Value} {Q : V→Loc→CH→Prop}
end
end
end Mine
end
section
open PySem PySem.Calls PySem.W PyProof.Rows
set_option maxRecDepth 100000
namespace Mine
noncomputable section
noncomputable def Kept (H H' : CH) : Prop := ∀ b,H b≠none→H' b = H b
theorem Kept.refl {H : CH} : Kept H H := fun _ _ => rfl
theorem Kept.new {H H' : CH} {b : Addr} {c : CObj} (k : Kept H H') (h : H' b = none) : Kept H (H'.set b c) := fun x hx => by
 refine rE (CH.set_ne fun e => hx (by rw [← k x hx,e]; exact h)) ?_; exact k x hx
theorem Kept.trans {H₁ H₂ H₃ : CH} (a : Kept H₁ H₂) (b : Kept H₂ H₃) : Kept H₁ H₃ := fun x hx => (b x (by refine rE (a x hx) ?_; exact hx)).trans (a x hx)
theorem Kept.at {H H' : CH} (k : Kept H H') {b : Addr} {c : CObj} (h : H b = some c) : H' b = some c := (k b (by refine rE h ?_; exact fun e => nomatch e)).trans h
theorem Kept.none {H H' : CH} (k : Kept H H') {b : Addr} (h : H' b = none) : H b = none := by
 cases q : H b with
 | none => rfl
 | some c => rw [k.at q] at h; cases h
structure NewOs (H : CH) (P : Nat→CObj→Prop) (bs : List Addr) (H' : CH) : Prop where
 nd : bs.Nodup
 at_ : ∀ i b,bs[i]? = some b→H b = none∧∃ c,H' b = some c∧P i c
 keep : Kept H H'
theorem NewOs.nil {H : CH} {P : Nat→CObj→Prop} : NewOs H P [] H := ⟨.nil,(fun i b h => by cases h),Kept.refl⟩
theorem NewOs.snoc {H H' : CH} {P : Nat→CObj→Prop} {bs : List Addr} {b : Addr} {c : CObj} (h : NewOs H P bs H') (hb : H' b = none) (hP : P bs.length c) : NewOs H P (bs ++ [b]) (H'.set b c) := by
 have hbb : ∀ x ∈ bs,x≠b := fun x hx e => by
  refine eE (List.mem_iff_getElem?.mp hx) fun i hi => ?_
  obtain ⟨_,c,h1,_⟩ := h.at_ i x hi
  rw [e,hb] at h1; cases h1
 refine ⟨List.nodup_append.mpr ⟨h.nd,by simp,fun x hx y hy => by refine rE (List.mem_singleton.mp hy) ?_; exact hbb x hx⟩,fun i x hx => ?_,h.keep.new hb⟩
 by_cases hi : i < bs.length
 ·rw [List.getElem?_append_left hi] at hx
  obtain ⟨h1,c,h2,h3⟩ := h.at_ i x hx
  exact ⟨h1,c,by refine rE (CH.set_ne (hbb x (List.mem_of_getElem? hx))) ?_; exact h2,h3⟩
 ·rw [List.getElem?_append_right (Nat.le_of_not_lt hi)] at hx
  have h0 : i - bs.length = 0 := by
   have := (List.getElem?_eq_some_iff.mp hx).1
   simp at this; omega
  rw [h0] at hx; cases hx
  refine rE (show i = bs.length by grind) ?_
  exact ⟨h.keep.none hb,c,CH.set_same,hP⟩
section
variable {C : Cx} {A : Around} {m : Loc} {H : CH} {s : Shared}
theorem LC_objs {elt target : PySem.Expr} {scope : Scope} {cl : List (Str × Addr)} {v : V} {R : V→CH→Prop} {ok : CH→Prop} (xs : List V) (P : Nat→CObj→Prop) (hs : SeqOf C A v H xs ok) (hok : ∀ H',Kept H H'→ok H') (hsz : xs.length≤sizeLine)
  (turn : ∀ i x,xs[i]? = some x→∀ L H₁,Kept H H₁→ASG (C.comp scope cl L) A target x [] H₁ fun m₂ H₂ => H₂ = H₁∧EV (C.comp scope cl L) A elt m₂ H₂ fun y m₃ H₃ => ∃ b c,H₁ b = none∧y = .ref b∧H₃ = H₁.set b c∧P i c)
  (fin : ∀ (D : Addr) (bs : List Addr) (H' : CH),bs.length = xs.length→NewOs H P bs H'→H' D = none→C.h₀.get? D = none→R (.ref D) (H'.set D (.list (bs.map .ref)))) : LC C A elt target [] scope cl v H R := by
 refine .of xs ok (fun i ys H' => i≤xs.length∧∃ bs : List Addr,ys = bs.map .ref∧bs.length = i∧NewOs H P bs H') hs ⟨?_⟩ ⟨Nat.zero_le _,[],rfl,rfl,.nil⟩ ?_
 ·rintro i ys H' ⟨hi,bs,rfl,hl,hN⟩
  refine ⟨hok H' hN.keep,?_,fun x hx L hL => ?_⟩
  ·refine rE (List.length_map ..) (rE hl ?_); exact Nat.le_trans hi hsz
  ·have hil : i < xs.length := (List.getElem?_eq_some_iff.mp hx).1
   intro s r S hr
   refine wpAny_mono (turn i x hx L H' hN.keep s r S hr) (fun _ s' ⟨m₂,H₂,S₂,af₂,h₂⟩ => ⟨m₂,H₂,S₂,af₂,?_⟩) fun _ _ x => x
   refine eA h₂ fun zz0 hel => ?_; clear h₂; subst zz0
   refine (show true = true→_ from fun _ => ?_) |> fun h => ⟨h,fun h => (by cases h)⟩
   refine hel.mono ?_
   rintro y m₃ H₃ ⟨b,c,hbn,rfl,rfl,hP⟩
   subst hl
   exact ⟨hil,bs ++ [b],by simp,by simp,hN.snoc hbn hP⟩
 ·rintro ys H' D ⟨_,bs,rfl,hl,hN⟩ hD hD0
  exact fin D bs H' hl hN hD hD0
end
end
end Mine
end
section
open PySem PySem.Calls PySem.W PyProof.Rows
set_option maxRecDepth 100000
namespace Mine
noncomputable section
noncomputable abbrev intN (x : Nat) : V := .int x
theorem szR {f : Nat→V} {M : Nat} (h : M≤2 ^ 10) : ((List.range M).map f).length≤sizeLine := by
 refine rE (List.length_map ..) (rE List.length_range ?_); exact Nat.le_trans h (by decide)
theorem szM {α : Type} {f : α→V} {l : List α} (h : l.length≤2 ^ 10) : (l.map f).length≤sizeLine := by
 refine rE (List.length_map ..) ?_; exact Nat.le_trans h (by decide)
theorem ltR {f : Nat→V} {M j : Nat} (h : j < M) : ((j : Nat) : Int) < ((List.range M).map f).length := by
 refine rE (List.length_map ..) (rE List.length_range ?_); exact Int.ofNat_lt.mpr h
theorem ne_out {H : CH} {b c : Addr} (hb : H b≠none) (hc : H c = none) : b≠c := fun e => hb (by refine rE e ?_; exact hc)
theorem sn {H : CH} {a : Addr} {c : CObj} (h : H a = some c) : H a≠none := by refine rE h ?_; exact fun e => nomatch e
theorem at_ne {H : CH} {a b : Addr} {c : CObj} {x : Option CObj} (hn : b≠a) (h : H b = x) : H.set a c b = x := (CH.set_ne hn).trans h
theorem at_new {M : CH} {x y : Addr} {c d : CObj} (h : M x = none) (e : M y = some d) : (M.set x c) y = some d := at_ne (ne_at e h) e
theorem mapN_get {f : Nat→V} {N j : Nat} (h : j < N) : ((List.range N).map f)[((j : Nat) : Int).toNat]? = some (f j) := by
 refine rE (Int.toNat_natCast ..) (rE List.getElem?_map (rE (List.getElem?_range h) ?_)); rfl
theorem mapA_get {α : Type} {f : α→V} {l : List α} {j : Nat} {x : α} (h : l[j]? = some x) : (l.map f)[((j : Nat) : Int).toNat]? = some (f x) := by
 refine rE (Int.toNat_natCast ..) (rE List.getElem?_map (rE h ?_)); rfl
theorem seqN {C : Cx} {A : Around} {H : CH} {n : Nat} (hA : A.handled = none) (hn : n < 2 ^ 62) : SeqOf C A (.rng 0 n 1) H ((List.range n).map intN) (fun _ => True) := by
 have := seq_rng1 (C := C) (A := A) (H := H) (n := n) hA hn
 have e : rangeInts 0 1 n = (List.range n).map intN := List.map_congr_left fun i _ => by
  show V.int _ = V.int _
  congr 1; lia
 rw [e] at this; exact this
section
variable {C : Cx} {A : Around} {m : Loc} {H : CH} {s : Shared}
theorem CV_lenM {α : Type} {l : Addr} {f : α→V} {xs : List α} {Q : V→Loc→CH→Prop} (hl : LAt C H l (xs.map f)) (hsz : (xs.map f).length≤sizeLine) (h : Q (.int xs.length) m H) : CV C A (.con (.builtin "len")) [.ref l] [] m H Q :=
 CV_len hl hsz (by refine rE (List.length_map ..) ?_; exact h)
end
end
end Mine
end
section
open PySem PySem.Calls PySem.W PyProof.Rows
set_option maxRecDepth 100000
namespace Mine
noncomputable section
noncomputable abbrev Rise (l : List Nat) : Prop := l.Pairwise (· < ·)
set_option tactic.hygienic true in
theorem below_go (xs : Array Nat) (j : Nat) (hr : Rise xs.toList) : ∀ (fuel lo hi : Nat),hi≤fuel + lo→lo≤hi→hi≤xs.size→(∀ i,i < lo→xs.getD i 0 < j)→(∀ i,hi≤i→i < xs.size→j≤xs.getD i 0) →
  SetTable.below.go xs j fuel lo hi≤xs.size∧(∀ i,i < SetTable.below.go xs j fuel lo hi→xs.getD i 0 < j)∧∀ i,SetTable.below.go xs j fuel lo hi≤i→i < xs.size→j≤xs.getD i 0
 | 0,lo,hi,h1,h2,h3,h4,h5 => by
  have : lo = hi := Nat.le_antisymm h2 (by rw [Nat.zero_add] at h1; exact h1)
  subst this
  exact ⟨h3,h4,h5⟩
 | fuel + 1,lo,hi,h1,h2,h3,h4,h5 => by
  have mono : ∀ i k,i≤k→k < xs.size→xs.getD i 0≤xs.getD k 0 := fun i k hik hk => by
   refine rE Array.getD_eq_getD_getElem? (rE Array.getD_eq_getD_getElem? (rE (getElem?_pos xs i (by exact Nat.lt_of_le_of_lt hik hk)) (rE (getElem?_pos xs k hk) ?_)))
   rcases Nat.lt_or_ge i k with q | q
   ·exact Nat.le_of_lt (List.pairwise_iff_getElem.mp hr i k (by simp; exact Nat.lt_of_le_of_lt hik hk) (by assumption) q)
   ·have : i = k := by exact Nat.le_antisymm hik q
    subst this; exact Nat.le_refl _
  unfold SetTable.below.go
  split
  ·rename_i hlt
   dsimp only
   refine rE (show xs.getD ((lo + hi) / 2) j = xs.getD ((lo + hi) / 2) 0 by rw [Array.getD_eq_getD_getElem?,Array.getD_eq_getD_getElem?,getElem?_pos xs ((lo + hi) / 2) (Nat.lt_of_lt_of_le (mid2_lt hlt) h3)]; rfl) ?_
   split
   ·rename_i hm
    exact below_go xs j hr fuel _ hi (go_up (mid2_le h2) h1) (mid2_lt hlt) h3 (fun i hi' => Nat.lt_of_le_of_lt (mono i ((lo + hi) / 2) (Nat.le_of_lt_succ hi') (Nat.lt_of_lt_of_le (mid2_lt hlt) h3)) hm) h5
   ·rename_i hm
    exact below_go xs j hr fuel lo _ (go_dn (mid2_lt hlt) h1) (mid2_le h2) (Nat.le_trans (Nat.le_of_lt (mid2_lt hlt)) h3) h4 fun i h6 h7 => Nat.le_trans (Nat.not_lt.mp hm) (mono ((lo + hi) / 2) i h6 h7)
  ·have : lo = hi := Nat.le_antisymm h2 (Nat.not_lt.mp ‹_›)
   subst this
   exact ⟨h3,h4,h5⟩
theorem below_ok {xs : Array Nat} (hr : Rise xs.toList) (j : Nat) : SetTable.below xs j≤xs.size∧(∀ i,i < SetTable.below xs j→xs.getD i 0 < j)∧∀ i,SetTable.below xs j≤i→i < xs.size→j≤xs.getD i 0 :=
 below_go xs j hr _ _ _ (Nat.le_refl _) (Nat.zero_le _) (Nat.le_refl _) (fun i h => absurd h (Nat.not_lt_zero i)) fun i h1 h2 => by grind
theorem below_next {xs : Array Nat} (hr : Rise xs.toList) {i p : Nat} (hi : xs[i]? = some p) : SetTable.below xs (p + 1) = i + 1 := by
 refine eAA (below_ok hr (p + 1)) fun h1 h2 h3 => ?_
 refine eE (Array.getElem?_eq_some_iff.mp hi) fun hlt he => ?_
 have e : xs.getD i 0 = p := by refine rE Array.getD_eq_getD_getElem? (rE hi ?_); rfl
 have a1 : ¬ SetTable.below xs (p + 1)≤i := fun q => by have := h3 i q hlt; (clear hi h1 he q; omega)
 have a2 : ¬ i + 1 < SetTable.below xs (p + 1) := fun q => by
  have q1 := h2 (i + 1) q
  have hlt2 : i + 1 < xs.size := by exact Nat.lt_of_lt_of_le q h1
  rw [Array.getD_eq_getD_getElem?,getElem?_pos xs _ hlt2] at q1
  have q2 := List.pairwise_iff_getElem.mp hr i (i + 1) (by assumption) (by assumption) (by exact Nat.lt_add_one i)
  rw [Array.getElem_toList,Array.getElem_toList,he] at q2
  simp only [Option.getD_some] at q1
  lia
 lia
theorem below_zero {xs : Array Nat} (hr : Rise xs.toList) : SetTable.below xs 0 = 0 := by
 refine eAA (below_ok hr 0) fun h1 h2 h3 => ?_
 rcases Nat.eq_zero_or_pos (SetTable.below xs 0) with q | q
 ·exact q
 ·exact absurd (h2 0 q) (Nat.not_lt_zero _)
theorem put_rise {t : SetTable} {j : Nat} (hr : Rise t.place.toList) (hj : t.place[SetTable.below t.place j]?≠some j) : Rise (t.put j).1.place.toList := by
 show Rise (SetTable.insertAt t.place (SetTable.below t.place j) j).toList
 refine rE (SetTable.toList_insertAt ..) ?_
 refine eAA (below_ok hr j) fun h1 h2 h3 => ?_
 have e := List.take_append_drop (SetTable.below t.place j) t.place.toList
 have hr' := hr
 rw [← e] at hr'
 refine eAA (List.pairwise_append.mp hr') fun p1 p2 p3 => ?_
 have lo : ∀ x ∈ t.place.toList.take (SetTable.below t.place j),x < j := fun x hx => by
  obtain ⟨i,hi,rfl⟩ := List.mem_iff_getElem.mp hx
  rw [List.length_take] at hi
  have hl : i < t.place.toList.length := by grind
  have := h2 i (by grind)
  rw [Array.getD_eq_getD_getElem?,getElem?_pos t.place i (by simpa using hl)] at this
  refine rE List.getElem_take ?_; exact this
 have hi' : ∀ x ∈ t.place.toList.drop (SetTable.below t.place j),j < x := fun x hx => by
  obtain ⟨i,hi,rfl⟩ := List.mem_iff_getElem.mp hx
  rw [List.length_drop,Array.length_toList] at hi
  have hb : SetTable.below t.place j + i < t.place.size := by exact Nat.add_lt_of_lt_sub' hi
  have hb0 : SetTable.below t.place j < t.place.size := by exact Nat.lt_of_add_right_lt hb
  have ge : j≤t.place[SetTable.below t.place j] := by
   have := h3 _ (Nat.le_refl _) hb0
   rwa [Array.getD_eq_getD_getElem?,getElem?_pos t.place _ hb0] at this
  have ne : t.place[SetTable.below t.place j]≠j := fun q => hj (by refine rE (getElem?_pos t.place _ hb0) (rE q rfl))
  refine rE List.getElem_drop (rE (Array.getElem_toList ..) ?_)
  rcases Nat.eq_zero_or_pos i with q | q
  ·subst q; show j < t.place[SetTable.below t.place j]; exact Nat.lt_of_le_of_ne ge (id (Ne.symm ne))
  ·have := List.pairwise_iff_getElem.mp hr (SetTable.below t.place j) (SetTable.below t.place j + i) (by assumption) (by assumption) (by exact Nat.lt_add_of_pos_right q)
   rw [Array.getElem_toList,Array.getElem_toList] at this
   exact Nat.lt_of_le_of_lt ge this
 exact List.pairwise_append.mpr ⟨p1,List.pairwise_cons.mpr ⟨hi',p2⟩,fun a ha b hb => by
  rcases List.mem_cons.mp hb with rfl | hb
  ·exact lo a ha
  ·have := lo a ha; have := hi' b hb; exact Nat.lt_trans (lo a ha) (hi' b hb)⟩
theorem slot_ne {t : SetTable} {j : Nat} (h : t.slot j = .empty∨t.slot j = .dummy) : t.place[SetTable.below t.place j]?≠some j := fun e => by
 unfold SetTable.slot at h
 dsimp only at h
 rw [if_pos (by refine rE e ?_; exact beq_self_eq_true _)] at h
 rcases h with h | h <;> cases h
theorem advance_dummy (t : SetTable) (p : SetTable.Probe) : (t.advance p).dummy = p.dummy := by
 unfold SetTable.advance
 split <;> rfl
set_option tactic.hygienic true in
theorem probe_go (t : SetTable) (f : Nat→Int) (h : Int) : ∀ (fuel : Nat) (p : SetTable.Probe),(∀ d,p.dummy = some d→t.slot d = .dummy)→∀ {j dummy},SetTable.probe.go t f h fuel p = some (.empty j dummy) →
  t.slot j = .empty∧∀ d,dummy = some d→t.slot d = .dummy
 | 0,p,hd,j,dummy,e => by cases e
 | fuel + 1,p,hd,j,dummy,e => by
  unfold SetTable.probe.go at e
  split at e
  ·rename_i hs; cases e; exact ⟨hs,hd⟩
  ·rename_i hs
   exact probe_go t f h fuel _ (fun d q => by rw [advance_dummy] at q; cases q; exact hs) e
  ·rename_i i hs
   split at e
   ·cases e
   ·exact probe_go t f h fuel _ (fun d q => by rw [advance_dummy] at q; exact hd d q) e
set_option tactic.hygienic true in
theorem freeSlot_ne {t : SetTable} {h : Int} {slot : Nat} {b : Bool} (e : t.freeSlot h = some (slot,b)) : t.place[SetTable.below t.place slot]?≠some slot := by
 unfold SetTable.freeSlot at e
 split at e
 ·rename_i j dummy hp
  cases e
  have := probe_go t _ h _ (t.probeStart h) (fun d q => by cases q) hp
  refine slot_ne ?_
  cases dummy with
  | none => exact .inl this.1
  | some d => exact .inr (this.2 d rfl)
 ·cases e
structure TabOk (bt : Bool) (t : SetTable) : Prop where
 rise : Rise t.place.toList
 led : bt = true∨t.led = true
theorem TabOk.standIn {bt : Bool} {t : SetTable} (h : TabOk bt t) (n : Nat) : TabOk bt (t.standIn n) :=
 ⟨by show Rise (Array.range n).toList; refine rE Array.toList_range ?_; exact List.pairwise_lt_range,h.led⟩
set_option tactic.hygienic true in
theorem TabOk.layNew {bt : Bool} {t : SetTable} (h : TabOk bt t) (es : Array (Int × Value)) (k : Int) (x : Value) : TabOk bt (layNew t es k x).2.1 := by
 unfold PySem.layNew
 split
 ·rename_i slot wd e
  have hp : TabOk bt (t.put slot).1 := ⟨put_rise h.rise (freeSlot_ne e),h.led⟩
  show TabOk bt ((t.put slot).1.orStandIn _)
  unfold SetTable.orStandIn
  split
  ·exact hp
  ·exact hp.standIn _
 ·exact h.standIn _
set_option tactic.hygienic true in
theorem TabOk.relayAll {bt : Bool} {t : SetTable} (h : TabOk bt t) (es : Array (Int × Value)) (wanted : Nat) : TabOk bt (relayAll t es wanted).2.1 := by
 unfold PySem.relayAll
 split
 ·rename_i t' order e
  dsimp only
  split
  ·unfold SetTable.relaid SetTable.laid at e
   refine eEA (Option.bind_eq_some_iff.mp e) fun owner _ e => ?_
   cases e
   refine ⟨?_,h.led⟩
   show Rise ((((List.range _).filterMap _).map Prod.fst).toArray).toList
   refine rE List.map_filterMap ?_
   refine List.Pairwise.filterMap (R := (· < ·)) _ (fun a a' hlt b hb b' hb' => ?_) List.pairwise_lt_range
   have key : ∀ (a b : Nat),Option.map Prod.fst (Option.map (fun x => (a,x)) (owner.getD a none)) = some b→b = a := fun a b q => by
    cases r : owner.getD a none with
    | none => rw [r] at q; cases q
    | some z => rw [r] at q; cases q; rfl
   refine rE (key a b hb) (rE (key a' b' hb') ?_); exact hlt
  ·exact h.standIn _
 ·exact h.standIn _
end
end Mine
end
section
open PySem PySem.Calls PySem.W PyProof.Rows
set_option maxRecDepth 100000
namespace Mine
noncomputable section
inductive ISet (prog : Program) (w : World) (o : Obj) (ns : List Int) : Prop
 | mk (es : Array (Int × Value)) (ep : Nat) (t : SetTable) (e : o = { cls := .type "set",dict := none,data := .set es ep t,slots := #[] }) (el : ElemsOf (intKind prog w) es.toList)
   (vals : (es.toList.map fun e => numOf e.2).Perm ns) (fit : t.fits es.size = true) (tab : TabOk (w.params.followText "set-order") t) : ISet prog w o ns
section
variable {prog : Program} {w : World} {A : Around} {E : Value→Shared→Prop} {s : Shared}
theorem elem_int {l : List (Int × Value)} (h : ElemsOf (intKind prog w) l) {e : Int × Value} (he : e ∈ l) : ∃ u,e.2 = .int (numOf e.2) u := by
 obtain ⟨⟨k,hk,_⟩,_⟩ := h e he
 obtain ⟨u,hu⟩ := Value.isInt_shape hk
 exact ⟨u,by refine rE hu ?_; rfl⟩
theorem elem_is {l : List (Int × Value)} (h : ElemsOf (intKind prog w) l) (k : Int) : (∃ e ∈ l,(intKind prog w).is k e.2 = true)↔k ∈ l.map fun e => numOf e.2 := by
 rw [List.mem_map]
 constructor
 ·rintro ⟨e,he,hk⟩
  obtain ⟨u,hu⟩ := Value.isInt_shape hk
  exact ⟨e,he,by refine rE hu ?_; rfl⟩
 ·rintro ⟨e,he,rfl⟩
  refine eE (elem_int h he) fun u hu => ?_
  exact ⟨e,he,by refine rE hu ?_; exact intKind_is _ _ _ _⟩
theorem store_at {h : Heap} {a : Addr} {es : Array (Int × Value)} {ep : Nat} {t : SetTable} (ho : h.get? a = some { cls := .type "set",dict := none,data := .set es ep t,slots := #[] }) (es' : Array (Int × Value)) (t' : SetTable) :
  (h.update a (Obj.putSet es' t')).get? a = some { cls := .type "set",dict := none,data := .set es' (ep + 1) t',slots := #[] } := by
 have := Heap.get?_update_self (Obj.putSet es' t') ho (by refine rE (putSet_of es' t' rfl) ?_; rfl)
 rw [putSet_of es' t' rfl] at this; exact this
theorem hgw (b : Bool) {Q' : Unit→Shared→Prop} (hq : Q' () s) : wpAny (model prog w) A (match b with | true => rule "set.scan.the-table-gave-way" | false => pure ()) Q' E s := by
 cases b <;> first | exact wpAny_pure hq | exact wpAny_rule hq
set_option maxHeartbeats 1000000 in
theorem setAdd_int {a : Addr} {o : Obj} {ns : List Int} {k : Int} {u : Tok} {Q : Bool→Shared→Prop} (ho : s.heap.get? a = some o) (hS : ISet prog w o ns) (hroom : ns.length + 1 < scanBound)
  (h : ∀ r h' o',Heap.SameBut a s.heap h'→h'.get? a = some o'→ISet prog w o' (if k ∈ ns then ns else k :: ns)→Q r { s with heap := h' }) :
  wpAny (model prog w) A (setAddHashed a (.int k u) (hashInt k)) Q E s := by
 obtain ⟨es,ep,t,rfl,hel,hv,hf,ht⟩ := hS
 have hkey : (intKind prog w).is k (.int k u) = true := intKind_is _ _ _ _
 have hlen : es.size = ns.length := by have := hv.length_eq; simpa using this
 have hb : es.size < scanBound := by lia
 unfold setAddHashed setAddHashedIn
 refine wpAny_holding (wpAny_bind (wpAny_setState_of ho rfl hf ?_))
 dsimp only
 refine rE (byScan_of (knd := intKind prog w) rfl hb hel) ?_
 simp only [↓reduceIte]
 unfold setAddByScan
 refine wpAny_bind ?_
 refine wpAny_bind (wpAny_rule ?_)
 refine wpAny_bind (wpAny_setScan_of (knd := intKind prog w) hkey ho rfl hf hel ?_)
 cases hr : List.findIdx? (fun e => (intKind prog w).is k e.2) es.toList with
 | some j =>
  dsimp only
  refine eEA (List.findIdx?_eq_some_iff_getElem.mp hr) fun hj hpj _ => ?_
  have hk : k ∈ ns := hv.mem_iff.mp ((elem_is hel k).mp ⟨es.toList[j],List.getElem_mem hj,hpj⟩)
  have e : s = { s with heap := s.heap } := by cases s; rfl
  refine wpAny_pure (wpAny_pure ?_)
  rw [if_pos hk] at h
  have := h false s.heap _ (Heap.SameBut.refl a s.heap) ho ⟨es,ep,t,rfl,hel,hv,hf,ht⟩
  refine rE e ?_; exact this
 | none =>
  dsimp only
  have hk : k ∉ ns := fun hk => by
   refine eEA ((elem_is hel k).mpr (hv.mem_iff.mpr hk)) fun e he hp => ?_
   have := List.findIdx?_eq_none_iff.mp hr e he
   rw [hp] at this; exact Bool.noConfusion this
  rw [if_neg hk] at h
  have hperm := layNew_perm t es (hashInt k) (.int k u)
  have hfits := layNew_fits t es (hashInt k) (.int k u)
  have htab := ht.layNew es (hashInt k) (.int k u)
  show wpAny _ _ (match layNew t es (hashInt k) (.int k u) with | (es,t,wasDummy,gave) => _) _ _ s
  generalize layNew t es (hashInt k) (.int k u) = L at hperm hfits htab ⊢
  obtain ⟨es1,t1,wasDummy,gave⟩ := L
  dsimp only at hperm hfits htab ⊢
  rw [Array.toList_push] at hperm
  have hel1 : ElemsOf (intKind prog w) es1.toList := (hel.push hkey rfl).perm hperm
  have hv1 : (es1.toList.map fun e => numOf e.2).Perm (k :: ns) := by
   refine (hperm.map _).trans ?_
   refine rE List.map_append ?_
   exact List.perm_append_comm.trans (hv.cons k)
  have hz1 : es1.size = ns.length + 1 := by have := hv1.length_eq; simpa using this
  refine wpAny_bind (hgw _ ?_)
  have fin : ∀ t2 : SetTable,TabOk (w.params.followText "set-order") t2→t2.fits es1.size = true→wpAny (model prog w) A (do
    storeSet a es1 t2
    if (!wasDummy && t2.tooFull) = true then do
      (match (relayAll t2 es1 (SetTable.grown es1.size)).2.2 with | true => rule "set.scan.the-table-gave-way" | false => pure ())
      storeSet a (relayAll t2 es1 (SetTable.grown es1.size)).1 (relayAll t2 es1 (SetTable.grown es1.size)).2.1
      pure (some true)
     else pure (some true)) (fun r s' => wpAny (model prog w) A (match r with | some added => pure added | none => setAddHashedIn a (.int k u) (hashInt k) 99999) Q E s') E s := by
   intro t2 ht2 hf2
   refine wpAny_bind (wpAny_storeSet_of ho rfl ?_ (fits_of_scanBound (by exact lt_of_eq_of_lt hz1 hroom)))
   have ho1 := store_at ho es1 t2
   have hsb1 := Heap.SameBut.update s.heap a (Obj.putSet es1 t2)
   split
   ·have hp := relayAll_perm t2 es1 (SetTable.grown es1.size)
    have hfr := relayAll_fits t2 es1 (SetTable.grown es1.size)
    have htr := ht2.relayAll es1 (SetTable.grown es1.size)
    generalize relayAll t2 es1 (SetTable.grown es1.size) = Rl at hp hfr htr ⊢
    obtain ⟨es2,t3,gave2⟩ := Rl
    dsimp only at hp hfr htr ⊢
    have hsz : es2.size = es1.size := by refine rF Array.length_toList (rE hp.length_eq (rE Array.length_toList rfl))
    refine wpAny_bind (hgw _ ?_)
    refine wpAny_bind (wpAny_storeSet_of ho1 rfl ?_ (fits_of_scanBound (by (clear hf ho hkey hb hr hk hfits hf2 ho1 hfr; lia))))
    exact wpAny_pure (wpAny_pure (h true _ _ (hsb1.trans (Heap.SameBut.update _ a _)) (store_at ho1 es2 t3) ⟨es2,_,t3,rfl,hel1.perm hp,(hp.map _).trans hv1,hfr,htr⟩))
   ·exact wpAny_pure (wpAny_pure (h true _ _ hsb1 ho1 ⟨es1,_,t2,rfl,hel1,hv1,hf2,ht2⟩))
  split
  ·refine wpAny_bind ?_
   refine rE (hashByValue_scannable 8 rfl) ?_
   refine wpAny_pure ?_
   simp only [plainKind,↓reduceIte]
   exact fin t1 htab hfits
  ·refine wpAny_bind (wpAny_pure ?_)
   simp only [↓reduceIte]
   exact fin t1 htab hfits
theorem iset_type {a : Addr} {o : Obj} {ns : List Int} (ho : s.heap.get? a = some o) (hS : ISet prog w o ns) : s.TypeIs (.ref a) "set" := by
 obtain ⟨es,ep,t,rfl,_⟩ := hS
 exact ⟨_,ho,rfl⟩
end
end
end Mine
end
section
open PySem PySem.Calls PySem.W PyProof.Rows
set_option maxRecDepth 100000
namespace Mine
noncomputable section
namespace SI
theorem entry_iter : entryFor table "set.__iter__" = some Builtin.«frozenset.__iter__» :=
 entryFor_alias (id' := "frozenset.__iter__") (by kernel_rfl) rfl (by decide +kernel) (by kernel_rfl)
theorem slot_next : Slot "set_iterator" "__next__" "set_iterator.__next__" :=
 .of (owner := "set_iterator") (n := "__next__") (by refine rE (typeLookup_type ..) (rE builtinLookup_eq_fast ?_); kernel_rfl) (by decide +kernel) (by decide +kernel) (by decide +kernel)
  (by first | exact .inl (by decide +kernel) | exact .inr (by decide +kernel)) (by refine rE (isSubtype_type ..) ?_; kernel_rfl)
theorem entry_next : entryFor table "set_iterator.__next__" = some Builtin.«set_iterator.__next__» := entryFor_of_tree (by kernel_rfl)
theorem args_next (a : Value) : argsOk "set_iterator.__next__" ⟨[a],[]⟩ := by unfold argsOk; kernel_rfl
theorem nolen : typeLookup (.type "set_iterator") "__len__" = pure none := by refine rE (typeLookup_type ..) (rE builtinLookup_eq_fast ?_); kernel_rfl
theorem hint : typeLookup (.type "set_iterator") "__length_hint__" = pure (some (.builtin "set_iterator.__length_hint__")) := by refine rE (typeLookup_type ..) (rE builtinLookup_eq_fast ?_); kernel_rfl
end SI
theorem cons_erase {α : Type} {l : List α} {i : Nat} (h : i < l.length) : (l[i] :: l.eraseIdx i).Perm l := by
 refine rE (List.eraseIdx_eq_take_drop_succ ..) ?_
 refine List.perm_middle.symm.trans (.of_eq ?_)
 conv => rhs; rw [← List.take_append_drop i l,List.drop_eq_getElem_cons h]
noncomputable abbrev itObj (a : Addr) (f : Value) (i n ep : Nat) : Obj := { cls := .type "set_iterator",data := .fields #[f,rawInt i,.ref a,rawInt n,rawInt ep] }
theorem pick_go {α : Type} (next : Nat→Nat) : ∀ (fuel k : Nat) (left : List α) (out : Array α),left.length≤fuel→(pickOrder.go next fuel k left out).toList.Perm (out.toList ++ left)
 | 0,k,left,out,h => by
  have : left = [] := List.length_eq_zero_iff.mp (by exact Nat.eq_zero_of_le_zero h)
  subst this
  unfold pickOrder.go; simp
 | fuel + 1,k,left,out,h => by
  unfold pickOrder.go
  cases e : left[next k % left.length]? with
  | none =>
   have : left = [] := by
    cases left with
    | nil => rfl
    | cons x l =>
     have := List.getElem?_eq_none_iff.mp e
     have := Nat.mod_lt (next k) (show 0 < (x :: l).length by exact Nat.zero_lt_succ l.length)
     (clear h e; lia)
   subst this; simp
  | some x =>
   dsimp only
   refine eE (List.getElem?_eq_some_iff.mp e) fun hl hx => ?_
   refine (pick_go next fuel (k + 1) _ _ (by refine rE List.length_eraseIdx ?_; split <;> (exact Nat.sub_le_of_le_add h))).trans ?_
   refine rE Array.toList_push (rE (List.append_assoc ..) ?_)
   refine List.Perm.append_left _ ?_
   have := (cons_erase hl)
   rw [hx] at this
   exact this
theorem pick_perm {α : Type} (next : Nat→Nat) (xs : Array α) : (pickOrder next xs).toList.Perm xs.toList := by
 have := pick_go next xs.size 0 xs.toList #[] (by exact Nat.le_refl xs.toList.length)
 simpa [pickOrder] using this
section
variable {prog : Program} {w : World} {A : Around} {E : Value→Shared→Prop} {s : Shared}
theorem wpAny_choose {M : Model} {src : Source} {n : Nat} {Q : Nat→Shared→Prop} (hn : n≠0) (h : ∀ k d,k < n→Q k { s with drawn := d }) : wpAny M A (choose src n) Q E s :=
 fun Γ p _ => by
  show Sem.wp M Γ (.choose src n .pure) _ _ p s
  refine rE (Sem.wp_choose ..) ?_
  refine ⟨hn,?_⟩
  refine rE (Sem.wp_pure ..) ?_
  exact h _ _ (Nat.mod_lt _ (Nat.pos_of_ne_zero hn))
theorem draw_order {α : Type} : ∀ (l : List α) {s : Shared} {Q : List α→Shared→Prop},(∀ r d,r.Perm l→Q r { s with drawn := d })→wpAny (model prog w) A (drawOrder l.length l) Q E s := by
 intro l
 generalize hn : l.length = n
 induction n generalizing l with
 | zero =>
  intro s Q h
  have : l = [] := List.length_eq_zero_iff.mp hn
  subst this
  unfold drawOrder
  exact wpAny_pure (h [] s.drawn (.refl _))
 | succ n ih =>
  intro s Q h
  cases l with
  | nil => cases hn
  | cons x l =>
   unfold drawOrder
   refine wpAny_bind (wpAny_choose (by exact Ne.symm (Nat.zero_ne_add_one l.length)) fun k d hk => ?_)
   refine rE (List.getElem?_eq_getElem hk) ?_
   dsimp only
   refine wpAny_bind (ih ((x :: l).eraseIdx k) (by refine rE List.length_eraseIdx (rE (if_pos hk) (rE hn ?_)); rfl) fun r d' hr => ?_)
   exact wpAny_pure (h _ d' ((hr.cons _).trans (cons_erase hk)))
structure SetGo (prog : Program) (w : World) (A : Around) (I : Addr) (vs : List Value) (ok : Nat→Heap→Prop) : Prop where
 type : ∀ i (s : Shared),ok i s.heap→s.TypeIs (.ref I) "set_iterator"
 item : ∀ i (s : Shared) (v : Value) (Q : Option Value→Shared→Prop) (E : Value→Shared→Prop),ok i s.heap→vs[i]? = some v →
  (∀ h',ok (i + 1) h'→Heap.SameBut I s.heap h'→Q (some v) { s with heap := h' })→wpAny (model prog w) A (pyNext (.ref I)) Q E s
 done : ∀ (s : Shared) (Q : Option Value→Shared→Prop) (E : Value→Shared→Prop),ok vs.length s.heap→(∀ h',Heap.ExtBut I s.heap h'→Q none { s with heap := h' })→wpAny (model prog w) A (pyNext (.ref I)) Q E s
theorem field_at {h : Heap} {I : Addr} {vs : Array Value} (ho : h.get? I = some { cls := .type "set_iterator",data := .fields vs }) (i : Nat) (x : Value) :
  (h.update I (Obj.mapFields (·.setIfInBounds i x))).get? I = some { cls := .type "set_iterator",data := .fields (vs.setIfInBounds i x) } := by
 exact Heap.get?_update_self (Obj.mapFields (·.setIfInBounds i x)) ho rfl
theorem next_stop {R : Fin→Shared→Prop} {I : Addr} {Q : Option Value→Shared→Prop} {s : Shared} {h₀ : Heap} (hA : A.handled = none) (hs : Heap.ExtBut I h₀ s.heap) (hQ : ∀ h',Heap.ExtBut I h₀ h'→Q none { s with heap := h' }) :
  wpAny (model prog w) A.in1 (do raiseNew (← newExc (.type "StopIteration") []) : Sem Fin) R
   (fun e s' => wpAny (model prog w) A (do if ← isInstance e (.type "StopIteration") then pure none else throw e : Sem (Option Value)) Q E s') s := by
 refine wpAny_bind ?_
 simp only [newExc,newTuple]
 refine wpAny_bind (wpAny_newObj_type ?_ (by size_fits))
 refine wpAny_bind (m := firstArgMember _ _) (wpAny_of_eq (a := Value.none) (by first | rfl | (simp only [firstArgMember]; rfl)) ?_)
 refine wpAny_newObj_type ?_ (by size_fits)
 unfold raiseNew
 refine wpAny_bind (wpAny_handled ?_)
 refine rE (show A.in1.handled = none from hA) ?_
 refine wpAny_bind (wpAny_pure (wpAny_throw ?_))
 refine wpAny_bind (wpAny_isInstance (T := "StopIteration") (b := true) ⟨_,Heap.get?_push_size _ rfl,rfl⟩ isSubtype_stop ?_)
 exact wpAny_pure (hQ _ ((hs.push _).push _))
end
end
end Mine
end
section
open PySem PySem.Calls PySem.W PyProof.Rows
set_option maxRecDepth 100000
namespace Mine
noncomputable section
section
variable {prog : Program} {w : World} {A : Around} {E : Value→Shared→Prop} {s : Shared} {a I T : Addr} {es : Array (Int × Value)} {ep : Nat} {t : SetTable} {vs : List Value}
noncomputable abbrev setObj (es : Array (Int × Value)) (ep : Nat) (t : SetTable) : Obj := { cls := .type "set",dict := none,data := .set es ep t,slots := #[] }
noncomputable def Ok1 (a I : Addr) (es : Array (Int × Value)) (ep : Nat) (t : SetTable) (sok : Nat→Nat→Prop) (i : Nat) (h : Heap) : Prop :=
 h.get? a = some (setObj es ep t)∧∃ slot,sok i slot∧h.get? I = some (itObj a (rawInt (slot : Nat)) i es.size ep)
theorem go1 {sok : Nat→Nat→Prop} (hA : A.handled = none) (hne : a≠I) (fit : t.fits es.size = true)
  (nx : ∀ (i slot : Nat) (s : Shared) (Q : Option (Value × Nat)→Shared→Prop) (E : Value→Shared→Prop),sok i slot→s.heap.get? a = some (setObj es ep t)→(∀ next,sok (i + 1) next∨vs[i]? = none→Q (vs[i]?.map (·,next)) s)→wpAny (model prog w) A.in1 (setNext a slot i ep) Q E s) :
  SetGo prog w A I vs (Ok1 a I es ep t sok) where
 type := fun i s ⟨_,slot,_,hit⟩ => ⟨_,hit,rfl⟩
 item := fun i s v Q E hok hv hQ => by
  obtain ⟨hset,slot,hsl,hit⟩ := hok
  have hT : s.TypeIs (.ref I) "set_iterator" := ⟨_,hit,rfl⟩
  unfold pyNext
  refine wpAny_bind (wpAny_attempt (wpAny_callSpecial?_slot (name := Str.ofString "__next__") hT SI.slot_next
   (wpAny_call_entry SI.slot_next hT SI.entry_next ?_ (SI.args_next _))))
  refine wpAny_bind (wpAny_pure ?_)
  refine wpAny_bind (wpAny_fieldsOf hit rfl ?_)
  show wpAny _ _ (setEntries a >>= _) _ _ s
  refine wpAny_bind (wpAny_setEntries_of hset rfl fit ?_)
  refine rE (if_neg (by simp)) ?_
  show wpAny _ _ (setNext a slot i ep >>= _) _ _ s
  refine wpAny_bind (nx i slot s _ _ hsl hset fun next hn => ?_)
  refine rE hv ?_
  show wpAny _ _ (setField (.ref I) 0 (rawInt next) >>= _) _ _ s
  refine wpAny_bind (wpAny_setField hit rfl (by exact PySem.size_pos_of_not_empty rfl) ?_)
  refine wpAny_bind (wpAny_setField (field_at hit 0 _) rfl (by exact Nat.one_lt_succ_succ [PySem.Value.ref a,PySem.rawInt ↑es.size,PySem.rawInt ↑ep].length) ?_)
  refine wpAny_pure ⟨_,rfl,wpAny_pure (hQ _ ⟨?_,next,hn.resolve_right (by refine rE hv ?_; simp),?_⟩ ((Heap.SameBut.update ..).trans (Heap.SameBut.update ..)))⟩
  ·exact (Heap.get?_update_other _ _ (Ne.symm hne)).trans ((Heap.get?_update_other _ _ (Ne.symm hne)).trans hset)
  ·exact field_at (field_at hit 0 _) 1 _
 done := fun s Q E hok hQ => by
  obtain ⟨hset,slot,hsl,hit⟩ := hok
  have hT : s.TypeIs (.ref I) "set_iterator" := ⟨_,hit,rfl⟩
  unfold pyNext
  refine wpAny_bind (wpAny_attempt (wpAny_callSpecial?_slot (name := Str.ofString "__next__") hT SI.slot_next
   (wpAny_call_entry SI.slot_next hT SI.entry_next ?_ (SI.args_next _))))
  refine wpAny_bind (wpAny_pure ?_)
  refine wpAny_bind (wpAny_fieldsOf hit rfl ?_)
  show wpAny _ _ (setEntries a >>= _) _ _ s
  refine wpAny_bind (wpAny_setEntries_of hset rfl fit ?_)
  refine rE (if_neg (by simp)) ?_
  show wpAny _ _ (setNext a slot vs.length ep >>= _) _ _ s
  refine wpAny_bind (nx vs.length slot s _ _ hsl hset fun next hn => ?_)
  refine rE (List.getElem?_eq_none (Nat.le_refl _)) ?_
  show wpAny _ _ (setField (.ref I) 2 .none >>= _) _ _ s
  refine wpAny_bind (wpAny_setField hit rfl (by exact Nat.lt_of_sub_eq_succ rfl) ?_)
  refine next_stop (h₀ := s.heap) hA ?_ fun h' hs => hQ h' hs
  exact (Heap.SameBut.update ..).extBut
noncomputable def Ok2 (a I T : Addr) (es : Array (Int × Value)) (ep : Nat) (t : SetTable) (ds : List Nat) (i : Nat) (h : Heap) : Prop :=
 h.get? a = some (setObj es ep t)∧h.get? T = some (seqObj "tuple" (ds.map fun (i : Nat) => rawInt i).toArray 0)∧h.get? I = some (itObj a (.ref T) i es.size ep)
theorem go2 {ds : List Nat} (hA : A.handled = none) (hne : a≠I) (hTI : T≠I) (fit : t.fits es.size = true) (hz : ds.length = vs.length) (hd : ∀ (i p : Nat),ds[i]? = some p→∃ e : Int × Value,es[p]? = some e∧vs[i]? = some e.2) :
  SetGo prog w A I vs (Ok2 a I T es ep t ds) where
 type := fun i s ⟨_,_,hit⟩ => ⟨_,hit,rfl⟩
 item := fun i s v Q E hok hv hQ => by
  obtain ⟨hset,htup,hit⟩ := hok
  have hT : s.TypeIs (.ref I) "set_iterator" := ⟨_,hit,rfl⟩
  unfold pyNext
  refine wpAny_bind (wpAny_attempt (wpAny_callSpecial?_slot (name := Str.ofString "__next__") hT SI.slot_next
   (wpAny_call_entry SI.slot_next hT SI.entry_next ?_ (SI.args_next _))))
  refine wpAny_bind (wpAny_pure ?_)
  refine wpAny_bind (wpAny_fieldsOf hit rfl ?_)
  show wpAny _ _ (setEntries a >>= _) _ _ s
  refine wpAny_bind (wpAny_setEntries_of hset rfl fit ?_)
  refine rE (if_neg (by simp)) ?_
  show wpAny _ _ (seqItems? (.ref T) >>= _) _ _ s
  refine wpAny_bind (wpAny_seqItems htup rfl ?_)
  have hi : i < ds.length := by refine rE hz ?_; exact (List.getElem?_eq_some_iff.mp hv).1
  have hp : ds[i]? = some ds[i] := List.getElem?_eq_getElem hi
  refine eEA (hd i _ hp) fun e he hve => ?_
  have hve' : e.2 = v := Option.some.inj (hve.symm.trans hv)
  show wpAny _ _ (match (ds.map fun (i : Nat) => rawInt i).toArray[i]? with | some (.int place _) => _ | some _ => _ | none => _) _ _ s
  refine rE (show (ds.map fun (i : Nat) => rawInt i).toArray[i]? = some (rawInt (ds[i] : Nat)) by rw [List.getElem?_toArray,List.getElem?_map,hp]; rfl) ?_
  show wpAny _ _ (setNextDrawn a ds[i] ep >>= _) _ _ s
  unfold setNextDrawn
  refine wpAny_bind (wpAny_bind (wpAny_setState_of hset rfl fit ?_))
  dsimp only
  refine rE (if_neg (by simp)) (rE he ?_)
  refine wpAny_pure ?_
  show wpAny _ _ (setField (.ref I) 1 (rawInt ((i : Int) + 1)) >>= _) _ _ s
  refine wpAny_bind (wpAny_setField hit rfl (by exact Nat.one_lt_succ_succ [PySem.Value.ref a,PySem.rawInt ↑es.size,PySem.rawInt ↑ep].length) ?_)
  subst hve'
  refine wpAny_pure ⟨_,rfl,wpAny_pure (hQ _ ⟨?_,?_,?_⟩ (Heap.SameBut.update ..))⟩
  ·exact (Heap.get?_update_other _ _ (Ne.symm hne)).trans hset
  ·exact (Heap.get?_update_other _ _ (Ne.symm hTI)).trans htup
  ·exact field_at hit 1 _
 done := fun s Q E hok hQ => by
  obtain ⟨hset,htup,hit⟩ := hok
  have hT : s.TypeIs (.ref I) "set_iterator" := ⟨_,hit,rfl⟩
  unfold pyNext
  refine wpAny_bind (wpAny_attempt (wpAny_callSpecial?_slot (name := Str.ofString "__next__") hT SI.slot_next
   (wpAny_call_entry SI.slot_next hT SI.entry_next ?_ (SI.args_next _))))
  refine wpAny_bind (wpAny_pure ?_)
  refine wpAny_bind (wpAny_fieldsOf hit rfl ?_)
  show wpAny _ _ (setEntries a >>= _) _ _ s
  refine wpAny_bind (wpAny_setEntries_of hset rfl fit ?_)
  refine rE (if_neg (by simp)) ?_
  show wpAny _ _ (seqItems? (.ref T) >>= _) _ _ s
  refine wpAny_bind (wpAny_seqItems htup rfl ?_)
  show wpAny _ _ (match (ds.map fun (i : Nat) => rawInt i).toArray[vs.length]? with | some (.int place _) => _ | some _ => _ | none => _) _ _ s
  refine rE (show (ds.map fun (i : Nat) => rawInt i).toArray[vs.length]? = none by rw [List.getElem?_toArray,List.getElem?_map,List.getElem?_eq_none (by exact Nat.le_of_eq hz)]; rfl) ?_
  show wpAny _ _ (setField (.ref I) 0 (rawInt 0) >>= _) _ _ s
  refine wpAny_bind (wpAny_setField hit rfl (by exact PySem.size_pos_of_not_empty rfl) ?_)
  refine wpAny_bind (wpAny_setField (field_at hit 0 _) rfl (by exact Nat.lt_of_sub_eq_succ rfl) ?_)
  refine next_stop (h₀ := s.heap) hA ?_ fun h' hs => hQ h' hs
  exact ((Heap.SameBut.update ..).trans (Heap.SameBut.update ..)).extBut
end
end
end Mine
end
section
open PySem PySem.Calls PySem.W PyProof.Rows
set_option maxRecDepth 100000
namespace Mine
noncomputable section
section
variable {prog : Program} {w : World} {A : Around} {E : Value→Shared→Prop} {s : Shared} {a : Addr} {o : Obj} {ns : List Int}
theorem byText_at {Q : Bool→Shared→Prop} (h : Q (w.params.followText "set-order") s) : wpAny (model prog w) A setsByText Q E s := by
 unfold setsByText
 exact wpAny_bind (wpAny_askSetting (wpAny_pure h))
structure Gives (prog : Program) (w : World) (A : Around) (s : Shared) (a : Addr) (ns : List Int) (I : Addr) (h' : Heap) (vs : List Value) (ok : Nat→Heap→Prop) : Prop where
 new : s.heap.get? I = none
 keep : ∀ b o,s.heap.get? b = some o→h'.get? b = some o
 go : SetGo prog w A I vs ok
 start : ok 0 h'
 frame : ∀ S i h₁ h₂,S≠a→s.heap.get? S≠none→ok i h₁→(∀ b o,b≠S→h₁.get? b = some o→h₂.get? b = some o)→ok i h₂
 vints : ∀ v ∈ vs,∃ n t,v = .int n t
 vals : (vs.map numOf).Perm ns
 seta : ∀ i h,ok i h→∃ o,s.heap.get? a = some o∧h.get? a = some o
 loc : ∀ i h₁ h₂,ok i h₁→h₂.get? a = h₁.get? a→h₂.get? I = h₁.get? I→(∀ b (items : Array Value) n,h₁.get? b = some (seqObj "tuple" items n)→h₂.get? b = some (seqObj "tuple" items n))→ok i h₂
 form : ∀ i h,ok i h→∃ f n ep,h.get? I = some (itObj a f i n ep)
theorem new_none {h : Heap} {b : Addr} (hb : h.objs.size≤b) : h.get? b = none := by
 cases e : h.get? b with
 | none => rfl
 | some o => exact absurd (Heap.lt_size e) (Nat.not_lt.mpr hb)
theorem ne_of_old {h : Heap} {b c : Addr} (hb : h.get? b≠none) (hc : h.get? c = none) : c≠b := fun e => hb (e ▸ hc)
theorem keep_push' (h : Heap) (o : Obj) : ∀ b x,h.get? b = some x→(h.push o).get? b = some x := fun _ _ e => Heap.get?_push_of_some o e
theorem iter_set {Q : Value→Shared→Prop} (hA : A.handled = none) (ho : s.heap.get? a = some o) (hS : ISet prog w o ns) (hz : ns.length < scanBound)
  (h : ∀ I h' d vs ok,Gives prog w A s a ns I h' vs ok→Q (.ref I) { s with heap := h',drawn := d }) : wpAny (model prog w) A (pyIter (.ref a)) Q E s := by
 have hT := iset_type ho hS
 obtain ⟨es,ep,t,rfl,hel,hv,hf,ht⟩ := hS
 have hlen : es.size = ns.length := by have := hv.length_eq; simpa using this
 refine wpAny_pyIter_slot hT PySem.F.slot_set_iter (wpAny_call_entry PySem.F.slot_set_iter hT SI.entry_iter ?_ (PySem.F.args_set_iter_1 _))
 unfold Builtin.«frozenset.__iter__» Builtin.Frozenset.slot0 slotArgs
 simp only [List.isEmpty_nil,Bool.not_true,Bool.false_eq_true,↓reduceIte,bind_assoc,List.length_nil,bne_self_eq_false]
 unfold Builtin.Frozenset.addrOf Builtin.Frozenset.sizeOf
 refine wpAny_bind (wpAny_pure ?_)
 try dsimp only
 refine wpAny_bind (wpAny_pure ?_)
 refine wpAny_bind (wpAny_bind (wpAny_setEntries_of ho rfl hf (wpAny_pure ?_)))
 have haI : ∀ b,s.heap.objs.size≤b→a≠b := fun b hb => Nat.ne_of_lt (Nat.lt_of_lt_of_le (Heap.lt_size ho) hb)
 have hints : ∀ l : List (Int × Value),l.Perm es.toList→∀ v ∈ l.map (·.2),∃ n u,v = Value.int n u := fun l hl v hv' => by
  refine eEA (List.mem_map.mp hv') fun e he zz2 => ?_; subst zz2
  refine eE (elem_int hel (hl.mem_iff.mp he)) fun u hu => ?_
  exact ⟨_,u,hu⟩
 have hvals : ∀ l : List (Int × Value),l.Perm es.toList→((l.map (·.2)).map numOf).Perm ns := fun l hl => by
  refine rE List.map_map ?_; exact (hl.map _).trans hv
 unfold setDrawn
 refine wpAny_bind (wpAny_bind (wpAny_setState_of ho rfl hf ?_))
 refine wpAny_bind (byText_at ?_)
 show wpAny _ _ (pure (!w.params.followText "set-order" && (!t.plain && decide (es.size > 1)))) _ _ s
 refine wpAny_pure ?_
 by_cases hdr : (!w.params.followText "set-order" && (!t.plain && decide (es.size > 1))) = true
 ·refine rE (if_pos hdr) ?_
  refine wpAny_bind ?_
  refine rE (show drawOrder es.size (List.range es.size) = drawOrder (List.range es.size).length (List.range es.size) by rw [List.length_range]) ?_
  refine draw_order _ fun ds d hds => ?_
  have hdl : ds.length = es.size := by refine rE hds.length_eq (rE List.length_range rfl)
  refine wpAny_bind (wpAny_newTuple ?_ (by refine rE (List.length_map ..) (rE hdl ?_); exact fits_of_scanBound (by exact lt_of_eq_of_lt hlen hz)))
  refine wpAny_bind (wpAny_setEpoch_of (s := { s with heap := s.heap.push (seqObj "tuple" (ds.map fun (i : Nat) => rawInt i).toArray 0),drawn := d }) (Heap.get?_push_of_some _ ho) rfl hf ?_)
  refine wpAny_bind (wpAny_newObj_type (wpAny_pure ⟨_,rfl, "set_iterator",_,⟨_,Heap.get?_push_size _ rfl,rfl⟩,SI.slot_next.lookup,?_⟩))
  have hsz : (s.heap.push (seqObj "tuple" (ds.map fun (i : Nat) => rawInt i).toArray 0)).objs.size = s.heap.objs.size + 1 := size_push' ..
  have hp : (ds.map fun p => es.getD p (0,.none)).Perm es.toList := by
   refine (hds.map _).trans (.of_eq ?_)
   refine List.ext_getElem? fun i => ?_
   refine rE List.getElem?_map (rE (Array.getElem?_toList (xs := es)) ?_)
   by_cases hi : i < es.size
   ·refine rE (List.getElem?_range hi) (rE (getElem?_pos es i hi) (rE (Option.map_some ..) (rE Array.getD_eq_getD_getElem? (rE (getElem?_pos es i hi) ?_)))); rfl
   ·refine rE (List.getElem?_eq_none (by simp; exact Nat.le_of_not_lt hi)) (rE (Array.getElem?_eq_none (by exact Nat.le_of_not_lt hi)) ?_); rfl
  have hTI : s.heap.objs.size≠(s.heap.push (seqObj "tuple" (ds.map fun (i : Nat) => rawInt i).toArray 0)).objs.size := by refine rE hsz ?_; exact Nat.ne_of_lt (Nat.lt_succ_self _)
  refine h (s.heap.push (seqObj "tuple" (ds.map fun (i : Nat) => rawInt i).toArray 0)).objs.size ((s.heap.push (seqObj "tuple" (ds.map fun (i : Nat) => rawInt i).toArray 0)).push (itObj a (.ref s.heap.objs.size) 0 es.size ep)) d ((ds.map fun p => es.getD p (0,.none)).map (·.2)) (Ok2 a _ s.heap.objs.size es ep t ds) ⟨new_none (by refine rE hsz ?_; exact Nat.le_succ _),fun b o e => keep_push' _ _ b o (keep_push' _ _ b o e),go2 hA (haI _ (by refine rE hsz ?_; exact Nat.le_succ _)) hTI hf (by simp) ?_,⟨Heap.get?_push_of_some _ (Heap.get?_push_of_some _ ho),Heap.get?_push_of_some _ (Heap.get?_push_size _ rfl),Heap.get?_push_size _ rfl⟩,?_,hints _ hp,hvals _ hp,fun i h x => ⟨_,ho,x.1⟩,fun i h₁ h₂ ⟨x1,x2,x3⟩ ea eI k => ⟨ea.trans x1,k _ _ _ x2,eI.trans x3⟩,fun i h x => ⟨_,_,_,x.2.2⟩⟩
  ·intro i p hi
   have hpl : p < es.size := List.mem_range.mp (hds.mem_iff.mp (List.mem_of_getElem? hi))
   refine ⟨es[p],getElem?_pos es p hpl,?_⟩
   refine rE List.map_map (rE List.getElem?_map (rE hi (rE (Option.map_some ..) ?_)))
   show some (es.getD p (0,.none)).2 = _
   refine rE Array.getD_eq_getD_getElem? (rE (getElem?_pos es p hpl) ?_); rfl
  ·exact fun S i h₁ h₂ hSa hSn ⟨x1,x2,x3⟩ k => ⟨k a _ (Ne.symm hSa) x1,k _ _ (ne_of_old hSn (new_none (Nat.le_refl _))) x2,k _ _ (ne_of_old hSn (new_none (by refine rE hsz ?_; exact Nat.le_succ _))) x3⟩
 ·refine rE (if_neg hdr) ?_
  refine wpAny_bind (wpAny_pure ?_)
  refine wpAny_bind (wpAny_setEpoch_of ho rfl hf ?_)
  refine wpAny_bind (wpAny_newObj_type (wpAny_pure ⟨_,rfl, "set_iterator",_,⟨_,Heap.get?_push_size _ rfl,rfl⟩,SI.slot_next.lookup,?_⟩))
  have fr : ∀ (sok : Nat→Nat→Prop) S i h₁ h₂,S≠a→s.heap.get? S≠none→Ok1 a s.heap.objs.size es ep t sok i h₁→(∀ b o,b≠S→h₁.get? b = some o→h₂.get? b = some o)→Ok1 a s.heap.objs.size es ep t sok i h₂ :=
   fun sok S i h₁ h₂ hSa hSn ⟨x1,slot,x2,x3⟩ k => ⟨k a _ (Ne.symm hSa) x1,slot,x2,k _ _ (ne_of_old hSn (new_none (Nat.le_refl _))) x3⟩
  have st : ∀ sok : Nat→Nat→Prop,sok 0 0→Ok1 a s.heap.objs.size es ep t sok 0 (s.heap.push (itObj a (rawInt 0) 0 es.size ep)) := fun sok h0 => ⟨Heap.get?_push_of_some _ ho,0,h0,Heap.get?_push_size _ rfl⟩
  have loc : ∀ (sok : Nat→Nat→Prop) i h₁ h₂,Ok1 a s.heap.objs.size es ep t sok i h₁→h₂.get? a = h₁.get? a→h₂.get? s.heap.objs.size = h₁.get? s.heap.objs.size→(∀ b (items : Array Value) n,h₁.get? b = some (seqObj "tuple" items n)→h₂.get? b = some (seqObj "tuple" items n))→Ok1 a s.heap.objs.size es ep t sok i h₂ := fun sok i h₁ h₂ ⟨x1,slot,x2,x3⟩ ea eI k => ⟨ea.trans x1,slot,x2,eI.trans x3⟩
  by_cases hbt : w.params.followText "set-order" = true
  ·refine h s.heap.objs.size (s.heap.push (itObj a (rawInt 0) 0 es.size ep)) s.drawn ((pickOrder (w.params.setOrder a ep) es).toList.map (·.2)) (Ok1 a s.heap.objs.size es ep t fun _ _ => True) ⟨new_none (Nat.le_refl _),keep_push' _ _,go1 hA (haI _ (Nat.le_refl _)) hf ?_,st _ trivial,fun S i h₁ h₂ => fr _ S i h₁ h₂,hints _ (pick_perm _ _),hvals _ (pick_perm _ _),fun i h x => ⟨_,ho,x.1⟩,loc _,fun i h ⟨_,_,_,x3⟩ => ⟨_,_,_,x3⟩⟩
   intro i slot s₂ Q₂ E₂ _ hs hq
   unfold setNext
   refine wpAny_bind (wpAny_setState_of hs rfl hf ?_)
   dsimp only
   refine wpAny_bind (byText_at ?_)
   refine rE (if_pos hbt) (rE (if_neg (by simp)) ?_)
   refine wpAny_bind ?_
   unfold setWalk
   refine wpAny_bind (wpAny_setState_of hs rfl hf ?_)
   dsimp only
   refine wpAny_bind (byText_at ?_)
   refine rE (if_pos hbt) ?_
   refine wpAny_bind (wpAny_askSetting (wpAny_pure ?_))
   refine wpAny_pure ?_
   have := hq slot (.inl trivial)
   rw [List.getElem?_map,Array.getElem?_toList,Option.map_map] at this
   exact this
  ·refine h s.heap.objs.size (s.heap.push (itObj a (rawInt 0) 0 es.size ep)) s.drawn (es.toList.map (·.2)) (Ok1 a s.heap.objs.size es ep t fun i slot => SetTable.below t.place slot = i) ⟨new_none (Nat.le_refl _),keep_push' _ _,go1 hA (haI _ (Nat.le_refl _)) hf ?_,st _ (below_zero ht.rise),fun S i h₁ h₂ => fr _ S i h₁ h₂,hints _ (.refl _),hvals _ (.refl _),fun i h x => ⟨_,ho,x.1⟩,loc _,fun i h ⟨_,_,_,x3⟩ => ⟨_,_,_,x3⟩⟩
   intro i slot s₂ Q₂ E₂ hsl hs hq
   have hpl : (!t.plain && decide (es.size > 1)) = false := by
    cases q : (!t.plain && decide (es.size > 1)) with
    | false => rfl
    | true => exact absurd (by rw [q,Bool.not_eq_true] at *; simp [hbt]) hdr
   have hled : t.led = true := ht.led.resolve_left hbt
   have hzp : t.place.size = es.size := by
    simp only [SetTable.fits,Bool.and_eq_true,beq_iff_eq] at hf; exact hf.1
   unfold setNext
   refine wpAny_bind (wpAny_setState_of hs rfl hf ?_)
   dsimp only
   refine wpAny_bind (byText_at ?_)
   refine rE (if_neg hbt) ?_
   show wpAny _ _ (if (!t.plain && decide (es.size > 1)) = true then _ else _) _ _ _
   refine rE (if_neg (by rw [hpl]; decide)) ?_
   refine wpAny_bind ?_
   show wpAny _ _ (if (!t.led && !es.isEmpty) = true then unsupported "set:maker-not-led" else pure ()) _ _ _
   refine rE (if_neg (by rw [hled]; simp)) ?_
   refine wpAny_pure (wpAny_pure ?_)
   refine rE hsl ?_
   cases hp : t.place[i]? with
   | none =>
    have : es[i]? = none := Array.getElem?_eq_none (by have := Array.getElem?_eq_none_iff.mp hp; exact le_of_eq_of_le (id (Eq.symm hzp)) this)
    have hvn : (es.toList.map (·.2))[i]? = none := by refine rE List.getElem?_map (rE Array.getElem?_toList (rE this ?_)); rfl
    have := hq 0 (.inr hvn)
    rw [hvn] at this
    refine rE (‹es[i]? = none›) ?_
    exact this
   | some j =>
    have hlt : i < es.size := by have := (Array.getElem?_eq_some_iff.mp hp).1; exact Nat.lt_of_lt_of_eq this hzp
    have he : es[i]? = some es[i] := getElem?_pos es i hlt
    have := hq (j + 1) (.inl (below_next ht.rise hp))
    rw [List.getElem?_map,Array.getElem?_toList,he] at this
    refine rE he ?_
    exact this
end
end
end Mine
end
section
open PySem PySem.Calls PySem.W PyProof.Rows
set_option maxRecDepth 100000
namespace Mine
noncomputable section
section
variable {prog : Program} {w : World} {A : Around} {E : Value→Shared→Prop} {s : Shared} {a : Addr} {o : Obj} {ns : List Int}
end
end
end Mine
end
section
open PySem PyProof.Rows
namespace Mine
noncomputable section
noncomputable abbrev kf (p : Keyed) : Int := numOf p.1
noncomputable def IntK (p : Keyed) : Prop := ∃ n t,p.1 = .int n t
noncomputable def byd (left : Bool) (key x : Keyed) : Bool := if left = true then decide (kf x < kf key) else !decide (kf key < kf x)
noncomputable def gallopT : Bool→Keyed→Array Keyed→Nat→Nat→Nat→StateT SortSt Sem (Option Nat) := sortPriv% PySem.Builtin.gallop
section
variable {prog : Program} {w : World} {A : Around} {E : Value→Shared→Prop} {s : Shared}
noncomputable def GallOk (left : Bool) (key : Keyed) (xs : Nat→Keyed) (n k : Nat) : Prop := k≤n∧(∀ i,i < k→byd left key (xs i) = true)∧∀ i,k≤i→i < n→byd left key (xs i) = false
inductive LO (st : SortSt) (R : Nat→Nat→Prop) (c : Option (Option Nat) × Nat × Nat) (st' : SortSt) : Prop
 | mk (l o : Nat) (hc : c = (none,l,o)) (hs : st' = st) (h : R l o)
end
end
end Mine
end
section
open PySem PyProof.Rows
namespace Mine
noncomputable section
noncomputable abbrev SrtG (g : Keyed→Int) (l : List Keyed) : Prop := l.Pairwise fun x y => g x≤g y
noncomputable abbrev SrtL (l : List Keyed) : Prop := SrtG kf l
structure MI (g : Keyed→Int) (la lb lo : List Keyed) (ia ib : Nat) : Prop where
 perm : lo.Perm (la.take ia ++ lb.take ib)
 srt : SrtG g lo
 low : ∀ x ∈ lo,∀ y,(y ∈ la.drop ia∨y ∈ lb.drop ib)→g x≤g y
structure MRes (g : Keyed→Int) (la lb r : List Keyed) : Prop where
 perm : r.Perm (la ++ lb)
 srt : SrtG g r
section
variable {g : Keyed→Int} {la lb lo : List Keyed} {ia ib : Nat}
structure RunsG (g : Keyed→Int) (la lb : List Keyed) : Prop where
 sa : SrtG g la
 sb : SrtG g lb
 first : ∀ x y,la[0]? = some x→lb[0]? = some y→g y≤g x
 last : ∀ x y,la[la.length - 1]? = some x→y ∈ lb→g y≤g x
variable {x y : Keyed} {k : Nat}
end
structure SameG (st st' : SortSt) : Prop where
 kind : kindOf st' = kindOf st
 arr : arrOf st' = arrOf st
 pend : pendingOf st' = pendingOf st
 failed : failedOf st' = failedOf st
structure Runs (a b : Array Keyed) : Prop where
 ia : ∀ x ∈ a.toList,IntK x
 ib : ∀ x ∈ b.toList,IntK x
 sa : SrtL a.toList
 sb : SrtL b.toList
 na : 0 < a.size
 nb : 0 < b.size
 first : ∀ x y,a[0]? = some x→b[0]? = some y→kf y≤kf x
 last : ∀ x y,a[a.size - 1]? = some x→b[b.size - 1]? = some y→kf y≤kf x
inductive GetOk (a : Array Keyed) (i : Nat) : Prop
 | mk (x : Keyed) (h1 : a[i]? = some x) (h2 : a.toList[i]? = some x) (h3 : x ∈ a.toList) : GetOk a i
structure ML (a b : Array Keyed) (out : Array Keyed) (i j : Nat) : Prop where
 mi : MI kf a.toList b.toList out.toList i j
 hi : i + 1 < a.size
 hj : j < b.size
noncomputable abbrev lastOf (a b out : Array Keyed) (i j : Nat) : Array Keyed := out ++ b.extract j ++ a.extract i
noncomputable abbrev doneOf (a b out : Array Keyed) (i j : Nat) : Array Keyed := out ++ a.extract i ++ b.extract j
section
variable {a b out : Array Keyed} {i j k : Nat} {x y : Keyed}
end
end
end Mine
end
section
open PySem PyProof.Rows
namespace Mine
noncomputable section
noncomputable def mergeLoT : Array Keyed→Array Keyed→StateT SortSt Sem (Array Keyed) := sortPriv% PySem.Builtin.mergeLo
section
variable {prog : Program} {w : World} {A : Around} {E : Value→Shared→Prop} {s : Shared}
inductive LoSome (a b : Array Keyed) (st : SortSt) (st' : SortSt) {β : Type} : Option (Array Keyed) × β→Prop
 | mk (r : Array Keyed) (c2 : β) (S : SameG st st') (hr : MRes kf a.toList b.toList r.toList) : LoSome a b st st' (some r,c2)
inductive Lo1 (a b : Array Keyed) (st : SortSt) (P : Nat→Prop) (st' : SortSt) {γ : Type} : Option (Array Keyed) × Array Keyed × Nat × Nat × γ→Prop
 | mk (o : Array Keyed) (i j : Nat) (g : γ) (M : ML a b o i j) (S : SameG st st') (hx : P (i + j)) : Lo1 a b st P st' (none,o,i,j,g)
inductive Lo2 (a b : Array Keyed) (st : SortSt) (P : Nat→Prop) (st' : SortSt) {γ δ : Type} : Option (Array Keyed) × Array Keyed × Nat × Nat × γ × δ→Prop
 | mk (o : Array Keyed) (i j : Nat) (p : γ) (q : δ) (M : ML a b o i j) (S : SameG st st') (hx : P (i + j)) : Lo2 a b st P st' (none,o,i,j,p,q)
inductive Lo3 (a b : Array Keyed) (st : SortSt) (P : Nat→Prop) (st' : SortSt) {γ δ ε : Type} : Option (Array Keyed) × Array Keyed × Nat × Nat × γ × δ × ε→Prop
 | mk (o : Array Keyed) (i j : Nat) (g : γ) (p : δ) (q : ε) (M : ML a b o i j) (S : SameG st st') (hx : P (i + j)) : Lo3 a b st P st' (none,o,i,j,g,p,q)
end
end
end Mine
end
section
open PySem PyProof.Rows
namespace Mine
noncomputable section
noncomputable abbrev gN (x : Keyed) : Int := -kf x
structure MH (a b : Array Keyed) (out : Array Keyed) (na nb : Nat) : Prop where
 mi : MI gN b.toList.reverse a.toList.reverse out.toList (b.size - nb) (a.size - na)
 ha : na≤a.size
 hb : nb≤b.size
noncomputable abbrev doneHi (a b out : Array Keyed) (na nb : Nat) : Array Keyed := a.extract 0 na ++ b.extract 0 nb ++ out.reverse
noncomputable abbrev firstHi (a b out : Array Keyed) (na nb : Nat) : Array Keyed := b.extract 0 nb ++ a.extract 0 na ++ out.reverse
section
variable {a b out : Array Keyed} {na nb k : Nat} {x y : Keyed}
end
inductive Hi1 (a b : Array Keyed) (st : SortSt) (P : Nat→Prop) (st' : SortSt) {γ : Type} : Option (Array Keyed) × Nat × Nat × Array Keyed × γ→Prop
 | mk (o : Array Keyed) (i j : Nat) (g : γ) (M : MH a b o i j) (hi : 1≤i) (hj : 2≤j) (S : SameG st st') (hx : P (i + j)) : Hi1 a b st P st' (none,i,j,o,g)
inductive Hi2 (a b : Array Keyed) (st : SortSt) (P : Nat→Prop) (st' : SortSt) {γ δ : Type} : Option (Array Keyed) × Nat × Nat × Array Keyed × γ × δ→Prop
 | mk (o : Array Keyed) (i j : Nat) (p : γ) (q : δ) (M : MH a b o i j) (hi : 1≤i) (hj : 2≤j) (S : SameG st st') (hx : P (i + j)) : Hi2 a b st P st' (none,i,j,o,p,q)
inductive Hi3 (a b : Array Keyed) (st : SortSt) (P : Nat→Prop) (st' : SortSt) {γ δ ε : Type} : Option (Array Keyed) × Nat × Nat × Array Keyed × γ × δ × ε→Prop
 | mk (o : Array Keyed) (i j : Nat) (g : γ) (p : δ) (q : ε) (M : MH a b o i j) (hi : 1≤i) (hj : 2≤j) (S : SameG st st') (hx : P (i + j)) : Hi3 a b st P st' (none,i,j,o,g,p,q)
noncomputable def mergeHiT : Array Keyed→Array Keyed→StateT SortSt Sem (Array Keyed) := sortPriv% PySem.Builtin.mergeHi
section
variable {prog : Program} {w : World} {A : Around} {E : Value→Shared→Prop} {s : Shared}
end
end
end Mine
end
section
open PySem PyProof.Rows
namespace Mine
noncomputable section
noncomputable def runsAt : Nat→List (List Keyed)→List (Nat × Nat)
 | _,[] => []
 | s,r :: R => (s,r.length) :: runsAt (s + r.length) R
structure SI (a₀ : Array Keyed) (st : SortSt) (Rs : List (List Keyed)) (rest : List Keyed) : Prop where
 arr : (arrOf st).toList = Rs.flatten ++ rest
 perm : (arrOf st).Perm a₀
 kind : kindOf st = oneType'
 failed : failedOf st = none
 pend : (pendingOf st).toList.map (fun p => (p.1,p.2.1)) = runsAt 0 Rs
 run : ∀ r ∈ Rs,r≠[]∧SrtL r
noncomputable def mergeAtT : Nat→StateT SortSt Sem Bool := sortPriv% PySem.Builtin.mergeAt
section
variable {prog : Program} {w : World} {A : Around} {E : Value→Shared→Prop} {s : Shared} {a₀ : Array Keyed}
end
end
end Mine
end
section
open PySem PyProof.Rows
namespace Mine
noncomputable section
structure FR (st st' : SortSt) (lo hi : Nat) : Prop where
 kind : kindOf st' = kindOf st
 pend : pendingOf st' = pendingOf st
 failed : failedOf st' = failedOf st
 perm : (arrOf st').Perm (arrOf st)
 out : ∀ i,i < lo∨hi≤i→(arrOf st')[i]? = (arrOf st)[i]?
structure SP (a₀ : Array Keyed) (st : SortSt) : Prop where
 perm : (arrOf st).Perm a₀
 kind : kindOf st = oneType'
noncomputable def Dist (a₀ : Array Keyed) : Prop := (a₀.toList.map kf).Nodup
variable {a₀ : Array Keyed}
noncomputable def SortedAt (xs : Array Keyed) (lo k : Nat) : Prop := ∀ i j,i≤j→j < k→K xs (lo + i)≤K xs (lo + j)
noncomputable def NonIncAt (xs : Array Keyed) (lo k : Nat) : Prop := ∀ i j,i≤j→j < k→K xs (lo + j)≤K xs (lo + i)
section
variable {prog : Program} {w : World} {A : Around} {E : Value→Shared→Prop} {s : Shared}
inductive LR (st : SortSt) (R : Nat→Nat→Prop) (c : Option Bool × Nat × Nat) (st' : SortSt) : Prop
 | mk (hs : st' = st) (l r : Nat) (hc : c = (none,l,r)) (h : R l r)
end
end
end Mine
end
section
open PySem PyProof.Rows
namespace Mine
noncomputable section
variable {a₀ : Array Keyed}
inductive RnI (a₀ : Array Keyed) (x : Nat) (c : Option Unit × Nat) (st' : SortSt) : Prop
 | mk (Rs : List (List Keyed)) (rest : List Keyed) (hc : c = (none,Rs.flatten.length)) (S : SI a₀ st' Rs rest) (hx : rest = []∨x≤Rs.flatten.length)
inductive RnQ (a₀ : Array Keyed) (c : Option Unit × Nat) (st' : SortSt) : Prop
 | mk (Rs : List (List Keyed)) (hc : c = (none,Rs.flatten.length)) (S : SI a₀ st' Rs [])
inductive RnP (a₀ : Array Keyed) (rest : List Keyed) (n : Nat) (c : Option Unit × Unit) (st' : SortSt) : Prop
 | mk (hc : c = (none,())) (Rs' : List (List Keyed)) (S : SI a₀ st' Rs' rest) (hl : Rs'.flatten.length = n)
section
variable {prog : Program} {w : World} {A : Around} {E : Value→Shared→Prop} {s : Shared}
end
end
end Mine
end
section
open PySem PySem.Calls PySem.W PyProof.Rows
set_option maxRecDepth 100000
namespace Mine
noncomputable section
section
variable {prog : Program} {w : World} {A : Around} {E : Value→Shared→Prop} {s : Shared}
end
section
variable {C : Cx} {A : Around} {m : Loc} {H : CH} {s : Shared} {Q : V→Loc→CH→Prop}
end
end
end Mine
end
section
open PySem PySem.Calls PySem.W PyProof.Rows
set_option maxRecDepth 100000
namespace Mine
noncomputable section
theorem bits_small {h : Int} (h0 : 0≤h) (h6 : h≤6) : SetTable.bits h = h.toNat := by
 unfold SetTable.bits
 refine rE (Int.emod_eq_of_lt h0 (by omega)) rfl
theorem free_small {owner : Array (Option Nat)} {mask n j p : Nat} (h : owner[j]? = some none) : SetTable.layClean.free mask owner (n + 1) j p = some j := by
 unfold SetTable.layClean.free
 have hpos : ∃ r,SetTable.runEnd mask j + 1 - j = r + 1 := by
  refine ⟨SetTable.runEnd mask j - j,?_⟩
  have : j≤SetTable.runEnd mask j := by unfold SetTable.runEnd; split <;> lia
  exact Nat.sub_add_comm this
 refine eE hpos fun r hr => ?_
 refine rE hr (rE List.range_succ_eq_map (rE List.find?_cons ?_))
 have : (owner.getD (j + 0) (some 0)).isNone = true := by
  refine rE (Nat.add_zero ..) (rE Array.getD_eq_getD_getElem? (rE h ?_)); rfl
 refine rE this ?_
 rfl
structure Owned (owner : Array (Option Nat)) (mask : Nat) (L : List Nat) : Prop where
 size : owner.size = mask + 1
 at_ : ∀ j,j≤mask→owner[j]? = some (if j ∈ L then some (L.idxOf j) else none)
theorem owned_fold {mask : Nat} (hm : 6≤mask) : ∀ (hs : List Int) (L : List Nat) (owner : Array (Option Nat)),(∀ h ∈ hs,0≤h∧h≤6)→(L ++ hs.map Int.toNat).Nodup→(∀ j ∈ L,j≤6)→Owned owner mask L →
  ∃ owner',hs.foldl (fun (acc : Option (Array (Option Nat) × Nat)) h => do
    let (owner,k) ← acc
    let j ← SetTable.layClean.free mask owner (SetTable.turns mask) (SetTable.bits h % (mask + 1)) (SetTable.bits h)
    pure (owner.setIfInBounds j (some k),k + 1)) (some (owner,L.length)) = some (owner',(L ++ hs.map Int.toNat).length)∧Owned owner' mask (L ++ hs.map Int.toNat)
 | [],L,owner,_,_,_,O => ⟨owner,by simp,by simpa using O⟩
 | h :: hs,L,owner,hb,hn,hL,O => by
  refine eA (hb h List.mem_cons_self) fun h0 h6 => ?_
  have hj : h.toNat≤6 := by exact (fun {m} {n} => Int.toNat_le.mpr) h6
  have hnL : h.toNat ∉ L := fun q => by
   rw [List.nodup_append] at hn
   exact hn.2.2 _ q _ (List.mem_map.mpr ⟨h,List.mem_cons_self,rfl⟩) rfl
  have e1 : SetTable.bits h % (mask + 1) = h.toNat := by refine rE (bits_small h0 h6) ?_; exact Nat.mod_eq_of_lt (by lia)
  have e2 : SetTable.layClean.free mask owner (SetTable.turns mask) (SetTable.bits h % (mask + 1)) (SetTable.bits h) = some h.toNat := by
   refine rE e1 (rE (show SetTable.turns mask = (mask + 14) + 1 from rfl) ?_)
   exact free_small (by refine rE (O.at_ _ (by exact Nat.le_trans hj hm)) (rE (if_neg hnL) rfl))
  have O' : Owned (owner.setIfInBounds h.toNat (some L.length)) mask (L ++ [h.toNat]) := by
   refine ⟨by refine rE Array.size_setIfInBounds ?_; exact O.size,fun j hj => ?_⟩
   refine rE Array.getElem?_setIfInBounds ?_
   by_cases e : h.toNat = j
   ·subst e
    refine rE (if_pos rfl) (rE (if_pos (by rw [O.size]; exact Nat.lt_succ_of_le hj)) (rE (if_pos (by simp)) ?_))
    congr 2
    refine rE List.idxOf_append (rE (if_neg hnL) ?_); simp
   ·refine rE (if_neg e) (rE (O.at_ j hj) ?_)
    have : (j ∈ L ++ [h.toNat])↔j ∈ L := by simp; intro q; exact absurd q.symm e
    by_cases q : j ∈ L
    ·refine rE (if_pos q) (rE (if_pos (this.mpr q)) (rE List.idxOf_append (rE (if_pos q) rfl)))
    ·refine rE (if_neg q) (rE (if_neg (fun w => q (this.mp w))) rfl)
  have ea : (L ++ [h.toNat]) ++ hs.map Int.toNat = L ++ (h :: hs).map Int.toNat := by simp
  refine eEA (owned_fold hm hs (L ++ [h.toNat]) _ (fun x hx => hb x (List.mem_cons_of_mem _ hx)) (by rw [ea]; exact hn) (fun j hj => by
   rcases List.mem_append.mp hj with q | q
   ·exact hL j q
   ·rw [List.mem_singleton.mp q]; omega) O') fun owner' f1 f2 => ?_
  rw [ea] at f1 f2
  refine ⟨owner',?_,f2⟩
  refine rE List.foldl_cons ?_
  have : (do
    let (owner,k) ← (some (owner,L.length) : Option (Array (Option Nat) × Nat))
    let j ← SetTable.layClean.free mask owner (SetTable.turns mask) (SetTable.bits h % (mask + 1)) (SetTable.bits h)
    pure (owner.setIfInBounds j (some k),k + 1)) = some (owner.setIfInBounds h.toNat (some L.length),(L ++ [h.toNat]).length) := by
   show (SetTable.layClean.free mask owner (SetTable.turns mask) (SetTable.bits h % (mask + 1)) (SetTable.bits h)).bind (fun j => some (owner.setIfInBounds j (some L.length),L.length + 1)) = _
   refine rE e2 (rE List.length_append ?_); rfl
  refine rE this ?_
  exact f1
theorem map_idx {L : List Nat} (h : L.Nodup) : L.map (L.idxOf ·) = List.range L.length := by
 apply List.ext_getElem?
 intro i
 refine rE List.getElem?_map ?_
 by_cases hi : i < L.length
 ·refine rE (List.getElem?_eq_getElem hi) (rE (List.getElem?_range hi) ?_)
  show some (L.idxOf L[i]) = some i
  refine rE (List.Nodup.idxOf_getElem h i hi) rfl
 ·refine rE (List.getElem?_eq_none (by exact Nat.le_of_not_lt hi)) (rE (List.getElem?_eq_none (by simp; exact Nat.le_of_not_lt hi)) ?_); rfl
theorem laid_small {mask finger moves : Nat} {led plain : Bool} {hs : Array Int} (hm : 6≤mask) (hb : ∀ h ∈ hs.toList,0≤h∧h≤6) (hn : hs.toList.Nodup) :
  ∃ t order,SetTable.laid mask finger moves led plain hs = some (t,order)∧order.toList.Perm (List.range hs.size)∧Rise t.place.toList∧t.place.size = hs.size∧t.dummies = #[]∧t.mask = mask∧t.led = led := by
 have hnL : (hs.toList.map Int.toNat).Nodup := List.pairwise_map.mpr (List.Pairwise.imp_of_mem (fun {x y} hx hy hxy e => hxy (by
  have := hb x hx; have := hb y hy; (clear hm hxy; grind))) hn)
 have O0 : Owned (Array.replicate (mask + 1) none) mask [] := ⟨by simp,fun j hj => by
  refine rE Array.getElem?_replicate (rE (if_pos (by exact Nat.lt_succ_of_le hj)) ?_); simp⟩
 obtain ⟨owner,f1,f2⟩ := owned_fold hm hs.toList [] _ hb (by simpa using hnL) (by intro _ h; cases h) O0
 rw [List.nil_append] at f1 f2
 have e1 : SetTable.layClean mask hs = some owner := by
  unfold SetTable.layClean
  refine rF (Array.foldl_toList ..) ?_
  rw [show (([] : List Nat).length) = 0 from rfl] at f1
  refine rE f1 ?_; rfl
 generalize hLdef : hs.toList.map Int.toNat = L at *
 have hLlen : L.length = hs.size := by refine rF hLdef ?_; simp
 have hL6 : ∀ j ∈ L,j≤mask := fun j hj => by
  rw [← hLdef] at hj
  refine eEA (List.mem_map.mp hj) fun h hh zz2 => ?_; subst zz2
  have := hb h hh; lia
 have e2 : (List.range (mask + 1)).filterMap (fun j => (owner.getD j none).map (j,·)) = ((List.range (mask + 1)).filter fun j => decide (j ∈ L)).map fun j => (j,L.idxOf j) := by
  have : ∀ l : List Nat,(∀ j ∈ l,j≤mask)→l.filterMap (fun j => (owner.getD j none).map (j,·)) = (l.filter fun j => decide (j ∈ L)).map fun j => (j,L.idxOf j) := by
   intro l
   induction l with
   | nil => intro _; rfl
   | cons j l ih =>
    intro h
    have hj := f2.at_ j (h j List.mem_cons_self)
    have eg : owner.getD j none = if j ∈ L then some (L.idxOf j) else none := by refine rE Array.getD_eq_getD_getElem? (rE hj ?_); rfl
    have ih := ih fun x hx => h x (List.mem_cons_of_mem _ hx)
    refine rE List.filterMap_cons (rE eg ?_)
    by_cases q : j ∈ L
    ·refine rE (if_pos q) (rE (List.filter_cons_of_pos (by simpa using q)) (rE List.map_cons (rF ih ?_))); rfl
    ·refine rE (if_neg q) (rE (List.filter_cons_of_neg (by simpa using q)) (rF ih ?_)); rfl
  exact this _ fun j hj => by have := List.mem_range.mp hj; exact Nat.le_of_lt_succ this
 have hperm : ((List.range (mask + 1)).filter fun j => decide (j ∈ L)).Perm L := (List.perm_ext_iff_of_nodup (List.nodup_range.filter _) hnL).mpr fun j => by
  rw [List.mem_filter,List.mem_range]
  constructor
  ·intro h; simpa using h.2
  ·intro h; exact ⟨by have := hL6 j h; exact Nat.lt_succ_of_le (hL6 j h),by simpa using h⟩
 refine ⟨_,_,by unfold SetTable.laid; refine rE e1 ?_; rfl,?_,?_,?_,rfl,rfl,rfl⟩
 ·refine rE e2 (rE List.map_map ?_)
  refine (hperm.map _).trans ?_
  refine rE (show L.map (Prod.snd ∘ fun j => (j,L.idxOf j)) = L.map (L.idxOf ·) from rfl) (rE (map_idx hnL) (rE hLlen ?_)); rfl
 ·refine rE e2 (rE List.map_map (rE (show (Prod.fst ∘ fun j : Nat => (j,L.idxOf j)) = id from rfl) (rE (List.map_id ..) ?_)))
  exact List.pairwise_lt_range.filter _
 ·refine rE e2 (rE List.map_map ?_)
  dsimp only
  refine rE List.size_toArray (rE (List.length_map ..) (rE hperm.length_eq (rE hLlen rfl)))
end
end Mine
end
section
open PySem PySem.Calls PySem.W PyProof.Rows
set_option maxRecDepth 100000
namespace Mine
noncomputable section
theorem setRelay_eq (a : Addr) (wanted : Nat) : setRelay a wanted = (do
  let (es,_,t) ← setState a
  if SetTable.sizeAbove wanted > sizeLine then unsupported "set:memory"
  let (es,t) ← (do
   let some (t,order) := t.relaid (es.map (·.1)) wanted | unsupported "internal:set-table-without-room"
   let es' := order.filterMap (es[·]?)
   if es'.size != es.size then unsupported "internal:set-table-lost-an-element"
   pure (es',t))
  storeSet a es t) := rfl
noncomputable abbrev Tiny (ns : List Int) : Prop := ns.Nodup∧∀ x ∈ ns,0≤x∧x≤6
noncomputable def MaskOk (o : Obj) : Prop := ∀ (es : Array (Int × Value)) (ep : Nat) (t : SetTable),o = { cls := .type "set",dict := none,data := .set es ep t,slots := #[] }→7≤t.mask
theorem hashInt_tiny {k : Int} (h0 : 0≤k) (h6 : k≤6) : hashInt k = k := by
 obtain ⟨n,rfl⟩ : ∃ n : Nat,k = n := ⟨k.toNat,by lia⟩
 have : n≤6 := by lia
 match n,this with
 | 0,_ | 1,_ | 2,_ | 3,_ | 4,_ | 5,_ | 6,_ => decide
theorem tiny_len {ns : List Int} (h : Tiny ns) : ns.length≤7 := by
 have : ∀ (l k : List Int),l.Nodup→(∀ x ∈ l,x ∈ k)→l.length≤k.length := by
  intro l
  induction l with
  | nil => intro _ _ _; exact Nat.zero_le _
  | cons a l ih =>
   intro k hn h
   have ha := h a List.mem_cons_self
   have := ih (k.erase a) (List.nodup_cons.mp hn).2 fun x hx => by
    have hxa : x≠a := fun e => (List.nodup_cons.mp hn).1 (e ▸ hx)
    exact (List.mem_erase_of_ne hxa).mpr (h x (List.mem_cons_of_mem _ hx))
   rw [List.length_erase_of_mem ha] at this
   have hp := List.length_pos_of_mem ha
   refine rE List.length_cons ?_; exact Nat.add_le_of_le_sub hp this
 exact this ns [0,1,2,3,4,5,6] h.1 fun x hx => by
  have := h.2 x hx
  have : x = 0∨x = 1∨x = 2∨x = 3∨x = 4∨x = 5∨x = 6 := by lia
  simpa using this
section
variable {prog : Program} {w : World} {A : Around} {E : Value→Shared→Prop} {s : Shared}
theorem tiny_hashes {es : Array (Int × Value)} {ns : List Int} (hel : ElemsOf (intKind prog w) es.toList) (hv : (es.toList.map fun e => numOf e.2).Perm ns) (ht : Tiny ns) : (es.map (·.1)).toList = es.toList.map (fun e => numOf e.2) := by
 refine rE Array.toList_map ?_
 refine List.map_congr_left fun e he => ?_
 obtain ⟨⟨k,hk,hh⟩,_⟩ := hel e he
 obtain ⟨u,hu⟩ := Value.isInt_shape hk
 have : k ∈ ns := hv.mem_iff.mp (List.mem_map.mpr ⟨e,he,by refine rE hu ?_; rfl⟩)
 have := ht.2 k this
 refine rE hh (rE hu ?_)
 show hashInt k = k
 exact hashInt_tiny this.1 this.2
theorem reorder_perm {order : Array Nat} {es : Array (Int × Value)} (h : order.toList.Perm (List.range es.size)) : (order.filterMap (es[·]?)).toList.Perm es.toList := by
 refine rE Array.toList_filterMap ?_
 refine (h.filterMap _).trans ?_
 refine rE (filterMap_getElem?_range ..) ?_; rfl
theorem above_ok {n : Nat} (h : n≤40) : 8≤SetTable.sizeAbove n∧SetTable.sizeAbove n≤64 := by
 have : ∀ n,n < 41→8≤SetTable.sizeAbove n∧SetTable.sizeAbove n≤64 := by decide
 exact this n (by exact Nat.lt_succ_of_le h)
theorem relay_int {a : Addr} {o : Obj} {ns : List Int} {wanted : Nat} {Q : Unit→Shared→Prop} (ho : s.heap.get? a = some o) (hS : ISet prog w o ns) (ht : Tiny ns) (hw : wanted≤40)
  (h : ∀ h' o',Heap.SameBut a s.heap h'→h'.get? a = some o'→ISet prog w o' ns→MaskOk o'→Q () { s with heap := h' }) :
  wpAny (model prog w) A (setRelay a wanted) Q E s := by
 obtain ⟨es,ep,t,rfl,hel,hv,hf,htab⟩ := hS
 have hlen : es.size = ns.length := by have := hv.length_eq; simpa using this
 have h7 := tiny_len ht
 have hh := tiny_hashes hel hv ht
 refine eA (above_ok hw) fun b1 b2 => ?_
 refine rE (setRelay_eq ..) ?_
 refine wpAny_bind (wpAny_setState_of ho rfl hf ?_)
 dsimp only
 refine rE (if_neg (by rw [sizeLine_eq]; omega)) ?_
 obtain ⟨t',order,e,hp,hr,hz,hd,hm,hled⟩ := laid_small (mask := SetTable.sizeAbove wanted - 1) (finger := t.finger) (moves := t.movedTo (SetTable.sizeAbove wanted - 1)) (led := t.led) (plain := t.plain) (hs := es.map (·.1)) (by grind)
  (fun x hx => by rw [hh] at hx; exact ht.2 x (hv.mem_iff.mp hx)) (by refine rE hh ?_; exact hv.nodup_iff.mpr ht.1)
 rw [Array.size_map] at hp hz
 have hp2 := reorder_perm hp
 have hsz : (order.filterMap (es[·]?)).size = es.size := by refine rF Array.length_toList (rE hp2.length_eq (rE Array.length_toList rfl))
 have hrel : t.relaid (es.map (·.1)) wanted = some (t',order) := e
 simp only [hrel]
 have hne : ((order.filterMap (es[·]?)).size != es.size) = false := by refine rE hsz ?_; simp
 have hfit : t'.fits (order.filterMap (es[·]?)).size = true := by
  refine rE hsz ?_
  simp only [SetTable.fits,SetTable.fill,hd,hz,hm,Bool.and_eq_true,beq_iff_eq,decide_eq_true_eq]
  refine ⟨trivial,?_⟩
  simp; lia
 refine wpAny_bind ?_
 refine rE hne (rE (if_neg (by decide)) ?_)
 refine wpAny_pure ?_
 refine wpAny_storeSet_of ho rfl ?_ (by refine rE hsz (rE sizeLine_eq ?_); omega)
 refine h _ _ (Heap.SameBut.update s.heap a _) (store_at ho _ t') ⟨_,_,t',rfl,hel.perm hp2,(hp2.map _).trans hv,hfit,⟨hr,by refine rE hled ?_; exact htab.led⟩⟩ fun es1 ep1 t1 e1 => by cases e1; refine rE hm ?_; exact Nat.le_sub_one_of_lt b1
end
end
end Mine
end
section
open PySem PySem.Calls PySem.W PyProof.Rows
set_option maxRecDepth 100000
namespace Mine
noncomputable section
section
variable {prog : Program} {w : World} {A : Around} {E : Value→Shared→Prop} {s : Shared}
theorem setsQuiet_int {sets : List Addr} {Q : Bool→Shared→Prop} (h : ∀ a ∈ sets,∃ o ns,s.heap.get? a = some o∧ISet prog w o ns) (hq : Q true s) : wpAny (model prog w) A (setsQuiet sets) Q E s := by
 unfold setsQuiet
 refine wpAny_bind (wpAny_forIn_list _ (fun rest b s' => b = ⟨none,⟨⟩⟩∧s' = s∧∀ a ∈ rest,a ∈ sets) _ ?_ ?_ _ _ ⟨rfl,rfl,fun _ h => h⟩)
 ·rintro a rest b s' ⟨rfl,rfl,hr⟩
  obtain ⟨o,ns,ho,es,ep,t,rfl,hel,hv,hf,ht⟩ := h a (hr a List.mem_cons_self)
  refine wpAny_bind (wpAny_setEntries_of ho rfl hf ?_)
  refine rF Array.forIn_toList ?_
  refine wpAny_bind (wpAny_forIn_list _ (fun rest2 b s'' => b = ⟨none,⟨⟩⟩∧s'' = s'∧∀ e ∈ rest2,e ∈ es.toList) _ ?_ ?_ _ _ ⟨rfl,rfl,fun _ h => h⟩)
  ·rintro e rest2 b s'' ⟨rfl,rfl,hr2⟩
   refine eE (elem_int hel (hr2 e List.mem_cons_self)) fun u hu => ?_
   obtain ⟨e1,e2⟩ := e
   dsimp only at hu
   generalize numOf e2 = k at hu
   subst hu
   refine wpAny_pure ?_
   exact ⟨rfl,rfl,fun x hx => hr2 x (List.mem_cons_of_mem _ hx)⟩
  ·rintro b s'' ⟨rfl,rfl,_⟩
   refine wpAny_pure ?_
   exact ⟨rfl,rfl,fun x hx => hr x (List.mem_cons_of_mem _ hx)⟩
 ·rintro b s' ⟨rfl,rfl,_⟩
  exact wpAny_pure hq
theorem byText_at' {Q : Bool→Shared→Prop} (h : Q (w.params.followText "set-order") s) : wpAny (model prog w) A setsByText Q E s := by
 unfold setsByText
 exact wpAny_bind (wpAny_askSetting (wpAny_pure h))
theorem iset_flags {es : Array (Int × Value)} {ep : Nat} {t : SetTable} {ns : List Int} {b1 b2 : Bool} (hel : ElemsOf (intKind prog w) es.toList) (hv : (es.toList.map fun e => numOf e.2).Perm ns) (hf : t.fits es.size = true) (ht : TabOk (w.params.followText "set-order") t) (hb : w.params.followText "set-order" = true∨b1 = true) :
  ISet prog w { cls := .type "set",dict := none,data := .set es ep { t with led := b1,plain := b2 },slots := #[] } ns :=
 ⟨es,ep,_,rfl,hel,hv,hf,⟨ht.rise,hb⟩⟩
theorem walkUnseen_int {a b : Addr} {oa ob : Obj} {ns ms : List Int} {Q : Array (Int × Value)→Shared→Prop} (ha : s.heap.get? a = some oa) (hb : s.heap.get? b = some ob) (hA : ISet prog w oa ns) (hB : ISet prog w ob ms) (hz : ns.length < scanBound)
  (h : ∀ h' oa' es,Heap.SameBut a s.heap h'→h'.get? a = some oa'→ISet prog w oa' ns→(es.toList.map fun e => numOf e.2).Perm ms→ElemsOf (intKind prog w) es.toList→Q es { s with heap := h' }) :
  wpAny (model prog w) A (setWalkUnseen b [a] (some a)) Q E s := by
 have hA0 := hA
 have hB0 := hB
 obtain ⟨es,ep,t,rfl,hel,hv,hf,ht⟩ := hB
 obtain ⟨ea,epa,ta,rfl,hela,hva,hfa,hta⟩ := hA
 have here : ∀ es' : Array (Int × Value),es'.toList.Perm es.toList→Q es' s := fun es' hp => by
  have := h s.heap _ es' (Heap.SameBut.refl a s.heap) ha hA0 ((hp.map _).trans hv) (hel.perm hp)
  exact this
 unfold setWalkUnseen
 refine wpAny_bind (wpAny_setState_of hb rfl hf ?_)
 dsimp only
 refine wpAny_bind (byText_at' ?_)
 by_cases h1 : (w.params.followText "set-order" || t.led && t.plain || decide (es.size≤1)) = true
 ·refine rE (if_pos h1) ?_
  unfold setWalk
  refine wpAny_bind (wpAny_setState_of hb rfl hf ?_)
  dsimp only
  refine wpAny_bind (byText_at' ?_)
  by_cases hbt : w.params.followText "set-order" = true
  ·refine rE (if_pos hbt) ?_
   refine wpAny_bind (wpAny_askSetting (wpAny_pure ?_))
   exact here _ (pick_perm _ _)
  ·refine rE (if_neg hbt) ?_
   have hled : t.led = true := ht.led.resolve_left hbt
   have hdr : (!t.plain && decide (es.size > 1)) = false := by
    rw [Bool.not_eq_true] at hbt
    rw [hbt,hled] at h1
    simp at h1
    simp
    intro hp
    rcases h1 with q | q
    ·rw [q] at hp; cases hp
    ·exact q
   show wpAny _ _ (if (!t.plain && decide (es.size > 1)) = true then _ else _) _ _ _
   refine rE (if_neg (by rw [hdr]; decide)) ?_
   show wpAny _ _ (do (if (!t.led && decide (es.size > 1)) = true then unsupported "set:maker-not-led" else pure ()); pure es) _ _ _
   refine rE (if_neg (by rw [hled]; simp)) ?_
   exact wpAny_bind (wpAny_pure (wpAny_pure (here _ (.refl _))))
 ·refine rE (if_neg h1) ?_
  refine wpAny_bind (setsQuiet_int (fun x hx => ?_) ?_)
  ·rcases List.mem_cons.mp hx with rfl | hx
   ·exact ⟨_,_,hb,hB0⟩
   ·refine rE (List.mem_singleton.mp hx) ?_; exact ⟨_,_,ha,hA0⟩
  simp only [Bool.not_true,Bool.false_eq_true,if_false]
  refine wpAny_bind (wpAny_rule ?_)
  refine wpAny_bind (wpAny_setState_of ha rfl hfa ?_)
  dsimp only
  have hbt : ¬ w.params.followText "set-order" = true := fun q => h1 (by refine rE q ?_; rfl)
  have hled : t.led = true := ht.led.resolve_left hbt
  have hleda : ta.led = true := hta.led.resolve_left hbt
  split
  ·refine wpAny_bind (wpAny_storeSet_of ha rfl ?_ (fits_of_scanBound (by have := hva.length_eq; simp at this; exact lt_of_eq_of_lt this hz)))
   ·refine wpAny_pure ?_
    refine h _ _ es (Heap.SameBut.update s.heap a _) (store_at ha _ _) ?_ hv hel
    exact iset_flags hela hva hfa hta (.inr (by refine rE hleda (rE hled ?_); rfl))
  ·exact wpAny_pure (here _ (.refl _))
theorem roomFor_int {a : Addr} {o : Obj} {ns : List Int} {more : Nat} {Q : Unit→Shared→Prop} (ho : s.heap.get? a = some o) (hS : ISet prog w o ns) (ht : Tiny ns) (hm : ns = []→MaskOk o) (hmo : more≤7)
  (h : ∀ h' o',Heap.SameBut a s.heap h'→h'.get? a = some o'→ISet prog w o' ns→(ns = []→MaskOk o')→Q () { s with heap := h' }) : wpAny (model prog w) A (setRoomFor a more) Q E s := by
 have hS0 := hS
 obtain ⟨es,ep,t,rfl,hel,hv,hf,htab⟩ := hS
 have h7 := tiny_len ht
 have hlen : es.size = ns.length := by have := hv.length_eq; simpa using this
 have hpl : t.place.size = es.size := by simp only [SetTable.fits,Bool.and_eq_true,beq_iff_eq] at hf; exact hf.1
 unfold setRoomFor
 refine wpAny_bind (wpAny_setState_of ho rfl hf ?_)
 dsimp only
 unfold SetTable.roomFor
 by_cases q : (t.fill + more) * 5 ≥ t.mask * 3
 ·refine rE (if_pos q) ?_
  dsimp only
  exact relay_int ho hS0 ht (by lia) fun h' o' a1 a2 a3 a4 => h h' o' a1 a2 a3 fun _ => a4
 ·refine rE (if_neg q) ?_
  dsimp only
  exact wpAny_pure (h s.heap _ (Heap.SameBut.refl a s.heap) ho hS0 hm)
theorem setMerge_eq (s o : Addr) (each : Sem Unit) : setMerge s o each = (do
  if s == o then return
  let (eo,epoch,to) ← setState o
  if eo.isEmpty then return
  setRoomFor s eo.size
  let (_,_,ts) ← setState s
  match ts.road to with
  | .slotForSlot => storeSet s eo { to with finger := ts.finger,led := ts.led && to.led,moves := ts.moves,plain := ts.plain && to.plain }
  | .clean =>
   let (es,t) ← (do
    let some (t,order) := SetTable.laid ts.mask ts.finger ts.moves (led := ts.led && to.led) (plain := ts.plain && to.plain) (eo.map (·.1)) | unsupported "internal:set-table-without-room"
    let es' := order.filterMap (eo[·]?)
    if es'.size != eo.size then unsupported "internal:set-table-lost-an-element"
    pure (es',t))
   storeSet s es t
  | .oneByOne =>
   for (h,x) in ← setWalkUnseen o [s] (some s) do
    let _ ← holding [x] (setAddHashed s x h)
    each
    if (← setState o).2.1 != epoch then unsupported "set.changed-during-merge") := rfl
set_option maxHeartbeats 1000000 in
set_option tactic.hygienic true in
theorem merge_int {a b : Addr} {oa ob : Obj} {ns ms : List Int} {each : Sem Unit} {Q : Unit→Shared→Prop} (hab : a≠b) (ha : s.heap.get? a = some oa) (hb : s.heap.get? b = some ob) (hA : ISet prog w oa ns) (hB : ISet prog w ob ms) (tn : Tiny ns) (tm : Tiny ms) (hm : ns = []→MaskOk oa)
  (heach : ∀ (s' : Shared) (Q' : Unit→Shared→Prop),s'.heap.get? b = some ob→Q' () s'→wpAny (model prog w) A each Q' E s')
  (h : ∀ h' oa' us,Heap.SameBut a s.heap h'→h'.get? a = some oa'→ISet prog w oa' us→Tiny us→(∀ x,x ∈ us↔x ∈ ns∨x ∈ ms)→(ms = []→oa' = oa)→Q () { s with heap := h' }) :
  wpAny (model prog w) A (setMerge a b each) Q E s := by
 have hB0 := hB
 obtain ⟨eb,epb,tb,rfl,helb,hvb,hfb,htb⟩ := hB
 have h7n := tiny_len tn
 have h7m := tiny_len tm
 have hlb : eb.size = ms.length := by have := hvb.length_eq; simpa using this
 refine rE (setMerge_eq ..) ?_
 refine rE (if_neg (by simpa using hab)) ?_
 refine wpAny_bind (wpAny_setState_of hb rfl hfb ?_)
 dsimp only
 by_cases he : eb.isEmpty = true
 ·refine rE (if_pos he) ?_
  have hms : ms = [] := by
   have : eb.size = 0 := by simpa using he
   exact List.length_eq_zero_iff.mp (by lia)
  exact wpAny_pure (h s.heap oa ns (Heap.SameBut.refl a s.heap) ha hA tn (fun x => by refine rE hms ?_; simp) fun _ => rfl)
 refine rE (if_neg he) ?_
 have hms : ms≠[] := fun e => he (by rw [e] at hlb; simpa using hlb)
 refine wpAny_bind (roomFor_int ha hA tn hm (by exact le_of_eq_of_le hlb h7m) fun h1 oa1 sb1 ha1 hA1 hm1 => ?_)
 have hb1 : h1.get? b = some { cls := .type "set",dict := none,data := .set eb epb tb,slots := #[] } := (sb1.2 b (Ne.symm hab)).trans hb
 have hA10 := hA1
 obtain ⟨ea,epa,ta,rfl,hela,hva,hfa,hta⟩ := hA1
 have hla : ea.size = ns.length := by have := hva.length_eq; simpa using this
 have hpl : ta.place.size = ea.size := by simp only [SetTable.fits,Bool.and_eq_true,beq_iff_eq] at hfa; exact hfa.1
 refine wpAny_bind (wpAny_setState_of ha1 rfl hfa ?_)
 dsimp only
 have hledab : w.params.followText "set-order" = true∨(ta.led && tb.led) = true := by
  rcases hta.led with q | q
  ·exact .inl q
  ·rcases htb.led with q2 | q2
   ·exact .inl q2
   ·exact .inr (by refine rE q (rE q2 ?_); rfl)
 have hempty : ta.fill = 0→ns = [] := fun q => List.length_eq_zero_iff.mp (by unfold SetTable.fill at q; lia)
 have hmem : ns = []→∀ x,x ∈ ms↔x ∈ ns∨x ∈ ms := fun e x => by refine rE e ?_; simp
 cases hr : ta.road tb with
 | slotForSlot =>
  dsimp only
  have hfill : ta.fill = 0 := Classical.byContradiction fun q => by
   unfold SetTable.road at hr
   rw [if_pos (by simpa using q)] at hr; cases hr
  have hns := hempty hfill
  refine wpAny_storeSet_of ha1 rfl ?_ (fits_of_scanBound (by unfold scanBound; lia))
  exact h _ _ ms (sb1.trans (Heap.SameBut.update _ a _)) (store_at ha1 _ _) ⟨eb,_,_,rfl,helb,hvb,hfb,⟨htb.rise,hledab⟩⟩ tm (hmem hns) fun e => absurd e hms
 | clean =>
  dsimp only
  have hfill : ta.fill = 0 := Classical.byContradiction fun q => by
   unfold SetTable.road at hr
   rw [if_pos (by simpa using q)] at hr; cases hr
  have hns := hempty hfill
  have hmask := hm1 hns _ _ _ rfl
  have hh := tiny_hashes helb hvb tm
  obtain ⟨t',order,e,hp,hr',hz,hd,hm',hled⟩ := laid_small (mask := ta.mask) (finger := ta.finger) (moves := ta.moves) (led := ta.led && tb.led) (plain := ta.plain && tb.plain) (hs := eb.map (·.1)) (by exact Nat.le_of_add_left_le (hm1 (hempty hfill) ea epa ta rfl))
   (fun x hx => by rw [hh] at hx; exact tm.2 x (hvb.mem_iff.mp hx)) (by refine rE hh ?_; exact hvb.nodup_iff.mpr tm.1)
  rw [Array.size_map] at hp hz
  have hp2 := reorder_perm hp
  have hsz : (order.filterMap (eb[·]?)).size = eb.size := by refine rF Array.length_toList (rE hp2.length_eq (rE Array.length_toList rfl))
  simp only [e]
  have hne : ((order.filterMap (eb[·]?)).size != eb.size) = false := by refine rE hsz ?_; simp
  have hfit : t'.fits (order.filterMap (eb[·]?)).size = true := by
   refine rE hsz ?_
   simp only [SetTable.fits,SetTable.fill,hd,hz,hm',Bool.and_eq_true,beq_iff_eq,decide_eq_true_eq]
   refine ⟨trivial,?_⟩
   simp; lia
  refine wpAny_bind ?_
  refine rE hne (rE (if_neg (by decide)) ?_)
  refine wpAny_pure ?_
  refine wpAny_storeSet_of ha1 rfl ?_ (fits_of_scanBound (by show (order.filterMap (eb[·]?)).size < scanBound; unfold scanBound; lia))
  exact h _ _ ms (sb1.trans (Heap.SameBut.update _ a _)) (store_at ha1 _ t') ⟨_,_,t',rfl,helb.perm hp2,(hp2.map _).trans hvb,hfit,⟨hr',by refine rE hled ?_; exact hledab⟩⟩ tm (hmem hns) fun e => absurd e hms
 | oneByOne =>
  dsimp only
  refine wpAny_bind (walkUnseen_int ha1 hb1 hA10 hB0 (by unfold scanBound; lia) fun h2 oa2 es2 sb2 ha2 hA2 hv2 hel2 => ?_)
  have hb2 : h2.get? b = some { cls := .type "set",dict := none,data := .set eb epb tb,slots := #[] } := (sb2.2 b (Ne.symm hab)).trans hb1
  refine rF Array.forIn_toList ?_
  refine wpAny_bind (wpAny_forIn_list _ (fun rest _ s' => ∃ h' oa' us,s' = { s with heap := h' }∧Heap.SameBut a s.heap h'∧h'.get? a = some oa'∧ISet prog w oa' us∧Tiny us∧(∀ x,(x ∈ us∨x ∈ rest.map fun e => numOf e.2)↔(x ∈ ns∨x ∈ ms))∧∀ e ∈ rest,e ∈ es2.toList) _ ?_ ?_ _ _
   ⟨h2,oa2,ns,rfl,sb1.trans sb2,ha2,hA2,tn,fun x => by rw [hv2.mem_iff],fun _ h => h⟩)
  ·rintro ⟨e1,e2⟩ rest _ s' ⟨h',oa',us,rfl,sb,ha',hA',tu,hmu,hsub⟩
   have hin := hsub _ List.mem_cons_self
   obtain ⟨⟨k,hk,hh⟩,_⟩ := hel2 _ hin
   obtain ⟨u,hu⟩ := Value.isInt_shape hk
   dsimp only at hu hh
   subst hu
   have hh : e1 = hashInt k := hh
   subst hh
   have hb' : h'.get? b = some { cls := .type "set",dict := none,data := .set eb epb tb,slots := #[] } := (sb.2 b (Ne.symm hab)).trans hb
   have hkin : k ∈ ns∨k ∈ ms := (hmu k).mp (.inr (by simp [numOf]))
   have hkt : 0≤k∧k≤6 := hkin.elim (tn.2 k) (tm.2 k)
   have h7u := tiny_len tu
   dsimp only
   refine wpAny_bind (wpAny_holding (setAdd_int (s := { s with heap := h' }) ha' hA' (by unfold scanBound; lia) fun r h3 oa3 sb3 ha3 hA3 => ?_))
   have hb3 : h3.get? b = some { cls := .type "set",dict := none,data := .set eb epb tb,slots := #[] } := (sb3.2 b (Ne.symm hab)).trans hb'
   refine wpAny_bind (heach _ _ hb3 ?_)
   refine wpAny_bind (wpAny_setState_of hb3 rfl hfb ?_)
   dsimp only
   refine rE (if_neg (by simp)) ?_
   refine wpAny_pure ?_
   refine ⟨h3,oa3,_,rfl,sb.trans sb3,ha3,hA3,?_,fun x => ?_,fun e he => hsub e (List.mem_cons_of_mem _ he)⟩
   ·split
    ·exact tu
    ·rename_i q
     exact ⟨List.nodup_cons.mpr ⟨q,tu.1⟩,fun x hx => by
      rcases List.mem_cons.mp hx with rfl | hx
      ·exact hkt
      ·exact tu.2 x hx⟩
   ·rewrite [← hmu x]; refine rE List.map_cons ?_; rewrite [List.mem_cons]
    have : numOf (Value.int k u) = k := rfl
    dsimp only
    refine rE this ?_
    split
    ·rename_i q
     constructor
     ·rintro (h | h)
      ·exact .inl h
      ·exact .inr (.inr h)
     ·rintro (h | rfl | h)
      ·exact .inl h
      ·exact .inl q
      ·exact .inr h
    ·rw [List.mem_cons]
     constructor
     ·rintro ((rfl | h) | h)
      ·exact .inr (.inl rfl)
      ·exact .inl h
      ·exact .inr (.inr h)
     ·rintro (h | rfl | h)
      ·exact .inl (.inr h)
      ·exact .inl (.inl rfl)
      ·exact .inr h
  ·rintro _ s' ⟨h',oa',us,rfl,sb,ha',hA',tu,hmu,_⟩
   exact wpAny_pure (h h' oa' us sb ha' hA' tu (fun x => by rw [← hmu x]; simp) fun e => absurd e hms)
end
end
end Mine
end
section
open PySem PySem.Calls PySem.W PyProof.Rows
open PySem.Builtin.Frozenset (copyOf updateFrom isAnySet addrOf merge unchanged baseOf slot1)
set_option maxRecDepth 100000
namespace Mine
noncomputable section
namespace SI
theorem entry_or : entryFor table "set.__or__" = some Builtin.«frozenset.__or__» :=
 entryFor_alias (id' := "frozenset.__or__") (by kernel_rfl) rfl (by decide +kernel) (by kernel_rfl)
end SI
theorem or_eq (a b : Addr) : Builtin.«frozenset.__or__» ⟨[.ref a,.ref b],[]⟩ = (do
  let (self,other) ← slot1 "__or__" ⟨[.ref a,.ref b],[]⟩
  if !(← isAnySet self <&&> isAnySet other) then rule s!"frozenset.{"__or__"}.declined"; return ← ret .notImplemented
  ret (← (do
   let l ← addrOf self
   let result ← copyOf l
   if other != .ref l then holding [result] (updateFrom s!"frozenset.{"__or__"}" (← addrOf result) other)
   return result))) := rfl
section
variable {prog : Program} {w : World} {A : Around} {E : Value→Shared→Prop} {s : Shared}
theorem newSet_fresh {Q : Value→Shared→Prop} (h : ∀ o,ISet prog w o []→MaskOk o→Q (.ref s.heap.objs.size) { s with heap := s.heap.push o }) : wpAny (model prog w) A (newSet (.type "set")) Q E s := by
 unfold newSet setsByText
 refine wpAny_bind (wpAny_bind (wpAny_askSetting (wpAny_pure ?_)))
 dsimp only
 simp only [newObj]
 refine wpAny_bind (wpAny_alloc (wpAny_pure (h _ ⟨#[],0,_,rfl,fun e he => by simp at he,.refl _,by rfl,⟨.nil,?_⟩⟩ fun es ep t e => by cases e; exact Nat.le_refl _)))
 show w.params.followText "set-order" = true∨(!w.params.followText "set-order") = true
 cases w.params.followText "set-order" <;> simp
theorem isAnySet_int {a : Addr} {o : Obj} {ns : List Int} {Q : Bool→Shared→Prop} (ho : s.heap.get? a = some o) (hS : ISet prog w o ns) (h : Q true s) : wpAny (model prog w) A (isAnySet (.ref a)) Q E s := by
 unfold isAnySet
 exact wpAny_bind (wpAny_isInstance (iset_type ho hS) sub_set_self (wpAny_pure h))
theorem copy_int {a : Addr} {oa : Obj} {ns : List Int} {Q : Value→Shared→Prop} (ha : s.heap.get? a = some oa) (hA : ISet prog w oa ns) (tn : Tiny ns)
  (h : ∀ h' o' us,(∀ b o,s.heap.get? b = some o→h'.get? b = some o)→h'.get? s.heap.objs.size = some o'→ISet prog w o' us→Tiny us→(∀ x,x ∈ us↔x ∈ ns)→(us = []→MaskOk o')→Q (.ref s.heap.objs.size) { s with heap := h' }) :
  wpAny (model prog w) A (copyOf a) Q E s := by
 unfold copyOf baseOf
 refine wpAny_bind (wpAny_bind (wpAny_isInstance (iset_type ha hA) sub_set_self ?_))
 refine rE (if_pos rfl) ?_
 refine wpAny_pure ?_
 refine wpAny_bind (newSet_fresh fun o hO hm => ?_)
 unfold addrOf
 refine wpAny_bind (wpAny_pure ?_)
 have hne : s.heap.objs.size≠a := fun e => by
  have := Heap.lt_size ha
  rw [← e] at this; exact absurd this (Nat.lt_irrefl _)
 have hfr : o.isFreed = false := by obtain ⟨es,ep,t,rfl,_⟩ := hO; rfl
 refine wpAny_bind (merge_int (s := { s with heap := s.heap.push o }) (each := pure ()) hne (Heap.get?_push_size _ hfr) (Heap.get?_push_of_some _ ha) hO hA ⟨.nil,fun _ h => by cases h⟩ tn (fun _ => hm) (fun s' Q' _ h => wpAny_pure h) fun h' oa' us sb ha' hA' tu hmu he => ?_)
 refine wpAny_pure ?_
 refine h h' oa' us (fun b o hb => (sb.2 b fun e => by
  have := Heap.lt_size hb
  rw [e] at this; exact absurd this (Nat.lt_irrefl _)).trans (Heap.get?_push_of_some _ hb)) ha' hA' tu (fun x => by rw [hmu x]; simp) fun hu => ?_
 have hns : ns = [] := List.eq_nil_iff_forall_not_mem.mpr fun x hx => by
  have := (hmu x).mpr (.inr hx)
  rw [hu] at this; cases this
 refine rE (he hns) ?_; exact hm
theorem slot1_eq (a b : Addr) : slot1 "__or__" ⟨[.ref a,.ref b],[]⟩ = pure (.ref a,.ref b) := rfl
theorem union_int {a b : Addr} {oa ob : Obj} {ns ms : List Int} {Q : Value→Shared→Prop} (hab : a≠b) (ha : s.heap.get? a = some oa) (hb : s.heap.get? b = some ob) (hA : ISet prog w oa ns) (hB : ISet prog w ob ms) (tn : Tiny ns) (tm : Tiny ms)
  (h : ∀ h' o' us,(∀ b o,s.heap.get? b = some o→h'.get? b = some o)→h'.get? s.heap.objs.size = some o'→ISet prog w o' us→Tiny us→(∀ x,x ∈ us↔x ∈ ns∨x ∈ ms)→Q (.ref s.heap.objs.size) { s with heap := h' }) :
  wpAny (model prog w) A (binaryOp .BitOr (.ref a) (.ref b)) Q E s := by
 refine wpAny_binaryOp_same (iset_type ha hA) (iset_type hb hB) F.fills_set_or F.slot_set_or ?_
 refine wpAny_call_entry F.slot_set_or (iset_type ha hA) SI.entry_or ?_ (F.args_set_or_2 _ _)
 refine rE (or_eq ..) (rE (slot1_eq ..) ?_)
 refine wpAny_bind (wpAny_pure ?_)
 dsimp only
 refine wpAny_bind (wpAny_bind (isAnySet_int ha hA (isAnySet_int hb hB ?_)))
 refine rE (if_neg (by decide)) ?_
 refine wpAny_bind ?_
 unfold addrOf
 refine wpAny_bind (wpAny_pure ?_)
 refine wpAny_bind (copy_int ha hA tn fun h1 o1 us1 keep1 g1 S1 t1 m1 k1 => ?_)
 have hne : (Value.ref b != Value.ref a) = true := by
  simp [hab.symm]
 refine rE (if_pos hne) ?_
 refine wpAny_bind (wpAny_pure ?_)
 have hb1 := keep1 b ob hb
 have hlb : b≠s.heap.objs.size := fun e => by
  have := Heap.lt_size hb
  rw [e] at this; exact absurd this (Nat.lt_irrefl _)
 have hB0 := hB
 obtain ⟨eb,epb,tb,rfl,helb,hvb,hfb,htb⟩ := hB
 refine wpAny_bind (wpAny_holding ?_)
 unfold updateFrom
 refine wpAny_bind (isAnySet_int hb1 hB0 ?_)
 refine rE (if_pos rfl) ?_
 unfold addrOf merge
 refine wpAny_bind (wpAny_pure ?_)
 refine wpAny_bind (wpAny_setEpoch_of hb1 rfl hfb ?_)
 refine merge_int (Ne.symm hlb) g1 hb1 S1 hB0 t1 tm k1 (fun s' Q' hb' hq => ?_) fun h2 o2 us2 sb2 g2 S2 t2 m2 _ => ?_
 ·unfold unchanged
  refine wpAny_bind (wpAny_setEpoch_of hb' rfl hfb ?_)
  refine rE (if_neg (by simp)) ?_
  exact wpAny_pure hq
 ·refine wpAny_pure ?_
  show wpAny _ _ (ret _) _ _ _
  refine wpAny_pure ⟨_,rfl,by simp,h h2 o2 us2 (fun x o hx => (sb2.2 x fun e => ?_).trans (keep1 x o hx)) g2 S2 t2 fun x => by rw [m2 x,m1 x]⟩
  have := Heap.lt_size hx
  rw [e] at this; exact absurd this (Nat.lt_irrefl _)
end
end
end Mine
end
section
open PySem PySem.Calls PySem.W PyProof.Rows
set_option maxRecDepth 100000
namespace Mine
noncomputable section
section
variable {C : Cx} {A : Around} {m : Loc} {H : CH} {s : Shared} {Q : V→Loc→CH→Prop}
theorem O2_bitor {a b : Addr} {oa ob : Obj} {ns ms : List Int} (hab : a≠b) (ha : H a = some (.raw oa)) (hb : H b = some (.raw ob)) (hA : ISet C.prog C.w oa ns) (hB : ISet C.prog C.w ob ms) (tn : Tiny ns) (tm : Tiny ms)
  (h : ∀ (D : Addr) (o : Obj) (us : List Int),H D = none→C.h₀.get? D = none→ISet C.prog C.w o us→Tiny us→(∀ x,x ∈ us↔x ∈ ns∨x ∈ ms)→Q (.ref D) m (H.set D (.raw o))) :
  O2 C A (binaryOp .BitOr) (.ref a) (.ref b) m H Q := fun s r q S hr hq => by
 refine rE hr.ref_inv (rE hq.ref_inv ?_)
 obtain ⟨_,o1,ho1,rfl,_⟩ := S.own a _ ha
 obtain ⟨_,o2,ho2,rfl,_⟩ := S.own b _ hb
 refine union_int hab ho1 ho2 hA hB tn tm fun h' o' us keep hD hS tu hm => ?_
 have hn : s.heap.get? s.heap.objs.size = none := new_none (Nat.le_refl _)
 have S2 : St C m H { s with heap := h' } := S.more (tk := s.toks) keep
 have hDb := S.freshb' hn
 have S3 := S2.toHS.adopt (c := .raw o') hDb hD (by
  obtain ⟨es,ep,t,rfl,_⟩ := hS
  exact ⟨rfl,rfl,fun i => i.2.2.2.2 es ep t rfl⟩)
 have a4 : AfterC H s (H.set s.heap.objs.size (.raw o')) { s with heap := h' } := (AfterC.more (tk := s.toks) keep).adopt hn
 have hDH : H s.heap.objs.size = none := by
  cases q : H s.heap.objs.size with
  | none => rfl
  | some c => obtain ⟨_,o,ho,_⟩ := S.own _ c q; rw [hn] at ho; cases ho
 exact ⟨_,m,_,.ref,S.called S3 a4,a4.after,h _ o' us hDH hDb hS tu hm⟩
end
end
end Mine
end
section
open PySem PySem.Calls PySem.W PyProof.Rows
set_option maxRecDepth 100000
namespace Mine
noncomputable section
theorem iset_setOf {prog : Program} {w : World} {h : Heap} {a : Addr} {o : Obj} {ns : List Int} (ho : h.get? a = some o) (hS : ISet prog w o ns) (hz : ns.length < scanBound) : h.SetOf (intKind prog w) a (fun k => decide (k ∈ ns)) ns.length := by
 obtain ⟨es,ep,t,rfl,hel,hv,hf,ht⟩ := hS
 have hlen : es.size = ns.length := by have := hv.length_eq; simpa using this
 refine ⟨_,es,ep,t,ho,⟨rfl,rfl,rfl⟩,rfl,hel,fun k => ?_,by lia,hf,hlen⟩
 rw [elem_is hel k,hv.mem_iff]
 simp
section
variable {C : Cx} {A : Around} {m : Loc} {H : CH} {s : Shared} {Q : V→Loc→CH→Prop}
theorem O2_inraw {a : Addr} {o : Obj} {ns : List Int} {k : Int} (ha : H a = some (.raw o)) (hA : ISet C.prog C.w o ns) (hz : ns.length < scanBound) (h : Q (.bool (decide (k ∈ ns))) m H) : O2 C A (compareOp .In) (.int k) (.ref a) m H Q := fun s q r S hq hr => by
 refine rE hr.ref_inv ?_; (refine eE hq.int_inv fun u zz1 => ?_; subst zz1)
 obtain ⟨_,o1,ho1,rfl,_⟩ := S.own a _ ha
 exact wpAny_inSet_of (knd := intKind C.prog C.w) (intKind_is _ _ _ _) rfl (iset_setOf ho1 hA hz) (.same S .con h _)
theorem O2_notinraw {a : Addr} {o : Obj} {ns : List Int} {k : Int} (ha : H a = some (.raw o)) (hA : ISet C.prog C.w o ns) (hz : ns.length < scanBound) (h : Q (.bool (!decide (k ∈ ns))) m H) : O2 C A (compareOp .NotIn) (.int k) (.ref a) m H Q := fun s q r S hq hr => by
 refine rE hr.ref_inv ?_; (refine eE hq.int_inv fun u zz1 => ?_; subst zz1)
 obtain ⟨_,o1,ho1,rfl,_⟩ := S.own a _ ha
 exact wpAny_notInSet_of (knd := intKind C.prog C.w) (intKind_is _ _ _ _) rfl (iset_setOf ho1 hA hz) (.same S .con h _)
end
end
end Mine
end
section
open PySem PySem.Calls PySem.W PyProof.Rows
set_option maxRecDepth 100000
namespace Mine
noncomputable section
section
variable {prog : Program} {w : World} {A : Around} {E : Value→Shared→Prop} {s : Shared}
noncomputable abbrev newO (w : World) : Obj := { cls := .type "set",dict := none,data := .set #[] 0 (.fresh 0 0 (!w.params.followText "set-order")) }
theorem newO_ok {prog : Program} {w : World} : ISet prog w (newO w) []∧MaskOk (newO w) :=
 ⟨⟨#[],0,_,rfl,fun e he => by simp at he,.refl _,by rfl,⟨.nil,by
  show w.params.followText "set-order" = true∨(!w.params.followText "set-order") = true
  cases w.params.followText "set-order" <;> simp⟩⟩,fun es ep t e => by cases e; exact Nat.le_refl _⟩
set_option maxHeartbeats 1000000 in
theorem code_new {Q₁ : Value→Shared→Prop} (h : Q₁ (.ref s.heap.objs.size) { s with heap := s.heap.push (newO w) }) :
  codeAny (model prog w) A (.call (.builtin "set.__new__") ⟨[.type "set"],[]⟩) (wants Q₁ E) s := by
 refine codeAny_of_tree ?_
 show wpAny _ A.in1 (do checkBuiltinCall "set.__new__" ⟨[.type "set"],[]⟩; again (.builtin "set.__new__" ⟨[.type "set"],[]⟩)) _ _ s
 refine wpAny_bind (wpAny_of_eq F.newCall_set_0 (wpAny_pure ⟨plainId_quiet F.plain_set_new _,codeAny_builtin F.entry_set_new ?_⟩))
 refine rE (Around.under_plainId F.plain_set_new _) ?_
 unfold Builtin.«set.__new__» Builtin.Frozenset.newClass
 have hsub := sub_set_self
 obtain ⟨hp,g,d,tk,os⟩ := s
 dsimp only
 wp_walk
 refine wpAny_askSetting (wpAny_pure ?_)
 dsimp only
 simp only [newObj]
 refine wpAny_bind (wpAny_alloc (wpAny_pure ?_))
 exact wpAny_pure h
set_option maxHeartbeats 2000000 in
theorem call_set0 {Q : Value→Shared→Prop} (h : Q (.ref s.heap.objs.size) { s with heap := s.heap.push (newO w) }) :
  wpAny (model prog w) A (call (.type "set") []) Q E s := by
 refine eEE F.called_set.mro fun c tl hmro => ?_
 have hmade := F.called_set.made
 have hsub := F.called_set.sub
 refine wpAny_call (codeAny_of_tree ?_)
 show wpAny _ _ (callAny (.type "set") _) _ _ _
 refine wpAny_pure ⟨Code.quiet_builtin _ (by decide +kernel),codeAny_builtin F.entry_type_call ?_⟩
 refine rE (Around.under_plain (weight_type_call_type "set" [] []) rfl) ?_
 have h1 := F.called_set.notType
 have h2 := F.called_set.canCreate
 have hct := F.typeCall_set_0
 repeat (any_goals (first | assumption | wp_step))
 refine codeAny_mono (code_new (E := E) (Q₁ := fun obj s₁ => obj = .ref s.heap.objs.size∧s₁ = { s with heap := s.heap.push (newO w) }) ⟨rfl,rfl⟩) fun r s₁ hr => ?_
 cases r with
 | error e => exact hr
 | ok fl =>
  cases fl with
  | ret obj =>
   refine eA hr fun zz0 zz1 => ?_; clear hr; subst zz0; subst zz1
   have hS : (s.heap.push (newO w)).get? s.heap.objs.size = some (newO w) := Heap.get?_push_size _ rfl
   have hT : Shared.TypeIs { s with heap := s.heap.push (newO w) } (.ref s.heap.objs.size) "set" := ⟨_,hS,rfl⟩
   have hli := F.called_set.init.lookup
   have hbi := F.called_set.init.bind (.ref s.heap.objs.size)
   repeat (any_goals (first | assumption | wp_step))
   refine codeAny_mono (codeAny_call_builtin (R := wants (fun r s₂ => r = .none∧Q (.ref s.heap.objs.size) s₂) E) F.called_set.init.plain F.entry_set_init (check_set_init hT ?_)) fun r₂ s₂ hr₂ => ?_
   ·unfold Builtin.«set.__init__» noKeywords
    wp_walk
    exact ⟨rfl,h⟩
   ·cases r₂ with
    | error e => exact hr₂
    | ok fl₂ =>
     cases fl₂ with
     | ret r =>
      refine eA hr₂ fun zz0 hq => ?_; clear hr₂; subst zz0
      repeat (any_goals (first | assumption | wp_step))
     | _ => exact hr₂.elim
  | _ => exact hr.elim
end
section
variable {C : Cx} {A : Around} {m : Loc} {H : CH} {s : Shared} {Q : V→Loc→CH→Prop}
theorem iset_raw {h : Heap} {o : Obj} {ns : List Int} (hS : ISet C.prog C.w o ns) : ORep C h (.raw o) o := by
 obtain ⟨es,ep,t,rfl,_⟩ := hS
 exact ⟨rfl,rfl,fun i => i.2.2.2.2 es ep t rfl⟩
theorem CV_set0r (h : ∀ a o,H a = none→C.h₀.get? a = none→ISet C.prog C.w o []→MaskOk o→Q (.ref a) m (H.set a (.raw o))) : CV C A (.con (.type "set")) [] [] m H Q := fun s rf rs rkw S hf hva hk => by
 have := hk.nil_inv; subst this
 refine rE hf.con_inv ?_
 have := hva.nil_inv; subst this
 refine call_set0 ?_
 exact ⟨_,m,_,.ref,S.alloc (tk := s.toks) (c := .raw (newO C.w)) (iset_raw newO_ok.1),.alloc,h _ _ S.toHS.fresh S.toHS.freshb newO_ok.1 (newO_ok (prog := C.prog)).2⟩
end
end
end Mine
end
section
open PySem PySem.Calls PySem.W PyProof.Rows
set_option maxRecDepth 100000
namespace Mine
noncomputable section
section
variable {C : Cx} {A : Around} {m : Loc} {H : CH} {s : Shared} {Q : V→Loc→CH→Prop} {K : Frag} {mg mb : Str→Option Value}
theorem St.adopt (S : St C m H s) {D : Addr} {o : Obj} {c : CObj} (hb : C.h₀.get? D = none) (ho : s.heap.get? D = some o) (nd : ∀ es ep,o.data≠.dict es ep) (r : ORep C s.heap c o) : St C m (H.set D c) s := by
 refine ⟨S.toHS.adopt hb ho r,S.ns,?_,S.locb,fun e he => ?_⟩
 ·rewrite [CH.set_ne fun q => ?_]
  ·exact S.loc
  ·refine eEA S.ns fun mr zz1 _ => ?_; obtain ⟨o1,es,ep,h1,hd,_⟩ := zz1
   rw [q,ho] at h1; cases h1; exact nd es ep hd
 ·obtain ⟨a1,a2,a3,f,of,es,ep,hf,hof,hd,hn,hfb⟩ := S.frs e he
  refine ⟨a1,a2,a3,f,of,es,ep,hf,hof,hd,?_,hfb⟩
  rewrite [CH.set_ne fun q => ?_]
  ·exact hn
  ·rw [q,ho] at hof; cases hof; exact nd es ep hd
theorem After.adopt {H₁ H₂ : CH} {s₁ s₂ : Shared} (a : After C H₁ s₁ H₂ s₂) {D : Addr} {c : CObj} (hD : s₁.heap.get? D = none) : After C H₁ s₁ (H₂.set D c) s₂ :=
 ⟨a.stay,fun b o hn e => by refine rE (CH.set_ne (fun q => by subst q; exact (no1 hD e).elim)) ?_; exact a.grow b o hn e,a.there,a.drawn,a.os⟩
theorem setAdd_int' {s : Shared} {prog : Program} {w : World} {E : Value→Shared→Prop} {a : Addr} {o : Obj} {ns : List Int} {k : Int} {u : Tok} {Q : Bool→Shared→Prop} (ho : s.heap.get? a = some o) (hS : ISet prog w o ns) (hroom : ns.length + 1 < scanBound)
  (h : ∀ r h' o',Heap.SameBut a s.heap h'→h'.get? a = some o'→ISet prog w o' (if k ∈ ns then ns else k :: ns)→Q r { s with heap := h',toks := s.toks + 1 }) :
  wpAny (model prog w) A (setAdd a (.int k u)) Q E s := by
 unfold setAdd
 refine wpAny_holding (wpAny_bind ((intKind prog w).pyHash (intKind_is _ _ _ _) ?_))
 exact setAdd_int (s := { s with toks := s.toks + 1 }) ho hS hroom h
theorem rset_ni {o : Obj} {ns : List Int} (h : ISet C.prog C.w o ns) : ¬ Imm o := by
 obtain ⟨es,ep,t,rfl,_⟩ := h
 exact fun i => i.2.2.2.2 _ _ _ rfl
theorem rset_nd {o : Obj} {ns : List Int} (h : ISet C.prog C.w o ns) : ∀ es ep,o.data≠.dict es ep := by
 obtain ⟨es,ep,t,rfl,_⟩ := h
 intro _ _ e; cases e
theorem EV_set1 {e : PySem.Expr} {pos : Pos} (B : Bs C.h₀ K mg mb) (h : EV C A e m H fun v m₁ H₁ => ∃ i,v = .int i∧∀ D o,H₁ D = none→C.h₀.get? D = none→ISet C.prog C.w o [i]→Q (.ref D) m₁ (H₁.set D (.raw o)))
  (hc : autoParam (kdsCode K C.env.code = true) Mine.syn1) (hst : autoParam (starEach [e] C.env = [(false,eval e C.env)]) Mine.syn1) : EV C A (.Set [e] 0 pos) m H Q := fun s S => by
 refine rE (arm_eval_Set ..) ?_
 refine wpAny_bind (wpAny_standAt (wpAny_bind (kds_main (K := K) (fun a o q => S.base a o (B.X a o q)) hc fun b => ?_)))
 refine rE hst ?_
 show wpAny _ _ (setDisplay .oneByOne b [(false,do let v ← eval e C.env; standAt pos; pure v)]) _ _ _
 unfold setDisplay
 dsimp only
 refine rE (if_neg (by decide)) ?_
 refine wpAny_bind (newSet_fresh fun o hO _ => ?_)
 dsimp only
 refine wpAny_bind (wpAny_holding ?_)
 have hnf : o.isFreed = false := by obtain ⟨es,ep,t,rfl,_⟩ := hO; rfl
 have S1 : St C m H { s with heap := s.heap.push o } := S.more (tk := s.toks) fun b o e => Heap.get?_push_of_some _ e
 have a1 : After C H s H { s with heap := s.heap.push o } := .more (tk := s.toks) fun b o e => Heap.get?_push_of_some _ e
 have hD0 : s.heap.get? s.heap.objs.size = none := new_none (Nat.le_refl _)
 have hD1 : (s.heap.push o).get? s.heap.objs.size = some o := Heap.get?_push_size _ hnf
 have hDH : H s.heap.objs.size = none := S.own_none hD0
 have hDb : C.h₀.get? s.heap.objs.size = none := S.base_none hD0
 generalize (s.heap.objs.size : Addr) = D at *
 have hDl : D≠C.env.locals := fun q => by refine eE S.at_loc fun o e' => ?_; rw [← q,hD0] at e'; cases e'
 show wpAny _ _ (evalAll [do let v ← eval e C.env; standAt pos; pure v] >>= _) _ _ _
 refine wpAny_bind ?_
 show wpAny _ _ ((do let v ← eval e C.env; standAt pos; pure v) >>= fun v => holding [v] (evalAll []) >>= fun r => pure (v :: r)) _ _ _
 refine wpAny_bind (wpAny_bind (wpAny_mono (h _ S1) (fun v s₂ ⟨v',m₂,H₂,hv,S₂,a₂,i,hi,hQ⟩ => ?_) fun _ _ x => x))
 subst hi
 refine wpAny_bind (wpAny_standAt (wpAny_pure (wpAny_bind (wpAny_holding (wpAny_pure (wpAny_pure ?_))))))
 refine eE hv.int_inv fun u zz1 => ?_; subst zz1
 refine wpAny_bind (wpAny_holding ?_)
 refine eEA (a₂.stay D o hDl hDH hD1) fun o' e' k => ?_
 rw [k.exact (rset_nd hO)] at e'
 have hDH₂ := a₂.grow D o hDH hD1
 rw [List.forIn_cons]
 refine wpAny_bind (wpAny_bind (wpAny_bind (setAdd_int' e' hO (by decide) fun r h' o' sb ho' hS' => ?_)))
 simp only [List.not_mem_nil,if_false] at hS'
 first | refine wpAny_pure ?_ | refine wpAny_bind (wpAny_pure (wpAny_pure ?_))
 dsimp only
 rw [List.forIn_nil]
 refine wpAny_pure ?_
 rewrite [if_neg (by decide)]
 refine wpAny_pure ?_
 show wpAny _ _ (forIn [] _ _ >>= _) _ _ _
 rw [List.forIn_nil]
 refine wpAny_bind (wpAny_pure (wpAny_pure ?_))
 have ni := rset_ni hO
 have S3 : St C m₂ H₂ { s₂ with heap := h',toks := s₂.toks + 1 } := S₂.hid (tk := s₂.toks + 1) e' hDH₂ hDb (rset_nd hO) ni sb.extBut
 have a3 : After C H s H₂ { s₂ with heap := h',toks := s₂.toks + 1 } := (a1.then S1 a₂).hid (tk := s₂.toks + 1) hD0 sb.extBut
 exact wpAny_pure ⟨_,m₂,_,.ref,S3.adopt hDb ho' (rset_nd hS') (iset_raw hS'),a3.adopt hD0,hQ D o' hDH₂ hDb hS'⟩
end
end
end Mine
end
section
open PySem PySem.Calls PySem.W PyProof.Rows
set_option maxRecDepth 100000
namespace Mine
noncomputable section
namespace SI
theorem slot_self : Slot "set_iterator" "__iter__" "set_iterator.__iter__" :=
 .of (owner := "set_iterator") (n := "__iter__") (by refine rE (typeLookup_type ..) (rE builtinLookup_eq_fast ?_); kernel_rfl) (by decide +kernel) (by decide +kernel) (by decide +kernel)
  (by first | exact .inl (by decide +kernel) | exact .inr (by decide +kernel)) (by refine rE (isSubtype_type ..) ?_; kernel_rfl)
theorem entry_self : entryFor table "set_iterator.__iter__" = some Builtin.«dict_keyiterator.__iter__» :=
 entryFor_alias (id' := "dict_keyiterator.__iter__") (by kernel_rfl) rfl (by decide +kernel) (by kernel_rfl)
theorem args_self (a : Value) : argsOk "set_iterator.__iter__" ⟨[a],[]⟩ := by unfold argsOk; kernel_rfl
end SI
section
variable {C : Cx} {A : Around} {m : Loc} {H : CH} {s : Shared} {a I : Addr} {o : Obj} {ns : List Int}
theorem iter_self {E : Value→Shared→Prop} {Q : Value→Shared→Prop} (hT : s.TypeIs (.ref I) "set_iterator") (h : Q (.ref I) s) : wpAny (model C.prog C.w) A (pyIter (.ref I)) Q E s := by
 refine wpAny_pyIter_slot hT SI.slot_self (wpAny_call_entry SI.slot_self hT SI.entry_self ?_ (SI.args_self _))
 show wpAny _ _ (ret (.ref I)) _ _ s
 exact wpAny_pure ⟨_,rfl, "set_iterator",_,hT,SI.slot_next.lookup,h⟩
noncomputable def nxRaw (a : Addr) (o : Obj) (us : List Int) (H : CH) (i : Nat) : Option (Option V) := open Classical in if H a = some (.raw o) then some (us.map V.int)[i]? else none
noncomputable def obRaw (I : Addr) (N : Nat) (ok : Nat→Heap→Prop) (i : Nat) (h : Heap) (x : Obj) : Prop := i≤N∧∃ h₁,ok i h₁∧h₁.get? I = some x∧TupKeep h₁ h
set_option tactic.hygienic true in
theorem prot_raw {h' : Heap} {vs : List Value} {ok : Nat→Heap→Prop} (G : Gives C.prog C.w A s a ns I h' vs ok) (ho : s.heap.get? a = some o) (hne : a≠I) :
  Prot C A I (obRaw I vs.length ok) (nxRaw a o (vs.map numOf)) where
 plain := fun i h x ⟨_,h₁,k1,k2,_⟩ e => by
  refine eEEE (G.form i h₁ k1) fun f n ep k3 => ?_
  rw [k2] at k3; cases k3
  exact not_imm_cls (T := "set_iterator") rfl (by decide) (by intro vs x t e q; cases e; cases q) e
 nodict := fun i h x es ep ⟨_,h₁,k1,k2,_⟩ e => by
  refine eEEE (G.form i h₁ k1) fun f n ep' k3 => ?_
  rw [k2] at k3; cases k3; cases e
 kept := fun i h h' x k ⟨hl,h₁,k1,k2,k3⟩ => ⟨hl,h₁,k1,k2,fun b o i e => k b o i (k3 b o i e)⟩
 item := fun H s' i x v S hI hx ⟨hl,h₁,k1,k2,k3⟩ hn => by
  unfold nxRaw at hn
  split at hn
  ·rename_i hr
   refine eEA (G.seta i h₁ k1) fun o1 ho1 hh1 => ?_
   rw [ho] at ho1; cases ho1
   obtain ⟨_,o2,ho2,rfl,_⟩ := S.own a _ hr
   have ok1 : ok i s'.heap := G.loc i h₁ s'.heap k1 (ho2.trans hh1.symm) (hx.trans k2.symm) fun b items n e => k3 _ _ .tup e
   have hn := Option.some.inj hn
   rw [List.getElem?_map,List.getElem?_map] at hn
   cases hv : vs[i]? with
   | none => rw [hv] at hn; cases hn
   | some rv =>
    rw [hv] at hn
    refine eEE (G.vints rv (List.mem_of_getElem? hv)) fun k t zz2 => ?_; subst zz2
    cases hn
    refine G.go.item i s' _ _ _ ok1 hv fun h2 ok2 sb => ?_
    refine eEEE (G.form _ _ ok2) fun f n ep hI2 => ?_
    refine ⟨_,h2,s'.toks,_,rfl,rfl,.int,sb.extBut,hI2,(List.getElem?_eq_some_iff.mp hv).1,h2,ok2,hI2,fun b o' im e => ?_⟩
    rewrite [← sb.2 b fun q => ?_]
    ·exact e
    ·subst q
     rw [hI2] at e; cases e
     exact not_imm_cls (T := "set_iterator") rfl (by decide) (by intro vs x t e q; cases e; cases q) im
  ·cases hn
 done := fun H s' i x S hI hx ⟨hl,h₁,k1,k2,k3⟩ hn => by
  unfold nxRaw at hn
  split at hn
  ·rename_i hr
   refine eEA (G.seta i h₁ k1) fun o1 ho1 hh1 => ?_
   rw [ho] at ho1; cases ho1
   obtain ⟨_,o2,ho2,rfl,_⟩ := S.own a _ hr
   have ok1 : ok i s'.heap := G.loc i h₁ s'.heap k1 (ho2.trans hh1.symm) (hx.trans k2.symm) fun b items n e => k3 _ _ .tup e
   have hn := Option.some.inj hn
   rw [List.getElem?_map,List.getElem?_map] at hn
   have hv : vs[i]? = none := Option.map_eq_none_iff.mp (Option.map_eq_none_iff.mp hn)
   have hi : i = vs.length := Nat.le_antisymm hl (List.getElem?_eq_none_iff.mp hv)
   subst hi
   exact G.go.done s' _ _ ok1 fun h2 he => ⟨h2,s'.toks,rfl,rfl,he⟩
  ·cases hn
 own := fun target v s' i h x Q hx ⟨_,h₁,k1,k2,_⟩ hq => by
  refine eEEE (G.form i h₁ k1) fun f n ep k3 => ?_
  rw [k2] at k3; cases k3
  exact letOwned_plain hx rfl (by decide) hq
 self := fun s' i h x E Q hx ⟨_,h₁,k1,k2,_⟩ hq => by
  refine eEEE (G.form i h₁ k1) fun f n ep k3 => ?_
  rw [k2] at k3; cases k3
  exact iter_self ⟨_,hx,rfl⟩ hq
theorem ETs_mono {C : Cx} {A : Around} {Q Q' : Bool→Loc→CH→Prop} (q : ∀ b m H,Q b m H→Q' b m H) : ∀ {ifs : List PySem.Expr} {m : Loc} {H : CH},ETs C A ifs m H Q→ETs C A ifs m H Q'
 | [],m,H,h => q _ _ _ h
 | c :: cs,m,H,h => EB.mono h fun b m H hb => ⟨fun e => ETs_mono q (hb.1 e),fun e => q _ _ _ (hb.2 e)⟩
theorem LC_set {elt target : PySem.Expr} {ifs : List PySem.Expr} {scope : Scope} {cl : List (Str × Addr)} {Q : V→CH→Prop} (p : Int→Bool) (f : Int→V) (hA : A.handled = none) (ha : H a = some (.raw o)) (hS : ISet C.prog C.w o ns) (hz : ns.length < scanBound)
  (turn : ∀ k ∈ ns,∀ L,H L = none→ASG (C.comp scope cl L) A target (.int k) [] H fun m₂ H₂ => ETs (C.comp scope cl L) A ifs m₂ H₂ fun b m₃ H₃ => b = p k∧H₃ = H∧(b = true→EV (C.comp scope cl L) A elt m₃ H₃ fun y m₄ H₄ => y = f k∧H₄ = H))
  (fin : ∀ (D : Addr) (us : List Int),us.Perm ns→H D = none→C.h₀.get? D = none→Q (.ref D) (H.set D (.list ((us.filter p).map f)))) : LC C A elt target ifs scope cl (.ref a) H Q := by
 refine ⟨fun ys H' => ∃ us : List Int,us.Perm ns∧H' = H∧ys = (us.filter p).map f,fun s r S hr => ?_,?_⟩
 ·refine rE hr.ref_inv ?_
  obtain ⟨_,o2,ho,rfl,_⟩ := S.own a _ ha
  refine iter_set hA ho hS hz fun I h' d vs ok G => ?_
  refine eEEE (G.form 0 h' G.start) fun fv n ep hI => ?_
  have hne : a≠I := fun e => by have := G.new; rw [← e,ho] at this; cases this
  have hlen : (vs.map numOf).length≤sizeLine := by refine rE G.vals.length_eq ?_; exact fits_of_scanBound hz
  refine ⟨(vs.map numOf).map .int,fun H' => H' = H,fun i ys H' => H' = H∧i≤(vs.map numOf).length∧ys = (((vs.map numOf).take i).filter p).map f,_,I,_,h',s.toks,d,_,rfl,rfl,G.keep,G.new,hI,⟨Nat.zero_le _,h',G.start,hI,fun b o i e => e⟩,prot_raw G ho hne,fun H' i e => ?_,⟨?_⟩,⟨rfl,Nat.zero_le _,rfl⟩,fun ys H' => ?_⟩
  ·unfold nxRaw; refine rE e (rE (if_pos ha) rfl)
  ·rintro i ys H' ⟨rfl,hi,rfl⟩
   refine ⟨rfl,?_,fun x hx L hL => ?_⟩
   ·refine rE (List.length_map ..) ?_
    exact Nat.le_trans (List.length_filter_le ..) (Nat.le_trans (by refine rE List.length_take ?_; exact Nat.min_le_right _ _) hlen)
   ·rw [List.getElem?_map] at hx
    refine eEA (Option.map_eq_some_iff.mp hx) fun k hk zz2 => ?_; subst zz2
    have hil : i < (vs.map numOf).length := (List.getElem?_eq_some_iff.mp hk).1
    have htk : (vs.map numOf).take (i + 1) = (vs.map numOf).take i ++ [k] := by refine rE List.take_add_one (rE hk ?_); rfl
    have := turn k (G.vals.mem_iff.mp (List.mem_of_getElem? hk)) L hL
    intro s r S hr
    refine wpAny_mono (this s r S hr) (fun _ s' ⟨m₂,H₂,S₂,af₂,h₂⟩ => ⟨m₂,H₂,S₂,af₂,?_⟩) fun _ _ x => x
    refine ETs_mono ?_ h₂
    rintro b m₃ H₃ ⟨rfl,rfl,hel⟩
    refine ⟨fun hb => (hel hb).mono ?_,fun hb => ⟨rfl,hil,?_⟩⟩
    ·rintro y m₄ H₄ ⟨rfl,rfl⟩
     exact ⟨rfl,hil,by refine rE htk (rE (List.filter_append ..) (rE List.map_append (rE List.filter_cons (rE hb ?_)))); rfl⟩
    ·refine rE htk (rE (List.filter_append ..) (rE List.map_append (rE List.filter_cons (rE hb ?_)))); simp
  ·rintro ⟨rfl,_,rfl⟩
   exact ⟨vs.map numOf,G.vals,rfl,by refine rE (List.length_map ..) (rE List.take_length rfl)⟩
 ·rintro ys H' D ⟨us,hp,rfl,rfl⟩ hD hb
  exact fin D us hp hD hb
end
end
end Mine
end
section
namespace Mine
noncomputable section
structure Wish (n : Nat) (An : Nat→Nat→Prop) (near : Nat→List Nat) : Prop where
 lt : ∀ b,b < n→∀ a ∈ near b,a < n
 of : ∀ b,b < n→∀ a ∈ near b,An a b
 tr : ∀ a b c,An a b→An b c→An a c
 ltA : ∀ a b,b < n→An a b→a < n
 by_ : ∀ a b,b < n→An a b→∃ c ∈ near b,a = c∨An a c
structure Edf (n : Nat) (first last : Nat→Int) (told : Nat→Int) : Prop where
 inj : ∀ j k,j < n→k < n→told j = told k→j = k
 ge : ∀ j,j < n→first j≤told j
 pick : ∀ k,k < n→∀ h : Int,first k≤h→h < told k→∃ j,j < n∧told j = h∧(last j < last k∨(last j = last k∧j≤k))
structure MovedUp (n : Nat) (near : Nat→List Nat) (starts first : Nat→Int) : Prop where
 ge : ∀ j,j < n→starts j≤first j
 near_ : ∀ j,j < n→∀ a ∈ near j,first a + 1≤first j
 at_ : ∀ j,j < n→first j = starts j∨∃ a ∈ near j,first j = first a + 1
structure MovedDn (n : Nat) (near : Nat→List Nat) (dues last : Nat→Int) : Prop where
 le : ∀ j,j < n→last j≤dues j
 near_ : ∀ j,j < n→∀ a ∈ near j,last a≤last j - 1
 at_ : ∀ a,a < n→last a = dues a∨∃ j,j < n∧a ∈ near j∧last a = last j - 1
structure Way (n : Nat) (An : Nat→Nat→Prop) (starts : Nat→Int) (σ : Nat→Int) : Prop where
 inj : ∀ j k,j < n→k < n→σ j = σ k→j = k
 ge : ∀ j,j < n→starts j≤σ j
 an : ∀ a b,a < n→b < n→An a b→σ a < σ b
section
variable {n : Nat} {An : Nat→Nat→Prop} {near : Nat→List Nat} {starts dues first last told σ : Nat→Int}
set_option tactic.hygienic true in
theorem pigeon {l : List Nat} {f : Nat→Int} {lo : Int} : ∀ (m : Nat),l.length = m→l.Nodup→(∀ j ∈ l,∀ k ∈ l,f j = f k→j = k)→(∀ j ∈ l,lo≤f j)→0 < m→∃ j ∈ l,lo + (m : Int) - 1≤f j := by
 intro m
 induction m generalizing l with
 | zero => intro _ _ _ _ h; contradiction
 | succ m ih =>
  intro hl hn hi hlo _
  by_cases h : ∃ j ∈ l,lo + (m + 1 : Nat) - 1≤f j
  ·exact h
  ·refine absurd ?_ h
   cases l with
   | nil => simp at hl
   | cons a r =>
    by_cases hm : m = 0
    ·subst hm
     exact ⟨a,List.mem_cons_self,by have := hlo a List.mem_cons_self; (clear hl h; lia)⟩
    ·-- take away one that is greatest
     have hmax : ∃ x ∈ a :: r,∀ y ∈ a :: r,f y≤f x := by
      clear ih hl hn hi hlo h hm
      induction r generalizing a with
      | nil => exact ⟨a,List.mem_cons_self,fun y hy => by refine rE (List.mem_singleton.mp hy) ?_; exact Int.le_refl _⟩
      | cons b r ih =>
       refine eEA (ih b) fun x hx hx2 => ?_
       by_cases q : f x≤f a
       ·refine ⟨a,List.mem_cons_self,fun y hy => ?_⟩
        rcases List.mem_cons.mp hy with rfl | hy
        ·exact Int.le_refl _
        ·have := hx2 y hy; exact Int.le_trans (hx2 y hy) q
       ·refine ⟨x,List.mem_cons_of_mem _ hx,fun y hy => ?_⟩
        rcases List.mem_cons.mp hy with rfl | hy
        ·exact Int.le_of_not_le q
        ·exact hx2 y hy
     refine eEA hmax fun x hx hx2 => ?_
     have hlen : ((a :: r).erase x).length = m := by refine rE (List.length_erase_of_mem hx) (rE hl ?_); rfl
     refine eEA (ih hlen (hn.erase x) (fun j hj k hk => hi j (List.mem_of_mem_erase hj) k (List.mem_of_mem_erase hk)) (fun j hj => hlo j (List.mem_of_mem_erase hj)) (by exact Nat.zero_lt_of_ne_zero hm)) fun j hj hj2 => ?_
     have hjx : j≠x := fun e => by rw [e] at hj; exact (List.Nodup.not_mem_erase hn) hj
     have h1 := hx2 j (List.mem_of_mem_erase hj)
     have h2 : f j≠f x := fun e => hjx (hi j (List.mem_of_mem_erase hj) x hx e)
     exact ⟨x,hx,by (clear h hm hjx; lia)⟩
theorem nodup_le2 : ∀ {l k : List Nat},l.Nodup→(∀ x ∈ l,x ∈ k)→l.length≤k.length
 | [],_,_,_ => Nat.zero_le _
 | a :: l,k,hn,h => by
  have ha := h a List.mem_cons_self
  have := nodup_le2 (l := l) (k := k.erase a) (List.nodup_cons.mp hn).2 fun x hx => by
   have hxa : x≠a := fun e => (List.nodup_cons.mp hn).1 (e ▸ hx)
   exact (List.mem_erase_of_ne hxa).mpr (h x (List.mem_cons_of_mem _ hx))
  rw [List.length_erase_of_mem ha] at this
  have hp := List.length_pos_of_mem ha
  refine rE List.length_cons ?_; exact Nat.add_le_of_le_sub hp this
theorem few_hours {told : Nat→Int} {n m : Nat} {f : Nat→Int} (hf : ∀ i j,i < m→j < m→f i = f j→i = j) (h : ∀ i,i < m→∃ k,k < n∧told k = f i) : m≤n := by
 obtain ⟨g,hg⟩ : ∃ g : Nat→Nat,∀ i,i < m→g i < n∧told (g i) = f i :=
  ⟨fun i => if q : i < m then (h i q).choose else 0,fun i q => by simp only [q,dif_pos]; exact (h i q).choose_spec⟩
 have := nodup_le2 (l := (List.range m).map g) (k := List.range n) (List.pairwise_map.mpr (List.Pairwise.imp_of_mem (fun {x y} hx hy hxy e => by
   have h1 := (hg x (List.mem_range.mp hx)).2
   have h2 := (hg y (List.mem_range.mp hy)).2
   have := hf x y (List.mem_range.mp hx) (List.mem_range.mp hy) (by refine rF h1 (rF h2 (rE e rfl)))
   lia) (List.pairwise_lt_range (n := m)))) fun x hx => by
  refine eEA (List.mem_map.mp hx) fun i hi zz2 => ?_; subst zz2
  exact List.mem_range.mpr (hg i (List.mem_range.mp hi)).1
 simpa using this
theorem an_first (W : Wish n An near) (h0 : ∀ j,j < n→0≤starts j) (U : MovedUp n near starts first) (Dn : MovedDn n near dues last) : ∀ (m : Nat) a b,b < n→(first b).toNat≤m→An a b→first a < first b∧last a < last b := by
 intro m
 induction m with
 | zero =>
  intro a b hb hm h
  refine eEA (W.by_ a b hb h) fun c hc _ => ?_
  have h1 := U.near_ b hb c hc
  have h2 := U.ge c (W.lt b hb c hc)
  have h3 := h0 c (W.lt b hb c hc)
  grind
 | succ m ih =>
  intro a b hb hm h
  refine eEA (W.by_ a b hb h) fun c hc h => ?_
  have hcn := W.lt b hb c hc
  have h1 := U.near_ b hb c hc
  have h2 := U.ge c hcn
  have h3 := h0 c hcn
  have h4 := Dn.near_ b hb c hc
  rcases h with rfl | h
  ·lia
  ·have := ih a c hcn (by lia) h
   lia
theorem an_lt (W : Wish n An near) (h0 : ∀ j,j < n→0≤starts j) (U : MovedUp n near starts first) (Dn : MovedDn n near dues last) {a b : Nat} (hb : b < n) (h : An a b) : first a < first b∧last a < last b := an_first W h0 U Dn _ a b hb (Nat.le_refl _) h
theorem told_an (W : Wish n An near) (h0 : ∀ j,j < n→0≤starts j) (U : MovedUp n near starts first) (Dn : MovedDn n near dues last) (E : Edf n first last told) {a b : Nat} (hb : b < n) (h : An a b) : told a < told b := by
 have ha := W.ltA a b hb h
 refine eA (an_lt W h0 U Dn hb h) fun h1 h2 => ?_
 refine Classical.byContradiction fun q => ?_
 have hne : told a≠told b := fun e => by have := E.inj a b ha hb e; subst this; lia
 have := E.ge b hb
 refine eEAA (E.pick a ha (told b) (by lia) (by lia)) fun j hj hjb hp => ?_
 have := E.inj j b hj hb hjb
 subst this
 lia
theorem told_way (W : Wish n An near) (h0 : ∀ j,j < n→0≤starts j) (U : MovedUp n near starts first) (Dn : MovedDn n near dues last) (E : Edf n first last told) : Way n An starts told :=
 ⟨E.inj,fun j hj => by have := U.ge j hj; have := E.ge j hj; lia,fun a b _ hb h => told_an W h0 U Dn E hb h⟩
theorem least_of {P : Nat→Prop} {f : Nat→Int} : ∀ (n : Nat),(∃ k,k < n∧P k)→∃ k,k < n∧P k∧∀ j,j < n→P j→f k≤f j := by
 intro n
 induction n with
 | zero => rintro ⟨k,hk,_⟩; contradiction
 | succ n ih =>
  rintro ⟨k,hk,hP⟩
  by_cases h : ∃ k,k < n∧P k
  ·refine eEAA (ih h) fun x hx hPx hx2 => ?_
   by_cases q : P n∧f n < f x
   ·refine ⟨n,by exact Nat.lt_add_one n,q.1,fun j hj hPj => ?_⟩
    by_cases e : j = n
    ·subst e; exact Int.le_refl _
    ·have := hx2 j (by (clear hk hx q; lia)) hPj; lia
   ·refine ⟨x,by exact Nat.lt_add_right 1 hx,hPx,fun j hj hPj => ?_⟩
    by_cases e : j = n
    ·subst e
     exact Classical.byContradiction fun w => q ⟨hPj,by exact Int.lt_of_not_ge w⟩
    ·exact hx2 j (by (clear hk hx q; lia)) hPj
  ·have e : k = n := Classical.byContradiction fun e => h ⟨k,by lia,hP⟩
   subst e
   refine ⟨k,hk,hP,fun j hj hPj => ?_⟩
   by_cases e : j = k
   ·subst e; exact Int.le_refl _
   ·exact absurd ⟨j,by omega,hPj⟩ h
theorem no_idle (W : Wish n An near) (h5 : ∀ j,j < n→starts j≤5) (U : MovedUp n near starts first) (E : Edf n first last told) {j : Nat} {h : Int} (hj : j < n) (h1 : 5≤h) (h2 : h < told j) : ∃ k,k < n∧told k = h := by
 refine eEAA (least_of (P := fun k => h < told k) (f := first) n ⟨j,hj,h2⟩) fun k hk hP hmin => ?_
 have key : first k≤h∨∃ a,a < n∧told a = h := by
  rcases U.at_ k hk with e | ⟨a,ha,e⟩
  ·have := h5 k hk; exact .inl (by lia)
  ·have han := W.lt k hk a ha
   by_cases q : h < told a
   ·have := hmin a han q; lia
   ·have := E.ge a han
    by_cases w : told a = h
    ·exact .inr ⟨a,han,w⟩
    ·exact .inl (by (clear hj h1 h2 hk hP han; lia))
 rcases key with q | q
 ·refine eEAA (E.pick k hk h q hP) fun x hx hx2 _ => ?_
  exact ⟨x,hx,hx2⟩
 ·exact q
theorem told_le (W : Wish n An near) (h5 : ∀ j,j < n→starts j≤5) (U : MovedUp n near starts first) (E : Edf n first last told) {j : Nat} (hj : j < n) : told j≤4 + n := by
 by_cases q : told j < 5
 ·lia
 ·have := few_hours (told := told) (n := n) (m := (told j - 4).toNat) (f := fun i => 5 + (i : Int)) (fun i k _ _ e => by lia) fun i hi => by
   by_cases e : 5 + (i : Int) = told j
   ·exact ⟨j,hj,e.symm⟩
   ·exact no_idle W h5 U E hj (by exact Int.le.intro i rfl) (by grind)
  lia
theorem way_first (W : Wish n An near) (h0 : ∀ j,j < n→0≤starts j) (U : MovedUp n near starts first) (S : Way n An starts σ) : ∀ (m : Nat) j,j < n→(first j).toNat≤m→first j≤σ j := by
 intro m
 induction m with
 | zero =>
  intro j hj hm
  rcases U.at_ j hj with e | ⟨a,ha,e⟩
  ·have := S.ge j hj; exact le_of_eq_of_le e this
  ·have := U.ge a (W.lt j hj a ha); have := h0 a (W.lt j hj a ha); (clear hj; omega)
 | succ m ih =>
  intro j hj hm
  rcases U.at_ j hj with e | ⟨a,ha,e⟩
  ·have := S.ge j hj; exact le_of_eq_of_le e this
  ·have han := W.lt j hj a ha
   have h1 := U.ge a han
   have h2 := h0 a han
   have := ih a han (by lia)
   have := S.an a j han hj (W.of j hj a ha)
   lia
theorem way_last (W : Wish n An near) (U : MovedUp n near starts first) (Dn : MovedDn n near dues last) (S : Way n An starts σ) (F : Int) (hF : ∀ j,j < n→first j≤F) : ∀ (m : Nat) k,k < n→(F - first k).toNat≤m→∃ k',k' < n∧σ k - last k≤σ k' - dues k' := by
 intro m
 induction m with
 | zero =>
  intro k hk hm
  rcases Dn.at_ k hk with e | ⟨j,hj,ha,e⟩
  ·exact ⟨k,hk,by exact Int.le_of_eq (congrArg (HSub.hSub (σ k)) e)⟩
  ·have := U.near_ j hj k ha; have := hF j hj; grind
 | succ m ih =>
  intro k hk hm
  rcases Dn.at_ k hk with e | ⟨j,hj,ha,e⟩
  ·exact ⟨k,hk,by exact Int.le_of_eq (congrArg (HSub.hSub (σ k)) e)⟩
  ·have h1 := U.near_ j hj k ha
   have h2 := hF j hj
   refine eEA (ih j hj (by (clear hk hj e h2; grind))) fun k' hk' h => ?_
   have := S.an k j hk hj (W.of j hj k ha)
   exact ⟨k',hk',by lia⟩
theorem edf_best (W : Wish n An near) (h0 : ∀ j,j < n→0≤starts j) (U : MovedUp n near starts first) (Dn : MovedDn n near dues last) (E : Edf n first last told) (S : Way n An starts σ) {j : Nat} (hj : j < n) : ∃ k,k < n∧told j - dues j≤σ k - dues k := by
 have hP0 : ∃ k,k < n∧told k = told j - (0 : Nat)∧last k≤last j := ⟨j,hj,by simp,Int.le_refl _⟩
 obtain ⟨m,hm,hm2⟩ : ∃ m : Nat,(∀ i : Nat,i≤m→∃ k,k < n∧told k = told j - (i : Int)∧last k≤last j)∧¬ ∃ k,k < n∧told k = told j - (m + 1 : Nat)∧last k≤last j := by
  refine Classical.byContradiction fun q => ?_
  have all : ∀ m : Nat,∀ i : Nat,i≤m→∃ k,k < n∧told k = told j - (i : Int)∧last k≤last j := by
   intro m
   induction m with
   | zero =>
    intro i hi
    obtain rfl : i = 0 := by exact Nat.eq_zero_of_le_zero hi
    exact hP0
   | succ m ih =>
    intro i hi
    by_cases e : i = m + 1
    ·subst e
     exact Classical.byContradiction fun w => q ⟨m,ih,w⟩
    ·exact ih i (by lia)
  have := few_hours (told := told) (n := n) (m := n + 1) (f := fun i => told j - (i : Int)) (fun i k _ _ e => by lia) fun i hi => by
   refine eEAA (all n i (by exact Nat.le_of_lt_succ hi)) fun k h1 h2 _ => ?_
   exact ⟨k,h1,h2⟩
  lia
 obtain ⟨g,hg⟩ : ∃ g : Nat→Nat,∀ i,i≤m→g i < n∧told (g i) = told j - (i : Int)∧last (g i)≤last j :=
  ⟨fun i => if q : i≤m then (hm i q).choose else 0,fun i q => by simp only [q,dif_pos]; exact (hm i q).choose_spec⟩
 have hfirst : ∀ i,i≤m→told j - (m : Int)≤first (g i) := fun i hi => Classical.byContradiction fun q => by
  refine eAA (hg i hi) fun g1 g2 g3 => ?_
  refine eEAA (E.pick (g i) g1 (told j - (m + 1 : Nat)) (by lia) (by (clear hj hm2 q g1 g3; lia))) fun x hx hx2 hx3 => ?_
  exact hm2 ⟨x,hx,hx2,by grind⟩
 obtain ⟨k,hk,hk2⟩ := pigeon (l := (List.range (m + 1)).map g) (f := σ) (lo := told j - (m : Int)) (m + 1) (by simp) (List.pairwise_map.mpr (List.Pairwise.imp_of_mem (fun {x y} hx hy hxy e => by
   have h1 := (hg x (by have := List.mem_range.mp hx; exact Nat.le_of_lt_succ this)).2.1
   have h2 := (hg y (by have := List.mem_range.mp hy; exact Nat.le_of_lt_succ this)).2.1
   rw [e] at h1
   lia) (List.pairwise_lt_range (n := m + 1)))) (fun x hx y hy e => by
   refine eEA (List.mem_map.mp hx) fun i hi zz2 => ?_; subst zz2
   refine eEA (List.mem_map.mp hy) fun i' hi' zz2 => ?_; subst zz2
   exact S.inj _ _ (hg i (by have := List.mem_range.mp hi; exact Nat.le_of_lt_succ this)).1 (hg i' (by have := List.mem_range.mp hi'; exact Nat.le_of_lt_succ this)).1 e) (fun x hx => by
   refine eEA (List.mem_map.mp hx) fun i hi zz2 => ?_; subst zz2
   have hi : i≤m := by have := List.mem_range.mp hi; (clear hj hm2; lia)
   have h1 := hfirst i hi
   have h2 := way_first W h0 U S _ (g i) (hg i hi).1 (Nat.le_refl _)
   exact Int.le_trans (hfirst i hi) h2) (by exact Nat.zero_lt_succ m)
 refine eEA (List.mem_map.mp hk) fun i hi zz2 => ?_; subst zz2
 have hi : i≤m := by have := List.mem_range.mp hi; (clear hj hm2 hk2; omega)
 refine eAA (hg i hi) fun g1 g2 g3 => ?_
 have hF : ∃ F : Int,∀ j,j < n→first j≤F := by
  refine ⟨((List.range n).map fun j => (first j).toNat).sum,fun j hj => ?_⟩
  have : (first j).toNat≤((List.range n).map fun j => (first j).toNat).sum := by
   have hm : (first j).toNat ∈ (List.range n).map fun j => (first j).toNat := List.mem_map.mpr ⟨j,List.mem_range.mpr hj,rfl⟩
   generalize (List.range n).map (fun j => (first j).toNat) = l at *
   clear hk2 hfirst hg hm2 hP0
   induction l with
   | nil => cases hm
   | cons a l ih =>
    refine rE List.sum_cons ?_
    rcases List.mem_cons.mp hm with e | e
    ·lia
    ·have := ih e; lia
  (clear hm2 hk2 hi g1 g2 g3 hj; lia)
 refine eE hF fun F hF => ?_
 refine eEA (way_last W U Dn S F hF _ (g i) g1 (Nat.le_refl _)) fun k' hk' h => ?_
 have := Dn.le j hj
 exact ⟨k',hk',by lia⟩
end
end
end Mine
end
section
namespace Mine
noncomputable section
noncomputable abbrev anStep (An : Nat→Nat→Prop) (a b : Nat) (x k : Nat) : Prop := An x k∨((k = b∨An b k)∧(x = a∨An x a))
noncomputable abbrev nearStep (near : Nat→List Nat) (a b k : Nat) : List Nat := if k = b then near k ++ [a] else near k
structure WishS (n : Nat) (An : Nat→Nat→Prop) (near : Nat→List Nat) : Prop extends Wish n An near where
 irr : ∀ a,¬ An a a
 lt2 : ∀ a b,An a b→b < n
theorem WishS.nil {n : Nat} : WishS n (fun _ _ => False) fun _ => [] :=
 ⟨⟨fun _ _ _ h => (by cases h),fun _ _ _ h => (by cases h),fun _ _ _ h => h.elim,fun _ _ _ h => h.elim,fun _ _ _ h => h.elim⟩,fun _ h => h,fun _ _ h => h.elim⟩
set_option tactic.hygienic true in
theorem WishS.step {n : Nat} {An : Nat→Nat→Prop} {near : Nat→List Nat} (W : WishS n An near) {a b : Nat} (ha : a < n) (hb : b < n) (hab : a≠b) (hn : ¬ An b a) : WishS n (anStep An a b) (nearStep near a b) := by
 have mem : ∀ {k c},c ∈ nearStep near a b k↔c ∈ near k∨(k = b∧c = a) := fun {k c} => by
  unfold nearStep
  split
  ·rename_i h; rw [List.mem_append,List.mem_singleton]; simp [h]
  ·rename_i h; simp [h]
 refine ⟨⟨fun k hk c hc => ?_,fun k hk c hc => ?_,?_,?_,?_⟩,?_,?_⟩
 ·rcases mem.mp hc with h | ⟨_,rfl⟩
  ·exact W.lt k hk c h
  ·exact ha
 ·rcases mem.mp hc with h | ⟨rfl,rfl⟩
  ·exact .inl (W.of k hk c h)
  ·exact .inr ⟨.inl rfl,.inl rfl⟩
 ·rintro x y z (h1 | ⟨h1,h2⟩) (h3 | ⟨h3,h4⟩)
  ·exact .inl (W.tr _ _ _ h1 h3)
  ·refine .inr ⟨h3,.inr ?_⟩
   rcases h4 with rfl | h4
   ·exact h1
   ·exact W.tr _ _ _ h1 h4
  ·refine .inr ⟨.inr ?_,h2⟩
   rcases h1 with rfl | h1
   ·exact h3
   ·exact W.tr _ _ _ h1 h3
  ·exact .inr ⟨h3,h2⟩
 ·rintro x k hk (h | ⟨_,h⟩)
  ·exact W.ltA x k hk h
  ·rcases h with rfl | h
   ·exact ha
   ·exact W.ltA x a ha h
 ·rintro x k hk (h | ⟨h1,h2⟩)
  ·refine eEA (W.by_ x k hk h) fun c hc h => ?_
   exact ⟨c,mem.mpr (.inl hc),h.imp id .inl⟩
  ·rcases h1 with rfl | h1
   ·exact ⟨a,mem.mpr (.inr ⟨rfl,rfl⟩),h2.imp id .inl⟩
   ·refine eEA (W.by_ b k hk h1) fun c hc h => ?_
    refine ⟨c,mem.mpr (.inl hc),.inr (.inr ⟨?_,h2⟩)⟩
    rcases h with rfl | h
    ·exact .inl rfl
    ·exact .inr h
 ·rintro x (h | ⟨h1,h2⟩)
  ·exact W.irr x h
  ·rcases h1 with rfl | h1 <;> rcases h2 with h2 | h2
   ·exact hab h2.symm
   ·exact hn h2
   ·subst h2; exact hn h1
   ·exact hn (W.tr _ _ _ h1 h2)
 ·rintro x k (h | ⟨h1,h2⟩)
  ·exact W.lt2 x k h
  ·rcases h1 with rfl | h1
   ·exact hb
   ·exact W.lt2 b k h1
theorem WishS.rank {n : Nat} {An : Nat→Nat→Prop} {near : Nat→List Nat} (W : WishS n An near) : ∃ rk : Nat→Nat,(∀ k,rk k≤n)∧∀ a b,An a b→rk a < rk b := by
 classical
 refine ⟨fun k => ((List.range n).filter fun x => decide (An x k)).length,fun k => Nat.le_trans (List.length_filter_le ..) (by simp),fun a b h => ?_⟩
 have hsub : ∀ x,x ∈ (List.range n).filter (fun x => decide (An x a))→x ∈ ((List.range n).filter fun x => decide (An x b)).erase a := fun x hx => by
  refine eA (List.mem_filter.mp hx) fun h1 h2 => ?_
  have h2 : An x a := of_decide_eq_true h2
  refine (List.mem_erase_of_ne fun e => ?_).mpr (List.mem_filter.mpr ⟨h1,decide_eq_true (W.tr _ _ _ h2 h)⟩)
  subst e; exact W.irr _ h2
 have hab : a ∈ (List.range n).filter fun x => decide (An x b) := List.mem_filter.mpr ⟨List.mem_range.mpr (W.ltA a b (W.lt2 _ _ h) h),decide_eq_true h⟩
 have nd : ∀ k,((List.range n).filter fun x => decide (An x k)).Nodup := fun k => List.nodup_range.filter _
 have h1 := nodup_le2 (nd a) hsub
 have h2 := List.length_erase_of_mem hab
 have h3 := List.length_pos_of_mem hab
 show List.length _ < List.length _
 omega
end
end Mine
end
section
open PySem PySem.Calls PySem.W PyProof.Rows
set_option maxRecDepth 100000
namespace Mine
noncomputable section
section
variable {C : Cx} {A : Around} {m : Loc} {H : CH} {s : Shared} {Q : V→Loc→CH→Prop}
theorem CV_max_ints {l : Addr} {ns : List Int} (hA : A.handled = none) (hl : LAt C H l (ns.map .int)) (hne : ns≠[]) (h : ∀ M,M ∈ ns→(∀ a ∈ ns,a≤M)→Q (.int M) m H) : CV C A (.con (.builtin "max")) [.ref l] [] m H Q := fun s rf rs rkw S hf hva hk => by
 have := hk.nil_inv; subst this
 refine rE hf.con_inv ?_
 refine eEA (one_inv hva) fun x zz1 hx => ?_; subst zz1
 refine rE hx.ref_inv ?_
 obtain ⟨items,n,hI,hvs,hz⟩ := S.toHS.list hl
 have hi := ints_all hvs
 refine eE hi.allInts.items fun xs hxs => ?_
 rw [Array.toArray_toList] at hxs
 subst hxs
 have hns : ns = xs.toList.map (·.1) := by refine rF hi.numsOf (rF (nums_intItems ..) rfl)
 have hsz : 0 < xs.size := by
  rcases Nat.eq_zero_or_pos xs.size with q | q
  ·exact absurd (by refine rE hns (rE (Array.eq_empty_of_size_eq_zero q) ?_); rfl) hne
  ·exact q
 refine max_intList hA hI.isList hsz fun v h' tk hv hk => ?_
 refine eE (intItems_at hv) fun t zz1 => ?_; subst zz1
 refine eA (argBest_gt (numAt xs) (xs.size - 1)) fun h1 h2 => ?_
 refine ⟨_,m,H,.int,S.more (tk := tk) hk,.more (tk := tk) hk,h _ ?_ fun a ha => ?_⟩
 ·refine rE hns (rE (numAt_eq ..) ?_); exact getD_mem (by refine rE (List.length_map ..) (rE Array.length_toList ?_); exact Nat.lt_of_le_pred hsz h1)
 ·rw [hns] at ha
  refine eEA (mem_getD ha) fun j hj zz2 => ?_; subst zz2
  rw [List.length_map,Array.length_toList] at hj
  refine rF (numAt_eq ..) ?_; exact h2 j (by exact (fun {m n} h => (Nat.le_sub_one_iff_lt h).mpr) hsz hj)
theorem EV_slice2 {value lower upper : PySem.Expr} {p pos : Pos} (h : EV C A value m H fun o m₁ H₁ => EV C A lower m₁ H₁ fun i m₂ H₂ => EV C A upper m₂ H₂ fun j m₃ H₃ => ∃ l xs a b,o = .ref l∧i = .int a∧j = .int b∧LAt C H₃ l xs∧xs.length≤sizeLine∧∀ D,H₃ D = none→Q (.ref D) m₃ (H₃.set D (.list (pickL xs (some a) (some b) none)))) :
  EV C A (.Subscript value (.Slice (some lower) (some upper) none p) pos) m H Q := fun s S => by
 refine Subscript_ (wpAny_mono (h s S) ?_ fun _ _ x => x)
 rintro a s₁ ⟨v,m₁,H₁,ra,S₁,af₁,h₁⟩
 refine wpAny_Slice (wpAny_mono (h₁ s₁ S₁) ?_ fun _ _ x => x)
 rintro b s₂ ⟨i,m₂,H₂,rb,S₂,af₂,h₂⟩
 refine wpAny_mono (h₂ s₂ S₂) ?_ fun _ _ x => x
 rintro c s₃ ⟨j,m₃,H₃,rc,S₃,af₃,l,xs,k,e,rfl,rfl,rfl,hl,hsz,hq⟩
 refine rE (evalPart_none ..) ?_
 refine wpAny_pure ?_
 refine rE ra.ref_inv ?_
 refine eE rb.int_inv fun t zz1 => ?_; subst zz1
 refine eE rc.int_inv fun u zz1 => ?_; subst zz1
 obtain ⟨items,n,hI,hvs,hz⟩ := S₃.toHS.list hl
 first
  | exact tail_any (ops := [.ref s₃.heap.objs.size,.ref l]) (hI.isList.push _).typeIs list_getitem_lookup (wpAny_mono (slice_end S₃ hl hsz (.int k t) (.int e u) .none (by simp) hq) (fun _ _ x => x.mono S₃ ((af₁.then S₁ af₂).then S₂ af₃)) fun _ _ x => x) rfl
  | exact tail_any (ops := [.ref l,.ref s₃.heap.objs.size]) (hI.isList.push _).typeIs list_getitem_lookup (wpAny_mono (slice_end S₃ hl hsz (.int k t) (.int e u) .none (by simp) hq) (fun _ _ x => x.mono S₃ ((af₁.then S₁ af₂).then S₂ af₃)) fun _ _ x => x) rfl
end
end
end Mine
end
section
open PySem PySem.Calls PySem.W PyProof.Rows
set_option maxRecDepth 100000
namespace Mine
noncomputable section
section
variable {C : Cx} {A : Around} {m : Loc} {H : CH} {s : Shared} {K : Frag} {mg mb : Str→Option Value} {Q : V→Loc→CH→Prop}
theorem BindsW.dfltk {fd : FuncData} {vs : List V} {kws binds : List (Str × V)} {T : Addr} {items : List Value} {n : Nat} (B : Bs C.h₀ K mg mb) (hT : K.lookup T = some (seqObj "tuple" items.toArray n))
  (h : ∀ (h : Heap) rs rkw,VRs h vs rs→KWs h kws rkw→∃ (k : Option (Array Value)→Sem (List (Str × Value))) (rb : List (Str × Value)),bindArgs fd ⟨rs,rkw⟩ = (seqItems? (.ref T) >>= k)∧k (some items.toArray) = pure rb∧KWs h binds rb) : BindsW C H fd vs kws binds := fun M A E s rs rkw Q S hv hk hq => by
 refine eEEAA (h s.heap rs rkw hv hk) fun k rb e1 e2 e4 => ?_
 refine rE e1 ?_
 refine wpAny_bind (wpAny_seqItems (S.base _ _ (B.X _ _ hT)) rfl ?_)
 refine rE e2 ?_
 exact wpAny_pure (hq rb s.heap s.toks (fun _ _ e => e) e4)
end
end
end Mine
end
section
open PySem PySem.Calls PySem.W PyProof.Rows
set_option maxRecDepth 100000
namespace Mine
noncomputable section
section
variable {C : Cx} {A : Around} {m : Loc} {H : CH} {s : Shared}
theorem EV_callk {func e : PySem.Expr} {args : List PySem.Expr} {key : Str} {kp p : Pos} {Q : V→Loc→CH→Prop} (h : EV C A func m H fun f m₁ H₁ => EL C A args m₁ H₁ fun vs m₂ H₂ => EV C A e m₂ H₂ fun kv m₃ H₃ => KP C f H₃∧CV C A f vs [(key,kv)] m₃ H₃ Q)
  (hst : ∀ pos,∃ x rest,backTo pos (starEach args C.env) = (false,x) :: rest := by exact fun _ => ⟨_,_,by with_unfolding_all rfl⟩)
  (he : autoParam (eval (.Call func args [⟨some key,e,kp⟩] p) C.env = (do callWith p (← eval func C.env) [] (backTo p (starEach args C.env)) (backToKw p (keywordEach [⟨some key,e,kp⟩] C.env)))) Mine.syn1) : EV C A (.Call func args [⟨some key,e,kp⟩] p) m H Q := fun s S => by
 refine rE he ?_
 refine wpAny_bind (wpAny_mono (h s S) ?_ fun _ _ x => x)
 rintro rf s₁ ⟨f,m₁,H₁,vf,S₁,af₁,h₁⟩
 refine callWith_any ?_
 refine eEE (hst p) fun x rest hb => ?_
 have h2 := h₁ s₁ p S₁
 rw [hb] at h2 ⊢
 refine evalArgs_kw (by rfl) (wpAny_mono h2 ?_ fun _ _ x => x)
 rintro rs s₂ ⟨vs,m₂,H₂,vr,S₂,af₂,h₂⟩
 show wpAny _ _ (evalAll [do let v ← eval e C.env; standAt p; pure v]) _ _ _
 refine wpAny_evalAll_cons (wpAny_bind (wpAny_mono (h₂ s₂ S₂) ?_ fun _ _ x => x))
 rintro rk s₃ ⟨kv,m₃,H₃,vk,S₃,af₃,hk,h₃⟩
 refine wpAny_bind (wpAny_standAt (wpAny_pure (wpAny_evalAll_nil ?_)))
 have vf₃ := vf.keep ((af₂.then S₂ af₃).tup S₁)
 obtain ⟨k,L⟩ := hk s₃ rf S₃.toHS vf₃
 refine ⟨k,L,wpAny_mono (h₃ s₃ rf rs [(key,rk)] S₃ vf₃ (vr.keep (af₃.tup S₂)) ⟨rfl,.cons vk .nil⟩) (fun _ _ x => x.mono S₃ ((af₁.then S₁ af₂).then S₂ af₃)) fun _ _ x => x⟩
end
end
end Mine
end
section
namespace Mine
noncomputable section
theorem bit_up {d j a : Nat} (h : d / 2 ^ j % 2 = 0) (ha : j < a) : (d + 2 ^ j) / 2 ^ a = d / 2 ^ a := by
 obtain ⟨k,rfl⟩ : ∃ k,a = j + 1 + k := ⟨a - (j + 1),by exact Eq.symm (Nat.add_sub_of_le ha)⟩
 have e : ∀ x : Nat,x / 2 ^ (j + 1 + k) = x / 2 ^ j / 2 / 2 ^ k := fun x => by
  refine rE (Nat.div_div_eq_div_mul ..) (rE (Nat.div_div_eq_div_mul ..) (rE (Nat.pow_add ..) (rE (Nat.pow_add ..) (rE (Nat.pow_one ..) (rE (Nat.mul_assoc ..) rfl)))))
 refine rE (e ..) (rE (e ..) ?_)
 have : (d + 2 ^ j) / 2 ^ j = d / 2 ^ j + 1 := Nat.add_div_right d (Nat.two_pow_pos j)
 refine rE this ?_
 congr 1
 lia
theorem bit_set {d j a : Nat} (h : d / 2 ^ j % 2 = 0) : (d + 2 ^ j) / 2 ^ a % 2 = if a = j then 1 else d / 2 ^ a % 2 := by
 by_cases e : a = j
 ·subst e
  refine rE (if_pos rfl) (rE (Nat.add_div_right d (Nat.two_pow_pos a)) ?_); lia
 ·refine rE (if_neg e) ?_
  by_cases q : j < a
  ·refine rE (bit_up h q) rfl
  ·obtain ⟨k,rfl⟩ : ∃ k,j = a + 1 + k := ⟨j - (a + 1),by (clear h; grind)⟩
   have e2 : 2 ^ (a + 1 + k) = (2 * 2 ^ k) * 2 ^ a := by
    refine rE (show a + 1 + k = k + 1 + a by (clear h e q; lia)) (rE (Nat.pow_add ..) (rE (Nat.pow_succ ..) (rE (Nat.mul_comm (2 ^ k) 2) rfl)))
   refine rE e2 (rE (Nat.add_mul_div_right _ _ (Nat.two_pow_pos a)) (rE (Nat.add_mul_mod_self_left ..) rfl))
theorem bit_lt {d j n : Nat} (h : d / 2 ^ j % 2 = 0) (hj : j < n) (hd : d < 2 ^ n) : d + 2 ^ j < 2 ^ n := by
 have := bit_up h hj
 rw [Nat.div_eq_of_lt hd] at this
 exact (Nat.div_eq_zero_iff_lt (Nat.two_pow_pos n)).mp this
theorem all_bits {S : Nat} : ∀ {n : Nat},(∀ j,j < n→S / 2 ^ j % 2 = 1)→S % 2 ^ n = 2 ^ n - 1
 | 0,_ => by simp [Nat.mod_one]
 | n + 1,h => by
  have ih := all_bits (S := S) (n := n) fun j hj => h j (by exact Nat.lt_add_right 1 hj)
  refine rE Nat.mod_pow_succ (rE ih (rE (h n (by exact Nat.lt_add_one n)) (rE (Nat.mul_one ..) (rE (Nat.pow_succ ..) ?_))))
  have := Nat.two_pow_pos n
  grind
structure Hour (n : Nat) (An : Nat→Nat→Prop) (starts dues : Nat→Int) (hour : Int) (best grown : Nat→Option Int) : Prop where
 up : ∀ S,S < 2 ^ n→∀ v,grown S = some v→best S = some v∨∃ d j u,d < 2 ^ n∧j < n∧d / 2 ^ j % 2 = 0∧S = d + 2 ^ j∧best d = some u∧starts j≤hour∧(∀ a,a < n→An a j→d / 2 ^ a % 2≠0)∧v = max u (hour + 1 - dues j)
 keep : ∀ S,S < 2 ^ n→∀ v,best S = some v→∃ w,w≤v∧grown S = some w
 down : ∀ d j u,d < 2 ^ n→j < n→d / 2 ^ j % 2 = 0→best d = some u→starts j≤hour→(∀ a,a < n→An a j→d / 2 ^ a % 2≠0)→∃ w,w≤max u (hour + 1 - dues j)∧grown (d + 2 ^ j) = some w
section
variable {n : Nat} {An : Nat→Nat→Prop} {near : Nat→List Nat} {starts dues first last told σ : Nat→Int}
set_option tactic.hygienic true in
theorem least_law {bests : Nat→Nat→Option Int} {base late : Int} (W : Wish n An near) (h0 : ∀ j,j < n→0≤starts j) (h5 : ∀ j,j < n→starts j≤5) (U : MovedUp n near starts first) (Dn : MovedDn n near dues last) (E : Edf n first last told)
  (b0 : ∀ S,S < 2 ^ n→bests 0 S = if S = 0 then some base else none) (bh : ∀ h,h < 5 + n→Hour n An starts dues (h : Nat) (bests h) (bests (h + 1)))
  (l1 : ∀ j,j < n→told j + 1 - dues j≤late) (l2 : ∃ j,j < n∧late = told j + 1 - dues j) (l3 : base≤late) : bests (5 + n) (2 ^ n - 1) = some late := by
 have Sg := told_way W h0 U Dn E
 have t0 : ∀ j,j < n→0≤told j := fun j hj => by have := h0 j hj; have := Sg.ge j hj; exact Int.le_trans (h0 j hj) this
 have t1 : ∀ j,j < n→told j≤4 + n := fun j hj => told_le W h5 U E hj
 have sound : ∀ h,h≤5 + n→∀ S,S < 2 ^ n→∀ v,bests h S = some v→∃ σ : Nat→Int,(∀ j,j < n→S / 2 ^ j % 2≠0→starts j≤σ j∧σ j < h∧σ j + 1 - dues j≤v)∧(∀ j k,j < n→k < n→S / 2 ^ j % 2≠0→S / 2 ^ k % 2≠0→σ j = σ k→j = k) ∧
   (∀ a b,a < n→b < n→S / 2 ^ b % 2≠0→An a b→S / 2 ^ a % 2≠0∧σ a < σ b) := by
  intro h
  induction h with
  | zero =>
   intro _ S hS v hv
   rw [b0 S hS] at hv
   split at hv
   ·rename_i e
    subst e
    exact ⟨fun _ => 0,fun j _ h => by simp at h,fun j k _ _ h => by simp at h,fun a b _ _ h => by simp at h⟩
   ·cases hv
  | succ h ih =>
   intro hh S hS v hv
   rcases (bh h (by assumption)).up S hS v hv with hb | ⟨d,j,u,hd,hj,hdj,rfl,hu,hst,han,rfl⟩
   ·refine eEAA (ih (by exact Nat.le_of_succ_le hh) S hS v hb) fun σ s1 s2 s3 => ?_
    exact ⟨σ,fun j hj hb => by have := s1 j hj hb; grind,s2,s3⟩
   ·refine eEAA (ih (by exact Nat.le_of_succ_le hh) d hd u hu) fun σ s1 s2 s3 => ?_
    have bs : ∀ k,(d + 2 ^ j) / 2 ^ k % 2≠0→k≠j→d / 2 ^ k % 2≠0 := fun k hk e => by rw [bit_set hdj,if_neg e] at hk; exact hk
    refine ⟨fun k => if k = j then (h : Int) else σ k,fun k hk hb => ?_,fun k k' hk hk' hb hb' e => ?_,fun a b ha hbn hb han2 => ?_⟩
    ·by_cases e : k = j
     ·subst e; simp only [if_pos]; (clear l3 hh hd hu hk hj hdj hS hv hb; omega)
     ·have := s1 k hk (bs k hb e)
      simp only [if_neg e]; (clear l3 hh hd hj hdj hS hu hst hv hk hb e; omega)
    ·by_cases e1 : k = j
     ·by_cases e2 : k' = j
      ·lia
      ·have := s1 k' hk' (bs k' hb' e2)
       simp only [if_pos e1,if_neg e2] at e; lia
     ·have := s1 k hk (bs k hb e1)
      by_cases e2 : k' = j
      ·simp only [if_neg e1,if_pos e2] at e; lia
      ·simp only [if_neg e1,if_neg e2] at e
       exact s2 k k' hk hk' (bs k hb e1) (bs k' hb' e2) e
    ·by_cases e : b = j
     ·subst e
      have h1 := han a ha han2
      have haj : a≠b := fun q => by rw [q] at h1; exact h1 hdj
      have h2 := s1 a ha h1
      refine ⟨by refine rE (bit_set hdj) (rE (if_neg haj) ?_); exact h1,?_⟩
      simp only [if_neg haj,if_pos]; lia
     ·refine eA (s3 a b ha hbn (bs b hb e) han2) fun h1 h2 => ?_
      have haj : a≠j := fun q => by rw [q] at h1; exact h1 hdj
      refine ⟨by refine rE (bit_set hdj) (rE (if_neg haj) ?_); exact h1,?_⟩
      simp only [if_neg haj,if_neg e]; exact h2
 have full : ∀ h,h≤5 + n→∃ S,S < 2 ^ n∧(∀ j,j < n→(S / 2 ^ j % 2≠0↔told j < h))∧∃ w,w≤late∧bests h S = some w := by
  intro h
  induction h with
  | zero =>
   intro _
   refine ⟨0,Nat.two_pow_pos n,fun j hj => ?_,base,l3,by refine rE (b0 0 (Nat.two_pow_pos n)) (rE (if_pos rfl) rfl)⟩
   have := t0 j hj
   simp; omega
  | succ h ih =>
   intro hh
   obtain ⟨S,hS,hb,w,hw,hv⟩ := ih (by exact Nat.le_of_succ_le hh)
   have B := bh h (by assumption)
   by_cases q : ∃ j,j < n∧told j = h
   ·refine eEA q fun j hj hjh => ?_
    have hSj : S / 2 ^ j % 2 = 0 := Classical.byContradiction fun e => by have := (hb j hj).mp e; lia
    refine eEA (B.down S j w hS hj hSj hv (by have := Sg.ge j hj; exact le_of_le_of_eq this hjh) fun a ha han => (hb a ha).mpr (by have := Sg.an a j ha hj han; exact lt_of_lt_of_eq this hjh)) fun w' hw' hv' => ?_
    refine ⟨S + 2 ^ j,bit_lt hSj hj hS,fun k hk => ?_,w',?_,hv'⟩
    ·refine rE (bit_set hSj) ?_
     by_cases e : k = j
     ·subst e; simp; exact Int.lt.intro (congrFun (congrArg HAdd.hAdd hjh) (↑0 + 1))
     ·refine rE (if_neg e) ?_; rewrite [hb k hk]
      have : told k≠h := fun q => e (Sg.inj k j hk hj (by exact Nat.ToInt.of_eq (id (Eq.symm q)) (id (Eq.symm hjh)) rfl))
      (clear l3 hh hS hw hv hj hSj hw' hv' hk e; omega)
    ·have := l1 j hj
     (clear l3 hh hS hv hj hSj hv'; omega)
   ·refine eEA (B.keep S hS w hv) fun w' hw' hv' => ?_
    refine ⟨S,hS,fun k hk => ?_,w',by exact Int.le_trans hw' hw,hv'⟩
    rw [hb k hk]
    have : told k≠h := fun e => q ⟨k,hk,e⟩
    (clear l3 hh hS hw hv q hw' hv' hk; omega)
 obtain ⟨S,hS,hb,w,hw,hv⟩ := full (5 + n) (Nat.le_refl _)
 have hall : ∀ j,j < n→S / 2 ^ j % 2 = 1 := fun j hj => by
  have := (hb j hj).mpr (by have := t1 j hj; lia)
  exact (fun {n} => Nat.mod_two_ne_zero.mp) this
 have hSe : S = 2 ^ n - 1 := by
  have := all_bits hall
  rwa [Nat.mod_eq_of_lt hS] at this
 subst hSe
 refine eEAA (sound (5 + n) (Nat.le_refl _) _ hS w hv) fun σ s1 s2 s3 => ?_
 have one : ∀ j,j < n→(2 ^ n - 1) / 2 ^ j % 2≠0 := fun j hj => by refine rE (hall j hj) ?_; decide
 have Sw : Way n An starts σ := ⟨fun j k hj hk e => s2 j k hj hk (one j hj) (one k hk) e,fun j hj => (s1 j hj (one j hj)).1,fun a b ha hb h => (s3 a b ha hb (one b hb) h).2⟩
 refine eEA l2 fun j hj e => ?_
 refine eEA (edf_best W h0 U Dn E Sw hj) fun k hk h => ?_
 have := (s1 k hk (one k hk)).2.2
 refine rE hv (rE (show w = late from by lia) rfl)
end
end
end Mine
end
section
namespace Mine
noncomputable section
noncomputable def Can (n : Nat) (An : Nat→Nat→Prop) (starts : Nat→Int) (hour : Int) (d j : Nat) : Prop := d / 2 ^ j % 2 = 0∧starts j≤hour∧∀ a,a < n→An a j→d / 2 ^ a % 2≠0
structure HourP (n : Nat) (An : Nat→Nat→Prop) (starts dues : Nat→Int) (hour : Int) (best grown : Nat→Option Int) (P : Nat→Nat→Prop) : Prop where
 up : ∀ S,S < 2 ^ n→∀ v,grown S = some v→best S = some v∨∃ d j u,d < 2 ^ n∧j < n∧S = d + 2 ^ j∧best d = some u∧Can n An starts hour d j∧v = max u (hour + 1 - dues j)
 keep : ∀ S,S < 2 ^ n→∀ v,best S = some v→∃ w,w≤v∧grown S = some w
 down : ∀ d j u,d < 2 ^ n→j < n→P d j→best d = some u→Can n An starts hour d j→∃ w,w≤max u (hour + 1 - dues j)∧grown (d + 2 ^ j) = some w
section
variable {n : Nat} {An : Nat→Nat→Prop} {starts dues : Nat→Int} {hour : Int} {best grown : Nat→Option Int} {P P' : Nat→Nat→Prop}
theorem HourP.start : HourP n An starts dues hour best best fun _ _ => False :=
 ⟨fun S _ v h => .inl h,fun S _ v h => ⟨v,Int.le_refl _,h⟩,fun _ _ _ _ _ h => h.elim⟩
theorem HourP.mono (h : HourP n An starts dues hour best grown P) (q : ∀ d j,d < 2 ^ n→j < n→P' d j→P d j) : HourP n An starts dues hour best grown P' :=
 ⟨h.up,h.keep,fun d j u hd hj hp => h.down d j u hd hj (q d j hd hj hp)⟩
theorem HourP.skip (h : HourP n An starts dues hour best grown P) {d j : Nat} (q : ∀ u,best d = some u→¬ Can n An starts hour d j) : HourP n An starts dues hour best grown fun x y => P x y∨(x = d∧y = j) :=
 ⟨h.up,h.keep,fun x y u hd hj hp hb hc => by
  rcases hp with hp | ⟨rfl,rfl⟩
  ·exact h.down x y u hd hj hp hb hc
  ·exact (q u hb hc).elim⟩
theorem HourP.leave (h : HourP n An starts dues hour best grown P) {d j : Nat} {u w : Int} (hb : best d = some u) (hg : grown (d + 2 ^ j) = some w) (hw : ¬ max u (hour + 1 - dues j) < w) : HourP n An starts dues hour best grown fun x y => P x y∨(x = d∧y = j) :=
 ⟨h.up,h.keep,fun x y u' hd hj hp hb' hc => by
  rcases hp with hp | ⟨rfl,rfl⟩
  ·exact h.down x y u' hd hj hp hb' hc
  ·rw [hb] at hb'; cases hb'
   exact ⟨w,Int.not_lt.mp hw,hg⟩⟩
theorem HourP.put (h : HourP n An starts dues hour best grown P) {d j : Nat} {u : Int} (hd : d < 2 ^ n) (hj : j < n) (hb : best d = some u) (hc : Can n An starts hour d j) (hg : ∀ w,grown (d + 2 ^ j) = some w→max u (hour + 1 - dues j) < w) :
  HourP n An starts dues hour best (fun S => if S = d + 2 ^ j then some (max u (hour + 1 - dues j)) else grown S) fun x y => P x y∨(x = d∧y = j) := by
 refine ⟨fun S hS v hv => ?_,fun S hS v hv => ?_,fun x y u' hx hy hp hb' hc' => ?_⟩
 ·by_cases e : S = d + 2 ^ j
  ·rw [if_pos e] at hv
   exact .inr ⟨d,j,u,hd,hj,e,hb,hc,(Option.some.inj hv).symm⟩
  ·rw [if_neg e] at hv; exact h.up S hS v hv
 ·refine eEA (h.keep S hS v hv) fun w h1 h2 => ?_
  by_cases e : S = d + 2 ^ j
  ·refine ⟨_,?_,if_pos e⟩
   have := hg w (by refine rF e ?_; exact h2)
   exact Int.le_trans (Int.le_of_lt this) h1
  ·exact ⟨w,h1,(if_neg e).trans h2⟩
 ·rcases hp with hp | ⟨rfl,rfl⟩
  ·refine eEA (h.down x y u' hx hy hp hb' hc') fun w h1 h2 => ?_
   by_cases e : x + 2 ^ y = d + 2 ^ j
   ·refine ⟨_,?_,if_pos e⟩
    have := hg w (by refine rF e ?_; exact h2)
    exact Int.le_trans (Int.le_of_lt this) h1
   ·exact ⟨w,h1,(if_neg e).trans h2⟩
  ·rw [hb] at hb'; cases hb'
   exact ⟨_,Int.le_refl _,if_pos rfl⟩
theorem HourP.all (h : HourP n An starts dues hour best grown fun _ _ => True) : Hour n An starts dues hour best grown :=
 ⟨fun S hS v hv => (h.up S hS v hv).imp id fun ⟨d,j,u,h1,h2,h3,h4,⟨c1,c2,c3⟩,h5⟩ => ⟨d,j,u,h1,h2,c1,h3,h4,c2,c3,h5⟩,h.keep,fun d j u h1 h2 h3 h4 h5 h6 => h.down d j u h1 h2 trivial h4 ⟨h3,h5,h6⟩⟩
end
end
end Mine
end
section
namespace Mine
noncomputable section
noncomputable abbrev mvAt (near : Nat→List Nat) (hf : Nat→Int) (st : Int) (pk : Int→Int→Int) (mv : Nat→Int) (j : Nat) : Int := (near j).foldl (fun now a => pk now (mv a + st)) (hf j)
noncomputable abbrev mput (mv : Nat→Int) (j : Nat) (v : Int) : Nat→Int := fun k => if k = j then v else mv k
structure MvI (N : Nat) (near : Nat→List Nat) (hf : Nat→Int) (st : Int) (pk : Int→Int→Int) (mv : Nat→Int) (D : Nat→Prop) : Prop where
 eq : ∀ j,j < N→D j→mv j = mvAt near hf st pk mv j
 cl : ∀ j,j < N→D j→∀ a ∈ near j,D a
section
variable {N : Nat} {near : Nat→List Nat} {hf : Nat→Int} {st : Int} {pk : Int→Int→Int} {mv : Nat→Int} {D : Nat→Prop}
theorem fold_congr {f g : Int→Nat→Int} : ∀ {l : List Nat} {x : Int},(∀ a ∈ l,∀ x,f x a = g x a)→l.foldl f x = l.foldl g x
 | [],_,_ => rfl
 | a :: l,x,h => by
  refine rE List.foldl_cons (rE List.foldl_cons ?_); rewrite [h a List.mem_cons_self]
  exact fold_congr fun b hb => h b (List.mem_cons_of_mem _ hb)
theorem MvI.step (I : MvI N near hf st pk mv D) {j : Nat} (hj : ¬ D j) (hn : ∀ a ∈ near j,D a) {D' : Nat→Prop} (hD : ∀ k,D' k↔D k∨k = j) : MvI N near hf st pk (mput mv j (mvAt near hf st pk mv j)) D' := by
 have same : ∀ k,(∀ a ∈ near k,D a)→mvAt near hf st pk (mput mv j (mvAt near hf st pk mv j)) k = mvAt near hf st pk mv k := fun k hk => fold_congr fun a ha x => by
  rewrite [mput]; refine rE (if_neg fun e => hj (by rw [← e]; exact hk a ha)) rfl
 refine ⟨fun k hk hd => ?_,fun k hk hd a ha => (hD a).mpr (.inl ?_)⟩
 ·rcases (hD k).mp hd with hd | rfl
  ·refine rE (same k (I.cl k hk hd)) ?_; rewrite [mput]; refine rE (if_neg fun e => hj (by rw [← e]; exact hd)) ?_
   exact I.eq k hk hd
  ·refine rE (same k hn) ?_; rewrite [mput]; refine rE (if_pos rfl) rfl
 ·rcases (hD k).mp hd with hd | rfl
  ·exact I.cl k hk hd a ha
  ·exact hn a ha
end
theorem max_fold {g : Nat→Int} : ∀ (l : List Nat) (x : Int),x≤l.foldl (fun now a => max now (g a)) x∧(∀ a ∈ l,g a≤l.foldl (fun now a => max now (g a)) x)∧(l.foldl (fun now a => max now (g a)) x = x∨∃ a ∈ l,l.foldl (fun now a => max now (g a)) x = g a)
 | [],x => ⟨Int.le_refl _,fun a h => (by cases h),.inl rfl⟩
 | b :: l,x => by
  refine eAA (max_fold (g := g) l (max x (g b))) fun h1 h2 h3 => ?_
  refine ⟨Int.le_trans (Int.le_max_left ..) h1,fun a ha => ?_,?_⟩
  ·rcases List.mem_cons.mp ha with rfl | ha
   ·exact Int.le_trans (Int.le_max_right ..) h1
   ·exact h2 a ha
  ·rcases h3 with h3 | ⟨a,ha,h3⟩
   ·refine rE List.foldl_cons (rE h3 ?_)
    by_cases q : g b≤x
    ·exact .inl (Int.max_eq_left q)
    ·exact .inr ⟨b,List.mem_cons_self,Int.max_eq_right (Int.le_of_lt (Int.not_le.mp q))⟩
   ·exact .inr ⟨a,List.mem_cons_of_mem _ ha,h3⟩
theorem min_fold {g : Nat→Int} : ∀ (l : List Nat) (x : Int),l.foldl (fun now a => min now (g a)) x≤x∧(∀ a ∈ l,l.foldl (fun now a => min now (g a)) x≤g a)∧(l.foldl (fun now a => min now (g a)) x = x∨∃ a ∈ l,l.foldl (fun now a => min now (g a)) x = g a)
 | [],x => ⟨Int.le_refl _,fun a h => (by cases h),.inl rfl⟩
 | b :: l,x => by
  refine eAA (min_fold (g := g) l (min x (g b))) fun h1 h2 h3 => ?_
  refine ⟨Int.le_trans h1 (Int.min_le_left ..),fun a ha => ?_,?_⟩
  ·rcases List.mem_cons.mp ha with rfl | ha
   ·exact Int.le_trans h1 (Int.min_le_right ..)
   ·exact h2 a ha
  ·rcases h3 with h3 | ⟨a,ha,h3⟩
   ·refine rE List.foldl_cons (rE h3 ?_)
    by_cases q : x≤g b
    ·exact .inl (Int.min_eq_left q)
    ·exact .inr ⟨b,List.mem_cons_self,Int.min_eq_right (Int.le_of_lt (Int.not_le.mp q))⟩
   ·exact .inr ⟨a,List.mem_cons_of_mem _ ha,h3⟩
theorem moved_up {N : Nat} {near : Nat→List Nat} {starts first : Nat→Int} (h : ∀ j,j < N→first j = mvAt near starts 1 max first j) : MovedUp N near starts first := by
 refine ⟨fun j hj => ?_,fun j hj a ha => ?_,fun j hj => ?_⟩ <;> refine rE (h j hj) ?_ <;> refine eAA (max_fold (g := fun a => first a + 1) (near j) (starts j)) fun h1 h2 h3 => ?_
 ·exact h1
 ·exact h2 a ha
 ·exact h3
theorem moved_dn {N : Nat} {near behind : Nat→List Nat} {dues last : Nat→Int} (hb : ∀ a j,a < N→(j ∈ behind a↔j < N∧a ∈ near j)) (hl : ∀ j,j < N→∀ a ∈ near j,a < N) (h : ∀ j,j < N→last j = mvAt behind dues (-1) min last j) : MovedDn N near dues last := by
 refine ⟨fun j hj => ?_,fun j hj a ha => ?_,fun j hj => ?_⟩
 ·refine rE (h j hj) ?_; exact (min_fold (g := fun a => last a + -1) (behind j) (dues j)).1
 ·have haN := hl j hj a ha
  refine rE (h a haN) ?_
  exact (min_fold (g := fun a => last a + -1) (behind a) (dues a)).2.1 j ((hb a j haN).mpr ⟨hj,ha⟩)
 ·have h3 := (min_fold (g := fun a => last a + -1) (behind j) (dues j)).2.2
  refine h3.imp (fun e => (h j hj).trans e) fun ⟨a,ha,e⟩ => ?_
  refine eA ((hb j a hj).mp ha) fun h1 h2 => ?_
  exact ⟨a,h1,h2,(h j hj).trans e⟩
end
end Mine
end
section
open PySem PySem.Calls PySem.W PyProof.Rows
set_option maxRecDepth 100000
namespace Mine
noncomputable section
section
variable {C : Cx} {A : Around} {m : Loc} {H : CH} {s : Shared} {Q : V→Loc→CH→Prop}
theorem next_raw {I : Addr} {E : Value→Shared→Prop} {R : Value→Shared→Prop} (hT : s.TypeIs (.ref I) "list_iterator")
  (h : ∀ A' : Around,A'.handled = A.handled→wpAny (model C.prog C.w) A' (Builtin.«list_iterator.__next__» ⟨[.ref I],[]⟩) (fun fin s' => ∃ v,fin = .done (.ret v)∧R v s') E s) :
  wpAny (model C.prog C.w) A (call (.builtin "next") [.ref I]) R E s := by
 refine call_function_entry (by decide +kernel) (by decide +kernel) kdk_entry_next (kdk_args_next _) ?_
 unfold Builtin.«next»
 refine wpAny_bind (m := PySem.someArgs "next" 1 2 _) (wpAny_of_eq (a := [Value.ref I]) (by first | rfl | kernel_rfl) ?_)
 dsimp only
 refine wpAny_bind (wpAny_specialOf (name := Str.ofString "__next__") hT PySem.slot_listiter_next.lookup ?_)
 refine wpAny_ite_split (fun hab => absurd hab (by decide)) (fun _ => ?_)
 refine wpAny_bind (wpAny_callSpecial?_slot (name := Str.ofString "__next__") hT PySem.slot_listiter_next (wpAny_call_entry PySem.slot_listiter_next hT PySem.entry_listiter_next ?_ (PySem.args_listiter_next _)))
 refine wpAny_mono (h _ rfl) (fun fin s' ⟨v,e,q⟩ => ?_) fun _ _ x => x
 subst e
 exact ⟨v,rfl,wpAny_pure ⟨_,rfl,q⟩⟩
theorem CV_next {I l : Addr} {i : Nat} {xs : List V} {x : V} (hI : H I = some (.liter l i)) (hl : LAt C H l xs) (hx : xs[i]? = some x) (h : Q x m (H.set I (.liter l (i + 1)))) : CV C A (.con (.builtin "next")) [.ref I] [] m H Q := fun s rf rs rkw S hf hva hk => by
 have := hk.nil_inv; subst this
 refine rE hf.con_inv ?_
 refine eEA (one_inv hva) fun a zz1 ha => ?_; subst zz1
 refine rE ha.ref_inv ?_
 have ho := S.toHS.liter hI
 obtain ⟨items,n,hL,hvs,hz⟩ := S.toHS.list hl
 refine eEA (hvs.get hx) fun r hr hvr => ?_
 have hr' : items[i]? = some r := by simpa using hr
 refine next_raw ⟨_,ho,rfl⟩ fun A' _ => ?_
 show wpAny _ _ (field (.ref I) 0 >>= _) _ _ s
 refine wpAny_bind (wpAny_field ho rfl (x := .ref l) rfl ?_)
 show wpAny _ _ (if (Value.ref l == Value.none) = true then _ else _) _ _ s
 refine rE (if_neg (show ¬ ((Value.ref l == Value.none) = true) from Bool.false_ne_true)) ?_
 show wpAny _ _ (field (.ref I) 1 >>= _) _ _ s
 refine wpAny_bind (wpAny_field ho rfl (x := .int i 0) rfl ?_)
 show wpAny _ _ (seqItems? (.ref l) >>= _) _ _ s
 refine wpAny_bind (wpAny_seqItems hL rfl ?_)
 simp only [Int.toNat_natCast,hr']
 refine wpAny_bind (wpAny_setField ho rfl (by exact Nat.one_lt_succ_succ [].length) (wpAny_pure ⟨r,rfl,?_⟩))
 have ho' := Heap.get?_update_self (Obj.mapFields (·.setIfInBounds 1 (rawInt ((i : Int) + 1)))) ho rfl
 exact PV.upd (tk := s.toks) (c' := .liter l (i + 1)) S hI (Heap.SameBut.update ..) ho' (by show _ = _; simp [Obj.mapFields,rawInt]) hvr h
theorem CVX_next {I l : Addr} {i : Nat} {xs : List V} {R : Loc→CH→Prop} (hA : A.handled = none) (hI : H I = some (.liter l i)) (hl : LAt C H l xs) (hx : xs.length≤i) (h : R m (H.del I)) : CVX C A (.con (.builtin "next")) [.ref I] m H Q "StopIteration" R := fun s rf rs S hf hva => by
 refine rE hf.con_inv ?_
 refine eEA (one_inv hva) fun a zz1 ha => ?_; subst zz1
 refine rE ha.ref_inv ?_
 exact next_raw ⟨_,S.toHS.liter hI,rfl⟩ fun A' hA' => next_end (hA'.trans hA) S hI hl hx h
end
end
end Mine
end
section
open PySem PySem.Calls PySem.W PyProof.Rows
set_option maxRecDepth 100000
namespace Mine
noncomputable section
section
variable {prog : Program} {w : World} {A : Around} {E : Value→Shared→Prop} {s : Shared} {env : Env}
theorem entry_unchain : entryFor table "proto.unchain" = some Builtin.«proto.unchain» := entryFor_of_tree (by kernel_rfl)
theorem unchain_end {e h : Addr} {oh : Obj} {vs : Array Value} {Q : Value→Shared→Prop} (hh : s.heap.get? h = some oh) (hd : oh.data = .fields vs) (h2 : vs[2]? = some .none) (hq : Q .none s) :
  wpAny (model prog w) A (runValue (.builtin "proto.unchain" ⟨[.ref e,.ref h,.ref h,.bool false],[]⟩)) Q E s := by
 refine wpAny_runValue (codeAny_builtin entry_unchain ?_)
 unfold Builtin.«proto.unchain»
 dsimp only
 refine wpAny_bind (wpAny_field hh hd h2 ?_)
 refine rE (if_pos (by rfl)) ?_
 exact wpAny_bind (show wpAny _ _ (ret .none) _ _ s from wpAny_pure (wpAny_pure hq))
theorem raise_from {cls : String} (F : ExcRaiseFacts cls) {x c : Sem Value} {h : Addr} {Q : Flow→Shared→Prop} (hA : A.handled = some (.ref h))
  (hx : wpAny (model prog w) A x (fun v s₁ => ∃ e t oh vs,v = .ref e∧s₁.heap.get? e = some { cls := .type cls,data := .fields #[.ref t,.none,.none,.none,.bool false,.none] }∧wpAny (model prog w) A c (fun u s₂ => u = .none∧s₂ = s₁) E s₁∧e≠h∧s₁.heap.get? h = some oh∧oh.data = .fields vs∧vs[2]? = some .none ∧
   ∀ h',Heap.SameBut e s₁.heap h'→h'.get? e = some { cls := .type cls,data := .fields #[.ref t,.none,.ref h,.none,.bool true,.none] }→E (.ref e) { s₁ with heap := h' }) E s) :
  wpAny (model prog w) A (raiseStmt env (some x) (some c)) Q E s := by
 unfold raiseStmt
 refine wpAny_bind (wpAny_mono hx (fun v s₁ h₁ => ?_) fun _ _ x => x)
 obtain ⟨e,t,oh,vs,rfl,he,hc,hne,hoh,hd,h2,hE⟩ := h₁
 refine wpAny_bind (wpAny_holding (wpAny_mono hc (fun u s₂ h₂ => ?_) fun _ _ x => x))
 refine eA h₂ fun zz0 zz1 => ?_; clear h₂; subst zz0; subst zz1
 obtain ⟨hp,g,d,tk,os⟩ := s₂
 have hsub := F.isExc
 have hmeta := F.plainMeta
 repeat (first | refine wpAny_loadPart he ?_ | wp_step)
 have he1 := Heap.get?_update_self (Obj.mapFields (·.setIfInBounds 3 .none)) he rfl
 have he2 := Heap.get?_update_self (Obj.mapFields (·.setIfInBounds 4 (.bool true))) he1 rfl
 have u1 : Heap.SameBut e hp (hp.update e (Obj.mapFields (·.setIfInBounds 3 .none))) := Heap.SameBut.update ..
 have u2 : Heap.SameBut e (hp.update e (Obj.mapFields (·.setIfInBounds 3 .none))) ((hp.update e (Obj.mapFields (·.setIfInBounds 3 .none))).update e (Obj.mapFields (·.setIfInBounds 4 (.bool true)))) := Heap.SameBut.update ..
 have hoh2 := (u2.2 h (Ne.symm hne)).trans ((u1.2 h (Ne.symm hne)).trans hoh)
 have u := u1.trans u2
 clear u1 u2 he1 hsub hmeta hc hx
 generalize ((hp.update e (Obj.mapFields (·.setIfInBounds 3 .none))).update e (Obj.mapFields (·.setIfInBounds 4 (.bool true)))) = h2p at *
 unfold raiseNew
 refine wpAny_bind (wpAny_handled ?_)
 refine rE hA ?_
 have hb : (Value.ref h != Value.ref e) = true := by simp [Ne.symm hne]
 show wpAny _ _ (if (Value.ref h != Value.ref e) = true then _ else _) _ _ _
 refine rE (if_pos hb) ?_
 refine wpAny_bind (wpAny_holding (unchain_end hoh2 hd h2 ?_))
 refine wpAny_bind (show wpAny _ _ (setField (.ref e) 2 (.ref h)) _ _ _ from wpAny_setField he2 rfl (by show 2 < 6; decide) (wpAny_throw (hE _ (u.trans (Heap.SameBut.update ..)) ?_)))
 refine rE (Heap.get?_update_self (Obj.mapFields (·.setIfInBounds 2 (.ref h))) he2 rfl) ?_
 rfl
end
end
end Mine
end
section
open PySem PySem.Calls PySem.W PyProof.Rows
set_option maxRecDepth 100000
namespace Mine
noncomputable section
inductive NewT (C : Cx) (m : Loc) (H : CH) (s : Shared) (msg : Str) (h : Addr) (ev : Value) (s' : Shared) : Prop
 | mk (e t : Addr) (tk : Tok) (h1 : ev = .ref e) (h2 : s'.heap.get? e = some { cls := .type "TypeError",data := .fields #[.ref t,.none,.ref h,.none,.bool true,.none] }) (h3 : s'.heap.get? t = some { cls := .type "tuple",data := .seq #[.str msg tk] }) (h4 : s.heap.get? e = none) (h5 : H e = none) (h6 : C.h₀.get? e = none) (hS : St C m H s') (ha : After C H s H s') : NewT C m H s msg h ev s'
section
variable {C : Cx} {A : Around} {m : Loc} {H : CH} {s : Shared}
theorem raise_new {x msg : Str} {np cpos cp cp2 pos : Pos} {k k2 : Nat} {h : Addr} {oh : Obj} {vs : Array Value} {Q : Flow→Shared→Prop} (hA : A.handled = some (.ref h)) (hh : s.heap.get? h = some oh) (hd : oh.data = .fields vs) (h2 : vs[2]? = some .none) (hl : h≠C.env.locals) (hH : H h = none) (S : St C m H s)
  (hn : EV C A (.Name x np) m H fun v m' H' => v = .con (.type "TypeError")∧m' = m∧H' = H) :
  wpAny (model C.prog C.w) A (exec (.Raise (some (.Call (.Name x np) [.Constant (.str msg) k cp] [] cpos)) (some (.Constant .none k2 cp2)) pos) C.env) Q (NewT C m H s msg h) s := by
 refine rE (arm_exec_Raise ..) ?_
 refine wpAny_bind (wpAny_standAt ?_)
 show wpAny _ _ (raiseStmt C.env (some (do let v ← eval (.Call (.Name x np) [.Constant (.str msg) k cp] [] cpos) C.env; standAt pos; pure v)) (some (do let c ← eval (.Constant .none k2 cp2) C.env; standAt pos; pure c))) _ _ _
 refine raise_from F.excRaise_TypeError hA ?_
 refine wpAny_bind (wpAny_Call_ofName (wpAny_noRaise (wpAny_mono (hn s S) ?_ fun _ _ x => x)))
 rintro f s₁ ⟨v,m₁,H₁,hv,S₁,af₁,rfl,rfl,rfl⟩
 refine rE hv.con_inv ?_
 refine callWith_excType (by rfl) (wpAny_noRaise (evalArgs_of (Q := fun vs m' H' => vs = [.str msg]∧m' = m₁∧H' = H₁) (EL_cons (EV_str (EL_nil ⟨rfl,rfl,rfl⟩))) (by rfl) S₁ ?_))
 rintro rs s₂ ⟨ws,m₂,H₂,vr,S₂,af₂,rfl,rfl,rfl⟩
 refine eEA (one_inv vr) fun a zz1 ha => ?_; subst zz1
 refine eE ha.str_inv fun tk zz1 => ?_; subst zz1
 have af := af₁.then S₁ af₂
 refine eEA (af.stay h oh hl hH hh) fun o' ho' hk => ?_
 rw [hk.exact (by intro es ep q; rw [hd] at q; cases q)] at ho'
 obtain ⟨hp,g,d,tk',os⟩ := s₂
 refine wpAny_call_exc F.excCall_TypeError (fun h' e hm => wpAny_bind (wpAny_standAt (wpAny_pure ?_)))
 refine eEAA hm.there fun t e1 e2 e3 => ?_
 have S₃ : St C m₂ H₂ ⟨h',g,d,tk',os⟩ := S₂.more (tk := tk') hm.keeps
 have af₃ : After C H₂ s H₂ ⟨h',g,d,tk',os⟩ := af.then S₂ (.more (tk := tk') hm.keeps)
 have he : e≠h := fun q => by subst q; exact (no1 hm.new ho').elim
 have hen : s.heap.get? e = none := af.there_none hm.new
 have heH : H₂ e = none := S₂.own_none hm.new
 have heb : C.h₀.get? e = none := S₂.base_none hm.new
 refine ⟨e,t,oh,vs,rfl,e1,wpAny_bind (wpAny_Constant_none (wpAny_bind (wpAny_standAt (wpAny_pure ⟨rfl,rfl⟩)))),he,hm.keeps _ _ ho',hd,h2,fun h'' hs he'' => ?_⟩
 have hte : t≠e := fun q => by subst q; rw [e1] at e3; exact absurd (Value.type.inj (congrArg Obj.cls (Option.some.inj e3))) (by decide)
 refine ⟨e,t,tk,rfl,he'',(hs.2 t hte).trans e3,hen,heH,heb,S₃.hid (tk := tk') e1 heH heb (by intro es ep q; cases q) (not_imm_cls (T := "TypeError") rfl (by decide) (by intro us y z q; cases q; intro q2; cases q2)) hs.extBut,af₃.hid (tk := tk') hen hs.extBut⟩
end
end
end Mine
end
section
open PySem PySem.Calls PySem.W PyProof.Rows
set_option maxRecDepth 100000
namespace Mine
noncomputable section
noncomputable abbrev flv (C : Cx) : Value := C.env.frame.elim Value.none fun f => rawInt f
noncomputable def Msg (e : Addr) (h : Heap) (msg : Str) : Prop := ∃ o vs t tk,h.get? e = some o∧o.data = .fields vs∧vs[0]? = some (.ref t)∧h.get? t = some { cls := .type "tuple",data := .seq #[.str msg tk] }
inductive NE (C : Cx) (H : CH) (s : Shared) (cls : String) (msg : Str) (fl : Value) (R : Loc→CH→Prop) (ev : Value) (s' : Shared) : Prop
 | mk (e : Addr) (oe : Obj) (vs : Array Value) (Tb : Addr) (oT : Obj) (ts : Array Value) (m' : Loc) (H' : CH) (h1 : ev = .ref e) (h2 : s'.heap.get? e = some oe) (h3 : oe.cls = .type cls) (h4 : oe.data = .fields vs) (h5 : vs[1]? = some (.ref Tb)) (hT : s'.heap.get? Tb = some oT) (hTd : oT.data = .fields ts) (hT3 : ts[3]? = some fl) (nT : ¬ Imm oT) (hTn : s.heap.get? Tb = none) (hTH : H' Tb = none) (hTb : C.h₀.get? Tb = none) (hTe : Tb≠e) (h6 : ¬ Imm oe) (h7 : s.heap.get? e = none) (h8 : H' e = none) (h9 : C.h₀.get? e = none) (hm : Msg e s'.heap msg) (hS : St C m' H' s') (ha : After C H s H' s') (q : R m' H') : NE C H s cls msg fl R ev s'
section
variable {C : Cx} {A : Around} {m : Loc} {H : CH} {s : Shared} {cls : String} {R : Loc→CH→Prop}
theorem try_raise {body orelse : List Stmt} {t : PySem.Expr} {p p' : Pos} {outer : List Env} {T : String} {x msg : Str} {np cpos cp cp2 pos : Pos} {k k2 : Nat} (hA : A.frames = some C.fr) (hfr : C.fr = C.env :: outer)
  (hexc : isSubtype (.type T) (.type "BaseException") = pure true) (hnt : isSubtype (.type ((Manifest.find? T).elim "type" fun x => x.metatype)) (.type "tuple") = pure false) (hsub : isSubtype (.type cls) (.type T) = pure true)
  (h : EXX C A body m H (fun _ _ _ => False) cls R)
  (ht : ∀ m' H' h',R m' H'→EV C (A.mark h') t m' H' fun v m₁ H₁ => v = .con (.type T)∧m₁ = m'∧H₁ = H')
  (hx : ∀ m' H' h',R m' H'→EV C (A.mark h') (.Name x np) m' H' fun v m₁ H₁ => v = .con (.type "TypeError")∧m₁ = m'∧H₁ = H') (S : St C m H s) :
  wpAny (model C.prog C.w) A (exec (.Try body [.ExceptHandler (some t) none [.Raise (some (.Call (.Name x np) [.Constant (.str msg) k cp] [] cpos)) (some (.Constant .none k2 cp2)) pos] p'] orelse [] p) C.env) (fun _ _ => False) (NE C H s "TypeError" msg (flv C) R) s := by
 refine wpAny_Try_except (wpAny_mono (h s S) ?_ ?_)
 ·rintro f s₁ ⟨fl,m₁,H₁,hf,S₁,af₁,h₁⟩
  exact h₁.elim
 ·rintro ev s₁ ⟨e,oe,vs,x0,m₁,H₁,rfl,he,hc,hd,h1,h1c,tr,ni,hn,hH,hb,S₁,af₁,hR⟩
  refine note_first hA hfr S₁ he hd h1 tr fun s₂ x => ?_
  have S₂ := x.st S₁ he ni hH hb (by intro es ep q; rw [hd] at q; cases q)
  have af₂ := x.after S₁ he af₁ hn
  obtain ⟨oe',vs',Tb,oT,ts,g1,g2,g3,g4,g5,g6,g7,g8,g9,nT⟩ := x.trace
  have g4c : vs'[2]? = some .none := by
   refine eEEAA (x.only oe vs he hd) fun o' w e1 e2 e3 => ?_
   rw [g1] at e1; cases e1
   rw [g3] at e2; cases e2
   refine rE (e3 2 (by decide)) ?_; exact h1c
  have hTH : H₁ Tb = none := by
   exact S₁.own_none g5
  have hTb : C.h₀.get? Tb = none := by
   exact S₁.base_none g5
  have hTn : s.heap.get? Tb = none := by
   exact af₁.there_none g5
  have hTl : Tb≠C.env.locals := fun q => by refine eE S₁.at_loc fun o e' => ?_; rw [← q,g5] at e'; cases e'
  have hel : e≠C.env.locals := fun q => by
   refine eEA S₁.ns fun mr zz1 _ => ?_; obtain ⟨o,es,ep,ho,hd',_⟩ := zz1
   rw [← q,he] at ho; cases ho; rw [hd] at hd'; cases hd'
  rw [hc] at g2
  refine wpAny_handleBy_builtin (X := cls) (T := T) (b := true) hexc hnt hsub (wpAny_noRaise (wpAny_mono (ht m₁ H₁ _ hR s₂ S₂) ?_ fun _ _ x => x))
  rintro c s₃ ⟨v,m₃,H₃,hv,S₃,af₃,rfl,rfl,rfl⟩
  refine eEA (af₃.stay e oe' hel hH g1) fun oe3 e3 k3 => ?_
  rw [k3.exact (by intro es ep q; rw [g3] at q; cases q)] at e3
  refine eEA (af₃.stay Tb oT hTl hTH g7) fun oT3 eT3 kT3 => ?_
  rw [kT3.exact (by intro es ep q; rw [g8] at q; cases q)] at eT3
  refine ⟨hv.con_inv,⟨oe',e3,g2⟩,?_⟩
  simp only [if_true]
  refine wpAny_setFlight_none e3 g3 g4 eT3 g8 (Array.getElem?_eq_some_iff.mp g9).1 ?_
  have hu : Heap.SameBut Tb s₃.heap (s₃.heap.update Tb (Obj.mapFields (·.setIfInBounds 3 .none))) := Heap.SameBut.update ..
  have S₄ : St C m₃ H₃ { s₃ with heap := s₃.heap.update Tb (Obj.mapFields (·.setIfInBounds 3 .none)) } :=
   S₃.hid (tk := s₃.toks) eT3 (af₃.grow Tb _ hTH g7) hTb (by intro es ep q; rw [g8] at q; cases q) nT hu.extBut
  have af₄ : After C H s H₃ { s₃ with heap := s₃.heap.update Tb (Obj.mapFields (·.setIfInBounds 3 .none)) } := (af₂.then S₂ af₃).hid (tk := s₃.toks) hTn hu.extBut
  have e4 : ({ s₃ with heap := s₃.heap.update Tb (Obj.mapFields (·.setIfInBounds 3 .none)) } : Shared).heap.get? e = some oe' := (hu.2 e (Ne.symm g6)).trans e3
  clear eT3 e3 hu S₃ af₃ af₂ S₂ x kT3 k3
  generalize ({ s₃ with heap := s₃.heap.update Tb (Obj.mapFields (·.setIfInBounds 3 .none)) } : Shared) = s₄ at *
  refine wpAny_execs_cons (wpAny_mono (raise_new (Q := fun _ _ => False) rfl e4 g3 g4c hel hH S₄ (hx m₃ H₃ _ hR)) (fun _ _ q => q.elim) ?_)
  rintro ev s₅ ⟨e2,t,tk,rfl,k2,k3,k4,k5,k6,S₅,af₅⟩
  have n2 : ∀ es ep,({ cls := .type "TypeError",data := .fields #[.ref t,.none,.ref e,.none,.bool true,.none] } : Obj).data≠.dict es ep := by intro es ep q; cases q
  have ni2 : ¬ Imm { cls := .type "TypeError",data := .fields #[.ref t,.none,.ref e,.none,.bool true,.none] } := not_imm_cls (T := "TypeError") rfl (by decide) (by intro us y z q; cases q; intro q2; cases q2)
  have k7 := af₄.there_none k4
  refine wpAny_mono (note_gen (A₂ := A) (E₂ := NE C H s "TypeError" msg (flv C) R) (Q := fun _ s' => NE C H s "TypeError" msg (flv C) R (.ref e2) s') C.env.frame hA hfr S₅ k2 rfl (x := .none) rfl (hh := s₄.heap) (H' := H₃) (.none rfl) fun s₆ y => ?_) ?_ fun _ _ x => x
  ·have S₆ := y.st S₅ k2 ni2 k5 k6 n2
   have af₆ := y.after S₅ k2 (af₄.then S₄ af₅) k7
   obtain ⟨oe6,vs6,Tb6,oT6,ts6,q1,q2,q3,q4,q5,q6,q7,q8,q9,nT6⟩ := y.trace
   refine eEEAA (y.only _ _ k2 rfl) fun o' w w1 w2 w3 => ?_
   rw [q1] at w1; cases w1
   rw [q3] at w2; cases w2
   have hte : t≠e2 := fun q => by subst q; rw [k2] at k3; exact absurd (Value.type.inj (congrArg Obj.cls (Option.some.inj k3))) (by decide)
   have kt := y.rest t _ hte (fun q => by
    obtain ⟨o',es,ep,ho,hd',_⟩ := frames_mem S₅.frs q
    rw [k3] at ho; cases ho; cases hd') k3
   refine ⟨e2,oe6,vs6,Tb6,oT6,ts6,m₃,H₃,rfl,q1,q2,q3,q4,q7,q8,q9,nT6,(af₄.then S₄ af₅).there_none q5,S₅.own_none q5,S₅.base_none q5,q6,?_,k7,k5,k6,⟨oe6,vs6,t,tk,q1,q3,by refine rE (w3 0 (by decide)) ?_; rfl,kt⟩,S₆,af₆,hR⟩
   exact not_imm_cls (T := "TypeError") q2 (by decide) (by intro us y z q; rw [q3] at q; cases q; intro q2; rw [q4] at q2; cases q2)
  ·rintro _ s₆ ⟨q,o,us,T6,ho,hd6,h16⟩
   show wpAny _ A _ _ _ _
   refine wpAny_bind (wpAny_field ho hd6 h16 ?_)
   refine rE (if_neg (show ¬ ((Value.ref T6 == Value.none) = true) from Bool.false_ne_true)) ?_
   first
    | exact q
    | exact wpAny_bind (wpAny_pure q)
end
end
end Mine
end
section
open PySem PySem.Calls PySem.W PyProof.Rows
set_option maxRecDepth 100000
namespace Mine
noncomputable section
inductive PM (C : Cx) (H : CH) (s : Shared) (cls : String) (msg : Str) (R : CH→Prop) (ev : Value) (s' : Shared) : Prop
 | mk (e : Addr) (oe : Obj) (vs : Array Value) (Tb : Addr) (oT : Obj) (ts : Array Value) (H' : CH) (h1 : ev = .ref e) (h2 : s'.heap.get? e = some oe) (h3 : oe.cls = .type cls) (h4 : oe.data = .fields vs) (h5 : vs[1]? = some (.ref Tb)) (hT : s'.heap.get? Tb = some oT) (hTd : oT.data = .fields ts) (hT3 : ts[3]? = some .none) (nT : ¬ Imm oT) (hTn : s.heap.get? Tb = none) (hTH : H' Tb = none) (hTb : C.h₀.get? Tb = none) (hTe : Tb≠e) (h6 : ¬ Imm oe) (h7 : s.heap.get? e = none) (h8 : H' e = none) (h9 : C.h₀.get? e = none) (hm : Msg e s'.heap msg) (hS : HS C H' s') (ha : AfterC H s H' s') (q : R H') : PM C H s cls msg R ev s'
noncomputable def RM (C : Cx) (H : CH) (s : Shared) (cls : String) (msg : Str) (R : CH→Prop) (r : Result) (s' : Shared) : Prop := match r with
 | .error ev => PM C H s cls msg R ev s'
 | .ok _ => False
section
variable {C : Cx} {A : Around} {m : Loc} {H : CH} {s : Shared} {cls : String} {msg : Str} {fl : Value} {R : Loc→CH→Prop} {K : Frag} {mg mb : Str→Option Value}
theorem NE.mono {m₁ : Loc} {H₁ : CH} {s₁ s₂ : Shared} {ev : Value} (S₁ : St C m₁ H₁ s₁) (a : After C H s H₁ s₁) (x : NE C H₁ s₁ cls msg fl R ev s₂) : NE C H s cls msg fl R ev s₂ := by
 obtain ⟨e,oe,vs,Tb,oT,ts,m',H',h1,h2,h3,h4,h5,hT,hTd,hT3,nT,hTn,hTH,hTb,hTe,h6,h7,h8,h9,hm,hS,ha,q⟩ := x
 exact ⟨e,oe,vs,Tb,oT,ts,m',H',h1,h2,h3,h4,h5,hT,hTd,hT3,nT,a.there_none hTn,hTH,hTb,hTe,h6,a.there_none h7,h8,h9,hm,hS,a.then S₁ ha,q⟩
theorem imm_flight {o : Obj} {ts : Array Value} (hd : o.data = .fields ts) (ni : ¬ Imm o) : ¬ Imm (Obj.mapFields (·.setIfInBounds 3 .none) o) := fun ⟨_,b,_⟩ => ni ⟨Obj.isFreed_of_fields hd,(by
 rcases b with ⟨T,hT,hc⟩ | ⟨vs,x,t,e,q⟩
 ·exact .inl ⟨T,hT,(Obj.cls_mapFields _ _).symm.trans hc⟩
 ·rw [Obj.data_mapFields hd] at e
  cases e
  rw [Array.getElem?_setIfInBounds_ne (by decide)] at q
  exact .inr ⟨ts,x,t,hd,q⟩),(by intro _ _ e; rw [hd] at e; cases e),(by intro _ e; rw [hd] at e; cases e),(by intro _ _ _ e; rw [hd] at e; cases e)⟩
noncomputable def CALLN (C : Cx) (A : Around) (f : V) (vs : List V) (H : CH) (cls : String) (msg : Str) (R : CH→Prop) : Prop := ∀ s rf rs,HS C H s→Frs C H s→VR s.heap f rf→VRs s.heap vs rs→codeAny (model C.prog C.w) A (.call rf ⟨rs,[]⟩) (RM C H s cls msg R) s
theorem CALLN_KW {f : Addr} {name qual : Str} {params : Arguments} {body : List Stmt} {scope : Scope} {cl : List (Str × Addr)} {dV kV doc pm cdv ct oc : Value} {an od : Option Addr} {osl : Array (Option Value)} {vs : List V} {binds : List (Str × V)} {m' : Loc} {R : CH→Prop}
  (B : Bs C.h₀ K mg mb) (ho : K.lookup f = some ⟨oc,od,.func (fnX name qual params body scope cl dV kV doc pm an cdv ct),osl⟩) (hcd : codeIn K cdv qual = true) {n : Nat} (hA : AOK C A (n + 1))
  (hb : BindsW C H (fnX name qual params body scope cl dV kV doc pm an cdv ct) vs [] binds) (hok : (scope.names.all (fun x => x.2 != .cell) && binds.all (fun x => scope.names.lookup x.1 == some .local) && !scope.isCoroutine && !scope.isGenerator && scope.kind == .function) = true) (hm : m' = binds.reverse)
  (h : ∀ L,H L = none→C.h₀.get? L = none→AOK (C.at (callEnv (fnX name qual params body scope cl dV kV doc pm an cdv ct) L f)) (A.deeper (callEnv (fnX name qual params body scope cl dV kV doc pm an cdv ct) L f)) n→∀ s,St (C.at (callEnv (fnX name qual params body scope cl dV kV doc pm an cdv ct) L f)) m' H s→wpAny (model C.prog C.w) (A.deeper (callEnv (fnX name qual params body scope cl dV kV doc pm an cdv ct) L f)) (execs body (callEnv (fnX name qual params body scope cl dV kV doc pm an cdv ct) L f)) (fun _ _ => False) (NE (C.at (callEnv (fnX name qual params body scope cl dV kV doc pm an cdv ct) L f)) H s cls msg (flv (C.at (callEnv (fnX name qual params body scope cl dV kV doc pm an cdv ct) L f))) fun _ => R) s) :
  CALLN C A (.con (.ref f)) vs H cls msg R := fun s rf rs S F hf hv => by
 simp only [Bool.and_eq_true,List.all_eq_true,Bool.not_eq_true',beq_iff_eq,bne_iff_ne] at hok
 refine eA hok fun zz0 hk => ?_; obtain ⟨⟨⟨hcell,hloc⟩,hco⟩,hgen⟩ := zz0
 refine rE hf.con_inv ?_
 refine codeAny_call_function hA.room (S.base _ _ (B.X _ _ ho)) rfl hco hgen rfl ((codeRec_of B.X hcd).keeps S.base) (hb _ _ _ s rs [] _ S hv .nil fun rb h₁ tk₁ hk₁ hrb => ?_)
 have hloc' : ∀ x ∈ rb,scope.names.lookup x.1 = some .local := fun x hx => by
  have : x.1 ∈ binds.map (·.1) := hrb.1 ▸ List.mem_map_of_mem hx
  refine eEA (List.mem_map.mp this) fun y hy e => ?_
  refine rF e ?_; exact hloc y hy
 have S₁ := S.more (tk := tk₁) hk₁
 refine wpAny_newFunctionEnv hcell hloc' (fun h₂ hns hsb => ⟨(B.lim.keeps S₁.base).fresh _ hsb,?_⟩) hk
 have hk₂ : ∀ b o,h₁.get? b = some o→h₂.get? b = some o := fun b o e => hsb.extBut b o (Nat.ne_of_lt (Heap.lt_size e)) (Heap.get?_push_of_some _ e)
 have hk₃ : ∀ b o,s.heap.get? b = some o→h₂.get? b = some o := fun b o e => hk₂ b o (hk₁ b o e)
 dsimp only at hns hsb ⊢
 generalize hL : h₁.objs.size = L at *
 have hL0 : s.heap.get? L = none := by
  cases e : s.heap.get? L with
  | none => rfl
  | some o => have := Heap.lt_size (hk₁ _ _ e); rw [hL] at this; exact absurd this (Nat.lt_irrefl _)
 have hLb : C.h₀.get? L = none := by
  exact S.base_none hL0
 have hLH : H L = none := by
  exact S.own_none hL0
 have S₂ : St (C.at (callEnv (fnX name qual params body scope cl dV kV doc pm an cdv ct) L f)) m' H { s with heap := h₂,toks := tk₁ + rb.length } := by
  refine ⟨(S.more hk₃).at,⟨_,hns,fun x v e => ?_⟩,hLH,hLb,fun e he => ?_⟩
  ·subst hm
   exact lookup_kws (hrb.rev.keep (.of_keep hk₂)) e
  ·rcases List.mem_cons.mp he with rfl | he
   ·obtain ⟨o',es,ep,ho',hd',_⟩ := hns
    exact ⟨hk,hgen,hco,_,o',es,ep,rfl,ho',hd',hLH,hLb⟩
   ·exact F.keep (s' := { s with heap := h₂ }) (fun b o _ _ _ hn e _ => ⟨hn,o,hk₃ b o e,rfl⟩) e he
 refine codeAny_func (wpAny_mono (h L hLH hLb hA.at _ S₂) (fun _ _ q => q.elim) ?_)
 rintro ev s₂ ⟨e,oe,vs,Tb,oT,ts,m₁,H',rfl,h2,h3,h4,h5,hT,hTd,hT3,nT,hTn,hTH,hTb,hTe,h6,h7,h8,h9,⟨o,us,t,tk,k1,k2,k3,k4⟩,hS,ha,hR⟩
 have a : AfterC H s H' s₂ := (AfterC.more (tk := tk₁ + rb.length) hk₃).thenAt (C := C.at (callEnv (fnX name qual params body scope cl dV kV doc pm an cdv ct) L f)) ha hL0
 unfold leaving
 refine wpAny_bind (wpAny_noteFrame_inFlight (L := L) rfl h2 h4 h5 hT hTd hT3 ?_)
 have hz3 := (Array.getElem?_eq_some_iff.mp hT3).1
 refine wpAny_setFlight_none h2 h4 h5 hT hTd hz3 ?_
 have back : ∀ {b : Addr},({ s with heap := h₂,toks := tk₁ + rb.length } : Shared).heap.get? b = none→s.heap.get? b = none := fun {b} hq => by
  cases q : s.heap.get? b with
  | none => rfl
  | some o => exact (no1 hq (hk₃ b o q)).elim
 have hu : Heap.SameBut Tb s₂.heap (s₂.heap.update Tb (Obj.mapFields (·.setIfInBounds 3 .none))) := Heap.SameBut.update ..
 have hTd' := Obj.data_mapFields hTd (·.setIfInBounds 3 Value.none)
 have hT' := Heap.get?_update_self (Obj.mapFields (·.setIfInBounds 3 Value.none)) hT (Obj.isFreed_of_fields hTd')
 have hto : t≠Tb := fun q => by subst q; rw [hT] at k4; cases k4; cases hTd
 have S₃ := hS.hid (tk := s₂.toks) hT hTH hTb (by intro es ep q; rw [hTd] at q; cases q) nT hu.extBut
 refine ⟨e,oe,vs,Tb,_,_,H',rfl,(hu.2 e (Ne.symm hTe)).trans h2,h3,h4,h5,hT',hTd',by exact Array.getElem?_setIfInBounds_self_of_lt hz3,imm_flight hTd nT,back hTn,hTH,hTb,hTe,h6,back h7,h8,h9,⟨oe,vs,t,tk,(hu.2 e (Ne.symm hTe)).trans h2,h4,?_,(hu.2 t hto).trans k4⟩,S₃.toHS.back,?_,hR⟩
 ·rw [h2] at k1; cases k1
  rw [h4] at k2; cases k2
  exact k3
 ·exact a.hid (back hTn) hu.extBut
end
end
end Mine
end
section
open PySem PySem.Calls PySem.W PyProof.Rows
set_option maxRecDepth 100000
namespace Mine
noncomputable section
section
variable {C : Cx} {A : Around} {m : Loc} {H : CH} {s : Shared} {cls : String} {msg : Str} {fl : Value} {K : Frag} {mg mb : Str→Option Value}
theorem EVN_call {func : PySem.Expr} {args : List PySem.Expr} {p : Pos} {R : CH→Prop} {Q : Value→Shared→Prop} (S : St C m H s) (h : EV C A func m H fun f m₁ H₁ => EL C A args m₁ H₁ fun vs m₂ H₂ => KP C f H₂∧CALLN C A f vs H₂ cls msg R)
  (hst : autoParam (NoLone C args) Mine.syn2)
  (he : autoParam (eval (.Call func args [] p) C.env = (do callWith p (← eval func C.env) [] (backTo p (starEach args C.env)) (backToKw p (keywordEach [] C.env)))) Mine.syn1) : wpAny (model C.prog C.w) A (eval (.Call func args [] p) C.env) Q (NE C H s cls msg .none fun _ => R) s := by
 refine rE he ?_
 refine wpAny_bind (wpAny_noRaise (wpAny_mono (h s S) ?_ fun _ _ x => x))
 rintro rf s₁ ⟨f,m₁,H₁,vf,S₁,af₁,h₁⟩
 refine callWith_any (wpAny_noRaise (evalArgs_of h₁ (hst p) S₁ ?_))
 rintro rs s₂ ⟨vs,m₂,H₂,vr,S₂,af₂,hk,h₂⟩
 have vf₂ := vf.keep (af₂.tup S₁)
 obtain ⟨k,L⟩ := hk s₂ rf S₂.toHS vf₂
 have af := af₁.then S₁ af₂
 refine ⟨k,L,wpAny_call (codeAny_mono (h₂ s₂ rf rs S₂.toHS S₂.frs vf₂ vr) ?_)⟩
 rintro r s' x
 cases r with
 | ok f => exact x.elim
 | error ev =>
  obtain ⟨e,oe,vs,Tb,oT,ts,H',h1,h2,h3,h4,h5,hT,hTd,hT3,nT,hTn,hTH,hTb,hTe,h6,h7,h8,h9,hm,hS,ha,q⟩ := x
  exact NE.mono S₂ af ⟨e,oe,vs,Tb,oT,ts,m₂,H',h1,h2,h3,h4,h5,hT,hTd,hT3,nT,hTn,hTH,hTb,hTe,h6,h7,h8,h9,hm,S₂.called hS ha,ha.after,q⟩
end
section
variable {C : Cx} {A : Around} {m : Loc} {H : CH} {s : Shared} {msg : Str}
theorem eval_str_exc {sx n : Str} {np np2 p : Pos} {e t : Addr} {oe : Obj} {vs : Array Value} {tk : Tok} {E : Value→Shared→Prop} (S : St C m H s) (hu : A.units + 2 < cLine) (hm : m.lookup n = some (.con (.ref e))) (he : s.heap.get? e = some oe) (hc : oe.cls = .type "TypeError") (hd : oe.data = .fields vs) (h0 : vs[0]? = some (.ref t)) (hH : H e = none) (ht : s.heap.get? t = some { cls := .type "tuple",data := .seq #[.str msg tk] })
  (hn : EV C A (.Name n np2) m H fun v m' H' => v = .con (.ref e)∧m' = m∧H' = H)
  (hstr : EV C A (.Name sx np) m H fun v m' H' => v = .con (.type "str")∧m' = m∧H' = H)
  (hst : autoParam (NoLone C [.Name n np2]) Mine.syn2)
  (hev : autoParam (eval (.Call (.Name sx np) [.Name n np2] [] p) C.env = (do callWith p (← eval (.Name sx np) C.env) [] (backTo p (starEach [.Name n np2] C.env)) (backToKw p (keywordEach [] C.env)))) Mine.syn1) :
  wpAny (model C.prog C.w) A (eval (.Call (.Name sx np) [.Name n np2] [] p) C.env) (fun r s' => r = .str msg tk∧St C m H s'∧After C H s H s') E s := by
 refine rE hev ?_
 refine wpAny_bind (wpAny_noRaise (wpAny_mono (hstr s S) ?_ fun _ _ x => x))
 rintro rf s₁ ⟨f,m₁,H₁,vf,S₁,af₁,rfl,rfl,rfl⟩
 have hel : e≠C.env.locals := fun q => by
  refine eEA S.ns fun mr zz1 _ => ?_; obtain ⟨o,es,ep,ho,hd',_⟩ := zz1
  rw [← q,he] at ho; cases ho; rw [hd] at hd'; cases hd'
 refine callWith_any (wpAny_noRaise (evalArgs_of (Q := fun vs m' H' => vs = [.con (.ref e)]∧m' = m₁∧H' = H₁) (EL_cons (hn.mono (by rintro v m' H' ⟨rfl,rfl,rfl⟩; exact EL_nil ⟨rfl,rfl,rfl⟩))) (hst p) S₁ ?_))
 rintro rs s₂ ⟨ws,m₂,H₂,vr,S₂,af₂,rfl,rfl,rfl⟩
 refine eEA (one_inv vr) fun a zz1 ha => ?_; subst zz1
 have ha := ha.con_inv
 subst ha
 have vf := vf.con_inv
 subst vf
 have af := af₁.then S₁ af₂
 refine eEA (af.stay e oe hel hH he) fun o' ho' hk => ?_
 rw [hk.exact (by intro es ep q; rw [hd] at q; cases q)] at ho'
 have ht' := af.tup S t _ (Imm.tup (items := #[.str msg tk]) (n := 0)) ht
 obtain ⟨k,L⟩ := KP_type (C := C) (H := H₂) (n := "str") s₂ (.type "str") S₂.toHS .con
 refine ⟨k,L,P.str_of_exc_one F.excStr_TypeError hu (e := e) (t0 := t) ⟨oe,vs,ho',hc,hd,h0⟩ ⟨_,_,ht',rfl,rfl⟩ ⟨rfl,S₂,af⟩⟩
end
end
end Mine
end
section
open PySem PySem.Calls PySem.W PyProof.Rows
set_option maxRecDepth 100000
namespace Mine
noncomputable section
section
variable {C : Cx} {A : Around} {m : Loc} {H : CH} {s : Shared} {msg : Str} {R : CH→Prop}
theorem St.bare (S : St C m H s) {mr : Str→Option Value} {h' : Heap} {tk : Nat}
  (hn : h'.Ns C.env.locals mr) (hs : Heap.SameBut C.env.locals s.heap h') : St C [] H { s with heap := h',toks := tk } := by
 have tk' : TupKeep s.heap h' := fun b o i e => (hs.2 b (S.not_imm i e).2).trans e
 refine ⟨⟨fun b o e => (hs.2 b (fun q => by subst q; exact (no1 (S.locb) e).elim)).trans (S.base b o e),fun b d e => ?_,S.gens⟩,⟨_,hn,fun y w e => by cases e⟩,S.loc,S.locb,fun e he => ?_⟩
 ·obtain ⟨z,o,hob,rb⟩ := S.own b d e
  exact ⟨z,o,(hs.2 b (fun q => by subst q; exact (no1 (S.loc) e).elim)).trans hob,rb.keep tk'⟩
 ·obtain ⟨a1,a2,a3,f,o,es,ep,hf,ho,hd,hn',hb⟩ := S.frs e he
  by_cases hfl : f = C.env.locals
  ·subst hfl
   obtain ⟨o',es',ep',ho',hd',_⟩ := hn
   exact ⟨a1,a2,a3,_,o',es',ep',hf,ho',hd',hn',hb⟩
  ·exact ⟨a1,a2,a3,f,o,es,ep,hf,(hs.2 f hfl).trans ho,hd,hn',hb⟩
theorem try_as {body orelse : List Stmt} {t : PySem.Expr} {p p' rp cp np np2 : Pos} {outer : List Env} {T : String} {n sx : Str} (hA : A.frames = some C.fr) (hfr : C.fr = C.env :: outer) (hu : A.units + 2 < cLine)
  (hexc : isSubtype (.type T) (.type "BaseException") = pure true) (hnt : isSubtype (.type ((Manifest.find? T).elim "type" fun x => x.metatype)) (.type "tuple") = pure false) (hsub : isSubtype (.type "TypeError") (.type T) = pure true)
  (h : ∀ s,St C m H s→wpAny (model C.prog C.w) A (execs body C.env) (fun _ _ => False) (NE C H s "TypeError" msg .none fun _ => R) s)
  (ht : ∀ m' H' h',EV C (A.mark h') t m' H' fun v m₁ H₁ => v = .con (.type T)∧m₁ = m'∧H₁ = H')
  (hs : ∀ m' H' h',EV C (A.mark h') (.Name sx np) m' H' fun v m₁ H₁ => v = .con (.type "str")∧m₁ = m'∧H₁ = H')
  (hn : ∀ m' H' h' v,EV C (A.mark h') (.Name n np2) ((n,v) :: m') H' fun v' m₁ H₁ => v' = v∧m₁ = (n,v) :: m'∧H₁ = H')
  (hl : autoParam (C.env.kindOf n = some .local) Mine.syn1) (hp : autoParam ((C.env.scope.kind == .class || (C.env.scope.kind == .module && C.env.locals != C.env.globals)) = false) Mine.syn1)
  (hst : autoParam (NoLone C [.Name n np2]) Mine.syn2)
  (hev : autoParam (eval (.Call (.Name sx np) [.Name n np2] [] cp) C.env = (do callWith cp (← eval (.Name sx np) C.env) [] (backTo cp (starEach [.Name n np2] C.env)) (backToKw cp (keywordEach [] C.env)))) Mine.syn1) :
  ES C A (.Try body [.ExceptHandler (some t) (some n) [.Return (some (.Call (.Name sx np) [.Name n np2] [] cp)) rp] p'] orelse [] p) m H fun fl m' H' => fl = .ret (.str msg)∧R H' := fun s S => by
 refine wpAny_Try_except (wpAny_mono (h s S) (fun _ _ q => q.elim) ?_)
 rintro ev s₁ ⟨e,oe,vs,Tb0,oT0,ts0,m₁,H₁,rfl,he,hc,hd,h1,hT0,hTd0,hT30,nT0,hTn0,hTH0,hTb0,hTe0,ni,hen,hH,hb,⟨o1,us,tt,tk,k1,k2,k3,k4⟩,S₁,af₁,hR⟩
 rw [he] at k1; cases k1
 rw [hd] at k2; cases k2
 refine note_first (hh := s.heap) (H' := H₁) hA hfr S₁ he hd h1 (.tb Tb0 oT0 ts0 rfl hT0 hTd0 hT30 nT0 hTn0 hTH0 hTb0 hTe0) fun s₂ x => ?_
 have S₂ := x.st S₁ he ni hH hb (by intro es ep q; rw [hd] at q; cases q)
 have af₂ := x.after S₁ he af₁ hen
 obtain ⟨oe',vs',Tb,oT,ts,g1,g2,g3,g4,g5,g6,g7,g8,g9,nT⟩ := x.trace
 have g30 : vs'[0]? = some (.ref tt) := by
  refine eEEAA (x.only oe vs he hd) fun o' w e1 e2 e3 => ?_
  rw [g1] at e1; cases e1
  rw [g3] at e2; cases e2
  refine rE (e3 0 (by decide)) ?_; exact k3
 have kt₂ := x.tup S₁ he ni tt _ (Imm.tup (items := #[.str msg tk]) (n := 0)) k4
 have hTH : H₁ Tb = none := by
  exact S₁.own_none g5
 have hTb : C.h₀.get? Tb = none := by
  exact S₁.base_none g5
 have hTn : s.heap.get? Tb = none := by
  exact af₁.there_none g5
 have hTl : Tb≠C.env.locals := fun q => by refine eE S₁.at_loc fun o e' => ?_; rw [← q,g5] at e'; cases e'
 have hel : e≠C.env.locals := fun q => by
  refine eEA S₁.ns fun mr zz1 _ => ?_; obtain ⟨o,es,ep,ho,hd',_⟩ := zz1
  rw [← q,he] at ho; cases ho; rw [hd] at hd'; cases hd'
 rw [hc] at g2
 refine wpAny_handleBy_builtin_as (X := "TypeError") (T := T) (b := true) hexc hnt hsub (wpAny_noRaise (wpAny_mono (ht m₁ H₁ _ s₂ S₂) ?_ fun _ _ x => x))
 rintro c s₃ ⟨v,m₃,H₃,hv,S₃,af₃,rfl,rfl,rfl⟩
 refine eEA (af₃.stay e oe' hel hH g1) fun oe3 e3 k3' => ?_
 rw [k3'.exact (by intro es ep q; rw [g3] at q; cases q)] at e3
 refine eEA (af₃.stay Tb oT hTl hTH g7) fun oT3 eT3 kT3 => ?_
 rw [kT3.exact (by intro es ep q; rw [g8] at q; cases q)] at eT3
 have kt₃ := af₃.tup S₂ tt _ (Imm.tup (items := #[.str msg tk]) (n := 0)) kt₂
 refine ⟨hv.con_inv,⟨oe',e3,g2⟩,?_⟩
 simp only [if_true]
 refine wpAny_setFlight_none e3 g3 g4 eT3 g8 (Array.getElem?_eq_some_iff.mp g9).1 ?_
 have hu1 : Heap.SameBut Tb s₃.heap (s₃.heap.update Tb (Obj.mapFields (·.setIfInBounds 3 .none))) := Heap.SameBut.update ..
 have S₄ : St C m₃ H₃ { s₃ with heap := s₃.heap.update Tb (Obj.mapFields (·.setIfInBounds 3 .none)) } :=
  S₃.hid (tk := s₃.toks) eT3 (af₃.grow Tb _ hTH g7) hTb (by intro es ep q; rw [g8] at q; cases q) nT hu1.extBut
 have af₄ : After C H s H₃ { s₃ with heap := s₃.heap.update Tb (Obj.mapFields (·.setIfInBounds 3 .none)) } := (af₂.then S₂ af₃).hid (tk := s₃.toks) hTn hu1.extBut
 have e4 : ({ s₃ with heap := s₃.heap.update Tb (Obj.mapFields (·.setIfInBounds 3 .none)) } : Shared).heap.get? e = some oe' := (hu1.2 e (Ne.symm g6)).trans e3
 have kt₄ : ({ s₃ with heap := s₃.heap.update Tb (Obj.mapFields (·.setIfInBounds 3 .none)) } : Shared).heap.get? tt = some { cls := .type "tuple",data := .seq #[.str msg tk] } := (hu1.2 tt fun q => by subst q; rw [kt₃] at eT3; cases eT3; cases g8).trans kt₃
 clear eT3 e3 hu1 S₃ af₃ af₂ S₂ x kT3 k3'
 generalize ({ s₃ with heap := s₃.heap.update Tb (Obj.mapFields (·.setIfInBounds 3 .none)) } : Shared) = s₄ at *
 refine eEA S₄.ns fun mr hns hk => ?_
 refine wpAny_storeName_local hl hns (fun h' hn' hsb => ?_) hp
 have S₅ : St C ((n,.con (.ref e)) :: m₃) H₃ { s₄ with heap := h',toks := s₄.toks + 1 } := S₄.store .con hk hn' hsb
 have af₅ : After C H s H₃ { s₄ with heap := h',toks := s₄.toks + 1 } := af₄.then S₄ (.store hn' hsb)
 have e5 : ({ s₄ with heap := h',toks := s₄.toks + 1 } : Shared).heap.get? e = some oe' := (hsb.2 e hel).trans e4
 have htl : tt≠C.env.locals := fun q => by
  obtain ⟨o,es,ep,ho,hd',_⟩ := hns
  rw [← q,kt₄] at ho; cases ho; cases hd'
 have kt₅ : ({ s₄ with heap := h',toks := s₄.toks + 1 } : Shared).heap.get? tt = some { cls := .type "tuple",data := .seq #[.str msg tk] } := (hsb.2 tt htl).trans kt₄
 clear S₄ af₄ e4 kt₄
 generalize ({ s₄ with heap := h',toks := s₄.toks + 1 } : Shared) = s₅ at *
 refine wpAny_execs_cons (wpAny_Return_some (wpAny_mono (eval_str_exc S₅ hu (by simp) e5 g2 g3 g30 hH kt₅ (hn m₃ H₃ _ _) (hs _ _ _) hst hev) ?_ fun _ _ x => x))
 rintro r s₆ ⟨rfl,S₆,af₆⟩
 refine eEA S₆.ns fun mr6 hns6 hk6 => ?_
 refine wpAny_nameGoes hl hns6 hp fun h6 m6 hn6 hs6 => ?_
 exact ⟨.ret (.str msg),[],H₃,⟨_,rfl,.str⟩,S₆.bare hn6 hs6,(af₅.then S₅ af₆).then S₆ (.store hn6 hs6),rfl,hR⟩
end
end
end Mine
end
section
open PySem PySem.Calls PySem.W PyProof.Rows
set_option maxRecDepth 100000
namespace Mine
noncomputable section
section
variable {C : Cx} {A : Around} {m : Loc} {H : CH} {s : Shared} {msg : Str} {R : Loc→CH→Prop}
noncomputable def EXN (C : Cx) (A : Around) (b : List Stmt) (m : Loc) (H : CH) (msg : Str) (R : Loc→CH→Prop) : Prop := ∀ s,St C m H s→wpAny (model C.prog C.w) A (execs b C.env) (fun _ _ => False) (NE C H s "TypeError" msg (flv C) R) s
theorem EXN_cons {st : Stmt} {rest : List Stmt} (h : ES C A st m H fun fl m₁ H₁ => fl = .next∧EXN C A rest m₁ H₁ msg R) : EXN C A (st :: rest) m H msg R := fun s S => by
 refine wpAny_execs_cons (wpAny_noRaise (wpAny_mono (h s S) ?_ fun _ _ x => x))
 rintro f s₁ ⟨fl,m₁,H₁,hf,S₁,af₁,rfl,h₁⟩
 cases hf
 exact wpAny_mono (h₁ s₁ S₁) (fun _ _ x => x) fun _ _ x => x.mono S₁ af₁
theorem EXN_if {t : PySem.Expr} {b o : List Stmt} {p : Pos} {rest : List Stmt} (h : EB C A t m H fun c m₁ H₁ => c = true∧EXN C A b m₁ H₁ msg R) : EXN C A (.If t b o p :: rest) m H msg R := fun s S => by
 refine wpAny_execs_cons (wpAny_If (wpAny_noRaise (wpAny_mono (h s S) ?_ fun _ _ x => x)))
 rintro c s₁ ⟨m₁,H₁,S₁,af₁,rfl,h₁⟩
 exact wpAny_mono (h₁ s₁ S₁) (fun _ _ x => x.elim) fun _ _ x => x.mono S₁ af₁
theorem EXN_try {body orelse rest : List Stmt} {t : PySem.Expr} {p p' : Pos} {outer : List Env} {T cls : String} {x : Str} {np cpos cp cp2 pos : Pos} {k k2 : Nat} (hA : A.frames = some C.fr) (hfr : C.fr = C.env :: outer)
  (hexc : isSubtype (.type T) (.type "BaseException") = pure true) (hnt : isSubtype (.type ((Manifest.find? T).elim "type" fun x => x.metatype)) (.type "tuple") = pure false) (hsub : isSubtype (.type cls) (.type T) = pure true)
  (h : EXX C A body m H (fun _ _ _ => False) cls R)
  (ht : ∀ m' H' h',R m' H'→EV C (A.mark h') t m' H' fun v m₁ H₁ => v = .con (.type T)∧m₁ = m'∧H₁ = H')
  (hx : ∀ m' H' h',R m' H'→EV C (A.mark h') (.Name x np) m' H' fun v m₁ H₁ => v = .con (.type "TypeError")∧m₁ = m'∧H₁ = H') :
  EXN C A (.Try body [.ExceptHandler (some t) none [.Raise (some (.Call (.Name x np) [.Constant (.str msg) k cp] [] cpos)) (some (.Constant .none k2 cp2)) pos] p'] orelse [] p :: rest) m H msg R := fun s S =>
 wpAny_execs_cons (wpAny_mono (try_raise hA hfr hexc hnt hsub h ht hx S) (fun _ _ x => x.elim) fun _ _ x => x)
theorem ES_try_ok {body orelse : List Stmt} {h₀ : ExceptHandler} {hs : List ExceptHandler} {p : Pos} {Q : Fl→Loc→CH→Prop} (h : EX C A body m H (SeqE C A orelse Q)) : ES C A (.Try body (h₀ :: hs) orelse [] p) m H Q := fun s S => by
 refine wpAny_Try_except (wpAny_noRaise (wpAny_mono (h s S) ?_ fun _ _ x => x))
 rintro f s₁ ⟨fl,m₁,H₁,hf,S₁,af₁,h₁⟩
 cases fl with
 | next => cases hf; exact wpAny_mono (h₁ s₁ S₁) (fun _ _ x => x.mono S₁ af₁) fun _ _ x => x
 | brk => cases hf; exact ⟨.brk,m₁,H₁,rfl,S₁,af₁,h₁⟩
 | cont => cases hf; exact ⟨.cont,m₁,H₁,rfl,S₁,af₁,h₁⟩
 | ret v => obtain ⟨r,rfl,hr⟩ := hf; exact ⟨.ret v,m₁,H₁,⟨r,rfl,hr⟩,S₁,af₁,h₁⟩
end
end
end Mine
end
section
namespace Mine
noncomputable section
noncomputable abbrev tput (told : Nat→Option Int) (m : Nat) (h : Int) : Nat→Option Int := fun j => if j = m then some h else told j
structure ToldS (N : Nat) (first last : Nat→Int) (h : Int) (told : Nat→Option Int) : Prop where
 rng : ∀ j,j < N→∀ t,told j = some t→t < h∧first j≤t
 inj : ∀ j k,j < N→k < N→∀ t,told j = some t→told k = some t→j = k
 pick : ∀ k,k < N→∀ i : Int,i < h→first k≤i→(∀ t,told k = some t→i < t)→∃ j,j < N∧told j = some i∧(last j < last k∨(last j = last k∧j≤k))
structure Waits (N : Nat) (first last : Nat→Int) (h : Int) (told : Nat→Option Int) (r : List (Int × Int)) : Prop where
 nd : r.Nodup
 mem : ∀ p,p ∈ r↔∃ j : Nat,j < N∧told j = none∧first j < h∧p = (last j,(j : Int))
section
variable {N : Nat} {first last : Nat→Int} {h : Int} {told : Nat→Option Int} {r : List (Int × Int)}
theorem ToldS.start (h0 : ∀ j,j < N→0≤first j) : ToldS N first last 0 fun _ => none :=
 ⟨fun _ _ _ h => (by cases h),fun _ _ _ _ _ h => (by cases h),fun k hk i hi h1 h2 => (by have := h0 k hk; (clear hk; omega))⟩
theorem Waits.start (h0 : ∀ j,j < N→0≤first j) : Waits N first last 0 (fun _ => none) [] :=
 ⟨.nil,fun p => ⟨fun h => (by cases h),fun ⟨j,hj,_,h1,_⟩ => (by have := h0 j hj; lia)⟩⟩
theorem ToldS.idle (T : ToldS N first last h told) (W : Waits N first last (h + 1) told []) : ToldS N first last (h + 1) told := by
 refine ⟨fun j hj t e => ?_,T.inj,fun k hk i hi h1 h2 => ?_⟩
 ·have := T.rng j hj t e; (clear hj e; omega)
 ·by_cases e : i < h
  ·exact T.pick k hk i e h1 h2
  ·have e : i = h := by lia
   subst e
   cases q : told k with
   | none =>
    have := (W.mem (last k,(k : Int))).mpr ⟨k,hk,q,by lia,rfl⟩
    cases this
   | some t =>
    have h3 := T.rng k hk t q
    have h4 := h2 t q
    (clear hk h1 hi e q; omega)
theorem ToldS.give (T : ToldS N first last h told) (W : Waits N first last (h + 1) told r) {m : Nat} {a : Int} (hm : (a,(m : Int)) ∈ r) (hmin : ∀ p ∈ r,¬ (p.1 < a∨(p.1 = a∧p.2 < m))) : m < N∧ToldS N first last (h + 1) (tput told m h) := by
 refine eEAAA ((W.mem _).mp hm) fun m' hmN hmt hmf e => ?_
 have e1 : a = last m' := congrArg Prod.fst e
 have e2 : (m : Int) = m' := congrArg Prod.snd e
 have e2 : m = m' := by (clear hmN hmt hmf e e1; lia)
 subst e1; subst e2
 have lt : ∀ j,j < N→∀ t,told j = some t→t < h := fun j hj t q => (T.rng j hj t q).1
 refine ⟨hmN,fun j hj t q => ?_,fun j k hj hk t q1 q2 => ?_,fun k hk i hi h1 h2 => ?_⟩
 ·by_cases e : j = m
  ·rw [tput,if_pos e] at q; cases q; subst e; lia
  ·rw [tput,if_neg e] at q; have := T.rng j hj t q; (clear hmN hmt hmf e2 hj q e; omega)
 ·by_cases e : j = m <;> by_cases e' : k = m
  ·refine rE e (rE e' rfl)
  ·rw [tput,if_pos e] at q1; rw [tput,if_neg e'] at q2
   cases q1; have := lt k hk _ q2; lia
  ·rw [tput,if_neg e] at q1; rw [tput,if_pos e'] at q2
   cases q2; have := lt j hj _ q1; omega
  ·rw [tput,if_neg e] at q1; rw [tput,if_neg e'] at q2
   exact T.inj j k hj hk t q1 q2
 ·by_cases e : i < h
  ·refine eEAA (T.pick k hk i e h1 fun t q => by
    refine h2 t ?_
    by_cases e3 : k = m
    ·subst e3; rw [hmt] at q; cases q
    ·rw [tput,if_neg e3]; exact q) fun j hj ht ho => ?_
   refine ⟨j,hj,?_,ho⟩
   rewrite [tput,if_neg fun e3 => ?_]
   ·exact ht
   ·subst e3; rw [hmt] at ht; cases ht
  ·have e : i = h := by lia
   subst e
   refine ⟨m,hmN,if_pos rfl,?_⟩
   by_cases e3 : k = m
   ·subst e3; exact .inr ⟨rfl,Nat.le_refl _⟩
   ·cases q : told k with
    | none =>
     have := hmin _ ((W.mem (last k,(k : Int))).mpr ⟨k,hk,q,by lia,rfl⟩)
     grind
    | some t =>
     have h3 := lt k hk t q
     have h4 := h2 t (by (rewrite [tput]; refine rE (if_neg e3) ?_); exact q)
     (clear hmN hmt e2 hk h1 hmf hi e e3 q; omega)
theorem Waits.give (W : Waits N first last h told r) {m : Nat} {a t : Int} {r' : List (Int × Int)} (hp : r.Perm ((a,(m : Int)) :: r')) : Waits N first last h (tput told m t) r' := by
 have nd := hp.nodup_iff.mp W.nd
 refine eA (List.nodup_cons.mp nd) fun n1 n2 => ?_
 refine ⟨n2,fun p => ⟨fun hpr => ?_,?_⟩⟩
 ·refine eEAAA ((W.mem p).mp (hp.mem_iff.mpr (List.mem_cons_of_mem _ hpr))) fun j hj ht hf zz4 => ?_; subst zz4
  refine ⟨j,hj,?_,hf,rfl⟩
  rewrite [tput,if_neg fun e => ?_]
  ·exact ht
  ·subst e
   refine eEAAA ((W.mem _).mp (hp.mem_iff.mpr List.mem_cons_self)) fun j' _ _ _ e => ?_
   have e1 : a = last j' := congrArg Prod.fst e
   have e2 : (j : Int) = j' := congrArg Prod.snd e
   have e2 : j = j' := by (clear hj ht hf n1 e e1; lia)
   subst e2; subst e1
   exact n1 hpr
 ·rintro ⟨j,hj,ht,hf,rfl⟩
  have hne : j≠m := fun e => by rw [tput,if_pos e] at ht; cases ht
  rw [tput,if_neg hne] at ht
  have := hp.mem_iff.mp ((W.mem _).mpr ⟨j,hj,ht,hf,rfl⟩)
  rcases List.mem_cons.mp this with e | h
  ·have e2 : (j : Int) = m := congrArg Prod.snd e
   (clear n1 hj ht hf e; lia)
  ·exact h
structure Coming (N : Nat) (first last : Nat→Int) (h : Int) (told : Nat→Option Int) (l : List Nat) (t : Nat) (r : List (Int × Int)) : Prop where
 nd : r.Nodup
 mem : ∀ p,p ∈ r↔∃ j : Nat,j < N∧told j = none∧(first j < h∨j ∈ l.take t)∧p = (last j,(j : Int))
theorem Coming.start (W : Waits N first last h told r) {l : List Nat} : Coming N first last h told l 0 r :=
 ⟨W.nd,fun p => (W.mem p).trans (exists_congr fun j => by simp)⟩
theorem Coming.next {l : List Nat} {t j : Nat} (G : Coming N first last h told l t r) (T : ToldS N first last h told) (hl : l.Nodup) (hj : l[t]? = some j) (hjN : j < N) (hf : ¬ first j < h) {r' : List (Int × Int)} (hp : r'.Perm ((last j,(j : Int)) :: r)) : Coming N first last h told l (t + 1) r' := by
 have htl := (List.getElem?_eq_some_iff.mp hj).1
 have hn : told j = none := by
  cases q : told j with
  | none => rfl
  | some x => have := T.rng j hjN x q; (clear hj hjN htl q; omega)
 have htk : ∀ x,x ∈ l.take (t + 1)↔x ∈ l.take t∨x = j := fun x => by
  refine rE List.take_add_one (rE hj ?_); simp
 have hnt : j ∉ l.take t := fun q => by
  have : (l.take (t + 1)).Nodup := hl.sublist (List.take_sublist ..)
  rw [List.take_add_one,hj,Option.toList_some,List.nodup_append] at this
  exact this.2.2 j q j (by simp) rfl
 refine ⟨hp.nodup_iff.mpr (List.nodup_cons.mpr ⟨fun q => ?_,G.nd⟩),fun p => ?_⟩
 ·refine eEAAA ((G.mem _).mp q) fun j' _ _ h1 e => ?_
  have e2 : (j : Int) = j' := congrArg Prod.snd e
  have e2 : j = j' := by (clear hj hjN hf htl hn hnt h1 e; lia)
  subst e2
  exact h1.elim hf hnt
 ·rw [hp.mem_iff,List.mem_cons,G.mem]
  constructor
  ·rintro (rfl | ⟨j',a,b,c,d⟩)
   ·exact ⟨j,hjN,hn,.inr ((htk j).mpr (.inr rfl)),rfl⟩
   ·exact ⟨j',a,b,c.imp id fun q => (htk _).mpr (.inl q),d⟩
  ·rintro ⟨j',a,b,c,rfl⟩
   by_cases e : j' = j
   ·subst e; exact .inl rfl
   ·refine .inr ⟨j',a,b,c.imp id fun q => ?_,rfl⟩
    exact ((htk _).mp q).resolve_right e
theorem Coming.done {l : List Nat} (G : Coming N first last h told l l.length r) (hl : ∀ j,j < N→(j ∈ l↔first j = h)) : Waits N first last (h + 1) told r :=
 ⟨G.nd,fun p => (G.mem p).trans (exists_congr fun j => by
  constructor
  ·rintro ⟨a,b,c,d⟩
   refine ⟨a,b,?_,d⟩
   rcases c with c | c
   ·(clear a b d; lia)
   ·rw [List.take_length] at c; have := (hl j a).mp c; exact Int.lt.intro (congrFun (congrArg HAdd.hAdd this) (↑0 + 1))
  ·rintro ⟨a,b,c,d⟩
   refine ⟨a,b,?_,d⟩
   refine rE List.take_length ?_; rewrite [hl j a]; lia)⟩
theorem nodup_le3 {α : Type} [DecidableEq α] : ∀ {l k : List α},l.Nodup→(∀ x ∈ l,x ∈ k)→l.length≤k.length
 | [],_,_,_ => Nat.zero_le _
 | x :: l,k,h,q => by
  refine eA (List.nodup_cons.mp h) fun h1 h2 => ?_
  have hx := q x List.mem_cons_self
  have := nodup_le3 (k := k.erase x) h2 fun y hy => (List.mem_erase_of_ne fun e => h1 (by refine rF e ?_; exact hy)).mpr (q y (List.mem_cons_of_mem _ hy))
  rw [List.length_erase_of_mem hx] at this
  have := List.length_pos_of_mem hx
  refine rE List.length_cons ?_; omega
theorem wait_le {r : List (Int × Int)} (nd : r.Nodup) (h : ∀ p ∈ r,∃ j : Nat,j < N∧p = (last j,(j : Int))) : r.length≤N := by
 have := nodup_le3 (k := (List.range N).map fun j : Nat => (last j,(j : Int))) nd fun p hp => by
  refine eEA (h p hp) fun j hj e => ?_
  exact List.mem_map.mpr ⟨j,List.mem_range.mpr hj,e.symm⟩
 rw [List.length_map,List.length_range] at this; exact this
theorem Waits.le (W : Waits N first last h told r) : r.length≤N := wait_le W.nd fun p hp => let ⟨j,a,_,_,e⟩ := (W.mem p).mp hp; ⟨j,a,e⟩
theorem Coming.le {l : List Nat} {t : Nat} (W : Coming N first last h told l t r) : r.length≤N := wait_le W.nd fun p hp => let ⟨j,a,_,_,e⟩ := (W.mem p).mp hp; ⟨j,a,e⟩
noncomputable def leftN (N : Nat) (told : Nat→Option Int) : Nat := ((List.range N).filter fun j => (told j).isNone).length
theorem left_put {m : Nat} {t : Int} (hm : m < N) (h : told m = none) : leftN N (tput told m t) < leftN N told := by
 unfold leftN
 have e : (List.range N).filter (fun j => (tput told m t j).isNone) = ((List.range N).filter fun j => (told j).isNone).filter fun j => decide (j≠m) := by
  refine rE List.filter_filter ?_
  refine List.filter_congr fun j _ => ?_
  by_cases q : j = m
  ·subst q; simp [tput]
  ·simp [tput,q]
 refine rE e ?_
 refine List.length_filter_lt_length_iff_exists.mpr ⟨m,List.mem_filter.mpr ⟨List.mem_range.mpr hm,by refine rE h ?_; rfl⟩,by simp⟩
theorem told_all (T : ToldS N first last h told) (W : Waits N first last h told []) (hf : ∀ j,j < N→first j < h) : ∃ f : Nat→Int,(∀ j,j < N→told j = some (f j))∧Edf N first last f := by
 have ha : ∀ j,j < N→∃ t,told j = some t := fun j hj => by
  cases q : told j with
  | some t => exact ⟨t,rfl⟩
  | none => have := (W.mem (last j,(j : Int))).mpr ⟨j,hj,q,hf j hj,rfl⟩; cases this
 have hs : ∀ j,j < N→told j = some ((told j).getD 0) := fun j hj => by
  refine eE (ha j hj) fun t e => ?_; refine rE e ?_; rfl
 refine ⟨fun j => (told j).getD 0,hs,fun j k hj hk e => ?_,fun j hj => ?_,fun k hk i h1 h2 => ?_⟩
 ·have e : (told j).getD 0 = (told k).getD 0 := e
  exact T.inj j k hj hk _ (hs j hj) (by refine rE e ?_; exact hs k hk)
 ·exact (T.rng j hj _ (hs j hj)).2
 ·have h3 := (T.rng k hk _ (hs k hk)).1
  have h2 : i < (told k).getD 0 := h2
  obtain ⟨j,hj,ht,ho⟩ := T.pick k hk i (by (clear hk h1 h2; lia)) h1 fun t q => by rw [q] at h2; exact h2
  exact ⟨j,hj,by show (told j).getD 0 = i; refine rE ht ?_; rfl,ho⟩
end
end
end Mine
end
section
open PySem PySem.Calls PySem.W PyProof.Rows
set_option maxRecDepth 100000
namespace Mine
noncomputable section
noncomputable def scopeOk1 (scope : Scope) : Bool := scope.kind == .function && scope.names.all (fun y => y.2 != .local || scope.names.lookup y.1 == some .local)
theorem scopeOk1.get {scope : Scope} (h : scopeOk1 scope = true) : scope.kind = .function∧∀ y ∈ scope.names,y.2 = .local→scope.names.lookup y.1 = some .local := by
 unfold scopeOk1 at h
 simp only [Bool.and_eq_true,List.all_eq_true,beq_iff_eq,bne_iff_ne,Bool.or_eq_true] at h
 refine ⟨h.1,fun y hy hl => ?_⟩
 rcases h.2 y hy with q | q
 ·exact absurd hl q
 ·exact q
section
variable {C : Cx} {A : Around} {m : Loc} {H : CH} {s : Shared}
theorem comp_core1 {elt target iter : PySem.Expr} {ifs : List PySem.Expr} {scope : Scope} {cl : List (Str × Addr)} {pos : Pos} {RR : Value→Addr→Result→Shared→Prop} {v : V} {r : Value} {xs : List V} {ok : CH→Prop} {x₀ : Str}
  (hcf : ∀ n cl,cellsFrom n scope.names cl = (x₀,n) :: cl) (hpc : ∀ h,pushCells h scope.names = h.push { cls := .type "cell",data := .cell none }) (hkind : scope.kind = .function) (S₁ : HS C H s) (F₁ : Frs C H s) (hv : VR s.heap v r) (q : SeqOf C A v H xs ok) (K : ∀ c,H c = none→C.h₀.get? c = none→∃ J,Comp C A elt target ifs scope ((x₀,c) :: cl) xs ok J∧J 0 [] (H.set c (.cell none))∧∀ D L s' H' ys mr,HS C H' s'→AfterC H s H' s'→s.heap.get? D = none→s.heap.get? L = none→D≠L→H' D = none→H' L = none→C.h₀.get? D = none→C.h₀.get? L = none→s'.heap.Ns L mr→(∃ items n,s'.heap.get? D = some (seqObj "list" items n)∧VRs s'.heap ys items.toList)→J xs.length ys H'→RR (.ref D) L (.ok .next) s') :
  wpAny (model C.prog C.w) A (pyIter r) (fun it s₂ => wpAny (model C.prog C.w) A (newList []) (fun acc s₃ => wpAny (model C.prog C.w) A (newFunctionEnv scope C.env.globals cl [] C.env.qual none .none (some C.env)) (fun cenv s₄ =>
   codeAny (model C.prog C.w) A (.compStart (.ListComp elt [⟨target,iter,ifs,0⟩] scope pos) 0 it acc { cenv with scope := relabel scope C.env }) (RR acc cenv.locals) s₄) NoE s₃) NoE s₂) NoE s := by
 obtain ⟨nx,it,hnx⟩ := q
 refine wpAny_mono (it s r S₁ hv) ?_ fun _ _ x => x
 rintro ri s₂ ⟨I,ob,h₂,tk₂,o0,rfl,rfl,hk₂,hI,hob,hob0,P⟩
 refine wpAny_newObj_type ?_
 unfold newFunctionEnv
 simp only [Option.isSome_some,if_true]
 refine wpAny_bind (wpAny_alloc ?_)
 refine wpAny_bind (wpAny_layCells _ (fun name kind cells => by cases hkc : kind == NameKind.cell <;> simp [hkc]) _ _ _ _ ?_)
 refine rE (hpc ..) (rE (hcf ..) ?_)
 simp only [List.forIn_nil]
 refine wpAny_bind (wpAny_pure (wpAny_pure ?_))
 dsimp only
 generalize hDd : h₂.objs.size = D at *
 generalize hH3 : h₂.push { cls := .type "list",dict := none,data := .seq ([] : List Value).toArray } = H3 at *
 have hsz4 : (H3.push { cls := .type "dict",data := .dict #[] }).objs.size = H3.objs.size + 1 := Heap.size_push ..
 refine rE hsz4 ?_
 generalize hLd : H3.objs.size = L at *
 generalize hcd : L + 1 = cA at *
 generalize hh4 : (H3.push { cls := .type "dict",data := .dict #[] }).push { cls := .type "cell",data := .cell none } = h₄ at *
 have hDL : D≠L := by
  have : H3.objs.size = h₂.objs.size + 1 := by refine rF hH3 (rE (Heap.size_push ..) rfl)
  show ¬ ((D : Nat) = L)
  lia
 have h3s : H3.objs.size = h₂.objs.size + 1 := by refine rF hH3 (rE (Heap.size_push ..) rfl)
 have keep34 : ∀ b o,H3.get? b = some o→h₄.get? b = some o := fun b o e => by refine rF hh4 ?_; exact Heap.get?_push_of_some _ (Heap.get?_push_of_some _ e)
 have keep4 : ∀ b o,h₂.get? b = some o→h₄.get? b = some o := fun b o e => keep34 b o (by refine rF hH3 ?_; exact Heap.get?_push_of_some _ e)
 have fresh : ∀ a,(h₂.objs.size : Nat)≤a→s.heap.get? a = none := fun a ha => by
  cases e : s.heap.get? a with
  | none => rfl
  | some o' => exact absurd (Heap.lt_size (hk₂ _ _ e)) (Nat.not_lt.mpr ha)
 have hD0 : s.heap.get? D = none := fresh D (by show (h₂.objs.size : Nat)≤D; exact Nat.le_of_eq hDd)
 have hL0 : s.heap.get? L = none := fresh L (by
  have : H3.objs.size = h₂.objs.size + 1 := by refine rF hH3 (rE (Heap.size_push ..) rfl)
  show (h₂.objs.size : Nat)≤L; lia)
 have hnb : ∀ a,s.heap.get? a = none→C.h₀.get? a = none := fun a ha => by
  exact S₁.base_none ha
 have hnH : ∀ a,s.heap.get? a = none→H a = none := fun a ha => by
  exact S₁.own_none ha
 have hDobj : h₄.get? D = some (seqObj "list" #[] 0) := keep34 D _ (by refine rF hH3 (rF hDd ?_); exact Heap.get?_push_size _ rfl)
 have hcobj : h₄.get? cA = some { cls := .type "cell",data := .cell none } := by
  refine rF hh4 (rF hsz4 ?_); exact Heap.get?_push_size _ rfl
 have hns₄ : h₄.Ns L (fun _ => none) := by
  refine rF hh4 (rF hLd ?_); exact (Heap.Ns.new H3 (.type "dict")).push _
 have hc0 : s.heap.get? cA = none := fresh cA (by refine rF hcd (rF hLd ?_); show (h₂.objs.size : Nat)≤H3.objs.size + 1; lia)
 have hcD : D≠cA := by refine rF hcd (rF hLd ?_); show ¬ ((D : Nat) = H3.objs.size + 1); lia
 have hcL : L≠cA := by refine rF hcd ?_; exact Nat.ne_of_lt (Nat.lt_succ_self L)
 refine eEAA (K cA (hnH cA hc0) (hnb cA hc0)) fun J K hJ fin => ?_
 have hIobj : h₄.get? I = some o0 := keep4 I o0 hob
 have hID : I≠D := fun e => by
  have := Heap.lt_size hob
  exact absurd (show (D : Nat) < h₂.objs.size from e ▸ this) (by (clear hkind hI hob hH3 hLd hcd hsz4 hh4 hDL h3s hD0 hL0 hDobj hcobj hc0 hcD hcL hIobj e this; lia))
 have hIL : I≠L := fun e => by
  have := Heap.lt_size hob
  have h3 : H3.objs.size = h₂.objs.size + 1 := by refine rF hH3 (rE (Heap.size_push ..) rfl)
  exact absurd (show (L : Nat) < h₂.objs.size from e ▸ this) (by (clear hkind hI hob hH3 hh4 hDL hD0 hL0 hDobj hcobj hc0 hcD hcL hIobj hID e this h3; lia))
 have af40 : AfterC H s H { s with heap := h₄,toks := tk₂ } := .more fun b o e => keep4 b o (hk₂ b o e)
 have S40 : HS C H { s with heap := h₄,toks := tk₂ } := S₁.more fun b o e => keep4 b o (hk₂ b o e)
 have S4 := S40.adopt (c := .cell none) (hnb cA hc0) hcobj ⟨none,rfl,trivial⟩
 have af4 := af40.adopt (c := .cell none) hc0
 have hIc : I≠cA := fun e => by
  have := Heap.lt_size hob
  rw [e,← hcd,← hLd] at this
  exact absurd (show (H3.objs.size + 1 : Nat) < h₂.objs.size from this) (by lia)
 have loop := comp_loop (elt := elt) (target := target) (iter := iter) (ifs := ifs) (pos := pos) (RRl := RR (.ref D) L) F₁ P hnx K hI hD0 hL0 hDL hID hIL hnb (fun s' H' ys mr a b c d e f g => fin D L s' H' ys mr a b hD0 hL0 hDL c d (hnb D hD0) (hnb L hL0) e f g) (k := xs.length) (s₄ := { s with heap := h₄,toks := tk₂ })
  ⟨0,[],H.set cA (.cell none),_,o0,#[],0,Nat.zero_le _,rfl,S4,af4,by refine rE (CH.set_ne hIc) ?_; exact hnH I hI,by refine rE (CH.set_ne hcD) ?_; exact hnH D hD0,by refine rE (CH.set_ne hcL) ?_; exact hnH L hL0,hns₄,hIobj,P.kept _ _ _ _ (.of_keep keep4) hob0,hDobj,.nil,hJ⟩
 exact codeAny_compStart_list loop (P.self _ 0 h₂ o0 _ _ hIobj hob0 loop)
noncomputable def LC1 (C : Cx) (A : Around) (elt target : PySem.Expr) (ifs : List PySem.Expr) (scope : Scope) (cl : List (Str × Addr)) (x₀ : Str) (v : V) (H : CH) (Q : V→CH→Prop) : Prop :=
 ∃ (xs : List V) (ok : CH→Prop),SeqOf C A v H xs ok∧∀ c,H c = none→C.h₀.get? c = none→∃ J : Nat→List V→CH→Prop,Comp C A elt target ifs scope ((x₀,c) :: cl) xs ok J∧J 0 [] (H.set c (.cell none))∧∀ ys H' D,J xs.length ys H'→H' D = none→C.h₀.get? D = none→Q (.ref D) (H'.set D (.list ys))
theorem ES_assign_lc1 {elt target iter : PySem.Expr} {ifs : List PySem.Expr} {scope : Scope} {cl : List (Str × Addr)} {x x₀ : Str} {px pos spos : Pos} {Q : Fl→Loc→CH→Prop}
  (h : EV C A iter m H fun v m₁ H₁ => LC1 C A elt target ifs scope cl x₀ v H₁ fun v H' => Q .next ((x,v) :: m₁) H')
  (hsw : autoParam (swapsWith (.ListComp elt [⟨target,iter,ifs,0⟩] scope pos) (some (.Name x px)) spos.line C.env = pure true) Mine.syn1)
  (hclos : autoParam (closureFor scope C.env = pure cl) Mine.syn1) (hok : autoParam (scopeOk1 scope = true) Mine.syn1) (hcf : autoParam (∀ n cl,cellsFrom n scope.names cl = (x₀,n) :: cl) Mine.syn3) (hpc : autoParam (∀ h,pushCells h scope.names = h.push { cls := .type "cell",data := .cell none }) Mine.syn2) (hs : autoParam (∀ x,foldedSetIterable iter C.env x = pure x) Mine.syn2)
  (hl : autoParam (C.env.kindOf x = some .local) Mine.syn1) (hp : autoParam ((C.env.scope.kind == .class || (C.env.scope.kind == .module && C.env.locals != C.env.globals)) = false) Mine.syn1) :
  ES C A (.Assign [.Name x px] (.ListComp elt [⟨target,iter,ifs,0⟩] scope pos) spos) m H Q := fun s S => by
 refine eA (scopeOk1.get hok) fun hkind hnames => ?_
 refine rE (exec_Assign_Name_used _ _ _ _ hsw) ?_
 refine wpAny_bind (wpAny_standAt (wpAny_bind ?_))
 show wpAny _ A (do let _ ← comprehension (.ListComp elt [⟨target,iter,ifs,0⟩] scope pos) scope C.env _ (newList []) false (eval iter C.env) (some (assign (.Name x px) C.env))) _ _ s
 refine wpAny_bind (wpAny_mono (wpAny_comprehension_free (use := some (assign (.Name x px) C.env)) (Q := fun _ s' => PF C H s Q .next s') rfl hs hclos hkind hnames
  (wpAny_mono (h s S) ?_ fun _ _ e => e)) (fun _ s' hq => wpAny_pure (wpAny_pure hq)) fun _ _ e => e)
 rintro r s₁ ⟨v,m₁,H₁,hv,S₁,af₁,xs,ok,q,K⟩
 refine comp_core1 (RR := fun acc L => compPost (model C.prog C.w) A NoE (some (assign (.Name x px) C.env)) (fun _ s' => PF C H s Q .next s') acc L) hcf hpc hkind S₁.toHS S₁.frs hv q fun c hcn hcb => ?_
 refine eEAA (K c hcn hcb) fun J K hJ fin => ?_
 refine ⟨J,K,hJ,?_⟩
 intro D L s' H' ys mr S' af' hD hL hDL hD' hL' hDb hLb hn ⟨items,n,hDo,hys⟩ hJ'
 have S₃ : HS C (H'.set D (.list ys)) s' := S'.adopt hDb hDo ⟨items,n,rfl,hys⟩
 have af₃ : AfterC H₁ s₁ (H'.set D (.list ys)) s' := af'.adopt hD
 have T₃ : St C m₁ (H'.set D (.list ys)) s' := S₁.called S₃ af₃
 have hLl : C.env.locals≠L := fun e => by refine eE S₁.at_loc fun o e' => ?_; rw [e,hL] at e'; cases e'
 refine eEA T₃.ns fun mr' hn' hk' => ?_
 show wpAny _ A (assign (.Name x px) C.env (.ref D)) _ _ _
 refine wpAny_assign_Name (wpAny_storeName_local hl hn' (fun h₂ hn₂ hs₂ => ?_) hp)
 have T₄ : St C ((x,.ref D) :: m₁) (H'.set D (.list ys)) { s' with heap := h₂,toks := s'.toks + 1 } := T₃.store (tk := s'.toks + 1) (v := .ref D) .ref hk' hn₂ hs₂
 have af₄ : After C H₁ s₁ (H'.set D (.list ys)) { s' with heap := h₂,toks := s'.toks + 1 } := (After.then T₃ af₃.after (.store (tk := s'.toks + 1) hn₂ hs₂))
 have hnL : h₂.Ns L mr := hn.sameBut hs₂ (Ne.symm hLl)
 refine ⟨mr,hnL,fun h₃ hs₃ => ?_⟩
 obtain ⟨oL,_,_,hoL,_⟩ := id hnL
 have hLD : (H'.set D (.list ys)) L = none := by refine rE (CH.set_ne (Ne.symm hDL)) ?_; exact hL'
 have af₅ : After C H₁ s₁ (H'.set D (.list ys)) { s' with heap := h₃,toks := s'.toks + 1 } := af₄.hid (tk := s'.toks + 1) hL hs₃.extBut
 have S₅ : HS C (H'.set D (.list ys)) { s' with heap := h₃,toks := s'.toks + 1 } := T₄.toHS.hid (tk := s'.toks + 1) hoL hLD hLb (ns_not_imm hnL hoL) hs₃.extBut
 have tk₅ : TupKeep h₂ h₃ := tup_ext hoL (ns_not_imm hnL hoL) hs₃.extBut
 have T₅ : St C ((x,.ref D) :: m₁) (H'.set D (.list ys)) { s' with heap := h₃,toks := s'.toks + 1 } := by
  refine eEA T₄.ns fun mr5 hn5 k5 => ?_
  refine ⟨S₅,⟨mr5,hn5.extBut hs₃.extBut hLl,k5.keep tk₅⟩,T₄.loc,T₄.locb,fun e he => ?_⟩
  obtain ⟨a1,a2,a3,f,o,es,ep,hf,ho,hd,hnf,hb⟩ := T₄.frs e he
  have hfL : f≠L := fun q => by
   obtain ⟨_,_,_,f',o',es',ep',hf',ho',_⟩ := S₁.frs e he
   rw [hf] at hf'; cases hf'; rw [q,hL] at ho'; cases ho'
  exact ⟨a1,a2,a3,f,o,es,ep,hf,hs₃.extBut f _ hfL ho,hd,hnf,hb⟩
 exact ⟨.next,_,_,rfl,T₅,af₁.then S₁ af₅,fin ys H' D hJ' hD' hDb⟩
end
end
end Mine
end
section
open PySem PySem.Calls PySem.W PyProof.Rows
set_option maxRecDepth 100000
namespace Mine
local macro_rules | `(tactic| walk_at "x") => do
 let l ← ("EX_asl EX_exs EX_ret EX_asn EX_brk EX_cnt EX_aug EX_nil SeqE.n SeqE.r SeqE.b SeqE.c SeqK.n SeqK.r SeqK.b SeqK.c ASGs_cons ASGs_nil ETs_cons ETs_nil ES_assign2 ES_assign ES_expr ES_ret ES_if ES_break ES_continue ES_aug_attr EV_bin EB_cmp EV_cmp EV_un EB_not EB_and EB_or EV_or EV_named EV_sub EV_meth EV_methS EV_methL EV_call EV_attr EL_nil EL_star EL_cons EV_int EV_none EV_bool EV_tuple EV_if ASG_local ASG_sub ASG_attr O2_add O2_sub O2_lt O2_gt O2_le O2_ge O2_eq O2_ne O2_iadd O2_isub O2_isNone O2_isNotNone EV_loc EB_val".splitOn " ").toArray.mapM fun n => `(Lean.Parser.Tactic.tacticSeq| refine $(Lean.mkIdent ("Mine." ++ n).toName) ?_)
 `(tactic| with_reducible first $[| $l]*)
local macro_rules | `(tactic| walk_at "xi") => `(tactic| (with_reducible refine EX_ifs ?_); repeat walk_at "x")
noncomputable section
section
noncomputable abbrev pv (p : Int × Int) : V := .tup [.int p.1,.int p.2]
theorem fdiv_two {a b : Int} (h : 0≤a) (hb : 0≤b) : a.fdiv b = a / b := by refine rE (Int.fdiv_eq_ediv_of_nonneg _ hb) rfl
noncomputable abbrev KK (P : Params) : Frag := hd06.heap_1 P
noncomputable abbrev a_heappush : Addr := 175
noncomputable abbrev a_heappop : Addr := 182
noncomputable abbrev a_siftdown : Addr := 189
noncomputable abbrev a_siftup : Addr := 196
theorem g_siftdown {P : Params} : nsIn (KK P) mainGlobals "_siftdown" = some (some (.ref a_siftdown)) := by kernel_rfl
theorem g_siftup {P : Params} : nsIn (KK P) mainGlobals "_siftup" = some (some (.ref a_siftup)) := by kernel_rfl
theorem g_len {P : Params} : nsIn (KK P) mainGlobals "len" = some none := by kernel_rfl
theorem b_len : bootBuiltins "len" = some (.builtin "len") := by kernel_rfl
theorem par_shr {p : Nat} (h : 0 < p) : ((p : Int) - 1).fdiv (2 ^ (1 : Int).toNat) = ((par p : Nat) : Int) := by
 refine rE (fdiv_two (by lia) (by decide)) ?_
 unfold par
 show ((p : Int) - 1) / 2 = _
 grind
theorem sdown_step {lt : (Int × Int)→(Int × Int)→Bool} {x y : Int × Int} {p : Nat} {l : List (Int × Int)} (h : 0 < p) (hy : l[par p]? = some y) : sdown lt x p l = if lt x y = true then sdown lt x (par p) (l.set p y) else l.set p x := by
 conv => lhs; rw [sdown_eq]
 refine rE (dif_pos h) (rE hy rfl)
theorem sdown_zero {lt : (Int × Int)→(Int × Int)→Bool} {x : Int × Int} {l : List (Int × Int)} : sdown lt x 0 l = l.set 0 x := by
 refine rE (sdown_eq ..) ?_; rfl
theorem pv_get {ps : List (Int × Int)} {k : Nat} {y : Int × Int} (h : ps[k]? = some y) : (ps.map pv)[(k : Int).toNat]? = some (pv y) := by
 refine rE (Int.toNat_natCast ..) (rE List.getElem?_map (rE h ?_)); rfl
theorem pv_set {ps : List (Int × Int)} {k : Nat} {y : Int × Int} : (ps.map pv).set (k : Int).toNat (pv y) = (ps.set k y).map pv := by
 refine rE (Int.toNat_natCast ..) (rE List.map_set rfl)
section
variable {C : Cx} {A : Around} {m : Loc} {H : CH} {s : Shared} {mg mb : Str→Option Value} {P : Params}
theorem spec_siftdown {h : Addr} {ps : List (Int × Int)} {pos : Nat} {x : Int × Int} (B : Bs C.h₀ (KK P) mg mb) {n : Nat} (hA : AOK C A (n + 1)) (hh : H h = some (.list (ps.map pv))) (hsz : ps.length≤sizeLine) (hp : ps[pos]? = some x) :
  CALL C A (.con (.ref a_siftdown)) [.ref h,.int 0,.int pos] [] H fun v H' => v = V.none∧H' = H.set h (.list ((sdown plt x pos ps).map pv)) := by
 refine CALL_K B (by with_unfolding_all rfl) (by with_unfolding_all rfl) hA .pos3 (by with_unfolding_all rfl) rfl fun L hL hL0 hA' => ?_
 have hsz' : (ps.map pv).length≤sizeLine := by refine rE (List.length_map ..) ?_; exact hsz
 repeat walk_at "x"
 refine sub_list (.own hh) (by exact Int.natCast_nonneg pos) (pv_get hp) hsz' ?_
 repeat walk_at "x"
 have hpl : pos < ps.length := (List.getElem?_eq_some_iff.mp hp).1
 refine EX_mid (fun m H' => ∃ (p : Nat) (ps' : List (Int × Int)),H' = H.set h (.list (ps'.map pv))∧ps'.length = ps.length∧p < ps.length∧ps'.set p x = sdown plt x pos ps∧Sub [("pos",.int p),("newitem",pv x),("heap",.ref h)] m) ?_ ?_
 ·refine ES_while (fun n m H' => ∃ ps' : List (Int × Int),H' = H.set h (.list (ps'.map pv))∧ps'.length = ps.length∧n < ps.length∧sdown plt x n ps' = sdown plt x pos ps∧m = ([("pos",.int n),("newitem",pv x),("heap",.ref h),("startpos",.int 0)] : Loc)) pos _ (.cons rfl (.cons rfl (.cons rfl (.cons rfl .nil)))) ⟨ps,(CH.set_self hh).symm,rfl,hpl,rfl,rfl⟩ ?_
  rintro n m H' ⟨ps',rfl,hl,hn,hsd,rfl⟩
  repeat walk_at "x"
  refine ⟨_,rfl,fun h0 => ?_,fun h0 => ?_⟩
  ·have hn0 : 0 < n := by simpa using h0
   obtain ⟨y,hy⟩ : ∃ y,ps'[par n]? = some y := ⟨_,List.getElem?_eq_getElem (by have := par_lt hn0; lia)⟩
   repeat walk_at "x"
   refine O2_shr (by decide) ?_
   refine rE (par_shr hn0) ?_
   repeat walk_at "x"
   refine sub_list (.own CH.set_same) (by exact Int.natCast_nonneg (par n)) (pv_get hy) (by refine rE (List.length_map ..) ?_; omega) ?_
   repeat walk_at "x"
   walk_at "xi"
   refine O2_ltp hA'.line ?_
   have hst := sdown_step (lt := plt) (x := x) hn0 hy
   refine ⟨_,rfl,fun h1 => ?_,fun h1 => ?_⟩
   ·rw [if_pos (show plt x y = true from h1)] at hst
    repeat walk_at "x"
    refine set_list CH.set_same (by exact Int.natCast_nonneg n) (by refine rE (List.length_map ..) ?_; lia) (by refine rE (List.length_map ..) ?_; omega) ?_
    repeat walk_at "x"
    refine ⟨par n,_,par_lt hn0,.cons rfl (.cons rfl (.cons rfl (.cons rfl .nil))),ps'.set n y,?_,by simpa using hl,by have := par_lt hn0; exact Nat.lt_trans this hn,by refine rF hst (rE hsd rfl),rfl⟩
    refine rE CH.set_set (rE pv_set rfl)
   ·rw [if_neg (show ¬ plt x y = true from by have : plt x y = false := h1; simp [this])] at hst
    repeat walk_at "x"
    exact ⟨n,ps',rfl,hl,hn,by refine rF hst (rE hsd rfl),.cons rfl (.cons rfl (.cons rfl .nil))⟩
  ·have hn0 : n = 0 := by simp at h0; omega
   subst hn0
   repeat walk_at "x"
   exact ⟨0,ps',rfl,hl,hn,by refine rF hsd (rE sdown_zero rfl),.cons rfl (.cons rfl (.cons rfl .nil))⟩
 ·rintro m H' ⟨p,ps',rfl,e2,e3,e4,e5⟩
  refine EX.sub e5 ?_
  repeat walk_at "x"
  refine set_list CH.set_same (by exact Int.natCast_nonneg p) (by refine rE (List.length_map ..) ?_; omega) (by refine rE (List.length_map ..) ?_; omega) ?_
  repeat walk_at "x"
  refine ⟨rfl,?_⟩
  refine rE CH.set_set (rE pv_set (rE e4 rfl))
theorem sup_step {lt : (Int × Int)→(Int × Int)→Bool} {p : Nat} {l : List (Int × Int)} {y : Int × Int} (h : 2 * p + 1 < l.length) (hy : l[kid lt l p]? = some y) : sup lt p l = sup lt (kid lt l p) (l.set p y) := by
 conv => lhs; rw [sup_eq]
 refine rE (dif_pos h) (rE hy rfl)
theorem sup_end {lt : (Int × Int)→(Int × Int)→Bool} {p : Nat} {l : List (Int × Int)} (h : ¬ 2 * p + 1 < l.length) : sup lt p l = (p,l) := by
 refine rE (sup_eq ..) (rE (dif_neg h) rfl)
theorem spec_siftup {h : Addr} {ps : List (Int × Int)} {x : Int × Int} (B : Bs C.h₀ (KK P) mg mb) {n : Nat} (hA : AOK C A (n + 2)) (hh : H h = some (.list (ps.map pv))) (hsz : ps.length≤sizeLine) (hp : ps[0]? = some x) :
  CALL C A (.con (.ref a_siftup)) [.ref h,.int 0] [] H fun v H' => v = V.none∧H' = H.set h (.list ((sdown plt x (sup plt 0 ps).1 ((sup plt 0 ps).2.set (sup plt 0 ps).1 x)).map pv)) := by
 refine CALL_K B (by with_unfolding_all rfl) (by with_unfolding_all rfl) hA .pos2 (by with_unfolding_all rfl) rfl fun L hL hL0 hA' => ?_
 have hsz' : (ps.map pv).length≤sizeLine := by refine rE (List.length_map ..) ?_; exact hsz
 have hpl : 0 < ps.length := (List.getElem?_eq_some_iff.mp hp).1
 repeat walk_at "x"
 refine EV_b B g_len b_len ?_
 repeat walk_at "x"
 refine ⟨KP_built,CV_len (.own hh) hsz' ?_⟩
 refine rE (List.length_map ..) ?_
 repeat walk_at "x"
 refine sub_list (k := 0) (.own hh) (by exact Int.zero_le_ofNat 0) (pv_get (k := 0) hp) hsz' ?_
 repeat walk_at "x"
 refine O2_mul (.of_left (by decide)) ?_
 repeat walk_at "x"
 refine EX_mid (fun m H' => ∃ (p : Nat) (ps' : List (Int × Int)),H' = H.set h (.list (ps'.map pv))∧ps'.length = ps.length∧p < ps.length∧sup plt 0 ps = (p,ps')∧Sub [("pos",.int p),("newitem",pv x),("heap",.ref h),("startpos",.int 0)] m) ?_ ?_
 ·refine ES_while (fun n m H' => ∃ (ps' : List (Int × Int)) (p : Nat),H' = H.set h (.list (ps'.map pv))∧ps'.length = ps.length∧p < ps.length∧n = ps.length - p∧sup plt p ps' = sup plt 0 ps∧m = ([("pos",.int p),("childpos",.int (2 * p + 1)),("newitem",pv x),("heap",.ref h),("startpos",.int 0),("endpos",.int ps.length)] : Loc)) ps.length _ (.cons rfl (.cons rfl (.cons rfl (.cons rfl (.cons rfl (.cons rfl .nil)))))) ⟨ps,0,(CH.set_self hh).symm,rfl,hpl,rfl,rfl,rfl⟩ ?_
  rintro n m H' ⟨ps',p,rfl,hl,hn,rfl,hsd,rfl⟩
  have hszp : (ps'.map pv).length≤sizeLine := by refine rE (List.length_map ..) ?_; lia
  repeat walk_at "x"
  refine ⟨_,rfl,fun h0 => ?_,fun h0 => ?_⟩
  ·have hn0 : 2 * p + 1 < ps'.length := by simp at h0; omega
   repeat walk_at "x"
   refine EX_mid (fun m H' => H' = H.set h (.list (ps'.map pv))∧Sub [("childpos",.int (kid plt ps' p : Nat)),("pos",.int p),("newitem",pv x),("heap",.ref h),("startpos",.int 0),("endpos",.int ps.length)] m) ?_ ?_
   ·repeat walk_at "x"
    refine ⟨_,rfl,fun h1 => ?_,fun h1 => ?_⟩
    ·have h2 : 2 * p + 2 < ps'.length := by simp at h1; omega
     obtain ⟨a,ha⟩ : ∃ a,ps'[2 * p + 1]? = some a := ⟨_,List.getElem?_eq_getElem (by omega)⟩
     obtain ⟨b,hb⟩ : ∃ a,ps'[2 * p + 2]? = some a := ⟨_,List.getElem?_eq_getElem (by omega)⟩
     have hk : kid plt ps' p = if plt a b = true then 2 * p + 1 else 2 * p + 2 := by unfold kid; refine rE ha (rE hb rfl)
     repeat walk_at "x"
     refine sub_list (.own CH.set_same) (by exact Int.zero_le_ofNat (2 * p + 1)) (pv_get (k := 2 * p + 1) ha) hszp ?_
     repeat walk_at "x"
     refine rE (show (2 * (p : Int) + 1 + 1) = ((2 * p + 2 : Nat) : Int) from by rfl) ?_
     refine sub_list (.own CH.set_same) (by exact Int.natCast_nonneg (2 * p + 2)) (pv_get (k := 2 * p + 2) hb) hszp ?_
     refine O2_ltp hA'.line ?_
     refine ⟨_,rfl,fun h3 => ?_,fun h3 => ?_⟩
     ·have h3 : plt a b = false := by have h4 : (!plt a b) = true := h3; simpa using h4
      rw [h3] at hk
      repeat walk_at "x"
      refine ⟨rfl,.cons ?_ (.cons rfl (.cons rfl (.cons rfl (.cons rfl (.cons rfl .nil)))))⟩
      refine rE hk ?_; rfl
     ·have h3 : plt a b = true := by have h4 : (!plt a b) = false := h3; simpa using h4
      rw [h3] at hk
      repeat walk_at "x"
      refine ⟨rfl,.cons ?_ (.cons rfl (.cons rfl (.cons rfl (.cons rfl (.cons rfl .nil)))))⟩
      refine rE hk ?_; rfl
    ·refine ⟨fun q => (by cases q),fun _ => ?_⟩
     have h2 : ¬ 2 * p + 2 < ps'.length := by simp at h1; lia
     have hk : kid plt ps' p = 2 * p + 1 := by unfold kid; refine rE (List.getElem?_eq_none (by exact Nat.le_of_not_lt h2 : ps'.length≤2 * p + 2)) ?_; cases ps'[2 * p + 1]? <;> rfl
     repeat walk_at "x"
     refine ⟨rfl,.cons ?_ (.cons rfl (.cons rfl (.cons rfl (.cons rfl (.cons rfl .nil)))))⟩
     refine rE hk ?_; rfl
   ·rintro m H' ⟨rfl,hm⟩
    refine EX.sub hm ?_
    have hkl := kid_lt (lt := plt) hn0
    obtain ⟨y,hy⟩ : ∃ a,ps'[kid plt ps' p]? = some a := ⟨_,List.getElem?_eq_getElem hkl⟩
    repeat walk_at "x"
    refine sub_list (.own CH.set_same) (by exact Int.natCast_nonneg (kid plt ps' p)) (pv_get hy) hszp ?_
    repeat walk_at "x"
    refine set_list CH.set_same (by exact Int.natCast_nonneg p) (by refine rE (List.length_map ..) ?_; (clear hh hsz hp hL hL0 hsz' hpl hsd hszp h0 hn0 hkl hy; lia)) hszp ?_
    repeat walk_at "x"
    refine O2_mul (.of_left (by decide)) ?_
    repeat walk_at "x"
    have hge := kid_le plt ps' p
    refine ⟨ps.length - kid plt ps' p,_,by grind,.cons rfl (.cons rfl (.cons rfl (.cons rfl (.cons rfl (.cons rfl .nil))))),ps'.set p y,kid plt ps' p,?_,by simpa using hl,by exact Nat.lt_of_lt_of_eq hkl hl,rfl,by refine rF (sup_step hn0 hy) (rE hsd rfl),rfl⟩
    refine rE CH.set_set (rE pv_set rfl)
  ·have hn0 : ¬ 2 * p + 1 < ps'.length := by simp at h0; omega
   repeat walk_at "x"
   exact ⟨p,ps',rfl,hl,hn,by refine rF hsd (rE (sup_end hn0) rfl),.cons rfl (.cons rfl (.cons rfl (.cons rfl .nil)))⟩
 ·rintro m H' ⟨p,ps',rfl,e2,e3,e4,e5⟩
  refine EX.sub e5 ?_
  repeat walk_at "x"
  refine set_list CH.set_same (by exact Int.natCast_nonneg p) (by refine rE (List.length_map ..) ?_; lia) (by refine rE (List.length_map ..) ?_; omega) ?_
  refine rE CH.set_set (rE pv_set ?_)
  repeat walk_at "x"
  refine EV_g B g_siftdown ?_
  repeat walk_at "x"
  refine ⟨KP_K B (by with_unfolding_all rfl),CV_of ((spec_siftdown (by exact B) hA' CH.set_same (by refine rE List.length_set ?_; omega) (by refine rE (List.getElem?_set_self (by exact Nat.lt_of_lt_of_eq e3 (id (Eq.symm e2)))) rfl)).mono ?_)⟩
  rintro v H' ⟨rfl,rfl⟩
  repeat walk_at "x"
  refine ⟨rfl,?_⟩
  refine rE CH.set_set (rE e4 rfl)
theorem spec_heappush {h : Addr} {ps : List (Int × Int)} {x : Int × Int} (B : Bs C.h₀ (KK P) mg mb) {n : Nat} (hA : AOK C A (n + 2)) (hh : H h = some (.list (ps.map pv))) (hsz : ps.length + 1≤sizeLine) :
  CALL C A (.con (.ref a_heappush)) [.ref h,pv x] [] H fun v H' => v = V.none∧H' = H.set h (.list ((sdown plt x ps.length (ps ++ [x])).map pv)) := by
 refine CALL_K B (by with_unfolding_all rfl) (by with_unfolding_all rfl) hA .pos2 (by with_unfolding_all rfl) rfl fun L hL hL0 hA' => ?_
 repeat walk_at "x"
 refine GM_list (.own hh) F.slot_list_append F.type_list_append ?_
 repeat walk_at "x"
 refine ⟨KP_built,CV_append hh (by refine rE (List.length_map ..) ?_; exact Nat.le_of_succ_le hsz) ?_⟩
 have e : ps.map pv ++ [pv x] = (ps ++ [x]).map pv := by simp
 refine rE e ?_
 repeat walk_at "x"
 refine EV_g B g_siftdown ?_
 repeat walk_at "x"
 refine EV_b B g_len b_len ?_
 repeat walk_at "x"
 refine ⟨KP_built,CV_len (.own CH.set_same) (by simp; omega) ?_⟩
 repeat walk_at "x"
 have e2 : ((((ps ++ [x]).map pv).length : Nat) : Int) - 1 = ((ps.length : Nat) : Int) := by simp
 refine rE e2 ?_
 repeat walk_at "x"
 refine ⟨KP_K B (by with_unfolding_all rfl),CV_of ((spec_siftdown (x := x) (by exact B) hA' CH.set_same (by simp; omega) (by simp)).mono ?_)⟩
 rintro v H' ⟨rfl,rfl⟩
 repeat walk_at "x"
 refine ⟨rfl,?_⟩
 refine rE CH.set_set rfl
theorem spec_heappop {h : Addr} {a x : Int × Int} {ps : List (Int × Int)} (B : Bs C.h₀ (KK P) mg mb) {n : Nat} (hA : AOK C A (n + 3)) (hh : H h = some (.list ((a :: ps ++ [x]).map pv))) (hsz : ps.length + 2≤sizeLine) :
  CALL C A (.con (.ref a_heappop)) [.ref h] [] H fun v H' => v = pv a∧H' = H.set h (.list ((popped (lt := plt) x (a :: ps)).map pv)) := by
 refine CALL_K B (by with_unfolding_all rfl) (by with_unfolding_all rfl) hA .pos1 (by with_unfolding_all rfl) rfl fun L hL hL0 hA' => ?_
 have hh' : H h = some (.list ((a :: ps).map pv ++ [pv x])) := by refine rE hh ?_; simp
 repeat walk_at "x"
 refine GM_list (.own hh) F.slot_list_pop F.type_list_pop ?_
 repeat walk_at "x"
 refine ⟨KP_built,CV_pop hh' (by simp; omega) ?_⟩
 repeat walk_at "x"
 walk_at "xi"
 refine OB_list (.own CH.set_same) (by simp; exact Nat.le_of_succ_le hsz) ?_
 refine ⟨fun _ => ?_,fun q => (by cases q)⟩
 repeat walk_at "x"
 refine sub_list (v := pv a) (.own CH.set_same) (by exact Int.zero_le_ofNat 0) rfl (by simp; exact Nat.le_of_succ_le hsz) ?_
 repeat walk_at "x"
 refine set_list CH.set_same (by exact Int.zero_le_ofNat 0) (by simp) (by simp; exact Nat.le_of_succ_le hsz) ?_
 have e : (((a :: ps).map pv).set (0 : Int).toNat (pv x)) = ((a :: ps).set 0 x).map pv := by simp
 refine rE e (rE CH.set_set ?_)
 repeat walk_at "x"
 refine EV_g B g_siftup ?_
 repeat walk_at "x"
 refine ⟨KP_K B (by with_unfolding_all rfl),CV_of ((spec_siftup (x := x) (by exact B) hA' CH.set_same (by simp; exact Nat.le_of_succ_le hsz) (by simp)).mono ?_)⟩
 rintro v H' ⟨rfl,rfl⟩
 repeat walk_at "x"
 refine ⟨rfl,?_⟩
 refine rE CH.set_set ?_; rfl
theorem spec_heappop1 {h : Addr} {x : Int × Int} (B : Bs C.h₀ (KK P) mg mb) {n : Nat} (hA : AOK C A (n + 3)) (hh : H h = some (.list ([x].map pv))) :
  CALL C A (.con (.ref a_heappop)) [.ref h] [] H fun v H' => v = pv x∧H' = H.set h (.list []) := by
 refine CALL_K B (by with_unfolding_all rfl) (by with_unfolding_all rfl) hA .pos1 (by with_unfolding_all rfl) rfl fun L hL hL0 hA' => ?_
 have hh' : H h = some (.list ([] ++ [pv x])) := by refine rE hh ?_; rfl
 repeat walk_at "x"
 refine GM_list (.own hh) F.slot_list_pop F.type_list_pop ?_
 repeat walk_at "x"
 refine ⟨KP_built,CV_pop hh' (by unfold sizeLine; simp) ?_⟩
 repeat walk_at "x"
 walk_at "xi"
 refine OB_list (.own CH.set_same) (by simp) ?_
 refine ⟨fun q => (by cases q),fun _ => ?_⟩
 repeat walk_at "x"
 exact ⟨rfl,rfl⟩
end
end
section
noncomputable abbrev a_reduce : Addr := 30
noncomputable abbrev a_missing : Addr := 22
theorem g_missing {P : Params} : nsIn (KK P) mainGlobals "_initial_missing" = some (some (.ref a_missing)) := by kernel_rfl
theorem g_iter {P : Params} : nsIn (KK P) mainGlobals "iter" = some none := by kernel_rfl
theorem b_iter : bootBuiltins "iter" = some (.builtin "iter") := by kernel_rfl
section
variable {C : Cx} {A : Around} {m : Loc} {H : CH} {s : Shared} {mg mb : Str→Option Value} {P : Params}
theorem spec_reduceG {f init v : V} {c : CObj} {xs : List V} {ok : CH→Prop} (B : Bs C.h₀ (KK P) mg mb) {n : Nat} (hA : AOK C A (n + 1)) (it : ∀ env,Iters (C.at env) (A.deeper env) v H c xs ok) (hinit : (∃ i,init = .int i)∨init = V.none∨(∃ a c,init = .ref a∧H a = some c)∨∃ l,init = .tup l)
  (J : Nat→V→CH→Prop) (h0 : J 0 init H) (hkp : ∀ env H',KP (C.at env) f H')
  (step : ∀ i v x H' env,AOK (C.at env) (A.deeper env) n→J i v H'→xs[i]? = some x→CALL (C.at env) (A.deeper env) f [v,x] [] H' fun v' H'' => J (i + 1) v' H'')
  (keep : ∀ i v H',J i v H'→ok H') :
  CALL C A (.con (.ref a_reduce)) [f,v,init] [] H (J xs.length) := by
 refine CALL_KW B (by with_unfolding_all rfl) (by with_unfolding_all rfl) hA (binds := [("function",f),("sequence",v),("initial",init)]) (.dflt (T := 23) (items := [.ref a_missing]) (n := 0) B (by with_unfolding_all rfl) fun h rs hv => ?_) (by with_unfolding_all rfl) rfl fun L hL hL0 hA' => ?_
 ·obtain ⟨a,b,c,rfl,ha,hb,hc⟩ := three_inv hv
  exact ⟨_,[("function",a),("sequence",b),("initial",c)],by with_unfolding_all rfl,by with_unfolding_all rfl,rfl,.cons ha (.cons hb (.cons hc .nil))⟩
 repeat walk_at "x"
 refine EV_b B g_iter b_iter ?_
 repeat walk_at "x"
 refine ⟨KP_built,(it _).make fun I hI hI0 => ?_⟩
 repeat walk_at "x"
 walk_at "xi"
 refine EV_g B g_missing ?_
 refine O2_is_mark (B.X _ _ (by with_unfolding_all rfl : (KK P).lookup a_missing = some { cls := .type "object" })) (fun e => absurd (Value.type.inj e) (by decide)) ?_ ?_
 ·rcases hinit with h | h | ⟨a,c,h1,h2⟩ | h
  ·exact .inl h
  ·exact .inr (.inl h)
  ·exact .inr (.inr (.inl ⟨a,c,h1,by refine rE (CH.set_ne ((ne_at h2 hI))) ?_; exact h2⟩))
  ·exact .inr (.inr (.inr h))
 refine ⟨_,rfl,fun q => (by cases q),fun _ => ?_⟩
 repeat walk_at "x"
 refine EX_cons (st := .For _ _ _ _ _) ?_
 refine ES_for_iters (it _) hI (by with_unfolding_all rfl) [("value",init),("function",f)] (fun i m' H' => ∃ v,J i v H'∧m' = ([("value",v),("function",f)] : Loc)) (.cons rfl (.cons rfl .nil)) ⟨init,h0,rfl⟩ ?_
 rintro i m' H' ⟨v,hJ,rfl⟩
 refine ⟨keep i v H' hJ,fun x hx => ?_,fun hi => ?_⟩
 ·repeat walk_at "x"
  refine ⟨hkp _ _,CV_of ((step i v x H' _ hA' hJ hx).mono ?_)⟩
  intro v' H'' hJ'
  repeat walk_at "x"
  exact ⟨[("value",v'),("function",f)],.cons rfl (.cons rfl .nil),v',hJ',rfl⟩
 ·subst hi
  repeat walk_at "x"
  exact hJ
theorem spec_reduce {f init : V} {l : Addr} {xs : List V} (B : Bs C.h₀ (KK P) mg mb) {n : Nat} (hA : AOK C A (n + 1)) (hl : H l = some (.list xs)) (hinit : (∃ i,init = .int i)∨init = V.none∨(∃ a c,init = .ref a∧H a = some c)∨∃ l,init = .tup l)
  (J : Nat→V→CH→Prop) (h0 : J 0 init H) (hkp : ∀ env H',KP (C.at env) f H')
  (step : ∀ i v x H' env,AOK (C.at env) (A.deeper env) n→J i v H'→xs[i]? = some x→CALL (C.at env) (A.deeper env) f [v,x] [] H' fun v' H'' => J (i + 1) v' H'')
  (keep : ∀ i v H',J i v H'→H' l = some (.list xs)) :
  CALL C A (.con (.ref a_reduce)) [f,.ref l,init] [] H (J xs.length) :=
 spec_reduceG B hA (fun env => iters_list hA.handled hl) hinit J h0 hkp step keep
end
end
section
noncomputable abbrev cNI : Addr := 67
noncomputable abbrev cTS : Addr := 164
noncomputable abbrev a_NIinit : Addr := 63
noncomputable abbrev a_TSinit : Addr := 100
noncomputable abbrev a_getinfo : Addr := 107
noncomputable abbrev a_add : Addr := 114
noncomputable abbrev a_prepare : Addr := 119
noncomputable abbrev a_getready : Addr := 126
noncomputable abbrev a_isactive : Addr := 133
noncomputable abbrev a_done : Addr := 147
noncomputable abbrev a_findcycle : Addr := 154
theorem g_NI {P : Params} : nsIn (KK P) mainGlobals "_NodeInfo" = some (some (.ref cNI)) := by kernel_rfl
theorem k_makeNI {P : Params} : makeOk (KK P) cNI a_NIinit = true := by kernel_rfl
theorem k_makeTS {P : Params} : makeOk (KK P) cTS a_TSinit = true := by kernel_rfl
theorem k_keepNI {P : Params} : keepIn (KK P) (.ref cNI) = true := by kernel_rfl
theorem k_keepTS {P : Params} : keepIn (KK P) (.ref cTS) = true := by kernel_rfl
section
variable {C : Cx} {A : Around} {m : Loc} {H : CH} {s : Shared} {mg mb : Str→Option Value} {P : Params}
noncomputable abbrev niObj (d l : Addr) (np k : Int) : CObj := .inst cNI d [some (.int k),some (.int np),some (.ref l)]
inductive NIv (H : CH) (k : Int) (v : V) (H' : CH) : Prop
 | mk (x d l : Addr) (hv : v = .ref x) (hx : H x = none) (hd : H d = none) (hl : H l = none) (n1 : x≠d) (n2 : x≠l) (n3 : d≠l) (h1 : H' x = some (niObj d l 0 k)) (h2 : H' d = some (.idict [])) (h3 : H' l = some (.list [])) (h4 : ∀ b,b≠x→b≠d→b≠l→H' b = H b)
theorem spec_NIinit {x d : Addr} {k : Int} (B : Bs C.h₀ (KK P) mg mb) {n : Nat} (hA : AOK C A (n + 1)) (hx : H x = some (.inst cNI d [])) (hd : H d = some (.idict [])) :
  CALL C A (.con (.ref a_NIinit)) [.ref x,.int k] [] H fun v H' => v = V.none∧∃ l,H l = none∧H' = (H.set l (.list [])).set x (niObj d l 0 k) := by
 have hxd : x≠d := ne_at hx hd
 refine CALL_K B (by with_unfolding_all rfl) (by with_unfolding_all rfl) hA .pos2 (by with_unfolding_all rfl) rfl fun L hL hL0 hA' => ?_
 repeat walk_at "x"
 refine SA_slot (p := 68) (i := 0) B hx hd ?_
 repeat walk_at "x"
 refine SA_slot (p := 69) (i := 1) B CH.set_same (by refine rE (CH.set_ne (Ne.symm hxd)) ?_; exact hd) ?_
 repeat walk_at "x"
 refine EV_list ?_
 repeat walk_at "x"
 refine ⟨by simp,fun l hl => ?_⟩
 rw [CH.set_set] at hl ⊢
 have hlx : x≠l := fun e => by rw [e,CH.set_same] at hl; cases hl
 have hlH : H l = none := by rw [← CH.set_ne (H := H) (c := _) (Ne.symm hlx)]; exact hl
 have hld : d≠l := ne_at hd hlH
 repeat walk_at "x"
 refine SA_slot (p := 70) (i := 2) B (by refine rE (CH.set_ne hlx) (rE CH.set_same rfl)) (by refine rE (CH.set_ne hld) (rE (CH.set_ne (Ne.symm hxd)) ?_); exact hd) ?_
 repeat walk_at "x"
 refine ⟨rfl,l,hlH,?_⟩
 funext b
 by_cases hb : b = x
 ·subst hb; refine rE CH.set_same (rE CH.set_same ?_); rfl
 ·refine rE (CH.set_ne hb) (rE (CH.set_ne hb) ?_)
  by_cases hbl : b = l
  ·subst hbl; refine rE CH.set_same (rE CH.set_same rfl)
  ·refine rE (CH.set_ne hbl) (rE (CH.set_ne hbl) (rE (CH.set_ne hb) rfl))
theorem spec_makeNI {k : Int} (B : Bs C.h₀ (KK P) mg mb) {n : Nat} (hA : AOK C A (n + 2)) :
  CALL C A (.con (.ref cNI)) [.int k] [] H (NIv H k) := by
 refine CALL_make B k_makeNI fun x d rest kw hx hd hx0 hd0 hxd => ?_
 refine (spec_NIinit (k := k) B hA.under CH.set_same (by refine rE (CH.set_ne (Ne.symm hxd)) ?_; exact CH.set_same)).mono ?_
 rintro v H' ⟨rfl,l,hl,rfl⟩
 have hlx : l≠x := ne_at hl CH.set_same
 have hld : l≠d := ne_at hl ((CH.set_ne (Ne.symm hxd)).trans CH.set_same)
 refine ⟨rfl,x,d,l,rfl,hx,hd,by rw [CH.set_ne hlx,CH.set_ne hld] at hl; exact hl,hxd,Ne.symm hlx,Ne.symm hld,CH.set_same,?_,?_,?_⟩
 ·refine rE (CH.set_ne (Ne.symm hxd)) (rE (CH.set_ne (Ne.symm hld)) (rE (CH.set_ne (Ne.symm hxd)) (rE CH.set_same rfl)))
 ·refine rE (CH.set_ne hlx) (rE CH.set_same rfl)
 ·intro b h1 h2 h3
  refine rE (CH.set_ne h1) (rE (CH.set_ne h3) (rE (CH.set_ne h1) (rE (CH.set_ne h2) rfl)))
end
end
section
inductive AEx2 (a : Prop) {α : Type} (P Q : α→Prop) : Prop
 | mk (h : a) (x : α) (hp : P x) (hq : Q x)
inductive Ex3 {α : Type} (P Q R : α→Prop) : Prop
 | mk (x : α) (hp : P x) (hq : Q x) (hr : R x)
inductive And3 (a b c : Prop) : Prop
 | mk (h1 : a) (h2 : b) (h3 : c)
structure TS where
 keys : List Int
 np : Int→Int
 sc : Int→List Int
 ready : Option (List Int)
 pass : Int
 fin : Int
noncomputable def TS.new : TS := ⟨[],fun _ => 0,fun _ => [],none,0,0⟩
noncomputable def upd {α : Type} (f : Int→α) (k : Int) (v : α) : Int→α := fun x => if x = k then v else f x
theorem upd_same {α : Type} {f : Int→α} {k : Int} {v : α} : upd f k v k = v := by simp [upd]
theorem upd_ne {α : Type} {f : Int→α} {k x : Int} {v : α} (h : x≠k) : upd f k v x = f x := by simp [upd,h]
noncomputable def TS.touch (T : TS) (k : Int) : TS := if k ∈ T.keys then T else { T with keys := T.keys ++ [k],np := upd T.np k 0,sc := upd T.sc k [] }
noncomputable def TS.setNp (T : TS) (k v : Int) : TS := { T with np := upd T.np k v }
noncomputable def TS.link (T : TS) (p k : Int) : TS := { T with sc := upd T.sc p (T.sc p ++ [k]) }
noncomputable def TS.add (T : TS) (k : Int) (ps : List Int) : TS :=
 ps.foldl (fun T p => (T.touch p).link p k) ((T.touch k).setNp k ((T.touch k).np k + ps.length))
noncomputable def TS.prep (T : TS) : TS := { T with ready := some (T.keys.filter fun k => T.np k == 0) }
noncomputable def TS.out (T : TS) (ks : List Int) : TS := ks.foldl (fun T k => T.setNp k (-1)) T
noncomputable def TS.getReady (T : TS) (r : List Int) : TS := { T.out r with ready := some [],pass := T.pass + r.length }
noncomputable def TS.rel (T : TS) (x : Int) : TS := { T.setNp x (T.np x - 1) with ready := if T.np x - 1 = 0 then T.ready.map (· ++ [x]) else T.ready }
noncomputable def TS.done1 (T : TS) (k : Int) : TS := { (T.sc k).foldl TS.rel (T.setNp k (-2)) with fin := T.fin + 1 }
structure Lay where
 d : Addr
 n2i : Addr
 ep : Nat
 rd : Addr
 bA : Int→Addr
 bD : Int→Addr
 bL : Int→Addr
noncomputable def rdV (T : TS) (L : Lay) : V := match T.ready with | none => V.none | some _ => .ref L.rd
structure TSR (H : CH) (a : Addr) (T : TS) (L : Lay) : Prop where
 top : H a = some (.inst cTS L.d [])
 dict : H L.d = some (.idict [("_node2info",.ref L.n2i),("_ready_nodes",rdV T L),("_npassedout",.int T.pass),("_nfinished",.int T.fin)])
 n2i : H L.n2i = some (.dict (T.keys.map fun k => (k,.ref (L.bA k))) L.ep)
 rdy : ∀ r,T.ready = some r→H L.rd = some (.list (r.map .int))
 node : ∀ k ∈ T.keys,H (L.bA k) = some (niObj (L.bD k) (L.bL k) (T.np k) k)
 nd : ∀ k ∈ T.keys,H (L.bD k) = some (.idict [])
 succ : ∀ k ∈ T.keys,H (L.bL k) = some (.list ((T.sc k).map .int))
 inj : ∀ k ∈ T.keys,∀ k' ∈ T.keys,L.bL k = L.bL k'→k = k'
 rdn : ∀ k ∈ T.keys,T.ready≠none→L.bL k≠L.rd
 nodup : T.keys.Nodup
noncomputable def Foot (a : Addr) (T : TS) (L : Lay) (b : Addr) : Prop := b = a∨b = L.d∨b = L.n2i∨(T.ready≠none∧b = L.rd)∨∃ k ∈ T.keys,b = L.bA k∨b = L.bD k∨b = L.bL k
noncomputable def FrameT (a : Addr) (H : CH) (T : TS) (L : Lay) (H' : CH) (T' : TS) (L' : Lay) : Prop := ∀ b,H b≠none→¬ Foot a T L b→H' b = H b∧¬ Foot a T' L' b
theorem FrameT.refl {a : Addr} {H : CH} {T : TS} {L : Lay} : FrameT a H T L H T L := fun _ _ h => ⟨rfl,h⟩
theorem FrameT.trans {a : Addr} {H H' H'' : CH} {T T' T'' : TS} {L L' L'' : Lay} (x : FrameT a H T L H' T' L') (y : FrameT a H' T' L' H'' T'' L'') : FrameT a H T L H'' T'' L'' := fun b hb hn => by
 obtain ⟨h1,h2⟩ := x b hb hn
 obtain ⟨h3,h4⟩ := y b (by refine rE h1 ?_; exact hb) h2
 exact ⟨h3.trans h1,h4⟩
theorem set_other {H : CH} {a b : Addr} {c : CObj} {x y : CObj} (ha : H a = some x) (hb : H b = some y) (hxy : x≠y) : H.set a c b = some y := by
 refine rE (CH.set_ne (fun e => hxy (by rw [e,ha] at hb; exact Option.some.inj hb))) ?_; exact hb
theorem ni_inj {d l d' l' : Addr} {np np' k k' : Int} (h : niObj d l np k = niObj d' l' np' k') : k = k' := by
 injection h with h1 h2 h3
 simp at h3; exact h3.1
section
variable {H : CH} {a : Addr} {T : TS} {L : Lay}
theorem TSR.setNp (R : TSR H a T L) {k : Int} (hk : k ∈ T.keys) (v : Int) : TSR (H.set (L.bA k) (niObj (L.bD k) (L.bL k) v k)) a (T.setNp k v) L∧FrameT a H T L (H.set (L.bA k) (niObj (L.bD k) (L.bL k) v k)) (T.setNp k v) L := by
 have hn := R.node k hk
 refine ⟨⟨?_,?_,?_,?_,?_,?_,?_,R.inj,R.rdn,R.nodup⟩,fun b hb hf => ⟨CH.set_ne fun e => hf (.inr (.inr (.inr (.inr ⟨k,hk,.inl e⟩)))),hf⟩⟩
 ·exact set_other hn R.top (by intro e; cases e)
 ·exact set_other hn R.dict (by intro e; cases e)
 ·exact set_other hn R.n2i (by intro e; cases e)
 ·exact fun r hr => set_other hn (R.rdy r hr) (by intro e; cases e)
 ·intro k' hk'
  by_cases h : k' = k
  ·subst h; show CH.set _ _ _ _ = some (niObj _ _ (upd T.np k' v k') k'); refine rE CH.set_same (rE upd_same rfl)
  ·show CH.set _ _ _ _ = some (niObj _ _ (upd T.np k v k') k')
   refine rE (upd_ne h) ?_
   exact set_other hn (R.node k' hk') (fun e => h (ni_inj e).symm)
 ·exact fun k' hk' => set_other hn (R.nd k' hk') (by intro e; cases e)
 ·exact fun k' hk' => set_other hn (R.succ k' hk') (by intro e; cases e)
theorem TSR.setSc (R : TSR H a T L) {k : Int} (hk : k ∈ T.keys) (l : List Int) : TSR (H.set (L.bL k) (.list (l.map .int))) a { T with sc := upd T.sc k l } L∧FrameT a H T L (H.set (L.bL k) (.list (l.map .int))) { T with sc := upd T.sc k l } L := by
 have hn := R.succ k hk
 refine ⟨⟨?_,?_,?_,?_,?_,?_,?_,R.inj,R.rdn,R.nodup⟩,fun b hb hf => ⟨CH.set_ne fun e => hf (.inr (.inr (.inr (.inr ⟨k,hk,.inr (.inr e)⟩)))),hf⟩⟩
 ·exact set_other hn R.top (by intro e; cases e)
 ·exact set_other hn R.dict (by intro e; cases e)
 ·exact set_other hn R.n2i (by intro e; cases e)
 ·intro r hr
  refine rE (CH.set_ne (Ne.symm (R.rdn k hk (by rw [show T.ready = some r from hr]; simp)))) ?_; exact R.rdy r hr
 ·exact fun k' hk' => set_other hn (R.node k' hk') (by intro e; cases e)
 ·exact fun k' hk' => set_other hn (R.nd k' hk') (by intro e; cases e)
 ·intro k' hk'
  by_cases h : k' = k
  ·subst h; show CH.set _ _ _ _ = some (.list ((upd T.sc k' l k').map .int)); refine rE CH.set_same (rE upd_same rfl)
  ·show CH.set _ _ _ _ = some (.list ((upd T.sc k l k').map .int))
   refine rE (upd_ne h) (rE (CH.set_ne (fun e => h (R.inj _ hk' _ hk e))) ?_); exact R.succ k' hk'
theorem TSR.setRd (R : TSR H a T L) {r : List Int} (hr : T.ready = some r) (l : List Int) : TSR (H.set L.rd (.list (l.map .int))) a { T with ready := some l } L∧FrameT a H T L (H.set L.rd (.list (l.map .int))) { T with ready := some l } L := by
 have hn := R.rdy r hr
 have hne : T.ready≠none := by refine rE hr ?_; simp
 refine ⟨⟨?_,?_,?_,?_,?_,?_,?_,R.inj,fun k hk _ => R.rdn k hk hne,R.nodup⟩,fun b hb hf => ⟨CH.set_ne fun e => hf (.inr (.inr (.inr (.inl ⟨hne,e⟩)))),fun h => hf ?_⟩⟩
 ·exact set_other hn R.top (by intro e; cases e)
 ·have : rdV { T with ready := some l } L = rdV T L := by unfold rdV; refine rE hr rfl
  show CH.set _ _ _ _ = some (.idict [_,("_ready_nodes",rdV { T with ready := some l } L),_,_])
  refine rE this ?_; exact set_other hn R.dict (by intro e; cases e)
 ·exact set_other hn R.n2i (by intro e; cases e)
 ·intro r' hr'; cases hr'; exact CH.set_same
 ·exact fun k' hk' => set_other hn (R.node k' hk') (by intro e; cases e)
 ·exact fun k' hk' => set_other hn (R.nd k' hk') (by intro e; cases e)
 ·intro k' hk'
  refine rE (CH.set_ne (R.rdn k' hk' hne)) ?_; exact R.succ k' hk'
 ·rcases h with h | h | h | h | h
  ·exact .inl h
  ·exact .inr (.inl h)
  ·exact .inr (.inr (.inl h))
  ·exact .inr (.inr (.inr (.inl ⟨hne,h.2⟩)))
  ·exact .inr (.inr (.inr (.inr h)))
theorem TSR.setNums (R : TSR H a T L) (p f : Int) : TSR (H.set L.d (.idict [("_node2info",.ref L.n2i),("_ready_nodes",rdV T L),("_npassedout",.int p),("_nfinished",.int f)])) a { T with pass := p,fin := f } L ∧
  FrameT a H T L (H.set L.d (.idict [("_node2info",.ref L.n2i),("_ready_nodes",rdV T L),("_npassedout",.int p),("_nfinished",.int f)])) { T with pass := p,fin := f } L := by
 have hn := R.dict
 refine ⟨⟨?_,CH.set_same,?_,?_,?_,?_,?_,R.inj,R.rdn,R.nodup⟩,fun b hb hf => ⟨CH.set_ne fun e => hf (.inr (.inl e)),hf⟩⟩
 ·exact set_other hn R.top (by intro e; cases e)
 ·exact set_other hn R.n2i (by intro e; cases e)
 ·exact fun r hr => set_other hn (R.rdy r hr) (by intro e; cases e)
 ·exact fun k' hk' => set_other hn (R.node k' hk') (by intro e; cases e)
 ·exact fun k' hk' => set_other hn (R.nd k' hk') (by intro e; simp at e)
 ·exact fun k' hk' => set_other hn (R.succ k' hk') (by intro e; cases e)
theorem TSR.setSome (R : TSR H a T L) {r : Addr} (hr : H r = none) (hready : T.ready = none) (l : List Int) : TSR ((H.set r (.list (l.map .int))).set L.d (.idict [("_node2info",.ref L.n2i),("_ready_nodes",.ref r),("_npassedout",.int T.pass),("_nfinished",.int T.fin)])) a { T with ready := some l } { L with rd := r } ∧
  FrameT a H T L ((H.set r (.list (l.map .int))).set L.d (.idict [("_node2info",.ref L.n2i),("_ready_nodes",.ref r),("_npassedout",.int T.pass),("_nfinished",.int T.fin)])) { T with ready := some l } { L with rd := r } := by
 have hn := R.dict
 have low : ∀ {b : Addr} {c : CObj},H b = some c→H.set r (.list (l.map .int)) b = some c := fun {b c} h => by refine rE (CH.set_ne ((ne_at h hr))) ?_; exact h
 have hn' := low hn
 refine ⟨⟨?_,CH.set_same,?_,?_,?_,?_,?_,R.inj,?_,R.nodup⟩,fun b hb hf => ⟨?_,fun h => hf ?_⟩⟩
 ·exact set_other hn' (low R.top) (by intro e; cases e)
 ·exact set_other hn' (low R.n2i) (by intro e; cases e)
 ·intro r' hr'
  cases hr'
  show CH.set _ _ _ r = _
  refine rE (CH.set_ne (ne_at hr hn)) (rE CH.set_same rfl)
 ·exact fun k' hk' => set_other hn' (low (R.node k' hk')) (by intro e; cases e)
 ·exact fun k' hk' => set_other hn' (low (R.nd k' hk')) (by intro e; simp at e)
 ·exact fun k' hk' => set_other hn' (low (R.succ k' hk')) (by intro e; cases e)
 ·intro k hk _ e
  have h := R.succ k hk
  have e' : L.bL k = r := e
  rw [e',hr] at h; cases h
 ·refine rE (CH.set_ne (fun e => hf (.inr (.inl e)))) (rE (CH.set_ne (fun e => by rw [e,hr] at hb; exact hb rfl)) rfl)
 ·rcases h with h | h | h | h | h
  ·exact .inl h
  ·exact .inr (.inl h)
  ·exact .inr (.inr (.inl h))
  ·exact absurd h.2 (fun e => by rw [e] at hb; exact hb hr)
  ·exact .inr (.inr (.inr (.inr h)))
theorem putI_new {kvs : List (Int × V)} {k : Int} {v : V} (h : k ∉ kvs.map (·.1)) : putI kvs k v = kvs ++ [(k,v)] := by
 unfold putI
 rw [if_neg]
 intro e
 rw [List.any_eq_true] at e
 refine eEA e fun p hp hk => ?_
 exact h (List.mem_map.mpr ⟨p,hp,by exact PyProof.Rows.bi_ieq.mp hk⟩)
theorem TSR.addKey (R : TSR H a T L) {k : Int} (hk : k ∉ T.keys) {x d l : Addr} {H' : CH} {ep : Nat} (hx : H x = none) (hd : H d = none) (hl : H l = none) (h1 : H' x = some (niObj d l 0 k)) (h2 : H' d = some (.idict [])) (h3 : H' l = some (.list [])) (hxd : x≠d) (hxl : x≠l) (hdl : d≠l) (h4 : ∀ b,b≠x→b≠d→b≠l→H' b = H b) :
  TSR (H'.set L.n2i (.dict (putI (T.keys.map fun k => (k,.ref (L.bA k))) k (.ref x)) ep)) a { T with keys := T.keys ++ [k],np := upd T.np k 0,sc := upd T.sc k [] } { L with ep := ep,bA := upd L.bA k x,bD := upd L.bD k d,bL := upd L.bL k l } ∧
  FrameT a H T L (H'.set L.n2i (.dict (putI (T.keys.map fun k => (k,.ref (L.bA k))) k (.ref x)) ep)) { T with keys := T.keys ++ [k],np := upd T.np k 0,sc := upd T.sc k [] } { L with ep := ep,bA := upd L.bA k x,bD := upd L.bD k d,bL := upd L.bL k l } := by
 have low : ∀ {b : Addr} {c : CObj},H b = some c→H' b = some c := fun {b c} h => by
  refine rE (h4 b ((ne_at h hx)) ((ne_at h hd)) ((ne_at h hl))) ?_; exact h
 have hn := low R.n2i
 have hput : putI (T.keys.map fun k => (k,V.ref (L.bA k))) k (.ref x) = (T.keys ++ [k]).map fun k' => (k',V.ref (upd L.bA k x k')) := by
  refine rE (putI_new (by rw [List.map_map]; simpa using hk)) (rE List.map_append ?_)
  congr 1
  ·refine List.map_congr_left fun k' hk' => ?_
   refine rE (upd_ne (fun e => hk (by rw [← e]; exact hk'))) rfl
  ·simp [upd]
 have ne : ∀ k' ∈ T.keys,k'≠k := fun k' hk' e => hk (e ▸ hk')
 refine ⟨⟨?_,?_,?_,?_,?_,?_,?_,?_,?_,?_⟩,fun b hb hf => ⟨?_,fun h => hf ?_⟩⟩
 ·exact set_other hn (low R.top) (by intro e; cases e)
 ·exact set_other hn (low R.dict) (by intro e; cases e)
 ·refine rE hput ?_; exact CH.set_same
 ·exact fun r hr => set_other hn (low (R.rdy r hr)) (by intro e; cases e)
 ·intro k' hk'
  rcases List.mem_append.mp hk' with hk' | hk'
  ·show CH.set _ _ _ (upd L.bA k x k') = some (niObj (upd L.bD k d k') (upd L.bL k l k') (upd T.np k 0 k') k')
   refine rE (upd_ne (ne k' hk')) (rE (upd_ne (ne k' hk')) (rE (upd_ne (ne k' hk')) (rE (upd_ne (ne k' hk')) ?_)))
   exact set_other hn (low (R.node k' hk')) (by intro e; cases e)
  ·obtain rfl := List.mem_singleton.mp hk'
   show CH.set _ _ _ (upd L.bA k' x k') = some (niObj (upd L.bD k' d k') (upd L.bL k' l k') (upd T.np k' 0 k') k')
   refine rE upd_same (rE upd_same (rE upd_same (rE upd_same ?_)))
   exact set_other hn h1 (by intro e; cases e)
 ·intro k' hk'
  rcases List.mem_append.mp hk' with hk' | hk'
  ·show CH.set _ _ _ (upd L.bD k d k') = _
   refine rE (upd_ne (ne k' hk')) ?_
   exact set_other hn (low (R.nd k' hk')) (by intro e; cases e)
  ·obtain rfl := List.mem_singleton.mp hk'
   show CH.set _ _ _ (upd L.bD k' d k') = _
   refine rE upd_same ?_
   exact set_other hn h2 (by intro e; cases e)
 ·intro k' hk'
  rcases List.mem_append.mp hk' with hk' | hk'
  ·show CH.set _ _ _ (upd L.bL k l k') = some (.list ((upd T.sc k [] k').map .int))
   refine rE (upd_ne (ne k' hk')) (rE (upd_ne (ne k' hk')) ?_)
   exact set_other hn (low (R.succ k' hk')) (by intro e; cases e)
  ·obtain rfl := List.mem_singleton.mp hk'
   show CH.set _ _ _ (upd L.bL k' l k') = some (.list ((upd T.sc k' [] k').map .int))
   refine rE upd_same (rE upd_same ?_)
   exact set_other hn h3 (by intro e; cases e)
 ·intro k₁ hk₁ k₂ hk₂ e
  have e : upd L.bL k l k₁ = upd L.bL k l k₂ := e
  have fresh : ∀ k' ∈ T.keys,L.bL k'≠l := fun k' hk' => ne_at (R.succ k' hk') hl
  rcases List.mem_append.mp hk₁ with g₁ | g₁ <;> rcases List.mem_append.mp hk₂ with g₂ | g₂
  ·rw [upd_ne (ne _ g₁),upd_ne (ne _ g₂)] at e; exact R.inj _ g₁ _ g₂ e
  ·have q := List.mem_singleton.mp g₂
   rw [upd_ne (ne _ g₁),q,upd_same] at e; exact absurd e (fresh _ g₁)
  ·have q := List.mem_singleton.mp g₁
   rw [upd_ne (ne _ g₂),q,upd_same] at e; exact absurd e.symm (fresh _ g₂)
  ·refine rE (List.mem_singleton.mp g₁) (rE (List.mem_singleton.mp g₂) rfl)
 ·intro k' hk' hr e
  have e : upd L.bL k l k' = L.rd := e
  rcases List.mem_append.mp hk' with hk' | hk'
  ·rw [upd_ne (ne _ hk')] at e; exact R.rdn _ hk' hr e
  ·obtain rfl := List.mem_singleton.mp hk'
   rw [upd_same] at e
   refine eE (Option.ne_none_iff_exists'.mp hr) fun r hr' => ?_
   have := R.rdy r hr'
   rw [← e,hl] at this; cases this
 ·rw [List.nodup_append]
  exact ⟨R.nodup,by simp,fun p hp q hq => by refine rE (List.mem_singleton.mp hq) ?_; exact ne p hp⟩
 ·refine rE (CH.set_ne (fun e => hf (.inr (.inr (.inl e))))) (rE (h4 b (fun e => hb (e ▸ hx)) (fun e => hb (e ▸ hd)) (fun e => hb (e ▸ hl))) rfl)
 ·rcases h with h | h | h | h | ⟨k',hk',h⟩
  ·exact .inl h
  ·exact .inr (.inl h)
  ·exact .inr (.inr (.inl h))
  ·exact .inr (.inr (.inr (.inl h)))
  ·rcases List.mem_append.mp hk' with hk' | hk'
   ·refine .inr (.inr (.inr (.inr ⟨k',hk',?_⟩)))
    have h : b = upd L.bA k x k'∨b = upd L.bD k d k'∨b = upd L.bL k l k' := h
    rw [upd_ne (ne _ hk'),upd_ne (ne _ hk'),upd_ne (ne _ hk')] at h; exact h
   ·obtain rfl := List.mem_singleton.mp hk'
    have h : b = upd L.bA k' x k'∨b = upd L.bD k' d k'∨b = upd L.bL k' l k' := h
    rw [upd_same,upd_same,upd_same] at h
    rcases h with rfl | rfl | rfl
    ·exact absurd hx hb
    ·exact absurd hd hb
    ·exact absurd hl hb
end
end
section
section
variable {C : Cx} {A : Around} {m : Loc} {H : CH} {s : Shared} {mg mb : Str→Option Value} {P : Params}
theorem spec_TSinit {x d : Addr} (B : Bs C.h₀ (KK P) mg mb) {n : Nat} (hA : AOK C A (n + 1)) (hx : H x = some (.inst cTS d [])) (hd : H d = some (.idict [])) :
  CALL C A (.con (.ref a_TSinit)) [.ref x] [] H fun v H' => v = V.none∧∃ n,H n = none∧H' = (H.set n (.dict [] 0)).set d (.idict [("_node2info",.ref n),("_ready_nodes",V.none),("_npassedout",.int 0),("_nfinished",.int 0)]) := by
 have hxd : x≠d := ne_at hx hd
 refine CALL_KW B (by with_unfolding_all rfl) (by with_unfolding_all rfl) hA (binds := [("self",.ref x),("graph",V.none)]) (.dflt (T := 93) (items := [.none]) (n := 0) B (by with_unfolding_all rfl) fun h rs hv => ?_) (by with_unfolding_all rfl) rfl fun L hL hL0 hA' => ?_
 ·refine eEA (one_inv hv) fun a zz1 ha => ?_; subst zz1
  exact ⟨_,[("self",a),("graph",.none)],by with_unfolding_all rfl,by with_unfolding_all rfl,rfl,.cons ha (.cons .con .nil)⟩
 repeat walk_at "x"
 refine EV_dict fun n hn hn0 => ?_
 have hxn : x≠n := ne_at hx hn
 have hdn : d≠n := ne_at hd hn
 repeat walk_at "x"
 refine SA_own B (by refine rE (CH.set_ne hxn) ?_; exact hx) (by refine rE (CH.set_ne hdn) ?_; exact hd) (by first | with_unfolding_all exact (by decide : (0:Nat) < 1000) | with_unfolding_all exact (by decide : (1:Nat) < 1000) | with_unfolding_all exact (by decide : (2:Nat) < 1000) | with_unfolding_all exact (by decide : (3:Nat) < 1000) | with_unfolding_all exact (by decide : (4:Nat) < 1000)) ?_
 repeat walk_at "x"
 refine SA_own B (by refine rE (CH.set_ne hxd) (rE (CH.set_ne hxn) ?_); exact hx) CH.set_same (by first | with_unfolding_all exact (by decide : (0:Nat) < 1000) | with_unfolding_all exact (by decide : (1:Nat) < 1000) | with_unfolding_all exact (by decide : (2:Nat) < 1000) | with_unfolding_all exact (by decide : (3:Nat) < 1000) | with_unfolding_all exact (by decide : (4:Nat) < 1000)) ?_
 refine rE CH.set_set ?_
 repeat walk_at "x"
 refine SA_own B (by refine rE (CH.set_ne hxd) (rE (CH.set_ne hxn) ?_); exact hx) CH.set_same (by first | with_unfolding_all exact (by decide : (0:Nat) < 1000) | with_unfolding_all exact (by decide : (1:Nat) < 1000) | with_unfolding_all exact (by decide : (2:Nat) < 1000) | with_unfolding_all exact (by decide : (3:Nat) < 1000) | with_unfolding_all exact (by decide : (4:Nat) < 1000)) ?_
 refine rE CH.set_set ?_
 repeat walk_at "x"
 refine SA_own B (by refine rE (CH.set_ne hxd) (rE (CH.set_ne hxn) ?_); exact hx) CH.set_same (by first | with_unfolding_all exact (by decide : (0:Nat) < 1000) | with_unfolding_all exact (by decide : (1:Nat) < 1000) | with_unfolding_all exact (by decide : (2:Nat) < 1000) | with_unfolding_all exact (by decide : (3:Nat) < 1000) | with_unfolding_all exact (by decide : (4:Nat) < 1000)) ?_
 refine rE CH.set_set ?_
 repeat walk_at "x"
 walk_at "xi"
 refine ⟨_,rfl,fun q => (by cases q),fun _ => ?_⟩
 repeat walk_at "x"
 exact ⟨rfl,n,hn,rfl⟩
theorem spec_makeTS (B : Bs C.h₀ (KK P) mg mb) {n : Nat} (hA : AOK C A (n + 2)) :
  CALL C A (.con (.ref cTS)) [] [] H fun v H' => ∃ a L,v = .ref a∧TSR H' a .new L∧∀ b,H b≠none→H' b = H b∧¬ Foot a .new L b := by
 refine CALL_make B k_makeTS fun x d rest kw hx hd hx0 hd0 hxd => ?_
 refine (spec_TSinit B hA.under CH.set_same (by refine rE (CH.set_ne (Ne.symm hxd)) ?_; exact CH.set_same)).mono ?_
 rintro v H' ⟨rfl,n,hn,rfl⟩
 have hnx : n≠x := ne_at hn CH.set_same
 have hnd : n≠d := ne_at hn ((CH.set_ne (Ne.symm hxd)).trans CH.set_same)
 have hn0 : H n = none := by rw [CH.set_ne hnx,CH.set_ne hnd] at hn; exact hn
 refine ⟨rfl,x,⟨d,n,0,0,fun _ => 0,fun _ => 0,fun _ => 0⟩,rfl,⟨?_,CH.set_same,?_,(by intro _ h; cases h),(by intro _ h; cases h),(by intro _ h; cases h),(by intro _ h; cases h),(by intro _ h; cases h),(by intro _ h; cases h),.nil⟩,fun b hb => ⟨?_,fun h => ?_⟩⟩
 ·refine rE (CH.set_ne hxd) (rE (CH.set_ne (Ne.symm hnx)) (rE CH.set_same rfl))
 ·show CH.set _ _ _ n = _
  refine rE (CH.set_ne hnd) (rE CH.set_same ?_); rfl
 ·have h1 : b≠d := fun e => hb (e ▸ hd)
  have h2 : b≠n := fun e => hb (e ▸ hn0)
  have h3 : b≠x := fun e => hb (e ▸ hx)
  refine rE (CH.set_ne h1) (rE (CH.set_ne h2) (rE (CH.set_ne h3) (rE (CH.set_ne h1) rfl)))
 ·rcases h with h | h | h | h | ⟨k,hk,_⟩
  ·exact hb (h ▸ hx)
  ·exact hb (h ▸ hd)
  ·exact hb (h ▸ hn0)
  ·exact h.1 rfl
  ·cases hk
theorem look_keys {keys : List Int} {f : Int→Addr} {k : Int} (h : k ∈ keys) : (keys.map fun k => (k,V.ref (f k))).lookup k = some (.ref (f k)) := by
 induction keys with
 | nil => cases h
 | cons a r ih =>
  refine rE List.map_cons (rE List.lookup_cons ?_)
  by_cases e : k = a
  ·subst e; simp
  ·refine rE (beq_eq_false_iff_ne.mpr e) ?_; exact ih ((List.mem_cons.mp h).resolve_left e)
theorem look_keys_none {keys : List Int} {f : Int→Addr} {k : Int} (h : k ∉ keys) : (keys.map fun k => (k,V.ref (f k))).lookup k = none := by
 induction keys with
 | nil => rfl
 | cons a r ih =>
  refine rE List.map_cons (rE List.lookup_cons ?_)
  have e : k≠a := fun e => h (e ▸ List.mem_cons_self)
  refine rE (beq_eq_false_iff_ne.mpr e) ?_; exact ih fun q => h (List.mem_cons_of_mem _ q)
theorem spec_getinfo {a : Addr} {T : TS} {L : Lay} {k : Int} (B : Bs C.h₀ (KK P) mg mb) {n : Nat} (hA : AOK C A (n + 3)) (R : TSR H a T L) (hz : T.keys.length < sizeLine) :
  CALL C A (.con (.ref a_getinfo)) [.ref a,.int k] [] H fun v H' => Ex3 (fun L' => TSR H' a (T.touch k) L') (fun L' => FrameT a H T L H' (T.touch k) L') fun L' => v = .ref (L'.bA k) := by
 refine CALL_hide fun R0 hR0 => ?_
 refine CALL_K B (by with_unfolding_all rfl) (by with_unfolding_all rfl) hA .pos2 (by with_unfolding_all rfl) rfl fun LL hL hL0 hA' => ?_
 walk_at "xi"
 refine GA_own B R.top R.dict rfl ?_
 refine GM_dict R.n2i F.slot_dict_get F.type_dict_get ?_
 repeat walk_at "x"
 by_cases hk : k ∈ T.keys
 ·refine ⟨KP_built,CV_get B R.n2i ?_⟩
  refine rE (look_keys hk) ?_
  repeat walk_at "x"
  refine ⟨_,rfl,fun q => (by cases q),fun _ => ?_⟩
  repeat walk_at "x"
  have e : T.touch k = T := by unfold TS.touch; refine rE (if_pos hk) rfl
  exact hR0 _ _ (by refine rE e ?_; exact ⟨L,R,.refl,rfl⟩)
 ·refine ⟨KP_built,CV_get B R.n2i ?_⟩
  refine rE (look_keys_none hk) ?_
  repeat walk_at "x"
  refine ⟨_,rfl,fun _ => ?_,fun q => (by cases q)⟩
  have e : T.touch k = { T with keys := T.keys ++ [k],np := upd T.np k 0,sc := upd T.sc k [] } := by unfold TS.touch; refine rE (if_neg hk) rfl
  refine EX_cons (st := .Assign _ _ _) (ES_assign2 ?_)
  repeat walk_at "x"
  refine EV_g B g_NI ?_
  repeat walk_at "x"
  refine ⟨KP_cls B k_keepNI,CV_of ((spec_makeNI (by exact B) hA').mono ?_)⟩
  rintro v H' ⟨x,d,l,rfl,hx,hd,hl,hxd,hxl,hdl,h1,h2,h3,h4⟩
  have low : ∀ {b : Addr} {c : CObj},H b = some c→H' b = some c := fun {b c} h => by
   refine rE (h4 b ((ne_at h hx)) ((ne_at h hd)) ((ne_at h hl))) ?_; exact h
  repeat walk_at "x"
  refine GA_own B (low R.top) (low R.dict) rfl ?_
  repeat walk_at "x"
  refine set_dict (low R.n2i) (by refine rE (List.length_map ..) ?_; exact Nat.le_of_lt hz) fun ep => ?_
  repeat walk_at "x"
  refine eA (R.addKey (ep := ep) hk hx hd hl h1 h2 h3 hxd hxl hdl h4) fun R' F' => ?_
  exact hR0 _ _ (by refine rE e ?_; exact ⟨_,R',F',by show V.ref x = V.ref (upd L.bA k x k); refine rE upd_same rfl⟩)
end
end
section
theorem g_len2 {P : Params} : nsIn (KK P) mainGlobals "len" = some none := by kernel_rfl
theorem g_out {P : Params} : nsIn (KK P) mainGlobals "_NODE_OUT" = some (some (.int (-1) 241)) := by kernel_rfl
theorem g_dn {P : Params} : nsIn (KK P) mainGlobals "_NODE_DONE" = some (some (.int (-2) 244)) := by kernel_rfl
theorem g_tuple {P : Params} : nsIn (KK P) mainGlobals "tuple" = some none := by kernel_rfl
theorem b_tuple : bootBuiltins "tuple" = some (.type "tuple") := by kernel_rfl
theorem g_bool {P : Params} : nsIn (KK P) mainGlobals "bool" = some none := by kernel_rfl
theorem b_bool : bootBuiltins "bool" = some (.type "bool") := by kernel_rfl
structure TS.Le (T : TS) (n : Nat) : Prop where
 keys : T.keys.length≤n
 sc : ∀ k,(T.sc k).length≤n
theorem TS.Le.mono {T : TS} {n k : Nat} (h : T.Le n) (q : n≤k) : T.Le k := ⟨Nat.le_trans h.keys q,fun x => Nat.le_trans (h.sc x) q⟩
theorem TS.Le.touch {T : TS} {n : Nat} (h : T.Le n) (k : Int) : (T.touch k).Le (n + 1) := by
 unfold TS.touch
 split
 ·exact h.mono (Nat.le_succ n)
 ·refine ⟨by simp; exact h.keys,fun x => ?_⟩
  show (upd T.sc k [] x).length≤_
  unfold upd; split
  ·simp
  ·exact Nat.le_succ_of_le (h.sc x)
theorem TS.Le.setNp {T : TS} {n : Nat} (h : T.Le n) (k v : Int) : (T.setNp k v).Le n := ⟨h.keys,h.sc⟩
theorem TS.Le.link {T : TS} {n : Nat} (h : T.Le n) (p k : Int) : (T.link p k).Le (n + 1) := by
 refine ⟨Nat.le_succ_of_le h.keys,fun x => ?_⟩
 show (upd T.sc p (T.sc p ++ [k]) x).length≤_
 unfold upd; split
 ·simp; exact h.sc p
 ·exact Nat.le_succ_of_le (h.sc x)
theorem touch_mem {T : TS} {k : Int} : k ∈ (T.touch k).keys := by
 unfold TS.touch; split
 ·assumption
 ·simp
noncomputable abbrev addStep (k : Int) (T : TS) (p : Int) : TS := (T.touch p).link p k
theorem add_le {k : Int} : ∀ {ps : List Int} {T : TS} {n : Nat},T.Le n→(ps.foldl (addStep k) T).Le (n + 2 * ps.length)
 | [],T,n,h => h
 | p :: ps,T,n,h => by
  have := add_le (k := k) (ps := ps) ((h.touch p).link p k)
  refine rE List.foldl_cons ?_
  exact this.mono (by simp; lia)
theorem take_fold {α β : Type} {f : β→α→β} {T : β} {l : List α} {i : Nat} {x : α} (h : l[i]? = some x) : (l.take (i + 1)).foldl f T = f ((l.take i).foldl f T) x := by
 refine rE List.take_add_one (rE h (rE List.foldl_append ?_)); rfl
section
variable {C : Cx} {A : Around} {m : Loc} {H : CH} {s : Shared} {mg mb : Str→Option Value} {P : Params} {a : Addr} {T : TS} {L : Lay}
inductive AddI (a : Addr) (H : CH) (T : TS) (L : Lay) (T' : TS) (H' : CH) : Prop
 | mk (L' : Lay) (R : TSR H' a T' L') (F : FrameT a H T L H' T' L')
theorem spec_add {k : Int} {ps : List Int} {N : Nat} (B : Bs C.h₀ (KK P) mg mb) {n : Nat} (hA : AOK C A (n + 4)) (R : TSR H a T L) (hr : T.ready = none) (hle : T.Le N) (hN : N + 2 * ps.length + 2 < sizeLine) :
  CALL C A (.con (.ref a_add)) (.ref a :: .int k :: ps.map .int) [] H fun v H' => AEx2 (v = V.none) (fun L' => TSR H' a (T.add k ps) L') fun L' => FrameT a H T L H' (T.add k ps) L' := by
 have hps : ps.length≤sizeLine := by lia
 refine CALL_hide fun R0 hR0 => ?_
 refine CALL_KW B (by with_unfolding_all rfl) (by with_unfolding_all rfl) hA (.star2 (x := "self") (y := "node") (z := "predecessors") (by refine rE (List.length_map ..) ?_; exact hps) (by intro r q rs; cases rs <;> with_unfolding_all rfl)) (by with_unfolding_all rfl) rfl fun LL hL hL0 hA' => ?_
 walk_at "xi"
 refine GA_own B R.top R.dict rfl ?_ (by kernel_rfl) (by unfold rdV; refine rE hr ?_; rfl)
 repeat walk_at "x"
 refine ⟨_,rfl,fun q => ?_,fun _ => ?_⟩
 ·unfold rdV at q; rw [hr] at q; cases q
 repeat walk_at "x"
 refine GM_inst (f := a_getinfo) B R.top R.dict rfl ?_
 repeat walk_at "x"
 refine ⟨KP_K B (by with_unfolding_all rfl),CV_of ((spec_getinfo (by exact B) hA' R (by have := hle.keys; lia)).mono ?_)⟩
 rintro v H₁ ⟨L₁,R₁,F₁,rfl⟩
 have hkm : k ∈ (T.touch k).keys := touch_mem
 repeat walk_at "x"
 refine GA_slot (p := 69) (i := 1) B (R₁.node k hkm) (R₁.nd k hkm) rfl ?_
 repeat walk_at "x"
 refine EV_b B g_len2 b_len ?_
 repeat walk_at "x"
 refine ⟨KP_built,CV_len_tup (by refine rE (List.length_map ..) ?_; exact hps) ?_⟩
 refine rE (List.length_map ..) ?_
 repeat walk_at "x"
 refine SA_slot (p := 69) (i := 1) B (R₁.node k hkm) (R₁.nd k hkm) ?_
 refine eA (R₁.setNp hkm ((T.touch k).np k + ps.length)) fun R₂ F₂ => ?_
 refine EX_forL (l := ps) (f := V.int) (m0 := [("node",.int k),("self",.ref a)]) (J := fun i H' => AddI a H T L ((ps.take i).foldl (addStep k) ((T.touch k).setNp k ((T.touch k).np k + ps.length))) H') ?_ (fun _ _ _ => trivial) (fun i p hp H' hJ RR hRR => ?_) fun H' hJ => ?_
 ·repeat walk_at "x"
  exact ⟨seq_tup hA'.handled,.cons rfl (.cons rfl .nil),⟨L₁,R₂,F₁.trans F₂⟩⟩
 ·obtain ⟨L',R',F'⟩ := hJ
  have hle0 : ((T.touch k).setNp k ((T.touch k).np k + ps.length)).Le (N + 1) := (hle.touch k).setNp _ _
  have hle' : ((ps.take i).foldl (addStep k) ((T.touch k).setNp k ((T.touch k).np k + ps.length))).Le (N + 1 + 2 * (ps.take i).length) := add_le hle0
  have htl : (ps.take i).length≤ps.length := by refine rE List.length_take ?_; exact Nat.min_le_right i ps.length
  have hil : i < ps.length := (List.getElem?_eq_some_iff.mp hp).1
  have htl2 : (ps.take i).length = i := by refine rE List.length_take ?_; lia
  repeat walk_at "x"
  refine GM_inst (f := a_getinfo) B R'.top R'.dict rfl ?_
  repeat walk_at "x"
  refine ⟨KP_K B (by with_unfolding_all rfl),CV_of ((spec_getinfo (by exact B) hA' R' (by have := hle'.keys; lia)).mono ?_)⟩
  rintro v H₃ ⟨L₃,R₃,F₃,rfl⟩
  have hpm : p ∈ (((ps.take i).foldl (addStep k) ((T.touch k).setNp k ((T.touch k).np k + ps.length))).touch p).keys := touch_mem
  repeat walk_at "x"
  refine GA_slot (p := 70) (i := 2) B (R₃.node p hpm) (R₃.nd p hpm) rfl ?_
  refine GM_list (.own (R₃.succ p hpm)) F.slot_list_append F.type_list_append ?_
  repeat walk_at "x"
  refine ⟨KP_built,CV_append (R₃.succ p hpm) (by refine rE (List.length_map ..) ?_; have := (hle'.touch p).sc p; lia) ?_⟩
  refine eA (R₃.setSc hpm ((((ps.take i).foldl (addStep k) ((T.touch k).setNp k ((T.touch k).np k + ps.length))).touch p).sc p ++ [k])) fun R₄ F₄ => ?_
  repeat walk_at "x"
  refine (hRR _ _ (.cons rfl (.cons rfl .nil)) ⟨L₃,?_,?_⟩).1
  ·refine rE (take_fold hp) ?_
   rw [List.map_append] at R₄
   exact R₄
  ·refine rE (take_fold hp) ?_
   rw [List.map_append] at F₄
   exact (F'.trans F₃).trans F₄
 ·obtain ⟨L',R',F'⟩ := hJ
  repeat walk_at "x"
  rw [List.take_length] at R' F'
  exact hR0 _ _ ⟨rfl,L',R',F'⟩
end
end
section
theorem TS.out_eq {ks : List Int} : ∀ {T : TS},(T.out ks).keys = T.keys∧(T.out ks).ready = T.ready∧(T.out ks).pass = T.pass∧(T.out ks).fin = T.fin∧(T.out ks).sc = T.sc := by
 induction ks with
 | nil => intro T; exact ⟨rfl,rfl,rfl,rfl,rfl⟩
 | cons k r ih => intro T; exact ih (T := T.setNp k (-1))
section
variable {C : Cx} {A : Around} {m : Loc} {H : CH} {s : Shared} {mg mb : Str→Option Value} {P : Params} {a : Addr} {T : TS} {L : Lay}
theorem EV_gi {K : Frag} {Q : V→Loc→CH→Prop} {x : Str} {p : Pos} {i : Int} {t : Nat} (B : Bs C.h₀ K mg mb) (e : nsIn K mainGlobals x = some (some (.int i t))) (h : Q (.int i) m H) (hG : autoParam (C.env.globals = mainGlobals) Mine.syn1)
  (hk : autoParam (C.env.scope.kind = .function) Mine.syn1) (hl : autoParam (C.env.kindOf x = some .globalImplicit) Mine.syn1) (hd : autoParam ((x == ("__debug__" : Str)) = false) Mine.syn4) : EV C A (.Name x p) m H Q := fun s S =>
 Name_function_global hk hl (loadGlobal_global (hG ▸ B.g.keeps S.base) (mg_of B.X B.g e) (.here S .int h)) hd
theorem spec_getready {r : List Int} (B : Bs C.h₀ (KK P) mg mb) {n : Nat} (hA : AOK C A (n + 1)) (R : TSR H a T L) (hr : T.ready = some r) (hk : ∀ k ∈ r,k ∈ T.keys) (hz : r.length≤sizeLine) :
  CALL C A (.con (.ref a_getready)) [.ref a] [] H fun v H' => And3 (v = .tup (r.map .int)) (TSR H' a (T.getReady r) L) (FrameT a H T L H' (T.getReady r) L) := by
 have hv : rdV T L = .ref L.rd := by unfold rdV; refine rE hr rfl
 refine CALL_hide fun R0 hR0 => ?_
 refine CALL_K B (by with_unfolding_all rfl) (by with_unfolding_all rfl) hA .pos1 (by with_unfolding_all rfl) rfl fun LL hL hL0 hA' => ?_
 walk_at "xi"
 refine GA_own B R.top R.dict rfl ?_ (by kernel_rfl) (by refine rE hv ?_; exact trivial)
 refine rE hv ?_
 repeat walk_at "x"
 refine ⟨_,rfl,fun q => (by cases q),fun _ => ?_⟩
 repeat walk_at "x"
 refine EV_b B g_tuple b_tuple ?_
 repeat walk_at "x"
 refine GA_own B R.top R.dict rfl ?_ (by kernel_rfl) (by refine rE hv ?_; exact trivial)
 refine rE hv ?_
 repeat walk_at "x"
 refine ⟨KP_type,CV_tuple_list (.own (R.rdy r hr)) (by refine rE (List.length_map ..) ?_; exact hz) ?_⟩
 repeat walk_at "x"
 refine GA_own B R.top R.dict rfl ?_
 repeat walk_at "x"
 refine EX_forL (l := r) (f := V.int) (m0 := [("n2i",.ref L.n2i),("result",.tup (r.map .int)),("self",.ref a)]) (J := fun i H' => And2 (TSR H' a (T.out (r.take i)) L) (FrameT a H T L H' (T.out (r.take i)) L)) ?_ (fun _ _ _ => trivial) (fun i p hp H' hJ RR hRR => ?_) fun H' hJ => ?_
 ·repeat walk_at "x"
  exact ⟨seq_tup hA'.handled,.cons rfl (.cons rfl (.cons rfl .nil)),⟨R,.refl⟩⟩
 ·obtain ⟨R',F'⟩ := hJ
  have hpk : p ∈ (T.out (r.take i)).keys := by refine rE TS.out_eq.1 ?_; exact hk p (List.mem_of_getElem? hp)
  repeat walk_at "x"
  refine EV_gi B g_out ?_
  repeat walk_at "x"
  refine sub_dict R'.n2i (look_keys hpk) ?_
  repeat walk_at "x"
  refine SA_slot (p := 69) (i := 1) B (R'.node p hpk) (R'.nd p hpk) ?_
  refine eA (R'.setNp hpk (-1)) fun R₂ F₂ => ?_
  repeat walk_at "x"
  refine (hRR _ _ (.cons rfl (.cons rfl (.cons rfl .nil))) ⟨?_,?_⟩).1
  ·unfold TS.out; refine rE (take_fold hp) ?_; exact R₂
  ·unfold TS.out; refine rE (take_fold hp) ?_; exact F'.trans F₂
 ·obtain ⟨R',F'⟩ := hJ
  rw [List.take_length] at R' F'
  have e := @TS.out_eq r T
  have hr' : (T.out r).ready = some r := by refine rE e.2.1 ?_; exact hr
  have hv' : rdV (T.out r) L = .ref L.rd := by unfold rdV; refine rE hr' rfl
  repeat walk_at "x"
  refine GA_own B R'.top R'.dict rfl ?_ (by kernel_rfl) (by refine rE hv' ?_; exact trivial)
  refine rE hv' ?_
  refine GM_list (.own (R'.rdy r hr')) F.slot_list_clear F.type_list_clear ?_
  repeat walk_at "x"
  refine ⟨KP_built,CV_clear (R'.rdy r hr') (by refine rE (List.length_map ..) ?_; exact hz) ?_⟩
  refine eA (R'.setRd hr' []) fun R₂ F₂ => ?_
  repeat walk_at "x"
  refine GA_own B R₂.top R₂.dict rfl ?_
  repeat walk_at "x"
  refine EV_b B g_len2 b_len ?_
  repeat walk_at "x"
  refine ⟨KP_built,CV_len_tup (by refine rE (List.length_map ..) ?_; exact hz) ?_⟩
  refine rE (List.length_map ..) ?_
  repeat walk_at "x"
  refine SA_own B R₂.top R₂.dict (by first | with_unfolding_all exact (by decide : (4:Nat) < 1000)) ?_
  refine eA (R₂.setNums ((T.out r).pass + r.length) (T.out r).fin) fun R₃ F₃ => ?_
  repeat walk_at "x"
  refine hR0 _ _ ?_
  unfold TS.getReady
  refine rF e.2.2.1 ?_
  exact ⟨rfl,R₃,(F'.trans F₂).trans F₃⟩
theorem spec_isactive {r : List Int} (B : Bs C.h₀ (KK P) mg mb) {n : Nat} (hA : AOK C A (n + 1)) (R : TSR H a T L) (hr : T.ready = some r) (hz : r.length≤sizeLine) :
  CALL C A (.con (.ref a_isactive)) [.ref a] [] H fun v H' => v = .bool (decide (T.fin < T.pass) || !r.isEmpty)∧H' = H := by
 have hv : rdV T L = .ref L.rd := by unfold rdV; refine rE hr rfl
 refine CALL_K B (by with_unfolding_all rfl) (by with_unfolding_all rfl) hA .pos1 (by with_unfolding_all rfl) rfl fun LL hL hL0 hA' => ?_
 walk_at "xi"
 refine GA_own B R.top R.dict rfl ?_ (by kernel_rfl) (by refine rE hv ?_; exact trivial)
 refine rE hv ?_
 repeat walk_at "x"
 refine ⟨_,rfl,fun q => (by cases q),fun _ => ?_⟩
 repeat walk_at "x"
 refine GA_own B R.top R.dict rfl ?_
 repeat walk_at "x"
 refine GA_own B R.top R.dict rfl ?_
 repeat walk_at "x"
 refine OB_bool ⟨fun h => ?_,fun h => ?_⟩
 ·repeat walk_at "x"
  exact ⟨by simp [retOf,h],rfl⟩
 ·repeat walk_at "x"
  refine EV_b B g_bool b_bool ?_
  repeat walk_at "x"
  refine GA_own B R.top R.dict rfl ?_ (by kernel_rfl) (by refine rE hv ?_; exact trivial)
  refine rE hv ?_
  repeat walk_at "x"
  refine ⟨KP_type,CV_bool_list (.own (R.rdy r hr)) (by refine rE (List.length_map ..) ?_; exact hz) ?_⟩
  repeat walk_at "x"
  exact ⟨by simp [retOf,h],rfl⟩
end
end
section
theorem rel_eq {l : List Int} : ∀ {T : TS},(l.foldl TS.rel T).keys = T.keys∧(l.foldl TS.rel T).pass = T.pass∧(l.foldl TS.rel T).fin = T.fin∧(l.foldl TS.rel T).sc = T.sc := by
 induction l with
 | nil => intro T; exact ⟨rfl,rfl,rfl,rfl⟩
 | cons k r ih => intro T; exact ih (T := T.rel k)
theorem rel_ready {l : List Int} : ∀ {T : TS} {r : List Int},T.ready = some r→∃ r',(l.foldl TS.rel T).ready = some r'∧r'.length≤r.length + l.length := by
 induction l with
 | nil => intro T r h; exact ⟨r,h,by exact Nat.le_add_right r.length [].length⟩
 | cons k t ih =>
  intro T r h
  have : ∃ r',(T.rel k).ready = some r'∧r'.length≤r.length + 1 := by
   unfold TS.rel
   by_cases e : T.np k - 1 = 0
   ·exact ⟨r ++ [k],by show (if _ then _ else _) = _; refine rE (if_pos e) (rE h ?_); rfl,by simp⟩
   ·exact ⟨r,by show (if _ then _ else _) = _; refine rE (if_neg e) (rE h rfl),by exact Nat.le_add_right r.length 1⟩
  refine eEA this fun r₁ h₁ l₁ => ?_
  refine eEA (ih h₁) fun r₂ h₂ l₂ => ?_
  exact ⟨r₂,h₂,by simp; lia⟩
noncomputable def TS.doneN (T : TS) (ks : List Int) : TS := ks.foldl TS.done1 T
theorem done1_eq {T : TS} {k : Int} : (T.done1 k).keys = T.keys∧(T.done1 k).pass = T.pass∧(T.done1 k).fin = T.fin + 1∧(T.done1 k).sc = T.sc := by
 have := @rel_eq (T.sc k) (T.setNp k (-2))
 exact ⟨this.1,this.2.1,by unfold TS.done1; rfl,this.2.2.2⟩
theorem doneN_eq {ks : List Int} : ∀ {T : TS},(T.doneN ks).keys = T.keys∧(T.doneN ks).pass = T.pass∧(T.doneN ks).fin = T.fin + ks.length∧(T.doneN ks).sc = T.sc := by
 induction ks with
 | nil => intro T; exact ⟨rfl,rfl,by exact PySem.W.kpf_c1 Mine.TS.fin Mine.TS.done1 (fun a ↦ congrFun rfl) T [],rfl⟩
 | cons k r ih =>
  intro T
  have e := @done1_eq T k
  have h := ih (T := T.done1 k)
  unfold TS.doneN at h ⊢
  refine rE List.foldl_cons ?_
  refine ⟨h.1.trans e.1,h.2.1.trans e.2.1,?_,h.2.2.2.trans e.2.2.2⟩
  refine rE h.2.2.1 (rE e.2.2.1 ?_); simp; lia
theorem doneN_ready {M : Nat} {ks : List Int} : ∀ {T : TS} {r : List Int},(∀ k,(T.sc k).length≤M)→T.ready = some r→∃ r',(T.doneN ks).ready = some r'∧r'.length≤r.length + ks.length * M := by
 induction ks with
 | nil => intro T r _ h; exact ⟨r,h,by exact Nat.le_add_right r.length ([].length * M)⟩
 | cons k t ih =>
  intro T r hM h
  obtain ⟨r₁,h₁,l₁⟩ := rel_ready (l := T.sc k) (T := T.setNp k (-2)) h
  obtain ⟨r₂,h₂,l₂⟩ := ih (T := T.done1 k) (r := r₁) (by refine rE done1_eq.2.2.2 ?_; exact hM) h₁
  have := hM k
  refine ⟨r₂,h₂,?_⟩
  refine rE List.length_cons (rE (Nat.succ_mul ..) ?_); lia
section
variable {C : Cx} {A : Around} {m : Loc} {H : CH} {s : Shared} {mg mb : Str→Option Value} {P : Params} {a : Addr} {T : TS} {L : Lay}
theorem TSR.rel (R : TSR H a T L) {r : List Int} (hr : T.ready = some r) {x : Int} (hx : x ∈ T.keys) :
  let H₁ := H.set (L.bA x) (niObj (L.bD x) (L.bL x) (T.np x - 1) x)
  let H₂ := if T.np x - 1 = 0 then H₁.set L.rd (.list ((r ++ [x]).map .int)) else H₁
  TSR H₂ a (T.rel x) L∧FrameT a H T L H₂ (T.rel x) L := by
 intro H₁ H₂
 refine eA (R.setNp hx (T.np x - 1)) fun R₁ F₁ => ?_
 by_cases e : T.np x - 1 = 0
 ·obtain ⟨R₂,F₂⟩ := R₁.setRd hr (r ++ [x])
  have e1 : H₂ = H₁.set L.rd (.list ((r ++ [x]).map .int)) := if_pos e
  have e2 : T.rel x = { T.setNp x (T.np x - 1) with ready := some (r ++ [x]) } := by unfold TS.rel; refine rE (if_pos e) (rE hr ?_); rfl
  refine rE e1 (rE e2 ?_); exact ⟨R₂,F₁.trans F₂⟩
 ·have e1 : H₂ = H₁ := if_neg e
  have e2 : T.rel x = T.setNp x (T.np x - 1) := by unfold TS.rel; refine rE (if_neg e) ?_; rfl
  refine rE e1 (rE e2 ?_); exact ⟨R₁,F₁⟩
inductive DnP (H : CH) (a : Addr) (T : TS) (L : Lay) (ks : List Int) (H' : CH) : Prop
 | mk (R : TSR H' a (T.doneN ks) L) (F : FrameT a H T L H' (T.doneN ks) L)
inductive DnV (H : CH) (a : Addr) (T : TS) (L : Lay) (ns : List Int) (v : V) (H' : CH) : Prop
 | mk (hv : v = V.none) (R : TSR H' a (T.doneN ns) L) (F : FrameT a H T L H' (T.doneN ns) L)
inductive DnJ (H : CH) (a : Addr) (T : TS) (L : Lay) (l : List Int) (T₁ : TS) (j : Nat) (H' : CH) : Prop
 | mk (R : TSR H' a ((l.take j).foldl TS.rel T₁) L) (F : FrameT a H T L H' ((l.take j).foldl TS.rel T₁) L)
set_option maxHeartbeats 4000000 in
theorem spec_done {r : List Int} {ns : List Int} {M : Nat} (B : Bs C.h₀ (KK P) mg mb) {n : Nat} (hA : AOK C A (n + 1)) (R : TSR H a T L) (hr : T.ready = some r) (hk : ∀ i k,ns[i]? = some k→k ∈ T.keys∧(T.doneN (ns.take i)).np k = -1) (hs : ∀ k ∈ T.keys,∀ x ∈ T.sc k,x ∈ T.keys)
  (hM : ∀ k,(T.sc k).length≤M) (hz : r.length + ns.length * M + M≤sizeLine) (hns : ns.length≤sizeLine) :
  CALL C A (.con (.ref a_done)) (.ref a :: ns.map .int) [] H (DnV H a T L ns) := by
 have hv : rdV T L = .ref L.rd := by unfold rdV; refine rE hr rfl
 refine CALL_hide fun R0 hR0 => ?_
 refine CALL_KW B (by with_unfolding_all rfl) (by with_unfolding_all rfl) hA (.star1 (x := "self") (y := "nodes") (by refine rE (List.length_map ..) ?_; exact hns) (by intro r rs; cases rs <;> with_unfolding_all rfl)) (by with_unfolding_all rfl) rfl fun LL hL hL0 hA' => ?_
 walk_at "xi"
 refine GA_own B R.top R.dict rfl ?_ (by kernel_rfl) (by refine rE hv ?_; exact trivial)
 refine rE hv ?_
 repeat walk_at "x"
 refine ⟨_,rfl,fun q => (by cases q),fun _ => ?_⟩
 repeat walk_at "x"
 refine GA_own B R.top R.dict rfl ?_
 repeat walk_at "x"
 refine EX_forL (l := ns) (f := V.int) (m0 := [("n2i",.ref L.n2i),("self",.ref a)]) (J := fun i => DnP H a T L (ns.take i)) ?_ (fun _ _ _ => trivial) (fun i k hp H' hJ RR hRR => ?_) fun H' hJ => ?_
 ·repeat walk_at "x"
  exact ⟨seq_tup hA'.handled,.cons rfl (.cons rfl .nil),⟨R,.refl⟩⟩
 ·obtain ⟨R',F'⟩ := hJ
  refine eA (hk i k hp) fun hk1 hk2 => ?_
  have hil : i < ns.length := (List.getElem?_eq_some_iff.mp hp).1
  have eN := @doneN_eq (ns.take i) T
  refine eEA (doneN_ready (ks := ns.take i) hM hr) fun r₁ hr₁ hlr => ?_
  have hkk : k ∈ (T.doneN (ns.take i)).keys := by refine rE eN.1 ?_; exact hk1
  have hlr2 : r₁.length + M≤sizeLine := by
   have : (ns.take i).length * M≤ns.length * M := Nat.mul_le_mul_right _ (by refine rE List.length_take ?_; exact Nat.min_le_right i ns.length)
   lia
  have estep : T.doneN (ns.take (i + 1)) = (T.doneN (ns.take i)).done1 k := by unfold TS.doneN; exact take_fold hp
  generalize T.doneN (ns.take i) = T₁ at *
  repeat walk_at "x"
  walk_at "xi"
  refine GM_dict R'.n2i F.slot_dict_get F.type_dict_get ?_
  repeat walk_at "x"
  refine ⟨KP_built,CV_get B R'.n2i ?_⟩
  refine rE (look_keys hkk) ?_
  repeat walk_at "x"
  refine ⟨_,rfl,fun q => (by cases q),fun _ => ?_⟩
  repeat walk_at "x"
  refine GA_slot (p := 69) (i := 1) B (R'.node k hkk) (R'.nd k hkk) rfl ?_
  refine rE hk2 ?_
  repeat walk_at "x"
  walk_at "xi"
  refine EV_gi B g_out ?_
  repeat walk_at "x"
  refine ⟨_,rfl,fun q => (by simp at q),fun _ => ?_⟩
  repeat walk_at "x"
  refine EV_gi B g_dn ?_
  repeat walk_at "x"
  refine SA_slot (p := 69) (i := 1) B (R'.node k hkk) (R'.nd k hkk) ?_
  refine eA (R'.setNp hkk (-2)) fun R₂ F₂ => ?_
  repeat walk_at "x"
  refine EX_forL (l := T₁.sc k) (f := V.int) (m0 := [("n2i",.ref L.n2i),("self",.ref a)]) (ok := fun H' => H' (L.bL k) = some (.list ((T₁.sc k).map .int))) (J := DnJ H a T L (T₁.sc k) (T₁.setNp k (-2))) ?_ ?_ (fun j y hy H' hJ RQ hRQ => ?_) fun H' hJ => ?_
  ·repeat walk_at "x"
   refine GA_slot (p := 70) (i := 2) B (R₂.node k hkk) (R₂.nd k hkk) rfl ?_
   exact ⟨seq_own hA'.handled (R₂.succ k hkk),.cons rfl (.cons rfl .nil),⟨R₂,F'.trans F₂⟩⟩
  ·rintro j H' ⟨R₃,F₃⟩
   have eR := @rel_eq ((T₁.sc k).take j) (T₁.setNp k (-2))
   have := R₃.succ k (by refine rE eR.1 ?_; exact hkk)
   rw [eR.2.2.2] at this; exact this
  ·obtain ⟨R₃,F₃⟩ := hJ
   have eR := @rel_eq ((T₁.sc k).take j) (T₁.setNp k (-2))
   obtain ⟨r₃,hr₃,hl₃⟩ := rel_ready (l := (T₁.sc k).take j) (T := T₁.setNp k (-2)) hr₁
   have hyk : y ∈ (((T₁.sc k).take j).foldl TS.rel (T₁.setNp k (-2))).keys := by
    refine rE eR.1 ?_; show y ∈ T₁.keys
    refine rE eN.1 ?_; exact hs k hk1 y (by refine rF eN.2.2.2 ?_; exact List.mem_of_getElem? hy)
   have hl₃' : r₃.length≤sizeLine := by
    have h1 := hM k
    rw [← eN.2.2.2] at h1
    have : ((T₁.sc k).take j).length≤(T₁.sc k).length := by refine rE List.length_take ?_; exact Nat.min_le_right j (T₁.sc k).length
    lia
   have estep2 : ((T₁.sc k).take (j + 1)).foldl TS.rel (T₁.setNp k (-2)) = (((T₁.sc k).take j).foldl TS.rel (T₁.setNp k (-2))).rel y := take_fold hy
   generalize ((T₁.sc k).take j).foldl TS.rel (T₁.setNp k (-2)) = T₃ at *
   have hv₃ : rdV T₃ L = .ref L.rd := by unfold rdV; refine rE hr₃ rfl
   refine eA (R₃.rel hr₃ hyk) fun R₄ F₄ => ?_
   refine eA (R₃.setNp hyk (T₃.np y - 1)) fun R₅ F₅ => ?_
   repeat walk_at "x"
   refine sub_dict R₃.n2i (look_keys hyk) ?_
   repeat walk_at "x"
   refine GA_slot (p := 69) (i := 1) B (R₃.node y hyk) (R₃.nd y hyk) rfl ?_
   repeat walk_at "x"
   refine SA_slot (p := 69) (i := 1) B (R₃.node y hyk) (R₃.nd y hyk) ?_
   repeat walk_at "x"
   walk_at "xi"
   refine GA_slot (p := 69) (i := 1) B (R₅.node y hyk) (R₅.nd y hyk) rfl ?_
   repeat walk_at "x"
   refine ⟨_,rfl,fun q => ?_,fun q => ?_⟩
   ·have q : T₃.np y - 1 = 0 := by simpa [TS.setNp,upd_same] using q
    rw [if_pos q] at R₄ F₄
    repeat walk_at "x"
    refine GA_own B R₅.top R₅.dict rfl ?_ (by kernel_rfl) (by show VHand (rdV T₃ L); refine rE hv₃ ?_; exact trivial)
    refine rE (show rdV (T₃.setNp y (T₃.np y - 1)) L = .ref L.rd from hv₃) ?_
    refine GM_list (.own (R₅.rdy r₃ hr₃)) F.slot_list_append F.type_list_append ?_
    repeat walk_at "x"
    refine ⟨KP_built,CV_append (R₅.rdy r₃ hr₃) (by refine rE (List.length_map ..) ?_; exact hl₃') ?_⟩
    repeat walk_at "x"
    rw [List.map_append] at R₄ F₄
    exact (hRQ _ _ (.cons rfl (.cons rfl .nil)) ⟨by refine rE estep2 ?_; exact R₄,by refine rE estep2 ?_; exact F₃.trans F₄⟩).1
   ·have q : ¬ T₃.np y - 1 = 0 := by simpa [TS.setNp,upd_same] using q
    rw [if_neg q] at R₄ F₄
    repeat walk_at "x"
    exact (hRQ _ _ (.cons rfl (.cons rfl .nil)) ⟨by refine rE estep2 ?_; exact R₄,by refine rE estep2 ?_; exact F₃.trans F₄⟩).1
  ·obtain ⟨R₃,F₃⟩ := hJ
   rw [List.take_length] at R₃ F₃
   repeat walk_at "x"
   refine GA_own B R₃.top R₃.dict rfl ?_
   repeat walk_at "x"
   refine SA_own B R₃.top R₃.dict (by first | with_unfolding_all exact (by decide : (4:Nat) < 1000)) ?_
   refine eA (R₃.setNums ((T₁.sc k).foldl TS.rel (T₁.setNp k (-2))).pass (((T₁.sc k).foldl TS.rel (T₁.setNp k (-2))).fin + 1)) fun R₄ F₄ => ?_
   repeat walk_at "x"
   have e : { (T₁.sc k).foldl TS.rel (T₁.setNp k (-2)) with pass := ((T₁.sc k).foldl TS.rel (T₁.setNp k (-2))).pass,fin := ((T₁.sc k).foldl TS.rel (T₁.setNp k (-2))).fin + 1 } = T₁.done1 k := by
    unfold TS.done1; refine rE ((@rel_eq (T₁.sc k) (T₁.setNp k (-2))).2.2.1) ?_; rfl
   rw [e] at R₄ F₄
   exact (hRR _ _ (.cons rfl (.cons rfl .nil)) ⟨by refine rE estep ?_; exact R₄,by refine rE estep ?_; exact F₃.trans F₄⟩).1
 ·obtain ⟨R',F'⟩ := hJ
  repeat walk_at "x"
  rw [List.take_length] at R' F'
  exact hR0 _ _ ⟨rfl,R',F'⟩
end
end
section
theorem TSR.keep {H H' : CH} {a : Addr} {T : TS} {L : Lay} (R : TSR H a T L) (h : ∀ b,H b≠none→H' b = H b) : TSR H' a T L := by
 have k : ∀ {b : Addr} {c : CObj},H b = some c→H' b = some c := fun {b c} e => (h b (by refine rE e ?_; simp)).trans e
 exact ⟨k R.top,k R.dict,k R.n2i,fun r e => k (R.rdy r e),fun x hx => k (R.node x hx),fun x hx => k (R.nd x hx),fun x hx => k (R.succ x hx),R.inj,R.rdn,R.nodup⟩
theorem lookup_no {kvs : List (Int × V)} {k : Int} (h : k ∉ kvs.map (·.1)) : kvs.lookup k = none := by
 induction kvs with
 | nil => rfl
 | cons p r ih =>
  rw [List.map_cons,List.mem_cons,not_or] at h
  refine rE List.lookup_cons (rE (beq_eq_false_iff_ne.mpr h.1) ?_); exact ih h.2
theorem lookup_yes {kvs : List (Int × V)} {k : Int} (h : k ∈ kvs.map (·.1)) : (kvs.lookup k).isSome = true := by
 induction kvs with
 | nil => cases h
 | cons p r ih =>
  refine rE List.lookup_cons ?_
  by_cases e : k = p.1
  ·refine rE (beq_iff_eq.mpr e) ?_; rfl
  ·refine rE (beq_eq_false_iff_ne.mpr e) ?_
   rw [List.map_cons,List.mem_cons] at h
   exact ih (h.resolve_left e)
theorem dropI_keys {kvs : List (Int × V)} {l : List Int} {k : Int} (h : kvs.map (·.1) = l ++ [k]) (hk : k ∉ l) : (dropI kvs k).map (·.1) = l := by
 have : (dropI kvs k).map (·.1) = (kvs.map (·.1)).filter (· != k) := by
  unfold dropI; refine rE List.filter_map ?_; rfl
 refine rE this (rE h (rE (List.filter_append ..) ?_))
 have e1 : l.filter (· != k) = l := List.filter_eq_self.mpr fun x hx => by simp; intro e; exact hk (e ▸ hx)
 refine rE e1 ?_; simp
theorem nodup_le {α : Type} [BEq α] [LawfulBEq α] : ∀ {l k : List α},l.Nodup→(∀ x ∈ l,x ∈ k)→l.length≤k.length
 | [],k,_,_ => Nat.zero_le _
 | a :: r,k,h,s => by
  rw [List.nodup_cons] at h
  have ha := s a List.mem_cons_self
  have := nodup_le (l := r) (k := k.erase a) h.2 fun x hx => (List.mem_erase_of_ne (by intro e; subst e; exact h.1 hx)).mpr (s x (List.mem_cons_of_mem _ hx))
  rw [List.length_erase_of_mem ha] at this
  have hp := List.length_pos_of_mem ha
  refine rE List.length_cons ?_; exact Nat.add_le_of_le_sub hp this
noncomputable abbrev Ent := Int × Addr × Nat
structure FC (H₀ H : CH) (T : TS) (L : Lay) (s it se nd : Addr) (st : List Ent) (seen : Int→Bool) : Prop where
 keep : ∀ b,H₀ b≠none→H b = H₀ b
 f1 : H₀ s = none
 f2 : H₀ it = none
 f3 : H₀ se = none
 f4 : H₀ nd = none
 ne : s≠it
 hs : H s = some (.list (st.map fun e => .int e.1))
 hit : H it = some (.list (st.map fun e => .imm (mwObj e.2.1)))
 hse : ∃ c,H se = some (.set seen c)∧c≤(T.keys.filter seen).length
 hnd : ∃ kvs ep,H nd = some (.dict kvs ep)∧kvs.map (·.1) = st.map (·.1)
 its : ∀ e ∈ st,H e.2.1 = some (.liter (L.bL e.1) e.2.2)∧H₀ e.2.1 = none
 nI : (st.map (·.2.1)).Nodup
 nK : (st.map (·.1)).Nodup
 mem : ∀ e ∈ st,e.1 ∈ T.keys∧seen e.1 = true
 sub : ∀ x,seen x = true→x ∈ T.keys
section
variable {H₀ H : CH} {T : TS} {L : Lay} {s it se nd : Addr} {st : List Ent} {seen : Int→Bool}
theorem FC.len (F : FC H₀ H T L s it se nd st seen) (hk : T.keys.Nodup) : st.length≤T.keys.length := by
 have := nodup_le (l := st.map (·.1)) (k := T.keys) F.nK (fun x hx => by
  refine eEA (List.mem_map.mp hx) fun e he zz2 => ?_; subst zz2; exact (F.mem e he).1)
 simpa using this
theorem filter_add {keys : List Int} {seen : Int→Bool} {x : Int} (hn : keys.Nodup) (hx : x ∈ keys) (hs : seen x = false) : (keys.filter fun y => seen y || decide (y = x)).length = (keys.filter seen).length + 1 := by
 induction keys with
 | nil => cases hx
 | cons a r ih =>
  rw [List.nodup_cons] at hn
  by_cases e : a = x
  ·subst e
   have : r.filter (fun y => seen y || decide (y = a)) = r.filter seen := List.filter_congr fun y hy => by
    have : y≠a := fun e => hn.1 (e ▸ hy)
    simp [this]
   refine rE (List.filter_cons_of_pos (by simp)) (rE (List.filter_cons_of_neg (by exact ne_true_of_eq_false hs)) (rE this ?_)); simp
  ·have h := ih hn.2 ((List.mem_cons.mp hx).resolve_left (fun q => e q.symm))
   by_cases q : seen a = true
   ·refine rE (List.filter_cons_of_pos (by simp [q])) (rE (List.filter_cons_of_pos q) (rE List.length_cons (rE List.length_cons (rE h rfl))))
   ·refine rE (List.filter_cons_of_neg (by simp [q,e])) (rE (List.filter_cons_of_neg q) (rE h rfl))
noncomputable def addSeen (seen : Int→Bool) (x : Int) : Int→Bool := fun y => seen y || decide (y = x)
theorem FC.push (F : FC H₀ H T L s it se nd st seen) (hkn : T.keys.Nodup) {x : Int} (hx : x ∈ T.keys) (hs : seen x = false) {I : Addr} {c : Nat} {kvs : List (Int × V)} {ep : Nat} {v : V} (hse : H se = some (.set seen c)) (hc : c≤(T.keys.filter seen).length) (hnd : kvs.map (·.1) = st.map (·.1))
  (hI : (H.set se (.set (addSeen seen x) (c + 1))) I = none) (hI0 : H₀ I = none) :
  FC H₀ (((((H.set se (.set (addSeen seen x) (c + 1))).set I (.liter (L.bL x) 0)).set it (.list ((st.map fun e => .imm (mwObj e.2.1)) ++ [.imm (mwObj I)]))).set nd (.dict (kvs ++ [(x,v)]) ep)).set s (.list ((st.map fun e => .int e.1) ++ [.int x]))) T L s it se nd (st ++ [(x,I,0)]) (addSeen seen x) := by
 refine eEEA F.hnd fun kv0 ep0 hnd0 _ => ?_
 have i1 : I≠se := ne_at hI CH.set_same
 have hI' : H I = none := by rw [CH.set_ne i1] at hI; exact hI
 have i2 : I≠it := ne_at hI' F.hit
 have i3 : I≠nd := ne_at hI' hnd0
 have i4 : I≠s := ne_at hI' F.hs
 have d1 : it≠se := ne_at F.hit hse
 have d2 : nd≠se := ne_at hnd0 hse
 have d3 : s≠se := ne_at F.hs hse
 have d4 : nd≠it := ne_at hnd0 F.hit
 have d5 : s≠nd := ne_at F.hs hnd0
 have hxs : x ∉ st.map (·.1) := fun h => by
  refine eEA (List.mem_map.mp h) fun e he zz2 => ?_; subst zz2
  rw [(F.mem e he).2] at hs; cases hs
 refine ⟨fun b hb => ?_,F.f1,F.f2,F.f3,F.f4,F.ne,?_,?_,⟨c + 1,?_,?_⟩,⟨kvs ++ [(x,v)],ep,?_,?_⟩,?_,?_,?_,?_,?_⟩
 ·have k : ∀ {c : Addr},H₀ c = none→b≠c := fun {c} h q => hb (by refine rE q ?_; exact h)
  refine rE (CH.set_ne (k F.f1)) (rE (CH.set_ne (k F.f4)) (rE (CH.set_ne (k F.f2)) (rE (CH.set_ne (k hI0)) (rE (CH.set_ne (k F.f3)) ?_))))
  exact F.keep b hb
 ·refine rE CH.set_same (rE List.map_append ?_); rfl
 ·refine rE (CH.set_ne (Ne.symm F.ne)) (rE (CH.set_ne (Ne.symm d4)) (rE CH.set_same (rE List.map_append ?_))); rfl
 ·refine rE (CH.set_ne (Ne.symm d3)) (rE (CH.set_ne (Ne.symm d2)) (rE (CH.set_ne (Ne.symm d1)) (rE (CH.set_ne (Ne.symm i1)) (rE CH.set_same rfl))))
 ·unfold addSeen; refine rE (filter_add hkn hx hs) ?_; exact Nat.add_le_add_right hc 1
 ·refine rE (CH.set_ne (Ne.symm d5)) (rE CH.set_same rfl)
 ·refine rE List.map_append (rE List.map_append (rE hnd ?_)); rfl
 ·intro e he
  rcases List.mem_append.mp he with he | he
  ·refine eA (F.its e he) fun h1 h2 => ?_
   have n1 : e.2.1≠s := ne_at h1 F.hs
   have n2 : e.2.1≠nd := ne_at h1 hnd0
   have n3 : e.2.1≠it := ne_at h1 F.hit
   have n4 : e.2.1≠I := ne_at h1 hI'
   have n5 : e.2.1≠se := ne_at h1 hse
   refine rE (CH.set_ne n1) (rE (CH.set_ne n2) (rE (CH.set_ne n3) (rE (CH.set_ne n4) (rE (CH.set_ne n5) ?_))))
   exact ⟨h1,h2⟩
  ·obtain rfl := List.mem_singleton.mp he
   show CH.set _ _ _ I = some (.liter (L.bL x) 0)∧_
   refine rE (CH.set_ne i4) (rE (CH.set_ne i3) (rE (CH.set_ne i2) (rE CH.set_same ?_)))
   exact ⟨rfl,hI0⟩
 ·refine rE List.map_append ?_; rewrite [List.nodup_append]
  refine ⟨F.nI,by simp,fun p hp q hq => ?_⟩
  obtain rfl := List.mem_singleton.mp hq
  refine eEA (List.mem_map.mp hp) fun e he zz2 => ?_; subst zz2
  intro q; have := (F.its e he).1; rw [q,hI'] at this; cases this
 ·refine rE List.map_append ?_; rewrite [List.nodup_append]
  refine ⟨F.nK,by simp,fun p hp q hq => ?_⟩
  obtain rfl := List.mem_singleton.mp hq
  intro q; exact hxs (q ▸ hp)
 ·intro e he
  rcases List.mem_append.mp he with he | he
  ·have := F.mem e he; exact ⟨this.1,by unfold addSeen; refine rE this.2 ?_; rfl⟩
  ·obtain rfl := List.mem_singleton.mp he
   exact ⟨hx,by unfold addSeen; simp⟩
 ·intro y hy
  unfold addSeen at hy
  rw [Bool.or_eq_true,decide_eq_true_eq] at hy
  rcases hy with hy | hy
  ·exact F.sub y hy
  ·exact hy ▸ hx
theorem FC.step {e : Ent} (F : FC H₀ H T L s it se nd (st ++ [e]) seen) {i : Nat} :
  FC H₀ (H.set e.2.1 (.liter (L.bL e.1) i)) T L s it se nd (st ++ [(e.1,e.2.1,i)]) seen := by
 refine eEEA F.hnd fun kv0 ep0 hnd0 hk0 => ?_
 refine eEA F.hse fun c hse hc => ?_
 refine eA (F.its e (List.mem_append_right _ List.mem_cons_self)) fun h1 h2 => ?_
 have hne := F.nI
 rw [List.map_append,List.nodup_append] at hne
 have hm : ∀ {β : Type} (f : Int→Addr→β),((st ++ [(e.1,e.2.1,i)]).map fun e => f e.1 e.2.1) = ((st ++ [e]).map fun e => f e.1 e.2.1) := by intro β f; simp
 refine ⟨fun b hb => ?_,F.f1,F.f2,F.f3,F.f4,F.ne,?_,?_,⟨c,set_other h1 hse (by intro q; cases q),hc⟩,⟨kv0,ep0,set_other h1 hnd0 (by intro q; cases q),?_⟩,?_,?_,?_,?_,F.sub⟩
 ·have hbI : b≠e.2.1 := fun q => hb (by refine rE q ?_; exact h2)
  refine rE (CH.set_ne hbI) ?_; exact F.keep b hb
 ·refine rE (hm fun x _ => V.int x) ?_; exact set_other h1 F.hs (by intro q; cases q)
 ·refine rE (hm fun _ x => V.imm (mwObj x)) ?_; exact set_other h1 F.hit (by intro q; cases q)
 ·refine rE (hm fun x _ => x) ?_; exact hk0
 ·intro e' he'
  rcases List.mem_append.mp he' with he' | he'
  ·have := F.its e' (List.mem_append_left _ he')
   refine rE (CH.set_ne (hne.2.2 _ (List.mem_map_of_mem he') _ (List.mem_singleton.mpr rfl))) ?_; exact this
  ·obtain rfl := List.mem_singleton.mp he'
   exact ⟨CH.set_same,h2⟩
 ·refine rE (hm fun _ x => x) ?_; exact F.nI
 ·refine rE (hm fun x _ => x) ?_; exact F.nK
 ·intro e' he'
  rcases List.mem_append.mp he' with he' | he'
  ·exact F.mem e' (List.mem_append_left _ he')
  ·obtain rfl := List.mem_singleton.mp he'
   exact F.mem e (List.mem_append_right _ List.mem_cons_self)
theorem FC.pop {e : Ent} (F : FC H₀ H T L s it se nd (st ++ [e]) seen) {kvs : List (Int × V)} {ep : Nat} (hnd : kvs.map (·.1) = st.map (·.1)) :
  FC H₀ ((((H.del e.2.1).set s (.list (st.map fun e => .int e.1))).set nd (.dict kvs ep)).set it (.list (st.map fun e => .imm (mwObj e.2.1)))) T L s it se nd st seen := by
 refine eEEA F.hnd fun kv0 ep0 hnd0 _ => ?_
 refine eEA F.hse fun c hse hc => ?_
 refine eA (F.its e (List.mem_append_right _ List.mem_cons_self)) fun h1 h2 => ?_
 have hne := F.nI
 rw [List.map_append,List.nodup_append] at hne
 have hnk := F.nK
 rw [List.map_append,List.nodup_append] at hnk
 have d1 : se≠it := ne_at hse F.hit
 have d2 : se≠nd := ne_at hse hnd0
 have d3 : se≠s := ne_at hse F.hs
 have d4 : nd≠it := ne_at hnd0 F.hit
 have d5 : s≠nd := ne_at F.hs hnd0
 refine ⟨fun b hb => ?_,F.f1,F.f2,F.f3,F.f4,F.ne,?_,CH.set_same,⟨c,?_,hc⟩,⟨kvs,ep,?_,hnd⟩,?_,hne.1,hnk.1,fun e' he' => F.mem e' (List.mem_append_left _ he'),F.sub⟩
 ·have hbI : b≠e.2.1 := fun q => hb (by refine rE q ?_; exact h2)
  have k : ∀ {c : Addr},H₀ c = none→b≠c := fun {c} h q => hb (by refine rE q ?_; exact h)
  refine rE (CH.set_ne (k F.f2)) (rE (CH.set_ne (k F.f4)) (rE (CH.set_ne (k F.f1)) (rE (CH.del_ne hbI) ?_)))
  exact F.keep b hb
 ·refine rE (CH.set_ne F.ne) (rE (CH.set_ne d5) (rE CH.set_same rfl))
 ·refine rE (CH.set_ne d1) (rE (CH.set_ne d2) (rE (CH.set_ne d3) (rE (CH.del_ne (ne_at hse h1)) ?_))); exact hse
 ·refine rE (CH.set_ne d4) (rE CH.set_same rfl)
 ·intro e' he'
  refine eA (F.its e' (List.mem_append_left _ he')) fun h3 h4 => ?_
  have n1 : e'.2.1≠s := ne_at h3 F.hs
  have n2 : e'.2.1≠nd := ne_at h3 hnd0
  have n3 : e'.2.1≠it := ne_at h3 F.hit
  refine rE (CH.set_ne n3) (rE (CH.set_ne n2) (rE (CH.set_ne n1) (rE (CH.del_ne (hne.2.2 _ (List.mem_map_of_mem he') _ (List.mem_singleton.mpr rfl))) ?_)))
  exact ⟨h3,h4⟩
end
noncomputable def leftU (T : TS) (seen : Int→Bool) : Nat := ((T.keys.filter fun k => !seen k).map fun k => (T.sc k).length + 1).sum
noncomputable def leftS (T : TS) (st : List Ent) : Nat := (st.map fun e => (T.sc e.1).length - e.2.2).sum
theorem leftU_add {T : TS} {seen : Int→Bool} {x : Int} (hn : T.keys.Nodup) (hx : x ∈ T.keys) (hs : seen x = false) : leftU T seen = leftU T (addSeen seen x) + ((T.sc x).length + 1) := by
 unfold leftU
 generalize T.keys = keys at *
 induction keys with
 | nil => cases hx
 | cons a r ih =>
  rw [List.nodup_cons] at hn
  by_cases e : a = x
  ·subst e
   have : r.filter (fun y => !addSeen seen a y) = r.filter fun y => !seen y := List.filter_congr fun y hy => by
    have : y≠a := fun e => hn.1 (e ▸ hy)
    simp [addSeen,this]
   refine rE (List.filter_cons_of_pos (by simp [hs])) (rE (List.filter_cons_of_neg (by simp [addSeen])) (rE this ?_)); simp; exact Eq.symm (Nat.add_comm (List.map (fun k ↦ (T.sc k).length + 1) (List.filter (fun k ↦ !seen k) r)).sum ((T.sc a).length + 1))
  ·have h := ih hn.2 ((List.mem_cons.mp hx).resolve_left (fun q => e q.symm))
   by_cases q : seen a = true
   ·refine rE (List.filter_cons_of_neg (by exact Bool.not_not_eq.mpr q)) (rE (List.filter_cons_of_neg (by simp [addSeen,q])) ?_); exact h
   ·refine rE (List.filter_cons_of_pos (by exact PyProof.Rows.bi_not.mpr q)) (rE (List.filter_cons_of_pos (by simp [addSeen,q,e])) ?_)
    simp only [List.map_cons,List.sum_cons]; lia
theorem leftS_append {T : TS} {st : List Ent} {e : Ent} : leftS T (st ++ [e]) = leftS T st + ((T.sc e.1).length - e.2.2) := by
 unfold leftS; simp
end
section
theorem g_iter2 {P : Params} : nsIn (KK P) mainGlobals "iter" = some none := by kernel_rfl
theorem g_set {P : Params} : nsIn (KK P) mainGlobals "set" = some none := by kernel_rfl
theorem b_set : bootBuiltins "set" = some (.type "set") := by kernel_rfl
theorem g_stop {P : Params} : nsIn (KK P) mainGlobals "StopIteration" = some none := by kernel_rfl
theorem b_stop : bootBuiltins "StopIteration" = some (.type "StopIteration") := by kernel_rfl
theorem keysOf_map {keys : List Int} {f : Int→V} : keysOf (keys.map fun k => (k,f k)) = keys.map .int := by
 induction keys with
 | nil => rfl
 | cons a r ih => refine rE List.map_cons (rE List.map_cons ?_); show V.int a :: keysOf _ = _; refine rE ih rfl
noncomputable abbrev mF (s it se nd n2i a : Addr) : Loc := [("node2stacki",.ref nd),("seen",.ref se),("itstack",.ref it),("stack",.ref s),("n2i",.ref n2i),("self",.ref a)]
noncomputable abbrev mX (x : Int) (s it se nd n2i a : Addr) : Loc := ("node",.int x) :: mF s it se nd n2i a
noncomputable def Up (rk : Int→Int) (st : List Ent) : Prop := st.Pairwise fun e e' => rk e.1 < rk e'.1
section
variable {C : Cx} {A : Around} {m : Loc} {H : CH} {s : Shared} {mg mb : Str→Option Value} {P : Params} {a : Addr} {T : TS} {L : Lay}
inductive FcF (H : CH) (T : TS) (L : Lay) (S it se nd : Addr) (H' : CH) : Prop
 | mk (seen : Int→Bool) (Z : FC H H' T L S it se nd [] seen)
inductive FcI (H : CH) (T : TS) (L : Lay) (S it se nd a : Addr) (rk : Int→Int) (n : Nat) (m' : Loc) (H' : CH) : Prop
 | mk (x : Int) (st : List Ent) (seen : Int→Bool) (hm : m' = mX x S it se nd L.n2i a) (Z : FC H H' T L S it se nd st seen) (hx : x ∈ T.keys) (hu : Up rk st) (hl : ∀ e ∈ st,rk e.1 < rk x) (hn : n = leftU T seen + leftS T st)
inductive FcM (H : CH) (T : TS) (L : Lay) (S it se nd a : Addr) (rk : Int→Int) (x : Int) (N : Nat) (m' : Loc) (H' : CH) : Prop
 | mk (hm : m' = mX x S it se nd L.n2i a) (st' : List Ent) (seen' : Int→Bool) (Z : FC H H' T L S it se nd st' seen') (hu : Up rk st') (hl : leftU T seen' + leftS T st'≤N)
inductive FcW (H : CH) (T : TS) (L : Lay) (S it se nd a : Addr) (rk : Int→Int) (x : Int) (N : Nat) (n : Nat) (m' : Loc) (H' : CH) : Prop
 | mk (hm : m' = mX x S it se nd L.n2i a) (st' : List Ent) (seen' : Int→Bool) (Z : FC H H' T L S it se nd st' seen') (hu : Up rk st') (hl : leftU T seen' + leftS T st'≤N) (hn : n = st'.length)
theorem spec_findcycle {rk : Int→Int} (hrk : ∀ k ∈ T.keys,∀ x ∈ T.sc k,x ∈ T.keys∧rk k < rk x) (hz : T.keys.length + 1 < scanBound) (B : Bs C.h₀ (KK P) mg mb) {n : Nat} (hA : AOK C A (n + 1)) (R : TSR H a T L) :
  CALL C A (.con (.ref a_findcycle)) [.ref a] [] H fun v H' => v = V.none∧∀ b,H b≠none→H' b = H b := by
 have hz1 : T.keys.length < sizeLine := by unfold sizeLine; unfold scanBound at hz; lia
 refine CALL_hide fun R0 hR0 => ?_
 refine CALL_K B (by with_unfolding_all rfl) (by with_unfolding_all rfl) hA .pos1 (by with_unfolding_all rfl) rfl fun LL hL hL0 hA' => ?_
 repeat walk_at "x"
 refine GA_own B R.top R.dict rfl ?_
 repeat walk_at "x"
 refine EV_list ?_
 repeat walk_at "x"
 refine ⟨by decide,fun S hS => ?_⟩
 repeat walk_at "x"
 refine EV_list ?_
 repeat walk_at "x"
 refine ⟨by decide,fun it hit => ?_⟩
 repeat walk_at "x"
 refine EV_b B g_set b_set ?_
 repeat walk_at "x"
 refine ⟨KP_type,CV_set0 fun se hse hse0 => ?_⟩
 repeat walk_at "x"
 refine EV_dict fun nd hnd hnd0 => ?_
 have e1 : it≠S := ne_at hit CH.set_same
 have e2 : se≠it := ne_at hse CH.set_same
 have e3 : se≠S := ne_at hse ((CH.set_ne (Ne.symm e1)).trans CH.set_same)
 have e4 : nd≠se := ne_at hnd CH.set_same
 have e5 : nd≠it := ne_at hnd ((CH.set_ne (Ne.symm e2)).trans CH.set_same)
 have e6 : nd≠S := fun e => by rw [e,CH.set_ne (Ne.symm e3),CH.set_ne (Ne.symm e1),CH.set_same] at hnd; cases hnd
 have f2 : H it = none := by rw [CH.set_ne e1] at hit; exact hit
 have f3 : H se = none := by rw [CH.set_ne e2,CH.set_ne e3] at hse; exact hse
 have f4 : H nd = none := by rw [CH.set_ne e4,CH.set_ne e5,CH.set_ne e6] at hnd; exact hnd
 have F0 : FC H ((((H.set S (.list [])).set it (.list [])).set se (.set (fun _ => false) 0)).set nd (.dict [] 0)) T L S it se nd [] (fun _ => false) := by
  refine ⟨fun b hb => ?_,hS,f2,f3,f4,Ne.symm e1,?_,?_,⟨0,?_,Nat.zero_le _⟩,⟨[],0,CH.set_same,rfl⟩,(by intro _ h; cases h),.nil,.nil,(by intro _ h; cases h),(by intro _ h; cases h)⟩
  ·have k : ∀ {c : Addr},H c = none→b≠c := fun {c} h q => hb (by refine rE q ?_; exact h)
   refine rE (CH.set_ne (k f4)) (rE (CH.set_ne (k f3)) (rE (CH.set_ne (k f2)) (rE (CH.set_ne (k hS)) rfl)))
  ·refine rE (CH.set_ne (Ne.symm e6)) (rE (CH.set_ne (Ne.symm e3)) (rE (CH.set_ne (Ne.symm e1)) (rE CH.set_same ?_))); rfl
  ·refine rE (CH.set_ne (Ne.symm e5)) (rE (CH.set_ne (Ne.symm e2)) (rE CH.set_same ?_)); rfl
  ·refine rE (CH.set_ne (Ne.symm e4)) (rE CH.set_same rfl)
 repeat walk_at "x"
 have kn2i : ∀ {st : List Ent} {seen : Int→Bool} {H' : CH},FC H H' T L S it se nd st seen→H' L.n2i = some (.dict (T.keys.map fun k => (k,.ref (L.bA k))) L.ep) := fun {st seen H'} Z => (Z.keep _ (by refine rE R.n2i ?_; simp)).trans R.n2i
 refine EX_forL (l := T.keys) (f := V.int) (m0 := mF S it se nd L.n2i a) (ok := fun H' => H' L.n2i = some (.dict (T.keys.map fun k => (k,.ref (L.bA k))) L.ep)) (J := fun _ => FcF H T L S it se nd) ?_ ?_ (fun i x hx H' hJ RR hRR => ?_) fun H' hJ => ?_
 ·repeat walk_at "x"
  exact ⟨by refine rF (keysOf_map (f := fun k => V.ref (L.bA k))) ?_; exact seq_keys (by exact B) hA'.handled (kn2i F0),.cons rfl (.cons rfl (.cons rfl (.cons rfl (.cons rfl (.cons rfl .nil))))),⟨_,F0⟩⟩
 ·rintro i H' ⟨seen,Z⟩
  exact kn2i Z
 ·obtain ⟨seen,Z⟩ := hJ
  have hxk : x ∈ T.keys := List.mem_of_getElem? hx
  refine eEA Z.hse fun c hc hcl => ?_
  repeat walk_at "x"
  walk_at "xi"
  refine O2_inset hc ?_
  repeat walk_at "x"
  refine ⟨_,rfl,fun q => ?_,fun q => ?_⟩
  ·repeat walk_at "x"
   refine (hRR _ _ ?_ ⟨seen,Z⟩).2
   exact .cons rfl (.cons rfl (.cons rfl (.cons rfl (.cons rfl (.cons rfl .nil)))))
  repeat walk_at "x"
  refine EX_cons (st := .While _ _ _ _) (ES_while (FcI H T L S it se nd a rk) _ _
   (.cons rfl (.cons rfl (.cons rfl (.cons rfl (.cons rfl (.cons rfl (.cons rfl .nil))))))) ⟨x,[],seen,rfl,Z,hxk,.nil,(by intro _ h; cases h),rfl⟩ ?_)
  clear hc hcl c q hx hxk x Z seen
  rintro n' m' H' ⟨x,st,seen,rfl,Z,hxk,hup,hlt,rfl⟩
  repeat walk_at "x"
  refine OB_bool ⟨fun _ => ?_,fun h => (by cases h)⟩
  refine EX_mid (st := .If _ _ _ _) (FcM H T L S it se nd a rk x (leftU T seen + leftS T st)) (ES_if ?_) fun m₁ H₁ hM => ?_
  ·refine eEA Z.hse fun c hc hcl => ?_
   repeat walk_at "x"
   refine O2_inset hc ?_
   refine ⟨_,rfl,fun q => ?_,fun q => ?_⟩
   ·refine eEEA Z.hnd fun kvs ep hnd hkv => ?_
    walk_at "xi"
    refine O2_in_dict B hnd ?_
    rw [lookup_no (by
     refine rE hkv ?_; intro h
     refine eEA (List.mem_map.mp h) fun e he zz2 => ?_; subst zz2
     exact Int.lt_irrefl _ (hlt e he))]
    refine ⟨_,rfl,fun h => (by cases h),fun _ => ?_⟩
    repeat walk_at "x"
    exact ⟨rfl,st,seen,Z,hup,Nat.le_refl _⟩
   ·have hlen := Z.len R.nodup
    repeat walk_at "x"
    refine GM_set hc ?_
    repeat walk_at "x"
    refine ⟨KP_built,CV_add hc ?_ ?_⟩
    ·have := List.length_filter_le seen T.keys; lia
    refine rE (if_neg (by rw [q]; simp)) ?_
    have hit' : H' it = _ := Z.hit
    have o1 : it≠se := ne_at hit' hc
    have hit2 := (CH.set_ne (H := H') (c := .set (addSeen seen x) (c + 1)) o1).trans hit'
    repeat walk_at "x"
    refine GM_list (.own hit2) F.slot_list_append F.type_list_append ?_
    repeat walk_at "x"
    refine EV_b B g_iter2 b_iter ?_
    repeat walk_at "x"
    have o2 : L.n2i≠se := ne_at (kn2i Z) hc
    refine sub_dict ((CH.set_ne o2).trans (kn2i Z)) (look_keys hxk) ?_
    repeat walk_at "x"
    have R' := R.keep Z.keep
    have R'' : ∀ {b : Addr} {c' : CObj},H' b = some c'→(∀ S c,c'≠.set S c)→(H'.set se (.set (addSeen seen x) (c + 1))) b = some c' := fun {b c'} h1 h2 => (CH.set_ne (fun e => by rw [e,hc] at h1; cases h1; exact h2 _ _ rfl)).trans h1
    refine GA_slot (p := 70) (i := 2) B (R'' (R'.node x hxk) (by intro _ _ h; cases h)) (R'' (R'.nd x hxk) (by intro _ _ h; cases h)) rfl ?_
    repeat walk_at "x"
    refine ⟨KP_built,CV_iter (.own (R'' (R'.succ x hxk) (by intro _ _ h; cases h))) fun I hI hI0 => ?_⟩
    replace hI : (H'.set se (.set (addSeen seen x) (c + 1))) I = none := hI
    repeat walk_at "x"
    refine GA_next CH.set_same ?_
    repeat walk_at "x"
    have i1 : it≠I := ne_at hit2 hI
    refine ⟨KP_built,CV_append ((CH.set_ne i1).trans hit2) (by refine rE (List.length_map ..) ?_; lia) ?_⟩
    repeat walk_at "x"
    refine eEEA Z.hnd fun kvs ep hnd hkv => ?_
    have hS' := Z.hs
    have j1 : S≠se := ne_at hS' hc
    have j2 : S≠I := ne_at ((CH.set_ne j1).trans hS') hI
    have k1 : nd≠se := ne_at hnd hc
    have k2 : nd≠I := ne_at ((CH.set_ne k1).trans hnd) hI
    have k3 : nd≠it := ne_at hnd hit'
    have k4 : S≠nd := ne_at hS' hnd
    refine EV_b B g_len2 b_len ?_
    repeat walk_at "x"
    refine ⟨KP_built,CV_len (.own (by refine rE (CH.set_ne Z.ne) (rE (CH.set_ne j2) (rE (CH.set_ne j1) ?_)); exact hS')) (by refine rE (List.length_map ..) ?_; omega) ?_⟩
    repeat walk_at "x"
    have hxs : x ∉ kvs.map (·.1) := fun h => by
     rw [hkv] at h
     refine eEA (List.mem_map.mp h) fun e he zz2 => ?_; subst zz2
     exact Int.lt_irrefl _ (hlt e he)
    have hkl : kvs.length≤sizeLine := by
     have := congrArg List.length hkv
     rw [List.length_map,List.length_map] at this; lia
    refine set_dict (by refine rE (CH.set_ne k3) (rE (CH.set_ne k2) (rE (CH.set_ne k1) ?_)); exact hnd) hkl fun ep' => ?_
    refine rE (putI_new hxs) ?_
    repeat walk_at "x"
    refine GM_list (.own (by refine rE (CH.set_ne k4) (rE (CH.set_ne Z.ne) (rE (CH.set_ne j2) (rE (CH.set_ne j1) ?_))); exact hS')) F.slot_list_append F.type_list_append ?_
    repeat walk_at "x"
    refine ⟨KP_built,CV_append (by refine rE (CH.set_ne k4) (rE (CH.set_ne Z.ne) (rE (CH.set_ne j2) (rE (CH.set_ne j1) ?_))); exact hS') (by refine rE (List.length_map ..) ?_; lia) ?_⟩
    repeat walk_at "x"
    have hI0' : H I = none := by
     cases h : H I with
     | none => rfl
     | some o =>
      have i2 : I≠se := ne_at hI CH.set_same
      rw [CH.set_ne i2,Z.keep I (by refine rE h ?_; simp),h] at hI; cases hI
    have Z' := Z.push R.nodup hxk q hc hcl hkv hI hI0' (v := .int ((st.map fun e => V.int e.1).length : Int)) (ep := ep')
    refine ⟨rfl,_,_,Z',?_,?_⟩
    ·unfold Up at hup ⊢
     rw [List.pairwise_append]
     exact ⟨hup,List.pairwise_singleton ..,fun e he e' he' => by refine rE (List.mem_singleton.mp he') ?_; exact hlt e he⟩
    ·refine rE leftS_append (rE (leftU_add R.nodup hxk q) ?_)
     show _ + (_ + ((T.sc x).length - 0))≤_
     lia
  ·obtain ⟨rfl,st',seen',Z',hup',hle'⟩ := hM
   generalize leftU T seen + leftS T st = N at *
   refine EX_cons (st := .While _ _ _ _) (ES_while (FcW H T L S it se nd a rk x N) _ _
    (.cons rfl (.cons rfl (.cons rfl (.cons rfl (.cons rfl (.cons rfl (.cons rfl .nil))))))) ⟨rfl,st',seen',Z',hup',hle',rfl⟩ ?_)
   clear Z' hup' hle' st' seen' Z hup hlt st seen H'
   rintro n' m' H' ⟨rfl,st,seen,Z,hup,hle,rfl⟩
   have hlen := Z.len R.nodup
   repeat walk_at "x"
   refine OB_list (.own Z.hs) (by refine rE (List.length_map ..) ?_; lia) ⟨fun hb => ?_,fun hb => ?_⟩
   ·have hne : st≠[] := by intro h; subst h; simp at hb
    obtain ⟨st0,e,rfl⟩ : ∃ st0 e,st = st0 ++ [e] := ⟨_,_,(List.dropLast_concat_getLast hne).symm⟩
    obtain ⟨k,I,i⟩ := e
    obtain ⟨hI,hI0⟩ : H' I = some (.liter (L.bL k) i)∧H I = none := Z.its (k,I,i) (List.mem_append_right _ List.mem_cons_self)
    obtain ⟨hkk,hks⟩ : k ∈ T.keys∧seen k = true := Z.mem (k,I,i) (List.mem_append_right _ List.mem_cons_self)
    have R' := R.keep Z.keep
    have hit : H' it = some (.list ((st0.map fun e => V.imm (mwObj e.2.1)) ++ [V.imm (mwObj I)])) := by have h := Z.hit; rw [List.map_append] at h; exact h
    have hup0 := hup
    unfold Up at hup0
    rw [List.pairwise_append] at hup0
    replace hlen : st0.length + 1≤T.keys.length := by simpa using hlen
    have hneg : ((st0.map fun e => V.imm (mwObj e.2.1)) ++ [V.imm (mwObj I)])[((-1 : Int) + (((st0.map fun e => V.imm (mwObj e.2.1)) ++ [V.imm (mwObj I)]).length : Int)).toNat]? = some (.imm (mwObj I)) := by
     refine rE (show ((-1 : Int) + (((st0.map fun e => V.imm (mwObj e.2.1)) ++ [V.imm (mwObj I)]).length : Int)).toNat = (st0.map fun e => V.imm (mwObj e.2.1)).length from by rw [List.length_append,List.length_singleton]; lia) ?_
     simp
    by_cases hi : i < (T.sc k).length
    ·have hx' : (T.sc k)[i]? = some (T.sc k)[i] := List.getElem?_eq_getElem hi
     generalize (T.sc k)[i] = y at hx'
     refine eA (hrk k hkk y (List.mem_of_getElem? hx')) fun hyk hyr => ?_
     refine EX_cons (st := .Try _ _ _ _ _) (ES_try (T := "StopIteration") (cls := "StopIteration") (R := fun _ _ => False) hA'.frames rfl (by kernel_rfl) (by kernel_rfl) (by kernel_rfl) (EXX_of ?_) (fun _ _ _ h => h.elim))
     repeat walk_at "x"
     refine O1_neg ?_
     repeat walk_at "x"
     refine sub_list_neg (k := -1) (v := .imm (mwObj I)) (.own hit) (by decide) (by refine rE List.length_append (rE List.length_singleton ?_); exact (fun {a b} => Rat.intCast_le_intCast.mp) rfl) hneg (by refine rE List.length_append (rE (List.length_map ..) (rE List.length_singleton ?_)); lia) ?_
     repeat walk_at "x"
     refine ⟨KP_mw,CV_mw hI (.own (R'.succ k hkk)) (by refine rE List.getElem?_map (rE hx' ?_); rfl) ?_⟩
     repeat walk_at "x"
     have Z' := Z.step (i := i + 1)
     refine EX_nil ?_
     refine ⟨_,_,?_,.cons rfl (.cons rfl (.cons rfl (.cons rfl (.cons rfl (.cons rfl (.cons rfl .nil)))))),y,_,_,rfl,Z',hyk,?_,?_,rfl⟩
     ·rw [leftS_append] at hle ⊢
      show _ + (_ + ((T.sc k).length - (i + 1))) < _
      have : leftU T seen + (leftS T st0 + ((T.sc k).length - i))≤N := hle
      grind
     ·unfold Up
      rw [List.pairwise_append]
      exact ⟨hup0.1,List.pairwise_singleton ..,fun e he e' he' => by refine rE (List.mem_singleton.mp he') ?_; exact hup0.2.2 e he (k,I,i) (List.mem_singleton.mpr rfl)⟩
     ·intro e he
      rcases List.mem_append.mp he with he | he
      ·exact Int.lt_trans (hup0.2.2 e he (k,I,i) (List.mem_singleton.mpr rfl)) hyr
      ·refine rE (List.mem_singleton.mp he) ?_; exact hyr
    ·refine EX_cons (st := .Try _ _ _ _ _) (ES_try (T := "StopIteration") (cls := "StopIteration") (R := fun m' H'' => m' = mX x S it se nd L.n2i a∧H'' = H'.del I) hA'.frames rfl (by kernel_rfl) (by kernel_rfl) (by kernel_rfl) (EXX_cons (ESX_assign (EVX_call ?_))) ?_)
     ·repeat walk_at "x"
      refine O1_neg ?_
      repeat walk_at "x"
      refine sub_list_neg (k := -1) (v := .imm (mwObj I)) (.own hit) (by decide) (by refine rE List.length_append (rE List.length_singleton ?_); lia) hneg (by refine rE List.length_append (rE (List.length_map ..) (rE List.length_singleton ?_)); lia) ?_
      repeat walk_at "x"
      exact ⟨KP_mw,CVX_mw hA'.handled hI (.own (R'.succ k hkk)) (by refine rE (List.length_map ..) ?_; exact Nat.le_of_not_lt hi) ⟨rfl,rfl⟩⟩
     ·rintro _ _ h' ⟨rfl,rfl⟩
      refine EV_b (by exact B) g_stop b_stop ?_
      refine ⟨rfl,?_⟩
      refine eEEA Z.hnd fun kvs ep hnd hkv => ?_
      rw [List.map_append] at hkv
      have hS' : H' S = some (.list ((st0.map fun e => V.int e.1) ++ [.int k])) := by have h := Z.hs; rw [List.map_append] at h; exact h
      have hkn := Z.nK
      rw [List.map_append,List.nodup_append] at hkn
      have hk0 : k ∉ st0.map (·.1) := fun h => hkn.2.2 _ h _ (List.mem_singleton.mpr rfl) rfl
      have hkv0 := dropI_keys hkv hk0
      have i1 : S≠I := ne_at hS' hI
      have i2 : nd≠I := ne_at hnd hI
      have i3 : it≠I := ne_at hit hI
      have k4 : S≠nd := ne_at hS' hnd
      have k3 : nd≠it := ne_at hnd hit
      refine EX_cons (st := .Delete _ _) (ES_del ?_)
      repeat walk_at "x"
      refine GM_list (.own (by refine rE (CH.del_ne i1) ?_; exact hS')) F.slot_list_pop F.type_list_pop ?_
      repeat walk_at "x"
      refine ⟨KP_built,CV_pop (by refine rE (CH.del_ne i1) ?_; exact hS') (by refine rE (List.length_map ..) ?_; omega) ?_⟩
      refine ⟨nd,k,kvs,ep,rfl,rfl,by refine rE (CH.set_ne (Ne.symm k4)) (rE (CH.del_ne i2) ?_); exact hnd,?_,lookup_yes (by refine rE hkv ?_; simp),fun ep' => ?_⟩
      ·have := congrArg List.length hkv
       simp at this
       lia
      repeat walk_at "x"
      refine GM_list (.own (by refine rE (CH.set_ne (Ne.symm k3)) (rE (CH.set_ne (Ne.symm Z.ne)) (rE (CH.del_ne i3) ?_)); exact hit)) F.slot_list_pop F.type_list_pop ?_
      repeat walk_at "x"
      refine ⟨KP_built,CV_pop (by refine rE (CH.set_ne (Ne.symm k3)) (rE (CH.set_ne (Ne.symm Z.ne)) (rE (CH.del_ne i3) ?_)); exact hit) (by refine rE (List.length_map ..) ?_; omega) ?_⟩
      repeat walk_at "x"
      have Z' := Z.pop (ep := ep') hkv0
      refine ⟨_,_,?_,.cons rfl (.cons rfl (.cons rfl (.cons rfl (.cons rfl (.cons rfl (.cons rfl .nil)))))),rfl,st0,seen,Z',hup0.1,?_,rfl⟩
      ·simp
      ·rw [leftS_append] at hle; lia
   ·repeat walk_at "x"
    have e : st = [] := by simpa using hb
    subst e
    refine EX_nil ?_
    refine (hRR _ _ ?_ ⟨seen,Z⟩).1
    exact .cons rfl (.cons rfl (.cons rfl (.cons rfl (.cons rfl (.cons rfl .nil)))))
 ·obtain ⟨seen,Z⟩ := hJ
  repeat walk_at "x"
  exact hR0 _ _ ⟨rfl,Z.keep⟩
end
end
section
section
variable {C : Cx} {A : Around} {m : Loc} {H : CH} {s : Shared} {mg mb : Str→Option Value} {P : Params} {a : Addr} {T : TS} {L : Lay}
theorem spec_prepare {rk : Int→Int} (hrk : ∀ k ∈ T.keys,∀ x ∈ T.sc k,x ∈ T.keys∧rk k < rk x) (hz : T.keys.length + 1 < scanBound) (B : Bs C.h₀ (KK P) mg mb) {n : Nat} (hA : AOK C A (n + 2)) (R : TSR H a T L) (hr : T.ready = none) :
  CALL C A (.con (.ref a_prepare)) [.ref a] [] H fun v H' => AEx2 (v = V.none) (fun L' => TSR H' a T.prep L') fun L' => FrameT a H T L H' T.prep L' := by
 have hz1 : T.keys.length≤sizeLine := by unfold sizeLine; unfold scanBound at hz; lia
 refine CALL_hide fun R0 hR0 => ?_
 refine CALL_K B (by with_unfolding_all rfl) (by with_unfolding_all rfl) hA .pos1 (by with_unfolding_all rfl) rfl fun LL hL hL0 hA' => ?_
 walk_at "xi"
 refine GA_own B R.top R.dict rfl ?_ (by kernel_rfl) (by unfold rdV; refine rE hr ?_; rfl)
 repeat walk_at "x"
 refine ⟨_,rfl,fun q => ?_,fun _ => ?_⟩
 ·unfold rdV at q; rw [hr] at q; cases q
 repeat walk_at "x"
 refine EV_lc ?_
 repeat walk_at "x"
 refine GA_own B R.top R.dict rfl ?_
 refine GM_dict R.n2i F.slot_dict_values F.type_dict_values ?_
 repeat walk_at "x"
 refine ⟨KP_built,CV_values B R.n2i ?_⟩
 refine LC_pure T.keys (fun k => .ref (L.bA k)) (fun k => T.np k == 0) .int (ok := fun H' => H' L.n2i = some (.dict (T.keys.map fun k => (k,.ref (L.bA k))) L.ep)) (by
  have : valsOf (T.keys.map fun k => (k,V.ref (L.bA k))) = T.keys.map fun k => V.ref (L.bA k) := by unfold valsOf; refine rE List.map_map ?_; rfl
  refine rF this ?_; exact seq_vals hA'.handled R.n2i) R.n2i hz1 (fun k hk LC hLC => ?_) fun D hD hD0 => ?_
 ·repeat walk_at "x"
  refine GA_slot (p := 69) (i := 1) B (R.node k hk) (R.nd k hk) rfl ?_
  repeat walk_at "x"
  refine ⟨_,rfl,fun q => ?_,fun q => ?_⟩
  ·repeat walk_at "x"
   refine ⟨by exact Bool.le_antisymm (fun a ↦ q) (congrFun rfl),rfl,fun _ => ?_⟩
   repeat walk_at "x"
   refine GA_slot (p := 68) (i := 0) B (R.node k hk) (R.nd k hk) rfl ?_
   exact ⟨rfl,rfl⟩
  ·exact ⟨by exact Eq.symm (BEq.neq_of_neq_of_beq q rfl),rfl,fun h => (by cases h)⟩
 repeat walk_at "x"
 refine eA (R.setSome hD hr (T.keys.filter fun k => T.np k == 0)) fun R₁ F₁ => ?_
 have low : ∀ {b : Addr} {c : CObj},H b = some c→∀ d,H.set D d b = some c := fun {b c} h d => by refine rE (CH.set_ne ((ne_at h hD))) ?_; exact h
 refine SA_own B (low R.top _) (low R.dict _) (by first | with_unfolding_all exact (by decide : (4:Nat) < 1000)) ?_
 repeat walk_at "x"
 refine GM_inst (f := a_findcycle) B R₁.top R₁.dict rfl ?_
 repeat walk_at "x"
 refine ⟨KP_K B (by with_unfolding_all rfl),CV_of ((spec_findcycle (T := T.prep) (rk := rk) hrk hz (by exact B) hA' R₁).mono ?_)⟩
 rintro v H' ⟨rfl,hkeep⟩
 repeat walk_at "x"
 walk_at "xi"
 refine OB_none ⟨fun q => (by cases q),fun _ => ?_⟩
 repeat walk_at "x"
 exact hR0 _ _ ⟨rfl,_,R₁.keep hkeep,F₁.trans fun b hb hf => ⟨hkeep b hb,hf⟩⟩
end
end
section
structure Mid (T : TS) (near : Int→List Int) (k : Int) (n : Nat) : Prop where
 np : ∀ x ∈ T.keys,T.np x = (near x).length + (if x = k then n else 0)
 sc : ∀ p ∈ T.keys,∀ x,(T.sc p).count x = (near x).count p
 sub : ∀ x,∀ p ∈ near x,p ∈ T.keys
 out : ∀ x,x ∉ T.keys→near x = []
 nodup : T.keys.Nodup
 pass : T.pass = 0
 fin : T.fin = 0
 ready : T.ready = none
noncomputable abbrev Built (T : TS) (near : Int→List Int) : Prop := ∀ k,Mid T near k 0
theorem Mid.built {T : TS} {near : Int→List Int} {k : Int} (M : Mid T near k 0) : Built T near := fun k' => ⟨fun x hx => by have := M.np x hx; simpa using this,M.sc,M.sub,M.out,M.nodup,M.pass,M.fin,M.ready⟩
theorem Built.new : Built TS.new (fun _ => []) := fun k => ⟨(by intro _ h; cases h),(by intro _ h; cases h),(by intro _ _ h; cases h),fun _ _ => rfl,.nil,rfl,rfl,rfl⟩
theorem Mid.touch {T : TS} {near : Int→List Int} {k : Int} {n : Nat} (M : Mid T near k n) (hk : n≠0→k ∈ T.keys) (p : Int) : Mid (T.touch p) near k n := by
 unfold TS.touch
 by_cases h : p ∈ T.keys
 ·refine rE (if_pos h) ?_; exact M
 ·refine rE (if_neg h) ?_
  have hne : ∀ x ∈ T.keys,x≠p := fun x hx e => h (e ▸ hx)
  refine ⟨fun x hx => ?_,fun q hq x => ?_,fun x q hq => List.mem_append_left _ (M.sub x q hq),fun x hx => M.out x fun q => hx (List.mem_append_left _ q),?_,M.pass,M.fin,M.ready⟩
  ·show upd T.np p 0 x = _
   rcases List.mem_append.mp hx with hx | hx
   ·refine rE (upd_ne (hne x hx)) ?_; exact M.np x hx
   ·refine rE (List.mem_singleton.mp hx) (rE upd_same (rE (M.out p h) ?_))
    by_cases e : p = k
    ·by_cases e0 : n = 0
     ·refine rE e0 ?_; simp
     ·exact absurd (hk e0) (e ▸ h)
    ·refine rE (if_neg e) ?_; rfl
  ·show (upd T.sc p [] q).count x = _
   rcases List.mem_append.mp hq with hq | hq
   ·refine rE (upd_ne (hne q hq)) ?_; exact M.sc q hq x
   ·refine rE (List.mem_singleton.mp hq) (rE upd_same ?_)
    exact (List.count_eq_zero.mpr fun hp => h (M.sub x p hp)).symm
  ·rw [List.nodup_append]
   exact ⟨M.nodup,by simp,fun x hx y hy => by refine rE (List.mem_singleton.mp hy) ?_; exact hne x hx⟩
theorem touch_keep {T : TS} {p x : Int} (h : x ∈ T.keys) : x ∈ (T.touch p).keys := by
 unfold TS.touch; split
 ·exact h
 ·exact List.mem_append_left _ h
theorem touch_own {T : TS} {p : Int} : p ∈ (T.touch p).keys := by
 unfold TS.touch; split
 ·assumption
 ·simp
theorem Mid.link {T : TS} {near : Int→List Int} {k p : Int} {n : Nat} (M : Mid T near k (n + 1)) (hk : k ∈ T.keys) (hp : p ∈ T.keys) : Mid (T.link p k) (upd near k (near k ++ [p])) k n := by
 refine ⟨fun x hx => ?_,fun q hq x => ?_,fun x q hq => ?_,fun x hx => ?_,M.nodup,M.pass,M.fin,M.ready⟩
 ·show T.np x = _
  refine rE (M.np x hx) ?_
  by_cases e : x = k
  ·subst e; refine rE upd_same ?_; simp; lia
  ·refine rE (upd_ne e) (rE (if_neg e) (rE (if_neg e) rfl))
 ·show (upd T.sc p (T.sc p ++ [k]) q).count x = _
  by_cases e : q = p
  ·subst e
   refine rE upd_same (rE List.count_append (rE (M.sc q hq x) ?_))
   by_cases e2 : x = k
   ·subst e2; refine rE upd_same (rE List.count_append ?_); simp
   ·refine rE (upd_ne e2) (rE List.count_singleton ?_)
    simp; exact fun h => e2 h.symm
  ·refine rE (upd_ne e) (rE (M.sc q hq x) ?_)
   by_cases e2 : x = k
   ·subst e2; refine rE upd_same (rE List.count_append (rE List.count_singleton ?_)); simp; exact fun h => e h.symm
   ·refine rE (upd_ne e2) rfl
 ·by_cases e2 : x = k
  ·subst e2; rw [upd_same] at hq
   rcases List.mem_append.mp hq with hq | hq
   ·exact M.sub x q hq
   ·refine rE (List.mem_singleton.mp hq) ?_; exact hp
  ·rw [upd_ne e2] at hq; exact M.sub x q hq
 ·have e2 : x≠k := fun e => hx (e ▸ hk)
  refine rE (upd_ne e2) ?_; exact M.out x hx
theorem upd_upd {α : Type} {f : Int→α} {k : Int} {u v : α} : upd (upd f k u) k v = upd f k v := by
 funext x; unfold upd; split <;> rfl
set_option tactic.hygienic true in
theorem upd_self {α : Type} {f : Int→α} {k : Int} : upd f k (f k) = f := by
 funext x; unfold upd; split
 ·rename_i h; refine rE h rfl
 ·rfl
theorem Mid.fold {k : Int} : ∀ {ps : List Int} {T : TS} {near : Int→List Int},Mid T near k ps.length→k ∈ T.keys→Mid (ps.foldl (fun T p => (T.touch p).link p k) T) (upd near k (near k ++ ps)) k 0∧k ∈ (ps.foldl (fun T p => (T.touch p).link p k) T).keys∧∀ x ∈ T.keys,x ∈ (ps.foldl (fun T p => (T.touch p).link p k) T).keys
 | [],T,near,M,hk => by refine rE (List.append_nil ..) (rE upd_self ?_); exact ⟨M,hk,fun x h => h⟩
 | p :: ps,T,near,M,hk => by
  have M1 := (M.touch (fun _ => hk) p).link (touch_keep hk) touch_own
  have := Mid.fold (ps := ps) M1 (touch_keep hk)
  rw [upd_upd,upd_same,List.append_assoc] at this
  exact ⟨this.1,this.2.1,fun x hx => this.2.2 x (touch_keep hx)⟩
theorem Built.add {T : TS} {near : Int→List Int} (M : Built T near) (k : Int) (ps : List Int) : Built (T.add k ps) (upd near k (near k ++ ps))∧k ∈ (T.add k ps).keys∧∀ x ∈ T.keys,x ∈ (T.add k ps).keys := by
 have M1 := (M k).touch (fun h => absurd rfl h) k
 have hk : k ∈ (T.touch k).keys := touch_own
 have M2 : Mid ((T.touch k).setNp k ((T.touch k).np k + ps.length)) near k ps.length := by
  refine ⟨fun x hx => ?_,M1.sc,M1.sub,M1.out,M1.nodup,M1.pass,M1.fin,M1.ready⟩
  show upd _ k _ x = _
  by_cases e : x = k
  ·subst e; refine rE upd_same (rE (M1.np x hx) ?_); simp
  ·refine rE (upd_ne e) (rE (M1.np x hx) (rE (if_neg e) (rE (if_neg e) rfl)))
 have := Mid.fold (ps := ps) M2 hk
 exact ⟨this.1.built,this.2.1,fun x hx => this.2.2 x (touch_keep hx)⟩
structure Run (T : TS) (near : Int→List Int) (dn out ready : List Int) : Prop where
 nodup : T.keys.Nodup
 sc : ∀ p ∈ T.keys,∀ x,(T.sc p).count x = (near x).count p
 sub : ∀ x,∀ p ∈ near x,p ∈ T.keys
 ink : ∀ x,x ∉ T.keys→near x = []
 rdy : T.ready = some ready
 np : ∀ x ∈ T.keys,x ∉ dn→x ∉ out→T.np x = ((near x).countP fun p => decide (p ∉ dn))
 npo : ∀ x ∈ out,T.np x = -1
 rmem : ∀ x,x ∈ ready↔x ∈ T.keys∧x ∉ dn∧x ∉ out∧∀ p ∈ near x,p ∈ dn
 rnd : ready.Nodup
 ond : out.Nodup
 dnd : dn.Nodup
 oks : ∀ x ∈ out,x ∈ T.keys
 dks : ∀ x ∈ dn,x ∈ T.keys
 disj : ∀ x ∈ out,x ∉ dn
 odep : ∀ x ∈ out,∀ p ∈ near x,p ∈ dn
 ddep : ∀ x ∈ dn,∀ p ∈ near x,p ∈ dn
 pass : T.pass = dn.length + out.length
 fin : T.fin = dn.length
theorem Run.start {T : TS} {near : Int→List Int} (B : Built T near) : Run T.prep near [] [] (T.keys.filter fun k => T.np k == 0) := by
 have M := B 0
 have hnp : ∀ x ∈ T.keys,T.np x = (near x).length := fun x hx => by have := M.np x hx; simpa using this
 refine ⟨M.nodup,M.sc,M.sub,M.out,rfl,fun x hx _ _ => ?_,(by intro _ h; cases h),fun x => ?_,M.nodup.filter _,.nil,.nil,(by intro _ h; cases h),(by intro _ h; cases h),(by intro _ h; cases h),(by intro _ h; cases h),(by intro _ h; cases h),M.pass,M.fin⟩
 ·show T.np x = _
  refine rE (hnp x hx) ?_; simp
 ·rw [List.mem_filter]
  constructor
  ·rintro ⟨h1,h2⟩
   refine ⟨h1,by exact List.not_mem_nil,by exact List.not_mem_nil,fun p hp => ?_⟩
   rw [hnp x h1] at h2
   have : near x = [] := by simpa using h2
   rw [this] at hp; cases hp
  ·rintro ⟨h1,_,_,h4⟩
   refine ⟨h1,?_⟩
   have : near x = [] := List.eq_nil_iff_forall_not_mem.mpr fun p hp => by cases h4 p hp
   refine rE (hnp x h1) (rE this ?_); rfl
theorem out_np {ks : List Int} : ∀ {T : TS} {x : Int},(T.out ks).np x = if x ∈ ks then -1 else T.np x := by
 induction ks with
 | nil => intro T x; simp [TS.out]
 | cons k r ih =>
  intro T x
  show ((T.setNp k (-1)).out r).np x = _
  refine rE ih ?_
  by_cases h : x ∈ r
  ·refine rE (if_pos h) (rE (if_pos (List.mem_cons_of_mem _ h)) rfl)
  ·refine rE (if_neg h) ?_
   show upd T.np k (-1) x = _
   by_cases e : x = k
   ·subst e; refine rE upd_same (rE (if_pos List.mem_cons_self) rfl)
   ·refine rE (upd_ne e) (rE (if_neg (by exact List.not_mem_cons_of_ne_of_not_mem e h)) rfl)
section
variable {T : TS} {near : Int→List Int} {dn out ready : List Int}
theorem Run.get (R : Run T near dn out ready) : Run (T.getReady ready) near dn (out ++ ready) [] := by
 have e := @TS.out_eq ready T
 have hnp : ∀ x,(T.getReady ready).np x = if x ∈ ready then -1 else T.np x := fun x => out_np
 have hk : (T.getReady ready).keys = T.keys := e.1
 have hs : (T.getReady ready).sc = T.sc := e.2.2.2.2
 refine ⟨by refine rE hk ?_; exact R.nodup,by refine rE hk (rE hs ?_); exact R.sc,by refine rE hk ?_; exact R.sub,by refine rE hk ?_; exact R.ink,rfl,fun x hx h1 h2 => ?_,fun x hx => ?_,fun x => ?_,.nil,?_,R.dnd,fun x hx => ?_,by refine rE hk ?_; exact R.dks,fun x hx => ?_,fun x hx => ?_,R.ddep,?_,?_⟩
 ·rw [hk] at hx
  rw [List.mem_append,not_or] at h2
  refine rE (hnp ..) (rE (if_neg h2.2) ?_); exact R.np x hx h1 h2.1
 ·refine rE (hnp ..) ?_
  by_cases h : x ∈ ready
  ·refine rE (if_pos h) rfl
  ·refine rE (if_neg h) ?_; exact R.npo x ((List.mem_append.mp hx).resolve_right h)
 ·refine rE hk ?_
  refine ⟨fun h => (by cases h),fun ⟨h1,h2,h3,h4⟩ => ?_⟩
  rw [List.mem_append,not_or] at h3
  exact absurd ((R.rmem x).mpr ⟨h1,h2,h3.1,h4⟩) h3.2
 ·rw [List.nodup_append]
  exact ⟨R.ond,R.rnd,fun x hx y hy e => ((R.rmem y).mp hy).2.2.1 (e ▸ hx)⟩
 ·refine rE hk ?_
  rcases List.mem_append.mp hx with h | h
  ·exact R.oks x h
  ·exact ((R.rmem x).mp h).1
 ·rcases List.mem_append.mp hx with h | h
  ·exact R.disj x h
  ·exact ((R.rmem x).mp h).2.1
 ·rcases List.mem_append.mp hx with h | h
  ·exact R.odep x h
  ·exact ((R.rmem x).mp h).2.2.2
 ·show T.pass + _ = _
  refine rE R.pass (rE List.length_append ?_); lia
 ·show (T.out ready).fin = _
  refine rE e.2.2.2.1 ?_; exact R.fin
theorem relN : ∀ {l : List Int} {T : TS} {r : List Int},T.ready = some r→(∀ x ∈ l,(l.count x : Int)≤T.np x)→(∀ x ∈ l,x ∉ r)→r.Nodup →
  ∃ r',(l.foldl TS.rel T).ready = some r'∧(∀ x,x ∈ r'↔x ∈ r∨(x ∈ l∧T.np x = l.count x))∧r'.Nodup∧∀ x,(l.foldl TS.rel T).np x = T.np x - l.count x
 | [],T,r,h,_,_,hn => ⟨r,h,fun x => by simp,hn,fun x => by simp⟩
 | y :: t,T,r,h,hc,hd,hn => by
  have hy := hc y List.mem_cons_self
  rw [List.count_cons_self] at hy
  have hnp : ∀ x,(T.rel y).np x = if x = y then T.np y - 1 else T.np x := fun x => by
   show upd T.np y _ x = _; unfold upd; rfl
  have hc' : ∀ x ∈ t,(t.count x : Int)≤(T.rel y).np x := fun x hx => by
   refine rE (hnp ..) ?_
   by_cases e : x = y
   ·subst e; refine rE (if_pos rfl) ?_; exact Int.le_sub_one_of_lt hy
   ·refine rE (if_neg e) ?_; have := hc x (List.mem_cons_of_mem _ hx); rw [List.count_cons_of_ne (fun q => e q.symm)] at this; exact this
  by_cases e0 : T.np y - 1 = 0
  ·have hyt : y ∉ t := fun q => by have := List.count_pos_iff.mpr q; lia
   have h1 : (T.rel y).ready = some (r ++ [y]) := by show (if _ then _ else _) = _; refine rE (if_pos e0) (rE h ?_); rfl
   obtain ⟨r',a1,a2,a3,a4⟩ := relN (l := t) h1 hc' (fun x hx => by
    rw [List.mem_append,List.mem_singleton,not_or]; exact ⟨hd x (List.mem_cons_of_mem _ hx),fun e => hyt (e ▸ hx)⟩) (by
    rw [List.nodup_append]; exact ⟨hn,by simp,fun x hx z hz e => hd y List.mem_cons_self (by refine rF (List.mem_singleton.mp hz) (rF e ?_); exact hx)⟩)
   refine ⟨r',a1,fun x => ?_,a3,fun x => ?_⟩
   ·rewrite [a2]; refine rE (hnp ..) ?_; rewrite [List.mem_append,List.mem_singleton,List.mem_cons]
    by_cases e : x = y
    ·subst e
     refine rE List.count_cons_self (rE (List.count_eq_zero.mpr hyt) ?_)
     have : T.np x = 1 := by exact (Int.add_left_inj (-1)).mp e0
     simp [this]
    ·refine rE (if_neg e) (rE (List.count_cons_of_ne (fun q => e q.symm)) ?_); simp [e]
   ·show (t.foldl TS.rel (T.rel y)).np x = _
    refine rE (a4 ..) (rE (hnp ..) ?_)
    by_cases e : x = y
    ·subst e; refine rE (if_pos rfl) (rE List.count_cons_self ?_); lia
    ·refine rE (if_neg e) (rE (List.count_cons_of_ne (fun q => e q.symm)) rfl)
  ·have h1 : (T.rel y).ready = some r := by show (if _ then _ else _) = _; refine rE (if_neg e0) (rE h rfl)
   refine eEAAA (relN (l := t) h1 hc' (fun x hx => hd x (List.mem_cons_of_mem _ hx)) hn) fun r' a1 a2 a3 a4 => ?_
   refine ⟨r',a1,fun x => ?_,a3,fun x => ?_⟩
   ·rewrite [a2]; refine rE (hnp ..) ?_; rewrite [List.mem_cons]
    by_cases e : x = y
    ·subst e
     refine rE (if_pos rfl) (rE List.count_cons_self ?_)
     have hxr := hd x List.mem_cons_self
     simp only [hxr,false_or,true_or,true_and]
     constructor
     ·rintro ⟨_,h⟩; lia
     ·intro h
      have hp : 0 < t.count x := by lia
      exact ⟨List.count_pos_iff.mp hp,by exact Int.sub_eq_iff_eq_add.mpr h⟩
    ·refine rE (if_neg e) (rE (List.count_cons_of_ne (fun q => e q.symm)) ?_); simp [e]
   ·show (t.foldl TS.rel (T.rel y)).np x = _
    refine rE (a4 ..) (rE (hnp ..) ?_)
    by_cases e : x = y
    ·subst e; refine rE (if_pos rfl) (rE List.count_cons_self ?_); lia
    ·refine rE (if_neg e) (rE (List.count_cons_of_ne (fun q => e q.symm)) rfl)
theorem countP_out {dn : List Int} {k : Int} (hk : k ∉ dn) : ∀ {l : List Int},(l.countP fun p => decide (p ∉ dn)) = (l.countP fun p => decide (p ∉ k :: dn)) + l.count k
 | [] => rfl
 | a :: l => by
  have ih := countP_out hk (l := l)
  by_cases e : a = k
  ·subst e; refine rE (List.countP_cons_of_pos (by exact decide_eq_true hk)) (rE (List.countP_cons_of_neg (by simp)) (rE List.count_cons_self ?_)); exact Nat.add_left_inj.mpr ih
  ·by_cases h : a ∈ dn
   ·refine rE (List.countP_cons_of_neg (by simp [h])) (rE (List.countP_cons_of_neg (by simp [h])) (rE (List.count_cons_of_ne e) ?_)); exact ih
   ·refine rE (List.countP_cons_of_pos (by exact decide_eq_true h)) (rE (List.countP_cons_of_pos (by simp [h,e])) (rE (List.count_cons_of_ne e) ?_)); lia
theorem Run.done (R : Run T near dn out ready) {k : Int} (hk : k ∈ out) : ∃ ready',Run (T.done1 k) near (k :: dn) (out.erase k) ready' := by
 have hkd := R.disj k hk
 have hkk := R.oks k hk
 have scmem : ∀ x,x ∈ T.sc k↔k ∈ near x := fun x => by
  have := R.sc k hkk x
  rewrite [← List.count_pos_iff]; refine rE this ?_; rw [List.count_pos_iff]
 have hx1 : ∀ x ∈ T.sc k,x ∈ T.keys∧x ∉ dn∧x ∉ out∧x≠k := fun x hx => by
  have h := (scmem x).mp hx
  refine ⟨?_,fun q => hkd (R.ddep x q k h),fun q => hkd (R.odep x q k h),fun q => hkd (R.odep k hk k (q ▸ h))⟩
  apply Classical.byContradiction
  intro q
  rw [R.ink x q] at h; cases h
 have e := @done1_eq T k
 have hnp0 : ∀ x,x≠k→(T.setNp k (-2)).np x = T.np x := fun x hx => upd_ne hx
 obtain ⟨r',a1,a2,a3,a4⟩ := relN (l := T.sc k) (T := T.setNp k (-2)) (r := ready) R.rdy (fun x hx => by
  refine eAAA (hx1 x hx) fun h1 h2 h3 h4 => ?_
  refine rE (hnp0 x h4) (rE (R.np x h1 h2 h3) (rE (R.sc k hkk x) (rE (countP_out hkd) ?_))); lia) (fun x hx q => hkd (((R.rmem x).mp q).2.2.2 k ((scmem x).mp hx))) R.rnd
 have hk' : (T.done1 k).keys = T.keys := e.1
 have hs : (T.done1 k).sc = T.sc := e.2.2.2
 have hnp : ∀ x,(T.done1 k).np x = (T.setNp k (-2)).np x - (T.sc k).count x := a4
 have hmem : ∀ x,x ∈ out.erase k→x ∈ out∧x≠k := fun x hx => ⟨List.mem_of_mem_erase hx,fun e => by subst e; exact (List.Nodup.not_mem_erase R.ond) hx⟩
 refine ⟨r',by refine rE hk' ?_; exact R.nodup,by refine rE hk' (rE hs ?_); exact R.sc,by refine rE hk' ?_; exact R.sub,by refine rE hk' ?_; exact R.ink,a1,fun x hx h1 h2 => ?_,fun x hx => ?_,fun x => ?_,a3,R.ond.erase k,?_,fun x hx => ?_,fun x hx => ?_,fun x hx => ?_,fun x hx p hp => ?_,fun x hx p hp => ?_,?_,?_⟩
 ·rw [hk'] at hx
  rw [List.mem_cons,not_or] at h1
  have h2' : x ∉ out := fun q => h2 ((List.mem_erase_of_ne h1.1).mpr q)
  refine rE (hnp ..) (rE (hnp0 x h1.1) (rE (R.np x hx h1.2 h2') (rE (R.sc k hkk x) (rE (countP_out hkd) ?_)))); exact Int.sub_eq_iff_eq_add.mpr rfl
 ·refine eA (hmem x hx) fun h1 h2 => ?_
  refine rE (hnp ..) (rE (hnp0 x h2) (rE (R.npo x h1) (rE (List.count_eq_zero.mpr (fun q => (hx1 x q).2.2.1 h1)) ?_))); rfl
 ·rewrite [a2]; refine rE hk' ?_; rewrite [R.rmem]
  constructor
  ·rintro (⟨h1,h2,h3,h4⟩ | ⟨h1,h2⟩)
   ·have hxk : x≠k := fun q => h3 (q ▸ hk)
    exact ⟨h1,by rw [List.mem_cons,not_or]; exact ⟨hxk,h2⟩,fun q => h3 (List.mem_of_mem_erase q),fun p hp => List.mem_cons_of_mem _ (h4 p hp)⟩
   ·refine eAAA (hx1 x h1) fun b1 b2 b3 b4 => ?_
    refine ⟨b1,by rw [List.mem_cons,not_or]; exact ⟨b4,b2⟩,fun q => b3 (List.mem_of_mem_erase q),fun p hp => ?_⟩
    rw [hnp0 x b4,R.np x b1 b2 b3,R.sc k hkk x,countP_out hkd] at h2
    have h0 : (near x).countP (fun p => decide (p ∉ k :: dn)) = 0 := by lia
    have := List.countP_eq_zero.mp h0 p hp
    exact Classical.byContradiction fun q => this (decide_eq_true q)
  ·rintro ⟨h1,h2,h3,h4⟩
   rw [List.mem_cons,not_or] at h2
   have h3' : x ∉ out := fun q => h3 ((List.mem_erase_of_ne h2.1).mpr q)
   by_cases q : k ∈ near x
   ·refine .inr ⟨(scmem x).mpr q,?_⟩
    refine rE (hnp0 x h2.1) (rE (R.np x h1 h2.2 h3') (rE (R.sc k hkk x) (rE (countP_out hkd) ?_)))
    have h0 : (near x).countP (fun p => decide (p ∉ k :: dn)) = 0 := List.countP_eq_zero.mpr fun p hp q => (of_decide_eq_true q) (h4 p hp)
    lia
   ·refine .inl ⟨h1,h2.2,h3',fun p hp => ?_⟩
    rcases List.mem_cons.mp (h4 p hp) with h | h
    ·exact absurd (h ▸ hp) q
    ·exact h
 ·rw [List.nodup_cons]; exact ⟨hkd,R.dnd⟩
 ·refine rE hk' ?_; exact R.oks x (hmem x hx).1
 ·refine rE hk' ?_
  rcases List.mem_cons.mp hx with h | h
  ·exact h ▸ hkk
  ·exact R.dks x h
 ·rw [List.mem_cons,not_or]; exact ⟨(hmem x hx).2,R.disj x (hmem x hx).1⟩
 ·exact List.mem_cons_of_mem _ (R.odep x (hmem x hx).1 p hp)
 ·rcases List.mem_cons.mp hx with h | h
  ·subst h; exact List.mem_cons_of_mem _ (R.odep x hk p hp)
  ·exact List.mem_cons_of_mem _ (R.ddep x h p hp)
 ·refine rE e.2.1 (rE R.pass (rE List.length_cons (rE (List.length_erase_of_mem hk) ?_)))
  have := List.length_pos_of_mem hk; grind
 ·refine rE e.2.2.1 (rE R.fin (rE List.length_cons ?_)); exact Int.ofNat_add_one_out dn.length
theorem Run.all (R : Run T near dn [] []) {rk : Int→Nat} (hrk : ∀ x ∈ T.keys,∀ p ∈ near x,rk p < rk x) : ∀ x ∈ T.keys,x ∈ dn := by
 have : ∀ n x,rk x < n→x ∈ T.keys→x ∈ dn := by
  intro n
  induction n with
  | zero => intro x h; contradiction
  | succ n ih =>
   intro x h hx
   apply Classical.byContradiction
   intro q
   have := (R.rmem x).mpr ⟨hx,q,by exact List.not_mem_nil,fun p hp => ih p (by have := hrk x hx p hp; lia) (R.sub x p hp)⟩
   cases this
 exact fun x hx => this (rk x + 1) x (Nat.lt_succ_self _) hx
end
end
section
noncomputable def addL (l : List (Int × List Int)) : TS := l.foldl (fun T p => T.add p.1 p.2) TS.new
noncomputable def nearL (l : List (Int × List Int)) : Int→List Int := l.foldl (fun nr p => upd nr p.1 (nr p.1 ++ p.2)) fun _ => []
theorem addL_snoc {l : List (Int × List Int)} {k : Int} {ps : List Int} : addL (l ++ [(k,ps)]) = (addL l).add k ps := by unfold addL; refine rE List.foldl_append ?_; rfl
theorem nearL_snoc {l : List (Int × List Int)} {k : Int} {ps : List Int} : nearL (l ++ [(k,ps)]) = upd (nearL l) k (nearL l k ++ ps) := by unfold nearL; refine rE List.foldl_append ?_; rfl
theorem snoc_ind {α : Type} {P : List α→Prop} (h0 : P []) (h1 : ∀ l a,P l→P (l ++ [a])) (l : List α) : P l := by
 refine rF (List.reverse_reverse l) ?_
 induction l.reverse with
 | nil => exact h0
 | cons a r ih => refine rE List.reverse_cons ?_; exact h1 _ _ ih
theorem addL_built (l : List (Int × List Int)) : Built (addL l) (nearL l)∧∀ p ∈ l,p.1 ∈ (addL l).keys := by
 induction l using snoc_ind with
 | h0 => exact ⟨Built.new,by intro _ h; cases h⟩
 | h1 l p ih =>
  obtain ⟨k,ps⟩ := p
  refine rE addL_snoc (rE nearL_snoc ?_)
  refine eAA (ih.1.add k ps) fun h1 h2 h3 => ?_
  refine ⟨h1,fun q hq => ?_⟩
  rcases List.mem_append.mp hq with h | h
  ·exact h3 _ (ih.2 q h)
  ·refine rE (List.mem_singleton.mp h) ?_; exact h2
theorem TS.Le.add {T : TS} {n : Nat} (h : T.Le n) (k : Int) (ps : List Int) : (T.add k ps).Le (n + 1 + 2 * ps.length) := add_le (k := k) (ps := ps) ((h.touch k).setNp k _)
noncomputable def addAll (near : Int→List Int) (i : Nat) : TS := (List.range i).foldl (fun T k => T.add (k : Nat) (near (k : Nat))) TS.new
theorem addL_le {M : Nat} (l : List (Int × List Int)) (h : ∀ p ∈ l,p.2.length≤M) : (addL l).Le (l.length * (1 + 2 * M)) := by
 induction l using snoc_ind with
 | h0 => exact ⟨Nat.zero_le _,fun k => Nat.zero_le _⟩
 | h1 l p ih =>
  obtain ⟨k,ps⟩ := p
  refine rE addL_snoc ?_
  refine ((ih fun q hq => h q (List.mem_append_left _ hq)).add _ _).mono ?_
  have := h (k,ps) (List.mem_append_right _ (List.mem_singleton.mpr rfl))
  have e : (l ++ [(k,ps)]).length * (1 + 2 * M) = l.length * (1 + 2 * M) + (1 + 2 * M) := by refine rE List.length_append (rE List.length_singleton (rE (Nat.add_mul ..) (rE (Nat.one_mul ..) rfl)))
  have e2 : ps.length≤M := this
  refine rE e ?_
  (clear this e; lia)
theorem add_keys {Q : Int→Prop} {T : TS} {k : Int} {ps : List Int} (hT : ∀ x ∈ T.keys,Q x) (hk : Q k) (hp : ∀ p ∈ ps,Q p) : ∀ x ∈ (T.add k ps).keys,Q x := by
 have touch : ∀ {T : TS} {p : Int},(∀ x ∈ T.keys,Q x)→Q p→∀ x ∈ (T.touch p).keys,Q x := fun {T p} h hp x hx => by
  unfold TS.touch at hx
  split at hx
  ·exact h x hx
  ·rcases List.mem_append.mp hx with hx | hx
   ·exact h x hx
   ·refine rE (List.mem_singleton.mp hx) ?_; exact hp
 have fold : ∀ {ps : List Int} {T : TS},(∀ x ∈ T.keys,Q x)→(∀ p ∈ ps,Q p)→∀ x ∈ (ps.foldl (fun T p => (T.touch p).link p k) T).keys,Q x := by
  intro ps
  induction ps with
  | nil => intro T h _ x hx; exact h x hx
  | cons p ps ih =>
   intro T h hp x hx
   exact ih (T := (T.touch p).link p k) (touch h (hp p List.mem_cons_self)) (fun q hq => hp q (List.mem_cons_of_mem _ hq)) x hx
 unfold TS.add
 exact fold (T := (T.touch k).setNp k ((T.touch k).np k + ps.length)) (touch hT hk) hp
theorem addL_keys {Q : Int→Prop} (l : List (Int × List Int)) (h : ∀ p ∈ l,Q p.1∧∀ x ∈ p.2,Q x) : ∀ x ∈ (addL l).keys,Q x := by
 induction l using snoc_ind with
 | h0 => intro x hx; cases hx
 | h1 l p ih =>
  obtain ⟨k,ps⟩ := p
  refine rE addL_snoc ?_
  refine eA (h (k,ps) (List.mem_append_right _ (List.mem_singleton.mpr rfl))) fun a b => ?_
  exact add_keys (ih fun q hq => h q (List.mem_append_left _ hq)) a b
theorem mem_nearL (l : List (Int × List Int)) : ∀ v x,x ∈ nearL l v↔∃ p ∈ l,p.1 = v∧x ∈ p.2 := by
 induction l using snoc_ind with
 | h0 => intro v x; constructor; (intro h; cases h); rintro ⟨_,h,_⟩; cases h
 | h1 l p ih =>
  obtain ⟨k,ps⟩ := p
  intro v x
  refine rE nearL_snoc ?_
  by_cases e : v = k
  ·subst e
   refine rE upd_same ?_; rewrite [List.mem_append,ih]
   constructor
   ·rintro (⟨q,h1,h2⟩ | h)
    ·exact ⟨q,List.mem_append_left _ h1,h2⟩
    ·exact ⟨_,List.mem_append_right _ (List.mem_singleton.mpr rfl),rfl,h⟩
   ·rintro ⟨q,h1,h2,h3⟩
    rcases List.mem_append.mp h1 with h | h
    ·exact .inl ⟨q,h,h2,h3⟩
    ·rw [List.mem_singleton.mp h] at h3; exact .inr h3
  ·refine rE (upd_ne e) ?_; rewrite [ih]
   constructor
   ·rintro ⟨q,h1,h2⟩; exact ⟨q,List.mem_append_left _ h1,h2⟩
   ·rintro ⟨q,h1,h2,h3⟩
    rcases List.mem_append.mp h1 with h | h
    ·exact ⟨q,h,h2,h3⟩
    ·rw [List.mem_singleton.mp h] at h2; exact absurd h2.symm e
theorem Run.doneN {near : Int→List Int} {ns : List Int} : ∀ {T : TS} {dn rest ready : List Int},Run T near dn (ns ++ rest) ready→(∃ ready',Run (T.doneN ns) near (ns.reverse ++ dn) rest ready')∧∀ i k,ns[i]? = some k→k ∈ T.keys∧(T.doneN (ns.take i)).np k = -1 := by
 induction ns with
 | nil => intro T dn rest ready R; exact ⟨⟨ready,R⟩,fun i k h => by simp at h⟩
 | cons a r ih =>
  intro T dn rest ready R
  refine eE (R.done (k := a) List.mem_cons_self) fun ready' R' => ?_
  rw [List.cons_append,List.erase_cons_head] at R'
  obtain ⟨⟨r2,R2⟩,h2⟩ := ih R'
  refine ⟨⟨r2,?_⟩,fun i k hk => ?_⟩
  ·refine rE List.reverse_cons (rE (List.append_assoc ..) ?_); exact R2
  ·cases i with
   | zero =>
    obtain rfl : a = k := by simpa using hk
    exact ⟨R.oks _ List.mem_cons_self,R.npo _ List.mem_cons_self⟩
   | succ i =>
    refine eA (h2 i k (by simpa using hk)) fun g1 g2 => ?_
    rw [done1_eq.1] at g1
    exact ⟨g1,g2⟩
end
section
theorem TSR.more {H H' : CH} {a : Addr} {T : TS} {L : Lay} (k : ∀ b,H b≠none→H' b = H b) (R : TSR H a T L) : TSR H' a T L := by
 have k' : ∀ {b : Addr} {o : CObj},H b = some o→H' b = some o := fun {b o} e => (k b (sn e)).trans e
 exact ⟨k' R.top,k' R.dict,k' R.n2i,fun r e => k' (R.rdy r e),fun x hx => k' (R.node x hx),fun x hx => k' (R.nd x hx),fun x hx => k' (R.succ x hx),R.inj,R.rdn,R.nodup⟩
theorem TSR.keepF {H H' : CH} {a : Addr} {T : TS} {L : Lay} (k : ∀ b,H b≠none→Foot a T L b→H' b = H b) (R : TSR H a T L) : TSR H' a T L := by
 have k' : ∀ {b : Addr} {o : CObj},H b = some o→Foot a T L b→H' b = some o := fun {b o} e f => (k b (sn e) f).trans e
 exact ⟨k' R.top (.inl rfl),k' R.dict (.inr (.inl rfl)),k' R.n2i (.inr (.inr (.inl rfl))),fun r e => k' (R.rdy r e) (.inr (.inr (.inr (.inl ⟨by refine rE e ?_; simp,rfl⟩)))),fun x hx => k' (R.node x hx) (.inr (.inr (.inr (.inr ⟨x,hx,.inl rfl⟩)))),fun x hx => k' (R.nd x hx) (.inr (.inr (.inr (.inr ⟨x,hx,.inr (.inl rfl)⟩)))),fun x hx => k' (R.succ x hx) (.inr (.inr (.inr (.inr ⟨x,hx,.inr (.inr rfl)⟩)))),R.inj,R.rdn,R.nodup⟩
theorem TSR.nofoot {H : CH} {a : Addr} {T : TS} {L : Lay} (R : TSR H a T L) {x : Addr} (hx : H x = none) : ¬ Foot a T L x := fun f => by
 rcases f with e | e | e | ⟨hr,e⟩ | ⟨k,hk,e | e | e⟩
 ·exact absurd e (ne_at hx R.top)
 ·exact absurd e (ne_at hx R.dict)
 ·exact absurd e (ne_at hx R.n2i)
 ·refine eE (Option.ne_none_iff_exists'.mp hr) fun r h => ?_
  exact absurd e (ne_at hx (R.rdy _ h))
 ·exact absurd e (ne_at hx (R.node k hk))
 ·exact absurd e (ne_at hx (R.nd k hk))
 ·exact absurd e (ne_at hx (R.succ k hk))
structure S1 (a : Addr) (T : TS) (L : Lay) (M H : CH) : Prop where
 ru : TSR H a T L
 fr : ∀ x c,M x = some c→H x = some c∧¬ Foot a T L x
section
variable {a : Addr} {T T' : TS} {L L' : Lay} {M H H' : CH} {x : Addr} {c : CObj}
theorem S1.get (Z : S1 a T L M H) (h : M x = some c) : H x = some c := (Z.fr x c h).1
theorem S1.new (Z : S1 a T L M H) (h : H x = none) : M x = none := by
 cases q : M x with
 | none => rfl
 | some c => exact (no2 (Z.get q) h).elim
theorem S1.set (Z : S1 a T L M H) (hx : M x≠none∨H x = none) : S1 a T L (M.set x c) (H.set x c) := by
 have f1 : ¬ Foot a T L x := by
  rcases hx with h | h
  ·cases q : M x with
   | none => exact absurd q h
   | some c => exact (Z.fr x c q).2
  ·exact Z.ru.nofoot h
 refine ⟨Z.ru.keepF fun y hy f => CH.set_ne fun e => f1 (by refine rF e ?_; exact f),fun y d e => ?_⟩
 by_cases q : y = x
 ·subst q; rw [CH.set_same] at e; cases e; exact ⟨CH.set_same,f1⟩
 ·rw [CH.set_ne q] at e
  refine eA (Z.fr y d e) fun g1 g2 => ?_
  exact ⟨(CH.set_ne q).trans g1,g2⟩
theorem S1.more (Z : S1 a T L M H) (k : Kept H H') : S1 a T L M H' :=
 ⟨Z.ru.more k,fun y d e => let ⟨g1,g2⟩ := Z.fr y d e; ⟨k.at g1,g2⟩⟩
theorem S1.step (Z : S1 a T L M H) (R : TSR H' a T' L') (F : FrameT a H T L H' T' L') : S1 a T' L' M H' := by
 refine ⟨R,fun y d e => ?_⟩
 refine eA (Z.fr y d e) fun g1 g2 => ?_
 obtain ⟨h1,h2⟩ := F y (sn g1) g2
 exact ⟨h1.trans g1,h2⟩
end
noncomputable def adsM (near : Nat→List Nat) (i : Nat) : List (Int × List Int) := (List.range i).map fun j : Nat => ((j : Int),(near j).map fun a : Nat => (a : Int))
theorem adsM_succ {near : Nat→List Nat} {i : Nat} : adsM near (i + 1) = adsM near i ++ [((i : Int),(near i).map fun a : Nat => (a : Int))] := by
 unfold adsM; refine rE List.range_succ (rE List.map_append ?_); rfl
theorem adsM_len {near : Nat→List Nat} {i : Nat} : (adsM near i).length = i := by unfold adsM; refine rE (List.length_map ..) (rE List.length_range rfl)
theorem adsM_two {near : Nat→List Nat} {i M : Nat} (h : ∀ j,j < i→(near j).length≤M) : ∀ p ∈ adsM near i,p.2.length≤M := fun p hp => by
 refine eEA (List.mem_map.mp hp) fun j hj zz2 => ?_; subst zz2
 refine rE (List.length_map ..) ?_; exact h j (List.mem_range.mp hj)
theorem adsM_near {near : Nat→List Nat} {N : Nat} {v x : Int} : x ∈ nearL (adsM near N) v↔∃ c k : Nat,x = c∧v = k∧k < N∧c ∈ near k := by
 rw [mem_nearL]
 constructor
 ·rintro ⟨p,hp,rfl,hx⟩
  refine eEA (List.mem_map.mp hp) fun j hj zz2 => ?_; subst zz2
  refine eEA (List.mem_map.mp hx) fun c hc zz2 => ?_; subst zz2
  exact ⟨c,j,rfl,rfl,List.mem_range.mp hj,hc⟩
 ·rintro ⟨c,k,rfl,rfl,hk,hc⟩
  exact ⟨_,List.mem_map.mpr ⟨k,List.mem_range.mpr hk,rfl⟩,rfl,List.mem_map.mpr ⟨c,hc,rfl⟩⟩
theorem adsM_keys {near : Nat→List Nat} {N : Nat} (h : ∀ j,j < N→∀ a ∈ near j,a < N) {x : Int} : x ∈ (addL (adsM near N)).keys↔∃ k : Nat,x = k∧k < N := by
 constructor
 ·refine addL_keys (Q := fun x => ∃ k : Nat,x = k∧k < N) _ (fun p hp => ?_) x
  refine eEA (List.mem_map.mp hp) fun j hj zz2 => ?_; subst zz2
  have hj := List.mem_range.mp hj
  refine ⟨⟨j,rfl,hj⟩,fun x hx => ?_⟩
  refine eEA (List.mem_map.mp hx) fun c hc zz2 => ?_; subst zz2
  exact ⟨c,rfl,h j hj c hc⟩
 ·rintro ⟨k,rfl,hk⟩
  exact (addL_built _).2 _ (List.mem_map.mpr ⟨k,List.mem_range.mpr hk,rfl⟩)
theorem sc_near {T : TS} {near : Int→List Int} (hB : Built T near) {k x : Int} (hk : k ∈ T.keys) (hx : x ∈ T.sc k) : x ∈ T.keys∧k ∈ near x := by
 have h1 := (hB 0).sc k hk x
 have h2 : k ∈ near x := List.count_pos_iff.mp (by refine rF h1 ?_; exact List.count_pos_iff.mpr hx)
 refine ⟨Classical.byContradiction fun q => ?_,h2⟩
 rw [(hB 0).out x q] at h2; cases h2
theorem keys_few {l : List Int} {N : Nat} (hd : l.Nodup) (h : ∀ x ∈ l,∃ k : Nat,x = k∧k < N) : l.length≤N := by
 have := nodup_le (k := (List.range N).map fun k : Nat => (k : Int)) hd fun x hx => by
  refine eEA (h x hx) fun k zz1 hk => ?_; subst zz1
  exact List.mem_map.mpr ⟨k,List.mem_range.mpr hk,rfl⟩
 rw [List.length_map,List.length_range] at this; exact this
end
section
noncomputable abbrev a_wishes : Addr := 201
theorem g_range {P : Params} : nsIn (KK P) mainGlobals "range" = some none := by kernel_rfl
theorem b_range : bootBuiltins "range" = some (.type "range") := by kernel_rfl
inductive SetA (C : Cx) (An : Nat→Nat→Prop) (k : Nat) (c : CObj) : Prop
 | mk (o : Obj) (us : List Int) (e : c = .raw o) (hS : ISet C.prog C.w o us) (ht : Tiny us) (hm : ∀ x,x ∈ us↔∃ a : Nat,x = a∧An a k)
structure Sets (C : Cx) (N : Nat) (An : Nat→Nat→Prop) (H : CH) (la : Addr) (ts : List Addr) (H' : CH) : Prop where
 la_ : H' la = some (.list (ts.map .ref))
 len : ts.length = N
 nd : ts.Nodup
 at_ : ∀ k t,ts[k]? = some t→H t = none∧∃ c,H' t = some c∧SetA C An k c
 new : H la = none
structure Nears (N : Nat) (near : Nat→List Nat) (H : CH) (ln : Addr) (ns : List Addr) (H' : CH) : Prop where
 ln_ : H' ln = some (.list (ns.map .ref))
 len : ns.length = N
 nd : ns.Nodup
 at_ : ∀ k t,ns[k]? = some t→H t = none∧H' t = some (.list ((near k).map intN))
 out : ln ∉ ns
 new : H ln = none
theorem SetA.congr {C : Cx} {An An' : Nat→Nat→Prop} {k : Nat} {c : CObj} (h : SetA C An k c) (e : ∀ a,An a k↔An' a k) : SetA C An' k c := by
 obtain ⟨o,us,rfl,hS,ht,hm⟩ := h
 exact ⟨o,us,rfl,hS,ht,fun x => (hm x).trans (exists_congr fun a => and_congr_right fun _ => e a)⟩
theorem Sets.la_ne {C : Cx} {N : Nat} {An : Nat→Nat→Prop} {H H' : CH} {la : Addr} {ts : List Addr} (S : Sets C N An H la ts H') {t : Addr} (ht : t ∈ ts) : t≠la := by
 refine eE (List.mem_iff_getElem?.mp ht) fun i hi => ?_
 obtain ⟨_,c,h1,o,us,rfl,_⟩ := S.at_ i t hi
 exact ne_at h1 S.la_
theorem Sets.congr {C : Cx} {N : Nat} {An An' : Nat→Nat→Prop} {H H' : CH} {la : Addr} {ts : List Addr} (S : Sets C N An H la ts H') (he : ∀ j,j < N→∀ a,An a j↔An' a j) : Sets C N An' H la ts H' :=
 ⟨S.la_,S.len,S.nd,fun k t hk => let ⟨a,d,e,f⟩ := S.at_ k t hk; ⟨a,d,e,f.congr (he k (by refine rF S.len ?_; exact (List.getElem?_eq_some_iff.mp hk).1))⟩,S.new⟩
theorem Sets.put {C : Cx} {N : Nat} {An : Nat→Nat→Prop} {H H' : CH} {la x : Addr} {c : CObj} {ts : List Addr} (S : Sets C N An H la ts H') (h1 : la≠x) (h2 : x ∉ ts) : Sets C N An H la ts (H'.set x c) :=
 ⟨at_ne h1 S.la_,S.len,S.nd,fun k t hk => let ⟨a,d,e,f⟩ := S.at_ k t hk; ⟨a,d,at_ne (fun q => h2 (q ▸ List.mem_of_getElem? hk)) e,f⟩,S.new⟩
theorem Nears.put {N : Nat} {near : Nat→List Nat} {H H' : CH} {ln x : Addr} {c : CObj} {ns : List Addr} (S : Nears N near H ln ns H') (h1 : ln≠x) (h2 : x ∉ ns) : Nears N near H ln ns (H'.set x c) :=
 ⟨at_ne h1 S.ln_,S.len,S.nd,fun k t hk => let ⟨a,e⟩ := S.at_ k t hk; ⟨a,at_ne (fun q => h2 (q ▸ List.mem_of_getElem? hk)) e⟩,S.out,S.new⟩
theorem Sets.fresh {C : Cx} {N : Nat} {An : Nat→Nat→Prop} {H H' : CH} {la x : Addr} {ts : List Addr} (S : Sets C N An H la ts H') (h : H' x = none) : la≠x∧x ∉ ts :=
 ⟨ne_out (sn S.la_) h,fun q => by
  refine eE (List.mem_iff_getElem?.mp q) fun i hi => ?_
  obtain ⟨_,c,h1,_⟩ := S.at_ i x hi
  rw [h] at h1; cases h1⟩
theorem Nears.fresh {N : Nat} {near : Nat→List Nat} {H H' : CH} {ln x : Addr} {ns : List Addr} (S : Nears N near H ln ns H') (h : H' x = none) : ln≠x∧x ∉ ns :=
 ⟨ne_out (sn S.ln_) h,fun q => by
  refine eE (List.mem_iff_getElem?.mp q) fun i hi => ?_
  refine eA (S.at_ i x hi) fun _ h1 => ?_
  rw [h] at h1; cases h1⟩
theorem Sets.kept {C : Cx} {N : Nat} {An : Nat→Nat→Prop} {H H' H'' : CH} {la : Addr} {ts : List Addr} (S : Sets C N An H la ts H') (k : Kept H' H'') : Sets C N An H la ts H'' :=
 ⟨k.at S.la_,S.len,S.nd,fun j t hj => let ⟨a,d,e,f⟩ := S.at_ j t hj; ⟨a,d,k.at e,f⟩,S.new⟩
theorem Sets.start {C : Cx} {N : Nat} {An : Nat→Nat→Prop} {H H₁ : CH} {la : Addr} {ts : List Addr} (NO : NewOs H (SetA C An) ts H₁) (hl : ts.length = N) (h : H₁ la = none) : Sets C N An H la ts (H₁.set la (.list (ts.map .ref))) :=
 ⟨CH.set_same,hl,NO.nd,fun k t hk => let ⟨a,c,e,f⟩ := NO.at_ k t hk; ⟨a,c,at_new h e,f⟩,NO.keep.none h⟩
theorem Nears.start {N : Nat} {H H₂ H₃ : CH} {ln : Addr} {ns : List Addr} (k : Kept H H₂) (NO : NewOs H₂ (fun _ c => c = .list []) ns H₃) (hl : ns.length = N) (h : H₃ ln = none) : Nears N (fun _ => []) H ln ns (H₃.set ln (.list (ns.map .ref))) := by
 refine ⟨CH.set_same,hl,NO.nd,fun j t hj => ?_,fun q => ?_,k.none (NO.keep.none h)⟩
 ·obtain ⟨a,c,e,rfl⟩ := NO.at_ j t hj
  exact ⟨k.none a,at_new h e⟩
 ·refine eE (List.mem_iff_getElem?.mp q) fun i hi => ?_
  obtain ⟨_,c,e,_⟩ := NO.at_ i ln hi
  rw [h] at e; cases e
theorem nodup_get {α : Type} {l : List α} (h : l.Nodup) {i j : Nat} {x : α} (hi : l[i]? = some x) (hj : l[j]? = some x) : i = j := by
 refine eE (List.getElem?_eq_some_iff.mp hi) fun h1 e1 => ?_
 refine eE (List.getElem?_eq_some_iff.mp hj) fun h2 e2 => ?_
 have p := List.pairwise_iff_getElem.mp h
 rcases Nat.lt_trichotomy i j with q | q | q
 ·exact absurd (e1.trans e2.symm) (p i j h1 h2 q)
 ·exact q
 ·exact absurd (e2.trans e1.symm) (p j i h2 h1 q)
theorem nodup_of {α : Type} {l : List α} (h : ∀ (i j : Nat) (x : α),l[i]? = some x→l[j]? = some x→i = j) : l.Nodup :=
 List.pairwise_iff_getElem.mpr fun i j h1 h2 q e => Nat.ne_of_lt q (h i j l[i] (List.getElem?_eq_getElem h1) (by refine rE e ?_; exact List.getElem?_eq_getElem h2))
set_option tactic.hygienic true in
theorem Sets.turn {C : Cx} {N : Nat} {An An' : Nat→Nat→Prop} {H H' : CH} {la D : Addr} {ts : List Addr} {k : Nat} {c : CObj} (S : Sets C N An H la ts H') (hk : k < N) (hD : H' D = none) (hD0 : H D = none) (hc : SetA C An' k c) (he : ∀ j,j≠k→∀ a,An a j↔An' a j) :
  Sets C N An' H la (ts.set k D) ((H'.set D c).set la (.list ((ts.set k D).map .ref))) := by
 refine eA (S.fresh hD) fun f1 f2 => ?_
 refine ⟨CH.set_same,by refine rE List.length_set ?_; exact S.len,?_,fun j t hj => ?_,S.new⟩
 ·refine nodup_of fun i j x hi hj => ?_
  rw [List.getElem?_set] at hi hj
  split at hi <;> split at hj
  ·(clear hk hD hD0 f1 f2 hi hj; lia)
  ·split at hi
   ·cases hi; exact (f2 (List.mem_of_getElem? hj)).elim
   ·cases hi
  ·split at hj
   ·cases hj; exact (f2 (List.mem_of_getElem? hi)).elim
   ·cases hj
  ·exact nodup_get S.nd hi hj
 ·rw [List.getElem?_set] at hj
  split at hj
  ·rename_i e
   subst e
   split at hj
   ·cases hj
    exact ⟨hD0,c,at_ne (Ne.symm f1) CH.set_same,hc⟩
   ·cases hj
  ·rename_i e
   obtain ⟨h1,d,h2,h3⟩ := S.at_ j t hj
   have hm := List.mem_of_getElem? hj
   exact ⟨h1,d,at_ne (S.la_ne hm) (at_ne (fun q => f2 (q ▸ hm)) h2),h3.congr (he j (Ne.symm e))⟩
theorem Nears.turn {N : Nat} {near near' : Nat→List Nat} {H H' : CH} {ln t : Addr} {ns : List Addr} {k : Nat} (S : Nears N near H ln ns H') (hk : ns[k]? = some t) (he : ∀ j,j≠k→near' j = near j) : Nears N near' H ln ns (H'.set t (.list ((near' k).map intN))) := by
 refine ⟨at_ne (fun q => S.out (q ▸ List.mem_of_getElem? hk)) S.ln_,S.len,S.nd,fun j x hj => ?_,S.out,S.new⟩
 by_cases e : j = k
 ·subst e
  rw [hk] at hj; cases hj
  exact ⟨(S.at_ j t hk).1,CH.set_same⟩
 ·refine eA (S.at_ j x hj) fun h1 h2 => ?_
  refine ⟨h1,?_⟩
  refine rE (he j e) ?_
  exact at_ne (fun q => e (nodup_get S.nd hj (q ▸ hk))) h2
theorem cross {C : Cx} {N : Nat} {An : Nat→Nat→Prop} {near : Nat→List Nat} {H H' : CH} {la ln : Addr} {ts ns : List Addr} (S : Sets C N An H la ts H') (T : Nears N near H ln ns H') (h1 : la ∉ ns) (h2 : la≠ln) : (∀ t ∈ ts,t≠ln∧t ∉ ns)∧∀ t ∈ ns,t ∉ ts := by
 have key : ∀ t ∈ ts,∀ x xs,H' x = some (.list xs)→t≠x := fun t ht x xs hx => by
  refine eE (List.mem_iff_getElem?.mp ht) fun i hi => ?_
  obtain ⟨_,c,h1,o,us,rfl,_⟩ := S.at_ i t hi
  exact ne_at h1 hx
 have k2 : ∀ t ∈ ns,∃ xs,H' t = some (.list xs) := fun t ht => by
  refine eE (List.mem_iff_getElem?.mp ht) fun i hi => ?_
  exact ⟨_,(T.at_ i t hi).2⟩
 refine ⟨fun t ht => ⟨key t ht ln _ T.ln_,fun q => ?_⟩,fun t ht q => ?_⟩
 ·refine eE (k2 t q) fun xs h => ?_
  exact key t ht t xs h rfl
 ·refine eE (k2 t ht) fun xs h => ?_
  exact key t q t xs h rfl
noncomputable abbrev anMix (An : Nat→Nat→Prop) (a b t : Nat) (x j : Nat) : Prop := if j < t then anStep An a b x j else An x j
theorem anMix_ne {An : Nat→Nat→Prop} {a b t x j : Nat} (h : j≠t) : anMix An a b t x j↔anMix An a b (t + 1) x j := by
 unfold anMix
 by_cases q : j < t
 ·refine rE (if_pos q) (rE (if_pos (by exact Nat.lt_add_right 1 q)) ?_); rfl
 ·refine rE (if_neg q) (rE (if_neg (by lia)) ?_); rfl
theorem anMix_same {An : Nat→Nat→Prop} {a b t x j : Nat} (h : ¬ (j = b∨An b j)) : anMix An a b t x j↔An x j := by
 unfold anMix anStep
 split
 ·exact ⟨fun q => q.elim id fun q => (h q.1).elim,.inl⟩
 ·exact Iff.rfl
inductive WshK (C : Cx) (N : Nat) (An : Nat→Nat→Prop) (near : Nat→List Nat) (a b : Nat) (H : CH) (la ln : Addr) (ns : List Addr) (t : Nat) (H' : CH) : Prop
 | mk (ts : List Addr) (S : Sets C N (anMix An a b t) H la ts H') (T : Nears N near H ln ns H') (h1 : la ∉ ns) (h2 : la≠ln) (keep : Kept H H')
inductive WshI (C : Cx) (N : Nat) (H : CH) (la ln : Addr) (t : Nat) (H' : CH) : Prop
 | mk (An : Nat→Nat→Prop) (near : Nat→List Nat) (ts ns : List Addr) (W : WishS N An near) (hl : ∀ k,(near k).length≤t) (S : Sets C N An H la ts H') (T : Nears N near H ln ns H') (h1 : la ∉ ns) (h2 : la≠ln) (keep : Kept H H')
inductive WshV (C : Cx) (N M : Nat) (H : CH) (v : V) (H' : CH) : Prop
 | mk (la ln : Addr) (hv : v = .tup [.ref la,.ref ln]) (h : WshI C N H la ln M H') : WshV C N M H v H'
section
variable {C : Cx} {A : Around} {m : Loc} {H : CH} {s : Shared} {mg mb : Str→Option Value} {P : Params}
theorem EB_or_pure {x y : PySem.Expr} {p : Pos} {Q : Bool→Loc→CH→Prop} (bx cy : Bool) (h1 : EB C A x m H fun c m' H' => c = bx∧m' = m∧H' = H) (h2 : bx = false→EB C A y m H fun c m' H' => c = cy∧m' = m∧H' = H) (h : Q (bx || cy) m H) : EB C A (.BoolOp .Or [x,y] p) m H Q := by
 refine EB_or (h1.mono ?_)
 rintro c m' H' ⟨rfl,rfl,rfl⟩
 refine ⟨fun e => by subst e; exact h,fun e => (h2 e).mono ?_⟩
 rintro c' m' H' ⟨rfl,rfl,rfl⟩
 subst e; exact h
theorem EB_and_pure {x y : PySem.Expr} {p : Pos} {Q : Bool→Loc→CH→Prop} (bx cy : Bool) (h1 : EB C A x m H fun c m' H' => c = bx∧m' = m∧H' = H) (h2 : bx = true→EB C A y m H fun c m' H' => c = cy∧m' = m∧H' = H) (h : Q (bx && cy) m H) : EB C A (.BoolOp .And [x,y] p) m H Q := by
 refine EB_and (h1.mono ?_)
 rintro c m' H' ⟨rfl,rfl,rfl⟩
 refine ⟨fun e => (h2 e).mono ?_,fun e => by subst e; exact h⟩
 rintro c' m' H' ⟨rfl,rfl,rfl⟩
 subst e; exact h
theorem tiny_nil : Tiny [] := ⟨.nil,fun _ h => (by cases h)⟩
theorem tiny_one {a : Nat} (h : a < 7) : Tiny [(a : Int)] := ⟨by simp,fun x hx => by refine rE (List.mem_singleton.mp hx) ?_; lia⟩
theorem six_mod {x : Int} {N : Nat} (hN : 0 < N) : ∃ a : Nat,(x.fdiv 6).fmod N = a∧a < N := by
 have h0 : (0 : Int) < N := Int.ofNat_lt.mpr hN
 have h1 := Int.fmod_nonneg_of_pos (x.fdiv 6) h0
 have h2 := Int.fmod_lt_of_pos (x.fdiv 6) h0
 exact ⟨((x.fdiv 6).fmod N).toNat,(Int.toNat_of_nonneg h1).symm,by exact (fun {n} {z} h => (Int.toNat_lt h).mpr) h1 h2⟩
theorem nat_mod {i N : Nat} : ((i : Int)).fmod (N : Int) = ((i % N : Nat) : Int) := by
 refine rE (Int.fmod_eq_emod_of_nonneg _ (Int.natCast_nonneg N)) ?_; rfl
set_option maxHeartbeats 4000000 in
theorem spec_wishes {l : Addr} {M N : Nat} {nu : Nat→Int} (hN0 : 0 < N) (hN : N≤7) (hM : M≤63) (B : Bs C.h₀ (KK P) mg mb) {n : Nat} (hA : AOK C A (n + 1)) (hl : H l = some (.list ((List.range M).map fun k => .int (nu k)))) :
  CALL C A (.con (.ref a_wishes)) [.ref l,.int N] [] H (WshV C N M H) := by
 refine CALL_hide fun R0 hR0 => ?_
 have hN62 : N < 2 ^ 62 := Nat.lt_of_le_of_lt hN (by decide)
 have hM62 : M < 2 ^ 62 := Nat.lt_of_le_of_lt hM (by decide)
 have hNz : N≤2 ^ 10 := Nat.le_trans hN (by decide)
 have hMz : M≤2 ^ 10 := Nat.le_trans hM (by decide)
 refine CALL_K B (by with_unfolding_all rfl) (by with_unfolding_all rfl) hA .pos2 (by with_unfolding_all rfl) rfl fun L hL hL0 hA' => ?_
 refine EX_cons (st := .Assign _ _ _) (ES_assign_lc ?_)
 repeat walk_at "x"
 refine EV_b B g_range b_range ?_
 repeat walk_at "x"
 refine ⟨KP_type,CV_range1 ?_⟩
 refine LC_objs ((List.range N).map intN) (SetA C fun _ _ => False) (seqN hA'.handled hN62) (fun _ _ => trivial) (szR hNz) (fun i x hx LC H₁ k => ?_) fun la ts H₁ olen NO hla hla0 => ?_
 ·repeat walk_at "x"
  refine ⟨rfl,?_⟩
  repeat walk_at "x"
  refine EV_b B g_set b_set ?_
  repeat walk_at "x"
  exact ⟨KP_type,CV_set0r fun b o hb hb0 hS hm => ⟨b,.raw o,hb,rfl,rfl,o,[],rfl,hS,tiny_nil,fun x => ⟨fun h => (by cases h),fun ⟨_,_,h⟩ => h.elim⟩⟩⟩
 have S1 := Sets.start (N := N) NO (by refine rE olen (rE (List.length_map ..) (rE List.length_range rfl))) hla
 have K2 : Kept H (H₁.set la (.list (ts.map .ref))) := NO.keep.new hla
 clear NO olen
 generalize (H₁.set la (.list (ts.map .ref))) = H₂ at *
 repeat walk_at "x"
 refine ES_assign_lc ?_
 repeat walk_at "x"
 refine EV_b B g_range b_range ?_
 repeat walk_at "x"
 refine ⟨KP_type,CV_range1 ?_⟩
 refine LC_objs ((List.range N).map intN) (fun _ c => c = .list []) (seqN hA'.handled hN62) (fun _ _ => trivial) (szR hNz) (fun i x hx LC H₁ k => ?_) fun ln ns H₃ olen NO hln hln0 => ?_
 ·repeat walk_at "x"
  refine ⟨rfl,EV_list ?_⟩
  repeat walk_at "x"
  exact ⟨by decide,fun b hb => ⟨b,_,hb,rfl,rfl,rfl⟩⟩
 have hS3 := S1.kept NO.keep
 have hf := hS3.fresh hln
 have S3 := hS3.put (c := .list (ns.map .ref)) hf.1 hf.2
 have T3 := Nears.start (N := N) K2 NO (by refine rE olen (rE (List.length_map ..) (rE List.length_range rfl))) hln
 have h1 : la ∉ ns := fun q => by
  refine eE (List.mem_iff_getElem?.mp q) fun i hi => ?_
  refine eA (NO.at_ i la hi) fun a _ => ?_
  rw [S1.la_] at a; cases a
 have K4 := (K2.trans NO.keep).new (c := .list (ns.map .ref)) hln
 have I0 : WshI C N H la ln 0 (H₃.set ln (.list (ns.map .ref))) := ⟨_,_,ts,ns,.nil,fun _ => Nat.le_refl _,S3,T3,h1,hf.1,K4⟩
 clear S1 S3 hS3 T3 K4 K2 NO hf hln hla
 generalize (H₃.set ln (.list (ns.map .ref))) = H₄ at *
 repeat walk_at "x"
 refine EX_forN (N := M) (f := intN) (J := WshI C N H la ln) (m0 := [("near",.ref ln),("ahead",.ref la),("size",.int N),("script",.ref l)]) ?_ (fun i hi H' hJ RR hRR => ?_) fun H₅ hM => ?_
 ·refine EV_call (EV_b B g_range b_range ?_)
  refine EL_cons (EV_call (EV_b B g_len b_len ?_))
  repeat walk_at "x"
  obtain ⟨_,_,_,_,_,_,_,_,_,_,K⟩ := id I0
  refine ⟨KP_built,CV_lenM (.own (K.at hl)) (szR hMz) ?_⟩
  repeat walk_at "x"
  refine rE List.length_range ?_
  exact ⟨KP_type,CV_range1 ⟨seqN hA'.handled hM62,.cons rfl (.cons rfl (.cons rfl (.cons rfl .nil))),I0⟩⟩
 ·obtain ⟨An,near,ts,ns,W,hnl,S,T,h1,h2,K⟩ := hJ
  refine eEA (six_mod (x := nu i) hN0) fun a ea ha => ?_
  have hbN : i % N < N := Nat.mod_lt _ hN0
  have hl' := K.at hl
  clear I0
  repeat walk_at "x"
  refine sub_list (.own hl') (Int.natCast_nonneg _) (mapN_get hi) (szR hMz) ?_
  repeat walk_at "x"
  refine O2_div (by decide) (by decide) ?_
  repeat walk_at "x"
  refine O2_mod (by lia) ?_
  refine rE ea ?_
  repeat walk_at "x"
  refine O2_mod (by omega) ?_
  refine rE nat_mod ?_
  generalize i % N = b at *
  obtain ⟨ta,hta⟩ : ∃ t,ts[a]? = some t := ⟨_,List.getElem?_eq_getElem (by refine rE S.len ?_; exact ha)⟩
  obtain ⟨hta0,_,hca,oa,usa,rfl,hSa,hTa,hma⟩ := S.at_ a ta hta
  have hza : usa.length < scanBound := Nat.lt_of_le_of_lt (tiny_len hTa) (by decide)
  have hzt : (ts.map V.ref).length≤sizeLine := szM (by refine rE S.len ?_; exact hNz)
  refine EX_cons (st := .If _ _ _ _) (ES_if (EB_and_pure (decide ((a : Int)≠b)) (!decide ((b : Int) ∈ usa)) ?_ (fun _ => ?_) ⟨fun q => ?_,fun q => ?_⟩))
  ·repeat walk_at "x"
   exact ⟨_,rfl,rfl,rfl,rfl⟩
  ·repeat walk_at "x"
   refine sub_list (.own S.la_) (Int.natCast_nonneg _) (mapA_get hta) hzt ?_
   repeat walk_at "x"
   refine O2_notinraw hca hSa hza ?_
   exact ⟨_,rfl,rfl,rfl,rfl⟩
  ·rw [Bool.and_eq_true,Bool.not_eq_true',decide_eq_true_eq,decide_eq_false_iff_not] at q
   have hab : a≠b := fun e => q.1 (congrArg _ e)
   have hnb : ¬ An b a := fun e => q.2 ((hma _).mpr ⟨b,rfl,e⟩)
   obtain ⟨tb,htb⟩ : ∃ t,ns[b]? = some t := ⟨_,List.getElem?_eq_getElem (by refine rE T.len ?_; exact hbN)⟩
   have hb1 := (T.at_ b tb htb).2
   have htm := List.mem_of_getElem? htb
   have X := cross S T h1 h2
   have W' := W.step ha hbN hab hnb
   repeat walk_at "x"
   refine sub_list (.own T.ln_) (Int.natCast_nonneg _) (mapA_get htb) (szM (by refine rE T.len ?_; exact hNz)) ?_
   refine GM_list (.own hb1) PySem.F.slot_list_append PySem.F.type_list_append ?_
   repeat walk_at "x"
   refine ⟨KP_built,CV_append hb1 (szM (by have := hnl b; lia)) ?_⟩
   have e1 : (near b).map intN ++ [.int (a : Int)] = (nearStep near a b b).map intN := by unfold nearStep; refine rE (if_pos rfl) (rE List.map_append ?_); rfl
   refine rE e1 ?_
   have T' := T.turn (near' := nearStep near a b) htb fun j hj => if_neg hj
   have S' := (S.put (c := .list ((nearStep near a b b).map intN)) (fun e => h1 (e ▸ htm)) (X.2 tb htm)).congr (An' := anMix An a b 0) fun j _ x => by
    unfold anMix; (refine rE (if_neg (Nat.not_lt_zero j)) ?_; rfl)
   have K' : Kept H (H'.set tb (.list ((nearStep near a b b).map intN))) := fun x hx => by
    refine rE (CH.set_ne fun e => hx (by rw [e]; exact (T.at_ b tb htb).1)) ?_; exact K x hx
   have I0 : WshK C N An (nearStep near a b) a b H la ln ns 0 (H'.set tb (.list ((nearStep near a b b).map intN))) := ⟨ts,S',T',h1,h2,K'⟩
   have hnl' : ∀ k,(nearStep near a b k).length≤i + 1 := fun k => by
    have := hnl k
    unfold nearStep
    split
    ·refine rE List.length_append (rE List.length_singleton ?_); exact Nat.add_le_add_right (hnl k) 1
    ·exact Nat.le_add_right_of_le (hnl k)
   clear e1 T' S' K' X hca hSa hTa hza hma hta0 hzt hnl S T hl' hb1 K
   generalize (H'.set tb (.list ((nearStep near a b b).map intN))) = H1 at *
   repeat walk_at "x"
   refine EX_forN (N := N) (f := intN) (J := WshK C N An (nearStep near a b) a b H la ln ns) (m0 := [("b",.int b),("a",.int a),("near",.ref ln),("ahead",.ref la),("size",.int N),("script",.ref l)]) ?_ (fun k hk H2 hJ R2 hR2 => ?_) fun H2 hJ => ?_
   ·repeat walk_at "x"
    refine EV_b B g_range b_range ?_
    repeat walk_at "x"
    exact ⟨KP_type,CV_range1 ⟨seqN hA'.handled hN62,.cons rfl (.cons rfl (.cons rfl (.cons rfl (.cons rfl (.cons rfl .nil))))),I0⟩⟩
   ·obtain ⟨ts,S,T,h1,h2,K⟩ := hJ
    clear I0
    repeat walk_at "x"
    obtain ⟨ta,hta⟩ : ∃ t,ts[a]? = some t := ⟨_,List.getElem?_eq_getElem (by refine rE S.len ?_; exact ha)⟩
    obtain ⟨tk,htk⟩ : ∃ t,ts[k]? = some t := ⟨_,List.getElem?_eq_getElem (by refine rE S.len ?_; exact hk)⟩
    obtain ⟨_,_,hca,oa,usa,rfl,hSa,hTa,hma⟩ := S.at_ a ta hta
    obtain ⟨_,_,hck,ok,usk,rfl,hSk,hTk,hmk⟩ := S.at_ k tk htk
    have hzk : usk.length < scanBound := Nat.lt_of_le_of_lt (tiny_len hTk) (by decide)
    have hzt : (ts.map V.ref).length≤sizeLine := szM (by refine rE S.len ?_; exact hNz)
    refine EX_cons (st := .If _ _ _ _) (ES_if (EB_or_pure (decide ((k : Int) = b)) (decide ((b : Int) ∈ usk)) ?_ (fun _ => ?_) ⟨fun q => ?_,fun q => ?_⟩))
    ·repeat walk_at "x"
     exact ⟨_,rfl,rfl,rfl,rfl⟩
    ·repeat walk_at "x"
     refine sub_list (.own S.la_) (Int.natCast_nonneg _) (mapA_get htk) hzt ?_
     repeat walk_at "x"
     refine O2_inraw hck hSk hzk ?_
     exact ⟨_,rfl,rfl,rfl,rfl⟩
    ·rw [Bool.or_eq_true,decide_eq_true_eq,decide_eq_true_eq] at q
     have hmk' : ∀ x,x ∈ usk↔∃ a : Nat,x = a∧An a k := fun x => (hmk x).trans (exists_congr fun y => by unfold anMix; (refine rE (if_neg (Nat.lt_irrefl k)) ?_; rfl))
     have hma' : ∀ x,x ∈ usa↔∃ y : Nat,x = y∧An y a := fun x => (hma x).trans (exists_congr fun y => and_congr_right fun _ => anMix_same fun e => e.elim hab hnb)
     have hc : k = b∨An b k := q.imp (fun e => Int.ofNat.inj e) fun e => by
      refine eEA ((hmk' _).mp e) fun y e1 e2 => ?_
      refine rE (Int.ofNat.inj e1) ?_; exact e2
     have hka : k≠a := fun e => by
      subst e
      rcases hc with e | e
      ·exact hab e
      ·exact hnb e
     have hne : tk≠ta := fun e => hka (nodup_get S.nd htk (e ▸ hta))
     repeat walk_at "x"
     refine sub_list (.own S.la_) (Int.natCast_nonneg _) (mapA_get htk) hzt ?_
     repeat walk_at "x"
     refine sub_list (.own S.la_) (Int.natCast_nonneg _) (mapA_get hta) hzt ?_
     refine O2_bitor hne hck hca hSk hSa hTk hTa fun D1 o1 u1 n1 _ S1 t1 m1 => ?_
     refine EV_set1 B ?_
     repeat walk_at "x"
     refine ⟨_,rfl,fun D2 o2 n2 _ S2 => ?_⟩
     have e12 : D1≠D2 := Ne.symm (ne_at n2 CH.set_same)
     refine O2_bitor e12 (at_ne e12 CH.set_same) CH.set_same S1 S2 t1 (tiny_one (by exact Nat.lt_of_lt_of_le ha hN)) fun D3 o3 u3 n3 _ S3 t3 m3 => ?_
     have f1 := S.fresh n1
     have g1 := T.fresh n1
     have Sa := S.put (c := .raw o1) f1.1 f1.2
     have Ta := T.put (c := .raw o1) g1.1 g1.2
     have f2 := Sa.fresh n2
     have g2 := Ta.fresh n2
     have Sb := Sa.put (c := .raw o2) f2.1 f2.2
     have Tb := Ta.put (c := .raw o2) g2.1 g2.2
     have K1 := K.new (c := .raw o1) n1
     have K2 := K1.new (c := .raw o2) n2
     have K3 := K2.new (c := .raw o3) n3
     have g3 := Tb.fresh n3
     have Tc := Tb.put (c := .raw o3) g3.1 g3.2
     have f3 := Sb.fresh n3
     have la3 : ((((H2.set D1 (.raw o1)).set D2 (.raw o2)).set D3 (.raw o3))) la = some (.list (ts.map .ref)) := (Sb.put (c := .raw o3) f3.1 f3.2).la_
     clear Sa Ta f2 g2 f1 g1 e12 n1 n2
     have Sd := Sb.turn (An' := anMix An a b (k + 1)) hk n3 (K2.none n3) (c := .raw o3) ⟨o3,u3,rfl,S3,t3,fun x => ?_⟩ fun j hj x => anMix_ne hj
     ·repeat walk_at "x"
      refine set_list la3 (Int.natCast_nonneg _) (by refine rE (List.length_map ..) (rE S.len ?_); exact Int.ofNat_lt.mpr hk) hzt ?_
      refine rE (Int.toNat_natCast ..) (rF List.map_set ?_)
      have Td := Tc.put (c := .list ((ts.set k D3).map V.ref)) (Ne.symm h2) h1
      have K4 : Kept H ((((H2.set D1 (.raw o1)).set D2 (.raw o2)).set D3 (.raw o3)).set la (.list ((ts.set k D3).map V.ref))) := fun x hx => by
       refine rE (CH.set_ne fun e => hx (by rw [e]; exact S.new)) ?_; exact K3 x hx
      repeat walk_at "x"
      exact (hR2 _ _ (.cons rfl (.cons rfl (.cons rfl (.cons rfl (.cons rfl (.cons rfl .nil)))))) ⟨_,Sd,Td,h1,h2,K4⟩).1
     ·rw [m3,m1,hmk',hma']
      unfold anMix
      constructor
      ·rintro ((⟨y,e1,e2⟩ | ⟨y,e1,e2⟩) | h)
       ·exact ⟨y,e1,by refine rE (if_pos (Nat.lt_succ_self k)) ?_; exact .inl e2⟩
       ·exact ⟨y,e1,by refine rE (if_pos (Nat.lt_succ_self k)) ?_; exact .inr ⟨hc,.inr e2⟩⟩
       ·exact ⟨a,List.mem_singleton.mp h,by refine rE (if_pos (Nat.lt_succ_self k)) ?_; exact .inr ⟨hc,.inl rfl⟩⟩
      ·rintro ⟨y,e1,h⟩
       rw [if_pos (Nat.lt_succ_self k)] at h
       rcases h with h | ⟨_,h | h⟩
       ·exact .inl (.inl ⟨y,e1,h⟩)
       ·exact .inr (List.mem_singleton.mpr (by refine rE e1 (rE h rfl)))
       ·exact .inl (.inr ⟨y,e1,h⟩)
    ·rw [Bool.or_eq_false_iff,decide_eq_false_iff_not,decide_eq_false_iff_not] at q
     have hc : ¬ (k = b∨An b k) := fun e => e.elim (fun e => q.1 (congrArg _ e)) fun e => q.2 ((hmk _).mpr ⟨b,rfl,by unfold anMix; refine rE (if_neg (Nat.lt_irrefl k)) ?_; exact e⟩)
     have Sd := S.congr (An' := anMix An a b (k + 1)) fun j _ x => by
      by_cases e : j = k
      ·subst e; exact (anMix_same hc).trans (anMix_same hc).symm
      ·exact anMix_ne e
     repeat walk_at "x"
     exact (hR2 _ _ (.cons rfl (.cons rfl (.cons rfl (.cons rfl (.cons rfl (.cons rfl .nil)))))) ⟨_,Sd,T,h1,h2,K⟩).1
   ·obtain ⟨ts,S,T,h1,h2,K⟩ := hJ
    have Sd := S.congr (An' := anStep An a b) fun j hj x => by unfold anMix; (refine rE (if_pos hj) ?_; rfl)
    repeat walk_at "x"
    exact (hRR _ _ (.cons rfl (.cons rfl (.cons rfl (.cons rfl .nil)))) ⟨_,_,_,_,W',hnl',Sd,T,h1,h2,K⟩).1
  ·repeat walk_at "x"
   exact (hRR _ _ (.cons rfl (.cons rfl (.cons rfl (.cons rfl .nil)))) ⟨_,_,_,_,W,fun k => Nat.le_succ_of_le (hnl k),S,T,h1,h2,K⟩).1
 ·repeat walk_at "x"
  exact ⟨(by show 2≤sizeLine; decide),hR0 _ _ ⟨_,_,rfl,hM⟩⟩
end
end
section
noncomputable abbrev a_insR : Addr := 39
noncomputable abbrev a_bisR : Addr := 48
theorem g_bisR {P : Params} : nsIn (KK P) mainGlobals "bisect_right" = some (some (.ref a_bisR)) := by kernel_rfl
theorem g_insR {P : Params} : nsIn (KK P) mainGlobals "insort_right" = some (some (.ref a_insR)) := by kernel_rfl
theorem half_ok {a b : Nat} (h : a < b) : (((a : Nat) : Int) + (b : Nat)).fdiv 2 = (((a + b) / 2 : Nat) : Int) := by
 refine rE (Int.fdiv_eq_ediv_of_nonneg _ (by decide)) ?_; rfl
theorem four_inv {h : Heap} {x y z w : V} {rs : List Value} (r : VRs h [x,y,z,w] rs) : ∃ a b c d,rs = [a,b,c,d]∧VR h x a∧VR h y b∧VR h z c∧VR h w d := by
 obtain ⟨a,l,rfl,ha,r⟩ := r.cons_inv
 obtain ⟨b,c,d,rfl,hb,hc,hd⟩ := three_inv r
 exact ⟨a,b,c,d,rfl,ha,hb,hc,hd⟩
theorem KWs.one_inv {h : Heap} {x : Str} {v : V} {rkw : List (Str × Value)} (k : KWs h [(x,v)] rkw) : ∃ r,rkw = [(x,r)]∧VR h v r := by
 obtain ⟨h1,h2⟩ := k
 cases rkw with
 | nil => cases h1
 | cons p l =>
  cases l with
  | nil =>
   obtain ⟨y,r⟩ := p
   cases h1
   exact ⟨r,rfl,h2.head⟩
  | cons q l => simp at h1
noncomputable abbrev Cx.as (C : Cx) (env : Env) (fr : List Env) : Cx := { C with env := env,fr := fr }
structure CutK (kf : Nat→Int) (x : Int) (ks : List Nat) (c : Nat) : Prop where
 le : c≤ks.length
 a : ∀ i,i < c→∀ t,ks[i]? = some t→kf t≤x
 b : ∀ i,c≤i→∀ t,ks[i]? = some t→x < kf t
structure KeyOk (C : Cx) (f : V) (kf : Nat→Int) (N : Nat) (n : Nat) (H : CH) : Prop where
 kp : ∀ env fr H',KP (C.as env fr) f H'
 call : ∀ env fr A',AOK (C.as env fr) A' n→∀ k,k < N→CALL (C.as env fr) A' f [.int k] [] H fun v H' => v = .int (kf k)∧H' = H
inductive BisK (l : Addr) (f : V) (x : Int) (c : Nat) (ks : List Nat) (H : CH) (k : Nat) (m' : Loc) (H' : CH) : Prop
 | mk (a b : Nat) (hk : k = b - a) (h2 : a≤c) (h3 : c≤b) (h4 : b≤ks.length) (hH : H' = H) (hm : m' = ([("lo",.int a),("hi",.int b),("a",.ref l),("x",.int x),("key",f)] : Loc))
inductive ArgK (l : Addr) (x : Int) (vs : List V) : Prop
 | two (h : vs = [.ref l,.int x]) : ArgK l x vs
 | four (h : vs = [.ref l,.int x,.int 0,V.none]) : ArgK l x vs
section
variable {C : Cx} {A : Around} {m : Loc} {H : CH} {s : Shared} {mg mb : Str→Option Value} {P : Params}
theorem spec_bisK {l : Addr} {f : V} {kf : Nat→Int} {ks : List Nat} {x : Int} {c N : Nat} {vs : List V} (B : Bs C.h₀ (KK P) mg mb) {n : Nat} (hA : AOK C A (n + 1)) (hl : H l = some (.list (ks.map intN))) (hsz : ks.length≤2 ^ 10) (hf : f.isNone = false) (hK : KeyOk C f kf N n H) (hks : ∀ k ∈ ks,k < N) (hc : CutK kf x ks c) (hv : ArgK l x vs) :
  CALL C A (.con (.ref a_bisR)) vs [("key",f)] H fun v H' => v = .int c∧H' = H := by
 have hs2 : (ks.map intN).length≤sizeLine := szM hsz
 refine CALL_hide fun R0 hR0 => ?_
 refine CALL_KW B (by with_unfolding_all rfl) (by with_unfolding_all rfl) hA (binds := [("a",.ref l),("x",.int x),("lo",.int (0 : Nat)),("hi",V.none),("key",f)]) ?_ (by with_unfolding_all rfl) rfl fun L hL hL0 hA' => ?_
 ·refine .dfltk (T := 40) (items := [.int 0 _,.none]) (n := 0) B (by with_unfolding_all rfl) fun h rs rkw hv' hk => ?_
  refine eEA hk.one_inv fun r zz1 hr => ?_; subst zz1
  rcases hv with rfl | rfl
  ·refine eEEAA (two_inv hv') fun a b zz2 ha hb => ?_; subst zz2
   exact ⟨_,[("a",a),("x",b),("lo",.int 0 _),("hi",.none),("key",r)],by with_unfolding_all rfl,by with_unfolding_all rfl,rfl,.cons ha (.cons hb (.cons .int (.cons .con (.cons hr .nil))))⟩
  ·obtain ⟨a,b,d,e,rfl,ha,hb,hd,he⟩ := four_inv hv'
   exact ⟨_,[("a",a),("x",b),("lo",d),("hi",e),("key",r)],by with_unfolding_all rfl,by with_unfolding_all rfl,rfl,.cons ha (.cons hb (.cons hd (.cons he (.cons hr .nil))))⟩
 walk_at "xi"
 refine ⟨_,rfl,fun q => absurd (of_decide_eq_true q) (by decide),fun _ => ?_⟩
 repeat walk_at "x"
 walk_at "xi"
 refine ⟨_,rfl,fun _ => ?_,fun q => (by cases q)⟩
 repeat walk_at "x"
 refine EV_b B g_len b_len ?_
 repeat walk_at "x"
 refine ⟨KP_built,CV_lenM (.own hl) hs2 ?_⟩
 repeat walk_at "x"
 walk_at "xi"
 refine rE hf ?_
 refine ⟨_,rfl,fun q => (by cases q),fun _ => ?_⟩
 refine EX_mid (fun m' H' => H' = H∧Sub [("lo",.int c)] m') ?_ fun m' H' hm => ?_
 ·refine ES_while (BisK l f x c ks H) (ks.length - 0) _ (.cons rfl (.cons rfl (.cons rfl (.cons rfl (.cons rfl .nil))))) ⟨0,ks.length,rfl,Nat.zero_le _,hc.le,Nat.le_refl _,rfl,rfl⟩ ?_
  rintro k m' H' ⟨a,b,rfl,h2,h3,h4,rfl,rfl⟩
  repeat walk_at "x"
  refine ⟨_,rfl,fun q => ?_,fun q => ?_⟩
  ·have hab : a < b := by have := of_decide_eq_true q; exact Int.ofNat_lt.mp this
   obtain ⟨t,ht⟩ : ∃ t,ks[(a + b) / 2]? = some t := ⟨_,List.getElem?_eq_getElem (by (clear hsz hf hs2 hL0 h2 h3 hl hL q; lia))⟩
   repeat walk_at "x"
   refine O2_div (by decide) (by decide) ?_
   refine rE (half_ok hab) ?_
   repeat walk_at "x"
   walk_at "xi"
   refine sub_list (v := intN t) (.own hl) (by exact Int.natCast_nonneg ((a + b) / 2)) (mapA_get ht) hs2 ?_
   repeat walk_at "x"
   refine ⟨hK.kp _ _ _,CV_of ((hK.call _ _ _ hA' t (hks t (List.mem_of_getElem? ht))).mono ?_)⟩
   rintro v H' ⟨rfl,rfl⟩
   repeat walk_at "x"
   refine ⟨_,rfl,fun q2 => ?_,fun q2 => ?_⟩
   ·have hk : c≤(a + b) / 2 := by
     refine Nat.le_of_not_lt fun hlt => ?_
     have := hc.a _ hlt t ht
     have := of_decide_eq_true q2
     (clear hsz hf hs2 hL0 h2 h3 h4 q hab ht hl hL q2 hlt; lia)
    repeat walk_at "x"
    exact ⟨(a + b) / 2 - a,_,by grind,.cons rfl (.cons rfl (.cons rfl (.cons rfl (.cons rfl .nil)))),a,(a + b) / 2,rfl,h2,hk,by (clear hsz hf hs2 hL0 h2 h3 q ht hl hL q2 hk; lia),rfl,rfl⟩
   ·have hk : (a + b) / 2 < c := by
     refine Nat.lt_of_not_le fun hle => ?_
     have := hc.b _ hle t ht
     have := of_decide_eq_false q2
     contradiction
    repeat walk_at "x"
    exact ⟨b - ((a + b) / 2 + 1),_,by omega,.cons rfl (.cons rfl (.cons rfl (.cons rfl (.cons rfl .nil)))),(a + b) / 2 + 1,b,rfl,hk,h3,h4,rfl,rfl⟩
  ·have hab : a = c := by have := of_decide_eq_false q; (clear hsz hf hs2 hL0 h4 hl hL q; lia)
   subst hab
   repeat walk_at "x"
   exact ⟨rfl,.cons rfl .nil⟩
 ·refine eA hm fun zz0 hm2 => ?_; clear hm; subst zz0
  refine EX.sub hm2 ?_
  repeat walk_at "x"
  exact hR0 _ _ ⟨rfl,rfl⟩
theorem spec_insK {l : Addr} {f : V} {kf : Nat→Int} {ks : List Nat} {j c N : Nat} (B : Bs C.h₀ (KK P) mg mb) {n : Nat} (hA : AOK C A (n + 2)) (hl : H l = some (.list (ks.map intN))) (hsz : ks.length≤2 ^ 10) (hf : f.isNone = false) (hK : KeyOk C f kf N n H) (hks : ∀ k ∈ ks,k < N) (hj : j < N) (hc : CutK kf (kf j) ks c) :
  CALL C A (.con (.ref a_insR)) [.ref l,.int (j : Nat)] [("key",f)] H fun v H' => v = V.none∧H' = H.set l (.list ((ks.take c ++ j :: ks.drop c).map intN)) := by
 have hs2 : (ks.map intN).length≤sizeLine := szM hsz
 refine CALL_hide fun R0 hR0 => ?_
 refine CALL_KW B (by with_unfolding_all rfl) (by with_unfolding_all rfl) hA (binds := [("a",.ref l),("x",.int (j : Nat)),("lo",.int 0),("hi",V.none),("key",f)]) ?_ (by with_unfolding_all rfl) rfl fun L hL hL0 hA' => ?_
 ·refine .dfltk (T := 31) (items := [.int 0 _,.none]) (n := 0) B (by with_unfolding_all rfl) fun h rs rkw hv' hk => ?_
  refine eEA hk.one_inv fun r zz1 hr => ?_; subst zz1
  refine eEEAA (two_inv hv') fun a b zz2 ha hb => ?_; subst zz2
  exact ⟨_,[("a",a),("x",b),("lo",.int 0 _),("hi",.none),("key",r)],by with_unfolding_all rfl,by with_unfolding_all rfl,rfl,.cons ha (.cons hb (.cons .int (.cons .con (.cons hr .nil))))⟩
 walk_at "xi"
 refine rE hf ?_
 refine ⟨_,rfl,fun q => (by cases q),fun _ => ?_⟩
 repeat walk_at "x"
 refine EV_callk (EV_g B g_bisR ?_)
 repeat walk_at "x"
 refine ⟨hK.kp _ _ _,CV_of ((hK.call _ _ _ (hA'.le (Nat.le_succ n)) j hj).mono ?_)⟩
 rintro v H' ⟨rfl,rfl⟩
 repeat walk_at "x"
 refine ⟨KP_K B (by with_unfolding_all rfl),CV_of ((spec_bisK (P := P) (by exact B) hA' hl hsz hf ⟨fun env fr => hK.kp env fr,fun env fr => hK.call env fr⟩ hks hc (.four rfl)).mono ?_)⟩
 rintro v H' ⟨rfl,rfl⟩
 repeat walk_at "x"
 refine GM_list (.own hl) F.slot_list_insert F.type_list_insert ?_
 repeat walk_at "x"
 refine ⟨KP_built,CV_insert (i := ((c : Nat) : Int)) hl (Int.natCast_nonneg c) (by refine rE (List.length_map ..) ?_; have := hc.le; exact Int.ofNat_le.mpr this) hs2 ?_⟩
 repeat walk_at "x"
 refine hR0 _ _ ⟨rfl,?_⟩
 refine rE (Int.toNat_natCast ..) (rE List.map_append (rE List.map_cons (rE List.map_take (rE List.map_drop rfl))))
end
theorem cut_of {kf : Nat→Int} (x : Int) : ∀ {ks : List Nat},ks.Pairwise (fun a b => kf a≤kf b)→∃ c,CutK kf x ks c
 | [],_ => ⟨0,Nat.le_refl _,fun i h => absurd h (Nat.not_lt_zero i),fun i _ t h => by cases h⟩
 | k :: ks,h => by
  refine eA (List.pairwise_cons.mp h) fun h1 h2 => ?_
  by_cases q : kf k≤x
  ·refine eE (cut_of x h2) fun c hc => ?_
   refine ⟨c + 1,Nat.succ_le_succ hc.le,fun i hi t ht => ?_,fun i hi t ht => ?_⟩
   ·cases i with
    | zero => cases ht; exact q
    | succ i => rw [List.getElem?_cons_succ] at ht; exact hc.a i (Nat.lt_of_succ_lt_succ hi) t ht
   ·cases i with
    | zero => lia
    | succ i => rw [List.getElem?_cons_succ] at ht; exact hc.b i (Nat.le_of_succ_le_succ hi) t ht
  ·refine ⟨0,Nat.zero_le _,fun i h => absurd h (Nat.not_lt_zero i),fun i _ t ht => ?_⟩
   cases i with
   | zero => cases ht; exact Int.lt_of_not_ge q
   | succ i => rw [List.getElem?_cons_succ] at ht; have := h1 t (List.mem_of_getElem? ht); omega
theorem cut_ins {kf : Nat→Int} {ks : List Nat} {j c : Nat} (h : ks.Pairwise (fun a b => kf a≤kf b)) (hc : CutK kf (kf j) ks c) : (ks.take c ++ j :: ks.drop c).Pairwise (fun a b => kf a≤kf b)∧(ks.take c ++ j :: ks.drop c).Perm (j :: ks) := by
 have e := List.take_append_drop c ks
 have hA : ∀ a ∈ ks.take c,kf a≤kf j := fun a ha => by
  refine eE (List.mem_iff_getElem?.mp ha) fun i hi => ?_
  have hl := (List.getElem?_eq_some_iff.mp hi).1
  rw [List.length_take] at hl
  rw [List.getElem?_take_of_lt (by grind)] at hi
  exact hc.a i (by omega) a hi
 have hB : ∀ a ∈ ks.drop c,kf j≤kf a := fun a ha => by
  refine eE (List.mem_iff_getElem?.mp ha) fun i hi => ?_
  rw [List.getElem?_drop] at hi
  exact Int.le_of_lt (hc.b _ (Nat.le_add_right c i) a hi)
 rw [← e] at h
 refine eAA (List.pairwise_append.mp h) fun p1 p2 p3 => ?_
 refine ⟨List.pairwise_append.mpr ⟨p1,List.pairwise_cons.mpr ⟨hB,p2⟩,fun a ha b hb => ?_⟩,?_⟩
 ·rcases List.mem_cons.mp hb with rfl | hb
  ·exact hA a ha
  ·exact p3 a ha b hb
 ·refine List.perm_middle.trans ?_
  refine rE e ?_; rfl
end
section
noncomputable abbrev a_least : Addr := 223
theorem g_max {P : Params} : nsIn (KK P) mainGlobals "max" = some none := by kernel_rfl
theorem b_max : bootBuiltins "max" = some (.builtin "max") := by kernel_rfl
theorem g_list {P : Params} : nsIn (KK P) mainGlobals "list" = some none := by kernel_rfl
theorem b_list : bootBuiltins "list" = some (.type "list") := by kernel_rfl
noncomputable abbrev optV : Option Int→V
 | none => .none
 | some i => .int i
noncomputable abbrev bestL (n : Nat) (f : Nat→Option Int) : List V := (List.range (2 ^ n)).map fun S => optV (f S)
theorem two_pow {k : Nat} : (2 : Int) ^ ((k : Nat) : Int).toNat = ((2 ^ k : Nat) : Int) := by refine rE (Int.toNat_natCast ..) ?_; push_cast; rfl
theorem pow_ok {k : Nat} (h : k≤10) : (Builtin.Int.intBits 2 : Int) * ((k : Nat) : Int)≤2 ^ 27 := by
 have : Builtin.Int.intBits 2 = 2 := by decide
 refine rE this ?_; omega
theorem bit_val {D k : Nat} : ((((D : Nat) : Int).fdiv ((2 ^ k : Nat) : Int)).fmod 2) = ((D / 2 ^ k % 2 : Nat) : Int) := by
 refine rE (Int.fdiv_eq_ediv_of_nonneg _ (Int.natCast_nonneg _)) (rF (Int.natCast_ediv ..) (rE (Int.fmod_eq_emod_of_nonneg _ (by decide)) ?_)); rfl
theorem bit_zero {D k : Nat} : decide (((D / 2 ^ k % 2 : Nat) : Int) = 0) = decide (D / 2 ^ k % 2 = 0) := by
 rewrite [Bool.eq_iff_iff]; refine rE decide_eq_true_eq (rE decide_eq_true_eq ?_); exact Int.ofNat_eq_zero
theorem max_if2 {a b : Int} : (if b > a then b else a) = max a b := by split <;> grind
theorem best_get {n : Nat} {f : Nat→Option Int} {d : Nat} (h : d < 2 ^ n) : (bestL n f)[((d : Nat) : Int).toNat]? = some (optV (f d)) := mapN_get h
theorem best_set {n : Nat} {f : Nat→Option Int} {d : Nat} {v : Int} (h : d < 2 ^ n) : (bestL n f).set ((d : Nat) : Int).toNat (.int v) = bestL n fun S => if S = d then some v else f S := by
 apply List.ext_getElem?
 intro i
 refine rE (Int.toNat_natCast ..) (rE List.getElem?_set (rE (List.length_map ..) (rE List.length_range (rE List.getElem?_map (rE List.getElem?_map ?_)))))
 by_cases e : d = i
 ·subst e
  refine rE (if_pos rfl) (rE (if_pos h) (rE (List.getElem?_range h) ?_))
  show _ = some (optV (if d = d then some v else f d))
  refine rE (if_pos rfl) rfl
 ·refine rE (if_neg e) ?_
  by_cases hi : i < 2 ^ n
  ·refine rE (List.getElem?_range hi) ?_
   show _ = some (optV (if i = d then some v else f i))
   refine rE (if_neg (Ne.symm e)) ?_; rfl
  ·refine rE (List.getElem?_eq_none (by rw [List.length_range]; exact Nat.le_of_not_lt hi)) ?_; rfl
theorem best_start {n : Nat} : (List.replicate ((2 ^ n : Nat) : Int).toNat [V.none]).flatten = bestL n fun _ => none := by
 show _ = (List.range (2 ^ n)).map fun _ => V.none
 refine rE (Int.toNat_natCast ..) ?_
 generalize 2 ^ n = k
 induction k with
 | zero => rfl
 | succ k ih => refine rE List.replicate_succ' (rE List.flatten_append (rE ih (rE List.range_succ (rE List.map_append ?_)))); rfl
structure LsS (H : CH) (L lb lg : Addr) (N : Nat) (b g : Nat→Option Int) (H' : CH) : Prop where
 k : Kept H H'
 c : ∃ v,H' (L + 1) = some (.cell v)
 hb : H' lb = some (.list (bestL N b))
 hg : H' lg = some (.list (bestL N g))
theorem LsS.new {H H' : CH} {L lb lg x : Addr} {N : Nat} {b g : Nat→Option Int} {c : CObj} (S : LsS H L lb lg N b g H') (h : H' x = none) : LsS H L lb lg N b g (H'.set x c) :=
 ⟨S.k.new h,let ⟨v,e⟩ := S.c; ⟨v,at_new h e⟩,at_new h S.hb,at_new h S.hg⟩
theorem LsS.cell {H H' : CH} {L lb lg : Addr} {N : Nat} {b g : Nat→Option Int} {v : Option V} (S : LsS H L lb lg N b g H') (h : H (L + 1) = none) : LsS H L lb lg N b g (H'.set (L + 1) (.cell v)) := by
 refine eE S.c fun _ e => ?_
 exact ⟨fun x hx => by refine rE (CH.set_ne fun q => hx (by rw [q]; exact h)) ?_; exact S.k x hx,⟨v,CH.set_same⟩,at_ne (ne_at S.hb e) S.hb,at_ne (ne_at S.hg e) S.hg⟩
theorem LsS.put {H H' : CH} {L lb lg : Addr} {N : Nat} {b g g' : Nat→Option Int} (S : LsS H L lb lg N b g H') (h : H lg = none) (hn : lb≠lg) : LsS H L lb lg N b g' (H'.set lg (.list (bestL N g'))) := by
 refine eE S.c fun _ e => ?_
 exact ⟨fun x hx => by refine rE (CH.set_ne fun q => hx (by rw [q]; exact h)) ?_; exact S.k x hx,⟨_,at_ne (Ne.symm (ne_at S.hg e)) e⟩,at_ne hn S.hb,CH.set_same⟩
inductive LstI (N : Nat) (An : Nat→Nat→Prop) (starts dues : Nat→Int) (base : Int) (H : CH) (L : Addr) (h : Nat) (b : Nat→Option Int) : Prop
 | mk (bests : Nat→Nat→Option Int) (b0 : ∀ S,S < 2 ^ N→bests 0 S = if S = 0 then some base else none) (bh : ∀ i,i < h→Hour N An starts dues (i : Nat) (bests i) (bests (i + 1))) (e : b = bests h) : LstI N An starts dues base H L h b
inductive LstJ (N : Nat) (An : Nat→Nat→Prop) (starts dues : Nat→Int) (base : Int) (H : CH) (L ls ld la : Addr) (h : Nat) (m : Loc) (H' : CH) : Prop
 | mk (lb : Addr) (b : Nat→Option Int) (I : LstI N An starts dues base H L h b) (hm : m = ([("best",.ref lb),("size",.int N),("ahead",.ref la),("dues",.ref ld),("starts",.ref ls)] : Loc)) (k : Kept H H') (c : ∃ v,H' (L + 1) = some (.cell v)) (hb : H' lb = some (.list (bestL N b)))
inductive LstD (N : Nat) (An : Nat→Nat→Prop) (starts dues : Nat→Int) (H : CH) (L lb lg : Addr) (b : Nat→Option Int) (h : Nat) (P : Nat→Nat→Prop) (H' : CH) : Prop
 | mk (g : Nat→Option Int) (S : LsS H L lb lg N b g H') (I : HourP N An starts dues (h : Nat) b g P)
inductive LstV (N : Nat) (An : Nat→Nat→Prop) (starts dues : Nat→Int) (H : CH) (v : V) (H' : CH) : Prop
 | mk (M : Int) (b : Nat→Option Int) (L : Addr) (h1 : ∃ j,j < N∧M = dues j) (h2 : ∀ j,j < N→dues j≤M) (I : LstI N An starts dues (-M) H L (5 + N) b) (hv : v = optV (b (2 ^ N - 1))) (k : Kept H H')
theorem dr_ints {C : Cx} {H : CH} {l : List Int} : DRs C H (l.map .int) (l.map fun k : Int => Dat.int k) := DRs.map fun k _ => .int _
theorem ints_ok {l : List Int} : kqdOk 8 (.list (l.map fun k : Int => Dat.int k)) = true := by
 show ((l.map fun k : Int => Dat.int k).all (kqdOk 7)) = true
 refine rE List.all_map ?_; rewrite [List.all_eq_true]; intro k _; rfl
theorem ints_nil {l : List Int} : (Dat.list (l.map fun k : Int => Dat.int k) = .list [])↔l = [] := by
 constructor
 ·intro e; injection e with e; exact List.map_eq_nil_iff.mp e
 ·intro e; refine rE e ?_; rfl
theorem optV_isNone {o : Option Int} : (optV o).isNone = o.isNone := by cases o <;> rfl
section
variable {C : Cx} {A : Around} {m : Loc} {H : CH} {s : Shared} {mg mb : Str→Option Value} {P : Params}
theorem O2_pow2 {k : Nat} {Q : V→Loc→CH→Prop} (h : k≤10) (hQ : Q (.int ((2 ^ k : Nat) : Int)) m H) : O2 C A (binaryOp .Pow) (.int 2) (.int (k : Nat)) m H Q :=
 O2_pow (Int.natCast_nonneg _) (pow_ok h) (by refine rE two_pow ?_; exact hQ)
set_option maxHeartbeats 4000000 in
theorem spec_least {ls ld la : Addr} {N : Nat} {starts dues : Nat→Int} {An : Nat→Nat→Prop} {H0 : CH} {ts : List Addr} (hN0 : 0 < N) (hN : N≤7) (B : Bs C.h₀ (KK P) mg mb) {n : Nat} (hA : AOK C A (n + 1)) (hls : H ls = some (.list ((List.range N).map fun j => .int (starts j)))) (hld : H ld = some (.list ((List.range N).map fun j => .int (dues j)))) (hS : Sets C N An H0 la ts H) (hlt : ∀ a k,An a k→a < N) :
  CALL C A (.con (.ref a_least)) [.ref ls,.ref ld,.ref la] [] H (LstV N An starts dues H) := by
 refine CALL_hide fun R0 hR0 => ?_
 have hN10 : N≤10 := Nat.le_trans hN (by decide)
 have hNz : N≤2 ^ 10 := Nat.le_trans hN (by decide)
 have hp : 2 ^ N≤2 ^ 10 := Nat.pow_le_pow_right (by decide) hN10
 have hp0 := Nat.two_pow_pos N
 refine CALL_cells (m' := [("ahead",.ref la),("dues",.ref ld),("starts",.ref ls)]) B (by with_unfolding_all rfl) (by with_unfolding_all rfl) hA rfl bz3 (cells_ok (by kernel_rfl)) (by kernel_rfl) fun L hL hA' => ?_
 refine EX_gen fun Hc hHc => ?_
 have hHc : Hc = H.set (L + 1) (.cell none) := hHc.trans (by kernel_rfl)
 have hL1 : H (L + 1) = none := (hL (L + 1) (Nat.le_succ L)).1
 have kc : Kept H Hc := by refine rE hHc ?_; exact Kept.refl.new hL1
 have hc : ∃ v,Hc (L + 1) = some (.cell v) := ⟨_,by refine rE hHc ?_; exact CH.set_same⟩
 clear hHc
 repeat walk_at "x"
 refine EV_b B g_len b_len ?_
 repeat walk_at "x"
 refine ⟨KP_built,CV_lenM (.own (kc.at hls)) (szR hNz) ?_⟩
 refine rE List.length_range ?_
 repeat walk_at "x"
 refine EV_list ?_
 repeat walk_at "x"
 refine ⟨by decide,fun z1 hz1 => ?_⟩
 repeat walk_at "x"
 refine O2_pow2 hN10 ?_
 refine O2_mul_list (.own CH.set_same) (by omega) (by exact Int.natCast_nonneg (2 ^ N)) (by refine rE (Int.toNat_natCast ..) (rE List.length_singleton (rE (Nat.one_mul ..) ?_)); exact Nat.le_trans hp (by decide)) fun lb hlb => ?_
 refine rE best_start ?_
 have k1 := kc.new (c := .list [V.none]) hz1
 have hc1 : ∃ v,(Hc.set z1 (.list [V.none])) (L + 1) = some (.cell v) := let ⟨v,e⟩ := hc; ⟨v,at_new hz1 e⟩
 clear kc hc
 generalize (Hc.set z1 (.list [V.none])) = H1 at *
 have k2 := k1.new (c := .list (bestL N fun _ => none)) hlb
 have hc2 : ∃ v,(H1.set lb (.list (bestL N fun _ => none))) (L + 1) = some (.cell v) := let ⟨v,e⟩ := hc1; ⟨v,at_new hlb e⟩
 have hb2 : (H1.set lb (.list (bestL N fun _ => none))) lb = some (.list (bestL N fun _ => none)) := CH.set_same
 have lb0 := k1.none hlb
 clear k1 hc1
 generalize (H1.set lb (.list (bestL N fun _ => none))) = H2 at *
 repeat walk_at "x"
 refine EV_b B g_max b_max ?_
 repeat walk_at "x"
 refine ⟨KP_built,CV_max_ints hA'.handled (ns := (List.range N).map dues) (.own (by refine rE List.map_map ?_; exact k2.at hld)) (fun e => by rw [List.map_eq_nil_iff,List.range_eq_nil] at e; lia) fun M hM1 hM2 => ?_⟩
 have hM1' : ∃ j,j < N∧M = dues j := by
  refine eEA (List.mem_map.mp hM1) fun j hj e => ?_
  exact ⟨j,List.mem_range.mp hj,e.symm⟩
 have hM2' : ∀ j,j < N→dues j≤M := fun j hj => hM2 _ (List.mem_map_of_mem (List.mem_range.mpr hj))
 clear hM1 hM2
 refine O1_neg ?_
 repeat walk_at "x"
 refine set_list (k := ((0 : Nat) : Int)) hb2 (Int.le_refl _) (by refine rE (List.length_map ..) (rE List.length_range ?_); exact (fun {n m} => Int.ofNat_lt.mpr) hp0) (szR hp) ?_
 refine rE (best_set hp0) ?_
 have k3 : Kept H (H2.set lb (.list (bestL N fun S => if S = 0 then some (-M) else none))) := fun x hx => by refine rE (CH.set_ne fun q => hx (by rw [q]; exact lb0)) ?_; exact k2 x hx
 have hc3 : ∃ v,(H2.set lb (.list (bestL N fun S => if S = 0 then some (-M) else none))) (L + 1) = some (.cell v) := let ⟨v,e⟩ := hc2; ⟨v,at_ne (Ne.symm (ne_at hb2 e)) e⟩
 have hb3 : (H2.set lb (.list (bestL N fun S => if S = 0 then some (-M) else none))) lb = some (.list (bestL N fun S => if S = 0 then some (-M) else none)) := CH.set_same
 clear k2 hc2 hb2
 generalize (H2.set lb (.list (bestL N fun S => if S = 0 then some (-M) else none))) = H3 at *
 repeat walk_at "x"
 refine EX_mid (st := .For _ _ _ _ _) (LstJ N An starts dues (-M) H L ls ld la (5 + N)) (ES_for' ?_) fun m₁ H₂ hM => ?_
 ·repeat walk_at "x"
  refine EV_b B g_range b_range ?_
  repeat walk_at "x"
  refine rE (show (5 : Int) + (N : Int) = ((5 + N : Nat) : Int) from by rfl) ?_
  refine ⟨KP_type,CV_range1 ?_⟩
  refine ⟨_,(fun _ => True),[("best",.ref lb),("size",.int N),("ahead",.ref la),("dues",.ref ld),("starts",.ref ls)],LstJ N An starts dues (-M) H L ls ld la,seqN hA'.handled (by omega),.cons rfl (.cons rfl (.cons rfl (.cons rfl (.cons rfl .nil)))),⟨lb,_,⟨fun _ S => if S = 0 then some (-M) else none,fun _ _ => rfl,fun i hi => (by contradiction),rfl⟩,rfl,k3,hc3,hb3⟩,?_⟩
  rintro h m' H' ⟨lb,b,I,rfl,k,c,hb⟩
  refine ⟨trivial,fun y hy => ?_,fun hi => ?_⟩
  ·rw [List.getElem?_map] at hy
   refine eEA (Option.map_eq_some_iff.mp hy) fun h' hh zz2 => ?_; subst zz2
   have hlt' : h < 5 + N := by
    have := (List.getElem?_eq_some_iff.mp hh).1
    rw [List.length_range] at this; exact this
   rw [List.getElem?_range hlt'] at hh
   cases hh
   clear k3 hc3 hb3 hlb lb0 hz1
   repeat walk_at "x"
   refine EV_b B g_list b_list ?_
   repeat walk_at "x"
   refine ⟨KP_type,CV_list_of (.list (.own hb)) (szR hp) fun lg hlg _ => ?_⟩
   have lg0 := k.none hlg
   have lbg : lb≠lg := ne_out (sn hb) hlg
   have D0 : LstD N An starts dues H L lb lg b h (fun x y => x < 0) (H'.set lg (.list (bestL N b))) := ⟨b,⟨k.new hlg,let ⟨v,e⟩ := c; ⟨v,at_new hlg e⟩,at_new hlg hb,CH.set_same⟩,HourP.start.mono fun d j _ _ q => absurd q (Nat.not_lt_zero d)⟩
   clear k c hb hlg
   generalize (H'.set lg (.list (bestL N b))) = H4 at *
   repeat walk_at "x"
   refine EX_forN (N := 2 ^ N) (f := intN) (J := fun d => LstD N An starts dues H L lb lg b h (fun x y => x < d)) (m0 := [("grown",.ref lg),("hour",.int h),("best",.ref lb),("size",.int N),("ahead",.ref la),("dues",.ref ld),("starts",.ref ls)]) ?_ (fun d hd H5 hJ RR hRR => ?_) fun H5 hJ => ?_
   ·repeat walk_at "x"
    refine EV_b B g_range b_range ?_
    repeat walk_at "x"
    refine O2_pow2 hN10 ?_
    repeat walk_at "x"
    exact ⟨KP_type,CV_range1 ⟨seqN hA'.handled (by omega),.cons rfl (.cons rfl (.cons rfl (.cons rfl (.cons rfl (.cons rfl (.cons rfl .nil)))))),D0⟩⟩
   ·obtain ⟨g,S,P⟩ := hJ
    refine eE S.c fun v0 hv0 => ?_
    refine ASG_cell (c := L + 1) (by with_unfolding_all rfl) hv0 ?_
    have S := S.cell (v := some (.int (d : Nat))) hL1
    have hd1 : (H5.set (L + 1) (.cell (some (.int (d : Nat))))) (L + 1) = some (.cell (some (.int (d : Nat)))) := CH.set_same
    clear hv0 v0 D0
    generalize (H5.set (L + 1) (.cell (some (.int (d : Nat))))) = H6 at *
    walk_at "xi"
    refine EV_cell (c := L + 1) (by with_unfolding_all rfl) hd1 ?_
    repeat walk_at "x"
    refine sub_list (.own S.hb) (Int.natCast_nonneg _) (best_get hd) (szR hp) ?_
    repeat walk_at "x"
    refine rE optV_isNone ?_
    refine ⟨_,rfl,fun q => ?_,fun q => ?_⟩
    ·obtain ⟨u,hu⟩ : ∃ u,b d = some u := by
      cases e : b d with
      | none => rw [e] at q; cases q
      | some u => exact ⟨u,rfl⟩
     have D1 : LstD N An starts dues H L lb lg b h (fun x y => x < d∨(x = d∧y < 0)) H6 := ⟨g,S,P.mono fun x y _ _ q => q.resolve_right fun e => absurd e.2 (Nat.not_lt_zero y)⟩
     have hcd : ∃ H6' : CH,H6' = H6 := ⟨_,rfl⟩
     clear P S q
     refine EX_forN (N := N) (f := intN) (J := fun j H' => LstD N An starts dues H L lb lg b h (fun x y => x < d∨(x = d∧y < j)) H'∧H' (L + 1) = some (.cell (some (.int (d : Nat))))) (m0 := [("grown",.ref lg),("hour",.int h),("best",.ref lb),("size",.int N),("ahead",.ref la),("dues",.ref ld),("starts",.ref ls)]) ?_ (fun j hj H7 hJ R2 hR2 => ?_) fun H7 hJ => ?_
     ·repeat walk_at "x"
      refine EV_b B g_range b_range ?_
      repeat walk_at "x"
      exact ⟨KP_type,CV_range1 ⟨seqN hA'.handled (by omega),.cons rfl (.cons rfl (.cons rfl (.cons rfl (.cons rfl (.cons rfl (.cons rfl .nil)))))),D1,hd1⟩⟩
     ·refine eA hJ fun zz0 hd7 => ?_; obtain ⟨g,S,P⟩ := zz0
      clear hd1 D1
      have hj10 : j≤10 := Nat.le_trans (Nat.le_of_lt hj) hN10
      have hj1 := Nat.two_pow_pos j
      have hj2 : 2 ^ j≤2 ^ 10 := Nat.pow_le_pow_right (by decide) hj10
      obtain ⟨tj,htj⟩ : ∃ t,ts[j]? = some t := ⟨_,List.getElem?_eq_getElem (by refine rE hS.len ?_; exact hj)⟩
      obtain ⟨_,_,hcj,oj,us,rfl,hSj,hTj,hmj⟩ := hS.at_ j tj htj
      have hcj := S.k.at hcj
      have hzj : us.length < scanBound := Nat.lt_of_le_of_lt (tiny_len hTj) (by decide)
      have go : ∀ {g' : Nat→Option Int} {m' : Loc} {H' : CH},LsS H L lb lg N b g' H'→H' (L + 1) = some (.cell (some (.int (d : Nat))))→HourP N An starts dues (h : Nat) b g' (fun x y => (x < d∨(x = d∧y < j))∨(x = d∧y = j))→Sub ([("grown",.ref lg),("hour",.int h),("best",.ref lb),("size",.int N),("ahead",.ref la),("dues",.ref ld),("starts",.ref ls)] : Loc) m'→R2 .next m' H' := fun S' h' P' hs => (hR2 _ _ hs ⟨⟨_,S',P'.mono fun x y _ _ q => by grind⟩,h'⟩).1
      repeat walk_at "x"
      refine EX_cons (st := .If _ _ _ _) (ES_if (EB_and_pure (decide (d / 2 ^ j % 2 = 0)) (decide (starts j≤h)) ?_ (fun _ => ?_) ⟨fun q => ?_,fun q => ?_⟩))
      ·repeat walk_at "x"
       refine EV_cell (c := L + 1) (by with_unfolding_all rfl) hd7 ?_
       repeat walk_at "x"
       refine O2_pow2 hj10 ?_
       refine O2_div (by exact (fun {n} => Int.natCast_ne_zero_iff_pos.mpr) hj1) (by omega) ?_
       repeat walk_at "x"
       refine O2_mod (by decide) ?_
       repeat walk_at "x"
       exact ⟨_,rfl,by refine rE bit_val ?_; exact bit_zero,rfl,rfl⟩
      ·repeat walk_at "x"
       refine sub_list (v := .int (starts j)) (.own (S.k.at hls)) (Int.natCast_nonneg _) (mapN_get hj) (szR hNz) ?_
       repeat walk_at "x"
       exact ⟨_,rfl,rfl,rfl,rfl⟩
      ·rw [Bool.and_eq_true,decide_eq_true_eq,decide_eq_true_eq] at q
       refine EX_cons (st := .If _ _ _ _) (ES_if (EB_cmp (EV_lc ?_)))
       repeat walk_at "x"
       refine sub_list (.own (S.k.at hS.la_)) (Int.natCast_nonneg _) (mapA_get htj) (szM (by refine rE hS.len ?_; exact hNz)) ?_
       refine LC_set (fun k => decide (d / 2 ^ k.toNat % 2 = 0)) V.int hA'.handled hcj hSj hzj (fun k hk LC hLC => ?_) fun D vs hvs hD hD0 => ?_
       ·refine eEA ((hmj k).mp hk) fun a zz1 ha => ?_; subst zz1
        have haN := hlt a j ha
        have ha10 : a≤10 := Nat.le_trans (Nat.le_of_lt haN) hN10
        have ha1 := Nat.two_pow_pos a
        have ha2 : 2 ^ a≤2 ^ 10 := Nat.pow_le_pow_right (by decide) ha10
        repeat walk_at "x"
        refine EV_cell (c := L + 1) (by with_unfolding_all rfl) hd7 ?_
        repeat walk_at "x"
        refine O2_pow2 ha10 ?_
        refine O2_div (by exact (fun {n} => Int.natCast_ne_zero_iff_pos.mpr) ha1) (by omega) ?_
        repeat walk_at "x"
        refine O2_mod (by decide) ?_
        repeat walk_at "x"
        refine rE bit_val (rE bit_zero (rE (Int.toNat_natCast ..) ?_))
        refine ⟨_,rfl,fun q2 => ⟨q2.symm,rfl,fun _ => ?_⟩,fun q2 => ⟨q2.symm,rfl,fun h => by cases h⟩⟩
        repeat walk_at "x"
        exact ⟨rfl,rfl⟩
       ·refine EV_list ?_
        repeat walk_at "x"
        refine ⟨by decide,fun E hE => ?_⟩
        refine O2_eqd (.list (.own (at_new hE CH.set_same)) dr_ints) (.list (.own CH.set_same) .nil) ints_ok (by rfl) hA'.u10 fun c3 hc3 => ?_
        rw [ints_nil,List.filter_eq_nil_iff] at hc3
        have S' := (S.new (c := .list ((vs.filter fun k => decide (d / 2 ^ k.toNat % 2 = 0)).map V.int)) hD).new (c := .list []) hE
        have hd8 := at_new (d := .cell (some (.int (d : Nat)))) (c := .list []) hE (at_new (c := .list ((vs.filter fun k => decide (d / 2 ^ k.toNat % 2 = 0)).map V.int)) hD hd7)
        have hcan : c3 = true↔Can N An starts h d j := by
         rw [hc3]
         refine ⟨fun e => ⟨q.1,q.2,fun a _ ha e2 => ?_⟩,fun e k hk e2 => ?_⟩
         ·exact e a (hvs.mem_iff.mpr ((hmj _).mpr ⟨a,rfl,ha⟩)) (decide_eq_true (by refine rE (Int.toNat_natCast ..) ?_; exact e2))
         ·refine eEA ((hmj k).mp (hvs.mem_iff.mp hk)) fun a zz1 ha => ?_; subst zz1
          have e2 := of_decide_eq_true e2
          rw [Int.toNat_natCast] at e2
          exact e.2.2 a (hlt a j ha) ha e2
        clear hE hD hD0 hc3 hvs hcj hSj hTj hmj hzj hd7 S
        generalize ((H7.set D (.list ((vs.filter fun k => decide (d / 2 ^ k.toNat % 2 = 0)).map V.int))).set E (.list [])) = H8 at *
        refine ⟨c3,rfl,fun q3 => ?_,fun q3 => ?_⟩
        ·have hc := hcan.mp q3
         have hnew : d + 2 ^ j < 2 ^ N := bit_lt q.1 hj hd
         repeat walk_at "x"
         refine EV_b B g_max b_max ?_
         repeat walk_at "x"
         refine EV_cell (c := L + 1) (by with_unfolding_all rfl) hd8 ?_
         repeat walk_at "x"
         refine sub_list (v := .int u) (.own S'.hb) (Int.natCast_nonneg _) (by refine rE (best_get hd) (rE hu rfl)) (szR hp) ?_
         repeat walk_at "x"
         refine sub_list (v := .int (dues j)) (.own (S'.k.at hld)) (Int.natCast_nonneg _) (mapN_get hj) (szR hNz) ?_
         repeat walk_at "x"
         refine ⟨KP_built,CV_max2 hA'.handled ?_⟩
         refine rE max_if2 ?_
         repeat walk_at "x"
         refine EV_cell (c := L + 1) (by with_unfolding_all rfl) hd8 ?_
         repeat walk_at "x"
         refine O2_pow2 hj10 ?_
         repeat walk_at "x"
         refine rE (show ((d : Int) + ((2 ^ j : Nat) : Int)) = ((d + 2 ^ j : Nat) : Int) from (Int.natCast_add _ _).symm) ?_
         refine EX_cons (st := .If _ _ _ _) (ES_if (EB_or_pure (g (d + 2 ^ j)).isNone (decide (max u (h + 1 - dues j) < (g (d + 2 ^ j)).getD 0)) ?_ (fun e => ?_) ⟨fun q4 => ?_,fun q4 => ?_⟩))
         ·repeat walk_at "x"
          refine sub_list (.own S'.hg) (Int.natCast_nonneg _) (best_get hnew) (szR hp) ?_
          repeat walk_at "x"
          exact ⟨_,rfl,optV_isNone,rfl,rfl⟩
         ·obtain ⟨w,hw⟩ : ∃ w,g (d + 2 ^ j) = some w := by
           cases e2 : g (d + 2 ^ j) with
           | none => rw [e2] at e; cases e
           | some w => exact ⟨w,rfl⟩
          repeat walk_at "x"
          refine sub_list (v := .int w) (.own S'.hg) (Int.natCast_nonneg _) (by refine rE (best_get hnew) (rE hw rfl)) (szR hp) ?_
          repeat walk_at "x"
          exact ⟨_,rfl,by refine rE hw ?_; rfl,rfl,rfl⟩
         ·repeat walk_at "x"
          refine set_list S'.hg (Int.natCast_nonneg _) (ltR hnew) (szR hp) ?_
          refine rE (best_set hnew) ?_
          repeat walk_at "x"
          refine go (S'.put lg0 lbg) (at_ne (Ne.symm (ne_at S'.hg hd8)) hd8) (P.put hd hj hu hc fun w hw => ?_) (.cons rfl (.cons rfl (.cons rfl (.cons rfl (.cons rfl (.cons rfl (.cons rfl .nil)))))))
          rw [hw] at q4
          exact of_decide_eq_true q4
         ·repeat walk_at "x"
          rw [Bool.or_eq_false_iff] at q4
          obtain ⟨w,hw⟩ : ∃ w,g (d + 2 ^ j) = some w := by
           cases e2 : g (d + 2 ^ j) with
           | none => rw [e2] at q4; cases q4.1
           | some w => exact ⟨w,rfl⟩
          refine go S' hd8 (P.leave hu hw ?_) (.cons rfl (.cons rfl (.cons rfl (.cons rfl (.cons rfl (.cons rfl (.cons rfl .nil)))))))
          rw [hw] at q4
          exact of_decide_eq_false q4.2
        ·repeat walk_at "x"
         exact go S' hd8 (P.skip fun u' _ hc => by rw [hcan.mpr hc] at q3; cases q3) (.cons rfl (.cons rfl (.cons rfl (.cons rfl (.cons rfl (.cons rfl (.cons rfl .nil)))))))
      ·repeat walk_at "x"
       refine go S hd7 (P.skip fun u' _ hc => ?_) (.cons rfl (.cons rfl (.cons rfl (.cons rfl (.cons rfl (.cons rfl (.cons rfl .nil)))))))
       rw [decide_eq_true hc.1,decide_eq_true hc.2.1] at q; cases q
     ·refine eA hJ fun zz0 hd7 => ?_; obtain ⟨g,S,P⟩ := zz0
      repeat walk_at "x"
      exact (hRR _ _ (.cons rfl (.cons rfl (.cons rfl (.cons rfl (.cons rfl (.cons rfl (.cons rfl .nil))))))) ⟨g,S,P.mono fun x y _ hy q => by grind⟩).1
    ·have hu : b d = none := by
      cases e : b d with
      | none => rfl
      | some u => rw [e] at q; cases q
     repeat walk_at "x"
     refine (hRR _ _ (.cons rfl (.cons rfl (.cons rfl (.cons rfl (.cons rfl (.cons rfl (.cons rfl .nil))))))) ⟨g,S,P.up,P.keep,fun x y u hx hy hp hb hc => ?_⟩).1
     rcases Nat.lt_succ_iff_lt_or_eq.mp hp with q | q
     ·exact P.down x y u hx hy q hb hc
     ·rw [q,hu] at hb; cases hb
   ·obtain ⟨g,S,P⟩ := hJ
    obtain ⟨bests,b0,bh,rfl⟩ := I
    have Hh := (P.mono (P' := fun _ _ => True) fun x y hx _ _ => hx).all
    repeat walk_at "x"
    refine ⟨_,.cons rfl (.cons rfl (.cons rfl (.cons rfl (.cons rfl .nil)))),⟨lg,g,⟨fun i => if i = h + 1 then g else bests i,fun S hS => ?_,fun i hi => ?_,(if_pos rfl).symm⟩,rfl,S.k,S.c,S.hg⟩⟩
    ·refine rE (if_neg (by exact Nat.zero_ne_add_one h)) ?_; exact b0 S hS
    ·by_cases e : i = h
     ·subst e
      refine rE (if_neg (by exact Nat.ne_add_one i)) (rE (if_pos rfl) ?_); exact Hh
     ·refine rE (if_neg (by exact Nat.ne_of_lt hi)) (rE (if_neg (by (clear hN0 hN hls hld hN10 hNz hp hp0 hHc hL1 hlt' hy lg0 lbg hi; lia))) ?_); exact bh i (by lia)
  ·rw [List.length_map,List.length_range] at hi
   subst hi
   exact EX_nil ⟨lb,b,I,rfl,k,c,hb⟩
 ·obtain ⟨lb,b,I,rfl,k,c,hb⟩ := hM
  clear hb3 hc3 k3
  repeat walk_at "x"
  refine O2_pow2 hN10 ?_
  repeat walk_at "x"
  refine rE (show (((2 ^ N : Nat) : Int) - 1) = ((2 ^ N - 1 : Nat) : Int) from by omega) ?_
  refine sub_list (.own hb) (Int.natCast_nonneg _) (best_get (by exact Nat.sub_one_lt_of_lt hp0)) (szR hp) ?_
  exact hR0 _ _ ⟨M,b,L,hM1',hM2',I,rfl,k⟩
end
end
section
noncomputable abbrev a_moved : Addr := 213
noncomputable abbrev qsM : List ((Nat × Nat) × Str) := [((227,25), "_law_moved.<locals>.<lambda>"),((230,30), "_law_moved.<locals>.<lambda>")]
theorem g_TS {P : Params} : nsIn (KK P) mainGlobals "TopologicalSorter" = some (some (.ref cTS)) := by kernel_rfl
theorem g_reduce {P : Params} : nsIn (KK P) mainGlobals "reduce" = some (some (.ref a_reduce)) := by kernel_rfl
structure Rows (N : Nat) (near : Nat→List Nat) (ln : Addr) (ns : List Addr) (H : CH) : Prop where
 ln_ : H ln = some (.list (ns.map .ref))
 len : ns.length = N
 at_ : ∀ k t,ns[k]? = some t→H t = some (.list ((near k).map intN))
theorem Rows.keep {N : Nat} {near : Nat→List Nat} {ln : Addr} {ns : List Addr} {H H' : CH} (R : Rows N near ln ns H) (k : Kept H H') : Rows N near ln ns H' :=
 ⟨k.at R.ln_,R.len,fun i t h => k.at (R.at_ i t h)⟩
structure PickOk (C : Cx) (f : V) (pk : Int→Int→Int) (n : Nat) : Prop where
 kp : ∀ env fr H',KP (C.as env fr) f H'
 call : ∀ env fr A' H',AOK (C.as env fr) A' n→∀ x y,CALL (C.as env fr) A' f [.int x,.int y] [] H' fun v H'' => v = .int (pk x y)∧H'' = H'
inductive MvV (N : Nat) (near : Nat→List Nat) (hf : Nat→Int) (st : Int) (pk : Int→Int→Int) (H : CH) (v : V) (H' : CH) : Prop
 | mk (lm : Addr) (mv : Nat→Int) (hv : v = .ref lm) (h0 : H lm = none) (h1 : H' lm = some (.list ((List.range N).map fun j => .int (mv j)))) (E : ∀ j,j < N→mv j = mvAt near hf st pk mv j) (k : Kept H H') : MvV N near hf st pk H v H'
theorem mv_set {N : Nat} {f : Nat→Int} {m : Nat} {t : Int} (h : m < N) : ((List.range N).map fun j => V.int (f j)).set ((m : Nat) : Int).toNat (.int t) = (List.range N).map fun j => V.int (mput f m t j) := by
 apply List.ext_getElem?
 intro i
 refine rE (Int.toNat_natCast ..) (rE List.getElem?_set (rE (List.length_map ..) (rE List.length_range (rE List.getElem?_map (rE List.getElem?_map ?_)))))
 by_cases e : m = i
 ·subst e
  refine rE (if_pos rfl) (rE (if_pos h) (rE (List.getElem?_range h) ?_))
  show _ = some (V.int (mput f m t m))
  rewrite [mput]; refine rE (if_pos rfl) rfl
 ·refine rE (if_neg e) ?_
  by_cases hi : i < N
  ·refine rE (List.getElem?_range hi) ?_
   show _ = some (V.int (mput f m t i))
   rewrite [mput]; refine rE (if_neg (Ne.symm e)) ?_; rfl
  ·refine rE (List.getElem?_eq_none (by rw [List.length_range]; exact Nat.le_of_not_lt hi)) ?_; rfl
inductive MvA (a : Addr) (near : Nat→List Nat) (Hc : CH) (i : Nat) (H' : CH) : Prop
 | mk (Ly : Lay) (Z : S1 a (addL (adsM near i)) Ly Hc H') : MvA a near Hc i H'
noncomputable abbrev mvL (N : Nat) (mv : Nat→Int) : CObj := .list ((List.range N).map fun j => .int (mv j))
inductive MvW (N : Nat) (near : Nat→List Nat) (hf : Nat→Int) (st : Int) (pk : Int→Int→Int) (nr : Int→List Int) (T7 : TS) (M : CH) (a lm ln lh : Addr) (k : Nat) (m' : Loc) (H' : CH) : Prop
 | mk (T : TS) (Ly : Lay) (mv : Nat→Int) (dn ready : List Int) (Z : S1 a T Ly (M.set lm (mvL N mv)) H') (Rn : Run T nr dn [] ready) (hTk : T.keys = T7.keys) (hTs : T.sc = T7.sc) (I : MvI N near hf st pk mv fun j => (j : Int) ∈ dn) (hk : k = T7.keys.length - dn.length)
   (hm : m' = ([("sorter",.ref a),("near",.ref ln),("hours",.ref lh)] : Loc)) : MvW N near hf st pk nr T7 M a lm ln lh k m' H'
inductive MvG (N : Nat) (near : Nat→List Nat) (hf : Nat→Int) (st : Int) (pk : Int→Int→Int) (T : TS) (Ly : Lay) (M : CH) (a lm : Addr) (dn ready : List Int) (t : Nat) (H' : CH) : Prop
 | mk (mv : Nat→Int) (Z : S1 a T Ly (M.set lm (mvL N mv)) H') (I : MvI N near hf st pk mv fun j => (j : Int) ∈ dn∨(j : Int) ∈ ready.take t) : MvG N near hf st pk T Ly M a lm dn ready t H'
inductive RdJ (Hb : CH) (l : List Nat) (t : Nat) (v : V) (H' : CH) : Prop
 | none (h0 : t = 0) (hv : v = V.none) (k : Kept Hb H') : RdJ Hb l t v H'
 | some (r : Addr) (h0 : t≠0) (hv : v = .ref r) (h1 : Hb r = Option.none) (h2 : H' r = Option.some (.list ((l.take t).map intN))) (k : Kept Hb H') : RdJ Hb l t v H'
theorem RdJ.kept {Hb H' : CH} {l : List Nat} {t : Nat} {v : V} (h : RdJ Hb l t v H') : Kept Hb H' := by cases h <;> assumption
theorem dr_nats {C : Cx} {H : CH} {l : List Nat} : DRs C H (l.map intN) (l.map fun k : Nat => Dat.int (k : Int)) := DRs.map fun k _ => .int _
theorem nats_ok {l : List Nat} : kqdOk 8 (.list (l.map fun k : Nat => Dat.int (k : Int))) = true := by
 show ((l.map fun k : Nat => Dat.int (k : Int)).all (kqdOk 7)) = true
 refine rE List.all_map ?_; rewrite [List.all_eq_true]; intro k _; rfl
theorem nats_nil {l : List Nat} : (Dat.list (l.map fun k : Nat => Dat.int (k : Int))≠.list [])↔l≠[] :=
 not_congr ⟨fun e => by injection e with e; exact List.map_eq_nil_iff.mp e,fun e => by refine rE e ?_; rfl⟩
section
variable {C : Cx} {A : Around} {m : Loc} {H : CH} {s : Shared} {mg mb : Str→Option Value} {P : Params}
theorem code_moved (B : Bs C.h₀ (KK P) mg mb) : CodeHd C.h₀ 212 208 :=
 ⟨_,_,_,_,_,_,_,_,_,B.X 212 _ (by with_unfolding_all rfl),rfl,rfl,rfl,rfl,rfl,rfl,rfl,rfl,by decide⟩
set_option maxHeartbeats 4000000 in
theorem spec_moved {lh ln : Addr} {ns : List Addr} {N : Nat} {near : Nat→List Nat} {hf : Nat→Int} {st : Int} {pk : Int→Int→Int} {fp : V} {rk : Nat→Nat} (hN : N≤7) (hrk : ∀ j,j < N→∀ a ∈ near j,a < N∧rk a < rk j) (hz : ∀ j,j < N→(near j).length≤63) (B : Bs C.h₀ (KK P) mg mb) {n : Nat} (hA : AOK C A (n + 6)) (hpk : PickOk C fp pk n)
  (hlh : H lh = some (.list ((List.range N).map fun j => .int (hf j)))) (hR : Rows N near ln ns H) (hP : H 208 = some (.tab qsM)) :
  CALL C A (.con (.ref a_moved)) [.ref lh,.ref ln,.int st,fp] [] H (MvV N near hf st pk H) := by
 refine CALL_hide fun R0 hR0 => ?_
 have hNz : N≤2 ^ 10 := Nat.le_trans hN (by decide)
 have hN62 : N < 2 ^ 62 := Nat.lt_of_le_of_lt hN (by decide)
 refine CALL_cells (m' := [("near",.ref ln),("hours",.ref lh)]) B (by with_unfolding_all rfl) (by with_unfolding_all rfl) hA rfl bz4 (cells_ok (by kernel_rfl)) (by kernel_rfl) fun L hL hA' => ?_
 refine EX_gen fun Hc hHc => ?_
 have hHc : Hc = ((H.set (L + 1) (.cell (some (.int st)))).set (L + 2) (.cell (some fp))).set (L + 3) (.cell none) := hHc.trans (by kernel_rfl)
 have hL1 : H (L + 1) = none := (hL (L + 1) (Nat.le_succ L)).1
 have hL2 : H (L + 2) = none := (hL (L + 2) (Nat.le_add_right L 2)).1
 have hL3 : H (L + 3) = none := (hL (L + 3) (Nat.le_add_right L 3)).1
 have ne : ∀ {i j : Nat},i≠j→(L + i : Nat)≠(L + j : Nat) := fun {i j} h e => h (Nat.add_left_cancel e)
 have kc : Kept H Hc := by
  refine rE hHc ?_
  refine ((Kept.refl.new hL1).new ?_).new ?_
  ·exact at_ne (ne (by decide)) hL2
  ·exact at_ne (ne (by decide)) (at_ne (ne (by decide)) hL3)
 have hc1 : Hc (L + 1) = some (.cell (some (.int st))) := by refine rE hHc ?_; exact at_ne (ne (by decide)) (at_ne (ne (by decide)) CH.set_same)
 have hc2 : Hc (L + 2) = some (.cell (some fp)) := by refine rE hHc ?_; exact at_ne (ne (by decide)) CH.set_same
 have hc3 : Hc (L + 3) = some (.cell none) := by refine rE hHc ?_; exact CH.set_same
 clear hHc
 have hRc := hR.keep kc
 have hlc := kc.at hlh
 have hPc := kc.at hP
 repeat walk_at "x"
 refine EV_g B g_TS ?_
 repeat walk_at "x"
 refine ⟨KP_cls B k_keepTS,CV_of ((spec_makeTS (by exact B) (n := n + 3) hA').mono ?_)⟩
 rintro v H₄ ⟨a,Ly,rfl,R,hk4⟩
 have Z0 : S1 a .new Ly Hc H₄ := ⟨R,fun x c e => let h := hk4 x (sn e); ⟨h.1.trans e,h.2⟩⟩
 clear R hk4
 repeat walk_at "x"
 refine EX_forN (N := N) (f := intN) (J := MvA a near Hc) (m0 := [("sorter",.ref a),("near",.ref ln),("hours",.ref lh)]) ?_ (fun i hi H' hJ RR hRR => ?_) fun H₅ hM => ?_
 ·repeat walk_at "x"
  refine EV_b B g_range b_range ?_
  repeat walk_at "x"
  refine EV_b B g_len b_len ?_
  repeat walk_at "x"
  refine ⟨KP_built,CV_lenM (.own (Z0.get hlc)) (szR hNz) ?_⟩
  refine rE List.length_range ?_
  repeat walk_at "x"
  exact ⟨KP_type,CV_range1 ⟨seqN hA'.handled hN62,.cons rfl (.cons rfl (.cons rfl .nil)),⟨Ly,Z0⟩⟩⟩
 ·obtain ⟨Ly,Z⟩ := hJ
  clear Z0
  have hBi := (addL_built (adsM near i)).1
  have hLe := addL_le (M := 63) (adsM near i) (adsM_two fun j hj => hz j (Nat.lt_trans hj hi))
  rw [adsM_len] at hLe
  obtain ⟨ti,hti⟩ : ∃ t,ns[i]? = some t := ⟨_,List.getElem?_eq_getElem (by refine rE hR.len ?_; exact hi)⟩
  repeat walk_at "x"
  refine GA_bound (f := a_add) B Z.ru.top Z.ru.dict rfl ?_
  repeat walk_at "x"
  refine sub_list (v := .ref ti) (.own (Z.get hRc.ln_)) (Int.natCast_nonneg _) (mapA_get hti) (szM (by refine rE hR.len ?_; exact hNz)) ?_
  refine ⟨(near i).map intN,.list (.own (Z.get (hRc.at_ i ti hti))),szM (Nat.le_trans (hz i hi) (by decide)),?_⟩
  repeat walk_at "x"
  have eps : ((near i).map intN ++ []) = ((near i).map fun a : Nat => (a : Int)).map V.int := by refine rE (List.append_nil ..) (rE List.map_map ?_); rfl
  refine rE eps ?_
  have hsz : i * (1 + 2 * 63) + 2 * ((near i).map fun a : Nat => (a : Int)).length + 2 < sizeLine := by
   have h1 := hz i hi
   have h2 : 10000 < sizeLine := by decide
   have h3 : i * (1 + 2 * 63)≤7 * (1 + 2 * 63) := Nat.mul_le_mul_right _ (by lia)
   refine rE (List.length_map ..) ?_; lia
  refine ⟨KP_bound (B.X a_add _ (by with_unfolding_all rfl)) rfl,CV_of (CALL_bound ((spec_add (k := (i : Nat)) (by exact B) (n := n + 1) hA' Z.ru (hBi 0).ready hLe hsz).mono ?_))⟩
  rintro v H'' ⟨rfl,Ly2,R2,F2⟩
  have Z2 := Z.step R2 F2
  rw [← addL_snoc,← adsM_succ] at Z2
  repeat walk_at "x"
  exact (hRR _ _ (.cons rfl (.cons rfl (.cons rfl .nil))) ⟨Ly2,Z2⟩).1
 ·obtain ⟨Ly,Z⟩ := hM
  clear Z0
  have hlt : ∀ j,j < N→∀ a ∈ near j,a < N := fun j hj a ha => (hrk j hj a ha).1
  have hB7 := (addL_built (adsM near N)).1
  have hkeys := fun {x} => @adsM_keys near N hlt x
  have hnear := fun {v x} => @adsM_near near N v x
  have hLe7 := addL_le (M := 63) (adsM near N) (adsM_two hz)
  rw [adsM_len] at hLe7
  have hRun := Run.start hB7
  generalize addL (adsM near N) = T7 at *
  generalize nearL (adsM near N) = nr at *
  have hsc0 : ∀ k ∈ T7.keys,∀ x ∈ T7.sc k,x ∈ T7.keys∧k ∈ nr x := fun k hk x hx => sc_near hB7 hk hx
  have hkl : T7.keys.length≤N := keys_few (hB7 0).nodup fun x => hkeys.mp
  have h2z : 10000 < sizeLine := by decide
  have hNm : N * (1 + 2 * 63)≤7 * (1 + 2 * 63) := Nat.mul_le_mul_right _ hN
  repeat walk_at "x"
  refine GM_inst (f := a_prepare) B Z.ru.top Z.ru.dict rfl ?_
  repeat walk_at "x"
  refine ⟨KP_K B (by with_unfolding_all rfl),CV_of ((spec_prepare (rk := fun x => (rk x.toNat : Int)) (fun k hk x hx => ⟨(hsc0 k hk x hx).1,by
   obtain ⟨c,k',rfl,rfl,h1,h2⟩ := hnear.mp (hsc0 k hk x hx).2
   have := (hrk k' h1 c h2).2
   show ((rk (Int.toNat c) : Nat) : Int) < ((rk (Int.toNat k') : Nat) : Int)
   refine rE (Int.toNat_natCast ..) (rE (Int.toNat_natCast ..) ?_); lia⟩) (by unfold scanBound; lia) (by exact B) (n := n + 3) hA' Z.ru (hB7 0).ready).mono ?_)⟩
  rintro v H₇ ⟨rfl,Ly7,R7,F7⟩
  have Z := Z.step R7 F7
  clear R7 F7
  repeat walk_at "x"
  refine EV_b B g_list b_list ?_
  repeat walk_at "x"
  refine ⟨KP_type,CV_list_of (.list (.own (Z.get hlc))) (szR hNz) fun lm hlm _ => ?_⟩
  have lm0 : Hc lm = none := Z.new hlm
  have Z := Z.set (c := .list ((List.range N).map fun j => .int (hf j))) (.inr hlm)
  refine ASG_cell (c := L + 3) (by with_unfolding_all rfl) (Z.get (at_new lm0 hc3)) ?_
  have Z := Z.set (x := L + 3) (c := .cell (some (.ref lm))) (.inl (by refine rE (at_new lm0 hc3) ?_; exact fun e => nomatch e))
  have hm0 : ∀ x,H x≠none→((Hc.set lm (.list ((List.range N).map fun j => .int (hf j)))).set (L + 3) (.cell (some (.ref lm)))) x = H x := fun x hx => by
   refine rE (CH.set_ne fun e => hx (by rw [e]; exact hL3)) (rE (CH.set_ne (ne_out (by rw [kc x hx]; exact hx) lm0)) ?_); exact kc x hx
  have m1 : ((Hc.set lm (.list ((List.range N).map fun j => .int (hf j)))).set (L + 3) (.cell (some (.ref lm)))) (L + 1) = some (.cell (some (.int st))) := at_ne (ne (by decide)) (at_new lm0 hc1)
  have m2 : ((Hc.set lm (.list ((List.range N).map fun j => .int (hf j)))).set (L + 3) (.cell (some (.ref lm)))) (L + 2) = some (.cell (some fp)) := at_ne (ne (by decide)) (at_new lm0 hc2)
  have m3 : ((Hc.set lm (.list ((List.range N).map fun j => .int (hf j)))).set (L + 3) (.cell (some (.ref lm)))) (L + 3) = some (.cell (some (.ref lm))) := CH.set_same
  have lmL : lm≠L + 3 := ne_at lm0 hc3
  have mm : ((Hc.set lm (.list ((List.range N).map fun j => .int (hf j)))).set (L + 3) (.cell (some (.ref lm)))) lm = some (.list ((List.range N).map fun j => .int (hf j))) := at_ne lmL CH.set_same
  have lmH : H lm = none := kc.none lm0
  clear hlm lm0 hc1 hc2 hc3 hRc hlc hPc kc
  generalize ((Hc.set lm (.list ((List.range N).map fun j => .int (hf j)))).set (L + 3) (.cell (some (.ref lm)))) = M at *
  generalize (CH.set _ (L + 3) (.cell (some (.ref lm)))) = H₈ at *
  rw [← CH.set_self mm] at Z
  have mx : ∀ {mv : Nat→Int} {x : Addr} {c : CObj},H x = some c→(M.set lm (mvL N mv)) x = some c := fun {mv x c} e => at_ne (ne_out (sn e) lmH) ((hm0 x (sn e)).trans e)
  have g1 : ∀ {mv : Nat→Int},(M.set lm (mvL N mv)) (L + 1) = some (.cell (some (.int st))) := fun {mv} => at_ne (Ne.symm (ne_at mm m1)) m1
  have g2 : ∀ {mv : Nat→Int},(M.set lm (mvL N mv)) (L + 2) = some (.cell (some fp)) := fun {mv} => at_ne (Ne.symm (ne_at mm m2)) m2
  have g3 : ∀ {mv : Nat→Int},(M.set lm (mvL N mv)) (L + 3) = some (.cell (some (.ref lm))) := fun {mv} => at_ne (Ne.symm (ne_at mm m3)) m3
  have put : ∀ {mv : Nat→Int} {mv' : Nat→Int} {T : TS} {Ly : Lay} {H' : CH},S1 a T Ly (M.set lm (mvL N mv)) H'→S1 a T Ly (M.set lm (mvL N mv')) (H'.set lm (mvL N mv')) := fun {mv mv' T Ly H'} Z => by
   have := Z.set (x := lm) (c := mvL N mv') (.inl (by refine rE CH.set_same ?_; exact fun e => nomatch e))
   rw [CH.set_set] at this; exact this
  clear m1 m2 m3 mm
  repeat walk_at "x"
  refine EX_mid (st := .While _ _ _ _) (fun m' H' => ∃ (T : TS) (Ly : Lay) (mv : Nat→Int),S1 a T Ly (M.set lm (mvL N mv)) H'∧∀ j,j < N→mv j = mvAt near hf st pk mv j) ?_ fun m' H' hm => ?_
  ·refine ES_while (MvW N near hf st pk nr T7 M a lm ln lh) _ _ (.cons rfl (.cons rfl (.cons rfl .nil))) ⟨_,_,hf,[],_,Z,hRun,rfl,rfl,⟨fun _ _ h => (by cases h),fun _ _ h => (by cases h)⟩,rfl,rfl⟩ ?_
   clear Z hRun
   rintro k m' H' ⟨T,Ly,mv,dn,ready,Z,Rn,hTk,hTs,I,rfl,rfl⟩
   have hrl : ready.length≤N := Nat.le_trans (nodup_le Rn.rnd fun x hx => by refine rF hTk ?_; exact ((Rn.rmem x).mp hx).1) hkl
   repeat walk_at "x"
   refine GM_inst (f := a_isactive) B Z.ru.top Z.ru.dict rfl ?_
   repeat walk_at "x"
   refine ⟨KP_K B (by with_unfolding_all rfl),CV_of ((spec_isactive (by exact B) (n := n + 4) hA' Z.ru Rn.rdy (by omega)).mono ?_)⟩
   rintro v H'' ⟨rfl,rfl⟩
   refine OB_bool ⟨fun hb => ?_,fun hb => ?_⟩
   ·have hne : ready≠[] := by
     intro e
     subst e
     rw [Rn.pass,Rn.fin] at hb
     simp at hb
    repeat walk_at "x"
    refine GM_inst (f := a_getready) B Z.ru.top Z.ru.dict rfl ?_
    repeat walk_at "x"
    refine ⟨KP_K B (by with_unfolding_all rfl),CV_of ((spec_getready (by exact B) (n := n + 4) hA' Z.ru Rn.rdy (fun k hk => ((Rn.rmem k).mp hk).1) (by omega)).mono ?_)⟩
    rintro v H₈ ⟨rfl,R8,F8⟩
    have Z8 := Z.step R8 F8
    have Rn8 := Rn.get
    rw [List.nil_append] at Rn8
    have hk8 : (T.getReady ready).keys = T.keys := (@TS.out_eq ready T).1
    have hs8 : (T.getReady ready).sc = T.sc := (@TS.out_eq ready T).2.2.2.2
    clear R8 F8 Z
    generalize T.getReady ready = T8 at *
    repeat walk_at "x"
    refine EX_forL (l := ready) (f := V.int) (ok := fun _ => True) (J := MvG N near hf st pk T8 Ly M a lm dn ready) (m0 := [("group",.tup (ready.map .int)),("sorter",.ref a),("near",.ref ln),("hours",.ref lh)]) ?_ (fun _ _ _ => trivial) (fun t x hx H₉ hJ RR hRR => ?_) fun H₉ hJ => ?_
    ·repeat walk_at "x"
     exact ⟨seq_tup hA'.handled,.cons rfl (.cons rfl (.cons rfl (.cons rfl .nil))),⟨mv,Z8,⟨fun j hj h => I.eq j hj (h.resolve_right fun q => by cases q),fun j hj h b hb => .inl (I.cl j hj (h.resolve_right fun q => by cases q) b hb)⟩⟩⟩
    ·obtain ⟨mv,Z,I⟩ := hJ
     clear Z8
     have hxr := List.mem_of_getElem? hx
     refine eAAA ((Rn.rmem x).mp hxr) fun q1 q2 _ q4 => ?_
     refine eEA (hkeys.mp (by rw [← hTk]; exact q1)) fun j zz1 hjN => ?_; subst zz1
     have htk : ready.take (t + 1) = ready.take t ++ [(j : Int)] := by refine rE List.take_add_one (rE hx ?_); rfl
     have hnt : (j : Int) ∉ ready.take t := fun q => by
      have : (ready.take (t + 1)).Nodup := Rn.rnd.sublist (List.take_sublist ..)
      rw [htk,List.nodup_append] at this
      exact this.2.2 _ q _ (by simp) rfl
     have hcl : ∀ b ∈ near j,((b : Int) ∈ dn∨(b : Int) ∈ ready.take t) := fun b hb => .inl (q4 b (hnear.mpr ⟨b,j,rfl,rfl,hjN,hb⟩))
     obtain ⟨tj,htj⟩ : ∃ t,ns[j]? = some t := ⟨_,List.getElem?_eq_getElem (by refine rE hR.len ?_; exact hjN)⟩
     have hnz : (ns.map V.ref).length≤sizeLine := szM (by refine rE hR.len ?_; exact hNz)
     have htl := Z.get (mx (hR.at_ j tj htj))
     have hjz := hz j hjN
     repeat walk_at "x"
     refine EV_g B g_reduce ?_
     repeat walk_at "x"
     refine EV_lambda B (Z.get (mx hP)) (code_moved B) ?_
     repeat walk_at "x"
     refine sub_list (v := .ref tj) (.own (Z.get (mx hR.ln_))) (Int.natCast_nonneg _) (mapA_get htj) hnz ?_
     repeat walk_at "x"
     refine ⟨KP_K B (by with_unfolding_all rfl),CV_of ((spec_reduce (by exact B) (n := n + 4) hA' htl (.inr (.inl rfl)) (RdJ H₉ (near j)) (.none rfl rfl .refl) (fun env H'' => KP_lam) ?_ (fun i v H' h => h.kept.at htl)).mono ?_)⟩
     ·rintro i v x H' env hAA hJ hx
      rw [List.getElem?_map] at hx
      refine eEA (Option.map_eq_some_iff.mp hx) fun b hb zz2 => ?_; subst zz2
      have hil := (List.getElem?_eq_some_iff.mp hb).1
      have htk2 : ((near j).take (i + 1)).map intN = ((near j).take i).map intN ++ [intN b] := by refine rE List.take_add_one (rE hb (rE List.map_append ?_)); rfl
      refine CALL_fn B.lim hAA (fun _ _ _ => .pos2) (by with_unfolding_all rfl) rfl fun L' a' c' hL' hL0' hA2 => ?_
      repeat walk_at "x"
      cases hJ with
      | none h0 hv k =>
       subst hv
       refine ⟨_,rfl,fun _ => ?_,fun q => (by cases q)⟩
       refine EV_list ?_
       repeat walk_at "x"
       refine ⟨(by show 1≤sizeLine; decide),fun r hr => .some r (Nat.succ_ne_zero i) rfl (k.none hr) ?_ (k.new hr)⟩
       refine rE CH.set_same (rE htk2 (rE h0 ?_)); rfl
      | some r h0 hv h1 h2 k =>
       subst hv
       refine ⟨_,rfl,fun q => (by cases q),fun _ => ?_⟩
       repeat walk_at "x"
       refine EV_list ?_
       repeat walk_at "x"
       refine ⟨(by show 1≤sizeLine; decide),fun e he => ?_⟩
       have hre : r≠e := ne_out (sn h2) he
       refine add_lists (.own (at_ne hre h2)) (.own CH.set_same) (by refine rE (List.length_map ..) (rE List.length_take ?_); simp only [List.length_cons,List.length_nil]; grind) fun r2 hr2 => ?_
       have k2 := k.new (c := .list [intN b]) he
       refine .some r2 (Nat.succ_ne_zero i) rfl (k2.none hr2) ?_ (k2.new hr2)
       refine rE CH.set_same (rE htk2 rfl)
     intro v H₁ hJ
     rw [List.length_map] at hJ
     have Z := Z.more hJ.kept
     have htl := hJ.kept.at htl
     repeat walk_at "x"
     refine EX_cons (st := .If _ _ _ _) (ES_if (EB.mono (Q := fun c m' H' => c = false∧m' = ([("row",v),("j",.int (j : Nat)),("group",.tup (ready.map .int)),("sorter",.ref a),("near",.ref ln),("hours",.ref lh)] : Loc)∧∃ E,H₁ E = none∧H' = H₁.set E (.list [])) (EB_cmp ?_) ?_))
     ·repeat walk_at "x"
      refine sub_list (v := .ref tj) (.own (Z.get (mx hR.ln_))) (Int.natCast_nonneg _) (mapA_get htj) hnz ?_
      refine EV_list ?_
      repeat walk_at "x"
      refine ⟨by decide,fun E hE => ?_⟩
      refine O2_ned (.list (.own (at_new hE htl)) dr_nats) (.list (.own CH.set_same) .nil) nats_ok (by rfl) hA'.u10 fun c3 hc3 => ?_
      rw [nats_nil] at hc3
      have kE : Kept H₁ (H₁.set E (.list [])) := Kept.refl.new hE
      refine ⟨c3,rfl,fun q => ?_,fun q => ?_⟩
      ·have hn0 := hc3.mp q
       cases hJ with
       | none h0 hv k => exact absurd (List.length_eq_zero_iff.mp h0) hn0
       | some r h0 hv h1 h2 k =>
        rw [List.take_length] at h2
        subst hv
        repeat walk_at "x"
        refine sub_list (v := .ref tj) (.own ((Z.more kE).get (mx hR.ln_))) (Int.natCast_nonneg _) (mapA_get htj) hnz ?_
        refine O2_ned (.list (.own (kE.at h2)) dr_nats) (.list (.own (kE.at htl)) dr_nats) nats_ok nats_ok hA'.u10 fun c4 hc4 => ?_
        refine ⟨c4,rfl,?_,rfl,E,hE,rfl⟩
        cases q5 : c4 with
        | false => rfl
        | true => exact absurd rfl (hc4.mp q5)
      ·have hn0 : near j = [] := Classical.byContradiction fun e => by rw [hc3.mpr e] at q; cases q
       cases hJ with
       | some r h0 hv h1 h2 k => exact absurd (by refine rE hn0 ?_; rfl) h0
       | none h0 hv k =>
        subst hv
        repeat walk_at "x"
        refine O2_ned .none .none (by rfl) (by rfl) hA'.u10 fun c4 hc4 => ?_
        refine ⟨c4,rfl,?_,rfl,E,hE,rfl⟩
        cases q5 : c4 with
        | false => rfl
        | true => exact absurd rfl (hc4.mp q5)
     rintro c m' H' ⟨rfl,rfl,E,hE,rfl⟩
     refine ⟨fun q => (by cases q),fun _ => ?_⟩
     have kE : Kept H₁ (H₁.set E (.list [])) := Kept.refl.new hE
     have Z := Z.more kE
     have htl := kE.at htl
     clear hJ kE hE
     generalize (H₁.set E (.list [])) = H₂ at *
     repeat walk_at "x"
     refine EV_g B g_reduce ?_
     repeat walk_at "x"
     refine EV_lambda B (Z.get (mx hP)) (code_moved B) ?_
     repeat walk_at "x"
     refine sub_list (v := .ref tj) (.own (Z.get (mx hR.ln_))) (Int.natCast_nonneg _) (mapA_get htj) hnz ?_
     repeat walk_at "x"
     refine sub_list (v := .int (hf j)) (.own (Z.get (mx hlh))) (Int.natCast_nonneg _) (mapN_get hjN) (szR hNz) ?_
     repeat walk_at "x"
     refine ⟨KP_K B (by with_unfolding_all rfl),CV_of ((spec_reduce (by exact B) (n := n + 4) hA' htl (.inl ⟨_,rfl⟩) (fun i v H' => H' = H₂∧v = .int (((near j).take i).foldl (fun now a => pk now (mv a + st)) (hf j))) ⟨rfl,rfl⟩ (fun env H'' => KP_lam) ?_ (fun i v H' h => by refine rE h.1 ?_; exact htl)).mono ?_)⟩
     ·rintro i v x H' env hAA ⟨rfl,rfl⟩ hx
      rw [List.getElem?_map] at hx
      refine eEA (Option.map_eq_some_iff.mp hx) fun b hb zz2 => ?_; subst zz2
      have hbN := hlt j hjN b (List.mem_of_getElem? hb)
      refine CALL_fn B.lim hAA (fun _ _ _ => .pos2) (by with_unfolding_all rfl) rfl fun L' a' c' hL' hL0' hA2 => ?_
      repeat walk_at "x"
      refine EV_free (c := L + 2) (by with_unfolding_all rfl) (Z.get g2) ?_
      repeat walk_at "x"
      refine EV_free (c := L + 3) (by with_unfolding_all rfl) (Z.get g3) ?_
      repeat walk_at "x"
      refine sub_list (v := .int (mv b)) (.own (Z.get CH.set_same)) (Int.natCast_nonneg _) (mapN_get hbN) (szR hNz) ?_
      refine EV_free (c := L + 1) (by with_unfolding_all rfl) (Z.get g1) ?_
      repeat walk_at "x"
      refine ⟨hpk.kp _ _ _,CV_of ((hpk.call _ _ _ _ (hA2.le (by exact Nat.le_add_right n 3)) _ _).mono ?_)⟩
      rintro v H' ⟨rfl,rfl⟩
      refine ⟨rfl,?_⟩
      refine rE List.take_add_one (rE hb (rE List.foldl_append ?_)); rfl
     rintro v H₃ ⟨eH,hv⟩
     obtain rfl : H₂ = H₃ := eH.symm
     rw [List.length_map,List.take_length] at hv
     subst hv
     repeat walk_at "x"
     refine EV_cell (c := L + 3) (by with_unfolding_all rfl) (Z.get g3) ?_
     repeat walk_at "x"
     refine set_list (Z.get CH.set_same) (Int.natCast_nonneg _) (ltR hjN) (szR hNz) ?_
     refine rE (mv_set hjN) ?_
     have Z := put (mv' := mput mv j (mvAt near hf st pk mv j)) Z
     have I' := I.step (j := j) (fun q => q.elim q2 hnt) hcl (D' := fun k => (k : Int) ∈ dn∨(k : Int) ∈ ready.take (t + 1)) fun k => by
      refine rE htk ?_; rw [List.mem_append,List.mem_singleton,Int.natCast_inj,or_assoc]
     repeat walk_at "x"
     exact (hRR _ _ (.cons rfl (.cons rfl (.cons rfl (.cons rfl .nil)))) ⟨_,Z,I'⟩).1
    ·obtain ⟨mv,Z,I⟩ := hJ
     clear Z8
     rw [List.take_length] at I
     have hDN := Run.doneN (ns := ready) (rest := []) (T := T8) (dn := dn) (ready := []) (near := nr) (by refine rE (List.append_nil ..) ?_; exact Rn8)
     obtain ⟨⟨r2,Rn10⟩,hdone⟩ := hDN
     repeat walk_at "x"
     refine GA_bound (f := a_done) B Z.ru.top Z.ru.dict rfl ?_
     repeat walk_at "x"
     refine ⟨_,.tup _,by refine rE (List.length_map ..) ?_; omega,?_⟩
     refine ⟨KP_bound (B.X a_done _ (by with_unfolding_all rfl)) rfl,CV_of (CALL_bound ?_)⟩
     refine (spec_done (M := 1000) (by exact B) (n := n + 4) hA' Z.ru Rn8.rdy hdone ?_ ?_ ?_ (by omega)).mono ?_
     ·intro k hk x hx
      rw [hk8,hTk] at hk ⊢
      rw [hs8,hTs] at hx
      exact (hsc0 k hk x hx).1
     ·intro k
      refine rE hs8 (rE hTs ?_)
      have := hLe7.sc k
      lia
     ·refine rE List.length_nil ?_; omega
     rintro v H'' ⟨rfl,R10,F10⟩
     have Z10 := Z.step R10 F10
     have eD := @doneN_eq ready T8
     repeat walk_at "x"
     have hlt2 : dn.length + ready.length≤T7.keys.length := by
      have := nodup_le (k := T7.keys) Rn10.dnd fun x hx => by refine rF hTk (rF hk8 (rF eD.1 ?_)); exact Rn10.dks x hx
      simpa [Nat.add_comm] using this
     have hrp : 0 < ready.length := List.length_pos_iff.mpr hne
     refine ⟨_,_,?_,.cons rfl (.cons rfl (.cons rfl .nil)),⟨_,Ly,mv,_,r2,Z10,Rn10,by refine rE eD.1 (rE hk8 (rE hTk rfl)),by refine rE eD.2.2.2 (rE hs8 (rE hTs rfl)),⟨fun j hj h => I.eq j hj ?_,fun j hj h b hb => ?_⟩,rfl,rfl⟩⟩
     ·simp; grind
     ·rw [List.mem_append,List.mem_reverse] at h; exact h.symm
     ·rw [List.mem_append,List.mem_reverse] at h ⊢; exact (I.cl j hj h.symm b hb).symm
   ·have hre : ready = [] := by
     have := (Bool.or_eq_false_iff.mp hb).2
     simpa using this
    subst hre
    have hall := Rn.all (rk := fun x => rk x.toNat) fun x hx p hp => by
     obtain ⟨c,k',rfl,rfl,h1,h2⟩ := hnear.mp hp
     have := (hrk k' h1 c h2).2
     show rk (Int.toNat c) < rk (Int.toNat k')
     refine rE (Int.toNat_natCast ..) (rE (Int.toNat_natCast ..) ?_); exact this
    exact EX_nil ⟨T,Ly,mv,Z,fun j hj => I.eq j hj (hall _ (by refine rE hTk ?_; exact hkeys.mpr ⟨j,rfl,hj⟩))⟩
  ·refine eEEEA hm fun T Ly mv Z E => ?_
   repeat walk_at "x"
   refine EV_cell (c := L + 3) (by with_unfolding_all rfl) (Z.get g3) ?_
   exact hR0 _ _ ⟨lm,mv,rfl,lmH,Z.get CH.set_same,E,fun x hx => by
    refine eE (Option.ne_none_iff_exists'.mp hx) fun c hc => ?_
    refine rE hc ?_; exact Z.get (mx hc)⟩
end
end
section
theorem g_iter1 {P : Params} : nsIn (KK P) mainGlobals "iter" = some none := by kernel_rfl
theorem g_next {P : Params} : nsIn (KK P) mainGlobals "next" = some none := by kernel_rfl
theorem b_next : bootBuiltins "next" = some (.builtin "next") := by kernel_rfl
theorem CH.back {H : CH} {I : Addr} {c d : CObj} (h : H I = none) : ((H.set I c).set I d).del I = H := by
 funext b
 unfold CH.del CH.set
 by_cases e : b = I
 ·refine rE (if_pos e) (rE e (rE h rfl))
 ·refine rE (if_neg e) (rE (if_neg e) (rE (if_neg e) rfl))
section
variable {C : Cx} {A : Around} {m : Loc} {H : CH} {s : Shared} {mg mb : Str→Option Value} {P : Params}
set_option maxHeartbeats 4000000 in
theorem spec_reduce1 {f x0 : V} {l : Addr} {xs : List V} (B : Bs C.h₀ (KK P) mg mb) {n : Nat} (hA : AOK C A (n + 1)) (hl : H l = some (.list (x0 :: xs)))
  (J : Nat→V→CH→Prop) (h0 : J 1 x0 H) (hkp : ∀ env H',KP (C.at env) f H')
  (step : ∀ i v x H' env,AOK (C.at env) (A.deeper env) n→J i v H'→(x0 :: xs)[i]? = some x→CALL (C.at env) (A.deeper env) f [v,x] [] H' fun v' H'' => J (i + 1) v' H'')
  (keep : ∀ i v H',J i v H'→H' l = some (.list (x0 :: xs))) :
  CALL C A (.con (.ref a_reduce)) [f,.ref l] [] H (J (x0 :: xs).length) := by
 refine CALL_hide fun R0 hR0 => ?_
 refine CALL_KW B (by with_unfolding_all rfl) (by with_unfolding_all rfl) hA (binds := [("function",f),("sequence",.ref l),("initial",.con (.ref a_missing))]) (.dflt (T := 23) (items := [.ref a_missing]) (n := 0) B (by with_unfolding_all rfl) fun h rs hv => ?_) (by with_unfolding_all rfl) rfl fun L hL hL0 hA' => ?_
 ·refine eEEAA (two_inv hv) fun a b zz2 ha hb => ?_; subst zz2
  exact ⟨_,[("function",a),("sequence",b),("initial",.ref a_missing)],by with_unfolding_all rfl,by with_unfolding_all rfl,rfl,.cons ha (.cons hb (.cons .con .nil))⟩
 repeat walk_at "x"
 refine EV_b B g_iter1 b_iter ?_
 repeat walk_at "x"
 refine ⟨KP_built,CV_iter (.own hl) fun I hI hI0 => ?_⟩
 have hlI : l≠I := ne_out (sn hl) hI
 repeat walk_at "x"
 walk_at "xi"
 refine EV_g B g_missing ?_
 refine O2_is_self ?_
 refine ⟨_,rfl,fun _ => ?_,fun q => (by cases q)⟩
 refine EX_cons (st := .Try _ _ _ _ _) (ES_try (T := "StopIteration") (cls := "StopIteration") (R := fun _ _ => False) hA'.frames rfl (by kernel_rfl) (by kernel_rfl) (by kernel_rfl) (EXX_of ?_) (fun _ _ _ h => h.elim))
 repeat walk_at "x"
 refine EV_b B g_next b_next ?_
 repeat walk_at "x"
 refine ⟨KP_built,CV_next CH.set_same (.own (at_ne hlI hl)) rfl ?_⟩
 repeat walk_at "x"
 refine EX_cons (st := .For _ _ _ _ _) ?_
 refine ES_for_it (xs := x0 :: xs) hA'.handled (by with_unfolding_all rfl) CH.set_same [("value",x0),("function",f)] (fun i m' H' => ∃ v,J i v H'∧m' = ([("value",v),("function",f)] : Loc)) (.cons rfl (.cons rfl .nil)) ⟨x0,by refine rE (CH.back hI) ?_; exact h0,rfl⟩ (Nat.succ_le_succ (Nat.zero_le _)) ?_
 rintro i m' H' ⟨v,hJ,rfl⟩
 refine ⟨keep i v H' hJ,fun x hx => ?_,fun hi => ?_⟩
 ·repeat walk_at "x"
  refine ⟨hkp _ _,CV_of ((step i v x H' _ hA' hJ hx).mono ?_)⟩
  intro v' H'' hJ'
  repeat walk_at "x"
  exact ⟨_,.cons rfl (.cons rfl .nil),⟨v',hJ',rfl⟩⟩
 ·subst hi
  repeat walk_at "x"
  exact hR0 _ _ hJ
end
end
section
section
variable {C : Cx} {A : Around} {m : Loc} {H : CH} {s : Shared} {mg mb : Str→Option Value} {P : Params}
theorem g_terr {P : Params} : nsIn (KK P) mainGlobals "TypeError" = some none := by kernel_rfl
theorem b_terr : bootBuiltins "TypeError" = some (.type "TypeError") := by kernel_rfl
theorem reduce_empty {f : V} {l : Addr} (B : Bs C.h₀ (KK P) mg mb) {n : Nat} (hA : AOK C A (n + 1)) (hl : H l = some (.list [])) :
  CALLN C A (.con (.ref a_reduce)) [f,.ref l] H "TypeError" "reduce() of empty iterable with no initial value" (Kept H) := by
 refine CALLN_KW B (by with_unfolding_all rfl) (by with_unfolding_all rfl) hA (binds := [("function",f),("sequence",.ref l),("initial",.con (.ref a_missing))]) (.dflt (T := 23) (items := [.ref a_missing]) (n := 0) B (by with_unfolding_all rfl) fun h rs hv => ?_) (by with_unfolding_all rfl) rfl fun L hL hL0 hA' => ?_
 ·refine eEEAA (two_inv hv) fun a b zz2 ha hb => ?_; subst zz2
  exact ⟨_,[("function",a),("sequence",b),("initial",.ref a_missing)],by with_unfolding_all rfl,by with_unfolding_all rfl,rfl,.cons ha (.cons hb (.cons .con .nil))⟩
 refine EXN_cons ?_
 repeat walk_at "x"
 refine EV_b B g_iter1 b_iter ?_
 repeat walk_at "x"
 refine ⟨KP_built,CV_iter (.own hl) fun I hI hI0 => ?_⟩
 have hlI : l≠I := ne_out (sn hl) hI
 repeat walk_at "x"
 refine ⟨rfl,?_⟩
 refine EXN_if ?_
 refine EB_cmp ?_
 repeat walk_at "x"
 refine EV_g B g_missing ?_
 refine O2_is_self ?_
 refine ⟨_,rfl,rfl,?_⟩
 refine EXN_try (T := "StopIteration") (cls := "StopIteration") hA'.frames rfl (by kernel_rfl) (by kernel_rfl) (by kernel_rfl) (EXX_cons (ESX_assign (EVX_call ?_))) (fun m' H' h' _ => ?_) (fun m' H' h' _ => ?_)
 ·refine EV_b B g_next b_next ?_
  repeat walk_at "x"
  refine ⟨KP_built,CVX_next hA'.handled CH.set_same (.own (at_ne hlI hl)) (Nat.le_refl 0) ?_⟩
  exact fun b hb => by refine rE (CH.del_ne fun e => hb (by rw [e]; exact hI)) (rE (CH.set_ne fun e => hb (by rw [e]; exact hI)) rfl)
 ·exact EV_b B g_stop b_stop ⟨rfl,rfl,rfl⟩
 ·exact EV_b B g_terr b_terr ⟨rfl,rfl,rfl⟩
theorem CALLN.mono {f : V} {vs : List V} {cls : String} {msg : Str} {R R' : CH→Prop} (h : CALLN C A f vs H cls msg R) (hR : ∀ H',R H'→R' H') : CALLN C A f vs H cls msg R' := fun s rf rs S F hf hv => codeAny_mono (h s rf rs S F hf hv) fun r s' x => by
 cases r with
 | ok f => exact x.elim
 | error ev =>
  obtain ⟨e,oe,vs,Tb,oT,ts,H',h1,h2,h3,h4,h5,hT,hTd,hT3,nT,hTn,hTH,hTb,hTe,h6,h7,h8,h9,hm,hS,ha,q⟩ := x
  exact ⟨e,oe,vs,Tb,oT,ts,H',h1,h2,h3,h4,h5,hT,hTd,hT3,nT,hTn,hTH,hTb,hTe,h6,h7,h8,h9,hm,hS,ha,hR _ q⟩
noncomputable abbrev a_joined : Addr := 206
noncomputable abbrev qsJ : List ((Nat × Nat) × Str) := [((215,22), "_law_joined.<locals>.<lambda>")]
theorem g_str {P : Params} : nsIn (KK P) mainGlobals "str" = some none := by kernel_rfl
theorem b_str : bootBuiltins "str" = some (.type "str") := by kernel_rfl
inductive JnV (l : List Nat) (H : CH) (v : V) (H' : CH) : Prop
 | none (h : l = []) (hv : v = .str "reduce() of empty iterable with no initial value") (k : Kept H H')
 | some (r : Addr) (h : l≠[]) (hv : v = .ref r) (hr : H' r = some (.list (l.map intN))) (k : Kept H H')
inductive JnJ (l : List Nat) (Hb : CH) (i : Nat) (v : V) (H' : CH) : Prop
 | mk (r : Addr) (hv : v = .ref r) (hr : H' r = some (.list ((l.take i).map intN))) (k : Kept Hb H')
theorem code_joined (B : Bs C.h₀ (KK P) mg mb) : CodeHd C.h₀ 205 203 :=
 ⟨_,_,_,_,_,_,_,_,_,B.X 205 _ (by with_unfolding_all rfl),rfl,rfl,rfl,rfl,rfl,rfl,rfl,rfl,by decide⟩
set_option maxHeartbeats 4000000 in
theorem spec_joined {lr : Addr} {l : List Nat} (B : Bs C.h₀ (KK P) mg mb) {n : Nat} (hA : AOK C A (n + 4)) (hl : H lr = some (.list (l.map intN))) (hz : l.length≤63) (hP : H 203 = some (.tab qsJ)) :
  CALL C A (.con (.ref a_joined)) [.ref lr] [] H (JnV l H) := by
 refine CALL_hide fun R0 hR0 => ?_
 refine CALL_K B (by with_unfolding_all rfl) (by with_unfolding_all rfl) hA .pos1 (by with_unfolding_all rfl) rfl fun L hL hL0 hA' => ?_
 have hsz : (l.map intN).length≤sizeLine := szM (Nat.le_trans hz (by decide))
 cases l with
 | nil =>
  refine EX_cons (st := .Try _ _ _ _ _) ?_
  refine ES.mono (Q := fun fl m' H' => fl = .ret (.str "reduce() of empty iterable with no initial value")∧Kept H H') (try_as (R := Kept H) hA'.frames rfl (by have := hA'.units; lia) (T := "TypeError") (by kernel_rfl) (by kernel_rfl) (by kernel_rfl) (fun s S => wpAny_execs_cons (wpAny_Return_some (EVN_call S ?_))) (fun m' H' h' => EV_b B g_terr b_terr ⟨rfl,rfl,rfl⟩) (fun m' H' h' => EV_b B g_str b_str ⟨rfl,rfl,rfl⟩) (fun m' H' h' v => EV_local (by simp) ⟨rfl,rfl,rfl⟩)) ?_
  ·refine EV_g B g_reduce ?_
   repeat walk_at "x"
   refine EV_lambda B hP (code_joined B) ?_
   repeat walk_at "x"
   refine EV_lc ?_
   repeat walk_at "x"
   refine LC_objs (([] : List Nat).map intN) (fun _ _ => True) (seq_own hA'.handled hl) (fun _ k => k.at hl) hsz (fun i x hx LC H₁ k => by cases hx) fun D bs H' hbl NO hD hD0 => ?_
   obtain rfl : bs = [] := List.length_eq_zero_iff.mp hbl
   have kD := NO.keep.new (c := .list (([] : List Addr).map .ref)) hD
   repeat walk_at "x"
   exact ⟨KP_K B (by with_unfolding_all rfl),(reduce_empty (by exact B) hA' CH.set_same).mono fun H' k => kD.trans k⟩
  ·rintro fl m' H' ⟨rfl,k⟩
   exact SeqE.r (hR0 _ _ (.none rfl rfl k))
 | cons x0 xs =>
  refine EX_cons (st := .Try _ _ _ _ _) (ES_try_ok ?_)
  repeat walk_at "x"
  refine EV_g B g_reduce ?_
  repeat walk_at "x"
  refine EV_lambda B hP (code_joined B) ?_
  repeat walk_at "x"
  refine EV_lc ?_
  repeat walk_at "x"
  refine LC_objs ((x0 :: xs).map intN) (fun i c => ∃ a,(x0 :: xs)[i]? = some a∧c = .list [intN a]) (seq_own hA'.handled hl) (fun _ k => k.at hl) hsz (fun i x hx LC H₁ k => ?_) fun D bs H' hbl NO hD hD0 => ?_
  ·rw [List.getElem?_map] at hx
   refine eEA (Option.map_eq_some_iff.mp hx) fun a ha zz2 => ?_; subst zz2
   repeat walk_at "x"
   refine ⟨rfl,?_⟩
   refine EV_list ?_
   repeat walk_at "x"
   exact ⟨by show 1≤sizeLine; decide,fun b hb => ⟨b,_,hb,rfl,rfl,a,ha,rfl⟩⟩
  rw [List.length_map] at hbl
  obtain ⟨b0,bt,rfl⟩ : ∃ b0 bt,bs = b0 :: bt := by
   cases bs with
   | nil => cases hbl
   | cons b0 bt => exact ⟨_,_,rfl⟩
  have hat : ∀ i b,(b0 :: bt)[i]? = some b→∃ a,(x0 :: xs)[i]? = some a∧(H'.set D (.list ((b0 :: bt).map .ref))) b = some (.list [intN a]) := fun i b h => by
   obtain ⟨_,c,h1,a,ha,rfl⟩ := NO.at_ i b h
   exact ⟨a,ha,at_new hD h1⟩
  have kD := NO.keep.new (c := .list ((b0 :: bt).map .ref)) hD
  have hDl : (H'.set D (.list ((b0 :: bt).map .ref))) D = some (.list ((b0 :: bt).map .ref)) := CH.set_same
  clear NO hD hD0
  generalize (H'.set D (.list ((b0 :: bt).map .ref))) = Hd at *
  refine eEA (hat 0 b0 rfl) fun a0 ha0 hb0 => ?_
  cases ha0
  repeat walk_at "x"
  refine ⟨KP_K B (by with_unfolding_all rfl),CV_of ((spec_reduce1 (n := n + 2) (by exact B) hA' hDl (JnJ (x0 :: xs) Hd) ⟨b0,rfl,hb0,.refl⟩ (fun env H'' => KP_lam) ?_ (fun i v H'' h => by obtain ⟨_,_,_,k⟩ := h; exact k.at hDl)).mono ?_)⟩
  ·rintro i v x H'' env hAA ⟨r,rfl,hr,k⟩ hx
   have hx' : ((b0 :: bt).map V.ref)[i]? = some x := hx
   rw [List.getElem?_map] at hx'
   refine eEA (Option.map_eq_some_iff.mp hx') fun b hb zz2 => ?_; subst zz2
   refine eEA (hat i b hb) fun a ha hbl' => ?_
   have htk : ((x0 :: xs).take i).map intN ++ [intN a] = ((x0 :: xs).take (i + 1)).map intN := by refine rE List.take_add_one (rE ha (rE List.map_append ?_)); rfl
   refine CALL_fn B.lim hAA (fun _ _ _ => .pos2) (by with_unfolding_all rfl) rfl fun L' a' c' hL' hL0' hA2 => ?_
   repeat walk_at "x"
   refine add_lists (.own hr) (.own (k.at hbl')) (by refine rE (List.length_map ..) (rE List.length_take ?_); exact Nat.le_trans (Nat.add_le_add (Nat.le_trans (Nat.min_le_right ..) hz) (Nat.le_refl 1)) (by decide)) fun r2 hr2 => ?_
   refine rE htk ?_
   exact ⟨r2,rfl,CH.set_same,k.new hr2⟩
  ·rintro v H'' ⟨r,rfl,hr,k⟩
   rw [show (V.ref b0 :: bt.map V.ref).length = (x0 :: xs).length from by refine rF hbl ?_; simp,List.take_length] at hr
   repeat walk_at "x"
   exact hR0 _ _ (.some r (by simp) rfl hr (kD.trans k))
end
end
section
noncomputable abbrev a_told : Addr := 218
noncomputable abbrev qsT : List ((Nat × Nat) × Str) := [((237,36), "_law_told.<locals>.<lambda>"),((243,46), "_law_told.<locals>.<lambda>")]
theorem g_heappop {P : Params} : nsIn (KK P) mainGlobals "heappop" = some (some (.ref a_heappop)) := by kernel_rfl
theorem g_heappush {P : Params} : nsIn (KK P) mainGlobals "heappush" = some (some (.ref a_heappush)) := by kernel_rfl
theorem fm_congr {α β : Type} {f g : α→Option β} : ∀ {l : List α},(∀ x ∈ l,f x = g x)→l.filterMap f = l.filterMap g
 | [],_ => rfl
 | x :: l,h => by refine rE List.filterMap_cons (rE List.filterMap_cons (rE (h x List.mem_cons_self) (rE (fm_congr fun y hy => h y (List.mem_cons_of_mem _ hy)) rfl)))
theorem pick_mid {α : Type} {xs : List α} {a b : Nat} (h1 : a≤b) (h2 : b≤xs.length) : pickL xs (some (a : Int)) (some (b : Int)) none = (xs.take b).drop a := by
 unfold pickL sliceBounds sliceRange
 simp only [Option.getD_none]
 have e1 : (if (1 : Int) > 0 then max 0 (min (if (a : Int) < 0 then (a : Int) + xs.length else a) xs.length) else max (-1) (min (if (a : Int) < 0 then (a : Int) + xs.length else a) ((xs.length : Int) - 1))) = a := by
  refine rE (if_pos (by decide)) (rE (if_neg (Int.not_ofNat_neg a)) ?_); lia
 have e2 : (if (1 : Int) > 0 then max 0 (min (if (b : Int) < 0 then (b : Int) + xs.length else b) xs.length) else max (-1) (min (if (b : Int) < 0 then (b : Int) + xs.length else b) ((xs.length : Int) - 1))) = b := by
  refine rE (if_pos (by decide)) (rE (if_neg (Int.not_ofNat_neg b)) ?_); grind
 refine rE e1 (rE e2 ?_)
 simp only [show (1 : Int) > 0 from by decide,if_true]
 have e3 : (if (a : Int) < (b : Int) then ((b : Int) - a + 1 - 1) / 1 else 0).toNat = b - a := by
  split
  ·refine rE (Int.ediv_one ..) ?_; grind
  ·simp; grind
 refine rE e3 (rE List.filterMap_map ?_)
 refine List.ext_getElem? fun i => ?_
 have e4 : (List.range (b - a)).filterMap ((fun x => xs[x]?) ∘ fun i : Nat => ((a : Int) + 1 * (i : Int)).toNat) = (List.range ((xs.take b).drop a).length).filterMap fun i => ((xs.take b).drop a)[i]? := by
  refine rE List.length_drop (rE List.length_take (rE (Nat.min_eq_left h2) ?_))
  refine fm_congr fun i hi => ?_
  have hi := List.mem_range.mp hi
  show xs[((a : Int) + 1 * (i : Int)).toNat]? = _
  refine rE List.getElem?_drop (rE (List.getElem?_take_of_lt (by exact Nat.add_lt_of_lt_sub' hi)) ?_)
  congr 1; lia
 refine rE e4 (rE (List.filterMap_getElem?_range_length ..) rfl)
noncomputable abbrev toldL (N : Nat) (f : Nat→Option Int) : List V := (List.range N).map fun j => optV (f j)
theorem told_set {N : Nat} {f : Nat→Option Int} {m : Nat} {t : Int} (h : m < N) : (toldL N f).set ((m : Nat) : Int).toNat (.int t) = toldL N (tput f m t) := by
 apply List.ext_getElem?
 intro i
 refine rE (Int.toNat_natCast ..) (rE List.getElem?_set (rE (List.length_map ..) (rE List.length_range (rE List.getElem?_map (rE List.getElem?_map ?_)))))
 by_cases e : m = i
 ·subst e
  refine rE (if_pos rfl) (rE (if_pos h) (rE (List.getElem?_range h) ?_))
  show _ = some (optV (tput f m t m))
  rewrite [tput]; refine rE (if_pos rfl) rfl
 ·refine rE (if_neg e) ?_
  by_cases hi : i < N
  ·refine rE (List.getElem?_range hi) ?_
   show _ = some (optV (tput f m t i))
   rewrite [tput]; refine rE (if_neg (Ne.symm e)) ?_; rfl
  ·refine rE (List.getElem?_eq_none (by rw [List.length_range]; exact Nat.le_of_not_lt hi)) ?_; rfl
structure TlS (H : CH) (L lf lc lt lh : Addr) (N : Nat) (ks : List Nat) (told : Nat→Option Int) (r : List (Int × Int)) (H' : CH) : Prop where
 k : Kept H H'
 c : H' (L + 1) = some (.cell (some (.ref lf)))
 co : H' lc = some (.list (ks.map intN))
 tl : H' lt = some (.list (toldL N told))
 hp : H' lh = some (.list (r.map pv))
theorem TlS.new {H H' : CH} {L lf lc lt lh x : Addr} {N : Nat} {ks : List Nat} {told : Nat→Option Int} {r : List (Int × Int)} {c : CObj} (S : TlS H L lf lc lt lh N ks told r H') (h : H' x = none) : TlS H L lf lc lt lh N ks told r (H'.set x c) :=
 ⟨S.k.new h,at_new h S.c,at_new h S.co,at_new h S.tl,at_new h S.hp⟩
theorem TlS.heap {H H' : CH} {L lf lc lt lh : Addr} {N : Nat} {ks : List Nat} {told : Nat→Option Int} {r r' : List (Int × Int)} (S : TlS H L lf lc lt lh N ks told r H') (h : H lh = none) (h1 : lc≠lh) (h2 : lt≠lh) : TlS H L lf lc lt lh N ks told r' (H'.set lh (.list (r'.map pv))) :=
 ⟨fun x hx => by refine rE (CH.set_ne fun q => hx (by rw [q]; exact h)) ?_; exact S.k x hx,at_ne (Ne.symm (ne_at S.hp S.c)) S.c,at_ne h1 S.co,at_ne h2 S.tl,CH.set_same⟩
theorem TlS.tell {H H' : CH} {L lf lc lt lh : Addr} {N : Nat} {ks : List Nat} {told told' : Nat→Option Int} {r : List (Int × Int)} (S : TlS H L lf lc lt lh N ks told r H') (h : H lt = none) (h1 : lc≠lt) (h2 : lt≠lh) : TlS H L lf lc lt lh N ks told' r (H'.set lt (.list (toldL N told'))) :=
 ⟨fun x hx => by refine rE (CH.set_ne fun q => hx (by rw [q]; exact h)) ?_; exact S.k x hx,at_ne (Ne.symm (ne_at S.tl S.c)) S.c,at_ne h1 S.co,CH.set_same,at_ne (Ne.symm h2) S.hp⟩
inductive TldV (N : Nat) (first last : Nat→Int) (H : CH) (v : V) (H' : CH) : Prop
 | mk (lt : Addr) (told : Nat→Int) (hv : v = .ref lt) (h0 : H lt = none) (h1 : H' lt = some (.list ((List.range N).map fun j => .int (told j)))) (E : Edf N first last told) (k : Kept H H') : TldV N first last H v H'
inductive TlI (N F : Nat) (first last : Nat→Int) (H : CH) (L lf ll lc lt lh : Addr) (ks : List Nat) (k : Nat) (m' : Loc) (H' : CH) : Prop
 | mk (h c : Nat) (told : Nat→Option Int) (r : List (Int × Int)) (hk : k = leftN N told + (F + 1 - h)) (T : ToldS N first last h told) (W : Waits N first last h told r) (hp : IsHeap plt r) (hcut : CutK first ((h : Int) - 1) ks c) (S : TlS H L lf lc lt lh N ks told r H')
   (hm : m' = ([("hour",.int h),("taken",.int c),("heap",.ref lh),("told",.ref lt),("coming",.ref lc),("size",.int N),("last",.ref ll)] : Loc)) : TlI N F first last H L lf ll lc lt lh ks k m' H'
inductive TlC (N : Nat) (first last : Nat→Int) (H : CH) (L lf ll lc lt lh D : Addr) (ks sl : List Nat) (h c c2 : Nat) (told : Nat→Option Int) (t : Nat) (m' : Loc) (H' : CH) : Prop
 | mk (r : List (Int × Int)) (G : Coming N first last h told sl t r) (hp : IsHeap plt r) (S : TlS H L lf lc lt lh N ks told r H') (hD : H' D = some (.list (sl.map intN)))
   (hm : m' = ([("come",.int c2),("hour",.int h),("taken",.int c),("heap",.ref lh),("told",.ref lt),("coming",.ref lc),("size",.int N),("last",.ref ll)] : Loc)) : TlC N first last H L lf ll lc lt lh D ks sl h c c2 told t m' H'
inductive InsI (first : Nat→Int) (H : CH) (L lf lc : Addr) (t : Nat) (H' : CH) : Prop
 | mk (ks : List Nat) (hs : ks.Pairwise fun a b => first a≤first b) (hp : ks.Perm (List.range t)) (k : Kept H H') (c : H' (L + 1) = some (.cell (some (.ref lf)))) (co : H' lc = some (.list (ks.map intN))) : InsI first H L lf lc t H'
section
variable {C : Cx} {A : Around} {m : Loc} {H : CH} {s : Shared} {mg mb : Str→Option Value} {P : Params}
theorem code_told (B : Bs C.h₀ (KK P) mg mb) : CodeHd C.h₀ 217 215 :=
 ⟨_,_,_,_,_,_,_,_,_,B.X 217 _ (by with_unfolding_all rfl),rfl,rfl,rfl,rfl,rfl,rfl,rfl,rfl,by decide⟩
theorem spec_pop {h : Addr} {a : Int × Int} {r : List (Int × Int)} (B : Bs C.h₀ (KK P) mg mb) {n : Nat} (hA : AOK C A (n + 3)) (hh : H h = some (.list ((a :: r).map pv))) (hsz : r.length + 1≤sizeLine) (hp : IsHeap plt (a :: r)) :
  CALL C A (.con (.ref a_heappop)) [.ref h] [] H fun v H' => v = pv a∧∃ r',H' = H.set h (.list (r'.map pv))∧r'.Perm r∧IsHeap plt r' := by
 rcases List.eq_nil_or_concat r with rfl | ⟨ps,x,rfl⟩
 ·refine (spec_heappop1 B hA hh).mono ?_
  rintro v H' ⟨rfl,rfl⟩
  exact ⟨rfl,[],rfl,.refl _,fun k h0 hk => by simp at hk⟩
 ·rw [List.concat_eq_append] at *
  refine (spec_heappop B hA hh (by simp at hsz; omega)).mono ?_
  rintro v H' ⟨rfl,rfl⟩
  obtain ⟨h1,h2⟩ := pop_ok plt_ok (a := a) (x := x) (l := ps) hp
  exact ⟨rfl,_,rfl,h2.trans (List.perm_append_comm (l₁ := [x]) (l₂ := ps)),h1⟩
theorem spec_push {h : Addr} {x : Int × Int} {r : List (Int × Int)} (B : Bs C.h₀ (KK P) mg mb) {n : Nat} (hA : AOK C A (n + 2)) (hh : H h = some (.list (r.map pv))) (hsz : r.length + 1≤sizeLine) (hp : IsHeap plt r) :
  CALL C A (.con (.ref a_heappush)) [.ref h,pv x] [] H fun v H' => v = V.none∧∃ r',H' = H.set h (.list (r'.map pv))∧r'.Perm (x :: r)∧IsHeap plt r' := by
 refine (spec_heappush B hA hh hsz).mono ?_
 rintro v H' ⟨rfl,rfl⟩
 exact ⟨rfl,_,rfl,push_perm x r,push_heap plt_ok x r hp⟩
set_option maxHeartbeats 4000000 in
theorem spec_told {lf ll : Addr} {N F : Nat} {first last : Nat→Int} (hN : N≤7) (h0 : ∀ j,j < N→0≤first j) (hF : ∀ j,j < N→first j≤F) (B : Bs C.h₀ (KK P) mg mb) {n : Nat} (hA : AOK C A (n + 5)) (hlf : H lf = some (.list ((List.range N).map fun j => .int (first j)))) (hll : H ll = some (.list ((List.range N).map fun j => .int (last j)))) (hP : H 215 = some (.tab qsT)) :
  CALL C A (.con (.ref a_told)) [.ref lf,.ref ll] [] H (TldV N first last H) := by
 refine CALL_hide fun R0 hR0 => ?_
 have hNz : N≤2 ^ 10 := Nat.le_trans hN (by decide)
 have hN62 : N < 2 ^ 62 := Nat.lt_of_le_of_lt hN (by decide)
 refine CALL_cells (m' := [("last",.ref ll)]) B (by with_unfolding_all rfl) (by with_unfolding_all rfl) hA rfl bz2 (cells_ok (by kernel_rfl)) (by kernel_rfl) fun L hL hA' => ?_
 refine EX_gen fun Hc hHc => ?_
 have hHc : Hc = H.set (L + 1) (.cell (some (.ref lf))) := hHc.trans (by kernel_rfl)
 have hL1 : H (L + 1) = none := (hL (L + 1) (Nat.le_succ L)).1
 have kc : Kept H Hc := by refine rE hHc ?_; exact Kept.refl.new hL1
 have hc : Hc (L + 1) = some (.cell (some (.ref lf))) := by refine rE hHc ?_; exact CH.set_same
 clear hHc
 repeat walk_at "x"
 refine EV_b B g_len b_len ?_
 repeat walk_at "x"
 refine EV_cell (c := L + 1) (by with_unfolding_all rfl) hc ?_
 repeat walk_at "x"
 refine ⟨KP_built,CV_lenM (.own (kc.at hlf)) (szR hNz) ?_⟩
 refine rE List.length_range ?_
 repeat walk_at "x"
 refine EV_list ?_
 repeat walk_at "x"
 refine ⟨by decide,fun lc hlc => ?_⟩
 have lc0 := kc.none hlc
 have I0 : InsI first H L lf lc 0 (Hc.set lc (.list [])) := ⟨[],.nil,.refl _,kc.new hlc,at_new hlc hc,CH.set_same⟩
 clear kc hc hlc
 generalize (Hc.set lc (.list [])) = H1 at *
 repeat walk_at "x"
 refine EX_forN (N := N) (f := intN) (J := InsI first H L lf lc) (m0 := [("coming",.ref lc),("size",.int N),("last",.ref ll)]) ?_ (fun j hj H2 hJ RR hRR => ?_) fun H2 hJ => ?_
 ·repeat walk_at "x"
  refine EV_b B g_range b_range ?_
  repeat walk_at "x"
  exact ⟨KP_type,CV_range1 ⟨seqN hA'.handled hN62,.cons rfl (.cons rfl (.cons rfl .nil)),I0⟩⟩
 ·obtain ⟨ks,hs,hp,k,c,co⟩ := hJ
  clear I0
  refine eE (cut_of (first j) hs) fun cut hcut => ?_
  have hkl : ks.length≤N := by refine rE hp.length_eq (rE List.length_range ?_); lia
  repeat walk_at "x"
  refine EV_callk (EV_g B g_insR ?_)
  repeat walk_at "x"
  refine EV_lambda B (k.at hP) (code_told B) ?_
  refine ⟨KP_K B (by with_unfolding_all rfl),CV_of ((spec_insK (P := P) (n := n + 2) (N := N) (by exact B) hA' co (Nat.le_trans hkl hNz) rfl ⟨fun _ _ _ => KP_lam,fun env fr A2 hA2 i hi => ?_⟩ (fun i hi => ?_) hj hcut).mono ?_)⟩
  ·refine CALL_fn B.lim hA2 (fun _ _ _ => .pos1) (by with_unfolding_all rfl) rfl fun L' a' c' hL' hL0' hA3 => ?_
   repeat walk_at "x"
   refine EV_free (c := L + 1) (by with_unfolding_all rfl) c ?_
   repeat walk_at "x"
   refine sub_list (v := .int (first i)) (.own (k.at hlf)) (Int.natCast_nonneg _) (mapN_get hi) (szR hNz) ?_
   exact ⟨rfl,rfl⟩
  ·have := List.mem_range.mp (hp.mem_iff.mp hi); lia
  ·rintro v H' ⟨rfl,rfl⟩
   refine eA (cut_ins hs hcut) fun c1 c2 => ?_
   repeat walk_at "x"
   refine (hRR _ _ (.cons rfl (.cons rfl (.cons rfl .nil))) ⟨_,c1,c2.trans ((hp.cons j).trans ?_),fun x hx => ?_,at_ne (Ne.symm (ne_at co c)) c,CH.set_same⟩).1
   ·refine rE List.range_succ ?_; exact List.perm_append_comm (l₁ := [j])
   ·refine rE (CH.set_ne fun q => hx (by rw [q]; exact lc0)) ?_; exact k x hx
 ·obtain ⟨ks,hs,hp,k,c,co⟩ := hJ
  clear I0
  have hkl : ks.length = N := by refine rE hp.length_eq (rE List.length_range rfl)
  have hkm : ∀ j,j ∈ ks↔j < N := fun j => hp.mem_iff.trans List.mem_range
  have hkn : ks.Nodup := hp.nodup_iff.mpr List.nodup_range
  repeat walk_at "x"
  refine ES_assign_lc ?_
  repeat walk_at "x"
  refine EV_cell (c := L + 1) (by with_unfolding_all rfl) c ?_
  refine LC_all (List.range N) (fun j => .int (first j)) (fun _ => V.none) (seq_own hA'.handled (k.at hlf)) (k.at hlf) (by refine rE List.length_range ?_; exact Nat.le_trans hNz (by decide)) (fun j hj LC hLC => ?_) fun lt hlt hlt0 => ?_
  ·repeat walk_at "x"
   refine ⟨rfl,rfl,fun _ => ?_⟩
   repeat walk_at "x"
   exact ⟨rfl,rfl⟩
  have lt0 := k.none hlt
  have ct : lc≠lt := ne_out (sn co) hlt
  repeat walk_at "x"
  refine EV_list ?_
  repeat walk_at "x"
  refine ⟨by decide,fun lh hlh => ?_⟩
  have lh0 := (k.new (c := .list ((List.range N).map fun _ => V.none)) hlt).none hlh
  have th : lt≠lh := ne_out (sn CH.set_same) hlh
  have chh : lc≠lh := ne_out (sn (at_new hlt co)) hlh
  have S0 : TlS H L lf lc lt lh N ks (fun _ => none) [] ((H2.set lt (.list ((List.range N).map fun _ => V.none))).set lh (.list [])) :=
   ⟨(k.new hlt).new hlh,at_new hlh (at_new hlt c),at_new hlh (at_new hlt co),at_new hlh CH.set_same,CH.set_same⟩
  clear k c co hlt hlh
  generalize ((H2.set lt (.list ((List.range N).map fun _ => V.none))).set lh (.list [])) = H3 at *
  repeat walk_at "x"
  refine EX_mid (st := .While _ _ _ _) (fun m' H' => ∃ (told : Nat→Option Int) (f : Nat→Int),TlS H L lf lc lt lh N ks told [] H'∧(∀ j,j < N→told j = some (f j))∧Edf N first last f∧Sub [("told",.ref lt)] m') ?_ fun m' H' hm => ?_
  ·refine ES_while (TlI N F first last H L lf ll lc lt lh ks) (leftN N (fun _ => none) + (F + 1 - 0)) _ (.cons rfl (.cons rfl (.cons rfl (.cons rfl (.cons rfl (.cons rfl (.cons rfl .nil))))))) ⟨0,0,_,[],rfl,.start h0,.start h0,fun k h0 hk => by simp at hk,⟨Nat.zero_le _,fun i hi => absurd hi (Nat.not_lt_zero i),fun i _ t ht => ?_⟩,S0,rfl⟩ ?_
   ·have := h0 t ((hkm t).mp (List.mem_of_getElem? ht)); assumption
   rintro k m' H' ⟨h,c,told,r,rfl,T,W,hp2,hcut,S,rfl⟩
   clear S0
   have hcN : c≤N := by refine rF hkl ?_; exact hcut.le
   have hrl := W.le
   refine EB_or_pure (decide ((c : Int) < N)) (decide (0 < (r.length : Int))) ?_ (fun _ => ?_) ⟨fun q => ?_,fun q => ?_⟩
   ·repeat walk_at "x"
    exact ⟨_,rfl,rfl,rfl,rfl⟩
   ·repeat walk_at "x"
    refine EV_b B g_len b_len ?_
    repeat walk_at "x"
    refine ⟨KP_built,CV_lenM (.own S.hp) (szM (Nat.le_trans hrl hNz)) ?_⟩
    repeat walk_at "x"
    exact ⟨_,rfl,rfl,rfl,rfl⟩
   ·have hold : Waits N first last ((h : Int) + 1) told []→r = [] := fun W' => List.eq_nil_iff_forall_not_mem.mpr fun p hp => by
     refine eEAAA ((W.mem p).mp hp) fun j a b c d => ?_
     have := (W'.mem p).mpr ⟨j,a,b,by omega,d⟩
     cases this
    have hhF : r = []→h≤F := fun e => by
     subst e
     have hc2 : c < N := by simpa using q
     obtain ⟨t,ht⟩ : ∃ t,ks[c]? = some t := ⟨_,List.getElem?_eq_getElem (by refine rE hkl ?_; exact hc2)⟩
     have h1 := hcut.b c (Nat.le_refl _) t ht
     have h2 := hF t ((hkm t).mp (List.mem_of_getElem? ht))
     lia
    refine eE (cut_of (h : Int) hs) fun c2 hcut2 => ?_
    repeat walk_at "x"
    refine EV_callk (EV_g B g_bisR ?_)
    repeat walk_at "x"
    refine EV_lambda B (S.k.at hP) (code_told B) ?_
    refine ⟨KP_K B (by with_unfolding_all rfl),CV_of ((spec_bisK (P := P) (n := n + 3) (N := N) (by exact B) hA' S.co (by refine rE hkl ?_; exact hNz) rfl ⟨fun _ _ _ => KP_lam,fun env fr A2 hA2 i hi => ?_⟩ (fun i hi => (hkm i).mp hi) hcut2 (.two rfl)).mono ?_)⟩
    ·refine CALL_fn B.lim hA2 (fun _ _ _ => .pos1) (by with_unfolding_all rfl) rfl fun L' a' c' hL' hL0' hA3 => ?_
     repeat walk_at "x"
     refine EV_free (c := L + 1) (by with_unfolding_all rfl) S.c ?_
     repeat walk_at "x"
     refine sub_list (v := .int (first i)) (.own (S.k.at hlf)) (Int.natCast_nonneg _) (mapN_get hi) (szR hNz) ?_
     exact ⟨rfl,rfl⟩
    rintro v H'' ⟨rfl,rfl⟩
    have hcc : c≤c2 := by
     refine Nat.le_of_not_lt fun hlt => ?_
     obtain ⟨t,ht⟩ : ∃ t,ks[c2]? = some t := ⟨_,List.getElem?_eq_getElem (by refine rE hkl ?_; exact Nat.lt_of_lt_of_le hlt hcN)⟩
     have h1 := hcut.a c2 hlt t ht
     have h2 := hcut2.b c2 (Nat.le_refl _) t ht
     omega
    have hsl : ∀ j,j < N→(j ∈ (ks.take c2).drop c↔first j = h) := fun j hj => by
     constructor
     ·intro hm
      refine eE (List.mem_iff_getElem?.mp hm) fun i hi => ?_
      rw [List.getElem?_drop] at hi
      have hil := (List.getElem?_eq_some_iff.mp hi).1
      rw [List.length_take] at hil
      rw [List.getElem?_take_of_lt (by grind)] at hi
      have h1 := hcut.b _ (Nat.le_add_right c i) j hi
      have h2 := hcut2.a _ (by (clear hN hlf hll hP hNz hN62 hHc hL1 lc0 hkl hlt0 lt0 ct lh0 th chh hcN hrl q hcc hj hi h1; grind)) j hi
      lia
     ·intro e
      refine eE (List.mem_iff_getElem?.mp ((hkm j).mpr hj)) fun i hi => ?_
      have h1 : c≤i := Nat.le_of_not_lt fun q => by have := hcut.a i q j hi; omega
      have h2 : i < c2 := Nat.lt_of_not_le fun q => by have := hcut2.b i q j hi; omega
      refine List.mem_iff_getElem?.mpr ⟨i - c,?_⟩
      refine rE List.getElem?_drop (rE (show c + (i - c) = i by exact Nat.add_sub_of_le h1) (rE (List.getElem?_take_of_lt h2) ?_))
      exact hi
    have hsln : ((ks.take c2).drop c).Nodup := hkn.sublist ((List.drop_sublist ..).trans (List.take_sublist ..))
    have hslm : ∀ {t j : Nat},((ks.take c2).drop c)[t]? = some j→j < N := fun {t j} q => (hkm j).mp (List.mem_of_mem_take (List.mem_of_mem_drop (List.mem_of_getElem? q)))
    have hslp := pick_mid (xs := ks) hcc hcut2.le
    generalize (ks.take c2).drop c = sl at *
    repeat walk_at "x"
    refine EX_mid (st := .For _ _ _ _ _) (fun m' H'' => ∃ r',Waits N first last ((h : Int) + 1) told r'∧IsHeap plt r'∧TlS H L lf lc lt lh N ks told r' H''∧m' = ([("come",.int c2),("hour",.int h),("taken",.int c),("heap",.ref lh),("told",.ref lt),("coming",.ref lc),("size",.int N),("last",.ref ll)] : Loc)) (ES_for' (EV_slice2 ?_)) fun m' H'' hm => ?_
    ·repeat walk_at "x"
     refine ⟨lc,ks.map intN,(c : Int),(c2 : Int),rfl,rfl,rfl,.own S.co,szM (by refine rE hkl ?_; exact hNz),fun D hD => ?_⟩
     refine rE (pickL_map ..) (rE hslp ?_)
     have hDn := hD
     refine ⟨sl.map intN,(fun H'' => H'' D = some (.list (sl.map intN))),[("come",.int c2),("hour",.int h),("taken",.int c),("heap",.ref lh),("told",.ref lt),("coming",.ref lc),("size",.int N),("last",.ref ll)],TlC N first last H L lf ll lc lt lh D ks sl h c c2 told,seq_own hA'.handled CH.set_same,.cons rfl (.cons rfl (.cons rfl (.cons rfl (.cons rfl (.cons rfl (.cons rfl (.cons rfl .nil))))))),⟨r,.start W,hp2,S.new hD,CH.set_same,rfl⟩,?_⟩
     have hDh : D≠lh := Ne.symm (ne_out (sn S.hp) hD)
     clear S W hp2 hrl hD hDn
     rintro t m' H'' ⟨r,G,hp2,S,hD,rfl⟩
     refine ⟨hD,fun y hy => ?_,fun hi => ?_⟩
     ·rw [List.getElem?_map] at hy
      refine eEA (Option.map_eq_some_iff.mp hy) fun j hj zz2 => ?_; subst zz2
      have hjN := hslm hj
      repeat walk_at "x"
      refine EV_g B g_heappush ?_
      repeat walk_at "x"
      refine sub_list (v := .int (last j)) (.own (S.k.at hll)) (Int.natCast_nonneg _) (mapN_get hjN) (szR hNz) ?_
      repeat walk_at "x"
      refine ⟨(by show 2≤sizeLine; decide),?_⟩
      repeat walk_at "x"
      have hsz : r.length + 1≤sizeLine := Nat.le_trans (Nat.succ_le_succ (Nat.le_trans G.le hN)) (by decide)
      refine ⟨KP_K B (by with_unfolding_all rfl),CV_of ((spec_push (x := (last j,(j : Int))) (by exact B) (n := n + 2) hA' S.hp hsz hp2).mono ?_)⟩
      rintro v H3 ⟨rfl,r',rfl,hpp,hp3⟩
      have G' := G.next T hsln hj hjN (by refine rE ((hsl j hjN).mp (List.mem_of_getElem? hj)) ?_; exact Int.lt_irrefl ↑h) hpp
      repeat walk_at "x"
      exact ⟨_,.cons rfl (.cons rfl (.cons rfl (.cons rfl (.cons rfl (.cons rfl (.cons rfl (.cons rfl .nil))))))),r',G',hp3,S.heap lh0 chh th,at_ne hDh hD,rfl⟩
     ·rw [List.length_map] at hi
      subst hi
      exact EX_nil ⟨r,G.done hsl,hp2,S,rfl⟩
    ·clear S W hp2 hrl
     refine eEAAA hm fun r' W hp2 S zz4 => ?_; clear hm; subst zz4
     have hrl := W.le
     have hcN2 : c2≤N := by refine rF hkl ?_; exact hcut2.le
     repeat walk_at "x"
     walk_at "xi"
     refine EV_b B g_len b_len ?_
     repeat walk_at "x"
     refine ⟨KP_built,CV_lenM (.own S.hp) (szM (Nat.le_trans hrl hNz)) ?_⟩
     repeat walk_at "x"
     refine ⟨_,rfl,fun q2 => ?_,fun q2 => ?_⟩
     ·cases r' with
      | nil => cases q2
      | cons x r1 =>
       refine eEAAA ((W.mem x).mp List.mem_cons_self) fun m hmN hmt hmf zz4 => ?_; subst zz4
       have hmin := heap_root plt_ok hp2
       refine eA (T.give W (m := m) (a := last m) List.mem_cons_self fun p hp e => by
        have := hmin p hp
        unfold plt at this
        exact absurd e (of_decide_eq_false this)) fun _ T' => ?_
       repeat walk_at "x"
       refine EV_g B g_heappop ?_
       repeat walk_at "x"
       have hsz : r1.length + 1≤sizeLine := Nat.le_trans (Nat.le_trans hrl hN) (by decide)
       refine ⟨KP_K B (by with_unfolding_all rfl),CV_of ((spec_pop (by exact B) (n := n + 1) hA' S.hp hsz hp2).mono ?_)⟩
       rintro v H3 ⟨rfl,r3,rfl,hpp,hp3⟩
       have S3 := S.heap (r' := r3) lh0 chh th
       repeat walk_at "x"
       refine sub_tup (v := .int (m : Nat)) (by decide) rfl (by show 2≤sizeLine; decide) ?_
       refine set_list S3.tl (Int.natCast_nonneg _) (ltR hmN) (szR hNz) ?_
       refine rE (told_set hmN) ?_
       have S4 := S3.tell (told' := tput told m h) lt0 ct th
       have W4 : Waits N first last ((h : Int) + 1) (tput told m h) r3 := Waits.give W (r' := r3) ((hpp.symm).cons _)
       have hlp := left_put (t := (h : Int)) hmN hmt
       repeat walk_at "x"
       exact ⟨leftN N (tput told m h) + (F + 1 - (h + 1)),_,by omega,.cons rfl (.cons rfl (.cons rfl (.cons rfl (.cons rfl (.cons rfl (.cons rfl .nil)))))),h + 1,c2,_,_,rfl,T',W4,hp3,by refine rE (Int.natCast_add ..) ?_; simpa using hcut2,S4,rfl⟩
     ·have hr : r' = [] := List.length_eq_zero_iff.mp (by have := of_decide_eq_false q2; (clear hN hlf hll hP hNz hN62 hHc hL1 lc0 hkl hlt0 lt0 ct lh0 th chh hcN q hcc hslp hrl hcN2 q2; lia))
      subst hr
      have hF' := hhF (hold W)
      have T' := T.idle W
      repeat walk_at "x"
      exact ⟨leftN N told + (F + 1 - (h + 1)),_,by (clear hN hlf hll hP hNz hN62 hHc hL1 lc0 hkl hlt0 lt0 ct lh0 th chh hcN q hcc hslp hcN2 hrl q2; omega),.cons rfl (.cons rfl (.cons rfl (.cons rfl (.cons rfl (.cons rfl (.cons rfl .nil)))))),h + 1,c2,_,_,rfl,T',W,hp2,by refine rE (Int.natCast_add ..) ?_; simpa using hcut2,S,rfl⟩
   ·rw [Bool.or_eq_false_iff,decide_eq_false_iff_not,decide_eq_false_iff_not] at q
    have hr : r = [] := List.length_eq_zero_iff.mp (by lia)
    subst hr
    refine eEA (told_all T W fun j hj => by
     obtain ⟨i,hi⟩ := List.mem_iff_getElem?.mp ((hkm j).mpr hj)
     have h1 := (List.getElem?_eq_some_iff.mp hi).1
     have h2 := hcut.a i (by (clear hN hlf hll hP hNz hN62 hHc hL1 lc0 hlt0 lt0 ct lh0 th chh hrl hj hi; omega)) j hi
     exact Int.lt_of_le_sub_one h2) fun f e1 e2 => ?_
    exact EX_nil ⟨told,f,S,e1,e2,.cons rfl .nil⟩
  ·obtain ⟨told,f,S,e1,E,hs⟩ := hm
   refine EX.sub hs ?_
   repeat walk_at "x"
   refine hR0 _ _ ⟨lt,f,rfl,lt0,?_,E,S.k⟩
   refine rE S.tl ?_
   congr 2
   refine List.map_congr_left fun j hj => ?_
   refine rE (e1 j (List.mem_range.mp hj)) rfl
end
end
section
section
variable {C : Cx} {A : Around} {m : Loc} {H : CH} {s : Shared} {mg mb : Str→Option Value} {P : Params}
noncomputable abbrev a_law : Addr := 228
noncomputable abbrev qsL : List ((Nat × Nat) × Str) := [((281,40), "law.<locals>.<lambda>"),((282,40), "law.<locals>.<lambda>"),((292,25), "law.<locals>.<lambda>")]
noncomputable def LawV (H : CH) (v : V) (H' : CH) : Prop := v = .bool true∧∀ b,H b≠none→H' b = H b
theorem g_min {P : Params} : nsIn (KK P) mainGlobals "min" = some none := by kernel_rfl
theorem b_min : bootBuiltins "min" = some (.builtin "min") := by kernel_rfl
theorem g_wishes {P : Params} : nsIn (KK P) mainGlobals "_law_wishes" = some (some (.ref a_wishes)) := by kernel_rfl
theorem g_joined {P : Params} : nsIn (KK P) mainGlobals "_law_joined" = some (some (.ref a_joined)) := by kernel_rfl
theorem g_moved {P : Params} : nsIn (KK P) mainGlobals "_law_moved" = some (some (.ref a_moved)) := by kernel_rfl
theorem g_told {P : Params} : nsIn (KK P) mainGlobals "_law_told" = some (some (.ref a_told)) := by kernel_rfl
theorem g_least {P : Params} : nsIn (KK P) mainGlobals "_law_least" = some (some (.ref a_least)) := by kernel_rfl
theorem code_law (B : Bs C.h₀ (KK P) mg mb) : CodeHd C.h₀ 227 225 :=
 ⟨_,_,_,_,_,_,_,_,_,B.X 227 _ (by with_unfolding_all rfl),rfl,rfl,rfl,rfl,rfl,rfl,rfl,rfl,by decide⟩
theorem pick_tail {α : Type} {xs : List α} {a : Nat} : pickL xs (some (a : Int)) none none = xs.drop a := by
 unfold pickL sliceBounds sliceRange
 simp only [Option.getD_none]
 by_cases h : a≤xs.length
 ·have e1 : (if (1 : Int) > 0 then max 0 (min (if (a : Int) < 0 then (a : Int) + xs.length else a) xs.length) else max (-1) (min (if (a : Int) < 0 then (a : Int) + xs.length else a) ((xs.length : Int) - 1))) = a := by
   refine rE (if_pos (by decide)) (rE (if_neg (Int.not_ofNat_neg a)) ?_); lia
  refine rE e1 ?_
  simp only [show (1 : Int) > 0 from by decide,if_true]
  have e3 : (if (a : Int) < (xs.length : Int) then ((xs.length : Int) - a + 1 - 1) / 1 else 0).toNat = xs.length - a := by
   split
   ·refine rE (Int.ediv_one ..) ?_; grind
   ·simp; grind
  refine rE e3 (rE List.filterMap_map ?_)
  have e4 : (List.range (xs.length - a)).filterMap ((fun x => xs[x]?) ∘ fun i : Nat => ((a : Int) + 1 * (i : Int)).toNat) = (List.range (xs.drop a).length).filterMap fun i => (xs.drop a)[i]? := by
   refine rE List.length_drop ?_
   refine fm_congr fun i hi => ?_
   show xs[((a : Int) + 1 * (i : Int)).toNat]? = _
   refine rE List.getElem?_drop ?_
   congr 1; lia
  refine rE e4 (rE (List.filterMap_getElem?_range_length ..) rfl)
 ·have e1 : (if (1 : Int) > 0 then max 0 (min (if (a : Int) < 0 then (a : Int) + xs.length else a) xs.length) else max (-1) (min (if (a : Int) < 0 then (a : Int) + xs.length else a) ((xs.length : Int) - 1))) = xs.length := by
   refine rE (if_pos (by decide)) (rE (if_neg (Int.not_ofNat_neg a)) ?_); lia
  refine rE e1 (rE (List.drop_eq_nil_of_le (by exact Nat.le_of_not_ge h)) ?_)
  simp only [show (1 : Int) > 0 from by decide,if_true]
  refine rE (if_neg (Int.lt_irrefl _)) ?_
  rfl
theorem nums_of {ns : List Int} (h : ns.length≤63) : ∃ (M : Nat) (nu : Nat→Int),ns.map V.int ++ pickL [V.int 0,.int 3,.int 0] (some ((ns.map V.int).length : Int)) none none = (List.range M).map (fun k => .int (nu k))∧0 < M∧M≤63 := by
 refine rE pick_tail (rE (List.length_map ..) ?_)
 refine ⟨(ns ++ [(0 : Int),3,0].drop ns.length).length,fun k => (ns ++ [(0 : Int),3,0].drop ns.length)[k]?.getD 0,?_,?_,?_⟩
 ·refine rE (show List.drop ns.length [V.int 0,.int 3,.int 0] = ([(0 : Int),3,0].drop ns.length).map V.int from by rw [List.map_drop]; rfl) (rF List.map_append ?_)
  generalize ns ++ List.drop ns.length [(0 : Int),3,0] = l
  apply List.ext_getElem?
  intro i
  refine rE List.getElem?_map (rE List.getElem?_map ?_)
  by_cases hi : i < l.length
  ·refine rE (List.getElem?_range hi) ?_
   show _ = some (V.int (l[i]?.getD 0))
   refine rE (List.getElem?_eq_getElem hi) ?_; rfl
  ·refine rE (List.getElem?_eq_none (by exact Nat.le_of_not_lt hi)) (rE (List.getElem?_eq_none (by rw [List.length_range]; exact Nat.le_of_not_lt hi)) ?_); rfl
 ·refine rE List.length_append (rE List.length_drop ?_); show 0 < _ + (3 - _); omega
 ·refine rE List.length_append (rE List.length_drop ?_); show _ + (3 - _)≤63; lia
theorem size_of (n : Nat) (h : 0 < n) : ∃ N : Nat,(if (7 : Int) < n then 7 else (n : Int)) = N∧0 < N∧N≤7 := by
 by_cases h : (7 : Int) < n
 ·exact ⟨7,by refine rE (if_pos h) ?_; rfl,by exact Nat.zero_lt_succ 6,by exact Nat.le_of_ble_eq_true rfl⟩
 ·exact ⟨n,by refine rE (if_neg h) rfl,by omega,by lia⟩
theorem ad {L : Addr} {i j : Nat} (h : i≠j) : (show Nat from L) + i≠(show Nat from L) + j := fun e => h (Nat.add_left_cancel e)
structure LwC (H : CH) (L : Addr) (c1 c2 c3 c4 c5 : Option V) (H' : CH) : Prop where
 k : Kept H H'
 c1 : H' (L + 1) = some (.cell c1)
 c2 : H' (L + 2) = some (.cell c2)
 c3 : H' (L + 3) = some (.cell c3)
 c4 : H' (L + 4) = some (.cell c4)
 c5 : H' (L + 5) = some (.cell c5)
section
variable {L x : Addr} {c1 c2 c3 c4 c5 w : Option V} {H' H'' : CH} {c : CObj}
theorem LwC.kept (S : LwC H L c1 c2 c3 c4 c5 H') (k : Kept H' H'') : LwC H L c1 c2 c3 c4 c5 H'' :=
 ⟨S.k.trans k,k.at S.c1,k.at S.c2,k.at S.c3,k.at S.c4,k.at S.c5⟩
theorem LwC.new (S : LwC H L c1 c2 c3 c4 c5 H') (h : H' x = none) : LwC H L c1 c2 c3 c4 c5 (H'.set x c) := S.kept (Kept.refl.new h)
theorem LwC.put {o o' : List V} (S : LwC H L c1 c2 c3 c4 c5 H') (h : H' x = some (.list o)) (h0 : H x = none) : LwC H L c1 c2 c3 c4 c5 (H'.set x (.list o')) :=
 ⟨fun b hb => (CH.set_ne fun e => hb (by refine rE e ?_; exact h0)).trans (S.k b hb),at_ne (fun e => by rw [← e,S.c1] at h; cases h) S.c1,at_ne (fun e => by rw [← e,S.c2] at h; cases h) S.c2,at_ne (fun e => by rw [← e,S.c3] at h; cases h) S.c3,at_ne (fun e => by rw [← e,S.c4] at h; cases h) S.c4,at_ne (fun e => by rw [← e,S.c5] at h; cases h) S.c5⟩
theorem keep_cell {v : Option V} (k : Kept H H') (h : H' x = some (.cell v)) (h0 : H x = none) : Kept H (H'.set x (.cell w)) := fun b hb => (CH.set_ne fun e => hb (by refine rE e ?_; exact h0)).trans (k b hb)
theorem LwC.w1 (S : LwC H L c1 c2 c3 c4 c5 H') (h : H (L + 1) = none) : LwC H L w c2 c3 c4 c5 (H'.set (L + 1) (.cell w)) :=
 ⟨keep_cell S.k S.c1 h,CH.set_same,at_ne (ad (by decide)) S.c2,at_ne (ad (by decide)) S.c3,at_ne (ad (by decide)) S.c4,at_ne (ad (by decide)) S.c5⟩
theorem LwC.w2 (S : LwC H L c1 c2 c3 c4 c5 H') (h : H (L + 2) = none) : LwC H L c1 w c3 c4 c5 (H'.set (L + 2) (.cell w)) :=
 ⟨keep_cell S.k S.c2 h,at_ne (ad (by decide)) S.c1,CH.set_same,at_ne (ad (by decide)) S.c3,at_ne (ad (by decide)) S.c4,at_ne (ad (by decide)) S.c5⟩
theorem LwC.w3 (S : LwC H L c1 c2 c3 c4 c5 H') (h : H (L + 3) = none) : LwC H L c1 c2 w c4 c5 (H'.set (L + 3) (.cell w)) :=
 ⟨keep_cell S.k S.c3 h,at_ne (ad (by decide)) S.c1,at_ne (ad (by decide)) S.c2,CH.set_same,at_ne (ad (by decide)) S.c4,at_ne (ad (by decide)) S.c5⟩
theorem LwC.w4 (S : LwC H L c1 c2 c3 c4 c5 H') (h : H (L + 4) = none) : LwC H L c1 c2 c3 w c5 (H'.set (L + 4) (.cell w)) :=
 ⟨keep_cell S.k S.c4 h,at_ne (ad (by decide)) S.c1,at_ne (ad (by decide)) S.c2,at_ne (ad (by decide)) S.c3,CH.set_same,at_ne (ad (by decide)) S.c5⟩
theorem LwC.w5 (S : LwC H L c1 c2 c3 c4 c5 H') (h : H (L + 5) = none) : LwC H L c1 c2 c3 c4 w (H'.set (L + 5) (.cell w)) :=
 ⟨keep_cell S.k S.c5 h,at_ne (ad (by decide)) S.c1,at_ne (ad (by decide)) S.c2,at_ne (ad (by decide)) S.c3,at_ne (ad (by decide)) S.c4,CH.set_same⟩
theorem at_cell {y : Addr} {o : List V} {v : Option V} (h : H y = some (.list o)) (hx : H x = some (.cell v)) : (H.set x (.cell w)) y = some (.list o) := at_ne (fun e => by rw [e,hx] at h; cases h) h
theorem Sets.cell {N : Nat} {An : Nat→Nat→Prop} {la : Addr} {ts : List Addr} {v : Option V} (S : Sets C N An H la ts H') (hx : H' x = some (.cell v)) : Sets C N An H la ts (H'.set x (.cell w)) :=
 S.put (fun e => by have := S.la_; rw [e,hx] at this; cases this) fun q => by
  refine eE (List.mem_iff_getElem?.mp q) fun i hi => ?_
  obtain ⟨_,c,h1,o,us,rfl,_⟩ := S.at_ i x hi
  rw [hx] at h1; cases h1
theorem Rows.cell {N : Nat} {near : Nat→List Nat} {ln : Addr} {ns : List Addr} {v : Option V} (S : Rows N near ln ns H) (hx : H x = some (.cell v)) : Rows N near ln ns (H.set x (.cell w)) :=
 ⟨at_cell S.ln_ hx,S.len,fun i t h => at_cell (S.at_ i t h) hx⟩
end
theorem six_hour {x : Int} : 0≤x.fmod 6∧x.fmod 6≤5 := by
 have h1 := Int.fmod_nonneg_of_pos x (show (0 : Int) < 6 by decide)
 have h2 := Int.fmod_lt_of_pos x (show (0 : Int) < 6 by decide)
 omega
structure LwN (H : CH) (L nl ls ld : Addr) (M N : Nat) (nu st du : Nat→Int) (c2 c4 c5 : Option V) (H' : CH) : Prop where
 S : LwC H L (some (.int N)) c2 (some (.ref ld)) c4 c5 H'
 n : H' nl = some (.list ((List.range M).map fun k => .int (nu k)))
 s : H' ls = some (.list ((List.range N).map fun k => .int (st k)))
 d : H' ld = some (.list ((List.range N).map fun k => .int (du k)))
theorem Sets.un {env : Env} {N : Nat} {An : Nat→Nat→Prop} {la : Addr} {ts : List Addr} {H H' : CH} (S : Sets (C.at env) N An H la ts H') : Sets C N An H la ts H' :=
 ⟨S.la_,S.len,S.nd,fun k t hk => let ⟨a,c,e,f⟩ := S.at_ k t hk; ⟨a,c,e,let ⟨o,us,e1,e2,e3,e4⟩ := f; ⟨o,us,e1,e2,e3,e4⟩⟩,S.new⟩
theorem Sets.to {env : Env} {N : Nat} {An : Nat→Nat→Prop} {la : Addr} {ts : List Addr} {H H' : CH} (S : Sets C N An H la ts H') : Sets (C.at env) N An H la ts H' :=
 ⟨S.la_,S.len,S.nd,fun k t hk => let ⟨a,c,e,f⟩ := S.at_ k t hk; ⟨a,c,e,let ⟨o,us,e1,e2,e3,e4⟩ := f; ⟨o,us,e1,e2,e3,e4⟩⟩,S.new⟩
structure LwW (C : Cx) (H H0 : CH) (L : Addr) (N : Nat) (ls ld la ln : Addr) (st du : Nat→Int) (An : Nat→Nat→Prop) (near : Nat→List Nat) (ts ws : List Addr) (c2 c5 : Option V) (H' : CH) : Prop where
 S : LwC H L (some (.int N)) c2 (some (.ref ld)) (some (.ref ln)) c5 H'
 s : H' ls = some (.list ((List.range N).map fun k => .int (st k)))
 d : H' ld = some (.list ((List.range N).map fun k => .int (du k)))
 A : Sets C N An H0 la ts H'
 R : Rows N near ln ws H'
section
variable {H0 H' H'' : CH} {L : Addr} {N : Nat} {ls ld la ln : Addr} {st du : Nat→Int} {An : Nat→Nat→Prop} {near : Nat→List Nat} {ts ws : List Addr} {c2 c5 w : Option V}
theorem LwW.kept (Z : LwW C H H0 L N ls ld la ln st du An near ts ws c2 c5 H') (k : Kept H' H'') : LwW C H H0 L N ls ld la ln st du An near ts ws c2 c5 H'' :=
 ⟨Z.S.kept k,k.at Z.s,k.at Z.d,Z.A.kept k,Z.R.keep k⟩
theorem LwW.w2 (Z : LwW C H H0 L N ls ld la ln st du An near ts ws c2 c5 H') (h : H (L + 2) = none) : LwW C H H0 L N ls ld la ln st du An near ts ws w c5 (H'.set (L + 2) (.cell w)) :=
 ⟨Z.S.w2 h,at_cell Z.s Z.S.c2,at_cell Z.d Z.S.c2,Z.A.cell Z.S.c2,Z.R.cell Z.S.c2⟩
theorem LwW.w5 (Z : LwW C H H0 L N ls ld la ln st du An near ts ws c2 c5 H') (h : H (L + 5) = none) : LwW C H H0 L N ls ld la ln st du An near ts ws c2 w (H'.set (L + 5) (.cell w)) :=
 ⟨Z.S.w5 h,at_cell Z.s Z.S.c5,at_cell Z.d Z.S.c5,Z.A.cell Z.S.c5,Z.R.cell Z.S.c5⟩
end
inductive LwT (C : Cx) (H H0 : CH) (L : Addr) (N : Nat) (ls ld la ln lt : Addr) (st du told : Nat→Int) (An : Nat→Nat→Prop) (near : Nat→List Nat) (ts ws : List Addr) (H' : CH) : Prop
 | mk (c2 : Option V) (Z : LwW C H H0 L N ls ld la ln st du An near ts ws c2 (some (.ref lt)) H') (t : H' lt = some (.list ((List.range N).map fun j => .int (told j)))) : LwT C H H0 L N ls ld la ln lt st du told An near ts ws H'
theorem LC_objsG {elt target : PySem.Expr} {scope : Scope} {cl : List (Str × Addr)} {v : V} {R : V→CH→Prop} {ok : CH→Prop} (xs : List V) (P : Nat→CObj→Prop) (g : Nat→Addr→V) (hs : SeqOf C A v H xs ok) (hok : ∀ H',Kept H H'→ok H') (hsz : xs.length≤sizeLine)
  (turn : ∀ i x,xs[i]? = some x→∀ L H₁,Kept H H₁→ASG (C.comp scope cl L) A target x [] H₁ fun m₂ H₂ => H₂ = H₁∧EV (C.comp scope cl L) A elt m₂ H₂ fun y m₃ H₃ => ∃ b c,H₁ b = none∧y = g i b∧H₃ = H₁.set b c∧P i c)
  (fin : ∀ (D : Addr) (bs : List Addr) (ys : List V) (H' : CH),bs.length = xs.length→ys.length = xs.length→(∀ i b,bs[i]? = some b→ys[i]? = some (g i b))→NewOs H P bs H'→H' D = none→C.h₀.get? D = none→R (.ref D) (H'.set D (.list ys))) : LC C A elt target [] scope cl v H R := by
 refine .of xs ok (fun i ys H' => i≤xs.length∧∃ bs : List Addr,ys.length = i∧bs.length = i∧(∀ k b,bs[k]? = some b→ys[k]? = some (g k b))∧NewOs H P bs H') hs ⟨?_⟩ ⟨Nat.zero_le _,[],rfl,rfl,(fun k b h => by cases h),.nil⟩ ?_
 ·rintro i ys H' ⟨hi,bs,hyl,hl,hy,hN⟩
  refine ⟨hok H' hN.keep,?_,fun x hx L hL => ?_⟩
  ·refine rE hyl ?_; exact Nat.le_trans hi hsz
  ·have hil : i < xs.length := (List.getElem?_eq_some_iff.mp hx).1
   intro s r S hr
   refine wpAny_mono (turn i x hx L H' hN.keep s r S hr) (fun _ s' ⟨m₂,H₂,S₂,af₂,h₂⟩ => ⟨m₂,H₂,S₂,af₂,?_⟩) fun _ _ x => x
   refine eA h₂ fun zz0 hel => ?_; clear h₂; subst zz0
   refine (show true = true→_ from fun _ => ?_) |> fun h => ⟨h,fun h => (by cases h)⟩
   refine hel.mono ?_
   rintro y m₃ H₃ ⟨b,c,hbn,rfl,rfl,hP⟩
   subst hl
   refine ⟨hil,bs ++ [b],by simp [hyl],by simp,fun k a hk => ?_,hN.snoc hbn hP⟩
   by_cases hkl : k < bs.length
   ·rw [List.getElem?_append_left hkl] at hk
    refine rE (List.getElem?_append_left (by exact place_lt (hy k a hk))) ?_; exact hy k a hk
   ·have ek : k = bs.length := by
     have := (List.getElem?_eq_some_iff.mp hk).1
     simp at this; lia
    subst ek
    rw [List.getElem?_append_right (Nat.le_refl _),Nat.sub_self] at hk
    cases hk
    refine rE (List.getElem?_append_right (by exact Nat.le_of_eq hyl)) (rE hyl (rE (Nat.sub_self ..) ?_)); rfl
 ·rintro ys H' D ⟨_,bs,hyl,hl,hy,hN⟩ hD hD0
  exact fin D bs ys H' hl hyl hy hN hD hD0
theorem EV_and {x y : PySem.Expr} {p : Pos} {Q : V→Loc→CH→Prop} (h : EV C A x m H fun v m₁ H₁ => OB C A truthy v m₁ H₁ fun b m₂ H₂ => (b = true→EV C A y m₂ H₂ Q)∧(b = false→Q v m₂ H₂)) : EV C A (.BoolOp .And [x,y] p) m H Q := fun s S => by
 refine BoolOp_and (wpAny_mono (h s S) ?_ fun _ _ x => x)
 rintro r s₁ ⟨v,m₁,H₁,hv,S₁,af₁,h₁⟩
 refine wpAny_mono (h₁ s₁ r S₁ hv) ?_ fun _ _ x => x
 rintro b s₂ ⟨m₂,H₂,S₂,af₂,h₂⟩
 cases b with
 | false => exact ⟨v,m₂,H₂,hv.keep (af₂.tup S₁),S₂,af₁.then S₁ af₂,h₂.2 rfl⟩
 | true => exact BoolOp_one (wpAny_mono (h₂.1 rfl s₂ S₂) (fun _ _ x => x.mono S₂ (af₁.then S₁ af₂)) fun _ _ x => x)
theorem rng_nats {N : Nat} : rangeInts 0 1 N = (List.range N).map intN := by
 unfold rangeInts
 refine List.map_congr_left fun k _ => ?_
 show V.int _ = V.int _
 congr 1; lia
inductive RdE (N : Nat) (late : Nat→Int) (Hb : CH) (i : Nat) (v : V) (H' : CH) : Prop
 | mk (mx : Int) (r : Addr) (hv : v = .tup [.int mx,.ref r]) (k : Kept Hb H') (hr : H' r = some (.list ((List.range i).map intN))) (h1 : ∀ j,j < i→late j≤mx) (h2 : ∃ j,j < i∧mx = late j) : RdE N late Hb i v H'
theorem EX_forLv {α : Type} {l : List α} {f : α→V} {m0 : Loc} {J : V→Nat→CH→Prop} {target iter : PySem.Expr} {body rest : List Stmt} {p : Pos} {Q : Fl→Loc→CH→Prop}
  (h : EV C A iter m H fun v m₁ H₁ => ∃ ok,SeqOf C A v H₁ (l.map f) ok∧Sub m0 m₁∧J v 0 H₁∧∀ t H,J v t H→ok H)
  (turn : ∀ v t x,l[t]? = some x→∀ H,J v t H→∀ R : Fl→Loc→CH→Prop,(∀ m' H',Sub m0 m'→J v (t + 1) H'→R .next m' H'∧R .cont m' H')→ASG C A target (f x) m0 H fun m' H' => EX C A body m' H' R)
  (k : ∀ v H',J v l.length H'→EX C A rest m0 H' Q)
  (hs : autoParam (∀ x,foldedSetIterable iter C.env x = pure x) Mine.syn2) : EX C A (.For target iter body [] p :: rest) m H Q := by
 refine EX_mid (fun m H => m = m0∧∃ v,J v l.length H) (ES_for' (h.mono fun v m₁ H₁ q => ?_) hs) (by rintro m₁ H₁ ⟨rfl,v,hq⟩; exact k v H₁ hq)
 refine eEAAA q fun ok q hs h0 hok => ?_
 refine ⟨l.map f,ok,m0,fun i m H => m = m0∧J v i H,q,hs,⟨rfl,h0⟩,?_⟩
 rintro i m' H' ⟨rfl,hJ⟩
 refine ⟨hok i H' hJ,fun y hy => ?_,fun hi => ?_⟩
 ·rw [List.getElem?_map] at hy
  refine eEA (Option.map_eq_some_iff.mp hy) fun x hx zz2 => ?_; subst zz2
  exact turn v i x hx H' hJ _ fun m'' H'' hs hJ => ⟨⟨_,hs,rfl,hJ⟩,⟨_,hs,rfl,hJ⟩⟩
 ·rw [List.length_map] at hi
  subst hi
  exact EX_nil ⟨rfl,v,hJ⟩
theorem min_if2 {a b : Int} : (if b < a then b else a) = min a b := by split <;> grind
theorem bound_of {f : Nat→Int} : ∀ N : Nat,∃ F : Nat,∀ j,j < N→f j≤F
 | 0 => ⟨0,fun j h => absurd h (Nat.not_lt_zero j)⟩
 | N + 1 => by
  refine eE (bound_of (f := f) N) fun F h => ?_
  refine ⟨F + (f N).toNat,fun j hj => ?_⟩
  by_cases e : j = N
  ·subst e; lia
  ·have := h j (by omega); (clear hj e; lia)
noncomputable def behindOf (N : Nat) (near : Nat→List Nat) (a : Nat) : List Nat := (List.range N).filter fun b => decide (a ∈ near b)
inductive LwB (N : Nat) (near : Nat→List Nat) (Hx : CH) (c : Addr) (i : Nat) (ys : List V) (H' : CH) : Prop
 | mk (ks : List Addr) (e : ys = ks.map .ref) (hl : ks.length = i) (hk : ∀ (j : Nat) t,ks[j]? = some t→H' t = some (.list ((behindOf N near j).map intN))) (hi : i≤N) (k : Kept Hx H') (hc : ∃ v,H' c = some (.cell v)) : LwB N near Hx c i ys H'
inductive LwJ (H : CH) (L nl ls ld : Addr) (M N : Nat) (nu : Nat→Int) (i : Nat) (H' : CH) : Prop
 | mk (st du : Nat→Int) (h0 : ∀ j,0≤st j) (h5 : ∀ j,st j≤5) (Z : LwN H L nl ls ld M N nu st du none none none H') : LwJ H L nl ls ld M N nu i H'
set_option maxHeartbeats 8000000 in
theorem spec_law {l : Addr} {ns : List Int} {items : Array Value} (hlen : ns.length≤63) (B : Bs C.h₀ (KK P) mg mb) {n : Nat} (hA : AOK C A (n + 12)) (hl : C.h₀.get? l = some (seqObj "list" items 0)) (hv : VRs C.h₀ (ns.map .int) items.toList) (hP1 : H 203 = some (.tab qsJ)) (hP2 : H 208 = some (.tab qsM)) (hP3 : H 215 = some (.tab qsT)) (hP4 : H 225 = some (.tab qsL)) :
  CALL C A (.con (.ref a_law)) [.ref l] [] H (LawV H) := by
 refine CALL_hide fun R0 hR0 => ?_
 refine CALL_cells (m' := [("script",.ref l)]) B (by with_unfolding_all rfl) (by with_unfolding_all rfl) hA rfl bz1 (cells_ok (by kernel_rfl)) (by kernel_rfl) fun L hL hA' => ?_
 refine EX_gen fun Hc hHc => ?_
 have hHc : Hc = (((((H.set (L + 1) (.cell none)).set (L + 2) (.cell none)).set (L + 3) (.cell none)).set (L + 4) (.cell none)).set (L + 5) (.cell none)) := hHc.trans (by kernel_rfl)
 have hL1 : H (L + 1) = none := (hL (L + 1) (Nat.le_add_right L 1)).1
 have hL2 : H (L + 2) = none := (hL (L + 2) (Nat.le_add_right L 2)).1
 have hL3 : H (L + 3) = none := (hL (L + 3) (Nat.le_add_right L 3)).1
 have hL4 : H (L + 4) = none := (hL (L + 4) (Nat.le_add_right L 4)).1
 have hL5 : H (L + 5) = none := (hL (L + 5) (Nat.le_add_right L 5)).1
 have S0 : LwC H L none none none none none Hc := by
  refine rE hHc ?_
  exact ⟨((((Kept.refl.new hL1).new (at_ne (ad (by decide)) hL2)).new (at_ne (ad (by decide)) (at_ne (ad (by decide)) hL3))).new (at_ne (ad (by decide)) (at_ne (ad (by decide)) (at_ne (ad (by decide)) hL4)))).new (at_ne (ad (by decide)) (at_ne (ad (by decide)) (at_ne (ad (by decide)) (at_ne (ad (by decide)) hL5)))),
   at_ne (ad (by decide)) (at_ne (ad (by decide)) (at_ne (ad (by decide)) (at_ne (ad (by decide)) CH.set_same))),at_ne (ad (by decide)) (at_ne (ad (by decide)) (at_ne (ad (by decide)) CH.set_same)),at_ne (ad (by decide)) (at_ne (ad (by decide)) CH.set_same),at_ne (ad (by decide)) CH.set_same,CH.set_same⟩
 clear hHc
 refine EX_cons (st := .Assign _ _ _) (ES_assign (EV_bin (EV_local (by with_unfolding_all rfl) (EV_slice ?_))))
 refine EV_list ?_
 repeat walk_at "x"
 refine ⟨by decide,fun z1 hz1 => ?_⟩
 repeat walk_at "x"
 refine EV_b B g_len b_len ?_
 repeat walk_at "x"
 refine ⟨KP_built,CV_len (.base items 0 hl hv) (by refine rE (List.length_map ..) ?_; exact Nat.le_trans hlen (by decide)) ?_⟩
 refine ⟨z1,_,_,rfl,rfl,.own CH.set_same,by decide,fun z2 hz2 => ?_⟩
 refine add_lists (.base items 0 hl hv) (.own CH.set_same) (Nat.le_trans (Nat.add_le_add (by refine rE (List.length_map ..) ?_; exact hlen) (by refine rE pick_tail (rE List.length_drop ?_); exact Nat.sub_le _ _)) (by decide)) fun nl hnl => ?_
 refine eEEAA (nums_of hlen) fun M nu eM hM0 hM => ?_
 refine rE eM ?_
 have S1 := ((S0.new (c := .list [.int 0,.int 3,.int 0]) hz1).new (c := .list (pickL [V.int 0,.int 3,.int 0] (some ((ns.map V.int).length : Int)) none none)) hz2).new (c := .list ((List.range M).map fun k => .int (nu k))) hnl
 have n1 : ((((Hc.set z1 (.list [.int 0,.int 3,.int 0])).set z2 (.list (pickL [V.int 0,.int 3,.int 0] (some ((ns.map V.int).length : Int)) none none))).set nl (.list ((List.range M).map fun k => .int (nu k))))) nl = some (.list ((List.range M).map fun k => .int (nu k))) := CH.set_same
 clear hz1 hz2 hnl eM S0
 generalize ((((Hc.set z1 (.list [.int 0,.int 3,.int 0])).set z2 (.list (pickL [V.int 0,.int 3,.int 0] (some ((ns.map V.int).length : Int)) none none))).set nl (.list ((List.range M).map fun k => .int (nu k))))) = H1 at *
 have hMz : M≤2 ^ 10 := Nat.le_trans hM (by decide)
 repeat walk_at "x"
 refine EV_b B g_min b_min ?_
 repeat walk_at "x"
 refine EV_b B g_len b_len ?_
 repeat walk_at "x"
 refine ⟨KP_built,CV_lenM (.own n1) (szR hMz) ?_⟩
 refine rE List.length_range ?_
 repeat walk_at "x"
 refine ⟨KP_built,CV_min2 hA'.handled ?_⟩
 refine eEAA (size_of M hM0) fun N eN hN0 hN => ?_
 refine rE eN ?_
 refine ASG_cell (c := L + 1) (by with_unfolding_all rfl) S1.c1 ?_
 have hNz : N≤2 ^ 10 := Nat.le_trans hN (by decide)
 have hN62 : N < 2 ^ 62 := Nat.lt_of_le_of_lt hN (by decide)
 have n2 := at_cell (w := some (.int N)) n1 S1.c1
 have S2 := S1.w1 (w := some (.int N)) hL1
 clear S1 n1 eN
 generalize (H1.set (L + 1) (.cell (some (.int N)))) = H2 at *
 refine SeqE.n ?_
 refine EX_cons (st := .Assign _ _ _) (ES_assign_lc ?_)
 repeat walk_at "x"
 refine EV_b B g_range b_range ?_
 repeat walk_at "x"
 refine EV_cell (c := L + 1) (by with_unfolding_all rfl) S2.c1 ?_
 repeat walk_at "x"
 refine ⟨KP_type,CV_range1 ?_⟩
 refine LC_all (List.range N) intN (fun _ => .int 0) (ok := fun _ => True) (seqN hA'.handled hN62) trivial (by refine rE List.length_range ?_; exact Nat.le_trans hNz (by decide)) (fun k _ LC _ => ?_) fun ls hls hls0 => ?_
 ·repeat walk_at "x"
  refine ⟨rfl,rfl,fun _ => ?_⟩
  repeat walk_at "x"
  exact ⟨rfl,rfl⟩
 have s3 : (H2.set ls (.list ((List.range N).map fun _ => .int 0))) ls = some (.list ((List.range N).map fun _ => .int 0)) := CH.set_same
 have n3 := at_new (c := .list ((List.range N).map fun _ => .int 0)) hls n2
 have S3 := S2.new (c := .list ((List.range N).map fun _ => .int 0)) hls
 have ls0 := S2.k.none hls
 have n2x := n2
 clear S2 n2
 generalize (H2.set ls (.list ((List.range N).map fun _ => .int 0))) = H3 at *
 refine SeqE.n ?_
 refine EX_cons (st := .Assign _ _ _) (ES_assign (EV_lc ?_))
 repeat walk_at "x"
 refine EV_b B g_range b_range ?_
 repeat walk_at "x"
 refine EV_cell (c := L + 1) (by with_unfolding_all rfl) S3.c1 ?_
 repeat walk_at "x"
 refine ⟨KP_type,CV_range1 ?_⟩
 refine LC_all (List.range N) intN (fun _ => .int 0) (ok := fun _ => True) (seqN hA'.handled hN62) trivial (by refine rE List.length_range ?_; exact Nat.le_trans hNz (by decide)) (fun k _ LC _ => ?_) fun ld hld hld0 => ?_
 ·repeat walk_at "x"
  refine ⟨rfl,rfl,fun _ => ?_⟩
  repeat walk_at "x"
  exact ⟨rfl,rfl⟩
 have d4 : (H3.set ld (.list ((List.range N).map fun _ => .int 0))) ld = some (.list ((List.range N).map fun _ => .int 0)) := CH.set_same
 have n4 := at_new (c := .list ((List.range N).map fun _ => .int 0)) hld n3
 have s4 := at_new (c := .list ((List.range N).map fun _ => .int 0)) hld s3
 have S4 := S3.new (c := .list ((List.range N).map fun _ => .int 0)) hld
 have ld0 := S3.k.none hld
 have lsd : ls≠ld := ne_out (sn s3) hld
 have nls : nl≠ls := ne_out (sn n2x) hls
 have nld : nl≠ld := ne_out (sn n3) hld
 clear S3 n3 s3 hld hls n2x
 generalize (H3.set ld (.list ((List.range N).map fun _ => .int 0))) = H4 at *
 refine ASG_cell (c := L + 3) (by with_unfolding_all rfl) S4.c3 ?_
 have Z5 : LwN H L nl ls ld M N nu (fun _ => 0) (fun _ => 0) none none none (H4.set (L + 3) (.cell (some (.ref ld)))) := ⟨S4.w3 hL3,at_cell n4 S4.c3,at_cell s4 S4.c3,at_cell d4 S4.c3⟩
 clear S4 n4 s4 d4
 generalize (H4.set (L + 3) (.cell (some (.ref ld)))) = H5 at *
 repeat walk_at "x"
 refine EX_forN (N := M) (f := intN) (J := LwJ H L nl ls ld M N nu) (m0 := [("starts",.ref ls),("numbers",.ref nl),("script",.ref l)]) ?_ (fun i hi H6 hJ RR hRR => ?_) fun H6 hJ => ?_
 ·repeat walk_at "x"
  refine EV_b B g_range b_range ?_
  repeat walk_at "x"
  refine EV_b B g_len b_len ?_
  repeat walk_at "x"
  refine ⟨KP_built,CV_lenM (.own Z5.n) (szR hMz) ?_⟩
  refine rE List.length_range ?_
  repeat walk_at "x"
  exact ⟨KP_type,CV_range1 ⟨seqN hA'.handled (Nat.lt_of_le_of_lt hM (by decide)),.cons rfl (.cons rfl (.cons rfl .nil)),⟨_,_,fun _ => Int.le_refl 0,fun _ => (by decide),Z5⟩⟩⟩
 ·--[
  obtain ⟨st,du,h0,h5,Z⟩ := hJ
  clear Z5
  repeat walk_at "x"
  refine sub_list (v := .int (nu i)) (.own Z.n) (Int.natCast_nonneg _) (mapN_get hi) (szR hMz) ?_
  repeat walk_at "x"
  refine O2_mod (by decide) ?_
  repeat walk_at "x"
  refine EV_cell (c := L + 1) (by with_unfolding_all rfl) Z.S.c1 ?_
  repeat walk_at "x"
  refine O2_mod (by lia) ?_
  refine rE nat_mod ?_
  have hb := Nat.mod_lt i hN0
  generalize hbe : i % N = b at *
  refine set_list Z.s (Int.natCast_nonneg _) (ltR hb) (szR hNz) ?_
  refine rE (mv_set hb) ?_
  have Z6 : LwN H L nl ls ld M N nu (mput st b ((nu i).fmod 6)) du none none none (H6.set ls (.list ((List.range N).map fun j => .int (mput st b ((nu i).fmod 6) j)))) := ⟨Z.S.put Z.s ls0,at_ne nls Z.n,CH.set_same,at_ne (Ne.symm lsd) Z.d⟩
  clear Z
  generalize (H6.set ls (.list ((List.range N).map fun j => .int (mput st b ((nu i).fmod 6) j)))) = H7 at *
  repeat walk_at "x"
  refine sub_list (v := .int (nu i)) (.own Z6.n) (Int.natCast_nonneg _) (mapN_get hi) (szR hMz) ?_
  repeat walk_at "x"
  refine EV_cell (c := L + 1) (by with_unfolding_all rfl) Z6.S.c1 ?_
  repeat walk_at "x"
  refine O2_mul (.of_left (by decide)) ?_
  refine O2_div (by lia) (by omega) ?_
  repeat walk_at "x"
  refine EV_cell (c := L + 3) (by with_unfolding_all rfl) Z6.S.c3 ?_
  repeat walk_at "x"
  refine EV_cell (c := L + 1) (by with_unfolding_all rfl) Z6.S.c1 ?_
  repeat walk_at "x"
  refine O2_mod (by lia) ?_
  refine rE nat_mod (rE hbe ?_)
  refine set_list Z6.d (Int.natCast_nonneg _) (ltR hb) (szR hNz) ?_
  refine rE (mv_set hb) ?_
  repeat walk_at "x"
  refine (hRR _ _ (.cons rfl (.cons rfl (.cons rfl .nil))) ⟨mput st b ((nu i).fmod 6),_,fun j => ?_,fun j => ?_,Z6.S.put Z6.d ld0,at_ne nld Z6.n,at_ne lsd Z6.s,CH.set_same⟩).1
  ·unfold mput; split
   ·exact six_hour.1
   ·exact h0 j
  ·unfold mput; split
   ·exact six_hour.2
   ·exact h5 j
 obtain ⟨st,du,h0,h5,Z⟩ := hJ
 clear Z5 lsd nls nld
 repeat walk_at "x"
 refine EV_g B g_wishes ?_
 repeat walk_at "x"
 refine EV_cell (c := L + 1) (by with_unfolding_all rfl) Z.S.c1 ?_
 repeat walk_at "x"
 refine ⟨KP_K B (by with_unfolding_all rfl),CV_of ((spec_wishes (n := n + 10) hN0 hN hM (by exact B) hA' Z.n).mono ?_)⟩
 rintro v H7 ⟨la,ln,rfl,⟨An,near,ts,ws,W,hnl,Ss,Tn,h1,h2,k7⟩⟩
 have Ss := Ss.un
 have S7 := Z.S.kept k7
 have s7 := k7.at Z.s
 have d7 := k7.at Z.d
 have R7 : Rows N near ln ws H7 := ⟨Tn.ln_,Tn.len,fun i t h => (Tn.at_ i t h).2⟩
 clear Z Tn k7 h1 h2
 repeat walk_at "x"
 refine ASG_tuple hA'.handled rfl ?_
 repeat walk_at "x"
 refine ASG_cell (c := L + 4) (by with_unfolding_all rfl) S7.c4 ?_
 have Z8 : LwW C H H6 L N ls ld la ln st du An near ts ws none none (H7.set (L + 4) (.cell (some (.ref ln)))) := ⟨S7.w4 hL4,at_cell s7 S7.c4,at_cell d7 S7.c4,Ss.cell S7.c4,R7.cell S7.c4⟩
 clear S7 s7 d7 Ss R7
 generalize (H7.set (L + 4) (.cell (some (.ref ln)))) = H8 at *
 refine ASGs_nil ?_
 refine SeqE.n ?_
 refine EX_cons (st := .Assign _ _ _) (ES_assign_lc1 (x₀ := "a") ?_)
 repeat walk_at "x"
 refine EV_b B g_range b_range ?_
 repeat walk_at "x"
 refine EV_cell (c := L + 1) (by with_unfolding_all rfl) Z8.S.c1 ?_
 repeat walk_at "x"
 refine ⟨KP_type,CV_range1 ?_⟩
 refine ⟨_,(fun _ => True),seqN hA'.handled hN62,fun c hc hc0 => ⟨LwB N near H8 c,⟨?_⟩,⟨[],rfl,rfl,(fun j t h => (by cases h)),Nat.zero_le _,Kept.refl.new hc,⟨none,CH.set_same⟩⟩,?_⟩⟩
 ·--[
  rintro i ys H' ⟨ks,rfl,hkl,hkk,hi,hk,v0,hv0⟩
  refine ⟨trivial,by refine rE (List.length_map ..) (rE hkl ?_); exact Nat.le_trans (Nat.le_trans hi hNz) (by decide),fun x hx LC hLC => ?_⟩
  by_cases hiN : i < N
  ·rw [List.getElem?_map,List.getElem?_range hiN] at hx
   cases hx
   refine ASG_cell (c := c) (by with_unfolding_all rfl) hv0 ?_
   have hk7 : Kept H8 (H'.set c (.cell (some (.int i)))) := keep_cell hk hv0 hc
   have hkk7 : ∀ (j : Nat) t,ks[j]? = some t→(H'.set c (.cell (some (.int i)))) t = some (.list ((behindOf N near j).map intN)) := fun j t h => at_cell (hkk j t h) hv0
   have hc7 : (H'.set c (.cell (some (.int i)))) c = some (.cell (some (.int i))) := CH.set_same
   clear hk hkk hv0 v0
   generalize (H'.set c (.cell (some (.int i)))) = H9 at *
   refine ETs_nil ⟨fun _ => ?_,fun h => (by cases h)⟩
   refine EV_lc ?_
   repeat walk_at "x"
   refine EV_b (by exact B) g_range b_range ?_
   repeat walk_at "x"
   refine EV_cell (c := L + 1) (by with_unfolding_all rfl) (hk7.at Z8.S.c1) ?_
   repeat walk_at "x"
   refine ⟨KP_type,CV_range1 ?_⟩
   refine LC_pure (List.range N) intN (fun k => decide (i ∈ near k)) intN (ok := fun _ => True) (seqN hA'.handled hN62) trivial (by refine rE List.length_range ?_; exact Nat.le_trans hNz (by decide)) (fun k hkm LC2 hLC2 => ?_) fun D hD hD0 => ?_
   ·rw [List.mem_range] at hkm
    obtain ⟨t,ht⟩ : ∃ t,ws[k]? = some t := ⟨_,List.getElem?_eq_getElem (by refine rE Z8.R.len ?_; exact hkm)⟩
    repeat walk_at "x"
    refine EV_cell (c := c) (by with_unfolding_all rfl) hc7 ?_
    repeat walk_at "x"
    refine EV_cell (c := L + 4) (by with_unfolding_all rfl) (hk7.at Z8.S.c4) ?_
    repeat walk_at "x"
    refine sub_list (v := .ref t) (.own (hk7.at Z8.R.ln_)) (Int.natCast_nonneg _) (mapA_get ht) (szM (by refine rE Z8.R.len ?_; exact hNz)) ?_
    refine O2_inl (.own (hk7.at (Z8.R.at_ k t ht))) dr_nats (.int _) (fun e he => by (refine eEA (List.mem_map.mp he) fun _ _ zz2 => ?_; subst zz2); rfl) rfl hA'.u10 (fun b hb => ?_)
    have hb' : b = decide (i ∈ near k) := by
     rewrite [Bool.eq_iff_iff,hb]; refine rE decide_eq_true_eq ?_; rewrite [List.mem_map]
     exact ⟨fun ⟨x,h1,h2⟩ => by cases h2; exact h1,fun h => ⟨i,h,rfl⟩⟩
    subst hb'
    repeat walk_at "x"
    refine ⟨_,rfl,fun q2 => ⟨by refine rF q2 rfl,rfl,fun _ => ?_⟩,fun q2 => ⟨by refine rF q2 rfl,rfl,fun h => (by cases h)⟩⟩
    repeat walk_at "x"
    exact ⟨rfl,rfl⟩
   ·refine ⟨ks ++ [D],by simp,by simp [hkl],fun j t hj => ?_,hiN,hk7.new hD,⟨some (.int i),at_new hD hc7⟩⟩
    by_cases e : j < ks.length
    ·rw [List.getElem?_append_left e] at hj; exact at_new hD (hkk7 j t hj)
    ·have ej : j = i := by
      have := (List.getElem?_eq_some_iff.mp hj).1
      simp at this; (clear hlen hl hP1 hP2 hP3 hP4 hHc hL1 hL2 hL3 hL4 hL5 hM0 hM hMz hN0 hN hNz hN62 hls0 ls0 hld0 ld0 hc hc0 hi hLC hiN hc7 hD hD0 hj; lia)
     subst ej
     rw [List.getElem?_append_right (Nat.le_of_not_lt e),hkl,Nat.sub_self] at hj
     cases hj
     exact CH.set_same
  ·rw [List.getElem?_eq_none (by refine rE (List.length_map ..) (rE List.length_range ?_); exact Nat.le_of_not_lt hiN)] at hx; cases hx
 rintro ys H' lb ⟨ks,rfl,hkl,hkk,_,hk,_⟩ hD hD0
 rw [List.length_map,List.length_range] at hkl
 have Z9 := (Z8.kept hk).kept (Kept.refl.new (c := .list (ks.map .ref)) hD)
 have R9 : Rows N (behindOf N near) lb ks (H'.set lb (.list (ks.map .ref))) := ⟨CH.set_same,hkl,fun j t h => at_new hD (hkk j t h)⟩
 clear hk hkk hD hD0 Z8
 generalize (H'.set lb (.list (ks.map .ref))) = H9 at *
 repeat walk_at "x"
 refine EX_forLv (l := ws ++ ks) (f := V.ref) (J := fun v _ H' => Kept H9 H'∧∃ lw,v = .ref lw∧H' lw = some (.list ((ws ++ ks).map .ref))) (m0 := [("behind",.ref lb),("ahead",.ref la),("starts",.ref ls),("numbers",.ref nl),("script",.ref l)]) ?_ (fun v0 t tr htr H10 hJ RR hRR => ?_) fun v0 H10 hJ => ?_
 ·repeat walk_at "x"
  refine EV_cell (c := L + 4) (by with_unfolding_all rfl) Z9.S.c4 ?_
  repeat walk_at "x"
  refine add_lists (.own Z9.R.ln_) (.own R9.ln_) (by refine rE (List.length_map ..) (rE (List.length_map ..) (rE Z9.R.len (rE R9.len ?_))); exact Nat.le_trans (Nat.add_le_add hN hN) (by decide)) fun lw hlw => ?_
  refine rF List.map_append ?_
  exact ⟨_,seq_own hA'.handled CH.set_same,.cons rfl (.cons rfl (.cons rfl (.cons rfl (.cons rfl .nil)))),⟨Kept.refl.new hlw,lw,rfl,CH.set_same⟩,fun _ _ ⟨_,_,e,h⟩ => by cases e; exact h⟩
 ·--[
  obtain ⟨k10,lw,rfl,hlw⟩ := hJ
  obtain ⟨row,hrz,hrow⟩ : ∃ row : List Nat,row.length≤63∧H9 tr = some (.list (row.map intN)) := by
   by_cases ht : t < ws.length
   ·rw [List.getElem?_append_left ht] at htr
    exact ⟨near t,Nat.le_trans (hnl t) hM,Z9.R.at_ t tr htr⟩
   ·rw [List.getElem?_append_right (Nat.le_of_not_lt ht)] at htr
    exact ⟨behindOf N near _,Nat.le_trans (List.length_filter_le ..) (by refine rE List.length_range ?_; exact Nat.le_trans hN (by decide)),R9.at_ _ tr htr⟩
  have Z10 := Z9.kept k10
  have row10 := k10.at hrow
  repeat walk_at "x"
  refine EX_cons (st := .If _ _ _ _) (ES_if (EB.mono (Q := fun c m' H' => c = false∧m' = ([("row",.ref tr),("behind",.ref lb),("ahead",.ref la),("starts",.ref ls),("numbers",.ref nl),("script",.ref l)] : Loc)∧Kept H10 H') (EB_cmp ?_) ?_))
  ·refine EV_call (EV_g B g_joined ?_)
   repeat walk_at "x"
   refine ⟨KP_K B (by with_unfolding_all rfl),CV_of ((spec_joined (n := n + 7) (by exact B) hA' row10 hrz (Z10.S.k.at hP1)).mono ?_)⟩
   intro v H11 hJn
   have k11 : Kept H10 H11 := by cases hJn <;> assumption
   repeat walk_at "x"
   refine EV_list ?_
   repeat walk_at "x"
   refine ⟨by decide,fun E hE => ?_⟩
   refine O2_ned (.list (.own (at_new hE (k11.at row10))) dr_nats) (.list (.own CH.set_same) .nil) nats_ok (by rfl) hA'.u10 fun c3 hc3 => ?_
   rw [nats_nil] at hc3
   have kE : Kept H10 (H11.set E (.list [])) := k11.new hE
   refine ⟨c3,rfl,fun q => ?_,fun q => ?_⟩
   ·have hn0 := hc3.mp q
    cases hJn with
    | none h0 hv k => exact absurd h0 hn0
    | some r h0 hv h1 k =>
     subst hv
     repeat walk_at "x"
     refine O2_ned (.list (.own (at_new hE h1)) dr_nats) (.list (.own (kE.at row10)) dr_nats) nats_ok nats_ok hA'.u10 fun c4 hc4 => ?_
     refine ⟨c4,rfl,?_,rfl,kE⟩
     cases q5 : c4 with
     | false => rfl
     | true => exact absurd rfl (hc4.mp q5)
   ·have hn0 : row = [] := Classical.byContradiction fun e => by rw [hc3.mpr e] at q; cases q
    cases hJn with
    | some r h0 hv h1 k => exact absurd hn0 h0
    | none h0 hv k =>
     subst hv
     repeat walk_at "x"
     refine EV_str ?_
     refine O2_ned (d := .str "reduce() of empty iterable with no initial value") (e := .str "reduce() of empty iterable with no initial value") (.str _) (.str _) (by kernel_rfl) (by kernel_rfl) hA'.u10 fun c4 hc4 => ?_
     refine ⟨c4,rfl,?_,rfl,kE⟩
     cases q5 : c4 with
     | false => rfl
     | true => exact absurd rfl (hc4.mp q5)
  rintro c m' H' ⟨rfl,rfl,kE⟩
  refine ⟨fun q => (by cases q),fun _ => ?_⟩
  repeat walk_at "x"
  exact (hRR _ _ (.cons rfl (.cons rfl (.cons rfl (.cons rfl (.cons rfl .nil))))) ⟨k10.trans kE,lw,rfl,kE.at hlw⟩).1
 have Z10 := Z9.kept hJ.1
 have R10 := R9.keep hJ.1
 clear hJ v0 R9 Z9
 refine eEA W.rank fun rk rk1 rk2 => ?_
 have behm : ∀ a b,b ∈ behindOf N near a↔b < N∧a ∈ near b := fun a b => by
  unfold behindOf; (rewrite [List.mem_filter,List.mem_range]; refine rE decide_eq_true_eq ?_; rfl)
 repeat walk_at "x"
 refine EV_g B g_moved ?_
 repeat walk_at "x"
 refine EV_cell (c := L + 4) (by with_unfolding_all rfl) Z10.S.c4 ?_
 repeat walk_at "x"
 refine EV_lambda B (Z10.S.k.at hP4) (code_law B) ?_
 repeat walk_at "x"
 refine ⟨KP_K B (by with_unfolding_all rfl),CV_of ((spec_moved (n := n + 5) (pk := max) (rk := rk) hN (fun j hj a ha => ⟨W.lt j hj a ha,rk2 a j (W.of j hj a ha)⟩) (fun j hj => Nat.le_trans (hnl j) hM) (by exact B) hA' ⟨fun _ _ _ => KP_lam,fun env fr A2 H' hA2 x y => ?_⟩ Z10.s Z10.R (Z10.S.k.at hP2)).mono ?_)⟩
 ·refine CALL_fn B.lim hA2 (fun _ _ _ => .pos2) (by with_unfolding_all rfl) rfl fun L' a' c' hL' hL0' hA3 => ?_
  repeat walk_at "x"
  refine EV_b (by exact B) g_max b_max ?_
  repeat walk_at "x"
  refine ⟨KP_built,CV_max2 hA3.handled ?_⟩
  exact ⟨by refine rE max_if2 rfl,rfl⟩
 rintro v H11 ⟨lf,first,rfl,lf0,f11,Ef,k11⟩
 have Z11 := Z10.kept k11
 have R11 := R10.keep k11
 clear Z10 R10 k11
 repeat walk_at "x"
 refine EV_g B g_moved ?_
 repeat walk_at "x"
 refine EV_cell (c := L + 3) (by with_unfolding_all rfl) Z11.S.c3 ?_
 repeat walk_at "x"
 refine O1_neg ?_
 repeat walk_at "x"
 refine EV_lambda B (Z11.S.k.at hP4) (code_law B) ?_
 repeat walk_at "x"
 refine ⟨KP_K B (by with_unfolding_all rfl),CV_of ((spec_moved (n := n + 5) (pk := min) (rk := fun a => N - rk a) hN (fun j hj a ha => ?_) (fun j hj => Nat.le_trans (List.length_filter_le ..) (by refine rE List.length_range ?_; exact Nat.le_trans hN (by decide))) (by exact B) hA' ⟨fun _ _ _ => KP_lam,fun env fr A2 H' hA2 x y => ?_⟩ Z11.d R11 (Z11.S.k.at hP2)).mono ?_)⟩
 ·obtain ⟨h1,h2⟩ := (behm j a).mp ha
  have h3 := rk2 j a (W.of a h1 j h2)
  have h4 := rk1 a
  exact ⟨h1,by (clear hlen hl hP1 hP2 hP3 hP4 hHc hL1 hL2 hL3 hL4 hL5 hM0 hM hMz hN0 hN hNz hN62 hls0 ls0 hld0 ld0 hc hc0 hi lf0 f11 hj h1; grind)⟩
 ·refine CALL_fn B.lim hA2 (fun _ _ _ => .pos2) (by with_unfolding_all rfl) rfl fun L' a' c' hL' hL0' hA3 => ?_
  repeat walk_at "x"
  refine EV_b (by exact B) g_min b_min ?_
  repeat walk_at "x"
  refine ⟨KP_built,CV_min2 hA3.handled ?_⟩
  exact ⟨by refine rE min_if2 rfl,rfl⟩
 rintro v H12 ⟨ll,last,rfl,ll0,l12,El,k12⟩
 have Z12 := Z11.kept k12
 have f12 := k12.at f11
 clear Z11 R11 k12 f11
 have Up := moved_up Ef
 have Dn := moved_dn (fun a j _ => behm a j) W.lt El
 clear Ef El behm rk1 rk2
 repeat walk_at "x"
 refine EX_cons (st := .If _ _ _ _) (ES_if (EB_or_pure false false ?_ (fun e => ?_) ⟨fun q => (by cases q),fun _ => ?_⟩))
 ·repeat walk_at "x"
  exact ⟨_,rfl,rfl,rfl,rfl⟩
 ·repeat walk_at "x"
  exact ⟨_,rfl,rfl,rfl,rfl⟩
 refine eE (bound_of (f := first) N) fun F hF => ?_
 repeat walk_at "x"
 refine EV_g B g_told ?_
 repeat walk_at "x"
 refine ⟨KP_K B (by with_unfolding_all rfl),CV_of ((spec_told (n := n + 6) (F := F) hN (fun j hj => Int.le_trans (h0 j) (Up.ge j hj)) hF (by exact B) hA' f12 l12 (Z12.S.k.at hP3)).mono ?_)⟩
 rintro v H13 ⟨lt,told,rfl,lt0,t13,E,k13⟩
 have Z13 := Z12.kept k13
 clear Z12 f12 l12 k13 hF
 repeat walk_at "x"
 refine ASG_cell (c := L + 5) (by with_unfolding_all rfl) Z13.S.c5 ?_
 have Z14 := Z13.w5 (w := some (.ref lt)) hL5
 have t14 := at_cell (w := some (.ref lt)) t13 Z13.S.c5
 clear Z13 t13
 generalize (H13.set (L + 5) (.cell (some (.ref lt)))) = H14 at *
 have We := W.toWish
 have ht0 : ∀ j,j < N→st j≤told j := fun j hj => Int.le_trans (Up.ge j hj) (E.ge j hj)
 have htan : ∀ a b,b < N→An a b→told a < told b := fun a b hb h => told_an We (fun j _ => h0 j) Up Dn E hb h
 repeat walk_at "x"
 refine EX_cons (st := .If _ _ _ _) (ES_if (EB_cmp ?_))
 repeat walk_at "x"
 refine EV_cell (c := L + 5) (by with_unfolding_all rfl) Z14.S.c5 ?_
 refine O2_inl (ds := (List.range N).map fun j => Dat.int (told j)) (.own t14) (DRs.map fun k _ => .int _) .none (fun e he => by (refine eEA (List.mem_map.mp he) fun _ _ zz2 => ?_; subst zz2); rfl) rfl hA'.u10 fun b hb => ?_
 have hb' : b = false := by
  cases q : b with
  | false => rfl
  | true => refine eEA (List.mem_map.mp (hb.mp q)) fun _ _ h => ?_; cases h
 subst hb'
 refine ⟨_,rfl,fun q => (by cases q),fun _ => ?_⟩
 clear hb
 repeat walk_at "x"
 refine EX_forN (N := N) (f := intN) (J := fun _ H' => LwT C H H6 L N ls ld la ln lt st du told An near ts ws H') (m0 := [("last",.ref ll),("first",.ref lf),("behind",.ref lb),("ahead",.ref la),("starts",.ref ls),("numbers",.ref nl),("script",.ref l)]) ?_ (fun j hj H15 hJ RR hRR => ?_) fun H15 hJ => ?_
 ·repeat walk_at "x"
  refine EV_b B g_range b_range ?_
  repeat walk_at "x"
  refine EV_cell (c := L + 1) (by with_unfolding_all rfl) Z14.S.c1 ?_
  repeat walk_at "x"
  exact ⟨KP_type,CV_range1 ⟨seqN hA'.handled hN62,.cons rfl (.cons rfl (.cons rfl (.cons rfl (.cons rfl (.cons rfl (.cons rfl .nil)))))),⟨_,Z14,t14⟩⟩⟩
 ·--[
  obtain ⟨c2,Z,t⟩ := hJ
  clear Z14 t14
  refine ASG_cell (c := L + 2) (by with_unfolding_all rfl) Z.S.c2 ?_
  have Z15 := Z.w2 (w := some (.int j)) hL2
  have t15 := at_cell (w := some (.int j)) t Z.S.c2
  clear Z t
  generalize (H15.set (L + 2) (.cell (some (.int j)))) = H16 at *
  refine EX_cons (st := .If _ _ _ _) (ES_if (EB.mono (Q := fun c m' H' => c = false∧m' = ([("last",.ref ll),("first",.ref lf),("behind",.ref lb),("ahead",.ref la),("starts",.ref ls),("numbers",.ref nl),("script",.ref l)] : Loc)∧Kept H16 H') (EB_or ?_) ?_))
  ·repeat walk_at "x"
   refine EV_cell (c := L + 5) (by with_unfolding_all rfl) Z15.S.c5 ?_
   repeat walk_at "x"
   refine EV_cell (c := L + 2) (by with_unfolding_all rfl) Z15.S.c2 ?_
   refine sub_list (v := .int (told j)) (.own t15) (Int.natCast_nonneg _) (mapN_get hj) (szR hNz) ?_
   repeat walk_at "x"
   refine EV_cell (c := L + 2) (by with_unfolding_all rfl) Z15.S.c2 ?_
   refine sub_list (v := .int (st j)) (.own Z15.s) (Int.natCast_nonneg _) (mapN_get hj) (szR hNz) ?_
   repeat walk_at "x"
   refine ⟨_,rfl,fun q => absurd (of_decide_eq_true q) (Int.not_lt.mpr (ht0 j hj)),fun _ => ?_⟩
   obtain ⟨tj,htj⟩ : ∃ t,ts[j]? = some t := ⟨_,List.getElem?_eq_getElem (by refine rE Z15.A.len ?_; exact hj)⟩
   obtain ⟨_,_,hcj,oj,usj,rfl,hSj,hTj,hmj⟩ := Z15.A.at_ j tj htj
   refine EB_cmp (EV_lc ?_)
   repeat walk_at "x"
   refine EV_cell (c := L + 2) (by with_unfolding_all rfl) Z15.S.c2 ?_
   repeat walk_at "x"
   refine sub_list (.own Z15.A.la_) (Int.natCast_nonneg _) (mapA_get htj) (szM (by refine rE Z15.A.len ?_; exact hNz)) ?_
   refine LC_set (fun _ => false) V.int hA'.handled hcj hSj (Nat.lt_of_le_of_lt (tiny_len hTj) (by decide)) (fun k hk LC hLC => ?_) fun D vs hvs hD hD0 => ?_
   ·refine eEA ((hmj k).mp hk) fun a zz1 ha => ?_; subst zz1
    have haN := W.ltA a j hj ha
    repeat walk_at "x"
    refine EV_cell (c := L + 5) (by with_unfolding_all rfl) Z15.S.c5 ?_
    repeat walk_at "x"
    refine sub_list (v := .int (told a)) (.own t15) (Int.natCast_nonneg _) (mapN_get haN) (szR hNz) ?_
    repeat walk_at "x"
    refine EV_cell (c := L + 5) (by with_unfolding_all rfl) Z15.S.c5 ?_
    repeat walk_at "x"
    refine EV_cell (c := L + 2) (by with_unfolding_all rfl) Z15.S.c2 ?_
    repeat walk_at "x"
    refine sub_list (v := .int (told j)) (.own t15) (Int.natCast_nonneg _) (mapN_get hj) (szR hNz) ?_
    repeat walk_at "x"
    exact ⟨_,rfl,fun q => absurd (of_decide_eq_true q) (Int.not_le.mpr (htan a j hj ha)),fun _ => ⟨rfl,rfl,fun h => (by cases h)⟩⟩
   ·refine EV_list ?_
    repeat walk_at "x"
    refine ⟨by decide,fun E2 hE => ?_⟩
    refine O2_ned (.list (.own (at_new hE CH.set_same)) dr_ints) (.list (.own CH.set_same) .nil) ints_ok (by rfl) hA'.u10 fun c3 hc3 => ?_
    refine ⟨c3,rfl,?_,rfl,(Kept.refl.new hD).new hE⟩
    cases q : c3 with
    | false => rfl
    | true => exact absurd (ints_nil.mpr (List.filter_eq_nil_iff.mpr fun _ _ h => (by cases h))) (hc3.mp q)
  rintro c m' H' ⟨rfl,rfl,k⟩
  refine ⟨fun q => (by cases q),fun _ => ?_⟩
  repeat walk_at "x"
  exact (hRR _ _ (.cons rfl (.cons rfl (.cons rfl (.cons rfl (.cons rfl (.cons rfl (.cons rfl .nil))))))) ⟨_,Z15.kept k,k.at t15⟩).1
 obtain ⟨c2,Z,t⟩ := hJ
 clear Z14 t14
 refine EX_cons (st := .Assign _ _ _) (ES_assign_lc ?_)
 repeat walk_at "x"
 refine EV_b B g_range b_range ?_
 repeat walk_at "x"
 refine EV_cell (c := L + 1) (by with_unfolding_all rfl) Z.S.c1 ?_
 repeat walk_at "x"
 refine ⟨KP_type,CV_range1 ?_⟩
 refine LC_objsG ((List.range N).map intN) (fun i c => c = .list [intN i]) (fun i b => .tup [.int (told i + 1 - du i),.ref b]) (seqN hA'.handled hN62) (fun _ _ => trivial) (szR hNz) (fun i x hx LC H₁ k => ?_) fun le bs ys H17 hbl hyl hys NO hle hle0 => ?_
 ·have hi : i < N := by
   have := (List.getElem?_eq_some_iff.mp hx).1
   rw [List.length_map,List.length_range] at this; exact this
  rw [List.getElem?_map,List.getElem?_range hi] at hx
  cases hx
  repeat walk_at "x"
  refine ⟨rfl,?_⟩
  repeat walk_at "x"
  refine EV_cell (c := L + 5) (by with_unfolding_all rfl) (k.at Z.S.c5) ?_
  repeat walk_at "x"
  refine sub_list (v := .int (told i)) (.own (k.at t)) (Int.natCast_nonneg _) (mapN_get hi) (szR hNz) ?_
  repeat walk_at "x"
  refine EV_cell (c := L + 3) (by with_unfolding_all rfl) (k.at Z.S.c3) ?_
  repeat walk_at "x"
  refine sub_list (v := .int (du i)) (.own (k.at Z.d)) (Int.natCast_nonneg _) (mapN_get hi) (szR hNz) ?_
  repeat walk_at "x"
  refine EV_list ?_
  repeat walk_at "x"
  refine ⟨by show 1≤sizeLine; decide,fun b hb => ?_⟩
  repeat walk_at "x"
  exact ⟨by show 2≤sizeLine; decide,b,_,hb,rfl,rfl,rfl⟩
 rw [List.length_map,List.length_range] at hbl hyl
 have Z17 := (Z.kept NO.keep).kept (Kept.refl.new (c := .list ys) hle)
 have bs17 : ∀ i b,bs[i]? = some b→(H17.set le (.list ys)) b = some (.list [intN i]) := fun i b h => by
  obtain ⟨_,c,h1,rfl⟩ := NO.at_ i b h
  exact at_new hle h1
 have le17 : (H17.set le (.list ys)) le = some (.list ys) := CH.set_same
 clear Z t NO hle hle0
 generalize (H17.set le (.list ys)) = H18 at *
 obtain ⟨y0,yt,rfl⟩ : ∃ y0 yt,ys = y0 :: yt := by
  cases ys with
  | nil => exact absurd hyl.symm (Nat.pos_iff_ne_zero.mp hN0)
  | cons y0 yt => exact ⟨_,_,rfl⟩
 have ysg : ∀ i x,(y0 :: yt)[i]? = some x→∃ b,x = .tup [.int (told i + 1 - du i),.ref b]∧H18 b = some (.list [intN i])∧i < N := fun i x h => by
  have hi := (List.getElem?_eq_some_iff.mp h).1
  rw [hyl] at hi
  have hb : bs[i]? = some (bs[i]'(by refine rE hbl ?_; exact hi)) := List.getElem?_eq_getElem _
  exact ⟨_,Option.some.inj (h.symm.trans (hys i _ hb)),bs17 i _ hb,hi⟩
 clear hys bs17
 repeat walk_at "x"
 refine EV_g B g_reduce ?_
 repeat walk_at "x"
 refine EV_lambda B (Z17.S.k.at hP4) (code_law B) ?_
 repeat walk_at "x"
 refine eEAA (ysg 0 y0 rfl) fun b0 zz1 hb0 _ => ?_; subst zz1
 refine ⟨KP_K B (by with_unfolding_all rfl),CV_of ((spec_reduce1 (n := n + 10) (by exact B) hA' le17 (RdE N (fun j => told j + 1 - du j) H18) ⟨_,b0,rfl,.refl,hb0,fun j hj => (by refine rE (Nat.lt_one_iff.mp hj) ?_; exact Int.le_refl _),0,by decide,rfl⟩ (fun env H'' => KP_lam) ?_ (fun i v H' h => by obtain ⟨_,_,_,k,_⟩ := h; exact k.at le17)).mono ?_)⟩
 ·rintro i v x H' env hAA ⟨mx,r,rfl,k,hr,h1,h2⟩ hx
  refine eEAA (ysg i x hx) fun b zz1 hb hi => ?_; subst zz1
  refine CALL_fn B.lim hAA (fun _ _ _ => .pos2) (by with_unfolding_all rfl) rfl fun L' a' c' hL' hL0' hA2 => ?_
  repeat walk_at "x"
  refine EV_b (by exact B) g_max b_max ?_
  repeat walk_at "x"
  refine sub_tup (v := .int mx) (by decide) rfl (by show 2≤sizeLine; decide) ?_
  repeat walk_at "x"
  refine sub_tup (v := .int (told i + 1 - du i)) (by decide) rfl (by show 2≤sizeLine; decide) ?_
  repeat walk_at "x"
  refine ⟨KP_built,CV_max2 hA2.handled ?_⟩
  refine rE max_if2 ?_
  repeat walk_at "x"
  refine sub_tup (v := .ref r) (by decide) rfl (by show 2≤sizeLine; decide) ?_
  repeat walk_at "x"
  refine sub_tup (v := .ref b) (by decide) rfl (by show 2≤sizeLine; decide) ?_
  repeat walk_at "x"
  refine add_lists (.own hr) (.own (k.at hb)) (by refine rE (List.length_map ..) (rE List.length_range ?_); exact Nat.le_trans (Nat.add_le_add (Nat.le_of_lt (Nat.lt_of_lt_of_le hi hN)) (Nat.le_refl 1)) (by decide)) fun r2 hr2 => ?_
  have er : (List.range i).map intN ++ [intN i] = (List.range (i + 1)).map intN := by refine rE List.range_succ (rE List.map_append ?_); rfl
  refine rE er ?_
  repeat walk_at "x"
  refine ⟨by show 2≤sizeLine; decide,_,r2,rfl,k.new hr2,CH.set_same,fun j hj => ?_,?_⟩
  ·by_cases e : j = i
   ·subst e; exact Int.le_max_right ..
   ·exact Int.le_trans (h1 j (by lia)) (Int.le_max_left ..)
  ·refine eEA h2 fun j hj e => ?_
   by_cases q : told i + 1 - du i≤mx
   ·exact ⟨j,by exact Nat.lt_add_right 1 hj,by refine rE (Int.max_eq_left q) ?_; exact e⟩
   ·exact ⟨i,Nat.lt_succ_self i,Int.max_eq_right (Int.le_of_lt (Int.not_le.mp q))⟩
 refine rE hyl ?_
 rintro v H19 ⟨late,wk,rfl,k19,wk19,l1,l2⟩
 have Z19 := Z17.kept k19
 clear Z17 k19 le17 ysg hb0
 repeat walk_at "x"
 refine ASG_tuple hA'.handled rfl ?_
 repeat walk_at "x"
 refine EV_and ?_
 repeat walk_at "x"
 refine EV_b B g_list b_list ?_
 repeat walk_at "x"
 refine EV_b B g_range b_range ?_
 repeat walk_at "x"
 refine EV_cell (c := L + 1) (by with_unfolding_all rfl) Z19.S.c1 ?_
 repeat walk_at "x"
 refine ⟨KP_type,CV_range1 ?_⟩
 repeat walk_at "x"
 refine ⟨KP_type,CV_list_rng hA'.handled (Nat.lt_of_le_of_lt hN (by decide)) fun D hD _ => ?_⟩
 refine O2_eqd (.list (.own (at_new hD wk19)) dr_nats) (.list (.own CH.set_same) (by refine rE rng_nats ?_; exact dr_nats)) nats_ok nats_ok hA'.u10 fun b hb => ?_
 have Z20 := Z19.kept (Kept.refl.new (c := .list (rangeInts 0 1 N)) hD)
 refine rE (hb.mpr rfl) ?_
 clear hb Z19 hD wk19
 generalize (H19.set D (.list (rangeInts 0 1 N))) = H20 at *
 repeat walk_at "x"
 refine OB_bool ⟨fun _ => ?_,fun q => (by cases q)⟩
 repeat walk_at "x"
 refine EV_g B g_least ?_
 repeat walk_at "x"
 refine EV_cell (c := L + 3) (by with_unfolding_all rfl) Z20.S.c3 ?_
 repeat walk_at "x"
 refine ⟨KP_K B (by with_unfolding_all rfl),CV_of ((spec_least (n := n + 10) hN0 hN (by exact B) hA' Z20.s Z20.d Z20.A.to (fun a k h => W.ltA a k (W.lt2 a k h) h)).mono ?_)⟩
 rintro v H21 ⟨M',bb,L',⟨j0,hj0,eM'⟩,h2,⟨bests,b0',bh,eb⟩,rfl,k21⟩
 have hfin := least_law We (fun j _ => h0 j) (fun j _ => h5 j) Up Dn E b0' bh l1 l2 (by have h3 := l1 j0 hj0; have h4 := ht0 j0 hj0; have h6 := h0 j0; lia)
 refine rE eb (rE hfin ?_)
 refine O2_eqd (d := .int late) (e := .int late) (.int _) (.int _) rfl rfl hA'.u10 fun b hb => ?_
 refine rE (hb.mpr rfl) ?_
 repeat walk_at "x"
 exact hR0 _ _ ⟨rfl,Z20.S.k.trans k21⟩
end
end
end
end Mine
end
section
open PySem PySem.Calls PySem.W PyProof.Rows
set_option maxRecDepth 100000
namespace Mine
theorem k_law {P : Params} : nsIn (KK P) mainGlobals "law" = some (some (.ref a_law)) := by kernel_rfl
theorem in_203 {P : Params} : (KK P).lookup 203 = none := by kernel_rfl
theorem code_203 {P : Params} {s : Shared} (X : (KK P).In s.heap) : isCodeTable s.heap 203 := codeTable_of (a := 205) X (by with_unfolding_all rfl) rfl
theorem in_208 {P : Params} : (KK P).lookup 208 = none := by kernel_rfl
theorem code_208 {P : Params} {s : Shared} (X : (KK P).In s.heap) : isCodeTable s.heap 208 := codeTable_of (a := 212) X (by with_unfolding_all rfl) rfl
theorem in_215 {P : Params} : (KK P).lookup 215 = none := by kernel_rfl
theorem code_215 {P : Params} {s : Shared} (X : (KK P).In s.heap) : isCodeTable s.heap 215 := codeTable_of (a := 217) X (by with_unfolding_all rfl) rfl
theorem in_225 {P : Params} : (KK P).lookup 225 = none := by kernel_rfl
theorem code_225 {P : Params} {s : Shared} (X : (KK P).In s.heap) : isCodeTable s.heap 225 := codeTable_of (a := 227) X (by with_unfolding_all rfl) rfl
theorem in_all {P : Params} : ∀ Q ∈ ([215,208,203,225] : List Addr),(KK P).lookup Q = none := fun Q hQ => by
 rcases List.mem_cons.mp hQ with rfl | hQ
 ·exact in_215
 rcases List.mem_cons.mp hQ with rfl | hQ
 ·exact in_208
 rcases List.mem_cons.mp hQ with rfl | hQ
 ·exact in_203
 rcases List.mem_cons.mp hQ with rfl | hQ
 ·exact in_225
 ·cases hQ
theorem code_all {P : Params} {s : Shared} (X : (KK P).In s.heap) : ∀ Q ∈ ([215,208,203,225] : List Addr),isCodeTable s.heap Q := fun Q hQ => by
 rcases List.mem_cons.mp hQ with rfl | hQ
 ·exact code_215 X
 rcases List.mem_cons.mp hQ with rfl | hQ
 ·exact code_208 X
 rcases List.mem_cons.mp hQ with rfl | hQ
 ·exact code_203 X
 rcases List.mem_cons.mp hQ with rfl | hQ
 ·exact code_225 X
 ·cases hQ
end Mine
set_option maxHeartbeats 8000000 in
set_option tactic.hygienic true in
theorem PySem.Challenge.cw_dn0048_06_holds : PySem.Challenge.rw_dn0048_06.Holds := by
 refine Mine.hd06 ⟨?_,?_⟩
 ·exact Mine.left_of_run (H₀ := boot_heap) (gs₀ := Array.mk []) (d₀ := boot_drawn) (k₀ := boot_toks) (m₀ := 11) (ann := some (.ref 6)) Mine.booted Mine.boot_size (by intro w os; rw [PySem.W.Fast.te14082659384304107361]; kernel_rfl)
 intro w s₀ s₁ mg mb G Y fa o pm cd doc dV kV ho hd hcd hD hmg hg args vals as hpre hlay hrd hwl hlo
 have X := km_in_of Y
 have TT := km_tabs_of Y
 refine Ground.open G ?_
 intro T B D TE TW
 wrow_args hpre hlay hrd hwl hlo
 rename_i ns h1 h2 h3 h4 h5 as1 as2 l vs as3 hL ra hW r0 hI hr hc1 hc2
 have hfa : fa = Mine.a_law := by
  have e := mg_of X T.g (Mine.k_law (P := w.params))
  have e2 : mg (PySem.Str.ofString "law") = some (.ref fa) := hmg
  rw [e2] at e
  injection e with e; injection e with e
 subst hfa
 refine Mine.law_ends [(215,Mine.qsT),(208,Mine.qsM),(203,Mine.qsJ),(225,Mine.qsL)] X (by simpa using TT) (fun Q hQ => Mine.in_all Q hQ) (fun Q hQ => Mine.code_all X Q hQ) (by simp) T.nolimit T.g T.b T.builtins (T.seer (by kernel_rfl)) T.bmain hW hg (fun cls => rfl) (by kernel_rfl) ?_
 intro C items hw hfr hB hA hl hv
 subst hw
 refine (Mine.spec_law (n := 88) (by lia) hB (hA 100 (Nat.le_refl _)) hl hv rfl rfl rfl rfl).mono ?_
 rintro v H' ⟨rfl,hk⟩
 exact ⟨rfl,hk⟩
end
