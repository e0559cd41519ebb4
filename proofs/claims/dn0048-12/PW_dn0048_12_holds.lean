import PyProof.Rows.All
import Wide.All
import OpenK.AllK
import Wide.FinOn
import PyProof.Rows.ListMul
import PyProof.SliceList
import PyProof.Rows.SumAny
import PyProof.ListRange
import PyProof.Rows.StrTemp
import KE.KSortTup
import Lean
import PySem.Challenge.RW_dn0048_12
set_option Elab.async false
set_option tactic.hygienic false
set_option compiler.extract_closed false
set_option bootstrap.genMatcherCode false
set_option maxHeartbeats 8000000
set_option linter.unusedVariables false
set_option linter.unusedSimpArgs false
namespace Mine
@[elab_as_elim] theorem rE {α : Sort _} {a b : α} {P : α → Prop} (h : a = b) (m : P b) : P a := h ▸ m
@[elab_as_elim] theorem rF {α : Sort _} {a b : α} {P : α → Prop} (h : b = a) (m : P b) : P a := h ▸ m
theorem eA  {p q : Prop} {R : Prop} (h : p ∧ q) (f : p → q → R) : R := f h.1 h.2
theorem eE {α0 : Sort _} {p : α0 → Prop} {R : Prop} (h : ∃ w, p w) (f : ∀ w, p w → R) : R := h.elim fun w h => f w h
theorem eAA  {p q r : Prop} {R : Prop} (h : p ∧ q ∧ r) (f : p → q → r → R) : R := f h.1 h.2.1 h.2.2
theorem eEA {α0 : Sort _} {p q : α0 → Prop} {R : Prop} (h : ∃ w, p w ∧ q w) (f : ∀ w, p w → q w → R) : R := h.elim fun w h => f w h.1 h.2
theorem eEE {α0 : Sort _} {α1 : Sort _} {p : α0 → α1 → Prop} {R : Prop} (h : ∃ w v, p w v) (f : ∀ w v, p w v → R) : R := h.elim fun w h => h.elim fun v h => f w v h
theorem eAAA  {p q r s : Prop} {R : Prop} (h : p ∧ q ∧ r ∧ s) (f : p → q → r → s → R) : R := f h.1 h.2.1 h.2.2.1 h.2.2.2
theorem eEAA {α0 : Sort _} {p q r : α0 → Prop} {R : Prop} (h : ∃ w, p w ∧ q w ∧ r w) (f : ∀ w, p w → q w → r w → R) : R := h.elim fun w h => f w h.1 h.2.1 h.2.2
theorem eEEA {α0 : Sort _} {α1 : Sort _} {p q : α0 → α1 → Prop} {R : Prop} (h : ∃ w v, p w v ∧ q w v) (f : ∀ w v, p w v → q w v → R) : R := h.elim fun w h => h.elim fun v h => f w v h.1 h.2
theorem eEEE {α0 : Sort _} {α1 : Sort _} {α2 : Sort _} {p : α0 → α1 → α2 → Prop} {R : Prop} (h : ∃ w v u, p w v u) (f : ∀ w v u, p w v u → R) : R := h.elim fun w h => h.elim fun v h => h.elim fun u h => f w v u h
theorem eAAAA  {p q r s t : Prop} {R : Prop} (h : p ∧ q ∧ r ∧ s ∧ t) (f : p → q → r → s → t → R) : R := f h.1 h.2.1 h.2.2.1 h.2.2.2.1 h.2.2.2.2
theorem eEAAA {α0 : Sort _} {p q r s : α0 → Prop} {R : Prop} (h : ∃ w, p w ∧ q w ∧ r w ∧ s w) (f : ∀ w, p w → q w → r w → s w → R) : R := h.elim fun w h => f w h.1 h.2.1 h.2.2.1 h.2.2.2
theorem eEEAA {α0 : Sort _} {α1 : Sort _} {p q r : α0 → α1 → Prop} {R : Prop} (h : ∃ w v, p w v ∧ q w v ∧ r w v) (f : ∀ w v, p w v → q w v → r w v → R) : R := h.elim fun w h => h.elim fun v h => f w v h.1 h.2.1 h.2.2
theorem eEEEA {α0 : Sort _} {α1 : Sort _} {α2 : Sort _} {p q : α0 → α1 → α2 → Prop} {R : Prop} (h : ∃ w v u, p w v u ∧ q w v u) (f : ∀ w v u, p w v u → q w v u → R) : R := h.elim fun w h => h.elim fun v h => h.elim fun u h => f w v u h.1 h.2
def syn4 : Lean.Syntax := Lean.Unhygienic.run `(Lean.Parser.Tactic.tacticSeq| decide)
def syn3 : Lean.Syntax := Lean.Unhygienic.run `(Lean.Parser.Tactic.tacticSeq| intro _ _; with_unfolding_all rfl)
def syn2 : Lean.Syntax := Lean.Unhygienic.run `(Lean.Parser.Tactic.tacticSeq| intro _; with_unfolding_all rfl)
def syn5 : Lean.Syntax := Lean.Unhygienic.run `(Lean.Parser.Tactic.tacticSeq| kernel_rfl)
def syn1 : Lean.Syntax := Lean.Unhygienic.run `(Lean.Parser.Tactic.tacticSeq| with_unfolding_all rfl)
end Mine
section
namespace Mine
noncomputable section
theorem mid_lt {l k : Nat} (h : l < k) : l + (k - l) / 2 < k := by omega
theorem qbj {l r : Nat} (h : l ≤ r) : l ≤ (l + r) / 2 := by omega
theorem qay {l r : Nat} (h : l < r) : (l + r) / 2 < r := by omega
theorem bin_up {l m k x n : Nat} (a : l ≤ m) (b : k + x ≤ n + l) : k + (x + 1) ≤ n + (m + 1) := by omega
theorem bin_dn {l m k x n : Nat} (a : m < k) (b : k + x ≤ n + l) : m + (x + 1) ≤ n + l := by omega
theorem bin_end {l k n : Nat} (a : l ≤ k) (b : k + n ≤ n + l) : l = k := by omega
theorem go_up {hi f lo m : Nat} (a : lo ≤ m) (h : hi ≤ f + 1 + lo) : hi ≤ f + (m + 1) := by omega
theorem go_dn {hi f lo m : Nat} (a : m < hi) (h : hi ≤ f + 1 + lo) : m ≤ f + lo := by omega
theorem rev_ix {lo m j : Nat} (h : j < m) : lo + (m - 1 - j) = lo + (lo + m) - 1 - (lo + j) := by
 refine eE (Nat.exists_eq_add_of_lt h) fun d zz1 => ?_; subst zz1
 refine rE (Nat.add_sub_cancel ..) (rE (Nat.add_sub_cancel_left ..) ?_)
 exact (Nat.sub_eq_of_eq_add (Nat.sub_eq_of_eq_add (by omega))).symm
theorem sub_next {n j k : Nat} (h : n - (j + 1) = k + 1) : n - (j + 1 + 1) = k := by refine rE (Nat.sub_succ ..) (rE h ?_); rfl
theorem no1 {α : Type} {o : Option α} {c : α} (a : o = none) (b : o = some c) : False := by rw [a] at b; cases b
theorem no2 {α : Type} {o : Option α} {c : α} (a : o = some c) (b : o = none) : False := by rw [a] at b; cases b
end
end Mine
end
section
open PySem PySem.Calls PySem.W PyProof.Rows
set_option maxRecDepth 100000
namespace Mine
noncomputable section
inductive V where
 | con (v : Value)
 | int (i : Int)
 | str (x : Str)
 | tup (l : List V)
 | rng (a b c : Int)
 | imm (o : Obj)
 | fn (name qual : Str) (params : Arguments) (body : PySem.Expr) (scope : Scope) (cl : List (Str × Addr))
 | ref (a : Addr)
noncomputable abbrev V.none : V := .con .none
noncomputable abbrev V.bool (b : Bool) : V := .con (.bool b)
noncomputable abbrev Loc := List (Str × V)
inductive CObj where
 | list (xs : List V)
 | dict (kvs : List (Int × V)) (ep : Nat)
 | set (S : Int → Bool) (n : Nat)
 | cell (v : Option V)
 | inst (C d : Addr) (sl : List (Option V))
 | idict (fs : Loc)
 | liter (l : Addr) (i : Nat)
 | raw (o : Obj)
 | tab (qs : List ((Nat × Nat) × Str))
noncomputable def CObj.tg : CObj → Nat
 | .list _ => 1 | .dict .. => 2 | .set .. => 3 | .cell _ => 4 | .inst .. => 5 | .idict _ => 6 | .liter .. => 7 | .raw _ => 8 | .tab _ => 9
noncomputable def tgO : Option CObj → Nat | none => 0 | some c => c.tg + 1
noncomputable abbrev CH := Addr → Option CObj
theorem ne_at {H : CH} {x y : Addr} {u v : Option CObj} (h2 : H x = u) (h1 : H y = v) (h : Nat.beq (tgO u) (tgO v) = false := by rfl) : x ≠ y := fun e => by
 subst e
 rw [← h2, ← h1, Nat.beq_refl] at h
 cases h
noncomputable def CH.set (H : CH) (a : Addr) (c : CObj) : CH := fun b => if b = a then some c else H b
theorem CH.set_same {H : CH} {a : Addr} {c : CObj} : H.set a c a = some c := by simp [CH.set]
theorem CH.set_ne {H : CH} {a b : Addr} {c : CObj} (h : b ≠ a) : H.set a c b = H b := by simp [CH.set, h]
noncomputable def immCls : List String := ["tuple", "range", "function", "dict_values", "dict_keys", "dict_items", "method-wrapper", "method", "builtin_function_or_method"]
noncomputable def Imm (o : Obj) : Prop := o.isFreed = false ∧ ((∃ T ∈ immCls, o.cls = .type T) ∨ ∃ vs x t, o.data = .fields vs ∧ vs[1]? = some (.str x t)) ∧ (∀ es ep, o.data ≠ .dict es ep) ∧ (∀ v, o.data ≠ .cell v) ∧ ∀ es ep t, o.data ≠ .set es ep t
theorem Imm.tup {items : Array Value} {n : Nat} : Imm (seqObj "tuple" items n) := ⟨rfl, .inl ⟨"tuple", by decide, rfl⟩, (by intro _ _ e; cases e), (by intro _ e; cases e), (by intro _ _ _ e; cases e)⟩
theorem Imm.rng {vs : Array Value} : Imm { cls := .type "range", dict := none, data := .fields vs, slots := #[] } := ⟨rfl, .inl ⟨"range", by decide, rfl⟩, (by intro _ _ e; cases e), (by intro _ e; cases e), (by intro _ _ _ e; cases e)⟩
theorem Imm.fn {fd : FuncData} : Imm { cls := .type "function", data := .func fd } := ⟨rfl, .inl ⟨"function", by decide, rfl⟩, (by intro _ _ e; cases e), (by intro _ e; cases e), (by intro _ _ _ e; cases e)⟩
theorem Imm.code {o : Obj} {vs : Array Value} {x : Str} {t : Tok} (hd : o.data = .fields vs) (h : vs[1]? = some (.str x t)) : Imm o :=
 ⟨Obj.isFreed_of_fields hd, .inr ⟨vs, x, t, hd, h⟩, (by intro _ _ e; rw [hd] at e; cases e), (by intro _ e; rw [hd] at e; cases e), (by intro _ _ _ e; rw [hd] at e; cases e)⟩
mutual
noncomputable def VR (h : Heap) : V → Value → Prop
 | .con c, v => v = c
 | .int i, v => ∃ t, v = .int i t
 | .str x, v => ∃ t, v = .str x t
 | .tup l, v => ∃ a items n, v = .ref a ∧ h.get? a = some (seqObj "tuple" items n) ∧ VRs h l items.toList
 | .rng a b c, v => ∃ r t u w, v = .ref r ∧ h.get? r = some { cls := .type "range", dict := none, data := .fields #[.int a t, .int b u, .int c w], slots := #[] }
 | .imm o, v => Imm o ∧ ∃ a, v = .ref a ∧ h.get? a = some o
 | .fn name qual params body scope cl, v => ∃ a pm c ctv, v = .ref a ∧ h.get? a = some (kla_obj name qual params body scope cl pm c ctv) ∧ h.CodeRec (.ref c) qual
 | .ref a, v => v = .ref a
noncomputable def VRs (h : Heap) : List V → List Value → Prop
 | [], [] => True
 | x :: xs, y :: ys => VR h x y ∧ VRs h xs ys
 | _, _ => False
end
noncomputable def TupKeep (h h' : Heap) : Prop := ∀ b o, Imm o → h.get? b = some o → h'.get? b = some o
theorem TupKeep.rec {h h' : Heap} (k : TupKeep h h') {v : Value} {q : Str} (x : h.CodeRec v q) : h'.CodeRec v q :=
 let ⟨c, o, vs, t, e, g, hd, hv⟩ := x; ⟨c, o, vs, t, e, k _ _ (.code hd hv) g, hd, hv⟩
mutual
theorem VR.keep {h h' : Heap} (k : TupKeep h h') : ∀ {x : V} {v : Value}, VR h x v → VR h' x v
 | .con _, _, r => r
 | .int _, _, r => r
 | .str _, _, r => r
 | .ref _, _, r => r
 | .rng a b c, v, r => by
  unfold VR at r ⊢
  obtain ⟨x, t, u, w, e, ho⟩ := r
  exact ⟨x, t, u, w, e, k _ _ .rng ho⟩
 | .imm o, v, r => by
  unfold VR at r ⊢
  obtain ⟨i, x, e, ho⟩ := r
  exact ⟨i, x, e, k _ _ i ho⟩
 | .fn .., v, r => by
  unfold VR at r ⊢
  obtain ⟨a, pm, c, ctv, e, ho, hc⟩ := r
  exact ⟨a, pm, c, ctv, e, k _ _ .fn ho, k.rec hc⟩
 | .tup l, v, r => by
  unfold VR at r ⊢
  obtain ⟨a, items, n, e, ho, hs⟩ := r
  exact ⟨a, items, n, e, k _ _ .tup ho, VRs.keep k hs⟩
theorem VRs.keep {h h' : Heap} (k : TupKeep h h') : ∀ {xs : List V} {vs : List Value}, VRs h xs vs → VRs h' xs vs
 | [], [], _ => by unfold VRs; trivial
 | [], _ :: _, r => by unfold VRs at r; exact r.elim
 | _ :: _, [], r => by unfold VRs at r; exact r.elim
 | x :: xs, y :: ys, r => by
  unfold VRs at r ⊢
  exact ⟨VR.keep k r.1, VRs.keep k r.2⟩
end
theorem VRs.nil {h : Heap} : VRs h [] [] := by unfold VRs; trivial
theorem VRs.cons {h : Heap} {x : V} {xs : List V} {y : Value} {ys : List Value} (a : VR h x y) (b : VRs h xs ys) : VRs h (x :: xs) (y :: ys) := by unfold VRs; exact ⟨a, b⟩
theorem VRs.head {h : Heap} {x : V} {xs : List V} {y : Value} {ys : List Value} (r : VRs h (x :: xs) (y :: ys)) : VR h x y := by unfold VRs at r; exact r.1
theorem VRs.tail {h : Heap} {x : V} {xs : List V} {y : Value} {ys : List Value} (r : VRs h (x :: xs) (y :: ys)) : VRs h xs ys := by unfold VRs at r; exact r.2
theorem VRs.length {h : Heap} : ∀ {xs : List V} {vs : List Value}, VRs h xs vs → xs.length = vs.length
 | [], [], _ => rfl
 | [], _ :: _, r => by unfold VRs at r; exact r.elim
 | _ :: _, [], r => by unfold VRs at r; exact r.elim
 | _ :: _, _ :: _, r => by refine rE List.length_cons (rE List.length_cons (rE (VRs.length r.tail) rfl))
theorem VRs.nil_inv {h : Heap} {vs : List Value} (r : VRs h [] vs) : vs = [] := by
 cases vs with
 | nil => rfl
 | cons => unfold VRs at r; exact r.elim
theorem VRs.cons_inv {h : Heap} {x : V} {xs : List V} {vs : List Value} (r : VRs h (x :: xs) vs) : ∃ y ys, vs = y :: ys ∧ VR h x y ∧ VRs h xs ys := by
 cases vs with
 | nil => unfold VRs at r; exact r.elim
 | cons y ys => exact ⟨y, ys, rfl, r.head, r.tail⟩
theorem VRs.get {h : Heap} : ∀ {xs : List V} {vs : List Value}, VRs h xs vs → ∀ {i : Nat} {x : V}, xs[i]? = some x → ∃ v, vs[i]? = some v ∧ VR h x v
 | [], _, _, i, x, e => by simp at e
 | x :: xs, vs, r, i, x', e => by
  refine eEEAA r.cons_inv fun y ys zz2 a b => ?_; subst zz2
  cases i with
  | zero => simp at e; subst e; exact ⟨y, by exact List.getElem?_cons_zero, a⟩
  | succ i => simp at e; refine eEA (VRs.get b e) fun v hv q => ?_; exact ⟨v, by assumption, q⟩
theorem VRs.append {h : Heap} : ∀ {xs ys : List V} {vs ws : List Value}, VRs h xs vs → VRs h ys ws → VRs h (xs ++ ys) (vs ++ ws)
 | [], _, vs, _, r, q => by have := r.nil_inv; subst this; exact q
 | x :: xs, _, vs, _, r, q => by
  refine eEEAA r.cons_inv fun y ys zz2 a b => ?_; subst zz2
  exact .cons a (VRs.append b q)
theorem VRs.set {h : Heap} : ∀ {xs : List V} {vs : List Value}, VRs h xs vs → ∀ (i : Nat) {x : V} {v : Value}, VR h x v → VRs h (xs.set i x) (vs.set i v)
 | [], vs, r, i, x, v, _ => by have := r.nil_inv; subst this; exact .nil
 | y :: xs, vs, r, i, x, v, q => by
  refine eEEAA r.cons_inv fun z ys zz2 a b => ?_; subst zz2
  cases i with
  | zero => exact .cons q b
  | succ i => exact .cons a (VRs.set b i q)
theorem VRs.take {h : Heap} : ∀ {xs : List V} {vs : List Value}, VRs h xs vs → ∀ (n : Nat), VRs h (xs.take n) (vs.take n)
 | [], vs, r, n => by have := r.nil_inv; subst this; simpa using VRs.nil
 | y :: xs, vs, r, n => by
  refine eEEAA r.cons_inv fun z ys zz2 a b => ?_; subst zz2
  cases n with
  | zero => exact .nil
  | succ n => exact .cons a (VRs.take b n)
theorem VRs.drop {h : Heap} : ∀ {xs : List V} {vs : List Value}, VRs h xs vs → ∀ (n : Nat), VRs h (xs.drop n) (vs.drop n)
 | [], vs, r, n => by have := r.nil_inv; subst this; simpa using VRs.nil
 | y :: xs, vs, r, n => by
  refine eEEAA r.cons_inv fun z ys zz2 a b => ?_; subst zz2
  cases n with
  | zero => exact .cons a b
  | succ n => exact VRs.drop b n
theorem VRs.eraseIdx {h : Heap} : ∀ {xs : List V} {vs : List Value}, VRs h xs vs → ∀ (n : Nat), VRs h (xs.eraseIdx n) (vs.eraseIdx n)
 | [], vs, r, n => by have := r.nil_inv; subst this; simpa using VRs.nil
 | y :: xs, vs, r, n => by
  refine eEEAA r.cons_inv fun z ys zz2 a b => ?_; subst zz2
  cases n with
  | zero => exact b
  | succ n => exact .cons a (VRs.eraseIdx b n)
noncomputable def OptR (h : Heap) : Option V → Option Value → Prop
 | none, none => True
 | some v, some r => VR h v r
 | _, _ => False
noncomputable def Knows (h : Heap) (m : Loc) (mr : Str → Option Value) : Prop := ∀ x v, m.lookup x = some v → ∃ r, mr x = some r ∧ VR h v r
noncomputable def OptRs (h : Heap) : List (Option V) → List (Option Value) → Prop
 | [], [] => True
 | a :: as, b :: bs => OptR h a b ∧ OptRs h as bs
 | _, _ => False
noncomputable def EsR (h : Heap) : Loc → List DictEntry → Prop
 | [], [] => True
 | (x, v) :: fs, e :: es => (∃ t, e.key = .str x t) ∧ VR h v e.val ∧ EsR h fs es
 | _, _ => False
structure Cx where
 prog : Program
 w : World
 h₀ : Heap
 env : Env
 fr : List Env
noncomputable def ORep (C : Cx) (h : Heap) : CObj → Obj → Prop
 | .list xs, o => ∃ items n, o = seqObj "list" items n ∧ VRs h xs items.toList
 | .dict kvs ep, o => o.ExactDict ∧ ∃ es rs, o.data = .dict es ep ∧ KeysOf (intKind C.prog C.w) es ∧ Pairs (intKind C.prog C.w) es.toList ((kvs.map (·.1)).zip rs) ∧ (kvs.map (·.1)).Nodup ∧ VRs h (kvs.map (·.2)) rs
 | .set S n, o => o.ExactSet ∧ ∃ es ep t, o.data = .set es ep t ∧ ElemsOf (intKind C.prog C.w) es.toList ∧ (∀ k, S k = true ↔ ∃ e ∈ es.toList, (intKind C.prog C.w).is k e.2 = true) ∧ es.size < scanBound ∧ t.fits es.size = true ∧ es.size = n
 | .cell v, o => ∃ r, o.data = .cell r ∧ OptR h v r
 | .inst K d sl, o => ∃ rs : Array (Option Value), o = { cls := .ref K, dict := some d, data := .plain, slots := rs } ∧ OptRs h sl rs.toList
 | .idict fs, o => ∃ es n, o = dictOf es n ∧ EsR h fs es
 | .liter l i, o => o = { cls := .type "list_iterator", data := .fields #[.ref l, .int i 0] }
 | .raw o', o => o = o' ∧ o.isFreed = false ∧ ¬ Imm o
 | .tab qs, o => ∃ ps, o = tabObj ps ∧ TriplesOk ps.toList ∧ ∀ pos cv, codeAmong pos ps.toList = some cv → ∀ q, qs.lookup (pos.line, pos.col) = some q → h.CodeRec cv q
theorem Knows.keep {h h' : Heap} (k : TupKeep h h') {m : Loc} {mr : Str → Option Value} (x : Knows h m mr) : Knows h' m mr := fun n v e =>
 let ⟨r, a, b⟩ := x n v e; ⟨r, a, b.keep k⟩
theorem OptR.keep {h h' : Heap} (k : TupKeep h h') : ∀ {v : Option V} {r : Option Value}, OptR h v r → OptR h' v r
 | none, none, _ => trivial
 | some _, some _, x => VR.keep k x
 | none, some _, x => x.elim
 | some _, none, x => x.elim
theorem OptRs.keep {h h' : Heap} (k : TupKeep h h') : ∀ {a : List (Option V)} {b : List (Option Value)}, OptRs h a b → OptRs h' a b
 | [], [], _ => trivial
 | _ :: _, _ :: _, x => ⟨x.1.keep k, x.2.keep k⟩
 | [], _ :: _, x => x.elim
 | _ :: _, [], x => x.elim
theorem EsR.keep {h h' : Heap} (k : TupKeep h h') : ∀ {a : Loc} {b : List DictEntry}, EsR h a b → EsR h' a b
 | [], [], _ => trivial
 | (_, _) :: _, _ :: _, x => ⟨x.1, x.2.1.keep k, x.2.2.keep k⟩
 | [], _ :: _, x => x.elim
 | _ :: _, [], x => x.elim
theorem ORep.keep {C : Cx} {h h' : Heap} (k : TupKeep h h') {c : CObj} {o : Obj} (x : ORep C h c o) : ORep C h' c o := by
 cases c with
 | list xs => obtain ⟨items, n, e, r⟩ := x; exact ⟨items, n, e, r.keep k⟩
 | dict kvs ep => obtain ⟨a, es, rs, b, c, d, e, r⟩ := x; exact ⟨a, es, rs, b, c, d, e, r.keep k⟩
 | set S n => exact x
 | cell v => obtain ⟨r, e, q⟩ := x; exact ⟨r, e, q.keep k⟩
 | inst K d sl => obtain ⟨rs, e, r⟩ := x; exact ⟨rs, e, r.keep k⟩
 | idict fs => obtain ⟨es, n, e, r⟩ := x; exact ⟨es, n, e, r.keep k⟩
 | liter l i => exact x
 | raw o' => exact x
 | tab qs => obtain ⟨ps, e, ht, hq⟩ := x; exact ⟨ps, e, ht, fun pos cv e q hl => k.rec (hq pos cv e q hl)⟩
theorem triples_no_str {l : List Value} (h : TriplesOk l) : ∀ x t, l[1]? ≠ some (.str x t) := by
 intro x t e
 rcases l with _ | ⟨a, _ | ⟨b, r⟩⟩
 ·cases e
 ·cases e
 ·obtain rfl : b = .str x t := Option.some.inj e
  cases a <;> exact h
theorem ORep.not_imm {C : Cx} {h : Heap} {c : CObj} {o : Obj} (x : ORep C h c o) : ¬ Imm o := fun ⟨hfr, hcl, hd, hce, hs⟩ => by
 have key : ∀ {T : String}, o.cls = .type T → immCls.contains T = false → (∀ vs x t, o.data = .fields vs → vs[1]? ≠ some (.str x t)) → False := fun {T} hc hn hv => by
  rcases hcl with ⟨T', hT', hc'⟩ | ⟨vs, x, t, e, h⟩
  ·rw [hc] at hc'; cases hc'
   have : immCls.contains T = true := List.contains_iff_mem.mpr hT'
   rw [hn] at this; cases this
  ·exact hv vs x t e h
 have key2 : (∀ T, o.cls ≠ .type T) → (∀ vs x t, o.data = .fields vs → vs[1]? ≠ some (.str x t)) → False := fun hn hv => by
  rcases hcl with ⟨T', hT', hc'⟩ | ⟨vs, x, t, e, h⟩
  ·exact hn _ hc'
  ·exact hv vs x t e h
 cases c with
 | list xs => obtain ⟨items, n, rfl, _⟩ := x; exact key rfl (by decide) (by intro _ _ _ e; cases e)
 | dict kvs ep => obtain ⟨_, es, rs, b, _⟩ := x; exact hd _ _ b
 | set S n => obtain ⟨_, es, ep, t, b, _⟩ := x; exact hs _ _ _ b
 | cell v => obtain ⟨r, b, _⟩ := x; exact hce _ b
 | inst K d sl => obtain ⟨rs, rfl, _⟩ := x; exact key2 (by intro _ e; cases e) (by intro _ _ _ e; cases e)
 | idict fs => obtain ⟨es, n, rfl, _⟩ := x; exact hd _ _ rfl
 | liter l i => unfold ORep at x; subst x; exact key (T := "list_iterator") rfl (by decide) (by intro _ _ _ e; cases e; intro q; cases q)
 | raw o' => exact x.2.2 ⟨hfr, hcl, hd, hce, hs⟩
 | tab qs => obtain ⟨ps, rfl, ht, _⟩ := x; exact key2 (by intro _ e; cases e) (by intro _ _ _ e; cases e; simpa using triples_no_str ht _ _)
theorem ORep.not_freed {C : Cx} {h : Heap} {c : CObj} {o : Obj} (x : ORep C h c o) : o.isFreed = false := by
 cases c with
 | list xs => obtain ⟨items, n, rfl, _⟩ := x; rfl
 | dict kvs ep => obtain ⟨_, es, rs, b, _⟩ := x; obtain ⟨c, d, dt, sl⟩ := o; subst b; rfl
 | set S n => obtain ⟨_, es, ep, t, b, _⟩ := x; obtain ⟨c, d, dt, sl⟩ := o; subst b; rfl
 | cell v => obtain ⟨r, b, _⟩ := x; obtain ⟨c, d, dt, sl⟩ := o; subst b; rfl
 | inst K d sl => obtain ⟨rs, rfl, _⟩ := x; rfl
 | idict fs => obtain ⟨es, n, rfl, _⟩ := x; rfl
 | liter l i => unfold ORep at x; subst x; rfl
 | raw o' => exact x.2.1
 | tab qs => obtain ⟨ps, rfl, _⟩ := x; rfl
noncomputable def Kin (o o' : Obj) : Prop := o' = o ∨ ((∃ es ep, o.data = .dict es ep) ∧ o'.data = o.data)
theorem Kin.refl (o : Obj) : Kin o o := .inl rfl
theorem Kin.trans {a b c : Obj} (x : Kin a b) (y : Kin b c) : Kin a c := by
 rcases x with rfl | ⟨⟨es, ep, hd⟩, e⟩
 ·exact y
 ·rcases y with rfl | ⟨_, e'⟩
  ·exact .inr ⟨⟨es, ep, hd⟩, e⟩
  ·exact .inr ⟨⟨es, ep, hd⟩, e'.trans e⟩
theorem Kin.exact {o o' : Obj} (x : Kin o o') (h : ∀ es ep, o.data ≠ .dict es ep) : o' = o := x.elim id fun ⟨⟨es, ep, e⟩, _⟩ => absurd e (h es ep)
theorem Kin.data {o o' : Obj} (x : Kin o o') : o'.data = o.data := by
 rcases x with rfl | ⟨_, e⟩
 ·rfl
 ·exact e
structure HS (C : Cx) (H : CH) (s : Shared) : Prop where
 base : ∀ b o, C.h₀.get? b = some o → s.heap.get? b = some o
 own : ∀ a c, H a = some c → C.h₀.get? a = none ∧ ∃ o, s.heap.get? a = some o ∧ ORep C s.heap c o
 gens : s.gens = #[]
theorem HS.base_none {C : Cx} {H : CH} {s : Shared} (S : HS C H s) {a : Addr} (h : s.heap.get? a = none) : C.h₀.get? a = none := by
 cases q : C.h₀.get? a with
 | none => rfl
 | some o => exact (no2 (S.base a o q) h).elim
theorem HS.own_none {C : Cx} {H : CH} {s : Shared} (S : HS C H s) {a : Addr} (h : s.heap.get? a = none) : H a = none := by
 cases q : H a with
 | none => rfl
 | some c => obtain ⟨_, o, e, _⟩ := S.own a c q; exact (no1 h e).elim
inductive FrameOk (h₀ : Heap) (H : CH) (h : Heap) (e : Env) : Prop
 | mk (a1 : e.scope.kind = .function) (a2 : e.scope.isGenerator = false) (a3 : e.scope.isCoroutine = false) (f : Addr) (o : Obj) (es : Array DictEntry) (ep : Nat) (hf : e.frame = some f) (ho : h.get? f = some o) (hd : o.data = .dict es ep) (hn : H f = none) (hb : h₀.get? f = none)
noncomputable def Frs (C : Cx) (H : CH) (s : Shared) : Prop := ∀ e ∈ C.fr, FrameOk C.h₀ H s.heap e
structure St (C : Cx) (m : Loc) (H : CH) (s : Shared) : Prop extends HS C H s where
 ns : ∃ mr, s.heap.Ns C.env.locals mr ∧ Knows s.heap m mr
 loc : H C.env.locals = none
 locb : C.h₀.get? C.env.locals = none
 frs : Frs C H s
structure AfterC (H : CH) (s : Shared) (H' : CH) (s' : Shared) : Prop where
 stay : ∀ b o, H b = none → s.heap.get? b = some o → ∃ o', s'.heap.get? b = some o' ∧ Kin o o'
 grow : ∀ b o, H b = none → s.heap.get? b = some o → H' b = none
 there : ∀ b o, s.heap.get? b = some o → ∃ o', s'.heap.get? b = some o'
 drawn : () = ()
 os : s'.os = s.os
structure After (C : Cx) (H : CH) (s : Shared) (H' : CH) (s' : Shared) : Prop where
 stay : ∀ b o, b ≠ C.env.locals → H b = none → s.heap.get? b = some o → ∃ o', s'.heap.get? b = some o' ∧ Kin o o'
 grow : ∀ b o, H b = none → s.heap.get? b = some o → H' b = none
 there : ∀ b o, s.heap.get? b = some o → ∃ o', s'.heap.get? b = some o'
 drawn : () = ()
 os : s'.os = s.os
theorem AfterC.there_none {H H' : CH} {s s' : Shared} (x : AfterC H s H' s') {a : Addr} (h : s'.heap.get? a = none) : s.heap.get? a = none := by
 cases q : s.heap.get? a with
 | none => rfl
 | some o => refine eE (x.there a o q) fun o' e => ?_; exact (no1 h e).elim
theorem After.there_none {C : Cx} {H H' : CH} {s s' : Shared} (x : After C H s H' s') {a : Addr} (h : s'.heap.get? a = none) : s.heap.get? a = none := by
 cases q : s.heap.get? a with
 | none => rfl
 | some o => refine eE (x.there a o q) fun o' e => ?_; exact (no1 h e).elim
theorem AfterC.after {C : Cx} {H H' : CH} {s s' : Shared} (a : AfterC H s H' s') : After C H s H' s' := ⟨fun b o _ => a.stay b o, a.grow, a.there, a.drawn, a.os⟩
theorem AfterC.refl (H : CH) (s : Shared) : AfterC H s H s := ⟨fun _ o _ e => ⟨o, e, .refl o⟩, fun _ _ h _ => h, fun _ o e => ⟨o, e⟩, rfl, rfl⟩
theorem AfterC.trans {H₁ H₂ H₃ : CH} {s₁ s₂ s₃ : Shared} (a : AfterC H₁ s₁ H₂ s₂) (b : AfterC H₂ s₂ H₃ s₃) : AfterC H₁ s₁ H₃ s₃ where
 stay := fun x o hn e =>
  let ⟨o₁, e₁, k₁⟩ := a.stay x o hn e
  let ⟨o₂, e₂, k₂⟩ := b.stay x o₁ (a.grow x o hn e) e₁
  ⟨o₂, e₂, k₁.trans k₂⟩
 grow := fun x o hn e => let ⟨o₁, e₁, _⟩ := a.stay x o hn e; b.grow x o₁ (a.grow x o hn e) e₁
 there := fun x o e => let ⟨o₁, e₁⟩ := a.there x o e; b.there x o₁ e₁
 drawn := b.drawn.trans a.drawn
 os := b.os.trans a.os
theorem HS.not_imm {C : Cx} {H : CH} {s : Shared} (S : HS C H s) {a : Addr} {o : Obj} (i : Imm o) (e : s.heap.get? a = some o) : H a = none := by
 cases h : H a with
 | none => rfl
 | some c =>
  obtain ⟨_, o', ho, r⟩ := S.own a c h
  rw [e] at ho; cases ho
  exact absurd i r.not_imm
theorem AfterC.tup {C : Cx} {H H' : CH} {s s' : Shared} (S : HS C H s) (a : AfterC H s H' s') : TupKeep s.heap s'.heap := fun b o i e => by
 refine eEA (a.stay b _ (S.not_imm i e) e) fun o' e' k => ?_
 rw [k.exact i.2.2.1] at e'; exact e'
theorem St.not_imm {C : Cx} {m : Loc} {H : CH} {s : Shared} (S : St C m H s) {a : Addr} {o : Obj} (i : Imm o) (e : s.heap.get? a = some o) : H a = none ∧ a ≠ C.env.locals := by
 refine ⟨S.toHS.not_imm i e, ?_⟩
 rintro rfl
 refine eEA S.ns fun mr zz1 _ => ?_; obtain ⟨o', es, ep, ho, hd, _⟩ := zz1
 rw [e] at ho; cases ho; exact i.2.2.1 _ _ hd
theorem After.tup {C : Cx} {m : Loc} {H H' : CH} {s s' : Shared} (S : St C m H s) (a : After C H s H' s') : TupKeep s.heap s'.heap := fun b o i e => by
 refine eEA (a.stay b _ (S.not_imm i e).2 (S.not_imm i e).1 e) fun o' e' k => ?_
 rw [k.exact i.2.2.1] at e'; exact e'
theorem After.refl (C : Cx) (H : CH) (s : Shared) : After C H s H s := (AfterC.refl H s).after
theorem St.at_loc {C : Cx} {m : Loc} {H : CH} {s : Shared} (S : St C m H s) : ∃ o, s.heap.get? C.env.locals = some o := by
 refine eEA S.ns fun mr zz1 _ => ?_; obtain ⟨o, es, ep, ho, _⟩ := zz1; exact ⟨o, ho⟩
theorem After.then {C : Cx} {m' : Loc} {H₁ H₂ H₃ : CH} {s₁ s₂ s₃ : Shared} (S₂ : St C m' H₂ s₂) (a : After C H₁ s₁ H₂ s₂) (b : After C H₂ s₂ H₃ s₃) : After C H₁ s₁ H₃ s₃ where
 stay := fun x o hx hn e =>
  let ⟨o₁, e₁, k₁⟩ := a.stay x o hx hn e
  let ⟨o₂, e₂, k₂⟩ := b.stay x o₁ hx (a.grow x o hn e) e₁
  ⟨o₂, e₂, k₁.trans k₂⟩
 grow := fun x o hn e => by
  by_cases hx : x = C.env.locals
  ·subst hx
   refine eE S₂.at_loc fun o' e' => ?_
   exact b.grow _ o' (a.grow _ o hn e) e'
  ·refine eEA (a.stay x o hx hn e) fun o₁ e₁ _ => ?_
   exact b.grow x o₁ (a.grow x o hn e) e₁
 there := fun x o e => let ⟨o₁, e₁⟩ := a.there x o e; b.there x o₁ e₁
 drawn := b.drawn.trans a.drawn
 os := b.os.trans a.os
theorem Frs.keep {C : Cx} {H H' : CH} {s s' : Shared} (F : Frs C H s) (hs : ∀ b o es ep, C.h₀.get? b = none → H b = none → s.heap.get? b = some o → o.data = .dict es ep → H' b = none ∧ ∃ o', s'.heap.get? b = some o' ∧ o'.data = o.data) : Frs C H' s' := fun e he => by
 obtain ⟨a1, a2, a3, f, o, es, ep, hf, ho, hd, hn, hb⟩ := F e he
 obtain ⟨hn', o', ho', hd'⟩ := hs f o es ep hb hn ho hd
 exact ⟨a1, a2, a3, f, o', es, ep, hf, ho', hd'.trans hd, hn', hb⟩
theorem Frs.after {C : Cx} {H H' : CH} {s s' : Shared} (F : Frs C H s) (a : AfterC H s H' s') : Frs C H' s' := F.keep fun b o _ _ _ hn e _ =>
 let ⟨o', e', k⟩ := a.stay b o hn e; ⟨a.grow b o hn e, o', e', k.data⟩
theorem St.toks {C : Cx} {m : Loc} {H : CH} {s : Shared} (S : St C m H s) (tk : Nat) : St C m H { s with toks := tk } := ⟨⟨S.base, S.own, S.gens⟩, S.ns, S.loc, S.locb, S.frs⟩
theorem AfterC.toks {H : CH} (s : Shared) (tk : Nat) : AfterC H s H { s with toks := tk } := ⟨fun _ o _ e => ⟨o, e, .refl o⟩, fun _ _ h _ => h, fun _ o e => ⟨o, e⟩, rfl, rfl⟩
theorem After.toks {C : Cx} {H : CH} (s : Shared) (tk : Nat) : After C H s H { s with toks := tk } := (AfterC.toks s tk).after
theorem St.known {C : Cx} {m : Loc} {H : CH} {s : Shared} (S : St C m H s) {x : Str} {v : V} (e : m.lookup x = some v) : ∃ mr r, s.heap.Ns C.env.locals mr ∧ mr x = some r ∧ VR s.heap v r := by
 refine eEA S.ns fun mr hn k => ?_
 obtain ⟨r, a, b⟩ := k x v e
 exact ⟨mr, r, hn, a, b⟩
theorem St.sub {C : Cx} {m m' : Loc} {H : CH} {s : Shared} (S : St C m H s) (h : ∀ x v, m'.lookup x = some v → m.lookup x = some v) : St C m' H s :=
 ⟨S.toHS, let ⟨mr, hn, k⟩ := S.ns; ⟨mr, hn, fun x v e => k x v (h x v e)⟩, S.loc, S.locb, S.frs⟩
theorem TupKeep.push (h : Heap) (o : Obj) : TupKeep h (h.push o) := fun _ _ _ e => Heap.get?_push_of_some o e
theorem TupKeep.trans {h₁ h₂ h₃ : Heap} (a : TupKeep h₁ h₂) (b : TupKeep h₂ h₃) : TupKeep h₁ h₃ := fun x o i e => b x o i (a x o i e)
theorem TupKeep.of_keep {h h' : Heap} (k : ∀ b o, h.get? b = some o → h'.get? b = some o) : TupKeep h h' := fun b _ _ e => k b _ e
theorem HS.more {C : Cx} {H : CH} {s : Shared} (S : HS C H s) {h' : Heap} {tk : Nat} (k : ∀ b o, s.heap.get? b = some o → h'.get? b = some o) : HS C H { s with heap := h', toks := tk } where
 base := fun b o e => k b o (S.base b o e)
 own := fun a c e => let ⟨x, o, ho, r⟩ := S.own a c e; ⟨x, o, k a o ho, r.keep (.of_keep k)⟩
 gens := S.gens
theorem St.more {C : Cx} {m : Loc} {H : CH} {s : Shared} (S : St C m H s) {h' : Heap} {tk : Nat} (k : ∀ b o, s.heap.get? b = some o → h'.get? b = some o) : St C m H { s with heap := h', toks := tk } where
 toHS := S.toHS.more k
 ns := let ⟨mr, hn, kn⟩ := S.ns; ⟨mr, hn.keeps k, kn.keep (.of_keep k)⟩
 loc := S.loc
 locb := S.locb
 frs := S.frs.keep fun b o _ _ _ hn e _ => ⟨hn, o, k b o e, rfl⟩
theorem AfterC.more {H : CH} {s : Shared} {h' : Heap} {tk : Nat} (k : ∀ b o, s.heap.get? b = some o → h'.get? b = some o) : AfterC H s H { s with heap := h', toks := tk } :=
 ⟨fun b o _ e => ⟨o, k b o e, .refl o⟩, fun _ _ h _ => h, fun b o e => ⟨o, k b o e⟩, rfl, rfl⟩
theorem After.more {C : Cx} {H : CH} {s : Shared} {h' : Heap} {tk : Nat} (k : ∀ b o, s.heap.get? b = some o → h'.get? b = some o) : After C H s H { s with heap := h', toks := tk } := (AfterC.more k).after
theorem qae (h : Heap) (o : Obj) : ∀ b o', h.get? b = some o' → (h.push o).get? b = some o' := fun _ _ e => Heap.get?_push_of_some o e
theorem HS.alloc {C : Cx} {H : CH} {s : Shared} (S : HS C H s) {o : Obj} {c : CObj} {tk : Nat} (r : ORep C s.heap c o) : HS C (H.set s.heap.objs.size c) { s with heap := s.heap.push o, toks := tk } where
 base := fun b o' e => qae _ _ b o' (S.base b o' e)
 own := fun a c' e => by
  by_cases h : a = s.heap.objs.size
  ·subst h
   rw [CH.set_same] at e; cases e
   refine ⟨?_, o, Heap.get?_push_size _ r.not_freed, r.keep (.push _ _)⟩
   cases q : C.h₀.get? s.heap.objs.size with
   | none => rfl
   | some o' => exact absurd (Heap.lt_size (S.base _ _ q)) (Nat.lt_irrefl _)
  ·rw [CH.set_ne h] at e
   obtain ⟨x, o', ho, r'⟩ := S.own a c' e
   exact ⟨x, o', qae _ _ a o' ho, r'.keep (.push _ _)⟩
 gens := S.gens
theorem St.alloc {C : Cx} {m : Loc} {H : CH} {s : Shared} (S : St C m H s) {o : Obj} {c : CObj} {tk : Nat} (r : ORep C s.heap c o) : St C m (H.set s.heap.objs.size c) { s with heap := s.heap.push o, toks := tk } where
 toHS := S.toHS.alloc r
 ns := let ⟨mr, hn, kn⟩ := S.ns; ⟨mr, hn.keeps (qae _ _), kn.keep (.push _ _)⟩
 loc := by
  refine eE S.at_loc fun o' e => ?_
  refine rE (CH.set_ne (Nat.ne_of_lt (Heap.lt_size e))) ?_; exact S.loc
 locb := S.locb
 frs := S.frs.keep fun b o' _ _ _ hn e _ => ⟨by refine rE (CH.set_ne (Nat.ne_of_lt (Heap.lt_size e))) ?_; exact hn, o', qae _ _ b o' e, rfl⟩
theorem AfterC.alloc {H : CH} {s : Shared} {o : Obj} {c : CObj} {tk : Nat} : AfterC H s (H.set s.heap.objs.size c) { s with heap := s.heap.push o, toks := tk } where
 stay := fun b o' _ e => ⟨o', qae _ _ b o' e, .refl o'⟩
 grow := fun b o' hn e => by refine rE (CH.set_ne (Nat.ne_of_lt (Heap.lt_size e))) ?_; exact hn
 there := fun b o' e => ⟨o', qae _ _ b o' e⟩
 drawn := rfl
 os := rfl
theorem After.alloc {C : Cx} {H : CH} {s : Shared} {o : Obj} {c : CObj} {tk : Nat} : After C H s (H.set s.heap.objs.size c) { s with heap := s.heap.push o, toks := tk } := AfterC.alloc.after
theorem HS.fresh {C : Cx} {H : CH} {s : Shared} (S : HS C H s) : H s.heap.objs.size = none := by
 cases h : H s.heap.objs.size with
 | none => rfl
 | some c => obtain ⟨_, o, ho, _⟩ := S.own _ _ h; exact absurd (Heap.lt_size ho) (Nat.lt_irrefl _)
theorem HS.freshb {C : Cx} {H : CH} {s : Shared} (S : HS C H s) : C.h₀.get? s.heap.objs.size = none := by
 cases q : C.h₀.get? s.heap.objs.size with
 | none => rfl
 | some o' => exact absurd (Heap.lt_size (S.base _ _ q)) (Nat.lt_irrefl _)
theorem HS.upd {C : Cx} {H : CH} {s : Shared} (S : HS C H s) {a : Addr} {c c' : CObj} (hc : H a = some c) {h' : Heap} {o' : Obj} {tk : Nat} (hs : Heap.SameBut a s.heap h') (ho : h'.get? a = some o') (r : ORep C s.heap c' o') :
  HS C (H.set a c') { s with heap := h', toks := tk } ∧ TupKeep s.heap h' := by
 obtain ⟨ha0, oa, hoa, ra⟩ := S.own a c hc
 have k : ∀ b o, b ≠ a → s.heap.get? b = some o → h'.get? b = some o := fun b o hb e => (hs.2 b hb).trans e
 have tk' : TupKeep s.heap h' := fun b o i e => k b _ (fun q => by subst q; rw [hoa] at e; cases e; exact ra.not_imm i) e
 refine ⟨⟨fun b o e => k b o (fun q => by subst q; exact (no1 ha0 e).elim) (S.base b o e), fun b d e => ?_, S.gens⟩, tk'⟩
 by_cases h : b = a
 ·subst h; rw [CH.set_same] at e; cases e; exact ⟨ha0, o', ho, r.keep tk'⟩
 ·rw [CH.set_ne h] at e
  obtain ⟨x, o, hob, rb⟩ := S.own b d e
  exact ⟨x, o, k b o h hob, rb.keep tk'⟩
theorem St.upd {C : Cx} {m : Loc} {H : CH} {s : Shared} (S : St C m H s) {a : Addr} {c c' : CObj} (hc : H a = some c) {h' : Heap} {o' : Obj} {tk : Nat} (hs : Heap.SameBut a s.heap h') (ho : h'.get? a = some o') (r : ORep C s.heap c' o') :
  St C m (H.set a c') { s with heap := h', toks := tk } := by
 have hne : C.env.locals ≠ a := fun e => by rw [← e, S.loc] at hc; cases hc
 refine eA (S.toHS.upd (tk := tk) hc hs ho r) fun hS tk' => ?_
 refine ⟨hS, ?_, ?_, S.locb, S.frs.keep fun b o _ _ _ hn e _ => ?_⟩
 ·refine eEA S.ns fun mr hn kn => ?_; exact ⟨mr, hn.sameBut hs hne, kn.keep tk'⟩
 ·show H.set a c' C.env.locals = none; refine rE (CH.set_ne hne) ?_; exact S.loc
 ·have hb : b ≠ a := fun q => by subst q; exact (no1 hn hc).elim
  exact ⟨by refine rE (CH.set_ne hb) ?_; exact hn, o, (hs.2 b hb).trans e, rfl⟩
theorem AfterC.upd {H : CH} {s : Shared} {a : Addr} {c c' : CObj} (hc : H a = some c) {h' : Heap} {tk : Nat} (hs : Heap.SameBut a s.heap h') {o' : Obj} (ho : h'.get? a = some o') : AfterC H s (H.set a c') { s with heap := h', toks := tk } where
 stay := fun b o hn e => ⟨o, (hs.2 b (fun q => by subst q; exact (no1 hn hc).elim)).trans e, .refl o⟩
 grow := fun b o hn _ => by refine rE (CH.set_ne (fun q => by subst q; exact (no1 hn hc).elim)) ?_; exact hn
 there := fun b o e => by
  by_cases q : b = a
  ·subst q; exact ⟨o', ho⟩
  ·exact ⟨o, (hs.2 b q).trans e⟩
 drawn := rfl
 os := rfl
theorem After.upd {C : Cx} {H : CH} {s : Shared} {a : Addr} {c c' : CObj} (hc : H a = some c) {h' : Heap} {tk : Nat} (hs : Heap.SameBut a s.heap h') {o' : Obj} (ho : h'.get? a = some o') : After C H s (H.set a c') { s with heap := h', toks := tk } := (AfterC.upd hc hs ho).after
theorem St.hid {C : Cx} {m : Loc} {H : CH} {s : Shared} (S : St C m H s) {a : Addr} {oa : Obj} (ha : s.heap.get? a = some oa) (hH : H a = none) (hb : C.h₀.get? a = none) (hd : ∀ es ep, oa.data ≠ .dict es ep) (ht : ¬ Imm oa) {h' : Heap} {tk : Nat}
  (hs : Heap.ExtBut a s.heap h') : St C m H { s with heap := h', toks := tk } := by
 have hl : a ≠ C.env.locals := fun e => by
  subst e
  refine eEA S.ns fun mr zz1 _ => ?_; obtain ⟨o, es, ep, ho, hd', _⟩ := zz1
  rw [ha] at ho; cases ho; exact hd _ _ hd'
 have tk' : TupKeep s.heap h' := fun b o i e => hs b _ (fun q => by subst q; rw [ha] at e; cases e; exact ht i) e
 refine ⟨⟨fun b o e => hs b o (fun q => by subst q; exact (no1 hb e).elim) (S.base b o e), fun b d e => ?_, S.gens⟩, ?_, S.loc, S.locb, S.frs.keep fun b o es ep _ hn e hde => ?_⟩
 ·obtain ⟨x, o, hob, rb⟩ := S.own b d e
  exact ⟨x, o, hs b o (fun q => by subst q; exact (no1 hH e).elim) hob, rb.keep tk'⟩
 ·refine eEA S.ns fun mr hn kn => ?_; exact ⟨mr, hn.extBut hs (Ne.symm hl), kn.keep tk'⟩
 ·exact ⟨hn, o, hs b o (fun q => by subst q; rw [ha] at e; cases e; exact hd _ _ hde) e, rfl⟩
theorem After.hid {C : Cx} {H H' : CH} {s s' : Shared} (a : After C H s H' s') {I : Addr} (hI : s.heap.get? I = none) {h' : Heap} {tk : Nat} (hs : Heap.ExtBut I s'.heap h') : After C H s H' { s' with heap := h', toks := tk } where
 stay := fun b o hb hn e => let ⟨o', e', k⟩ := a.stay b o hb hn e; ⟨o', hs b o' (fun q => by subst q; exact (no1 hI e).elim) e', k⟩
 grow := a.grow
 there := fun b o e => let ⟨o', e'⟩ := a.there b o e; ⟨o', hs b o' (fun q => by subst q; exact (no1 hI e).elim) e'⟩
 drawn := a.drawn
 os := a.os
theorem St.store {C : Cx} {m : Loc} {H : CH} {s : Shared} (S : St C m H s) {x : Str} {v : V} {r : Value} (hv : VR s.heap v r) {mr : Str → Option Value} (hk : Knows s.heap m mr) {h' : Heap} {tk : Nat}
  (hn : h'.Ns C.env.locals (fun y => if y = x then some r else mr y)) (hs : Heap.SameBut C.env.locals s.heap h') : St C ((x, v) :: m) H { s with heap := h', toks := tk } := by
 have tk' : TupKeep s.heap h' := fun b o i e => (hs.2 b (S.not_imm i e).2).trans e
 refine ⟨⟨fun b o e => (hs.2 b (fun q => by subst q; exact (no1 (S.locb) e).elim)).trans (S.base b o e), fun b d e => ?_, S.gens⟩, ⟨_, hn, fun y w e => ?_⟩, S.loc, S.locb, fun e he => ?_⟩
 ·obtain ⟨z, o, hob, rb⟩ := S.own b d e
  exact ⟨z, o, (hs.2 b (fun q => by subst q; exact (no1 (S.loc) e).elim)).trans hob, rb.keep tk'⟩
 ·rw [List.lookup_cons] at e
  by_cases hy : y = x
  ·subst hy
   simp only [beq_self_eq_true] at e; cases e
   exact ⟨r, by exact if_pos rfl, hv.keep tk'⟩
  ·have hb : (y == x) = false := beq_eq_false_iff_ne.mpr hy
   simp only [hb] at e
   obtain ⟨r', a, b⟩ := hk y w e
   exact ⟨r', by simp [hy, a], b.keep tk'⟩
 ·obtain ⟨a1, a2, a3, f, o, es, ep, hf, ho, hd, hn', hb⟩ := S.frs e he
  by_cases hfl : f = C.env.locals
  ·subst hfl
   obtain ⟨o', es', ep', ho', hd', _⟩ := hn
   exact ⟨a1, a2, a3, _, o', es', ep', hf, ho', hd', hn', hb⟩
  ·exact ⟨a1, a2, a3, f, o, es, ep, hf, (hs.2 f hfl).trans ho, hd, hn', hb⟩
theorem After.store {C : Cx} {H : CH} {s : Shared} {h' : Heap} {tk : Nat} {mr : Str → Option Value} (hn : h'.Ns C.env.locals mr) (hs : Heap.SameBut C.env.locals s.heap h') : After C H s H { s with heap := h', toks := tk } :=
 ⟨fun b o hb _ e => ⟨o, (hs.2 b hb).trans e, .refl o⟩, fun _ _ h _ => h, fun b o e => by
  by_cases q : b = C.env.locals
  ·subst q; obtain ⟨o', es, ep, ho, _⟩ := hn; exact ⟨o', ho⟩
  ·exact ⟨o, (hs.2 b q).trans e⟩, rfl, rfl⟩
noncomputable def CH.Le (H H' : CH) : Prop := ∀ a c, H a = some c → H' a = some c
theorem CH.Le.absent {H H' : CH} (l : H.Le H') {a : Addr} (h : H' a = Option.none) : H a = Option.none := by
 cases e : H a with
 | none => rfl
 | some c => exact (no2 (l a c e) h).elim
theorem HS.less {C : Cx} {H H' : CH} {s : Shared} (S : HS C H' s) (l : H.Le H') : HS C H s := ⟨S.base, fun a c e => S.own a c (l a c e), S.gens⟩
theorem Frs.less {C : Cx} {H H' : CH} {s : Shared} (F : Frs C H' s) (l : H.Le H') : Frs C H s := fun e he => by
 obtain ⟨a1, a2, a3, f, o, es, ep, hf, ho, hd, hn, hb⟩ := F e he
 exact ⟨a1, a2, a3, f, o, es, ep, hf, ho, hd, l.absent hn, hb⟩
theorem St.less {C : Cx} {m : Loc} {H H' : CH} {s : Shared} (S : St C m H' s) (l : H.Le H') : St C m H s := ⟨S.toHS.less l, S.ns, l.absent S.loc, S.locb, S.frs.less l⟩
end
end Mine
end
section
open PySem PySem.Calls PySem.W PyProof.Rows
set_option maxRecDepth 100000
namespace Mine
noncomputable section
noncomputable abbrev NoE : Value → Shared → Prop := fun _ _ => False
inductive Fl where
 | next | brk | cont
 | ret (v : V)
noncomputable def FlR (h : Heap) : Fl → Flow → Prop
 | .next, f => f = .next
 | .brk, f => f = .brk
 | .cont, f => f = .cont
 | .ret v, f => ∃ r, f = .ret r ∧ VR h v r
inductive PV (C : Cx) (H : CH) (s : Shared) (Q : V → Loc → CH → Prop) (r : Value) (s' : Shared) : Prop
 | mk (v : V) (m' : Loc) (H' : CH) (hv : VR s'.heap v r) (hS : St C m' H' s') (ha : After C H s H' s') (q : Q v m' H') : PV C H s Q r s'
inductive PA {α : Type} (C : Cx) (H : CH) (s : Shared) (Q : α → Loc → CH → Prop) (b : α) (s' : Shared) : Prop
 | mk (m' : Loc) (H' : CH) (hS : St C m' H' s') (ha : After C H s H' s') (q : Q b m' H') : PA C H s Q b s'
inductive PL (C : Cx) (H : CH) (s : Shared) (Q : List V → Loc → CH → Prop) (rs : List Value) (s' : Shared) : Prop
 | mk (vs : List V) (m' : Loc) (H' : CH) (hv : VRs s'.heap vs rs) (hS : St C m' H' s') (ha : After C H s H' s') (q : Q vs m' H') : PL C H s Q rs s'
inductive PF (C : Cx) (H : CH) (s : Shared) (Q : Fl → Loc → CH → Prop) (f : Flow) (s' : Shared) : Prop
 | mk (fl : Fl) (m' : Loc) (H' : CH) (hf : FlR s'.heap fl f) (hS : St C m' H' s') (ha : After C H s H' s') (q : Q fl m' H') : PF C H s Q f s'
section
variable (C : Cx) (A : Around)
noncomputable def EV (e : PySem.Expr) (m : Loc) (H : CH) (Q : V → Loc → CH → Prop) : Prop := ∀ s, St C m H s → wpAny (model C.prog C.w) A (eval e C.env) (PV C H s Q) NoE s
noncomputable def EB (e : PySem.Expr) (m : Loc) (H : CH) (Q : Bool → Loc → CH → Prop) : Prop := ∀ s, St C m H s → wpAny (model C.prog C.w) A (isTrue e C.env (eval e C.env)) (PA C H s Q) NoE s
noncomputable def ES (st : Stmt) (m : Loc) (H : CH) (Q : Fl → Loc → CH → Prop) : Prop := ∀ s, St C m H s → wpAny (model C.prog C.w) A (exec st C.env) (PF C H s Q) NoE s
noncomputable def EX (b : List Stmt) (m : Loc) (H : CH) (Q : Fl → Loc → CH → Prop) : Prop := ∀ s, St C m H s → wpAny (model C.prog C.w) A (execs b C.env) (PF C H s Q) NoE s
noncomputable def ASG (t : PySem.Expr) (v : V) (m : Loc) (H : CH) (Q : Loc → CH → Prop) : Prop := ∀ s r, St C m H s → VR s.heap v r → wpAny (model C.prog C.w) A (assign t C.env r) (PA C H s fun _ => Q) NoE s
noncomputable def O1 (t : Value → Sem Value) (v : V) (m : Loc) (H : CH) (Q : V → Loc → CH → Prop) : Prop := ∀ s r, St C m H s → VR s.heap v r → wpAny (model C.prog C.w) A (t r) (PV C H s Q) NoE s
noncomputable def O2 (t : Value → Value → Sem Value) (v w : V) (m : Loc) (H : CH) (Q : V → Loc → CH → Prop) : Prop := ∀ s r q, St C m H s → VR s.heap v r → VR s.heap w q → wpAny (model C.prog C.w) A (t r q) (PV C H s Q) NoE s
noncomputable def O3 (t : Value → Value → Value → Sem Unit) (v w x : V) (m : Loc) (H : CH) (Q : Loc → CH → Prop) : Prop := ∀ s r q p, St C m H s → VR s.heap v r → VR s.heap w q → VR s.heap x p → wpAny (model C.prog C.w) A (t r q p) (PA C H s fun _ => Q) NoE s
noncomputable def OB (t : Value → Sem Bool) (v : V) (m : Loc) (H : CH) (Q : Bool → Loc → CH → Prop) : Prop := ∀ s r, St C m H s → VR s.heap v r → wpAny (model C.prog C.w) A (t r) (PA C H s Q) NoE s
noncomputable def EL (es : List PySem.Expr) (m : Loc) (H : CH) (Q : List V → Loc → CH → Prop) : Prop := ∀ s pos, St C m H s → wpAny (model C.prog C.w) A (spliced (backTo pos (starEach es C.env))) (PL C H s Q) NoE s
end
theorem wpAny_hide {α : Type} {M : Model} {A : Around} {t : Sem α} {T : α → Shared → Prop} {E : Value → Shared → Prop} {s : Shared} (h : ∀ R : α → Shared → Prop, (∀ a s', T a s' → R a s') → wpAny M A t R E s) : wpAny M A t T E s := h T fun _ _ h => h
noncomputable abbrev KO1 (C : Cx) (A : Around) (F : Value → Sem Value) (Q : V → Loc → CH → Prop) : V → Loc → CH → Prop := fun v m H => O1 C A F v m H Q
noncomputable abbrev KO2 (C : Cx) (A : Around) (F : Value → Value → Sem Value) (Q : V → Loc → CH → Prop) (v : V) : V → Loc → CH → Prop := fun w m H => O2 C A F v w m H Q
noncomputable abbrev KE2 (C : Cx) (A : Around) (e : PySem.Expr) (F : Value → Value → Sem Value) (Q : V → Loc → CH → Prop) : V → Loc → CH → Prop := fun v m H => EV C A e m H (KO2 C A F Q v)
noncomputable abbrev KBool (Q : Bool → Loc → CH → Prop) : V → Loc → CH → Prop := fun x m H => ∃ b, x = .bool b ∧ Q b m H
noncomputable abbrev KOB (C : Cx) (A : Around) (Q : Bool → Loc → CH → Prop) : V → Loc → CH → Prop := fun v m H => OB C A truthy v m H Q
noncomputable abbrev KIfV (C : Cx) (A : Around) (b o : PySem.Expr) (Q : V → Loc → CH → Prop) : Bool → Loc → CH → Prop := fun c m H => (c = true → EV C A b m H Q) ∧ (c = false → EV C A o m H Q)
noncomputable abbrev KIf (C : Cx) (A : Around) (b o : List Stmt) (Q : Fl → Loc → CH → Prop) : Bool → Loc → CH → Prop := fun c m H => (c = true → EX C A b m H Q) ∧ (c = false → EX C A o m H Q)
noncomputable abbrev KAnd (C : Cx) (A : Around) (y : PySem.Expr) (Q : Bool → Loc → CH → Prop) : Bool → Loc → CH → Prop := fun c m H => (c = true → EB C A y m H Q) ∧ (c = false → Q false m H)
noncomputable abbrev KOr (C : Cx) (A : Around) (y : PySem.Expr) (Q : Bool → Loc → CH → Prop) : Bool → Loc → CH → Prop := fun c m H => (c = true → Q true m H) ∧ (c = false → EB C A y m H Q)
noncomputable abbrev KCons (Q : List V → Loc → CH → Prop) (v : V) : List V → Loc → CH → Prop := fun vs => Q (v :: vs)
noncomputable abbrev KEL (C : Cx) (A : Around) (es : List PySem.Expr) (Q : List V → Loc → CH → Prop) : V → Loc → CH → Prop := fun v m H => EL C A es m H (KCons Q v)
noncomputable abbrev KTup (Q : V → Loc → CH → Prop) : List V → Loc → CH → Prop := fun vs m H => vs.length ≤ sizeLine ∧ Q (.tup vs) m H
noncomputable abbrev KLst (Q : V → Loc → CH → Prop) : List V → Loc → CH → Prop := fun vs m H => vs.length ≤ sizeLine ∧ ∀ a, H a = none → Q (.ref a) m (H.set a (.list vs))
noncomputable abbrev KRet (Q : Fl → Loc → CH → Prop) : V → Loc → CH → Prop := fun v => Q (.ret v)
noncomputable abbrev KNext (Q : Fl → Loc → CH → Prop) : V → Loc → CH → Prop := fun _ => Q .next
noncomputable abbrev KAsg (C : Cx) (A : Around) (t : PySem.Expr) (Q : Fl → Loc → CH → Prop) : V → Loc → CH → Prop := fun v m H => ASG C A t v m H (Q .next)
noncomputable abbrev KAsl (C : Cx) (A : Around) (x : Str) (rest : List Stmt) (Q : Fl → Loc → CH → Prop) : V → Loc → CH → Prop := fun v m H => EX C A rest ((x, v) :: m) H Q
noncomputable abbrev KExs (C : Cx) (A : Around) (rest : List Stmt) (Q : Fl → Loc → CH → Prop) : V → Loc → CH → Prop := fun _ m H => EX C A rest m H Q
noncomputable abbrev KO3 (C : Cx) (A : Around) (F : Value → Value → Value → Sem Unit) (x : V) (Q : Loc → CH → Prop) (v : V) : V → Loc → CH → Prop := fun w m H => O3 C A F v w x m H Q
noncomputable abbrev KE3 (C : Cx) (A : Around) (e : PySem.Expr) (F : Value → Value → Value → Sem Unit) (x : V) (Q : Loc → CH → Prop) : V → Loc → CH → Prop := fun v m H => EV C A e m H (KO3 C A F x Q v)
section
variable {C : Cx} {A : Around} {m : Loc} {H : CH} {s : Shared}
theorem PV.same {v : V} {r : Value} {Q : V → Loc → CH → Prop} (S : St C m H s) (hv : VR s.heap v r) (q : Q v m H) (tk : Nat) : PV C H s Q r { s with toks := tk } := ⟨v, m, H, hv, S.toks tk, .toks s tk, q⟩
theorem PV.here {v : V} {r : Value} {Q : V → Loc → CH → Prop} (S : St C m H s) (hv : VR s.heap v r) (q : Q v m H) : PV C H s Q r s := ⟨v, m, H, hv, S, .refl .., q⟩
theorem PA.here {α : Type} {b : α} {Q : α → Loc → CH → Prop} (S : St C m H s) (q : Q b m H) : PA C H s Q b s := ⟨m, H, S, .refl .., q⟩
theorem PA.same {α : Type} {b : α} {Q : α → Loc → CH → Prop} (S : St C m H s) (q : Q b m H) (tk : Nat) : PA C H s Q b { s with toks := tk } := ⟨m, H, S.toks tk, .toks s tk, q⟩
theorem PF.here {f : Fl} {r : Flow} {Q : Fl → Loc → CH → Prop} (S : St C m H s) (hf : FlR s.heap f r) (q : Q f m H) : PF C H s Q r s := ⟨f, m, H, hf, S, .refl .., q⟩
theorem PV.mono {H₁ : CH} {s₁ : Shared} {m₁ : Loc} {Q : V → Loc → CH → Prop} {r : Value} {s₂ : Shared} (S₁ : St C m₁ H₁ s₁) (a : After C H s H₁ s₁) (x : PV C H₁ s₁ Q r s₂) : PV C H s Q r s₂ :=
 let ⟨v, m', H', hv, S', a', q⟩ := x; ⟨v, m', H', hv, S', a.then S₁ a', q⟩
theorem PA.mono {α : Type} {H₁ : CH} {s₁ : Shared} {m₁ : Loc} {Q : α → Loc → CH → Prop} {r : α} {s₂ : Shared} (S₁ : St C m₁ H₁ s₁) (a : After C H s H₁ s₁) (x : PA C H₁ s₁ Q r s₂) : PA C H s Q r s₂ :=
 let ⟨m', H', S', a', q⟩ := x; ⟨m', H', S', a.then S₁ a', q⟩
theorem PF.mono {H₁ : CH} {s₁ : Shared} {m₁ : Loc} {Q : Fl → Loc → CH → Prop} {r : Flow} {s₂ : Shared} (S₁ : St C m₁ H₁ s₁) (a : After C H s H₁ s₁) (x : PF C H₁ s₁ Q r s₂) : PF C H s Q r s₂ :=
 let ⟨v, m', H', hv, S', a', q⟩ := x; ⟨v, m', H', hv, S', a.then S₁ a', q⟩
theorem EV.mono {e : PySem.Expr} {Q Q' : V → Loc → CH → Prop} (h : EV C A e m H Q) (q : ∀ v m' H', Q v m' H' → Q' v m' H') : EV C A e m H Q' := fun s S =>
 wpAny_mono (h s S) (fun r s' ⟨v, m', H', a, b, c, d⟩ => ⟨v, m', H', a, b, c, q _ _ _ d⟩) fun _ _ x => x
theorem EX.mono {e : List Stmt} {Q Q' : Fl → Loc → CH → Prop} (h : EX C A e m H Q) (q : ∀ v m' H', Q v m' H' → Q' v m' H') : EX C A e m H Q' := fun s S =>
 wpAny_mono (h s S) (fun r s' ⟨v, m', H', a, b, c, d⟩ => ⟨v, m', H', a, b, c, q _ _ _ d⟩) fun _ _ x => x
theorem ES.mono {e : Stmt} {Q Q' : Fl → Loc → CH → Prop} (h : ES C A e m H Q) (q : ∀ v m' H', Q v m' H' → Q' v m' H') : ES C A e m H Q' := fun s S =>
 wpAny_mono (h s S) (fun r s' ⟨v, m', H', a, b, c, d⟩ => ⟨v, m', H', a, b, c, q _ _ _ d⟩) fun _ _ x => x
theorem EB.mono {e : PySem.Expr} {Q Q' : Bool → Loc → CH → Prop} (h : EB C A e m H Q) (q : ∀ v m' H', Q v m' H' → Q' v m' H') : EB C A e m H Q' := fun s S =>
 wpAny_mono (h s S) (fun r s' ⟨m', H', b, c, d⟩ => ⟨m', H', b, c, q _ _ _ d⟩) fun _ _ x => x
noncomputable def Sub (m' m : Loc) : Prop := ∀ x v, m'.lookup x = some v → m.lookup x = some v
theorem EX.sub {e : List Stmt} {m' : Loc} {Q : Fl → Loc → CH → Prop} (hs : Sub m' m) (h : EX C A e m' H Q) : EX C A e m H Q := fun s S => h s (S.sub hs)
theorem Sub.nil {m : Loc} : Sub [] m := fun _ _ e => by simp at e
theorem Sub.cons {m m' : Loc} {x : Str} {v : V} (h : m.lookup x = some v) (r : Sub m' m) : Sub ((x, v) :: m') m := fun y w e => by
 rw [List.lookup_cons] at e
 by_cases hy : y = x
 ·subst hy; simp only [beq_self_eq_true] at e; cases e; exact h
 ·have hb : (y == x) = false := beq_eq_false_iff_ne.mpr hy
  simp only [hb] at e; exact r y w e
theorem EV_local {x : Str} {p : Pos} {v : V} {Q : V → Loc → CH → Prop} (hm : m.lookup x = some v) (h : Q v m H)
  (hk : autoParam (C.env.scope.kind = .function) Mine.syn1) (hl : autoParam (C.env.kindOf x = some .local) Mine.syn1) (hd : autoParam ((x == ("__debug__" : Str)) = false) Mine.syn4) : EV C A (.Name x p) m H Q := fun s S => by
 refine eEEAA (S.known hm) fun mr r hn hr hv => ?_
 exact wpAny_Name (wpAny_loadName_local hk hl hn hr (.here S hv h)) hd
theorem VR.con_inv {h : Heap} {v r : Value} (x : VR h (.con v) r) : r = v := by unfold VR at x; exact x
theorem VR.con {h : Heap} {v : Value} : VR h (.con v) v := by unfold VR; rfl
theorem VR.ref {h : Heap} {a : Addr} : VR h (.ref a) (.ref a) := by unfold VR; rfl
theorem VR.ref_inv {h : Heap} {a : Addr} {r : Value} (x : VR h (.ref a) r) : r = .ref a := by unfold VR at x; exact x
theorem VR.int {h : Heap} {i : Int} {t : Tok} : VR h (.int i) (.int i t) := by unfold VR; exact ⟨t, rfl⟩
theorem VR.int_inv {h : Heap} {i : Int} {r : Value} (x : VR h (.int i) r) : ∃ t, r = .int i t := by unfold VR at x; exact x
theorem VR.str_inv {h : Heap} {i : Str} {r : Value} (x : VR h (.str i) r) : ∃ t, r = .str i t := by unfold VR at x; exact x
theorem VR.tup_inv {h : Heap} {l : List V} {r : Value} (x : VR h (.tup l) r) : ∃ a items n, r = .ref a ∧ h.get? a = some (seqObj "tuple" items n) ∧ VRs h l items.toList := by unfold VR at x; exact x
theorem VR.tup {h : Heap} {l : List V} {a : Addr} {items : Array Value} {n : Nat} (e : h.get? a = some (seqObj "tuple" items n)) (hs : VRs h l items.toList) : VR h (.tup l) (.ref a) := by unfold VR; exact ⟨a, items, n, rfl, e, hs⟩
theorem St.cell {c : Addr} {v : Option V} (S : HS C H s) (hc : H c = some (.cell v)) : ∃ r, s.heap.IsCell c r ∧ OptR s.heap v r := by
 obtain ⟨_, o, ho, r, hd, hr⟩ := S.own _ _ hc
 exact ⟨r, ⟨o, ho, hd⟩, hr⟩
theorem OptR.some_inv {h : Heap} {v : V} {r : Option Value} (x : OptR h (some v) r) : ∃ q, r = some q ∧ VR h v q := by
 cases r with
 | none => exact x.elim
 | some q => exact ⟨q, rfl, x⟩
theorem qab {x : Str} {p : Pos} {c : Addr} {v : V} {Q : V → Loc → CH → Prop} (hc : C.env.cells.lookup x = some c) (hm : H c = some (.cell (some v))) (h : Q v m H)
  (hk : autoParam (C.env.scope.kind = .function) Mine.syn1) (hl : autoParam (C.env.kindOf x = some .cell) Mine.syn1) (hd : autoParam ((x == ("__debug__" : Str)) = false) Mine.syn4) : EV C A (.Name x p) m H Q := fun s S => by
 refine eEA (St.cell S.toHS hm) fun r hI hr => ?_
 refine eEA hr.some_inv fun q zz1 hq => ?_; subst zz1
 exact wpAny_Name (wpAny_loadName_cell hk hl hc hI (.here S hq h)) hd
theorem VR.rng_inv {h : Heap} {a b c : Int} {r : Value} (x : VR h (.rng a b c) r) : ∃ z t u w, r = .ref z ∧ h.get? z = some { cls := .type "range", dict := none, data := .fields #[.int a t, .int b u, .int c w], slots := #[] } := by unfold VR at x; exact x
theorem VR.rng {h : Heap} {a b c : Int} {z : Addr} {t u w : Tok} (e : h.get? z = some { cls := .type "range", dict := none, data := .fields #[.int a t, .int b u, .int c w], slots := #[] }) : VR h (.rng a b c) (.ref z) := by unfold VR; exact ⟨z, t, u, w, rfl, e⟩
theorem VR.imm_inv {h : Heap} {o : Obj} {r : Value} (x : VR h (.imm o) r) : Imm o ∧ ∃ a, r = .ref a ∧ h.get? a = some o := by unfold VR at x; exact x
theorem VR.imm {h : Heap} {o : Obj} {a : Addr} (i : Imm o) (e : h.get? a = some o) : VR h (.imm o) (.ref a) := by unfold VR; exact ⟨i, a, rfl, e⟩
theorem VR.fn_inv {h : Heap} {name qual : Str} {params : Arguments} {body : PySem.Expr} {scope : Scope} {cl : List (Str × Addr)} {r : Value} (x : VR h (.fn name qual params body scope cl) r) :
  ∃ a pm c ctv, r = .ref a ∧ h.get? a = some (kla_obj name qual params body scope cl pm c ctv) ∧ h.CodeRec (.ref c) qual := by unfold VR at x; exact x
theorem EV_int {i : Int} {k : Nat} {p : Pos} {Q : V → Loc → CH → Prop} (h : Q (.int i) m H) : EV C A (.Constant (.int i) k p) m H Q := fun s S => wpAny_Constant_int (.same S .int h _)
theorem EV_none {k : Nat} {p : Pos} {Q : V → Loc → CH → Prop} (h : Q .none m H) : EV C A (.Constant .none k p) m H Q := fun s S => wpAny_Constant_none (.here S .con h)
theorem EV_bool {b : Bool} {k : Nat} {p : Pos} {Q : V → Loc → CH → Prop} (h : Q (.bool b) m H) : EV C A (.Constant (.bool b) k p) m H Q := fun s S => wpAny_Constant_bool (.here S .con h)
theorem EV_bin {l r : PySem.Expr} {op : Operator} {p : Pos} {Q : V → Loc → CH → Prop} (h : EV C A l m H (KE2 C A r (binaryOp op) Q)) : EV C A (.BinOp l op r p) m H Q := fun s S => by
 refine wpAny_BinOp (wpAny_mono (h s S) ?_ fun _ _ x => x)
 rintro a s₁ ⟨v, m₁, H₁, ra, S₁, af₁, h₁⟩
 refine wpAny_mono (h₁ s₁ S₁) ?_ fun _ _ x => x
 rintro b s₂ ⟨w, m₂, H₂, rb, S₂, af₂, h₂⟩
 exact wpAny_mono (h₂ s₂ a b S₂ (ra.keep (af₂.tup S₁)) rb) (fun _ _ x => x.mono S₂ (af₁.then S₁ af₂)) fun _ _ x => x
theorem EV_cmp {l r : PySem.Expr} {op : CmpOp} {p : Pos} {Q : V → Loc → CH → Prop} (h : EV C A l m H (KE2 C A r (compareOp op) Q))
  (hm : autoParam (behindInMarks op r = false) Mine.syn1) : EV C A (.Compare l [op] [r] p) m H Q := fun s S => by
 refine wpAny_Compare1 (wpAny_mono (h s S) ?_ fun _ _ x => x) hm
 rintro a s₁ ⟨v, m₁, H₁, ra, S₁, af₁, h₁⟩
 refine wpAny_mono (h₁ s₁ S₁) ?_ fun _ _ x => x
 rintro b s₂ ⟨w, m₂, H₂, rb, S₂, af₂, h₂⟩
 exact wpAny_mono (h₂ s₂ a b S₂ (ra.keep (af₂.tup S₁)) rb) (fun _ _ x => x.mono S₂ (af₁.then S₁ af₂)) fun _ _ x => x
theorem EB_cmp {l r : PySem.Expr} {op : CmpOp} {p : Pos} {Q : Bool → Loc → CH → Prop} (h : EV C A l m H (KE2 C A r (compareOp op) (KBool Q)))
  (hm : autoParam (behindInMarks op r = false) Mine.syn1) : EB C A (.Compare l [op] [r] p) m H Q := fun s S => by
 refine wpAny_isTrue_Compare1 (wpAny_mono (h s S) ?_ fun _ _ x => x) hm
 rintro a s₁ ⟨v, m₁, H₁, ra, S₁, af₁, h₁⟩
 refine wpAny_mono (h₁ s₁ S₁) ?_ fun _ _ x => x
 rintro b s₂ ⟨w, m₂, H₂, rb, S₂, af₂, h₂⟩
 refine wpAny_mono (h₂ s₂ a b S₂ (ra.keep (af₂.tup S₁)) rb) ?_ fun _ _ x => x
 rintro c s₃ ⟨x, m₃, H₃, rc, S₃, af₃, b', rfl, q⟩
 refine rE rc.con_inv ?_
 exact wpAny_truthy_bool ⟨m₃, H₃, S₃, (af₁.then S₁ af₂).then S₂ af₃, q⟩
theorem EV_un {x : PySem.Expr} {op : UnaryOp} {p : Pos} {Q : V → Loc → CH → Prop} (h : EV C A x m H (KO1 C A (unaryOp op) Q)) : EV C A (.UnaryOp op x p) m H Q := fun s S => by
 refine wpAny_UnaryOp (wpAny_mono (h s S) ?_ fun _ _ x => x)
 rintro a s₁ ⟨v, m₁, H₁, ra, S₁, af₁, h₁⟩
 exact wpAny_mono (h₁ s₁ a S₁ ra) (fun _ _ x => x.mono S₁ af₁) fun _ _ x => x
theorem EB_val {e : PySem.Expr} {Q : Bool → Loc → CH → Prop} (h : EV C A e m H (KOB C A Q)) (he : autoParam (∀ whole, isTrue e C.env whole = (do let v ← whole; standAt e.pos; holding [v] (truthy v))) Mine.syn2) : EB C A e m H Q := fun s S => by
 refine wpAny_isTrue_value (wpAny_mono (h s S) ?_ fun _ _ x => x) (he _)
 rintro a s₁ ⟨v, m₁, H₁, ra, S₁, af₁, h₁⟩
 exact wpAny_mono (h₁ s₁ a S₁ ra) (fun _ _ x => x.mono S₁ af₁) fun _ _ x => x
theorem EV_if {t b o : PySem.Expr} {p : Pos} {Q : V → Loc → CH → Prop} (h : EB C A t m H (KIfV C A b o Q)) : EV C A (.IfExp t b o p) m H Q := fun s S => by
 refine wpAny_IfExp (wpAny_mono (h s S) ?_ fun _ _ x => x)
 rintro c s₁ ⟨m₁, H₁, S₁, af₁, h₁⟩
 cases c with
 | true => exact wpAny_mono (h₁.1 rfl s₁ S₁) (fun _ _ x => x.mono S₁ af₁) fun _ _ x => x
 | false => exact wpAny_mono (h₁.2 rfl s₁ S₁) (fun _ _ x => x.mono S₁ af₁) fun _ _ x => x
theorem EB_and {x y : PySem.Expr} {p : Pos} {Q : Bool → Loc → CH → Prop} (h : EB C A x m H (KAnd C A y Q)) : EB C A (.BoolOp .And [x, y] p) m H Q := fun s S => by
 refine wpAny_isTrue_BoolOp (wpAny_allTrue_And_cons (wpAny_mono (h s S) ?_ fun _ _ x => x))
 rintro c s₁ ⟨m₁, H₁, S₁, af₁, h₁⟩
 cases c with
 | true =>
  refine wpAny_allTrue_And_cons (wpAny_mono (h₁.1 rfl s₁ S₁) ?_ fun _ _ x => x)
  rintro c s₂ h₂
  have h₃ := h₂.mono S₁ af₁
  cases c with
  | true => exact wpAny_allTrue_And_nil h₃
  | false => exact h₃
 | false => exact ⟨m₁, H₁, S₁, af₁, h₁.2 rfl⟩
theorem EB_or {x y : PySem.Expr} {p : Pos} {Q : Bool → Loc → CH → Prop} (h : EB C A x m H (KOr C A y Q)) : EB C A (.BoolOp .Or [x, y] p) m H Q := fun s S => by
 refine wpAny_isTrue_BoolOp (wpAny_allTrue_Or_cons (wpAny_mono (h s S) ?_ fun _ _ x => x))
 rintro c s₁ ⟨m₁, H₁, S₁, af₁, h₁⟩
 cases c with
 | false =>
  refine wpAny_allTrue_Or_cons (wpAny_mono (h₁.2 rfl s₁ S₁) ?_ fun _ _ x => x)
  rintro c s₂ h₂
  have h₃ := h₂.mono S₁ af₁
  cases c with
  | false => exact wpAny_allTrue_Or_nil h₃
  | true => exact h₃
 | true => exact ⟨m₁, H₁, S₁, af₁, h₁.1 rfl⟩
theorem EL_nil {Q : List V → Loc → CH → Prop} (h : Q [] m H) : EL C A [] m H Q := fun s pos S => spliced_nil ⟨[], m, H, .nil, S, .refl .., h⟩
theorem EL_cons {e : PySem.Expr} {rest : List PySem.Expr} {Q : List V → Loc → CH → Prop} (h : EV C A e m H (KEL C A rest Q))
  (he : autoParam (starEach (e :: rest) C.env = (false, eval e C.env) :: starEach rest C.env) Mine.syn1) : EL C A (e :: rest) m H Q := fun s pos S => by
 refine rE he ?_
 refine spliced_cons (rest := backTo pos (starEach rest C.env)) (x := eval e C.env) (wpAny_mono (h s S) ?_ fun _ _ x => x)
 rintro a s₁ ⟨v, m₁, H₁, ra, S₁, af₁, h₁⟩
 refine wpAny_mono (h₁ s₁ pos S₁) ?_ fun _ _ x => x
 rintro vs s₂ ⟨ws, m₂, H₂, rb, S₂, af₂, h₂⟩
 exact ⟨v :: ws, m₂, H₂, .cons (ra.keep (af₂.tup S₁)) rb, S₂, af₁.then S₁ af₂, h₂⟩
theorem EV_tuple {es : List PySem.Expr} {k : Nat} {p : Pos} {Q : V → Loc → CH → Prop} (h : EL C A es m H (KTup Q)) : EV C A (.Tuple es k p) m H Q := fun s S => by
 refine Tuple_ (wpAny_mono (h s p S) ?_ fun _ _ x => x)
 rintro vs s₁ ⟨ws, m₁, H₁, ra, S₁, af₁, hl, h₁⟩
 refine wpAny_newObj_type ?_ (by show vs.toArray.size ≤ sizeLine; refine rE List.size_toArray (rF ra.length ?_); exact hl)
 exact ⟨.tup ws, m₁, H₁, .tup (Heap.get?_push_size _ rfl) (by refine rE List.toList_toArray ?_; exact ra.keep (.push _ _)), S₁.more (qae _ _), af₁.then S₁ (.more (qae _ _)), h₁⟩
theorem qby {es : List PySem.Expr} {p : Pos} {Q : V → Loc → CH → Prop} (h : EL C A es m H (KLst Q)) : EV C A (.List es p) m H Q := fun s S => by
 refine List_ (wpAny_mono (h s p S) ?_ fun _ _ x => x)
 rintro vs s₁ ⟨ws, m₁, H₁, ra, S₁, af₁, hl, h₁⟩
 refine wpAny_newObj_type ?_ (by show vs.toArray.size ≤ sizeLine; refine rE List.size_toArray (rF ra.length ?_); exact hl)
 exact ⟨_, m₁, _, .ref, S₁.alloc (c := .list ws) ⟨_, 0, rfl, by refine rE List.toList_toArray ?_; exact ra⟩, af₁.then S₁ .alloc, h₁ _ S₁.toHS.fresh⟩
theorem EX_nil {Q : Fl → Loc → CH → Prop} (h : Q .next m H) : EX C A [] m H Q := fun s S => wpAny_execs_nil (PF.here (f := .next) S rfl h)
noncomputable def SeqE (C : Cx) (A : Around) (rest : List Stmt) (Q : Fl → Loc → CH → Prop) (fl : Fl) (m : Loc) (H : CH) : Prop := match fl with
 | .next => EX C A rest m H Q
 | fl => Q fl m H
noncomputable def SeqK (R : Loc → CH → Prop) (Q : Fl → Loc → CH → Prop) (fl : Fl) (m : Loc) (H : CH) : Prop := match fl with
 | .next => R m H
 | fl => Q fl m H
section
variable {rest : List Stmt} {Q : Fl → Loc → CH → Prop} {R : Loc → CH → Prop} {v : V}
theorem SeqE.n (h : EX C A rest m H Q) : SeqE C A rest Q .next m H := h
theorem SeqE.b (h : Q .brk m H) : SeqE C A rest Q .brk m H := h
theorem SeqE.c (h : Q .cont m H) : SeqE C A rest Q .cont m H := h
theorem SeqK.n (h : R m H) : SeqK R Q .next m H := h
end
theorem qam {st : Stmt} {rest : List Stmt} {Q : Fl → Loc → CH → Prop} (h : ES C A st m H (SeqE C A rest Q)) : EX C A (st :: rest) m H Q := fun s S => by
 refine wpAny_execs_cons (wpAny_mono (h s S) ?_ fun _ _ x => x)
 rintro f s₁ ⟨fl, m₁, H₁, hf, S₁, af₁, h₁⟩
 cases fl with
 | next => cases hf; exact wpAny_mono (h₁ s₁ S₁) (fun _ _ x => x.mono S₁ af₁) fun _ _ x => x
 | brk => cases hf; exact ⟨.brk, m₁, H₁, rfl, S₁, af₁, h₁⟩
 | cont => cases hf; exact ⟨.cont, m₁, H₁, rfl, S₁, af₁, h₁⟩
 | ret v => obtain ⟨r, rfl, hr⟩ := hf; exact ⟨.ret v, m₁, H₁, ⟨r, rfl, hr⟩, S₁, af₁, h₁⟩
theorem ES_ret {e : PySem.Expr} {p : Pos} {Q : Fl → Loc → CH → Prop} (h : EV C A e m H (KRet Q)) : ES C A (.Return (some e) p) m H Q := fun s S => by
 refine wpAny_Return_some (wpAny_mono (h s S) ?_ fun _ _ x => x)
 rintro a s₁ ⟨v, m₁, H₁, ra, S₁, af₁, h₁⟩
 exact ⟨.ret v, m₁, H₁, ⟨a, rfl, ra⟩, S₁, af₁, h₁⟩
theorem ES_break {p : Pos} {Q : Fl → Loc → CH → Prop} (h : Q .brk m H) : ES C A (.Break p) m H Q := fun s S => wpAny_Break (PF.here (f := .brk) S rfl h)
theorem ES_continue {p : Pos} {Q : Fl → Loc → CH → Prop} (h : Q .cont m H) : ES C A (.Continue p) m H Q := fun s S => wpAny_Continue (PF.here (f := .cont) S rfl h)
theorem ES_if {t : PySem.Expr} {b o : List Stmt} {p : Pos} {Q : Fl → Loc → CH → Prop} (h : EB C A t m H (KIf C A b o Q)) : ES C A (.If t b o p) m H Q := fun s S => by
 refine wpAny_If (wpAny_mono (h s S) ?_ fun _ _ x => x)
 rintro c s₁ ⟨m₁, H₁, S₁, af₁, h₁⟩
 cases c with
 | true => simp only [if_true]; exact wpAny_mono (h₁.1 rfl s₁ S₁) (fun _ _ x => x.mono S₁ af₁) fun _ _ x => x
 | false => simp only [Bool.false_eq_true, if_false]; exact wpAny_mono (h₁.2 rfl s₁ S₁) (fun _ _ x => x.mono S₁ af₁) fun _ _ x => x
theorem qdd {t e : PySem.Expr} {p : Pos} {Q : Fl → Loc → CH → Prop} (h : EV C A e m H (KAsg C A t Q))
  (hs : autoParam (swapsWithSole [t] e p.line C.env = pure false) Mine.syn1) (hw : autoParam (swappedStores [t] e C.env = pure none) Mine.syn1) (ht : autoParam ((assignEach [t] C.env).map (·.2) = [assign t C.env]) Mine.syn1) : ES C A (.Assign [t] e p) m H Q := fun s S => by
 refine wpAny_Assign_stores (wpAny_mono (h s S) ?_ fun _ _ x => x) hs hw
 rintro a s₁ ⟨v, m₁, H₁, ra, S₁, af₁, h₁⟩
 refine rE ht ?_
 refine wpAny_mono (h₁ s₁ a S₁ ra) ?_ fun _ _ x => x
 rintro _ s₂ ⟨m₂, H₂, S₂, af₂, h₂⟩
 exact ⟨.next, m₂, H₂, rfl, S₂, af₁.then S₁ af₂, h₂⟩
theorem ASG_local {x : Str} {p : Pos} {v : V} {Q : Loc → CH → Prop} (h : Q ((x, v) :: m) H)
  (hl : autoParam (C.env.kindOf x = some .local) Mine.syn1) (hp : autoParam ((C.env.scope.kind == .class || (C.env.scope.kind == .module && C.env.locals != C.env.globals)) = false) Mine.syn1) : ASG C A (.Name x p) v m H Q := fun s r S hv => by
 refine eEA S.ns fun mr hn hk => ?_
 refine wpAny_assign_Name (wpAny_storeName_local hl hn (fun h' hn' hs => ?_) hp)
 exact ⟨_, H, S.store hv hk hn' hs, .store hn' hs, h⟩
theorem EX_heap {b : List Stmt} {H' : CH} {Q : Fl → Loc → CH → Prop} (e : H = H') (h : EX C A b m H' Q) : EX C A b m H Q := e ▸ h
theorem EX_gen {b : List Stmt} {Q : Fl → Loc → CH → Prop} (h : ∀ H', H' = H → EX C A b m H' Q) : EX C A b m H Q := h H rfl
theorem EV_gen {e : PySem.Expr} {Q : V → Loc → CH → Prop} (h : ∀ H', H' = H → EV C A e m H' Q) : EV C A e m H Q := h H rfl
theorem EX_asn {ts : List PySem.Expr} {e : PySem.Expr} {p : Pos} {rest : List Stmt} {Q : Fl → Loc → CH → Prop} (h : ES C A (.Assign ts e p) m H (SeqE C A rest Q)) : EX C A (.Assign ts e p :: rest) m H Q := qam h
theorem EX_brk {p : Pos} {rest : List Stmt} {Q : Fl → Loc → CH → Prop} (h : ES C A (.Break p) m H (SeqE C A rest Q)) : EX C A (.Break p :: rest) m H Q := qam h
theorem EX_cnt {p : Pos} {rest : List Stmt} {Q : Fl → Loc → CH → Prop} (h : ES C A (.Continue p) m H (SeqE C A rest Q)) : EX C A (.Continue p :: rest) m H Q := qam h
theorem EX_aug {t : PySem.Expr} {o : Operator} {e : PySem.Expr} {p : Pos} {rest : List Stmt} {Q : Fl → Loc → CH → Prop} (h : ES C A (.AugAssign t o e p) m H (SeqE C A rest Q)) : EX C A (.AugAssign t o e p :: rest) m H Q := qam h
theorem EX_ifs {t : PySem.Expr} {b o : List Stmt} {p : Pos} {rest : List Stmt} {Q : Fl → Loc → CH → Prop} (h : EB C A t m H (KIf C A b o (SeqE C A rest Q))) : EX C A (.If t b o p :: rest) m H Q := qam (ES_if h)
theorem EV_loc {x : Str} {p : Pos} {v : V} {Q : V → Loc → CH → Prop} (h : Q v m H) (hm : autoParam (m.lookup x = some v) Mine.syn1) (hk : autoParam (C.env.scope.kind = .function) Mine.syn1) (hl : autoParam (C.env.kindOf x = some .local) Mine.syn1) (hd : autoParam ((x == ("__debug__" : Str)) = false) Mine.syn4) : EV C A (.Name x p) m H Q := EV_local hm h hk hl hd
theorem EX_asl {x : Str} {np : Pos} {e : PySem.Expr} {rest : List Stmt} {p : Pos} {Q : Fl → Loc → CH → Prop} (h : EV C A e m H (KAsl C A x rest Q))
  (hl : autoParam (C.env.kindOf x = some .local) Mine.syn1) (hp : autoParam ((C.env.scope.kind == .class || (C.env.scope.kind == .module && C.env.locals != C.env.globals)) = false) Mine.syn1)
  (hs : autoParam (swapsWithSole [.Name x np] e p.line C.env = pure false) Mine.syn1) (hw : autoParam (swappedStores [.Name x np] e C.env = pure none) Mine.syn1) (ht : autoParam ((assignEach [.Name x np] C.env).map (·.2) = [assign (.Name x np) C.env]) Mine.syn1) : EX C A (.Assign [.Name x np] e p :: rest) m H Q :=
 qam (qdd (h.mono fun _ _ _ h => ASG_local h hl hp) hs hw ht)
theorem EX_ret {e : PySem.Expr} {rest : List Stmt} {p : Pos} {Q : Fl → Loc → CH → Prop} (h : EV C A e m H (KRet Q)) : EX C A (.Return (some e) p :: rest) m H Q := qam (ES_ret h)
theorem qbb {x : Str} {p : Pos} {c : Addr} {v : V} {v₀ : Option V} {Q : Loc → CH → Prop} (hc : C.env.cells.lookup x = some c) (hm : H c = some (.cell v₀)) (h : Q m (H.set c (.cell (some v))))
  (hk : autoParam (C.env.scope.kind = .function) Mine.syn1) (hl : autoParam (C.env.kindOf x = some .cell) Mine.syn1) : ASG C A (.Name x p) v m H Q := fun s r S hv => by
 refine eEA (St.cell S.toHS hm) fun q hI hr => ?_
 refine wpAny_assign_Name (wpAny_storeName_cell hk hl hc hI fun h' hI' hs => ?_)
 obtain ⟨o', ho', hd'⟩ := hI'
 exact ⟨m, _, S.upd (c' := .cell (some v)) (tk := s.toks) hm hs ho' ⟨_, hd', hv⟩, .upd hm hs ho', h⟩
noncomputable def ASGs (C : Cx) (A : Around) : List PySem.Expr → List V → Loc → CH → (Loc → CH → Prop) → Prop
 | [], [], m, H, Q => Q m H
 | t :: ts, v :: vs, m, H, Q => ASG C A t v m H fun m₁ H₁ => ASGs C A ts vs m₁ H₁ Q
 | _, _, _, _, _ => False
theorem qcd : ∀ (ts : List PySem.Expr) (vs : List V) (rs : List Value) (m : Loc) (H : CH) (s : Shared) (Q : Loc → CH → Prop), ASGs C A ts vs m H Q → St C m H s → VRs s.heap vs rs →
  wpAny (model C.prog C.w) A (assignInOrder (ts.map fun t => assign t C.env) rs) (PA C H s fun _ => Q) NoE s
 | [], [], rs, m, H, s, Q, h, S, r => by have := r.nil_inv; subst this; exact wpAny_assignInOrder_none ⟨m, H, S, .refl .., h⟩
 | [], _ :: _, _, _, _, _, _, h, _, _ => h.elim
 | _ :: _, [], _, _, _, _, _, h, _, _ => h.elim
 | t :: ts, v :: vs, rs, m, H, s, Q, h, S, r => by
  refine eEEAA r.cons_inv fun y ys zz2 a b => ?_; subst zz2
  refine wpAny_assignInOrder_more (wpAny_mono (h s y S a) ?_ fun _ _ x => x)
  rintro _ s₁ ⟨m₁, H₁, S₁, af₁, h₁⟩
  exact wpAny_mono (qcd ts vs ys m₁ H₁ s₁ Q h₁ S₁ (b.keep (af₁.tup S))) (fun _ _ x => x.mono S₁ af₁) fun _ _ x => x
theorem ASG_tuple {ts : List PySem.Expr} {k : Nat} {p : Pos} {vs : List V} {Q : Loc → CH → Prop} (hA : A.handled = none) (hlen : ts.length = vs.length) (h : ASGs C A ts vs m H Q)
  (ht : autoParam (assignEach ts C.env = ts.map fun t => (false, assign t C.env)) Mine.syn1) : ASG C A (.Tuple ts k p) (.tup vs) m H Q := fun s r S hv => by
 obtain ⟨a, items, n, rfl, ho, hs⟩ := hv.tup_inv
 have hl : items.size = vs.length := by have := hs.length; simp at this; exact Nat.add_right_cancel (congrFun (congrArg HAdd.hAdd (id (Eq.symm this))) k)
 refine wpAny_assign_Tuple hA ⟨_, ho, rfl, n, rfl⟩ (by refine rE ht (rE (List.length_map ..) (rE hl (rE hlen rfl)))) (by refine rE ht (rE List.findIdx?_map ?_); simp) fun h' he => ?_
 refine rE ht (rE List.map_map ?_)
 have S' : St C m H { s with heap := h' } := S.more (tk := s.toks) fun b o e => he b o (Nat.ne_of_lt (Heap.lt_size e)) e
 have := qcd (A := A) ts vs items.toList m H { s with heap := h' } Q h S' (hs.keep (.of_keep fun b o e => he b o (Nat.ne_of_lt (Heap.lt_size e)) e))
 refine wpAny_mono this (fun _ _ x => x.mono S' (.more (tk := s.toks) fun b o e => he b o (Nat.ne_of_lt (Heap.lt_size e)) e)) fun _ _ x => x
end
end
end Mine
end
section
open PySem PySem.Calls PySem.W PyProof.Rows
set_option maxRecDepth 100000
namespace Mine
noncomputable section
section
variable {C : Cx} {A : Around} {m : Loc} {H : CH} {s : Shared} {Q : V → Loc → CH → Prop} {a b : Int}
theorem O2_add (h : Q (.int (a + b)) m H) : O2 C A (binaryOp .Add) (.int a) (.int b) m H Q := fun s r q S hr hq => by
 refine eE hr.int_inv fun t zz1 => ?_; subst zz1; (refine eE hq.int_inv fun u zz1 => ?_; subst zz1); exact add_int (.same S .int h _)
theorem O2_sub (h : Q (.int (a - b)) m H) : O2 C A (binaryOp .Sub) (.int a) (.int b) m H Q := fun s r q S hr hq => by
 refine eE hr.int_inv fun t zz1 => ?_; subst zz1; (refine eE hq.int_inv fun u zz1 => ?_; subst zz1); exact sub_int (.same S .int h _)
theorem O2_mod (hb : b ≠ 0) (h : Q (.int (a.fmod b)) m H) : O2 C A (binaryOp .Mod) (.int a) (.int b) m H Q := fun s r q S hr hq => by
 refine eE hr.int_inv fun t zz1 => ?_; subst zz1; (refine eE hq.int_inv fun u zz1 => ?_; subst zz1); exact mod_int hb (.same S .int h _)
theorem O2_div (hb : b ≠ 0) (hs : b.natAbs < 1073741824) (h : Q (.int (a.fdiv b)) m H) : O2 C A (binaryOp .FloorDiv) (.int a) (.int b) m H Q := fun s r q S hr hq => by
 refine eE hr.int_inv fun t zz1 => ?_; subst zz1; (refine eE hq.int_inv fun u zz1 => ?_; subst zz1); exact floordiv_int hb (.same S .int h _) (.inl (PyProof.noPylong_small hs))
theorem O2_iadd (h : Q (.int (a + b)) m H) : O2 C A (inplaceOp .Add) (.int a) (.int b) m H Q := fun s r q S hr hq => by
 refine eE hr.int_inv fun t zz1 => ?_; subst zz1; (refine eE hq.int_inv fun u zz1 => ?_; subst zz1); exact iadd_int (.same S .int h _)
theorem O2_isub (h : Q (.int (a - b)) m H) : O2 C A (inplaceOp .Sub) (.int a) (.int b) m H Q := fun s r q S hr hq => by
 refine eE hr.int_inv fun t zz1 => ?_; subst zz1; (refine eE hq.int_inv fun u zz1 => ?_; subst zz1); exact P.isub_int (.same S .int h _)
theorem qcr (h : Q (.int (-a)) m H) : O1 C A (unaryOp .USub) (.int a) m H Q := fun s r S hr => by
 refine eE hr.int_inv fun t zz1 => ?_; subst zz1; exact P.neg_int (.same S .int h _)
theorem O2_lt (h : Q (.bool (decide (a < b))) m H) : O2 C A (compareOp .Lt) (.int a) (.int b) m H Q := fun s r q S hr hq => by
 refine eE hr.int_inv fun t zz1 => ?_; subst zz1; (refine eE hq.int_inv fun u zz1 => ?_; subst zz1); exact lt_int (.here S .con h)
theorem O2_ge (h : Q (.bool (decide (b ≤ a))) m H) : O2 C A (compareOp .GtE) (.int a) (.int b) m H Q := fun s r q S hr hq => by
 refine eE hr.int_inv fun t zz1 => ?_; subst zz1; (refine eE hq.int_inv fun u zz1 => ?_; subst zz1); exact P.ge_int (.here S .con h)
theorem O2_eq (h : Q (.bool (decide (a = b))) m H) : O2 C A (compareOp .Eq) (.int a) (.int b) m H Q := fun s r q S hr hq => by
 refine eE hr.int_inv fun t zz1 => ?_; subst zz1; (refine eE hq.int_inv fun u zz1 => ?_; subst zz1)
 refine P.eq_int (.here S .con ?_)
 refine rE (show (a == b) = decide (a = b) from by by_cases h : a = b <;> simp [h]) ?_; exact h
theorem O2_ne (h : Q (.bool (decide (a ≠ b))) m H) : O2 C A (compareOp .NotEq) (.int a) (.int b) m H Q := fun s r q S hr hq => by
 refine eE hr.int_inv fun t zz1 => ?_; subst zz1; (refine eE hq.int_inv fun u zz1 => ?_; subst zz1)
 refine P.ne_int (.here S .con ?_)
 refine rE (show (a != b) = decide (a ≠ b) from by by_cases h : a = b <;> simp [h]) ?_; exact h
noncomputable def V.isNone : V → Bool
 | .con .none => true
 | _ => false
theorem VR.isNone {h : Heap} {v : V} {r : Value} (x : VR h v r) : (r == Value.none) = v.isNone := by
 cases v with
 | con c => refine rE x.con_inv ?_; cases c <;> rfl
 | int i => (refine eE x.int_inv fun t zz1 => ?_; subst zz1); rfl
 | str i => (refine eE x.str_inv fun t zz1 => ?_; subst zz1); rfl
 | tup l => (refine eEEEA x.tup_inv fun a items n zz3 _ => ?_; subst zz3); rfl
 | rng => obtain ⟨z, t, u, w, rfl, _⟩ := x.rng_inv; rfl
 | imm => obtain ⟨_, a, rfl, _⟩ := x.imm_inv; rfl
 | fn => obtain ⟨a, _, _, _, rfl, _⟩ := x.fn_inv; rfl
 | ref a => refine rE x.ref_inv ?_; rfl
theorem O2_isNone {v : V} (h : Q (.bool v.isNone) m H) : O2 C A (compareOp .Is) v .none m H Q := fun s r q S hr hq => by
 refine rE hq.con_inv ?_; exact is_none (.here S .con (by refine rE hr.isNone ?_; exact h))
theorem O2_isNotNone {v : V} (h : Q (.bool (!v.isNone)) m H) : O2 C A (compareOp .IsNot) v .none m H Q := fun s r q S hr hq => by
 refine rE hq.con_inv ?_; exact isNot_none (.here S .con (by refine rE hr.isNone ?_; exact h))
variable {QB : Bool → Loc → CH → Prop}
theorem OB_bool {b : Bool} (h : QB b m H) : OB C A truthy (.bool b) m H QB := fun s r S hr => by refine rE hr.con_inv ?_; exact wpAny_truthy_bool (.here S h)
inductive LAt (C : Cx) (H : CH) (l : Addr) (xs : List V) : Prop where
 | own (h : H l = some (.list xs)) : LAt C H l xs
 | base (items : Array Value) (n : Nat) (h : C.h₀.get? l = some (seqObj "list" items n)) (hv : VRs C.h₀ xs items.toList) : LAt C H l xs
inductive LRep (s : Shared) (l : Addr) (xs : List V) : Prop
 | mk (items : Array Value) (n : Nat) (h : IsL s.heap l items n) (hv : VRs s.heap xs items.toList) (hz : items.size = xs.length) : LRep s l xs
theorem HS.list {l : Addr} {xs : List V} (S : HS C H s) (hl : LAt C H l xs) : LRep s l xs := by
 cases hl with
 | own hl =>
  obtain ⟨_, o, ho, items, n, rfl, hr⟩ := S.own _ _ hl
  exact ⟨items, n, ho, hr, by have := hr.length; simp at this; exact Nat.add_right_cancel (congrFun (congrArg HAdd.hAdd (id (Eq.symm this))) l)⟩
 | base items n h hv => exact ⟨items, n, S.base _ _ h, hv.keep (.of_keep S.base), by have := hv.length; simp at this; omega⟩
theorem OB_list {l : Addr} {xs : List V} (hl : LAt C H l xs) (hsz : xs.length ≤ sizeLine) (h : QB (!xs.isEmpty) m H) : OB C A truthy (.ref l) m H QB := fun s r S hr => by
 refine rE hr.ref_inv ?_
 obtain ⟨items, n, hI, hv, hz⟩ := S.toHS.list hl
 have : items.isEmpty = xs.isEmpty := by
  cases xs with
  | nil => simp at hz; simp [hz]
  | cons => simp at hz; simp; intro e; simp [e] at hz
 refine wpAny_truthy_list hI.isList (by refine rE hz ?_; unfold sizeLine at hsz; lia) ?_
 refine rE this ?_; exact .same S h _
theorem EV_sub {value slice : PySem.Expr} {p : Pos} (h : EV C A value m H (KE2 C A slice (subscriptTail value slice) Q)) : EV C A (.Subscript value slice p) m H Q := fun s S => by
 refine Subscript_ (wpAny_mono (h s S) ?_ fun _ _ x => x)
 rintro a s₁ ⟨v, m₁, H₁, ra, S₁, af₁, h₁⟩
 refine wpAny_mono (h₁ s₁ S₁) ?_ fun _ _ x => x
 rintro b s₂ ⟨w, m₂, H₂, rb, S₂, af₂, h₂⟩
 exact wpAny_mono (h₂ s₂ a b S₂ (ra.keep (af₂.tup S₁)) rb) (fun _ _ x => x.mono S₂ (af₁.then S₁ af₂)) fun _ _ x => x
noncomputable abbrev NoSlice (slice : PySem.Expr) : Prop := ∀ o i, subscripted slice false o i = operate [o, i] (getItem o i)
theorem qag {value slice : PySem.Expr} {l : Addr} {xs : List V} {k : Int} {v : V} (hl : LAt C H l xs) (h0 : 0 ≤ k) (hv : xs[k.toNat]? = some v) (hsz : xs.length ≤ sizeLine) (h : Q v m H) (hs : autoParam (NoSlice slice) Mine.syn3) :
  O2 C A (subscriptTail value slice) (.ref l) (.int k) m H Q := fun s r q S hr hq => by
 refine rE hr.ref_inv ?_; (refine eE hq.int_inv fun u zz1 => ?_; subst zz1)
 obtain ⟨items, n, hI, hvs, hz⟩ := S.toHS.list hl
 refine eEA (hvs.get hv) fun x hx hvx => ?_
 have hx' : items[k.toNat]? = some x := by simpa using hx
 have hk : k.toNat < xs.length := (List.getElem?_eq_some_iff.mp hv).1
 exact tail_any hI.isList.typeIs slot_list_getitem.lookup (wpAny_getItem_list hI.isList h0 (by unfold sizeLine at hsz; lia) hx' (.here S hvx h)) (hs _ _)
theorem qa5 {value slice : PySem.Expr} {l : Addr} {xs : List V} {k : Int} {v : V} (hl : LAt C H l xs) (h0 : k < 0) (h1 : -(xs.length : Int) ≤ k) (hv : xs[(k + xs.length).toNat]? = some v) (hsz : xs.length ≤ sizeLine) (h : Q v m H) (hs : autoParam (NoSlice slice) Mine.syn3) :
  O2 C A (subscriptTail value slice) (.ref l) (.int k) m H Q := fun s r q S hr hq => by
 refine rE hr.ref_inv ?_; (refine eE hq.int_inv fun u zz1 => ?_; subst zz1)
 obtain ⟨items, n, hI, hvs, hz⟩ := S.toHS.list hl
 refine eEA (hvs.get hv) fun x hx hvx => ?_
 have hx' : items[(k + items.size).toNat]? = some x := by refine rE hz ?_; simpa using hx
 exact tail_any hI.isList.typeIs slot_list_getitem.lookup (wpAny_getItem_list_neg hI.isList h0 (by refine rE hz ?_; exact h1) (by unfold sizeLine at hsz; lia) hx' (.here S hvx h)) (hs _ _)
theorem qb8 {value slice : PySem.Expr} {xs : List V} {k : Int} {v : V} (h0 : 0 ≤ k) (hv : xs[k.toNat]? = some v) (hsz : xs.length ≤ sizeLine) (h : Q v m H) (hs : autoParam (NoSlice slice) Mine.syn3) :
  O2 C A (subscriptTail value slice) (.tup xs) (.int k) m H Q := fun s r q S hr hq => by
 obtain ⟨a, items, n, rfl, ho, hvs⟩ := hr.tup_inv; (refine eE hq.int_inv fun u zz1 => ?_; subst zz1)
 refine eEA (hvs.get hv) fun x hx hvx => ?_
 have hk : k.toNat < xs.length := (List.getElem?_eq_some_iff.mp hv).1
 have hz : items.size = xs.length := by have := hvs.length; simp at this; exact Nat.add_right_cancel (congrFun (congrArg HAdd.hAdd (id (Eq.symm this))) a)
 have hj : seqIndex? k items.size = some k.toNat := seqIndex_at h0 (by lia)
 exact tail_any ⟨_, ho, rfl⟩ F.slot_tuple_getitem.lookup (P.getItem_tuple ho (by lia) (by unfold sizeLine at hsz; lia) hj (by simpa using hx) (.here S hvx h)) (hs _ _)
theorem set_list {l : Addr} {xs : List V} {k : Int} {v : V} {QU : Loc → CH → Prop} (hl : H l = some (.list xs)) (h0 : 0 ≤ k) (hk : k < xs.length) (hsz : xs.length ≤ sizeLine) (h : QU m (H.set l (.list (xs.set k.toNat v)))) :
  O3 C A setItem (.ref l) (.int k) v m H QU := fun s r q p S hr hq hp => by
 refine rE hr.ref_inv ?_; (refine eE hq.int_inv fun u zz1 => ?_; subst zz1)
 obtain ⟨items, n, hI, hvs, hz⟩ := S.toHS.list (.own hl)
 unfold setItem
 try with_reducible refine wpAny_holding ?_
 first | refine wpAny_bind (wpAny_pure ?_) | skip
 refine wpAny_bind (wpAny_sequenceKey hI.isList.typeIs (by decide) ?_)
 refine wpAny_bind (wpAny_callSpecial?_slot (name := Str.ofString "__setitem__") hI.isList.typeIs slot_list_setitem
  (wpAny_call_entry slot_list_setitem hI.isList.typeIs entry_list_setitem ?_ (args_list_setitem _ _ _)))
 show wpAny _ _ (Builtin.List.listSubscript? (.int k u) >>= _) _ _ s
 refine wpAny_bind (wpAny_listSubscript_int (fitsIndex_of h0 (by unfold sizeLine at hsz; lia)) ?_)
 refine eE (Int.eq_ofNat_of_zero_le h0) fun j zz1 => ?_; subst zz1
 have hj : j < items.size := by lia
 have hx' : items[j]? = some items[j] := Array.getElem?_eq_getElem hj
 show wpAny _ _ ((seqItemAt l j >>= fun r => pure (r.map (j, ·))) >>= _) _ _ s
 refine wpAny_bind (wpAny_bind (wpAny_seqItemAt hI rfl (wpAny_pure ?_)))
 refine rE hx' ?_
 have fin : PA C H s (fun _ => QU) () { s with heap := s.heap.update l (Obj.mapSeq (·.setIfInBounds j p)) } := by
  refine ⟨m, _, S.upd (tk := s.toks) (c' := .list (xs.set j v)) hl (Heap.SameBut.update ..) (hI.update _) ⟨_, _, rfl, ?_⟩, .upd hl (Heap.SameBut.update ..) (hI.update _), h⟩
  refine rE Array.toList_setIfInBounds ?_; exact hvs.set j hp
 first
  | exact wpAny_bind (wpAny_setSeqItemAt hI rfl (wpAny_pure ⟨_, rfl, wpAny_pure fin⟩))
  | exact wpAny_bind (wpAny_setSeqItemAt hI rfl (wpAny_bind (wpAny_pure (wpAny_pure ⟨_, rfl, wpAny_pure fin⟩))))
  | exact wpAny_setSeqItemAt hI rfl (wpAny_pure ⟨_, rfl, wpAny_pure fin⟩)
end
end
end Mine
end
section
open PySem PySem.Calls PySem.W PyProof.Rows
set_option maxRecDepth 100000
namespace Mine
noncomputable section
section
variable {C : Cx} {A : Around} {m : Loc} {H : CH} {s : Shared}
noncomputable def Turn (Q : Fl → Loc → CH → Prop) (J : Loc → CH → Prop) (fl : Fl) (m₂ : Loc) (H₂ : CH) : Prop := match fl with
 | .next | .cont => J m₂ H₂
 | .brk => Q .next m₂ H₂
 | .ret v => Q (.ret v) m₂ H₂
inductive NextJ (J : Nat → Loc → CH → Prop) (i : Nat) (m : Loc) (H : CH) : Prop
 | mk (m₃ : Loc) (hs : Sub m₃ m) (h : J i m₃ H) : NextJ J i m H
inductive LessJ (J : Nat → Loc → CH → Prop) (n : Nat) (m : Loc) (H : CH) : Prop
 | mk (k : Nat) (m₃ : Loc) (hk : k < n) (hs : Sub m₃ m) (h : J k m₃ H) : LessJ J n m H
theorem ES_while {test : PySem.Expr} {body orelse : List Stmt} {p : Pos} {Q : Fl → Loc → CH → Prop} (I : Nat → Loc → CH → Prop) (n : Nat) (m' : Loc) (hs : Sub m' m) (h0 : I n m' H)
  (turn : ∀ n m H, I n m H → EB C A test m H fun b m₁ H₁ => (b = true → EX C A body m₁ H₁ (Turn Q (LessJ I n))) ∧ (b = false → EX C A orelse m₁ H₁ Q)) :
  ES C A (.While test body orelse p) m H Q := fun s S => by
 refine wpAny_While (codeAny_whileLoop (fun k s' => ∃ m₁ H₁, St C m₁ H₁ s' ∧ After C H s H₁ s' ∧ I k m₁ H₁) ?_ n ⟨m', H, S.sub hs, .refl .., h0⟩)
 rintro k s₁ ⟨m₁, H₁, S₁, af₁, hI⟩
 refine wpAny_noRaise (wpAny_mono (turn k m₁ H₁ hI s₁ S₁) ?_ fun _ _ x => x)
 rintro b s₂ ⟨m₂, H₂, S₂, af₂, h₂⟩
 cases b with
 | false =>
  simp only [Bool.false_eq_true, if_false]
  exact wpAny_noRaise (wpAny_mono (h₂.2 rfl s₂ S₂) (fun _ _ x => (x.mono S₂ (af₁.then S₁ af₂))) fun _ _ x => x)
 | true =>
  simp only [if_true]
  refine wpAny_noRaise (wpAny_mono (h₂.1 rfl s₂ S₂) ?_ fun _ _ x => x)
  rintro f s₃ ⟨fl, m₃, H₃, hf, S₃, af₃, h₃⟩
  have af : After C H s H₃ s₃ := (af₁.then S₁ af₂).then S₂ af₃
  cases fl with
  | next => cases hf; obtain ⟨j, m₄, hj, hs₄, hI₄⟩ := h₃; exact ⟨j, hj, m₄, H₃, S₃.sub hs₄, af, hI₄⟩
  | cont => cases hf; obtain ⟨j, m₄, hj, hs₄, hI₄⟩ := h₃; exact ⟨j, hj, m₄, H₃, S₃.sub hs₄, af, hI₄⟩
  | brk => cases hf; exact ⟨.next, m₃, H₃, rfl, S₃, af, h₃⟩
  | ret v => obtain ⟨r, rfl, hr⟩ := hf; exact ⟨.ret v, m₃, H₃, ⟨r, rfl, hr⟩, S₃, af, h₃⟩
inductive NextR (I : Addr) (ob : Nat → Heap → Obj → Prop) (i : Nat) (v : V) (s : Shared) (r : Option Value) (s' : Shared) : Prop
 | mk (rv : Value) (h' : Heap) (tk : Nat) (o' : Obj) (e1 : r = some rv) (e2 : s' = { s with heap := h', toks := tk }) (hv : VR h' v rv) (hx : Heap.ExtBut I s.heap h') (ho : h'.get? I = some o') (hob : ob (i + 1) s.heap o') : NextR I ob i v s r s'
inductive DoneR (I : Addr) (s : Shared) (r : Option Value) (s' : Shared) : Prop
 | mk (h' : Heap) (tk : Nat) (e1 : r = none) (e2 : s' = { s with heap := h', toks := tk }) (hx : Heap.ExtBut I s.heap h') : DoneR I s r s'
structure Prot (C : Cx) (A : Around) (I : Addr) (ob : Nat → Heap → Obj → Prop) (nx : CH → Nat → Option (Option V)) : Prop where
 plain : ∀ i h o, ob i h o → ¬ Imm o
 nodict : ∀ i h o es ep, ob i h o → o.data ≠ .dict es ep
 kept : ∀ i h h' o, TupKeep h h' → ob i h o → ob i h' o
 item : ∀ H s i o v, HS C H s → H I = none → s.heap.get? I = some o → ob i s.heap o → nx H i = some (some v) →
  wpAny (model C.prog C.w) A (pyNext (.ref I)) (NextR I ob i v s) NoE s
 done : ∀ H s i o, HS C H s → H I = none → s.heap.get? I = some o → ob i s.heap o → nx H i = some none →
  wpAny (model C.prog C.w) A (pyNext (.ref I)) (DoneR I s) NoE s
 own : ∀ (target : PySem.Expr) (v : Value) (s : Shared) (i : Nat) (h : Heap) (o : Obj) (Q : Unit → Shared → Prop), s.heap.get? I = some o → ob i h o → Q () s → wpAny (model C.prog C.w) A (letOwnedTupleGo target (.ref I) v) Q NoE s
 self : ∀ (s : Shared) (i : Nat) (h : Heap) (o : Obj) (E : Value → Shared → Prop) (Q : Value → Shared → Prop), s.heap.get? I = some o → ob i h o → Q (.ref I) s → wpAny (model C.prog C.w) A (pyIter (.ref I)) Q E s
theorem qat {I : Addr} {h h' : Heap} {o : Obj} (ho : h.get? I = some o) (hp : ¬ Imm o) (he : Heap.ExtBut I h h') : TupKeep h h' := fun b o' i e =>
 he b _ (fun q => by subst q; rw [ho] at e; cases e; exact hp i) e
inductive IterR (C : Cx) (A : Around) (nx : CH → Nat → Option (Option V)) (s : Shared) (ri : Value) (s' : Shared) : Prop
 | mk (I : Addr) (ob : Nat → Heap → Obj → Prop) (h' : Heap) (tk : Nat) (o : Obj) (e1 : ri = .ref I) (e2 : s' = { s with heap := h', toks := tk }) (hk : ∀ b o, s.heap.get? b = some o → h'.get? b = some o) (hI : s.heap.get? I = none) (ho : h'.get? I = some o) (hob : ob 0 h' o) (P : Prot C A I ob nx) : IterR C A nx s ri s'
noncomputable def Iterable (C : Cx) (A : Around) (v : V) (H : CH) (nx : CH → Nat → Option (Option V)) : Prop := ∀ s r, HS C H s → VR s.heap v r →
 wpAny (model C.prog C.w) A (pyIter r) (IterR C A nx s) NoE s
inductive ForI (C : Cx) (ob : Nat → Heap → Obj → Prop) (J : Nat → Loc → CH → Prop) (I : Addr) (N : Nat) (H : CH) (s : Shared) (k : Nat) (s' : Shared) : Prop
 | mk (i : Nat) (m' : Loc) (H' : CH) (o : Obj) (hk : k = N + 1 - i) (hS : St C m' H' s') (ha : After C H s H' s') (hI : H' I = none) (ho : s'.heap.get? I = some o) (hob : ob i s'.heap o) (hJ : J i m' H') : ForI C ob J I N H s k s'
theorem for_core {target : PySem.Expr} {body orelse : List Stmt} {Q : Fl → Loc → CH → Prop} {I : Addr} {ob : Nat → Heap → Obj → Prop} {nx : CH → Nat → Option (Option V)} {N : Nat} {J : Nat → Loc → CH → Prop} {R : Result → Shared → Prop}
  (P : Prot C A I ob nx) (hIl : I ≠ C.env.locals) (hIb : C.h₀.get? I = none)
  (hidA : ∀ {H' : CH} {s' : Shared} {h' : Heap} {tk : Nat} {o : Obj}, After C H s H' s' → Heap.ExtBut I s'.heap h' → h'.get? I = some o → After C H s H' { s' with heap := h', toks := tk })
  (done : ∀ m' H' s' i o, St C m' H' s' → After C H s H' s' → H' I = none → s'.heap.get? I = some o → ob i s'.heap o → nx H' i = some none → wpAny (model C.prog C.w) A (pyNext (.ref I)) (fun r s'' => DoneR I s' r s'' ∧ After C H s H' s'') NoE s')
  (turn : ∀ i m H, J i m H → i ≤ N ∧ ((∃ v, nx H i = some (some v) ∧ ASG C A target v m H fun m' H' => EX C A body m' H' (Turn Q (NextJ J (i + 1)))) ∨ (nx H i = some none ∧ EX C A orelse m H Q)))
  (fin : ∀ f s', PF C H s Q f s' → R (.ok f) s') {k : Nat} {s₁ : Shared} (h : ForI C ob J I N H s k s₁) : codeAny (model C.prog C.w) A (.forLoop target (.ref I) body orelse C.env) R s₁ := by
 refine codeAny_forLoop_any (ForI C ob J I N H s) ?_ k h
 rintro k s₃ ⟨i, m₃, H₃, o3, rfl, S₃, af₃, hI3, hob3, hoi3, hJ3⟩
 refine eA (turn i m₃ H₃ hJ3) fun hN h3 => ?_
 rcases h3 with ⟨x, hx, hasg⟩ | ⟨hx, hq⟩
 ·refine wpAny_noRaise (wpAny_mono (P.item H₃ s₃ i o3 x S₃.toHS hI3 hob3 hoi3 hx) ?_ fun _ _ x => x)
  rintro r s₄ ⟨rx, h4, tk4, o4, rfl, rfl, hvx, he, hob4, hoi4⟩
  have S₄ : St C m₃ H₃ { s₃ with heap := h4, toks := tk4 } := S₃.hid hob3 hI3 hIb (fun es ep => P.nodict i _ o3 es ep hoi3) (P.plain i _ o3 hoi3) he
  have af₄ : After C H s H₃ { s₃ with heap := h4, toks := tk4 } := hidA af₃ he hob4
  refine wpAny_noRaise (P.own target rx _ (i + 1) _ o4 _ hob4 hoi4 ?_)
  refine wpAny_noRaise (wpAny_mono (hasg _ rx S₄ hvx) ?_ fun _ _ x => x)
  rintro _ s₅ ⟨m₅, H₅, S₅, af₅, h₅⟩
  refine wpAny_noRaise (wpAny_mono (h₅ s₅ S₅) ?_ fun _ _ x => x)
  rintro f s₆ ⟨fl, m₆, H₆, hf, S₆, af₆, h₆⟩
  have af : After C H s H₆ s₆ := (af₄.then S₄ af₅).then S₅ af₆
  have again : NextJ J (i + 1) m₆ H₆ → ∃ k, k < N + 1 - i ∧ ForI C ob J I N H s k s₆ := by
   rintro ⟨m₇, hs7, hJ7⟩
   have a5 := af₅.grow I _ hI3 hob4
   refine eEA (af₅.stay I _ hIl hI3 hob4) fun o5 b5 k5 => ?_
   rw [k5.exact (fun es ep => P.nodict _ _ o4 es ep hoi4)] at b5
   refine eEA (af₆.stay I _ hIl a5 b5) fun o6 b6 k6 => ?_
   rw [k6.exact (fun es ep => P.nodict _ _ o4 es ep hoi4)] at b6
   exact ⟨N + 1 - (i + 1), by grind, i + 1, m₇, H₆, o4, rfl, S₆.sub hs7, af, af₆.grow I _ a5 b5, b6, P.kept _ _ _ _ (((qat hob3 (P.plain i _ o3 hoi3) he).trans (af₅.tup S₄)).trans (af₆.tup S₅)) hoi4, hJ7⟩
  cases fl with
  | next => cases hf; exact again h₆
  | cont => cases hf; exact again h₆
  | brk => cases hf; exact fin _ _ ⟨.next, m₆, H₆, rfl, S₆, af, h₆⟩
  | ret v => obtain ⟨r, rfl, hr⟩ := hf; exact fin _ _ ⟨.ret v, m₆, H₆, ⟨r, rfl, hr⟩, S₆, af, h₆⟩
 ·refine wpAny_noRaise (wpAny_mono (done m₃ H₃ s₃ i o3 S₃ af₃ hI3 hob3 hoi3 hx) ?_ fun _ _ x => x)
  rintro r s₄ ⟨⟨h4, tk4, rfl, rfl, he⟩, af₄⟩
  have S₄ : St C m₃ H₃ { s₃ with heap := h4, toks := tk4 } := S₃.hid hob3 hI3 hIb (fun es ep => P.nodict i _ o3 es ep hoi3) (P.plain i _ o3 hoi3) he
  exact wpAny_noRaise (wpAny_mono (hq _ S₄) (fun _ _ x => fin _ _ (x.mono S₄ af₄)) fun _ _ x => x)
theorem ES_for {target iter : PySem.Expr} {body orelse : List Stmt} {p : Pos} {Q : Fl → Loc → CH → Prop}
  (h : EV C A iter m H fun v m₁ H₁ => ∃ (nx : CH → Nat → Option (Option V)) (N : Nat) (m₂ : Loc) (J : Nat → Loc → CH → Prop), Iterable C A v H₁ nx ∧ Sub m₂ m₁ ∧ J 0 m₂ H₁ ∧ ∀ i m H, J i m H → i ≤ N ∧
   ((∃ v, nx H i = some (some v) ∧ ASG C A target v m H fun m' H' => EX C A body m' H' (Turn Q (NextJ J (i + 1)))) ∨ (nx H i = some none ∧ EX C A orelse m H Q)))
  (hs : autoParam (∀ x, foldedSetIterable iter C.env x = pure x) Mine.syn2) : ES C A (.For target iter body orelse p) m H Q := fun s S => by
 refine wpAny_For (wpAny_mono (h s S) ?_ fun _ _ x => x) hs
 rintro r s₁ ⟨v, m₁, H₁, rv, S₁, af₁, nx, N, m₂, J, it, hsub, hJ, turn⟩
 refine wpAny_noRaise (wpAny_mono (it s₁ r S₁.toHS rv) ?_ fun _ _ x => x)
 rintro ri s₂ ⟨I, ob, h', tk, o0, rfl, rfl, hk, hI, hob, hob0, P⟩
 have hIl : I ≠ C.env.locals := fun e => by refine eE S₁.at_loc fun o e' => ?_; rw [← e, hI] at e'; cases e'
 have hIb : C.h₀.get? I = none := by
  exact S₁.base_none hI
 have hI1 : H₁ I = none := by
  exact S₁.own_none hI
 have hI0 : s.heap.get? I = none := by
  exact af₁.there_none hI
 refine for_core P hIl hIb (fun a he _ => a.hid hI0 he) (fun m' H' s' i o S' a hI ho hob hn => wpAny_mono (P.done H' s' i o S'.toHS hI ho hob hn) ?_ fun _ _ x => x) turn (fun _ _ x => x) (k := N + 1)
  ⟨0, m₂, H₁, _, rfl, (S₁.more hk).sub hsub, af₁.then S₁ (.more hk), hI1, hob, hob0, hJ⟩
 rintro r s'' ⟨h4, tk4, rfl, rfl, he⟩
 exact ⟨⟨h4, tk4, rfl, rfl, he⟩, a.hid hI0 he⟩
theorem ES_expr {e : PySem.Expr} {p : Pos} {Q : Fl → Loc → CH → Prop} (h : EV C A e m H (KNext Q)) (hi : autoParam (interactive C.env = false) Mine.syn1) (hs : autoParam (swapsWith e none p.line C.env = pure false) Mine.syn1) : ES C A (.Expr e p) m H Q := fun s S => by
 refine wpAny_Expr_any (wpAny_mono (h s S) ?_ fun _ _ x => x) hi hs
 rintro r s₁ ⟨v, m₁, H₁, rv, S₁, af₁, h₁⟩
 exact ⟨.next, m₁, H₁, rfl, S₁, af₁, h₁⟩
theorem EX_exs {e : PySem.Expr} {rest : List Stmt} {p : Pos} {Q : Fl → Loc → CH → Prop} (h : EV C A e m H (KExs C A rest Q)) (hi : autoParam (interactive C.env = false) Mine.syn1) (hs : autoParam (swapsWith e none p.line C.env = pure false) Mine.syn1) : EX C A (.Expr e p :: rest) m H Q :=
 qam (ES_expr h hi hs)
theorem ASG_sub {o i : PySem.Expr} {p : Pos} {v : V} {Q : Loc → CH → Prop} (h : EV C A o m H (KE3 C A i setItem v Q)) : ASG C A (.Subscript o i p) v m H Q := fun s r S hv => by
 refine rE (assign_Subscript ..) ?_
 refine wpAny_bind (wpAny_holding (wpAny_mono (h s S) ?_ fun _ _ x => x))
 rintro a s₁ ⟨ov, m₁, H₁, ra, S₁, af₁, h₁⟩
 refine wpAny_bind (wpAny_holding (wpAny_mono (h₁ s₁ S₁) ?_ fun _ _ x => x))
 rintro b s₂ ⟨iv, m₂, H₂, rb, S₂, af₂, h₂⟩
 refine wpAny_bind (wpAny_standAt (wpAny_bind (wpAny_holding (wpAny_mono (h₂ s₂ a b r S₂ (ra.keep (af₂.tup S₁)) rb ((hv.keep (af₁.tup S)).keep (af₂.tup S₁))) ?_ fun _ _ x => x))))
 rintro _ s₃ x
 have := x.mono S₂ (af₁.then S₁ af₂)
 exact fun Γ p hΓ => by refine rE (Sem.wp_release ..) ?_; exact this
end
end
end Mine
end
section
open PySem PySem.Calls PySem.W PyProof.Rows
set_option maxRecDepth 100000
namespace Mine
noncomputable section
section
variable {C : Cx} {A : Around} {m : Loc} {H : CH} {s : Shared}
noncomputable def KWs (h : Heap) (kws : List (Str × V)) (rkw : List (Str × Value)) : Prop := rkw.map (·.1) = kws.map (·.1) ∧ VRs h (kws.map (·.2)) (rkw.map (·.2))
theorem KWs.keep {h h' : Heap} (k : TupKeep h h') {kws : List (Str × V)} {rkw : List (Str × Value)} (x : KWs h kws rkw) : KWs h' kws rkw := ⟨x.1, x.2.keep k⟩
theorem KWs.nil {h : Heap} : KWs h [] [] := ⟨rfl, .nil⟩
theorem KWs.nil_inv {h : Heap} {rkw : List (Str × Value)} (x : KWs h [] rkw) : rkw = [] := List.map_eq_nil_iff.mp x.1
noncomputable def CALL (C : Cx) (A : Around) (f : V) (vs : List V) (kws : List (Str × V)) (H : CH) (Q : V → CH → Prop) : Prop := ∀ s rf rs rkw, HS C H s → Frs C H s → VR s.heap f rf → VRs s.heap vs rs → KWs s.heap kws rkw →
 codeAny (model C.prog C.w) A (.call rf ⟨rs, rkw⟩) (fun r s' => match r with | .ok (.ret rv) => ∃ v H', VR s'.heap v rv ∧ HS C H' s' ∧ AfterC H s H' s' ∧ Q v H' | _ => False) s
noncomputable def CV (C : Cx) (A : Around) (f : V) (vs : List V) (kws : List (Str × V)) (m : Loc) (H : CH) (Q : V → Loc → CH → Prop) : Prop := ∀ s rf rs rkw, St C m H s → VR s.heap f rf → VRs s.heap vs rs → KWs s.heap kws rkw →
 wpAny (model C.prog C.w) A (call rf rs rkw) (PV C H s Q) NoE s
theorem St.called {H' : CH} {s' : Shared} (S : St C m H s) (S' : HS C H' s') (a : AfterC H s H' s') : St C m H' s' := by
 refine eEA S.ns fun mr hn k => ?_
 obtain ⟨o, es, ep, ho, hd, hk, hf⟩ := hn
 refine eEA (a.stay _ o S.loc ho) fun o' ho' kin => ?_
 exact ⟨S', ⟨mr, ⟨o', es, ep, ho', kin.data.trans hd, hk, hf⟩, k.keep (a.tup S.toHS)⟩, a.grow _ o S.loc ho, S.locb, S.frs.after a⟩
theorem qas {f : V} {vs : List V} {kws : List (Str × V)} {T : V → CH → Prop} (h : ∀ R : V → CH → Prop, (∀ v H', T v H' → R v H') → CALL C A f vs kws H R) : CALL C A f vs kws H T := h T fun _ _ h => h
noncomputable abbrev KAt (m : Loc) (Q : V → Loc → CH → Prop) : V → CH → Prop := fun v H => Q v m H
theorem CV_of {f : V} {vs : List V} {kws : List (Str × V)} {Q : V → Loc → CH → Prop} (h : CALL C A f vs kws H (KAt m Q)) : CV C A f vs kws m H Q := fun s rf rs rkw S hf hv hk => by
 refine wpAny_call (codeAny_mono (h s rf rs rkw S.toHS S.frs hf hv hk) ?_)
 rintro r s' x
 cases r with
 | error e => exact x.elim
 | ok f =>
  cases f with
  | ret rv => obtain ⟨v, H', a, b, c, d⟩ := x; exact ⟨v, m, H', a, S.called b c, c.after, d⟩
  | next => exact x.elim
  | brk => exact x.elim
  | cont => exact x.elim
theorem CALL.mono {f : V} {vs : List V} {kws : List (Str × V)} {Q Q' : V → CH → Prop} (h : CALL C A f vs kws H Q) (q : ∀ v H', Q v H' → Q' v H') : CALL C A f vs kws H Q' := fun s rf rs rkw S F hf hv hk => by
 refine codeAny_mono (h s rf rs rkw S F hf hv hk) ?_
 rintro r s' x
 cases r with
 | error e => exact x.elim
 | ok f =>
  cases f with
  | ret rv => obtain ⟨v, H', a, b, c, d⟩ := x; exact ⟨v, H', a, b, c, q _ _ d⟩
  | next => exact x.elim
  | brk => exact x.elim
  | cont => exact x.elim
noncomputable def KP (C : Cx) (f : V) (H : CH) : Prop := ∀ s rf, HS C H s → VR s.heap f rf → ∃ k, Looks (model C.prog C.w) s.heap (keeperOf rf) k
theorem qad {id : String} : KP C (.con (.builtin id)) H := fun s rf S hf => ⟨.machine, by refine rE hf.con_inv ?_; exact Looks.of_pure rfl⟩
theorem qa3 {n : String} : KP C (.con (.type n)) H := fun s rf S hf => ⟨.machine, by refine rE hf.con_inv ?_; exact Looks.of_pure rfl⟩
theorem looks_keeper_fn {M : Model} {h : Heap} {a : Addr} {o : Obj} {fd : FuncData} (e : h.get? a = some o) (hd : o.data = .func fd) : Looks M h (keeperOf (.ref a)) .frame := by
 intro A Q E s k q
 unfold keeperOf
 refine wpAny_bind (wpAny_load (k _ _ e) ?_)
 refine rE hd ?_; exact wpAny_pure q
theorem KP_fn {a : Addr} {o : Obj} {fd : FuncData} (e : C.h₀.get? a = some o) (hd : o.data = .func fd) : KP C (.con (.ref a)) H := fun s rf S hf => by
 refine rE hf.con_inv ?_; exact ⟨.frame, looks_keeper_fn (S.base _ _ e) hd⟩
theorem qbi {M : Model} {E : Value → Shared → Prop} {pos : Pos} {f : Value} {first : List Value} {args : List (Bool × Sem Value)} {kws : List (Option Str × Sem Value)} {Q : Value → Shared → Prop}
  (h : wpAny M A (evalArgs f true args kws) (fun a s₁ => ∃ k, Looks M s₁.heap (keeperOf f) k ∧ wpAny M A (call f (first ++ a.pos) a.kw) Q E s₁) E s) : wpAny M A (callWith pos f first args kws) Q E s := by
 unfold callWith
 refine wpAny_bind (wpAny_holding (wpAny_mono h (fun a s₁ h₁ => wpAny_bind (wpAny_standAt ?_)) fun _ _ x => x))
 refine eEA h₁ fun k L hc => ?_
 refine wpAny_bind (L.here ?_)
 have tail : ∀ {t : Sem Value}, wpAny M A t Q E s₁ → wpAny M A (t >>= fun r => holding [r] point >>= fun _ => pure r) Q E s₁ :=
  fun ht => wpAny_bind (wpAny_mono ht (fun r s₂ hr => wpAny_bind (wpAny_holding (wpAny_point (wpAny_pure hr)))) fun _ _ x => x)
 have marked (mk : Value) : wpAny M A (callMarked mk f (first ++ a.pos) a.kw) Q E s₁ := by unfold callMarked; exact Calls.wpAny_keep hc
 cases k <;> cases (args.any (·.1) || kws.any (·.1.isNone)) <;> dsimp only <;> first
  | exact tail (marked _)
  | exact tail hc
  | exact tail (wpAny_operating hc)
  | (split <;> first | exact tail hc | exact tail (marked _))
theorem evalArgs_gen {M : Model} {E : Value → Shared → Prop} {f : Value} {args : List (Bool × Sem Value)} {Q : Args → Shared → Prop} (hne : (args.head?.map (·.1)).getD false = false)
  (h : wpAny M A (spliced args) (fun vs s' => Q ⟨vs, []⟩ s') E s) : wpAny M A (evalArgs f true args []) Q E s := by
 match args, hne, h with
 | (false, x) :: r, _, h => exact evalArgs_plain h
 | [], _, h =>
  unfold evalArgs
  show wpAny M A (spliced [] >>= _) Q E s
  refine wpAny_bind (wpAny_mono h (fun vs s' h' => ?_) fun _ _ x => x)
  refine wpAny_bind (wpAny_pure ?_)
  refine wpAny_holding ?_
  exact wpAny_bind (wpAny_pure (wpAny_bind (wpAny_pure (wpAny_pure h'))))
theorem qcb {f : Value} {es : List PySem.Expr} {pos : Pos} {Q : List V → Loc → CH → Prop} {Q' : Args → Shared → Prop} (h : EL C A es m H Q) (hst : ((backTo pos (starEach es C.env)).head?.map (·.1)).getD false = false) (S : St C m H s)
  (hq : ∀ rs s', PL C H s Q rs s' → Q' ⟨rs, []⟩ s') : wpAny (model C.prog C.w) A (evalArgs f true (backTo pos (starEach es C.env)) (backToKw pos (keywordEach [] C.env))) Q' NoE s :=
 evalArgs_gen hst (wpAny_mono (h s pos S) (fun rs s' x => hq rs s' x) fun _ _ x => x)
noncomputable abbrev NoLone (C : Cx) (es : List PySem.Expr) : Prop := ∀ pos, ((backTo pos (starEach es C.env)).head?.map (·.1)).getD false = false
noncomputable abbrev KCl (C : Cx) (A : Around) (Q : V → Loc → CH → Prop) (f : V) : List V → Loc → CH → Prop := fun vs m H => KP C f H ∧ CV C A f vs [] m H Q
noncomputable abbrev KCa (C : Cx) (A : Around) (args : List PySem.Expr) (Q : V → Loc → CH → Prop) : V → Loc → CH → Prop := fun f m H => EL C A args m H (KCl C A Q f)
theorem EV_call {func : PySem.Expr} {args : List PySem.Expr} {p : Pos} {Q : V → Loc → CH → Prop} (h : EV C A func m H (KCa C A args Q))
  (hst : autoParam (NoLone C args) Mine.syn2)
  (he : autoParam (eval (.Call func args [] p) C.env = (do callWith p (← eval func C.env) [] (backTo p (starEach args C.env)) (backToKw p (keywordEach [] C.env)))) Mine.syn1) : EV C A (.Call func args [] p) m H Q := fun s S => by
 refine rE he ?_
 refine wpAny_bind (wpAny_mono (h s S) ?_ fun _ _ x => x)
 rintro rf s₁ ⟨f, m₁, H₁, vf, S₁, af₁, h₁⟩
 refine qbi (qcb h₁ (hst p) S₁ ?_)
 rintro rs s₂ ⟨vs, m₂, H₂, vr, S₂, af₂, hk, h₂⟩
 have vf₂ := vf.keep (af₂.tup S₁)
 obtain ⟨k, L⟩ := hk s₂ rf S₂.toHS vf₂
 exact ⟨k, L, wpAny_mono (h₂ s₂ rf rs [] S₂ vf₂ vr .nil) (fun _ _ x => x.mono S₂ (af₁.then S₁ af₂)) fun _ _ x => x⟩
noncomputable def GM (C : Cx) (A : Around) (o : V) (name : Str) (m : Loc) (H : CH) (Q : V → List V → Prop) : Prop := ∀ s ro (pl : Sem Bool), St C m H s → VR s.heap o ro →
 wpAny (model C.prog C.w) A (getMethod ro name pl) (fun r s' => ∃ f first, VR s'.heap f r.1 ∧ VRs s'.heap first r.2 ∧ s'.heap = s.heap ∧ s'.gens = s.gens ∧ s'.drawn = s.drawn ∧ s'.os = s.os ∧ Q f first) NoE s
noncomputable abbrev KMl (C : Cx) (A : Around) (Q : V → Loc → CH → Prop) (f : V) (first : List V) : List V → Loc → CH → Prop := fun vs m H => KP C f H ∧ CV C A f (first ++ vs) [] m H Q
noncomputable abbrev KMe (C : Cx) (A : Around) (args : List PySem.Expr) (m : Loc) (H : CH) (Q : V → Loc → CH → Prop) : V → List V → Prop := fun f first => EL C A args m H (KMl C A Q f first)
noncomputable abbrev KMo (C : Cx) (A : Around) (name : Str) (args : List PySem.Expr) (Q : V → Loc → CH → Prop) : V → Loc → CH → Prop := fun ov m H => GM C A ov name m H (KMe C A args m H Q)
theorem EV_meth {o : PySem.Expr} {name : Str} {apos p : Pos} {args : List PySem.Expr} {Q : V → Loc → CH → Prop}
  (h : EV C A o m H (KMo C A name args Q))
  (hst : autoParam (NoLone C args) Mine.syn2)
  (hb : autoParam (∀ whole, attributeBase o name C.env whole = whole) Mine.syn2) (hn : autoParam (methodCallForm (args.length + 0) (backTo p (starEach args C.env)) [] = true) Mine.syn1)
  (hp : autoParam (apos.endLine == p.line) Mine.syn1) : EV C A (.Call (.Attribute o name apos) args [] p) m H Q := fun s S => by
 have he : eval (.Call (.Attribute o name apos) args [] p) C.env = (do
   let ov ← attributeBase o name C.env (eval o C.env)
   standAt apos.atName
   methodCall o name apos p C.env ov (args.length + 0) (backTo p (starEach args C.env)) []) := rfl
 refine rE he (rE (hb ..) ?_)
 refine wpAny_bind (wpAny_mono (h s S) ?_ fun _ _ x => x)
 rintro ro s₁ ⟨ov, m₁, H₁, vo, S₁, af₁, h₁⟩
 refine wpAny_bind (wpAny_standAt ?_)
 unfold methodCall
 refine rE hn ?_
 refine wpAny_bind (wpAny_holding ?_)
 show wpAny _ _ (getMethod ro name _) _ _ s₁
 refine wpAny_mono (h₁ s₁ ro _ S₁ vo) ?_ fun _ _ x => x
 rintro ⟨rf, rfirst⟩ s₂ ⟨f, first, vf, vfi, hh, hg, hd, ho, h₂⟩
 have hq : methodCallPos true o C.env apos p = pure p := by unfold methodCallPos; refine rE hp ?_; rfl
 refine rE hq ?_
 refine wpAny_bind (wpAny_pure ?_)
 have S₂ : St C m₁ H₁ s₂ := ⟨⟨by refine rE hh ?_; exact S₁.base, by refine rE hh ?_; exact S₁.own, hg.trans S₁.gens⟩, by refine rE hh ?_; exact S₁.ns, S₁.loc, S₁.locb, by unfold Frs; refine rE hh ?_; exact S₁.frs⟩
 have af₂ : After C H s H₁ s₂ := ⟨by refine rE hh ?_; exact af₁.stay, af₁.grow, by refine rE hh ?_; exact af₁.there, rfl, ho.trans af₁.os⟩
 refine qbi (qcb h₂ (hst p) S₂ ?_)
 rintro rs s₃ ⟨vs, m₃, H₃, vr, S₃, af₃, hk, h₃⟩
 have vf₃ := vf.keep (af₃.tup S₂)
 obtain ⟨k, L⟩ := hk s₃ rf S₃.toHS vf₃
 exact ⟨k, L, wpAny_mono (h₃ s₃ rf _ [] S₃ vf₃ ((vfi.keep (af₃.tup S₂)).append vr) .nil) (fun _ _ x => x.mono S₃ (af₂.then S₂ af₃)) fun _ _ x => x⟩
noncomputable def Binds (C : Cx) (H : CH) (fd : FuncData) (vs : List V) (kws : List (Str × V)) (binds : List (Str × V)) : Prop := ∀ s rs rkw, HS C H s → VRs s.heap vs rs → KWs s.heap kws rkw →
 ∃ rb : List (Str × Value), BindsTo s fd ⟨rs, rkw⟩ rb ∧ KWs s.heap binds rb
theorem qb3 {h : Heap} : ∀ {binds : List (Str × V)} {rb : List (Str × Value)}, KWs h binds rb → ∀ {x : Str} {v : V}, binds.lookup x = some v → ∃ r, rb.lookup x = some r ∧ VR h v r
 | [], _, _, x, v, e => by simp at e
 | (y, w) :: b, rb, k, x, v, e => by
  obtain ⟨k1, k2⟩ := k
  cases rb with
  | nil => simp at k1
  | cons q rb =>
   obtain ⟨z, r⟩ := q
   simp only [List.map_cons, List.cons.injEq] at k1 k2
   obtain ⟨rfl, k1⟩ := k1
   rw [List.lookup_cons] at e ⊢
   cases hb : x == z with
   | true => rw [hb] at e; cases e; exact ⟨r, rfl, k2.head⟩
   | false => rw [hb] at e; exact qb3 ⟨k1, k2.tail⟩ e
theorem VRs.rev {h : Heap} : ∀ {xs : List V} {vs : List Value}, VRs h xs vs → VRs h xs.reverse vs.reverse
 | [], vs, r => by have := r.nil_inv; subst this; exact .nil
 | x :: xs, vs, r => by
  refine eEEAA r.cons_inv fun y ys zz2 a b => ?_; subst zz2
  refine rE List.reverse_cons (rE List.reverse_cons ?_)
  exact b.rev.append (.cons a .nil)
theorem KWs.rev {h : Heap} {binds : List (Str × V)} {rb : List (Str × Value)} (k : KWs h binds rb) : KWs h binds.reverse rb.reverse :=
 ⟨by refine rE List.map_reverse (rE List.map_reverse (rE k.1 rfl)), by refine rE List.map_reverse (rE List.map_reverse ?_); exact k.2.rev⟩
noncomputable abbrev Cx.at (C : Cx) (env : Env) : Cx := { C with env := env, fr := env :: C.fr }
theorem HS.at {env : Env} (S : HS C H s) : HS (C.at env) H s := ⟨S.base, S.own, S.gens⟩
theorem HS.back {env : Env} (S : HS (C.at env) H s) : HS C H s := ⟨S.base, S.own, S.gens⟩
noncomputable def retOf : Fl → V
 | .ret v => v
 | _ => V.none
theorem CALL_def {f : Addr} {o : Obj} {fd : FuncData} {body : List Stmt} {vs : List V} {kws binds : List (Str × V)} {m' : Loc} {Q : V → CH → Prop}
  (ho : C.h₀.get? f = some o) (hd : o.data = .func fd) (hlim : C.h₀.NoLimit) (hcd : C.h₀.CodeRec fd.code fd.qualname) (hbody : fd.body = .stmts body) (hroom : A.depth < recursionLimit)
  (hcell : ∀ x ∈ fd.scope.names, x.2 ≠ .cell) (hb : Binds C H fd vs kws binds) (hloc : ∀ x ∈ binds, fd.scope.names.lookup x.1 = some .local) (hm : m' = binds.reverse)
  (h : ∀ L, H L = none → C.h₀.get? L = none → EX (C.at (callEnv fd L f)) (A.deeper (callEnv fd L f)) body m' H fun fl _ H' => Q (retOf fl) H')
  (hco : autoParam (fd.scope.isCoroutine = false) Mine.syn1) (hgen : autoParam (fd.scope.isGenerator = false) Mine.syn1) (hk : autoParam (fd.scope.kind = .function) Mine.syn1) : CALL C A (.con (.ref f)) vs kws H Q := fun s rf rs rkw S F hf hv hkw => by
 refine rE hf.con_inv ?_
 obtain ⟨rb, hB, hrb⟩ := hb s rs rkw S hv hkw
 have hloc' : ∀ x ∈ rb, fd.scope.names.lookup x.1 = some .local := fun x hx => by
  have : x.1 ∈ binds.map (·.1) := hrb.1 ▸ List.mem_map_of_mem hx
  refine eEA (List.mem_map.mp this) fun y hy e => ?_
  refine rF e ?_; exact hloc y hy
 refine codeAny_call_def hroom (S.base _ _ ho) hd (hlim.keeps S.base) (hcd.keeps S.base) hbody hB hcell hloc' (fun h₁ hns hk₁ => ?_) hco hgen hk
 have hE : (callEnv fd s.heap.objs.size f).locals = s.heap.objs.size := rfl
 have S₁ : St (C.at (callEnv fd s.heap.objs.size f)) m' H { s with heap := h₁, toks := s.toks + rb.length } := by
  refine ⟨(S.more hk₁).at, ⟨_, hns, fun x v e => ?_⟩, S.fresh, S.freshb, fun e he => ?_⟩
  ·subst hm
   exact qb3 (hrb.rev.keep (.of_keep hk₁)) e
  ·rcases List.mem_cons.mp he with rfl | he
   ·obtain ⟨o', es, ep, ho', hd', _⟩ := hns
    exact ⟨hk, hgen, hco, _, o', es, ep, rfl, ho', hd', S.fresh, S.freshb⟩
   ·exact F.keep (s' := { s with heap := h₁ }) (fun b o _ _ _ hn e _ => ⟨hn, o, hk₁ b o e, rfl⟩) e he
 refine wpAny_noRaise (wpAny_mono (h _ S.fresh S.freshb _ S₁) ?_ fun _ _ x => x)
 rintro fl s' ⟨f', m₂, H₂, hfl, S₂, af, q⟩
 have a : AfterC H s H₂ s' := ⟨fun b o hn e => af.stay b o (Nat.ne_of_lt (Heap.lt_size e)) hn (hk₁ b o e), fun b o hn e => af.grow b o hn (hk₁ b o e), fun b o e => af.there b o (hk₁ b o e), af.drawn, af.os⟩
 cases f' with
 | ret v => obtain ⟨r, rfl, hr⟩ := hfl; exact ⟨v, H₂, hr, S₂.toHS.back, a, q⟩
 | next => cases hfl; exact ⟨V.none, H₂, .con, S₂.toHS.back, a, q⟩
 | brk => cases hfl; exact ⟨V.none, H₂, .con, S₂.toHS.back, a, q⟩
 | cont => cases hfl; exact ⟨V.none, H₂, .con, S₂.toHS.back, a, q⟩
theorem Binds.pos1 {fd : FuncData} {x : Str} {v : V} (h : autoParam (∀ r, bindArgs fd ⟨[r], []⟩ = pure [(x, r)]) Mine.syn2) : Binds C H fd [v] [] [(x, v)] := fun s rs rkw S hv hk => by
 have := hk.nil_inv; subst this
 refine eEEAA hv.cons_inv fun r rs zz2 a b => ?_; subst zz2; have := b.nil_inv; subst this
 exact ⟨_, .of_eq (h r), rfl, .cons a .nil⟩
theorem Binds.pos2 {fd : FuncData} {x y : Str} {v w : V} (h : autoParam (∀ r q, bindArgs fd ⟨[r, q], []⟩ = pure [(x, r), (y, q)]) Mine.syn3) : Binds C H fd [v, w] [] [(x, v), (y, w)] := fun s rs rkw S hv hk => by
 have := hk.nil_inv; subst this
 refine eEEAA hv.cons_inv fun r rs zz2 a b => ?_; subst zz2; obtain ⟨q, rs, rfl, a', b⟩ := b.cons_inv; have := b.nil_inv; subst this
 exact ⟨_, .of_eq (h r q), rfl, .cons a (.cons a' .nil)⟩
end
end
end Mine
end
section
open PySem PySem.Calls PySem.W PyProof.Rows
set_option maxRecDepth 100000
namespace Mine
noncomputable section
section
variable {C : Cx} {A : Around} {m : Loc} {H : CH} {s : Shared} {Q : V → Loc → CH → Prop}
theorem tup_lt_eq (a b : Value) : Builtin.«tuple.__lt__» ⟨[a, b], []⟩ = (do
 let (a, [b]) ← slotArgs "__lt__" 1 ⟨[a, b], []⟩ | unsupported "internal:tuple.compare"
 if !(← isInstance b (.type "tuple")) then return ← ret .notImplemented
 let xs ← Builtin.Tuple.tupleItemsOf a
 let ys ← Builtin.Tuple.tupleItemsOf b
 for (x, y) in xs.toList.zip ys.toList do
  if !(← eqBool x y) then
   match CmpOp.Lt with
   | .Eq => return ← ret (.bool false)
   | .NotEq => return ← ret (.bool true)
   | _ => rule "tuple.compare.by-the-first-pair-that-differs"; return ← ret (← richCompare .Lt x y)
 ret (Builtin.Tuple.tupleCompareSizes .Lt xs.size ys.size)) := rfl
theorem VRs.two {h : Heap} {x y : V} {items : Array Value} (r : VRs h [x, y] items.toList) : ∃ a b, items = #[a, b] ∧ VR h x a ∧ VR h y b := by
 refine eEEAA r.cons_inv fun a l e ha r => ?_
 obtain ⟨b, l, rfl, hb, r⟩ := r.cons_inv
 have := r.nil_inv; subst this
 exact ⟨a, b, by apply Array.ext'; rw [e], ha, hb⟩
theorem ltp_raw {a b c d : Int} {r q : Value} {Q : Value → Shared → Prop} (hu : A.units < cLine) (hr : VR s.heap (.tup [.int a, .int b]) r) (hq : VR s.heap (.tup [.int c, .int d]) q) (h : Q (.bool (decide (a < c ∨ (a = c ∧ b < d)))) s) : wpAny (model C.prog C.w) A (richCompare .Lt r q) Q NoE s := by
 obtain ⟨l, items, n, rfl, ho, hv⟩ := hr.tup_inv
 obtain ⟨l2, items2, n2, rfl, ho2, hv2⟩ := hq.tup_inv
 refine eEEAA hv.two fun x0 x1 zz2 h0 h1 => ?_; subst zz2
 refine eEEAA hv2.two fun y0 y1 zz2 g0 g1 => ?_; subst zz2
 refine eE h0.int_inv fun t0 zz1 => ?_; subst zz1; (refine eE h1.int_inv fun t1 zz1 => ?_; subst zz1)
 refine eE g0.int_inv fun u0 zz1 => ?_; subst zz1; (refine eE g1.int_inv fun u1 zz1 => ?_; subst zz1)
 refine wpAny_richCompare_same_room (op := .Lt) (T := "tuple") ⟨_, ho, rfl⟩ ⟨_, ho2, rfl⟩ F.slot_tuple_lt ?_ hu
 refine wpAny_call_entry F.slot_tuple_lt ⟨_, ho, rfl⟩ F.entry_tuple_lt ?_ (F.args_tuple_lt_2 _ _)
 refine rE (tup_lt_eq ..) ?_
 have hi : ∀ {Q : Bool → Shared → Prop}, Q true s → wpAny (model C.prog C.w) A.in1 (isInstance (.ref l2) (.type "tuple")) Q NoE s := fun q => wpAny_isInstance ⟨_, ho2, rfl⟩ AutoSeq1.sub_tuple_tuple q
 refine wpAny_bind (wpAny_pure ?_)
 dsimp only
 refine wpAny_bind (hi ?_)
 simp only [Bool.not_true, Bool.false_eq_true, if_false]
 refine wpAny_bind (wpAny_tupleItemsOf ho rfl ?_)
 refine wpAny_bind (wpAny_tupleItemsOf ho2 rfl ?_)
 have lt0 : ∀ {a b : Int} {t u : Tok} {Q : Value → Shared → Prop}, Q (.bool (decide (a < b))) s → wpAny (model C.prog C.w) A.in1 (richCompare .Lt (.int a t) (.int b u)) Q NoE s := fun q => lt_int q
 have ez : (#[Value.int a t0, Value.int b t1] : Array Value).toList.zip (#[Value.int c u0, Value.int d u1] : Array Value).toList = [(Value.int a t0, Value.int c u0), (Value.int b t1, Value.int d u1)] := rfl
 refine rE ez (rE (List.forIn_cons ..) ?_)
 refine wpAny_bind (wpAny_bind (wpAny_bind (wpAny_eqBool_int ?_)))
 by_cases hac : a = c
 ·subst hac
  simp only [beq_self_eq_true, Bool.not_true, Bool.false_eq_true, if_false]
  refine wpAny_pure ?_
  dsimp only
  refine rE (List.forIn_cons ..) ?_
  refine wpAny_bind (wpAny_bind (wpAny_eqBool_int ?_))
  by_cases hbd : b = d
  ·subst hbd
   simp only [beq_self_eq_true, Bool.not_true, Bool.false_eq_true, if_false]
   refine wpAny_pure ?_
   dsimp only
   refine rE List.forIn_nil ?_
   refine wpAny_pure ?_
   refine wpAny_pure ⟨_, rfl, by unfold Builtin.Tuple.tupleCompareSizes; simp, ?_⟩
   have e : decide (a < a ∨ (a = a ∧ b < b)) = false := by simp
   rw [e] at h
   exact h
  ·have hb' : (b == d) = false := by exact PyProof.Rows.beq_int_false hbd
   simp only [hb', Bool.not_false, if_true]
   refine wpAny_bind (wpAny_rule (wpAny_bind (lt0 (wpAny_bind (wpAny_pure (wpAny_pure ?_))))))
   refine wpAny_pure (wpAny_pure ⟨_, rfl, by (intro h; injection h), ?_⟩)
   have e : decide (a < a ∨ (a = a ∧ b < d)) = decide (b < d) := by simp
   rw [e] at h
   exact h
 ·have hb' : (a == c) = false := by exact PyProof.Rows.beq_int_false hac
  simp only [hb', Bool.not_false, if_true]
  refine wpAny_bind (wpAny_rule (wpAny_bind (lt0 (wpAny_bind (wpAny_pure (wpAny_pure ?_))))))
  refine wpAny_pure (wpAny_pure ⟨_, rfl, by (intro h; injection h), ?_⟩)
  have e : decide (a < c ∨ (a = c ∧ b < d)) = decide (a < c) := by simp [hac]
  rw [e] at h
  exact h
end
end
end Mine
end
section
open PySem PySem.Calls PySem.W PyProof.Rows
set_option maxRecDepth 100000
namespace Mine
noncomputable section
section
variable {C : Cx} {A : Around} {m : Loc} {H : CH} {s : Shared} {Q : V → Loc → CH → Prop}
theorem qa8 {l : Addr} {xs : List V} {name : Str} {id : String} {Q : V → List V → Prop} (hl : LAt C H l xs) (slot : Slot "list" name id) (hty : typeOf (.builtin id) = pure (.type "method_descriptor")) (h : Q (.con (.builtin id)) [.ref l]) :
  GM C A (.ref l) name m H Q := fun s ro pl S hr => by
 refine rE hr.ref_inv ?_
 obtain ⟨items, n, hI, hv, hz⟩ := S.toHS.list hl
 exact getMethod_builtin ⟨_, hI, rfl⟩ F.plainAttrs_list slot hty (fun a e => by cases e; exact ⟨_, hI, rfl⟩) ⟨_, _, .con, .cons .ref .nil, rfl, rfl, rfl, rfl, h⟩
theorem PV.upd {a : Addr} {c c' : CObj} {v : V} {r : Value} (S : St C m H s) (hc : H a = some c) {h' : Heap} {o' : Obj} {tk : Nat} (hs : Heap.SameBut a s.heap h') (ho : h'.get? a = some o') (hr : ORep C s.heap c' o') (hv : VR s.heap v r) (q : Q v m (H.set a c')) : PV C H s Q r { s with heap := h', toks := tk } :=
 ⟨v, m, _, hv.keep (S.toHS.upd (tk := tk) hc hs ho hr).2, S.upd hc hs ho hr, .upd hc hs ho, q⟩
theorem qbm {h : Heap} {x y : V} {rs : List Value} (r : VRs h [x, y] rs) : ∃ a b, rs = [a, b] ∧ VR h x a ∧ VR h y b := by
 obtain ⟨a, l, rfl, ha, r⟩ := r.cons_inv
 obtain ⟨b, l, rfl, hb, r⟩ := r.cons_inv
 have := r.nil_inv; subst this
 exact ⟨a, b, rfl, ha, hb⟩
theorem qax {h : Heap} {x : V} {rs : List Value} (r : VRs h [x] rs) : ∃ a, rs = [a] ∧ VR h x a := by
 obtain ⟨a, l, rfl, ha, r⟩ := r.cons_inv
 have := r.nil_inv; subst this
 exact ⟨a, rfl, ha⟩
theorem qbe {h : Heap} {x y z : V} {rs : List Value} (r : VRs h [x, y, z] rs) : ∃ a b c, rs = [a, b, c] ∧ VR h x a ∧ VR h y b ∧ VR h z c := by
 obtain ⟨a, l, rfl, ha, r⟩ := r.cons_inv
 obtain ⟨b, c, rfl, hb, hc⟩ := qbm r
 exact ⟨a, b, c, rfl, ha, hb, hc⟩
theorem qch {l : Addr} {xs : List V} {v : V} (hl : H l = some (.list xs)) (hsz : xs.length ≤ sizeLine) (h : Q V.none m (H.set l (.list (xs ++ [v])))) : CV C A (.con (.builtin "list.append")) [.ref l, v] [] m H Q := fun s rf rs rkw S hf hv hk => by
 have := hk.nil_inv; subst this
 refine rE hf.con_inv ?_
 refine eEEAA (qbm hv) fun a b zz2 ha hb => ?_; subst zz2
 refine rE ha.ref_inv ?_
 obtain ⟨items, n, hI, hvs, hz⟩ := S.toHS.list (.own hl)
 refine call_meets F.slot_list_append ⟨_, hI, rfl⟩ F.entry_list_append (F.args_list_append_2 _ _) (list_append l items n b (by lia)) ⟨hI, ?_⟩
 exact PV.upd (c' := .list (xs ++ [v])) S hl (Heap.SameBut.update ..) (hI.update _) ⟨_, _, rfl, by refine rE Array.toList_push ?_; exact hvs.append (.cons hb .nil)⟩ .con h
theorem CV_pop {l : Addr} {xs : List V} {v : V} (hl : H l = some (.list (xs ++ [v]))) (hsz : xs.length + 1 ≤ sizeLine) (h : Q v m (H.set l (.list xs))) : CV C A (.con (.builtin "list.pop")) [.ref l] [] m H Q := fun s rf rs rkw S hf hv hk => by
 have := hk.nil_inv; subst this
 refine rE hf.con_inv ?_
 refine eEA (qax hv) fun a zz1 ha => ?_; subst zz1
 refine rE ha.ref_inv ?_
 obtain ⟨items, n, hI, hvs, hz⟩ := S.toHS.list (.own hl)
 have hz' : items.size = xs.length + 1 := by refine rE hz ?_; simp
 refine eEA (hvs.get (i := xs.length) (x := v) (by exact List.getElem?_concat_length)) fun y hy hvy => ?_
 have hy' : items[items.size - 1]? = some y := by refine rE hz' (rE (Nat.add_sub_cancel ..) ?_); simpa using hy
 refine call_meets F.slot_list_pop ⟨_, hI, rfl⟩ F.entry_list_pop (F.args_list_pop_1 _) (MeetsSeq.list_pop_last l items n y hy' (by lia)) ⟨hI, ?_⟩
 refine PV.upd (c' := .list xs) S hl (Heap.SameBut.update ..) (hI.update _) ⟨_, _, rfl, ?_⟩ hvy h
 have e : (items.eraseIdxIfInBounds (items.size - 1)).toList = items.toList.eraseIdx xs.length := by
  refine rE hz' (rE (Nat.add_sub_cancel ..) (rE Array.eraseIdxIfInBounds_eq (rE (dif_pos (by lia)) (rE Array.toList_eraseIdx rfl))))
 refine rE e ?_
 have := hvs.eraseIdx xs.length
 rwa [show (xs ++ [v]).eraseIdx xs.length = xs from by rw [List.eraseIdx_append_of_length_le (Nat.le_refl _)]; simp] at this
theorem CV_pop_at {l : Addr} {xs : List V} {v : V} {i : Int} (hl : H l = some (.list xs)) (h0 : 0 ≤ i) (hv : xs[i.toNat]? = some v) (hsz : xs.length ≤ sizeLine) (h : Q v m (H.set l (.list (xs.eraseIdx i.toNat)))) : CV C A (.con (.builtin "list.pop")) [.ref l, .int i] [] m H Q := fun s rf rs rkw S hf hva hk => by
 have := hk.nil_inv; subst this
 refine rE hf.con_inv ?_
 refine eEEAA (qbm hva) fun a b zz2 ha hb => ?_; subst zz2
 refine rE ha.ref_inv ?_; (refine eE hb.int_inv fun u zz1 => ?_; subst zz1)
 obtain ⟨items, n, hI, hvs, hz⟩ := S.toHS.list (.own hl)
 refine eEA (hvs.get hv) fun y hy hvy => ?_
 have hlt : i.toNat < xs.length := (List.getElem?_eq_some_iff.mp hv).1
 refine call_meets F.slot_list_pop ⟨_, hI, rfl⟩ F.entry_list_pop (F.args_list_pop_2 _ _) (MeetsSeq.list_pop_at l items n i u i.toNat y (fitsIndex_of h0 (by unfold sizeLine at hsz; lia)) (seqIndex_at h0 (by lia)) (by simpa using hy) (by lia)) ⟨hI, ?_⟩
 refine PV.upd (c' := .list (xs.eraseIdx i.toNat)) S hl (Heap.SameBut.update ..) (hI.update _) ⟨_, _, rfl, ?_⟩ hvy h
 refine rE Array.eraseIdxIfInBounds_eq (rE (dif_pos (by exact Nat.lt_of_lt_of_eq hlt (id (Eq.symm hz)))) (rE Array.toList_eraseIdx ?_))
 exact hvs.eraseIdx _
theorem CV_clear {l : Addr} {xs : List V} (hl : H l = some (.list xs)) (hsz : xs.length ≤ sizeLine) (h : Q V.none m (H.set l (.list []))) : CV C A (.con (.builtin "list.clear")) [.ref l] [] m H Q := fun s rf rs rkw S hf hva hk => by
 have := hk.nil_inv; subst this
 refine rE hf.con_inv ?_
 refine eEA (qax hva) fun a zz1 ha => ?_; subst zz1
 refine rE ha.ref_inv ?_
 obtain ⟨items, n, hI, hvs, hz⟩ := S.toHS.list (.own hl)
 refine call_meets F.slot_list_clear ⟨_, hI, rfl⟩ F.entry_list_clear (F.args_list_clear_1 _) (AutoSeq1.list_clear_list_0 l items n (by omega)) ⟨hI, ?_⟩
 exact PV.upd (c' := .list []) S hl (Heap.SameBut.update ..) (hI.update _) ⟨_, _, rfl, .nil⟩ .con h
theorem CV_insert {l : Addr} {xs : List V} {v : V} {i : Int} (hl : H l = some (.list xs)) (h0 : 0 ≤ i) (hi : i ≤ xs.length) (hsz : xs.length ≤ sizeLine) (h : Q V.none m (H.set l (.list (xs.take i.toNat ++ v :: xs.drop i.toNat)))) :
  CV C A (.con (.builtin "list.insert")) [.ref l, .int i, v] [] m H Q := fun s rf rs rkw S hf hva hk => by
 have := hk.nil_inv; subst this
 refine rE hf.con_inv ?_
 obtain ⟨a, b, c, rfl, ha, hb, hc⟩ := qbe hva
 refine rE ha.ref_inv ?_; (refine eE hb.int_inv fun u zz1 => ?_; subst zz1)
 obtain ⟨items, n, hI, hvs, hz⟩ := S.toHS.list (.own hl)
 have hfit : Builtin.List.listFitsIndex i = true := fitsIndex_of h0 (by unfold sizeLine at hsz; lia)
 refine call_meets F.slot_list_insert ⟨_, hI, rfl⟩ F.entry_list_insert (F.args_list_insert_3 _ _ _) (AutoSeq1.list_insert_list_int_val_1 l items n i u c (by refine rE hfit ?_; simp) (by omega)) ⟨hI, ?_⟩
 refine PV.upd (c' := .list (xs.take i.toNat ++ v :: xs.drop i.toNat)) S hl (Heap.SameBut.update ..) (hI.update _) ⟨_, _, rfl, ?_⟩ .con h
 have e : (if i < 0 then (i + (items.size : Int)).toNat else min i.toNat items.size) = i.toNat := by refine rE (if_neg (by exact Int.not_lt_of_ge h0)) ?_; grind
 dsimp only
 refine rE e (rE Array.toList_append (rE Array.toList_push (rE Array.toList_extract (rE Array.toList_extract ?_))))
 simp only [List.extract_eq_drop_take, List.drop_zero, Nat.sub_zero]
 have e2 : List.take (items.size - i.toNat) (List.drop i.toNat items.toList) = List.drop i.toNat items.toList := by
  apply List.take_of_length_le; simp
 refine rE e2 (rE (List.append_assoc ..) ?_)
 exact (hvs.take _).append (.cons hc (hvs.drop _))
theorem CV_len {l : Addr} {xs : List V} (hl : LAt C H l xs) (hsz : xs.length ≤ sizeLine) (h : Q (.int xs.length) m H) : CV C A (.con (.builtin "len")) [.ref l] [] m H Q := fun s rf rs rkw S hf hva hk => by
 have := hk.nil_inv; subst this
 refine rE hf.con_inv ?_
 refine eEA (qax hva) fun a zz1 ha => ?_; subst zz1
 refine rE ha.ref_inv ?_
 obtain ⟨items, n, hI, hvs, hz⟩ := S.toHS.list hl
 refine call_len_list hI.isList (by unfold sizeLine at hsz; lia) ?_
 refine rE hz ?_; exact .same S .int h _
theorem CV_len_tup {xs : List V} (hsz : xs.length ≤ sizeLine) (h : Q (.int xs.length) m H) : CV C A (.con (.builtin "len")) [.tup xs] [] m H Q := fun s rf rs rkw S hf hva hk => by
 have := hk.nil_inv; subst this
 refine rE hf.con_inv ?_
 refine eEA (qax hva) fun a zz1 ha => ?_; subst zz1
 obtain ⟨t, items, n, rfl, ho, hvs⟩ := ha.tup_inv
 have hz : items.size = xs.length := by have := hvs.length; simp at this; exact Nat.add_right_cancel (congrFun (congrArg HAdd.hAdd (id (Eq.symm this))) t)
 refine len_tuple ⟨_, ho, rfl, n, rfl⟩ (by unfold sizeLine at hsz; omega) ?_
 refine rE hz ?_; exact .same S .int h _
theorem add_lists {l b : Addr} {xs ys : List V} (hl : LAt C H l xs) (hb : LAt C H b ys) (hsz : xs.length + ys.length ≤ sizeLine) (h : ∀ a, H a = none → Q (.ref a) m (H.set a (.list (xs ++ ys)))) : O2 C A (binaryOp .Add) (.ref l) (.ref b) m H Q := fun s r q S hr hq => by
 refine rE hr.ref_inv (rE hq.ref_inv ?_)
 obtain ⟨items, n, hI, hvs, hz⟩ := S.toHS.list hl
 obtain ⟨items2, n2, hI2, hvs2, hz2⟩ := S.toHS.list hb
 refine P.add_list hI hI2 ?_ (by lia)
 exact ⟨_, m, _, .ref, S.alloc (c := .list (xs ++ ys)) ⟨_, 0, rfl, by refine rE Array.toList_append ?_; exact hvs.append hvs2⟩, .alloc, h _ S.toHS.fresh⟩
end
end
end Mine
end
section
open PySem PySem.Calls PySem.W PyProof.Rows
set_option maxRecDepth 100000
namespace Mine
noncomputable section
structure Bs (h₀ : Heap) (K : Frag) (mg mb : Str → Option Value) : Prop where
 X : K.In h₀
 lim : h₀.NoLimit
 g : h₀.Ns mainGlobals mg
 b : h₀.Ns builtinsNs mb
 boot : ∀ x : Str, x ≠ ("__name__" : Str) → mb x = bootBuiltins x
 sys : ∃ o, h₀.get? sysModules = some o
 bm : ∃ bm ob, mg "__builtins__" = some (.ref bm) ∧ bm ≠ builtinsNs ∧ h₀.get? bm = some ob ∧ ob.cls = .type "module" ∧ ob.dict = some builtinsNs ∧ ob.data = .plain
theorem mg_none {K : Frag} {h : Heap} {mg : Str → Option Value} {n : Str} (X : K.In h) (G : h.Ns mainGlobals mg) (e : nsIn K mainGlobals n = some none) : mg n = none := mg_none_of X G e
structure AOK (C : Cx) (A : Around) (n : Nat) : Prop where
 handled : A.handled = none
 depth : A.depth + n < recursionLimit
 units : A.units + 4 * n + 40 < cLine
 frames : A.frames = some C.fr
theorem AOK.at {C : Cx} {A : Around} {n : Nat} {env : Env} (h : AOK C A (n + 1)) : AOK (C.at env) (A.deeper env) n :=
 ⟨h.handled, by have := h.depth; show A.depth + 1 + n < _; lia, by have := h.units; show A.units + 3 + 4 * n + 40 < _; lia, Around.frames_deeper h.frames⟩
theorem AOK.u10 {C : Cx} {A : Around} {n : Nat} (h : AOK C A n) : A.units + 10 < cLine := by have := h.units; lia
theorem AOK.room {C : Cx} {A : Around} {n : Nat} (h : AOK C A n) : A.depth < recursionLimit := by have := h.depth; exact Nat.lt_of_add_right_lt this
section
variable {C : Cx} {A : Around} {m : Loc} {H : CH} {s : Shared} {Q : V → Loc → CH → Prop} {K : Frag} {mg mb : Str → Option Value}
theorem EV_g {x : Str} {p : Pos} {v : Value} (B : Bs C.h₀ K mg mb) (e : nsIn K mainGlobals x = some (some v)) (h : Q (.con v) m H) (hG : autoParam (C.env.globals = mainGlobals) Mine.syn1)
  (hk : autoParam (C.env.scope.kind = .function) Mine.syn1) (hl : autoParam (C.env.kindOf x = some .globalImplicit) Mine.syn1) (hd : autoParam ((x == ("__debug__" : Str)) = false) Mine.syn4) : EV C A (.Name x p) m H Q := fun s S =>
 Name_function_global hk hl (loadGlobal_global (hG ▸ B.g.keeps S.base) (mg_of B.X B.g e) (.here S .con h)) hd
theorem EV_b {x : Str} {p : Pos} {v : Value} (B : Bs C.h₀ K mg mb) (e : nsIn K mainGlobals x = some none) (hv : bootBuiltins x = some v) (h : Q (.con v) m H) (hn : autoParam (x ≠ ("__name__" : Str)) Mine.syn4) (hG : autoParam (C.env.globals = mainGlobals) Mine.syn1) (hB : autoParam (C.env.builtins = builtinsNs) Mine.syn1)
  (hk : autoParam (C.env.scope.kind = .function) Mine.syn1) (hl : autoParam (C.env.kindOf x = some .globalImplicit) Mine.syn1) (hd : autoParam ((x == ("__debug__" : Str)) = false) Mine.syn4) : EV C A (.Name x p) m H Q := fun s S =>
 Name_function_global hk hl (loadGlobal_builtin (hG ▸ B.g.keeps S.base) (mg_none B.X B.g e) (hB ▸ B.b.keeps S.base) ((B.boot x hn).trans hv) (.here S .con h)) hd
theorem KP_K {f : Addr} {name qual : Str} {params : Arguments} {body : List Stmt} {scope : Scope} {cl : List (Str × Addr)} {dV kV doc pm cdv ct oc : Value} {an od : Option Addr} {osl : Array (Option Value)} (B : Bs C.h₀ K mg mb)
  (ho : K.lookup f = some ⟨oc, od, .func (fnX name qual params body scope cl dV kV doc pm an cdv ct), osl⟩) : KP C (.con (.ref f)) H := KP_fn (B.X _ _ ho) rfl
theorem CALL_K {f : Addr} {name qual : Str} {params : Arguments} {body : List Stmt} {scope : Scope} {cl : List (Str × Addr)} {dV kV doc pm cdv ct oc : Value} {an od : Option Addr} {osl : Array (Option Value)} {vs : List V} {kws binds : List (Str × V)} {m' : Loc} {Q : V → CH → Prop}
  (B : Bs C.h₀ K mg mb) (ho : K.lookup f = some ⟨oc, od, .func (fnX name qual params body scope cl dV kV doc pm an cdv ct), osl⟩) (hcd : codeIn K cdv qual = true) {n : Nat} (hA : AOK C A (n + 1))
  (hb : Binds C H (fnX name qual params body scope cl dV kV doc pm an cdv ct) vs kws binds) (hok : (scope.names.all (fun x => x.2 != .cell) && binds.all (fun x => scope.names.lookup x.1 == some .local) && !scope.isCoroutine && !scope.isGenerator && scope.kind == .function) = true) (hm : m' = binds.reverse)
  (h : ∀ L, H L = none → C.h₀.get? L = none → AOK (C.at (callEnv (fnX name qual params body scope cl dV kV doc pm an cdv ct) L f)) (A.deeper (callEnv (fnX name qual params body scope cl dV kV doc pm an cdv ct) L f)) n → EX (C.at (callEnv (fnX name qual params body scope cl dV kV doc pm an cdv ct) L f)) (A.deeper (callEnv (fnX name qual params body scope cl dV kV doc pm an cdv ct) L f)) body m' H fun fl _ H' => Q (retOf fl) H') :
  CALL C A (.con (.ref f)) vs kws H Q := by
 simp only [Bool.and_eq_true, List.all_eq_true, Bool.not_eq_true', beq_iff_eq, bne_iff_ne] at hok
 refine eA hok fun zz0 h5 => ?_; obtain ⟨⟨⟨h1, h2⟩, h3⟩, h4⟩ := zz0
 exact CALL_def (B.X _ _ ho) rfl B.lim (codeRec_of B.X hcd) rfl hA.room h1 hb h2 hm (fun L hL hL0 => h L hL hL0 hA.at) h3 h4 h5
theorem EX_mid {st : Stmt} {rest : List Stmt} {Q : Fl → Loc → CH → Prop} (R : Loc → CH → Prop) (h : ES C A st m H (SeqK R Q)) (k : ∀ m₁ H₁, R m₁ H₁ → EX C A rest m₁ H₁ Q) : EX C A (st :: rest) m H Q :=
 qam (h.mono fun fl m₁ H₁ q => by cases fl <;> first | exact k _ _ q | exact q)
theorem CH.set_set {H : CH} {a : Addr} {c d : CObj} : (H.set a c).set a d = H.set a d := by
 funext b; unfold CH.set; split <;> rfl
theorem CH.set_self {H : CH} {a : Addr} {c : CObj} (h : H a = some c) : H.set a c = H := by
 funext b; unfold CH.set; split
 ·subst b; exact h.symm
 ·rfl
end
end
end Mine
end
section
open PySem PySem.Calls PySem.W PyProof.Rows
set_option maxRecDepth 100000
namespace Mine
noncomputable section
section
variable {C : Cx} {A : Around} {m : Loc} {H : CH} {s : Shared}
noncomputable def SeqOf (C : Cx) (A : Around) (v : V) (H : CH) (xs : List V) (ok : CH → Prop) : Prop := ∃ nx, Iterable C A v H nx ∧ ∀ H' i, ok H' → nx H' i = some xs[i]?
theorem qaj {o : Obj} {T : String} (h : o.cls = .type T) (hT : immCls.contains T = false) (hv : ∀ vs x t, o.data = .fields vs → vs[1]? ≠ some (.str x t)) : ¬ Imm o := fun ⟨_, hcl, _⟩ => by
 rcases hcl with ⟨T', hT', hc⟩ | ⟨vs, x, t, e, q⟩
 ·rw [h] at hc; cases hc
  have : immCls.contains T = true := List.contains_iff_mem.mpr hT'
  rw [hT] at this; cases this
 ·exact hv vs x t e q
set_option tactic.hygienic true in
theorem qa0 {M : Model} {E : Value → Shared → Prop} {target : PySem.Expr} {I : Addr} {v : Value} {o : Obj} {T : String} {Q : Unit → Shared → Prop} (ho : s.heap.get? I = some o) (hc : o.cls = .type T)
  (hT : (["enumerate", "zip", "dict_itemiterator", "dict_reverseitemiterator", "odict_iterator", "itertools.zip_longest", "itertools.pairwise"].contains T) = false) (h : Q () s) :
  wpAny M A (letOwnedTupleGo target (.ref I) v) Q E s := by
 have key : wpAny M A (do
  let (.ref r, .ref a) := (Value.ref I, v) | return
  let o ← load r
  match o.cls, o.data with
  | .type n, .fields vs =>
   if ["enumerate", "zip", "dict_itemiterator", "dict_reverseitemiterator", "odict_iterator", "itertools.zip_longest", "itertools.pairwise"].contains n && vs[0]? == some (rawInt a) then
    rule "for.unpacks-the-owned-tuple"
    updateField r 0 .none
  | _, _ => pure () : Sem Unit) Q E s := by
  cases v with
  | ref a =>
   refine wpAny_bind (wpAny_load ho ?_)
   refine rE hc ?_
   split
   ·rename_i n vs h1 h2
    cases h1
    refine rE hT (rE (Bool.false_and ..) ?_)
    exact wpAny_pure h
   ·exact wpAny_pure h
  | _ => exact wpAny_pure h
 unfold letOwnedTupleGo
 cases target <;> first | exact wpAny_pure h | exact key
noncomputable def nxList (l : Addr) (H : CH) (i : Nat) : Option (Option V) := match H l with
 | some (.list xs) => some xs[i]?
 | _ => none
theorem prot_list {I l : Addr} {nx : CH → Nat → Option (Option V)} (hA : A.handled = none) (hne : l ≠ I) (hx : ∀ H i x, nx H i = some x → ∃ xs, LAt C H l xs ∧ x = xs[i]?) :
  Prot C A I (fun i _ o => o.cls = .type "list_iterator" ∧ o.data = .fields #[.ref l, .int i 0]) nx where
 plain := fun i _ o h e => qaj h.1 (by decide) (by intro vs x t e q; rw [h.2] at e; cases e; cases q) e
 nodict := fun i _ o es ep h e => by rw [h.2] at e; cases e
 kept := fun _ _ _ _ _ h => h
 item := fun H s i o v S hI ho hob hn => by
  refine eEA (hx H i _ hn) fun xs hl hv => ?_
  obtain ⟨items, n, hL, hvs, hz⟩ := S.list hl
  refine eEA (hvs.get hv.symm) fun r hr hvr => ?_
  refine wpAny_pyNext_list_item ⟨o, ho, hob.1, hob.2⟩ hL.isList (by simpa using hr) fun h' hit hs => ?_
  obtain ⟨o', ho', hc', hd'⟩ := hit
  refine ⟨r, h', s.toks, o', rfl, rfl, hvr.keep (qat ho (fun e => qaj hob.1 (by decide) (by intro vs x t e q; rw [hob.2] at e; cases e; cases q) e) hs.extBut), hs.extBut, ho', hc', hd'⟩
 done := fun H s i o S hI ho hob hn => by
  refine eEA (hx H i _ hn) fun xs hl hv => ?_
  obtain ⟨items, n, hL, hvs, hz⟩ := S.list hl
  have : items[i]? = none := by
   have : xs.length ≤ i := List.getElem?_eq_none_iff.mp hv.symm
   exact Array.getElem?_eq_none (by lia)
  exact wpAny_pyNext_list_end hA ⟨o, ho, hob.1, hob.2⟩ hL.isList this fun h' he => ⟨h', s.toks, rfl, rfl, he⟩
 own := fun target v s i _ o Q ho hob h => qa0 ho hob.1 (by decide) h
 self := fun s i _ o E Q ho hob h => wpAny_pyIter_listiter (i := i) ⟨o, ho, hob.1, hob.2⟩ h
theorem qbn : s.heap.get? s.heap.objs.size = none := by
 cases e : s.heap.get? s.heap.objs.size with
 | none => rfl
 | some o => exact absurd (Heap.lt_size e) (Nat.lt_irrefl _)
set_option tactic.hygienic true in
theorem qce {l : Addr} {xs : List V} (hA : A.handled = none) (h : H l = some (.list xs)) : SeqOf C A (.ref l) H xs (fun H' => H' l = some (.list xs)) := by
 refine ⟨nxList l, fun s r S hr => ?_, fun H' i ok => ?_⟩
 ·refine rE hr.ref_inv ?_
  obtain ⟨items, n, hL, hvs, hz⟩ := S.list (.own h)
  refine wpAny_pyIter_list hL.isList ⟨s.heap.objs.size, fun i _ o => o.cls = .type "list_iterator" ∧ o.data = .fields #[.ref l, .int i 0], _, s.toks, _, rfl, rfl, qae _ _, qbn, Heap.get?_push_size _ rfl, ⟨rfl, rfl⟩, prot_list hA ?_ ?_⟩
  ·exact Nat.ne_of_lt (Heap.lt_size hL)
  ·intro H i x e
   unfold nxList at e
   split at e
   ·rename_i xs hx; cases e; exact ⟨xs, .own hx, rfl⟩
   ·cases e
 ·unfold nxList; refine rE ok rfl
theorem seq_base {l : Addr} {xs : List V} (hA : A.handled = none) {items : Array Value} {n : Nat} (h : C.h₀.get? l = some (seqObj "list" items n)) (hv : VRs C.h₀ xs items.toList) : SeqOf C A (.ref l) H xs (fun _ => True) := by
 refine ⟨fun _ i => some xs[i]?, fun s r S hr => ?_, fun H' i ok => rfl⟩
 refine rE hr.ref_inv ?_
 have hL : s.heap.get? l = some (seqObj "list" items n) := S.base _ _ h
 refine wpAny_pyIter_list (IsL.isList hL) ⟨s.heap.objs.size, fun i _ o => o.cls = .type "list_iterator" ∧ o.data = .fields #[.ref l, .int i 0], _, s.toks, _, rfl, rfl, qae _ _, qbn, Heap.get?_push_size _ rfl, ⟨rfl, rfl⟩, prot_list hA ?_ ?_⟩
 ·exact Nat.ne_of_lt (Heap.lt_size hL)
 ·intro H i x e; cases e; exact ⟨xs, .base items n h hv, rfl⟩
theorem prot_tup {I t : Addr} {xs : List V} (hA : A.handled = none) (hne : t ≠ I) :
  Prot C A I (fun i h o => (o.cls = .type "tuple_iterator" ∧ o.data = .fields #[.ref t, .int i 0]) ∧ VR h (.tup xs) (.ref t)) (fun _ i => some xs[i]?) where
 plain := fun i _ o h e => qaj h.1.1 (by decide) (by intro vs x t e q; rw [h.1.2] at e; cases e; cases q) e
 nodict := fun i _ o es ep h e => by rw [h.1.2] at e; cases e
 kept := fun _ _ _ _ k h => ⟨h.1, h.2.keep k⟩
 item := fun H s i o v S hI ho hob hn => by
  obtain ⟨t', items, n, e, ht, hvs⟩ := hob.2.tup_inv
  cases e
  refine eEA (hvs.get (Option.some.inj hn)) fun r hr hvr => ?_
  refine wpAny_pyNext_tuple_item ⟨o, ho, hob.1.1, hob.1.2⟩ ⟨_, ht, rfl, n, rfl⟩ (by simpa using hr) fun h' hit hs => ?_
  obtain ⟨o', ho', hc', hd'⟩ := hit
  have k : TupKeep s.heap h' := qat ho (fun e => qaj hob.1.1 (by decide) (by intro vs x t e q; rw [hob.1.2] at e; cases e; cases q) e) hs.extBut
  exact ⟨r, h', s.toks, o', rfl, rfl, hvr.keep k, hs.extBut, ho', ⟨hc', hd'⟩, hob.2⟩
 done := fun H s i o S hI ho hob hn => by
  obtain ⟨t', items, n, e, ht, hvs⟩ := hob.2.tup_inv
  cases e
  have : items[i]? = none := by
   have : xs.length ≤ i := List.getElem?_eq_none_iff.mp (Option.some.inj hn)
   have hz := hvs.length; simp at hz
   exact Array.getElem?_eq_none (by lia)
  exact wpAny_pyNext_tuple_end hA ⟨o, ho, hob.1.1, hob.1.2⟩ ⟨_, ht, rfl, n, rfl⟩ this fun h' he => ⟨h', s.toks, rfl, rfl, he⟩
 own := fun target v s i _ o Q ho hob h => qa0 ho hob.1.1 (by decide) h
 self := fun s i _ o E Q ho hob h => wpAny_pyIter_tupleiter (i := i) ⟨o, ho, hob.1.1, hob.1.2⟩ h
theorem seq_tup {xs : List V} (hA : A.handled = none) : SeqOf C A (.tup xs) H xs (fun _ => True) := by
 refine ⟨fun _ i => some xs[i]?, fun s r S hr => ?_, fun H' i ok => rfl⟩
 obtain ⟨t, items, n, rfl, ho, hvs⟩ := hr.tup_inv
 have hne : t ≠ s.heap.objs.size := Nat.ne_of_lt (Heap.lt_size ho)
 exact wpAny_pyIter_tuple ⟨_, ho, rfl, n, rfl⟩ ⟨s.heap.objs.size, _, _, s.toks, _, rfl, rfl, qae _ _, qbn, Heap.get?_push_size _ rfl, ⟨⟨rfl, rfl⟩, hr.keep (.push _ _)⟩, prot_tup hA hne⟩
noncomputable def qao (a c : Int) (n : Nat) : List V := (List.range n).map fun i => .int (a + (i : Nat) * c)
theorem qca {a c : Int} {n i : Nat} : (qao a c n)[i]? = if i < n then some (.int (a + (i : Nat) * c)) else none := by
 unfold qao
 refine rE List.getElem?_map ?_
 by_cases h : i < n
 ·refine rE (List.getElem?_range h) (rE (if_pos h) ?_); rfl
 ·refine rE (List.getElem?_eq_none (by simp; exact Nat.le_of_not_lt h)) (rE (if_neg h) ?_); rfl
theorem prot_range {I : Addr} {a c : Int} {n : Nat} (hA : A.handled = none) :
  Prot C A I (fun i _ o => o = { cls := .type "range_iterator", dict := none, data := .fields #[rawInt (a + (i : Nat) * c), rawInt ((n : Int) - (i : Nat)), rawInt c], slots := #[] }) (fun _ i => some (qao a c n)[i]?) where
 plain := fun i _ o h e => qaj (T := "range_iterator") (by refine rE h rfl) (by decide) (by intro vs x t e q; rw [h] at e; cases e; cases q) e
 nodict := fun i _ o es ep h e => by subst h; cases e
 kept := fun _ _ _ _ _ h => h
 item := fun H s i o v S hI ho hob hn => by
  subst hob
  rw [qca] at hn
  by_cases hi : i < n
  ·rw [if_pos hi] at hn; cases hn
   refine wpAny_pyNext_range_item ho (by lia) fun h' hit hs => ?_
   refine ⟨_, h', _, _, rfl, rfl, .int, hs.extBut, hit, ?_⟩
   have e1 : a + ((i + 1 : Nat) : Int) * c = a + (i : Int) * c + c := by push_cast; refine rE (Int.add_mul ..) (rE (Int.one_mul ..) (rE (Int.add_assoc ..) rfl))
   have e2 : (n : Int) - ((i + 1 : Nat) : Int) = (n : Int) - (i : Int) - 1 := by push_cast; exact Eq.symm (Int.sub_sub (↑n) (↑i) 1)
   refine rE e1 (rE e2 rfl)
  ·rw [if_neg hi] at hn; cases hn
 done := fun H s i o S hI ho hob hn => by
  subst hob
  rw [qca] at hn
  by_cases hi : i < n
  ·rw [if_pos hi] at hn; cases hn
  ·exact wpAny_pyNext_range_end hA ho (by lia) fun h' he => ⟨h', s.toks, rfl, rfl, he⟩
 own := fun target v s i _ o Q ho hob h => qa0 ho (by refine rE hob rfl) (T := "range_iterator") (by decide) h
 self := fun s i _ o E Q ho hob h => by subst hob; exact wpAny_pyIter_rangeiter ho h
theorem seq_rng {a b c : Int} {n : Nat} (hA : A.handled = none) (hs : Builtin.Range.small a b c = true) (hn : Builtin.Range.rangeSize a b c = n) : SeqOf C A (.rng a b c) H (qao a c n) (fun _ => True) := by
 refine ⟨fun _ i => some (qao a c n)[i]?, fun s r S hr => ?_, fun H' i ok => rfl⟩
 obtain ⟨z, t, u, w, rfl, ho⟩ := hr.rng_inv
 refine wpAny_pyIter_range ho hs ⟨s.heap.objs.size, _, _, s.toks, _, rfl, rfl, qae _ _, qbn, Heap.get?_push_size _ rfl, ?_, prot_range hA⟩
 simp [hn]
theorem seq_rng1 {n : Nat} (hA : A.handled = none) (hn : n < 2 ^ 62) : SeqOf C A (.rng 0 n 1) H (qao 0 1 n) (fun _ => True) :=
 seq_rng hA (small_one (by exact Int.neg_ofNat_le_ofNat (2 ^ 62) 0) (by exact PySem.W.kbt_pos 62) (by exact Int.neg_ofNat_le_natCast (2 ^ 62) n) (by exact Int.lt_toNat.mp hn)) (by refine rE (rangeSize_one ..) ?_; split <;> lia)
theorem qba {n : Int} {Q : V → Loc → CH → Prop} (h : Q (.rng 0 n 1) m H) : CV C A (.con (.type "range")) [.int n] [] m H Q := fun s rf rs rkw S hf hva hk => by
 have := hk.nil_inv; subst this
 refine rE hf.con_inv ?_
 refine eEA (qax hva) fun a zz1 ha => ?_; subst zz1
 refine eE ha.int_inv fun t zz1 => ?_; subst zz1
 exact call_range_1 ⟨_, m, H, .rng (Heap.get?_push_size _ rfl), S.more (qae _ _), .more (qae _ _), h⟩
theorem CV_range2 {a b : Int} {Q : V → Loc → CH → Prop} (h : Q (.rng a b 1) m H) : CV C A (.con (.type "range")) [.int a, .int b] [] m H Q := fun s rf rs rkw S hf hva hk => by
 have := hk.nil_inv; subst this
 refine rE hf.con_inv ?_
 refine eEEAA (qbm hva) fun x y zz2 ha hb => ?_; subst zz2
 refine eE ha.int_inv fun t zz1 => ?_; subst zz1; (refine eE hb.int_inv fun u zz1 => ?_; subst zz1)
 exact call_range_2 ⟨_, m, H, .rng (Heap.get?_push_size _ rfl), S.more (qae _ _), .more (qae _ _), h⟩
theorem CV_range3 {a b c : Int} {Q : V → Loc → CH → Prop} (hc : c ≠ 0) (hs : c.natAbs < 1073741824) (h : Q (.rng a b c) m H) : CV C A (.con (.type "range")) [.int a, .int b, .int c] [] m H Q := fun s rf rs rkw S hf hva hk => by
 have := hk.nil_inv; subst this
 refine rE hf.con_inv ?_
 obtain ⟨x, y, z, rfl, ha, hb, hz⟩ := qbe hva
 refine eE ha.int_inv fun t zz1 => ?_; subst zz1; (refine eE hb.int_inv fun u zz1 => ?_; subst zz1); (refine eE hz.int_inv fun w zz1 => ?_; subst zz1)
 exact call_range_3 hc ⟨_, m, H, .rng (Heap.get?_push_size _ rfl), S.more (tk := s.toks) (qae _ _), .more (tk := s.toks) (qae _ _), h⟩ (.inl (PyProof.noPylong_small hs))
theorem ES_for' {target iter : PySem.Expr} {body orelse : List Stmt} {p : Pos} {Q : Fl → Loc → CH → Prop}
  (h : EV C A iter m H fun v m₁ H₁ => ∃ (xs : List V) (ok : CH → Prop) (m₂ : Loc) (J : Nat → Loc → CH → Prop), SeqOf C A v H₁ xs ok ∧ Sub m₂ m₁ ∧ J 0 m₂ H₁ ∧ ∀ i m H, J i m H → ok H ∧
   (∀ x, xs[i]? = some x → ASG C A target x m H fun m' H' => EX C A body m' H' (Turn Q (NextJ J (i + 1)))) ∧ (i = xs.length → EX C A orelse m H Q))
  (hs : autoParam (∀ x, foldedSetIterable iter C.env x = pure x) Mine.syn2) : ES C A (.For target iter body orelse p) m H Q :=
 by
  refine ES_for (fun s S => wpAny_mono (h s S) ?_ fun _ _ x => x) hs
  rintro r s' ⟨v, m₁, H₁, hv, S₁, af, xs, ok, m₂, J, ⟨nx, it, hnx⟩, hsub, hJ, turn⟩
  refine ⟨v, m₁, H₁, hv, S₁, af, nx, xs.length, m₂, fun i m H => J i m H ∧ i ≤ xs.length, it, hsub, ⟨hJ, Nat.zero_le _⟩, ?_⟩
  rintro i m H ⟨hj, hi⟩
  refine eAA (turn i m H hj) fun h1 h2 h3 => ?_
  refine ⟨hi, ?_⟩
  rcases Nat.lt_or_ge i xs.length with hlt | hge
  ·have hx : xs[i]? = some xs[i] := List.getElem?_eq_getElem hlt
   refine .inl ⟨xs[i], (hnx H i h1).trans (by refine rE hx rfl), ?_⟩
   have h2' := h2 _ hx
   intro s r S hr
   refine wpAny_mono (h2' s r S hr) (fun _ s' ⟨m', H', S', af', q⟩ => ⟨m', H', S', af', q.mono fun fl m₂ H₂ hq => ?_⟩) fun _ _ x => x
   cases fl with
   | next => obtain ⟨m₃, a, b⟩ := hq; exact ⟨m₃, a, b, hlt⟩
   | cont => obtain ⟨m₃, a, b⟩ := hq; exact ⟨m₃, a, b, hlt⟩
   | brk => exact hq
   | ret v => exact hq
  ·exact .inr ⟨(hnx H i h1).trans (by refine rE (List.getElem?_eq_none hge) rfl), h3 (by exact Nat.le_antisymm hi hge)⟩
end
end
end Mine
end
section
open PySem PySem.Calls PySem.W PyProof.Rows
set_option maxRecDepth 100000
namespace Mine
noncomputable section
section
variable {C : Cx} {A : Around} {m : Loc} {H : CH} {s : Shared}
inductive ForL (C : Cx) (A : Around) (xs : List V) (ok : CH → Prop) (m0 : Loc) (J : CH → Prop) (v : V) (m : Loc) (H : CH) : Prop
 | mk (q : SeqOf C A v H xs ok) (hs : Sub m0 m) (h : J H)
theorem qcv {α : Type} {l : List α} {f : α → V} {ok : CH → Prop} {m0 : Loc} {J : Nat → CH → Prop} {target iter : PySem.Expr} {body rest : List Stmt} {p : Pos} {Q : Fl → Loc → CH → Prop}
  (h : EV C A iter m H (ForL C A (l.map f) ok m0 (J 0))) (hok : ∀ t H, J t H → ok H)
  (turn : ∀ t x, l[t]? = some x → ∀ H, J t H → ∀ R : Fl → Loc → CH → Prop, (∀ m' H', Sub m0 m' → J (t + 1) H' → R .next m' H' ∧ R .cont m' H') → ASG C A target (f x) m0 H fun m' H' => EX C A body m' H' R)
  (k : ∀ H', J l.length H' → EX C A rest m0 H' Q)
  (hs : autoParam (∀ x, foldedSetIterable iter C.env x = pure x) Mine.syn2) : EX C A (.For target iter body [] p :: rest) m H Q := by
 refine EX_mid (fun m H => m = m0 ∧ J l.length H) (ES_for' (h.mono fun v m₁ H₁ q => ?_) hs) (by rintro m₁ H₁ ⟨rfl, hq⟩; exact k H₁ hq)
 obtain ⟨q, hs, h0⟩ := q
 refine ⟨l.map f, ok, m0, fun i m H => m = m0 ∧ J i H, q, hs, ⟨rfl, h0⟩, ?_⟩
 rintro i m' H' ⟨rfl, hJ⟩
 refine ⟨hok i H' hJ, fun y hy => ?_, fun hi => ?_⟩
 ·rw [List.getElem?_map] at hy
  refine eEA (Option.map_eq_some_iff.mp hy) fun x hx zz2 => ?_; subst zz2
  exact turn i x hx H' hJ _ fun m'' H'' hs hJ => ⟨⟨_, hs, rfl, hJ⟩, ⟨_, hs, rfl, hJ⟩⟩
 ·rw [List.length_map] at hi
  subst hi
  exact EX_nil ⟨rfl, hJ⟩
theorem EX_forN {N : Nat} {f : Nat → V} {m0 : Loc} {J : Nat → CH → Prop} {target iter : PySem.Expr} {body rest : List Stmt} {p : Pos} {Q : Fl → Loc → CH → Prop}
  (h : EV C A iter m H (ForL C A ((List.range N).map f) (fun _ => True) m0 (J 0)))
  (turn : ∀ i, i < N → ∀ H, J i H → ∀ R : Fl → Loc → CH → Prop, (∀ m' H', Sub m0 m' → J (i + 1) H' → R .next m' H' ∧ R .cont m' H') → ASG C A target (f i) m0 H fun m' H' => EX C A body m' H' R)
  (k : ∀ H', J N H' → EX C A rest m0 H' Q)
  (hs : autoParam (∀ x, foldedSetIterable iter C.env x = pure x) Mine.syn2) : EX C A (.For target iter body [] p :: rest) m H Q := by
 refine qcv h (fun _ _ _ => trivial) (fun t x hx => ?_) (fun H' hJ => k H' (by rw [List.length_range] at hJ; exact hJ)) hs
 have ht : t < N := by
  have := (List.getElem?_eq_some_iff.mp hx).1
  rw [List.length_range] at this; exact this
 rw [List.getElem?_range ht] at hx
 cases hx
 exact turn t ht
end
inductive And2 (p q : Prop) : Prop
 | mk (h1 : p) (h2 : q)
end
end Mine
end
section
open PySem PySem.Calls PySem.W PyProof.Rows
set_option maxRecDepth 100000
namespace Mine
noncomputable section
noncomputable abbrev Cx.comp (C : Cx) (scope : Scope) (cl : List (Str × Addr)) (L : Addr) : Cx := { C with env := compEnvC scope cl L C.env }
noncomputable def ETs (C : Cx) (A : Around) : List PySem.Expr → Loc → CH → (Bool → Loc → CH → Prop) → Prop
 | [], m, H, Q => Q true m H
 | c :: cs, m, H, Q => EB C A c m H fun b m₁ H₁ => (b = true → ETs C A cs m₁ H₁ Q) ∧ (b = false → Q false m₁ H₁)
section
variable {C : Cx} {A : Around} {m : Loc} {H : CH} {s : Shared}
theorem tests_false {M : Model} {env : Env} {E : Value → Shared → Prop} {Q : Bool → Shared → Prop} : ∀ {ifs : List PySem.Expr} {s : Shared}, Q false s →
  wpAny M A (forIn ifs false fun c r => if r = true then do let ok ← isTrue c env (eval c env); pure (ForInStep.yield ok) else pure (ForInStep.yield r)) Q E s
 | [], s, h => wpAny_pure h
 | c :: cs, s, h => by
  refine rE (List.forIn_cons ..) ?_
  exact wpAny_bind (wpAny_pure (tests_false h))
theorem tests_of {Q : Bool → Loc → CH → Prop} : ∀ {ifs : List PySem.Expr} {m : Loc} {H : CH} {s : Shared}, ETs C A ifs m H Q → St C m H s →
  wpAny (model C.prog C.w) A (forIn ifs true fun c r => if r = true then do let ok ← isTrue c C.env (eval c C.env); pure (ForInStep.yield ok) else pure (ForInStep.yield r)) (PA C H s Q) NoE s
 | [], m, H, s, h, S => wpAny_pure (.here S h)
 | c :: cs, m, H, s, h, S => by
  refine rE (List.forIn_cons ..) ?_
  refine wpAny_bind (wpAny_bind (wpAny_mono (h s S) ?_ fun _ _ x => x))
  rintro b s₁ ⟨m₁, H₁, S₁, af₁, h₁⟩
  refine wpAny_pure ?_
  cases b with
  | true => exact wpAny_mono (tests_of (h₁.1 rfl) S₁) (fun _ _ x => x.mono S₁ af₁) fun _ _ x => x
  | false => exact tests_false ⟨m₁, H₁, S₁, af₁, h₁.2 rfl⟩
theorem HS.adopt (S : HS C H s) {a : Addr} {o : Obj} {c : CObj} (hb : C.h₀.get? a = none) (ho : s.heap.get? a = some o) (r : ORep C s.heap c o) : HS C (H.set a c) s where
 base := S.base
 own := fun b d e => by
  by_cases h : b = a
  ·subst h; rw [CH.set_same] at e; cases e; exact ⟨hb, o, ho, r⟩
  ·rw [CH.set_ne h] at e; exact S.own b d e
 gens := S.gens
theorem AfterC.thenAt {H₁ H₂ H₃ : CH} {s₁ s₂ s₃ : Shared} (a : AfterC H₁ s₁ H₂ s₂) (b : After C H₂ s₂ H₃ s₃) (hL : s₁.heap.get? C.env.locals = none) : AfterC H₁ s₁ H₃ s₃ where
 stay := fun x o hn e =>
  let ⟨o₁, e₁, k₁⟩ := a.stay x o hn e
  let ⟨o₂, e₂, k₂⟩ := b.stay x o₁ (fun q => by subst q; exact (no1 hL e).elim) (a.grow x o hn e) e₁
  ⟨o₂, e₂, k₁.trans k₂⟩
 grow := fun x o hn e => let ⟨o₁, e₁, _⟩ := a.stay x o hn e; b.grow x o₁ (a.grow x o hn e) e₁
 there := fun x o e => let ⟨o₁, e₁⟩ := a.there x o e; b.there x o₁ e₁
 drawn := b.drawn.trans a.drawn
 os := b.os.trans a.os
theorem AfterC.adopt {H₁ H₂ : CH} {s₁ s₂ : Shared} (a : AfterC H₁ s₁ H₂ s₂) {D : Addr} {c : CObj} (hD : s₁.heap.get? D = none) : AfterC H₁ s₁ (H₂.set D c) s₂ :=
 ⟨a.stay, fun b o hn e => by refine rE (CH.set_ne (fun q => by subst q; exact (no1 hD e).elim)) ?_; exact a.grow b o hn e, a.there, a.drawn, a.os⟩
theorem AfterC.hid {H₁ H₂ : CH} {s₁ s₂ : Shared} (a : AfterC H₁ s₁ H₂ s₂) {I : Addr} (hI : s₁.heap.get? I = none) {h' : Heap} {tk : Nat} (hs : Heap.ExtBut I s₂.heap h') : AfterC H₁ s₁ H₂ { s₂ with heap := h', toks := tk } :=
 ⟨fun b o hn e => let ⟨o', e', k⟩ := a.stay b o hn e; ⟨o', hs b o' (fun q => by subst q; exact (no1 hI e).elim) e', k⟩, a.grow,
  fun b o e => let ⟨o', e'⟩ := a.there b o e; ⟨o', hs b o' (fun q => by subst q; exact (no1 hI e).elim) e'⟩, a.drawn, a.os⟩
theorem HS.hid (S : HS C H s) {a : Addr} {oa : Obj} (ha : s.heap.get? a = some oa) (hH : H a = none) (hb : C.h₀.get? a = none) (ht : ¬ Imm oa) {h' : Heap} {tk : Nat} (hs : Heap.ExtBut a s.heap h') : HS C H { s with heap := h', toks := tk } := by
 have tk' : TupKeep s.heap h' := fun b o i e => hs b _ (fun q => by subst q; rw [ha] at e; cases e; exact ht i) e
 refine ⟨fun b o e => hs b o (fun q => by subst q; exact (no1 hb e).elim) (S.base b o e), fun b d e => ?_, S.gens⟩
 obtain ⟨x, o, hob, rb⟩ := S.own b d e
 exact ⟨x, o, hs b o (fun q => by subst q; exact (no1 hH e).elim) hob, rb.keep tk'⟩
theorem qb2 {h : Heap} {L : Addr} {o : Obj} {mr : Str → Option Value} (hn : h.Ns L mr) (ho : h.get? L = some o) : ¬ Imm o := fun i => by
 obtain ⟨o', es, ep, ho', hd, _⟩ := hn
 rw [ho] at ho'; cases ho'; exact i.2.2.1 _ _ hd
structure Comp (C : Cx) (A : Around) (elt target : PySem.Expr) (ifs : List PySem.Expr) (scope : Scope) (cl : List (Str × Addr)) (xs : List V) (ok : CH → Prop) (J : Nat → List V → CH → Prop) : Prop where
 turn : ∀ i ys H', J i ys H' → ok H' ∧ ys.length ≤ sizeLine ∧ ∀ x, xs[i]? = some x → ∀ L, H' L = none → ASG (C.comp scope cl L) A target x [] H' fun m₂ H₂ => ETs (C.comp scope cl L) A ifs m₂ H₂ fun b m₃ H₃ =>
  (b = true → EV (C.comp scope cl L) A elt m₃ H₃ fun y m₄ H₄ => J (i + 1) (ys ++ [y]) H₄) ∧ (b = false → J (i + 1) ys H₃)
inductive CompI (C : Cx) (ob : Nat → Heap → Obj → Prop) (J : Nat → List V → CH → Prop) (N : Nat) (I D L : Addr) (H : CH) (s : Shared) (k : Nat) (s' : Shared) : Prop
 | mk (i : Nat) (ys : List V) (H' : CH) (mr : Str → Option Value) (o : Obj) (items : Array Value) (n : Nat) (hi : i ≤ N) (hk : k = N - i) (S : HS C H' s') (a : AfterC H s H' s') (hI : H' I = none) (hD : H' D = none) (hL : H' L = none) (hn : s'.heap.Ns L mr)
   (ho : s'.heap.get? I = some o) (hob : ob i s'.heap o) (hDo : s'.heap.get? D = some (seqObj "list" items n)) (hys : VRs s'.heap ys items.toList) (hJ : J i ys H') : CompI C ob J N I D L H s k s'
inductive CompO (P : Heap → Prop) (I D L : Addr) (ys : List V) (items : Array Value) (n : Nat) (o : Obj) (H : CH) (h : Heap) : Prop
 | mk (mr : Str → Option Value) (hI : H I = none) (hD : H D = none) (ho : h.get? I = some o) (hob : P h) (hDo : h.get? D = some (seqObj "list" items n)) (hys : VRs h ys items.toList) (hn : h.Ns L mr) : CompO P I D L ys items n o H h
theorem comp_loop {elt target iter : PySem.Expr} {ifs : List PySem.Expr} {scope : Scope} {cl : List (Str × Addr)} {pos : Pos} {RRl : Result → Shared → Prop} {I D L : Addr} {ob : Nat → Heap → Obj → Prop} {nx : CH → Nat → Option (Option V)} {xs : List V} {ok : CH → Prop} {J : Nat → List V → CH → Prop}
  (F₁ : Frs C H s) (P : Prot C A I ob nx) (hnx : ∀ H' i, ok H' → nx H' i = some xs[i]?) (K : Comp C A elt target ifs scope cl xs ok J) (hI : s.heap.get? I = none) (hD0 : s.heap.get? D = none) (hL0 : s.heap.get? L = none) (hDL : D ≠ L) (hID : I ≠ D) (hIL : I ≠ L) (hnb : ∀ a, s.heap.get? a = none → C.h₀.get? a = none)
  (fin : ∀ s' H' ys mr, HS C H' s' → AfterC H s H' s' → H' D = none → H' L = none → s'.heap.Ns L mr → (∃ items n, s'.heap.get? D = some (seqObj "list" items n) ∧ VRs s'.heap ys items.toList) → J xs.length ys H' → RRl (.ok .next) s') {k : Nat} {s₄ : Shared} (h : CompI C ob J xs.length I D L H s k s₄) :
  codeAny (model C.prog C.w) A (.compLoop (.ListComp elt [⟨target, iter, ifs, 0⟩] scope pos) 0 (.ref I) (.ref D) (C.comp scope cl L).env) RRl s₄ := by
 refine codeAny_loop rfl (CompI C ob J xs.length I D L H s) ?_ k h
 rintro k s' ⟨i, ys, H', mr, oi, items, n, hi, rfl, S', af', hI', hD', hL', hn', hoi, hobi, hDi, hys, hJ'⟩
 show wpAny _ A ((compTurn (.ListComp elt [⟨target, iter, ifs, 0⟩] scope pos) 0 (.ref I) (.ref D) (C.comp scope cl L).env).onRaise (fun x => do noteFrame x (C.comp scope cl L).env; theTreesLotGoes x)) _ _ s'
 refine wpAny_noted (wpAny_noRaise ?_)
 refine wpAny_hide fun R0 hR0 => ?_
 refine rE (compTurn_list ..) ?_
 refine eAA (K.turn i ys H' hJ') fun hok hsz turn => ?_
 rcases Nat.lt_or_ge i xs.length with hlt | hge
 ·have hx : xs[i]? = some xs[i] := List.getElem?_eq_getElem hlt
  refine wpAny_bind (wpAny_standAt (wpAny_bind (wpAny_mono (P.item H' s' i oi xs[i] S' hI' hoi hobi ((hnx H' i hok).trans (by refine rE hx rfl))) ?_ fun _ _ x => x)))
  rintro rx s₅ ⟨rv, h₅, tk₅, o₅, rfl, rfl, hrv, he₅, hI₅, hob₅⟩
  dsimp only
  refine wpAny_bind (P.own target rv _ (i + 1) _ o₅ _ hI₅ hob₅ ?_)
  have hIb := hnb I hI
  have S₅ : HS C H' { s' with heap := h₅, toks := tk₅ } := S'.hid hoi hI' hIb (P.plain _ _ _ hobi) he₅
  have af₅ : AfterC H s H' { s' with heap := h₅, toks := tk₅ } := af'.hid hI he₅
  have k₅ : TupKeep s'.heap h₅ := qat hoi (P.plain _ _ _ hobi) he₅
  have T₅ : St (C.comp scope cl L) [] H' { s' with heap := h₅, toks := tk₅ } := ⟨⟨S₅.base, S₅.own, S₅.gens⟩, ⟨mr, hn'.extBut he₅ (Ne.symm hIL), fun _ _ e => by simp at e⟩, hL', hnb L hL0, fun e he => F₁.after af₅ e he⟩
  refine wpAny_bind (wpAny_mono (turn xs[i] hx L hL' _ rv T₅ hrv) ?_ fun _ _ x => x)
  rintro _ s₆ ⟨m₆, H₆, T₆, a₆, h₆⟩
  refine wpAny_bind (wpAny_mono (tests_of h₆ T₆) ?_ fun _ _ x => x)
  rintro b s₇ ⟨m₇, H₇, T₇, a₇, h₇⟩
  have aL₇ := a₆.then T₆ a₇
  have af₇ : AfterC H s H₇ s₇ := af₅.thenAt (C := C.comp scope cl L) aL₇ hL0
  have other : ∀ {s₉ : Shared} {H₉ : CH} {m₉ : Loc}, St (C.comp scope cl L) m₉ H₉ s₉ → After (C.comp scope cl L) H' { s' with heap := h₅, toks := tk₅ } H₉ s₉ →
    CompO (fun h => ob (i + 1) h o₅) I D L ys items n o₅ H₉ s₉.heap := fun {s₉ H₉ m₉} T₉ a₉ => by
   obtain ⟨o1, e1, k1⟩ := a₉.stay I o₅ hIL hI' hI₅
   rw [k1.exact (fun es ep => P.nodict _ _ _ es ep hob₅)] at e1
   have hD₅ : h₅.get? D = some (seqObj "list" items n) := he₅ D _ (Ne.symm hID) hDi
   obtain ⟨o2, e2, k2⟩ := a₉.stay D _ hDL hD' hD₅
   rw [k2.exact (by intro es ep q; cases q)] at e2
   refine eEA T₉.ns fun mr9 hn9 _ => ?_
   exact ⟨mr9, a₉.grow I _ hI' hI₅, a₉.grow D _ hD' hD₅, e1, P.kept _ _ _ _ (a₉.tup T₅) (P.kept _ _ _ _ k₅ hob₅), e2, (hys.keep k₅).keep (a₉.tup T₅), hn9⟩
  cases b with
  | false =>
   obtain ⟨mr9, b1, b2, b3, b4, b5, b6, b7⟩ := other T₇ aL₇
   exact wpAny_pure (hR0 _ _ ⟨rfl, xs.length - (i + 1), by exact Nat.sub_succ_lt_self xs.length i hlt, i + 1, ys, H₇, mr9, o₅, items, n, hlt, rfl, ⟨T₇.base, T₇.own, T₇.gens⟩, af₇, b1, b2, T₇.loc, b7, b3, b4, b5, b6, h₇.2 rfl⟩)
  | true =>
   refine wpAny_bind (wpAny_bind (wpAny_mono (h₇.1 rfl s₇ T₇) ?_ fun _ _ x => x))
   rintro ry s₈ ⟨y, m₈, H₈, hy, T₈, a₈, h₈⟩
   have aL₈ := aL₇.then T₇ a₈
   have af₈ : AfterC H s H₈ s₈ := af₅.thenAt (C := C.comp scope cl L) aL₈ hL0
   obtain ⟨mr9, b1, b2, b3, b4, b5, b6, b7⟩ := other T₈ aL₈
   have hzz : items.size ≤ sizeLine := by have := b6.length; simp at this; lia
   refine wpAny_bind (call_meets F.slot_list_append ⟨_, b5, rfl⟩ F.entry_list_append (F.args_list_append_2 _ _) (list_append D items n ry hzz) ⟨b5, ?_⟩)
   refine wpAny_pure (wpAny_pure ?_)
   have hu : Heap.SameBut D s₈.heap (s₈.heap.update D (Obj.mapSeq (·.push ry))) := Heap.SameBut.update ..
   have S₈ : HS C H₈ s₈ := ⟨T₈.base, T₈.own, T₈.gens⟩
   have niD : ¬ Imm (seqObj "list" items n) := qaj (T := "list") rfl (by decide) (by intro _ _ _ e; cases e)
   have k₉ : TupKeep s₈.heap (s₈.heap.update D (Obj.mapSeq (·.push ry))) := qat b5 niD hu.extBut
   refine hR0 _ _ ⟨rfl, xs.length - (i + 1), by exact Nat.sub_succ_lt_self xs.length i hlt, i + 1, ys ++ [y], H₈, mr9, o₅, _, _, hlt, rfl, S₈.hid (tk := s₈.toks) b5 b2 (hnb D hD0) niD hu.extBut, af₈.hid (tk := s₈.toks) hD0 hu.extBut, b1, b2, T₈.loc, b7.sameBut hu (Ne.symm hDL), hu.extBut I _ hID b3, P.kept _ _ _ _ k₉ b4, IsL.update b5 _, ?_, h₈⟩
   refine rE Array.toList_push ?_
   exact (b6.keep k₉).append (.cons (hy.keep k₉) .nil)
 ·have hie : i = xs.length := by exact Nat.le_antisymm hi hge
  subst hie
  refine wpAny_bind (wpAny_standAt (wpAny_bind (wpAny_mono (P.done H' s' xs.length oi S' hI' hoi hobi ((hnx H' xs.length hok).trans (by refine rE (List.getElem?_eq_none (Nat.le_refl _)) rfl))) ?_ fun _ _ x => x)))
  rintro rx s₅ ⟨h₅, tk₅, rfl, rfl, he₅⟩
  have k₅ : TupKeep s'.heap h₅ := qat hoi (P.plain _ _ _ hobi) he₅
  exact wpAny_pure (hR0 _ _ (fin _ H' ys mr (S'.hid hoi hI' (hnb I hI) (P.plain _ _ _ hobi) he₅) (af'.hid hI he₅) hD' hL' (hn'.extBut he₅ (Ne.symm hIL)) ⟨items, n, he₅ D _ (Ne.symm hID) hDi, hys.keep k₅⟩ hJ'))
theorem comp_core {elt target iter : PySem.Expr} {ifs : List PySem.Expr} {scope : Scope} {cl : List (Str × Addr)} {pos : Pos} {RR : Value → Addr → Result → Shared → Prop} {v : V} {r : Value} {xs : List V} {ok : CH → Prop} {J : Nat → List V → CH → Prop}
  (hcell : ∀ y ∈ scope.names, y.2 ≠ .cell) (hkind : scope.kind = .function) (S₁ : HS C H s) (F₁ : Frs C H s) (hv : VR s.heap v r) (q : SeqOf C A v H xs ok) (K : Comp C A elt target ifs scope cl xs ok J) (hJ : J 0 [] H)
  (fin : ∀ D L s' H' ys mr, HS C H' s' → AfterC H s H' s' → s.heap.get? D = none → s.heap.get? L = none → D ≠ L → H' D = none → H' L = none → C.h₀.get? D = none → C.h₀.get? L = none → s'.heap.Ns L mr → (∃ items n, s'.heap.get? D = some (seqObj "list" items n) ∧ VRs s'.heap ys items.toList) → J xs.length ys H' → RR (.ref D) L (.ok .next) s') :
  wpAny (model C.prog C.w) A (pyIter r) (fun it s₂ => wpAny (model C.prog C.w) A (newList []) (fun acc s₃ => wpAny (model C.prog C.w) A (newFunctionEnv scope C.env.globals cl [] C.env.qual none .none (some C.env)) (fun cenv s₄ =>
   codeAny (model C.prog C.w) A (.compStart (.ListComp elt [⟨target, iter, ifs, 0⟩] scope pos) 0 it acc { cenv with scope := relabel scope C.env }) (RR acc cenv.locals) s₄) NoE s₃) NoE s₂) NoE s := by
 obtain ⟨nx, it, hnx⟩ := q
 refine wpAny_mono (it s r S₁ hv) ?_ fun _ _ x => x
 rintro ri s₂ ⟨I, ob, h₂, tk₂, o0, rfl, rfl, hk₂, hI, hob, hob0, P⟩
 refine wpAny_newObj_type (wpAny_newFunctionEnv hcell (by intro y hy; simp at hy) (fun h₄ hns₄ hsb₄ => ?_) hkind)
 dsimp only at hns₄ hsb₄ ⊢
 generalize hDd : h₂.objs.size = D at *
 generalize hH3 : h₂.push { cls := .type "list", dict := none, data := .seq ([] : List Value).toArray } = H3 at *
 generalize hLd : H3.objs.size = L at *
 have hDL : D ≠ L := by
  have : H3.objs.size = h₂.objs.size + 1 := by refine rF hH3 (rE (Heap.size_push ..) rfl)
  show ¬ ((D : Nat) = L)
  lia
 have keep4 : ∀ b o, h₂.get? b = some o → h₄.get? b = some o := fun b o e => by
  have hb : (b : Nat) < h₂.objs.size := Heap.lt_size e
  have h3 : H3.get? b = some o := by refine rF hH3 ?_; exact Heap.get?_push_of_some _ e
  have h3s : H3.objs.size = h₂.objs.size + 1 := by refine rF hH3 (rE (Heap.size_push ..) rfl)
  have hbL : (b : Nat) < L := by refine rF hLd (rE h3s ?_); exact Nat.lt_succ_of_lt hb
  exact hsb₄.extBut b o (Nat.ne_of_lt hbL) (Heap.get?_push_of_some _ h3)
 have fresh : ∀ a, (h₂.objs.size : Nat) ≤ a → s.heap.get? a = none := fun a ha => by
  cases e : s.heap.get? a with
  | none => rfl
  | some o' => exact absurd (Heap.lt_size (hk₂ _ _ e)) (Nat.not_lt.mpr ha)
 have hD0 : s.heap.get? D = none := fresh D (by show (h₂.objs.size : Nat) ≤ D; exact Nat.le_of_eq hDd)
 have hL0 : s.heap.get? L = none := fresh L (by
  have : H3.objs.size = h₂.objs.size + 1 := by refine rF hH3 (rE (Heap.size_push ..) rfl)
  show (h₂.objs.size : Nat) ≤ L; lia)
 have hnb : ∀ a, s.heap.get? a = none → C.h₀.get? a = none := fun a ha => by
  exact S₁.base_none ha
 have hnH : ∀ a, s.heap.get? a = none → H a = none := fun a ha => by
  exact S₁.own_none ha
 have hDobj : h₄.get? D = some (seqObj "list" #[] 0) := by
  have h3 : H3.get? D = some (seqObj "list" #[] 0) := by refine rF hH3 (rF hDd ?_); exact Heap.get?_push_size _ rfl
  exact hsb₄.extBut D _ hDL (Heap.get?_push_of_some _ h3)
 have hIobj : h₄.get? I = some o0 := keep4 I o0 hob
 have hID : I ≠ D := fun e => by
  have := Heap.lt_size hob
  exact absurd (show (D : Nat) < h₂.objs.size from e ▸ this) (by lia)
 have hIL : I ≠ L := fun e => by
  have := Heap.lt_size hob
  have h3 : H3.objs.size = h₂.objs.size + 1 := by refine rF hH3 (rE (Heap.size_push ..) rfl)
  exact absurd (show (L : Nat) < h₂.objs.size from e ▸ this) (by lia)
 have af4 : AfterC H s H { s with heap := h₄, toks := tk₂ } := .more fun b o e => keep4 b o (hk₂ b o e)
 have S4 : HS C H { s with heap := h₄, toks := tk₂ } := S₁.more fun b o e => keep4 b o (hk₂ b o e)
 have loop := comp_loop (elt := elt) (target := target) (iter := iter) (ifs := ifs) (pos := pos) (RRl := RR (.ref D) L) F₁ P hnx K hI hD0 hL0 hDL hID hIL hnb (fun s' H' ys mr a b c d e f g => fin D L s' H' ys mr a b hD0 hL0 hDL c d (hnb D hD0) (hnb L hL0) e f g) (k := xs.length) (s₄ := { s with heap := h₄, toks := tk₂ })
  ⟨0, [], H, _, o0, #[], 0, Nat.zero_le _, rfl, S4, af4, hnH I hI, hnH D hD0, hnH L hL0, hns₄, hIobj, P.kept _ _ _ _ (.of_keep keep4) hob0, hDobj, .nil, hJ⟩
 exact codeAny_compStart_list loop (P.self _ 0 h₂ o0 _ _ hIobj hob0 loop)
noncomputable def scopeOk (scope : Scope) : Bool := scope.kind == .function && scope.names.all (fun y => y.2 != .cell) && scope.names.all (fun y => y.2 != .local || scope.names.lookup y.1 == some .local)
theorem scopeOk.get {scope : Scope} (h : scopeOk scope = true) : scope.kind = .function ∧ (∀ y ∈ scope.names, y.2 ≠ .cell) ∧ ∀ y ∈ scope.names, y.2 = .local → scope.names.lookup y.1 = some .local := by
 unfold scopeOk at h
 simp only [Bool.and_eq_true, List.all_eq_true, beq_iff_eq, bne_iff_ne, Bool.or_eq_true] at h
 refine ⟨h.1.1, h.1.2, fun y hy hl => ?_⟩
 rcases h.2 y hy with q | q
 ·exact absurd hl q
 ·exact q
inductive LC (C : Cx) (A : Around) (elt target : PySem.Expr) (ifs : List PySem.Expr) (scope : Scope) (cl : List (Str × Addr)) (v : V) (H : CH) (Q : V → CH → Prop) : Prop
 | mk (xs : List V) (ok : CH → Prop) (J : Nat → List V → CH → Prop) (q : SeqOf C A v H xs ok) (K : Comp C A elt target ifs scope cl xs ok J) (h0 : J 0 [] H) (fin : ∀ ys H' D, J xs.length ys H' → H' D = none → C.h₀.get? D = none → Q (.ref D) (H'.set D (.list ys)))
noncomputable abbrev KLc (C : Cx) (A : Around) (elt target : PySem.Expr) (ifs : List PySem.Expr) (scope : Scope) (cl : List (Str × Addr)) (Q : V → Loc → CH → Prop) : V → Loc → CH → Prop := fun v m H => LC C A elt target ifs scope cl v H (KAt m Q)
theorem EV_lc {elt target iter : PySem.Expr} {ifs : List PySem.Expr} {scope : Scope} {cl : List (Str × Addr)} {pos : Pos} {Q : V → Loc → CH → Prop}
  (h : EV C A iter m H (KLc C A elt target ifs scope cl Q))
  (hclos : autoParam (closureFor scope C.env = pure cl) Mine.syn1) (hok : autoParam (scopeOk scope = true) Mine.syn1) (hs : autoParam (∀ x, foldedSetIterable iter C.env x = pure x) Mine.syn2) :
  EV C A (.ListComp elt [⟨target, iter, ifs, 0⟩] scope pos) m H Q := fun s S => by
 refine eAA (scopeOk.get hok) fun hkind hcell hnames => ?_
 refine rE (eval_ListComp ..) ?_
 refine wpAny_comprehension_free (use := none) rfl hs hclos hkind hnames (wpAny_mono (h s S) ?_ fun _ _ x => x)
 rintro r s₁ ⟨v, m₁, H₁, hv, S₁, af₁, xs, ok, J, q, K, hJ, fin⟩
 refine comp_core (RR := fun acc L => compPost (model C.prog C.w) A NoE none (PV C H s Q) acc L) hcell hkind S₁.toHS S₁.frs hv q K hJ ?_
 intro D L s' H' ys mr S' af' hD hL hDL hD' hL' hDb hLb hn ⟨items, n, hDo, hys⟩ hJ'
 refine ⟨mr, hn, fun h'' hs'' => ?_⟩
 obtain ⟨oL, _, _, hoL, _⟩ := id hn
 have S₂ : HS C H' { s' with heap := h'' } := S'.hid (tk := s'.toks) hoL hL' hLb (qb2 hn hoL) hs''.extBut
 have af₂ : AfterC H₁ s₁ H' { s' with heap := h'' } := af'.hid (tk := s'.toks) hL hs''.extBut
 have hDo' : h''.get? D = some (seqObj "list" items n) := hs''.extBut D _ hDL hDo
 have tk' : TupKeep s'.heap h'' := qat hoL (qb2 hn hoL) hs''.extBut
 have S₃ : HS C (H'.set D (.list ys)) { s' with heap := h'' } := S₂.adopt hDb hDo' ⟨items, n, rfl, hys.keep tk'⟩
 have af₃ : AfterC H₁ s₁ (H'.set D (.list ys)) { s' with heap := h'' } := af₂.adopt hD
 exact ⟨.ref D, m₁, _, .ref, S₁.called S₃ af₃, af₁.then S₁ af₃.after, fin ys H' D hJ' hD' hDb⟩
theorem qbw {elt target iter : PySem.Expr} {ifs : List PySem.Expr} {scope : Scope} {cl : List (Str × Addr)} {x : Str} {px pos spos : Pos} {Q : Fl → Loc → CH → Prop}
  (h : EV C A iter m H fun v m₁ H₁ => LC C A elt target ifs scope cl v H₁ fun v H' => Q .next ((x, v) :: m₁) H')
  (hsw : autoParam (swapsWith (.ListComp elt [⟨target, iter, ifs, 0⟩] scope pos) (some (.Name x px)) spos.line C.env = pure true) Mine.syn1)
  (hclos : autoParam (closureFor scope C.env = pure cl) Mine.syn1) (hok : autoParam (scopeOk scope = true) Mine.syn1) (hs : autoParam (∀ x, foldedSetIterable iter C.env x = pure x) Mine.syn2)
  (hl : autoParam (C.env.kindOf x = some .local) Mine.syn1) (hp : autoParam ((C.env.scope.kind == .class || (C.env.scope.kind == .module && C.env.locals != C.env.globals)) = false) Mine.syn1) :
  ES C A (.Assign [.Name x px] (.ListComp elt [⟨target, iter, ifs, 0⟩] scope pos) spos) m H Q := fun s S => by
 refine eAA (scopeOk.get hok) fun hkind hcell hnames => ?_
 refine rE (exec_Assign_Name_used _ _ _ _ hsw) ?_
 refine wpAny_bind (wpAny_standAt (wpAny_bind ?_))
 show wpAny _ A (do let _ ← comprehension (.ListComp elt [⟨target, iter, ifs, 0⟩] scope pos) scope C.env _ (newList []) false (eval iter C.env) (some (assign (.Name x px) C.env))) _ _ s
 refine wpAny_bind (wpAny_mono (wpAny_comprehension_free (use := some (assign (.Name x px) C.env)) (Q := fun _ s' => PF C H s Q .next s') rfl hs hclos hkind hnames
  (wpAny_mono (h s S) ?_ fun _ _ e => e)) (fun _ s' hq => wpAny_pure (wpAny_pure hq)) fun _ _ e => e)
 rintro r s₁ ⟨v, m₁, H₁, hv, S₁, af₁, xs, ok, J, q, K, hJ, fin⟩
 refine comp_core (RR := fun acc L => compPost (model C.prog C.w) A NoE (some (assign (.Name x px) C.env)) (fun _ s' => PF C H s Q .next s') acc L) hcell hkind S₁.toHS S₁.frs hv q K hJ ?_
 intro D L s' H' ys mr S' af' hD hL hDL hD' hL' hDb hLb hn ⟨items, n, hDo, hys⟩ hJ'
 have S₃ : HS C (H'.set D (.list ys)) s' := S'.adopt hDb hDo ⟨items, n, rfl, hys⟩
 have af₃ : AfterC H₁ s₁ (H'.set D (.list ys)) s' := af'.adopt hD
 have T₃ : St C m₁ (H'.set D (.list ys)) s' := S₁.called S₃ af₃
 have hLl : C.env.locals ≠ L := fun e => by refine eE S₁.at_loc fun o e' => ?_; rw [e, hL] at e'; cases e'
 refine eEA T₃.ns fun mr' hn' hk' => ?_
 show wpAny _ A (assign (.Name x px) C.env (.ref D)) _ _ _
 refine wpAny_assign_Name (wpAny_storeName_local hl hn' (fun h₂ hn₂ hs₂ => ?_) hp)
 have T₄ : St C ((x, .ref D) :: m₁) (H'.set D (.list ys)) { s' with heap := h₂, toks := s'.toks + 1 } := T₃.store (tk := s'.toks + 1) (v := .ref D) .ref hk' hn₂ hs₂
 have af₄ : After C H₁ s₁ (H'.set D (.list ys)) { s' with heap := h₂, toks := s'.toks + 1 } := (After.then T₃ af₃.after (.store (tk := s'.toks + 1) hn₂ hs₂))
 have hnL : h₂.Ns L mr := hn.sameBut hs₂ (Ne.symm hLl)
 refine ⟨mr, hnL, fun h₃ hs₃ => ?_⟩
 obtain ⟨oL, _, _, hoL, _⟩ := id hnL
 have hLD : (H'.set D (.list ys)) L = none := by refine rE (CH.set_ne (Ne.symm hDL)) ?_; exact hL'
 have af₅ : After C H₁ s₁ (H'.set D (.list ys)) { s' with heap := h₃, toks := s'.toks + 1 } := af₄.hid (tk := s'.toks + 1) hL hs₃.extBut
 have S₅ : HS C (H'.set D (.list ys)) { s' with heap := h₃, toks := s'.toks + 1 } := T₄.toHS.hid (tk := s'.toks + 1) hoL hLD hLb (qb2 hnL hoL) hs₃.extBut
 have tk₅ : TupKeep h₂ h₃ := qat hoL (qb2 hnL hoL) hs₃.extBut
 have T₅ : St C ((x, .ref D) :: m₁) (H'.set D (.list ys)) { s' with heap := h₃, toks := s'.toks + 1 } := by
  refine eEA T₄.ns fun mr5 hn5 k5 => ?_
  refine ⟨S₅, ⟨mr5, hn5.extBut hs₃.extBut hLl, k5.keep tk₅⟩, T₄.loc, T₄.locb, fun e he => ?_⟩
  obtain ⟨a1, a2, a3, f, o, es, ep, hf, ho, hd, hnf, hb⟩ := T₄.frs e he
  have hfL : f ≠ L := fun q => by
   obtain ⟨_, _, _, f', o', es', ep', hf', ho', _⟩ := S₁.frs e he
   rw [hf] at hf'; cases hf'; rw [q, hL] at ho'; cases ho'
  exact ⟨a1, a2, a3, f, o, es, ep, hf, hs₃.extBut f _ hfL ho, hd, hnf, hb⟩
 exact ⟨.next, _, _, rfl, T₅, af₁.then S₁ af₅, fin ys H' D hJ' hD' hDb⟩
theorem LC_pure {elt target : PySem.Expr} {ifs : List PySem.Expr} {scope : Scope} {cl : List (Str × Addr)} {v : V} {Q : V → CH → Prop} {α : Type} (l : List α) (φ : α → V) (p : α → Bool) (f : α → V) {ok : CH → Prop}
  (hs : SeqOf C A v H (l.map φ) ok) (hok : ok H) (hsz : l.length ≤ sizeLine)
  (turn : ∀ a ∈ l, ∀ L, H L = none → ASG (C.comp scope cl L) A target (φ a) [] H fun m₂ H₂ => ETs (C.comp scope cl L) A ifs m₂ H₂ fun b m₃ H₃ => b = p a ∧ H₃ = H ∧ (b = true → EV (C.comp scope cl L) A elt m₃ H₃ fun y m₄ H₄ => y = f a ∧ H₄ = H))
  (fin : ∀ D, H D = none → C.h₀.get? D = none → Q (.ref D) (H.set D (.list ((l.filter p).map f)))) : LC C A elt target ifs scope cl v H Q := by
 refine ⟨l.map φ, ok, fun i ys H' => H' = H ∧ i ≤ l.length ∧ ys = ((l.take i).filter p).map f, hs, ⟨?_⟩, ⟨rfl, Nat.zero_le _, by rfl⟩, ?_⟩
 ·rintro i ys H' ⟨rfl, hi, rfl⟩
  refine ⟨hok, ?_, ?_⟩
  ·refine rE (List.length_map ..) ?_
   exact Nat.le_trans (List.length_filter_le ..) (Nat.le_trans (by refine rE List.length_take ?_; exact Nat.min_le_right i l.length) hsz)
  ·intro x hx L hL
   rw [List.getElem?_map] at hx
   refine eEA (Option.map_eq_some_iff.mp hx) fun a ha zz2 => ?_; subst zz2
   have hil : i < l.length := (List.getElem?_eq_some_iff.mp ha).1
   have htk : l.take (i + 1) = l.take i ++ [a] := by refine rE List.take_add_one (rE ha ?_); rfl
   have := turn a (List.mem_of_getElem? ha) L hL
   intro s r S hr
   refine wpAny_mono (this s r S hr) (fun _ s' ⟨m₂, H₂, S₂, af₂, h₂⟩ => ⟨m₂, H₂, S₂, af₂, ?_⟩) fun _ _ x => x
   have mono : ∀ {ifs : List PySem.Expr} {m₂ : Loc} {H₂ : CH} {Q Q' : Bool → Loc → CH → Prop}, (∀ b m H, Q b m H → Q' b m H) → ETs (C.comp scope cl L) A ifs m₂ H₂ Q → ETs (C.comp scope cl L) A ifs m₂ H₂ Q' := by
    intro ifs
    induction ifs with
    | nil => intro m₂ H₂ Q Q' q h; exact q _ _ _ h
    | cons c cs ih => intro m₂ H₂ Q Q' q h; exact EB.mono h fun b m H hb => ⟨fun e => ih q (hb.1 e), fun e => q _ _ _ (hb.2 e)⟩
   refine mono ?_ h₂
   rintro b m₃ H₃ ⟨rfl, rfl, hel⟩
   refine ⟨fun hb => (hel hb).mono ?_, fun hb => ⟨rfl, hil, ?_⟩⟩
   ·rintro y m₄ H₄ ⟨rfl, rfl⟩
    exact ⟨rfl, hil, by refine rE htk (rE (List.filter_append ..) (rE List.map_append (rE List.filter_cons (rE hb ?_)))); rfl⟩
   ·refine rE htk (rE (List.filter_append ..) (rE List.map_append (rE List.filter_cons (rE hb ?_)))); simp
 ·rintro ys H' D ⟨rfl, _, rfl⟩ hD hDb
  refine rE (List.length_map ..) (rE List.take_length ?_)
  exact fin D hD hDb
theorem LC_all {elt target : PySem.Expr} {ifs : List PySem.Expr} {scope : Scope} {cl : List (Str × Addr)} {v : V} {Q : V → CH → Prop} {α : Type} (l : List α) (φ : α → V) (f : α → V) {ok : CH → Prop}
  (hs : SeqOf C A v H (l.map φ) ok) (hok : ok H) (hsz : l.length ≤ sizeLine)
  (turn : ∀ a ∈ l, ∀ L, H L = none → ASG (C.comp scope cl L) A target (φ a) [] H fun m₂ H₂ => ETs (C.comp scope cl L) A ifs m₂ H₂ fun b m₃ H₃ => b = true ∧ H₃ = H ∧ (b = true → EV (C.comp scope cl L) A elt m₃ H₃ fun y m₄ H₄ => y = f a ∧ H₄ = H))
  (fin : ∀ D, H D = none → C.h₀.get? D = none → Q (.ref D) (H.set D (.list (l.map f)))) : LC C A elt target ifs scope cl v H Q :=
 LC_pure l φ (fun _ => true) f hs hok hsz turn fun D h1 h2 => by refine rE (List.filter_eq_self.mpr fun _ _ => rfl) ?_; exact fin D h1 h2
theorem LC_ints {elt target : PySem.Expr} {ifs : List PySem.Expr} {scope : Scope} {cl : List (Str × Addr)} {v : V} {Q : V → CH → Prop} {α : Type} (l : List α) (φ : α → V) (g : α → Int) {ok : CH → Prop}
  (hs : SeqOf C A v H (l.map φ) ok) (hok : ok H) (hsz : l.length ≤ sizeLine)
  (turn : ∀ a ∈ l, ∀ L, H L = none → ASG (C.comp scope cl L) A target (φ a) [] H fun m₂ H₂ => ETs (C.comp scope cl L) A ifs m₂ H₂ fun b m₃ H₃ => b = true ∧ H₃ = H ∧ (b = true → EV (C.comp scope cl L) A elt m₃ H₃ fun y m₄ H₄ => y = .int (g a) ∧ H₄ = H))
  (fin : ∀ D, H D = none → C.h₀.get? D = none → Q (.ref D) (H.set D (.list ((l.map g).map .int)))) : LC C A elt target ifs scope cl v H Q :=
 LC_all l φ (fun a => .int (g a)) hs hok hsz turn fun D h1 h2 => by refine rE (show l.map (fun a => V.int (g a)) = (l.map g).map .int from by rw [List.map_map]; rfl) ?_; exact fin D h1 h2
end
end
end Mine
end
section
open PySem PySem.Calls PySem.W PyProof.Rows
set_option maxRecDepth 100000
namespace Mine
noncomputable section
section
variable {C : Cx} {A : Around} {m : Loc} {H : CH} {s : Shared} {K : Frag} {mg mb : Str → Option Value}
end
end
end Mine
end
section
open PySem PySem.Calls PySem.W PyProof.Rows
set_option maxRecDepth 100000
namespace Mine
noncomputable section
noncomputable def qa2 : List (Str × Addr) → (Str → Option V) → CH → CH
 | [], _, H => H
 | (n, c) :: r, f, H => (qa2 r f H).set c (.cell (f n))
theorem setCells_low {L : Addr} : ∀ {cs : List (Str × Addr)} {f : Str → Option V} {H : CH}, (∀ q ∈ cs, L < q.2) → ∀ b, b ≤ L → qa2 cs f H b = H b
 | [], _, _, _, _, _ => rfl
 | (n, c) :: r, f, H, h, b, hb => by
  unfold qa2
  have : b ≠ c := fun e => by have := h (n, c) List.mem_cons_self; subst e; exact absurd this (Nat.not_lt.mpr hb)
  refine rE (CH.set_ne this) ?_
  exact setCells_low (fun q hq => h q (List.mem_cons_of_mem _ hq)) b hb
theorem look_one {x n : Str} {v : Value} : List.lookup x [(n, v)] = if x = n then some v else none := by
 refine rE List.lookup_cons ?_
 by_cases hx : x = n
 ·subst hx; simp
 ·refine rE (beq_eq_false_iff_ne.mpr hx) (rE (if_neg hx) ?_); rfl
theorem bindL_look {k : Str → Option NameKind} {x : Str} : ∀ (rb : List (Str × Value)) (m : Str → Option Value), bindL k rb m x = (((rb.filter fun p => k p.1 == some .local).reverse.lookup x).or (m x))
 | [], m => by simp [bindL]
 | (n, v) :: r, m => by
  unfold bindL
  rw [bindL_look r]
  by_cases h : k n = some .local
  ·rewrite [if_pos h]; refine rE List.filter_cons (rE (if_pos (show (k n == some NameKind.local) = true from beq_iff_eq.mpr h)) (rE List.reverse_cons (rE List.lookup_append (rE look_one ?_))))
   by_cases hx : x = n
   ·refine rE (if_pos hx) (rE (if_pos hx) (rE Option.or_assoc ?_)); rfl
   ·refine rE (if_neg hx) (rE (if_neg hx) (rE Option.or_none rfl))
  ·rewrite [if_neg h]; refine rE List.filter_cons (rE (if_neg (show ¬ (k n == some NameKind.local) = true from fun q => h (beq_iff_eq.mp q))) rfl)
theorem bindC_look {k : Str → Option NameKind} {x : Str} (hx : k x ≠ some .local) : ∀ (rb : List (Str × Value)) (m : Str → Option Value), bindC k rb m x = ((rb.reverse.lookup x).or (m x))
 | [], m => by simp [bindC]
 | (n, v) :: r, m => by
  unfold bindC
  rewrite [bindC_look hx r]; refine rE List.reverse_cons (rE List.lookup_append (rE look_one ?_))
  by_cases h : k n = some .local
  ·have hn : x ≠ n := fun e => hx (e ▸ h)
   rewrite [if_pos h]; refine rE (if_neg hn) (rE Option.or_none rfl)
  ·rewrite [if_neg h]
   by_cases hx' : x = n
   ·refine rE (if_pos hx') (rE (if_pos hx') (rE Option.or_assoc ?_)); rfl
   ·refine rE (if_neg hx') (rE (if_neg hx') (rE Option.or_none rfl))
section
variable {C : Cx} {A : Around} {m : Loc} {H : CH} {s : Shared} {K : Frag} {mg mb : Str → Option Value}
theorem lookup_pairs {h : Heap} {names : List Str} {vs : List V} {rs : List Value} (hv : VRs h vs rs) : KWs h (names.zip vs) (names.zip rs) := by
 induction names generalizing vs rs with
 | nil => exact ⟨rfl, .nil⟩
 | cons n names ih =>
  cases vs with
  | nil => have := hv.nil_inv; subst this; exact ⟨rfl, .nil⟩
  | cons v vs =>
   refine eEEAA hv.cons_inv fun r rs zz2 a b => ?_; subst zz2
   obtain ⟨h1, h2⟩ := ih b
   exact ⟨by simp only [List.zip_cons_cons, List.map_cons, h1], by simp only [List.zip_cons_cons, List.map_cons]; exact .cons a h2⟩
theorem KWs.filter {h : Heap} {p : Str → Bool} : ∀ {a : List (Str × V)} {b : List (Str × Value)}, KWs h a b → KWs h (a.filter fun q => p q.1) (b.filter fun q => p q.1)
 | [], b, k => by have := k.nil_inv; subst this; exact .nil
 | (x, v) :: a, b, k => by
  obtain ⟨k1, k2⟩ := k
  cases b with
  | nil => simp at k1
  | cons q b =>
   obtain ⟨y, r⟩ := q
   simp only [List.map_cons, List.cons.injEq] at k1 k2
   obtain ⟨rfl, k1⟩ := k1
   have ih := KWs.filter (p := p) ⟨k1, k2.tail⟩
   refine rE List.filter_cons (rE List.filter_cons ?_)
   by_cases hp : p y = true
   ·refine rE (if_pos hp) (rE (if_pos hp) ?_)
    exact ⟨by simp only [List.map_cons, ih.1], by simp only [List.map_cons]; exact .cons k2.head ih.2⟩
   ·refine rE (if_neg hp) (rE (if_neg hp) ?_); exact ih
theorem opt_kws {h : Heap} {a : List (Str × V)} {b : List (Str × Value)} (k : KWs h a b) {x : Str} : OptR h (a.lookup x) (b.lookup x) := by
 cases e : a.lookup x with
 | some v => refine eEA (qb3 k e) fun r hr hv => ?_; refine rE hr ?_; exact hv
 | none =>
  have : b.lookup x = none := by
   obtain ⟨k1, k2⟩ := k
   rw [List.lookup_eq_none_iff] at e ⊢
   intro p hp
   have : p.1 ∈ b.map (·.1) := List.mem_map_of_mem hp
   rw [k1] at this
   refine eEA (List.mem_map.mp this) fun q hq e' => ?_
   refine rF e' ?_; exact e q hq
  refine rE this ?_; trivial
theorem HS.cells {f : Str → Option V} (S : HS C H s) : ∀ {cs : List (Str × Addr)}, (∀ q ∈ cs, C.h₀.get? q.2 = none ∧ ∃ r, s.heap.IsCell q.2 r ∧ OptR s.heap (f q.1) r) → HS C (qa2 cs f H) s
 | [], _ => S
 | (n, c) :: r, h => by
  unfold qa2
  obtain ⟨hb, rv, ⟨o, ho, hd⟩, hr⟩ := h (n, c) List.mem_cons_self
  exact (HS.cells S fun q hq => h q (List.mem_cons_of_mem _ hq)).adopt hb ho ⟨rv, hd, hr⟩
theorem look_mem : ∀ {l : List (Str × Addr)} {x : Str}, x ∈ l.map (·.1) → (l.lookup x).isSome = true
 | [], _, h => by cases h
 | (y, c) :: r, x, h => by
  refine rE List.lookup_cons ?_
  cases e : x == y with
  | true => rfl
  | false =>
   refine look_mem ((List.mem_cons.mp h).resolve_left fun q => ?_)
   have q : x = y := q
   rw [q, beq_self_eq_true] at e; cases e
theorem look_nodup : ∀ {l : List (Str × Addr)} {q : Str × Addr}, (l.map (·.1)).Nodup → q ∈ l → l.lookup q.1 = some q.2
 | [], _, _, h => by cases h
 | (y, c) :: r, q, hn, h => by
  rw [List.map_cons, List.nodup_cons] at hn
  refine rE List.lookup_cons ?_
  rcases List.mem_cons.mp h with rfl | h
  ·refine rE (beq_self_eq_true ..) rfl
  ·have hne : (q.1 == y) = false := beq_eq_false_iff_ne.mpr fun e => hn.1 (e ▸ List.mem_map_of_mem (f := (·.1)) h)
   refine rE hne ?_; exact look_nodup hn.2 h
theorem cells_ok {names : List Str} {scope : Scope} (h : (names.all (fun x => scope.names.lookup x == some .local || (scope.names.lookup x == some .cell && ((cellsFrom 0 scope.names []).map (·.1)).contains x)) && ((cellsFrom 0 scope.names []).map (·.1)).all (fun x => scope.names.lookup x == some .cell) && decide ((cellsFrom 0 scope.names []).map (·.1)).Nodup && !scope.isCoroutine && !scope.isGenerator && scope.kind == .function) = true) (L : Nat) :
  (names.all (fun x => scope.names.lookup x == some .local || (scope.names.lookup x == some .cell && ((cellsFrom (L + 1) scope.names []).lookup x).isSome)) && (cellsFrom (L + 1) scope.names []).all (fun q => scope.names.lookup q.1 == some .cell && (cellsFrom (L + 1) scope.names []).lookup q.1 == some q.2) && !scope.isCoroutine && !scope.isGenerator && scope.kind == .function) = true := by
 have e : (cellsFrom (L + 1) scope.names []).map (·.1) = (cellsFrom 0 scope.names []).map (·.1) := cellsFrom_names scope.names _ _ [] [] rfl
 rw [← e] at h
 simp only [Bool.and_eq_true, List.all_eq_true, Bool.or_eq_true, decide_eq_true_eq, beq_iff_eq, List.contains_iff_mem] at h ⊢
 refine eA h fun zz0 h6 => ?_; obtain ⟨⟨⟨⟨h1, h2⟩, h3⟩, h4⟩, h5⟩ := zz0
 refine ⟨⟨⟨⟨fun x hx => (h1 x hx).imp id fun q => ⟨q.1, look_mem q.2⟩, fun q hq => ⟨h2 q.1 (List.mem_map_of_mem (f := (·.1)) hq), look_nodup h3 hq⟩⟩, h4⟩, h5⟩, h6⟩
theorem CALL_cells {f : Addr} {name qual : Str} {params : Arguments} {body : List Stmt} {scope : Scope} {dV kV doc pm cdv ct oc : Value} {an od : Option Addr} {osl : Array (Option Value)} {vs : List V} {names : List Str} {m' : Loc} {Q : V → CH → Prop}
  (B : Bs C.h₀ K mg mb) (ho : K.lookup f = some ⟨oc, od, .func (fnX name qual params body scope [] dV kV doc pm an cdv ct), osl⟩) (hcd : codeIn K cdv qual = true) {n : Nat} (hA : AOK C A (n + 1))
  (hlen : vs.length = names.length) (hb : ∀ rs : List Value, rs.length = names.length → bindArgs (fnX name qual params body scope [] dV kV doc pm an cdv ct) ⟨rs, []⟩ = pure (names.zip rs))
  (hok : ∀ L, (names.all (fun x => scope.names.lookup x == some .local || (scope.names.lookup x == some .cell && ((cellsFrom (L + 1) scope.names []).lookup x).isSome)) && (cellsFrom (L + 1) scope.names []).all (fun q => scope.names.lookup q.1 == some .cell && (cellsFrom (L + 1) scope.names []).lookup q.1 == some q.2) && !scope.isCoroutine && !scope.isGenerator && scope.kind == .function) = true)
  (hm : m' = ((names.zip vs).filter fun p => scope.names.lookup p.1 == some .local).reverse)
  (h : ∀ L, (∀ b, L ≤ b → H b = none ∧ C.h₀.get? b = none) → AOK (C.at (callEnvC (fnX name qual params body scope [] dV kV doc pm an cdv ct) L f)) (A.deeper (callEnvC (fnX name qual params body scope [] dV kV doc pm an cdv ct) L f)) n →
   EX (C.at (callEnvC (fnX name qual params body scope [] dV kV doc pm an cdv ct) L f)) (A.deeper (callEnvC (fnX name qual params body scope [] dV kV doc pm an cdv ct) L f)) body m'
    (qa2 (cellsFrom (L + 1) scope.names []) (fun x => (names.zip vs).reverse.lookup x) H) fun fl _ H' => Q (retOf fl) H') :
  CALL C A (.con (.ref f)) vs [] H Q := fun s rf rs rkw S F hf hv hkw => by
 have := hkw.nil_inv; subst this
 refine rE hf.con_inv ?_
 have hok' := hok s.heap.objs.size
 simp only [Bool.and_eq_true, List.all_eq_true, Bool.not_eq_true', beq_iff_eq, Bool.or_eq_true] at hok'
 refine eA hok' fun zz0 h5 => ?_; obtain ⟨⟨⟨h1, h2⟩, h3⟩, h4⟩ := zz0
 have hpk := lookup_pairs (names := names) hv
 refine codeAny_call_cells hA.room (S.base _ _ (B.X _ _ ho)) rfl (B.lim.keeps S.base) ((codeRec_of B.X hcd).keeps S.base) rfl (hb rs (by refine rF hv.length (rE hlen rfl))) rfl (fun x hx => ?_) (fun s₁ x => ?_) h3 h4 h5
 ·have hx' : x.1 ∈ names := by
   have := List.mem_map_of_mem (f := (·.1)) hx
   rw [List.map_fst_zip] at this
   ·exact this
   ·refine rF hlen (rE hv.length ?_); exact Nat.le_refl _
  exact h1 x.1 hx'
 ·generalize hL : s.heap.objs.size = L at *
  have hfr : ∀ b, L ≤ b → H b = none ∧ C.h₀.get? b = none := fun b hb => by
   have hs0 : s.heap.get? b = none := by
    cases e : s.heap.get? b with
    | none => rfl
    | some o => have := Heap.lt_size e; rw [hL] at this; exact absurd this (Nat.not_lt.mpr hb)
   refine ⟨?_, ?_⟩
   ·exact S.own_none hs0
   ·exact S.base_none hs0
  have hkeep := x.toInCall.keep
  have tk' : TupKeep s.heap s₁.heap := .of_keep hkeep
  refine eEE x.toInCall.same fun h₁ tk₁ zz2 => ?_; subst zz2
  have S₁ : HS C H { s with heap := h₁, toks := tk₁ } := S.more hkeep
  have hcs : (callEnvC (fnX name qual params body scope [] dV kV doc pm an cdv ct) L f).cells = cellsFrom (L + 1) scope.names [] := rfl
  have hab : ∀ q ∈ cellsFrom (L + 1) scope.names [], L < q.2 := fun q hq => x.above q.1 q.2 hq
  have hrep : HS C (qa2 (cellsFrom (L + 1) scope.names []) (fun x => (names.zip vs).reverse.lookup x) H) { s with heap := h₁, toks := tk₁ } := by
   refine S₁.cells fun q hq => ⟨(hfr q.2 (Nat.le_of_lt (hab q hq))).2, _, x.cell q.1 q.2 (h2 q hq).2, ?_⟩
   rewrite [bindC_look (by show scope.names.lookup q.1 ≠ some .local; rw [(h2 q hq).1]; decide)]; refine rE Option.or_none ?_
   exact opt_kws (hpk.keep tk').rev
  have low := fun b (hb : b ≤ L) => setCells_low (f := fun x => (names.zip vs).reverse.lookup x) (H := H) hab b hb
  have hlt : ∀ {b o}, s.heap.get? b = some o → b ≤ L := fun {b o} e => by refine rF hL ?_; exact Nat.le_of_lt (Heap.lt_size e)
  have a₁ : AfterC H s (qa2 (cellsFrom (L + 1) scope.names []) (fun x => (names.zip vs).reverse.lookup x) H) { s with heap := h₁, toks := tk₁ } :=
   ⟨fun b o hn e => ⟨o, hkeep b o e, .refl o⟩, fun b o hn e => by refine rE (low b (hlt e)) ?_; exact hn, fun b o e => ⟨o, hkeep b o e⟩, rfl, rfl⟩
  have T₁ : St (C.at (callEnvC (fnX name qual params body scope [] dV kV doc pm an cdv ct) L f)) m' (qa2 (cellsFrom (L + 1) scope.names []) (fun x => (names.zip vs).reverse.lookup x) H) { s with heap := h₁, toks := tk₁ } := by
   refine ⟨⟨hrep.base, hrep.own, hrep.gens⟩, ⟨_, x.toInCall.ns, fun y v e => ?_⟩, ?_, (hfr L (Nat.le_refl _)).2, fun e he => ?_⟩
   ·subst hm
    refine rE (bindL_look ..) (rE Option.or_none ?_)
    exact qb3 ((hpk.filter (p := fun y => scope.names.lookup y == some .local)).rev.keep tk') e
   ·show qa2 _ _ H L = none
    refine rE (low L (Nat.le_refl _)) ?_; exact (hfr L (Nat.le_refl _)).1
   ·rcases List.mem_cons.mp he with rfl | he
    ·obtain ⟨o', es, ep, ho', hd', _⟩ := x.toInCall.ns
     refine ⟨h5, h4, h3, L, o', es, ep, rfl, ho', hd', ?_, (hfr L (Nat.le_refl _)).2⟩
     refine rE (low L (Nat.le_refl _)) ?_; exact (hfr L (Nat.le_refl _)).1
    ·exact F.after a₁ e he
  refine wpAny_noRaise (wpAny_mono (h L hfr hA.at _ T₁) ?_ fun _ _ x => x)
  rintro fl s' ⟨f', m₂, H₂, hfl, S₂, af, q⟩
  have a : AfterC H s H₂ s' := by
   have hl0 : s.heap.get? L = none := by
    cases e : s.heap.get? L with
    | none => rfl
    | some o => have := Heap.lt_size e; rw [hL] at this; exact absurd this (Nat.lt_irrefl _)
   exact a₁.thenAt (C := C.at (callEnvC (fnX name qual params body scope [] dV kV doc pm an cdv ct) L f)) af hl0
  cases f' with
  | ret v => obtain ⟨r, rfl, hr⟩ := hfl; exact ⟨v, H₂, hr, S₂.toHS.back, a, q⟩
  | next => cases hfl; exact ⟨V.none, H₂, .con, S₂.toHS.back, a, q⟩
  | brk => cases hfl; exact ⟨V.none, H₂, .con, S₂.toHS.back, a, q⟩
  | cont => cases hfl; exact ⟨V.none, H₂, .con, S₂.toHS.back, a, q⟩
theorem bz1 {fd : FuncData} {x : Str} (h : autoParam (∀ a, bindArgs fd ⟨[a], []⟩ = pure [(x, a)]) Mine.syn2) : ∀ rs : List Value, rs.length = [x].length → bindArgs fd ⟨rs, []⟩ = pure ([x].zip rs) := fun rs e => by
 refine eE (List.length_eq_one_iff.mp e) fun a zz1 => ?_; subst zz1; exact h a
theorem bz3 {fd : FuncData} {x y z : Str} (h : ∀ a b c, bindArgs fd ⟨[a, b, c], []⟩ = pure [(x, a), (y, b), (z, c)] := by intro _ _ _; with_unfolding_all rfl) : ∀ rs : List Value, rs.length = [x, y, z].length → bindArgs fd ⟨rs, []⟩ = pure ([x, y, z].zip rs) := fun rs e => by
 rcases rs with _ | ⟨a, _ | ⟨b, _ | ⟨c, _ | ⟨d, r⟩⟩⟩⟩
 ·cases e
 ·cases e
 ·cases e
 ·exact h a b c
 ·cases e
end
end
end Mine
end
section
open PySem PySem.Calls PySem.W PyProof.Rows
set_option maxRecDepth 100000
namespace Mine
noncomputable section
noncomputable def putI (kvs : List (Int × V)) (k : Int) (v : V) : List (Int × V) :=
 if kvs.any (fun kv => kv.1 == k) then kvs.map (fun kv => if kv.1 = k then (kv.1, v) else kv) else kvs ++ [(k, v)]
noncomputable def dropI (kvs : List (Int × V)) (k : Int) : List (Int × V) := kvs.filter fun kv => kv.1 != k
section
variable {C : Cx} {A : Around} {m : Loc} {H : CH} {s : Shared} {K : Frag} {mg mb : Str → Option Value}
noncomputable def rawOf (kvs : List (Int × V)) (rs : List Value) : List (Int × Value) := (kvs.map (·.1)).zip rs
theorem qbx {k : Int} : ∀ {l : List (Int × Value)}, valueAt l k = l.lookup k
 | [] => rfl
 | (a, v) :: l => by
  unfold valueAt
  refine rE List.find?_cons (rE List.lookup_cons ?_)
  by_cases h : a = k
  ·subst h; simp
  ·have h' : k ≠ a := fun e => h e.symm
   simp only [h, decide_false, beq_eq_false_iff_ne.mpr h']
   exact qbx
theorem qbl {h : Heap} {k : Int} : ∀ {kvs : List (Int × V)} {rs : List Value}, VRs h (kvs.map (·.2)) rs → OptR h (kvs.lookup k) ((rawOf kvs rs).lookup k)
 | [], rs, r => by have := r.nil_inv; subst this; trivial
 | (a, v) :: kvs, rs, r => by
  refine eEEAA r.cons_inv fun y ys zz2 p q => ?_; subst zz2
  show OptR h (List.lookup k ((a, v) :: kvs)) (List.lookup k ((a, y) :: rawOf kvs ys))
  refine rE List.lookup_cons (rE List.lookup_cons ?_)
  by_cases h : k = a
  ·subst h; simp only [beq_self_eq_true]; exact p
  ·simp only [beq_eq_false_iff_ne.mpr h]; exact qbl q
theorem qaq {h : Heap} {kvs : List (Int × V)} {rs : List Value} (r : VRs h (kvs.map (·.2)) rs) : (rawOf kvs rs).length = kvs.length := by
 have := r.length; unfold rawOf; simp at this ⊢; grind
theorem qcz {h : Heap} {kvs : List (Int × V)} {rs : List Value} (r : VRs h (kvs.map (·.2)) rs) : (rawOf kvs rs).map (·.1) = kvs.map (·.1) := by
 unfold rawOf; rw [List.map_fst_zip]; have := r.length; simp at this ⊢; exact Nat.le_of_eq this
theorem VRs.of_raw {h : Heap} : ∀ {kvs : List (Int × V)} {l : List (Int × Value)}, l.map (·.1) = kvs.map (·.1) → VRs h (kvs.map (·.2)) (l.map (·.2)) → l = rawOf kvs (l.map (·.2))
 | [], l, e, _ => by have := List.map_eq_nil_iff.mp e; subst this; rfl
 | (a, v) :: kvs, l, e, r => by
  cases l with
  | nil => simp at e
  | cons q l =>
   obtain ⟨b, y⟩ := q
   simp only [List.map_cons, List.cons.injEq] at e r
   obtain ⟨rfl, e⟩ := e
   show (b, y) :: l = (b, y) :: rawOf kvs (l.map (·.2))
   refine rF (VRs.of_raw e r.tail) rfl
theorem put_raw {h : Heap} {k : Int} {v : V} {r : Value} (hv : VR h v r) {kvs : List (Int × V)} {rs : List Value} (hr : VRs h (kvs.map (·.2)) rs) :
  ∃ rs', stored (rawOf kvs rs) k r = rawOf (putI kvs k v) rs' ∧ VRs h ((putI kvs k v).map (·.2)) rs' := by
 have hany : (rawOf kvs rs).any (fun kv => decide (kv.1 = k)) = kvs.any (fun kv => kv.1 == k) := by
  have h1 : ∀ l : List (Int × Value), l.any (fun kv => decide (kv.1 = k)) = (l.map (·.1)).any (fun a => decide (a = k)) := fun l => by refine rE List.any_map ?_; rfl
  have h2 : kvs.any (fun kv => kv.1 == k) = (kvs.map (·.1)).any (fun a => decide (a = k)) := by
   refine rE List.any_map ?_; congr 1
  refine rE (h1 ..) (rE h2 (rE (qcz hr) rfl))
 have main : ∀ {kvs : List (Int × V)} {rs : List Value}, VRs h (kvs.map (·.2)) rs → VRs h ((kvs.map fun kv => if kv.1 = k then (kv.1, v) else kv).map (·.2)) (((rawOf kvs rs).map fun kv => if kv.1 = k then (kv.1, r) else kv).map (·.2)) := by
  intro kvs
  induction kvs with
  | nil => intro rs q; have := q.nil_inv; subst this; exact .nil
  | cons p kvs ih =>
   intro rs q
   obtain ⟨a, w⟩ := p
   refine eEEAA q.cons_inv fun y ys zz2 p1 p2 => ?_; subst zz2
   show VRs h (_ :: _) (_ :: _)
   refine .cons ?_ (ih p2)
   by_cases hk : a = k
   ·simp only [hk, if_true]; exact hv
   ·simp only [hk, if_false]; exact p1
 have keys : ∀ {kvs : List (Int × V)} {rs : List Value}, VRs h (kvs.map (·.2)) rs → (((rawOf kvs rs).map fun kv => if kv.1 = k then (kv.1, r) else kv).map (·.1)) = ((kvs.map fun kv => if kv.1 = k then (kv.1, v) else kv).map (·.1)) := by
  intro kvs rs q
  have e1 : ∀ l : List (Int × Value), ((l.map fun kv => if kv.1 = k then (kv.1, r) else kv).map (·.1)) = l.map (·.1) := fun l => by
   refine rE List.map_map ?_; congr 1; funext kv; simp only [Function.comp]; split <;> rfl
  have e2 : ∀ l : List (Int × V), ((l.map fun kv => if kv.1 = k then (kv.1, v) else kv).map (·.1)) = l.map (·.1) := fun l => by
   refine rE List.map_map ?_; congr 1; funext kv; simp only [Function.comp]; split <;> rfl
  refine rE (e1 ..) (rE (e2 ..) (rE (qcz q) rfl))
 unfold stored putI
 refine rE hany ?_
 by_cases ha : (kvs.any fun kv => kv.1 == k) = true
 ·refine rE (if_pos ha) (rE (if_pos ha) ?_)
  exact ⟨_, VRs.of_raw (keys hr) (main hr), main hr⟩
 ·refine rE (if_neg ha) (rE (if_neg ha) ?_)
  refine ⟨rs ++ [r], ?_, ?_⟩
  ·unfold rawOf
   refine rE List.map_append (rE (List.zip_append (by have := hr.length; simp at this ⊢; omega)) ?_); rfl
  ·refine rE List.map_append ?_; exact hr.append (.cons hv .nil)
theorem drop_raw {h : Heap} {k : Int} {kvs : List (Int × V)} {rs : List Value} (hr : VRs h (kvs.map (·.2)) rs) :
  ∃ rs', without (rawOf kvs rs) k = rawOf (dropI kvs k) rs' ∧ VRs h ((dropI kvs k).map (·.2)) rs' := by
 induction kvs generalizing rs with
 | nil => have := hr.nil_inv; subst this; exact ⟨[], rfl, .nil⟩
 | cons p kvs ih =>
  obtain ⟨a, w⟩ := p
  refine eEEAA hr.cons_inv fun y ys zz2 p1 p2 => ?_; subst zz2
  refine eEA (ih p2) fun rs' e q => ?_
  show ∃ rs', without ((a, y) :: rawOf kvs ys) k = rawOf (dropI ((a, w) :: kvs) k) rs' ∧ _
  unfold without dropI at *
  refine rE List.filter_cons (rE List.filter_cons (rE e ?_))
  by_cases hk : a = k
  ·subst hk; simp only [ne_eq, not_true_eq_false, decide_false, bne_self_eq_false, Bool.false_eq_true, if_false]; exact ⟨rs', rfl, q⟩
  ·have hb : (a != k) = true := bne_iff_ne.mpr hk
   simp only [ne_eq, hk, not_false_eq_true, decide_true, hb, if_true]
   exact ⟨y :: rs', rfl, .cons p1 q⟩
theorem HS.dict (S : HS C H s) {d : Addr} {kvs : List (Int × V)} {ep : Nat} (hd : H d = some (.dict kvs ep)) : ∃ rs, s.heap.DictAt (intKind C.prog C.w) d (rawOf kvs rs) ep ∧ VRs s.heap (kvs.map (·.2)) rs := by
 obtain ⟨_, o, ho, he, es, rs, hdt, hk, hp, hn, hr⟩ := S.own d _ hd
 exact ⟨rs, ⟨o, es, ho, he, hdt, hk, hp, by refine rE (show (rawOf kvs rs).map (·.1) = kvs.map (·.1) from qcz hr) ?_; exact hn⟩, hr⟩
theorem dict_rep {h : Heap} {d : Addr} {kvs : List (Int × V)} {l : List (Int × Value)} {rs : List Value} {h₁ : Heap} (hm : h.DictOf (intKind C.prog C.w) d l) (e : l = rawOf kvs rs) (hr : VRs h₁ (kvs.map (·.2)) rs) :
  ∃ o ep, h.get? d = some o ∧ ORep C h₁ (.dict kvs ep) o := by
 obtain ⟨o, es, ep, ho, he, hdt, hk, hp, hn⟩ := hm
 subst e
 exact ⟨o, ep, ho, he, es, rs, hdt, hk, hp, by rw [qcz hr] at hn; exact hn, hr⟩
theorem Bs.sysm (B : Bs C.h₀ K mg mb) (S : HS C H s) {d : Addr} {c : CObj} (hd : H d = some c) : (d == sysModules) = false := by
 refine eA (S.own d c hd) fun hb _ => ?_
 refine eE B.sys fun o ho => ?_
 refine beq_eq_false_iff_ne.mpr fun e => ?_
 rw [e, ho] at hb; cases hb
theorem map_of {d : Addr} {kvs : List (Int × V)} {rs : List Value} {ep : Nat} (x : s.heap.DictAt (intKind C.prog C.w) d (rawOf kvs rs) ep) : s.heap.MapOf (intKind C.prog C.w) d (fun k => (rawOf kvs rs).lookup k) := by
 have := x.dictOf.mapOf
 rwa [show valueAt (rawOf kvs rs) = fun k => (rawOf kvs rs).lookup k from funext fun k => qbx] at this
variable {d : Addr} {kvs : List (Int × V)} {ep : Nat} {k : Int} {Q : V → Loc → CH → Prop}
theorem EV_dict {p : Pos} (h : ∀ a, H a = none → C.h₀.get? a = none → Q (.ref a) m (H.set a (.dict [] 0))) : EV C A (.Dict [] [] p) m H Q := fun s S =>
 wpAny_Dict_empty ⟨_, m, _, .ref, S.alloc (tk := s.toks) (c := .dict [] 0) ⟨⟨rfl, rfl, rfl⟩, #[], [], rfl, fun _ he => by simp at he, .nil, .nil, .nil⟩, .alloc, h _ S.toHS.fresh S.toHS.freshb⟩
theorem qau {value slice : PySem.Expr} {v : V} (hd : H d = some (.dict kvs ep)) (hv : kvs.lookup k = some v) (h : Q v m H) (hs : autoParam (NoSlice slice) Mine.syn3) : O2 C A (subscriptTail value slice) (.ref d) (.int k) m H Q := fun s r q S hr hq => by
 refine rE hr.ref_inv ?_; (refine eE hq.int_inv fun u zz1 => ?_; subst zz1)
 refine eEA (S.toHS.dict hd) fun rs hD hrs => ?_
 have := qbl (k := k) hrs
 rw [hv] at this
 refine eEA this.some_inv fun y hy hvy => ?_
 exact tail_any hD.dictOf.typeIs slot_dict_getitem.lookup (wpAny_getItem_of (knd := intKind C.prog C.w) (intKind_is _ _ _ _) (map_of hD) hy (.same S hvy h _)) (hs _ _)
theorem qck {v : V} {QU : Loc → CH → Prop} (hd : H d = some (.dict kvs ep)) (hsz : kvs.length ≤ sizeLine) (h : ∀ ep', QU m (H.set d (.dict (putI kvs k v) ep'))) : O3 C A setItem (.ref d) (.int k) v m H QU := fun s r q p S hr hq hp => by
 refine rE hr.ref_inv ?_; (refine eE hq.int_inv fun u zz1 => ?_; subst zz1)
 refine eEA (S.toHS.dict hd) fun rs hD hrs => ?_
 refine eEA (put_raw (k := k) hp hrs) fun rs' e hrs' => ?_
 refine wpAny_setItem_pairs (knd := intKind C.prog C.w) (intKind_is _ _ _ _) hD.dictOf (fun h' hm hs => ?_) (by refine rE (qaq hrs) ?_; exact hsz)
 refine eEEA (dict_rep (C := C) hm e hrs') fun o ep' ho hrep => ?_
 exact ⟨m, _, S.upd (tk := s.toks + 1) hd hs ho hrep, .upd (tk := s.toks + 1) hd hs ho, h ep'⟩
theorem O2_in_dict (B : Bs C.h₀ K mg mb) (hd : H d = some (.dict kvs ep)) (h : Q (.bool (kvs.lookup k).isSome) m H) : O2 C A (compareOp .In) (.int k) (.ref d) m H Q := fun s q r S hq hr => by
 refine rE hr.ref_inv ?_; (refine eE hq.int_inv fun u zz1 => ?_; subst zz1)
 refine eEA (S.toHS.dict hd) fun rs hD hrs => ?_
 refine wpAny_in_of (knd := intKind C.prog C.w) (intKind_is _ _ _ _) (B.sysm S.toHS hd) (map_of hD) ?_
 have e : ((rawOf kvs rs).lookup k).isSome = (kvs.lookup k).isSome := by
  have := qbl (k := k) hrs
  cases e1 : kvs.lookup k <;> cases e2 : (rawOf kvs rs).lookup k <;> rw [e1, e2] at this <;> first | rfl | exact this.elim
 refine rE e ?_; exact .same S .con h _
theorem qdc (B : Bs C.h₀ K mg mb) (hd : H d = some (.dict kvs ep)) (h : Q (.bool (!(kvs.lookup k).isSome)) m H) : O2 C A (compareOp .NotIn) (.int k) (.ref d) m H Q := fun s q r S hq hr => by
 refine rE hr.ref_inv ?_; (refine eE hq.int_inv fun u zz1 => ?_; subst zz1)
 refine eEA (S.toHS.dict hd) fun rs hD hrs => ?_
 have e : ((rawOf kvs rs).lookup k).isSome = (kvs.lookup k).isSome := by
  have := qbl (k := k) hrs
  cases e1 : kvs.lookup k <;> cases e2 : (rawOf kvs rs).lookup k <;> rw [e1, e2] at this <;> first | rfl | exact this.elim
 rw [← e] at h
 exact wpAny_notIn_of (knd := intKind C.prog C.w) (intKind_is _ _ _ _) (B.sysm S.toHS hd) (map_of hD) (.same S .con h _)
theorem GM_dict {name : Str} {id : String} {Q : V → List V → Prop} (hd : H d = some (.dict kvs ep)) (slot : Slot "dict" name id) (hty : typeOf (.builtin id) = pure (.type "method_descriptor")) (h : Q (.con (.builtin id)) [.ref d]) : GM C A (.ref d) name m H Q := fun s ro pl S hr => by
 refine rE hr.ref_inv ?_
 refine eEA (S.toHS.dict hd) fun rs zz1 _ => ?_; obtain ⟨o, es, ho, he, hdt, _⟩ := zz1
 exact getMethod_builtin ⟨_, ho, he.1⟩ F.plainAttrs_dict slot hty (fun a e => by cases e; exact ⟨_, ho, he.2.1⟩) ⟨_, _, .con, .cons .ref .nil, rfl, rfl, rfl, rfl, h⟩
theorem CV_get (B : Bs C.h₀ K mg mb) (hd : H d = some (.dict kvs ep)) (h : Q ((kvs.lookup k).getD V.none) m H) : CV C A (.con (.builtin "dict.get")) [.ref d, .int k] [] m H Q := fun s rf rs rkw S hf hva hk => by
 have := hk.nil_inv; subst this
 refine rE hf.con_inv ?_
 refine eEEAA (qbm hva) fun a b zz2 ha hb => ?_; subst zz2
 refine rE ha.ref_inv ?_; (refine eE hb.int_inv fun u zz1 => ?_; subst zz1)
 refine eEA (S.toHS.dict hd) fun rs hD hrs => ?_
 refine call_meetsIn F.slot_dict_get hD.dictOf.typeIs F.entry_dict_get (F.args_dict_get_2 _ _) (meets_dict_get (intKind C.prog C.w) d (intKind_is _ _ _ _) (B.sysm S.toHS hd)) ⟨_, map_of hD, ?_⟩
 have := qbl (k := k) hrs
 cases e1 : kvs.lookup k with
 | none =>
  cases e2 : (rawOf kvs rs).lookup k with
  | none => rw [e1] at h; exact .same S .con h _
  | some => rw [e1, e2] at this; exact this.elim
 | some v =>
  rw [e1] at this h
  refine eEA this.some_inv fun y hy hvy => ?_
  simp only [hy, Option.getD_some]
  exact .same S hvy h _
end
end
end Mine
end
section
open PySem PySem.Calls PySem.W PyProof.Rows
set_option maxRecDepth 100000
namespace Mine
noncomputable section
mutual
inductive DR (C : Cx) (H : CH) : V → Dat → Prop
 | none : DR C H V.none .none
 | int (i : Int) : DR C H (.int i) (.int i)
 | str (x : Str) : DR C H (.str x) (.str x)
 | tup {l : List V} {ds : List Dat} : DRs C H l ds → DR C H (.tup l) (.tuple ds)
 | list {a : Addr} {xs : List V} {ds : List Dat} : LAt C H a xs → DRs C H xs ds → DR C H (.ref a) (.list ds)
inductive DRs (C : Cx) (H : CH) : List V → List Dat → Prop
 | nil : DRs C H [] []
 | cons {v : V} {d : Dat} {vs : List V} {ds : List Dat} : DR C H v d → DRs C H vs ds → DRs C H (v :: vs) (d :: ds)
end
theorem DRs.map {C : Cx} {H : CH} {α : Type} {f : α → V} {g : α → Dat} : ∀ {l : List α}, (∀ a ∈ l, DR C H (f a) (g a)) → DRs C H (l.map f) (l.map g)
 | [], _ => .nil
 | a :: l, h => .cons (h a List.mem_cons_self) (DRs.map fun b hb => h b (List.mem_cons_of_mem _ hb))
section
variable {C : Cx} {A : Around} {m : Loc} {H : CH} {s : Shared} {K : Frag} {mg mb : Str → Option Value} {Q : V → Loc → CH → Prop}
theorem DR.reads2 (S : HS C H s) : (∀ {v : V} {d : Dat}, DR C H v d → ∀ {r : Value}, VR s.heap v r → ∃ as, Reads s.heap r (kqdP d) as) ∧ ∀ {vs : List V} {ds : List Dat}, DRs C H vs ds → ∀ {rs : List Value}, VRs s.heap vs rs → ∃ as, ReadsAll s.heap rs (kqdPs ds) as := by
 have c1 : ∀ r, VR s.heap V.none r → ∃ as, Reads s.heap r (kqdP .none) as := fun r hv => by refine rE hv.con_inv ?_; exact ⟨_, .none⟩
 have c2 : ∀ i r, VR s.heap (.int i) r → ∃ as, Reads s.heap r (kqdP (.int i)) as := fun i r hv => by (refine eE hv.int_inv fun t zz1 => ?_; subst zz1); exact ⟨_, .int i t⟩
 have c3 : ∀ x r, VR s.heap (.str x) r → ∃ as, Reads s.heap r (kqdP (.str x)) as := fun x r hv => by (refine eE hv.str_inv fun t zz1 => ?_; subst zz1); exact ⟨_, .str x t⟩
 have c4 : ∀ {l : List V} {ds : List Dat}, (∀ rs, VRs s.heap l rs → ∃ as, ReadsAll s.heap rs (kqdPs ds) as) → ∀ r, VR s.heap (.tup l) r → ∃ as, Reads s.heap r (kqdP (.tuple ds)) as := fun q r hv => by
  obtain ⟨a, items, n, rfl, ho, hs⟩ := hv.tup_inv
  refine eE (q _ hs) fun as h => ?_
  rw [kqdP]; exact ⟨as, reads_tuple_at ho rfl rfl h⟩
 have c5 : ∀ {a : Addr} {xs : List V} {ds : List Dat}, LAt C H a xs → (∀ rs, VRs s.heap xs rs → ∃ as, ReadsAll s.heap rs (kqdPs ds) as) → ∀ r, VR s.heap (.ref a) r → ∃ as, Reads s.heap r (kqdP (.list ds)) as := fun hl q r hv => by
  refine rE hv.ref_inv ?_
  obtain ⟨items, n, hL, hvs, hz⟩ := S.list hl
  refine eE (q _ hvs) fun as h => ?_
  rw [kqdP]; exact ⟨_, reads_list_at hL rfl rfl h⟩
 have c6 : ∀ rs, VRs s.heap [] rs → ∃ as, ReadsAll s.heap rs (kqdPs []) as := fun rs hv => by have := hv.nil_inv; subst this; exact ⟨_, .nil⟩
 have c7 : ∀ {v : V} {d : Dat} {vs : List V} {ds : List Dat}, (∀ r, VR s.heap v r → ∃ as, Reads s.heap r (kqdP d) as) → (∀ rs, VRs s.heap vs rs → ∃ as, ReadsAll s.heap rs (kqdPs ds) as) → ∀ rs, VRs s.heap (v :: vs) rs → ∃ as, ReadsAll s.heap rs (kqdPs (d :: ds)) as := fun p q rs hv => by
  refine eEEAA hv.cons_inv fun y ys zz2 a b => ?_; subst zz2
  refine eE (p _ a) fun as h1 => ?_
  refine eE (q _ b) fun bs h2 => ?_
  rw [kqdPs]; exact ⟨_, .cons h1 h2⟩
 exact ⟨fun {v d} h {r} => DR.rec (motive_1 := fun v d _ => ∀ r, VR s.heap v r → ∃ as, Reads s.heap r (kqdP d) as) (motive_2 := fun vs ds _ => ∀ rs, VRs s.heap vs rs → ∃ as, ReadsAll s.heap rs (kqdPs ds) as) c1 c2 c3 (fun _ q => c4 q) (fun hl _ q => c5 hl q) c6 (fun _ _ p q => c7 p q) h r,
  fun {vs ds} h {rs} => DRs.rec (motive_1 := fun v d _ => ∀ r, VR s.heap v r → ∃ as, Reads s.heap r (kqdP d) as) (motive_2 := fun vs ds _ => ∀ rs, VRs s.heap vs rs → ∃ as, ReadsAll s.heap rs (kqdPs ds) as) c1 c2 c3 (fun _ q => c4 q) (fun hl _ q => c5 hl q) c6 (fun _ _ p q => c7 p q) h rs⟩
theorem DR.reads (S : HS C H s) {v : V} {d : Dat} {r : Value} (h : DR C H v d) (hv : VR s.heap v r) : ∃ as, Reads s.heap r (kqdP d) as := (DR.reads2 S).1 h hv
theorem O2_eqd {v w : V} {d e : Dat} (hd : DR C H v d) (he : DR C H w e) (kd : kqdOk 8 d = true) (ke : kqdOk 8 e = true) (hu : A.units + 10 < cLine) (h : ∀ b, (b = true ↔ d = e) → Q (.bool b) m H) : O2 C A (compareOp .Eq) v w m H Q := fun s r q S hr hq => by
 refine eE (hd.reads S.toHS hr) fun as ra => ?_
 refine eE (he.reads S.toHS hq) fun bs rb => ?_
 have la := kqd_lay 8 d kd
 have lb := kqd_lay 8 e ke
 exact SeqAt.compareEq_reads ra rb la.1 lb.1 (by have := la.2; have := lb.2; lia) (.here S .con (h _ (kqd_eqv 8 d e 8 kd ke)))
theorem O2_ned {v w : V} {d e : Dat} (hd : DR C H v d) (he : DR C H w e) (kd : kqdOk 8 d = true) (ke : kqdOk 8 e = true) (hu : A.units + 10 < cLine) (h : ∀ b, (b = true ↔ d ≠ e) → Q (.bool b) m H) : O2 C A (compareOp .NotEq) v w m H Q := fun s r q S hr hq => by
 refine eE (hd.reads S.toHS hr) fun as ra => ?_
 refine eE (he.reads S.toHS hq) fun bs rb => ?_
 have la := kqd_lay 8 d kd
 have lb := kqd_lay 8 e ke
 have k := kqd_eqv 8 d e 8 kd ke
 exact SeqAt.compareNe_reads ra rb la.1 lb.1 (by have := la.2; have := lb.2; omega) (.here S .con (h _ (by (refine rE (Bool.not_eq_true' ..) (rF (Bool.not_eq_true ..) ?_); rw [k]))))
variable {a : Addr} {T : Int → Bool} {n : Nat} {k : Int}
theorem HS.set (S : HS C H s) (ha : H a = some (.set T n)) : s.heap.SetOf (intKind C.prog C.w) a T n := by
 obtain ⟨_, o, ho, he, es, ep, t, hd, r⟩ := S.own a _ ha
 exact ⟨o, es, ep, t, ho, he, hd, r⟩
theorem set_rep {h : Heap} (x : h.SetOf (intKind C.prog C.w) a T n) {h₁ : Heap} : ∃ o, h.get? a = some o ∧ ORep C h₁ (.set T n) o := by
 obtain ⟨o, es, ep, t, ho, he, hd, r⟩ := x
 exact ⟨o, ho, he, es, ep, t, hd, r⟩
theorem CV_set0 (h : ∀ a, H a = none → C.h₀.get? a = none → Q (.ref a) m (H.set a (.set (fun _ => false) 0))) : CV C A (.con (.type "set")) [] [] m H Q := fun s rf rs rkw S hf hva hk => by
 have := hk.nil_inv; subst this
 refine rE hf.con_inv ?_
 have := hva.nil_inv; subst this
 refine call_set_0 fun led => ?_
 exact ⟨_, m, _, .ref, S.alloc (tk := s.toks) (c := .set (fun _ => false) 0) ⟨⟨rfl, rfl, rfl⟩, #[], 0, .fresh 0 0 led, rfl, fun _ he => by simp at he, fun _ => by simp, by decide, by rfl, rfl⟩, .alloc, h _ S.toHS.fresh S.toHS.freshb⟩
theorem GM_set {Q : V → List V → Prop} (ha : H a = some (.set T n)) (h : Q (.con (.builtin "set.add")) [.ref a]) : GM C A (.ref a) "add" m H Q := fun s ro pl S hr => by
 refine rE hr.ref_inv ?_
 exact getMethod_set_add (S.toHS.set ha) ⟨_, _, .con, .cons .ref .nil, rfl, rfl, rfl, rfl, h⟩
theorem CV_add (ha : H a = some (.set T n)) (hroom : n + 1 < scanBound) (h : Q V.none m (H.set a (.set (fun x => T x || decide (x = k)) (if T k then n else n + 1)))) : CV C A (.con (.builtin "set.add")) [.ref a, .int k] [] m H Q := fun s rf rs rkw S hf hva hk => by
 have := hk.nil_inv; subst this
 refine rE hf.con_inv ?_
 refine eEEAA (qbm hva) fun x y zz2 hx hy => ?_; subst zz2
 refine rE hx.ref_inv ?_; (refine eE hy.int_inv fun u zz1 => ?_; subst zz1)
 refine call_set_add (knd := intKind C.prog C.w) (intKind_is _ _ _ _) rfl (S.toHS.set ha) hroom fun h' hs hm => ?_
 refine eEA (set_rep (C := C) hm (h₁ := s.heap)) fun o ho hrep => ?_
 exact ⟨_, m, _, .con, S.upd (tk := s.toks + 1) ha hs ho hrep, .upd (tk := s.toks + 1) ha hs ho, h⟩
theorem O2_inset (ha : H a = some (.set T n)) (h : Q (.bool (T k)) m H) : O2 C A (compareOp .In) (.int k) (.ref a) m H Q := fun s q r S hq hr => by
 refine rE hr.ref_inv ?_; (refine eE hq.int_inv fun u zz1 => ?_; subst zz1)
 exact wpAny_inSet_of (knd := intKind C.prog C.w) (intKind_is _ _ _ _) rfl (S.toHS.set ha) (.same S .con h _)
theorem ES_del {o i : PySem.Expr} {p p' : Pos} {Q : Fl → Loc → CH → Prop} (h : EV C A o m H fun ov m₁ H₁ => EV C A i m₁ H₁ fun iv m₂ H₂ => ∃ d k kvs ep, ov = .ref d ∧ iv = .int k ∧ H₂ d = some (.dict kvs ep) ∧ kvs.length ≤ sizeLine ∧ (kvs.lookup k).isSome = true ∧ ∀ ep', Q .next m₂ (H₂.set d (.dict (dropI kvs k) ep'))) :
  ES C A (.Delete [.Subscript o i p] p') m H Q := fun s S => by
 refine wpAny_Delete (wpAny_deleteEach_cons ?_)
 refine rE (arm_delete_Subscript ..) ?_
 refine wpAny_bind (wpAny_mono (h s S) ?_ fun _ _ x => x)
 rintro a s₁ ⟨ov, m₁, H₁, ra, S₁, af₁, h₁⟩
 refine wpAny_bind (wpAny_holding (wpAny_mono (h₁ s₁ S₁) ?_ fun _ _ x => x))
 rintro b s₂ ⟨iv, m₂, H₂, rb, S₂, af₂, d, k, kvs, ep, rfl, rfl, hd, hsz, hk, hq⟩
 have ra₂ := ra.keep (af₂.tup S₁)
 obtain rfl := ra₂.ref_inv
 refine eE rb.int_inv fun u zz1 => ?_; subst zz1
 refine eEA (S₂.toHS.dict hd) fun rs hD hrs => ?_
 have fin : wpAny (model C.prog C.w) A (delItem (.ref d) (.int k u)) (fun _ s' => PF C H s Q .next s') NoE s₂ := by
  unfold delItem
  try with_reducible refine wpAny_holding ?_
  refine wpAny_bind (wpAny_sequenceKey hD.dictOf.typeIs (by decide) ?_)
  have hthere : (valueAt (rawOf kvs rs) k).isSome = true := by
   refine rE qbx ?_
   have := qbl (k := k) hrs
   cases e1 : kvs.lookup k with
   | none => rw [e1] at hk; cases hk
   | some v => rw [e1] at this; refine eEA this.some_inv fun y hy _ => ?_; refine rE hy ?_; rfl
  refine wpAny_bind (wpAny_callSpecial?_slot (name := Str.ofString "__delitem__") hD.dictOf.typeIs PySem.F.slot_dict_delitem
   (call_meetsIn PySem.F.slot_dict_delitem hD.dictOf.typeIs PySem.F.entry_dict_delitem (PySem.F.args_dict_delitem_2 _ _) (meets_dict_delitem_pairs (intKind C.prog C.w) d (intKind_is _ _ _ _)) ⟨rawOf kvs rs, hD.dictOf, by refine rE (qaq hrs) ?_; exact hsz, hthere, fun h' hmm hs => ?_⟩))
  refine eEA (drop_raw (k := k) hrs) fun rs' e hrs' => ?_
  refine eEEA (dict_rep (C := C) hmm e hrs') fun o ep' ho hrep => ?_
  exact wpAny_pure ⟨.next, m₂, _, rfl, S₂.upd (tk := s₂.toks + 1) hd hs ho hrep, (af₁.then S₁ af₂).then S₂ (.upd (tk := s₂.toks + 1) hd hs ho), hq ep'⟩
 refine wpAny_bind (wpAny_standAt (wpAny_bind (wpAny_holding (wpAny_mono fin (fun _ s₃ x => ?_) fun _ _ x => x))))
 have x' : wpAny (model C.prog C.w) A (deleteEach [] C.env) (fun _ s₁ => PF C H s Q .next s₁) NoE s₃ := wpAny_deleteEach_nil x
 exact fun Γ p hΓ => by refine rE (Sem.wp_release ..) ?_; exact x'
end
end
end Mine
end
section
open PySem PySem.Calls PySem.W PyProof.Rows
set_option maxRecDepth 100000
namespace Mine
noncomputable section
noncomputable def putS : Loc → Str → V → Loc
 | [], x, v => [(x, v)]
 | (y, w) :: r, x, v => if y = x then (y, v) :: r else (y, w) :: putS r x v
theorem EsR.get {h : Heap} {x : Str} : ∀ {fs : Loc} {es : List DictEntry}, EsR h fs es → ∀ {v : V}, fs.lookup x = some v → ∃ r, getL x es = some (some r) ∧ VR h v r
 | [], [], _, v, e => by simp at e
 | (y, w) :: fs, en :: es, r, v, e => by
  obtain ⟨⟨t, hk⟩, hv, hr⟩ := r
  unfold getL
  refine rE List.find?_cons (rE hk (rE (show (Value.str y t).isStr x = (y == x) from rfl) ?_))
  rw [List.lookup_cons] at e
  by_cases hxy : x = y
  ·subst hxy; simp only [beq_self_eq_true] at e ⊢; cases e; exact ⟨_, rfl, hv⟩
  ·rw [beq_eq_false_iff_ne.mpr hxy] at e
   refine rE (beq_eq_false_iff_ne.mpr (Ne.symm hxy)) ?_
   refine eEA (EsR.get hr e) fun q hq hv' => ?_
   refine ⟨q, ?_, hv'⟩
   unfold getL at hq
   cases hf : List.find? (fun x_1 => x_1.key.isStr x) es with
   | some e' => rw [hf] at hq; exact hq
   | none => rw [hf] at hq; dsimp only at hq; split at hq <;> cases hq
 | [], _ :: _, r, _, _ => r.elim
 | _ :: _, [], r, _, _ => r.elim
theorem EsR.noRef {h : Heap} : ∀ {fs : Loc} {es : List DictEntry}, EsR h fs es → es.any (·.refKey) = false
 | [], [], _ => rfl
 | (y, w) :: fs, en :: es, r => by
  obtain ⟨⟨t, hk⟩, hv, hr⟩ := r
  refine rE List.any_cons (rE hr.noRef ?_)
  simp [DictEntry.refKey, hk]
 | [], _ :: _, r => r.elim
 | _ :: _, [], r => r.elim
theorem EsR.miss {h : Heap} {x : Str} {fs : Loc} {es : List DictEntry} (r : EsR h fs es) (e : fs.lookup x = none) : getL x es = some none := by
 have hf : ∀ {fs : Loc} {es : List DictEntry}, EsR h fs es → fs.lookup x = none → es.find? (·.key.isStr x) = none := by
  intro fs
  induction fs with
  | nil => intro es r _; cases es with
   | nil => rfl
   | cons => exact r.elim
  | cons p fs ih =>
   intro es r e
   obtain ⟨y, w⟩ := p
   cases es with
   | nil => exact r.elim
   | cons en es =>
    obtain ⟨⟨t, hk⟩, hv, hr⟩ := r
    rw [List.lookup_cons] at e
    have hxy : x ≠ y := fun q => by subst q; simp at e
    rw [beq_eq_false_iff_ne.mpr hxy] at e
    refine rE List.find?_cons (rE hk (rE (show (Value.str y t).isStr x = (y == x) from rfl) ?_))
    refine rE (beq_eq_false_iff_ne.mpr (Ne.symm hxy)) ?_
    exact ih hr e
 unfold getL
 refine rE (hf r e) (rE r.noRef ?_); rfl
theorem EsR.put {h : Heap} {x : Str} {v : V} {r : Value} {hs : Int} {t : Tok} (hv : VR h v r) : ∀ {fs : Loc} {es : List DictEntry}, EsR h fs es → EsR h (putS fs x v) (putL x hs (.str x t) r es)
 | [], [], _ => ⟨⟨t, rfl⟩, hv, trivial⟩
 | (y, w) :: fs, en :: es, q => by
  obtain ⟨⟨u, hk⟩, hw, hr⟩ := q
  unfold putS putL
  refine rE hk (rE (show (Value.str y u).isStr x = (y == x) from rfl) ?_)
  by_cases hxy : y = x
  ·subst hxy; refine rE (if_pos rfl) (rE (if_pos (beq_self_eq_true _)) ?_); exact ⟨⟨u, rfl⟩, hv, hr⟩
  ·refine rE (if_neg hxy) (rE (if_neg (by rw [beq_eq_false_iff_ne.mpr hxy]; decide)) ?_)
   exact ⟨⟨u, hk⟩, hw, EsR.put hv hr⟩
 | [], _ :: _, r => r.elim
 | _ :: _, [], r => r.elim
theorem EsR.length {h : Heap} : ∀ {fs : Loc} {es : List DictEntry}, EsR h fs es → es.length = fs.length
 | [], [], _ => rfl
 | _ :: _, _ :: _, r => by refine rE List.length_cons (rE List.length_cons (rE r.2.2.length rfl))
 | [], _ :: _, r => r.elim
 | _ :: _, [], r => r.elim
section
variable {C : Cx} {A : Around} {m : Loc} {H : CH} {s : Shared} {K : Frag} {mg mb : Str → Option Value} {Q : V → Loc → CH → Prop} {QU : Loc → CH → Prop} {x d k : Addr} {sl : List (Option V)} {fs : Loc} {name : Str} {v : V}
structure RawInst (h : Heap) (x k d : Addr) (sl : List (Option V)) (fs : Loc) (rs : Array (Option Value)) (es : List DictEntry) (n : Nat) : Prop where
 ox : h.get? x = some { cls := .ref k, dict := some d, data := .plain, slots := rs }
 sl : OptRs h sl rs.toList
 od : h.get? d = some (dictOf es n)
 es : EsR h fs es
theorem RawInst.at {h : Heap} {rs : Array (Option Value)} {es : List DictEntry} {n : Nat} (R : RawInst h x k d sl fs rs es n) : InstAt h x { cls := .ref k, dict := some d, data := .plain, slots := rs } k (some (dictOf es n)) := ⟨R.ox, rfl, rfl, R.od⟩
theorem HS.inst (S : HS C H s) (hx : H x = some (.inst k d sl)) (hd : H d = some (.idict fs)) : ∃ rs es n, RawInst s.heap x k d sl fs rs es n := by
 obtain ⟨_, o, ho, rs, rfl, hsl⟩ := S.own x _ hx
 obtain ⟨_, o', ho', es, n, rfl, hes⟩ := S.own d _ hd
 exact ⟨rs, es, n, ho, hsl, ho', hes⟩
theorem OptRs.get {h : Heap} : ∀ {sl : List (Option V)} {rs : List (Option Value)}, OptRs h sl rs → ∀ {i : Nat} {v : V}, sl[i]? = some (some v) → ∃ r, rs[i]? = some (some r) ∧ VR h v r
 | [], _, _, i, v, e => by simp at e
 | a :: as, [], r, _, _, _ => r.elim
 | a :: as, b :: bs, r, i, v, e => by
  cases i with
  | zero =>
   simp at e; subst e
   obtain ⟨q, rfl, hq⟩ := OptR.some_inv r.1
   exact ⟨q, by exact List.getElem?_cons_zero, hq⟩
  | succ i => simp at e; obtain ⟨q, hq, hv⟩ := OptRs.get r.2 e; exact ⟨q, by assumption, hv⟩
theorem EV_attr {o : PySem.Expr} {p : Pos} (h : EV C A o m H (KO1 C A (fun r => getAttr r name true) Q))
  (he : autoParam (eval (.Attribute o name p) C.env = (do
   let ov ← eval o C.env
   standAt p.atName
   let r ← holding [ov] (getAttr ov name true)
   letTemporaryGo o ov r
   pure r)) Mine.syn1) : EV C A (.Attribute o name p) m H Q := fun s S => by
 refine Attribute_any_ (wpAny_mono (h s S) ?_ fun _ _ x => x) he
 rintro r s₁ ⟨ov, m₁, H₁, hv, S₁, af₁, h₁⟩
 exact wpAny_mono (h₁ s₁ r S₁ hv) (fun _ _ x => x.mono S₁ af₁) fun _ _ x => x
noncomputable def ownOk (K : Frag) (c : Addr) (name : Str) : Bool := plainGet K c name && hasDictIn K c && (match findIn K (.ref c) name with | some a => noGet K a | none => false)
noncomputable def VHand : V → Prop
 | .con v => handedIn v = true
 | _ => True
theorem VR.hand {h : Heap} {v : V} {r : Value} (x : VR h v r) (hh : VHand v) : handedIn r = true := by
 cases v with
 | con c => refine rE x.con_inv ?_; exact hh
 | int i => (refine eE x.int_inv fun t zz1 => ?_; subst zz1); rfl
 | str i => (refine eE x.str_inv fun t zz1 => ?_; subst zz1); rfl
 | tup l => (refine eEEEA x.tup_inv fun a items n zz3 _ => ?_; subst zz3); rfl
 | rng => obtain ⟨z, t, u, w, rfl, _⟩ := x.rng_inv; rfl
 | imm => obtain ⟨_, a, rfl, _⟩ := x.imm_inv; rfl
 | fn => obtain ⟨a, _, _, _, rfl, _⟩ := x.fn_inv; rfl
 | ref a => refine rE x.ref_inv ?_; rfl
set_option tactic.hygienic true in
theorem qa9 (B : Bs C.h₀ K mg mb) (hx : H x = some (.inst k d sl)) (hd : H d = some (.idict fs)) (hv : fs.lookup name = some v) (h : Q v m H) (hok : autoParam (ownOk K k name = true) Mine.syn5) (hh : VHand v := by first | exact trivial | rfl) :
  O1 C A (fun r => getAttr r name true) (.ref x) m H Q := fun s r S hr => by
 refine rE hr.ref_inv ?_
 refine eEEE (S.toHS.inst hx hd) fun rs es n R => ?_
 unfold ownOk at hok
 simp only [Bool.and_eq_true] at hok
 refine eA hok fun zz0 h3 => ?_; obtain ⟨h1, h2⟩ := zz0
 split at h3
 ·rename_i a ha
  refine eEA (R.es.get hv) fun q hq hvq => ?_
  exact get_value (B.X.keeps S.base) R.at (plainGet_of h1).1 (findObj_own h2 ha h3 hq) (hvq.hand hh) (.same S hvq h _)
 ·cases h3
noncomputable def slotOk (K : Frag) (c : Addr) (name : Str) (p : Addr) (i : Nat) : Bool := plainGet K c name && isClsIn K c && (findIn K (.ref c) name == some (some (.ref p))) && (specialIn K (.ref p) "__get__" == some (some (.builtin "member_descriptor.__get__"))) && (takesIn K (.ref p) == some true) && (slotIn K p c == some i)
theorem qcc {p : Addr} {i : Nat} (B : Bs C.h₀ K mg mb) (hx : H x = some (.inst k d sl)) (hd : H d = some (.idict fs)) (hv : sl[i]? = some (some v)) (h : Q v m H) (hok : autoParam (slotOk K k name p i = true) Mine.syn5) (hh : VHand v := by first | exact trivial | rfl) :
  O1 C A (fun r => getAttr r name true) (.ref x) m H Q := fun s r S hr => by
 refine rE hr.ref_inv ?_
 refine eEEE (S.toHS.inst hx hd) fun rs es n R => ?_
 unfold slotOk at hok
 simp only [Bool.and_eq_true, beq_iff_eq] at hok
 refine eA hok fun zz0 h6 => ?_; obtain ⟨⟨⟨⟨h1, h2⟩, h3⟩, h4⟩, h5⟩ := zz0
 have X : K.In s.heap := B.X.keeps S.base
 refine eEA (R.sl.get hv) fun q hq hvq => ?_
 refine get_bind X R.at (plainGet_of h1).1 (findObj_data h2 h3 h4 h5) (plainGet_of h1).2 (wpAny_call (slot_get (s := { s with toks := s.toks + 1 }) X R.at h6 (v := q) ?_ (handed_on (hvq.hand hh) (.same S hvq h _))))
 show (rs[i]?).join = some q
 refine rF Array.getElem?_toList (rE hq ?_); rfl
noncomputable def fnOk (K : Frag) (c : Addr) (name : Str) (f : Addr) : Bool := plainGet K c name && hasDictIn K c && (findIn K (.ref c) name == some (some (.ref f))) && isFn K (.ref f) && (specialIn K (.ref f) "__get__" == some (some (.builtin "function.__get__"))) && (takesIn K (.ref f) == some false) && !copiedNames.contains name
theorem qa4 {f : Addr} {Q : V → List V → Prop} (B : Bs C.h₀ K mg mb) (hx : H x = some (.inst k d sl)) (hd : H d = some (.idict fs)) (hv : fs.lookup name = none) (h : Q (.con (.ref f)) [.ref x]) (hok : autoParam (fnOk K k name f = true) Mine.syn5) : GM C A (.ref x) name m H Q := fun s r pl S hr => by
 refine rE hr.ref_inv ?_
 refine eEEE (S.toHS.inst hx hd) fun rs es n R => ?_
 unfold fnOk at hok
 simp only [Bool.and_eq_true, beq_iff_eq] at hok
 refine eA hok fun zz0 h7 => ?_; obtain ⟨⟨⟨⟨⟨h1, h2⟩, h3⟩, h4⟩, h5⟩, h6⟩ := zz0
 exact method_fn (B.X.keeps S.base) R.at (plainGet_of h1).1 (plainGet_of h1).2 h3 (beq_iff_eq.mp h4) (by show (lookIn name (dictOf es n)).map _ = _; refine rE (lookIn_dict ..) (rE (R.es.miss hv) ?_); rfl) ⟨_, _, .con, .cons .ref .nil, rfl, rfl, rfl, rfl, h⟩
theorem Imm.meth {f self : Value} (h : ∀ x t, self ≠ .str x t) : Imm (methodObj f self) := ⟨rfl, .inl ⟨"method", by decide, rfl⟩, (by intro _ _ e; cases e), (by intro _ e; cases e), (by intro _ _ _ e; cases e)⟩
theorem GA_bound {f : Addr} (B : Bs C.h₀ K mg mb) (hx : H x = some (.inst k d sl)) (hd : H d = some (.idict fs)) (hv : fs.lookup name = none) (h : Q (.imm (methodObj (.ref f) (.ref x))) m H) (hok : autoParam (fnOk K k name f = true) Mine.syn5) :
  O1 C A (fun r => getAttr r name true) (.ref x) m H Q := fun s r S hr => by
 refine rE hr.ref_inv ?_
 refine eEEE (S.toHS.inst hx hd) fun rs es n R => ?_
 unfold fnOk at hok
 simp only [Bool.and_eq_true, beq_iff_eq, Bool.not_eq_true'] at hok
 refine eA hok fun zz0 h7 => ?_; obtain ⟨⟨⟨⟨⟨h1, h2⟩, h3⟩, h4⟩, h5⟩, h6⟩ := zz0
 have X : K.In s.heap := B.X.keeps S.base
 refine get_bind X R.at (plainGet_of h1).1 (findObj_fn h2 h3 h5 h6 h7 (by show lookIn name (dictOf es n) = _; refine rE (lookIn_dict ..) (rE (R.es.miss hv) rfl))) (plainGet_of h1).2
  (wpAny_call (fn_get (s := { s with toks := s.toks + 1 }) X (beq_iff_eq.mp h4) (handed_on rfl ?_)))
 exact ⟨_, m, H, .imm (.meth (by intro _ _ e; cases e)) (Heap.get?_push_size _ rfl), S.more (tk := s.toks + 1) (qae _ _), .more (tk := s.toks + 1) (qae _ _), h⟩
theorem CALL_bound {f : Addr} {vs : List V} {kws : List (Str × V)} {Q : V → CH → Prop} (h : CALL C A (.con (.ref f)) (.ref x :: vs) kws H Q) : CALL C A (.imm (methodObj (.ref f) (.ref x))) vs kws H Q := fun s rf rs rkw S F hf hv hk => by
 obtain ⟨_, a, rfl, ho⟩ := hf.imm_inv
 exact method_call ho (h s (.ref f) (.ref x :: rs) rkw S F .con (.cons .ref hv) hk)
theorem KP_bound {f : Addr} {o : Obj} {fd : FuncData} (e : C.h₀.get? f = some o) (hd : o.data = .func fd) : KP C (.imm (methodObj (.ref f) (.ref x))) H := fun s rf S hf => by
 obtain ⟨_, a, rfl, ho⟩ := hf.imm_inv
 refine ⟨.boundFrame, (Looks.ld (part := none) ho).andThen ?_⟩
 refine (Looks.ld (part := none) (S.base _ _ e)).andThen ?_
 refine rE hd ?_; exact .now
noncomputable def SA (C : Cx) (A : Around) (ov : V) (name : Str) (v : V) (m : Loc) (H : CH) (Q : Loc → CH → Prop) : Prop := ∀ s ro rv, St C m H s → VR s.heap ov ro → VR s.heap v rv → wpAny (model C.prog C.w) A (setAttr ro name rv) (PA C H s fun _ => Q) NoE s
noncomputable abbrev KSA (C : Cx) (A : Around) (name : Str) (v : V) (Q : Loc → CH → Prop) : V → Loc → CH → Prop := fun ov m H => SA C A ov name v m H Q
theorem ASG_attr {o : PySem.Expr} {p : Pos} (h : EV C A o m H (KSA C A name v QU)) : ASG C A (.Attribute o name p) v m H QU := fun s r S hv => by
 refine kas_attr (wpAny_mono (h s S) ?_ fun _ _ x => x)
 rintro ro s₁ ⟨ov, m₁, H₁, ho, S₁, af₁, h₁⟩
 exact wpAny_mono (h₁ s₁ ro r S₁ ho (hv.keep (af₁.tup S))) (fun _ _ x => x.mono S₁ af₁) fun _ _ x => x
set_option tactic.hygienic true in
theorem osa_raw {prog : Program} {w : World} {R : Result → Shared → Prop} {ox : Obj} {es : List DictEntry} {n : Nat} {dx : Addr} {tk : Tok} {r : Value} (X : K.In s.heap) (I : InstAt s.heap x ox k (some (dictOf es n))) (hd : ox.dict = some dx)
  (hp : plainOver K k = true) (ht : takerIn K k name = some none) (hh : (clsIn K k).any (·.hasDict) = true) (hl : (getL name es).isSome = true) (hz : es.length < 1000)
  (h : ∀ h', Heap.SameBut dx s.heap h' → h'.get? dx = some (dictOf (putL name (PyData.keyHash w.params name) (.str name s.toks) r es) (putN name es n)) → R (.ok (.ret .none)) { s with heap := h', toks := s.toks + 1 }) :
  codeAny (model prog w) A (.call (.builtin "object.__setattr__") ⟨[.ref x, .str name tk, r], []⟩) R s := by
 refine osa_open X I hp ht fun b => ?_
 refine eEA (any_some hh) fun cd hc hd' => ?_
 obtain ⟨hx, hcl, hn, hdd⟩ := I
 obtain ⟨oc, odi, oda, osl⟩ := ox
 dsimp only at hcl hd hdd
 subst hcl hd
 dsimp only at hdd
 have e := putName_dict name (PyData.keyHash w.params name) (.str name s.toks) r es n
 have D' : (s.heap.update dx (Obj.putName name (PyData.keyHash w.params name) (.str name s.toks) r)).get? dx = some (dictOf (putL name (PyData.keyHash w.params name) (.str name s.toks) r es) (putN name es n)) := by
  refine rF e ?_; exact Heap.get?_update_self _ hdd (by refine rE e ?_; rfl)
 refine wpAny_bind (wpAny_pure (wpAny_bind (wpAny_bind (wpAny_loadPart hx (wpAny_bind ((looks_clsIn X hc).here ?_))))))
 refine rE hd' ?_
 refine wpAny_pure (a := some dx) (wpAny_bind (wpAny_pure (wpAny_bind ?_)))
 unfold nsSet
 refine wpAny_bind (wpAny_bind (wpAny_askSetting (wpAny_pure (wpAny_bind (wpAny_mkText (wpAny_bind (wpAny_loadPart hdd ?_)))))))
 have hlen : ∀ es : List DictEntry, (putL name (PyData.keyHash w.params name) (.str name s.toks) r es).length ≤ es.length + 1 := by
  intro es
  induction es with
  | nil => exact Nat.le_refl _
  | cons e es ih => unfold putL; split <;> simp <;> omega
 have c : (!es.toArray.any (·.key.isStr name) && es.toArray.any (·.refKey)) = false := by
  refine rE List.any_toArray (rE List.any_toArray ?_)
  unfold getL at hl
  split at hl
  ·rename_i en he
   refine rE (List.any_eq_true.mpr ⟨en, List.mem_of_find?_eq_some he, List.find?_some he⟩) ?_; rfl
  ·split at hl
   ·cases hl
   ·rename_i z; rw [Bool.not_eq_true] at z; refine rE z (rE (Bool.and_false ..) rfl)
 dsimp only
 refine rE (aRefKeyMayBeTheName_at ..) (rE c ?_)
 refine wpAny_updatePart hdd ?_
 refine wpAny_bind (wpAny_lookBehind D' (pastItsLine_dict (by refine rE List.size_toArray (rE sizeLine_eq ?_); have := hlen es; lia)) ?_)
 exact wpAny_pure (h _ (Heap.SameBut.update ..) D')
noncomputable def setOk (K : Frag) (c : Addr) (name : Str) : Bool := (findIn K (.ref c) "__setattr__" == some (some (.builtin "object.__setattr__"))) && plainOver K c && (match takerIn K c name with | some none => true | _ => false) && (clsIn K c).any (·.hasDict)
theorem SA_own (B : Bs C.h₀ K mg mb) (hx : H x = some (.inst k d sl)) (hd : H d = some (.idict fs)) (hz : fs.length < 1000) (h : QU m (H.set d (.idict (putS fs name v)))) (hok : autoParam (setOk K k name = true) Mine.syn5) : SA C A (.ref x) name v m H QU := fun s ro rv S ho hv => by
 refine rE ho.ref_inv ?_
 refine eEEE (S.toHS.inst hx hd) fun rs es n R => ?_
 unfold setOk at hok
 simp only [Bool.and_eq_true, beq_iff_eq] at hok
 refine eA hok fun zz0 h4 => ?_; obtain ⟨⟨h1, h2⟩, h3⟩ := zz0
 split at h3
 ·rename_i ht
  have X : K.In s.heap := B.X.keeps S.base
  have hg : (getL name es).isSome = true := by
   cases e : fs.lookup name with
   | none => refine rE (R.es.miss e) ?_; rfl
   | some w => refine eEA (R.es.get e) fun q hq _ => ?_; refine rE hq ?_; rfl
  refine set_plain X R.at h1 (osa_raw (s := { s with toks := s.toks + 1 }) X R.at rfl h2 ht h4 hg (by refine rE R.es.length ?_; exact hz) fun h' hs hg' => ?_)
  exact ⟨m, _, S.upd (tk := s.toks + 1 + 1) (c' := .idict (putS fs name v)) hd hs hg' ⟨_, _, rfl, EsR.put hv R.es⟩, .upd (tk := s.toks + 1 + 1) hd hs hg', h⟩
 ·cases h3
end
end
end Mine
end
section
open PySem PySem.Calls PySem.W PyProof.Rows Builtin Builtin.ObjectAttr Builtin.Getset_descriptor
set_option maxRecDepth 100000
set_option maxHeartbeats 4000000
namespace Mine
noncomputable section
section
variable {C : Cx} {A : Around} {m : Loc} {H : CH} {s : Shared} {K : Frag} {mg mb : Str → Option Value} {Q : V → Loc → CH → Prop} {QU : Loc → CH → Prop} {x d k : Addr} {sl : List (Option V)} {fs : Loc} {name : Str} {v : V}
theorem slot_raw {prog : Program} {w : World} {R : Result → Shared → Prop} {ox : Obj} {od : Option Obj} {r : Value} {p : Addr} {i : Nat} (X : K.In s.heap) (I : InstAt s.heap x ox k od) (hp : slotIn K p k = some i) (hi : i < 1000)
  (h : R (.ok (.ret .none)) { s with heap := s.heap.update x (fun o => { o with slots := (o.slots ++ Array.replicate (i + 1 - o.slots.size) none).setIfInBounds i (some r) }) }) :
  codeAny (model prog w) A (.call (.builtin "member_descriptor.__set__") ⟨[.ref p, .ref x, r], []⟩) R s := by
 obtain ⟨n, tn, owner, behind, tb, d, sl, cd, ho, hc, hm, hb, rfl⟩ := slot_of X hp
 obtain ⟨hh, g, dr, t, os⟩ := s
 have L0 := I.type (M := model prog w)
 have L1 := looks_mroIn (M := model prog w) X hm
 have L2 : Looks (model prog w) hh (Slots.slotNamesOf (.ref k)) cd.slotNames := (looks_clsIn X hc).andThen .now
 have hx := I.at_
 dsimp only at ho hx L0 L1
 have f0 := looks_field (M := model prog w) ho 0 (v := .str n tn) rfl
 have f1 := looks_field (M := model prog w) ho 1 (v := owner) rfl
 have f3 := looks_field (M := model prog w) ho 3 (v := .builtin "proto.slot#set") rfl
 have f4 := looks_field (M := model prog w) ho 4 (v := .int behind tb) rfl
 refine codeAny_call_builtin KF.slot_mset.plain KF.entry_mset (KF.slot_mset.check _ _ _ _ _ _ _ _ ⟨_, ho, rfl⟩ (KF.args_mset _ _ _) ?_)
 unfold Builtin.«member_descriptor.__set__» descrSet descrStoreThrough descrCheckInstance descrNameAndClass isInstance
 have f5 : Looks (model prog w) hh (descrItself (.ref p)) [.ref p] := ((Looks.ld (part := none) ho).andThen .now).andThen (Looks.of_pure (by kernel_rfl))
 repeat lk
 refine ⟨Code.quiet_builtin _ (by decide +kernel), codeAny_builtin KF.entry_slotset ?_⟩
 unfold Builtin.«proto.slot#set» Slots.target
 repeat lk
 refine rE (if_neg hb) ?_
 refine wpAny_pure (wpAny_bind ?_)
 unfold setSlotAt
 dsimp only
 refine rE (if_neg (by rw [sizeLine_eq]; lia)) ?_
 exact wpAny_updatePart hx (wpAny_pure h)
noncomputable def setSlotOk (K : Frag) (c : Addr) (name : Str) (p : Addr) (i : Nat) : Bool := (findIn K (.ref c) "__setattr__" == some (some (.builtin "object.__setattr__"))) && plainOver K c && (match takerIn K c name with | some (some (.ref q)) => q == p | _ => false) && (typeIn K (.ref p) == some (.type "member_descriptor")) && (slotIn K p c == some i) && decide (i < 1000)
noncomputable def putSl (sl : List (Option V)) (i : Nat) (v : V) : List (Option V) := (sl ++ List.replicate (i + 1 - sl.length) none).set i (some v)
theorem OptRs.append {h : Heap} : ∀ {a : List (Option V)} {b : List (Option Value)} {c : List (Option V)} {e : List (Option Value)}, OptRs h a b → OptRs h c e → OptRs h (a ++ c) (b ++ e)
 | [], [], _, _, _, q => q
 | _ :: _, _ :: _, _, _, p, q => ⟨p.1, p.2.append q⟩
 | [], _ :: _, _, _, p, _ => p.elim
 | _ :: _, [], _, _, p, _ => p.elim
theorem OptRs.nones {h : Heap} : ∀ n : Nat, OptRs h (List.replicate n none) (List.replicate n none)
 | 0 => trivial
 | n + 1 => ⟨trivial, OptRs.nones n⟩
theorem OptRs.set {h : Heap} {v : V} {r : Value} (hv : VR h v r) : ∀ {a : List (Option V)} {b : List (Option Value)}, OptRs h a b → ∀ i, OptRs h (a.set i (some v)) (b.set i (some r))
 | [], [], _, _ => trivial
 | _ :: _, _ :: _, p, 0 => ⟨hv, p.2⟩
 | _ :: _, _ :: _, p, i + 1 => ⟨p.1, p.2.set hv i⟩
 | [], _ :: _, p, _ => p.elim
 | _ :: _, [], p, _ => p.elim
theorem OptRs.length {h : Heap} : ∀ {a : List (Option V)} {b : List (Option Value)}, OptRs h a b → b.length = a.length
 | [], [], _ => rfl
 | _ :: _, _ :: _, p => by refine rE List.length_cons (rE List.length_cons (rE p.2.length rfl))
 | [], _ :: _, p => p.elim
 | _ :: _, [], p => p.elim
set_option tactic.hygienic true in
theorem qcu {p : Addr} {i : Nat} (B : Bs C.h₀ K mg mb) (hx : H x = some (.inst k d sl)) (hd : H d = some (.idict fs)) (h : QU m (H.set x (.inst k d (putSl sl i v)))) (hok : autoParam (setSlotOk K k name p i = true) Mine.syn5) : SA C A (.ref x) name v m H QU := fun s ro rv S ho hv => by
 refine rE ho.ref_inv ?_
 refine eEEE (S.toHS.inst hx hd) fun rs es n R => ?_
 unfold setSlotOk at hok
 simp only [Bool.and_eq_true, beq_iff_eq, decide_eq_true_eq] at hok
 refine eA hok fun zz0 h6 => ?_; obtain ⟨⟨⟨⟨h1, h2⟩, h3⟩, h4⟩, h5⟩ := zz0
 split at h3
 ·rename_i q ht
  rw [beq_iff_eq] at h3; subst h3
  have X : K.In s.heap := B.X.keeps S.base
  refine set_plain X R.at h1 (osa_descr (s := { s with toks := s.toks + 1 }) KF.slot_mset X R.at h2 ht h4 (slot_raw (s := { s with toks := s.toks + 1 }) X R.at h5 h6 ?_))
  have ho' := Heap.get?_update_self (fun o => { o with slots := (o.slots ++ Array.replicate (i + 1 - o.slots.size) none).setIfInBounds i (some rv) }) R.ox rfl
  refine ⟨m, _, S.upd (tk := s.toks + 1) (c' := .inst k d (putSl sl i v)) hx (Heap.SameBut.update ..) ho' ⟨_, rfl, ?_⟩, .upd (tk := s.toks + 1) hx (Heap.SameBut.update ..) ho', h⟩
  show OptRs s.heap (putSl sl i v) ((rs ++ Array.replicate (i + 1 - rs.size) none).setIfInBounds i (some rv)).toList
  refine rE Array.toList_setIfInBounds (rE Array.toList_append (rE Array.toList_replicate ?_))
  unfold putSl
  have hz : rs.size = sl.length := by have := R.sl.length; simpa using this
  refine rE hz ?_
  exact (R.sl.append (OptRs.nones _)).set hv i
 ·cases h3
theorem AOK.under {n : Nat} {rest : List Value} {kw : List (Str × Value)} (h : AOK C A (n + 1)) : AOK C (A.under (.builtin "type.__call__" ⟨.ref k :: rest, kw⟩)) n := by
 have hw : (Code.builtin "type.__call__" ⟨.ref k :: rest, kw⟩).weight = 1 := rfl
 have hu : (Code.builtin "type.__call__" ⟨.ref k :: rest, kw⟩).cUnits = 1 := rfl
 have he : (Code.builtin "type.__call__" ⟨.ref k :: rest, kw⟩).envs = [] := rfl
 refine ⟨h.handled, ?_, ?_, ?_⟩
 ·show A.depth + _ + n < _; refine rE hw ?_; have := h.depth; lia
 ·show A.units + _ + 4 * n + 40 < _; refine rE hu ?_; have := h.units; lia
 ·unfold Around.under; dsimp only; refine rE he ?_; exact h.frames
noncomputable def makeOk (K : Frag) (c fI : Addr) : Bool := makesIn K c && (findIn K (.ref c) "__init__" == some (some (.ref fI))) && (typeIn K (.ref fI) == some (.type "function"))
theorem CALL_make {c fI : Addr} {vs : List V} {kws : List (Str × V)} {Q : V → CH → Prop} (B : Bs C.h₀ K mg mb) (hok : makeOk K c fI = true)
  (h : ∀ x d rest kw, H x = none → H d = none → C.h₀.get? x = none → C.h₀.get? d = none → x ≠ d → CALL C (A.under (.builtin "type.__call__" ⟨.ref c :: rest, kw⟩)) (.con (.ref fI)) (.ref x :: vs) kws ((H.set d (.idict [])).set x (.inst c d [])) fun v H' => v = V.none ∧ Q (.ref x) H') : CALL C A (.con (.ref c)) vs kws H Q := fun s rf rs rkw S F hf hv hk => by
 unfold makeOk at hok
 simp only [Bool.and_eq_true, beq_iff_eq] at hok
 refine eA hok fun zz0 h3 => ?_; obtain ⟨h1, h2⟩ := zz0
 refine rE hf.con_inv ?_
 have X : K.In s.heap := B.X.keeps S.base
 obtain ⟨hh, g, dr, t, os⟩ := s
 refine make_core (makes_of X h1) (looks_findIn X h2) (fun self => bind_fn X self h3) (.inl rfl) ?_
 have S1 := S.alloc (tk := t) (o := emptyDict) (c := .idict []) ⟨[], 0, rfl, trivial⟩
 have a1 : AfterC H ⟨hh, g, dr, t, os⟩ _ _ := .alloc (tk := t) (o := emptyDict) (c := .idict [])
 have S2 := S1.alloc (tk := t) (o := instObj c hh.objs.size) (c := .inst c hh.objs.size []) ⟨#[], rfl, trivial⟩
 have a2 := a1.trans (.alloc (tk := t) (o := instObj c hh.objs.size) (c := .inst c hh.objs.size []))
 have hsz : (hh.push emptyDict).objs.size = hh.objs.size + 1 := Heap.size_push ..
 have hx0 : hh.get? (hh.objs.size + 1) = none := by
  cases e : hh.get? (hh.objs.size + 1) with
  | none => rfl
  | some o => have := Heap.lt_size e; exact absurd this (by exact Nat.not_succ_lt_self)
 have hnb : C.h₀.get? (hh.objs.size + 1) = none := by
  cases e : C.h₀.get? (hh.objs.size + 1) with
  | none => rfl
  | some o => have := S.base _ _ e; dsimp only at this; exact (no1 hx0 this).elim
 have hnH : H (hh.objs.size + 1) = none := by
  cases e : H (hh.objs.size + 1) with
  | none => rfl
  | some c => obtain ⟨_, o, ho, _⟩ := S.own _ _ e; dsimp only at ho; exact (no1 hx0 ho).elim
 dsimp only at S2 a2
 rw [hsz] at S2 a2
 have keep : ∀ b o, hh.get? b = some o → ((hh.push emptyDict).push (instObj c hh.objs.size)).get? b = some o := fun b o e => Heap.get?_push_of_some _ (Heap.get?_push_of_some _ e)
 refine codeAny_mono (h (hh.objs.size + 1) hh.objs.size rs rkw hnH S.fresh hnb S.freshb (Nat.succ_ne_self _) _ _ _ _ S2 (F.after a2) .con (.cons .ref (hv.keep (.of_keep keep))) (hk.keep (.of_keep keep))) ?_
 rintro r s' z
 cases r with
 | error e => exact z.elim
 | ok fl =>
  cases fl with
  | ret rv =>
   obtain ⟨v, H', hvr, S', a', rfl, q⟩ := z
   exact ⟨hvr.con_inv, .ref _, H', .ref, S', a2.trans a', q⟩
  | next => exact z.elim
  | brk => exact z.elim
  | cont => exact z.elim
theorem KP_cls {c : Addr} (B : Bs C.h₀ K mg mb) (hk : keepIn K (.ref c) = true) : KP C (.con (.ref c)) H := fun s rf S hf => by
 refine rE hf.con_inv ?_
 refine eEA (looks_keep (M := model C.prog C.w) hk (B.X.keeps S.base)) fun k _ L => ?_
 exact ⟨k, L⟩
theorem ES_aug_attr {o : PySem.Expr} {op : Operator} {value : PySem.Expr} {p p' : Pos} {Q : Fl → Loc → CH → Prop}
  (h : EV C A o m H fun ov m₁ H₁ => O1 C A (fun r => getAttr r name true) ov m₁ H₁ fun old m₂ H₂ => EV C A value m₂ H₂ fun v m₃ H₃ => O2 C A (inplaceOp op) old v m₃ H₃ fun r m₄ H₄ => SA C A ov name r m₄ H₄ (Q .next)) :
  ES C A (.AugAssign (.Attribute o name p') op value p) m H Q := fun s S => by
 refine wpAny_AugAssign_AttributeAny (wpAny_mono (h s S) ?_ fun _ _ x => x)
 rintro ro s₁ ⟨ov, m₁, H₁, ho, S₁, af₁, h₁⟩
 refine wpAny_mono (h₁ s₁ ro S₁ ho) ?_ fun _ _ x => x
 rintro ra s₂ ⟨old, m₂, H₂, ha, S₂, af₂, h₂⟩
 refine wpAny_mono (h₂ s₂ S₂) ?_ fun _ _ x => x
 rintro rb s₃ ⟨v, m₃, H₃, hb, S₃, af₃, h₃⟩
 refine wpAny_mono (h₃ s₃ ra rb S₃ (ha.keep (af₃.tup S₂)) hb) ?_ fun _ _ x => x
 rintro rc s₄ ⟨u, m₄, H₄, hc, S₄, af₄, h₄⟩
 refine wpAny_mono (h₄ s₄ ro rc S₄ (((ho.keep (af₂.tup S₁)).keep (af₃.tup S₂)).keep (af₄.tup S₃)) hc) ?_ fun _ _ x => x
 rintro _ s₅ ⟨m₅, H₅, S₅, af₅, h₅⟩
 exact ⟨.next, m₅, H₅, rfl, S₅, ((((af₁.then S₁ af₂).then S₂ af₃).then S₃ af₄).then S₄ af₅), h₅⟩
theorem ES_aug_sub {o i : PySem.Expr} {op : Operator} {value : PySem.Expr} {p p' : Pos} {Q : Fl → Loc → CH → Prop}
  (h : EV C A o m H fun ov m₁ H₁ => EV C A i m₁ H₁ fun iv m₂ H₂ => O2 C A getItem ov iv m₂ H₂ fun old m₃ H₃ => EV C A value m₃ H₃ fun v m₄ H₄ => O2 C A (inplaceOp op) old v m₄ H₄ fun r m₅ H₅ => O3 C A setItem ov iv r m₅ H₅ (Q .next))
  (hi : ∀ ov iv new, augStore i ov iv new = (do holding [new, ov, iv] (setItem ov iv new); release [new, ov, iv] []; pure .next) := by intros; with_unfolding_all rfl) :
  ES C A (.AugAssign (.Subscript o i p') op value p) m H Q := fun s S => by
 refine wpAny_AugAssign_SubscriptAny (wpAny_mono (h s S) ?_ fun _ _ x => x) hi
 rintro ro s₁ ⟨ov, m₁, H₁, ho, S₁, af₁, h₁⟩
 refine wpAny_mono (h₁ s₁ S₁) ?_ fun _ _ x => x
 rintro ri s₂ ⟨iv, m₂, H₂, hiv, S₂, af₂, h₂⟩
 have ho₂ := ho.keep (af₂.tup S₁)
 refine wpAny_mono (h₂ s₂ ro ri S₂ ho₂ hiv) ?_ fun _ _ x => x
 rintro ra s₃ ⟨old, m₃, H₃, ha, S₃, af₃, h₃⟩
 refine wpAny_mono (h₃ s₃ S₃) ?_ fun _ _ x => x
 rintro rb s₄ ⟨v, m₄, H₄, hb, S₄, af₄, h₄⟩
 refine wpAny_mono (h₄ s₄ ra rb S₄ (ha.keep (af₄.tup S₃)) hb) ?_ fun _ _ x => x
 rintro rc s₅ ⟨u, m₅, H₅, hc, S₅, af₅, h₅⟩
 have k : TupKeep s₂.heap s₅.heap := ((af₃.tup S₂).trans (af₄.tup S₃)).trans (af₅.tup S₄)
 refine wpAny_mono (h₅ s₅ ro ri rc S₅ (ho₂.keep k) (hiv.keep k) hc) ?_ fun _ _ x => x
 rintro _ s₆ ⟨m₆, H₆, S₆, af₆, h₆⟩
 exact ⟨.next, m₆, H₆, rfl, S₆, (((((af₁.then S₁ af₂).then S₂ af₃).then S₃ af₄).then S₄ af₅).then S₅ af₆), h₆⟩
theorem EV_named {t e : PySem.Expr} {p : Pos} (h : EV C A e m H fun v m₁ H₁ => ASG C A t v m₁ H₁ (Q v)) : EV C A (.NamedExpr t e p) m H Q := fun s S => by
 refine wpAny_NamedExpr (wpAny_mono (h s S) ?_ fun _ _ x => x)
 rintro r s₁ ⟨v, m₁, H₁, hv, S₁, af₁, h₁⟩
 refine wpAny_mono (h₁ s₁ r S₁ hv) ?_ fun _ _ x => x
 rintro _ s₂ ⟨m₂, H₂, S₂, af₂, h₂⟩
 exact ⟨v, m₂, H₂, hv.keep (af₂.tup S₁), S₂, af₁.then S₁ af₂, h₂⟩
end
end
end Mine
end
section
open PySem PySem.Calls PySem.W PyProof.Rows
set_option maxRecDepth 100000
namespace Mine
noncomputable section
section
variable {C : Cx} {A : Around} {m : Loc} {H : CH} {s : Shared} {K : Frag} {mg mb : Str → Option Value} {Q : V → Loc → CH → Prop} {name : Str}
inductive Spread (C : Cx) (H : CH) : V → List V → Prop
 | tup (xs : List V) : Spread C H (.tup xs) xs
 | list {l : Addr} {xs : List V} : LAt C H l xs → Spread C H (.ref l) xs
theorem Spread.star {v : V} {r : Value} {xs : List V} (q : Spread C H v xs) (hsz : xs.length ≤ sizeLine) (S : St C m H s) (hv : VR s.heap v r) {P : List Value → Shared → Prop}
  (h : ∀ rs h', VRs h' xs rs → (∀ b o, s.heap.get? b = some o → h'.get? b = some o) → P rs { s with heap := h' }) : StarOf (model C.prog C.w) A NoE r P s := by
 cases q with
 | tup =>
  obtain ⟨a, items, n, rfl, ho, hs⟩ := hv.tup_inv
  have hz : items.size ≤ sizeLine := by have := hs.length; simp at this; lia
  unfold StarOf notIterableAtAll
  have hT : s.TypeIs (.ref a) "tuple" := ⟨_, ho, rfl⟩
  exact wpAny_bind (wpAny_specialOf hT PySem.F.slot_tuple_iter.lookup (wpAny_pure ⟨rfl, wpAny_collect_seq a (.inr rfl) ho rfl rfl (fun h' hk => h _ h' (hs.keep (.of_keep hk)) hk) hz⟩))
 | list hl =>
  refine rE hv.ref_inv ?_
  obtain ⟨items, n, hL, hs, hz⟩ := S.toHS.list hl
  unfold StarOf notIterableAtAll
  exact wpAny_bind (wpAny_specialOf hL.isList.typeIs PySem.F.slot_list_iter.lookup (wpAny_pure ⟨rfl, wpAny_collect_seq _ (.inl rfl) hL rfl rfl (fun h' hk => h _ h' (hs.keep (.of_keep hk)) hk) (by lia)⟩))
theorem EV_methL {o e : PySem.Expr} {apos p p' : Pos}
  (h : EV C A o m H fun ov m₁ H₁ => O1 C A (fun r => getAttr r name true) ov m₁ H₁ fun f m₂ H₂ => EV C A e m₂ H₂ fun v m₃ H₃ => ∃ xs, Spread C H₃ v xs ∧ xs.length ≤ sizeLine ∧ KP C f H₃ ∧ CV C A f xs [] m₃ H₃ Q)
  (hb : autoParam (∀ whole, attributeBase o name C.env whole = whole) Mine.syn2) :
  EV C A (.Call (.Attribute o name apos) [.Starred e p'] [] p) m H Q := fun s S => by
 have he : eval (.Call (.Attribute o name apos) [.Starred e p'] [] p) C.env = (do
   let ov ← attributeBase o name C.env (eval o C.env)
   standAt apos.atName
   methodCall o name apos p C.env ov (1 + 0) [(true, (do let v ← eval e C.env; standAt p; pure v))] []) := rfl
 refine rE he (rE (hb ..) ?_)
 refine wpAny_bind (wpAny_mono (h s S) ?_ fun _ _ x => x)
 rintro ro s₁ ⟨ov, m₁, H₁, vo, S₁, af₁, h₁⟩
 refine wpAny_bind (wpAny_standAt ?_)
 unfold methodCall
 refine wpAny_bind (wpAny_holding ?_)
 show wpAny _ _ (do pure (← getAttr ro name true, [])) _ _ s₁
 refine wpAny_bind (wpAny_mono (h₁ s₁ ro S₁ vo) ?_ fun _ _ x => x)
 rintro rf s₂ ⟨f, m₂, H₂, vf, S₂, af₂, h₂⟩
 refine wpAny_pure ?_
 refine wpAny_bind (m := methodCallPos false o C.env apos p) (wpAny_pure ?_)
 refine qbi (ks_lone (wpAny_mono (h₂ s₂ S₂) ?_ fun _ _ x => x))
 rintro r s₃ ⟨v, m₃, H₃, hv, S₃, af₃, xs, q, hsz, hk, h₃⟩
 refine q.star hsz S₃ hv fun rs h' hrs hkp => ?_
 have S₄ : St C m₃ H₃ { s₃ with heap := h' } := S₃.more (tk := s₃.toks) hkp
 have vf₄ : VR h' f rf := (vf.keep (af₃.tup S₂)).keep (.of_keep hkp)
 obtain ⟨k, L⟩ := hk _ rf S₄.toHS vf₄
 exact ⟨k, L, wpAny_mono (h₃ _ rf _ [] S₄ vf₄ hrs .nil) (fun _ _ x => x.mono S₄ (((af₁.then S₁ af₂).then S₂ af₃).then S₃ (.more (tk := s₃.toks) hkp))) fun _ _ x => x⟩
theorem CV_min2 {a b : Int} (hA : A.handled = none) (h : Q (.int (if b < a then b else a)) m H) : CV C A (.con (.builtin "min")) [.int a, .int b] [] m H Q := fun s rf rs rkw S hf hva hk => by
 have := hk.nil_inv; subst this
 refine rE hf.con_inv ?_
 refine eEEAA (qbm hva) fun x y zz2 hx hy => ?_; subst zz2
 refine eE hx.int_inv fun t zz1 => ?_; subst zz1; (refine eE hy.int_inv fun u zz1 => ?_; subst zz1)
 refine min_two_ints hA fun h' tk hkp => ⟨_, m, H, ?_, S.more (tk := tk) hkp, .more (tk := tk) hkp, h⟩
 split <;> exact .int
theorem CV_abs {a : Int} (h : Q (.int (if a < 0 then -a else a)) m H) : CV C A (.con (.builtin "abs")) [.int a] [] m H Q := fun s rf rs rkw S hf hva hk => by
 have := hk.nil_inv; subst this
 refine rE hf.con_inv ?_
 refine eEA (qax hva) fun x zz1 hx => ?_; subst zz1
 refine eE hx.int_inv fun t zz1 => ?_; subst zz1
 exact call_abs_int fun u tk => ⟨_, m, H, .int, S.toks tk, .toks _ tk, h⟩
theorem CV_tuple_list {l : Addr} {xs : List V} (hl : LAt C H l xs) (hsz : xs.length ≤ sizeLine) (h : Q (.tup xs) m H) : CV C A (.con (.type "tuple")) [.ref l] [] m H Q := fun s rf rs rkw S hf hva hk => by
 have := hk.nil_inv; subst this
 refine rE hf.con_inv ?_
 refine eEA (qax hva) fun x zz1 hx => ?_; subst zz1
 refine rE hx.ref_inv ?_
 obtain ⟨items, n, hL, hs, hz⟩ := S.toHS.list hl
 refine call_tuple_list hL.isList (fun h' hk => ?_) (by omega)
 have k2 : ∀ b o, s.heap.get? b = some o → (h'.push { cls := .type "tuple", data := .seq items }).get? b = some o := fun b o e => Heap.get?_push_of_some _ (hk b o e)
 exact ⟨_, m, H, .tup (Heap.get?_push_size _ rfl) (hs.keep (.of_keep k2)), S.more (tk := s.toks) k2, .more (tk := s.toks) k2, h⟩
end
end
end Mine
end
section
open PySem PySem.Calls PySem.W PyProof.Rows
set_option maxRecDepth 100000
namespace Mine
noncomputable section
namespace LI
theorem slot_ga : Slot "list_iterator" "__getattribute__" "object.__getattribute__" :=
 .of (owner := "object") (n := "__getattribute__") (by refine rE (typeLookup_type ..) (rE builtinLookup_eq_fast ?_); kernel_rfl) (by decide +kernel) (by decide +kernel) (by decide +kernel)
  (by first | exact .inl (by decide +kernel) | exact .inr (by decide +kernel)) (by refine rE (isSubtype_type ..) ?_; kernel_rfl)
theorem entry_ga : entryFor table "object.__getattribute__" = some Builtin.«object.__getattribute__» := entryFor_of_tree (by kernel_rfl)
theorem args_ga (a b : Value) : argsOk "object.__getattribute__" ⟨[a, b], []⟩ := by unfold argsOk; kernel_rfl
theorem type_next : typeOf (.builtin "list_iterator.__next__") = pure (.type "wrapper_descriptor") := by show builtinType _ = _; refine rE builtinType_eq_fast ?_; kernel_rfl
theorem slot_wget : Slot "wrapper_descriptor" "__get__" "wrapper_descriptor.__get__" :=
 .of (owner := "wrapper_descriptor") (n := "__get__") (by refine rE (typeLookup_type ..) (rE builtinLookup_eq_fast ?_); kernel_rfl) (by decide +kernel) (by decide +kernel) (by decide +kernel)
  (by first | exact .inl (by decide +kernel) | exact .inr (by decide +kernel)) (by refine rE (isSubtype_type ..) ?_; kernel_rfl)
theorem entry_wget : entryFor table "wrapper_descriptor.__get__" = some Builtin.«wrapper_descriptor.__get__» := entryFor_of_tree (by kernel_rfl)
theorem args_wget (a b c : Value) : argsOk "wrapper_descriptor.__get__" ⟨[a, b, c], []⟩ := by unfold argsOk; kernel_rfl
theorem no_wset : typeLookup (.type "wrapper_descriptor") "__set__" = pure none := by refine rE (typeLookup_type ..) (rE builtinLookup_eq_fast ?_); kernel_rfl
theorem no_wdel : typeLookup (.type "wrapper_descriptor") "__delete__" = pure none := by refine rE (typeLookup_type ..) (rE builtinLookup_eq_fast ?_); kernel_rfl
theorem sub_li : isSubtype (.type "list_iterator") (.type "list_iterator") = pure true := by refine rE (isSubtype_type ..) ?_; kernel_rfl
theorem own_next : (".".intercalate ("list_iterator.__next__".cutAt '.').dropLast) = "list_iterator" := by decide +kernel
theorem sub_own : isSubtype (.type "list_iterator") (.type (".".intercalate ("list_iterator.__next__".cutAt '.').dropLast)) = pure true := by refine rE own_next ?_; exact sub_li
end LI
noncomputable abbrev mwObj (I : Addr) : Obj := { cls := .type "method-wrapper", data := .fields #[.builtin "list_iterator.__next__", .ref I] }
section
variable {prog : Program} {w : World} {A : Around} {E : Value → Shared → Prop} {s : Shared}
theorem wget_raw {I : Addr} {h : Heap} {g : Array GenState} {d : Drawn} {t : Nat} {os : OsState} {R : Result → Shared → Prop} {o : Obj} (ho : h.get? I = some o) (hc : o.cls = .type "list_iterator") (hq : R (.ok (.ret (.ref h.objs.size))) ⟨h.push (mwObj I), g, d, t, os⟩) :
  codeAny (model prog w) A (.call (.builtin "wrapper_descriptor.__get__") ⟨[.builtin "list_iterator.__next__", .ref I, .type "list_iterator"], []⟩) R ⟨h, g, d, t, os⟩ := by
 have hT : (⟨h, g, d, t, os⟩ : Shared).TypeIs (.ref I) "list_iterator" := ⟨_, ho, hc⟩
 have hT5 : (⟨h, g, d, t, os⟩ : Shared).TypeIs (.builtin "list_iterator.__next__") "wrapper_descriptor" := LI.type_next
 have f8 := LI.sub_own
 refine codeAny_call_builtin LI.slot_wget.plain LI.entry_wget (LI.slot_wget.check _ _ _ _ _ _ _ _ hT5 (LI.args_wget _ _ _) ?_)
 repeat (any_goals (first | assumption | wp_step))
theorem ga_entry {I : Addr} {o : Obj} {h : Heap} {g : Array GenState} {d : Drawn} {t : Nat} {os : OsState} {tk : Tok} {Q : Fin → Shared → Prop} (ho : h.get? I = some o) (hc : o.cls = .type "list_iterator") (hd : o.dict = none) {vs : Array Value} (hv : o.data = .fields vs) (hq : Q (.done (.ret (.ref h.objs.size))) ⟨h.push (mwObj I), g, d, t, os⟩) :
  wpAny (model prog w) A (Builtin.«object.__getattribute__» ⟨[.ref I, .str "__next__" tk], []⟩) Q E ⟨h, g, d, t, os⟩ := by
 obtain ⟨oc, od, oda, osl⟩ := o
 dsimp only at hc hd hv
 subst hc hd hv
 have hT : (⟨h, g, d, t, os⟩ : Shared).TypeIs (.ref I) "list_iterator" := ⟨_, ho, rfl⟩
 have hT5 : (⟨h, g, d, t, os⟩ : Shared).TypeIs (.builtin "list_iterator.__next__") "wrapper_descriptor" := LI.type_next
 have f4 := slot_listiter_next.lookup
 have f5 := LI.type_next
 have f6 := LI.slot_wget.lookup
 have f7 := LI.no_wset
 have f8 := LI.no_wdel
 have f9 := LI.slot_wget.bind (.builtin "list_iterator.__next__")
 repeat (any_goals (first | assumption | wp_step))
 refine wget_raw ho rfl ?_
 repeat (any_goals (first | assumption | wp_step))
theorem ga_raw {I : Addr} {o : Obj} {h : Heap} {g : Array GenState} {d : Drawn} {t : Nat} {os : OsState} {Q : Value → Shared → Prop} (ho : h.get? I = some o) (hc : o.cls = .type "list_iterator") (hd : o.dict = none) {vs : Array Value} (hv : o.data = .fields vs) (hq : Q (.ref h.objs.size) ⟨h.push (mwObj I), g, d, t + 1, os⟩) :
  wpAny (model prog w) A (getAttr (.ref I) "__next__" true) Q E ⟨h, g, d, t, os⟩ := by
 obtain ⟨oc, od, oda, osl⟩ := o
 dsimp only at hc hd hv
 subst hc hd hv
 have hT : ∀ tk', (⟨h, g, d, tk', os⟩ : Shared).TypeIs (.ref I) "list_iterator" := fun _ => ⟨_, ho, rfl⟩
 have f3 := LI.slot_ga.lookup
 have f4 := LI.slot_ga.bind (.ref I)
 have f5 := slot_listiter_next.lookup
 unfold getAttr getAttrBy
 repeat (any_goals (first | assumption | exact hT _ | wp_step))
 refine codeAny_call_builtin LI.slot_ga.plain LI.entry_ga (LI.slot_ga.check _ _ _ _ _ _ _ _ (hT _) (LI.args_ga _ _) (ga_entry ho rfl rfl rfl ?_))
 repeat (any_goals (first | assumption | exact hT _ | wp_step))
end
end
end Mine
end
section
open PySem PySem.Calls PySem.W PyProof.Rows
set_option maxRecDepth 100000
namespace Mine
noncomputable section
noncomputable def CH.del (H : CH) (a : Addr) : CH := fun b => if b = a then none else H b
theorem CH.del_le {H : CH} {a : Addr} : (H.del a).Le H := fun b c e => by
 unfold CH.del at e; split at e
 ·cases e
 ·exact e
theorem CH.del_same {H : CH} {a : Addr} : H.del a a = none := by simp [CH.del]
theorem CH.del_ne {H : CH} {a b : Addr} (h : b ≠ a) : H.del a b = H b := by simp [CH.del, h]
inductive Trc (C : Cx) (H : CH) (h h' : Heap) (e : Addr) (x : Value) : Prop
 | none (hx : x = .none) : Trc C H h h' e x
 | tb (T : Addr) (oT : Obj) (ts : Array Value) (hx : x = .ref T) (ho : h'.get? T = some oT) (hd : oT.data = .fields ts) (h3 : ts[3]? = some .none) (ni : ¬ Imm oT) (hn : h.get? T = Option.none) (hH : H T = Option.none) (hb : C.h₀.get? T = Option.none) (hne : T ≠ e) : Trc C H h h' e x
inductive PE (C : Cx) (H : CH) (s : Shared) (cls : String) (R : Loc → CH → Prop) (ev : Value) (s' : Shared) : Prop
 | mk (e : Addr) (oe : Obj) (vs : Array Value) (x : Value) (m' : Loc) (H' : CH) (h1 : ev = .ref e) (h2 : s'.heap.get? e = some oe) (h3 : oe.cls = .type cls) (h4 : oe.data = .fields vs) (h5 : vs[1]? = some x) (ht : Trc C H' s.heap s'.heap e x) (h6 : ¬ Imm oe) (h7 : s.heap.get? e = none) (h8 : H' e = none) (h9 : C.h₀.get? e = none) (hS : St C m' H' s') (ha : After C H s H' s') (q : R m' H') : PE C H s cls R ev s'
theorem Trc.mono {C : Cx} {H : CH} {h₀ h h' : Heap} {e : Addr} {x : Value} (th : ∀ b o, h₀.get? b = some o → ∃ o', h.get? b = some o') (t : Trc C H h h' e x) : Trc C H h₀ h' e x := by
 cases t with
 | none hx => exact .none hx
 | tb T oT ts hx ho hd h3 ni hn hH hb hne =>
  refine .tb T oT ts hx ho hd h3 ni ?_ hH hb hne
  cases q : h₀.get? T with
  | none => rfl
  | some o => refine eE (th T o q) fun o' e' => ?_; exact (no1 hn e').elim
section
variable {C : Cx} {A : Around} {m : Loc} {H : CH} {s : Shared} {K : Frag} {mg mb : Str → Option Value} {Q : V → Loc → CH → Prop} {cls : String} {R : Loc → CH → Prop}
theorem PE.mono {m₁ : Loc} {H₁ : CH} {s₁ s₂ : Shared} {ev : Value} (S₁ : St C m₁ H₁ s₁) (a : After C H s H₁ s₁) (x : PE C H₁ s₁ cls R ev s₂) : PE C H s cls R ev s₂ := by
 obtain ⟨e, oe, vs, x, m', H', a1, a2, a3, a4, a5, tr, a6, a7, a8, a9, S', af, q⟩ := x
 refine ⟨e, oe, vs, x, m', H', a1, a2, a3, a4, a5, tr.mono a.there, a6, ?_, a8, a9, S', a.then S₁ af, q⟩
 exact a.there_none a7
noncomputable def EVX (C : Cx) (A : Around) (e : PySem.Expr) (m : Loc) (H : CH) (Q : V → Loc → CH → Prop) (cls : String) (R : Loc → CH → Prop) : Prop := ∀ s, St C m H s → wpAny (model C.prog C.w) A (eval e C.env) (PV C H s Q) (PE C H s cls R) s
noncomputable def EXX (C : Cx) (A : Around) (b : List Stmt) (m : Loc) (H : CH) (Q : Fl → Loc → CH → Prop) (cls : String) (R : Loc → CH → Prop) : Prop := ∀ s, St C m H s → wpAny (model C.prog C.w) A (execs b C.env) (PF C H s Q) (PE C H s cls R) s
noncomputable def ESX (C : Cx) (A : Around) (st : Stmt) (m : Loc) (H : CH) (Q : Fl → Loc → CH → Prop) (cls : String) (R : Loc → CH → Prop) : Prop := ∀ s, St C m H s → wpAny (model C.prog C.w) A (exec st C.env) (PF C H s Q) (PE C H s cls R) s
noncomputable def CVX (C : Cx) (A : Around) (f : V) (vs : List V) (m : Loc) (H : CH) (Q : V → Loc → CH → Prop) (cls : String) (R : Loc → CH → Prop) : Prop := ∀ s rf rs, St C m H s → VR s.heap f rf → VRs s.heap vs rs → wpAny (model C.prog C.w) A (call rf rs []) (PV C H s Q) (PE C H s cls R) s
theorem EXX_cons {st : Stmt} {rest : List Stmt} {Q : Fl → Loc → CH → Prop} (h : ESX C A st m H (fun fl m₁ H₁ => match fl with | .next => EXX C A rest m₁ H₁ Q cls R | fl => Q fl m₁ H₁) cls R) : EXX C A (st :: rest) m H Q cls R := fun s S => by
 refine wpAny_execs_cons (wpAny_mono (h s S) ?_ fun _ _ x => x)
 rintro f s₁ ⟨fl, m₁, H₁, hf, S₁, af₁, h₁⟩
 cases fl with
 | next => cases hf; exact wpAny_mono (h₁ s₁ S₁) (fun _ _ x => x.mono S₁ af₁) fun _ _ x => x.mono S₁ af₁
 | brk => cases hf; exact ⟨.brk, m₁, H₁, rfl, S₁, af₁, h₁⟩
 | cont => cases hf; exact ⟨.cont, m₁, H₁, rfl, S₁, af₁, h₁⟩
 | ret v => obtain ⟨r, rfl, hr⟩ := hf; exact ⟨.ret v, m₁, H₁, ⟨r, rfl, hr⟩, S₁, af₁, h₁⟩
theorem EXX_of {b : List Stmt} {Q : Fl → Loc → CH → Prop} (h : EX C A b m H Q) : EXX C A b m H Q cls R := fun s S => wpAny_noRaise (h s S)
theorem ESX_assign {t e : PySem.Expr} {p : Pos} {Q : Fl → Loc → CH → Prop} (h : EVX C A e m H (fun v m₁ H₁ => ASG C A t v m₁ H₁ (Q .next)) cls R)
  (hs : autoParam (swapsWithSole [t] e p.line C.env = pure false) Mine.syn1) (hw : autoParam (swappedStores [t] e C.env = pure none) Mine.syn1) (ht : autoParam ((assignEach [t] C.env).map (·.2) = [assign t C.env]) Mine.syn1) : ESX C A (.Assign [t] e p) m H Q cls R := fun s S => by
 refine wpAny_Assign_stores (wpAny_mono (h s S) ?_ fun _ _ x => x) hs hw
 rintro a s₁ ⟨v, m₁, H₁, ra, S₁, af₁, h₁⟩
 refine rE ht ?_
 refine wpAny_noRaise (wpAny_mono (h₁ s₁ a S₁ ra) ?_ fun _ _ x => x)
 rintro _ s₂ ⟨m₂, H₂, S₂, af₂, h₂⟩
 exact ⟨.next, m₂, H₂, rfl, S₂, af₁.then S₁ af₂, h₂⟩
theorem EVX_call {func : PySem.Expr} {args : List PySem.Expr} {p : Pos} (h : EV C A func m H fun f m₁ H₁ => EL C A args m₁ H₁ fun vs m₂ H₂ => KP C f H₂ ∧ CVX C A f vs m₂ H₂ Q cls R)
  (hst : autoParam (NoLone C args) Mine.syn2)
  (he : autoParam (eval (.Call func args [] p) C.env = (do callWith p (← eval func C.env) [] (backTo p (starEach args C.env)) (backToKw p (keywordEach [] C.env)))) Mine.syn1) : EVX C A (.Call func args [] p) m H Q cls R := fun s S => by
 refine rE he ?_
 refine wpAny_bind (wpAny_noRaise (wpAny_mono (h s S) ?_ fun _ _ x => x))
 rintro rf s₁ ⟨f, m₁, H₁, vf, S₁, af₁, h₁⟩
 refine qbi (wpAny_noRaise (qcb h₁ (hst p) S₁ ?_))
 rintro rs s₂ ⟨vs, m₂, H₂, vr, S₂, af₂, hk, h₂⟩
 have vf₂ := vf.keep (af₂.tup S₁)
 obtain ⟨k, L⟩ := hk s₂ rf S₂.toHS vf₂
 exact ⟨k, L, wpAny_mono (h₂ s₂ rf rs S₂ vf₂ vr) (fun _ _ x => x.mono S₂ (af₁.then S₁ af₂)) fun _ _ x => x.mono S₂ (af₁.then S₁ af₂)⟩
theorem Imm.mw {I : Addr} : Imm (mwObj I) := ⟨rfl, .inl ⟨"method-wrapper", by decide, rfl⟩, (by intro _ _ e; cases e), (by intro _ e; cases e), (by intro _ _ _ e; cases e)⟩
theorem KP_mw {I : Addr} : KP C (.imm (mwObj I)) H := fun s rf S hf => by
 obtain ⟨_, a, rfl, ho⟩ := hf.imm_inv
 exact ⟨.machine, (Looks.ld (part := none) ho).andThen .now⟩
theorem HS.liter (S : HS C H s) {I l : Addr} {i : Nat} (h : H I = some (.liter l i)) : s.heap.get? I = some { cls := .type "list_iterator", data := .fields #[.ref l, .int i 0] } := by
 obtain ⟨_, o, ho, rfl⟩ := S.own I _ h; exact ho
theorem CV_iter {l : Addr} {xs : List V} (hl : LAt C H l xs) (h : ∀ I, H I = none → C.h₀.get? I = none → Q (.ref I) m (H.set I (.liter l 0))) : CV C A (.con (.builtin "iter")) [.ref l] [] m H Q := fun s rf rs rkw S hf hva hk => by
 have := hk.nil_inv; subst this
 refine rE hf.con_inv ?_
 refine eEA (qax hva) fun x zz1 hx => ?_; subst zz1
 refine rE hx.ref_inv ?_
 obtain ⟨items, n, hL, hs, hz⟩ := S.toHS.list hl
 refine call_function_entry (by decide +kernel) (by decide +kernel) kdk_entry_iter (kdk_args_iter _) ?_
 unfold Builtin.«iter»
 refine wpAny_bind (m := someArgs "iter" 1 2 _) (wpAny_of_eq (a := [Value.ref l]) (by first | rfl | kernel_rfl) ?_)
 show wpAny _ _ (pyIter (.ref l) >>= _) _ _ _
 refine wpAny_bind (wpAny_pyIter_list hL.isList ?_)
 exact wpAny_pure ⟨_, rfl, _, m, _, .ref, S.alloc (tk := s.toks) (c := .liter l 0) rfl, .alloc (tk := s.toks), h _ S.toHS.fresh S.toHS.freshb⟩
theorem GA_next {I l : Addr} {i : Nat} (hI : H I = some (.liter l i)) (h : Q (.imm (mwObj I)) m H) : O1 C A (fun r => getAttr r "__next__" true) (.ref I) m H Q := fun s r S hr => by
 refine rE hr.ref_inv ?_
 have ho := S.toHS.liter hI
 obtain ⟨hh, g, d, t, os⟩ := s
 exact ga_raw ho rfl rfl rfl ⟨_, m, H, .imm .mw (Heap.get?_push_size _ rfl), S.more (tk := t + 1) (qae _ _), .more (tk := t + 1) (qae _ _), h⟩
theorem check_mw (I : Addr) : checkBoundCall "list_iterator.__next__" ⟨[.ref I], []⟩ = pure () := by first | kernel_rfl | rfl
theorem quiet_mw {as : Args} : (Code.builtin "list_iterator.__next__" as).quiet = true := Code.quiet_builtin _ (by decide +kernel)
theorem call_mw {I W : Addr} {E : Value → Shared → Prop} {Q : Value → Shared → Prop} (hW : s.heap.get? W = some (mwObj I))
  (h : wpAny (model C.prog C.w) A.in1 (Builtin.«list_iterator.__next__» ⟨[.ref I], []⟩) (fun fin s' => ∃ v, fin = .done (.ret v) ∧ Q v s') E s) :
  wpAny (model C.prog C.w) A (call (.ref W) []) Q E s := by
 refine wpAny_call (codeAny_of_tree ?_)
 show wpAny _ A.in1 (callAny (.ref W) ⟨[], []⟩) _ _ s
 unfold callAny
 refine wpAny_bind (wpAny_load hW ?_)
 show wpAny _ A.in1 (if (Value.type "method-wrapper" == Value.type "method" || Value.type "method-wrapper" == Value.type "builtin_function_or_method" || Value.type "method-wrapper" == Value.type "method-wrapper") = true then (if (Value.type "method-wrapper" != Value.type "method") = true then (do checkBoundCall "list_iterator.__next__" ⟨[.ref I], []⟩; again (.builtin "list_iterator.__next__" ⟨[.ref I], []⟩)) else _) else _) _ _ s
 refine rE (if_pos (by decide)) (rE (if_pos (by decide)) (rE (check_mw ..) ?_))
 refine wpAny_bind (wpAny_pure (wpAny_pure ⟨quiet_mw, codeAny_builtin entry_listiter_next ?_⟩))
 refine rE (show A.under (.builtin "list_iterator.__next__" ⟨[.ref I], []⟩) = A.in1 from Around.under_plainId (by decide +kernel) _) ?_
 refine wpAny_mono h (fun fin s' ⟨v, e, q⟩ => ?_) fun _ _ x => x
 subst e; exact q
theorem CV_mw {I l : Addr} {i : Nat} {xs : List V} {x : V} (hI : H I = some (.liter l i)) (hl : LAt C H l xs) (hx : xs[i]? = some x) (h : Q x m (H.set I (.liter l (i + 1)))) : CV C A (.imm (mwObj I)) [] [] m H Q := fun s rf rs rkw S hf hva hk => by
 have := hk.nil_inv; subst this
 have := hva.nil_inv; subst this
 obtain ⟨_, W, rfl, hW⟩ := hf.imm_inv
 have ho := S.toHS.liter hI
 obtain ⟨items, n, hL, hvs, hz⟩ := S.toHS.list hl
 refine eEA (hvs.get hx) fun r hr hvr => ?_
 have hr' : items[i]? = some r := by simpa using hr
 refine call_mw hW ?_
 show wpAny _ _ (field (.ref I) 0 >>= _) _ _ s
 refine wpAny_bind (wpAny_field ho rfl (x := .ref l) rfl ?_)
 show wpAny _ _ (if (Value.ref l == Value.none) = true then _ else _) _ _ s
 refine rE (if_neg (show ¬ ((Value.ref l == Value.none) = true) from Bool.false_ne_true)) ?_
 show wpAny _ _ (field (.ref I) 1 >>= _) _ _ s
 refine wpAny_bind (wpAny_field ho rfl (x := .int i 0) rfl ?_)
 show wpAny _ _ (seqItems? (.ref l) >>= _) _ _ s
 refine wpAny_bind (wpAny_seqItems hL rfl ?_)
 simp only [Int.toNat_natCast, hr']
 refine wpAny_bind (wpAny_setField ho rfl (by exact Nat.one_lt_succ_succ [].length) (wpAny_pure ⟨r, rfl, ?_⟩))
 have ho' := Heap.get?_update_self (Obj.mapFields (·.setIfInBounds 1 (rawInt ((i : Int) + 1)))) ho rfl
 exact PV.upd (tk := s.toks) (c' := .liter l (i + 1)) S hI (Heap.SameBut.update ..) ho' (by show _ = _; simp [Obj.mapFields, rawInt]) hvr h
theorem HS.fresh' {H' : CH} {s' : Shared} {a : Addr} (S' : HS C H' s') (h : s.heap.get? a = none) (S : St C m H s) (l : H'.Le H := by exact CH.del_le) : H' a = none := l.absent (by
 exact S.own_none h)
theorem St.freshb' {a : Addr} (S : St C m H s) (h : s.heap.get? a = none) : C.h₀.get? a = none := by
 exact S.base_none h
theorem CVX_mw {I l : Addr} {i : Nat} {xs : List V} (hA : A.handled = none) (hI : H I = some (.liter l i)) (hl : LAt C H l xs) (hx : xs.length ≤ i) (h : R m (H.del I)) : CVX C A (.imm (mwObj I)) [] m H Q "StopIteration" R := fun s rf rs S hf hva => by
 have := hva.nil_inv; subst this
 obtain ⟨_, W, rfl, hW⟩ := hf.imm_inv
 have ho := S.toHS.liter hI
 obtain ⟨items, n, hL, hvs, hz⟩ := S.toHS.list hl
 have hr' : items[i]? = none := Array.getElem?_eq_none (by lia)
 refine call_mw hW ?_
 show wpAny _ _ (field (.ref I) 0 >>= _) _ _ s
 refine wpAny_bind (wpAny_field ho rfl (x := .ref l) rfl ?_)
 show wpAny _ _ (if (Value.ref l == Value.none) = true then _ else _) _ _ s
 refine rE (if_neg (show ¬ ((Value.ref l == Value.none) = true) from Bool.false_ne_true)) ?_
 show wpAny _ _ (field (.ref I) 1 >>= _) _ _ s
 refine wpAny_bind (wpAny_field ho rfl (x := .int i 0) rfl ?_)
 show wpAny _ _ (seqItems? (.ref l) >>= _) _ _ s
 refine wpAny_bind (wpAny_seqItems hL rfl ?_)
 simp only [Int.toNat_natCast, hr']
 refine wpAny_bind (wpAny_rule (wpAny_bind (wpAny_setField ho rfl (by exact PySem.size_pos_of_not_empty rfl) ?_)))
 show wpAny _ _ (newExc (.type "StopIteration") [] >>= _) _ _ _
 refine wpAny_bind ?_
 simp only [newExc, newTuple]
 refine wpAny_bind (wpAny_newObj_type ?_ (by size_fits))
 refine wpAny_bind (m := firstArgMember _ _) (wpAny_of_eq (a := Value.none) (by first | rfl | (simp only [firstArgMember]; rfl)) ?_)
 refine wpAny_newObj_type ?_ (by size_fits)
 unfold raiseNew
 refine wpAny_bind (wpAny_handled ?_)
 refine rE (show A.in1.handled = none from hA) ?_
 refine wpAny_bind (wpAny_pure (wpAny_throw ?_))
 have hu : Heap.SameBut I s.heap (s.heap.update I (Obj.mapFields (·.setIfInBounds 0 .none))) := Heap.SameBut.update ..
 have hb := (S.own I _ hI).1
 have ni : ¬ Imm ({ cls := .type "list_iterator", data := .fields #[.ref l, .int i 0] } : Obj) := qaj (T := "list_iterator") rfl (by decide) (by intro _ _ _ e; cases e; intro q; cases q)
 have ho2 := Heap.get?_update_self (Obj.mapFields (·.setIfInBounds 0 .none)) ho rfl
 generalize hh1 : s.heap.update I (Obj.mapFields (·.setIfInBounds 0 .none)) = h1 at hu ho2 ⊢
 have S1 : St C m (H.del I) { s with heap := h1 } := (S.less CH.del_le).hid (tk := s.toks) ho CH.del_same hb (by intro _ _ e; cases e) ni hu.extBut
 generalize hh2 : h1.push { cls := .type "tuple", data := .seq #[] } = h2
 have k2 : ∀ b o, h1.get? b = some o → h2.get? b = some o := fun b o e => by refine rF hh2 ?_; exact Heap.get?_push_of_some _ e
 generalize hex : ({ cls := .type "StopIteration", data := .fields (#[.ref h1.objs.size, .none, .none, .none, .bool false, .none] ++ ownMembersOf (.type "StopIteration") []) } : Obj) = ex
 have k3 : ∀ b o, h1.get? b = some o → (h2.push ex).get? b = some o := fun b o e => Heap.get?_push_of_some _ (k2 b o e)
 have S3 : St C m (H.del I) { s with heap := h2.push ex } := S1.more (tk := s.toks) k3
 have hnone : s.heap.get? h2.objs.size = none := by
  cases e : s.heap.get? h2.objs.size with
  | none => rfl
  | some o =>
   have h1n : ∃ o', h1.get? h2.objs.size = some o' := by
    by_cases q : h2.objs.size = I
    ·exact ⟨_, by refine rE q ?_; exact ho2⟩
    ·exact ⟨o, (hu.2 _ q).trans e⟩
   refine eE h1n fun o' e' => ?_
   exact absurd (Heap.lt_size (k2 _ _ e')) (Nat.lt_irrefl _)
 have hex1 : ex.isFreed = false := by refine rF hex ?_; rfl
 refine ⟨h2.objs.size, ex, _, _, m, H.del I, rfl, Heap.get?_push_size _ hex1, by refine rF hex rfl, by refine rF hex rfl, by rfl, .none rfl, ?_, hnone, S3.toHS.fresh' hnone S, S.freshb' hnone, S3, ?_, h⟩
 ·refine rF hex ?_; exact qaj (T := "StopIteration") rfl (by decide) (by intro vs x t e; cases e; intro q; cases q)
 ·refine ⟨fun b o hbl hn e => ?_, fun b o hn _ => CH.del_le.absent hn, fun b o e => ?_, rfl, rfl⟩
  ·have hbI : b ≠ I := fun q => by subst q; exact (no1 hn hI).elim
   exact ⟨o, k3 b o ((hu.2 b hbI).trans e), .refl o⟩
  ·by_cases q : b = I
   ·subst q; exact ⟨_, k3 b _ ho2⟩
   ·exact ⟨o, k3 b o ((hu.2 b q).trans e)⟩
end
end
end Mine
end
section
open PySem PySem.Calls PySem.W PyProof.Rows
set_option maxRecDepth 100000
namespace Mine
noncomputable section
section
variable {C : Cx} {A : Around} {m : Loc} {H : CH} {s : Shared} {K : Frag} {mg mb : Str → Option Value} {cls : String} {R : Loc → CH → Prop}
noncomputable def qar (l : List Env) : List Addr := l.filterMap (·.frame)
theorem frames_fun {base h₀ : Heap} {h : Heap} : ∀ {l : List Env}, (∀ e ∈ l, FrameOk h₀ H h e) → (∀ a ∈ qar l, base.get? a = none) → h.FunFrames base l
 | [], _, _ => trivial
 | e :: l, F, hb => by
  obtain ⟨a1, a2, a3, f, o, es, ep, hf, ho, hd, hn, hb0⟩ := F e List.mem_cons_self
  refine ⟨by refine rE a1 ?_; decide, ⟨f, o, hf, hb f ?_, ho, fun vs q => by rw [hd] at q; cases q⟩, frames_fun (fun e' he => F e' (List.mem_cons_of_mem _ he)) fun a ha => hb a ?_⟩
  ·unfold qar; refine rE List.filterMap_cons (rE hf ?_); exact List.mem_cons_self
  ·unfold qar at ha ⊢; refine rE List.filterMap_cons (rE hf ?_); exact List.mem_cons_of_mem _ ha
theorem qb5 {h₀ h : Heap} {l : List Env} (F : ∀ e ∈ l, FrameOk h₀ H h e) {a : Addr} (ha : a ∈ qar l) : ∃ o es ep, h.get? a = some o ∧ o.data = .dict es ep ∧ H a = none ∧ h₀.get? a = none := by
 unfold qar at ha
 refine eEA (List.mem_filterMap.mp ha) fun e he hf => ?_
 obtain ⟨_, _, _, f, o, es, ep, hf', ho, hd, hn, hb⟩ := F e he
 rw [hf'] at hf; cases hf
 exact ⟨o, es, ep, ho, hd, hn, hb⟩
structure Stood (C : Cx) (e : Addr) (cls : Value) (s s' : Shared) : Prop where
 rest : ∀ b o, b ≠ e → b ∉ qar C.fr → s.heap.get? b = some o → s'.heap.get? b = some o
 frames : ∀ b, b ∈ qar C.fr → ∀ o, s.heap.get? b = some o → ∃ o', s'.heap.get? b = some o' ∧ o'.data = o.data
 same : s' = { s with heap := s'.heap }
 trace : ∃ oe vs T oT ts, s'.heap.get? e = some oe ∧ oe.cls = cls ∧ oe.data = .fields vs ∧ vs[1]? = some (.ref T) ∧ s.heap.get? T = none ∧ T ≠ e ∧ s'.heap.get? T = some oT ∧ oT.data = .fields ts ∧ ts[3]? = some .none ∧ ¬ Imm oT
theorem trace_not_imm {ts : Array Value} {L : Addr} (h : ts[1]? = some (.ref L)) : ¬ Imm { cls := .type "traceback", data := .fields ts } :=
 qaj (T := "traceback") rfl (by decide) (by intro vs x t e q; cases e; rw [h] at q; cases q)
theorem update_same {h : Heap} {a : Addr} {o : Obj} {f : Obj → Obj} (ho : h.get? a = some o) (hf : f o = o) : h.update a f = h := by
 obtain ⟨objs, l⟩ := h
 have hoo : objs[a]? = some o := by
  unfold Heap.get? at ho
  dsimp only at ho
  split at ho
  ·cases ho
  ·exact ho
 show Heap.mk (objs.modify a f) l = ⟨objs, l⟩
 congr 1
 apply Array.ext_getElem?
 intro i
 refine rE Array.getElem?_modify ?_
 split
 ·rename_i q; subst q; refine rE hoo ?_; exact congrArg some hf
 ·rfl
theorem note_first {E : Value → Shared → Prop} {Q : Unit → Shared → Prop} {outer : List Env} {e : Addr} {oe : Obj} {vs : Array Value} (hA : A.frames = some C.fr) (hfr : C.fr = C.env :: outer) (S : St C m H s) (he : s.heap.get? e = some oe) (hd : oe.data = .fields vs) {x : Value} (h1 : vs[1]? = some x) {hh : Heap} {H' : CH} (hx : Trc C H' hh s.heap e x)
  (h : ∀ s', Stood C e oe.cls s s' → Q () s') :
  wpAny (model C.prog C.w) A (noteFrame (.ref e) C.env) (fun _ s₂ => wpAny (model C.prog C.w) A (setFlight (.ref e) none) Q E s₂) E s := by
 have hef : e ∉ qar C.fr := fun q => by
  obtain ⟨o, es, ep, ho, hdd, _⟩ := qb5 S.frs q
  rw [he] at ho; cases ho; rw [hd] at hdd; cases hdd
 have hb : ∀ a, a ∈ e :: qar C.fr → (hideAll s.heap (e :: qar C.fr)).get? a = none := fun a ha => hideAll_none _ ha
 have hl : s.heap.FunFrames (hideAll s.heap (e :: qar C.fr)) (C.env :: outer) := by
  refine rF hfr ?_; exact frames_fun S.frs fun a ha => hb a (List.mem_cons_of_mem _ ha)
 obtain ⟨_, _, _, f, o, es, ep, hf, ho, hdd, _, _⟩ := S.frs C.env (by refine rE hfr ?_; exact List.mem_cons_self)
 unfold noteFrame
 simp only [hf]
 refine wpAny_bind (wpAny_field he hd h1 ?_)
 have main : wpAny (model C.prog C.w) A (frameOf C.env >>= fun fr => entryPlaceOf f (x != Value.none) >>= fun pl => EntryCells.newEntry x fr Value.none (rawInt f) Value.none pl >>= fun en => setField (.ref e) 1 en) (fun _ s₂ => wpAny (model C.prog C.w) A (setFlight (.ref e) none) Q E s₂) E s := by
  refine wpAny_bind (wpAny_frameOf_fun (by refine rE hA (rE hfr rfl)) hl hf fun h₁ hs₁ => ?_)
  rw [show (C.env :: outer).filterMap (·.frame) = qar C.fr from by refine rE hfr ?_; rfl] at hs₁
  refine wpAny_bind (wpAny_entryPlaceOf fun pl hpl => ?_)
  unfold EntryCells.newEntry newFields
  refine wpAny_bind (wpAny_newObj_type ?_ (hpl.sizeOk5 _ _ _ _ _))
  generalize hts : ([x, Value.ref f, Value.none, rawInt f, Value.none] ++ (if pl.isEmpty then List.replicate 6 Value.none else pl)).toArray = ts
  have ts1 : ts[1]? = some (.ref f) := by refine rF hts ?_; simp
  have ts3 : 3 < ts.size := by refine rF hts ?_; simp
  have he₁ : h₁.get? e = some oe := (hs₁.2.1 e hef).trans he
  have he₂ := Heap.get?_push_of_some (h := h₁) { cls := .type "traceback", dict := none, data := .fields ts } he₁
  have hT₂ : (h₁.push { cls := .type "traceback", dict := none, data := .fields ts }).get? h₁.objs.size = some { cls := .type "traceback", dict := none, data := .fields ts } := Heap.get?_push_size h₁ rfl
  have hsz : 1 < vs.size := (Array.getElem?_eq_some_iff.mp h1).1
  have hTe : h₁.objs.size ≠ e := Nat.ne_of_gt (Heap.lt_size he₁)
  have hTn : s.heap.get? h₁.objs.size = none := by
   cases q : s.heap.get? h₁.objs.size with
   | none => rfl
   | some o => obtain ⟨sl, hs⟩ := hs₁.2.2 _ o q; exact absurd (Heap.lt_size hs) (Nat.lt_irrefl _)
  have low : ∀ b o, h₁.get? b = some o → b ≠ h₁.objs.size := fun b o hb => Nat.ne_of_lt (Heap.lt_size hb)
  generalize hh2 : h₁.push { cls := .type "traceback", dict := none, data := .fields ts } = h₂ at he₂ hT₂ ⊢
  have k2 : ∀ b o, h₁.get? b = some o → h₂.get? b = some o := fun b o hb => by refine rF hh2 ?_; exact Heap.get?_push_of_some _ hb
  generalize h₁.objs.size = T at *
  refine wpAny_setField he₂ hd hsz ?_
  have hd₃ := Obj.data_mapFields hd (·.setIfInBounds 1 (Value.ref T))
  have he₃ := Heap.get?_update_self (Obj.mapFields (·.setIfInBounds 1 (Value.ref T))) he₂ (Obj.isFreed_of_fields hd₃)
  have hT₃ := (Heap.get?_update_other h₂ (Obj.mapFields (·.setIfInBounds 1 (Value.ref T))) (Ne.symm hTe)).trans hT₂
  unfold setFlight
  refine wpAny_bind (wpAny_field he₃ hd₃ (x := .ref T) (by exact Array.getElem?_setIfInBounds_self_of_lt hsz) ?_)
  refine rE (if_pos (show (Value.ref T != Value.none) = true from by rfl)) ?_
  refine wpAny_setField hT₃ rfl ts3 (h _ ?_)
  have keep : ∀ b o, b ≠ e → h₁.get? b = some o → ((h₂.update e (Obj.mapFields (·.setIfInBounds 1 (Value.ref T)))).update T (Obj.mapFields (·.setIfInBounds 3 ((none : Option Addr).elim Value.none fun f => rawInt f)))).get? b = some o := fun b o hbe hb => by
   refine rE (Heap.get?_update_other _ _ (Ne.symm (low b o hb))) (rE (Heap.get?_update_other _ _ (Ne.symm hbe)) ?_)
   exact k2 b o hb
  refine ⟨fun b o hbe hbf hbo => keep b o hbe ((hs₁.2.1 b hbf).trans hbo), fun b hbf o hbo => ?_, rfl, ?_⟩
  ·obtain ⟨sl, hs⟩ := hs₁.2.2 b o hbo
   exact ⟨_, keep b _ (fun q => hef (q ▸ hbf)) hs, rfl⟩
  ·have hT₄ := Heap.get?_update_self (Obj.mapFields (·.setIfInBounds 3 ((none : Option Addr).elim Value.none fun f => rawInt f))) hT₃ (Obj.isFreed_of_fields (Obj.data_mapFields rfl _))
   refine ⟨_, _, T, _, _, (Heap.get?_update_other _ _ hTe).trans he₃, Obj.cls_mapFields _ _, hd₃, by exact Array.getElem?_setIfInBounds_self_of_lt hsz, hTn, hTe, hT₄, Obj.data_mapFields rfl _, by exact Array.getElem?_setIfInBounds_self_of_lt ts3, ?_⟩
   have : Obj.mapFields (·.setIfInBounds 3 ((none : Option Addr).elim Value.none fun f => rawInt f)) { cls := .type "traceback", dict := none, data := .fields ts } = { cls := .type "traceback", dict := none, data := .fields (ts.setIfInBounds 3 .none) } := rfl
   refine rE this ?_
   exact trace_not_imm (L := f) (by refine rE (Array.getElem?_setIfInBounds_ne (by decide)) ?_; exact ts1)
 cases hx with
 | none q =>
  subst q
  refine rE (if_neg (by decide)) ?_
  exact main
 | tb T oT ts q ho hd2 h3 ni hn hH hb hne =>
  subst q
  refine rE (if_pos (by rfl)) ?_
  refine wpAny_bind (wpAny_field ho hd2 h3 ?_)
  refine rE (if_neg (by exact ne_true_of_eq_false rfl)) ?_
  refine wpAny_bind (wpAny_setField ho hd2 (Array.getElem?_eq_some_iff.mp h3).1 ?_)
  rw [update_same ho (by
   obtain ⟨c, d, dt, sl⟩ := oT
   dsimp only at hd2
   subst hd2
   show Obj.mk c d (.fields (ts.setIfInBounds 3 .none)) sl = _
   congr 2
   apply Array.ext_getElem?
   intro i
   refine rE Array.getElem?_setIfInBounds ?_
   split
   ·rename_i q; subst q; refine rE h3 ?_; simp [(Array.getElem?_eq_some_iff.mp h3).1]
   ·rfl)]
  exact main
theorem Stood.tup {e : Addr} {cls : Value} {s' : Shared} {oe : Obj} (x : Stood C e cls s s') (S : St C m H s) (he : s.heap.get? e = some oe) (ni : ¬ Imm oe) : TupKeep s.heap s'.heap := fun b o i hbo =>
 x.rest b o (fun q => by subst q; rw [he] at hbo; cases hbo; exact ni i) (fun q => by
  obtain ⟨o', es, ep, ho, hd, _⟩ := qb5 S.frs q
  rw [hbo] at ho; cases ho; exact i.2.2.1 _ _ hd) hbo
theorem Stood.st {e : Addr} {cls : Value} {s' : Shared} {oe : Obj} (x : Stood C e cls s s') (S : St C m H s) (he : s.heap.get? e = some oe) (ni : ¬ Imm oe) (hH : H e = none) (hb : C.h₀.get? e = none) (nd : ∀ es ep, oe.data ≠ .dict es ep) : St C m H s' := by
 have tk := x.tup S he ni
 have nf : ∀ b c, H b = some c → b ∉ qar C.fr := fun b c e q => by
  obtain ⟨_, _, _, _, _, hn, _⟩ := qb5 S.frs q
  exact (no1 hn e).elim
 have nb : ∀ b o, C.h₀.get? b = some o → b ∉ qar C.fr := fun b o e q => by
  obtain ⟨_, _, _, _, _, _, hn⟩ := qb5 S.frs q
  exact (no1 hn e).elim
 have data : ∀ b o, b ≠ e → s.heap.get? b = some o → ∃ o', s'.heap.get? b = some o' ∧ o'.data = o.data := fun b o hbe hbo => by
  by_cases q : b ∈ qar C.fr
  ·exact x.frames b q o hbo
  ·exact ⟨o, x.rest b o hbe q hbo, rfl⟩
 refine ⟨⟨fun b o ho => x.rest b o (fun q => by subst q; exact (no1 hb ho).elim) (nb b o ho) (S.base b o ho), fun b c hc => ?_, by refine rE x.same ?_; exact S.gens⟩, ?_, S.loc, S.locb, ?_⟩
 ·obtain ⟨h0, o, ho, r⟩ := S.own b c hc
  exact ⟨h0, o, x.rest b o (fun q => by subst q; exact (no1 hH hc).elim) (nf b c hc) ho, r.keep tk⟩
 ·refine eEA S.ns fun mr zz1 kn => ?_; obtain ⟨o, es, ep, ho, hd, hk, hf⟩ := zz1
  have hne : C.env.locals ≠ e := fun q => by rw [q, he] at ho; cases ho; exact nd _ _ hd
  refine eEA (data _ o hne ho) fun o' ho' hd' => ?_
  exact ⟨mr, ⟨o', es, ep, ho', hd'.trans hd, hk, hf⟩, kn.keep tk⟩
 ·exact S.frs.keep fun b o es ep _ hn hbo hd => by
   have hne : b ≠ e := fun q => by rw [q, he] at hbo; cases hbo; exact nd _ _ hd
   refine eEA (data b o hne hbo) fun o' ho' hd' => ?_
   exact ⟨hn, o', ho', hd'⟩
theorem Stood.after {e : Addr} {cls : Value} {s₀ s' : Shared} {H₀ : CH} {oe : Obj} (x : Stood C e cls s s') (S : St C m H s) (he : s.heap.get? e = some oe) (a : After C H₀ s₀ H s) (hn : s₀.heap.get? e = none) : After C H₀ s₀ H s' := by
 have kin : ∀ b o, b ≠ e → s.heap.get? b = some o → ∃ o', s'.heap.get? b = some o' ∧ Kin o o' := fun b o hbe hbo => by
  by_cases q : b ∈ qar C.fr
  ·refine eEA (x.frames b q o hbo) fun o' ho' hd' => ?_
   obtain ⟨o'', es, ep, ho'', hd'', _⟩ := qb5 S.frs q
   rw [hbo] at ho''; cases ho''
   exact ⟨o', ho', .inr ⟨⟨es, ep, hd''⟩, hd'⟩⟩
  ·exact ⟨o, x.rest b o hbe q hbo, .refl o⟩
 refine ⟨fun b o hbl hb hbo => ?_, a.grow, fun b o hbo => ?_, ?_, ?_⟩
 ·refine eEA (a.stay b o hbl hb hbo) fun o₁ e₁ k₁ => ?_
  refine eEA (kin b o₁ (fun q => by subst q; exact (no1 hn hbo).elim) e₁) fun o₂ e₂ k₂ => ?_
  exact ⟨o₂, e₂, k₁.trans k₂⟩
 ·refine eE (a.there b o hbo) fun o₁ e₁ => ?_
  refine eEA (kin b o₁ (fun q => by subst q; exact (no1 hn hbo).elim) e₁) fun o₂ e₂ _ => ?_
  exact ⟨o₂, e₂⟩
 ·rfl
 ·refine rE x.same ?_; exact a.os
theorem ES_try {body orelse suite : List Stmt} {b₀ : Stmt} {t : PySem.Expr} {p p' : Pos} {Q : Fl → Loc → CH → Prop} {outer : List Env} {T : String} (hA : A.frames = some C.fr) (hfr : C.fr = C.env :: outer)
  (hexc : isSubtype (.type T) (.type "BaseException") = pure true) (hnt : isSubtype (.type ((Manifest.find? T).elim "type" fun x => x.metatype)) (.type "tuple") = pure false) (hsub : isSubtype (.type cls) (.type T) = pure true)
  (h : EXX C A body m H (SeqE C A orelse Q) cls R)
  (ht : ∀ m' H' h', R m' H' → EV C (A.mark h') t m' H' fun v m₁ H₁ => v = .con (.type T) ∧ EX C (A.mark h') (b₀ :: suite) m₁ H₁ Q) :
  ES C A (.Try body [.ExceptHandler (some t) none (b₀ :: suite) p'] orelse [] p) m H Q := fun s S => by
 refine wpAny_Try_except (wpAny_mono (h s S) ?_ ?_)
 ·rintro f s₁ ⟨fl, m₁, H₁, hf, S₁, af₁, h₁⟩
  cases fl with
  | next => cases hf; exact wpAny_mono (h₁ s₁ S₁) (fun _ _ x => x.mono S₁ af₁) fun _ _ x => x
  | brk => cases hf; exact ⟨.brk, m₁, H₁, rfl, S₁, af₁, h₁⟩
  | cont => cases hf; exact ⟨.cont, m₁, H₁, rfl, S₁, af₁, h₁⟩
  | ret v => obtain ⟨r, rfl, hr⟩ := hf; exact ⟨.ret v, m₁, H₁, ⟨r, rfl, hr⟩, S₁, af₁, h₁⟩
 ·rintro ev s₁ ⟨e, oe, vs, x0, m₁, H₁, rfl, he, hc, hd, h1, tr, ni, hn, hH, hb, S₁, af₁, hR⟩
  refine note_first hA hfr S₁ he hd h1 tr fun s₂ x => ?_
  have S₂ := x.st S₁ he ni hH hb (by intro es ep q; rw [hd] at q; cases q)
  have af₂ := x.after S₁ he af₁ hn
  obtain ⟨oe', vs', Tb, oT, ts, g1, g2, g3, g4, g5, g6, g7, g8, g9, nT⟩ := x.trace
  have hTH : H₁ Tb = none := by
   exact S₁.own_none g5
  have hTb : C.h₀.get? Tb = none := by
   exact S₁.base_none g5
  have hTn : s.heap.get? Tb = none := by
   exact af₁.there_none g5
  have hTl : Tb ≠ C.env.locals := fun q => by refine eE S₁.at_loc fun o e' => ?_; rw [← q, g5] at e'; cases e'
  have hel : e ≠ C.env.locals := fun q => by
   refine eEA S₁.ns fun mr zz1 _ => ?_; obtain ⟨o, es, ep, ho, hd', _⟩ := zz1
   rw [← q, he] at ho; cases ho; rw [hd] at hd'; cases hd'
  rw [hc] at g2
  refine wpAny_handleBy_builtin (X := cls) (T := T) (b := true) hexc hnt hsub (wpAny_noRaise (wpAny_mono (ht m₁ H₁ _ hR s₂ S₂) ?_ fun _ _ x => x))
  rintro c s₃ ⟨v, m₃, H₃, hv, S₃, af₃, rfl, hx⟩
  refine eEA (af₃.stay e oe' hel hH g1) fun oe3 e3 k3 => ?_
  rw [k3.exact (by intro es ep q; rw [g3] at q; cases q)] at e3
  refine eEA (af₃.stay Tb oT hTl hTH g7) fun oT3 eT3 kT3 => ?_
  rw [kT3.exact (by intro es ep q; rw [g8] at q; cases q)] at eT3
  refine ⟨hv.con_inv, ⟨oe', e3, g2⟩, ?_⟩
  simp only [if_true]
  refine wpAny_setFlight_none e3 g3 g4 eT3 g8 (Array.getElem?_eq_some_iff.mp g9).1 ?_
  have hu : Heap.SameBut Tb s₃.heap (s₃.heap.update Tb (Obj.mapFields (·.setIfInBounds 3 .none))) := Heap.SameBut.update ..
  have S₄ : St C m₃ H₃ { s₃ with heap := s₃.heap.update Tb (Obj.mapFields (·.setIfInBounds 3 .none)) } :=
   S₃.hid (tk := s₃.toks) eT3 (af₃.grow Tb _ hTH g7) hTb (by intro es ep q; rw [g8] at q; cases q) nT hu.extBut
  have af₄ : After C H s H₃ { s₃ with heap := s₃.heap.update Tb (Obj.mapFields (·.setIfInBounds 3 .none)) } := (af₂.then S₂ af₃).hid (tk := s₃.toks) hTn hu.extBut
  exact wpAny_noRaise (wpAny_mono (hx _ S₄) (fun _ _ x => x.mono S₄ af₄) fun _ _ x => x)
end
end
end Mine
end
section
open PySem PySem.Calls PySem.W PyProof.Rows
set_option maxRecDepth 100000
namespace Mine
noncomputable section
section
variable {C : Cx} {A : Around} {m : Loc} {H : CH} {s : Shared} {K : Frag} {mg mb : Str → Option Value} {Q : V → Loc → CH → Prop}
noncomputable def BindsW (C : Cx) (H : CH) (fd : FuncData) (vs : List V) (kws binds : List (Str × V)) : Prop := ∀ (M : Model) (A : Around) (E : Value → Shared → Prop) (s : Shared) rs rkw (Q : List (Str × Value) → Shared → Prop), HS C H s → VRs s.heap vs rs → KWs s.heap kws rkw →
 (∀ rb h' tk, (∀ b o, s.heap.get? b = some o → h'.get? b = some o) → KWs h' binds rb → Q rb { s with heap := h', toks := tk }) → wpAny M A (bindArgs fd ⟨rs, rkw⟩) Q E s
theorem qci {f : Addr} {name qual : Str} {params : Arguments} {body : List Stmt} {scope : Scope} {cl : List (Str × Addr)} {dV kV doc pm cdv ct oc : Value} {an od : Option Addr} {osl : Array (Option Value)} {vs : List V} {kws binds : List (Str × V)} {m' : Loc} {Q : V → CH → Prop}
  (B : Bs C.h₀ K mg mb) (ho : K.lookup f = some ⟨oc, od, .func (fnX name qual params body scope cl dV kV doc pm an cdv ct), osl⟩) (hcd : codeIn K cdv qual = true) {n : Nat} (hA : AOK C A (n + 1))
  (hb : BindsW C H (fnX name qual params body scope cl dV kV doc pm an cdv ct) vs kws binds) (hok : (scope.names.all (fun x => x.2 != .cell) && binds.all (fun x => scope.names.lookup x.1 == some .local) && !scope.isCoroutine && !scope.isGenerator && scope.kind == .function) = true) (hm : m' = binds.reverse)
  (h : ∀ L, H L = none → C.h₀.get? L = none → AOK (C.at (callEnv (fnX name qual params body scope cl dV kV doc pm an cdv ct) L f)) (A.deeper (callEnv (fnX name qual params body scope cl dV kV doc pm an cdv ct) L f)) n → EX (C.at (callEnv (fnX name qual params body scope cl dV kV doc pm an cdv ct) L f)) (A.deeper (callEnv (fnX name qual params body scope cl dV kV doc pm an cdv ct) L f)) body m' H fun fl _ H' => Q (retOf fl) H') :
  CALL C A (.con (.ref f)) vs kws H Q := fun s rf rs rkw S F hf hv hkw => by
 simp only [Bool.and_eq_true, List.all_eq_true, Bool.not_eq_true', beq_iff_eq, bne_iff_ne] at hok
 refine eA hok fun zz0 hk => ?_; obtain ⟨⟨⟨hcell, hloc⟩, hco⟩, hgen⟩ := zz0
 refine rE hf.con_inv ?_
 refine codeAny_call_function hA.room (S.base _ _ (B.X _ _ ho)) rfl hco hgen rfl ((codeRec_of B.X hcd).keeps S.base) (hb _ _ _ s rs rkw _ S hv hkw fun rb h₁ tk₁ hk₁ hrb => ?_)
 have hloc' : ∀ x ∈ rb, scope.names.lookup x.1 = some .local := fun x hx => by
  have : x.1 ∈ binds.map (·.1) := hrb.1 ▸ List.mem_map_of_mem hx
  refine eEA (List.mem_map.mp this) fun y hy e => ?_
  refine rF e ?_; exact hloc y hy
 have S₁ := S.more (tk := tk₁) hk₁
 refine wpAny_newFunctionEnv hcell hloc' (fun h₂ hns hsb => ⟨(B.lim.keeps S₁.base).fresh _ hsb, ?_⟩) hk
 have hk₂ : ∀ b o, h₁.get? b = some o → h₂.get? b = some o := fun b o e => hsb.extBut b o (Nat.ne_of_lt (Heap.lt_size e)) (Heap.get?_push_of_some _ e)
 have hk₃ : ∀ b o, s.heap.get? b = some o → h₂.get? b = some o := fun b o e => hk₂ b o (hk₁ b o e)
 dsimp only at hns hsb ⊢
 generalize hL : h₁.objs.size = L at *
 have hL0 : s.heap.get? L = none := by
  cases e : s.heap.get? L with
  | none => rfl
  | some o => have := Heap.lt_size (hk₁ _ _ e); rw [hL] at this; exact absurd this (Nat.lt_irrefl _)
 have hLb : C.h₀.get? L = none := by
  exact S.base_none hL0
 have hLH : H L = none := by
  exact S.own_none hL0
 have S₂ : St (C.at (callEnv (fnX name qual params body scope cl dV kV doc pm an cdv ct) L f)) m' H { s with heap := h₂, toks := tk₁ + rb.length } := by
  refine ⟨(S.more hk₃).at, ⟨_, hns, fun x v e => ?_⟩, hLH, hLb, fun e he => ?_⟩
  ·subst hm
   exact qb3 (hrb.rev.keep (.of_keep hk₂)) e
  ·rcases List.mem_cons.mp he with rfl | he
   ·obtain ⟨o', es, ep, ho', hd', _⟩ := hns
    exact ⟨hk, hgen, hco, _, o', es, ep, rfl, ho', hd', hLH, hLb⟩
   ·exact F.keep (s' := { s with heap := h₂ }) (fun b o _ _ _ hn e _ => ⟨hn, o, hk₃ b o e, rfl⟩) e he
 refine codeAny_func (wpAny_noRaise (wpAny_mono (h L hLH hLb hA.at _ S₂) ?_ fun _ _ x => x))
 rintro fl s' ⟨f', m₂, H₂, hfl, T₂, af, q⟩
 have a : AfterC H s H₂ s' := (AfterC.more (tk := tk₁ + rb.length) hk₃).thenAt (C := C.at (callEnv (fnX name qual params body scope cl dV kV doc pm an cdv ct) L f)) af hL0
 cases f' with
 | ret v => obtain ⟨r, rfl, hr⟩ := hfl; exact ⟨v, H₂, hr, T₂.toHS.back, a, q⟩
 | next => cases hfl; exact ⟨V.none, H₂, .con, T₂.toHS.back, a, q⟩
 | brk => cases hfl; exact ⟨V.none, H₂, .con, T₂.toHS.back, a, q⟩
 | cont => cases hfl; exact ⟨V.none, H₂, .con, T₂.toHS.back, a, q⟩
theorem BindsW.dflt {fd : FuncData} {vs : List V} {binds : List (Str × V)} {T : Addr} {items : List Value} {n : Nat} (B : Bs C.h₀ K mg mb) (hT : K.lookup T = some (seqObj "tuple" items.toArray n))
  (h : ∀ (h : Heap) rs, VRs h vs rs → ∃ (k : Option (Array Value) → Sem (List (Str × Value))) (rb : List (Str × Value)), bindArgs fd ⟨rs, []⟩ = (seqItems? (.ref T) >>= k) ∧ k (some items.toArray) = pure rb ∧ KWs h binds rb) : BindsW C H fd vs [] binds := fun M A E s rs rkw Q S hv hk hq => by
 have := hk.nil_inv; subst this
 refine eEEAA (h s.heap rs hv) fun k rb e1 e2 e3 => ?_
 refine rE e1 ?_
 refine wpAny_bind (wpAny_seqItems (S.base _ _ (B.X _ _ hT)) rfl ?_)
 refine rE e2 ?_
 exact wpAny_pure (hq rb s.heap s.toks (fun _ _ e => e) e3)
theorem BindsW.star1 {fd : FuncData} {x y : Str} {v : V} {vs : List V} (hsz : vs.length ≤ sizeLine) (h : ∀ r rs, bindArgs fd ⟨r :: rs, []⟩ = (newTuple rs >>= fun t => pure [(x, r), (y, t)])) : BindsW C H fd (v :: vs) [] [(x, v), (y, .tup vs)] := fun M A E s rs rkw Q S hv hk hq => by
 have := hk.nil_inv; subst this
 refine eEEAA hv.cons_inv fun r rs zz2 a b => ?_; subst zz2
 refine rE (h ..) ?_
 have hz : rs.length ≤ sizeLine := by refine rF b.length ?_; exact hsz
 unfold newTuple
 refine wpAny_bind (wpAny_newObj_type (wpAny_pure ?_) (by show rs.toArray.size ≤ sizeLine; simpa using hz))
 have k := qae s.heap (seqObj "tuple" rs.toArray 0)
 refine hq _ _ s.toks k ⟨rfl, .cons (a.keep (.of_keep k)) (.cons (.tup (Heap.get?_push_size _ rfl) (by refine rE List.toList_toArray ?_; exact b.keep (.of_keep k))) .nil)⟩
theorem BindsW.star2 {fd : FuncData} {x y z : Str} {v w : V} {vs : List V} (hsz : vs.length ≤ sizeLine) (h : ∀ r q rs, bindArgs fd ⟨r :: q :: rs, []⟩ = (newTuple rs >>= fun t => pure [(x, r), (y, q), (z, t)])) : BindsW C H fd (v :: w :: vs) [] [(x, v), (y, w), (z, .tup vs)] := fun M A E s rs rkw Q S hv hk hq => by
 have := hk.nil_inv; subst this
 refine eEEAA hv.cons_inv fun r rs zz2 a b => ?_; subst zz2
 obtain ⟨q, rs, rfl, c, b⟩ := b.cons_inv
 refine rE (h ..) ?_
 have hz : rs.length ≤ sizeLine := by refine rF b.length ?_; exact hsz
 unfold newTuple
 refine wpAny_bind (wpAny_newObj_type (wpAny_pure ?_) (by show rs.toArray.size ≤ sizeLine; simpa using hz))
 have k := qae s.heap (seqObj "tuple" rs.toArray 0)
 refine hq _ _ s.toks k ⟨rfl, .cons (a.keep (.of_keep k)) (.cons (c.keep (.of_keep k)) (.cons (.tup (Heap.get?_push_size _ rfl) (by refine rE List.toList_toArray ?_; exact b.keep (.of_keep k))) .nil))⟩
variable {d : Addr} {kvs : List (Int × V)} {ep : Nat}
noncomputable def nxDict (d : Addr) (f : List (Int × V) → List V) (ep : Nat) (N : Nat) (H : CH) (i : Nat) : Option (Option V) := match H d with
 | some (.dict kvs ep') => if ep' = ep ∧ kvs.length = N then some (f kvs)[i]? else none
 | _ => none
set_option tactic.hygienic true in
theorem qcn {f : List (Int × V) → List V} {N : Nat} {i : Nat} {x : Option V} (h : nxDict d f ep N H i = some x) : ∃ kvs, H d = some (.dict kvs ep) ∧ kvs.length = N ∧ x = (f kvs)[i]? := by
 unfold nxDict at h
 split at h
 ·rename_i kvs ep' e
  split at h
  ·rename_i c; (refine eA c fun zz0 c2 => ?_; clear c; subst zz0); cases h; exact ⟨kvs, e, c2, rfl⟩
  ·cases h
 ·cases h
theorem raw_get {h : Heap} {kvs : List (Int × V)} {rs : List Value} (hr : VRs h (kvs.map (·.2)) rs) {i : Nat} {p : Int × V} (hp : kvs[i]? = some p) : ∃ r, (rawOf kvs rs)[i]? = some (p.1, r) ∧ VR h p.2 r := by
 obtain ⟨r, hr', hv⟩ := hr.get (i := i) (x := p.2) (by refine rE List.getElem?_map (rE hp ?_); rfl)
 refine ⟨r, ?_, hv⟩
 unfold rawOf
 rw [List.getElem?_zip_eq_some]
 exact ⟨by refine rE List.getElem?_map (rE hp ?_); rfl, hr'⟩
theorem raw_none {h : Heap} {kvs : List (Int × V)} {rs : List Value} (hr : VRs h (kvs.map (·.2)) rs) {i : Nat} (hp : kvs[i]? = none) : (rawOf kvs rs)[i]? = none := by
 rw [List.getElem?_eq_none_iff] at hp ⊢
 refine rE (qaq hr) ?_; exact hp
noncomputable abbrev keysOf (kvs : List (Int × V)) : List V := kvs.map fun p => .int p.1
noncomputable abbrev valsOf (kvs : List (Int × V)) : List V := kvs.map (·.2)
theorem prot_keys {I : Addr} {N : Nat} (hA : A.handled = none) (hne : d ≠ I) :
  Prot C A I (fun i _ o => o.cls = .type "dict_keyiterator" ∧ o.data = .fields #[.ref d, .int i 0, .int N 0, .int ep 0]) (nxDict d keysOf ep N) where
 plain := fun i _ o h e => qaj h.1 (by decide) (by intro vs x t e q; rw [h.2] at e; cases e; cases q) e
 nodict := fun i _ o es ep h e => by rw [h.2] at e; cases e
 kept := fun _ _ _ _ _ h => h
 item := fun H s i o v S hI ho hob hn => by
  refine eEAA (qcn hn) fun kvs hd zz2 hv => ?_; subst zz2
  refine eEA (S.dict hd) fun rs hD hrs => ?_
  rw [List.getElem?_map] at hv
  refine eEA (Option.map_eq_some_iff.mp hv.symm) fun p hp zz2 => ?_; subst zz2
  refine eEA (raw_get hrs hp) fun r hr _ => ?_
  refine wpAny_pyNext_dict_item (knd := intKind C.prog C.w) (kvs := rawOf kvs rs) (by refine rE (qaq hrs) ?_; exact ⟨o, ho, hob.1, hob.2⟩) hD hr fun key h' hkey hit hs => ?_
  obtain ⟨t, rfl⟩ := Value.isInt_shape hkey
  rw [qaq hrs] at hit
  obtain ⟨o', ho', hc', hd'⟩ := hit
  exact ⟨_, h', s.toks, o', rfl, rfl, .int, hs.extBut, ho', hc', hd'⟩
 done := fun H s i o S hI ho hob hn => by
  refine eEAA (qcn hn) fun kvs hd zz2 hv => ?_; subst zz2
  refine eEA (S.dict hd) fun rs hD hrs => ?_
  have hp : kvs[i]? = none := by rw [List.getElem?_map] at hv; exact Option.map_eq_none_iff.mp hv.symm
  exact wpAny_pyNext_dict_end (knd := intKind C.prog C.w) (kvs := rawOf kvs rs) hA (by refine rE (qaq hrs) ?_; exact ⟨o, ho, hob.1, hob.2⟩) hD (raw_none hrs hp) fun h' he => ⟨h', s.toks, rfl, rfl, he⟩
 own := fun target v s i _ o Q ho hob h => qa0 ho hob.1 (by decide) h
 self := fun s i _ o E Q ho hob h => wpAny_pyIter_keyiter (i := i) ⟨o, ho, hob.1, hob.2⟩ h
theorem seq_keys (B : Bs C.h₀ K mg mb) (hA : A.handled = none) (hd : H d = some (.dict kvs ep)) : SeqOf C A (.ref d) H (keysOf kvs) (fun H' => H' d = some (.dict kvs ep)) := by
 refine ⟨nxDict d keysOf ep kvs.length, fun s r S hr => ?_, fun H' i ok => ?_⟩
 ·refine rE hr.ref_inv ?_
  refine eEA (S.dict hd) fun rs hD hrs => ?_
  refine wpAny_pyIter_dict (knd := intKind C.prog C.w) (B.sysm S hd) hD ?_
  refine rE (qaq hrs) ?_
  exact ⟨s.heap.objs.size, _, _, s.toks, _, rfl, rfl, qae _ _, qbn, Heap.get?_push_size _ rfl, ⟨rfl, rfl⟩, prot_keys hA (Nat.ne_of_lt hD.lt_size)⟩
 ·unfold nxDict; refine rE ok ?_; simp
theorem prot_vals {I : Addr} {N : Nat} (hA : A.handled = none) (hne : d ≠ I) :
  Prot C A I (fun i _ o => o.cls = .type "dict_valueiterator" ∧ o.data = .fields #[.ref d, .int i 0, .int N 0, .int ep 0]) (nxDict d valsOf ep N) where
 plain := fun i _ o h e => qaj h.1 (by decide) (by intro vs x t e q; rw [h.2] at e; cases e; cases q) e
 nodict := fun i _ o es ep h e => by rw [h.2] at e; cases e
 kept := fun _ _ _ _ _ h => h
 item := fun H s i o v S hI ho hob hn => by
  refine eEAA (qcn hn) fun kvs hd zz2 hv => ?_; subst zz2
  refine eEA (S.dict hd) fun rs hD hrs => ?_
  rw [List.getElem?_map] at hv
  refine eEA (Option.map_eq_some_iff.mp hv.symm) fun p hp zz2 => ?_; subst zz2
  refine eEA (raw_get hrs hp) fun r hr hvr => ?_
  refine wpAny_pyNext_values_item (knd := intKind C.prog C.w) (kvs := rawOf kvs rs) (by refine rE (qaq hrs) ?_; exact ⟨o, ho, hob.1, hob.2⟩) hD hr fun h' hit hs => ?_
  rw [qaq hrs] at hit
  obtain ⟨o', ho', hc', hd'⟩ := hit
  exact ⟨_, h', s.toks, o', rfl, rfl, hvr.keep (qat ho (fun e => qaj hob.1 (by decide) (by intro vs x t e q; rw [hob.2] at e; cases e; cases q) e) hs.extBut), hs.extBut, ho', hc', hd'⟩
 done := fun H s i o S hI ho hob hn => by
  refine eEAA (qcn hn) fun kvs hd zz2 hv => ?_; subst zz2
  refine eEA (S.dict hd) fun rs hD hrs => ?_
  have hp : kvs[i]? = none := by rw [List.getElem?_map] at hv; exact Option.map_eq_none_iff.mp hv.symm
  exact wpAny_pyNext_values_end (knd := intKind C.prog C.w) (kvs := rawOf kvs rs) hA (by refine rE (qaq hrs) ?_; exact ⟨o, ho, hob.1, hob.2⟩) hD (raw_none hrs hp) fun h' he => ⟨h', s.toks, rfl, rfl, he⟩
 own := fun target v s i _ o Q ho hob h => qa0 ho hob.1 (by decide) h
 self := fun s i _ o E Q ho hob h => wpAny_pyIter_valiter (i := i) ⟨o, ho, hob.1, hob.2⟩ h
noncomputable abbrev dvObj (d : Addr) : Obj := { cls := .type "dict_values", data := .fields #[.ref d] }
theorem Imm.dv : Imm (dvObj d) := ⟨rfl, .inl ⟨"dict_values", by decide, rfl⟩, (by intro _ _ e; cases e), (by intro _ e; cases e), (by intro _ _ _ e; cases e)⟩
theorem CV_values (B : Bs C.h₀ K mg mb) (hd : H d = some (.dict kvs ep)) (h : Q (.imm (dvObj d)) m H) : CV C A (.con (.builtin "dict.values")) [.ref d] [] m H Q := fun s rf rs rkw S hf hva hk => by
 have := hk.nil_inv; subst this
 refine rE hf.con_inv ?_
 refine eEA (qax hva) fun a zz1 ha => ?_; subst zz1
 refine rE ha.ref_inv ?_
 refine eEA (S.toHS.dict hd) fun rs hD hrs => ?_
 exact call_meetsIn F.slot_dict_values hD.dictOf.typeIs F.entry_dict_values (F.args_dict_values_1 _) (meets_dict_values (intKind C.prog C.w) d (B.sysm S.toHS hd)) ⟨⟨_, hD.dictOf⟩, _, m, H, .imm .dv (Heap.get?_push_size _ rfl), S.more (tk := s.toks) (qae _ _), .more (tk := s.toks) (qae _ _), h⟩
theorem seq_vals (hA : A.handled = none) (hd : H d = some (.dict kvs ep)) : SeqOf C A (.imm (dvObj d)) H (valsOf kvs) (fun H' => H' d = some (.dict kvs ep)) := by
 refine ⟨nxDict d valsOf ep kvs.length, fun s r S hr => ?_, fun H' i ok => ?_⟩
 ·obtain ⟨_, v, rfl, hv⟩ := hr.imm_inv
  refine eEA (S.dict hd) fun rs hD hrs => ?_
  refine wpAny_pyIter_values (knd := intKind C.prog C.w) ⟨_, hv, rfl, rfl⟩ hD ?_
  refine rE (qaq hrs) ?_
  exact ⟨s.heap.objs.size, _, _, s.toks, _, rfl, rfl, qae _ _, qbn, Heap.get?_push_size _ rfl, ⟨rfl, rfl⟩, prot_vals hA (Nat.ne_of_lt hD.lt_size)⟩
 ·unfold nxDict; refine rE ok ?_; simp
end
end
end Mine
end
section
open PySem PySem.Calls PySem.W PyProof.Rows
set_option maxRecDepth 100000
namespace Mine
noncomputable section
section
variable {C : Cx} {A : Around} {m : Loc} {H : CH} {s : Shared} {K : Frag} {mg mb : Str → Option Value} {Q : V → Loc → CH → Prop}
theorem After.hid2 {H' : CH} {s' : Shared} (a : After C H s H' s') {I : Addr} (hI : H I ≠ none) {h' : Heap} {tk : Nat} (hs : Heap.ExtBut I s'.heap h') {o : Obj} (ho : h'.get? I = some o) : After C H s H' { s' with heap := h', toks := tk } where
 stay := fun b o hb hn e => let ⟨o', e', k⟩ := a.stay b o hb hn e; ⟨o', hs b o' (fun q => by subst q; exact hI hn) e', k⟩
 grow := a.grow
 there := fun b o' e => by
  refine eE (a.there b o' e) fun o₁ e₁ => ?_
  by_cases q : b = I
  ·subst q; exact ⟨o, ho⟩
  ·exact ⟨o₁, hs b o₁ q e₁⟩
 drawn := a.drawn
 os := a.os
theorem pyNext_end {E : Value → Shared → Prop} {I l : Addr} {i : Nat} {items : Array Value} {Q : Option Value → Shared → Prop} (hA : A.handled = none) (hit : s.heap.IsListIter I l i) (hl : s.heap.IsList l items) (hx : items[i]? = none)
  (hQ : ∀ h' o', Heap.ExtBut I s.heap h' → h'.get? I = some o' → Q none { s with heap := h' }) : wpAny (model C.prog C.w) A (pyNext (.ref I)) Q E s := by
 obtain ⟨o, ho, hc, hd⟩ := id hit
 obtain ⟨ol, hol, _, nl, hdl⟩ := hl
 unfold pyNext
 refine wpAny_bind (wpAny_attempt (wpAny_callSpecial?_slot (name := Str.ofString "__next__") hit.typeIs slot_listiter_next (wpAny_call_entry slot_listiter_next hit.typeIs entry_listiter_next ?_ (args_listiter_next _))))
 show wpAny _ _ (field (.ref I) 0 >>= _) _ _ s
 refine wpAny_bind (wpAny_field ho hd (x := .ref l) rfl ?_)
 show wpAny _ _ (if (Value.ref l == Value.none) = true then _ else _) _ _ s
 refine rE (if_neg (show ¬ ((Value.ref l == Value.none) = true) from Bool.false_ne_true)) ?_
 show wpAny _ _ (field (.ref I) 1 >>= _) _ _ s
 refine wpAny_bind (wpAny_field ho hd (x := .int i 0) rfl ?_)
 show wpAny _ _ (seqItems? (.ref l) >>= _) _ _ s
 refine wpAny_bind (wpAny_seqItems hol hdl ?_)
 simp only [Int.toNat_natCast, hx]
 refine wpAny_bind (wpAny_rule (wpAny_bind (wpAny_setField ho hd (by exact PySem.size_pos_of_not_empty rfl) ?_)))
 show wpAny _ _ (newExc (.type "StopIteration") [] >>= _) _ _ _
 refine wpAny_bind ?_
 simp only [newExc, newTuple]
 refine wpAny_bind (wpAny_newObj_type ?_ (by size_fits))
 refine wpAny_bind (m := firstArgMember _ _) (wpAny_of_eq (a := Value.none) (by first | rfl | (simp only [firstArgMember]; rfl)) ?_)
 refine wpAny_newObj_type ?_ (by size_fits)
 unfold raiseNew
 refine wpAny_bind (wpAny_handled ?_)
 refine rE (show A.in1.handled = none from hA) ?_
 refine wpAny_bind (wpAny_pure (wpAny_throw ?_))
 refine wpAny_bind (wpAny_isInstance (T := "StopIteration") (b := true) ⟨_, Heap.get?_push_size _ rfl, rfl⟩ isSubtype_stop ?_)
 have ho2 := Heap.get?_update_self (Obj.mapFields (·.setIfInBounds 0 .none)) ho (Obj.isFreed_of_fields (Obj.data_mapFields hd _))
 exact wpAny_pure (hQ _ _ (((Heap.SameBut.update ..).extBut.push _).push _) (Heap.get?_push_of_some _ (Heap.get?_push_of_some _ ho2)))
theorem ES_for_own {target : PySem.Expr} {x : Str} {px : Pos} {body orelse : List Stmt} {p : Pos} {Q : Fl → Loc → CH → Prop} {I : Addr} {c : CObj} {ob : Nat → Heap → Obj → Prop} {nx : CH → Nat → Option (Option V)} {i₀ N : Nat} (P : Prot C A I ob nx)
  (done : ∀ H s i o, HS C H s → H I = none → s.heap.get? I = some o → ob i s.heap o → nx H i = some none → wpAny (model C.prog C.w) A (pyNext (.ref I)) (fun r s' => DoneR I s r s' ∧ ∃ o', s'.heap.get? I = some o') NoE s)
  (hm : m.lookup x = some (.ref I)) (hI : H I = some c) (hob : ∀ s, HS C H s → ∃ o, s.heap.get? I = some o ∧ ob i₀ s.heap o) (m₂ : Loc) (J : Nat → Loc → CH → Prop) (hsub : Sub m₂ m) (h0 : J i₀ m₂ (H.del I))
  (turn : ∀ i m H, J i m H → i ≤ N ∧ ((∃ v, nx H i = some (some v) ∧ ASG C A target v m H fun m' H' => EX C A body m' H' (Turn Q (NextJ J (i + 1)))) ∨ (nx H i = some none ∧ EX C A orelse m H Q)))
  (hs : autoParam (∀ y, foldedSetIterable (.Name x px) C.env y = pure y) Mine.syn2)
  (hk : autoParam (C.env.scope.kind = .function) Mine.syn1) (hl : autoParam (C.env.kindOf x = some .local) Mine.syn1) (hd : autoParam ((x == ("__debug__" : Str)) = false) Mine.syn4) : ES C A (.For target (.Name x px) body orelse p) m H Q := fun s S => by
 refine eEA (hob s S.toHS) fun o0 ho0 hb0 => ?_
 have hIb := (S.own I _ hI).1
 have hIl : I ≠ C.env.locals := ne_at hI S.loc
 refine eEEAA (S.known hm) fun mr r hn hr hv => ?_
 obtain rfl := hv.ref_inv
 refine wpAny_For (wpAny_Name (wpAny_loadName_local hk hl hn hr ?_) hd) hs
 refine P.self s i₀ s.heap _ _ _ ho0 hb0 ?_
 have hIne : H I ≠ none := by refine rE hI ?_; simp
 refine for_core P hIl hIb (fun a he ho => a.hid2 hIne he ho) (fun m' H' s' i o S' a hI ho hob hn => wpAny_mono (done H' s' i o S'.toHS hI ho hob hn) ?_ fun _ _ x => x) turn (fun _ _ x => x) (k := N + 1 - i₀)
  ⟨i₀, m₂, H.del I, o0, rfl, (S.less CH.del_le).sub hsub, ⟨fun b o _ _ e => ⟨o, e, .refl o⟩, fun b o hn _ => CH.del_le.absent hn, fun b o e => ⟨o, e⟩, rfl, rfl⟩, CH.del_same, ho0, hb0, h0⟩
 rintro r s'' ⟨⟨h4, tk4, rfl, rfl, he⟩, o', ho'⟩
 exact ⟨⟨h4, tk4, rfl, rfl, he⟩, a.hid2 hIne he ho'⟩
theorem O2_is_mark {v : V} {y : Addr} {oy : Obj} (hy : C.h₀.get? y = some oy) (hc : oy.cls ≠ .type "tuple") (hv : (∃ i, v = .int i) ∨ v = V.none ∨ (∃ a c, v = .ref a ∧ H a = some c) ∨ ∃ l, v = .tup l) (h : Q (.bool false) m H) : O2 C A (compareOp .Is) v (.con (.ref y)) m H Q := fun s r q S hr hq => by
 refine rE hq.con_inv ?_
 have key : ∀ a o, a ≠ y → s.heap.get? a = some o → wpAny (model C.prog C.w) A (compareOp .Is (.ref a) (.ref y)) (PV C H s Q) NoE s := fun a o hne ho => by
  show wpAny _ A (do return Value.bool (← isSame (.ref a) (.ref y))) _ _ s
  exact wpAny_bind (SeqAt.wpAny_isSame_ref_other' hne ho (S.base _ _ hy) hc (wpAny_pure (.here S .con h)))
 rcases hv with ⟨i, rfl⟩ | rfl | ⟨a, c, rfl, ha⟩ | ⟨l, rfl⟩
 ·refine eE hr.int_inv fun t zz1 => ?_; subst zz1
  exact wpAny_is_other rfl (by intro e; cases e) (.here S .con h)
 ·refine rE hr.con_inv ?_
  exact wpAny_is_other rfl (by intro e; cases e) (.here S .con h)
 ·refine rE hr.ref_inv ?_
  obtain ⟨hb, o, ho, _⟩ := S.own a c ha
  exact key a o (fun e => by rw [e, hy] at hb; cases hb) ho
 ·obtain ⟨a, items, n, rfl, ho, _⟩ := hr.tup_inv
  exact key a _ (fun e => by have := S.base _ _ hy; rw [← e, ho] at this; cases this; exact hc rfl) ho
theorem EV_or {x y : PySem.Expr} {p : Pos} (h : EV C A x m H fun v m₁ H₁ => OB C A truthy v m₁ H₁ fun b m₂ H₂ => (b = true → Q v m₂ H₂) ∧ (b = false → EV C A y m₂ H₂ Q)) : EV C A (.BoolOp .Or [x, y] p) m H Q := fun s S => by
 refine BoolOp_or (wpAny_mono (h s S) ?_ fun _ _ x => x)
 rintro r s₁ ⟨v, m₁, H₁, hv, S₁, af₁, h₁⟩
 refine wpAny_mono (h₁ s₁ r S₁ hv) ?_ fun _ _ x => x
 rintro b s₂ ⟨m₂, H₂, S₂, af₂, h₂⟩
 cases b with
 | true => exact ⟨v, m₂, H₂, hv.keep (af₂.tup S₁), S₂, af₁.then S₁ af₂, h₂.1 rfl⟩
 | false => exact BoolOp_one (wpAny_mono (h₂.2 rfl s₂ S₂) (fun _ _ x => x.mono S₂ (af₁.then S₁ af₂)) fun _ _ x => x)
theorem OB_none {Q : Bool → Loc → CH → Prop} (h : Q false m H) : OB C A truthy V.none m H Q := fun s r S hr => by
 refine rE hr.con_inv ?_; exact wpAny_pure (.here S h)
theorem qct (l : Addr) (items : Array Value) (n : Nat) (hz : items.size ≤ sizeLine) : Meets (Builtin.«bool.__new__» ⟨[.type "bool", .ref l], []⟩) (fun _ R s => IsL s.heap l items n ∧ ∀ tk, R (.ok (.ret (.bool (!items.isEmpty)))) { s with toks := tk }) :=
 Meets.of_wp fun prog w A R s hs => by
  obtain ⟨hp, g, d, tk, os⟩ := s
  have f1 := F.conv_sub_bool
  have hb : (items.size : Int) < 2 ^ 63 := by unfold sizeLine at hz; lia
  have ht : ∀ {A' : Around} {E' : Value → Shared → Prop} {tk' : Nat} {Q' : Bool → Shared → Prop}, Q' (!items.isEmpty) ⟨hp, g, d, tk' + 1 + 1, os⟩ → wpAny (model prog w) A' (truthy (.ref l)) Q' E' ⟨hp, g, d, tk', os⟩ := fun {_ _ _ _} q => wpAny_truthy_list (s := ⟨hp, g, d, _, os⟩) hs.1.isList hb q
  repeat (any_goals (first | assumption | with_reducible apply ht | wp_step))
  all_goals exact ⟨_, rfl, hs.2 _⟩
theorem CV_bool_list {l : Addr} {xs : List V} (hl : LAt C H l xs) (hsz : xs.length ≤ sizeLine) (h : Q (.bool (!xs.isEmpty)) m H) : CV C A (.con (.type "bool")) [.ref l] [] m H Q := fun s rf rs rkw S hf hva hk => by
 have := hk.nil_inv; subst this
 refine rE hf.con_inv ?_
 refine eEA (qax hva) fun x zz1 hx => ?_; subst zz1
 refine rE hx.ref_inv ?_
 obtain ⟨items, n, hL, hs, hz⟩ := S.toHS.list hl
 have he : items.isEmpty = xs.isEmpty := by
  cases xs with
  | nil => simp at hz; simp [hz]
  | cons => simp at hz; simp; intro e; simp [e] at hz
 refine call_bool_1 (qct l items n (by lia)) ⟨hL, fun tk => ⟨?_, ?_⟩⟩
 ·exact PySem.typeIs_bool _ _
 ·refine rE he ?_; exact .same S .con h _
theorem ES_assign2 {t u e : PySem.Expr} {p : Pos} {Q : Fl → Loc → CH → Prop} (h : EV C A e m H fun v m₁ H₁ => ASG C A t v m₁ H₁ fun m₂ H₂ => ASG C A u v m₂ H₂ (Q .next))
  (hs : autoParam (swapsWithSole [t, u] e p.line C.env = pure false) Mine.syn1) (hw : autoParam (swappedStores [t, u] e C.env = pure none) Mine.syn1) (ht : autoParam ((assignEach [t, u] C.env).map (·.2) = [assign t C.env, assign u C.env]) Mine.syn1) : ES C A (.Assign [t, u] e p) m H Q := fun s S => by
 refine wpAny_Assign_stores (wpAny_mono (h s S) ?_ fun _ _ x => x) hs hw
 rintro a s₁ ⟨v, m₁, H₁, ra, S₁, af₁, h₁⟩
 refine rE ht ?_
 refine wpAny_bind (wpAny_holding (wpAny_mono (h₁ s₁ a S₁ ra) ?_ fun _ _ x => x))
 rintro _ s₂ ⟨m₂, H₂, S₂, af₂, h₂⟩
 refine wpAny_mono (h₂ s₂ a S₂ (ra.keep (af₂.tup S₁))) ?_ fun _ _ x => x
 rintro _ s₃ ⟨m₃, H₃, S₃, af₃, h₃⟩
 exact ⟨.next, m₃, H₃, rfl, S₃, (af₁.then S₁ af₂).then S₂ af₃, h₃⟩
end
end
end Mine
end
section
open PySem PySem.Calls PySem.W PyProof.Rows
set_option maxRecDepth 100000
namespace Mine
noncomputable section
section
variable {C : Cx} {A : Around} {m : Loc} {H : CH}
theorem ASGs_cons {t : PySem.Expr} {ts : List PySem.Expr} {v : V} {vs : List V} {Q : Loc → CH → Prop} (h : ASG C A t v m H fun m₁ H₁ => ASGs C A ts vs m₁ H₁ Q) : ASGs C A (t :: ts) (v :: vs) m H Q := h
theorem ASGs_nil {Q : Loc → CH → Prop} (h : Q m H) : ASGs C A [] [] m H Q := h
theorem ETs_nil {Q : Bool → Loc → CH → Prop} (h : Q true m H) : ETs C A [] m H Q := h
theorem ETs_cons {c : PySem.Expr} {cs : List PySem.Expr} {Q : Bool → Loc → CH → Prop} (h : EB C A c m H fun b m₁ H₁ => (b = true → ETs C A cs m₁ H₁ Q) ∧ (b = false → Q false m₁ H₁)) : ETs C A (c :: cs) m H Q := h
end
end
end Mine
end
section
open PySem PySem.Calls PySem.W PyProof.Rows
set_option maxRecDepth 100000
namespace Mine
noncomputable section
section
variable {C : Cx} {A : Around} {m : Loc} {H : CH} {s : Shared} {Q : V → Loc → CH → Prop}
end
end
end Mine
end
section
open PySem PySem.Calls PySem.W PyProof.Rows
set_option maxRecDepth 100000
namespace Mine
noncomputable section
noncomputable def cut (h : Heap) (ts : List Addr) : Heap := { h with objs := h.objs.mapIdx fun i o => if i ∈ ts then { o with data := .freed } else o }
theorem cut_get {h : Heap} {ts : List Addr} {b : Addr} : (cut h ts).get? b = if b ∈ ts then none else h.get? b := by
 unfold cut Heap.get?
 simp only [Array.getElem?_mapIdx]
 cases e : h.objs[b]? with
 | none => simp
 | some o =>
  simp only [Option.map_some]
  by_cases q : b ∈ ts
  ·refine rE (if_pos q) (rE (if_pos q) rfl)
  ·refine rE (if_neg q) (rE (if_neg q) rfl)
theorem ns_cut {h : Heap} {ts : List Addr} {a : Addr} {m : Str → Option Value} (N : h.Ns a m) (ha : a ∉ ts) : (cut h ts).Ns a m :=
 let ⟨o, es, ep, e, r⟩ := N; ⟨o, es, ep, by refine rE cut_get (rE (if_neg ha) ?_); exact e, r⟩
noncomputable def tabsH (qs : List (Addr × List ((Nat × Nat) × Str))) : CH := fun a => (qs.lookup a).map CObj.tab
theorem tabsH_mem {qs : List (Addr × List ((Nat × Nat) × Str))} {a : Addr} {c : CObj} (h : tabsH qs a = some c) : a ∈ qs.map (·.1) ∧ ∃ q, c = .tab q := by
 unfold tabsH at h
 refine eEA (Option.map_eq_some_iff.mp h) fun q h1 zz2 => ?_; subst zz2
 refine eEEA (List.lookup_eq_some_iff.mp h1) fun l1 l2 e _ => ?_
 exact ⟨by refine rE e ?_; simp, q, rfl⟩
section
variable {prog : Program} {w : World} {c : ClaimW} {cl : Str → Option Addr} {mean : ExcName → Option Value} {args : List WData} {s₁ : Shared} {K : Frag} {mg mb : Str → Option Value} {fa l : Addr} {ns : List Int} {E : Value → Shared → Prop}
theorem well_ints {P : Params} {h : Heap} : ∀ {ns : List Int} {vs : List Value}, WellAll P h vs (ns.map .int) → VRs h (ns.map .int) vs
 | [], vs, W => by cases W; exact .nil
 | n :: ns, vs, W => by
  cases W with
  | cons a b => cases a; exact .cons .int (well_ints b)
theorem VRs.ints_any {h h' : Heap} : ∀ {ns : List Int} {vs : List Value}, VRs h (ns.map .int) vs → VRs h' (ns.map .int) vs
 | [], vs, r => by have := r.nil_inv; subst this; exact .nil
 | n :: ns, vs, r => by
  refine eEEAA r.cons_inv fun y ys zz2 a b => ?_; subst zz2
  refine eE a.int_inv fun t zz1 => ?_; subst zz1
  exact .cons .int (VRs.ints_any b)
theorem ofPys_ints : ∀ ns : List Int, ofPys (ns.map .int) = ns.map .int
 | [] => rfl
 | a :: r => by
  show ofPy (.int a) :: ofPys (r.map .int) = _
  refine rE (ofPys_ints r) ?_; rfl
theorem law_ends (qs : List (Addr × List ((Nat × Nat) × Str))) (X : K.In s₁.heap) (TT : ∀ P ∈ qs.map (·.1), s₁.heap.get? P = some (tabObj #[])) (hk : ∀ P ∈ qs.map (·.1), K.lookup P = none) (hct : ∀ P ∈ qs.map (·.1), isCodeTable s₁.heap P)
  (hlow : ∀ P ∈ qs.map (·.1), 3 < P) (lim : s₁.heap.NoLimit) (g : s₁.heap.Ns mainGlobals mg) (b : s₁.heap.Ns builtinsNs mb) (boot : ∀ x : Str, x ≠ "__name__" → mb x = bootBuiltins x) (sys : s₁.heap.NoSeer)
  (bm : ∃ bm ob, mg "__builtins__" = some (.ref bm) ∧ bm ≠ builtinsNs ∧ s₁.heap.get? bm = some ob ∧ ob.cls = .type "module" ∧ ob.dict = some builtinsNs ∧ ob.data = .plain)
  (hl : Well w.params s₁.heap (.ref l) (ofPy (.list (ns.map .int)))) (hgens : s₁.gens = #[]) (hr : ∀ cls, c.raises args cls = false) (hp : c.post args (.bool true) args = true)
  (h : ∀ (C : Cx) (items : Array Value), C.w = w → C.fr = [] → Bs C.h₀ K mg mb → (∀ n, n ≤ 100 → AOK C callerA n) → C.h₀.get? l = some (seqObj "list" items 0) → VRs C.h₀ (ns.map .int) items.toList → CALL C callerA (.con (.ref fa)) [.ref l] [] (tabsH qs) fun v H' => v = .bool true ∧ ∀ b, tabsH qs b ≠ none → H' b = tabsH qs b) :
  wpAny (model prog w) callerA (call (.ref fa) [.ref l]) (fun v s' => GoodWG c cl mean args s₁ (.ok (.ret v)) s') E s₁ := by
 have low : ∀ {a : Addr}, a ≤ 3 → a ∉ qs.map (·.1) := fun {a} ha hm => absurd (hlow a hm) (Nat.not_lt.mpr ha)
 have hout : ∀ {a : Addr} {o : Obj}, s₁.heap.get? a = some o → (∀ vs, o.data ≠ .fields vs) → a ∉ qs.map (·.1) := fun {a o} ho hd hm => by
  rw [TT a hm] at ho; cases ho; exact hd _ rfl
 have keep : ∀ {a : Addr} {o : Obj}, s₁.heap.get? a = some o → a ∉ qs.map (·.1) → (cut s₁.heap (qs.map (·.1))).get? a = some o := fun {a o} ho hm => by refine rE cut_get (rE (if_neg hm) ?_); exact ho
 have hlist : ∃ vs : List Value, s₁.heap.get? l = some (seqObj "list" vs.toArray 0) ∧ WellAll w.params s₁.heap vs (ns.map .int) := by
  have e : ofPy (.list (ns.map .int)) = .list (ns.map .int) := by
   simp only [ofPy]
   refine rE (ofPys_ints ..) rfl
  rw [e] at hl
  cases hl with
  | list a b => exact ⟨_, a, b⟩
 refine eEA hlist fun vs hl1 hl2 => ?_
 have hl3 := keep hl1 (hout hl1 (by intro _ e; cases e))
 refine eEA sys.mods fun mm hmm _ => ?_
 obtain ⟨om, _, _, hom, _⟩ := id hmm
 obtain ⟨bmA, ob, b1, b2, b3, b4, b5, b6⟩ := bm
 have B : Bs (cut s₁.heap (qs.map (·.1))) K mg mb := by
  refine ⟨fun a o e => ?_, ?_, ns_cut g (low (by decide)), ns_cut b (low (by decide)), boot, ⟨om, keep hom (low (by decide))⟩, bmA, ob, b1, b2, keep b3 (hout b3 (by intro vs e; rw [b6] at e; cases e)), b4, b5, b6⟩
  ·refine keep (X a o e) fun hm => ?_
   exact (no1 (hk a hm) e).elim
  ·obtain ⟨mc, h1, h2⟩ := lim
   exact ⟨mc, ns_cut h1 (low (by decide)), h2⟩
 have S : HS ⟨prog, w, cut s₁.heap (qs.map (·.1)), default, []⟩ (tabsH qs) s₁ := by
  refine ⟨fun b o e => ?_, fun a c e => ?_, hgens⟩
  ·have e : (cut s₁.heap (qs.map (·.1))).get? b = some o := e
   rw [cut_get] at e
   by_cases q : b ∈ qs.map (·.1)
   ·exact (no1 (if_pos q) e).elim
   ·rw [if_neg q] at e; exact e
  ·obtain ⟨hm, q, rfl⟩ := tabsH_mem e
   refine ⟨by show (cut _ _).get? a = none; refine rE cut_get (rE (if_pos hm) rfl), _, TT a hm, #[], rfl, trivial, fun pos cv e => ?_⟩
   simp [codeAmong] at e
 refine wpAny_call (codeAny_mono (h ⟨prog, w, cut s₁.heap (qs.map (·.1)), default, []⟩ vs.toArray rfl rfl B (fun n hn => ⟨rfl, ?_, ?_, rfl⟩) hl3 (by refine rE List.toList_toArray ?_; exact VRs.ints_any (well_ints hl2)) s₁ _ _ _ S (by intro e he; cases he) .con (.cons .ref .nil) .nil) ?_)
 ·show 1 + claimMargin + n < recursionLimit
  have : 1 + claimMargin + 100 < recursionLimit := by decide
  lia
 ·show 4 + 4 * n + 40 < cLine
  have : 4 + 4 * 100 + 40 < cLine := by decide
  lia
 rintro r s' x
 cases r with
 | error e => exact x.elim
 | ok f =>
  cases f with
  | ret rv =>
   obtain ⟨v, H', hv, S', af, rfl, hkeep⟩ := x
   obtain rfl := hv.con_inv
   refine ⟨.inl ⟨.bool true, .bool true, [], rfl, hr, .bool true, hp, fun _ => ⟨.nil, fun a ha => by cases ha⟩⟩, ⟨fun b o e => ?_, fun b o e => af.there b o e⟩, af.os, fun y hy => by rw [S'.gens] at hy; simp at hy⟩
   by_cases q : b ∈ qs.map (·.1)
   ·refine .inr (.inl ⟨hct b q, ?_⟩)
    rw [TT b q] at e; cases e
    have hq : ∃ q, tabsH qs b = some (.tab q) := by
     refine eEA (List.mem_map.mp q) fun y hy zz2 => ?_; subst zz2
     unfold tabsH
     cases e : qs.lookup y.1 with
     | none => exact absurd (List.lookup_eq_none_iff.mp e y hy) (by simp)
     | some z => exact ⟨z, rfl⟩
    refine eE hq fun q' hq' => ?_
    have h2 := hkeep b (by refine rE hq' ?_; simp)
    rw [hq'] at h2
    obtain ⟨_, o, ho, ps, rfl, _⟩ := S'.own b _ h2
    exact ⟨rfl, #[], ps, rfl, by refine rE Array.empty_append ?_; exact ho⟩
   ·exact .inl (S'.base b o (keep e q))
  | next => exact x.elim
  | brk => exact x.elim
  | cont => exact x.elim
end
end
end Mine
end
section
open PySem PySem.W PyProof.Rows
set_option maxRecDepth 100000
set_option maxHeartbeats 0
namespace Mine
theorem left_of_run {p q : Program} {loose : List Str} {Xt : Shared → Bool} {α : Type} {Yf : Shared → α} {Ya : World → α} {N : Nat} {g0 : Bool} {H₀ : Params → Heap} {gs₀ : Array GenState} {d₀ : Drawn} {k₀ : Nat} {m₀ : Nat} {ann : Option Value}
  (open_ : ∀ w : World, (fencedOpening treeTable p w N).map (fun s => (s.heap, s.gens, s.drawn, s.toks)) = some (H₀ w.params, gs₀, d₀, k₀))
  (size : ∀ w : World, ((H₀ w.params).isNs mainGlobals && gs₀.size == 0, (H₀ w.params).objs.size, (H₀ w.params).nsMap mainGlobals "__annotations__") = (true, m₀, ann))
  (run : ∀ (w : World) (os : OsState), (topRun treeTable p w m₀ ann N ⟨H₀ w.params, gs₀, d₀, k₀, os⟩ (topStub p)).map (fun s₁ => (staticsOk (importedModules p.main.body) (H₀ w.params) s₁.heap && namesBound p s₁.heap && gensDone s₁ && laidKept (H₀ w.params) s₁.heap,
    openSeen q loose (importedModules p.main.body) Xt g0 s₁, Yf s₁)) = some (true, openGood q loose, Ya w)) : LeftO p q loose Xt Yf Ya N g0 := fun w => by
 refine eEA (Option.map_eq_some_iff.mp (open_ w)) fun zz0 e e' => ?_; obtain ⟨h, gs, d, k, os⟩ := zz0
 obtain ⟨rfl, rfl, rfl, rfl⟩ : h = H₀ w.params ∧ gs = gs₀ ∧ d = d₀ ∧ k = k₀ := by simpa using e'
 obtain ⟨z1, z2, z3⟩ : _ ∧ _ ∧ _ := by simpa only [Prod.mk.injEq] using size w
 refine eEA (Option.map_eq_some_iff.mp (run w os)) fun s₁ r l => ?_
 obtain ⟨l1, l2, l3⟩ : _ ∧ _ ∧ _ := by simpa only [Prod.mk.injEq] using l
 have t : topFrom treeTable p w N ⟨H₀ w.params, gs, d, k, os⟩ = some s₁ := by
  unfold topFrom
  dsimp only
  refine rE z1 (rE z2 (rE z3 (rE r ?_)))
  show (match staticsOk (importedModules p.main.body) (H₀ w.params) s₁.heap && namesBound p s₁.heap && gensDone s₁ && laidKept (H₀ w.params) s₁.heap with | true => _ | false => _) = _
  refine rE l1 rfl
 unfold openEnds
 refine rE e ?_
 show (topFrom treeTable p w N _).map _ = _
 refine rE t ?_
 exact congrArg some (Prod.ext l2 l3)
theorem boot_size : ∀ w : World, ((boot_heap w.params).isNs mainGlobals && (Array.mk [] : Array GenState).size == 0, (boot_heap w.params).objs.size, (boot_heap w.params).nsMap mainGlobals "__annotations__") = (true, 11, some (.ref 6)) := by
 intro w; kernel_rfl
noncomputable abbrev pw : Program := PySem.Challenge.pw_dn0048_12
noncomputable def view : Program := { pw with main := { pw.main with body := pw.main.body.drop 18 } }
noncomputable abbrev looseN : List Str := ["_wall", "insort_right", "bisect_right", "insort_left", "bisect_left", "_initial_missing", "reduce", "_NODE_OUT", "_NODE_DONE", "_NodeInfo", "CycleError", "TopologicalSorter", "_law_join", "_law_tables"].map Str.ofString
theorem booted : ∀ w : World, (fencedOpening treeTable pw w 2880).map (fun s => (s.heap, s.gens, s.drawn, s.toks)) = some (boot_heap w.params, Array.mk [], boot_drawn, boot_toks) :=
 boot_open (p := pw) (N := 2880) (by kernel_rfl) (by decide) (by intro s; kernel_rfl)
theorem said_ : PySem.Challenge.rw_dn0048_12.wellSaid = true := (congrFun PySem.W.Fast.te9446332074065402090 _).trans (by kernel_rfl)
noncomputable abbrev xt : Shared → Bool := fun s => xlAt view [] s && recOk (RowW.records (OpenRow.toRowW PySem.Challenge.rw_dn0048_12.row)) s
noncomputable abbrev xp := XL view []
noncomputable def kx := fun (s : Shared) (e : xt s = true) => xl_of s (Bool.and_eq_true_iff.mp e).1
noncomputable def kr := fun (s : Shared) (e : xt s = true) => recFacts_of (Bool.and_eq_true_iff.mp e).2
noncomputable def ks := PySem.W.row_said said_
theorem head_and {r : OpenRow} {L W : Prop} (h : L → W → r.Holds) (x : L ∧ W) : r.Holds := h x.1 x.2
local macro_rules
 | `(tactic| o_law) => `(tactic| refine holds_law Mine.said_ fun said => ?_)
theorem my_head (H : Hook) {d : DefRec} {kwd : List (Str × PySem.Expr)} (hdef : defOf view PySem.Challenge.rw_dn0048_12.row.name = some (d, kwd)) (hp : PySem.Challenge.rw_dn0048_12.row.prog.theDef PySem.Challenge.rw_dn0048_12.row.name = some (d.params, d.body, d.scope)) (hk : kwWritten? d.params.kwonlyargs d.params.kw_defaults = some kwd) (hw : PySem.Challenge.rw_dn0048_12.row.toRowW.promised)
  (x : LeftO PySem.Challenge.rw_dn0048_12.row.prog view looseN xt H.obs H.val 2880 ∧ WalkO view looseN xp H.says PySem.Challenge.rw_dn0048_12.row.toRowW d kwd fun f vs => PySem.call f vs) : PySem.Challenge.rw_dn0048_12.row.Holds :=
 holds_open (q := view) (loose := looseN) (Xt := xt) (XP := xp) (Yf := H.obs) (Ya := H.val) (YP := H.says) (N := 2880) x.1 H.of H.keeps kx XL.keeps hdef hp hk kr (by rfl) ks (by decide +kernel) ⟨rfl, rfl, rfl, rfl, rfl, by decide +kernel⟩ hw x.2
local macro_rules
 | `(tactic| o_head $H) => do
  let hw := Lean.mkIdent `hw
  let hc := Lean.mkIdent `hc
  `(tactic| refine Mine.my_head $H (by rfl) (by rfl) (by rfl) ?$hw:ident ?$hc:ident)
open_top hd12 for PySem.Challenge.rw_dn0048_12
end Mine
end
section
open PySem PySem.Calls PySem.W PyProof.Rows
set_option maxRecDepth 100000
namespace Mine
noncomputable section
section
variable {C : Cx} {A : Around} {m : Loc} {H : CH} {s : Shared} {K : Frag} {mg mb : Str → Option Value} {Q : V → Loc → CH → Prop} {cls : String} {R : Loc → CH → Prop}
end
end
end Mine
end
section
open PySem PySem.Calls PySem.W PyProof.Rows
set_option maxRecDepth 100000
namespace Mine
noncomputable section
section
variable {C : Cx} {A : Around} {m : Loc} {H : CH} {s : Shared} {K : Frag} {mg mb : Str → Option Value} {Q : V → Loc → CH → Prop}
noncomputable def pickL {α : Type} (xs : List α) (lo hi st : Option Int) : List α := (sliceRange (sliceBounds lo hi st xs.length).1 (sliceBounds lo hi st xs.length).2.1 (sliceBounds lo hi st xs.length).2.2).filterMap (xs[·]?)
theorem VRs.at_iff {h : Heap} {xs : List V} {rs : List Value} (r : VRs h xs rs) (i : Nat) : (xs[i]? = none ∧ rs[i]? = none) ∨ ∃ x y, xs[i]? = some x ∧ rs[i]? = some y ∧ VR h x y := by
 cases e : xs[i]? with
 | none =>
  left
  have := List.getElem?_eq_none_iff.mp e
  exact ⟨rfl, List.getElem?_eq_none (by have := r.length; lia)⟩
 | some x => refine eEA (r.get e) fun y h1 h2 => ?_; exact .inr ⟨x, y, rfl, h1, h2⟩
theorem VRs.of_get {h : Heap} : ∀ {xs : List V} {rs : List Value}, xs.length = rs.length → (∀ (j : Nat) (x : V), xs[j]? = some x → ∃ y, rs[j]? = some y ∧ VR h x y) → VRs h xs rs
 | [], [], _, _ => .nil
 | x :: xs, y :: ys, hl, hg => by
  refine eEA (hg 0 x rfl) fun y' h1 h2 => ?_
  cases h1
  exact .cons h2 (VRs.of_get (by exact Nat.add_right_cancel hl) fun j x hx => hg (j + 1) x hx)
 | [], _ :: _, hl, _ => by simp at hl
 | _ :: _, [], hl, _ => by simp at hl
theorem VRs.picks {h : Heap} {xs : List V} {rs : List Value} (r : VRs h xs rs) : ∀ idx : List Nat, VRs h (idx.filterMap (xs[·]?)) (idx.filterMap (rs[·]?))
 | [] => .nil
 | i :: idx => by
  rcases r.at_iff i with ⟨h1, h2⟩ | ⟨x, y, h1, h2, h3⟩
  ·refine rE (List.filterMap_cons_none h1) (rE (List.filterMap_cons_none h2) ?_); exact r.picks idx
  ·refine rE (List.filterMap_cons_some h1) (rE (List.filterMap_cons_some h2) ?_); exact .cons h3 (r.picks idx)
theorem VRs.pick {h : Heap} {xs : List V} {items : Array Value} (r : VRs h xs items.toList) (hz : items.size = xs.length) (lo hi st : Option Int) : VRs h (pickL xs lo hi st) (slicePick items lo hi st).toList := by
 unfold pickL slicePick
 refine rE hz ?_
 have := r.picks (sliceRange (sliceBounds lo hi st xs.length).1 (sliceBounds lo hi st xs.length).2.1 (sliceBounds lo hi st xs.length).2.2)
 simpa using this
theorem pickL_map {α β : Type} (f : α → β) (xs : List α) (lo hi st : Option Int) : pickL (xs.map f) lo hi st = (pickL xs lo hi st).map f := by
 unfold pickL
 refine rE (List.length_map ..) (rE List.map_filterMap ?_)
 congr 1
 funext i
 refine rE List.getElem?_map rfl
theorem pickL_len {α : Type} (xs : List α) (lo hi st : Option Int) : (pickL xs lo hi st).length ≤ xs.length := by
 have h1 := slicePick_size_le (xs.map fun _ => Value.none).toArray lo hi st
 have h2 : (slicePick (xs.map fun _ => Value.none).toArray lo hi st).toList = pickL (xs.map fun _ => Value.none) lo hi st := by
  unfold slicePick pickL
  simp
 have h3 : (slicePick (xs.map fun _ => Value.none).toArray lo hi st).size = (pickL xs lo hi st).length := by
  refine rF Array.length_toList (rE h2 (rE (pickL_map ..) (rE (List.length_map ..) rfl)))
 rw [h3] at h1
 simpa using h1
theorem slice_end {l : Addr} {xs : List V} {vl vu vs : Value} {lo hi st : Option Int} (S : St C m H s) (hl : LAt C H l xs) (hsz : xs.length ≤ sizeLine) (pl : IsPart vl lo) (pu : IsPart vu hi) (ps : IsPart vs st) (h0 : st ≠ some 0)
  (h : ∀ a, H a = none → Q (.ref a) m (H.set a (.list (pickL xs lo hi st)))) :
  wpAny (model C.prog C.w) A (getItem (.ref l) (.ref s.heap.objs.size)) (PV C H s Q) NoE { s with heap := s.heap.push { cls := .type "slice", data := .fields #[vl, vu, vs] } } := by
 obtain ⟨items, n, hI, hvs, hz⟩ := S.toHS.list hl
 refine wpAny_getItem_list_slice (hI.isList.push _) (Heap.IsSliceOf.new ..) pl pu ps h0 ?_ (by refine rE hz ?_; exact hsz)
 have S1 : St C m H { s with heap := s.heap.push { cls := .type "slice", data := .fields #[vl, vu, vs] } } := S.more (tk := s.toks) (qae _ _)
 have k1 := qae s.heap { cls := .type "slice", data := .fields #[vl, vu, vs] }
 exact ⟨_, m, _, .ref, S1.alloc (tk := s.toks) (c := .list (pickL xs lo hi st)) ⟨_, 0, rfl, (hvs.pick hz lo hi st).keep (.of_keep k1)⟩, (After.more (tk := s.toks) k1).then S1 (.alloc (tk := s.toks)), h _ S1.toHS.fresh⟩
theorem EV_slice {value lower : PySem.Expr} {p pos : Pos} (h : EV C A value m H fun o m₁ H₁ => EV C A lower m₁ H₁ fun i m₂ H₂ => ∃ l xs k, o = .ref l ∧ i = .int k ∧ LAt C H₂ l xs ∧ xs.length ≤ sizeLine ∧ ∀ a, H₂ a = none → Q (.ref a) m₂ (H₂.set a (.list (pickL xs (some k) none none)))) : EV C A (.Subscript value (.Slice (some lower) none none p) pos) m H Q := fun s S => by
 refine Subscript_ (wpAny_mono (h s S) ?_ fun _ _ x => x)
 rintro a s₁ ⟨v, m₁, H₁, ra, S₁, af₁, h₁⟩
 refine wpAny_Slice (wpAny_mono (h₁ s₁ S₁) ?_ fun _ _ x => x)
 rintro b s₂ ⟨i, m₂, H₂, rb, S₂, af₂, l, xs, k, rfl, rfl, hl, hsz, hq⟩
 refine rE (evalPart_none ..) ?_
 refine wpAny_pure (wpAny_pure ?_)
 refine rE ra.ref_inv ?_
 refine eE rb.int_inv fun t zz1 => ?_; subst zz1
 obtain ⟨items, n, hI, hvs, hz⟩ := S₂.toHS.list hl
 exact tail_any (ops := [.ref s₂.heap.objs.size, .ref l]) (hI.isList.push _).typeIs list_getitem_lookup (wpAny_mono (slice_end S₂ hl hsz (.int k t) .none .none (by exact Ne.symm (Option.some_ne_none 0)) hq) (fun _ _ x => x.mono S₂ (af₁.then S₁ af₂)) fun _ _ x => x) rfl
theorem ints_all {h : Heap} : ∀ {ns : List Int} {rs : List Value}, VRs h (ns.map .int) rs → IntsAre rs ns
 | [], rs, r => by have := r.nil_inv; subst this; exact .nil
 | n :: ns, rs, r => by
  refine eEEAA r.cons_inv fun y ys zz2 a b => ?_; subst zz2
  refine eE a.int_inv fun t zz1 => ?_; subst zz1
  exact .cons n t (ints_all b)
theorem ints_vrs {h : Heap} {rs : List Value} {ns : List Int} (r : IntsAre rs ns) : VRs h (ns.map .int) rs := by
 induction r with
 | nil => exact .nil
 | cons n t _ ih => exact .cons .int ih
theorem CV_sum {l : Addr} {ns : List Int} (hA : A.handled = none) (hl : LAt C H l (ns.map .int)) (h : Q (.int ns.sum) m H) : CV C A (.con (.builtin "sum")) [.ref l] [] m H Q := fun s rf rs rkw S hf hva hk => by
 have := hk.nil_inv; subst this
 refine rE hf.con_inv ?_
 refine eEA (qax hva) fun x zz1 hx => ?_; subst zz1
 refine rE hx.ref_inv ?_
 obtain ⟨items, n, hI, hvs, hz⟩ := S.toHS.list hl
 have hi := ints_all hvs
 refine eE hi.allInts.items fun xs hxs => ?_
 rw [Array.toArray_toList] at hxs
 subst hxs
 refine sum_intListG hA hI.isList fun h' tk t' hk => ?_
 have e : preSum (numAt xs) xs.size = ns.sum := by
  refine rE (preSum_eq ..) (rE (List.take_of_length_le (by simp)) (rF hi.numsOf (rE (nums_intItems ..) rfl)))
 refine rE e ?_
 exact ⟨_, m, H, .int, S.more (tk := tk) hk, .more (tk := tk) hk, h⟩
structure Iters (C : Cx) (A : Around) (v : V) (H : CH) (c : CObj) (xs : List V) (ok : CH → Prop) : Prop where
 make : ∀ {m : Loc} {Q : V → Loc → CH → Prop}, (∀ I, H I = none → C.h₀.get? I = none → Q (.ref I) m (H.set I c)) → CV C A (.con (.builtin "iter")) [v] [] m H Q
 loop : ∀ I, H I = none → ∃ ob nx, Prot C A I ob nx ∧ (∀ H s i o, HS C H s → H I = none → s.heap.get? I = some o → ob i s.heap o → nx H i = some none → wpAny (model C.prog C.w) A (pyNext (.ref I)) (fun r s' => DoneR I s r s' ∧ ∃ o', s'.heap.get? I = some o') NoE s) ∧
  (∀ s, HS C (H.set I c) s → ∃ o, s.heap.get? I = some o ∧ ob 0 s.heap o) ∧ ∀ H' i, ok H' → nx H' i = some xs[i]?
set_option tactic.hygienic true in
theorem iters_list {l : Addr} {xs : List V} (hA : A.handled = none) (hl : H l = some (.list xs)) : Iters C A (.ref l) H (.liter l 0) xs (fun H' => H' l = some (.list xs)) where
 make := fun h => CV_iter (.own hl) h
 loop := fun I hI => by
  have nxl : ∀ H i x, nxList l H i = some x → ∃ xs, LAt C H l xs ∧ x = xs[i]? := fun H i x e => by
   unfold nxList at e
   split at e
   ·rename_i xs hx; cases e; exact ⟨xs, .own hx, rfl⟩
   ·cases e
  refine ⟨_, _, prot_list (C := C) (A := A) (I := I) (l := l) (nx := nxList l) hA (ne_at hl hI) nxl, fun H s i o S _ ho hob hn => ?_, fun s S => ⟨_, S.liter CH.set_same, rfl, rfl⟩, fun H' i ok => by unfold nxList; refine rE ok rfl⟩
  refine eEA (nxl H i _ hn) fun ys hl' hv => ?_
  obtain ⟨items, n, hL, hvs, hz⟩ := S.list hl'
  have : items[i]? = none := by
   have : ys.length ≤ i := List.getElem?_eq_none_iff.mp hv.symm
   exact Array.getElem?_eq_none (by lia)
  exact pyNext_end hA ⟨o, ho, hob.1, hob.2⟩ hL.isList this fun h' o' he ho' => ⟨⟨h', s.toks, rfl, rfl, he⟩, o', ho'⟩
theorem ES_for_iters {target : PySem.Expr} {x : Str} {px : Pos} {body orelse : List Stmt} {p : Pos} {Q : Fl → Loc → CH → Prop} {I : Addr} {v : V} {c : CObj} {xs : List V} {ok : CH → Prop} (it : Iters C A v H c xs ok) (hI : H I = none) (hm : m.lookup x = some (.ref I)) (m₂ : Loc) (J : Nat → Loc → CH → Prop) (hsub : Sub m₂ m) (h0 : J 0 m₂ H)
  (turn : ∀ i m H, J i m H → ok H ∧ (∀ x, xs[i]? = some x → ASG C A target x m H fun m' H' => EX C A body m' H' (Turn Q (NextJ J (i + 1)))) ∧ (i = xs.length → EX C A orelse m H Q))
  (hs : autoParam (∀ y, foldedSetIterable (.Name x px) C.env y = pure y) Mine.syn2)
  (hk : autoParam (C.env.scope.kind = .function) Mine.syn1) (hl : autoParam (C.env.kindOf x = some .local) Mine.syn1) (hd : autoParam ((x == ("__debug__" : Str)) = false) Mine.syn4) : ES C A (.For target (.Name x px) body orelse p) m (H.set I c) Q := by
 obtain ⟨ob, nx, P, done, h1, h2⟩ := it.loop I hI
 have e0 : (H.set I c).del I = H := by
  funext b; unfold CH.del CH.set; split
  ·subst b; exact hI.symm
  ·rfl
 refine ES_for_own (N := xs.length) P done hm CH.set_same h1 m₂ (fun i m H => J i m H ∧ i ≤ xs.length) hsub ⟨by refine rE e0 ?_; exact h0, Nat.zero_le _⟩ (fun i m H ⟨hj, hi⟩ => ⟨hi, ?_⟩) hs hk hl hd
 refine eAA (turn i m H hj) fun t1 t2 t3 => ?_
 rcases Nat.lt_or_ge i xs.length with hlt | hge
 ·have hx : xs[i]? = some xs[i] := List.getElem?_eq_getElem hlt
  refine .inl ⟨xs[i], (h2 H i t1).trans (by refine rE hx rfl), fun s r S hr => wpAny_mono (t2 _ hx s r S hr) (fun _ s' ⟨m', H', S', af', q⟩ => ⟨m', H', S', af', q.mono fun fl m₂ H₂ hq => ?_⟩) fun _ _ x => x⟩
  cases fl with
  | next => obtain ⟨m₃, a, b⟩ := hq; exact ⟨m₃, a, b, hlt⟩
  | cont => obtain ⟨m₃, a, b⟩ := hq; exact ⟨m₃, a, b, hlt⟩
  | brk => exact hq
  | ret v => exact hq
 ·exact .inr ⟨(h2 H i t1).trans (by refine rE (List.getElem?_eq_none hge) rfl), t3 (by exact Nat.le_antisymm hi hge)⟩
theorem CV_list_rng {n : Nat} (hA : A.handled = none) (hn : n < 2 ^ 20) (h : ∀ a, H a = none → C.h₀.get? a = none → Q (.ref a) m (H.set a (.list (qao 0 1 n)))) : CV C A (.con (.type "list")) [.rng 0 n 1] [] m H Q := fun s rf rs rkw S hf hva hk => by
 have := hk.nil_inv; subst this
 refine rE hf.con_inv ?_
 refine eEA (qax hva) fun x zz1 hx => ?_; subst zz1
 obtain ⟨z, t, u, w, rfl, ho⟩ := hx.rng_inv
 have e : Builtin.Range.rangeSize 0 n 1 = n := by refine rE (rangeSize_one ..) ?_; split <;> lia
 refine call_list_range hA ho (small_one (by exact Int.neg_ofNat_le_ofNat (2 ^ 62) 0) (by exact PySem.W.kbt_pos 62) (by exact Int.neg_ofNat_le_natCast (2 ^ 62) n) (by lia)) e (by lia) fun h' tk acc c hkp hD hit => ?_
 have hn0 : s.heap.get? s.heap.objs.size = none := qbn
 have S2 : St C m H { s with heap := h', toks := tk } := S.more (tk := tk) hkp
 have hr : VRs h' (qao 0 1 n) acc.toList := by
  refine VRs.of_get (by refine rE (show (qao 0 1 n).length = n from by unfold qao; simp) (rE Array.length_toList (rE hit.1 rfl))) fun j x hx => ?_
  rw [qca] at hx
  by_cases hj : j < n
  ·rw [if_pos hj] at hx; cases hx
   have hja : j < acc.size := by refine rE hit.1 ?_; exact hj
   have hv : acc[j]? = some acc[j] := Array.getElem?_eq_getElem hja
   obtain ⟨tk', e'⟩ := hit.2 j _ hv
   exact ⟨acc[j], by exact (List.getElem_eq_iff hja).mp rfl, by refine rE e' ?_; exact .int⟩
  ·exact (no1 (if_neg hj) hx).elim
 have S3 := S2.toHS.adopt (c := .list (qao 0 1 n)) S.freshb hD ⟨acc, c, rfl, hr⟩
 have a3 : AfterC H s (H.set s.heap.objs.size (.list (qao 0 1 n))) { s with heap := h', toks := tk } := (AfterC.more (tk := tk) hkp).adopt hn0
 exact ⟨_, m, _, .ref, S.called S3 a3, a3.after, h _ S.fresh S.freshb⟩
end
end
end Mine
end
section
open PySem PySem.Calls PySem.W PyProof.Rows
set_option maxRecDepth 100000
namespace Mine
noncomputable section
section
variable {C : Cx} {A : Around} {m : Loc} {H : CH} {s : Shared} {K : Frag} {mg mb : Str → Option Value} {Q : V → Loc → CH → Prop}
end
end
end Mine
end
section
namespace Mine
noncomputable section
noncomputable def qaa (N : Nat) (ov : Nat → Int) (j : Nat) : List Nat := (List.range N).filter fun k => ov k == (j : Int)
section
variable {N : Nat} {ov : Nat → Int}
theorem mem_kids {j k : Nat} : k ∈ qaa N ov j ↔ k < N ∧ ov k = j := by unfold qaa; simp
end
end
end Mine
end
section
namespace Mine
noncomputable section
noncomputable def ev (b : Int) (bs : List Int) (x : Int) : Int := b + (bs.map fun t => max 0 (t - x)).sum
structure Wood (N : Nat) (ov : Nat → Int) : Prop where
 up : ∀ k, k < N → -1 ≤ ov k ∧ ov k < k
structure RowAt (N : Nat) (ov s b : Nat → Int) (bs : Nat → List Int) (j : Nat) (M : Int) : Prop where
 perm : (((qaa N ov j).map bs).flatten ++ [s j, s j]).Perm (bs j ++ [M])
 le : ∀ t ∈ bs j, t ≤ M
 base : b j = ((qaa N ov j).map b).sum + (M - s j)
 srt : (bs j).Pairwise (· ≤ ·)
noncomputable def qak (N : Nat) (ov s m : Nat → Int) (T : Nat → Nat → Int × Int) (j i : Nat) : Int × Int :=
 ((if s j - m i < 0 then -(s j - m i) else s j - m i) + ((qaa N ov j).map fun k => (T k i).1).sum, m i + ((qaa N ov j).map fun k => (T k i).2).sum)
noncomputable def lexLt (p q : Int × Int) : Prop := p.1 < q.1 ∨ (p.1 = q.1 ∧ p.2 < q.2)
structure TabAt (N : Nat) (ov s m : Nat → Int) (n : Nat) (T : Nat → Nat → Int × Int) (j : Nat) : Prop where
 zero : T j 0 = qak N ov s m T j 0
 yes : ∀ i, i + 1 < n → lexLt (qak N ov s m T j (i + 1)) (T j i) → T j (i + 1) = qak N ov s m T j (i + 1)
 no : ∀ i, i + 1 < n → ¬ lexLt (qak N ov s m T j (i + 1)) (T j i) → T j (i + 1) = T j i
structure Marks (N : Nat) (s m : Nat → Int) (n : Nat) : Prop where
 inc : ∀ i i', i < i' → i' < n → m i < m i'
 has : ∀ k, k < N → ∃ i, 0 < i ∧ i + 1 < n ∧ m i = s k ∧ m (i - 1) = s k - 1 ∧ m (i + 1) = s k + 1
section
variable {N n : Nat} {ov s b m la : Nat → Int} {bs : Nat → List Int} {T : Nat → Nat → Int × Int}
theorem sum_perm2 {f : Int → Int} {P Q : List Int} (h : P.Perm Q) : (P.map f).sum = (Q.map f).sum := by
 induction h with
 | nil => rfl
 | cons x _ ih => refine rE List.map_cons (rE List.sum_cons (rE List.map_cons (rE List.sum_cons (rE ih rfl))))
 | swap x y l => simp only [List.map_cons, List.sum_cons]; exact Int.add_left_comm (f y) (f x) (List.map f l).sum
 | trans _ _ h1 h2 => exact h1.trans h2
theorem sum_flat {f : Int → Int} : ∀ {l : List (List Int)}, (l.flatten.map f).sum = (l.map fun x => (x.map f).sum).sum
 | [] => rfl
 | x :: l => by refine rE List.flatten_cons (rE List.map_append (rE List.sum_append (rE List.map_cons (rE List.sum_cons (rE sum_flat rfl)))))
theorem sum_add {f g : Nat → Int} : ∀ {l : List Nat}, (l.map fun k => f k + g k).sum = (l.map f).sum + (l.map g).sum
 | [] => rfl
 | k :: l => by simp only [List.map_cons, List.sum_cons]; refine rE sum_add ?_; lia
theorem Wood.kid (W : Wood N ov) {j k : Nat} (h : k ∈ qaa N ov j) : j < k := by
 refine eA (mem_kids.mp h) fun h1 h2 => ?_
 have := W.up k h1
 lia
noncomputable def gAt (N : Nat) (ov s b : Nat → Int) (bs : Nat → List Int) (j : Nat) (x : Int) : Int := (if s j - x < 0 then -(s j - x) else s j - x) + ((qaa N ov j).map fun k => ev (b k) (bs k) x).sum
theorem gAt_eq {j : Nat} {M : Int} (R : RowAt N ov s b bs j M) (x : Int) : gAt N ov s b bs j x = ev (b j) (bs j) x + max 0 (x - M) := by
 have h1 := sum_perm2 (f := fun t => max 0 (t - x)) R.perm
 rw [List.map_append, List.sum_append, List.map_append, List.sum_append, sum_flat, List.map_map] at h1
 simp only [List.map_cons, List.map_nil, List.sum_cons, List.sum_nil] at h1
 have h2 : ((qaa N ov j).map fun k => ev (b k) (bs k) x).sum = ((qaa N ov j).map b).sum + ((qaa N ov j).map fun k => ((bs k).map fun t => max 0 (t - x)).sum).sum := sum_add (f := b) (g := fun k => ((bs k).map fun t => max 0 (t - x)).sum)
 have h3 : ((qaa N ov j).map ((fun y : List Int => (y.map fun t => max 0 (t - x)).sum) ∘ bs)).sum = ((qaa N ov j).map fun k => ((bs k).map fun t => max 0 (t - x)).sum).sum := rfl
 unfold gAt
 refine rE h2 ?_
 unfold ev
 have hb := R.base
 split <;> omega
theorem qc7 {b : Int} {bs : List Int} {x : Int} (h : ∀ t ∈ bs, t ≤ x) : ev b bs x = b := by
 have : (bs.map fun t => max 0 (t - x)).sum = 0 := by
  induction bs with
  | nil => rfl
  | cons t bs ih =>
   refine rE List.map_cons (rE List.sum_cons (rE (ih fun u hu => h u (List.mem_cons_of_mem _ hu)) ?_))
   have := h t List.mem_cons_self
   lia
 unfold ev; lia
theorem sum_anti {bs : List Int} {x y : Int} (h : x ≤ y) : (bs.map fun t => max 0 (t - y)).sum ≤ (bs.map fun t => max 0 (t - x)).sum := by
 induction bs with
 | nil => exact Int.le_refl _
 | cons t bs ih => refine rE List.map_cons (rE List.sum_cons (rE List.map_cons (rE List.sum_cons ?_))); omega
theorem ev_strict {b : Int} {bs : List Int} {x y t : Int} (ht : t ∈ bs) (h : x < y) (hy : y ≤ t) : ev b bs y < ev b bs x := by
 have key : (bs.map fun t => max 0 (t - y)).sum + (y - x) ≤ (bs.map fun t => max 0 (t - x)).sum := by
  induction bs with
  | nil => cases ht
  | cons u bs ih =>
   refine rE List.map_cons (rE List.sum_cons (rE List.map_cons (rE List.sum_cons ?_)))
   rcases List.mem_cons.mp ht with e | hm
   ·have := sum_anti (bs := bs) (x := x) (y := y) (by exact Int.le_of_lt h)
    lia
   ·have := ih hm
    omega
 unfold ev; omega
theorem ev_step {b : Int} {bs : List Int} {x : Int} : ev b bs x - ev b bs (x + 1) = (bs.countP fun t => decide (x < t)) := by
 have key : (bs.map fun t => max 0 (t - x)).sum - (bs.map fun t => max 0 (t - (x + 1))).sum = (bs.countP fun t => decide (x < t)) := by
  induction bs with
  | nil => rfl
  | cons t bs ih =>
   refine rE List.map_cons (rE List.sum_cons (rE List.map_cons (rE List.sum_cons (rE List.countP_cons ?_))))
   by_cases e : x < t
   ·refine rE (if_pos (by exact decide_eq_true e)) ?_; push_cast; omega
   ·refine rE (if_neg (by simpa using e)) ?_; push_cast; omega
 unfold ev; omega
structure NodeOk (N n : Nat) (ov s b m la : Nat → Int) (bs : Nat → List Int) (T : Nat → Nat → Int × Int) (j : Nat) : Prop where
 cost : ∀ i, i < n → (T j i).1 = ev (b j) (bs j) (m i)
 at_ : ∀ i, i < n → ∃ t, t ≤ i ∧ m t = min (m i) (la j) ∧ T j i = qak N ov s m T j t
 mono : ∀ i i', i ≤ i' → i' < n → (T j i).2 ≤ (T j i').2
theorem sum_mono {f g : Nat → Int} : ∀ {l : List Nat}, (∀ k ∈ l, f k ≤ g k) → (l.map f).sum ≤ (l.map g).sum
 | [], _ => Int.le_refl _
 | k :: l, h => by
  have := sum_mono (l := l) fun x hx => h x (List.mem_cons_of_mem _ hx)
  have := h k List.mem_cons_self
  refine rE List.map_cons (rE List.sum_cons (rE List.map_cons (rE List.sum_cons ?_))); lia
theorem node_ok {MM : Nat → Int} (W : Wood N ov) (R : ∀ j, j < N → RowAt N ov s b bs j (MM j)) (K : Marks N s m n) (hla : ∀ j, j < N → la j ∈ bs j ∧ ∀ t ∈ bs j, t ≤ la j) (hs : ∀ j, j < N → ∀ t ∈ bs j, ∃ k, k < N ∧ t = s k)
  (hT : ∀ j, j < N → TabAt N ov s m n T j) : ∀ d j, N - j = d → j < N → NodeOk N n ov s b m la bs T j := by
 intro d
 induction d using Nat.strongRecOn with
 | _ d ih =>
  intro j hd hj
  have hk : ∀ k ∈ qaa N ov j, NodeOk N n ov s b m la bs T k := fun k hk => ih (N - k) (by have := W.kid hk; have := (mem_kids.mp hk).1; grind) k rfl (mem_kids.mp hk).1
  have RJ := R j hj
  have TJ := hT j hj
  refine eA (hla j hj) fun l1 l2 => ?_
  have lM : la j ≤ MM j := RJ.le _ l1
  have c1 : ∀ i, i < n → (qak N ov s m T j i).1 = ev (b j) (bs j) (m i) + max 0 (m i - MM j) := fun i hi => by
   rw [← gAt_eq RJ]
   unfold qak gAt
   simp only
   refine rE (List.map_congr_left fun k hkm => (hk k hkm).cost i hi) rfl
  have c2 : ∀ i i', i < i' → i' < n → (qak N ov s m T j i).2 < (qak N ov s m T j i').2 := fun i i' h h' => by
   have h1 := K.inc i i' h h'
   have h2 := sum_mono (f := fun k => (T k i).2) (g := fun k => (T k i').2) (l := qaa N ov j) fun k hkm => (hk k hkm).mono i i' (by exact Nat.le_of_succ_le h) h'
   unfold qak
   simp only
   exact Int.add_lt_add_of_lt_of_le h1 h2
  refine eEA (hs j hj _ l1) fun q hqN hqs => ?_
  obtain ⟨t0, t0p, t0n, t0m, _, _⟩ := K.has q hqN
  have t0l : m t0 = la j := t0m.trans hqs.symm
  have at_ : ∀ i, i < n → ∃ t, t ≤ i ∧ m t = min (m i) (la j) ∧ T j i = qak N ov s m T j t := by
   intro i
   induction i with
   | zero =>
    intro hi
    refine ⟨0, Nat.le_refl _, ?_, TJ.zero⟩
    have : m 0 ≤ la j := by refine rF t0l ?_; exact Int.le_of_lt (K.inc 0 t0 t0p (by exact Nat.lt_of_succ_lt t0n))
    exact Eq.symm (Int.min_eq_left this)
   | succ i ihi =>
    intro hi
    refine eEAA (ihi (by exact Nat.lt_of_succ_lt hi)) fun t ht hmt hTt => ?_
    have hinc := K.inc i (i + 1) (Nat.lt_succ_self i) hi
    by_cases hle : m (i + 1) ≤ la j
    ·have hti : t = i := by
      rcases Nat.lt_or_eq_of_le ht with h | h
      ·have := K.inc t i h (by exact Nat.lt_of_succ_lt hi); grind
      ·exact h
     subst hti
     refine ⟨t + 1, Nat.le_refl _, by exact Eq.symm (Int.min_eq_left hle), TJ.yes t hi (.inl ?_)⟩
     refine rE hTt (rE (c1 _ hi) (rE (c1 _ (by exact Nat.lt_of_succ_lt hi)) ?_))
     have := ev_strict (b := b j) l1 hinc hle
     lia
    ·have hge : la j ≤ m i := by
      by_cases e : i < t0
      ·have h1 : i + 1 ≤ t0 := e
       rcases Nat.lt_or_eq_of_le h1 with h | h
       ·have := K.inc (i + 1) t0 h (by exact Nat.lt_of_succ_lt t0n); lia
       ·rw [h] at hle; lia
      ·rcases Nat.lt_or_eq_of_le (Nat.not_lt.mp e) with h | h
       ·have := K.inc t0 i h (by exact Nat.lt_of_succ_lt hi); lia
       ·refine rF h ?_; exact Int.le_of_eq (id (Eq.symm t0l))
     have hmt2 : m t = la j := by lia
     refine ⟨t, by exact Nat.le_add_right_of_le ht, by grind, ?_⟩
     refine rF hTt ?_
     refine TJ.no i hi fun hlt => ?_
     rw [hTt] at hlt
     have e1 : ev (b j) (bs j) (m (i + 1)) = b j := qc7 fun u hu => by have := l2 u hu; lia
     have e2 : ev (b j) (bs j) (m t) = b j := qc7 fun u hu => by have := l2 u hu; lia
     have f1 := c1 _ hi
     have f2 := c1 t (by lia)
     have f3 := c2 t (i + 1) (by exact Nat.lt_succ_of_le ht) hi
     rcases hlt with h | ⟨_, h⟩
     ·omega
     ·lia
  refine ⟨fun i hi => ?_, at_, fun i i' h h' => ?_⟩
  ·refine eEAA (at_ i hi) fun t ht hmt hTt => ?_
   refine rE hTt (rE (c1 t (by exact Nat.lt_of_le_of_lt ht hi)) ?_)
   by_cases hle : m i ≤ la j
   ·have : m t = m i := by lia
    refine rE this ?_; lia
   ·have e1 : ev (b j) (bs j) (m i) = b j := qc7 fun u hu => by have := l2 u hu; lia
    have e2 : ev (b j) (bs j) (m t) = b j := qc7 fun u hu => by have := l2 u hu; lia
    lia
  ·refine eEAA (at_ i (by exact Nat.lt_of_le_of_lt h h')) fun t ht hmt hTt => ?_
   refine eEAA (at_ i' h') fun t' ht' hmt' hTt' => ?_
   refine rE hTt (rE hTt' ?_)
   have hm : m i ≤ m i' := by
    rcases Nat.lt_or_eq_of_le h with h | h
    ·exact Int.le_of_lt (K.inc i i' h h')
    ·subst h; exact Int.le_refl _
   rcases Nat.lt_trichotomy t t' with h | h | h
   ·exact Int.le_of_lt (c2 t t' h (by exact Nat.lt_of_le_of_lt ht' h'))
   ·subst h; exact Int.le_refl _
   ·have := K.inc t' t h (by lia); lia
theorem sum_if {f : Nat → Int} {p : Nat → Bool} : ∀ {l : List Nat}, ((l.filter p).map f).sum = (l.map fun k => if p k = true then f k else 0).sum
 | [] => rfl
 | k :: l => by
  refine rE List.filter_cons (rE List.map_cons (rE List.sum_cons ?_))
  by_cases h : p k = true
  ·refine rE (if_pos h) (rE (if_pos h) (rE List.map_cons (rE List.sum_cons (rE sum_if rfl))))
  ·refine rE (if_neg h) (rE (if_neg h) (rE sum_if ?_)); exact Eq.symm (Int.zero_add (List.map (fun k ↦ if p k = Bool.true then f k else 0) l).sum)
theorem sum_swap {f : Nat → Nat → Int} : ∀ {l l' : List Nat}, (l.map fun j => (l'.map fun k => f j k).sum).sum = (l'.map fun k => (l.map fun j => f j k).sum).sum
 | [], l' => by
  show 0 = (l'.map fun k => (0 : Int)).sum
  induction l' with
  | nil => rfl
  | cons a l' ih => refine rE List.map_cons (rE List.sum_cons (rF ih ?_)); rfl
 | j :: l, l' => by
  refine rE List.map_cons (rE List.sum_cons (rE (sum_swap (l := l)) ?_))
  refine rF sum_add ?_
  congr 1
theorem sum_one {f : Nat → Int} {k : Int} : ∀ {N : Nat}, ((List.range N).map fun j : Nat => if k = (j : Int) then f j else 0).sum = if 0 ≤ k ∧ k < N then f k.toNat else 0
 | 0 => by refine rE (if_neg (by lia)) ?_; rfl
 | N + 1 => by
  refine rE List.range_succ (rE List.map_append (rE List.sum_append (rE (sum_one (N := N)) ?_)))
  simp only [List.map_cons, List.map_nil, List.sum_cons, List.sum_nil]
  by_cases e : k = (N : Int)
  ·subst e
   refine rE (if_neg (by lia)) (rE (if_pos rfl) (rE (if_pos (by lia)) (rE (Int.toNat_natCast ..) ?_))); exact Eq.symm ((fun {b a c} ↦ Int.sub_eq_iff_eq_add'.mp) rfl)
  ·refine rE (if_neg e) ?_
   by_cases h : 0 ≤ k ∧ k < N
   ·refine rE (if_pos h) (rE (if_pos (by lia)) ?_); lia
   ·refine rE (if_neg h) (rE (if_neg (by lia)) ?_); rfl
theorem sum_roots (W : Wood N ov) {h w : Nat → Int} (hw : ∀ j, j < N → w j = h j + ((qaa N ov j).map w).sum) : ((List.range N).map h).sum = (((List.range N).filter fun j => decide (ov j < 0)).map w).sum := by
 have e1 : ((List.range N).map w).sum = ((List.range N).map h).sum + ((List.range N).map fun j => ((qaa N ov j).map w).sum).sum := by
  refine rF sum_add ?_
  congr 1
  exact List.map_congr_left fun j hj => hw j (List.mem_range.mp hj)
 have e2 : ((List.range N).map fun j => ((qaa N ov j).map w).sum).sum = ((List.range N).map fun k => if 0 ≤ ov k then w k else 0).sum := by
  have : ((List.range N).map fun j => ((qaa N ov j).map w).sum) = ((List.range N).map fun j : Nat => ((List.range N).map fun k => if (ov k == (j : Int)) = true then w k else 0).sum) :=
   List.map_congr_left fun j _ => by unfold qaa; exact sum_if
  refine rE this (rE sum_swap ?_)
  congr 1
  refine List.map_congr_left fun k hk => ?_
  have hkN := List.mem_range.mp hk
  have hu := W.up k hkN
  have e := sum_one (f := fun _ => w k) (k := ov k) (N := N)
  have e' : ((List.range N).map fun j : Nat => if (ov k == (j : Int)) = true then w k else 0) = ((List.range N).map fun j : Nat => if ov k = (j : Int) then w k else 0) := List.map_congr_left fun j _ => by
   by_cases q : ov k = (j : Int)
   ·refine rE (if_pos (by exact beq_iff_eq.mpr q)) (rE (if_pos q) rfl)
   ·refine rE (if_neg (by simpa using q)) (rE (if_neg q) rfl)
  refine rE e' (rE e ?_)
  by_cases q : 0 ≤ ov k
  ·refine rE (if_pos (by lia)) (rE (if_pos q) rfl)
  ·refine rE (if_neg (by exact not_and.mpr fun a a_1 ↦ q a)) (rE (if_neg q) rfl)
 have e3 : ((List.range N).map w).sum = ((List.range N).map fun k => if 0 ≤ ov k then w k else 0).sum + (((List.range N).filter fun j => decide (ov j < 0)).map w).sum := by
  refine rE sum_if (rF sum_add ?_)
  congr 1
  refine List.map_congr_left fun k _ => ?_
  by_cases q : 0 ≤ ov k
  ·refine rE (if_pos q) (rE (if_neg (by simp; omega)) ?_); exact Eq.symm (Int.add_zero (w k))
  ·refine rE (if_neg q) (rE (if_pos (by simp; exact Int.lt_of_not_ge q)) ?_); exact Eq.symm (Int.zero_add (w k))
 omega
structure Vals (N : Nat) (ov la v : Nat → Int) : Prop where
 root : ∀ j, j < N → ov j < 0 → v j = la j
 kid : ∀ j, j < N → 0 ≤ ov j → v j = min (v (ov j).toNat) (la j)
theorem vals_law {MM : Nat → Int} {v : Nat → Int} (W : Wood N ov) (R : ∀ j, j < N → RowAt N ov s b bs j (MM j)) (K : Marks N s m n) (hla : ∀ j, j < N → la j ∈ bs j ∧ ∀ t ∈ bs j, t ≤ la j) (hs : ∀ j, j < N → ∀ t ∈ bs j, ∃ k, k < N ∧ t = s k)
  (hT : ∀ j, j < N → TabAt N ov s m n T j) (V : Vals N ov la v) :
  ((List.range N).map fun j => if s j - v j < 0 then -(s j - v j) else s j - v j).sum = (((List.range N).filter fun j => decide (ov j < 0)).map fun j => (T j (n - 1)).1).sum ∧
  ((List.range N).map v).sum = (((List.range N).filter fun j => decide (ov j < 0)).map fun j => (T j (n - 1)).2).sum := by
 have ok : ∀ j, j < N → NodeOk N n ov s b m la bs T j := fun j hj => node_ok W R K hla hs hT _ j rfl hj
 have hv : ∀ j, j < N → ∃ i, i < n ∧ m i = v j := by
  intro j
  induction j using Nat.strongRecOn with
  | _ j ih =>
   intro hj
   have lam : ∃ i, i < n ∧ m i = la j := by
    refine eEA (hs j hj _ (hla j hj).1) fun q hq e => ?_
    refine eEAAA (K.has q hq) fun i _ h2 h3 _ => ?_
    exact ⟨i, by exact Nat.lt_of_succ_lt h2, h3.trans e.symm⟩
   by_cases h : ov j < 0
   ·refine rE (V.root j hj h) ?_; exact lam
   ·have hu := W.up j hj
    refine rE (V.kid j hj (by exact Int.not_lt.mp h)) ?_
    rcases Int.le_total (v (ov j).toNat) (la j) with q | q
    ·refine rE (Int.min_eq_left q) ?_; exact ih _ (by omega) (by omega)
    ·refine rE (Int.min_eq_right q) ?_; exact lam
 let ix : Nat → Nat := fun j => if h : j < N then Classical.choose (hv j h) else 0
 have hix : ∀ j, j < N → ix j < n ∧ m (ix j) = v j := fun j hj => by
  show (if h : j < N then Classical.choose (hv j h) else 0) < n ∧ m (if h : j < N then Classical.choose (hv j h) else 0) = v j
  refine rE (dif_pos hj) ?_; exact Classical.choose_spec (hv j hj)
 have minj : ∀ i i', i < n → i' < n → m i = m i' → i = i' := fun i i' h h' e => by
  rcases Nat.lt_trichotomy i i' with q | q | q
  ·have := K.inc i i' q h'; lia
  ·exact q
  ·have := K.inc i' i q h; lia
 let bd : Nat → Nat := fun j => if ov j < 0 then n - 1 else ix (ov j).toNat
 have step : ∀ j, j < N → T j (bd j) = qak N ov s m T j (ix j) := fun j hj => by
  refine eA (hix j hj) fun h1 h2 => ?_
  have hu := W.up j hj
  have hbd : bd j < n := by
   show (if ov j < 0 then n - 1 else ix (ov j).toNat) < n
   split
   ·exact Nat.sub_one_lt_of_lt h1
   ·exact (hix _ (by omega)).1
  refine eEAA ((ok j hj).at_ (bd j) hbd) fun t ht hmt hTt => ?_
  refine rE hTt ?_
  congr 1
  refine minj t (ix j) (by exact Nat.lt_of_le_of_lt ht hbd) h1 ?_
  refine rE h2 (rE hmt ?_)
  show min (m (if ov j < 0 then n - 1 else ix (ov j).toNat)) (la j) = v j
  by_cases h : ov j < 0
  ·refine rE (if_pos h) (rE (V.root j hj h) ?_)
   refine eEA (hs j hj _ (hla j hj).1) fun q hq e => ?_
   refine eEAAA (K.has q hq) fun i _ h2 h3 _ => ?_
   have : m i ≤ m (n - 1) := by
    rcases Nat.lt_or_eq_of_le (show i ≤ n - 1 by omega) with q | q
    ·exact Int.le_of_lt (K.inc i (n - 1) q (by exact Nat.sub_one_lt_of_lt h1))
    ·refine rE q ?_; exact Int.le_refl _
   lia
  ·refine rE (if_neg h) (rE (V.kid j hj (by exact Int.not_lt.mp h)) (rE ((hix _ (by omega)).2) rfl))
 have kb : ∀ j, j < N → ∀ k ∈ qaa N ov j, bd k = ix j := fun j hj k hk => by
  refine eA (mem_kids.mp hk) fun h1 h2 => ?_
  show (if ov k < 0 then n - 1 else ix (ov k).toNat) = ix j
  refine rE (if_neg (by lia)) (rE h2 (rE (Int.toNat_natCast ..) rfl))
 have fin : ∀ (f : Int × Int → Int), (((List.range N).filter fun j => decide (ov j < 0)).map fun j => f (T j (bd j))) = (((List.range N).filter fun j => decide (ov j < 0)).map fun j => f (T j (n - 1))) := fun f =>
  List.map_congr_left fun j hj => by
   have : ov j < 0 := by simpa using (List.mem_filter.mp hj).2
   show f (T j (if ov j < 0 then n - 1 else ix (ov j).toNat)) = _
   refine rE (if_pos this) rfl
 constructor
 ·refine rF (fin (·.1)) ?_
  refine sum_roots W (w := fun j => (T j (bd j)).1) fun j hj => ?_
  show (T j (bd j)).1 = _
  refine rE (step j hj) ?_
  unfold qak
  simp only
  refine rE ((hix j hj).2) ?_
  congr 2
  exact List.map_congr_left fun k hk => by refine rE (kb j hj k hk) rfl
 ·refine rF (fin (·.2)) ?_
  refine sum_roots W (w := fun j => (T j (bd j)).2) fun j hj => ?_
  show (T j (bd j)).2 = _
  refine rE (step j hj) ?_
  unfold qak
  simp only
  refine rE ((hix j hj).2) ?_
  congr 2
  exact List.map_congr_left fun k hk => by refine rE (kb j hj k hk) rfl
end
end
end Mine
end
section
open PySem PySem.Calls PySem.W PyProof.Rows
set_option maxRecDepth 100000
namespace Mine
noncomputable section
noncomputable abbrev Rise (l : List Nat) : Prop := l.Pairwise (· < ·)
theorem below_go (xs : Array Nat) (j : Nat) (hr : Rise xs.toList) : ∀ (fuel lo hi : Nat), hi ≤ fuel + lo → lo ≤ hi → hi ≤ xs.size → (∀ i, i < lo → xs.getD i 0 < j) → (∀ i, hi ≤ i → i < xs.size → j ≤ xs.getD i 0) →
  SetTable.below.go xs j fuel lo hi ≤ xs.size ∧ (∀ i, i < SetTable.below.go xs j fuel lo hi → xs.getD i 0 < j) ∧ ∀ i, SetTable.below.go xs j fuel lo hi ≤ i → i < xs.size → j ≤ xs.getD i 0
 | 0, lo, hi, h1, h2, h3, h4, h5 => by
  have : lo = hi := Nat.le_antisymm h2 (by rw [Nat.zero_add] at h1; exact h1)
  subst this
  exact ⟨h3, h4, h5⟩
 | fuel + 1, lo, hi, h1, h2, h3, h4, h5 => by
  have mono : ∀ i k, i ≤ k → k < xs.size → xs.getD i 0 ≤ xs.getD k 0 := fun i k hik hk => by
   refine rE Array.getD_eq_getD_getElem? (rE Array.getD_eq_getD_getElem? (rE (getElem?_pos xs i (by exact Nat.lt_of_le_of_lt hik hk)) (rE (getElem?_pos xs k hk) ?_)))
   rcases Nat.lt_or_ge i k with q | q
   ·exact Nat.le_of_lt (List.pairwise_iff_getElem.mp hr i k (by simp; exact Nat.lt_of_le_of_lt hik hk) (by assumption) q)
   ·have : i = k := by exact Nat.le_antisymm hik q
    subst this; exact Nat.le_refl _
  unfold SetTable.below.go
  split
  ·rename_i hlt
   dsimp only
   refine rE (show xs.getD ((lo + hi) / 2) j = xs.getD ((lo + hi) / 2) 0 by rw [Array.getD_eq_getD_getElem?, Array.getD_eq_getD_getElem?, getElem?_pos xs ((lo + hi) / 2) (Nat.lt_of_lt_of_le (qay hlt) h3)]; rfl) ?_
   split
   ·rename_i hm
    exact below_go xs j hr fuel _ hi (go_up (qbj h2) h1) (qay hlt) h3 (fun i hi' => Nat.lt_of_le_of_lt (mono i ((lo + hi) / 2) (Nat.le_of_lt_succ hi') (Nat.lt_of_lt_of_le (qay hlt) h3)) hm) h5
   ·rename_i hm
    exact below_go xs j hr fuel lo _ (go_dn (qay hlt) h1) (qbj h2) (Nat.le_trans (Nat.le_of_lt (qay hlt)) h3) h4 fun i h6 h7 => Nat.le_trans (Nat.not_lt.mp hm) (mono ((lo + hi) / 2) i h6 h7)
  ·have : lo = hi := Nat.le_antisymm h2 (Nat.not_lt.mp ‹_›)
   subst this
   exact ⟨h3, h4, h5⟩
theorem below_ok {xs : Array Nat} (hr : Rise xs.toList) (j : Nat) : SetTable.below xs j ≤ xs.size ∧ (∀ i, i < SetTable.below xs j → xs.getD i 0 < j) ∧ ∀ i, SetTable.below xs j ≤ i → i < xs.size → j ≤ xs.getD i 0 :=
 below_go xs j hr _ _ _ (Nat.le_refl _) (Nat.zero_le _) (Nat.le_refl _) (fun i h => absurd h (Nat.not_lt_zero i)) fun i h1 h2 => by grind
theorem below_next {xs : Array Nat} (hr : Rise xs.toList) {i p : Nat} (hi : xs[i]? = some p) : SetTable.below xs (p + 1) = i + 1 := by
 refine eAA (below_ok hr (p + 1)) fun h1 h2 h3 => ?_
 refine eE (Array.getElem?_eq_some_iff.mp hi) fun hlt he => ?_
 have e : xs.getD i 0 = p := by refine rE Array.getD_eq_getD_getElem? (rE hi ?_); rfl
 have a1 : ¬ SetTable.below xs (p + 1) ≤ i := fun q => by have := h3 i q hlt; lia
 have a2 : ¬ i + 1 < SetTable.below xs (p + 1) := fun q => by
  have q1 := h2 (i + 1) q
  have hlt2 : i + 1 < xs.size := by exact Nat.lt_of_lt_of_le q h1
  rw [Array.getD_eq_getD_getElem?, getElem?_pos xs _ hlt2] at q1
  have q2 := List.pairwise_iff_getElem.mp hr i (i + 1) (by assumption) (by assumption) (by exact Nat.lt_add_one i)
  rw [Array.getElem_toList, Array.getElem_toList, he] at q2
  simp only [Option.getD_some] at q1
  lia
 lia
theorem below_zero {xs : Array Nat} (hr : Rise xs.toList) : SetTable.below xs 0 = 0 := by
 refine eAA (below_ok hr 0) fun h1 h2 h3 => ?_
 rcases Nat.eq_zero_or_pos (SetTable.below xs 0) with q | q
 ·exact q
 ·exact absurd (h2 0 q) (Nat.not_lt_zero _)
theorem put_rise {t : SetTable} {j : Nat} (hr : Rise t.place.toList) (hj : t.place[SetTable.below t.place j]? ≠ some j) : Rise (t.put j).1.place.toList := by
 show Rise (SetTable.insertAt t.place (SetTable.below t.place j) j).toList
 refine rE (SetTable.toList_insertAt ..) ?_
 refine eAA (below_ok hr j) fun h1 h2 h3 => ?_
 have e := List.take_append_drop (SetTable.below t.place j) t.place.toList
 have hr' := hr
 rw [← e] at hr'
 refine eAA (List.pairwise_append.mp hr') fun p1 p2 p3 => ?_
 have lo : ∀ x ∈ t.place.toList.take (SetTable.below t.place j), x < j := fun x hx => by
  obtain ⟨i, hi, rfl⟩ := List.mem_iff_getElem.mp hx
  rw [List.length_take] at hi
  have hl : i < t.place.toList.length := by grind
  have := h2 i (by grind)
  rw [Array.getD_eq_getD_getElem?, getElem?_pos t.place i (by simpa using hl)] at this
  refine rE List.getElem_take ?_; exact this
 have hi' : ∀ x ∈ t.place.toList.drop (SetTable.below t.place j), j < x := fun x hx => by
  obtain ⟨i, hi, rfl⟩ := List.mem_iff_getElem.mp hx
  rw [List.length_drop, Array.length_toList] at hi
  have hb : SetTable.below t.place j + i < t.place.size := by exact Nat.add_lt_of_lt_sub' hi
  have hb0 : SetTable.below t.place j < t.place.size := by exact Nat.lt_of_add_right_lt hb
  have ge : j ≤ t.place[SetTable.below t.place j] := by
   have := h3 _ (Nat.le_refl _) hb0
   rwa [Array.getD_eq_getD_getElem?, getElem?_pos t.place _ hb0] at this
  have ne : t.place[SetTable.below t.place j] ≠ j := fun q => hj (by refine rE (getElem?_pos t.place _ hb0) (rE q rfl))
  refine rE List.getElem_drop (rE (Array.getElem_toList ..) ?_)
  rcases Nat.eq_zero_or_pos i with q | q
  ·subst q; show j < t.place[SetTable.below t.place j]; exact Nat.lt_of_le_of_ne ge (id (Ne.symm ne))
  ·have := List.pairwise_iff_getElem.mp hr (SetTable.below t.place j) (SetTable.below t.place j + i) (by assumption) (by assumption) (by exact Nat.lt_add_of_pos_right q)
   rw [Array.getElem_toList, Array.getElem_toList] at this
   exact Nat.lt_of_le_of_lt ge this
 exact List.pairwise_append.mpr ⟨p1, List.pairwise_cons.mpr ⟨hi', p2⟩, fun a ha b hb => by
  rcases List.mem_cons.mp hb with rfl | hb
  ·exact lo a ha
  ·have := lo a ha; have := hi' b hb; exact Nat.lt_trans (lo a ha) (hi' b hb)⟩
theorem slot_ne {t : SetTable} {j : Nat} (h : t.slot j = .empty ∨ t.slot j = .dummy) : t.place[SetTable.below t.place j]? ≠ some j := fun e => by
 unfold SetTable.slot at h
 dsimp only at h
 rw [if_pos (by refine rE e ?_; exact beq_self_eq_true _)] at h
 rcases h with h | h <;> cases h
theorem qdb (t : SetTable) (p : SetTable.Probe) : (t.advance p).dummy = p.dummy := by
 unfold SetTable.advance
 split <;> rfl
set_option tactic.hygienic true in
theorem probe_go (t : SetTable) (f : Nat → Int) (h : Int) : ∀ (fuel : Nat) (p : SetTable.Probe), (∀ d, p.dummy = some d → t.slot d = .dummy) → ∀ {j dummy}, SetTable.probe.go t f h fuel p = some (.empty j dummy) →
  t.slot j = .empty ∧ ∀ d, dummy = some d → t.slot d = .dummy
 | 0, p, hd, j, dummy, e => by cases e
 | fuel + 1, p, hd, j, dummy, e => by
  unfold SetTable.probe.go at e
  split at e
  ·rename_i hs; cases e; exact ⟨hs, hd⟩
  ·rename_i hs
   exact probe_go t f h fuel _ (fun d q => by rw [qdb] at q; cases q; exact hs) e
  ·rename_i i hs
   split at e
   ·cases e
   ·exact probe_go t f h fuel _ (fun d q => by rw [qdb] at q; exact hd d q) e
set_option tactic.hygienic true in
theorem freeSlot_ne {t : SetTable} {h : Int} {slot : Nat} {b : Bool} (e : t.freeSlot h = some (slot, b)) : t.place[SetTable.below t.place slot]? ≠ some slot := by
 unfold SetTable.freeSlot at e
 split at e
 ·rename_i j dummy hp
  cases e
  have := probe_go t _ h _ (t.probeStart h) (fun d q => by cases q) hp
  refine slot_ne ?_
  cases dummy with
  | none => exact .inl this.1
  | some d => exact .inr (this.2 d rfl)
 ·cases e
structure TabOk (bt : Bool) (t : SetTable) : Prop where
 rise : Rise t.place.toList
 led : bt = true ∨ t.led = true
theorem TabOk.standIn {bt : Bool} {t : SetTable} (h : TabOk bt t) (n : Nat) : TabOk bt (t.standIn n) :=
 ⟨by show Rise (Array.range n).toList; refine rE Array.toList_range ?_; exact List.pairwise_lt_range, h.led⟩
set_option tactic.hygienic true in
theorem TabOk.layNew {bt : Bool} {t : SetTable} (h : TabOk bt t) (es : Array (Int × Value)) (k : Int) (x : Value) : TabOk bt (layNew t es k x).2.1 := by
 unfold PySem.layNew
 split
 ·rename_i slot wd e
  have hp : TabOk bt (t.put slot).1 := ⟨put_rise h.rise (freeSlot_ne e), h.led⟩
  show TabOk bt ((t.put slot).1.orStandIn _)
  unfold SetTable.orStandIn
  split
  ·exact hp
  ·exact hp.standIn _
 ·exact h.standIn _
set_option tactic.hygienic true in
theorem TabOk.relayAll {bt : Bool} {t : SetTable} (h : TabOk bt t) (es : Array (Int × Value)) (wanted : Nat) : TabOk bt (relayAll t es wanted).2.1 := by
 unfold PySem.relayAll
 split
 ·rename_i t' order e
  dsimp only
  split
  ·unfold SetTable.relaid SetTable.laid at e
   refine eEA (Option.bind_eq_some_iff.mp e) fun owner _ e => ?_
   cases e
   refine ⟨?_, h.led⟩
   show Rise ((((List.range _).filterMap _).map Prod.fst).toArray).toList
   refine rE List.map_filterMap ?_
   refine List.Pairwise.filterMap (R := (· < ·)) _ (fun a a' hlt b hb b' hb' => ?_) List.pairwise_lt_range
   have key : ∀ (a b : Nat), Option.map Prod.fst (Option.map (fun x => (a, x)) (owner.getD a none)) = some b → b = a := fun a b q => by
    cases r : owner.getD a none with
    | none => rw [r] at q; cases q
    | some z => rw [r] at q; cases q; rfl
   refine rE (key a b hb) (rE (key a' b' hb') ?_); exact hlt
  ·exact h.standIn _
 ·exact h.standIn _
end
end Mine
end
section
open PySem PySem.Calls PySem.W PyProof.Rows
set_option maxRecDepth 100000
namespace Mine
noncomputable section
inductive ISet (prog : Program) (w : World) (o : Obj) (ns : List Int) : Prop
 | mk (es : Array (Int × Value)) (ep : Nat) (t : SetTable) (e : o = { cls := .type "set", dict := none, data := .set es ep t, slots := #[] }) (el : ElemsOf (intKind prog w) es.toList)
   (vals : (es.toList.map fun e => numOf e.2).Perm ns) (fit : t.fits es.size = true) (tab : TabOk (w.params.followText "set-order") t) : ISet prog w o ns
section
variable {prog : Program} {w : World} {A : Around} {E : Value → Shared → Prop} {s : Shared}
theorem elem_int {l : List (Int × Value)} (h : ElemsOf (intKind prog w) l) {e : Int × Value} (he : e ∈ l) : ∃ u, e.2 = .int (numOf e.2) u := by
 obtain ⟨⟨k, hk, _⟩, _⟩ := h e he
 obtain ⟨u, hu⟩ := Value.isInt_shape hk
 exact ⟨u, by refine rE hu ?_; rfl⟩
theorem elem_is {l : List (Int × Value)} (h : ElemsOf (intKind prog w) l) (k : Int) : (∃ e ∈ l, (intKind prog w).is k e.2 = true) ↔ k ∈ l.map fun e => numOf e.2 := by
 rw [List.mem_map]
 constructor
 ·rintro ⟨e, he, hk⟩
  obtain ⟨u, hu⟩ := Value.isInt_shape hk
  exact ⟨e, he, by refine rE hu ?_; rfl⟩
 ·rintro ⟨e, he, rfl⟩
  refine eE (elem_int h he) fun u hu => ?_
  exact ⟨e, he, by refine rE hu ?_; exact intKind_is _ _ _ _⟩
theorem store_at {h : Heap} {a : Addr} {es : Array (Int × Value)} {ep : Nat} {t : SetTable} (ho : h.get? a = some { cls := .type "set", dict := none, data := .set es ep t, slots := #[] }) (es' : Array (Int × Value)) (t' : SetTable) :
  (h.update a (Obj.putSet es' t')).get? a = some { cls := .type "set", dict := none, data := .set es' (ep + 1) t', slots := #[] } := by
 have := Heap.get?_update_self (Obj.putSet es' t') ho (by refine rE (putSet_of es' t' rfl) ?_; rfl)
 rw [putSet_of es' t' rfl] at this; exact this
theorem hgw (b : Bool) {Q' : Unit → Shared → Prop} (hq : Q' () s) : wpAny (model prog w) A (match b with | true => rule "set.scan.the-table-gave-way" | false => pure ()) Q' E s := by
 cases b <;> first | exact wpAny_pure hq | exact wpAny_rule hq
set_option maxHeartbeats 1000000 in
theorem setAdd_int {a : Addr} {o : Obj} {ns : List Int} {k : Int} {u : Tok} {Q : Bool → Shared → Prop} (ho : s.heap.get? a = some o) (hS : ISet prog w o ns) (hroom : ns.length + 1 < scanBound)
  (h : ∀ r h' o', Heap.SameBut a s.heap h' → h'.get? a = some o' → ISet prog w o' (if k ∈ ns then ns else k :: ns) → Q r { s with heap := h' }) :
  wpAny (model prog w) A (setAddHashed a (.int k u) (hashInt k)) Q E s := by
 obtain ⟨es, ep, t, rfl, hel, hv, hf, ht⟩ := hS
 have hkey : (intKind prog w).is k (.int k u) = true := intKind_is _ _ _ _
 have hlen : es.size = ns.length := by have := hv.length_eq; simpa using this
 have hb : es.size < scanBound := by lia
 unfold setAddHashed setAddHashedIn
 refine wpAny_holding (wpAny_bind (wpAny_setState_of ho rfl hf ?_))
 dsimp only
 refine rE (byScan_of (knd := intKind prog w) rfl hb hel) ?_
 simp only [↓reduceIte]
 unfold setAddByScan
 refine wpAny_bind ?_
 refine wpAny_bind (wpAny_rule ?_)
 refine wpAny_bind (wpAny_setScan_of (knd := intKind prog w) hkey ho rfl hf hel ?_)
 cases hr : List.findIdx? (fun e => (intKind prog w).is k e.2) es.toList with
 | some j =>
  dsimp only
  refine eEA (List.findIdx?_eq_some_iff_getElem.mp hr) fun hj hpj _ => ?_
  have hk : k ∈ ns := hv.mem_iff.mp ((elem_is hel k).mp ⟨es.toList[j], List.getElem_mem hj, hpj⟩)
  have e : s = { s with heap := s.heap } := by cases s; rfl
  refine wpAny_pure (wpAny_pure ?_)
  rw [if_pos hk] at h
  have := h false s.heap _ (Heap.SameBut.refl a s.heap) ho ⟨es, ep, t, rfl, hel, hv, hf, ht⟩
  refine rE e ?_; exact this
 | none =>
  dsimp only
  have hk : k ∉ ns := fun hk => by
   refine eEA ((elem_is hel k).mpr (hv.mem_iff.mpr hk)) fun e he hp => ?_
   have := List.findIdx?_eq_none_iff.mp hr e he
   rw [hp] at this; exact Bool.noConfusion this
  rw [if_neg hk] at h
  have hperm := layNew_perm t es (hashInt k) (.int k u)
  have hfits := layNew_fits t es (hashInt k) (.int k u)
  have htab := ht.layNew es (hashInt k) (.int k u)
  show wpAny _ _ (match layNew t es (hashInt k) (.int k u) with | (es, t, wasDummy, gave) => _) _ _ s
  generalize layNew t es (hashInt k) (.int k u) = L at hperm hfits htab ⊢
  obtain ⟨es1, t1, wasDummy, gave⟩ := L
  dsimp only at hperm hfits htab ⊢
  rw [Array.toList_push] at hperm
  have hel1 : ElemsOf (intKind prog w) es1.toList := (hel.push hkey rfl).perm hperm
  have hv1 : (es1.toList.map fun e => numOf e.2).Perm (k :: ns) := by
   refine (hperm.map _).trans ?_
   refine rE List.map_append ?_
   exact List.perm_append_comm.trans (hv.cons k)
  have hz1 : es1.size = ns.length + 1 := by have := hv1.length_eq; simpa using this
  refine wpAny_bind (hgw _ ?_)
  have fin : ∀ t2 : SetTable, TabOk (w.params.followText "set-order") t2 → t2.fits es1.size = true → wpAny (model prog w) A (do
    storeSet a es1 t2
    if (!wasDummy && t2.tooFull) = true then do
      (match (relayAll t2 es1 (SetTable.grown es1.size)).2.2 with | true => rule "set.scan.the-table-gave-way" | false => pure ())
      storeSet a (relayAll t2 es1 (SetTable.grown es1.size)).1 (relayAll t2 es1 (SetTable.grown es1.size)).2.1
      pure (some true)
     else pure (some true)) (fun r s' => wpAny (model prog w) A (match r with | some added => pure added | none => setAddHashedIn a (.int k u) (hashInt k) 99999) Q E s') E s := by
   intro t2 ht2 hf2
   refine wpAny_bind (wpAny_storeSet_of ho rfl ?_ (fits_of_scanBound (by lia)))
   have ho1 := store_at ho es1 t2
   have hsb1 := Heap.SameBut.update s.heap a (Obj.putSet es1 t2)
   split
   ·have hp := relayAll_perm t2 es1 (SetTable.grown es1.size)
    have hfr := relayAll_fits t2 es1 (SetTable.grown es1.size)
    have htr := ht2.relayAll es1 (SetTable.grown es1.size)
    generalize relayAll t2 es1 (SetTable.grown es1.size) = Rl at hp hfr htr ⊢
    obtain ⟨es2, t3, gave2⟩ := Rl
    dsimp only at hp hfr htr ⊢
    have hsz : es2.size = es1.size := by refine rF Array.length_toList (rE hp.length_eq (rE Array.length_toList rfl))
    refine wpAny_bind (hgw _ ?_)
    refine wpAny_bind (wpAny_storeSet_of ho1 rfl ?_ (fits_of_scanBound (by lia)))
    exact wpAny_pure (wpAny_pure (h true _ _ (hsb1.trans (Heap.SameBut.update _ a _)) (store_at ho1 es2 t3) ⟨es2, _, t3, rfl, hel1.perm hp, (hp.map _).trans hv1, hfr, htr⟩))
   ·exact wpAny_pure (wpAny_pure (h true _ _ hsb1 ho1 ⟨es1, _, t2, rfl, hel1, hv1, hf2, ht2⟩))
  split
  ·refine wpAny_bind ?_
   refine rE (hashByValue_scannable 8 rfl) ?_
   refine wpAny_pure ?_
   simp only [plainKind, ↓reduceIte]
   exact fin t1 htab hfits
  ·refine wpAny_bind (wpAny_pure ?_)
   simp only [↓reduceIte]
   exact fin t1 htab hfits
theorem qc3 {a : Addr} {o : Obj} {ns : List Int} (ho : s.heap.get? a = some o) (hS : ISet prog w o ns) : s.TypeIs (.ref a) "set" := by
 obtain ⟨es, ep, t, rfl, _⟩ := hS
 exact ⟨_, ho, rfl⟩
theorem add_int {a : Addr} {o : Obj} {ns : List Int} {k : Int} {u : Tok} {Q : Value → Shared → Prop} (ho : s.heap.get? a = some o) (hS : ISet prog w o ns) (hroom : ns.length + 1 < scanBound)
  (h : ∀ h' o', Heap.SameBut a s.heap h' → h'.get? a = some o' → ISet prog w o' (if k ∈ ns then ns else k :: ns) → Q .none { s with heap := h', toks := s.toks + 1 }) :
  wpAny (model prog w) A (call (.builtin "set.add") [.ref a, .int k u]) Q E s := by
 refine wpAny_call_entry PySem.F.slot_set_add (qc3 ho hS) PySem.F.entry_set_add ?_ (PySem.F.args_set_add_2 _ _)
 unfold Builtin.«set.add» Builtin.Frozenset.oneOther
 simp only [List.isEmpty_nil, bind_assoc]
 unfold Builtin.Frozenset.addrOf setAdd
 refine wpAny_bind (wpAny_pure ?_)
 try dsimp only
 refine wpAny_bind (wpAny_pure ?_)
 try dsimp only
 refine wpAny_bind ?_
 refine wpAny_holding ?_
 refine wpAny_bind ((intKind prog w).pyHash (intKind_is _ _ _ _) ?_)
 refine setAdd_int (s := { s with toks := s.toks + 1 }) ho hS hroom fun r h' o' hs ho' hS' => ?_
 show wpAny _ _ (ret Value.none) _ _ _
 exact wpAny_pure ⟨_, rfl, h h' o' hs ho' hS'⟩
theorem newSet_int {Q : Value → Shared → Prop} (h : ∀ o, ISet prog w o [] → Q (.ref s.heap.objs.size) { s with heap := s.heap.push o }) : wpAny (model prog w) A (newSet (.type "set")) Q E s := by
 unfold newSet setsByText
 refine wpAny_bind (wpAny_bind (wpAny_askSetting (wpAny_pure ?_)))
 dsimp only
 simp only [newObj]
 refine wpAny_bind (wpAny_alloc (wpAny_pure (h _ ⟨#[], 0, _, rfl, fun e he => by simp at he, .refl _, by rfl, ⟨.nil, ?_⟩⟩)))
 show w.params.followText "set-order" = true ∨ (!w.params.followText "set-order") = true
 cases w.params.followText "set-order" <;> simp
end
end
end Mine
end
section
open PySem PySem.Calls PySem.W PyProof.Rows
set_option maxRecDepth 100000
namespace Mine
noncomputable section
namespace SI
theorem entry_iter : entryFor table "set.__iter__" = some Builtin.«frozenset.__iter__» :=
 entryFor_alias (id' := "frozenset.__iter__") (by kernel_rfl) rfl (by decide +kernel) (by kernel_rfl)
theorem slot_next : Slot "set_iterator" "__next__" "set_iterator.__next__" :=
 .of (owner := "set_iterator") (n := "__next__") (by refine rE (typeLookup_type ..) (rE builtinLookup_eq_fast ?_); kernel_rfl) (by decide +kernel) (by decide +kernel) (by decide +kernel)
  (by first | exact .inl (by decide +kernel) | exact .inr (by decide +kernel)) (by refine rE (isSubtype_type ..) ?_; kernel_rfl)
theorem entry_next : entryFor table "set_iterator.__next__" = some Builtin.«set_iterator.__next__» := entryFor_of_tree (by kernel_rfl)
theorem args_next (a : Value) : argsOk "set_iterator.__next__" ⟨[a], []⟩ := by unfold argsOk; kernel_rfl
theorem nolen : typeLookup (.type "set_iterator") "__len__" = pure none := by refine rE (typeLookup_type ..) (rE builtinLookup_eq_fast ?_); kernel_rfl
theorem hint : typeLookup (.type "set_iterator") "__length_hint__" = pure (some (.builtin "set_iterator.__length_hint__")) := by refine rE (typeLookup_type ..) (rE builtinLookup_eq_fast ?_); kernel_rfl
end SI
theorem cons_erase {α : Type} {l : List α} {i : Nat} (h : i < l.length) : (l[i] :: l.eraseIdx i).Perm l := by
 refine rE (List.eraseIdx_eq_take_drop_succ ..) ?_
 refine List.perm_middle.symm.trans (.of_eq ?_)
 conv => rhs; rw [← List.take_append_drop i l, List.drop_eq_getElem_cons h]
noncomputable abbrev itObj (a : Addr) (f : Value) (i n ep : Nat) : Obj := { cls := .type "set_iterator", data := .fields #[f, rawInt i, .ref a, rawInt n, rawInt ep] }
theorem pick_go {α : Type} (next : Nat → Nat) : ∀ (fuel k : Nat) (left : List α) (out : Array α), left.length ≤ fuel → (pickOrder.go next fuel k left out).toList.Perm (out.toList ++ left)
 | 0, k, left, out, h => by
  have : left = [] := List.length_eq_zero_iff.mp (by exact Nat.eq_zero_of_le_zero h)
  subst this
  unfold pickOrder.go; simp
 | fuel + 1, k, left, out, h => by
  unfold pickOrder.go
  cases e : left[next k % left.length]? with
  | none =>
   have : left = [] := by
    cases left with
    | nil => rfl
    | cons x l =>
     have := List.getElem?_eq_none_iff.mp e
     have := Nat.mod_lt (next k) (show 0 < (x :: l).length by exact Nat.zero_lt_succ l.length)
     lia
   subst this; simp
  | some x =>
   dsimp only
   refine eE (List.getElem?_eq_some_iff.mp e) fun hl hx => ?_
   refine (pick_go next fuel (k + 1) _ _ (by refine rE List.length_eraseIdx ?_; split <;> (exact Nat.sub_le_of_le_add h))).trans ?_
   refine rE Array.toList_push (rE (List.append_assoc ..) ?_)
   refine List.Perm.append_left _ ?_
   have := (cons_erase hl)
   rw [hx] at this
   exact this
theorem pick_perm {α : Type} (next : Nat → Nat) (xs : Array α) : (pickOrder next xs).toList.Perm xs.toList := by
 have := pick_go next xs.size 0 xs.toList #[] (by exact Nat.le_refl xs.toList.length)
 simpa [pickOrder] using this
section
variable {prog : Program} {w : World} {A : Around} {E : Value → Shared → Prop} {s : Shared}
theorem wpAny_choose {M : Model} {src : Source} {n : Nat} {Q : Nat → Shared → Prop} (hn : n ≠ 0) (h : ∀ k d, k < n → Q k { s with drawn := d }) : wpAny M A (choose src n) Q E s :=
 fun Γ p _ => by
  show Sem.wp M Γ (.choose src n .pure) _ _ p s
  refine rE (Sem.wp_choose ..) ?_
  refine ⟨hn, ?_⟩
  refine rE (Sem.wp_pure ..) ?_
  exact h _ _ (Nat.mod_lt _ (Nat.pos_of_ne_zero hn))
theorem draw_order {α : Type} : ∀ (l : List α) {s : Shared} {Q : List α → Shared → Prop}, (∀ r d, r.Perm l → Q r { s with drawn := d }) → wpAny (model prog w) A (drawOrder l.length l) Q E s := by
 intro l
 generalize hn : l.length = n
 induction n generalizing l with
 | zero =>
  intro s Q h
  have : l = [] := List.length_eq_zero_iff.mp hn
  subst this
  unfold drawOrder
  exact wpAny_pure (h [] s.drawn (.refl _))
 | succ n ih =>
  intro s Q h
  cases l with
  | nil => cases hn
  | cons x l =>
   unfold drawOrder
   refine wpAny_bind (wpAny_choose (by exact Ne.symm (Nat.zero_ne_add_one l.length)) fun k d hk => ?_)
   refine rE (List.getElem?_eq_getElem hk) ?_
   dsimp only
   refine wpAny_bind (ih ((x :: l).eraseIdx k) (by refine rE List.length_eraseIdx (rE (if_pos hk) (rE hn ?_)); rfl) fun r d' hr => ?_)
   exact wpAny_pure (h _ d' ((hr.cons _).trans (cons_erase hk)))
structure SetGo (prog : Program) (w : World) (A : Around) (I : Addr) (vs : List Value) (ok : Nat → Heap → Prop) : Prop where
 type : ∀ i (s : Shared), ok i s.heap → s.TypeIs (.ref I) "set_iterator"
 item : ∀ i (s : Shared) (v : Value) (Q : Option Value → Shared → Prop) (E : Value → Shared → Prop), ok i s.heap → vs[i]? = some v →
  (∀ h', ok (i + 1) h' → Heap.SameBut I s.heap h' → Q (some v) { s with heap := h' }) → wpAny (model prog w) A (pyNext (.ref I)) Q E s
 done : ∀ (s : Shared) (Q : Option Value → Shared → Prop) (E : Value → Shared → Prop), ok vs.length s.heap → (∀ h', Heap.ExtBut I s.heap h' → Q none { s with heap := h' }) → wpAny (model prog w) A (pyNext (.ref I)) Q E s
theorem qc6 {h : Heap} {I : Addr} {vs : Array Value} (ho : h.get? I = some { cls := .type "set_iterator", data := .fields vs }) (i : Nat) (x : Value) :
  (h.update I (Obj.mapFields (·.setIfInBounds i x))).get? I = some { cls := .type "set_iterator", data := .fields (vs.setIfInBounds i x) } := by
 exact Heap.get?_update_self (Obj.mapFields (·.setIfInBounds i x)) ho rfl
theorem next_stop {R : Fin → Shared → Prop} {I : Addr} {Q : Option Value → Shared → Prop} {s : Shared} {h₀ : Heap} (hA : A.handled = none) (hs : Heap.ExtBut I h₀ s.heap) (hQ : ∀ h', Heap.ExtBut I h₀ h' → Q none { s with heap := h' }) :
  wpAny (model prog w) A.in1 (do raiseNew (← newExc (.type "StopIteration") []) : Sem Fin) R
   (fun e s' => wpAny (model prog w) A (do if ← isInstance e (.type "StopIteration") then pure none else throw e : Sem (Option Value)) Q E s') s := by
 refine wpAny_bind ?_
 simp only [newExc, newTuple]
 refine wpAny_bind (wpAny_newObj_type ?_ (by size_fits))
 refine wpAny_bind (m := firstArgMember _ _) (wpAny_of_eq (a := Value.none) (by first | rfl | (simp only [firstArgMember]; rfl)) ?_)
 refine wpAny_newObj_type ?_ (by size_fits)
 unfold raiseNew
 refine wpAny_bind (wpAny_handled ?_)
 refine rE (show A.in1.handled = none from hA) ?_
 refine wpAny_bind (wpAny_pure (wpAny_throw ?_))
 refine wpAny_bind (wpAny_isInstance (T := "StopIteration") (b := true) ⟨_, Heap.get?_push_size _ rfl, rfl⟩ isSubtype_stop ?_)
 exact wpAny_pure (hQ _ ((hs.push _).push _))
end
end
end Mine
end
section
open PySem PySem.Calls PySem.W PyProof.Rows
set_option maxRecDepth 100000
namespace Mine
noncomputable section
section
variable {prog : Program} {w : World} {A : Around} {E : Value → Shared → Prop} {s : Shared} {a I T : Addr} {es : Array (Int × Value)} {ep : Nat} {t : SetTable} {vs : List Value}
noncomputable abbrev setObj (es : Array (Int × Value)) (ep : Nat) (t : SetTable) : Obj := { cls := .type "set", dict := none, data := .set es ep t, slots := #[] }
noncomputable def Ok1 (a I : Addr) (es : Array (Int × Value)) (ep : Nat) (t : SetTable) (sok : Nat → Nat → Prop) (i : Nat) (h : Heap) : Prop :=
 h.get? a = some (setObj es ep t) ∧ ∃ slot, sok i slot ∧ h.get? I = some (itObj a (rawInt (slot : Nat)) i es.size ep)
theorem go1 {sok : Nat → Nat → Prop} (hA : A.handled = none) (hne : a ≠ I) (fit : t.fits es.size = true)
  (nx : ∀ (i slot : Nat) (s : Shared) (Q : Option (Value × Nat) → Shared → Prop) (E : Value → Shared → Prop), sok i slot → s.heap.get? a = some (setObj es ep t) → (∀ next, sok (i + 1) next ∨ vs[i]? = none → Q (vs[i]?.map (·, next)) s) → wpAny (model prog w) A.in1 (setNext a slot i ep) Q E s) :
  SetGo prog w A I vs (Ok1 a I es ep t sok) where
 type := fun i s ⟨_, slot, _, hit⟩ => ⟨_, hit, rfl⟩
 item := fun i s v Q E hok hv hQ => by
  obtain ⟨hset, slot, hsl, hit⟩ := hok
  have hT : s.TypeIs (.ref I) "set_iterator" := ⟨_, hit, rfl⟩
  unfold pyNext
  refine wpAny_bind (wpAny_attempt (wpAny_callSpecial?_slot (name := Str.ofString "__next__") hT SI.slot_next
   (wpAny_call_entry SI.slot_next hT SI.entry_next ?_ (SI.args_next _))))
  refine wpAny_bind (wpAny_pure ?_)
  refine wpAny_bind (wpAny_fieldsOf hit rfl ?_)
  show wpAny _ _ (setEntries a >>= _) _ _ s
  refine wpAny_bind (wpAny_setEntries_of hset rfl fit ?_)
  refine rE (if_neg (by simp)) ?_
  show wpAny _ _ (setNext a slot i ep >>= _) _ _ s
  refine wpAny_bind (nx i slot s _ _ hsl hset fun next hn => ?_)
  refine rE hv ?_
  show wpAny _ _ (setField (.ref I) 0 (rawInt next) >>= _) _ _ s
  refine wpAny_bind (wpAny_setField hit rfl (by exact PySem.size_pos_of_not_empty rfl) ?_)
  refine wpAny_bind (wpAny_setField (qc6 hit 0 _) rfl (by exact Nat.one_lt_succ_succ [PySem.Value.ref a, PySem.rawInt ↑es.size, PySem.rawInt ↑ep].length) ?_)
  refine wpAny_pure ⟨_, rfl, wpAny_pure (hQ _ ⟨?_, next, hn.resolve_right (by refine rE hv ?_; simp), ?_⟩ ((Heap.SameBut.update ..).trans (Heap.SameBut.update ..)))⟩
  ·exact (Heap.get?_update_other _ _ (Ne.symm hne)).trans ((Heap.get?_update_other _ _ (Ne.symm hne)).trans hset)
  ·exact qc6 (qc6 hit 0 _) 1 _
 done := fun s Q E hok hQ => by
  obtain ⟨hset, slot, hsl, hit⟩ := hok
  have hT : s.TypeIs (.ref I) "set_iterator" := ⟨_, hit, rfl⟩
  unfold pyNext
  refine wpAny_bind (wpAny_attempt (wpAny_callSpecial?_slot (name := Str.ofString "__next__") hT SI.slot_next
   (wpAny_call_entry SI.slot_next hT SI.entry_next ?_ (SI.args_next _))))
  refine wpAny_bind (wpAny_pure ?_)
  refine wpAny_bind (wpAny_fieldsOf hit rfl ?_)
  show wpAny _ _ (setEntries a >>= _) _ _ s
  refine wpAny_bind (wpAny_setEntries_of hset rfl fit ?_)
  refine rE (if_neg (by simp)) ?_
  show wpAny _ _ (setNext a slot vs.length ep >>= _) _ _ s
  refine wpAny_bind (nx vs.length slot s _ _ hsl hset fun next hn => ?_)
  refine rE (List.getElem?_eq_none (Nat.le_refl _)) ?_
  show wpAny _ _ (setField (.ref I) 2 .none >>= _) _ _ s
  refine wpAny_bind (wpAny_setField hit rfl (by exact Nat.lt_of_sub_eq_succ rfl) ?_)
  refine next_stop (h₀ := s.heap) hA ?_ fun h' hs => hQ h' hs
  exact (Heap.SameBut.update ..).extBut
noncomputable def Ok2 (a I T : Addr) (es : Array (Int × Value)) (ep : Nat) (t : SetTable) (ds : List Nat) (i : Nat) (h : Heap) : Prop :=
 h.get? a = some (setObj es ep t) ∧ h.get? T = some (seqObj "tuple" (ds.map fun (i : Nat) => rawInt i).toArray 0) ∧ h.get? I = some (itObj a (.ref T) i es.size ep)
theorem go2 {ds : List Nat} (hA : A.handled = none) (hne : a ≠ I) (hTI : T ≠ I) (fit : t.fits es.size = true) (hz : ds.length = vs.length) (hd : ∀ (i p : Nat), ds[i]? = some p → ∃ e : Int × Value, es[p]? = some e ∧ vs[i]? = some e.2) :
  SetGo prog w A I vs (Ok2 a I T es ep t ds) where
 type := fun i s ⟨_, _, hit⟩ => ⟨_, hit, rfl⟩
 item := fun i s v Q E hok hv hQ => by
  obtain ⟨hset, htup, hit⟩ := hok
  have hT : s.TypeIs (.ref I) "set_iterator" := ⟨_, hit, rfl⟩
  unfold pyNext
  refine wpAny_bind (wpAny_attempt (wpAny_callSpecial?_slot (name := Str.ofString "__next__") hT SI.slot_next
   (wpAny_call_entry SI.slot_next hT SI.entry_next ?_ (SI.args_next _))))
  refine wpAny_bind (wpAny_pure ?_)
  refine wpAny_bind (wpAny_fieldsOf hit rfl ?_)
  show wpAny _ _ (setEntries a >>= _) _ _ s
  refine wpAny_bind (wpAny_setEntries_of hset rfl fit ?_)
  refine rE (if_neg (by simp)) ?_
  show wpAny _ _ (seqItems? (.ref T) >>= _) _ _ s
  refine wpAny_bind (wpAny_seqItems htup rfl ?_)
  have hi : i < ds.length := by refine rE hz ?_; exact (List.getElem?_eq_some_iff.mp hv).1
  have hp : ds[i]? = some ds[i] := List.getElem?_eq_getElem hi
  refine eEA (hd i _ hp) fun e he hve => ?_
  have hve' : e.2 = v := Option.some.inj (hve.symm.trans hv)
  show wpAny _ _ (match (ds.map fun (i : Nat) => rawInt i).toArray[i]? with | some (.int place _) => _ | some _ => _ | none => _) _ _ s
  refine rE (show (ds.map fun (i : Nat) => rawInt i).toArray[i]? = some (rawInt (ds[i] : Nat)) by rw [List.getElem?_toArray, List.getElem?_map, hp]; rfl) ?_
  show wpAny _ _ (setNextDrawn a ds[i] ep >>= _) _ _ s
  unfold setNextDrawn
  refine wpAny_bind (wpAny_bind (wpAny_setState_of hset rfl fit ?_))
  dsimp only
  refine rE (if_neg (by simp)) (rE he ?_)
  refine wpAny_pure ?_
  show wpAny _ _ (setField (.ref I) 1 (rawInt ((i : Int) + 1)) >>= _) _ _ s
  refine wpAny_bind (wpAny_setField hit rfl (by exact Nat.one_lt_succ_succ [PySem.Value.ref a, PySem.rawInt ↑es.size, PySem.rawInt ↑ep].length) ?_)
  subst hve'
  refine wpAny_pure ⟨_, rfl, wpAny_pure (hQ _ ⟨?_, ?_, ?_⟩ (Heap.SameBut.update ..))⟩
  ·exact (Heap.get?_update_other _ _ (Ne.symm hne)).trans hset
  ·exact (Heap.get?_update_other _ _ (Ne.symm hTI)).trans htup
  ·exact qc6 hit 1 _
 done := fun s Q E hok hQ => by
  obtain ⟨hset, htup, hit⟩ := hok
  have hT : s.TypeIs (.ref I) "set_iterator" := ⟨_, hit, rfl⟩
  unfold pyNext
  refine wpAny_bind (wpAny_attempt (wpAny_callSpecial?_slot (name := Str.ofString "__next__") hT SI.slot_next
   (wpAny_call_entry SI.slot_next hT SI.entry_next ?_ (SI.args_next _))))
  refine wpAny_bind (wpAny_pure ?_)
  refine wpAny_bind (wpAny_fieldsOf hit rfl ?_)
  show wpAny _ _ (setEntries a >>= _) _ _ s
  refine wpAny_bind (wpAny_setEntries_of hset rfl fit ?_)
  refine rE (if_neg (by simp)) ?_
  show wpAny _ _ (seqItems? (.ref T) >>= _) _ _ s
  refine wpAny_bind (wpAny_seqItems htup rfl ?_)
  show wpAny _ _ (match (ds.map fun (i : Nat) => rawInt i).toArray[vs.length]? with | some (.int place _) => _ | some _ => _ | none => _) _ _ s
  refine rE (show (ds.map fun (i : Nat) => rawInt i).toArray[vs.length]? = none by rw [List.getElem?_toArray, List.getElem?_map, List.getElem?_eq_none (by exact Nat.le_of_eq hz)]; rfl) ?_
  show wpAny _ _ (setField (.ref I) 0 (rawInt 0) >>= _) _ _ s
  refine wpAny_bind (wpAny_setField hit rfl (by exact PySem.size_pos_of_not_empty rfl) ?_)
  refine wpAny_bind (wpAny_setField (qc6 hit 0 _) rfl (by exact Nat.lt_of_sub_eq_succ rfl) ?_)
  refine next_stop (h₀ := s.heap) hA ?_ fun h' hs => hQ h' hs
  exact ((Heap.SameBut.update ..).trans (Heap.SameBut.update ..)).extBut
end
end
end Mine
end
section
open PySem PySem.Calls PySem.W PyProof.Rows
set_option maxRecDepth 100000
namespace Mine
noncomputable section
section
variable {prog : Program} {w : World} {A : Around} {E : Value → Shared → Prop} {s : Shared} {a : Addr} {o : Obj} {ns : List Int}
theorem qda {Q : Bool → Shared → Prop} (h : Q (w.params.followText "set-order") s) : wpAny (model prog w) A setsByText Q E s := by
 unfold setsByText
 exact wpAny_bind (wpAny_askSetting (wpAny_pure h))
structure Gives (prog : Program) (w : World) (A : Around) (s : Shared) (a : Addr) (ns : List Int) (I : Addr) (h' : Heap) (vs : List Value) (ok : Nat → Heap → Prop) : Prop where
 new : s.heap.get? I = none
 keep : ∀ b o, s.heap.get? b = some o → h'.get? b = some o
 go : SetGo prog w A I vs ok
 start : ok 0 h'
 frame : ∀ S i h₁ h₂, S ≠ a → s.heap.get? S ≠ none → ok i h₁ → (∀ b o, b ≠ S → h₁.get? b = some o → h₂.get? b = some o) → ok i h₂
 vints : ∀ v ∈ vs, ∃ n t, v = .int n t
 vals : (vs.map numOf).Perm ns
theorem qbu {h : Heap} {b : Addr} (hb : h.objs.size ≤ b) : h.get? b = none := by
 cases e : h.get? b with
 | none => rfl
 | some o => exact absurd (Heap.lt_size e) (Nat.not_lt.mpr hb)
theorem ne_of_old {h : Heap} {b c : Addr} (hb : h.get? b ≠ none) (hc : h.get? c = none) : c ≠ b := fun e => hb (e ▸ hc)
theorem qb4 (h : Heap) (o : Obj) : ∀ b x, h.get? b = some x → (h.push o).get? b = some x := fun _ _ e => Heap.get?_push_of_some o e
theorem iter_set {Q : Value → Shared → Prop} (hA : A.handled = none) (ho : s.heap.get? a = some o) (hS : ISet prog w o ns) (hz : ns.length < scanBound)
  (h : ∀ I h' d vs ok, Gives prog w A s a ns I h' vs ok → Q (.ref I) { s with heap := h', drawn := d }) : wpAny (model prog w) A (pyIter (.ref a)) Q E s := by
 have hT := qc3 ho hS
 obtain ⟨es, ep, t, rfl, hel, hv, hf, ht⟩ := hS
 have hlen : es.size = ns.length := by have := hv.length_eq; simpa using this
 refine wpAny_pyIter_slot hT PySem.F.slot_set_iter (wpAny_call_entry PySem.F.slot_set_iter hT SI.entry_iter ?_ (PySem.F.args_set_iter_1 _))
 unfold Builtin.«frozenset.__iter__» Builtin.Frozenset.slot0 slotArgs
 simp only [List.isEmpty_nil, Bool.not_true, Bool.false_eq_true, ↓reduceIte, bind_assoc, List.length_nil, bne_self_eq_false]
 unfold Builtin.Frozenset.addrOf Builtin.Frozenset.sizeOf
 refine wpAny_bind (wpAny_pure ?_)
 try dsimp only
 refine wpAny_bind (wpAny_pure ?_)
 refine wpAny_bind (wpAny_bind (wpAny_setEntries_of ho rfl hf (wpAny_pure ?_)))
 have haI : ∀ b, s.heap.objs.size ≤ b → a ≠ b := fun b hb => Nat.ne_of_lt (Nat.lt_of_lt_of_le (Heap.lt_size ho) hb)
 have hints : ∀ l : List (Int × Value), l.Perm es.toList → ∀ v ∈ l.map (·.2), ∃ n u, v = Value.int n u := fun l hl v hv' => by
  refine eEA (List.mem_map.mp hv') fun e he zz2 => ?_; subst zz2
  refine eE (elem_int hel (hl.mem_iff.mp he)) fun u hu => ?_
  exact ⟨_, u, hu⟩
 have hvals : ∀ l : List (Int × Value), l.Perm es.toList → ((l.map (·.2)).map numOf).Perm ns := fun l hl => by
  refine rE List.map_map ?_; exact (hl.map _).trans hv
 unfold setDrawn
 refine wpAny_bind (wpAny_bind (wpAny_setState_of ho rfl hf ?_))
 refine wpAny_bind (qda ?_)
 show wpAny _ _ (pure (!w.params.followText "set-order" && (!t.plain && decide (es.size > 1)))) _ _ s
 refine wpAny_pure ?_
 by_cases hdr : (!w.params.followText "set-order" && (!t.plain && decide (es.size > 1))) = true
 ·refine rE (if_pos hdr) ?_
  refine wpAny_bind ?_
  refine rE (show drawOrder es.size (List.range es.size) = drawOrder (List.range es.size).length (List.range es.size) by rw [List.length_range]) ?_
  refine draw_order _ fun ds d hds => ?_
  have hdl : ds.length = es.size := by refine rE hds.length_eq (rE List.length_range rfl)
  refine wpAny_bind (wpAny_newTuple ?_ (by refine rE (List.length_map ..) (rE hdl ?_); exact fits_of_scanBound (by lia)))
  refine wpAny_bind (wpAny_setEpoch_of (s := { s with heap := s.heap.push (seqObj "tuple" (ds.map fun (i : Nat) => rawInt i).toArray 0), drawn := d }) (Heap.get?_push_of_some _ ho) rfl hf ?_)
  refine wpAny_bind (wpAny_newObj_type (wpAny_pure ⟨_, rfl, "set_iterator", _, ⟨_, Heap.get?_push_size _ rfl, rfl⟩, SI.slot_next.lookup, ?_⟩))
  have hsz : (s.heap.push (seqObj "tuple" (ds.map fun (i : Nat) => rawInt i).toArray 0)).objs.size = s.heap.objs.size + 1 := size_push' ..
  have hp : (ds.map fun p => es.getD p (0, .none)).Perm es.toList := by
   refine (hds.map _).trans (.of_eq ?_)
   refine List.ext_getElem? fun i => ?_
   refine rE List.getElem?_map (rE (Array.getElem?_toList (xs := es)) ?_)
   by_cases hi : i < es.size
   ·refine rE (List.getElem?_range hi) (rE (getElem?_pos es i hi) (rE (Option.map_some ..) (rE Array.getD_eq_getD_getElem? (rE (getElem?_pos es i hi) ?_)))); rfl
   ·refine rE (List.getElem?_eq_none (by simp; exact Nat.le_of_not_lt hi)) (rE (Array.getElem?_eq_none (by exact Nat.le_of_not_lt hi)) ?_); rfl
  have hTI : s.heap.objs.size ≠ (s.heap.push (seqObj "tuple" (ds.map fun (i : Nat) => rawInt i).toArray 0)).objs.size := by refine rE hsz ?_; exact Nat.ne_of_lt (Nat.lt_succ_self _)
  refine h (s.heap.push (seqObj "tuple" (ds.map fun (i : Nat) => rawInt i).toArray 0)).objs.size ((s.heap.push (seqObj "tuple" (ds.map fun (i : Nat) => rawInt i).toArray 0)).push (itObj a (.ref s.heap.objs.size) 0 es.size ep)) d ((ds.map fun p => es.getD p (0, .none)).map (·.2)) (Ok2 a _ s.heap.objs.size es ep t ds) ⟨qbu (by refine rE hsz ?_; exact Nat.le_succ _), fun b o e => qb4 _ _ b o (qb4 _ _ b o e), go2 hA (haI _ (by refine rE hsz ?_; exact Nat.le_succ _)) hTI hf (by simp) ?_, ⟨Heap.get?_push_of_some _ (Heap.get?_push_of_some _ ho), Heap.get?_push_of_some _ (Heap.get?_push_size _ rfl), Heap.get?_push_size _ rfl⟩, ?_, hints _ hp, hvals _ hp⟩
  ·intro i p hi
   have hpl : p < es.size := List.mem_range.mp (hds.mem_iff.mp (List.mem_of_getElem? hi))
   refine ⟨es[p], getElem?_pos es p hpl, ?_⟩
   refine rE List.map_map (rE List.getElem?_map (rE hi (rE (Option.map_some ..) ?_)))
   show some (es.getD p (0, .none)).2 = _
   refine rE Array.getD_eq_getD_getElem? (rE (getElem?_pos es p hpl) ?_); rfl
  ·exact fun S i h₁ h₂ hSa hSn ⟨x1, x2, x3⟩ k => ⟨k a _ (Ne.symm hSa) x1, k _ _ (ne_of_old hSn (qbu (Nat.le_refl _))) x2, k _ _ (ne_of_old hSn (qbu (by refine rE hsz ?_; exact Nat.le_succ _))) x3⟩
 ·refine rE (if_neg hdr) ?_
  refine wpAny_bind (wpAny_pure ?_)
  refine wpAny_bind (wpAny_setEpoch_of ho rfl hf ?_)
  refine wpAny_bind (wpAny_newObj_type (wpAny_pure ⟨_, rfl, "set_iterator", _, ⟨_, Heap.get?_push_size _ rfl, rfl⟩, SI.slot_next.lookup, ?_⟩))
  have fr : ∀ (sok : Nat → Nat → Prop) S i h₁ h₂, S ≠ a → s.heap.get? S ≠ none → Ok1 a s.heap.objs.size es ep t sok i h₁ → (∀ b o, b ≠ S → h₁.get? b = some o → h₂.get? b = some o) → Ok1 a s.heap.objs.size es ep t sok i h₂ :=
   fun sok S i h₁ h₂ hSa hSn ⟨x1, slot, x2, x3⟩ k => ⟨k a _ (Ne.symm hSa) x1, slot, x2, k _ _ (ne_of_old hSn (qbu (Nat.le_refl _))) x3⟩
  have st : ∀ sok : Nat → Nat → Prop, sok 0 0 → Ok1 a s.heap.objs.size es ep t sok 0 (s.heap.push (itObj a (rawInt 0) 0 es.size ep)) := fun sok h0 => ⟨Heap.get?_push_of_some _ ho, 0, h0, Heap.get?_push_size _ rfl⟩
  by_cases hbt : w.params.followText "set-order" = true
  ·refine h s.heap.objs.size (s.heap.push (itObj a (rawInt 0) 0 es.size ep)) s.drawn ((pickOrder (w.params.setOrder a ep) es).toList.map (·.2)) (Ok1 a s.heap.objs.size es ep t fun _ _ => True) ⟨qbu (Nat.le_refl _), qb4 _ _, go1 hA (haI _ (Nat.le_refl _)) hf ?_, st _ trivial, fun S i h₁ h₂ => fr _ S i h₁ h₂, hints _ (pick_perm _ _), hvals _ (pick_perm _ _)⟩
   intro i slot s₂ Q₂ E₂ _ hs hq
   unfold setNext
   refine wpAny_bind (wpAny_setState_of hs rfl hf ?_)
   dsimp only
   refine wpAny_bind (qda ?_)
   refine rE (if_pos hbt) (rE (if_neg (by simp)) ?_)
   refine wpAny_bind ?_
   unfold setWalk
   refine wpAny_bind (wpAny_setState_of hs rfl hf ?_)
   dsimp only
   refine wpAny_bind (qda ?_)
   refine rE (if_pos hbt) ?_
   refine wpAny_bind (wpAny_askSetting (wpAny_pure ?_))
   refine wpAny_pure ?_
   have := hq slot (.inl trivial)
   rw [List.getElem?_map, Array.getElem?_toList, Option.map_map] at this
   exact this
  ·refine h s.heap.objs.size (s.heap.push (itObj a (rawInt 0) 0 es.size ep)) s.drawn (es.toList.map (·.2)) (Ok1 a s.heap.objs.size es ep t fun i slot => SetTable.below t.place slot = i) ⟨qbu (Nat.le_refl _), qb4 _ _, go1 hA (haI _ (Nat.le_refl _)) hf ?_, st _ (below_zero ht.rise), fun S i h₁ h₂ => fr _ S i h₁ h₂, hints _ (.refl _), hvals _ (.refl _)⟩
   intro i slot s₂ Q₂ E₂ hsl hs hq
   have hpl : (!t.plain && decide (es.size > 1)) = false := by
    cases q : (!t.plain && decide (es.size > 1)) with
    | false => rfl
    | true => exact absurd (by rw [q, Bool.not_eq_true] at *; simp [hbt]) hdr
   have hled : t.led = true := ht.led.resolve_left hbt
   have hzp : t.place.size = es.size := by
    simp only [SetTable.fits, Bool.and_eq_true, beq_iff_eq] at hf; exact hf.1
   unfold setNext
   refine wpAny_bind (wpAny_setState_of hs rfl hf ?_)
   dsimp only
   refine wpAny_bind (qda ?_)
   refine rE (if_neg hbt) ?_
   show wpAny _ _ (if (!t.plain && decide (es.size > 1)) = true then _ else _) _ _ _
   refine rE (if_neg (by rw [hpl]; decide)) ?_
   refine wpAny_bind ?_
   show wpAny _ _ (if (!t.led && !es.isEmpty) = true then unsupported "set:maker-not-led" else pure ()) _ _ _
   refine rE (if_neg (by rw [hled]; simp)) ?_
   refine wpAny_pure (wpAny_pure ?_)
   refine rE hsl ?_
   cases hp : t.place[i]? with
   | none =>
    have : es[i]? = none := Array.getElem?_eq_none (by have := Array.getElem?_eq_none_iff.mp hp; lia)
    have hvn : (es.toList.map (·.2))[i]? = none := by refine rE List.getElem?_map (rE Array.getElem?_toList (rE this ?_)); rfl
    have := hq 0 (.inr hvn)
    rw [hvn] at this
    refine rE (‹es[i]? = none›) ?_
    exact this
   | some j =>
    have hlt : i < es.size := by have := (Array.getElem?_eq_some_iff.mp hp).1; exact Nat.lt_of_lt_of_eq this hzp
    have he : es[i]? = some es[i] := getElem?_pos es i hlt
    have := hq (j + 1) (.inl (below_next ht.rise hp))
    rw [List.getElem?_map, Array.getElem?_toList, he] at this
    refine rE he ?_
    exact this
end
end
end Mine
end
section
open PySem PySem.Calls PySem.W PyProof.Rows
set_option maxRecDepth 100000
namespace Mine
noncomputable section
section
variable {prog : Program} {w : World} {A : Around} {E : Value → Shared → Prop} {s : Shared} {a : Addr} {o : Obj} {ns : List Int}
theorem ext_loop {I S : Addr} {vs : List Value} {ok : Nat → Heap → Prop} {res : Value} {R : Result → Shared → Prop} (G : SetGo prog w A.in1 I vs ok) (hSI : S ≠ I) (hn : vs.length ≤ sizeLine)
  (fr : ∀ i h₁ h₂, ok i h₁ → (∀ b o, b ≠ S → h₁.get? b = some o → h₂.get? b = some o) → ok i h₂) :
  ∀ (k i : Nat) (s : Shared) (acc : Array Value) (c : Nat), vs.length - i = k → i ≤ vs.length → ok i s.heap → s.heap.get? S = some (seqObj "list" acc c) → acc.toList = vs.take i →
  (∀ h' c', (∀ b o, b ≠ S → b ≠ I → s.heap.get? b = some o → h'.get? b = some o) → h'.get? S = some (seqObj "list" vs.toArray c') → R (.ok (.ret res)) { s with heap := h' }) →
  codeAny (model prog w) A (.builtin "list.extend.loop" ⟨[.ref S, .ref I, res], []⟩) R s := by
 intro k
 induction k with
 | zero =>
  intro i s acc c hk hi hok hS hacc hR
  have hin : i = vs.length := by grind
  subst hin
  refine codeAny_builtin PySem.F.entry_extend_loop ?_
  refine rE (Around.under_plainId PySem.F.plain_extend_loop _) ?_
  show wpAny _ A.in1 (pyNext (.ref I) >>= _) _ _ s
  refine wpAny_bind (G.done s _ _ hok fun h' hs => ?_)
  refine wpAny_pure (hR h' c (fun b o hb hb2 e => hs b o hb2 e) ?_)
  rw [List.take_length] at hacc
  refine rF hacc ?_
  exact hs S _ hSI hS
 | succ k ih =>
  intro i s acc c hk hi hok hS hacc hR
  have hlt : i < vs.length := by exact Nat.lt_of_sub_eq_succ hk
  have hv : vs[i]? = some vs[i] := List.getElem?_eq_getElem hlt
  have hz : acc.size = i := by have := congrArg List.length hacc; rw [Array.length_toList, List.length_take] at this; lia
  refine codeAny_builtin PySem.F.entry_extend_loop ?_
  refine rE (Around.under_plainId PySem.F.plain_extend_loop _) ?_
  show wpAny _ A.in1 (pyNext (.ref I) >>= _) _ _ s
  refine wpAny_bind (G.item i s vs[i] _ _ hok hv fun h' hok' hs => ?_)
  have hS' := hs.extBut S _ hSI hS
  show wpAny _ A.in1 (updateSeq S (·.push vs[i]) >>= _) _ _ _
  refine wpAny_bind ?_
  refine wpAny_updateSeq hS' rfl (wpAny_pure ⟨plainId_quiet PySem.F.plain_extend_loop _, ih (i + 1) _ (acc.push vs[i]) _ (by grind) hlt (fr _ _ _ hok' fun b o hb e => ?_) (Heap.get?_update_self _ hS' rfl) ?_ fun h'' c' hk' hS'' => ?_⟩)
   (by refine rE hz ?_; exact Nat.le_trans hi hn) (by show (acc.push vs[i]).size ≤ sizeLine + 1; refine rE (Array.size_push ..) (rE hz ?_); lia)
  ·exact (Heap.get?_update_other _ _ (Ne.symm hb)).trans e
  ·refine rE Array.toList_push (rE hacc (rE List.take_add_one (rE hv ?_))); rfl
  ·exact hR h'' c' (fun b o hb hb2 e => hk' b o hb hb2 ((Heap.get?_update_other _ _ (Ne.symm hb)).trans (hs.extBut b o hb2 e))) hS''
set_option maxHeartbeats 1000000 in
theorem collect_set {Q : List Value → Shared → Prop} (hA : A.handled = none) (ho : s.heap.get? a = some o) (hS : ISet prog w o ns) (hz : ns.length < scanBound)
  (h : ∀ h' d vs, (∀ b o, s.heap.get? b = some o → h'.get? b = some o) → (∀ v ∈ vs, ∃ n t, v = Value.int n t) → (vs.map numOf).Perm ns → Q vs { s with heap := h', drawn := d }) :
  wpAny (model prog w) A (collect (.ref a)) Q E s := by
 have hSa : s.heap.objs.size ≠ a := fun e => by have := Heap.lt_size ho; rw [← e] at this; exact Nat.lt_irrefl _ this
 unfold collect
 refine wpAny_bind (wpAny_runValue (codeAny_builtin PySem.F.entry_proto_collect ?_))
 refine rE (Around.under_plainId PySem.F.plain_proto_collect _) ?_
 show wpAny _ A.in1 (newList [] >>= fun l => again (.builtin "list.__iadd__" ⟨[l, .ref a], []⟩)) _ _ s
 refine wpAny_bind (wpAny_newObj_type ?_)
 refine wpAny_pure ⟨plainId_quiet PySem.F.plain_list_iadd _, codeAny_builtin PySem.F.entry_list_iadd ?_⟩
 refine rE (Around.under_plainId PySem.F.plain_list_iadd _) ?_
 generalize hH1 : s.heap.push { cls := .type "list", data := .seq ([] : List Value).toArray } = H1
 generalize hSd : s.heap.objs.size = S at *
 have keep1 : ∀ b o, s.heap.get? b = some o → H1.get? b = some o := by refine rF hH1 ?_; exact qb4 _ _
 have hS1 : H1.get? S = some (seqObj "list" #[] 0) := by refine rF hH1 (rF hSd ?_); exact Heap.get?_push_size _ rfl
 have ho1 := keep1 _ _ ho
 show wpAny _ A.in1 (Builtin.List.listExtendWith (.ref S) (.ref a) (.ref S)) _ _ { s with heap := H1 }
 have h1 : Builtin.List.listSameRef (.ref S) (.ref a) = false := by simp [Builtin.List.listSameRef, hSa]
 unfold Builtin.List.listExtendWith
 refine wpAny_bind (wpAny_typeOf (qc3 (s := { s with heap := H1 }) ho1 hS) ?_)
 refine rE (if_neg (by rw [h1]; decide)) ?_
 refine wpAny_bind (iter_set (s := { s with heap := H1 }) (A := A.in1) hA ho1 hS hz fun I h' d vs ok G => ?_)
 have hIn : H1.get? I = none := G.new
 have hSI : S ≠ I := fun e => by rw [← e, hS1] at hIn; cases hIn
 refine wpAny_bind (wpAny_holding ?_)
 have hT : ({ s with heap := h', drawn := d } : Shared).TypeIs (.ref a) "set" := qc3 (s := { s with heap := h', drawn := d }) (G.keep _ _ ho1) hS
 unfold Builtin.List.listLengthHint
 refine wpAny_bind (wpAny_specialOf hT PySem.F.slot_set_len.lookup ?_)
 generalize hid : ("set.__len__" : String) = id0
 (fail_if_success (clear hid id0)); wp_delta; refine rE (show splitId id0 = some ("set", "__len__") from by subst hid; decide +kernel) ?_; subst hid
 refine wpAny_bind (wpAny_isInstance (b := true) hT (by refine rE (isSubtype_type ..) ?_; kernel_rfl) ?_)
 refine wpAny_bind (wpAny_typeOf hT ?_)
 refine wpAny_pure ?_
 refine rE (if_pos (by decide)) ?_
 refine wpAny_bind (wpAny_rule ?_)
 have hS2 : h'.get? S = some (seqObj "list" #[] 0) := G.keep _ _ hS1
 refine wpAny_bind ?_
 show wpAny _ A.in1 (updateSeq S (·.push .none) >>= fun _ => updateSeq S (·.pop)) _ _ _
 refine wpAny_bind (wpAny_updateSeq hS2 rfl ?_)
 have hS3 := Heap.get?_update_self (Obj.mapSeq (·.push Value.none)) hS2 rfl
 refine wpAny_updateSeq hS3 rfl ?_
 have hS4 := Heap.get?_update_self (Obj.mapSeq (·.pop)) hS3 rfl
 have oth : ∀ b o, b ≠ S → h'.get? b = some o → ((h'.update S (Obj.mapSeq (·.push Value.none))).update S (Obj.mapSeq (·.pop))).get? b = some o :=
  fun b o hb e => (Heap.get?_update_other _ _ (Ne.symm hb)).trans ((Heap.get?_update_other _ _ (Ne.symm hb)).trans e)
 have hfr : ∀ i h₁ h₂, ok i h₁ → (∀ b o, b ≠ S → h₁.get? b = some o → h₂.get? b = some o) → ok i h₂ := fun i h₁ h₂ => G.frame S i h₁ h₂ hSa (by show H1.get? S ≠ none; refine rE hS1 ?_; simp)
 have hvl : vs.length = ns.length := by have := G.vals.length_eq; simpa using this
 refine wpAny_pure ⟨plainId_quiet PySem.F.plain_extend_loop _, ext_loop G.go hSI (by refine rE hvl ?_; exact fits_of_scanBound hz) hfr vs.length 0 _ #[] _ rfl (Nat.zero_le _) (hfr 0 _ _ G.start oth) hS4 rfl fun h'' c' hk hS5 => ?_⟩
 show wpAny _ A (load S >>= _) _ _ _
 refine wpAny_bind (wpAny_load hS5 ?_)
 refine wpAny_pure (h h'' d vs (fun b o e => ?_) G.vints G.vals)
 have hbS : b ≠ S := fun q => by rw [q] at e; exact absurd (Heap.lt_size e) (by refine rF hSd ?_; exact Nat.lt_irrefl _)
 have hbI : b ≠ I := fun q => by rw [q] at e; have := keep1 _ _ e; exact (no1 hIn this).elim
 exact hk b o hbS hbI (oth b o hbS (G.keep _ _ (keep1 _ _ e)))
end
end
end Mine
end
section
open PySem PyProof.Rows
namespace Mine
noncomputable section
noncomputable abbrev kf (p : Keyed) : Int := numOf p.1
noncomputable def IntK (p : Keyed) : Prop := ∃ n t, p.1 = .int n t
noncomputable def byd (left : Bool) (key x : Keyed) : Bool := if left = true then decide (kf x < kf key) else !decide (kf key < kf x)
noncomputable def gallopT : Bool → Keyed → Array Keyed → Nat → Nat → Nat → StateT SortSt Sem (Option Nat) := sortPriv% PySem.Builtin.gallop
theorem byd_mono {left : Bool} {key x y : Keyed} (h : kf x ≤ kf y) (hy : byd left key y = true) : byd left key x = true := by
 unfold byd at hy ⊢
 split at hy <;> simp_all <;> lia
section
variable {prog : Program} {w : World} {A : Around} {E : Value → Shared → Prop} {s : Shared}
theorem wpS_ltI {p q : Keyed} {st : SortSt} {Q : Option Bool → SortSt → Prop} (hk : kindOf st = oneType') (hp : IntK p) (hq : IntK q) (h : Q (some (decide (kf p < kf q))) st) : wpS (model prog w) A E s (lt' p q) Q st := by
 obtain ⟨p1, p2⟩ := p
 obtain ⟨q1, q2⟩ := q
 obtain ⟨a, t, e⟩ := hp
 obtain ⟨b, u, e'⟩ := hq
 cases e; cases e'
 refine rE (lt'_eq ..) ?_
 refine wpS_bind (wpS_get ?_)
 refine rE hk (rE (keyLt'_oneType ..) ?_)
 refine wpS_bind (wpS_lift (wpAny_attempt (oneLt_int ⟨rfl, ?_⟩)))
 exact wpS_pure h
theorem qal {arr : Array Keyed} {i : Nat} {p : Keyed} {st : SortSt} {Q : Keyed → SortSt → Prop} (hi : arr[i]? = some p) (h : Q p st) : wpS (model prog w) A E s (elem' arr i) Q st := by
 refine rE (elem'_eq ..) (rE hi ?_); exact wpS_pure h
theorem qbz {left : Bool} {key x : Keyed} {arr : Array Keyed} {i : Nat} {st : SortSt} {Q : Option Bool → SortSt → Prop} (hk : kindOf st = oneType') (hkey : IntK key) (hx : arr[i]? = some x) (hxI : IntK x) (h : Q (some (byd left key x)) st) :
  wpS (model prog w) A E s (elem' arr i >>= fun x => if left = true then lt' x key else lt' key x >>= fun o => pure (Option.map (fun x => !x) o)) Q st := by
 refine wpS_bind (qal hx ?_)
 unfold byd at h
 split at h
 ·refine rE (if_pos ‹_›) ?_; exact wpS_ltI hk hxI hkey h
 ·refine rE (if_neg ‹_›) ?_; exact wpS_bind (wpS_ltI hk hkey hxI (wpS_pure h))
noncomputable def GallOk (left : Bool) (key : Keyed) (xs : Nat → Keyed) (n k : Nat) : Prop := k ≤ n ∧ (∀ i, i < k → byd left key (xs i) = true) ∧ ∀ i, k ≤ i → i < n → byd left key (xs i) = false
inductive LO (st : SortSt) (R : Nat → Nat → Prop) (c : Option (Option Nat) × Nat × Nat) (st' : SortSt) : Prop
 | mk (l o : Nat) (hc : c = (none, l, o)) (hs : st' = st) (h : R l o)
theorem wpS_bin {n : Nat} {P : Nat → Bool} {st : SortSt} {f : Nat → Option (Option Nat) × Nat × Nat → StateT SortSt Sem (ForInStep (Option (Option Nat) × Nat × Nat))} (up : ∀ i j, i ≤ j → j < n → P j = true → P i = true)
  (hf : ∀ x l k (R : ForInStep (Option (Option Nat) × Nat × Nat) → SortSt → Prop), k ≤ n → (l ≥ k → R (.done (none, l, k)) st) → (l < k → P (l + (k - l) / 2) = true → R (.yield (none, l + (k - l) / 2 + 1, k)) st) → (l < k → P (l + (k - l) / 2) = false → R (.yield (none, l, l + (k - l) / 2)) st) → wpS (model prog w) A E s (f x (none, l, k)) R st)
  {lo hi : Nat} (h1 : lo ≤ hi) (h2 : hi ≤ n) (h3 : ∀ i, i < lo → P i = true) (h4 : ∀ i, hi ≤ i → i < n → P i = false) :
  wpS (model prog w) A E s (forIn [0:n] ((none, lo, hi) : Option (Option Nat) × Nat × Nat) f) (LO st fun l k => k ≤ n ∧ (∀ i, i < k → P i = true) ∧ ∀ i, k ≤ i → i < n → P i = false) st := by
 refine wpS_forRange (I := fun x => LO st fun l k => l ≤ k ∧ k ≤ n ∧ k + x ≤ n + l ∧ (∀ i, i < l → P i = true) ∧ ∀ i, k ≤ i → i < n → P i = false) ?step ?fin ⟨lo, hi, rfl, rfl, h1, h2, Nat.le_trans h2 (Nat.le_add_right n lo), h3, h4⟩
 case fin =>
  rintro c st' ⟨l, k, rfl, rfl, q1, q2, q3, q4, q5⟩
  have : l = k := bin_end q1 (by rw [Nat.zero_max] at q3; exact q3)
  subst this
  exact ⟨l, l, rfl, rfl, q2, q4, q5⟩
 case step =>
  rintro x c st' _ hxn ⟨l, k, rfl, rfl, q1, q2, q3, q4, q5⟩
  refine hf x l k _ q2 (fun hge => ?_) (fun hlt hb => ?_) fun hlt hb => ?_
  ·have : l = k := by exact Nat.le_antisymm q1 hge
   subst this
   exact ⟨l, l, rfl, rfl, q2, q4, q5⟩
  ·exact ⟨_, _, rfl, rfl, mid_lt hlt, q2, bin_up (Nat.le_add_right _ _) q3, fun i hi => up i _ (Nat.le_of_lt_succ hi) (Nat.lt_of_lt_of_le (mid_lt hlt) q2) hb, q5⟩
  ·refine ⟨_, _, rfl, rfl, Nat.le_add_right _ _, Nat.le_of_lt (Nat.lt_of_lt_of_le (mid_lt hlt) q2), bin_dn (mid_lt hlt) q3, q4, fun i h1 h2 => ?_⟩
   cases q : P i with
   | false => rfl
   | true => rw [up _ i h1 h2 q] at hb; cases hb
theorem wpS_gallop {left : Bool} {key : Keyed} {arr : Array Keyed} {base n hint : Nat} {xs : Nat → Keyed} {st : SortSt} {Q : Option Nat → SortSt → Prop} (hk : kindOf st = oneType') (hkey : IntK key) (hh : hint < n)
  (hx : ∀ i, i < n → arr[base + i]? = some (xs i)) (hI : ∀ i, i < n → IntK (xs i)) (hs : ∀ i j, i ≤ j → j < n → kf (xs i) ≤ kf (xs j))
  (h : ∀ k, GallOk left key xs n k → Q (some k) st) : wpS (model prog w) A E s (gallopT left key arr base n hint) Q st := by
 have up : ∀ i j, i ≤ j → j < n → byd left key (xs j) = true → byd left key (xs i) = true := fun i j hij hj e => byd_mono (hs i j hij hj) e
 have dn : ∀ i j, i ≤ j → j < n → byd left key (xs i) = false → byd left key (xs j) = false := fun i j hij hj e => by
  cases q : byd left key (xs j) with
  | false => rfl
  | true => rw [up i j hij hj q] at e; cases e
 refine wpS_bind (qbz hk hkey (hx _ hh) (hI _ hh) ?_)
 dsimp only
 split
 ·rename_i hr
  refine wpS_bind (wpS_mono (wpS_forRange (I := fun x => LO st fun l o => l < o ∧ x + 1 ≤ o ∧ hint + l < n ∧ byd left key (xs (hint + l)) = true)
   (Q := LO st fun l o => l < o ∧ hint + l < n ∧ byd left key (xs (hint + l)) = true ∧ (n - hint ≤ o ∨ (hint + o < n ∧ byd left key (xs (hint + o)) = false))) ?step ?fin ⟨0, 1, rfl, rfl, by exact Nat.one_pos, by exact Nat.le_of_ble_eq_true rfl, by omega, hr⟩) ?post)
  case fin =>
   rintro c st' ⟨l, o, rfl, rfl, q1, q2, q3, q4⟩
   exact ⟨l, o, rfl, rfl, q1, q3, q4, .inl (by lia)⟩
  case step =>
   rintro x c st' _ hxn ⟨l, o, rfl, rfl, q1, q2, q3, q4⟩
   dsimp only
   by_cases hge : o ≥ n - hint
   ·refine rE (if_pos hge) ?_
    exact wpS_pure ⟨l, o, rfl, rfl, q1, q3, q4, .inl hge⟩
   ·refine rE (if_neg hge) ?_
    have hm : hint + o < n := by lia
    refine wpS_bind (qbz hk hkey (hx _ hm) (hI _ hm) ?_)
    cases hb : byd left key (xs (hint + o)) with
    | true => exact wpS_pure ⟨_, _, rfl, rfl, by lia, by lia, hm, hb⟩
    | false => exact wpS_pure ⟨l, o, rfl, rfl, q1, q3, q4, .inr ⟨hm, hb⟩⟩
  case post =>
   rintro c st' ⟨l, o, rfl, rfl, q1, q3, q4, q5⟩
   dsimp only
   refine wpS_bind (wpS_mono (wpS_bin (P := fun i => byd left key (xs i)) (lo := hint + l + 1) (hi := hint + min o (n - hint)) up (fun x l' k R hkn c1 c2 c3 => ?_) (Nat.add_le_add_left (Nat.le_min.mpr ⟨q1, Nat.le_sub_of_add_le' q3⟩) hint) (Nat.add_le_of_le_sub' (Nat.le_of_lt hh) (Nat.min_le_right _ _)) (fun i hi => up i _ (by exact Nat.le_of_lt_succ hi) q3 q4) fun i h1 h2 => ?_) ?_)
   ·dsimp only
    by_cases hge : l' ≥ k
    ·refine rE (if_pos hge) ?_; exact wpS_pure (c1 hge)
    ·refine rE (if_neg hge) ?_
     have hm : l' + (k - l') / 2 < n := Nat.lt_of_lt_of_le (mid_lt (Nat.lt_of_not_le hge)) hkn
     refine wpS_bind (qbz hk hkey (hx _ hm) (hI _ hm) ?_)
     cases hb : byd left key (xs (l' + (k - l') / 2)) with
     | true => exact wpS_pure (c2 (by exact Nat.lt_of_not_le hge) hb)
     | false => exact wpS_pure (c3 (by exact Nat.lt_of_not_le hge) hb)
   ·rcases q5 with q5 | ⟨q5, q6⟩
    ·omega
    ·exact dn (hint + o) i (by lia) h2 q6
   ·rintro c st' ⟨l, k, rfl, rfl, hg⟩
    exact wpS_pure (h k hg)
 ·rename_i hr
  have hr' : byd left key (xs hint) = false := by exact eq_false_of_ne_true hr
  refine wpS_bind (wpS_mono (wpS_forRange (I := fun x => LO st fun l o => l < o ∧ x + 1 ≤ o ∧ l ≤ hint ∧ byd left key (xs (hint - l)) = false)
   (Q := LO st fun l o => l < o ∧ l ≤ hint ∧ byd left key (xs (hint - l)) = false ∧ (hint + 1 ≤ o ∨ byd left key (xs (hint - o)) = true)) ?step ?fin ⟨0, 1, rfl, rfl, by exact Nat.one_pos, by exact Nat.le_of_ble_eq_true rfl, by exact Nat.zero_le hint, hr'⟩) ?post)
  case fin =>
   rintro c st' ⟨l, o, rfl, rfl, q1, q2, q3, q4⟩
   exact ⟨l, o, rfl, rfl, q1, q3, q4, .inl (by lia)⟩
  case step =>
   rintro x c st' _ hxn ⟨l, o, rfl, rfl, q1, q2, q3, q4⟩
   dsimp only
   by_cases hge : o ≥ hint + 1
   ·refine rE (if_pos hge) ?_
    exact wpS_pure ⟨l, o, rfl, rfl, q1, q3, q4, .inl hge⟩
   ·refine rE (if_neg hge) ?_
    have hm : hint - o < n := by exact Nat.sub_lt_of_lt hh
    refine wpS_bind (qbz hk hkey (hx _ hm) (hI _ hm) ?_)
    cases hb : byd left key (xs (hint - o)) with
    | true => exact wpS_pure ⟨l, o, rfl, rfl, q1, q3, q4, .inr hb⟩
    | false => exact wpS_pure ⟨_, _, rfl, rfl, by omega, by omega, by exact Nat.le_of_not_lt hge, hb⟩
  case post =>
   rintro c st' ⟨l, o, rfl, rfl, q1, q3, q4, q5⟩
   dsimp only
   refine wpS_bind (wpS_mono (wpS_bin (P := fun i => byd left key (xs i)) (lo := hint + 1 - min o (hint + 1)) (hi := hint - l) up (fun x l' k R hkn c1 c2 c3 => ?_) (Nat.le_trans (Nat.sub_le_sub_left (Nat.le_min.mpr ⟨q1, Nat.succ_le_succ q3⟩) _) (Nat.le_of_eq (Nat.add_sub_add_right hint 1 l))) (Nat.le_trans (Nat.sub_le _ _) (Nat.le_of_lt hh)) (fun i hi => ?_) fun i h1 h2 => dn (hint - l) i h1 h2 q4) ?_)
   ·dsimp only
    by_cases hge : l' ≥ k
    ·refine rE (if_pos hge) ?_; exact wpS_pure (c1 hge)
    ·refine rE (if_neg hge) ?_
     have hm : l' + (k - l') / 2 < n := Nat.lt_of_lt_of_le (mid_lt (Nat.lt_of_not_le hge)) hkn
     refine wpS_bind (qbz hk hkey (hx _ hm) (hI _ hm) ?_)
     cases hb : byd left key (xs (l' + (k - l') / 2)) with
     | true => exact wpS_pure (c2 (by exact Nat.lt_of_not_le hge) hb)
     | false => exact wpS_pure (c3 (by exact Nat.lt_of_not_le hge) hb)
   ·rcases q5 with q5 | q6
    ·omega
    ·exact up i (hint - o) (by omega) (by exact Nat.sub_lt_of_lt hh) q6
   ·rintro c st' ⟨l, k, rfl, rfl, hg⟩
    exact wpS_pure (h k hg)
end
end
end Mine
end
section
open PySem PyProof.Rows
namespace Mine
noncomputable section
noncomputable abbrev SrtG (g : Keyed → Int) (l : List Keyed) : Prop := l.Pairwise fun x y => g x ≤ g y
noncomputable abbrev SrtL (l : List Keyed) : Prop := SrtG kf l
structure MI (g : Keyed → Int) (la lb lo : List Keyed) (ia ib : Nat) : Prop where
 perm : lo.Perm (la.take ia ++ lb.take ib)
 srt : SrtG g lo
 low : ∀ x ∈ lo, ∀ y, (y ∈ la.drop ia ∨ y ∈ lb.drop ib) → g x ≤ g y
structure MRes (g : Keyed → Int) (la lb r : List Keyed) : Prop where
 perm : r.Perm (la ++ lb)
 srt : SrtG g r
section
variable {g : Keyed → Int} {la lb lo : List Keyed} {ia ib : Nat}
theorem MI.swap (h : MI g la lb lo ia ib) : MI g lb la lo ib ia :=
 ⟨h.perm.trans List.perm_append_comm, h.srt, fun x hx y hy => h.low x hx y hy.symm⟩
theorem MI.stepA (h : MI g la lb lo ia ib) (ha : SrtG g la) (k : Nat) (hle : ∀ x ∈ (la.drop ia).take k, ∀ y ∈ lb.drop ib, g x ≤ g y) : MI g la lb (lo ++ (la.drop ia).take k) (ia + k) ib := by
 have e : la.drop ia = (la.drop ia).take k ++ la.drop (ia + k) := by refine rF List.drop_drop (rE (List.take_append_drop ..) rfl)
 have hd : SrtG g (la.drop ia) := ha.sublist (List.drop_sublist ia la)
 rw [e] at hd
 refine eAA (List.pairwise_append.mp hd) fun h1 h2 h3 => ?_
 have hseg : ∀ x ∈ (la.drop ia).take k, x ∈ la.drop ia := fun x hx => List.mem_of_mem_take hx
 refine ⟨?_, ?_, ?_⟩
 ·refine rE List.take_add (rE (List.append_assoc ..) ?_)
  exact (h.perm.append_right _).trans (by refine rE (List.append_assoc ..) ?_; exact List.Perm.append_left _ List.perm_append_comm)
 ·exact List.pairwise_append.mpr ⟨h.srt, h1, fun x hx y hy => h.low x hx y (.inl (hseg y hy))⟩
 ·intro x hx y hy
  rcases List.mem_append.mp hx with hx | hx
  ·rcases hy with hy | hy
   ·exact h.low x hx y (.inl (by refine rE e ?_; exact List.mem_append_right _ hy))
   ·exact h.low x hx y (.inr hy)
  ·rcases hy with hy | hy
   ·exact h3 x hx y hy
   ·exact hle x hx y hy
theorem MI.doneA (h : MI g la lb lo ia lb.length) (ha : SrtG g la) : MRes g la lb (lo ++ la.drop ia) := by
 have h2 := h.stepA ha (la.length - ia) (by refine rE List.drop_length ?_; intro _ _ _ hy; cases hy)
 rw [List.take_of_length_le (by refine rE List.length_drop ?_; exact Nat.le_refl _)] at h2
 refine ⟨h2.perm.trans ?_, h2.srt⟩
 refine rE (List.take_of_length_le (by omega)) (rE (List.take_of_length_le (Nat.le_refl _)) (.refl _))
theorem MRes.swap {r : List Keyed} (h : MRes g la lb r) : MRes g lb la r := ⟨h.perm.trans List.perm_append_comm, h.srt⟩
theorem MI.doneBA (h : MI g la lb lo ia ib) (ha : SrtG g la) (hb : SrtG g lb) (hle : ∀ x ∈ lb.drop ib, ∀ y ∈ la.drop ia, g x ≤ g y) : MRes g la lb (lo ++ lb.drop ib ++ la.drop ia) := by
 have h2 := (h.swap.stepA hb (lb.length - ib) (fun x hx => hle x (List.mem_of_mem_take hx))).swap
 rw [List.take_of_length_le (by refine rE List.length_drop ?_; exact Nat.le_refl _)] at h2
 have h3 : MI g la lb (lo ++ lb.drop ib) ia lb.length := by
  refine ⟨?_, h2.srt, fun x hx y hy => ?_⟩
  ·have := h2.perm
   rw [List.take_of_length_le (show lb.length ≤ ib + (lb.length - ib) by omega)] at this
   refine rE List.take_length ?_; exact this
  ·rcases hy with hy | hy
   ·exact h2.low x hx y (.inl hy)
   ·rw [List.drop_length] at hy; cases hy
 exact h3.doneA ha
theorem mem_seg {l : List Keyed} {i k : Nat} {x : Keyed} (h : x ∈ (l.drop i).take k) : ∃ j, i ≤ j ∧ j < i + k ∧ l[j]? = some x := by
 obtain ⟨n, hn, e⟩ := List.mem_iff_getElem.mp h
 have hn2 : n < k ∧ i + n < l.length := by simp at hn; grind
 refine ⟨i + n, by exact Nat.le_add_right i n, by lia, ?_⟩
 refine rF e (rE List.getElem_take (rE List.getElem_drop ?_)); rw [List.getElem?_eq_getElem]
theorem qco {l : List Keyed} {i : Nat} {x : Keyed} (h : x ∈ l.drop i) : ∃ j, i ≤ j ∧ l[j]? = some x := by
 obtain ⟨n, hn, e⟩ := List.mem_iff_getElem.mp h
 have hn2 : i + n < l.length := by simp at hn; exact Nat.add_lt_of_lt_sub' hn
 refine ⟨i + n, by exact Nat.le_add_right i n, ?_⟩
 refine rF e (rE List.getElem_drop ?_); rw [List.getElem?_eq_getElem]
theorem qbs {l : List Keyed} (h : SrtG g l) {i j : Nat} {x y : Keyed} (hij : i ≤ j) (hx : l[i]? = some x) (hy : l[j]? = some y) : g x ≤ g y := by
 refine eE (List.getElem?_eq_some_iff.mp hx) fun hi zz1 => ?_; subst zz1
 refine eE (List.getElem?_eq_some_iff.mp hy) fun hj zz1 => ?_; subst zz1
 rcases Nat.lt_or_eq_of_le hij with h' | rfl
 ·exact List.pairwise_iff_getElem.mp h i j hi hj h'
 ·exact Int.le_refl _
theorem seg_one {l : List Keyed} {i : Nat} {x : Keyed} (h : l[i]? = some x) : (l.drop i).take 1 = [x] := by
 refine eE (List.getElem?_eq_some_iff.mp h) fun hi zz1 => ?_; subst zz1
 refine rE (List.drop_eq_getElem_cons hi) ?_; rfl
structure RunsG (g : Keyed → Int) (la lb : List Keyed) : Prop where
 sa : SrtG g la
 sb : SrtG g lb
 first : ∀ x y, la[0]? = some x → lb[0]? = some y → g y ≤ g x
 last : ∀ x y, la[la.length - 1]? = some x → y ∈ lb → g y ≤ g x
variable {x y : Keyed} {k : Nat}
theorem RunsG.start (R : RunsG g la lb) (hy : lb[0]? = some y) : MI g la lb [y] 0 1 := by
 have h0 : MI g la lb ([] : List Keyed) 0 0 := ⟨by rfl, .nil, fun x hx => by cases hx⟩
 have := (h0.swap.stepA R.sb 1 (by
  refine rE (seg_one hy) ?_; intro z hz u hu
  refine rE (List.mem_singleton.mp hz) ?_
  refine eEA (qco hu) fun n _ e => ?_
  have hlt := (List.getElem?_eq_some_iff.mp e).1
  have h1 := qbs R.sa (Nat.zero_le n) (List.getElem?_eq_getElem (by exact List.length_pos_of_mem hu)) e
  have h2 := R.first _ y (List.getElem?_eq_getElem (by exact List.length_pos_of_mem hu)) hy
  exact Int.le_trans h2 h1)).swap
 rw [seg_one hy] at this
 exact this
theorem RunsG.lastOf (R : RunsG g la lb) (h : MI g la lb lo ia ib) (hi : ia + 1 = la.length) : MRes g la lb (lo ++ lb.drop ib ++ la.drop ia) := by
 refine h.doneBA R.sa R.sb fun x hx y hy => ?_
 refine eEA (qco hy) fun k hk ey => ?_
 have hlt := (List.getElem?_eq_some_iff.mp ey).1
 exact R.last y x (by refine rE (show la.length - 1 = k by lia) ?_; exact ey) (List.mem_of_mem_drop hx)
theorem RunsG.doneOf (R : RunsG g la lb) (h : MI g la lb lo ia ib) (hj : ib = lb.length) : MRes g la lb (lo ++ la.drop ia ++ lb.drop ib) := by
 subst hj
 refine rE List.drop_length (rE (List.append_nil ..) ?_)
 exact h.doneA R.sa
theorem RunsG.doneOf' (R : RunsG g la lb) (h : MI g la lb lo ia ib) (hi : ia = la.length) : MRes g la lb (lo ++ la.drop ia ++ lb.drop ib) := by
 subst hi
 refine rE List.drop_length (rE (List.append_nil ..) ?_)
 exact (h.swap.doneA R.sb).swap
theorem RunsG.blkA (R : RunsG g la lb) (h : MI g la lb lo ia ib) (hy : lb[ib]? = some y) (hle : ∀ m x, ia ≤ m → m < ia + k → la[m]? = some x → g x ≤ g y) : MI g la lb (lo ++ (la.drop ia).take k) (ia + k) ib := by
 refine h.stepA R.sa k fun x hx z hz => ?_
 refine eEAA (mem_seg hx) fun n n1 n2 e => ?_
 refine eEA (qco hz) fun n' n3 e' => ?_
 have h1 := hle n x n1 n2 e
 have h2 := qbs R.sb n3 hy e'
 exact Int.le_trans (hle n x n1 n2 e) h2
theorem RunsG.blkB (R : RunsG g la lb) (h : MI g la lb lo ia ib) (hy : la[ia]? = some y) (hle : ∀ m x, ib ≤ m → m < ib + k → lb[m]? = some x → g x ≤ g y) : MI g la lb (lo ++ (lb.drop ib).take k) ia (ib + k) := by
 refine (h.swap.stepA R.sb k fun x hx z hz => ?_).swap
 refine eEAA (mem_seg hx) fun n n1 n2 e => ?_
 refine eEA (qco hz) fun n' n3 e' => ?_
 have h1 := hle n x n1 n2 e
 have h2 := qbs R.sa n3 hy e'
 exact Int.le_trans (hle n x n1 n2 e) h2
theorem RunsG.pushA (R : RunsG g la lb) (h : MI g la lb lo ia ib) (hx : la[ia]? = some x) (hy : lb[ib]? = some y) (hle : g x ≤ g y) : MI g la lb (lo ++ [x]) (ia + 1) ib := by
 refine rF (seg_one hx) ?_
 refine R.blkA h hy fun m z h1 h2 e => ?_
 rw [show m = ia by exact Nat.eq_of_le_of_lt_succ h1 h2, hx] at e
 refine rF (Option.some.inj e) ?_; exact hle
theorem RunsG.pushB (R : RunsG g la lb) (h : MI g la lb lo ia ib) (hx : lb[ib]? = some x) (hy : la[ia]? = some y) (hle : g x ≤ g y) : MI g la lb (lo ++ [x]) ia (ib + 1) := by
 refine rF (seg_one hx) ?_
 refine R.blkB h hy fun m z h1 h2 e => ?_
 rw [show m = ib by exact Nat.eq_of_le_of_lt_succ h1 h2, hx] at e
 refine rF (Option.some.inj e) ?_; exact hle
end
structure SameG (st st' : SortSt) : Prop where
 kind : kindOf st' = kindOf st
 arr : arrOf st' = arrOf st
 pend : pendingOf st' = pendingOf st
 failed : failedOf st' = failedOf st
theorem SameG.refl {st : SortSt} : SameG st st := ⟨rfl, rfl, rfl, rfl⟩
theorem SameG.trans {a b c : SortSt} (h : SameG a b) (k : SameG b c) : SameG a c := ⟨k.kind.trans h.kind, k.arr.trans h.arr, k.pend.trans h.pend, k.failed.trans h.failed⟩
structure Runs (a b : Array Keyed) : Prop where
 ia : ∀ x ∈ a.toList, IntK x
 ib : ∀ x ∈ b.toList, IntK x
 sa : SrtL a.toList
 sb : SrtL b.toList
 na : 0 < a.size
 nb : 0 < b.size
 first : ∀ x y, a[0]? = some x → b[0]? = some y → kf y ≤ kf x
 last : ∀ x y, a[a.size - 1]? = some x → b[b.size - 1]? = some y → kf y ≤ kf x
inductive GetOk (a : Array Keyed) (i : Nat) : Prop
 | mk (x : Keyed) (h1 : a[i]? = some x) (h2 : a.toList[i]? = some x) (h3 : x ∈ a.toList) : GetOk a i
theorem qbv {a : Array Keyed} {i : Nat} (h : i < a.size) : GetOk a i := ⟨a[i], getElem?_pos a i h, by refine rE Array.getElem?_toList ?_; exact getElem?_pos a i h, Array.getElem_mem_toList h⟩
theorem Runs.g {a b : Array Keyed} (R : Runs a b) : RunsG kf a.toList b.toList where
 sa := R.sa
 sb := R.sb
 first := fun x y hx hy => R.first x y (by refine rF Array.getElem?_toList ?_; exact hx) (by refine rF Array.getElem?_toList ?_; exact hy)
 last := fun x y hx hy => by
  obtain ⟨z, z1, z2, _⟩ := qbv (a := b) (i := b.size - 1) (by have := R.nb; exact Nat.sub_one_lt_of_lt this)
  obtain ⟨n, hn, e⟩ := List.mem_iff_getElem.mp hy
  have h1 := qbs R.sb (show n ≤ b.size - 1 by simp at hn; exact Nat.le_sub_one_of_lt hn) (by refine rE (List.getElem?_eq_getElem hn) (rE e rfl)) z2
  have h2 := R.last x z (by refine rF Array.getElem?_toList ?_; exact hx) z1
  exact Int.le_trans h1 h2
structure ML (a b : Array Keyed) (out : Array Keyed) (i j : Nat) : Prop where
 mi : MI kf a.toList b.toList out.toList i j
 hi : i + 1 < a.size
 hj : j < b.size
theorem qb0 {a : Array Keyed} {i k : Nat} : (a.extract i (i + k)).toList = (a.toList.drop i).take k := by
 refine rE Array.toList_extract ?_; simp [List.extract_eq_take_drop]
theorem qbd {a : Array Keyed} {i : Nat} : (a.extract i).toList = a.toList.drop i := by
 refine rE Array.toList_extract (rE List.extract_eq_take_drop (rE (List.take_of_length_le (by simp)) rfl))
noncomputable abbrev lastOf (a b out : Array Keyed) (i j : Nat) : Array Keyed := out ++ b.extract j ++ a.extract i
noncomputable abbrev doneOf (a b out : Array Keyed) (i j : Nat) : Array Keyed := out ++ a.extract i ++ b.extract j
section
variable {a b out : Array Keyed} {i j k : Nat} {x y : Keyed}
theorem qc1 (R : Runs a b) (h : MI kf a.toList b.toList out.toList i j) (hi : i + 1 = a.size) : MRes kf a.toList b.toList (lastOf a b out i j).toList := by
 refine rE Array.toList_append (rE Array.toList_append (rE qbd (rE qbd ?_)))
 exact R.g.lastOf h (by assumption)
theorem qc8 (R : Runs a b) (h : MI kf a.toList b.toList out.toList i j) (hj : j = b.size) : MRes kf a.toList b.toList (doneOf a b out i j).toList := by
 refine rE Array.toList_append (rE Array.toList_append (rE qbd (rE qbd ?_)))
 exact R.g.doneOf h (by assumption)
theorem doneOf_ok' (R : Runs a b) (h : MI kf a.toList b.toList out.toList i j) (hi : i = a.size) : MRes kf a.toList b.toList (doneOf a b out i j).toList := by
 refine rE Array.toList_append (rE Array.toList_append (rE qbd (rE qbd ?_)))
 exact R.g.doneOf' h (by assumption)
theorem MI.pushA (R : Runs a b) (h : MI kf a.toList b.toList out.toList i j) (hx : a.toList[i]? = some x) (hy : b.toList[j]? = some y) (hle : kf x ≤ kf y) : MI kf a.toList b.toList (out.push x).toList (i + 1) j := by
 refine rE Array.toList_push ?_; exact R.g.pushA h hx hy hle
theorem MI.pushB (R : Runs a b) (h : MI kf a.toList b.toList out.toList i j) (hx : b.toList[j]? = some x) (hy : a.toList[i]? = some y) (hle : kf x ≤ kf y) : MI kf a.toList b.toList (out.push x).toList i (j + 1) := by
 refine rE Array.toList_push ?_; exact R.g.pushB h hx hy hle
theorem MI.blkA (R : Runs a b) (h : MI kf a.toList b.toList out.toList i j) (hy : b.toList[j]? = some y) (hle : ∀ m x, i ≤ m → m < i + k → a.toList[m]? = some x → kf x ≤ kf y) : MI kf a.toList b.toList (out ++ a.extract i (i + k)).toList (i + k) j := by
 refine rE Array.toList_append (rE qb0 ?_); exact R.g.blkA h hy hle
theorem MI.blkB (R : Runs a b) (h : MI kf a.toList b.toList out.toList i j) (hy : a.toList[i]? = some y) (hle : ∀ m x, j ≤ m → m < j + k → b.toList[m]? = some x → kf x ≤ kf y) : MI kf a.toList b.toList (out ++ b.extract j (j + k)).toList i (j + k) := by
 refine rE Array.toList_append (rE qb0 ?_); exact R.g.blkB h hy hle
end
end
end Mine
end
section
open PySem PyProof.Rows
namespace Mine
noncomputable section
noncomputable def mergeLoT : Array Keyed → Array Keyed → StateT SortSt Sem (Array Keyed) := sortPriv% PySem.Builtin.mergeLo
section
variable {prog : Program} {w : World} {A : Around} {E : Value → Shared → Prop} {s : Shared}
theorem qaf {α : Type} {c : Prop} [Decidable c] {t e : StateT SortSt Sem α} {st : SortSt} {Q : α → SortSt → Prop} (h1 : c → wpS (model prog w) A E s t Q st) (h2 : ¬ c → wpS (model prog w) A E s e Q st) : wpS (model prog w) A E s (if c then t else e) Q st := by
 split
 ·exact h1 ‹_›
 ·exact h2 ‹_›
theorem wpS_cut {α β : Type} {m : StateT SortSt Sem α} {Q : α → SortSt → Prop} {st : SortSt} (f : β → StateT SortSt Sem α) (P : β → Prop) (h : ∀ z, P z → wpS (model prog w) A E s (f z) Q st) (g : (∀ z, P z → wpS (model prog w) A E s (f z) Q st) → wpS (model prog w) A E s m Q st) : wpS (model prog w) A E s m Q st := g h
theorem wpS_setG {g : Nat} {st : SortSt} {Q : Unit → SortSt → Prop} (h : ∀ st', SameG st st' → Q () st') : wpS (model prog w) A E s ((sortPriv% PySem.Builtin.setMinGallop) g) Q st := wpS_modify (h _ ⟨rfl, rfl, rfl, rfl⟩)
theorem qbc {left : Bool} {key : Keyed} {arr : Array Keyed} {base n hint : Nat} {st : SortSt} {Q : Option Nat → SortSt → Prop} (hk : kindOf st = oneType') (hkey : IntK key) (hI : ∀ x ∈ arr.toList, IntK x) (hn : base + n ≤ arr.size) (hh : hint < n)
  (hs : ∀ i j x y, base ≤ i → i ≤ j → j < base + n → arr.toList[i]? = some x → arr.toList[j]? = some y → kf x ≤ kf y)
  (h : ∀ k, k ≤ n → (∀ m x, base ≤ m → m < base + k → arr.toList[m]? = some x → byd left key x = true) → (∀ m x, base + k ≤ m → m < base + n → arr.toList[m]? = some x → byd left key x = false) → Q (some k) st) :
  wpS (model prog w) A E s (gallopT left key arr base n hint) Q st := by
 have hxs : ∀ m, m < n → arr[base + m]? = some (arr[base + m]?.getD key) := fun m hm => by
  refine rE (getElem?_pos arr (base + m) (by lia)) ?_; rfl
 have hxl : ∀ m, m < n → arr.toList[base + m]? = some (arr[base + m]?.getD key) := fun m hm => by refine rE Array.getElem?_toList ?_; exact hxs m hm
 refine wpS_gallop (xs := fun m => arr[base + m]?.getD key) hk hkey hh hxs (fun m hm => hI _ (List.mem_of_getElem? (hxl m hm))) (fun m m' h1 h2 => hs _ _ _ _ (by exact Nat.le_add_right base m) (by exact Nat.add_le_add_iff_left.mpr h1) (by exact Nat.add_lt_add_left h2 base) (hxl m (by exact Nat.lt_of_le_of_lt h1 h2)) (hxl m' h2)) fun k hg => ?_
 obtain ⟨hk1, hk2, hk3⟩ := hg
 refine h k hk1 (fun m x h1 h2 e => ?_) fun m x h1 h2 e => ?_
 ·have q := hxl (m - base) (by grind)
  rw [show base + (m - base) = m by exact Nat.add_sub_of_le h1, e] at q
  have r := hk2 (m - base) (by exact Nat.sub_lt_left_of_lt_add h1 h2)
  dsimp only at r
  rw [show base + (m - base) = m by exact Nat.add_sub_of_le h1, ← Option.some.inj q] at r
  exact r
 ·have q := hxl (m - base) (by omega)
  rw [show base + (m - base) = m by lia, e] at q
  have r := hk3 (m - base) (by exact Nat.le_sub_of_add_le' h1) (by omega)
  dsimp only at r
  rw [show base + (m - base) = m by omega, ← Option.some.inj q] at r
  exact r
theorem start_ok {a b : Array Keyed} {y : Keyed} (R : Runs a b) (hy : b[0]? = some y) : MI kf a.toList b.toList #[y].toList 0 1 := R.g.start (by refine rE Array.getElem?_toList ?_; exact hy)
inductive LoSome (a b : Array Keyed) (st : SortSt) (st' : SortSt) {β : Type} : Option (Array Keyed) × β → Prop
 | mk (r : Array Keyed) (c2 : β) (S : SameG st st') (hr : MRes kf a.toList b.toList r.toList) : LoSome a b st st' (some r, c2)
inductive Lo1 (a b : Array Keyed) (st : SortSt) (P : Nat → Prop) (st' : SortSt) {γ : Type} : Option (Array Keyed) × Array Keyed × Nat × Nat × γ → Prop
 | mk (o : Array Keyed) (i j : Nat) (g : γ) (M : ML a b o i j) (S : SameG st st') (hx : P (i + j)) : Lo1 a b st P st' (none, o, i, j, g)
inductive Lo2 (a b : Array Keyed) (st : SortSt) (P : Nat → Prop) (st' : SortSt) {γ δ : Type} : Option (Array Keyed) × Array Keyed × Nat × Nat × γ × δ → Prop
 | mk (o : Array Keyed) (i j : Nat) (p : γ) (q : δ) (M : ML a b o i j) (S : SameG st st') (hx : P (i + j)) : Lo2 a b st P st' (none, o, i, j, p, q)
inductive Lo3 (a b : Array Keyed) (st : SortSt) (P : Nat → Prop) (st' : SortSt) {γ δ ε : Type} : Option (Array Keyed) × Array Keyed × Nat × Nat × γ × δ × ε → Prop
 | mk (o : Array Keyed) (i j : Nat) (g : γ) (p : δ) (q : ε) (M : ML a b o i j) (S : SameG st st') (hx : P (i + j)) : Lo3 a b st P st' (none, o, i, j, g, p, q)
theorem wpS_hide {α : Type} {x : StateT SortSt Sem α} {T : α → SortSt → Prop} {st : SortSt} (h : ∀ R : α → SortSt → Prop, (∀ r st, T r st → R r st) → wpS (model prog w) A E s x R st) : wpS (model prog w) A E s x T st := h T fun _ _ h => h
set_option maxHeartbeats 4000000 in
theorem wpS_mergeLo {a b : Array Keyed} {st : SortSt} {Q : Array Keyed → SortSt → Prop} (R : Runs a b) (hk : kindOf st = oneType') (h : ∀ r st', SameG st st' → MRes kf a.toList b.toList r.toList → Q r st') : wpS (model prog w) A E s (mergeLoT a b) Q st := by
 refine wpS_bind (wpS_lift (wpAny_rule ⟨rfl, ?_⟩))
 obtain ⟨b0, hb0, hb0l, _⟩ := qbv R.nb
 have M0 := start_ok R hb0
 refine wpS_bind (qal hb0 ?_)
 refine qaf (fun c1 => ?_) fun c1 => ?_
 ·exact wpS_pure (h _ _ .refl (qc8 R M0 (by simpa using c1)))
 refine qaf (fun c2 => ?_) fun c2 => ?_
 ·exact wpS_pure (h _ _ .refl (qc1 R M0 (by simpa using c2)))
 refine wpS_bind (wpS_get ?_)
 have hs1 : 0 + 1 < a.size := by have := R.na; simp at c2; exact Nat.lt_of_le_of_ne this c2
 have hs2 : 1 < b.size := by have := R.nb; simp at c1; exact Nat.lt_of_le_of_ne this c1
 refine wpS_bind (wpS_mono (wpS_forRange (I := fun x c st' => Lo1 a b st (x ≤ ·) st' c) (Q := fun c st' => LoSome a b st st' c) ?step ?fin ⟨_, _, _, _, ⟨M0, hs1, hs2⟩, .refl, Nat.zero_le _⟩) ?post)
 case fin =>
  rintro c st' ⟨o, i, j, g, M, S, hx⟩
  exact absurd hx (by have := M.hi; have := M.hj; lia)
 case post =>
  rintro c st' ⟨r, c2, S, hr⟩
  exact wpS_pure (h r st' S hr)
 case step =>
  rintro x c st' _ hxt ⟨o, i, j, g, M, S, hx⟩
  refine wpS_bind (wpS_mono (wpS_forRange (I := fun _ c st' => Lo2 a b st (x ≤ ·) st' c) (Q := fun c st' => LoSome a b st st' c ∨ Lo2 a b st (x ≤ ·) st' c) ?step1 ?fin1 ⟨_, _, _, _, _, M, S, hx⟩) ?post1)
  case fin1 => exact fun c st' q => .inr q
  case step1 =>
   rintro _ c st' _ _ ⟨o, i, j, p, q, M, S, hx⟩
   refine wpS_hide fun RR hRR => ?_
   have hi := M.hi
   have hj := M.hj
   obtain ⟨u, u1, u2, u3⟩ := qbv (a := a) (i := i) (by exact Nat.lt_of_succ_lt hi)
   obtain ⟨v, v1, v2, v3⟩ := qbv hj
   refine wpS_bind (qal v1 ?_)
   refine wpS_bind (qal u1 ?_)
   refine wpS_bind (wpS_ltI (S.kind.trans hk) (R.ib _ v3) (R.ia _ u3) ?_)
   refine qaf (fun q1 => ?_) fun q1 => ?_
   ·have q1' : kf v < kf u := by simpa using q1
    refine wpS_bind (qal v1 ?_)
    have M2 := M.mi.pushB R v2 u2 (by exact Int.le_of_lt q1')
    refine qaf (fun q2 => ?_) fun q2 => ?_
    ·exact wpS_pure (hRR _ _ (.inl ⟨_, _, S, qc8 R M2 (by simpa using q2)⟩))
    ·have M3 : ML a b (o.push v) i (j + 1) := ⟨M2, hi, by simp at q2; exact Nat.lt_of_le_of_ne hj q2⟩
     have hx' : x ≤ i + (j + 1) := by exact Nat.le_succ_of_le hx
     refine qaf (fun q3 => ?_) fun q3 => ?_
     ·exact wpS_pure (hRR _ _ (.inr ⟨_, _, _, _, _, M3, S, hx'⟩))
     ·exact wpS_pure (hRR _ _ ⟨_, _, _, _, _, M3, S, hx'⟩)
   ·have q1' : kf u ≤ kf v := by simpa using q1
    refine wpS_bind (qal u1 ?_)
    have M2 := M.mi.pushA R u2 v2 q1'
    refine qaf (fun q2 => ?_) fun q2 => ?_
    ·exact wpS_pure (hRR _ _ (.inl ⟨_, _, S, qc1 R M2 (by simpa using q2)⟩))
    ·have M3 : ML a b (o.push u) (i + 1) j := ⟨M2, by simp at q2; exact Nat.lt_of_le_of_ne hi q2, hj⟩
     have hx' : x ≤ i + 1 + j := by lia
     refine qaf (fun q3 => ?_) fun q3 => ?_
     ·exact wpS_pure (hRR _ _ (.inr ⟨_, _, _, _, _, M3, S, hx'⟩))
     ·exact wpS_pure (hRR _ _ ⟨_, _, _, _, _, M3, S, hx'⟩)
  case post1 =>
   rintro c st' (hs | ⟨o, i, j, p, q, M, S, hx⟩)
   ·obtain ⟨r, c2, S, hr⟩ := hs
    exact wpS_pure ⟨r, _, S, hr⟩
   refine wpS_bind (wpS_lift (wpAny_rule ⟨rfl, ?_⟩))
   refine wpS_bind (wpS_mono (wpS_forRange (I := fun y c st' => Lo3 a b st (fun s => (y = 0 ∧ x ≤ s) ∨ x + 1 ≤ s) st' c) (Q := fun c st' => LoSome a b st st' c ∨ Lo3 a b st (x + 1 ≤ ·) st' c) ?step2 ?fin2 ⟨_, _, _, _, _, _, M, S, .inl ⟨rfl, hx⟩⟩) ?post2)
   case fin2 =>
    rintro c st' ⟨o, i, j, g, p, q, M, S, hx⟩
    refine .inr ⟨_, _, _, _, _, _, M, S, ?_⟩
    have := M.hi
    lia
   case post2 =>
    rintro c st' (hs | ⟨o, i, j, g, p, q, M, S, hx⟩)
    ·obtain ⟨r, c2, S, hr⟩ := hs
     exact wpS_pure ⟨r, _, S, hr⟩
    ·refine wpS_bind (wpS_setG fun st2 S2 => ?_)
     exact wpS_pure ⟨_, _, _, _, M, S.trans S2, hx⟩
   case step2 =>
    rintro y c st' _ _ ⟨o, i, j, g, p, q, M, S, hx⟩
    refine wpS_hide fun RR hRR => ?_
    extract_lets _ _ _ _ _ _ _ _ _ _ _ _ jp _
    refine wpS_cut (fun z : Nat => jp () z) (fun _ => True) ?_ fun hjp => qaf (fun _ => hjp _ trivial) fun _ => hjp _ trivial
    intro z _
    refine wpS_bind (wpS_setG fun st2 S2 => ?_)
    have hi := M.hi
    have hj := M.hj
    obtain ⟨v, v1, v2, v3⟩ := qbv hj
    refine wpS_bind (qal v1 ?_)
    refine wpS_bind (qbc (base := i) (n := a.size - i) (hint := 0) ((S.trans S2).kind.trans hk) (R.ib _ v3) R.ia (by grind) (by grind) (fun _ _ _ _ _ h1 _ e1 e2 => qbs R.sa h1 e1 e2) fun k hk1 low' upp' => ?_)
    have S3 := S.trans S2
    have low : ∀ m x, i ≤ m → m < i + k → a.toList[m]? = some x → kf x ≤ kf v := fun m x h1 h2 e => by
     simpa [byd] using low' m x h1 h2 e
    have upp : ∀ x, a.toList[i + k]? = some x → kf v < kf x := fun x e => by
     have hlt := (List.getElem?_eq_some_iff.mp e).1
     simpa [byd] using upp' (i + k) x (Nat.le_refl _) (by simp at hlt; grind) e
    dsimp -zeta only
    extract_lets _ jp2
    refine wpS_cut (fun z : Array Keyed × Nat => jp2 () z.1 z.2) (fun z => MI kf a.toList b.toList z.1.toList z.2 j ∧ z.2 + 1 < a.size ∧ (∀ x, a.toList[z.2]? = some x → kf v < kf x) ∧ i ≤ z.2) ?_ fun hjp2 => qaf (fun c => qaf (fun q1 => ?_) fun q1 => qaf (fun q2 => ?_) fun q2 => ?_) fun c => ?_
    rotate_left
    ·exact wpS_pure (hRR _ _ (.inl ⟨_, _, S3, qc1 R (M.mi.blkA R v2 low) (eq_of_beq q1)⟩))
    ·exact wpS_pure (hRR _ _ (.inl ⟨_, _, S3, doneOf_ok' R (M.mi.blkA R v2 low) (eq_of_beq q2)⟩))
    ·refine hjp2 (_, _) ⟨M.mi.blkA R v2 low, ?_, upp, Nat.le_add_right _ _⟩
     have e1 : ¬ i + k + 1 = a.size := fun e => q1 (beq_iff_eq.mpr e)
     have e2 : ¬ i + k = a.size := fun e => q2 (beq_iff_eq.mpr e)
     show i + k + 1 < a.size
     grind
    ·have hk0 : k = 0 := by exact Nat.eq_zero_of_not_pos c
     subst hk0
     exact hjp2 (_, _) ⟨M.mi, hi, upp, Nat.le_refl _⟩
    rintro ⟨o', i'⟩ ⟨M4, hi4, upp4, hii⟩
    replace M4 : MI kf a.toList b.toList o'.toList i' j := M4
    replace hi4 : i' + 1 < a.size := hi4
    replace upp4 : ∀ x, a.toList[i']? = some x → kf v < kf x := upp4
    replace hii : i ≤ i' := hii
    refine wpS_bind (qal v1 ?_)
    obtain ⟨u, u1, u2, u3⟩ := qbv (Nat.lt_of_succ_lt hi4)
    have M5 := M4.pushB R v2 u2 (Int.le_of_lt (upp4 u u2))
    refine qaf (fun q3 => ?_) fun q3 => ?_
    ·exact wpS_pure (hRR _ _ (.inl ⟨_, _, S3, qc8 R M5 (eq_of_beq q3)⟩))
    have hj5 : j + 1 < b.size := by
     have : ¬ j + 1 = b.size := fun e => q3 (beq_iff_eq.mpr e)
     exact Nat.lt_of_le_of_ne hj this
    refine wpS_bind (qal u1 ?_)
    refine wpS_bind (qbc (base := j + 1) (n := b.size - (j + 1)) (hint := 0) (S3.kind.trans hk) (R.ia _ u3) R.ib (by omega) (by exact Nat.zero_lt_sub_of_lt hj5) (fun _ _ _ _ _ h1 _ e1 e2 => qbs R.sb h1 e1 e2) fun k2 hk2 low2' upp2' => ?_)
    have low2 : ∀ m x, j + 1 ≤ m → m < j + 1 + k2 → b.toList[m]? = some x → kf x ≤ kf u := fun m x h1 h2 e => by
     have : kf x < kf u := by simpa [byd] using low2' m x h1 h2 e
     exact Int.le_of_lt this
    have upp2 : ∀ x, b.toList[j + 1 + k2]? = some x → kf u ≤ kf x := fun x e => by
     have hlt := (List.getElem?_eq_some_iff.mp e).1
     simpa [byd] using upp2' (j + 1 + k2) x (Nat.le_refl _) (by simp at hlt; omega) e
    dsimp -zeta only
    extract_lets _ _ jp3
    refine wpS_cut (fun z : Array Keyed × Nat => jp3 () z.1 z.2) (fun z => MI kf a.toList b.toList z.1.toList i' z.2 ∧ z.2 < b.size ∧ (∀ x, b.toList[z.2]? = some x → kf u ≤ kf x) ∧ j + 1 ≤ z.2) ?_ fun hjp3 => qaf (fun c => qaf (fun q1 => ?_) fun q1 => ?_) fun c => ?_
    rotate_left
    ·exact wpS_pure (hRR _ _ (.inl ⟨_, _, S3, qc8 R (M5.blkB R u2 low2) (eq_of_beq q1)⟩))
    ·refine hjp3 (_, _) ⟨M5.blkB R u2 low2, ?_, upp2, Nat.le_add_right _ _⟩
     have e1 : ¬ j + 1 + k2 = b.size := fun e => q1 (beq_iff_eq.mpr e)
     show j + 1 + k2 < b.size
     grind
    ·have hk0 : k2 = 0 := by exact Nat.eq_zero_of_not_pos c
     subst hk0
     exact hjp3 (_, _) ⟨M5, hj5, upp2, Nat.le_refl _⟩
    rintro ⟨o6, j6⟩ ⟨M6, hj6, upp6, hjj⟩
    replace M6 : MI kf a.toList b.toList o6.toList i' j6 := M6
    replace hj6 : j6 < b.size := hj6
    replace upp6 : ∀ x, b.toList[j6]? = some x → kf u ≤ kf x := upp6
    replace hjj : j + 1 ≤ j6 := hjj
    refine wpS_bind (qal u1 ?_)
    obtain ⟨v6, _, v62, _⟩ := qbv hj6
    have M7 := M6.pushA R u2 v62 (upp6 v6 v62)
    refine qaf (fun q => wpS_pure (hRR _ _ (.inl ⟨_, _, S3, qc1 R M7 (eq_of_beq q)⟩))) fun q => ?_
    have hi8 : i' + 1 + 1 < a.size := by
     have : ¬ i' + 1 + 1 = a.size := fun e => q (beq_iff_eq.mpr e)
     exact Nat.lt_of_le_of_ne hi4 this
    have M8 : ML a b (o6.push u) (i' + 1) j6 := ⟨M7, hi8, hj6⟩
    have hx8 : x + 1 ≤ i' + 1 + j6 := by omega
    exact qaf (fun _ => wpS_pure (hRR _ _ (.inr ⟨_, _, _, _, _, _, M8, S3, hx8⟩))) fun _ => wpS_pure (hRR _ _ ⟨_, _, _, _, _, _, M8, S3, .inr hx8⟩)
end
end
end Mine
end
section
open PySem PyProof.Rows
namespace Mine
noncomputable section
noncomputable abbrev gN (x : Keyed) : Int := -kf x
structure MH (a b : Array Keyed) (out : Array Keyed) (na nb : Nat) : Prop where
 mi : MI gN b.toList.reverse a.toList.reverse out.toList (b.size - nb) (a.size - na)
 ha : na ≤ a.size
 hb : nb ≤ b.size
theorem rev_at {a : Array Keyed} {n : Nat} (h1 : 1 ≤ n) (h2 : n ≤ a.size) : a.toList.reverse[a.size - n]? = a.toList[n - 1]? := by
 refine rE (List.getElem?_reverse (by simp; exact Nat.sub_lt_self h1 h2)) ?_
 congr 1; simp; lia
theorem qcy {a : Array Keyed} {n : Nat} (h : n ≤ a.size) : a.toList.reverse.drop (a.size - n) = (a.toList.take n).reverse := by
 refine rE List.drop_reverse ?_; congr 2; simp; exact Nat.sub_sub_self h
theorem rev_seg {a : Array Keyed} {n k : Nat} (hk : k ≤ n) (h : n ≤ a.size) : (a.toList.reverse.drop (a.size - n)).take (n - k) = ((a.extract k n).reverse).toList := by
 refine rE (qcy h) (rE List.take_reverse (rE Array.toList_reverse (rE Array.toList_extract (rE List.extract_eq_take_drop ?_))))
 congr 1
 refine rE List.length_take (rE Array.length_toList (rE (show min n a.size - (n - k) = k by lia) (rE List.drop_take rfl)))
theorem Runs.rev {a b : Array Keyed} (R : Runs a b) : RunsG gN b.toList.reverse a.toList.reverse where
 sa := by rw [SrtG, List.pairwise_reverse]; exact R.sb.imp fun h => by unfold gN; exact Int.neg_le_neg h
 sb := by rw [SrtG, List.pairwise_reverse]; exact R.sa.imp fun h => by unfold gN; exact Int.neg_le_neg h
 first := fun x y hx hy => by
  have e1 := rev_at (a := b) R.nb (Nat.le_refl _)
  have e2 := rev_at (a := a) R.na (Nat.le_refl _)
  rw [Nat.sub_self] at e1 e2
  rw [e1] at hx; rw [e2] at hy
  have := R.last y x (by refine rF Array.getElem?_toList ?_; exact hy) (by refine rF Array.getElem?_toList ?_; exact hx)
  unfold gN; exact Int.neg_le_neg this
 last := fun x y hx hy => by
  have hb1 := R.nb
  have e1 := rev_at (a := b) (n := 1) (Nat.le_refl _) hb1
  rw [show b.toList.reverse.length - 1 = b.size - 1 by simp, e1] at hx
  obtain ⟨n, hn, e⟩ := List.mem_iff_getElem.mp (List.mem_reverse.mp hy)
  obtain ⟨z, z1, z2, _⟩ := qbv R.na
  have h1 := qbs R.sa (Nat.zero_le n) z2 (by refine rE (List.getElem?_eq_getElem hn) (rE e rfl))
  have h2 := R.first z x z1 (by refine rF Array.getElem?_toList ?_; exact hx)
  unfold gN; lia
theorem MRes.rev {a b : Array Keyed} {r : List Keyed} (h : MRes gN b.toList.reverse a.toList.reverse r) : MRes kf a.toList b.toList r.reverse where
 perm := (List.reverse_perm r).trans (h.perm.trans (((List.reverse_perm _).append (List.reverse_perm _)).trans List.perm_append_comm))
 srt := by rw [SrtG, List.pairwise_reverse]; exact h.srt.imp fun q => by unfold gN at q; exact Int.le_of_neg_le_neg q
noncomputable abbrev doneHi (a b out : Array Keyed) (na nb : Nat) : Array Keyed := a.extract 0 na ++ b.extract 0 nb ++ out.reverse
noncomputable abbrev firstHi (a b out : Array Keyed) (na nb : Nat) : Array Keyed := b.extract 0 nb ++ a.extract 0 na ++ out.reverse
section
variable {a b out : Array Keyed} {na nb k : Nat} {x y : Keyed}
theorem qb7 {a : Array Keyed} {n : Nat} : (a.extract 0 n).toList = a.toList.take n := by
 refine rE Array.toList_extract (rE List.extract_eq_take_drop ?_); simp
theorem hi_list (h : MH a b out na nb) : (doneHi a b out na nb).toList = (out.toList ++ b.toList.reverse.drop (b.size - nb) ++ a.toList.reverse.drop (a.size - na)).reverse := by
 refine rE (qcy h.ha) (rE (qcy h.hb) (rE Array.toList_append (rE Array.toList_append (rE Array.toList_reverse (rE qb7 (rE qb7 ?_))))))
 simp
theorem hi_list' (h : MH a b out na nb) : (firstHi a b out na nb).toList = (out.toList ++ a.toList.reverse.drop (a.size - na) ++ b.toList.reverse.drop (b.size - nb)).reverse := by
 refine rE (qcy h.ha) (rE (qcy h.hb) (rE Array.toList_append (rE Array.toList_append (rE Array.toList_reverse (rE qb7 (rE qb7 ?_))))))
 simp
theorem qc9 (R : Runs a b) (h : MH a b out na nb) (h0 : na = 0) : MRes kf a.toList b.toList (doneHi a b out na nb).toList := by
 refine rE (hi_list h) ?_
 exact (R.rev.doneOf h.mi (by simp; lia)).rev
theorem doneHi_ok' (R : Runs a b) (h : MH a b out na nb) (h0 : nb = 0) : MRes kf a.toList b.toList (doneHi a b out na nb).toList := by
 refine rE (hi_list h) ?_
 exact (R.rev.doneOf' h.mi (by simp; omega)).rev
theorem qcp (R : Runs a b) (h : MH a b out na nb) (h0 : nb = 1) : MRes kf a.toList b.toList (firstHi a b out na nb).toList := by
 refine rE (hi_list' h) ?_
 exact (R.rev.lastOf h.mi (by have := h.hb; simp; grind)).rev
theorem MH.blkA (R : Runs a b) (h : MH a b out na nb) (hb1 : 1 ≤ nb) (hy : b.toList[nb - 1]? = some y) (hk : k ≤ na) (hle : ∀ m x, k ≤ m → m < na → a.toList[m]? = some x → kf y ≤ kf x) : MH a b (out ++ (a.extract k na).reverse) k nb := by
 refine ⟨?_, Nat.le_trans hk h.ha, h.hb⟩
 have ha := h.ha
 have := R.rev.blkB (k := na - k) (y := y) h.mi (by refine rE (rev_at hb1 h.hb) ?_; exact hy) fun m x h1 h2 e => by
  have e2 := rev_at (a := a) (n := a.size - m) (by grind) (by exact Nat.sub_le a.size m)
  rw [show a.size - (a.size - m) = m by lia, e] at e2
  have := hle (a.size - m - 1) x (by omega) (by grind) e2.symm
  unfold gN; exact Int.neg_le_neg this
 rw [rev_seg hk ha, show a.size - na + (na - k) = a.size - k by exact Nat.sub_add_sub_cancel ha hk] at this
 refine rE Array.toList_append ?_; exact this
theorem MH.blkB (R : Runs a b) (h : MH a b out na nb) (ha1 : 1 ≤ na) (hy : a.toList[na - 1]? = some y) (hk : k ≤ nb) (hle : ∀ m x, k ≤ m → m < nb → b.toList[m]? = some x → kf y ≤ kf x) : MH a b (out ++ (b.extract k nb).reverse) na k := by
 refine ⟨?_, h.ha, Nat.le_trans hk h.hb⟩
 have hb := h.hb
 have := R.rev.blkA (k := nb - k) (y := y) h.mi (by refine rE (rev_at ha1 h.ha) ?_; exact hy) fun m x h1 h2 e => by
  have e2 := rev_at (a := b) (n := b.size - m) (by grind) (by exact Nat.sub_le b.size m)
  rw [show b.size - (b.size - m) = m by lia, e] at e2
  have := hle (b.size - m - 1) x (by omega) (by grind) e2.symm
  unfold gN; exact Int.neg_le_neg this
 rw [rev_seg hk hb, show b.size - nb + (nb - k) = b.size - k by exact Nat.sub_add_sub_cancel hb hk] at this
 refine rE Array.toList_append ?_; exact this
theorem ext_one {a : Array Keyed} {n : Nat} {x : Keyed} (h1 : 1 ≤ n) (hx : a.toList[n - 1]? = some x) : (a.extract (n - 1) n).reverse = #[x] := by
 have e := qb0 (a := a) (i := n - 1) (k := 1)
 rw [show n - 1 + 1 = n by exact Nat.sub_add_cancel h1, seg_one hx] at e
 apply Array.ext'
 refine rE Array.toList_reverse (rE e ?_); rfl
theorem MH.pushA (R : Runs a b) (h : MH a b out na nb) (ha1 : 1 ≤ na) (hb1 : 1 ≤ nb) (hx : a.toList[na - 1]? = some x) (hy : b.toList[nb - 1]? = some y) (hle : kf y ≤ kf x) : MH a b (out.push x) (na - 1) nb := by
 have := h.blkA (k := na - 1) R hb1 hy (by exact Nat.sub_le na 1) fun m z h1 h2 e => by
  rw [show m = na - 1 by lia, hx] at e
  refine rF (Option.some.inj e) ?_; exact hle
 rw [ext_one ha1 hx] at this
 exact this
theorem MH.pushB (R : Runs a b) (h : MH a b out na nb) (ha1 : 1 ≤ na) (hb1 : 1 ≤ nb) (hx : b.toList[nb - 1]? = some x) (hy : a.toList[na - 1]? = some y) (hle : kf y ≤ kf x) : MH a b (out.push x) na (nb - 1) := by
 have := h.blkB (k := nb - 1) R ha1 hy (by exact Nat.sub_le nb 1) fun m z h1 h2 e => by
  rw [show m = nb - 1 by lia, hx] at e
  refine rF (Option.some.inj e) ?_; exact hle
 rw [ext_one hb1 hx] at this
 exact this
theorem start_hi (R : Runs a b) (hx : a[a.size - 1]? = some x) : MH a b #[x] (a.size - 1) b.size := by
 refine ⟨?_, by exact Nat.sub_le a.size 1, Nat.le_refl _⟩
 have h1 := R.na
 have := R.rev.start (y := x) (by
  have e := rev_at (a := a) R.na (Nat.le_refl _)
  rw [Nat.sub_self] at e
  refine rE e (rE Array.getElem?_toList ?_); exact hx)
 refine rE (Nat.sub_self ..) (rE (show a.size - (a.size - 1) = 1 by exact Nat.sub_sub_self h1) ?_)
 exact this
end
inductive Hi1 (a b : Array Keyed) (st : SortSt) (P : Nat → Prop) (st' : SortSt) {γ : Type} : Option (Array Keyed) × Nat × Nat × Array Keyed × γ → Prop
 | mk (o : Array Keyed) (i j : Nat) (g : γ) (M : MH a b o i j) (hi : 1 ≤ i) (hj : 2 ≤ j) (S : SameG st st') (hx : P (i + j)) : Hi1 a b st P st' (none, i, j, o, g)
inductive Hi2 (a b : Array Keyed) (st : SortSt) (P : Nat → Prop) (st' : SortSt) {γ δ : Type} : Option (Array Keyed) × Nat × Nat × Array Keyed × γ × δ → Prop
 | mk (o : Array Keyed) (i j : Nat) (p : γ) (q : δ) (M : MH a b o i j) (hi : 1 ≤ i) (hj : 2 ≤ j) (S : SameG st st') (hx : P (i + j)) : Hi2 a b st P st' (none, i, j, o, p, q)
inductive Hi3 (a b : Array Keyed) (st : SortSt) (P : Nat → Prop) (st' : SortSt) {γ δ ε : Type} : Option (Array Keyed) × Nat × Nat × Array Keyed × γ × δ × ε → Prop
 | mk (o : Array Keyed) (i j : Nat) (g : γ) (p : δ) (q : ε) (M : MH a b o i j) (hi : 1 ≤ i) (hj : 2 ≤ j) (S : SameG st st') (hx : P (i + j)) : Hi3 a b st P st' (none, i, j, o, g, p, q)
noncomputable def mergeHiT : Array Keyed → Array Keyed → StateT SortSt Sem (Array Keyed) := sortPriv% PySem.Builtin.mergeHi
section
variable {prog : Program} {w : World} {A : Around} {E : Value → Shared → Prop} {s : Shared}
set_option maxHeartbeats 4000000 in
theorem wpS_mergeHi {a b : Array Keyed} {st : SortSt} {Q : Array Keyed → SortSt → Prop} (R : Runs a b) (hk : kindOf st = oneType') (h : ∀ r st', SameG st st' → MRes kf a.toList b.toList r.toList → Q r st') : wpS (model prog w) A E s (mergeHiT a b) Q st := by
 refine wpS_bind (wpS_lift (wpAny_rule ⟨rfl, ?_⟩))
 have hna := R.na
 have hnb := R.nb
 obtain ⟨a0, ha0, ha0l, _⟩ := qbv (a := a) (i := a.size - 1) (by exact Nat.sub_one_lt_of_lt hna)
 have M0 := start_hi R ha0
 refine wpS_bind (qal ha0 ?_)
 refine qaf (fun c1 => ?_) fun c1 => ?_
 ·exact wpS_pure (h _ _ .refl (qc9 R M0 (eq_of_beq c1)))
 refine qaf (fun c2 => ?_) fun c2 => ?_
 ·exact wpS_pure (h _ _ .refl (qcp R M0 (eq_of_beq c2)))
 refine wpS_bind (wpS_get ?_)
 have d1 : ¬ a.size - 1 = 0 := fun e => c1 (beq_iff_eq.mpr e)
 have d2 : ¬ b.size = 1 := fun e => c2 (beq_iff_eq.mpr e)
 refine wpS_bind (wpS_mono (wpS_forRange (I := fun x c st' => Hi1 a b st (x + · ≤ a.size + b.size) st' c) (Q := fun c st' => LoSome a b st st' c) ?step ?fin ⟨_, _, _, _, M0, by exact Nat.one_le_iff_ne_zero.mpr d1, by lia, .refl, by show 0 + (a.size - 1 + b.size) ≤ _; lia⟩) ?post)
 case fin =>
  rintro c st' ⟨o, i, j, g, M, hi, hj, S, hx⟩
  exact absurd hx (by have := M.ha; have := M.hb; lia)
 case post =>
  rintro c st' ⟨r, c2, S, hr⟩
  exact wpS_pure (h r st' S hr)
 case step =>
  rintro x c st' _ hxt ⟨o, i, j, g, M, hi, hj, S, hx⟩
  refine wpS_bind (wpS_mono (wpS_forRange (I := fun _ c st' => Hi2 a b st (x + · ≤ a.size + b.size) st' c) (Q := fun c st' => LoSome a b st st' c ∨ Hi2 a b st (x + · ≤ a.size + b.size) st' c) ?step1 ?fin1 ⟨_, _, _, _, _, M, hi, hj, S, hx⟩) ?post1)
  case fin1 => exact fun c st' q => .inr q
  case step1 =>
   rintro _ c st' _ _ ⟨o, i, j, p, q, M, hi, hj, S, hx⟩
   refine wpS_hide fun RR hRR => ?_
   have ha := M.ha
   have hb := M.hb
   obtain ⟨u, u1, u2, u3⟩ := qbv (a := a) (i := i - 1) (by exact Nat.sub_one_lt_of_le hi ha)
   obtain ⟨v, v1, v2, v3⟩ := qbv (a := b) (i := j - 1) (by omega)
   refine wpS_bind (qal v1 ?_)
   refine wpS_bind (qal u1 ?_)
   refine wpS_bind (wpS_ltI (S.kind.trans hk) (R.ib _ v3) (R.ia _ u3) ?_)
   refine qaf (fun q1 => ?_) fun q1 => ?_
   ·have q1' : kf v < kf u := by simpa using q1
    refine wpS_bind (qal u1 ?_)
    have M2 := M.pushA R hi (by exact Nat.one_le_of_lt hj) u2 v2 (by exact Int.le_of_lt q1')
    refine qaf (fun q2 => ?_) fun q2 => ?_
    ·exact wpS_pure (hRR _ _ (.inl ⟨_, _, S, qc9 R M2 (eq_of_beq q2)⟩))
    ·have d : ¬ i - 1 = 0 := fun e => q2 (beq_iff_eq.mpr e)
     have hi' : 1 ≤ i - 1 := by exact Nat.one_le_iff_ne_zero.mpr d
     have hx' : x + (i - 1 + j) ≤ a.size + b.size := by grind
     refine qaf (fun q3 => ?_) fun q3 => ?_
     ·exact wpS_pure (hRR _ _ (.inr ⟨_, _, _, _, _, M2, hi', hj, S, hx'⟩))
     ·exact wpS_pure (hRR _ _ ⟨_, _, _, _, _, M2, hi', hj, S, hx'⟩)
   ·have q1' : kf u ≤ kf v := by simpa using q1
    refine wpS_bind (qal v1 ?_)
    have M2 := M.pushB R hi (by exact Nat.one_le_of_lt hj) v2 u2 q1'
    refine qaf (fun q2 => ?_) fun q2 => ?_
    ·exact wpS_pure (hRR _ _ (.inl ⟨_, _, S, qcp R M2 (eq_of_beq q2)⟩))
    ·have d : ¬ j - 1 = 1 := fun e => q2 (beq_iff_eq.mpr e)
     have hj' : 2 ≤ j - 1 := by lia
     have hx' : x + (i + (j - 1)) ≤ a.size + b.size := by grind
     refine qaf (fun q3 => ?_) fun q3 => ?_
     ·exact wpS_pure (hRR _ _ (.inr ⟨_, _, _, _, _, M2, hi, hj', S, hx'⟩))
     ·exact wpS_pure (hRR _ _ ⟨_, _, _, _, _, M2, hi, hj', S, hx'⟩)
  case post1 =>
   rintro c st' (hs | ⟨o, i, j, p, q, M, hi, hj, S, hx⟩)
   ·obtain ⟨r, c2, S, hr⟩ := hs
    exact wpS_pure ⟨r, _, S, hr⟩
   refine wpS_bind (wpS_lift (wpAny_rule ⟨rfl, ?_⟩))
   refine wpS_bind (wpS_mono (wpS_forRange (I := fun y c st' => Hi3 a b st (fun s => (y = 0 ∧ x + s ≤ a.size + b.size) ∨ x + 1 + s ≤ a.size + b.size) st' c) (Q := fun c st' => LoSome a b st st' c ∨ Hi3 a b st (x + 1 + · ≤ a.size + b.size) st' c) ?step2 ?fin2 ⟨_, _, _, _, _, _, M, hi, hj, S, .inl ⟨rfl, hx⟩⟩) ?post2)
   case fin2 =>
    rintro c st' ⟨o, i, j, g, p, q, M, hi, hj, S, hx⟩
    refine .inr ⟨_, _, _, _, _, _, M, hi, hj, S, ?_⟩
    lia
   case post2 =>
    rintro c st' (hs | ⟨o, i, j, g, p, q, M, hi, hj, S, hx⟩)
    ·obtain ⟨r, c2, S, hr⟩ := hs
     exact wpS_pure ⟨r, _, S, hr⟩
    ·refine wpS_bind (wpS_setG fun st2 S2 => ?_)
     exact wpS_pure ⟨_, _, _, _, M, hi, hj, S.trans S2, hx⟩
   case step2 =>
    rintro y c st' _ _ ⟨o, i, j, g, p, q, M, hi, hj, S, hx⟩
    refine wpS_hide fun RR hRR => ?_
    extract_lets _ _ _ _ _ _ _ _ _ _ _ _ jp _
    refine wpS_cut (fun z : Nat => jp () z) (fun _ => True) ?_ fun hjp => qaf (fun _ => hjp _ trivial) fun _ => hjp _ trivial
    intro z _
    refine wpS_bind (wpS_setG fun st2 S2 => ?_)
    have ha := M.ha
    have hb := M.hb
    obtain ⟨v, v1, v2, v3⟩ := qbv (a := b) (i := j - 1) (by omega)
    refine wpS_bind (qal v1 ?_)
    have S3 := S.trans S2
    refine wpS_bind (qbc (base := 0) (n := i) (hint := i - 1) (S3.kind.trans hk) (R.ib _ v3) R.ia (by lia) (by exact Nat.sub_one_lt_of_lt hi) (fun _ _ _ _ _ h1 _ e1 e2 => qbs R.sa h1 e1 e2) fun k hk1 low' upp' => ?_)
    have low : ∀ x, 1 ≤ k → a.toList[k - 1]? = some x → kf x ≤ kf v := fun x h1 e => by
     simpa [byd] using low' (k - 1) x (Nat.zero_le _) (by omega) e
    have upp : ∀ m x, k ≤ m → m < i → a.toList[m]? = some x → kf v ≤ kf x := fun m x h1 h2 e => by
     have : kf v < kf x := by simpa [byd] using upp' m x (by lia) (by exact Nat.lt_add_left 0 h2) e
     exact Int.le_of_lt this
    have M3 := M.blkA R (by exact Nat.one_le_of_lt hj) v2 hk1 upp
    dsimp -zeta only
    extract_lets _ _ jp2
    refine wpS_cut (fun z : Nat × Array Keyed => jp2 () z.1 z.2) (fun z => MH a b z.2 z.1 j ∧ 1 ≤ z.1 ∧ z.1 ≤ i ∧ ∀ x, a.toList[z.1 - 1]? = some x → kf x ≤ kf v) ?_ fun hjp2 => qaf (fun c => qaf (fun q1 => ?_) fun q1 => ?_) fun c => ?_
    rotate_left
    ·exact wpS_pure (hRR _ _ (.inl ⟨_, _, S3, qc9 R M3 (eq_of_beq q1)⟩))
    ·have d : ¬ k = 0 := fun e => q1 (beq_iff_eq.mpr e)
     exact hjp2 (_, _) ⟨M3, by show 1 ≤ k; exact Nat.one_le_iff_ne_zero.mpr d, hk1, fun x e => low x (by exact Nat.one_le_iff_ne_zero.mpr d) e⟩
    ·have hk0 : k = i := by have c' : ¬ i - k > 0 := c; grind
     subst hk0
     exact hjp2 (_, _) ⟨M, hi, Nat.le_refl _, fun x e => low x hi e⟩
    rintro ⟨i', o'⟩ ⟨M4, hi4, hii, low4⟩
    replace M4 : MH a b o' i' j := M4
    replace hi4 : 1 ≤ i' := hi4
    replace hii : i' ≤ i := hii
    replace low4 : ∀ x, a.toList[i' - 1]? = some x → kf x ≤ kf v := low4
    refine wpS_bind (qal v1 ?_)
    obtain ⟨u, u1, u2, u3⟩ := qbv (a := a) (i := i' - 1) (by omega)
    have M5 := M4.pushB R hi4 (by exact Nat.one_le_of_lt hj) v2 u2 (low4 u u2)
    refine qaf (fun q3 => ?_) fun q3 => ?_
    ·exact wpS_pure (hRR _ _ (.inl ⟨_, _, S3, qcp R M5 (eq_of_beq q3)⟩))
    have hj5 : 2 ≤ j - 1 := by
     have : ¬ j - 1 = 1 := fun e => q3 (beq_iff_eq.mpr e)
     omega
    refine wpS_bind (qal u1 ?_)
    refine wpS_bind (qbc (base := 0) (n := j - 1) (hint := j - 1 - 1) (S3.kind.trans hk) (R.ia _ u3) R.ib (by grind) (by exact Nat.sub_one_lt_of_lt hj5) (fun _ _ _ _ _ h1 _ e1 e2 => qbs R.sb h1 e1 e2) fun k2 hk2 low2' upp2' => ?_)
    have low2 : ∀ x, 1 ≤ k2 → b.toList[k2 - 1]? = some x → kf x ≤ kf u := fun x h1 e => by
     have : kf x < kf u := by simpa [byd] using low2' (k2 - 1) x (Nat.zero_le _) (by grind) e
     exact Int.le_of_lt this
    have upp2 : ∀ m x, k2 ≤ m → m < j - 1 → b.toList[m]? = some x → kf u ≤ kf x := fun m x h1 h2 e => by
     simpa [byd] using upp2' m x (by lia) (by exact Nat.lt_add_left 0 h2) e
    have M6' := M5.blkB R hi4 u2 hk2 upp2
    dsimp -zeta only
    extract_lets _ _ _ jp3
    refine wpS_cut (fun z : Nat × Array Keyed => jp3 () z.1 z.2) (fun z => MH a b z.2 i' z.1 ∧ 2 ≤ z.1 ∧ z.1 ≤ j - 1 ∧ ∀ x, b.toList[z.1 - 1]? = some x → kf x ≤ kf u) ?_ fun hjp3 => qaf (fun c => qaf (fun q1 => ?_) fun q1 => qaf (fun q2 => ?_) fun q2 => ?_) fun c => ?_
    rotate_left
    ·exact wpS_pure (hRR _ _ (.inl ⟨_, _, S3, qcp R M6' (eq_of_beq q1)⟩))
    ·exact wpS_pure (hRR _ _ (.inl ⟨_, _, S3, doneHi_ok' R M6' (eq_of_beq q2)⟩))
    ·have d1 : ¬ k2 = 1 := fun e => q1 (beq_iff_eq.mpr e)
     have d2 : ¬ k2 = 0 := fun e => q2 (beq_iff_eq.mpr e)
     exact hjp3 (_, _) ⟨M6', by show 2 ≤ k2; lia, hk2, fun x e => low2 x (by exact Nat.one_le_iff_ne_zero.mpr d2) e⟩
    ·have hk0 : k2 = j - 1 := by have c' : ¬ j - 1 - k2 > 0 := c; grind
     subst hk0
     exact hjp3 (_, _) ⟨M5, hj5, Nat.le_refl _, fun x e => low2 x (by exact Nat.le_sub_one_of_lt hj) e⟩
    rintro ⟨j6, o6⟩ ⟨M6, hj6, hjj, low6⟩
    replace M6 : MH a b o6 i' j6 := M6
    replace hj6 : 2 ≤ j6 := hj6
    replace hjj : j6 ≤ j - 1 := hjj
    replace low6 : ∀ x, b.toList[j6 - 1]? = some x → kf x ≤ kf u := low6
    refine wpS_bind (qal u1 ?_)
    obtain ⟨v6, _, v62, _⟩ := qbv (a := b) (i := j6 - 1) (by grind)
    have M7 := M6.pushA R hi4 (by exact Nat.one_le_of_lt hj6) u2 v62 (low6 v6 v62)
    refine qaf (fun q => wpS_pure (hRR _ _ (.inl ⟨_, _, S3, qc9 R M7 (eq_of_beq q)⟩))) fun q => ?_
    have hi8 : 1 ≤ i' - 1 := by
     have : ¬ i' - 1 = 0 := fun e => q (beq_iff_eq.mpr e)
     exact Nat.one_le_iff_ne_zero.mpr this
    have hx8 : x + 1 + (i' - 1 + j6) ≤ a.size + b.size := by omega
    exact qaf (fun _ => wpS_pure (hRR _ _ (.inr ⟨_, _, _, _, _, _, M7, hi8, hj6, S3, hx8⟩))) fun _ => wpS_pure (hRR _ _ ⟨_, _, _, _, _, _, M7, hi8, hj6, S3, .inr hx8⟩)
end
end
end Mine
end
section
open PySem PyProof.Rows
namespace Mine
noncomputable section
noncomputable def qbt : Nat → List (List Keyed) → List (Nat × Nat)
 | _, [] => []
 | s, r :: R => (s, r.length) :: qbt (s + r.length) R
theorem qcm : ∀ (s : Nat) (P T : List (List Keyed)), qbt s (P ++ T) = qbt s P ++ qbt (s + P.flatten.length) T
 | s, [], T => by simp [qbt]
 | s, r :: P, T => by
  show (s, r.length) :: qbt (s + r.length) (P ++ T) = (s, r.length) :: qbt (s + r.length) P ++ _
  refine rE (qcm (s + r.length) P T) (rE List.flatten_cons (rE List.length_append (rE (Nat.add_assoc ..) ?_))); rfl
theorem qcl : ∀ (s : Nat) (P : List (List Keyed)), (qbt s P).length = P.length
 | s, [] => rfl
 | s, r :: P => by show _ + 1 = _ + 1; refine rE (qcl ..) rfl
structure SI (a₀ : Array Keyed) (st : SortSt) (Rs : List (List Keyed)) (rest : List Keyed) : Prop where
 arr : (arrOf st).toList = Rs.flatten ++ rest
 perm : (arrOf st).Perm a₀
 kind : kindOf st = oneType'
 failed : failedOf st = none
 pend : (pendingOf st).toList.map (fun p => (p.1, p.2.1)) = qbt 0 Rs
 run : ∀ r ∈ Rs, r ≠ [] ∧ SrtL r
theorem fold_set {s : Nat} : ∀ (l : List Keyed) (j0 : Nat) (pre mid post : List Keyed) (a : Array Keyed), a.toList = pre ++ mid ++ post → pre.length = s + j0 → mid.length = l.length → ((l.zipIdx j0).foldl (fun a p => a.setIfInBounds (s + p.2) p.1) a).toList = pre ++ l ++ post
 | [], j0, pre, mid, post, a, h1, h2, h3 => by
  have : mid = [] := List.length_eq_zero_iff.mp h3
  subst this
  exact h1
 | p :: l, j0, pre, [], post, a, h1, h2, h3 => by cases h3
 | p :: l, j0, pre, z :: mid, post, a, h1, h2, h3 => by
  refine rE List.zipIdx_cons (rE List.foldl_cons ?_)
  have := fold_set (s := s) l (j0 + 1) (pre ++ [p]) mid post (a.setIfInBounds (s + j0) p) (by
   refine rE Array.toList_setIfInBounds (rE h1 (rF h2 (rE (List.append_assoc ..) (rE (List.set_append_right _ _ (Nat.le_refl _)) (rE (Nat.sub_self ..) ?_)))))
   simp) (by refine rE List.length_append (rE h2 ?_); rfl) (Nat.succ.inj h3)
  refine rE this ?_; simp
theorem mid_sorted {x y r : List Keyed} {k n : Nat} (hx : SrtL x) (hy : SrtL y) (h : MRes kf (x.drop k) (y.take n) r) (h1 : ∀ u ∈ x.take k, ∀ v ∈ y, kf u ≤ kf v) (h2 : ∀ u ∈ x, ∀ v ∈ y.drop n, kf u ≤ kf v) : SrtL (x.take k ++ r ++ y.drop n) := by
 have ex := List.take_append_drop k x
 have ey := List.take_append_drop n y
 rw [← ex] at hx
 rw [← ey] at hy
 refine eAA (List.pairwise_append.mp hx) fun x1 x2 x3 => ?_
 refine eAA (List.pairwise_append.mp hy) fun y1 y2 y3 => ?_
 refine List.pairwise_append.mpr ⟨List.pairwise_append.mpr ⟨x1, h.srt, fun u hu v hv => ?_⟩, y2, fun u hu v hv => ?_⟩
 ·rcases List.mem_append.mp (h.perm.mem_iff.mp hv) with hv | hv
  ·exact x3 u hu v hv
  ·exact h1 u hu v (List.mem_of_mem_take hv)
 ·rcases List.mem_append.mp hu with hu | hu
  ·exact h2 u (List.mem_of_mem_take hu) v hv
  ·rcases List.mem_append.mp (h.perm.mem_iff.mp hu) with hu | hu
   ·exact h2 u (List.mem_of_mem_drop hu) v hv
   ·exact y3 u hu v hv
noncomputable def mergeAtT : Nat → StateT SortSt Sem Bool := sortPriv% PySem.Builtin.mergeAt
section
variable {prog : Program} {w : World} {A : Around} {E : Value → Shared → Prop} {s : Shared} {a₀ : Array Keyed}
theorem wpS_set {st st' : SortSt} {Q : PUnit → SortSt → Prop} (h : Q ⟨⟩ st') : wpS (model prog w) A E s (set st' : StateT SortSt Sem PUnit) Q st := by
 unfold wpS; refine rE (StateT.run_set ..) ?_; exact wpAny_pure ⟨rfl, h⟩
set_option maxHeartbeats 4000000 in
theorem qcs {st : SortSt} {Q : Bool → SortSt → Prop} {P T : List (List Keyed)} {x y rest : List Keyed} (h0 : IntKeys a₀) (S : SI a₀ st (P ++ x :: y :: T) rest) (h : ∀ st' m, m.length = x.length + y.length → SI a₀ st' (P ++ m :: T) rest → Q true st') : wpS (model prog w) A E s (mergeAtT P.length) Q st := by
 have hr := S.pend
 rw [qcm] at hr
 have hPl := qcl 0 P
 have g1 : ∃ pw, (pendingOf st)[P.length]? = some (P.flatten.length, x.length, pw) := by
  have : ((pendingOf st).toList.map (fun p => (p.1, p.2.1)))[P.length]? = some (P.flatten.length, x.length) := by
   refine rE hr (rE (List.getElem?_append_right (by exact Nat.le_of_eq hPl)) (rE hPl (rE (Nat.sub_self ..) ?_))); simp [qbt]
  rw [List.getElem?_map] at this
  refine eEA (Option.map_eq_some_iff.mp this) fun zz0 hp e => ?_; obtain ⟨p1, p2, p3⟩ := zz0
  cases e
  exact ⟨p3, by refine rF Array.getElem?_toList ?_; exact hp⟩
 have g2 : ∃ pw, (pendingOf st)[P.length + 1]? = some (P.flatten.length + x.length, y.length, pw) := by
  have : ((pendingOf st).toList.map (fun p => (p.1, p.2.1)))[P.length + 1]? = some (P.flatten.length + x.length, y.length) := by
   refine rE hr (rE (List.getElem?_append_right (by exact Nat.le.intro (congrFun (congrArg HAdd.hAdd hPl) 1))) (rE hPl (rE (Nat.add_sub_cancel_left ..) ?_))); simp [qbt]
  rw [List.getElem?_map] at this
  refine eEA (Option.map_eq_some_iff.mp this) fun zz0 hp e => ?_; obtain ⟨p1, p2, p3⟩ := zz0
  cases e
  exact ⟨p3, by refine rF Array.getElem?_toList ?_; exact hp⟩
 refine eE g1 fun pw g1 => ?_
 refine eE g2 fun pw2 g2 => ?_
 refine eA (S.run x (by exact List.mem_append_cons_self)) fun hx0 sx => ?_
 refine eA (S.run y (by simp)) fun hy0 sy => ?_
 have hxl : 1 ≤ x.length := by cases x with | nil => exact absurd rfl hx0 | cons _ _ => simp
 have hyl : 1 ≤ y.length := by cases y with | nil => exact absurd rfl hy0 | cons _ _ => simp
 have hA : (arrOf st).toList = P.flatten ++ (x ++ (y ++ (T.flatten ++ rest))) := by refine rE S.arr ?_; simp
 have hpm := Array.perm_iff_toList_perm.mp S.perm
 have hI : ∀ p ∈ (arrOf st).toList, IntK p := fun p hp => h0 p (hpm.mem_iff.mp hp)
 have hsz : P.flatten.length + x.length + y.length ≤ (arrOf st).size := by
  have := congrArg List.length hA
  simp only [List.length_append, Array.length_toList] at this
  lia
 have atx : ∀ m, P.flatten.length ≤ m → m < P.flatten.length + x.length → (arrOf st).toList[m]? = x[m - P.flatten.length]? := fun m h1 h2 => by
  refine rE hA (rE (List.getElem?_append_right h1) (rE (List.getElem?_append_left (by exact Nat.sub_lt_left_of_lt_add h1 h2)) rfl))
 have aty : ∀ m, P.flatten.length + x.length ≤ m → m < P.flatten.length + x.length + y.length → (arrOf st).toList[m]? = y[m - (P.flatten.length + x.length)]? := fun m h1 h2 => by
  refine rE hA (rE (List.getElem?_append_right (by exact Nat.le_of_add_right_le h1)) (rE (List.getElem?_append_right (by exact Nat.le_sub_of_add_le' h1)) (rE (List.getElem?_append_left (by omega)) (rE (Nat.sub_sub ..) rfl))))
 have fin : ∀ (st' : SortSt) (m : List Keyed), (arrOf st').toList = P.flatten ++ (m ++ (T.flatten ++ rest)) → m.Perm (x ++ y) → SrtL m → kindOf st' = kindOf st → failedOf st' = failedOf st → pendingOf st' = ((pendingOf st).setIfInBounds P.length (P.flatten.length, x.length + y.length, pw)).eraseIdxIfInBounds (P.length + 1) → Q true st' := by
  intro st' m e1 e2 e3 e4 e5 e6
  have hml : m.length = x.length + y.length := by refine rE e2.length_eq (rE List.length_append rfl)
  refine h st' m hml ⟨by refine rE e1 ?_; simp, ?_, e4.trans S.kind, e5.trans S.failed, ?_, fun r hr => ?_⟩
  ·refine (Array.perm_iff_toList_perm.mpr ?_).trans S.perm
   refine rE e1 (rE hA ?_)
   refine List.Perm.append_left _ ?_
   rw [← List.append_assoc x y]
   exact e2.append_right _
  ·have hpl : (pendingOf st).size = P.length + (2 + T.length) := by
    have := congrArg List.length hr
    simpa [qcl, qbt, Nat.add_comm, Nat.add_left_comm] using this
   refine rE e6 (rE Array.eraseIdxIfInBounds_eq (rE (dif_pos (by rw [Array.size_setIfInBounds]; lia)) (rE Array.toList_eraseIdx (rE Array.toList_setIfInBounds (rE (List.eraseIdx_eq_take_drop_succ ..) (rE List.map_append (rE List.map_take (rE List.map_drop (rF (List.eraseIdx_eq_take_drop_succ ..) (rE List.map_set (rE hr (rE (qcm ..) ?_))))))))))))
   refine rE (List.set_append_right _ _ (by exact Nat.le_of_eq hPl)) (rE hPl (rE (Nat.sub_self ..) ?_)); rewrite [List.eraseIdx_append_of_length_le (by lia)]; refine rE hPl (rE (Nat.add_sub_cancel_left ..) ?_)
   show _ ++ ((P.flatten.length, x.length + y.length) :: qbt _ T) = _ ++ ((0 + P.flatten.length, m.length) :: qbt _ T)
   refine rE hml (rE (Nat.zero_add ..) (rE (Nat.add_assoc ..) rfl))
  ·rcases List.mem_append.mp hr with q | q
   ·exact S.run r (List.mem_append_left _ q)
   ·rcases List.mem_cons.mp q with rfl | q
    ·exact ⟨fun e => by rw [e] at hml; simp at hml; lia, e3⟩
    ·exact S.run r (List.mem_append_right _ (List.mem_cons_of_mem _ (List.mem_cons_of_mem _ q)))
 refine wpS_bind (wpS_get ?_)
 refine rE g1 (rE g2 ?_)
 refine wpS_bind (wpS_set ?_)
 obtain ⟨y0, hy00⟩ : ∃ y0, y[0]? = some y0 := ⟨_, List.getElem?_eq_getElem (by assumption)⟩
 have hyA : (arrOf st).toList[P.flatten.length + x.length]? = some y0 := by refine rE (aty _ (Nat.le_refl _) (by exact Nat.lt_add_of_pos_right hyl)) (rE (Nat.sub_self ..) ?_); exact hy00
 refine wpS_bind (qal (by refine rF Array.getElem?_toList ?_; exact hyA) ?_)
 have hy0I : IntK y0 := hI _ (List.mem_of_getElem? hyA)
 refine wpS_bind (qbc (arr := arrOf st) (base := P.flatten.length) (n := x.length) (hint := 0) S.kind hy0I hI (by show P.flatten.length + x.length ≤ (arrOf st).size; exact Nat.le_of_add_right_le hsz) (by assumption) (fun i j u v h1 h2 h3 e1 e2 => ?_) fun k hk low' upp' => ?_)
 ·rw [atx i h1 (by exact Nat.lt_of_le_of_lt h2 h3)] at e1
  rw [atx j (by exact Nat.le_trans h1 h2) h3] at e2
  exact qbs sx (by exact Nat.sub_le_sub_right h2 P.flatten.length) e1 e2
 have low : ∀ u ∈ x.take k, kf u ≤ kf y0 := fun u hu => by
  refine eEAA (mem_seg (i := 0) (by rw [List.drop_zero]; exact hu)) fun n n1 n2 e => ?_
  simpa [byd] using low' (P.flatten.length + n) u (by exact Nat.le_add_right P.flatten.length n) (by lia) (by refine rE (atx _ (by exact Nat.le_add_right P.flatten.length n) (by lia)) (rE (Nat.add_sub_cancel_left ..) ?_); exact e)
 have upp : ∀ u ∈ x.drop k, kf y0 < kf u := fun u hu => by
  refine eEA (qco hu) fun n n1 e => ?_
  have hlt := (List.getElem?_eq_some_iff.mp e).1
  simpa [byd] using upp' (P.flatten.length + n) u (by exact Nat.add_le_add_iff_left.mpr n1) (by exact Nat.add_lt_add_left hlt P.flatten.length) (by refine rE (atx _ (by exact Nat.le_add_right P.flatten.length n) (by exact Nat.add_lt_add_left hlt P.flatten.length)) (rE (Nat.add_sub_cancel_left ..) ?_); exact e)
 have y0le : ∀ v ∈ y, kf y0 ≤ kf v := fun v hv => by
  obtain ⟨n, hn, e⟩ := List.mem_iff_getElem.mp hv
  exact qbs sy (Nat.zero_le n) hy00 (by refine rE (List.getElem?_eq_getElem hn) (rE e rfl))
 refine qaf (fun c => ?_) fun c => ?_
 ·have hkx : k = x.length := by have : x.length - k = 0 := eq_of_beq c; grind
  rw [hkx, List.take_length] at low
  refine wpS_pure (fin _ (x ++ y) (by refine rE (List.append_assoc ..) ?_; exact hA) (.refl _) (List.pairwise_append.mpr ⟨sx, sy, fun u hu v hv => ?_⟩) rfl rfl rfl)
  have := low u hu
  have := y0le v hv
  exact Int.le_trans (low u hu) (y0le v hv)
 have hkx : k < x.length := by
  have : ¬ x.length - k = 0 := fun e => c (beq_iff_eq.mpr e)
  exact Nat.sub_ne_zero_iff_lt.mp this
 obtain ⟨xl, hxl0⟩ : ∃ xl, x[x.length - 1]? = some xl := ⟨_, List.getElem?_eq_getElem (by exact Nat.sub_one_lt_of_lt hxl)⟩
 have hxA : (arrOf st).toList[P.flatten.length + k + (x.length - k) - 1]? = some xl := by
  refine rE (show P.flatten.length + k + (x.length - k) - 1 = P.flatten.length + (x.length - 1) from by rw [Nat.add_assoc, Nat.add_sub_cancel' (Nat.le_of_lt hkx), Nat.add_sub_assoc hxl]) (rE (atx _ (Nat.le_add_right _ _) (Nat.add_lt_add_left (Nat.sub_lt hxl Nat.one_pos) _)) (rE (Nat.add_sub_cancel_left ..) ?_)); exact hxl0
 refine wpS_bind (qal (by refine rF Array.getElem?_toList ?_; exact hxA) ?_)
 have hxlI : IntK xl := hI _ (List.mem_of_getElem? hxA)
 refine wpS_bind (qbc (arr := arrOf st) (base := P.flatten.length + x.length) (n := y.length) (hint := y.length - 1) S.kind hxlI hI hsz (by exact Nat.sub_one_lt_of_lt hyl) (fun i j u v h1 h2 h3 e1 e2 => ?_) fun n hn low2' upp2' => ?_)
 ·rw [aty i h1 (by exact Nat.lt_of_le_of_lt h2 h3)] at e1
  rw [aty j (by exact Nat.le_trans h1 h2) h3] at e2
  exact qbs sy (by exact Nat.sub_le_sub_right h2 (P.flatten.length + x.length)) e1 e2
 have low2 : ∀ v ∈ y.take n, kf v < kf xl := fun v hv => by
  refine eEAA (mem_seg (i := 0) (by rw [List.drop_zero]; exact hv)) fun m n1 n2 e => ?_
  simpa [byd] using low2' (P.flatten.length + x.length + m) v (by exact Nat.le_add_right (P.flatten.length + x.length) m) (by lia) (by refine rE (aty _ (by exact Nat.le_add_right (P.flatten.length + x.length) m) (by lia)) (rE (Nat.add_sub_cancel_left ..) ?_); exact e)
 have upp2 : ∀ v ∈ y.drop n, kf xl ≤ kf v := fun v hv => by
  refine eEA (qco hv) fun m n1 e => ?_
  have hlt := (List.getElem?_eq_some_iff.mp e).1
  simpa [byd] using upp2' (P.flatten.length + x.length + m) v (by exact Nat.add_le_add_iff_left.mpr n1) (by exact Nat.add_lt_add_left hlt (P.flatten.length + x.length)) (by refine rE (aty _ (by exact Nat.le_add_right (P.flatten.length + x.length) m) (by exact Nat.add_lt_add_left hlt (P.flatten.length + x.length))) (rE (Nat.add_sub_cancel_left ..) ?_); exact e)
 have xlle : ∀ u ∈ x, kf u ≤ kf xl := fun u hu => by
  obtain ⟨m, hm, e⟩ := List.mem_iff_getElem.mp hu
  exact qbs sx (show m ≤ x.length - 1 by exact (Nat.le_sub_one_iff_lt hxl).mpr hm) (by refine rE (List.getElem?_eq_getElem hm) (rE e rfl)) hxl0
 refine qaf (fun c2 => ?_) fun c2 => ?_
 ·have hn0 : n = 0 := eq_of_beq c2
  rw [hn0, List.drop_zero] at upp2
  refine wpS_pure (fin _ (x ++ y) (by refine rE (List.append_assoc ..) ?_; exact hA) (.refl _) (List.pairwise_append.mpr ⟨sx, sy, fun u hu v hv => ?_⟩) rfl rfl rfl)
  have := xlle u hu
  have := upp2 v hv
  exact Int.le_trans (xlle u hu) (upp2 v hv)
 have hn1 : 1 ≤ n := by
  have : ¬ n = 0 := fun e => c2 (beq_iff_eq.mpr e)
  exact Nat.one_le_iff_ne_zero.mpr this
 have eX : ((arrOf st).extract (P.flatten.length + k) (P.flatten.length + x.length)).toList = x.drop k := by
  refine rE (show P.flatten.length + x.length = P.flatten.length + k + (x.length - k) by grind) (rE qb0 (rE hA (rF List.drop_drop (rE List.drop_left (rE (List.drop_append_of_le_length (Nat.le_of_lt hkx)) (rE (List.take_append_of_le_length (by simp)) (rE (List.take_of_length_le (by simp)) rfl)))))))
 have eY : ((arrOf st).extract (P.flatten.length + x.length) (P.flatten.length + x.length + n)).toList = y.take n := by
  refine rE qb0 (rE hA (rF List.drop_drop (rE List.drop_left (rE List.drop_left (rE (List.take_append_of_le_length hn) rfl)))))
 have hR : Runs ((arrOf st).extract (P.flatten.length + k) (P.flatten.length + x.length)) ((arrOf st).extract (P.flatten.length + x.length) (P.flatten.length + x.length + n)) := by
  have zX : ((arrOf st).extract (P.flatten.length + k) (P.flatten.length + x.length)).size = x.length - k := by refine rF Array.length_toList (rE eX (rE List.length_drop rfl))
  have zY : ((arrOf st).extract (P.flatten.length + x.length) (P.flatten.length + x.length + n)).size = n := by refine rF Array.length_toList (rE eY (rE List.length_take ?_)); exact Nat.min_eq_left hn
  refine ⟨fun u hu => ?_, fun u hu => ?_, ?_, ?_, by lia, by omega, fun u v hu hv => ?_, fun u v hu hv => ?_⟩
  ·rw [eX] at hu
   exact hI u (by refine rE hA ?_; exact List.mem_append_right _ (List.mem_append_left _ (List.mem_of_mem_drop hu)))
  ·rw [eY] at hu
   exact hI u (by refine rE hA ?_; exact List.mem_append_right _ (List.mem_append_right _ (List.mem_append_left _ (List.mem_of_mem_take hu))))
  ·refine rE eX ?_; exact sx.sublist (List.drop_sublist _ _)
  ·refine rE eY ?_; exact sy.sublist (List.take_sublist _ _)
  ·rw [← Array.getElem?_toList, eX] at hu
   rw [← Array.getElem?_toList, eY, List.getElem?_take_of_lt hn1, hy00] at hv
   have := upp u (List.mem_of_getElem? hu)
   refine rF (Option.some.inj hv) ?_; exact Int.le_of_lt this
  ·rw [zX, ← Array.getElem?_toList, eX, List.getElem?_drop, show k + (x.length - k - 1) = x.length - 1 by grind, hxl0] at hu
   rw [← Array.getElem?_toList, eY] at hv
   have := low2 v (List.mem_of_getElem? hv)
   refine rF (Option.some.inj hu) ?_; exact Int.le_of_lt this
 have last : ∀ (r : Array Keyed) (st3 : SortSt), MRes kf ((arrOf st).extract (P.flatten.length + k) (P.flatten.length + x.length)).toList ((arrOf st).extract (P.flatten.length + x.length) (P.flatten.length + x.length + n)).toList r.toList → arrOf st3 = arrOf st → ∀ st4 : SortSt, arrOf st4 = (r.toList.zipIdx).foldl (fun a p => a.setIfInBounds (P.flatten.length + k + p.2) p.1) (arrOf st3) → kindOf st4 = kindOf st → failedOf st4 = failedOf st → pendingOf st4 = ((pendingOf st).setIfInBounds P.length (P.flatten.length, x.length + y.length, pw)).eraseIdxIfInBounds (P.length + 1) → Q true st4 := by
  intro r st3 hr e3 st4 e4 e5 e6 e7
  rw [eX, eY] at hr
  refine fin st4 (x.take k ++ r.toList ++ y.drop n) ?_ ?_ (mid_sorted sx sy hr (fun u hu v hv => ?_) fun u hu v hv => ?_) e5 e6 e7
  ·refine rE e4 (rE e3 ?_)
   have := fold_set (s := P.flatten.length + k) r.toList 0 (P.flatten ++ x.take k) (x.drop k ++ y.take n) (y.drop n ++ (T.flatten ++ rest)) (arrOf st) (by
    refine rE hA ?_
    conv => lhs; rw [← List.take_append_drop k x, ← List.take_append_drop n y]
    simp only [List.append_assoc]) (by refine rE List.length_append (rE List.length_take ?_); lia) hr.perm.length_eq.symm
   refine rE this ?_; simp
  ·have h1 := hr.perm
   have h2 : (x.take k ++ r.toList ++ y.drop n).Perm (x.take k ++ (x.drop k ++ y.take n) ++ y.drop n) := (h1.append_left _).append_right _
   refine h2.trans (List.Perm.of_eq ?_)
   refine rF (List.append_assoc ..) (rE (List.take_append_drop ..) (rE (List.append_assoc ..) (rE (List.take_append_drop ..) rfl)))
  ·have := low u hu
   have := y0le v hv
   lia
  ·have := xlle u hu
   have := upp2 v hv
   omega
 refine qaf (fun _ => wpS_bind (wpS_mergeLo hR S.kind fun r st3 S3 hr => ?_)) fun _ => wpS_bind (wpS_mergeHi hR S.kind fun r st3 S3 hr => ?_)
 all_goals
  refine wpS_bind (wpS_modify (wpS_bind (wpS_get (wpS_pure ?_))))
  have f0 : (failedOf st3).isNone = true := by refine rE S3.failed ?_; show (failedOf st).isNone = true; refine rE S.failed ?_; rfl
  show Q (failedOf st3).isNone _
  refine rE f0 ?_
  exact last r st3 hr S3.arr _ rfl S3.kind S3.failed S3.pend
end
end
end Mine
end
section
open PySem PyProof.Rows
namespace Mine
noncomputable section
structure FR (st st' : SortSt) (lo hi : Nat) : Prop where
 kind : kindOf st' = kindOf st
 pend : pendingOf st' = pendingOf st
 failed : failedOf st' = failedOf st
 perm : (arrOf st').Perm (arrOf st)
 out : ∀ i, i < lo ∨ hi ≤ i → (arrOf st')[i]? = (arrOf st)[i]?
theorem FR.refl {st : SortSt} {lo hi : Nat} : FR st st lo hi := ⟨rfl, rfl, rfl, .refl _, fun _ _ => rfl⟩
theorem FR.trans {a b c : SortSt} {lo hi : Nat} (x : FR a b lo hi) (y : FR b c lo hi) : FR a c lo hi :=
 ⟨y.kind.trans x.kind, y.pend.trans x.pend, y.failed.trans x.failed, y.perm.trans x.perm, fun i h => (y.out i h).trans (x.out i h)⟩
theorem FR.mono {a b : SortSt} {lo hi hi' : Nat} (x : FR a b lo hi) (h : hi ≤ hi') : FR a b lo hi' := ⟨x.kind, x.pend, x.failed, x.perm, fun i q => x.out i (q.imp id (by lia))⟩
structure SP (a₀ : Array Keyed) (st : SortSt) : Prop where
 perm : (arrOf st).Perm a₀
 kind : kindOf st = oneType'
noncomputable def Dist (a₀ : Array Keyed) : Prop := (a₀.toList.map kf).Nodup
variable {a₀ : Array Keyed}
theorem SP.size {st : SortSt} (h : SP a₀ st) : (arrOf st).size = a₀.size := h.perm.size_eq
theorem SP.fr {st st' : SortSt} {lo hi : Nat} (h : SP a₀ st) (x : FR st st' lo hi) : SP a₀ st' := ⟨x.perm.trans h.perm, x.kind.trans h.kind⟩
theorem SP.at {st : SortSt} (h : SP a₀ st) (h0 : IntKeys a₀) {i : Nat} (hi : i < a₀.size) : ∃ t q, (arrOf st)[i]? = some (.int (K (arrOf st) i) t, q) := by
 have hi' : i < (arrOf st).size := by refine rE h.size ?_; exact hi
 have hm : (arrOf st)[i] ∈ a₀.toList := (Array.perm_iff_toList_perm.mp h.perm).mem_iff.mp (by exact Array.getElem_mem_toList hi')
 obtain ⟨n, t, hn⟩ := h0 _ hm
 refine ⟨t, (arrOf st)[i].2, ?_⟩
 have e : (arrOf st)[i]? = some (arrOf st)[i] := getElem?_pos _ i hi'
 have e2 : (arrOf st)[i] = (.int n t, (arrOf st)[i].2) := Prod.ext hn rfl
 unfold K
 refine rE e (rE e2 ?_)
 rfl
theorem SP.ne {st : SortSt} (h : SP a₀ st) (hD : Dist a₀) {i j : Nat} (hij : i < j) (hj : j < a₀.size) : K (arrOf st) i ≠ K (arrOf st) j := by
 have hp := ((Array.perm_iff_toList_perm.mp h.perm).map kf).nodup_iff.mpr hD
 have hz := h.size
 have e : ∀ m, m < a₀.size → K (arrOf st) m = ((arrOf st).toList.map kf)[m]?.getD 0 := fun m hm => by
  unfold K
  refine rE List.getElem?_map (rE Array.getElem?_toList (rE (getElem?_pos (arrOf st) m (by exact Nat.lt_of_lt_of_eq hm (id (Eq.symm hz)))) ?_)); rfl
 refine rE (e i (by exact Nat.lt_trans hij hj)) (rE (e j hj) ?_)
 refine rE (List.getElem?_eq_getElem (by simp; lia)) (rE (List.getElem?_eq_getElem (by simp; exact Nat.lt_of_lt_of_eq hj (id (Eq.symm hz)))) ?_)
 intro q
 have := (List.getElem_inj hp).mp q
 lia
noncomputable def qbk (xs : Array Keyed) (lo k : Nat) : Prop := ∀ i j, i ≤ j → j < k → K xs (lo + i) ≤ K xs (lo + j)
noncomputable def NonIncAt (xs : Array Keyed) (lo k : Nat) : Prop := ∀ i j, i ≤ j → j < k → K xs (lo + j) ≤ K xs (lo + i)
section
variable {prog : Program} {w : World} {A : Around} {E : Value → Shared → Prop} {s : Shared}
theorem wpS_ltP {st : SortSt} {i j : Nat} {Q : Option Bool → SortSt → Prop} (hB : SP a₀ st) (h0 : IntKeys a₀) (hi : i < a₀.size) (hj : j < a₀.size)
  (h : Q (some (decide (K (arrOf st) i < K (arrOf st) j))) st) : wpS (model prog w) A E s (ltAt' i j) Q st := by
 refine eEE (hB.at h0 hi) fun t p e1 => ?_
 refine eEE (hB.at h0 hj) fun u q e2 => ?_
 exact wpS_ltAt hB.kind e1 e2 h
theorem wpS_revAt {st : SortSt} {i j : Nat} {Q : Unit → SortSt → Prop} (hj : j ≤ (arrOf st).size) (h : ∀ st', FR st st' i j → (∀ k, i ≤ k → k < j → K (arrOf st') k = K (arrOf st) (i + j - 1 - k)) → Q () st') : wpS (model prog w) A E s (reverseSlice' i j) Q st := by
 refine rE (reverseSlice'_eq ..) ?_
 refine wpS_modify (h _ ⟨rfl, rfl, rfl, mirror_perm _ _ _ _, fun k hk => ?_⟩ fun k h1 h2 => ?_)
 ·show (mirror (arrOf st) i j ((j - i) / 2))[k]? = _
  rewrite [getElem?_mirror_all hj]; refine rE (if_neg (by lia)) rfl
 ·show K (mirror (arrOf st) i j ((j - i) / 2)) k = _
  rewrite [K_mirror hj]; refine rE (if_pos ⟨h1, h2⟩) rfl
theorem wpS_ascAt {st : SortSt} {lo a nrem : Nat} {Q : AscSt → SortSt → Prop} {f : Nat → AscSt → StateT SortSt Sem (ForInStep AscSt)} (h0 : IntKeys a₀) (hn : lo + nrem ≤ a₀.size) (ha : 1 ≤ a) (han : a ≤ nrem) (hB : SP a₀ st)
  (hf : ∀ x n (R : ForInStep AscSt → SortSt → Prop), 1 ≤ n → n < nrem → (K (arrOf st) (lo + n) < K (arrOf st) (lo + n - 1) → R (.done (none, n)) st) → (¬ K (arrOf st) (lo + n) < K (arrOf st) (lo + n - 1) → R (.yield (none, n + 1)) st) → wpS (model prog w) A E s (f x (none, n)) R st)
  (hs : qbk (arrOf st) lo a)
  (h : ∀ n, a ≤ n → n ≤ nrem → qbk (arrOf st) lo n → (n = nrem ∨ K (arrOf st) (lo + n) < K (arrOf st) (lo + n - 1)) → Q (none, n) st) :
  wpS (model prog w) A E s (forIn [a:nrem] ((none, a) : AscSt) f) Q st := by
 refine wpS_forRange (I := fun x c st' => st' = st ∧ c = (none, x) ∧ qbk (arrOf st) lo x) ?step ?fin ⟨rfl, rfl, hs⟩
 case fin =>
  rintro c st' ⟨rfl, rfl, hs'⟩
  rw [show max a nrem = nrem by exact Nat.max_eq_right han] at hs' ⊢
  exact h nrem han (Nat.le_refl _) hs' (.inl rfl)
 case step =>
  rintro x c st' hax hxn ⟨rfl, rfl, hs'⟩
  refine hf _ _ _ (by exact Nat.le_trans ha hax) hxn (fun hlt => h x hax (by exact Nat.le_of_succ_le hxn) hs' (.inr hlt)) fun hge => ⟨rfl, rfl, fun i j hij hj => ?_⟩
  by_cases hjx : j < x
  ·exact hs' i j hij hjx
  ·have hj' : j = x := by exact Nat.eq_of_lt_succ_of_not_lt hj hjx
   subst hj'
   by_cases hi' : i = j
   ·subst hi'; exact Int.le_refl _
   ·have := hs' i (j - 1) (Nat.le_sub_one_of_lt (Nat.lt_of_le_of_ne hij hi')) (Nat.sub_lt (Nat.le_trans ha hax) Nat.one_pos)
    rw [← Nat.add_sub_assoc (Nat.le_trans ha hax) lo] at this
    lia
theorem wpS_descAt {st : SortSt} {lo a nrem : Nat} {Q : DescSt → SortSt → Prop} {f : Nat → DescSt → StateT SortSt Sem (ForInStep DescSt)} (hD : Dist a₀) (hn : lo + nrem ≤ a₀.size) (ha : 1 ≤ a) (han : a ≤ nrem) (hB : SP a₀ st)
  (hf : ∀ x n (R : ForInStep DescSt → SortSt → Prop), 1 ≤ n → n < nrem → (K (arrOf st) (lo + n) < K (arrOf st) (lo + n - 1) → R (.yield (none, n + 1, 0)) st) → (K (arrOf st) (lo + n - 1) < K (arrOf st) (lo + n) → R (.done (none, n, 0)) st) → wpS (model prog w) A E s (f x (none, n, 0)) R st)
  (hs : NonIncAt (arrOf st) lo a)
  (h : ∀ n, a ≤ n → n ≤ nrem → NonIncAt (arrOf st) lo n → Q (none, n, 0) st) :
  wpS (model prog w) A E s (forIn [a:nrem] ((none, a, 0) : DescSt) f) Q st := by
 refine wpS_forRange (I := fun x c st' => st' = st ∧ c = (none, x, 0) ∧ NonIncAt (arrOf st) lo x) ?step ?fin ⟨rfl, rfl, hs⟩
 case fin =>
  rintro c st' ⟨rfl, rfl, hs'⟩
  rw [show max a nrem = nrem by exact Nat.max_eq_right han] at hs' ⊢
  exact h nrem han (Nat.le_refl _) hs'
 case step =>
  rintro x c st' hax hxn ⟨rfl, rfl, hs'⟩
  refine hf _ _ _ (by exact Nat.le_trans ha hax) hxn (fun hlt => ⟨rfl, rfl, fun i j hij hj => ?_⟩) fun hgt => h x hax (by exact Nat.le_of_succ_le hxn) hs'
  by_cases hjx : j < x
  ·exact hs' i j hij hjx
  ·have hj' : j = x := by exact Nat.eq_of_lt_succ_of_not_lt hj hjx
   subst hj'
   by_cases hi' : i = j
   ·subst hi'; exact Int.le_refl _
   ·have := hs' i (j - 1) (Nat.le_sub_one_of_lt (Nat.lt_of_le_of_ne hij hi')) (Nat.sub_lt (Nat.le_trans ha hax) Nat.one_pos)
    rw [← Nat.add_sub_assoc (Nat.le_trans ha hax) lo] at this
    lia
set_option maxHeartbeats 4000000 in
theorem wpS_countRunAt {st : SortSt} {lo nrem : Nat} {Q : Option Nat → SortSt → Prop} (h0 : IntKeys a₀) (hD : Dist a₀) (hn : lo + nrem ≤ a₀.size) (h1 : 1 ≤ nrem) (hB : SP a₀ st)
  (h : ∀ m st', FR st st' lo (lo + nrem) → 1 ≤ m → m ≤ nrem → qbk (arrOf st') lo m → Q (some m) st') :
  wpS (model prog w) A E s (countRun' lo nrem) Q st := by
 refine rE (countRun'_eq ..) ?_
 have asc : ∀ {st : SortSt}, SP a₀ st → ∀ (n : Nat) (R : ForInStep AscSt → SortSt → Prop), 1 ≤ n → n < nrem → (K (arrOf st) (lo + n) < K (arrOf st) (lo + n - 1) → R (.done (none, n)) st) → (¬ K (arrOf st) (lo + n) < K (arrOf st) (lo + n - 1) → R (.yield (none, n + 1)) st) → wpS (model prog w) A E s (do
   let __x ← ltAt' (lo + n) (lo + n - 1)
   match __x with
   | some smaller => if smaller = true then pure (ForInStep.done (none, n)) else pure (ForInStep.yield (none, n + 1))
   | _ => pure (ForInStep.done (some none, n)) : StateT SortSt Sem (ForInStep AscSt)) R st := by
  intro st hB n R n1 n2 r1 r2
  refine wpS_bind (wpS_ltP hB h0 (Nat.lt_of_lt_of_le (Nat.add_lt_add_left n2 lo) hn) (Nat.lt_of_le_of_lt (Nat.sub_le _ _) (Nat.lt_of_lt_of_le (Nat.add_lt_add_left n2 lo) hn)) ?_)
  by_cases hlt : K (arrOf st) (lo + n) < K (arrOf st) (lo + n - 1)
  ·simp only [hlt, decide_true, if_true]; exact wpS_pure (r1 hlt)
  ·simp only [hlt, decide_false, Bool.false_eq_true, if_false]; exact wpS_pure (r2 hlt)
 refine wpS_bind (wpS_ascAt h0 hn (Nat.le_refl 1) h1 hB (fun x n R n1 n2 r1 r2 => asc hB n R n1 n2 r1 r2) (fun i j hij hj => by have : i = j := (by lia); subst this; exact Int.le_refl _) fun n hn1 hn2 hsn hor => ?_)
 dsimp only
 refine qaf (fun c => wpS_pure (h n st .refl hn1 hn2 hsn)) fun c => ?_
 have hnn : n ≠ nrem := fun e => c (beq_iff_eq.mpr e)
 refine qaf (fun c2 => ?_) fun c2 => ?_
 ·refine wpS_bind (wpS_ltP hB h0 (by lia) (by omega) ?_)
  have h2 := hsn 0 (n - 1) (by exact (Nat.le_sub_one_iff_lt hn1).mpr hn1) (by exact Nat.sub_one_lt_of_lt hn1)
  have h3 := hB.ne hD (i := lo) (j := lo + n - 1) (by omega) (by omega)
  rw [show lo + (n - 1) = lo + n - 1 by exact Eq.symm (Nat.add_sub_assoc hn1 lo)] at h2
  simp only [show K (arrOf st) lo < K (arrOf st) (lo + n - 1) by simp only [Nat.add_zero] at h2; lia, decide_true, if_true]
  exact wpS_pure (h n st .refl hn1 hn2 hsn)
 ·have hn1' : n = 1 := by lia
  subst hn1'
  have hlt := hor.resolve_left hnn
  refine wpS_bind (wpS_lift (wpAny_rule ⟨rfl, ?_⟩))
  refine wpS_bind (wpS_descAt hD hn (by exact Nat.le_add_right 1 1) (by lia) hB (fun x n R n1 n2 r1 r2 => ?_) (fun i j hij hj => ?_) fun m hm1 hm2 hs => ?_)
  ·dsimp only
   refine wpS_bind (wpS_ltP hB h0 (by lia) (by omega) ?_)
   by_cases hlt : K (arrOf st) (lo + n) < K (arrOf st) (lo + n - 1)
   ·simp only [hlt, decide_true, if_true]
    exact wpS_pure (r1 hlt)
   ·simp only [hlt, decide_false, Bool.false_eq_true, if_false]
    have h3 := hB.ne hD (i := lo + n - 1) (j := lo + n) (by omega) (by omega)
    have hgt : K (arrOf st) (lo + n - 1) < K (arrOf st) (lo + n) := by lia
    refine wpS_bind (wpS_ltP hB h0 (by omega) (by omega) ?_)
    simp only [hgt, decide_true, if_true]
    exact wpS_pure (r2 hgt)
  ·have : (i = 0 ∨ i = 1) ∧ (j = 0 ∨ j = 1) := by lia
   obtain ⟨rfl | rfl, rfl | rfl⟩ := this
   ·exact Int.le_refl _
   ·exact Int.le_of_lt hlt
   ·lia
   ·exact Int.le_refl _
  ·dsimp only
   simp only [Nat.lt_irrefl, gt_iff_lt, if_false]
   refine wpS_bind (wpS_revAt (by refine rE hB.size ?_; lia) fun st2 F2 hK => ?_)
   have hB2 := hB.fr F2
   refine wpS_bind (wpS_ascAt (a₀ := a₀) h0 hn (by exact Nat.one_le_of_lt hm1) hm2 hB2 (fun x n R n1 n2 r1 r2 => asc hB2 n R n1 n2 r1 r2) (fun i j hij hj => ?_) fun n hn1 hn2 hsn hor => ?_)
   ·refine rE (hK _ (by exact Nat.le_add_right lo i) (by lia)) (rE (hK _ (by exact Nat.le_add_right lo j) (by exact Nat.add_lt_add_left hj lo)) ?_)
    have := hs (m - 1 - j) (m - 1 - i) (by exact Nat.sub_le_sub_left hij (m - 1)) (by omega)
    rwa [rev_ix hj, rev_ix (Nat.lt_of_le_of_lt hij hj)] at this
   ·exact wpS_pure (h n st2 (F2.mono (by exact Nat.add_le_add_iff_left.mpr hm2)) (by lia) hn2 hsn)
inductive LR (st : SortSt) (R : Nat → Nat → Prop) (c : Option Bool × Nat × Nat) (st' : SortSt) : Prop
 | mk (hs : st' = st) (l r : Nat) (hc : c = (none, l, r)) (h : R l r)
set_option maxHeartbeats 4000000 in
theorem wpS_binarySortAt {st : SortSt} {lo n ok : Nat} {Q : Bool → SortSt → Prop} (h0 : IntKeys a₀) (hn : lo + n ≤ a₀.size) (hok : ok ≤ n) (hB : SP a₀ st) (hs : qbk (arrOf st) lo ok)
  (h : ∀ st', FR st st' lo (lo + n) → qbk (arrOf st') lo n → Q true st') : wpS (model prog w) A E s (binarySort' lo n ok) Q st := by
 refine rE (binarySort'_eq ..) ?_
 refine wpS_bind (wpS_mono (wpS_forRange (I := fun k c st' => c = (none, ()) ∧ FR st st' lo (lo + n) ∧ qbk (arrOf st') lo (min k n))
  (Q := fun c st' => c = (none, ()) ∧ FR st st' lo (lo + n) ∧ qbk (arrOf st') lo n) ?step ?fin ?init) ?post)
 case post =>
  rintro c st' ⟨rfl, hB', hs'⟩
  exact wpS_pure (h st' hB' hs')
 case init =>
  refine ⟨rfl, .refl, fun i j hij hj => ?_⟩
  by_cases h1 : ok = 0
  ·have : i = j := by lia
   subst this; exact Int.le_refl _
  ·exact hs i j hij (by lia)
 case fin =>
  rintro c st' ⟨hc, hB', hs'⟩
  refine ⟨hc, hB', ?_⟩
  rwa [Nat.min_eq_right (Nat.le_max_right _ _)] at hs'
 case step =>
  rintro k c st' hak hkn ⟨rfl, hF, hs'⟩
  rw [Nat.min_eq_left (Nat.le_of_lt hkn)] at hs'
  have hB' := hB.fr hF
  have hk : lo + k < a₀.size := by lia
  refine wpS_bind (wpS_mono (wpS_forRange (I := fun x => LR st' fun l r => l ≤ r ∧ r ≤ k ∧ r + x ≤ k + l ∧
    (∀ i, i < l → K (arrOf st') (lo + i) ≤ K (arrOf st') (lo + k)) ∧ (∀ i, r ≤ i → i < k → K (arrOf st') (lo + k) < K (arrOf st') (lo + i)))
   (Q := LR st' fun l r => l ≤ k ∧
    (∀ i, i < l → K (arrOf st') (lo + i) ≤ K (arrOf st') (lo + k)) ∧ (∀ i, l ≤ i → i < k → K (arrOf st') (lo + k) < K (arrOf st') (lo + i))) ?istep ?ifin ?iinit) ?ipost)
  case iinit => exact ⟨rfl, 0, k, rfl, Nat.zero_le k, Nat.le_refl k, Nat.le_refl k, fun i hi => absurd hi (Nat.not_lt_zero i), fun i h1 h2 => absurd h2 (Nat.not_lt_of_le h1)⟩
  case ifin =>
   rintro c st'' ⟨rfl, l, r, rfl, hlr, hrk, hm, hlo, hhi⟩
   have : l = r := bin_end hlr (by rw [Nat.zero_max] at hm; exact hm)
   subst this
   exact ⟨rfl, l, l, rfl, hrk, hlo, hhi⟩
  case istep =>
   rintro x c st'' _ hxk ⟨rfl, l, r, rfl, hlr, hrk, hm, hlo, hhi⟩
   dsimp only
   by_cases hge : l ≥ r
   ·refine rE (if_pos hge) ?_
    have : l = r := by exact Nat.le_antisymm hlr hge
    subst this
    exact wpS_pure ⟨rfl, l, l, rfl, hrk, hlo, hhi⟩
   ·refine rE (if_neg hge) ?_
    have hge' : l < r := Nat.lt_of_not_le hge
    refine wpS_bind (wpS_ltP hB' h0 hk (Nat.lt_of_lt_of_le (Nat.add_lt_add_left (Nat.lt_of_lt_of_le (qay hge') hrk) lo) (Nat.le_of_lt hk)) ?_)
    by_cases hless : K (arrOf st'') (lo + k) < K (arrOf st'') (lo + (l + r) / 2)
    ·simp only [hless, decide_true, if_true]
     refine wpS_pure ⟨rfl, l, (l + r) / 2, rfl, qbj hlr, Nat.le_trans (Nat.le_of_lt (qay hge')) hrk, bin_dn (qay hge') hm, hlo, fun i h1 h2 => ?_⟩
     exact Int.lt_of_lt_of_le hless (hs' _ _ h1 h2)
    ·simp only [hless, decide_false, Bool.false_eq_true, if_false]
     refine wpS_pure ⟨rfl, (l + r) / 2 + 1, r, rfl, qay hge', hrk, bin_up (qbj hlr) hm, fun i h1 => ?_, hhi⟩
     exact Int.le_trans (hs' i ((l + r) / 2) (Nat.le_of_lt_succ h1) (Nat.lt_of_lt_of_le (qay hge') hrk)) (Int.not_lt.mp hless)
  case ipost =>
   rintro c st'' ⟨rfl, l, r, rfl, hlk, hlo, hhi⟩
   show wpS _ _ _ _ (do moveDown' (lo + k) (lo + l); pure (ForInStep.yield (none, ()))) _ _
   refine rE (moveDown'_eq ..) ?_
   have hks : lo + k < (arrOf st'').size := by refine rE hB'.size ?_; exact hk
   have ekl : lo + k - (lo + k - (lo + l)) = lo + l := Nat.sub_sub_self (Nat.add_le_add_left hlk lo)
   refine wpS_bind (wpS_modify (wpS_pure ⟨rfl, hF.trans ⟨rfl, rfl, rfl, bubble_perm _ _ _, fun i hi => ?_⟩, ?_⟩))
   ·show (bubble (arrOf st'') (lo + k) (lo + k - (lo + l)))[i]? = _
    rewrite [getElem?_bubble hks _ (Nat.sub_le (lo + k) (lo + l))]; refine rE ekl (rE (if_neg (by omega)) (rE (if_neg (by omega)) rfl))
   refine rE (show min (k + 1) n = k + 1 by exact Nat.min_eq_left hkn) ?_
   intro i j hij hj
   show K (bubble (arrOf st'') (lo + k) (lo + k - (lo + l))) (lo + i) ≤ K (bubble (arrOf st'') (lo + k) (lo + k - (lo + l))) (lo + j)
   rewrite [K_bubble hks (by exact Nat.sub_le (lo + k) (lo + l)), K_bubble hks (by exact Nat.sub_le (lo + k) (lo + l))]; refine rE ekl ?_
   have back : ∀ i, lo + l < lo + i → K (arrOf st'') (lo + i - 1) = K (arrOf st'') (lo + (i - 1)) := fun i hi => by refine rE (show lo + i - 1 = lo + (i - 1) by lia) rfl
   repeat' split
   all_goals first
    | (exfalso; lia)
    | exact Int.le_refl _
    | (refine rE (back _ (by omega)) ?_; exact Int.le_of_lt (hhi _ (by lia) (by lia)))
    | (rw [back _ (by omega), back _ (by lia)]; exact hs' _ _ (by exact Nat.sub_le_sub_right hij 1) (by lia))
    | (refine rE (back _ (by omega)) ?_; exact hs' _ _ (by grind) (by omega))
    | exact hlo _ (by lia)
    | exact Int.le_of_lt (hhi _ (by omega) (by omega))
    | exact hs' _ _ (by omega) (by lia)
end
end
end Mine
end
section
open PySem PyProof.Rows
namespace Mine
noncomputable section
variable {a₀ : Array Keyed}
theorem SI.sp {st : SortSt} {Rs : List (List Keyed)} {rest : List Keyed} (S : SI a₀ st Rs rest) : SP a₀ st := ⟨S.perm, S.kind⟩
theorem SI.len {st : SortSt} {Rs : List (List Keyed)} {rest : List Keyed} (S : SI a₀ st Rs rest) : Rs.flatten.length + rest.length = a₀.size := by
 have := congrArg List.length S.arr
 rw [Array.length_toList, S.sp.size, List.length_append] at this
 exact this.symm
theorem SI.fr {st st' : SortSt} {Rs : List (List Keyed)} {rest : List Keyed} {hi : Nat} (S : SI a₀ st Rs rest) (x : FR st st' Rs.flatten.length hi) : ∃ rest', rest'.length = rest.length ∧ SI a₀ st' Rs rest' := by
 have hz : (arrOf st').toList.length = (arrOf st).toList.length := by refine rE Array.length_toList (rE Array.length_toList (rE x.perm.size_eq rfl))
 refine ⟨(arrOf st').toList.drop Rs.flatten.length, ?_, ⟨?_, x.perm.trans S.perm, x.kind.trans S.kind, x.failed.trans S.failed, by refine rE x.pend ?_; exact S.pend, S.run⟩⟩
 ·refine rE List.length_drop (rE hz (rE S.arr (rE List.length_append ?_))); exact Nat.add_sub_self_left Rs.flatten.length rest.length
 ·conv => lhs; rw [← List.take_append_drop Rs.flatten.length (arrOf st').toList]
  congr 1
  refine List.ext_getElem? fun i => ?_
  by_cases hi : i < Rs.flatten.length
  ·refine rE (List.getElem?_take_of_lt hi) (rE Array.getElem?_toList (rE (x.out i (.inl hi)) (rF Array.getElem?_toList (rE S.arr (rE (List.getElem?_append_left hi) rfl)))))
  ·refine rE (List.getElem?_eq_none (by rw [List.length_take]; grind)) (rE (List.getElem?_eq_none (by exact Nat.le_of_not_lt hi)) rfl)
theorem SI.K {st : SortSt} {Rs : List (List Keyed)} {rest : List Keyed} (S : SI a₀ st Rs rest) {i : Nat} (hi : i < rest.length) : K (arrOf st) (Rs.flatten.length + i) = kf rest[i] := by
 unfold PyProof.Rows.K
 refine rF Array.getElem?_toList (rE S.arr (rE (List.getElem?_append_right (by exact Nat.le_add_right Rs.flatten.length i)) (rE (Nat.add_sub_cancel_left ..) (rE (List.getElem?_eq_getElem hi) rfl))))
theorem SI.srt {st : SortSt} {Rs : List (List Keyed)} {rest : List Keyed} {m : Nat} (S : SI a₀ st Rs rest) (hm : m ≤ rest.length) (h : qbk (arrOf st) Rs.flatten.length m) : SrtL (rest.take m) := by
 refine List.pairwise_iff_getElem.mpr fun i j hi hj hij => ?_
 rw [List.length_take] at hi hj
 refine rE List.getElem_take (rE List.getElem_take (rF (S.K (by lia)) (rF (S.K (by lia)) ?_)))
 exact h i j (by exact Nat.le_of_succ_le hij) (by lia)
theorem split_at {α : Type} {l : List α} {i : Nat} (h : i + 1 < l.length) : ∃ P x y T, l = P ++ x :: y :: T ∧ P.length = i := by
 refine ⟨l.take i, l[i], l[i + 1], l.drop (i + 2), ?_, by refine rE List.length_take ?_; lia⟩
 conv => lhs; rw [← List.take_append_drop i l, List.drop_eq_getElem_cons (by exact Nat.lt_of_succ_lt h : i < l.length), List.drop_eq_getElem_cons h]
theorem SI.psize {st : SortSt} {Rs : List (List Keyed)} {rest : List Keyed} (S : SI a₀ st Rs rest) : (pendingOf st).size = Rs.length := by
 have := congrArg List.length S.pend
 rwa [List.length_map, Array.length_toList, qcl] at this
theorem SI.pend_of {st : SortSt} {Rs : List (List Keyed)} {rest : List Keyed} {p : Array (Nat × Nat × Nat)} (S : SI a₀ st Rs rest) (h : p.toList.map (fun p => (p.1, p.2.1)) = (pendingOf st).toList.map (fun p => (p.1, p.2.1))) : SI a₀ (setPending st p) Rs rest :=
 ⟨S.arr, S.perm, S.kind, S.failed, h.trans S.pend, S.run⟩
theorem SI.push {st : SortSt} {Rs : List (List Keyed)} {rest : List Keyed} {n : Nat} (S : SI a₀ st Rs rest) (h1 : 1 ≤ n) (hn : n ≤ rest.length) (hs : SrtL (rest.take n)) : SI a₀ (setPending st ((pendingOf st).push (Rs.flatten.length, n, 0))) (Rs ++ [rest.take n]) (rest.drop n) := by
 have hl : (rest.take n).length = n := by refine rE List.length_take ?_; exact Nat.min_eq_left hn
 refine ⟨?_, S.perm, S.kind, S.failed, ?_, fun r hr => ?_⟩
 ·show (arrOf st).toList = _
  refine rE S.arr ?_; simp
 ·show ((pendingOf st).push _).toList.map _ = _
  refine rE Array.toList_push (rE List.map_append (rE S.pend (rE (qcm ..) ?_)))
  show _ ++ [(Rs.flatten.length, n)] = _ ++ [(0 + Rs.flatten.length, (rest.take n).length)]
  refine rE hl (rE (Nat.zero_add ..) rfl)
 ·rcases List.mem_append.mp hr with q | q
  ·exact S.run r q
  ·refine rE (List.mem_singleton.mp q) ?_
   exact ⟨fun e => by rw [e] at hl; simp at hl; lia, hs⟩
theorem flat_len_ge {Rs : List (List Keyed)} (h : ∀ r ∈ Rs, r ≠ [] ∧ SrtL r) : Rs.length ≤ Rs.flatten.length := by
 induction Rs with
 | nil => exact Nat.le_refl _
 | cons r R ih =>
  have := ih fun x hx => h x (List.mem_cons_of_mem _ hx)
  have h1 := (h r (List.mem_cons_self ..)).1
  have : 1 ≤ r.length := by cases r with | nil => exact absurd rfl h1 | cons _ _ => simp
  refine rE List.length_cons (rE List.flatten_cons (rE List.length_append ?_)); lia
theorem modify_same {p : Array (Nat × Nat × Nat)} {i : Nat} {f : Nat × Nat × Nat → Nat × Nat × Nat} (h : ∀ x, ((f x).1, (f x).2.1) = (x.1, x.2.1)) : (p.modify i f).toList.map (fun p => (p.1, p.2.1)) = p.toList.map (fun p => (p.1, p.2.1)) := by
 refine rE Array.toList_modify ?_
 refine List.ext_getElem? fun j => ?_
 refine rE List.getElem?_map (rE List.getElem?_map (rE (List.getElem?_modify ..) ?_))
 cases p.toList[j]? with
 | none => rfl
 | some x =>
  simp only [Option.map_some]
  split
  ·exact congrArg some (h x)
  ·rfl
inductive RnI (a₀ : Array Keyed) (x : Nat) (c : Option Unit × Nat) (st' : SortSt) : Prop
 | mk (Rs : List (List Keyed)) (rest : List Keyed) (hc : c = (none, Rs.flatten.length)) (S : SI a₀ st' Rs rest) (hx : rest = [] ∨ x ≤ Rs.flatten.length)
inductive RnQ (a₀ : Array Keyed) (c : Option Unit × Nat) (st' : SortSt) : Prop
 | mk (Rs : List (List Keyed)) (hc : c = (none, Rs.flatten.length)) (S : SI a₀ st' Rs [])
inductive RnP (a₀ : Array Keyed) (rest : List Keyed) (n : Nat) (c : Option Unit × Unit) (st' : SortSt) : Prop
 | mk (hc : c = (none, ())) (Rs' : List (List Keyed)) (S : SI a₀ st' Rs' rest) (hl : Rs'.flatten.length = n)
section
variable {prog : Program} {w : World} {A : Around} {E : Value → Shared → Prop} {s : Shared}
set_option maxHeartbeats 4000000 in
theorem wpS_sortRunsD {st : SortSt} {Q : Unit → SortSt → Prop} (h0 : IntKeys a₀) (hD : Dist a₀) (hB : SBase a₀ st)
  (h : ∀ st', (arrOf st').Perm a₀ → failedOf st' = none → SortedTo (arrOf st') a₀.size → Q () st') : wpS (model prog w) A E s sortRuns' Q st := by
 refine rE sortRuns'_eq (rE (show mergeAt' = mergeAtT from rfl) ?_)
 refine wpS_bind (wpS_get ?_)
 dsimp only
 refine rE hB.size ?_
 generalize minRun' a₀.size a₀.size 0 = mr
 refine wpS_bind (wpS_mono (wpS_forRange
  (I := RnI a₀) (Q := RnQ a₀) ?step ?fin ?init) ?post)
 case init => exact ⟨[], (arrOf st).toList, rfl, ⟨rfl, hB.perm, hB.kind, hB.failed, by refine rE hB.pend ?_; rfl, fun r hr => by cases hr⟩, .inr (Nat.zero_le _)⟩
 case fin =>
  rintro c st' ⟨Rs, rest, rfl, S, hx⟩
  have hl := S.len
  have : rest = [] := hx.elim id fun hx => List.length_eq_zero_iff.mp (by lia)
  subst this
  exact ⟨Rs, rfl, S⟩
 case step =>
  rintro x c st' _ hx ⟨Rs, rest, rfl, S, hxl⟩
  have hl := S.len
  dsimp only
  refine qaf (fun c => ?_) fun c => ?_
  ·have : rest = [] := List.length_eq_zero_iff.mp (by lia)
   subst this
   exact wpS_pure ⟨Rs, rfl, S⟩
  have hxl' : x ≤ Rs.flatten.length := hxl.elim (fun e => by rw [e, List.length_nil] at hl; lia) id
  refine wpS_bind (wpS_countRunAt h0 hD (by grind) (by grind) S.sp fun m st2 F2 hm1 hm2 hs2 => ?_)
  refine eEA (S.fr F2) fun rest2 hr2 S2 => ?_
  dsimp only
  refine qaf (fun c1 => ?_) fun c1 => ?_
  ·refine wpS_bind (wpS_lift (wpAny_rule ⟨rfl, ?_⟩))
   refine wpS_bind (wpS_binarySortAt h0 (by grind) (by grind) S2.sp hs2 fun st3 F3 hs3 => ?_)
   refine eEA (S2.fr F3) fun rest3 hr3 S3 => ?_
   simp only [Bool.not_true, Bool.false_eq_true, if_false]
   have hn1 : 1 ≤ min (a₀.size - Rs.flatten.length) mr := by grind
   have hn2 : min (a₀.size - Rs.flatten.length) mr ≤ rest3.length := by omega
   generalize min (a₀.size - Rs.flatten.length) mr = n at *
   refine wpS_bind (wpS_get ?_)
   have hs4 := S3.srt hn2 hs3
   have hR : ∀ st5 Rs', SI a₀ st5 Rs' (rest3.drop n) → Rs'.flatten.length = Rs.flatten.length + n → RnI a₀ (x + 1) (none, Rs.flatten.length + n) st5 :=
    fun st5 Rs' S5 e => ⟨Rs', _, by refine rE e rfl, S5, .inr (by grind)⟩
   have hl3 : (rest3.take n).length = n := by refine rE List.length_take ?_; exact Nat.min_eq_left hn2
   cases hb : (pendingOf st3).back? with
   | none =>
    dsimp only
    refine wpS_bind (wpS_modify (wpS_pure (hR _ _ (S3.push hn1 hn2 hs4) ?_)))
    refine rE List.flatten_append (rE List.length_append (rE List.flatten_singleton (rE hl3 rfl)))
   | some q =>
    obtain ⟨s1, n1, o1⟩ := q
    dsimp only
    refine wpS_bind (wpS_mono (wpS_forRange (I := fun _ => RnP a₀ rest3 Rs.flatten.length) (Q := RnP a₀ rest3 Rs.flatten.length) ?_ (fun _ _ hh => hh) ⟨rfl, Rs, S3, rfl⟩) ?_)
    ·rintro y c st4 _ _ ⟨rfl, Rs', S4, hl4⟩
     refine wpS_bind (wpS_get ?_)
     by_cases hp : (pendingOf st4).size > 1
     ·refine rE (if_pos hp) (rE (getElem?_pos (pendingOf st4) _ (by lia)) ?_)
      dsimp only
      refine qaf (fun _ => wpS_pure ⟨rfl, Rs', S4, hl4⟩) fun _ => ?_
      have hz := S4.psize
      obtain ⟨P, u, v, T, e, hP⟩ := split_at (l := Rs') (i := (pendingOf st4).size - 2) (by lia)
      refine rF hP ?_
      subst e
      refine wpS_bind (qcs h0 S4 fun st5 m hm S5 => ?_)
      simp only [Bool.not_true, Bool.false_eq_true, if_false]
      refine wpS_pure ⟨rfl, _, S5, ?_⟩
      refine rF hl4 ?_
      simp only [List.flatten_append, List.flatten_cons, List.length_append]
      lia
     ·refine rE (if_neg hp) ?_
      exact wpS_pure ⟨rfl, Rs', S4, hl4⟩
    ·rintro c st4 ⟨rfl, Rs', S4, hl4⟩
     dsimp only
     have S5 := S4.pend_of (modify_same (i := (pendingOf st4).size - 1) (f := fun x => (x.fst, x.2.fst, power' a₀.size (2 * s1 + n1) (2 * s1 + n1 + n1 + n) a₀.size)) (fun _ => rfl))
     refine wpS_bind (wpS_modify (wpS_bind (wpS_modify (wpS_pure (hR _ (Rs' ++ [rest3.take n]) ?_ ?_)))))
     ·refine rF hl4 ?_; exact S5.push hn1 hn2 hs4
     ·refine rE List.flatten_append (rE List.length_append (rE List.flatten_singleton (rE hl3 (rE hl4 rfl))))
  ·have hn2 : m ≤ rest2.length := by grind
   have S3 := S2
   have hs3 := hs2
   have hn1 := hm1
   generalize m = n at *
   generalize st2 = st3 at *
   generalize rest2 = rest3 at *
   refine wpS_bind (wpS_get ?_)
   have hs4 := S3.srt hn2 hs3
   have hR : ∀ st5 Rs', SI a₀ st5 Rs' (rest3.drop n) → Rs'.flatten.length = Rs.flatten.length + n → RnI a₀ (x + 1) (none, Rs.flatten.length + n) st5 :=
    fun st5 Rs' S5 e => ⟨Rs', _, by refine rE e rfl, S5, .inr (by grind)⟩
   have hl3 : (rest3.take n).length = n := by refine rE List.length_take ?_; exact Nat.min_eq_left hn2
   cases hb : (pendingOf st3).back? with
   | none =>
    dsimp only
    refine wpS_bind (wpS_modify (wpS_pure (hR _ _ (S3.push hn1 hn2 hs4) ?_)))
    refine rE List.flatten_append (rE List.length_append (rE List.flatten_singleton (rE hl3 rfl)))
   | some q =>
    obtain ⟨s1, n1, o1⟩ := q
    dsimp only
    refine wpS_bind (wpS_mono (wpS_forRange (I := fun _ => RnP a₀ rest3 Rs.flatten.length) (Q := RnP a₀ rest3 Rs.flatten.length) ?_ (fun _ _ hh => hh) ⟨rfl, Rs, S3, rfl⟩) ?_)
    ·rintro y c st4 _ _ ⟨rfl, Rs', S4, hl4⟩
     refine wpS_bind (wpS_get ?_)
     by_cases hp : (pendingOf st4).size > 1
     ·refine rE (if_pos hp) (rE (getElem?_pos (pendingOf st4) _ (by lia)) ?_)
      dsimp only
      refine qaf (fun _ => wpS_pure ⟨rfl, Rs', S4, hl4⟩) fun _ => ?_
      have hz := S4.psize
      obtain ⟨P, u, v, T, e, hP⟩ := split_at (l := Rs') (i := (pendingOf st4).size - 2) (by lia)
      refine rF hP ?_
      subst e
      refine wpS_bind (qcs h0 S4 fun st5 m hm S5 => ?_)
      simp only [Bool.not_true, Bool.false_eq_true, if_false]
      refine wpS_pure ⟨rfl, _, S5, ?_⟩
      refine rF hl4 ?_
      simp only [List.flatten_append, List.flatten_cons, List.length_append]
      lia
     ·refine rE (if_neg hp) ?_
      exact wpS_pure ⟨rfl, Rs', S4, hl4⟩
    ·rintro c st4 ⟨rfl, Rs', S4, hl4⟩
     dsimp only
     have S5 := S4.pend_of (modify_same (i := (pendingOf st4).size - 1) (f := fun x => (x.fst, x.2.fst, power' a₀.size (2 * s1 + n1) (2 * s1 + n1 + n1 + n) a₀.size)) (fun _ => rfl))
     refine wpS_bind (wpS_modify (wpS_bind (wpS_modify (wpS_pure (hR _ (Rs' ++ [rest3.take n]) ?_ ?_)))))
     ·refine rF hl4 ?_; exact S5.push hn1 hn2 hs4
     ·refine rE List.flatten_append (rE List.length_append (rE List.flatten_singleton (rE hl3 (rE hl4 rfl))))
 case post =>
  rintro c st' ⟨Rs, rfl, S⟩
  dsimp only
  have hl := S.len
  have hg := flat_len_ge S.run
  refine wpS_bind (wpS_mono (wpS_forRange (I := fun x c st' => c = (none, ()) ∧ ∃ Rs', SI a₀ st' Rs' [] ∧ (Rs'.length ≤ 1 ∨ Rs'.length + x ≤ a₀.size)) (Q := fun c st' => c = (none, ()) ∧ ∃ Rs', SI a₀ st' Rs' [] ∧ Rs'.length ≤ 1) ?_ ?_ ⟨rfl, Rs, S, .inr (by rw [List.length_nil] at hl; exact le_of_le_of_eq hg hl)⟩) ?_)
  ·rintro y c st4 _ hy ⟨rfl, Rs', S4, hl4⟩
   refine wpS_bind (wpS_get ?_)
   have hz := S4.psize
   refine qaf (fun c => wpS_pure ⟨rfl, Rs', S4, by exact le_of_eq_of_le (id (Eq.symm hz)) c⟩) fun c => ?_
   have key : ∀ (i : Nat) (Q' : Bool → SortSt → Prop), i + 1 < Rs'.length → (∀ st5 Rs5, SI a₀ st5 Rs5 [] → Rs5.length + 1 = Rs'.length → Q' true st5) → wpS (model prog w) A E s (mergeAtT i) Q' st4 := by
    intro i Q' hi hQ
    obtain ⟨P, u, v, T, e, hP⟩ := split_at hi
    refine rF hP ?_
    subst e
    refine qcs h0 S4 fun st5 m hm S5 => hQ _ _ S5 ?_
    simp only [List.length_append, List.length_cons]
    rfl
   refine wpS_bind (key _ _ ?_ fun st5 Rs5 S5 h5 => ?_)
   ·refine (?_ : ∀ b : Bool, (if b = true then (pendingOf st4).size - 2 - 1 else (pendingOf st4).size - 2) + 1 < Rs'.length) _
    intro b
    cases b
    ·refine rE (if_neg (by decide)) ?_; lia
    ·refine rE (if_pos rfl) ?_; omega
   ·simp only [Bool.not_true, Bool.false_eq_true, if_false]
    exact wpS_pure ⟨rfl, _, S5, .inr (by grind)⟩
  ·rintro c st4 ⟨rfl, Rs', S4, h4⟩
   refine ⟨rfl, Rs', S4, ?_⟩
   lia
  ·rintro c st4 ⟨rfl, Rs', S4, h4⟩
   dsimp only
   refine wpS_pure (h _ S4.perm S4.failed ?_)
   have hsrt : SrtL (arrOf st4).toList := by
    refine rE S4.arr (rE (List.append_nil ..) ?_)
    match Rs', h4, S4.run with
    | [], _, _ => exact .nil
    | [r], _, hr => simpa using (hr r (List.mem_singleton.mpr rfl)).2
   intro i j hij hj
   have hz := S4.sp.size
   unfold K
   refine rE (getElem?_pos (arrOf st4) i (by grind)) (rE (getElem?_pos (arrOf st4) j (by exact Nat.lt_of_lt_of_eq hj (id (Eq.symm hz)))) ?_)
   have := qbs hsrt hij (by refine rE Array.getElem?_toList (rE (getElem?_pos (arrOf st4) i (by omega)) rfl)) (by refine rE Array.getElem?_toList (rE (getElem?_pos (arrOf st4) j (by exact Nat.lt_of_lt_of_eq hj (id (Eq.symm hz)))) rfl))
   exact this
end
end
end Mine
end
section
open PySem PySem.Calls PySem.W PyProof.Rows
set_option maxRecDepth 100000
namespace Mine
noncomputable section
section
variable {prog : Program} {w : World} {A : Around} {E : Value → Shared → Prop} {s : Shared}
theorem pairs_keys {vs : List Value} {ns : List Int} (hI : IntsAre vs ns) : (pairsOf vs).toList.map kf = ns := by
 refine rE (pairsOf_toList ..) ?_
 have : (vs.zip vs).map kf = ((vs.zip vs).map Prod.fst).map numOf := by refine rE List.map_map ?_; rfl
 refine rE this (rE (List.map_fst_zip (Nat.le_refl _)) (rE hI.nums rfl))
theorem sort_big {a : Addr} {vs : List Value} {ns : List Int} {n : Nat} {P : Fin → Shared → Prop} (ho : s.heap.get? a = some (seqObj "list" vs.toArray n)) (hI : IntsAre vs ns) (hnd : ns.Nodup) (hz : vs.length ≤ sizeLine)
  (h : ∀ (out : Array Value) (ns' : List Int), IntsAre out.toList ns' → ns'.Perm ns → ns'.Pairwise (· ≤ ·) → P (.done (.ret .none)) { s with heap := sortedHeap s.heap a vs out }) :
  wpAny (model prog w) A (Builtin.«list.sort» ⟨[.ref a], []⟩) P E s := by
 refine rE (list_sort_plain ..) ?_
 have ha : a < s.heap.objs.size := Heap.lt_size ho
 have hsz : vs.toArray.size = vs.length := by exact List.size_toArray
 refine wpAny_bind (listItems_at ho rfl ?_)
 refine wpAny_bind (listUpdate_at ho rfl ?_ (by refine rE hsz ?_; exact hz))
 obtain ⟨e1, ho1⟩ : ∃ e1, (s.heap.update a (Obj.mapSeq fun _ => #[])).get? a = some (seqObj "list" #[] e1) := ⟨_, get?_update_seq ho (fun _ => #[])⟩
 refine wpAny_bind (seqEpoch_at ho1 rfl ?_)
 refine wpAny_bind (wpAny_newTuple ?_ (by assumption))
 refine wpAny_bind (wpAny_newList ?_)
 refine wpAny_holding ?_
 have ho6 : (((s.heap.update a (Obj.mapSeq fun _ => #[])).push (seqObj "tuple" vs.toArray 0)).push (seqObj "list" #[] 0)).get? a = some (seqObj "list" #[] e1) := by
  refine rE (Heap.get?_push_ne _ _ _ (by rw [size_push', Heap.size_update]; exact Nat.ne_of_lt (Nat.lt_succ_of_lt ha))) (rE (Heap.get?_push_ne _ _ _ (by rw [Heap.size_update]; exact Nat.ne_of_lt ha)) ?_)
  exact ho1
 show wpAny (model prog w) A _ P E { s with heap := ((s.heap.update a (Obj.mapSeq fun _ => #[])).push (seqObj "tuple" vs.toArray 0)).push (seqObj "list" #[] 0) }
 dsimp only
 have fin : ∀ st' : SortSt, (arrOf st').Perm (pairsOf vs) → SortedTo (arrOf st') (pairsOf vs).size →
   P (.done (.ret .none)) { s with heap := sortedHeap s.heap a vs ((arrOf st').map (·.2)) } := by
  intro st' hp hs
  refine eEAA (sorted_out hI hp hs) fun ns' h1 h2 h3 => ?_
  exact h _ ns' h1 h2 h3
 by_cases h2 : vs.toArray.size < 2
 ·refine rE (if_pos h2) (rE (if_pos h2) ?_)
  refine wpAny_bind (wpAny_pure ?_)
  refine rE (StateT.run_pure ..) ?_
  refine wpAny_bind (wpAny_pure ?_)
  dsimp only
  refine wpAny_bind (seqEpoch_at ho6 rfl ?_)
  refine wpAny_bind (listUpdate_at ho6 rfl ?_ (hsz2 := by refine rE Array.size_map ?_; show (pairsOf vs).size ≤ _; refine rE (pairsOf_size ..) ?_; exact Nat.le_add_right_of_le hz))
  simp only [bne_self_eq_false, Bool.false_eq_true, if_false]
  refine wpAny_pure (fin (SortSt.mk' general' (vs.toArray.zip vs.toArray) #[] 7 none) (Array.Perm.refl _) ?_)
  intro i j hij hj
  have : i = j := by rw [pairsOf_size] at hj; lia
  subst this; exact Int.le_refl _
 ·refine rE (if_neg h2) (rE (if_neg h2) ?_)
  obtain ⟨v₁, v₂, rest, rfl⟩ : ∃ v₁ v₂ rest, vs = v₁ :: v₂ :: rest := by
   match vs, hsz, h2 with
   | [], _, h2 => simp at h2
   | [_], _, h2 => simp at h2
   | v₁ :: v₂ :: rest, _, _ => exact ⟨v₁, v₂, rest, rfl⟩
  refine rE (keyKind_ints hI) ?_
  refine wpAny_bind (wpAny_pure ?_)
  refine wpAny_bind (wpAny_mono (wpS_sortRunsD (a₀ := pairsOf (v₁ :: v₂ :: rest)) (st := SortSt.mk' oneType' ((v₁ :: v₂ :: rest).toArray.zip (v₁ :: v₂ :: rest).toArray) #[] 7 none)
   (Q := fun _ st' => (arrOf st').Perm (pairsOf (v₁ :: v₂ :: rest)) ∧ failedOf st' = none ∧ SortedTo (arrOf st') (pairsOf (v₁ :: v₂ :: rest)).size)
   hI.intKeys (by unfold Dist; refine rE (pairs_keys hI) ?_; exact hnd) ⟨Array.Perm.refl _, rfl, rfl, rfl⟩ fun st' a1 a2 a3 => ⟨a1, a2, a3⟩) ?_ fun _ _ e => e)
  rintro ⟨⟨⟩, st'⟩ s' ⟨rfl, hp, hf, hs⟩
  dsimp only
  refine wpAny_bind (seqEpoch_at ho6 rfl ?_)
  refine wpAny_bind (listUpdate_at ho6 rfl ?_ (hsz2 := by refine Nat.le_trans (Nat.le_of_eq ((Array.size_map ..).trans (hp.size_eq.trans (pairsOf_size _)))) (Nat.le_succ_of_le hz)))
  refine rE hf ?_
  simp only [bne_self_eq_false, Bool.false_eq_true, if_false]
  exact wpAny_pure (fin st' hp hs)
theorem sorted_set {a : Addr} {o : Obj} {ns : List Int} {Q : Value → Shared → Prop} (hA : A.handled = none) (ho : s.heap.get? a = some o) (hS : ISet prog w o ns) (hnd : ns.Nodup) (hz : ns.length < scanBound)
  (h : ∀ h' d D out ns' e, (∀ b o, s.heap.get? b = some o → h'.get? b = some o) → s.heap.get? D = none → h'.get? D = some (seqObj "list" out e) → IntsAre out.toList ns' → ns'.Perm ns → ns'.Pairwise (· < ·) → Q (.ref D) { s with heap := h', drawn := d }) :
  wpAny (model prog w) A (call (.builtin "sorted") [.ref a]) Q E s := by
 refine Calls.call_function_entry kind_sorted plain_sorted entry_sorted (args_sorted1 _) ?_
 unfold Builtin.«sorted»
 refine wpAny_bind (m := checkCount "sorted" 1 1 _) (wpAny_pure ?_)
 refine wpAny_bind (collect_set (A := A.in1) hA ho hS hz fun h₁ d vs keep vi vp => ?_)
 have hvl : vs.length = ns.length := by have := vp.length_eq; simpa using this
 have hvz : vs.length ≤ sizeLine := by refine rE hvl ?_; exact fits_of_scanBound hz
 refine wpAny_bind (wpAny_newList ?_ hvz)
 have hoL : (h₁.push (seqObj "list" vs.toArray 0)).get? h₁.objs.size = some (seqObj "list" vs.toArray 0) := Heap.get?_push_size _ rfl
 show wpAny _ _ _ _ _ { s with heap := h₁.push (seqObj "list" vs.toArray 0), drawn := d }
 have hI := intsAre_map vs vi
 have hnd' : (vs.map numOf).Nodup := vp.nodup_iff.mpr hnd
 have hDn : s.heap.get? h₁.objs.size = none := by
  cases q : s.heap.get? h₁.objs.size with
  | none => rfl
  | some o => exact absurd (Heap.lt_size (keep _ _ q)) (Nat.lt_irrefl _)
 refine wpAny_bind (wpAny_holding (wpAny_call_entry (s := { s with heap := h₁.push (seqObj "list" vs.toArray 0), drawn := d }) slot_list_sort ⟨_, hoL, rfl⟩ entry_list_sort (sort_big (s := { s with heap := h₁.push (seqObj "list" vs.toArray 0), drawn := d }) hoL hI hnd' hvz fun out ns' a1 a2 a3 => ⟨_, rfl, ?_⟩) (args_list_sort _)))
 refine eE (sortedHeap_at (vs := vs) (out := out) hoL) fun e hD => ?_
 refine wpAny_pure ⟨_, rfl, h _ d h₁.objs.size out ns' e (fun b o hb => ?_) hDn hD a1 (a2.trans vp) ?_⟩
 ·have hb' := keep b o hb
  have hlt := Heap.lt_size hb'
  refine rE (sortedHeap_old (Nat.ne_of_lt hlt) (by rw [size_push']; exact Nat.lt_succ_of_lt hlt)) ?_
  exact Heap.get?_push_of_some _ hb'
 ·have hn2 : ns'.Nodup := a2.nodup_iff.mpr hnd'
  exact List.Pairwise.imp₂ (fun a b (x : a ≤ b) (y : a ≠ b) => by lia) a3 hn2
end
section
variable {C : Cx} {A : Around} {m : Loc} {H : CH} {s : Shared} {Q : V → Loc → CH → Prop}
theorem St.draw (S : St C m H s) (d : Drawn) : St C m H { s with drawn := d } := ⟨⟨S.base, S.own, S.gens⟩, S.ns, S.loc, S.locb, S.frs⟩
theorem AfterC.draw {H' : CH} {s' : Shared} (a : AfterC H s H' s') (d : Drawn) : AfterC H s H' { s' with drawn := d } := ⟨a.stay, a.grow, a.there, rfl, a.os⟩
theorem CV_sorted_set {a : Addr} {o : Obj} {ns : List Int} (hA : A.handled = none) (ha : H a = some (.raw o)) (hS : ISet C.prog C.w o ns) (hnd : ns.Nodup) (hz : ns.length < scanBound)
  (h : ∀ (D : Addr) (ms : List Int), H D = none → C.h₀.get? D = none → ms.Perm ns → ms.Pairwise (· < ·) → Q (.ref D) m (H.set D (.list (ms.map .int)))) : CV C A (.con (.builtin "sorted")) [.ref a] [] m H Q := fun s rf rs rkw S hf hva hk => by
 have := hk.nil_inv; subst this
 refine rE hf.con_inv ?_
 refine eEA (qax hva) fun x zz1 hx => ?_; subst zz1
 refine rE hx.ref_inv ?_
 obtain ⟨hab, o', ho, rfl, _⟩ := S.own a _ ha
 refine sorted_set hA ho hS hnd hz fun h' d D out ns' e keep hn hD a1 a2 a3 => ?_
 have S2 : St C m H { s with heap := h', drawn := d } := (S.more (tk := s.toks) keep).draw d
 have hDb := S.freshb' hn
 have S3 := S2.toHS.adopt (c := .list (ns'.map .int)) hDb hD ⟨out, e, rfl, ints_vrs a1⟩
 have a4 : AfterC H s (H.set D (.list (ns'.map .int))) { s with heap := h', drawn := d } := ((AfterC.more (tk := s.toks) keep).draw d).adopt hn
 have hDH : H D = none := by
  exact S.own_none hn
 exact ⟨_, m, _, .ref, S.called S3 a4, a4.after, h _ ns' hDH hDb a2 a3⟩
end
end
end Mine
end
section
open PySem PySem.Calls PySem.W PyProof.Rows
set_option maxRecDepth 100000
namespace Mine
noncomputable section
section
variable {C : Cx} {A : Around} {m : Loc} {H : CH} {s : Shared}
end
end
end Mine
end
section
open PySem PySem.Calls PySem.W PyProof.Rows
set_option maxRecDepth 100000
namespace Mine
noncomputable section
noncomputable def iadd (k : Int) (acc : List Int) : List Int := if k ∈ acc then acc else k :: acc
noncomputable abbrev iadds (acc : List Int) (l : List Int) : List Int := l.foldl (fun a k => iadd k a) acc
theorem iadd_len {k : Int} {acc : List Int} : (iadd k acc).length ≤ acc.length + 1 := by unfold iadd; split <;> simp
theorem qc4 : ∀ {l acc : List Int}, (iadds acc l).length ≤ acc.length + l.length
 | [], acc => Nat.le_refl _
 | k :: l, acc => by
  have := @qc4 l (iadd k acc)
  have h := @iadd_len k acc
  refine rE List.length_cons ?_
  show (iadds (iadd k acc) l).length ≤ _
  lia
theorem iadds_mem : ∀ {l acc : List Int} {x : Int}, x ∈ iadds acc l ↔ x ∈ acc ∨ x ∈ l
 | [], acc, x => by simp
 | k :: l, acc, x => by
  show x ∈ iadds (iadd k acc) l ↔ _
  rw [iadds_mem, List.mem_cons]
  unfold iadd
  split
  ·rename_i h
   constructor
   ·rintro (q | q)
    ·exact .inl q
    ·exact .inr (.inr q)
   ·rintro (q | rfl | q)
    ·exact .inl q
    ·exact .inl h
    ·exact .inr q
  ·rw [List.mem_cons]
   constructor
   ·rintro ((rfl | q) | q)
    ·exact .inr (.inl rfl)
    ·exact .inl q
    ·exact .inr (.inr q)
   ·rintro (q | rfl | q)
    ·exact .inl (.inr q)
    ·exact .inl (.inl rfl)
    ·exact .inr q
theorem iadds_nodup : ∀ {l acc : List Int}, acc.Nodup → (iadds acc l).Nodup
 | [], acc, h => h
 | k :: l, acc, h => by
  refine iadds_nodup (l := l) ?_
  show (iadd k acc).Nodup
  unfold iadd
  split
  ·exact h
  ·rename_i q; exact List.nodup_cons.mpr ⟨q, h⟩
section
variable {C : Cx} {A : Around} {m : Loc} {H : CH} {s : Shared}
theorem turn_set1 (elt t0 i0 t1 i1 : PySem.Expr) (scope : Scope) (pos : Pos) (it acc : Value) (env : Env) :
  compTurn (.SetComp elt [⟨t0, i0, [], 0⟩, ⟨t1, i1, [], 0⟩] scope pos) 1 it acc env = (do
   standAt i1.pos
   match ← pyNext it with
   | none => pure (.done .next)
   | some v =>
    letOwnedTupleGo t1 it v
    assign t1 env v
    (do let v ← eval elt env; standAt elt.pos; let _ ← call (.builtin "set.add") [acc, v])
    again (.compLoop (.SetComp elt [⟨t0, i0, [], 0⟩, ⟨t1, i1, [], 0⟩] scope pos) 1 it acc env)) := by rfl
theorem turn_set0 (elt t0 i0 t1 i1 : PySem.Expr) (scope : Scope) (pos : Pos) (it acc : Value) (env : Env) :
  compTurn (.SetComp elt [⟨t0, i0, [], 0⟩, ⟨t1, i1, [], 0⟩] scope pos) 0 it acc env = (do
   standAt i0.pos
   match ← pyNext it with
   | none => pure (.done .next)
   | some v =>
    letOwnedTupleGo t0 it v
    assign t0 env v
    let x ← eval i1 env
    standAt i1.pos
    let x ← foldedSetIterable i1 env x
    let _ ← runOwn (.compStart (.SetComp elt [⟨t0, i0, [], 0⟩, ⟨t1, i1, [], 0⟩] scope pos) 1 (← holding [x] (pyIter x)) acc env) env
    again (.compLoop (.SetComp elt [⟨t0, i0, [], 0⟩, ⟨t1, i1, [], 0⟩] scope pos) 0 it acc env)) := by rfl
theorem qbh {elt : PySem.Expr} {g0 g1 : Comprehension} {scope : Scope} {pos : Pos} {it acc : Value} {env : Env} {depth : Nat} {R : Result → Shared → Prop} (hd : ∃ g, [g0, g1][depth]? = some g ∧ g.is_async = 0)
  (h0 : codeAny (model C.prog C.w) A (.compLoop (.SetComp elt [g0, g1] scope pos) depth it acc env) R s)
  (h : wpAny (model C.prog C.w) A (pyIter it) (fun it' s' => codeAny (model C.prog C.w) A (.compLoop (.SetComp elt [g0, g1] scope pos) depth it' acc env) R s')
   (notedBy (model C.prog C.w) A env fun x s' => R (.error x) s') s) :
  codeAny (model C.prog C.w) A (.compStart (.SetComp elt [g0, g1] scope pos) depth it acc env) R s := by
 refine eEA hd fun g hg ha => ?_
 refine codeAny_of_tree ?_
 show wpAny _ _ ((compStart (.SetComp elt [g0, g1] scope pos) depth it acc env).onRaise (fun x => do noteFrame x env; standAt theWindowsPlace)) _ _ s
 refine wpAny_notedAt ?_
 unfold compStart
 refine rE (show clausesOf (.SetComp elt [g0, g1] scope pos) = [g0, g1] from rfl) (rE hg ?_)
 refine rE (if_neg (by simp [ha])) ?_
 refine wpAny_bind (wpAny_askSetting (wpAny_ite ?_))
 split
 ·first
   | exact wpAny_bind (wpAny_pure (wpAny_pure (And.intro rfl h0)))
   | exact wpAny_pure (And.intro rfl h0)
 ·refine wpAny_bind (wpAny_rule ?_)
  refine wpAny_bind (wpAny_standAt (wpAny_bind (wpAny_mono h (fun it' s' h' => wpAny_pure (And.intro rfl h')) fun _ _ x => x)))
inductive ScI (C : Cx) (ob : Nat → Heap → Obj → Prop) (I D L : Addr) (H : CH) (s : Shared) (i : Nat) (acc : List Int) (s' : Shared) : Prop
 | mk (mr : Str → Option Value) (o oD : Obj) (S : HS C H s') (a : AfterC H s H s') (hn : s'.heap.Ns L mr) (ho : s'.heap.get? I = some o) (hob : ob i s'.heap o) (hD : s'.heap.get? D = some oD) (hS : ISet C.prog C.w oD acc) : ScI C ob I D L H s i acc s'
theorem qbg {o : Obj} {ns : List Int} (h : ISet C.prog C.w o ns) : ¬ Imm o := by
 obtain ⟨es, ep, t, rfl, _⟩ := h
 exact fun i => i.2.2.2.2 _ _ _ rfl
theorem iset_nodict {o : Obj} {ns : List Int} (h : ISet C.prog C.w o ns) : ∀ es ep, o.data ≠ .dict es ep := by
 obtain ⟨es, ep, t, rfl, _⟩ := h
 intro _ _ e; cases e
theorem ScI.go {ob : Nat → Heap → Obj → Prop} {nx : CH → Nat → Option (Option V)} {I D L : Addr} {i : Nat} {acc : List Int} {s' : Shared} {scope : Scope} {cl : List (Str × Addr)} (F₁ : Frs C H s) (hnb : ∀ a, s.heap.get? a = none → C.h₀.get? a = none) (hL0 : s.heap.get? L = none) (hLH : H L = none)
  (Z : ScI C ob I D L H s i acc s') : St (C.comp scope cl L) [] H s' := by
 obtain ⟨mr, o, oD, S, a, hn, ho, hob, hD, hS⟩ := Z
 exact ⟨⟨S.base, S.own, S.gens⟩, ⟨mr, hn, fun _ _ e => by simp at e⟩, hLH, hnb L hL0, fun e he => F₁.after a e he⟩
theorem ScI.back {ob : Nat → Heap → Obj → Prop} {I D L : Addr} {i : Nat} {acc : List Int} {s' s'' : Shared} {m : Loc} {scope : Scope} {cl : List (Str × Addr)} (plain : ∀ i h o es ep, ob i h o → o.data ≠ .dict es ep) (kept : ∀ i h h' o, TupKeep h h' → ob i h o → ob i h' o)
  (hL0 : s.heap.get? L = none) (hIH : H I = none) (hDH : H D = none) (hIL : I ≠ L) (hDL : D ≠ L) {m₀ : Loc} (Z : ScI C ob I D L H s i acc s') (T₀ : St (C.comp scope cl L) m₀ H s') (T : St (C.comp scope cl L) m H s'') (a : After (C.comp scope cl L) H s' H s'') : ScI C ob I D L H s i acc s'' := by
 obtain ⟨mr, o, oD, S, af, hn, ho, hob, hD, hS⟩ := Z
 obtain ⟨o1, e1, k1⟩ := a.stay I o hIL hIH ho
 rw [k1.exact (fun es ep => plain _ _ _ es ep hob)] at e1
 obtain ⟨o2, e2, k2⟩ := a.stay D _ hDL hDH hD
 rw [k2.exact (iset_nodict hS)] at e2
 refine eEA T.ns fun mr9 hn9 _ => ?_
 exact ⟨mr9, o, oD, ⟨T.base, T.own, T.gens⟩, af.thenAt (C := C.comp scope cl L) a hL0, hn9, e1, kept _ _ _ _ (a.tup T₀) hob, e2, hS⟩
theorem ScI.add {ob : Nat → Heap → Obj → Prop} {I D L : Addr} {i : Nat} {acc : List Int} {s' : Shared} {k : Int} {u : Tok} {Q : Value → Shared → Prop} (kept : ∀ i h h' o, TupKeep h h' → ob i h o → ob i h' o) (hnb : C.h₀.get? D = none) (hD0 : s.heap.get? D = none)
  (hDH : H D = none) (hID : I ≠ D) (hDL : D ≠ L) (hroom : acc.length + 1 < scanBound) (Z : ScI C ob I D L H s i acc s') (hQ : ∀ h', Heap.ExtBut D s'.heap h' → ScI C ob I D L H s i (iadd k acc) { s' with heap := h', toks := s'.toks + 1 } → Q .none { s' with heap := h', toks := s'.toks + 1 }) :
  wpAny (model C.prog C.w) A (call (.builtin "set.add") [.ref D, .int k u]) Q NoE s' := by
 obtain ⟨mr, o, oD, S, af, hn, ho, hob, hD, hS⟩ := Z
 refine add_int hD hS hroom fun h' o' hs ho' hS' => ?_
 have tk : TupKeep s'.heap h' := qat hD (qbg hS) hs.extBut
 exact hQ h' hs.extBut ⟨mr, o, o', S.hid (tk := s'.toks + 1) hD hDH hnb (qbg hS) hs.extBut, af.hid (tk := s'.toks + 1) hD0 hs.extBut, hn.sameBut hs (Ne.symm hDL), hs.extBut I _ hID ho, kept _ _ _ _ tk hob, ho', hS'⟩
theorem ScI.step {ob : Nat → Heap → Obj → Prop} {I D L : Addr} {i j : Nat} {acc : List Int} {s' : Shared} {h₅ : Heap} {tk₅ : Tok} {o₅ : Obj} (plain : ∀ i h o, ob i h o → ¬ Imm o) (hnb : C.h₀.get? I = none) (hI0 : s.heap.get? I = none) (hIH : H I = none) (hID : I ≠ D) (hIL : I ≠ L)
  (Z : ScI C ob I D L H s i acc s') (hx : Heap.ExtBut I s'.heap h₅) (ho : h₅.get? I = some o₅) (hob : ob j h₅ o₅) : ScI C ob I D L H s j acc { s' with heap := h₅, toks := tk₅ } := by
 obtain ⟨mr, o, oD, S, af, hn, ho', hob', hD, hS⟩ := Z
 exact ⟨mr, o₅, oD, S.hid ho' hIH hnb (plain _ _ _ hob') hx, af.hid hI0 hx, hn.extBut hx (Ne.symm hIL), ho, hob, hx D _ (Ne.symm hID) hD, hS⟩
end
end
end Mine
end
section
open PySem PySem.Calls PySem.W PyProof.Rows
set_option maxRecDepth 100000
namespace Mine
noncomputable section
section
variable {C : Cx} {A : Around} {m : Loc} {H : CH} {s : Shared} {K : Frag} {mg mb : Str → Option Value} {Q : V → Loc → CH → Prop}
theorem wpAny_ld {M : Model} {E : Value → Shared → Prop} {α : Type} {d : Addr} {o : Obj} {part : Option Value} {g : Obj → Sem α} {Q : α → Shared → Prop} (ho : s.heap.get? d = some o) (h : wpAny M A (g o) Q E s) : wpAny M A (loadPart d part >>= g) Q E s :=
 wpAny_bind (wpAny_loadPart ho h)
theorem BindsW.dfltkw {fd : FuncData} {vs : List V} {kws binds : List (Str × V)} {T D : Addr} {items : List Value} {n : Nat} {o : Obj} (B : Bs C.h₀ K mg mb) (hT : K.lookup T = some (seqObj "tuple" items.toArray n)) (hD : K.lookup D = some o)
  (h : ∀ (h : Heap) rs rkw, VRs h vs rs → KWs h kws rkw → ∃ (k : Option (Array Value) → Sem (List (Str × Value))) (part : Option Value) (g : Obj → Sem (List (Str × Value))) (rb : List (Str × Value)), bindArgs fd ⟨rs, rkw⟩ = (seqItems? (.ref T) >>= k) ∧ k (some items.toArray) = (loadPart D part >>= g) ∧ g o = pure rb ∧ KWs h binds rb) : BindsW C H fd vs kws binds := fun M A E s rs rkw Q S hv hk hq => by
 obtain ⟨k, part, g, rb, e1, e2, e3, e4⟩ := h s.heap rs rkw hv hk
 refine rE e1 ?_
 refine wpAny_bind (wpAny_seqItems (S.base _ _ (B.X _ _ hT)) rfl ?_)
 refine rE e2 ?_
 refine wpAny_ld (S.base _ _ (B.X _ _ hD)) ?_
 refine rE e3 ?_
 exact wpAny_pure (hq rb s.heap s.toks (fun _ _ e => e) e4)
end
end
end Mine
end
section
open PySem PySem.Calls PySem.W PyProof.Rows
set_option maxRecDepth 100000
namespace Mine
noncomputable section
section
variable {C : Cx} {A : Around} {m : Loc} {H : CH} {s : Shared}
inductive ScN (C : Cx) (scope : Scope) (cl : List (Str × Addr)) (ob0 ob1 : Nat → Heap → Obj → Prop) (I0 I1 D L : Addr) (H : CH) (s : Shared) (m₃ : Loc) (j i : Nat) (acc : List Int) (s' : Shared) : Prop
 | mk (o0 : Obj) (Z : ScI C ob1 I1 D L H s i acc s') (h0 : s'.heap.get? I0 = some o0) (hob0 : ob0 j s'.heap o0) (T : St (C.comp scope cl L) m₃ H s') : ScN C scope cl ob0 ob1 I0 I1 D L H s m₃ j i acc s'
theorem sc_inner {elt t0 i0 t1 i1 : PySem.Expr} {scope : Scope} {cl : List (Str × Addr)} {pos : Pos} {R : Result → Shared → Prop} {I0 I1 D L : Addr} {ob0 ob1 : Nat → Heap → Obj → Prop} {nx1 : CH → Nat → Option (Option V)} {ds : List Int} {f : Int → Int} {m₃ : Loc} {j : Nat} {acc0 : List Int}
  (P1 : Prot C A I1 ob1 nx1) (hnx : ∀ i, nx1 H i = some (ds.map V.int)[i]?) (plain0 : ∀ i h o, ob0 i h o → ¬ Imm o) (nodict0 : ∀ i h o es ep, ob0 i h o → o.data ≠ .dict es ep) (kept0 : ∀ i h h' o, TupKeep h h' → ob0 i h o → ob0 i h' o)
  (hI1 : s.heap.get? I1 = none) (hD0 : s.heap.get? D = none) (hL0 : s.heap.get? L = none) (hI0 : s.heap.get? I0 = none) (hDL : D ≠ L) (h0D : I0 ≠ D) (h0L : I0 ≠ L) (h1D : I1 ≠ D) (h1L : I1 ≠ L) (h01 : I0 ≠ I1)
  (hnb : ∀ a, s.heap.get? a = none → C.h₀.get? a = none) (hnH : ∀ a, s.heap.get? a = none → H a = none) (hroom : acc0.length + ds.length + 1 < scanBound)
  (turn : ∀ d ∈ ds, ASG (C.comp scope cl L) A t1 (.int d) m₃ H fun m₄ H₄ => H₄ = H ∧ EV (C.comp scope cl L) A elt m₄ H fun y m₅ H₅ => y = .int (f d) ∧ H₅ = H ∧ Sub m₃ m₅)
  (fin : ∀ s', ScI C ob0 I0 D L H s j (iadds acc0 (ds.map f)) s' → R (.ok .next) s')
  {s₄ : Shared} (h : ScN C scope cl ob0 ob1 I0 I1 D L H s m₃ j 0 acc0 s₄) :
  codeAny (model C.prog C.w) A (.compLoop (.SetComp elt [⟨t0, i0, [], 0⟩, ⟨t1, i1, [], 0⟩] scope pos) 1 (.ref I1) (.ref D) (C.comp scope cl L).env) R s₄ := by
 refine codeAny_loop rfl (fun n s' => ∃ i, n = ds.length - i ∧ i ≤ ds.length ∧ ScN C scope cl ob0 ob1 I0 I1 D L H s m₃ j i (iadds acc0 ((ds.take i).map f)) s') ?_ ds.length ⟨0, rfl, Nat.zero_le _, h⟩
 rintro n s' ⟨i, rfl, hi, o0, Z, h0, hob0, T⟩
 show wpAny _ A ((compTurn (.SetComp elt [⟨t0, i0, [], 0⟩, ⟨t1, i1, [], 0⟩] scope pos) 1 (.ref I1) (.ref D) (C.comp scope cl L).env).onRaise (fun x => do noteFrame x (C.comp scope cl L).env; theTreesLotGoes x)) _ _ s'
 refine wpAny_noted (wpAny_noRaise ?_)
 refine wpAny_hide fun R0 hR0 => ?_
 refine rE (turn_set1 ..) ?_
 obtain ⟨mr, oi, oD, S', af', hn', hoi, hobi, hDi, hSi⟩ := id Z
 rcases Nat.lt_or_ge i ds.length with hlt | hge
 ·have hx : (ds.map V.int)[i]? = some (.int ds[i]) := by refine rE List.getElem?_map (rE (List.getElem?_eq_getElem hlt) ?_); rfl
  refine wpAny_bind (wpAny_standAt (wpAny_bind (wpAny_mono (P1.item H s' i oi (.int ds[i]) S' (hnH _ hI1) hoi hobi ((hnx i).trans (by refine rE hx rfl))) ?_ fun _ _ x => x)))
  rintro rx s₅ ⟨rv, h₅, tk₅, o₅, rfl, rfl, hrv, he₅, hI₅, hob₅⟩
  dsimp only
  refine wpAny_bind (P1.own t1 rv _ (i + 1) _ o₅ _ hI₅ hob₅ ?_)
  have k₅ : TupKeep s'.heap h₅ := qat hoi (P1.plain _ _ _ hobi) he₅
  have Z₅ : ScI C ob1 I1 D L H s (i + 1) _ { s' with heap := h₅, toks := tk₅ } := Z.step P1.plain (hnb _ hI1) hI1 (hnH _ hI1) h1D h1L he₅ hI₅ (P1.kept _ _ _ _ k₅ hob₅)
  have T₅ : St (C.comp scope cl L) m₃ H { s' with heap := h₅, toks := tk₅ } := T.hid hoi (hnH _ hI1) (hnb _ hI1) (fun es ep => P1.nodict i _ oi es ep hobi) (P1.plain i _ oi hobi) he₅
  refine wpAny_bind (wpAny_mono (turn ds[i] (List.getElem_mem hlt) _ rv T₅ hrv) ?_ fun _ _ x => x)
  rintro _ s₆ ⟨m₆, H₆, T₆, a₆, rfl, h₆⟩
  refine wpAny_bind (wpAny_bind (wpAny_mono (h₆ s₆ T₆) ?_ fun _ _ x => x))
  rintro ry s₇ ⟨y, m₇, H₇, hy, T₇, a₇, rfl, rfl, hsub⟩
  refine eE hy.int_inv fun u zz1 => ?_; subst zz1
  have aa := a₆.then T₆ a₇
  have Z₇ := Z₅.back P1.nodict P1.kept hL0 (hnH _ hI1) (hnH _ hD0) h1L hDL T₅ T₇ aa
  have hlen : (iadds acc0 ((ds.take i).map f)).length ≤ acc0.length + ds.length := by
   have := @qc4 ((ds.take i).map f) acc0
   rw [List.length_map, List.length_take] at this
   lia
  refine wpAny_bind (wpAny_standAt (wpAny_bind (Z₇.add P1.kept (hnb _ hD0) hD0 (hnH _ hD0) h1D hDL (by lia) fun h₈ he₈ Z₈ => ?_)))
  refine wpAny_pure (wpAny_pure ?_)
  obtain ⟨mr7, _, oD7, S7, _, hn7, _, _, hD7, hS7⟩ := Z₇
  have h05 : h₅.get? I0 = some o0 := he₅ I0 _ h01 h0
  obtain ⟨o1, e1, q1⟩ := aa.stay I0 o0 h0L (hnH _ hI0) h05
  rw [q1.exact (fun es ep => nodict0 _ _ _ es ep hob0)] at e1
  have t7 := (k₅.trans (aa.tup T₅)).trans (qat hD7 (qbg hS7) he₈)
  refine hR0 _ _ ⟨rfl, ds.length - (i + 1), by exact Nat.sub_succ_lt_self ds.length i hlt, i + 1, rfl, hlt, o0, ?_, he₈ I0 _ h0D e1, kept0 _ _ _ _ t7 hob0, (T₇.sub hsub).hid hD7 (hnH _ hD0) (hnb _ hD0) (iset_nodict hS7) (qbg hS7) he₈⟩
  have e : iadds acc0 ((ds.take (i + 1)).map f) = iadd (f ds[i]) (iadds acc0 ((ds.take i).map f)) := by
   refine rE List.take_add_one (rE (List.getElem?_eq_getElem hlt) (rE List.map_append ?_))
   show List.foldl _ _ _ = _
   refine rE List.foldl_append ?_; rfl
  refine rE e ?_
  exact Z₈
 ·have hie : i = ds.length := by exact Nat.le_antisymm hi hge
  subst hie
  refine wpAny_bind (wpAny_standAt (wpAny_bind (wpAny_mono (P1.done H s' ds.length oi S' (hnH _ hI1) hoi hobi ((hnx ds.length).trans (by refine rE (List.getElem?_eq_none (by simp)) rfl))) ?_ fun _ _ x => x)))
  rintro rx s₅ ⟨h₅, tk₅, rfl, rfl, he₅⟩
  have k₅ : TupKeep s'.heap h₅ := qat hoi (P1.plain _ _ _ hobi) he₅
  rw [List.take_length] at hSi
  exact wpAny_pure (hR0 _ _ (fin _ ⟨mr, o0, oD, S'.hid hoi (hnH _ hI1) (hnb I1 hI1) (P1.plain _ _ _ hobi) he₅, af'.hid hI1 he₅, hn'.extBut he₅ (Ne.symm h1L), he₅ I0 _ h01 h0, kept0 _ _ _ _ k₅ hob0, he₅ D _ (Ne.symm h1D) hDi, hSi⟩))
structure SetComp2 (C : Cx) (A : Around) (elt t0 t1 i1 : PySem.Expr) (scope : Scope) (cl : List (Str × Addr)) (H : CH) (ns ds : List Int) (f : Int → Int → Int) : Prop where
 turn : ∀ x ∈ ns, ∀ L, H L = none → ASG (C.comp scope cl L) A t0 (.int x) [] H fun m₂ H₂ => H₂ = H ∧ EV (C.comp scope cl L) A i1 m₂ H fun v m₃ H₃ => v = .tup (ds.map .int) ∧ H₃ = H ∧
  ∀ d ∈ ds, ASG (C.comp scope cl L) A t1 (.int d) m₃ H fun m₄ H₄ => H₄ = H ∧ EV (C.comp scope cl L) A elt m₄ H fun y m₅ H₅ => y = .int (f x d) ∧ H₅ = H ∧ Sub m₃ m₅
noncomputable abbrev allOf (ns ds : List Int) (f : Int → Int → Int) : List Int := ns.flatMap fun x => ds.map (f x)
theorem sc_outer {elt t0 i0 t1 i1 : PySem.Expr} {scope : Scope} {cl : List (Str × Addr)} {pos : Pos} {R : Result → Shared → Prop} {I0 D L : Addr} {ob0 : Nat → Heap → Obj → Prop} {nx0 : CH → Nat → Option (Option V)} {ns ds : List Int} {f : Int → Int → Int}
  (hA : A.handled = none) (F₁ : Frs C H s) (P0 : Prot C A I0 ob0 nx0) (hnx : ∀ i, nx0 H i = some (ns.map V.int)[i]?) (hI0 : s.heap.get? I0 = none) (hD0 : s.heap.get? D = none) (hL0 : s.heap.get? L = none) (hDL : D ≠ L) (h0D : I0 ≠ D) (h0L : I0 ≠ L)
  (hnb : ∀ a, s.heap.get? a = none → C.h₀.get? a = none) (hnH : ∀ a, s.heap.get? a = none → H a = none) (hroom : ns.length * ds.length + ds.length + 1 < scanBound) (K : SetComp2 C A elt t0 t1 i1 scope cl H ns ds f)
  (hs1 : ∀ L x, foldedSetIterable i1 (C.comp scope cl L).env x = pure x)
  (fin' : ∀ s' h₅ tk₅, ScI C ob0 I0 D L H s ns.length (iadds [] (allOf ns ds f)) s' → Heap.ExtBut I0 s'.heap h₅ → R (.ok .next) { s' with heap := h₅, toks := tk₅ })
  {s₄ : Shared} (h : ScI C ob0 I0 D L H s 0 [] s₄) :
  codeAny (model C.prog C.w) A (.compLoop (.SetComp elt [⟨t0, i0, [], 0⟩, ⟨t1, i1, [], 0⟩] scope pos) 0 (.ref I0) (.ref D) (C.comp scope cl L).env) R s₄ := by
 refine codeAny_loop rfl (fun n s' => ∃ i, n = ns.length - i ∧ i ≤ ns.length ∧ ScI C ob0 I0 D L H s i (iadds [] (allOf (ns.take i) ds f)) s') ?_ ns.length ⟨0, rfl, Nat.zero_le _, h⟩
 rintro n s' ⟨i, rfl, hi, Z⟩
 show wpAny _ A ((compTurn (.SetComp elt [⟨t0, i0, [], 0⟩, ⟨t1, i1, [], 0⟩] scope pos) 0 (.ref I0) (.ref D) (C.comp scope cl L).env).onRaise (fun x => do noteFrame x (C.comp scope cl L).env; theTreesLotGoes x)) _ _ s'
 refine wpAny_noted (wpAny_noRaise ?_)
 refine wpAny_hide fun R0 hR0 => ?_
 refine rE (turn_set0 ..) ?_
 obtain ⟨mr, oi, oD, S', af', hn', hoi, hobi, hDi, hSi⟩ := id Z
 rcases Nat.lt_or_ge i ns.length with hlt | hge
 ·have hx : (ns.map V.int)[i]? = some (.int ns[i]) := by refine rE List.getElem?_map (rE (List.getElem?_eq_getElem hlt) ?_); rfl
  refine wpAny_bind (wpAny_standAt (wpAny_bind (wpAny_mono (P0.item H s' i oi (.int ns[i]) S' (hnH _ hI0) hoi hobi ((hnx i).trans (by refine rE hx rfl))) ?_ fun _ _ x => x)))
  rintro rx s₅ ⟨rv, h₅, tk₅, o₅, rfl, rfl, hrv, he₅, hI₅, hob₅⟩
  dsimp only
  refine wpAny_bind (P0.own t0 rv _ (i + 1) _ o₅ _ hI₅ hob₅ ?_)
  have k₅ : TupKeep s'.heap h₅ := qat hoi (P0.plain _ _ _ hobi) he₅
  have Z₅ : ScI C ob0 I0 D L H s (i + 1) _ { s' with heap := h₅, toks := tk₅ } := Z.step P0.plain (hnb _ hI0) hI0 (hnH _ hI0) h0D h0L he₅ hI₅ (P0.kept _ _ _ _ k₅ hob₅)
  have T₅ : St (C.comp scope cl L) [] H { s' with heap := h₅, toks := tk₅ } := Z₅.go (nx := nx0) F₁ hnb hL0 (hnH _ hL0)
  refine wpAny_bind (wpAny_mono (K.turn ns[i] (List.getElem_mem hlt) L (hnH _ hL0) _ rv T₅ hrv) ?_ fun _ _ x => x)
  rintro _ s₆ ⟨m₆, H₆, T₆, a₆, rfl, h₆⟩
  refine wpAny_bind (wpAny_mono (h₆ s₆ T₆) ?_ fun _ _ x => x)
  rintro rt s₇ ⟨vt, m₇, H₇, hvt, T₇, a₇, rfl, rfl, turn⟩
  have Z₇ := Z₅.back P0.nodict P0.kept hL0 (hnH _ hI0) (hnH _ hD0) h0L hDL T₅ T₇ (a₆.then T₆ a₇)
  refine wpAny_bind (wpAny_standAt (wpAny_bind (wpAny_of_eq (hs1 L rt) (wpAny_bind (wpAny_holding ?_)))))
  obtain ⟨mr7, o7, oD7, S7, af7, hn7, ho7, hob7, hD7, hS7⟩ := id Z₇
  obtain ⟨nx1, it1, hnx1⟩ := seq_tup (C := C) (A := A) (H := H₇) (xs := ds.map V.int) hA
  refine wpAny_mono (it1 s₇ rt S7 hvt) ?_ fun _ _ x => x
  rintro ri s₈ ⟨I1, ob1, h₈, tk₈, o1, rfl, rfl, hk₈, hI1, ho1, hob1, P1⟩
  have hI1s : s.heap.get? I1 = none := by
   exact af7.there_none hI1
  have h1D : I1 ≠ D := fun e => by rw [e, hD7] at hI1; cases hI1
  have h1L : I1 ≠ L := fun e => by obtain ⟨oL, _, _, hoL, _⟩ := hn7; rw [e, hoL] at hI1; cases hI1
  have h01 : I0 ≠ I1 := fun e => by rw [← e, ho7] at hI1; cases hI1
  have hlen : (iadds [] (allOf (ns.take i) ds f)).length ≤ ns.length * ds.length := by
   have h1 := @qc4 (allOf (ns.take i) ds f) []
   have h2 : (allOf (ns.take i) ds f).length = (ns.take i).length * ds.length := by
    generalize ns.take i = l
    induction l with
    | nil => simp [allOf]
    | cons x l ih =>
     show ((ds.map (f x)) ++ allOf l ds f).length = _
     refine rE List.length_append (rE (List.length_map ..) (rE ih (rE List.length_cons (rE (Nat.add_mul ..) (rE (Nat.one_mul ..) (rE (Nat.add_comm ..) rfl))))))
   rw [h2, List.length_take, List.length_nil, Nat.zero_add] at h1
   exact Nat.le_trans h1 (Nat.mul_le_mul_right _ (Nat.min_le_right _ _))
  have Z8 : ScN C scope cl ob0 ob1 I0 I1 D L H₇ s m₇ (i + 1) 0 (iadds [] (allOf (ns.take i) ds f)) { s₇ with heap := h₈, toks := tk₈ } :=
   ⟨o7, ⟨mr7, o1, oD7, S7.more hk₈, af7.trans (.more hk₈), hn7.keeps hk₈, ho1, hob1, hk₈ _ _ hD7, hS7⟩, hk₈ _ _ ho7, P0.kept _ _ _ _ (.of_keep hk₈) hob7, T₇.more hk₈⟩
  have loop := sc_inner (elt := elt) (i0 := i0) (t0 := t0) (i1 := i1) (pos := pos) (cl := cl) (scope := scope) (R := fun r s' => match r with
   | .ok _ => ScI C ob0 I0 D L H₇ s (i + 1) (iadds [] (allOf (ns.take (i + 1)) ds f)) s'
   | .error e => False) P1 (fun i => hnx1 _ i trivial) P0.plain P0.nodict P0.kept hI1s hD0 hL0 hI0 hDL h0D h0L h1D h1L h01 hnb hnH (by lia) turn (fun s' Zf => by
    have e : iadds [] (allOf (ns.take (i + 1)) ds f) = iadds (iadds [] (allOf (ns.take i) ds f)) (ds.map (f ns[i])) := by
     refine rE List.take_add_one (rE (List.getElem?_eq_getElem hlt) ?_)
     show List.foldl _ _ (List.flatMap _ (_ ++ [ns[i]])) = _
     refine rE List.flatMap_append (rE List.foldl_append ?_)
     simp
    refine rE e ?_; exact Zf) Z8
  refine wpAny_bind (wpAny_runOwn (codeAny_mono (qbh ⟨_, rfl, rfl⟩ loop (P1.self _ 0 h₈ o1 _ _ ho1 hob1 loop)) ?_))
  rintro r s₉ hr
  cases r with
  | error e => exact hr.elim
  | ok fl => exact wpAny_pure (hR0 _ _ ⟨rfl, ns.length - (i + 1), by exact Nat.sub_succ_lt_self ns.length i hlt, i + 1, rfl, hlt, hr⟩)
 ·have hie : i = ns.length := by exact Nat.le_antisymm hi hge
  subst hie
  refine wpAny_bind (wpAny_standAt (wpAny_bind (wpAny_mono (P0.done H s' ns.length oi S' (hnH _ hI0) hoi hobi ((hnx ns.length).trans (by refine rE (List.getElem?_eq_none (by simp)) rfl))) ?_ fun _ _ x => x)))
  rintro rx s₅ ⟨h₅, tk₅, rfl, rfl, he₅⟩
  rw [List.take_length] at Z
  exact wpAny_pure (hR0 _ _ (fin' s' h₅ tk₅ Z he₅))
end
end
end Mine
end
section
open PySem PySem.Calls PySem.W PyProof.Rows
set_option maxRecDepth 100000
namespace Mine
noncomputable section
theorem eval_SetComp2 (elt t0 i0 t1 i1 : PySem.Expr) (scope : Scope) (pos : Pos) (env : Env) : eval (.SetComp elt [⟨t0, i0, [], 0⟩, ⟨t1, i1, [], 0⟩] scope pos) env =
  comprehension (.SetComp elt [⟨t0, i0, [], 0⟩, ⟨t1, i1, [], 0⟩] scope pos) scope env (firstIterPos [⟨t0, i0, [], 0⟩, ⟨t1, i1, [], 0⟩] pos) (newSet (.type "set")) false (eval i0 env) := rfl
section
variable {C : Cx} {A : Around} {m : Loc} {H : CH} {s : Shared}
theorem EV_sc {elt t0 i0 t1 i1 : PySem.Expr} {scope : Scope} {cl : List (Str × Addr)} {pos : Pos} {ds : List Int} {f : Int → Int → Int} {Q : V → Loc → CH → Prop} (hA : A.handled = none)
  (h : EV C A i0 m H fun v m₁ H₁ => ∃ (ns : List Int) (ok : CH → Prop), SeqOf C A v H₁ (ns.map .int) ok ∧ ok H₁ ∧ ns.length * ds.length + ds.length + 1 < scanBound ∧ SetComp2 C A elt t0 t1 i1 scope cl H₁ ns ds f ∧
   ∀ D o, H₁ D = none → C.h₀.get? D = none → ISet C.prog C.w o (iadds [] (allOf ns ds f)) → Q (.ref D) m₁ (H₁.set D (.raw o)))
  (hclos : autoParam (closureFor scope C.env = pure cl) Mine.syn1) (hok : autoParam (scopeOk scope = true) Mine.syn1) (hs : autoParam (∀ x, foldedSetIterable i0 C.env x = pure x) Mine.syn2)
  (hs1 : autoParam (∀ L x, foldedSetIterable i1 (C.comp scope cl L).env x = pure x) Mine.syn3) :
  EV C A (.SetComp elt [⟨t0, i0, [], 0⟩, ⟨t1, i1, [], 0⟩] scope pos) m H Q := fun s S => by
 refine eAA (scopeOk.get hok) fun hkind hcell hnames => ?_
 refine rE (eval_SetComp2 ..) ?_
 refine wpAny_comprehension_free (use := none) rfl hs hclos hkind hnames (wpAny_mono (h s S) ?_ fun _ _ x => x)
 rintro r s₁ ⟨v, m₁, H₁, hv, S₁, af₁, ns, ok, ⟨nx, it, hnx⟩, hokH, hroom, K, fin⟩
 refine wpAny_mono (it s₁ r S₁.toHS hv) ?_ fun _ _ x => x
 rintro ri s₂ ⟨I, ob, h₂, tk₂, o0, rfl, rfl, hk₂, hI, hob, hob0, P⟩
 refine newSet_int fun oD hoD => wpAny_newFunctionEnv hcell (by intro y hy; simp at hy) (fun h₄ hns₄ hsb₄ => ?_) hkind
 dsimp only at hns₄ hsb₄ ⊢
 generalize hDd : h₂.objs.size = D at *
 generalize hH3 : h₂.push oD = H3 at *
 generalize hLd : H3.objs.size = L at *
 have hsz3 : H3.objs.size = h₂.objs.size + 1 := by refine rF hH3 (rE (size_push' ..) rfl)
 have hDL : D ≠ L := by
  have : H3.objs.size = h₂.objs.size + 1 := hsz3
  show ¬ ((D : Nat) = L)
  lia
 have keep3 : ∀ b o, h₂.get? b = some o → H3.get? b = some o := fun b o e => by refine rF hH3 ?_; exact Heap.get?_push_of_some _ e
 have keep34 : ∀ b o, b ≠ L → H3.get? b = some o → h₄.get? b = some o := fun b o hb e => hsb₄.extBut b o hb (Heap.get?_push_of_some _ e)
 have ltL : ∀ b o, h₂.get? b = some o → b ≠ L := fun b o e => by
  refine Nat.ne_of_lt ?_
  refine rF hLd (rE hsz3 ?_)
  exact Nat.lt_succ_of_lt (Heap.lt_size e)
 have keep4 : ∀ b o, h₂.get? b = some o → h₄.get? b = some o := fun b o e => keep34 b o (ltL b o e) (keep3 b o e)
 have fresh : ∀ a, (h₂.objs.size : Nat) ≤ a → s₁.heap.get? a = none := fun a ha => by
  cases e : s₁.heap.get? a with
  | none => rfl
  | some o' => exact absurd (Heap.lt_size (hk₂ _ _ e)) (Nat.not_lt.mpr ha)
 have hD0 : s₁.heap.get? D = none := fresh D (by show (h₂.objs.size : Nat) ≤ D; lia)
 have hL0 : s₁.heap.get? L = none := fresh L (by show (h₂.objs.size : Nat) ≤ L; lia)
 have hnb : ∀ a, s₁.heap.get? a = none → C.h₀.get? a = none := fun a ha => by
  exact S₁.base_none ha
 have hnH : ∀ a, s₁.heap.get? a = none → H₁ a = none := fun a ha => by
  exact S₁.own_none ha
 have hnf : oD.isFreed = false := by obtain ⟨es, ep, t, rfl, _⟩ := hoD; rfl
 have hDobj : h₄.get? D = some oD := keep34 D oD hDL (by refine rF hH3 (rF hDd ?_); exact Heap.get?_push_size _ hnf)
 have hIobj : h₄.get? I = some o0 := keep4 I o0 hob
 have hID : I ≠ D := fun e => by
  have := Heap.lt_size hob
  exact absurd (show (D : Nat) < h₂.objs.size from e ▸ this) (by lia)
 have hIL : I ≠ L := ltL I o0 hob
 have af4 : AfterC H₁ s₁ H₁ { s₁ with heap := h₄, toks := tk₂ } := .more fun b o e => keep4 b o (hk₂ b o e)
 have S4 : HS C H₁ { s₁ with heap := h₄, toks := tk₂ } := S₁.toHS.more fun b o e => keep4 b o (hk₂ b o e)
 have loop := sc_outer (elt := elt) (i0 := i0) (pos := pos) (R := compPost (model C.prog C.w) A NoE none (PV C H s Q) (.ref D) L) (s₄ := { s₁ with heap := h₄, toks := tk₂ }) hA S₁.frs P (fun i => hnx H₁ i hokH) hI hD0 hL0 hDL hID hIL hnb hnH hroom K hs1 (fun s' h₅ tk₅ Z he => ?_)
  ⟨_, o0, oD, S4, af4, hns₄, hIobj, P.kept _ _ _ _ (.of_keep keep4) hob0, hDobj, hoD⟩
 ·exact qbh ⟨_, rfl, rfl⟩ loop (P.self _ 0 h₂ o0 _ _ hIobj hob0 loop)
 ·obtain ⟨mr, oI, oF, S', af', hn', hoI, hobI, hoF, hSF⟩ := Z
  refine ⟨mr, hn'.extBut he (Ne.symm hIL), fun h'' hs'' => ?_⟩
  have S5 : HS C H₁ { s' with heap := h₅, toks := tk₅ } := S'.hid hoI (hnH I hI) (hnb I hI) (P.plain _ _ _ hobI) he
  have af5 : AfterC H₁ s₁ H₁ { s' with heap := h₅, toks := tk₅ } := af'.hid hI he
  have hn5 := hn'.extBut he (Ne.symm hIL)
  have hoF5 := he D _ (Ne.symm hID) hoF
  obtain ⟨oL, _, _, hoL, _⟩ := id hn5
  have S₂ : HS C H₁ { s' with heap := h'', toks := tk₅ } := S5.hid (tk := tk₅) hoL (hnH L hL0) (hnb L hL0) (qb2 hn5 hoL) hs''.extBut
  have af₂ : AfterC H₁ s₁ H₁ { s' with heap := h'', toks := tk₅ } := af5.hid (tk := tk₅) hL0 hs''.extBut
  have hoF6 : h''.get? D = some oF := hs''.extBut D _ hDL hoF5
  have S₃ : HS C (H₁.set D (.raw oF)) { s' with heap := h'', toks := tk₅ } := S₂.adopt (hnb D hD0) hoF6 ⟨rfl, by obtain ⟨es, ep, t, rfl, _⟩ := hSF; rfl, qbg hSF⟩
  have af₃ : AfterC H₁ s₁ (H₁.set D (.raw oF)) { s' with heap := h'', toks := tk₅ } := af₂.adopt hD0
  exact ⟨.ref D, m₁, _, .ref, S₁.called S₃ af₃, af₁.then S₁ af₃.after, fin D oF (hnH D hD0) (hnb D hD0) hSF⟩
end
end
end Mine
end
section
open PySem PySem.Calls PySem.W PyProof.Rows
set_option maxRecDepth 100000
namespace Mine
noncomputable section
noncomputable def pmin (b p : Int × Int) : Int × Int := if p.1 < b.1 ∨ (p.1 = b.1 ∧ p.2 < b.2) then p else b
section
variable {C : Cx} {A : Around} {m : Loc} {H : CH} {s : Shared} {K : Frag} {mg mb : Str → Option Value} {Q : V → Loc → CH → Prop}
theorem CV_extend_tup {l : Addr} {xs ys : List V} (hl : H l = some (.list xs)) (hsz : xs.length + ys.length ≤ sizeLine) (h : Q V.none m (H.set l (.list (xs ++ ys)))) : CV C A (.con (.builtin "list.extend")) [.ref l, .tup ys] [] m H Q := fun s rf rs rkw S hf hv hk => by
 have := hk.nil_inv; subst this
 refine rE hf.con_inv ?_
 refine eEEAA (qbm hv) fun a b zz2 ha hb => ?_; subst zz2
 refine rE ha.ref_inv ?_
 obtain ⟨t, items2, n2, rfl, ht, hvs2⟩ := hb.tup_inv
 obtain ⟨items, n, hI, hvs, hz⟩ := S.toHS.list (.own hl)
 have hz2 : items2.size = ys.length := by have := hvs2.length; simp at this; exact Nat.add_right_cancel (congrFun (congrArg HAdd.hAdd (id (Eq.symm this))) l)
 have htl : Builtin.List.listTooLong (items.size + items2.size) = false := by
  unfold Builtin.List.listTooLong; simp; lia
 refine call_meets F.slot_list_extend ⟨_, hI, rfl⟩ F.entry_list_extend (F.args_list_extend_2 _ _) (AutoSeq1.list_extend_list_tuple_0 l items n t items2 n2 (by refine rE htl ?_; simp) (by lia) (by lia)) ⟨hI, ht, ?_⟩
 exact PV.upd (c' := .list (xs ++ ys)) S hl (Heap.SameBut.update ..) (hI.update _) ⟨_, _, rfl, by refine rE Array.toList_append ?_; exact hvs.append hvs2⟩ .con h
theorem CV_index {l : Addr} {ns : List Int} {x : Int} {j : Nat} (hl : LAt C H l (ns.map .int)) (hz : ns.length < 2 ^ 20) (hj : ns[j]? = some x) (hno : ∀ i, i < j → ns[i]? ≠ some x) (h : Q (.int j) m H) : CV C A (.con (.builtin "list.index")) [.ref l, .int x] [] m H Q := fun s rf rs rkw S hf hv hk => by
 have := hk.nil_inv; subst this
 refine rE hf.con_inv ?_
 refine eEEAA (qbm hv) fun a b zz2 ha hb => ?_; subst zz2
 refine rE ha.ref_inv ?_
 refine eE hb.int_inv fun u zz1 => ?_; subst zz1
 obtain ⟨items, n, hI, hvs, hz1⟩ := S.toHS.list hl
 rw [List.length_map] at hz1
 refine eE (List.getElem?_eq_some_iff.mp hj) fun hjl hjx => ?_
 have at_ : ∀ i (hi : i < items.size), ∃ t, items[i] = .int (ns[i]'(by exact Nat.lt_of_lt_of_eq hi hz1)) t := fun i hi => by
  obtain ⟨r, hr, hvr⟩ := hvs.get (i := i) (x := .int (ns[i]'(by exact Nat.lt_of_lt_of_eq hi hz1))) (by refine rE List.getElem?_map (rE (List.getElem?_eq_getElem (by exact Nat.lt_of_lt_of_eq hi hz1)) ?_); rfl)
  refine eE hvr.int_inv fun t zz1 => ?_; subst zz1
  rw [Array.getElem?_toList, getElem?_pos items i hi] at hr
  exact ⟨t, Option.some.inj hr⟩
 have eq : ∀ y, y ∈ items → MeetsSeq.EqGives y (.int x u) (numOf y == x) := fun y hy => by
  obtain ⟨i, hi, rfl⟩ := Array.mem_iff_getElem.mp hy
  refine eE (at_ i hi) fun t e => ?_
  refine rE e ?_
  exact MeetsSeq.EqGives.int _ _ _ _
 refine call_meets F.slot_list_index ⟨_, hI, rfl⟩ F.entry_list_index (F.args_list_index_2 _ _) (MeetsSeq.list_index l items n (.int x u) (fun y => numOf y == x) eq j (by exact Nat.lt_of_lt_of_eq hjl (id (Eq.symm hz1))) (by lia) ?_ fun i hi hij => ?_) ⟨hI, ?_⟩
 ·refine eE (at_ j (by omega)) fun t e => ?_
  refine rE e ?_; simpa [numOf] using hjx
 ·refine eE (at_ i hi) fun t e => ?_
  refine rE e ?_
  have := hno i hij
  rw [List.getElem?_eq_getElem (by exact Nat.lt_trans hij hjl)] at this
  simpa [numOf] using this
 ·exact ⟨_, m, H, .int, S.toks _, .toks _ _, h⟩
theorem min_loop {ps : List (Int × Int)} {l I S : Addr} {items : Array Value} {n : Nat} {R : Result → Shared → Prop} (hA : A.handled = none) (hu : A.units + 2 < cLine) (hlI : l ≠ I) (hSI : S ≠ I) (hlS : l ≠ S) (hz : items.size = ps.length) :
  ∀ (k j : Nat) (s : Shared) (vb : Value) (b : Int × Int) (c : Nat), ps.length - (j + 1) = k → j + 1 ≤ ps.length → s.heap.IsListIter I l (j + 1) → s.heap.get? l = some (seqObj "list" items n) → VRs s.heap (ps.map fun p => V.tup [.int p.1, .int p.2]) items.toList → VR s.heap (.tup [.int b.1, .int b.2]) vb →
  s.heap.get? S = some { cls := .type "list", dict := none, data := .seq #[vb, vb] c, slots := #[] } →
  (∀ v h', VR h' (.tup [.int ((ps.drop (j + 1)).foldl pmin b).1, .int ((ps.drop (j + 1)).foldl pmin b).2]) v → (∀ b o, b ≠ I → b ≠ S → s.heap.get? b = some o → h'.get? b = some o) → R (.ok (.ret v)) { s with heap := h' }) →
  codeAny (model C.prog C.w) A (.builtin "min.loop" ⟨[.ref I, .none, .ref S], []⟩) R s := by
 have hname : (toString "min" ++ toString ".loop" : String) = "min.loop" := by decide
 have niI : ∀ o : Obj, o.cls = .type "list_iterator" → (∃ x y, o.data = .fields #[.ref x, .int y 0]) → ¬ Imm o := fun o h1 ⟨x, y, h2⟩ => qaj h1 (by decide) (by intro vs z t e q; rw [h2] at e; cases e; cases q)
 have niS : ∀ {xs : Array Value} {c : Nat}, ¬ Imm (seqObj "list" xs c) := fun {xs c} => qaj (T := "list") rfl (by decide) (by intro _ _ _ e; cases e)
 intro k
 induction k with
 | zero =>
  intro j s vb b c hk hj hit hl hvs hvb hS hR
  have hin : ps.length = j + 1 := by grind
  refine codeAny_builtin PySem.F.entry_min_loop ?_
  refine rE (Around.under_plainId PySem.F.plain_min_loop _) ?_
  show wpAny _ A.in1 (seqItems? (.ref S) >>= _) _ _ s
  refine wpAny_bind (wpAny_seqItems hS rfl ?_)
  show wpAny _ A.in1 (tryCatch (pyNext (.ref I)) _ >>= _) _ _ s
  refine wpAny_bind (wpAny_tryCatch (wpAny_pyNext_list_end (A := A.in1) hA hit (IsL.isList hl) (Array.getElem?_eq_none (by lia)) fun h' he => ?_))
  have hS' := he S _ hSI hS
  show wpAny _ A.in1 (updateSeq S (fun _ => #[]) >>= _) _ _ _
  refine wpAny_bind ?_
  refine wpAny_updateSeq hS' rfl (wpAny_bind (wpAny_letGo (wpAny_pure ?_)))
  obtain ⟨oI, hoI, hcI, hdI⟩ := id hit
  refine hR vb _ ?_ fun x o hx hx2 e => (Heap.get?_update_other _ _ (Ne.symm hx2)).trans (he x o hx e)
  refine rE (List.drop_of_length_le (by lia)) ?_
  refine (hvb.keep (qat hoI (niI _ hcI ⟨_, _, hdI⟩) he)).keep (qat hS' niS (Heap.SameBut.update ..).extBut)
 | succ k ih =>
  intro j s vb b c hk hj hit hl hvs hvb hS hR
  have hlt : j + 1 < ps.length := by exact Nat.lt_of_sub_eq_succ hk
  refine codeAny_builtin PySem.F.entry_min_loop ?_
  refine rE (Around.under_plainId PySem.F.plain_min_loop _) ?_
  show wpAny _ A.in1 (seqItems? (.ref S) >>= _) _ _ s
  refine wpAny_bind (wpAny_seqItems hS rfl ?_)
  obtain ⟨v, hv, hvv⟩ := hvs.get (i := j + 1) (x := .tup [.int ps[j + 1].1, .int ps[j + 1].2]) (by refine rE List.getElem?_map (rE (List.getElem?_eq_getElem hlt) ?_); rfl)
  show wpAny _ A.in1 (tryCatch (pyNext (.ref I)) _ >>= _) _ _ s
  refine wpAny_bind (wpAny_tryCatch (wpAny_pyNext_list_item (A := A.in1) hit (IsL.isList hl) (by simpa using hv) fun h' hit' hs => ?_))
  obtain ⟨oI, hoI, hcI, hdI⟩ := id hit
  have tk := qat hoI (niI _ hcI ⟨_, _, hdI⟩) hs.extBut
  have hS' := hs.extBut S _ hSI hS
  have hl' := hs.extBut l _ hlI hl
  have hvs' := hvs.keep tk
  have hvb' := hvb.keep tk
  have hvv' := hvv.keep tk
  have ed : ps.drop (j + 1) = ps[j + 1] :: ps.drop (j + 1 + 1) := List.drop_eq_getElem_cons hlt
  show wpAny _ A.in1 (tryCatch (holding [v, v] (richCompare .Lt v vb >>= _)) _ >>= _) _ _ _
  refine wpAny_bind (wpAny_tryCatch (wpAny_holding (wpAny_bind (wpAny_noRaise (ltp_raw (C := C) (A := A.in1) (s := { s with heap := h' }) (by show A.units + 1 < cLine; exact Nat.lt_of_succ_lt hu) hvv' hvb' ?_)))))
  refine wpAny_bind (wpAny_holding (wpAny_truthy_bool ?_))
  refine wpAny_bind (wpAny_letGo (wpAny_pure ?_))
  by_cases hb : ps[j + 1].1 < b.1 ∨ (ps[j + 1].1 = b.1 ∧ ps[j + 1].2 < b.2)
  ·simp only [hb, decide_true, if_true]
   refine wpAny_bind ?_
   refine wpAny_updateSeq hS' rfl (wpAny_bind (wpAny_letGo ?_))
   refine rE hname ?_
   have tk2 := qat hS' niS (Heap.SameBut.update h' S (Obj.mapSeq fun _ => #[v, v])).extBut
   obtain ⟨o', ho', hc', hd'⟩ := hit'
   refine wpAny_pure ⟨plainId_quiet PySem.F.plain_min_loop _, ih (j + 1) _ v ps[j + 1] _ (sub_next hk) hlt ⟨o', (Heap.get?_update_other _ _ hSI).trans ho', hc', hd'⟩ ((Heap.get?_update_other _ _ (Ne.symm hlS)).trans hl') (hvs'.keep tk2) (hvv'.keep tk2) (Heap.get?_update_self _ hS' rfl) fun v' h'' hv' hk'' => ?_⟩
   refine hR v' h'' ?_ fun x o hx hx2 e => hk'' x o hx hx2 ((Heap.get?_update_other _ _ (Ne.symm hx2)).trans (hs.extBut x o hx e))
   refine rE ed (rE List.foldl_cons (rE (show pmin b ps[j + 1] = ps[j + 1] from if_pos hb) ?_)); exact hv'
  ·simp only [hb, decide_false, Bool.false_eq_true, if_false]
   refine wpAny_bind (wpAny_letGo ?_)
   refine rE hname ?_
   refine wpAny_pure ⟨plainId_quiet PySem.F.plain_min_loop _, ih (j + 1) _ vb b c (sub_next hk) hlt hit' hl' hvs' hvb' hS' fun v' h'' hv' hk'' => ?_⟩
   refine hR v' h'' ?_ fun x o hx hx2 e => hk'' x o hx hx2 (hs.extBut x o hx e)
   refine rE ed (rE List.foldl_cons (rE (show pmin b ps[j + 1] = b from if_neg hb) ?_)); exact hv'
theorem CV_min_pairs {l : Addr} {p : Int × Int} {ps : List (Int × Int)} (hA : A.handled = none) (hu : A.units + 4 < cLine) (hl : LAt C H l ((p :: ps).map fun p => V.tup [.int p.1, .int p.2])) (h : Q (.tup [.int (ps.foldl pmin p).1, .int (ps.foldl pmin p).2]) m H) :
  CV C A (.con (.builtin "min")) [.ref l] [] m H Q := fun s rf rs rkw S hf hv hk => by
 have hname : (toString "min" ++ toString ".loop" : String) = "min.loop" := by decide
 have := hk.nil_inv; subst this
 refine rE hf.con_inv ?_
 refine eEA (qax hv) fun a zz1 ha => ?_; subst zz1
 refine rE ha.ref_inv ?_
 obtain ⟨items, n, hI, hvs, hz⟩ := S.toHS.list hl
 rw [List.length_map] at hz
 refine call_function_tree PySem.F.kind_min PySem.F.plain_min PySem.F.entry_min (PySem.F.args_min1 _) ?_
 show wpAny _ A.in1 (Builtin.Builtins.bindParams "min" ["key", "default"] 0 ⟨[], []⟩ >>= _) _ _ s
 refine wpAny_bind (wpAny_of_eq (show Builtin.Builtins.bindParams "min" ["key", "default"] 0 ⟨[], []⟩ = pure [none, none] from rfl) ?_)
 refine wpAny_bind (wpAny_pure ?_)
 refine wpAny_bind (wpAny_pyIter_list hI.isList ?_)
 refine wpAny_bind (wpAny_newObj_type ?_)
 refine rE hname ?_
 generalize hI0 : s.heap.objs.size = I at *
 generalize hH1 : s.heap.push { cls := .type "list_iterator", data := .fields #[.ref l, .int 0 0] } = H1 at *
 generalize hS0 : H1.objs.size = SS at *
 generalize hH2 : H1.push { cls := .type "list", data := .seq ([] : List Value).toArray } = H2 at *
 have sz1 : H1.objs.size = s.heap.objs.size + 1 := by refine rF hH1 (rE (size_push' ..) rfl)
 have hlt : l < s.heap.objs.size := Heap.lt_size hI
 have hlI : l ≠ I := by refine rF hI0 ?_; exact Nat.ne_of_lt hlt
 have hlS : l ≠ SS := by refine rF hS0 (rE sz1 ?_); exact Nat.ne_of_lt (Nat.lt_succ_of_lt hlt)
 have hSI : SS ≠ I := by refine rF hS0 (rF hI0 (rE sz1 ?_)); exact Nat.ne_of_gt (Nat.lt_succ_self _)
 have keep : ∀ b o, s.heap.get? b = some o → H2.get? b = some o := fun b o e => by refine rF hH2 ?_; exact Heap.get?_push_of_some _ (by refine rF hH1 ?_; exact Heap.get?_push_of_some _ e)
 have hit : H2.IsListIter I l 0 := ⟨_, by refine rF hH2 ?_; exact Heap.get?_push_of_some _ (by refine rF hH1 (rF hI0 ?_); exact Heap.get?_push_size _ rfl), rfl, rfl⟩
 have hSS : H2.get? SS = some (seqObj "list" #[] 0) := by refine rF hH2 (rF hS0 ?_); exact Heap.get?_push_size _ rfl
 have fresh : ∀ b, b = I ∨ b = SS → s.heap.get? b = none := fun b hb => by
  refine qbu ?_
  rcases hb with rfl | rfl
  ·refine rE hI0 ?_; exact Nat.le_refl _
  ·refine rF hS0 (rE sz1 ?_); exact Nat.le_succ _
 refine wpAny_pure ⟨plainId_quiet PySem.F.plain_min_loop _, codeAny_builtin PySem.F.entry_min_loop ?_⟩
 refine rE (Around.under_plainId PySem.F.plain_min_loop _) ?_
 show wpAny _ A.in1 (seqItems? (.ref SS) >>= _) _ _ { s with heap := H2 }
 refine wpAny_bind (wpAny_seqItems hSS rfl ?_)
 refine eEA (hvs.get (i := 0) (x := .tup [.int p.1, .int p.2]) rfl) fun v hv0 hvv => ?_
 show wpAny _ A.in1 (tryCatch (pyNext (.ref I)) _ >>= _) _ _ _
 refine wpAny_bind (wpAny_tryCatch (wpAny_pyNext_list_item (A := A.in1) (s := { s with heap := H2 }) hit (IsL.isList (keep _ _ hI)) (by simpa using hv0) fun h' hit' hs => ?_))
 have hS' := hs.extBut SS _ hSI hSS
 have hl' := hs.extBut l _ hlI (keep _ _ hI)
 show wpAny _ A.in1 (updateSeq SS (fun _ => #[v, v]) >>= _) _ _ _
 refine wpAny_bind ?_
 refine wpAny_updateSeq hS' rfl ?_
 refine rE hname ?_
 have keep3 : ∀ b o, s.heap.get? b = some o → (h'.update SS (Obj.mapSeq fun _ => #[v, v])).get? b = some o := fun b o e => by
  have h1 : b ≠ I := fun q => by rw [q, fresh I (.inl rfl)] at e; cases e
  have h2 : b ≠ SS := fun q => by rw [q, fresh SS (.inr rfl)] at e; cases e
  exact (Heap.get?_update_other _ _ (Ne.symm h2)).trans (hs.extBut b o h1 (keep b o e))
 obtain ⟨o', ho', hc', hd'⟩ := hit'
 refine wpAny_pure ⟨plainId_quiet PySem.F.plain_min_loop _, min_loop (A := A) (C := C) (n := n) hA (by lia) hlI hSI hlS hz ps.length 0 _ v p _ (by rfl) (by exact Nat.le_of_ble_eq_true rfl) ⟨o', (Heap.get?_update_other _ _ hSI).trans ho', hc', hd'⟩ ((Heap.get?_update_other _ _ (Ne.symm hlS)).trans hl') (hvs.keep (.of_keep keep3)) (hvv.keep (.of_keep keep3)) (Heap.get?_update_self _ hS' rfl) fun v' h'' hv' hk'' => ?_⟩
 have keep4 : ∀ b o, s.heap.get? b = some o → h''.get? b = some o := fun b o e => by
  have h1 : b ≠ I := fun q => by rw [q, fresh I (.inl rfl)] at e; cases e
  have h2 : b ≠ SS := fun q => by rw [q, fresh SS (.inr rfl)] at e; cases e
  exact hk'' b o h1 h2 (keep3 b o e)
 exact ⟨_, m, H, hv', S.more (tk := s.toks) keep4, .more (tk := s.toks) keep4, h⟩
theorem CV_sorted_dict (B : Bs C.h₀ K mg mb) {d : Addr} {kvs : List (Int × V)} {ep : Nat} (hA : A.handled = none) (hd : H d = some (.dict kvs ep)) (h64 : kvs.length < 64)
  (h : ∀ (D : Addr) (ms : List Int), H D = none → C.h₀.get? D = none → ms.Perm (kvs.map (·.1)) → ms.Pairwise (· ≤ ·) → Q (.ref D) m (H.set D (.list (ms.map .int)))) : CV C A (.con (.builtin "sorted")) [.ref d] [] m H Q := fun s rf rs rkw S hf hva hk => by
 have := hk.nil_inv; subst this
 refine rE hf.con_inv ?_
 refine eEA (qax hva) fun x zz1 hx => ?_; subst zz1
 refine rE hx.ref_inv ?_
 refine eEA (S.toHS.dict hd) fun rs hD hrs => ?_
 have hrl := qaq hrs
 refine Calls.call_function_entry kind_sorted plain_sorted entry_sorted (args_sorted1 _) ?_
 unfold Builtin.«sorted»
 refine wpAny_bind (m := checkCount "sorted" 1 1 _) (wpAny_pure ?_)
 refine wpAny_bind (kdu_collect (A := A.in1) (kdl_dict (knd := intKind C.prog C.w) (kvs := rawOf kvs rs) (B.sysm S.toHS hd)) hA hD (by refine rE hrl (rE sizeLine_eq ?_); lia) fun h₁ tk acc keep hacc => ?_)
 have hal : acc.toList.length = kvs.length := by refine rE Array.length_toList (rE hacc.1 (rE hrl rfl))
 have hints : IntsAre acc.toList (kvs.map (·.1)) := by
  have e : acc.toList.map numOf = kvs.map (·.1) := by
   refine List.ext_getElem? fun i => ?_
   refine rE List.getElem?_map (rF (qcz hrs) (rE List.getElem?_map ?_))
   cases q : acc[i]? with
   | none =>
    have h1 := Array.getElem?_eq_none_iff.mp q
    refine rE Array.getElem?_toList (rE q (rE (List.getElem?_eq_none (by rw [← hacc.1]; exact h1)) ?_)); rfl
   | some v =>
    obtain ⟨k, x, e1, e2⟩ := hacc.2 i v q
    obtain ⟨t, rfl⟩ := Value.isInt_shape e2
    refine rE Array.getElem?_toList (rE q (rE e1 ?_)); rfl
  refine rF e ?_
  refine intsAre_map _ fun v hv => ?_
  obtain ⟨i, hi, rfl⟩ := List.mem_iff_getElem.mp hv
  obtain ⟨k, x, e1, e2⟩ := hacc.2 i acc.toList[i] (by refine rF Array.getElem?_toList (rE (List.getElem?_eq_getElem hi) rfl))
  obtain ⟨t, ht⟩ := Value.isInt_shape e2
  exact ⟨_, t, ht⟩
 refine wpAny_bind (wpAny_newList ?_ (by refine rE hal (rE sizeLine_eq ?_); lia))
 have hoL : (h₁.push (seqObj "list" acc.toList.toArray 0)).get? h₁.objs.size = some (seqObj "list" acc.toList.toArray 0) := Heap.get?_push_size _ rfl
 show wpAny _ _ _ _ _ { s with heap := h₁.push (seqObj "list" acc.toList.toArray 0), toks := tk }
 have hDn : s.heap.get? h₁.objs.size = none := by
  cases q : s.heap.get? h₁.objs.size with
  | none => rfl
  | some o => exact absurd (Heap.lt_size (keep _ _ q)) (Nat.lt_irrefl _)
 refine wpAny_bind (wpAny_holding (wpAny_call_entry (s := { s with heap := h₁.push (seqObj "list" acc.toList.toArray 0), toks := tk }) slot_list_sort ⟨_, hoL, rfl⟩ entry_list_sort (list_sort_tree (s := { s with heap := h₁.push (seqObj "list" acc.toList.toArray 0), toks := tk }) hoL hints (by refine rE hal ?_; exact h64) fun out ns' a1 a2 a3 => ⟨_, rfl, ?_⟩) (args_list_sort _)))
 refine eE (sortedHeap_at (vs := acc.toList) (out := out) hoL) fun e hE => ?_
 have keep2 : ∀ b o, s.heap.get? b = some o → (sortedHeap (h₁.push (seqObj "list" acc.toList.toArray 0)) h₁.objs.size acc.toList out).get? b = some o := fun b o hb => by
  have hb' := keep b o hb
  have hlt := Heap.lt_size hb'
  refine rE (sortedHeap_old (Nat.ne_of_lt hlt) (by rw [size_push']; exact Nat.lt_succ_of_lt hlt)) ?_
  exact Heap.get?_push_of_some _ hb'
 have S2 : St C m H { s with heap := sortedHeap (h₁.push (seqObj "list" acc.toList.toArray 0)) h₁.objs.size acc.toList out, toks := tk } := S.more keep2
 have hDb := S.freshb' hDn
 have S3 := S2.toHS.adopt (c := .list (ns'.map .int)) hDb hE ⟨out, e, rfl, ints_vrs a1⟩
 have a4 : AfterC H s (H.set h₁.objs.size (.list (ns'.map .int))) { s with heap := sortedHeap (h₁.push (seqObj "list" acc.toList.toArray 0)) h₁.objs.size acc.toList out, toks := tk } := (AfterC.more keep2).adopt hDn
 have hDH : H h₁.objs.size = none := by
  cases q : H h₁.objs.size with
  | none => rfl
  | some c => obtain ⟨_, o, ho, _⟩ := S.own _ c q; rw [hDn] at ho; cases ho
 exact wpAny_pure ⟨_, rfl, _, m, _, .ref, S.called S3 a4, a4.after, h _ ns' hDH hDb a2 a3⟩
end
end
end Mine
end
section
open PySem PySem.Calls PySem.W PyProof.Rows
set_option maxRecDepth 100000
namespace Mine
noncomputable section
noncomputable def freedO : Obj := { cls := .none, data := .freed }
noncomputable def holes (h : Heap) : List Addr → Heap
 | [] => h
 | a :: as => (holes h as).update a fun _ => freedO
theorem qc5 {h : Heap} : ∀ {as : List Addr} {b : Addr}, (holes h as).get? b = if b ∈ as then none else h.get? b
 | [], b => by rfl
 | a :: as, b => by
  show ((holes h as).update a fun _ => freedO).get? b = _
  by_cases e : a = b
  ·subst e
   refine rE (if_pos List.mem_cons_self) ?_
   cases q : ((holes h as).update a fun _ => freedO).get? a with
   | none => rfl
   | some o =>
    refine eA (Heap.get?_some_iff.mp q) fun h1 h2 => ?_
    have h3 : ((holes h as).objs.modify a fun _ => freedO)[a]? = some o := by
     generalize holes h as = hh at h1 ⊢
     cases hh; exact h1
    rw [Array.getElem?_modify, if_pos rfl] at h3
    refine eEA (Option.map_eq_some_iff.mp h3) fun x _ hx => ?_
    rw [← hx] at h2; cases h2
  ·refine rE (Heap.get?_update_other _ _ e) (rE qc5 ?_)
   by_cases q : b ∈ as
   ·refine rE (if_pos q) (rE (if_pos (List.mem_cons_of_mem _ q)) rfl)
   ·refine rE (if_neg q) (rE (if_neg (fun r => (List.mem_cons.mp r).elim (fun r => e r.symm) q)) rfl)
noncomputable abbrev Cx.ro (C : Cx) (g : Heap) : Cx := { C with h₀ := g }
noncomputable abbrev noH : CH := fun _ => none
noncomputable abbrev Cx.bad (C : Cx) : List Addr := C.env.locals :: C.fr.filterMap (·.frame)
section
variable {C : Cx} {A : Around} {m : Loc} {H : CH} {s : Shared} {K : Frag} {mg mb : Str → Option Value}
theorem Bs.ro (B : Bs C.h₀ K mg mb) {g : Heap} (k : ∀ b o, C.h₀.get? b = some o → g.get? b = some o) : Bs (C.ro g).h₀ K mg mb where
 X := B.X.keeps k
 lim := B.lim.keeps k
 g := B.g.keeps k
 b := B.b.keeps k
 boot := B.boot
 sys := let ⟨o, e⟩ := B.sys; ⟨o, k _ _ e⟩
 bm := let ⟨bm, ob, h1, h2, h3, r⟩ := B.bm; ⟨bm, ob, h1, h2, k _ _ h3, r⟩
theorem AOK.ro {n : Nat} (h : AOK C A n) (g : Heap) : AOK (C.ro g) A n := ⟨h.handled, h.depth, h.units, h.frames⟩
structure RoOk (C : Cx) (H : CH) (s : Shared) (g : Heap) : Prop where
 sub : ∀ b o, g.get? b = some o → s.heap.get? b = some o
 base : ∀ b o, C.h₀.get? b = some o → g.get? b = some o
 own : ∀ a c o, H a = some c → s.heap.get? a = some o → g.get? a = some o
 imm : ∀ b o, Imm o → s.heap.get? b = some o → g.get? b = some o
 loc : g.get? C.env.locals = none
 frs : ∀ e ∈ C.fr, ∀ f, e.frame = some f → g.get? f = none
theorem St.roOk (S : St C m H s) : RoOk C H s (holes s.heap C.bad) := by
 have bad : ∀ b, b ∈ C.bad → C.h₀.get? b = none ∧ H b = none ∧ ∀ o, s.heap.get? b = some o → ∃ es ep, o.data = .dict es ep := by
  intro b hb
  rcases List.mem_cons.mp hb with rfl | hb
  ·refine ⟨S.locb, S.loc, fun o ho => ?_⟩
   refine eEA S.ns fun mr zz1 _ => ?_; obtain ⟨o', es, ep, ho', hd, _⟩ := zz1
   rw [ho] at ho'; cases ho'
   exact ⟨es, ep, hd⟩
  ·refine eEA (List.mem_filterMap.mp hb) fun e he hf => ?_
   obtain ⟨_, _, _, f, o', es, ep, hf', ho', hd, hn, hb'⟩ := S.frs e he
   rw [hf] at hf'; cases hf'
   exact ⟨hb', hn, fun o ho => by rw [ho] at ho'; cases ho'; exact ⟨es, ep, hd⟩⟩
 have at_ : ∀ b, b ∉ C.bad → (holes s.heap C.bad).get? b = s.heap.get? b := fun b hb => by refine rE qc5 (rE (if_neg hb) rfl)
 have off : ∀ b, b ∈ C.bad → (holes s.heap C.bad).get? b = none := fun b hb => by refine rE qc5 (rE (if_pos hb) rfl)
 refine ⟨fun b o e => ?_, fun b o e => ?_, fun a c o hc e => ?_, fun b o i e => ?_, off _ List.mem_cons_self, fun e he f hf => off f (List.mem_cons_of_mem _ (List.mem_filterMap.mpr ⟨e, he, hf⟩))⟩
 ·rw [qc5] at e
  split at e
  ·cases e
  ·exact e
 ·refine rE (at_ b fun hb => by rw [(bad b hb).1] at e; cases e) ?_; exact S.base b o e
 ·refine rE (at_ a fun hb => by rw [(bad a hb).2.1] at hc; cases hc) ?_; exact e
 ·refine rE (at_ b fun hb => by obtain ⟨es, ep, hd⟩ := (bad b hb).2.2 o e; exact i.2.2.1 es ep hd) ?_; exact e
variable {g : Heap}
theorem RoOk.start (G : RoOk C H s g) (S : St C m H s) : St (C.ro g) m noH s where
 base := G.sub
 own := fun a c e => by cases e
 gens := S.gens
 ns := S.ns
 loc := rfl
 locb := G.loc
 frs := fun e he => by
  obtain ⟨a1, a2, a3, f, o, es, ep, hf, ho, hd, hn, hb⟩ := S.frs e he
  exact ⟨a1, a2, a3, f, o, es, ep, hf, ho, hd, rfl, G.frs e he f hf⟩
theorem RoOk.list (G : RoOk C H s g) (S : St C m H s) {l : Addr} {xs : List V} (hl : LAt C H l xs) : LAt (C.ro g) noH l xs := by
 have k : TupKeep s.heap g := fun b o i e => G.imm b o i e
 cases hl with
 | own h =>
  obtain ⟨_, o, ho, items, n, rfl, hv⟩ := S.own l _ h
  exact .base items n (G.own _ _ _ h ho) (hv.keep k)
 | base items n h hv =>
  exact .base items n (G.base _ _ h) ((hv.keep (.of_keep S.base)).keep k)
theorem RoOk.finish (G : RoOk C H s g) (S : St C m H s) {m₂ : Loc} {s' : Shared} (T : St (C.ro g) m₂ noH s') (a : After (C.ro g) noH s noH s') : St C m₂ H s' ∧ After C H s H s' := by
 have k : TupKeep s.heap s'.heap := fun b o i e => T.base b o (G.imm b o i e)
 refine ⟨⟨⟨fun b o e => T.base b o (G.base b o e), fun b c hc => ?_, T.gens⟩, T.ns, S.loc, S.locb, fun e he => ?_⟩, ⟨fun b o hb _ e => a.stay b o hb rfl e, fun b o hn _ => hn, a.there, rfl, a.os⟩⟩
 ·obtain ⟨h1, o, ho, hr⟩ := S.own b c hc
  exact ⟨h1, o, T.base b o (G.own b c o hc ho), hr.keep k⟩
 ·obtain ⟨a1, a2, a3, f, o, es, ep, hf, ho, hd, _, hb⟩ := T.frs e he
  obtain ⟨_, _, _, f', o', _, _, hf', _, _, hn', hb'⟩ := S.frs e he
  rw [hf] at hf'; cases hf'
  exact ⟨a1, a2, a3, f, o, es, ep, hf, ho, hd, hn', hb'⟩
end
end
end Mine
end
section
open PySem PySem.Calls PySem.W PyProof.Rows
set_option maxRecDepth 100000
namespace Mine
noncomputable section
noncomputable def FlatV (v : V) : Prop := ∀ h h' r, VR h v r → VR h' v r
theorem FlatV.int {i : Int} : FlatV (.int i) := fun h h' r x => by (refine eE x.int_inv fun t zz1 => ?_; subst zz1); exact .int
theorem FlatV.ref {a : Addr} : FlatV (.ref a) := fun h h' r x => by refine rE x.ref_inv ?_; exact .ref
section
variable {C : Cx} {A : Around} {m : Loc} {H : CH} {s : Shared}
structure ZipI (C : Cx) (g : Heap) (s : Shared) (m₂ : Loc) (z TI TO i1 i2 l1 l2 : Addr) (i : Nat) (s' : Shared) : Prop where
 st : St (C.ro g) m₂ noH s'
 af : After (C.ro g) noH s noH s'
 zip : IsZip s'.heap z TI TO .none
 ti : IsPair s'.heap TI (.ref i1) (.ref i2)
 to : ∃ a b, IsPair s'.heap TO a b
 it1 : s'.heap.IsListIter i1 l1 i
 it2 : s'.heap.IsListIter i2 l2 i
theorem ro_zip {g : Heap} {z TO i1 i2 : Addr} {m₂ : Loc} {s₁ s' : Shared} {h' : Heap} {tk : Tok} (hflat : ∀ x v, m₂.lookup x = some v → FlatV v) (T : St (C.ro g) m₂ noH s') (a : After (C.ro g) noH s₁ noH s') (new : ∀ b, b = z ∨ b = TO ∨ b = i1 ∨ b = i2 → s₁.heap.get? b = none) (hg : ∀ b o, g.get? b = some o → s₁.heap.get? b = some o)
  (hL : s₁.heap.get? C.env.locals ≠ none) (hfr : ∀ e ∈ C.fr, ∀ f, e.frame = some f → s₁.heap.get? f ≠ none)
  (hk : ∀ c o, c ≠ z → c ≠ TO → c ≠ i1 → c ≠ i2 → s'.heap.get? c = some o → h'.get? c = some o) : St (C.ro g) m₂ noH { s' with heap := h', toks := tk } ∧ After (C.ro g) noH s₁ noH { s' with heap := h', toks := tk } := by
 have old : ∀ b o, s₁.heap.get? b ≠ none → s'.heap.get? b = some o → h'.get? b = some o := fun b o hb e =>
  hk b o (fun q => hb (new b (.inl q))) (fun q => hb (new b (.inr (.inl q)))) (fun q => hb (new b (.inr (.inr (.inl q))))) (fun q => hb (new b (.inr (.inr (.inr q))))) e
 refine eEA T.ns fun mr hn hkn => ?_
 refine ⟨⟨⟨fun b o e => old b o (by refine rE (hg b o e) ?_; simp) (T.base b o e), fun _ _ e => (by cases e), T.gens⟩, ⟨mr, hn.at' fun o e => old _ o hL e, fun x v e => ?_⟩, rfl, T.locb, fun e he => ?_⟩, ⟨fun b o hb _ e => ?_, fun _ _ _ _ => rfl, fun b o e => ?_, rfl, a.os⟩⟩
 ·obtain ⟨r, hr, hv⟩ := hkn x v e
  exact ⟨r, hr, hflat x v e _ _ _ hv⟩
 ·obtain ⟨a1, a2, a3, f, o, es, ep, hf, ho, hd, hn', hb⟩ := T.frs e he
  exact ⟨a1, a2, a3, f, o, es, ep, hf, old f o (hfr e he f hf) ho, hd, hn', hb⟩
 ·refine eEA (a.stay b o hb rfl e) fun o' ho' k => ?_
  exact ⟨o', old b o' (by refine rE e ?_; simp) ho', k⟩
 ·refine eE (a.there b o e) fun o' ho' => ?_
  exact ⟨o', old b o' (by refine rE e ?_; simp) ho'⟩
inductive ZipP (C : Cx) (A : Around) (n : Nat) (ts : List PySem.Expr) (tk0 : Nat) (tp : Pos) (body : List Stmt) (Q : Fl → Loc → CH → Prop) (vs : List V) (m₂ : Loc) (H₂ : CH) : Prop
 | mk (l1 l2 : Addr) (xs ys : List Int) (m₃ : Loc) (hvs : vs = [.ref l1, .ref l2]) (hl1 : LAt C H₂ l1 (List.map V.int xs)) (hl2 : LAt C H₂ l2 (List.map V.int ys)) (hlen : xs.length = ys.length) (hsub : Sub m₃ m₂) (hflat : ∀ x v, m₃.lookup x = some v → FlatV v)
   (hbody : ∀ g, AOK (C.ro g) A n → (∀ b o, C.h₀.get? b = some o → g.get? b = some o) → (∀ l zs, LAt C H₂ l zs → LAt (C.ro g) noH l zs) → ∀ (k : Nat) (x y : Int), xs[k]? = some x → ys[k]? = some y → ASG (C.ro g) A (.Tuple ts tk0 tp) (.tup [.int x, .int y]) m₃ noH fun m₄ H₄ => H₄ = noH ∧ EX (C.ro g) A body m₄ noH fun fl m₅ H₅ => fl = .next ∧ H₅ = noH ∧ Sub m₃ m₅)
   (hQ : Q .next m₃ H₂)
set_option maxHeartbeats 1000000 in
theorem ES_for_zip {ts : List PySem.Expr} {tk0 : Nat} {tp : Pos} {func : PySem.Expr} {args : List PySem.Expr} {body : List Stmt} {p cp : Pos} {Q : Fl → Loc → CH → Prop} {n : Nat} (hAK : AOK C A n)
  (h : EV C A func m H fun f m₁ H₁ => f = .con (.type "zip") ∧ EL C A args m₁ H₁ fun vs m₂ H₂ => ZipP C A n ts tk0 tp body Q vs m₂ H₂)
  (hst : autoParam (NoLone C args) Mine.syn2)
  (he : autoParam (eval (.Call func args [] cp) C.env = (do callWith cp (← eval func C.env) [] (backTo cp (starEach args C.env)) (backToKw cp (keywordEach [] C.env)))) Mine.syn1)
  (hs : autoParam (∀ x, foldedSetIterable (.Call func args [] cp) C.env x = pure x) Mine.syn2) : ES C A (.For (.Tuple ts tk0 tp) (.Call func args [] cp) body [] p) m H Q := fun s S => by
 have hA := hAK.handled
 refine wpAny_For ?_ hs
 refine rE he ?_
 refine wpAny_bind (wpAny_mono (h s S) ?_ fun _ _ x => x)
 rintro rf s₁ ⟨f, m₁, H₁, vf, S₁, af₁, rfl, h₁⟩
 refine rE vf.con_inv ?_
 refine qbi (qcb h₁ (hst cp) S₁ ?_)
 rintro rs s₂ ⟨vs, m₂, H₂, vr, S₂, af₂, l1, l2, xs, ys, m₃, rfl, hl1, hl2, hlen, hsub, hflat, hbody, hQ⟩
 refine ⟨.machine, Looks.of_pure rfl, ?_⟩
 refine eEEAA (qbm vr) fun a1 a2 zz2 v1 v2 => ?_; subst zz2
 refine rE v1.ref_inv (rE v2.ref_inv ?_)
 obtain ⟨it1, n1, hI1, hv1, hz1⟩ := S₂.toHS.list hl1
 obtain ⟨it2, n2, hI2, hv2, hz2⟩ := S₂.toHS.list hl2
 rw [List.length_map] at hz1 hz2
 show wpAny _ _ (call (.type "zip") [.ref l1, .ref l2]) _ _ s₂
 refine call_zip_2 hI1.isList hI2.isList fun h₃ z1 z2 z3 z4 z5 z6 keep => ?_
 have fresh : ∀ b, s₂.heap.objs.size ≤ b → s₂.heap.get? b = none := fun b hb => qbu hb
 generalize hz : (s₂.heap.objs.size + 4 : Nat) = z at *
 generalize hTI : (s₂.heap.objs.size + 2 : Nat) = TI at *
 generalize hTO : (s₂.heap.objs.size + 3 : Nat) = TO at *
 generalize hi1 : (s₂.heap.objs.size : Nat) = i1 at *
 generalize hi2 : (i1 + 1 : Nat) = i2 at *
 have hlt1 : l1 < i1 := by refine rF hi1 ?_; exact Heap.lt_size hI1
 have hlt2 : l2 < i1 := by refine rF hi1 ?_; exact Heap.lt_size hI2
 have D : ZipApart z TI TO i1 i2 l1 l2 := by
  subst hz hTI hTO hi2
  have ne : ∀ {l : Addr} {k : Nat}, l < i1 → l ≠ (i1 + k : Nat) := fun {l k} h => Nat.ne_of_lt (Nat.lt_of_lt_of_le h (Nat.le_add_right _ _))
  refine ⟨?_, ?_, ?_, ?_, ?_, ?_, ?_, ?_, ?_, ?_, ne hlt1, ne hlt1, Nat.ne_of_lt hlt1, ne hlt1, ne hlt2, ne hlt2, Nat.ne_of_lt hlt2, ne hlt2⟩ <;> first | exact Nat.ne_of_lt (by lia) | exact Nat.ne_of_gt (by lia)
 have newz : ∀ b, b = z ∨ b = TO ∨ b = i1 ∨ b = i2 → s₂.heap.get? b = none := fun b hb => fresh b (by
  rcases hb with rfl | rfl | rfl | rfl
  ·refine rF hz ?_; exact Nat.le_add_right _ _
  ·refine rF hTO ?_; exact Nat.le_add_right _ _
  ·exact Nat.le_refl _
  ·refine rF hi2 ?_; exact Nat.le_succ _)
 have G := S₂.roOk
 generalize holes s₂.heap C.bad = g at G
 have T₀ := (G.start S₂).sub hsub
 have T₃ : St (C.ro g) m₃ noH { s₂ with heap := h₃, toks := s₂.toks } := T₀.more keep
 have a₃ : After (C.ro g) noH s₂ noH { s₂ with heap := h₃, toks := s₂.toks } := (AfterC.more (tk := s₂.toks) keep).after
 have lg1 := hI1.isList
 refine eE S₂.at_loc fun oL hoL => ?_
 have hL0 : s₂.heap.get? C.env.locals ≠ none := by refine rE hoL ?_; simp
 have hfr0 : ∀ e ∈ C.fr, ∀ f, e.frame = some f → s₂.heap.get? f ≠ none := fun e he f hf => by
  obtain ⟨_, _, _, f', o, es, ep, hf', ho, _⟩ := S₂.frs e he
  rw [hf] at hf'; cases hf'
  refine rE ho ?_; simp
 have B3 := hbody g (hAK.ro g) G.base (fun l zs hl => G.list S₂ hl)
 have g1 := G.list S₂ hl1
 have g2 := G.list S₂ hl2
 refine wpAny_noRaise (wpAny_pyIter_zip z1 ?_)
 refine codeAny_mono (codeAny_forLoop_any (fun k s' => ∃ i, k = xs.length + 1 - i ∧ i ≤ xs.length ∧ ZipI C g s₂ m₃ z TI TO i1 i2 l1 l2 i s') (R := fun r s' => ∃ i, r = .ok .next ∧ ∃ s₀ h₄ tk₄, ZipI C g s₂ m₃ z TI TO i1 i2 l1 l2 i s₀ ∧ s' = { s₀ with heap := h₄, toks := tk₄ } ∧ ∀ c o, c ≠ z → c ≠ TO → c ≠ i1 → c ≠ i2 → s₀.heap.get? c = some o → h₄.get? c = some o) ?_ (xs.length + 1) ⟨0, rfl, Nat.zero_le _, T₃, a₃, z1, z2, ⟨_, _, z3⟩, z4, z5⟩) ?_
 ·rintro k s' ⟨i, rfl, hi, Z⟩
  obtain ⟨b1, n1', hB1, hbv1, hbz1⟩ := Z.st.toHS.list g1
  obtain ⟨b2, n2', hB2, hbv2, hbz2⟩ := Z.st.toHS.list g2
  rw [List.length_map] at hbz1 hbz2
  refine eEE Z.to fun ta tb hto => ?_
  rcases Nat.lt_or_ge i xs.length with hlt | hge
  ·have hx : (xs.map V.int)[i]? = some (.int xs[i]) := by refine rE List.getElem?_map (rE (List.getElem?_eq_getElem hlt) ?_); rfl
   have hy : (ys.map V.int)[i]? = some (.int (ys[i]'(by lia))) := by refine rE List.getElem?_map (rE (List.getElem?_eq_getElem (by omega)) ?_); rfl
   refine eEA (hbv1.get hx) fun rx hrx hvx => ?_
   refine eEA (hbv2.get hy) fun ry hry hvy => ?_
   rw [Array.getElem?_toList] at hrx hry
   refine wpAny_noRaise (wpAny_pyNext_zip_item D Z.zip Z.ti hto Z.it1 Z.it2 (IsL.isList hB1) (IsL.isList hB2) hrx hry fun h₄ c1 c2 c3 c4 c5 c6 hk => ?_)
   dsimp only
   refine eA (ro_zip (tk := s'.toks) hflat Z.st Z.af newz G.sub hL0 hfr0 hk) fun T₄ a₄ => ?_
   have hTi4 : IsPair h₄ TI (.ref i1) (.ref i2) := hk _ _ D.TIz D.TITO D.TIi1 D.TIi2 Z.ti
   refine wpAny_noRaise (wpAny_letOwnedTupleGo_zip (s := { s' with heap := h₄ }) c1 fun h₅ d1 hs5 => ?_)
   have hk5 : ∀ c o, c ≠ z → c ≠ TO → c ≠ i1 → c ≠ i2 → h₄.get? c = some o → h₅.get? c = some o := fun c o q _ _ _ e => hs5.extBut c o q e
   refine eA (ro_zip (tk := s'.toks) hflat T₄ a₄ newz G.sub hL0 hfr0 hk5) fun T₅ a₅ => ?_
   have hTz : s'.heap.objs.size ≠ z := fun e => by
    have := Heap.lt_size Z.zip
    rw [← e] at this; exact Nat.lt_irrefl _ this
   have htup : VR h₅ (.tup [.int xs[i], .int (ys[i]'(by lia))]) (.ref s'.heap.objs.size) := by
    refine eE hvx.int_inv fun t1 zz1 => ?_; subst zz1
    refine eE hvy.int_inv fun t2 zz1 => ?_; subst zz1
    exact .tup (hs5.extBut _ _ hTz c5) (.cons .int (.cons .int .nil))
   refine wpAny_noRaise (wpAny_mono (B3 i xs[i] (ys[i]'(by omega)) (List.getElem?_eq_getElem hlt) (List.getElem?_eq_getElem (by omega)) { s' with heap := h₅, toks := s'.toks } _ T₅ htup) ?_ fun _ _ x => x)
   rintro _ s₆ ⟨m₆, H₆, T₆, a₆, rfl, h₆⟩
   refine wpAny_noRaise (wpAny_mono (h₆ s₆ T₆) ?_ fun _ _ x => x)
   rintro fl s₇ ⟨fl', m₇, H₇, hf, T₇, a₇, rfl, rfl, hsub7⟩
   cases hf
   have aa := a₆.then T₆ a₇
   have stay : ∀ {c o}, c ≠ C.env.locals → (∀ es ep, o.data ≠ .dict es ep) → h₅.get? c = some o → s₇.heap.get? c = some o := fun {c o} hc hnd e => by
    refine eEA (aa.stay c o hc rfl e) fun o' ho' k => ?_
    rw [k.exact hnd] at ho'; exact ho'
   have nl : ∀ b, s₂.heap.get? b = none → b ≠ C.env.locals := fun b hb e => hL0 (e ▸ hb)
   have nTI : TI ≠ C.env.locals := nl TI (fresh TI (by refine rF hTI ?_; exact Nat.le_add_right _ _))
   have k5 : ∀ {c o}, c ≠ z → h₄.get? c = some o → h₅.get? c = some o := fun {c o} q e => hs5.extBut c o q e
   obtain ⟨o3, q3, r3, u3⟩ := c3
   obtain ⟨o4, q4, r4, u4⟩ := c4
   refine ⟨xs.length + 1 - (i + 1), by grind, i + 1, rfl, hlt, T₇.sub hsub7, (a₅.then T₅ aa), stay (nl z (newz z (.inl rfl))) (by intro _ _ e; cases e) d1, stay nTI (by intro _ _ e; cases e) (k5 D.TIz hTi4), ⟨_, _, stay (nl TO (newz TO (.inr (.inl rfl)))) (by intro _ _ e; cases e) (k5 D.TOz c2)⟩,
    ⟨o3, stay (nl i1 (newz i1 (.inr (.inr (.inl rfl))))) (by refine rE u3 ?_; intro _ _ e; cases e) (k5 D.i1z q3), r3, u3⟩, ⟨o4, stay (nl i2 (newz i2 (.inr (.inr (.inr rfl))))) (by refine rE u4 ?_; intro _ _ e; cases e) (k5 D.i2z q4), r4, u4⟩⟩
  ·have hie : i = xs.length := by exact Nat.le_antisymm hi hge
   refine wpAny_noRaise (wpAny_pyNext_zip_end hA D Z.zip Z.ti hto Z.it1 Z.it2 (IsL.isList hB1) (IsL.isList hB2) (.inl (Array.getElem?_eq_none (by lia))) fun h₄ hk => ?_)
   exact wpAny_pure ⟨i, rfl, s', h₄, s'.toks, Z, rfl, hk⟩
 ·rintro r s' ⟨i, rfl, s₀, h₄, tk₄, Z, rfl, hk⟩
  refine eA (ro_zip (tk := tk₄) hflat Z.st Z.af newz G.sub hL0 hfr0 hk) fun T₄ a₄ => ?_
  refine eA (G.finish S₂ T₄ a₄) fun T a => ?_
  exact ⟨.next, m₃, H₂, rfl, T, (af₁.then S₁ af₂).then S₂ a, hQ⟩
end
end
end Mine
end
section
open PySem PySem.Calls PySem.W PyProof.Rows
set_option maxRecDepth 100000
namespace Mine
noncomputable section
section
variable {C : Cx} {A : Around} {m : Loc} {H : CH} {s : Shared}
theorem ES_swap2 {ts : List PySem.Expr} {k : Nat} {tpos pos : Pos} {value : PySem.Expr} {x y : Str} {Q : Fl → Loc → CH → Prop} (hA : A.handled = none) (h : EV C A value m H fun v m₁ H₁ => ∃ v1 v2, v = .tup [v1, v2] ∧ Q .next ((x, v1) :: (y, v2) :: m₁) H₁)
  (hw : autoParam (swappedStores [.Tuple ts k tpos] value C.env = pure (some [x, y])) Mine.syn1) (hs : autoParam (swapsWithSole [.Tuple ts k tpos] value pos.line C.env = pure false) Mine.syn1)
  (hx : autoParam (C.env.kindOf x = some .local) Mine.syn1) (hy : autoParam (C.env.kindOf y = some .local) Mine.syn1) (hp : autoParam ((C.env.scope.kind == .class || (C.env.scope.kind == .module && C.env.locals != C.env.globals)) = false) Mine.syn1) :
  ES C A (.Assign [.Tuple ts k tpos] value pos) m H Q := fun s S => by
 refine Assign_Tuple_swapped (names := [x, y]) (wpAny_mono (h s S) ?_ fun _ _ x => x) hs hw
 rintro a s₁ ⟨v, m₁, H₁, ra, S₁, af₁, v1, v2, rfl, h₁⟩
 obtain ⟨a, items, n, rfl, ho, hv⟩ := ra.tup_inv
 refine eEEAA (qbm hv) fun r1 r2 e hr1 hr2 => ?_
 have hl : items.size = 2 := by have := congrArg List.length e; simpa using this
 refine rE (show ([x, y] : List Str).length = items.size from hl.symm) ?_
 refine unpackItems_tuple hA ⟨_, ho, rfl, n, rfl⟩ fun h' he => ?_
 refine rE e ?_
 have kp : ∀ b o, s₁.heap.get? b = some o → h'.get? b = some o := fun b o e => he b o (Nat.ne_of_lt (Heap.lt_size e)) e
 have S' : St C m₁ H₁ { s₁ with heap := h' } := S₁.more (tk := s₁.toks) kp
 have af' : After C H₁ s₁ H₁ { s₁ with heap := h' } := .more (tk := s₁.toks) kp
 have tk' : TupKeep s₁.heap h' := .of_keep kp
 refine eEA S'.ns fun mr hn hk => ?_
 show wpAny (model C.prog C.w) A (assignInOrder [fun v => bindName C.env y v, fun v => bindName C.env x v] [r2, r1]) _ _ _
 refine wpAny_assignInOrder_more (wpAny_bindName (wpAny_storeName_local hy hn (fun h'' hn' hs' => ?_) hp))
 have S2 : St C ((y, v2) :: m₁) H₁ { s₁ with heap := h'', toks := s₁.toks + 1 } := S'.store (tk := s₁.toks + 1) (hr2.keep tk') hk hn' hs'
 have af2 : After C H₁ { s₁ with heap := h' } H₁ { s₁ with heap := h'', toks := s₁.toks + 1 } := .store (tk := s₁.toks + 1) hn' hs'
 have tk2 : TupKeep h' h'' := af2.tup S'
 refine eEA S2.ns fun mr2 hn2 hk2 => ?_
 refine wpAny_assignInOrder_more (wpAny_bindName (wpAny_storeName_local hx hn2 (fun h3 hn3 hs3 => ?_) hp))
 have S3 : St C ((x, v1) :: (y, v2) :: m₁) H₁ { s₁ with heap := h3, toks := s₁.toks + 1 + 1 } := S2.store (tk := s₁.toks + 1 + 1) ((hr1.keep tk').keep tk2) hk2 hn3 hs3
 have af3 : After C H₁ { s₁ with heap := h'', toks := s₁.toks + 1 } H₁ { s₁ with heap := h3, toks := s₁.toks + 1 + 1 } := .store (tk := s₁.toks + 1 + 1) hn3 hs3
 refine wpAny_assignInOrder_none ?_
 exact ⟨.next, _, H₁, rfl, S3, ((af₁.then S₁ af').then S' af2).then S2 af3, h₁⟩
end
end
end Mine
end
section
open PySem PySem.Calls PySem.W PyProof.Rows
set_option maxRecDepth 100000
namespace Mine
local macro_rules | `(tactic| walk_at "x") => do
 let l ← ("EX_asl EX_exs EX_ret EX_asn EX_brk EX_cnt EX_aug EX_nil SeqE.n SeqE.b SeqE.c SeqK.n ASGs_cons ASGs_nil ETs_cons ETs_nil ES_assign2 qdd ES_expr ES_ret ES_if ES_break ES_continue ES_aug_attr EV_bin EB_cmp EV_cmp EV_un EB_and EB_or EV_or EV_named EV_sub EV_meth EV_methL EV_call EV_attr EL_nil EL_cons EV_int EV_none EV_bool EV_tuple EV_if ASG_local ASG_sub ASG_attr O2_add O2_sub O2_lt O2_ge O2_eq O2_ne O2_iadd O2_isub O2_isNone O2_isNotNone EV_loc EB_val".splitOn " ").toArray.mapM fun n => `(Lean.Parser.Tactic.tacticSeq| refine $(Lean.mkIdent ("Mine." ++ n).toName) ?_)
 `(tactic| with_reducible first $[| $l]*)
local macro_rules | `(tactic| walk_at "xi") => `(tactic| (with_reducible refine EX_ifs ?_); repeat walk_at "x")
noncomputable section
section
noncomputable abbrev pv (p : Int × Int) : V := .tup [.int p.1, .int p.2]
noncomputable abbrev KK (P : Params) : Frag := hd12.heap_1 P
theorem g_len {P : Params} : nsIn (KK P) mainGlobals "len" = some none := by kernel_rfl
theorem b_len : bootBuiltins "len" = some (.builtin "len") := by kernel_rfl
end
section
noncomputable abbrev a_reduce : Addr := 66
noncomputable abbrev a_missing : Addr := 58
theorem g_missing {P : Params} : nsIn (KK P) mainGlobals "_initial_missing" = some (some (.ref a_missing)) := by kernel_rfl
theorem g_iter {P : Params} : nsIn (KK P) mainGlobals "iter" = some none := by kernel_rfl
theorem b_iter : bootBuiltins "iter" = some (.builtin "iter") := by kernel_rfl
section
variable {C : Cx} {A : Around} {m : Loc} {H : CH} {s : Shared} {mg mb : Str → Option Value} {P : Params}
theorem spec_reduceG {f init v : V} {c : CObj} {xs : List V} {ok : CH → Prop} (B : Bs C.h₀ (KK P) mg mb) {n : Nat} (hA : AOK C A (n + 1)) (it : ∀ env, Iters (C.at env) (A.deeper env) v H c xs ok) (hinit : (∃ i, init = .int i) ∨ init = V.none ∨ (∃ a c, init = .ref a ∧ H a = some c) ∨ ∃ l, init = .tup l)
  (J : Nat → V → CH → Prop) (h0 : J 0 init H) (hkp : ∀ env H', KP (C.at env) f H')
  (step : ∀ i v x H' env, AOK (C.at env) (A.deeper env) n → J i v H' → xs[i]? = some x → CALL (C.at env) (A.deeper env) f [v, x] [] H' fun v' H'' => J (i + 1) v' H'')
  (keep : ∀ i v H', J i v H' → ok H') :
  CALL C A (.con (.ref a_reduce)) [f, v, init] [] H (J xs.length) := by
 refine qci B (by with_unfolding_all rfl) (by with_unfolding_all rfl) hA (binds := [("function", f), ("sequence", v), ("initial", init)]) (.dflt (T := 59) (items := [.ref a_missing]) (n := 0) B (by with_unfolding_all rfl) fun h rs hv => ?_) (by with_unfolding_all rfl) rfl fun L hL hL0 hA' => ?_
 ·obtain ⟨a, b, c, rfl, ha, hb, hc⟩ := qbe hv
  exact ⟨_, [("function", a), ("sequence", b), ("initial", c)], by with_unfolding_all rfl, by with_unfolding_all rfl, rfl, .cons ha (.cons hb (.cons hc .nil))⟩
 repeat walk_at "x"
 refine EV_b B g_iter b_iter ?_
 repeat walk_at "x"
 refine ⟨qad, (it _).make fun I hI hI0 => ?_⟩
 repeat walk_at "x"
 walk_at "xi"
 refine EV_g B g_missing ?_
 refine O2_is_mark (B.X _ _ (by with_unfolding_all rfl : (KK P).lookup a_missing = some { cls := .type "object" })) (fun e => absurd (Value.type.inj e) (by decide)) ?_ ?_
 ·rcases hinit with h | h | ⟨a, c, h1, h2⟩ | h
  ·exact .inl h
  ·exact .inr (.inl h)
  ·exact .inr (.inr (.inl ⟨a, c, h1, by refine rE (CH.set_ne ((ne_at h2 hI))) ?_; exact h2⟩))
  ·exact .inr (.inr (.inr h))
 refine ⟨_, rfl, fun q => (by cases q), fun _ => ?_⟩
 repeat walk_at "x"
 refine qam (st := .For _ _ _ _ _) ?_
 refine ES_for_iters (it _) hI (by with_unfolding_all rfl) [("value", init), ("function", f)] (fun i m' H' => ∃ v, J i v H' ∧ m' = ([("value", v), ("function", f)] : Loc)) (.cons rfl (.cons rfl .nil)) ⟨init, h0, rfl⟩ ?_
 rintro i m' H' ⟨v, hJ, rfl⟩
 refine ⟨keep i v H' hJ, fun x hx => ?_, fun hi => ?_⟩
 ·repeat walk_at "x"
  refine ⟨hkp _ _, CV_of ((step i v x H' _ hA' hJ hx).mono ?_)⟩
  intro v' H'' hJ'
  repeat walk_at "x"
  exact ⟨[("value", v'), ("function", f)], .cons rfl (.cons rfl .nil), v', hJ', rfl⟩
 ·subst hi
  repeat walk_at "x"
  exact hJ
theorem spec_reduce {f init : V} {l : Addr} {xs : List V} (B : Bs C.h₀ (KK P) mg mb) {n : Nat} (hA : AOK C A (n + 1)) (hl : H l = some (.list xs)) (hinit : (∃ i, init = .int i) ∨ init = V.none ∨ (∃ a c, init = .ref a ∧ H a = some c) ∨ ∃ l, init = .tup l)
  (J : Nat → V → CH → Prop) (h0 : J 0 init H) (hkp : ∀ env H', KP (C.at env) f H')
  (step : ∀ i v x H' env, AOK (C.at env) (A.deeper env) n → J i v H' → xs[i]? = some x → CALL (C.at env) (A.deeper env) f [v, x] [] H' fun v' H'' => J (i + 1) v' H'')
  (keep : ∀ i v H', J i v H' → H' l = some (.list xs)) :
  CALL C A (.con (.ref a_reduce)) [f, .ref l, init] [] H (J xs.length) :=
 spec_reduceG B hA (fun env => iters_list hA.handled hl) hinit J h0 hkp step keep
end
end
section
noncomputable abbrev cNI : Addr := 85
noncomputable abbrev cTS : Addr := 182
noncomputable abbrev a_NIinit : Addr := 81
noncomputable abbrev a_TSinit : Addr := 118
noncomputable abbrev a_getinfo : Addr := 125
noncomputable abbrev a_add : Addr := 132
noncomputable abbrev a_prepare : Addr := 137
noncomputable abbrev qcq : Addr := 144
noncomputable abbrev a_isactive : Addr := 151
noncomputable abbrev a_done : Addr := 165
noncomputable abbrev a_findcycle : Addr := 172
theorem g_NI {P : Params} : nsIn (KK P) mainGlobals "_NodeInfo" = some (some (.ref cNI)) := by kernel_rfl
theorem k_makeNI {P : Params} : makeOk (KK P) cNI a_NIinit = true := by kernel_rfl
theorem k_makeTS {P : Params} : makeOk (KK P) cTS a_TSinit = true := by kernel_rfl
theorem k_keepNI {P : Params} : keepIn (KK P) (.ref cNI) = true := by kernel_rfl
theorem k_keepTS {P : Params} : keepIn (KK P) (.ref cTS) = true := by kernel_rfl
section
variable {C : Cx} {A : Around} {m : Loc} {H : CH} {s : Shared} {mg mb : Str → Option Value} {P : Params}
noncomputable abbrev niObj (d l : Addr) (np k : Int) : CObj := .inst cNI d [some (.int k), some (.int np), some (.ref l)]
inductive NIv (H : CH) (k : Int) (v : V) (H' : CH) : Prop
 | mk (x d l : Addr) (hv : v = .ref x) (hx : H x = none) (hd : H d = none) (hl : H l = none) (n1 : x ≠ d) (n2 : x ≠ l) (n3 : d ≠ l) (h1 : H' x = some (niObj d l 0 k)) (h2 : H' d = some (.idict [])) (h3 : H' l = some (.list [])) (h4 : ∀ b, b ≠ x → b ≠ d → b ≠ l → H' b = H b)
theorem spec_NIinit {x d : Addr} {k : Int} (B : Bs C.h₀ (KK P) mg mb) {n : Nat} (hA : AOK C A (n + 1)) (hx : H x = some (.inst cNI d [])) (hd : H d = some (.idict [])) :
  CALL C A (.con (.ref a_NIinit)) [.ref x, .int k] [] H fun v H' => v = V.none ∧ ∃ l, H l = none ∧ H' = (H.set l (.list [])).set x (niObj d l 0 k) := by
 have hxd : x ≠ d := ne_at hx hd
 refine CALL_K B (by with_unfolding_all rfl) (by with_unfolding_all rfl) hA .pos2 (by with_unfolding_all rfl) rfl fun L hL hL0 hA' => ?_
 repeat walk_at "x"
 refine qcu (p := 86) (i := 0) B hx hd ?_
 repeat walk_at "x"
 refine qcu (p := 87) (i := 1) B CH.set_same (by refine rE (CH.set_ne (Ne.symm hxd)) ?_; exact hd) ?_
 repeat walk_at "x"
 refine qby ?_
 repeat walk_at "x"
 refine ⟨by simp, fun l hl => ?_⟩
 rw [CH.set_set] at hl ⊢
 have hlx : x ≠ l := fun e => by rw [e, CH.set_same] at hl; cases hl
 have hlH : H l = none := by rw [← CH.set_ne (H := H) (c := _) (Ne.symm hlx)]; exact hl
 have hld : d ≠ l := ne_at hd hlH
 repeat walk_at "x"
 refine qcu (p := 88) (i := 2) B (by refine rE (CH.set_ne hlx) (rE CH.set_same rfl)) (by refine rE (CH.set_ne hld) (rE (CH.set_ne (Ne.symm hxd)) ?_); exact hd) ?_
 repeat walk_at "x"
 refine ⟨rfl, l, hlH, ?_⟩
 funext b
 by_cases hb : b = x
 ·subst hb; refine rE CH.set_same (rE CH.set_same ?_); rfl
 ·refine rE (CH.set_ne hb) (rE (CH.set_ne hb) ?_)
  by_cases hbl : b = l
  ·subst hbl; refine rE CH.set_same (rE CH.set_same rfl)
  ·refine rE (CH.set_ne hbl) (rE (CH.set_ne hbl) (rE (CH.set_ne hb) rfl))
theorem spec_makeNI {k : Int} (B : Bs C.h₀ (KK P) mg mb) {n : Nat} (hA : AOK C A (n + 2)) :
  CALL C A (.con (.ref cNI)) [.int k] [] H (NIv H k) := by
 refine CALL_make B k_makeNI fun x d rest kw hx hd hx0 hd0 hxd => ?_
 refine (spec_NIinit (k := k) B hA.under CH.set_same (by refine rE (CH.set_ne (Ne.symm hxd)) ?_; exact CH.set_same)).mono ?_
 rintro v H' ⟨rfl, l, hl, rfl⟩
 have hlx : l ≠ x := ne_at hl CH.set_same
 have hld : l ≠ d := ne_at hl ((CH.set_ne (Ne.symm hxd)).trans CH.set_same)
 refine ⟨rfl, x, d, l, rfl, hx, hd, by rw [CH.set_ne hlx, CH.set_ne hld] at hl; exact hl, hxd, Ne.symm hlx, Ne.symm hld, CH.set_same, ?_, ?_, ?_⟩
 ·refine rE (CH.set_ne (Ne.symm hxd)) (rE (CH.set_ne (Ne.symm hld)) (rE (CH.set_ne (Ne.symm hxd)) (rE CH.set_same rfl)))
 ·refine rE (CH.set_ne hlx) (rE CH.set_same rfl)
 ·intro b h1 h2 h3
  refine rE (CH.set_ne h1) (rE (CH.set_ne h3) (rE (CH.set_ne h1) (rE (CH.set_ne h2) rfl)))
end
end
section
inductive AEx2 (a : Prop) {α : Type} (P Q : α → Prop) : Prop
 | mk (h : a) (x : α) (hp : P x) (hq : Q x)
inductive Ex3 {α : Type} (P Q R : α → Prop) : Prop
 | mk (x : α) (hp : P x) (hq : Q x) (hr : R x)
inductive And3 (a b c : Prop) : Prop
 | mk (h1 : a) (h2 : b) (h3 : c)
structure TS where
 keys : List Int
 np : Int → Int
 sc : Int → List Int
 ready : Option (List Int)
 pass : Int
 fin : Int
noncomputable def TS.new : TS := ⟨[], fun _ => 0, fun _ => [], none, 0, 0⟩
noncomputable def upd {α : Type} (f : Int → α) (k : Int) (v : α) : Int → α := fun x => if x = k then v else f x
theorem qah {α : Type} {f : Int → α} {k : Int} {v : α} : upd f k v k = v := by simp [upd]
theorem qap {α : Type} {f : Int → α} {k x : Int} {v : α} (h : x ≠ k) : upd f k v x = f x := by simp [upd, h]
noncomputable def TS.touch (T : TS) (k : Int) : TS := if k ∈ T.keys then T else { T with keys := T.keys ++ [k], np := upd T.np k 0, sc := upd T.sc k [] }
noncomputable def TS.setNp (T : TS) (k v : Int) : TS := { T with np := upd T.np k v }
noncomputable def TS.link (T : TS) (p k : Int) : TS := { T with sc := upd T.sc p (T.sc p ++ [k]) }
noncomputable def TS.add (T : TS) (k : Int) (ps : List Int) : TS :=
 ps.foldl (fun T p => (T.touch p).link p k) ((T.touch k).setNp k ((T.touch k).np k + ps.length))
noncomputable def TS.prep (T : TS) : TS := { T with ready := some (T.keys.filter fun k => T.np k == 0) }
noncomputable def TS.out (T : TS) (ks : List Int) : TS := ks.foldl (fun T k => T.setNp k (-1)) T
noncomputable def TS.getReady (T : TS) (r : List Int) : TS := { T.out r with ready := some [], pass := T.pass + r.length }
noncomputable def TS.rel (T : TS) (x : Int) : TS := { T.setNp x (T.np x - 1) with ready := if T.np x - 1 = 0 then T.ready.map (· ++ [x]) else T.ready }
noncomputable def TS.done1 (T : TS) (k : Int) : TS := { (T.sc k).foldl TS.rel (T.setNp k (-2)) with fin := T.fin + 1 }
structure Lay where
 d : Addr
 n2i : Addr
 ep : Nat
 rd : Addr
 bA : Int → Addr
 bD : Int → Addr
 bL : Int → Addr
noncomputable def rdV (T : TS) (L : Lay) : V := match T.ready with | none => V.none | some _ => .ref L.rd
structure TSR (H : CH) (a : Addr) (T : TS) (L : Lay) : Prop where
 top : H a = some (.inst cTS L.d [])
 dict : H L.d = some (.idict [("_node2info", .ref L.n2i), ("_ready_nodes", rdV T L), ("_npassedout", .int T.pass), ("_nfinished", .int T.fin)])
 n2i : H L.n2i = some (.dict (T.keys.map fun k => (k, .ref (L.bA k))) L.ep)
 rdy : ∀ r, T.ready = some r → H L.rd = some (.list (r.map .int))
 node : ∀ k ∈ T.keys, H (L.bA k) = some (niObj (L.bD k) (L.bL k) (T.np k) k)
 nd : ∀ k ∈ T.keys, H (L.bD k) = some (.idict [])
 succ : ∀ k ∈ T.keys, H (L.bL k) = some (.list ((T.sc k).map .int))
 inj : ∀ k ∈ T.keys, ∀ k' ∈ T.keys, L.bL k = L.bL k' → k = k'
 rdn : ∀ k ∈ T.keys, T.ready ≠ none → L.bL k ≠ L.rd
 nodup : T.keys.Nodup
noncomputable def Foot (a : Addr) (T : TS) (L : Lay) (b : Addr) : Prop := b = a ∨ b = L.d ∨ b = L.n2i ∨ (T.ready ≠ none ∧ b = L.rd) ∨ ∃ k ∈ T.keys, b = L.bA k ∨ b = L.bD k ∨ b = L.bL k
noncomputable def FrameT (a : Addr) (H : CH) (T : TS) (L : Lay) (H' : CH) (T' : TS) (L' : Lay) : Prop := ∀ b, H b ≠ none → ¬ Foot a T L b → H' b = H b ∧ ¬ Foot a T' L' b
theorem FrameT.refl {a : Addr} {H : CH} {T : TS} {L : Lay} : FrameT a H T L H T L := fun _ _ h => ⟨rfl, h⟩
theorem FrameT.trans {a : Addr} {H H' H'' : CH} {T T' T'' : TS} {L L' L'' : Lay} (x : FrameT a H T L H' T' L') (y : FrameT a H' T' L' H'' T'' L'') : FrameT a H T L H'' T'' L'' := fun b hb hn => by
 obtain ⟨h1, h2⟩ := x b hb hn
 obtain ⟨h3, h4⟩ := y b (by refine rE h1 ?_; exact hb) h2
 exact ⟨h3.trans h1, h4⟩
theorem qac {H : CH} {a b : Addr} {c : CObj} {x y : CObj} (ha : H a = some x) (hb : H b = some y) (hxy : x ≠ y) : H.set a c b = some y := by
 refine rE (CH.set_ne (fun e => hxy (by rw [e, ha] at hb; exact Option.some.inj hb))) ?_; exact hb
theorem ni_inj {d l d' l' : Addr} {np np' k k' : Int} (h : niObj d l np k = niObj d' l' np' k') : k = k' := by
 injection h with h1 h2 h3
 simp at h3; exact h3.1
section
variable {H : CH} {a : Addr} {T : TS} {L : Lay}
theorem TSR.setNp (R : TSR H a T L) {k : Int} (hk : k ∈ T.keys) (v : Int) : TSR (H.set (L.bA k) (niObj (L.bD k) (L.bL k) v k)) a (T.setNp k v) L ∧ FrameT a H T L (H.set (L.bA k) (niObj (L.bD k) (L.bL k) v k)) (T.setNp k v) L := by
 have hn := R.node k hk
 refine ⟨⟨?_, ?_, ?_, ?_, ?_, ?_, ?_, R.inj, R.rdn, R.nodup⟩, fun b hb hf => ⟨CH.set_ne fun e => hf (.inr (.inr (.inr (.inr ⟨k, hk, .inl e⟩)))), hf⟩⟩
 ·exact qac hn R.top (by intro e; cases e)
 ·exact qac hn R.dict (by intro e; cases e)
 ·exact qac hn R.n2i (by intro e; cases e)
 ·exact fun r hr => qac hn (R.rdy r hr) (by intro e; cases e)
 ·intro k' hk'
  by_cases h : k' = k
  ·subst h; show CH.set _ _ _ _ = some (niObj _ _ (upd T.np k' v k') k'); refine rE CH.set_same (rE qah rfl)
  ·show CH.set _ _ _ _ = some (niObj _ _ (upd T.np k v k') k')
   refine rE (qap h) ?_
   exact qac hn (R.node k' hk') (fun e => h (ni_inj e).symm)
 ·exact fun k' hk' => qac hn (R.nd k' hk') (by intro e; cases e)
 ·exact fun k' hk' => qac hn (R.succ k' hk') (by intro e; cases e)
theorem TSR.setSc (R : TSR H a T L) {k : Int} (hk : k ∈ T.keys) (l : List Int) : TSR (H.set (L.bL k) (.list (l.map .int))) a { T with sc := upd T.sc k l } L ∧ FrameT a H T L (H.set (L.bL k) (.list (l.map .int))) { T with sc := upd T.sc k l } L := by
 have hn := R.succ k hk
 refine ⟨⟨?_, ?_, ?_, ?_, ?_, ?_, ?_, R.inj, R.rdn, R.nodup⟩, fun b hb hf => ⟨CH.set_ne fun e => hf (.inr (.inr (.inr (.inr ⟨k, hk, .inr (.inr e)⟩)))), hf⟩⟩
 ·exact qac hn R.top (by intro e; cases e)
 ·exact qac hn R.dict (by intro e; cases e)
 ·exact qac hn R.n2i (by intro e; cases e)
 ·intro r hr
  refine rE (CH.set_ne (Ne.symm (R.rdn k hk (by rw [show T.ready = some r from hr]; simp)))) ?_; exact R.rdy r hr
 ·exact fun k' hk' => qac hn (R.node k' hk') (by intro e; cases e)
 ·exact fun k' hk' => qac hn (R.nd k' hk') (by intro e; cases e)
 ·intro k' hk'
  by_cases h : k' = k
  ·subst h; show CH.set _ _ _ _ = some (.list ((upd T.sc k' l k').map .int)); refine rE CH.set_same (rE qah rfl)
  ·show CH.set _ _ _ _ = some (.list ((upd T.sc k l k').map .int))
   refine rE (qap h) (rE (CH.set_ne (fun e => h (R.inj _ hk' _ hk e))) ?_); exact R.succ k' hk'
theorem TSR.setRd (R : TSR H a T L) {r : List Int} (hr : T.ready = some r) (l : List Int) : TSR (H.set L.rd (.list (l.map .int))) a { T with ready := some l } L ∧ FrameT a H T L (H.set L.rd (.list (l.map .int))) { T with ready := some l } L := by
 have hn := R.rdy r hr
 have hne : T.ready ≠ none := by refine rE hr ?_; simp
 refine ⟨⟨?_, ?_, ?_, ?_, ?_, ?_, ?_, R.inj, fun k hk _ => R.rdn k hk hne, R.nodup⟩, fun b hb hf => ⟨CH.set_ne fun e => hf (.inr (.inr (.inr (.inl ⟨hne, e⟩)))), fun h => hf ?_⟩⟩
 ·exact qac hn R.top (by intro e; cases e)
 ·have : rdV { T with ready := some l } L = rdV T L := by unfold rdV; refine rE hr rfl
  show CH.set _ _ _ _ = some (.idict [_, ("_ready_nodes", rdV { T with ready := some l } L), _, _])
  refine rE this ?_; exact qac hn R.dict (by intro e; cases e)
 ·exact qac hn R.n2i (by intro e; cases e)
 ·intro r' hr'; cases hr'; exact CH.set_same
 ·exact fun k' hk' => qac hn (R.node k' hk') (by intro e; cases e)
 ·exact fun k' hk' => qac hn (R.nd k' hk') (by intro e; cases e)
 ·intro k' hk'
  refine rE (CH.set_ne (R.rdn k' hk' hne)) ?_; exact R.succ k' hk'
 ·rcases h with h | h | h | h | h
  ·exact .inl h
  ·exact .inr (.inl h)
  ·exact .inr (.inr (.inl h))
  ·exact .inr (.inr (.inr (.inl ⟨hne, h.2⟩)))
  ·exact .inr (.inr (.inr (.inr h)))
theorem TSR.setNums (R : TSR H a T L) (p f : Int) : TSR (H.set L.d (.idict [("_node2info", .ref L.n2i), ("_ready_nodes", rdV T L), ("_npassedout", .int p), ("_nfinished", .int f)])) a { T with pass := p, fin := f } L ∧
  FrameT a H T L (H.set L.d (.idict [("_node2info", .ref L.n2i), ("_ready_nodes", rdV T L), ("_npassedout", .int p), ("_nfinished", .int f)])) { T with pass := p, fin := f } L := by
 have hn := R.dict
 refine ⟨⟨?_, CH.set_same, ?_, ?_, ?_, ?_, ?_, R.inj, R.rdn, R.nodup⟩, fun b hb hf => ⟨CH.set_ne fun e => hf (.inr (.inl e)), hf⟩⟩
 ·exact qac hn R.top (by intro e; cases e)
 ·exact qac hn R.n2i (by intro e; cases e)
 ·exact fun r hr => qac hn (R.rdy r hr) (by intro e; cases e)
 ·exact fun k' hk' => qac hn (R.node k' hk') (by intro e; cases e)
 ·exact fun k' hk' => qac hn (R.nd k' hk') (by intro e; simp at e)
 ·exact fun k' hk' => qac hn (R.succ k' hk') (by intro e; cases e)
theorem TSR.setSome (R : TSR H a T L) {r : Addr} (hr : H r = none) (hready : T.ready = none) (l : List Int) : TSR ((H.set r (.list (l.map .int))).set L.d (.idict [("_node2info", .ref L.n2i), ("_ready_nodes", .ref r), ("_npassedout", .int T.pass), ("_nfinished", .int T.fin)])) a { T with ready := some l } { L with rd := r } ∧
  FrameT a H T L ((H.set r (.list (l.map .int))).set L.d (.idict [("_node2info", .ref L.n2i), ("_ready_nodes", .ref r), ("_npassedout", .int T.pass), ("_nfinished", .int T.fin)])) { T with ready := some l } { L with rd := r } := by
 have hn := R.dict
 have low : ∀ {b : Addr} {c : CObj}, H b = some c → H.set r (.list (l.map .int)) b = some c := fun {b c} h => by refine rE (CH.set_ne ((ne_at h hr))) ?_; exact h
 have hn' := low hn
 refine ⟨⟨?_, CH.set_same, ?_, ?_, ?_, ?_, ?_, R.inj, ?_, R.nodup⟩, fun b hb hf => ⟨?_, fun h => hf ?_⟩⟩
 ·exact qac hn' (low R.top) (by intro e; cases e)
 ·exact qac hn' (low R.n2i) (by intro e; cases e)
 ·intro r' hr'
  cases hr'
  show CH.set _ _ _ r = _
  refine rE (CH.set_ne (ne_at hr hn)) (rE CH.set_same rfl)
 ·exact fun k' hk' => qac hn' (low (R.node k' hk')) (by intro e; cases e)
 ·exact fun k' hk' => qac hn' (low (R.nd k' hk')) (by intro e; simp at e)
 ·exact fun k' hk' => qac hn' (low (R.succ k' hk')) (by intro e; cases e)
 ·intro k hk _ e
  have h := R.succ k hk
  have e' : L.bL k = r := e
  rw [e', hr] at h; cases h
 ·refine rE (CH.set_ne (fun e => hf (.inr (.inl e)))) (rE (CH.set_ne (fun e => by rw [e, hr] at hb; exact hb rfl)) rfl)
 ·rcases h with h | h | h | h | h
  ·exact .inl h
  ·exact .inr (.inl h)
  ·exact .inr (.inr (.inl h))
  ·exact absurd h.2 (fun e => by rw [e] at hb; exact hb hr)
  ·exact .inr (.inr (.inr (.inr h)))
theorem putI_new {kvs : List (Int × V)} {k : Int} {v : V} (h : k ∉ kvs.map (·.1)) : putI kvs k v = kvs ++ [(k, v)] := by
 unfold putI
 rw [if_neg]
 intro e
 rw [List.any_eq_true] at e
 refine eEA e fun p hp hk => ?_
 exact h (List.mem_map.mpr ⟨p, hp, by exact PyProof.Rows.bi_ieq.mp hk⟩)
theorem TSR.addKey (R : TSR H a T L) {k : Int} (hk : k ∉ T.keys) {x d l : Addr} {H' : CH} {ep : Nat} (hx : H x = none) (hd : H d = none) (hl : H l = none) (h1 : H' x = some (niObj d l 0 k)) (h2 : H' d = some (.idict [])) (h3 : H' l = some (.list [])) (hxd : x ≠ d) (hxl : x ≠ l) (hdl : d ≠ l) (h4 : ∀ b, b ≠ x → b ≠ d → b ≠ l → H' b = H b) :
  TSR (H'.set L.n2i (.dict (putI (T.keys.map fun k => (k, .ref (L.bA k))) k (.ref x)) ep)) a { T with keys := T.keys ++ [k], np := upd T.np k 0, sc := upd T.sc k [] } { L with ep := ep, bA := upd L.bA k x, bD := upd L.bD k d, bL := upd L.bL k l } ∧
  FrameT a H T L (H'.set L.n2i (.dict (putI (T.keys.map fun k => (k, .ref (L.bA k))) k (.ref x)) ep)) { T with keys := T.keys ++ [k], np := upd T.np k 0, sc := upd T.sc k [] } { L with ep := ep, bA := upd L.bA k x, bD := upd L.bD k d, bL := upd L.bL k l } := by
 have low : ∀ {b : Addr} {c : CObj}, H b = some c → H' b = some c := fun {b c} h => by
  refine rE (h4 b ((ne_at h hx)) ((ne_at h hd)) ((ne_at h hl))) ?_; exact h
 have hn := low R.n2i
 have hput : putI (T.keys.map fun k => (k, V.ref (L.bA k))) k (.ref x) = (T.keys ++ [k]).map fun k' => (k', V.ref (upd L.bA k x k')) := by
  refine rE (putI_new (by rw [List.map_map]; simpa using hk)) (rE List.map_append ?_)
  congr 1
  ·refine List.map_congr_left fun k' hk' => ?_
   refine rE (qap (fun e => hk (by rw [← e]; exact hk'))) rfl
  ·simp [upd]
 have ne : ∀ k' ∈ T.keys, k' ≠ k := fun k' hk' e => hk (e ▸ hk')
 refine ⟨⟨?_, ?_, ?_, ?_, ?_, ?_, ?_, ?_, ?_, ?_⟩, fun b hb hf => ⟨?_, fun h => hf ?_⟩⟩
 ·exact qac hn (low R.top) (by intro e; cases e)
 ·exact qac hn (low R.dict) (by intro e; cases e)
 ·refine rE hput ?_; exact CH.set_same
 ·exact fun r hr => qac hn (low (R.rdy r hr)) (by intro e; cases e)
 ·intro k' hk'
  rcases List.mem_append.mp hk' with hk' | hk'
  ·show CH.set _ _ _ (upd L.bA k x k') = some (niObj (upd L.bD k d k') (upd L.bL k l k') (upd T.np k 0 k') k')
   refine rE (qap (ne k' hk')) (rE (qap (ne k' hk')) (rE (qap (ne k' hk')) (rE (qap (ne k' hk')) ?_)))
   exact qac hn (low (R.node k' hk')) (by intro e; cases e)
  ·obtain rfl := List.mem_singleton.mp hk'
   show CH.set _ _ _ (upd L.bA k' x k') = some (niObj (upd L.bD k' d k') (upd L.bL k' l k') (upd T.np k' 0 k') k')
   refine rE qah (rE qah (rE qah (rE qah ?_)))
   exact qac hn h1 (by intro e; cases e)
 ·intro k' hk'
  rcases List.mem_append.mp hk' with hk' | hk'
  ·show CH.set _ _ _ (upd L.bD k d k') = _
   refine rE (qap (ne k' hk')) ?_
   exact qac hn (low (R.nd k' hk')) (by intro e; cases e)
  ·obtain rfl := List.mem_singleton.mp hk'
   show CH.set _ _ _ (upd L.bD k' d k') = _
   refine rE qah ?_
   exact qac hn h2 (by intro e; cases e)
 ·intro k' hk'
  rcases List.mem_append.mp hk' with hk' | hk'
  ·show CH.set _ _ _ (upd L.bL k l k') = some (.list ((upd T.sc k [] k').map .int))
   refine rE (qap (ne k' hk')) (rE (qap (ne k' hk')) ?_)
   exact qac hn (low (R.succ k' hk')) (by intro e; cases e)
  ·obtain rfl := List.mem_singleton.mp hk'
   show CH.set _ _ _ (upd L.bL k' l k') = some (.list ((upd T.sc k' [] k').map .int))
   refine rE qah (rE qah ?_)
   exact qac hn h3 (by intro e; cases e)
 ·intro k₁ hk₁ k₂ hk₂ e
  have e : upd L.bL k l k₁ = upd L.bL k l k₂ := e
  have fresh : ∀ k' ∈ T.keys, L.bL k' ≠ l := fun k' hk' => ne_at (R.succ k' hk') hl
  rcases List.mem_append.mp hk₁ with g₁ | g₁ <;> rcases List.mem_append.mp hk₂ with g₂ | g₂
  ·rw [qap (ne _ g₁), qap (ne _ g₂)] at e; exact R.inj _ g₁ _ g₂ e
  ·have q := List.mem_singleton.mp g₂
   rw [qap (ne _ g₁), q, qah] at e; exact absurd e (fresh _ g₁)
  ·have q := List.mem_singleton.mp g₁
   rw [qap (ne _ g₂), q, qah] at e; exact absurd e.symm (fresh _ g₂)
  ·refine rE (List.mem_singleton.mp g₁) (rE (List.mem_singleton.mp g₂) rfl)
 ·intro k' hk' hr e
  have e : upd L.bL k l k' = L.rd := e
  rcases List.mem_append.mp hk' with hk' | hk'
  ·rw [qap (ne _ hk')] at e; exact R.rdn _ hk' hr e
  ·obtain rfl := List.mem_singleton.mp hk'
   rw [qah] at e
   refine eE (Option.ne_none_iff_exists'.mp hr) fun r hr' => ?_
   have := R.rdy r hr'
   rw [← e, hl] at this; cases this
 ·rw [List.nodup_append]
  exact ⟨R.nodup, by simp, fun p hp q hq => by refine rE (List.mem_singleton.mp hq) ?_; exact ne p hp⟩
 ·refine rE (CH.set_ne (fun e => hf (.inr (.inr (.inl e))))) (rE (h4 b (fun e => hb (e ▸ hx)) (fun e => hb (e ▸ hd)) (fun e => hb (e ▸ hl))) rfl)
 ·rcases h with h | h | h | h | ⟨k', hk', h⟩
  ·exact .inl h
  ·exact .inr (.inl h)
  ·exact .inr (.inr (.inl h))
  ·exact .inr (.inr (.inr (.inl h)))
  ·rcases List.mem_append.mp hk' with hk' | hk'
   ·refine .inr (.inr (.inr (.inr ⟨k', hk', ?_⟩)))
    have h : b = upd L.bA k x k' ∨ b = upd L.bD k d k' ∨ b = upd L.bL k l k' := h
    rw [qap (ne _ hk'), qap (ne _ hk'), qap (ne _ hk')] at h; exact h
   ·obtain rfl := List.mem_singleton.mp hk'
    have h : b = upd L.bA k' x k' ∨ b = upd L.bD k' d k' ∨ b = upd L.bL k' l k' := h
    rw [qah, qah, qah] at h
    rcases h with rfl | rfl | rfl
    ·exact absurd hx hb
    ·exact absurd hd hb
    ·exact absurd hl hb
end
end
section
section
variable {C : Cx} {A : Around} {m : Loc} {H : CH} {s : Shared} {mg mb : Str → Option Value} {P : Params}
theorem spec_TSinit {x d : Addr} (B : Bs C.h₀ (KK P) mg mb) {n : Nat} (hA : AOK C A (n + 1)) (hx : H x = some (.inst cTS d [])) (hd : H d = some (.idict [])) :
  CALL C A (.con (.ref a_TSinit)) [.ref x] [] H fun v H' => v = V.none ∧ ∃ n, H n = none ∧ H' = (H.set n (.dict [] 0)).set d (.idict [("_node2info", .ref n), ("_ready_nodes", V.none), ("_npassedout", .int 0), ("_nfinished", .int 0)]) := by
 have hxd : x ≠ d := ne_at hx hd
 refine qci B (by with_unfolding_all rfl) (by with_unfolding_all rfl) hA (binds := [("self", .ref x), ("graph", V.none)]) (.dflt (T := 111) (items := [.none]) (n := 0) B (by with_unfolding_all rfl) fun h rs hv => ?_) (by with_unfolding_all rfl) rfl fun L hL hL0 hA' => ?_
 ·refine eEA (qax hv) fun a zz1 ha => ?_; subst zz1
  exact ⟨_, [("self", a), ("graph", .none)], by with_unfolding_all rfl, by with_unfolding_all rfl, rfl, .cons ha (.cons .con .nil)⟩
 repeat walk_at "x"
 refine EV_dict fun n hn hn0 => ?_
 have hxn : x ≠ n := ne_at hx hn
 have hdn : d ≠ n := ne_at hd hn
 repeat walk_at "x"
 refine SA_own B (by refine rE (CH.set_ne hxn) ?_; exact hx) (by refine rE (CH.set_ne hdn) ?_; exact hd) (by first | with_unfolding_all exact (by decide : (0:Nat) < 1000) | with_unfolding_all exact (by decide : (1:Nat) < 1000) | with_unfolding_all exact (by decide : (2:Nat) < 1000) | with_unfolding_all exact (by decide : (3:Nat) < 1000) | with_unfolding_all exact (by decide : (4:Nat) < 1000)) ?_
 repeat walk_at "x"
 refine SA_own B (by refine rE (CH.set_ne hxd) (rE (CH.set_ne hxn) ?_); exact hx) CH.set_same (by first | with_unfolding_all exact (by decide : (0:Nat) < 1000) | with_unfolding_all exact (by decide : (1:Nat) < 1000) | with_unfolding_all exact (by decide : (2:Nat) < 1000) | with_unfolding_all exact (by decide : (3:Nat) < 1000) | with_unfolding_all exact (by decide : (4:Nat) < 1000)) ?_
 refine rE CH.set_set ?_
 repeat walk_at "x"
 refine SA_own B (by refine rE (CH.set_ne hxd) (rE (CH.set_ne hxn) ?_); exact hx) CH.set_same (by first | with_unfolding_all exact (by decide : (0:Nat) < 1000) | with_unfolding_all exact (by decide : (1:Nat) < 1000) | with_unfolding_all exact (by decide : (2:Nat) < 1000) | with_unfolding_all exact (by decide : (3:Nat) < 1000) | with_unfolding_all exact (by decide : (4:Nat) < 1000)) ?_
 refine rE CH.set_set ?_
 repeat walk_at "x"
 refine SA_own B (by refine rE (CH.set_ne hxd) (rE (CH.set_ne hxn) ?_); exact hx) CH.set_same (by first | with_unfolding_all exact (by decide : (0:Nat) < 1000) | with_unfolding_all exact (by decide : (1:Nat) < 1000) | with_unfolding_all exact (by decide : (2:Nat) < 1000) | with_unfolding_all exact (by decide : (3:Nat) < 1000) | with_unfolding_all exact (by decide : (4:Nat) < 1000)) ?_
 refine rE CH.set_set ?_
 repeat walk_at "x"
 walk_at "xi"
 refine ⟨_, rfl, fun q => (by cases q), fun _ => ?_⟩
 repeat walk_at "x"
 exact ⟨rfl, n, hn, rfl⟩
theorem spec_makeTS (B : Bs C.h₀ (KK P) mg mb) {n : Nat} (hA : AOK C A (n + 2)) :
  CALL C A (.con (.ref cTS)) [] [] H fun v H' => ∃ a L, v = .ref a ∧ TSR H' a .new L ∧ ∀ b, H b ≠ none → H' b = H b ∧ ¬ Foot a .new L b := by
 refine CALL_make B k_makeTS fun x d rest kw hx hd hx0 hd0 hxd => ?_
 refine (spec_TSinit B hA.under CH.set_same (by refine rE (CH.set_ne (Ne.symm hxd)) ?_; exact CH.set_same)).mono ?_
 rintro v H' ⟨rfl, n, hn, rfl⟩
 have hnx : n ≠ x := ne_at hn CH.set_same
 have hnd : n ≠ d := ne_at hn ((CH.set_ne (Ne.symm hxd)).trans CH.set_same)
 have hn0 : H n = none := by rw [CH.set_ne hnx, CH.set_ne hnd] at hn; exact hn
 refine ⟨rfl, x, ⟨d, n, 0, 0, fun _ => 0, fun _ => 0, fun _ => 0⟩, rfl, ⟨?_, CH.set_same, ?_, (by intro _ h; cases h), (by intro _ h; cases h), (by intro _ h; cases h), (by intro _ h; cases h), (by intro _ h; cases h), (by intro _ h; cases h), .nil⟩, fun b hb => ⟨?_, fun h => ?_⟩⟩
 ·refine rE (CH.set_ne hxd) (rE (CH.set_ne (Ne.symm hnx)) (rE CH.set_same rfl))
 ·show CH.set _ _ _ n = _
  refine rE (CH.set_ne hnd) (rE CH.set_same ?_); rfl
 ·have h1 : b ≠ d := fun e => hb (e ▸ hd)
  have h2 : b ≠ n := fun e => hb (e ▸ hn0)
  have h3 : b ≠ x := fun e => hb (e ▸ hx)
  refine rE (CH.set_ne h1) (rE (CH.set_ne h2) (rE (CH.set_ne h3) (rE (CH.set_ne h1) rfl)))
 ·rcases h with h | h | h | h | ⟨k, hk, _⟩
  ·exact hb (h ▸ hx)
  ·exact hb (h ▸ hd)
  ·exact hb (h ▸ hn0)
  ·exact h.1 rfl
  ·cases hk
theorem qcf {keys : List Int} {f : Int → Addr} {k : Int} (h : k ∈ keys) : (keys.map fun k => (k, V.ref (f k))).lookup k = some (.ref (f k)) := by
 induction keys with
 | nil => cases h
 | cons a r ih =>
  refine rE List.map_cons (rE List.lookup_cons ?_)
  by_cases e : k = a
  ·subst e; simp
  ·refine rE (beq_eq_false_iff_ne.mpr e) ?_; exact ih ((List.mem_cons.mp h).resolve_left e)
theorem look_keys_none {keys : List Int} {f : Int → Addr} {k : Int} (h : k ∉ keys) : (keys.map fun k => (k, V.ref (f k))).lookup k = none := by
 induction keys with
 | nil => rfl
 | cons a r ih =>
  refine rE List.map_cons (rE List.lookup_cons ?_)
  have e : k ≠ a := fun e => h (e ▸ List.mem_cons_self)
  refine rE (beq_eq_false_iff_ne.mpr e) ?_; exact ih fun q => h (List.mem_cons_of_mem _ q)
theorem spec_getinfo {a : Addr} {T : TS} {L : Lay} {k : Int} (B : Bs C.h₀ (KK P) mg mb) {n : Nat} (hA : AOK C A (n + 3)) (R : TSR H a T L) (hz : T.keys.length < sizeLine) :
  CALL C A (.con (.ref a_getinfo)) [.ref a, .int k] [] H fun v H' => Ex3 (fun L' => TSR H' a (T.touch k) L') (fun L' => FrameT a H T L H' (T.touch k) L') fun L' => v = .ref (L'.bA k) := by
 refine qas fun R0 hR0 => ?_
 refine CALL_K B (by with_unfolding_all rfl) (by with_unfolding_all rfl) hA .pos2 (by with_unfolding_all rfl) rfl fun LL hL hL0 hA' => ?_
 walk_at "xi"
 refine qa9 B R.top R.dict rfl ?_
 refine GM_dict R.n2i F.slot_dict_get F.type_dict_get ?_
 repeat walk_at "x"
 by_cases hk : k ∈ T.keys
 ·refine ⟨qad, CV_get B R.n2i ?_⟩
  refine rE (qcf hk) ?_
  repeat walk_at "x"
  refine ⟨_, rfl, fun q => (by cases q), fun _ => ?_⟩
  repeat walk_at "x"
  have e : T.touch k = T := by unfold TS.touch; refine rE (if_pos hk) rfl
  exact hR0 _ _ (by refine rE e ?_; exact ⟨L, R, .refl, rfl⟩)
 ·refine ⟨qad, CV_get B R.n2i ?_⟩
  refine rE (look_keys_none hk) ?_
  repeat walk_at "x"
  refine ⟨_, rfl, fun _ => ?_, fun q => (by cases q)⟩
  have e : T.touch k = { T with keys := T.keys ++ [k], np := upd T.np k 0, sc := upd T.sc k [] } := by unfold TS.touch; refine rE (if_neg hk) rfl
  refine qam (st := .Assign _ _ _) (ES_assign2 ?_)
  repeat walk_at "x"
  refine EV_g B g_NI ?_
  repeat walk_at "x"
  refine ⟨KP_cls B k_keepNI, CV_of ((spec_makeNI (by exact B) hA').mono ?_)⟩
  rintro v H' ⟨x, d, l, rfl, hx, hd, hl, hxd, hxl, hdl, h1, h2, h3, h4⟩
  have low : ∀ {b : Addr} {c : CObj}, H b = some c → H' b = some c := fun {b c} h => by
   refine rE (h4 b ((ne_at h hx)) ((ne_at h hd)) ((ne_at h hl))) ?_; exact h
  repeat walk_at "x"
  refine qa9 B (low R.top) (low R.dict) rfl ?_
  repeat walk_at "x"
  refine qck (low R.n2i) (by refine rE (List.length_map ..) ?_; exact Nat.le_of_lt hz) fun ep => ?_
  repeat walk_at "x"
  refine eA (R.addKey (ep := ep) hk hx hd hl h1 h2 h3 hxd hxl hdl h4) fun R' F' => ?_
  exact hR0 _ _ (by refine rE e ?_; exact ⟨_, R', F', by show V.ref x = V.ref (upd L.bA k x k); refine rE qah rfl⟩)
end
end
section
theorem g_len2 {P : Params} : nsIn (KK P) mainGlobals "len" = some none := by kernel_rfl
theorem g_out {P : Params} : nsIn (KK P) mainGlobals "_NODE_OUT" = some (some (.int (-1) 268)) := by kernel_rfl
theorem g_dn {P : Params} : nsIn (KK P) mainGlobals "_NODE_DONE" = some (some (.int (-2) 271)) := by kernel_rfl
theorem g_tuple {P : Params} : nsIn (KK P) mainGlobals "tuple" = some none := by kernel_rfl
theorem b_tuple : bootBuiltins "tuple" = some (.type "tuple") := by kernel_rfl
theorem g_bool {P : Params} : nsIn (KK P) mainGlobals "bool" = some none := by kernel_rfl
theorem b_bool : bootBuiltins "bool" = some (.type "bool") := by kernel_rfl
structure TS.Le (T : TS) (n : Nat) : Prop where
 keys : T.keys.length ≤ n
 sc : ∀ k, (T.sc k).length ≤ n
theorem TS.Le.mono {T : TS} {n k : Nat} (h : T.Le n) (q : n ≤ k) : T.Le k := ⟨Nat.le_trans h.keys q, fun x => Nat.le_trans (h.sc x) q⟩
theorem TS.Le.touch {T : TS} {n : Nat} (h : T.Le n) (k : Int) : (T.touch k).Le (n + 1) := by
 unfold TS.touch
 split
 ·exact h.mono (Nat.le_succ n)
 ·refine ⟨by simp; exact h.keys, fun x => ?_⟩
  show (upd T.sc k [] x).length ≤ _
  unfold upd; split
  ·simp
  ·exact Nat.le_succ_of_le (h.sc x)
theorem TS.Le.setNp {T : TS} {n : Nat} (h : T.Le n) (k v : Int) : (T.setNp k v).Le n := ⟨h.keys, h.sc⟩
theorem TS.Le.link {T : TS} {n : Nat} (h : T.Le n) (p k : Int) : (T.link p k).Le (n + 1) := by
 refine ⟨Nat.le_succ_of_le h.keys, fun x => ?_⟩
 show (upd T.sc p (T.sc p ++ [k]) x).length ≤ _
 unfold upd; split
 ·simp; exact h.sc p
 ·exact Nat.le_succ_of_le (h.sc x)
theorem touch_mem {T : TS} {k : Int} : k ∈ (T.touch k).keys := by
 unfold TS.touch; split
 ·assumption
 ·simp
noncomputable abbrev addStep (k : Int) (T : TS) (p : Int) : TS := (T.touch p).link p k
theorem add_le {k : Int} : ∀ {ps : List Int} {T : TS} {n : Nat}, T.Le n → (ps.foldl (addStep k) T).Le (n + 2 * ps.length)
 | [], T, n, h => h
 | p :: ps, T, n, h => by
  have := add_le (k := k) (ps := ps) ((h.touch p).link p k)
  refine rE List.foldl_cons ?_
  exact this.mono (by simp; lia)
theorem qb1 {α β : Type} {f : β → α → β} {T : β} {l : List α} {i : Nat} {x : α} (h : l[i]? = some x) : (l.take (i + 1)).foldl f T = f ((l.take i).foldl f T) x := by
 refine rE List.take_add_one (rE h (rE List.foldl_append ?_)); rfl
section
variable {C : Cx} {A : Around} {m : Loc} {H : CH} {s : Shared} {mg mb : Str → Option Value} {P : Params} {a : Addr} {T : TS} {L : Lay}
inductive AddI (a : Addr) (H : CH) (T : TS) (L : Lay) (T' : TS) (H' : CH) : Prop
 | mk (L' : Lay) (R : TSR H' a T' L') (F : FrameT a H T L H' T' L')
theorem spec_add {k : Int} {ps : List Int} {N : Nat} (B : Bs C.h₀ (KK P) mg mb) {n : Nat} (hA : AOK C A (n + 4)) (R : TSR H a T L) (hr : T.ready = none) (hle : T.Le N) (hN : N + 2 * ps.length + 2 < sizeLine) :
  CALL C A (.con (.ref a_add)) (.ref a :: .int k :: ps.map .int) [] H fun v H' => AEx2 (v = V.none) (fun L' => TSR H' a (T.add k ps) L') fun L' => FrameT a H T L H' (T.add k ps) L' := by
 have hps : ps.length ≤ sizeLine := by lia
 refine qas fun R0 hR0 => ?_
 refine qci B (by with_unfolding_all rfl) (by with_unfolding_all rfl) hA (.star2 (x := "self") (y := "node") (z := "predecessors") (by refine rE (List.length_map ..) ?_; exact hps) (by intro r q rs; cases rs <;> with_unfolding_all rfl)) (by with_unfolding_all rfl) rfl fun LL hL hL0 hA' => ?_
 walk_at "xi"
 refine qa9 B R.top R.dict rfl ?_ (by kernel_rfl) (by unfold rdV; refine rE hr ?_; rfl)
 repeat walk_at "x"
 refine ⟨_, rfl, fun q => ?_, fun _ => ?_⟩
 ·unfold rdV at q; rw [hr] at q; cases q
 repeat walk_at "x"
 refine qa4 (f := a_getinfo) B R.top R.dict rfl ?_
 repeat walk_at "x"
 refine ⟨KP_K B (by with_unfolding_all rfl), CV_of ((spec_getinfo (by exact B) hA' R (by have := hle.keys; lia)).mono ?_)⟩
 rintro v H₁ ⟨L₁, R₁, F₁, rfl⟩
 have hkm : k ∈ (T.touch k).keys := touch_mem
 repeat walk_at "x"
 refine qcc (p := 87) (i := 1) B (R₁.node k hkm) (R₁.nd k hkm) rfl ?_
 repeat walk_at "x"
 refine EV_b B g_len2 b_len ?_
 repeat walk_at "x"
 refine ⟨qad, CV_len_tup (by refine rE (List.length_map ..) ?_; exact hps) ?_⟩
 refine rE (List.length_map ..) ?_
 repeat walk_at "x"
 refine qcu (p := 87) (i := 1) B (R₁.node k hkm) (R₁.nd k hkm) ?_
 refine eA (R₁.setNp hkm ((T.touch k).np k + ps.length)) fun R₂ F₂ => ?_
 refine qcv (l := ps) (f := V.int) (m0 := [("node", .int k), ("self", .ref a)]) (J := fun i H' => AddI a H T L ((ps.take i).foldl (addStep k) ((T.touch k).setNp k ((T.touch k).np k + ps.length))) H') ?_ (fun _ _ _ => trivial) (fun i p hp H' hJ RR hRR => ?_) fun H' hJ => ?_
 ·repeat walk_at "x"
  exact ⟨seq_tup hA'.handled, .cons rfl (.cons rfl .nil), ⟨L₁, R₂, F₁.trans F₂⟩⟩
 ·obtain ⟨L', R', F'⟩ := hJ
  have hle0 : ((T.touch k).setNp k ((T.touch k).np k + ps.length)).Le (N + 1) := (hle.touch k).setNp _ _
  have hle' : ((ps.take i).foldl (addStep k) ((T.touch k).setNp k ((T.touch k).np k + ps.length))).Le (N + 1 + 2 * (ps.take i).length) := add_le hle0
  have htl : (ps.take i).length ≤ ps.length := by refine rE List.length_take ?_; exact Nat.min_le_right i ps.length
  have hil : i < ps.length := (List.getElem?_eq_some_iff.mp hp).1
  have htl2 : (ps.take i).length = i := by refine rE List.length_take ?_; lia
  repeat walk_at "x"
  refine qa4 (f := a_getinfo) B R'.top R'.dict rfl ?_
  repeat walk_at "x"
  refine ⟨KP_K B (by with_unfolding_all rfl), CV_of ((spec_getinfo (by exact B) hA' R' (by have := hle'.keys; lia)).mono ?_)⟩
  rintro v H₃ ⟨L₃, R₃, F₃, rfl⟩
  have hpm : p ∈ (((ps.take i).foldl (addStep k) ((T.touch k).setNp k ((T.touch k).np k + ps.length))).touch p).keys := touch_mem
  repeat walk_at "x"
  refine qcc (p := 88) (i := 2) B (R₃.node p hpm) (R₃.nd p hpm) rfl ?_
  refine qa8 (.own (R₃.succ p hpm)) F.slot_list_append F.type_list_append ?_
  repeat walk_at "x"
  refine ⟨qad, qch (R₃.succ p hpm) (by refine rE (List.length_map ..) ?_; have := (hle'.touch p).sc p; lia) ?_⟩
  refine eA (R₃.setSc hpm ((((ps.take i).foldl (addStep k) ((T.touch k).setNp k ((T.touch k).np k + ps.length))).touch p).sc p ++ [k])) fun R₄ F₄ => ?_
  repeat walk_at "x"
  refine (hRR _ _ (.cons rfl (.cons rfl .nil)) ⟨L₃, ?_, ?_⟩).1
  ·refine rE (qb1 hp) ?_
   rw [List.map_append] at R₄
   exact R₄
  ·refine rE (qb1 hp) ?_
   rw [List.map_append] at F₄
   exact (F'.trans F₃).trans F₄
 ·obtain ⟨L', R', F'⟩ := hJ
  repeat walk_at "x"
  rw [List.take_length] at R' F'
  exact hR0 _ _ ⟨rfl, L', R', F'⟩
end
end
section
theorem TS.out_eq {ks : List Int} : ∀ {T : TS}, (T.out ks).keys = T.keys ∧ (T.out ks).ready = T.ready ∧ (T.out ks).pass = T.pass ∧ (T.out ks).fin = T.fin ∧ (T.out ks).sc = T.sc := by
 induction ks with
 | nil => intro T; exact ⟨rfl, rfl, rfl, rfl, rfl⟩
 | cons k r ih => intro T; exact ih (T := T.setNp k (-1))
section
variable {C : Cx} {A : Around} {m : Loc} {H : CH} {s : Shared} {mg mb : Str → Option Value} {P : Params} {a : Addr} {T : TS} {L : Lay}
theorem EV_gi {K : Frag} {Q : V → Loc → CH → Prop} {x : Str} {p : Pos} {i : Int} {t : Nat} (B : Bs C.h₀ K mg mb) (e : nsIn K mainGlobals x = some (some (.int i t))) (h : Q (.int i) m H) (hG : autoParam (C.env.globals = mainGlobals) Mine.syn1)
  (hk : autoParam (C.env.scope.kind = .function) Mine.syn1) (hl : autoParam (C.env.kindOf x = some .globalImplicit) Mine.syn1) (hd : autoParam ((x == ("__debug__" : Str)) = false) Mine.syn4) : EV C A (.Name x p) m H Q := fun s S =>
 Name_function_global hk hl (loadGlobal_global (hG ▸ B.g.keeps S.base) (mg_of B.X B.g e) (.here S .int h)) hd
theorem qb9 {r : List Int} (B : Bs C.h₀ (KK P) mg mb) {n : Nat} (hA : AOK C A (n + 1)) (R : TSR H a T L) (hr : T.ready = some r) (hk : ∀ k ∈ r, k ∈ T.keys) (hz : r.length ≤ sizeLine) :
  CALL C A (.con (.ref qcq)) [.ref a] [] H fun v H' => And3 (v = .tup (r.map .int)) (TSR H' a (T.getReady r) L) (FrameT a H T L H' (T.getReady r) L) := by
 have hv : rdV T L = .ref L.rd := by unfold rdV; refine rE hr rfl
 refine qas fun R0 hR0 => ?_
 refine CALL_K B (by with_unfolding_all rfl) (by with_unfolding_all rfl) hA .pos1 (by with_unfolding_all rfl) rfl fun LL hL hL0 hA' => ?_
 walk_at "xi"
 refine qa9 B R.top R.dict rfl ?_ (by kernel_rfl) (by refine rE hv ?_; exact trivial)
 refine rE hv ?_
 repeat walk_at "x"
 refine ⟨_, rfl, fun q => (by cases q), fun _ => ?_⟩
 repeat walk_at "x"
 refine EV_b B g_tuple b_tuple ?_
 repeat walk_at "x"
 refine qa9 B R.top R.dict rfl ?_ (by kernel_rfl) (by refine rE hv ?_; exact trivial)
 refine rE hv ?_
 repeat walk_at "x"
 refine ⟨qa3, CV_tuple_list (.own (R.rdy r hr)) (by refine rE (List.length_map ..) ?_; exact hz) ?_⟩
 repeat walk_at "x"
 refine qa9 B R.top R.dict rfl ?_
 repeat walk_at "x"
 refine qcv (l := r) (f := V.int) (m0 := [("n2i", .ref L.n2i), ("result", .tup (r.map .int)), ("self", .ref a)]) (J := fun i H' => And2 (TSR H' a (T.out (r.take i)) L) (FrameT a H T L H' (T.out (r.take i)) L)) ?_ (fun _ _ _ => trivial) (fun i p hp H' hJ RR hRR => ?_) fun H' hJ => ?_
 ·repeat walk_at "x"
  exact ⟨seq_tup hA'.handled, .cons rfl (.cons rfl (.cons rfl .nil)), ⟨R, .refl⟩⟩
 ·obtain ⟨R', F'⟩ := hJ
  have hpk : p ∈ (T.out (r.take i)).keys := by refine rE TS.out_eq.1 ?_; exact hk p (List.mem_of_getElem? hp)
  repeat walk_at "x"
  refine EV_gi B g_out ?_
  repeat walk_at "x"
  refine qau R'.n2i (qcf hpk) ?_
  repeat walk_at "x"
  refine qcu (p := 87) (i := 1) B (R'.node p hpk) (R'.nd p hpk) ?_
  refine eA (R'.setNp hpk (-1)) fun R₂ F₂ => ?_
  repeat walk_at "x"
  refine (hRR _ _ (.cons rfl (.cons rfl (.cons rfl .nil))) ⟨?_, ?_⟩).1
  ·unfold TS.out; refine rE (qb1 hp) ?_; exact R₂
  ·unfold TS.out; refine rE (qb1 hp) ?_; exact F'.trans F₂
 ·obtain ⟨R', F'⟩ := hJ
  rw [List.take_length] at R' F'
  have e := @TS.out_eq r T
  have hr' : (T.out r).ready = some r := by refine rE e.2.1 ?_; exact hr
  have hv' : rdV (T.out r) L = .ref L.rd := by unfold rdV; refine rE hr' rfl
  repeat walk_at "x"
  refine qa9 B R'.top R'.dict rfl ?_ (by kernel_rfl) (by refine rE hv' ?_; exact trivial)
  refine rE hv' ?_
  refine qa8 (.own (R'.rdy r hr')) F.slot_list_clear F.type_list_clear ?_
  repeat walk_at "x"
  refine ⟨qad, CV_clear (R'.rdy r hr') (by refine rE (List.length_map ..) ?_; exact hz) ?_⟩
  refine eA (R'.setRd hr' []) fun R₂ F₂ => ?_
  repeat walk_at "x"
  refine qa9 B R₂.top R₂.dict rfl ?_
  repeat walk_at "x"
  refine EV_b B g_len2 b_len ?_
  repeat walk_at "x"
  refine ⟨qad, CV_len_tup (by refine rE (List.length_map ..) ?_; exact hz) ?_⟩
  refine rE (List.length_map ..) ?_
  repeat walk_at "x"
  refine SA_own B R₂.top R₂.dict (by first | with_unfolding_all exact (by decide : (4:Nat) < 1000)) ?_
  refine eA (R₂.setNums ((T.out r).pass + r.length) (T.out r).fin) fun R₃ F₃ => ?_
  repeat walk_at "x"
  refine hR0 _ _ ?_
  unfold TS.getReady
  refine rF e.2.2.1 ?_
  exact ⟨rfl, R₃, (F'.trans F₂).trans F₃⟩
theorem qcx {r : List Int} (B : Bs C.h₀ (KK P) mg mb) {n : Nat} (hA : AOK C A (n + 1)) (R : TSR H a T L) (hr : T.ready = some r) (hz : r.length ≤ sizeLine) :
  CALL C A (.con (.ref a_isactive)) [.ref a] [] H fun v H' => v = .bool (decide (T.fin < T.pass) || !r.isEmpty) ∧ H' = H := by
 have hv : rdV T L = .ref L.rd := by unfold rdV; refine rE hr rfl
 refine CALL_K B (by with_unfolding_all rfl) (by with_unfolding_all rfl) hA .pos1 (by with_unfolding_all rfl) rfl fun LL hL hL0 hA' => ?_
 walk_at "xi"
 refine qa9 B R.top R.dict rfl ?_ (by kernel_rfl) (by refine rE hv ?_; exact trivial)
 refine rE hv ?_
 repeat walk_at "x"
 refine ⟨_, rfl, fun q => (by cases q), fun _ => ?_⟩
 repeat walk_at "x"
 refine qa9 B R.top R.dict rfl ?_
 repeat walk_at "x"
 refine qa9 B R.top R.dict rfl ?_
 repeat walk_at "x"
 refine OB_bool ⟨fun h => ?_, fun h => ?_⟩
 ·repeat walk_at "x"
  exact ⟨by simp [retOf, h], rfl⟩
 ·repeat walk_at "x"
  refine EV_b B g_bool b_bool ?_
  repeat walk_at "x"
  refine qa9 B R.top R.dict rfl ?_ (by kernel_rfl) (by refine rE hv ?_; exact trivial)
  refine rE hv ?_
  repeat walk_at "x"
  refine ⟨qa3, CV_bool_list (.own (R.rdy r hr)) (by refine rE (List.length_map ..) ?_; exact hz) ?_⟩
  repeat walk_at "x"
  exact ⟨by simp [retOf, h], rfl⟩
end
end
section
theorem rel_eq {l : List Int} : ∀ {T : TS}, (l.foldl TS.rel T).keys = T.keys ∧ (l.foldl TS.rel T).pass = T.pass ∧ (l.foldl TS.rel T).fin = T.fin ∧ (l.foldl TS.rel T).sc = T.sc := by
 induction l with
 | nil => intro T; exact ⟨rfl, rfl, rfl, rfl⟩
 | cons k r ih => intro T; exact ih (T := T.rel k)
theorem rel_ready {l : List Int} : ∀ {T : TS} {r : List Int}, T.ready = some r → ∃ r', (l.foldl TS.rel T).ready = some r' ∧ r'.length ≤ r.length + l.length := by
 induction l with
 | nil => intro T r h; exact ⟨r, h, by exact Nat.le_add_right r.length [].length⟩
 | cons k t ih =>
  intro T r h
  have : ∃ r', (T.rel k).ready = some r' ∧ r'.length ≤ r.length + 1 := by
   unfold TS.rel
   by_cases e : T.np k - 1 = 0
   ·exact ⟨r ++ [k], by show (if _ then _ else _) = _; refine rE (if_pos e) (rE h ?_); rfl, by simp⟩
   ·exact ⟨r, by show (if _ then _ else _) = _; refine rE (if_neg e) (rE h rfl), by exact Nat.le_add_right r.length 1⟩
  refine eEA this fun r₁ h₁ l₁ => ?_
  refine eEA (ih h₁) fun r₂ h₂ l₂ => ?_
  exact ⟨r₂, h₂, by simp; lia⟩
noncomputable def TS.doneN (T : TS) (ks : List Int) : TS := ks.foldl TS.done1 T
theorem done1_eq {T : TS} {k : Int} : (T.done1 k).keys = T.keys ∧ (T.done1 k).pass = T.pass ∧ (T.done1 k).fin = T.fin + 1 ∧ (T.done1 k).sc = T.sc := by
 have := @rel_eq (T.sc k) (T.setNp k (-2))
 exact ⟨this.1, this.2.1, by unfold TS.done1; rfl, this.2.2.2⟩
theorem doneN_eq {ks : List Int} : ∀ {T : TS}, (T.doneN ks).keys = T.keys ∧ (T.doneN ks).pass = T.pass ∧ (T.doneN ks).fin = T.fin + ks.length ∧ (T.doneN ks).sc = T.sc := by
 induction ks with
 | nil => intro T; exact ⟨rfl, rfl, by exact PySem.W.kpf_c1 Mine.TS.fin Mine.TS.done1 (fun a ↦ congrFun rfl) T [], rfl⟩
 | cons k r ih =>
  intro T
  have e := @done1_eq T k
  have h := ih (T := T.done1 k)
  unfold TS.doneN at h ⊢
  refine rE List.foldl_cons ?_
  refine ⟨h.1.trans e.1, h.2.1.trans e.2.1, ?_, h.2.2.2.trans e.2.2.2⟩
  refine rE h.2.2.1 (rE e.2.2.1 ?_); simp; lia
theorem doneN_ready {M : Nat} {ks : List Int} : ∀ {T : TS} {r : List Int}, (∀ k, (T.sc k).length ≤ M) → T.ready = some r → ∃ r', (T.doneN ks).ready = some r' ∧ r'.length ≤ r.length + ks.length * M := by
 induction ks with
 | nil => intro T r _ h; exact ⟨r, h, by exact Nat.le_add_right r.length ([].length * M)⟩
 | cons k t ih =>
  intro T r hM h
  obtain ⟨r₁, h₁, l₁⟩ := rel_ready (l := T.sc k) (T := T.setNp k (-2)) h
  obtain ⟨r₂, h₂, l₂⟩ := ih (T := T.done1 k) (r := r₁) (by refine rE done1_eq.2.2.2 ?_; exact hM) h₁
  have := hM k
  refine ⟨r₂, h₂, ?_⟩
  refine rE List.length_cons (rE (Nat.succ_mul ..) ?_); lia
section
variable {C : Cx} {A : Around} {m : Loc} {H : CH} {s : Shared} {mg mb : Str → Option Value} {P : Params} {a : Addr} {T : TS} {L : Lay}
theorem TSR.rel (R : TSR H a T L) {r : List Int} (hr : T.ready = some r) {x : Int} (hx : x ∈ T.keys) :
  let H₁ := H.set (L.bA x) (niObj (L.bD x) (L.bL x) (T.np x - 1) x)
  let H₂ := if T.np x - 1 = 0 then H₁.set L.rd (.list ((r ++ [x]).map .int)) else H₁
  TSR H₂ a (T.rel x) L ∧ FrameT a H T L H₂ (T.rel x) L := by
 intro H₁ H₂
 refine eA (R.setNp hx (T.np x - 1)) fun R₁ F₁ => ?_
 by_cases e : T.np x - 1 = 0
 ·obtain ⟨R₂, F₂⟩ := R₁.setRd hr (r ++ [x])
  have e1 : H₂ = H₁.set L.rd (.list ((r ++ [x]).map .int)) := if_pos e
  have e2 : T.rel x = { T.setNp x (T.np x - 1) with ready := some (r ++ [x]) } := by unfold TS.rel; refine rE (if_pos e) (rE hr ?_); rfl
  refine rE e1 (rE e2 ?_); exact ⟨R₂, F₁.trans F₂⟩
 ·have e1 : H₂ = H₁ := if_neg e
  have e2 : T.rel x = T.setNp x (T.np x - 1) := by unfold TS.rel; refine rE (if_neg e) ?_; rfl
  refine rE e1 (rE e2 ?_); exact ⟨R₁, F₁⟩
inductive DnP (H : CH) (a : Addr) (T : TS) (L : Lay) (ks : List Int) (H' : CH) : Prop
 | mk (R : TSR H' a (T.doneN ks) L) (F : FrameT a H T L H' (T.doneN ks) L)
inductive DnV (H : CH) (a : Addr) (T : TS) (L : Lay) (ns : List Int) (v : V) (H' : CH) : Prop
 | mk (hv : v = V.none) (R : TSR H' a (T.doneN ns) L) (F : FrameT a H T L H' (T.doneN ns) L)
inductive DnJ (H : CH) (a : Addr) (T : TS) (L : Lay) (l : List Int) (T₁ : TS) (j : Nat) (H' : CH) : Prop
 | mk (R : TSR H' a ((l.take j).foldl TS.rel T₁) L) (F : FrameT a H T L H' ((l.take j).foldl TS.rel T₁) L)
set_option maxHeartbeats 4000000 in
theorem spec_done {r : List Int} {ns : List Int} {M : Nat} (B : Bs C.h₀ (KK P) mg mb) {n : Nat} (hA : AOK C A (n + 1)) (R : TSR H a T L) (hr : T.ready = some r) (hk : ∀ i k, ns[i]? = some k → k ∈ T.keys ∧ (T.doneN (ns.take i)).np k = -1) (hs : ∀ k ∈ T.keys, ∀ x ∈ T.sc k, x ∈ T.keys)
  (hM : ∀ k, (T.sc k).length ≤ M) (hz : r.length + ns.length * M + M ≤ sizeLine) (hns : ns.length ≤ sizeLine) :
  CALL C A (.con (.ref a_done)) (.ref a :: ns.map .int) [] H (DnV H a T L ns) := by
 have hv : rdV T L = .ref L.rd := by unfold rdV; refine rE hr rfl
 refine qas fun R0 hR0 => ?_
 refine qci B (by with_unfolding_all rfl) (by with_unfolding_all rfl) hA (.star1 (x := "self") (y := "nodes") (by refine rE (List.length_map ..) ?_; exact hns) (by intro r rs; cases rs <;> with_unfolding_all rfl)) (by with_unfolding_all rfl) rfl fun LL hL hL0 hA' => ?_
 walk_at "xi"
 refine qa9 B R.top R.dict rfl ?_ (by kernel_rfl) (by refine rE hv ?_; exact trivial)
 refine rE hv ?_
 repeat walk_at "x"
 refine ⟨_, rfl, fun q => (by cases q), fun _ => ?_⟩
 repeat walk_at "x"
 refine qa9 B R.top R.dict rfl ?_
 repeat walk_at "x"
 refine qcv (l := ns) (f := V.int) (m0 := [("n2i", .ref L.n2i), ("self", .ref a)]) (J := fun i => DnP H a T L (ns.take i)) ?_ (fun _ _ _ => trivial) (fun i k hp H' hJ RR hRR => ?_) fun H' hJ => ?_
 ·repeat walk_at "x"
  exact ⟨seq_tup hA'.handled, .cons rfl (.cons rfl .nil), ⟨R, .refl⟩⟩
 ·obtain ⟨R', F'⟩ := hJ
  refine eA (hk i k hp) fun hk1 hk2 => ?_
  have hil : i < ns.length := (List.getElem?_eq_some_iff.mp hp).1
  have eN := @doneN_eq (ns.take i) T
  refine eEA (doneN_ready (ks := ns.take i) hM hr) fun r₁ hr₁ hlr => ?_
  have hkk : k ∈ (T.doneN (ns.take i)).keys := by refine rE eN.1 ?_; exact hk1
  have hlr2 : r₁.length + M ≤ sizeLine := by
   have : (ns.take i).length * M ≤ ns.length * M := Nat.mul_le_mul_right _ (by refine rE List.length_take ?_; exact Nat.min_le_right i ns.length)
   lia
  have estep : T.doneN (ns.take (i + 1)) = (T.doneN (ns.take i)).done1 k := by unfold TS.doneN; exact qb1 hp
  generalize T.doneN (ns.take i) = T₁ at *
  repeat walk_at "x"
  walk_at "xi"
  refine GM_dict R'.n2i F.slot_dict_get F.type_dict_get ?_
  repeat walk_at "x"
  refine ⟨qad, CV_get B R'.n2i ?_⟩
  refine rE (qcf hkk) ?_
  repeat walk_at "x"
  refine ⟨_, rfl, fun q => (by cases q), fun _ => ?_⟩
  repeat walk_at "x"
  refine qcc (p := 87) (i := 1) B (R'.node k hkk) (R'.nd k hkk) rfl ?_
  refine rE hk2 ?_
  repeat walk_at "x"
  walk_at "xi"
  refine EV_gi B g_out ?_
  repeat walk_at "x"
  refine ⟨_, rfl, fun q => (by simp at q), fun _ => ?_⟩
  repeat walk_at "x"
  refine EV_gi B g_dn ?_
  repeat walk_at "x"
  refine qcu (p := 87) (i := 1) B (R'.node k hkk) (R'.nd k hkk) ?_
  refine eA (R'.setNp hkk (-2)) fun R₂ F₂ => ?_
  repeat walk_at "x"
  refine qcv (l := T₁.sc k) (f := V.int) (m0 := [("n2i", .ref L.n2i), ("self", .ref a)]) (ok := fun H' => H' (L.bL k) = some (.list ((T₁.sc k).map .int))) (J := DnJ H a T L (T₁.sc k) (T₁.setNp k (-2))) ?_ ?_ (fun j y hy H' hJ RQ hRQ => ?_) fun H' hJ => ?_
  ·repeat walk_at "x"
   refine qcc (p := 88) (i := 2) B (R₂.node k hkk) (R₂.nd k hkk) rfl ?_
   exact ⟨qce hA'.handled (R₂.succ k hkk), .cons rfl (.cons rfl .nil), ⟨R₂, F'.trans F₂⟩⟩
  ·rintro j H' ⟨R₃, F₃⟩
   have eR := @rel_eq ((T₁.sc k).take j) (T₁.setNp k (-2))
   have := R₃.succ k (by refine rE eR.1 ?_; exact hkk)
   rw [eR.2.2.2] at this; exact this
  ·obtain ⟨R₃, F₃⟩ := hJ
   have eR := @rel_eq ((T₁.sc k).take j) (T₁.setNp k (-2))
   obtain ⟨r₃, hr₃, hl₃⟩ := rel_ready (l := (T₁.sc k).take j) (T := T₁.setNp k (-2)) hr₁
   have hyk : y ∈ (((T₁.sc k).take j).foldl TS.rel (T₁.setNp k (-2))).keys := by
    refine rE eR.1 ?_; show y ∈ T₁.keys
    refine rE eN.1 ?_; exact hs k hk1 y (by refine rF eN.2.2.2 ?_; exact List.mem_of_getElem? hy)
   have hl₃' : r₃.length ≤ sizeLine := by
    have h1 := hM k
    rw [← eN.2.2.2] at h1
    have : ((T₁.sc k).take j).length ≤ (T₁.sc k).length := by refine rE List.length_take ?_; exact Nat.min_le_right j (T₁.sc k).length
    lia
   have estep2 : ((T₁.sc k).take (j + 1)).foldl TS.rel (T₁.setNp k (-2)) = (((T₁.sc k).take j).foldl TS.rel (T₁.setNp k (-2))).rel y := qb1 hy
   generalize ((T₁.sc k).take j).foldl TS.rel (T₁.setNp k (-2)) = T₃ at *
   have hv₃ : rdV T₃ L = .ref L.rd := by unfold rdV; refine rE hr₃ rfl
   refine eA (R₃.rel hr₃ hyk) fun R₄ F₄ => ?_
   refine eA (R₃.setNp hyk (T₃.np y - 1)) fun R₅ F₅ => ?_
   repeat walk_at "x"
   refine qau R₃.n2i (qcf hyk) ?_
   repeat walk_at "x"
   refine qcc (p := 87) (i := 1) B (R₃.node y hyk) (R₃.nd y hyk) rfl ?_
   repeat walk_at "x"
   refine qcu (p := 87) (i := 1) B (R₃.node y hyk) (R₃.nd y hyk) ?_
   repeat walk_at "x"
   walk_at "xi"
   refine qcc (p := 87) (i := 1) B (R₅.node y hyk) (R₅.nd y hyk) rfl ?_
   repeat walk_at "x"
   refine ⟨_, rfl, fun q => ?_, fun q => ?_⟩
   ·have q : T₃.np y - 1 = 0 := by simpa [TS.setNp, qah] using q
    rw [if_pos q] at R₄ F₄
    repeat walk_at "x"
    refine qa9 B R₅.top R₅.dict rfl ?_ (by kernel_rfl) (by show VHand (rdV T₃ L); refine rE hv₃ ?_; exact trivial)
    refine rE (show rdV (T₃.setNp y (T₃.np y - 1)) L = .ref L.rd from hv₃) ?_
    refine qa8 (.own (R₅.rdy r₃ hr₃)) F.slot_list_append F.type_list_append ?_
    repeat walk_at "x"
    refine ⟨qad, qch (R₅.rdy r₃ hr₃) (by refine rE (List.length_map ..) ?_; exact hl₃') ?_⟩
    repeat walk_at "x"
    rw [List.map_append] at R₄ F₄
    exact (hRQ _ _ (.cons rfl (.cons rfl .nil)) ⟨by refine rE estep2 ?_; exact R₄, by refine rE estep2 ?_; exact F₃.trans F₄⟩).1
   ·have q : ¬ T₃.np y - 1 = 0 := by simpa [TS.setNp, qah] using q
    rw [if_neg q] at R₄ F₄
    repeat walk_at "x"
    exact (hRQ _ _ (.cons rfl (.cons rfl .nil)) ⟨by refine rE estep2 ?_; exact R₄, by refine rE estep2 ?_; exact F₃.trans F₄⟩).1
  ·obtain ⟨R₃, F₃⟩ := hJ
   rw [List.take_length] at R₃ F₃
   repeat walk_at "x"
   refine qa9 B R₃.top R₃.dict rfl ?_
   repeat walk_at "x"
   refine SA_own B R₃.top R₃.dict (by first | with_unfolding_all exact (by decide : (4:Nat) < 1000)) ?_
   refine eA (R₃.setNums ((T₁.sc k).foldl TS.rel (T₁.setNp k (-2))).pass (((T₁.sc k).foldl TS.rel (T₁.setNp k (-2))).fin + 1)) fun R₄ F₄ => ?_
   repeat walk_at "x"
   have e : { (T₁.sc k).foldl TS.rel (T₁.setNp k (-2)) with pass := ((T₁.sc k).foldl TS.rel (T₁.setNp k (-2))).pass, fin := ((T₁.sc k).foldl TS.rel (T₁.setNp k (-2))).fin + 1 } = T₁.done1 k := by
    unfold TS.done1; refine rE ((@rel_eq (T₁.sc k) (T₁.setNp k (-2))).2.2.1) ?_; rfl
   rw [e] at R₄ F₄
   exact (hRR _ _ (.cons rfl (.cons rfl .nil)) ⟨by refine rE estep ?_; exact R₄, by refine rE estep ?_; exact F₃.trans F₄⟩).1
 ·obtain ⟨R', F'⟩ := hJ
  repeat walk_at "x"
  rw [List.take_length] at R' F'
  exact hR0 _ _ ⟨rfl, R', F'⟩
end
end
section
structure Mid (T : TS) (near : Int → List Int) (k : Int) (n : Nat) : Prop where
 np : ∀ x ∈ T.keys, T.np x = (near x).length + (if x = k then n else 0)
 sc : ∀ p ∈ T.keys, ∀ x, (T.sc p).count x = (near x).count p
 sub : ∀ x, ∀ p ∈ near x, p ∈ T.keys
 out : ∀ x, x ∉ T.keys → near x = []
 nodup : T.keys.Nodup
 pass : T.pass = 0
 fin : T.fin = 0
 ready : T.ready = none
noncomputable abbrev Built (T : TS) (near : Int → List Int) : Prop := ∀ k, Mid T near k 0
theorem Mid.built {T : TS} {near : Int → List Int} {k : Int} (M : Mid T near k 0) : Built T near := fun k' => ⟨fun x hx => by have := M.np x hx; simpa using this, M.sc, M.sub, M.out, M.nodup, M.pass, M.fin, M.ready⟩
theorem Built.new : Built TS.new (fun _ => []) := fun k => ⟨(by intro _ h; cases h), (by intro _ h; cases h), (by intro _ _ h; cases h), fun _ _ => rfl, .nil, rfl, rfl, rfl⟩
theorem Mid.touch {T : TS} {near : Int → List Int} {k : Int} {n : Nat} (M : Mid T near k n) (hk : n ≠ 0 → k ∈ T.keys) (p : Int) : Mid (T.touch p) near k n := by
 unfold TS.touch
 by_cases h : p ∈ T.keys
 ·refine rE (if_pos h) ?_; exact M
 ·refine rE (if_neg h) ?_
  have hne : ∀ x ∈ T.keys, x ≠ p := fun x hx e => h (e ▸ hx)
  refine ⟨fun x hx => ?_, fun q hq x => ?_, fun x q hq => List.mem_append_left _ (M.sub x q hq), fun x hx => M.out x fun q => hx (List.mem_append_left _ q), ?_, M.pass, M.fin, M.ready⟩
  ·show upd T.np p 0 x = _
   rcases List.mem_append.mp hx with hx | hx
   ·refine rE (qap (hne x hx)) ?_; exact M.np x hx
   ·refine rE (List.mem_singleton.mp hx) (rE qah (rE (M.out p h) ?_))
    by_cases e : p = k
    ·by_cases e0 : n = 0
     ·refine rE e0 ?_; simp
     ·exact absurd (hk e0) (e ▸ h)
    ·refine rE (if_neg e) ?_; rfl
  ·show (upd T.sc p [] q).count x = _
   rcases List.mem_append.mp hq with hq | hq
   ·refine rE (qap (hne q hq)) ?_; exact M.sc q hq x
   ·refine rE (List.mem_singleton.mp hq) (rE qah ?_)
    exact (List.count_eq_zero.mpr fun hp => h (M.sub x p hp)).symm
  ·rw [List.nodup_append]
   exact ⟨M.nodup, by simp, fun x hx y hy => by refine rE (List.mem_singleton.mp hy) ?_; exact hne x hx⟩
theorem qcj {T : TS} {p x : Int} (h : x ∈ T.keys) : x ∈ (T.touch p).keys := by
 unfold TS.touch; split
 ·exact h
 ·exact List.mem_append_left _ h
theorem touch_own {T : TS} {p : Int} : p ∈ (T.touch p).keys := by
 unfold TS.touch; split
 ·assumption
 ·simp
theorem Mid.link {T : TS} {near : Int → List Int} {k p : Int} {n : Nat} (M : Mid T near k (n + 1)) (hk : k ∈ T.keys) (hp : p ∈ T.keys) : Mid (T.link p k) (upd near k (near k ++ [p])) k n := by
 refine ⟨fun x hx => ?_, fun q hq x => ?_, fun x q hq => ?_, fun x hx => ?_, M.nodup, M.pass, M.fin, M.ready⟩
 ·show T.np x = _
  refine rE (M.np x hx) ?_
  by_cases e : x = k
  ·subst e; refine rE qah ?_; simp; lia
  ·refine rE (qap e) (rE (if_neg e) (rE (if_neg e) rfl))
 ·show (upd T.sc p (T.sc p ++ [k]) q).count x = _
  by_cases e : q = p
  ·subst e
   refine rE qah (rE List.count_append (rE (M.sc q hq x) ?_))
   by_cases e2 : x = k
   ·subst e2; refine rE qah (rE List.count_append ?_); simp
   ·refine rE (qap e2) (rE List.count_singleton ?_)
    simp; exact fun h => e2 h.symm
  ·refine rE (qap e) (rE (M.sc q hq x) ?_)
   by_cases e2 : x = k
   ·subst e2; refine rE qah (rE List.count_append (rE List.count_singleton ?_)); simp; exact fun h => e h.symm
   ·refine rE (qap e2) rfl
 ·by_cases e2 : x = k
  ·subst e2; rw [qah] at hq
   rcases List.mem_append.mp hq with hq | hq
   ·exact M.sub x q hq
   ·refine rE (List.mem_singleton.mp hq) ?_; exact hp
  ·rw [qap e2] at hq; exact M.sub x q hq
 ·have e2 : x ≠ k := fun e => hx (e ▸ hk)
  refine rE (qap e2) ?_; exact M.out x hx
theorem upd_upd {α : Type} {f : Int → α} {k : Int} {u v : α} : upd (upd f k u) k v = upd f k v := by
 funext x; unfold upd; split <;> rfl
theorem upd_self {α : Type} {f : Int → α} {k : Int} : upd f k (f k) = f := by
 funext x; unfold upd; split
 ·rename_i h; refine rE h rfl
 ·rfl
theorem Mid.fold {k : Int} : ∀ {ps : List Int} {T : TS} {near : Int → List Int}, Mid T near k ps.length → k ∈ T.keys → Mid (ps.foldl (fun T p => (T.touch p).link p k) T) (upd near k (near k ++ ps)) k 0 ∧ k ∈ (ps.foldl (fun T p => (T.touch p).link p k) T).keys ∧ ∀ x ∈ T.keys, x ∈ (ps.foldl (fun T p => (T.touch p).link p k) T).keys
 | [], T, near, M, hk => by refine rE (List.append_nil ..) (rE upd_self ?_); exact ⟨M, hk, fun x h => h⟩
 | p :: ps, T, near, M, hk => by
  have M1 := (M.touch (fun _ => hk) p).link (qcj hk) touch_own
  have := Mid.fold (ps := ps) M1 (qcj hk)
  rw [upd_upd, qah, List.append_assoc] at this
  exact ⟨this.1, this.2.1, fun x hx => this.2.2 x (qcj hx)⟩
theorem Built.add {T : TS} {near : Int → List Int} (M : Built T near) (k : Int) (ps : List Int) : Built (T.add k ps) (upd near k (near k ++ ps)) ∧ k ∈ (T.add k ps).keys ∧ ∀ x ∈ T.keys, x ∈ (T.add k ps).keys := by
 have M1 := (M k).touch (fun h => absurd rfl h) k
 have hk : k ∈ (T.touch k).keys := touch_own
 have M2 : Mid ((T.touch k).setNp k ((T.touch k).np k + ps.length)) near k ps.length := by
  refine ⟨fun x hx => ?_, M1.sc, M1.sub, M1.out, M1.nodup, M1.pass, M1.fin, M1.ready⟩
  show upd _ k _ x = _
  by_cases e : x = k
  ·subst e; refine rE qah (rE (M1.np x hx) ?_); simp
  ·refine rE (qap e) (rE (M1.np x hx) (rE (if_neg e) (rE (if_neg e) rfl)))
 have := Mid.fold (ps := ps) M2 hk
 exact ⟨this.1.built, this.2.1, fun x hx => this.2.2 x (qcj hx)⟩
structure Run (T : TS) (near : Int → List Int) (dn out ready : List Int) : Prop where
 nodup : T.keys.Nodup
 sc : ∀ p ∈ T.keys, ∀ x, (T.sc p).count x = (near x).count p
 sub : ∀ x, ∀ p ∈ near x, p ∈ T.keys
 ink : ∀ x, x ∉ T.keys → near x = []
 rdy : T.ready = some ready
 np : ∀ x ∈ T.keys, x ∉ dn → x ∉ out → T.np x = ((near x).countP fun p => decide (p ∉ dn))
 npo : ∀ x ∈ out, T.np x = -1
 rmem : ∀ x, x ∈ ready ↔ x ∈ T.keys ∧ x ∉ dn ∧ x ∉ out ∧ ∀ p ∈ near x, p ∈ dn
 rnd : ready.Nodup
 ond : out.Nodup
 dnd : dn.Nodup
 oks : ∀ x ∈ out, x ∈ T.keys
 dks : ∀ x ∈ dn, x ∈ T.keys
 disj : ∀ x ∈ out, x ∉ dn
 odep : ∀ x ∈ out, ∀ p ∈ near x, p ∈ dn
 ddep : ∀ x ∈ dn, ∀ p ∈ near x, p ∈ dn
 pass : T.pass = dn.length + out.length
 fin : T.fin = dn.length
theorem Run.start {T : TS} {near : Int → List Int} (B : Built T near) : Run T.prep near [] [] (T.keys.filter fun k => T.np k == 0) := by
 have M := B 0
 have hnp : ∀ x ∈ T.keys, T.np x = (near x).length := fun x hx => by have := M.np x hx; simpa using this
 refine ⟨M.nodup, M.sc, M.sub, M.out, rfl, fun x hx _ _ => ?_, (by intro _ h; cases h), fun x => ?_, M.nodup.filter _, .nil, .nil, (by intro _ h; cases h), (by intro _ h; cases h), (by intro _ h; cases h), (by intro _ h; cases h), (by intro _ h; cases h), M.pass, M.fin⟩
 ·show T.np x = _
  refine rE (hnp x hx) ?_; simp
 ·rw [List.mem_filter]
  constructor
  ·rintro ⟨h1, h2⟩
   refine ⟨h1, by exact List.not_mem_nil, by exact List.not_mem_nil, fun p hp => ?_⟩
   rw [hnp x h1] at h2
   have : near x = [] := by simpa using h2
   rw [this] at hp; cases hp
  ·rintro ⟨h1, _, _, h4⟩
   refine ⟨h1, ?_⟩
   have : near x = [] := List.eq_nil_iff_forall_not_mem.mpr fun p hp => by cases h4 p hp
   refine rE (hnp x h1) (rE this ?_); rfl
theorem out_np {ks : List Int} : ∀ {T : TS} {x : Int}, (T.out ks).np x = if x ∈ ks then -1 else T.np x := by
 induction ks with
 | nil => intro T x; simp [TS.out]
 | cons k r ih =>
  intro T x
  show ((T.setNp k (-1)).out r).np x = _
  refine rE ih ?_
  by_cases h : x ∈ r
  ·refine rE (if_pos h) (rE (if_pos (List.mem_cons_of_mem _ h)) rfl)
  ·refine rE (if_neg h) ?_
   show upd T.np k (-1) x = _
   by_cases e : x = k
   ·subst e; refine rE qah (rE (if_pos List.mem_cons_self) rfl)
   ·refine rE (qap e) (rE (if_neg (by exact List.not_mem_cons_of_ne_of_not_mem e h)) rfl)
section
variable {T : TS} {near : Int → List Int} {dn out ready : List Int}
theorem Run.get (R : Run T near dn out ready) : Run (T.getReady ready) near dn (out ++ ready) [] := by
 have e := @TS.out_eq ready T
 have hnp : ∀ x, (T.getReady ready).np x = if x ∈ ready then -1 else T.np x := fun x => out_np
 have hk : (T.getReady ready).keys = T.keys := e.1
 have hs : (T.getReady ready).sc = T.sc := e.2.2.2.2
 refine ⟨by refine rE hk ?_; exact R.nodup, by refine rE hk (rE hs ?_); exact R.sc, by refine rE hk ?_; exact R.sub, by refine rE hk ?_; exact R.ink, rfl, fun x hx h1 h2 => ?_, fun x hx => ?_, fun x => ?_, .nil, ?_, R.dnd, fun x hx => ?_, by refine rE hk ?_; exact R.dks, fun x hx => ?_, fun x hx => ?_, R.ddep, ?_, ?_⟩
 ·rw [hk] at hx
  rw [List.mem_append, not_or] at h2
  refine rE (hnp ..) (rE (if_neg h2.2) ?_); exact R.np x hx h1 h2.1
 ·refine rE (hnp ..) ?_
  by_cases h : x ∈ ready
  ·refine rE (if_pos h) rfl
  ·refine rE (if_neg h) ?_; exact R.npo x ((List.mem_append.mp hx).resolve_right h)
 ·refine rE hk ?_
  refine ⟨fun h => (by cases h), fun ⟨h1, h2, h3, h4⟩ => ?_⟩
  rw [List.mem_append, not_or] at h3
  exact absurd ((R.rmem x).mpr ⟨h1, h2, h3.1, h4⟩) h3.2
 ·rw [List.nodup_append]
  exact ⟨R.ond, R.rnd, fun x hx y hy e => ((R.rmem y).mp hy).2.2.1 (e ▸ hx)⟩
 ·refine rE hk ?_
  rcases List.mem_append.mp hx with h | h
  ·exact R.oks x h
  ·exact ((R.rmem x).mp h).1
 ·rcases List.mem_append.mp hx with h | h
  ·exact R.disj x h
  ·exact ((R.rmem x).mp h).2.1
 ·rcases List.mem_append.mp hx with h | h
  ·exact R.odep x h
  ·exact ((R.rmem x).mp h).2.2.2
 ·show T.pass + _ = _
  refine rE R.pass (rE List.length_append ?_); lia
 ·show (T.out ready).fin = _
  refine rE e.2.2.2.1 ?_; exact R.fin
theorem relN : ∀ {l : List Int} {T : TS} {r : List Int}, T.ready = some r → (∀ x ∈ l, (l.count x : Int) ≤ T.np x) → (∀ x ∈ l, x ∉ r) → r.Nodup →
  ∃ r', (l.foldl TS.rel T).ready = some r' ∧ (∀ x, x ∈ r' ↔ x ∈ r ∨ (x ∈ l ∧ T.np x = l.count x)) ∧ r'.Nodup ∧ ∀ x, (l.foldl TS.rel T).np x = T.np x - l.count x
 | [], T, r, h, _, _, hn => ⟨r, h, fun x => by simp, hn, fun x => by simp⟩
 | y :: t, T, r, h, hc, hd, hn => by
  have hy := hc y List.mem_cons_self
  rw [List.count_cons_self] at hy
  have hnp : ∀ x, (T.rel y).np x = if x = y then T.np y - 1 else T.np x := fun x => by
   show upd T.np y _ x = _; unfold upd; rfl
  have hc' : ∀ x ∈ t, (t.count x : Int) ≤ (T.rel y).np x := fun x hx => by
   refine rE (hnp ..) ?_
   by_cases e : x = y
   ·subst e; refine rE (if_pos rfl) ?_; exact Int.le_sub_one_of_lt hy
   ·refine rE (if_neg e) ?_; have := hc x (List.mem_cons_of_mem _ hx); rw [List.count_cons_of_ne (fun q => e q.symm)] at this; exact this
  by_cases e0 : T.np y - 1 = 0
  ·have hyt : y ∉ t := fun q => by have := List.count_pos_iff.mpr q; lia
   have h1 : (T.rel y).ready = some (r ++ [y]) := by show (if _ then _ else _) = _; refine rE (if_pos e0) (rE h ?_); rfl
   obtain ⟨r', a1, a2, a3, a4⟩ := relN (l := t) h1 hc' (fun x hx => by
    rw [List.mem_append, List.mem_singleton, not_or]; exact ⟨hd x (List.mem_cons_of_mem _ hx), fun e => hyt (e ▸ hx)⟩) (by
    rw [List.nodup_append]; exact ⟨hn, by simp, fun x hx z hz e => hd y List.mem_cons_self (by refine rF (List.mem_singleton.mp hz) (rF e ?_); exact hx)⟩)
   refine ⟨r', a1, fun x => ?_, a3, fun x => ?_⟩
   ·rewrite [a2]; refine rE (hnp ..) ?_; rewrite [List.mem_append, List.mem_singleton, List.mem_cons]
    by_cases e : x = y
    ·subst e
     refine rE List.count_cons_self (rE (List.count_eq_zero.mpr hyt) ?_)
     have : T.np x = 1 := by exact (Int.add_left_inj (-1)).mp e0
     simp [this]
    ·refine rE (if_neg e) (rE (List.count_cons_of_ne (fun q => e q.symm)) ?_); simp [e]
   ·show (t.foldl TS.rel (T.rel y)).np x = _
    refine rE (a4 ..) (rE (hnp ..) ?_)
    by_cases e : x = y
    ·subst e; refine rE (if_pos rfl) (rE List.count_cons_self ?_); lia
    ·refine rE (if_neg e) (rE (List.count_cons_of_ne (fun q => e q.symm)) rfl)
  ·have h1 : (T.rel y).ready = some r := by show (if _ then _ else _) = _; refine rE (if_neg e0) (rE h rfl)
   refine eEAAA (relN (l := t) h1 hc' (fun x hx => hd x (List.mem_cons_of_mem _ hx)) hn) fun r' a1 a2 a3 a4 => ?_
   refine ⟨r', a1, fun x => ?_, a3, fun x => ?_⟩
   ·rewrite [a2]; refine rE (hnp ..) ?_; rewrite [List.mem_cons]
    by_cases e : x = y
    ·subst e
     refine rE (if_pos rfl) (rE List.count_cons_self ?_)
     have hxr := hd x List.mem_cons_self
     simp only [hxr, false_or, true_or, true_and]
     constructor
     ·rintro ⟨_, h⟩; lia
     ·intro h
      have hp : 0 < t.count x := by lia
      exact ⟨List.count_pos_iff.mp hp, by exact Int.sub_eq_iff_eq_add.mpr h⟩
    ·refine rE (if_neg e) (rE (List.count_cons_of_ne (fun q => e q.symm)) ?_); simp [e]
   ·show (t.foldl TS.rel (T.rel y)).np x = _
    refine rE (a4 ..) (rE (hnp ..) ?_)
    by_cases e : x = y
    ·subst e; refine rE (if_pos rfl) (rE List.count_cons_self ?_); omega
    ·refine rE (if_neg e) (rE (List.count_cons_of_ne (fun q => e q.symm)) rfl)
theorem qb6 {dn : List Int} {k : Int} (hk : k ∉ dn) : ∀ {l : List Int}, (l.countP fun p => decide (p ∉ dn)) = (l.countP fun p => decide (p ∉ k :: dn)) + l.count k
 | [] => rfl
 | a :: l => by
  have ih := qb6 hk (l := l)
  by_cases e : a = k
  ·subst e; refine rE (List.countP_cons_of_pos (by exact decide_eq_true hk)) (rE (List.countP_cons_of_neg (by simp)) (rE List.count_cons_self ?_)); exact Nat.add_left_inj.mpr ih
  ·by_cases h : a ∈ dn
   ·refine rE (List.countP_cons_of_neg (by simp [h])) (rE (List.countP_cons_of_neg (by simp [h])) (rE (List.count_cons_of_ne e) ?_)); exact ih
   ·refine rE (List.countP_cons_of_pos (by exact decide_eq_true h)) (rE (List.countP_cons_of_pos (by simp [h, e])) (rE (List.count_cons_of_ne e) ?_)); lia
theorem Run.done (R : Run T near dn out ready) {k : Int} (hk : k ∈ out) : ∃ ready', Run (T.done1 k) near (k :: dn) (out.erase k) ready' := by
 have hkd := R.disj k hk
 have hkk := R.oks k hk
 have scmem : ∀ x, x ∈ T.sc k ↔ k ∈ near x := fun x => by
  have := R.sc k hkk x
  rewrite [← List.count_pos_iff]; refine rE this ?_; rw [List.count_pos_iff]
 have hx1 : ∀ x ∈ T.sc k, x ∈ T.keys ∧ x ∉ dn ∧ x ∉ out ∧ x ≠ k := fun x hx => by
  have h := (scmem x).mp hx
  refine ⟨?_, fun q => hkd (R.ddep x q k h), fun q => hkd (R.odep x q k h), fun q => hkd (R.odep k hk k (q ▸ h))⟩
  apply Classical.byContradiction
  intro q
  rw [R.ink x q] at h; cases h
 have e := @done1_eq T k
 have hnp0 : ∀ x, x ≠ k → (T.setNp k (-2)).np x = T.np x := fun x hx => qap hx
 obtain ⟨r', a1, a2, a3, a4⟩ := relN (l := T.sc k) (T := T.setNp k (-2)) (r := ready) R.rdy (fun x hx => by
  refine eAAA (hx1 x hx) fun h1 h2 h3 h4 => ?_
  refine rE (hnp0 x h4) (rE (R.np x h1 h2 h3) (rE (R.sc k hkk x) (rE (qb6 hkd) ?_))); lia) (fun x hx q => hkd (((R.rmem x).mp q).2.2.2 k ((scmem x).mp hx))) R.rnd
 have hk' : (T.done1 k).keys = T.keys := e.1
 have hs : (T.done1 k).sc = T.sc := e.2.2.2
 have hnp : ∀ x, (T.done1 k).np x = (T.setNp k (-2)).np x - (T.sc k).count x := a4
 have hmem : ∀ x, x ∈ out.erase k → x ∈ out ∧ x ≠ k := fun x hx => ⟨List.mem_of_mem_erase hx, fun e => by subst e; exact (List.Nodup.not_mem_erase R.ond) hx⟩
 refine ⟨r', by refine rE hk' ?_; exact R.nodup, by refine rE hk' (rE hs ?_); exact R.sc, by refine rE hk' ?_; exact R.sub, by refine rE hk' ?_; exact R.ink, a1, fun x hx h1 h2 => ?_, fun x hx => ?_, fun x => ?_, a3, R.ond.erase k, ?_, fun x hx => ?_, fun x hx => ?_, fun x hx => ?_, fun x hx p hp => ?_, fun x hx p hp => ?_, ?_, ?_⟩
 ·rw [hk'] at hx
  rw [List.mem_cons, not_or] at h1
  have h2' : x ∉ out := fun q => h2 ((List.mem_erase_of_ne h1.1).mpr q)
  refine rE (hnp ..) (rE (hnp0 x h1.1) (rE (R.np x hx h1.2 h2') (rE (R.sc k hkk x) (rE (qb6 hkd) ?_)))); exact Int.sub_eq_iff_eq_add.mpr rfl
 ·refine eA (hmem x hx) fun h1 h2 => ?_
  refine rE (hnp ..) (rE (hnp0 x h2) (rE (R.npo x h1) (rE (List.count_eq_zero.mpr (fun q => (hx1 x q).2.2.1 h1)) ?_))); rfl
 ·rewrite [a2]; refine rE hk' ?_; rewrite [R.rmem]
  constructor
  ·rintro (⟨h1, h2, h3, h4⟩ | ⟨h1, h2⟩)
   ·have hxk : x ≠ k := fun q => h3 (q ▸ hk)
    exact ⟨h1, by rw [List.mem_cons, not_or]; exact ⟨hxk, h2⟩, fun q => h3 (List.mem_of_mem_erase q), fun p hp => List.mem_cons_of_mem _ (h4 p hp)⟩
   ·refine eAAA (hx1 x h1) fun b1 b2 b3 b4 => ?_
    refine ⟨b1, by rw [List.mem_cons, not_or]; exact ⟨b4, b2⟩, fun q => b3 (List.mem_of_mem_erase q), fun p hp => ?_⟩
    rw [hnp0 x b4, R.np x b1 b2 b3, R.sc k hkk x, qb6 hkd] at h2
    have h0 : (near x).countP (fun p => decide (p ∉ k :: dn)) = 0 := by lia
    have := List.countP_eq_zero.mp h0 p hp
    exact Classical.byContradiction fun q => this (decide_eq_true q)
  ·rintro ⟨h1, h2, h3, h4⟩
   rw [List.mem_cons, not_or] at h2
   have h3' : x ∉ out := fun q => h3 ((List.mem_erase_of_ne h2.1).mpr q)
   by_cases q : k ∈ near x
   ·refine .inr ⟨(scmem x).mpr q, ?_⟩
    refine rE (hnp0 x h2.1) (rE (R.np x h1 h2.2 h3') (rE (R.sc k hkk x) (rE (qb6 hkd) ?_)))
    have h0 : (near x).countP (fun p => decide (p ∉ k :: dn)) = 0 := List.countP_eq_zero.mpr fun p hp q => (of_decide_eq_true q) (h4 p hp)
    lia
   ·refine .inl ⟨h1, h2.2, h3', fun p hp => ?_⟩
    rcases List.mem_cons.mp (h4 p hp) with h | h
    ·exact absurd (h ▸ hp) q
    ·exact h
 ·rw [List.nodup_cons]; exact ⟨hkd, R.dnd⟩
 ·refine rE hk' ?_; exact R.oks x (hmem x hx).1
 ·refine rE hk' ?_
  rcases List.mem_cons.mp hx with h | h
  ·exact h ▸ hkk
  ·exact R.dks x h
 ·rw [List.mem_cons, not_or]; exact ⟨(hmem x hx).2, R.disj x (hmem x hx).1⟩
 ·exact List.mem_cons_of_mem _ (R.odep x (hmem x hx).1 p hp)
 ·rcases List.mem_cons.mp hx with h | h
  ·subst h; exact List.mem_cons_of_mem _ (R.odep x hk p hp)
  ·exact List.mem_cons_of_mem _ (R.ddep x h p hp)
 ·refine rE e.2.1 (rE R.pass (rE List.length_cons (rE (List.length_erase_of_mem hk) ?_)))
  have := List.length_pos_of_mem hk; lia
 ·refine rE e.2.2.1 (rE R.fin (rE List.length_cons ?_)); exact Int.ofNat_add_one_out dn.length
theorem Run.all (R : Run T near dn [] []) {rk : Int → Nat} (hrk : ∀ x ∈ T.keys, ∀ p ∈ near x, rk p < rk x) : ∀ x ∈ T.keys, x ∈ dn := by
 have : ∀ n x, rk x < n → x ∈ T.keys → x ∈ dn := by
  intro n
  induction n with
  | zero => intro x h; lia
  | succ n ih =>
   intro x h hx
   apply Classical.byContradiction
   intro q
   have := (R.rmem x).mpr ⟨hx, q, by exact List.not_mem_nil, fun p hp => ih p (by have := hrk x hx p hp; lia) (R.sub x p hp)⟩
   cases this
 exact fun x hx => this (rk x + 1) x (Nat.lt_succ_self _) hx
end
end
section
noncomputable def addL (l : List (Int × List Int)) : TS := l.foldl (fun T p => T.add p.1 p.2) TS.new
noncomputable def nearL (l : List (Int × List Int)) : Int → List Int := l.foldl (fun nr p => upd nr p.1 (nr p.1 ++ p.2)) fun _ => []
theorem qa1 {l : List (Int × List Int)} {k : Int} {ps : List Int} : addL (l ++ [(k, ps)]) = (addL l).add k ps := by unfold addL; refine rE List.foldl_append ?_; rfl
theorem nearL_snoc {l : List (Int × List Int)} {k : Int} {ps : List Int} : nearL (l ++ [(k, ps)]) = upd (nearL l) k (nearL l k ++ ps) := by unfold nearL; refine rE List.foldl_append ?_; rfl
theorem snoc_ind {α : Type} {P : List α → Prop} (h0 : P []) (h1 : ∀ l a, P l → P (l ++ [a])) (l : List α) : P l := by
 refine rF (List.reverse_reverse l) ?_
 induction l.reverse with
 | nil => exact h0
 | cons a r ih => refine rE List.reverse_cons ?_; exact h1 _ _ ih
theorem qa6 (l : List (Int × List Int)) : Built (addL l) (nearL l) ∧ ∀ p ∈ l, p.1 ∈ (addL l).keys := by
 induction l using snoc_ind with
 | h0 => exact ⟨Built.new, by intro _ h; cases h⟩
 | h1 l p ih =>
  obtain ⟨k, ps⟩ := p
  refine rE qa1 (rE nearL_snoc ?_)
  refine eAA (ih.1.add k ps) fun h1 h2 h3 => ?_
  refine ⟨h1, fun q hq => ?_⟩
  rcases List.mem_append.mp hq with h | h
  ·exact h3 _ (ih.2 q h)
  ·refine rE (List.mem_singleton.mp h) ?_; exact h2
theorem TS.Le.add {T : TS} {n : Nat} (h : T.Le n) (k : Int) (ps : List Int) : (T.add k ps).Le (n + 1 + 2 * ps.length) := add_le (k := k) (ps := ps) ((h.touch k).setNp k _)
theorem addL_le {M : Nat} (l : List (Int × List Int)) (h : ∀ p ∈ l, p.2.length ≤ M) : (addL l).Le (l.length * (1 + 2 * M)) := by
 induction l using snoc_ind with
 | h0 => exact ⟨Nat.zero_le _, fun k => Nat.zero_le _⟩
 | h1 l p ih =>
  obtain ⟨k, ps⟩ := p
  refine rE qa1 ?_
  refine ((ih fun q hq => h q (List.mem_append_left _ hq)).add _ _).mono ?_
  have := h (k, ps) (List.mem_append_right _ (List.mem_singleton.mpr rfl))
  have e : (l ++ [(k, ps)]).length * (1 + 2 * M) = l.length * (1 + 2 * M) + (1 + 2 * M) := by refine rE List.length_append (rE List.length_singleton (rE (Nat.add_mul ..) (rE (Nat.one_mul ..) rfl)))
  have e2 : ps.length ≤ M := this
  refine rE e ?_
  lia
theorem add_keys {Q : Int → Prop} {T : TS} {k : Int} {ps : List Int} (hT : ∀ x ∈ T.keys, Q x) (hk : Q k) (hp : ∀ p ∈ ps, Q p) : ∀ x ∈ (T.add k ps).keys, Q x := by
 have touch : ∀ {T : TS} {p : Int}, (∀ x ∈ T.keys, Q x) → Q p → ∀ x ∈ (T.touch p).keys, Q x := fun {T p} h hp x hx => by
  unfold TS.touch at hx
  split at hx
  ·exact h x hx
  ·rcases List.mem_append.mp hx with hx | hx
   ·exact h x hx
   ·refine rE (List.mem_singleton.mp hx) ?_; exact hp
 have fold : ∀ {ps : List Int} {T : TS}, (∀ x ∈ T.keys, Q x) → (∀ p ∈ ps, Q p) → ∀ x ∈ (ps.foldl (fun T p => (T.touch p).link p k) T).keys, Q x := by
  intro ps
  induction ps with
  | nil => intro T h _ x hx; exact h x hx
  | cons p ps ih =>
   intro T h hp x hx
   exact ih (T := (T.touch p).link p k) (touch h (hp p List.mem_cons_self)) (fun q hq => hp q (List.mem_cons_of_mem _ hq)) x hx
 unfold TS.add
 exact fold (T := (T.touch k).setNp k ((T.touch k).np k + ps.length)) (touch hT hk) hp
theorem addL_keys {Q : Int → Prop} (l : List (Int × List Int)) (h : ∀ p ∈ l, Q p.1 ∧ ∀ x ∈ p.2, Q x) : ∀ x ∈ (addL l).keys, Q x := by
 induction l using snoc_ind with
 | h0 => intro x hx; cases hx
 | h1 l p ih =>
  obtain ⟨k, ps⟩ := p
  refine rE qa1 ?_
  refine eA (h (k, ps) (List.mem_append_right _ (List.mem_singleton.mpr rfl))) fun a b => ?_
  exact add_keys (ih fun q hq => h q (List.mem_append_left _ hq)) a b
theorem mem_nearL (l : List (Int × List Int)) : ∀ v x, x ∈ nearL l v ↔ ∃ p ∈ l, p.1 = v ∧ x ∈ p.2 := by
 induction l using snoc_ind with
 | h0 => intro v x; constructor; (intro h; cases h); rintro ⟨_, h, _⟩; cases h
 | h1 l p ih =>
  obtain ⟨k, ps⟩ := p
  intro v x
  refine rE nearL_snoc ?_
  by_cases e : v = k
  ·subst e
   refine rE qah ?_; rewrite [List.mem_append, ih]
   constructor
   ·rintro (⟨q, h1, h2⟩ | h)
    ·exact ⟨q, List.mem_append_left _ h1, h2⟩
    ·exact ⟨_, List.mem_append_right _ (List.mem_singleton.mpr rfl), rfl, h⟩
   ·rintro ⟨q, h1, h2, h3⟩
    rcases List.mem_append.mp h1 with h | h
    ·exact .inl ⟨q, h, h2, h3⟩
    ·rw [List.mem_singleton.mp h] at h3; exact .inr h3
  ·refine rE (qap e) ?_; rewrite [ih]
   constructor
   ·rintro ⟨q, h1, h2⟩; exact ⟨q, List.mem_append_left _ h1, h2⟩
   ·rintro ⟨q, h1, h2, h3⟩
    rcases List.mem_append.mp h1 with h | h
    ·exact ⟨q, h, h2, h3⟩
    ·rw [List.mem_singleton.mp h] at h2; exact absurd h2.symm e
theorem Run.doneN {near : Int → List Int} {ns : List Int} : ∀ {T : TS} {dn rest ready : List Int}, Run T near dn (ns ++ rest) ready → (∃ ready', Run (T.doneN ns) near (ns.reverse ++ dn) rest ready') ∧ ∀ i k, ns[i]? = some k → k ∈ T.keys ∧ (T.doneN (ns.take i)).np k = -1 := by
 induction ns with
 | nil => intro T dn rest ready R; exact ⟨⟨ready, R⟩, fun i k h => by simp at h⟩
 | cons a r ih =>
  intro T dn rest ready R
  refine eE (R.done (k := a) List.mem_cons_self) fun ready' R' => ?_
  rw [List.cons_append, List.erase_cons_head] at R'
  obtain ⟨⟨r2, R2⟩, h2⟩ := ih R'
  refine ⟨⟨r2, ?_⟩, fun i k hk => ?_⟩
  ·refine rE List.reverse_cons (rE (List.append_assoc ..) ?_); exact R2
  ·cases i with
   | zero =>
    obtain rfl : a = k := by simpa using hk
    exact ⟨R.oks _ List.mem_cons_self, R.npo _ List.mem_cons_self⟩
   | succ i =>
    refine eA (h2 i k (by simpa using hk)) fun g1 g2 => ?_
    rw [done1_eq.1] at g1
    exact ⟨g1, g2⟩
end
section
noncomputable def wtF (N : Nat) (ov : Nat → Int) : Nat → Nat → Int
 | 0, _ => 0
 | f + 1, j => 1 + ((qaa N ov j).map (wtF N ov f)).sum
theorem wt_eq {N : Nat} {ov : Nat → Int} (W : Wood N ov) : ∀ (f g j : Nat), N - j ≤ f → N - j ≤ g → j < N → wtF N ov f j = wtF N ov g j
 | 0, g, j, h1, h2, h3 => by lia
 | f + 1, 0, j, h1, h2, h3 => by lia
 | f + 1, g + 1, j, h1, h2, h3 => by
  show 1 + _ = 1 + _
  congr 2
  refine List.map_congr_left fun k hk => ?_
  have := W.kid hk
  exact wt_eq W f g k (by grind) (by grind) (mem_kids.mp hk).1
theorem wt_nonneg {N : Nat} {ov : Nat → Int} : ∀ (f j : Nat), 0 ≤ wtF N ov f j
 | 0, j => Int.le_refl _
 | f + 1, j => by
  show 0 ≤ 1 + _
  have : 0 ≤ ((qaa N ov j).map (wtF N ov f)).sum := by
   generalize qaa N ov j = l
   induction l with
   | nil => exact Int.le_refl _
   | cons a l ih => have := wt_nonneg (N := N) (ov := ov) f a; refine rE List.map_cons (rE List.sum_cons ?_); exact Int.add_nonneg this ih
  lia
theorem le_sum {w : Nat → Int} (h : ∀ k, 0 ≤ w k) : ∀ {l : List Nat} {k : Nat}, k ∈ l → w k ≤ (l.map w).sum
 | a :: l, k, hk => by
  have hs : ∀ l : List Nat, 0 ≤ (l.map w).sum := fun l => by
   induction l with
   | nil => exact Int.le_refl _
   | cons a l ih => have := h a; refine rE List.map_cons (rE List.sum_cons ?_); exact Int.add_nonneg (h a) ih
  refine rE List.map_cons (rE List.sum_cons ?_)
  rcases List.mem_cons.mp hk with rfl | hk
  ·have := hs l; exact Int.le_add_of_nonneg_right (hs l)
  ·have := le_sum h hk; have := h a; lia
noncomputable abbrev wt (N : Nat) (ov : Nat → Int) : Nat → Int := wtF N ov N
theorem wt_step {N : Nat} {ov : Nat → Int} (W : Wood N ov) {j : Nat} (hj : j < N) : wt N ov j = 1 + ((qaa N ov j).map (wt N ov)).sum := by
 obtain ⟨n, rfl⟩ : ∃ n, N = n + 1 := ⟨N - 1, by lia⟩
 show 1 + _ = 1 + _
 congr 2
 refine List.map_congr_left fun k hk => ?_
 have := W.kid hk
 exact wt_eq W _ _ k (by omega) (by exact Nat.sub_le (n + 1) k) (mem_kids.mp hk).1
theorem wt_le {N : Nat} {ov : Nat → Int} (W : Wood N ov) : ∀ j, j < N → wt N ov j ≤ N := by
 intro j
 induction j using Nat.strongRecOn with
 | _ j ih =>
  intro hj
  have nn : ∀ k, 0 ≤ wt N ov k := wt_nonneg N
  by_cases h : ov j < 0
  ·have e := sum_roots W (h := fun _ => 1) (w := wt N ov) fun j hj => wt_step W hj
   have e1 : ((List.range N).map fun _ : Nat => (1 : Int)).sum = N := by
    clear e ih hj h nn W
    induction N with
    | zero => rfl
    | succ n ihn => refine rE List.range_succ (rE List.map_append (rE List.sum_append (rE ihn ?_))); simp
   have := le_sum nn (l := (List.range N).filter fun j => decide (ov j < 0)) (k := j) (List.mem_filter.mpr ⟨List.mem_range.mpr hj, by exact decide_eq_true h⟩)
   lia
  ·have hu := W.up j hj
   have hk : j ∈ qaa N ov (ov j).toNat := mem_kids.mpr ⟨hj, by lia⟩
   have h1 := ih (ov j).toNat (by exact Mine.Wood.kid W hk) (by lia)
   have h2 := wt_step W (j := (ov j).toNat) (by omega)
   have := le_sum nn hk
   lia
noncomputable def addsU (ov : Nat → Int) (i : Nat) : List (Int × List Int) := (List.range i).flatMap fun j : Nat => ((j : Int), ([] : List Int)) :: if 0 ≤ ov j then [(ov j, [(j : Int)])] else []
noncomputable def addsD (ov : Nat → Int) (i : Nat) : List (Int × List Int) := (List.range i).flatMap fun j : Nat => ((j : Int), ([] : List Int)) :: if 0 ≤ ov j then [((j : Int), [ov j, ov j])] else []
theorem addsU_succ {ov : Nat → Int} {i : Nat} : addsU ov (i + 1) = addsU ov i ++ ((i : Int), ([] : List Int)) :: if 0 ≤ ov i then [(ov i, [(i : Int)])] else [] := by
 unfold addsU; refine rE List.range_succ (rE List.flatMap_append ?_); simp
theorem addsD_succ {ov : Nat → Int} {i : Nat} : addsD ov (i + 1) = addsD ov i ++ ((i : Int), ([] : List Int)) :: if 0 ≤ ov i then [((i : Int), [ov i, ov i])] else [] := by
 unfold addsD; refine rE List.range_succ (rE List.flatMap_append ?_); simp
theorem adds_len {ov : Nat → Int} : ∀ i, (addsU ov i).length ≤ 2 * i ∧ (addsD ov i).length ≤ 2 * i
 | 0 => ⟨Nat.le_refl _, Nat.le_refl _⟩
 | i + 1 => by
  refine eA (@adds_len ov i) fun h1 h2 => ?_
  refine rE addsU_succ (rE addsD_succ (rE List.length_append (rE List.length_append (rE List.length_cons (rE List.length_cons ?_)))))
  constructor <;> split <;> simp <;> lia
theorem mem_addsU {ov : Nat → Int} {N : Nat} {p : Int × List Int} (h : p ∈ addsU ov N) : ∃ j : Nat, j < N ∧ (p = ((j : Int), []) ∨ (0 ≤ ov j ∧ p = (ov j, [(j : Int)]))) := by
 refine eEA (List.mem_flatMap.mp h) fun j hj hp => ?_
 refine ⟨j, List.mem_range.mp hj, ?_⟩
 rcases List.mem_cons.mp hp with hp | hp
 ·exact .inl hp
 ·split at hp
  ·exact .inr ⟨‹_›, List.mem_singleton.mp hp⟩
  ·cases hp
theorem mem_addsD {ov : Nat → Int} {N : Nat} {p : Int × List Int} (h : p ∈ addsD ov N) : ∃ j : Nat, j < N ∧ (p = ((j : Int), []) ∨ (0 ≤ ov j ∧ p = ((j : Int), [ov j, ov j]))) := by
 refine eEA (List.mem_flatMap.mp h) fun j hj hp => ?_
 refine ⟨j, List.mem_range.mp hj, ?_⟩
 rcases List.mem_cons.mp hp with hp | hp
 ·exact .inl hp
 ·split at hp
  ·exact .inr ⟨‹_›, List.mem_singleton.mp hp⟩
  ·cases hp
theorem adds_two {ov : Nat → Int} {N : Nat} : (∀ p ∈ addsU ov N, p.2.length ≤ 2) ∧ ∀ p ∈ addsD ov N, p.2.length ≤ 2 := by
 constructor
 ·intro p hp
  obtain ⟨j, _, rfl | ⟨_, rfl⟩⟩ := mem_addsU hp <;> simp
 ·intro p hp
  obtain ⟨j, _, rfl | ⟨_, rfl⟩⟩ := mem_addsD hp <;> simp
theorem nearU {N : Nat} {ov : Nat → Int} (W : Wood N ov) {v x : Int} : x ∈ nearL (addsU ov N) v ↔ ∃ c k : Nat, x = c ∧ v = k ∧ c ∈ qaa N ov k := by
 rw [mem_nearL]
 constructor
 ·rintro ⟨p, hp, rfl, hx⟩
  obtain ⟨j, hj, rfl | ⟨h0, rfl⟩⟩ := mem_addsU hp
  ·cases hx
  ·rw [List.mem_singleton] at hx
   exact ⟨j, (ov j).toNat, hx, by simp only; exact Int.eq_natCast_toNat.mpr h0, mem_kids.mpr ⟨hj, by omega⟩⟩
 ·rintro ⟨c, k, rfl, rfl, h⟩
  refine eA (mem_kids.mp h) fun h1 h2 => ?_
  refine ⟨(ov c, [(c : Int)]), List.mem_flatMap.mpr ⟨c, List.mem_range.mpr h1, ?_⟩, h2, List.mem_singleton.mpr rfl⟩
  refine rE (if_pos (by lia)) ?_; simp
theorem nearD {N : Nat} {ov : Nat → Int} {v x : Int} : x ∈ nearL (addsD ov N) v ↔ ∃ k : Nat, k < N ∧ v = k ∧ x = ov k ∧ 0 ≤ ov k := by
 rw [mem_nearL]
 constructor
 ·rintro ⟨p, hp, rfl, hx⟩
  obtain ⟨j, hj, rfl | ⟨h0, rfl⟩⟩ := mem_addsD hp
  ·cases hx
  ·exact ⟨j, hj, rfl, by simpa using hx, h0⟩
 ·rintro ⟨k, hk, rfl, rfl, h0⟩
  refine ⟨((k : Int), [ov k, ov k]), List.mem_flatMap.mpr ⟨k, List.mem_range.mpr hk, ?_⟩, rfl, by exact List.mem_cons_self⟩
  refine rE (if_pos h0) ?_; simp
theorem keysU {N : Nat} {ov : Nat → Int} (W : Wood N ov) {x : Int} : x ∈ (addL (addsU ov N)).keys ↔ ∃ k : Nat, x = k ∧ k < N := by
 constructor
 ·refine addL_keys (Q := fun x => ∃ k : Nat, x = k ∧ k < N) _ (fun p hp => ?_) x
  obtain ⟨j, hj, rfl | ⟨h0, rfl⟩⟩ := mem_addsU hp
  ·exact ⟨⟨j, rfl, hj⟩, by intro _ h; cases h⟩
  ·have := W.up j hj
   exact ⟨⟨(ov j).toNat, by simp only; exact Int.eq_natCast_toNat.mpr h0, by omega⟩, fun x hx => ⟨j, List.mem_singleton.mp hx, hj⟩⟩
 ·rintro ⟨k, rfl, hk⟩
  exact (qa6 _).2 ((k : Int), []) (List.mem_flatMap.mpr ⟨k, List.mem_range.mpr hk, List.mem_cons_self⟩)
theorem keysD {N : Nat} {ov : Nat → Int} (W : Wood N ov) {x : Int} : x ∈ (addL (addsD ov N)).keys ↔ ∃ k : Nat, x = k ∧ k < N := by
 constructor
 ·refine addL_keys (Q := fun x => ∃ k : Nat, x = k ∧ k < N) _ (fun p hp => ?_) x
  obtain ⟨j, hj, rfl | ⟨h0, rfl⟩⟩ := mem_addsD hp
  ·exact ⟨⟨j, rfl, hj⟩, by intro _ h; cases h⟩
  ·have := W.up j hj
   refine ⟨⟨j, rfl, hj⟩, fun x hx => ⟨(ov j).toNat, ?_, by omega⟩⟩
   have : x = ov j := by simpa using hx
   lia
 ·rintro ⟨k, rfl, hk⟩
  exact (qa6 _).2 ((k : Int), []) (List.mem_flatMap.mpr ⟨k, List.mem_range.mpr hk, List.mem_cons_self⟩)
theorem qbf {ms : List Int} (h : ms.Pairwise (· < ·)) {i j : Nat} (hij : i < j) (hj : j < ms.length) : ms.getD i 0 < ms.getD j 0 := by
 refine rE List.getD_eq_getElem?_getD (rE List.getD_eq_getElem?_getD (rE (List.getElem?_eq_getElem (by exact Nat.lt_trans hij hj)) (rE (List.getElem?_eq_getElem hj) ?_)))
 exact List.pairwise_iff_getElem.mp h i j (by exact Nat.lt_trans hij hj) hj hij
theorem strict_of {ms : List Int} (h : ms.Pairwise (· < ·)) {i j : Nat} (hi : i < ms.length) (hj : j < ms.length) (e : ms.getD i 0 < ms.getD j 0) : i < j := by
 rcases Nat.lt_trichotomy i j with q | q | q
 ·exact q
 ·subst q; lia
 ·have := qbf h q hi; lia
theorem mem_at {ms : List Int} {x : Int} (h : x ∈ ms) : ∃ i, i < ms.length ∧ ms.getD i 0 = x := by
 obtain ⟨i, hi, e⟩ := List.mem_iff_getElem.mp h
 exact ⟨i, hi, by refine rE List.getD_eq_getElem?_getD (rE (List.getElem?_eq_getElem hi) ?_); exact e⟩
theorem marks_of {N : Nat} {sc : Nat → Int} {ms : List Int} (h : ms.Pairwise (· < ·)) (hm : ∀ k, k < N → ∀ d : Int, d = -1 ∨ d = 0 ∨ d = 1 → sc k + d ∈ ms) : Marks N sc (fun i => ms.getD i 0) ms.length := by
 refine ⟨fun i i' h1 h2 => qbf h h1 h2, fun k hk => ?_⟩
 refine eEA (mem_at (hm k hk (-1) (.inl rfl))) fun a ha ea => ?_
 refine eEA (mem_at (hm k hk 0 (.inr (.inl rfl)))) fun b hb eb => ?_
 refine eEA (mem_at (hm k hk 1 (.inr (.inr rfl)))) fun c hc ec => ?_
 have hab := strict_of h ha hb (by lia)
 have hbc := strict_of h hb hc (by omega)
 have e1 : a + 1 = b := by
  refine Classical.byContradiction fun q => ?_
  have h1 := qbf h (show a < a + 1 by exact Nat.lt_add_one a) (by exact Nat.lt_of_le_of_lt hab hb)
  have h2 := qbf h (show a + 1 < b by exact Nat.lt_of_le_of_ne hab q) hb
  lia
 have e2 : b + 1 = c := by
  refine Classical.byContradiction fun q => ?_
  have h1 := qbf h (show b < b + 1 by exact Nat.lt_add_one b) (by exact Nat.lt_of_le_of_lt hbc hc)
  have h2 := qbf h (show b + 1 < c by exact Nat.lt_of_le_of_ne hbc q) hc
  lia
 refine ⟨b, by exact Nat.zero_lt_of_lt hab, by exact Nat.lt_of_le_of_lt hbc hc, by show ms.getD b 0 = _; lia, ?_, ?_⟩
 ·show ms.getD (b - 1) 0 = _
  refine rE (show b - 1 = a by exact Eq.symm (Nat.eq_sub_of_add_eq e1)) ?_; assumption
 ·show ms.getD (b + 1) 0 = _
  refine rE e2 ?_; omega
theorem rows_last {N : Nat} {ov sc bb MM : Nat → Int} {bs : Nat → List Int} (W : Wood N ov) (R : ∀ j, j < N → RowAt N ov sc bb bs j (MM j)) :
  (∀ j, j < N → bs j ≠ []) ∧ ∀ j, j < N → ∀ t ∈ bs j, ∃ k, k < N ∧ t = sc k := by
 constructor
 ·intro j hj e
  have := (R j hj).perm.length_eq
  rw [e] at this
  simp at this
 ·have key : ∀ n j, N - j = n → j < N → ∀ t ∈ bs j, ∃ k, k < N ∧ t = sc k := by
   intro n
   induction n using Nat.strongRecOn with
   | _ n ih =>
    intro j hn hj t ht
    have hm := (R j hj).perm.mem_iff.mpr (List.mem_append_left _ ht)
    rcases List.mem_append.mp hm with hm | hm
    ·refine eEA (List.mem_flatten.mp hm) fun l hl htl => ?_
     refine eEA (List.mem_map.mp hl) fun k hk zz2 => ?_; subst zz2
     have h1 := W.kid hk
     have h2 := (mem_kids.mp hk).1
     exact ih (N - k) (by grind) k rfl h2 t htl
    ·exact ⟨j, hj, by simpa using hm⟩
  exact fun j hj => key _ j rfl hj
theorem last_ge : ∀ {l : List Int} {z : Int}, (l ++ [z]).Pairwise (· ≤ ·) → ∀ t ∈ l ++ [z], t ≤ z := fun {l z} h t ht => by
 rcases List.mem_append.mp ht with ht | ht
 ·exact (List.pairwise_append.mp h).2.2 t ht z (List.mem_singleton.mpr rfl)
 ·refine rE (List.mem_singleton.mp ht) ?_; exact Int.le_refl _
theorem snoc_of {l : List Int} (h : l ≠ []) : ∃ l' z, l = l' ++ [z] := ⟨l.dropLast, l.getLast h, (List.dropLast_concat_getLast h).symm⟩
end
section
theorem TSR.keep {H H' : CH} {a : Addr} {T : TS} {L : Lay} (R : TSR H a T L) (h : ∀ b, H b ≠ none → H' b = H b) : TSR H' a T L := by
 have k : ∀ {b : Addr} {c : CObj}, H b = some c → H' b = some c := fun {b c} e => (h b (by refine rE e ?_; simp)).trans e
 exact ⟨k R.top, k R.dict, k R.n2i, fun r e => k (R.rdy r e), fun x hx => k (R.node x hx), fun x hx => k (R.nd x hx), fun x hx => k (R.succ x hx), R.inj, R.rdn, R.nodup⟩
theorem lookup_no {kvs : List (Int × V)} {k : Int} (h : k ∉ kvs.map (·.1)) : kvs.lookup k = none := by
 induction kvs with
 | nil => rfl
 | cons p r ih =>
  rw [List.map_cons, List.mem_cons, not_or] at h
  refine rE List.lookup_cons (rE (beq_eq_false_iff_ne.mpr h.1) ?_); exact ih h.2
theorem lookup_yes {kvs : List (Int × V)} {k : Int} (h : k ∈ kvs.map (·.1)) : (kvs.lookup k).isSome = true := by
 induction kvs with
 | nil => cases h
 | cons p r ih =>
  refine rE List.lookup_cons ?_
  by_cases e : k = p.1
  ·refine rE (beq_iff_eq.mpr e) ?_; rfl
  ·refine rE (beq_eq_false_iff_ne.mpr e) ?_
   rw [List.map_cons, List.mem_cons] at h
   exact ih (h.resolve_left e)
theorem dropI_keys {kvs : List (Int × V)} {l : List Int} {k : Int} (h : kvs.map (·.1) = l ++ [k]) (hk : k ∉ l) : (dropI kvs k).map (·.1) = l := by
 have : (dropI kvs k).map (·.1) = (kvs.map (·.1)).filter (· != k) := by
  unfold dropI; refine rE List.filter_map ?_; rfl
 refine rE this (rE h (rE (List.filter_append ..) ?_))
 have e1 : l.filter (· != k) = l := List.filter_eq_self.mpr fun x hx => by simp; intro e; exact hk (e ▸ hx)
 refine rE e1 ?_; simp
theorem qa7 {α : Type} [BEq α] [LawfulBEq α] : ∀ {l k : List α}, l.Nodup → (∀ x ∈ l, x ∈ k) → l.length ≤ k.length
 | [], k, _, _ => Nat.zero_le _
 | a :: r, k, h, s => by
  rw [List.nodup_cons] at h
  have ha := s a List.mem_cons_self
  have := qa7 (l := r) (k := k.erase a) h.2 fun x hx => (List.mem_erase_of_ne (by intro e; subst e; exact h.1 hx)).mpr (s x (List.mem_cons_of_mem _ hx))
  rw [List.length_erase_of_mem ha] at this
  have hp := List.length_pos_of_mem ha
  refine rE List.length_cons ?_; exact Nat.add_le_of_le_sub hp this
noncomputable abbrev Ent := Int × Addr × Nat
structure FC (H₀ H : CH) (T : TS) (L : Lay) (s it se nd : Addr) (st : List Ent) (seen : Int → Bool) : Prop where
 keep : ∀ b, H₀ b ≠ none → H b = H₀ b
 f1 : H₀ s = none
 f2 : H₀ it = none
 f3 : H₀ se = none
 f4 : H₀ nd = none
 ne : s ≠ it
 hs : H s = some (.list (st.map fun e => .int e.1))
 hit : H it = some (.list (st.map fun e => .imm (mwObj e.2.1)))
 hse : ∃ c, H se = some (.set seen c) ∧ c ≤ (T.keys.filter seen).length
 hnd : ∃ kvs ep, H nd = some (.dict kvs ep) ∧ kvs.map (·.1) = st.map (·.1)
 its : ∀ e ∈ st, H e.2.1 = some (.liter (L.bL e.1) e.2.2) ∧ H₀ e.2.1 = none
 nI : (st.map (·.2.1)).Nodup
 nK : (st.map (·.1)).Nodup
 mem : ∀ e ∈ st, e.1 ∈ T.keys ∧ seen e.1 = true
 sub : ∀ x, seen x = true → x ∈ T.keys
section
variable {H₀ H : CH} {T : TS} {L : Lay} {s it se nd : Addr} {st : List Ent} {seen : Int → Bool}
theorem FC.len (F : FC H₀ H T L s it se nd st seen) (hk : T.keys.Nodup) : st.length ≤ T.keys.length := by
 have := qa7 (l := st.map (·.1)) (k := T.keys) F.nK (fun x hx => by
  refine eEA (List.mem_map.mp hx) fun e he zz2 => ?_; subst zz2; exact (F.mem e he).1)
 simpa using this
theorem filter_add {keys : List Int} {seen : Int → Bool} {x : Int} (hn : keys.Nodup) (hx : x ∈ keys) (hs : seen x = false) : (keys.filter fun y => seen y || decide (y = x)).length = (keys.filter seen).length + 1 := by
 induction keys with
 | nil => cases hx
 | cons a r ih =>
  rw [List.nodup_cons] at hn
  by_cases e : a = x
  ·subst e
   have : r.filter (fun y => seen y || decide (y = a)) = r.filter seen := List.filter_congr fun y hy => by
    have : y ≠ a := fun e => hn.1 (e ▸ hy)
    simp [this]
   refine rE (List.filter_cons_of_pos (by simp)) (rE (List.filter_cons_of_neg (by exact ne_true_of_eq_false hs)) (rE this ?_)); simp
  ·have h := ih hn.2 ((List.mem_cons.mp hx).resolve_left (fun q => e q.symm))
   by_cases q : seen a = true
   ·refine rE (List.filter_cons_of_pos (by simp [q])) (rE (List.filter_cons_of_pos q) (rE List.length_cons (rE List.length_cons (rE h rfl))))
   ·refine rE (List.filter_cons_of_neg (by simp [q, e])) (rE (List.filter_cons_of_neg q) (rE h rfl))
noncomputable def qaz (seen : Int → Bool) (x : Int) : Int → Bool := fun y => seen y || decide (y = x)
theorem FC.push (F : FC H₀ H T L s it se nd st seen) (hkn : T.keys.Nodup) {x : Int} (hx : x ∈ T.keys) (hs : seen x = false) {I : Addr} {c : Nat} {kvs : List (Int × V)} {ep : Nat} {v : V} (hse : H se = some (.set seen c)) (hc : c ≤ (T.keys.filter seen).length) (hnd : kvs.map (·.1) = st.map (·.1))
  (hI : (H.set se (.set (qaz seen x) (c + 1))) I = none) (hI0 : H₀ I = none) :
  FC H₀ (((((H.set se (.set (qaz seen x) (c + 1))).set I (.liter (L.bL x) 0)).set it (.list ((st.map fun e => .imm (mwObj e.2.1)) ++ [.imm (mwObj I)]))).set nd (.dict (kvs ++ [(x, v)]) ep)).set s (.list ((st.map fun e => .int e.1) ++ [.int x]))) T L s it se nd (st ++ [(x, I, 0)]) (qaz seen x) := by
 refine eEEA F.hnd fun kv0 ep0 hnd0 _ => ?_
 have i1 : I ≠ se := ne_at hI CH.set_same
 have hI' : H I = none := by rw [CH.set_ne i1] at hI; exact hI
 have i2 : I ≠ it := ne_at hI' F.hit
 have i3 : I ≠ nd := ne_at hI' hnd0
 have i4 : I ≠ s := ne_at hI' F.hs
 have d1 : it ≠ se := ne_at F.hit hse
 have d2 : nd ≠ se := ne_at hnd0 hse
 have d3 : s ≠ se := ne_at F.hs hse
 have d4 : nd ≠ it := ne_at hnd0 F.hit
 have d5 : s ≠ nd := ne_at F.hs hnd0
 have hxs : x ∉ st.map (·.1) := fun h => by
  refine eEA (List.mem_map.mp h) fun e he zz2 => ?_; subst zz2
  rw [(F.mem e he).2] at hs; cases hs
 refine ⟨fun b hb => ?_, F.f1, F.f2, F.f3, F.f4, F.ne, ?_, ?_, ⟨c + 1, ?_, ?_⟩, ⟨kvs ++ [(x, v)], ep, ?_, ?_⟩, ?_, ?_, ?_, ?_, ?_⟩
 ·have k : ∀ {c : Addr}, H₀ c = none → b ≠ c := fun {c} h q => hb (by refine rE q ?_; exact h)
  refine rE (CH.set_ne (k F.f1)) (rE (CH.set_ne (k F.f4)) (rE (CH.set_ne (k F.f2)) (rE (CH.set_ne (k hI0)) (rE (CH.set_ne (k F.f3)) ?_))))
  exact F.keep b hb
 ·refine rE CH.set_same (rE List.map_append ?_); rfl
 ·refine rE (CH.set_ne (Ne.symm F.ne)) (rE (CH.set_ne (Ne.symm d4)) (rE CH.set_same (rE List.map_append ?_))); rfl
 ·refine rE (CH.set_ne (Ne.symm d3)) (rE (CH.set_ne (Ne.symm d2)) (rE (CH.set_ne (Ne.symm d1)) (rE (CH.set_ne (Ne.symm i1)) (rE CH.set_same rfl))))
 ·unfold qaz; refine rE (filter_add hkn hx hs) ?_; exact Nat.add_le_add_right hc 1
 ·refine rE (CH.set_ne (Ne.symm d5)) (rE CH.set_same rfl)
 ·refine rE List.map_append (rE List.map_append (rE hnd ?_)); rfl
 ·intro e he
  rcases List.mem_append.mp he with he | he
  ·refine eA (F.its e he) fun h1 h2 => ?_
   have n1 : e.2.1 ≠ s := ne_at h1 F.hs
   have n2 : e.2.1 ≠ nd := ne_at h1 hnd0
   have n3 : e.2.1 ≠ it := ne_at h1 F.hit
   have n4 : e.2.1 ≠ I := ne_at h1 hI'
   have n5 : e.2.1 ≠ se := ne_at h1 hse
   refine rE (CH.set_ne n1) (rE (CH.set_ne n2) (rE (CH.set_ne n3) (rE (CH.set_ne n4) (rE (CH.set_ne n5) ?_))))
   exact ⟨h1, h2⟩
  ·obtain rfl := List.mem_singleton.mp he
   show CH.set _ _ _ I = some (.liter (L.bL x) 0) ∧ _
   refine rE (CH.set_ne i4) (rE (CH.set_ne i3) (rE (CH.set_ne i2) (rE CH.set_same ?_)))
   exact ⟨rfl, hI0⟩
 ·refine rE List.map_append ?_; rewrite [List.nodup_append]
  refine ⟨F.nI, by simp, fun p hp q hq => ?_⟩
  obtain rfl := List.mem_singleton.mp hq
  refine eEA (List.mem_map.mp hp) fun e he zz2 => ?_; subst zz2
  intro q; have := (F.its e he).1; rw [q, hI'] at this; cases this
 ·refine rE List.map_append ?_; rewrite [List.nodup_append]
  refine ⟨F.nK, by simp, fun p hp q hq => ?_⟩
  obtain rfl := List.mem_singleton.mp hq
  intro q; exact hxs (q ▸ hp)
 ·intro e he
  rcases List.mem_append.mp he with he | he
  ·have := F.mem e he; exact ⟨this.1, by unfold qaz; refine rE this.2 ?_; rfl⟩
  ·obtain rfl := List.mem_singleton.mp he
   exact ⟨hx, by unfold qaz; simp⟩
 ·intro y hy
  unfold qaz at hy
  rw [Bool.or_eq_true, decide_eq_true_eq] at hy
  rcases hy with hy | hy
  ·exact F.sub y hy
  ·exact hy ▸ hx
theorem FC.step {e : Ent} (F : FC H₀ H T L s it se nd (st ++ [e]) seen) {i : Nat} :
  FC H₀ (H.set e.2.1 (.liter (L.bL e.1) i)) T L s it se nd (st ++ [(e.1, e.2.1, i)]) seen := by
 refine eEEA F.hnd fun kv0 ep0 hnd0 hk0 => ?_
 refine eEA F.hse fun c hse hc => ?_
 refine eA (F.its e (List.mem_append_right _ List.mem_cons_self)) fun h1 h2 => ?_
 have hne := F.nI
 rw [List.map_append, List.nodup_append] at hne
 have hm : ∀ {β : Type} (f : Int → Addr → β), ((st ++ [(e.1, e.2.1, i)]).map fun e => f e.1 e.2.1) = ((st ++ [e]).map fun e => f e.1 e.2.1) := by intro β f; simp
 refine ⟨fun b hb => ?_, F.f1, F.f2, F.f3, F.f4, F.ne, ?_, ?_, ⟨c, qac h1 hse (by intro q; cases q), hc⟩, ⟨kv0, ep0, qac h1 hnd0 (by intro q; cases q), ?_⟩, ?_, ?_, ?_, ?_, F.sub⟩
 ·have hbI : b ≠ e.2.1 := fun q => hb (by refine rE q ?_; exact h2)
  refine rE (CH.set_ne hbI) ?_; exact F.keep b hb
 ·refine rE (hm fun x _ => V.int x) ?_; exact qac h1 F.hs (by intro q; cases q)
 ·refine rE (hm fun _ x => V.imm (mwObj x)) ?_; exact qac h1 F.hit (by intro q; cases q)
 ·refine rE (hm fun x _ => x) ?_; exact hk0
 ·intro e' he'
  rcases List.mem_append.mp he' with he' | he'
  ·have := F.its e' (List.mem_append_left _ he')
   refine rE (CH.set_ne (hne.2.2 _ (List.mem_map_of_mem he') _ (List.mem_singleton.mpr rfl))) ?_; exact this
  ·obtain rfl := List.mem_singleton.mp he'
   exact ⟨CH.set_same, h2⟩
 ·refine rE (hm fun _ x => x) ?_; exact F.nI
 ·refine rE (hm fun x _ => x) ?_; exact F.nK
 ·intro e' he'
  rcases List.mem_append.mp he' with he' | he'
  ·exact F.mem e' (List.mem_append_left _ he')
  ·obtain rfl := List.mem_singleton.mp he'
   exact F.mem e (List.mem_append_right _ List.mem_cons_self)
theorem FC.pop {e : Ent} (F : FC H₀ H T L s it se nd (st ++ [e]) seen) {kvs : List (Int × V)} {ep : Nat} (hnd : kvs.map (·.1) = st.map (·.1)) :
  FC H₀ ((((H.del e.2.1).set s (.list (st.map fun e => .int e.1))).set nd (.dict kvs ep)).set it (.list (st.map fun e => .imm (mwObj e.2.1)))) T L s it se nd st seen := by
 refine eEEA F.hnd fun kv0 ep0 hnd0 _ => ?_
 refine eEA F.hse fun c hse hc => ?_
 refine eA (F.its e (List.mem_append_right _ List.mem_cons_self)) fun h1 h2 => ?_
 have hne := F.nI
 rw [List.map_append, List.nodup_append] at hne
 have hnk := F.nK
 rw [List.map_append, List.nodup_append] at hnk
 have d1 : se ≠ it := ne_at hse F.hit
 have d2 : se ≠ nd := ne_at hse hnd0
 have d3 : se ≠ s := ne_at hse F.hs
 have d4 : nd ≠ it := ne_at hnd0 F.hit
 have d5 : s ≠ nd := ne_at F.hs hnd0
 refine ⟨fun b hb => ?_, F.f1, F.f2, F.f3, F.f4, F.ne, ?_, CH.set_same, ⟨c, ?_, hc⟩, ⟨kvs, ep, ?_, hnd⟩, ?_, hne.1, hnk.1, fun e' he' => F.mem e' (List.mem_append_left _ he'), F.sub⟩
 ·have hbI : b ≠ e.2.1 := fun q => hb (by refine rE q ?_; exact h2)
  have k : ∀ {c : Addr}, H₀ c = none → b ≠ c := fun {c} h q => hb (by refine rE q ?_; exact h)
  refine rE (CH.set_ne (k F.f2)) (rE (CH.set_ne (k F.f4)) (rE (CH.set_ne (k F.f1)) (rE (CH.del_ne hbI) ?_)))
  exact F.keep b hb
 ·refine rE (CH.set_ne F.ne) (rE (CH.set_ne d5) (rE CH.set_same rfl))
 ·refine rE (CH.set_ne d1) (rE (CH.set_ne d2) (rE (CH.set_ne d3) (rE (CH.del_ne (ne_at hse h1)) ?_))); exact hse
 ·refine rE (CH.set_ne d4) (rE CH.set_same rfl)
 ·intro e' he'
  refine eA (F.its e' (List.mem_append_left _ he')) fun h3 h4 => ?_
  have n1 : e'.2.1 ≠ s := ne_at h3 F.hs
  have n2 : e'.2.1 ≠ nd := ne_at h3 hnd0
  have n3 : e'.2.1 ≠ it := ne_at h3 F.hit
  refine rE (CH.set_ne n3) (rE (CH.set_ne n2) (rE (CH.set_ne n1) (rE (CH.del_ne (hne.2.2 _ (List.mem_map_of_mem he') _ (List.mem_singleton.mpr rfl))) ?_)))
  exact ⟨h3, h4⟩
end
noncomputable def leftU (T : TS) (seen : Int → Bool) : Nat := ((T.keys.filter fun k => !seen k).map fun k => (T.sc k).length + 1).sum
noncomputable def leftS (T : TS) (st : List Ent) : Nat := (st.map fun e => (T.sc e.1).length - e.2.2).sum
theorem leftU_add {T : TS} {seen : Int → Bool} {x : Int} (hn : T.keys.Nodup) (hx : x ∈ T.keys) (hs : seen x = false) : leftU T seen = leftU T (qaz seen x) + ((T.sc x).length + 1) := by
 unfold leftU
 generalize T.keys = keys at *
 induction keys with
 | nil => cases hx
 | cons a r ih =>
  rw [List.nodup_cons] at hn
  by_cases e : a = x
  ·subst e
   have : r.filter (fun y => !qaz seen a y) = r.filter fun y => !seen y := List.filter_congr fun y hy => by
    have : y ≠ a := fun e => hn.1 (e ▸ hy)
    simp [qaz, this]
   refine rE (List.filter_cons_of_pos (by simp [hs])) (rE (List.filter_cons_of_neg (by simp [qaz])) (rE this ?_)); simp; exact Eq.symm (Nat.add_comm (List.map (fun k ↦ (T.sc k).length + 1) (List.filter (fun k ↦ !seen k) r)).sum ((T.sc a).length + 1))
  ·have h := ih hn.2 ((List.mem_cons.mp hx).resolve_left (fun q => e q.symm))
   by_cases q : seen a = true
   ·refine rE (List.filter_cons_of_neg (by exact Bool.not_not_eq.mpr q)) (rE (List.filter_cons_of_neg (by simp [qaz, q])) ?_); exact h
   ·refine rE (List.filter_cons_of_pos (by exact PyProof.Rows.bi_not.mpr q)) (rE (List.filter_cons_of_pos (by simp [qaz, q, e])) ?_)
    simp only [List.map_cons, List.sum_cons]; lia
theorem qcg {T : TS} {st : List Ent} {e : Ent} : leftS T (st ++ [e]) = leftS T st + ((T.sc e.1).length - e.2.2) := by
 unfold leftS; simp
end
section
theorem g_iter2 {P : Params} : nsIn (KK P) mainGlobals "iter" = some none := by kernel_rfl
theorem g_set {P : Params} : nsIn (KK P) mainGlobals "set" = some none := by kernel_rfl
theorem b_set : bootBuiltins "set" = some (.type "set") := by kernel_rfl
theorem g_stop {P : Params} : nsIn (KK P) mainGlobals "StopIteration" = some none := by kernel_rfl
theorem b_stop : bootBuiltins "StopIteration" = some (.type "StopIteration") := by kernel_rfl
theorem keysOf_map {keys : List Int} {f : Int → V} : keysOf (keys.map fun k => (k, f k)) = keys.map .int := by
 induction keys with
 | nil => rfl
 | cons a r ih => refine rE List.map_cons (rE List.map_cons ?_); show V.int a :: keysOf _ = _; refine rE ih rfl
noncomputable abbrev mF (s it se nd n2i a : Addr) : Loc := [("node2stacki", .ref nd), ("seen", .ref se), ("itstack", .ref it), ("stack", .ref s), ("n2i", .ref n2i), ("self", .ref a)]
noncomputable abbrev mX (x : Int) (s it se nd n2i a : Addr) : Loc := ("node", .int x) :: mF s it se nd n2i a
noncomputable def Up (rk : Int → Int) (st : List Ent) : Prop := st.Pairwise fun e e' => rk e.1 < rk e'.1
section
variable {C : Cx} {A : Around} {m : Loc} {H : CH} {s : Shared} {mg mb : Str → Option Value} {P : Params} {a : Addr} {T : TS} {L : Lay}
inductive FcF (H : CH) (T : TS) (L : Lay) (S it se nd : Addr) (H' : CH) : Prop
 | mk (seen : Int → Bool) (Z : FC H H' T L S it se nd [] seen)
inductive FcI (H : CH) (T : TS) (L : Lay) (S it se nd a : Addr) (rk : Int → Int) (n : Nat) (m' : Loc) (H' : CH) : Prop
 | mk (x : Int) (st : List Ent) (seen : Int → Bool) (hm : m' = mX x S it se nd L.n2i a) (Z : FC H H' T L S it se nd st seen) (hx : x ∈ T.keys) (hu : Up rk st) (hl : ∀ e ∈ st, rk e.1 < rk x) (hn : n = leftU T seen + leftS T st)
inductive FcM (H : CH) (T : TS) (L : Lay) (S it se nd a : Addr) (rk : Int → Int) (x : Int) (N : Nat) (m' : Loc) (H' : CH) : Prop
 | mk (hm : m' = mX x S it se nd L.n2i a) (st' : List Ent) (seen' : Int → Bool) (Z : FC H H' T L S it se nd st' seen') (hu : Up rk st') (hl : leftU T seen' + leftS T st' ≤ N)
inductive FcW (H : CH) (T : TS) (L : Lay) (S it se nd a : Addr) (rk : Int → Int) (x : Int) (N : Nat) (n : Nat) (m' : Loc) (H' : CH) : Prop
 | mk (hm : m' = mX x S it se nd L.n2i a) (st' : List Ent) (seen' : Int → Bool) (Z : FC H H' T L S it se nd st' seen') (hu : Up rk st') (hl : leftU T seen' + leftS T st' ≤ N) (hn : n = st'.length)
theorem spec_findcycle {rk : Int → Int} (hrk : ∀ k ∈ T.keys, ∀ x ∈ T.sc k, x ∈ T.keys ∧ rk k < rk x) (hz : T.keys.length + 1 < scanBound) (B : Bs C.h₀ (KK P) mg mb) {n : Nat} (hA : AOK C A (n + 1)) (R : TSR H a T L) :
  CALL C A (.con (.ref a_findcycle)) [.ref a] [] H fun v H' => v = V.none ∧ ∀ b, H b ≠ none → H' b = H b := by
 have hz1 : T.keys.length < sizeLine := by unfold sizeLine; unfold scanBound at hz; lia
 refine qas fun R0 hR0 => ?_
 refine CALL_K B (by with_unfolding_all rfl) (by with_unfolding_all rfl) hA .pos1 (by with_unfolding_all rfl) rfl fun LL hL hL0 hA' => ?_
 repeat walk_at "x"
 refine qa9 B R.top R.dict rfl ?_
 repeat walk_at "x"
 refine qby ?_
 repeat walk_at "x"
 refine ⟨by decide, fun S hS => ?_⟩
 repeat walk_at "x"
 refine qby ?_
 repeat walk_at "x"
 refine ⟨by decide, fun it hit => ?_⟩
 repeat walk_at "x"
 refine EV_b B g_set b_set ?_
 repeat walk_at "x"
 refine ⟨qa3, CV_set0 fun se hse hse0 => ?_⟩
 repeat walk_at "x"
 refine EV_dict fun nd hnd hnd0 => ?_
 have e1 : it ≠ S := ne_at hit CH.set_same
 have e2 : se ≠ it := ne_at hse CH.set_same
 have e3 : se ≠ S := ne_at hse ((CH.set_ne (Ne.symm e1)).trans CH.set_same)
 have e4 : nd ≠ se := ne_at hnd CH.set_same
 have e5 : nd ≠ it := ne_at hnd ((CH.set_ne (Ne.symm e2)).trans CH.set_same)
 have e6 : nd ≠ S := fun e => by rw [e, CH.set_ne (Ne.symm e3), CH.set_ne (Ne.symm e1), CH.set_same] at hnd; cases hnd
 have f2 : H it = none := by rw [CH.set_ne e1] at hit; exact hit
 have f3 : H se = none := by rw [CH.set_ne e2, CH.set_ne e3] at hse; exact hse
 have f4 : H nd = none := by rw [CH.set_ne e4, CH.set_ne e5, CH.set_ne e6] at hnd; exact hnd
 have F0 : FC H ((((H.set S (.list [])).set it (.list [])).set se (.set (fun _ => false) 0)).set nd (.dict [] 0)) T L S it se nd [] (fun _ => false) := by
  refine ⟨fun b hb => ?_, hS, f2, f3, f4, Ne.symm e1, ?_, ?_, ⟨0, ?_, Nat.zero_le _⟩, ⟨[], 0, CH.set_same, rfl⟩, (by intro _ h; cases h), .nil, .nil, (by intro _ h; cases h), (by intro _ h; cases h)⟩
  ·have k : ∀ {c : Addr}, H c = none → b ≠ c := fun {c} h q => hb (by refine rE q ?_; exact h)
   refine rE (CH.set_ne (k f4)) (rE (CH.set_ne (k f3)) (rE (CH.set_ne (k f2)) (rE (CH.set_ne (k hS)) rfl)))
  ·refine rE (CH.set_ne (Ne.symm e6)) (rE (CH.set_ne (Ne.symm e3)) (rE (CH.set_ne (Ne.symm e1)) (rE CH.set_same ?_))); rfl
  ·refine rE (CH.set_ne (Ne.symm e5)) (rE (CH.set_ne (Ne.symm e2)) (rE CH.set_same ?_)); rfl
  ·refine rE (CH.set_ne (Ne.symm e4)) (rE CH.set_same rfl)
 repeat walk_at "x"
 have kn2i : ∀ {st : List Ent} {seen : Int → Bool} {H' : CH}, FC H H' T L S it se nd st seen → H' L.n2i = some (.dict (T.keys.map fun k => (k, .ref (L.bA k))) L.ep) := fun {st seen H'} Z => (Z.keep _ (by refine rE R.n2i ?_; simp)).trans R.n2i
 refine qcv (l := T.keys) (f := V.int) (m0 := mF S it se nd L.n2i a) (ok := fun H' => H' L.n2i = some (.dict (T.keys.map fun k => (k, .ref (L.bA k))) L.ep)) (J := fun _ => FcF H T L S it se nd) ?_ ?_ (fun i x hx H' hJ RR hRR => ?_) fun H' hJ => ?_
 ·repeat walk_at "x"
  exact ⟨by refine rF (keysOf_map (f := fun k => V.ref (L.bA k))) ?_; exact seq_keys (by exact B) hA'.handled (kn2i F0), .cons rfl (.cons rfl (.cons rfl (.cons rfl (.cons rfl (.cons rfl .nil))))), ⟨_, F0⟩⟩
 ·rintro i H' ⟨seen, Z⟩
  exact kn2i Z
 ·obtain ⟨seen, Z⟩ := hJ
  have hxk : x ∈ T.keys := List.mem_of_getElem? hx
  refine eEA Z.hse fun c hc hcl => ?_
  repeat walk_at "x"
  walk_at "xi"
  refine O2_inset hc ?_
  repeat walk_at "x"
  refine ⟨_, rfl, fun q => ?_, fun q => ?_⟩
  ·repeat walk_at "x"
   refine (hRR _ _ ?_ ⟨seen, Z⟩).2
   exact .cons rfl (.cons rfl (.cons rfl (.cons rfl (.cons rfl (.cons rfl .nil)))))
  repeat walk_at "x"
  refine qam (st := .While _ _ _ _) (ES_while (FcI H T L S it se nd a rk) _ _
   (.cons rfl (.cons rfl (.cons rfl (.cons rfl (.cons rfl (.cons rfl (.cons rfl .nil))))))) ⟨x, [], seen, rfl, Z, hxk, .nil, (by intro _ h; cases h), rfl⟩ ?_)
  clear hc hcl c q hx hxk x Z seen
  rintro n' m' H' ⟨x, st, seen, rfl, Z, hxk, hup, hlt, rfl⟩
  repeat walk_at "x"
  refine OB_bool ⟨fun _ => ?_, fun h => (by cases h)⟩
  refine EX_mid (st := .If _ _ _ _) (FcM H T L S it se nd a rk x (leftU T seen + leftS T st)) (ES_if ?_) fun m₁ H₁ hM => ?_
  ·refine eEA Z.hse fun c hc hcl => ?_
   repeat walk_at "x"
   refine O2_inset hc ?_
   refine ⟨_, rfl, fun q => ?_, fun q => ?_⟩
   ·refine eEEA Z.hnd fun kvs ep hnd hkv => ?_
    walk_at "xi"
    refine O2_in_dict B hnd ?_
    rw [lookup_no (by
     refine rE hkv ?_; intro h
     refine eEA (List.mem_map.mp h) fun e he zz2 => ?_; subst zz2
     exact Int.lt_irrefl _ (hlt e he))]
    refine ⟨_, rfl, fun h => (by cases h), fun _ => ?_⟩
    repeat walk_at "x"
    exact ⟨rfl, st, seen, Z, hup, Nat.le_refl _⟩
   ·have hlen := Z.len R.nodup
    repeat walk_at "x"
    refine GM_set hc ?_
    repeat walk_at "x"
    refine ⟨qad, CV_add hc ?_ ?_⟩
    ·have := List.length_filter_le seen T.keys; lia
    refine rE (if_neg (by rw [q]; simp)) ?_
    have hit' : H' it = _ := Z.hit
    have o1 : it ≠ se := ne_at hit' hc
    have hit2 := (CH.set_ne (H := H') (c := .set (qaz seen x) (c + 1)) o1).trans hit'
    repeat walk_at "x"
    refine qa8 (.own hit2) F.slot_list_append F.type_list_append ?_
    repeat walk_at "x"
    refine EV_b B g_iter2 b_iter ?_
    repeat walk_at "x"
    have o2 : L.n2i ≠ se := ne_at (kn2i Z) hc
    refine qau ((CH.set_ne o2).trans (kn2i Z)) (qcf hxk) ?_
    repeat walk_at "x"
    have R' := R.keep Z.keep
    have R'' : ∀ {b : Addr} {c' : CObj}, H' b = some c' → (∀ S c, c' ≠ .set S c) → (H'.set se (.set (qaz seen x) (c + 1))) b = some c' := fun {b c'} h1 h2 => (CH.set_ne (fun e => by rw [e, hc] at h1; cases h1; exact h2 _ _ rfl)).trans h1
    refine qcc (p := 88) (i := 2) B (R'' (R'.node x hxk) (by intro _ _ h; cases h)) (R'' (R'.nd x hxk) (by intro _ _ h; cases h)) rfl ?_
    repeat walk_at "x"
    refine ⟨qad, CV_iter (.own (R'' (R'.succ x hxk) (by intro _ _ h; cases h))) fun I hI hI0 => ?_⟩
    replace hI : (H'.set se (.set (qaz seen x) (c + 1))) I = none := hI
    repeat walk_at "x"
    refine GA_next CH.set_same ?_
    repeat walk_at "x"
    have i1 : it ≠ I := ne_at hit2 hI
    refine ⟨qad, qch ((CH.set_ne i1).trans hit2) (by refine rE (List.length_map ..) ?_; lia) ?_⟩
    repeat walk_at "x"
    refine eEEA Z.hnd fun kvs ep hnd hkv => ?_
    have hS' := Z.hs
    have j1 : S ≠ se := ne_at hS' hc
    have j2 : S ≠ I := ne_at ((CH.set_ne j1).trans hS') hI
    have k1 : nd ≠ se := ne_at hnd hc
    have k2 : nd ≠ I := ne_at ((CH.set_ne k1).trans hnd) hI
    have k3 : nd ≠ it := ne_at hnd hit'
    have k4 : S ≠ nd := ne_at hS' hnd
    refine EV_b B g_len2 b_len ?_
    repeat walk_at "x"
    refine ⟨qad, CV_len (.own (by refine rE (CH.set_ne Z.ne) (rE (CH.set_ne j2) (rE (CH.set_ne j1) ?_)); exact hS')) (by refine rE (List.length_map ..) ?_; omega) ?_⟩
    repeat walk_at "x"
    have hxs : x ∉ kvs.map (·.1) := fun h => by
     rw [hkv] at h
     refine eEA (List.mem_map.mp h) fun e he zz2 => ?_; subst zz2
     exact Int.lt_irrefl _ (hlt e he)
    have hkl : kvs.length ≤ sizeLine := by
     have := congrArg List.length hkv
     rw [List.length_map, List.length_map] at this; lia
    refine qck (by refine rE (CH.set_ne k3) (rE (CH.set_ne k2) (rE (CH.set_ne k1) ?_)); exact hnd) hkl fun ep' => ?_
    refine rE (putI_new hxs) ?_
    repeat walk_at "x"
    refine qa8 (.own (by refine rE (CH.set_ne k4) (rE (CH.set_ne Z.ne) (rE (CH.set_ne j2) (rE (CH.set_ne j1) ?_))); exact hS')) F.slot_list_append F.type_list_append ?_
    repeat walk_at "x"
    refine ⟨qad, qch (by refine rE (CH.set_ne k4) (rE (CH.set_ne Z.ne) (rE (CH.set_ne j2) (rE (CH.set_ne j1) ?_))); exact hS') (by refine rE (List.length_map ..) ?_; lia) ?_⟩
    repeat walk_at "x"
    have hI0' : H I = none := by
     cases h : H I with
     | none => rfl
     | some o =>
      have i2 : I ≠ se := ne_at hI CH.set_same
      rw [CH.set_ne i2, Z.keep I (by refine rE h ?_; simp), h] at hI; cases hI
    have Z' := Z.push R.nodup hxk q hc hcl hkv hI hI0' (v := .int ((st.map fun e => V.int e.1).length : Int)) (ep := ep')
    refine ⟨rfl, _, _, Z', ?_, ?_⟩
    ·unfold Up at hup ⊢
     rw [List.pairwise_append]
     exact ⟨hup, List.pairwise_singleton .., fun e he e' he' => by refine rE (List.mem_singleton.mp he') ?_; exact hlt e he⟩
    ·refine rE qcg (rE (leftU_add R.nodup hxk q) ?_)
     show _ + (_ + ((T.sc x).length - 0)) ≤ _
     lia
  ·obtain ⟨rfl, st', seen', Z', hup', hle'⟩ := hM
   generalize leftU T seen + leftS T st = N at *
   refine qam (st := .While _ _ _ _) (ES_while (FcW H T L S it se nd a rk x N) _ _
    (.cons rfl (.cons rfl (.cons rfl (.cons rfl (.cons rfl (.cons rfl (.cons rfl .nil))))))) ⟨rfl, st', seen', Z', hup', hle', rfl⟩ ?_)
   clear Z' hup' hle' st' seen' Z hup hlt st seen H'
   rintro n' m' H' ⟨rfl, st, seen, Z, hup, hle, rfl⟩
   have hlen := Z.len R.nodup
   repeat walk_at "x"
   refine OB_list (.own Z.hs) (by refine rE (List.length_map ..) ?_; lia) ⟨fun hb => ?_, fun hb => ?_⟩
   ·have hne : st ≠ [] := by intro h; subst h; simp at hb
    obtain ⟨st0, e, rfl⟩ : ∃ st0 e, st = st0 ++ [e] := ⟨_, _, (List.dropLast_concat_getLast hne).symm⟩
    obtain ⟨k, I, i⟩ := e
    obtain ⟨hI, hI0⟩ : H' I = some (.liter (L.bL k) i) ∧ H I = none := Z.its (k, I, i) (List.mem_append_right _ List.mem_cons_self)
    obtain ⟨hkk, hks⟩ : k ∈ T.keys ∧ seen k = true := Z.mem (k, I, i) (List.mem_append_right _ List.mem_cons_self)
    have R' := R.keep Z.keep
    have hit : H' it = some (.list ((st0.map fun e => V.imm (mwObj e.2.1)) ++ [V.imm (mwObj I)])) := by have h := Z.hit; rw [List.map_append] at h; exact h
    have hup0 := hup
    unfold Up at hup0
    rw [List.pairwise_append] at hup0
    replace hlen : st0.length + 1 ≤ T.keys.length := by simpa using hlen
    have hneg : ((st0.map fun e => V.imm (mwObj e.2.1)) ++ [V.imm (mwObj I)])[((-1 : Int) + (((st0.map fun e => V.imm (mwObj e.2.1)) ++ [V.imm (mwObj I)]).length : Int)).toNat]? = some (.imm (mwObj I)) := by
     refine rE (show ((-1 : Int) + (((st0.map fun e => V.imm (mwObj e.2.1)) ++ [V.imm (mwObj I)]).length : Int)).toNat = (st0.map fun e => V.imm (mwObj e.2.1)).length from by rw [List.length_append, List.length_singleton]; lia) ?_
     simp
    by_cases hi : i < (T.sc k).length
    ·have hx' : (T.sc k)[i]? = some (T.sc k)[i] := List.getElem?_eq_getElem hi
     generalize (T.sc k)[i] = y at hx'
     refine eA (hrk k hkk y (List.mem_of_getElem? hx')) fun hyk hyr => ?_
     refine qam (st := .Try _ _ _ _ _) (ES_try (T := "StopIteration") (cls := "StopIteration") (R := fun _ _ => False) hA'.frames rfl (by kernel_rfl) (by kernel_rfl) (by kernel_rfl) (EXX_of ?_) (fun _ _ _ h => h.elim))
     repeat walk_at "x"
     refine qcr ?_
     repeat walk_at "x"
     refine qa5 (k := -1) (v := .imm (mwObj I)) (.own hit) (by decide) (by refine rE List.length_append (rE List.length_singleton ?_); lia) hneg (by refine rE List.length_append (rE (List.length_map ..) (rE List.length_singleton ?_)); lia) ?_
     repeat walk_at "x"
     refine ⟨KP_mw, CV_mw hI (.own (R'.succ k hkk)) (by refine rE List.getElem?_map (rE hx' ?_); rfl) ?_⟩
     repeat walk_at "x"
     have Z' := Z.step (i := i + 1)
     refine EX_nil ?_
     refine ⟨_, _, ?_, .cons rfl (.cons rfl (.cons rfl (.cons rfl (.cons rfl (.cons rfl (.cons rfl .nil)))))), y, _, _, rfl, Z', hyk, ?_, ?_, rfl⟩
     ·rw [qcg] at hle ⊢
      show _ + (_ + ((T.sc k).length - (i + 1))) < _
      have : leftU T seen + (leftS T st0 + ((T.sc k).length - i)) ≤ N := hle
      grind
     ·unfold Up
      rw [List.pairwise_append]
      exact ⟨hup0.1, List.pairwise_singleton .., fun e he e' he' => by refine rE (List.mem_singleton.mp he') ?_; exact hup0.2.2 e he (k, I, i) (List.mem_singleton.mpr rfl)⟩
     ·intro e he
      rcases List.mem_append.mp he with he | he
      ·exact Int.lt_trans (hup0.2.2 e he (k, I, i) (List.mem_singleton.mpr rfl)) hyr
      ·refine rE (List.mem_singleton.mp he) ?_; exact hyr
    ·refine qam (st := .Try _ _ _ _ _) (ES_try (T := "StopIteration") (cls := "StopIteration") (R := fun m' H'' => m' = mX x S it se nd L.n2i a ∧ H'' = H'.del I) hA'.frames rfl (by kernel_rfl) (by kernel_rfl) (by kernel_rfl) (EXX_cons (ESX_assign (EVX_call ?_))) ?_)
     ·repeat walk_at "x"
      refine qcr ?_
      repeat walk_at "x"
      refine qa5 (k := -1) (v := .imm (mwObj I)) (.own hit) (by decide) (by refine rE List.length_append (rE List.length_singleton ?_); lia) hneg (by refine rE List.length_append (rE (List.length_map ..) (rE List.length_singleton ?_)); lia) ?_
      repeat walk_at "x"
      exact ⟨KP_mw, CVX_mw hA'.handled hI (.own (R'.succ k hkk)) (by refine rE (List.length_map ..) ?_; exact Nat.le_of_not_lt hi) ⟨rfl, rfl⟩⟩
     ·rintro _ _ h' ⟨rfl, rfl⟩
      refine EV_b (by exact B) g_stop b_stop ?_
      refine ⟨rfl, ?_⟩
      refine eEEA Z.hnd fun kvs ep hnd hkv => ?_
      rw [List.map_append] at hkv
      have hS' : H' S = some (.list ((st0.map fun e => V.int e.1) ++ [.int k])) := by have h := Z.hs; rw [List.map_append] at h; exact h
      have hkn := Z.nK
      rw [List.map_append, List.nodup_append] at hkn
      have hk0 : k ∉ st0.map (·.1) := fun h => hkn.2.2 _ h _ (List.mem_singleton.mpr rfl) rfl
      have hkv0 := dropI_keys hkv hk0
      have i1 : S ≠ I := ne_at hS' hI
      have i2 : nd ≠ I := ne_at hnd hI
      have i3 : it ≠ I := ne_at hit hI
      have k4 : S ≠ nd := ne_at hS' hnd
      have k3 : nd ≠ it := ne_at hnd hit
      refine qam (st := .Delete _ _) (ES_del ?_)
      repeat walk_at "x"
      refine qa8 (.own (by refine rE (CH.del_ne i1) ?_; exact hS')) F.slot_list_pop F.type_list_pop ?_
      repeat walk_at "x"
      refine ⟨qad, CV_pop (by refine rE (CH.del_ne i1) ?_; exact hS') (by refine rE (List.length_map ..) ?_; omega) ?_⟩
      refine ⟨nd, k, kvs, ep, rfl, rfl, by refine rE (CH.set_ne (Ne.symm k4)) (rE (CH.del_ne i2) ?_); exact hnd, ?_, lookup_yes (by refine rE hkv ?_; simp), fun ep' => ?_⟩
      ·have := congrArg List.length hkv
       simp at this
       lia
      repeat walk_at "x"
      refine qa8 (.own (by refine rE (CH.set_ne (Ne.symm k3)) (rE (CH.set_ne (Ne.symm Z.ne)) (rE (CH.del_ne i3) ?_)); exact hit)) F.slot_list_pop F.type_list_pop ?_
      repeat walk_at "x"
      refine ⟨qad, CV_pop (by refine rE (CH.set_ne (Ne.symm k3)) (rE (CH.set_ne (Ne.symm Z.ne)) (rE (CH.del_ne i3) ?_)); exact hit) (by refine rE (List.length_map ..) ?_; omega) ?_⟩
      repeat walk_at "x"
      have Z' := Z.pop (ep := ep') hkv0
      refine ⟨_, _, ?_, .cons rfl (.cons rfl (.cons rfl (.cons rfl (.cons rfl (.cons rfl (.cons rfl .nil)))))), rfl, st0, seen, Z', hup0.1, ?_, rfl⟩
      ·simp
      ·rw [qcg] at hle; lia
   ·repeat walk_at "x"
    have e : st = [] := by simpa using hb
    subst e
    refine EX_nil ?_
    refine (hRR _ _ ?_ ⟨seen, Z⟩).1
    exact .cons rfl (.cons rfl (.cons rfl (.cons rfl (.cons rfl (.cons rfl .nil)))))
 ·obtain ⟨seen, Z⟩ := hJ
  repeat walk_at "x"
  exact hR0 _ _ ⟨rfl, Z.keep⟩
end
end
section
section
variable {C : Cx} {A : Around} {m : Loc} {H : CH} {s : Shared} {mg mb : Str → Option Value} {P : Params} {a : Addr} {T : TS} {L : Lay}
theorem spec_prepare {rk : Int → Int} (hrk : ∀ k ∈ T.keys, ∀ x ∈ T.sc k, x ∈ T.keys ∧ rk k < rk x) (hz : T.keys.length + 1 < scanBound) (B : Bs C.h₀ (KK P) mg mb) {n : Nat} (hA : AOK C A (n + 2)) (R : TSR H a T L) (hr : T.ready = none) :
  CALL C A (.con (.ref a_prepare)) [.ref a] [] H fun v H' => AEx2 (v = V.none) (fun L' => TSR H' a T.prep L') fun L' => FrameT a H T L H' T.prep L' := by
 have hz1 : T.keys.length ≤ sizeLine := by unfold sizeLine; unfold scanBound at hz; lia
 refine qas fun R0 hR0 => ?_
 refine CALL_K B (by with_unfolding_all rfl) (by with_unfolding_all rfl) hA .pos1 (by with_unfolding_all rfl) rfl fun LL hL hL0 hA' => ?_
 walk_at "xi"
 refine qa9 B R.top R.dict rfl ?_ (by kernel_rfl) (by unfold rdV; refine rE hr ?_; rfl)
 repeat walk_at "x"
 refine ⟨_, rfl, fun q => ?_, fun _ => ?_⟩
 ·unfold rdV at q; rw [hr] at q; cases q
 repeat walk_at "x"
 refine EV_lc ?_
 repeat walk_at "x"
 refine qa9 B R.top R.dict rfl ?_
 refine GM_dict R.n2i F.slot_dict_values F.type_dict_values ?_
 repeat walk_at "x"
 refine ⟨qad, CV_values B R.n2i ?_⟩
 refine LC_pure T.keys (fun k => .ref (L.bA k)) (fun k => T.np k == 0) .int (ok := fun H' => H' L.n2i = some (.dict (T.keys.map fun k => (k, .ref (L.bA k))) L.ep)) (by
  have : valsOf (T.keys.map fun k => (k, V.ref (L.bA k))) = T.keys.map fun k => V.ref (L.bA k) := by unfold valsOf; refine rE List.map_map ?_; rfl
  refine rF this ?_; exact seq_vals hA'.handled R.n2i) R.n2i hz1 (fun k hk LC hLC => ?_) fun D hD hD0 => ?_
 ·repeat walk_at "x"
  refine qcc (p := 87) (i := 1) B (R.node k hk) (R.nd k hk) rfl ?_
  repeat walk_at "x"
  refine ⟨_, rfl, fun q => ?_, fun q => ?_⟩
  ·repeat walk_at "x"
   refine ⟨by exact Bool.le_antisymm (fun a ↦ q) (congrFun rfl), rfl, fun _ => ?_⟩
   repeat walk_at "x"
   refine qcc (p := 86) (i := 0) B (R.node k hk) (R.nd k hk) rfl ?_
   exact ⟨rfl, rfl⟩
  ·exact ⟨by exact Eq.symm (BEq.neq_of_neq_of_beq q rfl), rfl, fun h => (by cases h)⟩
 repeat walk_at "x"
 refine eA (R.setSome hD hr (T.keys.filter fun k => T.np k == 0)) fun R₁ F₁ => ?_
 have low : ∀ {b : Addr} {c : CObj}, H b = some c → ∀ d, H.set D d b = some c := fun {b c} h d => by refine rE (CH.set_ne ((ne_at h hD))) ?_; exact h
 refine SA_own B (low R.top _) (low R.dict _) (by first | with_unfolding_all exact (by decide : (4:Nat) < 1000)) ?_
 repeat walk_at "x"
 refine qa4 (f := a_findcycle) B R₁.top R₁.dict rfl ?_
 repeat walk_at "x"
 refine ⟨KP_K B (by with_unfolding_all rfl), CV_of ((spec_findcycle (T := T.prep) (rk := rk) hrk hz (by exact B) hA' R₁).mono ?_)⟩
 rintro v H' ⟨rfl, hkeep⟩
 repeat walk_at "x"
 walk_at "xi"
 refine OB_none ⟨fun q => (by cases q), fun _ => ?_⟩
 repeat walk_at "x"
 exact hR0 _ _ ⟨rfl, _, R₁.keep hkeep, F₁.trans fun b hb hf => ⟨hkeep b hb, hf⟩⟩
end
end
section
theorem TSR.more {H H' : CH} {a : Addr} {T : TS} {L : Lay} (k : ∀ b, H b ≠ none → H' b = H b) (R : TSR H a T L) : TSR H' a T L := by
 have k' : ∀ {b : Addr} {o : CObj}, H b = some o → H' b = some o := fun {b o} e => (k b (by refine rE e ?_; simp)).trans e
 exact ⟨k' R.top, k' R.dict, k' R.n2i, fun r e => k' (R.rdy r e), fun x hx => k' (R.node x hx), fun x hx => k' (R.nd x hx), fun x hx => k' (R.succ x hx), R.inj, R.rdn, R.nodup⟩
theorem TSR.keepF {H H' : CH} {a : Addr} {T : TS} {L : Lay} (k : ∀ b, H b ≠ none → Foot a T L b → H' b = H b) (R : TSR H a T L) : TSR H' a T L := by
 have k' : ∀ {b : Addr} {o : CObj}, H b = some o → Foot a T L b → H' b = some o := fun {b o} e f => (k b (by refine rE e ?_; simp) f).trans e
 exact ⟨k' R.top (.inl rfl), k' R.dict (.inr (.inl rfl)), k' R.n2i (.inr (.inr (.inl rfl))), fun r e => k' (R.rdy r e) (.inr (.inr (.inr (.inl ⟨by refine rE e ?_; simp, rfl⟩)))), fun x hx => k' (R.node x hx) (.inr (.inr (.inr (.inr ⟨x, hx, .inl rfl⟩)))), fun x hx => k' (R.nd x hx) (.inr (.inr (.inr (.inr ⟨x, hx, .inr (.inl rfl)⟩)))), fun x hx => k' (R.succ x hx) (.inr (.inr (.inr (.inr ⟨x, hx, .inr (.inr rfl)⟩)))), R.inj, R.rdn, R.nodup⟩
theorem TSR.nofoot {H : CH} {a : Addr} {T : TS} {L : Lay} (R : TSR H a T L) {x : Addr} (hx : H x = none) : ¬ Foot a T L x := fun f => by
 rcases f with e | e | e | ⟨hr, e⟩ | ⟨k, hk, e | e | e⟩
 ·exact absurd e (ne_at hx R.top)
 ·exact absurd e (ne_at hx R.dict)
 ·exact absurd e (ne_at hx R.n2i)
 ·refine eE (Option.ne_none_iff_exists'.mp hr) fun r h => ?_
  exact absurd e (ne_at hx (R.rdy _ h))
 ·exact absurd e (ne_at hx (R.node k hk))
 ·exact absurd e (ne_at hx (R.nd k hk))
 ·exact absurd e (ne_at hx (R.succ k hk))
structure SS (a b : Addr) (TU TD : TS) (LU LD : Lay) (M H : CH) : Prop where
 ru : TSR H a TU LU
 rd : TSR H b TD LD
 dj : ∀ c, Foot a TU LU c → ¬ Foot b TD LD c
 fr : ∀ x c, M x = some c → H x = some c ∧ ¬ Foot a TU LU x ∧ ¬ Foot b TD LD x
section
variable {a b : Addr} {TU TD TU' TD' : TS} {LU LD LU' LD' : Lay} {M H H' : CH} {x : Addr} {c : CObj}
theorem SS.get (Z : SS a b TU TD LU LD M H) (h : M x = some c) : H x = some c := (Z.fr x c h).1
theorem SS.new (Z : SS a b TU TD LU LD M H) (h : H x = none) : M x = none := by
 cases q : M x with
 | none => rfl
 | some c => exact (no2 (Z.get q) h).elim
theorem SS.free (Z : SS a b TU TD LU LD M H) (h : M x ≠ none ∨ H x = none) : ¬ Foot a TU LU x ∧ ¬ Foot b TD LD x := by
 rcases h with h | h
 ·cases q : M x with
  | none => exact absurd q h
  | some c => exact (Z.fr x c q).2
 ·exact ⟨Z.ru.nofoot h, Z.rd.nofoot h⟩
theorem SS.upd (Z : SS a b TU TD LU LD M H) (hx : M x ≠ none ∨ H x = none) (hc : H' x = some c) (k : ∀ y, H y ≠ none → y ≠ x → H' y = H y) : SS a b TU TD LU LD (M.set x c) H' := by
 refine eA (Z.free hx) fun f1 f2 => ?_
 refine ⟨Z.ru.keepF fun y hy f => k y hy fun e => f1 (e ▸ f), Z.rd.keepF fun y hy f => k y hy fun e => f2 (e ▸ f), Z.dj, fun y d e => ?_⟩
 by_cases q : y = x
 ·subst q; rw [CH.set_same] at e; cases e; exact ⟨hc, f1, f2⟩
 ·rw [CH.set_ne q] at e
  refine eA (Z.fr y d e) fun g1 g2 => ?_
  exact ⟨(k y (by refine rE g1 ?_; simp) q).trans g1, g2⟩
theorem SS.set (Z : SS a b TU TD LU LD M H) (hx : M x ≠ none ∨ H x = none) : SS a b TU TD LU LD (M.set x c) (H.set x c) := Z.upd hx CH.set_same fun y _ h => CH.set_ne h
theorem SS.more (Z : SS a b TU TD LU LD M H) (k : ∀ y, H y ≠ none → H' y = H y) : SS a b TU TD LU LD M H' := by
 refine ⟨Z.ru.more k, Z.rd.more k, Z.dj, fun y d e => ?_⟩
 refine eA (Z.fr y d e) fun g1 g2 => ?_
 exact ⟨(k y (by refine rE g1 ?_; simp)).trans g1, g2⟩
theorem SS.stepU (Z : SS a b TU TD LU LD M H) (R : TSR H' a TU' LU') (F : FrameT a H TU LU H' TU' LU') : SS a b TU' TD LU' LD M H' := by
 have there : ∀ y, Foot b TD LD y → H y ≠ none := fun y f e => Z.rd.nofoot e f
 have off : ∀ y, Foot b TD LD y → H' y = H y ∧ ¬ Foot a TU' LU' y := fun y f => F y (there y f) fun g => Z.dj y g f
 refine ⟨R, Z.rd.keepF fun y _ f => (off y f).1, fun y f g => (off y g).2 f, fun y d e => ?_⟩
 refine eAA (Z.fr y d e) fun g1 g2 g3 => ?_
 obtain ⟨h1, h2⟩ := F y (by refine rE g1 ?_; simp) g2
 exact ⟨h1.trans g1, h2, g3⟩
theorem SS.stepD (Z : SS a b TU TD LU LD M H) (R : TSR H' b TD' LD') (F : FrameT b H TD LD H' TD' LD') : SS a b TU TD' LU LD' M H' := by
 have there : ∀ y, Foot a TU LU y → H y ≠ none := fun y f e => Z.ru.nofoot e f
 have off : ∀ y, Foot a TU LU y → H' y = H y ∧ ¬ Foot b TD' LD' y := fun y f => F y (there y f) fun g => Z.dj y f g
 refine ⟨Z.ru.keepF fun y _ f => (off y f).1, R, fun y f g => (off y f).2 g, fun y d e => ?_⟩
 refine eAA (Z.fr y d e) fun g1 g2 g3 => ?_
 obtain ⟨h1, h2⟩ := F y (by refine rE g1 ?_; simp) g3
 exact ⟨h1.trans g1, g2, h2⟩
end
end
section
noncomputable abbrev a_insR : Addr := 30
noncomputable abbrev a_bisR : Addr := 39
noncomputable abbrev a_insL : Addr := 48
noncomputable abbrev a_bisL : Addr := 57
noncomputable abbrev kwObj (P : Params) (tk : Tok) : Obj := { cls := .type "dict", data := .dict #[{ hash := PyData.keyHash P (Str.ofString "key"), key := .str (Str.ofString "key") tk, val := .none }] 1 }
theorem g_bisR {P : Params} : nsIn (KK P) mainGlobals "bisect_right" = some (some (.ref a_bisR)) := by kernel_rfl
theorem g_bisL {P : Params} : nsIn (KK P) mainGlobals "bisect_left" = some (some (.ref a_bisL)) := by kernel_rfl
theorem sn {H : CH} {a : Addr} {c : CObj} (h : H a = some c) : H a ≠ none := by refine rE h ?_; simp
theorem at_ne {H : CH} {a b : Addr} {c : CObj} {x : Option CObj} (hn : b ≠ a) (h : H b = x) : H.set a c b = x := (CH.set_ne hn).trans h
theorem half_ok {a b : Nat} (h : a < b) : (((a : Nat) : Int) + (b : Nat)).fdiv 2 = (((a + b) / 2 : Nat) : Int) := by
 refine rE (Int.fdiv_eq_ediv_of_nonneg _ (by decide)) ?_; rfl
inductive Arg3 (l : Addr) (x : Int) (lo : Nat) (vs : List V) : Prop
 | three (h : vs = [.ref l, .int x, .int lo]) : Arg3 l x lo vs
 | four (h : vs = [.ref l, .int x, .int lo, V.none]) : Arg3 l x lo vs
theorem four_inv {h : Heap} {x y z w : V} {rs : List Value} (r : VRs h [x, y, z, w] rs) : ∃ a b c d, rs = [a, b, c, d] ∧ VR h x a ∧ VR h y b ∧ VR h z c ∧ VR h w d := by
 obtain ⟨a, l, rfl, ha, r⟩ := r.cons_inv
 obtain ⟨b, c, d, rfl, hb, hc, hd⟩ := qbe r
 exact ⟨a, b, c, d, rfl, ha, hb, hc, hd⟩
structure Cut (below : Int → Bool) (xs : List Int) (lo c : Nat) : Prop where
 ge : lo ≤ c
 le : c ≤ xs.length
 a : ∀ i, lo ≤ i → i < c → ∀ t, xs[i]? = some t → below t = true
 b : ∀ i, c ≤ i → ∀ t, xs[i]? = some t → below t = false
inductive BisI (l : Addr) (x : Int) (lo c : Nat) (xs : List Int) (H : CH) (k : Nat) (m' : Loc) (H' : CH) : Prop
 | mk (a b : Nat) (hk : k = b - a) (h1 : lo ≤ a) (h2 : a ≤ c) (h3 : c ≤ b) (h4 : b ≤ xs.length) (hH : H' = H) (hm : m' = ([("lo", .int a), ("hi", .int b), ("a", .ref l), ("x", .int x)] : Loc))
section
variable {C : Cx} {A : Around} {m : Loc} {H : CH} {s : Shared} {mg mb : Str → Option Value} {P : Params}
theorem LAt.at {env : Env} {l : Addr} {xs : List V} (h : LAt C H l xs) : LAt (C.at env) H l xs := by
 cases h with
 | own h => exact .own h
 | base items n h hv => exact .base items n h hv
theorem spec_bisR {l : Addr} {xs : List Int} {x : Int} {lo c : Nat} {vs : List V} (B : Bs C.h₀ (KK P) mg mb) {n : Nat} (hA : AOK C A (n + 1)) (hl : LAt C H l (xs.map .int)) (hsz : xs.length ≤ 2 ^ 10) (hc : Cut (fun t => decide (t ≤ x)) xs lo c) (hv : Arg3 l x lo vs) :
  CALL C A (.con (.ref a_bisR)) vs [] H fun v H' => v = .int c ∧ H' = H := by
 have hs2 : (xs.map V.int).length ≤ sizeLine := by refine rE (List.length_map ..) ?_; exact Nat.le_trans hsz (by decide)
 refine qas fun R0 hR0 => ?_
 refine qci B (by with_unfolding_all rfl) (by with_unfolding_all rfl) hA (binds := [("a", .ref l), ("x", .int x), ("lo", .int lo), ("hi", V.none), ("key", V.none)]) ?_ (by with_unfolding_all rfl) rfl fun L hL hL0 hA' => ?_
 ·refine .dfltkw (T := 31) (D := 32) (items := [.int 0 209, .none]) (n := 0) (o := kwObj P 210) B (by with_unfolding_all rfl) (by with_unfolding_all rfl) fun h rs rkw hv' hk => ?_
  have := hk.nil_inv; subst this
  rcases hv with rfl | rfl
  ·obtain ⟨a, b, d, rfl, ha, hb, hd⟩ := qbe hv'
   exact ⟨_, _, _, [("a", a), ("x", b), ("lo", d), ("hi", .none), ("key", .none)], by with_unfolding_all rfl, by with_unfolding_all rfl, by with_unfolding_all rfl, rfl, .cons ha (.cons hb (.cons hd (.cons .con (.cons .con .nil))))⟩
  ·obtain ⟨a, b, d, e, rfl, ha, hb, hd, he⟩ := four_inv hv'
   exact ⟨_, _, _, [("a", a), ("x", b), ("lo", d), ("hi", e), ("key", .none)], by with_unfolding_all rfl, by with_unfolding_all rfl, by with_unfolding_all rfl, rfl, .cons ha (.cons hb (.cons hd (.cons he (.cons .con .nil))))⟩
 walk_at "xi"
 refine ⟨_, rfl, fun q => absurd (of_decide_eq_true q) (by exact Int.not_ofNat_neg lo), fun _ => ?_⟩
 repeat walk_at "x"
 walk_at "xi"
 refine ⟨_, rfl, fun _ => ?_, fun q => (by cases q)⟩
 repeat walk_at "x"
 refine EV_b B g_len b_len ?_
 repeat walk_at "x"
 refine ⟨qad, CV_len hl.at hs2 ?_⟩
 refine rE (List.length_map ..) ?_
 repeat walk_at "x"
 walk_at "xi"
 refine ⟨_, rfl, fun _ => ?_, fun q => (by cases q)⟩
 refine EX_mid (fun m' H' => H' = H ∧ Sub [("lo", .int c)] m') ?_ fun m' H' hm => ?_
 ·refine ES_while (BisI l x lo c xs H) (xs.length - lo) _ (.cons rfl (.cons rfl (.cons rfl (.cons rfl .nil)))) ⟨lo, xs.length, rfl, Nat.le_refl _, hc.ge, hc.le, Nat.le_refl _, rfl, rfl⟩ ?_
  rintro k m' H' ⟨a, b, rfl, h1, h2, h3, h4, rfl, rfl⟩
  repeat walk_at "x"
  refine ⟨_, rfl, fun q => ?_, fun q => ?_⟩
  ·have hab : a < b := by have := of_decide_eq_true q; exact Int.ofNat_lt.mp this
   obtain ⟨t, ht⟩ : ∃ t, xs[(a + b) / 2]? = some t := ⟨_, List.getElem?_eq_getElem (Nat.lt_of_lt_of_le (qay hab) h4)⟩
   repeat walk_at "x"
   refine O2_div (by decide) (by decide) ?_
   refine rE (half_ok hab) ?_
   repeat walk_at "x"
   walk_at "xi"
   refine qag (v := .int t) hl.at (by exact Int.natCast_nonneg ((a + b) / 2)) (by refine rE (Int.toNat_natCast ..) (rE List.getElem?_map (rE ht ?_)); rfl) hs2 ?_
   repeat walk_at "x"
   refine ⟨_, rfl, fun q2 => ?_, fun q2 => ?_⟩
   ·have hk : c ≤ (a + b) / 2 := by
     refine Nat.le_of_not_lt fun hlt => ?_
     have := hc.a _ (Nat.le_trans h1 (qbj (Nat.le_of_lt hab))) hlt t ht
     simp at this q2
     lia
    repeat walk_at "x"
    exact ⟨(a + b) / 2 - a, _, Nat.sub_lt_sub_right (qbj (Nat.le_of_lt hab)) (qay hab), .cons rfl (.cons rfl (.cons rfl (.cons rfl .nil))), a, (a + b) / 2, rfl, h1, h2, hk, Nat.le_trans (Nat.le_of_lt (qay hab)) h4, rfl, rfl⟩
   ·have hk : (a + b) / 2 < c := by
     refine Nat.lt_of_not_le fun hle => ?_
     have := hc.b _ hle t ht
     simp at this q2
     lia
    repeat walk_at "x"
    exact ⟨b - ((a + b) / 2 + 1), _, Nat.sub_lt_sub_left hab (Nat.lt_succ_of_le (qbj (Nat.le_of_lt hab))), .cons rfl (.cons rfl (.cons rfl (.cons rfl .nil))), (a + b) / 2 + 1, b, rfl, Nat.le_succ_of_le (Nat.le_trans h1 (qbj (Nat.le_of_lt hab))), hk, h3, h4, rfl, rfl⟩
  ·have hab : a = c := by have := of_decide_eq_false q; lia
   subst hab
   repeat walk_at "x"
   exact ⟨rfl, .cons rfl .nil⟩
 ·refine eA hm fun zz0 hm2 => ?_; clear hm; subst zz0
  refine EX.sub hm2 ?_
  repeat walk_at "x"
  exact hR0 _ _ ⟨rfl, rfl⟩
theorem spec_bisL {l : Addr} {xs : List Int} {x : Int} {lo c : Nat} {vs : List V} (B : Bs C.h₀ (KK P) mg mb) {n : Nat} (hA : AOK C A (n + 1)) (hl : LAt C H l (xs.map .int)) (hsz : xs.length ≤ 2 ^ 10) (hc : Cut (fun t => decide (t < x)) xs lo c) (hv : Arg3 l x lo vs) :
  CALL C A (.con (.ref a_bisL)) vs [] H fun v H' => v = .int c ∧ H' = H := by
 have hs2 : (xs.map V.int).length ≤ sizeLine := by refine rE (List.length_map ..) ?_; exact Nat.le_trans hsz (by decide)
 refine qas fun R0 hR0 => ?_
 refine qci B (by with_unfolding_all rfl) (by with_unfolding_all rfl) hA (binds := [("a", .ref l), ("x", .int x), ("lo", .int lo), ("hi", V.none), ("key", V.none)]) ?_ (by with_unfolding_all rfl) rfl fun L hL hL0 hA' => ?_
 ·refine .dfltkw (T := 49) (D := 50) (items := [.int 0 236, .none]) (n := 0) (o := kwObj P 237) B (by with_unfolding_all rfl) (by with_unfolding_all rfl) fun h rs rkw hv' hk => ?_
  have := hk.nil_inv; subst this
  rcases hv with rfl | rfl
  ·obtain ⟨a, b, d, rfl, ha, hb, hd⟩ := qbe hv'
   exact ⟨_, _, _, [("a", a), ("x", b), ("lo", d), ("hi", .none), ("key", .none)], by with_unfolding_all rfl, by with_unfolding_all rfl, by with_unfolding_all rfl, rfl, .cons ha (.cons hb (.cons hd (.cons .con (.cons .con .nil))))⟩
  ·obtain ⟨a, b, d, e, rfl, ha, hb, hd, he⟩ := four_inv hv'
   exact ⟨_, _, _, [("a", a), ("x", b), ("lo", d), ("hi", e), ("key", .none)], by with_unfolding_all rfl, by with_unfolding_all rfl, by with_unfolding_all rfl, rfl, .cons ha (.cons hb (.cons hd (.cons he (.cons .con .nil))))⟩
 walk_at "xi"
 refine ⟨_, rfl, fun q => absurd (of_decide_eq_true q) (by exact Int.not_ofNat_neg lo), fun _ => ?_⟩
 repeat walk_at "x"
 walk_at "xi"
 refine ⟨_, rfl, fun _ => ?_, fun q => (by cases q)⟩
 repeat walk_at "x"
 refine EV_b B g_len b_len ?_
 repeat walk_at "x"
 refine ⟨qad, CV_len hl.at hs2 ?_⟩
 refine rE (List.length_map ..) ?_
 repeat walk_at "x"
 walk_at "xi"
 refine ⟨_, rfl, fun _ => ?_, fun q => (by cases q)⟩
 refine EX_mid (fun m' H' => H' = H ∧ Sub [("lo", .int c)] m') ?_ fun m' H' hm => ?_
 ·refine ES_while (BisI l x lo c xs H) (xs.length - lo) _ (.cons rfl (.cons rfl (.cons rfl (.cons rfl .nil)))) ⟨lo, xs.length, rfl, Nat.le_refl _, hc.ge, hc.le, Nat.le_refl _, rfl, rfl⟩ ?_
  rintro k m' H' ⟨a, b, rfl, h1, h2, h3, h4, rfl, rfl⟩
  repeat walk_at "x"
  refine ⟨_, rfl, fun q => ?_, fun q => ?_⟩
  ·have hab : a < b := by have := of_decide_eq_true q; omega
   obtain ⟨t, ht⟩ : ∃ t, xs[(a + b) / 2]? = some t := ⟨_, List.getElem?_eq_getElem (Nat.lt_of_lt_of_le (qay hab) h4)⟩
   repeat walk_at "x"
   refine O2_div (by decide) (by decide) ?_
   refine rE (half_ok hab) ?_
   repeat walk_at "x"
   walk_at "xi"
   refine qag (v := .int t) hl.at (by exact Int.natCast_nonneg ((a + b) / 2)) (by refine rE (Int.toNat_natCast ..) (rE List.getElem?_map (rE ht ?_)); rfl) hs2 ?_
   repeat walk_at "x"
   refine ⟨_, rfl, fun q2 => ?_, fun q2 => ?_⟩
   ·have hk : (a + b) / 2 < c := by
     refine Nat.lt_of_not_le fun hle => ?_
     have := hc.b _ hle t ht
     simp at this q2
     lia
    repeat walk_at "x"
    exact ⟨b - ((a + b) / 2 + 1), _, Nat.sub_lt_sub_left hab (Nat.lt_succ_of_le (qbj (Nat.le_of_lt hab))), .cons rfl (.cons rfl (.cons rfl (.cons rfl .nil))), (a + b) / 2 + 1, b, rfl, Nat.le_succ_of_le (Nat.le_trans h1 (qbj (Nat.le_of_lt hab))), hk, h3, h4, rfl, rfl⟩
   ·have hk : c ≤ (a + b) / 2 := by
     refine Nat.le_of_not_lt fun hlt => ?_
     have := hc.a _ (Nat.le_trans h1 (qbj (Nat.le_of_lt hab))) hlt t ht
     simp at this q2
     lia
    repeat walk_at "x"
    exact ⟨(a + b) / 2 - a, _, Nat.sub_lt_sub_right (qbj (Nat.le_of_lt hab)) (qay hab), .cons rfl (.cons rfl (.cons rfl (.cons rfl .nil))), a, (a + b) / 2, rfl, h1, h2, hk, Nat.le_trans (Nat.le_of_lt (qay hab)) h4, rfl, rfl⟩
  ·have hab : a = c := by have := of_decide_eq_false q; omega
   subst hab
   repeat walk_at "x"
   exact ⟨rfl, .cons rfl .nil⟩
 ·refine eA hm fun zz0 hm2 => ?_; clear hm; subst zz0
  refine EX.sub hm2 ?_
  repeat walk_at "x"
  exact hR0 _ _ ⟨rfl, rfl⟩
theorem spec_insR {l : Addr} {xs : List Int} {x : Int} {lo c : Nat} (B : Bs C.h₀ (KK P) mg mb) {n : Nat} (hA : AOK C A (n + 2)) (hl : H l = some (.list (xs.map .int))) (hsz : xs.length ≤ 2 ^ 10) (hc : Cut (fun t => decide (t ≤ x)) xs lo c) :
  CALL C A (.con (.ref a_insR)) [.ref l, .int x, .int lo] [] H fun v H' => v = V.none ∧ H' = H.set l (.list ((xs.take c ++ x :: xs.drop c).map .int)) := by
 have hs2 : (xs.map V.int).length ≤ sizeLine := by refine rE (List.length_map ..) ?_; exact Nat.le_trans hsz (by decide)
 refine qas fun R0 hR0 => ?_
 refine qci B (by with_unfolding_all rfl) (by with_unfolding_all rfl) hA (binds := [("a", .ref l), ("x", .int x), ("lo", .int lo), ("hi", V.none), ("key", V.none)]) ?_ (by with_unfolding_all rfl) rfl fun L hL hL0 hA' => ?_
 ·refine .dfltkw (T := 22) (D := 23) (items := [.int 0 196, .none]) (n := 0) (o := kwObj P 197) B (by with_unfolding_all rfl) (by with_unfolding_all rfl) fun h rs rkw hv' hk => ?_
  have := hk.nil_inv; subst this
  obtain ⟨a, b, d, rfl, ha, hb, hd⟩ := qbe hv'
  exact ⟨_, _, _, [("a", a), ("x", b), ("lo", d), ("hi", .none), ("key", .none)], by with_unfolding_all rfl, by with_unfolding_all rfl, by with_unfolding_all rfl, rfl, .cons ha (.cons hb (.cons hd (.cons .con (.cons .con .nil))))⟩
 walk_at "xi"
 refine ⟨_, rfl, fun _ => ?_, fun q => (by cases q)⟩
 repeat walk_at "x"
 refine EV_g B g_bisR ?_
 repeat walk_at "x"
 refine ⟨KP_K B (by with_unfolding_all rfl), CV_of ((spec_bisR (P := P) (by exact B) hA' (.own hl) hsz hc (.four rfl)).mono ?_)⟩
 rintro v H' ⟨rfl, rfl⟩
 repeat walk_at "x"
 refine qa8 (.own hl) F.slot_list_insert F.type_list_insert ?_
 repeat walk_at "x"
 refine ⟨qad, CV_insert (i := ((c : Nat) : Int)) hl (Int.natCast_nonneg c) (by refine rE (List.length_map ..) ?_; have := hc.le; exact Int.ofNat_le.mpr this) hs2 ?_⟩
 repeat walk_at "x"
 refine hR0 _ _ ⟨rfl, ?_⟩
 refine rE (Int.toNat_natCast ..) (rE List.map_append (rE List.map_cons (rE List.map_take (rE List.map_drop rfl))))
theorem spec_insL {l : Addr} {xs : List Int} {x : Int} {lo c : Nat} (B : Bs C.h₀ (KK P) mg mb) {n : Nat} (hA : AOK C A (n + 2)) (hl : H l = some (.list (xs.map .int))) (hsz : xs.length ≤ 2 ^ 10) (hc : Cut (fun t => decide (t < x)) xs lo c) :
  CALL C A (.con (.ref a_insL)) [.ref l, .int x, .int lo] [] H fun v H' => v = V.none ∧ H' = H.set l (.list ((xs.take c ++ x :: xs.drop c).map .int)) := by
 have hs2 : (xs.map V.int).length ≤ sizeLine := by refine rE (List.length_map ..) ?_; exact Nat.le_trans hsz (by decide)
 refine qas fun R0 hR0 => ?_
 refine qci B (by with_unfolding_all rfl) (by with_unfolding_all rfl) hA (binds := [("a", .ref l), ("x", .int x), ("lo", .int lo), ("hi", V.none), ("key", V.none)]) ?_ (by with_unfolding_all rfl) rfl fun L hL hL0 hA' => ?_
 ·refine .dfltkw (T := 40) (D := 41) (items := [.int 0 223, .none]) (n := 0) (o := kwObj P 224) B (by with_unfolding_all rfl) (by with_unfolding_all rfl) fun h rs rkw hv' hk => ?_
  have := hk.nil_inv; subst this
  obtain ⟨a, b, d, rfl, ha, hb, hd⟩ := qbe hv'
  exact ⟨_, _, _, [("a", a), ("x", b), ("lo", d), ("hi", .none), ("key", .none)], by with_unfolding_all rfl, by with_unfolding_all rfl, by with_unfolding_all rfl, rfl, .cons ha (.cons hb (.cons hd (.cons .con (.cons .con .nil))))⟩
 walk_at "xi"
 refine ⟨_, rfl, fun _ => ?_, fun q => (by cases q)⟩
 repeat walk_at "x"
 refine EV_g B g_bisL ?_
 repeat walk_at "x"
 refine ⟨KP_K B (by with_unfolding_all rfl), CV_of ((spec_bisL (P := P) (by exact B) hA' (.own hl) hsz hc (.four rfl)).mono ?_)⟩
 rintro v H' ⟨rfl, rfl⟩
 repeat walk_at "x"
 refine qa8 (.own hl) F.slot_list_insert F.type_list_insert ?_
 repeat walk_at "x"
 refine ⟨qad, CV_insert (i := ((c : Nat) : Int)) hl (Int.natCast_nonneg c) (by refine rE (List.length_map ..) ?_; have := hc.le; omega) hs2 ?_⟩
 repeat walk_at "x"
 refine hR0 _ _ ⟨rfl, ?_⟩
 refine rE (Int.toNat_natCast ..) (rE List.map_append (rE List.map_cons (rE List.map_take (rE List.map_drop rfl))))
end
end
section
noncomputable abbrev a_join : Addr := 193
noncomputable abbrev a_tables : Addr := 198
noncomputable abbrev a_law : Addr := 203
theorem g_insR {P : Params} : nsIn (KK P) mainGlobals "insort_right" = some (some (.ref a_insR)) := by kernel_rfl
theorem g_insL {P : Params} : nsIn (KK P) mainGlobals "insort_left" = some (some (.ref a_insL)) := by kernel_rfl
theorem pick_from {α : Type} {xs : List α} {k : Nat} (hk : k ≤ xs.length) : pickL xs (some (k : Int)) none none = xs.drop k := by
 unfold pickL sliceBounds sliceRange
 simp only [Option.getD_none]
 have e1 : (if (1 : Int) > 0 then max 0 (min (if (k : Int) < 0 then (k : Int) + xs.length else k) xs.length) else max (-1) (min (if (k : Int) < 0 then (k : Int) + xs.length else k) ((xs.length : Int) - 1))) = k := by
  refine rE (if_pos (by decide)) (rE (if_neg (by exact Int.not_ofNat_neg k)) ?_); lia
 refine rE e1 ?_
 simp only [show (1 : Int) > 0 from by decide, if_true]
 have e2 : (if (k : Int) < (xs.length : Int) then ((xs.length : Int) - k + 1 - 1) / 1 else 0).toNat = xs.length - k := by
  split
  ·refine rE (Int.ediv_one ..) ?_; grind
  ·simp; grind
 refine rE e2 (rE List.filterMap_map ?_)
 refine List.ext_getElem? fun i => ?_
 have e3 : (List.range (xs.length - k)).filterMap ((fun x => xs[x]?) ∘ fun i : Nat => ((k : Int) + 1 * (i : Int)).toNat) = (List.range (xs.drop k).length).filterMap fun i => (xs.drop k)[i]? := by
  refine rE List.length_drop ?_
  congr 1
  funext i
  show xs[((k : Int) + 1 * (i : Int)).toNat]? = _
  refine rE List.getElem?_drop ?_
  congr 1; lia
 refine rE e3 (rE (List.filterMap_getElem?_range_length ..) rfl)
theorem pick_last {α : Type} {xs : List α} {z : α} : pickL (xs ++ [z]) (some (-1)) none none = [z] := by
 have h := pick_from (xs := xs ++ [z]) (k := xs.length) (by simp)
 rw [List.drop_left] at h
 refine Eq.trans ?_ h
 have e : sliceBounds (some (-1)) none none (xs ++ [z]).length = sliceBounds (some ((xs.length : Nat) : Int)) none none (xs ++ [z]).length := by
  unfold sliceBounds
  refine rE List.length_append (rE List.length_singleton ?_)
  simp only [Option.getD_none, gt_iff_lt, Int.zero_lt_one, if_true]
  refine Prod.ext ?_ rfl
  show max 0 (min (if (-1 : Int) < 0 then (-1 : Int) + ((xs.length + 1 : Nat) : Int) else -1) _) = max 0 (min (if ((xs.length : Nat) : Int) < 0 then _ else _) _)
  refine rE (if_pos (by decide)) (rE (if_neg (by exact Int.not_ofNat_neg xs.length)) ?_)
  lia
 unfold pickL
 refine rE e rfl
section
variable {C : Cx} {A : Around} {m : Loc} {H : CH} {s : Shared} {mg mb : Str → Option Value} {P : Params}
theorem get_list {l : Addr} {xs : List V} {k : Int} {v : V} {Q : V → Loc → CH → Prop} (hl : LAt C H l xs) (h0 : 0 ≤ k) (hv : xs[k.toNat]? = some v) (hsz : xs.length ≤ sizeLine) (h : Q v m H) : O2 C A getItem (.ref l) (.int k) m H Q := fun s r q S hr hq => by
 refine rE hr.ref_inv ?_
 refine eE hq.int_inv fun u zz1 => ?_; subst zz1
 obtain ⟨items, n, hI, hvs, hz⟩ := S.toHS.list hl
 refine eEA (hvs.get hv) fun x hx hvx => ?_
 have hx' : items[k.toNat]? = some x := by simpa using hx
 exact wpAny_getItem_list hI.isList h0 (by unfold sizeLine at hsz; have := (List.getElem?_eq_some_iff.mp hv).1; lia) hx' (.here S hvx h)
end
inductive InsR (p : Int → Bool) (b x : Int) (bs : List Int) : Prop
 | mk (c : Nat) (bs' : List Int) (cut : Cut p (b :: bs) 1 c) (eq : (b :: bs).take c ++ x :: (b :: bs).drop c = b :: bs') (perm : bs'.Perm (x :: bs)) (srt : bs'.Pairwise (· ≤ ·)) : InsR p b x bs
theorem ins_of {p : Int → Bool} {b x : Int} {bs : List Int} (down : ∀ u t, u ≤ t → p t = true → p u = true) (h1 : ∀ t, p t = true → t ≤ x) (h2 : ∀ t, p t = false → x ≤ t) (hs : bs.Pairwise (· ≤ ·)) : InsR p b x bs := by
 have e : bs = bs.takeWhile p ++ bs.dropWhile p := (List.takeWhile_append_dropWhile (p := p) (l := bs)).symm
 have ht : ∀ t ∈ bs.takeWhile p, p t = true := List.all_eq_true.mp List.all_takeWhile
 have hd : ∀ t ∈ bs.dropWhile p, p t = false := by
  have hs' := hs
  rw [e] at hs'
  refine eAA (List.pairwise_append.mp hs') fun _ s2 _ => ?_
  cases q : bs.dropWhile p with
  | nil => intro t ht; cases ht
  | cons y l =>
   have hy : p y = false := by
    have := List.head?_dropWhile_not p bs
    rw [q] at this
    simpa using this
   intro t ht
   rcases List.mem_cons.mp ht with rfl | ht
   ·exact hy
   ·rw [q] at s2
    have := List.rel_of_pairwise_cons s2 ht
    cases r : p t with
    | false => rfl
    | true => rw [down y t this r] at hy; cases hy
 generalize hu : bs.takeWhile p = u at *
 generalize hv : bs.dropWhile p = v at *
 subst e
 have hs' := List.pairwise_append.mp hs
 refine ⟨u.length + 1, u ++ x :: v, ⟨by exact Nat.le_add_left 1 u.length, by simp, fun i hi1 hi2 t hit => ?_, fun i hi t hit => ?_⟩, ?_, List.perm_middle, ?_⟩
 ·obtain ⟨j, rfl⟩ : ∃ j, i = j + 1 := ⟨i - 1, by exact (Nat.sub_eq_iff_eq_add hi1).mp rfl⟩
  rw [List.getElem?_cons_succ, List.getElem?_append_left (by exact Nat.succ_lt_succ_iff.mp hi2)] at hit
  exact ht t (List.mem_of_getElem? hit)
 ·obtain ⟨j, rfl⟩ : ∃ j, i = j + 1 := ⟨i - 1, by lia⟩
  rw [List.getElem?_cons_succ, List.getElem?_append_right (by exact Nat.le_of_lt_succ hi)] at hit
  exact hd t (List.mem_of_getElem? hit)
 ·simp
 ·refine List.pairwise_append.mpr ⟨hs'.1, List.pairwise_cons.mpr ⟨fun t q => h2 t (hd t q), hs'.2.1⟩, fun a ha c hc => ?_⟩
  rcases List.mem_cons.mp hc with rfl | hc
  ·exact h1 a (ht a ha)
  ·exact hs'.2.2 a ha c hc
theorem ins_le {b x : Int} {bs : List Int} (hs : bs.Pairwise (· ≤ ·)) : InsR (fun t => decide (t ≤ x)) b x bs :=
 ins_of (fun u t h q => by simp at q ⊢; exact Int.le_trans h q) (fun t q => by simpa using q) (fun t q => by simp at q; exact Int.le_of_lt q) hs
theorem ins_lt {b x : Int} {bs : List Int} (hs : bs.Pairwise (· ≤ ·)) : InsR (fun t => decide (t < x)) b x bs :=
 ins_of (fun u t h q => by simp at q ⊢; exact Int.lt_of_le_of_lt h q) (fun t q => by simp at q; exact Int.le_of_lt q) (fun t q => by simp at q; omega) hs
theorem cut_count {p : Int → Bool} {b : Int} {bs : List Int} {c : Nat} (h : Cut p (b :: bs) 1 c) : ((b :: bs).length : Int) - c = (bs.countP fun t => !p t) := by
 obtain ⟨h1, h2, h3, h4⟩ := h
 obtain ⟨j, rfl⟩ : ∃ j, c = j + 1 := ⟨c - 1, by exact (Nat.sub_eq_iff_eq_add h1).mp rfl⟩
 rw [List.length_cons] at h2 ⊢
 have e : bs = bs.take j ++ bs.drop j := (List.take_append_drop j bs).symm
 have z1 : (bs.take j).countP (fun t => !p t) = 0 := by
  rw [List.countP_eq_zero]
  intro t ht
  obtain ⟨i, hi, rfl⟩ := List.mem_iff_getElem.mp ht
  rw [List.length_take] at hi
  refine rE List.getElem_take ?_
  have := h3 (i + 1) (by exact Nat.le_add_left 1 i) (by lia) (bs[i]'(by lia)) (by refine rE List.getElem?_cons_succ (rE (List.getElem?_eq_getElem (by omega)) rfl))
  refine rE this ?_; decide
 have z2 : (bs.drop j).countP (fun t => !p t) = (bs.drop j).length := by
  rw [List.countP_eq_length]
  intro t ht
  obtain ⟨i, hi, rfl⟩ := List.mem_iff_getElem.mp ht
  rw [List.length_drop] at hi
  refine rE List.getElem_drop ?_
  have := h4 (j + i + 1) (by lia) (bs[j + i]'(by exact Nat.add_lt_of_lt_sub' hi)) (by refine rE List.getElem?_cons_succ (rE (List.getElem?_eq_getElem (by exact Nat.add_lt_of_lt_sub' hi)) rfl))
  refine rE this ?_; rfl
 have : bs.countP (fun t => !p t) = bs.length - j := by
  conv => lhs; rw [e]
  refine rE List.countP_append (rE z1 (rE z2 (rE List.length_drop ?_))); exact Nat.zero_add (bs.length - j)
 refine rE this ?_; grind
inductive JnV (H : CH) (r : Addr) (b b2 : Int) (bs bs2 : List Int) (v : V) (H' : CH) : Prop
 | mk (hv : v = .ref r) (bs' : List Int) (h1 : bs'.Perm (bs ++ bs2)) (h2 : bs'.Pairwise (· ≤ ·)) (h3 : H' r = some (.list (((b + b2) :: bs').map .int))) (h4 : ∀ c, H c ≠ none → c ≠ r → H' c = H c)
inductive JnI (H : CH) (r l : Addr) (b : Int) (bs bs2 : List Int) (i : Nat) (m' : Loc) (H' : CH) : Prop
 | mk (hm : m' = ([("row", .ref r), ("more", .ref l)] : Loc)) (bs' : List Int) (h1 : bs'.Perm (bs ++ bs2.take i)) (h2 : bs'.Pairwise (· ≤ ·)) (h3 : H' r = some (.list ((b :: bs').map .int))) (h4 : ∀ c, H c ≠ none → c ≠ r → H' c = H c)
section
variable {C : Cx} {A : Around} {m : Loc} {H : CH} {s : Shared} {mg mb : Str → Option Value} {P : Params}
set_option maxHeartbeats 1000000 in
theorem spec_join {r l : Addr} {b b2 : Int} {bs bs2 : List Int} (B : Bs C.h₀ (KK P) mg mb) {n : Nat} (hA : AOK C A (n + 3)) (hr : H r = some (.list ((b :: bs).map .int))) (hl : H l = some (.list ((b2 :: bs2).map .int))) (hne : r ≠ l) (hs : bs.Pairwise (· ≤ ·)) (hz : bs.length + bs2.length ≤ 500) :
  CALL C A (.con (.ref a_join)) [.ref r, .ref l] [] H (JnV H r b b2 bs bs2) := by
 have hsz : ∀ {k : Int} {ks : List Int}, ks.length ≤ 501 → ((k :: ks).map V.int).length ≤ sizeLine := fun {k ks} h => by refine rE (List.length_map ..) (rE List.length_cons (rE sizeLine_eq ?_)); lia
 refine qas fun R0 hR0 => ?_
 refine CALL_K B (by with_unfolding_all rfl) (by with_unfolding_all rfl) hA .pos2 (by with_unfolding_all rfl) rfl fun L hL hL0 hA' => ?_
 refine qam (st := .AugAssign _ _ _ _) (ES_aug_sub ?_)
 repeat walk_at "x"
 refine get_list (.own hr) (by decide) rfl (hsz (by lia)) ?_
 repeat walk_at "x"
 refine qag (v := .int b2) (.own hl) (by decide) rfl (hsz (by lia)) ?_
 repeat walk_at "x"
 refine set_list hr (by decide) (by exact Int.ofNat_succ_pos (List.map Mine.V.int bs).length) (hsz (by omega)) ?_
 have hr1 : (H.set r (.list (((b :: bs).map V.int).set (0 : Int).toNat (.int (b + b2))))) r = some (.list (((b + b2) :: bs).map .int)) := CH.set_same
 have hl1 : (H.set r (.list (((b :: bs).map V.int).set (0 : Int).toNat (.int (b + b2))))) l = some (.list ((b2 :: bs2).map .int)) := at_ne (Ne.symm hne) hl
 have hk1 : ∀ c, H c ≠ none → c ≠ r → (H.set r (.list (((b :: bs).map V.int).set (0 : Int).toNat (.int (b + b2))))) c = H c := fun c _ h => CH.set_ne h
 generalize (H.set r (.list (((b :: bs).map V.int).set (0 : Int).toNat (.int (b + b2))))) = H₁ at *
 refine SeqE.n ?_
 refine EX_mid (st := .For _ _ _ _ _) (JnI H r l (b + b2) bs bs2 bs2.length) (ES_for' ?_) fun m₁ H₂ hM => ?_
 ·refine EV_slice ?_
  repeat walk_at "x"
  refine ⟨l, _, 1, rfl, rfl, .own hl1, hsz (by omega), fun a ha => ?_⟩
  have e0 : pickL ((b2 :: bs2).map V.int) (some (1 : Int)) none none = bs2.map V.int := by
   have := pick_from (xs := (b2 :: bs2).map V.int) (k := 1) (by exact Nat.le_of_ble_eq_true rfl)
   rw [show ((1 : Nat) : Int) = 1 from rfl] at this
   refine rE this ?_; rfl
  refine rE e0 ?_
  have hra : r ≠ a := ne_at hr1 ha
  have kk : ∀ c, H c ≠ none → c ≠ r → (H₁.set a (.list (bs2.map V.int))) c = H c := fun c h1 h2 => by
   have := hk1 c h1 h2
   refine rE (CH.set_ne (fun e => by rw [e, ha] at this; exact h1 (by rw [e]; exact this.symm))) ?_; exact this
  have hra1 : (H₁.set a (.list (bs2.map V.int))) r = some (.list (((b + b2) :: bs).map .int)) := at_ne hra hr1
  have haa : (H₁.set a (.list (bs2.map V.int))) a = some (.list (bs2.map V.int)) := CH.set_same
  generalize (H₁.set a (.list (bs2.map V.int))) = H₂ at *
  refine ⟨_, _, [("row", .ref r), ("more", .ref l)], fun i m' H' => JnI H r l (b + b2) bs bs2 i m' H' ∧ H' a = some (.list (bs2.map V.int)), qce hA'.handled haa, .cons rfl (.cons rfl .nil), ⟨⟨rfl, bs, by refine rE List.take_zero (rE (List.append_nil ..) (.refl _)), hs, hra1, kk⟩, haa⟩, ?_⟩
  rintro i m' H' ⟨⟨rfl, bs', hp, hsr, hr', hk'⟩, ha'⟩
  refine ⟨ha', fun y hy => ?_, fun hi => ?_⟩
  ·obtain ⟨t, ht, rfl⟩ : ∃ t, bs2[i]? = some t ∧ y = .int t := by
    rw [List.getElem?_map] at hy
    refine eEA (Option.map_eq_some_iff.mp hy) fun t h1 h2 => ?_
    exact ⟨t, h1, h2.symm⟩
   have hil := (List.getElem?_eq_some_iff.mp ht).1
   have hlen := hp.length_eq
   rw [List.length_append, List.length_take] at hlen
   obtain ⟨c, bs'', cut, eq, perm, srt⟩ := ins_le (b := b + b2) (x := t) hsr
   repeat walk_at "x"
   refine EV_g B g_insR ?_
   repeat walk_at "x"
   refine ⟨KP_K B (by with_unfolding_all rfl), CV_of ((spec_insR (lo := 1) (by exact B) hA' hr' (by refine rE List.length_cons ?_; grind) cut).mono ?_)⟩
   rintro v H'' ⟨rfl, rfl⟩
   repeat walk_at "x"
   refine ⟨_, .cons rfl (.cons rfl .nil), ⟨rfl, bs'', ?_, srt, by refine rE eq ?_; exact CH.set_same, fun c hc hn => (CH.set_ne hn).trans (hk' c hc hn)⟩, at_ne (Ne.symm hra) ha'⟩
   refine perm.trans ?_
   refine rE List.take_add_one (rE ht (rF (List.append_assoc ..) ?_))
   exact (hp.cons t).trans (List.perm_append_singleton t _).symm
  ·have : i = bs2.length := by refine rE hi (rE (List.length_map ..) rfl)
   subst this
   repeat walk_at "x"
   exact ⟨rfl, bs', hp, hsr, hr', hk'⟩
 ·obtain ⟨rfl, bs', hp, hsr, hr', hk'⟩ := hM
  rw [List.take_length] at hp
  repeat walk_at "x"
  exact hR0 _ _ ⟨rfl, bs', hp, hsr, hr', hk'⟩
end
end
section
noncomputable abbrev intN (x : Nat) : V := .int x
theorem szR {f : Nat → V} {M : Nat} (h : M ≤ 2 ^ 10) : ((List.range M).map f).length ≤ sizeLine := by
 refine rE (List.length_map ..) (rE List.length_range ?_); exact Nat.le_trans h (by decide)
theorem szM {α : Type} {f : α → V} {l : List α} (h : l.length ≤ 2 ^ 10) : (l.map f).length ≤ sizeLine := by
 refine rE (List.length_map ..) ?_; exact Nat.le_trans h (by decide)
theorem qan {H : CH} {b c : Addr} (hb : H b ≠ none) (hc : H c = none) : b ≠ c := fun e => hb (by refine rE e ?_; exact hc)
theorem qai {f : Nat → V} {N j : Nat} (h : j < N) : ((List.range N).map f)[((j : Nat) : Int).toNat]? = some (f j) := by
 refine rE (Int.toNat_natCast ..) (rE List.getElem?_map (rE (List.getElem?_range h) ?_)); rfl
theorem seq_nats {C : Cx} {A : Around} {H : CH} {n : Nat} (hA : A.handled = none) (hn : n < 2 ^ 62) : SeqOf C A (.rng 0 n 1) H ((List.range n).map fun i => V.int (0 + (i : Nat) * 1)) (fun _ => True) := seq_rng1 hA hn
theorem seq_down {C : Cx} {A : Around} {H : CH} {n : Nat} (hA : A.handled = none) (hn : n < 2 ^ 20) : SeqOf C A (.rng ((n : Int) - 1) (-1) (-1)) H ((List.range n).map fun i => V.int ((n : Int) - 1 + (i : Nat) * (-1))) (fun _ => True) := by
 have hs : Builtin.Range.rangeSize ((n : Int) - 1) (-1) (-1) = n := by
  unfold Builtin.Range.rangeSize
  refine rE (if_neg (by decide)) ?_
  split
  ·simp
  ·lia
 refine seq_rng (n := n) hA ?_ hs
 unfold Builtin.Range.small
 refine rE hs ?_
 simp only [Builtin.Range.rangeFitsLong, Bool.and_eq_true, Bool.or_eq_true, decide_eq_true_eq, beq_iff_eq, show ¬ ((-1 : Int) > 0) by decide, if_false]
 lia
theorem seq_upper {C : Cx} {A : Around} {H : CH} {a n : Nat} (hA : A.handled = none) (hn : a + n < 2 ^ 62) : SeqOf C A (.rng a ((a + n : Nat) : Int) 1) H ((List.range n).map fun i => V.int ((a : Int) + (i : Nat) * 1)) (fun _ => True) :=
 seq_rng hA (small_one (by exact Int.neg_ofNat_le_natCast (2 ^ 62) a) (by lia) (by exact Int.neg_ofNat_le_natCast (2 ^ 62) (a + n)) (by exact Int.lt_toNat.mp hn)) (by refine rE (rangeSize_one ..) ?_; split <;> lia)
theorem qbp {P : Params} : nsIn (KK P) mainGlobals "range" = some none := by kernel_rfl
theorem qbr : bootBuiltins "range" = some (.type "range") := by kernel_rfl
theorem g_abs {P : Params} : nsIn (KK P) mainGlobals "abs" = some none := by kernel_rfl
theorem b_abs : bootBuiltins "abs" = some (.builtin "abs") := by kernel_rfl
theorem g_sum {P : Params} : nsIn (KK P) mainGlobals "sum" = some none := by kernel_rfl
theorem b_sum : bootBuiltins "sum" = some (.builtin "sum") := by kernel_rfl
theorem g_min {P : Params} : nsIn (KK P) mainGlobals "min" = some none := by kernel_rfl
theorem b_min : bootBuiltins "min" = some (.builtin "min") := by kernel_rfl
theorem Wood.under {N : Nat} {ov : Nat → Int} (W : Wood N ov) {j : Nat} (hj : j < N) : ((List.range (N - (j + 1))).map fun i => j + 1 + i).filter (fun k => ov k == (j : Int)) = qaa N ov j := by
 unfold qaa
 have e : List.range N = List.range (j + 1) ++ (List.range (N - (j + 1))).map fun i => j + 1 + i := by
  refine rF List.range_add ?_; congr 1; exact Eq.symm (Nat.add_sub_of_le hj)
 have z : (List.range (j + 1)).filter (fun k => ov k == (j : Int)) = [] := List.filter_eq_nil_iff.mpr fun k hk => ?_
 ·refine rE e (rE (List.filter_append ..) (rE z (rE (List.nil_append ..) rfl)))
 have := W.up k (by have := List.mem_range.mp hk; exact Nat.lt_of_lt_of_le this hj)
 have := List.mem_range.mp hk
 simp; lia
noncomputable def rowOf (c : Nat → Int × Int) : Nat → Int × Int
 | 0 => c 0
 | i + 1 => pmin (rowOf c i) (c (i + 1))
theorem rowOf_tab {N n : Nat} {ov s m : Nat → Int} {T : Nat → Nat → Int × Int} {j : Nat} (W : Wood N ov) (h : ∀ i, T j i = rowOf (qak N ov s m T j) i) : TabAt N ov s m n T j := by
 refine ⟨h 0, fun i _ hl => ?_, fun i _ hl => ?_⟩
 ·refine rE (h (i + 1)) ?_; show pmin _ _ = _
  refine rF (h i) ?_; exact if_pos hl
 ·refine rE (h (i + 1)) ?_; show pmin _ _ = _
  refine rF (h i) ?_; exact if_neg hl
noncomputable def tset (T : Nat → Nat → Int × Int) (j : Nat) (r : Nat → Int × Int) : Nat → Nat → Int × Int := fun k => if k = j then r else T k
theorem cand_congr {N : Nat} {ov s m : Nat → Int} {T T' : Nat → Nat → Int × Int} {j i : Nat} (h : ∀ k ∈ qaa N ov j, T' k = T k) : qak N ov s m T' j i = qak N ov s m T j i := by
 unfold qak
 have e1 : (qaa N ov j).map (fun k => (T' k i).1) = (qaa N ov j).map fun k => (T k i).1 := List.map_congr_left fun k hk => by refine rE (h k hk) rfl
 have e2 : (qaa N ov j).map (fun k => (T' k i).2) = (qaa N ov j).map fun k => (T k i).2 := List.map_congr_left fun k hk => by refine rE (h k hk) rfl
 refine rE e1 (rE e2 rfl)
theorem row_congr {c c' : Nat → Int × Int} (h : ∀ i, c i = c' i) : ∀ i, rowOf c i = rowOf c' i
 | 0 => h 0
 | i + 1 => by show pmin _ _ = pmin _ _; refine rE (row_congr h i) (rE (h (i + 1)) rfl)
theorem qc0 {kvs : List (Int × V)} {k k' : Int} {v : V} : (putI kvs k v).lookup k' = if k' = k then some v else kvs.lookup k' := by
 have F : ∀ {a b : Int}, a ≠ b → (a == b) = false := fun h => beq_eq_false_iff_ne.mpr h
 have B : k' ≠ k → ∀ l : List (Int × V), (l.map (fun kv => if kv.1 = k then (kv.1, v) else kv)).lookup k' = l.lookup k' := fun hn l => by
  induction l with
  | nil => rfl
  | cons p r ih =>
   refine rE List.map_cons ?_
   by_cases e : p.1 = k
   ·refine rE (if_pos e) (rE List.lookup_cons (rE List.lookup_cons (rE (F (e ▸ hn)) (rE ih rfl))))
   ·refine rE (if_neg e) (rE List.lookup_cons (rE List.lookup_cons (rE ih rfl)))
 have A : ∀ l : List (Int × V), l.any (fun kv => kv.1 == k) = true → (l.map (fun kv => if kv.1 = k then (kv.1, v) else kv)).lookup k = some v := fun l h => by
  induction l with
  | nil => cases h
  | cons p r ih =>
   refine rE List.map_cons ?_
   by_cases e : p.1 = k
   ·refine rE (if_pos e) (rE List.lookup_cons (rE e (rE (beq_self_eq_true ..) rfl)))
   ·rw [List.any_cons, F e, Bool.false_or] at h
    refine rE (if_neg e) (rE List.lookup_cons (rE (F (Ne.symm e)) ?_)); exact ih h
 have D : ∀ l : List (Int × V), ¬ l.any (fun kv => kv.1 == k) = true → (l ++ [(k, v)]).lookup k' = if k' = k then some v else l.lookup k' := fun l h => by
  induction l with
  | nil =>
   refine rE (List.nil_append ..) (rE List.lookup_cons ?_)
   by_cases e : k' = k
   ·refine rE (if_pos e) (rE e (rE (beq_self_eq_true ..) rfl))
   ·refine rE (if_neg e) (rE (F e) rfl)
  | cons p r ih =>
   rw [List.any_cons, Bool.or_eq_true, not_or] at h
   have hp : p.1 ≠ k := fun e => h.1 (beq_iff_eq.mpr e)
   refine rE List.cons_append (rE List.lookup_cons (rE List.lookup_cons (rE (ih h.2) ?_)))
   by_cases e : k' = k
   ·refine rE e (rE (F (Ne.symm hp)) (rE (if_pos rfl) rfl))
   ·refine rE (if_neg e) (rE (if_neg e) rfl)
 unfold putI
 split
 ·rename_i h
  by_cases e : k' = k
  ·refine rE (if_pos e) (rE e ?_); exact A _ h
  ·refine rE (if_neg e) ?_; exact B e _
 ·exact D _ ‹_›
theorem putI_len {kvs : List (Int × V)} {k : Int} {v : V} : (putI kvs k v).length ≤ kvs.length + 1 := by
 unfold putI; split
 ·simp
 ·simp
inductive TbT (N n : Nat) (ov s m : Nat → Int) (H' : CH) (td : Addr) (t : Nat) : Prop
 | mk (kvs : List (Int × V)) (ep : Nat) (ta : Nat → Addr) (T : Nat → Nat → Int × Int) (h1 : H' td = some (.dict kvs ep)) (h2 : kvs.length ≤ t) (h3 : ∀ j : Nat, N - t ≤ j → j < N → kvs.lookup (j : Int) = some (.ref (ta j)) ∧ H' (ta j) = some (.list ((List.range n).map fun i => pv (T j i))) ∧ ∀ i, T j i = rowOf (qak N ov s m T j) i)
structure TbS (N n : Nat) (ov s m : Nat → Int) (Hc H' : CH) (L td : Addr) (t : Nat) : Prop where
 tab : TbT N n ov s m H' td t
 cj : ∃ v, H' (L + 3) = some (.cell v)
 ci : ∃ v, H' (L + 4) = some (.cell v)
 keep : ∀ b, Hc b ≠ none → b ≠ L + 3 → b ≠ L + 4 → b ≠ td → H' b = Hc b
inductive TbJ (H4 : CH) (L tb : Addr) (row : Nat → Int × Int) (i : Nat) (H' : CH) : Prop
 | mk (h1 : H' tb = some (.list ((List.range i).map fun k => pv (row k)))) (h2 : ∃ v, H' (L + 4) = some (.cell v)) (h3 : ∀ b, H4 b ≠ none → b ≠ tb → b ≠ L + 4 → H' b = H4 b)
inductive TbV (N n : Nat) (ov s m : Nat → Int) (H : CH) (v : V) (H' : CH) : Prop
 | mk (td : Addr) (kvs : List (Int × V)) (ep : Nat) (ta : Nat → Addr) (T : Nat → Nat → Int × Int) (hv : v = .ref td) (h0 : H td = none) (h1 : H' td = some (.dict kvs ep)) (h2 : ∀ j : Nat, j < N → kvs.lookup (j : Int) = some (.ref (ta j)) ∧ H' (ta j) = some (.list ((List.range n).map fun i => pv (T j i))) ∧ TabAt N ov s m n T j) (h3 : ∀ b, H b ≠ none → H' b = H b)
section
variable {C : Cx} {A : Around} {m : Loc} {H : CH} {s : Shared} {mg mb : Str → Option Value} {P : Params}
theorem qcw {α : Type} {l : Addr} {f : α → V} {xs : List α} {Q : V → Loc → CH → Prop} (hl : LAt C H l (xs.map f)) (hsz : (xs.map f).length ≤ sizeLine) (h : Q (.int xs.length) m H) : CV C A (.con (.builtin "len")) [.ref l] [] m H Q :=
 CV_len hl hsz (by refine rE (List.length_map ..) ?_; exact h)
set_option maxHeartbeats 4000000 in
theorem spec_tables {ls lo lm : Addr} {N n : Nat} {ov sc mk : Nat → Int} (W : Wood N ov) (hN : N ≤ 2 ^ 10) (hn : n ≤ 2 ^ 10) (B : Bs C.h₀ (KK P) mg mb) {d : Nat} (hA : AOK C A (d + 4)) (hls : ∀ H', LAt C H' ls ((List.range N).map fun k => .int (sc k))) (hlo : H lo = some (.list ((List.range N).map fun k => .int (ov k)))) (hlm : H lm = some (.list ((List.range n).map fun k => .int (mk k)))) :
  CALL C A (.con (.ref a_tables)) [.ref ls, .ref lo, .ref lm] [] H (TbV N n ov sc mk H) := by
 have hz : 1000000 < sizeLine := by decide
 refine qas fun R0 hR0 => ?_
 refine CALL_cells (m' := [("marks", .ref lm), ("script", .ref ls)]) B (by with_unfolding_all rfl) (by with_unfolding_all rfl) hA rfl bz3 (cells_ok (by kernel_rfl)) (by kernel_rfl) fun L hL hA' => ?_
 have hcell : qa2 (cellsFrom (L + 1) [("script", .local), ("over", .cell), ("marks", .local), ("tables", .cell), ("j", .cell), ("under", .local), ("table", .local), ("i", .cell), ("paid", .local), ("values", .local), ("range", .globalImplicit), ("len", .globalImplicit), ("abs", .globalImplicit), ("sum", .globalImplicit), ("min", .globalImplicit)] []) (fun x => (([("script" : Str), "over", "marks"].zip [V.ref ls, V.ref lo, V.ref lm]).reverse.lookup x)) H = ((((H.set (L + 1) (.cell (some (.ref lo)))).set (L + 2) (.cell none)).set (L + 3) (.cell none)).set (L + 4) (.cell none)) := by
  kernel_rfl
 refine rE hcell ?_
 have hL1 := (hL (L + 1) (Nat.le_succ L)).1
 have hL2 := (hL (L + 2) (Nat.le_add_right L 2)).1
 have hL3 := (hL (L + 3) (Nat.le_add_right L 3)).1
 have hL4 := (hL (L + 4) (Nat.le_add_right L 4)).1
 have nn : ∀ {a b : Nat}, a < b → (L + a : Nat) ≠ (L + b : Nat) := fun {a b} h => Nat.ne_of_lt (Nat.add_lt_add_left h L)
 have h12 : L + 1 ≠ L + 2 := nn (by decide)
 have h13 : L + 1 ≠ L + 3 := nn (by decide)
 have h14 : L + 1 ≠ L + 4 := nn (by decide)
 have h23 : L + 2 ≠ L + 3 := nn (by decide)
 have h24 : L + 2 ≠ L + 4 := nn (by decide)
 have h34 : L + 3 ≠ L + 4 := nn (by decide)
 have kc : ∀ b, H b ≠ none → ((((H.set (L + 1) (.cell (some (.ref lo)))).set (L + 2) (.cell none)).set (L + 3) (.cell none)).set (L + 4) (.cell none)) b = H b := fun b hb => by refine rE (CH.set_ne (qan hb hL4)) (rE (CH.set_ne (qan hb hL3)) (rE (CH.set_ne (qan hb hL2)) (rE (CH.set_ne (qan hb hL1)) rfl)))
 have c1 : ((((H.set (L + 1) (.cell (some (.ref lo)))).set (L + 2) (.cell none)).set (L + 3) (.cell none)).set (L + 4) (.cell none)) (L + 1) = some (.cell (some (.ref lo))) := by refine rE (CH.set_ne h14) (rE (CH.set_ne h13) (rE (CH.set_ne h12) (rE CH.set_same rfl)))
 have c2 : ((((H.set (L + 1) (.cell (some (.ref lo)))).set (L + 2) (.cell none)).set (L + 3) (.cell none)).set (L + 4) (.cell none)) (L + 2) = some (.cell none) := by refine rE (CH.set_ne h24) (rE (CH.set_ne h23) (rE CH.set_same rfl))
 have c3 : ((((H.set (L + 1) (.cell (some (.ref lo)))).set (L + 2) (.cell none)).set (L + 3) (.cell none)).set (L + 4) (.cell none)) (L + 3) = some (.cell none) := by refine rE (CH.set_ne h34) (rE CH.set_same rfl)
 have c4 : ((((H.set (L + 1) (.cell (some (.ref lo)))).set (L + 2) (.cell none)).set (L + 3) (.cell none)).set (L + 4) (.cell none)) (L + 4) = some (.cell none) := CH.set_same
 generalize ((((H.set (L + 1) (.cell (some (.ref lo)))).set (L + 2) (.cell none)).set (L + 3) (.cell none)).set (L + 4) (.cell none)) = H₁ at *
 refine qam (st := .Assign _ _ _) (qdd (EV_dict fun td htd htd0 => ?_))
 have t2 : td ≠ L + 2 := ne_at htd c2
 have tn : ∀ b, H₁ b ≠ none → b ≠ td := fun b hb => qan hb htd
 refine qbb (c := L + 2) (by with_unfolding_all rfl) (at_ne (Ne.symm t2) c2) ?_
 have c2' : ((H₁.set td (.dict [] 0)).set (L + 2) (.cell (some (.ref td)))) (L + 2) = some (.cell (some (.ref td))) := CH.set_same
 have kd : ∀ b, H₁ b ≠ none → b ≠ L + 2 → ((H₁.set td (.dict [] 0)).set (L + 2) (.cell (some (.ref td)))) b = H₁ b := fun b hb hn => by refine rE (CH.set_ne hn) (rE (CH.set_ne (tn b hb)) rfl)
 have htd' : ((H₁.set td (.dict [] 0)).set (L + 2) (.cell (some (.ref td)))) td = some (.dict [] 0) := by refine rE (CH.set_ne t2) (rE CH.set_same rfl)
 have c1' := (kd (L + 1) (sn c1) h12).trans c1
 have c3' := (kd (L + 3) (sn c3) (Ne.symm h23)).trans c3
 have c4' := (kd (L + 4) (sn c4) (Ne.symm h24)).trans c4
 have old : ∀ {b : Addr}, H b ≠ none → b ≠ L + 1 ∧ b ≠ L + 2 ∧ b ≠ L + 3 ∧ b ≠ L + 4 ∧ b ≠ td := fun {b} hb => ⟨qan hb hL1, qan hb hL2, qan hb hL3, qan hb hL4, tn b (by refine rE (kc b hb) ?_; exact hb)⟩
 have k0 : ∀ b, H b ≠ none → ((H₁.set td (.dict [] 0)).set (L + 2) (.cell (some (.ref td)))) b = H b := fun b hb => (kd b (by refine rE (kc b hb) ?_; exact hb) (old hb).2.1).trans (kc b hb)
 have htdH : H td = none := by
  cases q : H td with
  | none => rfl
  | some c => rw [kc td (sn q), q] at htd; cases htd
 generalize ((H₁.set td (.dict [] 0)).set (L + 2) (.cell (some (.ref td)))) = Hc at *
 have tdc : td ≠ L + 1 ∧ td ≠ L + 3 ∧ td ≠ L + 4 := ⟨ne_at htd c1, ne_at htd c3, ne_at htd c4⟩
 refine SeqE.n ?_
 refine EX_forN (N := N) (f := fun t => .int ((N : Int) - 1 + (t : Nat) * (-1))) (J := fun t H' => TbS N n ov sc mk Hc H' L td t) (m0 := [("script", .ref ls), ("marks", .ref lm)]) ?_ (fun t htN H' S RR hRR => ?_) fun H₂ hM => ?_
 ·refine EV_call (EV_b B qbp qbr ?_)
  refine EL_cons (EV_bin (EV_call (EV_b B g_len b_len ?_)))
  repeat walk_at "x"
  refine ⟨qad, qcw (hls _).at (szR hN) ?_⟩
  refine rE List.length_range ?_
  repeat walk_at "x"
  refine qcr ?_
  repeat walk_at "x"
  refine qcr ?_
  repeat walk_at "x"
  refine ⟨qa3, CV_range3 (by decide) (by decide) ?_⟩
  exact ⟨seq_down hA'.handled (by lia), .cons rfl (.cons rfl .nil), ⟨⟨[], 0, fun _ => 0, fun _ _ => (0, 0), htd', Nat.zero_le _, fun j h1 h2 => by lia⟩, ⟨_, c3'⟩, ⟨_, c4'⟩, fun b _ _ _ _ => rfl⟩⟩
 ·obtain ⟨j, hj⟩ : ∃ j : Nat, j + t + 1 = N := ⟨N - 1 - t, by omega⟩
  refine rE (show ((N : Int) - 1 + (t : Nat) * (-1)) = (j : Nat) by lia) ?_
  have hjN : j < N := by lia
  obtain ⟨kvs, ep, ta, T, hd, hkl, hT⟩ := S.tab
  refine eE S.cj fun v3 hv3 => ?_
  refine eE S.ci fun v4 hv4 => ?_
  refine qbb (c := L + 3) (by with_unfolding_all rfl) hv3 ?_
  have kj : ∀ b, b ≠ L + 3 → (H'.set (L + 3) (.cell (some (.int j)))) b = H' b := fun b hb => CH.set_ne hb
  have j3 : (H'.set (L + 3) (.cell (some (.int j)))) (L + 3) = some (.cell (some (.int j))) := CH.set_same
  have sk : ∀ b, Hc b ≠ none → b ≠ L + 3 → b ≠ L + 4 → b ≠ td → (H'.set (L + 3) (.cell (some (.int j)))) b = Hc b := fun b h1 h2 h3 h4 => (kj b h2).trans (S.keep b h1 h2 h3 h4)
  have so : ∀ {b : Addr} {c : CObj}, H b = some c → (H'.set (L + 3) (.cell (some (.int j)))) b = some c := fun {b c} hb => by
   refine eAAAA (old (sn hb)) fun o1 o2 o3 o4 o5 => ?_
   have := k0 b (sn hb)
   exact (sk b (by refine rE this ?_; exact sn hb) o3 o4 o5).trans (this.trans hb)
  have sd := (kj td tdc.2.1).trans hd
  have s1 := (sk (L + 1) (sn c1') h13 h14 (Ne.symm tdc.1)).trans c1'
  have s2 := (sk (L + 2) (sn c2') h23 h24 (Ne.symm t2)).trans c2'
  have s4 := (kj (L + 4) (Ne.symm h34)).trans hv4
  have sT : ∀ k : Nat, N - t ≤ k → k < N → kvs.lookup (k : Int) = some (.ref (ta k)) ∧ (H'.set (L + 3) (.cell (some (.int j)))) (ta k) = some (.list ((List.range n).map fun i => pv (T k i))) ∧ ∀ i, T k i = rowOf (qak N ov sc mk T k) i := fun k h1 h2 => by
   refine eAA (hT k h1 h2) fun q1 q2 q3 => ?_
   exact ⟨q1, (kj _ (ne_at q2 hv3)).trans q2, q3⟩
  clear S hd hT hv3 hv4 kj
  generalize (H'.set (L + 3) (.cell (some (.int j)))) = H₂ at *
  refine qam (st := .Assign _ _ _) (qbw ?_)
  refine EV_call (EV_b B qbp qbr ?_)
  refine EL_cons (EV_bin (qab (c := L + 3) (by with_unfolding_all rfl) j3 ?_))
  repeat walk_at "x"
  refine EV_b B g_len b_len ?_
  repeat walk_at "x"
  refine ⟨qad, qcw (hls _).at (szR hN) ?_⟩
  refine rE List.length_range ?_
  repeat walk_at "x"
  refine ⟨qa3, CV_range2 ?_⟩
  have eN : (N : Int) = ((j + 1 + t : Nat) : Int) := by lia
  refine rE eN (rE (show ((j : Int) + 1) = ((j + 1 : Nat) : Int) from by exact Int.ofNat_add_one_out j) ?_)
  refine LC_pure ((List.range t).map fun i => j + 1 + i) intN (fun k => decide (ov k = (j : Int))) intN (ok := fun _ => True) ?_ trivial (by refine rE (List.length_map ..) (rE List.length_range ?_); lia) (fun k hk LC hLC => ?_) fun ul hul hul0 => ?_
  ·have e : ((List.range t).map fun i => j + 1 + i).map intN = (List.range t).map fun i => V.int (((j + 1 : Nat) : Int) + (i : Nat) * 1) := by
    refine rE List.map_map ?_
    refine List.map_congr_left fun i _ => ?_
    show V.int ((j + 1 + i : Nat) : Int) = V.int _
    congr 1; lia
   refine rE e ?_
   exact seq_upper hA'.handled (by lia)
  ·have hkN : k < N := by
    refine eEA (List.mem_map.mp hk) fun i hi e => ?_
    rw [List.mem_range] at hi
    have e : j + 1 + i = k := e
    refine rF e ?_; lia
   repeat walk_at "x"
   refine qab (c := L + 1) (by with_unfolding_all rfl) s1 ?_
   repeat walk_at "x"
   refine qag (v := .int (ov k)) (.own (so hlo)) (Int.natCast_nonneg _) (qai hkN) (szR hN) ?_
   repeat walk_at "x"
   refine qab (c := L + 3) (by with_unfolding_all rfl) j3 ?_
   repeat walk_at "x"
   refine ⟨_, rfl, fun q2 => ⟨q2.symm, rfl, fun _ => ?_⟩, fun q2 => ⟨q2.symm, rfl, fun h => by cases h⟩⟩
   repeat walk_at "x"
   exact ⟨rfl, rfl⟩
  have eun : ((List.range t).map fun i => j + 1 + i).filter (fun k => decide (ov k = (j : Int))) = qaa N ov j := by
   have := W.under hjN
   rw [show N - (j + 1) = t from by grind] at this
   exact this
  refine rE eun ?_
  have hkids : ∀ k ∈ qaa N ov j, N - t ≤ k ∧ k < N ∧ k ≠ j := fun k hk => by
   have h1 := W.kid hk
   have h2 := (mem_kids.mp hk).1
   lia
  have hkl2 : (qaa N ov j).length ≤ 2 ^ 10 := Nat.le_trans (List.length_filter_le ..) (by refine rE List.length_range ?_; exact hN)
  have ku : ∀ b, H₂ b ≠ none → (H₂.set ul (.list ((qaa N ov j).map intN))) b = H₂ b := fun b hb => CH.set_ne (qan hb hul)
  have u1 : (H₂.set ul (.list ((qaa N ov j).map intN))) ul = some (.list ((qaa N ov j).map intN)) := CH.set_same
  have old2 : ∀ {b : Addr} {c : CObj}, H₂ b = some c → (H₂.set ul (.list ((qaa N ov j).map intN))) b = some c := fun {b c} hb => (ku b (sn hb)).trans hb
  refine qam (st := .Assign _ _ _) (qdd (qby ?_))
  repeat walk_at "x"
  refine ⟨by decide, fun tb htb => ?_⟩
  repeat walk_at "x"
  have old3 : ∀ {b : Addr} {c : CObj}, H₂ b = some c → ((H₂.set ul (.list ((qaa N ov j).map intN))).set tb (.list [])) b = some c := fun {b c} hb => at_ne (qan (sn (old2 hb)) htb) (old2 hb)
  have u3 : ((H₂.set ul (.list ((qaa N ov j).map intN))).set tb (.list [])) ul = some (.list ((qaa N ov j).map intN)) := at_ne (qan (sn u1) htb) u1
  have b3 : ((H₂.set ul (.list ((qaa N ov j).map intN))).set tb (.list [])) tb = some (.list []) := CH.set_same
  have ult : ul ≠ tb := qan (sn u1) htb
  have tb2 : H₂ tb = none := by
   cases q : H₂ tb with
   | none => rfl
   | some c => rw [old2 q] at htb; cases htb
  clear hul hul0 ku u1 old2 htb
  generalize ((H₂.set ul (.list ((qaa N ov j).map intN))).set tb (.list [])) = H₃ at *
  have tb4 : tb ≠ L + 4 := ne_at tb2 s4
  have tbu : ∀ {b : Addr} {c : CObj}, H₂ b = some c → b ≠ tb := fun {b c} hb => qan (sn hb) tb2
  refine EX_forN (N := n) (f := fun i => .int (0 + (i : Nat) * 1)) (J := TbJ H₃ L tb (rowOf (qak N ov sc mk T j))) (m0 := [("table", .ref tb), ("under", .ref ul), ("script", .ref ls), ("marks", .ref lm)]) ?_ (fun i hin H' hJ RR hRR => ?_) fun H₄ hM => ?_
  ·refine EV_call (EV_b B qbp qbr ?_)
   refine EL_cons (EV_call (EV_b B g_len b_len ?_))
   repeat walk_at "x"
   refine ⟨qad, qcw (.own (old3 (so hlm))) (szR hn) ?_⟩
   refine rE List.length_range ?_
   repeat walk_at "x"
   refine ⟨qa3, qba ?_⟩
   exact ⟨seq_nats hA'.handled (by lia), .cons rfl (.cons rfl (.cons rfl (.cons rfl .nil))), ⟨b3, ⟨_, old3 s4⟩, fun b _ _ _ => rfl⟩⟩
  ·obtain ⟨b5, ⟨v5, hv5⟩, k5⟩ := hJ
   refine rE (show (0 + (i : Nat) * 1 : Int) = (i : Nat) by lia) ?_
   refine qbb (c := L + 4) (by with_unfolding_all rfl) hv5 ?_
   have old6 : ∀ {b : Addr} {c : CObj}, H₃ b = some c → b ≠ tb → b ≠ L + 4 → (H'.set (L + 4) (.cell (some (.int i)))) b = some c := fun {b c} hb h1 h2 => (CH.set_ne h2).trans ((k5 b (sn hb) h1 h2).trans hb)
   have b6 : (H'.set (L + 4) (.cell (some (.int i)))) tb = _ := (CH.set_ne tb4).trans b5
   have i6 : (H'.set (L + 4) (.cell (some (.int i)))) (L + 4) = some (.cell (some (.int i))) := CH.set_same
   have k6 : ∀ b, H₃ b ≠ none → b ≠ tb → b ≠ L + 4 → (H'.set (L + 4) (.cell (some (.int i)))) b = H₃ b := fun b h1 h2 h3 => (CH.set_ne h3).trans (k5 b h1 h2 h3)
   clear hv5 b5 k5
   generalize (H'.set (L + 4) (.cell (some (.int i)))) = H₅ at *
   have ul4 : ul ≠ L + 4 := ne_at u3 (old3 s4)
   have lm4 : lm ≠ L + 4 := (old (sn hlm)).2.2.2.1
   repeat walk_at "x"
   refine EV_b B g_abs b_abs ?_
   repeat walk_at "x"
   refine qab (c := L + 3) (by with_unfolding_all rfl) (old6 (old3 j3) (tbu j3) h34) ?_
   repeat walk_at "x"
   refine qag (v := .int (sc j)) (hls _).at (Int.natCast_nonneg _) (qai hjN) (szR hN) ?_
   repeat walk_at "x"
   refine qab (c := L + 4) (by with_unfolding_all rfl) i6 ?_
   repeat walk_at "x"
   refine qag (v := .int (mk i)) (.own (old6 (old3 (so hlm)) (tbu (so hlm)) lm4)) (Int.natCast_nonneg _) (qai hin) (szR hn) ?_
   repeat walk_at "x"
   refine ⟨qad, CV_abs ?_⟩
   repeat walk_at "x"
   refine EV_b B g_sum b_sum ?_
   repeat walk_at "x"
   refine EV_lc ?_
   repeat walk_at "x"
   refine LC_ints (qaa N ov j) intN (fun k => (T k i).1) (ok := fun H' => H' ul = some (.list ((qaa N ov j).map intN))) (qce hA'.handled (old6 u3 ult ul4)) (old6 u3 ult ul4) (Nat.le_trans hkl2 (by decide)) (fun k hk LC hLC => ?_) fun sl hsl hsl0 => ?_
   ·refine eAA (hkids k hk) fun k1 k2 _ => ?_
    refine eAA (sT k k1 k2) fun q1 q2 _ => ?_
    repeat walk_at "x"
    refine ⟨rfl, rfl, fun _ => ?_⟩
    repeat walk_at "x"
    refine qab (c := L + 2) (by with_unfolding_all rfl) (old6 (old3 s2) (tbu s2) h24) ?_
    repeat walk_at "x"
    refine qau (old6 (old3 sd) (tbu sd) tdc.2.2) q1 ?_
    repeat walk_at "x"
    refine qab (c := L + 4) (by with_unfolding_all rfl) i6 ?_
    repeat walk_at "x"
    refine qag (v := pv (T k i)) (.own (old6 (old3 q2) (tbu q2) (ne_at q2 s4))) (Int.natCast_nonneg _) (qai hin) (szR hn) ?_
    repeat walk_at "x"
    refine qb8 (v := .int (T k i).1) (by decide) rfl (by show 2 ≤ sizeLine; decide) ?_
    exact ⟨rfl, rfl⟩
   repeat walk_at "x"
   refine ⟨qad, CV_sum hA'.handled (.own CH.set_same) ?_⟩
   repeat walk_at "x"
   refine rE (show ((if sc j - mk i < 0 then -(sc j - mk i) else sc j - mk i) + ((qaa N ov j).map fun k => (T k i).1).sum) = (qak N ov sc mk T j i).1 from rfl) ?_
   have ks : ∀ b, H₅ b ≠ none → (H₅.set sl (.list (((qaa N ov j).map fun k => (T k i).1).map .int))) b = H₅ b := fun b hb => CH.set_ne (qan hb hsl)
   have old7 : ∀ {b : Addr} {c : CObj}, H₃ b = some c → b ≠ tb → b ≠ L + 4 → (H₅.set sl (.list (((qaa N ov j).map fun k => (T k i).1).map .int))) b = some c := fun {b c} hb h1 h2 => (ks b (sn (old6 hb h1 h2))).trans (old6 hb h1 h2)
   have b7 := (ks tb (sn b6)).trans b6
   have i7 := (ks (L + 4) (sn i6)).trans i6
   have k7 : ∀ b, H₃ b ≠ none → b ≠ tb → b ≠ L + 4 → (H₅.set sl (.list (((qaa N ov j).map fun k => (T k i).1).map .int))) b = H₃ b := fun b h1 h2 h3 => by
    have h := k6 b h1 h2 h3
    exact (ks b (by refine rE h ?_; exact h1)).trans h
   clear ks b6 i6 k6 old6 hsl hsl0
   generalize (H₅.set sl (.list (((qaa N ov j).map fun k => (T k i).1).map .int))) = H₆ at *
   refine qab (c := L + 4) (by with_unfolding_all rfl) i7 ?_
   repeat walk_at "x"
   refine qag (v := .int (mk i)) (.own (old7 (old3 (so hlm)) (tbu (so hlm)) lm4)) (Int.natCast_nonneg _) (qai hin) (szR hn) ?_
   repeat walk_at "x"
   refine EV_b B g_sum b_sum ?_
   repeat walk_at "x"
   refine EV_lc ?_
   repeat walk_at "x"
   refine LC_ints (qaa N ov j) intN (fun k => (T k i).2) (ok := fun H' => H' ul = some (.list ((qaa N ov j).map intN))) (qce hA'.handled (old7 u3 ult ul4)) (old7 u3 ult ul4) (Nat.le_trans hkl2 (by decide)) (fun k hk LC hLC => ?_) fun sl hsl hsl0 => ?_
   ·refine eAA (hkids k hk) fun k1 k2 _ => ?_
    refine eAA (sT k k1 k2) fun q1 q2 _ => ?_
    repeat walk_at "x"
    refine ⟨rfl, rfl, fun _ => ?_⟩
    repeat walk_at "x"
    refine qab (c := L + 2) (by with_unfolding_all rfl) (old7 (old3 s2) (tbu s2) h24) ?_
    repeat walk_at "x"
    refine qau (old7 (old3 sd) (tbu sd) tdc.2.2) q1 ?_
    repeat walk_at "x"
    refine qab (c := L + 4) (by with_unfolding_all rfl) i7 ?_
    repeat walk_at "x"
    refine qag (v := pv (T k i)) (.own (old7 (old3 q2) (tbu q2) (ne_at q2 s4))) (Int.natCast_nonneg _) (qai hin) (szR hn) ?_
    repeat walk_at "x"
    refine qb8 (v := .int (T k i).2) (by decide) rfl (by show 2 ≤ sizeLine; decide) ?_
    exact ⟨rfl, rfl⟩
   repeat walk_at "x"
   refine ⟨qad, CV_sum hA'.handled (.own CH.set_same) ?_⟩
   repeat walk_at "x"
   refine rE (show (mk i + ((qaa N ov j).map fun k => (T k i).2).sum) = (qak N ov sc mk T j i).2 from rfl) ?_
   have ks : ∀ b, H₆ b ≠ none → (H₆.set sl (.list (((qaa N ov j).map fun k => (T k i).2).map .int))) b = H₆ b := fun b hb => CH.set_ne (qan hb hsl)
   have b8 := (ks tb (sn b7)).trans b7
   have i8 := (ks (L + 4) (sn i7)).trans i7
   have k8 : ∀ b, H₃ b ≠ none → b ≠ tb → b ≠ L + 4 → (H₆.set sl (.list (((qaa N ov j).map fun k => (T k i).2).map .int))) b = H₃ b := fun b h1 h2 h3 => by
    have h := k7 b h1 h2 h3
    exact (ks b (by refine rE h ?_; exact h1)).trans h
   clear ks b7 i7 k7 old7 hsl hsl0
   generalize (H₆.set sl (.list (((qaa N ov j).map fun k => (T k i).2).map .int))) = H₇ at *
   repeat walk_at "x"
   refine qa8 (.own b8) F.slot_list_append F.type_list_append ?_
   repeat walk_at "x"
   refine EV_b B g_min b_min ?_
   refine EL_cons (EV_bin (EV_slice ?_))
   repeat walk_at "x"
   refine qcr ?_
   refine ⟨tb, _, -1, rfl, rfl, .own b8, szR (by lia), fun sa hsa => ?_⟩
   refine qby ?_
   repeat walk_at "x"
   refine ⟨by show 2 ≤ sizeLine; decide, ?_⟩
   repeat walk_at "x"
   refine ⟨by show 1 ≤ sizeLine; decide, fun sb hsb => ?_⟩
   have sab : sa ≠ sb := ne_at CH.set_same hsb
   have hpl : (pickL ((List.range i).map fun k => pv (rowOf (qak N ov sc mk T j) k)) (some (-1)) none none).length ≤ i := Nat.le_trans (pickL_len _ _ _ _) (by refine rE (List.length_map ..) (rE List.length_range ?_); exact Nat.le_refl _)
   refine add_lists (.own (at_ne sab CH.set_same)) (.own CH.set_same) (by simp only [List.length_cons, List.length_nil]; lia) fun se hse => ?_
   have hsb7 : H₇ sb = none := by rw [CH.set_ne (Ne.symm sab)] at hsb; exact hsb
   have hse7 : H₇ se = none := by
    have h1 : se ≠ sb := ne_at hse CH.set_same
    have h2 : se ≠ sa := ne_at hse (at_ne sab CH.set_same)
    rw [CH.set_ne h1, CH.set_ne h2] at hse; exact hse
   repeat walk_at "x"
   have esm : ∃ p ps, (pickL ((List.range i).map fun k => pv (rowOf (qak N ov sc mk T j) k)) (some (-1)) none none ++ [V.tup [.int (qak N ov sc mk T j i).1, .int (qak N ov sc mk T j i).2]]) = (p :: ps).map pv ∧ ps.foldl pmin p = rowOf (qak N ov sc mk T j) i := by
    cases i with
    | zero => exact ⟨qak N ov sc mk T j 0, [], rfl, rfl⟩
    | succ i =>
     refine ⟨rowOf (qak N ov sc mk T j) i, [qak N ov sc mk T j (i + 1)], ?_, rfl⟩
     refine rE List.range_succ (rE List.map_append ?_)
     show pickL (_ ++ [_]) _ _ _ ++ _ = _
     refine rE pick_last ?_; rfl
   refine eEEA esm fun p0 ps0 e1 e2 => ?_
   refine rE e1 ?_
   have kk : ∀ b, H₇ b ≠ none → (((H₇.set sa (.list (pickL ((List.range i).map fun k => pv (rowOf (qak N ov sc mk T j) k)) (some (-1)) none none))).set sb (.list [V.tup [.int (qak N ov sc mk T j i).1, .int (qak N ov sc mk T j i).2]])).set se (.list ((p0 :: ps0).map pv))) b = H₇ b := fun b hb => by
    refine rE (CH.set_ne (qan hb hse7)) (rE (CH.set_ne (qan hb hsb7)) (rE (CH.set_ne (qan hb hsa)) rfl))
   refine ⟨qad, CV_min_pairs (p := p0) (ps := ps0) hA'.handled (by have := hA'.units; lia) (.own CH.set_same) ?_⟩
   refine rE e2 ?_
   have b9 := (kk tb (sn b8)).trans b8
   have i9 := (kk (L + 4) (sn i8)).trans i8
   have k9 : ∀ b, H₃ b ≠ none → b ≠ tb → b ≠ L + 4 → _ = H₃ b := fun b h1 h2 h3 => (kk b (by refine rE (k8 b h1 h2 h3) ?_; exact h1)).trans (k8 b h1 h2 h3)
   clear kk b8 i8 k8 hsa hsb hse hsb7 hse7 hpl sab e1
   generalize (((H₇.set sa (.list (pickL ((List.range i).map fun k => pv (rowOf (qak N ov sc mk T j) k)) (some (-1)) none none))).set sb (.list [V.tup [.int (qak N ov sc mk T j i).1, .int (qak N ov sc mk T j i).2]])).set se (.list ((p0 :: ps0).map pv))) = H₈ at *
   repeat walk_at "x"
   refine ⟨qad, qch b9 (szR (by omega)) ?_⟩
   repeat walk_at "x"
   refine (hRR _ _ (.cons rfl (.cons rfl (.cons rfl (.cons rfl .nil)))) ⟨?_, ⟨_, (CH.set_ne (Ne.symm tb4)).trans i9⟩, fun b h1 h2 h3 => (CH.set_ne h2).trans (k9 b h1 h2 h3)⟩).1
   refine rE CH.set_same (rE List.range_succ (rE List.map_append ?_)); rfl
  ·obtain ⟨b4, ⟨v4', hv4'⟩, k4⟩ := hM
   have old4 : ∀ {b : Addr} {c : CObj}, H₂ b = some c → b ≠ L + 4 → H₄ b = some c := fun {b c} hb h => (k4 b (sn (old3 hb)) (tbu hb) h).trans (old3 hb)
   repeat walk_at "x"
   refine qab (c := L + 2) (by with_unfolding_all rfl) (old4 s2 h24) ?_
   refine qab (c := L + 3) (by with_unfolding_all rfl) (old4 j3 h34) ?_
   refine qck (old4 sd tdc.2.2) (by lia) fun ep' => ?_
   have td4 := old4 sd tdc.2.2
   have tbd : tb ≠ td := ne_at b4 td4
   repeat walk_at "x"
   refine (hRR _ _ (.cons rfl (.cons rfl .nil)) ⟨⟨putI kvs (j : Int) (.ref tb), ep', fun k => if k = j then tb else ta k, tset T j (rowOf (qak N ov sc mk T j)), CH.set_same, Nat.le_trans putI_len (by exact Nat.add_le_add_right hkl 1), fun k k1 k2 => ?_⟩, ⟨_, (CH.set_ne (Ne.symm tdc.2.1)).trans (old4 j3 h34)⟩, ⟨v4', (CH.set_ne (Ne.symm tdc.2.2)).trans hv4'⟩, fun b h1 h2 h3 h4 => ?_⟩).1
   ·try dsimp only
    have cg : ∀ c, c ≠ j → tset T j (rowOf (qak N ov sc mk T j)) c = T c := fun c hc => if_neg hc
    by_cases e : k = j
    ·subst e
     refine ⟨by refine rE qc0 (rE (if_pos rfl) (rE (if_pos rfl) rfl)), ?_, fun i => ?_⟩
     ·refine rE (if_pos rfl) (rE (CH.set_ne tbd) (rE b4 ?_))
      refine congrArg (fun l => some (CObj.list l)) (List.map_congr_left fun i _ => ?_)
      show pv _ = pv (tset T k _ k i)
      unfold tset; refine rE (if_pos rfl) rfl
     ·show tset T k _ k i = _
      unfold tset; refine rE (if_pos rfl) ?_
      exact row_congr (fun i => (cand_congr fun c hc => cg c (hkids c hc).2.2).symm) i
    ·refine eAA (sT k (by grind) k2) fun q1 q2 q3 => ?_
     refine ⟨?_, ?_, fun i => ?_⟩
     ·refine rE qc0 (rE (if_neg (by exact Nat.ToInt.of_diseq rfl rfl e)) (rE (if_neg e) ?_)); exact q1
     ·refine rE (if_neg e) (rE (cg k e) (rE (CH.set_ne (ne_at q2 sd)) ?_))
      exact old4 q2 (ne_at q2 s4)
     ·refine rE (cg k e) (rE (q3 i) ?_)
      exact row_congr (fun i => (cand_congr fun c hc => cg c (by have := W.kid hc; grind)).symm) i
   ·have h5 := sk b h1 h2 h3 h4
    cases q : Hc b with
    | none => exact absurd q h1
    | some c =>
     rw [q] at h5
     refine rE (CH.set_ne h4) ?_; exact old4 h5 h3
 ·obtain ⟨kvs, ep, ta, T, hd, hkl, hT⟩ := hM.tab
  refine qam (st := .Return _ _) (ES_ret ?_)
  refine qab (c := L + 2) (by with_unfolding_all rfl) ((hM.keep (L + 2) (sn c2') h23 h24 (Ne.symm t2)).trans c2') ?_
  refine hR0 _ _ ⟨td, kvs, ep, ta, T, rfl, htdH, hd, fun j hj => ?_, fun b hb => ?_⟩
  ·refine eAA (hT j (by lia) hj) fun q1 q2 q3 => ?_
   exact ⟨q1, q2, rowOf_tab W q3⟩
  ·refine eAAAA (old hb) fun _ _ o3 o4 o5 => ?_
   have h0 := k0 b hb
   exact (hM.keep b (by refine rE h0 ?_; exact hb) o3 o4 o5).trans h0
end
end
section
noncomputable def nup {α : Type} (f : Nat → α) (j : Nat) (x : α) : Nat → α := fun k => if k = j then x else f k
theorem qav {α : Type} {f : Nat → α} {j : Nat} {x : α} : nup f j x j = x := if_pos rfl
theorem qbo {α : Type} {f : Nat → α} {j k : Nat} {x : α} (h : k ≠ j) : nup f j x k = f k := if_neg h
theorem RowAt.congr {N : Nat} {ov s b b' : Nat → Int} {bs bs' : Nat → List Int} {j : Nat} {M : Int} (hb : b' j = b j) (hbs : bs' j = bs j) (hk : ∀ c ∈ qaa N ov j, b' c = b c ∧ bs' c = bs c) (R : RowAt N ov s b bs j M) : RowAt N ov s b' bs' j M := by
 have e1 : (qaa N ov j).map bs' = (qaa N ov j).map bs := List.map_congr_left fun c hc => (hk c hc).2
 have e2 : (qaa N ov j).map b' = (qaa N ov j).map b := List.map_congr_left fun c hc => (hk c hc).1
 exact ⟨by refine rE e1 (rE hbs ?_); exact R.perm, by refine rE hbs ?_; exact R.le, by refine rE e2 (rE hb ?_); exact R.base, by refine rE hbs ?_; exact R.srt⟩
inductive RowsD (rd : Addr) (N : Nat) (ra : Nat → Addr) (dn : List Int) (M : CH) : Prop
 | mk (kvs : List (Int × V)) (ep : Nat) (h1 : M rd = some (.dict kvs ep)) (h2 : kvs.length ≤ dn.length) (h3 : ∀ k : Nat, k < N → kvs.lookup (k : Int) = if (k : Int) ∈ dn then some (.ref (ra k)) else none)
structure MF (L l lo rd wl : Addr) (N : Nat) (ov sc b : Nat → Int) (bs : Nat → List Int) (ra : Nat → Addr) (MM : Nat → Int) (out dn : List Int) (M : CH) : Prop where
 c1 : M (L + 1) = some (.cell (some (.ref l)))
 c2 : ∃ v, M (L + 2) = some (.cell v)
 c3 : M (L + 3) = some (.cell (some (.ref lo)))
 c4 : M (L + 4) = some (.cell (some (.ref rd)))
 c5 : ∃ v, M (L + 5) = some (.cell v)
 c6 : ∃ v, M (L + 6) = some (.cell v)
 c7 : ∃ v, M (L + 7) = some (.cell v)
 ov_ : M lo = some (.list ((List.range N).map fun k => .int (ov k)))
 wl_ : M wl = some (.list (out.map .int))
 nw : wl ≠ lo
 rows : RowsD rd N ra dn M
 row : ∀ k : Nat, k < N → (k : Int) ∈ dn → M (ra k) = some (.list ((b k :: bs k).map .int)) ∧ ra k ≠ wl ∧ ra k ≠ lo
 at_ : ∀ k : Nat, k < N → (k : Int) ∈ dn → RowAt N ov sc b bs k (MM k) ∧ ((bs k).length : Int) = wt N ov k
section
variable {L l lo rd wl : Addr} {N : Nat} {ov sc b : Nat → Int} {bs : Nat → List Int} {ra : Nat → Addr} {MM : Nat → Int} {out dn : List Int} {M M' : CH}
theorem MF.keep (F : MF L l lo rd wl N ov sc b bs ra MM out dn M) (k : ∀ x c, M x = some c → M' x = some c) : MF L l lo rd wl N ov sc b bs ra MM out dn M' := by
 obtain ⟨c1, ⟨v2, c2⟩, c3, c4, ⟨v5, c5⟩, ⟨v6, c6⟩, ⟨v7, c7⟩, o, w, nw, ⟨kvs, ep, r1, r2, r3⟩, row, at_⟩ := F
 exact ⟨k _ _ c1, ⟨v2, k _ _ c2⟩, k _ _ c3, k _ _ c4, ⟨v5, k _ _ c5⟩, ⟨v6, k _ _ c6⟩, ⟨v7, k _ _ c7⟩, k _ _ o, k _ _ w, nw, ⟨kvs, ep, k _ _ r1, r2, r3⟩, fun j h1 h2 => ⟨k _ _ (row j h1 h2).1, (row j h1 h2).2⟩, at_⟩
theorem MF.fresh {x : Addr} {c : CObj} (F : MF L l lo rd wl N ov sc b bs ra MM out dn M) (h : M x = none) : MF L l lo rd wl N ov sc b bs ra MM out dn (M.set x c) :=
 F.keep fun y d e => by refine rE (CH.set_ne ((ne_at e h))) ?_; exact e
theorem MF.setJ {v : Option V} (F : MF L l lo rd wl N ov sc b bs ra MM out dn M) : MF L l lo rd wl N ov sc b bs ra MM out dn (M.set (L + 2) (.cell v)) := by
 refine eE F.c2 fun v2 c2 => ?_
 have ne : ∀ {i j : Nat}, i ≠ j → (L + i : Nat) ≠ (L + j : Nat) := fun {i j} h e => h (Nat.add_left_cancel e)
 have k : ∀ {x c}, x ≠ L + 2 → M x = some c → (M.set (L + 2) (.cell v)) x = some c := fun {x c} h e => by refine rE (CH.set_ne h) ?_; exact e
 have nc : ∀ {x : Addr} {c : CObj}, M x = some c → (∀ v, c ≠ .cell v) → x ≠ L + 2 := fun {x c} e h q => by rw [q, c2] at e; cases e; exact h _ rfl
 obtain ⟨c1, _, c3, c4, ⟨v5, c5⟩, ⟨v6, c6⟩, ⟨v7, c7⟩, o, w, nw, ⟨kvs, ep, r1, r2, r3⟩, row, at_⟩ := F
 exact ⟨k (ne (by decide)) c1, ⟨v, CH.set_same⟩, k (ne (by decide)) c3, k (ne (by decide)) c4, ⟨v5, k (ne (by decide)) c5⟩, ⟨v6, k (ne (by decide)) c6⟩, ⟨v7, k (ne (by decide)) c7⟩, k (nc o fun _ => by (intro h; injection h)) o, k (nc w fun _ => by (intro h; injection h)) w, nw, ⟨kvs, ep, k (nc r1 fun _ => by (intro h; injection h)) r1, r2, r3⟩, fun j h1 h2 => ⟨k (nc (row j h1 h2).1 fun _ => by (intro h; injection h)) (row j h1 h2).1, (row j h1 h2).2⟩, at_⟩
theorem MF.setW {out' : List Int} (F : MF L l lo rd wl N ov sc b bs ra MM out dn M) : MF L l lo rd wl N ov sc b bs ra MM out' dn (M.set wl (.list (out'.map .int))) := by
 have k : ∀ {x c}, x ≠ wl → M x = some c → (M.set wl (.list (out'.map .int))) x = some c := fun {x c} h e => by refine rE (CH.set_ne h) ?_; exact e
 have nc : ∀ {x : Addr} {c : CObj}, M x = some c → (∀ v, c ≠ .list v) → x ≠ wl := fun {x c} e h q => by rw [q, F.wl_] at e; cases e; exact h _ rfl
 obtain ⟨c1, ⟨v2, c2⟩, c3, c4, ⟨v5, c5⟩, ⟨v6, c6⟩, ⟨v7, c7⟩, o, w, nw, ⟨kvs, ep, r1, r2, r3⟩, row, at_⟩ := F
 exact ⟨k (nc c1 fun _ => by (intro h; injection h)) c1, ⟨v2, k (nc c2 fun _ => by (intro h; injection h)) c2⟩, k (nc c3 fun _ => by (intro h; injection h)) c3, k (nc c4 fun _ => by (intro h; injection h)) c4, ⟨v5, k (nc c5 fun _ => by (intro h; injection h)) c5⟩, ⟨v6, k (nc c6 fun _ => by (intro h; injection h)) c6⟩, ⟨v7, k (nc c7 fun _ => by (intro h; injection h)) c7⟩, k (Ne.symm nw) o, CH.set_same, nw,
  ⟨kvs, ep, k (nc r1 fun _ => by (intro h; injection h)) r1, r2, r3⟩, fun j h1 h2 => ⟨k (row j h1 h2).2.1 (row j h1 h2).1, (row j h1 h2).2⟩, at_⟩
theorem MF.addRow {j : Nat} {r : Addr} {bj Mj : Int} {bsj : List Int} {kvs : List (Int × V)} {ep ep' : Nat} (F : MF L l lo rd wl N ov sc b bs ra MM out dn M) (hjd : (j : Int) ∉ dn) (hr : M r = some (.list ((bj :: bsj).map .int))) (hw : r ≠ wl) (ho : r ≠ lo)
  (h1 : M rd = some (.dict kvs ep)) (h2 : kvs.length ≤ dn.length) (h3 : ∀ k : Nat, k < N → kvs.lookup (k : Int) = if (k : Int) ∈ dn then some (.ref (ra k)) else none)
  (hkd : ∀ k : Nat, k < N → (k : Int) ∈ dn → ∀ c ∈ qaa N ov k, (c : Int) ∈ dn) (hR : RowAt N ov sc (nup b j bj) (nup bs j bsj) j Mj) (hl : (bsj.length : Int) = wt N ov j) :
  MF L l lo rd wl N ov sc (nup b j bj) (nup bs j bsj) (nup ra j r) (nup MM j Mj) out ((j : Int) :: dn) (M.set rd (.dict (putI kvs (j : Int) (.ref r)) ep')) := by
 have k : ∀ {x c}, x ≠ rd → M x = some c → (M.set rd (.dict (putI kvs (j : Int) (.ref r)) ep')) x = some c := fun {x c} h e => by refine rE (CH.set_ne h) ?_; exact e
 have nc : ∀ {x : Addr} {c : CObj}, M x = some c → (∀ v e, c ≠ .dict v e) → x ≠ rd := fun {x c} e h q => by rw [q, h1] at e; cases e; exact h _ _ rfl
 obtain ⟨c1, ⟨v2, c2⟩, c3, c4, ⟨v5, c5⟩, ⟨v6, c6⟩, ⟨v7, c7⟩, o, w, nw, _, row, at_⟩ := F
 refine ⟨k (nc c1 fun _ _ => by (intro h; injection h)) c1, ⟨v2, k (nc c2 fun _ _ => by (intro h; injection h)) c2⟩, k (nc c3 fun _ _ => by (intro h; injection h)) c3, k (nc c4 fun _ _ => by (intro h; injection h)) c4, ⟨v5, k (nc c5 fun _ _ => by (intro h; injection h)) c5⟩, ⟨v6, k (nc c6 fun _ _ => by (intro h; injection h)) c6⟩, ⟨v7, k (nc c7 fun _ _ => by (intro h; injection h)) c7⟩, k (nc o fun _ _ => by (intro h; injection h)) o, k (nc w fun _ _ => by (intro h; injection h)) w, nw,
  ⟨_, _, CH.set_same, ?_, fun i hi => ?_⟩, fun i hi hd => ?_, fun i hi hd => ?_⟩
 ·have := putI_len (kvs := kvs) (k := (j : Int)) (v := .ref r)
  refine rE List.length_cons ?_; lia
 ·refine rE qc0 (rE (h3 i hi) ?_)
  by_cases e : i = j
  ·subst e; simp [qav]
  ·have e' : ¬ (i : Int) = j := by exact Nat.ToInt.of_diseq rfl rfl e
   refine rE (if_neg e') (rE (qbo e) ?_); simp [e']
 ·by_cases e : i = j
  ·subst e
   refine rE qav (rE qav (rE qav ?_))
   exact ⟨k (nc hr fun _ _ => by (intro h; injection h)) hr, hw, ho⟩
  ·refine rE (qbo e) (rE (qbo e) (rE (qbo e) ?_))
   have := row i hi ((List.mem_cons.mp hd).resolve_left (by omega))
   exact ⟨k (nc this.1 fun _ _ => by (intro h; injection h)) this.1, this.2⟩
 ·by_cases e : i = j
  ·subst e
   refine rE qav (rE qav ?_); exact ⟨hR, hl⟩
  ·refine rE (qbo e) (rE (qbo e) ?_)
   have hd' := (List.mem_cons.mp hd).resolve_left (by omega)
   have := at_ i hi hd'
   refine ⟨this.1.congr (qbo e) (qbo e) fun c hc => ?_, this.2⟩
   have hcj : c ≠ j := fun q => by
    have := hkd i hi hd' c hc
    rw [q] at this; exact hjd this
   exact ⟨qbo hcj, qbo hcj⟩
end
theorem SS.put {a b : Addr} {TU TD : TS} {LU LD : Lay} {M H : CH} {x : Addr} {c : CObj} (Z : SS a b TU TD LU LD M H) (hc : H x = some c) (f1 : ¬ Foot a TU LU x) (f2 : ¬ Foot b TD LD x) : SS a b TU TD LU LD (M.set x c) H :=
 ⟨Z.ru, Z.rd, Z.dj, fun y d e => by
  by_cases q : y = x
  ·subst q; rw [CH.set_same] at e; cases e; exact ⟨hc, f1, f2⟩
  ·rw [CH.set_ne q] at e; exact Z.fr y d e⟩
theorem SS.side {a b : Addr} {TU TD : TS} {LU LD : Lay} {M H H' : CH} {x : Addr} (Z : SS a b TU TD LU LD M H) (hx : M x = none) (f1 : ¬ Foot a TU LU x) (f2 : ¬ Foot b TD LD x) (k : ∀ y, H y ≠ none → y ≠ x → H' y = H y) : SS a b TU TD LU LD M H' := by
 refine ⟨Z.ru.keepF fun y hy f => k y hy fun e => f1 (e ▸ f), Z.rd.keepF fun y hy f => k y hy fun e => f2 (e ▸ f), Z.dj, fun y d e => ?_⟩
 refine eA (Z.fr y d e) fun g1 g2 => ?_
 exact ⟨(k y (by refine rE g1 ?_; simp) (ne_at e hx)).trans g1, g2⟩
end
section
theorem g_TS {P : Params} : nsIn (KK P) mainGlobals "TopologicalSorter" = some (some (.ref cTS)) := by kernel_rfl
theorem g_reduce {P : Params} : nsIn (KK P) mainGlobals "reduce" = some (some (.ref a_reduce)) := by kernel_rfl
theorem g_join {P : Params} : nsIn (KK P) mainGlobals "_law_join" = some (some (.ref a_join)) := by kernel_rfl
theorem g_tables {P : Params} : nsIn (KK P) mainGlobals "_law_tables" = some (some (.ref a_tables)) := by kernel_rfl
theorem g_sorted {P : Params} : nsIn (KK P) mainGlobals "sorted" = some none := by kernel_rfl
theorem b_sorted : bootBuiltins "sorted" = some (.builtin "sorted") := by kernel_rfl
theorem g_list {P : Params} : nsIn (KK P) mainGlobals "list" = some none := by kernel_rfl
theorem b_list : bootBuiltins "list" = some (.type "list") := by kernel_rfl
theorem g_zip {P : Params} : nsIn (KK P) mainGlobals "zip" = some none := by kernel_rfl
theorem b_zip : bootBuiltins "zip" = some (.type "zip") := by kernel_rfl
theorem seqN {C : Cx} {A : Around} {H : CH} {n : Nat} (hA : A.handled = none) (hn : n < 2 ^ 62) : SeqOf C A (.rng 0 n 1) H ((List.range n).map intN) (fun _ => True) := by
 have := seq_nats (C := C) (A := A) (H := H) (n := n) hA hn
 have e : (List.range n).map (fun i => V.int (0 + (i : Nat) * 1)) = (List.range n).map intN := List.map_congr_left fun i _ => by
  show V.int _ = V.int _
  congr 1; lia
 rw [e] at this; exact this
theorem filter_all {l : List Nat} : l.filter (fun _ => true) = l := List.filter_eq_self.mpr fun _ _ => rfl
noncomputable abbrev mC (N : Nat) (a b : Addr) : Loc := [("down", .ref b), ("up", .ref a), ("count", .int N)]
noncomputable abbrev mD (N : Nat) (wl a b : Addr) : Loc := ("waiting", .ref wl) :: mC N a b
noncomputable abbrev mB (N : Nat) (lp wl a b : Addr) : Loc := ("places", .ref lp) :: mD N wl a b
inductive LwA (N : Nat) (ov : Nat → Int) (a b L : Addr) (M : CH) (i : Nat) (H' : CH) : Prop
 | mk (LU LD : Lay) (v : Option V) (Z : SS a b (addL (addsU ov i)) (addL (addsD ov i)) LU LD (M.set (L + 2) (.cell v)) H')
theorem sc_near {T : TS} {near : Int → List Int} (hB : Built T near) {k x : Int} (hk : k ∈ T.keys) (hx : x ∈ T.sc k) : x ∈ T.keys ∧ k ∈ near x := by
 have h1 := (hB 0).sc k hk x
 have h2 : k ∈ near x := List.count_pos_iff.mp (by refine rF h1 ?_; exact List.count_pos_iff.mpr hx)
 refine ⟨Classical.byContradiction fun q => ?_, h2⟩
 rw [(hB 0).out x q] at h2; cases h2
theorem qc2 {l : List Int} {N : Nat} (hd : l.Nodup) (h : ∀ x ∈ l, ∃ k : Nat, x = k ∧ k < N) : l.length ≤ N := by
 have := qa7 (k := (List.range N).map fun k : Nat => (k : Int)) hd fun x hx => by
  refine eEA (h x hx) fun k zz1 hk => ?_; subst zz1
  exact List.mem_map.mpr ⟨k, List.mem_range.mpr hk, rfl⟩
 simpa using this
theorem dr_ints {C : Cx} {H : CH} {l : List Int} : DRs C H (l.map .int) (l.map fun k : Int => Dat.int k) := DRs.map fun k _ => .int _
theorem ints_ok {l : List Int} : kqdOk 8 (.list (l.map fun k : Int => Dat.int k)) = true := by
 show ((l.map fun k : Int => Dat.int k).all (kqdOk 7)) = true
 refine rE List.all_map ?_; rewrite [List.all_eq_true]; intro k _; rfl
theorem erase_at : ∀ {l : List Int} {t : Nat} {x : Int}, l.Nodup → l[t]? = some x → l.eraseIdx t = l.erase x
 | [], t, x, _, h => by simp at h
 | a :: l, 0, x, _, h => by
  obtain rfl : a = x := by simpa using h
  simp
 | a :: l, t + 1, x, hn, h => by
  have h : l[t]? = some x := by simpa using h
  have hx := List.mem_of_getElem? h
  have hne : a ≠ x := fun e => (List.nodup_cons.mp hn).1 (e ▸ hx)
  refine rE List.eraseIdx_cons_succ (rE (List.erase_cons_tail (by simpa using hne)) (rE (erase_at (List.nodup_cons.mp hn).2 h) rfl))
theorem map_erase {l : List Int} {t : Nat} : (l.map V.int).eraseIdx t = (l.eraseIdx t).map .int := by
 induction l generalizing t with
 | nil => simp
 | cons a r ih => cases t with
  | zero => rfl
  | succ t => refine rE List.map_cons (rE List.eraseIdx_cons_succ (rE ih ?_)); rfl
inductive LwM (N : Nat) (ov sc : Nat → Int) (nU : Int → List Int) (TU0 TD : TS) (l lo rd wl a b L : Addr) (LU LD : Lay) (i : Nat) (H' : CH) : Prop
 | mk (T : TS) (M : CH) (bb : Nat → Int) (bs : Nat → List Int) (ra : Nat → Addr) (MM : Nat → Int) (dn out ready : List Int) (Z : SS a b T TD LU LD M H') (Rn : Run T nU dn out ready) (hk : T.keys = TU0.keys) (hs : T.sc = TU0.sc) (hl : dn.length = i) (F : MF L l lo rd wl N ov sc bb bs ra MM out dn M)
inductive LwR (Hb : CH) (e0 : Addr) (bb : Nat → Int) (bs : Nat → List Int) (ks : List Nat) (t : Nat) (v : V) (H'' : CH) : Prop
 | mk (hv : v = .ref e0) (bs' : List Int) (h1 : H'' e0 = some (.list ((((ks.take t).map bb).sum :: bs').map .int))) (h2 : bs'.Perm ((ks.take t).map bs).flatten) (h3 : bs'.Pairwise (· ≤ ·)) (h4 : ∀ c, Hb c ≠ none → c ≠ e0 → H'' c = Hb c)
theorem qaw {M : CH} {x y : Addr} {c d : CObj} (h : M x = none) (e : M y = some d) : (M.set x c) y = some d := by
 refine rE (CH.set_ne (ne_at e h)) ?_; exact e
theorem kids_nup {N : Nat} {ov : Nat → Int} (W : Wood N ov) {α : Type} {f : Nat → α} {j : Nat} {x : α} : (qaa N ov j).map (nup f j x) = (qaa N ov j).map f :=
 List.map_congr_left fun k hk => qbo (by have := W.kid hk; exact Ne.symm (Nat.ne_of_lt this))
theorem flat_wt {N : Nat} {ov : Nat → Int} (W : Wood N ov) {bs : Nat → List Int} {j : Nat} (hj : j < N) (h : ∀ k ∈ qaa N ov j, ((bs k).length : Int) = wt N ov k) : ((((qaa N ov j).map bs).flatten.length : Nat) : Int) = wt N ov j - 1 := by
 have e := wt_step W hj
 have : ∀ l : List Nat, (∀ k ∈ l, ((bs k).length : Int) = wt N ov k) → (((l.map bs).flatten.length : Nat) : Int) = (l.map (wt N ov)).sum := by
  intro l
  induction l with
  | nil => intro _; rfl
  | cons k r ih =>
   intro h
   have h1 := h k List.mem_cons_self
   have h2 := ih fun x hx => h x (List.mem_cons_of_mem _ hx)
   refine rE List.map_cons (rE List.flatten_cons (rE List.length_append (rE List.map_cons (rE List.sum_cons ?_))))
   exact Nat.ToInt.add_congr h1 h2
 refine rE (this _ h) ?_; exact Eq.symm ((fun {b a c} ↦ Int.sub_eq_iff_eq_add'.mpr) e)
theorem flat_take {bs : Nat → List Int} {l : List Nat} {t : Nat} : ((l.take t).map bs).flatten.length ≤ (l.map bs).flatten.length := by
 conv => rhs; rw [← List.take_append_drop t l]
 refine rE List.map_append (rE List.flatten_append (rE List.length_append ?_))
 exact Nat.le_add_right _ _
theorem row_made {N : Nat} {ov sc bb : Nat → Int} {bs : Nat → List Int} (W : Wood N ov) {j : Nat} {fl bs1 bs2 bl : List Int} {Mj : Int} (hj : j < N) (hw : ∀ k ∈ qaa N ov j, ((bs k).length : Int) = wt N ov k) (h1 : fl.Perm ((qaa N ov j).map bs).flatten) (h2 : bs1.Perm (sc j :: fl)) (h3 : bs2.Perm (sc j :: bs1)) (hs : bs2.Pairwise (· ≤ ·)) (e : bs2 = bl ++ [Mj]) :
  RowAt N ov sc (nup bb j (((qaa N ov j).map bb).sum + (Mj - sc j))) (nup bs j bl) j Mj ∧ (bl.length : Int) = wt N ov j := by
 subst e
 refine ⟨⟨?_, ?_, ?_, ?_⟩, ?_⟩
 ·refine rE (kids_nup W) (rE qav ?_)
  have e1 : (bl ++ [Mj]).Perm (sc j :: sc j :: ((qaa N ov j).map bs).flatten) := (h3.trans (h2.cons _)).trans ((h1.cons _).cons _)
  refine List.Perm.trans ?_ e1.symm
  exact List.perm_append_comm
 ·refine rE qav ?_
  exact fun t ht => last_ge hs t (List.mem_append_left _ ht)
 ·refine rE (kids_nup W) (rE qav rfl)
 ·refine rE qav ?_
  exact (List.pairwise_append.mp hs).1
 ·have l1 := h1.length_eq
  have l2 := h2.length_eq
  have l3 := h3.length_eq
  have l4 := flat_wt W hj hw
  simp at l2 l3
  lia
section
variable {C : Cx} {A : Around} {m : Loc} {H : CH}
theorem EB_or3 {x y z : PySem.Expr} {p : Pos} {Q : Bool → Loc → CH → Prop} (h : EB C A x m H fun c m₁ H₁ => (c = true → Q true m₁ H₁) ∧ (c = false → EB C A y m₁ H₁ fun c m₂ H₂ => (c = true → Q true m₂ H₂) ∧ (c = false → EB C A z m₂ H₂ Q))) : EB C A (.BoolOp .Or [x, y, z] p) m H Q := fun s S => by
 refine wpAny_isTrue_BoolOp (wpAny_allTrue_Or_cons (wpAny_mono (h s S) ?_ fun _ _ x => x))
 rintro c s₁ ⟨m₁, H₁, S₁, af₁, h₁⟩
 cases c with
 | true => exact ⟨m₁, H₁, S₁, af₁, h₁.1 rfl⟩
 | false =>
  refine wpAny_allTrue_Or_cons (wpAny_mono (h₁.2 rfl s₁ S₁) ?_ fun _ _ x => x)
  rintro c s₂ h₂
  have h₃ := h₂.mono S₁ af₁
  cases c with
  | true => 
   obtain ⟨m₂, H₂, S₂, af₂, g₂⟩ := h₃
   exact ⟨m₂, H₂, S₂, af₂, g₂.1 rfl⟩
  | false =>
   obtain ⟨m₂, H₂, S₂, af₂, g₂⟩ := h₃
   refine wpAny_allTrue_Or_cons (wpAny_mono (g₂.2 rfl s₂ S₂) ?_ fun _ _ x => x)
   rintro c s₃ h₄
   have h₅ := h₄.mono S₂ af₂
   cases c with
   | false => exact wpAny_allTrue_Or_nil h₅
   | true => exact h₅
end
theorem MF.setC {L l lo rd wl : Addr} {N : Nat} {ov sc b : Nat → Int} {bs : Nat → List Int} {ra : Nat → Addr} {MM : Nat → Int} {out dn : List Int} {M : CH} {i : Nat} {w : Option V} (F : MF L l lo rd wl N ov sc b bs ra MM out dn M) (hx : ∃ v, M (L + i) = some (.cell v)) (h1 : i ≠ 1) (h3 : i ≠ 3) (h4 : i ≠ 4) : MF L l lo rd wl N ov sc b bs ra MM out dn (M.set (L + i) (.cell w)) := by
 refine eE hx fun v hv => ?_
 have ne : ∀ {i j : Nat}, i ≠ j → (L + i : Nat) ≠ (L + j : Nat) := fun {i j} h e => h (Nat.add_left_cancel e)
 have k : ∀ {x c}, x ≠ L + i → M x = some c → (M.set (L + i) (.cell w)) x = some c := fun {x c} h e => by refine rE (CH.set_ne h) ?_; exact e
 have nc : ∀ {x : Addr} {c : CObj}, M x = some c → (∀ v, c ≠ .cell v) → x ≠ L + i := fun {x c} e h q => by rw [q, hv] at e; cases e; exact h _ rfl
 have kc : ∀ {j : Nat}, (∃ v, M (L + j) = some (.cell v)) → ∃ v, (M.set (L + i) (.cell w)) (L + j) = some (.cell v) := fun {j} ⟨v, e⟩ => by
  by_cases q : j = i
  ·subst q; exact ⟨w, CH.set_same⟩
  ·exact ⟨v, k (ne q) e⟩
 obtain ⟨c1, c2, c3, c4, c5, c6, c7, o, w, nw, ⟨kvs, ep, r1, r2, r3⟩, row, at_⟩ := F
 exact ⟨k (ne (Ne.symm h1)) c1, kc c2, k (ne (Ne.symm h3)) c3, k (ne (Ne.symm h4)) c4, kc c5, kc c6, kc c7, k (nc o fun _ => by (intro h; injection h)) o, k (nc w fun _ => by (intro h; injection h)) w, nw, ⟨kvs, ep, k (nc r1 fun _ => by (intro h; injection h)) r1, r2, r3⟩, fun j h1 h2 => ⟨k (nc (row j h1 h2).1 fun _ => by (intro h; injection h)) (row j h1 h2).1, (row j h1 h2).2⟩, at_⟩
theorem TSR.nofoot_list {H : CH} {a : Addr} {T : TS} {L : Lay} (R : TSR H a T L) {x : Addr} {p rest : List V} (hx : H x = some (.list (.tup p :: rest))) : ¬ Foot a T L x := fun f => by
 have key : ∀ l : List Int, V.tup p :: rest ≠ l.map .int := fun l e => by
  cases l with
  | nil => cases e
  | cons i l => rw [List.map_cons] at e; injection e with e _; cases e
 rcases f with e | e | e | ⟨hr, e⟩ | ⟨k, hk, e | e | e⟩
 ·exact absurd e (ne_at hx R.top)
 ·exact absurd e (ne_at hx R.dict)
 ·exact absurd e (ne_at hx R.n2i)
 ·refine eE (Option.ne_none_iff_exists'.mp hr) fun r h => ?_
  have := R.rdy _ h; rw [← e, hx] at this; injection this with this; injection this with this; exact key _ this
 ·exact absurd e (ne_at hx (R.node k hk))
 ·exact absurd e (ne_at hx (R.nd k hk))
 ·have := R.succ k hk; rw [← e, hx] at this; injection this with this; injection this with this; exact key _ this
theorem SS.all {a b : Addr} {TU TD : TS} {LU LD : Lay} {M H : CH} (Z : SS a b TU TD LU LD M H) : ∃ M' : CH, SS a b TU TD LU LD M' H ∧ ∀ x c, H x = some c → ¬ Foot a TU LU x → ¬ Foot b TD LD x → M' x = some c := by
 classical
 refine ⟨fun x => if Foot a TU LU x ∨ Foot b TD LD x then none else H x, ⟨Z.ru, Z.rd, Z.dj, fun x c e => ?_⟩, fun x c h1 h2 h3 => ?_⟩
 ·by_cases q : Foot a TU LU x ∨ Foot b TD LD x
  ·simp [q] at e
  ·simp only [q, if_false] at e
   exact ⟨e, fun h => q (.inl h), fun h => q (.inr h)⟩
 ·have q : ¬ (Foot a TU LU x ∨ Foot b TD LD x) := fun h => h.elim h2 h3
  simp only [q, if_false]; exact h1
theorem sc_map {N : Nat} {sc : Nat → Int} : ((List.range N).map sc).map V.int = (List.range N).map fun k => .int (sc k) := by refine rE List.map_map ?_; rfl
theorem ms_map {ms : List Int} : ms.map V.int = (List.range ms.length).map fun k => .int (ms.getD k 0) := by
 apply List.ext_getElem?
 intro i
 refine rE List.getElem?_map (rE List.getElem?_map ?_)
 by_cases hi : i < ms.length
 ·refine rE (List.getElem?_range hi) (rE (List.getElem?_eq_getElem hi) ?_)
  show some (V.int ms[i]) = some (V.int (ms.getD i 0))
  refine rE List.getD_eq_getElem?_getD (rE (List.getElem?_eq_getElem hi) ?_); rfl
 ·refine rE (List.getElem?_eq_none (by exact Nat.le_of_not_lt hi)) (rE (List.getElem?_eq_none (by simp; exact Nat.le_of_not_lt hi)) ?_); rfl
inductive LwK (a b L : Addr) (TU TD : TS) (LU LD : Lay) (M : CH) (H' : CH) : Prop
 | mk (v : Option V) (Z : SS a b TU TD LU LD (M.set (L + 2) (.cell v)) H')
theorem at_j {M : CH} {L x : Addr} {v w : Option V} {c : CObj} (h2 : ∃ v, M (L + 2) = some (.cell v)) (h : M x = some c) (hc : ∀ v, c ≠ .cell v) : (M.set (L + 2) (.cell w)) x = some c := by
 refine eE h2 fun v hv => ?_
 exact at_ne (fun e => by rw [e, hv] at h; cases h; exact hc _ rfl) h
theorem flat_nil : ∀ y w, ([] : Loc).lookup y = some w → FlatV w := fun y w h => by cases h
theorem qbq {m : Loc} {x : Str} {v : V} (hv : FlatV v) (h : ∀ y w, m.lookup y = some w → FlatV w) : ∀ y w, ((x, v) :: m : Loc).lookup y = some w → FlatV w := fun y w e => by
 rw [List.lookup_cons] at e
 split at e
 ·cases e; exact hv
 ·exact h y w e
theorem map_at {N k : Nat} {f : Nat → Int} {x : Int} (h : ((List.range N).map f)[k]? = some x) : k < N ∧ x = f k := by
 rw [List.getElem?_map] at h
 by_cases hk : k < N
 ·rw [List.getElem?_range hk] at h
  exact ⟨hk, (Option.some.inj h).symm⟩
 ·rw [List.getElem?_eq_none (by simp; exact Nat.le_of_not_lt hk)] at h; cases h
theorem cut_le {b x : Int} {bs : List Int} (hs : bs.Pairwise (· ≤ ·)) : ∃ c, Cut (fun t => decide (t ≤ x)) (b :: bs) 1 c ∧ ((b :: bs).length : Int) - c = (bs.countP fun t => decide (x < t)) := by
 obtain ⟨c, bs', cut, _, _, _⟩ := ins_le (b := b) (x := x) hs
 refine ⟨c, cut, ?_⟩
 refine rE (cut_count cut) ?_
 congr 1
 exact List.countP_congr fun t _ => by simp
theorem cut_lt {b x : Int} {bs : List Int} (hs : bs.Pairwise (· ≤ ·)) : ∃ c, Cut (fun t => decide (t < x)) (b :: bs) 1 c ∧ ((b :: bs).length : Int) - c = (bs.countP fun t => decide (x - 1 < t)) := by
 obtain ⟨c, bs', cut, _, _, _⟩ := ins_lt (b := b) (x := x) hs
 refine ⟨c, cut, ?_⟩
 refine rE (cut_count cut) ?_
 congr 1
 exact List.countP_congr fun t _ => by simp; exact Iff.symm Int.sub_one_lt_iff
theorem get_last {n : Nat} {f : Nat → V} (h : 0 < n) : ((List.range n).map f)[((-1 : Int) + ((List.range n).map f).length).toNat]? = some (f (n - 1)) := by
 refine rE (List.length_map ..) (rE List.length_range (rE (show ((-1 : Int) + (n : Int)).toNat = n - 1 from by lia) (rE List.getElem?_map (rE (List.getElem?_range (by exact Nat.sub_one_lt_of_lt h)) ?_)))); rfl
theorem len_le {n : Nat} {f : Nat → V} (h : 0 < n) : -(((List.range n).map f).length : Int) ≤ -1 := by
 refine rE (List.length_map ..) (rE List.length_range ?_); lia
theorem MF.setD {L l lo rd wl : Addr} {N : Nat} {ov sc b : Nat → Int} {bs : Nat → List Int} {ra : Nat → Addr} {MM : Nat → Int} {out dn : List Int} {M : CH} {x : Addr} {kv kv' : List (Int × V)} {e e' : Nat} (F : MF L l lo rd wl N ov sc b bs ra MM out dn M) (hx : M x = some (.dict kv e)) (hn : x ≠ rd) : MF L l lo rd wl N ov sc b bs ra MM out dn (M.set x (.dict kv' e')) := by
 have k : ∀ {y : Addr} {c : CObj}, M y = some c → (∀ v w, c ≠ .dict v w) → (M.set x (.dict kv' e')) y = some c := fun {y c} h q => at_ne (fun w => by rw [w, hx] at h; cases h; exact q _ _ rfl) h
 obtain ⟨c1, ⟨v2, c2⟩, c3, c4, ⟨v5, c5⟩, ⟨v6, c6⟩, ⟨v7, c7⟩, o, w, nw, ⟨kvs, ep, r1, r2, r3⟩, row, at_⟩ := F
 exact ⟨k c1 fun _ _ => by (intro h; injection h), ⟨v2, k c2 fun _ _ => by (intro h; injection h)⟩, k c3 fun _ _ => by (intro h; injection h), k c4 fun _ _ => by (intro h; injection h), ⟨v5, k c5 fun _ _ => by (intro h; injection h)⟩, ⟨v6, k c6 fun _ _ => by (intro h; injection h)⟩, ⟨v7, k c7 fun _ _ => by (intro h; injection h)⟩, k o fun _ _ => by (intro h; injection h), k w fun _ _ => by (intro h; injection h), nw, ⟨kvs, ep, at_ne (Ne.symm hn) r1, r2, r3⟩, fun j h1 h2 => ⟨k (row j h1 h2).1 fun _ _ => by (intro h; injection h), (row j h1 h2).2⟩, at_⟩
inductive ValsD (vd : Addr) (vv : Nat → Int) (tl : List Int) (M : CH) : Prop
 | mk (kvs : List (Int × V)) (ep : Nat) (v1 : M vd = some (.dict kvs ep)) (v2 : (kvs.map (·.1)).Nodup) (v3 : ∀ x, x ∈ kvs.map (·.1) ↔ x ∈ tl) (v4 : ∀ k : Nat, kvs.lookup (k : Int) = if (k : Int) ∈ tl then some (.int (vv k)) else none)
inductive PlAt (mk_ : Nat → Int) (n : Nat) (x : Int) (p : Nat) : Prop
 | mk (h1 : 0 < p) (h2 : p + 1 < n) (h3 : mk_ p = x) (h4 : mk_ (p - 1) = x - 1) (h5 : mk_ (p + 1) = x + 1)
theorem PlAt.lt {m : Nat → Int} {n : Nat} {x : Int} {p : Nat} (h : PlAt m n x p) : p + 1 < n := by cases h; assumption
structure VF (L td vd : Addr) (N : Nat) (ov la : Nat → Int) (tkv : List (Int × V)) (tep : Nat) (ta : Nat → Addr) (rT : Nat → List V) (vv : Nat → Int) (tl : List Int) (M : CH) : Prop where
 c2 : ∃ v, M (L + 2) = some (.cell v)
 c6 : M (L + 6) = some (.cell (some (.ref td)))
 c7 : M (L + 7) = some (.cell (some (.ref vd)))
 tab : M td = some (.dict tkv tep)
 row : ∀ j, j < N → M (ta j) = some (.list (rT j))
 vals : ValsD vd vv tl M
 law : ∀ k : Nat, k < N → (k : Int) ∈ tl → (ov k < 0 → vv k = la k) ∧ (0 ≤ ov k → ov k ∈ tl ∧ vv k = min (vv (ov k).toNat) (la k))
 dv : vd ≠ td
section
variable {L td vd : Addr} {N : Nat} {ov la : Nat → Int} {tkv : List (Int × V)} {tep : Nat} {ta : Nat → Addr} {rT : Nat → List V} {vv : Nat → Int} {tl : List Int} {M : CH}
theorem VF.setJ {v : Option V} (G : VF L td vd N ov la tkv tep ta rT vv tl M) : VF L td vd N ov la tkv tep ta rT vv tl (M.set (L + 2) (.cell v)) := by
 obtain ⟨c2, c6, c7, tab, row, ⟨kvs, ep, v1, v2, v3, v4⟩, law, dv⟩ := G
 have ne : ∀ {i j : Nat}, i ≠ j → (L + i : Nat) ≠ (L + j : Nat) := fun {i j} h e => h (Nat.add_left_cancel e)
 exact ⟨⟨v, CH.set_same⟩, at_ne (ne (by decide)) c6, at_ne (ne (by decide)) c7, at_j (v := none) c2 tab fun _ => by (intro h; injection h), fun j hj => at_j (v := none) c2 (row j hj) fun _ => by (intro h; injection h), ⟨kvs, ep, at_j (v := none) c2 v1 fun _ => by (intro h; injection h), v2, v3, v4⟩, law, dv⟩
theorem VF.add {j : Nat} {x : Int} {kvs : List (Int × V)} {ep ep' : Nat} (G : VF L td vd N ov la tkv tep ta rT vv tl M) (v1 : M vd = some (.dict kvs ep)) (v2 : (kvs.map (·.1)).Nodup) (v3 : ∀ x, x ∈ kvs.map (·.1) ↔ x ∈ tl) (v4 : ∀ k : Nat, kvs.lookup (k : Int) = if (k : Int) ∈ tl then some (.int (vv k)) else none)
  (hj : (j : Int) ∉ tl) (h1 : ov j < 0 → x = la j) (h2 : 0 ≤ ov j → ov j ∈ tl ∧ x = min (vv (ov j).toNat) (la j)) : VF L td vd N ov la tkv tep ta rT (nup vv j x) ((j : Int) :: tl) (M.set vd (.dict (putI kvs (j : Int) (.int x)) ep')) := by
 have hk : (j : Int) ∉ kvs.map (·.1) := fun h => hj ((v3 _).mp h)
 have k : ∀ {y : Addr} {c : CObj}, M y = some c → (∀ v w, c ≠ .dict v w) → (M.set vd (.dict (putI kvs (j : Int) (.int x)) ep')) y = some c := fun {y c} h q => at_ne (fun w => by rw [w, v1] at h; cases h; exact q _ _ rfl) h
 obtain ⟨⟨w2, c2⟩, c6, c7, tab, row, _, law, dv⟩ := G
 refine ⟨⟨w2, k c2 fun _ _ => by (intro h; injection h)⟩, k c6 fun _ _ => by (intro h; injection h), k c7 fun _ _ => by (intro h; injection h), at_ne (Ne.symm dv) tab, fun j hj => k (row j hj) fun _ _ => by (intro h; injection h), ⟨_, _, CH.set_same, ?_, fun y => ?_, fun i => ?_⟩, fun i hi hit => ?_, dv⟩
 ·refine rE (putI_new hk) (rE List.map_append ?_)
  refine List.nodup_append.mpr ⟨v2, by simp, fun a ha b hb => ?_⟩
  have hb : b = (j : Int) := by simpa using hb
  refine rE hb ?_; intro e; exact hk (e ▸ ha)
 ·refine rE (putI_new hk) (rE List.map_append ?_); rewrite [List.mem_append, v3 y, List.mem_cons]
  simp
  exact or_comm
 ·refine rE qc0 (rE (v4 i) ?_)
  by_cases e : i = j
  ·subst e; simp [qav]
  ·have e' : ¬ (i : Int) = j := by exact Nat.ToInt.of_diseq rfl rfl e
   refine rE (if_neg e') (rE (qbo e) ?_); simp [e']
 ·have par : ∀ i, ov i ∈ tl → 0 ≤ ov i → nup vv j x (ov i).toNat = vv (ov i).toNat := fun i h h0 => qbo fun e => hj (by refine rF e (rE (Int.toNat_of_nonneg h0) ?_); exact h)
  by_cases e : i = j
  ·subst e
   refine ⟨fun h => by refine rE qav ?_; exact h1 h, fun h => ?_⟩
   refine eA (h2 h) fun a b => ?_
   exact ⟨List.mem_cons_of_mem _ a, by refine rE qav (rE (par i a h) ?_); exact b⟩
  ·have hit' := (List.mem_cons.mp hit).resolve_left (by exact Nat.ToInt.of_diseq rfl rfl e)
   refine eA (law i hi hit') fun l1 l2 => ?_
   refine ⟨fun h => by refine rE (qbo e) ?_; exact l1 h, fun h => ?_⟩
   refine eA (l2 h) fun a b => ?_
   exact ⟨List.mem_cons_of_mem _ a, by refine rE (qbo e) (rE (par i a h) ?_); exact b⟩
end
inductive LwV (N : Nat) (ov sc bb la : Nat → Int) (bs : Nat → List Int) (ra : Nat → Addr) (MM : Nat → Int) (dU : List Int) (nD : Int → List Int) (T TD0 : TS) (l lo rd wl td vd lp a b L : Addr) (LU LD : Lay) (tkv : List (Int × V)) (tep : Nat) (ta : Nat → Addr) (rT : Nat → List V) (i : Nat) (H' : CH) : Prop
 | mk (T' : TS) (M : CH) (vv : Nat → Int) (dn ready : List Int) (Z : SS a b T T' LU LD M H') (Rn : Run T' nD dn [] ready) (hk : T'.keys = TD0.keys) (hs : T'.sc = TD0.sc) (hd : N ≤ dn.length ∨ i ≤ dn.length) (F : MF L l lo rd wl N ov sc bb bs ra MM [] dU M) (G : VF L td vd N ov la tkv tep ta rT vv dn M)
inductive LwW (N : Nat) (ov sc bb la : Nat → Int) (bs : Nat → List Int) (ra : Nat → Addr) (MM : Nat → Int) (dU : List Int) (T T' : TS) (l lo rd wl td vd lp a b L : Addr) (LU LD : Lay) (tkv : List (Int × V)) (tep : Nat) (ta : Nat → Addr) (rT : Nat → List V) (tl : List Int) (H' : CH) : Prop
 | mk (M : CH) (vv : Nat → Int) (Z : SS a b T T' LU LD M H') (F : MF L l lo rd wl N ov sc bb bs ra MM [] dU M) (G : VF L td vd N ov la tkv tep ta rT vv tl M)
theorem get_last_row {b z : Int} {l' bs : List Int} (e : bs = l' ++ [z]) : ((b :: bs).map V.int)[((-1 : Int) + ((b :: bs).map V.int).length).toNat]? = some (.int z) := by
 subst e
 refine rE (List.length_map ..) (rE (show ((-1 : Int) + ((b :: (l' ++ [z])).length : Nat)).toNat = l'.length + 1 from by rw [List.length_cons, List.length_append]; simp; lia) (rE List.map_cons (rE List.getElem?_cons_succ (rE List.getElem?_map ?_))))
 simp
theorem len_le_row {b : Int} {bs : List Int} : -(((b :: bs).map V.int).length : Int) ≤ -1 := by
 refine rE (List.length_map ..) (rE List.length_cons ?_); exact Rat.intCast_le_intCast.mp rfl
theorem min_if {a b : Int} : (if b < a then b else a) = min a b := by split <;> grind
theorem rng_ints {N : Nat} : qao 0 1 N = ((List.range N).map fun k : Nat => (k : Int)).map .int := by
 unfold qao
 refine rE List.map_map ?_
 exact List.map_congr_left fun k _ => by show V.int (0 + (k : Int) * 1) = V.int (k : Int); congr 1; lia
theorem rng_sorted {N : Nat} : ((List.range N).map fun k : Nat => (k : Int)).Pairwise (· ≤ ·) := by
 rw [List.pairwise_map]
 exact List.pairwise_lt_range.imp fun {a b} h => by show (a : Int) ≤ b; lia
theorem rng_nodup {N : Nat} : ((List.range N).map fun k : Nat => (k : Int)).Nodup :=
 List.pairwise_map.mpr (List.pairwise_lt_range.imp fun {x y} h => by lia)
theorem int_map {α : Type} {g : α → Int} {l : List α} : (l.map fun k => V.int (g k)) = (l.map g).map .int := by refine rE List.map_map ?_; rfl
section
variable {C : Cx} {A : Around} {m : Loc} {H : CH} {s : Shared} {mg mb : Str → Option Value} {P : Params}
theorem szC {b : Int} {bs : List Int} (h : bs.length ≤ 1000) : ((b :: bs).map V.int).length ≤ sizeLine := by
 refine rE (List.length_map ..) (rE List.length_cons (rE sizeLine_eq ?_)); lia
theorem SS.callU {a b : Addr} {TU TD T' : TS} {LU LD : Lay} {M : CH} {f : V} {vs : List V} {Q : V → Loc → CH → Prop} (Z : SS a b TU TD LU LD M H) (h : CALL C A f vs [] H fun v H' => AEx2 (v = V.none) (fun L' => TSR H' a T' L') fun L' => FrameT a H TU LU H' T' L') (k : ∀ H' L', SS a b T' TD L' LD M H' → Q V.none m H') : CV C A f vs [] m H Q :=
 CV_of (h.mono fun v H' x => by
  obtain ⟨rfl, L', R, F⟩ := x
  exact k H' L' (Z.stepU R F))
theorem SS.callD {a b : Addr} {TU TD T' : TS} {LU LD : Lay} {M : CH} {f : V} {vs : List V} {Q : V → Loc → CH → Prop} (Z : SS a b TU TD LU LD M H) (h : CALL C A f vs [] H fun v H' => AEx2 (v = V.none) (fun L' => TSR H' b T' L') fun L' => FrameT b H TD LD H' T' L') (k : ∀ H' L', SS a b TU T' LU L' M H' → Q V.none m H') : CV C A f vs [] m H Q :=
 CV_of (h.mono fun v H' x => by
  obtain ⟨rfl, L', R, F⟩ := x
  exact k H' L' (Z.stepD R F))
theorem ASG_ss {nm : Str} {p : Pos} {x a b : Addr} {v : V} {w : Option V} {TU TD : TS} {LU LD : Lay} {M : CH} {Q : Loc → CH → Prop} (hc : C.env.cells.lookup nm = some x) (Z : SS a b TU TD LU LD (M.set x (.cell w)) H) (k : ∀ H', SS a b TU TD LU LD (M.set x (.cell (some v))) H' → Q m H')
  (hk : autoParam (C.env.scope.kind = .function) Mine.syn1) (hl : autoParam (C.env.kindOf nm = some .cell) Mine.syn1) : ASG C A (.Name nm p) v m H Q :=
 qbb hc (Z.get CH.set_same) (k _ (by
  have q := Z.set (x := x) (c := .cell (some v)) (.inl (by refine rE CH.set_same ?_; simp))
  rw [CH.set_set] at q; exact q)) hk hl
set_option maxHeartbeats 8000000 in
theorem spec_law {l : Addr} {N : Nat} {sc ov : Nat → Int} {items : Array Value} (W : Wood N ov) (hov : ∀ k : Nat, (sc k).fmod ((k : Int) + 1) - 1 = ov k) (hN : N ≤ 63) (B : Bs C.h₀ (KK P) mg mb) {n : Nat} (hA : AOK C A (n + 12)) (hl : C.h₀.get? l = some (seqObj "list" items 0)) (hv : VRs C.h₀ ((List.range N).map fun k => .int (sc k)) items.toList) (hH : ∀ b, H b = none) :
  CALL C A (.con (.ref a_law)) [.ref l] [] H (fun v _ => v = .bool true) := by
 have hz : 1000000 < sizeLine := by decide
 have hN' : N ≤ 2 ^ 10 := Nat.le_trans hN (by decide)
 have hN62 : N < 2 ^ 62 := Nat.lt_of_le_of_lt hN (by decide)
 have hNz : N ≤ sizeLine := Nat.le_trans hN (by decide)
 have hrz : (List.range N).length ≤ sizeLine := by refine rE List.length_range ?_; exact hNz
 have hls : ∀ {C' : Cx} (H' : CH), C'.h₀ = C.h₀ → LAt C' H' l ((List.range N).map fun k => .int (sc k)) := fun {C'} H' e => .base items 0 (by refine rE e ?_; exact hl) (by refine rE e ?_; exact hv)
 refine qas fun QV hQV => ?_
 refine CALL_cells (m' := []) B (by with_unfolding_all rfl) (by with_unfolding_all rfl) hA rfl bz1 (cells_ok (by kernel_rfl)) (by kernel_rfl) fun L hL hA' => ?_
 have hcell : qa2 (cellsFrom (L + 1) [(Str.ofString "script", NameKind.cell), (Str.ofString "count", NameKind.local), (Str.ofString "j", NameKind.cell), (Str.ofString "over", NameKind.cell), (Str.ofString "up", NameKind.local), (Str.ofString "down", NameKind.local), (Str.ofString "rows", NameKind.cell), (Str.ofString "waiting", NameKind.local), (Str.ofString "x", NameKind.local), (Str.ofString "under", NameKind.local), (Str.ofString "row", NameKind.local), (Str.ofString "greatest", NameKind.local), (Str.ofString "marks", NameKind.cell), (Str.ofString "places", NameKind.local), (Str.ofString "tables", NameKind.cell), (Str.ofString "table", NameKind.local), (Str.ofString "i", NameKind.local), (Str.ofString "values", NameKind.cell), (Str.ofString "group", NameKind.local), (Str.ofString "paid", NameKind.local), (Str.ofString "least", NameKind.local), (Str.ofString "len", NameKind.globalImplicit), (Str.ofString "range", NameKind.globalImplicit), (Str.ofString "TopologicalSorter", NameKind.globalImplicit), (Str.ofString "reduce", NameKind.globalImplicit), (Str.ofString "_law_join", NameKind.globalImplicit), (Str.ofString "insort_left", NameKind.globalImplicit), (Str.ofString "insort_right", NameKind.globalImplicit), (Str.ofString "sorted", NameKind.globalImplicit), (Str.ofString "_law_tables", NameKind.globalImplicit), (Str.ofString "zip", NameKind.globalImplicit), (Str.ofString "bisect_right", NameKind.globalImplicit), (Str.ofString "bisect_left", NameKind.globalImplicit), (Str.ofString "min", NameKind.globalImplicit), (Str.ofString "list", NameKind.globalImplicit), (Str.ofString "sum", NameKind.globalImplicit)] []) (fun x => (([("script" : Str)].zip [V.ref l]).reverse.lookup x)) H = (((((((H.set (L + 1) (.cell (some (.ref l)))).set (L + 2) (.cell none)).set (L + 3) (.cell none)).set (L + 4) (.cell none)).set (L + 5) (.cell none)).set (L + 6) (.cell none)).set (L + 7) (.cell none)) := by
  kernel_rfl
 refine EX_heap hcell ?_
 have ne : ∀ {i j : Nat}, i ≠ j → (L + i : Nat) ≠ (L + j : Nat) := fun {i j} h e => h (Nat.add_left_cancel e)
 refine EX_gen fun Hc hHc => ?_
 have hc1 : Hc (L + 1) = some (.cell (some (.ref l))) := by refine rE hHc ?_; exact at_ne (ne (by decide)) (at_ne (ne (by decide)) (at_ne (ne (by decide)) (at_ne (ne (by decide)) (at_ne (ne (by decide)) (at_ne (ne (by decide)) CH.set_same)))))
 have hc2 : Hc (L + 2) = some (.cell none) := by refine rE hHc ?_; exact at_ne (ne (by decide)) (at_ne (ne (by decide)) (at_ne (ne (by decide)) (at_ne (ne (by decide)) (at_ne (ne (by decide)) CH.set_same))))
 have hc3 : Hc (L + 3) = some (.cell none) := by refine rE hHc ?_; exact at_ne (ne (by decide)) (at_ne (ne (by decide)) (at_ne (ne (by decide)) (at_ne (ne (by decide)) CH.set_same)))
 have hc4 : Hc (L + 4) = some (.cell none) := by refine rE hHc ?_; exact at_ne (ne (by decide)) (at_ne (ne (by decide)) (at_ne (ne (by decide)) CH.set_same))
 have hc5 : Hc (L + 5) = some (.cell none) := by refine rE hHc ?_; exact at_ne (ne (by decide)) (at_ne (ne (by decide)) CH.set_same)
 have hc6 : Hc (L + 6) = some (.cell none) := by refine rE hHc ?_; exact at_ne (ne (by decide)) CH.set_same
 have hc7 : Hc (L + 7) = some (.cell none) := by refine rE hHc ?_; exact CH.set_same
 clear hHc
 repeat walk_at "x"
 refine EV_b B g_len b_len ?_
 repeat walk_at "x"
 refine qab (c := L + 1) (by with_unfolding_all rfl) hc1 ?_
 repeat walk_at "x"
 refine ⟨qad, qcw (hls _ rfl) (szR hN') ?_⟩
 refine rE List.length_range ?_
 repeat walk_at "x"
 refine EV_lc ?_
 repeat walk_at "x"
 refine EV_b B qbp qbr ?_
 repeat walk_at "x"
 refine ⟨qa3, qba ?_⟩
 refine LC_all (List.range N) intN (fun k => V.int (ov k)) (seqN hA'.handled hN62) trivial hrz (fun k hk LC hLC => ?_) fun lo hlo hlo0 => ?_
 ·have hkN := List.mem_range.mp hk
  repeat walk_at "x"
  refine ⟨rfl, rfl, fun _ => ?_⟩
  repeat walk_at "x"
  refine qab (c := L + 1) (by with_unfolding_all rfl) hc1 ?_
  repeat walk_at "x"
  refine qag (v := .int (sc k)) (hls _ rfl) (Int.natCast_nonneg _) (qai hkN) (szR hN') ?_
  repeat walk_at "x"
  refine O2_mod (by lia) ?_
  repeat walk_at "x"
  exact ⟨by refine rE (hov ..) rfl, rfl⟩
 have o3 : lo ≠ L + 3 := ne_at hlo hc3
 have kl : ∀ b, Hc b ≠ none → (Hc.set lo (.list ((List.range N).map fun k => .int (ov k)))) b = Hc b := fun b hb => CH.set_ne (qan hb hlo)
 refine qbb (c := L + 3) (by with_unfolding_all rfl) ((kl _ (sn hc3)).trans hc3) ?_
 repeat walk_at "x"
 refine EV_gen fun M0 hM0 => ?_
 have mk : ∀ {x c}, x ≠ L + 3 → Hc x = some c → M0 x = some c := fun {x c} hx hb => by refine rE hM0 (rE (CH.set_ne hx) (rE (kl x (sn hb)) ?_)); exact hb
 have m1 := mk (ne (by decide)) hc1
 have m2 := mk (ne (by decide)) hc2
 have m3 : M0 (L + 3) = some (.cell (some (.ref lo))) := by refine rE hM0 ?_; exact CH.set_same
 have m4 := mk (ne (by decide)) hc4
 have m5 := mk (ne (by decide)) hc5
 have m6 := mk (ne (by decide)) hc6
 have m7 := mk (ne (by decide)) hc7
 have mo : M0 lo = some (.list ((List.range N).map fun k => .int (ov k))) := by refine rE hM0 (rE (CH.set_ne o3) ?_); exact CH.set_same
 have o2 : L + 2 ≠ lo := ne_at m2 mo
 clear mk hM0 hc1 hc2 hc3 hc4 hc5 hc6 hc7 kl hlo hlo0 o3
 refine EV_g B g_TS ?_
 repeat walk_at "x"
 refine ⟨KP_cls B k_keepTS, CV_of ((spec_makeTS (by exact B) (n := n + 9) hA').mono ?_)⟩
 rintro v H₁ ⟨a, LU, rfl, RU, kU⟩
 repeat walk_at "x"
 refine EV_g B g_TS ?_
 repeat walk_at "x"
 refine ⟨KP_cls B k_keepTS, CV_of ((spec_makeTS (by exact B) (n := n + 9) hA').mono ?_)⟩
 rintro v H₂ ⟨b, LD, rfl, RD, kD⟩
 have Z0 : SS a b .new .new LU LD M0 H₂ := by
  refine ⟨RU.more fun b hb => (kD b hb).1, RD, fun c f => ?_, fun x c e => ?_⟩
  ·have : H₁ c ≠ none := fun e => RU.nofoot e f
   exact (kD c this).2
  ·have h1 := kU x (sn e)
   have h2 := kD x (by refine rE h1.1 ?_; exact sn e)
   exact ⟨h2.1.trans (h1.1.trans e), h1.2, h2.2⟩
 have Z0' : SS a b .new .new LU LD (M0.set (L + 2) (.cell none)) H₂ := Z0.put (Z0.get m2) (Z0.fr _ _ m2).2.1 (Z0.fr _ _ m2).2.2
 clear RU kU RD kD Z0
 repeat walk_at "x"
 refine EX_forN (N := N) (f := intN) (J := LwA N ov a b L M0) (m0 := mC N a b) ?_ (fun i hil H' hJ RR hRR => ?_) fun H₃ hM => ?_
 ·repeat walk_at "x"
  refine EV_b B qbp qbr ?_
  repeat walk_at "x"
  refine ⟨qa3, qba ?_⟩
  exact ⟨seqN hA'.handled hN62, .cons rfl (.cons rfl (.cons rfl .nil)), ⟨LU, LD, none, Z0'⟩⟩
 ·clear Z0'
  obtain ⟨LU, LD, v, Z⟩ := hJ
  refine ASG_ss (x := L + 2) (by with_unfolding_all rfl) Z fun H' Z => ?_
  have hBU := (qa6 (addsU ov i)).1
  have hBD := (qa6 (addsD ov i)).1
  have hLU := addL_le (M := 2) (addsU ov i) adds_two.1
  have hLD := addL_le (M := 2) (addsD ov i) adds_two.2
  have hlen := @adds_len ov i
  repeat walk_at "x"
  refine qa4 (f := a_add) B Z.ru.top Z.ru.dict rfl ?_
  repeat walk_at "x"
  refine qab (c := L + 2) (by with_unfolding_all rfl) (Z.get CH.set_same) ?_
  repeat walk_at "x"
  refine ⟨KP_K B (by with_unfolding_all rfl), Z.callU (spec_add (k := (i : Nat)) (ps := []) (N := (addsU ov i).length * (1 + 2 * 2)) (by exact B) (n := n + 7) hA' Z.ru (hBU 0).ready hLU (by simp; lia)) fun H'' Ly2 Z => ?_⟩
  repeat walk_at "x"
  refine qa4 (f := a_add) B Z.rd.top Z.rd.dict rfl ?_
  repeat walk_at "x"
  refine qab (c := L + 2) (by with_unfolding_all rfl) (Z.get CH.set_same) ?_
  repeat walk_at "x"
  refine ⟨KP_K B (by with_unfolding_all rfl), Z.callD (spec_add (k := (i : Nat)) (ps := []) (N := (addsD ov i).length * (1 + 2 * 2)) (by exact B) (n := n + 7) hA' Z.rd (hBD 0).ready hLD (by simp; lia)) fun H3 Ly3 Z => ?_⟩
  repeat walk_at "x"
  walk_at "xi"
  refine qab (c := L + 3) (by with_unfolding_all rfl) (Z.get (at_ne (Ne.symm (ne (by decide))) m3)) ?_
  repeat walk_at "x"
  refine qab (c := L + 2) (by with_unfolding_all rfl) (Z.get CH.set_same) ?_
  repeat walk_at "x"
  refine qag (v := .int (ov i)) (.own (Z.get (at_ne (Ne.symm o2) mo))) (Int.natCast_nonneg _) (qai hil) (szR hN') ?_
  repeat walk_at "x"
  refine ⟨_, rfl, fun q => ?_, fun q => ?_⟩
  ·have h0 : 0 ≤ ov i := by exact Int.Nonneg.num (ov i) q
   have hBU := (qa6 (addsU ov i ++ [((i : Int), [])])).1
   have hBD := (qa6 (addsD ov i ++ [((i : Int), [])])).1
   have hLU := addL_le (M := 2) (addsU ov i ++ [((i : Int), [])]) (fun p hp => by rcases List.mem_append.mp hp with hp | hp; exact adds_two.1 p hp; refine rE (List.mem_singleton.mp hp) ?_; simp)
   have hLD := addL_le (M := 2) (addsD ov i ++ [((i : Int), [])]) (fun p hp => by rcases List.mem_append.mp hp with hp | hp; exact adds_two.2 p hp; refine rE (List.mem_singleton.mp hp) ?_; simp)
   rw [qa1] at hBU hBD hLU hLD
   repeat walk_at "x"
   refine qa4 (f := a_add) B Z.ru.top Z.ru.dict rfl ?_
   repeat walk_at "x"
   refine qab (c := L + 3) (by with_unfolding_all rfl) (Z.get (at_ne (Ne.symm (ne (by decide))) m3)) ?_
   repeat walk_at "x"
   refine qab (c := L + 2) (by with_unfolding_all rfl) (Z.get CH.set_same) ?_
   repeat walk_at "x"
   refine qag (v := .int (ov i)) (.own (Z.get (at_ne (Ne.symm o2) mo))) (Int.natCast_nonneg _) (qai hil) (szR hN') ?_
   repeat walk_at "x"
   refine qab (c := L + 2) (by with_unfolding_all rfl) (Z.get CH.set_same) ?_
   repeat walk_at "x"
   refine ⟨KP_K B (by with_unfolding_all rfl), Z.callU (spec_add (k := ov i) (ps := [((i : Nat) : Int)]) (N := (addsU ov i ++ [((i : Int), [])]).length * (1 + 2 * 2)) (by exact B) (n := n + 7) hA' Z.ru (hBU 0).ready hLU (by simp; lia)) fun H4 Ly4 Z => ?_⟩
   repeat walk_at "x"
   refine qa4 (f := a_add) B Z.rd.top Z.rd.dict rfl ?_
   repeat walk_at "x"
   refine qab (c := L + 2) (by with_unfolding_all rfl) (Z.get CH.set_same) ?_
   repeat walk_at "x"
   refine qab (c := L + 3) (by with_unfolding_all rfl) (Z.get (at_ne (Ne.symm (ne (by decide))) m3)) ?_
   repeat walk_at "x"
   refine qab (c := L + 2) (by with_unfolding_all rfl) (Z.get CH.set_same) ?_
   repeat walk_at "x"
   refine qag (v := .int (ov i)) (.own (Z.get (at_ne (Ne.symm o2) mo))) (Int.natCast_nonneg _) (qai hil) (szR hN') ?_
   repeat walk_at "x"
   refine qab (c := L + 3) (by with_unfolding_all rfl) (Z.get (at_ne (Ne.symm (ne (by decide))) m3)) ?_
   repeat walk_at "x"
   refine qab (c := L + 2) (by with_unfolding_all rfl) (Z.get CH.set_same) ?_
   repeat walk_at "x"
   refine qag (v := .int (ov i)) (.own (Z.get (at_ne (Ne.symm o2) mo))) (Int.natCast_nonneg _) (qai hil) (szR hN') ?_
   repeat walk_at "x"
   refine ⟨KP_K B (by with_unfolding_all rfl), Z.callD (spec_add (k := (i : Nat)) (ps := [ov i, ov i]) (N := (addsD ov i ++ [((i : Int), [])]).length * (1 + 2 * 2)) (by exact B) (n := n + 7) hA' Z.rd (hBD 0).ready hLD (by simp; lia)) fun H5 Ly5 Z => ?_⟩
   repeat walk_at "x"
   have eU : addsU ov (i + 1) = addsU ov i ++ [((i : Int), [])] ++ [(ov i, [(i : Int)])] := by refine rE addsU_succ (rE (if_pos h0) ?_); simp
   have eD : addsD ov (i + 1) = addsD ov i ++ [((i : Int), [])] ++ [((i : Int), [ov i, ov i])] := by refine rE addsD_succ (rE (if_pos h0) ?_); simp
   rw [← qa1, ← qa1, ← qa1, ← qa1, ← eU, ← eD] at Z
   exact (hRR _ _ (.cons rfl (.cons rfl (.cons rfl .nil))) ⟨_, _, _, Z⟩).1
  ·have h0 : ¬ 0 ≤ ov i := by exact of_decide_eq_false q
   repeat walk_at "x"
   have eU : addsU ov (i + 1) = addsU ov i ++ [((i : Int), [])] := by refine rE addsU_succ (rE (if_neg h0) rfl)
   have eD : addsD ov (i + 1) = addsD ov i ++ [((i : Int), [])] := by refine rE addsD_succ (rE (if_neg h0) rfl)
   rw [← qa1, ← qa1, ← eU, ← eD] at Z
   exact (hRR _ _ (.cons rfl (.cons rfl (.cons rfl .nil))) ⟨_, _, _, Z⟩).1
 obtain ⟨LU, LD, v2, Z⟩ := hM
 have hkU := @keysU N ov W
 have hkD := @keysD N ov W
 have hnU := @nearU N ov W
 have hnD := @nearD N ov
 have hBU := (qa6 (addsU ov N)).1
 have hBD := (qa6 (addsD ov N)).1
 have hLU := addL_le (M := 2) (addsU ov N) adds_two.1
 have hLD := addL_le (M := 2) (addsD ov N) adds_two.2
 have hlen := @adds_len ov N
 have RnU := Run.start hBU
 have RnD := Run.start hBD
 generalize hTU0 : addL (addsU ov N) = TU0 at *
 generalize hTD0 : addL (addsD ov N) = TD0 at *
 generalize hnrU : nearL (addsU ov N) = nU at *
 generalize hnrD : nearL (addsD ov N) = nD at *
 have scU : ∀ k ∈ TU0.keys, ∀ x ∈ TU0.sc k, x ∈ TU0.keys ∧ k ∈ nU x := fun k hk x hx => sc_near hBU hk hx
 have scD : ∀ k ∈ TD0.keys, ∀ x ∈ TD0.sc k, x ∈ TD0.keys ∧ k ∈ nD x := fun k hk x hx => sc_near hBD hk hx
 have klU := qc2 (hBU 0).nodup fun x => hkU.mp
 have klD := qc2 (hBD 0).nodup fun x => hkD.mp
 refine qam (st := .Expr _ _) (ES_expr ?_)
 repeat walk_at "x"
 refine qa4 (f := a_prepare) B Z.ru.top Z.ru.dict rfl ?_
 repeat walk_at "x"
 refine ⟨KP_K B (by with_unfolding_all rfl), Z.callU (spec_prepare (rk := fun x => -x) (fun k hk x hx => ⟨(scU k hk x hx).1, by
  refine eEEAA (hnU.mp (scU k hk x hx).2) fun c k' e1 e2 h => ?_
  have := W.kid h
  show -k < -x
  lia⟩) (by unfold scanBound; lia) (by exact B) (n := n + 9) hA' Z.ru (hBU 0).ready) fun H₄ LU4 Z => ?_⟩
 repeat walk_at "x"
 refine qa4 (f := a_prepare) B Z.rd.top Z.rd.dict rfl ?_
 repeat walk_at "x"
 refine ⟨KP_K B (by with_unfolding_all rfl), Z.callD (spec_prepare (rk := fun x => x) (fun k hk x hx => ⟨(scD k hk x hx).1, by
  refine eEAAA (hnD.mp (scD k hk x hx).2) fun k' h1 e1 e2 h => ?_
  have := W.up k' h1
  show k < x
  lia⟩) (by unfold scanBound; lia) (by exact B) (n := n + 9) hA' Z.rd (hBD 0).ready) fun H₅ LD5 Z => ?_⟩
 repeat walk_at "x"
 refine EV_dict fun rd hrd hrd0 => ?_
 obtain ⟨M1, hM1⟩ : ∃ M1 : CH, M1 = M0.set (L + 2) (.cell v2) := ⟨_, rfl⟩
 rw [← hM1] at Z
 have mk : ∀ {x c}, x ≠ L + 2 → M0 x = some c → M1 x = some c := fun {x c} hx e => by refine rE hM1 (rE (CH.set_ne hx) ?_); exact e
 have p1 := mk (ne (by decide)) m1
 have p2 : M1 (L + 2) = some (.cell v2) := by refine rE hM1 ?_; exact CH.set_same
 have p3 := mk (ne (by decide)) m3
 have p4 := mk (ne (by decide)) m4
 have p5 := mk (ne (by decide)) m5
 have p6 := mk (ne (by decide)) m6
 have p7 := mk (ne (by decide)) m7
 have po := mk (Ne.symm o2) mo
 clear mk hM1 m1 m2 m3 m4 m5 m6 m7 mo o2
 have n1 := Z.new hrd
 have Z := Z.set (x := rd) (c := .dict [] 0) (.inr hrd)
 refine qbb (c := L + 4) (by with_unfolding_all rfl) (Z.get (qaw n1 p4)) ?_
 have Z := Z.set (x := L + 4) (c := .cell (some (.ref rd))) (.inl (by refine rE (qaw n1 p4) ?_; simp))
 repeat walk_at "x"
 refine qby ?_
 repeat walk_at "x"
 refine ⟨by decide, fun wl hwl => ?_⟩
 repeat walk_at "x"
 have n2 := Z.new hwl
 have Z := Z.set (x := wl) (c := .list []) (.inr hwl)
 have r4 : rd ≠ L + 4 := ne_at n1 p4
 have F : ∀ bb bs ra MM, MF L l lo rd wl N ov sc bb bs ra MM [] [] ((((M1.set rd (.dict [] 0)).set (L + 4) (.cell (some (.ref rd)))).set wl (.list []))) := fun bb bs ra MM => by
  have k : ∀ {x c}, x ≠ L + 4 → M1 x = some c → ((((M1.set rd (.dict [] 0)).set (L + 4) (.cell (some (.ref rd)))).set wl (.list []))) x = some c := fun {x c} hx e => qaw n2 (at_ne hx (qaw n1 e))
  have o4 : lo ≠ L + 4 := ne_at po p4
  have wlo : wl ≠ lo := ne_at n2 ((CH.set_ne o4).trans (qaw n1 po))
  exact ⟨k (ne (by decide)) p1, ⟨_, k (ne (by decide)) p2⟩, k (ne (by decide)) p3, qaw n2 CH.set_same, ⟨_, k (ne (by decide)) p5⟩, ⟨_, k (ne (by decide)) p6⟩, ⟨_, k (ne (by decide)) p7⟩, k o4 po, CH.set_same, wlo,
   ⟨[], 0, qaw n2 (at_ne r4 CH.set_same), Nat.le_refl _, fun k _ => rfl⟩, fun k _ h => (by cases h), fun k _ h => (by cases h)⟩
 clear p1 p2 p3 p4 p5 p6 p7 po n1 n2 r4
 generalize ((((M1.set rd (.dict [] 0)).set (L + 4) (.cell (some (.ref rd)))).set wl (.list []))) = M2 at *
 refine EX_forN (N := N) (f := fun k => .int (sc k)) (J := LwM N ov sc nU TU0 TD0.prep l lo rd wl a b L LU4 LD5) (m0 := mD N wl a b) ?_ (fun i hil H' hJ RR hRR => ?_) fun H₆ hM => ?_
 ·refine qab (c := L + 1) (by with_unfolding_all rfl) (Z.get (F (fun _ => 0) (fun _ => []) (fun _ => 0) (fun _ => 0)).c1) ?_
  exact ⟨seq_base hA'.handled hl hv, .cons rfl (.cons rfl (.cons rfl (.cons rfl .nil))), ⟨_, _, _, _, _, _, _, _, _, Z, RnU, rfl, rfl, rfl, F (fun _ => 0) (fun _ => []) (fun _ => 0) (fun _ => 0)⟩⟩
 ·clear Z F RnU
  obtain ⟨T, M, bb, bs, ra, MM, dn, out, ready, Z, Rn, hTk, hTs, hdl, F⟩ := hJ
  have hrl : ready.length ≤ N := Nat.le_trans (qa7 Rn.rnd fun x hx => by refine rF hTk ?_; exact ((Rn.rmem x).mp hx).1) klU
  have hol : out.length ≤ N := Nat.le_trans (qa7 Rn.ond fun x hx => by refine rF hTk ?_; exact Rn.oks x hx) klU
  repeat walk_at "x"
  refine qa8 (.own (Z.get F.wl_)) PySem.F.slot_list_extend PySem.F.type_list_extend ?_
  repeat walk_at "x"
  refine qa4 (f := qcq) B Z.ru.top Z.ru.dict rfl ?_
  repeat walk_at "x"
  refine ⟨KP_K B (by with_unfolding_all rfl), CV_of ((qb9 (by exact B) (n := n + 10) hA' Z.ru Rn.rdy (fun k hk => ((Rn.rmem k).mp hk).1) (by lia)).mono ?_)⟩
  rintro v H₇ ⟨rfl, R7, F7⟩
  have Z := Z.stepU R7 F7
  have Rn := Rn.get
  have hTk : (T.getReady ready).keys = TU0.keys := ((@TS.out_eq ready T).1).trans hTk
  have hTs : (T.getReady ready).sc = TU0.sc := ((@TS.out_eq ready T).2.2.2.2).trans hTs
  clear R7 F7
  generalize T.getReady ready = T at *
  repeat walk_at "x"
  refine ⟨qad, CV_extend_tup (Z.get F.wl_) (by refine rE (List.length_map ..) (rE (List.length_map ..) ?_); lia) ?_⟩
  refine rF List.map_append ?_
  have Z := Z.set (x := wl) (c := .list ((out ++ ready).map .int)) (.inl (by refine rE F.wl_ ?_; simp))
  have F := F.setW (out' := out ++ ready)
  generalize out ++ ready = out at *
  generalize (M.set wl (.list (out.map .int))) = M at *
  generalize (H₇.set wl (.list (out.map .int))) = H₇ at *
  repeat walk_at "x"
  have hol : out.length ≤ N := Nat.le_trans (qa7 Rn.ond fun x hx => by refine rF hTk ?_; exact Rn.oks x hx) klU
  have hne : out ≠ [] := fun e => by
   rw [e] at Rn
   have h1 := Rn.all (rk := fun x => N - x.toNat) fun x hx p hp => by
    refine eEEAA (hnU.mp hp) fun c k zz2 zz3 h => ?_; subst zz2; subst zz3
    have h1 := W.kid h
    have h2 := (mem_kids.mp h).1
    show N - c < N - k
    exact Nat.sub_lt_sub_left (Nat.lt_trans h1 h2) h1
   have h2 := qa7 (l := (List.range N).map fun k : Nat => (k : Int)) (k := dn) (List.pairwise_map.mpr (List.pairwise_lt_range.imp fun {x y} h => by lia)) fun x hx => by
    refine eEA (List.mem_map.mp hx) fun k hk zz2 => ?_; subst zz2
    exact h1 _ (by refine rE hTk ?_; exact hkU.mpr ⟨k, rfl, List.mem_range.mp hk⟩)
   rw [List.length_map, List.length_range] at h2
   lia
  walk_at "xi"
  refine qby ?_
  repeat walk_at "x"
  refine ⟨by decide, fun e0 he0 => ?_⟩
  repeat walk_at "x"
  refine O2_eqd (.list (.own (qaw he0 (Z.get F.wl_))) dr_ints) (.list (.own CH.set_same) .nil) ints_ok (by rfl) hA'.u10 fun c3 hc3 => ?_
  have Z := Z.more (H' := H₇.set e0 (.list [])) fun y hy => CH.set_ne (qan hy he0)
  clear he0
  generalize H₇.set e0 (.list []) = H₇ at *
  refine ⟨_, rfl, fun q => ?_, fun q => ?_⟩
  ·have := hc3.mp q
   simp at this
   exact absurd this hne
  clear hc3
  have hlpos : 0 < out.length := List.length_pos_iff.mpr hne
  repeat walk_at "x"
  refine qa8 (.own (Z.get F.wl_)) PySem.F.slot_list_pop PySem.F.type_list_pop ?_
  repeat walk_at "x"
  refine EV_b B g_len b_len ?_
  repeat walk_at "x"
  refine ⟨qad, qcw (.own (Z.get F.wl_)) (szM (by exact Nat.le_trans hol hN')) ?_⟩
  repeat walk_at "x"
  refine O2_mod (by exact Int.natCast_ne_zero_iff_pos.mpr hlpos) ?_
  repeat walk_at "x"
  have ht0 : 0 ≤ (sc i).fmod (out.length : Int) := Int.fmod_nonneg_of_pos _ (by exact Int.natCast_pos.mpr hlpos)
  have ht1 : (sc i).fmod (out.length : Int) < (out.length : Int) := Int.fmod_lt_of_pos _ (by exact Int.natCast_pos.mpr hlpos)
  have htl : ((sc i).fmod (out.length : Int)).toNat < out.length := by exact (Int.toNat_lt ht0).mpr ht1
  refine eEA (hkU.mp (by rw [← hTk]; exact Rn.oks _ (List.getElem_mem htl))) fun j hj hjN => ?_
  have hjt : out[((sc i).fmod (out.length : Int)).toNat]? = some (j : Int) := by refine rE (List.getElem?_eq_getElem htl) (rE hj rfl)
  refine ⟨qad, CV_pop_at (v := .int (j : Int)) (Z.get F.wl_) ht0 (by refine rE List.getElem?_map (rE hjt ?_); rfl) (szM (by exact Nat.le_trans hol hN')) ?_⟩
  refine rE map_erase (rE (erase_at Rn.ond hjt) ?_)
  have hjo := List.mem_of_getElem? hjt
  have Z := Z.set (x := wl) (c := .list ((out.erase (j : Int)).map .int)) (.inl (by refine rE F.wl_ ?_; simp))
  have F := F.setW (out' := out.erase (j : Int))
  clear ht0 ht1 htl hj hjt
  generalize (M.set wl (.list ((out.erase (j : Int)).map .int))) = M at *
  generalize (H₇.set wl (.list ((out.erase (j : Int)).map .int))) = H₇ at *
  refine eE F.c2 fun w2 hw2 => ?_
  refine qbb (c := L + 2) (by with_unfolding_all rfl) (Z.get hw2) ?_
  have Z := Z.set (x := L + 2) (c := .cell (some (.int (j : Int)))) (.inl (by refine rE hw2 ?_; simp))
  have F := F.setJ (v := some (.int (j : Int)))
  have hcj : (M.set (L + 2) (.cell (some (.int (j : Int))))) (L + 2) = some (.cell (some (.int (j : Int)))) := CH.set_same
  clear hw2 w2
  generalize (M.set (L + 2) (.cell (some (.int (j : Int))))) = M at *
  generalize (H₇.set (L + 2) (.cell (some (.int (j : Int))))) = H₇ at *
  refine SeqE.n ?_
  have hjd : (j : Int) ∉ dn := Rn.disj _ hjo
  have hkd : ∀ k ∈ qaa N ov j, (k : Int) ∈ dn := fun k hk => Rn.odep _ hjo _ (hnU.mpr ⟨k, j, rfl, rfl, hk⟩)
  have hkN : ∀ k ∈ qaa N ov j, k < N := fun k hk => (mem_kids.mp hk).1
  have hkl : (qaa N ov j).length ≤ N := Nat.le_trans (List.length_filter_le ..) (by refine rE List.length_range ?_; exact Nat.le_refl _)
  refine qam (st := .Assign _ _ _) (qbw ?_)
  repeat walk_at "x"
  refine EV_b B qbp qbr ?_
  repeat walk_at "x"
  refine ⟨qa3, qba ?_⟩
  refine LC_pure (List.range N) intN (fun k => decide (ov k = (j : Int))) intN (seqN hA'.handled hN62) trivial hrz (fun k hk LC hLC => ?_) fun ul hul hul0 => ?_
  ·have hkN := List.mem_range.mp hk
   repeat walk_at "x"
   refine qab (c := L + 3) (by with_unfolding_all rfl) (Z.get F.c3) ?_
   repeat walk_at "x"
   refine qag (v := .int (ov k)) (.own (Z.get F.ov_)) (Int.natCast_nonneg _) (qai hkN) (szR hN') ?_
   repeat walk_at "x"
   refine qab (c := L + 2) (by with_unfolding_all rfl) (Z.get hcj) ?_
   repeat walk_at "x"
   refine ⟨_, rfl, fun q2 => ⟨q2.symm, rfl, fun _ => ?_⟩, fun q2 => ⟨q2.symm, rfl, fun h => by cases h⟩⟩
   repeat walk_at "x"
   exact ⟨rfl, rfl⟩
  refine rE (show (List.range N).filter (fun k => decide (ov k = (j : Int))) = qaa N ov j from rfl) ?_
  have hu1 : (H₇.set ul (.list ((qaa N ov j).map intN))) ul = some (.list ((qaa N ov j).map intN)) := CH.set_same
  have Z := Z.more (H' := H₇.set ul (.list ((qaa N ov j).map intN))) fun y hy => CH.set_ne (qan hy hul)
  clear hul hul0
  generalize H₇.set ul (.list ((qaa N ov j).map intN)) = H₇ at *
  obtain ⟨kvs, ep, hr1, hr2, hr3⟩ := F.rows
  refine SeqE.n ?_
  walk_at "xi"
  refine qab (c := L + 2) (by with_unfolding_all rfl) (Z.get hcj) ?_
  repeat walk_at "x"
  refine qab (c := L + 4) (by with_unfolding_all rfl) (Z.get F.c4) ?_
  repeat walk_at "x"
  refine O2_in_dict B (Z.get hr1) ?_
  refine rE (hr3 j hjN) (rE (if_neg hjd) ?_)
  refine ⟨_, rfl, fun q => (by cases q), fun _ => ?_⟩
  repeat walk_at "x"
  refine EV_lc ?_
  repeat walk_at "x"
  refine LC_pure (qaa N ov j) intN (fun k => false) intN (qce hA'.handled hu1) hu1 (by lia) (fun k hk LC hLC => ?_) fun xl hxl hxl0 => ?_
  ·repeat walk_at "x"
   refine qab (c := L + 4) (by with_unfolding_all rfl) (Z.get F.c4) ?_
   repeat walk_at "x"
   refine qdc B (Z.get hr1) ?_
   refine rE (hr3 k (hkN k hk)) (rE (if_pos (hkd k hk)) ?_)
   exact ⟨_, rfl, fun q => (by cases q), fun _ => ⟨rfl, rfl, fun h => by cases h⟩⟩
  refine rE (show ((qaa N ov j).filter fun _ => false).map intN = ([] : List V) from by simp) ?_
  have hx1 : (H₇.set xl (.list [])) xl = some (.list []) := CH.set_same
  have hu1 : (H₇.set xl (.list [])) ul = some (.list ((qaa N ov j).map intN)) := qaw hxl hu1
  have Z := Z.more (H' := H₇.set xl (.list [])) fun y hy => CH.set_ne (qan hy hxl)
  clear hxl hxl0
  generalize H₇.set xl (.list []) = H₇ at *
  repeat walk_at "x"
  refine qby ?_
  repeat walk_at "x"
  refine ⟨by decide, fun e0 he0 => ?_⟩
  repeat walk_at "x"
  refine O2_ned (.list (.own (qaw he0 hx1)) .nil) (.list (.own CH.set_same) .nil) (by rfl) (by rfl) hA'.u10 fun c3 hc3 => ?_
  have hu1 : (H₇.set e0 (.list [])) ul = some (.list ((qaa N ov j).map intN)) := qaw he0 hu1
  have Z := Z.more (H' := H₇.set e0 (.list [])) fun y hy => CH.set_ne (qan hy he0)
  clear he0 hx1
  generalize H₇.set e0 (.list []) = H₇ at *
  refine ⟨_, rfl, fun q => (by exact absurd rfl (hc3.mp q)), fun _ => ?_⟩
  clear hc3
  repeat walk_at "x"
  refine EV_g B g_reduce ?_
  repeat walk_at "x"
  refine EV_g B g_join ?_
  repeat walk_at "x"
  refine EV_lc ?_
  repeat walk_at "x"
  refine LC_all (qaa N ov j) intN (fun k => V.ref (ra k)) (qce hA'.handled hu1) hu1 (by omega) (fun k hk LC hLC => ?_) fun rl hrl hrl0 => ?_
  ·repeat walk_at "x"
   refine ⟨rfl, rfl, fun _ => ?_⟩
   repeat walk_at "x"
   refine qab (c := L + 4) (by with_unfolding_all rfl) (Z.get F.c4) ?_
   repeat walk_at "x"
   refine qau (Z.get hr1) (by refine rE (hr3 k (hkN k hk)) (rE (if_pos (hkd k hk)) rfl)) ?_
   exact ⟨rfl, rfl⟩
  have hr1' : (H₇.set rl (.list ((qaa N ov j).map fun k => V.ref (ra k)))) rl = some (.list ((qaa N ov j).map fun k => V.ref (ra k))) := CH.set_same
  have Z := Z.more (H' := H₇.set rl (.list ((qaa N ov j).map fun k => V.ref (ra k)))) fun y hy => CH.set_ne (qan hy hrl)
  clear hrl hrl0 hu1
  generalize H₇.set rl (.list ((qaa N ov j).map fun k => V.ref (ra k))) = H₇ at *
  repeat walk_at "x"
  refine qby ?_
  repeat walk_at "x"
  refine ⟨by show 1 ≤ sizeLine; decide, fun e0 he0 => ?_⟩
  repeat walk_at "x"
  have hlk : ∀ k ∈ qaa N ov j, ((bs k).length : Int) = wt N ov k := fun k hk => (F.at_ k (hkN k hk) (hkd k hk)).2
  have hfw := flat_wt W hjN hlk
  have hwj := wt_le W j hjN
  have me0 := Z.new he0
  have nf1 := Z.ru.nofoot he0
  have nf2 := Z.rd.nofoot he0
  have Z := Z.more (H' := H₇.set e0 (.list [.int 0])) fun y hy => CH.set_ne (qan hy he0)
  have hr2' : (H₇.set e0 (.list [.int 0])) rl = some (.list ((qaa N ov j).map fun k => V.ref (ra k))) := qaw he0 hr1'
  have he1 : (H₇.set e0 (.list [.int 0])) e0 = some (.list [.int 0]) := CH.set_same
  have hre : rl ≠ e0 := qan (sn hr1') he0
  clear he0 hr1'
  generalize H₇.set e0 (.list [.int 0]) = H₇ at *
  refine ⟨KP_K B (by with_unfolding_all rfl), CV_of ((spec_reduce (by exact B) (n := n + 10) hA' hr2' (.inr (.inr (.inl ⟨e0, _, rfl, he1⟩))) (LwR H₇ e0 bb bs (qaa N ov j)) ⟨rfl, [], he1, .nil, .nil, fun c _ _ => rfl⟩ (fun env H'' => KP_K (by exact B) (by with_unfolding_all rfl)) ?_ ?_).mono ?_)⟩
  ·rintro t v x H'' env hAA ⟨rfl, bs', g1, g2, g3, g4⟩ hx
   rw [List.getElem?_map] at hx
   refine eEA (Option.map_eq_some_iff.mp hx) fun k hk zz2 => ?_; subst zz2
   have hkm := List.mem_of_getElem? hk
   refine eAA (F.row k (hkN k hkm) (hkd k hkm)) fun q1 q2 q3 => ?_
   have hke : ra k ≠ e0 := ne_at q1 me0
   have q4 := (g4 (ra k) (sn (Z.get q1)) hke).trans (Z.get q1)
   have e1 : ((qaa N ov j).take (t + 1)).map bs = ((qaa N ov j).take t).map bs ++ [bs k] := by
    refine rE List.take_add_one (rE hk (rE List.map_append ?_)); rfl
   have e2 : (((qaa N ov j).take (t + 1)).map bb).sum = (((qaa N ov j).take t).map bb).sum + bb k := by
    refine rE List.take_add_one (rE hk (rE List.map_append (rE List.sum_append ?_))); simp
   have hlen : bs'.length + (bs k).length ≤ 500 := by
    have h1 := @flat_take bs (qaa N ov j) (t + 1)
    rw [e1, List.flatten_append, List.length_append] at h1
    have h2 := g2.length_eq
    simp at h1
    simp at h2
    simp at hfw
    lia
   refine (spec_join (by exact B) (n := n + 7) hAA g1 q4 (Ne.symm hke) g3 hlen).mono ?_
   rintro v H3 ⟨rfl, bs'', j1, j2, j3, j4⟩
   refine ⟨rfl, bs'', by refine rE e2 ?_; exact j3, ?_, j2, fun c h1 h2 => ?_⟩
   ·refine rE e1 (rE List.flatten_append ?_)
    refine j1.trans ?_
    refine rE List.flatten_cons (rE List.flatten_nil (rE (List.append_nil ..) ?_))
    exact g2.append_right _
   ·have := g4 c h1 h2
    exact (j4 c (by refine rE this ?_; exact h1) h2).trans this
  ·rintro t v H'' ⟨rfl, bs', g1, g2, g3, g4⟩
   exact (g4 rl (sn hr2') hre).trans hr2'
  rintro v H₈ ⟨rfl, fl, g1, g2, g3, g4⟩
  rw [List.length_map, List.take_length] at g1 g2
  have Z := Z.side me0 nf1 nf2 g4
  clear g4 hr2' he1 hre
  have hfl := g2.length_eq
  repeat walk_at "x"
  refine EV_g B g_insL ?_
  repeat walk_at "x"
  refine qab (c := L + 1) (by with_unfolding_all rfl) (Z.get F.c1) ?_
  repeat walk_at "x"
  refine qab (c := L + 2) (by with_unfolding_all rfl) (Z.get hcj) ?_
  repeat walk_at "x"
  refine qag (v := .int (sc j)) (hls _ rfl) (Int.natCast_nonneg _) (qai hjN) (szR hN') ?_
  repeat walk_at "x"
  obtain ⟨c1, bs1, cut1, eq1, perm1, srt1⟩ := ins_lt (b := ((qaa N ov j).map bb).sum) (x := sc j) g3
  refine ⟨KP_K B (by with_unfolding_all rfl), CV_of ((spec_insL (lo := 1) (by exact B) (n := n + 9) hA' g1 (by refine rE List.length_cons ?_; lia) cut1).mono ?_)⟩
  rintro v H₉ ⟨rfl, rfl⟩
  refine rE eq1 ?_
  have g1 : (H₈.set e0 (.list ((((qaa N ov j).map bb).sum :: bs1).map .int))) e0 = some (.list ((((qaa N ov j).map bb).sum :: bs1).map .int)) := CH.set_same
  have Z := Z.side (H' := H₈.set e0 (.list ((((qaa N ov j).map bb).sum :: bs1).map .int))) me0 nf1 nf2 fun y _ hy => CH.set_ne hy
  generalize H₈.set e0 (.list ((((qaa N ov j).map bb).sum :: bs1).map .int)) = H₈ at *
  have hl1 := perm1.length_eq
  rw [List.length_cons] at hl1
  repeat walk_at "x"
  refine EV_g B g_insR ?_
  repeat walk_at "x"
  refine qab (c := L + 1) (by with_unfolding_all rfl) (Z.get F.c1) ?_
  repeat walk_at "x"
  refine qab (c := L + 2) (by with_unfolding_all rfl) (Z.get hcj) ?_
  repeat walk_at "x"
  refine qag (v := .int (sc j)) (hls _ rfl) (Int.natCast_nonneg _) (qai hjN) (szR hN') ?_
  repeat walk_at "x"
  obtain ⟨c2, bs2, cut2, eq2, perm2, srt2⟩ := ins_le (b := ((qaa N ov j).map bb).sum) (x := sc j) srt1
  refine ⟨KP_K B (by with_unfolding_all rfl), CV_of ((spec_insR (lo := 1) (by exact B) (n := n + 9) hA' g1 (by refine rE List.length_cons ?_; lia) cut2).mono ?_)⟩
  rintro v H₉ ⟨rfl, rfl⟩
  refine rE eq2 ?_
  have hl2 := perm2.length_eq
  rw [List.length_cons] at hl2
  refine eEE (snoc_of (l := bs2) (fun e => by rw [e] at hl2; simp at hl2)) fun bl Mj e2 => ?_
  refine eA (row_made (bb := bb) W hjN hlk g2 perm1 perm2 srt2 e2) fun hRow hRl => ?_
  have e3 : (((qaa N ov j).map bb).sum :: bs2).map V.int = (((qaa N ov j).map bb).sum :: bl).map V.int ++ [.int Mj] := by
   refine rE e2 (rF List.cons_append (rE List.map_append ?_)); rfl
  refine rE e3 ?_
  have g1 : (H₈.set e0 (.list ((((qaa N ov j).map bb).sum :: bl).map V.int ++ [.int Mj]))) e0 = some (.list ((((qaa N ov j).map bb).sum :: bl).map V.int ++ [.int Mj])) := CH.set_same
  have Z := Z.side (H' := H₈.set e0 (.list ((((qaa N ov j).map bb).sum :: bl).map V.int ++ [.int Mj]))) me0 nf1 nf2 fun y _ hy => CH.set_ne hy
  generalize H₈.set e0 (.list ((((qaa N ov j).map bb).sum :: bl).map V.int ++ [.int Mj])) = H₈ at *
  have hbl : bl.length ≤ 100 := by lia
  repeat walk_at "x"
  refine qa8 (.own g1) PySem.F.slot_list_pop PySem.F.type_list_pop ?_
  repeat walk_at "x"
  refine ⟨qad, CV_pop g1 (by refine rE (List.length_map ..) (rE List.length_cons ?_); lia) ?_⟩
  have g1 : (H₈.set e0 (.list ((((qaa N ov j).map bb).sum :: bl).map V.int))) e0 = some (.list ((((qaa N ov j).map bb).sum :: bl).map V.int)) := CH.set_same
  have Z := Z.side (H' := H₈.set e0 (.list ((((qaa N ov j).map bb).sum :: bl).map V.int))) me0 nf1 nf2 fun y _ hy => CH.set_ne hy
  generalize H₈.set e0 (.list ((((qaa N ov j).map bb).sum :: bl).map V.int)) = H₈ at *
  repeat walk_at "x"
  refine ES_aug_sub ?_
  repeat walk_at "x"
  refine get_list (.own g1) (by decide) rfl (szC (Nat.le_trans hbl (by decide))) ?_
  repeat walk_at "x"
  refine qab (c := L + 1) (by with_unfolding_all rfl) (Z.get F.c1) ?_
  repeat walk_at "x"
  refine qab (c := L + 2) (by with_unfolding_all rfl) (Z.get hcj) ?_
  repeat walk_at "x"
  refine qag (v := .int (sc j)) (hls _ rfl) (Int.natCast_nonneg _) (qai hjN) (szR hN') ?_
  repeat walk_at "x"
  refine set_list g1 (by decide) (by exact Int.ofNat_succ_pos (List.map Mine.V.int bl).length) (szC (Nat.le_trans hbl (by decide))) ?_
  have g1 : (H₈.set e0 (.list (((((qaa N ov j).map bb).sum :: bl).map V.int).set (0 : Int).toNat (.int (((qaa N ov j).map bb).sum + (Mj - sc j)))))) e0 = some (.list (((((qaa N ov j).map bb).sum + (Mj - sc j)) :: bl).map V.int)) := CH.set_same
  have Z := Z.side (H' := H₈.set e0 (.list (((((qaa N ov j).map bb).sum :: bl).map V.int).set (0 : Int).toNat (.int (((qaa N ov j).map bb).sum + (Mj - sc j)))))) me0 nf1 nf2 fun y _ hy => CH.set_ne hy
  generalize (H₈.set e0 (.list (((((qaa N ov j).map bb).sum :: bl).map V.int).set (0 : Int).toNat (.int (((qaa N ov j).map bb).sum + (Mj - sc j)))))) = H₈ at *
  repeat walk_at "x"
  refine qab (c := L + 4) (by with_unfolding_all rfl) (Z.get F.c4) ?_
  repeat walk_at "x"
  refine qab (c := L + 2) (by with_unfolding_all rfl) (Z.get hcj) ?_
  repeat walk_at "x"
  have hew : e0 ≠ wl := ne_at me0 F.wl_
  have heo : e0 ≠ lo := ne_at me0 F.ov_
  have Z := Z.put g1 nf1 nf2
  have F := F.fresh (c := .list (((((qaa N ov j).map bb).sum + (Mj - sc j)) :: bl).map V.int)) me0
  have hr1 : (M.set e0 (.list (((((qaa N ov j).map bb).sum + (Mj - sc j)) :: bl).map V.int))) rd = some (.dict kvs ep) := qaw me0 hr1
  have hcj : (M.set e0 (.list (((((qaa N ov j).map bb).sum + (Mj - sc j)) :: bl).map V.int))) (L + 2) = some (.cell (some (.int (j : Int)))) := qaw me0 hcj
  have ge : (M.set e0 (.list (((((qaa N ov j).map bb).sum + (Mj - sc j)) :: bl).map V.int))) e0 = some (.list (((((qaa N ov j).map bb).sum + (Mj - sc j)) :: bl).map V.int)) := CH.set_same
  clear me0 nf1 nf2 g1
  generalize (M.set e0 (.list (((((qaa N ov j).map bb).sum + (Mj - sc j)) :: bl).map V.int))) = M at *
  refine qck (Z.get hr1) (by lia) fun ep' => ?_
  have Z := Z.set (x := rd) (c := .dict (putI kvs (j : Int) (.ref e0)) ep') (.inl (by refine rE hr1 ?_; simp))
  have hj4 : L + 2 ≠ rd := ne_at hcj hr1
  have F := F.addRow (ep' := ep') hjd ge hew heo hr1 hr2 hr3 (fun k hk hkd c hc => Rn.ddep _ hkd _ (hnU.mpr ⟨c, k, rfl, rfl, hc⟩)) hRow hRl
  have hcj : (M.set rd (.dict (putI kvs (j : Int) (.ref e0)) ep')) (L + 2) = some (.cell (some (.int (j : Int)))) := at_ne hj4 hcj
  clear hr1 hr2 hr3 hew heo hj4 ge
  generalize (M.set rd (.dict (putI kvs (j : Int) (.ref e0)) ep')) = M at *
  generalize (H₈.set rd (.dict (putI kvs (j : Int) (.ref e0)) ep')) = H₈ at *
  repeat walk_at "x"
  refine qa4 (f := a_done) B Z.ru.top Z.ru.dict rfl ?_
  repeat walk_at "x"
  refine qab (c := L + 2) (by with_unfolding_all rfl) (Z.get hcj) ?_
  repeat walk_at "x"
  have hTsl : ∀ k, (T.sc k).length ≤ 1000 := fun k => by
   refine rE hTs ?_
   have := hLU.sc k
   lia
  refine ⟨KP_K B (by with_unfolding_all rfl), CV_of ((spec_done (M := 1000) (ns := [(j : Int)]) (by exact B) (n := n + 10) hA' Z.ru Rn.rdy ?_ ?_ hTsl (by simp; decide) (by simp; exact Nat.one_le_of_lt hz)).mono ?_)⟩
  ·intro i k hk
   cases i with
   | zero =>
    obtain rfl : (j : Int) = k := by simpa using hk
    exact ⟨Rn.oks _ hjo, Rn.npo _ hjo⟩
   | succ i => simp at hk
  ·intro k hk x hx
   rw [hTk] at hk ⊢
   rw [hTs] at hx
   exact (scU k hk x hx).1
  rintro v H₉ ⟨rfl, R9, F9⟩
  have Z := Z.stepU R9 F9
  refine eE (Rn.done hjo) fun ready' Rn' => ?_
  repeat walk_at "x"
  refine (hRR _ _ (.cons rfl (.cons rfl (.cons rfl (.cons rfl .nil)))) ⟨_, _, _, _, _, _, _, _, _, Z, Rn', ?_, ?_, ?_, F⟩).1
  ·exact (doneN_eq (ks := [(j : Int)]) (T := T)).1.trans hTk
  ·exact (done1_eq (T := T)).2.2.2.trans hTs
  ·refine rE List.length_cons (rE hdl rfl)
 obtain ⟨T, M, bb, bs, ra, MM, dn, out, ready, Z, Rn, hTk, hTs, hdl, F⟩ := hM
 have hall : ∀ k : Nat, k < N → (k : Int) ∈ dn := fun k hk => Classical.byContradiction fun q => by
  have := qc2 (l := (k : Int) :: dn) (N := N) (List.nodup_cons.mpr ⟨q, Rn.dnd⟩) fun x hx => by
   rcases List.mem_cons.mp hx with rfl | hx
   ·exact ⟨k, rfl, hk⟩
   ·exact hkU.mp (by refine rF hTk ?_; exact Rn.dks x hx)
  rw [List.length_cons] at this
  lia
 have hout : out = [] := List.eq_nil_iff_forall_not_mem.mpr fun x hx => by
  refine eEA (hkU.mp (by rw [← hTk]; exact Rn.oks x hx)) fun k zz1 hk => ?_; subst zz1
  exact Rn.disj _ hx (hall k hk)
 have hrdy : ready = [] := List.eq_nil_iff_forall_not_mem.mpr fun x hx => by
  refine eAA ((Rn.rmem x).mp hx) fun h1 h2 _ => ?_
  refine eEA (hkU.mp (by rw [← hTk]; exact h1)) fun k zz1 hk => ?_; subst zz1
  exact h2 (hall k hk)
 subst hout hrdy
 refine qam (st := .If _ _ _ _) (ES_if (EB_or3 ?_))
 repeat walk_at "x"
 refine qby ?_
 repeat walk_at "x"
 refine ⟨by decide, fun e0 he0 => ?_⟩
 repeat walk_at "x"
 refine O2_ned (.list (.own (qaw he0 (Z.get F.wl_))) dr_ints) (.list (.own CH.set_same) .nil) ints_ok (by rfl) hA'.u10 fun c3 hc3 => ?_
 have Z := Z.more (H' := H₆.set e0 (.list [])) fun y hy => CH.set_ne (qan hy he0)
 clear he0
 generalize H₆.set e0 (.list []) = H₆ at *
 refine ⟨_, rfl, fun q => (by exact absurd rfl (hc3.mp q)), fun _ => ?_⟩
 clear hc3
 repeat walk_at "x"
 refine qa4 (f := qcq) B Z.ru.top Z.ru.dict rfl ?_
 repeat walk_at "x"
 refine ⟨KP_K B (by with_unfolding_all rfl), CV_of ((qb9 (by exact B) (n := n + 10) hA' Z.ru Rn.rdy (by intro k hk; cases hk) (by simp)).mono ?_)⟩
 rintro v H₇ ⟨rfl, R7, F7⟩
 have Z := Z.stepU R7 F7
 have Rn := Rn.get
 clear R7 F7
 generalize T.getReady [] = T at *
 rw [List.nil_append] at Rn
 repeat walk_at "x"
 refine ⟨by decide, ?_⟩
 refine O2_ned (.tup .nil) (.tup .nil) (by rfl) (by rfl) hA'.u10 fun c3 hc3 => ?_
 refine ⟨_, rfl, fun q => (by exact absurd rfl (hc3.mp q)), fun _ => ?_⟩
 clear hc3
 repeat walk_at "x"
 refine qa4 (f := a_isactive) B Z.ru.top Z.ru.dict rfl ?_
 repeat walk_at "x"
 refine ⟨KP_K B (by with_unfolding_all rfl), CV_of ((qcx (by exact B) (n := n + 10) hA' Z.ru Rn.rdy (by simp)).mono ?_)⟩
 rintro v H₈ ⟨rfl, rfl⟩
 refine OB_bool ⟨fun hb => ?_, fun _ => ?_⟩
 ·rw [Rn.pass, Rn.fin] at hb
  simp at hb
 repeat walk_at "x"
 refine EV_b B g_sorted b_sorted ?_
 repeat walk_at "x"
 refine EV_sc (ds := [-1, 0, 1]) (f := fun x d => x + d) hA'.handled ?_
 refine qab (c := L + 1) (by with_unfolding_all rfl) (Z.get F.c1) ?_
 refine ⟨(List.range N).map sc, (fun _ => True), by refine rE sc_map ?_; exact seq_base hA'.handled hl hv, trivial, by refine rE (List.length_map ..) (rE List.length_range ?_); show N * 3 + 3 + 1 < scanBound; unfold scanBound; lia, ⟨fun x hx LC hLC => ?_⟩, fun D o hD hD0 hS => ?_⟩
 ·repeat walk_at "x"
  refine ⟨rfl, ?_⟩
  repeat walk_at "x"
  refine qcr ?_
  repeat walk_at "x"
  refine ⟨by show 3 ≤ sizeLine; decide, ?_⟩
  refine ⟨rfl, rfl, fun d hd => ?_⟩
  repeat walk_at "x"
  refine ⟨rfl, ?_⟩
  repeat walk_at "x"
  exact ⟨rfl, rfl, .cons rfl .nil⟩
 have hnd : (iadds [] (allOf ((List.range N).map sc) [-1, 0, 1] fun x d => x + d)).Nodup := iadds_nodup .nil
 have hil : (iadds [] (allOf ((List.range N).map sc) [-1, 0, 1] fun x d => x + d)).length ≤ 1000 := by
  have h1 := @qc4 (allOf ((List.range N).map sc) [-1, 0, 1] fun x d => x + d) []
  have h2 : ∀ l : List Int, (allOf l [-1, 0, 1] fun x d => x + d).length = l.length * 3 := fun l => by
   induction l with
   | nil => rfl
   | cons a l ih => refine rE (show allOf (a :: l) [-1, 0, 1] (fun x d => x + d) = [-1, 0, 1].map (fun d => a + d) ++ allOf l [-1, 0, 1] (fun x d => x + d) from rfl) (rE List.length_append (rE ih (rE List.length_cons ?_))); simp; lia
  rw [h2, List.length_map, List.length_range] at h1
  simp at h1
  lia
 have him : ∀ k, k < N → ∀ d : Int, d = -1 ∨ d = 0 ∨ d = 1 → sc k + d ∈ iadds [] (allOf ((List.range N).map sc) [-1, 0, 1] fun x d => x + d) := fun k hk d hd => iadds_mem.mpr (.inr (List.mem_flatMap.mpr ⟨sc k, List.mem_map.mpr ⟨k, List.mem_range.mpr hk, rfl⟩, List.mem_map.mpr ⟨d, by simpa using hd, rfl⟩⟩))
 have hD1 : (H₈.set D (.raw o)) D = some (.raw o) := CH.set_same
 have Z := Z.more (H' := H₈.set D (.raw o)) fun y hy => CH.set_ne (qan hy hD)
 generalize H₈.set D (.raw o) = H₈ at *
 repeat walk_at "x"
 refine ⟨qad, CV_sorted_set hA'.handled hD1 hS hnd (by unfold scanBound; lia) fun lm ms hlm hlm0 hperm hsrt => ?_⟩
 have K : Marks N sc (fun i => ms.getD i 0) ms.length := marks_of hsrt fun k hk d hd => hperm.mem_iff.mpr (him k hk d hd)
 have hml : ms.length ≤ 1000 := by refine rE hperm.length_eq ?_; exact hil
 have hm10 : ms.length ≤ 2 ^ 10 := Nat.le_trans hml (by decide)
 clear hnd hil him hS hD hD0 hD1 hperm
 have n5 := Z.new hlm
 have Z := Z.set (x := lm) (c := .list (ms.map .int)) (.inr hlm)
 have F := F.fresh (c := .list (ms.map .int)) n5
 have hm : (M.set lm (.list (ms.map .int))) lm = some (.list (ms.map .int)) := CH.set_same
 clear n5 hlm hlm0
 generalize H₈.set lm (.list (ms.map .int)) = H₉ at *
 generalize M.set lm (.list (ms.map .int)) = M at *
 refine eE F.c5 fun w5 hw5 => ?_
 refine qbb (c := L + 5) (by with_unfolding_all rfl) (Z.get hw5) ?_
 have Z := Z.set (x := L + 5) (c := .cell (some (.ref lm))) (.inl (by refine rE hw5 ?_; simp))
 have hm5 : (M.set (L + 5) (.cell (some (.ref lm)))) (L + 5) = some (.cell (some (.ref lm))) := CH.set_same
 have hm : (M.set (L + 5) (.cell (some (.ref lm)))) lm = some (.list (ms.map .int)) := at_ne (ne_at hm hw5) hm
 have F := F.setC (w := some (.ref lm)) ⟨w5, hw5⟩ (by decide) (by decide) (by decide)
 clear hw5 w5
 generalize H₉.set (L + 5) (.cell (some (.ref lm))) = H₉ at *
 generalize M.set (L + 5) (.cell (some (.ref lm))) = M at *
 refine SeqE.n ?_
 obtain ⟨pl, hpl⟩ : ∃ pl : Nat → Nat, ∀ k, k < N → PlAt (fun i => ms.getD i 0) ms.length (sc k) (pl k) :=
  ⟨fun k => if h : k < N then (K.has k h).choose else 0, fun k hk => by simp only [hk, dif_pos]; have := (K.has k hk).choose_spec; exact ⟨this.1, this.2.1, this.2.2.1, this.2.2.2.1, this.2.2.2.2⟩⟩
 refine qam (st := .Assign _ _ _) (qbw ?_)
 refine qab (c := L + 1) (by with_unfolding_all rfl) (Z.get F.c1) ?_
 refine LC_all (List.range N) (fun k => V.int (sc k)) (fun k => V.int (pl k)) (seq_base hA'.handled hl hv) trivial hrz (fun k hk LC hLC => ?_) fun lp hlp hlp0 => ?_
 ·have hkN := List.mem_range.mp hk
  obtain ⟨p1, p2, p3, p4, p5⟩ := hpl k hkN
  repeat walk_at "x"
  refine ⟨rfl, rfl, fun _ => ?_⟩
  repeat walk_at "x"
  refine qab (c := L + 5) (by with_unfolding_all rfl) (Z.get hm5) ?_
  repeat walk_at "x"
  refine qa8 (.own (Z.get hm)) PySem.F.slot_list_index PySem.F.type_list_index ?_
  repeat walk_at "x"
  have hpm : ms[pl k]? = some (sc k) := by
   rw [List.getD_eq_getElem?_getD, List.getElem?_eq_getElem (by lia)] at p3
   refine rE (List.getElem?_eq_getElem (by omega)) ?_
   exact congrArg some p3
  refine ⟨qad, CV_index (.own (Z.get hm)) (by lia) hpm (fun i hi e => ?_) ⟨rfl, rfl⟩⟩
  have := qbf hsrt hi (by exact PyProof.Rows.place_lt hpm)
  rw [p3, List.getD_eq_getElem?_getD, e] at this
  simp at this
 have n6 := Z.new hlp
 have Z := Z.set (x := lp) (c := .list ((List.range N).map fun k => V.int (pl k))) (.inr hlp)
 have F := F.fresh (c := .list ((List.range N).map fun k => V.int (pl k))) n6
 have hm5 : (M.set lp (.list ((List.range N).map fun k => V.int (pl k)))) (L + 5) = some (.cell (some (.ref lm))) := qaw n6 hm5
 have hm : (M.set lp (.list ((List.range N).map fun k => V.int (pl k)))) lm = some (.list (ms.map .int)) := qaw n6 hm
 have hp : (M.set lp (.list ((List.range N).map fun k => V.int (pl k)))) lp = some (.list ((List.range N).map fun k => V.int (pl k))) := CH.set_same
 clear n6 hlp hlp0
 generalize H₉.set lp (.list ((List.range N).map fun k => V.int (pl k))) = H₉ at *
 generalize M.set lp (.list ((List.range N).map fun k => V.int (pl k))) = M at *
 refine SeqE.n ?_
 repeat walk_at "x"
 refine EV_g B g_tables ?_
 repeat walk_at "x"
 refine qab (c := L + 1) (by with_unfolding_all rfl) (Z.get F.c1) ?_
 repeat walk_at "x"
 refine qab (c := L + 3) (by with_unfolding_all rfl) (Z.get F.c3) ?_
 repeat walk_at "x"
 refine qab (c := L + 5) (by with_unfolding_all rfl) (Z.get hm5) ?_
 repeat walk_at "x"
 have hm' := Z.get hm
 rw [ms_map] at hm'
 refine ⟨KP_K B (by with_unfolding_all rfl), CV_of ((spec_tables W hN' hm10 (by exact B) (d := n + 7) hA' (fun H' => hls H' rfl) (Z.get F.ov_) hm').mono ?_)⟩
 rintro v H₁₀ ⟨td, tkv, tep, ta, T12, rfl, htd, htd1, hta, hk10⟩
 clear hm'
 have ntd := And.intro (Z.ru.nofoot htd) (Z.rd.nofoot htd)
 have Z := Z.more hk10
 have nta : ∀ j, j < N → ¬ Foot a T LU4 (ta j) ∧ ¬ Foot b TD0.prep LD5 (ta j) := fun j hj => by
  have h1 := (hpl j hj).lt
  have h2 := (hta j hj).2.1
  rw [show ms.length = (ms.length - 1) + 1 from by lia, List.range_succ_eq_map, List.map_cons] at h2
  exact ⟨Z.ru.nofoot_list h2, Z.rd.nofoot_list h2⟩
 refine eEA Z.all fun M' Z' hal => ?_
 have kM : ∀ x c, M x = some c → M' x = some c := fun x c e => hal x c (Z.get e) (Z.fr x c e).2.1 (Z.fr x c e).2.2
 have Z := Z'
 have F := F.keep kM
 have hm5 := kM _ _ hm5
 have hm := kM _ _ hm
 have hp := kM _ _ hp
 have htd2 := hal _ _ htd1 ntd.1 ntd.2
 have hta2 : ∀ j, j < N → tkv.lookup (j : Int) = some (.ref (ta j)) ∧ M' (ta j) = some (.list ((List.range ms.length).map fun i => pv (T12 j i))) := fun j hj => ⟨(hta j hj).1, hal _ _ (hta j hj).2.1 (nta j hj).1 (nta j hj).2⟩
 have hTA : ∀ j, j < N → TabAt N ov sc (fun i => ms.getD i 0) ms.length T12 j := fun j hj => (hta j hj).2.2
 clear hta htd htd1 hk10 ntd nta hal kM Z'
 refine eE F.c6 fun w6 hw6 => ?_
 refine qbb (c := L + 6) (by with_unfolding_all rfl) (Z.get hw6) ?_
 have Z := Z.set (x := L + 6) (c := .cell (some (.ref td))) (.inl (by refine rE hw6 ?_; simp))
 have k6 : ∀ {x c}, M' x = some c → (∀ v, c ≠ .cell v) → (M'.set (L + 6) (.cell (some (.ref td)))) x = some c := fun {x c} e h => at_ne (fun q => by rw [q, hw6] at e; cases e; exact h _ rfl) e
 have hm5 : (M'.set (L + 6) (.cell (some (.ref td)))) (L + 5) = some (.cell (some (.ref lm))) := at_ne (ne (by decide)) hm5
 have hm6 : (M'.set (L + 6) (.cell (some (.ref td)))) (L + 6) = some (.cell (some (.ref td))) := CH.set_same
 have hm := k6 hm (fun _ => by (intro h; injection h))
 have hp := k6 hp (fun _ => by (intro h; injection h))
 have htd2 := k6 htd2 (fun _ => by (intro h; injection h))
 have hta2 : ∀ j, j < N → tkv.lookup (j : Int) = some (.ref (ta j)) ∧ (M'.set (L + 6) (.cell (some (.ref td)))) (ta j) = some (.list ((List.range ms.length).map fun i => pv (T12 j i))) := fun j hj => ⟨(hta2 j hj).1, k6 (hta2 j hj).2 (fun _ => by (intro h; injection h))⟩
 have F := F.setC (w := some (.ref td)) ⟨w6, hw6⟩ (by decide) (by decide) (by decide)
 clear hw6 w6 k6
 generalize H₁₀.set (L + 6) (.cell (some (.ref td))) = H₁₀ at *
 generalize M'.set (L + 6) (.cell (some (.ref td))) = M at *
 refine SeqE.n ?_
 have hR : ∀ j, j < N → RowAt N ov sc bb bs j (MM j) := fun j hj => (F.at_ j hj (hall j hj)).1
 refine eA (rows_last W hR) fun hne hin => ?_
 obtain ⟨la, hla⟩ : ∃ la : Nat → Int, ∀ j, j < N → ∃ l', bs j = l' ++ [la j] := ⟨fun j => if h : j < N then (snoc_of (hne j h)).choose_spec.choose else 0, fun j hj => by simp only [hj, dif_pos]; exact ⟨_, (snoc_of (hne j hj)).choose_spec.choose_spec⟩⟩
 have hla2 : ∀ j, j < N → la j ∈ bs j ∧ ∀ t ∈ bs j, t ≤ la j := fun j hj => by
  refine eE (hla j hj) fun l' e => ?_
  have := (hR j hj).srt
  rw [e] at this ⊢
  exact ⟨by exact List.mem_concat_self, last_ge this⟩
 have hNd : ∀ j, j < N → NodeOk N ms.length ov sc bb (fun i => ms.getD i 0) la bs T12 j := fun j hj => node_ok W hR K hla2 hin hTA _ j rfl hj
 have hbl : ∀ j, j < N → (bs j).length ≤ 63 := fun j hj => by
  have h1 := (F.at_ j hj (hall j hj)).2
  have h2 := wt_le W j hj
  lia
 refine EX_forN (N := N) (f := intN) (J := fun _ => LwK a b L T TD0.prep LU4 LD5 M) (m0 := mB N lp wl a b) ?_ (fun j hjN H' hJ RR hRR => ?_) fun H₁₂ hM => ?_
 ·repeat walk_at "x"
  refine EV_b B qbp qbr ?_
  repeat walk_at "x"
  refine ⟨qa3, qba ?_⟩
  refine eE F.c2 fun v2 hv2 => ?_
  exact ⟨seqN hA'.handled hN62, .cons rfl (.cons rfl (.cons rfl (.cons rfl (.cons rfl .nil)))), ⟨v2, by refine rE (CH.set_self hv2) ?_; exact Z⟩⟩
 ·clear Z
  obtain ⟨v, Z⟩ := hJ
  refine ASG_ss (x := L + 2) (by with_unfolding_all rfl) Z fun H' Z => ?_
  have F1 := F.setJ (v := some (intN j))
  have hcj : (M.set (L + 2) (.cell (some (intN j)))) (L + 2) = some (.cell (some (.int (j : Nat)))) := CH.set_same
  have f2 := F.c2
  obtain ⟨kvs, ep, hr1, hr2, hr3⟩ := F1.rows
  refine eA (hta2 j hjN) fun hj1 hj2 => ?_
  have hj2 := at_j (v := none) (w := some (intN j)) f2 hj2 (fun _ => by (intro h; injection h))
  have htd3 := at_j (v := none) (w := some (intN j)) f2 htd2 (fun _ => by (intro h; injection h))
  have hp3 := at_j (v := none) (w := some (intN j)) f2 hp (fun _ => by (intro h; injection h))
  have hm63 : (M.set (L + 2) (.cell (some (intN j)))) (L + 6) = some (.cell (some (.ref td))) := at_ne (ne (by decide)) hm6
  refine eAA (F1.row j hjN (hall j hjN)) fun hrow _ _ => ?_
  have hmp : 0 < ms.length := by have := (hpl j hjN).lt; lia
  have hcost := (hNd j hjN).cost
  repeat walk_at "x"
  refine ES_swap2 (x := "row") (y := "table") hA'.handled ?_
  repeat walk_at "x"
  refine qab (c := L + 4) (by with_unfolding_all rfl) (Z.get F1.c4) ?_
  repeat walk_at "x"
  refine qab (c := L + 2) (by with_unfolding_all rfl) (Z.get hcj) ?_
  repeat walk_at "x"
  refine qau (Z.get hr1) (by refine rE (hr3 j hjN) (rE (if_pos (hall j hjN)) rfl)) ?_
  repeat walk_at "x"
  refine qab (c := L + 6) (by with_unfolding_all rfl) (Z.get hm63) ?_
  repeat walk_at "x"
  refine qab (c := L + 2) (by with_unfolding_all rfl) (Z.get hcj) ?_
  repeat walk_at "x"
  refine qau (Z.get htd3) hj1 ?_
  repeat walk_at "x"
  refine ⟨by show 2 ≤ sizeLine; decide, ?_⟩
  refine ⟨_, _, rfl, ?_⟩
  refine SeqE.n ?_
  walk_at "xi"
  refine qag (v := .int (bb j)) (.own (Z.get hrow)) (by decide) rfl (szC (Nat.le_trans (hbl j hjN) (by decide))) ?_
  repeat walk_at "x"
  refine qcr ?_
  repeat walk_at "x"
  refine qa5 (v := pv (T12 j (ms.length - 1))) (.own (Z.get hj2)) (by decide) (len_le hmp) (get_last hmp) (szR hm10) ?_
  repeat walk_at "x"
  refine qb8 (v := .int (T12 j (ms.length - 1)).1) (by decide) rfl (by show 2 ≤ sizeLine; decide) ?_
  repeat walk_at "x"
  have e0 : bb j = (T12 j (ms.length - 1)).1 := by
   refine rE (hcost _ (by exact Nat.sub_one_lt_of_lt hmp)) ?_
   refine (qc7 fun t ht => ?_).symm
   refine eEA (hin j hjN t ht) fun k hk zz2 => ?_; subst zz2
   obtain ⟨p1, p2, p3, _, _⟩ := hpl k hk
   have := qbf hsrt (show pl k < ms.length - 1 by exact Nat.lt_sub_of_add_lt p2) (by exact Nat.sub_one_lt_of_lt hmp)
   show sc k ≤ ms.getD (ms.length - 1) 0
   lia
  refine ⟨_, rfl, fun q => (by simp [e0] at q), fun _ => ?_⟩
  repeat walk_at "x"
  refine qam (st := .For _ _ _ _ _) (ES_for_zip hA' ?_)
  refine EV_b B g_zip b_zip ⟨rfl, ?_⟩
  repeat walk_at "x"
  refine qab (c := L + 1) (by with_unfolding_all rfl) (Z.get F1.c1) ?_
  repeat walk_at "x"
  refine ⟨l, lp, (List.range N).map sc, (List.range N).map fun k => (pl k : Int), [("row", .ref (ra j)), ("table", .ref (ta j)), ("places", .ref lp), ("waiting", .ref wl), ("down", .ref b), ("up", .ref a), ("count", .int N)], rfl, by refine rE sc_map ?_; exact hls _ rfl, .own (by refine rE List.map_map ?_; exact Z.get hp3), by simp, .cons rfl (.cons rfl (.cons rfl (.cons rfl (.cons rfl (.cons rfl (.cons rfl .nil)))))), qbq .ref (qbq .ref (qbq .ref (qbq .ref (qbq .ref (qbq .ref (qbq .int flat_nil)))))), fun g hAg kg lg k x y hx hy => ?_, ?_⟩
  ·refine eA (map_at hx) fun hkN zz1 => ?_; subst zz1
   refine eA (map_at hy) fun _ zz1 => ?_; subst zz1
   obtain ⟨p1, p2, p3, p4, p5⟩ := hpl k hkN
   have hlr := lg _ _ (.own (Z.get hrow))
   have hlt := lg _ _ (.own (Z.get hj2))
   have hbj := hbl j hjN
   have hbs : ((bb j :: bs j).map V.int).length ≤ sizeLine := szC (Nat.le_trans hbj (by decide))
   have hz0 := hcost (pl k - 1) (by lia)
   have hz1 := hcost (pl k) (by lia)
   have hz2 := hcost (pl k + 1) (by omega)
   simp only [p3, p4, p5] at hz0 hz1 hz2
   have hs1 := @ev_step (bb j) (bs j) (sc k)
   have hs2 := @ev_step (bb j) (bs j) (sc k - 1)
   rw [show sc k - 1 + 1 = sc k from by exact Int.sub_add_cancel (sc k) 1] at hs2
   refine ASG_tuple hAg.handled rfl ?_
   repeat walk_at "x"
   refine ⟨rfl, ?_⟩
   have Bg : Bs g (KK P) mg mb := B.ro kg
   walk_at "xi"
   refine EV_b (by exact Bg) g_len b_len ?_
   repeat walk_at "x"
   refine ⟨qad, qcw hlr hbs ?_⟩
   repeat walk_at "x"
   refine EV_g (by exact Bg) g_bisR ?_
   repeat walk_at "x"
   refine eEA (cut_le (b := bb j) (x := sc k) (hR j hjN).srt) fun c1 cut1 hc1 => ?_
   refine ⟨KP_K (by exact Bg) (by with_unfolding_all rfl), CV_of ((spec_bisR (by exact Bg) (n := n + 10) hAg hlr (by refine rE List.length_cons ?_; lia) cut1 (.three rfl)).mono ?_)⟩
   rintro v H3 ⟨rfl, rfl⟩
   repeat walk_at "x"
   refine qag (v := pv (T12 j (pl k))) hlt (Int.natCast_nonneg _) (qai (by lia)) (szR hm10) ?_
   repeat walk_at "x"
   refine qb8 (v := .int (T12 j (pl k)).1) (by decide) rfl (by show 2 ≤ sizeLine; decide) ?_
   repeat walk_at "x"
   refine rE (show ((pl k : Nat) : Int) + 1 = ((pl k + 1 : Nat) : Int) from by exact Int.ofNat_add_one_out (pl k)) ?_
   refine qag (v := pv (T12 j (pl k + 1))) hlt (Int.natCast_nonneg _) (qai (by omega)) (szR hm10) ?_
   repeat walk_at "x"
   refine qb8 (v := .int (T12 j (pl k + 1)).1) (by decide) rfl (by show 2 ≤ sizeLine; decide) ?_
   repeat walk_at "x"
   refine ⟨_, rfl, fun q => (by exact absurd (by refine rE hc1 (rE hz1 (rE hz2 ?_)); exact hs1.symm) (of_decide_eq_true q)), fun _ => ?_⟩
   repeat walk_at "x"
   walk_at "xi"
   refine EV_b (by exact Bg) g_len b_len ?_
   repeat walk_at "x"
   refine ⟨qad, qcw hlr hbs ?_⟩
   repeat walk_at "x"
   refine EV_g (by exact Bg) g_bisL ?_
   repeat walk_at "x"
   refine eEA (cut_lt (b := bb j) (x := sc k) (hR j hjN).srt) fun c2 cut2 hc2 => ?_
   refine ⟨KP_K (by exact Bg) (by with_unfolding_all rfl), CV_of ((spec_bisL (by exact Bg) (n := n + 10) hAg hlr (by refine rE List.length_cons ?_; lia) cut2 (.three rfl)).mono ?_)⟩
   rintro v H3 ⟨rfl, rfl⟩
   repeat walk_at "x"
   refine rE (show ((pl k : Nat) : Int) - 1 = ((pl k - 1 : Nat) : Int) from by lia) ?_
   refine qag (v := pv (T12 j (pl k - 1))) hlt (Int.natCast_nonneg _) (qai (by lia)) (szR hm10) ?_
   repeat walk_at "x"
   refine qb8 (v := .int (T12 j (pl k - 1)).1) (by decide) rfl (by show 2 ≤ sizeLine; decide) ?_
   repeat walk_at "x"
   refine qag (v := pv (T12 j (pl k))) hlt (Int.natCast_nonneg _) (qai (by lia)) (szR hm10) ?_
   repeat walk_at "x"
   refine qb8 (v := .int (T12 j (pl k)).1) (by decide) rfl (by show 2 ≤ sizeLine; decide) ?_
   repeat walk_at "x"
   refine ⟨_, rfl, fun q => (by exact absurd (by refine rE hc2 (rE hz0 (rE hz1 ?_)); exact hs2.symm) (of_decide_eq_true q)), fun _ => ?_⟩
   repeat walk_at "x"
   exact ⟨rfl, rfl, .cons rfl (.cons rfl (.cons rfl (.cons rfl (.cons rfl (.cons rfl (.cons rfl .nil))))))⟩
  ·repeat walk_at "x"
   exact (hRR _ _ (.cons rfl (.cons rfl (.cons rfl (.cons rfl (.cons rfl .nil))))) ⟨_, Z⟩).1
 obtain ⟨v2, Z⟩ := hM
 have f2 := F.c2
 have F := F.setJ (v := v2)
 have hm6 : (M.set (L + 2) (.cell v2)) (L + 6) = some (.cell (some (.ref td))) := at_ne (ne (by decide)) hm6
 have htd2 := at_j (v := none) (w := v2) f2 htd2 (fun _ => by (intro h; injection h))
 have hta2 : ∀ j, j < N → tkv.lookup (j : Int) = some (.ref (ta j)) ∧ (M.set (L + 2) (.cell v2)) (ta j) = some (.list ((List.range ms.length).map fun i => pv (T12 j i))) := fun j hj => ⟨(hta2 j hj).1, at_j (v := none) (w := v2) f2 (hta2 j hj).2 (fun _ => by (intro h; injection h))⟩
 clear f2 hm hm5 hp
 generalize M.set (L + 2) (.cell v2) = M at *
 repeat walk_at "x"
 refine EV_dict fun vd hvd hvd0 => ?_
 have n7 := Z.new hvd
 have vrd : vd ≠ rd := fun e => by obtain ⟨_, _, h, _⟩ := F.rows; rw [← e, n7] at h; cases h
 have Z := Z.set (x := vd) (c := .dict [] 0) (.inr hvd)
 have F := F.fresh (c := .dict [] 0) n7
 have hm6 := qaw (c := .dict [] 0) n7 hm6
 have vtd : vd ≠ td := ne_at n7 htd2
 have htd2 := qaw (c := .dict [] 0) n7 htd2
 have hta2 : ∀ j, j < N → tkv.lookup (j : Int) = some (.ref (ta j)) ∧ (M.set vd (.dict [] 0)) (ta j) = some (.list ((List.range ms.length).map fun i => pv (T12 j i))) := fun j hj => ⟨(hta2 j hj).1, qaw n7 (hta2 j hj).2⟩
 have hvd1 : (M.set vd (.dict [] 0)) vd = some (.dict [] 0) := CH.set_same
 clear n7 hvd hvd0
 generalize M.set vd (.dict [] 0) = M at *
 refine eE F.c7 fun w7 hw7 => ?_
 refine qbb (c := L + 7) (by with_unfolding_all rfl) (Z.get hw7) ?_
 have Z := Z.set (x := L + 7) (c := .cell (some (.ref vd))) (.inl (by refine rE hw7 ?_; simp))
 have k7 : ∀ {x c}, M x = some c → (∀ v, c ≠ .cell v) → (M.set (L + 7) (.cell (some (.ref vd)))) x = some c := fun {x c} e h => at_ne (fun q => by rw [q, hw7] at e; cases e; exact h _ rfl) e
 have F := F.setC (w := some (.ref vd)) ⟨w7, hw7⟩ (by decide) (by decide) (by decide)
 have htl : ∀ j : Nat, j < N → tkv.lookup (j : Int) = some (.ref (ta j)) := fun j hj => (hta2 j hj).1
 have G : VF L td vd N ov la tkv tep ta (fun j => (List.range ms.length).map fun i => pv (T12 j i)) (fun _ => 0) [] (M.set (L + 7) (.cell (some (.ref vd)))) :=
  ⟨F.c2, at_ne (ne (by decide)) hm6, CH.set_same, k7 htd2 fun _ => by (intro h; injection h), fun j hj => k7 (hta2 j hj).2 fun _ => by (intro h; injection h), ⟨[], 0, k7 hvd1 fun _ => by (intro h; injection h), .nil, fun x => by rfl, fun k => rfl⟩, fun k _ h => (by cases h), vtd⟩
 clear hw7 w7 k7 hm6 htd2 hta2 hvd1 vtd
 generalize M.set (L + 7) (.cell (some (.ref vd))) = M at *
 refine SeqE.n ?_
 refine EX_forN (N := N) (f := fun k => .int (sc k)) (J := LwV N ov sc bb la bs ra MM dn nD T TD0 l lo rd wl td vd lp a b L LU4 LD5 tkv tep ta (fun j => (List.range ms.length).map fun i => pv (T12 j i))) (m0 := mB N lp wl a b) ?_ (fun i hil H' hJ RR hRR => ?_) fun H₁₃ hM => ?_
 ·refine qab (c := L + 1) (by with_unfolding_all rfl) (Z.get F.c1) ?_
  exact ⟨seq_base hA'.handled hl hv, .cons rfl (.cons rfl (.cons rfl (.cons rfl (.cons rfl .nil)))), ⟨_, _, _, _, _, Z, RnD, rfl, rfl, .inr (Nat.zero_le _), F, G⟩⟩
 ·clear Z F G RnD Rn
  obtain ⟨T', M, vv, dv, ready, Z, Rn, hTk', hTs', hdl', F, G⟩ := hJ
  have hrl : ready.length ≤ N := Nat.le_trans (qa7 Rn.rnd fun x hx => by refine rF hTk' ?_; exact ((Rn.rmem x).mp hx).1) klD
  have hend : ready = [] → N ≤ dv.length := fun e => by
   rw [e] at Rn
   have h1 := Rn.all (rk := fun x => x.toNat) fun x hx p hp => by
    refine eEAAA (hnD.mp hp) fun k h1 zz2 zz3 h => ?_; subst zz2; subst zz3
    have := W.up k h1
    show (ov k).toNat < k
    exact (Int.toNat_lt h).mpr this.2
   have h2 := qa7 (l := (List.range N).map fun k : Nat => (k : Int)) (k := dv) (List.pairwise_map.mpr (List.pairwise_lt_range.imp fun {x y} h => by lia)) fun x hx => by
    refine eEA (List.mem_map.mp hx) fun k hk zz2 => ?_; subst zz2
    exact h1 _ (by refine rE hTk' ?_; exact hkD.mpr ⟨k, rfl, List.mem_range.mp hk⟩)
   rw [List.length_map, List.length_range] at h2
   omega
  repeat walk_at "x"
  refine qa4 (f := qcq) B Z.rd.top Z.rd.dict rfl ?_
  repeat walk_at "x"
  refine ⟨KP_K B (by with_unfolding_all rfl), CV_of ((qb9 (by exact B) (n := n + 10) hA' Z.rd Rn.rdy (fun k hk => ((Rn.rmem k).mp hk).1) (by lia)).mono ?_)⟩
  rintro v H₇ ⟨rfl, R7, F7⟩
  have Z := Z.stepD R7 F7
  have Rn7 := Rn.get
  have hTk7 : (T'.getReady ready).keys = TD0.keys := ((@TS.out_eq ready T').1).trans hTk'
  have hTs7 : (T'.getReady ready).sc = TD0.sc := ((@TS.out_eq ready T').2.2.2.2).trans hTs'
  rw [List.nil_append] at Rn7
  clear R7 F7
  generalize T'.getReady ready = T7 at *
  repeat walk_at "x"
  refine qcv (J := fun t => LwW N ov sc bb la bs ra MM dn T T7 l lo rd wl td vd lp a b L LU4 LD5 tkv tep ta (fun j => (List.range ms.length).map fun i => pv (T12 j i)) ((ready.take t).reverse ++ dv)) (l := ready) (f := V.int) (m0 := ("group", .tup (ready.map .int)) :: mB N lp wl a b) ?_ (fun _ _ _ => trivial) (fun t x hxt H' hJ RR hRR => ?_) fun H₉ hM => ?_
  ·repeat walk_at "x"
   exact ⟨seq_tup hA'.handled, .cons rfl (.cons rfl (.cons rfl (.cons rfl (.cons rfl (.cons rfl .nil))))), ⟨_, _, Z, F, G⟩⟩
  ·clear Z F G
   obtain ⟨M, vv, Z, F, G⟩ := hJ
   have hxr := List.mem_of_getElem? hxt
   refine eAAA ((Rn.rmem x).mp hxr) fun q1 q2 _ q4 => ?_
   refine eEA (hkD.mp (by rw [← hTk']; exact q1)) fun j zz1 hjN => ?_; subst zz1
   have htr : t < ready.length := (List.getElem?_eq_some_iff.mp hxt).1
   have hjt : (j : Int) ∉ (ready.take t).reverse ++ dv := fun h => by
    rcases List.mem_append.mp h with h | h
    ·have h := List.mem_reverse.mp h
     obtain ⟨u, hu, e⟩ := List.getElem_of_mem h
     rw [List.getElem_take] at e
     have hul : u < t := by rw [List.length_take] at hu; lia
     have hri : ready[t] = (j : Int) := by rw [List.getElem?_eq_getElem htr] at hxt; exact Option.some.inj hxt
     have := (List.getElem_inj Rn.rnd).mp (e.trans hri.symm)
     lia
    ·exact q2 h
   have etl : (ready.take (t + 1)).reverse ++ dv = (j : Int) :: ((ready.take t).reverse ++ dv) := by
    refine rE List.take_add_one (rE hxt ?_); simp
   have hpar : 0 ≤ ov j → ov j ∈ (ready.take t).reverse ++ dv := fun h0 => List.mem_append_right _ (q4 _ (hnD.mpr ⟨j, hjN, rfl, rfl, h0⟩))
   have htl2 : ((ready.take t).reverse ++ dv).length ≤ 200 := by
    have h1 : dv.length ≤ N := Nat.le_trans (qa7 Rn.dnd fun x hx => by refine rF hTk' ?_; exact Rn.dks x hx) klD
    refine rE List.length_append (rE List.length_reverse (rE List.length_take ?_)); lia
   generalize (ready.take t).reverse ++ dv = tl at *
   refine eE F.c2 fun w2 hw2 => ?_
   refine qbb (c := L + 2) (by with_unfolding_all rfl) (Z.get hw2) ?_
   have Z := Z.set (x := L + 2) (c := .cell (some (.int (j : Int)))) (.inl (by refine rE hw2 ?_; simp))
   have F := F.setJ (v := some (.int (j : Int)))
   have G := G.setJ (v := some (.int (j : Int)))
   have hcj : (M.set (L + 2) (.cell (some (.int (j : Int))))) (L + 2) = some (.cell (some (.int (j : Int)))) := CH.set_same
   clear hw2 w2
   generalize (M.set (L + 2) (.cell (some (.int (j : Int))))) = M at *
   generalize (H'.set (L + 2) (.cell (some (.int (j : Int))))) = H' at *
   obtain ⟨vkv, vep, v1, v2, v3, v4⟩ := G.vals
   obtain ⟨rkv, rep, hr1, hr2, hr3⟩ := F.rows
   refine eAA (F.row j hjN (hall j hjN)) fun hrow _ _ => ?_
   refine eE (hla j hjN) fun l' hl' => ?_
   have hbj := hbl j hjN
   have hvl : vkv.length ≤ 200 := by
    have := qa7 v2 fun x hx => (v3 x).mp hx
    rw [List.length_map] at this; exact Nat.le_trans this htl2
   repeat walk_at "x"
   walk_at "xi"
   refine qab (c := L + 2) (by with_unfolding_all rfl) (Z.get hcj) ?_
   repeat walk_at "x"
   refine qab (c := L + 7) (by with_unfolding_all rfl) (Z.get G.c7) ?_
   repeat walk_at "x"
   refine O2_in_dict B (Z.get v1) ?_
   refine rE (v4 j) (rE (if_neg hjt) ?_)
   refine ⟨_, rfl, fun q => (by cases q), fun _ => ?_⟩
   repeat walk_at "x"
   refine qab (c := L + 3) (by with_unfolding_all rfl) (Z.get F.c3) ?_
   repeat walk_at "x"
   refine qab (c := L + 2) (by with_unfolding_all rfl) (Z.get hcj) ?_
   repeat walk_at "x"
   refine qag (v := .int (ov j)) (.own (Z.get F.ov_)) (Int.natCast_nonneg _) (qai hjN) (szR hN') ?_
   repeat walk_at "x"
   refine ⟨_, rfl, fun q => ?_, fun q => ?_⟩
   ·have h0 : 0 ≤ ov j := by exact Int.Nonneg.num (ov j) q
    have hpt := hpar h0
    have e1 : ov j = ((ov j).toNat : Int) := by exact Int.eq_natCast_toNat.mpr h0
    have v4o : vkv.lookup (ov j) = some (.int (vv (ov j).toNat)) := by
     have := v4 (ov j).toNat
     rw [← e1, if_pos hpt] at this; exact this
    repeat walk_at "x"
    refine qab (c := L + 3) (by with_unfolding_all rfl) (Z.get F.c3) ?_
    repeat walk_at "x"
    refine qab (c := L + 2) (by with_unfolding_all rfl) (Z.get hcj) ?_
    repeat walk_at "x"
    refine qag (v := .int (ov j)) (.own (Z.get F.ov_)) (Int.natCast_nonneg _) (qai hjN) (szR hN') ?_
    repeat walk_at "x"
    refine qab (c := L + 7) (by with_unfolding_all rfl) (Z.get G.c7) ?_
    repeat walk_at "x"
    refine qdc B (Z.get v1) ?_
    refine rE v4o ?_
    refine ⟨_, rfl, fun q => (by cases q), fun _ => ?_⟩
    repeat walk_at "x"
    refine qab (c := L + 3) (by with_unfolding_all rfl) (Z.get F.c3) ?_
    repeat walk_at "x"
    refine qab (c := L + 2) (by with_unfolding_all rfl) (Z.get hcj) ?_
    repeat walk_at "x"
    refine qag (v := .int (ov j)) (.own (Z.get F.ov_)) (Int.natCast_nonneg _) (qai hjN) (szR hN') ?_
    repeat walk_at "x"
    refine ⟨_, rfl, fun q => (by have q' : ov j < 0 := of_decide_eq_true q; omega), fun _ => ?_⟩
    repeat walk_at "x"
    refine EV_b B g_min b_min ?_
    repeat walk_at "x"
    refine qab (c := L + 7) (by with_unfolding_all rfl) (Z.get G.c7) ?_
    repeat walk_at "x"
    refine qab (c := L + 3) (by with_unfolding_all rfl) (Z.get F.c3) ?_
    repeat walk_at "x"
    refine qab (c := L + 2) (by with_unfolding_all rfl) (Z.get hcj) ?_
    repeat walk_at "x"
    refine qag (v := .int (ov j)) (.own (Z.get F.ov_)) (Int.natCast_nonneg _) (qai hjN) (szR hN') ?_
    repeat walk_at "x"
    refine qau (Z.get v1) v4o ?_
    repeat walk_at "x"
    refine qab (c := L + 4) (by with_unfolding_all rfl) (Z.get F.c4) ?_
    repeat walk_at "x"
    refine qab (c := L + 2) (by with_unfolding_all rfl) (Z.get hcj) ?_
    repeat walk_at "x"
    refine qau (Z.get hr1) (by refine rE (hr3 j hjN) (rE (if_pos (hall j hjN)) rfl)) ?_
    repeat walk_at "x"
    refine qcr ?_
    repeat walk_at "x"
    refine qa5 (v := .int (la j)) (.own (Z.get hrow)) (by decide) len_le_row (get_last_row hl') (szC (Nat.le_trans hbj (by decide))) ?_
    repeat walk_at "x"
    refine ⟨qad, CV_min2 hA'.handled ?_⟩
    refine rE min_if ?_
    repeat walk_at "x"
    refine qab (c := L + 7) (by with_unfolding_all rfl) (Z.get G.c7) ?_
    repeat walk_at "x"
    refine qab (c := L + 2) (by with_unfolding_all rfl) (Z.get hcj) ?_
    repeat walk_at "x"
    refine qck (Z.get v1) (by lia) fun ep' => ?_
    have Z := Z.set (x := vd) (c := .dict (putI vkv (j : Int) (.int (min (vv (ov j).toNat) (la j)))) ep') (.inl (by refine rE v1 ?_; simp))
    have F := F.setD (kv' := putI vkv (j : Int) (.int (min (vv (ov j).toNat) (la j)))) (e' := ep') v1 vrd
    have G := G.add (ep' := ep') v1 v2 v3 v4 hjt (fun h => by omega) fun _ => ⟨hpt, rfl⟩
    rw [← etl] at G
    repeat walk_at "x"
    exact (hRR _ _ (.cons rfl (.cons rfl (.cons rfl (.cons rfl (.cons rfl (.cons rfl .nil)))))) ⟨_, _, Z, F, G⟩).1
   ·have h0 : ov j < 0 := by simpa using q
    refine ⟨fun q => (by cases q), fun _ => ?_⟩
    repeat walk_at "x"
    refine qab (c := L + 3) (by with_unfolding_all rfl) (Z.get F.c3) ?_
    repeat walk_at "x"
    refine qab (c := L + 2) (by with_unfolding_all rfl) (Z.get hcj) ?_
    repeat walk_at "x"
    refine qag (v := .int (ov j)) (.own (Z.get F.ov_)) (Int.natCast_nonneg _) (qai hjN) (szR hN') ?_
    repeat walk_at "x"
    refine ⟨_, rfl, fun _ => ?_, fun q => (by have q' : ¬ ov j < 0 := of_decide_eq_false q; omega)⟩
    repeat walk_at "x"
    refine qab (c := L + 4) (by with_unfolding_all rfl) (Z.get F.c4) ?_
    repeat walk_at "x"
    refine qab (c := L + 2) (by with_unfolding_all rfl) (Z.get hcj) ?_
    repeat walk_at "x"
    refine qau (Z.get hr1) (by refine rE (hr3 j hjN) (rE (if_pos (hall j hjN)) rfl)) ?_
    repeat walk_at "x"
    refine qcr ?_
    repeat walk_at "x"
    refine qa5 (v := .int (la j)) (.own (Z.get hrow)) (by decide) len_le_row (get_last_row hl') (szC (Nat.le_trans hbj (by decide))) ?_
    repeat walk_at "x"
    refine qab (c := L + 7) (by with_unfolding_all rfl) (Z.get G.c7) ?_
    repeat walk_at "x"
    refine qab (c := L + 2) (by with_unfolding_all rfl) (Z.get hcj) ?_
    repeat walk_at "x"
    refine qck (Z.get v1) (by omega) fun ep' => ?_
    have Z := Z.set (x := vd) (c := .dict (putI vkv (j : Int) (.int (la j))) ep') (.inl (by refine rE v1 ?_; simp))
    have F := F.setD (kv' := putI vkv (j : Int) (.int (la j))) (e' := ep') v1 vrd
    have G := G.add (ep' := ep') v1 v2 v3 v4 hjt (fun _ => rfl) fun h => by lia
    rw [← etl] at G
    repeat walk_at "x"
    exact (hRR _ _ (.cons rfl (.cons rfl (.cons rfl (.cons rfl (.cons rfl (.cons rfl .nil)))))) ⟨_, _, Z, F, G⟩).1
  ·obtain ⟨M, vv, Z, F, G⟩ := hM
   rw [List.take_length] at G
   have hDN := Run.doneN (ns := ready) (rest := []) (T := T7) (dn := dv) (ready := []) (near := nD) (by refine rE (List.append_nil ..) ?_; exact Rn7)
   obtain ⟨⟨r2, Rn10⟩, hdone⟩ := hDN
   repeat walk_at "x"
   refine GA_bound (f := a_done) B Z.rd.top Z.rd.dict rfl ?_
   repeat walk_at "x"
   refine ⟨_, .tup _, by refine rE (List.length_map ..) ?_; omega, ?_⟩
   refine ⟨KP_bound (B.X a_done _ (by with_unfolding_all rfl)) rfl, CV_of (CALL_bound ?_)⟩
   refine (spec_done (M := 1000) (by exact B) (n := n + 10) hA' Z.rd Rn7.rdy hdone ?_ ?_ ?_ (by omega)).mono ?_
   ·intro k hk x hx
    rw [hTk7] at hk ⊢
    rw [hTs7] at hx
    exact (scD k hk x hx).1
   ·intro k
    refine rE hTs7 ?_
    have := hLD.sc k
    lia
   ·refine rE List.length_nil ?_; lia
   rintro v H'' ⟨rfl, R10, F10⟩
   have Z := Z.stepD R10 F10
   have eD := @doneN_eq ready T7
   repeat walk_at "x"
   refine (hRR _ _ (.cons rfl (.cons rfl (.cons rfl (.cons rfl (.cons rfl .nil))))) ⟨_, M, vv, _, r2, Z, Rn10, by refine rE eD.1 (rE hTk7 rfl), by refine rE eD.2.2.2 (rE hTs7 rfl), ?_, F, G⟩).1
   refine rE List.length_append (rE List.length_reverse ?_)
   by_cases hre : ready = []
   ·have := hend hre
    exact .inl (by exact Nat.le_add_left_of_le (hend hre))
   ·have := List.length_pos_iff.mpr hre
    rcases hdl' with h | h
    ·exact .inl (by exact Nat.le_add_left_of_le h)
    ·exact .inr (by lia)
 obtain ⟨T', M, vv, dv, ready, Z, RnD, hTk', hTs', hdl', F, G⟩ := hM
 have hallD : ∀ k : Nat, k < N → (k : Int) ∈ dv := fun k hk => Classical.byContradiction fun q => by
  have := qc2 (l := (k : Int) :: dv) (N := N) (List.nodup_cons.mpr ⟨q, RnD.dnd⟩) fun x hx => by
   rcases List.mem_cons.mp hx with rfl | hx
   ·exact ⟨k, rfl, hk⟩
   ·exact hkD.mp (by refine rF hTk' ?_; exact RnD.dks x hx)
  rw [List.length_cons] at this
  lia
 have hrdy : ready = [] := List.eq_nil_iff_forall_not_mem.mpr fun x hx => by
  refine eAA ((RnD.rmem x).mp hx) fun h1 h2 _ => ?_
  refine eEA (hkD.mp (by rw [← hTk']; exact h1)) fun k zz1 hk => ?_; subst zz1
  exact h2 (hallD k hk)
 subst hrdy
 have hdvN : ∀ x, x ∈ dv → ∃ k : Nat, x = k ∧ k < N := fun x hx => hkD.mp (by refine rF hTk' ?_; exact RnD.dks x hx)
 obtain ⟨vkv, vep, v1, v2, v3, v4⟩ := G.vals
 have hvl := qc2 v2 fun x hx => hdvN x ((v3 x).mp hx)
 rw [List.length_map] at hvl
 have hkp : (vkv.map (·.1)).Perm ((List.range N).map fun k : Nat => (k : Int)) := (List.perm_ext_iff_of_nodup v2 rng_nodup).mpr fun x => by
  rw [v3 x]
  constructor
  ·intro h
   refine eEA (hdvN x h) fun k zz1 hk => ?_; subst zz1
   exact List.mem_map.mpr ⟨k, List.mem_range.mpr hk, rfl⟩
  ·intro h
   refine eEA (List.mem_map.mp h) fun k hk zz2 => ?_; subst zz2
   exact hallD k (List.mem_range.mp hk)
 have V12 : Vals N ov la vv := ⟨fun j hj h => ((G.law j hj (hallD j hj)).1 h), fun j hj h => ((G.law j hj (hallD j hj)).2 h).2⟩
 refine eA (vals_law W hR K hla2 hin hTA V12) fun s1 s2 => ?_
 walk_at "xi"
 refine EV_b B g_sorted b_sorted ?_
 repeat walk_at "x"
 refine qab (c := L + 7) (by with_unfolding_all rfl) (Z.get G.c7) ?_
 repeat walk_at "x"
 refine ⟨qad, CV_sorted_dict (by exact B) hA'.handled (Z.get v1) (by lia) fun D1 ms1 hD1 _ hperm hsrt1 => ?_⟩
 have hms : ms1 = (List.range N).map fun k : Nat => (k : Int) := lks_uniq (hperm.trans hkp) hsrt1 rng_sorted
 subst hms
 repeat walk_at "x"
 refine EV_b B g_list b_list ?_
 repeat walk_at "x"
 refine EV_b B qbp qbr ?_
 repeat walk_at "x"
 refine ⟨qa3, qba ?_⟩
 repeat walk_at "x"
 refine ⟨qa3, CV_list_rng hA'.handled (by lia) fun D2 hD2 _ => ?_⟩
 have d12 : D1 ≠ D2 := ne_at CH.set_same hD2
 refine O2_ned (.list (.own (by refine rE (CH.set_ne d12) (rE CH.set_same rfl))) dr_ints) (.list (.own CH.set_same) (by refine rE rng_ints ?_; exact dr_ints)) ints_ok ints_ok hA'.u10 fun b0 hb0 => ?_
 have Z := (Z.more (H' := H₁₃.set D1 (.list (((List.range N).map fun k : Nat => (k : Int)).map .int))) fun y hy => CH.set_ne (qan hy hD1)).more (H' := (H₁₃.set D1 (.list (((List.range N).map fun k : Nat => (k : Int)).map .int))).set D2 (.list (qao 0 1 N))) fun y hy => CH.set_ne (qan hy hD2)
 clear hD1 hD2 d12 hperm
 generalize (H₁₃.set D1 (.list (((List.range N).map fun k : Nat => (k : Int)).map .int))).set D2 (.list (qao 0 1 N)) = H₁₃ at *
 refine ⟨_, rfl, fun q => (by exact absurd rfl (hb0.mp q)), fun _ => ?_⟩
 clear hb0
 repeat walk_at "x"
 refine qa4 (f := a_isactive) B Z.rd.top Z.rd.dict rfl ?_
 repeat walk_at "x"
 refine ⟨KP_K B (by with_unfolding_all rfl), CV_of ((qcx (by exact B) (n := n + 10) hA' Z.rd RnD.rdy (by simp)).mono ?_)⟩
 rintro v H₁₄ ⟨rfl, rfl⟩
 refine OB_bool ⟨fun hb => ?_, fun _ => ?_⟩
 ·rw [RnD.pass, RnD.fin] at hb
  simp at hb
 repeat walk_at "x"
 refine EV_b B g_sum b_sum ?_
 repeat walk_at "x"
 refine EV_lc ?_
 repeat walk_at "x"
 refine EV_b B qbp qbr ?_
 repeat walk_at "x"
 refine ⟨qa3, qba ?_⟩
 refine LC_ints (List.range N) intN (fun j => (if sc j - vv j < 0 then -(sc j - vv j) else sc j - vv j)) (seqN hA'.handled hN62) trivial hrz (fun j hj LC hLC => ?_) fun x1 hx1 hx10 => ?_
 ·have hjN := List.mem_range.mp hj
  repeat walk_at "x"
  refine ⟨rfl, rfl, fun _ => ?_⟩
  repeat walk_at "x"
  refine EV_b (by exact B) g_abs b_abs ?_
  repeat walk_at "x"
  refine qab (c := L + 1) (by with_unfolding_all rfl) (Z.get F.c1) ?_
  repeat walk_at "x"
  refine qag (v := .int (sc j)) (hls _ rfl) (Int.natCast_nonneg _) (qai hjN) (szR hN') ?_
  repeat walk_at "x"
  refine qab (c := L + 7) (by with_unfolding_all rfl) (Z.get G.c7) ?_
  repeat walk_at "x"
  refine qau (Z.get v1) (by refine rE (v4 j) (rE (if_pos (hallD j hjN)) rfl)) ?_
  repeat walk_at "x"
  refine ⟨qad, CV_abs ⟨rfl, rfl⟩⟩
 have Z := Z.more (H' := H₁₄.set x1 (.list (((List.range N).map fun j => if sc j - vv j < 0 then -(sc j - vv j) else sc j - vv j).map .int))) fun y hy => CH.set_ne (qan hy hx1)
 have hl1 : (H₁₄.set x1 (.list (((List.range N).map fun j => if sc j - vv j < 0 then -(sc j - vv j) else sc j - vv j).map .int))) x1 = some (.list (((List.range N).map fun j => if sc j - vv j < 0 then -(sc j - vv j) else sc j - vv j).map .int)) := CH.set_same
 clear hx1 hx10
 generalize H₁₄.set x1 (.list (((List.range N).map fun j => if sc j - vv j < 0 then -(sc j - vv j) else sc j - vv j).map .int)) = H₁₄ at *
 repeat walk_at "x"
 refine ⟨qad, CV_sum hA'.handled (.own hl1) ?_⟩
 refine rE s1 ?_
 clear hl1
 repeat walk_at "x"
 refine qbw ?_
 repeat walk_at "x"
 refine EV_b B qbp qbr ?_
 repeat walk_at "x"
 refine ⟨qa3, qba ?_⟩
 refine LC_pure (List.range N) intN (fun j => decide (ov j < 0)) (fun j => pv (T12 j (ms.length - 1))) (seqN hA'.handled hN62) trivial hrz (fun j hj LC hLC => ?_) fun x2 hx2 hx20 => ?_
 ·have hjN := List.mem_range.mp hj
  have hmp : 0 < ms.length := by have := (hpl j hjN).lt; lia
  repeat walk_at "x"
  refine qab (c := L + 3) (by with_unfolding_all rfl) (Z.get F.c3) ?_
  repeat walk_at "x"
  refine qag (v := .int (ov j)) (.own (Z.get F.ov_)) (Int.natCast_nonneg _) (qai hjN) (szR hN') ?_
  repeat walk_at "x"
  refine ⟨_, rfl, fun q2 => ⟨q2.symm, rfl, fun _ => ?_⟩, fun q2 => ⟨q2.symm, rfl, fun h => by cases h⟩⟩
  repeat walk_at "x"
  refine qab (c := L + 6) (by with_unfolding_all rfl) (Z.get G.c6) ?_
  repeat walk_at "x"
  refine qau (Z.get G.tab) (htl j hjN) ?_
  repeat walk_at "x"
  refine qcr ?_
  repeat walk_at "x"
  refine qa5 (v := pv (T12 j (ms.length - 1))) (.own (Z.get (G.row j hjN))) (by decide) (len_le hmp) (get_last hmp) (szR hm10) ?_
  exact ⟨rfl, rfl⟩
 generalize hroots : (List.range N).filter (fun j => decide (ov j < 0)) = roots at *
 have hrl : roots.length ≤ 63 := by
  refine rF hroots ?_
  exact Nat.le_trans (List.length_filter_le ..) (by refine rE List.length_range ?_; exact hN)
 have Z := Z.more (H' := H₁₄.set x2 (.list (roots.map fun j => pv (T12 j (ms.length - 1))))) fun y hy => CH.set_ne (qan hy hx2)
 have hl2 : (H₁₄.set x2 (.list (roots.map fun j => pv (T12 j (ms.length - 1))))) x2 = some (.list (roots.map fun j => pv (T12 j (ms.length - 1)))) := CH.set_same
 clear hx2 hx20
 generalize H₁₄.set x2 (.list (roots.map fun j => pv (T12 j (ms.length - 1)))) = H₁₄ at *
 refine SeqE.n ?_
 repeat walk_at "x"
 refine EV_b B g_sum b_sum ?_
 repeat walk_at "x"
 refine EV_lc ?_
 repeat walk_at "x"
 refine EV_b B qbp qbr ?_
 repeat walk_at "x"
 refine ⟨qa3, qba ?_⟩
 refine LC_ints (List.range N) intN (fun j => (vv j)) (seqN hA'.handled hN62) trivial hrz (fun j hj LC hLC => ?_) fun x3 hx3 hx30 => ?_
 ·have hjN := List.mem_range.mp hj
  repeat walk_at "x"
  refine ⟨rfl, rfl, fun _ => ?_⟩
  repeat walk_at "x"
  refine qab (c := L + 7) (by with_unfolding_all rfl) (Z.get G.c7) ?_
  repeat walk_at "x"
  refine qau (Z.get v1) (by refine rE (v4 j) (rE (if_pos (hallD j hjN)) rfl)) ?_
  exact ⟨rfl, rfl⟩
 have Z := Z.more (H' := H₁₄.set x3 (.list (((List.range N).map vv).map .int))) fun y hy => CH.set_ne (qan hy hx3)
 have hl3 : (H₁₄.set x3 (.list (((List.range N).map vv).map .int))) x3 = some (.list (((List.range N).map vv).map .int)) := CH.set_same
 have hl2 := qaw (c := .list (((List.range N).map vv).map .int)) hx3 hl2
 clear hx3 hx30
 generalize H₁₄.set x3 (.list (((List.range N).map vv).map .int)) = H₁₄ at *
 repeat walk_at "x"
 refine ⟨qad, CV_sum hA'.handled (.own hl3) ?_⟩
 refine rE s2 ?_
 clear hl3
 repeat walk_at "x"
 refine ⟨by show 2 ≤ sizeLine; decide, ?_⟩
 repeat walk_at "x"
 refine EV_b B g_sum b_sum ?_
 repeat walk_at "x"
 refine EV_lc ?_
 repeat walk_at "x"
 refine LC_ints roots (fun j => pv (T12 j (ms.length - 1))) (fun j => (T12 j (ms.length - 1)).1) (qce hA'.handled hl2) hl2 (by lia) (fun j hj LC hLC => ?_) fun x4 hx4 hx40 => ?_
 ·repeat walk_at "x"
  refine ⟨rfl, rfl, fun _ => ?_⟩
  repeat walk_at "x"
  refine qb8 (v := .int (T12 j (ms.length - 1)).1) (by decide) rfl (by show 2 ≤ sizeLine; decide) ?_
  exact ⟨rfl, rfl⟩
 have hl4 : (H₁₄.set x4 (.list ((roots.map fun j => (T12 j (ms.length - 1)).1).map .int))) x4 = some (.list ((roots.map fun j => (T12 j (ms.length - 1)).1).map .int)) := CH.set_same
 have hl2 := qaw (c := .list ((roots.map fun j => (T12 j (ms.length - 1)).1).map .int)) hx4 hl2
 clear hx4 hx40 Z
 generalize H₁₄.set x4 (.list ((roots.map fun j => (T12 j (ms.length - 1)).1).map .int)) = H₁₅ at *
 repeat walk_at "x"
 refine ⟨qad, CV_sum hA'.handled (.own hl4) ?_⟩
 clear hl4
 repeat walk_at "x"
 refine EV_b B g_sum b_sum ?_
 repeat walk_at "x"
 refine EV_lc ?_
 repeat walk_at "x"
 refine LC_ints roots (fun j => pv (T12 j (ms.length - 1))) (fun j => (T12 j (ms.length - 1)).2) (qce hA'.handled hl2) hl2 (by omega) (fun j hj LC hLC => ?_) fun x5 hx5 hx50 => ?_
 ·repeat walk_at "x"
  refine ⟨rfl, rfl, fun _ => ?_⟩
  repeat walk_at "x"
  refine qb8 (v := .int (T12 j (ms.length - 1)).2) (by decide) rfl (by show 2 ≤ sizeLine; decide) ?_
  exact ⟨rfl, rfl⟩
 repeat walk_at "x"
 refine ⟨qad, CV_sum hA'.handled (.own CH.set_same) ?_⟩
 repeat walk_at "x"
 refine ⟨by show 2 ≤ sizeLine; decide, ?_⟩
 refine O2_eqd (.tup (.cons (.int _) (.cons (.int _) .nil))) (.tup (.cons (.int _) (.cons (.int _) .nil))) (by rfl) (by rfl) hA'.u10 fun b0 hb0 => ?_
 refine rE (hb0.mpr rfl) ?_
 repeat walk_at "x"
 exact hQV _ _ rfl
end
end
end
end Mine
end
section
open PySem PySem.Calls PySem.W PyProof.Rows
set_option maxRecDepth 100000
namespace Mine
theorem k_law {P : Params} : nsIn (KK P) mainGlobals "law" = some (some (.ref a_law)) := by kernel_rfl
theorem wood_of {N : Nat} {sc : Nat → Int} : Wood N (fun k => (sc k).fmod ((k : Int) + 1) - 1) := ⟨fun k _ => by
 have h0 : 0 ≤ (sc k).fmod ((k : Int) + 1) := Int.fmod_nonneg_of_pos _ (by omega)
 have h1 : (sc k).fmod ((k : Int) + 1) < (k : Int) + 1 := Int.fmod_lt_of_pos _ (by omega)
 show -1 ≤ (sc k).fmod ((k : Int) + 1) - 1 ∧ (sc k).fmod ((k : Int) + 1) - 1 < k
 omega⟩
end Mine
set_option maxHeartbeats 8000000 in
set_option tactic.hygienic true in
theorem PySem.Challenge.cw_dn0048_12_holds : PySem.Challenge.rw_dn0048_12.Holds := by
 refine Mine.hd12 ⟨?_, ?_⟩
 ·exact Mine.left_of_run (H₀ := boot_heap) (gs₀ := Array.mk []) (d₀ := boot_drawn) (k₀ := boot_toks) (m₀ := 11) (ann := some (.ref 6)) Mine.booted Mine.boot_size (by intro w os; rw [PySem.W.Fast.te14082659384304107361]; kernel_rfl)
 intro w s₀ s₁ mg mb G Y fa o pm cd doc dV kV ho hd hcd hD hmg hg args vals as hpre hlay hrd hwl hlo
 have X := kIn_of Y
 refine Ground.open G ?_
 intro T B D TE TW
 wrow_args hpre hlay hrd hwl hlo
 rename_i ns h1 h2 h3 h4 h5 as1 as2 l vs as3 hL ra hW r0 hI hr hc1 hc2
 have hfa : fa = Mine.a_law := by
  have e := mg_of X T.g (Mine.k_law (P := w.params))
  have e2 : mg (PySem.Str.ofString "law") = some (.ref fa) := hmg
  rw [e2] at e
  injection e with e; injection e with e
 subst hfa
 refine Mine.law_ends [] X (by simp) (by simp) (by simp) (by simp) T.nolimit T.g T.b T.builtins (T.seer (by kernel_rfl)) T.bmain hW hg (fun cls => rfl) (by kernel_rfl) ?_
 intro C items hw hfr hB hA hl hv
 subst hw
 rw [Mine.ms_map] at hv
 refine (Mine.spec_law (n := 88) Mine.wood_of (fun k => rfl) (by omega) hB (hA 100 (Nat.le_refl _)) hl hv (fun b => rfl)).mono ?_
 rintro v H' rfl
 exact ⟨rfl, fun b hb => absurd rfl hb⟩
end
