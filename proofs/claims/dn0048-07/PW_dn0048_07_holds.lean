import PyProof.Rows.All
import Wide.All
import OpenK.AllK
import Wide.FinOn
import PyProof.Rows.ListMul
import PyProof.SliceList
import PyProof.Rows.SumAny
import PyProof.ListRange
import PyProof.Rows.StrTemp
import KE.KSortTup
import PySem.Challenge.RW_dn0048_07
set_option Elab.async false
set_option maxHeartbeats 8000000
set_option linter.unusedVariables false
set_option linter.unusedSimpArgs false
section
open PySem PySem.Calls PySem.W PyProof.Rows
set_option maxRecDepth 100000
namespace Mine
noncomputable section
inductive V where
  | con (v : Value)
  | int (i : Int)
  | str (x : Str)
  | tup (l : List V)
  | rng (a b c : Int)
  | imm (o : Obj)
  | fn (name qual : Str) (params : Arguments) (body : PySem.Expr) (scope : Scope) (cl : List (Str × Addr))
  | ref (a : Addr)
noncomputable abbrev V.none : V := .con .none
noncomputable abbrev V.bool (b : Bool) : V := .con (.bool b)
noncomputable abbrev Loc := List (Str × V)
inductive CObj where
  | list (xs : List V)
  | dict (kvs : List (Int × V)) (ep : Nat)
  | set (S : Int → Bool) (n : Nat)
  | cell (v : Option V)
  | inst (C d : Addr) (sl : List (Option V))
  | idict (fs : Loc)
  | liter (l : Addr) (i : Nat)
  | raw (o : Obj)
  | tab (qs : List ((Nat × Nat) × Str))
noncomputable abbrev CH := Addr → Option CObj
noncomputable def CH.set (H : CH) (a : Addr) (c : CObj) : CH := fun b => if b = a then some c else H b
theorem CH.set_same {H : CH} {a : Addr} {c : CObj} : H.set a c a = some c := by simp [CH.set]
theorem CH.set_ne {H : CH} {a b : Addr} {c : CObj} (h : b ≠ a) : H.set a c b = H b := by simp [CH.set, h]
/-- what nobody changes -/
noncomputable def immCls : List String := ["tuple", "range", "function", "dict_values", "dict_keys", "dict_items", "method-wrapper", "method", "builtin_function_or_method"]
noncomputable def Imm (o : Obj) : Prop := o.isFreed = false ∧ ((∃ T ∈ immCls, o.cls = .type T) ∨ ∃ vs x t, o.data = .fields vs ∧ vs[1]? = some (.str x t)) ∧ (∀ es ep, o.data ≠ .dict es ep) ∧ (∀ v, o.data ≠ .cell v) ∧ ∀ es ep t, o.data ≠ .set es ep t
theorem Imm.tup {items : Array Value} {n : Nat} : Imm (seqObj "tuple" items n) := ⟨rfl, .inl ⟨"tuple", by decide, rfl⟩, (by intro _ _ e; cases e), (by intro _ e; cases e), (by intro _ _ _ e; cases e)⟩
theorem Imm.rng {vs : Array Value} : Imm { cls := .type "range", dict := none, data := .fields vs, slots := #[] } := ⟨rfl, .inl ⟨"range", by decide, rfl⟩, (by intro _ _ e; cases e), (by intro _ e; cases e), (by intro _ _ _ e; cases e)⟩
theorem Imm.fn {fd : FuncData} : Imm { cls := .type "function", data := .func fd } := ⟨rfl, .inl ⟨"function", by decide, rfl⟩, (by intro _ _ e; cases e), (by intro _ e; cases e), (by intro _ _ _ e; cases e)⟩
theorem Imm.code {o : Obj} {vs : Array Value} {x : Str} {t : Tok} (hd : o.data = .fields vs) (h : vs[1]? = some (.str x t)) : Imm o :=
  ⟨Obj.isFreed_of_fields hd, .inr ⟨vs, x, t, hd, h⟩, (by intro _ _ e; rw [hd] at e; cases e), (by intro _ e; rw [hd] at e; cases e), (by intro _ _ _ e; rw [hd] at e; cases e)⟩
mutual
noncomputable def VR (h : Heap) : V → Value → Prop
  | .con c, v => v = c
  | .int i, v => ∃ t, v = .int i t
  | .str x, v => ∃ t, v = .str x t
  | .tup l, v => ∃ a items n, v = .ref a ∧ h.get? a = some (seqObj "tuple" items n) ∧ VRs h l items.toList
  | .rng a b c, v => ∃ r t u w, v = .ref r ∧ h.get? r = some { cls := .type "range", dict := none, data := .fields #[.int a t, .int b u, .int c w], slots := #[] }
  | .imm o, v => Imm o ∧ ∃ a, v = .ref a ∧ h.get? a = some o
  | .fn name qual params body scope cl, v => ∃ a pm c ctv, v = .ref a ∧ h.get? a = some (kla_obj name qual params body scope cl pm c ctv) ∧ h.CodeRec (.ref c) qual
  | .ref a, v => v = .ref a
noncomputable def VRs (h : Heap) : List V → List Value → Prop
  | [], [] => True
  | x :: xs, y :: ys => VR h x y ∧ VRs h xs ys
  | _, _ => False
end
/-- what nobody changes stays -/
noncomputable def TupKeep (h h' : Heap) : Prop := ∀ b o, Imm o → h.get? b = some o → h'.get? b = some o
theorem TupKeep.rec {h h' : Heap} (k : TupKeep h h') {v : Value} {q : Str} (x : h.CodeRec v q) : h'.CodeRec v q :=
  let ⟨c, o, vs, t, e, g, hd, hv⟩ := x; ⟨c, o, vs, t, e, k _ _ (.code hd hv) g, hd, hv⟩
mutual
theorem VR.keep {h h' : Heap} (k : TupKeep h h') : ∀ {x : V} {v : Value}, VR h x v → VR h' x v
  | .con _, _, r => r
  | .int _, _, r => r
  | .str _, _, r => r
  | .ref _, _, r => r
  | .rng a b c, v, r => by
    unfold VR at r ⊢
    obtain ⟨x, t, u, w, e, ho⟩ := r
    exact ⟨x, t, u, w, e, k _ _ .rng ho⟩
  | .imm o, v, r => by
    unfold VR at r ⊢
    obtain ⟨i, x, e, ho⟩ := r
    exact ⟨i, x, e, k _ _ i ho⟩
  | .fn .., v, r => by
    unfold VR at r ⊢
    obtain ⟨a, pm, c, ctv, e, ho, hc⟩ := r
    exact ⟨a, pm, c, ctv, e, k _ _ .fn ho, k.rec hc⟩
  | .tup l, v, r => by
    unfold VR at r ⊢
    obtain ⟨a, items, n, e, ho, hs⟩ := r
    exact ⟨a, items, n, e, k _ _ .tup ho, VRs.keep k hs⟩
theorem VRs.keep {h h' : Heap} (k : TupKeep h h') : ∀ {xs : List V} {vs : List Value}, VRs h xs vs → VRs h' xs vs
  | [], [], _ => by unfold VRs; trivial
  | [], _ :: _, r => by unfold VRs at r; exact r.elim
  | _ :: _, [], r => by unfold VRs at r; exact r.elim
  | x :: xs, y :: ys, r => by
    unfold VRs at r ⊢
    exact ⟨VR.keep k r.1, VRs.keep k r.2⟩
end
theorem VRs.nil {h : Heap} : VRs h [] [] := by unfold VRs; trivial
theorem VRs.cons {h : Heap} {x : V} {xs : List V} {y : Value} {ys : List Value} (a : VR h x y) (b : VRs h xs ys) : VRs h (x :: xs) (y :: ys) := by unfold VRs; exact ⟨a, b⟩
theorem VRs.head {h : Heap} {x : V} {xs : List V} {y : Value} {ys : List Value} (r : VRs h (x :: xs) (y :: ys)) : VR h x y := by unfold VRs at r; exact r.1
theorem VRs.tail {h : Heap} {x : V} {xs : List V} {y : Value} {ys : List Value} (r : VRs h (x :: xs) (y :: ys)) : VRs h xs ys := by unfold VRs at r; exact r.2
theorem VRs.length {h : Heap} : ∀ {xs : List V} {vs : List Value}, VRs h xs vs → xs.length = vs.length
  | [], [], _ => rfl
  | [], _ :: _, r => by unfold VRs at r; exact r.elim
  | _ :: _, [], r => by unfold VRs at r; exact r.elim
  | _ :: _, _ :: _, r => by rw [List.length_cons, List.length_cons, VRs.length r.tail]
theorem VRs.nil_inv {h : Heap} {vs : List Value} (r : VRs h [] vs) : vs = [] := by
  cases vs with
  | nil => rfl
  | cons => unfold VRs at r; exact r.elim
theorem VRs.cons_inv {h : Heap} {x : V} {xs : List V} {vs : List Value} (r : VRs h (x :: xs) vs) : ∃ y ys, vs = y :: ys ∧ VR h x y ∧ VRs h xs ys := by
  cases vs with
  | nil => unfold VRs at r; exact r.elim
  | cons y ys => exact ⟨y, ys, rfl, r.head, r.tail⟩
theorem VRs.get {h : Heap} : ∀ {xs : List V} {vs : List Value}, VRs h xs vs → ∀ {i : Nat} {x : V}, xs[i]? = some x → ∃ v, vs[i]? = some v ∧ VR h x v
  | [], _, _, i, x, e => by simp at e
  | x :: xs, vs, r, i, x', e => by
    obtain ⟨y, ys, rfl, a, b⟩ := r.cons_inv
    cases i with
    | zero => simp at e; subst e; exact ⟨y, by simp, a⟩
    | succ i => simp at e; obtain ⟨v, hv, q⟩ := VRs.get b e; exact ⟨v, by simpa using hv, q⟩
theorem VRs.append {h : Heap} : ∀ {xs ys : List V} {vs ws : List Value}, VRs h xs vs → VRs h ys ws → VRs h (xs ++ ys) (vs ++ ws)
  | [], _, vs, _, r, q => by have := r.nil_inv; subst this; exact q
  | x :: xs, _, vs, _, r, q => by
    obtain ⟨y, ys, rfl, a, b⟩ := r.cons_inv
    exact .cons a (VRs.append b q)
theorem VRs.set {h : Heap} : ∀ {xs : List V} {vs : List Value}, VRs h xs vs → ∀ (i : Nat) {x : V} {v : Value}, VR h x v → VRs h (xs.set i x) (vs.set i v)
  | [], vs, r, i, x, v, _ => by have := r.nil_inv; subst this; exact .nil
  | y :: xs, vs, r, i, x, v, q => by
    obtain ⟨z, ys, rfl, a, b⟩ := r.cons_inv
    cases i with
    | zero => exact .cons q b
    | succ i => exact .cons a (VRs.set b i q)
theorem VRs.eraseIdx {h : Heap} : ∀ {xs : List V} {vs : List Value}, VRs h xs vs → ∀ (n : Nat), VRs h (xs.eraseIdx n) (vs.eraseIdx n)
  | [], vs, r, n => by have := r.nil_inv; subst this; simpa using VRs.nil
  | y :: xs, vs, r, n => by
    obtain ⟨z, ys, rfl, a, b⟩ := r.cons_inv
    cases n with
    | zero => exact b
    | succ n => exact .cons a (VRs.eraseIdx b n)
noncomputable def OptR (h : Heap) : Option V → Option Value → Prop
  | none, none => True
  | some v, some r => VR h v r
  | _, _ => False
/-- partial knowledge of a name table -/
noncomputable def Knows (h : Heap) (m : Loc) (mr : Str → Option Value) : Prop := ∀ x v, m.lookup x = some v → ∃ r, mr x = some r ∧ VR h v r
noncomputable def OptRs (h : Heap) : List (Option V) → List (Option Value) → Prop
  | [], [] => True
  | a :: as, b :: bs => OptR h a b ∧ OptRs h as bs
  | _, _ => False
/-- an instance's names -/
noncomputable def EsR (h : Heap) : Loc → List DictEntry → Prop
  | [], [] => True
  | (x, v) :: fs, e :: es => (∃ t, e.key = .str x t) ∧ VR h v e.val ∧ EsR h fs es
  | _, _ => False
structure Cx where
  prog : Program
  w : World
  h₀ : Heap
  env : Env
  fr : List Env
noncomputable def ORep (C : Cx) (h : Heap) : CObj → Obj → Prop
  | .list xs, o => ∃ items n, o = seqObj "list" items n ∧ VRs h xs items.toList
  | .dict kvs ep, o => o.ExactDict ∧ ∃ es rs, o.data = .dict es ep ∧ KeysOf (intKind C.prog C.w) es ∧ Pairs (intKind C.prog C.w) es.toList ((kvs.map (·.1)).zip rs) ∧ (kvs.map (·.1)).Nodup ∧ VRs h (kvs.map (·.2)) rs
  | .set S n, o => o.ExactSet ∧ ∃ es ep t, o.data = .set es ep t ∧ ElemsOf (intKind C.prog C.w) es.toList ∧ (∀ k, S k = true ↔ ∃ e ∈ es.toList, (intKind C.prog C.w).is k e.2 = true) ∧ es.size < scanBound ∧ t.fits es.size = true ∧ es.size = n
  | .cell v, o => ∃ r, o.data = .cell r ∧ OptR h v r
  | .inst K d sl, o => ∃ rs : Array (Option Value), o = { cls := .ref K, dict := some d, data := .plain, slots := rs } ∧ OptRs h sl rs.toList
  | .idict fs, o => ∃ es n, o = dictOf es n ∧ EsR h fs es
  | .liter l i, o => o = { cls := .type "list_iterator", data := .fields #[.ref l, .int i 0] }
  | .raw o', o => o = o' ∧ o.isFreed = false ∧ ¬ Imm o
  | .tab qs, o => ∃ ps, o = tabObj ps ∧ TriplesOk ps.toList ∧ ∀ pos cv, codeAmong pos ps.toList = some cv → ∀ q, qs.lookup (pos.line, pos.col) = some q → h.CodeRec cv q
theorem Knows.keep {h h' : Heap} (k : TupKeep h h') {m : Loc} {mr : Str → Option Value} (x : Knows h m mr) : Knows h' m mr := fun n v e =>
  let ⟨r, a, b⟩ := x n v e; ⟨r, a, b.keep k⟩
theorem OptR.keep {h h' : Heap} (k : TupKeep h h') : ∀ {v : Option V} {r : Option Value}, OptR h v r → OptR h' v r
  | none, none, _ => trivial
  | some _, some _, x => VR.keep k x
  | none, some _, x => x.elim
  | some _, none, x => x.elim
theorem OptRs.keep {h h' : Heap} (k : TupKeep h h') : ∀ {a : List (Option V)} {b : List (Option Value)}, OptRs h a b → OptRs h' a b
  | [], [], _ => trivial
  | _ :: _, _ :: _, x => ⟨x.1.keep k, x.2.keep k⟩
  | [], _ :: _, x => x.elim
  | _ :: _, [], x => x.elim
theorem EsR.keep {h h' : Heap} (k : TupKeep h h') : ∀ {a : Loc} {b : List DictEntry}, EsR h a b → EsR h' a b
  | [], [], _ => trivial
  | (_, _) :: _, _ :: _, x => ⟨x.1, x.2.1.keep k, x.2.2.keep k⟩
  | [], _ :: _, x => x.elim
  | _ :: _, [], x => x.elim
theorem ORep.keep {C : Cx} {h h' : Heap} (k : TupKeep h h') {c : CObj} {o : Obj} (x : ORep C h c o) : ORep C h' c o := by
  cases c with
  | list xs => obtain ⟨items, n, e, r⟩ := x; exact ⟨items, n, e, r.keep k⟩
  | dict kvs ep => obtain ⟨a, es, rs, b, c, d, e, r⟩ := x; exact ⟨a, es, rs, b, c, d, e, r.keep k⟩
  | set S n => exact x
  | cell v => obtain ⟨r, e, q⟩ := x; exact ⟨r, e, q.keep k⟩
  | inst K d sl => obtain ⟨rs, e, r⟩ := x; exact ⟨rs, e, r.keep k⟩
  | idict fs => obtain ⟨es, n, e, r⟩ := x; exact ⟨es, n, e, r.keep k⟩
  | liter l i => exact x
  | raw o' => exact x
  | tab qs => obtain ⟨ps, e, ht, hq⟩ := x; exact ⟨ps, e, ht, fun pos cv e q hl => k.rec (hq pos cv e q hl)⟩
theorem triples_no_str {l : List Value} (h : TriplesOk l) : ∀ x t, l[1]? ≠ some (.str x t) := by
  intro x t e
  match l, h with
  | [], _ => simp at e
  | .int _ _ :: .int _ _ :: _ :: _, _ => simp at e
theorem ORep.not_imm {C : Cx} {h : Heap} {c : CObj} {o : Obj} (x : ORep C h c o) : ¬ Imm o := fun ⟨hfr, hcl, hd, hce, hs⟩ => by
  have key : ∀ {T : String}, o.cls = .type T → immCls.contains T = false → (∀ vs x t, o.data = .fields vs → vs[1]? ≠ some (.str x t)) → False := fun {T} hc hn hv => by
    rcases hcl with ⟨T', hT', hc'⟩ | ⟨vs, x, t, e, h⟩
    · rw [hc] at hc'; cases hc'
      have : immCls.contains T = true := List.contains_iff_mem.mpr hT'
      rw [hn] at this; cases this
    · exact hv vs x t e h
  have key2 : (∀ T, o.cls ≠ .type T) → (∀ vs x t, o.data = .fields vs → vs[1]? ≠ some (.str x t)) → False := fun hn hv => by
    rcases hcl with ⟨T', hT', hc'⟩ | ⟨vs, x, t, e, h⟩
    · exact hn _ hc'
    · exact hv vs x t e h
  cases c with
  | list xs => obtain ⟨items, n, rfl, _⟩ := x; exact key rfl (by decide) (by intro _ _ _ e; cases e)
  | dict kvs ep => obtain ⟨_, es, rs, b, _⟩ := x; exact hd _ _ b
  | set S n => obtain ⟨_, es, ep, t, b, _⟩ := x; exact hs _ _ _ b
  | cell v => obtain ⟨r, b, _⟩ := x; exact hce _ b
  | inst K d sl => obtain ⟨rs, rfl, _⟩ := x; exact key2 (by intro _ e; cases e) (by intro _ _ _ e; cases e)
  | idict fs => obtain ⟨es, n, rfl, _⟩ := x; exact hd _ _ rfl
  | liter l i => unfold ORep at x; subst x; exact key (T := "list_iterator") rfl (by decide) (by intro _ _ _ e; cases e; intro q; cases q)
  | raw o' => exact x.2.2 ⟨hfr, hcl, hd, hce, hs⟩
  | tab qs => obtain ⟨ps, rfl, ht, _⟩ := x; exact key2 (by intro _ e; cases e) (by intro _ _ _ e; cases e; simpa using triples_no_str ht _ _)
theorem ORep.not_freed {C : Cx} {h : Heap} {c : CObj} {o : Obj} (x : ORep C h c o) : o.isFreed = false := by
  cases c with
  | list xs => obtain ⟨items, n, rfl, _⟩ := x; rfl
  | dict kvs ep => obtain ⟨_, es, rs, b, _⟩ := x; obtain ⟨c, d, dt, sl⟩ := o; subst b; rfl
  | set S n => obtain ⟨_, es, ep, t, b, _⟩ := x; obtain ⟨c, d, dt, sl⟩ := o; subst b; rfl
  | cell v => obtain ⟨r, b, _⟩ := x; obtain ⟨c, d, dt, sl⟩ := o; subst b; rfl
  | inst K d sl => obtain ⟨rs, rfl, _⟩ := x; rfl
  | idict fs => obtain ⟨es, n, rfl, _⟩ := x; rfl
  | liter l i => unfold ORep at x; subst x; rfl
  | raw o' => exact x.2.1
  | tab qs => obtain ⟨ps, rfl, _⟩ := x; rfl
/-- a frame's object may be made ready behind us: its names stay -/
noncomputable def Kin (o o' : Obj) : Prop := o' = o ∨ ((∃ es ep, o.data = .dict es ep) ∧ o'.data = o.data)
theorem Kin.refl (o : Obj) : Kin o o := .inl rfl
theorem Kin.trans {a b c : Obj} (x : Kin a b) (y : Kin b c) : Kin a c := by
  rcases x with rfl | ⟨⟨es, ep, hd⟩, e⟩
  · exact y
  · rcases y with rfl | ⟨_, e'⟩
    · exact .inr ⟨⟨es, ep, hd⟩, e⟩
    · exact .inr ⟨⟨es, ep, hd⟩, e'.trans e⟩
theorem Kin.exact {o o' : Obj} (x : Kin o o') (h : ∀ es ep, o.data ≠ .dict es ep) : o' = o := x.elim id fun ⟨⟨es, ep, e⟩, _⟩ => absurd e (h es ep)
theorem Kin.data {o o' : Obj} (x : Kin o o') : o'.data = o.data := by
  rcases x with rfl | ⟨_, e⟩
  · rfl
  · exact e
structure HS (C : Cx) (H : CH) (s : Shared) : Prop where
  base : ∀ b o, C.h₀.get? b = some o → s.heap.get? b = some o
  own : ∀ a c, H a = some c → C.h₀.get? a = none ∧ ∃ o, s.heap.get? a = some o ∧ ORep C s.heap c o
  gens : s.gens = #[]
/-- the frames of the calls under way -/
noncomputable def FrameOk (h₀ : Heap) (H : CH) (h : Heap) (e : Env) : Prop := e.scope.kind = .function ∧ e.scope.isGenerator = false ∧ e.scope.isCoroutine = false ∧ ∃ f o es ep, e.frame = some f ∧ h.get? f = some o ∧ o.data = .dict es ep ∧ H f = none ∧ h₀.get? f = none
noncomputable def Frs (C : Cx) (H : CH) (s : Shared) : Prop := ∀ e ∈ C.fr, FrameOk C.h₀ H s.heap e
structure St (C : Cx) (m : Loc) (H : CH) (s : Shared) : Prop extends HS C H s where
  ns : ∃ mr, s.heap.Ns C.env.locals mr ∧ Knows s.heap m mr
  loc : H C.env.locals = none
  locb : C.h₀.get? C.env.locals = none
  frs : Frs C H s
/-- across a call: all that is not of the clean heap stays -/
structure AfterC (H : CH) (s : Shared) (H' : CH) (s' : Shared) : Prop where
  stay : ∀ b o, H b = none → s.heap.get? b = some o → ∃ o', s'.heap.get? b = some o' ∧ Kin o o'
  grow : ∀ b o, H b = none → s.heap.get? b = some o → H' b = none
  there : ∀ b o, s.heap.get? b = some o → ∃ o', s'.heap.get? b = some o'
  drawn : s'.drawn = s.drawn
  os : s'.os = s.os
/-- within a frame: its own names may turn too -/
structure After (C : Cx) (H : CH) (s : Shared) (H' : CH) (s' : Shared) : Prop where
  stay : ∀ b o, b ≠ C.env.locals → H b = none → s.heap.get? b = some o → ∃ o', s'.heap.get? b = some o' ∧ Kin o o'
  grow : ∀ b o, H b = none → s.heap.get? b = some o → H' b = none
  there : ∀ b o, s.heap.get? b = some o → ∃ o', s'.heap.get? b = some o'
  drawn : s'.drawn = s.drawn
  os : s'.os = s.os
theorem AfterC.after {C : Cx} {H H' : CH} {s s' : Shared} (a : AfterC H s H' s') : After C H s H' s' := ⟨fun b o _ => a.stay b o, a.grow, a.there, a.drawn, a.os⟩
theorem AfterC.refl (H : CH) (s : Shared) : AfterC H s H s := ⟨fun _ o _ e => ⟨o, e, .refl o⟩, fun _ _ h _ => h, fun _ o e => ⟨o, e⟩, rfl, rfl⟩
theorem AfterC.trans {H₁ H₂ H₃ : CH} {s₁ s₂ s₃ : Shared} (a : AfterC H₁ s₁ H₂ s₂) (b : AfterC H₂ s₂ H₃ s₃) : AfterC H₁ s₁ H₃ s₃ where
  stay := fun x o hn e =>
    let ⟨o₁, e₁, k₁⟩ := a.stay x o hn e
    let ⟨o₂, e₂, k₂⟩ := b.stay x o₁ (a.grow x o hn e) e₁
    ⟨o₂, e₂, k₁.trans k₂⟩
  grow := fun x o hn e => let ⟨o₁, e₁, _⟩ := a.stay x o hn e; b.grow x o₁ (a.grow x o hn e) e₁
  there := fun x o e => let ⟨o₁, e₁⟩ := a.there x o e; b.there x o₁ e₁
  drawn := b.drawn.trans a.drawn
  os := b.os.trans a.os
theorem HS.not_imm {C : Cx} {H : CH} {s : Shared} (S : HS C H s) {a : Addr} {o : Obj} (i : Imm o) (e : s.heap.get? a = some o) : H a = none := by
  cases h : H a with
  | none => rfl
  | some c =>
    obtain ⟨_, o', ho, r⟩ := S.own a c h
    rw [e] at ho; cases ho
    exact absurd i r.not_imm
theorem AfterC.tup {C : Cx} {H H' : CH} {s s' : Shared} (S : HS C H s) (a : AfterC H s H' s') : TupKeep s.heap s'.heap := fun b o i e => by
  obtain ⟨o', e', k⟩ := a.stay b _ (S.not_imm i e) e
  rw [k.exact i.2.2.1] at e'; exact e'
theorem St.not_imm {C : Cx} {m : Loc} {H : CH} {s : Shared} (S : St C m H s) {a : Addr} {o : Obj} (i : Imm o) (e : s.heap.get? a = some o) : H a = none ∧ a ≠ C.env.locals := by
  refine ⟨S.toHS.not_imm i e, ?_⟩
  rintro rfl
  obtain ⟨mr, ⟨o', es, ep, ho, hd, _⟩, _⟩ := S.ns
  rw [e] at ho; cases ho; exact i.2.2.1 _ _ hd
theorem After.tup {C : Cx} {m : Loc} {H H' : CH} {s s' : Shared} (S : St C m H s) (a : After C H s H' s') : TupKeep s.heap s'.heap := fun b o i e => by
  obtain ⟨o', e', k⟩ := a.stay b _ (S.not_imm i e).2 (S.not_imm i e).1 e
  rw [k.exact i.2.2.1] at e'; exact e'
theorem After.refl (C : Cx) (H : CH) (s : Shared) : After C H s H s := (AfterC.refl H s).after
theorem St.at_loc {C : Cx} {m : Loc} {H : CH} {s : Shared} (S : St C m H s) : ∃ o, s.heap.get? C.env.locals = some o := by
  obtain ⟨mr, ⟨o, es, ep, ho, _⟩, _⟩ := S.ns; exact ⟨o, ho⟩
theorem After.then {C : Cx} {m' : Loc} {H₁ H₂ H₃ : CH} {s₁ s₂ s₃ : Shared} (S₂ : St C m' H₂ s₂) (a : After C H₁ s₁ H₂ s₂) (b : After C H₂ s₂ H₃ s₃) : After C H₁ s₁ H₃ s₃ where
  stay := fun x o hx hn e =>
    let ⟨o₁, e₁, k₁⟩ := a.stay x o hx hn e
    let ⟨o₂, e₂, k₂⟩ := b.stay x o₁ hx (a.grow x o hn e) e₁
    ⟨o₂, e₂, k₁.trans k₂⟩
  grow := fun x o hn e => by
    by_cases hx : x = C.env.locals
    · subst hx
      obtain ⟨o', e'⟩ := S₂.at_loc
      exact b.grow _ o' (a.grow _ o hn e) e'
    · obtain ⟨o₁, e₁, _⟩ := a.stay x o hx hn e
      exact b.grow x o₁ (a.grow x o hn e) e₁
  there := fun x o e => let ⟨o₁, e₁⟩ := a.there x o e; b.there x o₁ e₁
  drawn := b.drawn.trans a.drawn
  os := b.os.trans a.os
/-- the frames, behind what has happened -/
theorem Frs.keep {C : Cx} {H H' : CH} {s s' : Shared} (F : Frs C H s) (hs : ∀ b o es ep, C.h₀.get? b = none → H b = none → s.heap.get? b = some o → o.data = .dict es ep → H' b = none ∧ ∃ o', s'.heap.get? b = some o' ∧ o'.data = o.data) : Frs C H' s' := fun e he => by
  obtain ⟨a1, a2, a3, f, o, es, ep, hf, ho, hd, hn, hb⟩ := F e he
  obtain ⟨hn', o', ho', hd'⟩ := hs f o es ep hb hn ho hd
  exact ⟨a1, a2, a3, f, o', es, ep, hf, ho', hd'.trans hd, hn', hb⟩
theorem Frs.after {C : Cx} {H H' : CH} {s s' : Shared} (F : Frs C H s) (a : AfterC H s H' s') : Frs C H' s' := F.keep fun b o _ _ _ hn e _ =>
  let ⟨o', e', k⟩ := a.stay b o hn e; ⟨a.grow b o hn e, o', e', k.data⟩
/-- what lives on its own -/
theorem St.toks {C : Cx} {m : Loc} {H : CH} {s : Shared} (S : St C m H s) (tk : Nat) : St C m H { s with toks := tk } := ⟨⟨S.base, S.own, S.gens⟩, S.ns, S.loc, S.locb, S.frs⟩
theorem AfterC.toks {H : CH} (s : Shared) (tk : Nat) : AfterC H s H { s with toks := tk } := ⟨fun _ o _ e => ⟨o, e, .refl o⟩, fun _ _ h _ => h, fun _ o e => ⟨o, e⟩, rfl, rfl⟩
theorem After.toks {C : Cx} {H : CH} (s : Shared) (tk : Nat) : After C H s H { s with toks := tk } := (AfterC.toks s tk).after
theorem St.known {C : Cx} {m : Loc} {H : CH} {s : Shared} (S : St C m H s) {x : Str} {v : V} (e : m.lookup x = some v) : ∃ mr r, s.heap.Ns C.env.locals mr ∧ mr x = some r ∧ VR s.heap v r := by
  obtain ⟨mr, hn, k⟩ := S.ns
  obtain ⟨r, a, b⟩ := k x v e
  exact ⟨mr, r, hn, a, b⟩
theorem St.sub {C : Cx} {m m' : Loc} {H : CH} {s : Shared} (S : St C m H s) (h : ∀ x v, m'.lookup x = some v → m.lookup x = some v) : St C m' H s :=
  ⟨S.toHS, let ⟨mr, hn, k⟩ := S.ns; ⟨mr, hn, fun x v e => k x v (h x v e)⟩, S.loc, S.locb, S.frs⟩
theorem TupKeep.push (h : Heap) (o : Obj) : TupKeep h (h.push o) := fun _ _ _ e => Heap.get?_push_of_some o e
theorem TupKeep.trans {h₁ h₂ h₃ : Heap} (a : TupKeep h₁ h₂) (b : TupKeep h₂ h₃) : TupKeep h₁ h₃ := fun x o i e => b x o i (a x o i e)
theorem TupKeep.of_keep {h h' : Heap} (k : ∀ b o, h.get? b = some o → h'.get? b = some o) : TupKeep h h' := fun b _ _ e => k b _ e
/-- more heap: everything that stood stands -/
theorem HS.more {C : Cx} {H : CH} {s : Shared} (S : HS C H s) {h' : Heap} {tk : Nat} (k : ∀ b o, s.heap.get? b = some o → h'.get? b = some o) : HS C H { s with heap := h', toks := tk } where
  base := fun b o e => k b o (S.base b o e)
  own := fun a c e => let ⟨x, o, ho, r⟩ := S.own a c e; ⟨x, o, k a o ho, r.keep (.of_keep k)⟩
  gens := S.gens
theorem St.more {C : Cx} {m : Loc} {H : CH} {s : Shared} (S : St C m H s) {h' : Heap} {tk : Nat} (k : ∀ b o, s.heap.get? b = some o → h'.get? b = some o) : St C m H { s with heap := h', toks := tk } where
  toHS := S.toHS.more k
  ns := let ⟨mr, hn, kn⟩ := S.ns; ⟨mr, hn.keeps k, kn.keep (.of_keep k)⟩
  loc := S.loc
  locb := S.locb
  frs := S.frs.keep fun b o _ _ _ hn e _ => ⟨hn, o, k b o e, rfl⟩
theorem AfterC.more {H : CH} {s : Shared} {h' : Heap} {tk : Nat} (k : ∀ b o, s.heap.get? b = some o → h'.get? b = some o) : AfterC H s H { s with heap := h', toks := tk } :=
  ⟨fun b o _ e => ⟨o, k b o e, .refl o⟩, fun _ _ h _ => h, fun b o e => ⟨o, k b o e⟩, rfl, rfl⟩
theorem After.more {C : Cx} {H : CH} {s : Shared} {h' : Heap} {tk : Nat} (k : ∀ b o, s.heap.get? b = some o → h'.get? b = some o) : After C H s H { s with heap := h', toks := tk } := (AfterC.more k).after
theorem keep_push (h : Heap) (o : Obj) : ∀ b o', h.get? b = some o' → (h.push o).get? b = some o' := fun _ _ e => Heap.get?_push_of_some o e
/-- a new object of the clean heap -/
theorem HS.alloc {C : Cx} {H : CH} {s : Shared} (S : HS C H s) {o : Obj} {c : CObj} {tk : Nat} (r : ORep C s.heap c o) : HS C (H.set s.heap.objs.size c) { s with heap := s.heap.push o, toks := tk } where
  base := fun b o' e => keep_push _ _ b o' (S.base b o' e)
  own := fun a c' e => by
    by_cases h : a = s.heap.objs.size
    · subst h
      rw [CH.set_same] at e; cases e
      refine ⟨?_, o, Heap.get?_push_size _ r.not_freed, r.keep (.push _ _)⟩
      cases q : C.h₀.get? s.heap.objs.size with
      | none => rfl
      | some o' => exact absurd (Heap.lt_size (S.base _ _ q)) (Nat.lt_irrefl _)
    · rw [CH.set_ne h] at e
      obtain ⟨x, o', ho, r'⟩ := S.own a c' e
      exact ⟨x, o', keep_push _ _ a o' ho, r'.keep (.push _ _)⟩
  gens := S.gens
theorem St.alloc {C : Cx} {m : Loc} {H : CH} {s : Shared} (S : St C m H s) {o : Obj} {c : CObj} {tk : Nat} (r : ORep C s.heap c o) : St C m (H.set s.heap.objs.size c) { s with heap := s.heap.push o, toks := tk } where
  toHS := S.toHS.alloc r
  ns := let ⟨mr, hn, kn⟩ := S.ns; ⟨mr, hn.keeps (keep_push _ _), kn.keep (.push _ _)⟩
  loc := by
    obtain ⟨o', e⟩ := S.at_loc
    rw [CH.set_ne (Nat.ne_of_lt (Heap.lt_size e))]; exact S.loc
  locb := S.locb
  frs := S.frs.keep fun b o' _ _ _ hn e _ => ⟨by rw [CH.set_ne (Nat.ne_of_lt (Heap.lt_size e))]; exact hn, o', keep_push _ _ b o' e, rfl⟩
theorem AfterC.alloc {H : CH} {s : Shared} {o : Obj} {c : CObj} {tk : Nat} : AfterC H s (H.set s.heap.objs.size c) { s with heap := s.heap.push o, toks := tk } where
  stay := fun b o' _ e => ⟨o', keep_push _ _ b o' e, .refl o'⟩
  grow := fun b o' hn e => by rw [CH.set_ne (Nat.ne_of_lt (Heap.lt_size e))]; exact hn
  there := fun b o' e => ⟨o', keep_push _ _ b o' e⟩
  drawn := rfl
  os := rfl
theorem After.alloc {C : Cx} {H : CH} {s : Shared} {o : Obj} {c : CObj} {tk : Nat} : After C H s (H.set s.heap.objs.size c) { s with heap := s.heap.push o, toks := tk } := AfterC.alloc.after
theorem HS.fresh {C : Cx} {H : CH} {s : Shared} (S : HS C H s) : H s.heap.objs.size = none := by
  cases h : H s.heap.objs.size with
  | none => rfl
  | some c => obtain ⟨_, o, ho, _⟩ := S.own _ _ h; exact absurd (Heap.lt_size ho) (Nat.lt_irrefl _)
theorem HS.freshb {C : Cx} {H : CH} {s : Shared} (S : HS C H s) : C.h₀.get? s.heap.objs.size = none := by
  cases q : C.h₀.get? s.heap.objs.size with
  | none => rfl
  | some o' => exact absurd (Heap.lt_size (S.base _ _ q)) (Nat.lt_irrefl _)
/-- an object of the clean heap turns -/
theorem HS.upd {C : Cx} {H : CH} {s : Shared} (S : HS C H s) {a : Addr} {c c' : CObj} (hc : H a = some c) {h' : Heap} {o' : Obj} {tk : Nat} (hs : Heap.SameBut a s.heap h') (ho : h'.get? a = some o') (r : ORep C s.heap c' o') :
    HS C (H.set a c') { s with heap := h', toks := tk } ∧ TupKeep s.heap h' := by
  obtain ⟨ha0, oa, hoa, ra⟩ := S.own a c hc
  have k : ∀ b o, b ≠ a → s.heap.get? b = some o → h'.get? b = some o := fun b o hb e => (hs.2 b hb).trans e
  have tk' : TupKeep s.heap h' := fun b o i e => k b _ (fun q => by subst q; rw [hoa] at e; cases e; exact ra.not_imm i) e
  refine ⟨⟨fun b o e => k b o (fun q => by subst q; rw [ha0] at e; cases e) (S.base b o e), fun b d e => ?_, S.gens⟩, tk'⟩
  by_cases h : b = a
  · subst h; rw [CH.set_same] at e; cases e; exact ⟨ha0, o', ho, r.keep tk'⟩
  · rw [CH.set_ne h] at e
    obtain ⟨x, o, hob, rb⟩ := S.own b d e
    exact ⟨x, o, k b o h hob, rb.keep tk'⟩
theorem St.upd {C : Cx} {m : Loc} {H : CH} {s : Shared} (S : St C m H s) {a : Addr} {c c' : CObj} (hc : H a = some c) {h' : Heap} {o' : Obj} {tk : Nat} (hs : Heap.SameBut a s.heap h') (ho : h'.get? a = some o') (r : ORep C s.heap c' o') :
    St C m (H.set a c') { s with heap := h', toks := tk } := by
  have hne : C.env.locals ≠ a := fun e => by rw [← e, S.loc] at hc; cases hc
  obtain ⟨hS, tk'⟩ := S.toHS.upd (tk := tk) hc hs ho r
  refine ⟨hS, ?_, ?_, S.locb, S.frs.keep fun b o _ _ _ hn e _ => ?_⟩
  · obtain ⟨mr, hn, kn⟩ := S.ns; exact ⟨mr, hn.sameBut hs hne, kn.keep tk'⟩
  · show H.set a c' C.env.locals = none; rw [CH.set_ne hne]; exact S.loc
  · have hb : b ≠ a := fun q => by subst q; rw [hn] at hc; cases hc
    exact ⟨by rw [CH.set_ne hb]; exact hn, o, (hs.2 b hb).trans e, rfl⟩
theorem AfterC.upd {H : CH} {s : Shared} {a : Addr} {c c' : CObj} (hc : H a = some c) {h' : Heap} {tk : Nat} (hs : Heap.SameBut a s.heap h') {o' : Obj} (ho : h'.get? a = some o') : AfterC H s (H.set a c') { s with heap := h', toks := tk } where
  stay := fun b o hn e => ⟨o, (hs.2 b (fun q => by subst q; rw [hn] at hc; cases hc)).trans e, .refl o⟩
  grow := fun b o hn _ => by rw [CH.set_ne (fun q => by subst q; rw [hn] at hc; cases hc)]; exact hn
  there := fun b o e => by
    by_cases q : b = a
    · subst q; exact ⟨o', ho⟩
    · exact ⟨o, (hs.2 b q).trans e⟩
  drawn := rfl
  os := rfl
theorem After.upd {C : Cx} {H : CH} {s : Shared} {a : Addr} {c c' : CObj} (hc : H a = some c) {h' : Heap} {tk : Nat} (hs : Heap.SameBut a s.heap h') {o' : Obj} (ho : h'.get? a = some o') : After C H s (H.set a c') { s with heap := h', toks := tk } := (AfterC.upd hc hs ho).after
/-- a hidden object turns: it is none of the clean heap's, no tuple, no frame, not of the base -/
theorem St.hid {C : Cx} {m : Loc} {H : CH} {s : Shared} (S : St C m H s) {a : Addr} {oa : Obj} (ha : s.heap.get? a = some oa) (hH : H a = none) (hb : C.h₀.get? a = none) (hd : ∀ es ep, oa.data ≠ .dict es ep) (ht : ¬ Imm oa) {h' : Heap} {tk : Nat}
    (hs : Heap.ExtBut a s.heap h') : St C m H { s with heap := h', toks := tk } := by
  have hl : a ≠ C.env.locals := fun e => by
    subst e
    obtain ⟨mr, ⟨o, es, ep, ho, hd', _⟩, _⟩ := S.ns
    rw [ha] at ho; cases ho; exact hd _ _ hd'
  have tk' : TupKeep s.heap h' := fun b o i e => hs b _ (fun q => by subst q; rw [ha] at e; cases e; exact ht i) e
  refine ⟨⟨fun b o e => hs b o (fun q => by subst q; rw [hb] at e; cases e) (S.base b o e), fun b d e => ?_, S.gens⟩, ?_, S.loc, S.locb, S.frs.keep fun b o es ep _ hn e hde => ?_⟩
  · obtain ⟨x, o, hob, rb⟩ := S.own b d e
    exact ⟨x, o, hs b o (fun q => by subst q; rw [hH] at e; cases e) hob, rb.keep tk'⟩
  · obtain ⟨mr, hn, kn⟩ := S.ns; exact ⟨mr, hn.extBut hs (Ne.symm hl), kn.keep tk'⟩
  · exact ⟨hn, o, hs b o (fun q => by subst q; rw [ha] at e; cases e; exact hd _ _ hde) e, rfl⟩
theorem After.hid {C : Cx} {H H' : CH} {s s' : Shared} (a : After C H s H' s') {I : Addr} (hI : s.heap.get? I = none) {h' : Heap} {tk : Nat} (hs : Heap.ExtBut I s'.heap h') : After C H s H' { s' with heap := h', toks := tk } where
  stay := fun b o hb hn e => let ⟨o', e', k⟩ := a.stay b o hb hn e; ⟨o', hs b o' (fun q => by subst q; rw [hI] at e; cases e) e', k⟩
  grow := a.grow
  there := fun b o e => let ⟨o', e'⟩ := a.there b o e; ⟨o', hs b o' (fun q => by subst q; rw [hI] at e; cases e) e'⟩
  drawn := a.drawn
  os := a.os
/-- a local is stored -/
theorem St.store {C : Cx} {m : Loc} {H : CH} {s : Shared} (S : St C m H s) {x : Str} {v : V} {r : Value} (hv : VR s.heap v r) {mr : Str → Option Value} (hk : Knows s.heap m mr) {h' : Heap} {tk : Nat}
    (hn : h'.Ns C.env.locals (fun y => if y = x then some r else mr y)) (hs : Heap.SameBut C.env.locals s.heap h') : St C ((x, v) :: m) H { s with heap := h', toks := tk } := by
  have tk' : TupKeep s.heap h' := fun b o i e => (hs.2 b (S.not_imm i e).2).trans e
  refine ⟨⟨fun b o e => (hs.2 b (fun q => by subst q; rw [S.locb] at e; cases e)).trans (S.base b o e), fun b d e => ?_, S.gens⟩, ⟨_, hn, fun y w e => ?_⟩, S.loc, S.locb, fun e he => ?_⟩
  · obtain ⟨z, o, hob, rb⟩ := S.own b d e
    exact ⟨z, o, (hs.2 b (fun q => by subst q; rw [S.loc] at e; cases e)).trans hob, rb.keep tk'⟩
  · rw [List.lookup_cons] at e
    by_cases hy : y = x
    · subst hy
      simp only [beq_self_eq_true] at e; cases e
      exact ⟨r, by simp, hv.keep tk'⟩
    · have hb : (y == x) = false := beq_eq_false_iff_ne.mpr hy
      simp only [hb] at e
      obtain ⟨r', a, b⟩ := hk y w e
      exact ⟨r', by simp [hy, a], b.keep tk'⟩
  · obtain ⟨a1, a2, a3, f, o, es, ep, hf, ho, hd, hn', hb⟩ := S.frs e he
    by_cases hfl : f = C.env.locals
    · subst hfl
      obtain ⟨o', es', ep', ho', hd', _⟩ := hn
      exact ⟨a1, a2, a3, _, o', es', ep', hf, ho', hd', hn', hb⟩
    · exact ⟨a1, a2, a3, f, o, es, ep, hf, (hs.2 f hfl).trans ho, hd, hn', hb⟩
theorem After.store {C : Cx} {H : CH} {s : Shared} {h' : Heap} {tk : Nat} {mr : Str → Option Value} (hn : h'.Ns C.env.locals mr) (hs : Heap.SameBut C.env.locals s.heap h') : After C H s H { s with heap := h', toks := tk } :=
  ⟨fun b o hb _ e => ⟨o, (hs.2 b hb).trans e, .refl o⟩, fun _ _ h _ => h, fun b o e => by
    by_cases q : b = C.env.locals
    · subst q; obtain ⟨o', es, ep, ho, _⟩ := hn; exact ⟨o', ho⟩
    · exact ⟨o, (hs.2 b q).trans e⟩, rfl, rfl⟩
/-- less is known of the heap -/
noncomputable def CH.Le (H H' : CH) : Prop := ∀ a c, H a = some c → H' a = some c
theorem CH.Le.absent {H H' : CH} (l : H.Le H') {a : Addr} (h : H' a = Option.none) : H a = Option.none := by
  cases e : H a with
  | none => rfl
  | some c => rw [l a c e] at h; cases h
theorem HS.less {C : Cx} {H H' : CH} {s : Shared} (S : HS C H' s) (l : H.Le H') : HS C H s := ⟨S.base, fun a c e => S.own a c (l a c e), S.gens⟩
theorem Frs.less {C : Cx} {H H' : CH} {s : Shared} (F : Frs C H' s) (l : H.Le H') : Frs C H s := fun e he =>
  let ⟨a1, a2, a3, f, o, es, ep, hf, ho, hd, hn, hb⟩ := F e he; ⟨a1, a2, a3, f, o, es, ep, hf, ho, hd, l.absent hn, hb⟩
theorem St.less {C : Cx} {m : Loc} {H H' : CH} {s : Shared} (S : St C m H' s) (l : H.Le H') : St C m H s := ⟨S.toHS.less l, S.ns, l.absent S.loc, S.locb, S.frs.less l⟩
end
end Mine
end
section
open PySem PySem.Calls PySem.W PyProof.Rows
set_option maxRecDepth 100000
namespace Mine
noncomputable section
noncomputable abbrev NoE : Value → Shared → Prop := fun _ _ => False
inductive Fl where
  | next | brk | cont
  | ret (v : V)
noncomputable def FlR (h : Heap) : Fl → Flow → Prop
  | .next, f => f = .next
  | .brk, f => f = .brk
  | .cont, f => f = .cont
  | .ret v, f => ∃ r, f = .ret r ∧ VR h v r
inductive PV (C : Cx) (H : CH) (s : Shared) (Q : V → Loc → CH → Prop) (r : Value) (s' : Shared) : Prop
  | mk (v : V) (m' : Loc) (H' : CH) (hv : VR s'.heap v r) (hS : St C m' H' s') (ha : After C H s H' s') (q : Q v m' H') : PV C H s Q r s'
inductive PA {α : Type} (C : Cx) (H : CH) (s : Shared) (Q : α → Loc → CH → Prop) (b : α) (s' : Shared) : Prop
  | mk (m' : Loc) (H' : CH) (hS : St C m' H' s') (ha : After C H s H' s') (q : Q b m' H') : PA C H s Q b s'
inductive PL (C : Cx) (H : CH) (s : Shared) (Q : List V → Loc → CH → Prop) (rs : List Value) (s' : Shared) : Prop
  | mk (vs : List V) (m' : Loc) (H' : CH) (hv : VRs s'.heap vs rs) (hS : St C m' H' s') (ha : After C H s H' s') (q : Q vs m' H') : PL C H s Q rs s'
inductive PF (C : Cx) (H : CH) (s : Shared) (Q : Fl → Loc → CH → Prop) (f : Flow) (s' : Shared) : Prop
  | mk (fl : Fl) (m' : Loc) (H' : CH) (hf : FlR s'.heap fl f) (hS : St C m' H' s') (ha : After C H s H' s') (q : Q fl m' H') : PF C H s Q f s'
section
variable (C : Cx) (A : Around)
noncomputable def EV (e : PySem.Expr) (m : Loc) (H : CH) (Q : V → Loc → CH → Prop) : Prop := ∀ s, St C m H s → wpAny (model C.prog C.w) A (eval e C.env) (PV C H s Q) NoE s
noncomputable def EB (e : PySem.Expr) (m : Loc) (H : CH) (Q : Bool → Loc → CH → Prop) : Prop := ∀ s, St C m H s → wpAny (model C.prog C.w) A (isTrue e C.env (eval e C.env)) (PA C H s Q) NoE s
noncomputable def ES (st : Stmt) (m : Loc) (H : CH) (Q : Fl → Loc → CH → Prop) : Prop := ∀ s, St C m H s → wpAny (model C.prog C.w) A (exec st C.env) (PF C H s Q) NoE s
noncomputable def EX (b : List Stmt) (m : Loc) (H : CH) (Q : Fl → Loc → CH → Prop) : Prop := ∀ s, St C m H s → wpAny (model C.prog C.w) A (execs b C.env) (PF C H s Q) NoE s
noncomputable def ASG (t : PySem.Expr) (v : V) (m : Loc) (H : CH) (Q : Loc → CH → Prop) : Prop := ∀ s r, St C m H s → VR s.heap v r → wpAny (model C.prog C.w) A (assign t C.env r) (PA C H s fun _ => Q) NoE s
/-- operations upon values -/
noncomputable def O1 (t : Value → Sem Value) (v : V) (m : Loc) (H : CH) (Q : V → Loc → CH → Prop) : Prop := ∀ s r, St C m H s → VR s.heap v r → wpAny (model C.prog C.w) A (t r) (PV C H s Q) NoE s
noncomputable def O2 (t : Value → Value → Sem Value) (v w : V) (m : Loc) (H : CH) (Q : V → Loc → CH → Prop) : Prop := ∀ s r q, St C m H s → VR s.heap v r → VR s.heap w q → wpAny (model C.prog C.w) A (t r q) (PV C H s Q) NoE s
noncomputable def O3 (t : Value → Value → Value → Sem Unit) (v w x : V) (m : Loc) (H : CH) (Q : Loc → CH → Prop) : Prop := ∀ s r q p, St C m H s → VR s.heap v r → VR s.heap w q → VR s.heap x p → wpAny (model C.prog C.w) A (t r q p) (PA C H s fun _ => Q) NoE s
noncomputable def OB (t : Value → Sem Bool) (v : V) (m : Loc) (H : CH) (Q : Bool → Loc → CH → Prop) : Prop := ∀ s r, St C m H s → VR s.heap v r → wpAny (model C.prog C.w) A (t r) (PA C H s Q) NoE s
noncomputable def OL (t : List Value → Sem Value) (vs : List V) (m : Loc) (H : CH) (Q : V → Loc → CH → Prop) : Prop := ∀ s rs, St C m H s → VRs s.heap vs rs → wpAny (model C.prog C.w) A (t rs) (PV C H s Q) NoE s
noncomputable def EL (es : List PySem.Expr) (m : Loc) (H : CH) (Q : List V → Loc → CH → Prop) : Prop := ∀ s pos, St C m H s → wpAny (model C.prog C.w) A (spliced (backTo pos (starEach es C.env))) (PL C H s Q) NoE s
end
section
variable {C : Cx} {A : Around} {m : Loc} {H : CH} {s : Shared}
theorem PV.same {v : V} {r : Value} {Q : V → Loc → CH → Prop} (S : St C m H s) (hv : VR s.heap v r) (q : Q v m H) (tk : Nat) : PV C H s Q r { s with toks := tk } := ⟨v, m, H, hv, S.toks tk, .toks s tk, q⟩
theorem PV.here {v : V} {r : Value} {Q : V → Loc → CH → Prop} (S : St C m H s) (hv : VR s.heap v r) (q : Q v m H) : PV C H s Q r s := ⟨v, m, H, hv, S, .refl .., q⟩
theorem PA.here {α : Type} {b : α} {Q : α → Loc → CH → Prop} (S : St C m H s) (q : Q b m H) : PA C H s Q b s := ⟨m, H, S, .refl .., q⟩
theorem PA.same {α : Type} {b : α} {Q : α → Loc → CH → Prop} (S : St C m H s) (q : Q b m H) (tk : Nat) : PA C H s Q b { s with toks := tk } := ⟨m, H, S.toks tk, .toks s tk, q⟩
theorem PF.here {f : Fl} {r : Flow} {Q : Fl → Loc → CH → Prop} (S : St C m H s) (hf : FlR s.heap f r) (q : Q f m H) : PF C H s Q r s := ⟨f, m, H, hf, S, .refl .., q⟩
theorem PV.mono {H₁ : CH} {s₁ : Shared} {m₁ : Loc} {Q : V → Loc → CH → Prop} {r : Value} {s₂ : Shared} (S₁ : St C m₁ H₁ s₁) (a : After C H s H₁ s₁) (x : PV C H₁ s₁ Q r s₂) : PV C H s Q r s₂ :=
  let ⟨v, m', H', hv, S', a', q⟩ := x; ⟨v, m', H', hv, S', a.then S₁ a', q⟩
theorem PA.mono {α : Type} {H₁ : CH} {s₁ : Shared} {m₁ : Loc} {Q : α → Loc → CH → Prop} {r : α} {s₂ : Shared} (S₁ : St C m₁ H₁ s₁) (a : After C H s H₁ s₁) (x : PA C H₁ s₁ Q r s₂) : PA C H s Q r s₂ :=
  let ⟨m', H', S', a', q⟩ := x; ⟨m', H', S', a.then S₁ a', q⟩
theorem PF.mono {H₁ : CH} {s₁ : Shared} {m₁ : Loc} {Q : Fl → Loc → CH → Prop} {r : Flow} {s₂ : Shared} (S₁ : St C m₁ H₁ s₁) (a : After C H s H₁ s₁) (x : PF C H₁ s₁ Q r s₂) : PF C H s Q r s₂ :=
  let ⟨v, m', H', hv, S', a', q⟩ := x; ⟨v, m', H', hv, S', a.then S₁ a', q⟩
/-- monotony -/
theorem EV.mono {e : PySem.Expr} {Q Q' : V → Loc → CH → Prop} (h : EV C A e m H Q) (q : ∀ v m' H', Q v m' H' → Q' v m' H') : EV C A e m H Q' := fun s S =>
  wpAny_mono (h s S) (fun r s' ⟨v, m', H', a, b, c, d⟩ => ⟨v, m', H', a, b, c, q _ _ _ d⟩) fun _ _ x => x
theorem EX.mono {e : List Stmt} {Q Q' : Fl → Loc → CH → Prop} (h : EX C A e m H Q) (q : ∀ v m' H', Q v m' H' → Q' v m' H') : EX C A e m H Q' := fun s S =>
  wpAny_mono (h s S) (fun r s' ⟨v, m', H', a, b, c, d⟩ => ⟨v, m', H', a, b, c, q _ _ _ d⟩) fun _ _ x => x
theorem ES.mono {e : Stmt} {Q Q' : Fl → Loc → CH → Prop} (h : ES C A e m H Q) (q : ∀ v m' H', Q v m' H' → Q' v m' H') : ES C A e m H Q' := fun s S =>
  wpAny_mono (h s S) (fun r s' ⟨v, m', H', a, b, c, d⟩ => ⟨v, m', H', a, b, c, q _ _ _ d⟩) fun _ _ x => x
theorem EB.mono {e : PySem.Expr} {Q Q' : Bool → Loc → CH → Prop} (h : EB C A e m H Q) (q : ∀ v m' H', Q v m' H' → Q' v m' H') : EB C A e m H Q' := fun s S =>
  wpAny_mono (h s S) (fun r s' ⟨m', H', b, c, d⟩ => ⟨m', H', b, c, q _ _ _ d⟩) fun _ _ x => x
noncomputable def Sub (m' m : Loc) : Prop := ∀ x v, m'.lookup x = some v → m.lookup x = some v
theorem EX.sub {e : List Stmt} {m' : Loc} {Q : Fl → Loc → CH → Prop} (hs : Sub m' m) (h : EX C A e m' H Q) : EX C A e m H Q := fun s S => h s (S.sub hs)
theorem Sub.nil {m : Loc} : Sub [] m := fun _ _ e => by simp at e
theorem Sub.cons {m m' : Loc} {x : Str} {v : V} (h : m.lookup x = some v) (r : Sub m' m) : Sub ((x, v) :: m') m := fun y w e => by
  rw [List.lookup_cons] at e
  by_cases hy : y = x
  · subst hy; simp only [beq_self_eq_true] at e; cases e; exact h
  · have hb : (y == x) = false := beq_eq_false_iff_ne.mpr hy
    simp only [hb] at e; exact r y w e
theorem EV_local {x : Str} {p : Pos} {v : V} {Q : V → Loc → CH → Prop} (hm : m.lookup x = some v) (h : Q v m H)
    (hk : C.env.scope.kind = .function := by with_unfolding_all rfl) (hl : C.env.kindOf x = some .local := by with_unfolding_all rfl) (hd : (x == ("__debug__" : Str)) = false := by decide) : EV C A (.Name x p) m H Q := fun s S => by
  obtain ⟨mr, r, hn, hr, hv⟩ := S.known hm
  exact wpAny_Name (wpAny_loadName_local hk hl hn hr (.here S hv h)) hd
theorem VR.con_inv {h : Heap} {v r : Value} (x : VR h (.con v) r) : r = v := by unfold VR at x; exact x
theorem VR.con {h : Heap} {v : Value} : VR h (.con v) v := by unfold VR; rfl
theorem VR.ref {h : Heap} {a : Addr} : VR h (.ref a) (.ref a) := by unfold VR; rfl
theorem VR.ref_inv {h : Heap} {a : Addr} {r : Value} (x : VR h (.ref a) r) : r = .ref a := by unfold VR at x; exact x
theorem VR.int {h : Heap} {i : Int} {t : Tok} : VR h (.int i) (.int i t) := by unfold VR; exact ⟨t, rfl⟩
theorem VR.int_inv {h : Heap} {i : Int} {r : Value} (x : VR h (.int i) r) : ∃ t, r = .int i t := by unfold VR at x; exact x
theorem VR.str_inv {h : Heap} {i : Str} {r : Value} (x : VR h (.str i) r) : ∃ t, r = .str i t := by unfold VR at x; exact x
theorem VR.tup_inv {h : Heap} {l : List V} {r : Value} (x : VR h (.tup l) r) : ∃ a items n, r = .ref a ∧ h.get? a = some (seqObj "tuple" items n) ∧ VRs h l items.toList := by unfold VR at x; exact x
theorem VR.tup {h : Heap} {l : List V} {a : Addr} {items : Array Value} {n : Nat} (e : h.get? a = some (seqObj "tuple" items n)) (hs : VRs h l items.toList) : VR h (.tup l) (.ref a) := by unfold VR; exact ⟨a, items, n, rfl, e, hs⟩
theorem St.cell {c : Addr} {v : Option V} (S : HS C H s) (hc : H c = some (.cell v)) : ∃ r, s.heap.IsCell c r ∧ OptR s.heap v r := by
  obtain ⟨_, o, ho, r, hd, hr⟩ := S.own _ _ hc
  exact ⟨r, ⟨o, ho, hd⟩, hr⟩
theorem OptR.some_inv {h : Heap} {v : V} {r : Option Value} (x : OptR h (some v) r) : ∃ q, r = some q ∧ VR h v q := by
  cases r with
  | none => exact x.elim
  | some q => exact ⟨q, rfl, x⟩
theorem EV_cell {x : Str} {p : Pos} {c : Addr} {v : V} {Q : V → Loc → CH → Prop} (hc : C.env.cells.lookup x = some c) (hm : H c = some (.cell (some v))) (h : Q v m H)
    (hk : C.env.scope.kind = .function := by with_unfolding_all rfl) (hl : C.env.kindOf x = some .cell := by with_unfolding_all rfl) (hd : (x == ("__debug__" : Str)) = false := by decide) : EV C A (.Name x p) m H Q := fun s S => by
  obtain ⟨r, hI, hr⟩ := St.cell S.toHS hm
  obtain ⟨q, rfl, hq⟩ := hr.some_inv
  exact wpAny_Name (wpAny_loadName_cell hk hl hc hI (.here S hq h)) hd
theorem EV_free {x : Str} {p : Pos} {c : Addr} {v : V} {Q : V → Loc → CH → Prop} (hc : C.env.cells.lookup x = some c) (hm : H c = some (.cell (some v))) (h : Q v m H)
    (hk : C.env.scope.kind = .function := by with_unfolding_all rfl) (hl : C.env.kindOf x = some .free := by with_unfolding_all rfl) (hd : (x == ("__debug__" : Str)) = false := by decide) (hn : (x == ("__classdict__" : Str)) = false := by decide) : EV C A (.Name x p) m H Q := fun s S => by
  obtain ⟨r, hI, hr⟩ := St.cell S.toHS hm
  obtain ⟨q, rfl, hq⟩ := hr.some_inv
  exact wpAny_Name (wpAny_loadName_free hk hl hc hI (.here S hq h) hn) hd
theorem VR.rng_inv {h : Heap} {a b c : Int} {r : Value} (x : VR h (.rng a b c) r) : ∃ z t u w, r = .ref z ∧ h.get? z = some { cls := .type "range", dict := none, data := .fields #[.int a t, .int b u, .int c w], slots := #[] } := by unfold VR at x; exact x
theorem VR.rng {h : Heap} {a b c : Int} {z : Addr} {t u w : Tok} (e : h.get? z = some { cls := .type "range", dict := none, data := .fields #[.int a t, .int b u, .int c w], slots := #[] }) : VR h (.rng a b c) (.ref z) := by unfold VR; exact ⟨z, t, u, w, rfl, e⟩
theorem VR.imm_inv {h : Heap} {o : Obj} {r : Value} (x : VR h (.imm o) r) : Imm o ∧ ∃ a, r = .ref a ∧ h.get? a = some o := by unfold VR at x; exact x
theorem VR.imm {h : Heap} {o : Obj} {a : Addr} (i : Imm o) (e : h.get? a = some o) : VR h (.imm o) (.ref a) := by unfold VR; exact ⟨i, a, rfl, e⟩
theorem VR.fn_inv {h : Heap} {name qual : Str} {params : Arguments} {body : PySem.Expr} {scope : Scope} {cl : List (Str × Addr)} {r : Value} (x : VR h (.fn name qual params body scope cl) r) :
    ∃ a pm c ctv, r = .ref a ∧ h.get? a = some (kla_obj name qual params body scope cl pm c ctv) ∧ h.CodeRec (.ref c) qual := by unfold VR at x; exact x
theorem VR.fn {h : Heap} {name qual : Str} {params : Arguments} {body : PySem.Expr} {scope : Scope} {cl : List (Str × Addr)} {a c : Addr} {pm ctv : Value} (e : h.get? a = some (kla_obj name qual params body scope cl pm c ctv)) (hc : h.CodeRec (.ref c) qual) :
    VR h (.fn name qual params body scope cl) (.ref a) := by unfold VR; exact ⟨a, pm, c, ctv, rfl, e, hc⟩
/-- what the base's names say -/
structure Names (C : Cx) (mg mb : Str → Option Value) : Prop where
  g : C.h₀.Ns C.env.globals mg
  b : C.h₀.Ns C.env.builtins mb
theorem EV_int {i : Int} {k : Nat} {p : Pos} {Q : V → Loc → CH → Prop} (h : Q (.int i) m H) : EV C A (.Constant (.int i) k p) m H Q := fun s S => wpAny_Constant_int (.same S .int h _)
theorem EV_none {k : Nat} {p : Pos} {Q : V → Loc → CH → Prop} (h : Q .none m H) : EV C A (.Constant .none k p) m H Q := fun s S => wpAny_Constant_none (.here S .con h)
theorem EV_bool {b : Bool} {k : Nat} {p : Pos} {Q : V → Loc → CH → Prop} (h : Q (.bool b) m H) : EV C A (.Constant (.bool b) k p) m H Q := fun s S => wpAny_Constant_bool (.here S .con h)
theorem EV_bin {l r : PySem.Expr} {op : Operator} {p : Pos} {Q : V → Loc → CH → Prop} (h : EV C A l m H fun v m₁ H₁ => EV C A r m₁ H₁ fun w m₂ H₂ => O2 C A (binaryOp op) v w m₂ H₂ Q) : EV C A (.BinOp l op r p) m H Q := fun s S => by
  refine wpAny_BinOp (wpAny_mono (h s S) ?_ fun _ _ x => x)
  rintro a s₁ ⟨v, m₁, H₁, ra, S₁, af₁, h₁⟩
  refine wpAny_mono (h₁ s₁ S₁) ?_ fun _ _ x => x
  rintro b s₂ ⟨w, m₂, H₂, rb, S₂, af₂, h₂⟩
  exact wpAny_mono (h₂ s₂ a b S₂ (ra.keep (af₂.tup S₁)) rb) (fun _ _ x => x.mono S₂ (af₁.then S₁ af₂)) fun _ _ x => x
theorem EV_cmp {l r : PySem.Expr} {op : CmpOp} {p : Pos} {Q : V → Loc → CH → Prop} (h : EV C A l m H fun v m₁ H₁ => EV C A r m₁ H₁ fun w m₂ H₂ => O2 C A (compareOp op) v w m₂ H₂ Q)
    (hm : behindInMarks op r = false := by with_unfolding_all rfl) : EV C A (.Compare l [op] [r] p) m H Q := fun s S => by
  refine wpAny_Compare1 (wpAny_mono (h s S) ?_ fun _ _ x => x) hm
  rintro a s₁ ⟨v, m₁, H₁, ra, S₁, af₁, h₁⟩
  refine wpAny_mono (h₁ s₁ S₁) ?_ fun _ _ x => x
  rintro b s₂ ⟨w, m₂, H₂, rb, S₂, af₂, h₂⟩
  exact wpAny_mono (h₂ s₂ a b S₂ (ra.keep (af₂.tup S₁)) rb) (fun _ _ x => x.mono S₂ (af₁.then S₁ af₂)) fun _ _ x => x
/-- the comparison's answer is a bool -/
theorem EB_cmp {l r : PySem.Expr} {op : CmpOp} {p : Pos} {Q : Bool → Loc → CH → Prop} (h : EV C A l m H fun v m₁ H₁ => EV C A r m₁ H₁ fun w m₂ H₂ => O2 C A (compareOp op) v w m₂ H₂ fun x m₃ H₃ => ∃ b, x = .bool b ∧ Q b m₃ H₃)
    (hm : behindInMarks op r = false := by with_unfolding_all rfl) : EB C A (.Compare l [op] [r] p) m H Q := fun s S => by
  refine wpAny_isTrue_Compare1 (wpAny_mono (h s S) ?_ fun _ _ x => x) hm
  rintro a s₁ ⟨v, m₁, H₁, ra, S₁, af₁, h₁⟩
  refine wpAny_mono (h₁ s₁ S₁) ?_ fun _ _ x => x
  rintro b s₂ ⟨w, m₂, H₂, rb, S₂, af₂, h₂⟩
  refine wpAny_mono (h₂ s₂ a b S₂ (ra.keep (af₂.tup S₁)) rb) ?_ fun _ _ x => x
  rintro c s₃ ⟨x, m₃, H₃, rc, S₃, af₃, b', rfl, q⟩
  rw [rc.con_inv]
  exact wpAny_truthy_bool ⟨m₃, H₃, S₃, (af₁.then S₁ af₂).then S₂ af₃, q⟩
theorem EV_un {x : PySem.Expr} {op : UnaryOp} {p : Pos} {Q : V → Loc → CH → Prop} (h : EV C A x m H fun v m₁ H₁ => O1 C A (unaryOp op) v m₁ H₁ Q) : EV C A (.UnaryOp op x p) m H Q := fun s S => by
  refine wpAny_UnaryOp (wpAny_mono (h s S) ?_ fun _ _ x => x)
  rintro a s₁ ⟨v, m₁, H₁, ra, S₁, af₁, h₁⟩
  exact wpAny_mono (h₁ s₁ a S₁ ra) (fun _ _ x => x.mono S₁ af₁) fun _ _ x => x
theorem EB_not {x : PySem.Expr} {p : Pos} {Q : Bool → Loc → CH → Prop} (h : EB C A x m H fun b => Q (!b)) : EB C A (.UnaryOp .Not x p) m H Q := fun s S =>
  wpAny_isTrue_Not (wpAny_mono (h s S) (fun b s' ⟨m', H', a, c, d⟩ => ⟨m', H', a, c, d⟩) fun _ _ x => x)
theorem EB_val {e : PySem.Expr} {Q : Bool → Loc → CH → Prop} (h : EV C A e m H fun v m₁ H₁ => OB C A truthy v m₁ H₁ Q) (he : ∀ whole, isTrue e C.env whole = (do let v ← whole; standAt e.pos; holding [v] (truthy v)) := by intro _; with_unfolding_all rfl) : EB C A e m H Q := fun s S => by
  refine wpAny_isTrue_value (wpAny_mono (h s S) ?_ fun _ _ x => x) (he _)
  rintro a s₁ ⟨v, m₁, H₁, ra, S₁, af₁, h₁⟩
  exact wpAny_mono (h₁ s₁ a S₁ ra) (fun _ _ x => x.mono S₁ af₁) fun _ _ x => x
theorem EV_if {t b o : PySem.Expr} {p : Pos} {Q : V → Loc → CH → Prop} (h : EB C A t m H fun c m₁ H₁ => (c = true → EV C A b m₁ H₁ Q) ∧ (c = false → EV C A o m₁ H₁ Q)) : EV C A (.IfExp t b o p) m H Q := fun s S => by
  refine wpAny_IfExp (wpAny_mono (h s S) ?_ fun _ _ x => x)
  rintro c s₁ ⟨m₁, H₁, S₁, af₁, h₁⟩
  cases c with
  | true => exact wpAny_mono (h₁.1 rfl s₁ S₁) (fun _ _ x => x.mono S₁ af₁) fun _ _ x => x
  | false => exact wpAny_mono (h₁.2 rfl s₁ S₁) (fun _ _ x => x.mono S₁ af₁) fun _ _ x => x
theorem EB_and {x y : PySem.Expr} {p : Pos} {Q : Bool → Loc → CH → Prop} (h : EB C A x m H fun c m₁ H₁ => (c = true → EB C A y m₁ H₁ Q) ∧ (c = false → Q false m₁ H₁)) : EB C A (.BoolOp .And [x, y] p) m H Q := fun s S => by
  refine wpAny_isTrue_BoolOp (wpAny_allTrue_And_cons (wpAny_mono (h s S) ?_ fun _ _ x => x))
  rintro c s₁ ⟨m₁, H₁, S₁, af₁, h₁⟩
  cases c with
  | true =>
    refine wpAny_allTrue_And_cons (wpAny_mono (h₁.1 rfl s₁ S₁) ?_ fun _ _ x => x)
    rintro c s₂ h₂
    have h₃ := h₂.mono S₁ af₁
    cases c with
    | true => exact wpAny_allTrue_And_nil h₃
    | false => exact h₃
  | false => exact ⟨m₁, H₁, S₁, af₁, h₁.2 rfl⟩
theorem EB_or {x y : PySem.Expr} {p : Pos} {Q : Bool → Loc → CH → Prop} (h : EB C A x m H fun c m₁ H₁ => (c = true → Q true m₁ H₁) ∧ (c = false → EB C A y m₁ H₁ Q)) : EB C A (.BoolOp .Or [x, y] p) m H Q := fun s S => by
  refine wpAny_isTrue_BoolOp (wpAny_allTrue_Or_cons (wpAny_mono (h s S) ?_ fun _ _ x => x))
  rintro c s₁ ⟨m₁, H₁, S₁, af₁, h₁⟩
  cases c with
  | false =>
    refine wpAny_allTrue_Or_cons (wpAny_mono (h₁.2 rfl s₁ S₁) ?_ fun _ _ x => x)
    rintro c s₂ h₂
    have h₃ := h₂.mono S₁ af₁
    cases c with
    | false => exact wpAny_allTrue_Or_nil h₃
    | true => exact h₃
  | true => exact ⟨m₁, H₁, S₁, af₁, h₁.1 rfl⟩
theorem EL_nil {Q : List V → Loc → CH → Prop} (h : Q [] m H) : EL C A [] m H Q := fun s pos S => spliced_nil ⟨[], m, H, .nil, S, .refl .., h⟩
theorem EL_cons {e : PySem.Expr} {rest : List PySem.Expr} {Q : List V → Loc → CH → Prop} (h : EV C A e m H fun v m₁ H₁ => EL C A rest m₁ H₁ fun vs => Q (v :: vs))
    (he : starEach (e :: rest) C.env = (false, eval e C.env) :: starEach rest C.env := by with_unfolding_all rfl) : EL C A (e :: rest) m H Q := fun s pos S => by
  rw [he]
  refine spliced_cons (rest := backTo pos (starEach rest C.env)) (x := eval e C.env) (wpAny_mono (h s S) ?_ fun _ _ x => x)
  rintro a s₁ ⟨v, m₁, H₁, ra, S₁, af₁, h₁⟩
  refine wpAny_mono (h₁ s₁ pos S₁) ?_ fun _ _ x => x
  rintro vs s₂ ⟨ws, m₂, H₂, rb, S₂, af₂, h₂⟩
  exact ⟨v :: ws, m₂, H₂, .cons (ra.keep (af₂.tup S₁)) rb, S₂, af₁.then S₁ af₂, h₂⟩
theorem EV_tuple {es : List PySem.Expr} {k : Nat} {p : Pos} {Q : V → Loc → CH → Prop} (h : EL C A es m H fun vs m₁ H₁ => vs.length ≤ sizeLine ∧ Q (.tup vs) m₁ H₁) : EV C A (.Tuple es k p) m H Q := fun s S => by
  refine Tuple_ (wpAny_mono (h s p S) ?_ fun _ _ x => x)
  rintro vs s₁ ⟨ws, m₁, H₁, ra, S₁, af₁, hl, h₁⟩
  refine wpAny_newObj_type ?_ (by show vs.toArray.size ≤ sizeLine; rw [List.size_toArray, ← ra.length]; exact hl)
  exact ⟨.tup ws, m₁, H₁, .tup (Heap.get?_push_size _ rfl) (by rw [List.toList_toArray]; exact ra.keep (.push _ _)), S₁.more (keep_push _ _), af₁.then S₁ (.more (keep_push _ _)), h₁⟩
theorem EV_list {es : List PySem.Expr} {p : Pos} {Q : V → Loc → CH → Prop} (h : EL C A es m H fun vs m₁ H₁ => vs.length ≤ sizeLine ∧ ∀ a, H₁ a = none → Q (.ref a) m₁ (H₁.set a (.list vs))) : EV C A (.List es p) m H Q := fun s S => by
  refine List_ (wpAny_mono (h s p S) ?_ fun _ _ x => x)
  rintro vs s₁ ⟨ws, m₁, H₁, ra, S₁, af₁, hl, h₁⟩
  refine wpAny_newObj_type ?_ (by show vs.toArray.size ≤ sizeLine; rw [List.size_toArray, ← ra.length]; exact hl)
  exact ⟨_, m₁, _, .ref, S₁.alloc (c := .list ws) ⟨_, 0, rfl, by rw [List.toList_toArray]; exact ra⟩, af₁.then S₁ .alloc, h₁ _ S₁.toHS.fresh⟩
theorem EX_nil {Q : Fl → Loc → CH → Prop} (h : Q .next m H) : EX C A [] m H Q := fun s S => wpAny_execs_nil (PF.here (f := .next) S rfl h)
/-- what is left to do behind a statement -/
noncomputable def SeqE (C : Cx) (A : Around) (rest : List Stmt) (Q : Fl → Loc → CH → Prop) (fl : Fl) (m : Loc) (H : CH) : Prop := match fl with
  | .next => EX C A rest m H Q
  | fl => Q fl m H
noncomputable def SeqK (R : Loc → CH → Prop) (Q : Fl → Loc → CH → Prop) (fl : Fl) (m : Loc) (H : CH) : Prop := match fl with
  | .next => R m H
  | fl => Q fl m H
section
variable {rest : List Stmt} {Q : Fl → Loc → CH → Prop} {R : Loc → CH → Prop} {v : V}
theorem SeqE.n (h : EX C A rest m H Q) : SeqE C A rest Q .next m H := h
theorem SeqE.b (h : Q .brk m H) : SeqE C A rest Q .brk m H := h
theorem SeqE.c (h : Q .cont m H) : SeqE C A rest Q .cont m H := h
theorem SeqE.r (h : Q (.ret v) m H) : SeqE C A rest Q (.ret v) m H := h
theorem SeqK.n (h : R m H) : SeqK R Q .next m H := h
theorem SeqK.b (h : Q .brk m H) : SeqK R Q .brk m H := h
theorem SeqK.c (h : Q .cont m H) : SeqK R Q .cont m H := h
theorem SeqK.r (h : Q (.ret v) m H) : SeqK R Q (.ret v) m H := h
end
theorem EX_cons {st : Stmt} {rest : List Stmt} {Q : Fl → Loc → CH → Prop} (h : ES C A st m H (SeqE C A rest Q)) : EX C A (st :: rest) m H Q := fun s S => by
  refine wpAny_execs_cons (wpAny_mono (h s S) ?_ fun _ _ x => x)
  rintro f s₁ ⟨fl, m₁, H₁, hf, S₁, af₁, h₁⟩
  cases fl with
  | next => cases hf; exact wpAny_mono (h₁ s₁ S₁) (fun _ _ x => x.mono S₁ af₁) fun _ _ x => x
  | brk => cases hf; exact ⟨.brk, m₁, H₁, rfl, S₁, af₁, h₁⟩
  | cont => cases hf; exact ⟨.cont, m₁, H₁, rfl, S₁, af₁, h₁⟩
  | ret v => obtain ⟨r, rfl, hr⟩ := hf; exact ⟨.ret v, m₁, H₁, ⟨r, rfl, hr⟩, S₁, af₁, h₁⟩
theorem ES_ret {e : PySem.Expr} {p : Pos} {Q : Fl → Loc → CH → Prop} (h : EV C A e m H fun v => Q (.ret v)) : ES C A (.Return (some e) p) m H Q := fun s S => by
  refine wpAny_Return_some (wpAny_mono (h s S) ?_ fun _ _ x => x)
  rintro a s₁ ⟨v, m₁, H₁, ra, S₁, af₁, h₁⟩
  exact ⟨.ret v, m₁, H₁, ⟨a, rfl, ra⟩, S₁, af₁, h₁⟩
theorem ES_break {p : Pos} {Q : Fl → Loc → CH → Prop} (h : Q .brk m H) : ES C A (.Break p) m H Q := fun s S => wpAny_Break (PF.here (f := .brk) S rfl h)
theorem ES_continue {p : Pos} {Q : Fl → Loc → CH → Prop} (h : Q .cont m H) : ES C A (.Continue p) m H Q := fun s S => wpAny_Continue (PF.here (f := .cont) S rfl h)
theorem ES_if {t : PySem.Expr} {b o : List Stmt} {p : Pos} {Q : Fl → Loc → CH → Prop} (h : EB C A t m H fun c m₁ H₁ => (c = true → EX C A b m₁ H₁ Q) ∧ (c = false → EX C A o m₁ H₁ Q)) : ES C A (.If t b o p) m H Q := fun s S => by
  refine wpAny_If (wpAny_mono (h s S) ?_ fun _ _ x => x)
  rintro c s₁ ⟨m₁, H₁, S₁, af₁, h₁⟩
  cases c with
  | true => simp only [if_true]; exact wpAny_mono (h₁.1 rfl s₁ S₁) (fun _ _ x => x.mono S₁ af₁) fun _ _ x => x
  | false => simp only [Bool.false_eq_true, if_false]; exact wpAny_mono (h₁.2 rfl s₁ S₁) (fun _ _ x => x.mono S₁ af₁) fun _ _ x => x
theorem ES_assign {t e : PySem.Expr} {p : Pos} {Q : Fl → Loc → CH → Prop} (h : EV C A e m H fun v m₁ H₁ => ASG C A t v m₁ H₁ (Q .next))
    (hs : swapsWithSole [t] e p.line C.env = pure false := by with_unfolding_all rfl) (hw : swappedStores [t] e C.env = pure none := by with_unfolding_all rfl) (ht : (assignEach [t] C.env).map (·.2) = [assign t C.env] := by with_unfolding_all rfl) : ES C A (.Assign [t] e p) m H Q := fun s S => by
  refine wpAny_Assign_stores (wpAny_mono (h s S) ?_ fun _ _ x => x) hs hw
  rintro a s₁ ⟨v, m₁, H₁, ra, S₁, af₁, h₁⟩
  rw [ht]
  refine wpAny_mono (h₁ s₁ a S₁ ra) ?_ fun _ _ x => x
  rintro _ s₂ ⟨m₂, H₂, S₂, af₂, h₂⟩
  exact ⟨.next, m₂, H₂, rfl, S₂, af₁.then S₁ af₂, h₂⟩
theorem ASG_local {x : Str} {p : Pos} {v : V} {Q : Loc → CH → Prop} (h : Q ((x, v) :: m) H)
    (hl : C.env.kindOf x = some .local := by with_unfolding_all rfl) (hp : (C.env.scope.kind == .class || (C.env.scope.kind == .module && C.env.locals != C.env.globals)) = false := by with_unfolding_all rfl) : ASG C A (.Name x p) v m H Q := fun s r S hv => by
  obtain ⟨mr, hn, hk⟩ := S.ns
  refine wpAny_assign_Name (wpAny_storeName_local hl hn (fun h' hn' hs => ?_) hp)
  exact ⟨_, H, S.store hv hk hn' hs, .store hn' hs, h⟩
theorem ASG_cell {x : Str} {p : Pos} {c : Addr} {v : V} {v₀ : Option V} {Q : Loc → CH → Prop} (hc : C.env.cells.lookup x = some c) (hm : H c = some (.cell v₀)) (h : Q m (H.set c (.cell (some v))))
    (hk : C.env.scope.kind = .function := by with_unfolding_all rfl) (hl : C.env.kindOf x = some .cell := by with_unfolding_all rfl) : ASG C A (.Name x p) v m H Q := fun s r S hv => by
  obtain ⟨q, hI, hr⟩ := St.cell S.toHS hm
  refine wpAny_assign_Name (wpAny_storeName_cell hk hl hc hI fun h' hI' hs => ?_)
  obtain ⟨o', ho', hd'⟩ := hI'
  exact ⟨m, _, S.upd (c' := .cell (some v)) (tk := s.toks) hm hs ho' ⟨_, hd', hv⟩, .upd hm hs ho', h⟩
noncomputable def ASGs (C : Cx) (A : Around) : List PySem.Expr → List V → Loc → CH → (Loc → CH → Prop) → Prop
  | [], [], m, H, Q => Q m H
  | t :: ts, v :: vs, m, H, Q => ASG C A t v m H fun m₁ H₁ => ASGs C A ts vs m₁ H₁ Q
  | _, _, _, _, _ => False
theorem assignInOrder_of : ∀ (ts : List PySem.Expr) (vs : List V) (rs : List Value) (m : Loc) (H : CH) (s : Shared) (Q : Loc → CH → Prop), ASGs C A ts vs m H Q → St C m H s → VRs s.heap vs rs →
    wpAny (model C.prog C.w) A (assignInOrder (ts.map fun t => assign t C.env) rs) (PA C H s fun _ => Q) NoE s
  | [], [], rs, m, H, s, Q, h, S, r => by have := r.nil_inv; subst this; exact wpAny_assignInOrder_none ⟨m, H, S, .refl .., h⟩
  | [], _ :: _, _, _, _, _, _, h, _, _ => h.elim
  | _ :: _, [], _, _, _, _, _, h, _, _ => h.elim
  | t :: ts, v :: vs, rs, m, H, s, Q, h, S, r => by
    obtain ⟨y, ys, rfl, a, b⟩ := r.cons_inv
    refine wpAny_assignInOrder_more (wpAny_mono (h s y S a) ?_ fun _ _ x => x)
    rintro _ s₁ ⟨m₁, H₁, S₁, af₁, h₁⟩
    exact wpAny_mono (assignInOrder_of ts vs ys m₁ H₁ s₁ Q h₁ S₁ (b.keep (af₁.tup S))) (fun _ _ x => x.mono S₁ af₁) fun _ _ x => x
theorem ASG_tuple {ts : List PySem.Expr} {k : Nat} {p : Pos} {vs : List V} {Q : Loc → CH → Prop} (hA : A.handled = none) (hlen : ts.length = vs.length) (h : ASGs C A ts vs m H Q)
    (ht : assignEach ts C.env = ts.map fun t => (false, assign t C.env) := by with_unfolding_all rfl) : ASG C A (.Tuple ts k p) (.tup vs) m H Q := fun s r S hv => by
  obtain ⟨a, items, n, rfl, ho, hs⟩ := hv.tup_inv
  have hl : items.size = vs.length := by have := hs.length; simp at this; (first | lia | omega)
  refine wpAny_assign_Tuple hA ⟨_, ho, rfl, n, rfl⟩ (by rw [ht, List.length_map, hl, hlen]) (by rw [ht, List.findIdx?_map]; simp) fun h' he => ?_
  rw [ht, List.map_map]
  have S' : St C m H { s with heap := h' } := S.more (tk := s.toks) fun b o e => he b o (Nat.ne_of_lt (Heap.lt_size e)) e
  have := assignInOrder_of (A := A) ts vs items.toList m H { s with heap := h' } Q h S' (hs.keep (.of_keep fun b o e => he b o (Nat.ne_of_lt (Heap.lt_size e)) e))
  refine wpAny_mono this (fun _ _ x => x.mono S' (.more (tk := s.toks) fun b o e => he b o (Nat.ne_of_lt (Heap.lt_size e)) e)) fun _ _ x => x
end
end
end Mine
end
section
open PySem PySem.Calls PySem.W PyProof.Rows
set_option maxRecDepth 100000
namespace Mine
noncomputable section
section
variable {C : Cx} {A : Around} {m : Loc} {H : CH} {s : Shared} {Q : V → Loc → CH → Prop} {a b : Int}
theorem O2_add (h : Q (.int (a + b)) m H) : O2 C A (binaryOp .Add) (.int a) (.int b) m H Q := fun s r q S hr hq => by
  obtain ⟨t, rfl⟩ := hr.int_inv; obtain ⟨u, rfl⟩ := hq.int_inv; exact add_int (.same S .int h _)
theorem O2_sub (h : Q (.int (a - b)) m H) : O2 C A (binaryOp .Sub) (.int a) (.int b) m H Q := fun s r q S hr hq => by
  obtain ⟨t, rfl⟩ := hr.int_inv; obtain ⟨u, rfl⟩ := hq.int_inv; exact sub_int (.same S .int h _)
theorem O2_mul (hm : IntMulOk a b) (h : Q (.int (a * b)) m H) : O2 C A (binaryOp .Mult) (.int a) (.int b) m H Q := fun s r q S hr hq => by
  obtain ⟨t, rfl⟩ := hr.int_inv; obtain ⟨u, rfl⟩ := hq.int_inv; exact P.mul_int (.same S .int h _) hm
theorem O2_mod (hb : b ≠ 0) (h : Q (.int (a.fmod b)) m H) : O2 C A (binaryOp .Mod) (.int a) (.int b) m H Q := fun s r q S hr hq => by
  obtain ⟨t, rfl⟩ := hr.int_inv; obtain ⟨u, rfl⟩ := hq.int_inv; exact mod_int hb (.same S .int h _)
theorem O2_div (hb : b ≠ 0) (hs : b.natAbs < 1073741824) (h : Q (.int (a.fdiv b)) m H) : O2 C A (binaryOp .FloorDiv) (.int a) (.int b) m H Q := fun s r q S hr hq => by
  obtain ⟨t, rfl⟩ := hr.int_inv; obtain ⟨u, rfl⟩ := hq.int_inv; exact floordiv_int hb (.same S .int h _) (.inl (PyProof.noPylong_small hs))
theorem O2_shr (hb : 0 ≤ b) (h : Q (.int (a.fdiv (2 ^ b.toNat))) m H) : O2 C A (binaryOp .RShift) (.int a) (.int b) m H Q := fun s r q S hr hq => by
  obtain ⟨t, rfl⟩ := hr.int_inv; obtain ⟨u, rfl⟩ := hq.int_inv; exact rshift_int hb (.same S .int h _)
theorem O2_pow (hb : 0 ≤ b) (hsz : (Builtin.Int.intBits a : Int) * b ≤ 2 ^ 27) (h : Q (.int (a ^ b.toNat)) m H) : O2 C A (binaryOp .Pow) (.int a) (.int b) m H Q := fun s r q S hr hq => by
  obtain ⟨t, rfl⟩ := hr.int_inv; obtain ⟨u, rfl⟩ := hq.int_inv; exact pow_int hb hsz (.same S .int h _)
theorem O2_iadd (h : Q (.int (a + b)) m H) : O2 C A (inplaceOp .Add) (.int a) (.int b) m H Q := fun s r q S hr hq => by
  obtain ⟨t, rfl⟩ := hr.int_inv; obtain ⟨u, rfl⟩ := hq.int_inv; exact iadd_int (.same S .int h _)
theorem O2_isub (h : Q (.int (a - b)) m H) : O2 C A (inplaceOp .Sub) (.int a) (.int b) m H Q := fun s r q S hr hq => by
  obtain ⟨t, rfl⟩ := hr.int_inv; obtain ⟨u, rfl⟩ := hq.int_inv; exact P.isub_int (.same S .int h _)
theorem O1_neg (h : Q (.int (-a)) m H) : O1 C A (unaryOp .USub) (.int a) m H Q := fun s r S hr => by
  obtain ⟨t, rfl⟩ := hr.int_inv; exact P.neg_int (.same S .int h _)
theorem O2_lt (h : Q (.bool (decide (a < b))) m H) : O2 C A (compareOp .Lt) (.int a) (.int b) m H Q := fun s r q S hr hq => by
  obtain ⟨t, rfl⟩ := hr.int_inv; obtain ⟨u, rfl⟩ := hq.int_inv; exact lt_int (.here S .con h)
theorem O2_gt (h : Q (.bool (decide (b < a))) m H) : O2 C A (compareOp .Gt) (.int a) (.int b) m H Q := fun s r q S hr hq => by
  obtain ⟨t, rfl⟩ := hr.int_inv; obtain ⟨u, rfl⟩ := hq.int_inv; exact gt_int (.here S .con h)
theorem O2_eq (h : Q (.bool (decide (a = b))) m H) : O2 C A (compareOp .Eq) (.int a) (.int b) m H Q := fun s r q S hr hq => by
  obtain ⟨t, rfl⟩ := hr.int_inv; obtain ⟨u, rfl⟩ := hq.int_inv
  refine P.eq_int (.here S .con ?_)
  rw [show (a == b) = decide (a = b) from by by_cases h : a = b <;> simp [h]]; exact h
theorem O2_ne (h : Q (.bool (decide (a ≠ b))) m H) : O2 C A (compareOp .NotEq) (.int a) (.int b) m H Q := fun s r q S hr hq => by
  obtain ⟨t, rfl⟩ := hr.int_inv; obtain ⟨u, rfl⟩ := hq.int_inv
  refine P.ne_int (.here S .con ?_)
  rw [show (a != b) = decide (a ≠ b) from by by_cases h : a = b <;> simp [h]]; exact h
/-- is None -/
noncomputable def V.isNone : V → Bool
  | .con .none => true
  | _ => false
theorem VR.isNone {h : Heap} {v : V} {r : Value} (x : VR h v r) : (r == Value.none) = v.isNone := by
  cases v with
  | con c => rw [x.con_inv]; cases c <;> rfl
  | int i => obtain ⟨t, rfl⟩ := x.int_inv; rfl
  | str i => obtain ⟨t, rfl⟩ := x.str_inv; rfl
  | tup l => obtain ⟨a, items, n, rfl, _⟩ := x.tup_inv; rfl
  | rng => obtain ⟨z, t, u, w, rfl, _⟩ := x.rng_inv; rfl
  | imm => obtain ⟨_, a, rfl, _⟩ := x.imm_inv; rfl
  | fn => obtain ⟨a, _, _, _, rfl, _⟩ := x.fn_inv; rfl
  | ref a => rw [x.ref_inv]; rfl
theorem O2_isNone {v : V} (h : Q (.bool v.isNone) m H) : O2 C A (compareOp .Is) v .none m H Q := fun s r q S hr hq => by
  rw [hq.con_inv]; exact is_none (.here S .con (by rw [hr.isNone]; exact h))
theorem O2_isNotNone {v : V} (h : Q (.bool (!v.isNone)) m H) : O2 C A (compareOp .IsNot) v .none m H Q := fun s r q S hr hq => by
  rw [hq.con_inv]; exact isNot_none (.here S .con (by rw [hr.isNone]; exact h))
variable {QB : Bool → Loc → CH → Prop}
theorem OB_bool {b : Bool} (h : QB b m H) : OB C A truthy (.bool b) m H QB := fun s r S hr => by rw [hr.con_inv]; exact wpAny_truthy_bool (.here S h)
/-- a list that may be read: one of the clean heap's, or one of the base's -/
inductive LAt (C : Cx) (H : CH) (l : Addr) (xs : List V) : Prop where
  | own (h : H l = some (.list xs)) : LAt C H l xs
  | base (items : Array Value) (n : Nat) (h : C.h₀.get? l = some (seqObj "list" items n)) (hv : VRs C.h₀ xs items.toList) : LAt C H l xs
inductive LRep (s : Shared) (l : Addr) (xs : List V) : Prop
  | mk (items : Array Value) (n : Nat) (h : IsL s.heap l items n) (hv : VRs s.heap xs items.toList) (hz : items.size = xs.length) : LRep s l xs
theorem HS.list {l : Addr} {xs : List V} (S : HS C H s) (hl : LAt C H l xs) : LRep s l xs := by
  cases hl with
  | own hl =>
    obtain ⟨_, o, ho, items, n, rfl, hr⟩ := S.own _ _ hl
    exact ⟨items, n, ho, hr, by have := hr.length; simp at this; (first | lia | omega)⟩
  | base items n h hv => exact ⟨items, n, S.base _ _ h, hv.keep (.of_keep S.base), by have := hv.length; simp at this; (first | lia | omega)⟩
theorem OB_list {l : Addr} {xs : List V} (hl : LAt C H l xs) (hsz : xs.length ≤ sizeLine) (h : QB (!xs.isEmpty) m H) : OB C A truthy (.ref l) m H QB := fun s r S hr => by
  rw [hr.ref_inv]
  obtain ⟨items, n, hI, hv, hz⟩ := S.toHS.list hl
  have : items.isEmpty = xs.isEmpty := by
    cases xs with
    | nil => simp at hz; simp [hz]
    | cons => simp at hz; simp; intro e; simp [e] at hz
  refine wpAny_truthy_list hI.isList (by rw [hz]; unfold sizeLine at hsz; (first | lia | omega)) ?_
  rw [this]; exact .same S h _
theorem EV_sub {value slice : PySem.Expr} {p : Pos} (h : EV C A value m H fun o m₁ H₁ => EV C A slice m₁ H₁ fun i m₂ H₂ => O2 C A (subscriptTail value slice) o i m₂ H₂ Q) : EV C A (.Subscript value slice p) m H Q := fun s S => by
  refine Subscript_ (wpAny_mono (h s S) ?_ fun _ _ x => x)
  rintro a s₁ ⟨v, m₁, H₁, ra, S₁, af₁, h₁⟩
  refine wpAny_mono (h₁ s₁ S₁) ?_ fun _ _ x => x
  rintro b s₂ ⟨w, m₂, H₂, rb, S₂, af₂, h₂⟩
  exact wpAny_mono (h₂ s₂ a b S₂ (ra.keep (af₂.tup S₁)) rb) (fun _ _ x => x.mono S₂ (af₁.then S₁ af₂)) fun _ _ x => x
noncomputable abbrev NoSlice (slice : PySem.Expr) : Prop := ∀ o i, subscripted slice false o i = operate [o, i] (getItem o i)
theorem sub_list {value slice : PySem.Expr} {l : Addr} {xs : List V} {k : Int} {v : V} (hl : LAt C H l xs) (h0 : 0 ≤ k) (hv : xs[k.toNat]? = some v) (hsz : xs.length ≤ sizeLine) (h : Q v m H) (hs : NoSlice slice := by intro _ _; with_unfolding_all rfl) :
    O2 C A (subscriptTail value slice) (.ref l) (.int k) m H Q := fun s r q S hr hq => by
  rw [hr.ref_inv]; obtain ⟨u, rfl⟩ := hq.int_inv
  obtain ⟨items, n, hI, hvs, hz⟩ := S.toHS.list hl
  obtain ⟨x, hx, hvx⟩ := hvs.get hv
  have hx' : items[k.toNat]? = some x := by simpa using hx
  have hk : k.toNat < xs.length := (List.getElem?_eq_some_iff.mp hv).1
  exact tail_any hI.isList.typeIs slot_list_getitem.lookup (wpAny_getItem_list hI.isList h0 (by unfold sizeLine at hsz; (first | lia | omega)) hx' (.here S hvx h)) (hs _ _)
/-- from behind -/
theorem sub_list_neg {value slice : PySem.Expr} {l : Addr} {xs : List V} {k : Int} {v : V} (hl : LAt C H l xs) (h0 : k < 0) (h1 : -(xs.length : Int) ≤ k) (hv : xs[(k + xs.length).toNat]? = some v) (hsz : xs.length ≤ sizeLine) (h : Q v m H) (hs : NoSlice slice := by intro _ _; with_unfolding_all rfl) :
    O2 C A (subscriptTail value slice) (.ref l) (.int k) m H Q := fun s r q S hr hq => by
  rw [hr.ref_inv]; obtain ⟨u, rfl⟩ := hq.int_inv
  obtain ⟨items, n, hI, hvs, hz⟩ := S.toHS.list hl
  obtain ⟨x, hx, hvx⟩ := hvs.get hv
  have hx' : items[(k + items.size).toNat]? = some x := by rw [hz]; simpa using hx
  exact tail_any hI.isList.typeIs slot_list_getitem.lookup (wpAny_getItem_list_neg hI.isList h0 (by rw [hz]; exact h1) (by unfold sizeLine at hsz; (first | lia | omega)) hx' (.here S hvx h)) (hs _ _)
theorem sub_tup {value slice : PySem.Expr} {xs : List V} {k : Int} {v : V} (h0 : 0 ≤ k) (hv : xs[k.toNat]? = some v) (hsz : xs.length ≤ sizeLine) (h : Q v m H) (hs : NoSlice slice := by intro _ _; with_unfolding_all rfl) :
    O2 C A (subscriptTail value slice) (.tup xs) (.int k) m H Q := fun s r q S hr hq => by
  obtain ⟨a, items, n, rfl, ho, hvs⟩ := hr.tup_inv; obtain ⟨u, rfl⟩ := hq.int_inv
  obtain ⟨x, hx, hvx⟩ := hvs.get hv
  have hk : k.toNat < xs.length := (List.getElem?_eq_some_iff.mp hv).1
  have hz : items.size = xs.length := by have := hvs.length; simp at this; (first | lia | omega)
  have hj : seqIndex? k items.size = some k.toNat := seqIndex_at h0 (by (first | lia | omega))
  exact tail_any ⟨_, ho, rfl⟩ F.slot_tuple_getitem.lookup (P.getItem_tuple ho (by (first | lia | omega)) (by unfold sizeLine at hsz; (first | lia | omega)) hj (by simpa using hx) (.here S hvx h)) (hs _ _)
/-- stores -/
theorem set_list {l : Addr} {xs : List V} {k : Int} {v : V} {QU : Loc → CH → Prop} (hl : H l = some (.list xs)) (h0 : 0 ≤ k) (hk : k < xs.length) (hsz : xs.length ≤ sizeLine) (h : QU m (H.set l (.list (xs.set k.toNat v)))) :
    O3 C A setItem (.ref l) (.int k) v m H QU := fun s r q p S hr hq hp => by
  rw [hr.ref_inv]; obtain ⟨u, rfl⟩ := hq.int_inv
  obtain ⟨items, n, hI, hvs, hz⟩ := S.toHS.list (.own hl)
  unfold setItem
  try with_reducible refine wpAny_holding ?_
  first | refine wpAny_bind (wpAny_pure ?_) | skip
  refine wpAny_bind (wpAny_sequenceKey hI.isList.typeIs (by decide) ?_)
  refine wpAny_bind (wpAny_callSpecial?_slot (name := Str.ofString "__setitem__") hI.isList.typeIs slot_list_setitem
    (wpAny_call_entry slot_list_setitem hI.isList.typeIs entry_list_setitem ?_ (args_list_setitem _ _ _)))
  show wpAny _ _ (Builtin.List.listSubscript? (.int k u) >>= _) _ _ s
  refine wpAny_bind (wpAny_listSubscript_int (fitsIndex_of h0 (by unfold sizeLine at hsz; (first | lia | omega))) ?_)
  obtain ⟨j, rfl⟩ := Int.eq_ofNat_of_zero_le h0
  have hj : j < items.size := by (first | lia | omega)
  have hx' : items[j]? = some items[j] := Array.getElem?_eq_getElem hj
  show wpAny _ _ ((seqItemAt l j >>= fun r => pure (r.map (j, ·))) >>= _) _ _ s
  refine wpAny_bind (wpAny_bind (wpAny_seqItemAt hI rfl (wpAny_pure ?_)))
  rw [hx']
  have fin : PA C H s (fun _ => QU) () { s with heap := s.heap.update l (Obj.mapSeq (·.setIfInBounds j p)) } := by
    refine ⟨m, _, S.upd (tk := s.toks) (c' := .list (xs.set j v)) hl (Heap.SameBut.update ..) (hI.update _) ⟨_, _, rfl, ?_⟩, .upd hl (Heap.SameBut.update ..) (hI.update _), h⟩
    rw [Array.toList_setIfInBounds]; exact hvs.set j hp
  first
    | exact wpAny_bind (wpAny_setSeqItemAt hI rfl (wpAny_pure ⟨_, rfl, wpAny_pure fin⟩))
    | exact wpAny_bind (wpAny_setSeqItemAt hI rfl (wpAny_bind (wpAny_pure (wpAny_pure ⟨_, rfl, wpAny_pure fin⟩))))
    | exact wpAny_setSeqItemAt hI rfl (wpAny_pure ⟨_, rfl, wpAny_pure fin⟩)
end
end
end Mine
end
section
open PySem PySem.Calls PySem.W PyProof.Rows
set_option maxRecDepth 100000
namespace Mine
noncomputable section
section
variable {C : Cx} {A : Around} {m : Loc} {H : CH} {s : Shared}
/-- what a turn's end says -/
noncomputable def Turn (Q : Fl → Loc → CH → Prop) (J : Loc → CH → Prop) (fl : Fl) (m₂ : Loc) (H₂ : CH) : Prop := match fl with
  | .next | .cont => J m₂ H₂
  | .brk => Q .next m₂ H₂
  | .ret v => Q (.ret v) m₂ H₂
inductive NextJ (J : Nat → Loc → CH → Prop) (i : Nat) (m : Loc) (H : CH) : Prop
  | mk (m₃ : Loc) (hs : Sub m₃ m) (h : J i m₃ H) : NextJ J i m H
inductive LessJ (J : Nat → Loc → CH → Prop) (n : Nat) (m : Loc) (H : CH) : Prop
  | mk (k : Nat) (m₃ : Loc) (hk : k < n) (hs : Sub m₃ m) (h : J k m₃ H) : LessJ J n m H
theorem ES_while {test : PySem.Expr} {body orelse : List Stmt} {p : Pos} {Q : Fl → Loc → CH → Prop} (I : Nat → Loc → CH → Prop) (n : Nat) (m' : Loc) (hs : Sub m' m) (h0 : I n m' H)
    (turn : ∀ n m H, I n m H → EB C A test m H fun b m₁ H₁ => (b = true → EX C A body m₁ H₁ (Turn Q (LessJ I n))) ∧ (b = false → EX C A orelse m₁ H₁ Q)) :
    ES C A (.While test body orelse p) m H Q := fun s S => by
  refine wpAny_While (codeAny_whileLoop (fun k s' => ∃ m₁ H₁, St C m₁ H₁ s' ∧ After C H s H₁ s' ∧ I k m₁ H₁) ?_ n ⟨m', H, S.sub hs, .refl .., h0⟩)
  rintro k s₁ ⟨m₁, H₁, S₁, af₁, hI⟩
  refine wpAny_noRaise (wpAny_mono (turn k m₁ H₁ hI s₁ S₁) ?_ fun _ _ x => x)
  rintro b s₂ ⟨m₂, H₂, S₂, af₂, h₂⟩
  cases b with
  | false =>
    simp only [Bool.false_eq_true, if_false]
    exact wpAny_noRaise (wpAny_mono (h₂.2 rfl s₂ S₂) (fun _ _ x => (x.mono S₂ (af₁.then S₁ af₂))) fun _ _ x => x)
  | true =>
    simp only [if_true]
    refine wpAny_noRaise (wpAny_mono (h₂.1 rfl s₂ S₂) ?_ fun _ _ x => x)
    rintro f s₃ ⟨fl, m₃, H₃, hf, S₃, af₃, h₃⟩
    have af : After C H s H₃ s₃ := (af₁.then S₁ af₂).then S₂ af₃
    cases fl with
    | next => cases hf; obtain ⟨j, m₄, hj, hs₄, hI₄⟩ := h₃; exact ⟨j, hj, m₄, H₃, S₃.sub hs₄, af, hI₄⟩
    | cont => cases hf; obtain ⟨j, m₄, hj, hs₄, hI₄⟩ := h₃; exact ⟨j, hj, m₄, H₃, S₃.sub hs₄, af, hI₄⟩
    | brk => cases hf; exact ⟨.next, m₃, H₃, rfl, S₃, af, h₃⟩
    | ret v => obtain ⟨r, rfl, hr⟩ := hf; exact ⟨.ret v, m₃, H₃, ⟨r, rfl, hr⟩, S₃, af, h₃⟩
/-- an iterator of the machine's own: its object by the turn's number, what it gives -/
inductive NextR (I : Addr) (ob : Nat → Heap → Obj → Prop) (i : Nat) (v : V) (s : Shared) (r : Option Value) (s' : Shared) : Prop
  | mk (rv : Value) (h' : Heap) (tk : Nat) (o' : Obj) (e1 : r = some rv) (e2 : s' = { s with heap := h', toks := tk }) (hv : VR h' v rv) (hx : Heap.ExtBut I s.heap h') (ho : h'.get? I = some o') (hob : ob (i + 1) s.heap o') : NextR I ob i v s r s'
inductive DoneR (I : Addr) (s : Shared) (r : Option Value) (s' : Shared) : Prop
  | mk (h' : Heap) (tk : Nat) (e1 : r = none) (e2 : s' = { s with heap := h', toks := tk }) (hx : Heap.ExtBut I s.heap h') : DoneR I s r s'
structure Prot (C : Cx) (A : Around) (I : Addr) (ob : Nat → Heap → Obj → Prop) (nx : CH → Nat → Option (Option V)) : Prop where
  plain : ∀ i h o, ob i h o → ¬ Imm o
  nodict : ∀ i h o es ep, ob i h o → o.data ≠ .dict es ep
  kept : ∀ i h h' o, TupKeep h h' → ob i h o → ob i h' o
  item : ∀ H s i o v, HS C H s → H I = none → s.heap.get? I = some o → ob i s.heap o → nx H i = some (some v) →
    wpAny (model C.prog C.w) A (pyNext (.ref I)) (NextR I ob i v s) NoE s
  done : ∀ H s i o, HS C H s → H I = none → s.heap.get? I = some o → ob i s.heap o → nx H i = some none →
    wpAny (model C.prog C.w) A (pyNext (.ref I)) (DoneR I s) NoE s
  own : ∀ (target : PySem.Expr) (v : Value) (s : Shared) (i : Nat) (h : Heap) (o : Obj) (Q : Unit → Shared → Prop), s.heap.get? I = some o → ob i h o → Q () s → wpAny (model C.prog C.w) A (letOwnedTupleGo target (.ref I) v) Q NoE s
  self : ∀ (s : Shared) (i : Nat) (h : Heap) (o : Obj) (E : Value → Shared → Prop) (Q : Value → Shared → Prop), s.heap.get? I = some o → ob i h o → Q (.ref I) s → wpAny (model C.prog C.w) A (pyIter (.ref I)) Q E s
theorem tup_ext {I : Addr} {h h' : Heap} {o : Obj} (ho : h.get? I = some o) (hp : ¬ Imm o) (he : Heap.ExtBut I h h') : TupKeep h h' := fun b o' i e =>
  he b _ (fun q => by subst q; rw [ho] at e; cases e; exact hp i) e
inductive IterR (C : Cx) (A : Around) (nx : CH → Nat → Option (Option V)) (s : Shared) (ri : Value) (s' : Shared) : Prop
  | mk (I : Addr) (ob : Nat → Heap → Obj → Prop) (h' : Heap) (tk : Nat) (o : Obj) (e1 : ri = .ref I) (e2 : s' = { s with heap := h', toks := tk }) (hk : ∀ b o, s.heap.get? b = some o → h'.get? b = some o) (hI : s.heap.get? I = none) (ho : h'.get? I = some o) (hob : ob 0 h' o) (P : Prot C A I ob nx) : IterR C A nx s ri s'
noncomputable def Iterable (C : Cx) (A : Around) (v : V) (H : CH) (nx : CH → Nat → Option (Option V)) : Prop := ∀ s r, HS C H s → VR s.heap v r →
  wpAny (model C.prog C.w) A (pyIter r) (IterR C A nx s) NoE s
inductive ForI (C : Cx) (ob : Nat → Heap → Obj → Prop) (J : Nat → Loc → CH → Prop) (I : Addr) (N : Nat) (H : CH) (s : Shared) (k : Nat) (s' : Shared) : Prop
  | mk (i : Nat) (m' : Loc) (H' : CH) (o : Obj) (hk : k = N + 1 - i) (hS : St C m' H' s') (ha : After C H s H' s') (hI : H' I = none) (ho : s'.heap.get? I = some o) (hob : ob i s'.heap o) (hJ : J i m' H') : ForI C ob J I N H s k s'
theorem for_core {target : PySem.Expr} {body orelse : List Stmt} {Q : Fl → Loc → CH → Prop} {I : Addr} {ob : Nat → Heap → Obj → Prop} {nx : CH → Nat → Option (Option V)} {N : Nat} {J : Nat → Loc → CH → Prop} {R : Result → Shared → Prop}
    (P : Prot C A I ob nx) (hIl : I ≠ C.env.locals) (hIb : C.h₀.get? I = none)
    (hidA : ∀ {H' : CH} {s' : Shared} {h' : Heap} {tk : Nat} {o : Obj}, After C H s H' s' → Heap.ExtBut I s'.heap h' → h'.get? I = some o → After C H s H' { s' with heap := h', toks := tk })
    (done : ∀ m' H' s' i o, St C m' H' s' → After C H s H' s' → H' I = none → s'.heap.get? I = some o → ob i s'.heap o → nx H' i = some none → wpAny (model C.prog C.w) A (pyNext (.ref I)) (fun r s'' => DoneR I s' r s'' ∧ After C H s H' s'') NoE s')
    (turn : ∀ i m H, J i m H → i ≤ N ∧ ((∃ v, nx H i = some (some v) ∧ ASG C A target v m H fun m' H' => EX C A body m' H' (Turn Q (NextJ J (i + 1)))) ∨ (nx H i = some none ∧ EX C A orelse m H Q)))
    (fin : ∀ f s', PF C H s Q f s' → R (.ok f) s') {k : Nat} {s₁ : Shared} (h : ForI C ob J I N H s k s₁) : codeAny (model C.prog C.w) A (.forLoop target (.ref I) body orelse C.env) R s₁ := by
  refine codeAny_forLoop_any (ForI C ob J I N H s) ?_ k h
  rintro k s₃ ⟨i, m₃, H₃, o3, rfl, S₃, af₃, hI3, hob3, hoi3, hJ3⟩
  obtain ⟨hN, h3⟩ := turn i m₃ H₃ hJ3
  rcases h3 with ⟨x, hx, hasg⟩ | ⟨hx, hq⟩
  · refine wpAny_noRaise (wpAny_mono (P.item H₃ s₃ i o3 x S₃.toHS hI3 hob3 hoi3 hx) ?_ fun _ _ x => x)
    rintro r s₄ ⟨rx, h4, tk4, o4, rfl, rfl, hvx, he, hob4, hoi4⟩
    have S₄ : St C m₃ H₃ { s₃ with heap := h4, toks := tk4 } := S₃.hid hob3 hI3 hIb (fun es ep => P.nodict i _ o3 es ep hoi3) (P.plain i _ o3 hoi3) he
    have af₄ : After C H s H₃ { s₃ with heap := h4, toks := tk4 } := hidA af₃ he hob4
    refine wpAny_noRaise (P.own target rx _ (i + 1) _ o4 _ hob4 hoi4 ?_)
    refine wpAny_noRaise (wpAny_mono (hasg _ rx S₄ hvx) ?_ fun _ _ x => x)
    rintro _ s₅ ⟨m₅, H₅, S₅, af₅, h₅⟩
    refine wpAny_noRaise (wpAny_mono (h₅ s₅ S₅) ?_ fun _ _ x => x)
    rintro f s₆ ⟨fl, m₆, H₆, hf, S₆, af₆, h₆⟩
    have af : After C H s H₆ s₆ := (af₄.then S₄ af₅).then S₅ af₆
    have again : NextJ J (i + 1) m₆ H₆ → ∃ k, k < N + 1 - i ∧ ForI C ob J I N H s k s₆ := by
      rintro ⟨m₇, hs7, hJ7⟩
      have a5 := af₅.grow I _ hI3 hob4
      obtain ⟨o5, b5, k5⟩ := af₅.stay I _ hIl hI3 hob4
      rw [k5.exact (fun es ep => P.nodict _ _ o4 es ep hoi4)] at b5
      obtain ⟨o6, b6, k6⟩ := af₆.stay I _ hIl a5 b5
      rw [k6.exact (fun es ep => P.nodict _ _ o4 es ep hoi4)] at b6
      exact ⟨N + 1 - (i + 1), by (first | lia | omega), i + 1, m₇, H₆, o4, rfl, S₆.sub hs7, af, af₆.grow I _ a5 b5, b6, P.kept _ _ _ _ (((tup_ext hob3 (P.plain i _ o3 hoi3) he).trans (af₅.tup S₄)).trans (af₆.tup S₅)) hoi4, hJ7⟩
    cases fl with
    | next => cases hf; exact again h₆
    | cont => cases hf; exact again h₆
    | brk => cases hf; exact fin _ _ ⟨.next, m₆, H₆, rfl, S₆, af, h₆⟩
    | ret v => obtain ⟨r, rfl, hr⟩ := hf; exact fin _ _ ⟨.ret v, m₆, H₆, ⟨r, rfl, hr⟩, S₆, af, h₆⟩
  · refine wpAny_noRaise (wpAny_mono (done m₃ H₃ s₃ i o3 S₃ af₃ hI3 hob3 hoi3 hx) ?_ fun _ _ x => x)
    rintro r s₄ ⟨⟨h4, tk4, rfl, rfl, he⟩, af₄⟩
    have S₄ : St C m₃ H₃ { s₃ with heap := h4, toks := tk4 } := S₃.hid hob3 hI3 hIb (fun es ep => P.nodict i _ o3 es ep hoi3) (P.plain i _ o3 hoi3) he
    exact wpAny_noRaise (wpAny_mono (hq _ S₄) (fun _ _ x => fin _ _ (x.mono S₄ af₄)) fun _ _ x => x)
theorem ES_for {target iter : PySem.Expr} {body orelse : List Stmt} {p : Pos} {Q : Fl → Loc → CH → Prop}
    (h : EV C A iter m H fun v m₁ H₁ => ∃ (nx : CH → Nat → Option (Option V)) (N : Nat) (m₂ : Loc) (J : Nat → Loc → CH → Prop), Iterable C A v H₁ nx ∧ Sub m₂ m₁ ∧ J 0 m₂ H₁ ∧ ∀ i m H, J i m H → i ≤ N ∧
      ((∃ v, nx H i = some (some v) ∧ ASG C A target v m H fun m' H' => EX C A body m' H' (Turn Q (NextJ J (i + 1)))) ∨ (nx H i = some none ∧ EX C A orelse m H Q)))
    (hs : ∀ x, foldedSetIterable iter C.env x = pure x := by intro _; with_unfolding_all rfl) : ES C A (.For target iter body orelse p) m H Q := fun s S => by
  refine wpAny_For (wpAny_mono (h s S) ?_ fun _ _ x => x) hs
  rintro r s₁ ⟨v, m₁, H₁, rv, S₁, af₁, nx, N, m₂, J, it, hsub, hJ, turn⟩
  refine wpAny_noRaise (wpAny_mono (it s₁ r S₁.toHS rv) ?_ fun _ _ x => x)
  rintro ri s₂ ⟨I, ob, h', tk, o0, rfl, rfl, hk, hI, hob, hob0, P⟩
  have hIl : I ≠ C.env.locals := fun e => by obtain ⟨o, e'⟩ := S₁.at_loc; rw [← e, hI] at e'; cases e'
  have hIb : C.h₀.get? I = none := by
    cases q : C.h₀.get? I with
    | none => rfl
    | some o => rw [S₁.base I o q] at hI; cases hI
  have hI1 : H₁ I = none := by
    cases q : H₁ I with
    | none => rfl
    | some c => obtain ⟨_, o, e, _⟩ := S₁.own I c q; rw [hI] at e; cases e
  have hI0 : s.heap.get? I = none := by
    cases q : s.heap.get? I with
    | none => rfl
    | some o => obtain ⟨o', e'⟩ := af₁.there _ _ q; rw [hI] at e'; cases e'
  refine for_core P hIl hIb (fun a he _ => a.hid hI0 he) (fun m' H' s' i o S' a hI ho hob hn => wpAny_mono (P.done H' s' i o S'.toHS hI ho hob hn) ?_ fun _ _ x => x) turn (fun _ _ x => x) (k := N + 1)
    ⟨0, m₂, H₁, _, rfl, (S₁.more hk).sub hsub, af₁.then S₁ (.more hk), hI1, hob, hob0, hJ⟩
  rintro r s'' ⟨h4, tk4, rfl, rfl, he⟩
  exact ⟨⟨h4, tk4, rfl, rfl, he⟩, a.hid hI0 he⟩
theorem ES_expr {e : PySem.Expr} {p : Pos} {Q : Fl → Loc → CH → Prop} (h : EV C A e m H fun _ => Q .next) (hi : interactive C.env = false := by with_unfolding_all rfl) (hs : swapsWith e none p.line C.env = pure false := by with_unfolding_all rfl) : ES C A (.Expr e p) m H Q := fun s S => by
  refine wpAny_Expr_any (wpAny_mono (h s S) ?_ fun _ _ x => x) hi hs
  rintro r s₁ ⟨v, m₁, H₁, rv, S₁, af₁, h₁⟩
  exact ⟨.next, m₁, H₁, rfl, S₁, af₁, h₁⟩
theorem ASG_sub {o i : PySem.Expr} {p : Pos} {v : V} {Q : Loc → CH → Prop} (h : EV C A o m H fun ov m₁ H₁ => EV C A i m₁ H₁ fun iv m₂ H₂ => O3 C A setItem ov iv v m₂ H₂ Q) : ASG C A (.Subscript o i p) v m H Q := fun s r S hv => by
  rw [assign_Subscript]
  refine wpAny_bind (wpAny_holding (wpAny_mono (h s S) ?_ fun _ _ x => x))
  rintro a s₁ ⟨ov, m₁, H₁, ra, S₁, af₁, h₁⟩
  refine wpAny_bind (wpAny_holding (wpAny_mono (h₁ s₁ S₁) ?_ fun _ _ x => x))
  rintro b s₂ ⟨iv, m₂, H₂, rb, S₂, af₂, h₂⟩
  refine wpAny_bind (wpAny_standAt (wpAny_bind (wpAny_holding (wpAny_mono (h₂ s₂ a b r S₂ (ra.keep (af₂.tup S₁)) rb ((hv.keep (af₁.tup S)).keep (af₂.tup S₁))) ?_ fun _ _ x => x))))
  rintro _ s₃ x
  have := x.mono S₂ (af₁.then S₁ af₂)
  exact fun Γ p hΓ => by rw [Sem.wp_release]; exact this
end
end
end Mine
end
section
open PySem PySem.Calls PySem.W PyProof.Rows
set_option maxRecDepth 100000
namespace Mine
noncomputable section
section
variable {C : Cx} {A : Around} {m : Loc} {H : CH} {s : Shared}
/-- keyword arguments -/
noncomputable def KWs (h : Heap) (kws : List (Str × V)) (rkw : List (Str × Value)) : Prop := rkw.map (·.1) = kws.map (·.1) ∧ VRs h (kws.map (·.2)) (rkw.map (·.2))
theorem KWs.keep {h h' : Heap} (k : TupKeep h h') {kws : List (Str × V)} {rkw : List (Str × Value)} (x : KWs h kws rkw) : KWs h' kws rkw := ⟨x.1, x.2.keep k⟩
theorem KWs.nil {h : Heap} : KWs h [] [] := ⟨rfl, .nil⟩
theorem KWs.nil_inv {h : Heap} {rkw : List (Str × Value)} (x : KWs h [] rkw) : rkw = [] := List.map_eq_nil_iff.mp x.1
noncomputable def CALL (C : Cx) (A : Around) (f : V) (vs : List V) (kws : List (Str × V)) (H : CH) (Q : V → CH → Prop) : Prop := ∀ s rf rs rkw, HS C H s → Frs C H s → VR s.heap f rf → VRs s.heap vs rs → KWs s.heap kws rkw →
  codeAny (model C.prog C.w) A (.call rf ⟨rs, rkw⟩) (fun r s' => match r with | .ok (.ret rv) => ∃ v H', VR s'.heap v rv ∧ HS C H' s' ∧ AfterC H s H' s' ∧ Q v H' | _ => False) s
noncomputable def CV (C : Cx) (A : Around) (f : V) (vs : List V) (kws : List (Str × V)) (m : Loc) (H : CH) (Q : V → Loc → CH → Prop) : Prop := ∀ s rf rs rkw, St C m H s → VR s.heap f rf → VRs s.heap vs rs → KWs s.heap kws rkw →
  wpAny (model C.prog C.w) A (call rf rs rkw) (PV C H s Q) NoE s
theorem St.called {H' : CH} {s' : Shared} (S : St C m H s) (S' : HS C H' s') (a : AfterC H s H' s') : St C m H' s' := by
  obtain ⟨mr, hn, k⟩ := S.ns
  obtain ⟨o, es, ep, ho, hd, hk, hf⟩ := hn
  obtain ⟨o', ho', kin⟩ := a.stay _ o S.loc ho
  exact ⟨S', ⟨mr, ⟨o', es, ep, ho', kin.data.trans hd, hk, hf⟩, k.keep (a.tup S.toHS)⟩, a.grow _ o S.loc ho, S.locb, S.frs.after a⟩
theorem CV_of {f : V} {vs : List V} {kws : List (Str × V)} {Q : V → Loc → CH → Prop} (h : CALL C A f vs kws H fun v H' => Q v m H') : CV C A f vs kws m H Q := fun s rf rs rkw S hf hv hk => by
  refine wpAny_call (codeAny_mono (h s rf rs rkw S.toHS S.frs hf hv hk) ?_)
  rintro r s' x
  cases r with
  | error e => exact x.elim
  | ok f =>
    cases f with
    | ret rv => obtain ⟨v, H', a, b, c, d⟩ := x; exact ⟨v, m, H', a, S.called b c, c.after, d⟩
    | next => exact x.elim
    | brk => exact x.elim
    | cont => exact x.elim
theorem CALL.mono {f : V} {vs : List V} {kws : List (Str × V)} {Q Q' : V → CH → Prop} (h : CALL C A f vs kws H Q) (q : ∀ v H', Q v H' → Q' v H') : CALL C A f vs kws H Q' := fun s rf rs rkw S F hf hv hk => by
  refine codeAny_mono (h s rf rs rkw S F hf hv hk) ?_
  rintro r s' x
  cases r with
  | error e => exact x.elim
  | ok f =>
    cases f with
    | ret rv => obtain ⟨v, H', a, b, c, d⟩ := x; exact ⟨v, H', a, b, c, q _ _ d⟩
    | next => exact x.elim
    | brk => exact x.elim
    | cont => exact x.elim
/-- who keeps the callee -/
noncomputable def KP (C : Cx) (f : V) (H : CH) : Prop := ∀ s rf, HS C H s → VR s.heap f rf → ∃ k, Looks (model C.prog C.w) s.heap (keeperOf rf) k
theorem KP_built {id : String} : KP C (.con (.builtin id)) H := fun s rf S hf => ⟨.machine, by rw [hf.con_inv]; exact Looks.of_pure rfl⟩
theorem KP_type {n : String} : KP C (.con (.type n)) H := fun s rf S hf => ⟨.machine, by rw [hf.con_inv]; exact Looks.of_pure rfl⟩
theorem looks_keeper_fn {M : Model} {h : Heap} {a : Addr} {o : Obj} {fd : FuncData} (e : h.get? a = some o) (hd : o.data = .func fd) : Looks M h (keeperOf (.ref a)) .frame := by
  intro A Q E s k q
  unfold keeperOf
  refine wpAny_bind (wpAny_load (k _ _ e) ?_)
  rw [hd]; exact wpAny_pure q
theorem KP_fn {a : Addr} {o : Obj} {fd : FuncData} (e : C.h₀.get? a = some o) (hd : o.data = .func fd) : KP C (.con (.ref a)) H := fun s rf S hf => by
  rw [hf.con_inv]; exact ⟨.frame, looks_keeper_fn (S.base _ _ e) hd⟩
theorem callWith_any {M : Model} {E : Value → Shared → Prop} {pos : Pos} {f : Value} {first : List Value} {args : List (Bool × Sem Value)} {kws : List (Option Str × Sem Value)} {Q : Value → Shared → Prop}
    (h : wpAny M A (evalArgs f true args kws) (fun a s₁ => ∃ k, Looks M s₁.heap (keeperOf f) k ∧ wpAny M A (call f (first ++ a.pos) a.kw) Q E s₁) E s) : wpAny M A (callWith pos f first args kws) Q E s := by
  unfold callWith
  refine wpAny_bind (wpAny_holding (wpAny_mono h (fun a s₁ h₁ => wpAny_bind (wpAny_standAt ?_)) fun _ _ x => x))
  obtain ⟨k, L, hc⟩ := h₁
  refine wpAny_bind (L.here ?_)
  have tail : ∀ {t : Sem Value}, wpAny M A t Q E s₁ → wpAny M A (t >>= fun r => holding [r] point >>= fun _ => pure r) Q E s₁ :=
    fun ht => wpAny_bind (wpAny_mono ht (fun r s₂ hr => wpAny_bind (wpAny_holding (wpAny_point (wpAny_pure hr)))) fun _ _ x => x)
  have marked (mk : Value) : wpAny M A (callMarked mk f (first ++ a.pos) a.kw) Q E s₁ := by unfold callMarked; exact Calls.wpAny_keep hc
  cases k <;> cases (args.any (·.1) || kws.any (·.1.isNone)) <;> dsimp only <;> first
    | exact tail (marked _)
    | exact tail hc
    | exact tail (wpAny_operating hc)
    | (split <;> first | exact tail hc | exact tail (marked _))
/-- plain arguments -/
theorem evalArgs_gen {M : Model} {E : Value → Shared → Prop} {f : Value} {args : List (Bool × Sem Value)} {Q : Args → Shared → Prop} (hne : (args.head?.map (·.1)).getD false = false)
    (h : wpAny M A (spliced args) (fun vs s' => Q ⟨vs, []⟩ s') E s) : wpAny M A (evalArgs f true args []) Q E s := by
  match args, hne, h with
  | (false, x) :: r, _, h => exact evalArgs_plain h
  | [], _, h =>
    unfold evalArgs
    show wpAny M A (spliced [] >>= _) Q E s
    refine wpAny_bind (wpAny_mono h (fun vs s' h' => ?_) fun _ _ x => x)
    refine wpAny_bind (wpAny_pure ?_)
    refine wpAny_holding ?_
    exact wpAny_bind (wpAny_pure (wpAny_bind (wpAny_pure (wpAny_pure h'))))
theorem evalArgs_of {f : Value} {es : List PySem.Expr} {pos : Pos} {Q : List V → Loc → CH → Prop} {Q' : Args → Shared → Prop} (h : EL C A es m H Q) (hst : ((backTo pos (starEach es C.env)).head?.map (·.1)).getD false = false) (S : St C m H s)
    (hq : ∀ rs s', PL C H s Q rs s' → Q' ⟨rs, []⟩ s') : wpAny (model C.prog C.w) A (evalArgs f true (backTo pos (starEach es C.env)) (backToKw pos (keywordEach [] C.env))) Q' NoE s :=
  evalArgs_gen hst (wpAny_mono (h s pos S) (fun rs s' x => hq rs s' x) fun _ _ x => x)
noncomputable abbrev NoLone (C : Cx) (es : List PySem.Expr) : Prop := ∀ pos, ((backTo pos (starEach es C.env)).head?.map (·.1)).getD false = false
theorem EV_call {func : PySem.Expr} {args : List PySem.Expr} {p : Pos} {Q : V → Loc → CH → Prop} (h : EV C A func m H fun f m₁ H₁ => EL C A args m₁ H₁ fun vs m₂ H₂ => KP C f H₂ ∧ CV C A f vs [] m₂ H₂ Q)
    (hst : NoLone C args := by intro _; with_unfolding_all rfl)
    (he : eval (.Call func args [] p) C.env = (do callWith p (← eval func C.env) [] (backTo p (starEach args C.env)) (backToKw p (keywordEach [] C.env))) := by with_unfolding_all rfl) : EV C A (.Call func args [] p) m H Q := fun s S => by
  rw [he]
  refine wpAny_bind (wpAny_mono (h s S) ?_ fun _ _ x => x)
  rintro rf s₁ ⟨f, m₁, H₁, vf, S₁, af₁, h₁⟩
  refine callWith_any (evalArgs_of h₁ (hst p) S₁ ?_)
  rintro rs s₂ ⟨vs, m₂, H₂, vr, S₂, af₂, hk, h₂⟩
  have vf₂ := vf.keep (af₂.tup S₁)
  obtain ⟨k, L⟩ := hk s₂ rf S₂.toHS vf₂
  exact ⟨k, L, wpAny_mono (h₂ s₂ rf rs [] S₂ vf₂ vr .nil) (fun _ _ x => x.mono S₂ (af₁.then S₁ af₂)) fun _ _ x => x⟩
/-- a method as a call sees it: the function, and what goes ahead of the arguments -/
noncomputable def GM (C : Cx) (A : Around) (o : V) (name : Str) (m : Loc) (H : CH) (Q : V → List V → Prop) : Prop := ∀ s ro (pl : Sem Bool), St C m H s → VR s.heap o ro →
  wpAny (model C.prog C.w) A (getMethod ro name pl) (fun r s' => ∃ f first, VR s'.heap f r.1 ∧ VRs s'.heap first r.2 ∧ s'.heap = s.heap ∧ s'.gens = s.gens ∧ s'.drawn = s.drawn ∧ s'.os = s.os ∧ Q f first) NoE s
theorem EV_meth {o : PySem.Expr} {name : Str} {apos p : Pos} {args : List PySem.Expr} {Q : V → Loc → CH → Prop}
    (h : EV C A o m H fun ov m₁ H₁ => GM C A ov name m₁ H₁ fun f first => EL C A args m₁ H₁ fun vs m₂ H₂ => KP C f H₂ ∧ CV C A f (first ++ vs) [] m₂ H₂ Q)
    (hst : NoLone C args := by intro _; with_unfolding_all rfl)
    (hb : ∀ whole, attributeBase o name C.env whole = whole := by intro _; with_unfolding_all rfl) (hn : methodCallForm (args.length + 0) (backTo p (starEach args C.env)) [] = true := by with_unfolding_all rfl)
    (hp : apos.endLine == p.line := by with_unfolding_all rfl) : EV C A (.Call (.Attribute o name apos) args [] p) m H Q := fun s S => by
  have he : eval (.Call (.Attribute o name apos) args [] p) C.env = (do
      let ov ← attributeBase o name C.env (eval o C.env)
      standAt apos.atName
      methodCall o name apos p C.env ov (args.length + 0) (backTo p (starEach args C.env)) []) := rfl
  rw [he, hb]
  refine wpAny_bind (wpAny_mono (h s S) ?_ fun _ _ x => x)
  rintro ro s₁ ⟨ov, m₁, H₁, vo, S₁, af₁, h₁⟩
  refine wpAny_bind (wpAny_standAt ?_)
  unfold methodCall
  rw [hn]
  refine wpAny_bind (wpAny_holding ?_)
  show wpAny _ _ (getMethod ro name _) _ _ s₁
  refine wpAny_mono (h₁ s₁ ro _ S₁ vo) ?_ fun _ _ x => x
  rintro ⟨rf, rfirst⟩ s₂ ⟨f, first, vf, vfi, hh, hg, hd, ho, h₂⟩
  have hq : methodCallPos true o C.env apos p = pure p := by unfold methodCallPos; rw [hp]; rfl
  rw [hq]
  refine wpAny_bind (wpAny_pure ?_)
  have S₂ : St C m₁ H₁ s₂ := ⟨⟨by rw [hh]; exact S₁.base, by rw [hh]; exact S₁.own, hg.trans S₁.gens⟩, by rw [hh]; exact S₁.ns, S₁.loc, S₁.locb, by unfold Frs; rw [hh]; exact S₁.frs⟩
  have af₂ : After C H s H₁ s₂ := ⟨by rw [hh]; exact af₁.stay, af₁.grow, by rw [hh]; exact af₁.there, hd.trans af₁.drawn, ho.trans af₁.os⟩
  refine callWith_any (evalArgs_of h₂ (hst p) S₂ ?_)
  rintro rs s₃ ⟨vs, m₃, H₃, vr, S₃, af₃, hk, h₃⟩
  have vf₃ := vf.keep (af₃.tup S₂)
  obtain ⟨k, L⟩ := hk s₃ rf S₃.toHS vf₃
  exact ⟨k, L, wpAny_mono (h₃ s₃ rf _ [] S₃ vf₃ ((vfi.keep (af₃.tup S₂)).append vr) .nil) (fun _ _ x => x.mono S₃ (af₂.then S₂ af₃)) fun _ _ x => x⟩
noncomputable def Binds (C : Cx) (H : CH) (fd : FuncData) (vs : List V) (kws : List (Str × V)) (binds : List (Str × V)) : Prop := ∀ s rs rkw, HS C H s → VRs s.heap vs rs → KWs s.heap kws rkw →
  ∃ rb : List (Str × Value), BindsTo s fd ⟨rs, rkw⟩ rb ∧ KWs s.heap binds rb
theorem lookup_kws {h : Heap} : ∀ {binds : List (Str × V)} {rb : List (Str × Value)}, KWs h binds rb → ∀ {x : Str} {v : V}, binds.lookup x = some v → ∃ r, rb.lookup x = some r ∧ VR h v r
  | [], _, _, x, v, e => by simp at e
  | (y, w) :: b, rb, k, x, v, e => by
    obtain ⟨k1, k2⟩ := k
    cases rb with
    | nil => simp at k1
    | cons q rb =>
      obtain ⟨z, r⟩ := q
      simp only [List.map_cons, List.cons.injEq] at k1 k2
      obtain ⟨rfl, k1⟩ := k1
      rw [List.lookup_cons] at e ⊢
      cases hb : x == z with
      | true => rw [hb] at e; cases e; exact ⟨r, rfl, k2.head⟩
      | false => rw [hb] at e; exact lookup_kws ⟨k1, k2.tail⟩ e
theorem VRs.rev {h : Heap} : ∀ {xs : List V} {vs : List Value}, VRs h xs vs → VRs h xs.reverse vs.reverse
  | [], vs, r => by have := r.nil_inv; subst this; exact .nil
  | x :: xs, vs, r => by
    obtain ⟨y, ys, rfl, a, b⟩ := r.cons_inv
    rw [List.reverse_cons, List.reverse_cons]
    exact b.rev.append (.cons a .nil)
theorem KWs.rev {h : Heap} {binds : List (Str × V)} {rb : List (Str × Value)} (k : KWs h binds rb) : KWs h binds.reverse rb.reverse :=
  ⟨by rw [List.map_reverse, List.map_reverse, k.1], by rw [List.map_reverse, List.map_reverse]; exact k.2.rev⟩
noncomputable abbrev Cx.at (C : Cx) (env : Env) : Cx := { C with env := env, fr := env :: C.fr }
theorem HS.at {env : Env} (S : HS C H s) : HS (C.at env) H s := ⟨S.base, S.own, S.gens⟩
theorem HS.back {env : Env} (S : HS (C.at env) H s) : HS C H s := ⟨S.base, S.own, S.gens⟩
noncomputable def retOf : Fl → V
  | .ret v => v
  | _ => V.none
theorem CALL_def {f : Addr} {o : Obj} {fd : FuncData} {body : List Stmt} {vs : List V} {kws binds : List (Str × V)} {m' : Loc} {Q : V → CH → Prop}
    (ho : C.h₀.get? f = some o) (hd : o.data = .func fd) (hlim : C.h₀.NoLimit) (hcd : C.h₀.CodeRec fd.code fd.qualname) (hbody : fd.body = .stmts body) (hroom : A.depth < recursionLimit)
    (hcell : ∀ x ∈ fd.scope.names, x.2 ≠ .cell) (hb : Binds C H fd vs kws binds) (hloc : ∀ x ∈ binds, fd.scope.names.lookup x.1 = some .local) (hm : m' = binds.reverse)
    (h : ∀ L, H L = none → C.h₀.get? L = none → EX (C.at (callEnv fd L f)) (A.deeper (callEnv fd L f)) body m' H fun fl _ H' => Q (retOf fl) H')
    (hco : fd.scope.isCoroutine = false := by with_unfolding_all rfl) (hgen : fd.scope.isGenerator = false := by with_unfolding_all rfl) (hk : fd.scope.kind = .function := by with_unfolding_all rfl) : CALL C A (.con (.ref f)) vs kws H Q := fun s rf rs rkw S F hf hv hkw => by
  rw [hf.con_inv]
  obtain ⟨rb, hB, hrb⟩ := hb s rs rkw S hv hkw
  have hloc' : ∀ x ∈ rb, fd.scope.names.lookup x.1 = some .local := fun x hx => by
    have : x.1 ∈ binds.map (·.1) := hrb.1 ▸ List.mem_map_of_mem hx
    obtain ⟨y, hy, e⟩ := List.mem_map.mp this
    rw [← e]; exact hloc y hy
  refine codeAny_call_def hroom (S.base _ _ ho) hd (hlim.keeps S.base) (hcd.keeps S.base) hbody hB hcell hloc' (fun h₁ hns hk₁ => ?_) hco hgen hk
  have hE : (callEnv fd s.heap.objs.size f).locals = s.heap.objs.size := rfl
  have S₁ : St (C.at (callEnv fd s.heap.objs.size f)) m' H { s with heap := h₁, toks := s.toks + rb.length } := by
    refine ⟨(S.more hk₁).at, ⟨_, hns, fun x v e => ?_⟩, S.fresh, S.freshb, fun e he => ?_⟩
    · subst hm
      exact lookup_kws (hrb.rev.keep (.of_keep hk₁)) e
    · rcases List.mem_cons.mp he with rfl | he
      · obtain ⟨o', es, ep, ho', hd', _⟩ := hns
        exact ⟨hk, hgen, hco, _, o', es, ep, rfl, ho', hd', S.fresh, S.freshb⟩
      · exact F.keep (s' := { s with heap := h₁ }) (fun b o _ _ _ hn e _ => ⟨hn, o, hk₁ b o e, rfl⟩) e he
  refine wpAny_noRaise (wpAny_mono (h _ S.fresh S.freshb _ S₁) ?_ fun _ _ x => x)
  rintro fl s' ⟨f', m₂, H₂, hfl, S₂, af, q⟩
  have a : AfterC H s H₂ s' := ⟨fun b o hn e => af.stay b o (Nat.ne_of_lt (Heap.lt_size e)) hn (hk₁ b o e), fun b o hn e => af.grow b o hn (hk₁ b o e), fun b o e => af.there b o (hk₁ b o e), af.drawn, af.os⟩
  cases f' with
  | ret v => obtain ⟨r, rfl, hr⟩ := hfl; exact ⟨v, H₂, hr, S₂.toHS.back, a, q⟩
  | next => cases hfl; exact ⟨V.none, H₂, .con, S₂.toHS.back, a, q⟩
  | brk => cases hfl; exact ⟨V.none, H₂, .con, S₂.toHS.back, a, q⟩
  | cont => cases hfl; exact ⟨V.none, H₂, .con, S₂.toHS.back, a, q⟩
/-- positional binding -/
theorem Binds.pos1 {fd : FuncData} {x : Str} {v : V} (h : ∀ r, bindArgs fd ⟨[r], []⟩ = pure [(x, r)] := by intro _; with_unfolding_all rfl) : Binds C H fd [v] [] [(x, v)] := fun s rs rkw S hv hk => by
  have := hk.nil_inv; subst this
  obtain ⟨r, rs, rfl, a, b⟩ := hv.cons_inv; have := b.nil_inv; subst this
  exact ⟨_, .of_eq (h r), rfl, .cons a .nil⟩
theorem Binds.pos2 {fd : FuncData} {x y : Str} {v w : V} (h : ∀ r q, bindArgs fd ⟨[r, q], []⟩ = pure [(x, r), (y, q)] := by intro _ _; with_unfolding_all rfl) : Binds C H fd [v, w] [] [(x, v), (y, w)] := fun s rs rkw S hv hk => by
  have := hk.nil_inv; subst this
  obtain ⟨r, rs, rfl, a, b⟩ := hv.cons_inv; obtain ⟨q, rs, rfl, a', b⟩ := b.cons_inv; have := b.nil_inv; subst this
  exact ⟨_, .of_eq (h r q), rfl, .cons a (.cons a' .nil)⟩
theorem Binds.pos3 {fd : FuncData} {x y z : Str} {v w u : V} (h : ∀ r q p, bindArgs fd ⟨[r, q, p], []⟩ = pure [(x, r), (y, q), (z, p)] := by intro _ _ _; with_unfolding_all rfl) : Binds C H fd [v, w, u] [] [(x, v), (y, w), (z, u)] := fun s rs rkw S hv hk => by
  have := hk.nil_inv; subst this
  obtain ⟨r, rs, rfl, a, b⟩ := hv.cons_inv; obtain ⟨q, rs, rfl, a', b⟩ := b.cons_inv; obtain ⟨p, rs, rfl, a'', b⟩ := b.cons_inv; have := b.nil_inv; subst this
  exact ⟨_, .of_eq (h r q p), rfl, .cons a (.cons a' (.cons a'' .nil))⟩
end
end
end Mine
end
section
open PySem PySem.Calls PySem.W PyProof.Rows
set_option maxRecDepth 100000
namespace Mine
noncomputable section
section
variable {C : Cx} {A : Around} {m : Loc} {H : CH} {s : Shared} {Q : V → Loc → CH → Prop}
theorem tup_lt_eq (a b : Value) : Builtin.«tuple.__lt__» ⟨[a, b], []⟩ = (do
  let (a, [b]) ← slotArgs "__lt__" 1 ⟨[a, b], []⟩ | unsupported "internal:tuple.compare"
  if !(← isInstance b (.type "tuple")) then return ← ret .notImplemented
  let xs ← Builtin.Tuple.tupleItemsOf a
  let ys ← Builtin.Tuple.tupleItemsOf b
  for (x, y) in xs.toList.zip ys.toList do
    if !(← eqBool x y) then
      match CmpOp.Lt with
      | .Eq => return ← ret (.bool false)
      | .NotEq => return ← ret (.bool true)
      | _ => rule "tuple.compare.by-the-first-pair-that-differs"; return ← ret (← richCompare .Lt x y)
  ret (Builtin.Tuple.tupleCompareSizes .Lt xs.size ys.size)) := rfl
theorem VRs.two {h : Heap} {x y : V} {items : Array Value} (r : VRs h [x, y] items.toList) : ∃ a b, items = #[a, b] ∧ VR h x a ∧ VR h y b := by
  obtain ⟨a, l, e, ha, r⟩ := r.cons_inv
  obtain ⟨b, l, rfl, hb, r⟩ := r.cons_inv
  have := r.nil_inv; subst this
  exact ⟨a, b, by apply Array.ext'; rw [e], ha, hb⟩
theorem O2_ltp {a b c d : Int} (hu : A.units < cLine) (h : Q (.bool (decide (a < c ∨ (a = c ∧ b < d)))) m H) : O2 C A (compareOp .Lt) (.tup [.int a, .int b]) (.tup [.int c, .int d]) m H Q := fun s r q S hr hq => by
  obtain ⟨l, items, n, rfl, ho, hv⟩ := hr.tup_inv
  obtain ⟨l2, items2, n2, rfl, ho2, hv2⟩ := hq.tup_inv
  obtain ⟨x0, x1, rfl, h0, h1⟩ := hv.two
  obtain ⟨y0, y1, rfl, g0, g1⟩ := hv2.two
  obtain ⟨t0, rfl⟩ := h0.int_inv; obtain ⟨t1, rfl⟩ := h1.int_inv
  obtain ⟨u0, rfl⟩ := g0.int_inv; obtain ⟨u1, rfl⟩ := g1.int_inv
  show wpAny _ _ (richCompare .Lt (.ref l) (.ref l2)) _ _ s
  refine wpAny_richCompare_same_room (op := .Lt) (T := "tuple") ⟨_, ho, rfl⟩ ⟨_, ho2, rfl⟩ F.slot_tuple_lt ?_ hu
  refine wpAny_call_entry F.slot_tuple_lt ⟨_, ho, rfl⟩ F.entry_tuple_lt ?_ (F.args_tuple_lt_2 _ _)
  rw [tup_lt_eq]
  have hi : ∀ {Q : Bool → Shared → Prop}, Q true s → wpAny (model C.prog C.w) A.in1 (isInstance (.ref l2) (.type "tuple")) Q NoE s := fun q => wpAny_isInstance ⟨_, ho2, rfl⟩ AutoSeq1.sub_tuple_tuple q
  refine wpAny_bind (wpAny_pure ?_)
  dsimp only
  refine wpAny_bind (hi ?_)
  simp only [Bool.not_true, Bool.false_eq_true, if_false]
  refine wpAny_bind (wpAny_tupleItemsOf ho rfl ?_)
  refine wpAny_bind (wpAny_tupleItemsOf ho2 rfl ?_)
  have lt0 : ∀ {a b : Int} {t u : Tok} {Q : Value → Shared → Prop}, Q (.bool (decide (a < b))) s → wpAny (model C.prog C.w) A.in1 (richCompare .Lt (.int a t) (.int b u)) Q NoE s := fun q => lt_int q
  have ez : (#[Value.int a t0, Value.int b t1] : Array Value).toList.zip (#[Value.int c u0, Value.int d u1] : Array Value).toList = [(Value.int a t0, Value.int c u0), (Value.int b t1, Value.int d u1)] := rfl
  rw [ez, List.forIn_cons]
  refine wpAny_bind (wpAny_bind (wpAny_bind (wpAny_eqBool_int ?_)))
  by_cases hac : a = c
  · subst hac
    simp only [beq_self_eq_true, Bool.not_true, Bool.false_eq_true, if_false]
    refine wpAny_pure ?_
    dsimp only
    rw [List.forIn_cons]
    refine wpAny_bind (wpAny_bind (wpAny_eqBool_int ?_))
    by_cases hbd : b = d
    · subst hbd
      simp only [beq_self_eq_true, Bool.not_true, Bool.false_eq_true, if_false]
      refine wpAny_pure ?_
      dsimp only
      rw [List.forIn_nil]
      refine wpAny_pure ?_
      refine wpAny_pure ⟨_, rfl, by unfold Builtin.Tuple.tupleCompareSizes; simp, ?_⟩
      have e : decide (a < a ∨ (a = a ∧ b < b)) = false := by simp
      rw [e] at h
      exact .here S .con h
    · have hb' : (b == d) = false := by simpa using hbd
      simp only [hb', Bool.not_false, if_true]
      refine wpAny_bind (wpAny_rule (wpAny_bind (lt0 (wpAny_bind (wpAny_pure (wpAny_pure ?_))))))
      refine wpAny_pure (wpAny_pure ⟨_, rfl, by simp, ?_⟩)
      have e : decide (a < a ∨ (a = a ∧ b < d)) = decide (b < d) := by simp
      rw [e] at h
      exact .here S .con h
  · have hb' : (a == c) = false := by simpa using hac
    simp only [hb', Bool.not_false, if_true]
    refine wpAny_bind (wpAny_rule (wpAny_bind (lt0 (wpAny_bind (wpAny_pure (wpAny_pure ?_))))))
    refine wpAny_pure (wpAny_pure ⟨_, rfl, by simp, ?_⟩)
    have e : decide (a < c ∨ (a = c ∧ b < d)) = decide (a < c) := by simp [hac]
    rw [e] at h
    exact .here S .con h
end
end
end Mine
end
section
open PySem PySem.Calls PySem.W PyProof.Rows
set_option maxRecDepth 100000
namespace Mine
noncomputable section
section
variable {C : Cx} {A : Around} {m : Loc} {H : CH} {s : Shared} {Q : V → Loc → CH → Prop}
theorem GM_list {l : Addr} {xs : List V} {name : Str} {id : String} {Q : V → List V → Prop} (hl : LAt C H l xs) (slot : Slot "list" name id) (hty : typeOf (.builtin id) = pure (.type "method_descriptor")) (h : Q (.con (.builtin id)) [.ref l]) :
    GM C A (.ref l) name m H Q := fun s ro pl S hr => by
  rw [hr.ref_inv]
  obtain ⟨items, n, hI, hv, hz⟩ := S.toHS.list hl
  exact getMethod_builtin ⟨_, hI, rfl⟩ F.plainAttrs_list slot hty (fun a e => by cases e; exact ⟨_, hI, rfl⟩) ⟨_, _, .con, .cons .ref .nil, rfl, rfl, rfl, rfl, h⟩
theorem PV.upd {a : Addr} {c c' : CObj} {v : V} {r : Value} (S : St C m H s) (hc : H a = some c) {h' : Heap} {o' : Obj} {tk : Nat} (hs : Heap.SameBut a s.heap h') (ho : h'.get? a = some o') (hr : ORep C s.heap c' o') (hv : VR s.heap v r) (q : Q v m (H.set a c')) : PV C H s Q r { s with heap := h', toks := tk } :=
  ⟨v, m, _, hv.keep (S.toHS.upd (tk := tk) hc hs ho hr).2, S.upd hc hs ho hr, .upd hc hs ho, q⟩
theorem two_inv {h : Heap} {x y : V} {rs : List Value} (r : VRs h [x, y] rs) : ∃ a b, rs = [a, b] ∧ VR h x a ∧ VR h y b := by
  obtain ⟨a, l, rfl, ha, r⟩ := r.cons_inv
  obtain ⟨b, l, rfl, hb, r⟩ := r.cons_inv
  have := r.nil_inv; subst this
  exact ⟨a, b, rfl, ha, hb⟩
theorem one_inv {h : Heap} {x : V} {rs : List Value} (r : VRs h [x] rs) : ∃ a, rs = [a] ∧ VR h x a := by
  obtain ⟨a, l, rfl, ha, r⟩ := r.cons_inv
  have := r.nil_inv; subst this
  exact ⟨a, rfl, ha⟩
theorem three_inv {h : Heap} {x y z : V} {rs : List Value} (r : VRs h [x, y, z] rs) : ∃ a b c, rs = [a, b, c] ∧ VR h x a ∧ VR h y b ∧ VR h z c := by
  obtain ⟨a, l, rfl, ha, r⟩ := r.cons_inv
  obtain ⟨b, c, rfl, hb, hc⟩ := two_inv r
  exact ⟨a, b, c, rfl, ha, hb, hc⟩
theorem CV_append {l : Addr} {xs : List V} {v : V} (hl : H l = some (.list xs)) (hsz : xs.length ≤ sizeLine) (h : Q V.none m (H.set l (.list (xs ++ [v])))) : CV C A (.con (.builtin "list.append")) [.ref l, v] [] m H Q := fun s rf rs rkw S hf hv hk => by
  have := hk.nil_inv; subst this
  rw [hf.con_inv]
  obtain ⟨a, b, rfl, ha, hb⟩ := two_inv hv
  rw [ha.ref_inv]
  obtain ⟨items, n, hI, hvs, hz⟩ := S.toHS.list (.own hl)
  refine call_meets F.slot_list_append ⟨_, hI, rfl⟩ F.entry_list_append (F.args_list_append_2 _ _) (list_append l items n b (by (first | lia | omega))) ⟨hI, ?_⟩
  exact PV.upd (c' := .list (xs ++ [v])) S hl (Heap.SameBut.update ..) (hI.update _) ⟨_, _, rfl, by rw [Array.toList_push]; exact hvs.append (.cons hb .nil)⟩ .con h
theorem CV_pop {l : Addr} {xs : List V} {v : V} (hl : H l = some (.list (xs ++ [v]))) (hsz : xs.length + 1 ≤ sizeLine) (h : Q v m (H.set l (.list xs))) : CV C A (.con (.builtin "list.pop")) [.ref l] [] m H Q := fun s rf rs rkw S hf hv hk => by
  have := hk.nil_inv; subst this
  rw [hf.con_inv]
  obtain ⟨a, rfl, ha⟩ := one_inv hv
  rw [ha.ref_inv]
  obtain ⟨items, n, hI, hvs, hz⟩ := S.toHS.list (.own hl)
  have hz' : items.size = xs.length + 1 := by rw [hz]; simp
  obtain ⟨y, hy, hvy⟩ := hvs.get (i := xs.length) (x := v) (by simp)
  have hy' : items[items.size - 1]? = some y := by rw [hz', Nat.add_sub_cancel]; simpa using hy
  refine call_meets F.slot_list_pop ⟨_, hI, rfl⟩ F.entry_list_pop (F.args_list_pop_1 _) (MeetsSeq.list_pop_last l items n y hy' (by (first | lia | omega))) ⟨hI, ?_⟩
  refine PV.upd (c' := .list xs) S hl (Heap.SameBut.update ..) (hI.update _) ⟨_, _, rfl, ?_⟩ hvy h
  have e : (items.eraseIdxIfInBounds (items.size - 1)).toList = items.toList.eraseIdx xs.length := by
    rw [hz', Nat.add_sub_cancel, Array.eraseIdxIfInBounds_eq, dif_pos (by (first | lia | omega)), Array.toList_eraseIdx]
  rw [e]
  have := hvs.eraseIdx xs.length
  rwa [show (xs ++ [v]).eraseIdx xs.length = xs from by rw [List.eraseIdx_append_of_length_le (Nat.le_refl _)]; simp] at this
theorem CV_clear {l : Addr} {xs : List V} (hl : H l = some (.list xs)) (hsz : xs.length ≤ sizeLine) (h : Q V.none m (H.set l (.list []))) : CV C A (.con (.builtin "list.clear")) [.ref l] [] m H Q := fun s rf rs rkw S hf hva hk => by
  have := hk.nil_inv; subst this
  rw [hf.con_inv]
  obtain ⟨a, rfl, ha⟩ := one_inv hva
  rw [ha.ref_inv]
  obtain ⟨items, n, hI, hvs, hz⟩ := S.toHS.list (.own hl)
  refine call_meets F.slot_list_clear ⟨_, hI, rfl⟩ F.entry_list_clear (F.args_list_clear_1 _) (AutoSeq1.list_clear_list_0 l items n (by (first | lia | omega))) ⟨hI, ?_⟩
  exact PV.upd (c' := .list []) S hl (Heap.SameBut.update ..) (hI.update _) ⟨_, _, rfl, .nil⟩ .con h
theorem CV_len {l : Addr} {xs : List V} (hl : LAt C H l xs) (hsz : xs.length ≤ sizeLine) (h : Q (.int xs.length) m H) : CV C A (.con (.builtin "len")) [.ref l] [] m H Q := fun s rf rs rkw S hf hva hk => by
  have := hk.nil_inv; subst this
  rw [hf.con_inv]
  obtain ⟨a, rfl, ha⟩ := one_inv hva
  rw [ha.ref_inv]
  obtain ⟨items, n, hI, hvs, hz⟩ := S.toHS.list hl
  refine call_len_list hI.isList (by unfold sizeLine at hsz; (first | lia | omega)) ?_
  rw [hz]; exact .same S .int h _
theorem CV_len_tup {xs : List V} (hsz : xs.length ≤ sizeLine) (h : Q (.int xs.length) m H) : CV C A (.con (.builtin "len")) [.tup xs] [] m H Q := fun s rf rs rkw S hf hva hk => by
  have := hk.nil_inv; subst this
  rw [hf.con_inv]
  obtain ⟨a, rfl, ha⟩ := one_inv hva
  obtain ⟨t, items, n, rfl, ho, hvs⟩ := ha.tup_inv
  have hz : items.size = xs.length := by have := hvs.length; simp at this; (first | lia | omega)
  refine len_tuple ⟨_, ho, rfl, n, rfl⟩ (by unfold sizeLine at hsz; (first | lia | omega)) ?_
  rw [hz]; exact .same S .int h _
theorem add_lists {l b : Addr} {xs ys : List V} (hl : LAt C H l xs) (hb : LAt C H b ys) (hsz : xs.length + ys.length ≤ sizeLine) (h : ∀ a, H a = none → Q (.ref a) m (H.set a (.list (xs ++ ys)))) : O2 C A (binaryOp .Add) (.ref l) (.ref b) m H Q := fun s r q S hr hq => by
  rw [hr.ref_inv, hq.ref_inv]
  obtain ⟨items, n, hI, hvs, hz⟩ := S.toHS.list hl
  obtain ⟨items2, n2, hI2, hvs2, hz2⟩ := S.toHS.list hb
  refine P.add_list hI hI2 ?_ (by (first | lia | omega))
  exact ⟨_, m, _, .ref, S.alloc (c := .list (xs ++ ys)) ⟨_, 0, rfl, by rw [Array.toList_append]; exact hvs.append hvs2⟩, .alloc, h _ S.toHS.fresh⟩
end
end
end Mine
end
section
open PySem PySem.Calls PySem.W PyProof.Rows
set_option maxRecDepth 100000
namespace Mine
noncomputable section
/-- what the text's top has left -/
structure Bs (h₀ : Heap) (K : Frag) (mg mb : Str → Option Value) : Prop where
  X : K.In h₀
  lim : h₀.NoLimit
  g : h₀.Ns mainGlobals mg
  b : h₀.Ns builtinsNs mb
  boot : ∀ x : Str, x ≠ ("__name__" : Str) → mb x = bootBuiltins x
  sys : ∃ o, h₀.get? sysModules = some o
  bm : ∃ bm ob, mg "__builtins__" = some (.ref bm) ∧ bm ≠ builtinsNs ∧ h₀.get? bm = some ob ∧ ob.cls = .type "module" ∧ ob.dict = some builtinsNs ∧ ob.data = .plain
theorem mg_none {K : Frag} {h : Heap} {mg : Str → Option Value} {n : Str} (X : K.In h) (G : h.Ns mainGlobals mg) (e : nsIn K mainGlobals n = some none) : mg n = none := mg_none_of X G e
/-- room for calls, and nothing being handled -/
structure AOK (C : Cx) (A : Around) (n : Nat) : Prop where
  handled : A.handled = none
  depth : A.depth + n < recursionLimit
  units : A.units + 4 * n + 40 < cLine
  frames : A.frames = some C.fr
theorem AOK.at {C : Cx} {A : Around} {n : Nat} {env : Env} (h : AOK C A (n + 1)) : AOK (C.at env) (A.deeper env) n :=
  ⟨h.handled, by have := h.depth; show A.depth + 1 + n < _; (first | lia | omega), by have := h.units; show A.units + 3 + 4 * n + 40 < _; (first | lia | omega), Around.frames_deeper h.frames⟩
theorem AOK.room {C : Cx} {A : Around} {n : Nat} (h : AOK C A n) : A.depth < recursionLimit := by have := h.depth; (first | lia | omega)
theorem AOK.line {C : Cx} {A : Around} {n : Nat} (h : AOK C A n) : A.units < cLine := by have := h.units; (first | lia | omega)
section
variable {C : Cx} {A : Around} {m : Loc} {H : CH} {s : Shared} {Q : V → Loc → CH → Prop} {K : Frag} {mg mb : Str → Option Value}
theorem EV_g {x : Str} {p : Pos} {v : Value} (B : Bs C.h₀ K mg mb) (e : nsIn K mainGlobals x = some (some v)) (h : Q (.con v) m H) (hG : C.env.globals = mainGlobals := by with_unfolding_all rfl)
    (hk : C.env.scope.kind = .function := by with_unfolding_all rfl) (hl : C.env.kindOf x = some .globalImplicit := by with_unfolding_all rfl) (hd : (x == ("__debug__" : Str)) = false := by decide) : EV C A (.Name x p) m H Q := fun s S =>
  Name_function_global hk hl (loadGlobal_global (hG ▸ B.g.keeps S.base) (mg_of B.X B.g e) (.here S .con h)) hd
theorem EV_b {x : Str} {p : Pos} {v : Value} (B : Bs C.h₀ K mg mb) (e : nsIn K mainGlobals x = some none) (hv : bootBuiltins x = some v) (h : Q (.con v) m H) (hn : x ≠ ("__name__" : Str) := by decide) (hG : C.env.globals = mainGlobals := by with_unfolding_all rfl) (hB : C.env.builtins = builtinsNs := by with_unfolding_all rfl)
    (hk : C.env.scope.kind = .function := by with_unfolding_all rfl) (hl : C.env.kindOf x = some .globalImplicit := by with_unfolding_all rfl) (hd : (x == ("__debug__" : Str)) = false := by decide) : EV C A (.Name x p) m H Q := fun s S =>
  Name_function_global hk hl (loadGlobal_builtin (hG ▸ B.g.keeps S.base) (mg_none B.X B.g e) (hB ▸ B.b.keeps S.base) ((B.boot x hn).trans hv) (.here S .con h)) hd
theorem KP_K {f : Addr} {name qual : Str} {params : Arguments} {body : List Stmt} {scope : Scope} {cl : List (Str × Addr)} {dV kV doc pm cdv ct oc : Value} {an od : Option Addr} {osl : Array (Option Value)} (B : Bs C.h₀ K mg mb)
    (ho : K.lookup f = some ⟨oc, od, .func (fnX name qual params body scope cl dV kV doc pm an cdv ct), osl⟩) : KP C (.con (.ref f)) H := KP_fn (B.X _ _ ho) rfl
theorem CALL_K {f : Addr} {name qual : Str} {params : Arguments} {body : List Stmt} {scope : Scope} {cl : List (Str × Addr)} {dV kV doc pm cdv ct oc : Value} {an od : Option Addr} {osl : Array (Option Value)} {vs : List V} {kws binds : List (Str × V)} {m' : Loc} {Q : V → CH → Prop}
    (B : Bs C.h₀ K mg mb) (ho : K.lookup f = some ⟨oc, od, .func (fnX name qual params body scope cl dV kV doc pm an cdv ct), osl⟩) (hcd : codeIn K cdv qual = true) {n : Nat} (hA : AOK C A (n + 1))
    (hb : Binds C H (fnX name qual params body scope cl dV kV doc pm an cdv ct) vs kws binds) (hok : (scope.names.all (fun x => x.2 != .cell) && binds.all (fun x => scope.names.lookup x.1 == some .local) && !scope.isCoroutine && !scope.isGenerator && scope.kind == .function) = true) (hm : m' = binds.reverse)
    (h : ∀ L, H L = none → C.h₀.get? L = none → AOK (C.at (callEnv (fnX name qual params body scope cl dV kV doc pm an cdv ct) L f)) (A.deeper (callEnv (fnX name qual params body scope cl dV kV doc pm an cdv ct) L f)) n → EX (C.at (callEnv (fnX name qual params body scope cl dV kV doc pm an cdv ct) L f)) (A.deeper (callEnv (fnX name qual params body scope cl dV kV doc pm an cdv ct) L f)) body m' H fun fl _ H' => Q (retOf fl) H') :
    CALL C A (.con (.ref f)) vs kws H Q := by
  simp only [Bool.and_eq_true, List.all_eq_true, Bool.not_eq_true', beq_iff_eq, bne_iff_ne] at hok
  obtain ⟨⟨⟨⟨h1, h2⟩, h3⟩, h4⟩, h5⟩ := hok
  exact CALL_def (B.X _ _ ho) rfl B.lim (codeRec_of B.X hcd) rfl hA.room h1 hb h2 hm (fun L hL hL0 => h L hL hL0 hA.at) h3 h4 h5
theorem EX_mid {st : Stmt} {rest : List Stmt} {Q : Fl → Loc → CH → Prop} (R : Loc → CH → Prop) (h : ES C A st m H (SeqK R Q)) (k : ∀ m₁ H₁, R m₁ H₁ → EX C A rest m₁ H₁ Q) : EX C A (st :: rest) m H Q :=
  EX_cons (h.mono fun fl m₁ H₁ q => by cases fl <;> first | exact k _ _ q | exact q)
theorem CH.set_set {H : CH} {a : Addr} {c d : CObj} : (H.set a c).set a d = H.set a d := by
  funext b; unfold CH.set; split <;> rfl
theorem CH.set_self {H : CH} {a : Addr} {c : CObj} (h : H a = some c) : H.set a c = H := by
  funext b; unfold CH.set; split
  · subst b; exact h.symm
  · rfl
end
end
end Mine
end
section
open PySem PySem.Calls PySem.W PyProof.Rows
set_option maxRecDepth 100000
namespace Mine
noncomputable section
section
variable {C : Cx} {A : Around} {m : Loc} {H : CH} {s : Shared}
/-- `xs` one by one, as long as `ok` stands -/
noncomputable def SeqOf (C : Cx) (A : Around) (v : V) (H : CH) (xs : List V) (ok : CH → Prop) : Prop := ∃ nx, Iterable C A v H nx ∧ ∀ H' i, ok H' → nx H' i = some xs[i]?
theorem not_imm_cls {o : Obj} {T : String} (h : o.cls = .type T) (hT : immCls.contains T = false) (hv : ∀ vs x t, o.data = .fields vs → vs[1]? ≠ some (.str x t)) : ¬ Imm o := fun ⟨_, hcl, _⟩ => by
  rcases hcl with ⟨T', hT', hc⟩ | ⟨vs, x, t, e, q⟩
  · rw [h] at hc; cases hc
    have : immCls.contains T = true := List.contains_iff_mem.mpr hT'
    rw [hT] at this; cases this
  · exact hv vs x t e q
theorem letOwned_plain {M : Model} {E : Value → Shared → Prop} {target : PySem.Expr} {I : Addr} {v : Value} {o : Obj} {T : String} {Q : Unit → Shared → Prop} (ho : s.heap.get? I = some o) (hc : o.cls = .type T)
    (hT : (["enumerate", "zip", "dict_itemiterator", "dict_reverseitemiterator", "odict_iterator", "itertools.zip_longest", "itertools.pairwise"].contains T) = false) (h : Q () s) :
    wpAny M A (letOwnedTupleGo target (.ref I) v) Q E s := by
  have key : wpAny M A (do
    let (.ref r, .ref a) := (Value.ref I, v) | return
    let o ← load r
    match o.cls, o.data with
    | .type n, .fields vs =>
      if ["enumerate", "zip", "dict_itemiterator", "dict_reverseitemiterator", "odict_iterator", "itertools.zip_longest", "itertools.pairwise"].contains n && vs[0]? == some (rawInt a) then
        rule "for.unpacks-the-owned-tuple"
        updateField r 0 .none
    | _, _ => pure () : Sem Unit) Q E s := by
    cases v with
    | ref a =>
      refine wpAny_bind (wpAny_load ho ?_)
      rw [hc]
      split
      · rename_i n vs h1 h2
        cases h1
        rw [hT, Bool.false_and]
        exact wpAny_pure h
      · exact wpAny_pure h
    | _ => exact wpAny_pure h
  unfold letOwnedTupleGo
  cases target <;> first | exact wpAny_pure h | exact key
noncomputable def nxList (l : Addr) (H : CH) (i : Nat) : Option (Option V) := match H l with
  | some (.list xs) => some xs[i]?
  | _ => none
theorem prot_list {I l : Addr} {nx : CH → Nat → Option (Option V)} (hA : A.handled = none) (hne : l ≠ I) (hx : ∀ H i x, nx H i = some x → ∃ xs, LAt C H l xs ∧ x = xs[i]?) :
    Prot C A I (fun i _ o => o.cls = .type "list_iterator" ∧ o.data = .fields #[.ref l, .int i 0]) nx where
  plain := fun i _ o h e => not_imm_cls h.1 (by decide) (by intro vs x t e q; rw [h.2] at e; cases e; cases q) e
  nodict := fun i _ o es ep h e => by rw [h.2] at e; cases e
  kept := fun _ _ _ _ _ h => h
  item := fun H s i o v S hI ho hob hn => by
    obtain ⟨xs, hl, hv⟩ := hx H i _ hn
    obtain ⟨items, n, hL, hvs, hz⟩ := S.list hl
    obtain ⟨r, hr, hvr⟩ := hvs.get hv.symm
    refine wpAny_pyNext_list_item ⟨o, ho, hob.1, hob.2⟩ hL.isList (by simpa using hr) fun h' hit hs => ?_
    obtain ⟨o', ho', hc', hd'⟩ := hit
    refine ⟨r, h', s.toks, o', rfl, rfl, hvr.keep (tup_ext ho (fun e => not_imm_cls hob.1 (by decide) (by intro vs x t e q; rw [hob.2] at e; cases e; cases q) e) hs.extBut), hs.extBut, ho', hc', hd'⟩
  done := fun H s i o S hI ho hob hn => by
    obtain ⟨xs, hl, hv⟩ := hx H i _ hn
    obtain ⟨items, n, hL, hvs, hz⟩ := S.list hl
    have : items[i]? = none := by
      have : xs.length ≤ i := List.getElem?_eq_none_iff.mp hv.symm
      exact Array.getElem?_eq_none (by (first | lia | omega))
    exact wpAny_pyNext_list_end hA ⟨o, ho, hob.1, hob.2⟩ hL.isList this fun h' he => ⟨h', s.toks, rfl, rfl, he⟩
  own := fun target v s i _ o Q ho hob h => letOwned_plain ho hob.1 (by decide) h
  self := fun s i _ o E Q ho hob h => wpAny_pyIter_listiter (i := i) ⟨o, ho, hob.1, hob.2⟩ h
theorem size_none : s.heap.get? s.heap.objs.size = none := by
  cases e : s.heap.get? s.heap.objs.size with
  | none => rfl
  | some o => exact absurd (Heap.lt_size e) (Nat.lt_irrefl _)
theorem seq_own {l : Addr} {xs : List V} (hA : A.handled = none) (h : H l = some (.list xs)) : SeqOf C A (.ref l) H xs (fun H' => H' l = some (.list xs)) := by
  refine ⟨nxList l, fun s r S hr => ?_, fun H' i ok => ?_⟩
  · rw [hr.ref_inv]
    obtain ⟨items, n, hL, hvs, hz⟩ := S.list (.own h)
    refine wpAny_pyIter_list hL.isList ⟨s.heap.objs.size, fun i _ o => o.cls = .type "list_iterator" ∧ o.data = .fields #[.ref l, .int i 0], _, s.toks, _, rfl, rfl, keep_push _ _, size_none, Heap.get?_push_size _ rfl, ⟨rfl, rfl⟩, prot_list hA ?_ ?_⟩
    · exact Nat.ne_of_lt (Heap.lt_size hL)
    · intro H i x e
      unfold nxList at e
      split at e
      · rename_i xs hx; cases e; exact ⟨xs, .own hx, rfl⟩
      · cases e
  · unfold nxList; rw [ok]
theorem prot_tup {I t : Addr} {xs : List V} (hA : A.handled = none) (hne : t ≠ I) :
    Prot C A I (fun i h o => (o.cls = .type "tuple_iterator" ∧ o.data = .fields #[.ref t, .int i 0]) ∧ VR h (.tup xs) (.ref t)) (fun _ i => some xs[i]?) where
  plain := fun i _ o h e => not_imm_cls h.1.1 (by decide) (by intro vs x t e q; rw [h.1.2] at e; cases e; cases q) e
  nodict := fun i _ o es ep h e => by rw [h.1.2] at e; cases e
  kept := fun _ _ _ _ k h => ⟨h.1, h.2.keep k⟩
  item := fun H s i o v S hI ho hob hn => by
    obtain ⟨t', items, n, e, ht, hvs⟩ := hob.2.tup_inv
    cases e
    obtain ⟨r, hr, hvr⟩ := hvs.get (Option.some.inj hn)
    refine wpAny_pyNext_tuple_item ⟨o, ho, hob.1.1, hob.1.2⟩ ⟨_, ht, rfl, n, rfl⟩ (by simpa using hr) fun h' hit hs => ?_
    obtain ⟨o', ho', hc', hd'⟩ := hit
    have k : TupKeep s.heap h' := tup_ext ho (fun e => not_imm_cls hob.1.1 (by decide) (by intro vs x t e q; rw [hob.1.2] at e; cases e; cases q) e) hs.extBut
    exact ⟨r, h', s.toks, o', rfl, rfl, hvr.keep k, hs.extBut, ho', ⟨hc', hd'⟩, hob.2⟩
  done := fun H s i o S hI ho hob hn => by
    obtain ⟨t', items, n, e, ht, hvs⟩ := hob.2.tup_inv
    cases e
    have : items[i]? = none := by
      have : xs.length ≤ i := List.getElem?_eq_none_iff.mp (Option.some.inj hn)
      have hz := hvs.length; simp at hz
      exact Array.getElem?_eq_none (by (first | lia | omega))
    exact wpAny_pyNext_tuple_end hA ⟨o, ho, hob.1.1, hob.1.2⟩ ⟨_, ht, rfl, n, rfl⟩ this fun h' he => ⟨h', s.toks, rfl, rfl, he⟩
  own := fun target v s i _ o Q ho hob h => letOwned_plain ho hob.1.1 (by decide) h
  self := fun s i _ o E Q ho hob h => wpAny_pyIter_tupleiter (i := i) ⟨o, ho, hob.1.1, hob.1.2⟩ h
theorem seq_tup {xs : List V} (hA : A.handled = none) : SeqOf C A (.tup xs) H xs (fun _ => True) := by
  refine ⟨fun _ i => some xs[i]?, fun s r S hr => ?_, fun H' i ok => rfl⟩
  obtain ⟨t, items, n, rfl, ho, hvs⟩ := hr.tup_inv
  have hne : t ≠ s.heap.objs.size := Nat.ne_of_lt (Heap.lt_size ho)
  exact wpAny_pyIter_tuple ⟨_, ho, rfl, n, rfl⟩ ⟨s.heap.objs.size, _, _, s.toks, _, rfl, rfl, keep_push _ _, size_none, Heap.get?_push_size _ rfl, ⟨⟨rfl, rfl⟩, hr.keep (.push _ _)⟩, prot_tup hA hne⟩
/-- a range's object -/
noncomputable def rangeInts (a c : Int) (n : Nat) : List V := (List.range n).map fun i => .int (a + (i : Nat) * c)
theorem rangeInts_get {a c : Int} {n i : Nat} : (rangeInts a c n)[i]? = if i < n then some (.int (a + (i : Nat) * c)) else none := by
  unfold rangeInts
  rw [List.getElem?_map]
  by_cases h : i < n
  · rw [List.getElem?_range h, if_pos h]; rfl
  · rw [List.getElem?_eq_none (by simp; (first | lia | omega)), if_neg h]; rfl
theorem prot_range {I : Addr} {a c : Int} {n : Nat} (hA : A.handled = none) :
    Prot C A I (fun i _ o => o = { cls := .type "range_iterator", dict := none, data := .fields #[rawInt (a + (i : Nat) * c), rawInt ((n : Int) - (i : Nat)), rawInt c], slots := #[] }) (fun _ i => some (rangeInts a c n)[i]?) where
  plain := fun i _ o h e => not_imm_cls (T := "range_iterator") (by rw [h]) (by decide) (by intro vs x t e q; rw [h] at e; cases e; cases q) e
  nodict := fun i _ o es ep h e => by subst h; cases e
  kept := fun _ _ _ _ _ h => h
  item := fun H s i o v S hI ho hob hn => by
    subst hob
    rw [rangeInts_get] at hn
    by_cases hi : i < n
    · rw [if_pos hi] at hn; cases hn
      refine wpAny_pyNext_range_item ho (by (first | lia | omega)) fun h' hit hs => ?_
      refine ⟨_, h', _, _, rfl, rfl, .int, hs.extBut, hit, ?_⟩
      have e1 : a + ((i + 1 : Nat) : Int) * c = a + (i : Int) * c + c := by push_cast; rw [Int.add_mul, Int.one_mul, Int.add_assoc]
      have e2 : (n : Int) - ((i + 1 : Nat) : Int) = (n : Int) - (i : Int) - 1 := by push_cast; (first | lia | omega)
      rw [e1, e2]
    · rw [if_neg hi] at hn; cases hn
  done := fun H s i o S hI ho hob hn => by
    subst hob
    rw [rangeInts_get] at hn
    by_cases hi : i < n
    · rw [if_pos hi] at hn; cases hn
    · exact wpAny_pyNext_range_end hA ho (by (first | lia | omega)) fun h' he => ⟨h', s.toks, rfl, rfl, he⟩
  own := fun target v s i _ o Q ho hob h => letOwned_plain ho (by rw [hob]) (T := "range_iterator") (by decide) h
  self := fun s i _ o E Q ho hob h => by subst hob; exact wpAny_pyIter_rangeiter ho h
theorem seq_rng {a b c : Int} {n : Nat} (hA : A.handled = none) (hs : Builtin.Range.small a b c = true) (hn : Builtin.Range.rangeSize a b c = n) : SeqOf C A (.rng a b c) H (rangeInts a c n) (fun _ => True) := by
  refine ⟨fun _ i => some (rangeInts a c n)[i]?, fun s r S hr => ?_, fun H' i ok => rfl⟩
  obtain ⟨z, t, u, w, rfl, ho⟩ := hr.rng_inv
  refine wpAny_pyIter_range ho hs ⟨s.heap.objs.size, _, _, s.toks, _, rfl, rfl, keep_push _ _, size_none, Heap.get?_push_size _ rfl, ?_, prot_range hA⟩
  simp [hn]
theorem seq_rng1 {n : Nat} (hA : A.handled = none) (hn : n < 2 ^ 62) : SeqOf C A (.rng 0 n 1) H (rangeInts 0 1 n) (fun _ => True) :=
  seq_rng hA (small_one (by (first | lia | omega)) (by (first | lia | omega)) (by (first | lia | omega)) (by (first | lia | omega))) (by rw [rangeSize_one]; split <;> (first | lia | omega))
theorem CV_range1 {n : Int} {Q : V → Loc → CH → Prop} (h : Q (.rng 0 n 1) m H) : CV C A (.con (.type "range")) [.int n] [] m H Q := fun s rf rs rkw S hf hva hk => by
  have := hk.nil_inv; subst this
  rw [hf.con_inv]
  obtain ⟨a, rfl, ha⟩ := one_inv hva
  obtain ⟨t, rfl⟩ := ha.int_inv
  exact call_range_1 ⟨_, m, H, .rng (Heap.get?_push_size _ rfl), S.more (keep_push _ _), .more (keep_push _ _), h⟩
theorem CV_range2 {a b : Int} {Q : V → Loc → CH → Prop} (h : Q (.rng a b 1) m H) : CV C A (.con (.type "range")) [.int a, .int b] [] m H Q := fun s rf rs rkw S hf hva hk => by
  have := hk.nil_inv; subst this
  rw [hf.con_inv]
  obtain ⟨x, y, rfl, ha, hb⟩ := two_inv hva
  obtain ⟨t, rfl⟩ := ha.int_inv; obtain ⟨u, rfl⟩ := hb.int_inv
  exact call_range_2 ⟨_, m, H, .rng (Heap.get?_push_size _ rfl), S.more (keep_push _ _), .more (keep_push _ _), h⟩
theorem ES_for' {target iter : PySem.Expr} {body orelse : List Stmt} {p : Pos} {Q : Fl → Loc → CH → Prop}
    (h : EV C A iter m H fun v m₁ H₁ => ∃ (xs : List V) (ok : CH → Prop) (m₂ : Loc) (J : Nat → Loc → CH → Prop), SeqOf C A v H₁ xs ok ∧ Sub m₂ m₁ ∧ J 0 m₂ H₁ ∧ ∀ i m H, J i m H → ok H ∧
      (∀ x, xs[i]? = some x → ASG C A target x m H fun m' H' => EX C A body m' H' (Turn Q (NextJ J (i + 1)))) ∧ (i = xs.length → EX C A orelse m H Q))
    (hs : ∀ x, foldedSetIterable iter C.env x = pure x := by intro _; with_unfolding_all rfl) : ES C A (.For target iter body orelse p) m H Q :=
  ES_for (fun s S => wpAny_mono (h s S) (fun r s' ⟨v, m₁, H₁, hv, S₁, af, xs, ok, m₂, J, ⟨nx, it, hnx⟩, hsub, hJ, turn⟩ => ⟨v, m₁, H₁, hv, S₁, af, nx, xs.length, m₂, fun i m H => J i m H ∧ i ≤ xs.length, it, hsub, ⟨hJ, Nat.zero_le _⟩, fun i m H ⟨hj, hi⟩ => by
    obtain ⟨h1, h2, h3⟩ := turn i m H hj
    refine ⟨hi, ?_⟩
    rcases Nat.lt_or_ge i xs.length with hlt | hge
    · have hx : xs[i]? = some xs[i] := List.getElem?_eq_getElem hlt
      refine .inl ⟨xs[i], (hnx H i h1).trans (by rw [hx]), ?_⟩
      have h2' := h2 _ hx
      intro s r S hr
      refine wpAny_mono (h2' s r S hr) (fun _ s' ⟨m', H', S', af', q⟩ => ⟨m', H', S', af', q.mono fun fl m₂ H₂ hq => ?_⟩) fun _ _ x => x
      cases fl with
      | next => obtain ⟨m₃, a, b⟩ := hq; exact ⟨m₃, a, b, hlt⟩
      | cont => obtain ⟨m₃, a, b⟩ := hq; exact ⟨m₃, a, b, hlt⟩
      | brk => exact hq
      | ret v => exact hq
    · exact .inr ⟨(hnx H i h1).trans (by rw [List.getElem?_eq_none hge]), h3 (by (first | lia | omega))⟩⟩) fun _ _ x => x) hs
end
end
end Mine
end
section
open PySem PySem.Calls PySem.W PyProof.Rows
set_option maxRecDepth 100000
namespace Mine
noncomputable section
noncomputable abbrev Cx.comp (C : Cx) (scope : Scope) (cl : List (Str × Addr)) (L : Addr) : Cx := { C with env := compEnvC scope cl L C.env }
noncomputable def ETs (C : Cx) (A : Around) : List PySem.Expr → Loc → CH → (Bool → Loc → CH → Prop) → Prop
  | [], m, H, Q => Q true m H
  | c :: cs, m, H, Q => EB C A c m H fun b m₁ H₁ => (b = true → ETs C A cs m₁ H₁ Q) ∧ (b = false → Q false m₁ H₁)
section
variable {C : Cx} {A : Around} {m : Loc} {H : CH} {s : Shared}
theorem tests_false {M : Model} {env : Env} {E : Value → Shared → Prop} {Q : Bool → Shared → Prop} : ∀ {ifs : List PySem.Expr} {s : Shared}, Q false s →
    wpAny M A (forIn ifs false fun c r => if r = true then do let ok ← isTrue c env (eval c env); pure (ForInStep.yield ok) else pure (ForInStep.yield r)) Q E s
  | [], s, h => wpAny_pure h
  | c :: cs, s, h => by
    rw [List.forIn_cons]
    exact wpAny_bind (wpAny_pure (tests_false h))
theorem tests_of {Q : Bool → Loc → CH → Prop} : ∀ {ifs : List PySem.Expr} {m : Loc} {H : CH} {s : Shared}, ETs C A ifs m H Q → St C m H s →
    wpAny (model C.prog C.w) A (forIn ifs true fun c r => if r = true then do let ok ← isTrue c C.env (eval c C.env); pure (ForInStep.yield ok) else pure (ForInStep.yield r)) (PA C H s Q) NoE s
  | [], m, H, s, h, S => wpAny_pure (.here S h)
  | c :: cs, m, H, s, h, S => by
    rw [List.forIn_cons]
    refine wpAny_bind (wpAny_bind (wpAny_mono (h s S) ?_ fun _ _ x => x))
    rintro b s₁ ⟨m₁, H₁, S₁, af₁, h₁⟩
    refine wpAny_pure ?_
    cases b with
    | true => exact wpAny_mono (tests_of (h₁.1 rfl) S₁) (fun _ _ x => x.mono S₁ af₁) fun _ _ x => x
    | false => exact tests_false ⟨m₁, H₁, S₁, af₁, h₁.2 rfl⟩
/-- a thing that stands in the heap comes to be known -/
theorem HS.adopt (S : HS C H s) {a : Addr} {o : Obj} {c : CObj} (hb : C.h₀.get? a = none) (ho : s.heap.get? a = some o) (r : ORep C s.heap c o) : HS C (H.set a c) s where
  base := S.base
  own := fun b d e => by
    by_cases h : b = a
    · subst h; rw [CH.set_same] at e; cases e; exact ⟨hb, o, ho, r⟩
    · rw [CH.set_ne h] at e; exact S.own b d e
  gens := S.gens
theorem AfterC.thenAt {H₁ H₂ H₃ : CH} {s₁ s₂ s₃ : Shared} (a : AfterC H₁ s₁ H₂ s₂) (b : After C H₂ s₂ H₃ s₃) (hL : s₁.heap.get? C.env.locals = none) : AfterC H₁ s₁ H₃ s₃ where
  stay := fun x o hn e =>
    let ⟨o₁, e₁, k₁⟩ := a.stay x o hn e
    let ⟨o₂, e₂, k₂⟩ := b.stay x o₁ (fun q => by subst q; rw [hL] at e; cases e) (a.grow x o hn e) e₁
    ⟨o₂, e₂, k₁.trans k₂⟩
  grow := fun x o hn e => let ⟨o₁, e₁, _⟩ := a.stay x o hn e; b.grow x o₁ (a.grow x o hn e) e₁
  there := fun x o e => let ⟨o₁, e₁⟩ := a.there x o e; b.there x o₁ e₁
  drawn := b.drawn.trans a.drawn
  os := b.os.trans a.os
theorem AfterC.adopt {H₁ H₂ : CH} {s₁ s₂ : Shared} (a : AfterC H₁ s₁ H₂ s₂) {D : Addr} {c : CObj} (hD : s₁.heap.get? D = none) : AfterC H₁ s₁ (H₂.set D c) s₂ :=
  ⟨a.stay, fun b o hn e => by rw [CH.set_ne (fun q => by subst q; rw [hD] at e; cases e)]; exact a.grow b o hn e, a.there, a.drawn, a.os⟩
theorem AfterC.hid {H₁ H₂ : CH} {s₁ s₂ : Shared} (a : AfterC H₁ s₁ H₂ s₂) {I : Addr} (hI : s₁.heap.get? I = none) {h' : Heap} {tk : Nat} (hs : Heap.ExtBut I s₂.heap h') : AfterC H₁ s₁ H₂ { s₂ with heap := h', toks := tk } :=
  ⟨fun b o hn e => let ⟨o', e', k⟩ := a.stay b o hn e; ⟨o', hs b o' (fun q => by subst q; rw [hI] at e; cases e) e', k⟩, a.grow,
   fun b o e => let ⟨o', e'⟩ := a.there b o e; ⟨o', hs b o' (fun q => by subst q; rw [hI] at e; cases e) e'⟩, a.drawn, a.os⟩
/-- a hidden object of any kind -/
theorem HS.hid (S : HS C H s) {a : Addr} {oa : Obj} (ha : s.heap.get? a = some oa) (hH : H a = none) (hb : C.h₀.get? a = none) (ht : ¬ Imm oa) {h' : Heap} {tk : Nat} (hs : Heap.ExtBut a s.heap h') : HS C H { s with heap := h', toks := tk } := by
  have tk' : TupKeep s.heap h' := fun b o i e => hs b _ (fun q => by subst q; rw [ha] at e; cases e; exact ht i) e
  refine ⟨fun b o e => hs b o (fun q => by subst q; rw [hb] at e; cases e) (S.base b o e), fun b d e => ?_, S.gens⟩
  obtain ⟨x, o, hob, rb⟩ := S.own b d e
  exact ⟨x, o, hs b o (fun q => by subst q; rw [hH] at e; cases e) hob, rb.keep tk'⟩
theorem ns_not_imm {h : Heap} {L : Addr} {o : Obj} {mr : Str → Option Value} (hn : h.Ns L mr) (ho : h.get? L = some o) : ¬ Imm o := fun i => by
  obtain ⟨o', es, ep, ho', hd, _⟩ := hn
  rw [ho] at ho'; cases ho'; exact i.2.2.1 _ _ hd
/-- the turns of a list's comprehension -/
structure Comp (C : Cx) (A : Around) (elt target : PySem.Expr) (ifs : List PySem.Expr) (scope : Scope) (cl : List (Str × Addr)) (xs : List V) (ok : CH → Prop) (J : Nat → List V → CH → Prop) : Prop where
  turn : ∀ i ys H', J i ys H' → ok H' ∧ ys.length ≤ sizeLine ∧ ∀ x, xs[i]? = some x → ∀ L, H' L = none → ASG (C.comp scope cl L) A target x [] H' fun m₂ H₂ => ETs (C.comp scope cl L) A ifs m₂ H₂ fun b m₃ H₃ =>
    (b = true → EV (C.comp scope cl L) A elt m₃ H₃ fun y m₄ H₄ => J (i + 1) (ys ++ [y]) H₄) ∧ (b = false → J (i + 1) ys H₃)
inductive CompI (C : Cx) (ob : Nat → Heap → Obj → Prop) (J : Nat → List V → CH → Prop) (N : Nat) (I D L : Addr) (H : CH) (s : Shared) (k : Nat) (s' : Shared) : Prop
  | mk (i : Nat) (ys : List V) (H' : CH) (mr : Str → Option Value) (o : Obj) (items : Array Value) (n : Nat) (hi : i ≤ N) (hk : k = N - i) (S : HS C H' s') (a : AfterC H s H' s') (hI : H' I = none) (hD : H' D = none) (hL : H' L = none) (hn : s'.heap.Ns L mr)
      (ho : s'.heap.get? I = some o) (hob : ob i s'.heap o) (hDo : s'.heap.get? D = some (seqObj "list" items n)) (hys : VRs s'.heap ys items.toList) (hJ : J i ys H') : CompI C ob J N I D L H s k s'
inductive CompO (P : Heap → Prop) (I D L : Addr) (ys : List V) (items : Array Value) (n : Nat) (o : Obj) (H : CH) (h : Heap) : Prop
  | mk (mr : Str → Option Value) (hI : H I = none) (hD : H D = none) (ho : h.get? I = some o) (hob : P h) (hDo : h.get? D = some (seqObj "list" items n)) (hys : VRs h ys items.toList) (hn : h.Ns L mr) : CompO P I D L ys items n o H h
theorem comp_loop {elt target iter : PySem.Expr} {ifs : List PySem.Expr} {scope : Scope} {cl : List (Str × Addr)} {pos : Pos} {RRl : Result → Shared → Prop} {I D L : Addr} {ob : Nat → Heap → Obj → Prop} {nx : CH → Nat → Option (Option V)} {xs : List V} {ok : CH → Prop} {J : Nat → List V → CH → Prop}
    (F₁ : Frs C H s) (P : Prot C A I ob nx) (hnx : ∀ H' i, ok H' → nx H' i = some xs[i]?) (K : Comp C A elt target ifs scope cl xs ok J) (hI : s.heap.get? I = none) (hD0 : s.heap.get? D = none) (hL0 : s.heap.get? L = none) (hDL : D ≠ L) (hID : I ≠ D) (hIL : I ≠ L) (hnb : ∀ a, s.heap.get? a = none → C.h₀.get? a = none)
    (fin : ∀ s' H' ys mr, HS C H' s' → AfterC H s H' s' → H' D = none → H' L = none → s'.heap.Ns L mr → (∃ items n, s'.heap.get? D = some (seqObj "list" items n) ∧ VRs s'.heap ys items.toList) → J xs.length ys H' → RRl (.ok .next) s') {k : Nat} {s₄ : Shared} (h : CompI C ob J xs.length I D L H s k s₄) :
    codeAny (model C.prog C.w) A (.compLoop (.ListComp elt [⟨target, iter, ifs, 0⟩] scope pos) 0 (.ref I) (.ref D) (C.comp scope cl L).env) RRl s₄ := by
  refine codeAny_loop rfl (CompI C ob J xs.length I D L H s) ?_ k h
  rintro k s' ⟨i, ys, H', mr, oi, items, n, hi, rfl, S', af', hI', hD', hL', hn', hoi, hobi, hDi, hys, hJ'⟩
  show wpAny _ A ((compTurn (.ListComp elt [⟨target, iter, ifs, 0⟩] scope pos) 0 (.ref I) (.ref D) (C.comp scope cl L).env).onRaise (fun x => do noteFrame x (C.comp scope cl L).env; theTreesLotGoes x)) _ _ s'
  refine wpAny_noted (wpAny_noRaise ?_)
  rw [compTurn_list]
  obtain ⟨hok, hsz, turn⟩ := K.turn i ys H' hJ'
  rcases Nat.lt_or_ge i xs.length with hlt | hge
  · have hx : xs[i]? = some xs[i] := List.getElem?_eq_getElem hlt
    refine wpAny_bind (wpAny_standAt (wpAny_bind (wpAny_mono (P.item H' s' i oi xs[i] S' hI' hoi hobi ((hnx H' i hok).trans (by rw [hx]))) ?_ fun _ _ x => x)))
    rintro rx s₅ ⟨rv, h₅, tk₅, o₅, rfl, rfl, hrv, he₅, hI₅, hob₅⟩
    dsimp only
    refine wpAny_bind (P.own target rv _ (i + 1) _ o₅ _ hI₅ hob₅ ?_)
    have hIb := hnb I hI
    have S₅ : HS C H' { s' with heap := h₅, toks := tk₅ } := S'.hid hoi hI' hIb (P.plain _ _ _ hobi) he₅
    have af₅ : AfterC H s H' { s' with heap := h₅, toks := tk₅ } := af'.hid hI he₅
    have k₅ : TupKeep s'.heap h₅ := tup_ext hoi (P.plain _ _ _ hobi) he₅
    have T₅ : St (C.comp scope cl L) [] H' { s' with heap := h₅, toks := tk₅ } := ⟨⟨S₅.base, S₅.own, S₅.gens⟩, ⟨mr, hn'.extBut he₅ (Ne.symm hIL), fun _ _ e => by simp at e⟩, hL', hnb L hL0, fun e he => F₁.after af₅ e he⟩
    refine wpAny_bind (wpAny_mono (turn xs[i] hx L hL' _ rv T₅ hrv) ?_ fun _ _ x => x)
    rintro _ s₆ ⟨m₆, H₆, T₆, a₆, h₆⟩
    refine wpAny_bind (wpAny_mono (tests_of h₆ T₆) ?_ fun _ _ x => x)
    rintro b s₇ ⟨m₇, H₇, T₇, a₇, h₇⟩
    have aL₇ := a₆.then T₆ a₇
    have af₇ : AfterC H s H₇ s₇ := af₅.thenAt (C := C.comp scope cl L) aL₇ hL0
    have other : ∀ {s₉ : Shared} {H₉ : CH} {m₉ : Loc}, St (C.comp scope cl L) m₉ H₉ s₉ → After (C.comp scope cl L) H' { s' with heap := h₅, toks := tk₅ } H₉ s₉ →
        CompO (fun h => ob (i + 1) h o₅) I D L ys items n o₅ H₉ s₉.heap := fun {s₉ H₉ m₉} T₉ a₉ => by
      obtain ⟨o1, e1, k1⟩ := a₉.stay I o₅ hIL hI' hI₅
      rw [k1.exact (fun es ep => P.nodict _ _ _ es ep hob₅)] at e1
      have hD₅ : h₅.get? D = some (seqObj "list" items n) := he₅ D _ (Ne.symm hID) hDi
      obtain ⟨o2, e2, k2⟩ := a₉.stay D _ hDL hD' hD₅
      rw [k2.exact (by intro es ep q; cases q)] at e2
      obtain ⟨mr9, hn9, _⟩ := T₉.ns
      exact ⟨mr9, a₉.grow I _ hI' hI₅, a₉.grow D _ hD' hD₅, e1, P.kept _ _ _ _ (a₉.tup T₅) (P.kept _ _ _ _ k₅ hob₅), e2, (hys.keep k₅).keep (a₉.tup T₅), hn9⟩
    cases b with
    | false =>
      obtain ⟨mr9, b1, b2, b3, b4, b5, b6, b7⟩ := other T₇ aL₇
      exact wpAny_pure ⟨rfl, xs.length - (i + 1), by (first | lia | omega), i + 1, ys, H₇, mr9, o₅, items, n, hlt, rfl, ⟨T₇.base, T₇.own, T₇.gens⟩, af₇, b1, b2, T₇.loc, b7, b3, b4, b5, b6, h₇.2 rfl⟩
    | true =>
      refine wpAny_bind (wpAny_bind (wpAny_mono (h₇.1 rfl s₇ T₇) ?_ fun _ _ x => x))
      rintro ry s₈ ⟨y, m₈, H₈, hy, T₈, a₈, h₈⟩
      have aL₈ := aL₇.then T₇ a₈
      have af₈ : AfterC H s H₈ s₈ := af₅.thenAt (C := C.comp scope cl L) aL₈ hL0
      obtain ⟨mr9, b1, b2, b3, b4, b5, b6, b7⟩ := other T₈ aL₈
      have hzz : items.size ≤ sizeLine := by have := b6.length; simp at this; (first | lia | omega)
      refine wpAny_bind (call_meets F.slot_list_append ⟨_, b5, rfl⟩ F.entry_list_append (F.args_list_append_2 _ _) (list_append D items n ry hzz) ⟨b5, ?_⟩)
      refine wpAny_pure (wpAny_pure ?_)
      have hu : Heap.SameBut D s₈.heap (s₈.heap.update D (Obj.mapSeq (·.push ry))) := Heap.SameBut.update ..
      have S₈ : HS C H₈ s₈ := ⟨T₈.base, T₈.own, T₈.gens⟩
      have niD : ¬ Imm (seqObj "list" items n) := not_imm_cls (T := "list") rfl (by decide) (by intro _ _ _ e; cases e)
      have k₉ : TupKeep s₈.heap (s₈.heap.update D (Obj.mapSeq (·.push ry))) := tup_ext b5 niD hu.extBut
      refine ⟨rfl, xs.length - (i + 1), by (first | lia | omega), i + 1, ys ++ [y], H₈, mr9, o₅, _, _, hlt, rfl, S₈.hid (tk := s₈.toks) b5 b2 (hnb D hD0) niD hu.extBut, af₈.hid (tk := s₈.toks) hD0 hu.extBut, b1, b2, T₈.loc, b7.sameBut hu (Ne.symm hDL), hu.extBut I _ hID b3, P.kept _ _ _ _ k₉ b4, IsL.update b5 _, ?_, h₈⟩
      rw [Array.toList_push]
      exact (b6.keep k₉).append (.cons (hy.keep k₉) .nil)
  · have hie : i = xs.length := by (first | lia | omega)
    subst hie
    refine wpAny_bind (wpAny_standAt (wpAny_bind (wpAny_mono (P.done H' s' xs.length oi S' hI' hoi hobi ((hnx H' xs.length hok).trans (by rw [List.getElem?_eq_none (Nat.le_refl _)]))) ?_ fun _ _ x => x)))
    rintro rx s₅ ⟨h₅, tk₅, rfl, rfl, he₅⟩
    have k₅ : TupKeep s'.heap h₅ := tup_ext hoi (P.plain _ _ _ hobi) he₅
    exact wpAny_pure (fin _ H' ys mr (S'.hid hoi hI' (hnb I hI) (P.plain _ _ _ hobi) he₅) (af'.hid hI he₅) hD' hL' (hn'.extBut he₅ (Ne.symm hIL)) ⟨items, n, he₅ D _ (Ne.symm hID) hDi, hys.keep k₅⟩ hJ')
theorem comp_core {elt target iter : PySem.Expr} {ifs : List PySem.Expr} {scope : Scope} {cl : List (Str × Addr)} {pos : Pos} {RR : Value → Addr → Result → Shared → Prop} {v : V} {r : Value} {xs : List V} {ok : CH → Prop} {J : Nat → List V → CH → Prop}
    (hcell : ∀ y ∈ scope.names, y.2 ≠ .cell) (hkind : scope.kind = .function) (S₁ : HS C H s) (F₁ : Frs C H s) (hv : VR s.heap v r) (q : SeqOf C A v H xs ok) (K : Comp C A elt target ifs scope cl xs ok J) (hJ : J 0 [] H)
    (fin : ∀ D L s' H' ys mr, HS C H' s' → AfterC H s H' s' → s.heap.get? D = none → s.heap.get? L = none → D ≠ L → H' D = none → H' L = none → C.h₀.get? D = none → C.h₀.get? L = none → s'.heap.Ns L mr → (∃ items n, s'.heap.get? D = some (seqObj "list" items n) ∧ VRs s'.heap ys items.toList) → J xs.length ys H' → RR (.ref D) L (.ok .next) s') :
    wpAny (model C.prog C.w) A (pyIter r) (fun it s₂ => wpAny (model C.prog C.w) A (newList []) (fun acc s₃ => wpAny (model C.prog C.w) A (newFunctionEnv scope C.env.globals cl [] C.env.qual none .none (some C.env)) (fun cenv s₄ =>
      codeAny (model C.prog C.w) A (.compStart (.ListComp elt [⟨target, iter, ifs, 0⟩] scope pos) 0 it acc { cenv with scope := relabel scope C.env }) (RR acc cenv.locals) s₄) NoE s₃) NoE s₂) NoE s := by
  obtain ⟨nx, it, hnx⟩ := q
  refine wpAny_mono (it s r S₁ hv) ?_ fun _ _ x => x
  rintro ri s₂ ⟨I, ob, h₂, tk₂, o0, rfl, rfl, hk₂, hI, hob, hob0, P⟩
  refine wpAny_newObj_type (wpAny_newFunctionEnv hcell (by intro y hy; simp at hy) (fun h₄ hns₄ hsb₄ => ?_) hkind)
  dsimp only at hns₄ hsb₄ ⊢
  generalize hDd : h₂.objs.size = D at *
  generalize hH3 : h₂.push { cls := .type "list", dict := none, data := .seq ([] : List Value).toArray } = H3 at *
  generalize hLd : H3.objs.size = L at *
  have hDL : D ≠ L := by
    have : H3.objs.size = h₂.objs.size + 1 := by rw [← hH3, Heap.size_push]
    show ¬ ((D : Nat) = L)
    (first | lia | omega)
  have keep4 : ∀ b o, h₂.get? b = some o → h₄.get? b = some o := fun b o e => by
    have hb : (b : Nat) < h₂.objs.size := Heap.lt_size e
    have h3 : H3.get? b = some o := by rw [← hH3]; exact Heap.get?_push_of_some _ e
    have h3s : H3.objs.size = h₂.objs.size + 1 := by rw [← hH3, Heap.size_push]
    have hbL : (b : Nat) < L := by rw [← hLd, h3s]; exact Nat.lt_succ_of_lt hb
    exact hsb₄.extBut b o (Nat.ne_of_lt hbL) (Heap.get?_push_of_some _ h3)
  have fresh : ∀ a, (h₂.objs.size : Nat) ≤ a → s.heap.get? a = none := fun a ha => by
    cases e : s.heap.get? a with
    | none => rfl
    | some o' => exact absurd (Heap.lt_size (hk₂ _ _ e)) (Nat.not_lt.mpr ha)
  have hD0 : s.heap.get? D = none := fresh D (by show (h₂.objs.size : Nat) ≤ D; (first | lia | omega))
  have hL0 : s.heap.get? L = none := fresh L (by
    have : H3.objs.size = h₂.objs.size + 1 := by rw [← hH3, Heap.size_push]
    show (h₂.objs.size : Nat) ≤ L; (first | lia | omega))
  have hnb : ∀ a, s.heap.get? a = none → C.h₀.get? a = none := fun a ha => by
    cases e : C.h₀.get? a with
    | none => rfl
    | some o => rw [S₁.base a o e] at ha; cases ha
  have hnH : ∀ a, s.heap.get? a = none → H a = none := fun a ha => by
    cases e : H a with
    | none => rfl
    | some c => obtain ⟨_, o, ho, _⟩ := S₁.own a c e; rw [ha] at ho; cases ho
  have hDobj : h₄.get? D = some (seqObj "list" #[] 0) := by
    have h3 : H3.get? D = some (seqObj "list" #[] 0) := by rw [← hH3, ← hDd]; exact Heap.get?_push_size _ rfl
    exact hsb₄.extBut D _ hDL (Heap.get?_push_of_some _ h3)
  have hIobj : h₄.get? I = some o0 := keep4 I o0 hob
  have hID : I ≠ D := fun e => by
    have := Heap.lt_size hob
    exact absurd (show (D : Nat) < h₂.objs.size from e ▸ this) (by (first | lia | omega))
  have hIL : I ≠ L := fun e => by
    have := Heap.lt_size hob
    have h3 : H3.objs.size = h₂.objs.size + 1 := by rw [← hH3, Heap.size_push]
    exact absurd (show (L : Nat) < h₂.objs.size from e ▸ this) (by (first | lia | omega))
  have af4 : AfterC H s H { s with heap := h₄, toks := tk₂ } := .more fun b o e => keep4 b o (hk₂ b o e)
  have S4 : HS C H { s with heap := h₄, toks := tk₂ } := S₁.more fun b o e => keep4 b o (hk₂ b o e)
  have loop := comp_loop (elt := elt) (target := target) (iter := iter) (ifs := ifs) (pos := pos) (RRl := RR (.ref D) L) F₁ P hnx K hI hD0 hL0 hDL hID hIL hnb (fun s' H' ys mr a b c d e f g => fin D L s' H' ys mr a b hD0 hL0 hDL c d (hnb D hD0) (hnb L hL0) e f g) (k := xs.length) (s₄ := { s with heap := h₄, toks := tk₂ })
    ⟨0, [], H, _, o0, #[], 0, Nat.zero_le _, rfl, S4, af4, hnH I hI, hnH D hD0, hnH L hL0, hns₄, hIobj, P.kept _ _ _ _ (.of_keep keep4) hob0, hDobj, .nil, hJ⟩
  exact codeAny_compStart_list loop (P.self _ 0 h₂ o0 _ _ hIobj hob0 loop)
noncomputable def scopeOk (scope : Scope) : Bool := scope.kind == .function && scope.names.all (fun y => y.2 != .cell) && scope.names.all (fun y => y.2 != .local || scope.names.lookup y.1 == some .local)
theorem scopeOk.get {scope : Scope} (h : scopeOk scope = true) : scope.kind = .function ∧ (∀ y ∈ scope.names, y.2 ≠ .cell) ∧ ∀ y ∈ scope.names, y.2 = .local → scope.names.lookup y.1 = some .local := by
  unfold scopeOk at h
  simp only [Bool.and_eq_true, List.all_eq_true, beq_iff_eq, bne_iff_ne, Bool.or_eq_true] at h
  refine ⟨h.1.1, h.1.2, fun y hy hl => ?_⟩
  rcases h.2 y hy with q | q
  · exact absurd hl q
  · exact q
noncomputable def LC (C : Cx) (A : Around) (elt target : PySem.Expr) (ifs : List PySem.Expr) (scope : Scope) (cl : List (Str × Addr)) (v : V) (H : CH) (Q : V → CH → Prop) : Prop :=
  ∃ (xs : List V) (ok : CH → Prop) (J : Nat → List V → CH → Prop), SeqOf C A v H xs ok ∧ Comp C A elt target ifs scope cl xs ok J ∧ J 0 [] H ∧ ∀ ys H' D, J xs.length ys H' → H' D = none → C.h₀.get? D = none → Q (.ref D) (H'.set D (.list ys))
theorem EV_lc {elt target iter : PySem.Expr} {ifs : List PySem.Expr} {scope : Scope} {cl : List (Str × Addr)} {pos : Pos} {Q : V → Loc → CH → Prop}
    (h : EV C A iter m H fun v m₁ H₁ => LC C A elt target ifs scope cl v H₁ fun v H' => Q v m₁ H')
    (hclos : closureFor scope C.env = pure cl := by with_unfolding_all rfl) (hok : scopeOk scope = true := by with_unfolding_all rfl) (hs : ∀ x, foldedSetIterable iter C.env x = pure x := by intro _; with_unfolding_all rfl) :
    EV C A (.ListComp elt [⟨target, iter, ifs, 0⟩] scope pos) m H Q := fun s S => by
  obtain ⟨hkind, hcell, hnames⟩ := scopeOk.get hok
  rw [eval_ListComp]
  refine wpAny_comprehension_free (use := none) rfl hs hclos hkind hnames (wpAny_mono (h s S) ?_ fun _ _ x => x)
  rintro r s₁ ⟨v, m₁, H₁, hv, S₁, af₁, xs, ok, J, q, K, hJ, fin⟩
  refine comp_core (RR := fun acc L => compPost (model C.prog C.w) A NoE none (PV C H s Q) acc L) hcell hkind S₁.toHS S₁.frs hv q K hJ ?_
  intro D L s' H' ys mr S' af' hD hL hDL hD' hL' hDb hLb hn ⟨items, n, hDo, hys⟩ hJ'
  refine ⟨mr, hn, fun h'' hs'' => ?_⟩
  obtain ⟨oL, _, _, hoL, _⟩ := id hn
  have S₂ : HS C H' { s' with heap := h'' } := S'.hid (tk := s'.toks) hoL hL' hLb (ns_not_imm hn hoL) hs''.extBut
  have af₂ : AfterC H₁ s₁ H' { s' with heap := h'' } := af'.hid (tk := s'.toks) hL hs''.extBut
  have hDo' : h''.get? D = some (seqObj "list" items n) := hs''.extBut D _ hDL hDo
  have tk' : TupKeep s'.heap h'' := tup_ext hoL (ns_not_imm hn hoL) hs''.extBut
  have S₃ : HS C (H'.set D (.list ys)) { s' with heap := h'' } := S₂.adopt hDb hDo' ⟨items, n, rfl, hys.keep tk'⟩
  have af₃ : AfterC H₁ s₁ (H'.set D (.list ys)) { s' with heap := h'' } := af₂.adopt hD
  exact ⟨.ref D, m₁, _, .ref, S₁.called S₃ af₃, af₁.then S₁ af₃.after, fin ys H' D hJ' hD' hDb⟩
theorem ES_assign_lc {elt target iter : PySem.Expr} {ifs : List PySem.Expr} {scope : Scope} {cl : List (Str × Addr)} {x : Str} {px pos spos : Pos} {Q : Fl → Loc → CH → Prop}
    (h : EV C A iter m H fun v m₁ H₁ => LC C A elt target ifs scope cl v H₁ fun v H' => Q .next ((x, v) :: m₁) H')
    (hsw : swapsWith (.ListComp elt [⟨target, iter, ifs, 0⟩] scope pos) (some (.Name x px)) spos.line C.env = pure true := by with_unfolding_all rfl)
    (hclos : closureFor scope C.env = pure cl := by with_unfolding_all rfl) (hok : scopeOk scope = true := by with_unfolding_all rfl) (hs : ∀ x, foldedSetIterable iter C.env x = pure x := by intro _; with_unfolding_all rfl)
    (hl : C.env.kindOf x = some .local := by with_unfolding_all rfl) (hp : (C.env.scope.kind == .class || (C.env.scope.kind == .module && C.env.locals != C.env.globals)) = false := by with_unfolding_all rfl) :
    ES C A (.Assign [.Name x px] (.ListComp elt [⟨target, iter, ifs, 0⟩] scope pos) spos) m H Q := fun s S => by
  obtain ⟨hkind, hcell, hnames⟩ := scopeOk.get hok
  rw [exec_Assign_Name_used _ _ _ _ hsw]
  refine wpAny_bind (wpAny_standAt (wpAny_bind ?_))
  show wpAny _ A (do let _ ← comprehension (.ListComp elt [⟨target, iter, ifs, 0⟩] scope pos) scope C.env _ (newList []) false (eval iter C.env) (some (assign (.Name x px) C.env))) _ _ s
  refine wpAny_bind (wpAny_mono (wpAny_comprehension_free (use := some (assign (.Name x px) C.env)) (Q := fun _ s' => PF C H s Q .next s') rfl hs hclos hkind hnames
    (wpAny_mono (h s S) ?_ fun _ _ e => e)) (fun _ s' hq => wpAny_pure (wpAny_pure hq)) fun _ _ e => e)
  rintro r s₁ ⟨v, m₁, H₁, hv, S₁, af₁, xs, ok, J, q, K, hJ, fin⟩
  refine comp_core (RR := fun acc L => compPost (model C.prog C.w) A NoE (some (assign (.Name x px) C.env)) (fun _ s' => PF C H s Q .next s') acc L) hcell hkind S₁.toHS S₁.frs hv q K hJ ?_
  intro D L s' H' ys mr S' af' hD hL hDL hD' hL' hDb hLb hn ⟨items, n, hDo, hys⟩ hJ'
  have S₃ : HS C (H'.set D (.list ys)) s' := S'.adopt hDb hDo ⟨items, n, rfl, hys⟩
  have af₃ : AfterC H₁ s₁ (H'.set D (.list ys)) s' := af'.adopt hD
  have T₃ : St C m₁ (H'.set D (.list ys)) s' := S₁.called S₃ af₃
  have hLl : C.env.locals ≠ L := fun e => by obtain ⟨o, e'⟩ := S₁.at_loc; rw [e, hL] at e'; cases e'
  obtain ⟨mr', hn', hk'⟩ := T₃.ns
  show wpAny _ A (assign (.Name x px) C.env (.ref D)) _ _ _
  refine wpAny_assign_Name (wpAny_storeName_local hl hn' (fun h₂ hn₂ hs₂ => ?_) hp)
  have T₄ : St C ((x, .ref D) :: m₁) (H'.set D (.list ys)) { s' with heap := h₂, toks := s'.toks + 1 } := T₃.store (tk := s'.toks + 1) (v := .ref D) .ref hk' hn₂ hs₂
  have af₄ : After C H₁ s₁ (H'.set D (.list ys)) { s' with heap := h₂, toks := s'.toks + 1 } := (After.then T₃ af₃.after (.store (tk := s'.toks + 1) hn₂ hs₂))
  have hnL : h₂.Ns L mr := hn.sameBut hs₂ (Ne.symm hLl)
  refine ⟨mr, hnL, fun h₃ hs₃ => ?_⟩
  obtain ⟨oL, _, _, hoL, _⟩ := id hnL
  have hLD : (H'.set D (.list ys)) L = none := by rw [CH.set_ne (Ne.symm hDL)]; exact hL'
  have af₅ : After C H₁ s₁ (H'.set D (.list ys)) { s' with heap := h₃, toks := s'.toks + 1 } := af₄.hid (tk := s'.toks + 1) hL hs₃.extBut
  have S₅ : HS C (H'.set D (.list ys)) { s' with heap := h₃, toks := s'.toks + 1 } := T₄.toHS.hid (tk := s'.toks + 1) hoL hLD hLb (ns_not_imm hnL hoL) hs₃.extBut
  have tk₅ : TupKeep h₂ h₃ := tup_ext hoL (ns_not_imm hnL hoL) hs₃.extBut
  have T₅ : St C ((x, .ref D) :: m₁) (H'.set D (.list ys)) { s' with heap := h₃, toks := s'.toks + 1 } := by
    obtain ⟨mr5, hn5, k5⟩ := T₄.ns
    refine ⟨S₅, ⟨mr5, hn5.extBut hs₃.extBut hLl, k5.keep tk₅⟩, T₄.loc, T₄.locb, fun e he => ?_⟩
    obtain ⟨a1, a2, a3, f, o, es, ep, hf, ho, hd, hnf, hb⟩ := T₄.frs e he
    have hfL : f ≠ L := fun q => by
      obtain ⟨_, _, _, f', o', es', ep', hf', ho', _⟩ := S₁.frs e he
      rw [hf] at hf'; cases hf'; rw [q, hL] at ho'; cases ho'
    exact ⟨a1, a2, a3, f, o, es, ep, hf, hs₃.extBut f _ hfL ho, hd, hnf, hb⟩
  exact ⟨.next, _, _, rfl, T₅, af₁.then S₁ af₅, fin ys H' D hJ' hD' hDb⟩
/-- a comprehension that leaves the heap alone -/
theorem LC_pure {elt target : PySem.Expr} {ifs : List PySem.Expr} {scope : Scope} {cl : List (Str × Addr)} {v : V} {Q : V → CH → Prop} {α : Type} (l : List α) (φ : α → V) (p : α → Bool) (f : α → V) {ok : CH → Prop}
    (hs : SeqOf C A v H (l.map φ) ok) (hok : ok H) (hsz : l.length ≤ sizeLine)
    (turn : ∀ a ∈ l, ∀ L, H L = none → ASG (C.comp scope cl L) A target (φ a) [] H fun m₂ H₂ => ETs (C.comp scope cl L) A ifs m₂ H₂ fun b m₃ H₃ => b = p a ∧ H₃ = H ∧ (b = true → EV (C.comp scope cl L) A elt m₃ H₃ fun y m₄ H₄ => y = f a ∧ H₄ = H))
    (fin : ∀ D, H D = none → C.h₀.get? D = none → Q (.ref D) (H.set D (.list ((l.filter p).map f)))) : LC C A elt target ifs scope cl v H Q := by
  refine ⟨l.map φ, ok, fun i ys H' => H' = H ∧ i ≤ l.length ∧ ys = ((l.take i).filter p).map f, hs, ⟨?_⟩, ⟨rfl, Nat.zero_le _, by simp⟩, ?_⟩
  · rintro i ys H' ⟨rfl, hi, rfl⟩
    refine ⟨hok, ?_, ?_⟩
    · rw [List.length_map]
      exact Nat.le_trans (List.length_filter_le ..) (Nat.le_trans (by rw [List.length_take]; (first | lia | omega)) hsz)
    · intro x hx L hL
      rw [List.getElem?_map] at hx
      obtain ⟨a, ha, rfl⟩ := Option.map_eq_some_iff.mp hx
      have hil : i < l.length := (List.getElem?_eq_some_iff.mp ha).1
      have htk : l.take (i + 1) = l.take i ++ [a] := by rw [List.take_add_one, ha]; rfl
      have := turn a (List.mem_of_getElem? ha) L hL
      intro s r S hr
      refine wpAny_mono (this s r S hr) (fun _ s' ⟨m₂, H₂, S₂, af₂, h₂⟩ => ⟨m₂, H₂, S₂, af₂, ?_⟩) fun _ _ x => x
      have mono : ∀ {ifs : List PySem.Expr} {m₂ : Loc} {H₂ : CH} {Q Q' : Bool → Loc → CH → Prop}, (∀ b m H, Q b m H → Q' b m H) → ETs (C.comp scope cl L) A ifs m₂ H₂ Q → ETs (C.comp scope cl L) A ifs m₂ H₂ Q' := by
        intro ifs
        induction ifs with
        | nil => intro m₂ H₂ Q Q' q h; exact q _ _ _ h
        | cons c cs ih => intro m₂ H₂ Q Q' q h; exact EB.mono h fun b m H hb => ⟨fun e => ih q (hb.1 e), fun e => q _ _ _ (hb.2 e)⟩
      refine mono ?_ h₂
      rintro b m₃ H₃ ⟨rfl, rfl, hel⟩
      refine ⟨fun hb => (hel hb).mono ?_, fun hb => ⟨rfl, hil, ?_⟩⟩
      · rintro y m₄ H₄ ⟨rfl, rfl⟩
        exact ⟨rfl, hil, by rw [htk, List.filter_append, List.map_append, List.filter_cons, hb]; rfl⟩
      · rw [htk, List.filter_append, List.map_append, List.filter_cons, hb]; simp
  · rintro ys H' D ⟨rfl, _, rfl⟩ hD hDb
    rw [List.length_map, List.take_length]
    exact fin D hD hDb
end
end
end Mine
end
section
open PySem PySem.Calls PySem.W PyProof.Rows
set_option maxRecDepth 100000
namespace Mine
noncomputable section
section
variable {C : Cx} {A : Around} {m : Loc} {H : CH} {s : Shared} {K : Frag} {mg mb : Str → Option Value}
theorem HS.updExt (S : HS C H s) {a : Addr} {c c' : CObj} (hc : H a = some c) {h' : Heap} {o' : Obj} {tk : Nat} (hs : Heap.ExtBut a s.heap h') (ho : h'.get? a = some o') (r : ORep C h' c' o') :
    HS C (H.set a c') { s with heap := h', toks := tk } ∧ TupKeep s.heap h' := by
  obtain ⟨ha0, oa, hoa, ra⟩ := S.own a c hc
  have tk' : TupKeep s.heap h' := fun b o i e => hs b _ (fun q => by subst q; rw [hoa] at e; cases e; exact ra.not_imm i) e
  refine ⟨⟨fun b o e => hs b _ (fun q => by subst q; rw [ha0] at e; cases e) (S.base b o e), fun b d e => ?_, S.gens⟩, tk'⟩
  by_cases h : b = a
  · subst h; rw [CH.set_same] at e; cases e; exact ⟨ha0, o', ho, r⟩
  · rw [CH.set_ne h] at e
    obtain ⟨x, o, hob, rb⟩ := S.own b d e
    exact ⟨x, o, hs b o h hob, rb.keep tk'⟩
theorem AfterC.updExt {a : Addr} {c c' : CObj} (hc : H a = some c) {h' : Heap} {tk : Nat} (hs : Heap.ExtBut a s.heap h') {o' : Obj} (ho : h'.get? a = some o') : AfterC H s (H.set a c') { s with heap := h', toks := tk } where
  stay := fun b o hn e => ⟨o, hs b o (fun q => by subst q; rw [hn] at hc; cases hc) e, .refl o⟩
  grow := fun b o hn _ => by rw [CH.set_ne (fun q => by subst q; rw [hn] at hc; cases hc)]; exact hn
  there := fun b o e => by
    by_cases q : b = a
    · subst q; exact ⟨o', ho⟩
    · exact ⟨o, hs b o q e⟩
  drawn := rfl
  os := rfl
theorem codeAmong_app {pos : Pos} {c : Value} {a b : Nat} (l : List Value) (h : TriplesOk l) : ∀ cv, codeAmong pos (l ++ [rawInt a, rawInt b, c]) = some cv → codeAmong pos l = some cv ∨ (a = pos.line ∧ b = pos.col ∧ cv = c) := by
  fun_induction TriplesOk l with
  | case1 =>
    intro cv e
    simp only [List.nil_append, codeAmong, rawInt] at e
    split at e
    · rename_i hc
      simp only [Bool.and_eq_true, beq_iff_eq, Int.natCast_inj] at hc
      exact .inr ⟨hc.1, hc.2, (Option.some.inj e).symm⟩
    · cases e
  | case2 x t y u z rest ih =>
    intro cv e
    simp only [List.cons_append, codeAmong] at e ⊢
    split at e
    · rename_i hc; rw [if_pos hc]; exact .inl e
    · rename_i hc; rw [if_neg hc]; exact ih h cv e
  | case3 => exact h.elim
theorem triples_app {c : Value} {a b : Nat} (l : List Value) (h : TriplesOk l) : TriplesOk (l ++ [rawInt a, rawInt b, c]) := by
  fun_induction TriplesOk l with
  | case1 => simp [rawInt, TriplesOk]
  | case2 x t y u z rest ih => simp only [List.cons_append, TriplesOk]; exact ih h
  | case3 => exact h.elim
theorem EV_lambda {params : Arguments} {body : PySem.Expr} {scope : Scope} {pos : Pos} {cl : List (Str × Addr)} {c P : Addr} {qs : List ((Nat × Nat) × Str)} {Q : V → Loc → CH → Prop} (B : Bs C.h₀ K mg mb) (hP : H P = some (.tab qs)) (hC : CodeHd C.h₀ c P)
    (h : Q (.fn "<lambda>" (C.env.qual ++ "<lambda>") params body scope cl) m H) (hc : C.env.code = .ref c := by with_unfolding_all rfl) (hge0 : C.env.globals = mainGlobals := by with_unfolding_all rfl) (hq : qs.lookup (pos.line, pos.col) = some (C.env.qual ++ "<lambda>") := by with_unfolding_all rfl)
    (hdef : defaultsOf params C.env = ([], []) := by with_unfolding_all rfl) (hclos : closureFor scope C.env = pure cl := by with_unfolding_all rfl) : EV C A (.Lambda params body scope pos) m H Q := fun s S => by
  refine kla_eval hdef ?_
  obtain ⟨hPb, o, ho, ps, rfl, ht, hqs⟩ := S.own P _ hP
  have hgs := B.g.keeps S.base
  obtain ⟨bm, ob, b1, b2, b3, b4, b5, b6⟩ := B.bm
  have hgP : mainGlobals ≠ P := fun q => by
    obtain ⟨o, es, ep, e, hd, _⟩ := hgs
    rw [q, ho] at e; cases e; cases hd
  have hbP : bm ≠ P := fun q => by
    rw [q, hPb] at b3; cases b3
  have hbG : bm ≠ mainGlobals := fun q => by
    obtain ⟨o, es, ep, e, hd, _⟩ := B.g
    rw [q, e] at b3; cases b3; rw [hd] at b6; cases b6
  cases hca : codeAmong pos ps.toList with
  | some cv =>
    have hr := hqs pos cv hca _ hq
    obtain ⟨c', oc, vs, t, e2, hoc, hd, hv⟩ := id hr
    subst e2
    refine kla_makeFunctionHit (mg := mg) hclos hge0 hgs hc (hC.keeps S.base) ho ht hca ⟨bm, ob, b1, b2, hbG, hbP, S.base _ _ b3, b4, b5, b6⟩ fun ctv h' tk hk hsz => ?_
    have k : ∀ b o, s.heap.get? b = some o → (h'.push (kla_obj "<lambda>" (C.env.qual ++ "<lambda>") params body scope cl ((mg "__name__").getD .none) c' ctv)).get? b = some o := fun b o e => Heap.get?_push_of_some _ (hk b o e)
    exact ⟨_, m, H, .fn (Heap.get?_push_size _ rfl) (hr.keeps k), S.more k, .more k, h⟩
  | none =>
    refine kla_makeFunction (mg := mg) hclos hge0 hgs hc (hC.keeps S.base) ho ht hca hgP ⟨bm, ob, b1, b2, hbG, hbP, S.base _ _ b3, b4, b5, b6⟩ fun c' ctv h' tk hx hge hlt hrec htb => ?_
    have hset : H.set P (.tab qs) = H := by
      funext b; unfold CH.set; split
      · subst b; exact hP.symm
      · rfl
    have tk' : TupKeep s.heap h' := fun b o i e => hx b _ (fun q => by subst q; rw [ho] at e; cases e; exact (show ORep C s.heap (.tab qs) _ from ⟨ps, rfl, ht, hqs⟩).not_imm i) e
    have hrep : ORep C h' (.tab qs) (tabObj (ps ++ #[rawInt pos.line, rawInt pos.col, .ref c'])) := by
      refine ⟨_, rfl, ?_, ?_⟩
      · rw [Array.toList_append]; exact triples_app _ ht
      · intro pos' cv hcv q hq'
        rw [Array.toList_append] at hcv
        rcases codeAmong_app _ ht cv hcv with h1 | ⟨h1, h2, rfl⟩
        · exact tk'.rec (hqs pos' cv h1 q hq')
        · rw [← h1, ← h2, hq] at hq'; cases hq'; exact hrec
    obtain ⟨S1, _⟩ := S.toHS.updExt (tk := tk) hP hx htb hrep
    have a1 : AfterC H s (H.set P (.tab qs)) { s with heap := h', toks := tk } := .updExt hP hx htb
    rw [hset] at S1 a1
    have T1 : St C m H { s with heap := h', toks := tk } := by
      obtain ⟨mr, hn, kn⟩ := S.ns
      have hl : C.env.locals ≠ P := fun q => by have := S.loc; rw [q, hP] at this; cases this
      exact ⟨S1, ⟨mr, hn.extBut hx hl, kn.keep tk'⟩, S.loc, S.locb, S.frs.after a1⟩
    exact ⟨_, m, H, .fn (Heap.get?_push_size _ rfl) (hrec.push _), T1.more (tk := tk) (keep_push _ _), a1.after.then T1 (.more (tk := tk) (keep_push _ _)), h⟩
/-- a lambda called -/
noncomputable abbrev fnData (name qual : Str) (params : Arguments) (body : PySem.Expr) (scope : Scope) (cl : List (Str × Addr)) (pm ctv : Value) (c : Addr) : FuncData := kla_fn name qual params body scope cl pm (.ref c) ctv
theorem CALL_fn {name qual : Str} {params : Arguments} {body : PySem.Expr} {scope : Scope} {cl : List (Str × Addr)} {vs : List V} {kws binds : List (Str × V)} {m' : Loc} {Q : V → CH → Prop}
    (hlim : C.h₀.NoLimit) {n : Nat} (hA : AOK C A (n + 1)) (hb : ∀ pm c ctv, Binds C H (fnData name qual params body scope cl pm ctv c) vs kws binds)
    (hok : (scope.names.all (fun x => x.2 != .cell) && binds.all (fun x => scope.names.lookup x.1 == some .local) && !scope.isCoroutine && !scope.isGenerator && scope.kind == .function) = true) (hm : m' = binds.reverse)
    (h : ∀ L a c, H L = none → C.h₀.get? L = none → AOK (C.at (envX qual scope L a (.ref c) cl)) (A.deeper (envX qual scope L a (.ref c) cl)) n → EV (C.at (envX qual scope L a (.ref c) cl)) (A.deeper (envX qual scope L a (.ref c) cl)) body m' H fun v _ H' => Q v H') :
    CALL C A (.fn name qual params body scope cl) vs kws H Q := fun s rf rs rkw S F hf hv hkw => by
  simp only [Bool.and_eq_true, List.all_eq_true, Bool.not_eq_true', beq_iff_eq, bne_iff_ne] at hok
  obtain ⟨⟨⟨⟨hcell, hloc⟩, hco⟩, hgen⟩, hk⟩ := hok
  obtain ⟨a, pm, c, ctv, rfl, ho, hcd⟩ := hf.fn_inv
  obtain ⟨rb, hB, hrb⟩ := hb pm c ctv s rs rkw S hv hkw
  have hloc' : ∀ x ∈ rb, scope.names.lookup x.1 = some .local := fun x hx => by
    have : x.1 ∈ binds.map (·.1) := hrb.1 ▸ List.mem_map_of_mem hx
    obtain ⟨y, hy, e⟩ := List.mem_map.mp this
    rw [← e]; exact hloc y hy
  refine kla_callFunE hA.room ho rfl hco hgen rfl hcd ?_
  refine hB _ _ _ _ (wpAny_newFunctionEnv hcell hloc' (fun h₁ hns hsb => ⟨(hlim.keeps S.base).fresh _ hsb, ?_⟩) hk)
  show codeAny _ _ (.expr body (envX qual scope s.heap.objs.size a (.ref c) cl)) _ _
  have hk₁ : ∀ b o, s.heap.get? b = some o → h₁.get? b = some o := fun b o e => hsb.extBut b o (Nat.ne_of_lt (Heap.lt_size e)) (Heap.get?_push_of_some _ e)
  have S₁ : St (C.at (envX qual scope s.heap.objs.size a (.ref c) cl)) m' H { s with heap := h₁, toks := s.toks + rb.length } := by
    refine ⟨(S.more hk₁).at, ⟨_, hns, fun x v e => ?_⟩, S.fresh, S.freshb, fun e he => ?_⟩
    · subst hm
      exact lookup_kws (hrb.rev.keep (.of_keep hk₁)) e
    · rcases List.mem_cons.mp he with rfl | he
      · obtain ⟨o', es, ep, ho', hd', _⟩ := hns
        exact ⟨hk, hgen, hco, _, o', es, ep, rfl, ho', hd', S.fresh, S.freshb⟩
      · exact F.keep (s' := { s with heap := h₁ }) (fun b o _ _ _ hn e _ => ⟨hn, o, hk₁ b o e, rfl⟩) e he
  refine kla_codeExpr (wpAny_noRaise (wpAny_mono (h _ a c S.fresh S.freshb hA.at _ S₁) ?_ fun _ _ x => x))
  rintro rv s' ⟨v, m₂, H₂, hv, S₂, af, q⟩
  exact ⟨v, H₂, hv, S₂.toHS.back, ⟨fun b o hn e => af.stay b o (Nat.ne_of_lt (Heap.lt_size e)) hn (hk₁ b o e), fun b o hn e => af.grow b o hn (hk₁ b o e), fun b o e => af.there b o (hk₁ b o e), af.drawn, af.os⟩, q⟩
theorem KP_lam {name qual : Str} {params : Arguments} {body : PySem.Expr} {scope : Scope} {cl : List (Str × Addr)} : KP C (.fn name qual params body scope cl) H := fun s rf S hf => by
  obtain ⟨a, pm, c, ctv, rfl, ho, hcd⟩ := hf.fn_inv
  exact ⟨.frame, looks_keeper_fn ho rfl⟩
end
end
end Mine
end
section
open PySem PySem.Calls PySem.W PyProof.Rows
set_option maxRecDepth 100000
namespace Mine
noncomputable section
noncomputable def setCells : List (Str × Addr) → (Str → Option V) → CH → CH
  | [], _, H => H
  | (n, c) :: r, f, H => (setCells r f H).set c (.cell (f n))
theorem setCells_low {L : Addr} : ∀ {cs : List (Str × Addr)} {f : Str → Option V} {H : CH}, (∀ q ∈ cs, L < q.2) → ∀ b, b ≤ L → setCells cs f H b = H b
  | [], _, _, _, _, _ => rfl
  | (n, c) :: r, f, H, h, b, hb => by
    unfold setCells
    have : b ≠ c := fun e => by have := h (n, c) List.mem_cons_self; subst e; exact absurd this (Nat.not_lt.mpr hb)
    rw [CH.set_ne this]
    exact setCells_low (fun q hq => h q (List.mem_cons_of_mem _ hq)) b hb
theorem look_one {x n : Str} {v : Value} : List.lookup x [(n, v)] = if x = n then some v else none := by
  rw [List.lookup_cons]
  by_cases hx : x = n
  · subst hx; simp
  · rw [beq_eq_false_iff_ne.mpr hx, if_neg hx]; rfl
theorem bindL_look {k : Str → Option NameKind} {x : Str} : ∀ (rb : List (Str × Value)) (m : Str → Option Value), bindL k rb m x = (((rb.filter fun p => k p.1 == some .local).reverse.lookup x).or (m x))
  | [], m => by simp [bindL]
  | (n, v) :: r, m => by
    unfold bindL
    rw [bindL_look r]
    by_cases h : k n = some .local
    · rw [if_pos h, List.filter_cons, if_pos (show (k n == some NameKind.local) = true from beq_iff_eq.mpr h), List.reverse_cons, List.lookup_append, look_one]
      by_cases hx : x = n
      · rw [if_pos hx, if_pos hx, Option.or_assoc]; rfl
      · rw [if_neg hx, if_neg hx, Option.or_none]
    · rw [if_neg h, List.filter_cons, if_neg (show ¬ (k n == some NameKind.local) = true from fun q => h (beq_iff_eq.mp q))]
theorem bindC_look {k : Str → Option NameKind} {x : Str} (hx : k x ≠ some .local) : ∀ (rb : List (Str × Value)) (m : Str → Option Value), bindC k rb m x = ((rb.reverse.lookup x).or (m x))
  | [], m => by simp [bindC]
  | (n, v) :: r, m => by
    unfold bindC
    rw [bindC_look hx r, List.reverse_cons, List.lookup_append, look_one]
    by_cases h : k n = some .local
    · have hn : x ≠ n := fun e => hx (e ▸ h)
      rw [if_pos h, if_neg hn, Option.or_none]
    · rw [if_neg h]
      by_cases hx' : x = n
      · rw [if_pos hx', if_pos hx', Option.or_assoc]; rfl
      · rw [if_neg hx', if_neg hx', Option.or_none]
section
variable {C : Cx} {A : Around} {m : Loc} {H : CH} {s : Shared} {K : Frag} {mg mb : Str → Option Value}
theorem lookup_pairs {h : Heap} {names : List Str} {vs : List V} {rs : List Value} (hv : VRs h vs rs) : KWs h (names.zip vs) (names.zip rs) := by
  induction names generalizing vs rs with
  | nil => exact ⟨rfl, .nil⟩
  | cons n names ih =>
    cases vs with
    | nil => have := hv.nil_inv; subst this; exact ⟨rfl, .nil⟩
    | cons v vs =>
      obtain ⟨r, rs, rfl, a, b⟩ := hv.cons_inv
      obtain ⟨h1, h2⟩ := ih b
      exact ⟨by simp only [List.zip_cons_cons, List.map_cons, h1], by simp only [List.zip_cons_cons, List.map_cons]; exact .cons a h2⟩
theorem KWs.filter {h : Heap} {p : Str → Bool} : ∀ {a : List (Str × V)} {b : List (Str × Value)}, KWs h a b → KWs h (a.filter fun q => p q.1) (b.filter fun q => p q.1)
  | [], b, k => by have := k.nil_inv; subst this; exact .nil
  | (x, v) :: a, b, k => by
    obtain ⟨k1, k2⟩ := k
    cases b with
    | nil => simp at k1
    | cons q b =>
      obtain ⟨y, r⟩ := q
      simp only [List.map_cons, List.cons.injEq] at k1 k2
      obtain ⟨rfl, k1⟩ := k1
      have ih := KWs.filter (p := p) ⟨k1, k2.tail⟩
      rw [List.filter_cons, List.filter_cons]
      by_cases hp : p y = true
      · rw [if_pos hp, if_pos hp]
        exact ⟨by simp only [List.map_cons, ih.1], by simp only [List.map_cons]; exact .cons k2.head ih.2⟩
      · rw [if_neg hp, if_neg hp]; exact ih
theorem opt_kws {h : Heap} {a : List (Str × V)} {b : List (Str × Value)} (k : KWs h a b) {x : Str} : OptR h (a.lookup x) (b.lookup x) := by
  cases e : a.lookup x with
  | some v => obtain ⟨r, hr, hv⟩ := lookup_kws k e; rw [hr]; exact hv
  | none =>
    have : b.lookup x = none := by
      obtain ⟨k1, k2⟩ := k
      rw [List.lookup_eq_none_iff] at e ⊢
      intro p hp
      have : p.1 ∈ b.map (·.1) := List.mem_map_of_mem hp
      rw [k1] at this
      obtain ⟨q, hq, e'⟩ := List.mem_map.mp this
      rw [← e']; exact e q hq
    rw [this]; trivial
theorem HS.cells {f : Str → Option V} (S : HS C H s) : ∀ {cs : List (Str × Addr)}, (∀ q ∈ cs, C.h₀.get? q.2 = none ∧ ∃ r, s.heap.IsCell q.2 r ∧ OptR s.heap (f q.1) r) → HS C (setCells cs f H) s
  | [], _ => S
  | (n, c) :: r, h => by
    unfold setCells
    obtain ⟨hb, rv, ⟨o, ho, hd⟩, hr⟩ := h (n, c) List.mem_cons_self
    exact (HS.cells S fun q hq => h q (List.mem_cons_of_mem _ hq)).adopt hb ho ⟨rv, hd, hr⟩
theorem CALL_cells {f : Addr} {name qual : Str} {params : Arguments} {body : List Stmt} {scope : Scope} {dV kV doc pm cdv ct oc : Value} {an od : Option Addr} {osl : Array (Option Value)} {vs : List V} {names : List Str} {m' : Loc} {Q : V → CH → Prop}
    (B : Bs C.h₀ K mg mb) (ho : K.lookup f = some ⟨oc, od, .func (fnX name qual params body scope [] dV kV doc pm an cdv ct), osl⟩) (hcd : codeIn K cdv qual = true) {n : Nat} (hA : AOK C A (n + 1))
    (hlen : vs.length = names.length) (hb : ∀ rs : List Value, rs.length = names.length → bindArgs (fnX name qual params body scope [] dV kV doc pm an cdv ct) ⟨rs, []⟩ = pure (names.zip rs))
    (hok : ∀ L, (names.all (fun x => scope.names.lookup x == some .local || (scope.names.lookup x == some .cell && ((cellsFrom (L + 1) scope.names []).lookup x).isSome)) && (cellsFrom (L + 1) scope.names []).all (fun q => scope.names.lookup q.1 == some .cell && (cellsFrom (L + 1) scope.names []).lookup q.1 == some q.2) && !scope.isCoroutine && !scope.isGenerator && scope.kind == .function) = true)
    (hm : m' = ((names.zip vs).filter fun p => scope.names.lookup p.1 == some .local).reverse)
    (h : ∀ L, (∀ b, L ≤ b → H b = none ∧ C.h₀.get? b = none) → AOK (C.at (callEnvC (fnX name qual params body scope [] dV kV doc pm an cdv ct) L f)) (A.deeper (callEnvC (fnX name qual params body scope [] dV kV doc pm an cdv ct) L f)) n →
      EX (C.at (callEnvC (fnX name qual params body scope [] dV kV doc pm an cdv ct) L f)) (A.deeper (callEnvC (fnX name qual params body scope [] dV kV doc pm an cdv ct) L f)) body m'
        (setCells (cellsFrom (L + 1) scope.names []) (fun x => (names.zip vs).reverse.lookup x) H) fun fl _ H' => Q (retOf fl) H') :
    CALL C A (.con (.ref f)) vs [] H Q := fun s rf rs rkw S F hf hv hkw => by
  have := hkw.nil_inv; subst this
  rw [hf.con_inv]
  have hok' := hok s.heap.objs.size
  simp only [Bool.and_eq_true, List.all_eq_true, Bool.not_eq_true', beq_iff_eq, Bool.or_eq_true] at hok'
  obtain ⟨⟨⟨⟨h1, h2⟩, h3⟩, h4⟩, h5⟩ := hok'
  have hpk := lookup_pairs (names := names) hv
  refine codeAny_call_cells hA.room (S.base _ _ (B.X _ _ ho)) rfl (B.lim.keeps S.base) ((codeRec_of B.X hcd).keeps S.base) rfl (hb rs (by rw [← hv.length, hlen])) rfl (fun x hx => ?_) (fun s₁ x => ?_) h3 h4 h5
  · have hx' : x.1 ∈ names := by
      have := List.mem_map_of_mem (f := (·.1)) hx
      rw [List.map_fst_zip] at this
      · exact this
      · rw [← hlen, hv.length]; exact Nat.le_refl _
    exact h1 x.1 hx'
  · generalize hL : s.heap.objs.size = L at *
    have hfr : ∀ b, L ≤ b → H b = none ∧ C.h₀.get? b = none := fun b hb => by
      have hs0 : s.heap.get? b = none := by
        cases e : s.heap.get? b with
        | none => rfl
        | some o => have := Heap.lt_size e; rw [hL] at this; exact absurd this (Nat.not_lt.mpr hb)
      refine ⟨?_, ?_⟩
      · cases e : H b with
        | none => rfl
        | some c => obtain ⟨_, o, ho', _⟩ := S.own b c e; rw [hs0] at ho'; cases ho'
      · cases e : C.h₀.get? b with
        | none => rfl
        | some o => rw [S.base b o e] at hs0; cases hs0
    have hkeep := x.toInCall.keep
    have tk' : TupKeep s.heap s₁.heap := .of_keep hkeep
    obtain ⟨h₁, tk₁, rfl⟩ := x.toInCall.same
    have S₁ : HS C H { s with heap := h₁, toks := tk₁ } := S.more hkeep
    have hcs : (callEnvC (fnX name qual params body scope [] dV kV doc pm an cdv ct) L f).cells = cellsFrom (L + 1) scope.names [] := rfl
    have hab : ∀ q ∈ cellsFrom (L + 1) scope.names [], L < q.2 := fun q hq => x.above q.1 q.2 hq
    have hrep : HS C (setCells (cellsFrom (L + 1) scope.names []) (fun x => (names.zip vs).reverse.lookup x) H) { s with heap := h₁, toks := tk₁ } := by
      refine S₁.cells fun q hq => ⟨(hfr q.2 (Nat.le_of_lt (hab q hq))).2, _, x.cell q.1 q.2 (h2 q hq).2, ?_⟩
      rw [bindC_look (by show scope.names.lookup q.1 ≠ some .local; rw [(h2 q hq).1]; decide), Option.or_none]
      exact opt_kws (hpk.keep tk').rev
    have low := fun b (hb : b ≤ L) => setCells_low (f := fun x => (names.zip vs).reverse.lookup x) (H := H) hab b hb
    have hlt : ∀ {b o}, s.heap.get? b = some o → b ≤ L := fun {b o} e => by rw [← hL]; exact Nat.le_of_lt (Heap.lt_size e)
    have a₁ : AfterC H s (setCells (cellsFrom (L + 1) scope.names []) (fun x => (names.zip vs).reverse.lookup x) H) { s with heap := h₁, toks := tk₁ } :=
      ⟨fun b o hn e => ⟨o, hkeep b o e, .refl o⟩, fun b o hn e => by rw [low b (hlt e)]; exact hn, fun b o e => ⟨o, hkeep b o e⟩, rfl, rfl⟩
    have T₁ : St (C.at (callEnvC (fnX name qual params body scope [] dV kV doc pm an cdv ct) L f)) m' (setCells (cellsFrom (L + 1) scope.names []) (fun x => (names.zip vs).reverse.lookup x) H) { s with heap := h₁, toks := tk₁ } := by
      refine ⟨⟨hrep.base, hrep.own, hrep.gens⟩, ⟨_, x.toInCall.ns, fun y v e => ?_⟩, ?_, (hfr L (Nat.le_refl _)).2, fun e he => ?_⟩
      · subst hm
        rw [bindL_look, Option.or_none]
        exact lookup_kws ((hpk.filter (p := fun y => scope.names.lookup y == some .local)).rev.keep tk') e
      · show setCells _ _ H L = none
        rw [low L (Nat.le_refl _)]; exact (hfr L (Nat.le_refl _)).1
      · rcases List.mem_cons.mp he with rfl | he
        · obtain ⟨o', es, ep, ho', hd', _⟩ := x.toInCall.ns
          refine ⟨h5, h4, h3, L, o', es, ep, rfl, ho', hd', ?_, (hfr L (Nat.le_refl _)).2⟩
          rw [low L (Nat.le_refl _)]; exact (hfr L (Nat.le_refl _)).1
        · exact F.after a₁ e he
    refine wpAny_noRaise (wpAny_mono (h L hfr hA.at _ T₁) ?_ fun _ _ x => x)
    rintro fl s' ⟨f', m₂, H₂, hfl, S₂, af, q⟩
    have a : AfterC H s H₂ s' := by
      have hl0 : s.heap.get? L = none := by
        cases e : s.heap.get? L with
        | none => rfl
        | some o => have := Heap.lt_size e; rw [hL] at this; exact absurd this (Nat.lt_irrefl _)
      exact a₁.thenAt (C := C.at (callEnvC (fnX name qual params body scope [] dV kV doc pm an cdv ct) L f)) af hl0
    cases f' with
    | ret v => obtain ⟨r, rfl, hr⟩ := hfl; exact ⟨v, H₂, hr, S₂.toHS.back, a, q⟩
    | next => cases hfl; exact ⟨V.none, H₂, .con, S₂.toHS.back, a, q⟩
    | brk => cases hfl; exact ⟨V.none, H₂, .con, S₂.toHS.back, a, q⟩
    | cont => cases hfl; exact ⟨V.none, H₂, .con, S₂.toHS.back, a, q⟩
theorem bz1 {fd : FuncData} {x : Str} (h : ∀ a, bindArgs fd ⟨[a], []⟩ = pure [(x, a)] := by intro _; with_unfolding_all rfl) : ∀ rs : List Value, rs.length = [x].length → bindArgs fd ⟨rs, []⟩ = pure ([x].zip rs)
  | [a], _ => h a
end
end
end Mine
end
section
open PySem PySem.Calls PySem.W PyProof.Rows
set_option maxRecDepth 100000
namespace Mine
noncomputable section
noncomputable def getI (kvs : List (Int × V)) (k : Int) : Option V := kvs.lookup k
noncomputable def putI (kvs : List (Int × V)) (k : Int) (v : V) : List (Int × V) :=
  if kvs.any (fun kv => kv.1 == k) then kvs.map (fun kv => if kv.1 = k then (kv.1, v) else kv) else kvs ++ [(k, v)]
noncomputable def dropI (kvs : List (Int × V)) (k : Int) : List (Int × V) := kvs.filter fun kv => kv.1 != k
section
variable {C : Cx} {A : Around} {m : Loc} {H : CH} {s : Shared} {K : Frag} {mg mb : Str → Option Value}
/-- the raw pairs -/
noncomputable def rawOf (kvs : List (Int × V)) (rs : List Value) : List (Int × Value) := (kvs.map (·.1)).zip rs
theorem valueAt_lookup {k : Int} : ∀ {l : List (Int × Value)}, valueAt l k = l.lookup k
  | [] => rfl
  | (a, v) :: l => by
    unfold valueAt
    rw [List.find?_cons, List.lookup_cons]
    by_cases h : a = k
    · subst h; simp
    · have h' : k ≠ a := fun e => h e.symm
      simp only [h, decide_false, beq_eq_false_iff_ne.mpr h']
      exact valueAt_lookup
theorem lookup_raw {h : Heap} {k : Int} : ∀ {kvs : List (Int × V)} {rs : List Value}, VRs h (kvs.map (·.2)) rs → OptR h (kvs.lookup k) ((rawOf kvs rs).lookup k)
  | [], rs, r => by have := r.nil_inv; subst this; trivial
  | (a, v) :: kvs, rs, r => by
    obtain ⟨y, ys, rfl, p, q⟩ := r.cons_inv
    show OptR h (List.lookup k ((a, v) :: kvs)) (List.lookup k ((a, y) :: rawOf kvs ys))
    rw [List.lookup_cons, List.lookup_cons]
    by_cases h : k = a
    · subst h; simp only [beq_self_eq_true]; exact p
    · simp only [beq_eq_false_iff_ne.mpr h]; exact lookup_raw q
theorem raw_length {h : Heap} {kvs : List (Int × V)} {rs : List Value} (r : VRs h (kvs.map (·.2)) rs) : (rawOf kvs rs).length = kvs.length := by
  have := r.length; unfold rawOf; simp at this ⊢; (first | lia | omega)
theorem raw_keys {h : Heap} {kvs : List (Int × V)} {rs : List Value} (r : VRs h (kvs.map (·.2)) rs) : (rawOf kvs rs).map (·.1) = kvs.map (·.1) := by
  unfold rawOf; rw [List.map_fst_zip]; have := r.length; simp at this ⊢; (first | lia | omega)
theorem VRs.of_raw {h : Heap} : ∀ {kvs : List (Int × V)} {l : List (Int × Value)}, l.map (·.1) = kvs.map (·.1) → VRs h (kvs.map (·.2)) (l.map (·.2)) → l = rawOf kvs (l.map (·.2))
  | [], l, e, _ => by have := List.map_eq_nil_iff.mp e; subst this; rfl
  | (a, v) :: kvs, l, e, r => by
    cases l with
    | nil => simp at e
    | cons q l =>
      obtain ⟨b, y⟩ := q
      simp only [List.map_cons, List.cons.injEq] at e r
      obtain ⟨rfl, e⟩ := e
      show (b, y) :: l = (b, y) :: rawOf kvs (l.map (·.2))
      rw [← VRs.of_raw e r.tail]
theorem put_raw {h : Heap} {k : Int} {v : V} {r : Value} (hv : VR h v r) {kvs : List (Int × V)} {rs : List Value} (hr : VRs h (kvs.map (·.2)) rs) :
    ∃ rs', stored (rawOf kvs rs) k r = rawOf (putI kvs k v) rs' ∧ VRs h ((putI kvs k v).map (·.2)) rs' := by
  have hany : (rawOf kvs rs).any (fun kv => decide (kv.1 = k)) = kvs.any (fun kv => kv.1 == k) := by
    have h1 : ∀ l : List (Int × Value), l.any (fun kv => decide (kv.1 = k)) = (l.map (·.1)).any (fun a => decide (a = k)) := fun l => by rw [List.any_map]; rfl
    have h2 : kvs.any (fun kv => kv.1 == k) = (kvs.map (·.1)).any (fun a => decide (a = k)) := by
      rw [List.any_map]; congr 1
    rw [h1, h2, raw_keys hr]
  have main : ∀ {kvs : List (Int × V)} {rs : List Value}, VRs h (kvs.map (·.2)) rs → VRs h ((kvs.map fun kv => if kv.1 = k then (kv.1, v) else kv).map (·.2)) (((rawOf kvs rs).map fun kv => if kv.1 = k then (kv.1, r) else kv).map (·.2)) := by
    intro kvs
    induction kvs with
    | nil => intro rs q; have := q.nil_inv; subst this; exact .nil
    | cons p kvs ih =>
      intro rs q
      obtain ⟨a, w⟩ := p
      obtain ⟨y, ys, rfl, p1, p2⟩ := q.cons_inv
      show VRs h (_ :: _) (_ :: _)
      refine .cons ?_ (ih p2)
      by_cases hk : a = k
      · simp only [hk, if_true]; exact hv
      · simp only [hk, if_false]; exact p1
  have keys : ∀ {kvs : List (Int × V)} {rs : List Value}, VRs h (kvs.map (·.2)) rs → (((rawOf kvs rs).map fun kv => if kv.1 = k then (kv.1, r) else kv).map (·.1)) = ((kvs.map fun kv => if kv.1 = k then (kv.1, v) else kv).map (·.1)) := by
    intro kvs rs q
    have e1 : ∀ l : List (Int × Value), ((l.map fun kv => if kv.1 = k then (kv.1, r) else kv).map (·.1)) = l.map (·.1) := fun l => by
      rw [List.map_map]; congr 1; funext kv; simp only [Function.comp]; split <;> rfl
    have e2 : ∀ l : List (Int × V), ((l.map fun kv => if kv.1 = k then (kv.1, v) else kv).map (·.1)) = l.map (·.1) := fun l => by
      rw [List.map_map]; congr 1; funext kv; simp only [Function.comp]; split <;> rfl
    rw [e1, e2, raw_keys q]
  unfold stored putI
  rw [hany]
  by_cases ha : (kvs.any fun kv => kv.1 == k) = true
  · rw [if_pos ha, if_pos ha]
    exact ⟨_, VRs.of_raw (keys hr) (main hr), main hr⟩
  · rw [if_neg ha, if_neg ha]
    refine ⟨rs ++ [r], ?_, ?_⟩
    · unfold rawOf
      rw [List.map_append, List.zip_append (by have := hr.length; simp at this ⊢; (first | lia | omega))]; rfl
    · rw [List.map_append]; exact hr.append (.cons hv .nil)
theorem drop_raw {h : Heap} {k : Int} {kvs : List (Int × V)} {rs : List Value} (hr : VRs h (kvs.map (·.2)) rs) :
    ∃ rs', without (rawOf kvs rs) k = rawOf (dropI kvs k) rs' ∧ VRs h ((dropI kvs k).map (·.2)) rs' := by
  induction kvs generalizing rs with
  | nil => have := hr.nil_inv; subst this; exact ⟨[], rfl, .nil⟩
  | cons p kvs ih =>
    obtain ⟨a, w⟩ := p
    obtain ⟨y, ys, rfl, p1, p2⟩ := hr.cons_inv
    obtain ⟨rs', e, q⟩ := ih p2
    show ∃ rs', without ((a, y) :: rawOf kvs ys) k = rawOf (dropI ((a, w) :: kvs) k) rs' ∧ _
    unfold without dropI at *
    rw [List.filter_cons, List.filter_cons, e]
    by_cases hk : a = k
    · subst hk; simp only [ne_eq, not_true_eq_false, decide_false, bne_self_eq_false, Bool.false_eq_true, if_false]; exact ⟨rs', rfl, q⟩
    · have hb : (a != k) = true := bne_iff_ne.mpr hk
      simp only [ne_eq, hk, not_false_eq_true, decide_true, hb, if_true]
      exact ⟨y :: rs', rfl, .cons p1 q⟩
theorem HS.dict (S : HS C H s) {d : Addr} {kvs : List (Int × V)} {ep : Nat} (hd : H d = some (.dict kvs ep)) : ∃ rs, s.heap.DictAt (intKind C.prog C.w) d (rawOf kvs rs) ep ∧ VRs s.heap (kvs.map (·.2)) rs := by
  obtain ⟨_, o, ho, he, es, rs, hdt, hk, hp, hn, hr⟩ := S.own d _ hd
  exact ⟨rs, ⟨o, es, ho, he, hdt, hk, hp, by rw [show (rawOf kvs rs).map (·.1) = kvs.map (·.1) from raw_keys hr]; exact hn⟩, hr⟩
theorem dict_rep {h : Heap} {d : Addr} {kvs : List (Int × V)} {l : List (Int × Value)} {rs : List Value} {h₁ : Heap} (hm : h.DictOf (intKind C.prog C.w) d l) (e : l = rawOf kvs rs) (hr : VRs h₁ (kvs.map (·.2)) rs) :
    ∃ o ep, h.get? d = some o ∧ ORep C h₁ (.dict kvs ep) o := by
  obtain ⟨o, es, ep, ho, he, hdt, hk, hp, hn⟩ := hm
  subst e
  exact ⟨o, ep, ho, he, es, rs, hdt, hk, hp, by rw [raw_keys hr] at hn; exact hn, hr⟩
theorem Bs.sysm (B : Bs C.h₀ K mg mb) (S : HS C H s) {d : Addr} {c : CObj} (hd : H d = some c) : (d == sysModules) = false := by
  obtain ⟨hb, _⟩ := S.own d c hd
  obtain ⟨o, ho⟩ := B.sys
  refine beq_eq_false_iff_ne.mpr fun e => ?_
  rw [e, ho] at hb; cases hb
theorem map_of {d : Addr} {kvs : List (Int × V)} {rs : List Value} {ep : Nat} (x : s.heap.DictAt (intKind C.prog C.w) d (rawOf kvs rs) ep) : s.heap.MapOf (intKind C.prog C.w) d (fun k => (rawOf kvs rs).lookup k) := by
  have := x.dictOf.mapOf
  rwa [show valueAt (rawOf kvs rs) = fun k => (rawOf kvs rs).lookup k from funext fun k => valueAt_lookup] at this
variable {d : Addr} {kvs : List (Int × V)} {ep : Nat} {k : Int} {Q : V → Loc → CH → Prop}
theorem EV_dict {p : Pos} (h : ∀ a, H a = none → C.h₀.get? a = none → Q (.ref a) m (H.set a (.dict [] 0))) : EV C A (.Dict [] [] p) m H Q := fun s S =>
  wpAny_Dict_empty ⟨_, m, _, .ref, S.alloc (tk := s.toks) (c := .dict [] 0) ⟨⟨rfl, rfl, rfl⟩, #[], [], rfl, fun _ he => by simp at he, .nil, .nil, .nil⟩, .alloc, h _ S.toHS.fresh S.toHS.freshb⟩
theorem sub_dict {value slice : PySem.Expr} {v : V} (hd : H d = some (.dict kvs ep)) (hv : kvs.lookup k = some v) (h : Q v m H) (hs : NoSlice slice := by intro _ _; with_unfolding_all rfl) : O2 C A (subscriptTail value slice) (.ref d) (.int k) m H Q := fun s r q S hr hq => by
  rw [hr.ref_inv]; obtain ⟨u, rfl⟩ := hq.int_inv
  obtain ⟨rs, hD, hrs⟩ := S.toHS.dict hd
  have := lookup_raw (k := k) hrs
  rw [hv] at this
  obtain ⟨y, hy, hvy⟩ := this.some_inv
  exact tail_any hD.dictOf.typeIs slot_dict_getitem.lookup (wpAny_getItem_of (knd := intKind C.prog C.w) (intKind_is _ _ _ _) (map_of hD) hy (.same S hvy h _)) (hs _ _)
theorem set_dict {v : V} {QU : Loc → CH → Prop} (hd : H d = some (.dict kvs ep)) (hsz : kvs.length ≤ sizeLine) (h : ∀ ep', QU m (H.set d (.dict (putI kvs k v) ep'))) : O3 C A setItem (.ref d) (.int k) v m H QU := fun s r q p S hr hq hp => by
  rw [hr.ref_inv]; obtain ⟨u, rfl⟩ := hq.int_inv
  obtain ⟨rs, hD, hrs⟩ := S.toHS.dict hd
  obtain ⟨rs', e, hrs'⟩ := put_raw (k := k) hp hrs
  refine wpAny_setItem_pairs (knd := intKind C.prog C.w) (intKind_is _ _ _ _) hD.dictOf (fun h' hm hs => ?_) (by rw [raw_length hrs]; exact hsz)
  obtain ⟨o, ep', ho, hrep⟩ := dict_rep (C := C) hm e hrs'
  exact ⟨m, _, S.upd (tk := s.toks + 1) hd hs ho hrep, .upd (tk := s.toks + 1) hd hs ho, h ep'⟩
theorem O2_in_dict (B : Bs C.h₀ K mg mb) (hd : H d = some (.dict kvs ep)) (h : Q (.bool (kvs.lookup k).isSome) m H) : O2 C A (compareOp .In) (.int k) (.ref d) m H Q := fun s q r S hq hr => by
  rw [hr.ref_inv]; obtain ⟨u, rfl⟩ := hq.int_inv
  obtain ⟨rs, hD, hrs⟩ := S.toHS.dict hd
  refine wpAny_in_of (knd := intKind C.prog C.w) (intKind_is _ _ _ _) (B.sysm S.toHS hd) (map_of hD) ?_
  have e : ((rawOf kvs rs).lookup k).isSome = (kvs.lookup k).isSome := by
    have := lookup_raw (k := k) hrs
    cases e1 : kvs.lookup k <;> cases e2 : (rawOf kvs rs).lookup k <;> rw [e1, e2] at this <;> first | rfl | exact this.elim
  rw [e]; exact .same S .con h _
theorem GM_dict {name : Str} {id : String} {Q : V → List V → Prop} (hd : H d = some (.dict kvs ep)) (slot : Slot "dict" name id) (hty : typeOf (.builtin id) = pure (.type "method_descriptor")) (h : Q (.con (.builtin id)) [.ref d]) : GM C A (.ref d) name m H Q := fun s ro pl S hr => by
  rw [hr.ref_inv]
  obtain ⟨rs, ⟨o, es, ho, he, hdt, _⟩, _⟩ := S.toHS.dict hd
  exact getMethod_builtin ⟨_, ho, he.1⟩ F.plainAttrs_dict slot hty (fun a e => by cases e; exact ⟨_, ho, he.2.1⟩) ⟨_, _, .con, .cons .ref .nil, rfl, rfl, rfl, rfl, h⟩
theorem CV_get (B : Bs C.h₀ K mg mb) (hd : H d = some (.dict kvs ep)) (h : Q ((kvs.lookup k).getD V.none) m H) : CV C A (.con (.builtin "dict.get")) [.ref d, .int k] [] m H Q := fun s rf rs rkw S hf hva hk => by
  have := hk.nil_inv; subst this
  rw [hf.con_inv]
  obtain ⟨a, b, rfl, ha, hb⟩ := two_inv hva
  rw [ha.ref_inv]; obtain ⟨u, rfl⟩ := hb.int_inv
  obtain ⟨rs, hD, hrs⟩ := S.toHS.dict hd
  refine call_meetsIn F.slot_dict_get hD.dictOf.typeIs F.entry_dict_get (F.args_dict_get_2 _ _) (meets_dict_get (intKind C.prog C.w) d (intKind_is _ _ _ _) (B.sysm S.toHS hd)) ⟨_, map_of hD, ?_⟩
  have := lookup_raw (k := k) hrs
  cases e1 : kvs.lookup k with
  | none =>
    cases e2 : (rawOf kvs rs).lookup k with
    | none => rw [e1] at h; exact .same S .con h _
    | some => rw [e1, e2] at this; exact this.elim
  | some v =>
    rw [e1] at this h
    obtain ⟨y, hy, hvy⟩ := this.some_inv
    simp only [hy, Option.getD_some]
    exact .same S hvy h _
end
end
end Mine
end
section
open PySem PySem.Calls PySem.W PyProof.Rows
set_option maxRecDepth 100000
namespace Mine
noncomputable section
mutual
inductive DR (C : Cx) (H : CH) : V → Dat → Prop
  | none : DR C H V.none .none
  | int (i : Int) : DR C H (.int i) (.int i)
  | str (x : Str) : DR C H (.str x) (.str x)
  | tup {l : List V} {ds : List Dat} : DRs C H l ds → DR C H (.tup l) (.tuple ds)
  | list {a : Addr} {xs : List V} {ds : List Dat} : LAt C H a xs → DRs C H xs ds → DR C H (.ref a) (.list ds)
inductive DRs (C : Cx) (H : CH) : List V → List Dat → Prop
  | nil : DRs C H [] []
  | cons {v : V} {d : Dat} {vs : List V} {ds : List Dat} : DR C H v d → DRs C H vs ds → DRs C H (v :: vs) (d :: ds)
end
theorem DRs.map {C : Cx} {H : CH} {α : Type} {f : α → V} {g : α → Dat} : ∀ {l : List α}, (∀ a ∈ l, DR C H (f a) (g a)) → DRs C H (l.map f) (l.map g)
  | [], _ => .nil
  | a :: l, h => .cons (h a List.mem_cons_self) (DRs.map fun b hb => h b (List.mem_cons_of_mem _ hb))
section
variable {C : Cx} {A : Around} {m : Loc} {H : CH} {s : Shared} {K : Frag} {mg mb : Str → Option Value} {Q : V → Loc → CH → Prop}
mutual
theorem DR.reads (S : HS C H s) : ∀ {v : V} {d : Dat} {r : Value}, DR C H v d → VR s.heap v r → ∃ as, Reads s.heap r (kqdP d) as
  | _, _, r, .none, hv => by rw [hv.con_inv]; exact ⟨_, .none⟩
  | _, _, r, .int i, hv => by obtain ⟨t, rfl⟩ := hv.int_inv; exact ⟨_, .int i t⟩
  | _, _, r, .str x, hv => by obtain ⟨t, rfl⟩ := hv.str_inv; exact ⟨_, .str x t⟩
  | _, _, r, .tup q, hv => by
    obtain ⟨a, items, n, rfl, ho, hs⟩ := hv.tup_inv
    obtain ⟨as, h⟩ := DRs.reads S q hs
    rw [kqdP]; exact ⟨as, reads_tuple_at ho rfl rfl h⟩
  | _, _, r, .list hl q, hv => by
    rw [hv.ref_inv]
    obtain ⟨items, n, hL, hvs, hz⟩ := S.list hl
    obtain ⟨as, h⟩ := DRs.reads S q hvs
    rw [kqdP]; exact ⟨_, reads_list_at hL rfl rfl h⟩
theorem DRs.reads (S : HS C H s) : ∀ {vs : List V} {ds : List Dat} {rs : List Value}, DRs C H vs ds → VRs s.heap vs rs → ∃ as, ReadsAll s.heap rs (kqdPs ds) as
  | _, _, rs, .nil, hv => by have := hv.nil_inv; subst this; exact ⟨_, .nil⟩
  | _, _, rs, .cons d q, hv => by
    obtain ⟨y, ys, rfl, a, b⟩ := hv.cons_inv
    obtain ⟨as, h1⟩ := DR.reads S d a
    obtain ⟨bs, h2⟩ := DRs.reads S q b
    rw [kqdPs]; exact ⟨_, .cons h1 h2⟩
end
theorem O2_eqd {v w : V} {d e : Dat} (hd : DR C H v d) (he : DR C H w e) (kd : kqdOk 8 d = true) (ke : kqdOk 8 e = true) (hu : A.units + 10 < cLine) (h : ∀ b, (b = true ↔ d = e) → Q (.bool b) m H) : O2 C A (compareOp .Eq) v w m H Q := fun s r q S hr hq => by
  obtain ⟨as, ra⟩ := hd.reads S.toHS hr
  obtain ⟨bs, rb⟩ := he.reads S.toHS hq
  have la := kqd_lay 8 d kd
  have lb := kqd_lay 8 e ke
  exact SeqAt.compareEq_reads ra rb la.1 lb.1 (by have := la.2; have := lb.2; (first | lia | omega)) (.here S .con (h _ (kqd_eqv 8 d e 8 kd ke)))
theorem O2_ned {v w : V} {d e : Dat} (hd : DR C H v d) (he : DR C H w e) (kd : kqdOk 8 d = true) (ke : kqdOk 8 e = true) (hu : A.units + 10 < cLine) (h : ∀ b, (b = true ↔ d ≠ e) → Q (.bool b) m H) : O2 C A (compareOp .NotEq) v w m H Q := fun s r q S hr hq => by
  obtain ⟨as, ra⟩ := hd.reads S.toHS hr
  obtain ⟨bs, rb⟩ := he.reads S.toHS hq
  have la := kqd_lay 8 d kd
  have lb := kqd_lay 8 e ke
  have k := kqd_eqv 8 d e 8 kd ke
  exact SeqAt.compareNe_reads ra rb la.1 lb.1 (by have := la.2; have := lb.2; (first | lia | omega)) (.here S .con (h _ (by rw [Bool.not_eq_true', ← Bool.not_eq_true, k])))
theorem O2_notinl {l : Addr} {xs : List V} {v : V} {ds : List Dat} {d : Dat} (hl : LAt C H l xs) (hds : DRs C H xs ds) (hd : DR C H v d) (kds : ∀ e ∈ ds, kqdOk 8 e = true) (kd : kqdOk 8 d = true) (hu : A.units + 10 < cLine)
    (h : ∀ b, (b = true ↔ d ∉ ds) → Q (.bool b) m H) : O2 C A (compareOp .NotIn) v (.ref l) m H Q := fun s q r S hq hr => by
  obtain ⟨as, ra⟩ := (DR.list hl hds).reads S.toHS hr
  obtain ⟨bs, rb⟩ := hd.reads S.toHS hq
  rw [kqdP] at ra
  have l := kqd_layL kds
  have ld := kqd_lay 8 d kd
  have k := kqd_any ds d kds kd
  refine SeqAt.notIn_list_reads ra rb l.1 ld.1 ?_ (.here S .con (h _ (by rw [Bool.not_eq_true', ← Bool.not_eq_true, k])))
  have := Nat.min_le_right (PyData.depthAll (kqdPs ds)) (kqdP d).depth
  have := ld.2; (first | lia | omega)
variable {a : Addr} {T : Int → Bool} {n : Nat} {k : Int}
theorem HS.set (S : HS C H s) (ha : H a = some (.set T n)) : s.heap.SetOf (intKind C.prog C.w) a T n := by
  obtain ⟨_, o, ho, he, es, ep, t, hd, r⟩ := S.own a _ ha
  exact ⟨o, es, ep, t, ho, he, hd, r⟩
theorem set_rep {h : Heap} (x : h.SetOf (intKind C.prog C.w) a T n) {h₁ : Heap} : ∃ o, h.get? a = some o ∧ ORep C h₁ (.set T n) o := by
  obtain ⟨o, es, ep, t, ho, he, hd, r⟩ := x
  exact ⟨o, ho, he, es, ep, t, hd, r⟩
theorem CV_set0 (h : ∀ a, H a = none → C.h₀.get? a = none → Q (.ref a) m (H.set a (.set (fun _ => false) 0))) : CV C A (.con (.type "set")) [] [] m H Q := fun s rf rs rkw S hf hva hk => by
  have := hk.nil_inv; subst this
  rw [hf.con_inv]
  have := hva.nil_inv; subst this
  refine call_set_0 fun led => ?_
  exact ⟨_, m, _, .ref, S.alloc (tk := s.toks) (c := .set (fun _ => false) 0) ⟨⟨rfl, rfl, rfl⟩, #[], 0, .fresh 0 0 led, rfl, fun _ he => by simp at he, fun _ => by simp, by decide, by rfl, rfl⟩, .alloc, h _ S.toHS.fresh S.toHS.freshb⟩
theorem GM_set {Q : V → List V → Prop} (ha : H a = some (.set T n)) (h : Q (.con (.builtin "set.add")) [.ref a]) : GM C A (.ref a) "add" m H Q := fun s ro pl S hr => by
  rw [hr.ref_inv]
  exact getMethod_set_add (S.toHS.set ha) ⟨_, _, .con, .cons .ref .nil, rfl, rfl, rfl, rfl, h⟩
theorem CV_add (ha : H a = some (.set T n)) (hroom : n + 1 < scanBound) (h : Q V.none m (H.set a (.set (fun x => T x || decide (x = k)) (if T k then n else n + 1)))) : CV C A (.con (.builtin "set.add")) [.ref a, .int k] [] m H Q := fun s rf rs rkw S hf hva hk => by
  have := hk.nil_inv; subst this
  rw [hf.con_inv]
  obtain ⟨x, y, rfl, hx, hy⟩ := two_inv hva
  rw [hx.ref_inv]; obtain ⟨u, rfl⟩ := hy.int_inv
  refine call_set_add (knd := intKind C.prog C.w) (intKind_is _ _ _ _) rfl (S.toHS.set ha) hroom fun h' hs hm => ?_
  obtain ⟨o, ho, hrep⟩ := set_rep (C := C) hm (h₁ := s.heap)
  exact ⟨_, m, _, .con, S.upd (tk := s.toks + 1) ha hs ho hrep, .upd (tk := s.toks + 1) ha hs ho, h⟩
theorem O2_inset (ha : H a = some (.set T n)) (h : Q (.bool (T k)) m H) : O2 C A (compareOp .In) (.int k) (.ref a) m H Q := fun s q r S hq hr => by
  rw [hr.ref_inv]; obtain ⟨u, rfl⟩ := hq.int_inv
  exact wpAny_inSet_of (knd := intKind C.prog C.w) (intKind_is _ _ _ _) rfl (S.toHS.set ha) (.same S .con h _)
theorem ES_del {o i : PySem.Expr} {p p' : Pos} {Q : Fl → Loc → CH → Prop} (h : EV C A o m H fun ov m₁ H₁ => EV C A i m₁ H₁ fun iv m₂ H₂ => ∃ d k kvs ep, ov = .ref d ∧ iv = .int k ∧ H₂ d = some (.dict kvs ep) ∧ kvs.length ≤ sizeLine ∧ (kvs.lookup k).isSome = true ∧ ∀ ep', Q .next m₂ (H₂.set d (.dict (dropI kvs k) ep'))) :
    ES C A (.Delete [.Subscript o i p] p') m H Q := fun s S => by
  refine wpAny_Delete (wpAny_deleteEach_cons ?_)
  rw [arm_delete_Subscript]
  refine wpAny_bind (wpAny_mono (h s S) ?_ fun _ _ x => x)
  rintro a s₁ ⟨ov, m₁, H₁, ra, S₁, af₁, h₁⟩
  refine wpAny_bind (wpAny_holding (wpAny_mono (h₁ s₁ S₁) ?_ fun _ _ x => x))
  rintro b s₂ ⟨iv, m₂, H₂, rb, S₂, af₂, d, k, kvs, ep, rfl, rfl, hd, hsz, hk, hq⟩
  have ra₂ := ra.keep (af₂.tup S₁)
  obtain rfl := ra₂.ref_inv
  obtain ⟨u, rfl⟩ := rb.int_inv
  obtain ⟨rs, hD, hrs⟩ := S₂.toHS.dict hd
  have fin : wpAny (model C.prog C.w) A (delItem (.ref d) (.int k u)) (fun _ s' => PF C H s Q .next s') NoE s₂ := by
    unfold delItem
    try with_reducible refine wpAny_holding ?_
    refine wpAny_bind (wpAny_sequenceKey hD.dictOf.typeIs (by decide) ?_)
    have hthere : (valueAt (rawOf kvs rs) k).isSome = true := by
      rw [valueAt_lookup]
      have := lookup_raw (k := k) hrs
      cases e1 : kvs.lookup k with
      | none => rw [e1] at hk; cases hk
      | some v => rw [e1] at this; obtain ⟨y, hy, _⟩ := this.some_inv; rw [hy]; rfl
    refine wpAny_bind (wpAny_callSpecial?_slot (name := Str.ofString "__delitem__") hD.dictOf.typeIs PySem.F.slot_dict_delitem
      (call_meetsIn PySem.F.slot_dict_delitem hD.dictOf.typeIs PySem.F.entry_dict_delitem (PySem.F.args_dict_delitem_2 _ _) (meets_dict_delitem_pairs (intKind C.prog C.w) d (intKind_is _ _ _ _)) ⟨rawOf kvs rs, hD.dictOf, by rw [raw_length hrs]; exact hsz, hthere, fun h' hmm hs => ?_⟩))
    obtain ⟨rs', e, hrs'⟩ := drop_raw (k := k) hrs
    obtain ⟨o, ep', ho, hrep⟩ := dict_rep (C := C) hmm e hrs'
    exact wpAny_pure ⟨.next, m₂, _, rfl, S₂.upd (tk := s₂.toks + 1) hd hs ho hrep, (af₁.then S₁ af₂).then S₂ (.upd (tk := s₂.toks + 1) hd hs ho), hq ep'⟩
  refine wpAny_bind (wpAny_standAt (wpAny_bind (wpAny_holding (wpAny_mono fin (fun _ s₃ x => ?_) fun _ _ x => x))))
  have x' : wpAny (model C.prog C.w) A (deleteEach [] C.env) (fun _ s₁ => PF C H s Q .next s₁) NoE s₃ := wpAny_deleteEach_nil x
  exact fun Γ p hΓ => by rw [Sem.wp_release]; exact x'
end
end
end Mine
end
section
open PySem PySem.Calls PySem.W PyProof.Rows
set_option maxRecDepth 100000
namespace Mine
noncomputable section
noncomputable def putS : Loc → Str → V → Loc
  | [], x, v => [(x, v)]
  | (y, w) :: r, x, v => if y = x then (y, v) :: r else (y, w) :: putS r x v
theorem EsR.get {h : Heap} {x : Str} : ∀ {fs : Loc} {es : List DictEntry}, EsR h fs es → ∀ {v : V}, fs.lookup x = some v → ∃ r, getL x es = some (some r) ∧ VR h v r
  | [], [], _, v, e => by simp at e
  | (y, w) :: fs, en :: es, r, v, e => by
    obtain ⟨⟨t, hk⟩, hv, hr⟩ := r
    unfold getL
    rw [List.find?_cons, hk, show (Value.str y t).isStr x = (y == x) from rfl]
    rw [List.lookup_cons] at e
    by_cases hxy : x = y
    · subst hxy; simp only [beq_self_eq_true] at e ⊢; cases e; exact ⟨_, rfl, hv⟩
    · rw [beq_eq_false_iff_ne.mpr hxy] at e
      rw [beq_eq_false_iff_ne.mpr (Ne.symm hxy)]
      obtain ⟨q, hq, hv'⟩ := EsR.get hr e
      refine ⟨q, ?_, hv'⟩
      unfold getL at hq
      cases hf : List.find? (fun x_1 => x_1.key.isStr x) es with
      | some e' => rw [hf] at hq; exact hq
      | none => rw [hf] at hq; dsimp only at hq; split at hq <;> cases hq
  | [], _ :: _, r, _, _ => r.elim
  | _ :: _, [], r, _, _ => r.elim
theorem EsR.noRef {h : Heap} : ∀ {fs : Loc} {es : List DictEntry}, EsR h fs es → es.any (·.refKey) = false
  | [], [], _ => rfl
  | (y, w) :: fs, en :: es, r => by
    obtain ⟨⟨t, hk⟩, hv, hr⟩ := r
    rw [List.any_cons, hr.noRef]
    simp [DictEntry.refKey, hk]
  | [], _ :: _, r => r.elim
  | _ :: _, [], r => r.elim
theorem EsR.miss {h : Heap} {x : Str} {fs : Loc} {es : List DictEntry} (r : EsR h fs es) (e : fs.lookup x = none) : getL x es = some none := by
  have hf : ∀ {fs : Loc} {es : List DictEntry}, EsR h fs es → fs.lookup x = none → es.find? (·.key.isStr x) = none := by
    intro fs
    induction fs with
    | nil => intro es r _; cases es with
      | nil => rfl
      | cons => exact r.elim
    | cons p fs ih =>
      intro es r e
      obtain ⟨y, w⟩ := p
      cases es with
      | nil => exact r.elim
      | cons en es =>
        obtain ⟨⟨t, hk⟩, hv, hr⟩ := r
        rw [List.lookup_cons] at e
        have hxy : x ≠ y := fun q => by subst q; simp at e
        rw [beq_eq_false_iff_ne.mpr hxy] at e
        rw [List.find?_cons, hk, show (Value.str y t).isStr x = (y == x) from rfl]
        rw [beq_eq_false_iff_ne.mpr (Ne.symm hxy)]
        exact ih hr e
  unfold getL
  rw [hf r e, r.noRef]; rfl
theorem EsR.put {h : Heap} {x : Str} {v : V} {r : Value} {hs : Int} {t : Tok} (hv : VR h v r) : ∀ {fs : Loc} {es : List DictEntry}, EsR h fs es → EsR h (putS fs x v) (putL x hs (.str x t) r es)
  | [], [], _ => ⟨⟨t, rfl⟩, hv, trivial⟩
  | (y, w) :: fs, en :: es, q => by
    obtain ⟨⟨u, hk⟩, hw, hr⟩ := q
    unfold putS putL
    rw [hk, show (Value.str y u).isStr x = (y == x) from rfl]
    by_cases hxy : y = x
    · subst hxy; rw [if_pos rfl, if_pos (beq_self_eq_true _)]; exact ⟨⟨u, rfl⟩, hv, hr⟩
    · rw [if_neg hxy, if_neg (by rw [beq_eq_false_iff_ne.mpr hxy]; decide)]
      exact ⟨⟨u, hk⟩, hw, EsR.put hv hr⟩
  | [], _ :: _, r => r.elim
  | _ :: _, [], r => r.elim
theorem EsR.length {h : Heap} : ∀ {fs : Loc} {es : List DictEntry}, EsR h fs es → es.length = fs.length
  | [], [], _ => rfl
  | _ :: _, _ :: _, r => by rw [List.length_cons, List.length_cons, r.2.2.length]
  | [], _ :: _, r => r.elim
  | _ :: _, [], r => r.elim
section
variable {C : Cx} {A : Around} {m : Loc} {H : CH} {s : Shared} {K : Frag} {mg mb : Str → Option Value} {Q : V → Loc → CH → Prop} {QU : Loc → CH → Prop} {x d k : Addr} {sl : List (Option V)} {fs : Loc} {name : Str} {v : V}
structure RawInst (h : Heap) (x k d : Addr) (sl : List (Option V)) (fs : Loc) (rs : Array (Option Value)) (es : List DictEntry) (n : Nat) : Prop where
  ox : h.get? x = some { cls := .ref k, dict := some d, data := .plain, slots := rs }
  sl : OptRs h sl rs.toList
  od : h.get? d = some (dictOf es n)
  es : EsR h fs es
theorem RawInst.at {h : Heap} {rs : Array (Option Value)} {es : List DictEntry} {n : Nat} (R : RawInst h x k d sl fs rs es n) : InstAt h x { cls := .ref k, dict := some d, data := .plain, slots := rs } k (some (dictOf es n)) := ⟨R.ox, rfl, rfl, R.od⟩
theorem HS.inst (S : HS C H s) (hx : H x = some (.inst k d sl)) (hd : H d = some (.idict fs)) : ∃ rs es n, RawInst s.heap x k d sl fs rs es n := by
  obtain ⟨_, o, ho, rs, rfl, hsl⟩ := S.own x _ hx
  obtain ⟨_, o', ho', es, n, rfl, hes⟩ := S.own d _ hd
  exact ⟨rs, es, n, ho, hsl, ho', hes⟩
theorem OptRs.get {h : Heap} : ∀ {sl : List (Option V)} {rs : List (Option Value)}, OptRs h sl rs → ∀ {i : Nat} {v : V}, sl[i]? = some (some v) → ∃ r, rs[i]? = some (some r) ∧ VR h v r
  | [], _, _, i, v, e => by simp at e
  | a :: as, [], r, _, _, _ => r.elim
  | a :: as, b :: bs, r, i, v, e => by
    cases i with
    | zero =>
      simp at e; subst e
      obtain ⟨q, rfl, hq⟩ := OptR.some_inv r.1
      exact ⟨q, by simp, hq⟩
    | succ i => simp at e; obtain ⟨q, hq, hv⟩ := OptRs.get r.2 e; exact ⟨q, by simpa using hq, hv⟩
theorem EV_attr {o : PySem.Expr} {p : Pos} (h : EV C A o m H fun ov m₁ H₁ => O1 C A (fun r => getAttr r name true) ov m₁ H₁ Q)
    (he : eval (.Attribute o name p) C.env = (do
      let ov ← eval o C.env
      standAt p.atName
      let r ← holding [ov] (getAttr ov name true)
      letTemporaryGo o ov r
      pure r) := by with_unfolding_all rfl) : EV C A (.Attribute o name p) m H Q := fun s S => by
  refine Attribute_any_ (wpAny_mono (h s S) ?_ fun _ _ x => x) he
  rintro r s₁ ⟨ov, m₁, H₁, hv, S₁, af₁, h₁⟩
  exact wpAny_mono (h₁ s₁ r S₁ hv) (fun _ _ x => x.mono S₁ af₁) fun _ _ x => x
noncomputable def ownOk (K : Frag) (c : Addr) (name : Str) : Bool := plainGet K c name && hasDictIn K c && (match findIn K (.ref c) name with | some a => noGet K a | none => false)
noncomputable def VHand : V → Prop
  | .con v => handedIn v = true
  | _ => True
theorem VR.hand {h : Heap} {v : V} {r : Value} (x : VR h v r) (hh : VHand v) : handedIn r = true := by
  cases v with
  | con c => rw [x.con_inv]; exact hh
  | int i => obtain ⟨t, rfl⟩ := x.int_inv; rfl
  | str i => obtain ⟨t, rfl⟩ := x.str_inv; rfl
  | tup l => obtain ⟨a, items, n, rfl, _⟩ := x.tup_inv; rfl
  | rng => obtain ⟨z, t, u, w, rfl, _⟩ := x.rng_inv; rfl
  | imm => obtain ⟨_, a, rfl, _⟩ := x.imm_inv; rfl
  | fn => obtain ⟨a, _, _, _, rfl, _⟩ := x.fn_inv; rfl
  | ref a => rw [x.ref_inv]; rfl
theorem GA_own (B : Bs C.h₀ K mg mb) (hx : H x = some (.inst k d sl)) (hd : H d = some (.idict fs)) (hv : fs.lookup name = some v) (h : Q v m H) (hok : ownOk K k name = true := by kernel_rfl) (hh : VHand v := by first | exact trivial | rfl) :
    O1 C A (fun r => getAttr r name true) (.ref x) m H Q := fun s r S hr => by
  rw [hr.ref_inv]
  obtain ⟨rs, es, n, R⟩ := S.toHS.inst hx hd
  unfold ownOk at hok
  simp only [Bool.and_eq_true] at hok
  obtain ⟨⟨h1, h2⟩, h3⟩ := hok
  split at h3
  · rename_i a ha
    obtain ⟨q, hq, hvq⟩ := R.es.get hv
    exact get_value (B.X.keeps S.base) R.at (plainGet_of h1).1 (findObj_own h2 ha h3 hq) (hvq.hand hh) (.same S hvq h _)
  · cases h3
noncomputable def slotOk (K : Frag) (c : Addr) (name : Str) (p : Addr) (i : Nat) : Bool := plainGet K c name && isClsIn K c && (findIn K (.ref c) name == some (some (.ref p))) && (specialIn K (.ref p) "__get__" == some (some (.builtin "member_descriptor.__get__"))) && (takesIn K (.ref p) == some true) && (slotIn K p c == some i)
theorem GA_slot {p : Addr} {i : Nat} (B : Bs C.h₀ K mg mb) (hx : H x = some (.inst k d sl)) (hd : H d = some (.idict fs)) (hv : sl[i]? = some (some v)) (h : Q v m H) (hok : slotOk K k name p i = true := by kernel_rfl) (hh : VHand v := by first | exact trivial | rfl) :
    O1 C A (fun r => getAttr r name true) (.ref x) m H Q := fun s r S hr => by
  rw [hr.ref_inv]
  obtain ⟨rs, es, n, R⟩ := S.toHS.inst hx hd
  unfold slotOk at hok
  simp only [Bool.and_eq_true, beq_iff_eq] at hok
  obtain ⟨⟨⟨⟨⟨h1, h2⟩, h3⟩, h4⟩, h5⟩, h6⟩ := hok
  have X : K.In s.heap := B.X.keeps S.base
  obtain ⟨q, hq, hvq⟩ := R.sl.get hv
  refine get_bind X R.at (plainGet_of h1).1 (findObj_data h2 h3 h4 h5) (plainGet_of h1).2 (wpAny_call (slot_get (s := { s with toks := s.toks + 1 }) X R.at h6 (v := q) ?_ (handed_on (hvq.hand hh) (.same S hvq h _))))
  show (rs[i]?).join = some q
  rw [← Array.getElem?_toList, hq]; rfl
noncomputable def fnOk (K : Frag) (c : Addr) (name : Str) (f : Addr) : Bool := plainGet K c name && hasDictIn K c && (findIn K (.ref c) name == some (some (.ref f))) && isFn K (.ref f) && (specialIn K (.ref f) "__get__" == some (some (.builtin "function.__get__"))) && (takesIn K (.ref f) == some false) && !copiedNames.contains name
theorem GM_inst {f : Addr} {Q : V → List V → Prop} (B : Bs C.h₀ K mg mb) (hx : H x = some (.inst k d sl)) (hd : H d = some (.idict fs)) (hv : fs.lookup name = none) (h : Q (.con (.ref f)) [.ref x]) (hok : fnOk K k name f = true := by kernel_rfl) : GM C A (.ref x) name m H Q := fun s r pl S hr => by
  rw [hr.ref_inv]
  obtain ⟨rs, es, n, R⟩ := S.toHS.inst hx hd
  unfold fnOk at hok
  simp only [Bool.and_eq_true, beq_iff_eq] at hok
  obtain ⟨⟨⟨⟨⟨⟨h1, h2⟩, h3⟩, h4⟩, h5⟩, h6⟩, h7⟩ := hok
  exact method_fn (B.X.keeps S.base) R.at (plainGet_of h1).1 (plainGet_of h1).2 h3 (beq_iff_eq.mp h4) (by show (lookIn name (dictOf es n)).map _ = _; rw [lookIn_dict, R.es.miss hv]; rfl) ⟨_, _, .con, .cons .ref .nil, rfl, rfl, rfl, rfl, h⟩
theorem Imm.meth {f self : Value} (h : ∀ x t, self ≠ .str x t) : Imm (methodObj f self) := ⟨rfl, .inl ⟨"method", by decide, rfl⟩, (by intro _ _ e; cases e), (by intro _ e; cases e), (by intro _ _ _ e; cases e)⟩
theorem GA_bound {f : Addr} (B : Bs C.h₀ K mg mb) (hx : H x = some (.inst k d sl)) (hd : H d = some (.idict fs)) (hv : fs.lookup name = none) (h : Q (.imm (methodObj (.ref f) (.ref x))) m H) (hok : fnOk K k name f = true := by kernel_rfl) :
    O1 C A (fun r => getAttr r name true) (.ref x) m H Q := fun s r S hr => by
  rw [hr.ref_inv]
  obtain ⟨rs, es, n, R⟩ := S.toHS.inst hx hd
  unfold fnOk at hok
  simp only [Bool.and_eq_true, beq_iff_eq, Bool.not_eq_true'] at hok
  obtain ⟨⟨⟨⟨⟨⟨h1, h2⟩, h3⟩, h4⟩, h5⟩, h6⟩, h7⟩ := hok
  have X : K.In s.heap := B.X.keeps S.base
  refine get_bind X R.at (plainGet_of h1).1 (findObj_fn h2 h3 h5 h6 h7 (by show lookIn name (dictOf es n) = _; rw [lookIn_dict, R.es.miss hv])) (plainGet_of h1).2
    (wpAny_call (fn_get (s := { s with toks := s.toks + 1 }) X (beq_iff_eq.mp h4) (handed_on rfl ?_)))
  exact ⟨_, m, H, .imm (.meth (by intro _ _ e; cases e)) (Heap.get?_push_size _ rfl), S.more (tk := s.toks + 1) (keep_push _ _), .more (tk := s.toks + 1) (keep_push _ _), h⟩
theorem CALL_bound {f : Addr} {vs : List V} {kws : List (Str × V)} {Q : V → CH → Prop} (h : CALL C A (.con (.ref f)) (.ref x :: vs) kws H Q) : CALL C A (.imm (methodObj (.ref f) (.ref x))) vs kws H Q := fun s rf rs rkw S F hf hv hk => by
  obtain ⟨_, a, rfl, ho⟩ := hf.imm_inv
  exact method_call ho (h s (.ref f) (.ref x :: rs) rkw S F .con (.cons .ref hv) hk)
theorem KP_bound {f : Addr} {o : Obj} {fd : FuncData} (e : C.h₀.get? f = some o) (hd : o.data = .func fd) : KP C (.imm (methodObj (.ref f) (.ref x))) H := fun s rf S hf => by
  obtain ⟨_, a, rfl, ho⟩ := hf.imm_inv
  refine ⟨.boundFrame, (Looks.ld (part := none) ho).andThen ?_⟩
  refine (Looks.ld (part := none) (S.base _ _ e)).andThen ?_
  rw [hd]; exact .now
noncomputable def SA (C : Cx) (A : Around) (ov : V) (name : Str) (v : V) (m : Loc) (H : CH) (Q : Loc → CH → Prop) : Prop := ∀ s ro rv, St C m H s → VR s.heap ov ro → VR s.heap v rv → wpAny (model C.prog C.w) A (setAttr ro name rv) (PA C H s fun _ => Q) NoE s
theorem ASG_attr {o : PySem.Expr} {p : Pos} (h : EV C A o m H fun ov m₁ H₁ => SA C A ov name v m₁ H₁ QU) : ASG C A (.Attribute o name p) v m H QU := fun s r S hv => by
  refine kas_attr (wpAny_mono (h s S) ?_ fun _ _ x => x)
  rintro ro s₁ ⟨ov, m₁, H₁, ho, S₁, af₁, h₁⟩
  exact wpAny_mono (h₁ s₁ ro r S₁ ho (hv.keep (af₁.tup S))) (fun _ _ x => x.mono S₁ af₁) fun _ _ x => x
theorem osa_raw {prog : Program} {w : World} {R : Result → Shared → Prop} {ox : Obj} {es : List DictEntry} {n : Nat} {dx : Addr} {tk : Tok} {r : Value} (X : K.In s.heap) (I : InstAt s.heap x ox k (some (dictOf es n))) (hd : ox.dict = some dx)
    (hp : plainOver K k = true) (ht : takerIn K k name = some none) (hh : (clsIn K k).any (·.hasDict) = true) (hl : (getL name es).isSome = true) (hz : es.length < 1000)
    (h : ∀ h', Heap.SameBut dx s.heap h' → h'.get? dx = some (dictOf (putL name (PyData.keyHash w.params name) (.str name s.toks) r es) (putN name es n)) → R (.ok (.ret .none)) { s with heap := h', toks := s.toks + 1 }) :
    codeAny (model prog w) A (.call (.builtin "object.__setattr__") ⟨[.ref x, .str name tk, r], []⟩) R s := by
  refine osa_open X I hp ht fun b => ?_
  obtain ⟨cd, hc, hd'⟩ := any_some hh
  obtain ⟨hx, hcl, hn, hdd⟩ := I
  obtain ⟨oc, odi, oda, osl⟩ := ox
  dsimp only at hcl hd hdd
  subst hcl hd
  dsimp only at hdd
  have e := putName_dict name (PyData.keyHash w.params name) (.str name s.toks) r es n
  have D' : (s.heap.update dx (Obj.putName name (PyData.keyHash w.params name) (.str name s.toks) r)).get? dx = some (dictOf (putL name (PyData.keyHash w.params name) (.str name s.toks) r es) (putN name es n)) := by
    rw [← e]; exact Heap.get?_update_self _ hdd (by rw [e]; rfl)
  refine wpAny_bind (wpAny_pure (wpAny_bind (wpAny_bind (wpAny_loadPart hx (wpAny_bind ((looks_clsIn X hc).here ?_))))))
  rw [hd']
  refine wpAny_pure (a := some dx) (wpAny_bind (wpAny_pure (wpAny_bind ?_)))
  unfold nsSet
  refine wpAny_bind (wpAny_bind (wpAny_askSetting (wpAny_pure (wpAny_bind (wpAny_mkText (wpAny_bind (wpAny_loadPart hdd ?_)))))))
  have hlen : ∀ es : List DictEntry, (putL name (PyData.keyHash w.params name) (.str name s.toks) r es).length ≤ es.length + 1 := by
    intro es
    induction es with
    | nil => exact Nat.le_refl _
    | cons e es ih => unfold putL; split <;> simp <;> (first | lia | omega)
  have c : (!es.toArray.any (·.key.isStr name) && es.toArray.any (·.refKey)) = false := by
    rw [List.any_toArray, List.any_toArray]
    unfold getL at hl
    split at hl
    · rename_i en he
      rw [List.any_eq_true.mpr ⟨en, List.mem_of_find?_eq_some he, List.find?_some he⟩]; rfl
    · split at hl
      · cases hl
      · rename_i z; rw [Bool.not_eq_true] at z; rw [z, Bool.and_false]
  dsimp only
  rw [aRefKeyMayBeTheName_at, c]
  refine wpAny_updatePart hdd ?_
  refine wpAny_bind (wpAny_lookBehind D' (pastItsLine_dict (by rw [List.size_toArray, sizeLine_eq]; have := hlen es; (first | lia | omega))) ?_)
  exact wpAny_pure (h _ (Heap.SameBut.update ..) D')
noncomputable def setOk (K : Frag) (c : Addr) (name : Str) : Bool := (findIn K (.ref c) "__setattr__" == some (some (.builtin "object.__setattr__"))) && plainOver K c && (match takerIn K c name with | some none => true | _ => false) && (clsIn K c).any (·.hasDict)
theorem SA_own (B : Bs C.h₀ K mg mb) (hx : H x = some (.inst k d sl)) (hd : H d = some (.idict fs)) (hz : fs.length < 1000) (h : QU m (H.set d (.idict (putS fs name v)))) (hok : setOk K k name = true := by kernel_rfl) : SA C A (.ref x) name v m H QU := fun s ro rv S ho hv => by
  rw [ho.ref_inv]
  obtain ⟨rs, es, n, R⟩ := S.toHS.inst hx hd
  unfold setOk at hok
  simp only [Bool.and_eq_true, beq_iff_eq] at hok
  obtain ⟨⟨⟨h1, h2⟩, h3⟩, h4⟩ := hok
  split at h3
  · rename_i ht
    have X : K.In s.heap := B.X.keeps S.base
    have hg : (getL name es).isSome = true := by
      cases e : fs.lookup name with
      | none => rw [R.es.miss e]; rfl
      | some w => obtain ⟨q, hq, _⟩ := R.es.get e; rw [hq]; rfl
    refine set_plain X R.at h1 (osa_raw (s := { s with toks := s.toks + 1 }) X R.at rfl h2 ht h4 hg (by rw [R.es.length]; exact hz) fun h' hs hg' => ?_)
    exact ⟨m, _, S.upd (tk := s.toks + 1 + 1) (c' := .idict (putS fs name v)) hd hs hg' ⟨_, _, rfl, EsR.put hv R.es⟩, .upd (tk := s.toks + 1 + 1) hd hs hg', h⟩
  · cases h3
end
end
end Mine
end
section
open PySem PySem.Calls PySem.W PyProof.Rows Builtin Builtin.ObjectAttr Builtin.Getset_descriptor
set_option maxRecDepth 100000
set_option maxHeartbeats 4000000
namespace Mine
noncomputable section
section
variable {C : Cx} {A : Around} {m : Loc} {H : CH} {s : Shared} {K : Frag} {mg mb : Str → Option Value} {Q : V → Loc → CH → Prop} {QU : Loc → CH → Prop} {x d k : Addr} {sl : List (Option V)} {fs : Loc} {name : Str} {v : V}
theorem slot_raw {prog : Program} {w : World} {R : Result → Shared → Prop} {ox : Obj} {od : Option Obj} {r : Value} {p : Addr} {i : Nat} (X : K.In s.heap) (I : InstAt s.heap x ox k od) (hp : slotIn K p k = some i) (hi : i < 1000)
    (h : R (.ok (.ret .none)) { s with heap := s.heap.update x (fun o => { o with slots := (o.slots ++ Array.replicate (i + 1 - o.slots.size) none).setIfInBounds i (some r) }) }) :
    codeAny (model prog w) A (.call (.builtin "member_descriptor.__set__") ⟨[.ref p, .ref x, r], []⟩) R s := by
  obtain ⟨n, tn, owner, behind, tb, d, sl, cd, ho, hc, hm, hb, rfl⟩ := slot_of X hp
  obtain ⟨hh, g, dr, t, os⟩ := s
  have L0 := I.type (M := model prog w)
  have L1 := looks_mroIn (M := model prog w) X hm
  have L2 : Looks (model prog w) hh (Slots.slotNamesOf (.ref k)) cd.slotNames := (looks_clsIn X hc).andThen .now
  have hx := I.at_
  dsimp only at ho hx L0 L1
  have f0 := looks_field (M := model prog w) ho 0 (v := .str n tn) rfl
  have f1 := looks_field (M := model prog w) ho 1 (v := owner) rfl
  have f3 := looks_field (M := model prog w) ho 3 (v := .builtin "proto.slot#set") rfl
  have f4 := looks_field (M := model prog w) ho 4 (v := .int behind tb) rfl
  refine codeAny_call_builtin KF.slot_mset.plain KF.entry_mset (KF.slot_mset.check _ _ _ _ _ _ _ _ ⟨_, ho, rfl⟩ (KF.args_mset _ _ _) ?_)
  unfold Builtin.«member_descriptor.__set__» descrSet descrStoreThrough descrCheckInstance descrNameAndClass isInstance
  have f5 : Looks (model prog w) hh (descrItself (.ref p)) [.ref p] := ((Looks.ld (part := none) ho).andThen .now).andThen (Looks.of_pure (by kernel_rfl))
  repeat lk
  refine ⟨Code.quiet_builtin _ (by decide +kernel), codeAny_builtin KF.entry_slotset ?_⟩
  unfold Builtin.«proto.slot#set» Slots.target
  repeat lk
  rw [if_neg hb]
  refine wpAny_pure (wpAny_bind ?_)
  unfold setSlotAt
  dsimp only
  rw [if_neg (by rw [sizeLine_eq]; (first | lia | omega))]
  exact wpAny_updatePart hx (wpAny_pure h)
noncomputable def setSlotOk (K : Frag) (c : Addr) (name : Str) (p : Addr) (i : Nat) : Bool := (findIn K (.ref c) "__setattr__" == some (some (.builtin "object.__setattr__"))) && plainOver K c && (match takerIn K c name with | some (some (.ref q)) => q == p | _ => false) && (typeIn K (.ref p) == some (.type "member_descriptor")) && (slotIn K p c == some i) && decide (i < 1000)
noncomputable def putSl (sl : List (Option V)) (i : Nat) (v : V) : List (Option V) := (sl ++ List.replicate (i + 1 - sl.length) none).set i (some v)
theorem OptRs.append {h : Heap} : ∀ {a : List (Option V)} {b : List (Option Value)} {c : List (Option V)} {e : List (Option Value)}, OptRs h a b → OptRs h c e → OptRs h (a ++ c) (b ++ e)
  | [], [], _, _, _, q => q
  | _ :: _, _ :: _, _, _, p, q => ⟨p.1, p.2.append q⟩
  | [], _ :: _, _, _, p, _ => p.elim
  | _ :: _, [], _, _, p, _ => p.elim
theorem OptRs.nones {h : Heap} : ∀ n : Nat, OptRs h (List.replicate n none) (List.replicate n none)
  | 0 => trivial
  | n + 1 => ⟨trivial, OptRs.nones n⟩
theorem OptRs.set {h : Heap} {v : V} {r : Value} (hv : VR h v r) : ∀ {a : List (Option V)} {b : List (Option Value)}, OptRs h a b → ∀ i, OptRs h (a.set i (some v)) (b.set i (some r))
  | [], [], _, _ => trivial
  | _ :: _, _ :: _, p, 0 => ⟨hv, p.2⟩
  | _ :: _, _ :: _, p, i + 1 => ⟨p.1, p.2.set hv i⟩
  | [], _ :: _, p, _ => p.elim
  | _ :: _, [], p, _ => p.elim
theorem OptRs.length {h : Heap} : ∀ {a : List (Option V)} {b : List (Option Value)}, OptRs h a b → b.length = a.length
  | [], [], _ => rfl
  | _ :: _, _ :: _, p => by rw [List.length_cons, List.length_cons, p.2.length]
  | [], _ :: _, p => p.elim
  | _ :: _, [], p => p.elim
theorem SA_slot {p : Addr} {i : Nat} (B : Bs C.h₀ K mg mb) (hx : H x = some (.inst k d sl)) (hd : H d = some (.idict fs)) (h : QU m (H.set x (.inst k d (putSl sl i v)))) (hok : setSlotOk K k name p i = true := by kernel_rfl) : SA C A (.ref x) name v m H QU := fun s ro rv S ho hv => by
  rw [ho.ref_inv]
  obtain ⟨rs, es, n, R⟩ := S.toHS.inst hx hd
  unfold setSlotOk at hok
  simp only [Bool.and_eq_true, beq_iff_eq, decide_eq_true_eq] at hok
  obtain ⟨⟨⟨⟨⟨h1, h2⟩, h3⟩, h4⟩, h5⟩, h6⟩ := hok
  split at h3
  · rename_i q ht
    rw [beq_iff_eq] at h3; subst h3
    have X : K.In s.heap := B.X.keeps S.base
    refine set_plain X R.at h1 (osa_descr (s := { s with toks := s.toks + 1 }) KF.slot_mset X R.at h2 ht h4 (slot_raw (s := { s with toks := s.toks + 1 }) X R.at h5 h6 ?_))
    have ho' := Heap.get?_update_self (fun o => { o with slots := (o.slots ++ Array.replicate (i + 1 - o.slots.size) none).setIfInBounds i (some rv) }) R.ox rfl
    refine ⟨m, _, S.upd (tk := s.toks + 1) (c' := .inst k d (putSl sl i v)) hx (Heap.SameBut.update ..) ho' ⟨_, rfl, ?_⟩, .upd (tk := s.toks + 1) hx (Heap.SameBut.update ..) ho', h⟩
    show OptRs s.heap (putSl sl i v) ((rs ++ Array.replicate (i + 1 - rs.size) none).setIfInBounds i (some rv)).toList
    rw [Array.toList_setIfInBounds, Array.toList_append, Array.toList_replicate]
    unfold putSl
    have hz : rs.size = sl.length := by have := R.sl.length; simpa using this
    rw [hz]
    exact (R.sl.append (OptRs.nones _)).set hv i
  · cases h3
theorem AOK.under {n : Nat} {rest : List Value} {kw : List (Str × Value)} (h : AOK C A (n + 1)) : AOK C (A.under (.builtin "type.__call__" ⟨.ref k :: rest, kw⟩)) n := by
  have hw : (Code.builtin "type.__call__" ⟨.ref k :: rest, kw⟩).weight = 1 := rfl
  have hu : (Code.builtin "type.__call__" ⟨.ref k :: rest, kw⟩).cUnits = 1 := rfl
  have he : (Code.builtin "type.__call__" ⟨.ref k :: rest, kw⟩).envs = [] := rfl
  refine ⟨h.handled, ?_, ?_, ?_⟩
  · show A.depth + _ + n < _; rw [hw]; have := h.depth; (first | lia | omega)
  · show A.units + _ + 4 * n + 40 < _; rw [hu]; have := h.units; (first | lia | omega)
  · unfold Around.under; dsimp only; rw [he]; exact h.frames
noncomputable def makeOk (K : Frag) (c fI : Addr) : Bool := makesIn K c && (findIn K (.ref c) "__init__" == some (some (.ref fI))) && (typeIn K (.ref fI) == some (.type "function"))
theorem CALL_make {c fI : Addr} {vs : List V} {kws : List (Str × V)} {Q : V → CH → Prop} (B : Bs C.h₀ K mg mb) (hok : makeOk K c fI = true)
    (h : ∀ x d rest kw, H x = none → H d = none → C.h₀.get? x = none → C.h₀.get? d = none → x ≠ d → CALL C (A.under (.builtin "type.__call__" ⟨.ref c :: rest, kw⟩)) (.con (.ref fI)) (.ref x :: vs) kws ((H.set d (.idict [])).set x (.inst c d [])) fun v H' => v = V.none ∧ Q (.ref x) H') : CALL C A (.con (.ref c)) vs kws H Q := fun s rf rs rkw S F hf hv hk => by
  unfold makeOk at hok
  simp only [Bool.and_eq_true, beq_iff_eq] at hok
  obtain ⟨⟨h1, h2⟩, h3⟩ := hok
  rw [hf.con_inv]
  have X : K.In s.heap := B.X.keeps S.base
  obtain ⟨hh, g, dr, t, os⟩ := s
  refine make_core (makes_of X h1) (looks_findIn X h2) (fun self => bind_fn X self h3) (.inl rfl) ?_
  have S1 := S.alloc (tk := t) (o := emptyDict) (c := .idict []) ⟨[], 0, rfl, trivial⟩
  have a1 : AfterC H ⟨hh, g, dr, t, os⟩ _ _ := .alloc (tk := t) (o := emptyDict) (c := .idict [])
  have S2 := S1.alloc (tk := t) (o := instObj c hh.objs.size) (c := .inst c hh.objs.size []) ⟨#[], rfl, trivial⟩
  have a2 := a1.trans (.alloc (tk := t) (o := instObj c hh.objs.size) (c := .inst c hh.objs.size []))
  have hsz : (hh.push emptyDict).objs.size = hh.objs.size + 1 := Heap.size_push ..
  have hx0 : hh.get? (hh.objs.size + 1) = none := by
    cases e : hh.get? (hh.objs.size + 1) with
    | none => rfl
    | some o => have := Heap.lt_size e; exact absurd this (by simp)
  have hnb : C.h₀.get? (hh.objs.size + 1) = none := by
    cases e : C.h₀.get? (hh.objs.size + 1) with
    | none => rfl
    | some o => have := S.base _ _ e; dsimp only at this; rw [hx0] at this; cases this
  have hnH : H (hh.objs.size + 1) = none := by
    cases e : H (hh.objs.size + 1) with
    | none => rfl
    | some c => obtain ⟨_, o, ho, _⟩ := S.own _ _ e; dsimp only at ho; rw [hx0] at ho; cases ho
  dsimp only at S2 a2
  rw [hsz] at S2 a2
  have keep : ∀ b o, hh.get? b = some o → ((hh.push emptyDict).push (instObj c hh.objs.size)).get? b = some o := fun b o e => Heap.get?_push_of_some _ (Heap.get?_push_of_some _ e)
  refine codeAny_mono (h (hh.objs.size + 1) hh.objs.size rs rkw hnH S.fresh hnb S.freshb (Nat.succ_ne_self _) _ _ _ _ S2 (F.after a2) .con (.cons .ref (hv.keep (.of_keep keep))) (hk.keep (.of_keep keep))) ?_
  rintro r s' z
  cases r with
  | error e => exact z.elim
  | ok fl =>
    cases fl with
    | ret rv =>
      obtain ⟨v, H', hvr, S', a', rfl, q⟩ := z
      exact ⟨hvr.con_inv, .ref _, H', .ref, S', a2.trans a', q⟩
    | next => exact z.elim
    | brk => exact z.elim
    | cont => exact z.elim
theorem KP_cls {c : Addr} (B : Bs C.h₀ K mg mb) (hk : keepIn K (.ref c) = true) : KP C (.con (.ref c)) H := fun s rf S hf => by
  rw [hf.con_inv]
  obtain ⟨k, _, L⟩ := looks_keep (M := model C.prog C.w) hk (B.X.keeps S.base)
  exact ⟨k, L⟩
theorem ES_aug_attr {o : PySem.Expr} {op : Operator} {value : PySem.Expr} {p p' : Pos} {Q : Fl → Loc → CH → Prop}
    (h : EV C A o m H fun ov m₁ H₁ => O1 C A (fun r => getAttr r name true) ov m₁ H₁ fun old m₂ H₂ => EV C A value m₂ H₂ fun v m₃ H₃ => O2 C A (inplaceOp op) old v m₃ H₃ fun r m₄ H₄ => SA C A ov name r m₄ H₄ (Q .next)) :
    ES C A (.AugAssign (.Attribute o name p') op value p) m H Q := fun s S => by
  refine wpAny_AugAssign_AttributeAny (wpAny_mono (h s S) ?_ fun _ _ x => x)
  rintro ro s₁ ⟨ov, m₁, H₁, ho, S₁, af₁, h₁⟩
  refine wpAny_mono (h₁ s₁ ro S₁ ho) ?_ fun _ _ x => x
  rintro ra s₂ ⟨old, m₂, H₂, ha, S₂, af₂, h₂⟩
  refine wpAny_mono (h₂ s₂ S₂) ?_ fun _ _ x => x
  rintro rb s₃ ⟨v, m₃, H₃, hb, S₃, af₃, h₃⟩
  refine wpAny_mono (h₃ s₃ ra rb S₃ (ha.keep (af₃.tup S₂)) hb) ?_ fun _ _ x => x
  rintro rc s₄ ⟨u, m₄, H₄, hc, S₄, af₄, h₄⟩
  refine wpAny_mono (h₄ s₄ ro rc S₄ (((ho.keep (af₂.tup S₁)).keep (af₃.tup S₂)).keep (af₄.tup S₃)) hc) ?_ fun _ _ x => x
  rintro _ s₅ ⟨m₅, H₅, S₅, af₅, h₅⟩
  exact ⟨.next, m₅, H₅, rfl, S₅, ((((af₁.then S₁ af₂).then S₂ af₃).then S₃ af₄).then S₄ af₅), h₅⟩
theorem EV_named {t e : PySem.Expr} {p : Pos} (h : EV C A e m H fun v m₁ H₁ => ASG C A t v m₁ H₁ (Q v)) : EV C A (.NamedExpr t e p) m H Q := fun s S => by
  refine wpAny_NamedExpr (wpAny_mono (h s S) ?_ fun _ _ x => x)
  rintro r s₁ ⟨v, m₁, H₁, hv, S₁, af₁, h₁⟩
  refine wpAny_mono (h₁ s₁ r S₁ hv) ?_ fun _ _ x => x
  rintro _ s₂ ⟨m₂, H₂, S₂, af₂, h₂⟩
  exact ⟨v, m₂, H₂, hv.keep (af₂.tup S₁), S₂, af₁.then S₁ af₂, h₂⟩
end
end
end Mine
end
section
open PySem PySem.Calls PySem.W PyProof.Rows
set_option maxRecDepth 100000
namespace Mine
noncomputable section
section
variable {C : Cx} {A : Around} {m : Loc} {H : CH} {s : Shared} {K : Frag} {mg mb : Str → Option Value} {Q : V → Loc → CH → Prop} {name : Str}
inductive Spread (C : Cx) (H : CH) : V → List V → Prop
  | tup (xs : List V) : Spread C H (.tup xs) xs
  | list {l : Addr} {xs : List V} : LAt C H l xs → Spread C H (.ref l) xs
theorem Spread.star {v : V} {r : Value} {xs : List V} (q : Spread C H v xs) (hsz : xs.length ≤ sizeLine) (S : St C m H s) (hv : VR s.heap v r) {P : List Value → Shared → Prop}
    (h : ∀ rs h', VRs h' xs rs → (∀ b o, s.heap.get? b = some o → h'.get? b = some o) → P rs { s with heap := h' }) : StarOf (model C.prog C.w) A NoE r P s := by
  cases q with
  | tup =>
    obtain ⟨a, items, n, rfl, ho, hs⟩ := hv.tup_inv
    have hz : items.size ≤ sizeLine := by have := hs.length; simp at this; (first | lia | omega)
    unfold StarOf notIterableAtAll
    have hT : s.TypeIs (.ref a) "tuple" := ⟨_, ho, rfl⟩
    exact wpAny_bind (wpAny_specialOf hT PySem.F.slot_tuple_iter.lookup (wpAny_pure ⟨rfl, wpAny_collect_seq a (.inr rfl) ho rfl rfl (fun h' hk => h _ h' (hs.keep (.of_keep hk)) hk) hz⟩))
  | list hl =>
    rw [hv.ref_inv]
    obtain ⟨items, n, hL, hs, hz⟩ := S.toHS.list hl
    unfold StarOf notIterableAtAll
    exact wpAny_bind (wpAny_specialOf hL.isList.typeIs PySem.F.slot_list_iter.lookup (wpAny_pure ⟨rfl, wpAny_collect_seq _ (.inl rfl) hL rfl rfl (fun h' hk => h _ h' (hs.keep (.of_keep hk)) hk) (by (first | lia | omega))⟩))
theorem EV_methL {o e : PySem.Expr} {apos p p' : Pos}
    (h : EV C A o m H fun ov m₁ H₁ => O1 C A (fun r => getAttr r name true) ov m₁ H₁ fun f m₂ H₂ => EV C A e m₂ H₂ fun v m₃ H₃ => ∃ xs, Spread C H₃ v xs ∧ xs.length ≤ sizeLine ∧ KP C f H₃ ∧ CV C A f xs [] m₃ H₃ Q)
    (hb : ∀ whole, attributeBase o name C.env whole = whole := by intro _; with_unfolding_all rfl) :
    EV C A (.Call (.Attribute o name apos) [.Starred e p'] [] p) m H Q := fun s S => by
  have he : eval (.Call (.Attribute o name apos) [.Starred e p'] [] p) C.env = (do
      let ov ← attributeBase o name C.env (eval o C.env)
      standAt apos.atName
      methodCall o name apos p C.env ov (1 + 0) [(true, (do let v ← eval e C.env; standAt p; pure v))] []) := rfl
  rw [he, hb]
  refine wpAny_bind (wpAny_mono (h s S) ?_ fun _ _ x => x)
  rintro ro s₁ ⟨ov, m₁, H₁, vo, S₁, af₁, h₁⟩
  refine wpAny_bind (wpAny_standAt ?_)
  unfold methodCall
  refine wpAny_bind (wpAny_holding ?_)
  show wpAny _ _ (do pure (← getAttr ro name true, [])) _ _ s₁
  refine wpAny_bind (wpAny_mono (h₁ s₁ ro S₁ vo) ?_ fun _ _ x => x)
  rintro rf s₂ ⟨f, m₂, H₂, vf, S₂, af₂, h₂⟩
  refine wpAny_pure ?_
  refine wpAny_bind (m := methodCallPos false o C.env apos p) (wpAny_pure ?_)
  refine callWith_any (ks_lone (wpAny_mono (h₂ s₂ S₂) ?_ fun _ _ x => x))
  rintro r s₃ ⟨v, m₃, H₃, hv, S₃, af₃, xs, q, hsz, hk, h₃⟩
  refine q.star hsz S₃ hv fun rs h' hrs hkp => ?_
  have S₄ : St C m₃ H₃ { s₃ with heap := h' } := S₃.more (tk := s₃.toks) hkp
  have vf₄ : VR h' f rf := (vf.keep (af₃.tup S₂)).keep (.of_keep hkp)
  obtain ⟨k, L⟩ := hk _ rf S₄.toHS vf₄
  exact ⟨k, L, wpAny_mono (h₃ _ rf _ [] S₄ vf₄ hrs .nil) (fun _ _ x => x.mono S₄ (((af₁.then S₁ af₂).then S₂ af₃).then S₃ (.more (tk := s₃.toks) hkp))) fun _ _ x => x⟩
theorem CV_min2 {a b : Int} (hA : A.handled = none) (h : Q (.int (if b < a then b else a)) m H) : CV C A (.con (.builtin "min")) [.int a, .int b] [] m H Q := fun s rf rs rkw S hf hva hk => by
  have := hk.nil_inv; subst this
  rw [hf.con_inv]
  obtain ⟨x, y, rfl, hx, hy⟩ := two_inv hva
  obtain ⟨t, rfl⟩ := hx.int_inv; obtain ⟨u, rfl⟩ := hy.int_inv
  refine min_two_ints hA fun h' tk hkp => ⟨_, m, H, ?_, S.more (tk := tk) hkp, .more (tk := tk) hkp, h⟩
  split <;> exact .int
theorem CV_max2 {a b : Int} (hA : A.handled = none) (h : Q (.int (if b > a then b else a)) m H) : CV C A (.con (.builtin "max")) [.int a, .int b] [] m H Q := fun s rf rs rkw S hf hva hk => by
  have := hk.nil_inv; subst this
  rw [hf.con_inv]
  obtain ⟨x, y, rfl, hx, hy⟩ := two_inv hva
  obtain ⟨t, rfl⟩ := hx.int_inv; obtain ⟨u, rfl⟩ := hy.int_inv
  refine max_two_ints hA fun h' tk hkp => ⟨_, m, H, ?_, S.more (tk := tk) hkp, .more (tk := tk) hkp, h⟩
  split <;> exact .int
theorem CV_tuple_list {l : Addr} {xs : List V} (hl : LAt C H l xs) (hsz : xs.length ≤ sizeLine) (h : Q (.tup xs) m H) : CV C A (.con (.type "tuple")) [.ref l] [] m H Q := fun s rf rs rkw S hf hva hk => by
  have := hk.nil_inv; subst this
  rw [hf.con_inv]
  obtain ⟨x, rfl, hx⟩ := one_inv hva
  rw [hx.ref_inv]
  obtain ⟨items, n, hL, hs, hz⟩ := S.toHS.list hl
  refine call_tuple_list hL.isList (fun h' hk => ?_) (by (first | lia | omega))
  have k2 : ∀ b o, s.heap.get? b = some o → (h'.push { cls := .type "tuple", data := .seq items }).get? b = some o := fun b o e => Heap.get?_push_of_some _ (hk b o e)
  exact ⟨_, m, H, .tup (Heap.get?_push_size _ rfl) (hs.keep (.of_keep k2)), S.more (tk := s.toks) k2, .more (tk := s.toks) k2, h⟩
end
end
end Mine
end
section
open PySem PySem.Calls PySem.W PyProof.Rows
set_option maxRecDepth 100000
namespace Mine
noncomputable section
namespace LI
theorem slot_ga : Slot "list_iterator" "__getattribute__" "object.__getattribute__" :=
  .of (owner := "object") (n := "__getattribute__") (by rw [typeLookup_type, builtinLookup_eq_fast]; kernel_rfl) (by decide +kernel) (by decide +kernel) (by decide +kernel)
    (by first | exact .inl (by decide +kernel) | exact .inr (by decide +kernel)) (by rw [isSubtype_type]; kernel_rfl)
theorem entry_ga : entryFor table "object.__getattribute__" = some Builtin.«object.__getattribute__» := entryFor_of_tree (by kernel_rfl)
theorem args_ga (a b : Value) : argsOk "object.__getattribute__" ⟨[a, b], []⟩ := by unfold argsOk; kernel_rfl
theorem type_next : typeOf (.builtin "list_iterator.__next__") = pure (.type "wrapper_descriptor") := by show builtinType _ = _; rw [builtinType_eq_fast]; kernel_rfl
theorem slot_wget : Slot "wrapper_descriptor" "__get__" "wrapper_descriptor.__get__" :=
  .of (owner := "wrapper_descriptor") (n := "__get__") (by rw [typeLookup_type, builtinLookup_eq_fast]; kernel_rfl) (by decide +kernel) (by decide +kernel) (by decide +kernel)
    (by first | exact .inl (by decide +kernel) | exact .inr (by decide +kernel)) (by rw [isSubtype_type]; kernel_rfl)
theorem entry_wget : entryFor table "wrapper_descriptor.__get__" = some Builtin.«wrapper_descriptor.__get__» := entryFor_of_tree (by kernel_rfl)
theorem args_wget (a b c : Value) : argsOk "wrapper_descriptor.__get__" ⟨[a, b, c], []⟩ := by unfold argsOk; kernel_rfl
theorem no_wset : typeLookup (.type "wrapper_descriptor") "__set__" = pure none := by rw [typeLookup_type, builtinLookup_eq_fast]; kernel_rfl
theorem no_wdel : typeLookup (.type "wrapper_descriptor") "__delete__" = pure none := by rw [typeLookup_type, builtinLookup_eq_fast]; kernel_rfl
theorem sub_li : isSubtype (.type "list_iterator") (.type "list_iterator") = pure true := by rw [isSubtype_type]; kernel_rfl
theorem own_next : (".".intercalate ("list_iterator.__next__".cutAt '.').dropLast) = "list_iterator" := by decide +kernel
theorem sub_own : isSubtype (.type "list_iterator") (.type (".".intercalate ("list_iterator.__next__".cutAt '.').dropLast)) = pure true := by rw [own_next]; exact sub_li
end LI
noncomputable abbrev mwObj (I : Addr) : Obj := { cls := .type "method-wrapper", data := .fields #[.builtin "list_iterator.__next__", .ref I] }
section
variable {prog : Program} {w : World} {A : Around} {E : Value → Shared → Prop} {s : Shared}
theorem wget_raw {I : Addr} {h : Heap} {g : Array GenState} {d : Drawn} {t : Nat} {os : OsState} {R : Result → Shared → Prop} {o : Obj} (ho : h.get? I = some o) (hc : o.cls = .type "list_iterator") (hq : R (.ok (.ret (.ref h.objs.size))) ⟨h.push (mwObj I), g, d, t, os⟩) :
    codeAny (model prog w) A (.call (.builtin "wrapper_descriptor.__get__") ⟨[.builtin "list_iterator.__next__", .ref I, .type "list_iterator"], []⟩) R ⟨h, g, d, t, os⟩ := by
  have hT : (⟨h, g, d, t, os⟩ : Shared).TypeIs (.ref I) "list_iterator" := ⟨_, ho, hc⟩
  have hT5 : (⟨h, g, d, t, os⟩ : Shared).TypeIs (.builtin "list_iterator.__next__") "wrapper_descriptor" := LI.type_next
  have f8 := LI.sub_own
  refine codeAny_call_builtin LI.slot_wget.plain LI.entry_wget (LI.slot_wget.check _ _ _ _ _ _ _ _ hT5 (LI.args_wget _ _ _) ?_)
  repeat (any_goals (first | assumption | wp_step))
theorem ga_entry {I : Addr} {o : Obj} {h : Heap} {g : Array GenState} {d : Drawn} {t : Nat} {os : OsState} {tk : Tok} {Q : Fin → Shared → Prop} (ho : h.get? I = some o) (hc : o.cls = .type "list_iterator") (hd : o.dict = none) {vs : Array Value} (hv : o.data = .fields vs) (hq : Q (.done (.ret (.ref h.objs.size))) ⟨h.push (mwObj I), g, d, t, os⟩) :
    wpAny (model prog w) A (Builtin.«object.__getattribute__» ⟨[.ref I, .str "__next__" tk], []⟩) Q E ⟨h, g, d, t, os⟩ := by
  obtain ⟨oc, od, oda, osl⟩ := o
  dsimp only at hc hd hv
  subst hc hd hv
  have hT : (⟨h, g, d, t, os⟩ : Shared).TypeIs (.ref I) "list_iterator" := ⟨_, ho, rfl⟩
  have hT5 : (⟨h, g, d, t, os⟩ : Shared).TypeIs (.builtin "list_iterator.__next__") "wrapper_descriptor" := LI.type_next
  have f4 := slot_listiter_next.lookup
  have f5 := LI.type_next
  have f6 := LI.slot_wget.lookup
  have f7 := LI.no_wset
  have f8 := LI.no_wdel
  have f9 := LI.slot_wget.bind (.builtin "list_iterator.__next__")
  repeat (any_goals (first | assumption | wp_step))
  refine wget_raw ho rfl ?_
  repeat (any_goals (first | assumption | wp_step))
theorem ga_raw {I : Addr} {o : Obj} {h : Heap} {g : Array GenState} {d : Drawn} {t : Nat} {os : OsState} {Q : Value → Shared → Prop} (ho : h.get? I = some o) (hc : o.cls = .type "list_iterator") (hd : o.dict = none) {vs : Array Value} (hv : o.data = .fields vs) (hq : Q (.ref h.objs.size) ⟨h.push (mwObj I), g, d, t + 1, os⟩) :
    wpAny (model prog w) A (getAttr (.ref I) "__next__" true) Q E ⟨h, g, d, t, os⟩ := by
  obtain ⟨oc, od, oda, osl⟩ := o
  dsimp only at hc hd hv
  subst hc hd hv
  have hT : ∀ tk', (⟨h, g, d, tk', os⟩ : Shared).TypeIs (.ref I) "list_iterator" := fun _ => ⟨_, ho, rfl⟩
  have f3 := LI.slot_ga.lookup
  have f4 := LI.slot_ga.bind (.ref I)
  have f5 := slot_listiter_next.lookup
  unfold getAttr getAttrBy
  repeat (any_goals (first | assumption | exact hT _ | wp_step))
  refine codeAny_call_builtin LI.slot_ga.plain LI.entry_ga (LI.slot_ga.check _ _ _ _ _ _ _ _ (hT _) (LI.args_ga _ _) (ga_entry ho rfl rfl rfl ?_))
  repeat (any_goals (first | assumption | exact hT _ | wp_step))
end
end
end Mine
end
section
open PySem PySem.Calls PySem.W PyProof.Rows
set_option maxRecDepth 100000
namespace Mine
noncomputable section
noncomputable def CH.del (H : CH) (a : Addr) : CH := fun b => if b = a then none else H b
theorem CH.del_le {H : CH} {a : Addr} : (H.del a).Le H := fun b c e => by
  unfold CH.del at e; split at e
  · cases e
  · exact e
theorem CH.del_same {H : CH} {a : Addr} : H.del a a = none := by simp [CH.del]
theorem CH.del_ne {H : CH} {a b : Addr} (h : b ≠ a) : H.del a b = H b := by simp [CH.del, h]
/-- what hangs at an exception: nothing, or a trace that no frame has in flight -/
inductive Trc (C : Cx) (H : CH) (h h' : Heap) (e : Addr) (x : Value) : Prop
  | none (hx : x = .none) : Trc C H h h' e x
  | tb (T : Addr) (oT : Obj) (ts : Array Value) (hx : x = .ref T) (ho : h'.get? T = some oT) (hd : oT.data = .fields ts) (h3 : ts[3]? = some .none) (ni : ¬ Imm oT) (hn : h.get? T = Option.none) (hH : H T = Option.none) (hb : C.h₀.get? T = Option.none) (hne : T ≠ e) : Trc C H h h' e x
/-- a new exception of a class on its way, seen from where it began -/
inductive PE (C : Cx) (H : CH) (s : Shared) (cls : String) (R : Loc → CH → Prop) (ev : Value) (s' : Shared) : Prop
  | mk (e : Addr) (oe : Obj) (vs : Array Value) (x : Value) (m' : Loc) (H' : CH) (h1 : ev = .ref e) (h2 : s'.heap.get? e = some oe) (h3 : oe.cls = .type cls) (h4 : oe.data = .fields vs) (h5 : vs[1]? = some x) (ht : Trc C H' s.heap s'.heap e x) (h6 : ¬ Imm oe) (h7 : s.heap.get? e = none) (h8 : H' e = none) (h9 : C.h₀.get? e = none) (hS : St C m' H' s') (ha : After C H s H' s') (q : R m' H') : PE C H s cls R ev s'
theorem Trc.mono {C : Cx} {H : CH} {h₀ h h' : Heap} {e : Addr} {x : Value} (th : ∀ b o, h₀.get? b = some o → ∃ o', h.get? b = some o') (t : Trc C H h h' e x) : Trc C H h₀ h' e x := by
  cases t with
  | none hx => exact .none hx
  | tb T oT ts hx ho hd h3 ni hn hH hb hne =>
    refine .tb T oT ts hx ho hd h3 ni ?_ hH hb hne
    cases q : h₀.get? T with
    | none => rfl
    | some o => obtain ⟨o', e'⟩ := th T o q; rw [hn] at e'; cases e'
section
variable {C : Cx} {A : Around} {m : Loc} {H : CH} {s : Shared} {K : Frag} {mg mb : Str → Option Value} {Q : V → Loc → CH → Prop} {cls : String} {R : Loc → CH → Prop}
theorem PE.mono {m₁ : Loc} {H₁ : CH} {s₁ s₂ : Shared} {ev : Value} (S₁ : St C m₁ H₁ s₁) (a : After C H s H₁ s₁) (x : PE C H₁ s₁ cls R ev s₂) : PE C H s cls R ev s₂ := by
  obtain ⟨e, oe, vs, x, m', H', a1, a2, a3, a4, a5, tr, a6, a7, a8, a9, S', af, q⟩ := x
  refine ⟨e, oe, vs, x, m', H', a1, a2, a3, a4, a5, tr.mono a.there, a6, ?_, a8, a9, S', a.then S₁ af, q⟩
  cases h : s.heap.get? e with
  | none => rfl
  | some o => obtain ⟨o', e'⟩ := a.there e o h; rw [a7] at e'; cases e'
noncomputable def EVX (C : Cx) (A : Around) (e : PySem.Expr) (m : Loc) (H : CH) (Q : V → Loc → CH → Prop) (cls : String) (R : Loc → CH → Prop) : Prop := ∀ s, St C m H s → wpAny (model C.prog C.w) A (eval e C.env) (PV C H s Q) (PE C H s cls R) s
noncomputable def EXX (C : Cx) (A : Around) (b : List Stmt) (m : Loc) (H : CH) (Q : Fl → Loc → CH → Prop) (cls : String) (R : Loc → CH → Prop) : Prop := ∀ s, St C m H s → wpAny (model C.prog C.w) A (execs b C.env) (PF C H s Q) (PE C H s cls R) s
noncomputable def ESX (C : Cx) (A : Around) (st : Stmt) (m : Loc) (H : CH) (Q : Fl → Loc → CH → Prop) (cls : String) (R : Loc → CH → Prop) : Prop := ∀ s, St C m H s → wpAny (model C.prog C.w) A (exec st C.env) (PF C H s Q) (PE C H s cls R) s
noncomputable def CVX (C : Cx) (A : Around) (f : V) (vs : List V) (m : Loc) (H : CH) (Q : V → Loc → CH → Prop) (cls : String) (R : Loc → CH → Prop) : Prop := ∀ s rf rs, St C m H s → VR s.heap f rf → VRs s.heap vs rs → wpAny (model C.prog C.w) A (call rf rs []) (PV C H s Q) (PE C H s cls R) s
theorem EXX_cons {st : Stmt} {rest : List Stmt} {Q : Fl → Loc → CH → Prop} (h : ESX C A st m H (fun fl m₁ H₁ => match fl with | .next => EXX C A rest m₁ H₁ Q cls R | fl => Q fl m₁ H₁) cls R) : EXX C A (st :: rest) m H Q cls R := fun s S => by
  refine wpAny_execs_cons (wpAny_mono (h s S) ?_ fun _ _ x => x)
  rintro f s₁ ⟨fl, m₁, H₁, hf, S₁, af₁, h₁⟩
  cases fl with
  | next => cases hf; exact wpAny_mono (h₁ s₁ S₁) (fun _ _ x => x.mono S₁ af₁) fun _ _ x => x.mono S₁ af₁
  | brk => cases hf; exact ⟨.brk, m₁, H₁, rfl, S₁, af₁, h₁⟩
  | cont => cases hf; exact ⟨.cont, m₁, H₁, rfl, S₁, af₁, h₁⟩
  | ret v => obtain ⟨r, rfl, hr⟩ := hf; exact ⟨.ret v, m₁, H₁, ⟨r, rfl, hr⟩, S₁, af₁, h₁⟩
theorem EXX_of {b : List Stmt} {Q : Fl → Loc → CH → Prop} (h : EX C A b m H Q) : EXX C A b m H Q cls R := fun s S => wpAny_noRaise (h s S)
theorem ESX_assign {t e : PySem.Expr} {p : Pos} {Q : Fl → Loc → CH → Prop} (h : EVX C A e m H (fun v m₁ H₁ => ASG C A t v m₁ H₁ (Q .next)) cls R)
    (hs : swapsWithSole [t] e p.line C.env = pure false := by with_unfolding_all rfl) (hw : swappedStores [t] e C.env = pure none := by with_unfolding_all rfl) (ht : (assignEach [t] C.env).map (·.2) = [assign t C.env] := by with_unfolding_all rfl) : ESX C A (.Assign [t] e p) m H Q cls R := fun s S => by
  refine wpAny_Assign_stores (wpAny_mono (h s S) ?_ fun _ _ x => x) hs hw
  rintro a s₁ ⟨v, m₁, H₁, ra, S₁, af₁, h₁⟩
  rw [ht]
  refine wpAny_noRaise (wpAny_mono (h₁ s₁ a S₁ ra) ?_ fun _ _ x => x)
  rintro _ s₂ ⟨m₂, H₂, S₂, af₂, h₂⟩
  exact ⟨.next, m₂, H₂, rfl, S₂, af₁.then S₁ af₂, h₂⟩
theorem EVX_call {func : PySem.Expr} {args : List PySem.Expr} {p : Pos} (h : EV C A func m H fun f m₁ H₁ => EL C A args m₁ H₁ fun vs m₂ H₂ => KP C f H₂ ∧ CVX C A f vs m₂ H₂ Q cls R)
    (hst : NoLone C args := by intro _; with_unfolding_all rfl)
    (he : eval (.Call func args [] p) C.env = (do callWith p (← eval func C.env) [] (backTo p (starEach args C.env)) (backToKw p (keywordEach [] C.env))) := by with_unfolding_all rfl) : EVX C A (.Call func args [] p) m H Q cls R := fun s S => by
  rw [he]
  refine wpAny_bind (wpAny_noRaise (wpAny_mono (h s S) ?_ fun _ _ x => x))
  rintro rf s₁ ⟨f, m₁, H₁, vf, S₁, af₁, h₁⟩
  refine callWith_any (wpAny_noRaise (evalArgs_of h₁ (hst p) S₁ ?_))
  rintro rs s₂ ⟨vs, m₂, H₂, vr, S₂, af₂, hk, h₂⟩
  have vf₂ := vf.keep (af₂.tup S₁)
  obtain ⟨k, L⟩ := hk s₂ rf S₂.toHS vf₂
  exact ⟨k, L, wpAny_mono (h₂ s₂ rf rs S₂ vf₂ vr) (fun _ _ x => x.mono S₂ (af₁.then S₁ af₂)) fun _ _ x => x.mono S₂ (af₁.then S₁ af₂)⟩
theorem Imm.mw {I : Addr} : Imm (mwObj I) := ⟨rfl, .inl ⟨"method-wrapper", by decide, rfl⟩, (by intro _ _ e; cases e), (by intro _ e; cases e), (by intro _ _ _ e; cases e)⟩
theorem KP_mw {I : Addr} : KP C (.imm (mwObj I)) H := fun s rf S hf => by
  obtain ⟨_, a, rfl, ho⟩ := hf.imm_inv
  exact ⟨.machine, (Looks.ld (part := none) ho).andThen .now⟩
theorem HS.liter (S : HS C H s) {I l : Addr} {i : Nat} (h : H I = some (.liter l i)) : s.heap.get? I = some { cls := .type "list_iterator", data := .fields #[.ref l, .int i 0] } := by
  obtain ⟨_, o, ho, rfl⟩ := S.own I _ h; exact ho
theorem CV_iter {l : Addr} {xs : List V} (hl : LAt C H l xs) (h : ∀ I, H I = none → C.h₀.get? I = none → Q (.ref I) m (H.set I (.liter l 0))) : CV C A (.con (.builtin "iter")) [.ref l] [] m H Q := fun s rf rs rkw S hf hva hk => by
  have := hk.nil_inv; subst this
  rw [hf.con_inv]
  obtain ⟨x, rfl, hx⟩ := one_inv hva
  rw [hx.ref_inv]
  obtain ⟨items, n, hL, hs, hz⟩ := S.toHS.list hl
  refine call_function_entry (by decide +kernel) (by decide +kernel) kdk_entry_iter (kdk_args_iter _) ?_
  unfold Builtin.«iter»
  refine wpAny_bind (m := someArgs "iter" 1 2 _) (wpAny_of_eq (a := [Value.ref l]) (by first | rfl | kernel_rfl) ?_)
  show wpAny _ _ (pyIter (.ref l) >>= _) _ _ _
  refine wpAny_bind (wpAny_pyIter_list hL.isList ?_)
  exact wpAny_pure ⟨_, rfl, _, m, _, .ref, S.alloc (tk := s.toks) (c := .liter l 0) rfl, .alloc (tk := s.toks), h _ S.toHS.fresh S.toHS.freshb⟩
theorem GA_next {I l : Addr} {i : Nat} (hI : H I = some (.liter l i)) (h : Q (.imm (mwObj I)) m H) : O1 C A (fun r => getAttr r "__next__" true) (.ref I) m H Q := fun s r S hr => by
  rw [hr.ref_inv]
  have ho := S.toHS.liter hI
  obtain ⟨hh, g, d, t, os⟩ := s
  exact ga_raw ho rfl rfl rfl ⟨_, m, H, .imm .mw (Heap.get?_push_size _ rfl), S.more (tk := t + 1) (keep_push _ _), .more (tk := t + 1) (keep_push _ _), h⟩
theorem check_mw (I : Addr) : checkBoundCall "list_iterator.__next__" ⟨[.ref I], []⟩ = pure () := by first | kernel_rfl | rfl
theorem quiet_mw {as : Args} : (Code.builtin "list_iterator.__next__" as).quiet = true := Code.quiet_builtin _ (by decide +kernel)
theorem call_mw {I W : Addr} {E : Value → Shared → Prop} {Q : Value → Shared → Prop} (hW : s.heap.get? W = some (mwObj I))
    (h : wpAny (model C.prog C.w) A.in1 (Builtin.«list_iterator.__next__» ⟨[.ref I], []⟩) (fun fin s' => ∃ v, fin = .done (.ret v) ∧ Q v s') E s) :
    wpAny (model C.prog C.w) A (call (.ref W) []) Q E s := by
  refine wpAny_call (codeAny_of_tree ?_)
  show wpAny _ A.in1 (callAny (.ref W) ⟨[], []⟩) _ _ s
  simp only [callAny]
  refine wpAny_bind (wpAny_load hW ?_)
  simp only [show (Value.type "method-wrapper" == Value.type "method" || Value.type "method-wrapper" == Value.type "builtin_function_or_method" || Value.type "method-wrapper" == Value.type "method-wrapper") = true by decide, if_true]
  show wpAny _ A.in1 (if (Value.type "method-wrapper" != Value.type "method") = true then (do checkBoundCall "list_iterator.__next__" ⟨[.ref I], []⟩; again (.builtin "list_iterator.__next__" ⟨[.ref I], []⟩)) else _) _ _ s
  rw [if_pos (by decide), check_mw]
  refine wpAny_bind (wpAny_pure (wpAny_pure ⟨quiet_mw, codeAny_builtin entry_listiter_next ?_⟩))
  rw [show A.under (.builtin "list_iterator.__next__" ⟨[.ref I], []⟩) = A.in1 from Around.under_plainId (by decide +kernel) _]
  refine wpAny_mono h (fun fin s' ⟨v, e, q⟩ => ?_) fun _ _ x => x
  subst e; exact q
theorem CV_mw {I l : Addr} {i : Nat} {xs : List V} {x : V} (hI : H I = some (.liter l i)) (hl : LAt C H l xs) (hx : xs[i]? = some x) (h : Q x m (H.set I (.liter l (i + 1)))) : CV C A (.imm (mwObj I)) [] [] m H Q := fun s rf rs rkw S hf hva hk => by
  have := hk.nil_inv; subst this
  have := hva.nil_inv; subst this
  obtain ⟨_, W, rfl, hW⟩ := hf.imm_inv
  have ho := S.toHS.liter hI
  obtain ⟨items, n, hL, hvs, hz⟩ := S.toHS.list hl
  obtain ⟨r, hr, hvr⟩ := hvs.get hx
  have hr' : items[i]? = some r := by simpa using hr
  refine call_mw hW ?_
  show wpAny _ _ (field (.ref I) 0 >>= _) _ _ s
  refine wpAny_bind (wpAny_field ho rfl (x := .ref l) rfl ?_)
  show wpAny _ _ (if (Value.ref l == Value.none) = true then _ else _) _ _ s
  rw [if_neg (show ¬ ((Value.ref l == Value.none) = true) from Bool.false_ne_true)]
  show wpAny _ _ (field (.ref I) 1 >>= _) _ _ s
  refine wpAny_bind (wpAny_field ho rfl (x := .int i 0) rfl ?_)
  show wpAny _ _ (seqItems? (.ref l) >>= _) _ _ s
  refine wpAny_bind (wpAny_seqItems hL rfl ?_)
  simp only [Int.toNat_natCast, hr']
  refine wpAny_bind (wpAny_setField ho rfl (by simp) (wpAny_pure ⟨r, rfl, ?_⟩))
  have ho' := Heap.get?_update_self (Obj.mapFields (·.setIfInBounds 1 (rawInt ((i : Int) + 1)))) ho rfl
  exact PV.upd (tk := s.toks) (c' := .liter l (i + 1)) S hI (Heap.SameBut.update ..) ho' (by show _ = _; simp [Obj.mapFields, rawInt]) hvr h
/-- it is at its end: StopIteration, and the iterator is forgotten -/
theorem HS.fresh' {H' : CH} {s' : Shared} {a : Addr} (S' : HS C H' s') (h : s.heap.get? a = none) (S : St C m H s) (l : H'.Le H := by exact CH.del_le) : H' a = none := l.absent (by
  cases e : H a with
  | none => rfl
  | some c => obtain ⟨_, o, ho, _⟩ := S.own a c e; rw [h] at ho; cases ho)
theorem St.freshb' {a : Addr} (S : St C m H s) (h : s.heap.get? a = none) : C.h₀.get? a = none := by
  cases e : C.h₀.get? a with
  | none => rfl
  | some c => rw [S.base a c e] at h; cases h
theorem CVX_mw {I l : Addr} {i : Nat} {xs : List V} (hA : A.handled = none) (hI : H I = some (.liter l i)) (hl : LAt C H l xs) (hx : xs.length ≤ i) (h : R m (H.del I)) : CVX C A (.imm (mwObj I)) [] m H Q "StopIteration" R := fun s rf rs S hf hva => by
  have := hva.nil_inv; subst this
  obtain ⟨_, W, rfl, hW⟩ := hf.imm_inv
  have ho := S.toHS.liter hI
  obtain ⟨items, n, hL, hvs, hz⟩ := S.toHS.list hl
  have hr' : items[i]? = none := Array.getElem?_eq_none (by (first | lia | omega))
  refine call_mw hW ?_
  show wpAny _ _ (field (.ref I) 0 >>= _) _ _ s
  refine wpAny_bind (wpAny_field ho rfl (x := .ref l) rfl ?_)
  show wpAny _ _ (if (Value.ref l == Value.none) = true then _ else _) _ _ s
  rw [if_neg (show ¬ ((Value.ref l == Value.none) = true) from Bool.false_ne_true)]
  show wpAny _ _ (field (.ref I) 1 >>= _) _ _ s
  refine wpAny_bind (wpAny_field ho rfl (x := .int i 0) rfl ?_)
  show wpAny _ _ (seqItems? (.ref l) >>= _) _ _ s
  refine wpAny_bind (wpAny_seqItems hL rfl ?_)
  simp only [Int.toNat_natCast, hr']
  refine wpAny_bind (wpAny_rule (wpAny_bind (wpAny_setField ho rfl (by simp) ?_)))
  show wpAny _ _ (newExc (.type "StopIteration") [] >>= _) _ _ _
  refine wpAny_bind ?_
  simp only [newExc, newTuple]
  refine wpAny_bind (wpAny_newObj_type ?_ (by size_fits))
  refine wpAny_bind (m := firstArgMember _ _) (wpAny_of_eq (a := Value.none) (by first | rfl | (simp only [firstArgMember]; rfl)) ?_)
  refine wpAny_newObj_type ?_ (by size_fits)
  simp only [raiseNew]
  refine wpAny_bind (wpAny_handled ?_)
  rw [show A.in1.handled = none from hA]
  refine wpAny_bind (wpAny_pure (wpAny_throw ?_))
  have hu : Heap.SameBut I s.heap (s.heap.update I (Obj.mapFields (·.setIfInBounds 0 .none))) := Heap.SameBut.update ..
  have hb := (S.own I _ hI).1
  have ni : ¬ Imm ({ cls := .type "list_iterator", data := .fields #[.ref l, .int i 0] } : Obj) := not_imm_cls (T := "list_iterator") rfl (by decide) (by intro _ _ _ e; cases e; intro q; cases q)
  have ho2 := Heap.get?_update_self (Obj.mapFields (·.setIfInBounds 0 .none)) ho rfl
  generalize hh1 : s.heap.update I (Obj.mapFields (·.setIfInBounds 0 .none)) = h1 at hu ho2 ⊢
  have S1 : St C m (H.del I) { s with heap := h1 } := (S.less CH.del_le).hid (tk := s.toks) ho CH.del_same hb (by intro _ _ e; cases e) ni hu.extBut
  generalize hh2 : h1.push { cls := .type "tuple", data := .seq #[] } = h2
  have k2 : ∀ b o, h1.get? b = some o → h2.get? b = some o := fun b o e => by rw [← hh2]; exact Heap.get?_push_of_some _ e
  generalize hex : ({ cls := .type "StopIteration", data := .fields (#[.ref h1.objs.size, .none, .none, .none, .bool false, .none] ++ ownMembersOf (.type "StopIteration") []) } : Obj) = ex
  have k3 : ∀ b o, h1.get? b = some o → (h2.push ex).get? b = some o := fun b o e => Heap.get?_push_of_some _ (k2 b o e)
  have S3 : St C m (H.del I) { s with heap := h2.push ex } := S1.more (tk := s.toks) k3
  have hnone : s.heap.get? h2.objs.size = none := by
    cases e : s.heap.get? h2.objs.size with
    | none => rfl
    | some o =>
      have h1n : ∃ o', h1.get? h2.objs.size = some o' := by
        by_cases q : h2.objs.size = I
        · exact ⟨_, by rw [q]; exact ho2⟩
        · exact ⟨o, (hu.2 _ q).trans e⟩
      obtain ⟨o', e'⟩ := h1n
      exact absurd (Heap.lt_size (k2 _ _ e')) (Nat.lt_irrefl _)
  have hex1 : ex.isFreed = false := by rw [← hex]; rfl
  refine ⟨h2.objs.size, ex, _, _, m, H.del I, rfl, Heap.get?_push_size _ hex1, by rw [← hex], by rw [← hex], by rfl, .none rfl, ?_, hnone, S3.toHS.fresh' hnone S, S.freshb' hnone, S3, ?_, h⟩
  · rw [← hex]; exact not_imm_cls (T := "StopIteration") rfl (by decide) (by intro vs x t e; cases e; intro q; cases q)
  · refine ⟨fun b o hbl hn e => ?_, fun b o hn _ => CH.del_le.absent hn, fun b o e => ?_, rfl, rfl⟩
    · have hbI : b ≠ I := fun q => by subst q; rw [hn] at hI; cases hI
      exact ⟨o, k3 b o ((hu.2 b hbI).trans e), .refl o⟩
    · by_cases q : b = I
      · subst q; exact ⟨_, k3 b _ ho2⟩
      · exact ⟨o, k3 b o ((hu.2 b q).trans e)⟩
end
end
end Mine
end
section
open PySem PySem.Calls PySem.W PyProof.Rows
set_option maxRecDepth 100000
namespace Mine
noncomputable section
section
variable {C : Cx} {A : Around} {m : Loc} {H : CH} {s : Shared} {K : Frag} {mg mb : Str → Option Value} {cls : String} {R : Loc → CH → Prop}
noncomputable def framesOf (l : List Env) : List Addr := l.filterMap (·.frame)
theorem frames_fun {base h₀ : Heap} {h : Heap} : ∀ {l : List Env}, (∀ e ∈ l, FrameOk h₀ H h e) → (∀ a ∈ framesOf l, base.get? a = none) → h.FunFrames base l
  | [], _, _ => trivial
  | e :: l, F, hb => by
    obtain ⟨a1, a2, a3, f, o, es, ep, hf, ho, hd, hn, hb0⟩ := F e List.mem_cons_self
    refine ⟨by rw [a1]; decide, ⟨f, o, hf, hb f ?_, ho, fun vs q => by rw [hd] at q; cases q⟩, frames_fun (fun e' he => F e' (List.mem_cons_of_mem _ he)) fun a ha => hb a ?_⟩
    · unfold framesOf; rw [List.filterMap_cons, hf]; exact List.mem_cons_self
    · unfold framesOf at ha ⊢; rw [List.filterMap_cons, hf]; exact List.mem_cons_of_mem _ ha
theorem frames_mem {h₀ h : Heap} {l : List Env} (F : ∀ e ∈ l, FrameOk h₀ H h e) {a : Addr} (ha : a ∈ framesOf l) : ∃ o es ep, h.get? a = some o ∧ o.data = .dict es ep ∧ H a = none ∧ h₀.get? a = none := by
  unfold framesOf at ha
  obtain ⟨e, he, hf⟩ := List.mem_filterMap.mp ha
  obtain ⟨_, _, _, f, o, es, ep, hf', ho, hd, hn, hb⟩ := F e he
  rw [hf'] at hf; cases hf
  exact ⟨o, es, ep, ho, hd, hn, hb⟩
/-- what a station of an exception leaves: the exception and its trace at hand, all else as it was but for frames made ready -/
structure Stood (C : Cx) (e : Addr) (cls : Value) (s s' : Shared) : Prop where
  rest : ∀ b o, b ≠ e → b ∉ framesOf C.fr → s.heap.get? b = some o → s'.heap.get? b = some o
  frames : ∀ b, b ∈ framesOf C.fr → ∀ o, s.heap.get? b = some o → ∃ o', s'.heap.get? b = some o' ∧ o'.data = o.data
  same : s' = { s with heap := s'.heap }
  trace : ∃ oe vs T oT ts, s'.heap.get? e = some oe ∧ oe.cls = cls ∧ oe.data = .fields vs ∧ vs[1]? = some (.ref T) ∧ s.heap.get? T = none ∧ T ≠ e ∧ s'.heap.get? T = some oT ∧ oT.data = .fields ts ∧ ts[3]? = some .none ∧ ¬ Imm oT
theorem trace_not_imm {ts : Array Value} {L : Addr} (h : ts[1]? = some (.ref L)) : ¬ Imm { cls := .type "traceback", data := .fields ts } :=
  not_imm_cls (T := "traceback") rfl (by decide) (by intro vs x t e q; cases e; rw [h] at q; cases q)
theorem update_same {h : Heap} {a : Addr} {o : Obj} {f : Obj → Obj} (ho : h.get? a = some o) (hf : f o = o) : h.update a f = h := by
  obtain ⟨objs, l⟩ := h
  have hoo : objs[a]? = some o := by
    unfold Heap.get? at ho
    dsimp only at ho
    split at ho
    · cases ho
    · exact ho
  show Heap.mk (objs.modify a f) l = ⟨objs, l⟩
  congr 1
  apply Array.ext_getElem?
  intro i
  rw [Array.getElem?_modify]
  split
  · rename_i q; subst q; rw [hoo]; exact congrArg some hf
  · rfl
theorem note_first {E : Value → Shared → Prop} {Q : Unit → Shared → Prop} {outer : List Env} {e : Addr} {oe : Obj} {vs : Array Value} (hA : A.frames = some C.fr) (hfr : C.fr = C.env :: outer) (S : St C m H s) (he : s.heap.get? e = some oe) (hd : oe.data = .fields vs) {x : Value} (h1 : vs[1]? = some x) {hh : Heap} {H' : CH} (hx : Trc C H' hh s.heap e x)
    (h : ∀ s', Stood C e oe.cls s s' → Q () s') :
    wpAny (model C.prog C.w) A (noteFrame (.ref e) C.env) (fun _ s₂ => wpAny (model C.prog C.w) A (setFlight (.ref e) none) Q E s₂) E s := by
  have hef : e ∉ framesOf C.fr := fun q => by
    obtain ⟨o, es, ep, ho, hdd, _⟩ := frames_mem S.frs q
    rw [he] at ho; cases ho; rw [hd] at hdd; cases hdd
  have hb : ∀ a, a ∈ e :: framesOf C.fr → (hideAll s.heap (e :: framesOf C.fr)).get? a = none := fun a ha => hideAll_none _ ha
  have hl : s.heap.FunFrames (hideAll s.heap (e :: framesOf C.fr)) (C.env :: outer) := by
    rw [← hfr]; exact frames_fun S.frs fun a ha => hb a (List.mem_cons_of_mem _ ha)
  obtain ⟨_, _, _, f, o, es, ep, hf, ho, hdd, _, _⟩ := S.frs C.env (by rw [hfr]; exact List.mem_cons_self)
  unfold noteFrame
  simp only [hf]
  refine wpAny_bind (wpAny_field he hd h1 ?_)
  have main : wpAny (model C.prog C.w) A (frameOf C.env >>= fun fr => entryPlaceOf f (x != Value.none) >>= fun pl => EntryCells.newEntry x fr Value.none (rawInt f) Value.none pl >>= fun en => setField (.ref e) 1 en) (fun _ s₂ => wpAny (model C.prog C.w) A (setFlight (.ref e) none) Q E s₂) E s := by
    refine wpAny_bind (wpAny_frameOf_fun (by rw [hA, hfr]) hl hf fun h₁ hs₁ => ?_)
    rw [show (C.env :: outer).filterMap (·.frame) = framesOf C.fr from by rw [hfr]; rfl] at hs₁
    refine wpAny_bind (wpAny_entryPlaceOf fun pl hpl => ?_)
    unfold EntryCells.newEntry newFields
    refine wpAny_bind (wpAny_newObj_type ?_ (hpl.sizeOk5 _ _ _ _ _))
    generalize hts : ([x, Value.ref f, Value.none, rawInt f, Value.none] ++ (if pl.isEmpty then List.replicate 6 Value.none else pl)).toArray = ts
    have ts1 : ts[1]? = some (.ref f) := by rw [← hts]; simp
    have ts3 : 3 < ts.size := by rw [← hts]; simp
    have he₁ : h₁.get? e = some oe := (hs₁.2.1 e hef).trans he
    have he₂ := Heap.get?_push_of_some (h := h₁) { cls := .type "traceback", dict := none, data := .fields ts } he₁
    have hT₂ : (h₁.push { cls := .type "traceback", dict := none, data := .fields ts }).get? h₁.objs.size = some { cls := .type "traceback", dict := none, data := .fields ts } := Heap.get?_push_size h₁ rfl
    have hsz : 1 < vs.size := (Array.getElem?_eq_some_iff.mp h1).1
    have hTe : h₁.objs.size ≠ e := Nat.ne_of_gt (Heap.lt_size he₁)
    have hTn : s.heap.get? h₁.objs.size = none := by
      cases q : s.heap.get? h₁.objs.size with
      | none => rfl
      | some o => obtain ⟨sl, hs⟩ := hs₁.2.2 _ o q; exact absurd (Heap.lt_size hs) (Nat.lt_irrefl _)
    have low : ∀ b o, h₁.get? b = some o → b ≠ h₁.objs.size := fun b o hb => Nat.ne_of_lt (Heap.lt_size hb)
    generalize hh2 : h₁.push { cls := .type "traceback", dict := none, data := .fields ts } = h₂ at he₂ hT₂ ⊢
    have k2 : ∀ b o, h₁.get? b = some o → h₂.get? b = some o := fun b o hb => by rw [← hh2]; exact Heap.get?_push_of_some _ hb
    generalize h₁.objs.size = T at *
    refine wpAny_setField he₂ hd hsz ?_
    have hd₃ := Obj.data_mapFields hd (·.setIfInBounds 1 (Value.ref T))
    have he₃ := Heap.get?_update_self (Obj.mapFields (·.setIfInBounds 1 (Value.ref T))) he₂ (Obj.isFreed_of_fields hd₃)
    have hT₃ := (Heap.get?_update_other h₂ (Obj.mapFields (·.setIfInBounds 1 (Value.ref T))) (Ne.symm hTe)).trans hT₂
    unfold setFlight
    refine wpAny_bind (wpAny_field he₃ hd₃ (x := .ref T) (by simp [hsz]) ?_)
    rw [if_pos (show (Value.ref T != Value.none) = true from by simp)]
    refine wpAny_setField hT₃ rfl ts3 (h _ ?_)
    have keep : ∀ b o, b ≠ e → h₁.get? b = some o → ((h₂.update e (Obj.mapFields (·.setIfInBounds 1 (Value.ref T)))).update T (Obj.mapFields (·.setIfInBounds 3 ((none : Option Addr).elim Value.none fun f => rawInt f)))).get? b = some o := fun b o hbe hb => by
      rw [Heap.get?_update_other _ _ (Ne.symm (low b o hb)), Heap.get?_update_other _ _ (Ne.symm hbe)]
      exact k2 b o hb
    refine ⟨fun b o hbe hbf hbo => keep b o hbe ((hs₁.2.1 b hbf).trans hbo), fun b hbf o hbo => ?_, rfl, ?_⟩
    · obtain ⟨sl, hs⟩ := hs₁.2.2 b o hbo
      exact ⟨_, keep b _ (fun q => hef (q ▸ hbf)) hs, rfl⟩
    · have hT₄ := Heap.get?_update_self (Obj.mapFields (·.setIfInBounds 3 ((none : Option Addr).elim Value.none fun f => rawInt f))) hT₃ (Obj.isFreed_of_fields (Obj.data_mapFields rfl _))
      refine ⟨_, _, T, _, _, (Heap.get?_update_other _ _ hTe).trans he₃, Obj.cls_mapFields _ _, hd₃, by simp [hsz], hTn, hTe, hT₄, Obj.data_mapFields rfl _, by simp [ts3], ?_⟩
      have : Obj.mapFields (·.setIfInBounds 3 ((none : Option Addr).elim Value.none fun f => rawInt f)) { cls := .type "traceback", dict := none, data := .fields ts } = { cls := .type "traceback", dict := none, data := .fields (ts.setIfInBounds 3 .none) } := rfl
      rw [this]
      exact trace_not_imm (L := f) (by rw [Array.getElem?_setIfInBounds_ne (by decide)]; exact ts1)
  cases hx with
  | none q =>
    subst q
    rw [if_neg (by decide)]
    exact main
  | tb T oT ts q ho hd2 h3 ni hn hH hb hne =>
    subst q
    rw [if_pos (by simp)]
    refine wpAny_bind (wpAny_field ho hd2 h3 ?_)
    rw [if_neg (by simp [rawInt])]
    refine wpAny_bind (wpAny_setField ho hd2 (Array.getElem?_eq_some_iff.mp h3).1 ?_)
    rw [update_same ho (by
      obtain ⟨c, d, dt, sl⟩ := oT
      dsimp only at hd2
      subst hd2
      show Obj.mk c d (.fields (ts.setIfInBounds 3 .none)) sl = _
      congr 2
      apply Array.ext_getElem?
      intro i
      rw [Array.getElem?_setIfInBounds]
      split
      · rename_i q; subst q; rw [h3]; simp [(Array.getElem?_eq_some_iff.mp h3).1]
      · rfl)]
    exact main
theorem Stood.tup {e : Addr} {cls : Value} {s' : Shared} {oe : Obj} (x : Stood C e cls s s') (S : St C m H s) (he : s.heap.get? e = some oe) (ni : ¬ Imm oe) : TupKeep s.heap s'.heap := fun b o i hbo =>
  x.rest b o (fun q => by subst q; rw [he] at hbo; cases hbo; exact ni i) (fun q => by
    obtain ⟨o', es, ep, ho, hd, _⟩ := frames_mem S.frs q
    rw [hbo] at ho; cases ho; exact i.2.2.1 _ _ hd) hbo
theorem Stood.st {e : Addr} {cls : Value} {s' : Shared} {oe : Obj} (x : Stood C e cls s s') (S : St C m H s) (he : s.heap.get? e = some oe) (ni : ¬ Imm oe) (hH : H e = none) (hb : C.h₀.get? e = none) (nd : ∀ es ep, oe.data ≠ .dict es ep) : St C m H s' := by
  have tk := x.tup S he ni
  have nf : ∀ b c, H b = some c → b ∉ framesOf C.fr := fun b c e q => by
    obtain ⟨_, _, _, _, _, hn, _⟩ := frames_mem S.frs q
    rw [hn] at e; cases e
  have nb : ∀ b o, C.h₀.get? b = some o → b ∉ framesOf C.fr := fun b o e q => by
    obtain ⟨_, _, _, _, _, _, hn⟩ := frames_mem S.frs q
    rw [hn] at e; cases e
  have data : ∀ b o, b ≠ e → s.heap.get? b = some o → ∃ o', s'.heap.get? b = some o' ∧ o'.data = o.data := fun b o hbe hbo => by
    by_cases q : b ∈ framesOf C.fr
    · exact x.frames b q o hbo
    · exact ⟨o, x.rest b o hbe q hbo, rfl⟩
  refine ⟨⟨fun b o ho => x.rest b o (fun q => by subst q; rw [hb] at ho; cases ho) (nb b o ho) (S.base b o ho), fun b c hc => ?_, by rw [x.same]; exact S.gens⟩, ?_, S.loc, S.locb, ?_⟩
  · obtain ⟨h0, o, ho, r⟩ := S.own b c hc
    exact ⟨h0, o, x.rest b o (fun q => by subst q; rw [hH] at hc; cases hc) (nf b c hc) ho, r.keep tk⟩
  · obtain ⟨mr, ⟨o, es, ep, ho, hd, hk, hf⟩, kn⟩ := S.ns
    have hne : C.env.locals ≠ e := fun q => by rw [q, he] at ho; cases ho; exact nd _ _ hd
    obtain ⟨o', ho', hd'⟩ := data _ o hne ho
    exact ⟨mr, ⟨o', es, ep, ho', hd'.trans hd, hk, hf⟩, kn.keep tk⟩
  · exact S.frs.keep fun b o es ep _ hn hbo hd => by
      have hne : b ≠ e := fun q => by rw [q, he] at hbo; cases hbo; exact nd _ _ hd
      obtain ⟨o', ho', hd'⟩ := data b o hne hbo
      exact ⟨hn, o', ho', hd'⟩
theorem Stood.after {e : Addr} {cls : Value} {s₀ s' : Shared} {H₀ : CH} {oe : Obj} (x : Stood C e cls s s') (S : St C m H s) (he : s.heap.get? e = some oe) (a : After C H₀ s₀ H s) (hn : s₀.heap.get? e = none) : After C H₀ s₀ H s' := by
  have kin : ∀ b o, b ≠ e → s.heap.get? b = some o → ∃ o', s'.heap.get? b = some o' ∧ Kin o o' := fun b o hbe hbo => by
    by_cases q : b ∈ framesOf C.fr
    · obtain ⟨o', ho', hd'⟩ := x.frames b q o hbo
      obtain ⟨o'', es, ep, ho'', hd'', _⟩ := frames_mem S.frs q
      rw [hbo] at ho''; cases ho''
      exact ⟨o', ho', .inr ⟨⟨es, ep, hd''⟩, hd'⟩⟩
    · exact ⟨o, x.rest b o hbe q hbo, .refl o⟩
  refine ⟨fun b o hbl hb hbo => ?_, a.grow, fun b o hbo => ?_, ?_, ?_⟩
  · obtain ⟨o₁, e₁, k₁⟩ := a.stay b o hbl hb hbo
    obtain ⟨o₂, e₂, k₂⟩ := kin b o₁ (fun q => by subst q; rw [hn] at hbo; cases hbo) e₁
    exact ⟨o₂, e₂, k₁.trans k₂⟩
  · obtain ⟨o₁, e₁⟩ := a.there b o hbo
    obtain ⟨o₂, e₂, _⟩ := kin b o₁ (fun q => by subst q; rw [hn] at hbo; cases hbo) e₁
    exact ⟨o₂, e₂⟩
  · rw [x.same]; exact a.drawn
  · rw [x.same]; exact a.os
/-- try with one clause for a builtin class, without a name -/
theorem ES_try {body orelse suite : List Stmt} {b₀ : Stmt} {t : PySem.Expr} {p p' : Pos} {Q : Fl → Loc → CH → Prop} {outer : List Env} {T : String} (hA : A.frames = some C.fr) (hfr : C.fr = C.env :: outer)
    (hexc : isSubtype (.type T) (.type "BaseException") = pure true) (hnt : isSubtype (.type ((Manifest.find? T).elim "type" fun x => x.metatype)) (.type "tuple") = pure false) (hsub : isSubtype (.type cls) (.type T) = pure true)
    (h : EXX C A body m H (SeqE C A orelse Q) cls R)
    (ht : ∀ m' H' h', R m' H' → EV C (A.mark h') t m' H' fun v m₁ H₁ => v = .con (.type T) ∧ EX C (A.mark h') (b₀ :: suite) m₁ H₁ Q) :
    ES C A (.Try body [.ExceptHandler (some t) none (b₀ :: suite) p'] orelse [] p) m H Q := fun s S => by
  refine wpAny_Try_except (wpAny_mono (h s S) ?_ ?_)
  · rintro f s₁ ⟨fl, m₁, H₁, hf, S₁, af₁, h₁⟩
    cases fl with
    | next => cases hf; exact wpAny_mono (h₁ s₁ S₁) (fun _ _ x => x.mono S₁ af₁) fun _ _ x => x
    | brk => cases hf; exact ⟨.brk, m₁, H₁, rfl, S₁, af₁, h₁⟩
    | cont => cases hf; exact ⟨.cont, m₁, H₁, rfl, S₁, af₁, h₁⟩
    | ret v => obtain ⟨r, rfl, hr⟩ := hf; exact ⟨.ret v, m₁, H₁, ⟨r, rfl, hr⟩, S₁, af₁, h₁⟩
  · rintro ev s₁ ⟨e, oe, vs, x0, m₁, H₁, rfl, he, hc, hd, h1, tr, ni, hn, hH, hb, S₁, af₁, hR⟩
    refine note_first hA hfr S₁ he hd h1 tr fun s₂ x => ?_
    have S₂ := x.st S₁ he ni hH hb (by intro es ep q; rw [hd] at q; cases q)
    have af₂ := x.after S₁ he af₁ hn
    obtain ⟨oe', vs', Tb, oT, ts, g1, g2, g3, g4, g5, g6, g7, g8, g9, nT⟩ := x.trace
    have hTH : H₁ Tb = none := by
      cases q : H₁ Tb with
      | none => rfl
      | some c => obtain ⟨_, o, ho, _⟩ := S₁.own Tb c q; rw [g5] at ho; cases ho
    have hTb : C.h₀.get? Tb = none := by
      cases q : C.h₀.get? Tb with
      | none => rfl
      | some o => rw [S₁.base Tb o q] at g5; cases g5
    have hTn : s.heap.get? Tb = none := by
      cases q : s.heap.get? Tb with
      | none => rfl
      | some o => obtain ⟨o', e'⟩ := af₁.there Tb o q; rw [g5] at e'; cases e'
    have hTl : Tb ≠ C.env.locals := fun q => by obtain ⟨o, e'⟩ := S₁.at_loc; rw [← q, g5] at e'; cases e'
    have hel : e ≠ C.env.locals := fun q => by
      obtain ⟨mr, ⟨o, es, ep, ho, hd', _⟩, _⟩ := S₁.ns
      rw [← q, he] at ho; cases ho; rw [hd] at hd'; cases hd'
    rw [hc] at g2
    refine wpAny_handleBy_builtin (X := cls) (T := T) (b := true) hexc hnt hsub (wpAny_noRaise (wpAny_mono (ht m₁ H₁ _ hR s₂ S₂) ?_ fun _ _ x => x))
    rintro c s₃ ⟨v, m₃, H₃, hv, S₃, af₃, rfl, hx⟩
    obtain ⟨oe3, e3, k3⟩ := af₃.stay e oe' hel hH g1
    rw [k3.exact (by intro es ep q; rw [g3] at q; cases q)] at e3
    obtain ⟨oT3, eT3, kT3⟩ := af₃.stay Tb oT hTl hTH g7
    rw [kT3.exact (by intro es ep q; rw [g8] at q; cases q)] at eT3
    refine ⟨hv.con_inv, ⟨oe', e3, g2⟩, ?_⟩
    simp only [if_true]
    refine wpAny_setFlight_none e3 g3 g4 eT3 g8 (Array.getElem?_eq_some_iff.mp g9).1 ?_
    have hu : Heap.SameBut Tb s₃.heap (s₃.heap.update Tb (Obj.mapFields (·.setIfInBounds 3 .none))) := Heap.SameBut.update ..
    have S₄ : St C m₃ H₃ { s₃ with heap := s₃.heap.update Tb (Obj.mapFields (·.setIfInBounds 3 .none)) } :=
      S₃.hid (tk := s₃.toks) eT3 (af₃.grow Tb _ hTH g7) hTb (by intro es ep q; rw [g8] at q; cases q) nT hu.extBut
    have af₄ : After C H s H₃ { s₃ with heap := s₃.heap.update Tb (Obj.mapFields (·.setIfInBounds 3 .none)) } := (af₂.then S₂ af₃).hid (tk := s₃.toks) hTn hu.extBut
    exact wpAny_noRaise (wpAny_mono (hx _ S₄) (fun _ _ x => x.mono S₄ af₄) fun _ _ x => x)
end
end
end Mine
end
section
open PySem PySem.Calls PySem.W PyProof.Rows
set_option maxRecDepth 100000
namespace Mine
noncomputable section
section
variable {C : Cx} {A : Around} {m : Loc} {H : CH} {s : Shared} {K : Frag} {mg mb : Str → Option Value} {Q : V → Loc → CH → Prop}
noncomputable def BindsW (C : Cx) (H : CH) (fd : FuncData) (vs : List V) (kws binds : List (Str × V)) : Prop := ∀ (M : Model) (A : Around) (E : Value → Shared → Prop) (s : Shared) rs rkw (Q : List (Str × Value) → Shared → Prop), HS C H s → VRs s.heap vs rs → KWs s.heap kws rkw →
  (∀ rb h' tk, (∀ b o, s.heap.get? b = some o → h'.get? b = some o) → KWs h' binds rb → Q rb { s with heap := h', toks := tk }) → wpAny M A (bindArgs fd ⟨rs, rkw⟩) Q E s
theorem CALL_KW {f : Addr} {name qual : Str} {params : Arguments} {body : List Stmt} {scope : Scope} {cl : List (Str × Addr)} {dV kV doc pm cdv ct oc : Value} {an od : Option Addr} {osl : Array (Option Value)} {vs : List V} {kws binds : List (Str × V)} {m' : Loc} {Q : V → CH → Prop}
    (B : Bs C.h₀ K mg mb) (ho : K.lookup f = some ⟨oc, od, .func (fnX name qual params body scope cl dV kV doc pm an cdv ct), osl⟩) (hcd : codeIn K cdv qual = true) {n : Nat} (hA : AOK C A (n + 1))
    (hb : BindsW C H (fnX name qual params body scope cl dV kV doc pm an cdv ct) vs kws binds) (hok : (scope.names.all (fun x => x.2 != .cell) && binds.all (fun x => scope.names.lookup x.1 == some .local) && !scope.isCoroutine && !scope.isGenerator && scope.kind == .function) = true) (hm : m' = binds.reverse)
    (h : ∀ L, H L = none → C.h₀.get? L = none → AOK (C.at (callEnv (fnX name qual params body scope cl dV kV doc pm an cdv ct) L f)) (A.deeper (callEnv (fnX name qual params body scope cl dV kV doc pm an cdv ct) L f)) n → EX (C.at (callEnv (fnX name qual params body scope cl dV kV doc pm an cdv ct) L f)) (A.deeper (callEnv (fnX name qual params body scope cl dV kV doc pm an cdv ct) L f)) body m' H fun fl _ H' => Q (retOf fl) H') :
    CALL C A (.con (.ref f)) vs kws H Q := fun s rf rs rkw S F hf hv hkw => by
  simp only [Bool.and_eq_true, List.all_eq_true, Bool.not_eq_true', beq_iff_eq, bne_iff_ne] at hok
  obtain ⟨⟨⟨⟨hcell, hloc⟩, hco⟩, hgen⟩, hk⟩ := hok
  rw [hf.con_inv]
  refine codeAny_call_function hA.room (S.base _ _ (B.X _ _ ho)) rfl hco hgen rfl ((codeRec_of B.X hcd).keeps S.base) (hb _ _ _ s rs rkw _ S hv hkw fun rb h₁ tk₁ hk₁ hrb => ?_)
  have hloc' : ∀ x ∈ rb, scope.names.lookup x.1 = some .local := fun x hx => by
    have : x.1 ∈ binds.map (·.1) := hrb.1 ▸ List.mem_map_of_mem hx
    obtain ⟨y, hy, e⟩ := List.mem_map.mp this
    rw [← e]; exact hloc y hy
  have S₁ := S.more (tk := tk₁) hk₁
  refine wpAny_newFunctionEnv hcell hloc' (fun h₂ hns hsb => ⟨(B.lim.keeps S₁.base).fresh _ hsb, ?_⟩) hk
  have hk₂ : ∀ b o, h₁.get? b = some o → h₂.get? b = some o := fun b o e => hsb.extBut b o (Nat.ne_of_lt (Heap.lt_size e)) (Heap.get?_push_of_some _ e)
  have hk₃ : ∀ b o, s.heap.get? b = some o → h₂.get? b = some o := fun b o e => hk₂ b o (hk₁ b o e)
  dsimp only at hns hsb ⊢
  generalize hL : h₁.objs.size = L at *
  have hL0 : s.heap.get? L = none := by
    cases e : s.heap.get? L with
    | none => rfl
    | some o => have := Heap.lt_size (hk₁ _ _ e); rw [hL] at this; exact absurd this (Nat.lt_irrefl _)
  have hLb : C.h₀.get? L = none := by
    cases e : C.h₀.get? L with
    | none => rfl
    | some o => rw [S.base L o e] at hL0; cases hL0
  have hLH : H L = none := by
    cases e : H L with
    | none => rfl
    | some c => obtain ⟨_, o, ho', _⟩ := S.own L c e; rw [hL0] at ho'; cases ho'
  have S₂ : St (C.at (callEnv (fnX name qual params body scope cl dV kV doc pm an cdv ct) L f)) m' H { s with heap := h₂, toks := tk₁ + rb.length } := by
    refine ⟨(S.more hk₃).at, ⟨_, hns, fun x v e => ?_⟩, hLH, hLb, fun e he => ?_⟩
    · subst hm
      exact lookup_kws (hrb.rev.keep (.of_keep hk₂)) e
    · rcases List.mem_cons.mp he with rfl | he
      · obtain ⟨o', es, ep, ho', hd', _⟩ := hns
        exact ⟨hk, hgen, hco, _, o', es, ep, rfl, ho', hd', hLH, hLb⟩
      · exact F.keep (s' := { s with heap := h₂ }) (fun b o _ _ _ hn e _ => ⟨hn, o, hk₃ b o e, rfl⟩) e he
  refine codeAny_func (wpAny_noRaise (wpAny_mono (h L hLH hLb hA.at _ S₂) ?_ fun _ _ x => x))
  rintro fl s' ⟨f', m₂, H₂, hfl, T₂, af, q⟩
  have a : AfterC H s H₂ s' := (AfterC.more (tk := tk₁ + rb.length) hk₃).thenAt (C := C.at (callEnv (fnX name qual params body scope cl dV kV doc pm an cdv ct) L f)) af hL0
  cases f' with
  | ret v => obtain ⟨r, rfl, hr⟩ := hfl; exact ⟨v, H₂, hr, T₂.toHS.back, a, q⟩
  | next => cases hfl; exact ⟨V.none, H₂, .con, T₂.toHS.back, a, q⟩
  | brk => cases hfl; exact ⟨V.none, H₂, .con, T₂.toHS.back, a, q⟩
  | cont => cases hfl; exact ⟨V.none, H₂, .con, T₂.toHS.back, a, q⟩
/-- defaults that the text's top holds in a tuple -/
theorem BindsW.dflt {fd : FuncData} {vs : List V} {binds : List (Str × V)} {T : Addr} {items : List Value} {n : Nat} (B : Bs C.h₀ K mg mb) (hT : K.lookup T = some (seqObj "tuple" items.toArray n))
    (h : ∀ (h : Heap) rs, VRs h vs rs → ∃ (k : Option (Array Value) → Sem (List (Str × Value))) (rb : List (Str × Value)), bindArgs fd ⟨rs, []⟩ = (seqItems? (.ref T) >>= k) ∧ k (some items.toArray) = pure rb ∧ KWs h binds rb) : BindsW C H fd vs [] binds := fun M A E s rs rkw Q S hv hk hq => by
  have := hk.nil_inv; subst this
  obtain ⟨k, rb, e1, e2, e3⟩ := h s.heap rs hv
  rw [e1]
  refine wpAny_bind (wpAny_seqItems (S.base _ _ (B.X _ _ hT)) rfl ?_)
  rw [e2]
  exact wpAny_pure (hq rb s.heap s.toks (fun _ _ e => e) e3)
/-- a star's tuple, behind one name -/
theorem BindsW.star1 {fd : FuncData} {x y : Str} {v : V} {vs : List V} (hsz : vs.length ≤ sizeLine) (h : ∀ r rs, bindArgs fd ⟨r :: rs, []⟩ = (newTuple rs >>= fun t => pure [(x, r), (y, t)])) : BindsW C H fd (v :: vs) [] [(x, v), (y, .tup vs)] := fun M A E s rs rkw Q S hv hk hq => by
  have := hk.nil_inv; subst this
  obtain ⟨r, rs, rfl, a, b⟩ := hv.cons_inv
  rw [h]
  have hz : rs.length ≤ sizeLine := by rw [← b.length]; exact hsz
  unfold newTuple
  refine wpAny_bind (wpAny_newObj_type (wpAny_pure ?_) (by show rs.toArray.size ≤ sizeLine; simpa using hz))
  have k := keep_push s.heap (seqObj "tuple" rs.toArray 0)
  refine hq _ _ s.toks k ⟨rfl, .cons (a.keep (.of_keep k)) (.cons (.tup (Heap.get?_push_size _ rfl) (by rw [List.toList_toArray]; exact b.keep (.of_keep k))) .nil)⟩
theorem BindsW.star2 {fd : FuncData} {x y z : Str} {v w : V} {vs : List V} (hsz : vs.length ≤ sizeLine) (h : ∀ r q rs, bindArgs fd ⟨r :: q :: rs, []⟩ = (newTuple rs >>= fun t => pure [(x, r), (y, q), (z, t)])) : BindsW C H fd (v :: w :: vs) [] [(x, v), (y, w), (z, .tup vs)] := fun M A E s rs rkw Q S hv hk hq => by
  have := hk.nil_inv; subst this
  obtain ⟨r, rs, rfl, a, b⟩ := hv.cons_inv
  obtain ⟨q, rs, rfl, c, b⟩ := b.cons_inv
  rw [h]
  have hz : rs.length ≤ sizeLine := by rw [← b.length]; exact hsz
  unfold newTuple
  refine wpAny_bind (wpAny_newObj_type (wpAny_pure ?_) (by show rs.toArray.size ≤ sizeLine; simpa using hz))
  have k := keep_push s.heap (seqObj "tuple" rs.toArray 0)
  refine hq _ _ s.toks k ⟨rfl, .cons (a.keep (.of_keep k)) (.cons (c.keep (.of_keep k)) (.cons (.tup (Heap.get?_push_size _ rfl) (by rw [List.toList_toArray]; exact b.keep (.of_keep k))) .nil))⟩
variable {d : Addr} {kvs : List (Int × V)} {ep : Nat}
noncomputable def nxDict (d : Addr) (f : List (Int × V) → List V) (ep : Nat) (N : Nat) (H : CH) (i : Nat) : Option (Option V) := match H d with
  | some (.dict kvs ep') => if ep' = ep ∧ kvs.length = N then some (f kvs)[i]? else none
  | _ => none
theorem nxDict_inv {f : List (Int × V) → List V} {N : Nat} {i : Nat} {x : Option V} (h : nxDict d f ep N H i = some x) : ∃ kvs, H d = some (.dict kvs ep) ∧ kvs.length = N ∧ x = (f kvs)[i]? := by
  unfold nxDict at h
  split at h
  · rename_i kvs ep' e
    split at h
    · rename_i c; obtain ⟨rfl, c2⟩ := c; cases h; exact ⟨kvs, e, c2, rfl⟩
    · cases h
  · cases h
theorem raw_get {h : Heap} {kvs : List (Int × V)} {rs : List Value} (hr : VRs h (kvs.map (·.2)) rs) {i : Nat} {p : Int × V} (hp : kvs[i]? = some p) : ∃ r, (rawOf kvs rs)[i]? = some (p.1, r) ∧ VR h p.2 r := by
  obtain ⟨r, hr', hv⟩ := hr.get (i := i) (x := p.2) (by rw [List.getElem?_map, hp]; rfl)
  refine ⟨r, ?_, hv⟩
  unfold rawOf
  rw [List.getElem?_zip_eq_some]
  exact ⟨by rw [List.getElem?_map, hp]; rfl, hr'⟩
theorem raw_none {h : Heap} {kvs : List (Int × V)} {rs : List Value} (hr : VRs h (kvs.map (·.2)) rs) {i : Nat} (hp : kvs[i]? = none) : (rawOf kvs rs)[i]? = none := by
  rw [List.getElem?_eq_none_iff] at hp ⊢
  rw [raw_length hr]; exact hp
noncomputable abbrev keysOf (kvs : List (Int × V)) : List V := kvs.map fun p => .int p.1
noncomputable abbrev valsOf (kvs : List (Int × V)) : List V := kvs.map (·.2)
theorem prot_keys {I : Addr} {N : Nat} (hA : A.handled = none) (hne : d ≠ I) :
    Prot C A I (fun i _ o => o.cls = .type "dict_keyiterator" ∧ o.data = .fields #[.ref d, .int i 0, .int N 0, .int ep 0]) (nxDict d keysOf ep N) where
  plain := fun i _ o h e => not_imm_cls h.1 (by decide) (by intro vs x t e q; rw [h.2] at e; cases e; cases q) e
  nodict := fun i _ o es ep h e => by rw [h.2] at e; cases e
  kept := fun _ _ _ _ _ h => h
  item := fun H s i o v S hI ho hob hn => by
    obtain ⟨kvs, hd, rfl, hv⟩ := nxDict_inv hn
    obtain ⟨rs, hD, hrs⟩ := S.dict hd
    rw [List.getElem?_map] at hv
    obtain ⟨p, hp, rfl⟩ := Option.map_eq_some_iff.mp hv.symm
    obtain ⟨r, hr, _⟩ := raw_get hrs hp
    refine wpAny_pyNext_dict_item (knd := intKind C.prog C.w) (kvs := rawOf kvs rs) (by rw [raw_length hrs]; exact ⟨o, ho, hob.1, hob.2⟩) hD hr fun key h' hkey hit hs => ?_
    obtain ⟨t, rfl⟩ := Value.isInt_shape hkey
    rw [raw_length hrs] at hit
    obtain ⟨o', ho', hc', hd'⟩ := hit
    exact ⟨_, h', s.toks, o', rfl, rfl, .int, hs.extBut, ho', hc', hd'⟩
  done := fun H s i o S hI ho hob hn => by
    obtain ⟨kvs, hd, rfl, hv⟩ := nxDict_inv hn
    obtain ⟨rs, hD, hrs⟩ := S.dict hd
    have hp : kvs[i]? = none := by rw [List.getElem?_map] at hv; exact Option.map_eq_none_iff.mp hv.symm
    exact wpAny_pyNext_dict_end (knd := intKind C.prog C.w) (kvs := rawOf kvs rs) hA (by rw [raw_length hrs]; exact ⟨o, ho, hob.1, hob.2⟩) hD (raw_none hrs hp) fun h' he => ⟨h', s.toks, rfl, rfl, he⟩
  own := fun target v s i _ o Q ho hob h => letOwned_plain ho hob.1 (by decide) h
  self := fun s i _ o E Q ho hob h => wpAny_pyIter_keyiter (i := i) ⟨o, ho, hob.1, hob.2⟩ h
theorem seq_keys (B : Bs C.h₀ K mg mb) (hA : A.handled = none) (hd : H d = some (.dict kvs ep)) : SeqOf C A (.ref d) H (keysOf kvs) (fun H' => H' d = some (.dict kvs ep)) := by
  refine ⟨nxDict d keysOf ep kvs.length, fun s r S hr => ?_, fun H' i ok => ?_⟩
  · rw [hr.ref_inv]
    obtain ⟨rs, hD, hrs⟩ := S.dict hd
    refine wpAny_pyIter_dict (knd := intKind C.prog C.w) (B.sysm S hd) hD ?_
    rw [raw_length hrs]
    exact ⟨s.heap.objs.size, _, _, s.toks, _, rfl, rfl, keep_push _ _, size_none, Heap.get?_push_size _ rfl, ⟨rfl, rfl⟩, prot_keys hA (Nat.ne_of_lt hD.lt_size)⟩
  · unfold nxDict; rw [ok]; simp
theorem prot_vals {I : Addr} {N : Nat} (hA : A.handled = none) (hne : d ≠ I) :
    Prot C A I (fun i _ o => o.cls = .type "dict_valueiterator" ∧ o.data = .fields #[.ref d, .int i 0, .int N 0, .int ep 0]) (nxDict d valsOf ep N) where
  plain := fun i _ o h e => not_imm_cls h.1 (by decide) (by intro vs x t e q; rw [h.2] at e; cases e; cases q) e
  nodict := fun i _ o es ep h e => by rw [h.2] at e; cases e
  kept := fun _ _ _ _ _ h => h
  item := fun H s i o v S hI ho hob hn => by
    obtain ⟨kvs, hd, rfl, hv⟩ := nxDict_inv hn
    obtain ⟨rs, hD, hrs⟩ := S.dict hd
    rw [List.getElem?_map] at hv
    obtain ⟨p, hp, rfl⟩ := Option.map_eq_some_iff.mp hv.symm
    obtain ⟨r, hr, hvr⟩ := raw_get hrs hp
    refine wpAny_pyNext_values_item (knd := intKind C.prog C.w) (kvs := rawOf kvs rs) (by rw [raw_length hrs]; exact ⟨o, ho, hob.1, hob.2⟩) hD hr fun h' hit hs => ?_
    rw [raw_length hrs] at hit
    obtain ⟨o', ho', hc', hd'⟩ := hit
    exact ⟨_, h', s.toks, o', rfl, rfl, hvr.keep (tup_ext ho (fun e => not_imm_cls hob.1 (by decide) (by intro vs x t e q; rw [hob.2] at e; cases e; cases q) e) hs.extBut), hs.extBut, ho', hc', hd'⟩
  done := fun H s i o S hI ho hob hn => by
    obtain ⟨kvs, hd, rfl, hv⟩ := nxDict_inv hn
    obtain ⟨rs, hD, hrs⟩ := S.dict hd
    have hp : kvs[i]? = none := by rw [List.getElem?_map] at hv; exact Option.map_eq_none_iff.mp hv.symm
    exact wpAny_pyNext_values_end (knd := intKind C.prog C.w) (kvs := rawOf kvs rs) hA (by rw [raw_length hrs]; exact ⟨o, ho, hob.1, hob.2⟩) hD (raw_none hrs hp) fun h' he => ⟨h', s.toks, rfl, rfl, he⟩
  own := fun target v s i _ o Q ho hob h => letOwned_plain ho hob.1 (by decide) h
  self := fun s i _ o E Q ho hob h => wpAny_pyIter_valiter (i := i) ⟨o, ho, hob.1, hob.2⟩ h
noncomputable abbrev dvObj (d : Addr) : Obj := { cls := .type "dict_values", data := .fields #[.ref d] }
theorem Imm.dv : Imm (dvObj d) := ⟨rfl, .inl ⟨"dict_values", by decide, rfl⟩, (by intro _ _ e; cases e), (by intro _ e; cases e), (by intro _ _ _ e; cases e)⟩
theorem CV_values (B : Bs C.h₀ K mg mb) (hd : H d = some (.dict kvs ep)) (h : Q (.imm (dvObj d)) m H) : CV C A (.con (.builtin "dict.values")) [.ref d] [] m H Q := fun s rf rs rkw S hf hva hk => by
  have := hk.nil_inv; subst this
  rw [hf.con_inv]
  obtain ⟨a, rfl, ha⟩ := one_inv hva
  rw [ha.ref_inv]
  obtain ⟨rs, hD, hrs⟩ := S.toHS.dict hd
  exact call_meetsIn F.slot_dict_values hD.dictOf.typeIs F.entry_dict_values (F.args_dict_values_1 _) (meets_dict_values (intKind C.prog C.w) d (B.sysm S.toHS hd)) ⟨⟨_, hD.dictOf⟩, _, m, H, .imm .dv (Heap.get?_push_size _ rfl), S.more (tk := s.toks) (keep_push _ _), .more (tk := s.toks) (keep_push _ _), h⟩
theorem seq_vals (hA : A.handled = none) (hd : H d = some (.dict kvs ep)) : SeqOf C A (.imm (dvObj d)) H (valsOf kvs) (fun H' => H' d = some (.dict kvs ep)) := by
  refine ⟨nxDict d valsOf ep kvs.length, fun s r S hr => ?_, fun H' i ok => ?_⟩
  · obtain ⟨_, v, rfl, hv⟩ := hr.imm_inv
    obtain ⟨rs, hD, hrs⟩ := S.dict hd
    refine wpAny_pyIter_values (knd := intKind C.prog C.w) ⟨_, hv, rfl, rfl⟩ hD ?_
    rw [raw_length hrs]
    exact ⟨s.heap.objs.size, _, _, s.toks, _, rfl, rfl, keep_push _ _, size_none, Heap.get?_push_size _ rfl, ⟨rfl, rfl⟩, prot_vals hA (Nat.ne_of_lt hD.lt_size)⟩
  · unfold nxDict; rw [ok]; simp
end
end
end Mine
end
section
open PySem PySem.Calls PySem.W PyProof.Rows
set_option maxRecDepth 100000
namespace Mine
noncomputable section
section
variable {C : Cx} {A : Around} {m : Loc} {H : CH} {s : Shared} {K : Frag} {mg mb : Str → Option Value} {Q : V → Loc → CH → Prop}
theorem After.hid2 {H' : CH} {s' : Shared} (a : After C H s H' s') {I : Addr} (hI : H I ≠ none) {h' : Heap} {tk : Nat} (hs : Heap.ExtBut I s'.heap h') {o : Obj} (ho : h'.get? I = some o) : After C H s H' { s' with heap := h', toks := tk } where
  stay := fun b o hb hn e => let ⟨o', e', k⟩ := a.stay b o hb hn e; ⟨o', hs b o' (fun q => by subst q; exact hI hn) e', k⟩
  grow := a.grow
  there := fun b o' e => by
    obtain ⟨o₁, e₁⟩ := a.there b o' e
    by_cases q : b = I
    · subst q; exact ⟨o, ho⟩
    · exact ⟨o₁, hs b o₁ q e₁⟩
  drawn := a.drawn
  os := a.os
theorem pyNext_end {E : Value → Shared → Prop} {I l : Addr} {i : Nat} {items : Array Value} {Q : Option Value → Shared → Prop} (hA : A.handled = none) (hit : s.heap.IsListIter I l i) (hl : s.heap.IsList l items) (hx : items[i]? = none)
    (hQ : ∀ h' o', Heap.ExtBut I s.heap h' → h'.get? I = some o' → Q none { s with heap := h' }) : wpAny (model C.prog C.w) A (pyNext (.ref I)) Q E s := by
  obtain ⟨o, ho, hc, hd⟩ := id hit
  obtain ⟨ol, hol, _, nl, hdl⟩ := hl
  unfold pyNext
  refine wpAny_bind (wpAny_attempt (wpAny_callSpecial?_slot (name := Str.ofString "__next__") hit.typeIs slot_listiter_next (wpAny_call_entry slot_listiter_next hit.typeIs entry_listiter_next ?_ (args_listiter_next _))))
  show wpAny _ _ (field (.ref I) 0 >>= _) _ _ s
  refine wpAny_bind (wpAny_field ho hd (x := .ref l) rfl ?_)
  show wpAny _ _ (if (Value.ref l == Value.none) = true then _ else _) _ _ s
  rw [if_neg (show ¬ ((Value.ref l == Value.none) = true) from Bool.false_ne_true)]
  show wpAny _ _ (field (.ref I) 1 >>= _) _ _ s
  refine wpAny_bind (wpAny_field ho hd (x := .int i 0) rfl ?_)
  show wpAny _ _ (seqItems? (.ref l) >>= _) _ _ s
  refine wpAny_bind (wpAny_seqItems hol hdl ?_)
  simp only [Int.toNat_natCast, hx]
  refine wpAny_bind (wpAny_rule (wpAny_bind (wpAny_setField ho hd (by simp) ?_)))
  show wpAny _ _ (newExc (.type "StopIteration") [] >>= _) _ _ _
  refine wpAny_bind ?_
  simp only [newExc, newTuple]
  refine wpAny_bind (wpAny_newObj_type ?_ (by size_fits))
  refine wpAny_bind (m := firstArgMember _ _) (wpAny_of_eq (a := Value.none) (by first | rfl | (simp only [firstArgMember]; rfl)) ?_)
  refine wpAny_newObj_type ?_ (by size_fits)
  simp only [raiseNew]
  refine wpAny_bind (wpAny_handled ?_)
  rw [show A.in1.handled = none from hA]
  refine wpAny_bind (wpAny_pure (wpAny_throw ?_))
  refine wpAny_bind (wpAny_isInstance (T := "StopIteration") (b := true) ⟨_, Heap.get?_push_size _ rfl, rfl⟩ isSubtype_stop ?_)
  have ho2 := Heap.get?_update_self (Obj.mapFields (·.setIfInBounds 0 .none)) ho (Obj.isFreed_of_fields (Obj.data_mapFields hd _))
  exact wpAny_pure (hQ _ _ (((Heap.SameBut.update ..).extBut.push _).push _) (Heap.get?_push_of_some _ (Heap.get?_push_of_some _ ho2)))
theorem ES_for_own {target : PySem.Expr} {x : Str} {px : Pos} {body orelse : List Stmt} {p : Pos} {Q : Fl → Loc → CH → Prop} {I : Addr} {c : CObj} {ob : Nat → Heap → Obj → Prop} {nx : CH → Nat → Option (Option V)} {i₀ N : Nat} (P : Prot C A I ob nx)
    (done : ∀ H s i o, HS C H s → H I = none → s.heap.get? I = some o → ob i s.heap o → nx H i = some none → wpAny (model C.prog C.w) A (pyNext (.ref I)) (fun r s' => DoneR I s r s' ∧ ∃ o', s'.heap.get? I = some o') NoE s)
    (hm : m.lookup x = some (.ref I)) (hI : H I = some c) (hob : ∀ s, HS C H s → ∃ o, s.heap.get? I = some o ∧ ob i₀ s.heap o) (m₂ : Loc) (J : Nat → Loc → CH → Prop) (hsub : Sub m₂ m) (h0 : J i₀ m₂ (H.del I))
    (turn : ∀ i m H, J i m H → i ≤ N ∧ ((∃ v, nx H i = some (some v) ∧ ASG C A target v m H fun m' H' => EX C A body m' H' (Turn Q (NextJ J (i + 1)))) ∨ (nx H i = some none ∧ EX C A orelse m H Q)))
    (hs : ∀ y, foldedSetIterable (.Name x px) C.env y = pure y := by intro _; with_unfolding_all rfl)
    (hk : C.env.scope.kind = .function := by with_unfolding_all rfl) (hl : C.env.kindOf x = some .local := by with_unfolding_all rfl) (hd : (x == ("__debug__" : Str)) = false := by decide) : ES C A (.For target (.Name x px) body orelse p) m H Q := fun s S => by
  obtain ⟨o0, ho0, hb0⟩ := hob s S.toHS
  have hIb := (S.own I _ hI).1
  have hIl : I ≠ C.env.locals := fun e => by have := S.loc; rw [← e, hI] at this; cases this
  obtain ⟨mr, r, hn, hr, hv⟩ := S.known hm
  obtain rfl := hv.ref_inv
  refine wpAny_For (wpAny_Name (wpAny_loadName_local hk hl hn hr ?_) hd) hs
  refine P.self s i₀ s.heap _ _ _ ho0 hb0 ?_
  have hIne : H I ≠ none := by rw [hI]; simp
  refine for_core P hIl hIb (fun a he ho => a.hid2 hIne he ho) (fun m' H' s' i o S' a hI ho hob hn => wpAny_mono (done H' s' i o S'.toHS hI ho hob hn) ?_ fun _ _ x => x) turn (fun _ _ x => x) (k := N + 1 - i₀)
    ⟨i₀, m₂, H.del I, o0, rfl, (S.less CH.del_le).sub hsub, ⟨fun b o _ _ e => ⟨o, e, .refl o⟩, fun b o hn _ => CH.del_le.absent hn, fun b o e => ⟨o, e⟩, rfl, rfl⟩, CH.del_same, ho0, hb0, h0⟩
  rintro r s'' ⟨⟨h4, tk4, rfl, rfl, he⟩, o', ho'⟩
  exact ⟨⟨h4, tk4, rfl, rfl, he⟩, a.hid2 hIne he ho'⟩
theorem O2_is_mark {v : V} {y : Addr} {oy : Obj} (hy : C.h₀.get? y = some oy) (hc : oy.cls ≠ .type "tuple") (hv : (∃ i, v = .int i) ∨ v = V.none ∨ (∃ a c, v = .ref a ∧ H a = some c) ∨ ∃ l, v = .tup l) (h : Q (.bool false) m H) : O2 C A (compareOp .Is) v (.con (.ref y)) m H Q := fun s r q S hr hq => by
  rw [hq.con_inv]
  have key : ∀ a o, a ≠ y → s.heap.get? a = some o → wpAny (model C.prog C.w) A (compareOp .Is (.ref a) (.ref y)) (PV C H s Q) NoE s := fun a o hne ho => by
    show wpAny _ A (do return Value.bool (← isSame (.ref a) (.ref y))) _ _ s
    exact wpAny_bind (SeqAt.wpAny_isSame_ref_other' hne ho (S.base _ _ hy) hc (wpAny_pure (.here S .con h)))
  rcases hv with ⟨i, rfl⟩ | rfl | ⟨a, c, rfl, ha⟩ | ⟨l, rfl⟩
  · obtain ⟨t, rfl⟩ := hr.int_inv
    exact wpAny_is_other rfl (by intro e; cases e) (.here S .con h)
  · rw [hr.con_inv]
    exact wpAny_is_other rfl (by intro e; cases e) (.here S .con h)
  · rw [hr.ref_inv]
    obtain ⟨hb, o, ho, _⟩ := S.own a c ha
    exact key a o (fun e => by rw [e, hy] at hb; cases hb) ho
  · obtain ⟨a, items, n, rfl, ho, _⟩ := hr.tup_inv
    exact key a _ (fun e => by have := S.base _ _ hy; rw [← e, ho] at this; cases this; exact hc rfl) ho
theorem EV_or {x y : PySem.Expr} {p : Pos} (h : EV C A x m H fun v m₁ H₁ => OB C A truthy v m₁ H₁ fun b m₂ H₂ => (b = true → Q v m₂ H₂) ∧ (b = false → EV C A y m₂ H₂ Q)) : EV C A (.BoolOp .Or [x, y] p) m H Q := fun s S => by
  refine BoolOp_or (wpAny_mono (h s S) ?_ fun _ _ x => x)
  rintro r s₁ ⟨v, m₁, H₁, hv, S₁, af₁, h₁⟩
  refine wpAny_mono (h₁ s₁ r S₁ hv) ?_ fun _ _ x => x
  rintro b s₂ ⟨m₂, H₂, S₂, af₂, h₂⟩
  cases b with
  | true => exact ⟨v, m₂, H₂, hv.keep (af₂.tup S₁), S₂, af₁.then S₁ af₂, h₂.1 rfl⟩
  | false => exact BoolOp_one (wpAny_mono (h₂.2 rfl s₂ S₂) (fun _ _ x => x.mono S₂ (af₁.then S₁ af₂)) fun _ _ x => x)
theorem OB_none {Q : Bool → Loc → CH → Prop} (h : Q false m H) : OB C A truthy V.none m H Q := fun s r S hr => by
  rw [hr.con_inv]; exact wpAny_pure (.here S h)
theorem meets_bool_new_list (l : Addr) (items : Array Value) (n : Nat) (hz : items.size ≤ sizeLine) : Meets (Builtin.«bool.__new__» ⟨[.type "bool", .ref l], []⟩) (fun _ R s => IsL s.heap l items n ∧ ∀ tk, R (.ok (.ret (.bool (!items.isEmpty)))) { s with toks := tk }) :=
  Meets.of_wp fun prog w A R s hs => by
    obtain ⟨hp, g, d, tk, os⟩ := s
    have f1 := F.conv_sub_bool
    have hb : (items.size : Int) < 2 ^ 63 := by unfold sizeLine at hz; (first | lia | omega)
    have ht : ∀ {A' : Around} {E' : Value → Shared → Prop} {tk' : Nat} {Q' : Bool → Shared → Prop}, Q' (!items.isEmpty) ⟨hp, g, d, tk' + 1 + 1, os⟩ → wpAny (model prog w) A' (truthy (.ref l)) Q' E' ⟨hp, g, d, tk', os⟩ := fun {_ _ _ _} q => wpAny_truthy_list (s := ⟨hp, g, d, _, os⟩) hs.1.isList hb q
    repeat (any_goals (first | assumption | with_reducible apply ht | wp_step))
    all_goals exact ⟨_, rfl, hs.2 _⟩
theorem CV_bool_list {l : Addr} {xs : List V} (hl : LAt C H l xs) (hsz : xs.length ≤ sizeLine) (h : Q (.bool (!xs.isEmpty)) m H) : CV C A (.con (.type "bool")) [.ref l] [] m H Q := fun s rf rs rkw S hf hva hk => by
  have := hk.nil_inv; subst this
  rw [hf.con_inv]
  obtain ⟨x, rfl, hx⟩ := one_inv hva
  rw [hx.ref_inv]
  obtain ⟨items, n, hL, hs, hz⟩ := S.toHS.list hl
  have he : items.isEmpty = xs.isEmpty := by
    cases xs with
    | nil => simp at hz; simp [hz]
    | cons => simp at hz; simp; intro e; simp [e] at hz
  refine call_bool_1 (meets_bool_new_list l items n (by (first | lia | omega))) ⟨hL, fun tk => ⟨?_, ?_⟩⟩
  · exact PySem.typeIs_bool _ _
  · rw [he]; exact .same S .con h _
theorem ES_assign2 {t u e : PySem.Expr} {p : Pos} {Q : Fl → Loc → CH → Prop} (h : EV C A e m H fun v m₁ H₁ => ASG C A t v m₁ H₁ fun m₂ H₂ => ASG C A u v m₂ H₂ (Q .next))
    (hs : swapsWithSole [t, u] e p.line C.env = pure false := by with_unfolding_all rfl) (hw : swappedStores [t, u] e C.env = pure none := by with_unfolding_all rfl) (ht : (assignEach [t, u] C.env).map (·.2) = [assign t C.env, assign u C.env] := by with_unfolding_all rfl) : ES C A (.Assign [t, u] e p) m H Q := fun s S => by
  refine wpAny_Assign_stores (wpAny_mono (h s S) ?_ fun _ _ x => x) hs hw
  rintro a s₁ ⟨v, m₁, H₁, ra, S₁, af₁, h₁⟩
  rw [ht]
  refine wpAny_bind (wpAny_holding (wpAny_mono (h₁ s₁ a S₁ ra) ?_ fun _ _ x => x))
  rintro _ s₂ ⟨m₂, H₂, S₂, af₂, h₂⟩
  refine wpAny_mono (h₂ s₂ a S₂ (ra.keep (af₂.tup S₁))) ?_ fun _ _ x => x
  rintro _ s₃ ⟨m₃, H₃, S₃, af₃, h₃⟩
  exact ⟨.next, m₃, H₃, rfl, S₃, (af₁.then S₁ af₂).then S₂ af₃, h₃⟩
end
end
end Mine
end
section
open PySem PySem.Calls PySem.W PyProof.Rows
set_option maxRecDepth 100000
namespace Mine
noncomputable section
section
variable {C : Cx} {A : Around} {m : Loc} {H : CH}
theorem ASGs_cons {t : PySem.Expr} {ts : List PySem.Expr} {v : V} {vs : List V} {Q : Loc → CH → Prop} (h : ASG C A t v m H fun m₁ H₁ => ASGs C A ts vs m₁ H₁ Q) : ASGs C A (t :: ts) (v :: vs) m H Q := h
theorem ASGs_nil {Q : Loc → CH → Prop} (h : Q m H) : ASGs C A [] [] m H Q := h
theorem ETs_nil {Q : Bool → Loc → CH → Prop} (h : Q true m H) : ETs C A [] m H Q := h
theorem ETs_cons {c : PySem.Expr} {cs : List PySem.Expr} {Q : Bool → Loc → CH → Prop} (h : EB C A c m H fun b m₁ H₁ => (b = true → ETs C A cs m₁ H₁ Q) ∧ (b = false → Q false m₁ H₁)) : ETs C A (c :: cs) m H Q := h
end
end
end Mine
end
section
open PySem PySem.Calls PySem.W PyProof.Rows
set_option maxRecDepth 100000
namespace Mine
noncomputable section
section
variable {C : Cx} {A : Around} {m : Loc} {H : CH} {s : Shared} {Q : V → Loc → CH → Prop}
theorem fold_cat {α : Type} : ∀ (k : Nat) (acc items : Array α), (List.foldl (fun x1 x2 => x1 ++ x2) acc (List.replicate k items)).toList = acc.toList ++ (List.replicate k items.toList).flatten
  | 0, acc, items => by simp
  | k + 1, acc, items => by
    rw [List.replicate_succ, List.foldl_cons, fold_cat k, Array.toList_append, List.replicate_succ, List.flatten_cons, List.append_assoc]
theorem VRs.times {h : Heap} {vs : List V} {rs : List Value} (r : VRs h vs rs) : ∀ k : Nat, VRs h (List.replicate k vs).flatten (List.replicate k rs).flatten
  | 0 => .nil
  | k + 1 => by rw [List.replicate_succ, List.replicate_succ, List.flatten_cons, List.flatten_cons]; exact r.append (VRs.times r k)
theorem O2_mul_list {l : Addr} {xs : List V} {n : Int} (hl : LAt C H l xs) (hn : n < 2 ^ 63) (h0 : 0 ≤ n) (hsz : xs.length * n.toNat ≤ sizeLine) (h : ∀ a, H a = none → Q (.ref a) m (H.set a (.list (List.replicate n.toNat xs).flatten))) : O2 C A (binaryOp .Mult) (.ref l) (.int n) m H Q := fun s r q S hr hq => by
  rw [hr.ref_inv]; obtain ⟨u, rfl⟩ := hq.int_inv
  obtain ⟨items, k, hI, hvs, hz⟩ := S.toHS.list hl
  have hsz' : items.size * n.toNat ≤ 2 ^ 24 := by rw [hz]; exact hsz
  have hI' : s.heap.get? l = some { cls := .type "list", dict := none, data := .seq items k, slots := #[] } := hI
  refine wpAny_binaryOp_repeat_ref (T := "list") (U := "int") (by decide) ⟨_, hI', rfl⟩ (fun s' => typeIs_int s' n u) noFill_list_mul F.fills_int_mul F.slot_int_rmul repeat_list F.slot_int_index.lookup
    (call_meets F.slot_int_rmul (typeIs_int s n u) F.entry_int_rmul (F.args_int_rmul_2 _ _) (int___rmul___int_list n u l items k)
      ⟨hI', rfl, ⟨_, hI', rfl⟩, call_meets F.slot_list_mul ⟨_, hI', rfl⟩ F.entry_list_mul (F.args_list_mul_2 _ _)
        (AutoListH.list___mul___list_int_3 l items k n u (by simp [Builtin.List.listFitsIndex]; (first | lia | omega)) (by (first | lia | omega)) (by simp [Builtin.List.listTooLong, sizeLine]; (first | lia | omega)))
        ⟨hI', ?_⟩⟩)
  have e : (List.foldl (fun x1 x2 => x1 ++ x2) #[] (List.replicate (if items.isEmpty = true then 0 else n.toNat) items)).toList = (List.replicate n.toNat items.toList).flatten := by
    rw [fold_cat]
    by_cases he : items.isEmpty = true
    · have : items.toList = [] := by simpa using he
      rw [if_pos he, this]; simp
    · rw [if_neg he]; simp
  exact ⟨_, m, _, .ref, S.alloc (tk := s.toks) (c := .list (List.replicate n.toNat xs).flatten) ⟨_, 0, rfl, by rw [e]; exact hvs.times _⟩, .alloc, h _ S.toHS.fresh⟩
/-- a comprehension that makes a new empty list for each item -/
theorem LC_lists {elt target : PySem.Expr} {scope : Scope} {cl : List (Str × Addr)} {v : V} {R : V → CH → Prop} (xs : List V) (hs : SeqOf C A v H xs (fun _ => True)) (hsz : xs.length ≤ sizeLine)
    (turn : ∀ x ∈ xs, ∀ L H₁, ASG (C.comp scope cl L) A target x [] H₁ fun m₂ H₂ => H₂ = H₁ ∧ EV (C.comp scope cl L) A elt m₂ H₂ fun y m₃ H₃ => ∃ b, H₁ b = none ∧ y = .ref b ∧ H₃ = H₁.set b (.list []))
    (fin : ∀ (D : Addr) (bs : List Addr) (H' : CH), bs.length = xs.length → bs.Nodup → (∀ b ∈ bs, H b = none ∧ H' b = some (.list [])) → (∀ b, H b ≠ none → H' b = H b) → H' D = none → C.h₀.get? D = none → R (.ref D) (H'.set D (.list (bs.map .ref)))) : LC C A elt target [] scope cl v H R := by
  refine ⟨xs, _, fun i ys H' => i ≤ xs.length ∧ ∃ bs : List Addr, ys = bs.map .ref ∧ bs.length = i ∧ bs.Nodup ∧ (∀ b ∈ bs, H b = none ∧ H' b = some (.list [])) ∧ (∀ b, H b ≠ none → H' b = H b), hs, ⟨?_⟩, ⟨Nat.zero_le _, [], rfl, rfl, .nil, (by intro _ h; cases h), fun _ _ => rfl⟩, ?_⟩
  · rintro i ys H' ⟨hi, bs, rfl, hl, hn, hb, hk⟩
    refine ⟨trivial, ?_, ?_⟩
    · rw [List.length_map, hl]; (first | lia | omega)
    · intro x hx L hL
      have hil : i < xs.length := (List.getElem?_eq_some_iff.mp hx).1
      have := turn x (List.mem_of_getElem? hx) L H'
      intro s r S hr
      refine wpAny_mono (this s r S hr) (fun _ s' ⟨m₂, H₂, S₂, af₂, h₂⟩ => ⟨m₂, H₂, S₂, af₂, ?_⟩) fun _ _ x => x
      obtain ⟨rfl, hel⟩ := h₂
      refine (show true = true → _ from fun _ => ?_) |> fun h => ⟨h, fun h => (by cases h)⟩
      refine hel.mono ?_
      rintro y m₃ H₃ ⟨b, hbn, rfl, rfl⟩
      have hbb : ∀ c ∈ bs, c ≠ b := fun c hc e => by have := (hb c hc).2; rw [e, hbn] at this; cases this
      have hbH : H b = none := by
        cases q : H b with
        | none => rfl
        | some o => rw [hk b (by rw [q]; simp), q] at hbn; cases hbn
      refine ⟨hil, bs ++ [b], by simp, by simp [hl], ?_, fun c hc => ?_, fun c hc => ?_⟩
      · rw [List.nodup_append]; exact ⟨hn, by simp, fun x hx y hy => by rw [List.mem_singleton.mp hy]; exact hbb x hx⟩
      · rcases List.mem_append.mp hc with h | h
        · rw [CH.set_ne (hbb c h)]; exact hb c h
        · rw [List.mem_singleton.mp h]; exact ⟨hbH, CH.set_same⟩
      · have : c ≠ b := fun e => hc (by rw [e]; exact hbH)
        rw [CH.set_ne this]; exact hk c hc
  · rintro ys H' D ⟨_, bs, rfl, hl, hn, hb, hk⟩ hD hD0
    exact fin D bs H' hl hn hb hk hD hD0
end
end
end Mine
end
section
open PySem PySem.Calls PySem.W PyProof.Rows
set_option maxRecDepth 100000
namespace Mine
noncomputable section
noncomputable def cut (h : Heap) (ts : List Addr) : Heap := { h with objs := h.objs.mapIdx fun i o => if i ∈ ts then { o with data := .freed } else o }
theorem cut_get {h : Heap} {ts : List Addr} {b : Addr} : (cut h ts).get? b = if b ∈ ts then none else h.get? b := by
  unfold cut Heap.get?
  simp only [Array.getElem?_mapIdx]
  cases e : h.objs[b]? with
  | none => simp
  | some o =>
    simp only [Option.map_some]
    by_cases q : b ∈ ts
    · rw [if_pos q, if_pos q]
    · rw [if_neg q, if_neg q]
theorem ns_cut {h : Heap} {ts : List Addr} {a : Addr} {m : Str → Option Value} (N : h.Ns a m) (ha : a ∉ ts) : (cut h ts).Ns a m :=
  let ⟨o, es, ep, e, r⟩ := N; ⟨o, es, ep, by rw [cut_get, if_neg ha]; exact e, r⟩
noncomputable def tabsH (qs : List (Addr × List ((Nat × Nat) × Str))) : CH := fun a => (qs.lookup a).map CObj.tab
theorem tabsH_mem {qs : List (Addr × List ((Nat × Nat) × Str))} {a : Addr} {c : CObj} (h : tabsH qs a = some c) : a ∈ qs.map (·.1) ∧ ∃ q, c = .tab q := by
  unfold tabsH at h
  obtain ⟨q, h1, rfl⟩ := Option.map_eq_some_iff.mp h
  obtain ⟨l1, l2, e, _⟩ := List.lookup_eq_some_iff.mp h1
  exact ⟨by rw [e]; simp, q, rfl⟩
section
variable {prog : Program} {w : World} {c : ClaimW} {cl : Str → Option Addr} {mean : ExcName → Option Value} {args : List WData} {s₁ : Shared} {K : Frag} {mg mb : Str → Option Value} {fa l : Addr} {ns : List Int} {E : Value → Shared → Prop}
theorem codeTable_of {P a : Addr} {vs : Array Value} {d : Option Addr} {sl : Array (Option Value)} (X : K.In s₁.heap) (hk : K.lookup a = some ⟨.type "code", d, .fields vs, sl⟩) (hv : vs[11]? = some (.ref P)) : isCodeTable s₁.heap P :=
  ⟨a, _, vs, X _ _ hk, rfl, rfl, hv⟩
theorem well_ints {P : Params} {h : Heap} : ∀ {ns : List Int} {vs : List Value}, WellAll P h vs (ns.map .int) → VRs h (ns.map .int) vs
  | [], vs, W => by cases W; exact .nil
  | n :: ns, vs, W => by
    cases W with
    | cons a b => cases a; exact .cons .int (well_ints b)
theorem VRs.ints_any {h h' : Heap} : ∀ {ns : List Int} {vs : List Value}, VRs h (ns.map .int) vs → VRs h' (ns.map .int) vs
  | [], vs, r => by have := r.nil_inv; subst this; exact .nil
  | n :: ns, vs, r => by
    obtain ⟨y, ys, rfl, a, b⟩ := r.cons_inv
    obtain ⟨t, rfl⟩ := a.int_inv
    exact .cons .int (VRs.ints_any b)
theorem ofPys_ints : ∀ ns : List Int, ofPys (ns.map .int) = ns.map .int
  | [] => rfl
  | a :: r => by
    show ofPy (.int a) :: ofPys (r.map .int) = _
    rw [ofPys_ints r]; rfl
theorem law_ends (qs : List (Addr × List ((Nat × Nat) × Str))) (X : K.In s₁.heap) (TT : ∀ P ∈ qs.map (·.1), s₁.heap.get? P = some (tabObj #[])) (hk : ∀ P ∈ qs.map (·.1), K.lookup P = none) (hct : ∀ P ∈ qs.map (·.1), isCodeTable s₁.heap P)
    (hlow : ∀ P ∈ qs.map (·.1), 3 < P) (lim : s₁.heap.NoLimit) (g : s₁.heap.Ns mainGlobals mg) (b : s₁.heap.Ns builtinsNs mb) (boot : ∀ x : Str, x ≠ "__name__" → mb x = bootBuiltins x) (sys : s₁.heap.NoSeer)
    (bm : ∃ bm ob, mg "__builtins__" = some (.ref bm) ∧ bm ≠ builtinsNs ∧ s₁.heap.get? bm = some ob ∧ ob.cls = .type "module" ∧ ob.dict = some builtinsNs ∧ ob.data = .plain)
    (hl : Well w.params s₁.heap (.ref l) (ofPy (.list (ns.map .int)))) (hgens : s₁.gens = #[]) (hr : ∀ cls, c.raises args cls = false) (hp : c.post args (.bool true) args = true)
    (h : ∀ (C : Cx) (items : Array Value), C.w = w → C.fr = [] → Bs C.h₀ K mg mb → (∀ n, n ≤ 100 → AOK C callerA n) → C.h₀.get? l = some (seqObj "list" items 0) → VRs C.h₀ (ns.map .int) items.toList → CALL C callerA (.con (.ref fa)) [.ref l] [] (tabsH qs) fun v H' => v = .bool true ∧ ∀ b, tabsH qs b ≠ none → H' b = tabsH qs b) :
    wpAny (model prog w) callerA (call (.ref fa) [.ref l]) (fun v s' => GoodWG c cl mean args s₁ (.ok (.ret v)) s') E s₁ := by
  have low : ∀ {a : Addr}, a ≤ 3 → a ∉ qs.map (·.1) := fun {a} ha hm => absurd (hlow a hm) (Nat.not_lt.mpr ha)
  have hout : ∀ {a : Addr} {o : Obj}, s₁.heap.get? a = some o → (∀ vs, o.data ≠ .fields vs) → a ∉ qs.map (·.1) := fun {a o} ho hd hm => by
    rw [TT a hm] at ho; cases ho; exact hd _ rfl
  have keep : ∀ {a : Addr} {o : Obj}, s₁.heap.get? a = some o → a ∉ qs.map (·.1) → (cut s₁.heap (qs.map (·.1))).get? a = some o := fun {a o} ho hm => by rw [cut_get, if_neg hm]; exact ho
  have hlist : ∃ vs : List Value, s₁.heap.get? l = some (seqObj "list" vs.toArray 0) ∧ WellAll w.params s₁.heap vs (ns.map .int) := by
    have e : ofPy (.list (ns.map .int)) = .list (ns.map .int) := by
      simp only [ofPy]
      rw [ofPys_ints]
    rw [e] at hl
    cases hl with
    | list a b => exact ⟨_, a, b⟩
  obtain ⟨vs, hl1, hl2⟩ := hlist
  have hl3 := keep hl1 (hout hl1 (by intro _ e; cases e))
  obtain ⟨mm, hmm, _⟩ := sys.mods
  obtain ⟨om, _, _, hom, _⟩ := id hmm
  obtain ⟨bmA, ob, b1, b2, b3, b4, b5, b6⟩ := bm
  have B : Bs (cut s₁.heap (qs.map (·.1))) K mg mb := by
    refine ⟨fun a o e => ?_, ?_, ns_cut g (low (by decide)), ns_cut b (low (by decide)), boot, ⟨om, keep hom (low (by decide))⟩, bmA, ob, b1, b2, keep b3 (hout b3 (by intro vs e; rw [b6] at e; cases e)), b4, b5, b6⟩
    · refine keep (X a o e) fun hm => ?_
      rw [hk a hm] at e; cases e
    · obtain ⟨mc, h1, h2⟩ := lim
      exact ⟨mc, ns_cut h1 (low (by decide)), h2⟩
  have S : HS ⟨prog, w, cut s₁.heap (qs.map (·.1)), default, []⟩ (tabsH qs) s₁ := by
    refine ⟨fun b o e => ?_, fun a c e => ?_, hgens⟩
    · have e : (cut s₁.heap (qs.map (·.1))).get? b = some o := e
      rw [cut_get] at e
      by_cases q : b ∈ qs.map (·.1)
      · rw [if_pos q] at e; cases e
      · rw [if_neg q] at e; exact e
    · obtain ⟨hm, q, rfl⟩ := tabsH_mem e
      refine ⟨by show (cut _ _).get? a = none; rw [cut_get, if_pos hm], _, TT a hm, #[], rfl, trivial, fun pos cv e => ?_⟩
      simp [codeAmong] at e
  refine wpAny_call (codeAny_mono (h ⟨prog, w, cut s₁.heap (qs.map (·.1)), default, []⟩ vs.toArray rfl rfl B (fun n hn => ⟨rfl, ?_, ?_, rfl⟩) hl3 (by rw [List.toList_toArray]; exact VRs.ints_any (well_ints hl2)) s₁ _ _ _ S (by intro e he; cases he) .con (.cons .ref .nil) .nil) ?_)
  · show 1 + claimMargin + n < recursionLimit
    have : 1 + claimMargin + 100 < recursionLimit := by decide
    (first | lia | omega)
  · show 4 + 4 * n + 40 < cLine
    have : 4 + 4 * 100 + 40 < cLine := by decide
    (first | lia | omega)
  rintro r s' x
  cases r with
  | error e => exact x.elim
  | ok f =>
    cases f with
    | ret rv =>
      obtain ⟨v, H', hv, S', af, rfl, hkeep⟩ := x
      obtain rfl := hv.con_inv
      refine ⟨.inl ⟨.bool true, .bool true, [], rfl, hr, .bool true, hp, fun _ => ⟨.nil, fun a ha => by cases ha⟩⟩, ⟨fun b o e => ?_, fun b o e => af.there b o e⟩, af.os, fun y hy => by rw [S'.gens] at hy; simp at hy⟩
      by_cases q : b ∈ qs.map (·.1)
      · refine .inr (.inl ⟨hct b q, ?_⟩)
        rw [TT b q] at e; cases e
        have hq : ∃ q, tabsH qs b = some (.tab q) := by
          obtain ⟨y, hy, rfl⟩ := List.mem_map.mp q
          unfold tabsH
          cases e : qs.lookup y.1 with
          | none => exact absurd (List.lookup_eq_none_iff.mp e y hy) (by simp)
          | some z => exact ⟨z, rfl⟩
        obtain ⟨q', hq'⟩ := hq
        have h2 := hkeep b (by rw [hq']; simp)
        rw [hq'] at h2
        obtain ⟨_, o, ho, ps, rfl, _⟩ := S'.own b _ h2
        exact ⟨rfl, #[], ps, rfl, by rw [Array.empty_append]; exact ho⟩
      · exact .inl (S'.base b o (keep e q))
    | next => exact x.elim
    | brk => exact x.elim
    | cont => exact x.elim
end
end
end Mine
end
section
namespace Mine
noncomputable section
section
variable {α : Type} (lt : α → α → Bool)
structure LtOk : Prop where
  asymm : ∀ a b, lt a b = true → lt b a = false
  ntrans : ∀ a b c, lt a b = false → lt b c = false → lt a c = false
noncomputable def par (k : Nat) : Nat := (k - 1) / 2
theorem par_lt {k : Nat} (h : 0 < k) : par k < k := by unfold par; (first | lia | omega)
noncomputable def IsHeap (l : List α) : Prop := ∀ k (h0 : 0 < k) (hk : k < l.length), lt (l[k]'hk) (l[par k]'(Nat.lt_trans (par_lt h0) hk)) = false
noncomputable def sdown (x : α) (pos : Nat) (l : List α) : List α :=
  Nat.lt_wfRel.wf.fix (C := fun _ => List α → List α) (fun pos f l =>
    if h : 0 < pos then
      match l[par pos]? with
      | some y => if lt x y = true then f (par pos) (par_lt h) (l.set pos y) else l.set pos x
      | none => l
    else l.set pos x) pos l
theorem sdown_eq (x : α) (pos : Nat) (l : List α) : sdown lt x pos l =
    if h : 0 < pos then
      match l[par pos]? with
      | some y => if lt x y = true then sdown lt x (par pos) (l.set pos y) else l.set pos x
      | none => l
    else l.set pos x := by
  exact congrFun (Nat.lt_wfRel.wf.fix_eq (C := fun _ => List α → List α) _ pos) l
noncomputable def kid (l : List α) (pos : Nat) : Nat := match l[2 * pos + 1]?, l[2 * pos + 2]? with
  | some a, some b => if lt a b = true then 2 * pos + 1 else 2 * pos + 2
  | _, _ => 2 * pos + 1
theorem kid_le (l : List α) (pos : Nat) : 2 * pos + 1 ≤ kid lt l pos := by
  unfold kid; split <;> try split
  all_goals (first | lia | omega)
theorem kid_near {l : List α} {pos : Nat} {y : α} (h : 2 * pos + 1 < l.length) : (l.set pos y).length - kid lt l pos < l.length - pos := by
  have := kid_le lt l pos
  rw [List.length_set]; lia
noncomputable def sup (pos : Nat) (l : List α) : Nat × List α :=
  (measure fun p : Nat × List α => p.2.length - p.1).wf.fix (C := fun _ => Nat × List α) (fun p f =>
    if h : 2 * p.1 + 1 < p.2.length then
      match p.2[kid lt p.2 p.1]? with
      | some y => f (kid lt p.2 p.1, p.2.set p.1 y) (kid_near lt h)
      | none => p
    else p) (pos, l)
theorem sup_eq (pos : Nat) (l : List α) : sup lt pos l =
    if h : 2 * pos + 1 < l.length then
      match l[kid lt l pos]? with
      | some y => sup lt (kid lt l pos) (l.set pos y)
      | none => (pos, l)
    else (pos, l) := WellFounded.fix_eq ..
variable {lt}
theorem set_swap_perm {l : List α} {i j : Nat} (hi : i < l.length) (hj : j < l.length) (x : α) : ((l.set i l[j]).set j x).Perm (l.set i x) := by
  by_cases hij : i = j
  · subst hij; rw [List.set_set]
  · have h := List.set_set_perm (as := l.set i x) (i := i) (j := j) (by simpa using hi) (by simpa using hj)
    rw [List.set_set] at h
    have e1 : (l.set i x)[j]'(by simpa using hj) = l[j] := by rw [List.getElem_set_ne hij]
    have e2 : (l.set i x)[i]'(by simpa using hi) = x := by rw [List.getElem_set_self]
    rw [e1, e2] at h
    exact h
theorem sdown_perm (x : α) : ∀ (pos : Nat) (l : List α), pos < l.length → (sdown lt x pos l).Perm (l.set pos x) := by
  intro pos
  induction pos using Nat.strongRecOn with
  | _ pos ih =>
    intro l hp
    rw [sdown_eq]
    split
    · rename_i h
      have hq := par_lt h
      have hq' : par pos < l.length := Nat.lt_trans hq hp
      rw [List.getElem?_eq_getElem hq']
      dsimp only
      split
      · refine (ih _ hq _ (by rw [List.length_set]; exact hq')).trans ?_
        exact set_swap_perm hp hq' x
      · exact .refl _
    · exact .refl _
/-- the heap but for the hole -/
structure Hole (lt : α → α → Bool) (l : List α) (pos : Nat) : Prop where
  rest : ∀ k (h0 : 0 < k) (hk : k < l.length), k ≠ pos → par k ≠ pos → lt (l[k]'hk) (l[par k]'(Nat.lt_trans (par_lt h0) hk)) = false
  over : ∀ k (h0 : 0 < k) (hk : k < l.length) (hp : 0 < pos) (hpl : pos < l.length), par k = pos → lt (l[k]'hk) (l[par pos]'(Nat.lt_trans (par_lt hp) hpl)) = false
theorem getElem_set' {l : List α} {i k : Nat} {x : α} (hk : k < (l.set i x).length) : (l.set i x)[k]'hk = if i = k then x else l[k]'(by simpa using hk) := by
  rw [List.getElem_set]
theorem sdown_heap (ok : LtOk lt) (x : α) : ∀ (pos : Nat) (l : List α), pos < l.length → Hole lt l pos → (∀ k (h0 : 0 < k) (hk : k < l.length), par k = pos → lt (l[k]'hk) x = false) → IsHeap lt (sdown lt x pos l) := by
  intro pos
  induction pos using Nat.strongRecOn with
  | _ pos ih =>
    intro l hp H hx
    rw [sdown_eq]
    split
    · rename_i h
      have hq := par_lt h
      have hq' : par pos < l.length := Nat.lt_trans hq hp
      rw [List.getElem?_eq_getElem hq']
      dsimp only
      split
      · rename_i hlt
        have hyx := ok.asymm _ _ hlt
        refine ih _ hq _ (by rw [List.length_set]; exact hq') ⟨fun k h0 hk hk1 hk2 => ?_, fun k h0 hk hp0 hpl hk1 => ?_⟩ fun k h0 hk hk1 => ?_
        · have hk' : k < l.length := by simpa using hk
          rw [getElem_set', getElem_set']
          by_cases e1 : pos = k
          · exact absurd (e1 ▸ rfl) hk2
          · rw [if_neg e1]
            by_cases e2 : pos = par k
            · rw [if_pos e2]; exact H.over k h0 hk' h hp e2.symm
            · rw [if_neg e2]; exact H.rest k h0 hk' (Ne.symm e1) (Ne.symm e2)
        · have hk' : k < l.length := by simpa using hk
          have hpp := par_lt hp0
          rw [getElem_set', getElem_set', if_neg (by (first | lia | omega) : ¬ pos = par (par pos))]
          have base := H.rest (par pos) hp0 hq' (by (first | lia | omega)) (by (first | lia | omega))
          by_cases e1 : pos = k
          · rw [if_pos e1]; exact base
          · rw [if_neg e1]
            have a := H.rest k h0 hk' (Ne.symm e1) (by rw [hk1]; (first | lia | omega))
            have : lt (l[k]'hk') (l[par pos]'hq') = false := by
              have e : par k = par pos := hk1
              simpa [e] using a
            exact ok.ntrans _ _ _ this base
        · have hk' : k < l.length := by simpa using hk
          rw [getElem_set']
          by_cases e1 : pos = k
          · rw [if_pos e1]; exact hyx
          · rw [if_neg e1]
            have a := H.rest k h0 hk' (Ne.symm e1) (by rw [hk1]; (first | lia | omega))
            have : lt (l[k]'hk') (l[par pos]'hq') = false := by
              have e : par k = par pos := hk1
              simpa [e] using a
            exact ok.ntrans _ _ _ this hyx
      · rename_i hlt
        have hlt' : lt x (l[par pos]'hq') = false := by simpa using hlt
        intro k h0 hk
        have hk' : k < l.length := by simpa using hk
        have hkp := par_lt h0
        rw [getElem_set', getElem_set']
        by_cases e1 : pos = k
        · subst e1
          rw [if_pos rfl, if_neg (by (first | lia | omega))]; exact hlt'
        · rw [if_neg e1]
          by_cases e2 : pos = par k
          · rw [if_pos e2]; exact hx k h0 hk' e2.symm
          · rw [if_neg e2]; exact H.rest k h0 hk' (Ne.symm e1) (Ne.symm e2)
    · rename_i h
      have h0' : pos = 0 := by (first | lia | omega)
      subst h0'
      intro k h0 hk
      have hk' : k < l.length := by simpa using hk
      rw [getElem_set', getElem_set', if_neg (by (first | lia | omega))]
      by_cases e2 : 0 = par k
      · rw [if_pos e2]; exact hx k h0 hk' e2.symm
      · rw [if_neg e2]; exact H.rest k h0 hk' (by (first | lia | omega)) (Ne.symm e2)
/-- push -/
theorem push_perm (x : α) (l : List α) : (sdown lt x l.length (l ++ [x])).Perm (x :: l) := by
  refine (sdown_perm x _ _ (by simp)).trans ?_
  rw [show (l ++ [x]).set l.length x = l ++ [x] from by simp]
  exact List.perm_append_singleton x l
theorem push_heap (ok : LtOk lt) (x : α) (l : List α) (H : IsHeap lt l) : IsHeap lt (sdown lt x l.length (l ++ [x])) := by
  refine sdown_heap ok x _ _ (by simp) ⟨fun k h0 hk h1 h2 => ?_, fun k h0 hk _ _ h1 => ?_⟩ fun k h0 hk h1 => ?_
  · have hk' : k < l.length := by simp at hk; (first | lia | omega)
    have hp := par_lt h0
    rw [List.getElem_append_left hk', List.getElem_append_left (Nat.lt_trans hp hk')]
    exact H k h0 hk'
  · have hp := par_lt h0; simp at hk; (first | lia | omega)
  · have hp := par_lt h0; simp at hk; (first | lia | omega)
theorem kid_lt {l : List α} {pos : Nat} (h : 2 * pos + 1 < l.length) : kid lt l pos < l.length := by
  unfold kid
  split
  · rename_i a b ha hb
    have := (List.getElem?_eq_some_iff.mp hb).1
    split <;> (first | lia | omega)
  · exact h
theorem kid_par {l : List α} {pos : Nat} : par (kid lt l pos) = pos := by
  unfold kid par
  split <;> try split
  all_goals (first | lia | omega)
theorem kid_least (ok : LtOk lt) {l : List α} {pos : Nat} (h : 2 * pos + 1 < l.length) : ∀ k (h0 : 0 < k) (hk : k < l.length), par k = pos → lt (l[k]'hk) (l[kid lt l pos]'(kid_lt h)) = false := by
  intro k h0 hk hp
  have irr : ∀ a, lt a a = false := fun a => by
    cases e : lt a a with
    | false => rfl
    | true => rw [ok.asymm a a e] at e; cases e
  have hk2 : k = 2 * pos + 1 ∨ k = 2 * pos + 2 := by unfold par at hp; (first | lia | omega)
  by_cases h2 : 2 * pos + 2 < l.length
  · have e : kid lt l pos = if lt (l[2 * pos + 1]'h) (l[2 * pos + 2]'h2) = true then 2 * pos + 1 else 2 * pos + 2 := by
      unfold kid
      rw [List.getElem?_eq_getElem h, List.getElem?_eq_getElem h2]
    have main : ∀ j (hj : j < l.length), kid lt l pos = j → lt (l[k]'hk) (l[j]'hj) = false := by
      intro j hj ej
      rw [e] at ej
      by_cases hc : lt (l[2 * pos + 1]'h) (l[2 * pos + 2]'h2) = true
      · rw [if_pos hc] at ej; subst ej
        rcases hk2 with rfl | rfl
        · exact irr _
        · exact ok.asymm _ _ hc
      · rw [if_neg hc] at ej; subst ej
        rcases hk2 with rfl | rfl
        · simpa using hc
        · exact irr _
    exact main _ (kid_lt h) rfl
  · have e : kid lt l pos = 2 * pos + 1 := by
      unfold kid
      rw [List.getElem?_eq_getElem h, List.getElem?_eq_none (by (first | lia | omega))]
    have main : ∀ j (hj : j < l.length), kid lt l pos = j → lt (l[k]'hk) (l[j]'hj) = false := by
      intro j hj ej
      rw [e] at ej; subst ej
      have : k = 2 * pos + 1 := by (first | lia | omega)
      subst this; exact irr _
    exact main _ (kid_lt h) rfl
theorem sup_ok (ok : LtOk lt) (x : α) : ∀ (n : Nat) (pos : Nat) (l : List α), l.length - pos ≤ n → pos < l.length → Hole lt l pos →
    (sup lt pos l).2.length = l.length ∧ (sup lt pos l).1 < l.length ∧ Hole lt (sup lt pos l).2 (sup lt pos l).1 ∧ ¬ (2 * (sup lt pos l).1 + 1 < l.length) ∧ ((sup lt pos l).2.set (sup lt pos l).1 x).Perm (l.set pos x) := by
  intro n
  induction n with
  | zero => intro pos l h1 h2; (first | lia | omega)
  | succ n ih =>
    intro pos l hn hp H
    by_cases h : 2 * pos + 1 < l.length
    · have hk := kid_lt (lt := lt) h
      have hge := kid_le lt l pos
      have e : sup lt pos l = sup lt (kid lt l pos) (l.set pos (l[kid lt l pos]'hk)) := by
        conv => lhs; rw [sup_eq]
        rw [dif_pos h, List.getElem?_eq_getElem hk]
      have hpk : par (kid lt l pos) = pos := kid_par
      have H' : Hole lt (l.set pos (l[kid lt l pos]'hk)) (kid lt l pos) := by
        refine ⟨fun k h0 hk0 h1 h2 => ?_, fun k h0 hk0 h1 h2 h3 => ?_⟩
        · have hk' : k < l.length := by simpa using hk0
          rw [getElem_set', getElem_set']
          by_cases e1 : pos = k
          · subst e1
            rw [if_pos rfl, if_neg (by have := par_lt h0; (first | lia | omega))]
            exact H.over _ (by (first | lia | omega)) hk h0 hp hpk
          · rw [if_neg e1]
            by_cases e2 : pos = par k
            · rw [if_pos e2]; exact kid_least ok h k h0 hk' e2.symm
            · rw [if_neg e2]; exact H.rest k h0 hk' (Ne.symm e1) (Ne.symm e2)
        · have hk' : k < l.length := by simpa using hk0
          have hkp := par_lt h0
          rw [getElem_set', getElem_set', if_neg (by (first | lia | omega)), if_pos (by rw [hpk])]
          have a := H.rest k h0 hk' (by (first | lia | omega)) (by (first | lia | omega))
          have : ∀ j (hj : j < l.length), par k = j → lt (l[k]'hk') (l[j]'hj) = false := by intro j hj ej; subst ej; exact a
          exact this _ hk h3
      obtain ⟨a1, a2, a3, a4, a5⟩ := ih (kid lt l pos) (l.set pos (l[kid lt l pos]'hk)) (by rw [List.length_set]; (first | lia | omega)) (by rw [List.length_set]; exact hk) H'
      rw [e]
      rw [List.length_set] at a1 a2 a4
      exact ⟨a1, a2, a3, a4, a5.trans (set_swap_perm hp hk x)⟩
    · have e : sup lt pos l = (pos, l) := by rw [sup_eq, dif_neg h]
      rw [e]
      exact ⟨rfl, hp, H, h, .refl _⟩
/-- pop: the last item at the root, sunk -/
noncomputable def popped (x : α) (l : List α) : List α := sdown lt x (sup lt 0 (l.set 0 x)).1 ((sup lt 0 (l.set 0 x)).2.set (sup lt 0 (l.set 0 x)).1 x)
theorem pop_ok (ok : LtOk lt) {a x : α} {l : List α} (H : IsHeap lt (a :: l ++ [x])) : IsHeap lt (popped (lt := lt) x (a :: l)) ∧ (popped (lt := lt) x (a :: l)).Perm (x :: l) := by
  have H0 : Hole lt ((a :: l).set 0 x) 0 := by
    refine ⟨fun k h0 hk h1 h2 => ?_, fun k h0 hk hp _ _ => absurd hp (by (first | lia | omega))⟩
    have hk' : k < (a :: l).length := by simpa using hk
    rw [getElem_set', getElem_set', if_neg (by (first | lia | omega)), if_neg (by (first | lia | omega))]
    have := H k h0 (by simp at hk' ⊢; (first | lia | omega))
    rw [List.getElem_append_left hk', List.getElem_append_left (Nat.lt_trans (par_lt h0) hk')] at this
    exact this
  obtain ⟨a1, a2, a3, a4, a5⟩ := sup_ok ok x (a :: l).length 0 ((a :: l).set 0 x) (by simp) (by simp) H0
  unfold popped
  generalize hs : sup lt 0 ((a :: l).set 0 x) = r at *
  obtain ⟨p, l'⟩ := r
  dsimp only at *
  have hlen : l'.length = (a :: l).length := by simpa using a1
  have hp : p < l'.length := by rw [a1]; exact a2
  constructor
  · refine sdown_heap ok x p _ (by rw [List.length_set]; exact hp) ⟨fun k h0 hk h1 h2 => ?_, fun k h0 hk hp0 hpl h1 => ?_⟩ fun k h0 hk h1 => ?_
    · have hk' : k < l'.length := by simpa using hk
      rw [getElem_set', getElem_set', if_neg (Ne.symm h1), if_neg (Ne.symm h2)]
      exact a3.rest k h0 hk' h1 h2
    · exfalso; have hk' : k < l'.length := by simpa using hk
      unfold par at h1; (first | lia | omega)
    · exfalso; have hk' : k < l'.length := by simpa using hk
      unfold par at h1; (first | lia | omega)
  · refine (sdown_perm x p _ (by rw [List.length_set]; exact hp)).trans ?_
    rw [List.set_set]
    refine a5.trans ?_
    rw [List.set_set]; exact .refl _
theorem heap_root (ok : LtOk lt) {a : α} {l : List α} (H : IsHeap lt (a :: l)) : ∀ y ∈ a :: l, lt y a = false := by
  have main : ∀ k (hk : k < (a :: l).length), lt ((a :: l)[k]'hk) a = false := by
    intro k
    induction k using Nat.strongRecOn with
    | _ k ih =>
      intro hk
      by_cases h0 : 0 < k
      · have hp := par_lt h0
        exact ok.ntrans _ _ _ (H k h0 hk) (ih _ hp (Nat.lt_trans hp hk))
      · have : k = 0 := by (first | lia | omega)
        subst this
        cases e : lt a a with
        | false => exact e
        | true => rw [ok.asymm a a e] at e; cases e
  intro y hy
  obtain ⟨k, hk, rfl⟩ := List.getElem_of_mem hy
  exact main k hk
end
/-- pairs of ints -/
noncomputable def plt (p q : Int × Int) : Bool := decide (p.1 < q.1 ∨ (p.1 = q.1 ∧ p.2 < q.2))
theorem plt_ok : LtOk plt where
  asymm := fun a b h => by unfold plt at *; simp at *; (first | lia | omega)
  ntrans := fun a b c h1 h2 => by unfold plt at *; simp at *; (first | lia | omega)
end
end Mine
end
section
open PySem PySem.W PyProof.Rows
set_option maxRecDepth 100000
set_option maxHeartbeats 0
namespace Mine
theorem left_of_run {p q : Program} {loose : List Str} {Xt : Shared → Bool} {α : Type} {Yf : Shared → α} {Ya : World → α} {N : Nat} {g0 : Bool} {H₀ : Params → Heap} {gs₀ : Array GenState} {d₀ : Drawn} {k₀ : Nat} {m₀ : Nat} {ann : Option Value}
    (open_ : ∀ w : World, (fencedOpening treeTable p w N).map (fun s => (s.heap, s.gens, s.drawn, s.toks)) = some (H₀ w.params, gs₀, d₀, k₀))
    (size : ∀ w : World, ((H₀ w.params).isNs mainGlobals && gs₀.size == 0, (H₀ w.params).objs.size, (H₀ w.params).nsMap mainGlobals "__annotations__") = (true, m₀, ann))
    (run : ∀ (w : World) (os : OsState), (topRun treeTable p w m₀ ann N ⟨H₀ w.params, gs₀, d₀, k₀, os⟩ (topStub p)).map (fun s₁ => (staticsOk (importedModules p.main.body) (H₀ w.params) s₁.heap && namesBound p s₁.heap && gensDone s₁ && laidKept (H₀ w.params) s₁.heap,
        openSeen q loose (importedModules p.main.body) Xt g0 s₁, Yf s₁)) = some (true, openGood q loose, Ya w)) : LeftO p q loose Xt Yf Ya N g0 := fun w => by
  obtain ⟨⟨h, gs, d, k, os⟩, e, e'⟩ := Option.map_eq_some_iff.mp (open_ w)
  obtain ⟨rfl, rfl, rfl, rfl⟩ : h = H₀ w.params ∧ gs = gs₀ ∧ d = d₀ ∧ k = k₀ := by simpa using e'
  obtain ⟨z1, z2, z3⟩ : _ ∧ _ ∧ _ := by simpa only [Prod.mk.injEq] using size w
  obtain ⟨s₁, r, l⟩ := Option.map_eq_some_iff.mp (run w os)
  obtain ⟨l1, l2, l3⟩ : _ ∧ _ ∧ _ := by simpa only [Prod.mk.injEq] using l
  have t : topFrom treeTable p w N ⟨H₀ w.params, gs, d, k, os⟩ = some s₁ := by
    unfold topFrom
    dsimp only
    rw [z1, z2, z3, r]
    show (match staticsOk (importedModules p.main.body) (H₀ w.params) s₁.heap && namesBound p s₁.heap && gensDone s₁ && laidKept (H₀ w.params) s₁.heap with | true => _ | false => _) = _
    rw [l1]
  unfold openEnds
  rw [e]
  show (topFrom treeTable p w N _).map _ = _
  rw [t]
  exact congrArg some (Prod.ext l2 l3)
theorem boot_size : ∀ w : World, ((boot_heap w.params).isNs mainGlobals && (Array.mk [] : Array GenState).size == 0, (boot_heap w.params).objs.size, (boot_heap w.params).nsMap mainGlobals "__annotations__") = (true, 11, some (.ref 6)) := by
  intro w; kernel_rfl
noncomputable abbrev pw : Program := PySem.Challenge.pw_dn0048_07
noncomputable def view : Program := { pw with main := { pw.main with body := pw.main.body.drop 19 } }
noncomputable abbrev looseN : List Str := ["_wall", "heappush", "heappop", "_siftdown", "_siftup", "_initial_missing", "reduce", "_NODE_OUT", "_NODE_DONE", "_NodeInfo", "CycleError", "TopologicalSorter", "_law_emptied", "_law_told", "_law_least"].map Str.ofString
theorem booted : ∀ w : World, (fencedOpening treeTable pw w 2858).map (fun s => (s.heap, s.gens, s.drawn, s.toks)) = some (boot_heap w.params, Array.mk [], boot_drawn, boot_toks) :=
  boot_open (p := pw) (N := 2858) (by kernel_rfl) (by decide) (by intro s; kernel_rfl)
theorem said_ : PySem.Challenge.rw_dn0048_07.wellSaid = true := (congrFun PySem.W.Fast.te9446332074065402090 _).trans (by kernel_rfl)
theorem head_and {r : OpenRow} {L W : Prop} (h : L → W → r.Holds) (x : L ∧ W) : r.Holds := h x.1 x.2
local macro_rules
  | `(tactic| o_law) => `(tactic| refine holds_law Mine.said_ fun said => ?_)
local macro_rules
  | `(tactic| o_head $H) => do
    let hl := Lean.mkIdent `hl
    let hw := Lean.mkIdent `hw
    let hc := Lean.mkIdent `hc
    `(tactic| (refine head_and (fun $hl $hc => holds_open (q := Mine.view) (loose := Mine.looseN) (Xt := fun s => xlAt Mine.view [] s && recOk (RowW.records (OpenRow.toRowW PySem.Challenge.rw_dn0048_07.row)) s) (XP := XL Mine.view []) (Yf := Hook.obs $H) (Ya := Hook.val $H) (YP := Hook.says $H) (N := 2858) $hl:ident (Hook.of $H) (Hook.keeps $H) (fun s e => xl_of s (Bool.and_eq_true_iff.mp e).1) XL.keeps (by rfl) (by rfl) (by rfl) (fun s e => recFacts_of (Bool.and_eq_true_iff.mp e).2) (by rfl) (PySem.W.row_said Mine.said_) (by decide +kernel) ⟨rfl, rfl, rfl, rfl, rfl, by decide +kernel⟩ ?$hw:ident $hc:ident) ?$hc:ident))
open_top hd07 for PySem.Challenge.rw_dn0048_07
end Mine
end
section
open PySem PySem.Calls PySem.W PyProof.Rows
set_option maxRecDepth 100000
namespace Mine
noncomputable section
section
variable {C : Cx} {A : Around} {m : Loc} {H : CH} {s : Shared} {K : Frag} {mg mb : Str → Option Value} {Q : V → Loc → CH → Prop} {cls : String} {R : Loc → CH → Prop}
inductive PX (C : Cx) (H : CH) (s : Shared) (cls : String) (R : CH → Prop) (ev : Value) (s' : Shared) : Prop
  | mk (e : Addr) (oe : Obj) (vs : Array Value) (x : Value) (H' : CH) (h1 : ev = .ref e) (h2 : s'.heap.get? e = some oe) (h3 : oe.cls = .type cls) (h4 : oe.data = .fields vs) (h5 : vs[1]? = some x) (ht : Trc C H' s.heap s'.heap e x) (h6 : ¬ Imm oe) (h7 : s.heap.get? e = none) (h8 : H' e = none) (h9 : C.h₀.get? e = none) (hS : HS C H' s') (ha : AfterC H s H' s') (q : R H') : PX C H s cls R ev s'
noncomputable def RX (C : Cx) (H : CH) (s : Shared) (cls : String) (R : CH → Prop) (r : Result) (s' : Shared) : Prop := match r with
  | .error ev => PX C H s cls R ev s'
  | .ok _ => False
noncomputable def CALLX (C : Cx) (A : Around) (f : V) (vs : List V) (H : CH) (cls : String) (R : CH → Prop) : Prop := ∀ s rf rs, HS C H s → Frs C H s → VR s.heap f rf → VRs s.heap vs rs → codeAny (model C.prog C.w) A (.call rf ⟨rs, []⟩) (RX C H s cls R) s
theorem CVX_of {f : V} {vs : List V} {R : CH → Prop} (h : CALLX C A f vs H cls R) : CVX C A f vs m H Q cls (fun m' H' => m' = m ∧ R H') := fun s rf rs S hf hv => by
  refine wpAny_call (codeAny_mono (h s rf rs S.toHS S.frs hf hv) ?_)
  rintro r s' x
  cases r with
  | ok f => exact x.elim
  | error e => obtain ⟨a, oe, vs, y, H', h1, h2, h3, h4, h5, ht, h6, h7, h8, h9, hS, ha, q⟩ := x; exact ⟨a, oe, vs, y, m, H', h1, h2, h3, h4, h5, ht, h6, h7, h8, h9, S.called hS ha, ha.after, rfl, q⟩
theorem PE.new {e : Addr} {h' : Heap} {tk : Nat} (S : St C m H s) (x : Heap.NewExc s.heap h' e cls) (hc : immCls.contains cls = false) (q : R m H) : PE C H s cls R (.ref e) { s with heap := h', toks := tk } := by
  obtain ⟨ob, t, h1, h2, h3⟩ := x.there
  refine ⟨e, ob, _, .none, m, H, rfl, h1, h2, h3, rfl, .none rfl, ?_, x.new, ?_, S.freshb' x.new, S.more x.keeps, .more x.keeps, q⟩
  · exact not_imm_cls (T := cls) h2 hc (by intro vs x t e; rw [h3] at e; cases e; intro q; cases q)
  · cases e' : H e with
    | none => rfl
    | some c => obtain ⟨_, o, ho, _⟩ := S.own e c e'; rw [x.new] at ho; cases ho
theorem CVX_pop_empty {l : Addr} (hA : A.handled = none) (hl : H l = some (.list [])) (h : R m H) : CVX C A (.con (.builtin "list.pop")) [.ref l] m H Q "IndexError" R := fun s rf rs S hf hv => by
  rw [hf.con_inv]
  obtain ⟨a, rfl, ha⟩ := one_inv hv
  rw [ha.ref_inv]
  obtain ⟨items, n, hI, hvs, hz⟩ := S.toHS.list (.own hl)
  have hz0 : items = #[] := by
    have : items.size = 0 := by rw [hz]; rfl
    exact Array.eq_empty_of_size_eq_zero this
  subst hz0
  have hE : ∀ h' tk e, Heap.NewExc s.heap h' e "IndexError" → PE C H s "IndexError" R (.ref e) { s with heap := h', toks := tk } := fun h' tk e x => PE.new S x (by decide) h
  have hA1 : A.in1.handled = none := hA
  refine wpAny_call_entry F.slot_list_pop ⟨_, hI, rfl⟩ F.entry_list_pop ?_ (F.args_list_pop_1 _)
  unfold Builtin.«list.pop»
  refine wpAny_bind (wpAny_of_eq (a := (Value.ref l, [])) (by first | rfl | kernel_rfl) ?_)
  show wpAny _ _ (pure (-1) >>= _) _ _ s
  refine wpAny_bind (wpAny_pure ?_)
  dsimp only
  rw [if_neg (by decide)]
  refine wpAny_bind (listItems_at hI rfl ?_)
  rw [if_pos (by rfl)]
  first
    | exact wpAny_bind (wpAny_rule (by exact_raiseError plainExc_IndexError hA hE))
    | exact wpAny_bind (wpAny_rule (wpAny_bind (by exact_raiseError plainExc_IndexError hA hE)))
    | exact wpAny_bind (wpAny_bind (wpAny_rule (by exact_raiseError plainExc_IndexError hA hE)))
    | exact wpAny_rule (by exact_raiseError plainExc_IndexError hA hE)
theorem EVX_meth {o : PySem.Expr} {name : Str} {apos p : Pos} {args : List PySem.Expr}
    (h : EV C A o m H fun ov m₁ H₁ => GM C A ov name m₁ H₁ fun f first => EL C A args m₁ H₁ fun vs m₂ H₂ => KP C f H₂ ∧ CVX C A f (first ++ vs) m₂ H₂ Q cls R)
    (hst : NoLone C args := by intro _; with_unfolding_all rfl)
    (hb : ∀ whole, attributeBase o name C.env whole = whole := by intro _; with_unfolding_all rfl) (hn : methodCallForm (args.length + 0) (backTo p (starEach args C.env)) [] = true := by with_unfolding_all rfl)
    (hp : apos.endLine == p.line := by with_unfolding_all rfl) : EVX C A (.Call (.Attribute o name apos) args [] p) m H Q cls R := fun s S => by
  have he : eval (.Call (.Attribute o name apos) args [] p) C.env = (do
      let ov ← attributeBase o name C.env (eval o C.env)
      standAt apos.atName
      methodCall o name apos p C.env ov (args.length + 0) (backTo p (starEach args C.env)) []) := rfl
  rw [he, hb]
  refine wpAny_bind (wpAny_noRaise (wpAny_mono (h s S) ?_ fun _ _ x => x))
  rintro ro s₁ ⟨ov, m₁, H₁, vo, S₁, af₁, h₁⟩
  refine wpAny_bind (wpAny_standAt ?_)
  unfold methodCall
  rw [hn]
  refine wpAny_bind (wpAny_holding ?_)
  show wpAny _ _ (getMethod ro name _) _ _ s₁
  refine wpAny_noRaise (wpAny_mono (h₁ s₁ ro _ S₁ vo) ?_ fun _ _ x => x)
  rintro ⟨rf, rfirst⟩ s₂ ⟨f, first, vf, vfi, hh, hg, hd, ho, h₂⟩
  have hq : methodCallPos true o C.env apos p = pure p := by unfold methodCallPos; rw [hp]; rfl
  rw [hq]
  refine wpAny_bind (wpAny_pure ?_)
  have S₂ : St C m₁ H₁ s₂ := ⟨⟨by rw [hh]; exact S₁.base, by rw [hh]; exact S₁.own, hg.trans S₁.gens⟩, by rw [hh]; exact S₁.ns, S₁.loc, S₁.locb, by unfold Frs; rw [hh]; exact S₁.frs⟩
  have af₂ : After C H s H₁ s₂ := ⟨by rw [hh]; exact af₁.stay, af₁.grow, by rw [hh]; exact af₁.there, hd.trans af₁.drawn, ho.trans af₁.os⟩
  refine callWith_any (wpAny_noRaise (evalArgs_of h₂ (hst p) S₂ ?_))
  rintro rs s₃ ⟨vs, m₃, H₃, vr, S₃, af₃, hk, h₃⟩
  have vf₃ := vf.keep (af₃.tup S₂)
  obtain ⟨k, L⟩ := hk s₃ rf S₃.toHS vf₃
  exact ⟨k, L, wpAny_mono (h₃ s₃ rf _ S₃ vf₃ ((vfi.keep (af₃.tup S₂)).append vr)) (fun _ _ x => x.mono S₃ (af₂.then S₂ af₃)) fun _ _ x => x.mono S₃ (af₂.then S₂ af₃)⟩
theorem ESX_expr {e : PySem.Expr} {p : Pos} {Q : Fl → Loc → CH → Prop} (h : EVX C A e m H (fun _ => Q .next) cls R) (hi : interactive C.env = false := by with_unfolding_all rfl) (hs : swapsWith e none p.line C.env = pure false := by with_unfolding_all rfl) : ESX C A (.Expr e p) m H Q cls R := fun s S => by
  refine wpAny_Expr_any (wpAny_mono (h s S) ?_ fun _ _ x => x) hi hs
  rintro r s₁ ⟨v, m₁, H₁, rv, S₁, af₁, h₁⟩
  exact ⟨.next, m₁, H₁, rfl, S₁, af₁, h₁⟩
/-- the text's own function, raising -/
theorem CALLX_K {f : Addr} {name qual : Str} {params : Arguments} {body : List Stmt} {scope : Scope} {cl : List (Str × Addr)} {dV kV doc pm cdv ct oc : Value} {an od : Option Addr} {osl : Array (Option Value)} {vs : List V} {binds : List (Str × V)} {m' : Loc} {R : CH → Prop}
    (B : Bs C.h₀ K mg mb) (ho : K.lookup f = some ⟨oc, od, .func (fnX name qual params body scope cl dV kV doc pm an cdv ct), osl⟩) (hcd : codeIn K cdv qual = true) {n : Nat} (hA : AOK C A (n + 1))
    (hb : Binds C H (fnX name qual params body scope cl dV kV doc pm an cdv ct) vs [] binds) (hok : (scope.names.all (fun x => x.2 != .cell) && binds.all (fun x => scope.names.lookup x.1 == some .local) && !scope.isCoroutine && !scope.isGenerator && scope.kind == .function) = true) (hm : m' = binds.reverse)
    (h : ∀ L, H L = none → C.h₀.get? L = none → AOK (C.at (callEnv (fnX name qual params body scope cl dV kV doc pm an cdv ct) L f)) (A.deeper (callEnv (fnX name qual params body scope cl dV kV doc pm an cdv ct) L f)) n → EXX (C.at (callEnv (fnX name qual params body scope cl dV kV doc pm an cdv ct) L f)) (A.deeper (callEnv (fnX name qual params body scope cl dV kV doc pm an cdv ct) L f)) body m' H (fun _ _ _ => False) cls fun _ => R) :
    CALLX C A (.con (.ref f)) vs H cls R := fun s rf rs S F hf hv => by
  simp only [Bool.and_eq_true, List.all_eq_true, Bool.not_eq_true', beq_iff_eq, bne_iff_ne] at hok
  obtain ⟨⟨⟨⟨hcell, hloc⟩, hco⟩, hgen⟩, hk⟩ := hok
  rw [hf.con_inv]
  obtain ⟨rb, hB, hrb⟩ := hb s rs [] S hv .nil
  have hloc' : ∀ x ∈ rb, scope.names.lookup x.1 = some .local := fun x hx => by
    have : x.1 ∈ binds.map (·.1) := hrb.1 ▸ List.mem_map_of_mem hx
    obtain ⟨y, hy, e⟩ := List.mem_map.mp this
    rw [← e]; exact hloc y hy
  refine codeAny_call_def hA.room (S.base _ _ (B.X _ _ ho)) rfl (B.lim.keeps S.base) ((codeRec_of B.X hcd).keeps S.base) rfl hB hcell hloc' (fun h₁ hns hk₁ => ?_) hco hgen hk
  have S₁ : St (C.at (callEnv (fnX name qual params body scope cl dV kV doc pm an cdv ct) s.heap.objs.size f)) m' H { s with heap := h₁, toks := s.toks + rb.length } := by
    refine ⟨(S.more hk₁).at, ⟨_, hns, fun x v e => ?_⟩, S.fresh, S.freshb, fun e he => ?_⟩
    · subst hm
      exact lookup_kws (hrb.rev.keep (.of_keep hk₁)) e
    · rcases List.mem_cons.mp he with rfl | he
      · obtain ⟨o', es, ep, ho', hd', _⟩ := hns
        exact ⟨hk, hgen, hco, _, o', es, ep, rfl, ho', hd', S.fresh, S.freshb⟩
      · exact F.keep (s' := { s with heap := h₁ }) (fun b o _ _ _ hn e _ => ⟨hn, o, hk₁ b o e, rfl⟩) e he
  refine wpAny_mono (h _ S.fresh S.freshb hA.at _ S₁) ?_ ?_
  · rintro fl s' ⟨f', m₂, H₂, hfl, S₂, af, q⟩
    exact q.elim
  · rintro ev s₂ ⟨e, oe, vs, x, m₁, H₁, rfl, he, hc, hd, h1, tr, ni, hn, hH, hb, S₂, af₂, hR⟩
    unfold leaving
    refine wpAny_bind (note_first hA.at.frames rfl S₂ he hd h1 tr fun s₃ y => ?_)
    have S₃ := y.st S₂ he ni hH hb (by intro es ep q; rw [hd] at q; cases q)
    have af₃ := y.after S₂ he af₂ hn
    obtain ⟨oe', vs', Tb, oT, ts, g1, g2, g3, g4, g5, g6, g7, g8, g9, nT⟩ := y.trace
    have back : ∀ {b : Addr}, s₂.heap.get? b = none → s.heap.get? b = none := fun {b} hq => by
      cases q : s.heap.get? b with
      | none => rfl
      | some o => obtain ⟨o', e'⟩ := af₂.there b o (hk₁ b o q); rw [hq] at e'; cases e'
    have hTn := back g5
    have hen : s.heap.get? e = none := by
      cases q : s.heap.get? e with
      | none => rfl
      | some o =>
        have := hk₁ e o q
        rw [hn] at this; cases this
    have hTH : H₁ Tb = none := by
      cases q : H₁ Tb with
      | none => rfl
      | some c => obtain ⟨_, o, ho, _⟩ := S₂.own Tb c q; rw [g5] at ho; cases ho
    have hTb : C.h₀.get? Tb = none := by
      cases q : C.h₀.get? Tb with
      | none => rfl
      | some o => have := S₂.base Tb o q; rw [g5] at this; cases this
    have ni' : ¬ Imm oe' := not_imm_cls (T := cls) (by rw [g2, hc]) (by
      cases q : immCls.contains cls with
      | false => rfl
      | true =>
        exfalso
        apply ni
        refine ⟨?_, .inl ⟨cls, List.contains_iff_mem.mp q, hc⟩, (by intro es ep e; rw [hd] at e; cases e), (by intro v e; rw [hd] at e; cases e), (by intro es ep t e; rw [hd] at e; cases e)⟩
        exact Obj.isFreed_of_fields hd) (by intro us x t e; rw [g3] at e; cases e; intro q; rw [g4] at q; cases q)
    refine ⟨e, oe', vs', .ref Tb, H₁, rfl, g1, g2.trans hc, g3, g4, .tb Tb oT ts rfl g7 g8 g9 nT hTn hTH hTb g6, ni', hen, hH, hb, S₃.toHS.back, ?_, hR⟩
    exact ⟨fun b o hn e => af₃.stay b o (Nat.ne_of_lt (Heap.lt_size e)) hn (hk₁ b o e), fun b o hn e => af₃.grow b o hn (hk₁ b o e), fun b o e => af₃.there b o (hk₁ b o e), af₃.drawn, af₃.os⟩
end
end
end Mine
end
section
open PySem PySem.Calls PySem.W PyProof.Rows
set_option maxRecDepth 100000
namespace Mine
noncomputable section
section
variable {C : Cx} {A : Around} {m : Loc} {H : CH} {s : Shared} {K : Frag} {mg mb : Str → Option Value} {Q : V → Loc → CH → Prop}
noncomputable def pickL {α : Type} (xs : List α) (lo hi st : Option Int) : List α := (sliceRange (sliceBounds lo hi st xs.length).1 (sliceBounds lo hi st xs.length).2.1 (sliceBounds lo hi st xs.length).2.2).filterMap (xs[·]?)
theorem VRs.at_iff {h : Heap} {xs : List V} {rs : List Value} (r : VRs h xs rs) (i : Nat) : (xs[i]? = none ∧ rs[i]? = none) ∨ ∃ x y, xs[i]? = some x ∧ rs[i]? = some y ∧ VR h x y := by
  cases e : xs[i]? with
  | none =>
    left
    have := List.getElem?_eq_none_iff.mp e
    exact ⟨rfl, List.getElem?_eq_none (by have := r.length; (first | lia | omega))⟩
  | some x => obtain ⟨y, h1, h2⟩ := r.get e; exact .inr ⟨x, y, rfl, h1, h2⟩
theorem VRs.of_get {h : Heap} : ∀ {xs : List V} {rs : List Value}, xs.length = rs.length → (∀ (j : Nat) (x : V), xs[j]? = some x → ∃ y, rs[j]? = some y ∧ VR h x y) → VRs h xs rs
  | [], [], _, _ => .nil
  | x :: xs, y :: ys, hl, hg => by
    obtain ⟨y', h1, h2⟩ := hg 0 x rfl
    cases h1
    exact .cons h2 (VRs.of_get (by simpa using hl) fun j x hx => hg (j + 1) x hx)
  | [], _ :: _, hl, _ => by simp at hl
  | _ :: _, [], hl, _ => by simp at hl
theorem VRs.picks {h : Heap} {xs : List V} {rs : List Value} (r : VRs h xs rs) : ∀ idx : List Nat, VRs h (idx.filterMap (xs[·]?)) (idx.filterMap (rs[·]?))
  | [] => .nil
  | i :: idx => by
    rcases r.at_iff i with ⟨h1, h2⟩ | ⟨x, y, h1, h2, h3⟩
    · rw [List.filterMap_cons_none h1, List.filterMap_cons_none h2]; exact r.picks idx
    · rw [List.filterMap_cons_some h1, List.filterMap_cons_some h2]; exact .cons h3 (r.picks idx)
theorem VRs.pick {h : Heap} {xs : List V} {items : Array Value} (r : VRs h xs items.toList) (hz : items.size = xs.length) (lo hi st : Option Int) : VRs h (pickL xs lo hi st) (slicePick items lo hi st).toList := by
  unfold pickL slicePick
  rw [hz]
  have := r.picks (sliceRange (sliceBounds lo hi st xs.length).1 (sliceBounds lo hi st xs.length).2.1 (sliceBounds lo hi st xs.length).2.2)
  simpa using this
theorem pickL_map {α β : Type} (f : α → β) (xs : List α) (lo hi st : Option Int) : pickL (xs.map f) lo hi st = (pickL xs lo hi st).map f := by
  unfold pickL
  rw [List.length_map, List.map_filterMap]
  congr 1
  funext i
  rw [List.getElem?_map]
theorem pickL_len {α : Type} (xs : List α) (lo hi st : Option Int) : (pickL xs lo hi st).length ≤ xs.length := by
  have h1 := slicePick_size_le (xs.map fun _ => Value.none).toArray lo hi st
  have h2 : (slicePick (xs.map fun _ => Value.none).toArray lo hi st).toList = pickL (xs.map fun _ => Value.none) lo hi st := by
    unfold slicePick pickL
    simp
  have h3 : (slicePick (xs.map fun _ => Value.none).toArray lo hi st).size = (pickL xs lo hi st).length := by
    rw [← Array.length_toList, h2, pickL_map, List.length_map]
  rw [h3] at h1
  simpa using h1
theorem slice_end {l : Addr} {xs : List V} {vl vu vs : Value} {lo hi st : Option Int} (S : St C m H s) (hl : LAt C H l xs) (hsz : xs.length ≤ sizeLine) (pl : IsPart vl lo) (pu : IsPart vu hi) (ps : IsPart vs st) (h0 : st ≠ some 0)
    (h : ∀ a, H a = none → Q (.ref a) m (H.set a (.list (pickL xs lo hi st)))) :
    wpAny (model C.prog C.w) A (getItem (.ref l) (.ref s.heap.objs.size)) (PV C H s Q) NoE { s with heap := s.heap.push { cls := .type "slice", data := .fields #[vl, vu, vs] } } := by
  obtain ⟨items, n, hI, hvs, hz⟩ := S.toHS.list hl
  refine wpAny_getItem_list_slice (hI.isList.push _) (Heap.IsSliceOf.new ..) pl pu ps h0 ?_ (by rw [hz]; exact hsz)
  have S1 : St C m H { s with heap := s.heap.push { cls := .type "slice", data := .fields #[vl, vu, vs] } } := S.more (tk := s.toks) (keep_push _ _)
  have k1 := keep_push s.heap { cls := .type "slice", data := .fields #[vl, vu, vs] }
  exact ⟨_, m, _, .ref, S1.alloc (tk := s.toks) (c := .list (pickL xs lo hi st)) ⟨_, 0, rfl, (hvs.pick hz lo hi st).keep (.of_keep k1)⟩, (After.more (tk := s.toks) k1).then S1 (.alloc (tk := s.toks)), h _ S1.toHS.fresh⟩
theorem EV_slice {value lower : PySem.Expr} {p pos : Pos} (h : EV C A value m H fun o m₁ H₁ => EV C A lower m₁ H₁ fun i m₂ H₂ => ∃ l xs k, o = .ref l ∧ i = .int k ∧ LAt C H₂ l xs ∧ xs.length ≤ sizeLine ∧ ∀ a, H₂ a = none → Q (.ref a) m₂ (H₂.set a (.list (pickL xs (some k) none none)))) : EV C A (.Subscript value (.Slice (some lower) none none p) pos) m H Q := fun s S => by
  refine Subscript_ (wpAny_mono (h s S) ?_ fun _ _ x => x)
  rintro a s₁ ⟨v, m₁, H₁, ra, S₁, af₁, h₁⟩
  refine wpAny_Slice (wpAny_mono (h₁ s₁ S₁) ?_ fun _ _ x => x)
  rintro b s₂ ⟨i, m₂, H₂, rb, S₂, af₂, l, xs, k, rfl, rfl, hl, hsz, hq⟩
  rw [evalPart_none]
  refine wpAny_pure (wpAny_pure ?_)
  rw [ra.ref_inv]
  obtain ⟨t, rfl⟩ := rb.int_inv
  obtain ⟨items, n, hI, hvs, hz⟩ := S₂.toHS.list hl
  exact tail_any (ops := [.ref s₂.heap.objs.size, .ref l]) (hI.isList.push _).typeIs list_getitem_lookup (wpAny_mono (slice_end S₂ hl hsz (.int k t) .none .none (by simp) hq) (fun _ _ x => x.mono S₂ (af₁.then S₁ af₂)) fun _ _ x => x) rfl
theorem EV_sliceStep {value lower st : PySem.Expr} {p pos : Pos} (h : EV C A value m H fun o m₁ H₁ => EV C A lower m₁ H₁ fun i m₂ H₂ => EV C A st m₂ H₂ fun j m₃ H₃ => ∃ l xs k c, o = .ref l ∧ i = .int k ∧ j = .int c ∧ c ≠ 0 ∧ LAt C H₃ l xs ∧ xs.length ≤ sizeLine ∧ ∀ a, H₃ a = none → Q (.ref a) m₃ (H₃.set a (.list (pickL xs (some k) none (some c))))) : EV C A (.Subscript value (.Slice (some lower) none (some st) p) pos) m H Q := fun s S => by
  refine Subscript_ (wpAny_mono (h s S) ?_ fun _ _ x => x)
  rintro a s₁ ⟨v, m₁, H₁, ra, S₁, af₁, h₁⟩
  refine wpAny_Slice (wpAny_mono (h₁ s₁ S₁) ?_ fun _ _ x => x)
  rintro b s₂ ⟨i, m₂, H₂, rb, S₂, af₂, h₂⟩
  rw [evalPart_none]
  refine wpAny_pure (wpAny_mono (h₂ s₂ S₂) ?_ fun _ _ x => x)
  rintro c s₃ ⟨j, m₃, H₃, rc, S₃, af₃, l, xs, k, c, rfl, rfl, rfl, hc, hl, hsz, hq⟩
  rw [ra.ref_inv]
  obtain ⟨t, rfl⟩ := rb.int_inv
  obtain ⟨u, rfl⟩ := rc.int_inv
  obtain ⟨items, n, hI, hvs, hz⟩ := S₃.toHS.list hl
  exact tail_any (ops := [.ref l, .ref s₃.heap.objs.size]) (hI.isList.push _).typeIs list_getitem_lookup (wpAny_mono (slice_end S₃ hl hsz (.int k t) .none (.int c u) (by simpa using hc) hq) (fun _ _ x => x.mono S₃ ((af₁.then S₁ af₂).then S₂ af₃)) fun _ _ x => x) rfl
theorem ints_all {h : Heap} : ∀ {ns : List Int} {rs : List Value}, VRs h (ns.map .int) rs → IntsAre rs ns
  | [], rs, r => by have := r.nil_inv; subst this; exact .nil
  | n :: ns, rs, r => by
    obtain ⟨y, ys, rfl, a, b⟩ := r.cons_inv
    obtain ⟨t, rfl⟩ := a.int_inv
    exact .cons n t (ints_all b)
theorem ints_vrs {h : Heap} {rs : List Value} {ns : List Int} (r : IntsAre rs ns) : VRs h (ns.map .int) rs := by
  induction r with
  | nil => exact .nil
  | cons n t _ ih => exact .cons .int ih
theorem CV_sum {l : Addr} {ns : List Int} (hA : A.handled = none) (hl : LAt C H l (ns.map .int)) (h : Q (.int ns.sum) m H) : CV C A (.con (.builtin "sum")) [.ref l] [] m H Q := fun s rf rs rkw S hf hva hk => by
  have := hk.nil_inv; subst this
  rw [hf.con_inv]
  obtain ⟨x, rfl, hx⟩ := one_inv hva
  rw [hx.ref_inv]
  obtain ⟨items, n, hI, hvs, hz⟩ := S.toHS.list hl
  have hi := ints_all hvs
  obtain ⟨xs, hxs⟩ := hi.allInts.items
  rw [Array.toArray_toList] at hxs
  subst hxs
  refine sum_intListG hA hI.isList fun h' tk t' hk => ?_
  have e : preSum (numAt xs) xs.size = ns.sum := by
    rw [preSum_eq, List.take_of_length_le (by simp), ← hi.numsOf, nums_intItems]
  rw [e]
  exact ⟨_, m, H, .int, S.more (tk := tk) hk, .more (tk := tk) hk, h⟩
theorem CV_sorted_ints {l : Addr} {ns : List Int} (hl : LAt C H l (ns.map .int)) (h64 : ns.length < 64)
    (h : ∀ (D : Addr) (ms : List Int), H D = none → C.h₀.get? D = none → ms.Perm ns → ms.Pairwise (· ≤ ·) → Q (.ref D) m (H.set D (.list (ms.map .int)))) : CV C A (.con (.builtin "sorted")) [.ref l] [] m H Q := fun s rf rs rkw S hf hva hk => by
  have := hk.nil_inv; subst this
  rw [hf.con_inv]
  obtain ⟨x, rfl, hx⟩ := one_inv hva
  rw [hx.ref_inv]
  obtain ⟨items, n, hI, hvs, hz⟩ := S.toHS.list hl
  have hi := ints_all hvs
  refine sorted_ints (vs := items.toList) (by rw [Array.toArray_toList]; exact hI.isList) hi (by rw [hi.length]; exact h64) fun out ns' a1 a2 a3 => ?_
  have keep : ∀ b o, s.heap.get? b = some o → (sortedAll s.heap items.toList out).get? b = some o := fun b o e => sortedAll_old e
  obtain ⟨e, hD⟩ := sortedAll_at s.heap items.toList out
  have hn : s.heap.get? (s.heap.objs.size + 1) = none := by
    cases q : s.heap.get? (s.heap.objs.size + 1) with
    | none => rfl
    | some o => exact absurd (Heap.lt_size q) (Nat.not_lt.mpr (Nat.le_succ _))
  have S2 : St C m H { s with heap := sortedAll s.heap items.toList out } := S.more (tk := s.toks) keep
  have hDb := S.freshb' hn
  have S3 := S2.toHS.adopt (c := .list (ns'.map .int)) hDb hD ⟨out, e, rfl, ints_vrs a1⟩
  have a4 : AfterC H s (H.set (s.heap.objs.size + 1) (.list (ns'.map .int))) { s with heap := sortedAll s.heap items.toList out } := (AfterC.more (tk := s.toks) keep).adopt hn
  have hDH : H (s.heap.objs.size + 1) = none := by
    cases q : H (s.heap.objs.size + 1) with
    | none => rfl
    | some c => obtain ⟨_, o, ho, _⟩ := S.own _ c q; rw [hn] at ho; cases ho
  exact ⟨_, m, _, .ref, S.called S3 a4, a4.after, h _ ns' hDH hDb a2 a3⟩
structure Iters (C : Cx) (A : Around) (v : V) (H : CH) (c : CObj) (xs : List V) (ok : CH → Prop) : Prop where
  make : ∀ {m : Loc} {Q : V → Loc → CH → Prop}, (∀ I, H I = none → C.h₀.get? I = none → Q (.ref I) m (H.set I c)) → CV C A (.con (.builtin "iter")) [v] [] m H Q
  loop : ∀ I, H I = none → ∃ ob nx, Prot C A I ob nx ∧ (∀ H s i o, HS C H s → H I = none → s.heap.get? I = some o → ob i s.heap o → nx H i = some none → wpAny (model C.prog C.w) A (pyNext (.ref I)) (fun r s' => DoneR I s r s' ∧ ∃ o', s'.heap.get? I = some o') NoE s) ∧
    (∀ s, HS C (H.set I c) s → ∃ o, s.heap.get? I = some o ∧ ob 0 s.heap o) ∧ ∀ H' i, ok H' → nx H' i = some xs[i]?
theorem iters_list {l : Addr} {xs : List V} (hA : A.handled = none) (hl : H l = some (.list xs)) : Iters C A (.ref l) H (.liter l 0) xs (fun H' => H' l = some (.list xs)) where
  make := fun h => CV_iter (.own hl) h
  loop := fun I hI => by
    have nxl : ∀ H i x, nxList l H i = some x → ∃ xs, LAt C H l xs ∧ x = xs[i]? := fun H i x e => by
      unfold nxList at e
      split at e
      · rename_i xs hx; cases e; exact ⟨xs, .own hx, rfl⟩
      · cases e
    refine ⟨_, _, prot_list (C := C) (A := A) (I := I) (l := l) (nx := nxList l) hA (fun e => by rw [e, hI] at hl; cases hl) nxl, fun H s i o S _ ho hob hn => ?_, fun s S => ⟨_, S.liter CH.set_same, rfl, rfl⟩, fun H' i ok => by unfold nxList; rw [ok]⟩
    obtain ⟨ys, hl', hv⟩ := nxl H i _ hn
    obtain ⟨items, n, hL, hvs, hz⟩ := S.list hl'
    have : items[i]? = none := by
      have : ys.length ≤ i := List.getElem?_eq_none_iff.mp hv.symm
      exact Array.getElem?_eq_none (by (first | lia | omega))
    exact pyNext_end hA ⟨o, ho, hob.1, hob.2⟩ hL.isList this fun h' o' he ho' => ⟨⟨h', s.toks, rfl, rfl, he⟩, o', ho'⟩
theorem rngNext_end {E : Value → Shared → Prop} {it : Addr} {x left step : Int} {Q : Option Value → Shared → Prop} (hh : A.handled = none) (hit : IsRangeIter s.heap it x left step) (hleft : left ≤ 0)
    (hQ : ∀ h' o', Heap.ExtBut it s.heap h' → h'.get? it = some o' → Q none { s with heap := h' }) : wpAny (model C.prog C.w) A (pyNext (.ref it)) Q E s := by
  have hT : s.TypeIs (.ref it) "range_iterator" := ⟨_, hit, rfl⟩
  unfold pyNext
  refine wpAny_bind (wpAny_attempt (wpAny_callSpecial?_slot (name := Str.ofString "__next__") hT F.slot_range_iterator_next
    (wpAny_call_entry F.slot_range_iterator_next hT F.entry_range_iterator_next ?_ (F.args_range_iterator_next_1 _))))
  show wpAny _ _ (field (.ref it) 0 >>= _) _ _ s
  refine wpAny_bind (wpAny_field hit rfl (x := rawInt x) rfl ?_)
  show wpAny _ _ (field (.ref it) 1 >>= _) _ _ s
  refine wpAny_bind (wpAny_field hit rfl (x := rawInt left) rfl ?_)
  show wpAny _ _ (field (.ref it) 2 >>= _) _ _ s
  refine wpAny_bind (wpAny_field hit rfl (x := rawInt step) rfl ?_)
  show wpAny _ _ (if left ≤ 0 then _ else _) _ _ s
  rw [if_pos hleft]
  refine wpAny_bind (wpAny_rule ?_)
  refine wpAny_bind ?_
  show wpAny _ _ (newExc (.type "StopIteration") [] >>= _) _ _ _
  refine wpAny_bind ?_
  simp only [newExc, newTuple]
  refine wpAny_bind (wpAny_newObj_type ?_ (by size_fits))
  refine wpAny_bind (m := firstArgMember _ _) (wpAny_of_eq (a := Value.none) (by first | rfl | (simp only [firstArgMember]; rfl)) ?_)
  refine wpAny_newObj_type ?_ (by size_fits)
  simp only [raiseNew]
  refine wpAny_bind (wpAny_handled ?_)
  rw [show A.in1.handled = none from hh]
  refine wpAny_bind (wpAny_pure (wpAny_throw ?_))
  refine wpAny_bind (wpAny_isInstance (T := "StopIteration") (b := true) ⟨_, Heap.get?_push_size _ rfl, rfl⟩ isSubtype_stop ?_)
  refine wpAny_pure (hQ _ _ (fun b o _ e => Heap.get?_push_of_some _ (Heap.get?_push_of_some _ e)) (Heap.get?_push_of_some _ (Heap.get?_push_of_some _ hit)))
noncomputable abbrev rngIt (a n c : Int) : Obj := { cls := .type "range_iterator", data := .fields #[rawInt a, rawInt n, rawInt c] }
theorem iters_rng {n : Nat} (hA : A.handled = none) (hn : n < 2 ^ 62) : Iters C A (.rng 0 n 1) H (.raw (rngIt 0 n 1)) (rangeInts 0 1 n) (fun _ => True) where
  make := fun {m Q} h s rf rs rkw S hf hva hk => by
    have := hk.nil_inv; subst this
    rw [hf.con_inv]
    obtain ⟨x, rfl, hx⟩ := one_inv hva
    obtain ⟨z, t, u, w, rfl, ho⟩ := hx.rng_inv
    refine call_function_entry (by decide +kernel) (by decide +kernel) kdk_entry_iter (kdk_args_iter _) ?_
    unfold Builtin.«iter»
    refine wpAny_bind (m := someArgs "iter" 1 2 _) (wpAny_of_eq (a := [Value.ref z]) (by first | rfl | kernel_rfl) ?_)
    show wpAny _ _ (pyIter (.ref z) >>= _) _ _ _
    refine wpAny_bind (wpAny_pyIter_range ho (small_one (by (first | lia | omega)) (by (first | lia | omega)) (by (first | lia | omega)) (by (first | lia | omega))) ?_)
    have e : Builtin.Range.rangeSize 0 n 1 = n := by rw [rangeSize_one]; split <;> (first | lia | omega)
    rw [e]
    refine wpAny_pure ⟨_, rfl, _, m, _, .ref, S.alloc (tk := s.toks) (c := .raw (rngIt 0 n 1)) ⟨rfl, rfl, ?_⟩, .alloc (tk := s.toks), h _ S.toHS.fresh S.toHS.freshb⟩
    exact not_imm_cls (T := "range_iterator") rfl (by decide) (by intro vs x t e q; cases e; cases q)
  loop := fun I hI => by
    refine ⟨_, _, prot_range (a := 0) (c := 1) (n := n) hA, fun H s i o S _ ho hob hn => ?_, fun s S => ?_, fun H' i ok => rfl⟩
    · subst hob
      refine rngNext_end hA ho ?_ fun h' o' he ho' => ⟨⟨h', s.toks, rfl, rfl, he⟩, o', ho'⟩
      rw [rangeInts_get] at hn
      by_cases hi : i < n
      · rw [if_pos hi] at hn; cases hn
      · (first | lia | omega)
    · obtain ⟨_, o, ho, e, _, _⟩ := S.own I _ CH.set_same
      refine ⟨o, ho, e.trans ?_⟩
      simp [rngIt]
theorem ES_for_iters {target : PySem.Expr} {x : Str} {px : Pos} {body orelse : List Stmt} {p : Pos} {Q : Fl → Loc → CH → Prop} {I : Addr} {v : V} {c : CObj} {xs : List V} {ok : CH → Prop} (it : Iters C A v H c xs ok) (hI : H I = none) (hm : m.lookup x = some (.ref I)) (m₂ : Loc) (J : Nat → Loc → CH → Prop) (hsub : Sub m₂ m) (h0 : J 0 m₂ H)
    (turn : ∀ i m H, J i m H → ok H ∧ (∀ x, xs[i]? = some x → ASG C A target x m H fun m' H' => EX C A body m' H' (Turn Q (NextJ J (i + 1)))) ∧ (i = xs.length → EX C A orelse m H Q))
    (hs : ∀ y, foldedSetIterable (.Name x px) C.env y = pure y := by intro _; with_unfolding_all rfl)
    (hk : C.env.scope.kind = .function := by with_unfolding_all rfl) (hl : C.env.kindOf x = some .local := by with_unfolding_all rfl) (hd : (x == ("__debug__" : Str)) = false := by decide) : ES C A (.For target (.Name x px) body orelse p) m (H.set I c) Q := by
  obtain ⟨ob, nx, P, done, h1, h2⟩ := it.loop I hI
  have e0 : (H.set I c).del I = H := by
    funext b; unfold CH.del CH.set; split
    · subst b; exact hI.symm
    · rfl
  refine ES_for_own (N := xs.length) P done hm CH.set_same h1 m₂ (fun i m H => J i m H ∧ i ≤ xs.length) hsub ⟨by rw [e0]; exact h0, Nat.zero_le _⟩ (fun i m H ⟨hj, hi⟩ => ⟨hi, ?_⟩) hs hk hl hd
  obtain ⟨t1, t2, t3⟩ := turn i m H hj
  rcases Nat.lt_or_ge i xs.length with hlt | hge
  · have hx : xs[i]? = some xs[i] := List.getElem?_eq_getElem hlt
    refine .inl ⟨xs[i], (h2 H i t1).trans (by rw [hx]), fun s r S hr => wpAny_mono (t2 _ hx s r S hr) (fun _ s' ⟨m', H', S', af', q⟩ => ⟨m', H', S', af', q.mono fun fl m₂ H₂ hq => ?_⟩) fun _ _ x => x⟩
    cases fl with
    | next => obtain ⟨m₃, a, b⟩ := hq; exact ⟨m₃, a, b, hlt⟩
    | cont => obtain ⟨m₃, a, b⟩ := hq; exact ⟨m₃, a, b, hlt⟩
    | brk => exact hq
    | ret v => exact hq
  · exact .inr ⟨(h2 H i t1).trans (by rw [List.getElem?_eq_none hge]), t3 (by (first | lia | omega))⟩
theorem CV_list_rng {n : Nat} (hA : A.handled = none) (hn : n < 2 ^ 20) (h : ∀ a, H a = none → C.h₀.get? a = none → Q (.ref a) m (H.set a (.list (rangeInts 0 1 n)))) : CV C A (.con (.type "list")) [.rng 0 n 1] [] m H Q := fun s rf rs rkw S hf hva hk => by
  have := hk.nil_inv; subst this
  rw [hf.con_inv]
  obtain ⟨x, rfl, hx⟩ := one_inv hva
  obtain ⟨z, t, u, w, rfl, ho⟩ := hx.rng_inv
  have e : Builtin.Range.rangeSize 0 n 1 = n := by rw [rangeSize_one]; split <;> (first | lia | omega)
  refine call_list_range hA ho (small_one (by (first | lia | omega)) (by (first | lia | omega)) (by (first | lia | omega)) (by (first | lia | omega))) e (by (first | lia | omega)) fun h' tk acc c hkp hD hit => ?_
  have hn0 : s.heap.get? s.heap.objs.size = none := size_none
  have S2 : St C m H { s with heap := h', toks := tk } := S.more (tk := tk) hkp
  have hr : VRs h' (rangeInts 0 1 n) acc.toList := by
    refine VRs.of_get (by rw [show (rangeInts 0 1 n).length = n from by unfold rangeInts; simp, Array.length_toList, hit.1]) fun j x hx => ?_
    rw [rangeInts_get] at hx
    by_cases hj : j < n
    · rw [if_pos hj] at hx; cases hx
      have hja : j < acc.size := by rw [hit.1]; exact hj
      have hv : acc[j]? = some acc[j] := Array.getElem?_eq_getElem hja
      obtain ⟨tk', e'⟩ := hit.2 j _ hv
      exact ⟨acc[j], by simpa using hv, by rw [e']; exact .int⟩
    · rw [if_neg hj] at hx; cases hx
  have S3 := S2.toHS.adopt (c := .list (rangeInts 0 1 n)) S.freshb hD ⟨acc, c, rfl, hr⟩
  have a3 : AfterC H s (H.set s.heap.objs.size (.list (rangeInts 0 1 n))) { s with heap := h', toks := tk } := (AfterC.more (tk := tk) hkp).adopt hn0
  exact ⟨_, m, _, .ref, S.called S3 a3, a3.after, h _ S.fresh S.freshb⟩
end
end
end Mine
end
section
open PySem PySem.Calls PySem.W PyProof.Rows
set_option maxRecDepth 100000
namespace Mine
noncomputable section
/-- all that stands in a heap, but for the names -/
noncomputable def allBut (h : Heap) (L : Addr) : List (Addr × Obj) := (List.range h.objs.size).filterMap fun b => if b = L then none else (h.get? b).map fun o => (b, o)
theorem mem_allBut {h : Heap} {L b : Addr} {o : Obj} : (b, o) ∈ allBut h L ↔ h.get? b = some o ∧ b ≠ L := by
  unfold allBut
  rw [List.mem_filterMap]
  constructor
  · rintro ⟨c, hc, e⟩
    split at e
    · cases e
    · rename_i hne
      obtain ⟨o', ho', e'⟩ := Option.map_eq_some_iff.mp e
      cases e'
      exact ⟨ho', hne⟩
  · rintro ⟨ho, hne⟩
    exact ⟨b, List.mem_range.mpr (Heap.lt_size ho), by rw [if_neg hne, ho]; rfl⟩
noncomputable abbrev noHeap : Heap := { objs := #[] }
section
variable {C : Cx} {A : Around} {m : Loc} {H : CH} {s : Shared} {K : Frag} {mg mb : Str → Option Value} {Q : V → Loc → CH → Prop}
theorem no_get {b : Addr} : noHeap.get? b = none := by
  cases e : noHeap.get? b with
  | none => rfl
  | some o => exact absurd (Heap.lt_size e) (Nat.not_lt_zero _)
theorem fr_all {h : Heap} {L : Addr} {mr : Str → Option Value} (hn : h.Ns L mr) : Fr noHeap L h mr ∧ News noHeap L h (allBut h L) :=
  ⟨⟨hn, fun b o e => (by rw [no_get] at e; cases e), Nat.zero_le _⟩, fun p hp => (by obtain ⟨h1, h2⟩ := mem_allBut.mp (show (p.1, p.2) ∈ _ from hp); exact ⟨h1, h2, no_get⟩)⟩
theorem St.of_fr (S : St C m H s) {mr : Str → Option Value} (hk : Knows s.heap m mr) {h' : Heap} {tk : Nat} (F : Fr noHeap C.env.locals h' mr) (N : News noHeap C.env.locals h' (allBut s.heap C.env.locals)) :
    St C m H { s with heap := h', toks := tk } ∧ After C H s H { s with heap := h', toks := tk } := by
  have keep : ∀ b o, b ≠ C.env.locals → s.heap.get? b = some o → h'.get? b = some o := fun b o hb e => (N (b, o) (mem_allBut.mpr ⟨e, hb⟩)).1
  obtain ⟨mr0, ⟨o0, es0, ep0, ho0, hd0, _⟩, _⟩ := S.ns
  obtain ⟨o1, es1, ep1, ho1, hd1, hk1, hf1⟩ := id F.ns
  have tk' : TupKeep s.heap h' := fun b o i e => keep b o (fun q => by subst q; rw [e] at ho0; cases ho0; exact i.2.2.1 _ _ hd0) e
  refine ⟨⟨⟨fun b o e => keep b o (fun q => by subst q; rw [S.locb] at e; cases e) (S.base b o e), fun b c e => ?_, S.gens⟩, ⟨mr, F.ns, hk.keep tk'⟩, S.loc, S.locb, fun e he => ?_⟩, ?_⟩
  · obtain ⟨x, o, ho, r⟩ := S.own b c e
    exact ⟨x, o, keep b o (fun q => by subst q; rw [S.loc] at e; cases e) ho, r.keep tk'⟩
  · obtain ⟨a1, a2, a3, f, o, es, ep, hf, ho, hd, hn, hb⟩ := S.frs e he
    by_cases q : f = C.env.locals
    · subst q; exact ⟨a1, a2, a3, _, o1, es1, ep1, hf, ho1, hd1, hn, hb⟩
    · exact ⟨a1, a2, a3, f, o, es, ep, hf, keep f o q ho, hd, hn, hb⟩
  · refine ⟨fun b o hb _ e => ⟨o, keep b o hb e, .refl o⟩, fun b o hn _ => hn, fun b o e => ?_, rfl, rfl⟩
    by_cases q : b = C.env.locals
    · subst q; exact ⟨o1, ho1⟩
    · exact ⟨o, keep b o q e⟩
theorem asc_all {cmp : Nat → Nat → (Bool → Shared → Prop) → Shared → Prop} {p : Array Nat} {N : Nat} (hc : ∀ k, 0 < k → k < N → ∀ (C : Bool → Shared → Prop), C false s → cmp (p.getD k 0) (p.getD (k - 1) 0) C s) {Q : Nat → Shared → Prop} (hq : Q N s) : ∀ f n, n + f = N → 0 < n → (kas_asc p f n).kasWp cmp Q s
  | 0, n, e, _ => by
    have : n = N := by (first | lia | omega)
    subst this; exact hq
  | f + 1, n, e, h0 => by
    show cmp (p.getD n 0) (p.getD (n - 1) 0) _ s
    refine hc n h0 (by (first | lia | omega)) _ ?_
    show (if false = true then KasT.ret n else kas_asc p f (n + 1)).kasWp cmp Q s
    rw [if_neg (by simp)]
    exact asc_all hc hq f (n + 1) (by (first | lia | omega)) (by (first | lia | omega))
theorem sort_asc {cmp : Nat → Nat → (Bool → Shared → Prop) → Shared → Prop} {N : Nat} (hN : 0 < N) (hc : ∀ k, 0 < k → k < N → ∀ (C : Bool → Shared → Prop), C false s → cmp k (k - 1) C s) {Q : Array Nat → Shared → Prop} (hq : Q (List.toArray (List.range N)) s) : (kas_sort N).kasWp cmp Q s := by
  have g : ∀ k, k < N → (List.toArray (List.range N)).getD k 0 = k := fun k hk => by simp [Array.getD, hk]
  unfold kas_sort
  rw [KasT.kasWp_bind]
  unfold kas_count
  rw [KasT.kasWp_bind]
  refine asc_all (N := N) (fun k h1 h2 C hC => by rw [g k h2, g (k - 1) (by (first | lia | omega))]; exact hc k h1 h2 C hC) ?_ (N - 1) 1 (by (first | lia | omega)) (by (first | lia | omega))
  rw [if_pos (by simp)]
  show (if N < N then _ else _ : KasT (Array Nat)).kasWp cmp Q s
  rw [if_neg (Nat.lt_irrefl _)]
  exact hq
theorem lt_pairs {A : Around} {E : Value → Shared → Prop} {a b c d : Int} {x y : Value} {Q : Bool → Shared → Prop} (hx : VR s.heap (.tup [.int a, .int b]) x) (hy : VR s.heap (.tup [.int c, .int d]) y) (h : Q (decide (a < c ∨ (a = c ∧ b < d))) s) :
    wpAny (model C.prog C.w) A (keyLt' (tuples' true) x y) Q E s := by
  obtain ⟨ax, ix, nx, rfl, hox, hvx⟩ := hx.tup_inv
  obtain ⟨ay, iy, ny, rfl, hoy, hvy⟩ := hy.tup_inv
  obtain ⟨p, q, rfl, hp, hq⟩ := hvx.two
  obtain ⟨u, v, rfl, hu, hv⟩ := hvy.two
  obtain ⟨t1, rfl⟩ := hp.int_inv; obtain ⟨t2, rfl⟩ := hq.int_inv; obtain ⟨t3, rfl⟩ := hu.int_inv; obtain ⟨t4, rfl⟩ := hv.int_inv
  refine wpAny_noRaise (kat_lt hox rfl hoy rfl ?_)
  show KatLex _ _ _ true _ Q [(Value.int a t1, Value.int c t3), (Value.int b t2, Value.int d t4)] 0 s
  refine kat_cons (wpAny_eqBool_int (kat_go (fun e => kat_yes (kat_cons (wpAny_eqBool_int (kat_go (fun e2 => kat_yes (kat_nil ?_)) fun e2 => kat_no ?_)))) fun e => kat_no ?_))
  · have e1 : a = c := by simpa using e
    have e3 : b = d := by simpa using e2
    rw [decide_eq_false (by (first | lia | omega))] at h
    exact h
  · have e1 : a = c := by simpa using e
    have e3 : ¬ b = d := by simpa using e2
    refine kat_one _ _ ?_
    rw [show decide (a < c ∨ (a = c ∧ b < d)) = decide (b < d) from by congr 1; rw [eq_iff_iff]; (first | lia | omega)] at h
    exact PySem.P.lt_int h
  · have e1 : ¬ a = c := by simpa using e
    rw [show decide (a < c ∨ (a = c ∧ b < d)) = decide (a < c) from by congr 1; rw [eq_iff_iff]; (first | lia | omega)] at h
    exact oneLt_int h
/-- fewer than two -/
theorem sort_short {a : Addr} {vs : List Value} {n : Nat} {E : Value → Shared → Prop} {P : PySem.Fin → Shared → Prop} (ho : s.heap.get? a = some (seqObj "list" vs.toArray n)) (h2 : vs.length < 2)
    (h : P (.done (.ret .none)) { s with heap := sortedHeap s.heap a vs vs.toArray }) : wpAny (model C.prog C.w) A (Builtin.«list.sort» ⟨[.ref a], []⟩) P E s := by
  have ha : a < s.heap.objs.size := Heap.lt_size ho
  have hz : vs.toArray.size < 2 := by simpa using h2
  rw [list_sort_plain]
  refine wpAny_bind (listItems_at ho rfl (wpAny_bind (listUpdate_at ho rfl ?_ (hsz := by rw [sizeLine_eq]; (first | lia | omega)))))
  obtain ⟨e1, ho1⟩ : ∃ e1, (s.heap.update a (Obj.mapSeq fun _ => #[])).get? a = some (seqObj "list" #[] e1) := ⟨_, get?_update_seq ho (fun _ => #[])⟩
  refine wpAny_bind (seqEpoch_at ho1 rfl (wpAny_bind (wpAny_newTuple (wpAny_bind (wpAny_newList (wpAny_holding ?_))) (by rw [sizeLine_eq]; simp; (first | lia | omega)))))
  have ho6 : (((s.heap.update a (Obj.mapSeq fun _ => #[])).push (seqObj "tuple" vs.toArray 0)).push (seqObj "list" #[] 0)).get? a = some (seqObj "list" #[] e1) :=
    Heap.get?_push_of_some _ (Heap.get?_push_of_some _ ho1)
  show wpAny (model C.prog C.w) A _ P E { s with heap := ((s.heap.update a (Obj.mapSeq fun _ => #[])).push (seqObj "tuple" vs.toArray 0)).push (seqObj "list" #[] 0) }
  dsimp only
  rw [if_pos hz, if_pos hz]
  refine wpAny_bind (wpAny_pure ?_)
  rw [StateT.run_pure]
  refine wpAny_bind (wpAny_pure ?_)
  dsimp only
  have hm : (arrOf (SortSt.mk' general' (vs.toArray.zip vs.toArray) #[] 7 none)).map (·.2) = vs.toArray := by
    show (vs.toArray.zip vs.toArray).map (·.2) = vs.toArray
    exact Array.map_snd_zip (Nat.le_refl _)
  refine wpAny_bind (seqEpoch_at ho6 rfl (wpAny_bind (listUpdate_at ho6 rfl ?_ (hsz2 := by rw [hm, sizeLine_eq]; (first | lia | omega)))))
  simp only [bne_self_eq_false, Bool.false_eq_true, if_false]
  rw [hm]
  exact wpAny_pure h
theorem sorted_short {l : Addr} {vs : List Value} {E : Value → Shared → Prop} {Q : Value → Shared → Prop} (hl : s.heap.IsList l vs.toArray) (h2 : vs.length < 2)
    (h : Q (.ref (s.heap.objs.size + 1)) { s with heap := sortedAll s.heap vs vs.toArray }) : wpAny (model C.prog C.w) A (call (.builtin "sorted") [.ref l]) Q E s := by
  refine Calls.call_function_entry kind_sorted plain_sorted entry_sorted (args_sorted1 _) ?_
  unfold Builtin.«sorted»
  refine wpAny_bind (m := checkCount "sorted" 1 1 _) (wpAny_pure ?_)
  refine wpAny_bind (collect_list hl (wpAny_bind (wpAny_newList ?_ (by rw [sizeLine_eq]; (first | lia | omega)))) (by rw [sizeLine_eq]; (first | lia | omega)))
  have hsz : ((s.heap.push (seqObj "list" #[] 0)).update s.heap.objs.size (Obj.mapSeq (· ++ vs.toArray))).objs.size = s.heap.objs.size + 1 := by
    rw [Heap.size_update, size_push']
  have hoL : (((s.heap.push (seqObj "list" #[] 0)).update s.heap.objs.size (Obj.mapSeq (· ++ vs.toArray))).push (seqObj "list" vs.toArray 0)).get? (s.heap.objs.size + 1) = some (seqObj "list" vs.toArray 0) := by
    rw [← hsz]; exact Heap.get?_push_size _ rfl
  show wpAny _ _ _ _ _ { s with heap := ((s.heap.push (seqObj "list" #[] 0)).update s.heap.objs.size (Obj.mapSeq (· ++ vs.toArray))).push (seqObj "list" vs.toArray 0) }
  rw [hsz]
  refine wpAny_bind (wpAny_holding (wpAny_call_entry slot_list_sort ⟨_, hoL, rfl⟩ entry_list_sort (sort_short (C := C) hoL h2 ⟨_, rfl, ?_⟩) (args_list_sort _)))
  exact wpAny_pure ⟨_, rfl, h⟩
theorem kat_tups {h : Heap} : ∀ {ps : List (Int × Int)} {rs : List Value}, VRs h (ps.map fun p => V.tup [.int p.1, .int p.2]) rs → ∃ fs, KatTups h rs fs ∧ fs.length = ps.length ∧ ∀ v ∈ fs, ∃ i t, v = Value.int i t
  | [], rs, r => by have := r.nil_inv; subst this; exact ⟨[], .nil, rfl, by intro v hv; cases hv⟩
  | p :: ps, rs, r => by
    obtain ⟨y, ys, rfl, a, b⟩ := r.cons_inv
    obtain ⟨fs, h1, h2, h3⟩ := kat_tups b
    obtain ⟨ad, items, n, rfl, ho, hv⟩ := a.tup_inv
    obtain ⟨x, z, rfl, hx, hz⟩ := hv.two
    obtain ⟨t, rfl⟩ := hx.int_inv
    exact ⟨.int p.1 t :: fs, .cons ho rfl rfl rfl h1, by simp [h2], fun v hv => by
      rcases List.mem_cons.mp hv with rfl | hv
      · exact ⟨_, _, rfl⟩
      · exact h3 v hv⟩
theorem CV_sorted_pairs {l : Addr} {ps : List (Int × Int)} (hl : LAt C H l (ps.map fun p => V.tup [.int p.1, .int p.2])) (h64 : ps.length < 64)
    (hs : ∀ k p q, ps[k]? = some p → ps[k + 1]? = some q → ¬ (q.1 < p.1 ∨ (q.1 = p.1 ∧ q.2 < p.2)))
    (h : ∀ D : Addr, H D = none → C.h₀.get? D = none → Q (.ref D) m (H.set D (.list (ps.map fun p => V.tup [.int p.1, .int p.2])))) : CV C A (.con (.builtin "sorted")) [.ref l] [] m H Q := fun s rf rs rkw S hf hva hk => by
  have := hk.nil_inv; subst this
  rw [hf.con_inv]
  obtain ⟨x, rfl, hx⟩ := one_inv hva
  rw [hx.ref_inv]
  obtain ⟨items, n, hI, hvs, hz⟩ := S.toHS.list hl
  have hlen : items.toList.length = ps.length := by rw [← hvs.length, List.length_map]
  by_cases h2 : ps.length < 2
  · refine sorted_short (C := C) (vs := items.toList) (by rw [Array.toArray_toList]; exact hI.isList) (by rw [hlen]; exact h2) ?_
    rw [Array.toArray_toList]
    have keep : ∀ b o, s.heap.get? b = some o → (sortedAll s.heap items.toList items).get? b = some o := fun b o e => sortedAll_old e
    obtain ⟨e, hD⟩ := sortedAll_at s.heap items.toList items
    have hn : s.heap.get? (s.heap.objs.size + 1) = none := by
      cases q : s.heap.get? (s.heap.objs.size + 1) with
      | none => rfl
      | some o => exact absurd (Heap.lt_size q) (Nat.not_lt.mpr (Nat.le_succ _))
    have S2 : St C m H { s with heap := sortedAll s.heap items.toList items } := S.more (tk := s.toks) keep
    have hDb := S.freshb' hn
    have S3 := S2.toHS.adopt hDb hD (c := .list (ps.map fun p => V.tup [.int p.1, .int p.2])) ⟨items, e, rfl, hvs.keep (.of_keep keep)⟩
    have a4 : AfterC H s (H.set (s.heap.objs.size + 1) (.list (ps.map fun p => V.tup [.int p.1, .int p.2]))) { s with heap := sortedAll s.heap items.toList items } := (AfterC.more (tk := s.toks) keep).adopt hn
    have hDH : H (s.heap.objs.size + 1) = none := by
      cases q : H (s.heap.objs.size + 1) with
      | none => rfl
      | some c => obtain ⟨_, o, ho, _⟩ := S.own _ c q; rw [hn] at ho; cases ho
    exact ⟨_, m, _, .ref, S.called S3 a4, a4.after, h _ hDH hDb⟩
  · obtain ⟨mr, hns, hkn⟩ := S.ns
    obtain ⟨F0, N0⟩ := fr_all hns
    refine kat_sorted (vs := items.toList) F0 N0 (by rw [Array.toArray_toList]; exact hI.isList) (by rw [hlen]; (first | lia | omega)) (by rw [hlen]; exact h64) fun D e1 h' F' N' hlt => ?_
    have Ntl : News noHeap C.env.locals h' (allBut s.heap C.env.locals) := fun p hp => N' p (List.mem_cons_of_mem _ hp)
    obtain ⟨S1, af1⟩ := S.of_fr (tk := s.toks) hkn F' Ntl
    have hDL : D ≠ C.env.locals := (N' (D, _) List.mem_cons_self).2.1
    have hDn : s.heap.get? D = none := by
      cases q : s.heap.get? D with
      | none => rfl
      | some o => exact absurd (hlt (D, o) (mem_allBut.mpr ⟨q, hDL⟩)) (Nat.lt_irrefl _)
    have hv1 : VRs h' (ps.map fun p => V.tup [.int p.1, .int p.2]) items.toList := hvs.keep (af1.tup S)
    obtain ⟨fs, k1, k2, k3⟩ := kat_tups hv1
    refine kat_kind (T := .type "int") (fs := fs) k1 (by rw [k2]; (first | lia | omega)) (fun v hv => ?_) rfl ?_
    · obtain ⟨i, t, rfl⟩ := k3 v hv; exact Looks.of_pure rfl
    refine sort_asc (by rw [hlen]; (first | lia | omega)) (fun k hk0 hkl C' hC => ?_) ?_
    · rw [hlen] at hkl
      have e1 : (ps.map fun p => V.tup [.int p.1, .int p.2])[k]? = some (V.tup [.int ps[k].1, .int ps[k].2]) := by rw [List.getElem?_map, List.getElem?_eq_getElem hkl]; rfl
      have e2 : (ps.map fun p => V.tup [.int p.1, .int p.2])[k - 1]? = some (V.tup [.int ps[k - 1].1, .int ps[k - 1].2]) := by rw [List.getElem?_map, List.getElem?_eq_getElem (by (first | lia | omega))]; rfl
      obtain ⟨a, ha, hva'⟩ := hv1.get e1
      obtain ⟨b, hb, hvb⟩ := hv1.get e2
      show wpAny _ _ (keyLt' _ (items.toList.getD k Value.none) (items.toList.getD (k - 1) Value.none)) C' _ _
      rw [List.getD_eq_getElem?_getD, List.getD_eq_getElem?_getD, ha, hb]
      refine lt_pairs (C := C) hva' hvb ?_
      have := hs (k - 1) ps[k - 1] ps[k] (List.getElem?_eq_getElem (by (first | lia | omega))) (by rw [show k - 1 + 1 = k from by (first | lia | omega)]; exact List.getElem?_eq_getElem hkl)
      rw [decide_eq_false this]
      exact hC
    · refine KasFin.intro F' N' (.head fun p hp e => ?_) fun h'' c F2 N2 => ?_
      · have := hlt p hp; rw [e] at this; exact absurd this (Nat.lt_irrefl _)
      · have eo : ((List.toArray (List.range items.toList.length)).toList.map fun i => items.toList.getD i Value.none) = items.toList := by
          apply List.ext_getElem?
          intro i
          rw [List.getElem?_map]
          by_cases hi : i < items.toList.length
          · rw [show (List.toArray (List.range items.toList.length)).toList = List.range items.toList.length from rfl, List.getElem?_range hi, Option.map_some, List.getD_eq_getElem?_getD, List.getElem?_eq_getElem hi]; rfl
          · rw [List.getElem?_eq_none (by simp at hi ⊢; (first | lia | omega)), List.getElem?_eq_none (by (first | lia | omega))]; rfl
        rw [eo] at N2
        have N3 : News noHeap C.env.locals h'' (allBut s.heap C.env.locals) := fun p hp => N2 p (List.mem_cons_of_mem _ hp)
        obtain ⟨S2, af2⟩ := S.of_fr (tk := s.toks) hkn F2 N3
        have hD2 : h''.get? D = some (seqObj "list" items c) := by
          have := (N2 _ List.mem_cons_self).1
          rw [Array.toArray_toList] at this
          exact this
        have hDb := S.freshb' hDn
        have S3 := S2.toHS.adopt hDb hD2 (c := .list (ps.map fun p => V.tup [.int p.1, .int p.2])) ⟨items, c, rfl, hvs.keep (af2.tup S)⟩
        have hDH : H D = none := by
          cases q : H D with
          | none => rfl
          | some c => obtain ⟨_, o, ho, _⟩ := S.own _ c q; rw [hDn] at ho; cases ho
        obtain ⟨mr2, hn2, hk2⟩ := S2.ns
        refine ⟨_, m, _, .ref, ⟨S3, ⟨mr2, hn2, hk2⟩, by rw [CH.set_ne (Ne.symm hDL)]; exact S2.loc, S2.locb, fun e he => ?_⟩, ?_, h D hDH hDb⟩
        · obtain ⟨a1, a2, a3, f, o, es, ep, hf, ho, hd, hn, hb⟩ := S2.frs e he
          have hfD : f ≠ D := fun q => by
            obtain ⟨_, _, _, f', o', es', ep', hf', ho', _⟩ := S.frs e he
            rw [hf] at hf'; cases hf'; rw [q, hDn] at ho'; cases ho'
          exact ⟨a1, a2, a3, f, o, es, ep, hf, ho, hd, by rw [CH.set_ne hfD]; exact hn, hb⟩
        · exact ⟨af2.stay, fun b o hn e => by rw [CH.set_ne (fun q => by subst q; rw [hDn] at e; cases e)]; exact af2.grow b o hn e, af2.there, af2.drawn, af2.os⟩
end
end
end Mine
end
section
namespace Mine
noncomputable section
theorem suHas_lt {k : Nat} {o : Int} (h : 0 ≤ o ∧ o < k) : o.toNat < k := by omega
noncomputable def suHas (v : Nat) (ov : Nat → Int) (k : Nat) : Bool :=
  Nat.lt_wfRel.wf.fix (C := fun _ => Bool) (fun k f => if k = v then true else if h : 0 ≤ ov k ∧ ov k < k then f (ov k).toNat (suHas_lt h) else false) k
theorem suHas_eq (v : Nat) (ov : Nat → Int) (k : Nat) : suHas v ov k = if k = v then true else if h : 0 ≤ ov k ∧ ov k < k then suHas v ov (ov k).toNat else false :=
  Nat.lt_wfRel.wf.fix_eq (C := fun _ => Bool) _ k
noncomputable def suKids (N : Nat) (ov : Nat → Int) (j : Nat) : List Nat := (List.range N).filter fun k => ov k == (j : Int)
structure Tree (N : Nat) (ov : Nat → Int) : Prop where
  pos : 0 < N
  root : ov 0 = -1
  up : ∀ k, 0 < k → k < N → 0 ≤ ov k ∧ ov k < k
/-- the greatest of `b` and what stands at the first `n` places -/
noncomputable def supTo (f : Nat → Int) : Nat → Int → Int
  | 0, b => b
  | n + 1, b => max (supTo f n b) (f n)
structure Told (N : Nat) (ov : Nat → Int) (need : Nat → Int) (ord : Nat → List Nat) (srt : Nat → List Nat) : Prop where
  perm : ∀ j, j < N → (srt j).Perm (suKids N ov j)
  fall : ∀ j, j < N → (srt j).Pairwise fun a b => need b ≤ need a
  need : ∀ j, j < N → need j = supTo (fun i => i + need ((srt j).getD i 0)) (srt j).length ((srt j).length + 1)
  ord : ∀ j, j < N → ord j = ((srt j).map ord).flatten ++ [j]
section
variable {N : Nat} {ov : Nat → Int}
theorem suHas_self {v : Nat} : suHas v ov v = true := by rw [suHas_eq]; rw [if_pos rfl]
theorem suHas_step {v k : Nat} (hk : k ≠ v) (h : 0 ≤ ov k ∧ ov k < k) : suHas v ov k = suHas v ov (ov k).toNat := by
  conv => lhs; rw [suHas_eq]
  rw [if_neg hk, dif_pos h]
theorem suHas_no {v k : Nat} (hk : k ≠ v) (h : ¬ (0 ≤ ov k ∧ ov k < k)) : suHas v ov k = false := by
  rw [suHas_eq]
  rw [if_neg hk, dif_neg h]
theorem suHas_ge {v : Nat} : ∀ {k : Nat}, suHas v ov k = true → v ≤ k := by
  intro k
  induction k using Nat.strongRecOn with
  | _ k ih =>
    intro h
    by_cases hk : k = v
    · (first | lia | omega)
    · by_cases hb : 0 ≤ ov k ∧ ov k < k
      · rw [suHas_step hk hb] at h
        have := ih (ov k).toNat (by (first | lia | omega)) h
        (first | lia | omega)
      · rw [suHas_no hk hb] at h; cases h
theorem mem_kids {j k : Nat} : k ∈ suKids N ov j ↔ k < N ∧ ov k = j := by unfold suKids; simp
theorem kids_nodup {j : Nat} : (suKids N ov j).Nodup := List.Pairwise.filter _ List.nodup_range
theorem Tree.kid_gt (T : Tree N ov) {j k : Nat} (h : k ∈ suKids N ov j) : j < k := by
  obtain ⟨h1, h2⟩ := mem_kids.mp h
  by_cases h0 : k = 0
  · subst h0; rw [T.root] at h2; (first | lia | omega)
  · have := T.up k (by (first | lia | omega)) h1; (first | lia | omega)
theorem Tree.par (T : Tree N ov) {j k : Nat} (h : k ∈ suKids N ov j) : 0 ≤ ov k ∧ ov k < k ∧ (ov k).toNat = j := by
  have := T.kid_gt h
  obtain ⟨h1, h2⟩ := mem_kids.mp h
  (first | lia | omega)
theorem Tree.has_kid (T : Tree N ov) {v c : Nat} (hc : c ∈ suKids N ov v) : ∀ {k : Nat}, suHas c ov k = true → suHas v ov k = true := by
  intro k
  induction k using Nat.strongRecOn with
  | _ k ih =>
    intro h
    have hp := T.par hc
    have hg := T.kid_gt hc
    by_cases hk : k = c
    · subst hk
      rw [suHas_step (by (first | lia | omega)) ⟨hp.1, hp.2.1⟩, hp.2.2]
      exact suHas_self
    · by_cases hb : 0 ≤ ov k ∧ ov k < k
      · have hck := suHas_ge h
        rw [suHas_step hk hb] at h
        rw [suHas_step (by (first | lia | omega)) hb]
        exact ih _ (by (first | lia | omega)) h
      · rw [suHas_no hk hb] at h; cases h
theorem Tree.has_one (T : Tree N ov) {v c c' : Nat} (hc : c ∈ suKids N ov v) (hc' : c' ∈ suKids N ov v) : ∀ {k : Nat}, suHas c ov k = true → suHas c' ov k = true → c = c' := by
  intro k
  induction k using Nat.strongRecOn with
  | _ k ih =>
    intro h h'
    have hp := T.par hc
    have hg := T.kid_gt hc
    have hp' := T.par hc'
    have hg' := T.kid_gt hc'
    by_cases hk : k = c
    · subst hk
      by_cases e : k = c'
      · exact e
      · rw [suHas_step e ⟨hp.1, hp.2.1⟩, hp.2.2] at h'
        have := suHas_ge h'; (first | lia | omega)
    · by_cases hk' : k = c'
      · subst hk'
        rw [suHas_step hk ⟨hp'.1, hp'.2.1⟩, hp'.2.2] at h
        have := suHas_ge h; (first | lia | omega)
      · by_cases hb : 0 ≤ ov k ∧ ov k < k
        · rw [suHas_step hk hb] at h
          rw [suHas_step hk' hb] at h'
          exact ih _ (by (first | lia | omega)) h h'
        · rw [suHas_no hk hb] at h; cases h
theorem Tree.has_via (T : Tree N ov) {v : Nat} : ∀ {k : Nat}, k < N → suHas v ov k = true → k ≠ v → ∃ c ∈ suKids N ov v, suHas c ov k = true := by
  intro k
  induction k using Nat.strongRecOn with
  | _ k ih =>
    intro hkN h hk
    have hb : 0 ≤ ov k ∧ ov k < k := by
      apply Classical.byContradiction
      intro hb
      rw [suHas_no hk hb] at h; cases h
    rw [suHas_step hk hb] at h
    by_cases e : (ov k).toNat = v
    · exact ⟨k, mem_kids.mpr ⟨hkN, by (first | lia | omega)⟩, suHas_self⟩
    · obtain ⟨c, hc, h2⟩ := ih _ (by (first | lia | omega)) (by (first | lia | omega)) h e
      refine ⟨c, hc, ?_⟩
      have := suHas_ge h2
      rw [suHas_step (by (first | lia | omega)) hb]; exact h2
theorem Tree.has_root (T : Tree N ov) : ∀ {k : Nat}, k < N → suHas 0 ov k = true := by
  intro k
  induction k using Nat.strongRecOn with
  | _ k ih =>
    intro hk
    by_cases h0 : k = 0
    · subst h0; exact suHas_self
    · have := T.up k (by (first | lia | omega)) hk
      rw [suHas_step h0 this]; exact ih _ (by (first | lia | omega)) (by (first | lia | omega))
inductive Val (N : Nat) (ov : Nat → Int) : List Nat → Prop
  | nil : Val N ov []
  | cons {j : Nat} {P : List Nat} : Val N ov P → j < N → j ∉ P → (∀ k ∈ suKids N ov j, k ∈ P) → Val N ov (j :: P)
noncomputable def suHeld (N : Nat) (ov : Nat → Int) : List Nat → Int
  | [] => 0
  | j :: P => suHeld N ov P + 1 - (suKids N ov j).length
noncomputable def suPeak (N : Nat) (ov : Nat → Int) : List Nat → Int
  | [] => 0
  | _ :: P => max (suPeak N ov P) (suHeld N ov P + 1)
theorem Val.nodup {P : List Nat} (h : Val N ov P) : P.Nodup := by
  induction h with
  | nil => exact .nil
  | cons _ _ h2 _ ih => exact List.nodup_cons.mpr ⟨h2, ih⟩
theorem Val.lt {P : List Nat} (h : Val N ov P) : ∀ k ∈ P, k < N := by
  induction h with
  | nil => intro k hk; cases hk
  | cons _ h1 _ _ ih => intro k hk; rcases List.mem_cons.mp hk with rfl | hk; exact h1; exact ih k hk
theorem Val.closed {P : List Nat} (h : Val N ov P) : ∀ j ∈ P, ∀ k ∈ suKids N ov j, k ∈ P := by
  induction h with
  | nil => intro j hj; cases hj
  | cons _ _ _ h3 ih =>
    intro j hj k hk
    rcases List.mem_cons.mp hj with rfl | hj
    · exact List.mem_cons_of_mem _ (h3 k hk)
    · exact List.mem_cons_of_mem _ (ih j hj k hk)
theorem Val.tail {R P : List Nat} (h : Val N ov (R ++ P)) : Val N ov P := by
  induction R with
  | nil => exact h
  | cons a R ih => cases h with | cons h1 _ _ _ => exact ih h1
theorem Val.has {P : List Nat} (h : Val N ov P) (T : Tree N ov) {v : Nat} (hv : v ∈ P) : ∀ {k : Nat}, k < N → suHas v ov k = true → k ∈ P := by
  intro k
  induction k using Nat.strongRecOn with
  | _ k ih =>
    intro hk hs
    by_cases e : k = v
    · subst e; exact hv
    · have hb : 0 ≤ ov k ∧ ov k < k := by
        apply Classical.byContradiction
        intro hb
        rw [suHas_no e hb] at hs; cases hs
      rw [suHas_step e hb] at hs
      exact h.closed _ (ih _ (by (first | lia | omega)) (by (first | lia | omega)) hs) k (mem_kids.mpr ⟨hk, by (first | lia | omega)⟩)
/-- the tops of what is made, within a node's tree -/
noncomputable def suTop (v : Nat) (ov : Nat → Int) (P : List Nat) : Nat := P.countP fun k => suHas v ov k && decide (∀ p ∈ P, ov k ≠ (p : Int))
theorem countP_split {α : Type} {p q : α → Bool} : ∀ {l : List α}, l.countP p = (l.countP fun x => p x && q x) + l.countP fun x => p x && !q x
  | [] => rfl
  | a :: l => by
    rw [List.countP_cons, List.countP_cons, List.countP_cons, countP_split (q := q) (l := l)]
    cases p a <;> cases q a <;> simp <;> (first | lia | omega)
theorem countP_one {P : List Nat} (hn : P.Nodup) {l : List Nat} (hl : l.Nodup) (h : ∀ k ∈ l, k ∈ P) {p : Nat → Bool} (hp : ∀ k ∈ P, p k = true ↔ k ∈ l) : P.countP p = l.length := by
  rw [List.countP_eq_length_filter]
  apply List.Perm.length_eq
  refine (List.perm_ext_iff_of_nodup (hn.filter _) hl).mpr fun a => ?_
  rw [List.mem_filter]
  constructor
  · rintro ⟨h1, h2⟩; exact (hp a h1).mp h2
  · intro h1; exact ⟨h a h1, (hp a (h a h1)).mpr h1⟩
theorem Val.held (T : Tree N ov) {P : List Nat} (h : Val N ov P) : suHeld N ov P = suTop 0 ov P := by
  induction h with
  | nil => rfl
  | @cons j P hV h1 h2 h3 ih =>
    have e : ∀ k ∈ P, (suHas 0 ov k && decide (∀ p ∈ j :: P, ov k ≠ (p : Int))) = ((suHas 0 ov k && decide (∀ p ∈ P, ov k ≠ (p : Int))) && !decide (ov k = j)) := by
      intro k hk
      rw [Bool.eq_iff_iff]
      simp only [Bool.and_eq_true, decide_eq_true_eq, Bool.not_eq_true', decide_eq_false_iff_not, List.mem_cons, forall_eq_or_imp]
      constructor
      · rintro ⟨a, b, c⟩; exact ⟨⟨a, c⟩, b⟩
      · rintro ⟨⟨a, c⟩, b⟩; exact ⟨a, b, c⟩
    have hj : (suHas 0 ov j && decide (∀ p ∈ j :: P, ov j ≠ (p : Int))) = true := by
      rw [T.has_root h1, Bool.true_and, decide_eq_true_eq]
      intro p hp hq
      rcases List.mem_cons.mp hp with rfl | hp
      · have := T.par (mem_kids.mpr ⟨h1, hq⟩); (first | lia | omega)
      · exact h2 (hV.closed p hp j (mem_kids.mpr ⟨h1, hq⟩))
    have c1 : suTop 0 ov (j :: P) = (P.countP fun k => (suHas 0 ov k && decide (∀ p ∈ P, ov k ≠ (p : Int))) && !decide (ov k = j)) + 1 := by
      unfold suTop
      rw [List.countP_cons, if_pos hj]
      congr 1
      exact List.countP_congr fun k hk => by rw [e k hk]
    have c2 := countP_split (l := P) (p := fun k => suHas 0 ov k && decide (∀ p ∈ P, ov k ≠ (p : Int))) (q := fun k => decide (ov k = (j : Int)))
    have c3 : (P.countP fun k => (suHas 0 ov k && decide (∀ p ∈ P, ov k ≠ (p : Int))) && decide (ov k = (j : Int))) = (suKids N ov j).length := by
      refine countP_one hV.nodup kids_nodup h3 fun k hk => ?_
      rw [Bool.and_eq_true, Bool.and_eq_true, decide_eq_true_eq, decide_eq_true_eq, mem_kids]
      constructor
      · rintro ⟨_, hq⟩; exact ⟨hV.lt k hk, hq⟩
      · rintro ⟨_, hq⟩
        refine ⟨⟨T.has_root (hV.lt k hk), fun p hp hq2 => ?_⟩, hq⟩
        have : p = j := by (first | lia | omega)
        subst this; exact h2 hp
    rw [suHeld, ih, c1]
    unfold suTop
    (first | lia | omega)
theorem suTop_pos {P : List Nat} {v c : Nat} (T : Tree N ov) (hc : c ∈ suKids N ov v) (hv : v ∉ P) (hP : ∀ k ∈ P, k < N) : ∀ {k : Nat}, k ∈ P → suHas c ov k = true → 0 < suTop c ov P := by
  intro k
  induction k using Nat.strongRecOn with
  | _ k ih =>
    intro hk hs
    by_cases hp : ∀ p ∈ P, ov k ≠ (p : Int)
    · unfold suTop
      exact List.countP_pos_iff.mpr ⟨k, hk, by rw [hs, Bool.true_and]; exact decide_eq_true hp⟩
    · obtain ⟨p, hp1, hp2⟩ : ∃ p ∈ P, ov k = (p : Int) := by
        apply Classical.byContradiction
        intro q
        exact hp fun p hp e => q ⟨p, hp, e⟩
      by_cases e : k = c
      · subst e
        have := T.par hc
        have : p = v := by (first | lia | omega)
        subst this; exact absurd hp1 hv
      · by_cases hb : 0 ≤ ov k ∧ ov k < k
        · rw [suHas_step e hb] at hs
          have : (ov k).toNat = p := by (first | lia | omega)
          rw [this] at hs
          exact ih p (by (first | lia | omega)) hp1 hs
        · rw [suHas_no e hb] at hs; cases hs
theorem suTop_sum {P : List Nat} {v : Nat} (T : Tree N ov) : ∀ {cs : List Nat}, cs.Nodup → (∀ c ∈ cs, c ∈ suKids N ov v) → (cs.map fun c => suTop c ov P).sum ≤ P.countP fun k => cs.any (fun c => suHas c ov k) && decide (∀ p ∈ P, ov k ≠ (p : Int))
  | [], _, _ => Nat.zero_le _
  | c :: cs, hn, hm => by
    have ih := suTop_sum (P := P) T (List.nodup_cons.mp hn).2 fun x hx => hm x (List.mem_cons_of_mem _ hx)
    rw [List.map_cons, List.sum_cons]
    have c2 := countP_split (l := P) (p := fun k => (c :: cs).any (fun c => suHas c ov k) && decide (∀ p ∈ P, ov k ≠ (p : Int))) (q := fun k => suHas c ov k)
    have l1 : suTop c ov P ≤ P.countP fun k => ((c :: cs).any (fun c => suHas c ov k) && decide (∀ p ∈ P, ov k ≠ (p : Int))) && suHas c ov k := by
      unfold suTop
      refine List.countP_mono_left fun k _ h => ?_
      simp only [Bool.and_eq_true] at h
      rw [List.any_cons, h.1, h.2]; rfl
    have l2 : (P.countP fun k => cs.any (fun c => suHas c ov k) && decide (∀ p ∈ P, ov k ≠ (p : Int))) ≤ P.countP fun k => ((c :: cs).any (fun c => suHas c ov k) && decide (∀ p ∈ P, ov k ≠ (p : Int))) && !suHas c ov k := by
      refine List.countP_mono_left fun k _ h => ?_
      simp only [Bool.and_eq_true] at h
      obtain ⟨c', hc', h'⟩ := List.any_eq_true.mp h.1
      have : suHas c ov k = false := by
        cases q : suHas c ov k with
        | false => rfl
        | true =>
          have := T.has_one (hm c List.mem_cons_self) (hm c' (List.mem_cons_of_mem _ hc')) q h'
          subst this
          exact absurd hc' (List.nodup_cons.mp hn).1
      rw [List.any_cons, this, h.1, h.2]; rfl
    (first | lia | omega)
theorem suTop_kids {P : List Nat} {v : Nat} (T : Tree N ov) {cs : List Nat} (hn : cs.Nodup) (hm : ∀ c ∈ cs, c ∈ suKids N ov v) : (cs.map fun c => suTop c ov P).sum ≤ suTop v ov P := by
  refine Nat.le_trans (suTop_sum T hn hm) ?_
  unfold suTop
  refine List.countP_mono_left fun k _ h => ?_
  simp only [Bool.and_eq_true] at h ⊢
  obtain ⟨c, hc, h'⟩ := List.any_eq_true.mp h.1
  exact ⟨T.has_kid (hm c hc) h', h.2⟩
theorem sum_ge {f : Nat → Nat} {c : Nat} : ∀ {l : List Nat}, c ∈ l → l.Nodup → (∀ x ∈ l, x ≠ c → 0 < f x) → f c + (l.length - 1) ≤ (l.map f).sum
  | [], h, _, _ => by cases h
  | a :: l, h, hn, hf => by
    rw [List.map_cons, List.sum_cons, List.length_cons]
    obtain ⟨hn1, hn2⟩ := List.nodup_cons.mp hn
    by_cases e : a = c
    · subst e
      have : l.length ≤ (l.map f).sum := by
        have : ∀ {l : List Nat}, (∀ x ∈ l, 0 < f x) → l.length ≤ (l.map f).sum := by
          intro l
          induction l with
          | nil => intro _; exact Nat.zero_le _
          | cons b l ih =>
            intro h
            rw [List.map_cons, List.sum_cons, List.length_cons]
            have := h b List.mem_cons_self
            have := ih fun x hx => h x (List.mem_cons_of_mem _ hx)
            (first | lia | omega)
        exact this fun x hx => hf x (List.mem_cons_of_mem _ hx) fun e => hn1 (e ▸ hx)
      (first | lia | omega)
    · have hc : c ∈ l := (List.mem_cons.mp h).resolve_left fun q => e q.symm
      have := sum_ge hc hn2 fun x hx => hf x (List.mem_cons_of_mem _ hx)
      have := hf a List.mem_cons_self e
      have : 0 < l.length := List.length_pos_of_mem hc
      (first | lia | omega)
theorem supTo_cases {f : Nat → Int} {b : Int} : ∀ {n : Nat}, supTo f n b = b ∨ ∃ i, i < n ∧ supTo f n b = f i
  | 0 => .inl rfl
  | n + 1 => by
    rw [supTo]
    rcases Int.le_total (supTo f n b) (f n) with h | h
    · right; exact ⟨n, by (first | lia | omega), by (first | lia | omega)⟩
    · rcases supTo_cases (f := f) (b := b) (n := n) with h2 | ⟨i, hi, h2⟩
      · left; (first | lia | omega)
      · right; exact ⟨i, by (first | lia | omega), by (first | lia | omega)⟩
theorem max_of {α : Type} (f : α → Nat) : ∀ {l : List α}, l ≠ [] → ∃ x ∈ l, ∀ y ∈ l, f y ≤ f x
  | [], h => absurd rfl h
  | [a], _ => ⟨a, List.mem_cons_self, fun y hy => by rw [List.mem_singleton.mp hy]; exact Nat.le_refl _⟩
  | a :: b :: l, _ => by
    obtain ⟨x, hx, h⟩ := max_of f (l := b :: l) (by simp)
    by_cases e : f a ≤ f x
    · exact ⟨x, List.mem_cons_of_mem _ hx, fun y hy => by rcases List.mem_cons.mp hy with rfl | hy; exact e; exact h y hy⟩
    · refine ⟨a, List.mem_cons_self, fun y hy => ?_⟩
      rcases List.mem_cons.mp hy with rfl | hy
      · exact Nat.le_refl _
      · have := h y hy; (first | lia | omega)
/-- where in an order something stands -/
noncomputable def AtS (l : List Nat) (j : Nat) (P : List Nat) : Prop := (j :: P) <:+ l
theorem suLow {need : Nat → Int} {ord : Nat → List Nat} {srt : Nat → List Nat} (T : Tree N ov) (S : Told N ov need ord srt) {l : List Nat} (hl : Val N ov l) (hall : ∀ k, k < N → k ∈ l) :
    ∀ n v, N - v = n → v < N → ∃ j P, AtS l j P ∧ suHas v ov j = true ∧ need v ≤ suTop v ov P + 1 := by
  intro n
  induction n using Nat.strongRecOn with
  | _ n ih =>
    intro v hn hv
    have hnd : (srt v).Nodup := (S.perm v hv).nodup_iff.mpr kids_nodup
    have hmem : ∀ c ∈ srt v, c ∈ suKids N ov v := fun c hc => (S.perm v hv).mem_iff.mp hc
    have step : ∀ c ∈ srt v, ∃ j P, AtS l j P ∧ suHas c ov j = true ∧ need c ≤ suTop c ov P + 1 := fun c hc => by
      have h1 := T.kid_gt (hmem c hc)
      have h2 := (mem_kids.mp (hmem c hc)).1
      exact ih (N - c) (by (first | lia | omega)) c rfl h2
    rw [S.need v hv]
    rcases supTo_cases (f := fun i => i + need ((srt v).getD i 0)) (b := ((srt v).length + 1 : Int)) (n := (srt v).length) with h | ⟨i, hi, h⟩
    · rw [h]
      obtain ⟨R, P, e⟩ := List.append_of_mem (hall v hv)
      refine ⟨v, P, ⟨R, e.symm⟩, suHas_self, ?_⟩
      have hV : Val N ov (v :: P) := by rw [e] at hl; exact hl.tail
      cases hV with
      | cons q1 q2 q3 q4 =>
        have h1 := suTop_kids (P := P) T hnd hmem
        have h2 : (srt v).length ≤ ((srt v).map fun c => suTop c ov P).sum := by
          have : ∀ {cs : List Nat}, (∀ x ∈ cs, 0 < suTop x ov P) → cs.length ≤ (cs.map fun c => suTop c ov P).sum := by
            intro cs
            induction cs with
            | nil => intro _; exact Nat.zero_le _
            | cons b cs ih =>
              intro h
              rw [List.map_cons, List.sum_cons, List.length_cons]
              have := h b List.mem_cons_self
              have := ih fun x hx => h x (List.mem_cons_of_mem _ hx)
              (first | lia | omega)
          exact this fun c hc => suTop_pos T (hmem c hc) q3 q1.lt (q4 c (hmem c hc)) suHas_self
        (first | lia | omega)
    · rw [h]
      -- the first i + 1 children; the one that is at its need last
      have hlen : ((srt v).take (i + 1)).length = i + 1 := by rw [List.length_take]; (first | lia | omega)
      have hne : (srt v).take (i + 1) ≠ [] := by intro q; rw [q] at hlen; simp at hlen
      have hch : ∀ c : {c // c ∈ (srt v).take (i + 1)}, ∃ q : Nat × List Nat, AtS l q.1 q.2 ∧ suHas c.1 ov q.1 = true ∧ need c.1 ≤ suTop c.1 ov q.2 + 1 := fun c => by
        obtain ⟨j, P, h⟩ := step c.1 (List.mem_of_mem_take c.2)
        exact ⟨(j, P), h⟩
      let g := fun c => Classical.choose (hch c)
      have hg : ∀ c, AtS l (g c).1 (g c).2 ∧ suHas c.1 ov (g c).1 = true ∧ need c.1 ≤ suTop c.1 ov (g c).2 + 1 := fun c => Classical.choose_spec (hch c)
      obtain ⟨c, _, hmax⟩ := max_of (fun c => (g c).2.length) (l := ((srt v).take (i + 1)).attach) (by
        intro q
        have := congrArg List.length q
        rw [List.length_attach, hlen] at this
        simp at this)
      obtain ⟨a1, a2, a3⟩ := hg c
      have hcs := List.mem_of_mem_take c.2
      have hck := hmem _ hcs
      refine ⟨(g c).1, (g c).2, a1, T.has_kid hck a2, ?_⟩
      have hV : Val N ov ((g c).1 :: (g c).2) := by obtain ⟨R, e⟩ := a1; rw [← e] at hl; exact hl.tail
      obtain ⟨q1, q2, q3⟩ : Val N ov (g c).2 ∧ (g c).1 < N ∧ (g c).1 ∉ (g c).2 := by cases hV with | cons q1 q2 q3 _ => exact ⟨q1, q2, q3⟩
      have hvP : v ∉ (g c).2 := fun q => q3 (q1.has T q q2 (T.has_kid hck a2))
      have others : ∀ x ∈ (srt v).take (i + 1), x ≠ c.1 → 0 < suTop x ov (g c).2 := fun x hx hxc => by
        obtain ⟨b1, b2, b3⟩ := hg ⟨x, hx⟩
        have hle := hmax ⟨x, hx⟩ (List.mem_attach _ _)
        have hin : (g ⟨x, hx⟩).1 ∈ (g c).2 := by
          by_cases e : (g ⟨x, hx⟩).2.length = (g c).2.length
          · have s1 := List.suffix_of_suffix_length_le b1 a1 (by simp [e])
            have := s1.eq_of_length (by simp [e])
            have hj : (g ⟨x, hx⟩).1 = (g c).1 := by injection this
            rw [hj] at b2
            exact absurd (T.has_one (hmem x (List.mem_of_mem_take hx)) hck b2 a2) hxc
          · have s1 := List.suffix_of_suffix_length_le b1 ((List.suffix_cons _ _).trans a1) (by simp only [List.length_cons]; (first | lia | omega))
            exact s1.subset List.mem_cons_self
        exact suTop_pos T (hmem x (List.mem_of_mem_take hx)) hvP q1.lt hin b2
      have s1 := sum_ge (f := fun x => suTop x ov (g c).2) c.2 (hnd.sublist (List.take_sublist ..)) others
      have s2 := suTop_kids (P := (g c).2) T (hnd.sublist (List.take_sublist (i + 1) _)) fun x hx => hmem x (List.mem_of_mem_take hx)
      have s3 : need ((srt v).getD i 0) ≤ need c.1 := by
        obtain ⟨t, ht, e⟩ := List.getElem_of_mem c.2
        rw [hlen] at ht
        rw [List.getElem_take] at e
        have hgd : (srt v).getD i 0 = (srt v)[i] := by rw [List.getD_eq_getElem?_getD, List.getElem?_eq_getElem hi]; rfl
        rw [hgd]
        by_cases q : t = i
        · subst q; rw [← e]; exact Int.le_refl _
        · have := List.pairwise_iff_getElem.mp (S.fall v hv) t i (by (first | lia | omega)) hi (by (first | lia | omega))
          rw [e] at this; exact this
      rw [hlen] at s1
      (first | lia | omega)
end
end
end Mine
end
section
namespace Mine
noncomputable section
section
variable {N : Nat} {ov : Nat → Int} {need : Nat → Int} {ord : Nat → List Nat} {srt : Nat → List Nat}
/-- a step of the law's own look at an order: held, most -/
noncomputable def suStep (N : Nat) (ov : Nat → Int) (x : Int × Int) (j : Nat) : Int × Int := (x.1 + 1 - (suKids N ov j).length, max x.2 (x.1 + 1))
theorem add_max {h y f : Int} : h + max y f = max (h + y) (h + f) := by (first | lia | omega)
theorem supTo_shift {f : Nat → Int} {b h m : Int} : ∀ {n : Nat}, max (supTo (fun i => h + f i) n m) (h + b) = max m (h + supTo f n b)
  | 0 => rfl
  | n + 1 => by
    have ih := supTo_shift (f := f) (b := b) (h := h) (m := m) (n := n)
    show max (max (supTo (fun i => h + f i) n m) (h + f n)) (h + b) = max m (h + max (supTo f n b) (f n))
    rw [add_max, Int.max_assoc, Int.max_comm (h + f n), ← Int.max_assoc, ih, Int.max_assoc]
theorem supTo_congr {f g : Nat → Int} {b : Int} : ∀ {n : Nat}, (∀ i, i < n → f i = g i) → supTo f n b = supTo g n b
  | 0, _ => rfl
  | n + 1, h => by rw [supTo, supTo, supTo_congr fun i hi => h i (by (first | lia | omega)), h n (by (first | lia | omega))]
theorem supTo_cons {f : Nat → Int} {m : Int} : ∀ {n : Nat}, supTo f (n + 1) m = supTo (fun i => f (i + 1)) n (max m (f 0))
  | 0 => rfl
  | n + 1 => by rw [supTo, supTo_cons (n := n), supTo]
theorem su_flat : ∀ {cs : List Nat}, (∀ c ∈ cs, ∀ h m, (ord c).foldl (suStep N ov) (h, m) = (h + 1, max m (h + need c))) → ∀ h m : Int,
    ((cs.map ord).flatten).foldl (suStep N ov) (h, m) = (h + cs.length, supTo (fun i => h + (i + need (cs.getD i 0))) cs.length m)
  | [], _, h, m => by simp [supTo]
  | c :: cs, hc, h, m => by
    rw [List.map_cons, List.flatten_cons, List.foldl_append, hc c List.mem_cons_self, su_flat fun x hx => hc x (List.mem_cons_of_mem _ hx)]
    rw [List.length_cons, supTo_cons]
    refine Prod.ext (by simp; (first | lia | omega)) ?_
    show supTo _ _ _ = supTo _ _ _
    have e0 : max m (h + need c) = max m (h + (((0 : Nat) : Int) + need ((c :: cs).getD 0 0))) := by simp
    rw [e0]
    refine supTo_congr fun i _ => ?_
    show h + 1 + (i + need (cs.getD i 0)) = h + (((i + 1 : Nat) : Int) + need ((c :: cs).getD (i + 1) 0))
    rw [List.getD_cons_succ]; push_cast; (first | lia | omega)
theorem suRun (T : Tree N ov) (S : Told N ov need ord srt) : ∀ n v, N - v = n → v < N → ∀ h m : Int, (ord v).foldl (suStep N ov) (h, m) = (h + 1, max m (h + need v)) := by
  intro n
  induction n using Nat.strongRecOn with
  | _ n ih =>
    intro v hn hv h m
    have hmem : ∀ c ∈ srt v, c ∈ suKids N ov v := fun c hc => (S.perm v hv).mem_iff.mp hc
    have hl : (srt v).length = (suKids N ov v).length := (S.perm v hv).length_eq
    rw [S.ord v hv, List.foldl_append, su_flat fun c hc => ih (N - c) (by have := T.kid_gt (hmem c hc); (first | lia | omega)) c rfl (mem_kids.mp (hmem c hc)).1]
    show suStep N ov _ v = _
    unfold suStep
    rw [← hl]
    refine Prod.ext (by simp; (first | lia | omega)) ?_
    show max _ _ = _
    rw [S.need v hv, ← supTo_shift]
    show max (supTo _ _ m) (h + (srt v).length + 1) = max (supTo _ _ m) (h + ((srt v).length + 1))
    rw [Int.add_assoc]
theorem suOrd (T : Tree N ov) (S : Told N ov need ord srt) : ∀ n v, N - v = n → v < N → (ord v).Nodup ∧ ∀ k, k ∈ ord v ↔ k < N ∧ suHas v ov k = true := by
  intro n
  induction n using Nat.strongRecOn with
  | _ n ih =>
    intro v hn hv
    have hmem : ∀ c, c ∈ srt v ↔ c ∈ suKids N ov v := fun c => (S.perm v hv).mem_iff
    have hnd : (srt v).Nodup := (S.perm v hv).nodup_iff.mpr kids_nodup
    have hc : ∀ c ∈ srt v, (ord c).Nodup ∧ ∀ k, k ∈ ord c ↔ k < N ∧ suHas c ov k = true := fun c hc => ih (N - c) (by have := T.kid_gt ((hmem c).mp hc); (first | lia | omega)) c rfl (mem_kids.mp ((hmem c).mp hc)).1
    have hm : ∀ k, k ∈ ((srt v).map ord).flatten ↔ k < N ∧ suHas v ov k = true ∧ k ≠ v := fun k => by
      rw [List.mem_flatten]
      constructor
      · rintro ⟨l, hl, hk⟩
        obtain ⟨c, hcs, rfl⟩ := List.mem_map.mp hl
        obtain ⟨h1, h2⟩ := ((hc c hcs).2 k).mp hk
        have hg := T.kid_gt ((hmem c).mp hcs)
        have := suHas_ge h2
        exact ⟨h1, T.has_kid ((hmem c).mp hcs) h2, by (first | lia | omega)⟩
      · rintro ⟨h1, h2, h3⟩
        obtain ⟨c, hck, h4⟩ := T.has_via h1 h2 h3
        exact ⟨ord c, List.mem_map_of_mem ((hmem c).mpr hck), ((hc c ((hmem c).mpr hck)).2 k).mpr ⟨h1, h4⟩⟩
    rw [S.ord v hv]
    constructor
    · rw [List.nodup_append]
      refine ⟨?_, by simp, ?_⟩
      · show List.Pairwise (· ≠ ·) _
        rw [List.pairwise_flatten]
        refine ⟨fun l hl => ?_, ?_⟩
        · obtain ⟨c, hcs, rfl⟩ := List.mem_map.mp hl
          exact (hc c hcs).1
        · rw [List.pairwise_map]
          refine List.Pairwise.imp_of_mem ?_ hnd
          intro a b ha hb hab x hx y hy e
          subst e
          exact hab (T.has_one ((hmem a).mp ha) ((hmem b).mp hb) (((hc a ha).2 x).mp hx).2 (((hc b hb).2 x).mp hy).2)
      · intro a ha b hb e
        rw [List.mem_singleton.mp hb] at e
        exact ((hm a).mp ha).2.2 e
    · intro k
      rw [List.mem_append, List.mem_singleton, hm]
      constructor
      · rintro (h | rfl)
        · exact ⟨h.1, h.2.1⟩
        · exact ⟨hv, suHas_self⟩
      · rintro ⟨h1, h2⟩
        by_cases e : k = v
        · exact .inr e
        · exact .inl ⟨h1, h2, e⟩
theorem suOrd_perm (T : Tree N ov) (S : Told N ov need ord srt) : (ord 0).Perm (List.range N) := by
  obtain ⟨h1, h2⟩ := suOrd T S _ 0 rfl T.pos
  refine (List.perm_ext_iff_of_nodup h1 List.nodup_range).mpr fun a => ?_
  rw [h2, List.mem_range]
  exact ⟨fun h => h.1, fun h => ⟨h, T.has_root h⟩⟩
/-- an order behind another -/
theorem suVal (T : Tree N ov) (S : Told N ov need ord srt) : ∀ n v, N - v = n → v < N → ∀ P, Val N ov P → (∀ k ∈ P, suHas v ov k = false) → Val N ov ((ord v).reverse ++ P) := by
  intro n
  induction n using Nat.strongRecOn with
  | _ n ih =>
    intro v hn hv P hP hout
    have hmem : ∀ c, c ∈ srt v ↔ c ∈ suKids N ov v := fun c => (S.perm v hv).mem_iff
    have hnd : (srt v).Nodup := (S.perm v hv).nodup_iff.mpr kids_nodup
    have flat : ∀ cs : List Nat, cs.Nodup → (∀ c ∈ cs, c ∈ suKids N ov v) → ∀ P, Val N ov P → (∀ c ∈ cs, ∀ k ∈ P, suHas c ov k = false) → Val N ov (((cs.map ord).flatten).reverse ++ P) := by
      intro cs
      induction cs with
      | nil => intro _ _ P hP _; exact hP
      | cons c cs ih2 =>
        intro hn hk P hP ho
        obtain ⟨n1, n2⟩ := List.nodup_cons.mp hn
        rw [List.map_cons, List.flatten_cons, List.reverse_append, List.append_assoc]
        have hck := hk c List.mem_cons_self
        refine ih2 n2 (fun x hx => hk x (List.mem_cons_of_mem _ hx)) _ (ih (N - c) (by have := T.kid_gt hck; (first | lia | omega)) c rfl (mem_kids.mp hck).1 P hP (ho c List.mem_cons_self)) fun x hx k hkm => ?_
        rcases List.mem_append.mp hkm with h | h
        · rw [List.mem_reverse] at h
          have h2 := (((suOrd T S _ c rfl (mem_kids.mp hck).1).2 k).mp h).2
          cases q : suHas x ov k with
          | false => rfl
          | true =>
            have := T.has_one hck (hk x (List.mem_cons_of_mem _ hx)) h2 q
            subst this; exact absurd hx n1
        · exact ho x (List.mem_cons_of_mem _ hx) k h
    rw [S.ord v hv, List.reverse_append]
    show Val N ov (v :: (((srt v).map ord).flatten.reverse ++ P))
    have h1 := flat (srt v) hnd (fun c hc => (hmem c).mp hc) P hP fun c hc k hk => by
      cases q : suHas c ov k with
      | false => rfl
      | true => have := T.has_kid ((hmem c).mp hc) q; rw [hout k hk] at this; cases this
    refine .cons h1 hv (fun hq => ?_) fun k hk => ?_
    · rcases List.mem_append.mp hq with h | h
      · rw [List.mem_reverse] at h
        obtain ⟨l, hl, hk⟩ := List.mem_flatten.mp h
        obtain ⟨c, hcs, rfl⟩ := List.mem_map.mp hl
        have hck := (hmem c).mp hcs
        have h2 := (((suOrd T S _ c rfl (mem_kids.mp hck).1).2 v).mp hk).2
        have := suHas_ge h2
        have := T.kid_gt hck
        (first | lia | omega)
      · have := hout v h
        rw [suHas_self] at this; cases this
    · refine List.mem_append_left _ ?_
      rw [List.mem_reverse, List.mem_flatten]
      exact ⟨ord k, List.mem_map_of_mem ((hmem k).mpr hk), ((suOrd T S _ k rfl (mem_kids.mp hk).1).2 k).mpr ⟨(mem_kids.mp hk).1, suHas_self⟩⟩
theorem run_peak : ∀ (l P : List Nat) , l.foldl (suStep N ov) (suHeld N ov P, suPeak N ov P) = (suHeld N ov (l.reverse ++ P), suPeak N ov (l.reverse ++ P))
  | [], P => rfl
  | j :: l, P => by
    rw [List.foldl_cons, List.reverse_cons, List.append_assoc]
    exact run_peak l (j :: P)
noncomputable def suMask : List Nat → Nat
  | [] => 0
  | j :: P => suMask P + 2 ^ j
noncomputable def suBit (D k : Nat) : Bool := D / 2 ^ k % 2 == 1
theorem bit_add {D j k : Nat} (h : suBit D j = false) : suBit (D + 2 ^ j) k = (decide (k = j) || suBit D k) := by
  have h0 : D / 2 ^ j % 2 = 0 := by
    unfold suBit at h
    rw [beq_eq_false_iff_ne] at h; (first | lia | omega)
  have hp : ∀ i : Nat, 0 < 2 ^ i := fun i => Nat.two_pow_pos i
  rcases Nat.lt_trichotomy k j with hk | hk | hk
  · obtain ⟨d, rfl⟩ : ∃ d, j = k + (d + 1) := ⟨j - k - 1, by (first | lia | omega)⟩
    have e : (D + 2 ^ (k + (d + 1))) / 2 ^ k = D / 2 ^ k + 2 * 2 ^ d := by
      rw [Nat.pow_add, Nat.pow_succ, Nat.add_mul_div_left _ _ (hp k), Nat.mul_comm (2 ^ d)]
    unfold suBit
    rw [e, decide_eq_false (by (first | lia | omega)), Bool.false_or, Nat.add_mul_mod_self_left]
  · subst hk
    unfold suBit
    rw [decide_eq_true rfl, Bool.true_or, Nat.add_div_right _ (hp k), beq_iff_eq]
    (first | lia | omega)
  · obtain ⟨d, rfl⟩ : ∃ d, k = (j + 1) + d := ⟨k - j - 1, by (first | lia | omega)⟩
    have e : (D + 2 ^ j) / 2 ^ (j + 1) = D / 2 ^ (j + 1) := by
      rw [Nat.pow_succ, ← Nat.div_div_eq_div_mul, ← Nat.div_div_eq_div_mul, Nat.add_div_right _ (hp j)]
      (first | lia | omega)
    unfold suBit
    rw [decide_eq_false (by (first | lia | omega)), Bool.false_or, Nat.pow_add, ← Nat.div_div_eq_div_mul, ← Nat.div_div_eq_div_mul, e]
theorem mask_bit : ∀ {P : List Nat}, P.Nodup → ∀ k, suBit (suMask P) k = decide (k ∈ P)
  | [], _, k => by
    show suBit 0 k = _
    unfold suBit
    simp
  | j :: P, h, k => by
    obtain ⟨h1, h2⟩ := List.nodup_cons.mp h
    rw [suMask, bit_add (by rw [mask_bit h2, decide_eq_false h1]), mask_bit h2]
    by_cases e : k = j <;> simp [e]
theorem mask_lt : ∀ {P : List Nat}, P.Nodup → (∀ k ∈ P, k < N) → suMask P < 2 ^ N := by
  induction N with
  | zero =>
    intro P _ h
    cases P with
    | nil => decide
    | cons a P => have := h a List.mem_cons_self; (first | lia | omega)
  | succ N ih =>
    have perm : ∀ {P Q : List Nat}, P.Perm Q → suMask P = suMask Q := by
      intro P Q h
      induction h with
      | nil => rfl
      | cons x _ ih => rw [suMask, suMask, ih]
      | swap x y l => rw [suMask, suMask, suMask, suMask]; (first | lia | omega)
      | trans _ _ h1 h2 => exact h1.trans h2
    intro P hn h
    by_cases q : N ∈ P
    · have hp := List.perm_cons_erase q
      rw [perm hp, suMask, Nat.pow_succ]
      have hn' := hp.nodup_iff.mp hn
      obtain ⟨a1, a2⟩ := List.nodup_cons.mp hn'
      have := ih a2 fun k hk => by
        have h1 := h k (List.mem_of_mem_erase hk)
        have : k ≠ N := fun e => a1 (e ▸ hk)
        (first | lia | omega)
      (first | lia | omega)
    · have := ih hn fun k hk => by
        have h1 := h k hk
        have : k ≠ N := fun e => q (e ▸ hk)
        (first | lia | omega)
      rw [Nat.pow_succ]; (first | lia | omega)
noncomputable def suIn (N D : Nat) : List Nat := (List.range N).filter fun k => suBit D k
noncomputable def suHeldOf (N : Nat) (ov : Nat → Int) (l : List Nat) : Int := l.length - (l.map fun k => ((suKids N ov k).length : Int)).sum
theorem held_sum : ∀ {P : List Nat}, suHeld N ov P = suHeldOf N ov P
  | [] => rfl
  | j :: P => by
    rw [suHeld, held_sum]
    unfold suHeldOf
    rw [List.length_cons, List.map_cons, List.sum_cons]
    push_cast; (first | lia | omega)
theorem in_perm {P : List Nat} (hn : P.Nodup) (hl : ∀ k ∈ P, k < N) : (suIn N (suMask P)).Perm P := by
  refine (List.perm_ext_iff_of_nodup (List.nodup_range.filter _) hn).mpr fun a => ?_
  rw [List.mem_filter, mask_bit hn, decide_eq_true_eq, List.mem_range]
  exact ⟨fun h => h.2, fun h => ⟨hl a h, h⟩⟩
theorem sum_perm {f : Nat → Int} {P Q : List Nat} (h : P.Perm Q) : (P.map f).sum = (Q.map f).sum := by
  induction h with
  | nil => rfl
  | cons x _ ih => rw [List.map_cons, List.sum_cons, List.map_cons, List.sum_cons, ih]
  | swap x y l => simp only [List.map_cons, List.sum_cons]; (first | lia | omega)
  | trans _ _ h1 h2 => exact h1.trans h2
theorem held_perm {P Q : List Nat} (h : P.Perm Q) : suHeldOf N ov P = suHeldOf N ov Q := by
  unfold suHeldOf; rw [h.length_eq, sum_perm h]
/-- may `j` be made behind the set `D` -/
noncomputable def suMay (N : Nat) (ov : Nat → Int) (D j : Nat) : Bool := !suBit D j && (suKids N ov j).all fun k => suBit D k
noncomputable def dpSet (b : Nat → Int) (k : Nat) (v : Int) : Nat → Int := fun x => if x = k then v else b x
noncomputable def dpCell (N : Nat) (ov : Nat → Int) (D : Nat) (b : Nat → Int) (j : Nat) : Nat → Int := if suMay N ov D j = true then dpSet b (D + 2 ^ j) (min (b (D + 2 ^ j)) (max (b D) (suHeldOf N ov (suIn N D) + 1))) else b
noncomputable def dpRow (N : Nat) (ov : Nat → Int) (b : Nat → Int) (D : Nat) : Nat → Int := if b D < 99 then (List.range N).foldl (dpCell N ov D) b else b
noncomputable def dpInit : Nat → Int := fun x => if x = 0 then 0 else 99
structure DPI (N : Nat) (ov : Nat → Int) (b : Nat → Int) (D : Nat) (js : List Nat) : Prop where
  zero : b 0 ≤ 0
  sound : ∀ M, b M < 99 → ∃ P, Val N ov P ∧ suMask P = M ∧ suPeak N ov P ≤ b M
  done : ∀ j P, Val N ov (j :: P) → suMask P < D ∨ (suMask P = D ∧ j ∈ js) → b (suMask (j :: P)) ≤ suPeak N ov (j :: P)
theorem dp_cell {b : Nat → Int} {D j : Nat} {js : List Nat} (T : Tree N ov) (I : DPI N ov b D js) (hb : b D < 99) (hj : j < N) : DPI N ov (dpCell N ov D b j) D (j :: js) ∧ dpCell N ov D b j D = b D := by
  have hp : 0 < 2 ^ j := Nat.two_pow_pos j
  unfold dpCell
  by_cases hm : suMay N ov D j = true
  · rw [if_pos hm]
    unfold suMay at hm
    simp only [Bool.and_eq_true, Bool.not_eq_true', List.all_eq_true] at hm
    obtain ⟨m1, m2⟩ := hm
    have hv : ∀ x, dpSet b (D + 2 ^ j) (min (b (D + 2 ^ j)) (max (b D) (suHeldOf N ov (suIn N D) + 1))) x ≤ b x := fun x => by
      unfold dpSet
      split
      · rename_i e; subst e; (first | lia | omega)
      · exact Int.le_refl _
    refine ⟨⟨Int.le_trans (hv 0) I.zero, fun M hM => ?_, fun i P hV hc => ?_⟩, ?_⟩
    · unfold dpSet at hM ⊢
      by_cases e : M = D + 2 ^ j
      · rw [if_pos e] at hM ⊢
        rcases Int.le_total (b (D + 2 ^ j)) (max (b D) (suHeldOf N ov (suIn N D) + 1)) with h | h
        · rw [Int.min_eq_left h] at hM ⊢
          subst e
          exact I.sound _ hM
        · rw [Int.min_eq_right h]
          obtain ⟨P, p1, p2, p3⟩ := I.sound D hb
          have hnd := p1.nodup
          have hbit : ∀ k, suBit D k = decide (k ∈ P) := fun k => by rw [← p2]; exact mask_bit hnd k
          refine ⟨j :: P, .cons p1 hj (fun q => by rw [hbit, decide_eq_true q] at m1; cases m1) fun k hk => ?_, by rw [suMask, p2, e], ?_⟩
          · have := m2 k hk; rw [hbit] at this; exact of_decide_eq_true this
          · rw [suPeak, held_sum, ← held_perm (in_perm hnd p1.lt), p2]; (first | lia | omega)
      · rw [if_neg e] at hM ⊢; exact I.sound M hM
    · by_cases e : suMask P = D ∧ i = j
      · obtain ⟨e1, e2⟩ := e
        subst e2
        have hP : Val N ov P := by cases hV with | cons h1 _ _ _ => exact h1
        have hbD : b D ≤ suPeak N ov P := by
          cases P with
          | nil => rw [← e1]; exact I.zero
          | cons i P' =>
            rw [← e1]
            refine I.done i P' hP (.inl ?_)
            rw [← e1, suMask]
            have := Nat.two_pow_pos i
            (first | lia | omega)
        unfold dpSet
        rw [suMask, e1, if_pos rfl, suPeak, held_sum, ← held_perm (in_perm hP.nodup hP.lt), e1]
        (first | lia | omega)
      · refine Int.le_trans (hv _) (I.done i P hV ?_)
        rcases hc with h | ⟨h1, h2⟩
        · exact .inl h
        · rcases List.mem_cons.mp h2 with h3 | h3
          · exact absurd ⟨h1, h3⟩ e
          · exact .inr ⟨h1, h3⟩
    · unfold dpSet; rw [if_neg (by (first | lia | omega))]
  · rw [if_neg hm]
    refine ⟨⟨I.zero, I.sound, fun i P hV hc => ?_⟩, rfl⟩
    rcases hc with h | ⟨h1, h2⟩
    · exact I.done i P hV (.inl h)
    · rcases List.mem_cons.mp h2 with h3 | h3
      · exfalso
        subst h3
        apply hm
        cases hV with
        | cons q1 q2 q3 q4 =>
          unfold suMay
          have hbit : ∀ k, suBit D k = decide (k ∈ P) := fun k => by rw [← h1]; exact mask_bit q1.nodup k
          rw [hbit, decide_eq_false q3, Bool.not_false, Bool.true_and, List.all_eq_true]
          intro k hk
          rw [hbit]; exact decide_eq_true (q4 k hk)
      · exact I.done i P hV (.inr ⟨h1, h3⟩)
theorem dp_cells {D : Nat} (T : Tree N ov) : ∀ {l : List Nat} {b : Nat → Int} {js : List Nat}, DPI N ov b D js → b D < 99 → (∀ j ∈ l, j < N) → DPI N ov (l.foldl (dpCell N ov D) b) D (l.reverse ++ js) ∧ l.foldl (dpCell N ov D) b D = b D
  | [], _, _, I, _, _ => ⟨I, rfl⟩
  | j :: l, b, js, I, hb, hl => by
    obtain ⟨I2, e⟩ := dp_cell T I hb (hl j List.mem_cons_self)
    obtain ⟨I3, e3⟩ := dp_cells T I2 (by rw [e]; exact hb) fun i hi => hl i (List.mem_cons_of_mem _ hi)
    rw [List.foldl_cons, List.reverse_cons, List.append_assoc]
    exact ⟨I3, e3.trans e⟩
theorem held_le : ∀ {P : List Nat}, suHeld N ov P ≤ P.length
  | [] => Int.le_refl _
  | j :: P => by
    have := held_le (P := P)
    rw [suHeld, List.length_cons]; push_cast; (first | lia | omega)
theorem peak_le : ∀ {P : List Nat}, suPeak N ov P ≤ P.length
  | [] => Int.le_refl _
  | j :: P => by
    have := peak_le (P := P)
    have := held_le (N := N) (ov := ov) (P := P)
    rw [suPeak, List.length_cons]; push_cast; (first | lia | omega)
theorem range_le {P : List Nat} (hn : P.Nodup) (h : ∀ k ∈ P, k < N) : P.length ≤ N := by
  have hp : (((List.range N).filter fun k => decide (k ∈ P))).Perm P := by
    refine (List.perm_ext_iff_of_nodup (List.nodup_range.filter _) hn).mpr fun a => ?_
    rw [List.mem_filter, List.mem_range, decide_eq_true_eq]
    exact ⟨fun q => q.2, fun q => ⟨h a q, q⟩⟩
  rw [← hp.length_eq]
  refine Nat.le_trans (List.length_filter_le ..) ?_
  rw [List.length_range]; exact Nat.le_refl _
theorem dp_row {b : Nat → Int} {D : Nat} (T : Tree N ov) (hN : N ≤ 50) (I : DPI N ov b D []) : DPI N ov (dpRow N ov b D) (D + 1) [] := by
  unfold dpRow
  by_cases hb : b D < 99
  · rw [if_pos hb]
    obtain ⟨I2, _⟩ := dp_cells T I hb (l := List.range N) fun j hj => List.mem_range.mp hj
    refine ⟨I2.zero, I2.sound, fun j P hV hc => I2.done j P hV ?_⟩
    rcases hc with h | ⟨_, h⟩
    · by_cases e : suMask P = D
      · refine .inr ⟨e, ?_⟩
        cases hV with
        | cons _ q2 _ _ => simp [q2]
      · exact .inl (by (first | lia | omega))
    · cases h
  · rw [if_neg hb]
    refine ⟨I.zero, I.sound, fun j P hV hc => ?_⟩
    rcases hc with h | ⟨_, h⟩
    · by_cases e : suMask P = D
      · exfalso
        have hP : Val N ov P := by cases hV with | cons h1 _ _ _ => exact h1
        have hl := range_le hP.nodup hP.lt
        have hpk := peak_le (N := N) (ov := ov) (P := P)
        have : b D ≤ suPeak N ov P := by
          cases P with
          | nil => rw [← e]; exact I.zero
          | cons i P' =>
            rw [← e]
            refine I.done i P' hP (.inl ?_)
            rw [← e, suMask]
            have := Nat.two_pow_pos i
            (first | lia | omega)
        (first | lia | omega)
      · exact I.done j P hV (.inl (by (first | lia | omega)))
    · cases h
theorem dp_init : DPI N ov dpInit 0 [] := by
  refine ⟨by decide, fun M hM => ?_, fun j P hV hc => ?_⟩
  · unfold dpInit at hM ⊢
    by_cases e : M = 0
    · subst e; exact ⟨[], .nil, rfl, Int.le_refl _⟩
    · rw [if_neg e] at hM; (first | lia | omega)
  · rcases hc with h | ⟨_, h⟩
    · (first | lia | omega)
    · cases h
theorem dp_rows (T : Tree N ov) (hN : N ≤ 50) : ∀ D, DPI N ov ((List.range D).foldl (dpRow N ov) dpInit) D []
  | 0 => dp_init
  | D + 1 => by
    rw [List.range_succ, List.foldl_append]
    exact dp_row T hN (dp_rows T hN D)
theorem mask_full {P : List Nat} (hn : P.Nodup) (hl : ∀ k ∈ P, k < N) (h : suMask P = 2 ^ N - 1) : ∀ k, k < N → k ∈ P := fun k hk => by
  have := mask_bit hn k
  rw [h] at this
  have hb : suBit (2 ^ N - 1) k = true := by
    unfold suBit
    rw [beq_iff_eq]
    obtain ⟨d, rfl⟩ : ∃ d, N = k + (d + 1) := ⟨N - k - 1, by (first | lia | omega)⟩
    have hk0 := Nat.two_pow_pos k
    have hd0 := Nat.two_pow_pos d
    have e : 2 ^ (k + (d + 1)) - 1 = (2 ^ k - 1) + 2 ^ k * (2 * 2 ^ d - 1) := by
      have h2 : 2 ^ (k + (d + 1)) = 2 ^ k * (2 * 2 ^ d) := by rw [Nat.pow_add, Nat.pow_succ, Nat.mul_comm (2 ^ d)]
      have h3 : 2 ^ k * (2 * 2 ^ d) = 2 ^ k * (2 * 2 ^ d - 1) + 2 ^ k := by
        conv => lhs; rw [show 2 * 2 ^ d = (2 * 2 ^ d - 1) + 1 from by (first | lia | omega), Nat.mul_add, Nat.mul_one]
      (first | lia | omega)
    rw [e, Nat.add_mul_div_left _ _ hk0, Nat.div_eq_of_lt (by (first | lia | omega))]
    (first | lia | omega)
  rw [hb] at this
  exact of_decide_eq_true this.symm
theorem mask_range : ∀ N, suMask (List.range N) = 2 ^ N - 1
  | 0 => rfl
  | N + 1 => by
    have perm : ∀ {P Q : List Nat}, P.Perm Q → suMask P = suMask Q := by
      intro P Q h
      induction h with
      | nil => rfl
      | cons x _ ih => rw [suMask, suMask, ih]
      | swap x y l => rw [suMask, suMask, suMask, suMask]; (first | lia | omega)
      | trans _ _ h1 h2 => exact h1.trans h2
    rw [List.range_succ, perm (List.perm_append_comm (l₁ := List.range N) (l₂ := [N]))]
    show suMask (List.range N) + 2 ^ N = _
    rw [mask_range N, Nat.pow_succ]
    have := Nat.two_pow_pos N
    (first | lia | omega)
theorem mask_perm : ∀ {P Q : List Nat}, P.Perm Q → suMask P = suMask Q := by
  intro P Q h
  induction h with
  | nil => rfl
  | cons x _ ih => rw [suMask, suMask, ih]
  | swap x y l => rw [suMask, suMask, suMask, suMask]; (first | lia | omega)
  | trans _ _ h1 h2 => exact h1.trans h2
theorem su_law (T : Tree N ov) (S : Told N ov need ord srt) (hN : N ≤ 50) : (ord 0).Perm (List.range N) ∧ ((ord 0).foldl (suStep N ov) (0, 0)).2 = need 0 ∧ (List.range (2 ^ N)).foldl (dpRow N ov) dpInit (2 ^ N - 1) = need 0 := by
  have hp := suOrd_perm T S
  have hrun := suRun T S _ 0 rfl T.pos 0 0
  have hval : Val N ov (ord 0).reverse := by simpa using suVal T S _ 0 rfl T.pos [] .nil (by intro k hk; cases hk)
  have hpk : (ord 0).foldl (suStep N ov) (0, 0) = (suHeld N ov (ord 0).reverse, suPeak N ov (ord 0).reverse) := by
    have h := run_peak (N := N) (ov := ov) (ord 0) []
    rw [List.append_nil] at h; exact h
  have low : ∀ P, Val N ov P → (∀ k, k < N → k ∈ P) → need 0 ≤ suPeak N ov P := fun P hV hall => by
    obtain ⟨j, Q, ⟨R, e⟩, _, h3⟩ := suLow T S hV hall _ 0 rfl T.pos
    have hQ : Val N ov (j :: Q) := by rw [← e] at hV; exact hV.tail
    have hQ' : Val N ov Q := by cases hQ with | cons h1 _ _ _ => exact h1
    have mono : ∀ (R : List Nat) (P : List Nat), suPeak N ov P ≤ suPeak N ov (R ++ P) := by
      intro R P
      induction R with
      | nil => exact Int.le_refl _
      | cons a R ih => rw [List.cons_append, suPeak]; (first | lia | omega)
    have h4 := mono R (j :: Q)
    rw [e, suPeak, hQ'.held T] at h4
    (first | lia | omega)
  have hneed : 0 ≤ need 0 := by
    rw [S.need 0 T.pos]
    have : ∀ {f : Nat → Int} {n : Nat} {b : Int}, 0 ≤ b → 0 ≤ supTo f n b := by
      intro f n
      induction n with
      | zero => intro b hb; exact hb
      | succ n ih => intro b hb; have := ih hb; rw [supTo]; (first | lia | omega)
    exact this (by (first | lia | omega))
  have hm : max (0 : Int) (0 + need 0) = need 0 := by (first | lia | omega)
  have h2 : ((ord 0).foldl (suStep N ov) (0, 0)).2 = need 0 := by rw [hrun]; exact hm
  have hpeak : suPeak N ov (ord 0).reverse = need 0 := by rw [hpk] at h2; exact h2
  refine ⟨hp, h2, ?_⟩
  have I := dp_rows T hN (2 ^ N)
  have hmask : suMask (ord 0).reverse = 2 ^ N - 1 := by rw [mask_perm ((List.reverse_perm _).trans hp), mask_range]
  have up : (List.range (2 ^ N)).foldl (dpRow N ov) dpInit (2 ^ N - 1) ≤ need 0 := by
    rw [← hmask, ← hpeak]
    generalize (ord 0).reverse = P at hval
    cases P with
    | nil => exact I.zero
    | cons j P =>
      refine I.done j P hval (.inl ?_)
      cases hval with
      | cons h1 _ _ _ => exact mask_lt h1.nodup h1.lt
  have h99 : (List.range (2 ^ N)).foldl (dpRow N ov) dpInit (2 ^ N - 1) < 99 := by
    have := peak_le (N := N) (ov := ov) (P := (ord 0).reverse)
    have hl : (ord 0).reverse.length = N := by rw [List.length_reverse, hp.length_eq, List.length_range]
    (first | lia | omega)
  obtain ⟨P, p1, p2, p3⟩ := I.sound _ h99
  have := low P p1 (mask_full p1.nodup p1.lt p2)
  (first | lia | omega)
end
end
end Mine
end
section
namespace Mine
noncomputable section
noncomputable def nset {α : Type} (f : Nat → α) (k : Nat) (v : α) : Nat → α := fun x => if x = k then v else f x
theorem nset_same {α : Type} {f : Nat → α} {k : Nat} {v : α} : nset f k v k = v := if_pos rfl
theorem nset_ne {α : Type} {f : Nat → α} {k x : Nat} {v : α} (h : x ≠ k) : nset f k v x = f x := if_neg h
noncomputable def GoodAt (N : Nat) (ov : Nat → Int) (nd : Nat → Int) (od : Nat → List Nat) (j : Nat) (srt : List Nat) : Prop :=
  srt.Perm (suKids N ov j) ∧ (srt.Pairwise fun a b => nd b ≤ nd a) ∧ nd j = supTo (fun i => i + nd (srt.getD i 0)) srt.length (srt.length + 1) ∧ od j = (srt.map od).flatten ++ [j]
structure TG (N : Nat) (ov : Nat → Int) (pr : List Nat) (nd : Nat → Int) (od : Nat → List Nat) (hp : Nat → List (Int × Int)) : Prop where
  good : ∀ j ∈ pr, ∃ srt, GoodAt N ov nd od j srt
  heap : ∀ k, k < N → k ∉ pr → IsHeap plt (hp k) ∧ (hp k).Perm (((suKids N ov k).filter fun c => decide (c ∈ pr)).map fun c => (-nd c, (c : Int)))
  kids : ∀ j ∈ pr, ∀ c ∈ suKids N ov j, c ∈ pr
  ordb : ∀ j ∈ pr, (od j).length ≤ 2 ^ (N - 1 - j)
section
variable {N : Nat} {ov : Nat → Int} {pr : List Nat} {nd : Nat → Int} {od : Nat → List Nat} {hp : Nat → List (Int × Int)}
theorem GoodAt.congr {nd' : Nat → Int} {od' : Nat → List Nat} {j : Nat} {srt : List Nat} (h : GoodAt N ov nd od j srt) (e1 : nd' j = nd j) (e2 : od' j = od j) (hk : ∀ c ∈ suKids N ov j, nd' c = nd c ∧ od' c = od c) : GoodAt N ov nd' od' j srt := by
  obtain ⟨h1, h2, h3, h4⟩ := h
  have hm : ∀ c ∈ srt, nd' c = nd c ∧ od' c = od c := fun c hc => hk c (h1.mem_iff.mp hc)
  refine ⟨h1, ?_, ?_, ?_⟩
  · refine h2.imp_of_mem fun ha hb hab => ?_
    rw [(hm _ ha).1, (hm _ hb).1]; exact hab
  · rw [e1, h3]
    refine supTo_congr fun i hi => ?_
    rw [List.getD_eq_getElem?_getD, List.getElem?_eq_getElem hi]
    show (i : Int) + nd srt[i] = i + nd' srt[i]
    rw [(hm _ (List.getElem_mem hi)).1]
  · rw [e2, h4, List.map_congr_left fun c hc => (hm c hc).2]
noncomputable def pairOf (nd : Nat → Int) (c : Nat) : Int × Int := (-nd c, (c : Int))
theorem sum_mask {f : Nat → Nat} {n : Nat} : ∀ {l : List Nat}, (∀ c ∈ l, f c ≤ 2 ^ (n - c)) → (l.map f).sum ≤ suMask (l.map fun c => n - c)
  | [], _ => Nat.zero_le _
  | c :: l, h => by
    have := sum_mask (l := l) fun x hx => h x (List.mem_cons_of_mem _ hx)
    have := h c List.mem_cons_self
    rw [List.map_cons, List.sum_cons, List.map_cons, suMask]; (first | lia | omega)
theorem TG.flat (T : Tree N ov) (G : TG N ov pr nd od hp) {j : Nat} {qs : List (Int × Int)} (hk : ∀ c ∈ suKids N ov j, c ∈ pr) (hs : (qs.map fun q => q.2.toNat).Perm (suKids N ov j)) (hj : j < N) : ((qs.map fun q => od q.2.toNat).flatten).length + 1 ≤ 2 ^ (N - 1 - j) := by
  have e : (qs.map fun q => od q.2.toNat) = (qs.map fun q => q.2.toNat).map od := by rw [List.map_map]; rfl
  rw [e, List.length_flatten, List.map_map]
  have hm : ∀ c ∈ qs.map (fun q => q.2.toNat), c ∈ suKids N ov j := fun c hc => hs.mem_iff.mp hc
  have h1 := sum_mask (f := fun c => (od c).length) (n := N - 1) (l := qs.map fun q => q.2.toNat) fun c hc => G.ordb c (hk c (hm c hc))
  have h2 := mask_lt (N := N - 1 - j) (P := (qs.map fun q => q.2.toNat).map fun c => N - 1 - c) (by
    refine List.pairwise_map.mpr (List.Pairwise.imp_of_mem (fun {a b} ha hb hab e => hab ?_) (hs.nodup_iff.mpr kids_nodup))
    have h1 := (mem_kids.mp (hm a ha)).1
    have h2 := (mem_kids.mp (hm b hb)).1
    (first | lia | omega)) fun k hkm => by
      obtain ⟨c, hc, rfl⟩ := List.mem_map.mp hkm
      have h1 := T.kid_gt (hm c hc)
      have h2 := (mem_kids.mp (hm c hc)).1
      (first | lia | omega)
  have h3 : (List.map (List.length ∘ od) (List.map (fun q => q.2.toNat) qs)).sum = ((qs.map fun q => q.2.toNat).map fun c => (od c).length).sum := rfl
  (first | lia | omega)
theorem TG.sorted_kids (T : Tree N ov) (G : TG N ov pr nd od hp) {j : Nat} {qs : List (Int × Int)} (hj : j < N) (hjp : j ∉ pr) (hk : ∀ c ∈ suKids N ov j, c ∈ pr) (hq : qs.Perm (hp j)) : (qs.map fun q => q.2.toNat).Perm (suKids N ov j) ∧ ∀ q ∈ qs, ∃ c ∈ suKids N ov j, q = (-nd c, (c : Int)) := by
  have kall : (suKids N ov j).filter (fun c => decide (c ∈ pr)) = suKids N ov j := List.filter_eq_self.mpr fun c hc => decide_eq_true (hk c hc)
  have hqp : qs.Perm ((suKids N ov j).map fun c => (-nd c, (c : Int))) := by have := (G.heap j hj hjp).2; rw [kall] at this; exact hq.trans this
  refine ⟨?_, fun q hqm => ?_⟩
  · have := hqp.map fun q : Int × Int => q.2.toNat
    rw [List.map_map] at this
    have e : ((suKids N ov j).map ((fun q : Int × Int => q.2.toNat) ∘ fun c : Nat => (-nd c, (c : Int)))) = suKids N ov j := by
      conv => rhs; rw [← List.map_id (suKids N ov j)]
      exact List.map_congr_left fun c _ => by simp
    rw [e] at this; exact this
  · obtain ⟨c, hc, e⟩ := List.mem_map.mp (hqp.mem_iff.mp hqm)
    exact ⟨c, hc, e.symm⟩
theorem TG.step (T : Tree N ov) (G : TG N ov pr nd od hp) {j : Nat} {qs r' : List (Int × Int)} {v : Int} {o : List Nat} (hj : j < N) (hjp : j ∉ pr) (hk : ∀ c ∈ suKids N ov j, c ∈ pr) (hq : qs.Perm (hp j)) (hs : qs.Pairwise fun a b => plt b a = false)
    (hv : v = supTo (fun i => i - (qs.getD i (0, 0)).1) qs.length (qs.length + 1)) (ho : o = ((qs.map fun q => od q.2.toNat).flatten) ++ [j])
    (hr : 0 < j → IsHeap plt r' ∧ r'.Perm ((-v, (j : Int)) :: hp (ov j).toNat)) :
    TG N ov (j :: pr) (nset nd j v) (nset od j o) (if 0 < j then nset (nset hp j []) (ov j).toNat r' else nset hp j []) := by
  have hne : ∀ c ∈ pr, c ≠ j := fun c hc e => hjp (e ▸ hc)
  have kall : (suKids N ov j).filter (fun c => decide (c ∈ pr)) = suKids N ov j := List.filter_eq_self.mpr fun c hc => decide_eq_true (hk c hc)
  have hqp : qs.Perm ((suKids N ov j).map fun c => (-nd c, (c : Int))) := by have := (G.heap j hj hjp).2; rw [kall] at this; exact hq.trans this
  have qmem : ∀ q ∈ qs, ∃ c ∈ suKids N ov j, q = (-nd c, (c : Int)) := fun q hqm => by
    obtain ⟨c, hc, e⟩ := List.mem_map.mp (hqp.mem_iff.mp hqm)
    exact ⟨c, hc, e.symm⟩
  have hsrt : (qs.map fun q => q.2.toNat).Perm (suKids N ov j) := by
    have := hqp.map fun q : Int × Int => q.2.toNat
    rw [List.map_map] at this
    have e : ((suKids N ov j).map ((fun q : Int × Int => q.2.toNat) ∘ fun c : Nat => (-nd c, (c : Int)))) = suKids N ov j := by
      conv => rhs; rw [← List.map_id (suKids N ov j)]
      exact List.map_congr_left fun c _ => by simp
    rw [e] at this; exact this
  have hq1 : ∀ q ∈ qs, q.1 = -nd q.2.toNat ∧ (q.2.toNat : Int) = q.2 := fun q hqm => by
    obtain ⟨c, _, rfl⟩ := qmem q hqm
    simp
  have hg : GoodAt N ov (nset nd j v) (nset od j o) j (qs.map fun q => q.2.toNat) := by
    have hnj : ∀ q ∈ qs, q.2.toNat ≠ j := fun q hqm => by
      obtain ⟨c, hc, rfl⟩ := qmem q hqm
      exact fun e => hne c (hk c hc) (by simpa using e)
    refine ⟨hsrt, ?_, ?_, ?_⟩
    · rw [List.pairwise_map]
      refine hs.imp_of_mem fun {a b} ha hb hab => ?_
      rw [nset_ne (hnj a ha), nset_ne (hnj b hb)]
      have h1 := (hq1 a ha).1
      have h2 := (hq1 b hb).1
      have h3 := of_decide_eq_false hab
      (first | lia | omega)
    · rw [nset_same, hv, List.length_map]
      refine supTo_congr fun i hi => ?_
      have e1 : qs.getD i (0, 0) = qs[i] := by rw [List.getD_eq_getElem?_getD, List.getElem?_eq_getElem hi]; rfl
      have e2 : (qs.map fun q => q.2.toNat).getD i 0 = qs[i].2.toNat := by rw [List.getD_eq_getElem?_getD, List.getElem?_map, List.getElem?_eq_getElem hi]; rfl
      rw [e1, e2, nset_ne (hnj _ (List.getElem_mem hi)), (hq1 _ (List.getElem_mem hi)).1]
      (first | lia | omega)
    · have e : (qs.map fun q => od q.2.toNat) = ((qs.map fun q => q.2.toNat).map (nset od j o)) := by
        rw [List.map_map]
        refine List.map_congr_left fun q hqm => ?_
        show od q.2.toNat = nset od j o q.2.toNat
        rw [nset_ne (hnj q hqm)]
      rw [nset_same, ← e]; exact ho
  refine ⟨fun k hkm => ?_, fun k hkN hkp => ?_, fun k hkm c hc => ?_, fun k hkm => ?_⟩
  · rcases List.mem_cons.mp hkm with rfl | hkm
    · exact ⟨_, hg⟩
    · obtain ⟨srt, h⟩ := G.good k hkm
      exact ⟨srt, h.congr (nset_ne (hne k hkm)) (nset_ne (hne k hkm)) fun c hc => ⟨nset_ne (hne c (G.kids k hkm c hc)), nset_ne (hne c (G.kids k hkm c hc))⟩⟩
  · have hkj : k ≠ j := fun e => hkp (e ▸ List.mem_cons_self)
    have hkp' : k ∉ pr := fun h => hkp (List.mem_cons_of_mem _ h)
    obtain ⟨h1, h2⟩ := G.heap k hkN hkp'
    have same : ∀ c ∈ (suKids N ov k).filter (fun c => decide (c ∈ pr)), (fun c : Nat => (-nset nd j v c, (c : Int))) c = (fun c : Nat => (-nd c, (c : Int))) c := fun c hc => by
      have := (List.mem_filter.mp hc).2
      show (-nset nd j v c, (c : Int)) = _
      rw [nset_ne (hne c (of_decide_eq_true this))]
    by_cases hkp2 : j ∈ suKids N ov k
    · obtain ⟨p1, p2, p3⟩ := T.par hkp2
      have hj0 : 0 < j := by have := T.kid_gt hkp2; (first | lia | omega)
      rw [if_pos hj0, p3, nset_same]
      obtain ⟨r1, r2⟩ := hr hj0
      rw [p3] at r2
      refine ⟨r1, r2.trans ?_⟩
      have hperm : ((suKids N ov k).filter fun c => decide (c ∈ j :: pr)).Perm (j :: (suKids N ov k).filter fun c => decide (c ∈ pr)) := by
        refine (List.perm_ext_iff_of_nodup (kids_nodup.filter _) (List.nodup_cons.mpr ⟨fun h => hjp (of_decide_eq_true (List.mem_filter.mp h).2), kids_nodup.filter _⟩)).mpr fun x => ?_
        simp only [List.mem_filter, List.mem_cons, decide_eq_true_eq]
        constructor
        · rintro ⟨a, b | b⟩
          · exact .inl b
          · exact .inr ⟨a, b⟩
        · rintro (rfl | ⟨a, b⟩)
          · exact ⟨hkp2, .inl rfl⟩
          · exact ⟨a, .inr b⟩
      refine .trans ?_ (hperm.map _).symm
      rw [List.map_cons, nset_same, List.map_congr_left same]
      exact h2.cons _
    · have e0 : (if 0 < j then nset (nset hp j []) (ov j).toNat r' else nset hp j []) k = hp k := by
        by_cases hj0 : 0 < j
        · have hu := T.up j hj0 hj
          rw [if_pos hj0, nset_ne (fun e => hkp2 (mem_kids.mpr ⟨hj, by (first | lia | omega)⟩)), nset_ne hkj]
        · rw [if_neg hj0, nset_ne hkj]
      rw [e0]
      refine ⟨h1, h2.trans ?_⟩
      have ef : ((suKids N ov k).filter fun c => decide (c ∈ j :: pr)) = (suKids N ov k).filter fun c => decide (c ∈ pr) := by
        refine List.filter_congr fun c hc => ?_
        have : c ≠ j := fun e => hkp2 (e ▸ hc)
        simp [this]
      rw [ef, List.map_congr_left same]
  · rcases List.mem_cons.mp hkm with rfl | hkm
    · exact List.mem_cons_of_mem _ (hk c hc)
    · exact List.mem_cons_of_mem _ (G.kids k hkm c hc)
  · rcases List.mem_cons.mp hkm with rfl | hkm
    · rw [nset_same, ho, List.length_append, List.length_singleton]
      exact TG.flat T G hk hsrt hj
    · rw [nset_ne (hne k hkm)]; exact G.ordb k hkm
theorem TG.start (hh : ∀ k, hp k = []) : TG N ov [] nd od hp :=
  ⟨(by intro _ h; cases h), fun k _ _ => by rw [hh]; exact ⟨fun k h0 hk => by simp at hk, by simp⟩, (by intro _ h; cases h), (by intro _ h; cases h)⟩
theorem TG.told (G : TG N ov pr nd od hp) (hall : ∀ k, k < N → k ∈ pr) : ∃ srt, Told N ov nd od srt := by
  refine ⟨fun j => if h : j < N then Classical.choose (G.good j (hall j h)) else [], fun j hj => ?_, fun j hj => ?_, fun j hj => ?_, fun j hj => ?_⟩
  all_goals
    have := Classical.choose_spec (G.good j (hall j hj))
    simp only [dif_pos hj]
  · exact this.1
  · exact this.2.1
  · exact this.2.2.1
  · exact this.2.2.2
theorem TG.len (T : Tree N ov) (G : TG N ov pr nd od hp) {k : Nat} (hk : k < N) (h : k ∉ pr) : (hp k).length ≤ N := by
  rw [(G.heap k hk h).2.length_eq, List.length_map]
  refine Nat.le_trans (List.length_filter_le ..) (Nat.le_trans (List.length_filter_le ..) ?_)
  rw [List.length_range]; exact Nat.le_refl _
end
end
end Mine
end
section
open PySem PySem.Calls PySem.W PyProof.Rows
set_option maxRecDepth 100000
namespace Mine
noncomputable section
noncomputable def scopeOk1 (scope : Scope) : Bool := scope.kind == .function && scope.names.all (fun y => y.2 != .local || scope.names.lookup y.1 == some .local)
theorem scopeOk1.get {scope : Scope} (h : scopeOk1 scope = true) : scope.kind = .function ∧ ∀ y ∈ scope.names, y.2 = .local → scope.names.lookup y.1 = some .local := by
  unfold scopeOk1 at h
  simp only [Bool.and_eq_true, List.all_eq_true, beq_iff_eq, bne_iff_ne, Bool.or_eq_true] at h
  refine ⟨h.1, fun y hy hl => ?_⟩
  rcases h.2 y hy with q | q
  · exact absurd hl q
  · exact q
section
variable {C : Cx} {A : Around} {m : Loc} {H : CH} {s : Shared}
/-- a comprehension whose scope has one cell -/
theorem comp_core1 {elt target iter : PySem.Expr} {ifs : List PySem.Expr} {scope : Scope} {cl : List (Str × Addr)} {pos : Pos} {RR : Value → Addr → Result → Shared → Prop} {v : V} {r : Value} {xs : List V} {ok : CH → Prop} {x₀ : Str}
    (hcf : ∀ n cl, cellsFrom n scope.names cl = (x₀, n) :: cl) (hpc : ∀ h, pushCells h scope.names = h.push { cls := .type "cell", data := .cell none }) (hkind : scope.kind = .function) (S₁ : HS C H s) (F₁ : Frs C H s) (hv : VR s.heap v r) (q : SeqOf C A v H xs ok) (K : ∀ c, H c = none → C.h₀.get? c = none → ∃ J, Comp C A elt target ifs scope ((x₀, c) :: cl) xs ok J ∧ J 0 [] (H.set c (.cell none)) ∧ ∀ D L s' H' ys mr, HS C H' s' → AfterC H s H' s' → s.heap.get? D = none → s.heap.get? L = none → D ≠ L → H' D = none → H' L = none → C.h₀.get? D = none → C.h₀.get? L = none → s'.heap.Ns L mr → (∃ items n, s'.heap.get? D = some (seqObj "list" items n) ∧ VRs s'.heap ys items.toList) → J xs.length ys H' → RR (.ref D) L (.ok .next) s') :
    wpAny (model C.prog C.w) A (pyIter r) (fun it s₂ => wpAny (model C.prog C.w) A (newList []) (fun acc s₃ => wpAny (model C.prog C.w) A (newFunctionEnv scope C.env.globals cl [] C.env.qual none .none (some C.env)) (fun cenv s₄ =>
      codeAny (model C.prog C.w) A (.compStart (.ListComp elt [⟨target, iter, ifs, 0⟩] scope pos) 0 it acc { cenv with scope := relabel scope C.env }) (RR acc cenv.locals) s₄) NoE s₃) NoE s₂) NoE s := by
  obtain ⟨nx, it, hnx⟩ := q
  refine wpAny_mono (it s r S₁ hv) ?_ fun _ _ x => x
  rintro ri s₂ ⟨I, ob, h₂, tk₂, o0, rfl, rfl, hk₂, hI, hob, hob0, P⟩
  refine wpAny_newObj_type ?_
  unfold newFunctionEnv
  simp only [Option.isSome_some, if_true]
  refine wpAny_bind (wpAny_alloc ?_)
  refine wpAny_bind (wpAny_layCells _ (fun name kind cells => by cases hkc : kind == NameKind.cell <;> simp [hkc]) _ _ _ _ ?_)
  rw [hpc, hcf]
  simp only [List.forIn_nil]
  refine wpAny_bind (wpAny_pure (wpAny_pure ?_))
  dsimp only
  generalize hDd : h₂.objs.size = D at *
  generalize hH3 : h₂.push { cls := .type "list", dict := none, data := .seq ([] : List Value).toArray } = H3 at *
  have hsz4 : (H3.push { cls := .type "dict", data := .dict #[] }).objs.size = H3.objs.size + 1 := Heap.size_push ..
  rw [hsz4]
  generalize hLd : H3.objs.size = L at *
  generalize hcd : L + 1 = cA at *
  generalize hh4 : (H3.push { cls := .type "dict", data := .dict #[] }).push { cls := .type "cell", data := .cell none } = h₄ at *
  have hDL : D ≠ L := by
    have : H3.objs.size = h₂.objs.size + 1 := by rw [← hH3, Heap.size_push]
    show ¬ ((D : Nat) = L)
    (first | lia | omega)
  have h3s : H3.objs.size = h₂.objs.size + 1 := by rw [← hH3, Heap.size_push]
  have keep34 : ∀ b o, H3.get? b = some o → h₄.get? b = some o := fun b o e => by rw [← hh4]; exact Heap.get?_push_of_some _ (Heap.get?_push_of_some _ e)
  have keep4 : ∀ b o, h₂.get? b = some o → h₄.get? b = some o := fun b o e => keep34 b o (by rw [← hH3]; exact Heap.get?_push_of_some _ e)
  have fresh : ∀ a, (h₂.objs.size : Nat) ≤ a → s.heap.get? a = none := fun a ha => by
    cases e : s.heap.get? a with
    | none => rfl
    | some o' => exact absurd (Heap.lt_size (hk₂ _ _ e)) (Nat.not_lt.mpr ha)
  have hD0 : s.heap.get? D = none := fresh D (by show (h₂.objs.size : Nat) ≤ D; (first | lia | omega))
  have hL0 : s.heap.get? L = none := fresh L (by
    have : H3.objs.size = h₂.objs.size + 1 := by rw [← hH3, Heap.size_push]
    show (h₂.objs.size : Nat) ≤ L; (first | lia | omega))
  have hnb : ∀ a, s.heap.get? a = none → C.h₀.get? a = none := fun a ha => by
    cases e : C.h₀.get? a with
    | none => rfl
    | some o => rw [S₁.base a o e] at ha; cases ha
  have hnH : ∀ a, s.heap.get? a = none → H a = none := fun a ha => by
    cases e : H a with
    | none => rfl
    | some c => obtain ⟨_, o, ho, _⟩ := S₁.own a c e; rw [ha] at ho; cases ho
  have hDobj : h₄.get? D = some (seqObj "list" #[] 0) := keep34 D _ (by rw [← hH3, ← hDd]; exact Heap.get?_push_size _ rfl)
  have hcobj : h₄.get? cA = some { cls := .type "cell", data := .cell none } := by
    rw [← hh4, ← hsz4]; exact Heap.get?_push_size _ rfl
  have hns₄ : h₄.Ns L (fun _ => none) := by
    rw [← hh4, ← hLd]; exact (Heap.Ns.new H3 (.type "dict")).push _
  have hc0 : s.heap.get? cA = none := fresh cA (by rw [← hcd, ← hLd]; show (h₂.objs.size : Nat) ≤ H3.objs.size + 1; (first | lia | omega))
  have hcD : D ≠ cA := by rw [← hcd, ← hLd]; show ¬ ((D : Nat) = H3.objs.size + 1); (first | lia | omega)
  have hcL : L ≠ cA := by rw [← hcd]; exact Nat.ne_of_lt (Nat.lt_succ_self L)
  obtain ⟨J, K, hJ, fin⟩ := K cA (hnH cA hc0) (hnb cA hc0)
  have hIobj : h₄.get? I = some o0 := keep4 I o0 hob
  have hID : I ≠ D := fun e => by
    have := Heap.lt_size hob
    exact absurd (show (D : Nat) < h₂.objs.size from e ▸ this) (by (first | lia | omega))
  have hIL : I ≠ L := fun e => by
    have := Heap.lt_size hob
    have h3 : H3.objs.size = h₂.objs.size + 1 := by rw [← hH3, Heap.size_push]
    exact absurd (show (L : Nat) < h₂.objs.size from e ▸ this) (by (first | lia | omega))
  have af40 : AfterC H s H { s with heap := h₄, toks := tk₂ } := .more fun b o e => keep4 b o (hk₂ b o e)
  have S40 : HS C H { s with heap := h₄, toks := tk₂ } := S₁.more fun b o e => keep4 b o (hk₂ b o e)
  have S4 := S40.adopt (c := .cell none) (hnb cA hc0) hcobj ⟨none, rfl, trivial⟩
  have af4 := af40.adopt (c := .cell none) hc0
  have hIc : I ≠ cA := fun e => by
    have := Heap.lt_size hob
    rw [e, ← hcd, ← hLd] at this
    exact absurd (show (H3.objs.size + 1 : Nat) < h₂.objs.size from this) (by (first | lia | omega))
  have loop := comp_loop (elt := elt) (target := target) (iter := iter) (ifs := ifs) (pos := pos) (RRl := RR (.ref D) L) F₁ P hnx K hI hD0 hL0 hDL hID hIL hnb (fun s' H' ys mr a b c d e f g => fin D L s' H' ys mr a b hD0 hL0 hDL c d (hnb D hD0) (hnb L hL0) e f g) (k := xs.length) (s₄ := { s with heap := h₄, toks := tk₂ })
    ⟨0, [], H.set cA (.cell none), _, o0, #[], 0, Nat.zero_le _, rfl, S4, af4, by rw [CH.set_ne hIc]; exact hnH I hI, by rw [CH.set_ne hcD]; exact hnH D hD0, by rw [CH.set_ne hcL]; exact hnH L hL0, hns₄, hIobj, P.kept _ _ _ _ (.of_keep keep4) hob0, hDobj, .nil, hJ⟩
  exact codeAny_compStart_list loop (P.self _ 0 h₂ o0 _ _ hIobj hob0 loop)
noncomputable def LC1 (C : Cx) (A : Around) (elt target : PySem.Expr) (ifs : List PySem.Expr) (scope : Scope) (cl : List (Str × Addr)) (x₀ : Str) (v : V) (H : CH) (Q : V → CH → Prop) : Prop :=
  ∃ (xs : List V) (ok : CH → Prop), SeqOf C A v H xs ok ∧ ∀ c, H c = none → C.h₀.get? c = none → ∃ J : Nat → List V → CH → Prop, Comp C A elt target ifs scope ((x₀, c) :: cl) xs ok J ∧ J 0 [] (H.set c (.cell none)) ∧ ∀ ys H' D, J xs.length ys H' → H' D = none → C.h₀.get? D = none → Q (.ref D) (H'.set D (.list ys))
theorem ES_assign_lc1 {elt target iter : PySem.Expr} {ifs : List PySem.Expr} {scope : Scope} {cl : List (Str × Addr)} {x x₀ : Str} {px pos spos : Pos} {Q : Fl → Loc → CH → Prop}
    (h : EV C A iter m H fun v m₁ H₁ => LC1 C A elt target ifs scope cl x₀ v H₁ fun v H' => Q .next ((x, v) :: m₁) H')
    (hsw : swapsWith (.ListComp elt [⟨target, iter, ifs, 0⟩] scope pos) (some (.Name x px)) spos.line C.env = pure true := by with_unfolding_all rfl)
    (hclos : closureFor scope C.env = pure cl := by with_unfolding_all rfl) (hok : scopeOk1 scope = true := by with_unfolding_all rfl) (hcf : ∀ n cl, cellsFrom n scope.names cl = (x₀, n) :: cl := by intro _ _; with_unfolding_all rfl) (hpc : ∀ h, pushCells h scope.names = h.push { cls := .type "cell", data := .cell none } := by intro _; with_unfolding_all rfl) (hs : ∀ x, foldedSetIterable iter C.env x = pure x := by intro _; with_unfolding_all rfl)
    (hl : C.env.kindOf x = some .local := by with_unfolding_all rfl) (hp : (C.env.scope.kind == .class || (C.env.scope.kind == .module && C.env.locals != C.env.globals)) = false := by with_unfolding_all rfl) :
    ES C A (.Assign [.Name x px] (.ListComp elt [⟨target, iter, ifs, 0⟩] scope pos) spos) m H Q := fun s S => by
  obtain ⟨hkind, hnames⟩ := scopeOk1.get hok
  rw [exec_Assign_Name_used _ _ _ _ hsw]
  refine wpAny_bind (wpAny_standAt (wpAny_bind ?_))
  show wpAny _ A (do let _ ← comprehension (.ListComp elt [⟨target, iter, ifs, 0⟩] scope pos) scope C.env _ (newList []) false (eval iter C.env) (some (assign (.Name x px) C.env))) _ _ s
  refine wpAny_bind (wpAny_mono (wpAny_comprehension_free (use := some (assign (.Name x px) C.env)) (Q := fun _ s' => PF C H s Q .next s') rfl hs hclos hkind hnames
    (wpAny_mono (h s S) ?_ fun _ _ e => e)) (fun _ s' hq => wpAny_pure (wpAny_pure hq)) fun _ _ e => e)
  rintro r s₁ ⟨v, m₁, H₁, hv, S₁, af₁, xs, ok, q, K⟩
  refine comp_core1 (RR := fun acc L => compPost (model C.prog C.w) A NoE (some (assign (.Name x px) C.env)) (fun _ s' => PF C H s Q .next s') acc L) hcf hpc hkind S₁.toHS S₁.frs hv q fun c hcn hcb => ?_
  obtain ⟨J, K, hJ, fin⟩ := K c hcn hcb
  refine ⟨J, K, hJ, ?_⟩
  intro D L s' H' ys mr S' af' hD hL hDL hD' hL' hDb hLb hn ⟨items, n, hDo, hys⟩ hJ'
  have S₃ : HS C (H'.set D (.list ys)) s' := S'.adopt hDb hDo ⟨items, n, rfl, hys⟩
  have af₃ : AfterC H₁ s₁ (H'.set D (.list ys)) s' := af'.adopt hD
  have T₃ : St C m₁ (H'.set D (.list ys)) s' := S₁.called S₃ af₃
  have hLl : C.env.locals ≠ L := fun e => by obtain ⟨o, e'⟩ := S₁.at_loc; rw [e, hL] at e'; cases e'
  obtain ⟨mr', hn', hk'⟩ := T₃.ns
  show wpAny _ A (assign (.Name x px) C.env (.ref D)) _ _ _
  refine wpAny_assign_Name (wpAny_storeName_local hl hn' (fun h₂ hn₂ hs₂ => ?_) hp)
  have T₄ : St C ((x, .ref D) :: m₁) (H'.set D (.list ys)) { s' with heap := h₂, toks := s'.toks + 1 } := T₃.store (tk := s'.toks + 1) (v := .ref D) .ref hk' hn₂ hs₂
  have af₄ : After C H₁ s₁ (H'.set D (.list ys)) { s' with heap := h₂, toks := s'.toks + 1 } := (After.then T₃ af₃.after (.store (tk := s'.toks + 1) hn₂ hs₂))
  have hnL : h₂.Ns L mr := hn.sameBut hs₂ (Ne.symm hLl)
  refine ⟨mr, hnL, fun h₃ hs₃ => ?_⟩
  obtain ⟨oL, _, _, hoL, _⟩ := id hnL
  have hLD : (H'.set D (.list ys)) L = none := by rw [CH.set_ne (Ne.symm hDL)]; exact hL'
  have af₅ : After C H₁ s₁ (H'.set D (.list ys)) { s' with heap := h₃, toks := s'.toks + 1 } := af₄.hid (tk := s'.toks + 1) hL hs₃.extBut
  have S₅ : HS C (H'.set D (.list ys)) { s' with heap := h₃, toks := s'.toks + 1 } := T₄.toHS.hid (tk := s'.toks + 1) hoL hLD hLb (ns_not_imm hnL hoL) hs₃.extBut
  have tk₅ : TupKeep h₂ h₃ := tup_ext hoL (ns_not_imm hnL hoL) hs₃.extBut
  have T₅ : St C ((x, .ref D) :: m₁) (H'.set D (.list ys)) { s' with heap := h₃, toks := s'.toks + 1 } := by
    obtain ⟨mr5, hn5, k5⟩ := T₄.ns
    refine ⟨S₅, ⟨mr5, hn5.extBut hs₃.extBut hLl, k5.keep tk₅⟩, T₄.loc, T₄.locb, fun e he => ?_⟩
    obtain ⟨a1, a2, a3, f, o, es, ep, hf, ho, hd, hnf, hb⟩ := T₄.frs e he
    have hfL : f ≠ L := fun q => by
      obtain ⟨_, _, _, f', o', es', ep', hf', ho', _⟩ := S₁.frs e he
      rw [hf] at hf'; cases hf'; rw [q, hL] at ho'; cases ho'
    exact ⟨a1, a2, a3, f, o, es, ep, hf, hs₃.extBut f _ hfL ho, hd, hnf, hb⟩
  exact ⟨.next, _, _, rfl, T₅, af₁.then S₁ af₅, fin ys H' D hJ' hD' hDb⟩
end
end
end Mine
end
section
open PySem PySem.Calls PySem.W PyProof.Rows
set_option maxRecDepth 100000
namespace Mine
local macro_rules | `(tactic| walk_at "x") => `(tactic| with_reducible first
  | refine EX_cons (st := .Assign _ _ _) ?_
  | refine EX_cons (st := .Expr _ _) ?_
  | refine EX_cons (st := .Return _ _) ?_
  | refine EX_cons (st := .Break _) ?_
  | refine EX_cons (st := .Continue _) ?_
  | refine EX_cons (st := .AugAssign _ _ _ _) ?_
  | refine EX_nil ?_
  | refine SeqE.n ?_
  | refine SeqE.r ?_
  | refine SeqE.b ?_
  | refine SeqE.c ?_
  | refine SeqK.n ?_
  | refine SeqK.r ?_
  | refine SeqK.b ?_
  | refine SeqK.c ?_
  | refine ASGs_cons ?_
  | refine ASGs_nil ?_
  | refine ETs_cons ?_
  | refine ETs_nil ?_
  | refine ES_assign2 ?_
  | refine ES_assign ?_
  | refine ES_expr ?_
  | refine ES_ret ?_
  | refine ES_if ?_
  | refine ES_break ?_
  | refine ES_continue ?_
  | refine ES_aug_attr ?_
  | refine EV_bin ?_
  | refine EB_cmp ?_
  | refine EV_cmp ?_
  | refine EV_un ?_
  | refine EB_not ?_
  | refine EB_and ?_
  | refine EB_or ?_
  | refine EV_or ?_
  | refine EV_named ?_
  | refine EV_sub ?_
  | refine EV_meth ?_
  | refine EV_methL ?_
  | refine EV_call ?_
  | refine EV_attr ?_
  | refine EL_nil ?_
  | refine EL_cons ?_
  | refine EV_int ?_
  | refine EV_none ?_
  | refine EV_bool ?_
  | refine EV_tuple ?_
  | refine EV_if ?_
  | refine EV_local (by with_unfolding_all rfl) ?_
  | refine ASG_local ?_
  | refine ASG_sub ?_
  | refine ASG_attr ?_
  | refine O2_add ?_
  | refine O2_sub ?_
  | refine O2_lt ?_
  | refine O2_gt ?_
  | refine O2_eq ?_
  | refine O2_ne ?_
  | refine O2_iadd ?_
  | refine O2_isub ?_
  | refine O2_isNone ?_
  | refine O2_isNotNone ?_
  | refine EB_val ?_)
local macro_rules | `(tactic| walk_at "xi") => `(tactic| (with_reducible refine EX_cons (st := .If _ _ _ _) ?_); repeat walk_at "x")
noncomputable section
section
noncomputable abbrev pv (p : Int × Int) : V := .tup [.int p.1, .int p.2]
theorem fdiv_two {a b : Int} (h : 0 ≤ a) (hb : 0 ≤ b) : a.fdiv b = a / b := by rw [Int.fdiv_eq_ediv_of_nonneg _ hb]
noncomputable abbrev KK (P : Params) : Frag := hd07.heap_1 P
noncomputable abbrev a_heappush : Addr := 28
noncomputable abbrev a_heappop : Addr := 35
noncomputable abbrev a_siftdown : Addr := 42
noncomputable abbrev a_siftup : Addr := 49
theorem g_siftdown {P : Params} : nsIn (KK P) mainGlobals "_siftdown" = some (some (.ref a_siftdown)) := by kernel_rfl
theorem g_siftup {P : Params} : nsIn (KK P) mainGlobals "_siftup" = some (some (.ref a_siftup)) := by kernel_rfl
theorem g_len {P : Params} : nsIn (KK P) mainGlobals "len" = some none := by kernel_rfl
theorem b_len : bootBuiltins "len" = some (.builtin "len") := by kernel_rfl
theorem par_shr {p : Nat} (h : 0 < p) : ((p : Int) - 1).fdiv (2 ^ (1 : Int).toNat) = ((par p : Nat) : Int) := by
  rw [fdiv_two (by (first | lia | omega)) (by decide)]
  unfold par
  show ((p : Int) - 1) / 2 = _
  (first | lia | omega)
theorem sdown_step {lt : (Int × Int) → (Int × Int) → Bool} {x y : Int × Int} {p : Nat} {l : List (Int × Int)} (h : 0 < p) (hy : l[par p]? = some y) : sdown lt x p l = if lt x y = true then sdown lt x (par p) (l.set p y) else l.set p x := by
  conv => lhs; rw [sdown_eq]
  rw [dif_pos h, hy]
theorem sdown_zero {lt : (Int × Int) → (Int × Int) → Bool} {x : Int × Int} {l : List (Int × Int)} : sdown lt x 0 l = l.set 0 x := by
  rw [sdown_eq]; rfl
theorem pv_get {ps : List (Int × Int)} {k : Nat} {y : Int × Int} (h : ps[k]? = some y) : (ps.map pv)[(k : Int).toNat]? = some (pv y) := by
  rw [Int.toNat_natCast, List.getElem?_map, h]; rfl
theorem pv_set {ps : List (Int × Int)} {k : Nat} {y : Int × Int} : (ps.map pv).set (k : Int).toNat (pv y) = (ps.set k y).map pv := by
  rw [Int.toNat_natCast, List.map_set]
section
variable {C : Cx} {A : Around} {m : Loc} {H : CH} {s : Shared} {mg mb : Str → Option Value} {P : Params}
theorem spec_siftdown {h : Addr} {ps : List (Int × Int)} {pos : Nat} {x : Int × Int} (B : Bs C.h₀ (KK P) mg mb) {n : Nat} (hA : AOK C A (n + 1)) (hh : H h = some (.list (ps.map pv))) (hsz : ps.length ≤ sizeLine) (hp : ps[pos]? = some x) :
    CALL C A (.con (.ref a_siftdown)) [.ref h, .int 0, .int pos] [] H fun v H' => v = V.none ∧ H' = H.set h (.list ((sdown plt x pos ps).map pv)) := by
  refine CALL_K B (by with_unfolding_all rfl) (by with_unfolding_all rfl) hA .pos3 (by with_unfolding_all rfl) rfl fun L hL hL0 hA' => ?_
  have hsz' : (ps.map pv).length ≤ sizeLine := by rw [List.length_map]; exact hsz
  repeat walk_at "x"
  refine sub_list (.own hh) (by (first | lia | omega)) (pv_get hp) hsz' ?_
  repeat walk_at "x"
  have hpl : pos < ps.length := (List.getElem?_eq_some_iff.mp hp).1
  refine EX_mid (fun m H' => ∃ (p : Nat) (ps' : List (Int × Int)), H' = H.set h (.list (ps'.map pv)) ∧ ps'.length = ps.length ∧ p < ps.length ∧ ps'.set p x = sdown plt x pos ps ∧ Sub [("pos", .int p), ("newitem", pv x), ("heap", .ref h)] m) ?_ ?_
  · refine ES_while (fun n m H' => ∃ ps' : List (Int × Int), H' = H.set h (.list (ps'.map pv)) ∧ ps'.length = ps.length ∧ n < ps.length ∧ sdown plt x n ps' = sdown plt x pos ps ∧ m = ([("pos", .int n), ("newitem", pv x), ("heap", .ref h), ("startpos", .int 0)] : Loc)) pos _ (.cons rfl (.cons rfl (.cons rfl (.cons rfl .nil)))) ⟨ps, (CH.set_self hh).symm, rfl, hpl, rfl, rfl⟩ ?_
    rintro n m H' ⟨ps', rfl, hl, hn, hsd, rfl⟩
    repeat walk_at "x"
    refine ⟨_, rfl, fun h0 => ?_, fun h0 => ?_⟩
    · have hn0 : 0 < n := by simpa using h0
      obtain ⟨y, hy⟩ : ∃ y, ps'[par n]? = some y := ⟨_, List.getElem?_eq_getElem (by have := par_lt hn0; (first | lia | omega))⟩
      repeat walk_at "x"
      refine O2_shr (by decide) ?_
      rw [par_shr hn0]
      repeat walk_at "x"
      refine sub_list (.own CH.set_same) (by (first | lia | omega)) (pv_get hy) (by rw [List.length_map]; (first | lia | omega)) ?_
      repeat walk_at "x"
      walk_at "xi"
      refine O2_ltp hA'.line ?_
      have hst := sdown_step (lt := plt) (x := x) hn0 hy
      refine ⟨_, rfl, fun h1 => ?_, fun h1 => ?_⟩
      · rw [if_pos (show plt x y = true from h1)] at hst
        repeat walk_at "x"
        refine set_list CH.set_same (by (first | lia | omega)) (by rw [List.length_map]; (first | lia | omega)) (by rw [List.length_map]; (first | lia | omega)) ?_
        repeat walk_at "x"
        refine ⟨par n, _, par_lt hn0, .cons rfl (.cons rfl (.cons rfl (.cons rfl .nil))), ps'.set n y, ?_, by simpa using hl, by have := par_lt hn0; (first | lia | omega), by rw [← hst, hsd], rfl⟩
        rw [CH.set_set, pv_set]
      · rw [if_neg (show ¬ plt x y = true from by have : plt x y = false := h1; simp [this])] at hst
        repeat walk_at "x"
        exact ⟨n, ps', rfl, hl, hn, by rw [← hst, hsd], .cons rfl (.cons rfl (.cons rfl .nil))⟩
    · have hn0 : n = 0 := by simp at h0; (first | lia | omega)
      subst hn0
      repeat walk_at "x"
      exact ⟨0, ps', rfl, hl, hn, by rw [← hsd, sdown_zero], .cons rfl (.cons rfl (.cons rfl .nil))⟩
  · rintro m H' ⟨p, ps', rfl, e2, e3, e4, e5⟩
    refine EX.sub e5 ?_
    repeat walk_at "x"
    refine set_list CH.set_same (by (first | lia | omega)) (by rw [List.length_map]; (first | lia | omega)) (by rw [List.length_map]; (first | lia | omega)) ?_
    repeat walk_at "x"
    refine ⟨rfl, ?_⟩
    rw [CH.set_set, pv_set, e4]
theorem sup_step {lt : (Int × Int) → (Int × Int) → Bool} {p : Nat} {l : List (Int × Int)} {y : Int × Int} (h : 2 * p + 1 < l.length) (hy : l[kid lt l p]? = some y) : sup lt p l = sup lt (kid lt l p) (l.set p y) := by
  conv => lhs; rw [sup_eq]
  rw [dif_pos h, hy]
theorem sup_end {lt : (Int × Int) → (Int × Int) → Bool} {p : Nat} {l : List (Int × Int)} (h : ¬ 2 * p + 1 < l.length) : sup lt p l = (p, l) := by
  rw [sup_eq, dif_neg h]
theorem spec_siftup {h : Addr} {ps : List (Int × Int)} {x : Int × Int} (B : Bs C.h₀ (KK P) mg mb) {n : Nat} (hA : AOK C A (n + 2)) (hh : H h = some (.list (ps.map pv))) (hsz : ps.length ≤ sizeLine) (hp : ps[0]? = some x) :
    CALL C A (.con (.ref a_siftup)) [.ref h, .int 0] [] H fun v H' => v = V.none ∧ H' = H.set h (.list ((sdown plt x (sup plt 0 ps).1 ((sup plt 0 ps).2.set (sup plt 0 ps).1 x)).map pv)) := by
  refine CALL_K B (by with_unfolding_all rfl) (by with_unfolding_all rfl) hA .pos2 (by with_unfolding_all rfl) rfl fun L hL hL0 hA' => ?_
  have hsz' : (ps.map pv).length ≤ sizeLine := by rw [List.length_map]; exact hsz
  have hpl : 0 < ps.length := (List.getElem?_eq_some_iff.mp hp).1
  repeat walk_at "x"
  refine EV_b B g_len b_len ?_
  repeat walk_at "x"
  refine ⟨KP_built, CV_len (.own hh) hsz' ?_⟩
  rw [List.length_map]
  repeat walk_at "x"
  refine sub_list (k := 0) (.own hh) (by (first | lia | omega)) (pv_get (k := 0) hp) hsz' ?_
  repeat walk_at "x"
  refine O2_mul (.of_left (by decide)) ?_
  repeat walk_at "x"
  refine EX_mid (fun m H' => ∃ (p : Nat) (ps' : List (Int × Int)), H' = H.set h (.list (ps'.map pv)) ∧ ps'.length = ps.length ∧ p < ps.length ∧ sup plt 0 ps = (p, ps') ∧ Sub [("pos", .int p), ("newitem", pv x), ("heap", .ref h), ("startpos", .int 0)] m) ?_ ?_
  · refine ES_while (fun n m H' => ∃ (ps' : List (Int × Int)) (p : Nat), H' = H.set h (.list (ps'.map pv)) ∧ ps'.length = ps.length ∧ p < ps.length ∧ n = ps.length - p ∧ sup plt p ps' = sup plt 0 ps ∧ m = ([("pos", .int p), ("childpos", .int (2 * p + 1)), ("newitem", pv x), ("heap", .ref h), ("startpos", .int 0), ("endpos", .int ps.length)] : Loc)) ps.length _ (.cons rfl (.cons rfl (.cons rfl (.cons rfl (.cons rfl (.cons rfl .nil)))))) ⟨ps, 0, (CH.set_self hh).symm, rfl, hpl, rfl, rfl, rfl⟩ ?_
    rintro n m H' ⟨ps', p, rfl, hl, hn, rfl, hsd, rfl⟩
    have hszp : (ps'.map pv).length ≤ sizeLine := by rw [List.length_map]; (first | lia | omega)
    repeat walk_at "x"
    refine ⟨_, rfl, fun h0 => ?_, fun h0 => ?_⟩
    · have hn0 : 2 * p + 1 < ps'.length := by simp at h0; (first | lia | omega)
      repeat walk_at "x"
      refine EX_mid (fun m H' => H' = H.set h (.list (ps'.map pv)) ∧ Sub [("childpos", .int (kid plt ps' p : Nat)), ("pos", .int p), ("newitem", pv x), ("heap", .ref h), ("startpos", .int 0), ("endpos", .int ps.length)] m) ?_ ?_
      · repeat walk_at "x"
        refine ⟨_, rfl, fun h1 => ?_, fun h1 => ?_⟩
        · have h2 : 2 * p + 2 < ps'.length := by simp at h1; (first | lia | omega)
          obtain ⟨a, ha⟩ : ∃ a, ps'[2 * p + 1]? = some a := ⟨_, List.getElem?_eq_getElem (by (first | lia | omega))⟩
          obtain ⟨b, hb⟩ : ∃ a, ps'[2 * p + 2]? = some a := ⟨_, List.getElem?_eq_getElem (by (first | lia | omega))⟩
          have hk : kid plt ps' p = if plt a b = true then 2 * p + 1 else 2 * p + 2 := by unfold kid; rw [ha, hb]
          repeat walk_at "x"
          refine sub_list (.own CH.set_same) (by (first | lia | omega)) (pv_get (k := 2 * p + 1) ha) hszp ?_
          repeat walk_at "x"
          rw [show (2 * (p : Int) + 1 + 1) = ((2 * p + 2 : Nat) : Int) from by (first | lia | omega)]
          refine sub_list (.own CH.set_same) (by (first | lia | omega)) (pv_get (k := 2 * p + 2) hb) hszp ?_
          refine O2_ltp hA'.line ?_
          refine ⟨_, rfl, fun h3 => ?_, fun h3 => ?_⟩
          · have h3 : plt a b = false := by have h4 : (!plt a b) = true := h3; simpa using h4
            rw [h3] at hk
            repeat walk_at "x"
            refine ⟨rfl, .cons ?_ (.cons rfl (.cons rfl (.cons rfl (.cons rfl (.cons rfl .nil)))))⟩
            rw [hk]; rfl
          · have h3 : plt a b = true := by have h4 : (!plt a b) = false := h3; simpa using h4
            rw [h3] at hk
            repeat walk_at "x"
            refine ⟨rfl, .cons ?_ (.cons rfl (.cons rfl (.cons rfl (.cons rfl (.cons rfl .nil)))))⟩
            rw [hk]; rfl
        · refine ⟨fun q => (by cases q), fun _ => ?_⟩
          have h2 : ¬ 2 * p + 2 < ps'.length := by simp at h1; (first | lia | omega)
          have hk : kid plt ps' p = 2 * p + 1 := by unfold kid; rw [List.getElem?_eq_none (by (first | lia | omega) : ps'.length ≤ 2 * p + 2)]; cases ps'[2 * p + 1]? <;> rfl
          repeat walk_at "x"
          refine ⟨rfl, .cons ?_ (.cons rfl (.cons rfl (.cons rfl (.cons rfl (.cons rfl .nil)))))⟩
          rw [hk]; rfl
      · rintro m H' ⟨rfl, hm⟩
        refine EX.sub hm ?_
        have hkl := kid_lt (lt := plt) hn0
        obtain ⟨y, hy⟩ : ∃ a, ps'[kid plt ps' p]? = some a := ⟨_, List.getElem?_eq_getElem hkl⟩
        repeat walk_at "x"
        refine sub_list (.own CH.set_same) (by (first | lia | omega)) (pv_get hy) hszp ?_
        repeat walk_at "x"
        refine set_list CH.set_same (by (first | lia | omega)) (by rw [List.length_map]; (first | lia | omega)) hszp ?_
        repeat walk_at "x"
        refine O2_mul (.of_left (by decide)) ?_
        repeat walk_at "x"
        have hge := kid_le plt ps' p
        refine ⟨ps.length - kid plt ps' p, _, by (first | lia | omega), .cons rfl (.cons rfl (.cons rfl (.cons rfl (.cons rfl (.cons rfl .nil))))), ps'.set p y, kid plt ps' p, ?_, by simpa using hl, by (first | lia | omega), rfl, by rw [← sup_step hn0 hy, hsd], rfl⟩
        rw [CH.set_set, pv_set]
    · have hn0 : ¬ 2 * p + 1 < ps'.length := by simp at h0; (first | lia | omega)
      repeat walk_at "x"
      exact ⟨p, ps', rfl, hl, hn, by rw [← hsd, sup_end hn0], .cons rfl (.cons rfl (.cons rfl (.cons rfl .nil)))⟩
  · rintro m H' ⟨p, ps', rfl, e2, e3, e4, e5⟩
    refine EX.sub e5 ?_
    repeat walk_at "x"
    refine set_list CH.set_same (by (first | lia | omega)) (by rw [List.length_map]; (first | lia | omega)) (by rw [List.length_map]; (first | lia | omega)) ?_
    rw [CH.set_set, pv_set]
    repeat walk_at "x"
    refine EV_g B g_siftdown ?_
    repeat walk_at "x"
    refine ⟨KP_K B (by with_unfolding_all rfl), CV_of ((spec_siftdown (by exact B) hA' CH.set_same (by rw [List.length_set]; (first | lia | omega)) (by rw [List.getElem?_set_self (by (first | lia | omega))])).mono ?_)⟩
    rintro v H' ⟨rfl, rfl⟩
    repeat walk_at "x"
    refine ⟨rfl, ?_⟩
    rw [CH.set_set, e4]
theorem spec_heappush {h : Addr} {ps : List (Int × Int)} {x : Int × Int} (B : Bs C.h₀ (KK P) mg mb) {n : Nat} (hA : AOK C A (n + 2)) (hh : H h = some (.list (ps.map pv))) (hsz : ps.length + 1 ≤ sizeLine) :
    CALL C A (.con (.ref a_heappush)) [.ref h, pv x] [] H fun v H' => v = V.none ∧ H' = H.set h (.list ((sdown plt x ps.length (ps ++ [x])).map pv)) := by
  refine CALL_K B (by with_unfolding_all rfl) (by with_unfolding_all rfl) hA .pos2 (by with_unfolding_all rfl) rfl fun L hL hL0 hA' => ?_
  repeat walk_at "x"
  refine GM_list (.own hh) F.slot_list_append F.type_list_append ?_
  repeat walk_at "x"
  refine ⟨KP_built, CV_append hh (by rw [List.length_map]; (first | lia | omega)) ?_⟩
  have e : ps.map pv ++ [pv x] = (ps ++ [x]).map pv := by simp
  rw [e]
  repeat walk_at "x"
  refine EV_g B g_siftdown ?_
  repeat walk_at "x"
  refine EV_b B g_len b_len ?_
  repeat walk_at "x"
  refine ⟨KP_built, CV_len (.own CH.set_same) (by simp; (first | lia | omega)) ?_⟩
  repeat walk_at "x"
  have e2 : ((((ps ++ [x]).map pv).length : Nat) : Int) - 1 = ((ps.length : Nat) : Int) := by simp
  rw [e2]
  repeat walk_at "x"
  refine ⟨KP_K B (by with_unfolding_all rfl), CV_of ((spec_siftdown (x := x) (by exact B) hA' CH.set_same (by simp; (first | lia | omega)) (by simp)).mono ?_)⟩
  rintro v H' ⟨rfl, rfl⟩
  repeat walk_at "x"
  refine ⟨rfl, ?_⟩
  rw [CH.set_set]
theorem spec_heappop {h : Addr} {a x : Int × Int} {ps : List (Int × Int)} (B : Bs C.h₀ (KK P) mg mb) {n : Nat} (hA : AOK C A (n + 3)) (hh : H h = some (.list ((a :: ps ++ [x]).map pv))) (hsz : ps.length + 2 ≤ sizeLine) :
    CALL C A (.con (.ref a_heappop)) [.ref h] [] H fun v H' => v = pv a ∧ H' = H.set h (.list ((popped (lt := plt) x (a :: ps)).map pv)) := by
  refine CALL_K B (by with_unfolding_all rfl) (by with_unfolding_all rfl) hA .pos1 (by with_unfolding_all rfl) rfl fun L hL hL0 hA' => ?_
  have hh' : H h = some (.list ((a :: ps).map pv ++ [pv x])) := by rw [hh]; simp
  repeat walk_at "x"
  refine GM_list (.own hh) F.slot_list_pop F.type_list_pop ?_
  repeat walk_at "x"
  refine ⟨KP_built, CV_pop hh' (by simp; (first | lia | omega)) ?_⟩
  repeat walk_at "x"
  walk_at "xi"
  refine OB_list (.own CH.set_same) (by simp; (first | lia | omega)) ?_
  refine ⟨fun _ => ?_, fun q => (by cases q)⟩
  repeat walk_at "x"
  refine sub_list (v := pv a) (.own CH.set_same) (by (first | lia | omega)) rfl (by simp; (first | lia | omega)) ?_
  repeat walk_at "x"
  refine set_list CH.set_same (by (first | lia | omega)) (by simp) (by simp; (first | lia | omega)) ?_
  have e : (((a :: ps).map pv).set (0 : Int).toNat (pv x)) = ((a :: ps).set 0 x).map pv := by simp
  rw [e, CH.set_set]
  repeat walk_at "x"
  refine EV_g B g_siftup ?_
  repeat walk_at "x"
  refine ⟨KP_K B (by with_unfolding_all rfl), CV_of ((spec_siftup (x := x) (by exact B) hA' CH.set_same (by simp; (first | lia | omega)) (by simp)).mono ?_)⟩
  rintro v H' ⟨rfl, rfl⟩
  repeat walk_at "x"
  refine ⟨rfl, ?_⟩
  rw [CH.set_set]; rfl
theorem spec_heappop1 {h : Addr} {x : Int × Int} (B : Bs C.h₀ (KK P) mg mb) {n : Nat} (hA : AOK C A (n + 3)) (hh : H h = some (.list ([x].map pv))) :
    CALL C A (.con (.ref a_heappop)) [.ref h] [] H fun v H' => v = pv x ∧ H' = H.set h (.list []) := by
  refine CALL_K B (by with_unfolding_all rfl) (by with_unfolding_all rfl) hA .pos1 (by with_unfolding_all rfl) rfl fun L hL hL0 hA' => ?_
  have hh' : H h = some (.list ([] ++ [pv x])) := by rw [hh]; rfl
  repeat walk_at "x"
  refine GM_list (.own hh) F.slot_list_pop F.type_list_pop ?_
  repeat walk_at "x"
  refine ⟨KP_built, CV_pop hh' (by unfold sizeLine; simp) ?_⟩
  repeat walk_at "x"
  walk_at "xi"
  refine OB_list (.own CH.set_same) (by simp) ?_
  refine ⟨fun q => (by cases q), fun _ => ?_⟩
  repeat walk_at "x"
  exact ⟨rfl, rfl⟩
end
end
section
noncomputable abbrev a_reduce : Addr := 58
noncomputable abbrev a_missing : Addr := 50
theorem g_missing {P : Params} : nsIn (KK P) mainGlobals "_initial_missing" = some (some (.ref a_missing)) := by kernel_rfl
theorem g_iter {P : Params} : nsIn (KK P) mainGlobals "iter" = some none := by kernel_rfl
theorem b_iter : bootBuiltins "iter" = some (.builtin "iter") := by kernel_rfl
section
variable {C : Cx} {A : Around} {m : Loc} {H : CH} {s : Shared} {mg mb : Str → Option Value} {P : Params}
theorem spec_reduceG {f init v : V} {c : CObj} {xs : List V} {ok : CH → Prop} (B : Bs C.h₀ (KK P) mg mb) {n : Nat} (hA : AOK C A (n + 1)) (it : ∀ env, Iters (C.at env) (A.deeper env) v H c xs ok) (hinit : (∃ i, init = .int i) ∨ init = V.none ∨ (∃ a c, init = .ref a ∧ H a = some c) ∨ ∃ l, init = .tup l)
    (J : Nat → V → CH → Prop) (h0 : J 0 init H) (hkp : ∀ env H', KP (C.at env) f H')
    (step : ∀ i v x H' env, AOK (C.at env) (A.deeper env) n → J i v H' → xs[i]? = some x → CALL (C.at env) (A.deeper env) f [v, x] [] H' fun v' H'' => J (i + 1) v' H'')
    (keep : ∀ i v H', J i v H' → ok H') :
    CALL C A (.con (.ref a_reduce)) [f, v, init] [] H (J xs.length) := by
  refine CALL_KW B (by with_unfolding_all rfl) (by with_unfolding_all rfl) hA (binds := [("function", f), ("sequence", v), ("initial", init)]) (.dflt (T := 51) (items := [.ref a_missing]) (n := 0) B (by with_unfolding_all rfl) fun h rs hv => ?_) (by with_unfolding_all rfl) rfl fun L hL hL0 hA' => ?_
  · obtain ⟨a, b, c, rfl, ha, hb, hc⟩ := three_inv hv
    exact ⟨_, [("function", a), ("sequence", b), ("initial", c)], by with_unfolding_all rfl, by with_unfolding_all rfl, rfl, .cons ha (.cons hb (.cons hc .nil))⟩
  repeat walk_at "x"
  refine EV_b B g_iter b_iter ?_
  repeat walk_at "x"
  refine ⟨KP_built, (it _).make fun I hI hI0 => ?_⟩
  repeat walk_at "x"
  walk_at "xi"
  refine EV_g B g_missing ?_
  refine O2_is_mark (B.X _ _ (by with_unfolding_all rfl : (KK P).lookup a_missing = some { cls := .type "object" })) (fun e => absurd (Value.type.inj e) (by decide)) ?_ ?_
  · rcases hinit with h | h | ⟨a, c, h1, h2⟩ | h
    · exact .inl h
    · exact .inr (.inl h)
    · exact .inr (.inr (.inl ⟨a, c, h1, by rw [CH.set_ne (fun e => by rw [e, hI] at h2; cases h2)]; exact h2⟩))
    · exact .inr (.inr (.inr h))
  refine ⟨_, rfl, fun q => (by cases q), fun _ => ?_⟩
  repeat walk_at "x"
  refine EX_cons (st := .For _ _ _ _ _) ?_
  refine ES_for_iters (it _) hI (by with_unfolding_all rfl) [("value", init), ("function", f)] (fun i m' H' => ∃ v, J i v H' ∧ m' = ([("value", v), ("function", f)] : Loc)) (.cons rfl (.cons rfl .nil)) ⟨init, h0, rfl⟩ ?_
  rintro i m' H' ⟨v, hJ, rfl⟩
  refine ⟨keep i v H' hJ, fun x hx => ?_, fun hi => ?_⟩
  · repeat walk_at "x"
    refine ⟨hkp _ _, CV_of ((step i v x H' _ hA' hJ hx).mono ?_)⟩
    intro v' H'' hJ'
    repeat walk_at "x"
    exact ⟨[("value", v'), ("function", f)], .cons rfl (.cons rfl .nil), v', hJ', rfl⟩
  · subst hi
    repeat walk_at "x"
    exact hJ
theorem spec_reduce {f init : V} {l : Addr} {xs : List V} (B : Bs C.h₀ (KK P) mg mb) {n : Nat} (hA : AOK C A (n + 1)) (hl : H l = some (.list xs)) (hinit : (∃ i, init = .int i) ∨ init = V.none ∨ (∃ a c, init = .ref a ∧ H a = some c) ∨ ∃ l, init = .tup l)
    (J : Nat → V → CH → Prop) (h0 : J 0 init H) (hkp : ∀ env H', KP (C.at env) f H')
    (step : ∀ i v x H' env, AOK (C.at env) (A.deeper env) n → J i v H' → xs[i]? = some x → CALL (C.at env) (A.deeper env) f [v, x] [] H' fun v' H'' => J (i + 1) v' H'')
    (keep : ∀ i v H', J i v H' → H' l = some (.list xs)) :
    CALL C A (.con (.ref a_reduce)) [f, .ref l, init] [] H (J xs.length) :=
  spec_reduceG B hA (fun env => iters_list hA.handled hl) hinit J h0 hkp step keep
end
end
section
noncomputable abbrev cNI : Addr := 77
noncomputable abbrev cTS : Addr := 174
noncomputable abbrev a_NIinit : Addr := 73
noncomputable abbrev a_TSinit : Addr := 110
noncomputable abbrev a_getinfo : Addr := 117
noncomputable abbrev a_add : Addr := 124
noncomputable abbrev a_prepare : Addr := 129
noncomputable abbrev a_getready : Addr := 136
noncomputable abbrev a_isactive : Addr := 143
noncomputable abbrev a_done : Addr := 157
noncomputable abbrev a_findcycle : Addr := 164
theorem g_NI {P : Params} : nsIn (KK P) mainGlobals "_NodeInfo" = some (some (.ref cNI)) := by kernel_rfl
theorem k_makeNI {P : Params} : makeOk (KK P) cNI a_NIinit = true := by kernel_rfl
theorem k_makeTS {P : Params} : makeOk (KK P) cTS a_TSinit = true := by kernel_rfl
theorem k_keepNI {P : Params} : keepIn (KK P) (.ref cNI) = true := by kernel_rfl
theorem k_keepTS {P : Params} : keepIn (KK P) (.ref cTS) = true := by kernel_rfl
section
variable {C : Cx} {A : Around} {m : Loc} {H : CH} {s : Shared} {mg mb : Str → Option Value} {P : Params}
noncomputable abbrev niObj (d l : Addr) (np k : Int) : CObj := .inst cNI d [some (.int k), some (.int np), some (.ref l)]
theorem spec_NIinit {x d : Addr} {k : Int} (B : Bs C.h₀ (KK P) mg mb) {n : Nat} (hA : AOK C A (n + 1)) (hx : H x = some (.inst cNI d [])) (hd : H d = some (.idict [])) :
    CALL C A (.con (.ref a_NIinit)) [.ref x, .int k] [] H fun v H' => v = V.none ∧ ∃ l, H l = none ∧ H' = (H.set l (.list [])).set x (niObj d l 0 k) := by
  have hxd : x ≠ d := fun e => by rw [e, hd] at hx; cases hx
  refine CALL_K B (by with_unfolding_all rfl) (by with_unfolding_all rfl) hA .pos2 (by with_unfolding_all rfl) rfl fun L hL hL0 hA' => ?_
  repeat walk_at "x"
  refine SA_slot (p := 78) (i := 0) B hx hd ?_
  repeat walk_at "x"
  refine SA_slot (p := 79) (i := 1) B CH.set_same (by rw [CH.set_ne (Ne.symm hxd)]; exact hd) ?_
  repeat walk_at "x"
  refine EV_list ?_
  repeat walk_at "x"
  refine ⟨by simp, fun l hl => ?_⟩
  rw [CH.set_set] at hl ⊢
  have hlx : x ≠ l := fun e => by rw [e, CH.set_same] at hl; cases hl
  have hlH : H l = none := by rw [← CH.set_ne (H := H) (c := _) (Ne.symm hlx)]; exact hl
  have hld : d ≠ l := fun e => by rw [e, hlH] at hd; cases hd
  repeat walk_at "x"
  refine SA_slot (p := 80) (i := 2) B (by rw [CH.set_ne hlx, CH.set_same]) (by rw [CH.set_ne hld, CH.set_ne (Ne.symm hxd)]; exact hd) ?_
  repeat walk_at "x"
  refine ⟨rfl, l, hlH, ?_⟩
  funext b
  by_cases hb : b = x
  · subst hb; rw [CH.set_same, CH.set_same]; rfl
  · rw [CH.set_ne hb, CH.set_ne hb]
    by_cases hbl : b = l
    · subst hbl; rw [CH.set_same, CH.set_same]
    · rw [CH.set_ne hbl, CH.set_ne hbl, CH.set_ne hb]
theorem spec_makeNI {k : Int} (B : Bs C.h₀ (KK P) mg mb) {n : Nat} (hA : AOK C A (n + 2)) :
    CALL C A (.con (.ref cNI)) [.int k] [] H fun v H' => ∃ x d l, v = .ref x ∧ H x = none ∧ H d = none ∧ H l = none ∧ x ≠ d ∧ x ≠ l ∧ d ≠ l ∧ H' x = some (niObj d l 0 k) ∧ H' d = some (.idict []) ∧ H' l = some (.list []) ∧ ∀ b, b ≠ x → b ≠ d → b ≠ l → H' b = H b := by
  refine CALL_make B k_makeNI fun x d rest kw hx hd hx0 hd0 hxd => ?_
  refine (spec_NIinit (k := k) B hA.under CH.set_same (by rw [CH.set_ne (Ne.symm hxd)]; exact CH.set_same)).mono ?_
  rintro v H' ⟨rfl, l, hl, rfl⟩
  have hlx : l ≠ x := fun e => by rw [e, CH.set_same] at hl; cases hl
  have hld : l ≠ d := fun e => by rw [e, CH.set_ne (Ne.symm hxd), CH.set_same] at hl; cases hl
  refine ⟨rfl, x, d, l, rfl, hx, hd, by rw [CH.set_ne hlx, CH.set_ne hld] at hl; exact hl, hxd, Ne.symm hlx, Ne.symm hld, CH.set_same, ?_, ?_, ?_⟩
  · rw [CH.set_ne (Ne.symm hxd), CH.set_ne (Ne.symm hld), CH.set_ne (Ne.symm hxd), CH.set_same]
  · rw [CH.set_ne hlx, CH.set_same]
  · intro b h1 h2 h3
    rw [CH.set_ne h1, CH.set_ne h3, CH.set_ne h1, CH.set_ne h2]
end
end
section
structure TS where
  keys : List Int
  np : Int → Int
  sc : Int → List Int
  ready : Option (List Int)
  pass : Int
  fin : Int
noncomputable def TS.new : TS := ⟨[], fun _ => 0, fun _ => [], none, 0, 0⟩
noncomputable def upd {α : Type} (f : Int → α) (k : Int) (v : α) : Int → α := fun x => if x = k then v else f x
theorem upd_same {α : Type} {f : Int → α} {k : Int} {v : α} : upd f k v k = v := by simp [upd]
theorem upd_ne {α : Type} {f : Int → α} {k x : Int} {v : α} (h : x ≠ k) : upd f k v x = f x := by simp [upd, h]
noncomputable def TS.touch (T : TS) (k : Int) : TS := if k ∈ T.keys then T else { T with keys := T.keys ++ [k], np := upd T.np k 0, sc := upd T.sc k [] }
noncomputable def TS.setNp (T : TS) (k v : Int) : TS := { T with np := upd T.np k v }
noncomputable def TS.link (T : TS) (p k : Int) : TS := { T with sc := upd T.sc p (T.sc p ++ [k]) }
noncomputable def TS.add (T : TS) (k : Int) (ps : List Int) : TS :=
  ps.foldl (fun T p => (T.touch p).link p k) ((T.touch k).setNp k ((T.touch k).np k + ps.length))
noncomputable def TS.prep (T : TS) : TS := { T with ready := some (T.keys.filter fun k => T.np k == 0) }
noncomputable def TS.out (T : TS) (ks : List Int) : TS := ks.foldl (fun T k => T.setNp k (-1)) T
noncomputable def TS.getReady (T : TS) (r : List Int) : TS := { T.out r with ready := some [], pass := T.pass + r.length }
noncomputable def TS.rel (T : TS) (x : Int) : TS := { T.setNp x (T.np x - 1) with ready := if T.np x - 1 = 0 then T.ready.map (· ++ [x]) else T.ready }
noncomputable def TS.done1 (T : TS) (k : Int) : TS := { (T.sc k).foldl TS.rel (T.setNp k (-2)) with fin := T.fin + 1 }
structure Lay where
  d : Addr
  n2i : Addr
  ep : Nat
  rd : Addr
  bA : Int → Addr
  bD : Int → Addr
  bL : Int → Addr
noncomputable def rdV (T : TS) (L : Lay) : V := match T.ready with | none => V.none | some _ => .ref L.rd
structure TSR (H : CH) (a : Addr) (T : TS) (L : Lay) : Prop where
  top : H a = some (.inst cTS L.d [])
  dict : H L.d = some (.idict [("_node2info", .ref L.n2i), ("_ready_nodes", rdV T L), ("_npassedout", .int T.pass), ("_nfinished", .int T.fin)])
  n2i : H L.n2i = some (.dict (T.keys.map fun k => (k, .ref (L.bA k))) L.ep)
  rdy : ∀ r, T.ready = some r → H L.rd = some (.list (r.map .int))
  node : ∀ k ∈ T.keys, H (L.bA k) = some (niObj (L.bD k) (L.bL k) (T.np k) k)
  nd : ∀ k ∈ T.keys, H (L.bD k) = some (.idict [])
  succ : ∀ k ∈ T.keys, H (L.bL k) = some (.list ((T.sc k).map .int))
  inj : ∀ k ∈ T.keys, ∀ k' ∈ T.keys, L.bL k = L.bL k' → k = k'
  rdn : ∀ k ∈ T.keys, T.ready ≠ none → L.bL k ≠ L.rd
  nodup : T.keys.Nodup
noncomputable def Foot (a : Addr) (T : TS) (L : Lay) (b : Addr) : Prop := b = a ∨ b = L.d ∨ b = L.n2i ∨ (T.ready ≠ none ∧ b = L.rd) ∨ ∃ k ∈ T.keys, b = L.bA k ∨ b = L.bD k ∨ b = L.bL k
noncomputable def FrameT (a : Addr) (H : CH) (T : TS) (L : Lay) (H' : CH) (T' : TS) (L' : Lay) : Prop := ∀ b, H b ≠ none → ¬ Foot a T L b → H' b = H b ∧ ¬ Foot a T' L' b
theorem FrameT.refl {a : Addr} {H : CH} {T : TS} {L : Lay} : FrameT a H T L H T L := fun _ _ h => ⟨rfl, h⟩
theorem FrameT.trans {a : Addr} {H H' H'' : CH} {T T' T'' : TS} {L L' L'' : Lay} (x : FrameT a H T L H' T' L') (y : FrameT a H' T' L' H'' T'' L'') : FrameT a H T L H'' T'' L'' := fun b hb hn => by
  obtain ⟨h1, h2⟩ := x b hb hn
  obtain ⟨h3, h4⟩ := y b (by rw [h1]; exact hb) h2
  exact ⟨h3.trans h1, h4⟩
theorem set_other {H : CH} {a b : Addr} {c : CObj} {x y : CObj} (ha : H a = some x) (hb : H b = some y) (hxy : x ≠ y) : H.set a c b = some y := by
  rw [CH.set_ne (fun e => hxy (by rw [e, ha] at hb; exact Option.some.inj hb))]; exact hb
theorem ni_inj {d l d' l' : Addr} {np np' k k' : Int} (h : niObj d l np k = niObj d' l' np' k') : k = k' := by
  injection h with h1 h2 h3
  simp at h3; exact h3.1
section
variable {H : CH} {a : Addr} {T : TS} {L : Lay}
theorem TSR.setNp (R : TSR H a T L) {k : Int} (hk : k ∈ T.keys) (v : Int) : TSR (H.set (L.bA k) (niObj (L.bD k) (L.bL k) v k)) a (T.setNp k v) L ∧ FrameT a H T L (H.set (L.bA k) (niObj (L.bD k) (L.bL k) v k)) (T.setNp k v) L := by
  have hn := R.node k hk
  refine ⟨⟨?_, ?_, ?_, ?_, ?_, ?_, ?_, R.inj, R.rdn, R.nodup⟩, fun b hb hf => ⟨CH.set_ne fun e => hf (.inr (.inr (.inr (.inr ⟨k, hk, .inl e⟩)))), hf⟩⟩
  · exact set_other hn R.top (by intro e; cases e)
  · exact set_other hn R.dict (by intro e; cases e)
  · exact set_other hn R.n2i (by intro e; cases e)
  · exact fun r hr => set_other hn (R.rdy r hr) (by intro e; cases e)
  · intro k' hk'
    by_cases h : k' = k
    · subst h; show CH.set _ _ _ _ = some (niObj _ _ (upd T.np k' v k') k'); rw [CH.set_same, upd_same]
    · show CH.set _ _ _ _ = some (niObj _ _ (upd T.np k v k') k')
      rw [upd_ne h]
      exact set_other hn (R.node k' hk') (fun e => h (ni_inj e).symm)
  · exact fun k' hk' => set_other hn (R.nd k' hk') (by intro e; cases e)
  · exact fun k' hk' => set_other hn (R.succ k' hk') (by intro e; cases e)
theorem TSR.setSc (R : TSR H a T L) {k : Int} (hk : k ∈ T.keys) (l : List Int) : TSR (H.set (L.bL k) (.list (l.map .int))) a { T with sc := upd T.sc k l } L ∧ FrameT a H T L (H.set (L.bL k) (.list (l.map .int))) { T with sc := upd T.sc k l } L := by
  have hn := R.succ k hk
  refine ⟨⟨?_, ?_, ?_, ?_, ?_, ?_, ?_, R.inj, R.rdn, R.nodup⟩, fun b hb hf => ⟨CH.set_ne fun e => hf (.inr (.inr (.inr (.inr ⟨k, hk, .inr (.inr e)⟩)))), hf⟩⟩
  · exact set_other hn R.top (by intro e; cases e)
  · exact set_other hn R.dict (by intro e; cases e)
  · exact set_other hn R.n2i (by intro e; cases e)
  · intro r hr
    rw [CH.set_ne (Ne.symm (R.rdn k hk (by rw [show T.ready = some r from hr]; simp)))]; exact R.rdy r hr
  · exact fun k' hk' => set_other hn (R.node k' hk') (by intro e; cases e)
  · exact fun k' hk' => set_other hn (R.nd k' hk') (by intro e; cases e)
  · intro k' hk'
    by_cases h : k' = k
    · subst h; show CH.set _ _ _ _ = some (.list ((upd T.sc k' l k').map .int)); rw [CH.set_same, upd_same]
    · show CH.set _ _ _ _ = some (.list ((upd T.sc k l k').map .int))
      rw [upd_ne h, CH.set_ne (fun e => h (R.inj _ hk' _ hk e))]; exact R.succ k' hk'
theorem TSR.setRd (R : TSR H a T L) {r : List Int} (hr : T.ready = some r) (l : List Int) : TSR (H.set L.rd (.list (l.map .int))) a { T with ready := some l } L ∧ FrameT a H T L (H.set L.rd (.list (l.map .int))) { T with ready := some l } L := by
  have hn := R.rdy r hr
  have hne : T.ready ≠ none := by rw [hr]; simp
  refine ⟨⟨?_, ?_, ?_, ?_, ?_, ?_, ?_, R.inj, fun k hk _ => R.rdn k hk hne, R.nodup⟩, fun b hb hf => ⟨CH.set_ne fun e => hf (.inr (.inr (.inr (.inl ⟨hne, e⟩)))), fun h => hf ?_⟩⟩
  · exact set_other hn R.top (by intro e; cases e)
  · have : rdV { T with ready := some l } L = rdV T L := by unfold rdV; rw [hr]
    show CH.set _ _ _ _ = some (.idict [_, ("_ready_nodes", rdV { T with ready := some l } L), _, _])
    rw [this]; exact set_other hn R.dict (by intro e; cases e)
  · exact set_other hn R.n2i (by intro e; cases e)
  · intro r' hr'; cases hr'; exact CH.set_same
  · exact fun k' hk' => set_other hn (R.node k' hk') (by intro e; cases e)
  · exact fun k' hk' => set_other hn (R.nd k' hk') (by intro e; cases e)
  · intro k' hk'
    rw [CH.set_ne (R.rdn k' hk' hne)]; exact R.succ k' hk'
  · rcases h with h | h | h | h | h
    · exact .inl h
    · exact .inr (.inl h)
    · exact .inr (.inr (.inl h))
    · exact .inr (.inr (.inr (.inl ⟨hne, h.2⟩)))
    · exact .inr (.inr (.inr (.inr h)))
/-- counts in the sorter's own names -/
theorem TSR.setNums (R : TSR H a T L) (p f : Int) : TSR (H.set L.d (.idict [("_node2info", .ref L.n2i), ("_ready_nodes", rdV T L), ("_npassedout", .int p), ("_nfinished", .int f)])) a { T with pass := p, fin := f } L ∧
    FrameT a H T L (H.set L.d (.idict [("_node2info", .ref L.n2i), ("_ready_nodes", rdV T L), ("_npassedout", .int p), ("_nfinished", .int f)])) { T with pass := p, fin := f } L := by
  have hn := R.dict
  refine ⟨⟨?_, CH.set_same, ?_, ?_, ?_, ?_, ?_, R.inj, R.rdn, R.nodup⟩, fun b hb hf => ⟨CH.set_ne fun e => hf (.inr (.inl e)), hf⟩⟩
  · exact set_other hn R.top (by intro e; cases e)
  · exact set_other hn R.n2i (by intro e; cases e)
  · exact fun r hr => set_other hn (R.rdy r hr) (by intro e; cases e)
  · exact fun k' hk' => set_other hn (R.node k' hk') (by intro e; cases e)
  · exact fun k' hk' => set_other hn (R.nd k' hk') (by intro e; simp at e)
  · exact fun k' hk' => set_other hn (R.succ k' hk') (by intro e; cases e)
theorem TSR.setSome (R : TSR H a T L) {r : Addr} (hr : H r = none) (hready : T.ready = none) (l : List Int) : TSR ((H.set r (.list (l.map .int))).set L.d (.idict [("_node2info", .ref L.n2i), ("_ready_nodes", .ref r), ("_npassedout", .int T.pass), ("_nfinished", .int T.fin)])) a { T with ready := some l } { L with rd := r } ∧
    FrameT a H T L ((H.set r (.list (l.map .int))).set L.d (.idict [("_node2info", .ref L.n2i), ("_ready_nodes", .ref r), ("_npassedout", .int T.pass), ("_nfinished", .int T.fin)])) { T with ready := some l } { L with rd := r } := by
  have hn := R.dict
  have low : ∀ {b : Addr} {c : CObj}, H b = some c → H.set r (.list (l.map .int)) b = some c := fun {b c} h => by rw [CH.set_ne (fun e => by rw [e, hr] at h; cases h)]; exact h
  have hn' := low hn
  refine ⟨⟨?_, CH.set_same, ?_, ?_, ?_, ?_, ?_, R.inj, ?_, R.nodup⟩, fun b hb hf => ⟨?_, fun h => hf ?_⟩⟩
  · exact set_other hn' (low R.top) (by intro e; cases e)
  · exact set_other hn' (low R.n2i) (by intro e; cases e)
  · intro r' hr'
    cases hr'
    show CH.set _ _ _ r = _
    rw [CH.set_ne (fun e => by rw [← e, hr] at hn; cases hn), CH.set_same]
  · exact fun k' hk' => set_other hn' (low (R.node k' hk')) (by intro e; cases e)
  · exact fun k' hk' => set_other hn' (low (R.nd k' hk')) (by intro e; simp at e)
  · exact fun k' hk' => set_other hn' (low (R.succ k' hk')) (by intro e; cases e)
  · intro k hk _ e
    have h := R.succ k hk
    have e' : L.bL k = r := e
    rw [e', hr] at h; cases h
  · rw [CH.set_ne (fun e => hf (.inr (.inl e))), CH.set_ne (fun e => by rw [e, hr] at hb; exact hb rfl)]
  · rcases h with h | h | h | h | h
    · exact .inl h
    · exact .inr (.inl h)
    · exact .inr (.inr (.inl h))
    · exact absurd h.2 (fun e => by rw [e] at hb; exact hb hr)
    · exact .inr (.inr (.inr (.inr h)))
theorem putI_new {kvs : List (Int × V)} {k : Int} {v : V} (h : k ∉ kvs.map (·.1)) : putI kvs k v = kvs ++ [(k, v)] := by
  unfold putI
  rw [if_neg]
  intro e
  rw [List.any_eq_true] at e
  obtain ⟨p, hp, hk⟩ := e
  exact h (List.mem_map.mpr ⟨p, hp, by simpa using hk⟩)
theorem TSR.addKey (R : TSR H a T L) {k : Int} (hk : k ∉ T.keys) {x d l : Addr} {H' : CH} {ep : Nat} (hx : H x = none) (hd : H d = none) (hl : H l = none) (h1 : H' x = some (niObj d l 0 k)) (h2 : H' d = some (.idict [])) (h3 : H' l = some (.list [])) (hxd : x ≠ d) (hxl : x ≠ l) (hdl : d ≠ l) (h4 : ∀ b, b ≠ x → b ≠ d → b ≠ l → H' b = H b) :
    TSR (H'.set L.n2i (.dict (putI (T.keys.map fun k => (k, .ref (L.bA k))) k (.ref x)) ep)) a { T with keys := T.keys ++ [k], np := upd T.np k 0, sc := upd T.sc k [] } { L with ep := ep, bA := upd L.bA k x, bD := upd L.bD k d, bL := upd L.bL k l } ∧
    FrameT a H T L (H'.set L.n2i (.dict (putI (T.keys.map fun k => (k, .ref (L.bA k))) k (.ref x)) ep)) { T with keys := T.keys ++ [k], np := upd T.np k 0, sc := upd T.sc k [] } { L with ep := ep, bA := upd L.bA k x, bD := upd L.bD k d, bL := upd L.bL k l } := by
  have low : ∀ {b : Addr} {c : CObj}, H b = some c → H' b = some c := fun {b c} h => by
    rw [h4 b (fun e => by rw [e, hx] at h; cases h) (fun e => by rw [e, hd] at h; cases h) (fun e => by rw [e, hl] at h; cases h)]; exact h
  have hn := low R.n2i
  have hput : putI (T.keys.map fun k => (k, V.ref (L.bA k))) k (.ref x) = (T.keys ++ [k]).map fun k' => (k', V.ref (upd L.bA k x k')) := by
    rw [putI_new (by rw [List.map_map]; simpa using hk), List.map_append]
    congr 1
    · refine List.map_congr_left fun k' hk' => ?_
      rw [upd_ne (fun e => hk (by rw [← e]; exact hk'))]
    · simp [upd]
  have ne : ∀ k' ∈ T.keys, k' ≠ k := fun k' hk' e => hk (e ▸ hk')
  refine ⟨⟨?_, ?_, ?_, ?_, ?_, ?_, ?_, ?_, ?_, ?_⟩, fun b hb hf => ⟨?_, fun h => hf ?_⟩⟩
  · exact set_other hn (low R.top) (by intro e; cases e)
  · exact set_other hn (low R.dict) (by intro e; cases e)
  · rw [hput]; exact CH.set_same
  · exact fun r hr => set_other hn (low (R.rdy r hr)) (by intro e; cases e)
  · intro k' hk'
    rcases List.mem_append.mp hk' with hk' | hk'
    · show CH.set _ _ _ (upd L.bA k x k') = some (niObj (upd L.bD k d k') (upd L.bL k l k') (upd T.np k 0 k') k')
      rw [upd_ne (ne k' hk'), upd_ne (ne k' hk'), upd_ne (ne k' hk'), upd_ne (ne k' hk')]
      exact set_other hn (low (R.node k' hk')) (by intro e; cases e)
    · obtain rfl := List.mem_singleton.mp hk'
      show CH.set _ _ _ (upd L.bA k' x k') = some (niObj (upd L.bD k' d k') (upd L.bL k' l k') (upd T.np k' 0 k') k')
      rw [upd_same, upd_same, upd_same, upd_same]
      exact set_other hn h1 (by intro e; cases e)
  · intro k' hk'
    rcases List.mem_append.mp hk' with hk' | hk'
    · show CH.set _ _ _ (upd L.bD k d k') = _
      rw [upd_ne (ne k' hk')]
      exact set_other hn (low (R.nd k' hk')) (by intro e; cases e)
    · obtain rfl := List.mem_singleton.mp hk'
      show CH.set _ _ _ (upd L.bD k' d k') = _
      rw [upd_same]
      exact set_other hn h2 (by intro e; cases e)
  · intro k' hk'
    rcases List.mem_append.mp hk' with hk' | hk'
    · show CH.set _ _ _ (upd L.bL k l k') = some (.list ((upd T.sc k [] k').map .int))
      rw [upd_ne (ne k' hk'), upd_ne (ne k' hk')]
      exact set_other hn (low (R.succ k' hk')) (by intro e; cases e)
    · obtain rfl := List.mem_singleton.mp hk'
      show CH.set _ _ _ (upd L.bL k' l k') = some (.list ((upd T.sc k' [] k').map .int))
      rw [upd_same, upd_same]
      exact set_other hn h3 (by intro e; cases e)
  · intro k₁ hk₁ k₂ hk₂ e
    have e : upd L.bL k l k₁ = upd L.bL k l k₂ := e
    have fresh : ∀ k' ∈ T.keys, L.bL k' ≠ l := fun k' hk' q => by have := R.succ k' hk'; rw [q, hl] at this; cases this
    rcases List.mem_append.mp hk₁ with g₁ | g₁ <;> rcases List.mem_append.mp hk₂ with g₂ | g₂
    · rw [upd_ne (ne _ g₁), upd_ne (ne _ g₂)] at e; exact R.inj _ g₁ _ g₂ e
    · have q := List.mem_singleton.mp g₂
      rw [upd_ne (ne _ g₁), q, upd_same] at e; exact absurd e (fresh _ g₁)
    · have q := List.mem_singleton.mp g₁
      rw [upd_ne (ne _ g₂), q, upd_same] at e; exact absurd e.symm (fresh _ g₂)
    · rw [List.mem_singleton.mp g₁, List.mem_singleton.mp g₂]
  · intro k' hk' hr e
    have e : upd L.bL k l k' = L.rd := e
    rcases List.mem_append.mp hk' with hk' | hk'
    · rw [upd_ne (ne _ hk')] at e; exact R.rdn _ hk' hr e
    · obtain rfl := List.mem_singleton.mp hk'
      rw [upd_same] at e
      obtain ⟨r, hr'⟩ := Option.ne_none_iff_exists'.mp hr
      have := R.rdy r hr'
      rw [← e, hl] at this; cases this
  · rw [List.nodup_append]
    exact ⟨R.nodup, by simp, fun p hp q hq => by rw [List.mem_singleton.mp hq]; exact ne p hp⟩
  · rw [CH.set_ne (fun e => hf (.inr (.inr (.inl e)))), h4 b (fun e => hb (e ▸ hx)) (fun e => hb (e ▸ hd)) (fun e => hb (e ▸ hl))]
  · rcases h with h | h | h | h | ⟨k', hk', h⟩
    · exact .inl h
    · exact .inr (.inl h)
    · exact .inr (.inr (.inl h))
    · exact .inr (.inr (.inr (.inl h)))
    · rcases List.mem_append.mp hk' with hk' | hk'
      · refine .inr (.inr (.inr (.inr ⟨k', hk', ?_⟩)))
        have h : b = upd L.bA k x k' ∨ b = upd L.bD k d k' ∨ b = upd L.bL k l k' := h
        rw [upd_ne (ne _ hk'), upd_ne (ne _ hk'), upd_ne (ne _ hk')] at h; exact h
      · obtain rfl := List.mem_singleton.mp hk'
        have h : b = upd L.bA k' x k' ∨ b = upd L.bD k' d k' ∨ b = upd L.bL k' l k' := h
        rw [upd_same, upd_same, upd_same] at h
        rcases h with rfl | rfl | rfl
        · exact absurd hx hb
        · exact absurd hd hb
        · exact absurd hl hb
end
end
section
section
variable {C : Cx} {A : Around} {m : Loc} {H : CH} {s : Shared} {mg mb : Str → Option Value} {P : Params}
theorem spec_TSinit {x d : Addr} (B : Bs C.h₀ (KK P) mg mb) {n : Nat} (hA : AOK C A (n + 1)) (hx : H x = some (.inst cTS d [])) (hd : H d = some (.idict [])) :
    CALL C A (.con (.ref a_TSinit)) [.ref x] [] H fun v H' => v = V.none ∧ ∃ n, H n = none ∧ H' = (H.set n (.dict [] 0)).set d (.idict [("_node2info", .ref n), ("_ready_nodes", V.none), ("_npassedout", .int 0), ("_nfinished", .int 0)]) := by
  have hxd : x ≠ d := fun e => by rw [e, hd] at hx; cases hx
  refine CALL_KW B (by with_unfolding_all rfl) (by with_unfolding_all rfl) hA (binds := [("self", .ref x), ("graph", V.none)]) (.dflt (T := 103) (items := [.none]) (n := 0) B (by with_unfolding_all rfl) fun h rs hv => ?_) (by with_unfolding_all rfl) rfl fun L hL hL0 hA' => ?_
  · obtain ⟨a, rfl, ha⟩ := one_inv hv
    exact ⟨_, [("self", a), ("graph", .none)], by with_unfolding_all rfl, by with_unfolding_all rfl, rfl, .cons ha (.cons .con .nil)⟩
  repeat walk_at "x"
  refine EV_dict fun n hn hn0 => ?_
  have hxn : x ≠ n := fun e => by rw [e, hn] at hx; cases hx
  have hdn : d ≠ n := fun e => by rw [e, hn] at hd; cases hd
  repeat walk_at "x"
  refine SA_own B (by rw [CH.set_ne hxn]; exact hx) (by rw [CH.set_ne hdn]; exact hd) (by first | with_unfolding_all exact (by decide : (0:Nat) < 1000) | with_unfolding_all exact (by decide : (1:Nat) < 1000) | with_unfolding_all exact (by decide : (2:Nat) < 1000) | with_unfolding_all exact (by decide : (3:Nat) < 1000) | with_unfolding_all exact (by decide : (4:Nat) < 1000)) ?_
  repeat walk_at "x"
  refine SA_own B (by rw [CH.set_ne hxd, CH.set_ne hxn]; exact hx) CH.set_same (by first | with_unfolding_all exact (by decide : (0:Nat) < 1000) | with_unfolding_all exact (by decide : (1:Nat) < 1000) | with_unfolding_all exact (by decide : (2:Nat) < 1000) | with_unfolding_all exact (by decide : (3:Nat) < 1000) | with_unfolding_all exact (by decide : (4:Nat) < 1000)) ?_
  rw [CH.set_set]
  repeat walk_at "x"
  refine SA_own B (by rw [CH.set_ne hxd, CH.set_ne hxn]; exact hx) CH.set_same (by first | with_unfolding_all exact (by decide : (0:Nat) < 1000) | with_unfolding_all exact (by decide : (1:Nat) < 1000) | with_unfolding_all exact (by decide : (2:Nat) < 1000) | with_unfolding_all exact (by decide : (3:Nat) < 1000) | with_unfolding_all exact (by decide : (4:Nat) < 1000)) ?_
  rw [CH.set_set]
  repeat walk_at "x"
  refine SA_own B (by rw [CH.set_ne hxd, CH.set_ne hxn]; exact hx) CH.set_same (by first | with_unfolding_all exact (by decide : (0:Nat) < 1000) | with_unfolding_all exact (by decide : (1:Nat) < 1000) | with_unfolding_all exact (by decide : (2:Nat) < 1000) | with_unfolding_all exact (by decide : (3:Nat) < 1000) | with_unfolding_all exact (by decide : (4:Nat) < 1000)) ?_
  rw [CH.set_set]
  repeat walk_at "x"
  walk_at "xi"
  refine ⟨_, rfl, fun q => (by cases q), fun _ => ?_⟩
  repeat walk_at "x"
  exact ⟨rfl, n, hn, rfl⟩
theorem spec_makeTS (B : Bs C.h₀ (KK P) mg mb) {n : Nat} (hA : AOK C A (n + 2)) :
    CALL C A (.con (.ref cTS)) [] [] H fun v H' => ∃ a L, v = .ref a ∧ TSR H' a .new L ∧ ∀ b, H b ≠ none → H' b = H b ∧ ¬ Foot a .new L b := by
  refine CALL_make B k_makeTS fun x d rest kw hx hd hx0 hd0 hxd => ?_
  refine (spec_TSinit B hA.under CH.set_same (by rw [CH.set_ne (Ne.symm hxd)]; exact CH.set_same)).mono ?_
  rintro v H' ⟨rfl, n, hn, rfl⟩
  have hnx : n ≠ x := fun e => by rw [e, CH.set_same] at hn; cases hn
  have hnd : n ≠ d := fun e => by rw [e, CH.set_ne (Ne.symm hxd), CH.set_same] at hn; cases hn
  have hn0 : H n = none := by rw [CH.set_ne hnx, CH.set_ne hnd] at hn; exact hn
  refine ⟨rfl, x, ⟨d, n, 0, 0, fun _ => 0, fun _ => 0, fun _ => 0⟩, rfl, ⟨?_, CH.set_same, ?_, (by intro _ h; cases h), (by intro _ h; cases h), (by intro _ h; cases h), (by intro _ h; cases h), (by intro _ h; cases h), (by intro _ h; cases h), .nil⟩, fun b hb => ⟨?_, fun h => ?_⟩⟩
  · rw [CH.set_ne hxd, CH.set_ne (Ne.symm hnx), CH.set_same]
  · show CH.set _ _ _ n = _
    rw [CH.set_ne hnd, CH.set_same]; rfl
  · have h1 : b ≠ d := fun e => hb (e ▸ hd)
    have h2 : b ≠ n := fun e => hb (e ▸ hn0)
    have h3 : b ≠ x := fun e => hb (e ▸ hx)
    rw [CH.set_ne h1, CH.set_ne h2, CH.set_ne h3, CH.set_ne h1]
  · rcases h with h | h | h | h | ⟨k, hk, _⟩
    · exact hb (h ▸ hx)
    · exact hb (h ▸ hd)
    · exact hb (h ▸ hn0)
    · exact h.1 rfl
    · cases hk
theorem look_keys {keys : List Int} {f : Int → Addr} {k : Int} (h : k ∈ keys) : (keys.map fun k => (k, V.ref (f k))).lookup k = some (.ref (f k)) := by
  induction keys with
  | nil => cases h
  | cons a r ih =>
    rw [List.map_cons, List.lookup_cons]
    by_cases e : k = a
    · subst e; simp
    · rw [beq_eq_false_iff_ne.mpr e]; exact ih ((List.mem_cons.mp h).resolve_left e)
theorem look_keys_none {keys : List Int} {f : Int → Addr} {k : Int} (h : k ∉ keys) : (keys.map fun k => (k, V.ref (f k))).lookup k = none := by
  induction keys with
  | nil => rfl
  | cons a r ih =>
    rw [List.map_cons, List.lookup_cons]
    have e : k ≠ a := fun e => h (e ▸ List.mem_cons_self)
    rw [beq_eq_false_iff_ne.mpr e]; exact ih fun q => h (List.mem_cons_of_mem _ q)
theorem spec_getinfo {a : Addr} {T : TS} {L : Lay} {k : Int} (B : Bs C.h₀ (KK P) mg mb) {n : Nat} (hA : AOK C A (n + 3)) (R : TSR H a T L) (hz : T.keys.length < sizeLine) :
    CALL C A (.con (.ref a_getinfo)) [.ref a, .int k] [] H fun v H' => ∃ L', TSR H' a (T.touch k) L' ∧ FrameT a H T L H' (T.touch k) L' ∧ v = .ref (L'.bA k) := by
  refine CALL_K B (by with_unfolding_all rfl) (by with_unfolding_all rfl) hA .pos2 (by with_unfolding_all rfl) rfl fun LL hL hL0 hA' => ?_
  walk_at "xi"
  refine GA_own B R.top R.dict rfl ?_
  refine GM_dict R.n2i F.slot_dict_get F.type_dict_get ?_
  repeat walk_at "x"
  by_cases hk : k ∈ T.keys
  · refine ⟨KP_built, CV_get B R.n2i ?_⟩
    rw [look_keys hk]
    repeat walk_at "x"
    refine ⟨_, rfl, fun q => (by cases q), fun _ => ?_⟩
    repeat walk_at "x"
    have e : T.touch k = T := by unfold TS.touch; rw [if_pos hk]
    rw [e]
    exact ⟨L, R, .refl, rfl⟩
  · refine ⟨KP_built, CV_get B R.n2i ?_⟩
    rw [look_keys_none hk]
    repeat walk_at "x"
    refine ⟨_, rfl, fun _ => ?_, fun q => (by cases q)⟩
    have e : T.touch k = { T with keys := T.keys ++ [k], np := upd T.np k 0, sc := upd T.sc k [] } := by unfold TS.touch; rw [if_neg hk]
    rw [e]
    refine EX_cons (st := .Assign _ _ _) (ES_assign2 ?_)
    repeat walk_at "x"
    refine EV_g B g_NI ?_
    repeat walk_at "x"
    refine ⟨KP_cls B k_keepNI, CV_of ((spec_makeNI (by exact B) hA').mono ?_)⟩
    rintro v H' ⟨x, d, l, rfl, hx, hd, hl, hxd, hxl, hdl, h1, h2, h3, h4⟩
    have low : ∀ {b : Addr} {c : CObj}, H b = some c → H' b = some c := fun {b c} h => by
      rw [h4 b (fun e => by rw [e, hx] at h; cases h) (fun e => by rw [e, hd] at h; cases h) (fun e => by rw [e, hl] at h; cases h)]; exact h
    repeat walk_at "x"
    refine GA_own B (low R.top) (low R.dict) rfl ?_
    repeat walk_at "x"
    refine set_dict (low R.n2i) (by rw [List.length_map]; exact Nat.le_of_lt hz) fun ep => ?_
    repeat walk_at "x"
    obtain ⟨R', F'⟩ := R.addKey (ep := ep) hk hx hd hl h1 h2 h3 hxd hxl hdl h4
    exact ⟨_, R', F', by show V.ref x = V.ref (upd L.bA k x k); rw [upd_same]⟩
end
end
section
theorem g_len2 {P : Params} : nsIn (KK P) mainGlobals "len" = some none := by kernel_rfl
theorem g_out {P : Params} : nsIn (KK P) mainGlobals "_NODE_OUT" = some (some (.int (-1) 256)) := by kernel_rfl
theorem g_dn {P : Params} : nsIn (KK P) mainGlobals "_NODE_DONE" = some (some (.int (-2) 259)) := by kernel_rfl
theorem g_tuple {P : Params} : nsIn (KK P) mainGlobals "tuple" = some none := by kernel_rfl
theorem b_tuple : bootBuiltins "tuple" = some (.type "tuple") := by kernel_rfl
theorem g_bool {P : Params} : nsIn (KK P) mainGlobals "bool" = some none := by kernel_rfl
theorem b_bool : bootBuiltins "bool" = some (.type "bool") := by kernel_rfl
structure TS.Le (T : TS) (n : Nat) : Prop where
  keys : T.keys.length ≤ n
  sc : ∀ k, (T.sc k).length ≤ n
theorem TS.Le.mono {T : TS} {n k : Nat} (h : T.Le n) (q : n ≤ k) : T.Le k := ⟨Nat.le_trans h.keys q, fun x => Nat.le_trans (h.sc x) q⟩
theorem TS.Le.touch {T : TS} {n : Nat} (h : T.Le n) (k : Int) : (T.touch k).Le (n + 1) := by
  unfold TS.touch
  split
  · exact h.mono (Nat.le_succ n)
  · refine ⟨by simp; exact h.keys, fun x => ?_⟩
    show (upd T.sc k [] x).length ≤ _
    unfold upd; split
    · simp
    · exact Nat.le_succ_of_le (h.sc x)
theorem TS.Le.setNp {T : TS} {n : Nat} (h : T.Le n) (k v : Int) : (T.setNp k v).Le n := ⟨h.keys, h.sc⟩
theorem TS.Le.link {T : TS} {n : Nat} (h : T.Le n) (p k : Int) : (T.link p k).Le (n + 1) := by
  refine ⟨Nat.le_succ_of_le h.keys, fun x => ?_⟩
  show (upd T.sc p (T.sc p ++ [k]) x).length ≤ _
  unfold upd; split
  · simp; exact h.sc p
  · exact Nat.le_succ_of_le (h.sc x)
theorem touch_mem {T : TS} {k : Int} : k ∈ (T.touch k).keys := by
  unfold TS.touch; split
  · assumption
  · simp
noncomputable abbrev addStep (k : Int) (T : TS) (p : Int) : TS := (T.touch p).link p k
theorem add_le {k : Int} : ∀ {ps : List Int} {T : TS} {n : Nat}, T.Le n → (ps.foldl (addStep k) T).Le (n + 2 * ps.length)
  | [], T, n, h => h
  | p :: ps, T, n, h => by
    have := add_le (k := k) (ps := ps) ((h.touch p).link p k)
    rw [List.foldl_cons]
    exact this.mono (by simp; (first | lia | omega))
theorem take_fold {α β : Type} {f : β → α → β} {T : β} {l : List α} {i : Nat} {x : α} (h : l[i]? = some x) : (l.take (i + 1)).foldl f T = f ((l.take i).foldl f T) x := by
  rw [List.take_add_one, h, List.foldl_append]; rfl
theorem ints_get {l : List Int} {i : Nat} {x : V} (h : (l.map V.int)[i]? = some x) : ∃ p, l[i]? = some p ∧ x = .int p := by
  rw [List.getElem?_map] at h
  obtain ⟨p, hp, rfl⟩ := Option.map_eq_some_iff.mp h
  exact ⟨p, hp, rfl⟩
section
variable {C : Cx} {A : Around} {m : Loc} {H : CH} {s : Shared} {mg mb : Str → Option Value} {P : Params} {a : Addr} {T : TS} {L : Lay}
theorem spec_add {k : Int} {ps : List Int} {N : Nat} (B : Bs C.h₀ (KK P) mg mb) {n : Nat} (hA : AOK C A (n + 4)) (R : TSR H a T L) (hr : T.ready = none) (hle : T.Le N) (hN : N + 2 * ps.length + 2 < sizeLine) :
    CALL C A (.con (.ref a_add)) (.ref a :: .int k :: ps.map .int) [] H fun v H' => v = V.none ∧ ∃ L', TSR H' a (T.add k ps) L' ∧ FrameT a H T L H' (T.add k ps) L' := by
  have hps : ps.length ≤ sizeLine := by (first | lia | omega)
  refine CALL_KW B (by with_unfolding_all rfl) (by with_unfolding_all rfl) hA (.star2 (x := "self") (y := "node") (z := "predecessors") (by rw [List.length_map]; exact hps) (by intro r q rs; cases rs <;> with_unfolding_all rfl)) (by with_unfolding_all rfl) rfl fun LL hL hL0 hA' => ?_
  walk_at "xi"
  refine GA_own B R.top R.dict rfl ?_ (by kernel_rfl) (by unfold rdV; rw [hr]; rfl)
  repeat walk_at "x"
  refine ⟨_, rfl, fun q => ?_, fun _ => ?_⟩
  · unfold rdV at q; rw [hr] at q; cases q
  repeat walk_at "x"
  refine GM_inst (f := a_getinfo) B R.top R.dict rfl ?_
  repeat walk_at "x"
  refine ⟨KP_K B (by with_unfolding_all rfl), CV_of ((spec_getinfo (by exact B) hA' R (by have := hle.keys; (first | lia | omega))).mono ?_)⟩
  rintro v H₁ ⟨L₁, R₁, F₁, rfl⟩
  have hkm : k ∈ (T.touch k).keys := touch_mem
  repeat walk_at "x"
  refine GA_slot (p := 79) (i := 1) B (R₁.node k hkm) (R₁.nd k hkm) rfl ?_
  repeat walk_at "x"
  refine EV_b B g_len2 b_len ?_
  repeat walk_at "x"
  refine ⟨KP_built, CV_len_tup (by rw [List.length_map]; exact hps) ?_⟩
  rw [List.length_map]
  repeat walk_at "x"
  refine SA_slot (p := 79) (i := 1) B (R₁.node k hkm) (R₁.nd k hkm) ?_
  obtain ⟨R₂, F₂⟩ := R₁.setNp hkm ((T.touch k).np k + ps.length)
  refine EX_cons (st := .For _ _ _ _ _) (ES_for' ?_)
  repeat walk_at "x"
  refine ⟨ps.map .int, _, [("node", .int k), ("self", .ref a)], fun i m' H' => m' = ([("node", .int k), ("self", .ref a)] : Loc) ∧ ∃ L', TSR H' a ((ps.take i).foldl (addStep k) ((T.touch k).setNp k ((T.touch k).np k + ps.length))) L' ∧ FrameT a H T L H' ((ps.take i).foldl (addStep k) ((T.touch k).setNp k ((T.touch k).np k + ps.length))) L',
    seq_tup hA'.handled, .cons rfl (.cons rfl .nil), ⟨rfl, L₁, R₂, F₁.trans F₂⟩, ?_⟩
  rintro i m' H' ⟨rfl, L', R', F'⟩
  have hle0 : ((T.touch k).setNp k ((T.touch k).np k + ps.length)).Le (N + 1) := (hle.touch k).setNp _ _
  have hle' : ((ps.take i).foldl (addStep k) ((T.touch k).setNp k ((T.touch k).np k + ps.length))).Le (N + 1 + 2 * (ps.take i).length) := add_le hle0
  have htl : (ps.take i).length ≤ ps.length := by rw [List.length_take]; (first | lia | omega)
  refine ⟨trivial, fun x hx => ?_, fun hi => ?_⟩
  · obtain ⟨p, hp, rfl⟩ := ints_get hx
    have hil : i < ps.length := (List.getElem?_eq_some_iff.mp hp).1
    have htl2 : (ps.take i).length = i := by rw [List.length_take]; (first | lia | omega)
    repeat walk_at "x"
    refine GM_inst (f := a_getinfo) B R'.top R'.dict rfl ?_
    repeat walk_at "x"
    refine ⟨KP_K B (by with_unfolding_all rfl), CV_of ((spec_getinfo (by exact B) hA' R' (by have := hle'.keys; (first | lia | omega))).mono ?_)⟩
    rintro v H₃ ⟨L₃, R₃, F₃, rfl⟩
    have hpm : p ∈ (((ps.take i).foldl (addStep k) ((T.touch k).setNp k ((T.touch k).np k + ps.length))).touch p).keys := touch_mem
    repeat walk_at "x"
    refine GA_slot (p := 80) (i := 2) B (R₃.node p hpm) (R₃.nd p hpm) rfl ?_
    refine GM_list (.own (R₃.succ p hpm)) F.slot_list_append F.type_list_append ?_
    repeat walk_at "x"
    refine ⟨KP_built, CV_append (R₃.succ p hpm) (by rw [List.length_map]; have := (hle'.touch p).sc p; (first | lia | omega)) ?_⟩
    obtain ⟨R₄, F₄⟩ := R₃.setSc hpm ((((ps.take i).foldl (addStep k) ((T.touch k).setNp k ((T.touch k).np k + ps.length))).touch p).sc p ++ [k])
    repeat walk_at "x"
    refine ⟨_, .cons rfl (.cons rfl .nil), rfl, L₃, ?_, ?_⟩
    · rw [take_fold hp]
      rw [List.map_append] at R₄
      exact R₄
    · rw [take_fold hp]
      rw [List.map_append] at F₄
      exact (F'.trans F₃).trans F₄
  · repeat walk_at "x"
    refine ⟨rfl, L', ?_⟩
    rw [List.length_map] at hi
    subst hi
    rw [List.take_length] at R' F'
    exact ⟨R', F'⟩
end
end
section
theorem TS.out_eq {ks : List Int} : ∀ {T : TS}, (T.out ks).keys = T.keys ∧ (T.out ks).ready = T.ready ∧ (T.out ks).pass = T.pass ∧ (T.out ks).fin = T.fin ∧ (T.out ks).sc = T.sc := by
  induction ks with
  | nil => intro T; exact ⟨rfl, rfl, rfl, rfl, rfl⟩
  | cons k r ih => intro T; exact ih (T := T.setNp k (-1))
section
variable {C : Cx} {A : Around} {m : Loc} {H : CH} {s : Shared} {mg mb : Str → Option Value} {P : Params} {a : Addr} {T : TS} {L : Lay}
theorem EV_gi {K : Frag} {Q : V → Loc → CH → Prop} {x : Str} {p : Pos} {i : Int} {t : Nat} (B : Bs C.h₀ K mg mb) (e : nsIn K mainGlobals x = some (some (.int i t))) (h : Q (.int i) m H) (hG : C.env.globals = mainGlobals := by with_unfolding_all rfl)
    (hk : C.env.scope.kind = .function := by with_unfolding_all rfl) (hl : C.env.kindOf x = some .globalImplicit := by with_unfolding_all rfl) (hd : (x == ("__debug__" : Str)) = false := by decide) : EV C A (.Name x p) m H Q := fun s S =>
  Name_function_global hk hl (loadGlobal_global (hG ▸ B.g.keeps S.base) (mg_of B.X B.g e) (.here S .int h)) hd
theorem spec_getready {r : List Int} (B : Bs C.h₀ (KK P) mg mb) {n : Nat} (hA : AOK C A (n + 1)) (R : TSR H a T L) (hr : T.ready = some r) (hk : ∀ k ∈ r, k ∈ T.keys) (hz : r.length ≤ sizeLine) :
    CALL C A (.con (.ref a_getready)) [.ref a] [] H fun v H' => v = .tup (r.map .int) ∧ TSR H' a (T.getReady r) L ∧ FrameT a H T L H' (T.getReady r) L := by
  have hv : rdV T L = .ref L.rd := by unfold rdV; rw [hr]
  refine CALL_K B (by with_unfolding_all rfl) (by with_unfolding_all rfl) hA .pos1 (by with_unfolding_all rfl) rfl fun LL hL hL0 hA' => ?_
  walk_at "xi"
  refine GA_own B R.top R.dict rfl ?_ (by kernel_rfl) (by rw [hv]; exact trivial)
  rw [hv]
  repeat walk_at "x"
  refine ⟨_, rfl, fun q => (by cases q), fun _ => ?_⟩
  repeat walk_at "x"
  refine EV_b B g_tuple b_tuple ?_
  repeat walk_at "x"
  refine GA_own B R.top R.dict rfl ?_ (by kernel_rfl) (by rw [hv]; exact trivial)
  rw [hv]
  repeat walk_at "x"
  refine ⟨KP_type, CV_tuple_list (.own (R.rdy r hr)) (by rw [List.length_map]; exact hz) ?_⟩
  repeat walk_at "x"
  refine GA_own B R.top R.dict rfl ?_
  repeat walk_at "x"
  refine EX_cons (st := .For _ _ _ _ _) (ES_for' ?_)
  repeat walk_at "x"
  refine ⟨r.map .int, _, [("n2i", .ref L.n2i), ("result", .tup (r.map .int)), ("self", .ref a)], fun i m' H' => m' = ([("n2i", .ref L.n2i), ("result", .tup (r.map .int)), ("self", .ref a)] : Loc) ∧ TSR H' a (T.out (r.take i)) L ∧ FrameT a H T L H' (T.out (r.take i)) L,
    seq_tup hA'.handled, .cons rfl (.cons rfl (.cons rfl .nil)), ⟨rfl, R, .refl⟩, ?_⟩
  rintro i m' H' ⟨rfl, R', F'⟩
  refine ⟨trivial, fun x hx => ?_, fun hi => ?_⟩
  · obtain ⟨p, hp, rfl⟩ := ints_get hx
    have hpk : p ∈ (T.out (r.take i)).keys := by rw [TS.out_eq.1]; exact hk p (List.mem_of_getElem? hp)
    repeat walk_at "x"
    refine EV_gi B g_out ?_
    repeat walk_at "x"
    refine sub_dict R'.n2i (look_keys hpk) ?_
    repeat walk_at "x"
    refine SA_slot (p := 79) (i := 1) B (R'.node p hpk) (R'.nd p hpk) ?_
    obtain ⟨R₂, F₂⟩ := R'.setNp hpk (-1)
    repeat walk_at "x"
    refine ⟨_, .cons rfl (.cons rfl (.cons rfl .nil)), rfl, ?_, ?_⟩
    · unfold TS.out; rw [take_fold hp]; exact R₂
    · unfold TS.out; rw [take_fold hp]; exact F'.trans F₂
  · rw [List.length_map] at hi
    subst hi
    rw [List.take_length] at R' F'
    have e := @TS.out_eq r T
    have hr' : (T.out r).ready = some r := by rw [e.2.1]; exact hr
    have hv' : rdV (T.out r) L = .ref L.rd := by unfold rdV; rw [hr']
    repeat walk_at "x"
    refine GA_own B R'.top R'.dict rfl ?_ (by kernel_rfl) (by rw [hv']; exact trivial)
    rw [hv']
    refine GM_list (.own (R'.rdy r hr')) F.slot_list_clear F.type_list_clear ?_
    repeat walk_at "x"
    refine ⟨KP_built, CV_clear (R'.rdy r hr') (by rw [List.length_map]; exact hz) ?_⟩
    obtain ⟨R₂, F₂⟩ := R'.setRd hr' []
    repeat walk_at "x"
    refine GA_own B R₂.top R₂.dict rfl ?_
    repeat walk_at "x"
    refine EV_b B g_len2 b_len ?_
    repeat walk_at "x"
    refine ⟨KP_built, CV_len_tup (by rw [List.length_map]; exact hz) ?_⟩
    rw [List.length_map]
    repeat walk_at "x"
    refine SA_own B R₂.top R₂.dict (by first | with_unfolding_all exact (by decide : (4:Nat) < 1000)) ?_
    obtain ⟨R₃, F₃⟩ := R₂.setNums ((T.out r).pass + r.length) (T.out r).fin
    repeat walk_at "x"
    unfold TS.getReady
    rw [← e.2.2.1]
    exact ⟨rfl, R₃, (F'.trans F₂).trans F₃⟩
theorem spec_isactive {r : List Int} (B : Bs C.h₀ (KK P) mg mb) {n : Nat} (hA : AOK C A (n + 1)) (R : TSR H a T L) (hr : T.ready = some r) (hz : r.length ≤ sizeLine) :
    CALL C A (.con (.ref a_isactive)) [.ref a] [] H fun v H' => v = .bool (decide (T.fin < T.pass) || !r.isEmpty) ∧ H' = H := by
  have hv : rdV T L = .ref L.rd := by unfold rdV; rw [hr]
  refine CALL_K B (by with_unfolding_all rfl) (by with_unfolding_all rfl) hA .pos1 (by with_unfolding_all rfl) rfl fun LL hL hL0 hA' => ?_
  walk_at "xi"
  refine GA_own B R.top R.dict rfl ?_ (by kernel_rfl) (by rw [hv]; exact trivial)
  rw [hv]
  repeat walk_at "x"
  refine ⟨_, rfl, fun q => (by cases q), fun _ => ?_⟩
  repeat walk_at "x"
  refine GA_own B R.top R.dict rfl ?_
  repeat walk_at "x"
  refine GA_own B R.top R.dict rfl ?_
  repeat walk_at "x"
  refine OB_bool ⟨fun h => ?_, fun h => ?_⟩
  · repeat walk_at "x"
    exact ⟨by simp [retOf, h], rfl⟩
  · repeat walk_at "x"
    refine EV_b B g_bool b_bool ?_
    repeat walk_at "x"
    refine GA_own B R.top R.dict rfl ?_ (by kernel_rfl) (by rw [hv]; exact trivial)
    rw [hv]
    repeat walk_at "x"
    refine ⟨KP_type, CV_bool_list (.own (R.rdy r hr)) (by rw [List.length_map]; exact hz) ?_⟩
    repeat walk_at "x"
    exact ⟨by simp [retOf, h], rfl⟩
end
end
section
theorem rel_eq {l : List Int} : ∀ {T : TS}, (l.foldl TS.rel T).keys = T.keys ∧ (l.foldl TS.rel T).pass = T.pass ∧ (l.foldl TS.rel T).fin = T.fin ∧ (l.foldl TS.rel T).sc = T.sc := by
  induction l with
  | nil => intro T; exact ⟨rfl, rfl, rfl, rfl⟩
  | cons k r ih => intro T; exact ih (T := T.rel k)
theorem rel_ready {l : List Int} : ∀ {T : TS} {r : List Int}, T.ready = some r → ∃ r', (l.foldl TS.rel T).ready = some r' ∧ r'.length ≤ r.length + l.length := by
  induction l with
  | nil => intro T r h; exact ⟨r, h, by simp⟩
  | cons k t ih =>
    intro T r h
    have : ∃ r', (T.rel k).ready = some r' ∧ r'.length ≤ r.length + 1 := by
      unfold TS.rel
      by_cases e : T.np k - 1 = 0
      · exact ⟨r ++ [k], by show (if _ then _ else _) = _; rw [if_pos e, h]; rfl, by simp⟩
      · exact ⟨r, by show (if _ then _ else _) = _; rw [if_neg e, h], by (first | lia | omega)⟩
    obtain ⟨r₁, h₁, l₁⟩ := this
    obtain ⟨r₂, h₂, l₂⟩ := ih h₁
    exact ⟨r₂, h₂, by simp; (first | lia | omega)⟩
noncomputable def TS.doneN (T : TS) (ks : List Int) : TS := ks.foldl TS.done1 T
theorem done1_eq {T : TS} {k : Int} : (T.done1 k).keys = T.keys ∧ (T.done1 k).pass = T.pass ∧ (T.done1 k).fin = T.fin + 1 ∧ (T.done1 k).sc = T.sc := by
  have := @rel_eq (T.sc k) (T.setNp k (-2))
  exact ⟨this.1, this.2.1, by unfold TS.done1; rfl, this.2.2.2⟩
theorem doneN_eq {ks : List Int} : ∀ {T : TS}, (T.doneN ks).keys = T.keys ∧ (T.doneN ks).pass = T.pass ∧ (T.doneN ks).fin = T.fin + ks.length ∧ (T.doneN ks).sc = T.sc := by
  induction ks with
  | nil => intro T; exact ⟨rfl, rfl, by simp [TS.doneN], rfl⟩
  | cons k r ih =>
    intro T
    have e := @done1_eq T k
    have h := ih (T := T.done1 k)
    unfold TS.doneN at h ⊢
    rw [List.foldl_cons]
    refine ⟨h.1.trans e.1, h.2.1.trans e.2.1, ?_, h.2.2.2.trans e.2.2.2⟩
    rw [h.2.2.1, e.2.2.1]; simp; (first | lia | omega)
theorem doneN_ready {M : Nat} {ks : List Int} : ∀ {T : TS} {r : List Int}, (∀ k, (T.sc k).length ≤ M) → T.ready = some r → ∃ r', (T.doneN ks).ready = some r' ∧ r'.length ≤ r.length + ks.length * M := by
  induction ks with
  | nil => intro T r _ h; exact ⟨r, h, by simp⟩
  | cons k t ih =>
    intro T r hM h
    obtain ⟨r₁, h₁, l₁⟩ := rel_ready (l := T.sc k) (T := T.setNp k (-2)) h
    obtain ⟨r₂, h₂, l₂⟩ := ih (T := T.done1 k) (r := r₁) (by rw [done1_eq.2.2.2]; exact hM) h₁
    have := hM k
    refine ⟨r₂, h₂, ?_⟩
    rw [List.length_cons, Nat.succ_mul]; (first | lia | omega)
section
variable {C : Cx} {A : Around} {m : Loc} {H : CH} {s : Shared} {mg mb : Str → Option Value} {P : Params} {a : Addr} {T : TS} {L : Lay}
theorem TSR.rel (R : TSR H a T L) {r : List Int} (hr : T.ready = some r) {x : Int} (hx : x ∈ T.keys) :
    let H₁ := H.set (L.bA x) (niObj (L.bD x) (L.bL x) (T.np x - 1) x)
    let H₂ := if T.np x - 1 = 0 then H₁.set L.rd (.list ((r ++ [x]).map .int)) else H₁
    TSR H₂ a (T.rel x) L ∧ FrameT a H T L H₂ (T.rel x) L := by
  intro H₁ H₂
  obtain ⟨R₁, F₁⟩ := R.setNp hx (T.np x - 1)
  by_cases e : T.np x - 1 = 0
  · obtain ⟨R₂, F₂⟩ := R₁.setRd hr (r ++ [x])
    have e1 : H₂ = H₁.set L.rd (.list ((r ++ [x]).map .int)) := if_pos e
    have e2 : T.rel x = { T.setNp x (T.np x - 1) with ready := some (r ++ [x]) } := by unfold TS.rel; rw [if_pos e, hr]; rfl
    rw [e1, e2]; exact ⟨R₂, F₁.trans F₂⟩
  · have e1 : H₂ = H₁ := if_neg e
    have e2 : T.rel x = T.setNp x (T.np x - 1) := by unfold TS.rel; rw [if_neg e]; rfl
    rw [e1, e2]; exact ⟨R₁, F₁⟩
noncomputable def DnP (H : CH) (a : Addr) (T : TS) (L : Lay) (ks : List Int) (H' : CH) : Prop := TSR H' a (T.doneN ks) L ∧ FrameT a H T L H' (T.doneN ks) L
noncomputable def DnI (H : CH) (a : Addr) (T : TS) (L : Lay) (ns : List Int) (i : Nat) (m' : Loc) (H' : CH) : Prop := m' = ([("n2i", .ref L.n2i), ("self", .ref a)] : Loc) ∧ DnP H a T L (ns.take i) H'
noncomputable def DnV (H : CH) (a : Addr) (T : TS) (L : Lay) (ns : List Int) (v : V) (H' : CH) : Prop := v = V.none ∧ DnP H a T L ns H'
noncomputable def DnJ (H : CH) (a : Addr) (T : TS) (L : Lay) (l : List Int) (T₁ : TS) (j : Nat) (m' : Loc) (H' : CH) : Prop := m' = ([("n2i", .ref L.n2i), ("self", .ref a)] : Loc) ∧ TSR H' a ((l.take j).foldl TS.rel T₁) L ∧ FrameT a H T L H' ((l.take j).foldl TS.rel T₁) L
set_option maxHeartbeats 4000000 in
theorem spec_done {r : List Int} {ns : List Int} {M : Nat} (B : Bs C.h₀ (KK P) mg mb) {n : Nat} (hA : AOK C A (n + 1)) (R : TSR H a T L) (hr : T.ready = some r) (hk : ∀ i k, ns[i]? = some k → k ∈ T.keys ∧ (T.doneN (ns.take i)).np k = -1) (hs : ∀ k ∈ T.keys, ∀ x ∈ T.sc k, x ∈ T.keys)
    (hM : ∀ k, (T.sc k).length ≤ M) (hz : r.length + ns.length * M + M ≤ sizeLine) (hns : ns.length ≤ sizeLine) :
    CALL C A (.con (.ref a_done)) (.ref a :: ns.map .int) [] H (DnV H a T L ns) := by
  have hv : rdV T L = .ref L.rd := by unfold rdV; rw [hr]
  refine CALL_KW B (by with_unfolding_all rfl) (by with_unfolding_all rfl) hA (.star1 (x := "self") (y := "nodes") (by rw [List.length_map]; exact hns) (by intro r rs; cases rs <;> with_unfolding_all rfl)) (by with_unfolding_all rfl) rfl fun LL hL hL0 hA' => ?_
  walk_at "xi"
  refine GA_own B R.top R.dict rfl ?_ (by kernel_rfl) (by rw [hv]; exact trivial)
  rw [hv]
  repeat walk_at "x"
  refine ⟨_, rfl, fun q => (by cases q), fun _ => ?_⟩
  repeat walk_at "x"
  refine GA_own B R.top R.dict rfl ?_
  repeat walk_at "x"
  refine EX_cons (st := .For _ _ _ _ _) (ES_for' ?_)
  repeat walk_at "x"
  refine ⟨ns.map .int, _, [("n2i", .ref L.n2i), ("self", .ref a)], DnI H a T L ns,
    seq_tup hA'.handled, .cons rfl (.cons rfl .nil), ⟨rfl, R, .refl⟩, ?_⟩
  rintro i m' H' ⟨rfl, R', F'⟩
  refine ⟨trivial, fun x hx => ?_, fun hi => ?_⟩
  · obtain ⟨k, hp, rfl⟩ := ints_get hx
    obtain ⟨hk1, hk2⟩ := hk i k hp
    have hil : i < ns.length := (List.getElem?_eq_some_iff.mp hp).1
    have eN := @doneN_eq (ns.take i) T
    obtain ⟨r₁, hr₁, hlr⟩ := doneN_ready (ks := ns.take i) hM hr
    have hkk : k ∈ (T.doneN (ns.take i)).keys := by rw [eN.1]; exact hk1
    have hlr2 : r₁.length + M ≤ sizeLine := by
      have : (ns.take i).length * M ≤ ns.length * M := Nat.mul_le_mul_right _ (by rw [List.length_take]; (first | lia | omega))
      (first | lia | omega)
    have estep : T.doneN (ns.take (i + 1)) = (T.doneN (ns.take i)).done1 k := by unfold TS.doneN; exact take_fold hp
    generalize T.doneN (ns.take i) = T₁ at *
    repeat walk_at "x"
    walk_at "xi"
    refine GM_dict R'.n2i F.slot_dict_get F.type_dict_get ?_
    repeat walk_at "x"
    refine ⟨KP_built, CV_get B R'.n2i ?_⟩
    rw [look_keys hkk]
    repeat walk_at "x"
    refine ⟨_, rfl, fun q => (by cases q), fun _ => ?_⟩
    repeat walk_at "x"
    refine GA_slot (p := 79) (i := 1) B (R'.node k hkk) (R'.nd k hkk) rfl ?_
    rw [hk2]
    repeat walk_at "x"
    walk_at "xi"
    refine EV_gi B g_out ?_
    repeat walk_at "x"
    refine ⟨_, rfl, fun q => (by simp at q), fun _ => ?_⟩
    repeat walk_at "x"
    refine EV_gi B g_dn ?_
    repeat walk_at "x"
    refine SA_slot (p := 79) (i := 1) B (R'.node k hkk) (R'.nd k hkk) ?_
    obtain ⟨R₂, F₂⟩ := R'.setNp hkk (-2)
    repeat walk_at "x"
    refine EX_cons (st := .For _ _ _ _ _) (ES_for' ?_)
    repeat walk_at "x"
    refine GA_slot (p := 80) (i := 2) B (R₂.node k hkk) (R₂.nd k hkk) rfl ?_
    refine ⟨(T₁.sc k).map .int, _, [("n2i", .ref L.n2i), ("self", .ref a)], DnJ H a T L (T₁.sc k) (T₁.setNp k (-2)),
      seq_own hA'.handled (R₂.succ k hkk), .cons rfl (.cons rfl .nil), ⟨rfl, R₂, F'.trans F₂⟩, ?_⟩
    rintro j m' H' ⟨rfl, R₃, F₃⟩
    have eR := @rel_eq ((T₁.sc k).take j) (T₁.setNp k (-2))
    obtain ⟨r₃, hr₃, hl₃⟩ := rel_ready (l := (T₁.sc k).take j) (T := T₁.setNp k (-2)) hr₁
    refine ⟨?_, fun x hx => ?_, fun hj => ?_⟩
    · have := R₃.succ k (by rw [eR.1]; exact hkk)
      rw [eR.2.2.2] at this; exact this
    · obtain ⟨y, hy, rfl⟩ := ints_get hx
      have hyk : y ∈ (((T₁.sc k).take j).foldl TS.rel (T₁.setNp k (-2))).keys := by
        rw [eR.1]; show y ∈ T₁.keys
        rw [eN.1]; exact hs k hk1 y (by rw [← eN.2.2.2]; exact List.mem_of_getElem? hy)
      have hl₃' : r₃.length ≤ sizeLine := by
        have h1 := hM k
        rw [← eN.2.2.2] at h1
        have : ((T₁.sc k).take j).length ≤ (T₁.sc k).length := by rw [List.length_take]; (first | lia | omega)
        (first | lia | omega)
      have estep2 : ((T₁.sc k).take (j + 1)).foldl TS.rel (T₁.setNp k (-2)) = (((T₁.sc k).take j).foldl TS.rel (T₁.setNp k (-2))).rel y := take_fold hy
      generalize ((T₁.sc k).take j).foldl TS.rel (T₁.setNp k (-2)) = T₃ at *
      have hv₃ : rdV T₃ L = .ref L.rd := by unfold rdV; rw [hr₃]
      obtain ⟨R₄, F₄⟩ := R₃.rel hr₃ hyk
      obtain ⟨R₅, F₅⟩ := R₃.setNp hyk (T₃.np y - 1)
      repeat walk_at "x"
      refine sub_dict R₃.n2i (look_keys hyk) ?_
      repeat walk_at "x"
      refine GA_slot (p := 79) (i := 1) B (R₃.node y hyk) (R₃.nd y hyk) rfl ?_
      repeat walk_at "x"
      refine SA_slot (p := 79) (i := 1) B (R₃.node y hyk) (R₃.nd y hyk) ?_
      repeat walk_at "x"
      walk_at "xi"
      refine GA_slot (p := 79) (i := 1) B (R₅.node y hyk) (R₅.nd y hyk) rfl ?_
      repeat walk_at "x"
      refine ⟨_, rfl, fun q => ?_, fun q => ?_⟩
      · have q : T₃.np y - 1 = 0 := by simpa [TS.setNp, upd_same] using q
        rw [if_pos q] at R₄ F₄
        repeat walk_at "x"
        refine GA_own B R₅.top R₅.dict rfl ?_ (by kernel_rfl) (by show VHand (rdV T₃ L); rw [hv₃]; exact trivial)
        rw [show rdV (T₃.setNp y (T₃.np y - 1)) L = .ref L.rd from hv₃]
        refine GM_list (.own (R₅.rdy r₃ hr₃)) F.slot_list_append F.type_list_append ?_
        repeat walk_at "x"
        refine ⟨KP_built, CV_append (R₅.rdy r₃ hr₃) (by rw [List.length_map]; exact hl₃') ?_⟩
        repeat walk_at "x"
        rw [List.map_append] at R₄ F₄
        refine ⟨_, .cons rfl (.cons rfl .nil), (⟨rfl, ?_⟩ : _ ∧ _)⟩
        rw [estep2]; exact ⟨R₄, F₃.trans F₄⟩
      · have q : ¬ T₃.np y - 1 = 0 := by simpa [TS.setNp, upd_same] using q
        rw [if_neg q] at R₄ F₄
        repeat walk_at "x"
        refine ⟨_, .cons rfl (.cons rfl .nil), (⟨rfl, ?_⟩ : _ ∧ _)⟩
        rw [estep2]; exact ⟨R₄, F₃.trans F₄⟩
    · rw [List.length_map] at hj
      subst hj
      rw [List.take_length] at R₃ F₃
      repeat walk_at "x"
      refine GA_own B R₃.top R₃.dict rfl ?_
      repeat walk_at "x"
      refine SA_own B R₃.top R₃.dict (by first | with_unfolding_all exact (by decide : (4:Nat) < 1000)) ?_
      obtain ⟨R₄, F₄⟩ := R₃.setNums ((T₁.sc k).foldl TS.rel (T₁.setNp k (-2))).pass (((T₁.sc k).foldl TS.rel (T₁.setNp k (-2))).fin + 1)
      repeat walk_at "x"
      refine ⟨_, .cons rfl (.cons rfl .nil), (⟨rfl, ?_⟩ : _ ∧ _)⟩
      have e : { (T₁.sc k).foldl TS.rel (T₁.setNp k (-2)) with pass := ((T₁.sc k).foldl TS.rel (T₁.setNp k (-2))).pass, fin := ((T₁.sc k).foldl TS.rel (T₁.setNp k (-2))).fin + 1 } = T₁.done1 k := by
        unfold TS.done1; rw [(@rel_eq (T₁.sc k) (T₁.setNp k (-2))).2.2.1]; rfl
      rw [e] at R₄ F₄
      unfold DnP; rw [estep]
      exact ⟨R₄, F₃.trans F₄⟩
  · repeat walk_at "x"
    refine (⟨rfl, ?_⟩ : _ ∧ _)
    rw [List.length_map] at hi
    subst hi
    rw [List.take_length] at R' F'
    exact ⟨R', F'⟩
end
end
section
theorem TSR.keep {H H' : CH} {a : Addr} {T : TS} {L : Lay} (R : TSR H a T L) (h : ∀ b, H b ≠ none → H' b = H b) : TSR H' a T L := by
  have k : ∀ {b : Addr} {c : CObj}, H b = some c → H' b = some c := fun {b c} e => (h b (by rw [e]; simp)).trans e
  exact ⟨k R.top, k R.dict, k R.n2i, fun r e => k (R.rdy r e), fun x hx => k (R.node x hx), fun x hx => k (R.nd x hx), fun x hx => k (R.succ x hx), R.inj, R.rdn, R.nodup⟩
theorem lookup_no {kvs : List (Int × V)} {k : Int} (h : k ∉ kvs.map (·.1)) : kvs.lookup k = none := by
  induction kvs with
  | nil => rfl
  | cons p r ih =>
    rw [List.map_cons, List.mem_cons, not_or] at h
    rw [List.lookup_cons, beq_eq_false_iff_ne.mpr h.1]; exact ih h.2
theorem lookup_yes {kvs : List (Int × V)} {k : Int} (h : k ∈ kvs.map (·.1)) : (kvs.lookup k).isSome = true := by
  induction kvs with
  | nil => cases h
  | cons p r ih =>
    rw [List.lookup_cons]
    by_cases e : k = p.1
    · rw [beq_iff_eq.mpr e]; rfl
    · rw [beq_eq_false_iff_ne.mpr e]
      rw [List.map_cons, List.mem_cons] at h
      exact ih (h.resolve_left e)
theorem dropI_keys {kvs : List (Int × V)} {l : List Int} {k : Int} (h : kvs.map (·.1) = l ++ [k]) (hk : k ∉ l) : (dropI kvs k).map (·.1) = l := by
  have : (dropI kvs k).map (·.1) = (kvs.map (·.1)).filter (· != k) := by
    unfold dropI; rw [List.filter_map]; rfl
  rw [this, h, List.filter_append]
  have e1 : l.filter (· != k) = l := List.filter_eq_self.mpr fun x hx => by simp; intro e; exact hk (e ▸ hx)
  rw [e1]; simp
theorem nodup_le {α : Type} [BEq α] [LawfulBEq α] : ∀ {l k : List α}, l.Nodup → (∀ x ∈ l, x ∈ k) → l.length ≤ k.length
  | [], k, _, _ => Nat.zero_le _
  | a :: r, k, h, s => by
    rw [List.nodup_cons] at h
    have ha := s a List.mem_cons_self
    have := nodup_le (l := r) (k := k.erase a) h.2 fun x hx => (List.mem_erase_of_ne (by intro e; subst e; exact h.1 hx)).mpr (s x (List.mem_cons_of_mem _ hx))
    rw [List.length_erase_of_mem ha] at this
    have hp := List.length_pos_of_mem ha
    rw [List.length_cons]; (first | lia | omega)
noncomputable abbrev Ent := Int × Addr × Nat
structure FC (H₀ H : CH) (T : TS) (L : Lay) (s it se nd : Addr) (st : List Ent) (seen : Int → Bool) : Prop where
  keep : ∀ b, H₀ b ≠ none → H b = H₀ b
  f1 : H₀ s = none
  f2 : H₀ it = none
  f3 : H₀ se = none
  f4 : H₀ nd = none
  ne : s ≠ it
  hs : H s = some (.list (st.map fun e => .int e.1))
  hit : H it = some (.list (st.map fun e => .imm (mwObj e.2.1)))
  hse : ∃ c, H se = some (.set seen c) ∧ c ≤ (T.keys.filter seen).length
  hnd : ∃ kvs ep, H nd = some (.dict kvs ep) ∧ kvs.map (·.1) = st.map (·.1)
  its : ∀ e ∈ st, H e.2.1 = some (.liter (L.bL e.1) e.2.2) ∧ H₀ e.2.1 = none
  nI : (st.map (·.2.1)).Nodup
  nK : (st.map (·.1)).Nodup
  mem : ∀ e ∈ st, e.1 ∈ T.keys ∧ seen e.1 = true
  sub : ∀ x, seen x = true → x ∈ T.keys
section
variable {H₀ H : CH} {T : TS} {L : Lay} {s it se nd : Addr} {st : List Ent} {seen : Int → Bool}
theorem FC.len (F : FC H₀ H T L s it se nd st seen) (hk : T.keys.Nodup) : st.length ≤ T.keys.length := by
  have := nodup_le (l := st.map (·.1)) (k := T.keys) F.nK (fun x hx => by
    obtain ⟨e, he, rfl⟩ := List.mem_map.mp hx; exact (F.mem e he).1)
  simpa using this
theorem filter_add {keys : List Int} {seen : Int → Bool} {x : Int} (hn : keys.Nodup) (hx : x ∈ keys) (hs : seen x = false) : (keys.filter fun y => seen y || decide (y = x)).length = (keys.filter seen).length + 1 := by
  induction keys with
  | nil => cases hx
  | cons a r ih =>
    rw [List.nodup_cons] at hn
    by_cases e : a = x
    · subst e
      have : r.filter (fun y => seen y || decide (y = a)) = r.filter seen := List.filter_congr fun y hy => by
        have : y ≠ a := fun e => hn.1 (e ▸ hy)
        simp [this]
      rw [List.filter_cons_of_pos (by simp), List.filter_cons_of_neg (by simp [hs]), this]; simp
    · have h := ih hn.2 ((List.mem_cons.mp hx).resolve_left (fun q => e q.symm))
      by_cases q : seen a = true
      · rw [List.filter_cons_of_pos (by simp [q]), List.filter_cons_of_pos q, List.length_cons, List.length_cons, h]
      · rw [List.filter_cons_of_neg (by simp [q, e]), List.filter_cons_of_neg q, h]
noncomputable def addSeen (seen : Int → Bool) (x : Int) : Int → Bool := fun y => seen y || decide (y = x)
theorem FC.push (F : FC H₀ H T L s it se nd st seen) (hkn : T.keys.Nodup) {x : Int} (hx : x ∈ T.keys) (hs : seen x = false) {I : Addr} {c : Nat} {kvs : List (Int × V)} {ep : Nat} {v : V} (hse : H se = some (.set seen c)) (hc : c ≤ (T.keys.filter seen).length) (hnd : kvs.map (·.1) = st.map (·.1))
    (hI : (H.set se (.set (addSeen seen x) (c + 1))) I = none) (hI0 : H₀ I = none) :
    FC H₀ (((((H.set se (.set (addSeen seen x) (c + 1))).set I (.liter (L.bL x) 0)).set it (.list ((st.map fun e => .imm (mwObj e.2.1)) ++ [.imm (mwObj I)]))).set nd (.dict (kvs ++ [(x, v)]) ep)).set s (.list ((st.map fun e => .int e.1) ++ [.int x]))) T L s it se nd (st ++ [(x, I, 0)]) (addSeen seen x) := by
  obtain ⟨kv0, ep0, hnd0, _⟩ := F.hnd
  have i1 : I ≠ se := fun e => by rw [e, CH.set_same] at hI; cases hI
  have hI' : H I = none := by rw [CH.set_ne i1] at hI; exact hI
  have i2 : I ≠ it := fun e => by rw [e, F.hit] at hI'; cases hI'
  have i3 : I ≠ nd := fun e => by rw [e, hnd0] at hI'; cases hI'
  have i4 : I ≠ s := fun e => by rw [e, F.hs] at hI'; cases hI'
  have d1 : it ≠ se := fun e => by have := F.hit; rw [e, hse] at this; cases this
  have d2 : nd ≠ se := fun e => by rw [e, hse] at hnd0; cases hnd0
  have d3 : s ≠ se := fun e => by have := F.hs; rw [e, hse] at this; cases this
  have d4 : nd ≠ it := fun e => by have := F.hit; rw [← e, hnd0] at this; cases this
  have d5 : s ≠ nd := fun e => by have := F.hs; rw [e, hnd0] at this; cases this
  have hxs : x ∉ st.map (·.1) := fun h => by
    obtain ⟨e, he, rfl⟩ := List.mem_map.mp h
    rw [(F.mem e he).2] at hs; cases hs
  refine ⟨fun b hb => ?_, F.f1, F.f2, F.f3, F.f4, F.ne, ?_, ?_, ⟨c + 1, ?_, ?_⟩, ⟨kvs ++ [(x, v)], ep, ?_, ?_⟩, ?_, ?_, ?_, ?_, ?_⟩
  · have k : ∀ {c : Addr}, H₀ c = none → b ≠ c := fun {c} h q => hb (by rw [q]; exact h)
    rw [CH.set_ne (k F.f1), CH.set_ne (k F.f4), CH.set_ne (k F.f2), CH.set_ne (k hI0), CH.set_ne (k F.f3)]
    exact F.keep b hb
  · rw [CH.set_same, List.map_append]; rfl
  · rw [CH.set_ne (Ne.symm F.ne), CH.set_ne (Ne.symm d4), CH.set_same, List.map_append]; rfl
  · rw [CH.set_ne (Ne.symm d3), CH.set_ne (Ne.symm d2), CH.set_ne (Ne.symm d1), CH.set_ne (Ne.symm i1), CH.set_same]
  · unfold addSeen; rw [filter_add hkn hx hs]; (first | lia | omega)
  · rw [CH.set_ne (Ne.symm d5), CH.set_same]
  · rw [List.map_append, List.map_append, hnd]; rfl
  · intro e he
    rcases List.mem_append.mp he with he | he
    · obtain ⟨h1, h2⟩ := F.its e he
      have n1 : e.2.1 ≠ s := fun q => by rw [q, F.hs] at h1; cases h1
      have n2 : e.2.1 ≠ nd := fun q => by rw [q, hnd0] at h1; cases h1
      have n3 : e.2.1 ≠ it := fun q => by rw [q, F.hit] at h1; cases h1
      have n4 : e.2.1 ≠ I := fun q => by rw [q, hI'] at h1; cases h1
      have n5 : e.2.1 ≠ se := fun q => by rw [q, hse] at h1; cases h1
      rw [CH.set_ne n1, CH.set_ne n2, CH.set_ne n3, CH.set_ne n4, CH.set_ne n5]
      exact ⟨h1, h2⟩
    · obtain rfl := List.mem_singleton.mp he
      show CH.set _ _ _ I = some (.liter (L.bL x) 0) ∧ _
      rw [CH.set_ne i4, CH.set_ne i3, CH.set_ne i2, CH.set_same]
      exact ⟨rfl, hI0⟩
  · rw [List.map_append, List.nodup_append]
    refine ⟨F.nI, by simp, fun p hp q hq => ?_⟩
    obtain rfl := List.mem_singleton.mp hq
    obtain ⟨e, he, rfl⟩ := List.mem_map.mp hp
    intro q; have := (F.its e he).1; rw [q, hI'] at this; cases this
  · rw [List.map_append, List.nodup_append]
    refine ⟨F.nK, by simp, fun p hp q hq => ?_⟩
    obtain rfl := List.mem_singleton.mp hq
    intro q; exact hxs (q ▸ hp)
  · intro e he
    rcases List.mem_append.mp he with he | he
    · have := F.mem e he; exact ⟨this.1, by unfold addSeen; rw [this.2]; rfl⟩
    · obtain rfl := List.mem_singleton.mp he
      exact ⟨hx, by unfold addSeen; simp⟩
  · intro y hy
    unfold addSeen at hy
    rw [Bool.or_eq_true, decide_eq_true_eq] at hy
    rcases hy with hy | hy
    · exact F.sub y hy
    · exact hy ▸ hx
theorem FC.step {e : Ent} (F : FC H₀ H T L s it se nd (st ++ [e]) seen) {i : Nat} :
    FC H₀ (H.set e.2.1 (.liter (L.bL e.1) i)) T L s it se nd (st ++ [(e.1, e.2.1, i)]) seen := by
  obtain ⟨kv0, ep0, hnd0, hk0⟩ := F.hnd
  obtain ⟨c, hse, hc⟩ := F.hse
  obtain ⟨h1, h2⟩ := F.its e (List.mem_append_right _ List.mem_cons_self)
  have hne := F.nI
  rw [List.map_append, List.nodup_append] at hne
  have hm : ∀ {β : Type} (f : Int → Addr → β), ((st ++ [(e.1, e.2.1, i)]).map fun e => f e.1 e.2.1) = ((st ++ [e]).map fun e => f e.1 e.2.1) := by intro β f; simp
  refine ⟨fun b hb => ?_, F.f1, F.f2, F.f3, F.f4, F.ne, ?_, ?_, ⟨c, set_other h1 hse (by intro q; cases q), hc⟩, ⟨kv0, ep0, set_other h1 hnd0 (by intro q; cases q), ?_⟩, ?_, ?_, ?_, ?_, F.sub⟩
  · have hbI : b ≠ e.2.1 := fun q => hb (by rw [q]; exact h2)
    rw [CH.set_ne hbI]; exact F.keep b hb
  · rw [hm fun x _ => V.int x]; exact set_other h1 F.hs (by intro q; cases q)
  · rw [hm fun _ x => V.imm (mwObj x)]; exact set_other h1 F.hit (by intro q; cases q)
  · rw [hm fun x _ => x]; exact hk0
  · intro e' he'
    rcases List.mem_append.mp he' with he' | he'
    · have := F.its e' (List.mem_append_left _ he')
      rw [CH.set_ne (hne.2.2 _ (List.mem_map_of_mem he') _ (List.mem_singleton.mpr rfl))]; exact this
    · obtain rfl := List.mem_singleton.mp he'
      exact ⟨CH.set_same, h2⟩
  · rw [hm fun _ x => x]; exact F.nI
  · rw [hm fun x _ => x]; exact F.nK
  · intro e' he'
    rcases List.mem_append.mp he' with he' | he'
    · exact F.mem e' (List.mem_append_left _ he')
    · obtain rfl := List.mem_singleton.mp he'
      exact F.mem e (List.mem_append_right _ List.mem_cons_self)
theorem FC.pop {e : Ent} (F : FC H₀ H T L s it se nd (st ++ [e]) seen) {kvs : List (Int × V)} {ep : Nat} (hnd : kvs.map (·.1) = st.map (·.1)) :
    FC H₀ ((((H.del e.2.1).set s (.list (st.map fun e => .int e.1))).set nd (.dict kvs ep)).set it (.list (st.map fun e => .imm (mwObj e.2.1)))) T L s it se nd st seen := by
  obtain ⟨kv0, ep0, hnd0, _⟩ := F.hnd
  obtain ⟨c, hse, hc⟩ := F.hse
  obtain ⟨h1, h2⟩ := F.its e (List.mem_append_right _ List.mem_cons_self)
  have hne := F.nI
  rw [List.map_append, List.nodup_append] at hne
  have hnk := F.nK
  rw [List.map_append, List.nodup_append] at hnk
  have d1 : se ≠ it := fun e => by have := F.hit; rw [← e, hse] at this; cases this
  have d2 : se ≠ nd := fun e => by rw [← e, hse] at hnd0; cases hnd0
  have d3 : se ≠ s := fun e => by have := F.hs; rw [← e, hse] at this; cases this
  have d4 : nd ≠ it := fun e => by have := F.hit; rw [← e, hnd0] at this; cases this
  have d5 : s ≠ nd := fun e => by have := F.hs; rw [e, hnd0] at this; cases this
  refine ⟨fun b hb => ?_, F.f1, F.f2, F.f3, F.f4, F.ne, ?_, CH.set_same, ⟨c, ?_, hc⟩, ⟨kvs, ep, ?_, hnd⟩, ?_, hne.1, hnk.1, fun e' he' => F.mem e' (List.mem_append_left _ he'), F.sub⟩
  · have hbI : b ≠ e.2.1 := fun q => hb (by rw [q]; exact h2)
    have k : ∀ {c : Addr}, H₀ c = none → b ≠ c := fun {c} h q => hb (by rw [q]; exact h)
    rw [CH.set_ne (k F.f2), CH.set_ne (k F.f4), CH.set_ne (k F.f1), CH.del_ne hbI]
    exact F.keep b hb
  · rw [CH.set_ne F.ne, CH.set_ne d5, CH.set_same]
  · rw [CH.set_ne d1, CH.set_ne d2, CH.set_ne d3, CH.del_ne (fun q => by rw [← q, hse] at h1; cases h1)]; exact hse
  · rw [CH.set_ne d4, CH.set_same]
  · intro e' he'
    obtain ⟨h3, h4⟩ := F.its e' (List.mem_append_left _ he')
    have n1 : e'.2.1 ≠ s := fun q => by rw [q, F.hs] at h3; cases h3
    have n2 : e'.2.1 ≠ nd := fun q => by rw [q, hnd0] at h3; cases h3
    have n3 : e'.2.1 ≠ it := fun q => by rw [q, F.hit] at h3; cases h3
    rw [CH.set_ne n3, CH.set_ne n2, CH.set_ne n1, CH.del_ne (hne.2.2 _ (List.mem_map_of_mem he') _ (List.mem_singleton.mpr rfl))]
    exact ⟨h3, h4⟩
end
noncomputable def leftU (T : TS) (seen : Int → Bool) : Nat := ((T.keys.filter fun k => !seen k).map fun k => (T.sc k).length + 1).sum
noncomputable def leftS (T : TS) (st : List Ent) : Nat := (st.map fun e => (T.sc e.1).length - e.2.2).sum
theorem leftU_add {T : TS} {seen : Int → Bool} {x : Int} (hn : T.keys.Nodup) (hx : x ∈ T.keys) (hs : seen x = false) : leftU T seen = leftU T (addSeen seen x) + ((T.sc x).length + 1) := by
  unfold leftU
  generalize T.keys = keys at *
  induction keys with
  | nil => cases hx
  | cons a r ih =>
    rw [List.nodup_cons] at hn
    by_cases e : a = x
    · subst e
      have : r.filter (fun y => !addSeen seen a y) = r.filter fun y => !seen y := List.filter_congr fun y hy => by
        have : y ≠ a := fun e => hn.1 (e ▸ hy)
        simp [addSeen, this]
      rw [List.filter_cons_of_pos (by simp [hs]), List.filter_cons_of_neg (by simp [addSeen]), this]; simp; (first | lia | omega)
    · have h := ih hn.2 ((List.mem_cons.mp hx).resolve_left (fun q => e q.symm))
      by_cases q : seen a = true
      · rw [List.filter_cons_of_neg (by simp [q]), List.filter_cons_of_neg (by simp [addSeen, q])]; exact h
      · rw [List.filter_cons_of_pos (by simp [q]), List.filter_cons_of_pos (by simp [addSeen, q, e])]
        simp only [List.map_cons, List.sum_cons]; (first | lia | omega)
theorem leftS_append {T : TS} {st : List Ent} {e : Ent} : leftS T (st ++ [e]) = leftS T st + ((T.sc e.1).length - e.2.2) := by
  unfold leftS; simp
end
section
theorem g_iter2 {P : Params} : nsIn (KK P) mainGlobals "iter" = some none := by kernel_rfl
theorem g_set {P : Params} : nsIn (KK P) mainGlobals "set" = some none := by kernel_rfl
theorem b_set : bootBuiltins "set" = some (.type "set") := by kernel_rfl
theorem g_stop {P : Params} : nsIn (KK P) mainGlobals "StopIteration" = some none := by kernel_rfl
theorem b_stop : bootBuiltins "StopIteration" = some (.type "StopIteration") := by kernel_rfl
theorem keysOf_map {keys : List Int} {f : Int → V} : keysOf (keys.map fun k => (k, f k)) = keys.map .int := by
  induction keys with
  | nil => rfl
  | cons a r ih => rw [List.map_cons, List.map_cons]; show V.int a :: keysOf _ = _; rw [ih]
noncomputable abbrev mF (s it se nd n2i a : Addr) : Loc := [("node2stacki", .ref nd), ("seen", .ref se), ("itstack", .ref it), ("stack", .ref s), ("n2i", .ref n2i), ("self", .ref a)]
noncomputable abbrev mX (x : Int) (s it se nd n2i a : Addr) : Loc := ("node", .int x) :: mF s it se nd n2i a
noncomputable def Up (rk : Int → Int) (st : List Ent) : Prop := st.Pairwise fun e e' => rk e.1 < rk e'.1
section
variable {C : Cx} {A : Around} {m : Loc} {H : CH} {s : Shared} {mg mb : Str → Option Value} {P : Params} {a : Addr} {T : TS} {L : Lay}
noncomputable def FcI (H : CH) (T : TS) (L : Lay) (S it se nd a : Addr) (rk : Int → Int) (n : Nat) (m' : Loc) (H' : CH) : Prop := ∃ x st seen, m' = mX x S it se nd L.n2i a ∧ FC H H' T L S it se nd st seen ∧ x ∈ T.keys ∧ Up rk st ∧ (∀ e ∈ st, rk e.1 < rk x) ∧ n = leftU T seen + leftS T st
noncomputable def FcM (H : CH) (T : TS) (L : Lay) (S it se nd a : Addr) (rk : Int → Int) (x : Int) (N : Nat) (m' : Loc) (H' : CH) : Prop := m' = mX x S it se nd L.n2i a ∧ ∃ st' seen', FC H H' T L S it se nd st' seen' ∧ Up rk st' ∧ leftU T seen' + leftS T st' ≤ N
noncomputable def FcW (H : CH) (T : TS) (L : Lay) (S it se nd a : Addr) (rk : Int → Int) (x : Int) (N : Nat) (n : Nat) (m' : Loc) (H' : CH) : Prop := m' = mX x S it se nd L.n2i a ∧ ∃ st' seen', FC H H' T L S it se nd st' seen' ∧ Up rk st' ∧ leftU T seen' + leftS T st' ≤ N ∧ n = st'.length
theorem spec_findcycle {rk : Int → Int} (hrk : ∀ k ∈ T.keys, ∀ x ∈ T.sc k, x ∈ T.keys ∧ rk k < rk x) (hz : T.keys.length + 1 < scanBound) (B : Bs C.h₀ (KK P) mg mb) {n : Nat} (hA : AOK C A (n + 1)) (R : TSR H a T L) :
    CALL C A (.con (.ref a_findcycle)) [.ref a] [] H fun v H' => v = V.none ∧ ∀ b, H b ≠ none → H' b = H b := by
  have hz1 : T.keys.length < sizeLine := by unfold sizeLine; unfold scanBound at hz; (first | lia | omega)
  refine CALL_K B (by with_unfolding_all rfl) (by with_unfolding_all rfl) hA .pos1 (by with_unfolding_all rfl) rfl fun LL hL hL0 hA' => ?_
  repeat walk_at "x"
  refine GA_own B R.top R.dict rfl ?_
  repeat walk_at "x"
  refine EV_list ?_
  repeat walk_at "x"
  refine ⟨by decide, fun S hS => ?_⟩
  repeat walk_at "x"
  refine EV_list ?_
  repeat walk_at "x"
  refine ⟨by decide, fun it hit => ?_⟩
  repeat walk_at "x"
  refine EV_b B g_set b_set ?_
  repeat walk_at "x"
  refine ⟨KP_type, CV_set0 fun se hse hse0 => ?_⟩
  repeat walk_at "x"
  refine EV_dict fun nd hnd hnd0 => ?_
  have e1 : it ≠ S := fun e => by rw [e, CH.set_same] at hit; cases hit
  have e2 : se ≠ it := fun e => by rw [e, CH.set_same] at hse; cases hse
  have e3 : se ≠ S := fun e => by rw [e, CH.set_ne (Ne.symm e1), CH.set_same] at hse; cases hse
  have e4 : nd ≠ se := fun e => by rw [e, CH.set_same] at hnd; cases hnd
  have e5 : nd ≠ it := fun e => by rw [e, CH.set_ne (Ne.symm e2), CH.set_same] at hnd; cases hnd
  have e6 : nd ≠ S := fun e => by rw [e, CH.set_ne (Ne.symm e3), CH.set_ne (Ne.symm e1), CH.set_same] at hnd; cases hnd
  have f2 : H it = none := by rw [CH.set_ne e1] at hit; exact hit
  have f3 : H se = none := by rw [CH.set_ne e2, CH.set_ne e3] at hse; exact hse
  have f4 : H nd = none := by rw [CH.set_ne e4, CH.set_ne e5, CH.set_ne e6] at hnd; exact hnd
  have F0 : FC H ((((H.set S (.list [])).set it (.list [])).set se (.set (fun _ => false) 0)).set nd (.dict [] 0)) T L S it se nd [] (fun _ => false) := by
    refine ⟨fun b hb => ?_, hS, f2, f3, f4, Ne.symm e1, ?_, ?_, ⟨0, ?_, Nat.zero_le _⟩, ⟨[], 0, CH.set_same, rfl⟩, (by intro _ h; cases h), .nil, .nil, (by intro _ h; cases h), (by intro _ h; cases h)⟩
    · have k : ∀ {c : Addr}, H c = none → b ≠ c := fun {c} h q => hb (by rw [q]; exact h)
      rw [CH.set_ne (k f4), CH.set_ne (k f3), CH.set_ne (k f2), CH.set_ne (k hS)]
    · rw [CH.set_ne (Ne.symm e6), CH.set_ne (Ne.symm e3), CH.set_ne (Ne.symm e1), CH.set_same]; rfl
    · rw [CH.set_ne (Ne.symm e5), CH.set_ne (Ne.symm e2), CH.set_same]; rfl
    · rw [CH.set_ne (Ne.symm e4), CH.set_same]
  repeat walk_at "x"
  refine EX_cons (st := .For _ _ _ _ _) (ES_for' ?_)
  repeat walk_at "x"
  have kn2i : ∀ {st : List Ent} {seen : Int → Bool} {H' : CH}, FC H H' T L S it se nd st seen → H' L.n2i = some (.dict (T.keys.map fun k => (k, .ref (L.bA k))) L.ep) := fun {st seen H'} Z => (Z.keep _ (by rw [R.n2i]; simp)).trans R.n2i
  refine ⟨T.keys.map .int, _, mF S it se nd L.n2i a, fun i m' H' => m' = mF S it se nd L.n2i a ∧ ∃ seen, FC H H' T L S it se nd [] seen,
    (by rw [← keysOf_map (f := fun k => V.ref (L.bA k))]; exact seq_keys (by exact B) hA'.handled (kn2i F0)), .cons rfl (.cons rfl (.cons rfl (.cons rfl (.cons rfl (.cons rfl .nil))))), ⟨rfl, _, F0⟩, ?_⟩
  rintro i m' H' ⟨rfl, seen, Z⟩
  refine ⟨kn2i Z, fun y hy => ?_, fun hi => ?_⟩
  · obtain ⟨x, hx, rfl⟩ := ints_get hy
    have hxk : x ∈ T.keys := List.mem_of_getElem? hx
    obtain ⟨c, hc, hcl⟩ := Z.hse
    repeat walk_at "x"
    walk_at "xi"
    refine O2_inset hc ?_
    repeat walk_at "x"
    refine ⟨_, rfl, fun q => ?_, fun q => ?_⟩
    · repeat walk_at "x"
      exact ⟨_, .cons rfl (.cons rfl (.cons rfl (.cons rfl (.cons rfl (.cons rfl .nil))))), rfl, seen, Z⟩
    repeat walk_at "x"
    refine EX_cons (st := .While _ _ _ _) (ES_while (FcI H T L S it se nd a rk) _ _
      (.cons rfl (.cons rfl (.cons rfl (.cons rfl (.cons rfl (.cons rfl (.cons rfl .nil))))))) ⟨x, [], seen, rfl, Z, hxk, .nil, (by intro _ h; cases h), rfl⟩ ?_)
    clear hc hcl c q hx hxk x Z seen hy
    rintro n' m' H' ⟨x, st, seen, rfl, Z, hxk, hup, hlt, rfl⟩
    repeat walk_at "x"
    refine OB_bool ⟨fun _ => ?_, fun h => (by cases h)⟩
    refine EX_mid (st := .If _ _ _ _) (FcM H T L S it se nd a rk x (leftU T seen + leftS T st)) (ES_if ?_) fun m₁ H₁ hM => ?_
    · obtain ⟨c, hc, hcl⟩ := Z.hse
      repeat walk_at "x"
      refine O2_inset hc ?_
      refine ⟨_, rfl, fun q => ?_, fun q => ?_⟩
      · obtain ⟨kvs, ep, hnd, hkv⟩ := Z.hnd
        walk_at "xi"
        refine O2_in_dict B hnd ?_
        rw [lookup_no (by
          rw [hkv]; intro h
          obtain ⟨e, he, rfl⟩ := List.mem_map.mp h
          exact Int.lt_irrefl _ (hlt e he))]
        refine ⟨_, rfl, fun h => (by cases h), fun _ => ?_⟩
        repeat walk_at "x"
        exact ⟨rfl, st, seen, Z, hup, Nat.le_refl _⟩
      · have hlen := Z.len R.nodup
        repeat walk_at "x"
        refine GM_set hc ?_
        repeat walk_at "x"
        refine ⟨KP_built, CV_add hc ?_ ?_⟩
        · have := List.length_filter_le seen T.keys; (first | lia | omega)
        rw [if_neg (by rw [q]; simp)]
        have hit' : H' it = _ := Z.hit
        have o1 : it ≠ se := fun e => by rw [e, hc] at hit'; cases hit'
        have hit2 := (CH.set_ne (H := H') (c := .set (addSeen seen x) (c + 1)) o1).trans hit'
        repeat walk_at "x"
        refine GM_list (.own hit2) F.slot_list_append F.type_list_append ?_
        repeat walk_at "x"
        refine EV_b B g_iter2 b_iter ?_
        repeat walk_at "x"
        have o2 : L.n2i ≠ se := fun e => by have := kn2i Z; rw [e, hc] at this; cases this
        refine sub_dict ((CH.set_ne o2).trans (kn2i Z)) (look_keys hxk) ?_
        repeat walk_at "x"
        have R' := R.keep Z.keep
        have R'' : ∀ {b : Addr} {c' : CObj}, H' b = some c' → (∀ S c, c' ≠ .set S c) → (H'.set se (.set (addSeen seen x) (c + 1))) b = some c' := fun {b c'} h1 h2 => (CH.set_ne (fun e => by rw [e, hc] at h1; cases h1; exact h2 _ _ rfl)).trans h1
        refine GA_slot (p := 80) (i := 2) B (R'' (R'.node x hxk) (by intro _ _ h; cases h)) (R'' (R'.nd x hxk) (by intro _ _ h; cases h)) rfl ?_
        repeat walk_at "x"
        refine ⟨KP_built, CV_iter (.own (R'' (R'.succ x hxk) (by intro _ _ h; cases h))) fun I hI hI0 => ?_⟩
        replace hI : (H'.set se (.set (addSeen seen x) (c + 1))) I = none := hI
        repeat walk_at "x"
        refine GA_next CH.set_same ?_
        repeat walk_at "x"
        have i1 : it ≠ I := fun e => by rw [← e, hit2] at hI; cases hI
        refine ⟨KP_built, CV_append ((CH.set_ne i1).trans hit2) (by rw [List.length_map]; (first | lia | omega)) ?_⟩
        repeat walk_at "x"
        obtain ⟨kvs, ep, hnd, hkv⟩ := Z.hnd
        have hS' := Z.hs
        have j1 : S ≠ se := fun e => by rw [e, hc] at hS'; cases hS'
        have j2 : S ≠ I := fun e => by rw [← e, CH.set_ne j1, hS'] at hI; cases hI
        have k1 : nd ≠ se := fun e => by rw [e, hc] at hnd; cases hnd
        have k2 : nd ≠ I := fun e => by rw [← e, CH.set_ne k1, hnd] at hI; cases hI
        have k3 : nd ≠ it := fun e => by rw [e, hit'] at hnd; cases hnd
        have k4 : S ≠ nd := fun e => by rw [e, hnd] at hS'; cases hS'
        refine EV_b B g_len2 b_len ?_
        repeat walk_at "x"
        refine ⟨KP_built, CV_len (.own (by rw [CH.set_ne Z.ne, CH.set_ne j2, CH.set_ne j1]; exact hS')) (by rw [List.length_map]; (first | lia | omega)) ?_⟩
        repeat walk_at "x"
        have hxs : x ∉ kvs.map (·.1) := fun h => by
          rw [hkv] at h
          obtain ⟨e, he, rfl⟩ := List.mem_map.mp h
          exact Int.lt_irrefl _ (hlt e he)
        have hkl : kvs.length ≤ sizeLine := by
          have := congrArg List.length hkv
          rw [List.length_map, List.length_map] at this; (first | lia | omega)
        refine set_dict (by rw [CH.set_ne k3, CH.set_ne k2, CH.set_ne k1]; exact hnd) hkl fun ep' => ?_
        rw [putI_new hxs]
        repeat walk_at "x"
        refine GM_list (.own (by rw [CH.set_ne k4, CH.set_ne Z.ne, CH.set_ne j2, CH.set_ne j1]; exact hS')) F.slot_list_append F.type_list_append ?_
        repeat walk_at "x"
        refine ⟨KP_built, CV_append (by rw [CH.set_ne k4, CH.set_ne Z.ne, CH.set_ne j2, CH.set_ne j1]; exact hS') (by rw [List.length_map]; (first | lia | omega)) ?_⟩
        repeat walk_at "x"
        have hI0' : H I = none := by
          cases h : H I with
          | none => rfl
          | some o =>
            have i2 : I ≠ se := fun e => by rw [e, CH.set_same] at hI; cases hI
            rw [CH.set_ne i2, Z.keep I (by rw [h]; simp), h] at hI; cases hI
        have Z' := Z.push R.nodup hxk q hc hcl hkv hI hI0' (v := .int ((st.map fun e => V.int e.1).length : Int)) (ep := ep')
        refine ⟨rfl, _, _, Z', ?_, ?_⟩
        · unfold Up at hup ⊢
          rw [List.pairwise_append]
          exact ⟨hup, List.pairwise_singleton .., fun e he e' he' => by rw [List.mem_singleton.mp he']; exact hlt e he⟩
        · rw [leftS_append, leftU_add R.nodup hxk q]
          show _ + (_ + ((T.sc x).length - 0)) ≤ _
          (first | lia | omega)
    · obtain ⟨rfl, st', seen', Z', hup', hle'⟩ := hM
      generalize leftU T seen + leftS T st = N at *
      refine EX_cons (st := .While _ _ _ _) (ES_while (FcW H T L S it se nd a rk x N) _ _
        (.cons rfl (.cons rfl (.cons rfl (.cons rfl (.cons rfl (.cons rfl (.cons rfl .nil))))))) ⟨rfl, st', seen', Z', hup', hle', rfl⟩ ?_)
      clear Z' hup' hle' st' seen' Z hup hlt st seen H'
      rintro n' m' H' ⟨rfl, st, seen, Z, hup, hle, rfl⟩
      have hlen := Z.len R.nodup
      repeat walk_at "x"
      refine OB_list (.own Z.hs) (by rw [List.length_map]; (first | lia | omega)) ⟨fun hb => ?_, fun hb => ?_⟩
      · have hne : st ≠ [] := by intro h; subst h; simp at hb
        obtain ⟨st0, e, rfl⟩ : ∃ st0 e, st = st0 ++ [e] := ⟨_, _, (List.dropLast_concat_getLast hne).symm⟩
        obtain ⟨k, I, i⟩ := e
        obtain ⟨hI, hI0⟩ : H' I = some (.liter (L.bL k) i) ∧ H I = none := Z.its (k, I, i) (List.mem_append_right _ List.mem_cons_self)
        obtain ⟨hkk, hks⟩ : k ∈ T.keys ∧ seen k = true := Z.mem (k, I, i) (List.mem_append_right _ List.mem_cons_self)
        have R' := R.keep Z.keep
        have hit : H' it = some (.list ((st0.map fun e => V.imm (mwObj e.2.1)) ++ [V.imm (mwObj I)])) := by have h := Z.hit; rw [List.map_append] at h; exact h
        have hup0 := hup
        unfold Up at hup0
        rw [List.pairwise_append] at hup0
        replace hlen : st0.length + 1 ≤ T.keys.length := by simpa using hlen
        have hneg : ((st0.map fun e => V.imm (mwObj e.2.1)) ++ [V.imm (mwObj I)])[((-1 : Int) + (((st0.map fun e => V.imm (mwObj e.2.1)) ++ [V.imm (mwObj I)]).length : Int)).toNat]? = some (.imm (mwObj I)) := by
          rw [show ((-1 : Int) + (((st0.map fun e => V.imm (mwObj e.2.1)) ++ [V.imm (mwObj I)]).length : Int)).toNat = (st0.map fun e => V.imm (mwObj e.2.1)).length from by rw [List.length_append, List.length_singleton]; (first | lia | omega)]
          simp
        by_cases hi : i < (T.sc k).length
        · have hx' : (T.sc k)[i]? = some (T.sc k)[i] := List.getElem?_eq_getElem hi
          generalize (T.sc k)[i] = y at hx'
          obtain ⟨hyk, hyr⟩ := hrk k hkk y (List.mem_of_getElem? hx')
          refine EX_cons (st := .Try _ _ _ _ _) (ES_try (T := "StopIteration") (cls := "StopIteration") (R := fun _ _ => False) hA'.frames rfl (by kernel_rfl) (by kernel_rfl) (by kernel_rfl) (EXX_of ?_) (fun _ _ _ h => h.elim))
          repeat walk_at "x"
          refine O1_neg ?_
          repeat walk_at "x"
          refine sub_list_neg (k := -1) (v := .imm (mwObj I)) (.own hit) (by decide) (by rw [List.length_append, List.length_singleton]; (first | lia | omega)) hneg (by rw [List.length_append, List.length_map, List.length_singleton]; (first | lia | omega)) ?_
          repeat walk_at "x"
          refine ⟨KP_mw, CV_mw hI (.own (R'.succ k hkk)) (by rw [List.getElem?_map, hx']; rfl) ?_⟩
          repeat walk_at "x"
          have Z' := Z.step (i := i + 1)
          refine EX_nil ?_
          refine ⟨_, _, ?_, .cons rfl (.cons rfl (.cons rfl (.cons rfl (.cons rfl (.cons rfl (.cons rfl .nil)))))), y, _, _, rfl, Z', hyk, ?_, ?_, rfl⟩
          · rw [leftS_append] at hle ⊢
            show _ + (_ + ((T.sc k).length - (i + 1))) < _
            have : leftU T seen + (leftS T st0 + ((T.sc k).length - i)) ≤ N := hle
            (first | lia | omega)
          · unfold Up
            rw [List.pairwise_append]
            exact ⟨hup0.1, List.pairwise_singleton .., fun e he e' he' => by rw [List.mem_singleton.mp he']; exact hup0.2.2 e he (k, I, i) (List.mem_singleton.mpr rfl)⟩
          · intro e he
            rcases List.mem_append.mp he with he | he
            · exact Int.lt_trans (hup0.2.2 e he (k, I, i) (List.mem_singleton.mpr rfl)) hyr
            · rw [List.mem_singleton.mp he]; exact hyr
        · refine EX_cons (st := .Try _ _ _ _ _) (ES_try (T := "StopIteration") (cls := "StopIteration") (R := fun m' H'' => m' = mX x S it se nd L.n2i a ∧ H'' = H'.del I) hA'.frames rfl (by kernel_rfl) (by kernel_rfl) (by kernel_rfl) (EXX_cons (ESX_assign (EVX_call ?_))) ?_)
          · repeat walk_at "x"
            refine O1_neg ?_
            repeat walk_at "x"
            refine sub_list_neg (k := -1) (v := .imm (mwObj I)) (.own hit) (by decide) (by rw [List.length_append, List.length_singleton]; (first | lia | omega)) hneg (by rw [List.length_append, List.length_map, List.length_singleton]; (first | lia | omega)) ?_
            repeat walk_at "x"
            exact ⟨KP_mw, CVX_mw hA'.handled hI (.own (R'.succ k hkk)) (by rw [List.length_map]; (first | lia | omega)) ⟨rfl, rfl⟩⟩
          · rintro _ _ h' ⟨rfl, rfl⟩
            refine EV_b (by exact B) g_stop b_stop ?_
            refine ⟨rfl, ?_⟩
            obtain ⟨kvs, ep, hnd, hkv⟩ := Z.hnd
            rw [List.map_append] at hkv
            have hS' : H' S = some (.list ((st0.map fun e => V.int e.1) ++ [.int k])) := by have h := Z.hs; rw [List.map_append] at h; exact h
            have hkn := Z.nK
            rw [List.map_append, List.nodup_append] at hkn
            have hk0 : k ∉ st0.map (·.1) := fun h => hkn.2.2 _ h _ (List.mem_singleton.mpr rfl) rfl
            have hkv0 := dropI_keys hkv hk0
            have i1 : S ≠ I := fun e => by rw [← e, hS'] at hI; cases hI
            have i2 : nd ≠ I := fun e => by rw [← e, hnd] at hI; cases hI
            have i3 : it ≠ I := fun e => by rw [← e, hit] at hI; cases hI
            have k4 : S ≠ nd := fun e => by rw [e, hnd] at hS'; cases hS'
            have k3 : nd ≠ it := fun e => by rw [e, hit] at hnd; cases hnd
            refine EX_cons (st := .Delete _ _) (ES_del ?_)
            repeat walk_at "x"
            refine GM_list (.own (by rw [CH.del_ne i1]; exact hS')) F.slot_list_pop F.type_list_pop ?_
            repeat walk_at "x"
            refine ⟨KP_built, CV_pop (by rw [CH.del_ne i1]; exact hS') (by rw [List.length_map]; (first | lia | omega)) ?_⟩
            refine ⟨nd, k, kvs, ep, rfl, rfl, by rw [CH.set_ne (Ne.symm k4), CH.del_ne i2]; exact hnd, ?_, lookup_yes (by rw [hkv]; simp), fun ep' => ?_⟩
            · have := congrArg List.length hkv
              simp at this
              (first | lia | omega)
            repeat walk_at "x"
            refine GM_list (.own (by rw [CH.set_ne (Ne.symm k3), CH.set_ne (Ne.symm Z.ne), CH.del_ne i3]; exact hit)) F.slot_list_pop F.type_list_pop ?_
            repeat walk_at "x"
            refine ⟨KP_built, CV_pop (by rw [CH.set_ne (Ne.symm k3), CH.set_ne (Ne.symm Z.ne), CH.del_ne i3]; exact hit) (by rw [List.length_map]; (first | lia | omega)) ?_⟩
            repeat walk_at "x"
            have Z' := Z.pop (ep := ep') hkv0
            refine ⟨_, _, ?_, .cons rfl (.cons rfl (.cons rfl (.cons rfl (.cons rfl (.cons rfl (.cons rfl .nil)))))), rfl, st0, seen, Z', hup0.1, ?_, rfl⟩
            · simp
            · rw [leftS_append] at hle; (first | lia | omega)
      · repeat walk_at "x"
        have e : st = [] := by simpa using hb
        subst e
        refine EX_nil ?_
        exact ⟨_, .cons rfl (.cons rfl (.cons rfl (.cons rfl (.cons rfl (.cons rfl .nil))))), rfl, seen, Z⟩
  · repeat walk_at "x"
    exact ⟨rfl, Z.keep⟩
end
end
section
section
variable {C : Cx} {A : Around} {m : Loc} {H : CH} {s : Shared} {mg mb : Str → Option Value} {P : Params} {a : Addr} {T : TS} {L : Lay}
theorem spec_prepare {rk : Int → Int} (hrk : ∀ k ∈ T.keys, ∀ x ∈ T.sc k, x ∈ T.keys ∧ rk k < rk x) (hz : T.keys.length + 1 < scanBound) (B : Bs C.h₀ (KK P) mg mb) {n : Nat} (hA : AOK C A (n + 2)) (R : TSR H a T L) (hr : T.ready = none) :
    CALL C A (.con (.ref a_prepare)) [.ref a] [] H fun v H' => v = V.none ∧ ∃ L', TSR H' a T.prep L' ∧ FrameT a H T L H' T.prep L' := by
  have hz1 : T.keys.length ≤ sizeLine := by unfold sizeLine; unfold scanBound at hz; (first | lia | omega)
  refine CALL_K B (by with_unfolding_all rfl) (by with_unfolding_all rfl) hA .pos1 (by with_unfolding_all rfl) rfl fun LL hL hL0 hA' => ?_
  walk_at "xi"
  refine GA_own B R.top R.dict rfl ?_ (by kernel_rfl) (by unfold rdV; rw [hr]; rfl)
  repeat walk_at "x"
  refine ⟨_, rfl, fun q => ?_, fun _ => ?_⟩
  · unfold rdV at q; rw [hr] at q; cases q
  repeat walk_at "x"
  refine EV_lc ?_
  repeat walk_at "x"
  refine GA_own B R.top R.dict rfl ?_
  refine GM_dict R.n2i F.slot_dict_values F.type_dict_values ?_
  repeat walk_at "x"
  refine ⟨KP_built, CV_values B R.n2i ?_⟩
  refine LC_pure T.keys (fun k => .ref (L.bA k)) (fun k => T.np k == 0) .int (ok := fun H' => H' L.n2i = some (.dict (T.keys.map fun k => (k, .ref (L.bA k))) L.ep)) (by
    have : valsOf (T.keys.map fun k => (k, V.ref (L.bA k))) = T.keys.map fun k => V.ref (L.bA k) := by unfold valsOf; rw [List.map_map]; rfl
    rw [← this]; exact seq_vals hA'.handled R.n2i) R.n2i hz1 (fun k hk LC hLC => ?_) fun D hD hD0 => ?_
  · repeat walk_at "x"
    refine GA_slot (p := 79) (i := 1) B (R.node k hk) (R.nd k hk) rfl ?_
    repeat walk_at "x"
    refine ⟨_, rfl, fun q => ?_, fun q => ?_⟩
    · repeat walk_at "x"
      refine ⟨by simpa using q, rfl, fun _ => ?_⟩
      repeat walk_at "x"
      refine GA_slot (p := 78) (i := 0) B (R.node k hk) (R.nd k hk) rfl ?_
      exact ⟨rfl, rfl⟩
    · exact ⟨by simpa using q, rfl, fun h => (by cases h)⟩
  repeat walk_at "x"
  obtain ⟨R₁, F₁⟩ := R.setSome hD hr (T.keys.filter fun k => T.np k == 0)
  have low : ∀ {b : Addr} {c : CObj}, H b = some c → ∀ d, H.set D d b = some c := fun {b c} h d => by rw [CH.set_ne (fun e => by rw [e, hD] at h; cases h)]; exact h
  refine SA_own B (low R.top _) (low R.dict _) (by first | with_unfolding_all exact (by decide : (4:Nat) < 1000)) ?_
  repeat walk_at "x"
  refine GM_inst (f := a_findcycle) B R₁.top R₁.dict rfl ?_
  repeat walk_at "x"
  refine ⟨KP_K B (by with_unfolding_all rfl), CV_of ((spec_findcycle (T := T.prep) (rk := rk) hrk hz (by exact B) hA' R₁).mono ?_)⟩
  rintro v H' ⟨rfl, hkeep⟩
  repeat walk_at "x"
  walk_at "xi"
  refine OB_none ⟨fun q => (by cases q), fun _ => ?_⟩
  repeat walk_at "x"
  refine ⟨rfl, _, R₁.keep hkeep, F₁.trans fun b hb hf => ⟨hkeep b hb, hf⟩⟩
end
end
section
noncomputable abbrev a_emptied : Addr := 183
noncomputable abbrev a_told : Addr := 188
noncomputable abbrev a_least : Addr := 193
noncomputable abbrev a_law : Addr := 198
theorem g_heappop {P : Params} : nsIn (KK P) mainGlobals "heappop" = some (some (.ref 35)) := by kernel_rfl
theorem g_heappush {P : Params} : nsIn (KK P) mainGlobals "heappush" = some (some (.ref 28)) := by kernel_rfl
theorem g_range {P : Params} : nsIn (KK P) mainGlobals "range" = some none := by kernel_rfl
theorem b_range : bootBuiltins "range" = some (.type "range") := by kernel_rfl
theorem g_sorted {P : Params} : nsIn (KK P) mainGlobals "sorted" = some none := by kernel_rfl
theorem b_sorted : bootBuiltins "sorted" = some (.builtin "sorted") := by kernel_rfl
theorem g_ie {P : Params} : nsIn (KK P) mainGlobals "IndexError" = some none := by kernel_rfl
theorem b_ie : bootBuiltins "IndexError" = some (.type "IndexError") := by kernel_rfl
theorem sn {H : CH} {a : Addr} {c : CObj} (h : H a = some c) : H a ≠ none := by rw [h]; simp
theorem at_ne {H : CH} {a b : Addr} {c : CObj} {x : Option CObj} (hn : b ≠ a) (h : H b = x) : H.set a c b = x := (CH.set_ne hn).trans h
theorem szR {f : Nat → V} {M : Nat} (h : M ≤ 2 ^ 10) : ((List.range M).map f).length ≤ sizeLine := by
  rw [List.length_map, List.length_range]; exact Nat.le_trans h (by decide)
theorem szM {α : Type} {f : α → V} {l : List α} (h : l.length ≤ 2 ^ 10) : (l.map f).length ≤ sizeLine := by
  rw [List.length_map]; exact Nat.le_trans h (by decide)
theorem ltR {f : Nat → V} {M j : Nat} (h : j < M) : ((j : Nat) : Int) < ((List.range M).map f).length := by
  rw [List.length_map, List.length_range]; exact Int.ofNat_lt.mpr h
theorem ne_out {H : CH} {b c : Addr} (hb : H b ≠ none) (hc : H c = none) : b ≠ c := fun e => hb (by rw [e]; exact hc)
theorem seq_rng12 {C : Cx} {A : Around} {H : CH} {a n : Nat} (hA : A.handled = none) (hn : a + n < 2 ^ 62) : SeqOf C A (.rng a ((a + n : Nat) : Int) 1) H (rangeInts a 1 n) (fun _ => True) :=
  seq_rng hA (small_one (by (first | lia | omega)) (by (first | lia | omega)) (by (first | lia | omega)) (by (first | lia | omega))) (by rw [rangeSize_one]; split <;> (first | lia | omega))
theorem seq_from1 {C : Cx} {A : Around} {H : CH} {n : Nat} (hA : A.handled = none) (hn : n < 2 ^ 60) : SeqOf C A (.rng 1 n 1) H ((List.range (n - 1)).map fun i => V.int (((1 : Nat) : Int) + (i : Nat) * 1)) (fun _ => True) := by
  cases n with
  | zero => exact seq_rng (n := 0) hA (by decide) (by decide)
  | succ k =>
    rw [show k + 1 = 1 + k from Nat.add_comm .., Nat.add_sub_cancel_left]
    exact seq_rng12 (a := 1) (n := k) hA (by (first | lia | omega))
theorem dr_prs {C : Cx} {H : CH} {l : List (Int × Int)} : DRs C H (l.map pv) (l.map fun p => Dat.tuple [.int p.1, .int p.2]) :=
  DRs.map fun p _ => .tup (.cons (.int _) (.cons (.int _) .nil))
theorem prs_ok {l : List (Int × Int)} : kqdOk 8 (.list (l.map fun p => Dat.tuple [.int p.1, .int p.2])) = true := by
  show ((l.map fun p => Dat.tuple [.int p.1, .int p.2]).all (kqdOk 7)) = true
  rw [List.all_map, List.all_eq_true]
  intro p _
  rfl
/-- a heap being emptied -/
structure EI (ps : List (Int × Int)) (i : Nat) (qs r : List (Int × Int)) : Prop where
  perm : (qs ++ r).Perm ps
  len : qs.length = i
  hp : IsHeap plt r
  srt : qs.Pairwise fun a b => plt b a = false
  low : ∀ a ∈ qs, ∀ y ∈ r, plt y a = false
theorem EI.step {ps : List (Int × Int)} {i : Nat} {qs r r' : List (Int × Int)} {a : Int × Int} (E : EI ps i qs (a :: r)) (hp : r'.Perm r) (hh : IsHeap plt r') : EI ps (i + 1) (qs ++ [a]) r' := by
  refine ⟨?_, by simp [E.len], hh, ?_, fun x hx y hy => ?_⟩
  · rw [List.append_assoc]
    exact ((hp.cons a).append_left qs).trans E.perm
  · rw [List.pairwise_append]
    exact ⟨E.srt, List.pairwise_singleton .., fun x hx y hy => by rw [List.mem_singleton.mp hy]; exact E.low x hx a List.mem_cons_self⟩
  · rcases List.mem_append.mp hx with h | h
    · exact E.low x h y (List.mem_cons_of_mem _ (hp.mem_iff.mp hy))
    · rw [List.mem_singleton.mp h]
      exact heap_root plt_ok E.hp y (List.mem_cons_of_mem _ (hp.mem_iff.mp hy))
section
variable {C : Cx} {A : Around} {m : Loc} {H : CH} {s : Shared} {mg mb : Str → Option Value} {P : Params}
theorem CV_lenM {α : Type} {l : Addr} {f : α → V} {xs : List α} {Q : V → Loc → CH → Prop} (hl : LAt C H l (xs.map f)) (hsz : (xs.map f).length ≤ sizeLine) (h : Q (.int xs.length) m H) : CV C A (.con (.builtin "len")) [.ref l] [] m H Q :=
  CV_len hl hsz (by rw [List.length_map]; exact h)
theorem O2_pow2 {k : Nat} {Q : V → Loc → CH → Prop} (hk : k ≤ 10) (h : Q (.int ((2 ^ k : Nat) : Int)) m H) : O2 C A (binaryOp .Pow) (.int 2) (.int (k : Nat)) m H Q := by
  refine O2_pow (Int.natCast_nonneg _) ?_ ?_
  · have : Builtin.Int.intBits 2 = 2 := by decide
    rw [this]; (first | lia | omega)
  · rw [Int.toNat_natCast]; push_cast at h; exact h
theorem spec_pop {h : Addr} {a : Int × Int} {r : List (Int × Int)} (B : Bs C.h₀ (KK P) mg mb) {n : Nat} (hA : AOK C A (n + 3)) (hh : H h = some (.list ((a :: r).map pv))) (hsz : r.length + 1 ≤ sizeLine) (hp : IsHeap plt (a :: r)) :
    CALL C A (.con (.ref a_heappop)) [.ref h] [] H fun v H' => v = pv a ∧ ∃ r', H' = H.set h (.list (r'.map pv)) ∧ r'.Perm r ∧ IsHeap plt r' := by
  rcases List.eq_nil_or_concat r with rfl | ⟨ps, x, rfl⟩
  · refine (spec_heappop1 B hA hh).mono ?_
    rintro v H' ⟨rfl, rfl⟩
    exact ⟨rfl, [], rfl, .refl _, fun k h0 hk => by simp at hk⟩
  · rw [List.concat_eq_append] at *
    refine (spec_heappop B hA hh (by simp at hsz; (first | lia | omega))).mono ?_
    rintro v H' ⟨rfl, rfl⟩
    obtain ⟨h1, h2⟩ := pop_ok plt_ok (a := a) (x := x) (l := ps) hp
    exact ⟨rfl, _, rfl, h2.trans (List.perm_append_comm (l₁ := [x]) (l₂ := ps)), h1⟩
theorem spec_push {h : Addr} {x : Int × Int} {r : List (Int × Int)} (B : Bs C.h₀ (KK P) mg mb) {n : Nat} (hA : AOK C A (n + 2)) (hh : H h = some (.list (r.map pv))) (hsz : r.length + 1 ≤ sizeLine) (hp : IsHeap plt r) :
    CALL C A (.con (.ref a_heappush)) [.ref h, pv x] [] H fun v H' => v = V.none ∧ ∃ r', H' = H.set h (.list (r'.map pv)) ∧ r'.Perm (x :: r) ∧ IsHeap plt r' := by
  refine (spec_heappush B hA hh hsz).mono ?_
  rintro v H' ⟨rfl, rfl⟩
  exact ⟨rfl, _, rfl, push_perm x r, push_heap plt_ok x r hp⟩
theorem spec_heappop0 {h : Addr} (B : Bs C.h₀ (KK P) mg mb) {n : Nat} (hA : AOK C A (n + 3)) (hh : H h = some (.list [])) : CALLX C A (.con (.ref a_heappop)) [.ref h] H "IndexError" (fun H' => H' = H) := by
  refine CALLX_K B (by with_unfolding_all rfl) (by with_unfolding_all rfl) hA .pos1 (by with_unfolding_all rfl) rfl fun L hL hL0 hA' => ?_
  refine EXX_cons (ESX_assign (EVX_meth ?_))
  repeat walk_at "x"
  refine GM_list (.own hh) F.slot_list_pop F.type_list_pop ?_
  repeat walk_at "x"
  exact ⟨KP_built, CVX_pop_empty hA'.handled hh rfl⟩
noncomputable def EmV (H : CH) (h : Addr) (ps : List (Int × Int)) (v : V) (H' : CH) : Prop := ∃ (b : Addr) (qs : List (Int × Int)), v = .ref b ∧ H b = none ∧ H' b = some (.list (qs.map pv)) ∧ H' h = some (.list []) ∧ qs.Perm ps ∧ (qs.Pairwise fun a b => plt b a = false) ∧ ∀ c, H c ≠ none → c ≠ h → H' c = H c
noncomputable def EmJ (H : CH) (h b : Addr) (ps : List (Int × Int)) (i : Nat) (m' : Loc) (H' : CH) : Prop := m' = ([("parts", .ref b)] : Loc) ∧ ∃ qs r, EI ps i qs r ∧ H' b = some (.list (qs.map pv)) ∧ H' h = some (.list (r.map pv)) ∧ ∀ c, H c ≠ none → c ≠ h → H' c = H c
set_option maxHeartbeats 4000000 in
theorem spec_emptied {h : Addr} {ps : List (Int × Int)} (B : Bs C.h₀ (KK P) mg mb) {n : Nat} (hA : AOK C A (n + 5)) (hh : H h = some (.list (ps.map pv))) (hsz : ps.length ≤ 20) (hp : IsHeap plt ps) :
    CALL C A (.con (.ref a_emptied)) [.ref h] [] H (EmV H h ps) := by
  have h20 : 100 < sizeLine := by decide
  refine CALL_cells B (by with_unfolding_all rfl) (by with_unfolding_all rfl) hA rfl bz1 (by intro L; simp [cellsFrom]) (by with_unfolding_all rfl) fun L hL hA' => ?_
  refine (show EX _ _ _ [] (H.set (L + 1) (.cell (some (.ref h)))) _ from ?_)
  have hL1 := (hL (L + 1) (Nat.le_succ L)).1
  generalize hHc : H.set (L + 1) (.cell (some (.ref h))) = Hc
  have kc : ∀ b, H b ≠ none → Hc b = H b := fun b hb => by rw [← hHc, CH.set_ne (ne_out hb hL1)]
  have hc1 : Hc (L + 1) = some (.cell (some (.ref h))) := by rw [← hHc, CH.set_same]
  have hch : Hc h = some (.list (ps.map pv)) := (kc h (sn hh)).trans hh
  have hne : L + 1 ≠ h := fun e => by rw [← e, hL1] at hh; cases hh
  repeat walk_at "x"
  refine EV_list ?_
  repeat walk_at "x"
  refine ⟨by decide, fun b hb => ?_⟩
  repeat walk_at "x"
  have hbh : h ≠ b := fun e => by rw [← e, hch] at hb; cases hb
  refine EX_mid (st := .For _ _ _ _ _) (EmJ Hc h b ps ps.length) (ES_for' ?_) fun m₁ H₁ hM => ?_
  · repeat walk_at "x"
    refine EV_b B g_range b_range ?_
    repeat walk_at "x"
    refine EV_b B g_len b_len ?_
    repeat walk_at "x"
    refine EV_cell (c := L + 1) (by with_unfolding_all rfl) (at_ne (fun e => by rw [← e, hc1] at hb; cases hb) hc1) ?_
    repeat walk_at "x"
    refine ⟨KP_built, CV_lenM (.own (at_ne hbh hch)) (by rw [List.length_map]; (first | lia | omega)) ?_⟩
    repeat walk_at "x"
    refine ⟨KP_type, CV_range1 ?_⟩
    refine ⟨rangeInts 0 1 ps.length, (fun _ => True), [("parts", .ref b)], EmJ Hc h b ps, seq_rng1 hA'.handled (by (first | lia | omega)), .cons rfl .nil,
      ⟨rfl, [], ps, ⟨.refl _, rfl, hp, .nil, by intro _ h; cases h⟩, CH.set_same, at_ne hbh hch, fun c hc _ => by rw [CH.set_ne (ne_out hc hb)]⟩, ?_⟩
    rintro i m' H' ⟨rfl, qs, r, E, eb, eh, ek⟩
    refine ⟨trivial, fun y hy => ?_, fun hi => ?_⟩
    · rw [rangeInts_get] at hy
      by_cases hil : i < ps.length
      · have hlr : qs.length + r.length = ps.length := by have := E.perm.length_eq; simpa using this
        have hql := E.len
        obtain ⟨a, r0, rfl⟩ : ∃ a r0, r = a :: r0 := by
          cases r with
          | nil => simp at hlr; (first | lia | omega)
          | cons a r0 => exact ⟨a, r0, rfl⟩
        have hcL : H' (L + 1) = some (.cell (some (.ref h))) := (ek (L + 1) (sn hc1) hne).trans hc1
        rw [List.length_cons] at hlr
        repeat walk_at "x"
        refine GM_list (.own eb) F.slot_list_append F.type_list_append ?_
        repeat walk_at "x"
        refine EV_g B g_heappop ?_
        repeat walk_at "x"
        refine EV_cell (c := L + 1) (by with_unfolding_all rfl) hcL ?_
        repeat walk_at "x"
        refine ⟨KP_K B (by with_unfolding_all rfl), CV_of ((spec_pop (by exact B) (n := n + 1) hA' eh (by (first | lia | omega)) E.hp).mono ?_)⟩
        rintro v H'' ⟨rfl, r1, rfl, hperm, hhp⟩
        repeat walk_at "x"
        refine ⟨KP_built, CV_append (at_ne (Ne.symm hbh) eb) (by rw [List.length_map]; (first | lia | omega)) ?_⟩
        have E2 := E.step hperm hhp
        have f1 : (((H'.set h (.list (r1.map pv))).set b (.list (qs.map pv ++ [pv a]))) : CH) b = some (.list ((qs ++ [a]).map pv)) := by rw [CH.set_same]; simp
        have f2 : ((H'.set h (.list (r1.map pv))).set b (.list (qs.map pv ++ [pv a]))) h = some (.list (r1.map pv)) := by rw [CH.set_ne hbh, CH.set_same]
        have f3 : ∀ c, Hc c ≠ none → c ≠ h → ((H'.set h (.list (r1.map pv))).set b (.list (qs.map pv ++ [pv a]))) c = Hc c := fun c hc hn => by
          rw [CH.set_ne (ne_out hc hb), CH.set_ne hn]; exact ek c hc hn
        have hr1 : r1.length ≤ 20 := by have := hperm.length_eq; (first | lia | omega)
        clear eb eh ek hcL hperm hhp E
        generalize ((H'.set h (.list (r1.map pv))).set b (.list (qs.map pv ++ [pv a]))) = H2 at *
        have hcL : H2 (L + 1) = some (.cell (some (.ref h))) := (f3 (L + 1) (sn hc1) hne).trans hc1
        repeat walk_at "x"
        walk_at "xi"
        refine EV_lc ?_
        repeat walk_at "x"
        refine EV_b B g_range b_range ?_
        repeat walk_at "x"
        refine EV_b B g_len b_len ?_
        repeat walk_at "x"
        refine EV_cell (c := L + 1) (by with_unfolding_all rfl) hcL ?_
        repeat walk_at "x"
        refine ⟨KP_built, CV_lenM (.own f2) (by rw [List.length_map]; (first | lia | omega)) ?_⟩
        repeat walk_at "x"
        refine ⟨KP_type, CV_range2 ?_⟩
        refine LC_pure (List.range (r1.length - 1)) _ (fun _ => false) (fun _ => V.none) (ok := fun _ => True) (seq_from1 hA'.handled (by (first | lia | omega))) trivial (by rw [List.length_range]; (first | lia | omega)) (fun k hk LC hLC => ?_) fun D hD hD0 => ?_
        · rw [List.mem_range] at hk
          have g1 : r1[k + 1]? = some r1[k + 1] := List.getElem?_eq_getElem (by (first | lia | omega))
          have hpk : par (k + 1) < r1.length := Nat.lt_trans (par_lt (Nat.succ_pos k)) (by (first | lia | omega))
          have g2 : r1[par (k + 1)]? = some r1[par (k + 1)] := List.getElem?_eq_getElem hpk
          have hh0 := E2.hp (k + 1) (Nat.succ_pos k) (by (first | lia | omega))
          repeat walk_at "x"
          refine EV_cell (c := L + 1) (by with_unfolding_all rfl) hcL ?_
          repeat walk_at "x"
          refine sub_list (v := pv r1[k + 1]) (.own f2) (by (first | lia | omega)) (by rw [show (((1 : Nat) : Int) + (k : Int) * 1).toNat = k + 1 from by (first | lia | omega), List.getElem?_map, g1]; rfl) (by rw [List.length_map]; (first | lia | omega)) ?_
          repeat walk_at "x"
          refine EV_cell (c := L + 1) (by with_unfolding_all rfl) hcL ?_
          repeat walk_at "x"
          refine O2_div (by decide) (by decide) ?_
          refine sub_list (v := pv r1[par (k + 1)]) (.own f2) (by rw [fdiv_two (by (first | lia | omega)) (by decide)]; (first | lia | omega)) (by rw [fdiv_two (by (first | lia | omega)) (by decide), show ((((1 : Nat) : Int) + (k : Int) * 1 - 1) / 2).toNat = par (k + 1) from by unfold par; (first | lia | omega), List.getElem?_map, g2]; rfl) (by rw [List.length_map]; (first | lia | omega)) ?_
          refine O2_ltp hA'.line ?_
          refine ⟨_, rfl, fun q => ?_, fun _ => ⟨rfl, rfl, fun q => by cases q⟩⟩
          exfalso
          have : plt r1[k + 1] r1[par (k + 1)] = true := q
          rw [hh0] at this; cases this
        · have hnil : (((List.range (r1.length - 1)).filter fun _ => false).map fun _ => V.none) = [] := by simp
          rw [hnil]
          repeat walk_at "x"
          refine EV_list ?_
          repeat walk_at "x"
          refine ⟨by decide, fun D2 hD2 => ?_⟩
          have d12 : D ≠ D2 := fun e => by rw [e, CH.set_same] at hD2; cases hD2
          refine O2_ned (d := .list []) (e := .list []) (.list (.own (by rw [CH.set_ne d12, CH.set_same])) .nil) (.list (.own CH.set_same) .nil) (by rfl) (by rfl) (by have := hA'.units; (first | lia | omega)) fun b0 hb0 => ?_
          have hb0' : b0 = false := by
            cases b0 with
            | false => rfl
            | true => exact absurd rfl (hb0.mp rfl)
          subst hb0'
          refine ⟨_, rfl, fun q => (by cases q), fun _ => ?_⟩
          repeat walk_at "x"
          have hD2' : H2 D2 = none := by rw [CH.set_ne (Ne.symm d12)] at hD2; exact hD2
          have g : ∀ c, H2 c ≠ none → ((H2.set D (.list [])).set D2 (.list [])) c = H2 c := fun c hc => by rw [CH.set_ne (ne_out hc hD2'), CH.set_ne (ne_out hc hD)]
          refine ⟨_, .cons rfl .nil, rfl, qs ++ [a], r1, E2, (g b (sn f1)).trans f1, (g h (sn f2)).trans f2, fun c hc hn => ?_⟩
          have h3 := f3 c hc hn
          exact (g c (by rw [h3]; exact hc)).trans h3
      · rw [if_neg hil] at hy; cases hy
    · have : i = ps.length := by rw [hi]; unfold rangeInts; simp
      subst this
      repeat walk_at "x"
      exact ⟨rfl, qs, r, E, eb, eh, ek⟩
  · obtain ⟨rfl, qs, r, E, eb, eh, ek⟩ := hM
    have hlr : qs.length + r.length = ps.length := by have := E.perm.length_eq; simpa using this
    have hr0 : r = [] := List.eq_nil_of_length_eq_zero (by have := E.len; (first | lia | omega))
    subst hr0
    have hcL : H₁ (L + 1) = some (.cell (some (.ref h))) := (ek (L + 1) (sn hc1) hne).trans hc1
    have hq20 : qs.length ≤ 20 := by have := E.len; (first | lia | omega)
    have hpm : qs.Perm ps := by have := E.perm; rwa [List.append_nil] at this
    have hHb : H b = none := by
      cases q : H b with
      | none => rfl
      | some c => rw [kc b (sn q), q] at hb; cases hb
    have kk : ∀ c, H c ≠ none → c ≠ h → H₁ c = H c := fun c hc hn => (ek c (by rw [kc c hc]; exact hc) hn).trans (kc c hc)
    refine EX_cons (st := .Try _ _ _ _ _) (ES_try (T := "IndexError") (cls := "IndexError") (R := fun m' H' => m' = ([("parts", .ref b)] : Loc) ∧ H' = H₁) hA'.frames rfl (by kernel_rfl) (by kernel_rfl) (by kernel_rfl) (EXX_cons (ESX_expr (EVX_call ?_))) ?_)
    · refine EV_g B g_heappop ?_
      repeat walk_at "x"
      refine EV_cell (c := L + 1) (by with_unfolding_all rfl) hcL ?_
      repeat walk_at "x"
      exact ⟨KP_K B (by with_unfolding_all rfl), CVX_of (spec_heappop0 (by exact B) (n := n + 1) hA' eh)⟩
    · rintro _ _ h' ⟨rfl, rfl⟩
      refine EV_b (by exact B) g_ie b_ie ?_
      refine ⟨rfl, ?_⟩
      refine EX_cons (st := .Return _ _) (ES_ret (EV_if ?_))
      repeat walk_at "x"
      refine EV_b (by exact B) g_sorted b_sorted ?_
      repeat walk_at "x"
      refine ⟨KP_built, CV_sorted_pairs (.own eb) (by (first | lia | omega)) (fun k p q hp hq => ?_) fun D hD hD0 => ?_⟩
      · have hlt : k + 1 < qs.length := (List.getElem?_eq_some_iff.mp hq).1
        have := List.pairwise_iff_getElem.mp E.srt k (k + 1) (by (first | lia | omega)) hlt (by (first | lia | omega))
        rw [List.getElem?_eq_getElem hlt] at hq
        rw [List.getElem?_eq_getElem (by (first | lia | omega))] at hp
        cases hq; cases hp
        exact of_decide_eq_false this
      · have hbD : b ≠ D := fun e => by rw [← e, eb] at hD; cases hD
        refine O2_eqd (.list (.own (at_ne hbD eb)) dr_prs) (.list (.own CH.set_same) dr_prs) prs_ok prs_ok (Nat.lt_of_le_of_lt (Nat.le_trans (Nat.add_le_add_left (by decide : 10 ≤ 40) _) (Nat.add_le_add_right (Nat.le_add_right _ _) 40)) hA'.units) fun b0 hb0 => ?_
        have hb1 : b0 = true := hb0.mpr rfl
        subst hb1
        refine ⟨_, rfl, fun _ => ?_, fun q => (by cases q)⟩
        repeat walk_at "x"
        refine ⟨b, qs, rfl, hHb, at_ne hbD eb, at_ne (fun e => by rw [← e, eh] at hD; cases hD) eh, hpm, E.srt, fun c hc hn => ?_⟩
        have h3 := kk c hc hn
        rw [CH.set_ne (ne_out (by rw [h3]; exact hc) hD)]; exact h3
end
end
section
structure Mid (T : TS) (near : Int → List Int) (k : Int) (n : Nat) : Prop where
  np : ∀ x ∈ T.keys, T.np x = (near x).length + (if x = k then n else 0)
  sc : ∀ p ∈ T.keys, ∀ x, (T.sc p).count x = (near x).count p
  sub : ∀ x, ∀ p ∈ near x, p ∈ T.keys
  out : ∀ x, x ∉ T.keys → near x = []
  nodup : T.keys.Nodup
  pass : T.pass = 0
  fin : T.fin = 0
  ready : T.ready = none
noncomputable abbrev Built (T : TS) (near : Int → List Int) : Prop := ∀ k, Mid T near k 0
theorem Mid.built {T : TS} {near : Int → List Int} {k : Int} (M : Mid T near k 0) : Built T near := fun k' => ⟨fun x hx => by have := M.np x hx; simpa using this, M.sc, M.sub, M.out, M.nodup, M.pass, M.fin, M.ready⟩
theorem Built.new : Built TS.new (fun _ => []) := fun k => ⟨(by intro _ h; cases h), (by intro _ h; cases h), (by intro _ _ h; cases h), fun _ _ => rfl, .nil, rfl, rfl, rfl⟩
theorem Mid.touch {T : TS} {near : Int → List Int} {k : Int} {n : Nat} (M : Mid T near k n) (hk : n ≠ 0 → k ∈ T.keys) (p : Int) : Mid (T.touch p) near k n := by
  unfold TS.touch
  by_cases h : p ∈ T.keys
  · rw [if_pos h]; exact M
  · rw [if_neg h]
    have hne : ∀ x ∈ T.keys, x ≠ p := fun x hx e => h (e ▸ hx)
    refine ⟨fun x hx => ?_, fun q hq x => ?_, fun x q hq => List.mem_append_left _ (M.sub x q hq), fun x hx => M.out x fun q => hx (List.mem_append_left _ q), ?_, M.pass, M.fin, M.ready⟩
    · show upd T.np p 0 x = _
      rcases List.mem_append.mp hx with hx | hx
      · rw [upd_ne (hne x hx)]; exact M.np x hx
      · rw [List.mem_singleton.mp hx, upd_same, M.out p h]
        by_cases e : p = k
        · by_cases e0 : n = 0
          · rw [e0]; simp
          · exact absurd (hk e0) (e ▸ h)
        · rw [if_neg e]; rfl
    · show (upd T.sc p [] q).count x = _
      rcases List.mem_append.mp hq with hq | hq
      · rw [upd_ne (hne q hq)]; exact M.sc q hq x
      · rw [List.mem_singleton.mp hq, upd_same]
        exact (List.count_eq_zero.mpr fun hp => h (M.sub x p hp)).symm
    · rw [List.nodup_append]
      exact ⟨M.nodup, by simp, fun x hx y hy => by rw [List.mem_singleton.mp hy]; exact hne x hx⟩
theorem touch_keep {T : TS} {p x : Int} (h : x ∈ T.keys) : x ∈ (T.touch p).keys := by
  unfold TS.touch; split
  · exact h
  · exact List.mem_append_left _ h
theorem touch_own {T : TS} {p : Int} : p ∈ (T.touch p).keys := by
  unfold TS.touch; split
  · assumption
  · simp
theorem Mid.link {T : TS} {near : Int → List Int} {k p : Int} {n : Nat} (M : Mid T near k (n + 1)) (hk : k ∈ T.keys) (hp : p ∈ T.keys) : Mid (T.link p k) (upd near k (near k ++ [p])) k n := by
  refine ⟨fun x hx => ?_, fun q hq x => ?_, fun x q hq => ?_, fun x hx => ?_, M.nodup, M.pass, M.fin, M.ready⟩
  · show T.np x = _
    rw [M.np x hx]
    by_cases e : x = k
    · subst e; rw [upd_same]; simp; (first | lia | omega)
    · rw [upd_ne e, if_neg e, if_neg e]
  · show (upd T.sc p (T.sc p ++ [k]) q).count x = _
    by_cases e : q = p
    · subst e
      rw [upd_same, List.count_append, M.sc q hq x]
      by_cases e2 : x = k
      · subst e2; rw [upd_same, List.count_append]; simp
      · rw [upd_ne e2, List.count_singleton]
        simp; exact fun h => e2 h.symm
    · rw [upd_ne e, M.sc q hq x]
      by_cases e2 : x = k
      · subst e2; rw [upd_same, List.count_append, List.count_singleton]; simp; exact fun h => e h.symm
      · rw [upd_ne e2]
  · by_cases e2 : x = k
    · subst e2; rw [upd_same] at hq
      rcases List.mem_append.mp hq with hq | hq
      · exact M.sub x q hq
      · rw [List.mem_singleton.mp hq]; exact hp
    · rw [upd_ne e2] at hq; exact M.sub x q hq
  · have e2 : x ≠ k := fun e => hx (e ▸ hk)
    rw [upd_ne e2]; exact M.out x hx
theorem upd_upd {α : Type} {f : Int → α} {k : Int} {u v : α} : upd (upd f k u) k v = upd f k v := by
  funext x; unfold upd; split <;> rfl
theorem upd_self {α : Type} {f : Int → α} {k : Int} : upd f k (f k) = f := by
  funext x; unfold upd; split
  · rename_i h; rw [h]
  · rfl
theorem Mid.fold {k : Int} : ∀ {ps : List Int} {T : TS} {near : Int → List Int}, Mid T near k ps.length → k ∈ T.keys → Mid (ps.foldl (fun T p => (T.touch p).link p k) T) (upd near k (near k ++ ps)) k 0 ∧ k ∈ (ps.foldl (fun T p => (T.touch p).link p k) T).keys ∧ ∀ x ∈ T.keys, x ∈ (ps.foldl (fun T p => (T.touch p).link p k) T).keys
  | [], T, near, M, hk => by rw [List.append_nil, upd_self]; exact ⟨M, hk, fun x h => h⟩
  | p :: ps, T, near, M, hk => by
    have M1 := (M.touch (fun _ => hk) p).link (touch_keep hk) touch_own
    have := Mid.fold (ps := ps) M1 (touch_keep hk)
    rw [upd_upd, upd_same, List.append_assoc] at this
    exact ⟨this.1, this.2.1, fun x hx => this.2.2 x (touch_keep hx)⟩
theorem Built.add {T : TS} {near : Int → List Int} (M : Built T near) (k : Int) (ps : List Int) : Built (T.add k ps) (upd near k (near k ++ ps)) ∧ k ∈ (T.add k ps).keys ∧ ∀ x ∈ T.keys, x ∈ (T.add k ps).keys := by
  have M1 := (M k).touch (fun h => absurd rfl h) k
  have hk : k ∈ (T.touch k).keys := touch_own
  have M2 : Mid ((T.touch k).setNp k ((T.touch k).np k + ps.length)) near k ps.length := by
    refine ⟨fun x hx => ?_, M1.sc, M1.sub, M1.out, M1.nodup, M1.pass, M1.fin, M1.ready⟩
    show upd _ k _ x = _
    by_cases e : x = k
    · subst e; rw [upd_same, M1.np x hx]; simp
    · rw [upd_ne e, M1.np x hx, if_neg e, if_neg e]
  have := Mid.fold (ps := ps) M2 hk
  exact ⟨this.1.built, this.2.1, fun x hx => this.2.2 x (touch_keep hx)⟩
structure Run (T : TS) (near : Int → List Int) (dn out ready : List Int) : Prop where
  nodup : T.keys.Nodup
  sc : ∀ p ∈ T.keys, ∀ x, (T.sc p).count x = (near x).count p
  sub : ∀ x, ∀ p ∈ near x, p ∈ T.keys
  ink : ∀ x, x ∉ T.keys → near x = []
  rdy : T.ready = some ready
  np : ∀ x ∈ T.keys, x ∉ dn → x ∉ out → T.np x = ((near x).countP fun p => decide (p ∉ dn))
  npo : ∀ x ∈ out, T.np x = -1
  rmem : ∀ x, x ∈ ready ↔ x ∈ T.keys ∧ x ∉ dn ∧ x ∉ out ∧ ∀ p ∈ near x, p ∈ dn
  rnd : ready.Nodup
  ond : out.Nodup
  dnd : dn.Nodup
  oks : ∀ x ∈ out, x ∈ T.keys
  dks : ∀ x ∈ dn, x ∈ T.keys
  disj : ∀ x ∈ out, x ∉ dn
  odep : ∀ x ∈ out, ∀ p ∈ near x, p ∈ dn
  ddep : ∀ x ∈ dn, ∀ p ∈ near x, p ∈ dn
  pass : T.pass = dn.length + out.length
  fin : T.fin = dn.length
theorem Run.start {T : TS} {near : Int → List Int} (B : Built T near) : Run T.prep near [] [] (T.keys.filter fun k => T.np k == 0) := by
  have M := B 0
  have hnp : ∀ x ∈ T.keys, T.np x = (near x).length := fun x hx => by have := M.np x hx; simpa using this
  refine ⟨M.nodup, M.sc, M.sub, M.out, rfl, fun x hx _ _ => ?_, (by intro _ h; cases h), fun x => ?_, M.nodup.filter _, .nil, .nil, (by intro _ h; cases h), (by intro _ h; cases h), (by intro _ h; cases h), (by intro _ h; cases h), (by intro _ h; cases h), M.pass, M.fin⟩
  · show T.np x = _
    rw [hnp x hx]; simp
  · rw [List.mem_filter]
    constructor
    · rintro ⟨h1, h2⟩
      refine ⟨h1, by simp, by simp, fun p hp => ?_⟩
      rw [hnp x h1] at h2
      have : near x = [] := by simpa using h2
      rw [this] at hp; cases hp
    · rintro ⟨h1, _, _, h4⟩
      refine ⟨h1, ?_⟩
      have : near x = [] := List.eq_nil_iff_forall_not_mem.mpr fun p hp => by cases h4 p hp
      rw [hnp x h1, this]; rfl
theorem out_np {ks : List Int} : ∀ {T : TS} {x : Int}, (T.out ks).np x = if x ∈ ks then -1 else T.np x := by
  induction ks with
  | nil => intro T x; simp [TS.out]
  | cons k r ih =>
    intro T x
    show ((T.setNp k (-1)).out r).np x = _
    rw [ih]
    by_cases h : x ∈ r
    · rw [if_pos h, if_pos (List.mem_cons_of_mem _ h)]
    · rw [if_neg h]
      show upd T.np k (-1) x = _
      by_cases e : x = k
      · subst e; rw [upd_same, if_pos List.mem_cons_self]
      · rw [upd_ne e, if_neg (by simp [e, h])]
section
variable {T : TS} {near : Int → List Int} {dn out ready : List Int}
theorem Run.get (R : Run T near dn out ready) : Run (T.getReady ready) near dn (out ++ ready) [] := by
  have e := @TS.out_eq ready T
  have hnp : ∀ x, (T.getReady ready).np x = if x ∈ ready then -1 else T.np x := fun x => out_np
  have hk : (T.getReady ready).keys = T.keys := e.1
  have hs : (T.getReady ready).sc = T.sc := e.2.2.2.2
  refine ⟨by rw [hk]; exact R.nodup, by rw [hk, hs]; exact R.sc, by rw [hk]; exact R.sub, by rw [hk]; exact R.ink, rfl, fun x hx h1 h2 => ?_, fun x hx => ?_, fun x => ?_, .nil, ?_, R.dnd, fun x hx => ?_, by rw [hk]; exact R.dks, fun x hx => ?_, fun x hx => ?_, R.ddep, ?_, ?_⟩
  · rw [hk] at hx
    rw [List.mem_append, not_or] at h2
    rw [hnp, if_neg h2.2]; exact R.np x hx h1 h2.1
  · rw [hnp]
    by_cases h : x ∈ ready
    · rw [if_pos h]
    · rw [if_neg h]; exact R.npo x ((List.mem_append.mp hx).resolve_right h)
  · rw [hk]
    refine ⟨fun h => (by cases h), fun ⟨h1, h2, h3, h4⟩ => ?_⟩
    rw [List.mem_append, not_or] at h3
    exact absurd ((R.rmem x).mpr ⟨h1, h2, h3.1, h4⟩) h3.2
  · rw [List.nodup_append]
    exact ⟨R.ond, R.rnd, fun x hx y hy e => ((R.rmem y).mp hy).2.2.1 (e ▸ hx)⟩
  · rw [hk]
    rcases List.mem_append.mp hx with h | h
    · exact R.oks x h
    · exact ((R.rmem x).mp h).1
  · rcases List.mem_append.mp hx with h | h
    · exact R.disj x h
    · exact ((R.rmem x).mp h).2.1
  · rcases List.mem_append.mp hx with h | h
    · exact R.odep x h
    · exact ((R.rmem x).mp h).2.2.2
  · show T.pass + _ = _
    rw [R.pass, List.length_append]; (first | lia | omega)
  · show (T.out ready).fin = _
    rw [e.2.2.2.1]; exact R.fin
theorem relN : ∀ {l : List Int} {T : TS} {r : List Int}, T.ready = some r → (∀ x ∈ l, (l.count x : Int) ≤ T.np x) → (∀ x ∈ l, x ∉ r) → r.Nodup →
    ∃ r', (l.foldl TS.rel T).ready = some r' ∧ (∀ x, x ∈ r' ↔ x ∈ r ∨ (x ∈ l ∧ T.np x = l.count x)) ∧ r'.Nodup ∧ ∀ x, (l.foldl TS.rel T).np x = T.np x - l.count x
  | [], T, r, h, _, _, hn => ⟨r, h, fun x => by simp, hn, fun x => by simp⟩
  | y :: t, T, r, h, hc, hd, hn => by
    have hy := hc y List.mem_cons_self
    rw [List.count_cons_self] at hy
    have hnp : ∀ x, (T.rel y).np x = if x = y then T.np y - 1 else T.np x := fun x => by
      show upd T.np y _ x = _; unfold upd; rfl
    have hc' : ∀ x ∈ t, (t.count x : Int) ≤ (T.rel y).np x := fun x hx => by
      rw [hnp]
      by_cases e : x = y
      · subst e; rw [if_pos rfl]; (first | lia | omega)
      · rw [if_neg e]; have := hc x (List.mem_cons_of_mem _ hx); rw [List.count_cons_of_ne (fun q => e q.symm)] at this; exact this
    by_cases e0 : T.np y - 1 = 0
    · have hyt : y ∉ t := fun q => by have := List.count_pos_iff.mpr q; (first | lia | omega)
      have h1 : (T.rel y).ready = some (r ++ [y]) := by show (if _ then _ else _) = _; rw [if_pos e0, h]; rfl
      obtain ⟨r', a1, a2, a3, a4⟩ := relN (l := t) h1 hc' (fun x hx => by
        rw [List.mem_append, List.mem_singleton, not_or]; exact ⟨hd x (List.mem_cons_of_mem _ hx), fun e => hyt (e ▸ hx)⟩) (by
        rw [List.nodup_append]; exact ⟨hn, by simp, fun x hx z hz e => hd y List.mem_cons_self (by rw [← List.mem_singleton.mp hz, ← e]; exact hx)⟩)
      refine ⟨r', a1, fun x => ?_, a3, fun x => ?_⟩
      · rw [a2, hnp, List.mem_append, List.mem_singleton, List.mem_cons]
        by_cases e : x = y
        · subst e
          rw [List.count_cons_self, List.count_eq_zero.mpr hyt]
          have : T.np x = 1 := by (first | lia | omega)
          simp [this]
        · rw [if_neg e, List.count_cons_of_ne (fun q => e q.symm)]; simp [e]
      · show (t.foldl TS.rel (T.rel y)).np x = _
        rw [a4, hnp]
        by_cases e : x = y
        · subst e; rw [if_pos rfl, List.count_cons_self]; (first | lia | omega)
        · rw [if_neg e, List.count_cons_of_ne (fun q => e q.symm)]
    · have h1 : (T.rel y).ready = some r := by show (if _ then _ else _) = _; rw [if_neg e0, h]
      obtain ⟨r', a1, a2, a3, a4⟩ := relN (l := t) h1 hc' (fun x hx => hd x (List.mem_cons_of_mem _ hx)) hn
      refine ⟨r', a1, fun x => ?_, a3, fun x => ?_⟩
      · rw [a2, hnp, List.mem_cons]
        by_cases e : x = y
        · subst e
          rw [if_pos rfl, List.count_cons_self]
          have hxr := hd x List.mem_cons_self
          simp only [hxr, false_or, true_or, true_and]
          constructor
          · rintro ⟨_, h⟩; (first | lia | omega)
          · intro h
            have hp : 0 < t.count x := by (first | lia | omega)
            exact ⟨List.count_pos_iff.mp hp, by (first | lia | omega)⟩
        · rw [if_neg e, List.count_cons_of_ne (fun q => e q.symm)]; simp [e]
      · show (t.foldl TS.rel (T.rel y)).np x = _
        rw [a4, hnp]
        by_cases e : x = y
        · subst e; rw [if_pos rfl, List.count_cons_self]; (first | lia | omega)
        · rw [if_neg e, List.count_cons_of_ne (fun q => e q.symm)]
theorem countP_out {dn : List Int} {k : Int} (hk : k ∉ dn) : ∀ {l : List Int}, (l.countP fun p => decide (p ∉ dn)) = (l.countP fun p => decide (p ∉ k :: dn)) + l.count k
  | [] => rfl
  | a :: l => by
    have ih := countP_out hk (l := l)
    by_cases e : a = k
    · subst e; rw [List.countP_cons_of_pos (by simp [hk]), List.countP_cons_of_neg (by simp), List.count_cons_self]; (first | lia | omega)
    · by_cases h : a ∈ dn
      · rw [List.countP_cons_of_neg (by simp [h]), List.countP_cons_of_neg (by simp [h]), List.count_cons_of_ne e]; exact ih
      · rw [List.countP_cons_of_pos (by simp [h]), List.countP_cons_of_pos (by simp [h, e]), List.count_cons_of_ne e]; (first | lia | omega)
theorem Run.done (R : Run T near dn out ready) {k : Int} (hk : k ∈ out) : ∃ ready', Run (T.done1 k) near (k :: dn) (out.erase k) ready' := by
  have hkd := R.disj k hk
  have hkk := R.oks k hk
  have scmem : ∀ x, x ∈ T.sc k ↔ k ∈ near x := fun x => by
    have := R.sc k hkk x
    rw [← List.count_pos_iff, this, List.count_pos_iff]
  have hx1 : ∀ x ∈ T.sc k, x ∈ T.keys ∧ x ∉ dn ∧ x ∉ out ∧ x ≠ k := fun x hx => by
    have h := (scmem x).mp hx
    refine ⟨?_, fun q => hkd (R.ddep x q k h), fun q => hkd (R.odep x q k h), fun q => hkd (R.odep k hk k (q ▸ h))⟩
    apply Classical.byContradiction
    intro q
    rw [R.ink x q] at h; cases h
  have e := @done1_eq T k
  have hnp0 : ∀ x, x ≠ k → (T.setNp k (-2)).np x = T.np x := fun x hx => upd_ne hx
  obtain ⟨r', a1, a2, a3, a4⟩ := relN (l := T.sc k) (T := T.setNp k (-2)) (r := ready) R.rdy (fun x hx => by
    obtain ⟨h1, h2, h3, h4⟩ := hx1 x hx
    rw [hnp0 x h4, R.np x h1 h2 h3, R.sc k hkk x, countP_out hkd]; (first | lia | omega)) (fun x hx q => hkd (((R.rmem x).mp q).2.2.2 k ((scmem x).mp hx))) R.rnd
  have hk' : (T.done1 k).keys = T.keys := e.1
  have hs : (T.done1 k).sc = T.sc := e.2.2.2
  have hnp : ∀ x, (T.done1 k).np x = (T.setNp k (-2)).np x - (T.sc k).count x := a4
  have hmem : ∀ x, x ∈ out.erase k → x ∈ out ∧ x ≠ k := fun x hx => ⟨List.mem_of_mem_erase hx, fun e => by subst e; exact (List.Nodup.not_mem_erase R.ond) hx⟩
  refine ⟨r', by rw [hk']; exact R.nodup, by rw [hk', hs]; exact R.sc, by rw [hk']; exact R.sub, by rw [hk']; exact R.ink, a1, fun x hx h1 h2 => ?_, fun x hx => ?_, fun x => ?_, a3, R.ond.erase k, ?_, fun x hx => ?_, fun x hx => ?_, fun x hx => ?_, fun x hx p hp => ?_, fun x hx p hp => ?_, ?_, ?_⟩
  · rw [hk'] at hx
    rw [List.mem_cons, not_or] at h1
    have h2' : x ∉ out := fun q => h2 ((List.mem_erase_of_ne h1.1).mpr q)
    rw [hnp, hnp0 x h1.1, R.np x hx h1.2 h2', R.sc k hkk x, countP_out hkd]; (first | lia | omega)
  · obtain ⟨h1, h2⟩ := hmem x hx
    rw [hnp, hnp0 x h2, R.npo x h1, List.count_eq_zero.mpr (fun q => (hx1 x q).2.2.1 h1)]; rfl
  · rw [a2, hk', R.rmem]
    constructor
    · rintro (⟨h1, h2, h3, h4⟩ | ⟨h1, h2⟩)
      · have hxk : x ≠ k := fun q => h3 (q ▸ hk)
        exact ⟨h1, by rw [List.mem_cons, not_or]; exact ⟨hxk, h2⟩, fun q => h3 (List.mem_of_mem_erase q), fun p hp => List.mem_cons_of_mem _ (h4 p hp)⟩
      · obtain ⟨b1, b2, b3, b4⟩ := hx1 x h1
        refine ⟨b1, by rw [List.mem_cons, not_or]; exact ⟨b4, b2⟩, fun q => b3 (List.mem_of_mem_erase q), fun p hp => ?_⟩
        rw [hnp0 x b4, R.np x b1 b2 b3, R.sc k hkk x, countP_out hkd] at h2
        have h0 : (near x).countP (fun p => decide (p ∉ k :: dn)) = 0 := by (first | lia | omega)
        have := List.countP_eq_zero.mp h0 p hp
        exact Classical.byContradiction fun q => this (decide_eq_true q)
    · rintro ⟨h1, h2, h3, h4⟩
      rw [List.mem_cons, not_or] at h2
      have h3' : x ∉ out := fun q => h3 ((List.mem_erase_of_ne h2.1).mpr q)
      by_cases q : k ∈ near x
      · refine .inr ⟨(scmem x).mpr q, ?_⟩
        rw [hnp0 x h2.1, R.np x h1 h2.2 h3', R.sc k hkk x, countP_out hkd]
        have h0 : (near x).countP (fun p => decide (p ∉ k :: dn)) = 0 := List.countP_eq_zero.mpr fun p hp q => (of_decide_eq_true q) (h4 p hp)
        (first | lia | omega)
      · refine .inl ⟨h1, h2.2, h3', fun p hp => ?_⟩
        rcases List.mem_cons.mp (h4 p hp) with h | h
        · exact absurd (h ▸ hp) q
        · exact h
  · rw [List.nodup_cons]; exact ⟨hkd, R.dnd⟩
  · rw [hk']; exact R.oks x (hmem x hx).1
  · rw [hk']
    rcases List.mem_cons.mp hx with h | h
    · exact h ▸ hkk
    · exact R.dks x h
  · rw [List.mem_cons, not_or]; exact ⟨(hmem x hx).2, R.disj x (hmem x hx).1⟩
  · exact List.mem_cons_of_mem _ (R.odep x (hmem x hx).1 p hp)
  · rcases List.mem_cons.mp hx with h | h
    · subst h; exact List.mem_cons_of_mem _ (R.odep x hk p hp)
    · exact List.mem_cons_of_mem _ (R.ddep x h p hp)
  · rw [e.2.1, R.pass, List.length_cons, List.length_erase_of_mem hk]
    have := List.length_pos_of_mem hk; (first | lia | omega)
  · rw [e.2.2.1, R.fin, List.length_cons]; (first | lia | omega)
theorem Run.all (R : Run T near dn [] []) {rk : Int → Nat} (hrk : ∀ x ∈ T.keys, ∀ p ∈ near x, rk p < rk x) : ∀ x ∈ T.keys, x ∈ dn := by
  have : ∀ n x, rk x < n → x ∈ T.keys → x ∈ dn := by
    intro n
    induction n with
    | zero => intro x h; (first | lia | omega)
    | succ n ih =>
      intro x h hx
      apply Classical.byContradiction
      intro q
      have := (R.rmem x).mpr ⟨hx, q, by simp, fun p hp => ih p (by have := hrk x hx p hp; (first | lia | omega)) (R.sub x p hp)⟩
      cases this
  exact fun x hx => this (rk x + 1) x (Nat.lt_succ_self _) hx
end
end
section
noncomputable def addL (l : List (Int × List Int)) : TS := l.foldl (fun T p => T.add p.1 p.2) TS.new
noncomputable def nearL (l : List (Int × List Int)) : Int → List Int := l.foldl (fun nr p => upd nr p.1 (nr p.1 ++ p.2)) fun _ => []
theorem addL_snoc {l : List (Int × List Int)} {k : Int} {ps : List Int} : addL (l ++ [(k, ps)]) = (addL l).add k ps := by unfold addL; rw [List.foldl_append]; rfl
theorem nearL_snoc {l : List (Int × List Int)} {k : Int} {ps : List Int} : nearL (l ++ [(k, ps)]) = upd (nearL l) k (nearL l k ++ ps) := by unfold nearL; rw [List.foldl_append]; rfl
theorem snoc_ind {α : Type} {P : List α → Prop} (h0 : P []) (h1 : ∀ l a, P l → P (l ++ [a])) (l : List α) : P l := by
  rw [← List.reverse_reverse l]
  induction l.reverse with
  | nil => exact h0
  | cons a r ih => rw [List.reverse_cons]; exact h1 _ _ ih
theorem addL_built (l : List (Int × List Int)) : Built (addL l) (nearL l) ∧ ∀ p ∈ l, p.1 ∈ (addL l).keys := by
  induction l using snoc_ind with
  | h0 => exact ⟨Built.new, by intro _ h; cases h⟩
  | h1 l p ih =>
    obtain ⟨k, ps⟩ := p
    rw [addL_snoc, nearL_snoc]
    obtain ⟨h1, h2, h3⟩ := ih.1.add k ps
    refine ⟨h1, fun q hq => ?_⟩
    rcases List.mem_append.mp hq with h | h
    · exact h3 _ (ih.2 q h)
    · rw [List.mem_singleton.mp h]; exact h2
theorem TS.Le.add {T : TS} {n : Nat} (h : T.Le n) (k : Int) (ps : List Int) : (T.add k ps).Le (n + 1 + 2 * ps.length) := add_le (k := k) (ps := ps) ((h.touch k).setNp k _)
noncomputable def addAll (near : Int → List Int) (i : Nat) : TS := (List.range i).foldl (fun T k => T.add (k : Nat) (near (k : Nat))) TS.new
theorem addL_le {M : Nat} (l : List (Int × List Int)) (h : ∀ p ∈ l, p.2.length ≤ M) : (addL l).Le (l.length * (1 + 2 * M)) := by
  induction l using snoc_ind with
  | h0 => exact ⟨Nat.zero_le _, fun k => Nat.zero_le _⟩
  | h1 l p ih =>
    obtain ⟨k, ps⟩ := p
    rw [addL_snoc]
    refine ((ih fun q hq => h q (List.mem_append_left _ hq)).add _ _).mono ?_
    have := h (k, ps) (List.mem_append_right _ (List.mem_singleton.mpr rfl))
    have e : (l ++ [(k, ps)]).length * (1 + 2 * M) = l.length * (1 + 2 * M) + (1 + 2 * M) := by rw [List.length_append, List.length_singleton, Nat.add_mul, Nat.one_mul]
    have e2 : ps.length ≤ M := this
    rw [e]
    (first | lia | omega)
theorem add_keys {Q : Int → Prop} {T : TS} {k : Int} {ps : List Int} (hT : ∀ x ∈ T.keys, Q x) (hk : Q k) (hp : ∀ p ∈ ps, Q p) : ∀ x ∈ (T.add k ps).keys, Q x := by
  have touch : ∀ {T : TS} {p : Int}, (∀ x ∈ T.keys, Q x) → Q p → ∀ x ∈ (T.touch p).keys, Q x := fun {T p} h hp x hx => by
    unfold TS.touch at hx
    split at hx
    · exact h x hx
    · rcases List.mem_append.mp hx with hx | hx
      · exact h x hx
      · rw [List.mem_singleton.mp hx]; exact hp
  have fold : ∀ {ps : List Int} {T : TS}, (∀ x ∈ T.keys, Q x) → (∀ p ∈ ps, Q p) → ∀ x ∈ (ps.foldl (fun T p => (T.touch p).link p k) T).keys, Q x := by
    intro ps
    induction ps with
    | nil => intro T h _ x hx; exact h x hx
    | cons p ps ih =>
      intro T h hp x hx
      exact ih (T := (T.touch p).link p k) (touch h (hp p List.mem_cons_self)) (fun q hq => hp q (List.mem_cons_of_mem _ hq)) x hx
  unfold TS.add
  exact fold (T := (T.touch k).setNp k ((T.touch k).np k + ps.length)) (touch hT hk) hp
theorem addL_keys {Q : Int → Prop} (l : List (Int × List Int)) (h : ∀ p ∈ l, Q p.1 ∧ ∀ x ∈ p.2, Q x) : ∀ x ∈ (addL l).keys, Q x := by
  induction l using snoc_ind with
  | h0 => intro x hx; cases hx
  | h1 l p ih =>
    obtain ⟨k, ps⟩ := p
    rw [addL_snoc]
    obtain ⟨a, b⟩ := h (k, ps) (List.mem_append_right _ (List.mem_singleton.mpr rfl))
    exact add_keys (ih fun q hq => h q (List.mem_append_left _ hq)) a b
theorem mem_nearL (l : List (Int × List Int)) : ∀ v x, x ∈ nearL l v ↔ ∃ p ∈ l, p.1 = v ∧ x ∈ p.2 := by
  induction l using snoc_ind with
  | h0 => intro v x; constructor; (intro h; cases h); rintro ⟨_, h, _⟩; cases h
  | h1 l p ih =>
    obtain ⟨k, ps⟩ := p
    intro v x
    rw [nearL_snoc]
    by_cases e : v = k
    · subst e
      rw [upd_same, List.mem_append, ih]
      constructor
      · rintro (⟨q, h1, h2⟩ | h)
        · exact ⟨q, List.mem_append_left _ h1, h2⟩
        · exact ⟨_, List.mem_append_right _ (List.mem_singleton.mpr rfl), rfl, h⟩
      · rintro ⟨q, h1, h2, h3⟩
        rcases List.mem_append.mp h1 with h | h
        · exact .inl ⟨q, h, h2, h3⟩
        · rw [List.mem_singleton.mp h] at h3; exact .inr h3
    · rw [upd_ne e, ih]
      constructor
      · rintro ⟨q, h1, h2⟩; exact ⟨q, List.mem_append_left _ h1, h2⟩
      · rintro ⟨q, h1, h2, h3⟩
        rcases List.mem_append.mp h1 with h | h
        · exact ⟨q, h, h2, h3⟩
        · rw [List.mem_singleton.mp h] at h2; exact absurd h2.symm e
theorem Run.doneN {near : Int → List Int} {ns : List Int} : ∀ {T : TS} {dn rest ready : List Int}, Run T near dn (ns ++ rest) ready → (∃ ready', Run (T.doneN ns) near (ns.reverse ++ dn) rest ready') ∧ ∀ i k, ns[i]? = some k → k ∈ T.keys ∧ (T.doneN (ns.take i)).np k = -1 := by
  induction ns with
  | nil => intro T dn rest ready R; exact ⟨⟨ready, R⟩, fun i k h => by simp at h⟩
  | cons a r ih =>
    intro T dn rest ready R
    obtain ⟨ready', R'⟩ := R.done (k := a) List.mem_cons_self
    rw [List.cons_append, List.erase_cons_head] at R'
    obtain ⟨⟨r2, R2⟩, h2⟩ := ih R'
    refine ⟨⟨r2, ?_⟩, fun i k hk => ?_⟩
    · rw [List.reverse_cons, List.append_assoc]; exact R2
    · cases i with
      | zero =>
        obtain rfl : a = k := by simpa using hk
        exact ⟨R.oks _ List.mem_cons_self, R.npo _ List.mem_cons_self⟩
      | succ i =>
        obtain ⟨g1, g2⟩ := h2 i k (by simpa using hk)
        rw [done1_eq.1] at g1
        exact ⟨g1, g2⟩
end
section
theorem TSR.more {H H' : CH} {a : Addr} {T : TS} {L : Lay} (k : ∀ b, H b ≠ none → H' b = H b) (R : TSR H a T L) : TSR H' a T L := by
  have k' : ∀ {b : Addr} {o : CObj}, H b = some o → H' b = some o := fun {b o} e => (k b (by rw [e]; simp)).trans e
  exact ⟨k' R.top, k' R.dict, k' R.n2i, fun r e => k' (R.rdy r e), fun x hx => k' (R.node x hx), fun x hx => k' (R.nd x hx), fun x hx => k' (R.succ x hx), R.inj, R.rdn, R.nodup⟩
theorem TSR.keepF {H H' : CH} {a : Addr} {T : TS} {L : Lay} (k : ∀ b, H b ≠ none → Foot a T L b → H' b = H b) (R : TSR H a T L) : TSR H' a T L := by
  have k' : ∀ {b : Addr} {o : CObj}, H b = some o → Foot a T L b → H' b = some o := fun {b o} e f => (k b (by rw [e]; simp) f).trans e
  exact ⟨k' R.top (.inl rfl), k' R.dict (.inr (.inl rfl)), k' R.n2i (.inr (.inr (.inl rfl))), fun r e => k' (R.rdy r e) (.inr (.inr (.inr (.inl ⟨by rw [e]; simp, rfl⟩)))), fun x hx => k' (R.node x hx) (.inr (.inr (.inr (.inr ⟨x, hx, .inl rfl⟩)))), fun x hx => k' (R.nd x hx) (.inr (.inr (.inr (.inr ⟨x, hx, .inr (.inl rfl)⟩)))), fun x hx => k' (R.succ x hx) (.inr (.inr (.inr (.inr ⟨x, hx, .inr (.inr rfl)⟩)))), R.inj, R.rdn, R.nodup⟩
theorem TSR.other {H : CH} {a : Addr} {T : TS} {L : Lay} (R : TSR H a T L) {b : Addr} {c : CObj} (hb : ¬ Foot a T L b) : TSR (H.set b c) a T L := R.keepF fun b' _ f => CH.set_ne fun e => hb (e ▸ f)
theorem TSR.nofoot {H : CH} {a : Addr} {T : TS} {L : Lay} (R : TSR H a T L) {x : Addr} (hx : H x = none) : ¬ Foot a T L x := fun f => by
  rcases f with e | e | e | ⟨hr, e⟩ | ⟨k, hk, e | e | e⟩
  · have := R.top; rw [← e, hx] at this; cases this
  · have := R.dict; rw [← e, hx] at this; cases this
  · have := R.n2i; rw [← e, hx] at this; cases this
  · obtain ⟨r, h⟩ := Option.ne_none_iff_exists'.mp hr
    have := R.rdy _ h; rw [← e, hx] at this; cases this
  · have := R.node k hk; rw [← e, hx] at this; cases this
  · have := R.nd k hk; rw [← e, hx] at this; cases this
  · have := R.succ k hk; rw [← e, hx] at this; cases this
noncomputable abbrev natV (x : Nat) : V := .int x
/-- the heap while the orders are told -/
structure TT (N : Nat) (H₃ H' : CH) (a cn ao ah cO cP : Addr) (hs : List Addr) (T : TS) (Ly : Lay) (nd : Nat → Int) (od : Nat → List Nat) (oa : Nat → Addr) (hp : Nat → List (Int × Int)) : Prop where
  R : TSR H' a T Ly
  keep : ∀ b, H₃ b ≠ none → b ≠ cO → b ≠ cP → H' b = H₃ b ∧ ¬ Foot a T Ly b
  cellO : H' cO = some (.cell (some (.ref ao))) ∧ ¬ Foot a T Ly cO ∧ H₃ cO ≠ none
  cellP : (∃ v, H' cP = some (.cell v)) ∧ ¬ Foot a T Ly cP ∧ H₃ cP ≠ none
  cOP : cO ≠ cP
  need : H' cn = some (.list ((List.range N).map fun k => .int (nd k)))
  ords : H' ao = some (.list ((List.range N).map fun k => .ref (oa k)))
  ord : ∀ k, k < N → H' (oa k) = some (.list ((od k).map natV)) ∧ ¬ Foot a T Ly (oa k) ∧ oa k ∉ cn :: ao :: ah :: hs
  hps : H' ah = some (.list (hs.map .ref))
  heap : ∀ k (hk : k < hs.length), H' hs[k] = some (.list ((hp k).map pv))
  hl : hs.length = N
  nd : (cn :: ao :: ah :: hs).Nodup
  nf : ∀ x ∈ cn :: ao :: ah :: hs, H₃ x = none ∧ ¬ Foot a T Ly x
section
variable {N : Nat} {H₃ H' H'' : CH} {a cn ao ah cO cP : Addr} {hs : List Addr} {T T' : TS} {Ly Ly' : Lay} {nd : Nat → Int} {od : Nat → List Nat} {oa : Nat → Addr} {hp : Nat → List (Int × Int)}
theorem TT.frame (S : TT N H₃ H' a cn ao ah cO cP hs T Ly nd od oa hp) (R : TSR H'' a T' Ly') (F : FrameT a H' T Ly H'' T' Ly') : TT N H₃ H'' a cn ao ah cO cP hs T' Ly' nd od oa hp := by
  have k : ∀ {x : Addr} {o : CObj}, H' x = some o → ¬ Foot a T Ly x → H'' x = some o ∧ ¬ Foot a T' Ly' x := fun {x o} e f => by
    obtain ⟨e2, f2⟩ := F x (by rw [e]; simp) f
    exact ⟨e2.trans e, f2⟩
  have m0 : cn ∈ cn :: ao :: ah :: hs := List.mem_cons_self
  have m1 : ao ∈ cn :: ao :: ah :: hs := List.mem_cons_of_mem _ List.mem_cons_self
  have m2 : ah ∈ cn :: ao :: ah :: hs := List.mem_cons_of_mem _ (List.mem_cons_of_mem _ List.mem_cons_self)
  have m3 : ∀ k (hk : k < hs.length), hs[k] ∈ cn :: ao :: ah :: hs := fun k hk => List.mem_cons_of_mem _ (List.mem_cons_of_mem _ (List.mem_cons_of_mem _ (List.getElem_mem hk)))
  refine ⟨R, fun b h1 h2 h3 => ?_, ⟨(k S.cellO.1 S.cellO.2.1).1, (k S.cellO.1 S.cellO.2.1).2, S.cellO.2.2⟩, ?_, S.cOP, (k S.need (S.nf _ m0).2).1, (k S.ords (S.nf _ m1).2).1, fun j hj => ?_, (k S.hps (S.nf _ m2).2).1, fun j hj => (k (S.heap j hj) (S.nf _ (m3 j hj)).2).1, S.hl, S.nd, fun x hx => ⟨(S.nf x hx).1, ?_⟩⟩
  · obtain ⟨e, f⟩ := S.keep b h1 h2 h3
    obtain ⟨e2, f2⟩ := F b (by rw [e]; exact h1) f
    exact ⟨e2.trans e, f2⟩
  · obtain ⟨⟨v, hv⟩, f, g⟩ := S.cellP
    exact ⟨⟨v, (k hv f).1⟩, (k hv f).2, g⟩
  · obtain ⟨e, f, g⟩ := S.ord j hj
    exact ⟨(k e f).1, (k e f).2, g⟩
  · have f := (S.nf x hx).2
    rcases List.mem_cons.mp hx with rfl | hx
    · exact (k S.need f).2
    rcases List.mem_cons.mp hx with rfl | hx
    · exact (k S.ords f).2
    rcases List.mem_cons.mp hx with rfl | hx
    · exact (k S.hps f).2
    · obtain ⟨j, hj, rfl⟩ := List.getElem_of_mem hx
      exact (k (S.heap j hj) f).2
theorem TT.ne_reg (S : TT N H₃ H' a cn ao ah cO cP hs T Ly nd od oa hp) {x : Addr} (hx : x ∈ cn :: ao :: ah :: hs) : (∀ b, H₃ b ≠ none → b ≠ x) ∧ cO ≠ x ∧ cP ≠ x :=
  ⟨fun b hb e => hb (by rw [e]; exact (S.nf x hx).1), fun e => S.cellO.2.2 (by rw [e]; exact (S.nf x hx).1), fun e => S.cellP.2.2 (by rw [e]; exact (S.nf x hx).1)⟩
/-- one heap's list told anew -/
theorem TT.heap1 (S : TT N H₃ H' a cn ao ah cO cP hs T Ly nd od oa hp) {j : Nat} (hj : j < hs.length) {l : List (Int × Int)} (k : ∀ b, H' b ≠ none → b ≠ hs[j] → H'' b = H' b) (hl : H'' hs[j] = some (.list (l.map pv))) :
    TT N H₃ H'' a cn ao ah cO cP hs T Ly nd od oa (nset hp j l) := by
  have hm : hs[j] ∈ cn :: ao :: ah :: hs := List.mem_cons_of_mem _ (List.mem_cons_of_mem _ (List.mem_cons_of_mem _ (List.getElem_mem hj)))
  obtain ⟨n1, n2, n3⟩ := S.ne_reg hm
  have k' : ∀ {b : Addr} {o : CObj}, H' b = some o → b ≠ hs[j] → H'' b = some o := fun {b o} e h => (k b (by rw [e]; simp) h).trans e
  have hnd := S.nd
  simp only [List.nodup_cons, List.mem_cons, not_or] at hnd
  obtain ⟨⟨d1, d2, d3⟩, ⟨d4, d5⟩, d6, d7⟩ := hnd
  have hjm := List.getElem_mem hj
  refine ⟨S.R.keepF fun b hb f => k b hb fun e => (S.nf _ hm).2 (e ▸ f), fun b h1 h2 h3 => ?_, ⟨k' S.cellO.1 n2, S.cellO.2⟩, ?_, S.cOP, k' S.need fun e => d3 (e ▸ hjm), k' S.ords fun e => d5 (e ▸ hjm), fun i hi => ?_, k' S.hps fun e => d6 (e ▸ hjm), fun i hi => ?_, S.hl, S.nd, S.nf⟩
  · obtain ⟨e, f⟩ := S.keep b h1 h2 h3
    exact ⟨(k b (by rw [e]; exact h1) (n1 b h1)).trans e, f⟩
  · obtain ⟨⟨v, hv⟩, f⟩ := S.cellP
    exact ⟨⟨v, k' hv n3⟩, f⟩
  · obtain ⟨e, f, g⟩ := S.ord i hi
    exact ⟨k' e (fun q => g (q ▸ hm)), f, g⟩
  · by_cases e : i = j
    · subst e; rw [hl, nset_same]
    · rw [nset_ne e]
      exact k' (S.heap i hi) fun q => e ((List.getElem_inj d7).mp q)
theorem TT.more (S : TT N H₃ H' a cn ao ah cO cP hs T Ly nd od oa hp) (k : ∀ b, H' b ≠ none → H'' b = H' b) : TT N H₃ H'' a cn ao ah cO cP hs T Ly nd od oa hp := by
  have k' : ∀ {b : Addr} {o : CObj}, H' b = some o → H'' b = some o := fun {b o} e => (k b (by rw [e]; simp)).trans e
  refine ⟨S.R.more k, fun b h1 h2 h3 => ?_, ⟨k' S.cellO.1, S.cellO.2⟩, ?_, S.cOP, k' S.need, k' S.ords, fun i hi => ⟨k' (S.ord i hi).1, (S.ord i hi).2⟩, k' S.hps, fun i hi => k' (S.heap i hi), S.hl, S.nd, S.nf⟩
  · obtain ⟨e, f⟩ := S.keep b h1 h2 h3
    exact ⟨(k b (by rw [e]; exact h1)).trans e, f⟩
  · obtain ⟨⟨v, hv⟩, f⟩ := S.cellP
    exact ⟨⟨v, k' hv⟩, f⟩
theorem TT.setP (S : TT N H₃ H' a cn ao ah cO cP hs T Ly nd od oa hp) (v : Option V) : TT N H₃ (H'.set cP (.cell v)) a cn ao ah cO cP hs T Ly nd od oa hp := by
  have k' : ∀ {b : Addr} {o : CObj}, H' b = some o → b ≠ cP → (H'.set cP (.cell v)) b = some o := fun {b o} e h => by rw [CH.set_ne h]; exact e
  have nr : ∀ x ∈ cn :: ao :: ah :: hs, x ≠ cP := fun x hx e => S.cellP.2.2 (by rw [← e]; exact (S.nf x hx).1)
  obtain ⟨⟨v0, hv0⟩, f0⟩ := S.cellP
  refine ⟨S.R.other S.cellP.2.1, fun b h1 h2 h3 => ?_, ⟨k' S.cellO.1 S.cOP, S.cellO.2⟩, ⟨⟨v, CH.set_same⟩, f0⟩, S.cOP, k' S.need (nr _ List.mem_cons_self), k' S.ords (nr _ (List.mem_cons_of_mem _ List.mem_cons_self)), fun i hi => ?_,
    k' S.hps (nr _ (List.mem_cons_of_mem _ (List.mem_cons_of_mem _ List.mem_cons_self))), fun i hi => k' (S.heap i hi) (nr _ (List.mem_cons_of_mem _ (List.mem_cons_of_mem _ (List.mem_cons_of_mem _ (List.getElem_mem hi))))), S.hl, S.nd, S.nf⟩
  · rw [CH.set_ne h3]; exact S.keep b h1 h2 h3
  · obtain ⟨e, f⟩ := S.ord i hi
    exact ⟨k' e (fun q => by rw [q, hv0] at e; cases e), f⟩
theorem map_set {α : Type} {f : Nat → α} {N j : Nat} {v : α} (h : j < N) : ((List.range N).map f).set j v = (List.range N).map (nset f j v) := by
  apply List.ext_getElem?
  intro i
  rw [List.getElem?_set]
  simp only [List.length_map, List.length_range, List.getElem?_map]
  by_cases e : j = i
  · subst e
    rw [if_pos rfl, if_pos h, List.getElem?_range h]
    show _ = some (nset f j v j)
    rw [nset_same]
  · rw [if_neg e]
    by_cases hi : i < N
    · rw [List.getElem?_range hi]
      show _ = some (nset f j v i)
      rw [nset_ne (Ne.symm e)]; rfl
    · rw [List.getElem?_eq_none (by simp; (first | lia | omega))]; rfl
theorem TT.setN (S : TT N H₃ H' a cn ao ah cO cP hs T Ly nd od oa hp) (nd' : Nat → Int) : TT N H₃ (H'.set cn (.list ((List.range N).map fun k => .int (nd' k)))) a cn ao ah cO cP hs T Ly nd' od oa hp := by
  have m0 : cn ∈ cn :: ao :: ah :: hs := List.mem_cons_self
  obtain ⟨n1, n2, n3⟩ := S.ne_reg m0
  have hnd := S.nd
  simp only [List.nodup_cons, List.mem_cons, not_or] at hnd
  obtain ⟨⟨d1, d2, d3⟩, ⟨d4, d5⟩, d6, d7⟩ := hnd
  have k' : ∀ {b : Addr} {o : CObj}, H' b = some o → b ≠ cn → (H'.set cn (.list ((List.range N).map fun k => .int (nd' k)))) b = some o := fun {b o} e h => by rw [CH.set_ne h]; exact e
  refine ⟨S.R.other (S.nf _ m0).2, fun b h1 h2 h3 => ?_, ⟨k' S.cellO.1 n2, S.cellO.2⟩, ?_, S.cOP, CH.set_same, k' S.ords (Ne.symm d1), fun i hi => ?_, k' S.hps (Ne.symm d2), fun i hi => k' (S.heap i hi) fun e => d3 (e ▸ List.getElem_mem hi), S.hl, S.nd, S.nf⟩
  · rw [CH.set_ne (n1 b h1)]; exact S.keep b h1 h2 h3
  · obtain ⟨⟨v, hv⟩, f⟩ := S.cellP
    exact ⟨⟨v, k' hv n3⟩, f⟩
  · obtain ⟨e, f, g⟩ := S.ord i hi
    exact ⟨k' e (fun q => g (q ▸ m0)), f, g⟩
theorem TT.setO (S : TT N H₃ H' a cn ao ah cO cP hs T Ly nd od oa hp) {j : Nat} {r : Addr} {o : List Nat} (hr : H' r = some (.list (o.map natV))) (hf : ¬ Foot a T Ly r) (hg : r ∉ cn :: ao :: ah :: hs) :
    TT N H₃ (H'.set ao (.list ((List.range N).map fun k => .ref (nset oa j r k)))) a cn ao ah cO cP hs T Ly nd (nset od j o) (nset oa j r) hp := by
  have m1 : ao ∈ cn :: ao :: ah :: hs := List.mem_cons_of_mem _ List.mem_cons_self
  obtain ⟨n1, n2, n3⟩ := S.ne_reg m1
  have hnd := S.nd
  simp only [List.nodup_cons, List.mem_cons, not_or] at hnd
  obtain ⟨⟨d1, d2, d3⟩, ⟨d4, d5⟩, d6, d7⟩ := hnd
  have k' : ∀ {b : Addr} {o : CObj}, H' b = some o → b ≠ ao → (H'.set ao (.list ((List.range N).map fun k => .ref (nset oa j r k)))) b = some o := fun {b o} e h => by rw [CH.set_ne h]; exact e
  refine ⟨S.R.other (S.nf _ m1).2, fun b h1 h2 h3 => ?_, ⟨k' S.cellO.1 n2, S.cellO.2⟩, ?_, S.cOP, k' S.need d1, CH.set_same, fun i hi => ?_, k' S.hps (Ne.symm d4), fun i hi => k' (S.heap i hi) fun e => d5 (e ▸ List.getElem_mem hi), S.hl, S.nd, S.nf⟩
  · rw [CH.set_ne (n1 b h1)]; exact S.keep b h1 h2 h3
  · obtain ⟨⟨v, hv⟩, f⟩ := S.cellP
    exact ⟨⟨v, k' hv n3⟩, f⟩
  · by_cases e : i = j
    · subst e
      rw [nset_same, nset_same]
      exact ⟨k' hr (fun q => hg (q ▸ m1)), hf, hg⟩
    · rw [nset_ne e, nset_ne e]
      obtain ⟨e, f, g⟩ := S.ord i hi
      exact ⟨k' e (fun q => g (q ▸ m1)), f, g⟩
end
end
section
theorem g_TS {P : Params} : nsIn (KK P) mainGlobals "TopologicalSorter" = some (some (.ref cTS)) := by kernel_rfl
theorem g_reduce {P : Params} : nsIn (KK P) mainGlobals "reduce" = some (some (.ref a_reduce)) := by kernel_rfl
theorem g_emptied {P : Params} : nsIn (KK P) mainGlobals "_law_emptied" = some (some (.ref a_emptied)) := by kernel_rfl
theorem g_max {P : Params} : nsIn (KK P) mainGlobals "max" = some none := by kernel_rfl
theorem b_max : bootBuiltins "max" = some (.builtin "max") := by kernel_rfl
noncomputable abbrev qsT : List ((Nat × Nat) × Str) := [((202, 30), "_law_told.<locals>.<lambda>"), ((203, 31), "_law_told.<locals>.<lambda>")]
noncomputable def addsA (i : Nat) : List (Int × List Int) := (List.range i).map fun j : Nat => ((j : Int), ([] : List Int))
noncomputable def addsB (ov : Nat → Int) (i : Nat) : List (Int × List Int) := (List.range i).map fun j : Nat => (ov (j + 1), [((j + 1 : Nat) : Int)])
theorem addsA_succ {i : Nat} : addsA (i + 1) = addsA i ++ [((i : Int), [])] := by unfold addsA; rw [List.range_succ, List.map_append]; rfl
theorem addsB_succ {ov : Nat → Int} {i : Nat} : addsB ov (i + 1) = addsB ov i ++ [(ov (i + 1), [((i + 1 : Nat) : Int)])] := by unfold addsB; rw [List.range_succ, List.map_append]; rfl
theorem adds_one {N M : Nat} {ov : Nat → Int} : ∀ p ∈ addsA N ++ addsB ov M, p.2.length ≤ 1 := by
  intro p hp
  rcases List.mem_append.mp hp with h | h
  · obtain ⟨j, _, rfl⟩ := List.mem_map.mp h; exact Nat.zero_le _
  · obtain ⟨j, _, rfl⟩ := List.mem_map.mp h; exact Nat.le_refl _
theorem adds_len {N M : Nat} {ov : Nat → Int} : (addsA N ++ addsB ov M).length = N + M := by unfold addsA addsB; simp
theorem near_kids {N : Nat} {ov : Nat → Int} (T : Tree N ov) {v x : Int} : x ∈ nearL (addsA N ++ addsB ov (N - 1)) v ↔ ∃ c k : Nat, x = c ∧ v = k ∧ c ∈ suKids N ov k := by
  rw [mem_nearL]
  constructor
  · rintro ⟨p, hp, rfl, hx⟩
    rcases List.mem_append.mp hp with h | h
    · obtain ⟨j, _, rfl⟩ := List.mem_map.mp h; cases hx
    · obtain ⟨j, hj, rfl⟩ := List.mem_map.mp h
      rw [List.mem_range] at hj
      rw [List.mem_singleton] at hx
      have := T.up (j + 1) (by (first | lia | omega)) (by (first | lia | omega))
      exact ⟨j + 1, (ov (j + 1)).toNat, hx, by simp only; (first | lia | omega), mem_kids.mpr ⟨by (first | lia | omega), by (first | lia | omega)⟩⟩
  · rintro ⟨c, k, rfl, rfl, h⟩
    have h0 := T.kid_gt h
    obtain ⟨h1, h2⟩ := mem_kids.mp h
    refine ⟨(ov (c - 1 + 1), [((c - 1 + 1 : Nat) : Int)]), List.mem_append_right _ (List.mem_map.mpr ⟨c - 1, List.mem_range.mpr (by (first | lia | omega)), rfl⟩), ?_, ?_⟩
    · show ov (c - 1 + 1) = _
      rw [show c - 1 + 1 = c from by (first | lia | omega)]; exact h2
    · rw [List.mem_singleton, show c - 1 + 1 = c from by (first | lia | omega)]
theorem adds_keys {N : Nat} {ov : Nat → Int} (T : Tree N ov) {x : Int} : x ∈ (addL (addsA N ++ addsB ov (N - 1))).keys ↔ ∃ k : Nat, x = k ∧ k < N := by
  constructor
  · refine addL_keys (Q := fun x => ∃ k : Nat, x = k ∧ k < N) _ (fun p hp => ?_) x
    rcases List.mem_append.mp hp with h | h
    · obtain ⟨j, hj, rfl⟩ := List.mem_map.mp h
      exact ⟨⟨j, rfl, List.mem_range.mp hj⟩, by intro _ h; cases h⟩
    · obtain ⟨j, hj, rfl⟩ := List.mem_map.mp h
      rw [List.mem_range] at hj
      have := T.up (j + 1) (by (first | lia | omega)) (by (first | lia | omega))
      exact ⟨⟨(ov (j + 1)).toNat, by simp only; (first | lia | omega), by (first | lia | omega)⟩, fun x hx => ⟨j + 1, List.mem_singleton.mp hx, by (first | lia | omega)⟩⟩
  · rintro ⟨k, rfl, hk⟩
    exact (addL_built _).2 ((k : Int), []) (List.mem_append_left _ (List.mem_map.mpr ⟨k, List.mem_range.mpr hk, rfl⟩))
theorem rep_one {N : Nat} {v : V} : (List.replicate ((N : Nat) : Int).toNat [v]).flatten = (List.range N).map fun _ => v := by
  rw [Int.toNat_natCast]
  induction N with
  | zero => rfl
  | succ n ih => rw [List.replicate_succ', List.flatten_append, ih, List.range_succ, List.map_append]; rfl
theorem mapI_set {f : Nat → Int} {N j : Nat} {v : Int} (h : j < N) : ((List.range N).map fun k => V.int (f k)).set (j : Int).toNat (.int v) = (List.range N).map fun k => V.int (nset f j v k) := by
  rw [Int.toNat_natCast, map_set h]
  refine List.map_congr_left fun k _ => ?_
  unfold nset; split <;> rfl
theorem mapR_set {f : Nat → Addr} {N j : Nat} {v : Addr} (h : j < N) : ((List.range N).map fun k => V.ref (f k)).set (j : Int).toNat (.ref v) = (List.range N).map fun k => V.ref (nset f j v k) := by
  rw [Int.toNat_natCast, map_set h]
  refine List.map_congr_left fun k _ => ?_
  unfold nset; split <;> rfl
theorem mapN_get {f : Nat → V} {N j : Nat} (h : j < N) : ((List.range N).map f)[((j : Nat) : Int).toNat]? = some (f j) := by
  rw [Int.toNat_natCast, List.getElem?_map, List.getElem?_range h]; rfl
theorem pv_get2 {qs : List (Int × Int)} {t : Nat} {x : V} (h : (qs.map pv)[t]? = some x) : ∃ q, qs[t]? = some q ∧ x = pv q := by
  rw [List.getElem?_map] at h
  obtain ⟨q, h1, h2⟩ := Option.map_eq_some_iff.mp h
  exact ⟨q, h1, h2.symm⟩
theorem max_if {a b : Int} : (if b > a then b else a) = max a b := by split <;> (first | lia | omega)
theorem set_needs {C : Cx} {A : Around} {m : Loc} {H : CH} {l : Addr} {f : Nat → Int} {N j : Nat} {v : Int} {QU : Loc → CH → Prop} (hl : H l = some (.list ((List.range N).map fun k => .int (f k)))) (hj : j < N) (hN : N ≤ 2 ^ 10)
    (h : QU m (H.set l (.list ((List.range N).map fun k => .int (nset f j v k))))) : O3 C A setItem (.ref l) (.int (j : Nat)) (.int v) m H QU :=
  set_list hl (Int.natCast_nonneg _) (ltR hj) (szR hN) (by rw [mapI_set hj]; exact h)
theorem set_orders {C : Cx} {A : Around} {m : Loc} {H : CH} {l : Addr} {f : Nat → Addr} {N j : Nat} {v : Addr} {QU : Loc → CH → Prop} (hl : H l = some (.list ((List.range N).map fun k => .ref (f k)))) (hj : j < N) (hN : N ≤ 2 ^ 10)
    (h : QU m (H.set l (.list ((List.range N).map fun k => .ref (nset f j v k))))) : O3 C A setItem (.ref l) (.int (j : Nat)) (.ref v) m H QU :=
  set_list hl (Int.natCast_nonneg _) (ltR hj) (szR hN) (by rw [mapR_set hj]; exact h)
noncomputable def TdR (Hb : CH) (qs : List (Int × Int)) (od : Nat → List Nat) (t : Nat) (v : V) (H'' : CH) : Prop := ∃ r, v = .ref r ∧ Hb r = none ∧ H'' r = some (.list ((((qs.take t).map fun q => od q.2.toNat).flatten).map natV)) ∧ ∀ c, Hb c ≠ none → H'' c = Hb c
noncomputable def TdX (H₀ : CH) (qs : List (Int × Int)) (t : Nat) (v : V) (H'' : CH) : Prop := H'' = H₀ ∧ v = .int (supTo (fun i => i - (qs.getD i (0, 0)).1) t (qs.length + 1))
noncomputable def TdS (N : Nat) (l a : Addr) (Hc : CH) (ads : List (Int × List Int)) (m' : Loc) (H' : CH) : Prop := m' = ([("sorter", .ref a), ("size", .int N), ("over", .ref l)] : Loc) ∧ ∃ Ly, TSR H' a (addL ads) Ly ∧ ∀ b, Hc b ≠ none → H' b = Hc b ∧ ¬ Foot a (addL ads) Ly b
noncomputable abbrev mW (N : Nat) (l a cn ah : Addr) : Loc := [("heaps", .ref ah), ("needs", .ref cn), ("sorter", .ref a), ("size", .int N), ("over", .ref l)]
noncomputable abbrev mG (N : Nat) (l a cn ah : Addr) (rd : List Int) : Loc := ("group", .tup (rd.map .int)) :: mW N l a cn ah
noncomputable def TdI (N : Nat) (ov : Nat → Int) (near : Int → List Int) (T7 : TS) (l : Addr) (Hc : CH) (a cn ao ah cO cP : Addr) (hs : List Addr) (n : Nat) (m' : Loc) (H' : CH) : Prop :=
  m' = mW N l a cn ah ∧ ∃ T Ly nd od oa hp dn ready, TT N Hc H' a cn ao ah cO cP hs T Ly nd od oa hp ∧ Run T near dn [] ready ∧ T.keys = T7.keys ∧ T.sc = T7.sc ∧ TG N ov (dn.map Int.toNat) nd od hp ∧ n = T7.keys.length - dn.length
noncomputable def TdM (N : Nat) (ov : Nat → Int) (l : Addr) (Hc : CH) (a cn ao ah cO cP : Addr) (hs : List Addr) (T8 : TS) (Ly : Lay) (dn ready rd : List Int) (m' : Loc) (H' : CH) : Prop :=
  m' = mG N l a cn ah ready ∧ ∃ nd od oa hp, TT N Hc H' a cn ao ah cO cP hs T8 Ly nd od oa hp ∧ TG N ov ((rd.reverse ++ dn).map Int.toNat) nd od hp
noncomputable def TdV (N : Nat) (ov : Nat → Int) (H : CH) (v : V) (H' : CH) : Prop := ∃ need ord srt r, Told N ov need ord srt ∧ v = .tup [.int (need 0), .ref r] ∧ H' r = some (.list ((ord 0).map natV)) ∧ ∀ b, H b ≠ none → H' b = H b
section
variable {C : Cx} {A : Around} {m : Loc} {H : CH} {s : Shared} {mg mb : Str → Option Value} {P : Params}
theorem code_told (B : Bs C.h₀ (KK P) mg mb) : CodeHd C.h₀ 187 185 :=
  ⟨_, _, _, _, _, _, _, _, _, B.X 187 _ (by with_unfolding_all rfl), rfl, rfl, rfl, rfl, rfl, rfl, rfl, rfl, by decide⟩
set_option maxHeartbeats 8000000 in
theorem spec_told {l : Addr} {N : Nat} {ov : Nat → Int} (Tr : Tree N ov) (hN : N ≤ 10) (B : Bs C.h₀ (KK P) mg mb) {n : Nat} (hA : AOK C A (n + 8)) (hl : H l = some (.list ((List.range N).map fun k => .int (ov k)))) (hP : H 185 = some (.tab qsT)) :
    CALL C A (.con (.ref a_told)) [.ref l] [] H (TdV N ov H) := by
  have hz : 1000000 < sizeLine := by decide
  obtain ⟨QV, hQV⟩ : ∃ Q, Q = TdV N ov H := ⟨_, rfl⟩
  rw [← hQV]
  have hN' : N ≤ 2 ^ 10 := Nat.le_trans hN (by decide)
  refine CALL_cells (m' := [("over", .ref l)]) B (by with_unfolding_all rfl) (by with_unfolding_all rfl) hA rfl bz1 (by intro L; simp [cellsFrom]; exact ⟨by with_unfolding_all rfl, by with_unfolding_all rfl, by with_unfolding_all rfl⟩) (by kernel_rfl) fun L hL hA' => ?_
  have hcell : setCells (cellsFrom (L + 1) [("over", .local), ("size", .local), ("sorter", .local), ("j", .local), ("needs", .local), ("heaps", .local), ("group", .local), ("orders", .cell), ("parts", .cell), ("len", .globalImplicit), ("TopologicalSorter", .globalImplicit), ("range", .globalImplicit), ("_law_emptied", .globalImplicit), ("reduce", .globalImplicit), ("heappush", .globalImplicit)] []) (fun x => (([("over" : Str)].zip [V.ref l]).reverse.lookup x)) H = ((H.set (L + 1) (.cell none)).set (L + 2) (.cell none)) := by
    kernel_rfl
  rw [hcell]
  have hL1 := (hL (L + 1) (Nat.le_succ L)).1
  have hL2 := (hL (L + 2) (Nat.le_add_right L 2)).1
  have h12 : L + 1 ≠ L + 2 := Nat.ne_of_lt (Nat.lt_succ_self (L + 1))
  have kc : ∀ b, H b ≠ none → ((H.set (L + 1) (.cell none)).set (L + 2) (.cell none)) b = H b := fun b hb => by rw [CH.set_ne (ne_out hb hL2), CH.set_ne (ne_out hb hL1)]
  have hc1 : ((H.set (L + 1) (.cell none)).set (L + 2) (.cell none)) (L + 1) = some (.cell none) := by rw [CH.set_ne h12, CH.set_same]
  have hc2 : ((H.set (L + 1) (.cell none)).set (L + 2) (.cell none)) (L + 2) = some (.cell none) := CH.set_same
  generalize ((H.set (L + 1) (.cell none)).set (L + 2) (.cell none)) = Hc at *
  have hcl : Hc l = some (.list ((List.range N).map fun k => .int (ov k))) := (kc l (sn hl)).trans hl
  have hcP : Hc 185 = some (.tab qsT) := (kc 185 (sn hP)).trans hP
  have hP1 : (185 : Addr) ≠ L + 1 := fun e => by rw [← e, hP] at hL1; cases hL1
  have hP2 : (185 : Addr) ≠ L + 2 := fun e => by rw [← e, hP] at hL2; cases hL2
  have hl1 : l ≠ L + 1 := fun e => by rw [e, hL1] at hl; cases hl
  have hl2 : l ≠ L + 2 := fun e => by rw [e, hL2] at hl; cases hl
  repeat walk_at "x"
  refine EV_b B g_len b_len ?_
  repeat walk_at "x"
  refine ⟨KP_built, CV_lenM (.own hcl) (szR hN') ?_⟩
  rw [List.length_range]
  repeat walk_at "x"
  refine EV_g B g_TS ?_
  repeat walk_at "x"
  refine ⟨KP_cls B k_keepTS, CV_of ((spec_makeTS (by exact B) (n := n + 5) hA').mono ?_)⟩
  rintro v H₄ ⟨a, Ly, rfl, R, hk4⟩
  repeat walk_at "x"
  refine EX_mid (st := .For _ _ _ _ _) (TdS N l a Hc (addsA N)) (ES_for' ?_) fun m₁ H₅ hM => ?_
  · repeat walk_at "x"
    refine EV_b B g_range b_range ?_
    repeat walk_at "x"
    refine ⟨KP_type, CV_range1 ?_⟩
    refine ⟨rangeInts 0 1 N, (fun _ => True), [("sorter", .ref a), ("size", .int N), ("over", .ref l)], fun i => TdS N l a Hc (addsA i), seq_rng1 hA'.handled (by (first | lia | omega)), .cons rfl (.cons rfl (.cons rfl .nil)), ⟨rfl, Ly, R, hk4⟩, ?_⟩
    rintro i m' H' ⟨rfl, Ly', R', hk'⟩
    refine ⟨trivial, fun y hy => ?_, fun hi => ?_⟩
    · rw [rangeInts_get] at hy
      by_cases hil : i < N
      · rw [if_pos hil] at hy
        obtain rfl := (Option.some.inj hy).symm
        rw [show (0 + (i : Int) * 1) = ((i : Nat) : Int) from by (first | lia | omega)]
        have hBi := (addL_built (addsA i)).1
        have hLe := addL_le (M := 1) (addsA i) fun p hp => adds_one (N := i) (M := 0) (ov := ov) p (List.mem_append_left _ hp)
        have hlen : (addsA i).length = i := by unfold addsA; simp
        repeat walk_at "x"
        refine GM_inst (f := a_add) B R'.top R'.dict rfl ?_
        repeat walk_at "x"
        refine ⟨KP_K B (by with_unfolding_all rfl), CV_of ((spec_add (k := (i : Nat)) (ps := []) (N := (addsA i).length * (1 + 2 * 1)) (by exact B) (n := n + 3) hA' R' (hBi 0).ready hLe (by rw [hlen]; simp; (first | lia | omega))).mono ?_)⟩
        rintro v H'' ⟨rfl, Ly2, R2, F2⟩
        repeat walk_at "x"
        rw [← addL_snoc, ← addsA_succ] at R2 F2
        refine ⟨_, .cons rfl (.cons rfl (.cons rfl .nil)), rfl, Ly2, R2, fun b hb => ?_⟩
        obtain ⟨e1, e2⟩ := hk' b hb
        obtain ⟨e3, e4⟩ := F2 b (by rw [e1]; exact hb) e2
        exact ⟨e3.trans e1, e4⟩
      · rw [if_neg hil] at hy; cases hy
    · have : i = N := by rw [hi]; unfold rangeInts; simp
      subst this
      repeat walk_at "x"
      exact ⟨rfl, Ly', R', hk'⟩
  obtain ⟨rfl, Ly5, R5, hk5⟩ := hM
  refine EX_mid (st := .For _ _ _ _ _) (TdS N l a Hc (addsA N ++ addsB ov (N - 1))) (ES_for' ?_) fun m₁ H₆ hM => ?_
  · repeat walk_at "x"
    refine EV_b B g_range b_range ?_
    repeat walk_at "x"
    refine ⟨KP_type, CV_range2 ?_⟩
    refine ⟨_, (fun _ => True), [("sorter", .ref a), ("size", .int N), ("over", .ref l)], fun i => TdS N l a Hc (addsA N ++ addsB ov i), seq_from1 hA'.handled (by (first | lia | omega)), .cons rfl (.cons rfl (.cons rfl .nil)), ⟨rfl, Ly5, by rw [show addsB ov 0 = [] from rfl, List.append_nil]; exact R5, by rw [show addsB ov 0 = [] from rfl, List.append_nil]; exact hk5⟩, ?_⟩
    rintro i m' H' ⟨rfl, Ly', R', hk'⟩
    refine ⟨trivial, fun y hy => ?_, fun hi => ?_⟩
    · rw [List.getElem?_map] at hy
      by_cases hil : i < N - 1
      · rw [List.getElem?_range hil] at hy
        have e1 := Option.some.inj hy
        have e2 : y = .int ((i + 1 : Nat) : Int) := by rw [← e1]; show V.int _ = _; congr 1; (first | lia | omega)
        subst e2
        have hBi := (addL_built (addsA N ++ addsB ov i)).1
        have hLe := addL_le (M := 1) (addsA N ++ addsB ov i) adds_one
        have hlen : (addsA N ++ addsB ov i).length = N + i := adds_len
        repeat walk_at "x"
        refine GM_inst (f := a_add) B R'.top R'.dict rfl ?_
        repeat walk_at "x"
        refine sub_list (v := .int (ov (i + 1))) (.own ((hk' l (sn hcl)).1.trans hcl)) (by (first | lia | omega)) (by rw [Int.toNat_natCast, List.getElem?_map, List.getElem?_range (by (first | lia | omega))]; rfl) (szR hN') ?_
        repeat walk_at "x"
        refine ⟨KP_K B (by with_unfolding_all rfl), CV_of ((spec_add (k := ov (i + 1)) (ps := [((i + 1 : Nat) : Int)]) (N := (addsA N ++ addsB ov i).length * (1 + 2 * 1)) (by exact B) (n := n + 3) hA' R' (hBi 0).ready hLe (by rw [hlen]; simp; (first | lia | omega))).mono ?_)⟩
        rintro v H'' ⟨rfl, Ly2, R2, F2⟩
        repeat walk_at "x"
        rw [← addL_snoc, List.append_assoc, ← addsB_succ] at R2 F2
        refine ⟨_, .cons rfl (.cons rfl (.cons rfl .nil)), rfl, Ly2, R2, fun b hb => ?_⟩
        obtain ⟨e1, e2⟩ := hk' b hb
        obtain ⟨e3, e4⟩ := F2 b (by rw [e1]; exact hb) e2
        exact ⟨e3.trans e1, e4⟩
      · rw [List.getElem?_eq_none (by simp; (first | lia | omega))] at hy; cases hy
    · have : i = N - 1 := by rw [hi]; simp
      subst this
      repeat walk_at "x"
      exact ⟨rfl, Ly', R', hk'⟩
  obtain ⟨rfl, Ly6, R6, hk6⟩ := hM
  have hB7 := (addL_built (addsA N ++ addsB ov (N - 1))).1
  have hkeys := @adds_keys N ov Tr
  have hnear := @near_kids N ov Tr
  have hLe7 := addL_le (M := 1) (addsA N ++ addsB ov (N - 1)) adds_one
  rw [adds_len] at hLe7
  have hRun := Run.start hB7
  generalize hT7 : addL (addsA N ++ addsB ov (N - 1)) = T7 at *
  generalize hnr : nearL (addsA N ++ addsB ov (N - 1)) = near at *
  have hsc0 : ∀ k ∈ T7.keys, ∀ x ∈ T7.sc k, x ∈ T7.keys ∧ k ∈ near x := fun k hk x hx => by
    have h1 := (hB7 0).sc k hk x
    have h2 : k ∈ near x := List.count_pos_iff.mp (by rw [← h1]; exact List.count_pos_iff.mpr hx)
    refine ⟨Classical.byContradiction fun q => ?_, h2⟩
    rw [(hB7 0).out x q] at h2; cases h2
  have hready := (hB7 0).ready
  have hkl7 : T7.keys.length ≤ N := by
    have := range_le (N := N) (P := T7.keys.map Int.toNat) (List.pairwise_map.mpr (List.Pairwise.imp_of_mem (fun {x y} hx hy hxy e => hxy (by
      obtain ⟨i, rfl, _⟩ := hkeys.mp hx; obtain ⟨j, rfl, _⟩ := hkeys.mp hy; rw [show i = j from by simpa using e])) (hB7 0).nodup)) fun k hk => by
        obtain ⟨x, hx, rfl⟩ := List.mem_map.mp hk
        obtain ⟨i, rfl, hi⟩ := hkeys.mp hx
        simpa using hi
    simpa using this
  refine EX_cons (st := .Expr _ _) (ES_expr ?_)
  repeat walk_at "x"
  refine GM_inst (f := a_prepare) B R6.top R6.dict rfl ?_
  repeat walk_at "x"
  refine ⟨KP_K B (by with_unfolding_all rfl), CV_of ((spec_prepare (rk := fun x => -x) (fun k hk x hx => ⟨(hsc0 k hk x hx).1, by
    obtain ⟨c, k', e1, e2, h⟩ := hnear.mp (hsc0 k hk x hx).2
    have := Tr.kid_gt h
    show -k < -x
    (first | lia | omega)⟩) (by unfold scanBound; (first | lia | omega)) (by exact B) (n := n + 5) hA' R6 hready).mono ?_)⟩
  rintro v H₇ ⟨rfl, Ly7, R7, F7⟩
  have hk7 : ∀ b, Hc b ≠ none → H₇ b = Hc b ∧ ¬ Foot a T7.prep Ly7 b := fun b hb => by
    obtain ⟨e1, e2⟩ := hk6 b hb
    obtain ⟨e3, e4⟩ := F7 b (by rw [e1]; exact hb) e2
    exact ⟨e3.trans e1, e4⟩
  clear R5 hk5 R6 hk6 F7 R hk4
  repeat walk_at "x"
  refine EV_list ?_
  repeat walk_at "x"
  refine ⟨by decide, fun z hz0 => ?_⟩
  repeat walk_at "x"
  refine O2_mul_list (.own CH.set_same) (by (first | lia | omega)) (by (first | lia | omega)) (by simp; (first | lia | omega)) fun cn hcn => ?_
  rw [rep_one]
  repeat walk_at "x"
  refine EV_lc ?_
  repeat walk_at "x"
  refine EV_b B g_range b_range ?_
  repeat walk_at "x"
  refine ⟨KP_type, CV_range1 ?_⟩
  have hcn7 : H₇ cn = none := by
    have : cn ≠ z := fun e => by rw [e, CH.set_same] at hcn; cases hcn
    rw [CH.set_ne this] at hcn; exact hcn
  have n0 : (((H₇.set z (.list [.int 0])).set cn (.list ((List.range N).map fun _ => .int 0)))) cn = some (.list ((List.range N).map fun k => .int ((fun _ => 0 : Nat → Int) k))) := CH.set_same
  have k8 : ∀ b, H₇ b ≠ none → (((H₇.set z (.list [.int 0])).set cn (.list ((List.range N).map fun _ => .int 0)))) b = H₇ b := fun b hb => by rw [CH.set_ne (ne_out hb hcn7), CH.set_ne (ne_out hb hz0)]
  generalize (((H₇.set z (.list [.int 0])).set cn (.list ((List.range N).map fun _ => .int 0)))) = H₈ at *
  refine LC_lists (rangeInts 0 1 N) (seq_rng1 hA'.handled (by (first | lia | omega))) (by unfold rangeInts; simp; (first | lia | omega)) (fun x hx LC H₁ => ?_) fun ao os H₉ olen ond oel okeep oao oao0 => ?_
  · repeat walk_at "x"
    refine ⟨rfl, EV_list ?_⟩
    repeat walk_at "x"
    exact ⟨by decide, fun b hb => ⟨b, hb, rfl, rfl⟩⟩
  have olen' : os.length = N := by rw [olen]; unfold rangeInts; simp
  have c17 : H₇ (L + 1) = some (.cell none) := (hk7 (L + 1) (sn hc1)).1.trans hc1
  have c27 : H₇ (L + 2) = some (.cell none) := (hk7 (L + 2) (sn hc2)).1.trans hc2
  have k9 : ∀ b, H₈ b ≠ none → (H₉.set ao (.list (os.map .ref))) b = H₈ b := fun b hb => by
    have h := okeep b hb
    rw [CH.set_ne (ne_out (by rw [h]; exact hb) oao)]; exact h
  have k9' : ∀ b, H₇ b ≠ none → (H₉.set ao (.list (os.map .ref))) b = H₇ b := fun b hb => by
    have h := k8 b hb
    rw [k9 b (by rw [h]; exact hb)]; exact h
  have a1 : (H₉.set ao (.list (os.map .ref))) ao = some (.list (os.map .ref)) := CH.set_same
  have o1 : ∀ b ∈ os, H₈ b = none ∧ b ≠ ao ∧ (H₉.set ao (.list (os.map .ref))) b = some (.list []) := fun b hb => by
    have h := oel b hb
    have hne : b ≠ ao := fun e => by rw [e, oao] at h; cases h.2
    exact ⟨h.1, hne, at_ne hne h.2⟩
  have ao8 : H₈ ao = none := by
    cases q : H₈ ao with
    | none => rfl
    | some c => have := okeep ao (sn q); rw [oao, q] at this; cases this
  have n9 : (H₉.set ao (.list (os.map .ref))) cn = some (.list ((List.range N).map fun k => .int ((fun _ => 0 : Nat → Int) k))) := (k9 cn (sn n0)).trans n0
  have cn8 : H₈ cn ≠ none := by rw [n0]; simp
  clear oel okeep oao oao0 n0 hcn
  generalize (H₉.set ao (.list (os.map .ref))) = H₁₀ at *
  have c110 := (k9' (L + 1) (sn c17)).trans c17
  refine ASG_cell (c := L + 1) (by with_unfolding_all rfl) c110 ?_
  refine SeqE.n ?_
  refine EX_cons (st := .Assign _ _ _) (ES_assign_lc ?_)
  repeat walk_at "x"
  refine EV_b B g_range b_range ?_
  repeat walk_at "x"
  refine ⟨KP_type, CV_range1 ?_⟩
  have k11 : ∀ b, H₇ b ≠ none → b ≠ L + 1 → (H₁₀.set (L + 1) (.cell (some (.ref ao)))) b = H₇ b := fun b hb hn => by rw [CH.set_ne hn]; exact k9' b hb
  have c111 : (H₁₀.set (L + 1) (.cell (some (.ref ao)))) (L + 1) = some (.cell (some (.ref ao))) := CH.set_same
  have up : ∀ {x : Addr}, H₇ x = none → x ≠ L + 1 := fun {x} hx e => by rw [e, c17] at hx; cases hx
  have ao7 : H₇ ao = none := by
    cases q : H₇ ao with
    | none => rfl
    | some c => have := k8 ao (sn q); rw [ao8, q] at this; cases this
  have a11 : (H₁₀.set (L + 1) (.cell (some (.ref ao)))) ao = some (.list (os.map .ref)) := at_ne (up ao7) a1
  have o11 : ∀ b ∈ os, H₇ b = none ∧ b ≠ ao ∧ b ≠ cn ∧ (H₁₀.set (L + 1) (.cell (some (.ref ao)))) b = some (.list []) := fun b hb => by
    obtain ⟨h1, h2, h3⟩ := o1 b hb
    have h7 : H₇ b = none := by
      cases q : H₇ b with
      | none => rfl
      | some c => have := k8 b (sn q); rw [h1, q] at this; cases this
    exact ⟨h7, h2, fun e => cn8 (e ▸ h1), at_ne (up h7) h3⟩
  have n11 : (H₁₀.set (L + 1) (.cell (some (.ref ao)))) cn = some (.list ((List.range N).map fun k => .int ((fun _ => 0 : Nat → Int) k))) := at_ne (up hcn7) n9
  have cnao : cn ≠ ao := fun e => cn8 (e ▸ ao8)
  clear k9 k9' k8 ao8 cn8 a1 o1 n9 c110
  generalize (H₁₀.set (L + 1) (.cell (some (.ref ao)))) = H₁₁ at *
  refine LC_lists (rangeInts 0 1 N) (seq_rng1 hA'.handled (by (first | lia | omega))) (by unfold rangeInts; simp; (first | lia | omega)) (fun x hx LC H₁ => ?_) fun ah hs H₁₂ hlen hnd hel hkeep hah hah0 => ?_
  · repeat walk_at "x"
    refine ⟨rfl, EV_list ?_⟩
    repeat walk_at "x"
    exact ⟨by decide, fun b hb => ⟨b, hb, rfl, rfl⟩⟩
  have hlen' : hs.length = N := by rw [hlen]; unfold rangeInts; simp
  have k13 : ∀ b, H₁₁ b ≠ none → (H₁₂.set ah (.list (hs.map .ref))) b = H₁₁ b := fun b hb => by
    have h := hkeep b hb
    rw [CH.set_ne (ne_out (by rw [h]; exact hb) hah)]; exact h
  have ah11 : H₁₁ ah = none := by
    cases q : H₁₁ ah with
    | none => rfl
    | some c => have := hkeep ah (sn q); rw [hah, q] at this; cases this
  have h13 : ∀ b ∈ hs, H₁₁ b = none ∧ b ≠ ah ∧ (H₁₂.set ah (.list (hs.map .ref))) b = some (.list []) := fun b hb => by
    have h := hel b hb
    have hne : b ≠ ah := fun e => by rw [e, hah] at h; cases h.2
    exact ⟨h.1, hne, at_ne hne h.2⟩
  have to7 : ∀ {x : Addr}, H₁₁ x = none → H₇ x = none := fun {x} hx => by
    by_cases e : x = L + 1
    · rw [e, c111] at hx; cases hx
    · cases q : H₇ x with
      | none => rfl
      | some c => have := k11 x (sn q) e; rw [hx, q] at this; cases this
  have toc : ∀ {x : Addr}, H₇ x = none → Hc x = none := fun {x} hx => by
    cases q : Hc x with
    | none => rfl
    | some c => have := (hk7 x (sn q)).1; rw [hx, q] at this; cases this
  have S0 : TT N Hc (H₁₂.set ah (.list (hs.map .ref))) a cn ao ah (L + 1) (L + 2) hs T7.prep Ly7 (fun _ => 0) (fun _ => []) (fun k => os.getD k 0) (fun _ => []) := by
    have k137 : ∀ b, H₇ b ≠ none → b ≠ L + 1 → (H₁₂.set ah (.list (hs.map .ref))) b = H₇ b := fun b hb hn => by
      have h := k11 b hb hn
      rw [k13 b (by rw [h]; exact hb)]; exact h
    have eos : (List.range N).map (fun k => V.ref (os.getD k 0)) = os.map .ref := by
      apply List.ext_getElem?
      intro i
      rw [List.getElem?_map, List.getElem?_map]
      by_cases hi : i < N
      · rw [List.getElem?_range hi, List.getElem?_eq_getElem (by (first | lia | omega))]
        show some (V.ref (os.getD i 0)) = some (V.ref os[i])
        rw [List.getD_eq_getElem?_getD, List.getElem?_eq_getElem (by (first | lia | omega))]; rfl
      · rw [List.getElem?_eq_none (by simp; (first | lia | omega)), List.getElem?_eq_none (by (first | lia | omega))]; rfl
    have reg : ∀ x ∈ cn :: ao :: ah :: hs, H₇ x = none := fun x hx => by
      rcases List.mem_cons.mp hx with rfl | hx
      · exact hcn7
      rcases List.mem_cons.mp hx with rfl | hx
      · exact ao7
      rcases List.mem_cons.mp hx with rfl | hx
      · exact to7 ah11
      · exact to7 (h13 x hx).1
    refine ⟨R7.keepF fun b hb f => k137 b hb fun e => (hk7 (L + 1) (sn hc1)).2 (e ▸ f), fun b h1 h2 h3 => ?_, ⟨(k13 (L + 1) (sn c111)).trans c111, (hk7 (L + 1) (sn hc1)).2, by rw [hc1]; simp⟩,
      ⟨⟨none, (k137 (L + 2) (sn c27) (Ne.symm h12)).trans c27⟩, (hk7 (L + 2) (sn hc2)).2, by rw [hc2]; simp⟩, h12, (k13 cn (sn n11)).trans n11, by rw [eos]; exact (k13 ao (sn a11)).trans a11, fun k hk => ?_, CH.set_same, fun k hk => (h13 _ (List.getElem_mem hk)).2.2, hlen', ?_, fun x hx => ⟨toc (reg x hx), R7.nofoot (reg x hx)⟩⟩
    · obtain ⟨e1, e2⟩ := hk7 b h1
      exact ⟨(k137 b (by rw [e1]; exact h1) h2).trans e1, e2⟩
    · have hm : os.getD k 0 ∈ os := by
        rw [List.getD_eq_getElem?_getD, List.getElem?_eq_getElem (by (first | lia | omega))]; exact List.getElem_mem _
      obtain ⟨q1, q2, q3, q4⟩ := o11 _ hm
      refine ⟨(k13 _ (sn q4)).trans q4, R7.nofoot q1, fun h => ?_⟩
      rcases List.mem_cons.mp h with h | h
      · exact q3 h
      rcases List.mem_cons.mp h with h | h
      · exact q2 h
      rcases List.mem_cons.mp h with h | h
      · rw [h, ah11] at q4; cases q4
      · rw [(h13 _ h).1] at q4; cases q4
    · simp only [List.nodup_cons, List.mem_cons, not_or]
      refine ⟨⟨cnao, (fun e => (by rw [e, ah11] at n11; cases n11)), fun h => (by rw [(h13 _ h).1] at n11; cases n11)⟩, ⟨(fun e => (by rw [e, ah11] at a11; cases a11)), fun h => (by rw [(h13 _ h).1] at a11; cases a11)⟩, fun h => (h13 _ h).2.1 rfl, hnd⟩
  clear hel hkeep hah hah0 k13 h13 ah11 k11 c111 a11 o11 n11 ao7 cnao hcn7 hz0
  generalize (H₁₂.set ah (.list (hs.map .ref))) = H₁₃ at *
  refine SeqE.n ?_
  refine EX_cons (st := .While _ _ _ _) (ES_while (TdI N ov near T7 l Hc a cn ao ah (L + 1) (L + 2) hs) _ (mW N l a cn ah) (.cons rfl (.cons rfl (.cons rfl (.cons rfl (.cons rfl .nil)))))
    ⟨rfl, T7.prep, Ly7, _, _, _, _, [], _, S0, hRun, rfl, rfl, TG.start (fun _ => rfl), rfl⟩ ?_)
  clear S0 hRun R7 hk7 up to7 toc c17 c27
  rintro n' m' H' ⟨rfl, T, Ly', nd, od, oa, hp, dn, ready, Z, Rn, hTk, hTs, G, rfl⟩
  have hrl : ready.length ≤ N := Nat.le_trans (nodup_le Rn.rnd fun x hx => by rw [← hTk]; exact ((Rn.rmem x).mp hx).1) hkl7
  repeat walk_at "x"
  refine GM_inst (f := a_isactive) B Z.R.top Z.R.dict rfl ?_
  repeat walk_at "x"
  refine ⟨KP_K B (by with_unfolding_all rfl), CV_of ((spec_isactive (by exact B) (n := n + 6) hA' Z.R Rn.rdy (by (first | lia | omega))).mono ?_)⟩
  rintro v H'' ⟨rfl, rfl⟩
  refine OB_bool ⟨fun hb => ?_, fun hb => ?_⟩
  · have hne : ready ≠ [] := by
      intro e
      subst e
      rw [Rn.pass, Rn.fin] at hb
      simp at hb
    repeat walk_at "x"
    refine GM_inst (f := a_getready) B Z.R.top Z.R.dict rfl ?_
    repeat walk_at "x"
    refine ⟨KP_K B (by with_unfolding_all rfl), CV_of ((spec_getready (by exact B) (n := n + 6) hA' Z.R Rn.rdy (fun k hk => ((Rn.rmem k).mp hk).1) (by (first | lia | omega))).mono ?_)⟩
    rintro v H₈ ⟨rfl, R8, F8⟩
    have Z8 := Z.frame R8 F8
    have Rn8 := Rn.get
    rw [List.nil_append] at Rn8
    have hk8 : (T.getReady ready).keys = T.keys := (@TS.out_eq ready T).1
    have hs8 : (T.getReady ready).sc = T.sc := (@TS.out_eq ready T).2.2.2.2
    generalize T.getReady ready = T8 at *
    repeat walk_at "x"
    refine EX_mid (st := .For _ _ _ _ _) (TdM N ov l Hc a cn ao ah (L + 1) (L + 2) hs T8 Ly' dn ready ready) (ES_for' ?_) fun m₁ H₉ hM => ?_
    · repeat walk_at "x"
      refine ⟨ready.map .int, (fun _ => True), mG N l a cn ah ready, fun i => TdM N ov l Hc a cn ao ah (L + 1) (L + 2) hs T8 Ly' dn ready (ready.take i),
        seq_tup hA'.handled, .cons rfl (.cons rfl (.cons rfl (.cons rfl (.cons rfl (.cons rfl .nil))))), ⟨rfl, nd, od, oa, hp, Z8, G⟩, ?_⟩
      clear Z Z8 G
      rintro i m' H' ⟨rfl, nd, od, oa, hp, Z, G⟩
      refine ⟨trivial, fun y hy => ?_, fun hi => ?_⟩
      · obtain ⟨k, hki, rfl⟩ := ints_get hy
        have hkr := List.mem_of_getElem? hki
        obtain ⟨q1, q2, _, q4⟩ := (Rn.rmem k).mp hkr
        obtain ⟨j, rfl, hjN⟩ := hkeys.mp (by rw [← hTk]; exact q1)
        have hjh : j < hs.length := by rw [Z.hl]; exact hjN
        have hil : i < ready.length := (List.getElem?_eq_some_iff.mp hki).1
        have hpr : ∀ x ∈ (ready.take i).reverse ++ dn, ∃ c : Nat, x = c := fun x hx => by
          have : x ∈ T7.keys := by
            rcases List.mem_append.mp hx with h | h
            · rw [← hTk]; exact ((Rn.rmem x).mp (List.mem_of_mem_take (List.mem_reverse.mp h))).1
            · rw [← hTk]; exact Rn.dks x h
          obtain ⟨c, rfl, _⟩ := hkeys.mp this
          exact ⟨c, rfl⟩
        have hjp : j ∉ ((ready.take i).reverse ++ dn).map Int.toNat := fun h => by
          obtain ⟨x, hx, e⟩ := List.mem_map.mp h
          obtain ⟨c, rfl⟩ := hpr x hx
          have ecj : c = j := by simpa using e
          subst ecj
          rcases List.mem_append.mp hx with h | h
          · have h := List.mem_reverse.mp h
            obtain ⟨u, hu, e⟩ := List.getElem_of_mem h
            rw [List.getElem_take] at e
            have hul : u < i := by rw [List.length_take] at hu; (first | lia | omega)
            have hri : ready[i] = (c : Int) := by rw [List.getElem?_eq_getElem hil] at hki; exact Option.some.inj hki
            have := (List.getElem_inj Rn.rnd).mp (e.trans hri.symm)
            (first | lia | omega)
          · exact q2 h
        have hkids : ∀ c ∈ suKids N ov j, c ∈ ((ready.take i).reverse ++ dn).map Int.toNat := fun c hc => by
          have := q4 c (hnear.mpr ⟨c, j, rfl, rfl, hc⟩)
          exact List.mem_map.mpr ⟨c, List.mem_append_right _ this, by simp⟩
        have epr : ((ready.take (i + 1)).reverse ++ dn).map Int.toNat = j :: ((ready.take i).reverse ++ dn).map Int.toNat := by
          rw [List.take_add_one, hki]; simp
        have hreg : ∀ x ∈ cn :: ao :: ah :: hs, H' x ≠ none := fun x hx => by
          rcases List.mem_cons.mp hx with rfl | hx
          · rw [Z.need]; simp
          rcases List.mem_cons.mp hx with rfl | hx
          · rw [Z.ords]; simp
          rcases List.mem_cons.mp hx with rfl | hx
          · rw [Z.hps]; simp
          · obtain ⟨u, hu, rfl⟩ := List.getElem_of_mem hx
            rw [Z.heap u hu]; simp
        have hm0 : cn ∈ cn :: ao :: ah :: hs := List.mem_cons_self
        have hm1 : ao ∈ cn :: ao :: ah :: hs := List.mem_cons_of_mem _ List.mem_cons_self
        repeat walk_at "x"
        refine EV_g B g_emptied ?_
        repeat walk_at "x"
        refine sub_list (v := .ref hs[j]) (.own Z.hps) (Int.natCast_nonneg _) (by simp [hjh]) (szM (Nat.le_trans (Nat.le_of_eq Z.hl) hN')) ?_
        repeat walk_at "x"
        have hpl := G.len Tr hjN hjp
        refine ⟨KP_K B (by with_unfolding_all rfl), CV_of ((spec_emptied (by exact B) (n := n + 2) hA' (Z.heap j hjh) (by (first | lia | omega)) (G.heap j hjN hjp).1).mono ?_)⟩
        rintro v H₁ ⟨b, qs, rfl, hb0, hb1, he, hperm, hsrt, hkp⟩
        have Z1 := Z.heap1 hjh (l := []) hkp he
        have hbreg : ∀ x ∈ cn :: ao :: ah :: hs, b ≠ x := fun x hx e => hreg x hx (by rw [← e]; exact hb0)
        have hbP : b ≠ L + 2 := fun e => by obtain ⟨⟨v, hv⟩, _⟩ := Z.cellP; rw [← e, hb0] at hv; cases hv
        have hql := hperm.length_eq
        have hq10 : qs.length ≤ 2 ^ 10 := Nat.le_trans (Nat.le_of_eq hql) (Nat.le_trans hpl hN')
        obtain ⟨hskid, hqk⟩ := G.sorted_kids Tr hjN hjp hkids hperm
        have hflat := G.flat Tr hkids hskid hjN
        have hpow : 2 ^ (N - 1 - j) ≤ 2 ^ 10 := Nat.pow_le_pow_right (by decide) (by (first | lia | omega))
        obtain ⟨⟨v0, hv0⟩, _⟩ := Z1.cellP
        refine ASG_cell (c := L + 2) (by with_unfolding_all rfl) hv0 ?_
        have Z2 := Z1.setP (some (.ref b))
        have hb2 : (H₁.set (L + 2) (.cell (some (.ref b)))) b = some (.list (qs.map pv)) := at_ne hbP hb1
        have hP2' : (H₁.set (L + 2) (.cell (some (.ref b)))) (L + 2) = some (.cell (some (.ref b))) := CH.set_same
        clear Z Z1 hb0 hb1 he hkp hv0 v0
        generalize (H₁.set (L + 2) (.cell (some (.ref b)))) = H₂ at *
        have hT2 : H₂ 185 = some (.tab qsT) := (Z2.keep 185 (sn hcP) hP1 hP2).1.trans hcP
        repeat walk_at "x"
        walk_at "xi"
        refine EV_cell (c := L + 2) (by with_unfolding_all rfl) hP2' ?_
        repeat walk_at "x"
        refine ⟨_, rfl, fun q => (by cases q), fun _ => ?_⟩
        repeat walk_at "x"
        refine EV_g B g_reduce ?_
        repeat walk_at "x"
        refine EV_lambda B hT2 (code_told B) ?_
        repeat walk_at "x"
        refine EV_b B g_range b_range ?_
        repeat walk_at "x"
        refine EV_b B g_len b_len ?_
        repeat walk_at "x"
        refine EV_cell (c := L + 2) (by with_unfolding_all rfl) hP2' ?_
        repeat walk_at "x"
        refine ⟨KP_built, CV_lenM (.own hb2) (szM hq10) ?_⟩
        repeat walk_at "x"
        refine ⟨KP_type, CV_range1 ?_⟩
        repeat walk_at "x"
        refine EV_b B g_len b_len ?_
        repeat walk_at "x"
        refine EV_cell (c := L + 2) (by with_unfolding_all rfl) hP2' ?_
        repeat walk_at "x"
        refine ⟨KP_built, CV_lenM (.own hb2) (szM hq10) ?_⟩
        repeat walk_at "x"
        refine ⟨KP_K B (by with_unfolding_all rfl), CV_of ((spec_reduceG (by exact B) (n := n + 6) hA' (fun env => iters_rng (n := qs.length) hA'.handled (by (first | lia | omega))) (.inl ⟨_, rfl⟩) (TdX H₂ qs) ⟨rfl, rfl⟩ (fun env H'' => KP_lam) ?_ (fun _ _ _ _ => trivial)).mono ?_)⟩
        · rintro t v x H'' env hAA ⟨rfl, rfl⟩ hx
          rw [rangeInts_get] at hx
          by_cases htl : t < qs.length
          · rw [if_pos htl] at hx
            obtain rfl := (Option.some.inj hx).symm
            rw [show (0 + (t : Int) * 1) = ((t : Nat) : Int) from by (first | lia | omega)]
            refine CALL_fn B.lim hAA (fun _ _ _ => .pos2) (by with_unfolding_all rfl) rfl fun L' a' c' hL' hL0' hA2 => ?_
            repeat walk_at "x"
            refine EV_b (by exact B) g_max b_max ?_
            repeat walk_at "x"
            refine EV_free (c := L + 2) (by with_unfolding_all rfl) hP2' ?_
            repeat walk_at "x"
            refine sub_list (v := pv qs[t]) (.own hb2) (Int.natCast_nonneg _) (by rw [Int.toNat_natCast, List.getElem?_map, List.getElem?_eq_getElem htl]; rfl) (szM hq10) ?_
            repeat walk_at "x"
            refine sub_tup (v := .int qs[t].1) (by decide) rfl (by show 2 ≤ sizeLine; decide) ?_
            repeat walk_at "x"
            refine ⟨KP_built, CV_max2 hA2.handled ?_⟩
            repeat walk_at "x"
            refine ⟨rfl, ?_⟩
            show V.int _ = V.int _
            rw [max_if, supTo]
            congr 2
            rw [List.getD_eq_getElem?_getD, List.getElem?_eq_getElem htl]; rfl
          · rw [if_neg htl] at hx; cases hx
        rintro v H'' ⟨eH, hv⟩
        obtain rfl : H₂ = H'' := eH.symm
        rw [show (rangeInts 0 1 qs.length).length = qs.length from by unfold rangeInts; simp] at hv
        generalize hvj : supTo (fun i => i - (qs.getD i (0, 0)).1) qs.length (qs.length + 1) = vj at hv
        subst hv
        repeat walk_at "x"
        refine set_needs Z2.need hjN hN' ?_
        have Z3 := Z2.setN (nset nd j vj)
        have hb3 : (H₂.set cn (.list ((List.range N).map fun k => .int (nset nd j vj k)))) b = some (.list (qs.map pv)) := at_ne (hbreg _ hm0) hb2
        have hP3' : (H₂.set cn (.list ((List.range N).map fun k => .int (nset nd j vj k)))) (L + 2) = some (.cell (some (.ref b))) := by rw [CH.set_ne (Z2.ne_reg hm0).2.2]; exact hP2'
        have hT3 : (H₂.set cn (.list ((List.range N).map fun k => .int (nset nd j vj k)))) 185 = some (.tab qsT) := (Z3.keep 185 (sn hcP) hP1 hP2).1.trans hcP
        clear Z2 hb2 hP2' hT2
        generalize (H₂.set cn (.list ((List.range N).map fun k => .int (nset nd j vj k)))) = H₃ at *
        repeat walk_at "x"
        refine EV_g B g_reduce ?_
        repeat walk_at "x"
        refine EV_lambda B hT3 (code_told B) ?_
        repeat walk_at "x"
        refine EV_cell (c := L + 2) (by with_unfolding_all rfl) hP3' ?_
        repeat walk_at "x"
        refine EV_list ?_
        repeat walk_at "x"
        refine ⟨by decide, fun e0 he0 => ?_⟩
        repeat walk_at "x"
        have hbe : b ≠ e0 := fun e => by rw [← e, hb3] at he0; cases he0
        have hqn : ∀ {t : Nat} {q : Int × Int}, qs[t]? = some q → ∃ c : Nat, q.2 = c ∧ c < N := fun {t q} h => by
          obtain ⟨c, hc, rfl⟩ := hqk q (List.mem_of_getElem? h)
          exact ⟨c, rfl, (mem_kids.mp hc).1⟩
        have hfl : ∀ t, (((qs.take t).map fun q => od q.2.toNat).flatten).length ≤ 1024 := fun t => by
          have h1 : (((qs.take t).map fun q => od q.2.toNat).flatten).length ≤ ((qs.map fun q => od q.2.toNat).flatten).length := by
            conv => rhs; rw [← List.take_append_drop t qs]
            rw [List.map_append, List.flatten_append, List.length_append]
            exact Nat.le_add_right _ _
          have : 2 ^ 10 = 1024 := by decide
          (first | lia | omega)
        refine ⟨KP_K B (by with_unfolding_all rfl), CV_of ((spec_reduce (by exact B) (n := n + 6) hA' (at_ne hbe hb3) (.inr (.inr (.inl ⟨e0, _, rfl, CH.set_same⟩))) (TdR H₃ qs od) ⟨e0, rfl, he0, CH.set_same, fun c hc => CH.set_ne (ne_out hc he0)⟩ (fun env H'' => KP_lam) ?_ ?_).mono ?_)⟩
        · rintro t v x H'' env hAA ⟨r, rfl, hr0, hr1, hrk⟩ hx
          obtain ⟨q, hq, rfl⟩ := pv_get2 hx
          obtain ⟨c, hqc, hcN⟩ := hqn hq
          have htn : (qs.take t).map (fun q => od q.2.toNat) ++ [od c] = (qs.take (t + 1)).map fun q => od q.2.toNat := by
            rw [List.take_add_one, hq, List.map_append]
            simp [hqc]
          have hll : (((qs.take t).map fun q => od q.2.toNat).flatten ++ od c).length ≤ 1024 := by
            have := hfl (t + 1)
            rw [← htn, List.flatten_append] at this
            simpa using this
          rw [List.length_append] at hll
          refine CALL_fn B.lim hAA (fun _ _ _ => .pos2) (by with_unfolding_all rfl) rfl fun L' a' c' hL' hL0' hA2 => ?_
          repeat walk_at "x"
          refine EV_free (c := L + 1) (by with_unfolding_all rfl) ((hrk (L + 1) (sn Z3.cellO.1)).trans Z3.cellO.1) ?_
          repeat walk_at "x"
          refine sub_tup (v := .int q.2) (by decide) rfl (by show 2 ≤ sizeLine; decide) ?_
          rw [hqc]
          refine sub_list (v := .ref (oa c)) (.own ((hrk ao (sn Z3.ords)).trans Z3.ords)) (Int.natCast_nonneg _) (mapN_get hcN) (szR hN') ?_
          refine add_lists (.own hr1) (.own ((hrk (oa c) (sn ((Z3.ord c hcN).1))).trans (Z3.ord c hcN).1)) (by rw [List.length_map, List.length_map]; (first | lia | omega)) fun r' hr' => ?_
          repeat walk_at "x"
          have hr'3 : H₃ r' = none := by
            cases w : H₃ r' with
            | none => rfl
            | some o => rw [hrk r' (sn w), w] at hr'; cases hr'
          refine ⟨r', rfl, hr'3, ?_, fun c hc => by rw [CH.set_ne (ne_out hc hr'3)]; exact hrk c hc⟩
          rw [CH.set_same, ← htn, List.flatten_append, List.map_append]
          simp
        · rintro t v H'' ⟨r, rfl, hr0, hr1, hrk⟩
          exact (hrk b (sn hb3)).trans hb3
        rintro v H₄ ⟨r, rfl, hr0, hr1, hrk⟩
        rw [List.length_map, List.take_length] at hr1
        repeat walk_at "x"
        refine EV_list ?_
        repeat walk_at "x"
        refine ⟨by show 1 ≤ sizeLine; decide, fun e1 he1 => ?_⟩
        have hf10 := hfl qs.length
        rw [List.take_length] at hf10
        have hre : r ≠ e1 := fun e => by rw [← e, hr1] at he1; cases he1
        refine add_lists (.own (at_ne hre hr1)) (.own CH.set_same) (by rw [List.length_map]; simp only [List.length_cons, List.length_nil]; (first | lia | omega)) fun r2 hr2 => ?_
        have er2 : r2 ≠ e1 := fun e => by rw [e, CH.set_same] at hr2; cases hr2
        have hr24 : H₄ r2 = none := by rw [CH.set_ne er2] at hr2; exact hr2
        have k34 : ∀ c, H₃ c ≠ none → ((H₄.set e1 (.list [.int (j : Nat)])).set r2 (.list (List.map natV ((qs.map fun q => od q.2.toNat).flatten) ++ [.int (j : Nat)]))) c = H₃ c := fun c hc => by
          have h := hrk c hc
          rw [CH.set_ne (ne_out (by rw [h]; exact hc) hr24), CH.set_ne (ne_out (by rw [h]; exact hc) he1)]; exact h
        have hr23 : H₃ r2 = none := by
          cases w : H₃ r2 with
          | none => rfl
          | some o => rw [hrk r2 (sn w), w] at hr24; cases hr24
        have hro : ((H₄.set e1 (.list [.int (j : Nat)])).set r2 (.list (List.map natV ((qs.map fun q => od q.2.toNat).flatten) ++ [.int (j : Nat)]))) r2 = some (.list (((qs.map fun q => od q.2.toNat).flatten ++ [j]).map natV)) := by
          rw [CH.set_same, List.map_append]; rfl
        have Z5 := Z3.more k34
        have hr2f := Z3.R.nofoot hr23
        have hr2r : r2 ∉ cn :: ao :: ah :: hs := fun h => by
          have : H₃ r2 ≠ none := by
            rcases List.mem_cons.mp h with rfl | h
            · rw [Z3.need]; simp
            rcases List.mem_cons.mp h with rfl | h
            · rw [Z3.ords]; simp
            rcases List.mem_cons.mp h with rfl | h
            · rw [Z3.hps]; simp
            · obtain ⟨u, hu, rfl⟩ := List.getElem_of_mem h
              rw [Z3.heap u hu]; simp
          exact this hr23
        clear Z3 hb3 hP3' hT3 he0 hbe hr1 hrk hr0 he1 hr2 hr24 k34 hr23 hre er2
        generalize ((H₄.set e1 (.list [.int (j : Nat)])).set r2 (.list (List.map natV ((qs.map fun q => od q.2.toNat).flatten) ++ [.int (j : Nat)]))) = H₅ at *
        repeat walk_at "x"
        refine EV_cell (c := L + 1) (by with_unfolding_all rfl) Z5.cellO.1 ?_
        repeat walk_at "x"
        refine set_orders Z5.ords hjN hN' ?_
        have Z6 := Z5.setO (j := j) hro hr2f hr2r
        clear Z5 hro hr2f hr2r
        generalize (H₅.set ao (.list ((List.range N).map fun k => .ref (nset oa j r2 k)))) = H₆ at *
        repeat walk_at "x"
        walk_at "xi"
        refine ⟨_, rfl, fun q => ?_, fun q => ?_⟩
        · have hj00 : (0 : Int) < j := by simpa using q
          have hj0 : 0 < j := by (first | lia | omega)
          obtain ⟨p0, p1⟩ := Tr.up j hj0 hjN
          obtain ⟨p, hp⟩ : ∃ p : Nat, ov j = p := ⟨(ov j).toNat, by (first | lia | omega)⟩
          have hpN : p < N := by (first | lia | omega)
          have hph : p < hs.length := by rw [Z6.hl]; exact hpN
          have hppr : p ∉ ((ready.take i).reverse ++ dn).map Int.toNat := fun h => hjp (G.kids p h j (mem_kids.mpr ⟨hjN, hp⟩))
          have hpj : p ≠ j := by (first | lia | omega)
          have hpl2 := G.len Tr hpN hppr
          have hZp := Z6.heap p hph
          rw [nset_ne hpj] at hZp
          repeat walk_at "x"
          refine EV_g B g_heappush ?_
          repeat walk_at "x"
          refine sub_list (v := .int (ov j)) (.own ((Z6.keep l (sn hcl) hl1 hl2).1.trans hcl)) (Int.natCast_nonneg _) (mapN_get hjN) (szR hN') ?_
          rw [hp]
          refine sub_list (v := .ref hs[p]) (.own Z6.hps) (Int.natCast_nonneg _) (by simp [hph]) (szM (Nat.le_trans (Nat.le_of_eq Z6.hl) hN')) ?_
          repeat walk_at "x"
          refine sub_list (v := .int vj) (.own Z6.need) (Int.natCast_nonneg _) ((mapN_get hjN).trans (by rw [nset_same])) (szR hN') ?_
          refine O1_neg ?_
          repeat walk_at "x"
          refine ⟨by show 2 ≤ sizeLine; decide, ?_⟩
          repeat walk_at "x"
          refine ⟨KP_K B (by with_unfolding_all rfl), CV_of ((spec_push (x := (-vj, (j : Int))) (by exact B) (n := n + 5) hA' hZp (by (first | lia | omega)) (G.heap p hpN hppr).1).mono ?_)⟩
          rintro v H'' ⟨rfl, r', rfl, hperm', hheap'⟩
          have Z7 := Z6.heap1 hph (l := r') (fun c hc hn => CH.set_ne hn) CH.set_same
          have G' := G.step (r' := r') Tr hjN hjp hkids hperm hsrt hvj.symm rfl fun _ => ⟨hheap', by rw [hp]; exact hperm'⟩
          rw [if_pos hj0, hp, Int.toNat_natCast, ← epr] at G'
          repeat walk_at "x"
          exact ⟨_, .cons rfl (.cons rfl (.cons rfl (.cons rfl (.cons rfl (.cons rfl .nil))))), rfl, _, _, _, _, Z7, G'⟩
        · have hj00 : ¬ (0 : Int) < j := by simpa using q
          have hj0 : ¬ 0 < j := by (first | lia | omega)
          have G' := G.step (r' := []) Tr hjN hjp hkids hperm hsrt hvj.symm rfl fun h => absurd h hj0
          rw [if_neg hj0, ← epr] at G'
          repeat walk_at "x"
          exact ⟨_, .cons rfl (.cons rfl (.cons rfl (.cons rfl (.cons rfl (.cons rfl .nil))))), rfl, _, _, _, _, Z6, G'⟩
      · rw [List.length_map] at hi
        subst hi
        rw [List.take_length] at G
        repeat walk_at "x"
        exact ⟨rfl, nd, od, oa, hp, Z, G⟩
    · obtain ⟨rfl, nd9, od9, oa9, hp9, Z9, G9⟩ := hM
      have hDN := Run.doneN (ns := ready) (rest := []) (T := T8) (dn := dn) (ready := []) (near := near) (by rw [List.append_nil]; exact Rn8)
      obtain ⟨⟨r2, Rn10⟩, hdone⟩ := hDN
      repeat walk_at "x"
      refine GA_bound (f := a_done) B Z9.R.top Z9.R.dict rfl ?_
      repeat walk_at "x"
      refine ⟨_, .tup _, by rw [List.length_map]; (first | lia | omega), ?_⟩
      refine ⟨KP_bound (B.X a_done _ (by with_unfolding_all rfl)) rfl, CV_of (CALL_bound ?_)⟩
      refine (spec_done (M := 1000) (by exact B) (n := n + 6) hA' Z9.R Rn8.rdy hdone ?_ ?_ ?_ (by (first | lia | omega))).mono ?_
      · intro k hk x hx
        rw [hk8, hTk] at hk ⊢
        rw [hs8, hTs] at hx
        exact (hsc0 k hk x hx).1
      · intro k
        rw [hs8, hTs]
        have := hLe7.sc k
        (first | lia | omega)
      · rw [List.length_nil]; (first | lia | omega)
      rintro v H'' ⟨rfl, R10, F10⟩
      have Z10 := Z9.frame R10 F10
      have eD := @doneN_eq ready T8
      repeat walk_at "x"
      have hlt : dn.length + ready.length ≤ T7.keys.length := by
        have := nodup_le (k := T7.keys) Rn10.dnd fun x hx => by rw [← hTk, ← hk8, ← eD.1]; exact Rn10.dks x hx
        simpa [Nat.add_comm] using this
      have hrp : 0 < ready.length := List.length_pos_iff.mpr hne
      refine ⟨_, _, ?_, .cons rfl (.cons rfl (.cons rfl (.cons rfl (.cons rfl .nil)))), rfl, _, Ly', nd9, od9, oa9, hp9, _, r2, Z10, Rn10, by rw [eD.1, hk8, hTk], by rw [eD.2.2.2, hs8, hTs], G9, rfl⟩
      simp; (first | lia | omega)
  · have hre : ready = [] := by
      have := Bool.or_eq_false_iff.mp hb
      simpa using this.2
    subst hre
    have hall := Rn.all (rk := fun x => N - x.toNat) (fun x hx p hp => by
      obtain ⟨c, k', e1, e2, h⟩ := hnear.mp hp
      have h1 := Tr.kid_gt h
      have h2 := (mem_kids.mp h).1
      show N - p.toNat < N - x.toNat
      (first | lia | omega))
    obtain ⟨srt, hTold⟩ := G.told fun k hk => by
      have : (k : Int) ∈ dn := hall _ (by rw [hTk]; exact hkeys.mpr ⟨k, rfl, hk⟩)
      exact List.mem_map.mpr ⟨_, this, by simp⟩
    have hN0 := Tr.pos
    repeat walk_at "x"
    refine sub_list (v := .int (nd 0)) (.own Z.need) (by decide) (by rw [List.getElem?_map, List.getElem?_range (by exact hN0)]; rfl) (szR hN') ?_
    repeat walk_at "x"
    refine EV_cell (c := L + 1) (by with_unfolding_all rfl) Z.cellO.1 ?_
    repeat walk_at "x"
    refine sub_list (v := .ref (oa 0)) (.own Z.ords) (by decide) (by rw [List.getElem?_map, List.getElem?_range (by exact hN0)]; rfl) (szR hN') ?_
    repeat walk_at "x"
    refine ⟨by show 2 ≤ sizeLine; decide, ?_⟩
    repeat walk_at "x"
    rw [hQV]
    refine ⟨nd, od, srt, oa 0, hTold, rfl, (Z.ord 0 hN0).1, fun b hb => ?_⟩
    have h1 := kc b hb
    exact (Z.keep b (by rw [h1]; exact hb) (fun e => hb (by rw [e]; exact hL1)) (fun e => hb (by rw [e]; exact hL2))).1.trans h1
end
end
section
theorem g_sum {P : Params} : nsIn (KK P) mainGlobals "sum" = some none := by kernel_rfl
theorem b_sum : bootBuiltins "sum" = some (.builtin "sum") := by kernel_rfl
theorem g_min {P : Params} : nsIn (KK P) mainGlobals "min" = some none := by kernel_rfl
theorem b_min : bootBuiltins "min" = some (.builtin "min") := by kernel_rfl
theorem g_max2 {P : Params} : nsIn (KK P) mainGlobals "max" = some none := by kernel_rfl
theorem b_max2 : bootBuiltins "max" = some (.builtin "max") := by kernel_rfl
noncomputable abbrev intN (x : Nat) : V := .int x
theorem bit_val {D k : Nat} : decide ((((D : Nat) : Int).fdiv ((2 ^ k : Nat) : Int)).fmod 2 = 1) = suBit D k := by
  rw [Int.fdiv_eq_ediv_of_nonneg _ (Int.natCast_nonneg _), ← Int.natCast_ediv, Int.fmod_eq_emod_of_nonneg _ (by decide)]
  unfold suBit
  rw [Bool.eq_iff_iff, decide_eq_true_eq, beq_iff_eq]
  (first | lia | omega)
theorem new_lt {N D j : Nat} (hD : D < 2 ^ N) (hj : j < N) (hb : suBit D j = false) : D + 2 ^ j < 2 ^ N := by
  obtain ⟨d, rfl⟩ : ∃ d, N = j + (d + 1) := ⟨N - j - 1, by (first | lia | omega)⟩
  have h0 : D / 2 ^ j % 2 = 0 := by
    unfold suBit at hb
    rw [beq_eq_false_iff_ne] at hb; (first | lia | omega)
  have hp := Nat.two_pow_pos j
  rw [Nat.pow_add, Nat.pow_succ] at hD ⊢
  have h1 : D / 2 ^ j < 2 ^ d * 2 := Nat.div_lt_of_lt_mul hD
  have h2 : (D + 2 ^ j) / 2 ^ j = D / 2 ^ j + 1 := Nat.add_div_right _ hp
  have h3 : (D + 2 ^ j) / 2 ^ j < 2 ^ d * 2 := by (first | lia | omega)
  have := Nat.lt_mul_of_div_lt h3 hp
  rw [Nat.mul_comm] at this; exact this
theorem init_list {M : Nat} (h : 0 < M) : (V.int 0 :: (List.replicate (((M - 1 : Nat)) : Int).toNat [V.int 99]).flatten) = (List.range M).map fun k => .int (dpInit k) := by
  obtain ⟨m, rfl⟩ : ∃ m, M = m + 1 := ⟨M - 1, by (first | lia | omega)⟩
  rw [Nat.add_sub_cancel, Int.toNat_natCast, List.range_succ_eq_map, List.map_cons, List.map_map]
  congr 1
  induction m with
  | zero => rfl
  | succ n ih => rw [List.replicate_succ', List.flatten_append, ih (by (first | lia | omega)), List.range_succ, List.map_append]; rfl
theorem dr_nats {C : Cx} {H : CH} {l : List Nat} : DRs C H (l.map intN) (l.map fun k : Nat => Dat.int (k : Int)) := DRs.map fun k _ => .int _
theorem nats_ok {l : List Nat} : ∀ e ∈ l.map (fun k : Nat => Dat.int (k : Int)), kqdOk 8 e = true := fun e he => by obtain ⟨k, _, rfl⟩ := List.mem_map.mp he; rfl
theorem nats_ok2 {l : List Nat} : kqdOk 8 (.list (l.map fun k : Nat => Dat.int (k : Int))) = true := by
  show ((l.map fun k : Nat => Dat.int (k : Int)).all (kqdOk 7)) = true
  rw [List.all_map, List.all_eq_true]; intro k _; rfl
theorem mem_nats {l : List Nat} {j : Nat} : Dat.int (j : Int) ∈ l.map (fun k : Nat => Dat.int (k : Int)) ↔ j ∈ l := by
  rw [List.mem_map]
  constructor
  · rintro ⟨k, hk, e⟩
    have : k = j := by injection e with e; (first | lia | omega)
    subst this; exact hk
  · intro h; exact ⟨j, h, rfl⟩
theorem mem_suIn {N D j : Nat} (hj : j < N) : j ∈ suIn N D ↔ suBit D j = true := by
  unfold suIn; rw [List.mem_filter, List.mem_range]; exact ⟨fun h => h.2, fun h => ⟨hj, h⟩⟩
theorem rng_get {f : Nat → V} {N j : Nat} (h : j < N) : ((List.range N).map f)[((j : Nat) : Int).toNat]? = some (f j) := by
  rw [Int.toNat_natCast, List.getElem?_map, List.getElem?_range h]
  rfl
theorem rng_set {f : Nat → Int} {N j : Nat} {v : Int} (h : j < N) : ((List.range N).map fun k => V.int (f k)).set (j : Int).toNat (.int v) = (List.range N).map fun k => V.int (dpSet f j v k) := by
  apply List.ext_getElem?
  intro i
  rw [Int.toNat_natCast, List.getElem?_set]
  simp only [List.length_map, List.length_range, List.getElem?_map]
  by_cases e : j = i
  · subst e
    rw [if_pos rfl, if_pos h, List.getElem?_range h]
    show _ = some (V.int (dpSet f j v j))
    unfold dpSet; rw [if_pos rfl]
  · rw [if_neg e]
    by_cases hi : i < N
    · rw [List.getElem?_range hi]
      show _ = some (V.int (dpSet f j v i))
      unfold dpSet; rw [if_neg (Ne.symm e)]; rfl
    · rw [List.getElem?_eq_none (by simp; (first | lia | omega))]; rfl
theorem seq_nats {C : Cx} {A : Around} {H : CH} {n : Nat} (hA : A.handled = none) (hn : n < 2 ^ 62) : SeqOf C A (.rng 0 n 1) H ((List.range n).map fun i => V.int (0 + (i : Nat) * 1)) (fun _ => True) := seq_rng1 hA hn
theorem set_rng {C : Cx} {A : Around} {m : Loc} {H : CH} {l : Addr} {f : Nat → Int} {N j : Nat} {v : Int} {QU : Loc → CH → Prop} (hl : H l = some (.list ((List.range N).map fun k => .int (f k)))) (hj : j < N) (hN : N ≤ 2 ^ 10)
    (h : QU m (H.set l (.list ((List.range N).map fun k => .int (dpSet f j v k))))) : O3 C A setItem (.ref l) (.int (j : Nat)) (.int v) m H QU :=
  set_list hl (Int.natCast_nonneg _) (ltR hj) (szR hN) (by rw [rng_set hj]; exact h)
structure LS (N : Nat) (Hc H' : CH) (L bl : Addr) (bf : Nat → Int) : Prop where
  best : H' bl = some (.list ((List.range (2 ^ N)).map fun k => .int (bf k)))
  done : ∃ v, H' (L + 2) = some (.cell v)
  ins : ∃ v, H' (L + 3) = some (.cell v)
  keep : ∀ b, Hc b ≠ none → b ≠ L + 2 → b ≠ L + 3 → H' b = Hc b
theorem LS.more {N : Nat} {Hc H' H'' : CH} {L bl : Addr} {bf : Nat → Int} (S : LS N Hc H' L bl bf) (k : ∀ b, H' b ≠ none → H'' b = H' b) : LS N Hc H'' L bl bf := by
  have k' : ∀ {b : Addr} {o : CObj}, H' b = some o → H'' b = some o := fun {b o} e => (k b (sn e)).trans e
  obtain ⟨v, hv⟩ := S.done
  obtain ⟨w, hw⟩ := S.ins
  exact ⟨k' S.best, ⟨v, k' hv⟩, ⟨w, k' hw⟩, fun b h1 h2 h3 => by have h := S.keep b h1 h2 h3; exact (k b (by rw [h]; exact h1)).trans h⟩
theorem suMay_eq {N : Nat} {ov : Nat → Int} {D j : Nat} : suMay N ov D j = true ↔ suBit D j = false ∧ (suKids N ov j).filter (fun k => !suBit D k) = [] := by
  unfold suMay
  rw [Bool.and_eq_true, Bool.not_eq_true', List.all_eq_true, List.filter_eq_nil_iff]
  constructor
  · rintro ⟨a, b⟩; exact ⟨a, fun k hk => by rw [b k hk]; simp⟩
  · rintro ⟨a, b⟩; exact ⟨a, fun k hk => by have := b k hk; simpa using this⟩
theorem min_if {a b : Int} : (if b < a then b else a) = min a b := by split <;> (first | lia | omega)
theorem max_if2 {a b : Int} : (if b > a then b else a) = max a b := by split <;> (first | lia | omega)
noncomputable abbrev mL (N : Nat) (bl : Addr) : Loc := [("best", .ref bl), ("size", .int N)]
noncomputable def LsI (N : Nat) (ov : Nat → Int) (Hc : CH) (L bl : Addr) (i : Nat) (m' : Loc) (H' : CH) : Prop := m' = mL N bl ∧ LS N Hc H' L bl ((List.range i).foldl (dpRow N ov) dpInit)
noncomputable def LsJ (N : Nat) (ov : Nat → Int) (Hc : CH) (L bl il : Addr) (D : Nat) (b0 : Nat → Int) (i : Nat) (m' : Loc) (H' : CH) : Prop := m' = ([("held", .int (suHeldOf N ov (suIn N D))), ("best", .ref bl), ("size", .int N)] : Loc) ∧ LS N Hc H' L bl ((List.range i).foldl (dpCell N ov D) b0) ∧
  H' (L + 2) = some (.cell (some (.int D))) ∧ H' (L + 3) = some (.cell (some (.ref il))) ∧ H' il = some (.list ((suIn N D).map intN)) ∧ il ≠ bl
noncomputable def LsV (N : Nat) (ov : Nat → Int) (H : CH) (v : V) (H' : CH) : Prop := v = .int ((List.range (2 ^ N)).foldl (dpRow N ov) dpInit (2 ^ N - 1)) ∧ ∀ b, H b ≠ none → H' b = H b
section
variable {C : Cx} {A : Around} {m : Loc} {H : CH} {s : Shared} {mg mb : Str → Option Value} {P : Params}
set_option maxHeartbeats 8000000 in
theorem spec_least {kl : Addr} {ks : List Addr} {N : Nat} {ov : Nat → Int} (Tr : Tree N ov) (hN : N ≤ 10) (B : Bs C.h₀ (KK P) mg mb) {n : Nat} (hA : AOK C A (n + 8)) (hkl : H kl = some (.list (ks.map .ref))) (hks : ks.length = N) (hk : ∀ j (hj : j < ks.length), H ks[j] = some (.list ((suKids N ov j).map intN))) :
    CALL C A (.con (.ref a_least)) [.ref kl] [] H (LsV N ov H) := by
  have hz : 1000000 < sizeLine := by decide
  have hp10 : 2 ^ N ≤ 2 ^ 10 := Nat.pow_le_pow_right (by decide) hN
  have hp0 := Nat.two_pow_pos N
  have hN' : N ≤ 2 ^ 10 := Nat.le_trans hN (by decide)
  have hks' : ks.length ≤ 2 ^ 10 := Nat.le_trans (Nat.le_of_eq hks) hN'
  have hkle : ∀ j, (suKids N ov j).length ≤ N := fun j => Nat.le_trans (List.length_filter_le ..) (by rw [List.length_range]; exact Nat.le_refl _)
  refine CALL_cells (m' := []) B (by with_unfolding_all rfl) (by with_unfolding_all rfl) hA rfl bz1 (by intro L; simp [cellsFrom]; repeat (first | (with_unfolding_all rfl) | apply And.intro)) (by kernel_rfl) fun L hL hA' => ?_
  have hcell : setCells (cellsFrom (L + 1) [("kids", .cell), ("size", .local), ("best", .local), ("done", .cell), ("inside", .cell), ("held", .local), ("j", .local), ("new", .local), ("len", .globalImplicit), ("range", .globalImplicit), ("sum", .globalImplicit), ("min", .globalImplicit), ("max", .globalImplicit)] []) (fun x => (([("kids" : Str)].zip [V.ref kl]).reverse.lookup x)) H = (((H.set (L + 1) (.cell (some (.ref kl)))).set (L + 2) (.cell none)).set (L + 3) (.cell none)) := by
    kernel_rfl
  rw [hcell]
  have hL1 := (hL (L + 1) (Nat.le_succ L)).1
  have hL2 := (hL (L + 2) (Nat.le_add_right L 2)).1
  have hL3 := (hL (L + 3) (Nat.le_add_right L 3)).1
  have h12 : L + 1 ≠ L + 2 := Nat.ne_of_lt (Nat.lt_succ_self (L + 1))
  have h23 : L + 2 ≠ L + 3 := Nat.ne_of_lt (Nat.lt_succ_self (L + 2))
  have h13 : L + 1 ≠ L + 3 := Nat.ne_of_lt (Nat.lt_succ_of_lt (Nat.lt_succ_self (L + 1)))
  have kc : ∀ b, H b ≠ none → (((H.set (L + 1) (.cell (some (.ref kl)))).set (L + 2) (.cell none)).set (L + 3) (.cell none)) b = H b := fun b hb => by rw [CH.set_ne (ne_out hb hL3), CH.set_ne (ne_out hb hL2), CH.set_ne (ne_out hb hL1)]
  have hc1 : (((H.set (L + 1) (.cell (some (.ref kl)))).set (L + 2) (.cell none)).set (L + 3) (.cell none)) (L + 1) = some (.cell (some (.ref kl))) := by rw [CH.set_ne h13, CH.set_ne h12, CH.set_same]
  have hc2 : (((H.set (L + 1) (.cell (some (.ref kl)))).set (L + 2) (.cell none)).set (L + 3) (.cell none)) (L + 2) = some (.cell none) := by rw [CH.set_ne h23, CH.set_same]
  have hc3 : (((H.set (L + 1) (.cell (some (.ref kl)))).set (L + 2) (.cell none)).set (L + 3) (.cell none)) (L + 3) = some (.cell none) := CH.set_same
  generalize (((H.set (L + 1) (.cell (some (.ref kl)))).set (L + 2) (.cell none)).set (L + 3) (.cell none)) = Hc at *
  have out : ∀ {b : Addr}, H b ≠ none → b ≠ L + 2 ∧ b ≠ L + 3 := fun {b} hb => ⟨ne_out hb hL2, ne_out hb hL3⟩
  have hckl : Hc kl = some (.list (ks.map .ref)) := (kc kl (sn hkl)).trans hkl
  have hck : ∀ j (hj : j < ks.length), Hc ks[j] = some (.list ((suKids N ov j).map intN)) := fun j hj => (kc _ (sn (hk j hj))).trans (hk j hj)
  have okl := out (b := kl) (sn hkl)
  have ok : ∀ j (hj : j < ks.length), ks[j] ≠ L + 2 ∧ ks[j] ≠ L + 3 := fun j hj => out (sn (hk j hj))
  repeat walk_at "x"
  refine EV_b B g_len b_len ?_
  repeat walk_at "x"
  refine EV_cell (c := L + 1) (by with_unfolding_all rfl) hc1 ?_
  repeat walk_at "x"
  refine ⟨KP_built, CV_lenM (.own hckl) (szM hks') ?_⟩
  rw [hks]
  repeat walk_at "x"
  refine EV_list ?_
  repeat walk_at "x"
  refine ⟨by decide, fun z1 hz1 => ?_⟩
  repeat walk_at "x"
  refine EV_list ?_
  repeat walk_at "x"
  refine ⟨by decide, fun z2 hz2 => ?_⟩
  repeat walk_at "x"
  refine O2_pow2 hN ?_
  repeat walk_at "x"
  rw [show (((2 ^ N : Nat) : Int) - 1) = ((2 ^ N - 1 : Nat) : Int) from by (first | lia | omega)]
  have z12 : z1 ≠ z2 := fun e => by rw [e, CH.set_same] at hz2; cases hz2
  refine O2_mul_list (.own CH.set_same) (by (first | lia | omega)) (by (first | lia | omega)) (by simp only [List.length_cons, List.length_nil]; (first | lia | omega)) fun z3 hz3 => ?_
  have z13 : z1 ≠ z3 := fun e => by rw [← e, CH.set_ne z12, CH.set_same] at hz3; cases hz3
  refine add_lists (.own (by rw [CH.set_ne z13, CH.set_ne z12, CH.set_same])) (.own CH.set_same) (by simp; (first | lia | omega)) fun bl hbl => ?_
  rw [show ([V.int 0] ++ (List.replicate ((2 ^ N - 1 : Nat) : Int).toNat [V.int 99]).flatten) = (List.range (2 ^ N)).map fun k => .int (dpInit k) from init_list hp0]
  have z23 : z2 ≠ z3 := fun e => by rw [← e, CH.set_same] at hz3; cases hz3
  have bl3 : bl ≠ z3 := fun e => by rw [e, CH.set_same] at hbl; cases hbl
  have bl2 : bl ≠ z2 := fun e => by rw [e, CH.set_ne z23, CH.set_same] at hbl; cases hbl
  have bl1 : bl ≠ z1 := fun e => by rw [e, CH.set_ne z13, CH.set_ne z12, CH.set_same] at hbl; cases hbl
  have hblc : Hc bl = none := by rw [CH.set_ne bl3, CH.set_ne bl2, CH.set_ne bl1] at hbl; exact hbl
  have hz2c : Hc z2 = none := by rw [CH.set_ne (Ne.symm z12)] at hz2; exact hz2
  have hz3c : Hc z3 = none := by rw [CH.set_ne (Ne.symm z23), CH.set_ne (Ne.symm z13)] at hz3; exact hz3
  have k1 : ∀ b, Hc b ≠ none → ((((Hc.set z1 (.list [.int 0])).set z2 (.list [.int 99])).set z3 (.list (List.replicate ((2 ^ N - 1 : Nat) : Int).toNat [V.int 99]).flatten)).set bl (.list ((List.range (2 ^ N)).map fun k => .int (dpInit k)))) b = Hc b := fun b hb => by
    rw [CH.set_ne (ne_out hb hblc), CH.set_ne (ne_out hb hz3c), CH.set_ne (ne_out hb hz2c), CH.set_ne (ne_out hb hz1)]
  have b1 : ((((Hc.set z1 (.list [.int 0])).set z2 (.list [.int 99])).set z3 (.list (List.replicate ((2 ^ N - 1 : Nat) : Int).toNat [V.int 99]).flatten)).set bl (.list ((List.range (2 ^ N)).map fun k => .int (dpInit k)))) bl = some (.list ((List.range (2 ^ N)).map fun k => .int (dpInit k))) := CH.set_same
  clear z12 z13 z23 bl1 bl2 bl3 hz1 hz2 hz3 hz2c hz3c hbl
  generalize ((((Hc.set z1 (.list [.int 0])).set z2 (.list [.int 99])).set z3 (.list (List.replicate ((2 ^ N - 1 : Nat) : Int).toNat [V.int 99]).flatten)).set bl (.list ((List.range (2 ^ N)).map fun k => .int (dpInit k)))) = H₁ at *
  have obl : bl ≠ L + 1 ∧ bl ≠ L + 2 ∧ bl ≠ L + 3 := ⟨(fun e => (by rw [e, hc1] at hblc; cases hblc)), (fun e => (by rw [e, hc2] at hblc; cases hblc)), fun e => (by rw [e, hc3] at hblc; cases hblc)⟩
  repeat walk_at "x"
  refine EX_mid (st := .For _ _ _ _ _) (LsI N ov Hc L bl (2 ^ N)) (ES_for' ?_) fun m₁ H₂ hM => ?_
  · repeat walk_at "x"
    refine EV_b B g_range b_range ?_
    repeat walk_at "x"
    refine O2_pow2 hN ?_
    repeat walk_at "x"
    refine ⟨KP_type, CV_range1 ?_⟩
    refine ⟨_, (fun _ => True), mL N bl, LsI N ov Hc L bl, seq_nats hA'.handled (by (first | lia | omega)), .cons rfl (.cons rfl .nil), ⟨rfl, b1, ⟨_, (k1 _ (sn hc2)).trans hc2⟩, ⟨_, (k1 _ (sn hc3)).trans hc3⟩, fun b hb _ _ => k1 b hb⟩, ?_⟩
    rintro D m' H' ⟨rfl, S⟩
    refine ⟨trivial, fun y hy => ?_, fun hi => ?_⟩
    · rw [List.getElem?_map] at hy
      by_cases hDl : D < 2 ^ N
      · rw [List.getElem?_range hDl] at hy
        have e1 := Option.some.inj hy
        have e2 : y = .int ((D : Nat) : Int) := by rw [← e1]; show V.int _ = _; congr 1; (first | lia | omega)
        subst e2
        have hrow : (List.range (D + 1)).foldl (dpRow N ov) dpInit = dpRow N ov ((List.range D).foldl (dpRow N ov) dpInit) D := by rw [List.range_succ, List.foldl_append]; rfl
        generalize (List.range D).foldl (dpRow N ov) dpInit = b0 at *
        obtain ⟨v2, hv2⟩ := S.done
        refine ASG_cell (c := L + 2) (by with_unfolding_all rfl) hv2 ?_
        have S2 : LS N Hc (H'.set (L + 2) (.cell (some (.int D)))) L bl b0 := ⟨at_ne obl.2.1 S.best, ⟨_, CH.set_same⟩, (by obtain ⟨v, hv⟩ := S.ins; exact ⟨v, at_ne (Ne.symm h23) hv⟩), fun b h1 h2 h3 => by rw [CH.set_ne h2]; exact S.keep b h1 h2 h3⟩
        have d2 : (H'.set (L + 2) (.cell (some (.int D)))) (L + 2) = some (.cell (some (.int D))) := CH.set_same
        clear S hv2 v2
        generalize (H'.set (L + 2) (.cell (some (.int D)))) = H₃ at *
        walk_at "xi"
        refine EV_cell (c := L + 2) (by with_unfolding_all rfl) d2 ?_
        repeat walk_at "x"
        refine sub_list (v := .int (b0 D)) (.own S2.best) (Int.natCast_nonneg _) (rng_get hDl) (szR hp10) ?_
        repeat walk_at "x"
        refine ⟨_, rfl, fun q => ?_, fun q => ?_⟩
        · have hb99 : b0 D < 99 := of_decide_eq_true q
          have hrow2 : dpRow N ov b0 D = (List.range N).foldl (dpCell N ov D) b0 := by unfold dpRow; rw [if_pos hb99]
          refine EX_cons (st := .Assign _ _ _) (ES_assign (EV_lc ?_))
          repeat walk_at "x"
          refine EV_b B g_range b_range ?_
          repeat walk_at "x"
          refine ⟨KP_type, CV_range1 ?_⟩
          refine LC_pure (List.range N) _ (suBit D) intN (ok := fun _ => True) (seq_nats hA'.handled (by (first | lia | omega))) trivial (by rw [List.length_range]; (first | lia | omega)) (fun k hk LC hLC => ?_) fun il hil hil0 => ?_
          · rw [List.mem_range] at hk
            rw [show (0 + (k : Int) * 1) = ((k : Nat) : Int) from by (first | lia | omega)]
            repeat walk_at "x"
            refine EV_cell (c := L + 2) (by with_unfolding_all rfl) d2 ?_
            repeat walk_at "x"
            refine O2_pow2 (Nat.le_trans (Nat.le_of_lt hk) hN) ?_
            have hk1 := Nat.two_pow_pos k
            have hk2 : 2 ^ k ≤ 2 ^ 10 := Nat.pow_le_pow_right (by decide) (by (first | lia | omega))
            refine O2_div (by (first | lia | omega)) (by (first | lia | omega)) ?_
            repeat walk_at "x"
            refine O2_mod (by decide) ?_
            repeat walk_at "x"
            rw [bit_val]
            refine ⟨_, rfl, fun q2 => ⟨q2.symm, rfl, fun _ => ?_⟩, fun q2 => ⟨q2.symm, rfl, fun h => by cases h⟩⟩
            repeat walk_at "x"
            exact ⟨rfl, rfl⟩
          have eil : ((List.range N).filter (suBit D)).map intN = (suIn N D).map intN := rfl
          rw [eil]
          obtain ⟨v3, hv3⟩ := S2.ins
          have il3 : il ≠ L + 3 := fun e => by rw [← e, hil] at hv3; cases hv3
          have il2 : il ≠ L + 2 := fun e => by rw [← e, hil] at d2; cases d2
          have ilb : il ≠ bl := fun e => by have := S2.best; rw [← e, hil] at this; cases this
          refine ASG_cell (c := L + 3) (v₀ := v3) (by with_unfolding_all rfl) (at_ne (Ne.symm il3) hv3) ?_
          have S4 : LS N Hc ((H₃.set il (.list ((suIn N D).map intN))).set (L + 3) (.cell (some (.ref il)))) L bl b0 := by
            refine ⟨?_, ⟨_, by rw [CH.set_ne h23, CH.set_ne (Ne.symm il2)]; exact d2⟩, ⟨_, CH.set_same⟩, fun b h1 h2 h3 => ?_⟩
            · rw [CH.set_ne obl.2.2, CH.set_ne (Ne.symm ilb)]; exact S2.best
            · have h := S2.keep b h1 h2 h3
              rw [CH.set_ne h3, CH.set_ne (ne_out (by rw [h]; exact h1) hil)]; exact h
          have d4 : ((H₃.set il (.list ((suIn N D).map intN))).set (L + 3) (.cell (some (.ref il)))) (L + 2) = some (.cell (some (.int D))) := by rw [CH.set_ne h23, CH.set_ne (Ne.symm il2)]; exact d2
          have i4 : ((H₃.set il (.list ((suIn N D).map intN))).set (L + 3) (.cell (some (.ref il)))) (L + 3) = some (.cell (some (.ref il))) := CH.set_same
          have l4 : ((H₃.set il (.list ((suIn N D).map intN))).set (L + 3) (.cell (some (.ref il)))) il = some (.list ((suIn N D).map intN)) := by rw [CH.set_ne il3, CH.set_same]
          clear S2 d2 hv3 hil
          generalize ((H₃.set il (.list ((suIn N D).map intN))).set (L + 3) (.cell (some (.ref il)))) = H₄ at *
          have hin : (suIn N D).length ≤ N := Nat.le_trans (List.length_filter_le ..) (by rw [List.length_range]; exact Nat.le_refl _)
          have kids4 : ∀ {H' : CH} {bf : Nat → Int}, LS N Hc H' L bl bf → H' (L + 1) = some (.cell (some (.ref kl))) ∧ H' kl = some (.list (ks.map .ref)) ∧ ∀ j (hj : j < ks.length), H' ks[j] = some (.list ((suKids N ov j).map intN)) := fun S =>
            ⟨(S.keep _ (sn hc1) h12 h13).trans hc1, (S.keep _ (sn hckl) okl.1 okl.2).trans hckl, fun j hj => (S.keep _ (sn (hck j hj)) (ok j hj).1 (ok j hj).2).trans (hck j hj)⟩
          repeat walk_at "x"
          refine EV_b B g_len b_len ?_
          repeat walk_at "x"
          refine EV_cell (c := L + 3) (by with_unfolding_all rfl) i4 ?_
          repeat walk_at "x"
          refine ⟨KP_built, CV_lenM (.own l4) (szM (Nat.le_trans hin hN')) ?_⟩
          repeat walk_at "x"
          refine EV_b B g_sum b_sum ?_
          repeat walk_at "x"
          refine EV_lc ?_
          refine EV_cell (c := L + 3) (by with_unfolding_all rfl) i4 ?_
          refine LC_pure (suIn N D) intN (fun _ => true) (fun k => .int ((suKids N ov k).length)) (ok := fun H' => H' il = some (.list ((suIn N D).map intN))) (seq_own hA'.handled l4) l4 (by (first | lia | omega)) (fun k hk LC hLC => ?_) fun sl hsl hsl0 => ?_
          · have hkN : k < N := List.mem_range.mp (List.mem_filter.mp hk).1
            have hkh : k < ks.length := by (first | lia | omega)
            obtain ⟨w1, w2, w3⟩ := kids4 S4
            repeat walk_at "x"
            refine ⟨rfl, rfl, fun _ => ?_⟩
            repeat walk_at "x"
            refine EV_b (by exact B) g_len b_len ?_
            repeat walk_at "x"
            refine EV_cell (c := L + 1) (by with_unfolding_all rfl) w1 ?_
            repeat walk_at "x"
            refine sub_list (v := .ref ks[k]) (.own w2) (Int.natCast_nonneg _) (by simp [hkh]) (szM hks') ?_
            repeat walk_at "x"
            refine ⟨KP_built, CV_lenM (.own (w3 k hkh)) (szM (Nat.le_trans (hkle k) hN')) ?_⟩
            repeat walk_at "x"
            exact ⟨rfl, rfl⟩
          have esum : (((suIn N D).filter fun _ => true).map fun k => V.int ((suKids N ov k).length : Nat)) = ((suIn N D).map fun k => ((suKids N ov k).length : Int)).map .int := by rw [List.filter_eq_self.mpr (fun _ _ => rfl), List.map_map]; rfl
          rw [esum]
          repeat walk_at "x"
          refine ⟨KP_built, CV_sum hA'.handled (.own CH.set_same) ?_⟩
          repeat walk_at "x"
          rw [show (((suIn N D).length : Int) - ((suIn N D).map fun k => ((suKids N ov k).length : Int)).sum) = suHeldOf N ov (suIn N D) from rfl]
          have k45 : ∀ b, H₄ b ≠ none → (H₄.set sl (.list (((suIn N D).map fun k => ((suKids N ov k).length : Int)).map .int))) b = H₄ b := fun b hb => CH.set_ne (ne_out hb hsl)
          have S5 := S4.more k45
          have d5 := (k45 (L + 2) (sn d4)).trans d4
          have i5 := (k45 (L + 3) (sn i4)).trans i4
          have l5 := (k45 il (sn l4)).trans l4
          clear k45 S4 d4 i4 l4 hsl esum
          generalize (H₄.set sl (.list (((suIn N D).map fun k => ((suKids N ov k).length : Int)).map .int))) = H₅ at *
          refine EX_cons (st := .For _ _ _ _ _) (ES_for' ?_)
          repeat walk_at "x"
          refine EV_b B g_range b_range ?_
          repeat walk_at "x"
          refine ⟨KP_type, CV_range1 ?_⟩
          refine ⟨_, (fun _ => True), [("held", .int (suHeldOf N ov (suIn N D))), ("best", .ref bl), ("size", .int N)], LsJ N ov Hc L bl il D b0, seq_nats hA'.handled (by (first | lia | omega)), .cons rfl (.cons rfl (.cons rfl .nil)), ⟨rfl, S5, d5, i5, l5, ilb⟩, ?_⟩
          clear S5 d5 i5 l5
          rintro j m' H' ⟨rfl, S, d, ic, li, _⟩
          refine ⟨trivial, fun y hy => ?_, fun hi => ?_⟩
          · rw [List.getElem?_map] at hy
            by_cases hjN : j < N
            · rw [List.getElem?_range hjN] at hy
              have e1 := Option.some.inj hy
              have e2 : y = .int ((j : Nat) : Int) := by rw [← e1]; show V.int _ = _; congr 1; (first | lia | omega)
              subst e2
              have hjh : j < ks.length := by (first | lia | omega)
              have hcellj : (List.range (j + 1)).foldl (dpCell N ov D) b0 = dpCell N ov D ((List.range j).foldl (dpCell N ov D) b0) j := by rw [List.range_succ, List.foldl_append]; rfl
              have hbD : (List.range j).foldl (dpCell N ov D) b0 D = (List.range j).foldl (dpCell N ov D) b0 D := rfl
              generalize (List.range j).foldl (dpCell N ov D) b0 = b1 at *
              have no : suMay N ov D j = false → LsJ N ov Hc L bl il D b0 (j + 1) ([("held", .int (suHeldOf N ov (suIn N D))), ("best", .ref bl), ("size", .int N)] : Loc) H' := fun hm => ⟨rfl, by rw [hcellj]; unfold dpCell; rw [hm]; exact S, d, ic, li, ilb⟩
              repeat walk_at "x"
              walk_at "xi"
              refine EV_cell (c := L + 3) (by with_unfolding_all rfl) ic ?_
              have hun := hA'.units
              refine O2_notinl (.own li) dr_nats (.int _) nats_ok rfl (by (first | lia | omega)) fun c1 hc1' => ?_
              have ec1 : c1 = !suBit D j := by
                rw [Bool.eq_iff_iff, hc1', mem_nats, mem_suIn hjN]; simp
              subst ec1
              refine ⟨_, rfl, fun q1 => ?_, fun q1 => ⟨fun h => (by cases h), fun _ => ?_⟩⟩
              · have hbit : suBit D j = false := by simpa using q1
                obtain ⟨w1, w2, w3⟩ := kids4 S
                repeat walk_at "x"
                refine EV_lc ?_
                repeat walk_at "x"
                refine EV_cell (c := L + 1) (by with_unfolding_all rfl) w1 ?_
                repeat walk_at "x"
                refine sub_list (v := .ref ks[j]) (.own w2) (Int.natCast_nonneg _) (by simp [hjh]) (szM hks') ?_
                refine LC_pure (suKids N ov j) intN (fun k => !suBit D k) intN (ok := fun H' => H' ks[j] = some (.list ((suKids N ov j).map intN))) (seq_own hA'.handled (w3 j hjh)) (w3 j hjh) (by have := hkle j; (first | lia | omega)) (fun k hk LC hLC => ?_) fun fl hfl hfl0 => ?_
                · have hkN : k < N := (mem_kids.mp hk).1
                  repeat walk_at "x"
                  refine EV_cell (c := L + 3) (by with_unfolding_all rfl) ic ?_
                  refine O2_notinl (.own li) dr_nats (.int _) nats_ok rfl (by exact Nat.lt_of_le_of_lt (by (first | lia | omega)) hun) fun c2 hc2' => ?_
                  have ec2 : c2 = !suBit D k := by
                    rw [Bool.eq_iff_iff, hc2', mem_nats, mem_suIn hkN]; simp
                  refine ⟨_, rfl, fun q2 => ⟨by rw [← ec2]; exact q2.symm, rfl, fun _ => ?_⟩, fun q2 => ⟨by rw [← ec2]; exact q2.symm, rfl, fun h => by cases h⟩⟩
                  repeat walk_at "x"
                  exact ⟨rfl, rfl⟩
                repeat walk_at "x"
                refine EV_list ?_
                repeat walk_at "x"
                refine ⟨by decide, fun el hel => ?_⟩
                have fe : fl ≠ el := fun e => by rw [e, CH.set_same] at hel; cases hel
                refine O2_eqd (.list (.own (by rw [CH.set_ne fe, CH.set_same])) dr_nats) (.list (.own CH.set_same) .nil) nats_ok2 (by rfl) (by (first | lia | omega)) fun c3 hc3' => ?_
                have ec3 : c3 = suMay N ov D j := by
                  rw [Bool.eq_iff_iff, hc3', suMay_eq]
                  constructor
                  · intro h
                    injection h with h
                    exact ⟨hbit, List.map_eq_nil_iff.mp h⟩
                  · intro h; rw [h.2]; rfl
                have hel' : H' el = none := by rw [CH.set_ne (Ne.symm fe)] at hel; exact hel
                have k6 : ∀ b, H' b ≠ none → ((H'.set fl (.list (((suKids N ov j).filter fun k => !suBit D k).map intN))).set el (.list [])) b = H' b := fun b hb => by rw [CH.set_ne (ne_out hb hel'), CH.set_ne (ne_out hb hfl)]
                have S6 := S.more k6
                have d6 := (k6 (L + 2) (sn d)).trans d
                have i6 := (k6 (L + 3) (sn ic)).trans ic
                have l6 := (k6 il (sn li)).trans li
                clear S d ic li no w1 w2 w3 hc3' k6 hel hfl fe hel'
                generalize ((H'.set fl (.list (((suKids N ov j).filter fun k => !suBit D k).map intN))).set el (.list [])) = H₆ at *
                subst ec3
                refine ⟨_, rfl, fun q3 => ?_, fun q3 => ?_⟩
                · have hnew := new_lt hDl hjN hbit
                  repeat walk_at "x"
                  refine EV_cell (c := L + 2) (by with_unfolding_all rfl) d6 ?_
                  repeat walk_at "x"
                  refine O2_pow2 (Nat.le_trans (Nat.le_of_lt hjN) hN) ?_
                  repeat walk_at "x"
                  rw [← Int.natCast_add]
                  refine EV_b B g_min b_min ?_
                  repeat walk_at "x"
                  refine sub_list (v := .int (b1 (D + 2 ^ j))) (.own S6.best) (Int.natCast_nonneg _) (rng_get hnew) (szR hp10) ?_
                  repeat walk_at "x"
                  refine EV_b B g_max2 b_max2 ?_
                  repeat walk_at "x"
                  refine EV_cell (c := L + 2) (by with_unfolding_all rfl) d6 ?_
                  refine sub_list (v := .int (b1 D)) (.own S6.best) (Int.natCast_nonneg _) (rng_get hDl) (szR hp10) ?_
                  repeat walk_at "x"
                  refine ⟨KP_built, CV_max2 hA'.handled ?_⟩
                  rw [max_if2]
                  repeat walk_at "x"
                  refine ⟨KP_built, CV_min2 hA'.handled ?_⟩
                  rw [min_if]
                  repeat walk_at "x"
                  refine set_rng S6.best hnew hp10 ?_
                  have S7 : LS N Hc (H₆.set bl (.list ((List.range (2 ^ N)).map fun k => V.int (dpSet b1 (D + 2 ^ j) (min (b1 (D + 2 ^ j)) (max (b1 D) (suHeldOf N ov (suIn N D) + 1))) k)))) L bl (dpSet b1 (D + 2 ^ j) (min (b1 (D + 2 ^ j)) (max (b1 D) (suHeldOf N ov (suIn N D) + 1)))) :=
                    ⟨CH.set_same, ⟨_, at_ne (Ne.symm obl.2.1) d6⟩, ⟨_, at_ne (Ne.symm obl.2.2) i6⟩, fun b h1 h2 h3 => by rw [CH.set_ne (ne_out h1 hblc)]; exact S6.keep b h1 h2 h3⟩
                  repeat walk_at "x"
                  exact ⟨_, .cons rfl (.cons rfl (.cons rfl .nil)), rfl, by rw [hcellj]; unfold dpCell; rw [if_pos q3]; exact S7, at_ne (Ne.symm obl.2.1) d6, at_ne (Ne.symm obl.2.2) i6, at_ne ilb l6, ilb⟩
                · repeat walk_at "x"
                  exact ⟨_, .cons rfl (.cons rfl (.cons rfl .nil)), rfl, by rw [hcellj]; unfold dpCell; rw [q3]; exact S6, d6, i6, l6, ilb⟩
              · have hbit : suBit D j = true := by simpa using q1
                have hm : suMay N ov D j = false := by unfold suMay; rw [hbit]; rfl
                repeat walk_at "x"
                exact ⟨_, .cons rfl (.cons rfl (.cons rfl .nil)), no hm⟩
            · rw [List.getElem?_eq_none (by simp; (first | lia | omega))] at hy; cases hy
          · have : j = N := by rw [hi]; simp
            subst this
            repeat walk_at "x"
            refine ⟨_, .cons rfl (.cons rfl .nil), rfl, ?_⟩
            rw [hrow, hrow2]; exact S
        · have hb99 : ¬ b0 D < 99 := of_decide_eq_false q
          repeat walk_at "x"
          refine ⟨_, .cons rfl (.cons rfl .nil), rfl, ?_⟩
          rw [hrow]; unfold dpRow; rw [if_neg hb99]; exact S2
      · rw [List.getElem?_eq_none (by simp; (first | lia | omega))] at hy; cases hy
    · have : D = 2 ^ N := by rw [hi]; simp
      subst this
      repeat walk_at "x"
      exact ⟨rfl, S⟩
  · obtain ⟨rfl, S⟩ := hM
    repeat walk_at "x"
    refine O2_pow2 hN ?_
    repeat walk_at "x"
    rw [show (((2 ^ N : Nat) : Int) - 1) = ((2 ^ N - 1 : Nat) : Int) from by (first | lia | omega)]
    refine sub_list (v := .int ((List.range (2 ^ N)).foldl (dpRow N ov) dpInit (2 ^ N - 1))) (.own S.best) (Int.natCast_nonneg _) (rng_get (by (first | lia | omega))) (szR hp10) ?_
    repeat walk_at "x"
    refine ⟨rfl, fun b hb => ?_⟩
    have h1 := kc b hb
    exact (S.keep b (by rw [h1]; exact hb) (out hb).1 (out hb).2).trans h1
end
end
section
theorem g_list {P : Params} : nsIn (KK P) mainGlobals "list" = some none := by kernel_rfl
theorem b_list : bootBuiltins "list" = some (.type "list") := by kernel_rfl
theorem g_told {P : Params} : nsIn (KK P) mainGlobals "_law_told" = some (some (.ref a_told)) := by kernel_rfl
theorem g_least {P : Params} : nsIn (KK P) mainGlobals "_law_least" = some (some (.ref a_least)) := by kernel_rfl
/-- over, from the values behind the root's -/
noncomputable def ovOf (vs : List Int) (k : Nat) : Int := if k = 0 then -1 else vs.getD (k - 1) 0
theorem ov_tree {N : Nat} {vs : List Int} (hN : 1 ≤ N) (hl : vs.length = N - 1) (hv : ∀ (k : Nat) (v : Int), vs[k]? = some v → 0 ≤ v ∧ v ≤ k) : Tree N (ovOf vs) := by
  refine ⟨by (first | lia | omega), rfl, fun k h0 hk => ?_⟩
  unfold ovOf
  rw [if_neg (by (first | lia | omega)), List.getD_eq_getElem?_getD, List.getElem?_eq_getElem (by (first | lia | omega))]
  have := hv (k - 1) _ (List.getElem?_eq_getElem (by (first | lia | omega) : k - 1 < vs.length))
  show 0 ≤ vs[k - 1] ∧ vs[k - 1] < k
  (first | lia | omega)
theorem ov_list {N : Nat} {vs : List Int} (hN : 1 ≤ N) (hl : vs.length = N - 1) : [V.int (-1)] ++ vs.map .int = (List.range N).map fun k => .int (ovOf vs k) := by
  obtain ⟨n, rfl⟩ : ∃ n, N = n + 1 := ⟨N - 1, by (first | lia | omega)⟩
  rw [List.range_succ_eq_map, List.map_cons, List.map_map]
  show V.int (-1) :: vs.map .int = _
  congr 1
  apply List.ext_getElem?
  intro i
  rw [List.getElem?_map, List.getElem?_map]
  by_cases hi : i < n
  · rw [List.getElem?_range hi, List.getElem?_eq_getElem (by (first | lia | omega))]
    show some (V.int vs[i]) = some (V.int (ovOf vs (i + 1)))
    unfold ovOf
    rw [if_neg (by (first | lia | omega)), List.getD_eq_getElem?_getD, List.getElem?_eq_getElem (by (first | lia | omega) : i + 1 - 1 < vs.length)]
    rfl
  · rw [List.getElem?_eq_none (by (first | lia | omega)), List.getElem?_eq_none (by simp; (first | lia | omega))]; rfl
theorem dr_ints {C : Cx} {H : CH} {l : List Int} : DRs C H (l.map .int) (l.map fun k : Int => Dat.int k) := DRs.map fun k _ => .int _
theorem ints_ok {l : List Int} : kqdOk 8 (.list (l.map fun k : Int => Dat.int k)) = true := by
  show ((l.map fun k : Int => Dat.int k).all (kqdOk 7)) = true
  rw [List.all_map, List.all_eq_true]; intro k _; rfl
theorem rng_ints {N : Nat} : rangeInts 0 1 N = ((List.range N).map fun k : Nat => (k : Int)).map .int := by
  unfold rangeInts
  rw [List.map_map]
  exact List.map_congr_left fun k _ => by show V.int (0 + (k : Int) * 1) = V.int (k : Int); congr 1; (first | lia | omega)
theorem rng_sorted {N : Nat} : ((List.range N).map fun k : Nat => (k : Int)).Pairwise (· ≤ ·) := by
  rw [List.pairwise_map]
  exact List.pairwise_lt_range.imp fun {a b} h => by show (a : Int) ≤ b; (first | lia | omega)
theorem size_of (n : Nat) : ∃ N : Nat, (if (9 : Int) < n then 9 else (n : Int)) + 1 = N ∧ 1 ≤ N ∧ N ≤ 10 := by
  by_cases h : (9 : Int) < n
  · exact ⟨10, by rw [if_pos h]; rfl, by (first | lia | omega), by (first | lia | omega)⟩
  · exact ⟨n + 1, by rw [if_neg h]; rfl, by (first | lia | omega), by (first | lia | omega)⟩
noncomputable def LwJ (Hx : CH) (i : Nat) (ys : List V) (H' : CH) : Prop := ∃ vs : List Int, ys = vs.map .int ∧ vs.length = i ∧ (∀ (k : Nat) (v : Int), vs[k]? = some v → 0 ≤ v ∧ v ≤ k) ∧ i ≤ 10 ∧ ∀ b, Hx b ≠ none → H' b = Hx b
noncomputable def LwK (N : Nat) (ov : Nat → Int) (Hx : CH) (c : Addr) (i : Nat) (ys : List V) (H' : CH) : Prop := ∃ ks : List Addr, ys = ks.map .ref ∧ ks.length = i ∧ (∀ j (hj : j < ks.length), H' ks[j] = some (.list ((suKids N ov j).map intN))) ∧ i ≤ N ∧ (∀ b, Hx b ≠ none → H' b = Hx b) ∧ ∃ v, H' c = some (.cell v)
noncomputable def LwP (N : Nat) (ov : Nat → Int) (od : List Nat) (H₀ : CH) (base : Loc) (i : Nat) (m' : Loc) (H' : CH) : Prop := m' = ((("held" : Str), V.int ((od.take i).foldl (suStep N ov) (0, 0)).1) :: (("most" : Str), V.int ((od.take i).foldl (suStep N ov) (0, 0)).2) :: base : Loc) ∧ H' = H₀
noncomputable def LawV (H : CH) (v : V) (H' : CH) : Prop := v = .bool true ∧ ∀ b, H b ≠ none → H' b = H b
theorem max_if3 {a b : Int} : (if b > a then b else a) = max a b := by split <;> (first | lia | omega)
section
variable {C : Cx} {A : Around} {m : Loc} {H : CH} {s : Shared} {mg mb : Str → Option Value} {P : Params}
theorem EV_and {x y : PySem.Expr} {p : Pos} {Q : V → Loc → CH → Prop} (h : EV C A x m H fun v m₁ H₁ => OB C A truthy v m₁ H₁ fun b m₂ H₂ => (b = true → EV C A y m₂ H₂ Q) ∧ (b = false → Q v m₂ H₂)) : EV C A (.BoolOp .And [x, y] p) m H Q := fun s S => by
  refine BoolOp_and (wpAny_mono (h s S) ?_ fun _ _ x => x)
  rintro r s₁ ⟨v, m₁, H₁, hv, S₁, af₁, h₁⟩
  refine wpAny_mono (h₁ s₁ r S₁ hv) ?_ fun _ _ x => x
  rintro b s₂ ⟨m₂, H₂, S₂, af₂, h₂⟩
  cases b with
  | false => exact ⟨v, m₂, H₂, hv.keep (af₂.tup S₁), S₂, af₁.then S₁ af₂, h₂.2 rfl⟩
  | true => exact BoolOp_one (wpAny_mono (h₂.1 rfl s₂ S₂) (fun _ _ x => x.mono S₂ (af₁.then S₁ af₂)) fun _ _ x => x)
set_option maxHeartbeats 8000000 in
theorem spec_law {l : Addr} {ns : List Int} {items : Array Value} (hlen : ns.length ≤ 63) (B : Bs C.h₀ (KK P) mg mb) {n : Nat} (hA : AOK C A (n + 12)) (hl : C.h₀.get? l = some (seqObj "list" items 0)) (hv : VRs C.h₀ (ns.map .int) items.toList) (hP : H 185 = some (.tab qsT)) :
    CALL C A (.con (.ref a_law)) [.ref l] [] H (LawV H) := by
  have hz : 1000000 < sizeLine := by decide
  refine CALL_cells (m' := [("script", .ref l)]) B (by with_unfolding_all rfl) (by with_unfolding_all rfl) hA rfl bz1 (by intro L; simp [cellsFrom]; repeat (first | (with_unfolding_all rfl) | apply And.intro)) (by kernel_rfl) fun L hL hA' => ?_
  have hcell : setCells (cellsFrom (L + 1) [("script", .local), ("numbers", .cell), ("size", .cell), ("j", .local), ("over", .cell), ("kids", .local), ("told", .local), ("need", .local), ("order", .local), ("held", .local), ("most", .local), ("len", .globalImplicit), ("min", .globalImplicit), ("range", .globalImplicit), ("_law_told", .globalImplicit), ("sorted", .globalImplicit), ("list", .globalImplicit), ("max", .globalImplicit), ("_law_least", .globalImplicit)] []) (fun x => (([("script" : Str)].zip [V.ref l]).reverse.lookup x)) H = (((H.set (L + 1) (.cell none)).set (L + 2) (.cell none)).set (L + 3) (.cell none)) := by
    kernel_rfl
  rw [hcell]
  have hL1 := (hL (L + 1) (Nat.le_succ L)).1
  have hL2 := (hL (L + 2) (Nat.le_add_right L 2)).1
  have hL3 := (hL (L + 3) (Nat.le_add_right L 3)).1
  have h12 : L + 1 ≠ L + 2 := Nat.ne_of_lt (Nat.lt_succ_self (L + 1))
  have h23 : L + 2 ≠ L + 3 := Nat.ne_of_lt (Nat.lt_succ_self (L + 2))
  have h13 : L + 1 ≠ L + 3 := Nat.ne_of_lt (Nat.lt_succ_of_lt (Nat.lt_succ_self (L + 1)))
  have kc : ∀ b, H b ≠ none → (((H.set (L + 1) (.cell none)).set (L + 2) (.cell none)).set (L + 3) (.cell none)) b = H b := fun b hb => by rw [CH.set_ne (ne_out hb hL3), CH.set_ne (ne_out hb hL2), CH.set_ne (ne_out hb hL1)]
  have hc1 : (((H.set (L + 1) (.cell none)).set (L + 2) (.cell none)).set (L + 3) (.cell none)) (L + 1) = some (.cell none) := by rw [CH.set_ne h13, CH.set_ne h12, CH.set_same]
  have hc2 : (((H.set (L + 1) (.cell none)).set (L + 2) (.cell none)).set (L + 3) (.cell none)) (L + 2) = some (.cell none) := by rw [CH.set_ne h23, CH.set_same]
  have hc3 : (((H.set (L + 1) (.cell none)).set (L + 2) (.cell none)).set (L + 3) (.cell none)) (L + 3) = some (.cell none) := CH.set_same
  generalize (((H.set (L + 1) (.cell none)).set (L + 2) (.cell none)).set (L + 3) (.cell none)) = Hc at *
  -- numbers
  refine EX_cons (st := .Assign _ _ _) (ES_assign (EV_bin (EV_local (by with_unfolding_all rfl) (EV_slice ?_))))
  refine EV_list ?_
  repeat walk_at "x"
  refine ⟨by decide, fun z1 hz1 => ?_⟩
  refine EV_b B g_len b_len ?_ |> EV_call
  repeat walk_at "x"
  refine ⟨KP_built, CV_len (.base items 0 hl hv) (by rw [List.length_map]; (first | lia | omega)) ?_⟩
  refine ⟨z1, _, _, rfl, rfl, .own CH.set_same, by decide, fun z2 hz2 => ?_⟩
  have hzz : (pickL [V.int 0, .int 0, .int 0, .int 0] (some ((ns.map V.int).length : Int)) none none) = (pickL [(0 : Int), 0, 0, 0] (some ((ns.map V.int).length : Int)) none none).map .int := pickL_map V.int [(0 : Int), 0, 0, 0] _ _ _
  rw [hzz]
  have hzl := pickL_len [(0 : Int), 0, 0, 0] (some ((ns.map V.int).length : Int)) none none
  generalize (pickL [(0 : Int), 0, 0, 0] (some ((ns.map V.int).length : Int)) none none) = zs at *
  have hzl4 : zs.length ≤ 4 := hzl
  refine add_lists (.base items 0 hl hv) (.own CH.set_same) (by rw [List.length_map, List.length_map]; (first | lia | omega)) fun nl hnl => ?_
  rw [← List.map_append]
  have z12 : z2 ≠ z1 := fun e => by rw [e, CH.set_same] at hz2; cases hz2
  have nl2 : nl ≠ z2 := fun e => by rw [e, CH.set_same] at hnl; cases hnl
  have nl1 : nl ≠ z1 := fun e => by rw [e, CH.set_ne (Ne.symm z12), CH.set_same] at hnl; cases hnl
  have hz2c : Hc z2 = none := by rw [CH.set_ne z12] at hz2; exact hz2
  have hnlc : Hc nl = none := by rw [CH.set_ne nl2, CH.set_ne nl1] at hnl; exact hnl
  have k1 : ∀ b, Hc b ≠ none → (((Hc.set z1 (.list [.int 0, .int 0, .int 0, .int 0])).set z2 (.list (zs.map .int))).set nl (.list ((ns ++ zs).map .int))) b = Hc b := fun b hb => by rw [CH.set_ne (ne_out hb hnlc), CH.set_ne (ne_out hb hz2c), CH.set_ne (ne_out hb hz1)]
  have n1 : (((Hc.set z1 (.list [.int 0, .int 0, .int 0, .int 0])).set z2 (.list (zs.map .int))).set nl (.list ((ns ++ zs).map .int))) nl = some (.list ((ns ++ zs).map .int)) := CH.set_same
  have hnumsl : (ns ++ zs).length ≤ 70 := by rw [List.length_append]; (first | lia | omega)
  clear z12 nl2 nl1 hz2c hz1 hz2 hnl hzz hzl hzl4
  generalize (((Hc.set z1 (.list [.int 0, .int 0, .int 0, .int 0])).set z2 (.list (zs.map .int))).set nl (.list ((ns ++ zs).map .int))) = H₁ at *
  generalize ns ++ zs = nums at *
  have nlL : nl ≠ L + 1 ∧ nl ≠ L + 2 ∧ nl ≠ L + 3 := ⟨(fun e => (by rw [e, hc1] at hnlc; cases hnlc)), (fun e => (by rw [e, hc2] at hnlc; cases hnlc)), fun e => (by rw [e, hc3] at hnlc; cases hnlc)⟩
  refine ASG_cell (c := L + 1) (by with_unfolding_all rfl) ((k1 _ (sn hc1)).trans hc1) ?_
  have k2 : ∀ b, Hc b ≠ none → b ≠ L + 1 → (H₁.set (L + 1) (.cell (some (.ref nl)))) b = Hc b := fun b hb hn => by rw [CH.set_ne hn]; exact k1 b hb
  have n2 : (H₁.set (L + 1) (.cell (some (.ref nl)))) nl = some (.list (nums.map .int)) := at_ne nlL.1 n1
  have c12 : (H₁.set (L + 1) (.cell (some (.ref nl)))) (L + 1) = some (.cell (some (.ref nl))) := CH.set_same
  clear k1 n1
  generalize (H₁.set (L + 1) (.cell (some (.ref nl)))) = H₂ at *
  repeat walk_at "x"
  refine EV_b B g_min b_min ?_
  repeat walk_at "x"
  refine EV_b B g_len b_len ?_
  repeat walk_at "x"
  refine EV_cell (c := L + 1) (by with_unfolding_all rfl) c12 ?_
  repeat walk_at "x"
  refine ⟨KP_built, CV_lenM (.own n2) (by rw [List.length_map]; (first | lia | omega)) ?_⟩
  repeat walk_at "x"
  refine ⟨KP_built, CV_min2 hA'.handled ?_⟩
  repeat walk_at "x"
  obtain ⟨N, eN, hN1, hN10⟩ := size_of nums.length
  rw [eN]
  refine ASG_cell (c := L + 2) (by with_unfolding_all rfl) ((k2 _ (sn hc2) (Ne.symm h12)).trans hc2) ?_
  have k3 : ∀ b, Hc b ≠ none → b ≠ L + 1 → b ≠ L + 2 → (H₂.set (L + 2) (.cell (some (.int N)))) b = Hc b := fun b hb hn hn2 => by rw [CH.set_ne hn2]; exact k2 b hb hn
  have n3 : (H₂.set (L + 2) (.cell (some (.int N)))) nl = some (.list (nums.map .int)) := at_ne nlL.2.1 n2
  have c13 : (H₂.set (L + 2) (.cell (some (.int N)))) (L + 1) = some (.cell (some (.ref nl))) := at_ne h12 c12
  have c23 : (H₂.set (L + 2) (.cell (some (.int N)))) (L + 2) = some (.cell (some (.int N))) := CH.set_same
  clear k2 n2 c12 eN
  generalize (H₂.set (L + 2) (.cell (some (.int N)))) = H₃ at *
  repeat walk_at "x"
  refine EV_list ?_
  repeat walk_at "x"
  refine O1_neg ?_
  repeat walk_at "x"
  refine ⟨by decide, fun q1 hq1 => ?_⟩
  repeat walk_at "x"
  have k4 : ∀ b, H₃ b ≠ none → (H₃.set q1 (.list [.int (-1)])) b = H₃ b := fun b hb => CH.set_ne (ne_out hb hq1)
  have q4 : (H₃.set q1 (.list [.int (-1)])) q1 = some (.list [.int (-1)]) := CH.set_same
  generalize (H₃.set q1 (.list [.int (-1)])) = H₄ at *
  have c24 := (k4 _ (sn c23)).trans c23
  refine EV_lc ?_
  repeat walk_at "x"
  refine EV_b B g_range b_range ?_
  repeat walk_at "x"
  refine EV_cell (c := L + 2) (by with_unfolding_all rfl) c24 ?_
  repeat walk_at "x"
  rw [show ((N : Int) - 1) = ((N - 1 : Nat) : Int) from by (first | lia | omega)]
  refine ⟨KP_type, CV_range1 ?_⟩
  refine ⟨_, (fun _ => True), LwJ H₄, seq_nats hA'.handled (by (first | lia | omega)), ⟨?_⟩, ⟨[], rfl, rfl, by intro k v h; simp at h, by (first | lia | omega), fun _ _ => rfl⟩, ?_⟩
  · rintro i ys H' ⟨vs, rfl, hvl, hvv, hi, hk⟩
    refine ⟨trivial, by rw [List.length_map]; (first | lia | omega), fun x hx LC hLC => ?_⟩
    rw [List.getElem?_map] at hx
    by_cases hiN : i < N - 1
    · rw [List.getElem?_range hiN] at hx
      have e1 := Option.some.inj hx
      have e2 : x = .int ((i : Nat) : Int) := by rw [← e1]; show V.int _ = _; congr 1; (first | lia | omega)
      subst e2
      have k' : ∀ {b : Addr} {o : CObj}, H₃ b = some o → H' b = some o := fun {b o} e => by
        have h4 := (k4 b (sn e)).trans e
        exact (hk b (sn h4)).trans h4
      repeat walk_at "x"
      refine ⟨fun _ => ?_, fun h => (by cases h)⟩
      refine EV_bin (EV_call ?_)
      refine EV_b (by exact B) g_sum b_sum ?_
      refine EL_cons (EV_sliceStep ?_)
      refine EV_cell (c := L + 1) (by with_unfolding_all rfl) (k' c13) ?_
      repeat walk_at "x"
      refine ⟨nl, _, _, _, rfl, rfl, rfl, by decide, .own (k' n3), by rw [List.length_map]; (first | lia | omega), fun zz hzz => ?_⟩
      rw [pickL_map]
      repeat walk_at "x"
      refine ⟨KP_built, CV_sum hA'.handled (.own CH.set_same) ?_⟩
      repeat walk_at "x"
      generalize (pickL nums (some ((i : Nat) : Int)) none (some 9)).sum = sm
      refine O2_mod (by (first | lia | omega)) ?_
      refine ⟨vs ++ [sm.fmod (i + 1)], by rw [List.map_append]; rfl, by simp [hvl], fun k v hkv => ?_, by (first | lia | omega), fun b hb => ?_⟩
      · by_cases e : k < vs.length
        · rw [List.getElem?_append_left e] at hkv; exact hvv k v hkv
        · have hkl : k = vs.length := by
            have := (List.getElem?_eq_some_iff.mp hkv).1
            simp at this; (first | lia | omega)
          subst hkl
          rw [List.getElem?_append_right (Nat.le_refl _)] at hkv
          have ev : v = sm.fmod (i + 1) := by simpa using hkv.symm
          have h1 := Int.fmod_nonneg_of_pos sm (show (0 : Int) < i + 1 by (first | lia | omega))
          have h2 := Int.fmod_lt_of_pos sm (show (0 : Int) < i + 1 by (first | lia | omega))
          (first | lia | omega)
      · have h := hk b hb
        rw [CH.set_ne (ne_out (by rw [h]; exact hb) hzz)]; exact h
    · rw [List.getElem?_eq_none (by simp; (first | lia | omega))] at hx; cases hx
  rintro ys H' D ⟨vs, rfl, hvl, hvv, _, hk⟩ hD hD0
  rw [List.length_map, List.length_range] at hvl
  have Tr := ov_tree hN1 hvl hvv
  have hqD : q1 ≠ D := fun e => by rw [← e, hk q1 (sn q4), q4] at hD; cases hD
  refine add_lists (.own (by rw [CH.set_ne hqD]; exact (hk q1 (sn q4)).trans q4)) (.own CH.set_same) (by rw [List.length_map]; simp only [List.length_cons, List.length_nil]; (first | lia | omega)) fun ol hol => ?_
  rw [ov_list hN1 hvl]
  generalize hov : ovOf vs = ov at *
  have olD : ol ≠ D := fun e => by rw [e, CH.set_same] at hol; cases hol
  have hol' : H' ol = none := by rw [CH.set_ne olD] at hol; exact hol
  have k5 : ∀ b, H₃ b ≠ none → ((H'.set D (.list (vs.map .int))).set ol (.list ((List.range N).map fun k => .int (ov k)))) b = H₃ b := fun b hb => by
    have h4 := k4 b hb
    have h := (hk b (by rw [h4]; exact hb)).trans h4
    rw [CH.set_ne (ne_out (by rw [h]; exact hb) hol'), CH.set_ne (ne_out (by rw [h]; exact hb) hD)]; exact h
  have o5 : ((H'.set D (.list (vs.map .int))).set ol (.list ((List.range N).map fun k => .int (ov k)))) ol = some (.list ((List.range N).map fun k => .int (ov k))) := CH.set_same
  have ol3 : H₃ ol = none := by
    cases w : H₃ ol with
    | none => rfl
    | some o =>
      have h4 := k4 ol (sn w)
      rw [hk ol (by rw [h4, w]; simp), h4, w] at hol'; cases hol'
  have c33 := (k3 _ (sn hc3) (Ne.symm h13) (Ne.symm h23)).trans hc3
  have olL : ol ≠ L + 3 := fun e => by rw [e, c33] at ol3; cases ol3
  clear hk hD hD0 hqD hol hol' olD q4 k4 hq1 c24 hvv hvl
  generalize ((H'.set D (.list (vs.map .int))).set ol (.list ((List.range N).map fun k => .int (ov k)))) = H₅ at *
  refine ASG_cell (c := L + 3) (by with_unfolding_all rfl) ((k5 _ (sn c33)).trans c33) ?_
  have k6 : ∀ b, H₃ b ≠ none → b ≠ L + 3 → (H₅.set (L + 3) (.cell (some (.ref ol)))) b = H₃ b := fun b hb hn => by rw [CH.set_ne hn]; exact k5 b hb
  have o6 : (H₅.set (L + 3) (.cell (some (.ref ol)))) ol = some (.list ((List.range N).map fun k => .int (ov k))) := at_ne olL o5
  have c36 : (H₅.set (L + 3) (.cell (some (.ref ol)))) (L + 3) = some (.cell (some (.ref ol))) := CH.set_same
  clear k5 o5 ol3 olL
  generalize (H₅.set (L + 3) (.cell (some (.ref ol)))) = H₆ at *
  have c26 := (k6 _ (sn c23) h23).trans c23
  refine SeqE.n ?_
  refine EX_cons (st := .Assign _ _ _) (ES_assign_lc1 (x₀ := "j") ?_)
  repeat walk_at "x"
  refine EV_b B g_range b_range ?_
  repeat walk_at "x"
  refine EV_cell (c := L + 2) (by with_unfolding_all rfl) c26 ?_
  repeat walk_at "x"
  refine ⟨KP_type, CV_range1 ?_⟩
  refine ⟨_, (fun _ => True), seq_nats hA'.handled (by (first | lia | omega)), fun c hc hc0 => ⟨LwK N ov H₆ c, ⟨?_⟩, ⟨[], rfl, rfl, (by intro j hj; simp at hj), Nat.zero_le _, fun b hb => CH.set_ne (ne_out hb hc), ⟨none, CH.set_same⟩⟩, ?_⟩⟩
  · rintro i ys H' ⟨ks, rfl, hkl, hkk, hi, hk, v0, hv0⟩
    refine ⟨trivial, by rw [List.length_map]; (first | lia | omega), fun x hx LC hLC => ?_⟩
    rw [List.getElem?_map] at hx
    by_cases hiN : i < N
    · rw [List.getElem?_range hiN] at hx
      have e1 := Option.some.inj hx
      have e2 : x = .int ((i : Nat) : Int) := by rw [← e1]; show V.int _ = _; congr 1; (first | lia | omega)
      subst e2
      refine ASG_cell (c := c) (by with_unfolding_all rfl) hv0 ?_
      have hk7 : ∀ b, H₆ b ≠ none → (H'.set c (.cell (some (.int i)))) b = H₆ b := fun b hb => by rw [CH.set_ne (ne_out hb hc)]; exact hk b hb
      have hkk7 : ∀ j (hj : j < ks.length), (H'.set c (.cell (some (.int i)))) ks[j] = some (.list ((suKids N ov j).map intN)) := fun j hj => by
        rw [CH.set_ne (fun e => by have := hkk j hj; rw [e, hv0] at this; cases this)]; exact hkk j hj
      have hc7 : (H'.set c (.cell (some (.int i)))) c = some (.cell (some (.int i))) := CH.set_same
      clear hk hkk hv0 v0
      generalize (H'.set c (.cell (some (.int i)))) = H₇ at *
      refine ETs_nil ⟨fun _ => ?_, fun h => (by cases h)⟩
      refine EV_lc ?_
      repeat walk_at "x"
      refine EV_b (by exact B) g_range b_range ?_
      repeat walk_at "x"
      refine EV_cell (c := L + 2) (by with_unfolding_all rfl) ((hk7 _ (sn c26)).trans c26) ?_
      repeat walk_at "x"
      refine ⟨KP_type, CV_range1 ?_⟩
      refine LC_pure (List.range N) _ (fun k => ov k == (i : Int)) intN (ok := fun _ => True) (seq_nats hA'.handled (by (first | lia | omega))) trivial (by rw [List.length_range]; (first | lia | omega)) (fun k hkm LC2 hLC2 => ?_) fun D hD hD0 => ?_
      · rw [List.mem_range] at hkm
        rw [show (0 + (k : Int) * 1) = ((k : Nat) : Int) from by (first | lia | omega)]
        repeat walk_at "x"
        refine EV_cell (c := L + 3) (by with_unfolding_all rfl) ((hk7 _ (sn c36)).trans c36) ?_
        repeat walk_at "x"
        refine sub_list (v := .int (ov k)) (.own ((hk7 _ (sn o6)).trans o6)) (Int.natCast_nonneg _) (rng_get hkm) (szR (Nat.le_trans hN10 (by decide))) ?_
        refine EV_cell (c := c) (by with_unfolding_all rfl) hc7 ?_
        repeat walk_at "x"
        refine ⟨_, rfl, fun q2 => ⟨by rw [← q2]; rfl, rfl, fun _ => ?_⟩, fun q2 => ⟨by rw [← q2]; rfl, rfl, fun h => (by cases h)⟩⟩
        repeat walk_at "x"
        exact ⟨rfl, rfl⟩
      · refine ⟨ks ++ [D], by simp, by simp [hkl], fun j hj => ?_, hiN, fun b hb => ?_, some (.int i), ?_⟩
        · by_cases e : j < ks.length
          · rw [List.getElem_append_left e, CH.set_ne (fun q => by have := hkk7 j e; rw [q, hD] at this; cases this)]; exact hkk7 j e
          · have ej : j = i := by simp at hj; (first | lia | omega)
            subst ej
            rw [List.getElem_append_right (by (first | lia | omega))]
            simp only [hkl, Nat.sub_self, List.getElem_cons_zero]
            rw [CH.set_same]; rfl
        · have h := hk7 b hb
          rw [CH.set_ne (ne_out (by rw [h]; exact hb) hD)]; exact h
        · rw [CH.set_ne (fun e => by rw [e, hD] at hc7; cases hc7)]; exact hc7
    · rw [List.getElem?_eq_none (by simp; (first | lia | omega))] at hx; cases hx
  rintro ys H' kl ⟨ks, rfl, hkl, hkk, _, hk, _⟩ hD hD0
  rw [List.length_map, List.length_range] at hkl
  have k7 : ∀ b, H₆ b ≠ none → (H'.set kl (.list (ks.map .ref))) b = H₆ b := fun b hb => by
    have h := hk b hb
    rw [CH.set_ne (ne_out (by rw [h]; exact hb) hD)]; exact h
  have kl7 : (H'.set kl (.list (ks.map .ref))) kl = some (.list (ks.map .ref)) := CH.set_same
  have kk7 : ∀ j (hj : j < ks.length), (H'.set kl (.list (ks.map .ref))) ks[j] = some (.list ((suKids N ov j).map intN)) := fun j hj => by
    rw [CH.set_ne (fun q => by have := hkk j hj; rw [q, hD] at this; cases this)]; exact hkk j hj
  clear hk hkk hD hD0
  generalize (H'.set kl (.list (ks.map .ref))) = H₇ at *
  have allk : ∀ b, H b ≠ none → H₇ b = H b := fun b hb => by
    have h0 := kc b hb
    have h3 := k3 b (by rw [h0]; exact hb) (ne_out hb hL1) (ne_out hb hL2)
    have h6 := k6 b (by rw [h3, h0]; exact hb) (ne_out hb hL3)
    exact (k7 b (by rw [h6, h3, h0]; exact hb)).trans (h6.trans (h3.trans h0))
  have c37 := (k7 _ (sn c36)).trans c36
  have c27 := (k7 _ (sn c26)).trans c26
  have o7 := (k7 _ (sn o6)).trans o6
  have hP7 := (allk 185 (sn hP)).trans hP
  clear k7 k6 k3 n3 c13 c23 c26 c36 o6 c33
  repeat walk_at "x"
  refine EV_g B g_told ?_
  repeat walk_at "x"
  refine EV_cell (c := L + 3) (by with_unfolding_all rfl) c37 ?_
  repeat walk_at "x"
  refine ⟨KP_K B (by with_unfolding_all rfl), CV_of ((spec_told Tr hN10 (by exact B) (n := n + 3) hA' o7 hP7).mono ?_)⟩
  rintro v H₈ ⟨need, ord, srt, r, hT, rfl, hr, hk8⟩
  obtain ⟨l1, l2, l3⟩ := su_law Tr hT (by (first | lia | omega))
  have hordl : (ord 0).length = N := by rw [l1.length_eq, List.length_range]
  have kl8 := (hk8 _ (sn kl7)).trans kl7
  have kk8 : ∀ j (hj : j < ks.length), H₈ ks[j] = some (.list ((suKids N ov j).map intN)) := fun j hj => (hk8 _ (sn (kk7 j hj))).trans (kk7 j hj)
  have c28 := (hk8 _ (sn c27)).trans c27
  have all8 : ∀ b, H b ≠ none → H₈ b = H b := fun b hb => by have h := allk b hb; exact (hk8 b (by rw [h]; exact hb)).trans h
  clear hk8 allk c37 c27 o7 kl7 kk7 hP7
  repeat walk_at "x"
  walk_at "xi"
  refine ⟨_, rfl, fun q => (by cases q), fun _ => ?_⟩
  repeat walk_at "x"
  refine EV_b B g_sorted b_sorted ?_
  repeat walk_at "x"
  refine sub_tup (v := .ref r) (by decide) rfl (by show 2 ≤ sizeLine; decide) ?_
  repeat walk_at "x"
  have hri : H₈ r = some (.list (((ord 0).map fun x : Nat => (x : Int)).map .int)) := by rw [hr, List.map_map]; rfl
  refine ⟨KP_built, CV_sorted_ints (.own hri) (by rw [List.length_map]; (first | lia | omega)) fun D1 ms hD1 _ hperm hsrt => ?_⟩
  repeat walk_at "x"
  refine EV_b B g_list b_list ?_
  repeat walk_at "x"
  refine EV_b B g_range b_range ?_
  repeat walk_at "x"
  refine EV_cell (c := L + 2) (by with_unfolding_all rfl) (at_ne (ne_out (sn c28) hD1) c28) ?_
  repeat walk_at "x"
  refine ⟨KP_type, CV_range1 ?_⟩
  repeat walk_at "x"
  refine ⟨KP_type, CV_list_rng hA'.handled (by (first | lia | omega)) fun D2 hD2 _ => ?_⟩
  have d12 : D1 ≠ D2 := fun e => by rw [← e, CH.set_same] at hD2; cases hD2
  have hms : ms = (List.range N).map fun k : Nat => (k : Int) := lks_uniq (hperm.trans (l1.map _)) hsrt rng_sorted
  subst hms
  refine O2_ned (.list (.own (by rw [CH.set_ne d12, CH.set_same])) dr_ints) (.list (.own CH.set_same) (by rw [rng_ints]; exact dr_ints)) ints_ok ints_ok (by have := hA'.units; (first | lia | omega)) fun b0 hb0 => ?_
  have hb0' : b0 = false := by
    cases b0 with
    | false => rfl
    | true => exact absurd rfl (hb0.mp rfl)
  subst hb0'
  refine ⟨_, rfl, fun q => (by cases q), fun _ => ?_⟩
  have hD2' : H₈ D2 = none := by rw [CH.set_ne (Ne.symm d12)] at hD2; exact hD2
  have k9 : ∀ b, H₈ b ≠ none → ((H₈.set D1 (.list (((List.range N).map fun k : Nat => (k : Int)).map .int))).set D2 (.list (rangeInts 0 1 N))) b = H₈ b := fun b hb => by rw [CH.set_ne (ne_out hb hD2'), CH.set_ne (ne_out hb hD1)]
  have r9 := (k9 _ (sn hr)).trans hr
  have kl9 := (k9 _ (sn kl8)).trans kl8
  have kk9 : ∀ j (hj : j < ks.length), ((H₈.set D1 (.list (((List.range N).map fun k : Nat => (k : Int)).map .int))).set D2 (.list (rangeInts 0 1 N))) ks[j] = some (.list ((suKids N ov j).map intN)) := fun j hj => (k9 _ (sn (kk8 j hj))).trans (kk8 j hj)
  have all9 : ∀ b, H b ≠ none → ((H₈.set D1 (.list (((List.range N).map fun k : Nat => (k : Int)).map .int))).set D2 (.list (rangeInts 0 1 N))) b = H b := fun b hb => by have h := all8 b hb; exact (k9 b (by rw [h]; exact hb)).trans h
  clear k9 all8 kl8 kk8 c28 hr hri hD1 hD2 hD2' d12 hperm hsrt hb0
  generalize ((H₈.set D1 (.list (((List.range N).map fun k : Nat => (k : Int)).map .int))).set D2 (.list (rangeInts 0 1 N))) = H₉ at *
  repeat walk_at "x"
  refine ASG_tuple hA'.handled rfl ?_
  repeat walk_at "x"
  refine EX_mid (st := .For _ _ _ _ _) (LwP N ov (ord 0) H₉ [("order", .ref r), ("need", .int (need 0)), ("kids", .ref kl)] N) (ES_for' ?_) fun m₁ H₁₀ hM => ?_
  · repeat walk_at "x"
    refine ⟨(ord 0).map natV, (fun H' => H' r = some (.list ((ord 0).map natV))), (("held", V.int 0) :: ("most", V.int 0) :: [("order", .ref r), ("need", .int (need 0)), ("kids", .ref kl)] : Loc), LwP N ov (ord 0) H₉ [("order", .ref r), ("need", .int (need 0)), ("kids", .ref kl)], seq_own hA'.handled r9, .cons rfl (.cons rfl (.cons rfl (.cons rfl (.cons rfl .nil)))), ⟨rfl, rfl⟩, ?_⟩
    rintro i m' H' ⟨rfl, rfl⟩
    refine ⟨r9, fun x hx => ?_, fun hi => ?_⟩
    · rw [List.getElem?_map] at hx
      obtain ⟨j, hj, rfl⟩ := Option.map_eq_some_iff.mp hx
      have hjN : j < N := List.mem_range.mp (l1.mem_iff.mp (List.mem_of_getElem? hj))
      have hjh : j < ks.length := by (first | lia | omega)
      have hst : ((ord 0).take (i + 1)).foldl (suStep N ov) (0, 0) = suStep N ov (((ord 0).take i).foldl (suStep N ov) (0, 0)) j := by rw [List.take_add_one, hj, List.foldl_append]; rfl
      have hkle : (suKids N ov j).length ≤ N := Nat.le_trans (List.length_filter_le ..) (by rw [List.length_range]; exact Nat.le_refl _)
      generalize hgs : ((ord 0).take i).foldl (suStep N ov) (0, 0) = st at *
      repeat walk_at "x"
      refine EV_b B g_max b_max ?_
      repeat walk_at "x"
      refine ⟨KP_built, CV_max2 hA'.handled ?_⟩
      rw [max_if3]
      repeat walk_at "x"
      refine EV_b B g_len b_len ?_
      repeat walk_at "x"
      refine sub_list (v := .ref ks[j]) (.own kl9) (by (first | lia | omega)) (by simp [hjh]) (by rw [List.length_map]; (first | lia | omega)) ?_
      repeat walk_at "x"
      refine ⟨KP_built, CV_lenM (.own (kk9 j hjh)) (by rw [List.length_map]; (first | lia | omega)) ?_⟩
      repeat walk_at "x"
      refine ⟨[("held", V.int (st.1 + 1 - (suKids N ov j).length)), ("most", V.int (max st.2 (st.1 + 1))), ("order", .ref r), ("need", .int (need 0)), ("kids", .ref kl)], .cons rfl (.cons rfl (.cons rfl (.cons rfl (.cons rfl .nil)))), ?_, rfl⟩
      rw [hst]; rfl
    · rw [List.length_map, hordl] at hi
      subst hi
      repeat walk_at "x"
      exact ⟨rfl, rfl⟩
  obtain ⟨rfl, rfl⟩ := hM
  have hfin : (((ord 0).take N).foldl (suStep N ov) (0, 0)).2 = need 0 := by rw [List.take_of_length_le (by (first | lia | omega))]; exact l2
  rw [hfin]
  refine EX_cons (st := .Return _ _) (ES_ret (EV_and ?_))
  repeat walk_at "x"
  rw [decide_eq_true rfl]
  refine OB_bool ⟨fun _ => ?_, fun h => (by cases h)⟩
  repeat walk_at "x"
  refine EV_g B g_least ?_
  repeat walk_at "x"
  refine ⟨KP_K B (by with_unfolding_all rfl), CV_of ((spec_least Tr hN10 (by exact B) (n := n + 3) hA' kl9 hkl kk9).mono ?_)⟩
  rintro v H' ⟨rfl, hk'⟩
  repeat walk_at "x"
  refine ⟨?_, fun b hb => ?_⟩
  · rw [l3, decide_eq_true rfl]; rfl
  · have h := all9 b hb
    exact (hk' b (by rw [h]; exact hb)).trans h
end
end
end
end Mine
end
section
open PySem PySem.Calls PySem.W PyProof.Rows
set_option maxRecDepth 100000
namespace Mine
theorem k_law {P : Params} : nsIn (KK P) mainGlobals "law" = some (some (.ref a_law)) := by kernel_rfl
theorem in_185 {P : Params} : (KK P).lookup 185 = none := by kernel_rfl
theorem code_185 {P : Params} {s : Shared} (X : (KK P).In s.heap) : isCodeTable s.heap 185 := codeTable_of (a := 187) X (by with_unfolding_all rfl) rfl
end Mine
set_option maxHeartbeats 8000000 in
theorem PySem.Challenge.cw_dn0048_07_holds : PySem.Challenge.rw_dn0048_07.Holds := by
  refine Mine.hd07 ⟨?_, ?_⟩
  · exact Mine.left_of_run (H₀ := boot_heap) (gs₀ := Array.mk []) (d₀ := boot_drawn) (k₀ := boot_toks) (m₀ := 11) (ann := some (.ref 6)) Mine.booted Mine.boot_size (by intro w os; rw [PySem.W.Fast.te14082659384304107361]; kernel_rfl)
  intro w s₀ s₁ mg mb G Y fa o pm cd doc dV kV ho hd hcd hD hmg hg args vals as hpre hlay hrd hwl hlo
  have X := km_in_of Y
  have TT := km_tabs_of Y
  refine Ground.open G ?_
  intro T B D TE TW
  wrow_args hpre hlay hrd hwl hlo
  rename_i ns h1 h2 h3 h4 h5 as1 as2 l vs as3 hL ra hW r0 hI hr hc1 hc2
  have hfa : fa = Mine.a_law := by
    have e := mg_of X T.g (Mine.k_law (P := w.params))
    have e2 : mg (PySem.Str.ofString "law") = some (.ref fa) := hmg
    rw [e2] at e
    injection e with e; injection e with e
  subst hfa
  refine Mine.law_ends [(185, Mine.qsT)] X (by simpa using TT) (by simpa using Mine.in_185) (by simpa using Mine.code_185 X) (by simp) T.nolimit T.g T.b T.builtins (T.seer (by kernel_rfl)) T.bmain hW hg (fun cls => rfl) (by kernel_rfl) ?_
  intro C items hw hfr hB hA hl hv
  subst hw
  refine (Mine.spec_law (n := 88) (by (first | lia | omega)) hB (hA 100 (Nat.le_refl _)) hl hv rfl).mono ?_
  rintro v H' ⟨rfl, hk⟩
  exact ⟨rfl, hk⟩
end
