import PyProof.Rows.All
import Wide.All
import OpenK.AllK
import Wide.FinOn
import PyProof.Rows.ListMul
import PySem.Challenge.RW_dn0048_08
set_option Elab.async false
set_option maxHeartbeats 8000000
set_option linter.unusedVariables false
set_option linter.unusedSimpArgs false
section
open PySem PySem.Calls PySem.W PyProof.Rows
set_option maxRecDepth 100000
namespace Mine
noncomputable section
inductive V where
  | con (v : Value)
  | int (i : Int)
  | str (x : Str)
  | tup (l : List V)
  | rng (a b c : Int)
  | imm (o : Obj)
  | fn (name qual : Str) (params : Arguments) (body : PySem.Expr) (scope : Scope) (cl : List (Str × Addr))
  | ref (a : Addr)
noncomputable abbrev V.none : V := .con .none
noncomputable abbrev V.bool (b : Bool) : V := .con (.bool b)
noncomputable abbrev Loc := List (Str × V)
inductive CObj where
  | list (xs : List V)
  | dict (kvs : List (Int × V)) (ep : Nat)
  | set (S : Int → Bool) (n : Nat)
  | cell (v : Option V)
  | inst (C d : Addr) (sl : List (Option V))
  | idict (fs : Loc)
  | liter (l : Addr) (i : Nat)
  | raw (o : Obj)
  | tab (qs : List ((Nat × Nat) × Str))
noncomputable abbrev CH := Addr → Option CObj
noncomputable def CH.set (H : CH) (a : Addr) (c : CObj) : CH := fun b => if b = a then some c else H b
theorem CH.set_same {H : CH} {a : Addr} {c : CObj} : H.set a c a = some c := by simp [CH.set]
theorem CH.set_ne {H : CH} {a b : Addr} {c : CObj} (h : b ≠ a) : H.set a c b = H b := by simp [CH.set, h]
/-- what nobody changes -/
noncomputable def immCls : List String := ["tuple", "range", "function", "dict_values", "dict_keys", "dict_items", "method-wrapper", "method", "builtin_function_or_method"]
noncomputable def Imm (o : Obj) : Prop := o.isFreed = false ∧ ((∃ T ∈ immCls, o.cls = .type T) ∨ ∃ vs x t, o.data = .fields vs ∧ vs[1]? = some (.str x t)) ∧ (∀ es ep, o.data ≠ .dict es ep) ∧ (∀ v, o.data ≠ .cell v) ∧ ∀ es ep t, o.data ≠ .set es ep t
theorem Imm.tup {items : Array Value} {n : Nat} : Imm (seqObj "tuple" items n) := ⟨rfl, .inl ⟨"tuple", by decide, rfl⟩, (by intro _ _ e; cases e), (by intro _ e; cases e), (by intro _ _ _ e; cases e)⟩
theorem Imm.rng {vs : Array Value} : Imm { cls := .type "range", dict := none, data := .fields vs, slots := #[] } := ⟨rfl, .inl ⟨"range", by decide, rfl⟩, (by intro _ _ e; cases e), (by intro _ e; cases e), (by intro _ _ _ e; cases e)⟩
theorem Imm.fn {fd : FuncData} : Imm { cls := .type "function", data := .func fd } := ⟨rfl, .inl ⟨"function", by decide, rfl⟩, (by intro _ _ e; cases e), (by intro _ e; cases e), (by intro _ _ _ e; cases e)⟩
theorem Imm.code {o : Obj} {vs : Array Value} {x : Str} {t : Tok} (hd : o.data = .fields vs) (h : vs[1]? = some (.str x t)) : Imm o :=
  ⟨Obj.isFreed_of_fields hd, .inr ⟨vs, x, t, hd, h⟩, (by intro _ _ e; rw [hd] at e; cases e), (by intro _ e; rw [hd] at e; cases e), (by intro _ _ _ e; rw [hd] at e; cases e)⟩
mutual
noncomputable def VR (h : Heap) : V → Value → Prop
  | .con c, v => v = c
  | .int i, v => ∃ t, v = .int i t
  | .str x, v => ∃ t, v = .str x t
  | .tup l, v => ∃ a items n, v = .ref a ∧ h.get? a = some (seqObj "tuple" items n) ∧ VRs h l items.toList
  | .rng a b c, v => ∃ r t u w, v = .ref r ∧ h.get? r = some { cls := .type "range", dict := none, data := .fields #[.int a t, .int b u, .int c w], slots := #[] }
  | .imm o, v => Imm o ∧ ∃ a, v = .ref a ∧ h.get? a = some o
  | .fn name qual params body scope cl, v => ∃ a pm c ctv, v = .ref a ∧ h.get? a = some (kla_obj name qual params body scope cl pm c ctv) ∧ h.CodeRec (.ref c) qual
  | .ref a, v => v = .ref a
noncomputable def VRs (h : Heap) : List V → List Value → Prop
  | [], [] => True
  | x :: xs, y :: ys => VR h x y ∧ VRs h xs ys
  | _, _ => False
end
/-- what nobody changes stays -/
noncomputable def TupKeep (h h' : Heap) : Prop := ∀ b o, Imm o → h.get? b = some o → h'.get? b = some o
theorem TupKeep.rec {h h' : Heap} (k : TupKeep h h') {v : Value} {q : Str} (x : h.CodeRec v q) : h'.CodeRec v q :=
  let ⟨c, o, vs, t, e, g, hd, hv⟩ := x; ⟨c, o, vs, t, e, k _ _ (.code hd hv) g, hd, hv⟩
mutual
theorem VR.keep {h h' : Heap} (k : TupKeep h h') : ∀ {x : V} {v : Value}, VR h x v → VR h' x v
  | .con _, _, r => r
  | .int _, _, r => r
  | .str _, _, r => r
  | .ref _, _, r => r
  | .rng a b c, v, r => by
    unfold VR at r ⊢
    obtain ⟨x, t, u, w, e, ho⟩ := r
    exact ⟨x, t, u, w, e, k _ _ .rng ho⟩
  | .imm o, v, r => by
    unfold VR at r ⊢
    obtain ⟨i, x, e, ho⟩ := r
    exact ⟨i, x, e, k _ _ i ho⟩
  | .fn .., v, r => by
    unfold VR at r ⊢
    obtain ⟨a, pm, c, ctv, e, ho, hc⟩ := r
    exact ⟨a, pm, c, ctv, e, k _ _ .fn ho, k.rec hc⟩
  | .tup l, v, r => by
    unfold VR at r ⊢
    obtain ⟨a, items, n, e, ho, hs⟩ := r
    exact ⟨a, items, n, e, k _ _ .tup ho, VRs.keep k hs⟩
theorem VRs.keep {h h' : Heap} (k : TupKeep h h') : ∀ {xs : List V} {vs : List Value}, VRs h xs vs → VRs h' xs vs
  | [], [], _ => by unfold VRs; trivial
  | [], _ :: _, r => by unfold VRs at r; exact r.elim
  | _ :: _, [], r => by unfold VRs at r; exact r.elim
  | x :: xs, y :: ys, r => by
    unfold VRs at r ⊢
    exact ⟨VR.keep k r.1, VRs.keep k r.2⟩
end
theorem VRs.nil {h : Heap} : VRs h [] [] := by unfold VRs; trivial
theorem VRs.cons {h : Heap} {x : V} {xs : List V} {y : Value} {ys : List Value} (a : VR h x y) (b : VRs h xs ys) : VRs h (x :: xs) (y :: ys) := by unfold VRs; exact ⟨a, b⟩
theorem VRs.head {h : Heap} {x : V} {xs : List V} {y : Value} {ys : List Value} (r : VRs h (x :: xs) (y :: ys)) : VR h x y := by unfold VRs at r; exact r.1
theorem VRs.tail {h : Heap} {x : V} {xs : List V} {y : Value} {ys : List Value} (r : VRs h (x :: xs) (y :: ys)) : VRs h xs ys := by unfold VRs at r; exact r.2
theorem VRs.length {h : Heap} : ∀ {xs : List V} {vs : List Value}, VRs h xs vs → xs.length = vs.length
  | [], [], _ => rfl
  | [], _ :: _, r => by unfold VRs at r; exact r.elim
  | _ :: _, [], r => by unfold VRs at r; exact r.elim
  | _ :: _, _ :: _, r => by rw [List.length_cons, List.length_cons, VRs.length r.tail]
theorem VRs.nil_inv {h : Heap} {vs : List Value} (r : VRs h [] vs) : vs = [] := by
  cases vs with
  | nil => rfl
  | cons => unfold VRs at r; exact r.elim
theorem VRs.cons_inv {h : Heap} {x : V} {xs : List V} {vs : List Value} (r : VRs h (x :: xs) vs) : ∃ y ys, vs = y :: ys ∧ VR h x y ∧ VRs h xs ys := by
  cases vs with
  | nil => unfold VRs at r; exact r.elim
  | cons y ys => exact ⟨y, ys, rfl, r.head, r.tail⟩
theorem VRs.get {h : Heap} : ∀ {xs : List V} {vs : List Value}, VRs h xs vs → ∀ {i : Nat} {x : V}, xs[i]? = some x → ∃ v, vs[i]? = some v ∧ VR h x v
  | [], _, _, i, x, e => by simp at e
  | x :: xs, vs, r, i, x', e => by
    obtain ⟨y, ys, rfl, a, b⟩ := r.cons_inv
    cases i with
    | zero => simp at e; subst e; exact ⟨y, by simp, a⟩
    | succ i => simp at e; obtain ⟨v, hv, q⟩ := VRs.get b e; exact ⟨v, by simpa using hv, q⟩
theorem VRs.append {h : Heap} : ∀ {xs ys : List V} {vs ws : List Value}, VRs h xs vs → VRs h ys ws → VRs h (xs ++ ys) (vs ++ ws)
  | [], _, vs, _, r, q => by have := r.nil_inv; subst this; exact q
  | x :: xs, _, vs, _, r, q => by
    obtain ⟨y, ys, rfl, a, b⟩ := r.cons_inv
    exact .cons a (VRs.append b q)
theorem VRs.set {h : Heap} : ∀ {xs : List V} {vs : List Value}, VRs h xs vs → ∀ (i : Nat) {x : V} {v : Value}, VR h x v → VRs h (xs.set i x) (vs.set i v)
  | [], vs, r, i, x, v, _ => by have := r.nil_inv; subst this; exact .nil
  | y :: xs, vs, r, i, x, v, q => by
    obtain ⟨z, ys, rfl, a, b⟩ := r.cons_inv
    cases i with
    | zero => exact .cons q b
    | succ i => exact .cons a (VRs.set b i q)
theorem VRs.eraseIdx {h : Heap} : ∀ {xs : List V} {vs : List Value}, VRs h xs vs → ∀ (n : Nat), VRs h (xs.eraseIdx n) (vs.eraseIdx n)
  | [], vs, r, n => by have := r.nil_inv; subst this; simpa using VRs.nil
  | y :: xs, vs, r, n => by
    obtain ⟨z, ys, rfl, a, b⟩ := r.cons_inv
    cases n with
    | zero => exact b
    | succ n => exact .cons a (VRs.eraseIdx b n)
noncomputable def OptR (h : Heap) : Option V → Option Value → Prop
  | none, none => True
  | some v, some r => VR h v r
  | _, _ => False
/-- partial knowledge of a name table -/
noncomputable def Knows (h : Heap) (m : Loc) (mr : Str → Option Value) : Prop := ∀ x v, m.lookup x = some v → ∃ r, mr x = some r ∧ VR h v r
noncomputable def OptRs (h : Heap) : List (Option V) → List (Option Value) → Prop
  | [], [] => True
  | a :: as, b :: bs => OptR h a b ∧ OptRs h as bs
  | _, _ => False
/-- an instance's names -/
noncomputable def EsR (h : Heap) : Loc → List DictEntry → Prop
  | [], [] => True
  | (x, v) :: fs, e :: es => (∃ t, e.key = .str x t) ∧ VR h v e.val ∧ EsR h fs es
  | _, _ => False
structure Cx where
  prog : Program
  w : World
  h₀ : Heap
  env : Env
  fr : List Env
noncomputable def ORep (C : Cx) (h : Heap) : CObj → Obj → Prop
  | .list xs, o => ∃ items n, o = seqObj "list" items n ∧ VRs h xs items.toList
  | .dict kvs ep, o => o.ExactDict ∧ ∃ es rs, o.data = .dict es ep ∧ KeysOf (intKind C.prog C.w) es ∧ Pairs (intKind C.prog C.w) es.toList ((kvs.map (·.1)).zip rs) ∧ (kvs.map (·.1)).Nodup ∧ VRs h (kvs.map (·.2)) rs
  | .set S n, o => o.ExactSet ∧ ∃ es ep t, o.data = .set es ep t ∧ ElemsOf (intKind C.prog C.w) es.toList ∧ (∀ k, S k = true ↔ ∃ e ∈ es.toList, (intKind C.prog C.w).is k e.2 = true) ∧ es.size < scanBound ∧ t.fits es.size = true ∧ es.size = n
  | .cell v, o => ∃ r, o.data = .cell r ∧ OptR h v r
  | .inst K d sl, o => ∃ rs : Array (Option Value), o = { cls := .ref K, dict := some d, data := .plain, slots := rs } ∧ OptRs h sl rs.toList
  | .idict fs, o => ∃ es n, o = dictOf es n ∧ EsR h fs es
  | .liter l i, o => o = { cls := .type "list_iterator", data := .fields #[.ref l, .int i 0] }
  | .raw o', o => o = o' ∧ o.isFreed = false ∧ ¬ Imm o
  | .tab qs, o => ∃ ps, o = tabObj ps ∧ TriplesOk ps.toList ∧ ∀ pos cv, codeAmong pos ps.toList = some cv → ∀ q, qs.lookup (pos.line, pos.col) = some q → h.CodeRec cv q
theorem Knows.keep {h h' : Heap} (k : TupKeep h h') {m : Loc} {mr : Str → Option Value} (x : Knows h m mr) : Knows h' m mr := fun n v e =>
  let ⟨r, a, b⟩ := x n v e; ⟨r, a, b.keep k⟩
theorem OptR.keep {h h' : Heap} (k : TupKeep h h') : ∀ {v : Option V} {r : Option Value}, OptR h v r → OptR h' v r
  | none, none, _ => trivial
  | some _, some _, x => VR.keep k x
  | none, some _, x => x.elim
  | some _, none, x => x.elim
theorem OptRs.keep {h h' : Heap} (k : TupKeep h h') : ∀ {a : List (Option V)} {b : List (Option Value)}, OptRs h a b → OptRs h' a b
  | [], [], _ => trivial
  | _ :: _, _ :: _, x => ⟨x.1.keep k, x.2.keep k⟩
  | [], _ :: _, x => x.elim
  | _ :: _, [], x => x.elim
theorem EsR.keep {h h' : Heap} (k : TupKeep h h') : ∀ {a : Loc} {b : List DictEntry}, EsR h a b → EsR h' a b
  | [], [], _ => trivial
  | (_, _) :: _, _ :: _, x => ⟨x.1, x.2.1.keep k, x.2.2.keep k⟩
  | [], _ :: _, x => x.elim
  | _ :: _, [], x => x.elim
theorem ORep.keep {C : Cx} {h h' : Heap} (k : TupKeep h h') {c : CObj} {o : Obj} (x : ORep C h c o) : ORep C h' c o := by
  cases c with
  | list xs => obtain ⟨items, n, e, r⟩ := x; exact ⟨items, n, e, r.keep k⟩
  | dict kvs ep => obtain ⟨a, es, rs, b, c, d, e, r⟩ := x; exact ⟨a, es, rs, b, c, d, e, r.keep k⟩
  | set S n => exact x
  | cell v => obtain ⟨r, e, q⟩ := x; exact ⟨r, e, q.keep k⟩
  | inst K d sl => obtain ⟨rs, e, r⟩ := x; exact ⟨rs, e, r.keep k⟩
  | idict fs => obtain ⟨es, n, e, r⟩ := x; exact ⟨es, n, e, r.keep k⟩
  | liter l i => exact x
  | raw o' => exact x
  | tab qs => obtain ⟨ps, e, ht, hq⟩ := x; exact ⟨ps, e, ht, fun pos cv e q hl => k.rec (hq pos cv e q hl)⟩
theorem triples_no_str {l : List Value} (h : TriplesOk l) : ∀ x t, l[1]? ≠ some (.str x t) := by
  intro x t e
  match l, h with
  | [], _ => simp at e
  | .int _ _ :: .int _ _ :: _ :: _, _ => simp at e
theorem ORep.not_imm {C : Cx} {h : Heap} {c : CObj} {o : Obj} (x : ORep C h c o) : ¬ Imm o := fun ⟨hfr, hcl, hd, hce, hs⟩ => by
  have key : ∀ {T : String}, o.cls = .type T → immCls.contains T = false → (∀ vs x t, o.data = .fields vs → vs[1]? ≠ some (.str x t)) → False := fun {T} hc hn hv => by
    rcases hcl with ⟨T', hT', hc'⟩ | ⟨vs, x, t, e, h⟩
    · rw [hc] at hc'; cases hc'
      have : immCls.contains T = true := List.contains_iff_mem.mpr hT'
      rw [hn] at this; cases this
    · exact hv vs x t e h
  have key2 : (∀ T, o.cls ≠ .type T) → (∀ vs x t, o.data = .fields vs → vs[1]? ≠ some (.str x t)) → False := fun hn hv => by
    rcases hcl with ⟨T', hT', hc'⟩ | ⟨vs, x, t, e, h⟩
    · exact hn _ hc'
    · exact hv vs x t e h
  cases c with
  | list xs => obtain ⟨items, n, rfl, _⟩ := x; exact key rfl (by decide) (by intro _ _ _ e; cases e)
  | dict kvs ep => obtain ⟨_, es, rs, b, _⟩ := x; exact hd _ _ b
  | set S n => obtain ⟨_, es, ep, t, b, _⟩ := x; exact hs _ _ _ b
  | cell v => obtain ⟨r, b, _⟩ := x; exact hce _ b
  | inst K d sl => obtain ⟨rs, rfl, _⟩ := x; exact key2 (by intro _ e; cases e) (by intro _ _ _ e; cases e)
  | idict fs => obtain ⟨es, n, rfl, _⟩ := x; exact hd _ _ rfl
  | liter l i => unfold ORep at x; subst x; exact key (T := "list_iterator") rfl (by decide) (by intro _ _ _ e; cases e; intro q; cases q)
  | raw o' => exact x.2.2 ⟨hfr, hcl, hd, hce, hs⟩
  | tab qs => obtain ⟨ps, rfl, ht, _⟩ := x; exact key2 (by intro _ e; cases e) (by intro _ _ _ e; cases e; simpa using triples_no_str ht _ _)
theorem ORep.not_freed {C : Cx} {h : Heap} {c : CObj} {o : Obj} (x : ORep C h c o) : o.isFreed = false := by
  cases c with
  | list xs => obtain ⟨items, n, rfl, _⟩ := x; rfl
  | dict kvs ep => obtain ⟨_, es, rs, b, _⟩ := x; obtain ⟨c, d, dt, sl⟩ := o; subst b; rfl
  | set S n => obtain ⟨_, es, ep, t, b, _⟩ := x; obtain ⟨c, d, dt, sl⟩ := o; subst b; rfl
  | cell v => obtain ⟨r, b, _⟩ := x; obtain ⟨c, d, dt, sl⟩ := o; subst b; rfl
  | inst K d sl => obtain ⟨rs, rfl, _⟩ := x; rfl
  | idict fs => obtain ⟨es, n, rfl, _⟩ := x; rfl
  | liter l i => unfold ORep at x; subst x; rfl
  | raw o' => exact x.2.1
  | tab qs => obtain ⟨ps, rfl, _⟩ := x; rfl
/-- a frame's object may be made ready behind us: its names stay -/
noncomputable def Kin (o o' : Obj) : Prop := o' = o ∨ ((∃ es ep, o.data = .dict es ep) ∧ o'.data = o.data)
theorem Kin.refl (o : Obj) : Kin o o := .inl rfl
theorem Kin.trans {a b c : Obj} (x : Kin a b) (y : Kin b c) : Kin a c := by
  rcases x with rfl | ⟨⟨es, ep, hd⟩, e⟩
  · exact y
  · rcases y with rfl | ⟨_, e'⟩
    · exact .inr ⟨⟨es, ep, hd⟩, e⟩
    · exact .inr ⟨⟨es, ep, hd⟩, e'.trans e⟩
theorem Kin.exact {o o' : Obj} (x : Kin o o') (h : ∀ es ep, o.data ≠ .dict es ep) : o' = o := x.elim id fun ⟨⟨es, ep, e⟩, _⟩ => absurd e (h es ep)
theorem Kin.data {o o' : Obj} (x : Kin o o') : o'.data = o.data := by
  rcases x with rfl | ⟨_, e⟩
  · rfl
  · exact e
structure HS (C : Cx) (H : CH) (s : Shared) : Prop where
  base : ∀ b o, C.h₀.get? b = some o → s.heap.get? b = some o
  own : ∀ a c, H a = some c → C.h₀.get? a = none ∧ ∃ o, s.heap.get? a = some o ∧ ORep C s.heap c o
  gens : s.gens = #[]
/-- the frames of the calls under way -/
noncomputable def FrameOk (h₀ : Heap) (H : CH) (h : Heap) (e : Env) : Prop := e.scope.kind = .function ∧ e.scope.isGenerator = false ∧ e.scope.isCoroutine = false ∧ ∃ f o es ep, e.frame = some f ∧ h.get? f = some o ∧ o.data = .dict es ep ∧ H f = none ∧ h₀.get? f = none
noncomputable def Frs (C : Cx) (H : CH) (s : Shared) : Prop := ∀ e ∈ C.fr, FrameOk C.h₀ H s.heap e
structure St (C : Cx) (m : Loc) (H : CH) (s : Shared) : Prop extends HS C H s where
  ns : ∃ mr, s.heap.Ns C.env.locals mr ∧ Knows s.heap m mr
  loc : H C.env.locals = none
  locb : C.h₀.get? C.env.locals = none
  frs : Frs C H s
/-- across a call: all that is not of the clean heap stays -/
structure AfterC (H : CH) (s : Shared) (H' : CH) (s' : Shared) : Prop where
  stay : ∀ b o, H b = none → s.heap.get? b = some o → ∃ o', s'.heap.get? b = some o' ∧ Kin o o'
  grow : ∀ b o, H b = none → s.heap.get? b = some o → H' b = none
  there : ∀ b o, s.heap.get? b = some o → ∃ o', s'.heap.get? b = some o'
  drawn : s'.drawn = s.drawn
  os : s'.os = s.os
/-- within a frame: its own names may turn too -/
structure After (C : Cx) (H : CH) (s : Shared) (H' : CH) (s' : Shared) : Prop where
  stay : ∀ b o, b ≠ C.env.locals → H b = none → s.heap.get? b = some o → ∃ o', s'.heap.get? b = some o' ∧ Kin o o'
  grow : ∀ b o, H b = none → s.heap.get? b = some o → H' b = none
  there : ∀ b o, s.heap.get? b = some o → ∃ o', s'.heap.get? b = some o'
  drawn : s'.drawn = s.drawn
  os : s'.os = s.os
theorem AfterC.after {C : Cx} {H H' : CH} {s s' : Shared} (a : AfterC H s H' s') : After C H s H' s' := ⟨fun b o _ => a.stay b o, a.grow, a.there, a.drawn, a.os⟩
theorem AfterC.refl (H : CH) (s : Shared) : AfterC H s H s := ⟨fun _ o _ e => ⟨o, e, .refl o⟩, fun _ _ h _ => h, fun _ o e => ⟨o, e⟩, rfl, rfl⟩
theorem AfterC.trans {H₁ H₂ H₃ : CH} {s₁ s₂ s₃ : Shared} (a : AfterC H₁ s₁ H₂ s₂) (b : AfterC H₂ s₂ H₃ s₃) : AfterC H₁ s₁ H₃ s₃ where
  stay := fun x o hn e =>
    let ⟨o₁, e₁, k₁⟩ := a.stay x o hn e
    let ⟨o₂, e₂, k₂⟩ := b.stay x o₁ (a.grow x o hn e) e₁
    ⟨o₂, e₂, k₁.trans k₂⟩
  grow := fun x o hn e => let ⟨o₁, e₁, _⟩ := a.stay x o hn e; b.grow x o₁ (a.grow x o hn e) e₁
  there := fun x o e => let ⟨o₁, e₁⟩ := a.there x o e; b.there x o₁ e₁
  drawn := b.drawn.trans a.drawn
  os := b.os.trans a.os
theorem HS.not_imm {C : Cx} {H : CH} {s : Shared} (S : HS C H s) {a : Addr} {o : Obj} (i : Imm o) (e : s.heap.get? a = some o) : H a = none := by
  cases h : H a with
  | none => rfl
  | some c =>
    obtain ⟨_, o', ho, r⟩ := S.own a c h
    rw [e] at ho; cases ho
    exact absurd i r.not_imm
theorem AfterC.tup {C : Cx} {H H' : CH} {s s' : Shared} (S : HS C H s) (a : AfterC H s H' s') : TupKeep s.heap s'.heap := fun b o i e => by
  obtain ⟨o', e', k⟩ := a.stay b _ (S.not_imm i e) e
  rw [k.exact i.2.2.1] at e'; exact e'
theorem St.not_imm {C : Cx} {m : Loc} {H : CH} {s : Shared} (S : St C m H s) {a : Addr} {o : Obj} (i : Imm o) (e : s.heap.get? a = some o) : H a = none ∧ a ≠ C.env.locals := by
  refine ⟨S.toHS.not_imm i e, ?_⟩
  rintro rfl
  obtain ⟨mr, ⟨o', es, ep, ho, hd, _⟩, _⟩ := S.ns
  rw [e] at ho; cases ho; exact i.2.2.1 _ _ hd
theorem After.tup {C : Cx} {m : Loc} {H H' : CH} {s s' : Shared} (S : St C m H s) (a : After C H s H' s') : TupKeep s.heap s'.heap := fun b o i e => by
  obtain ⟨o', e', k⟩ := a.stay b _ (S.not_imm i e).2 (S.not_imm i e).1 e
  rw [k.exact i.2.2.1] at e'; exact e'
theorem After.refl (C : Cx) (H : CH) (s : Shared) : After C H s H s := (AfterC.refl H s).after
theorem St.at_loc {C : Cx} {m : Loc} {H : CH} {s : Shared} (S : St C m H s) : ∃ o, s.heap.get? C.env.locals = some o := by
  obtain ⟨mr, ⟨o, es, ep, ho, _⟩, _⟩ := S.ns; exact ⟨o, ho⟩
theorem After.then {C : Cx} {m' : Loc} {H₁ H₂ H₃ : CH} {s₁ s₂ s₃ : Shared} (S₂ : St C m' H₂ s₂) (a : After C H₁ s₁ H₂ s₂) (b : After C H₂ s₂ H₃ s₃) : After C H₁ s₁ H₃ s₃ where
  stay := fun x o hx hn e =>
    let ⟨o₁, e₁, k₁⟩ := a.stay x o hx hn e
    let ⟨o₂, e₂, k₂⟩ := b.stay x o₁ hx (a.grow x o hn e) e₁
    ⟨o₂, e₂, k₁.trans k₂⟩
  grow := fun x o hn e => by
    by_cases hx : x = C.env.locals
    · subst hx
      obtain ⟨o', e'⟩ := S₂.at_loc
      exact b.grow _ o' (a.grow _ o hn e) e'
    · obtain ⟨o₁, e₁, _⟩ := a.stay x o hx hn e
      exact b.grow x o₁ (a.grow x o hn e) e₁
  there := fun x o e => let ⟨o₁, e₁⟩ := a.there x o e; b.there x o₁ e₁
  drawn := b.drawn.trans a.drawn
  os := b.os.trans a.os
/-- the frames, behind what has happened -/
theorem Frs.keep {C : Cx} {H H' : CH} {s s' : Shared} (F : Frs C H s) (hs : ∀ b o es ep, C.h₀.get? b = none → H b = none → s.heap.get? b = some o → o.data = .dict es ep → H' b = none ∧ ∃ o', s'.heap.get? b = some o' ∧ o'.data = o.data) : Frs C H' s' := fun e he => by
  obtain ⟨a1, a2, a3, f, o, es, ep, hf, ho, hd, hn, hb⟩ := F e he
  obtain ⟨hn', o', ho', hd'⟩ := hs f o es ep hb hn ho hd
  exact ⟨a1, a2, a3, f, o', es, ep, hf, ho', hd'.trans hd, hn', hb⟩
theorem Frs.after {C : Cx} {H H' : CH} {s s' : Shared} (F : Frs C H s) (a : AfterC H s H' s') : Frs C H' s' := F.keep fun b o _ _ _ hn e _ =>
  let ⟨o', e', k⟩ := a.stay b o hn e; ⟨a.grow b o hn e, o', e', k.data⟩
/-- what lives on its own -/
theorem St.toks {C : Cx} {m : Loc} {H : CH} {s : Shared} (S : St C m H s) (tk : Nat) : St C m H { s with toks := tk } := ⟨⟨S.base, S.own, S.gens⟩, S.ns, S.loc, S.locb, S.frs⟩
theorem AfterC.toks {H : CH} (s : Shared) (tk : Nat) : AfterC H s H { s with toks := tk } := ⟨fun _ o _ e => ⟨o, e, .refl o⟩, fun _ _ h _ => h, fun _ o e => ⟨o, e⟩, rfl, rfl⟩
theorem After.toks {C : Cx} {H : CH} (s : Shared) (tk : Nat) : After C H s H { s with toks := tk } := (AfterC.toks s tk).after
theorem St.known {C : Cx} {m : Loc} {H : CH} {s : Shared} (S : St C m H s) {x : Str} {v : V} (e : m.lookup x = some v) : ∃ mr r, s.heap.Ns C.env.locals mr ∧ mr x = some r ∧ VR s.heap v r := by
  obtain ⟨mr, hn, k⟩ := S.ns
  obtain ⟨r, a, b⟩ := k x v e
  exact ⟨mr, r, hn, a, b⟩
theorem St.sub {C : Cx} {m m' : Loc} {H : CH} {s : Shared} (S : St C m H s) (h : ∀ x v, m'.lookup x = some v → m.lookup x = some v) : St C m' H s :=
  ⟨S.toHS, let ⟨mr, hn, k⟩ := S.ns; ⟨mr, hn, fun x v e => k x v (h x v e)⟩, S.loc, S.locb, S.frs⟩
theorem TupKeep.push (h : Heap) (o : Obj) : TupKeep h (h.push o) := fun _ _ _ e => Heap.get?_push_of_some o e
theorem TupKeep.trans {h₁ h₂ h₃ : Heap} (a : TupKeep h₁ h₂) (b : TupKeep h₂ h₃) : TupKeep h₁ h₃ := fun x o i e => b x o i (a x o i e)
theorem TupKeep.of_keep {h h' : Heap} (k : ∀ b o, h.get? b = some o → h'.get? b = some o) : TupKeep h h' := fun b _ _ e => k b _ e
/-- more heap: everything that stood stands -/
theorem HS.more {C : Cx} {H : CH} {s : Shared} (S : HS C H s) {h' : Heap} {tk : Nat} (k : ∀ b o, s.heap.get? b = some o → h'.get? b = some o) : HS C H { s with heap := h', toks := tk } where
  base := fun b o e => k b o (S.base b o e)
  own := fun a c e => let ⟨x, o, ho, r⟩ := S.own a c e; ⟨x, o, k a o ho, r.keep (.of_keep k)⟩
  gens := S.gens
theorem St.more {C : Cx} {m : Loc} {H : CH} {s : Shared} (S : St C m H s) {h' : Heap} {tk : Nat} (k : ∀ b o, s.heap.get? b = some o → h'.get? b = some o) : St C m H { s with heap := h', toks := tk } where
  toHS := S.toHS.more k
  ns := let ⟨mr, hn, kn⟩ := S.ns; ⟨mr, hn.keeps k, kn.keep (.of_keep k)⟩
  loc := S.loc
  locb := S.locb
  frs := S.frs.keep fun b o _ _ _ hn e _ => ⟨hn, o, k b o e, rfl⟩
theorem AfterC.more {H : CH} {s : Shared} {h' : Heap} {tk : Nat} (k : ∀ b o, s.heap.get? b = some o → h'.get? b = some o) : AfterC H s H { s with heap := h', toks := tk } :=
  ⟨fun b o _ e => ⟨o, k b o e, .refl o⟩, fun _ _ h _ => h, fun b o e => ⟨o, k b o e⟩, rfl, rfl⟩
theorem After.more {C : Cx} {H : CH} {s : Shared} {h' : Heap} {tk : Nat} (k : ∀ b o, s.heap.get? b = some o → h'.get? b = some o) : After C H s H { s with heap := h', toks := tk } := (AfterC.more k).after
theorem keep_push (h : Heap) (o : Obj) : ∀ b o', h.get? b = some o' → (h.push o).get? b = some o' := fun _ _ e => Heap.get?_push_of_some o e
/-- a new object of the clean heap -/
theorem HS.alloc {C : Cx} {H : CH} {s : Shared} (S : HS C H s) {o : Obj} {c : CObj} {tk : Nat} (r : ORep C s.heap c o) : HS C (H.set s.heap.objs.size c) { s with heap := s.heap.push o, toks := tk } where
  base := fun b o' e => keep_push _ _ b o' (S.base b o' e)
  own := fun a c' e => by
    by_cases h : a = s.heap.objs.size
    · subst h
      rw [CH.set_same] at e; cases e
      refine ⟨?_, o, Heap.get?_push_size _ r.not_freed, r.keep (.push _ _)⟩
      cases q : C.h₀.get? s.heap.objs.size with
      | none => rfl
      | some o' => exact absurd (Heap.lt_size (S.base _ _ q)) (Nat.lt_irrefl _)
    · rw [CH.set_ne h] at e
      obtain ⟨x, o', ho, r'⟩ := S.own a c' e
      exact ⟨x, o', keep_push _ _ a o' ho, r'.keep (.push _ _)⟩
  gens := S.gens
theorem St.alloc {C : Cx} {m : Loc} {H : CH} {s : Shared} (S : St C m H s) {o : Obj} {c : CObj} {tk : Nat} (r : ORep C s.heap c o) : St C m (H.set s.heap.objs.size c) { s with heap := s.heap.push o, toks := tk } where
  toHS := S.toHS.alloc r
  ns := let ⟨mr, hn, kn⟩ := S.ns; ⟨mr, hn.keeps (keep_push _ _), kn.keep (.push _ _)⟩
  loc := by
    obtain ⟨o', e⟩ := S.at_loc
    rw [CH.set_ne (Nat.ne_of_lt (Heap.lt_size e))]; exact S.loc
  locb := S.locb
  frs := S.frs.keep fun b o' _ _ _ hn e _ => ⟨by rw [CH.set_ne (Nat.ne_of_lt (Heap.lt_size e))]; exact hn, o', keep_push _ _ b o' e, rfl⟩
theorem AfterC.alloc {H : CH} {s : Shared} {o : Obj} {c : CObj} {tk : Nat} : AfterC H s (H.set s.heap.objs.size c) { s with heap := s.heap.push o, toks := tk } where
  stay := fun b o' _ e => ⟨o', keep_push _ _ b o' e, .refl o'⟩
  grow := fun b o' hn e => by rw [CH.set_ne (Nat.ne_of_lt (Heap.lt_size e))]; exact hn
  there := fun b o' e => ⟨o', keep_push _ _ b o' e⟩
  drawn := rfl
  os := rfl
theorem After.alloc {C : Cx} {H : CH} {s : Shared} {o : Obj} {c : CObj} {tk : Nat} : After C H s (H.set s.heap.objs.size c) { s with heap := s.heap.push o, toks := tk } := AfterC.alloc.after
theorem HS.fresh {C : Cx} {H : CH} {s : Shared} (S : HS C H s) : H s.heap.objs.size = none := by
  cases h : H s.heap.objs.size with
  | none => rfl
  | some c => obtain ⟨_, o, ho, _⟩ := S.own _ _ h; exact absurd (Heap.lt_size ho) (Nat.lt_irrefl _)
theorem HS.freshb {C : Cx} {H : CH} {s : Shared} (S : HS C H s) : C.h₀.get? s.heap.objs.size = none := by
  cases q : C.h₀.get? s.heap.objs.size with
  | none => rfl
  | some o' => exact absurd (Heap.lt_size (S.base _ _ q)) (Nat.lt_irrefl _)
/-- an object of the clean heap turns -/
theorem HS.upd {C : Cx} {H : CH} {s : Shared} (S : HS C H s) {a : Addr} {c c' : CObj} (hc : H a = some c) {h' : Heap} {o' : Obj} {tk : Nat} (hs : Heap.SameBut a s.heap h') (ho : h'.get? a = some o') (r : ORep C s.heap c' o') :
    HS C (H.set a c') { s with heap := h', toks := tk } ∧ TupKeep s.heap h' := by
  obtain ⟨ha0, oa, hoa, ra⟩ := S.own a c hc
  have k : ∀ b o, b ≠ a → s.heap.get? b = some o → h'.get? b = some o := fun b o hb e => (hs.2 b hb).trans e
  have tk' : TupKeep s.heap h' := fun b o i e => k b _ (fun q => by subst q; rw [hoa] at e; cases e; exact ra.not_imm i) e
  refine ⟨⟨fun b o e => k b o (fun q => by subst q; rw [ha0] at e; cases e) (S.base b o e), fun b d e => ?_, S.gens⟩, tk'⟩
  by_cases h : b = a
  · subst h; rw [CH.set_same] at e; cases e; exact ⟨ha0, o', ho, r.keep tk'⟩
  · rw [CH.set_ne h] at e
    obtain ⟨x, o, hob, rb⟩ := S.own b d e
    exact ⟨x, o, k b o h hob, rb.keep tk'⟩
theorem St.upd {C : Cx} {m : Loc} {H : CH} {s : Shared} (S : St C m H s) {a : Addr} {c c' : CObj} (hc : H a = some c) {h' : Heap} {o' : Obj} {tk : Nat} (hs : Heap.SameBut a s.heap h') (ho : h'.get? a = some o') (r : ORep C s.heap c' o') :
    St C m (H.set a c') { s with heap := h', toks := tk } := by
  have hne : C.env.locals ≠ a := fun e => by rw [← e, S.loc] at hc; cases hc
  obtain ⟨hS, tk'⟩ := S.toHS.upd (tk := tk) hc hs ho r
  refine ⟨hS, ?_, ?_, S.locb, S.frs.keep fun b o _ _ _ hn e _ => ?_⟩
  · obtain ⟨mr, hn, kn⟩ := S.ns; exact ⟨mr, hn.sameBut hs hne, kn.keep tk'⟩
  · show H.set a c' C.env.locals = none; rw [CH.set_ne hne]; exact S.loc
  · have hb : b ≠ a := fun q => by subst q; rw [hn] at hc; cases hc
    exact ⟨by rw [CH.set_ne hb]; exact hn, o, (hs.2 b hb).trans e, rfl⟩
theorem AfterC.upd {H : CH} {s : Shared} {a : Addr} {c c' : CObj} (hc : H a = some c) {h' : Heap} {tk : Nat} (hs : Heap.SameBut a s.heap h') {o' : Obj} (ho : h'.get? a = some o') : AfterC H s (H.set a c') { s with heap := h', toks := tk } where
  stay := fun b o hn e => ⟨o, (hs.2 b (fun q => by subst q; rw [hn] at hc; cases hc)).trans e, .refl o⟩
  grow := fun b o hn _ => by rw [CH.set_ne (fun q => by subst q; rw [hn] at hc; cases hc)]; exact hn
  there := fun b o e => by
    by_cases q : b = a
    · subst q; exact ⟨o', ho⟩
    · exact ⟨o, (hs.2 b q).trans e⟩
  drawn := rfl
  os := rfl
theorem After.upd {C : Cx} {H : CH} {s : Shared} {a : Addr} {c c' : CObj} (hc : H a = some c) {h' : Heap} {tk : Nat} (hs : Heap.SameBut a s.heap h') {o' : Obj} (ho : h'.get? a = some o') : After C H s (H.set a c') { s with heap := h', toks := tk } := (AfterC.upd hc hs ho).after
/-- a hidden object turns: it is none of the clean heap's, no tuple, no frame, not of the base -/
theorem St.hid {C : Cx} {m : Loc} {H : CH} {s : Shared} (S : St C m H s) {a : Addr} {oa : Obj} (ha : s.heap.get? a = some oa) (hH : H a = none) (hb : C.h₀.get? a = none) (hd : ∀ es ep, oa.data ≠ .dict es ep) (ht : ¬ Imm oa) {h' : Heap} {tk : Nat}
    (hs : Heap.ExtBut a s.heap h') : St C m H { s with heap := h', toks := tk } := by
  have hl : a ≠ C.env.locals := fun e => by
    subst e
    obtain ⟨mr, ⟨o, es, ep, ho, hd', _⟩, _⟩ := S.ns
    rw [ha] at ho; cases ho; exact hd _ _ hd'
  have tk' : TupKeep s.heap h' := fun b o i e => hs b _ (fun q => by subst q; rw [ha] at e; cases e; exact ht i) e
  refine ⟨⟨fun b o e => hs b o (fun q => by subst q; rw [hb] at e; cases e) (S.base b o e), fun b d e => ?_, S.gens⟩, ?_, S.loc, S.locb, S.frs.keep fun b o es ep _ hn e hde => ?_⟩
  · obtain ⟨x, o, hob, rb⟩ := S.own b d e
    exact ⟨x, o, hs b o (fun q => by subst q; rw [hH] at e; cases e) hob, rb.keep tk'⟩
  · obtain ⟨mr, hn, kn⟩ := S.ns; exact ⟨mr, hn.extBut hs (Ne.symm hl), kn.keep tk'⟩
  · exact ⟨hn, o, hs b o (fun q => by subst q; rw [ha] at e; cases e; exact hd _ _ hde) e, rfl⟩
theorem After.hid {C : Cx} {H H' : CH} {s s' : Shared} (a : After C H s H' s') {I : Addr} (hI : s.heap.get? I = none) {h' : Heap} {tk : Nat} (hs : Heap.ExtBut I s'.heap h') : After C H s H' { s' with heap := h', toks := tk } where
  stay := fun b o hb hn e => let ⟨o', e', k⟩ := a.stay b o hb hn e; ⟨o', hs b o' (fun q => by subst q; rw [hI] at e; cases e) e', k⟩
  grow := a.grow
  there := fun b o e => let ⟨o', e'⟩ := a.there b o e; ⟨o', hs b o' (fun q => by subst q; rw [hI] at e; cases e) e'⟩
  drawn := a.drawn
  os := a.os
/-- a local is stored -/
theorem St.store {C : Cx} {m : Loc} {H : CH} {s : Shared} (S : St C m H s) {x : Str} {v : V} {r : Value} (hv : VR s.heap v r) {mr : Str → Option Value} (hk : Knows s.heap m mr) {h' : Heap} {tk : Nat}
    (hn : h'.Ns C.env.locals (fun y => if y = x then some r else mr y)) (hs : Heap.SameBut C.env.locals s.heap h') : St C ((x, v) :: m) H { s with heap := h', toks := tk } := by
  have tk' : TupKeep s.heap h' := fun b o i e => (hs.2 b (S.not_imm i e).2).trans e
  refine ⟨⟨fun b o e => (hs.2 b (fun q => by subst q; rw [S.locb] at e; cases e)).trans (S.base b o e), fun b d e => ?_, S.gens⟩, ⟨_, hn, fun y w e => ?_⟩, S.loc, S.locb, fun e he => ?_⟩
  · obtain ⟨z, o, hob, rb⟩ := S.own b d e
    exact ⟨z, o, (hs.2 b (fun q => by subst q; rw [S.loc] at e; cases e)).trans hob, rb.keep tk'⟩
  · rw [List.lookup_cons] at e
    by_cases hy : y = x
    · subst hy
      simp only [beq_self_eq_true] at e; cases e
      exact ⟨r, by simp, hv.keep tk'⟩
    · have hb : (y == x) = false := beq_eq_false_iff_ne.mpr hy
      simp only [hb] at e
      obtain ⟨r', a, b⟩ := hk y w e
      exact ⟨r', by simp [hy, a], b.keep tk'⟩
  · obtain ⟨a1, a2, a3, f, o, es, ep, hf, ho, hd, hn', hb⟩ := S.frs e he
    by_cases hfl : f = C.env.locals
    · subst hfl
      obtain ⟨o', es', ep', ho', hd', _⟩ := hn
      exact ⟨a1, a2, a3, _, o', es', ep', hf, ho', hd', hn', hb⟩
    · exact ⟨a1, a2, a3, f, o, es, ep, hf, (hs.2 f hfl).trans ho, hd, hn', hb⟩
theorem After.store {C : Cx} {H : CH} {s : Shared} {h' : Heap} {tk : Nat} {mr : Str → Option Value} (hn : h'.Ns C.env.locals mr) (hs : Heap.SameBut C.env.locals s.heap h') : After C H s H { s with heap := h', toks := tk } :=
  ⟨fun b o hb _ e => ⟨o, (hs.2 b hb).trans e, .refl o⟩, fun _ _ h _ => h, fun b o e => by
    by_cases q : b = C.env.locals
    · subst q; obtain ⟨o', es, ep, ho, _⟩ := hn; exact ⟨o', ho⟩
    · exact ⟨o, (hs.2 b q).trans e⟩, rfl, rfl⟩
/-- less is known of the heap -/
noncomputable def CH.Le (H H' : CH) : Prop := ∀ a c, H a = some c → H' a = some c
theorem CH.Le.absent {H H' : CH} (l : H.Le H') {a : Addr} (h : H' a = Option.none) : H a = Option.none := by
  cases e : H a with
  | none => rfl
  | some c => rw [l a c e] at h; cases h
theorem HS.less {C : Cx} {H H' : CH} {s : Shared} (S : HS C H' s) (l : H.Le H') : HS C H s := ⟨S.base, fun a c e => S.own a c (l a c e), S.gens⟩
theorem Frs.less {C : Cx} {H H' : CH} {s : Shared} (F : Frs C H' s) (l : H.Le H') : Frs C H s := fun e he =>
  let ⟨a1, a2, a3, f, o, es, ep, hf, ho, hd, hn, hb⟩ := F e he; ⟨a1, a2, a3, f, o, es, ep, hf, ho, hd, l.absent hn, hb⟩
theorem St.less {C : Cx} {m : Loc} {H H' : CH} {s : Shared} (S : St C m H' s) (l : H.Le H') : St C m H s := ⟨S.toHS.less l, S.ns, l.absent S.loc, S.locb, S.frs.less l⟩
end
end Mine
end
section
open PySem PySem.Calls PySem.W PyProof.Rows
set_option maxRecDepth 100000
namespace Mine
noncomputable section
noncomputable abbrev NoE : Value → Shared → Prop := fun _ _ => False
inductive Fl where
  | next | brk | cont
  | ret (v : V)
noncomputable def FlR (h : Heap) : Fl → Flow → Prop
  | .next, f => f = .next
  | .brk, f => f = .brk
  | .cont, f => f = .cont
  | .ret v, f => ∃ r, f = .ret r ∧ VR h v r
inductive PV (C : Cx) (H : CH) (s : Shared) (Q : V → Loc → CH → Prop) (r : Value) (s' : Shared) : Prop
  | mk (v : V) (m' : Loc) (H' : CH) (hv : VR s'.heap v r) (hS : St C m' H' s') (ha : After C H s H' s') (q : Q v m' H') : PV C H s Q r s'
inductive PA {α : Type} (C : Cx) (H : CH) (s : Shared) (Q : α → Loc → CH → Prop) (b : α) (s' : Shared) : Prop
  | mk (m' : Loc) (H' : CH) (hS : St C m' H' s') (ha : After C H s H' s') (q : Q b m' H') : PA C H s Q b s'
inductive PL (C : Cx) (H : CH) (s : Shared) (Q : List V → Loc → CH → Prop) (rs : List Value) (s' : Shared) : Prop
  | mk (vs : List V) (m' : Loc) (H' : CH) (hv : VRs s'.heap vs rs) (hS : St C m' H' s') (ha : After C H s H' s') (q : Q vs m' H') : PL C H s Q rs s'
inductive PF (C : Cx) (H : CH) (s : Shared) (Q : Fl → Loc → CH → Prop) (f : Flow) (s' : Shared) : Prop
  | mk (fl : Fl) (m' : Loc) (H' : CH) (hf : FlR s'.heap fl f) (hS : St C m' H' s') (ha : After C H s H' s') (q : Q fl m' H') : PF C H s Q f s'
section
variable (C : Cx) (A : Around)
noncomputable def EV (e : PySem.Expr) (m : Loc) (H : CH) (Q : V → Loc → CH → Prop) : Prop := ∀ s, St C m H s → wpAny (model C.prog C.w) A (eval e C.env) (PV C H s Q) NoE s
noncomputable def EB (e : PySem.Expr) (m : Loc) (H : CH) (Q : Bool → Loc → CH → Prop) : Prop := ∀ s, St C m H s → wpAny (model C.prog C.w) A (isTrue e C.env (eval e C.env)) (PA C H s Q) NoE s
noncomputable def ES (st : Stmt) (m : Loc) (H : CH) (Q : Fl → Loc → CH → Prop) : Prop := ∀ s, St C m H s → wpAny (model C.prog C.w) A (exec st C.env) (PF C H s Q) NoE s
noncomputable def EX (b : List Stmt) (m : Loc) (H : CH) (Q : Fl → Loc → CH → Prop) : Prop := ∀ s, St C m H s → wpAny (model C.prog C.w) A (execs b C.env) (PF C H s Q) NoE s
noncomputable def ASG (t : PySem.Expr) (v : V) (m : Loc) (H : CH) (Q : Loc → CH → Prop) : Prop := ∀ s r, St C m H s → VR s.heap v r → wpAny (model C.prog C.w) A (assign t C.env r) (PA C H s fun _ => Q) NoE s
/-- operations upon values -/
noncomputable def O1 (t : Value → Sem Value) (v : V) (m : Loc) (H : CH) (Q : V → Loc → CH → Prop) : Prop := ∀ s r, St C m H s → VR s.heap v r → wpAny (model C.prog C.w) A (t r) (PV C H s Q) NoE s
noncomputable def O2 (t : Value → Value → Sem Value) (v w : V) (m : Loc) (H : CH) (Q : V → Loc → CH → Prop) : Prop := ∀ s r q, St C m H s → VR s.heap v r → VR s.heap w q → wpAny (model C.prog C.w) A (t r q) (PV C H s Q) NoE s
noncomputable def O3 (t : Value → Value → Value → Sem Unit) (v w x : V) (m : Loc) (H : CH) (Q : Loc → CH → Prop) : Prop := ∀ s r q p, St C m H s → VR s.heap v r → VR s.heap w q → VR s.heap x p → wpAny (model C.prog C.w) A (t r q p) (PA C H s fun _ => Q) NoE s
noncomputable def OB (t : Value → Sem Bool) (v : V) (m : Loc) (H : CH) (Q : Bool → Loc → CH → Prop) : Prop := ∀ s r, St C m H s → VR s.heap v r → wpAny (model C.prog C.w) A (t r) (PA C H s Q) NoE s
noncomputable def OL (t : List Value → Sem Value) (vs : List V) (m : Loc) (H : CH) (Q : V → Loc → CH → Prop) : Prop := ∀ s rs, St C m H s → VRs s.heap vs rs → wpAny (model C.prog C.w) A (t rs) (PV C H s Q) NoE s
noncomputable def EL (es : List PySem.Expr) (m : Loc) (H : CH) (Q : List V → Loc → CH → Prop) : Prop := ∀ s pos, St C m H s → wpAny (model C.prog C.w) A (spliced (backTo pos (starEach es C.env))) (PL C H s Q) NoE s
end
section
variable {C : Cx} {A : Around} {m : Loc} {H : CH} {s : Shared}
theorem PV.same {v : V} {r : Value} {Q : V → Loc → CH → Prop} (S : St C m H s) (hv : VR s.heap v r) (q : Q v m H) (tk : Nat) : PV C H s Q r { s with toks := tk } := ⟨v, m, H, hv, S.toks tk, .toks s tk, q⟩
theorem PV.here {v : V} {r : Value} {Q : V → Loc → CH → Prop} (S : St C m H s) (hv : VR s.heap v r) (q : Q v m H) : PV C H s Q r s := ⟨v, m, H, hv, S, .refl .., q⟩
theorem PA.here {α : Type} {b : α} {Q : α → Loc → CH → Prop} (S : St C m H s) (q : Q b m H) : PA C H s Q b s := ⟨m, H, S, .refl .., q⟩
theorem PA.same {α : Type} {b : α} {Q : α → Loc → CH → Prop} (S : St C m H s) (q : Q b m H) (tk : Nat) : PA C H s Q b { s with toks := tk } := ⟨m, H, S.toks tk, .toks s tk, q⟩
theorem PF.here {f : Fl} {r : Flow} {Q : Fl → Loc → CH → Prop} (S : St C m H s) (hf : FlR s.heap f r) (q : Q f m H) : PF C H s Q r s := ⟨f, m, H, hf, S, .refl .., q⟩
theorem PV.mono {H₁ : CH} {s₁ : Shared} {m₁ : Loc} {Q : V → Loc → CH → Prop} {r : Value} {s₂ : Shared} (S₁ : St C m₁ H₁ s₁) (a : After C H s H₁ s₁) (x : PV C H₁ s₁ Q r s₂) : PV C H s Q r s₂ :=
  let ⟨v, m', H', hv, S', a', q⟩ := x; ⟨v, m', H', hv, S', a.then S₁ a', q⟩
theorem PA.mono {α : Type} {H₁ : CH} {s₁ : Shared} {m₁ : Loc} {Q : α → Loc → CH → Prop} {r : α} {s₂ : Shared} (S₁ : St C m₁ H₁ s₁) (a : After C H s H₁ s₁) (x : PA C H₁ s₁ Q r s₂) : PA C H s Q r s₂ :=
  let ⟨m', H', S', a', q⟩ := x; ⟨m', H', S', a.then S₁ a', q⟩
theorem PF.mono {H₁ : CH} {s₁ : Shared} {m₁ : Loc} {Q : Fl → Loc → CH → Prop} {r : Flow} {s₂ : Shared} (S₁ : St C m₁ H₁ s₁) (a : After C H s H₁ s₁) (x : PF C H₁ s₁ Q r s₂) : PF C H s Q r s₂ :=
  let ⟨v, m', H', hv, S', a', q⟩ := x; ⟨v, m', H', hv, S', a.then S₁ a', q⟩
/-- monotony -/
theorem EV.mono {e : PySem.Expr} {Q Q' : V → Loc → CH → Prop} (h : EV C A e m H Q) (q : ∀ v m' H', Q v m' H' → Q' v m' H') : EV C A e m H Q' := fun s S =>
  wpAny_mono (h s S) (fun r s' ⟨v, m', H', a, b, c, d⟩ => ⟨v, m', H', a, b, c, q _ _ _ d⟩) fun _ _ x => x
theorem EX.mono {e : List Stmt} {Q Q' : Fl → Loc → CH → Prop} (h : EX C A e m H Q) (q : ∀ v m' H', Q v m' H' → Q' v m' H') : EX C A e m H Q' := fun s S =>
  wpAny_mono (h s S) (fun r s' ⟨v, m', H', a, b, c, d⟩ => ⟨v, m', H', a, b, c, q _ _ _ d⟩) fun _ _ x => x
theorem ES.mono {e : Stmt} {Q Q' : Fl → Loc → CH → Prop} (h : ES C A e m H Q) (q : ∀ v m' H', Q v m' H' → Q' v m' H') : ES C A e m H Q' := fun s S =>
  wpAny_mono (h s S) (fun r s' ⟨v, m', H', a, b, c, d⟩ => ⟨v, m', H', a, b, c, q _ _ _ d⟩) fun _ _ x => x
theorem EB.mono {e : PySem.Expr} {Q Q' : Bool → Loc → CH → Prop} (h : EB C A e m H Q) (q : ∀ v m' H', Q v m' H' → Q' v m' H') : EB C A e m H Q' := fun s S =>
  wpAny_mono (h s S) (fun r s' ⟨m', H', b, c, d⟩ => ⟨m', H', b, c, q _ _ _ d⟩) fun _ _ x => x
noncomputable def Sub (m' m : Loc) : Prop := ∀ x v, m'.lookup x = some v → m.lookup x = some v
theorem EX.sub {e : List Stmt} {m' : Loc} {Q : Fl → Loc → CH → Prop} (hs : Sub m' m) (h : EX C A e m' H Q) : EX C A e m H Q := fun s S => h s (S.sub hs)
theorem Sub.nil {m : Loc} : Sub [] m := fun _ _ e => by simp at e
theorem Sub.cons {m m' : Loc} {x : Str} {v : V} (h : m.lookup x = some v) (r : Sub m' m) : Sub ((x, v) :: m') m := fun y w e => by
  rw [List.lookup_cons] at e
  by_cases hy : y = x
  · subst hy; simp only [beq_self_eq_true] at e; cases e; exact h
  · have hb : (y == x) = false := beq_eq_false_iff_ne.mpr hy
    simp only [hb] at e; exact r y w e
theorem EV_local {x : Str} {p : Pos} {v : V} {Q : V → Loc → CH → Prop} (hm : m.lookup x = some v) (h : Q v m H)
    (hk : C.env.scope.kind = .function := by with_unfolding_all rfl) (hl : C.env.kindOf x = some .local := by with_unfolding_all rfl) (hd : (x == ("__debug__" : Str)) = false := by decide) : EV C A (.Name x p) m H Q := fun s S => by
  obtain ⟨mr, r, hn, hr, hv⟩ := S.known hm
  exact wpAny_Name (wpAny_loadName_local hk hl hn hr (.here S hv h)) hd
theorem VR.con_inv {h : Heap} {v r : Value} (x : VR h (.con v) r) : r = v := by unfold VR at x; exact x
theorem VR.con {h : Heap} {v : Value} : VR h (.con v) v := by unfold VR; rfl
theorem VR.ref {h : Heap} {a : Addr} : VR h (.ref a) (.ref a) := by unfold VR; rfl
theorem VR.ref_inv {h : Heap} {a : Addr} {r : Value} (x : VR h (.ref a) r) : r = .ref a := by unfold VR at x; exact x
theorem VR.int {h : Heap} {i : Int} {t : Tok} : VR h (.int i) (.int i t) := by unfold VR; exact ⟨t, rfl⟩
theorem VR.int_inv {h : Heap} {i : Int} {r : Value} (x : VR h (.int i) r) : ∃ t, r = .int i t := by unfold VR at x; exact x
theorem VR.str_inv {h : Heap} {i : Str} {r : Value} (x : VR h (.str i) r) : ∃ t, r = .str i t := by unfold VR at x; exact x
theorem VR.tup_inv {h : Heap} {l : List V} {r : Value} (x : VR h (.tup l) r) : ∃ a items n, r = .ref a ∧ h.get? a = some (seqObj "tuple" items n) ∧ VRs h l items.toList := by unfold VR at x; exact x
theorem VR.tup {h : Heap} {l : List V} {a : Addr} {items : Array Value} {n : Nat} (e : h.get? a = some (seqObj "tuple" items n)) (hs : VRs h l items.toList) : VR h (.tup l) (.ref a) := by unfold VR; exact ⟨a, items, n, rfl, e, hs⟩
theorem St.cell {c : Addr} {v : Option V} (S : HS C H s) (hc : H c = some (.cell v)) : ∃ r, s.heap.IsCell c r ∧ OptR s.heap v r := by
  obtain ⟨_, o, ho, r, hd, hr⟩ := S.own _ _ hc
  exact ⟨r, ⟨o, ho, hd⟩, hr⟩
theorem OptR.some_inv {h : Heap} {v : V} {r : Option Value} (x : OptR h (some v) r) : ∃ q, r = some q ∧ VR h v q := by
  cases r with
  | none => exact x.elim
  | some q => exact ⟨q, rfl, x⟩
theorem EV_cell {x : Str} {p : Pos} {c : Addr} {v : V} {Q : V → Loc → CH → Prop} (hc : C.env.cells.lookup x = some c) (hm : H c = some (.cell (some v))) (h : Q v m H)
    (hk : C.env.scope.kind = .function := by with_unfolding_all rfl) (hl : C.env.kindOf x = some .cell := by with_unfolding_all rfl) (hd : (x == ("__debug__" : Str)) = false := by decide) : EV C A (.Name x p) m H Q := fun s S => by
  obtain ⟨r, hI, hr⟩ := St.cell S.toHS hm
  obtain ⟨q, rfl, hq⟩ := hr.some_inv
  exact wpAny_Name (wpAny_loadName_cell hk hl hc hI (.here S hq h)) hd
theorem EV_free {x : Str} {p : Pos} {c : Addr} {v : V} {Q : V → Loc → CH → Prop} (hc : C.env.cells.lookup x = some c) (hm : H c = some (.cell (some v))) (h : Q v m H)
    (hk : C.env.scope.kind = .function := by with_unfolding_all rfl) (hl : C.env.kindOf x = some .free := by with_unfolding_all rfl) (hd : (x == ("__debug__" : Str)) = false := by decide) (hn : (x == ("__classdict__" : Str)) = false := by decide) : EV C A (.Name x p) m H Q := fun s S => by
  obtain ⟨r, hI, hr⟩ := St.cell S.toHS hm
  obtain ⟨q, rfl, hq⟩ := hr.some_inv
  exact wpAny_Name (wpAny_loadName_free hk hl hc hI (.here S hq h) hn) hd
theorem VR.rng_inv {h : Heap} {a b c : Int} {r : Value} (x : VR h (.rng a b c) r) : ∃ z t u w, r = .ref z ∧ h.get? z = some { cls := .type "range", dict := none, data := .fields #[.int a t, .int b u, .int c w], slots := #[] } := by unfold VR at x; exact x
theorem VR.rng {h : Heap} {a b c : Int} {z : Addr} {t u w : Tok} (e : h.get? z = some { cls := .type "range", dict := none, data := .fields #[.int a t, .int b u, .int c w], slots := #[] }) : VR h (.rng a b c) (.ref z) := by unfold VR; exact ⟨z, t, u, w, rfl, e⟩
theorem VR.imm_inv {h : Heap} {o : Obj} {r : Value} (x : VR h (.imm o) r) : Imm o ∧ ∃ a, r = .ref a ∧ h.get? a = some o := by unfold VR at x; exact x
theorem VR.imm {h : Heap} {o : Obj} {a : Addr} (i : Imm o) (e : h.get? a = some o) : VR h (.imm o) (.ref a) := by unfold VR; exact ⟨i, a, rfl, e⟩
theorem VR.fn_inv {h : Heap} {name qual : Str} {params : Arguments} {body : PySem.Expr} {scope : Scope} {cl : List (Str × Addr)} {r : Value} (x : VR h (.fn name qual params body scope cl) r) :
    ∃ a pm c ctv, r = .ref a ∧ h.get? a = some (kla_obj name qual params body scope cl pm c ctv) ∧ h.CodeRec (.ref c) qual := by unfold VR at x; exact x
theorem VR.fn {h : Heap} {name qual : Str} {params : Arguments} {body : PySem.Expr} {scope : Scope} {cl : List (Str × Addr)} {a c : Addr} {pm ctv : Value} (e : h.get? a = some (kla_obj name qual params body scope cl pm c ctv)) (hc : h.CodeRec (.ref c) qual) :
    VR h (.fn name qual params body scope cl) (.ref a) := by unfold VR; exact ⟨a, pm, c, ctv, rfl, e, hc⟩
/-- what the base's names say -/
structure Names (C : Cx) (mg mb : Str → Option Value) : Prop where
  g : C.h₀.Ns C.env.globals mg
  b : C.h₀.Ns C.env.builtins mb
theorem EV_int {i : Int} {k : Nat} {p : Pos} {Q : V → Loc → CH → Prop} (h : Q (.int i) m H) : EV C A (.Constant (.int i) k p) m H Q := fun s S => wpAny_Constant_int (.same S .int h _)
theorem EV_none {k : Nat} {p : Pos} {Q : V → Loc → CH → Prop} (h : Q .none m H) : EV C A (.Constant .none k p) m H Q := fun s S => wpAny_Constant_none (.here S .con h)
theorem EV_bool {b : Bool} {k : Nat} {p : Pos} {Q : V → Loc → CH → Prop} (h : Q (.bool b) m H) : EV C A (.Constant (.bool b) k p) m H Q := fun s S => wpAny_Constant_bool (.here S .con h)
theorem EV_bin {l r : PySem.Expr} {op : Operator} {p : Pos} {Q : V → Loc → CH → Prop} (h : EV C A l m H fun v m₁ H₁ => EV C A r m₁ H₁ fun w m₂ H₂ => O2 C A (binaryOp op) v w m₂ H₂ Q) : EV C A (.BinOp l op r p) m H Q := fun s S => by
  refine wpAny_BinOp (wpAny_mono (h s S) ?_ fun _ _ x => x)
  rintro a s₁ ⟨v, m₁, H₁, ra, S₁, af₁, h₁⟩
  refine wpAny_mono (h₁ s₁ S₁) ?_ fun _ _ x => x
  rintro b s₂ ⟨w, m₂, H₂, rb, S₂, af₂, h₂⟩
  exact wpAny_mono (h₂ s₂ a b S₂ (ra.keep (af₂.tup S₁)) rb) (fun _ _ x => x.mono S₂ (af₁.then S₁ af₂)) fun _ _ x => x
theorem EV_cmp {l r : PySem.Expr} {op : CmpOp} {p : Pos} {Q : V → Loc → CH → Prop} (h : EV C A l m H fun v m₁ H₁ => EV C A r m₁ H₁ fun w m₂ H₂ => O2 C A (compareOp op) v w m₂ H₂ Q)
    (hm : behindInMarks op r = false := by with_unfolding_all rfl) : EV C A (.Compare l [op] [r] p) m H Q := fun s S => by
  refine wpAny_Compare1 (wpAny_mono (h s S) ?_ fun _ _ x => x) hm
  rintro a s₁ ⟨v, m₁, H₁, ra, S₁, af₁, h₁⟩
  refine wpAny_mono (h₁ s₁ S₁) ?_ fun _ _ x => x
  rintro b s₂ ⟨w, m₂, H₂, rb, S₂, af₂, h₂⟩
  exact wpAny_mono (h₂ s₂ a b S₂ (ra.keep (af₂.tup S₁)) rb) (fun _ _ x => x.mono S₂ (af₁.then S₁ af₂)) fun _ _ x => x
/-- the comparison's answer is a bool -/
theorem EB_cmp {l r : PySem.Expr} {op : CmpOp} {p : Pos} {Q : Bool → Loc → CH → Prop} (h : EV C A l m H fun v m₁ H₁ => EV C A r m₁ H₁ fun w m₂ H₂ => O2 C A (compareOp op) v w m₂ H₂ fun x m₃ H₃ => ∃ b, x = .bool b ∧ Q b m₃ H₃)
    (hm : behindInMarks op r = false := by with_unfolding_all rfl) : EB C A (.Compare l [op] [r] p) m H Q := fun s S => by
  refine wpAny_isTrue_Compare1 (wpAny_mono (h s S) ?_ fun _ _ x => x) hm
  rintro a s₁ ⟨v, m₁, H₁, ra, S₁, af₁, h₁⟩
  refine wpAny_mono (h₁ s₁ S₁) ?_ fun _ _ x => x
  rintro b s₂ ⟨w, m₂, H₂, rb, S₂, af₂, h₂⟩
  refine wpAny_mono (h₂ s₂ a b S₂ (ra.keep (af₂.tup S₁)) rb) ?_ fun _ _ x => x
  rintro c s₃ ⟨x, m₃, H₃, rc, S₃, af₃, b', rfl, q⟩
  rw [rc.con_inv]
  exact wpAny_truthy_bool ⟨m₃, H₃, S₃, (af₁.then S₁ af₂).then S₂ af₃, q⟩
theorem EV_un {x : PySem.Expr} {op : UnaryOp} {p : Pos} {Q : V → Loc → CH → Prop} (h : EV C A x m H fun v m₁ H₁ => O1 C A (unaryOp op) v m₁ H₁ Q) : EV C A (.UnaryOp op x p) m H Q := fun s S => by
  refine wpAny_UnaryOp (wpAny_mono (h s S) ?_ fun _ _ x => x)
  rintro a s₁ ⟨v, m₁, H₁, ra, S₁, af₁, h₁⟩
  exact wpAny_mono (h₁ s₁ a S₁ ra) (fun _ _ x => x.mono S₁ af₁) fun _ _ x => x
theorem EB_not {x : PySem.Expr} {p : Pos} {Q : Bool → Loc → CH → Prop} (h : EB C A x m H fun b => Q (!b)) : EB C A (.UnaryOp .Not x p) m H Q := fun s S =>
  wpAny_isTrue_Not (wpAny_mono (h s S) (fun b s' ⟨m', H', a, c, d⟩ => ⟨m', H', a, c, d⟩) fun _ _ x => x)
theorem EB_val {e : PySem.Expr} {Q : Bool → Loc → CH → Prop} (h : EV C A e m H fun v m₁ H₁ => OB C A truthy v m₁ H₁ Q) (he : ∀ whole, isTrue e C.env whole = (do let v ← whole; standAt e.pos; holding [v] (truthy v)) := by intro _; with_unfolding_all rfl) : EB C A e m H Q := fun s S => by
  refine wpAny_isTrue_value (wpAny_mono (h s S) ?_ fun _ _ x => x) (he _)
  rintro a s₁ ⟨v, m₁, H₁, ra, S₁, af₁, h₁⟩
  exact wpAny_mono (h₁ s₁ a S₁ ra) (fun _ _ x => x.mono S₁ af₁) fun _ _ x => x
theorem EV_if {t b o : PySem.Expr} {p : Pos} {Q : V → Loc → CH → Prop} (h : EB C A t m H fun c m₁ H₁ => (c = true → EV C A b m₁ H₁ Q) ∧ (c = false → EV C A o m₁ H₁ Q)) : EV C A (.IfExp t b o p) m H Q := fun s S => by
  refine wpAny_IfExp (wpAny_mono (h s S) ?_ fun _ _ x => x)
  rintro c s₁ ⟨m₁, H₁, S₁, af₁, h₁⟩
  cases c with
  | true => exact wpAny_mono (h₁.1 rfl s₁ S₁) (fun _ _ x => x.mono S₁ af₁) fun _ _ x => x
  | false => exact wpAny_mono (h₁.2 rfl s₁ S₁) (fun _ _ x => x.mono S₁ af₁) fun _ _ x => x
theorem EB_and {x y : PySem.Expr} {p : Pos} {Q : Bool → Loc → CH → Prop} (h : EB C A x m H fun c m₁ H₁ => (c = true → EB C A y m₁ H₁ Q) ∧ (c = false → Q false m₁ H₁)) : EB C A (.BoolOp .And [x, y] p) m H Q := fun s S => by
  refine wpAny_isTrue_BoolOp (wpAny_allTrue_And_cons (wpAny_mono (h s S) ?_ fun _ _ x => x))
  rintro c s₁ ⟨m₁, H₁, S₁, af₁, h₁⟩
  cases c with
  | true =>
    refine wpAny_allTrue_And_cons (wpAny_mono (h₁.1 rfl s₁ S₁) ?_ fun _ _ x => x)
    rintro c s₂ h₂
    have h₃ := h₂.mono S₁ af₁
    cases c with
    | true => exact wpAny_allTrue_And_nil h₃
    | false => exact h₃
  | false => exact ⟨m₁, H₁, S₁, af₁, h₁.2 rfl⟩
theorem EB_or {x y : PySem.Expr} {p : Pos} {Q : Bool → Loc → CH → Prop} (h : EB C A x m H fun c m₁ H₁ => (c = true → Q true m₁ H₁) ∧ (c = false → EB C A y m₁ H₁ Q)) : EB C A (.BoolOp .Or [x, y] p) m H Q := fun s S => by
  refine wpAny_isTrue_BoolOp (wpAny_allTrue_Or_cons (wpAny_mono (h s S) ?_ fun _ _ x => x))
  rintro c s₁ ⟨m₁, H₁, S₁, af₁, h₁⟩
  cases c with
  | false =>
    refine wpAny_allTrue_Or_cons (wpAny_mono (h₁.2 rfl s₁ S₁) ?_ fun _ _ x => x)
    rintro c s₂ h₂
    have h₃ := h₂.mono S₁ af₁
    cases c with
    | false => exact wpAny_allTrue_Or_nil h₃
    | true => exact h₃
  | true => exact ⟨m₁, H₁, S₁, af₁, h₁.1 rfl⟩
theorem EL_nil {Q : List V → Loc → CH → Prop} (h : Q [] m H) : EL C A [] m H Q := fun s pos S => spliced_nil ⟨[], m, H, .nil, S, .refl .., h⟩
theorem EL_cons {e : PySem.Expr} {rest : List PySem.Expr} {Q : List V → Loc → CH → Prop} (h : EV C A e m H fun v m₁ H₁ => EL C A rest m₁ H₁ fun vs => Q (v :: vs))
    (he : starEach (e :: rest) C.env = (false, eval e C.env) :: starEach rest C.env := by with_unfolding_all rfl) : EL C A (e :: rest) m H Q := fun s pos S => by
  rw [he]
  refine spliced_cons (rest := backTo pos (starEach rest C.env)) (x := eval e C.env) (wpAny_mono (h s S) ?_ fun _ _ x => x)
  rintro a s₁ ⟨v, m₁, H₁, ra, S₁, af₁, h₁⟩
  refine wpAny_mono (h₁ s₁ pos S₁) ?_ fun _ _ x => x
  rintro vs s₂ ⟨ws, m₂, H₂, rb, S₂, af₂, h₂⟩
  exact ⟨v :: ws, m₂, H₂, .cons (ra.keep (af₂.tup S₁)) rb, S₂, af₁.then S₁ af₂, h₂⟩
theorem EV_tuple {es : List PySem.Expr} {k : Nat} {p : Pos} {Q : V → Loc → CH → Prop} (h : EL C A es m H fun vs m₁ H₁ => vs.length ≤ sizeLine ∧ Q (.tup vs) m₁ H₁) : EV C A (.Tuple es k p) m H Q := fun s S => by
  refine Tuple_ (wpAny_mono (h s p S) ?_ fun _ _ x => x)
  rintro vs s₁ ⟨ws, m₁, H₁, ra, S₁, af₁, hl, h₁⟩
  refine wpAny_newObj_type ?_ (by show vs.toArray.size ≤ sizeLine; rw [List.size_toArray, ← ra.length]; exact hl)
  exact ⟨.tup ws, m₁, H₁, .tup (Heap.get?_push_size _ rfl) (by rw [List.toList_toArray]; exact ra.keep (.push _ _)), S₁.more (keep_push _ _), af₁.then S₁ (.more (keep_push _ _)), h₁⟩
theorem EV_list {es : List PySem.Expr} {p : Pos} {Q : V → Loc → CH → Prop} (h : EL C A es m H fun vs m₁ H₁ => vs.length ≤ sizeLine ∧ ∀ a, H₁ a = none → Q (.ref a) m₁ (H₁.set a (.list vs))) : EV C A (.List es p) m H Q := fun s S => by
  refine List_ (wpAny_mono (h s p S) ?_ fun _ _ x => x)
  rintro vs s₁ ⟨ws, m₁, H₁, ra, S₁, af₁, hl, h₁⟩
  refine wpAny_newObj_type ?_ (by show vs.toArray.size ≤ sizeLine; rw [List.size_toArray, ← ra.length]; exact hl)
  exact ⟨_, m₁, _, .ref, S₁.alloc (c := .list ws) ⟨_, 0, rfl, by rw [List.toList_toArray]; exact ra⟩, af₁.then S₁ .alloc, h₁ _ S₁.toHS.fresh⟩
theorem EX_nil {Q : Fl → Loc → CH → Prop} (h : Q .next m H) : EX C A [] m H Q := fun s S => wpAny_execs_nil (PF.here (f := .next) S rfl h)
/-- what is left to do behind a statement -/
noncomputable def SeqE (C : Cx) (A : Around) (rest : List Stmt) (Q : Fl → Loc → CH → Prop) (fl : Fl) (m : Loc) (H : CH) : Prop := match fl with
  | .next => EX C A rest m H Q
  | fl => Q fl m H
noncomputable def SeqK (R : Loc → CH → Prop) (Q : Fl → Loc → CH → Prop) (fl : Fl) (m : Loc) (H : CH) : Prop := match fl with
  | .next => R m H
  | fl => Q fl m H
section
variable {rest : List Stmt} {Q : Fl → Loc → CH → Prop} {R : Loc → CH → Prop} {v : V}
theorem SeqE.n (h : EX C A rest m H Q) : SeqE C A rest Q .next m H := h
theorem SeqE.b (h : Q .brk m H) : SeqE C A rest Q .brk m H := h
theorem SeqE.c (h : Q .cont m H) : SeqE C A rest Q .cont m H := h
theorem SeqE.r (h : Q (.ret v) m H) : SeqE C A rest Q (.ret v) m H := h
theorem SeqK.n (h : R m H) : SeqK R Q .next m H := h
theorem SeqK.b (h : Q .brk m H) : SeqK R Q .brk m H := h
theorem SeqK.c (h : Q .cont m H) : SeqK R Q .cont m H := h
theorem SeqK.r (h : Q (.ret v) m H) : SeqK R Q (.ret v) m H := h
end
theorem EX_cons {st : Stmt} {rest : List Stmt} {Q : Fl → Loc → CH → Prop} (h : ES C A st m H (SeqE C A rest Q)) : EX C A (st :: rest) m H Q := fun s S => by
  refine wpAny_execs_cons (wpAny_mono (h s S) ?_ fun _ _ x => x)
  rintro f s₁ ⟨fl, m₁, H₁, hf, S₁, af₁, h₁⟩
  cases fl with
  | next => cases hf; exact wpAny_mono (h₁ s₁ S₁) (fun _ _ x => x.mono S₁ af₁) fun _ _ x => x
  | brk => cases hf; exact ⟨.brk, m₁, H₁, rfl, S₁, af₁, h₁⟩
  | cont => cases hf; exact ⟨.cont, m₁, H₁, rfl, S₁, af₁, h₁⟩
  | ret v => obtain ⟨r, rfl, hr⟩ := hf; exact ⟨.ret v, m₁, H₁, ⟨r, rfl, hr⟩, S₁, af₁, h₁⟩
theorem ES_ret {e : PySem.Expr} {p : Pos} {Q : Fl → Loc → CH → Prop} (h : EV C A e m H fun v => Q (.ret v)) : ES C A (.Return (some e) p) m H Q := fun s S => by
  refine wpAny_Return_some (wpAny_mono (h s S) ?_ fun _ _ x => x)
  rintro a s₁ ⟨v, m₁, H₁, ra, S₁, af₁, h₁⟩
  exact ⟨.ret v, m₁, H₁, ⟨a, rfl, ra⟩, S₁, af₁, h₁⟩
theorem ES_break {p : Pos} {Q : Fl → Loc → CH → Prop} (h : Q .brk m H) : ES C A (.Break p) m H Q := fun s S => wpAny_Break (PF.here (f := .brk) S rfl h)
theorem ES_continue {p : Pos} {Q : Fl → Loc → CH → Prop} (h : Q .cont m H) : ES C A (.Continue p) m H Q := fun s S => wpAny_Continue (PF.here (f := .cont) S rfl h)
theorem ES_if {t : PySem.Expr} {b o : List Stmt} {p : Pos} {Q : Fl → Loc → CH → Prop} (h : EB C A t m H fun c m₁ H₁ => (c = true → EX C A b m₁ H₁ Q) ∧ (c = false → EX C A o m₁ H₁ Q)) : ES C A (.If t b o p) m H Q := fun s S => by
  refine wpAny_If (wpAny_mono (h s S) ?_ fun _ _ x => x)
  rintro c s₁ ⟨m₁, H₁, S₁, af₁, h₁⟩
  cases c with
  | true => simp only [if_true]; exact wpAny_mono (h₁.1 rfl s₁ S₁) (fun _ _ x => x.mono S₁ af₁) fun _ _ x => x
  | false => simp only [Bool.false_eq_true, if_false]; exact wpAny_mono (h₁.2 rfl s₁ S₁) (fun _ _ x => x.mono S₁ af₁) fun _ _ x => x
theorem ES_assign {t e : PySem.Expr} {p : Pos} {Q : Fl → Loc → CH → Prop} (h : EV C A e m H fun v m₁ H₁ => ASG C A t v m₁ H₁ (Q .next))
    (hs : swapsWithSole [t] e p.line C.env = pure false := by with_unfolding_all rfl) (hw : swappedStores [t] e C.env = pure none := by with_unfolding_all rfl) (ht : (assignEach [t] C.env).map (·.2) = [assign t C.env] := by with_unfolding_all rfl) : ES C A (.Assign [t] e p) m H Q := fun s S => by
  refine wpAny_Assign_stores (wpAny_mono (h s S) ?_ fun _ _ x => x) hs hw
  rintro a s₁ ⟨v, m₁, H₁, ra, S₁, af₁, h₁⟩
  rw [ht]
  refine wpAny_mono (h₁ s₁ a S₁ ra) ?_ fun _ _ x => x
  rintro _ s₂ ⟨m₂, H₂, S₂, af₂, h₂⟩
  exact ⟨.next, m₂, H₂, rfl, S₂, af₁.then S₁ af₂, h₂⟩
theorem ASG_local {x : Str} {p : Pos} {v : V} {Q : Loc → CH → Prop} (h : Q ((x, v) :: m) H)
    (hl : C.env.kindOf x = some .local := by with_unfolding_all rfl) (hp : (C.env.scope.kind == .class || (C.env.scope.kind == .module && C.env.locals != C.env.globals)) = false := by with_unfolding_all rfl) : ASG C A (.Name x p) v m H Q := fun s r S hv => by
  obtain ⟨mr, hn, hk⟩ := S.ns
  refine wpAny_assign_Name (wpAny_storeName_local hl hn (fun h' hn' hs => ?_) hp)
  exact ⟨_, H, S.store hv hk hn' hs, .store hn' hs, h⟩
theorem ASG_cell {x : Str} {p : Pos} {c : Addr} {v : V} {v₀ : Option V} {Q : Loc → CH → Prop} (hc : C.env.cells.lookup x = some c) (hm : H c = some (.cell v₀)) (h : Q m (H.set c (.cell (some v))))
    (hk : C.env.scope.kind = .function := by with_unfolding_all rfl) (hl : C.env.kindOf x = some .cell := by with_unfolding_all rfl) : ASG C A (.Name x p) v m H Q := fun s r S hv => by
  obtain ⟨q, hI, hr⟩ := St.cell S.toHS hm
  refine wpAny_assign_Name (wpAny_storeName_cell hk hl hc hI fun h' hI' hs => ?_)
  obtain ⟨o', ho', hd'⟩ := hI'
  exact ⟨m, _, S.upd (c' := .cell (some v)) (tk := s.toks) hm hs ho' ⟨_, hd', hv⟩, .upd hm hs ho', h⟩
noncomputable def ASGs (C : Cx) (A : Around) : List PySem.Expr → List V → Loc → CH → (Loc → CH → Prop) → Prop
  | [], [], m, H, Q => Q m H
  | t :: ts, v :: vs, m, H, Q => ASG C A t v m H fun m₁ H₁ => ASGs C A ts vs m₁ H₁ Q
  | _, _, _, _, _ => False
theorem assignInOrder_of : ∀ (ts : List PySem.Expr) (vs : List V) (rs : List Value) (m : Loc) (H : CH) (s : Shared) (Q : Loc → CH → Prop), ASGs C A ts vs m H Q → St C m H s → VRs s.heap vs rs →
    wpAny (model C.prog C.w) A (assignInOrder (ts.map fun t => assign t C.env) rs) (PA C H s fun _ => Q) NoE s
  | [], [], rs, m, H, s, Q, h, S, r => by have := r.nil_inv; subst this; exact wpAny_assignInOrder_none ⟨m, H, S, .refl .., h⟩
  | [], _ :: _, _, _, _, _, _, h, _, _ => h.elim
  | _ :: _, [], _, _, _, _, _, h, _, _ => h.elim
  | t :: ts, v :: vs, rs, m, H, s, Q, h, S, r => by
    obtain ⟨y, ys, rfl, a, b⟩ := r.cons_inv
    refine wpAny_assignInOrder_more (wpAny_mono (h s y S a) ?_ fun _ _ x => x)
    rintro _ s₁ ⟨m₁, H₁, S₁, af₁, h₁⟩
    exact wpAny_mono (assignInOrder_of ts vs ys m₁ H₁ s₁ Q h₁ S₁ (b.keep (af₁.tup S))) (fun _ _ x => x.mono S₁ af₁) fun _ _ x => x
theorem ASG_tuple {ts : List PySem.Expr} {k : Nat} {p : Pos} {vs : List V} {Q : Loc → CH → Prop} (hA : A.handled = none) (hlen : ts.length = vs.length) (h : ASGs C A ts vs m H Q)
    (ht : assignEach ts C.env = ts.map fun t => (false, assign t C.env) := by with_unfolding_all rfl) : ASG C A (.Tuple ts k p) (.tup vs) m H Q := fun s r S hv => by
  obtain ⟨a, items, n, rfl, ho, hs⟩ := hv.tup_inv
  have hl : items.size = vs.length := by have := hs.length; simp at this; omega
  refine wpAny_assign_Tuple hA ⟨_, ho, rfl, n, rfl⟩ (by rw [ht, List.length_map, hl, hlen]) (by rw [ht, List.findIdx?_map]; simp) fun h' he => ?_
  rw [ht, List.map_map]
  have S' : St C m H { s with heap := h' } := S.more (tk := s.toks) fun b o e => he b o (Nat.ne_of_lt (Heap.lt_size e)) e
  have := assignInOrder_of (A := A) ts vs items.toList m H { s with heap := h' } Q h S' (hs.keep (.of_keep fun b o e => he b o (Nat.ne_of_lt (Heap.lt_size e)) e))
  refine wpAny_mono this (fun _ _ x => x.mono S' (.more (tk := s.toks) fun b o e => he b o (Nat.ne_of_lt (Heap.lt_size e)) e)) fun _ _ x => x
end
end
end Mine
end
section
open PySem PySem.Calls PySem.W PyProof.Rows
set_option maxRecDepth 100000
namespace Mine
noncomputable section
section
variable {C : Cx} {A : Around} {m : Loc} {H : CH} {s : Shared} {Q : V → Loc → CH → Prop} {a b : Int}
theorem O2_add (h : Q (.int (a + b)) m H) : O2 C A (binaryOp .Add) (.int a) (.int b) m H Q := fun s r q S hr hq => by
  obtain ⟨t, rfl⟩ := hr.int_inv; obtain ⟨u, rfl⟩ := hq.int_inv; exact add_int (.same S .int h _)
theorem O2_sub (h : Q (.int (a - b)) m H) : O2 C A (binaryOp .Sub) (.int a) (.int b) m H Q := fun s r q S hr hq => by
  obtain ⟨t, rfl⟩ := hr.int_inv; obtain ⟨u, rfl⟩ := hq.int_inv; exact sub_int (.same S .int h _)
theorem O2_mul (hm : IntMulOk a b) (h : Q (.int (a * b)) m H) : O2 C A (binaryOp .Mult) (.int a) (.int b) m H Q := fun s r q S hr hq => by
  obtain ⟨t, rfl⟩ := hr.int_inv; obtain ⟨u, rfl⟩ := hq.int_inv; exact P.mul_int (.same S .int h _) hm
theorem O2_mod (hb : b ≠ 0) (h : Q (.int (a.fmod b)) m H) : O2 C A (binaryOp .Mod) (.int a) (.int b) m H Q := fun s r q S hr hq => by
  obtain ⟨t, rfl⟩ := hr.int_inv; obtain ⟨u, rfl⟩ := hq.int_inv; exact mod_int hb (.same S .int h _)
theorem O2_div (hb : b ≠ 0) (hs : b.natAbs < 1073741824) (h : Q (.int (a.fdiv b)) m H) : O2 C A (binaryOp .FloorDiv) (.int a) (.int b) m H Q := fun s r q S hr hq => by
  obtain ⟨t, rfl⟩ := hr.int_inv; obtain ⟨u, rfl⟩ := hq.int_inv; exact floordiv_int hb (.same S .int h _) (.inl (PyProof.noPylong_small hs))
theorem O2_shr (hb : 0 ≤ b) (h : Q (.int (a.fdiv (2 ^ b.toNat))) m H) : O2 C A (binaryOp .RShift) (.int a) (.int b) m H Q := fun s r q S hr hq => by
  obtain ⟨t, rfl⟩ := hr.int_inv; obtain ⟨u, rfl⟩ := hq.int_inv; exact rshift_int hb (.same S .int h _)
theorem O2_iadd (h : Q (.int (a + b)) m H) : O2 C A (inplaceOp .Add) (.int a) (.int b) m H Q := fun s r q S hr hq => by
  obtain ⟨t, rfl⟩ := hr.int_inv; obtain ⟨u, rfl⟩ := hq.int_inv; exact iadd_int (.same S .int h _)
theorem O2_isub (h : Q (.int (a - b)) m H) : O2 C A (inplaceOp .Sub) (.int a) (.int b) m H Q := fun s r q S hr hq => by
  obtain ⟨t, rfl⟩ := hr.int_inv; obtain ⟨u, rfl⟩ := hq.int_inv; exact P.isub_int (.same S .int h _)
theorem O1_neg (h : Q (.int (-a)) m H) : O1 C A (unaryOp .USub) (.int a) m H Q := fun s r S hr => by
  obtain ⟨t, rfl⟩ := hr.int_inv; exact P.neg_int (.same S .int h _)
theorem O2_lt (h : Q (.bool (decide (a < b))) m H) : O2 C A (compareOp .Lt) (.int a) (.int b) m H Q := fun s r q S hr hq => by
  obtain ⟨t, rfl⟩ := hr.int_inv; obtain ⟨u, rfl⟩ := hq.int_inv; exact lt_int (.here S .con h)
theorem O2_gt (h : Q (.bool (decide (b < a))) m H) : O2 C A (compareOp .Gt) (.int a) (.int b) m H Q := fun s r q S hr hq => by
  obtain ⟨t, rfl⟩ := hr.int_inv; obtain ⟨u, rfl⟩ := hq.int_inv; exact gt_int (.here S .con h)
theorem O2_eq (h : Q (.bool (decide (a = b))) m H) : O2 C A (compareOp .Eq) (.int a) (.int b) m H Q := fun s r q S hr hq => by
  obtain ⟨t, rfl⟩ := hr.int_inv; obtain ⟨u, rfl⟩ := hq.int_inv
  refine P.eq_int (.here S .con ?_)
  rw [show (a == b) = decide (a = b) from by by_cases h : a = b <;> simp [h]]; exact h
theorem O2_ne (h : Q (.bool (decide (a ≠ b))) m H) : O2 C A (compareOp .NotEq) (.int a) (.int b) m H Q := fun s r q S hr hq => by
  obtain ⟨t, rfl⟩ := hr.int_inv; obtain ⟨u, rfl⟩ := hq.int_inv
  refine P.ne_int (.here S .con ?_)
  rw [show (a != b) = decide (a ≠ b) from by by_cases h : a = b <;> simp [h]]; exact h
/-- is None -/
noncomputable def V.isNone : V → Bool
  | .con .none => true
  | _ => false
theorem VR.isNone {h : Heap} {v : V} {r : Value} (x : VR h v r) : (r == Value.none) = v.isNone := by
  cases v with
  | con c => rw [x.con_inv]; cases c <;> rfl
  | int i => obtain ⟨t, rfl⟩ := x.int_inv; rfl
  | str i => obtain ⟨t, rfl⟩ := x.str_inv; rfl
  | tup l => obtain ⟨a, items, n, rfl, _⟩ := x.tup_inv; rfl
  | rng => obtain ⟨z, t, u, w, rfl, _⟩ := x.rng_inv; rfl
  | imm => obtain ⟨_, a, rfl, _⟩ := x.imm_inv; rfl
  | fn => obtain ⟨a, _, _, _, rfl, _⟩ := x.fn_inv; rfl
  | ref a => rw [x.ref_inv]; rfl
theorem O2_isNone {v : V} (h : Q (.bool v.isNone) m H) : O2 C A (compareOp .Is) v .none m H Q := fun s r q S hr hq => by
  rw [hq.con_inv]; exact is_none (.here S .con (by rw [hr.isNone]; exact h))
theorem O2_isNotNone {v : V} (h : Q (.bool (!v.isNone)) m H) : O2 C A (compareOp .IsNot) v .none m H Q := fun s r q S hr hq => by
  rw [hq.con_inv]; exact isNot_none (.here S .con (by rw [hr.isNone]; exact h))
variable {QB : Bool → Loc → CH → Prop}
theorem OB_bool {b : Bool} (h : QB b m H) : OB C A truthy (.bool b) m H QB := fun s r S hr => by rw [hr.con_inv]; exact wpAny_truthy_bool (.here S h)
/-- a list that may be read: one of the clean heap's, or one of the base's -/
inductive LAt (C : Cx) (H : CH) (l : Addr) (xs : List V) : Prop where
  | own (h : H l = some (.list xs)) : LAt C H l xs
  | base (items : Array Value) (n : Nat) (h : C.h₀.get? l = some (seqObj "list" items n)) (hv : VRs C.h₀ xs items.toList) : LAt C H l xs
inductive LRep (s : Shared) (l : Addr) (xs : List V) : Prop
  | mk (items : Array Value) (n : Nat) (h : IsL s.heap l items n) (hv : VRs s.heap xs items.toList) (hz : items.size = xs.length) : LRep s l xs
theorem HS.list {l : Addr} {xs : List V} (S : HS C H s) (hl : LAt C H l xs) : LRep s l xs := by
  cases hl with
  | own hl =>
    obtain ⟨_, o, ho, items, n, rfl, hr⟩ := S.own _ _ hl
    exact ⟨items, n, ho, hr, by have := hr.length; simp at this; omega⟩
  | base items n h hv => exact ⟨items, n, S.base _ _ h, hv.keep (.of_keep S.base), by have := hv.length; simp at this; omega⟩
theorem OB_list {l : Addr} {xs : List V} (hl : LAt C H l xs) (hsz : xs.length ≤ sizeLine) (h : QB (!xs.isEmpty) m H) : OB C A truthy (.ref l) m H QB := fun s r S hr => by
  rw [hr.ref_inv]
  obtain ⟨items, n, hI, hv, hz⟩ := S.toHS.list hl
  have : items.isEmpty = xs.isEmpty := by
    cases xs with
    | nil => simp at hz; simp [hz]
    | cons => simp at hz; simp; intro e; simp [e] at hz
  refine wpAny_truthy_list hI.isList (by rw [hz]; unfold sizeLine at hsz; omega) ?_
  rw [this]; exact .same S h _
theorem EV_sub {value slice : PySem.Expr} {p : Pos} (h : EV C A value m H fun o m₁ H₁ => EV C A slice m₁ H₁ fun i m₂ H₂ => O2 C A (subscriptTail value slice) o i m₂ H₂ Q) : EV C A (.Subscript value slice p) m H Q := fun s S => by
  refine Subscript_ (wpAny_mono (h s S) ?_ fun _ _ x => x)
  rintro a s₁ ⟨v, m₁, H₁, ra, S₁, af₁, h₁⟩
  refine wpAny_mono (h₁ s₁ S₁) ?_ fun _ _ x => x
  rintro b s₂ ⟨w, m₂, H₂, rb, S₂, af₂, h₂⟩
  exact wpAny_mono (h₂ s₂ a b S₂ (ra.keep (af₂.tup S₁)) rb) (fun _ _ x => x.mono S₂ (af₁.then S₁ af₂)) fun _ _ x => x
noncomputable abbrev NoSlice (slice : PySem.Expr) : Prop := ∀ o i, subscripted slice false o i = operate [o, i] (getItem o i)
theorem sub_list {value slice : PySem.Expr} {l : Addr} {xs : List V} {k : Int} {v : V} (hl : LAt C H l xs) (h0 : 0 ≤ k) (hv : xs[k.toNat]? = some v) (hsz : xs.length ≤ sizeLine) (h : Q v m H) (hs : NoSlice slice := by intro _ _; with_unfolding_all rfl) :
    O2 C A (subscriptTail value slice) (.ref l) (.int k) m H Q := fun s r q S hr hq => by
  rw [hr.ref_inv]; obtain ⟨u, rfl⟩ := hq.int_inv
  obtain ⟨items, n, hI, hvs, hz⟩ := S.toHS.list hl
  obtain ⟨x, hx, hvx⟩ := hvs.get hv
  have hx' : items[k.toNat]? = some x := by simpa using hx
  have hk : k.toNat < xs.length := (List.getElem?_eq_some_iff.mp hv).1
  exact tail_any hI.isList.typeIs slot_list_getitem.lookup (wpAny_getItem_list hI.isList h0 (by unfold sizeLine at hsz; omega) hx' (.here S hvx h)) (hs _ _)
/-- from behind -/
theorem sub_list_neg {value slice : PySem.Expr} {l : Addr} {xs : List V} {k : Int} {v : V} (hl : LAt C H l xs) (h0 : k < 0) (h1 : -(xs.length : Int) ≤ k) (hv : xs[(k + xs.length).toNat]? = some v) (hsz : xs.length ≤ sizeLine) (h : Q v m H) (hs : NoSlice slice := by intro _ _; with_unfolding_all rfl) :
    O2 C A (subscriptTail value slice) (.ref l) (.int k) m H Q := fun s r q S hr hq => by
  rw [hr.ref_inv]; obtain ⟨u, rfl⟩ := hq.int_inv
  obtain ⟨items, n, hI, hvs, hz⟩ := S.toHS.list hl
  obtain ⟨x, hx, hvx⟩ := hvs.get hv
  have hx' : items[(k + items.size).toNat]? = some x := by rw [hz]; simpa using hx
  exact tail_any hI.isList.typeIs slot_list_getitem.lookup (wpAny_getItem_list_neg hI.isList h0 (by rw [hz]; exact h1) (by unfold sizeLine at hsz; omega) hx' (.here S hvx h)) (hs _ _)
theorem sub_tup {value slice : PySem.Expr} {xs : List V} {k : Int} {v : V} (h0 : 0 ≤ k) (hv : xs[k.toNat]? = some v) (hsz : xs.length ≤ sizeLine) (h : Q v m H) (hs : NoSlice slice := by intro _ _; with_unfolding_all rfl) :
    O2 C A (subscriptTail value slice) (.tup xs) (.int k) m H Q := fun s r q S hr hq => by
  obtain ⟨a, items, n, rfl, ho, hvs⟩ := hr.tup_inv; obtain ⟨u, rfl⟩ := hq.int_inv
  obtain ⟨x, hx, hvx⟩ := hvs.get hv
  have hk : k.toNat < xs.length := (List.getElem?_eq_some_iff.mp hv).1
  have hz : items.size = xs.length := by have := hvs.length; simp at this; omega
  have hj : seqIndex? k items.size = some k.toNat := seqIndex_at h0 (by omega)
  exact tail_any ⟨_, ho, rfl⟩ F.slot_tuple_getitem.lookup (P.getItem_tuple ho (by omega) (by unfold sizeLine at hsz; omega) hj (by simpa using hx) (.here S hvx h)) (hs _ _)
/-- stores -/
theorem set_list {l : Addr} {xs : List V} {k : Int} {v : V} {QU : Loc → CH → Prop} (hl : H l = some (.list xs)) (h0 : 0 ≤ k) (hk : k < xs.length) (hsz : xs.length ≤ sizeLine) (h : QU m (H.set l (.list (xs.set k.toNat v)))) :
    O3 C A setItem (.ref l) (.int k) v m H QU := fun s r q p S hr hq hp => by
  rw [hr.ref_inv]; obtain ⟨u, rfl⟩ := hq.int_inv
  obtain ⟨items, n, hI, hvs, hz⟩ := S.toHS.list (.own hl)
  unfold setItem
  try with_reducible refine wpAny_holding ?_
  first | refine wpAny_bind (wpAny_pure ?_) | skip
  refine wpAny_bind (wpAny_sequenceKey hI.isList.typeIs (by decide) ?_)
  refine wpAny_bind (wpAny_callSpecial?_slot (name := Str.ofString "__setitem__") hI.isList.typeIs slot_list_setitem
    (wpAny_call_entry slot_list_setitem hI.isList.typeIs entry_list_setitem ?_ (args_list_setitem _ _ _)))
  show wpAny _ _ (Builtin.List.listSubscript? (.int k u) >>= _) _ _ s
  refine wpAny_bind (wpAny_listSubscript_int (fitsIndex_of h0 (by unfold sizeLine at hsz; omega)) ?_)
  obtain ⟨j, rfl⟩ := Int.eq_ofNat_of_zero_le h0
  have hj : j < items.size := by omega
  have hx' : items[j]? = some items[j] := Array.getElem?_eq_getElem hj
  show wpAny _ _ ((seqItemAt l j >>= fun r => pure (r.map (j, ·))) >>= _) _ _ s
  refine wpAny_bind (wpAny_bind (wpAny_seqItemAt hI rfl (wpAny_pure ?_)))
  rw [hx']
  have fin : PA C H s (fun _ => QU) () { s with heap := s.heap.update l (Obj.mapSeq (·.setIfInBounds j p)) } := by
    refine ⟨m, _, S.upd (tk := s.toks) (c' := .list (xs.set j v)) hl (Heap.SameBut.update ..) (hI.update _) ⟨_, _, rfl, ?_⟩, .upd hl (Heap.SameBut.update ..) (hI.update _), h⟩
    rw [Array.toList_setIfInBounds]; exact hvs.set j hp
  first
    | exact wpAny_bind (wpAny_setSeqItemAt hI rfl (wpAny_pure ⟨_, rfl, wpAny_pure fin⟩))
    | exact wpAny_bind (wpAny_setSeqItemAt hI rfl (wpAny_bind (wpAny_pure (wpAny_pure ⟨_, rfl, wpAny_pure fin⟩))))
    | exact wpAny_setSeqItemAt hI rfl (wpAny_pure ⟨_, rfl, wpAny_pure fin⟩)
end
end
end Mine
end
section
open PySem PySem.Calls PySem.W PyProof.Rows
set_option maxRecDepth 100000
namespace Mine
noncomputable section
section
variable {C : Cx} {A : Around} {m : Loc} {H : CH} {s : Shared}
/-- what a turn's end says -/
noncomputable def Turn (Q : Fl → Loc → CH → Prop) (J : Loc → CH → Prop) (fl : Fl) (m₂ : Loc) (H₂ : CH) : Prop := match fl with
  | .next | .cont => J m₂ H₂
  | .brk => Q .next m₂ H₂
  | .ret v => Q (.ret v) m₂ H₂
inductive NextJ (J : Nat → Loc → CH → Prop) (i : Nat) (m : Loc) (H : CH) : Prop
  | mk (m₃ : Loc) (hs : Sub m₃ m) (h : J i m₃ H) : NextJ J i m H
inductive LessJ (J : Nat → Loc → CH → Prop) (n : Nat) (m : Loc) (H : CH) : Prop
  | mk (k : Nat) (m₃ : Loc) (hk : k < n) (hs : Sub m₃ m) (h : J k m₃ H) : LessJ J n m H
theorem ES_while {test : PySem.Expr} {body orelse : List Stmt} {p : Pos} {Q : Fl → Loc → CH → Prop} (I : Nat → Loc → CH → Prop) (n : Nat) (m' : Loc) (hs : Sub m' m) (h0 : I n m' H)
    (turn : ∀ n m H, I n m H → EB C A test m H fun b m₁ H₁ => (b = true → EX C A body m₁ H₁ (Turn Q (LessJ I n))) ∧ (b = false → EX C A orelse m₁ H₁ Q)) :
    ES C A (.While test body orelse p) m H Q := fun s S => by
  refine wpAny_While (codeAny_whileLoop (fun k s' => ∃ m₁ H₁, St C m₁ H₁ s' ∧ After C H s H₁ s' ∧ I k m₁ H₁) ?_ n ⟨m', H, S.sub hs, .refl .., h0⟩)
  rintro k s₁ ⟨m₁, H₁, S₁, af₁, hI⟩
  refine wpAny_noRaise (wpAny_mono (turn k m₁ H₁ hI s₁ S₁) ?_ fun _ _ x => x)
  rintro b s₂ ⟨m₂, H₂, S₂, af₂, h₂⟩
  cases b with
  | false =>
    simp only [Bool.false_eq_true, if_false]
    exact wpAny_noRaise (wpAny_mono (h₂.2 rfl s₂ S₂) (fun _ _ x => (x.mono S₂ (af₁.then S₁ af₂))) fun _ _ x => x)
  | true =>
    simp only [if_true]
    refine wpAny_noRaise (wpAny_mono (h₂.1 rfl s₂ S₂) ?_ fun _ _ x => x)
    rintro f s₃ ⟨fl, m₃, H₃, hf, S₃, af₃, h₃⟩
    have af : After C H s H₃ s₃ := (af₁.then S₁ af₂).then S₂ af₃
    cases fl with
    | next => cases hf; obtain ⟨j, m₄, hj, hs₄, hI₄⟩ := h₃; exact ⟨j, hj, m₄, H₃, S₃.sub hs₄, af, hI₄⟩
    | cont => cases hf; obtain ⟨j, m₄, hj, hs₄, hI₄⟩ := h₃; exact ⟨j, hj, m₄, H₃, S₃.sub hs₄, af, hI₄⟩
    | brk => cases hf; exact ⟨.next, m₃, H₃, rfl, S₃, af, h₃⟩
    | ret v => obtain ⟨r, rfl, hr⟩ := hf; exact ⟨.ret v, m₃, H₃, ⟨r, rfl, hr⟩, S₃, af, h₃⟩
/-- an iterator of the machine's own: its object by the turn's number, what it gives -/
inductive NextR (I : Addr) (ob : Nat → Heap → Obj → Prop) (i : Nat) (v : V) (s : Shared) (r : Option Value) (s' : Shared) : Prop
  | mk (rv : Value) (h' : Heap) (tk : Nat) (o' : Obj) (e1 : r = some rv) (e2 : s' = { s with heap := h', toks := tk }) (hv : VR h' v rv) (hx : Heap.ExtBut I s.heap h') (ho : h'.get? I = some o') (hob : ob (i + 1) s.heap o') : NextR I ob i v s r s'
inductive DoneR (I : Addr) (s : Shared) (r : Option Value) (s' : Shared) : Prop
  | mk (h' : Heap) (tk : Nat) (e1 : r = none) (e2 : s' = { s with heap := h', toks := tk }) (hx : Heap.ExtBut I s.heap h') : DoneR I s r s'
structure Prot (C : Cx) (A : Around) (I : Addr) (ob : Nat → Heap → Obj → Prop) (nx : CH → Nat → Option (Option V)) : Prop where
  plain : ∀ i h o, ob i h o → ¬ Imm o
  nodict : ∀ i h o es ep, ob i h o → o.data ≠ .dict es ep
  kept : ∀ i h h' o, TupKeep h h' → ob i h o → ob i h' o
  item : ∀ H s i o v, HS C H s → H I = none → s.heap.get? I = some o → ob i s.heap o → nx H i = some (some v) →
    wpAny (model C.prog C.w) A (pyNext (.ref I)) (NextR I ob i v s) NoE s
  done : ∀ H s i o, HS C H s → H I = none → s.heap.get? I = some o → ob i s.heap o → nx H i = some none →
    wpAny (model C.prog C.w) A (pyNext (.ref I)) (DoneR I s) NoE s
  own : ∀ (target : PySem.Expr) (v : Value) (s : Shared) (i : Nat) (h : Heap) (o : Obj) (Q : Unit → Shared → Prop), s.heap.get? I = some o → ob i h o → Q () s → wpAny (model C.prog C.w) A (letOwnedTupleGo target (.ref I) v) Q NoE s
  self : ∀ (s : Shared) (i : Nat) (h : Heap) (o : Obj) (E : Value → Shared → Prop) (Q : Value → Shared → Prop), s.heap.get? I = some o → ob i h o → Q (.ref I) s → wpAny (model C.prog C.w) A (pyIter (.ref I)) Q E s
theorem tup_ext {I : Addr} {h h' : Heap} {o : Obj} (ho : h.get? I = some o) (hp : ¬ Imm o) (he : Heap.ExtBut I h h') : TupKeep h h' := fun b o' i e =>
  he b _ (fun q => by subst q; rw [ho] at e; cases e; exact hp i) e
inductive IterR (C : Cx) (A : Around) (nx : CH → Nat → Option (Option V)) (s : Shared) (ri : Value) (s' : Shared) : Prop
  | mk (I : Addr) (ob : Nat → Heap → Obj → Prop) (h' : Heap) (tk : Nat) (o : Obj) (e1 : ri = .ref I) (e2 : s' = { s with heap := h', toks := tk }) (hk : ∀ b o, s.heap.get? b = some o → h'.get? b = some o) (hI : s.heap.get? I = none) (ho : h'.get? I = some o) (hob : ob 0 h' o) (P : Prot C A I ob nx) : IterR C A nx s ri s'
noncomputable def Iterable (C : Cx) (A : Around) (v : V) (H : CH) (nx : CH → Nat → Option (Option V)) : Prop := ∀ s r, HS C H s → VR s.heap v r →
  wpAny (model C.prog C.w) A (pyIter r) (IterR C A nx s) NoE s
inductive ForI (C : Cx) (ob : Nat → Heap → Obj → Prop) (J : Nat → Loc → CH → Prop) (I : Addr) (N : Nat) (H : CH) (s : Shared) (k : Nat) (s' : Shared) : Prop
  | mk (i : Nat) (m' : Loc) (H' : CH) (o : Obj) (hk : k = N + 1 - i) (hS : St C m' H' s') (ha : After C H s H' s') (hI : H' I = none) (ho : s'.heap.get? I = some o) (hob : ob i s'.heap o) (hJ : J i m' H') : ForI C ob J I N H s k s'
theorem for_core {target : PySem.Expr} {body orelse : List Stmt} {Q : Fl → Loc → CH → Prop} {I : Addr} {ob : Nat → Heap → Obj → Prop} {nx : CH → Nat → Option (Option V)} {N : Nat} {J : Nat → Loc → CH → Prop} {R : Result → Shared → Prop}
    (P : Prot C A I ob nx) (hIl : I ≠ C.env.locals) (hIb : C.h₀.get? I = none)
    (hidA : ∀ {H' : CH} {s' : Shared} {h' : Heap} {tk : Nat} {o : Obj}, After C H s H' s' → Heap.ExtBut I s'.heap h' → h'.get? I = some o → After C H s H' { s' with heap := h', toks := tk })
    (done : ∀ m' H' s' i o, St C m' H' s' → After C H s H' s' → H' I = none → s'.heap.get? I = some o → ob i s'.heap o → nx H' i = some none → wpAny (model C.prog C.w) A (pyNext (.ref I)) (fun r s'' => DoneR I s' r s'' ∧ After C H s H' s'') NoE s')
    (turn : ∀ i m H, J i m H → i ≤ N ∧ ((∃ v, nx H i = some (some v) ∧ ASG C A target v m H fun m' H' => EX C A body m' H' (Turn Q (NextJ J (i + 1)))) ∨ (nx H i = some none ∧ EX C A orelse m H Q)))
    (fin : ∀ f s', PF C H s Q f s' → R (.ok f) s') {k : Nat} {s₁ : Shared} (h : ForI C ob J I N H s k s₁) : codeAny (model C.prog C.w) A (.forLoop target (.ref I) body orelse C.env) R s₁ := by
  refine codeAny_forLoop_any (ForI C ob J I N H s) ?_ k h
  rintro k s₃ ⟨i, m₃, H₃, o3, rfl, S₃, af₃, hI3, hob3, hoi3, hJ3⟩
  obtain ⟨hN, h3⟩ := turn i m₃ H₃ hJ3
  rcases h3 with ⟨x, hx, hasg⟩ | ⟨hx, hq⟩
  · refine wpAny_noRaise (wpAny_mono (P.item H₃ s₃ i o3 x S₃.toHS hI3 hob3 hoi3 hx) ?_ fun _ _ x => x)
    rintro r s₄ ⟨rx, h4, tk4, o4, rfl, rfl, hvx, he, hob4, hoi4⟩
    have S₄ : St C m₃ H₃ { s₃ with heap := h4, toks := tk4 } := S₃.hid hob3 hI3 hIb (fun es ep => P.nodict i _ o3 es ep hoi3) (P.plain i _ o3 hoi3) he
    have af₄ : After C H s H₃ { s₃ with heap := h4, toks := tk4 } := hidA af₃ he hob4
    refine wpAny_noRaise (P.own target rx _ (i + 1) _ o4 _ hob4 hoi4 ?_)
    refine wpAny_noRaise (wpAny_mono (hasg _ rx S₄ hvx) ?_ fun _ _ x => x)
    rintro _ s₅ ⟨m₅, H₅, S₅, af₅, h₅⟩
    refine wpAny_noRaise (wpAny_mono (h₅ s₅ S₅) ?_ fun _ _ x => x)
    rintro f s₆ ⟨fl, m₆, H₆, hf, S₆, af₆, h₆⟩
    have af : After C H s H₆ s₆ := (af₄.then S₄ af₅).then S₅ af₆
    have again : NextJ J (i + 1) m₆ H₆ → ∃ k, k < N + 1 - i ∧ ForI C ob J I N H s k s₆ := by
      rintro ⟨m₇, hs7, hJ7⟩
      have a5 := af₅.grow I _ hI3 hob4
      obtain ⟨o5, b5, k5⟩ := af₅.stay I _ hIl hI3 hob4
      rw [k5.exact (fun es ep => P.nodict _ _ o4 es ep hoi4)] at b5
      obtain ⟨o6, b6, k6⟩ := af₆.stay I _ hIl a5 b5
      rw [k6.exact (fun es ep => P.nodict _ _ o4 es ep hoi4)] at b6
      exact ⟨N + 1 - (i + 1), by omega, i + 1, m₇, H₆, o4, rfl, S₆.sub hs7, af, af₆.grow I _ a5 b5, b6, P.kept _ _ _ _ (((tup_ext hob3 (P.plain i _ o3 hoi3) he).trans (af₅.tup S₄)).trans (af₆.tup S₅)) hoi4, hJ7⟩
    cases fl with
    | next => cases hf; exact again h₆
    | cont => cases hf; exact again h₆
    | brk => cases hf; exact fin _ _ ⟨.next, m₆, H₆, rfl, S₆, af, h₆⟩
    | ret v => obtain ⟨r, rfl, hr⟩ := hf; exact fin _ _ ⟨.ret v, m₆, H₆, ⟨r, rfl, hr⟩, S₆, af, h₆⟩
  · refine wpAny_noRaise (wpAny_mono (done m₃ H₃ s₃ i o3 S₃ af₃ hI3 hob3 hoi3 hx) ?_ fun _ _ x => x)
    rintro r s₄ ⟨⟨h4, tk4, rfl, rfl, he⟩, af₄⟩
    have S₄ : St C m₃ H₃ { s₃ with heap := h4, toks := tk4 } := S₃.hid hob3 hI3 hIb (fun es ep => P.nodict i _ o3 es ep hoi3) (P.plain i _ o3 hoi3) he
    exact wpAny_noRaise (wpAny_mono (hq _ S₄) (fun _ _ x => fin _ _ (x.mono S₄ af₄)) fun _ _ x => x)
theorem ES_for {target iter : PySem.Expr} {body orelse : List Stmt} {p : Pos} {Q : Fl → Loc → CH → Prop}
    (h : EV C A iter m H fun v m₁ H₁ => ∃ (nx : CH → Nat → Option (Option V)) (N : Nat) (m₂ : Loc) (J : Nat → Loc → CH → Prop), Iterable C A v H₁ nx ∧ Sub m₂ m₁ ∧ J 0 m₂ H₁ ∧ ∀ i m H, J i m H → i ≤ N ∧
      ((∃ v, nx H i = some (some v) ∧ ASG C A target v m H fun m' H' => EX C A body m' H' (Turn Q (NextJ J (i + 1)))) ∨ (nx H i = some none ∧ EX C A orelse m H Q)))
    (hs : ∀ x, foldedSetIterable iter C.env x = pure x := by intro _; with_unfolding_all rfl) : ES C A (.For target iter body orelse p) m H Q := fun s S => by
  refine wpAny_For (wpAny_mono (h s S) ?_ fun _ _ x => x) hs
  rintro r s₁ ⟨v, m₁, H₁, rv, S₁, af₁, nx, N, m₂, J, it, hsub, hJ, turn⟩
  refine wpAny_noRaise (wpAny_mono (it s₁ r S₁.toHS rv) ?_ fun _ _ x => x)
  rintro ri s₂ ⟨I, ob, h', tk, o0, rfl, rfl, hk, hI, hob, hob0, P⟩
  have hIl : I ≠ C.env.locals := fun e => by obtain ⟨o, e'⟩ := S₁.at_loc; rw [← e, hI] at e'; cases e'
  have hIb : C.h₀.get? I = none := by
    cases q : C.h₀.get? I with
    | none => rfl
    | some o => rw [S₁.base I o q] at hI; cases hI
  have hI1 : H₁ I = none := by
    cases q : H₁ I with
    | none => rfl
    | some c => obtain ⟨_, o, e, _⟩ := S₁.own I c q; rw [hI] at e; cases e
  have hI0 : s.heap.get? I = none := by
    cases q : s.heap.get? I with
    | none => rfl
    | some o => obtain ⟨o', e'⟩ := af₁.there _ _ q; rw [hI] at e'; cases e'
  refine for_core P hIl hIb (fun a he _ => a.hid hI0 he) (fun m' H' s' i o S' a hI ho hob hn => wpAny_mono (P.done H' s' i o S'.toHS hI ho hob hn) ?_ fun _ _ x => x) turn (fun _ _ x => x) (k := N + 1)
    ⟨0, m₂, H₁, _, rfl, (S₁.more hk).sub hsub, af₁.then S₁ (.more hk), hI1, hob, hob0, hJ⟩
  rintro r s'' ⟨h4, tk4, rfl, rfl, he⟩
  exact ⟨⟨h4, tk4, rfl, rfl, he⟩, a.hid hI0 he⟩
theorem ES_expr {e : PySem.Expr} {p : Pos} {Q : Fl → Loc → CH → Prop} (h : EV C A e m H fun _ => Q .next) (hi : interactive C.env = false := by with_unfolding_all rfl) (hs : swapsWith e none p.line C.env = pure false := by with_unfolding_all rfl) : ES C A (.Expr e p) m H Q := fun s S => by
  refine wpAny_Expr_any (wpAny_mono (h s S) ?_ fun _ _ x => x) hi hs
  rintro r s₁ ⟨v, m₁, H₁, rv, S₁, af₁, h₁⟩
  exact ⟨.next, m₁, H₁, rfl, S₁, af₁, h₁⟩
theorem ASG_sub {o i : PySem.Expr} {p : Pos} {v : V} {Q : Loc → CH → Prop} (h : EV C A o m H fun ov m₁ H₁ => EV C A i m₁ H₁ fun iv m₂ H₂ => O3 C A setItem ov iv v m₂ H₂ Q) : ASG C A (.Subscript o i p) v m H Q := fun s r S hv => by
  rw [assign_Subscript]
  refine wpAny_bind (wpAny_holding (wpAny_mono (h s S) ?_ fun _ _ x => x))
  rintro a s₁ ⟨ov, m₁, H₁, ra, S₁, af₁, h₁⟩
  refine wpAny_bind (wpAny_holding (wpAny_mono (h₁ s₁ S₁) ?_ fun _ _ x => x))
  rintro b s₂ ⟨iv, m₂, H₂, rb, S₂, af₂, h₂⟩
  refine wpAny_bind (wpAny_standAt (wpAny_bind (wpAny_holding (wpAny_mono (h₂ s₂ a b r S₂ (ra.keep (af₂.tup S₁)) rb ((hv.keep (af₁.tup S)).keep (af₂.tup S₁))) ?_ fun _ _ x => x))))
  rintro _ s₃ x
  have := x.mono S₂ (af₁.then S₁ af₂)
  exact fun Γ p hΓ => by rw [Sem.wp_release]; exact this
end
end
end Mine
end
section
open PySem PySem.Calls PySem.W PyProof.Rows
set_option maxRecDepth 100000
namespace Mine
noncomputable section
section
variable {C : Cx} {A : Around} {m : Loc} {H : CH} {s : Shared}
/-- keyword arguments -/
noncomputable def KWs (h : Heap) (kws : List (Str × V)) (rkw : List (Str × Value)) : Prop := rkw.map (·.1) = kws.map (·.1) ∧ VRs h (kws.map (·.2)) (rkw.map (·.2))
theorem KWs.keep {h h' : Heap} (k : TupKeep h h') {kws : List (Str × V)} {rkw : List (Str × Value)} (x : KWs h kws rkw) : KWs h' kws rkw := ⟨x.1, x.2.keep k⟩
theorem KWs.nil {h : Heap} : KWs h [] [] := ⟨rfl, .nil⟩
theorem KWs.nil_inv {h : Heap} {rkw : List (Str × Value)} (x : KWs h [] rkw) : rkw = [] := List.map_eq_nil_iff.mp x.1
noncomputable def CALL (C : Cx) (A : Around) (f : V) (vs : List V) (kws : List (Str × V)) (H : CH) (Q : V → CH → Prop) : Prop := ∀ s rf rs rkw, HS C H s → Frs C H s → VR s.heap f rf → VRs s.heap vs rs → KWs s.heap kws rkw →
  codeAny (model C.prog C.w) A (.call rf ⟨rs, rkw⟩) (fun r s' => match r with | .ok (.ret rv) => ∃ v H', VR s'.heap v rv ∧ HS C H' s' ∧ AfterC H s H' s' ∧ Q v H' | _ => False) s
noncomputable def CV (C : Cx) (A : Around) (f : V) (vs : List V) (kws : List (Str × V)) (m : Loc) (H : CH) (Q : V → Loc → CH → Prop) : Prop := ∀ s rf rs rkw, St C m H s → VR s.heap f rf → VRs s.heap vs rs → KWs s.heap kws rkw →
  wpAny (model C.prog C.w) A (call rf rs rkw) (PV C H s Q) NoE s
theorem St.called {H' : CH} {s' : Shared} (S : St C m H s) (S' : HS C H' s') (a : AfterC H s H' s') : St C m H' s' := by
  obtain ⟨mr, hn, k⟩ := S.ns
  obtain ⟨o, es, ep, ho, hd, hk, hf⟩ := hn
  obtain ⟨o', ho', kin⟩ := a.stay _ o S.loc ho
  exact ⟨S', ⟨mr, ⟨o', es, ep, ho', kin.data.trans hd, hk, hf⟩, k.keep (a.tup S.toHS)⟩, a.grow _ o S.loc ho, S.locb, S.frs.after a⟩
theorem CV_of {f : V} {vs : List V} {kws : List (Str × V)} {Q : V → Loc → CH → Prop} (h : CALL C A f vs kws H fun v H' => Q v m H') : CV C A f vs kws m H Q := fun s rf rs rkw S hf hv hk => by
  refine wpAny_call (codeAny_mono (h s rf rs rkw S.toHS S.frs hf hv hk) ?_)
  rintro r s' x
  cases r with
  | error e => exact x.elim
  | ok f =>
    cases f with
    | ret rv => obtain ⟨v, H', a, b, c, d⟩ := x; exact ⟨v, m, H', a, S.called b c, c.after, d⟩
    | next => exact x.elim
    | brk => exact x.elim
    | cont => exact x.elim
theorem CALL.mono {f : V} {vs : List V} {kws : List (Str × V)} {Q Q' : V → CH → Prop} (h : CALL C A f vs kws H Q) (q : ∀ v H', Q v H' → Q' v H') : CALL C A f vs kws H Q' := fun s rf rs rkw S F hf hv hk => by
  refine codeAny_mono (h s rf rs rkw S F hf hv hk) ?_
  rintro r s' x
  cases r with
  | error e => exact x.elim
  | ok f =>
    cases f with
    | ret rv => obtain ⟨v, H', a, b, c, d⟩ := x; exact ⟨v, H', a, b, c, q _ _ d⟩
    | next => exact x.elim
    | brk => exact x.elim
    | cont => exact x.elim
/-- who keeps the callee -/
noncomputable def KP (C : Cx) (f : V) (H : CH) : Prop := ∀ s rf, HS C H s → VR s.heap f rf → ∃ k, Looks (model C.prog C.w) s.heap (keeperOf rf) k
theorem KP_built {id : String} : KP C (.con (.builtin id)) H := fun s rf S hf => ⟨.machine, by rw [hf.con_inv]; exact Looks.of_pure rfl⟩
theorem KP_type {n : String} : KP C (.con (.type n)) H := fun s rf S hf => ⟨.machine, by rw [hf.con_inv]; exact Looks.of_pure rfl⟩
theorem looks_keeper_fn {M : Model} {h : Heap} {a : Addr} {o : Obj} {fd : FuncData} (e : h.get? a = some o) (hd : o.data = .func fd) : Looks M h (keeperOf (.ref a)) .frame := by
  intro A Q E s k q
  unfold keeperOf
  refine wpAny_bind (wpAny_load (k _ _ e) ?_)
  rw [hd]; exact wpAny_pure q
theorem KP_fn {a : Addr} {o : Obj} {fd : FuncData} (e : C.h₀.get? a = some o) (hd : o.data = .func fd) : KP C (.con (.ref a)) H := fun s rf S hf => by
  rw [hf.con_inv]; exact ⟨.frame, looks_keeper_fn (S.base _ _ e) hd⟩
theorem callWith_any {M : Model} {E : Value → Shared → Prop} {pos : Pos} {f : Value} {first : List Value} {args : List (Bool × Sem Value)} {kws : List (Option Str × Sem Value)} {Q : Value → Shared → Prop}
    (h : wpAny M A (evalArgs f true args kws) (fun a s₁ => ∃ k, Looks M s₁.heap (keeperOf f) k ∧ wpAny M A (call f (first ++ a.pos) a.kw) Q E s₁) E s) : wpAny M A (callWith pos f first args kws) Q E s := by
  unfold callWith
  refine wpAny_bind (wpAny_holding (wpAny_mono h (fun a s₁ h₁ => wpAny_bind (wpAny_standAt ?_)) fun _ _ x => x))
  obtain ⟨k, L, hc⟩ := h₁
  refine wpAny_bind (L.here ?_)
  have tail : ∀ {t : Sem Value}, wpAny M A t Q E s₁ → wpAny M A (t >>= fun r => holding [r] point >>= fun _ => pure r) Q E s₁ :=
    fun ht => wpAny_bind (wpAny_mono ht (fun r s₂ hr => wpAny_bind (wpAny_holding (wpAny_point (wpAny_pure hr)))) fun _ _ x => x)
  have marked (mk : Value) : wpAny M A (callMarked mk f (first ++ a.pos) a.kw) Q E s₁ := by unfold callMarked; exact Calls.wpAny_keep hc
  cases k <;> cases (args.any (·.1) || kws.any (·.1.isNone)) <;> dsimp only <;> first
    | exact tail (marked _)
    | exact tail hc
    | exact tail (wpAny_operating hc)
    | (split <;> first | exact tail hc | exact tail (marked _))
/-- plain arguments -/
theorem evalArgs_gen {M : Model} {E : Value → Shared → Prop} {f : Value} {args : List (Bool × Sem Value)} {Q : Args → Shared → Prop} (hne : (args.head?.map (·.1)).getD false = false)
    (h : wpAny M A (spliced args) (fun vs s' => Q ⟨vs, []⟩ s') E s) : wpAny M A (evalArgs f true args []) Q E s := by
  match args, hne, h with
  | (false, x) :: r, _, h => exact evalArgs_plain h
  | [], _, h =>
    unfold evalArgs
    show wpAny M A (spliced [] >>= _) Q E s
    refine wpAny_bind (wpAny_mono h (fun vs s' h' => ?_) fun _ _ x => x)
    refine wpAny_bind (wpAny_pure ?_)
    refine wpAny_holding ?_
    exact wpAny_bind (wpAny_pure (wpAny_bind (wpAny_pure (wpAny_pure h'))))
theorem evalArgs_of {f : Value} {es : List PySem.Expr} {pos : Pos} {Q : List V → Loc → CH → Prop} {Q' : Args → Shared → Prop} (h : EL C A es m H Q) (hst : ((backTo pos (starEach es C.env)).head?.map (·.1)).getD false = false) (S : St C m H s)
    (hq : ∀ rs s', PL C H s Q rs s' → Q' ⟨rs, []⟩ s') : wpAny (model C.prog C.w) A (evalArgs f true (backTo pos (starEach es C.env)) (backToKw pos (keywordEach [] C.env))) Q' NoE s :=
  evalArgs_gen hst (wpAny_mono (h s pos S) (fun rs s' x => hq rs s' x) fun _ _ x => x)
noncomputable abbrev NoLone (C : Cx) (es : List PySem.Expr) : Prop := ∀ pos, ((backTo pos (starEach es C.env)).head?.map (·.1)).getD false = false
theorem EV_call {func : PySem.Expr} {args : List PySem.Expr} {p : Pos} {Q : V → Loc → CH → Prop} (h : EV C A func m H fun f m₁ H₁ => EL C A args m₁ H₁ fun vs m₂ H₂ => KP C f H₂ ∧ CV C A f vs [] m₂ H₂ Q)
    (hst : NoLone C args := by intro _; with_unfolding_all rfl)
    (he : eval (.Call func args [] p) C.env = (do callWith p (← eval func C.env) [] (backTo p (starEach args C.env)) (backToKw p (keywordEach [] C.env))) := by with_unfolding_all rfl) : EV C A (.Call func args [] p) m H Q := fun s S => by
  rw [he]
  refine wpAny_bind (wpAny_mono (h s S) ?_ fun _ _ x => x)
  rintro rf s₁ ⟨f, m₁, H₁, vf, S₁, af₁, h₁⟩
  refine callWith_any (evalArgs_of h₁ (hst p) S₁ ?_)
  rintro rs s₂ ⟨vs, m₂, H₂, vr, S₂, af₂, hk, h₂⟩
  have vf₂ := vf.keep (af₂.tup S₁)
  obtain ⟨k, L⟩ := hk s₂ rf S₂.toHS vf₂
  exact ⟨k, L, wpAny_mono (h₂ s₂ rf rs [] S₂ vf₂ vr .nil) (fun _ _ x => x.mono S₂ (af₁.then S₁ af₂)) fun _ _ x => x⟩
/-- a method as a call sees it: the function, and what goes ahead of the arguments -/
noncomputable def GM (C : Cx) (A : Around) (o : V) (name : Str) (m : Loc) (H : CH) (Q : V → List V → Prop) : Prop := ∀ s ro (pl : Sem Bool), St C m H s → VR s.heap o ro →
  wpAny (model C.prog C.w) A (getMethod ro name pl) (fun r s' => ∃ f first, VR s'.heap f r.1 ∧ VRs s'.heap first r.2 ∧ s'.heap = s.heap ∧ s'.gens = s.gens ∧ s'.drawn = s.drawn ∧ s'.os = s.os ∧ Q f first) NoE s
theorem EV_meth {o : PySem.Expr} {name : Str} {apos p : Pos} {args : List PySem.Expr} {Q : V → Loc → CH → Prop}
    (h : EV C A o m H fun ov m₁ H₁ => GM C A ov name m₁ H₁ fun f first => EL C A args m₁ H₁ fun vs m₂ H₂ => KP C f H₂ ∧ CV C A f (first ++ vs) [] m₂ H₂ Q)
    (hst : NoLone C args := by intro _; with_unfolding_all rfl)
    (hb : ∀ whole, attributeBase o name C.env whole = whole := by intro _; with_unfolding_all rfl) (hn : methodCallForm (args.length + 0) (backTo p (starEach args C.env)) [] = true := by with_unfolding_all rfl)
    (hp : apos.endLine == p.line := by with_unfolding_all rfl) : EV C A (.Call (.Attribute o name apos) args [] p) m H Q := fun s S => by
  have he : eval (.Call (.Attribute o name apos) args [] p) C.env = (do
      let ov ← attributeBase o name C.env (eval o C.env)
      standAt apos.atName
      methodCall o name apos p C.env ov (args.length + 0) (backTo p (starEach args C.env)) []) := rfl
  rw [he, hb]
  refine wpAny_bind (wpAny_mono (h s S) ?_ fun _ _ x => x)
  rintro ro s₁ ⟨ov, m₁, H₁, vo, S₁, af₁, h₁⟩
  refine wpAny_bind (wpAny_standAt ?_)
  unfold methodCall
  rw [hn]
  refine wpAny_bind (wpAny_holding ?_)
  show wpAny _ _ (getMethod ro name _) _ _ s₁
  refine wpAny_mono (h₁ s₁ ro _ S₁ vo) ?_ fun _ _ x => x
  rintro ⟨rf, rfirst⟩ s₂ ⟨f, first, vf, vfi, hh, hg, hd, ho, h₂⟩
  have hq : methodCallPos true o C.env apos p = pure p := by unfold methodCallPos; rw [hp]; rfl
  rw [hq]
  refine wpAny_bind (wpAny_pure ?_)
  have S₂ : St C m₁ H₁ s₂ := ⟨⟨by rw [hh]; exact S₁.base, by rw [hh]; exact S₁.own, hg.trans S₁.gens⟩, by rw [hh]; exact S₁.ns, S₁.loc, S₁.locb, by unfold Frs; rw [hh]; exact S₁.frs⟩
  have af₂ : After C H s H₁ s₂ := ⟨by rw [hh]; exact af₁.stay, af₁.grow, by rw [hh]; exact af₁.there, hd.trans af₁.drawn, ho.trans af₁.os⟩
  refine callWith_any (evalArgs_of h₂ (hst p) S₂ ?_)
  rintro rs s₃ ⟨vs, m₃, H₃, vr, S₃, af₃, hk, h₃⟩
  have vf₃ := vf.keep (af₃.tup S₂)
  obtain ⟨k, L⟩ := hk s₃ rf S₃.toHS vf₃
  exact ⟨k, L, wpAny_mono (h₃ s₃ rf _ [] S₃ vf₃ ((vfi.keep (af₃.tup S₂)).append vr) .nil) (fun _ _ x => x.mono S₃ (af₂.then S₂ af₃)) fun _ _ x => x⟩
noncomputable def Binds (C : Cx) (H : CH) (fd : FuncData) (vs : List V) (kws : List (Str × V)) (binds : List (Str × V)) : Prop := ∀ s rs rkw, HS C H s → VRs s.heap vs rs → KWs s.heap kws rkw →
  ∃ rb : List (Str × Value), BindsTo s fd ⟨rs, rkw⟩ rb ∧ KWs s.heap binds rb
theorem lookup_kws {h : Heap} : ∀ {binds : List (Str × V)} {rb : List (Str × Value)}, KWs h binds rb → ∀ {x : Str} {v : V}, binds.lookup x = some v → ∃ r, rb.lookup x = some r ∧ VR h v r
  | [], _, _, x, v, e => by simp at e
  | (y, w) :: b, rb, k, x, v, e => by
    obtain ⟨k1, k2⟩ := k
    cases rb with
    | nil => simp at k1
    | cons q rb =>
      obtain ⟨z, r⟩ := q
      simp only [List.map_cons, List.cons.injEq] at k1 k2
      obtain ⟨rfl, k1⟩ := k1
      rw [List.lookup_cons] at e ⊢
      cases hb : x == z with
      | true => rw [hb] at e; cases e; exact ⟨r, rfl, k2.head⟩
      | false => rw [hb] at e; exact lookup_kws ⟨k1, k2.tail⟩ e
theorem VRs.rev {h : Heap} : ∀ {xs : List V} {vs : List Value}, VRs h xs vs → VRs h xs.reverse vs.reverse
  | [], vs, r => by have := r.nil_inv; subst this; exact .nil
  | x :: xs, vs, r => by
    obtain ⟨y, ys, rfl, a, b⟩ := r.cons_inv
    rw [List.reverse_cons, List.reverse_cons]
    exact b.rev.append (.cons a .nil)
theorem KWs.rev {h : Heap} {binds : List (Str × V)} {rb : List (Str × Value)} (k : KWs h binds rb) : KWs h binds.reverse rb.reverse :=
  ⟨by rw [List.map_reverse, List.map_reverse, k.1], by rw [List.map_reverse, List.map_reverse]; exact k.2.rev⟩
noncomputable abbrev Cx.at (C : Cx) (env : Env) : Cx := { C with env := env, fr := env :: C.fr }
theorem HS.at {env : Env} (S : HS C H s) : HS (C.at env) H s := ⟨S.base, S.own, S.gens⟩
theorem HS.back {env : Env} (S : HS (C.at env) H s) : HS C H s := ⟨S.base, S.own, S.gens⟩
noncomputable def retOf : Fl → V
  | .ret v => v
  | _ => V.none
theorem CALL_def {f : Addr} {o : Obj} {fd : FuncData} {body : List Stmt} {vs : List V} {kws binds : List (Str × V)} {m' : Loc} {Q : V → CH → Prop}
    (ho : C.h₀.get? f = some o) (hd : o.data = .func fd) (hlim : C.h₀.NoLimit) (hcd : C.h₀.CodeRec fd.code fd.qualname) (hbody : fd.body = .stmts body) (hroom : A.depth < recursionLimit)
    (hcell : ∀ x ∈ fd.scope.names, x.2 ≠ .cell) (hb : Binds C H fd vs kws binds) (hloc : ∀ x ∈ binds, fd.scope.names.lookup x.1 = some .local) (hm : m' = binds.reverse)
    (h : ∀ L, H L = none → C.h₀.get? L = none → EX (C.at (callEnv fd L f)) (A.deeper (callEnv fd L f)) body m' H fun fl _ H' => Q (retOf fl) H')
    (hco : fd.scope.isCoroutine = false := by with_unfolding_all rfl) (hgen : fd.scope.isGenerator = false := by with_unfolding_all rfl) (hk : fd.scope.kind = .function := by with_unfolding_all rfl) : CALL C A (.con (.ref f)) vs kws H Q := fun s rf rs rkw S F hf hv hkw => by
  rw [hf.con_inv]
  obtain ⟨rb, hB, hrb⟩ := hb s rs rkw S hv hkw
  have hloc' : ∀ x ∈ rb, fd.scope.names.lookup x.1 = some .local := fun x hx => by
    have : x.1 ∈ binds.map (·.1) := hrb.1 ▸ List.mem_map_of_mem hx
    obtain ⟨y, hy, e⟩ := List.mem_map.mp this
    rw [← e]; exact hloc y hy
  refine codeAny_call_def hroom (S.base _ _ ho) hd (hlim.keeps S.base) (hcd.keeps S.base) hbody hB hcell hloc' (fun h₁ hns hk₁ => ?_) hco hgen hk
  have hE : (callEnv fd s.heap.objs.size f).locals = s.heap.objs.size := rfl
  have S₁ : St (C.at (callEnv fd s.heap.objs.size f)) m' H { s with heap := h₁, toks := s.toks + rb.length } := by
    refine ⟨(S.more hk₁).at, ⟨_, hns, fun x v e => ?_⟩, S.fresh, S.freshb, fun e he => ?_⟩
    · subst hm
      exact lookup_kws (hrb.rev.keep (.of_keep hk₁)) e
    · rcases List.mem_cons.mp he with rfl | he
      · obtain ⟨o', es, ep, ho', hd', _⟩ := hns
        exact ⟨hk, hgen, hco, _, o', es, ep, rfl, ho', hd', S.fresh, S.freshb⟩
      · exact F.keep (s' := { s with heap := h₁ }) (fun b o _ _ _ hn e _ => ⟨hn, o, hk₁ b o e, rfl⟩) e he
  refine wpAny_noRaise (wpAny_mono (h _ S.fresh S.freshb _ S₁) ?_ fun _ _ x => x)
  rintro fl s' ⟨f', m₂, H₂, hfl, S₂, af, q⟩
  have a : AfterC H s H₂ s' := ⟨fun b o hn e => af.stay b o (Nat.ne_of_lt (Heap.lt_size e)) hn (hk₁ b o e), fun b o hn e => af.grow b o hn (hk₁ b o e), fun b o e => af.there b o (hk₁ b o e), af.drawn, af.os⟩
  cases f' with
  | ret v => obtain ⟨r, rfl, hr⟩ := hfl; exact ⟨v, H₂, hr, S₂.toHS.back, a, q⟩
  | next => cases hfl; exact ⟨V.none, H₂, .con, S₂.toHS.back, a, q⟩
  | brk => cases hfl; exact ⟨V.none, H₂, .con, S₂.toHS.back, a, q⟩
  | cont => cases hfl; exact ⟨V.none, H₂, .con, S₂.toHS.back, a, q⟩
/-- positional binding -/
theorem Binds.pos1 {fd : FuncData} {x : Str} {v : V} (h : ∀ r, bindArgs fd ⟨[r], []⟩ = pure [(x, r)] := by intro _; with_unfolding_all rfl) : Binds C H fd [v] [] [(x, v)] := fun s rs rkw S hv hk => by
  have := hk.nil_inv; subst this
  obtain ⟨r, rs, rfl, a, b⟩ := hv.cons_inv; have := b.nil_inv; subst this
  exact ⟨_, .of_eq (h r), rfl, .cons a .nil⟩
theorem Binds.pos2 {fd : FuncData} {x y : Str} {v w : V} (h : ∀ r q, bindArgs fd ⟨[r, q], []⟩ = pure [(x, r), (y, q)] := by intro _ _; with_unfolding_all rfl) : Binds C H fd [v, w] [] [(x, v), (y, w)] := fun s rs rkw S hv hk => by
  have := hk.nil_inv; subst this
  obtain ⟨r, rs, rfl, a, b⟩ := hv.cons_inv; obtain ⟨q, rs, rfl, a', b⟩ := b.cons_inv; have := b.nil_inv; subst this
  exact ⟨_, .of_eq (h r q), rfl, .cons a (.cons a' .nil)⟩
theorem Binds.pos3 {fd : FuncData} {x y z : Str} {v w u : V} (h : ∀ r q p, bindArgs fd ⟨[r, q, p], []⟩ = pure [(x, r), (y, q), (z, p)] := by intro _ _ _; with_unfolding_all rfl) : Binds C H fd [v, w, u] [] [(x, v), (y, w), (z, u)] := fun s rs rkw S hv hk => by
  have := hk.nil_inv; subst this
  obtain ⟨r, rs, rfl, a, b⟩ := hv.cons_inv; obtain ⟨q, rs, rfl, a', b⟩ := b.cons_inv; obtain ⟨p, rs, rfl, a'', b⟩ := b.cons_inv; have := b.nil_inv; subst this
  exact ⟨_, .of_eq (h r q p), rfl, .cons a (.cons a' (.cons a'' .nil))⟩
end
end
end Mine
end
section
open PySem PySem.Calls PySem.W PyProof.Rows
set_option maxRecDepth 100000
namespace Mine
noncomputable section
section
variable {C : Cx} {A : Around} {m : Loc} {H : CH} {s : Shared} {Q : V → Loc → CH → Prop}
theorem tup_lt_eq (a b : Value) : Builtin.«tuple.__lt__» ⟨[a, b], []⟩ = (do
  let (a, [b]) ← slotArgs "__lt__" 1 ⟨[a, b], []⟩ | unsupported "internal:tuple.compare"
  if !(← isInstance b (.type "tuple")) then return ← ret .notImplemented
  let xs ← Builtin.Tuple.tupleItemsOf a
  let ys ← Builtin.Tuple.tupleItemsOf b
  for (x, y) in xs.toList.zip ys.toList do
    if !(← eqBool x y) then
      match CmpOp.Lt with
      | .Eq => return ← ret (.bool false)
      | .NotEq => return ← ret (.bool true)
      | _ => rule "tuple.compare.by-the-first-pair-that-differs"; return ← ret (← richCompare .Lt x y)
  ret (Builtin.Tuple.tupleCompareSizes .Lt xs.size ys.size)) := rfl
theorem VRs.two {h : Heap} {x y : V} {items : Array Value} (r : VRs h [x, y] items.toList) : ∃ a b, items = #[a, b] ∧ VR h x a ∧ VR h y b := by
  obtain ⟨a, l, e, ha, r⟩ := r.cons_inv
  obtain ⟨b, l, rfl, hb, r⟩ := r.cons_inv
  have := r.nil_inv; subst this
  exact ⟨a, b, by apply Array.ext'; rw [e], ha, hb⟩
theorem O2_ltp {a b c d : Int} (hu : A.units < cLine) (h : Q (.bool (decide (a < c ∨ (a = c ∧ b < d)))) m H) : O2 C A (compareOp .Lt) (.tup [.int a, .int b]) (.tup [.int c, .int d]) m H Q := fun s r q S hr hq => by
  obtain ⟨l, items, n, rfl, ho, hv⟩ := hr.tup_inv
  obtain ⟨l2, items2, n2, rfl, ho2, hv2⟩ := hq.tup_inv
  obtain ⟨x0, x1, rfl, h0, h1⟩ := hv.two
  obtain ⟨y0, y1, rfl, g0, g1⟩ := hv2.two
  obtain ⟨t0, rfl⟩ := h0.int_inv; obtain ⟨t1, rfl⟩ := h1.int_inv
  obtain ⟨u0, rfl⟩ := g0.int_inv; obtain ⟨u1, rfl⟩ := g1.int_inv
  show wpAny _ _ (richCompare .Lt (.ref l) (.ref l2)) _ _ s
  refine wpAny_richCompare_same_room (op := .Lt) (T := "tuple") ⟨_, ho, rfl⟩ ⟨_, ho2, rfl⟩ F.slot_tuple_lt ?_ hu
  refine wpAny_call_entry F.slot_tuple_lt ⟨_, ho, rfl⟩ F.entry_tuple_lt ?_ (F.args_tuple_lt_2 _ _)
  rw [tup_lt_eq]
  have hi : ∀ {Q : Bool → Shared → Prop}, Q true s → wpAny (model C.prog C.w) A.in1 (isInstance (.ref l2) (.type "tuple")) Q NoE s := fun q => wpAny_isInstance ⟨_, ho2, rfl⟩ AutoSeq1.sub_tuple_tuple q
  refine wpAny_bind (wpAny_pure ?_)
  dsimp only
  refine wpAny_bind (hi ?_)
  simp only [Bool.not_true, Bool.false_eq_true, if_false]
  refine wpAny_bind (wpAny_tupleItemsOf ho rfl ?_)
  refine wpAny_bind (wpAny_tupleItemsOf ho2 rfl ?_)
  have lt0 : ∀ {a b : Int} {t u : Tok} {Q : Value → Shared → Prop}, Q (.bool (decide (a < b))) s → wpAny (model C.prog C.w) A.in1 (richCompare .Lt (.int a t) (.int b u)) Q NoE s := fun q => lt_int q
  have ez : (#[Value.int a t0, Value.int b t1] : Array Value).toList.zip (#[Value.int c u0, Value.int d u1] : Array Value).toList = [(Value.int a t0, Value.int c u0), (Value.int b t1, Value.int d u1)] := rfl
  rw [ez, List.forIn_cons]
  refine wpAny_bind (wpAny_bind (wpAny_bind (wpAny_eqBool_int ?_)))
  by_cases hac : a = c
  · subst hac
    simp only [beq_self_eq_true, Bool.not_true, Bool.false_eq_true, if_false]
    refine wpAny_pure ?_
    dsimp only
    rw [List.forIn_cons]
    refine wpAny_bind (wpAny_bind (wpAny_eqBool_int ?_))
    by_cases hbd : b = d
    · subst hbd
      simp only [beq_self_eq_true, Bool.not_true, Bool.false_eq_true, if_false]
      refine wpAny_pure ?_
      dsimp only
      rw [List.forIn_nil]
      refine wpAny_pure ?_
      refine wpAny_pure ⟨_, rfl, by unfold Builtin.Tuple.tupleCompareSizes; simp, ?_⟩
      have e : decide (a < a ∨ (a = a ∧ b < b)) = false := by simp
      rw [e] at h
      exact .here S .con h
    · have hb' : (b == d) = false := by simpa using hbd
      simp only [hb', Bool.not_false, if_true]
      refine wpAny_bind (wpAny_rule (wpAny_bind (lt0 (wpAny_bind (wpAny_pure (wpAny_pure ?_))))))
      refine wpAny_pure (wpAny_pure ⟨_, rfl, by simp, ?_⟩)
      have e : decide (a < a ∨ (a = a ∧ b < d)) = decide (b < d) := by simp
      rw [e] at h
      exact .here S .con h
  · have hb' : (a == c) = false := by simpa using hac
    simp only [hb', Bool.not_false, if_true]
    refine wpAny_bind (wpAny_rule (wpAny_bind (lt0 (wpAny_bind (wpAny_pure (wpAny_pure ?_))))))
    refine wpAny_pure (wpAny_pure ⟨_, rfl, by simp, ?_⟩)
    have e : decide (a < c ∨ (a = c ∧ b < d)) = decide (a < c) := by simp [hac]
    rw [e] at h
    exact .here S .con h
end
end
end Mine
end
section
open PySem PySem.Calls PySem.W PyProof.Rows
set_option maxRecDepth 100000
namespace Mine
noncomputable section
section
variable {C : Cx} {A : Around} {m : Loc} {H : CH} {s : Shared} {Q : V → Loc → CH → Prop}
theorem GM_list {l : Addr} {xs : List V} {name : Str} {id : String} {Q : V → List V → Prop} (hl : LAt C H l xs) (slot : Slot "list" name id) (hty : typeOf (.builtin id) = pure (.type "method_descriptor")) (h : Q (.con (.builtin id)) [.ref l]) :
    GM C A (.ref l) name m H Q := fun s ro pl S hr => by
  rw [hr.ref_inv]
  obtain ⟨items, n, hI, hv, hz⟩ := S.toHS.list hl
  exact getMethod_builtin ⟨_, hI, rfl⟩ F.plainAttrs_list slot hty (fun a e => by cases e; exact ⟨_, hI, rfl⟩) ⟨_, _, .con, .cons .ref .nil, rfl, rfl, rfl, rfl, h⟩
theorem PV.upd {a : Addr} {c c' : CObj} {v : V} {r : Value} (S : St C m H s) (hc : H a = some c) {h' : Heap} {o' : Obj} {tk : Nat} (hs : Heap.SameBut a s.heap h') (ho : h'.get? a = some o') (hr : ORep C s.heap c' o') (hv : VR s.heap v r) (q : Q v m (H.set a c')) : PV C H s Q r { s with heap := h', toks := tk } :=
  ⟨v, m, _, hv.keep (S.toHS.upd (tk := tk) hc hs ho hr).2, S.upd hc hs ho hr, .upd hc hs ho, q⟩
theorem two_inv {h : Heap} {x y : V} {rs : List Value} (r : VRs h [x, y] rs) : ∃ a b, rs = [a, b] ∧ VR h x a ∧ VR h y b := by
  obtain ⟨a, l, rfl, ha, r⟩ := r.cons_inv
  obtain ⟨b, l, rfl, hb, r⟩ := r.cons_inv
  have := r.nil_inv; subst this
  exact ⟨a, b, rfl, ha, hb⟩
theorem one_inv {h : Heap} {x : V} {rs : List Value} (r : VRs h [x] rs) : ∃ a, rs = [a] ∧ VR h x a := by
  obtain ⟨a, l, rfl, ha, r⟩ := r.cons_inv
  have := r.nil_inv; subst this
  exact ⟨a, rfl, ha⟩
theorem three_inv {h : Heap} {x y z : V} {rs : List Value} (r : VRs h [x, y, z] rs) : ∃ a b c, rs = [a, b, c] ∧ VR h x a ∧ VR h y b ∧ VR h z c := by
  obtain ⟨a, l, rfl, ha, r⟩ := r.cons_inv
  obtain ⟨b, c, rfl, hb, hc⟩ := two_inv r
  exact ⟨a, b, c, rfl, ha, hb, hc⟩
theorem CV_append {l : Addr} {xs : List V} {v : V} (hl : H l = some (.list xs)) (hsz : xs.length ≤ sizeLine) (h : Q V.none m (H.set l (.list (xs ++ [v])))) : CV C A (.con (.builtin "list.append")) [.ref l, v] [] m H Q := fun s rf rs rkw S hf hv hk => by
  have := hk.nil_inv; subst this
  rw [hf.con_inv]
  obtain ⟨a, b, rfl, ha, hb⟩ := two_inv hv
  rw [ha.ref_inv]
  obtain ⟨items, n, hI, hvs, hz⟩ := S.toHS.list (.own hl)
  refine call_meets F.slot_list_append ⟨_, hI, rfl⟩ F.entry_list_append (F.args_list_append_2 _ _) (list_append l items n b (by omega)) ⟨hI, ?_⟩
  exact PV.upd (c' := .list (xs ++ [v])) S hl (Heap.SameBut.update ..) (hI.update _) ⟨_, _, rfl, by rw [Array.toList_push]; exact hvs.append (.cons hb .nil)⟩ .con h
theorem CV_pop {l : Addr} {xs : List V} {v : V} (hl : H l = some (.list (xs ++ [v]))) (hsz : xs.length + 1 ≤ sizeLine) (h : Q v m (H.set l (.list xs))) : CV C A (.con (.builtin "list.pop")) [.ref l] [] m H Q := fun s rf rs rkw S hf hv hk => by
  have := hk.nil_inv; subst this
  rw [hf.con_inv]
  obtain ⟨a, rfl, ha⟩ := one_inv hv
  rw [ha.ref_inv]
  obtain ⟨items, n, hI, hvs, hz⟩ := S.toHS.list (.own hl)
  have hz' : items.size = xs.length + 1 := by rw [hz]; simp
  obtain ⟨y, hy, hvy⟩ := hvs.get (i := xs.length) (x := v) (by simp)
  have hy' : items[items.size - 1]? = some y := by rw [hz', Nat.add_sub_cancel]; simpa using hy
  refine call_meets F.slot_list_pop ⟨_, hI, rfl⟩ F.entry_list_pop (F.args_list_pop_1 _) (MeetsSeq.list_pop_last l items n y hy' (by omega)) ⟨hI, ?_⟩
  refine PV.upd (c' := .list xs) S hl (Heap.SameBut.update ..) (hI.update _) ⟨_, _, rfl, ?_⟩ hvy h
  have e : (items.eraseIdxIfInBounds (items.size - 1)).toList = items.toList.eraseIdx xs.length := by
    rw [hz', Nat.add_sub_cancel, Array.eraseIdxIfInBounds_eq, dif_pos (by omega), Array.toList_eraseIdx]
  rw [e]
  have := hvs.eraseIdx xs.length
  rwa [show (xs ++ [v]).eraseIdx xs.length = xs from by rw [List.eraseIdx_append_of_length_le (Nat.le_refl _)]; simp] at this
theorem CV_clear {l : Addr} {xs : List V} (hl : H l = some (.list xs)) (hsz : xs.length ≤ sizeLine) (h : Q V.none m (H.set l (.list []))) : CV C A (.con (.builtin "list.clear")) [.ref l] [] m H Q := fun s rf rs rkw S hf hva hk => by
  have := hk.nil_inv; subst this
  rw [hf.con_inv]
  obtain ⟨a, rfl, ha⟩ := one_inv hva
  rw [ha.ref_inv]
  obtain ⟨items, n, hI, hvs, hz⟩ := S.toHS.list (.own hl)
  refine call_meets F.slot_list_clear ⟨_, hI, rfl⟩ F.entry_list_clear (F.args_list_clear_1 _) (AutoSeq1.list_clear_list_0 l items n (by omega)) ⟨hI, ?_⟩
  exact PV.upd (c' := .list []) S hl (Heap.SameBut.update ..) (hI.update _) ⟨_, _, rfl, .nil⟩ .con h
theorem CV_len {l : Addr} {xs : List V} (hl : LAt C H l xs) (hsz : xs.length ≤ sizeLine) (h : Q (.int xs.length) m H) : CV C A (.con (.builtin "len")) [.ref l] [] m H Q := fun s rf rs rkw S hf hva hk => by
  have := hk.nil_inv; subst this
  rw [hf.con_inv]
  obtain ⟨a, rfl, ha⟩ := one_inv hva
  rw [ha.ref_inv]
  obtain ⟨items, n, hI, hvs, hz⟩ := S.toHS.list hl
  refine call_len_list hI.isList (by unfold sizeLine at hsz; omega) ?_
  rw [hz]; exact .same S .int h _
theorem CV_len_tup {xs : List V} (hsz : xs.length ≤ sizeLine) (h : Q (.int xs.length) m H) : CV C A (.con (.builtin "len")) [.tup xs] [] m H Q := fun s rf rs rkw S hf hva hk => by
  have := hk.nil_inv; subst this
  rw [hf.con_inv]
  obtain ⟨a, rfl, ha⟩ := one_inv hva
  obtain ⟨t, items, n, rfl, ho, hvs⟩ := ha.tup_inv
  have hz : items.size = xs.length := by have := hvs.length; simp at this; omega
  refine len_tuple ⟨_, ho, rfl, n, rfl⟩ (by unfold sizeLine at hsz; omega) ?_
  rw [hz]; exact .same S .int h _
theorem add_lists {l b : Addr} {xs ys : List V} (hl : LAt C H l xs) (hb : LAt C H b ys) (hsz : xs.length + ys.length ≤ sizeLine) (h : ∀ a, H a = none → Q (.ref a) m (H.set a (.list (xs ++ ys)))) : O2 C A (binaryOp .Add) (.ref l) (.ref b) m H Q := fun s r q S hr hq => by
  rw [hr.ref_inv, hq.ref_inv]
  obtain ⟨items, n, hI, hvs, hz⟩ := S.toHS.list hl
  obtain ⟨items2, n2, hI2, hvs2, hz2⟩ := S.toHS.list hb
  refine P.add_list hI hI2 ?_ (by omega)
  exact ⟨_, m, _, .ref, S.alloc (c := .list (xs ++ ys)) ⟨_, 0, rfl, by rw [Array.toList_append]; exact hvs.append hvs2⟩, .alloc, h _ S.toHS.fresh⟩
end
end
end Mine
end
section
open PySem PySem.Calls PySem.W PyProof.Rows
set_option maxRecDepth 100000
namespace Mine
noncomputable section
/-- what the text's top has left -/
structure Bs (h₀ : Heap) (K : Frag) (mg mb : Str → Option Value) : Prop where
  X : K.In h₀
  lim : h₀.NoLimit
  g : h₀.Ns mainGlobals mg
  b : h₀.Ns builtinsNs mb
  boot : ∀ x : Str, x ≠ ("__name__" : Str) → mb x = bootBuiltins x
  sys : ∃ o, h₀.get? sysModules = some o
  bm : ∃ bm ob, mg "__builtins__" = some (.ref bm) ∧ bm ≠ builtinsNs ∧ h₀.get? bm = some ob ∧ ob.cls = .type "module" ∧ ob.dict = some builtinsNs ∧ ob.data = .plain
theorem mg_none {K : Frag} {h : Heap} {mg : Str → Option Value} {n : Str} (X : K.In h) (G : h.Ns mainGlobals mg) (e : nsIn K mainGlobals n = some none) : mg n = none := mg_none_of X G e
/-- room for calls, and nothing being handled -/
structure AOK (C : Cx) (A : Around) (n : Nat) : Prop where
  handled : A.handled = none
  depth : A.depth + n < recursionLimit
  units : A.units + 4 * n + 40 < cLine
  frames : A.frames = some C.fr
theorem AOK.at {C : Cx} {A : Around} {n : Nat} {env : Env} (h : AOK C A (n + 1)) : AOK (C.at env) (A.deeper env) n :=
  ⟨h.handled, by have := h.depth; show A.depth + 1 + n < _; omega, by have := h.units; show A.units + 3 + 4 * n + 40 < _; omega, Around.frames_deeper h.frames⟩
theorem AOK.room {C : Cx} {A : Around} {n : Nat} (h : AOK C A n) : A.depth < recursionLimit := by have := h.depth; omega
theorem AOK.line {C : Cx} {A : Around} {n : Nat} (h : AOK C A n) : A.units < cLine := by have := h.units; omega
section
variable {C : Cx} {A : Around} {m : Loc} {H : CH} {s : Shared} {Q : V → Loc → CH → Prop} {K : Frag} {mg mb : Str → Option Value}
theorem EV_g {x : Str} {p : Pos} {v : Value} (B : Bs C.h₀ K mg mb) (e : nsIn K mainGlobals x = some (some v)) (h : Q (.con v) m H) (hG : C.env.globals = mainGlobals := by with_unfolding_all rfl)
    (hk : C.env.scope.kind = .function := by with_unfolding_all rfl) (hl : C.env.kindOf x = some .globalImplicit := by with_unfolding_all rfl) (hd : (x == ("__debug__" : Str)) = false := by decide) : EV C A (.Name x p) m H Q := fun s S =>
  Name_function_global hk hl (loadGlobal_global (hG ▸ B.g.keeps S.base) (mg_of B.X B.g e) (.here S .con h)) hd
theorem EV_b {x : Str} {p : Pos} {v : Value} (B : Bs C.h₀ K mg mb) (e : nsIn K mainGlobals x = some none) (hv : bootBuiltins x = some v) (h : Q (.con v) m H) (hn : x ≠ ("__name__" : Str) := by decide) (hG : C.env.globals = mainGlobals := by with_unfolding_all rfl) (hB : C.env.builtins = builtinsNs := by with_unfolding_all rfl)
    (hk : C.env.scope.kind = .function := by with_unfolding_all rfl) (hl : C.env.kindOf x = some .globalImplicit := by with_unfolding_all rfl) (hd : (x == ("__debug__" : Str)) = false := by decide) : EV C A (.Name x p) m H Q := fun s S =>
  Name_function_global hk hl (loadGlobal_builtin (hG ▸ B.g.keeps S.base) (mg_none B.X B.g e) (hB ▸ B.b.keeps S.base) ((B.boot x hn).trans hv) (.here S .con h)) hd
theorem KP_K {f : Addr} {name qual : Str} {params : Arguments} {body : List Stmt} {scope : Scope} {cl : List (Str × Addr)} {dV kV doc pm cdv ct oc : Value} {an od : Option Addr} {osl : Array (Option Value)} (B : Bs C.h₀ K mg mb)
    (ho : K.lookup f = some ⟨oc, od, .func (fnX name qual params body scope cl dV kV doc pm an cdv ct), osl⟩) : KP C (.con (.ref f)) H := KP_fn (B.X _ _ ho) rfl
theorem CALL_K {f : Addr} {name qual : Str} {params : Arguments} {body : List Stmt} {scope : Scope} {cl : List (Str × Addr)} {dV kV doc pm cdv ct oc : Value} {an od : Option Addr} {osl : Array (Option Value)} {vs : List V} {kws binds : List (Str × V)} {m' : Loc} {Q : V → CH → Prop}
    (B : Bs C.h₀ K mg mb) (ho : K.lookup f = some ⟨oc, od, .func (fnX name qual params body scope cl dV kV doc pm an cdv ct), osl⟩) (hcd : codeIn K cdv qual = true) {n : Nat} (hA : AOK C A (n + 1))
    (hb : Binds C H (fnX name qual params body scope cl dV kV doc pm an cdv ct) vs kws binds) (hok : (scope.names.all (fun x => x.2 != .cell) && binds.all (fun x => scope.names.lookup x.1 == some .local) && !scope.isCoroutine && !scope.isGenerator && scope.kind == .function) = true) (hm : m' = binds.reverse)
    (h : ∀ L, H L = none → C.h₀.get? L = none → AOK (C.at (callEnv (fnX name qual params body scope cl dV kV doc pm an cdv ct) L f)) (A.deeper (callEnv (fnX name qual params body scope cl dV kV doc pm an cdv ct) L f)) n → EX (C.at (callEnv (fnX name qual params body scope cl dV kV doc pm an cdv ct) L f)) (A.deeper (callEnv (fnX name qual params body scope cl dV kV doc pm an cdv ct) L f)) body m' H fun fl _ H' => Q (retOf fl) H') :
    CALL C A (.con (.ref f)) vs kws H Q := by
  simp only [Bool.and_eq_true, List.all_eq_true, Bool.not_eq_true', beq_iff_eq, bne_iff_ne] at hok
  obtain ⟨⟨⟨⟨h1, h2⟩, h3⟩, h4⟩, h5⟩ := hok
  exact CALL_def (B.X _ _ ho) rfl B.lim (codeRec_of B.X hcd) rfl hA.room h1 hb h2 hm (fun L hL hL0 => h L hL hL0 hA.at) h3 h4 h5
theorem EX_mid {st : Stmt} {rest : List Stmt} {Q : Fl → Loc → CH → Prop} (R : Loc → CH → Prop) (h : ES C A st m H (SeqK R Q)) (k : ∀ m₁ H₁, R m₁ H₁ → EX C A rest m₁ H₁ Q) : EX C A (st :: rest) m H Q :=
  EX_cons (h.mono fun fl m₁ H₁ q => by cases fl <;> first | exact k _ _ q | exact q)
theorem CH.set_set {H : CH} {a : Addr} {c d : CObj} : (H.set a c).set a d = H.set a d := by
  funext b; unfold CH.set; split <;> rfl
theorem CH.set_self {H : CH} {a : Addr} {c : CObj} (h : H a = some c) : H.set a c = H := by
  funext b; unfold CH.set; split
  · subst b; exact h.symm
  · rfl
end
end
end Mine
end
section
open PySem PySem.Calls PySem.W PyProof.Rows
set_option maxRecDepth 100000
namespace Mine
noncomputable section
section
variable {C : Cx} {A : Around} {m : Loc} {H : CH} {s : Shared}
/-- `xs` one by one, as long as `ok` stands -/
noncomputable def SeqOf (C : Cx) (A : Around) (v : V) (H : CH) (xs : List V) (ok : CH → Prop) : Prop := ∃ nx, Iterable C A v H nx ∧ ∀ H' i, ok H' → nx H' i = some xs[i]?
theorem not_imm_cls {o : Obj} {T : String} (h : o.cls = .type T) (hT : immCls.contains T = false) (hv : ∀ vs x t, o.data = .fields vs → vs[1]? ≠ some (.str x t)) : ¬ Imm o := fun ⟨_, hcl, _⟩ => by
  rcases hcl with ⟨T', hT', hc⟩ | ⟨vs, x, t, e, q⟩
  · rw [h] at hc; cases hc
    have : immCls.contains T = true := List.contains_iff_mem.mpr hT'
    rw [hT] at this; cases this
  · exact hv vs x t e q
theorem letOwned_plain {M : Model} {E : Value → Shared → Prop} {target : PySem.Expr} {I : Addr} {v : Value} {o : Obj} {T : String} {Q : Unit → Shared → Prop} (ho : s.heap.get? I = some o) (hc : o.cls = .type T)
    (hT : (["enumerate", "zip", "dict_itemiterator", "dict_reverseitemiterator", "odict_iterator", "itertools.zip_longest", "itertools.pairwise"].contains T) = false) (h : Q () s) :
    wpAny M A (letOwnedTupleGo target (.ref I) v) Q E s := by
  have key : wpAny M A (do
    let (.ref r, .ref a) := (Value.ref I, v) | return
    let o ← load r
    match o.cls, o.data with
    | .type n, .fields vs =>
      if ["enumerate", "zip", "dict_itemiterator", "dict_reverseitemiterator", "odict_iterator", "itertools.zip_longest", "itertools.pairwise"].contains n && vs[0]? == some (rawInt a) then
        rule "for.unpacks-the-owned-tuple"
        updateField r 0 .none
    | _, _ => pure () : Sem Unit) Q E s := by
    cases v with
    | ref a =>
      refine wpAny_bind (wpAny_load ho ?_)
      rw [hc]
      split
      · rename_i n vs h1 h2
        cases h1
        rw [hT, Bool.false_and]
        exact wpAny_pure h
      · exact wpAny_pure h
    | _ => exact wpAny_pure h
  unfold letOwnedTupleGo
  cases target <;> first | exact wpAny_pure h | exact key
noncomputable def nxList (l : Addr) (H : CH) (i : Nat) : Option (Option V) := match H l with
  | some (.list xs) => some xs[i]?
  | _ => none
theorem prot_list {I l : Addr} {nx : CH → Nat → Option (Option V)} (hA : A.handled = none) (hne : l ≠ I) (hx : ∀ H i x, nx H i = some x → ∃ xs, LAt C H l xs ∧ x = xs[i]?) :
    Prot C A I (fun i _ o => o.cls = .type "list_iterator" ∧ o.data = .fields #[.ref l, .int i 0]) nx where
  plain := fun i _ o h e => not_imm_cls h.1 (by decide) (by intro vs x t e q; rw [h.2] at e; cases e; cases q) e
  nodict := fun i _ o es ep h e => by rw [h.2] at e; cases e
  kept := fun _ _ _ _ _ h => h
  item := fun H s i o v S hI ho hob hn => by
    obtain ⟨xs, hl, hv⟩ := hx H i _ hn
    obtain ⟨items, n, hL, hvs, hz⟩ := S.list hl
    obtain ⟨r, hr, hvr⟩ := hvs.get hv.symm
    refine wpAny_pyNext_list_item ⟨o, ho, hob.1, hob.2⟩ hL.isList (by simpa using hr) fun h' hit hs => ?_
    obtain ⟨o', ho', hc', hd'⟩ := hit
    refine ⟨r, h', s.toks, o', rfl, rfl, hvr.keep (tup_ext ho (fun e => not_imm_cls hob.1 (by decide) (by intro vs x t e q; rw [hob.2] at e; cases e; cases q) e) hs.extBut), hs.extBut, ho', hc', hd'⟩
  done := fun H s i o S hI ho hob hn => by
    obtain ⟨xs, hl, hv⟩ := hx H i _ hn
    obtain ⟨items, n, hL, hvs, hz⟩ := S.list hl
    have : items[i]? = none := by
      have : xs.length ≤ i := List.getElem?_eq_none_iff.mp hv.symm
      exact Array.getElem?_eq_none (by omega)
    exact wpAny_pyNext_list_end hA ⟨o, ho, hob.1, hob.2⟩ hL.isList this fun h' he => ⟨h', s.toks, rfl, rfl, he⟩
  own := fun target v s i _ o Q ho hob h => letOwned_plain ho hob.1 (by decide) h
  self := fun s i _ o E Q ho hob h => wpAny_pyIter_listiter (i := i) ⟨o, ho, hob.1, hob.2⟩ h
theorem size_none : s.heap.get? s.heap.objs.size = none := by
  cases e : s.heap.get? s.heap.objs.size with
  | none => rfl
  | some o => exact absurd (Heap.lt_size e) (Nat.lt_irrefl _)
theorem seq_own {l : Addr} {xs : List V} (hA : A.handled = none) (h : H l = some (.list xs)) : SeqOf C A (.ref l) H xs (fun H' => H' l = some (.list xs)) := by
  refine ⟨nxList l, fun s r S hr => ?_, fun H' i ok => ?_⟩
  · rw [hr.ref_inv]
    obtain ⟨items, n, hL, hvs, hz⟩ := S.list (.own h)
    refine wpAny_pyIter_list hL.isList ⟨s.heap.objs.size, fun i _ o => o.cls = .type "list_iterator" ∧ o.data = .fields #[.ref l, .int i 0], _, s.toks, _, rfl, rfl, keep_push _ _, size_none, Heap.get?_push_size _ rfl, ⟨rfl, rfl⟩, prot_list hA ?_ ?_⟩
    · exact Nat.ne_of_lt (Heap.lt_size hL)
    · intro H i x e
      unfold nxList at e
      split at e
      · rename_i xs hx; cases e; exact ⟨xs, .own hx, rfl⟩
      · cases e
  · unfold nxList; rw [ok]
theorem seq_base {l : Addr} {xs : List V} (hA : A.handled = none) {items : Array Value} {n : Nat} (h : C.h₀.get? l = some (seqObj "list" items n)) (hv : VRs C.h₀ xs items.toList) : SeqOf C A (.ref l) H xs (fun _ => True) := by
  refine ⟨fun _ i => some xs[i]?, fun s r S hr => ?_, fun H' i ok => rfl⟩
  rw [hr.ref_inv]
  have hL : s.heap.get? l = some (seqObj "list" items n) := S.base _ _ h
  refine wpAny_pyIter_list (IsL.isList hL) ⟨s.heap.objs.size, fun i _ o => o.cls = .type "list_iterator" ∧ o.data = .fields #[.ref l, .int i 0], _, s.toks, _, rfl, rfl, keep_push _ _, size_none, Heap.get?_push_size _ rfl, ⟨rfl, rfl⟩, prot_list hA ?_ ?_⟩
  · exact Nat.ne_of_lt (Heap.lt_size hL)
  · intro H i x e; cases e; exact ⟨xs, .base items n h hv, rfl⟩
theorem prot_tup {I t : Addr} {xs : List V} (hA : A.handled = none) (hne : t ≠ I) :
    Prot C A I (fun i h o => (o.cls = .type "tuple_iterator" ∧ o.data = .fields #[.ref t, .int i 0]) ∧ VR h (.tup xs) (.ref t)) (fun _ i => some xs[i]?) where
  plain := fun i _ o h e => not_imm_cls h.1.1 (by decide) (by intro vs x t e q; rw [h.1.2] at e; cases e; cases q) e
  nodict := fun i _ o es ep h e => by rw [h.1.2] at e; cases e
  kept := fun _ _ _ _ k h => ⟨h.1, h.2.keep k⟩
  item := fun H s i o v S hI ho hob hn => by
    obtain ⟨t', items, n, e, ht, hvs⟩ := hob.2.tup_inv
    cases e
    obtain ⟨r, hr, hvr⟩ := hvs.get (Option.some.inj hn)
    refine wpAny_pyNext_tuple_item ⟨o, ho, hob.1.1, hob.1.2⟩ ⟨_, ht, rfl, n, rfl⟩ (by simpa using hr) fun h' hit hs => ?_
    obtain ⟨o', ho', hc', hd'⟩ := hit
    have k : TupKeep s.heap h' := tup_ext ho (fun e => not_imm_cls hob.1.1 (by decide) (by intro vs x t e q; rw [hob.1.2] at e; cases e; cases q) e) hs.extBut
    exact ⟨r, h', s.toks, o', rfl, rfl, hvr.keep k, hs.extBut, ho', ⟨hc', hd'⟩, hob.2⟩
  done := fun H s i o S hI ho hob hn => by
    obtain ⟨t', items, n, e, ht, hvs⟩ := hob.2.tup_inv
    cases e
    have : items[i]? = none := by
      have : xs.length ≤ i := List.getElem?_eq_none_iff.mp (Option.some.inj hn)
      have hz := hvs.length; simp at hz
      exact Array.getElem?_eq_none (by omega)
    exact wpAny_pyNext_tuple_end hA ⟨o, ho, hob.1.1, hob.1.2⟩ ⟨_, ht, rfl, n, rfl⟩ this fun h' he => ⟨h', s.toks, rfl, rfl, he⟩
  own := fun target v s i _ o Q ho hob h => letOwned_plain ho hob.1.1 (by decide) h
  self := fun s i _ o E Q ho hob h => wpAny_pyIter_tupleiter (i := i) ⟨o, ho, hob.1.1, hob.1.2⟩ h
theorem seq_tup {xs : List V} (hA : A.handled = none) : SeqOf C A (.tup xs) H xs (fun _ => True) := by
  refine ⟨fun _ i => some xs[i]?, fun s r S hr => ?_, fun H' i ok => rfl⟩
  obtain ⟨t, items, n, rfl, ho, hvs⟩ := hr.tup_inv
  have hne : t ≠ s.heap.objs.size := Nat.ne_of_lt (Heap.lt_size ho)
  exact wpAny_pyIter_tuple ⟨_, ho, rfl, n, rfl⟩ ⟨s.heap.objs.size, _, _, s.toks, _, rfl, rfl, keep_push _ _, size_none, Heap.get?_push_size _ rfl, ⟨⟨rfl, rfl⟩, hr.keep (.push _ _)⟩, prot_tup hA hne⟩
/-- a range's object -/
noncomputable def rangeInts (a c : Int) (n : Nat) : List V := (List.range n).map fun i => .int (a + (i : Nat) * c)
theorem rangeInts_get {a c : Int} {n i : Nat} : (rangeInts a c n)[i]? = if i < n then some (.int (a + (i : Nat) * c)) else none := by
  unfold rangeInts
  rw [List.getElem?_map]
  by_cases h : i < n
  · rw [List.getElem?_range h, if_pos h]; rfl
  · rw [List.getElem?_eq_none (by simp; omega), if_neg h]; rfl
theorem prot_range {I : Addr} {a c : Int} {n : Nat} (hA : A.handled = none) :
    Prot C A I (fun i _ o => o = { cls := .type "range_iterator", dict := none, data := .fields #[rawInt (a + (i : Nat) * c), rawInt ((n : Int) - (i : Nat)), rawInt c], slots := #[] }) (fun _ i => some (rangeInts a c n)[i]?) where
  plain := fun i _ o h e => not_imm_cls (T := "range_iterator") (by rw [h]) (by decide) (by intro vs x t e q; rw [h] at e; cases e; cases q) e
  nodict := fun i _ o es ep h e => by subst h; cases e
  kept := fun _ _ _ _ _ h => h
  item := fun H s i o v S hI ho hob hn => by
    subst hob
    rw [rangeInts_get] at hn
    by_cases hi : i < n
    · rw [if_pos hi] at hn; cases hn
      refine wpAny_pyNext_range_item ho (by omega) fun h' hit hs => ?_
      refine ⟨_, h', _, _, rfl, rfl, .int, hs.extBut, hit, ?_⟩
      have e1 : a + ((i + 1 : Nat) : Int) * c = a + (i : Int) * c + c := by push_cast; rw [Int.add_mul, Int.one_mul, Int.add_assoc]
      have e2 : (n : Int) - ((i + 1 : Nat) : Int) = (n : Int) - (i : Int) - 1 := by push_cast; omega
      rw [e1, e2]
    · rw [if_neg hi] at hn; cases hn
  done := fun H s i o S hI ho hob hn => by
    subst hob
    rw [rangeInts_get] at hn
    by_cases hi : i < n
    · rw [if_pos hi] at hn; cases hn
    · exact wpAny_pyNext_range_end hA ho (by omega) fun h' he => ⟨h', s.toks, rfl, rfl, he⟩
  own := fun target v s i _ o Q ho hob h => letOwned_plain ho (by rw [hob]) (T := "range_iterator") (by decide) h
  self := fun s i _ o E Q ho hob h => by subst hob; exact wpAny_pyIter_rangeiter ho h
theorem seq_rng {a b c : Int} {n : Nat} (hA : A.handled = none) (hs : Builtin.Range.small a b c = true) (hn : Builtin.Range.rangeSize a b c = n) : SeqOf C A (.rng a b c) H (rangeInts a c n) (fun _ => True) := by
  refine ⟨fun _ i => some (rangeInts a c n)[i]?, fun s r S hr => ?_, fun H' i ok => rfl⟩
  obtain ⟨z, t, u, w, rfl, ho⟩ := hr.rng_inv
  refine wpAny_pyIter_range ho hs ⟨s.heap.objs.size, _, _, s.toks, _, rfl, rfl, keep_push _ _, size_none, Heap.get?_push_size _ rfl, ?_, prot_range hA⟩
  simp [hn]
theorem seq_rng1 {n : Nat} (hA : A.handled = none) (hn : n < 2 ^ 62) : SeqOf C A (.rng 0 n 1) H (rangeInts 0 1 n) (fun _ => True) :=
  seq_rng hA (small_one (by omega) (by omega) (by omega) (by omega)) (by rw [rangeSize_one]; split <;> omega)
theorem CV_range1 {n : Int} {Q : V → Loc → CH → Prop} (h : Q (.rng 0 n 1) m H) : CV C A (.con (.type "range")) [.int n] [] m H Q := fun s rf rs rkw S hf hva hk => by
  have := hk.nil_inv; subst this
  rw [hf.con_inv]
  obtain ⟨a, rfl, ha⟩ := one_inv hva
  obtain ⟨t, rfl⟩ := ha.int_inv
  exact call_range_1 ⟨_, m, H, .rng (Heap.get?_push_size _ rfl), S.more (keep_push _ _), .more (keep_push _ _), h⟩
theorem CV_range2 {a b : Int} {Q : V → Loc → CH → Prop} (h : Q (.rng a b 1) m H) : CV C A (.con (.type "range")) [.int a, .int b] [] m H Q := fun s rf rs rkw S hf hva hk => by
  have := hk.nil_inv; subst this
  rw [hf.con_inv]
  obtain ⟨x, y, rfl, ha, hb⟩ := two_inv hva
  obtain ⟨t, rfl⟩ := ha.int_inv; obtain ⟨u, rfl⟩ := hb.int_inv
  exact call_range_2 ⟨_, m, H, .rng (Heap.get?_push_size _ rfl), S.more (keep_push _ _), .more (keep_push _ _), h⟩
theorem ES_for' {target iter : PySem.Expr} {body orelse : List Stmt} {p : Pos} {Q : Fl → Loc → CH → Prop}
    (h : EV C A iter m H fun v m₁ H₁ => ∃ (xs : List V) (ok : CH → Prop) (m₂ : Loc) (J : Nat → Loc → CH → Prop), SeqOf C A v H₁ xs ok ∧ Sub m₂ m₁ ∧ J 0 m₂ H₁ ∧ ∀ i m H, J i m H → ok H ∧
      (∀ x, xs[i]? = some x → ASG C A target x m H fun m' H' => EX C A body m' H' (Turn Q (NextJ J (i + 1)))) ∧ (i = xs.length → EX C A orelse m H Q))
    (hs : ∀ x, foldedSetIterable iter C.env x = pure x := by intro _; with_unfolding_all rfl) : ES C A (.For target iter body orelse p) m H Q :=
  ES_for (fun s S => wpAny_mono (h s S) (fun r s' ⟨v, m₁, H₁, hv, S₁, af, xs, ok, m₂, J, ⟨nx, it, hnx⟩, hsub, hJ, turn⟩ => ⟨v, m₁, H₁, hv, S₁, af, nx, xs.length, m₂, fun i m H => J i m H ∧ i ≤ xs.length, it, hsub, ⟨hJ, Nat.zero_le _⟩, fun i m H ⟨hj, hi⟩ => by
    obtain ⟨h1, h2, h3⟩ := turn i m H hj
    refine ⟨hi, ?_⟩
    rcases Nat.lt_or_ge i xs.length with hlt | hge
    · have hx : xs[i]? = some xs[i] := List.getElem?_eq_getElem hlt
      refine .inl ⟨xs[i], (hnx H i h1).trans (by rw [hx]), ?_⟩
      have h2' := h2 _ hx
      intro s r S hr
      refine wpAny_mono (h2' s r S hr) (fun _ s' ⟨m', H', S', af', q⟩ => ⟨m', H', S', af', q.mono fun fl m₂ H₂ hq => ?_⟩) fun _ _ x => x
      cases fl with
      | next => obtain ⟨m₃, a, b⟩ := hq; exact ⟨m₃, a, b, hlt⟩
      | cont => obtain ⟨m₃, a, b⟩ := hq; exact ⟨m₃, a, b, hlt⟩
      | brk => exact hq
      | ret v => exact hq
    · exact .inr ⟨(hnx H i h1).trans (by rw [List.getElem?_eq_none hge]), h3 (by omega)⟩⟩) fun _ _ x => x) hs
end
end
end Mine
end
section
open PySem PySem.Calls PySem.W PyProof.Rows
set_option maxRecDepth 100000
namespace Mine
noncomputable section
noncomputable abbrev Cx.comp (C : Cx) (scope : Scope) (cl : List (Str × Addr)) (L : Addr) : Cx := { C with env := compEnvC scope cl L C.env }
noncomputable def ETs (C : Cx) (A : Around) : List PySem.Expr → Loc → CH → (Bool → Loc → CH → Prop) → Prop
  | [], m, H, Q => Q true m H
  | c :: cs, m, H, Q => EB C A c m H fun b m₁ H₁ => (b = true → ETs C A cs m₁ H₁ Q) ∧ (b = false → Q false m₁ H₁)
section
variable {C : Cx} {A : Around} {m : Loc} {H : CH} {s : Shared}
theorem tests_false {M : Model} {env : Env} {E : Value → Shared → Prop} {Q : Bool → Shared → Prop} : ∀ {ifs : List PySem.Expr} {s : Shared}, Q false s →
    wpAny M A (forIn ifs false fun c r => if r = true then do let ok ← isTrue c env (eval c env); pure (ForInStep.yield ok) else pure (ForInStep.yield r)) Q E s
  | [], s, h => wpAny_pure h
  | c :: cs, s, h => by
    rw [List.forIn_cons]
    exact wpAny_bind (wpAny_pure (tests_false h))
theorem tests_of {Q : Bool → Loc → CH → Prop} : ∀ {ifs : List PySem.Expr} {m : Loc} {H : CH} {s : Shared}, ETs C A ifs m H Q → St C m H s →
    wpAny (model C.prog C.w) A (forIn ifs true fun c r => if r = true then do let ok ← isTrue c C.env (eval c C.env); pure (ForInStep.yield ok) else pure (ForInStep.yield r)) (PA C H s Q) NoE s
  | [], m, H, s, h, S => wpAny_pure (.here S h)
  | c :: cs, m, H, s, h, S => by
    rw [List.forIn_cons]
    refine wpAny_bind (wpAny_bind (wpAny_mono (h s S) ?_ fun _ _ x => x))
    rintro b s₁ ⟨m₁, H₁, S₁, af₁, h₁⟩
    refine wpAny_pure ?_
    cases b with
    | true => exact wpAny_mono (tests_of (h₁.1 rfl) S₁) (fun _ _ x => x.mono S₁ af₁) fun _ _ x => x
    | false => exact tests_false ⟨m₁, H₁, S₁, af₁, h₁.2 rfl⟩
/-- a thing that stands in the heap comes to be known -/
theorem HS.adopt (S : HS C H s) {a : Addr} {o : Obj} {c : CObj} (hb : C.h₀.get? a = none) (ho : s.heap.get? a = some o) (r : ORep C s.heap c o) : HS C (H.set a c) s where
  base := S.base
  own := fun b d e => by
    by_cases h : b = a
    · subst h; rw [CH.set_same] at e; cases e; exact ⟨hb, o, ho, r⟩
    · rw [CH.set_ne h] at e; exact S.own b d e
  gens := S.gens
theorem AfterC.thenAt {H₁ H₂ H₃ : CH} {s₁ s₂ s₃ : Shared} (a : AfterC H₁ s₁ H₂ s₂) (b : After C H₂ s₂ H₃ s₃) (hL : s₁.heap.get? C.env.locals = none) : AfterC H₁ s₁ H₃ s₃ where
  stay := fun x o hn e =>
    let ⟨o₁, e₁, k₁⟩ := a.stay x o hn e
    let ⟨o₂, e₂, k₂⟩ := b.stay x o₁ (fun q => by subst q; rw [hL] at e; cases e) (a.grow x o hn e) e₁
    ⟨o₂, e₂, k₁.trans k₂⟩
  grow := fun x o hn e => let ⟨o₁, e₁, _⟩ := a.stay x o hn e; b.grow x o₁ (a.grow x o hn e) e₁
  there := fun x o e => let ⟨o₁, e₁⟩ := a.there x o e; b.there x o₁ e₁
  drawn := b.drawn.trans a.drawn
  os := b.os.trans a.os
theorem AfterC.adopt {H₁ H₂ : CH} {s₁ s₂ : Shared} (a : AfterC H₁ s₁ H₂ s₂) {D : Addr} {c : CObj} (hD : s₁.heap.get? D = none) : AfterC H₁ s₁ (H₂.set D c) s₂ :=
  ⟨a.stay, fun b o hn e => by rw [CH.set_ne (fun q => by subst q; rw [hD] at e; cases e)]; exact a.grow b o hn e, a.there, a.drawn, a.os⟩
theorem AfterC.hid {H₁ H₂ : CH} {s₁ s₂ : Shared} (a : AfterC H₁ s₁ H₂ s₂) {I : Addr} (hI : s₁.heap.get? I = none) {h' : Heap} {tk : Nat} (hs : Heap.ExtBut I s₂.heap h') : AfterC H₁ s₁ H₂ { s₂ with heap := h', toks := tk } :=
  ⟨fun b o hn e => let ⟨o', e', k⟩ := a.stay b o hn e; ⟨o', hs b o' (fun q => by subst q; rw [hI] at e; cases e) e', k⟩, a.grow,
   fun b o e => let ⟨o', e'⟩ := a.there b o e; ⟨o', hs b o' (fun q => by subst q; rw [hI] at e; cases e) e'⟩, a.drawn, a.os⟩
/-- a hidden object of any kind -/
theorem HS.hid (S : HS C H s) {a : Addr} {oa : Obj} (ha : s.heap.get? a = some oa) (hH : H a = none) (hb : C.h₀.get? a = none) (ht : ¬ Imm oa) {h' : Heap} {tk : Nat} (hs : Heap.ExtBut a s.heap h') : HS C H { s with heap := h', toks := tk } := by
  have tk' : TupKeep s.heap h' := fun b o i e => hs b _ (fun q => by subst q; rw [ha] at e; cases e; exact ht i) e
  refine ⟨fun b o e => hs b o (fun q => by subst q; rw [hb] at e; cases e) (S.base b o e), fun b d e => ?_, S.gens⟩
  obtain ⟨x, o, hob, rb⟩ := S.own b d e
  exact ⟨x, o, hs b o (fun q => by subst q; rw [hH] at e; cases e) hob, rb.keep tk'⟩
theorem ns_not_imm {h : Heap} {L : Addr} {o : Obj} {mr : Str → Option Value} (hn : h.Ns L mr) (ho : h.get? L = some o) : ¬ Imm o := fun i => by
  obtain ⟨o', es, ep, ho', hd, _⟩ := hn
  rw [ho] at ho'; cases ho'; exact i.2.2.1 _ _ hd
/-- the turns of a list's comprehension -/
structure Comp (C : Cx) (A : Around) (elt target : PySem.Expr) (ifs : List PySem.Expr) (scope : Scope) (cl : List (Str × Addr)) (xs : List V) (ok : CH → Prop) (J : Nat → List V → CH → Prop) : Prop where
  turn : ∀ i ys H', J i ys H' → ok H' ∧ ys.length ≤ sizeLine ∧ ∀ x, xs[i]? = some x → ∀ L, H' L = none → ASG (C.comp scope cl L) A target x [] H' fun m₂ H₂ => ETs (C.comp scope cl L) A ifs m₂ H₂ fun b m₃ H₃ =>
    (b = true → EV (C.comp scope cl L) A elt m₃ H₃ fun y m₄ H₄ => J (i + 1) (ys ++ [y]) H₄) ∧ (b = false → J (i + 1) ys H₃)
inductive CompI (C : Cx) (ob : Nat → Heap → Obj → Prop) (J : Nat → List V → CH → Prop) (N : Nat) (I D L : Addr) (H : CH) (s : Shared) (k : Nat) (s' : Shared) : Prop
  | mk (i : Nat) (ys : List V) (H' : CH) (mr : Str → Option Value) (o : Obj) (items : Array Value) (n : Nat) (hi : i ≤ N) (hk : k = N - i) (S : HS C H' s') (a : AfterC H s H' s') (hI : H' I = none) (hD : H' D = none) (hL : H' L = none) (hn : s'.heap.Ns L mr)
      (ho : s'.heap.get? I = some o) (hob : ob i s'.heap o) (hDo : s'.heap.get? D = some (seqObj "list" items n)) (hys : VRs s'.heap ys items.toList) (hJ : J i ys H') : CompI C ob J N I D L H s k s'
inductive CompO (P : Heap → Prop) (I D L : Addr) (ys : List V) (items : Array Value) (n : Nat) (o : Obj) (H : CH) (h : Heap) : Prop
  | mk (mr : Str → Option Value) (hI : H I = none) (hD : H D = none) (ho : h.get? I = some o) (hob : P h) (hDo : h.get? D = some (seqObj "list" items n)) (hys : VRs h ys items.toList) (hn : h.Ns L mr) : CompO P I D L ys items n o H h
theorem comp_core {elt target iter : PySem.Expr} {ifs : List PySem.Expr} {scope : Scope} {cl : List (Str × Addr)} {pos : Pos} {RR : Value → Addr → Result → Shared → Prop} {v : V} {r : Value} {xs : List V} {ok : CH → Prop} {J : Nat → List V → CH → Prop}
    (hcell : ∀ y ∈ scope.names, y.2 ≠ .cell) (hkind : scope.kind = .function) (S₁ : HS C H s) (F₁ : Frs C H s) (hv : VR s.heap v r) (q : SeqOf C A v H xs ok) (K : Comp C A elt target ifs scope cl xs ok J) (hJ : J 0 [] H)
    (fin : ∀ D L s' H' ys mr, HS C H' s' → AfterC H s H' s' → s.heap.get? D = none → s.heap.get? L = none → D ≠ L → H' D = none → H' L = none → C.h₀.get? D = none → C.h₀.get? L = none → s'.heap.Ns L mr → (∃ items n, s'.heap.get? D = some (seqObj "list" items n) ∧ VRs s'.heap ys items.toList) → J xs.length ys H' → RR (.ref D) L (.ok .next) s') :
    wpAny (model C.prog C.w) A (pyIter r) (fun it s₂ => wpAny (model C.prog C.w) A (newList []) (fun acc s₃ => wpAny (model C.prog C.w) A (newFunctionEnv scope C.env.globals cl [] C.env.qual none .none (some C.env)) (fun cenv s₄ =>
      codeAny (model C.prog C.w) A (.compStart (.ListComp elt [⟨target, iter, ifs, 0⟩] scope pos) 0 it acc { cenv with scope := relabel scope C.env }) (RR acc cenv.locals) s₄) NoE s₃) NoE s₂) NoE s := by
  obtain ⟨nx, it, hnx⟩ := q
  refine wpAny_mono (it s r S₁ hv) ?_ fun _ _ x => x
  rintro ri s₂ ⟨I, ob, h₂, tk₂, o0, rfl, rfl, hk₂, hI, hob, hob0, P⟩
  refine wpAny_newObj_type (wpAny_newFunctionEnv hcell (by intro y hy; simp at hy) (fun h₄ hns₄ hsb₄ => ?_) hkind)
  dsimp only at hns₄ hsb₄ ⊢
  generalize hDd : h₂.objs.size = D at *
  generalize hH3 : h₂.push { cls := .type "list", dict := none, data := .seq ([] : List Value).toArray } = H3 at *
  generalize hLd : H3.objs.size = L at *
  have hDL : D ≠ L := by
    have : H3.objs.size = h₂.objs.size + 1 := by rw [← hH3, Heap.size_push]
    show ¬ ((D : Nat) = L)
    omega
  have keep4 : ∀ b o, h₂.get? b = some o → h₄.get? b = some o := fun b o e => by
    have hb : (b : Nat) < h₂.objs.size := Heap.lt_size e
    have h3 : H3.get? b = some o := by rw [← hH3]; exact Heap.get?_push_of_some _ e
    have h3s : H3.objs.size = h₂.objs.size + 1 := by rw [← hH3, Heap.size_push]
    have hbL : (b : Nat) < L := by rw [← hLd, h3s]; exact Nat.lt_succ_of_lt hb
    exact hsb₄.extBut b o (Nat.ne_of_lt hbL) (Heap.get?_push_of_some _ h3)
  have fresh : ∀ a, (h₂.objs.size : Nat) ≤ a → s.heap.get? a = none := fun a ha => by
    cases e : s.heap.get? a with
    | none => rfl
    | some o' => exact absurd (Heap.lt_size (hk₂ _ _ e)) (Nat.not_lt.mpr ha)
  have hD0 : s.heap.get? D = none := fresh D (by show (h₂.objs.size : Nat) ≤ D; omega)
  have hL0 : s.heap.get? L = none := fresh L (by
    have : H3.objs.size = h₂.objs.size + 1 := by rw [← hH3, Heap.size_push]
    show (h₂.objs.size : Nat) ≤ L; omega)
  have hnb : ∀ a, s.heap.get? a = none → C.h₀.get? a = none := fun a ha => by
    cases e : C.h₀.get? a with
    | none => rfl
    | some o => rw [S₁.base a o e] at ha; cases ha
  have hnH : ∀ a, s.heap.get? a = none → H a = none := fun a ha => by
    cases e : H a with
    | none => rfl
    | some c => obtain ⟨_, o, ho, _⟩ := S₁.own a c e; rw [ha] at ho; cases ho
  have hDobj : h₄.get? D = some (seqObj "list" #[] 0) := by
    have h3 : H3.get? D = some (seqObj "list" #[] 0) := by rw [← hH3, ← hDd]; exact Heap.get?_push_size _ rfl
    exact hsb₄.extBut D _ hDL (Heap.get?_push_of_some _ h3)
  have hIobj : h₄.get? I = some o0 := keep4 I o0 hob
  have hID : I ≠ D := fun e => by
    have := Heap.lt_size hob
    exact absurd (show (D : Nat) < h₂.objs.size from e ▸ this) (by omega)
  have hIL : I ≠ L := fun e => by
    have := Heap.lt_size hob
    have h3 : H3.objs.size = h₂.objs.size + 1 := by rw [← hH3, Heap.size_push]
    exact absurd (show (L : Nat) < h₂.objs.size from e ▸ this) (by omega)
  have af4 : AfterC H s H { s with heap := h₄, toks := tk₂ } := .more fun b o e => keep4 b o (hk₂ b o e)
  have S4 : HS C H { s with heap := h₄, toks := tk₂ } := S₁.more fun b o e => keep4 b o (hk₂ b o e)
  have loop : codeAny (model C.prog C.w) A (.compLoop (.ListComp elt [⟨target, iter, ifs, 0⟩] scope pos) 0 (.ref I) (.ref D) (C.comp scope cl L).env) (RR (.ref D) L) { s with heap := h₄, toks := tk₂ } := by
    refine codeAny_loop rfl (CompI C ob J xs.length I D L H s) ?_ xs.length
      ⟨0, [], H, _, o0, #[], 0, Nat.zero_le _, rfl, S4, af4, hnH I hI, hnH D hD0, hnH L hL0, hns₄, hIobj, P.kept _ _ _ _ (.of_keep keep4) hob0, hDobj, .nil, hJ⟩
    rintro k s' ⟨i, ys, H', mr, oi, items, n, hi, rfl, S', af', hI', hD', hL', hn', hoi, hobi, hDi, hys, hJ'⟩
    show wpAny _ A ((compTurn (.ListComp elt [⟨target, iter, ifs, 0⟩] scope pos) 0 (.ref I) (.ref D) (C.comp scope cl L).env).onRaise (fun x => do noteFrame x (C.comp scope cl L).env; theTreesLotGoes x)) _ _ s'
    refine wpAny_noted (wpAny_noRaise ?_)
    rw [compTurn_list]
    obtain ⟨hok, hsz, turn⟩ := K.turn i ys H' hJ'
    rcases Nat.lt_or_ge i xs.length with hlt | hge
    · have hx : xs[i]? = some xs[i] := List.getElem?_eq_getElem hlt
      refine wpAny_bind (wpAny_standAt (wpAny_bind (wpAny_mono (P.item H' s' i oi xs[i] S' hI' hoi hobi ((hnx H' i hok).trans (by rw [hx]))) ?_ fun _ _ x => x)))
      rintro rx s₅ ⟨rv, h₅, tk₅, o₅, rfl, rfl, hrv, he₅, hI₅, hob₅⟩
      dsimp only
      refine wpAny_bind (P.own target rv _ (i + 1) _ o₅ _ hI₅ hob₅ ?_)
      have hIb := hnb I hI
      have S₅ : HS C H' { s' with heap := h₅, toks := tk₅ } := S'.hid hoi hI' hIb (P.plain _ _ _ hobi) he₅
      have af₅ : AfterC H s H' { s' with heap := h₅, toks := tk₅ } := af'.hid hI he₅
      have k₅ : TupKeep s'.heap h₅ := tup_ext hoi (P.plain _ _ _ hobi) he₅
      have T₅ : St (C.comp scope cl L) [] H' { s' with heap := h₅, toks := tk₅ } := ⟨⟨S₅.base, S₅.own, S₅.gens⟩, ⟨mr, hn'.extBut he₅ (Ne.symm hIL), fun _ _ e => by simp at e⟩, hL', hnb L hL0, fun e he => F₁.after af₅ e he⟩
      refine wpAny_bind (wpAny_mono (turn xs[i] hx L hL' _ rv T₅ hrv) ?_ fun _ _ x => x)
      rintro _ s₆ ⟨m₆, H₆, T₆, a₆, h₆⟩
      refine wpAny_bind (wpAny_mono (tests_of h₆ T₆) ?_ fun _ _ x => x)
      rintro b s₇ ⟨m₇, H₇, T₇, a₇, h₇⟩
      have aL₇ := a₆.then T₆ a₇
      have af₇ : AfterC H s H₇ s₇ := af₅.thenAt (C := C.comp scope cl L) aL₇ hL0
      have other : ∀ {s₉ : Shared} {H₉ : CH} {m₉ : Loc}, St (C.comp scope cl L) m₉ H₉ s₉ → After (C.comp scope cl L) H' { s' with heap := h₅, toks := tk₅ } H₉ s₉ →
          CompO (fun h => ob (i + 1) h o₅) I D L ys items n o₅ H₉ s₉.heap := fun {s₉ H₉ m₉} T₉ a₉ => by
        obtain ⟨o1, e1, k1⟩ := a₉.stay I o₅ hIL hI' hI₅
        rw [k1.exact (fun es ep => P.nodict _ _ _ es ep hob₅)] at e1
        have hD₅ : h₅.get? D = some (seqObj "list" items n) := he₅ D _ (Ne.symm hID) hDi
        obtain ⟨o2, e2, k2⟩ := a₉.stay D _ hDL hD' hD₅
        rw [k2.exact (by intro es ep q; cases q)] at e2
        obtain ⟨mr9, hn9, _⟩ := T₉.ns
        exact ⟨mr9, a₉.grow I _ hI' hI₅, a₉.grow D _ hD' hD₅, e1, P.kept _ _ _ _ (a₉.tup T₅) (P.kept _ _ _ _ k₅ hob₅), e2, (hys.keep k₅).keep (a₉.tup T₅), hn9⟩
      cases b with
      | false =>
        obtain ⟨mr9, b1, b2, b3, b4, b5, b6, b7⟩ := other T₇ aL₇
        exact wpAny_pure ⟨rfl, xs.length - (i + 1), by omega, i + 1, ys, H₇, mr9, o₅, items, n, hlt, rfl, ⟨T₇.base, T₇.own, T₇.gens⟩, af₇, b1, b2, T₇.loc, b7, b3, b4, b5, b6, h₇.2 rfl⟩
      | true =>
        refine wpAny_bind (wpAny_bind (wpAny_mono (h₇.1 rfl s₇ T₇) ?_ fun _ _ x => x))
        rintro ry s₈ ⟨y, m₈, H₈, hy, T₈, a₈, h₈⟩
        have aL₈ := aL₇.then T₇ a₈
        have af₈ : AfterC H s H₈ s₈ := af₅.thenAt (C := C.comp scope cl L) aL₈ hL0
        obtain ⟨mr9, b1, b2, b3, b4, b5, b6, b7⟩ := other T₈ aL₈
        have hzz : items.size ≤ sizeLine := by have := b6.length; simp at this; omega
        refine wpAny_bind (call_meets F.slot_list_append ⟨_, b5, rfl⟩ F.entry_list_append (F.args_list_append_2 _ _) (list_append D items n ry hzz) ⟨b5, ?_⟩)
        refine wpAny_pure (wpAny_pure ?_)
        have hu : Heap.SameBut D s₈.heap (s₈.heap.update D (Obj.mapSeq (·.push ry))) := Heap.SameBut.update ..
        have S₈ : HS C H₈ s₈ := ⟨T₈.base, T₈.own, T₈.gens⟩
        have niD : ¬ Imm (seqObj "list" items n) := not_imm_cls (T := "list") rfl (by decide) (by intro _ _ _ e; cases e)
        have k₉ : TupKeep s₈.heap (s₈.heap.update D (Obj.mapSeq (·.push ry))) := tup_ext b5 niD hu.extBut
        refine ⟨rfl, xs.length - (i + 1), by omega, i + 1, ys ++ [y], H₈, mr9, o₅, _, _, hlt, rfl, S₈.hid (tk := s₈.toks) b5 b2 (hnb D hD0) niD hu.extBut, af₈.hid (tk := s₈.toks) hD0 hu.extBut, b1, b2, T₈.loc, b7.sameBut hu (Ne.symm hDL), hu.extBut I _ hID b3, P.kept _ _ _ _ k₉ b4, IsL.update b5 _, ?_, h₈⟩
        rw [Array.toList_push]
        exact (b6.keep k₉).append (.cons (hy.keep k₉) .nil)
    · have hie : i = xs.length := by omega
      subst hie
      refine wpAny_bind (wpAny_standAt (wpAny_bind (wpAny_mono (P.done H' s' xs.length oi S' hI' hoi hobi ((hnx H' xs.length hok).trans (by rw [List.getElem?_eq_none (Nat.le_refl _)]))) ?_ fun _ _ x => x)))
      rintro rx s₅ ⟨h₅, tk₅, rfl, rfl, he₅⟩
      have k₅ : TupKeep s'.heap h₅ := tup_ext hoi (P.plain _ _ _ hobi) he₅
      exact wpAny_pure (fin D L _ H' ys mr (S'.hid hoi hI' (hnb I hI) (P.plain _ _ _ hobi) he₅) (af'.hid hI he₅) hD0 hL0 hDL hD' hL' (hnb D hD0) (hnb L hL0) (hn'.extBut he₅ (Ne.symm hIL)) ⟨items, n, he₅ D _ (Ne.symm hID) hDi, hys.keep k₅⟩ hJ')
  exact codeAny_compStart_list loop (P.self _ 0 h₂ o0 _ _ hIobj hob0 loop)
noncomputable def scopeOk (scope : Scope) : Bool := scope.kind == .function && scope.names.all (fun y => y.2 != .cell) && scope.names.all (fun y => y.2 != .local || scope.names.lookup y.1 == some .local)
theorem scopeOk.get {scope : Scope} (h : scopeOk scope = true) : scope.kind = .function ∧ (∀ y ∈ scope.names, y.2 ≠ .cell) ∧ ∀ y ∈ scope.names, y.2 = .local → scope.names.lookup y.1 = some .local := by
  unfold scopeOk at h
  simp only [Bool.and_eq_true, List.all_eq_true, beq_iff_eq, bne_iff_ne, Bool.or_eq_true] at h
  refine ⟨h.1.1, h.1.2, fun y hy hl => ?_⟩
  rcases h.2 y hy with q | q
  · exact absurd hl q
  · exact q
noncomputable def LC (C : Cx) (A : Around) (elt target : PySem.Expr) (ifs : List PySem.Expr) (scope : Scope) (cl : List (Str × Addr)) (v : V) (H : CH) (Q : V → CH → Prop) : Prop :=
  ∃ (xs : List V) (ok : CH → Prop) (J : Nat → List V → CH → Prop), SeqOf C A v H xs ok ∧ Comp C A elt target ifs scope cl xs ok J ∧ J 0 [] H ∧ ∀ ys H' D, J xs.length ys H' → H' D = none → C.h₀.get? D = none → Q (.ref D) (H'.set D (.list ys))
theorem EV_lc {elt target iter : PySem.Expr} {ifs : List PySem.Expr} {scope : Scope} {cl : List (Str × Addr)} {pos : Pos} {Q : V → Loc → CH → Prop}
    (h : EV C A iter m H fun v m₁ H₁ => LC C A elt target ifs scope cl v H₁ fun v H' => Q v m₁ H')
    (hclos : closureFor scope C.env = pure cl := by with_unfolding_all rfl) (hok : scopeOk scope = true := by with_unfolding_all rfl) (hs : ∀ x, foldedSetIterable iter C.env x = pure x := by intro _; with_unfolding_all rfl) :
    EV C A (.ListComp elt [⟨target, iter, ifs, 0⟩] scope pos) m H Q := fun s S => by
  obtain ⟨hkind, hcell, hnames⟩ := scopeOk.get hok
  rw [eval_ListComp]
  refine wpAny_comprehension_free (use := none) rfl hs hclos hkind hnames (wpAny_mono (h s S) ?_ fun _ _ x => x)
  rintro r s₁ ⟨v, m₁, H₁, hv, S₁, af₁, xs, ok, J, q, K, hJ, fin⟩
  refine comp_core (RR := fun acc L => compPost (model C.prog C.w) A NoE none (PV C H s Q) acc L) hcell hkind S₁.toHS S₁.frs hv q K hJ ?_
  intro D L s' H' ys mr S' af' hD hL hDL hD' hL' hDb hLb hn ⟨items, n, hDo, hys⟩ hJ'
  refine ⟨mr, hn, fun h'' hs'' => ?_⟩
  obtain ⟨oL, _, _, hoL, _⟩ := id hn
  have S₂ : HS C H' { s' with heap := h'' } := S'.hid (tk := s'.toks) hoL hL' hLb (ns_not_imm hn hoL) hs''.extBut
  have af₂ : AfterC H₁ s₁ H' { s' with heap := h'' } := af'.hid (tk := s'.toks) hL hs''.extBut
  have hDo' : h''.get? D = some (seqObj "list" items n) := hs''.extBut D _ hDL hDo
  have tk' : TupKeep s'.heap h'' := tup_ext hoL (ns_not_imm hn hoL) hs''.extBut
  have S₃ : HS C (H'.set D (.list ys)) { s' with heap := h'' } := S₂.adopt hDb hDo' ⟨items, n, rfl, hys.keep tk'⟩
  have af₃ : AfterC H₁ s₁ (H'.set D (.list ys)) { s' with heap := h'' } := af₂.adopt hD
  exact ⟨.ref D, m₁, _, .ref, S₁.called S₃ af₃, af₁.then S₁ af₃.after, fin ys H' D hJ' hD' hDb⟩
theorem ES_assign_lc {elt target iter : PySem.Expr} {ifs : List PySem.Expr} {scope : Scope} {cl : List (Str × Addr)} {x : Str} {px pos spos : Pos} {Q : Fl → Loc → CH → Prop}
    (h : EV C A iter m H fun v m₁ H₁ => LC C A elt target ifs scope cl v H₁ fun v H' => Q .next ((x, v) :: m₁) H')
    (hsw : swapsWith (.ListComp elt [⟨target, iter, ifs, 0⟩] scope pos) (some (.Name x px)) spos.line C.env = pure true := by with_unfolding_all rfl)
    (hclos : closureFor scope C.env = pure cl := by with_unfolding_all rfl) (hok : scopeOk scope = true := by with_unfolding_all rfl) (hs : ∀ x, foldedSetIterable iter C.env x = pure x := by intro _; with_unfolding_all rfl)
    (hl : C.env.kindOf x = some .local := by with_unfolding_all rfl) (hp : (C.env.scope.kind == .class || (C.env.scope.kind == .module && C.env.locals != C.env.globals)) = false := by with_unfolding_all rfl) :
    ES C A (.Assign [.Name x px] (.ListComp elt [⟨target, iter, ifs, 0⟩] scope pos) spos) m H Q := fun s S => by
  obtain ⟨hkind, hcell, hnames⟩ := scopeOk.get hok
  rw [exec_Assign_Name_used _ _ _ _ hsw]
  refine wpAny_bind (wpAny_standAt (wpAny_bind ?_))
  show wpAny _ A (do let _ ← comprehension (.ListComp elt [⟨target, iter, ifs, 0⟩] scope pos) scope C.env _ (newList []) false (eval iter C.env) (some (assign (.Name x px) C.env))) _ _ s
  refine wpAny_bind (wpAny_mono (wpAny_comprehension_free (use := some (assign (.Name x px) C.env)) (Q := fun _ s' => PF C H s Q .next s') rfl hs hclos hkind hnames
    (wpAny_mono (h s S) ?_ fun _ _ e => e)) (fun _ s' hq => wpAny_pure (wpAny_pure hq)) fun _ _ e => e)
  rintro r s₁ ⟨v, m₁, H₁, hv, S₁, af₁, xs, ok, J, q, K, hJ, fin⟩
  refine comp_core (RR := fun acc L => compPost (model C.prog C.w) A NoE (some (assign (.Name x px) C.env)) (fun _ s' => PF C H s Q .next s') acc L) hcell hkind S₁.toHS S₁.frs hv q K hJ ?_
  intro D L s' H' ys mr S' af' hD hL hDL hD' hL' hDb hLb hn ⟨items, n, hDo, hys⟩ hJ'
  have S₃ : HS C (H'.set D (.list ys)) s' := S'.adopt hDb hDo ⟨items, n, rfl, hys⟩
  have af₃ : AfterC H₁ s₁ (H'.set D (.list ys)) s' := af'.adopt hD
  have T₃ : St C m₁ (H'.set D (.list ys)) s' := S₁.called S₃ af₃
  have hLl : C.env.locals ≠ L := fun e => by obtain ⟨o, e'⟩ := S₁.at_loc; rw [e, hL] at e'; cases e'
  obtain ⟨mr', hn', hk'⟩ := T₃.ns
  show wpAny _ A (assign (.Name x px) C.env (.ref D)) _ _ _
  refine wpAny_assign_Name (wpAny_storeName_local hl hn' (fun h₂ hn₂ hs₂ => ?_) hp)
  have T₄ : St C ((x, .ref D) :: m₁) (H'.set D (.list ys)) { s' with heap := h₂, toks := s'.toks + 1 } := T₃.store (tk := s'.toks + 1) (v := .ref D) .ref hk' hn₂ hs₂
  have af₄ : After C H₁ s₁ (H'.set D (.list ys)) { s' with heap := h₂, toks := s'.toks + 1 } := (After.then T₃ af₃.after (.store (tk := s'.toks + 1) hn₂ hs₂))
  have hnL : h₂.Ns L mr := hn.sameBut hs₂ (Ne.symm hLl)
  refine ⟨mr, hnL, fun h₃ hs₃ => ?_⟩
  obtain ⟨oL, _, _, hoL, _⟩ := id hnL
  have hLD : (H'.set D (.list ys)) L = none := by rw [CH.set_ne (Ne.symm hDL)]; exact hL'
  have af₅ : After C H₁ s₁ (H'.set D (.list ys)) { s' with heap := h₃, toks := s'.toks + 1 } := af₄.hid (tk := s'.toks + 1) hL hs₃.extBut
  have S₅ : HS C (H'.set D (.list ys)) { s' with heap := h₃, toks := s'.toks + 1 } := T₄.toHS.hid (tk := s'.toks + 1) hoL hLD hLb (ns_not_imm hnL hoL) hs₃.extBut
  have tk₅ : TupKeep h₂ h₃ := tup_ext hoL (ns_not_imm hnL hoL) hs₃.extBut
  have T₅ : St C ((x, .ref D) :: m₁) (H'.set D (.list ys)) { s' with heap := h₃, toks := s'.toks + 1 } := by
    obtain ⟨mr5, hn5, k5⟩ := T₄.ns
    refine ⟨S₅, ⟨mr5, hn5.extBut hs₃.extBut hLl, k5.keep tk₅⟩, T₄.loc, T₄.locb, fun e he => ?_⟩
    obtain ⟨a1, a2, a3, f, o, es, ep, hf, ho, hd, hnf, hb⟩ := T₄.frs e he
    have hfL : f ≠ L := fun q => by
      obtain ⟨_, _, _, f', o', es', ep', hf', ho', _⟩ := S₁.frs e he
      rw [hf] at hf'; cases hf'; rw [q, hL] at ho'; cases ho'
    exact ⟨a1, a2, a3, f, o, es, ep, hf, hs₃.extBut f _ hfL ho, hd, hnf, hb⟩
  exact ⟨.next, _, _, rfl, T₅, af₁.then S₁ af₅, fin ys H' D hJ' hD' hDb⟩
/-- a comprehension that leaves the heap alone -/
theorem LC_pure {elt target : PySem.Expr} {ifs : List PySem.Expr} {scope : Scope} {cl : List (Str × Addr)} {v : V} {Q : V → CH → Prop} {α : Type} (l : List α) (φ : α → V) (p : α → Bool) (f : α → V) {ok : CH → Prop}
    (hs : SeqOf C A v H (l.map φ) ok) (hok : ok H) (hsz : l.length ≤ sizeLine)
    (turn : ∀ a ∈ l, ∀ L, H L = none → ASG (C.comp scope cl L) A target (φ a) [] H fun m₂ H₂ => ETs (C.comp scope cl L) A ifs m₂ H₂ fun b m₃ H₃ => b = p a ∧ H₃ = H ∧ (b = true → EV (C.comp scope cl L) A elt m₃ H₃ fun y m₄ H₄ => y = f a ∧ H₄ = H))
    (fin : ∀ D, H D = none → C.h₀.get? D = none → Q (.ref D) (H.set D (.list ((l.filter p).map f)))) : LC C A elt target ifs scope cl v H Q := by
  refine ⟨l.map φ, ok, fun i ys H' => H' = H ∧ i ≤ l.length ∧ ys = ((l.take i).filter p).map f, hs, ⟨?_⟩, ⟨rfl, Nat.zero_le _, by simp⟩, ?_⟩
  · rintro i ys H' ⟨rfl, hi, rfl⟩
    refine ⟨hok, ?_, ?_⟩
    · rw [List.length_map]
      exact Nat.le_trans (List.length_filter_le ..) (Nat.le_trans (by rw [List.length_take]; omega) hsz)
    · intro x hx L hL
      rw [List.getElem?_map] at hx
      obtain ⟨a, ha, rfl⟩ := Option.map_eq_some_iff.mp hx
      have hil : i < l.length := (List.getElem?_eq_some_iff.mp ha).1
      have htk : l.take (i + 1) = l.take i ++ [a] := by rw [List.take_add_one, ha]; rfl
      have := turn a (List.mem_of_getElem? ha) L hL
      intro s r S hr
      refine wpAny_mono (this s r S hr) (fun _ s' ⟨m₂, H₂, S₂, af₂, h₂⟩ => ⟨m₂, H₂, S₂, af₂, ?_⟩) fun _ _ x => x
      have mono : ∀ {ifs : List PySem.Expr} {m₂ : Loc} {H₂ : CH} {Q Q' : Bool → Loc → CH → Prop}, (∀ b m H, Q b m H → Q' b m H) → ETs (C.comp scope cl L) A ifs m₂ H₂ Q → ETs (C.comp scope cl L) A ifs m₂ H₂ Q' := by
        intro ifs
        induction ifs with
        | nil => intro m₂ H₂ Q Q' q h; exact q _ _ _ h
        | cons c cs ih => intro m₂ H₂ Q Q' q h; exact EB.mono h fun b m H hb => ⟨fun e => ih q (hb.1 e), fun e => q _ _ _ (hb.2 e)⟩
      refine mono ?_ h₂
      rintro b m₃ H₃ ⟨rfl, rfl, hel⟩
      refine ⟨fun hb => (hel hb).mono ?_, fun hb => ⟨rfl, hil, ?_⟩⟩
      · rintro y m₄ H₄ ⟨rfl, rfl⟩
        exact ⟨rfl, hil, by rw [htk, List.filter_append, List.map_append, List.filter_cons, hb]; rfl⟩
      · rw [htk, List.filter_append, List.map_append, List.filter_cons, hb]; simp
  · rintro ys H' D ⟨rfl, _, rfl⟩ hD hDb
    rw [List.length_map, List.take_length]
    exact fin D hD hDb
end
end
end Mine
end
section
open PySem PySem.Calls PySem.W PyProof.Rows
set_option maxRecDepth 100000
namespace Mine
noncomputable section
section
variable {C : Cx} {A : Around} {m : Loc} {H : CH} {s : Shared} {K : Frag} {mg mb : Str → Option Value}
theorem HS.updExt (S : HS C H s) {a : Addr} {c c' : CObj} (hc : H a = some c) {h' : Heap} {o' : Obj} {tk : Nat} (hs : Heap.ExtBut a s.heap h') (ho : h'.get? a = some o') (r : ORep C h' c' o') :
    HS C (H.set a c') { s with heap := h', toks := tk } ∧ TupKeep s.heap h' := by
  obtain ⟨ha0, oa, hoa, ra⟩ := S.own a c hc
  have tk' : TupKeep s.heap h' := fun b o i e => hs b _ (fun q => by subst q; rw [hoa] at e; cases e; exact ra.not_imm i) e
  refine ⟨⟨fun b o e => hs b _ (fun q => by subst q; rw [ha0] at e; cases e) (S.base b o e), fun b d e => ?_, S.gens⟩, tk'⟩
  by_cases h : b = a
  · subst h; rw [CH.set_same] at e; cases e; exact ⟨ha0, o', ho, r⟩
  · rw [CH.set_ne h] at e
    obtain ⟨x, o, hob, rb⟩ := S.own b d e
    exact ⟨x, o, hs b o h hob, rb.keep tk'⟩
theorem AfterC.updExt {a : Addr} {c c' : CObj} (hc : H a = some c) {h' : Heap} {tk : Nat} (hs : Heap.ExtBut a s.heap h') {o' : Obj} (ho : h'.get? a = some o') : AfterC H s (H.set a c') { s with heap := h', toks := tk } where
  stay := fun b o hn e => ⟨o, hs b o (fun q => by subst q; rw [hn] at hc; cases hc) e, .refl o⟩
  grow := fun b o hn _ => by rw [CH.set_ne (fun q => by subst q; rw [hn] at hc; cases hc)]; exact hn
  there := fun b o e => by
    by_cases q : b = a
    · subst q; exact ⟨o', ho⟩
    · exact ⟨o, hs b o q e⟩
  drawn := rfl
  os := rfl
theorem codeAmong_app {pos : Pos} {c : Value} {a b : Nat} (l : List Value) (h : TriplesOk l) : ∀ cv, codeAmong pos (l ++ [rawInt a, rawInt b, c]) = some cv → codeAmong pos l = some cv ∨ (a = pos.line ∧ b = pos.col ∧ cv = c) := by
  fun_induction TriplesOk l with
  | case1 =>
    intro cv e
    simp only [List.nil_append, codeAmong, rawInt] at e
    split at e
    · rename_i hc
      simp only [Bool.and_eq_true, beq_iff_eq, Int.natCast_inj] at hc
      exact .inr ⟨hc.1, hc.2, (Option.some.inj e).symm⟩
    · cases e
  | case2 x t y u z rest ih =>
    intro cv e
    simp only [List.cons_append, codeAmong] at e ⊢
    split at e
    · rename_i hc; rw [if_pos hc]; exact .inl e
    · rename_i hc; rw [if_neg hc]; exact ih h cv e
  | case3 => exact h.elim
theorem triples_app {c : Value} {a b : Nat} (l : List Value) (h : TriplesOk l) : TriplesOk (l ++ [rawInt a, rawInt b, c]) := by
  fun_induction TriplesOk l with
  | case1 => simp [rawInt, TriplesOk]
  | case2 x t y u z rest ih => simp only [List.cons_append, TriplesOk]; exact ih h
  | case3 => exact h.elim
theorem EV_lambda {params : Arguments} {body : PySem.Expr} {scope : Scope} {pos : Pos} {cl : List (Str × Addr)} {c P : Addr} {qs : List ((Nat × Nat) × Str)} {Q : V → Loc → CH → Prop} (B : Bs C.h₀ K mg mb) (hP : H P = some (.tab qs)) (hC : CodeHd C.h₀ c P)
    (h : Q (.fn "<lambda>" (C.env.qual ++ "<lambda>") params body scope cl) m H) (hc : C.env.code = .ref c := by with_unfolding_all rfl) (hge0 : C.env.globals = mainGlobals := by with_unfolding_all rfl) (hq : qs.lookup (pos.line, pos.col) = some (C.env.qual ++ "<lambda>") := by with_unfolding_all rfl)
    (hdef : defaultsOf params C.env = ([], []) := by with_unfolding_all rfl) (hclos : closureFor scope C.env = pure cl := by with_unfolding_all rfl) : EV C A (.Lambda params body scope pos) m H Q := fun s S => by
  refine kla_eval hdef ?_
  obtain ⟨hPb, o, ho, ps, rfl, ht, hqs⟩ := S.own P _ hP
  have hgs := B.g.keeps S.base
  obtain ⟨bm, ob, b1, b2, b3, b4, b5, b6⟩ := B.bm
  have hgP : mainGlobals ≠ P := fun q => by
    obtain ⟨o, es, ep, e, hd, _⟩ := hgs
    rw [q, ho] at e; cases e; cases hd
  have hbP : bm ≠ P := fun q => by
    rw [q, hPb] at b3; cases b3
  have hbG : bm ≠ mainGlobals := fun q => by
    obtain ⟨o, es, ep, e, hd, _⟩ := B.g
    rw [q, e] at b3; cases b3; rw [hd] at b6; cases b6
  cases hca : codeAmong pos ps.toList with
  | some cv =>
    have hr := hqs pos cv hca _ hq
    obtain ⟨c', oc, vs, t, e2, hoc, hd, hv⟩ := id hr
    subst e2
    refine kla_makeFunctionHit (mg := mg) hclos hge0 hgs hc (hC.keeps S.base) ho ht hca ⟨bm, ob, b1, b2, hbG, hbP, S.base _ _ b3, b4, b5, b6⟩ fun ctv h' tk hk hsz => ?_
    have k : ∀ b o, s.heap.get? b = some o → (h'.push (kla_obj "<lambda>" (C.env.qual ++ "<lambda>") params body scope cl ((mg "__name__").getD .none) c' ctv)).get? b = some o := fun b o e => Heap.get?_push_of_some _ (hk b o e)
    exact ⟨_, m, H, .fn (Heap.get?_push_size _ rfl) (hr.keeps k), S.more k, .more k, h⟩
  | none =>
    refine kla_makeFunction (mg := mg) hclos hge0 hgs hc (hC.keeps S.base) ho ht hca hgP ⟨bm, ob, b1, b2, hbG, hbP, S.base _ _ b3, b4, b5, b6⟩ fun c' ctv h' tk hx hge hlt hrec htb => ?_
    have hset : H.set P (.tab qs) = H := by
      funext b; unfold CH.set; split
      · subst b; exact hP.symm
      · rfl
    have tk' : TupKeep s.heap h' := fun b o i e => hx b _ (fun q => by subst q; rw [ho] at e; cases e; exact (show ORep C s.heap (.tab qs) _ from ⟨ps, rfl, ht, hqs⟩).not_imm i) e
    have hrep : ORep C h' (.tab qs) (tabObj (ps ++ #[rawInt pos.line, rawInt pos.col, .ref c'])) := by
      refine ⟨_, rfl, ?_, ?_⟩
      · rw [Array.toList_append]; exact triples_app _ ht
      · intro pos' cv hcv q hq'
        rw [Array.toList_append] at hcv
        rcases codeAmong_app _ ht cv hcv with h1 | ⟨h1, h2, rfl⟩
        · exact tk'.rec (hqs pos' cv h1 q hq')
        · rw [← h1, ← h2, hq] at hq'; cases hq'; exact hrec
    obtain ⟨S1, _⟩ := S.toHS.updExt (tk := tk) hP hx htb hrep
    have a1 : AfterC H s (H.set P (.tab qs)) { s with heap := h', toks := tk } := .updExt hP hx htb
    rw [hset] at S1 a1
    have T1 : St C m H { s with heap := h', toks := tk } := by
      obtain ⟨mr, hn, kn⟩ := S.ns
      have hl : C.env.locals ≠ P := fun q => by have := S.loc; rw [q, hP] at this; cases this
      exact ⟨S1, ⟨mr, hn.extBut hx hl, kn.keep tk'⟩, S.loc, S.locb, S.frs.after a1⟩
    exact ⟨_, m, H, .fn (Heap.get?_push_size _ rfl) (hrec.push _), T1.more (tk := tk) (keep_push _ _), a1.after.then T1 (.more (tk := tk) (keep_push _ _)), h⟩
/-- a lambda called -/
noncomputable abbrev fnData (name qual : Str) (params : Arguments) (body : PySem.Expr) (scope : Scope) (cl : List (Str × Addr)) (pm ctv : Value) (c : Addr) : FuncData := kla_fn name qual params body scope cl pm (.ref c) ctv
theorem CALL_fn {name qual : Str} {params : Arguments} {body : PySem.Expr} {scope : Scope} {cl : List (Str × Addr)} {vs : List V} {kws binds : List (Str × V)} {m' : Loc} {Q : V → CH → Prop}
    (hlim : C.h₀.NoLimit) {n : Nat} (hA : AOK C A (n + 1)) (hb : ∀ pm c ctv, Binds C H (fnData name qual params body scope cl pm ctv c) vs kws binds)
    (hok : (scope.names.all (fun x => x.2 != .cell) && binds.all (fun x => scope.names.lookup x.1 == some .local) && !scope.isCoroutine && !scope.isGenerator && scope.kind == .function) = true) (hm : m' = binds.reverse)
    (h : ∀ L a c, H L = none → C.h₀.get? L = none → AOK (C.at (envX qual scope L a (.ref c) cl)) (A.deeper (envX qual scope L a (.ref c) cl)) n → EV (C.at (envX qual scope L a (.ref c) cl)) (A.deeper (envX qual scope L a (.ref c) cl)) body m' H fun v _ H' => Q v H') :
    CALL C A (.fn name qual params body scope cl) vs kws H Q := fun s rf rs rkw S F hf hv hkw => by
  simp only [Bool.and_eq_true, List.all_eq_true, Bool.not_eq_true', beq_iff_eq, bne_iff_ne] at hok
  obtain ⟨⟨⟨⟨hcell, hloc⟩, hco⟩, hgen⟩, hk⟩ := hok
  obtain ⟨a, pm, c, ctv, rfl, ho, hcd⟩ := hf.fn_inv
  obtain ⟨rb, hB, hrb⟩ := hb pm c ctv s rs rkw S hv hkw
  have hloc' : ∀ x ∈ rb, scope.names.lookup x.1 = some .local := fun x hx => by
    have : x.1 ∈ binds.map (·.1) := hrb.1 ▸ List.mem_map_of_mem hx
    obtain ⟨y, hy, e⟩ := List.mem_map.mp this
    rw [← e]; exact hloc y hy
  refine kla_callFunE hA.room ho rfl hco hgen rfl hcd ?_
  refine hB _ _ _ _ (wpAny_newFunctionEnv hcell hloc' (fun h₁ hns hsb => ⟨(hlim.keeps S.base).fresh _ hsb, ?_⟩) hk)
  show codeAny _ _ (.expr body (envX qual scope s.heap.objs.size a (.ref c) cl)) _ _
  have hk₁ : ∀ b o, s.heap.get? b = some o → h₁.get? b = some o := fun b o e => hsb.extBut b o (Nat.ne_of_lt (Heap.lt_size e)) (Heap.get?_push_of_some _ e)
  have S₁ : St (C.at (envX qual scope s.heap.objs.size a (.ref c) cl)) m' H { s with heap := h₁, toks := s.toks + rb.length } := by
    refine ⟨(S.more hk₁).at, ⟨_, hns, fun x v e => ?_⟩, S.fresh, S.freshb, fun e he => ?_⟩
    · subst hm
      exact lookup_kws (hrb.rev.keep (.of_keep hk₁)) e
    · rcases List.mem_cons.mp he with rfl | he
      · obtain ⟨o', es, ep, ho', hd', _⟩ := hns
        exact ⟨hk, hgen, hco, _, o', es, ep, rfl, ho', hd', S.fresh, S.freshb⟩
      · exact F.keep (s' := { s with heap := h₁ }) (fun b o _ _ _ hn e _ => ⟨hn, o, hk₁ b o e, rfl⟩) e he
  refine kla_codeExpr (wpAny_noRaise (wpAny_mono (h _ a c S.fresh S.freshb hA.at _ S₁) ?_ fun _ _ x => x))
  rintro rv s' ⟨v, m₂, H₂, hv, S₂, af, q⟩
  exact ⟨v, H₂, hv, S₂.toHS.back, ⟨fun b o hn e => af.stay b o (Nat.ne_of_lt (Heap.lt_size e)) hn (hk₁ b o e), fun b o hn e => af.grow b o hn (hk₁ b o e), fun b o e => af.there b o (hk₁ b o e), af.drawn, af.os⟩, q⟩
theorem KP_lam {name qual : Str} {params : Arguments} {body : PySem.Expr} {scope : Scope} {cl : List (Str × Addr)} : KP C (.fn name qual params body scope cl) H := fun s rf S hf => by
  obtain ⟨a, pm, c, ctv, rfl, ho, hcd⟩ := hf.fn_inv
  exact ⟨.frame, looks_keeper_fn ho rfl⟩
end
end
end Mine
end
section
open PySem PySem.Calls PySem.W PyProof.Rows
set_option maxRecDepth 100000
namespace Mine
noncomputable section
noncomputable def setCells : List (Str × Addr) → (Str → Option V) → CH → CH
  | [], _, H => H
  | (n, c) :: r, f, H => (setCells r f H).set c (.cell (f n))
theorem setCells_low {L : Addr} : ∀ {cs : List (Str × Addr)} {f : Str → Option V} {H : CH}, (∀ q ∈ cs, L < q.2) → ∀ b, b ≤ L → setCells cs f H b = H b
  | [], _, _, _, _, _ => rfl
  | (n, c) :: r, f, H, h, b, hb => by
    unfold setCells
    have : b ≠ c := fun e => by have := h (n, c) List.mem_cons_self; subst e; exact absurd this (Nat.not_lt.mpr hb)
    rw [CH.set_ne this]
    exact setCells_low (fun q hq => h q (List.mem_cons_of_mem _ hq)) b hb
theorem look_one {x n : Str} {v : Value} : List.lookup x [(n, v)] = if x = n then some v else none := by
  rw [List.lookup_cons]
  by_cases hx : x = n
  · subst hx; simp
  · rw [beq_eq_false_iff_ne.mpr hx, if_neg hx]; rfl
theorem bindL_look {k : Str → Option NameKind} {x : Str} : ∀ (rb : List (Str × Value)) (m : Str → Option Value), bindL k rb m x = (((rb.filter fun p => k p.1 == some .local).reverse.lookup x).or (m x))
  | [], m => by simp [bindL]
  | (n, v) :: r, m => by
    unfold bindL
    rw [bindL_look r]
    by_cases h : k n = some .local
    · rw [if_pos h, List.filter_cons, if_pos (show (k n == some NameKind.local) = true from beq_iff_eq.mpr h), List.reverse_cons, List.lookup_append, look_one]
      by_cases hx : x = n
      · rw [if_pos hx, if_pos hx, Option.or_assoc]; rfl
      · rw [if_neg hx, if_neg hx, Option.or_none]
    · rw [if_neg h, List.filter_cons, if_neg (show ¬ (k n == some NameKind.local) = true from fun q => h (beq_iff_eq.mp q))]
theorem bindC_look {k : Str → Option NameKind} {x : Str} (hx : k x ≠ some .local) : ∀ (rb : List (Str × Value)) (m : Str → Option Value), bindC k rb m x = ((rb.reverse.lookup x).or (m x))
  | [], m => by simp [bindC]
  | (n, v) :: r, m => by
    unfold bindC
    rw [bindC_look hx r, List.reverse_cons, List.lookup_append, look_one]
    by_cases h : k n = some .local
    · have hn : x ≠ n := fun e => hx (e ▸ h)
      rw [if_pos h, if_neg hn, Option.or_none]
    · rw [if_neg h]
      by_cases hx' : x = n
      · rw [if_pos hx', if_pos hx', Option.or_assoc]; rfl
      · rw [if_neg hx', if_neg hx', Option.or_none]
section
variable {C : Cx} {A : Around} {m : Loc} {H : CH} {s : Shared} {K : Frag} {mg mb : Str → Option Value}
theorem lookup_pairs {h : Heap} {names : List Str} {vs : List V} {rs : List Value} (hv : VRs h vs rs) : KWs h (names.zip vs) (names.zip rs) := by
  induction names generalizing vs rs with
  | nil => exact ⟨rfl, .nil⟩
  | cons n names ih =>
    cases vs with
    | nil => have := hv.nil_inv; subst this; exact ⟨rfl, .nil⟩
    | cons v vs =>
      obtain ⟨r, rs, rfl, a, b⟩ := hv.cons_inv
      obtain ⟨h1, h2⟩ := ih b
      exact ⟨by simp only [List.zip_cons_cons, List.map_cons, h1], by simp only [List.zip_cons_cons, List.map_cons]; exact .cons a h2⟩
theorem KWs.filter {h : Heap} {p : Str → Bool} : ∀ {a : List (Str × V)} {b : List (Str × Value)}, KWs h a b → KWs h (a.filter fun q => p q.1) (b.filter fun q => p q.1)
  | [], b, k => by have := k.nil_inv; subst this; exact .nil
  | (x, v) :: a, b, k => by
    obtain ⟨k1, k2⟩ := k
    cases b with
    | nil => simp at k1
    | cons q b =>
      obtain ⟨y, r⟩ := q
      simp only [List.map_cons, List.cons.injEq] at k1 k2
      obtain ⟨rfl, k1⟩ := k1
      have ih := KWs.filter (p := p) ⟨k1, k2.tail⟩
      rw [List.filter_cons, List.filter_cons]
      by_cases hp : p y = true
      · rw [if_pos hp, if_pos hp]
        exact ⟨by simp only [List.map_cons, ih.1], by simp only [List.map_cons]; exact .cons k2.head ih.2⟩
      · rw [if_neg hp, if_neg hp]; exact ih
theorem opt_kws {h : Heap} {a : List (Str × V)} {b : List (Str × Value)} (k : KWs h a b) {x : Str} : OptR h (a.lookup x) (b.lookup x) := by
  cases e : a.lookup x with
  | some v => obtain ⟨r, hr, hv⟩ := lookup_kws k e; rw [hr]; exact hv
  | none =>
    have : b.lookup x = none := by
      obtain ⟨k1, k2⟩ := k
      rw [List.lookup_eq_none_iff] at e ⊢
      intro p hp
      have : p.1 ∈ b.map (·.1) := List.mem_map_of_mem hp
      rw [k1] at this
      obtain ⟨q, hq, e'⟩ := List.mem_map.mp this
      rw [← e']; exact e q hq
    rw [this]; trivial
theorem HS.cells {f : Str → Option V} (S : HS C H s) : ∀ {cs : List (Str × Addr)}, (∀ q ∈ cs, C.h₀.get? q.2 = none ∧ ∃ r, s.heap.IsCell q.2 r ∧ OptR s.heap (f q.1) r) → HS C (setCells cs f H) s
  | [], _ => S
  | (n, c) :: r, h => by
    unfold setCells
    obtain ⟨hb, rv, ⟨o, ho, hd⟩, hr⟩ := h (n, c) List.mem_cons_self
    exact (HS.cells S fun q hq => h q (List.mem_cons_of_mem _ hq)).adopt hb ho ⟨rv, hd, hr⟩
theorem CALL_cells {f : Addr} {name qual : Str} {params : Arguments} {body : List Stmt} {scope : Scope} {dV kV doc pm cdv ct oc : Value} {an od : Option Addr} {osl : Array (Option Value)} {vs : List V} {names : List Str} {m' : Loc} {Q : V → CH → Prop}
    (B : Bs C.h₀ K mg mb) (ho : K.lookup f = some ⟨oc, od, .func (fnX name qual params body scope [] dV kV doc pm an cdv ct), osl⟩) (hcd : codeIn K cdv qual = true) {n : Nat} (hA : AOK C A (n + 1))
    (hlen : vs.length = names.length) (hb : ∀ rs : List Value, rs.length = names.length → bindArgs (fnX name qual params body scope [] dV kV doc pm an cdv ct) ⟨rs, []⟩ = pure (names.zip rs))
    (hok : ∀ L, (names.all (fun x => scope.names.lookup x == some .local || (scope.names.lookup x == some .cell && ((cellsFrom (L + 1) scope.names []).lookup x).isSome)) && (cellsFrom (L + 1) scope.names []).all (fun q => scope.names.lookup q.1 == some .cell && (cellsFrom (L + 1) scope.names []).lookup q.1 == some q.2) && !scope.isCoroutine && !scope.isGenerator && scope.kind == .function) = true)
    (hm : m' = ((names.zip vs).filter fun p => scope.names.lookup p.1 == some .local).reverse)
    (h : ∀ L, (∀ b, L ≤ b → H b = none ∧ C.h₀.get? b = none) → AOK (C.at (callEnvC (fnX name qual params body scope [] dV kV doc pm an cdv ct) L f)) (A.deeper (callEnvC (fnX name qual params body scope [] dV kV doc pm an cdv ct) L f)) n →
      EX (C.at (callEnvC (fnX name qual params body scope [] dV kV doc pm an cdv ct) L f)) (A.deeper (callEnvC (fnX name qual params body scope [] dV kV doc pm an cdv ct) L f)) body m'
        (setCells (cellsFrom (L + 1) scope.names []) (fun x => (names.zip vs).reverse.lookup x) H) fun fl _ H' => Q (retOf fl) H') :
    CALL C A (.con (.ref f)) vs [] H Q := fun s rf rs rkw S F hf hv hkw => by
  have := hkw.nil_inv; subst this
  rw [hf.con_inv]
  have hok' := hok s.heap.objs.size
  simp only [Bool.and_eq_true, List.all_eq_true, Bool.not_eq_true', beq_iff_eq, Bool.or_eq_true] at hok'
  obtain ⟨⟨⟨⟨h1, h2⟩, h3⟩, h4⟩, h5⟩ := hok'
  have hpk := lookup_pairs (names := names) hv
  refine codeAny_call_cells hA.room (S.base _ _ (B.X _ _ ho)) rfl (B.lim.keeps S.base) ((codeRec_of B.X hcd).keeps S.base) rfl (hb rs (by rw [← hv.length, hlen])) rfl (fun x hx => ?_) (fun s₁ x => ?_) h3 h4 h5
  · have hx' : x.1 ∈ names := by
      have := List.mem_map_of_mem (f := (·.1)) hx
      rw [List.map_fst_zip] at this
      · exact this
      · rw [← hlen, hv.length]; exact Nat.le_refl _
    exact h1 x.1 hx'
  · generalize hL : s.heap.objs.size = L at *
    have hfr : ∀ b, L ≤ b → H b = none ∧ C.h₀.get? b = none := fun b hb => by
      have hs0 : s.heap.get? b = none := by
        cases e : s.heap.get? b with
        | none => rfl
        | some o => have := Heap.lt_size e; rw [hL] at this; exact absurd this (Nat.not_lt.mpr hb)
      refine ⟨?_, ?_⟩
      · cases e : H b with
        | none => rfl
        | some c => obtain ⟨_, o, ho', _⟩ := S.own b c e; rw [hs0] at ho'; cases ho'
      · cases e : C.h₀.get? b with
        | none => rfl
        | some o => rw [S.base b o e] at hs0; cases hs0
    have hkeep := x.toInCall.keep
    have tk' : TupKeep s.heap s₁.heap := .of_keep hkeep
    obtain ⟨h₁, tk₁, rfl⟩ := x.toInCall.same
    have S₁ : HS C H { s with heap := h₁, toks := tk₁ } := S.more hkeep
    have hcs : (callEnvC (fnX name qual params body scope [] dV kV doc pm an cdv ct) L f).cells = cellsFrom (L + 1) scope.names [] := rfl
    have hab : ∀ q ∈ cellsFrom (L + 1) scope.names [], L < q.2 := fun q hq => x.above q.1 q.2 hq
    have hrep : HS C (setCells (cellsFrom (L + 1) scope.names []) (fun x => (names.zip vs).reverse.lookup x) H) { s with heap := h₁, toks := tk₁ } := by
      refine S₁.cells fun q hq => ⟨(hfr q.2 (Nat.le_of_lt (hab q hq))).2, _, x.cell q.1 q.2 (h2 q hq).2, ?_⟩
      rw [bindC_look (by show scope.names.lookup q.1 ≠ some .local; rw [(h2 q hq).1]; decide), Option.or_none]
      exact opt_kws (hpk.keep tk').rev
    have low := fun b (hb : b ≤ L) => setCells_low (f := fun x => (names.zip vs).reverse.lookup x) (H := H) hab b hb
    have hlt : ∀ {b o}, s.heap.get? b = some o → b ≤ L := fun {b o} e => by rw [← hL]; exact Nat.le_of_lt (Heap.lt_size e)
    have a₁ : AfterC H s (setCells (cellsFrom (L + 1) scope.names []) (fun x => (names.zip vs).reverse.lookup x) H) { s with heap := h₁, toks := tk₁ } :=
      ⟨fun b o hn e => ⟨o, hkeep b o e, .refl o⟩, fun b o hn e => by rw [low b (hlt e)]; exact hn, fun b o e => ⟨o, hkeep b o e⟩, rfl, rfl⟩
    have T₁ : St (C.at (callEnvC (fnX name qual params body scope [] dV kV doc pm an cdv ct) L f)) m' (setCells (cellsFrom (L + 1) scope.names []) (fun x => (names.zip vs).reverse.lookup x) H) { s with heap := h₁, toks := tk₁ } := by
      refine ⟨⟨hrep.base, hrep.own, hrep.gens⟩, ⟨_, x.toInCall.ns, fun y v e => ?_⟩, ?_, (hfr L (Nat.le_refl _)).2, fun e he => ?_⟩
      · subst hm
        rw [bindL_look, Option.or_none]
        exact lookup_kws ((hpk.filter (p := fun y => scope.names.lookup y == some .local)).rev.keep tk') e
      · show setCells _ _ H L = none
        rw [low L (Nat.le_refl _)]; exact (hfr L (Nat.le_refl _)).1
      · rcases List.mem_cons.mp he with rfl | he
        · obtain ⟨o', es, ep, ho', hd', _⟩ := x.toInCall.ns
          refine ⟨h5, h4, h3, L, o', es, ep, rfl, ho', hd', ?_, (hfr L (Nat.le_refl _)).2⟩
          rw [low L (Nat.le_refl _)]; exact (hfr L (Nat.le_refl _)).1
        · exact F.after a₁ e he
    refine wpAny_noRaise (wpAny_mono (h L hfr hA.at _ T₁) ?_ fun _ _ x => x)
    rintro fl s' ⟨f', m₂, H₂, hfl, S₂, af, q⟩
    have a : AfterC H s H₂ s' := by
      have hl0 : s.heap.get? L = none := by
        cases e : s.heap.get? L with
        | none => rfl
        | some o => have := Heap.lt_size e; rw [hL] at this; exact absurd this (Nat.lt_irrefl _)
      exact a₁.thenAt (C := C.at (callEnvC (fnX name qual params body scope [] dV kV doc pm an cdv ct) L f)) af hl0
    cases f' with
    | ret v => obtain ⟨r, rfl, hr⟩ := hfl; exact ⟨v, H₂, hr, S₂.toHS.back, a, q⟩
    | next => cases hfl; exact ⟨V.none, H₂, .con, S₂.toHS.back, a, q⟩
    | brk => cases hfl; exact ⟨V.none, H₂, .con, S₂.toHS.back, a, q⟩
    | cont => cases hfl; exact ⟨V.none, H₂, .con, S₂.toHS.back, a, q⟩
theorem bz1 {fd : FuncData} {x : Str} (h : ∀ a, bindArgs fd ⟨[a], []⟩ = pure [(x, a)] := by intro _; with_unfolding_all rfl) : ∀ rs : List Value, rs.length = [x].length → bindArgs fd ⟨rs, []⟩ = pure ([x].zip rs)
  | [a], _ => h a
theorem bz2 {fd : FuncData} {x y : Str} (h : ∀ a b, bindArgs fd ⟨[a, b], []⟩ = pure [(x, a), (y, b)] := by intro _ _; with_unfolding_all rfl) : ∀ rs : List Value, rs.length = [x, y].length → bindArgs fd ⟨rs, []⟩ = pure ([x, y].zip rs)
  | [a, b], _ => h a b
end
end
end Mine
end
section
open PySem PySem.Calls PySem.W PyProof.Rows
set_option maxRecDepth 100000
namespace Mine
noncomputable section
noncomputable def getI (kvs : List (Int × V)) (k : Int) : Option V := kvs.lookup k
noncomputable def putI (kvs : List (Int × V)) (k : Int) (v : V) : List (Int × V) :=
  if kvs.any (fun kv => kv.1 == k) then kvs.map (fun kv => if kv.1 = k then (kv.1, v) else kv) else kvs ++ [(k, v)]
noncomputable def dropI (kvs : List (Int × V)) (k : Int) : List (Int × V) := kvs.filter fun kv => kv.1 != k
section
variable {C : Cx} {A : Around} {m : Loc} {H : CH} {s : Shared} {K : Frag} {mg mb : Str → Option Value}
/-- the raw pairs -/
noncomputable def rawOf (kvs : List (Int × V)) (rs : List Value) : List (Int × Value) := (kvs.map (·.1)).zip rs
theorem valueAt_lookup {k : Int} : ∀ {l : List (Int × Value)}, valueAt l k = l.lookup k
  | [] => rfl
  | (a, v) :: l => by
    unfold valueAt
    rw [List.find?_cons, List.lookup_cons]
    by_cases h : a = k
    · subst h; simp
    · have h' : k ≠ a := fun e => h e.symm
      simp only [h, decide_false, beq_eq_false_iff_ne.mpr h']
      exact valueAt_lookup
theorem lookup_raw {h : Heap} {k : Int} : ∀ {kvs : List (Int × V)} {rs : List Value}, VRs h (kvs.map (·.2)) rs → OptR h (kvs.lookup k) ((rawOf kvs rs).lookup k)
  | [], rs, r => by have := r.nil_inv; subst this; trivial
  | (a, v) :: kvs, rs, r => by
    obtain ⟨y, ys, rfl, p, q⟩ := r.cons_inv
    show OptR h (List.lookup k ((a, v) :: kvs)) (List.lookup k ((a, y) :: rawOf kvs ys))
    rw [List.lookup_cons, List.lookup_cons]
    by_cases h : k = a
    · subst h; simp only [beq_self_eq_true]; exact p
    · simp only [beq_eq_false_iff_ne.mpr h]; exact lookup_raw q
theorem raw_length {h : Heap} {kvs : List (Int × V)} {rs : List Value} (r : VRs h (kvs.map (·.2)) rs) : (rawOf kvs rs).length = kvs.length := by
  have := r.length; unfold rawOf; simp at this ⊢; omega
theorem raw_keys {h : Heap} {kvs : List (Int × V)} {rs : List Value} (r : VRs h (kvs.map (·.2)) rs) : (rawOf kvs rs).map (·.1) = kvs.map (·.1) := by
  unfold rawOf; rw [List.map_fst_zip]; have := r.length; simp at this ⊢; omega
theorem VRs.of_raw {h : Heap} : ∀ {kvs : List (Int × V)} {l : List (Int × Value)}, l.map (·.1) = kvs.map (·.1) → VRs h (kvs.map (·.2)) (l.map (·.2)) → l = rawOf kvs (l.map (·.2))
  | [], l, e, _ => by have := List.map_eq_nil_iff.mp e; subst this; rfl
  | (a, v) :: kvs, l, e, r => by
    cases l with
    | nil => simp at e
    | cons q l =>
      obtain ⟨b, y⟩ := q
      simp only [List.map_cons, List.cons.injEq] at e r
      obtain ⟨rfl, e⟩ := e
      show (b, y) :: l = (b, y) :: rawOf kvs (l.map (·.2))
      rw [← VRs.of_raw e r.tail]
theorem put_raw {h : Heap} {k : Int} {v : V} {r : Value} (hv : VR h v r) {kvs : List (Int × V)} {rs : List Value} (hr : VRs h (kvs.map (·.2)) rs) :
    ∃ rs', stored (rawOf kvs rs) k r = rawOf (putI kvs k v) rs' ∧ VRs h ((putI kvs k v).map (·.2)) rs' := by
  have hany : (rawOf kvs rs).any (fun kv => decide (kv.1 = k)) = kvs.any (fun kv => kv.1 == k) := by
    have h1 : ∀ l : List (Int × Value), l.any (fun kv => decide (kv.1 = k)) = (l.map (·.1)).any (fun a => decide (a = k)) := fun l => by rw [List.any_map]; rfl
    have h2 : kvs.any (fun kv => kv.1 == k) = (kvs.map (·.1)).any (fun a => decide (a = k)) := by
      rw [List.any_map]; congr 1
    rw [h1, h2, raw_keys hr]
  have main : ∀ {kvs : List (Int × V)} {rs : List Value}, VRs h (kvs.map (·.2)) rs → VRs h ((kvs.map fun kv => if kv.1 = k then (kv.1, v) else kv).map (·.2)) (((rawOf kvs rs).map fun kv => if kv.1 = k then (kv.1, r) else kv).map (·.2)) := by
    intro kvs
    induction kvs with
    | nil => intro rs q; have := q.nil_inv; subst this; exact .nil
    | cons p kvs ih =>
      intro rs q
      obtain ⟨a, w⟩ := p
      obtain ⟨y, ys, rfl, p1, p2⟩ := q.cons_inv
      show VRs h (_ :: _) (_ :: _)
      refine .cons ?_ (ih p2)
      by_cases hk : a = k
      · simp only [hk, if_true]; exact hv
      · simp only [hk, if_false]; exact p1
  have keys : ∀ {kvs : List (Int × V)} {rs : List Value}, VRs h (kvs.map (·.2)) rs → (((rawOf kvs rs).map fun kv => if kv.1 = k then (kv.1, r) else kv).map (·.1)) = ((kvs.map fun kv => if kv.1 = k then (kv.1, v) else kv).map (·.1)) := by
    intro kvs rs q
    have e1 : ∀ l : List (Int × Value), ((l.map fun kv => if kv.1 = k then (kv.1, r) else kv).map (·.1)) = l.map (·.1) := fun l => by
      rw [List.map_map]; congr 1; funext kv; simp only [Function.comp]; split <;> rfl
    have e2 : ∀ l : List (Int × V), ((l.map fun kv => if kv.1 = k then (kv.1, v) else kv).map (·.1)) = l.map (·.1) := fun l => by
      rw [List.map_map]; congr 1; funext kv; simp only [Function.comp]; split <;> rfl
    rw [e1, e2, raw_keys q]
  unfold stored putI
  rw [hany]
  by_cases ha : (kvs.any fun kv => kv.1 == k) = true
  · rw [if_pos ha, if_pos ha]
    exact ⟨_, VRs.of_raw (keys hr) (main hr), main hr⟩
  · rw [if_neg ha, if_neg ha]
    refine ⟨rs ++ [r], ?_, ?_⟩
    · unfold rawOf
      rw [List.map_append, List.zip_append (by have := hr.length; simp at this ⊢; omega)]; rfl
    · rw [List.map_append]; exact hr.append (.cons hv .nil)
theorem drop_raw {h : Heap} {k : Int} {kvs : List (Int × V)} {rs : List Value} (hr : VRs h (kvs.map (·.2)) rs) :
    ∃ rs', without (rawOf kvs rs) k = rawOf (dropI kvs k) rs' ∧ VRs h ((dropI kvs k).map (·.2)) rs' := by
  induction kvs generalizing rs with
  | nil => have := hr.nil_inv; subst this; exact ⟨[], rfl, .nil⟩
  | cons p kvs ih =>
    obtain ⟨a, w⟩ := p
    obtain ⟨y, ys, rfl, p1, p2⟩ := hr.cons_inv
    obtain ⟨rs', e, q⟩ := ih p2
    show ∃ rs', without ((a, y) :: rawOf kvs ys) k = rawOf (dropI ((a, w) :: kvs) k) rs' ∧ _
    unfold without dropI at *
    rw [List.filter_cons, List.filter_cons, e]
    by_cases hk : a = k
    · subst hk; simp only [ne_eq, not_true_eq_false, decide_false, bne_self_eq_false, Bool.false_eq_true, if_false]; exact ⟨rs', rfl, q⟩
    · have hb : (a != k) = true := bne_iff_ne.mpr hk
      simp only [ne_eq, hk, not_false_eq_true, decide_true, hb, if_true]
      exact ⟨y :: rs', rfl, .cons p1 q⟩
theorem HS.dict (S : HS C H s) {d : Addr} {kvs : List (Int × V)} {ep : Nat} (hd : H d = some (.dict kvs ep)) : ∃ rs, s.heap.DictAt (intKind C.prog C.w) d (rawOf kvs rs) ep ∧ VRs s.heap (kvs.map (·.2)) rs := by
  obtain ⟨_, o, ho, he, es, rs, hdt, hk, hp, hn, hr⟩ := S.own d _ hd
  exact ⟨rs, ⟨o, es, ho, he, hdt, hk, hp, by rw [show (rawOf kvs rs).map (·.1) = kvs.map (·.1) from raw_keys hr]; exact hn⟩, hr⟩
theorem dict_rep {h : Heap} {d : Addr} {kvs : List (Int × V)} {l : List (Int × Value)} {rs : List Value} {h₁ : Heap} (hm : h.DictOf (intKind C.prog C.w) d l) (e : l = rawOf kvs rs) (hr : VRs h₁ (kvs.map (·.2)) rs) :
    ∃ o ep, h.get? d = some o ∧ ORep C h₁ (.dict kvs ep) o := by
  obtain ⟨o, es, ep, ho, he, hdt, hk, hp, hn⟩ := hm
  subst e
  exact ⟨o, ep, ho, he, es, rs, hdt, hk, hp, by rw [raw_keys hr] at hn; exact hn, hr⟩
theorem Bs.sysm (B : Bs C.h₀ K mg mb) (S : HS C H s) {d : Addr} {c : CObj} (hd : H d = some c) : (d == sysModules) = false := by
  obtain ⟨hb, _⟩ := S.own d c hd
  obtain ⟨o, ho⟩ := B.sys
  refine beq_eq_false_iff_ne.mpr fun e => ?_
  rw [e, ho] at hb; cases hb
theorem map_of {d : Addr} {kvs : List (Int × V)} {rs : List Value} {ep : Nat} (x : s.heap.DictAt (intKind C.prog C.w) d (rawOf kvs rs) ep) : s.heap.MapOf (intKind C.prog C.w) d (fun k => (rawOf kvs rs).lookup k) := by
  have := x.dictOf.mapOf
  rwa [show valueAt (rawOf kvs rs) = fun k => (rawOf kvs rs).lookup k from funext fun k => valueAt_lookup] at this
variable {d : Addr} {kvs : List (Int × V)} {ep : Nat} {k : Int} {Q : V → Loc → CH → Prop}
theorem EV_dict {p : Pos} (h : ∀ a, H a = none → C.h₀.get? a = none → Q (.ref a) m (H.set a (.dict [] 0))) : EV C A (.Dict [] [] p) m H Q := fun s S =>
  wpAny_Dict_empty ⟨_, m, _, .ref, S.alloc (tk := s.toks) (c := .dict [] 0) ⟨⟨rfl, rfl, rfl⟩, #[], [], rfl, fun _ he => by simp at he, .nil, .nil, .nil⟩, .alloc, h _ S.toHS.fresh S.toHS.freshb⟩
theorem sub_dict {value slice : PySem.Expr} {v : V} (hd : H d = some (.dict kvs ep)) (hv : kvs.lookup k = some v) (h : Q v m H) (hs : NoSlice slice := by intro _ _; with_unfolding_all rfl) : O2 C A (subscriptTail value slice) (.ref d) (.int k) m H Q := fun s r q S hr hq => by
  rw [hr.ref_inv]; obtain ⟨u, rfl⟩ := hq.int_inv
  obtain ⟨rs, hD, hrs⟩ := S.toHS.dict hd
  have := lookup_raw (k := k) hrs
  rw [hv] at this
  obtain ⟨y, hy, hvy⟩ := this.some_inv
  exact tail_any hD.dictOf.typeIs slot_dict_getitem.lookup (wpAny_getItem_of (knd := intKind C.prog C.w) (intKind_is _ _ _ _) (map_of hD) hy (.same S hvy h _)) (hs _ _)
theorem set_dict {v : V} {QU : Loc → CH → Prop} (hd : H d = some (.dict kvs ep)) (hsz : kvs.length ≤ sizeLine) (h : ∀ ep', QU m (H.set d (.dict (putI kvs k v) ep'))) : O3 C A setItem (.ref d) (.int k) v m H QU := fun s r q p S hr hq hp => by
  rw [hr.ref_inv]; obtain ⟨u, rfl⟩ := hq.int_inv
  obtain ⟨rs, hD, hrs⟩ := S.toHS.dict hd
  obtain ⟨rs', e, hrs'⟩ := put_raw (k := k) hp hrs
  refine wpAny_setItem_pairs (knd := intKind C.prog C.w) (intKind_is _ _ _ _) hD.dictOf (fun h' hm hs => ?_) (by rw [raw_length hrs]; exact hsz)
  obtain ⟨o, ep', ho, hrep⟩ := dict_rep (C := C) hm e hrs'
  exact ⟨m, _, S.upd (tk := s.toks + 1) hd hs ho hrep, .upd (tk := s.toks + 1) hd hs ho, h ep'⟩
theorem O2_in_dict (B : Bs C.h₀ K mg mb) (hd : H d = some (.dict kvs ep)) (h : Q (.bool (kvs.lookup k).isSome) m H) : O2 C A (compareOp .In) (.int k) (.ref d) m H Q := fun s q r S hq hr => by
  rw [hr.ref_inv]; obtain ⟨u, rfl⟩ := hq.int_inv
  obtain ⟨rs, hD, hrs⟩ := S.toHS.dict hd
  refine wpAny_in_of (knd := intKind C.prog C.w) (intKind_is _ _ _ _) (B.sysm S.toHS hd) (map_of hD) ?_
  have e : ((rawOf kvs rs).lookup k).isSome = (kvs.lookup k).isSome := by
    have := lookup_raw (k := k) hrs
    cases e1 : kvs.lookup k <;> cases e2 : (rawOf kvs rs).lookup k <;> rw [e1, e2] at this <;> first | rfl | exact this.elim
  rw [e]; exact .same S .con h _
theorem O2_notin_dict (B : Bs C.h₀ K mg mb) (hd : H d = some (.dict kvs ep)) (h : Q (.bool (!(kvs.lookup k).isSome)) m H) : O2 C A (compareOp .NotIn) (.int k) (.ref d) m H Q := fun s q r S hq hr => by
  rw [hr.ref_inv]; obtain ⟨u, rfl⟩ := hq.int_inv
  obtain ⟨rs, hD, hrs⟩ := S.toHS.dict hd
  have e : ((rawOf kvs rs).lookup k).isSome = (kvs.lookup k).isSome := by
    have := lookup_raw (k := k) hrs
    cases e1 : kvs.lookup k <;> cases e2 : (rawOf kvs rs).lookup k <;> rw [e1, e2] at this <;> first | rfl | exact this.elim
  rw [← e] at h
  exact wpAny_notIn_of (knd := intKind C.prog C.w) (intKind_is _ _ _ _) (B.sysm S.toHS hd) (map_of hD) (.same S .con h _)
theorem GM_dict {name : Str} {id : String} {Q : V → List V → Prop} (hd : H d = some (.dict kvs ep)) (slot : Slot "dict" name id) (hty : typeOf (.builtin id) = pure (.type "method_descriptor")) (h : Q (.con (.builtin id)) [.ref d]) : GM C A (.ref d) name m H Q := fun s ro pl S hr => by
  rw [hr.ref_inv]
  obtain ⟨rs, ⟨o, es, ho, he, hdt, _⟩, _⟩ := S.toHS.dict hd
  exact getMethod_builtin ⟨_, ho, he.1⟩ F.plainAttrs_dict slot hty (fun a e => by cases e; exact ⟨_, ho, he.2.1⟩) ⟨_, _, .con, .cons .ref .nil, rfl, rfl, rfl, rfl, h⟩
theorem CV_get (B : Bs C.h₀ K mg mb) (hd : H d = some (.dict kvs ep)) (h : Q ((kvs.lookup k).getD V.none) m H) : CV C A (.con (.builtin "dict.get")) [.ref d, .int k] [] m H Q := fun s rf rs rkw S hf hva hk => by
  have := hk.nil_inv; subst this
  rw [hf.con_inv]
  obtain ⟨a, b, rfl, ha, hb⟩ := two_inv hva
  rw [ha.ref_inv]; obtain ⟨u, rfl⟩ := hb.int_inv
  obtain ⟨rs, hD, hrs⟩ := S.toHS.dict hd
  refine call_meetsIn F.slot_dict_get hD.dictOf.typeIs F.entry_dict_get (F.args_dict_get_2 _ _) (meets_dict_get (intKind C.prog C.w) d (intKind_is _ _ _ _) (B.sysm S.toHS hd)) ⟨_, map_of hD, ?_⟩
  have := lookup_raw (k := k) hrs
  cases e1 : kvs.lookup k with
  | none =>
    cases e2 : (rawOf kvs rs).lookup k with
    | none => rw [e1] at h; exact .same S .con h _
    | some => rw [e1, e2] at this; exact this.elim
  | some v =>
    rw [e1] at this h
    obtain ⟨y, hy, hvy⟩ := this.some_inv
    simp only [hy, Option.getD_some]
    exact .same S hvy h _
theorem CV_get2 {dv : V} (B : Bs C.h₀ K mg mb) (hd : H d = some (.dict kvs ep)) (h : Q ((kvs.lookup k).getD dv) m H) : CV C A (.con (.builtin "dict.get")) [.ref d, .int k, dv] [] m H Q := fun s rf rs rkw S hf hva hk => by
  have := hk.nil_inv; subst this
  rw [hf.con_inv]
  obtain ⟨a, b, c, rfl, ha, hb, hc⟩ := three_inv hva
  rw [ha.ref_inv]; obtain ⟨u, rfl⟩ := hb.int_inv
  obtain ⟨rs, hD, hrs⟩ := S.toHS.dict hd
  refine call_meetsIn F.slot_dict_get hD.dictOf.typeIs F.entry_dict_get (F.args_dict_get_3 _ _ _) (meets_dict_get_default (intKind C.prog C.w) d (intKind_is _ _ _ _) (B.sysm S.toHS hd) c) ⟨_, map_of hD, ?_⟩
  have := lookup_raw (k := k) hrs
  cases e1 : kvs.lookup k with
  | none =>
    cases e2 : (rawOf kvs rs).lookup k with
    | none => rw [e1] at h; exact .same S hc h _
    | some => rw [e1, e2] at this; exact this.elim
  | some v =>
    rw [e1] at this h
    obtain ⟨y, hy, hvy⟩ := this.some_inv
    simp only [hy, Option.getD_some]
    exact .same S hvy h _
end
end
end Mine
end
section
open PySem PySem.Calls PySem.W PyProof.Rows
set_option maxRecDepth 100000
namespace Mine
noncomputable section
mutual
inductive DR (C : Cx) (H : CH) : V → Dat → Prop
  | none : DR C H V.none .none
  | int (i : Int) : DR C H (.int i) (.int i)
  | str (x : Str) : DR C H (.str x) (.str x)
  | tup {l : List V} {ds : List Dat} : DRs C H l ds → DR C H (.tup l) (.tuple ds)
  | list {a : Addr} {xs : List V} {ds : List Dat} : LAt C H a xs → DRs C H xs ds → DR C H (.ref a) (.list ds)
inductive DRs (C : Cx) (H : CH) : List V → List Dat → Prop
  | nil : DRs C H [] []
  | cons {v : V} {d : Dat} {vs : List V} {ds : List Dat} : DR C H v d → DRs C H vs ds → DRs C H (v :: vs) (d :: ds)
end
theorem DRs.map {C : Cx} {H : CH} {α : Type} {f : α → V} {g : α → Dat} : ∀ {l : List α}, (∀ a ∈ l, DR C H (f a) (g a)) → DRs C H (l.map f) (l.map g)
  | [], _ => .nil
  | a :: l, h => .cons (h a List.mem_cons_self) (DRs.map fun b hb => h b (List.mem_cons_of_mem _ hb))
theorem DRs.ints {C : Cx} {H : CH} (l : List Int) : DRs C H (l.map .int) (l.map .int) := .map fun a _ => .int a
section
variable {C : Cx} {A : Around} {m : Loc} {H : CH} {s : Shared} {K : Frag} {mg mb : Str → Option Value} {Q : V → Loc → CH → Prop}
mutual
theorem DR.reads (S : HS C H s) : ∀ {v : V} {d : Dat} {r : Value}, DR C H v d → VR s.heap v r → ∃ as, Reads s.heap r (kqdP d) as
  | _, _, r, .none, hv => by rw [hv.con_inv]; exact ⟨_, .none⟩
  | _, _, r, .int i, hv => by obtain ⟨t, rfl⟩ := hv.int_inv; exact ⟨_, .int i t⟩
  | _, _, r, .str x, hv => by obtain ⟨t, rfl⟩ := hv.str_inv; exact ⟨_, .str x t⟩
  | _, _, r, .tup q, hv => by
    obtain ⟨a, items, n, rfl, ho, hs⟩ := hv.tup_inv
    obtain ⟨as, h⟩ := DRs.reads S q hs
    rw [kqdP]; exact ⟨as, reads_tuple_at ho rfl rfl h⟩
  | _, _, r, .list hl q, hv => by
    rw [hv.ref_inv]
    obtain ⟨items, n, hL, hvs, hz⟩ := S.list hl
    obtain ⟨as, h⟩ := DRs.reads S q hvs
    rw [kqdP]; exact ⟨_, reads_list_at hL rfl rfl h⟩
theorem DRs.reads (S : HS C H s) : ∀ {vs : List V} {ds : List Dat} {rs : List Value}, DRs C H vs ds → VRs s.heap vs rs → ∃ as, ReadsAll s.heap rs (kqdPs ds) as
  | _, _, rs, .nil, hv => by have := hv.nil_inv; subst this; exact ⟨_, .nil⟩
  | _, _, rs, .cons d q, hv => by
    obtain ⟨y, ys, rfl, a, b⟩ := hv.cons_inv
    obtain ⟨as, h1⟩ := DR.reads S d a
    obtain ⟨bs, h2⟩ := DRs.reads S q b
    rw [kqdPs]; exact ⟨_, .cons h1 h2⟩
end
theorem O2_eqd {v w : V} {d e : Dat} (hd : DR C H v d) (he : DR C H w e) (kd : kqdOk 8 d = true) (ke : kqdOk 8 e = true) (hu : A.units + 10 < cLine) (h : ∀ b, (b = true ↔ d = e) → Q (.bool b) m H) : O2 C A (compareOp .Eq) v w m H Q := fun s r q S hr hq => by
  obtain ⟨as, ra⟩ := hd.reads S.toHS hr
  obtain ⟨bs, rb⟩ := he.reads S.toHS hq
  have la := kqd_lay 8 d kd
  have lb := kqd_lay 8 e ke
  exact SeqAt.compareEq_reads ra rb la.1 lb.1 (by have := la.2; have := lb.2; omega) (.here S .con (h _ (kqd_eqv 8 d e 8 kd ke)))
theorem O2_ned {v w : V} {d e : Dat} (hd : DR C H v d) (he : DR C H w e) (kd : kqdOk 8 d = true) (ke : kqdOk 8 e = true) (hu : A.units + 10 < cLine) (h : ∀ b, (b = true ↔ d ≠ e) → Q (.bool b) m H) : O2 C A (compareOp .NotEq) v w m H Q := fun s r q S hr hq => by
  obtain ⟨as, ra⟩ := hd.reads S.toHS hr
  obtain ⟨bs, rb⟩ := he.reads S.toHS hq
  have la := kqd_lay 8 d kd
  have lb := kqd_lay 8 e ke
  have k := kqd_eqv 8 d e 8 kd ke
  exact SeqAt.compareNe_reads ra rb la.1 lb.1 (by have := la.2; have := lb.2; omega) (.here S .con (h _ (by rw [Bool.not_eq_true', ← Bool.not_eq_true, k])))
theorem O2_notinl {l : Addr} {xs : List V} {v : V} {ds : List Dat} {d : Dat} (hl : LAt C H l xs) (hds : DRs C H xs ds) (hd : DR C H v d) (kds : ∀ e ∈ ds, kqdOk 8 e = true) (kd : kqdOk 8 d = true) (hu : A.units + 10 < cLine)
    (h : ∀ b, (b = true ↔ d ∉ ds) → Q (.bool b) m H) : O2 C A (compareOp .NotIn) v (.ref l) m H Q := fun s q r S hq hr => by
  obtain ⟨as, ra⟩ := (DR.list hl hds).reads S.toHS hr
  obtain ⟨bs, rb⟩ := hd.reads S.toHS hq
  rw [kqdP] at ra
  have l := kqd_layL kds
  have ld := kqd_lay 8 d kd
  have k := kqd_any ds d kds kd
  refine SeqAt.notIn_list_reads ra rb l.1 ld.1 ?_ (.here S .con (h _ (by rw [Bool.not_eq_true', ← Bool.not_eq_true, k])))
  have := Nat.min_le_right (PyData.depthAll (kqdPs ds)) (kqdP d).depth
  have := ld.2; omega
variable {a : Addr} {T : Int → Bool} {n : Nat} {k : Int}
theorem HS.set (S : HS C H s) (ha : H a = some (.set T n)) : s.heap.SetOf (intKind C.prog C.w) a T n := by
  obtain ⟨_, o, ho, he, es, ep, t, hd, r⟩ := S.own a _ ha
  exact ⟨o, es, ep, t, ho, he, hd, r⟩
theorem set_rep {h : Heap} (x : h.SetOf (intKind C.prog C.w) a T n) {h₁ : Heap} : ∃ o, h.get? a = some o ∧ ORep C h₁ (.set T n) o := by
  obtain ⟨o, es, ep, t, ho, he, hd, r⟩ := x
  exact ⟨o, ho, he, es, ep, t, hd, r⟩
theorem CV_set0 (h : ∀ a, H a = none → C.h₀.get? a = none → Q (.ref a) m (H.set a (.set (fun _ => false) 0))) : CV C A (.con (.type "set")) [] [] m H Q := fun s rf rs rkw S hf hva hk => by
  have := hk.nil_inv; subst this
  rw [hf.con_inv]
  have := hva.nil_inv; subst this
  refine call_set_0 fun led => ?_
  exact ⟨_, m, _, .ref, S.alloc (tk := s.toks) (c := .set (fun _ => false) 0) ⟨⟨rfl, rfl, rfl⟩, #[], 0, .fresh 0 0 led, rfl, fun _ he => by simp at he, fun _ => by simp, by decide, by rfl, rfl⟩, .alloc, h _ S.toHS.fresh S.toHS.freshb⟩
theorem GM_set {Q : V → List V → Prop} (ha : H a = some (.set T n)) (h : Q (.con (.builtin "set.add")) [.ref a]) : GM C A (.ref a) "add" m H Q := fun s ro pl S hr => by
  rw [hr.ref_inv]
  exact getMethod_set_add (S.toHS.set ha) ⟨_, _, .con, .cons .ref .nil, rfl, rfl, rfl, rfl, h⟩
theorem CV_add (ha : H a = some (.set T n)) (hroom : n + 1 < scanBound) (h : Q V.none m (H.set a (.set (fun x => T x || decide (x = k)) (if T k then n else n + 1)))) : CV C A (.con (.builtin "set.add")) [.ref a, .int k] [] m H Q := fun s rf rs rkw S hf hva hk => by
  have := hk.nil_inv; subst this
  rw [hf.con_inv]
  obtain ⟨x, y, rfl, hx, hy⟩ := two_inv hva
  rw [hx.ref_inv]; obtain ⟨u, rfl⟩ := hy.int_inv
  refine call_set_add (knd := intKind C.prog C.w) (intKind_is _ _ _ _) rfl (S.toHS.set ha) hroom fun h' hs hm => ?_
  obtain ⟨o, ho, hrep⟩ := set_rep (C := C) hm (h₁ := s.heap)
  exact ⟨_, m, _, .con, S.upd (tk := s.toks + 1) ha hs ho hrep, .upd (tk := s.toks + 1) ha hs ho, h⟩
theorem O2_inset (ha : H a = some (.set T n)) (h : Q (.bool (T k)) m H) : O2 C A (compareOp .In) (.int k) (.ref a) m H Q := fun s q r S hq hr => by
  rw [hr.ref_inv]; obtain ⟨u, rfl⟩ := hq.int_inv
  exact wpAny_inSet_of (knd := intKind C.prog C.w) (intKind_is _ _ _ _) rfl (S.toHS.set ha) (.same S .con h _)
theorem ES_del {o i : PySem.Expr} {p p' : Pos} {Q : Fl → Loc → CH → Prop} (h : EV C A o m H fun ov m₁ H₁ => EV C A i m₁ H₁ fun iv m₂ H₂ => ∃ d k kvs ep, ov = .ref d ∧ iv = .int k ∧ H₂ d = some (.dict kvs ep) ∧ kvs.length ≤ sizeLine ∧ (kvs.lookup k).isSome = true ∧ ∀ ep', Q .next m₂ (H₂.set d (.dict (dropI kvs k) ep'))) :
    ES C A (.Delete [.Subscript o i p] p') m H Q := fun s S => by
  refine wpAny_Delete (wpAny_deleteEach_cons ?_)
  rw [arm_delete_Subscript]
  refine wpAny_bind (wpAny_mono (h s S) ?_ fun _ _ x => x)
  rintro a s₁ ⟨ov, m₁, H₁, ra, S₁, af₁, h₁⟩
  refine wpAny_bind (wpAny_holding (wpAny_mono (h₁ s₁ S₁) ?_ fun _ _ x => x))
  rintro b s₂ ⟨iv, m₂, H₂, rb, S₂, af₂, d, k, kvs, ep, rfl, rfl, hd, hsz, hk, hq⟩
  have ra₂ := ra.keep (af₂.tup S₁)
  obtain rfl := ra₂.ref_inv
  obtain ⟨u, rfl⟩ := rb.int_inv
  obtain ⟨rs, hD, hrs⟩ := S₂.toHS.dict hd
  have fin : wpAny (model C.prog C.w) A (delItem (.ref d) (.int k u)) (fun _ s' => PF C H s Q .next s') NoE s₂ := by
    unfold delItem
    try with_reducible refine wpAny_holding ?_
    refine wpAny_bind (wpAny_sequenceKey hD.dictOf.typeIs (by decide) ?_)
    have hthere : (valueAt (rawOf kvs rs) k).isSome = true := by
      rw [valueAt_lookup]
      have := lookup_raw (k := k) hrs
      cases e1 : kvs.lookup k with
      | none => rw [e1] at hk; cases hk
      | some v => rw [e1] at this; obtain ⟨y, hy, _⟩ := this.some_inv; rw [hy]; rfl
    refine wpAny_bind (wpAny_callSpecial?_slot (name := Str.ofString "__delitem__") hD.dictOf.typeIs PySem.F.slot_dict_delitem
      (call_meetsIn PySem.F.slot_dict_delitem hD.dictOf.typeIs PySem.F.entry_dict_delitem (PySem.F.args_dict_delitem_2 _ _) (meets_dict_delitem_pairs (intKind C.prog C.w) d (intKind_is _ _ _ _)) ⟨rawOf kvs rs, hD.dictOf, by rw [raw_length hrs]; exact hsz, hthere, fun h' hmm hs => ?_⟩))
    obtain ⟨rs', e, hrs'⟩ := drop_raw (k := k) hrs
    obtain ⟨o, ep', ho, hrep⟩ := dict_rep (C := C) hmm e hrs'
    exact wpAny_pure ⟨.next, m₂, _, rfl, S₂.upd (tk := s₂.toks + 1) hd hs ho hrep, (af₁.then S₁ af₂).then S₂ (.upd (tk := s₂.toks + 1) hd hs ho), hq ep'⟩
  refine wpAny_bind (wpAny_standAt (wpAny_bind (wpAny_holding (wpAny_mono fin (fun _ s₃ x => ?_) fun _ _ x => x))))
  have x' : wpAny (model C.prog C.w) A (deleteEach [] C.env) (fun _ s₁ => PF C H s Q .next s₁) NoE s₃ := wpAny_deleteEach_nil x
  exact fun Γ p hΓ => by rw [Sem.wp_release]; exact x'
end
end
end Mine
end
section
open PySem PySem.Calls PySem.W PyProof.Rows
set_option maxRecDepth 100000
namespace Mine
noncomputable section
noncomputable def putS : Loc → Str → V → Loc
  | [], x, v => [(x, v)]
  | (y, w) :: r, x, v => if y = x then (y, v) :: r else (y, w) :: putS r x v
theorem EsR.get {h : Heap} {x : Str} : ∀ {fs : Loc} {es : List DictEntry}, EsR h fs es → ∀ {v : V}, fs.lookup x = some v → ∃ r, getL x es = some (some r) ∧ VR h v r
  | [], [], _, v, e => by simp at e
  | (y, w) :: fs, en :: es, r, v, e => by
    obtain ⟨⟨t, hk⟩, hv, hr⟩ := r
    unfold getL
    rw [List.find?_cons, hk, show (Value.str y t).isStr x = (y == x) from rfl]
    rw [List.lookup_cons] at e
    by_cases hxy : x = y
    · subst hxy; simp only [beq_self_eq_true] at e ⊢; cases e; exact ⟨_, rfl, hv⟩
    · rw [beq_eq_false_iff_ne.mpr hxy] at e
      rw [beq_eq_false_iff_ne.mpr (Ne.symm hxy)]
      obtain ⟨q, hq, hv'⟩ := EsR.get hr e
      refine ⟨q, ?_, hv'⟩
      unfold getL at hq
      cases hf : List.find? (fun x_1 => x_1.key.isStr x) es with
      | some e' => rw [hf] at hq; exact hq
      | none => rw [hf] at hq; dsimp only at hq; split at hq <;> cases hq
  | [], _ :: _, r, _, _ => r.elim
  | _ :: _, [], r, _, _ => r.elim
theorem EsR.noRef {h : Heap} : ∀ {fs : Loc} {es : List DictEntry}, EsR h fs es → es.any (·.refKey) = false
  | [], [], _ => rfl
  | (y, w) :: fs, en :: es, r => by
    obtain ⟨⟨t, hk⟩, hv, hr⟩ := r
    rw [List.any_cons, hr.noRef]
    simp [DictEntry.refKey, hk]
  | [], _ :: _, r => r.elim
  | _ :: _, [], r => r.elim
theorem EsR.miss {h : Heap} {x : Str} {fs : Loc} {es : List DictEntry} (r : EsR h fs es) (e : fs.lookup x = none) : getL x es = some none := by
  have hf : ∀ {fs : Loc} {es : List DictEntry}, EsR h fs es → fs.lookup x = none → es.find? (·.key.isStr x) = none := by
    intro fs
    induction fs with
    | nil => intro es r _; cases es with
      | nil => rfl
      | cons => exact r.elim
    | cons p fs ih =>
      intro es r e
      obtain ⟨y, w⟩ := p
      cases es with
      | nil => exact r.elim
      | cons en es =>
        obtain ⟨⟨t, hk⟩, hv, hr⟩ := r
        rw [List.lookup_cons] at e
        have hxy : x ≠ y := fun q => by subst q; simp at e
        rw [beq_eq_false_iff_ne.mpr hxy] at e
        rw [List.find?_cons, hk, show (Value.str y t).isStr x = (y == x) from rfl]
        rw [beq_eq_false_iff_ne.mpr (Ne.symm hxy)]
        exact ih hr e
  unfold getL
  rw [hf r e, r.noRef]; rfl
theorem EsR.put {h : Heap} {x : Str} {v : V} {r : Value} {hs : Int} {t : Tok} (hv : VR h v r) : ∀ {fs : Loc} {es : List DictEntry}, EsR h fs es → EsR h (putS fs x v) (putL x hs (.str x t) r es)
  | [], [], _ => ⟨⟨t, rfl⟩, hv, trivial⟩
  | (y, w) :: fs, en :: es, q => by
    obtain ⟨⟨u, hk⟩, hw, hr⟩ := q
    unfold putS putL
    rw [hk, show (Value.str y u).isStr x = (y == x) from rfl]
    by_cases hxy : y = x
    · subst hxy; rw [if_pos rfl, if_pos (beq_self_eq_true _)]; exact ⟨⟨u, rfl⟩, hv, hr⟩
    · rw [if_neg hxy, if_neg (by rw [beq_eq_false_iff_ne.mpr hxy]; decide)]
      exact ⟨⟨u, hk⟩, hw, EsR.put hv hr⟩
  | [], _ :: _, r => r.elim
  | _ :: _, [], r => r.elim
theorem EsR.length {h : Heap} : ∀ {fs : Loc} {es : List DictEntry}, EsR h fs es → es.length = fs.length
  | [], [], _ => rfl
  | _ :: _, _ :: _, r => by rw [List.length_cons, List.length_cons, r.2.2.length]
  | [], _ :: _, r => r.elim
  | _ :: _, [], r => r.elim
section
variable {C : Cx} {A : Around} {m : Loc} {H : CH} {s : Shared} {K : Frag} {mg mb : Str → Option Value} {Q : V → Loc → CH → Prop} {QU : Loc → CH → Prop} {x d k : Addr} {sl : List (Option V)} {fs : Loc} {name : Str} {v : V}
structure RawInst (h : Heap) (x k d : Addr) (sl : List (Option V)) (fs : Loc) (rs : Array (Option Value)) (es : List DictEntry) (n : Nat) : Prop where
  ox : h.get? x = some { cls := .ref k, dict := some d, data := .plain, slots := rs }
  sl : OptRs h sl rs.toList
  od : h.get? d = some (dictOf es n)
  es : EsR h fs es
theorem RawInst.at {h : Heap} {rs : Array (Option Value)} {es : List DictEntry} {n : Nat} (R : RawInst h x k d sl fs rs es n) : InstAt h x { cls := .ref k, dict := some d, data := .plain, slots := rs } k (some (dictOf es n)) := ⟨R.ox, rfl, rfl, R.od⟩
theorem HS.inst (S : HS C H s) (hx : H x = some (.inst k d sl)) (hd : H d = some (.idict fs)) : ∃ rs es n, RawInst s.heap x k d sl fs rs es n := by
  obtain ⟨_, o, ho, rs, rfl, hsl⟩ := S.own x _ hx
  obtain ⟨_, o', ho', es, n, rfl, hes⟩ := S.own d _ hd
  exact ⟨rs, es, n, ho, hsl, ho', hes⟩
theorem OptRs.get {h : Heap} : ∀ {sl : List (Option V)} {rs : List (Option Value)}, OptRs h sl rs → ∀ {i : Nat} {v : V}, sl[i]? = some (some v) → ∃ r, rs[i]? = some (some r) ∧ VR h v r
  | [], _, _, i, v, e => by simp at e
  | a :: as, [], r, _, _, _ => r.elim
  | a :: as, b :: bs, r, i, v, e => by
    cases i with
    | zero =>
      simp at e; subst e
      obtain ⟨q, rfl, hq⟩ := OptR.some_inv r.1
      exact ⟨q, by simp, hq⟩
    | succ i => simp at e; obtain ⟨q, hq, hv⟩ := OptRs.get r.2 e; exact ⟨q, by simpa using hq, hv⟩
theorem EV_attr {o : PySem.Expr} {p : Pos} (h : EV C A o m H fun ov m₁ H₁ => O1 C A (fun r => getAttr r name true) ov m₁ H₁ Q)
    (he : eval (.Attribute o name p) C.env = (do
      let ov ← eval o C.env
      standAt p.atName
      let r ← holding [ov] (getAttr ov name true)
      letTemporaryGo o ov r
      pure r) := by with_unfolding_all rfl) : EV C A (.Attribute o name p) m H Q := fun s S => by
  refine Attribute_any_ (wpAny_mono (h s S) ?_ fun _ _ x => x) he
  rintro r s₁ ⟨ov, m₁, H₁, hv, S₁, af₁, h₁⟩
  exact wpAny_mono (h₁ s₁ r S₁ hv) (fun _ _ x => x.mono S₁ af₁) fun _ _ x => x
noncomputable def ownOk (K : Frag) (c : Addr) (name : Str) : Bool := plainGet K c name && hasDictIn K c && (match findIn K (.ref c) name with | some a => noGet K a | none => false)
noncomputable def VHand : V → Prop
  | .con v => handedIn v = true
  | _ => True
theorem VR.hand {h : Heap} {v : V} {r : Value} (x : VR h v r) (hh : VHand v) : handedIn r = true := by
  cases v with
  | con c => rw [x.con_inv]; exact hh
  | int i => obtain ⟨t, rfl⟩ := x.int_inv; rfl
  | str i => obtain ⟨t, rfl⟩ := x.str_inv; rfl
  | tup l => obtain ⟨a, items, n, rfl, _⟩ := x.tup_inv; rfl
  | rng => obtain ⟨z, t, u, w, rfl, _⟩ := x.rng_inv; rfl
  | imm => obtain ⟨_, a, rfl, _⟩ := x.imm_inv; rfl
  | fn => obtain ⟨a, _, _, _, rfl, _⟩ := x.fn_inv; rfl
  | ref a => rw [x.ref_inv]; rfl
theorem GA_own (B : Bs C.h₀ K mg mb) (hx : H x = some (.inst k d sl)) (hd : H d = some (.idict fs)) (hv : fs.lookup name = some v) (h : Q v m H) (hok : ownOk K k name = true := by kernel_rfl) (hh : VHand v := by first | exact trivial | rfl) :
    O1 C A (fun r => getAttr r name true) (.ref x) m H Q := fun s r S hr => by
  rw [hr.ref_inv]
  obtain ⟨rs, es, n, R⟩ := S.toHS.inst hx hd
  unfold ownOk at hok
  simp only [Bool.and_eq_true] at hok
  obtain ⟨⟨h1, h2⟩, h3⟩ := hok
  split at h3
  · rename_i a ha
    obtain ⟨q, hq, hvq⟩ := R.es.get hv
    exact get_value (B.X.keeps S.base) R.at (plainGet_of h1).1 (findObj_own h2 ha h3 hq) (hvq.hand hh) (.same S hvq h _)
  · cases h3
noncomputable def slotOk (K : Frag) (c : Addr) (name : Str) (p : Addr) (i : Nat) : Bool := plainGet K c name && isClsIn K c && (findIn K (.ref c) name == some (some (.ref p))) && (specialIn K (.ref p) "__get__" == some (some (.builtin "member_descriptor.__get__"))) && (takesIn K (.ref p) == some true) && (slotIn K p c == some i)
theorem GA_slot {p : Addr} {i : Nat} (B : Bs C.h₀ K mg mb) (hx : H x = some (.inst k d sl)) (hd : H d = some (.idict fs)) (hv : sl[i]? = some (some v)) (h : Q v m H) (hok : slotOk K k name p i = true := by kernel_rfl) (hh : VHand v := by first | exact trivial | rfl) :
    O1 C A (fun r => getAttr r name true) (.ref x) m H Q := fun s r S hr => by
  rw [hr.ref_inv]
  obtain ⟨rs, es, n, R⟩ := S.toHS.inst hx hd
  unfold slotOk at hok
  simp only [Bool.and_eq_true, beq_iff_eq] at hok
  obtain ⟨⟨⟨⟨⟨h1, h2⟩, h3⟩, h4⟩, h5⟩, h6⟩ := hok
  have X : K.In s.heap := B.X.keeps S.base
  obtain ⟨q, hq, hvq⟩ := R.sl.get hv
  refine get_bind X R.at (plainGet_of h1).1 (findObj_data h2 h3 h4 h5) (plainGet_of h1).2 (wpAny_call (slot_get (s := { s with toks := s.toks + 1 }) X R.at h6 (v := q) ?_ (handed_on (hvq.hand hh) (.same S hvq h _))))
  show (rs[i]?).join = some q
  rw [← Array.getElem?_toList, hq]; rfl
noncomputable def fnOk (K : Frag) (c : Addr) (name : Str) (f : Addr) : Bool := plainGet K c name && hasDictIn K c && (findIn K (.ref c) name == some (some (.ref f))) && isFn K (.ref f) && (specialIn K (.ref f) "__get__" == some (some (.builtin "function.__get__"))) && (takesIn K (.ref f) == some false) && !copiedNames.contains name
theorem GM_inst {f : Addr} {Q : V → List V → Prop} (B : Bs C.h₀ K mg mb) (hx : H x = some (.inst k d sl)) (hd : H d = some (.idict fs)) (hv : fs.lookup name = none) (h : Q (.con (.ref f)) [.ref x]) (hok : fnOk K k name f = true := by kernel_rfl) : GM C A (.ref x) name m H Q := fun s r pl S hr => by
  rw [hr.ref_inv]
  obtain ⟨rs, es, n, R⟩ := S.toHS.inst hx hd
  unfold fnOk at hok
  simp only [Bool.and_eq_true, beq_iff_eq] at hok
  obtain ⟨⟨⟨⟨⟨⟨h1, h2⟩, h3⟩, h4⟩, h5⟩, h6⟩, h7⟩ := hok
  exact method_fn (B.X.keeps S.base) R.at (plainGet_of h1).1 (plainGet_of h1).2 h3 (beq_iff_eq.mp h4) (by show (lookIn name (dictOf es n)).map _ = _; rw [lookIn_dict, R.es.miss hv]; rfl) ⟨_, _, .con, .cons .ref .nil, rfl, rfl, rfl, rfl, h⟩
theorem Imm.meth {f self : Value} (h : ∀ x t, self ≠ .str x t) : Imm (methodObj f self) := ⟨rfl, .inl ⟨"method", by decide, rfl⟩, (by intro _ _ e; cases e), (by intro _ e; cases e), (by intro _ _ _ e; cases e)⟩
theorem GA_bound {f : Addr} (B : Bs C.h₀ K mg mb) (hx : H x = some (.inst k d sl)) (hd : H d = some (.idict fs)) (hv : fs.lookup name = none) (h : Q (.imm (methodObj (.ref f) (.ref x))) m H) (hok : fnOk K k name f = true := by kernel_rfl) :
    O1 C A (fun r => getAttr r name true) (.ref x) m H Q := fun s r S hr => by
  rw [hr.ref_inv]
  obtain ⟨rs, es, n, R⟩ := S.toHS.inst hx hd
  unfold fnOk at hok
  simp only [Bool.and_eq_true, beq_iff_eq, Bool.not_eq_true'] at hok
  obtain ⟨⟨⟨⟨⟨⟨h1, h2⟩, h3⟩, h4⟩, h5⟩, h6⟩, h7⟩ := hok
  have X : K.In s.heap := B.X.keeps S.base
  refine get_bind X R.at (plainGet_of h1).1 (findObj_fn h2 h3 h5 h6 h7 (by show lookIn name (dictOf es n) = _; rw [lookIn_dict, R.es.miss hv])) (plainGet_of h1).2
    (wpAny_call (fn_get (s := { s with toks := s.toks + 1 }) X (beq_iff_eq.mp h4) (handed_on rfl ?_)))
  exact ⟨_, m, H, .imm (.meth (by intro _ _ e; cases e)) (Heap.get?_push_size _ rfl), S.more (tk := s.toks + 1) (keep_push _ _), .more (tk := s.toks + 1) (keep_push _ _), h⟩
theorem CALL_bound {f : Addr} {vs : List V} {kws : List (Str × V)} {Q : V → CH → Prop} (h : CALL C A (.con (.ref f)) (.ref x :: vs) kws H Q) : CALL C A (.imm (methodObj (.ref f) (.ref x))) vs kws H Q := fun s rf rs rkw S F hf hv hk => by
  obtain ⟨_, a, rfl, ho⟩ := hf.imm_inv
  exact method_call ho (h s (.ref f) (.ref x :: rs) rkw S F .con (.cons .ref hv) hk)
theorem KP_bound {f : Addr} {o : Obj} {fd : FuncData} (e : C.h₀.get? f = some o) (hd : o.data = .func fd) : KP C (.imm (methodObj (.ref f) (.ref x))) H := fun s rf S hf => by
  obtain ⟨_, a, rfl, ho⟩ := hf.imm_inv
  refine ⟨.boundFrame, (Looks.ld (part := none) ho).andThen ?_⟩
  refine (Looks.ld (part := none) (S.base _ _ e)).andThen ?_
  rw [hd]; exact .now
noncomputable def SA (C : Cx) (A : Around) (ov : V) (name : Str) (v : V) (m : Loc) (H : CH) (Q : Loc → CH → Prop) : Prop := ∀ s ro rv, St C m H s → VR s.heap ov ro → VR s.heap v rv → wpAny (model C.prog C.w) A (setAttr ro name rv) (PA C H s fun _ => Q) NoE s
theorem ASG_attr {o : PySem.Expr} {p : Pos} (h : EV C A o m H fun ov m₁ H₁ => SA C A ov name v m₁ H₁ QU) : ASG C A (.Attribute o name p) v m H QU := fun s r S hv => by
  refine kas_attr (wpAny_mono (h s S) ?_ fun _ _ x => x)
  rintro ro s₁ ⟨ov, m₁, H₁, ho, S₁, af₁, h₁⟩
  exact wpAny_mono (h₁ s₁ ro r S₁ ho (hv.keep (af₁.tup S))) (fun _ _ x => x.mono S₁ af₁) fun _ _ x => x
theorem osa_raw {prog : Program} {w : World} {R : Result → Shared → Prop} {ox : Obj} {es : List DictEntry} {n : Nat} {dx : Addr} {tk : Tok} {r : Value} (X : K.In s.heap) (I : InstAt s.heap x ox k (some (dictOf es n))) (hd : ox.dict = some dx)
    (hp : plainOver K k = true) (ht : takerIn K k name = some none) (hh : (clsIn K k).any (·.hasDict) = true) (hl : (getL name es).isSome = true) (hz : es.length < 1000)
    (h : ∀ h', Heap.SameBut dx s.heap h' → h'.get? dx = some (dictOf (putL name (PyData.keyHash w.params name) (.str name s.toks) r es) (putN name es n)) → R (.ok (.ret .none)) { s with heap := h', toks := s.toks + 1 }) :
    codeAny (model prog w) A (.call (.builtin "object.__setattr__") ⟨[.ref x, .str name tk, r], []⟩) R s := by
  refine osa_open X I hp ht fun b => ?_
  obtain ⟨cd, hc, hd'⟩ := any_some hh
  obtain ⟨hx, hcl, hn, hdd⟩ := I
  obtain ⟨oc, odi, oda, osl⟩ := ox
  dsimp only at hcl hd hdd
  subst hcl hd
  dsimp only at hdd
  have e := putName_dict name (PyData.keyHash w.params name) (.str name s.toks) r es n
  have D' : (s.heap.update dx (Obj.putName name (PyData.keyHash w.params name) (.str name s.toks) r)).get? dx = some (dictOf (putL name (PyData.keyHash w.params name) (.str name s.toks) r es) (putN name es n)) := by
    rw [← e]; exact Heap.get?_update_self _ hdd (by rw [e]; rfl)
  refine wpAny_bind (wpAny_pure (wpAny_bind (wpAny_bind (wpAny_loadPart hx (wpAny_bind ((looks_clsIn X hc).here ?_))))))
  rw [hd']
  refine wpAny_pure (a := some dx) (wpAny_bind (wpAny_pure (wpAny_bind ?_)))
  unfold nsSet
  refine wpAny_bind (wpAny_bind (wpAny_askSetting (wpAny_pure (wpAny_bind (wpAny_mkText (wpAny_bind (wpAny_loadPart hdd ?_)))))))
  have hlen : ∀ es : List DictEntry, (putL name (PyData.keyHash w.params name) (.str name s.toks) r es).length ≤ es.length + 1 := by
    intro es
    induction es with
    | nil => exact Nat.le_refl _
    | cons e es ih => unfold putL; split <;> simp <;> omega
  have c : (!es.toArray.any (·.key.isStr name) && es.toArray.any (·.refKey)) = false := by
    rw [List.any_toArray, List.any_toArray]
    unfold getL at hl
    split at hl
    · rename_i en he
      rw [List.any_eq_true.mpr ⟨en, List.mem_of_find?_eq_some he, List.find?_some he⟩]; rfl
    · split at hl
      · cases hl
      · rename_i z; rw [Bool.not_eq_true] at z; rw [z, Bool.and_false]
  dsimp only
  rw [aRefKeyMayBeTheName_at, c]
  refine wpAny_updatePart hdd ?_
  refine wpAny_bind (wpAny_lookBehind D' (pastItsLine_dict (by rw [List.size_toArray, sizeLine_eq]; have := hlen es; omega)) ?_)
  exact wpAny_pure (h _ (Heap.SameBut.update ..) D')
noncomputable def setOk (K : Frag) (c : Addr) (name : Str) : Bool := (findIn K (.ref c) "__setattr__" == some (some (.builtin "object.__setattr__"))) && plainOver K c && (match takerIn K c name with | some none => true | _ => false) && (clsIn K c).any (·.hasDict)
theorem SA_own (B : Bs C.h₀ K mg mb) (hx : H x = some (.inst k d sl)) (hd : H d = some (.idict fs)) (hz : fs.length < 1000) (h : QU m (H.set d (.idict (putS fs name v)))) (hok : setOk K k name = true := by kernel_rfl) : SA C A (.ref x) name v m H QU := fun s ro rv S ho hv => by
  rw [ho.ref_inv]
  obtain ⟨rs, es, n, R⟩ := S.toHS.inst hx hd
  unfold setOk at hok
  simp only [Bool.and_eq_true, beq_iff_eq] at hok
  obtain ⟨⟨⟨h1, h2⟩, h3⟩, h4⟩ := hok
  split at h3
  · rename_i ht
    have X : K.In s.heap := B.X.keeps S.base
    have hg : (getL name es).isSome = true := by
      cases e : fs.lookup name with
      | none => rw [R.es.miss e]; rfl
      | some w => obtain ⟨q, hq, _⟩ := R.es.get e; rw [hq]; rfl
    refine set_plain X R.at h1 (osa_raw (s := { s with toks := s.toks + 1 }) X R.at rfl h2 ht h4 hg (by rw [R.es.length]; exact hz) fun h' hs hg' => ?_)
    exact ⟨m, _, S.upd (tk := s.toks + 1 + 1) (c' := .idict (putS fs name v)) hd hs hg' ⟨_, _, rfl, EsR.put hv R.es⟩, .upd (tk := s.toks + 1 + 1) hd hs hg', h⟩
  · cases h3
end
end
end Mine
end
section
open PySem PySem.Calls PySem.W PyProof.Rows Builtin Builtin.ObjectAttr Builtin.Getset_descriptor
set_option maxRecDepth 100000
set_option maxHeartbeats 4000000
namespace Mine
noncomputable section
section
variable {C : Cx} {A : Around} {m : Loc} {H : CH} {s : Shared} {K : Frag} {mg mb : Str → Option Value} {Q : V → Loc → CH → Prop} {QU : Loc → CH → Prop} {x d k : Addr} {sl : List (Option V)} {fs : Loc} {name : Str} {v : V}
theorem slot_raw {prog : Program} {w : World} {R : Result → Shared → Prop} {ox : Obj} {od : Option Obj} {r : Value} {p : Addr} {i : Nat} (X : K.In s.heap) (I : InstAt s.heap x ox k od) (hp : slotIn K p k = some i) (hi : i < 1000)
    (h : R (.ok (.ret .none)) { s with heap := s.heap.update x (fun o => { o with slots := (o.slots ++ Array.replicate (i + 1 - o.slots.size) none).setIfInBounds i (some r) }) }) :
    codeAny (model prog w) A (.call (.builtin "member_descriptor.__set__") ⟨[.ref p, .ref x, r], []⟩) R s := by
  obtain ⟨n, tn, owner, behind, tb, d, sl, cd, ho, hc, hm, hb, rfl⟩ := slot_of X hp
  obtain ⟨hh, g, dr, t, os⟩ := s
  have L0 := I.type (M := model prog w)
  have L1 := looks_mroIn (M := model prog w) X hm
  have L2 : Looks (model prog w) hh (Slots.slotNamesOf (.ref k)) cd.slotNames := (looks_clsIn X hc).andThen .now
  have hx := I.at_
  dsimp only at ho hx L0 L1
  have f0 := looks_field (M := model prog w) ho 0 (v := .str n tn) rfl
  have f1 := looks_field (M := model prog w) ho 1 (v := owner) rfl
  have f3 := looks_field (M := model prog w) ho 3 (v := .builtin "proto.slot#set") rfl
  have f4 := looks_field (M := model prog w) ho 4 (v := .int behind tb) rfl
  refine codeAny_call_builtin KF.slot_mset.plain KF.entry_mset (KF.slot_mset.check _ _ _ _ _ _ _ _ ⟨_, ho, rfl⟩ (KF.args_mset _ _ _) ?_)
  unfold Builtin.«member_descriptor.__set__» descrSet descrStoreThrough descrCheckInstance descrNameAndClass isInstance
  have f5 : Looks (model prog w) hh (descrItself (.ref p)) [.ref p] := ((Looks.ld (part := none) ho).andThen .now).andThen (Looks.of_pure (by kernel_rfl))
  repeat lk
  refine ⟨Code.quiet_builtin _ (by decide +kernel), codeAny_builtin KF.entry_slotset ?_⟩
  unfold Builtin.«proto.slot#set» Slots.target
  repeat lk
  rw [if_neg hb]
  refine wpAny_pure (wpAny_bind ?_)
  unfold setSlotAt
  dsimp only
  rw [if_neg (by rw [sizeLine_eq]; omega)]
  exact wpAny_updatePart hx (wpAny_pure h)
noncomputable def setSlotOk (K : Frag) (c : Addr) (name : Str) (p : Addr) (i : Nat) : Bool := (findIn K (.ref c) "__setattr__" == some (some (.builtin "object.__setattr__"))) && plainOver K c && (match takerIn K c name with | some (some (.ref q)) => q == p | _ => false) && (typeIn K (.ref p) == some (.type "member_descriptor")) && (slotIn K p c == some i) && decide (i < 1000)
noncomputable def putSl (sl : List (Option V)) (i : Nat) (v : V) : List (Option V) := (sl ++ List.replicate (i + 1 - sl.length) none).set i (some v)
theorem OptRs.append {h : Heap} : ∀ {a : List (Option V)} {b : List (Option Value)} {c : List (Option V)} {e : List (Option Value)}, OptRs h a b → OptRs h c e → OptRs h (a ++ c) (b ++ e)
  | [], [], _, _, _, q => q
  | _ :: _, _ :: _, _, _, p, q => ⟨p.1, p.2.append q⟩
  | [], _ :: _, _, _, p, _ => p.elim
  | _ :: _, [], _, _, p, _ => p.elim
theorem OptRs.nones {h : Heap} : ∀ n : Nat, OptRs h (List.replicate n none) (List.replicate n none)
  | 0 => trivial
  | n + 1 => ⟨trivial, OptRs.nones n⟩
theorem OptRs.set {h : Heap} {v : V} {r : Value} (hv : VR h v r) : ∀ {a : List (Option V)} {b : List (Option Value)}, OptRs h a b → ∀ i, OptRs h (a.set i (some v)) (b.set i (some r))
  | [], [], _, _ => trivial
  | _ :: _, _ :: _, p, 0 => ⟨hv, p.2⟩
  | _ :: _, _ :: _, p, i + 1 => ⟨p.1, p.2.set hv i⟩
  | [], _ :: _, p, _ => p.elim
  | _ :: _, [], p, _ => p.elim
theorem OptRs.length {h : Heap} : ∀ {a : List (Option V)} {b : List (Option Value)}, OptRs h a b → b.length = a.length
  | [], [], _ => rfl
  | _ :: _, _ :: _, p => by rw [List.length_cons, List.length_cons, p.2.length]
  | [], _ :: _, p => p.elim
  | _ :: _, [], p => p.elim
theorem SA_slot {p : Addr} {i : Nat} (B : Bs C.h₀ K mg mb) (hx : H x = some (.inst k d sl)) (hd : H d = some (.idict fs)) (h : QU m (H.set x (.inst k d (putSl sl i v)))) (hok : setSlotOk K k name p i = true := by kernel_rfl) : SA C A (.ref x) name v m H QU := fun s ro rv S ho hv => by
  rw [ho.ref_inv]
  obtain ⟨rs, es, n, R⟩ := S.toHS.inst hx hd
  unfold setSlotOk at hok
  simp only [Bool.and_eq_true, beq_iff_eq, decide_eq_true_eq] at hok
  obtain ⟨⟨⟨⟨⟨h1, h2⟩, h3⟩, h4⟩, h5⟩, h6⟩ := hok
  split at h3
  · rename_i q ht
    rw [beq_iff_eq] at h3; subst h3
    have X : K.In s.heap := B.X.keeps S.base
    refine set_plain X R.at h1 (osa_descr (s := { s with toks := s.toks + 1 }) KF.slot_mset X R.at h2 ht h4 (slot_raw (s := { s with toks := s.toks + 1 }) X R.at h5 h6 ?_))
    have ho' := Heap.get?_update_self (fun o => { o with slots := (o.slots ++ Array.replicate (i + 1 - o.slots.size) none).setIfInBounds i (some rv) }) R.ox rfl
    refine ⟨m, _, S.upd (tk := s.toks + 1) (c' := .inst k d (putSl sl i v)) hx (Heap.SameBut.update ..) ho' ⟨_, rfl, ?_⟩, .upd (tk := s.toks + 1) hx (Heap.SameBut.update ..) ho', h⟩
    show OptRs s.heap (putSl sl i v) ((rs ++ Array.replicate (i + 1 - rs.size) none).setIfInBounds i (some rv)).toList
    rw [Array.toList_setIfInBounds, Array.toList_append, Array.toList_replicate]
    unfold putSl
    have hz : rs.size = sl.length := by have := R.sl.length; simpa using this
    rw [hz]
    exact (R.sl.append (OptRs.nones _)).set hv i
  · cases h3
theorem AOK.under {n : Nat} {rest : List Value} {kw : List (Str × Value)} (h : AOK C A (n + 1)) : AOK C (A.under (.builtin "type.__call__" ⟨.ref k :: rest, kw⟩)) n := by
  have hw : (Code.builtin "type.__call__" ⟨.ref k :: rest, kw⟩).weight = 1 := rfl
  have hu : (Code.builtin "type.__call__" ⟨.ref k :: rest, kw⟩).cUnits = 1 := rfl
  have he : (Code.builtin "type.__call__" ⟨.ref k :: rest, kw⟩).envs = [] := rfl
  refine ⟨h.handled, ?_, ?_, ?_⟩
  · show A.depth + _ + n < _; rw [hw]; have := h.depth; omega
  · show A.units + _ + 4 * n + 40 < _; rw [hu]; have := h.units; omega
  · unfold Around.under; dsimp only; rw [he]; exact h.frames
noncomputable def makeOk (K : Frag) (c fI : Addr) : Bool := makesIn K c && (findIn K (.ref c) "__init__" == some (some (.ref fI))) && (typeIn K (.ref fI) == some (.type "function"))
theorem CALL_make {c fI : Addr} {vs : List V} {kws : List (Str × V)} {Q : V → CH → Prop} (B : Bs C.h₀ K mg mb) (hok : makeOk K c fI = true)
    (h : ∀ x d rest kw, H x = none → H d = none → C.h₀.get? x = none → C.h₀.get? d = none → x ≠ d → CALL C (A.under (.builtin "type.__call__" ⟨.ref c :: rest, kw⟩)) (.con (.ref fI)) (.ref x :: vs) kws ((H.set d (.idict [])).set x (.inst c d [])) fun v H' => v = V.none ∧ Q (.ref x) H') : CALL C A (.con (.ref c)) vs kws H Q := fun s rf rs rkw S F hf hv hk => by
  unfold makeOk at hok
  simp only [Bool.and_eq_true, beq_iff_eq] at hok
  obtain ⟨⟨h1, h2⟩, h3⟩ := hok
  rw [hf.con_inv]
  have X : K.In s.heap := B.X.keeps S.base
  obtain ⟨hh, g, dr, t, os⟩ := s
  refine make_core (makes_of X h1) (looks_findIn X h2) (fun self => bind_fn X self h3) (.inl rfl) ?_
  have S1 := S.alloc (tk := t) (o := emptyDict) (c := .idict []) ⟨[], 0, rfl, trivial⟩
  have a1 : AfterC H ⟨hh, g, dr, t, os⟩ _ _ := .alloc (tk := t) (o := emptyDict) (c := .idict [])
  have S2 := S1.alloc (tk := t) (o := instObj c hh.objs.size) (c := .inst c hh.objs.size []) ⟨#[], rfl, trivial⟩
  have a2 := a1.trans (.alloc (tk := t) (o := instObj c hh.objs.size) (c := .inst c hh.objs.size []))
  have hsz : (hh.push emptyDict).objs.size = hh.objs.size + 1 := Heap.size_push ..
  have hx0 : hh.get? (hh.objs.size + 1) = none := by
    cases e : hh.get? (hh.objs.size + 1) with
    | none => rfl
    | some o => have := Heap.lt_size e; exact absurd this (by simp)
  have hnb : C.h₀.get? (hh.objs.size + 1) = none := by
    cases e : C.h₀.get? (hh.objs.size + 1) with
    | none => rfl
    | some o => have := S.base _ _ e; dsimp only at this; rw [hx0] at this; cases this
  have hnH : H (hh.objs.size + 1) = none := by
    cases e : H (hh.objs.size + 1) with
    | none => rfl
    | some c => obtain ⟨_, o, ho, _⟩ := S.own _ _ e; dsimp only at ho; rw [hx0] at ho; cases ho
  dsimp only at S2 a2
  rw [hsz] at S2 a2
  have keep : ∀ b o, hh.get? b = some o → ((hh.push emptyDict).push (instObj c hh.objs.size)).get? b = some o := fun b o e => Heap.get?_push_of_some _ (Heap.get?_push_of_some _ e)
  refine codeAny_mono (h (hh.objs.size + 1) hh.objs.size rs rkw hnH S.fresh hnb S.freshb (Nat.succ_ne_self _) _ _ _ _ S2 (F.after a2) .con (.cons .ref (hv.keep (.of_keep keep))) (hk.keep (.of_keep keep))) ?_
  rintro r s' z
  cases r with
  | error e => exact z.elim
  | ok fl =>
    cases fl with
    | ret rv =>
      obtain ⟨v, H', hvr, S', a', rfl, q⟩ := z
      exact ⟨hvr.con_inv, .ref _, H', .ref, S', a2.trans a', q⟩
    | next => exact z.elim
    | brk => exact z.elim
    | cont => exact z.elim
theorem KP_cls {c : Addr} (B : Bs C.h₀ K mg mb) (hk : keepIn K (.ref c) = true) : KP C (.con (.ref c)) H := fun s rf S hf => by
  rw [hf.con_inv]
  obtain ⟨k, _, L⟩ := looks_keep (M := model C.prog C.w) hk (B.X.keeps S.base)
  exact ⟨k, L⟩
theorem ES_aug_attr {o : PySem.Expr} {op : Operator} {value : PySem.Expr} {p p' : Pos} {Q : Fl → Loc → CH → Prop}
    (h : EV C A o m H fun ov m₁ H₁ => O1 C A (fun r => getAttr r name true) ov m₁ H₁ fun old m₂ H₂ => EV C A value m₂ H₂ fun v m₃ H₃ => O2 C A (inplaceOp op) old v m₃ H₃ fun r m₄ H₄ => SA C A ov name r m₄ H₄ (Q .next)) :
    ES C A (.AugAssign (.Attribute o name p') op value p) m H Q := fun s S => by
  refine wpAny_AugAssign_AttributeAny (wpAny_mono (h s S) ?_ fun _ _ x => x)
  rintro ro s₁ ⟨ov, m₁, H₁, ho, S₁, af₁, h₁⟩
  refine wpAny_mono (h₁ s₁ ro S₁ ho) ?_ fun _ _ x => x
  rintro ra s₂ ⟨old, m₂, H₂, ha, S₂, af₂, h₂⟩
  refine wpAny_mono (h₂ s₂ S₂) ?_ fun _ _ x => x
  rintro rb s₃ ⟨v, m₃, H₃, hb, S₃, af₃, h₃⟩
  refine wpAny_mono (h₃ s₃ ra rb S₃ (ha.keep (af₃.tup S₂)) hb) ?_ fun _ _ x => x
  rintro rc s₄ ⟨u, m₄, H₄, hc, S₄, af₄, h₄⟩
  refine wpAny_mono (h₄ s₄ ro rc S₄ (((ho.keep (af₂.tup S₁)).keep (af₃.tup S₂)).keep (af₄.tup S₃)) hc) ?_ fun _ _ x => x
  rintro _ s₅ ⟨m₅, H₅, S₅, af₅, h₅⟩
  exact ⟨.next, m₅, H₅, rfl, S₅, ((((af₁.then S₁ af₂).then S₂ af₃).then S₃ af₄).then S₄ af₅), h₅⟩
theorem EV_named {t e : PySem.Expr} {p : Pos} (h : EV C A e m H fun v m₁ H₁ => ASG C A t v m₁ H₁ (Q v)) : EV C A (.NamedExpr t e p) m H Q := fun s S => by
  refine wpAny_NamedExpr (wpAny_mono (h s S) ?_ fun _ _ x => x)
  rintro r s₁ ⟨v, m₁, H₁, hv, S₁, af₁, h₁⟩
  refine wpAny_mono (h₁ s₁ r S₁ hv) ?_ fun _ _ x => x
  rintro _ s₂ ⟨m₂, H₂, S₂, af₂, h₂⟩
  exact ⟨v, m₂, H₂, hv.keep (af₂.tup S₁), S₂, af₁.then S₁ af₂, h₂⟩
end
end
end Mine
end
section
open PySem PySem.Calls PySem.W PyProof.Rows
set_option maxRecDepth 100000
namespace Mine
noncomputable section
section
variable {C : Cx} {A : Around} {m : Loc} {H : CH} {s : Shared} {K : Frag} {mg mb : Str → Option Value} {Q : V → Loc → CH → Prop} {name : Str}
inductive Spread (C : Cx) (H : CH) : V → List V → Prop
  | tup (xs : List V) : Spread C H (.tup xs) xs
  | list {l : Addr} {xs : List V} : LAt C H l xs → Spread C H (.ref l) xs
theorem Spread.star {v : V} {r : Value} {xs : List V} (q : Spread C H v xs) (hsz : xs.length ≤ sizeLine) (S : St C m H s) (hv : VR s.heap v r) {P : List Value → Shared → Prop}
    (h : ∀ rs h', VRs h' xs rs → (∀ b o, s.heap.get? b = some o → h'.get? b = some o) → P rs { s with heap := h' }) : StarOf (model C.prog C.w) A NoE r P s := by
  cases q with
  | tup =>
    obtain ⟨a, items, n, rfl, ho, hs⟩ := hv.tup_inv
    have hz : items.size ≤ sizeLine := by have := hs.length; simp at this; omega
    unfold StarOf notIterableAtAll
    have hT : s.TypeIs (.ref a) "tuple" := ⟨_, ho, rfl⟩
    exact wpAny_bind (wpAny_specialOf hT PySem.F.slot_tuple_iter.lookup (wpAny_pure ⟨rfl, wpAny_collect_seq a (.inr rfl) ho rfl rfl (fun h' hk => h _ h' (hs.keep (.of_keep hk)) hk) hz⟩))
  | list hl =>
    rw [hv.ref_inv]
    obtain ⟨items, n, hL, hs, hz⟩ := S.toHS.list hl
    unfold StarOf notIterableAtAll
    exact wpAny_bind (wpAny_specialOf hL.isList.typeIs PySem.F.slot_list_iter.lookup (wpAny_pure ⟨rfl, wpAny_collect_seq _ (.inl rfl) hL rfl rfl (fun h' hk => h _ h' (hs.keep (.of_keep hk)) hk) (by omega)⟩))
theorem EL_star {e : PySem.Expr} {p : Pos} {rest : List PySem.Expr} {Q : List V → Loc → CH → Prop} (h : EV C A e m H fun v m₁ H₁ => ∃ xs, Spread C H₁ v xs ∧ xs.length ≤ sizeLine ∧ EL C A rest m₁ H₁ fun vs => Q (xs ++ vs)) : EL C A (.Starred e p :: rest) m H Q := fun s pos S => by
  show wpAny _ _ (spliced ((true, (do let v ← eval e C.env; standAt pos; pure v)) :: backTo pos (starEach rest C.env))) _ _ _
  refine ks_spliced (wpAny_mono (h s S) ?_ fun _ _ x => x)
  rintro r s₁ ⟨v, m₁, H₁, hv, S₁, af₁, xs, q, hsz, h₁⟩
  refine q.star hsz S₁ hv fun rs h' hrs hk => ?_
  have S₂ : St C m₁ H₁ { s₁ with heap := h' } := S₁.more (tk := s₁.toks) hk
  refine wpAny_mono (h₁ _ pos S₂) ?_ fun _ _ x => x
  rintro vs s₃ ⟨ws, m₃, H₃, hws, S₃, af₃, h₃⟩
  exact ⟨xs ++ ws, m₃, H₃, (hrs.keep (af₃.tup S₂)).append hws, S₃, (af₁.then S₁ (.more (tk := s₁.toks) hk)).then S₂ af₃, h₃⟩
/-- a method called with a star among the arguments -/
theorem EV_methS {o : PySem.Expr} {apos p : Pos} {args : List PySem.Expr}
    (h : EV C A o m H fun ov m₁ H₁ => O1 C A (fun r => getAttr r name true) ov m₁ H₁ fun f m₂ H₂ => EL C A args m₂ H₂ fun vs m₃ H₃ => KP C f H₃ ∧ CV C A f vs [] m₃ H₃ Q)
    (hst : NoLone C args := by intro _; with_unfolding_all rfl)
    (hb : ∀ whole, attributeBase o name C.env whole = whole := by intro _; with_unfolding_all rfl) (hn : methodCallForm (args.length + 0) (backTo p (starEach args C.env)) [] = false := by with_unfolding_all rfl) :
    EV C A (.Call (.Attribute o name apos) args [] p) m H Q := fun s S => by
  have he : eval (.Call (.Attribute o name apos) args [] p) C.env = (do
      let ov ← attributeBase o name C.env (eval o C.env)
      standAt apos.atName
      methodCall o name apos p C.env ov (args.length + 0) (backTo p (starEach args C.env)) []) := rfl
  rw [he, hb]
  refine wpAny_bind (wpAny_mono (h s S) ?_ fun _ _ x => x)
  rintro ro s₁ ⟨ov, m₁, H₁, vo, S₁, af₁, h₁⟩
  refine wpAny_bind (wpAny_standAt ?_)
  unfold methodCall
  rw [hn]
  refine wpAny_bind (wpAny_holding ?_)
  show wpAny _ _ (do pure (← getAttr ro name true, [])) _ _ s₁
  refine wpAny_bind (wpAny_mono (h₁ s₁ ro S₁ vo) ?_ fun _ _ x => x)
  rintro rf s₂ ⟨f, m₂, H₂, vf, S₂, af₂, h₂⟩
  refine wpAny_pure ?_
  have hq : methodCallPos false o C.env apos p = pure p := rfl
  dsimp only
  rw [hq]
  refine wpAny_bind (wpAny_pure ?_)
  refine callWith_any (evalArgs_of h₂ (hst p) S₂ ?_)
  rintro rs s₃ ⟨vs, m₃, H₃, vr, S₃, af₃, hk, h₃⟩
  have vf₃ := vf.keep (af₃.tup S₂)
  obtain ⟨k, L⟩ := hk s₃ rf S₃.toHS vf₃
  exact ⟨k, L, wpAny_mono (h₃ s₃ rf _ [] S₃ vf₃ vr .nil) (fun _ _ x => x.mono S₃ ((af₁.then S₁ af₂).then S₂ af₃)) fun _ _ x => x⟩
theorem EV_methL {o e : PySem.Expr} {apos p p' : Pos}
    (h : EV C A o m H fun ov m₁ H₁ => O1 C A (fun r => getAttr r name true) ov m₁ H₁ fun f m₂ H₂ => EV C A e m₂ H₂ fun v m₃ H₃ => ∃ xs, Spread C H₃ v xs ∧ xs.length ≤ sizeLine ∧ KP C f H₃ ∧ CV C A f xs [] m₃ H₃ Q)
    (hb : ∀ whole, attributeBase o name C.env whole = whole := by intro _; with_unfolding_all rfl) :
    EV C A (.Call (.Attribute o name apos) [.Starred e p'] [] p) m H Q := fun s S => by
  have he : eval (.Call (.Attribute o name apos) [.Starred e p'] [] p) C.env = (do
      let ov ← attributeBase o name C.env (eval o C.env)
      standAt apos.atName
      methodCall o name apos p C.env ov (1 + 0) [(true, (do let v ← eval e C.env; standAt p; pure v))] []) := rfl
  rw [he, hb]
  refine wpAny_bind (wpAny_mono (h s S) ?_ fun _ _ x => x)
  rintro ro s₁ ⟨ov, m₁, H₁, vo, S₁, af₁, h₁⟩
  refine wpAny_bind (wpAny_standAt ?_)
  unfold methodCall
  refine wpAny_bind (wpAny_holding ?_)
  show wpAny _ _ (do pure (← getAttr ro name true, [])) _ _ s₁
  refine wpAny_bind (wpAny_mono (h₁ s₁ ro S₁ vo) ?_ fun _ _ x => x)
  rintro rf s₂ ⟨f, m₂, H₂, vf, S₂, af₂, h₂⟩
  refine wpAny_pure ?_
  refine wpAny_bind (m := methodCallPos false o C.env apos p) (wpAny_pure ?_)
  refine callWith_any (ks_lone (wpAny_mono (h₂ s₂ S₂) ?_ fun _ _ x => x))
  rintro r s₃ ⟨v, m₃, H₃, hv, S₃, af₃, xs, q, hsz, hk, h₃⟩
  refine q.star hsz S₃ hv fun rs h' hrs hkp => ?_
  have S₄ : St C m₃ H₃ { s₃ with heap := h' } := S₃.more (tk := s₃.toks) hkp
  have vf₄ : VR h' f rf := (vf.keep (af₃.tup S₂)).keep (.of_keep hkp)
  obtain ⟨k, L⟩ := hk _ rf S₄.toHS vf₄
  exact ⟨k, L, wpAny_mono (h₃ _ rf _ [] S₄ vf₄ hrs .nil) (fun _ _ x => x.mono S₄ (((af₁.then S₁ af₂).then S₂ af₃).then S₃ (.more (tk := s₃.toks) hkp))) fun _ _ x => x⟩
theorem CV_min2 {a b : Int} (hA : A.handled = none) (h : Q (.int (if b < a then b else a)) m H) : CV C A (.con (.builtin "min")) [.int a, .int b] [] m H Q := fun s rf rs rkw S hf hva hk => by
  have := hk.nil_inv; subst this
  rw [hf.con_inv]
  obtain ⟨x, y, rfl, hx, hy⟩ := two_inv hva
  obtain ⟨t, rfl⟩ := hx.int_inv; obtain ⟨u, rfl⟩ := hy.int_inv
  refine min_two_ints hA fun h' tk hkp => ⟨_, m, H, ?_, S.more (tk := tk) hkp, .more (tk := tk) hkp, h⟩
  split <;> exact .int
theorem CV_abs {a : Int} (h : Q (.int (if a < 0 then -a else a)) m H) : CV C A (.con (.builtin "abs")) [.int a] [] m H Q := fun s rf rs rkw S hf hva hk => by
  have := hk.nil_inv; subst this
  rw [hf.con_inv]
  obtain ⟨x, rfl, hx⟩ := one_inv hva
  obtain ⟨t, rfl⟩ := hx.int_inv
  exact call_abs_int fun u tk => ⟨_, m, H, .int, S.toks tk, .toks _ tk, h⟩
theorem CV_tuple_list {l : Addr} {xs : List V} (hl : LAt C H l xs) (hsz : xs.length ≤ sizeLine) (h : Q (.tup xs) m H) : CV C A (.con (.type "tuple")) [.ref l] [] m H Q := fun s rf rs rkw S hf hva hk => by
  have := hk.nil_inv; subst this
  rw [hf.con_inv]
  obtain ⟨x, rfl, hx⟩ := one_inv hva
  rw [hx.ref_inv]
  obtain ⟨items, n, hL, hs, hz⟩ := S.toHS.list hl
  refine call_tuple_list hL.isList (fun h' hk => ?_) (by omega)
  have k2 : ∀ b o, s.heap.get? b = some o → (h'.push { cls := .type "tuple", data := .seq items }).get? b = some o := fun b o e => Heap.get?_push_of_some _ (hk b o e)
  exact ⟨_, m, H, .tup (Heap.get?_push_size _ rfl) (hs.keep (.of_keep k2)), S.more (tk := s.toks) k2, .more (tk := s.toks) k2, h⟩
end
end
end Mine
end
section
open PySem PySem.Calls PySem.W PyProof.Rows
set_option maxRecDepth 100000
namespace Mine
noncomputable section
namespace LI
theorem slot_ga : Slot "list_iterator" "__getattribute__" "object.__getattribute__" :=
  .of (owner := "object") (n := "__getattribute__") (by rw [typeLookup_type, builtinLookup_eq_fast]; kernel_rfl) (by decide +kernel) (by decide +kernel) (by decide +kernel)
    (by first | exact .inl (by decide +kernel) | exact .inr (by decide +kernel)) (by rw [isSubtype_type]; kernel_rfl)
theorem entry_ga : entryFor table "object.__getattribute__" = some Builtin.«object.__getattribute__» := entryFor_of_tree (by kernel_rfl)
theorem args_ga (a b : Value) : argsOk "object.__getattribute__" ⟨[a, b], []⟩ := by unfold argsOk; kernel_rfl
theorem type_next : typeOf (.builtin "list_iterator.__next__") = pure (.type "wrapper_descriptor") := by show builtinType _ = _; rw [builtinType_eq_fast]; kernel_rfl
theorem slot_wget : Slot "wrapper_descriptor" "__get__" "wrapper_descriptor.__get__" :=
  .of (owner := "wrapper_descriptor") (n := "__get__") (by rw [typeLookup_type, builtinLookup_eq_fast]; kernel_rfl) (by decide +kernel) (by decide +kernel) (by decide +kernel)
    (by first | exact .inl (by decide +kernel) | exact .inr (by decide +kernel)) (by rw [isSubtype_type]; kernel_rfl)
theorem entry_wget : entryFor table "wrapper_descriptor.__get__" = some Builtin.«wrapper_descriptor.__get__» := entryFor_of_tree (by kernel_rfl)
theorem args_wget (a b c : Value) : argsOk "wrapper_descriptor.__get__" ⟨[a, b, c], []⟩ := by unfold argsOk; kernel_rfl
theorem no_wset : typeLookup (.type "wrapper_descriptor") "__set__" = pure none := by rw [typeLookup_type, builtinLookup_eq_fast]; kernel_rfl
theorem no_wdel : typeLookup (.type "wrapper_descriptor") "__delete__" = pure none := by rw [typeLookup_type, builtinLookup_eq_fast]; kernel_rfl
theorem sub_li : isSubtype (.type "list_iterator") (.type "list_iterator") = pure true := by rw [isSubtype_type]; kernel_rfl
theorem own_next : (".".intercalate ("list_iterator.__next__".cutAt '.').dropLast) = "list_iterator" := by decide +kernel
theorem sub_own : isSubtype (.type "list_iterator") (.type (".".intercalate ("list_iterator.__next__".cutAt '.').dropLast)) = pure true := by rw [own_next]; exact sub_li
end LI
noncomputable abbrev mwObj (I : Addr) : Obj := { cls := .type "method-wrapper", data := .fields #[.builtin "list_iterator.__next__", .ref I] }
section
variable {prog : Program} {w : World} {A : Around} {E : Value → Shared → Prop} {s : Shared}
theorem wget_raw {I : Addr} {h : Heap} {g : Array GenState} {d : Drawn} {t : Nat} {os : OsState} {R : Result → Shared → Prop} {o : Obj} (ho : h.get? I = some o) (hc : o.cls = .type "list_iterator") (hq : R (.ok (.ret (.ref h.objs.size))) ⟨h.push (mwObj I), g, d, t, os⟩) :
    codeAny (model prog w) A (.call (.builtin "wrapper_descriptor.__get__") ⟨[.builtin "list_iterator.__next__", .ref I, .type "list_iterator"], []⟩) R ⟨h, g, d, t, os⟩ := by
  have hT : (⟨h, g, d, t, os⟩ : Shared).TypeIs (.ref I) "list_iterator" := ⟨_, ho, hc⟩
  have hT5 : (⟨h, g, d, t, os⟩ : Shared).TypeIs (.builtin "list_iterator.__next__") "wrapper_descriptor" := LI.type_next
  have f8 := LI.sub_own
  refine codeAny_call_builtin LI.slot_wget.plain LI.entry_wget (LI.slot_wget.check _ _ _ _ _ _ _ _ hT5 (LI.args_wget _ _ _) ?_)
  repeat (any_goals (first | assumption | wp_step))
theorem ga_entry {I : Addr} {o : Obj} {h : Heap} {g : Array GenState} {d : Drawn} {t : Nat} {os : OsState} {tk : Tok} {Q : Fin → Shared → Prop} (ho : h.get? I = some o) (hc : o.cls = .type "list_iterator") (hd : o.dict = none) {vs : Array Value} (hv : o.data = .fields vs) (hq : Q (.done (.ret (.ref h.objs.size))) ⟨h.push (mwObj I), g, d, t, os⟩) :
    wpAny (model prog w) A (Builtin.«object.__getattribute__» ⟨[.ref I, .str "__next__" tk], []⟩) Q E ⟨h, g, d, t, os⟩ := by
  obtain ⟨oc, od, oda, osl⟩ := o
  dsimp only at hc hd hv
  subst hc hd hv
  have hT : (⟨h, g, d, t, os⟩ : Shared).TypeIs (.ref I) "list_iterator" := ⟨_, ho, rfl⟩
  have hT5 : (⟨h, g, d, t, os⟩ : Shared).TypeIs (.builtin "list_iterator.__next__") "wrapper_descriptor" := LI.type_next
  have f4 := slot_listiter_next.lookup
  have f5 := LI.type_next
  have f6 := LI.slot_wget.lookup
  have f7 := LI.no_wset
  have f8 := LI.no_wdel
  have f9 := LI.slot_wget.bind (.builtin "list_iterator.__next__")
  repeat (any_goals (first | assumption | wp_step))
  refine wget_raw ho rfl ?_
  repeat (any_goals (first | assumption | wp_step))
theorem ga_raw {I : Addr} {o : Obj} {h : Heap} {g : Array GenState} {d : Drawn} {t : Nat} {os : OsState} {Q : Value → Shared → Prop} (ho : h.get? I = some o) (hc : o.cls = .type "list_iterator") (hd : o.dict = none) {vs : Array Value} (hv : o.data = .fields vs) (hq : Q (.ref h.objs.size) ⟨h.push (mwObj I), g, d, t + 1, os⟩) :
    wpAny (model prog w) A (getAttr (.ref I) "__next__" true) Q E ⟨h, g, d, t, os⟩ := by
  obtain ⟨oc, od, oda, osl⟩ := o
  dsimp only at hc hd hv
  subst hc hd hv
  have hT : ∀ tk', (⟨h, g, d, tk', os⟩ : Shared).TypeIs (.ref I) "list_iterator" := fun _ => ⟨_, ho, rfl⟩
  have f3 := LI.slot_ga.lookup
  have f4 := LI.slot_ga.bind (.ref I)
  have f5 := slot_listiter_next.lookup
  unfold getAttr getAttrBy
  repeat (any_goals (first | assumption | exact hT _ | wp_step))
  refine codeAny_call_builtin LI.slot_ga.plain LI.entry_ga (LI.slot_ga.check _ _ _ _ _ _ _ _ (hT _) (LI.args_ga _ _) (ga_entry ho rfl rfl rfl ?_))
  repeat (any_goals (first | assumption | exact hT _ | wp_step))
end
end
end Mine
end
section
open PySem PySem.Calls PySem.W PyProof.Rows
set_option maxRecDepth 100000
namespace Mine
noncomputable section
noncomputable def CH.del (H : CH) (a : Addr) : CH := fun b => if b = a then none else H b
theorem CH.del_le {H : CH} {a : Addr} : (H.del a).Le H := fun b c e => by
  unfold CH.del at e; split at e
  · cases e
  · exact e
theorem CH.del_same {H : CH} {a : Addr} : H.del a a = none := by simp [CH.del]
theorem CH.del_ne {H : CH} {a b : Addr} (h : b ≠ a) : H.del a b = H b := by simp [CH.del, h]
/-- a new exception of a class on its way, seen from where it began -/
inductive PE (C : Cx) (H : CH) (s : Shared) (cls : String) (R : Loc → CH → Prop) (ev : Value) (s' : Shared) : Prop
  | mk (e : Addr) (oe : Obj) (vs : Array Value) (m' : Loc) (H' : CH) (h1 : ev = .ref e) (h2 : s'.heap.get? e = some oe) (h3 : oe.cls = .type cls) (h4 : oe.data = .fields vs) (h5 : vs[1]? = some .none) (h6 : ¬ Imm oe) (h7 : s.heap.get? e = none) (h8 : H' e = none) (h9 : C.h₀.get? e = none) (hS : St C m' H' s') (ha : After C H s H' s') (q : R m' H') : PE C H s cls R ev s'
section
variable {C : Cx} {A : Around} {m : Loc} {H : CH} {s : Shared} {K : Frag} {mg mb : Str → Option Value} {Q : V → Loc → CH → Prop} {cls : String} {R : Loc → CH → Prop}
theorem PE.mono {m₁ : Loc} {H₁ : CH} {s₁ s₂ : Shared} {ev : Value} (S₁ : St C m₁ H₁ s₁) (a : After C H s H₁ s₁) (x : PE C H₁ s₁ cls R ev s₂) : PE C H s cls R ev s₂ := by
  obtain ⟨e, oe, vs, m', H', a1, a2, a3, a4, a5, a6, a7, a8, a9, S', af, q⟩ := x
  refine ⟨e, oe, vs, m', H', a1, a2, a3, a4, a5, a6, ?_, a8, a9, S', a.then S₁ af, q⟩
  cases h : s.heap.get? e with
  | none => rfl
  | some o => obtain ⟨o', e'⟩ := a.there e o h; rw [a7] at e'; cases e'
noncomputable def EVX (C : Cx) (A : Around) (e : PySem.Expr) (m : Loc) (H : CH) (Q : V → Loc → CH → Prop) (cls : String) (R : Loc → CH → Prop) : Prop := ∀ s, St C m H s → wpAny (model C.prog C.w) A (eval e C.env) (PV C H s Q) (PE C H s cls R) s
noncomputable def EXX (C : Cx) (A : Around) (b : List Stmt) (m : Loc) (H : CH) (Q : Fl → Loc → CH → Prop) (cls : String) (R : Loc → CH → Prop) : Prop := ∀ s, St C m H s → wpAny (model C.prog C.w) A (execs b C.env) (PF C H s Q) (PE C H s cls R) s
noncomputable def ESX (C : Cx) (A : Around) (st : Stmt) (m : Loc) (H : CH) (Q : Fl → Loc → CH → Prop) (cls : String) (R : Loc → CH → Prop) : Prop := ∀ s, St C m H s → wpAny (model C.prog C.w) A (exec st C.env) (PF C H s Q) (PE C H s cls R) s
noncomputable def CVX (C : Cx) (A : Around) (f : V) (vs : List V) (m : Loc) (H : CH) (Q : V → Loc → CH → Prop) (cls : String) (R : Loc → CH → Prop) : Prop := ∀ s rf rs, St C m H s → VR s.heap f rf → VRs s.heap vs rs → wpAny (model C.prog C.w) A (call rf rs []) (PV C H s Q) (PE C H s cls R) s
theorem EXX_cons {st : Stmt} {rest : List Stmt} {Q : Fl → Loc → CH → Prop} (h : ESX C A st m H (fun fl m₁ H₁ => match fl with | .next => EXX C A rest m₁ H₁ Q cls R | fl => Q fl m₁ H₁) cls R) : EXX C A (st :: rest) m H Q cls R := fun s S => by
  refine wpAny_execs_cons (wpAny_mono (h s S) ?_ fun _ _ x => x)
  rintro f s₁ ⟨fl, m₁, H₁, hf, S₁, af₁, h₁⟩
  cases fl with
  | next => cases hf; exact wpAny_mono (h₁ s₁ S₁) (fun _ _ x => x.mono S₁ af₁) fun _ _ x => x.mono S₁ af₁
  | brk => cases hf; exact ⟨.brk, m₁, H₁, rfl, S₁, af₁, h₁⟩
  | cont => cases hf; exact ⟨.cont, m₁, H₁, rfl, S₁, af₁, h₁⟩
  | ret v => obtain ⟨r, rfl, hr⟩ := hf; exact ⟨.ret v, m₁, H₁, ⟨r, rfl, hr⟩, S₁, af₁, h₁⟩
theorem EXX_of {b : List Stmt} {Q : Fl → Loc → CH → Prop} (h : EX C A b m H Q) : EXX C A b m H Q cls R := fun s S => wpAny_noRaise (h s S)
theorem ESX_assign {t e : PySem.Expr} {p : Pos} {Q : Fl → Loc → CH → Prop} (h : EVX C A e m H (fun v m₁ H₁ => ASG C A t v m₁ H₁ (Q .next)) cls R)
    (hs : swapsWithSole [t] e p.line C.env = pure false := by with_unfolding_all rfl) (hw : swappedStores [t] e C.env = pure none := by with_unfolding_all rfl) (ht : (assignEach [t] C.env).map (·.2) = [assign t C.env] := by with_unfolding_all rfl) : ESX C A (.Assign [t] e p) m H Q cls R := fun s S => by
  refine wpAny_Assign_stores (wpAny_mono (h s S) ?_ fun _ _ x => x) hs hw
  rintro a s₁ ⟨v, m₁, H₁, ra, S₁, af₁, h₁⟩
  rw [ht]
  refine wpAny_noRaise (wpAny_mono (h₁ s₁ a S₁ ra) ?_ fun _ _ x => x)
  rintro _ s₂ ⟨m₂, H₂, S₂, af₂, h₂⟩
  exact ⟨.next, m₂, H₂, rfl, S₂, af₁.then S₁ af₂, h₂⟩
theorem EVX_call {func : PySem.Expr} {args : List PySem.Expr} {p : Pos} (h : EV C A func m H fun f m₁ H₁ => EL C A args m₁ H₁ fun vs m₂ H₂ => KP C f H₂ ∧ CVX C A f vs m₂ H₂ Q cls R)
    (hst : NoLone C args := by intro _; with_unfolding_all rfl)
    (he : eval (.Call func args [] p) C.env = (do callWith p (← eval func C.env) [] (backTo p (starEach args C.env)) (backToKw p (keywordEach [] C.env))) := by with_unfolding_all rfl) : EVX C A (.Call func args [] p) m H Q cls R := fun s S => by
  rw [he]
  refine wpAny_bind (wpAny_noRaise (wpAny_mono (h s S) ?_ fun _ _ x => x))
  rintro rf s₁ ⟨f, m₁, H₁, vf, S₁, af₁, h₁⟩
  refine callWith_any (wpAny_noRaise (evalArgs_of h₁ (hst p) S₁ ?_))
  rintro rs s₂ ⟨vs, m₂, H₂, vr, S₂, af₂, hk, h₂⟩
  have vf₂ := vf.keep (af₂.tup S₁)
  obtain ⟨k, L⟩ := hk s₂ rf S₂.toHS vf₂
  exact ⟨k, L, wpAny_mono (h₂ s₂ rf rs S₂ vf₂ vr) (fun _ _ x => x.mono S₂ (af₁.then S₁ af₂)) fun _ _ x => x.mono S₂ (af₁.then S₁ af₂)⟩
theorem Imm.mw {I : Addr} : Imm (mwObj I) := ⟨rfl, .inl ⟨"method-wrapper", by decide, rfl⟩, (by intro _ _ e; cases e), (by intro _ e; cases e), (by intro _ _ _ e; cases e)⟩
theorem KP_mw {I : Addr} : KP C (.imm (mwObj I)) H := fun s rf S hf => by
  obtain ⟨_, a, rfl, ho⟩ := hf.imm_inv
  exact ⟨.machine, (Looks.ld (part := none) ho).andThen .now⟩
theorem HS.liter (S : HS C H s) {I l : Addr} {i : Nat} (h : H I = some (.liter l i)) : s.heap.get? I = some { cls := .type "list_iterator", data := .fields #[.ref l, .int i 0] } := by
  obtain ⟨_, o, ho, rfl⟩ := S.own I _ h; exact ho
theorem CV_iter {l : Addr} {xs : List V} (hl : LAt C H l xs) (h : ∀ I, H I = none → C.h₀.get? I = none → Q (.ref I) m (H.set I (.liter l 0))) : CV C A (.con (.builtin "iter")) [.ref l] [] m H Q := fun s rf rs rkw S hf hva hk => by
  have := hk.nil_inv; subst this
  rw [hf.con_inv]
  obtain ⟨x, rfl, hx⟩ := one_inv hva
  rw [hx.ref_inv]
  obtain ⟨items, n, hL, hs, hz⟩ := S.toHS.list hl
  refine call_function_entry (by decide +kernel) (by decide +kernel) kdk_entry_iter (kdk_args_iter _) ?_
  unfold Builtin.«iter»
  refine wpAny_bind (m := someArgs "iter" 1 2 _) (wpAny_of_eq (a := [Value.ref l]) (by first | rfl | kernel_rfl) ?_)
  show wpAny _ _ (pyIter (.ref l) >>= _) _ _ _
  refine wpAny_bind (wpAny_pyIter_list hL.isList ?_)
  exact wpAny_pure ⟨_, rfl, _, m, _, .ref, S.alloc (tk := s.toks) (c := .liter l 0) rfl, .alloc (tk := s.toks), h _ S.toHS.fresh S.toHS.freshb⟩
theorem GA_next {I l : Addr} {i : Nat} (hI : H I = some (.liter l i)) (h : Q (.imm (mwObj I)) m H) : O1 C A (fun r => getAttr r "__next__" true) (.ref I) m H Q := fun s r S hr => by
  rw [hr.ref_inv]
  have ho := S.toHS.liter hI
  obtain ⟨hh, g, d, t, os⟩ := s
  exact ga_raw ho rfl rfl rfl ⟨_, m, H, .imm .mw (Heap.get?_push_size _ rfl), S.more (tk := t + 1) (keep_push _ _), .more (tk := t + 1) (keep_push _ _), h⟩
theorem check_mw (I : Addr) : checkBoundCall "list_iterator.__next__" ⟨[.ref I], []⟩ = pure () := by first | kernel_rfl | rfl
theorem quiet_mw {as : Args} : (Code.builtin "list_iterator.__next__" as).quiet = true := Code.quiet_builtin _ (by decide +kernel)
theorem call_mw {I W : Addr} {E : Value → Shared → Prop} {Q : Value → Shared → Prop} (hW : s.heap.get? W = some (mwObj I))
    (h : wpAny (model C.prog C.w) A.in1 (Builtin.«list_iterator.__next__» ⟨[.ref I], []⟩) (fun fin s' => ∃ v, fin = .done (.ret v) ∧ Q v s') E s) :
    wpAny (model C.prog C.w) A (call (.ref W) []) Q E s := by
  refine wpAny_call (codeAny_of_tree ?_)
  show wpAny _ A.in1 (callAny (.ref W) ⟨[], []⟩) _ _ s
  simp only [callAny]
  refine wpAny_bind (wpAny_load hW ?_)
  simp only [show (Value.type "method-wrapper" == Value.type "method" || Value.type "method-wrapper" == Value.type "builtin_function_or_method" || Value.type "method-wrapper" == Value.type "method-wrapper") = true by decide, if_true]
  show wpAny _ A.in1 (if (Value.type "method-wrapper" != Value.type "method") = true then (do checkBoundCall "list_iterator.__next__" ⟨[.ref I], []⟩; again (.builtin "list_iterator.__next__" ⟨[.ref I], []⟩)) else _) _ _ s
  rw [if_pos (by decide), check_mw]
  refine wpAny_bind (wpAny_pure (wpAny_pure ⟨quiet_mw, codeAny_builtin entry_listiter_next ?_⟩))
  rw [show A.under (.builtin "list_iterator.__next__" ⟨[.ref I], []⟩) = A.in1 from Around.under_plainId (by decide +kernel) _]
  refine wpAny_mono h (fun fin s' ⟨v, e, q⟩ => ?_) fun _ _ x => x
  subst e; exact q
theorem CV_mw {I l : Addr} {i : Nat} {xs : List V} {x : V} (hI : H I = some (.liter l i)) (hl : LAt C H l xs) (hx : xs[i]? = some x) (h : Q x m (H.set I (.liter l (i + 1)))) : CV C A (.imm (mwObj I)) [] [] m H Q := fun s rf rs rkw S hf hva hk => by
  have := hk.nil_inv; subst this
  have := hva.nil_inv; subst this
  obtain ⟨_, W, rfl, hW⟩ := hf.imm_inv
  have ho := S.toHS.liter hI
  obtain ⟨items, n, hL, hvs, hz⟩ := S.toHS.list hl
  obtain ⟨r, hr, hvr⟩ := hvs.get hx
  have hr' : items[i]? = some r := by simpa using hr
  refine call_mw hW ?_
  show wpAny _ _ (field (.ref I) 0 >>= _) _ _ s
  refine wpAny_bind (wpAny_field ho rfl (x := .ref l) rfl ?_)
  show wpAny _ _ (if (Value.ref l == Value.none) = true then _ else _) _ _ s
  rw [if_neg (show ¬ ((Value.ref l == Value.none) = true) from Bool.false_ne_true)]
  show wpAny _ _ (field (.ref I) 1 >>= _) _ _ s
  refine wpAny_bind (wpAny_field ho rfl (x := .int i 0) rfl ?_)
  show wpAny _ _ (seqItems? (.ref l) >>= _) _ _ s
  refine wpAny_bind (wpAny_seqItems hL rfl ?_)
  simp only [Int.toNat_natCast, hr']
  refine wpAny_bind (wpAny_setField ho rfl (by simp) (wpAny_pure ⟨r, rfl, ?_⟩))
  have ho' := Heap.get?_update_self (Obj.mapFields (·.setIfInBounds 1 (rawInt ((i : Int) + 1)))) ho rfl
  exact PV.upd (tk := s.toks) (c' := .liter l (i + 1)) S hI (Heap.SameBut.update ..) ho' (by show _ = _; simp [Obj.mapFields, rawInt]) hvr h
/-- it is at its end: StopIteration, and the iterator is forgotten -/
theorem HS.fresh' {H' : CH} {s' : Shared} {a : Addr} (S' : HS C H' s') (h : s.heap.get? a = none) (S : St C m H s) (l : H'.Le H := by exact CH.del_le) : H' a = none := l.absent (by
  cases e : H a with
  | none => rfl
  | some c => obtain ⟨_, o, ho, _⟩ := S.own a c e; rw [h] at ho; cases ho)
theorem St.freshb' {a : Addr} (S : St C m H s) (h : s.heap.get? a = none) : C.h₀.get? a = none := by
  cases e : C.h₀.get? a with
  | none => rfl
  | some c => rw [S.base a c e] at h; cases h
theorem CVX_mw {I l : Addr} {i : Nat} {xs : List V} (hA : A.handled = none) (hI : H I = some (.liter l i)) (hl : LAt C H l xs) (hx : xs.length ≤ i) (h : R m (H.del I)) : CVX C A (.imm (mwObj I)) [] m H Q "StopIteration" R := fun s rf rs S hf hva => by
  have := hva.nil_inv; subst this
  obtain ⟨_, W, rfl, hW⟩ := hf.imm_inv
  have ho := S.toHS.liter hI
  obtain ⟨items, n, hL, hvs, hz⟩ := S.toHS.list hl
  have hr' : items[i]? = none := Array.getElem?_eq_none (by omega)
  refine call_mw hW ?_
  show wpAny _ _ (field (.ref I) 0 >>= _) _ _ s
  refine wpAny_bind (wpAny_field ho rfl (x := .ref l) rfl ?_)
  show wpAny _ _ (if (Value.ref l == Value.none) = true then _ else _) _ _ s
  rw [if_neg (show ¬ ((Value.ref l == Value.none) = true) from Bool.false_ne_true)]
  show wpAny _ _ (field (.ref I) 1 >>= _) _ _ s
  refine wpAny_bind (wpAny_field ho rfl (x := .int i 0) rfl ?_)
  show wpAny _ _ (seqItems? (.ref l) >>= _) _ _ s
  refine wpAny_bind (wpAny_seqItems hL rfl ?_)
  simp only [Int.toNat_natCast, hr']
  refine wpAny_bind (wpAny_rule (wpAny_bind (wpAny_setField ho rfl (by simp) ?_)))
  show wpAny _ _ (newExc (.type "StopIteration") [] >>= _) _ _ _
  refine wpAny_bind ?_
  simp only [newExc, newTuple]
  refine wpAny_bind (wpAny_newObj_type ?_ (by size_fits))
  refine wpAny_bind (m := firstArgMember _ _) (wpAny_of_eq (a := Value.none) (by first | rfl | (simp only [firstArgMember]; rfl)) ?_)
  refine wpAny_newObj_type ?_ (by size_fits)
  simp only [raiseNew]
  refine wpAny_bind (wpAny_handled ?_)
  rw [show A.in1.handled = none from hA]
  refine wpAny_bind (wpAny_pure (wpAny_throw ?_))
  have hu : Heap.SameBut I s.heap (s.heap.update I (Obj.mapFields (·.setIfInBounds 0 .none))) := Heap.SameBut.update ..
  have hb := (S.own I _ hI).1
  have ni : ¬ Imm ({ cls := .type "list_iterator", data := .fields #[.ref l, .int i 0] } : Obj) := not_imm_cls (T := "list_iterator") rfl (by decide) (by intro _ _ _ e; cases e; intro q; cases q)
  have ho2 := Heap.get?_update_self (Obj.mapFields (·.setIfInBounds 0 .none)) ho rfl
  generalize hh1 : s.heap.update I (Obj.mapFields (·.setIfInBounds 0 .none)) = h1 at hu ho2 ⊢
  have S1 : St C m (H.del I) { s with heap := h1 } := (S.less CH.del_le).hid (tk := s.toks) ho CH.del_same hb (by intro _ _ e; cases e) ni hu.extBut
  generalize hh2 : h1.push { cls := .type "tuple", data := .seq #[] } = h2
  have k2 : ∀ b o, h1.get? b = some o → h2.get? b = some o := fun b o e => by rw [← hh2]; exact Heap.get?_push_of_some _ e
  generalize hex : ({ cls := .type "StopIteration", data := .fields (#[.ref h1.objs.size, .none, .none, .none, .bool false, .none] ++ ownMembersOf (.type "StopIteration") []) } : Obj) = ex
  have k3 : ∀ b o, h1.get? b = some o → (h2.push ex).get? b = some o := fun b o e => Heap.get?_push_of_some _ (k2 b o e)
  have S3 : St C m (H.del I) { s with heap := h2.push ex } := S1.more (tk := s.toks) k3
  have hnone : s.heap.get? h2.objs.size = none := by
    cases e : s.heap.get? h2.objs.size with
    | none => rfl
    | some o =>
      have h1n : ∃ o', h1.get? h2.objs.size = some o' := by
        by_cases q : h2.objs.size = I
        · exact ⟨_, by rw [q]; exact ho2⟩
        · exact ⟨o, (hu.2 _ q).trans e⟩
      obtain ⟨o', e'⟩ := h1n
      exact absurd (Heap.lt_size (k2 _ _ e')) (Nat.lt_irrefl _)
  have hex1 : ex.isFreed = false := by rw [← hex]; rfl
  refine ⟨h2.objs.size, ex, _, m, H.del I, rfl, Heap.get?_push_size _ hex1, by rw [← hex], by rw [← hex], by rfl, ?_, hnone, S3.toHS.fresh' hnone S, S.freshb' hnone, S3, ?_, h⟩
  · rw [← hex]; exact not_imm_cls (T := "StopIteration") rfl (by decide) (by intro vs x t e; cases e; intro q; cases q)
  · refine ⟨fun b o hbl hn e => ?_, fun b o hn _ => CH.del_le.absent hn, fun b o e => ?_, rfl, rfl⟩
    · have hbI : b ≠ I := fun q => by subst q; rw [hn] at hI; cases hI
      exact ⟨o, k3 b o ((hu.2 b hbI).trans e), .refl o⟩
    · by_cases q : b = I
      · subst q; exact ⟨_, k3 b _ ho2⟩
      · exact ⟨o, k3 b o ((hu.2 b q).trans e)⟩
end
end
end Mine
end
section
open PySem PySem.Calls PySem.W PyProof.Rows
set_option maxRecDepth 100000
namespace Mine
noncomputable section
section
variable {C : Cx} {A : Around} {m : Loc} {H : CH} {s : Shared} {K : Frag} {mg mb : Str → Option Value} {cls : String} {R : Loc → CH → Prop}
noncomputable def framesOf (l : List Env) : List Addr := l.filterMap (·.frame)
theorem frames_fun {base h₀ : Heap} {h : Heap} : ∀ {l : List Env}, (∀ e ∈ l, FrameOk h₀ H h e) → (∀ a ∈ framesOf l, base.get? a = none) → h.FunFrames base l
  | [], _, _ => trivial
  | e :: l, F, hb => by
    obtain ⟨a1, a2, a3, f, o, es, ep, hf, ho, hd, hn, hb0⟩ := F e List.mem_cons_self
    refine ⟨by rw [a1]; decide, ⟨f, o, hf, hb f ?_, ho, fun vs q => by rw [hd] at q; cases q⟩, frames_fun (fun e' he => F e' (List.mem_cons_of_mem _ he)) fun a ha => hb a ?_⟩
    · unfold framesOf; rw [List.filterMap_cons, hf]; exact List.mem_cons_self
    · unfold framesOf at ha ⊢; rw [List.filterMap_cons, hf]; exact List.mem_cons_of_mem _ ha
theorem frames_mem {h₀ h : Heap} {l : List Env} (F : ∀ e ∈ l, FrameOk h₀ H h e) {a : Addr} (ha : a ∈ framesOf l) : ∃ o es ep, h.get? a = some o ∧ o.data = .dict es ep ∧ H a = none ∧ h₀.get? a = none := by
  unfold framesOf at ha
  obtain ⟨e, he, hf⟩ := List.mem_filterMap.mp ha
  obtain ⟨_, _, _, f, o, es, ep, hf', ho, hd, hn, hb⟩ := F e he
  rw [hf'] at hf; cases hf
  exact ⟨o, es, ep, ho, hd, hn, hb⟩
/-- what a station of an exception leaves: the exception and its trace at hand, all else as it was but for frames made ready -/
structure Stood (C : Cx) (e : Addr) (cls : Value) (s s' : Shared) : Prop where
  rest : ∀ b o, b ≠ e → b ∉ framesOf C.fr → s.heap.get? b = some o → s'.heap.get? b = some o
  frames : ∀ b, b ∈ framesOf C.fr → ∀ o, s.heap.get? b = some o → ∃ o', s'.heap.get? b = some o' ∧ o'.data = o.data
  same : s' = { s with heap := s'.heap }
  trace : ∃ oe vs T oT ts, s'.heap.get? e = some oe ∧ oe.cls = cls ∧ oe.data = .fields vs ∧ vs[1]? = some (.ref T) ∧ s.heap.get? T = none ∧ T ≠ e ∧ s'.heap.get? T = some oT ∧ oT.data = .fields ts ∧ ts[3]? = some .none ∧ ¬ Imm oT
theorem trace_not_imm {ts : Array Value} {L : Addr} (h : ts[1]? = some (.ref L)) : ¬ Imm { cls := .type "traceback", data := .fields ts } :=
  not_imm_cls (T := "traceback") rfl (by decide) (by intro vs x t e q; cases e; rw [h] at q; cases q)
theorem note_first {E : Value → Shared → Prop} {Q : Unit → Shared → Prop} {outer : List Env} {e : Addr} {oe : Obj} {vs : Array Value} (hA : A.frames = some C.fr) (hfr : C.fr = C.env :: outer) (S : St C m H s) (he : s.heap.get? e = some oe) (hd : oe.data = .fields vs) (h1 : vs[1]? = some .none)
    (h : ∀ s', Stood C e oe.cls s s' → Q () s') :
    wpAny (model C.prog C.w) A (noteFrame (.ref e) C.env) (fun _ s₂ => wpAny (model C.prog C.w) A (setFlight (.ref e) none) Q E s₂) E s := by
  have hef : e ∉ framesOf C.fr := fun q => by
    obtain ⟨o, es, ep, ho, hdd, _⟩ := frames_mem S.frs q
    rw [he] at ho; cases ho; rw [hd] at hdd; cases hdd
  have hb : ∀ a, a ∈ e :: framesOf C.fr → (hideAll s.heap (e :: framesOf C.fr)).get? a = none := fun a ha => hideAll_none _ ha
  have hl : s.heap.FunFrames (hideAll s.heap (e :: framesOf C.fr)) (C.env :: outer) := by
    rw [← hfr]; exact frames_fun S.frs fun a ha => hb a (List.mem_cons_of_mem _ ha)
  obtain ⟨_, _, _, f, o, es, ep, hf, ho, hdd, _, _⟩ := S.frs C.env (by rw [hfr]; exact List.mem_cons_self)
  unfold noteFrame
  simp only [hf]
  refine wpAny_bind (wpAny_field he hd h1 ?_)
  rw [if_neg (by decide)]
  refine wpAny_bind (wpAny_frameOf_fun (by rw [hA, hfr]) hl hf fun h₁ hs₁ => ?_)
  rw [show (C.env :: outer).filterMap (·.frame) = framesOf C.fr from by rw [hfr]; rfl] at hs₁
  refine wpAny_bind (wpAny_entryPlaceOf fun pl hpl => ?_)
  unfold EntryCells.newEntry newFields
  refine wpAny_bind (wpAny_newObj_type ?_ (hpl.sizeOk5 _ _ _ _ _))
  generalize hts : ([Value.none, Value.ref f, Value.none, rawInt f, Value.none] ++ (if pl.isEmpty then List.replicate 6 Value.none else pl)).toArray = ts
  have ts1 : ts[1]? = some (.ref f) := by rw [← hts]; simp
  have ts3 : 3 < ts.size := by rw [← hts]; simp
  have he₁ : h₁.get? e = some oe := (hs₁.2.1 e hef).trans he
  have he₂ := Heap.get?_push_of_some (h := h₁) { cls := .type "traceback", dict := none, data := .fields ts } he₁
  have hT₂ : (h₁.push { cls := .type "traceback", dict := none, data := .fields ts }).get? h₁.objs.size = some { cls := .type "traceback", dict := none, data := .fields ts } := Heap.get?_push_size h₁ rfl
  have hsz : 1 < vs.size := (Array.getElem?_eq_some_iff.mp h1).1
  have hTe : h₁.objs.size ≠ e := Nat.ne_of_gt (Heap.lt_size he₁)
  have hTn : s.heap.get? h₁.objs.size = none := by
    cases q : s.heap.get? h₁.objs.size with
    | none => rfl
    | some o => obtain ⟨sl, hs⟩ := hs₁.2.2 _ o q; exact absurd (Heap.lt_size hs) (Nat.lt_irrefl _)
  have low : ∀ b o, h₁.get? b = some o → b ≠ h₁.objs.size := fun b o hb => Nat.ne_of_lt (Heap.lt_size hb)
  generalize hh2 : h₁.push { cls := .type "traceback", dict := none, data := .fields ts } = h₂ at he₂ hT₂ ⊢
  have k2 : ∀ b o, h₁.get? b = some o → h₂.get? b = some o := fun b o hb => by rw [← hh2]; exact Heap.get?_push_of_some _ hb
  generalize h₁.objs.size = T at *
  refine wpAny_setField he₂ hd hsz ?_
  have hd₃ := Obj.data_mapFields hd (·.setIfInBounds 1 (Value.ref T))
  have he₃ := Heap.get?_update_self (Obj.mapFields (·.setIfInBounds 1 (Value.ref T))) he₂ (Obj.isFreed_of_fields hd₃)
  have hT₃ := (Heap.get?_update_other h₂ (Obj.mapFields (·.setIfInBounds 1 (Value.ref T))) (Ne.symm hTe)).trans hT₂
  unfold setFlight
  refine wpAny_bind (wpAny_field he₃ hd₃ (x := .ref T) (by simp [hsz]) ?_)
  rw [if_pos (show (Value.ref T != Value.none) = true from by simp)]
  refine wpAny_setField hT₃ rfl ts3 (h _ ?_)
  have keep : ∀ b o, b ≠ e → h₁.get? b = some o → ((h₂.update e (Obj.mapFields (·.setIfInBounds 1 (Value.ref T)))).update T (Obj.mapFields (·.setIfInBounds 3 ((none : Option Addr).elim Value.none fun f => rawInt f)))).get? b = some o := fun b o hbe hb => by
    rw [Heap.get?_update_other _ _ (Ne.symm (low b o hb)), Heap.get?_update_other _ _ (Ne.symm hbe)]
    exact k2 b o hb
  refine ⟨fun b o hbe hbf hbo => keep b o hbe ((hs₁.2.1 b hbf).trans hbo), fun b hbf o hbo => ?_, rfl, ?_⟩
  · obtain ⟨sl, hs⟩ := hs₁.2.2 b o hbo
    exact ⟨_, keep b _ (fun q => hef (q ▸ hbf)) hs, rfl⟩
  · have hT₄ := Heap.get?_update_self (Obj.mapFields (·.setIfInBounds 3 ((none : Option Addr).elim Value.none fun f => rawInt f))) hT₃ (Obj.isFreed_of_fields (Obj.data_mapFields rfl _))
    refine ⟨_, _, T, _, _, (Heap.get?_update_other _ _ hTe).trans he₃, Obj.cls_mapFields _ _, hd₃, by simp [hsz], hTn, hTe, hT₄, Obj.data_mapFields rfl _, by simp [ts3], ?_⟩
    have : Obj.mapFields (·.setIfInBounds 3 ((none : Option Addr).elim Value.none fun f => rawInt f)) { cls := .type "traceback", dict := none, data := .fields ts } = { cls := .type "traceback", dict := none, data := .fields (ts.setIfInBounds 3 .none) } := rfl
    rw [this]
    exact trace_not_imm (L := f) (by rw [Array.getElem?_setIfInBounds_ne (by decide)]; exact ts1)
theorem Stood.tup {e : Addr} {cls : Value} {s' : Shared} {oe : Obj} (x : Stood C e cls s s') (S : St C m H s) (he : s.heap.get? e = some oe) (ni : ¬ Imm oe) : TupKeep s.heap s'.heap := fun b o i hbo =>
  x.rest b o (fun q => by subst q; rw [he] at hbo; cases hbo; exact ni i) (fun q => by
    obtain ⟨o', es, ep, ho, hd, _⟩ := frames_mem S.frs q
    rw [hbo] at ho; cases ho; exact i.2.2.1 _ _ hd) hbo
theorem Stood.st {e : Addr} {cls : Value} {s' : Shared} {oe : Obj} (x : Stood C e cls s s') (S : St C m H s) (he : s.heap.get? e = some oe) (ni : ¬ Imm oe) (hH : H e = none) (hb : C.h₀.get? e = none) (nd : ∀ es ep, oe.data ≠ .dict es ep) : St C m H s' := by
  have tk := x.tup S he ni
  have nf : ∀ b c, H b = some c → b ∉ framesOf C.fr := fun b c e q => by
    obtain ⟨_, _, _, _, _, hn, _⟩ := frames_mem S.frs q
    rw [hn] at e; cases e
  have nb : ∀ b o, C.h₀.get? b = some o → b ∉ framesOf C.fr := fun b o e q => by
    obtain ⟨_, _, _, _, _, _, hn⟩ := frames_mem S.frs q
    rw [hn] at e; cases e
  have data : ∀ b o, b ≠ e → s.heap.get? b = some o → ∃ o', s'.heap.get? b = some o' ∧ o'.data = o.data := fun b o hbe hbo => by
    by_cases q : b ∈ framesOf C.fr
    · exact x.frames b q o hbo
    · exact ⟨o, x.rest b o hbe q hbo, rfl⟩
  refine ⟨⟨fun b o ho => x.rest b o (fun q => by subst q; rw [hb] at ho; cases ho) (nb b o ho) (S.base b o ho), fun b c hc => ?_, by rw [x.same]; exact S.gens⟩, ?_, S.loc, S.locb, ?_⟩
  · obtain ⟨h0, o, ho, r⟩ := S.own b c hc
    exact ⟨h0, o, x.rest b o (fun q => by subst q; rw [hH] at hc; cases hc) (nf b c hc) ho, r.keep tk⟩
  · obtain ⟨mr, ⟨o, es, ep, ho, hd, hk, hf⟩, kn⟩ := S.ns
    have hne : C.env.locals ≠ e := fun q => by rw [q, he] at ho; cases ho; exact nd _ _ hd
    obtain ⟨o', ho', hd'⟩ := data _ o hne ho
    exact ⟨mr, ⟨o', es, ep, ho', hd'.trans hd, hk, hf⟩, kn.keep tk⟩
  · exact S.frs.keep fun b o es ep _ hn hbo hd => by
      have hne : b ≠ e := fun q => by rw [q, he] at hbo; cases hbo; exact nd _ _ hd
      obtain ⟨o', ho', hd'⟩ := data b o hne hbo
      exact ⟨hn, o', ho', hd'⟩
theorem Stood.after {e : Addr} {cls : Value} {s₀ s' : Shared} {H₀ : CH} {oe : Obj} (x : Stood C e cls s s') (S : St C m H s) (he : s.heap.get? e = some oe) (a : After C H₀ s₀ H s) (hn : s₀.heap.get? e = none) : After C H₀ s₀ H s' := by
  have kin : ∀ b o, b ≠ e → s.heap.get? b = some o → ∃ o', s'.heap.get? b = some o' ∧ Kin o o' := fun b o hbe hbo => by
    by_cases q : b ∈ framesOf C.fr
    · obtain ⟨o', ho', hd'⟩ := x.frames b q o hbo
      obtain ⟨o'', es, ep, ho'', hd'', _⟩ := frames_mem S.frs q
      rw [hbo] at ho''; cases ho''
      exact ⟨o', ho', .inr ⟨⟨es, ep, hd''⟩, hd'⟩⟩
    · exact ⟨o, x.rest b o hbe q hbo, .refl o⟩
  refine ⟨fun b o hbl hb hbo => ?_, a.grow, fun b o hbo => ?_, ?_, ?_⟩
  · obtain ⟨o₁, e₁, k₁⟩ := a.stay b o hbl hb hbo
    obtain ⟨o₂, e₂, k₂⟩ := kin b o₁ (fun q => by subst q; rw [hn] at hbo; cases hbo) e₁
    exact ⟨o₂, e₂, k₁.trans k₂⟩
  · obtain ⟨o₁, e₁⟩ := a.there b o hbo
    obtain ⟨o₂, e₂, _⟩ := kin b o₁ (fun q => by subst q; rw [hn] at hbo; cases hbo) e₁
    exact ⟨o₂, e₂⟩
  · rw [x.same]; exact a.drawn
  · rw [x.same]; exact a.os
/-- try with one clause for a builtin class, without a name -/
theorem ES_try {body orelse suite : List Stmt} {b₀ : Stmt} {t : PySem.Expr} {p p' : Pos} {Q : Fl → Loc → CH → Prop} {outer : List Env} {T : String} (hA : A.frames = some C.fr) (hfr : C.fr = C.env :: outer)
    (hexc : isSubtype (.type T) (.type "BaseException") = pure true) (hnt : isSubtype (.type ((Manifest.find? T).elim "type" fun x => x.metatype)) (.type "tuple") = pure false) (hsub : isSubtype (.type cls) (.type T) = pure true)
    (h : EXX C A body m H (SeqE C A orelse Q) cls R)
    (ht : ∀ m' H' h', R m' H' → EV C (A.mark h') t m' H' fun v m₁ H₁ => v = .con (.type T) ∧ EX C (A.mark h') (b₀ :: suite) m₁ H₁ Q) :
    ES C A (.Try body [.ExceptHandler (some t) none (b₀ :: suite) p'] orelse [] p) m H Q := fun s S => by
  refine wpAny_Try_except (wpAny_mono (h s S) ?_ ?_)
  · rintro f s₁ ⟨fl, m₁, H₁, hf, S₁, af₁, h₁⟩
    cases fl with
    | next => cases hf; exact wpAny_mono (h₁ s₁ S₁) (fun _ _ x => x.mono S₁ af₁) fun _ _ x => x
    | brk => cases hf; exact ⟨.brk, m₁, H₁, rfl, S₁, af₁, h₁⟩
    | cont => cases hf; exact ⟨.cont, m₁, H₁, rfl, S₁, af₁, h₁⟩
    | ret v => obtain ⟨r, rfl, hr⟩ := hf; exact ⟨.ret v, m₁, H₁, ⟨r, rfl, hr⟩, S₁, af₁, h₁⟩
  · rintro ev s₁ ⟨e, oe, vs, m₁, H₁, rfl, he, hc, hd, h1, ni, hn, hH, hb, S₁, af₁, hR⟩
    refine note_first hA hfr S₁ he hd h1 fun s₂ x => ?_
    have S₂ := x.st S₁ he ni hH hb (by intro es ep q; rw [hd] at q; cases q)
    have af₂ := x.after S₁ he af₁ hn
    obtain ⟨oe', vs', Tb, oT, ts, g1, g2, g3, g4, g5, g6, g7, g8, g9, nT⟩ := x.trace
    have hTH : H₁ Tb = none := by
      cases q : H₁ Tb with
      | none => rfl
      | some c => obtain ⟨_, o, ho, _⟩ := S₁.own Tb c q; rw [g5] at ho; cases ho
    have hTb : C.h₀.get? Tb = none := by
      cases q : C.h₀.get? Tb with
      | none => rfl
      | some o => rw [S₁.base Tb o q] at g5; cases g5
    have hTn : s.heap.get? Tb = none := by
      cases q : s.heap.get? Tb with
      | none => rfl
      | some o => obtain ⟨o', e'⟩ := af₁.there Tb o q; rw [g5] at e'; cases e'
    have hTl : Tb ≠ C.env.locals := fun q => by obtain ⟨o, e'⟩ := S₁.at_loc; rw [← q, g5] at e'; cases e'
    have hel : e ≠ C.env.locals := fun q => by
      obtain ⟨mr, ⟨o, es, ep, ho, hd', _⟩, _⟩ := S₁.ns
      rw [← q, he] at ho; cases ho; rw [hd] at hd'; cases hd'
    rw [hc] at g2
    refine wpAny_handleBy_builtin (X := cls) (T := T) (b := true) hexc hnt hsub (wpAny_noRaise (wpAny_mono (ht m₁ H₁ _ hR s₂ S₂) ?_ fun _ _ x => x))
    rintro c s₃ ⟨v, m₃, H₃, hv, S₃, af₃, rfl, hx⟩
    obtain ⟨oe3, e3, k3⟩ := af₃.stay e oe' hel hH g1
    rw [k3.exact (by intro es ep q; rw [g3] at q; cases q)] at e3
    obtain ⟨oT3, eT3, kT3⟩ := af₃.stay Tb oT hTl hTH g7
    rw [kT3.exact (by intro es ep q; rw [g8] at q; cases q)] at eT3
    refine ⟨hv.con_inv, ⟨oe', e3, g2⟩, ?_⟩
    simp only [if_true]
    refine wpAny_setFlight_none e3 g3 g4 eT3 g8 (Array.getElem?_eq_some_iff.mp g9).1 ?_
    have hu : Heap.SameBut Tb s₃.heap (s₃.heap.update Tb (Obj.mapFields (·.setIfInBounds 3 .none))) := Heap.SameBut.update ..
    have S₄ : St C m₃ H₃ { s₃ with heap := s₃.heap.update Tb (Obj.mapFields (·.setIfInBounds 3 .none)) } :=
      S₃.hid (tk := s₃.toks) eT3 (af₃.grow Tb _ hTH g7) hTb (by intro es ep q; rw [g8] at q; cases q) nT hu.extBut
    have af₄ : After C H s H₃ { s₃ with heap := s₃.heap.update Tb (Obj.mapFields (·.setIfInBounds 3 .none)) } := (af₂.then S₂ af₃).hid (tk := s₃.toks) hTn hu.extBut
    exact wpAny_noRaise (wpAny_mono (hx _ S₄) (fun _ _ x => x.mono S₄ af₄) fun _ _ x => x)
end
end
end Mine
end
section
open PySem PySem.Calls PySem.W PyProof.Rows
set_option maxRecDepth 100000
namespace Mine
noncomputable section
section
variable {C : Cx} {A : Around} {m : Loc} {H : CH} {s : Shared} {K : Frag} {mg mb : Str → Option Value} {Q : V → Loc → CH → Prop}
noncomputable def BindsW (C : Cx) (H : CH) (fd : FuncData) (vs : List V) (kws binds : List (Str × V)) : Prop := ∀ (M : Model) (A : Around) (E : Value → Shared → Prop) (s : Shared) rs rkw (Q : List (Str × Value) → Shared → Prop), HS C H s → VRs s.heap vs rs → KWs s.heap kws rkw →
  (∀ rb h' tk, (∀ b o, s.heap.get? b = some o → h'.get? b = some o) → KWs h' binds rb → Q rb { s with heap := h', toks := tk }) → wpAny M A (bindArgs fd ⟨rs, rkw⟩) Q E s
theorem CALL_KW {f : Addr} {name qual : Str} {params : Arguments} {body : List Stmt} {scope : Scope} {cl : List (Str × Addr)} {dV kV doc pm cdv ct oc : Value} {an od : Option Addr} {osl : Array (Option Value)} {vs : List V} {kws binds : List (Str × V)} {m' : Loc} {Q : V → CH → Prop}
    (B : Bs C.h₀ K mg mb) (ho : K.lookup f = some ⟨oc, od, .func (fnX name qual params body scope cl dV kV doc pm an cdv ct), osl⟩) (hcd : codeIn K cdv qual = true) {n : Nat} (hA : AOK C A (n + 1))
    (hb : BindsW C H (fnX name qual params body scope cl dV kV doc pm an cdv ct) vs kws binds) (hok : (scope.names.all (fun x => x.2 != .cell) && binds.all (fun x => scope.names.lookup x.1 == some .local) && !scope.isCoroutine && !scope.isGenerator && scope.kind == .function) = true) (hm : m' = binds.reverse)
    (h : ∀ L, H L = none → C.h₀.get? L = none → AOK (C.at (callEnv (fnX name qual params body scope cl dV kV doc pm an cdv ct) L f)) (A.deeper (callEnv (fnX name qual params body scope cl dV kV doc pm an cdv ct) L f)) n → EX (C.at (callEnv (fnX name qual params body scope cl dV kV doc pm an cdv ct) L f)) (A.deeper (callEnv (fnX name qual params body scope cl dV kV doc pm an cdv ct) L f)) body m' H fun fl _ H' => Q (retOf fl) H') :
    CALL C A (.con (.ref f)) vs kws H Q := fun s rf rs rkw S F hf hv hkw => by
  simp only [Bool.and_eq_true, List.all_eq_true, Bool.not_eq_true', beq_iff_eq, bne_iff_ne] at hok
  obtain ⟨⟨⟨⟨hcell, hloc⟩, hco⟩, hgen⟩, hk⟩ := hok
  rw [hf.con_inv]
  refine codeAny_call_function hA.room (S.base _ _ (B.X _ _ ho)) rfl hco hgen rfl ((codeRec_of B.X hcd).keeps S.base) (hb _ _ _ s rs rkw _ S hv hkw fun rb h₁ tk₁ hk₁ hrb => ?_)
  have hloc' : ∀ x ∈ rb, scope.names.lookup x.1 = some .local := fun x hx => by
    have : x.1 ∈ binds.map (·.1) := hrb.1 ▸ List.mem_map_of_mem hx
    obtain ⟨y, hy, e⟩ := List.mem_map.mp this
    rw [← e]; exact hloc y hy
  have S₁ := S.more (tk := tk₁) hk₁
  refine wpAny_newFunctionEnv hcell hloc' (fun h₂ hns hsb => ⟨(B.lim.keeps S₁.base).fresh _ hsb, ?_⟩) hk
  have hk₂ : ∀ b o, h₁.get? b = some o → h₂.get? b = some o := fun b o e => hsb.extBut b o (Nat.ne_of_lt (Heap.lt_size e)) (Heap.get?_push_of_some _ e)
  have hk₃ : ∀ b o, s.heap.get? b = some o → h₂.get? b = some o := fun b o e => hk₂ b o (hk₁ b o e)
  dsimp only at hns hsb ⊢
  generalize hL : h₁.objs.size = L at *
  have hL0 : s.heap.get? L = none := by
    cases e : s.heap.get? L with
    | none => rfl
    | some o => have := Heap.lt_size (hk₁ _ _ e); rw [hL] at this; exact absurd this (Nat.lt_irrefl _)
  have hLb : C.h₀.get? L = none := by
    cases e : C.h₀.get? L with
    | none => rfl
    | some o => rw [S.base L o e] at hL0; cases hL0
  have hLH : H L = none := by
    cases e : H L with
    | none => rfl
    | some c => obtain ⟨_, o, ho', _⟩ := S.own L c e; rw [hL0] at ho'; cases ho'
  have S₂ : St (C.at (callEnv (fnX name qual params body scope cl dV kV doc pm an cdv ct) L f)) m' H { s with heap := h₂, toks := tk₁ + rb.length } := by
    refine ⟨(S.more hk₃).at, ⟨_, hns, fun x v e => ?_⟩, hLH, hLb, fun e he => ?_⟩
    · subst hm
      exact lookup_kws (hrb.rev.keep (.of_keep hk₂)) e
    · rcases List.mem_cons.mp he with rfl | he
      · obtain ⟨o', es, ep, ho', hd', _⟩ := hns
        exact ⟨hk, hgen, hco, _, o', es, ep, rfl, ho', hd', hLH, hLb⟩
      · exact F.keep (s' := { s with heap := h₂ }) (fun b o _ _ _ hn e _ => ⟨hn, o, hk₃ b o e, rfl⟩) e he
  refine codeAny_func (wpAny_noRaise (wpAny_mono (h L hLH hLb hA.at _ S₂) ?_ fun _ _ x => x))
  rintro fl s' ⟨f', m₂, H₂, hfl, T₂, af, q⟩
  have a : AfterC H s H₂ s' := (AfterC.more (tk := tk₁ + rb.length) hk₃).thenAt (C := C.at (callEnv (fnX name qual params body scope cl dV kV doc pm an cdv ct) L f)) af hL0
  cases f' with
  | ret v => obtain ⟨r, rfl, hr⟩ := hfl; exact ⟨v, H₂, hr, T₂.toHS.back, a, q⟩
  | next => cases hfl; exact ⟨V.none, H₂, .con, T₂.toHS.back, a, q⟩
  | brk => cases hfl; exact ⟨V.none, H₂, .con, T₂.toHS.back, a, q⟩
  | cont => cases hfl; exact ⟨V.none, H₂, .con, T₂.toHS.back, a, q⟩
/-- defaults that the text's top holds in a tuple -/
theorem BindsW.dflt {fd : FuncData} {vs : List V} {binds : List (Str × V)} {T : Addr} {items : List Value} {n : Nat} (B : Bs C.h₀ K mg mb) (hT : K.lookup T = some (seqObj "tuple" items.toArray n))
    (h : ∀ (h : Heap) rs, VRs h vs rs → ∃ (k : Option (Array Value) → Sem (List (Str × Value))) (rb : List (Str × Value)), bindArgs fd ⟨rs, []⟩ = (seqItems? (.ref T) >>= k) ∧ k (some items.toArray) = pure rb ∧ KWs h binds rb) : BindsW C H fd vs [] binds := fun M A E s rs rkw Q S hv hk hq => by
  have := hk.nil_inv; subst this
  obtain ⟨k, rb, e1, e2, e3⟩ := h s.heap rs hv
  rw [e1]
  refine wpAny_bind (wpAny_seqItems (S.base _ _ (B.X _ _ hT)) rfl ?_)
  rw [e2]
  exact wpAny_pure (hq rb s.heap s.toks (fun _ _ e => e) e3)
/-- a star's tuple, behind one name -/
theorem BindsW.star1 {fd : FuncData} {x y : Str} {v : V} {vs : List V} (hsz : vs.length ≤ sizeLine) (h : ∀ r rs, bindArgs fd ⟨r :: rs, []⟩ = (newTuple rs >>= fun t => pure [(x, r), (y, t)])) : BindsW C H fd (v :: vs) [] [(x, v), (y, .tup vs)] := fun M A E s rs rkw Q S hv hk hq => by
  have := hk.nil_inv; subst this
  obtain ⟨r, rs, rfl, a, b⟩ := hv.cons_inv
  rw [h]
  have hz : rs.length ≤ sizeLine := by rw [← b.length]; exact hsz
  unfold newTuple
  refine wpAny_bind (wpAny_newObj_type (wpAny_pure ?_) (by show rs.toArray.size ≤ sizeLine; simpa using hz))
  have k := keep_push s.heap (seqObj "tuple" rs.toArray 0)
  refine hq _ _ s.toks k ⟨rfl, .cons (a.keep (.of_keep k)) (.cons (.tup (Heap.get?_push_size _ rfl) (by rw [List.toList_toArray]; exact b.keep (.of_keep k))) .nil)⟩
theorem BindsW.star2 {fd : FuncData} {x y z : Str} {v w : V} {vs : List V} (hsz : vs.length ≤ sizeLine) (h : ∀ r q rs, bindArgs fd ⟨r :: q :: rs, []⟩ = (newTuple rs >>= fun t => pure [(x, r), (y, q), (z, t)])) : BindsW C H fd (v :: w :: vs) [] [(x, v), (y, w), (z, .tup vs)] := fun M A E s rs rkw Q S hv hk hq => by
  have := hk.nil_inv; subst this
  obtain ⟨r, rs, rfl, a, b⟩ := hv.cons_inv
  obtain ⟨q, rs, rfl, c, b⟩ := b.cons_inv
  rw [h]
  have hz : rs.length ≤ sizeLine := by rw [← b.length]; exact hsz
  unfold newTuple
  refine wpAny_bind (wpAny_newObj_type (wpAny_pure ?_) (by show rs.toArray.size ≤ sizeLine; simpa using hz))
  have k := keep_push s.heap (seqObj "tuple" rs.toArray 0)
  refine hq _ _ s.toks k ⟨rfl, .cons (a.keep (.of_keep k)) (.cons (c.keep (.of_keep k)) (.cons (.tup (Heap.get?_push_size _ rfl) (by rw [List.toList_toArray]; exact b.keep (.of_keep k))) .nil))⟩
variable {d : Addr} {kvs : List (Int × V)} {ep : Nat}
noncomputable def nxDict (d : Addr) (f : List (Int × V) → List V) (ep : Nat) (N : Nat) (H : CH) (i : Nat) : Option (Option V) := match H d with
  | some (.dict kvs ep') => if ep' = ep ∧ kvs.length = N then some (f kvs)[i]? else none
  | _ => none
theorem nxDict_inv {f : List (Int × V) → List V} {N : Nat} {i : Nat} {x : Option V} (h : nxDict d f ep N H i = some x) : ∃ kvs, H d = some (.dict kvs ep) ∧ kvs.length = N ∧ x = (f kvs)[i]? := by
  unfold nxDict at h
  split at h
  · rename_i kvs ep' e
    split at h
    · rename_i c; obtain ⟨rfl, c2⟩ := c; cases h; exact ⟨kvs, e, c2, rfl⟩
    · cases h
  · cases h
theorem raw_get {h : Heap} {kvs : List (Int × V)} {rs : List Value} (hr : VRs h (kvs.map (·.2)) rs) {i : Nat} {p : Int × V} (hp : kvs[i]? = some p) : ∃ r, (rawOf kvs rs)[i]? = some (p.1, r) ∧ VR h p.2 r := by
  obtain ⟨r, hr', hv⟩ := hr.get (i := i) (x := p.2) (by rw [List.getElem?_map, hp]; rfl)
  refine ⟨r, ?_, hv⟩
  unfold rawOf
  rw [List.getElem?_zip_eq_some]
  exact ⟨by rw [List.getElem?_map, hp]; rfl, hr'⟩
theorem raw_none {h : Heap} {kvs : List (Int × V)} {rs : List Value} (hr : VRs h (kvs.map (·.2)) rs) {i : Nat} (hp : kvs[i]? = none) : (rawOf kvs rs)[i]? = none := by
  rw [List.getElem?_eq_none_iff] at hp ⊢
  rw [raw_length hr]; exact hp
noncomputable abbrev keysOf (kvs : List (Int × V)) : List V := kvs.map fun p => .int p.1
noncomputable abbrev valsOf (kvs : List (Int × V)) : List V := kvs.map (·.2)
theorem prot_keys {I : Addr} {N : Nat} (hA : A.handled = none) (hne : d ≠ I) :
    Prot C A I (fun i _ o => o.cls = .type "dict_keyiterator" ∧ o.data = .fields #[.ref d, .int i 0, .int N 0, .int ep 0]) (nxDict d keysOf ep N) where
  plain := fun i _ o h e => not_imm_cls h.1 (by decide) (by intro vs x t e q; rw [h.2] at e; cases e; cases q) e
  nodict := fun i _ o es ep h e => by rw [h.2] at e; cases e
  kept := fun _ _ _ _ _ h => h
  item := fun H s i o v S hI ho hob hn => by
    obtain ⟨kvs, hd, rfl, hv⟩ := nxDict_inv hn
    obtain ⟨rs, hD, hrs⟩ := S.dict hd
    rw [List.getElem?_map] at hv
    obtain ⟨p, hp, rfl⟩ := Option.map_eq_some_iff.mp hv.symm
    obtain ⟨r, hr, _⟩ := raw_get hrs hp
    refine wpAny_pyNext_dict_item (knd := intKind C.prog C.w) (kvs := rawOf kvs rs) (by rw [raw_length hrs]; exact ⟨o, ho, hob.1, hob.2⟩) hD hr fun key h' hkey hit hs => ?_
    obtain ⟨t, rfl⟩ := Value.isInt_shape hkey
    rw [raw_length hrs] at hit
    obtain ⟨o', ho', hc', hd'⟩ := hit
    exact ⟨_, h', s.toks, o', rfl, rfl, .int, hs.extBut, ho', hc', hd'⟩
  done := fun H s i o S hI ho hob hn => by
    obtain ⟨kvs, hd, rfl, hv⟩ := nxDict_inv hn
    obtain ⟨rs, hD, hrs⟩ := S.dict hd
    have hp : kvs[i]? = none := by rw [List.getElem?_map] at hv; exact Option.map_eq_none_iff.mp hv.symm
    exact wpAny_pyNext_dict_end (knd := intKind C.prog C.w) (kvs := rawOf kvs rs) hA (by rw [raw_length hrs]; exact ⟨o, ho, hob.1, hob.2⟩) hD (raw_none hrs hp) fun h' he => ⟨h', s.toks, rfl, rfl, he⟩
  own := fun target v s i _ o Q ho hob h => letOwned_plain ho hob.1 (by decide) h
  self := fun s i _ o E Q ho hob h => wpAny_pyIter_keyiter (i := i) ⟨o, ho, hob.1, hob.2⟩ h
theorem seq_keys (B : Bs C.h₀ K mg mb) (hA : A.handled = none) (hd : H d = some (.dict kvs ep)) : SeqOf C A (.ref d) H (keysOf kvs) (fun H' => H' d = some (.dict kvs ep)) := by
  refine ⟨nxDict d keysOf ep kvs.length, fun s r S hr => ?_, fun H' i ok => ?_⟩
  · rw [hr.ref_inv]
    obtain ⟨rs, hD, hrs⟩ := S.dict hd
    refine wpAny_pyIter_dict (knd := intKind C.prog C.w) (B.sysm S hd) hD ?_
    rw [raw_length hrs]
    exact ⟨s.heap.objs.size, _, _, s.toks, _, rfl, rfl, keep_push _ _, size_none, Heap.get?_push_size _ rfl, ⟨rfl, rfl⟩, prot_keys hA (Nat.ne_of_lt hD.lt_size)⟩
  · unfold nxDict; rw [ok]; simp
theorem prot_vals {I : Addr} {N : Nat} (hA : A.handled = none) (hne : d ≠ I) :
    Prot C A I (fun i _ o => o.cls = .type "dict_valueiterator" ∧ o.data = .fields #[.ref d, .int i 0, .int N 0, .int ep 0]) (nxDict d valsOf ep N) where
  plain := fun i _ o h e => not_imm_cls h.1 (by decide) (by intro vs x t e q; rw [h.2] at e; cases e; cases q) e
  nodict := fun i _ o es ep h e => by rw [h.2] at e; cases e
  kept := fun _ _ _ _ _ h => h
  item := fun H s i o v S hI ho hob hn => by
    obtain ⟨kvs, hd, rfl, hv⟩ := nxDict_inv hn
    obtain ⟨rs, hD, hrs⟩ := S.dict hd
    rw [List.getElem?_map] at hv
    obtain ⟨p, hp, rfl⟩ := Option.map_eq_some_iff.mp hv.symm
    obtain ⟨r, hr, hvr⟩ := raw_get hrs hp
    refine wpAny_pyNext_values_item (knd := intKind C.prog C.w) (kvs := rawOf kvs rs) (by rw [raw_length hrs]; exact ⟨o, ho, hob.1, hob.2⟩) hD hr fun h' hit hs => ?_
    rw [raw_length hrs] at hit
    obtain ⟨o', ho', hc', hd'⟩ := hit
    exact ⟨_, h', s.toks, o', rfl, rfl, hvr.keep (tup_ext ho (fun e => not_imm_cls hob.1 (by decide) (by intro vs x t e q; rw [hob.2] at e; cases e; cases q) e) hs.extBut), hs.extBut, ho', hc', hd'⟩
  done := fun H s i o S hI ho hob hn => by
    obtain ⟨kvs, hd, rfl, hv⟩ := nxDict_inv hn
    obtain ⟨rs, hD, hrs⟩ := S.dict hd
    have hp : kvs[i]? = none := by rw [List.getElem?_map] at hv; exact Option.map_eq_none_iff.mp hv.symm
    exact wpAny_pyNext_values_end (knd := intKind C.prog C.w) (kvs := rawOf kvs rs) hA (by rw [raw_length hrs]; exact ⟨o, ho, hob.1, hob.2⟩) hD (raw_none hrs hp) fun h' he => ⟨h', s.toks, rfl, rfl, he⟩
  own := fun target v s i _ o Q ho hob h => letOwned_plain ho hob.1 (by decide) h
  self := fun s i _ o E Q ho hob h => wpAny_pyIter_valiter (i := i) ⟨o, ho, hob.1, hob.2⟩ h
noncomputable abbrev dvObj (d : Addr) : Obj := { cls := .type "dict_values", data := .fields #[.ref d] }
theorem Imm.dv : Imm (dvObj d) := ⟨rfl, .inl ⟨"dict_values", by decide, rfl⟩, (by intro _ _ e; cases e), (by intro _ e; cases e), (by intro _ _ _ e; cases e)⟩
theorem CV_values (B : Bs C.h₀ K mg mb) (hd : H d = some (.dict kvs ep)) (h : Q (.imm (dvObj d)) m H) : CV C A (.con (.builtin "dict.values")) [.ref d] [] m H Q := fun s rf rs rkw S hf hva hk => by
  have := hk.nil_inv; subst this
  rw [hf.con_inv]
  obtain ⟨a, rfl, ha⟩ := one_inv hva
  rw [ha.ref_inv]
  obtain ⟨rs, hD, hrs⟩ := S.toHS.dict hd
  exact call_meetsIn F.slot_dict_values hD.dictOf.typeIs F.entry_dict_values (F.args_dict_values_1 _) (meets_dict_values (intKind C.prog C.w) d (B.sysm S.toHS hd)) ⟨⟨_, hD.dictOf⟩, _, m, H, .imm .dv (Heap.get?_push_size _ rfl), S.more (tk := s.toks) (keep_push _ _), .more (tk := s.toks) (keep_push _ _), h⟩
theorem seq_vals (hA : A.handled = none) (hd : H d = some (.dict kvs ep)) : SeqOf C A (.imm (dvObj d)) H (valsOf kvs) (fun H' => H' d = some (.dict kvs ep)) := by
  refine ⟨nxDict d valsOf ep kvs.length, fun s r S hr => ?_, fun H' i ok => ?_⟩
  · obtain ⟨_, v, rfl, hv⟩ := hr.imm_inv
    obtain ⟨rs, hD, hrs⟩ := S.dict hd
    refine wpAny_pyIter_values (knd := intKind C.prog C.w) ⟨_, hv, rfl, rfl⟩ hD ?_
    rw [raw_length hrs]
    exact ⟨s.heap.objs.size, _, _, s.toks, _, rfl, rfl, keep_push _ _, size_none, Heap.get?_push_size _ rfl, ⟨rfl, rfl⟩, prot_vals hA (Nat.ne_of_lt hD.lt_size)⟩
  · unfold nxDict; rw [ok]; simp
end
end
end Mine
end
section
open PySem PySem.Calls PySem.W PyProof.Rows
set_option maxRecDepth 100000
namespace Mine
noncomputable section
section
variable {C : Cx} {A : Around} {m : Loc} {H : CH} {s : Shared} {K : Frag} {mg mb : Str → Option Value} {Q : V → Loc → CH → Prop}
theorem After.hid2 {H' : CH} {s' : Shared} (a : After C H s H' s') {I : Addr} (hI : H I ≠ none) {h' : Heap} {tk : Nat} (hs : Heap.ExtBut I s'.heap h') {o : Obj} (ho : h'.get? I = some o) : After C H s H' { s' with heap := h', toks := tk } where
  stay := fun b o hb hn e => let ⟨o', e', k⟩ := a.stay b o hb hn e; ⟨o', hs b o' (fun q => by subst q; exact hI hn) e', k⟩
  grow := a.grow
  there := fun b o' e => by
    obtain ⟨o₁, e₁⟩ := a.there b o' e
    by_cases q : b = I
    · subst q; exact ⟨o, ho⟩
    · exact ⟨o₁, hs b o₁ q e₁⟩
  drawn := a.drawn
  os := a.os
theorem pyNext_end {E : Value → Shared → Prop} {I l : Addr} {i : Nat} {items : Array Value} {Q : Option Value → Shared → Prop} (hA : A.handled = none) (hit : s.heap.IsListIter I l i) (hl : s.heap.IsList l items) (hx : items[i]? = none)
    (hQ : ∀ h' o', Heap.ExtBut I s.heap h' → h'.get? I = some o' → Q none { s with heap := h' }) : wpAny (model C.prog C.w) A (pyNext (.ref I)) Q E s := by
  obtain ⟨o, ho, hc, hd⟩ := id hit
  obtain ⟨ol, hol, _, nl, hdl⟩ := hl
  unfold pyNext
  refine wpAny_bind (wpAny_attempt (wpAny_callSpecial?_slot (name := Str.ofString "__next__") hit.typeIs slot_listiter_next (wpAny_call_entry slot_listiter_next hit.typeIs entry_listiter_next ?_ (args_listiter_next _))))
  show wpAny _ _ (field (.ref I) 0 >>= _) _ _ s
  refine wpAny_bind (wpAny_field ho hd (x := .ref l) rfl ?_)
  show wpAny _ _ (if (Value.ref l == Value.none) = true then _ else _) _ _ s
  rw [if_neg (show ¬ ((Value.ref l == Value.none) = true) from Bool.false_ne_true)]
  show wpAny _ _ (field (.ref I) 1 >>= _) _ _ s
  refine wpAny_bind (wpAny_field ho hd (x := .int i 0) rfl ?_)
  show wpAny _ _ (seqItems? (.ref l) >>= _) _ _ s
  refine wpAny_bind (wpAny_seqItems hol hdl ?_)
  simp only [Int.toNat_natCast, hx]
  refine wpAny_bind (wpAny_rule (wpAny_bind (wpAny_setField ho hd (by simp) ?_)))
  show wpAny _ _ (newExc (.type "StopIteration") [] >>= _) _ _ _
  refine wpAny_bind ?_
  simp only [newExc, newTuple]
  refine wpAny_bind (wpAny_newObj_type ?_ (by size_fits))
  refine wpAny_bind (m := firstArgMember _ _) (wpAny_of_eq (a := Value.none) (by first | rfl | (simp only [firstArgMember]; rfl)) ?_)
  refine wpAny_newObj_type ?_ (by size_fits)
  simp only [raiseNew]
  refine wpAny_bind (wpAny_handled ?_)
  rw [show A.in1.handled = none from hA]
  refine wpAny_bind (wpAny_pure (wpAny_throw ?_))
  refine wpAny_bind (wpAny_isInstance (T := "StopIteration") (b := true) ⟨_, Heap.get?_push_size _ rfl, rfl⟩ isSubtype_stop ?_)
  have ho2 := Heap.get?_update_self (Obj.mapFields (·.setIfInBounds 0 .none)) ho (Obj.isFreed_of_fields (Obj.data_mapFields hd _))
  exact wpAny_pure (hQ _ _ (((Heap.SameBut.update ..).extBut.push _).push _) (Heap.get?_push_of_some _ (Heap.get?_push_of_some _ ho2)))
theorem ES_for_own {target : PySem.Expr} {x : Str} {px : Pos} {body orelse : List Stmt} {p : Pos} {Q : Fl → Loc → CH → Prop} {I : Addr} {c : CObj} {ob : Nat → Heap → Obj → Prop} {nx : CH → Nat → Option (Option V)} {i₀ N : Nat} (P : Prot C A I ob nx)
    (done : ∀ H s i o, HS C H s → H I = none → s.heap.get? I = some o → ob i s.heap o → nx H i = some none → wpAny (model C.prog C.w) A (pyNext (.ref I)) (fun r s' => DoneR I s r s' ∧ ∃ o', s'.heap.get? I = some o') NoE s)
    (hm : m.lookup x = some (.ref I)) (hI : H I = some c) (hob : ∀ s, HS C H s → ∃ o, s.heap.get? I = some o ∧ ob i₀ s.heap o) (m₂ : Loc) (J : Nat → Loc → CH → Prop) (hsub : Sub m₂ m) (h0 : J i₀ m₂ (H.del I))
    (turn : ∀ i m H, J i m H → i ≤ N ∧ ((∃ v, nx H i = some (some v) ∧ ASG C A target v m H fun m' H' => EX C A body m' H' (Turn Q (NextJ J (i + 1)))) ∨ (nx H i = some none ∧ EX C A orelse m H Q)))
    (hs : ∀ y, foldedSetIterable (.Name x px) C.env y = pure y := by intro _; with_unfolding_all rfl)
    (hk : C.env.scope.kind = .function := by with_unfolding_all rfl) (hl : C.env.kindOf x = some .local := by with_unfolding_all rfl) (hd : (x == ("__debug__" : Str)) = false := by decide) : ES C A (.For target (.Name x px) body orelse p) m H Q := fun s S => by
  obtain ⟨o0, ho0, hb0⟩ := hob s S.toHS
  have hIb := (S.own I _ hI).1
  have hIl : I ≠ C.env.locals := fun e => by have := S.loc; rw [← e, hI] at this; cases this
  obtain ⟨mr, r, hn, hr, hv⟩ := S.known hm
  obtain rfl := hv.ref_inv
  refine wpAny_For (wpAny_Name (wpAny_loadName_local hk hl hn hr ?_) hd) hs
  refine P.self s i₀ s.heap _ _ _ ho0 hb0 ?_
  have hIne : H I ≠ none := by rw [hI]; simp
  refine for_core P hIl hIb (fun a he ho => a.hid2 hIne he ho) (fun m' H' s' i o S' a hI ho hob hn => wpAny_mono (done H' s' i o S'.toHS hI ho hob hn) ?_ fun _ _ x => x) turn (fun _ _ x => x) (k := N + 1 - i₀)
    ⟨i₀, m₂, H.del I, o0, rfl, (S.less CH.del_le).sub hsub, ⟨fun b o _ _ e => ⟨o, e, .refl o⟩, fun b o hn _ => CH.del_le.absent hn, fun b o e => ⟨o, e⟩, rfl, rfl⟩, CH.del_same, ho0, hb0, h0⟩
  rintro r s'' ⟨⟨h4, tk4, rfl, rfl, he⟩, o', ho'⟩
  exact ⟨⟨h4, tk4, rfl, rfl, he⟩, a.hid2 hIne he ho'⟩
/-- the last step may lose the iterator's object to us, not to the heap -/
theorem ES_for_it {target : PySem.Expr} {x : Str} {px : Pos} {body orelse : List Stmt} {p : Pos} {Q : Fl → Loc → CH → Prop} {I l : Addr} {i₀ : Nat} {xs : List V} (hA : A.handled = none) (hm : m.lookup x = some (.ref I)) (hI : H I = some (.liter l i₀)) (m₂ : Loc) (J : Nat → Loc → CH → Prop) (hsub : Sub m₂ m) (h0 : J i₀ m₂ (H.del I)) (hi0 : i₀ ≤ xs.length)
    (turn : ∀ i m H, J i m H → H l = some (.list xs) ∧ (∀ x, xs[i]? = some x → ASG C A target x m H fun m' H' => EX C A body m' H' (Turn Q (NextJ J (i + 1)))) ∧ (i = xs.length → EX C A orelse m H Q))
    (hs : ∀ y, foldedSetIterable (.Name x px) C.env y = pure y := by intro _; with_unfolding_all rfl)
    (hk : C.env.scope.kind = .function := by with_unfolding_all rfl) (hl : C.env.kindOf x = some .local := by with_unfolding_all rfl) (hd : (x == ("__debug__" : Str)) = false := by decide) : ES C A (.For target (.Name x px) body orelse p) m H Q := by
  have nxl : ∀ H i x, nxList l H i = some x → ∃ xs, LAt C H l xs ∧ x = xs[i]? := fun H i x e => by
    unfold nxList at e
    split at e
    · rename_i xs hx; cases e; exact ⟨xs, .own hx, rfl⟩
    · cases e
  have P := prot_list (C := C) (A := A) (I := I) (l := l) (nx := nxList l) hA (fun e => by
    subst e
    obtain ⟨h1, _⟩ := turn _ _ _ h0
    rw [CH.del_same] at h1; cases h1) nxl
  refine ES_for_own (N := xs.length) P (fun H s i o S _ ho hob hn => ?_) hm hI (fun s S => ⟨_, S.liter hI, rfl, rfl⟩) m₂ (fun i m H => J i m H ∧ i ≤ xs.length) hsub ⟨h0, hi0⟩ (fun i m H ⟨hj, hi⟩ => ⟨hi, ?_⟩) hs hk hl hd
  · obtain ⟨ys, hl', hv⟩ := nxl H i _ hn
    obtain ⟨items, n, hL, hvs, hz⟩ := S.list hl'
    have : items[i]? = none := by
      have : ys.length ≤ i := List.getElem?_eq_none_iff.mp hv.symm
      exact Array.getElem?_eq_none (by omega)
    exact pyNext_end hA ⟨o, ho, hob.1, hob.2⟩ hL.isList this fun h' o' he ho' => ⟨⟨h', s.toks, rfl, rfl, he⟩, o', ho'⟩
  · obtain ⟨h1, h2, h3⟩ := turn i m H hj
    have nx0 : nxList l H i = some xs[i]? := by unfold nxList; rw [h1]
    rcases Nat.lt_or_ge i xs.length with hlt | hge
    · have hx : xs[i]? = some xs[i] := List.getElem?_eq_getElem hlt
      refine .inl ⟨xs[i], nx0.trans (by rw [hx]), fun s r S hr => wpAny_mono (h2 _ hx s r S hr) (fun _ s' ⟨m', H', S', af', q⟩ => ⟨m', H', S', af', q.mono fun fl m₂ H₂ hq => ?_⟩) fun _ _ x => x⟩
      cases fl with
      | next => obtain ⟨m₃, a, b⟩ := hq; exact ⟨m₃, a, b, hlt⟩
      | cont => obtain ⟨m₃, a, b⟩ := hq; exact ⟨m₃, a, b, hlt⟩
      | brk => exact hq
      | ret v => exact hq
    · exact .inr ⟨nx0.trans (by rw [List.getElem?_eq_none hge]), h3 (by omega)⟩
theorem O2_is_mark {v : V} {y : Addr} {oy : Obj} (hy : C.h₀.get? y = some oy) (hc : oy.cls ≠ .type "tuple") (hv : (∃ i, v = .int i) ∨ v = V.none ∨ (∃ a c, v = .ref a ∧ H a = some c) ∨ ∃ l, v = .tup l) (h : Q (.bool false) m H) : O2 C A (compareOp .Is) v (.con (.ref y)) m H Q := fun s r q S hr hq => by
  rw [hq.con_inv]
  have key : ∀ a o, a ≠ y → s.heap.get? a = some o → wpAny (model C.prog C.w) A (compareOp .Is (.ref a) (.ref y)) (PV C H s Q) NoE s := fun a o hne ho => by
    show wpAny _ A (do return Value.bool (← isSame (.ref a) (.ref y))) _ _ s
    exact wpAny_bind (SeqAt.wpAny_isSame_ref_other' hne ho (S.base _ _ hy) hc (wpAny_pure (.here S .con h)))
  rcases hv with ⟨i, rfl⟩ | rfl | ⟨a, c, rfl, ha⟩ | ⟨l, rfl⟩
  · obtain ⟨t, rfl⟩ := hr.int_inv
    exact wpAny_is_other rfl (by intro e; cases e) (.here S .con h)
  · rw [hr.con_inv]
    exact wpAny_is_other rfl (by intro e; cases e) (.here S .con h)
  · rw [hr.ref_inv]
    obtain ⟨hb, o, ho, _⟩ := S.own a c ha
    exact key a o (fun e => by rw [e, hy] at hb; cases hb) ho
  · obtain ⟨a, items, n, rfl, ho, _⟩ := hr.tup_inv
    exact key a _ (fun e => by have := S.base _ _ hy; rw [← e, ho] at this; cases this; exact hc rfl) ho
theorem EV_or {x y : PySem.Expr} {p : Pos} (h : EV C A x m H fun v m₁ H₁ => OB C A truthy v m₁ H₁ fun b m₂ H₂ => (b = true → Q v m₂ H₂) ∧ (b = false → EV C A y m₂ H₂ Q)) : EV C A (.BoolOp .Or [x, y] p) m H Q := fun s S => by
  refine BoolOp_or (wpAny_mono (h s S) ?_ fun _ _ x => x)
  rintro r s₁ ⟨v, m₁, H₁, hv, S₁, af₁, h₁⟩
  refine wpAny_mono (h₁ s₁ r S₁ hv) ?_ fun _ _ x => x
  rintro b s₂ ⟨m₂, H₂, S₂, af₂, h₂⟩
  cases b with
  | true => exact ⟨v, m₂, H₂, hv.keep (af₂.tup S₁), S₂, af₁.then S₁ af₂, h₂.1 rfl⟩
  | false => exact BoolOp_one (wpAny_mono (h₂.2 rfl s₂ S₂) (fun _ _ x => x.mono S₂ (af₁.then S₁ af₂)) fun _ _ x => x)
theorem OB_none {Q : Bool → Loc → CH → Prop} (h : Q false m H) : OB C A truthy V.none m H Q := fun s r S hr => by
  rw [hr.con_inv]; exact wpAny_pure (.here S h)
theorem meets_bool_new_list (l : Addr) (items : Array Value) (n : Nat) (hz : items.size ≤ sizeLine) : Meets (Builtin.«bool.__new__» ⟨[.type "bool", .ref l], []⟩) (fun _ R s => IsL s.heap l items n ∧ ∀ tk, R (.ok (.ret (.bool (!items.isEmpty)))) { s with toks := tk }) :=
  Meets.of_wp fun prog w A R s hs => by
    obtain ⟨hp, g, d, tk, os⟩ := s
    have f1 := F.conv_sub_bool
    have hb : (items.size : Int) < 2 ^ 63 := by unfold sizeLine at hz; omega
    have ht : ∀ {A' : Around} {E' : Value → Shared → Prop} {tk' : Nat} {Q' : Bool → Shared → Prop}, Q' (!items.isEmpty) ⟨hp, g, d, tk' + 1 + 1, os⟩ → wpAny (model prog w) A' (truthy (.ref l)) Q' E' ⟨hp, g, d, tk', os⟩ := fun {_ _ _ _} q => wpAny_truthy_list (s := ⟨hp, g, d, _, os⟩) hs.1.isList hb q
    repeat (any_goals (first | assumption | with_reducible apply ht | wp_step))
    all_goals exact ⟨_, rfl, hs.2 _⟩
theorem CV_bool_list {l : Addr} {xs : List V} (hl : LAt C H l xs) (hsz : xs.length ≤ sizeLine) (h : Q (.bool (!xs.isEmpty)) m H) : CV C A (.con (.type "bool")) [.ref l] [] m H Q := fun s rf rs rkw S hf hva hk => by
  have := hk.nil_inv; subst this
  rw [hf.con_inv]
  obtain ⟨x, rfl, hx⟩ := one_inv hva
  rw [hx.ref_inv]
  obtain ⟨items, n, hL, hs, hz⟩ := S.toHS.list hl
  have he : items.isEmpty = xs.isEmpty := by
    cases xs with
    | nil => simp at hz; simp [hz]
    | cons => simp at hz; simp; intro e; simp [e] at hz
  refine call_bool_1 (meets_bool_new_list l items n (by omega)) ⟨hL, fun tk => ⟨?_, ?_⟩⟩
  · exact PySem.typeIs_bool _ _
  · rw [he]; exact .same S .con h _
theorem ES_assign2 {t u e : PySem.Expr} {p : Pos} {Q : Fl → Loc → CH → Prop} (h : EV C A e m H fun v m₁ H₁ => ASG C A t v m₁ H₁ fun m₂ H₂ => ASG C A u v m₂ H₂ (Q .next))
    (hs : swapsWithSole [t, u] e p.line C.env = pure false := by with_unfolding_all rfl) (hw : swappedStores [t, u] e C.env = pure none := by with_unfolding_all rfl) (ht : (assignEach [t, u] C.env).map (·.2) = [assign t C.env, assign u C.env] := by with_unfolding_all rfl) : ES C A (.Assign [t, u] e p) m H Q := fun s S => by
  refine wpAny_Assign_stores (wpAny_mono (h s S) ?_ fun _ _ x => x) hs hw
  rintro a s₁ ⟨v, m₁, H₁, ra, S₁, af₁, h₁⟩
  rw [ht]
  refine wpAny_bind (wpAny_holding (wpAny_mono (h₁ s₁ a S₁ ra) ?_ fun _ _ x => x))
  rintro _ s₂ ⟨m₂, H₂, S₂, af₂, h₂⟩
  refine wpAny_mono (h₂ s₂ a S₂ (ra.keep (af₂.tup S₁))) ?_ fun _ _ x => x
  rintro _ s₃ ⟨m₃, H₃, S₃, af₃, h₃⟩
  exact ⟨.next, m₃, H₃, rfl, S₃, (af₁.then S₁ af₂).then S₂ af₃, h₃⟩
end
end
end Mine
end
section
open PySem PySem.Calls PySem.W PyProof.Rows
set_option maxRecDepth 100000
namespace Mine
noncomputable section
section
variable {C : Cx} {A : Around} {m : Loc} {H : CH}
theorem ASGs_cons {t : PySem.Expr} {ts : List PySem.Expr} {v : V} {vs : List V} {Q : Loc → CH → Prop} (h : ASG C A t v m H fun m₁ H₁ => ASGs C A ts vs m₁ H₁ Q) : ASGs C A (t :: ts) (v :: vs) m H Q := h
theorem ASGs_nil {Q : Loc → CH → Prop} (h : Q m H) : ASGs C A [] [] m H Q := h
theorem ETs_nil {Q : Bool → Loc → CH → Prop} (h : Q true m H) : ETs C A [] m H Q := h
theorem ETs_cons {c : PySem.Expr} {cs : List PySem.Expr} {Q : Bool → Loc → CH → Prop} (h : EB C A c m H fun b m₁ H₁ => (b = true → ETs C A cs m₁ H₁ Q) ∧ (b = false → Q false m₁ H₁)) : ETs C A (c :: cs) m H Q := h
end
end
end Mine
end
section
open PySem PySem.Calls PySem.W PyProof.Rows
set_option maxRecDepth 100000
namespace Mine
noncomputable section
section
variable {C : Cx} {A : Around} {m : Loc} {H : CH} {s : Shared} {Q : V → Loc → CH → Prop}
theorem fold_cat {α : Type} : ∀ (k : Nat) (acc items : Array α), (List.foldl (fun x1 x2 => x1 ++ x2) acc (List.replicate k items)).toList = acc.toList ++ (List.replicate k items.toList).flatten
  | 0, acc, items => by simp
  | k + 1, acc, items => by
    rw [List.replicate_succ, List.foldl_cons, fold_cat k, Array.toList_append, List.replicate_succ, List.flatten_cons, List.append_assoc]
theorem VRs.times {h : Heap} {vs : List V} {rs : List Value} (r : VRs h vs rs) : ∀ k : Nat, VRs h (List.replicate k vs).flatten (List.replicate k rs).flatten
  | 0 => .nil
  | k + 1 => by rw [List.replicate_succ, List.replicate_succ, List.flatten_cons, List.flatten_cons]; exact r.append (VRs.times r k)
theorem O2_mul_list {l : Addr} {xs : List V} {n : Int} (hl : LAt C H l xs) (hn : n < 2 ^ 63) (h0 : 0 ≤ n) (hsz : xs.length * n.toNat ≤ sizeLine) (h : ∀ a, H a = none → Q (.ref a) m (H.set a (.list (List.replicate n.toNat xs).flatten))) : O2 C A (binaryOp .Mult) (.ref l) (.int n) m H Q := fun s r q S hr hq => by
  rw [hr.ref_inv]; obtain ⟨u, rfl⟩ := hq.int_inv
  obtain ⟨items, k, hI, hvs, hz⟩ := S.toHS.list hl
  have hsz' : items.size * n.toNat ≤ 2 ^ 24 := by rw [hz]; exact hsz
  have hI' : s.heap.get? l = some { cls := .type "list", dict := none, data := .seq items k, slots := #[] } := hI
  refine wpAny_binaryOp_repeat_ref (T := "list") (U := "int") (by decide) ⟨_, hI', rfl⟩ (fun s' => typeIs_int s' n u) noFill_list_mul F.fills_int_mul F.slot_int_rmul repeat_list F.slot_int_index.lookup
    (call_meets F.slot_int_rmul (typeIs_int s n u) F.entry_int_rmul (F.args_int_rmul_2 _ _) (int___rmul___int_list n u l items k)
      ⟨hI', rfl, ⟨_, hI', rfl⟩, call_meets F.slot_list_mul ⟨_, hI', rfl⟩ F.entry_list_mul (F.args_list_mul_2 _ _)
        (AutoListH.list___mul___list_int_3 l items k n u (by simp [Builtin.List.listFitsIndex]; omega) (by omega) (by simp [Builtin.List.listTooLong, sizeLine]; omega))
        ⟨hI', ?_⟩⟩)
  have e : (List.foldl (fun x1 x2 => x1 ++ x2) #[] (List.replicate (if items.isEmpty = true then 0 else n.toNat) items)).toList = (List.replicate n.toNat items.toList).flatten := by
    rw [fold_cat]
    by_cases he : items.isEmpty = true
    · have : items.toList = [] := by simpa using he
      rw [if_pos he, this]; simp
    · rw [if_neg he]; simp
  exact ⟨_, m, _, .ref, S.alloc (tk := s.toks) (c := .list (List.replicate n.toNat xs).flatten) ⟨_, 0, rfl, by rw [e]; exact hvs.times _⟩, .alloc, h _ S.toHS.fresh⟩
/-- a comprehension that makes a new empty list for each item -/
theorem LC_lists {elt target : PySem.Expr} {scope : Scope} {cl : List (Str × Addr)} {v : V} {R : V → CH → Prop} (xs : List V) (hs : SeqOf C A v H xs (fun _ => True)) (hsz : xs.length ≤ sizeLine)
    (turn : ∀ x ∈ xs, ∀ L H₁, ASG (C.comp scope cl L) A target x [] H₁ fun m₂ H₂ => H₂ = H₁ ∧ EV (C.comp scope cl L) A elt m₂ H₂ fun y m₃ H₃ => ∃ b, H₁ b = none ∧ y = .ref b ∧ H₃ = H₁.set b (.list []))
    (fin : ∀ (D : Addr) (bs : List Addr) (H' : CH), bs.length = xs.length → bs.Nodup → (∀ b ∈ bs, H b = none ∧ H' b = some (.list [])) → (∀ b, H b ≠ none → H' b = H b) → H' D = none → C.h₀.get? D = none → R (.ref D) (H'.set D (.list (bs.map .ref)))) : LC C A elt target [] scope cl v H R := by
  refine ⟨xs, _, fun i ys H' => i ≤ xs.length ∧ ∃ bs : List Addr, ys = bs.map .ref ∧ bs.length = i ∧ bs.Nodup ∧ (∀ b ∈ bs, H b = none ∧ H' b = some (.list [])) ∧ (∀ b, H b ≠ none → H' b = H b), hs, ⟨?_⟩, ⟨Nat.zero_le _, [], rfl, rfl, .nil, (by intro _ h; cases h), fun _ _ => rfl⟩, ?_⟩
  · rintro i ys H' ⟨hi, bs, rfl, hl, hn, hb, hk⟩
    refine ⟨trivial, ?_, ?_⟩
    · rw [List.length_map, hl]; omega
    · intro x hx L hL
      have hil : i < xs.length := (List.getElem?_eq_some_iff.mp hx).1
      have := turn x (List.mem_of_getElem? hx) L H'
      intro s r S hr
      refine wpAny_mono (this s r S hr) (fun _ s' ⟨m₂, H₂, S₂, af₂, h₂⟩ => ⟨m₂, H₂, S₂, af₂, ?_⟩) fun _ _ x => x
      obtain ⟨rfl, hel⟩ := h₂
      refine (show true = true → _ from fun _ => ?_) |> fun h => ⟨h, fun h => (by cases h)⟩
      refine hel.mono ?_
      rintro y m₃ H₃ ⟨b, hbn, rfl, rfl⟩
      have hbb : ∀ c ∈ bs, c ≠ b := fun c hc e => by have := (hb c hc).2; rw [e, hbn] at this; cases this
      have hbH : H b = none := by
        cases q : H b with
        | none => rfl
        | some o => rw [hk b (by rw [q]; simp), q] at hbn; cases hbn
      refine ⟨hil, bs ++ [b], by simp, by simp [hl], ?_, fun c hc => ?_, fun c hc => ?_⟩
      · rw [List.nodup_append]; exact ⟨hn, by simp, fun x hx y hy => by rw [List.mem_singleton.mp hy]; exact hbb x hx⟩
      · rcases List.mem_append.mp hc with h | h
        · rw [CH.set_ne (hbb c h)]; exact hb c h
        · rw [List.mem_singleton.mp h]; exact ⟨hbH, CH.set_same⟩
      · have : c ≠ b := fun e => hc (by rw [e]; exact hbH)
        rw [CH.set_ne this]; exact hk c hc
  · rintro ys H' D ⟨_, bs, rfl, hl, hn, hb, hk⟩ hD hD0
    exact fin D bs H' hl hn hb hk hD hD0
end
end
end Mine
end
section
open PySem PySem.Calls PySem.W PyProof.Rows
set_option maxRecDepth 100000
namespace Mine
noncomputable section
noncomputable def cut (h : Heap) (ts : List Addr) : Heap := { h with objs := h.objs.mapIdx fun i o => if i ∈ ts then { o with data := .freed } else o }
theorem cut_get {h : Heap} {ts : List Addr} {b : Addr} : (cut h ts).get? b = if b ∈ ts then none else h.get? b := by
  unfold cut Heap.get?
  simp only [Array.getElem?_mapIdx]
  cases e : h.objs[b]? with
  | none => simp
  | some o =>
    simp only [Option.map_some]
    by_cases q : b ∈ ts
    · rw [if_pos q, if_pos q]
    · rw [if_neg q, if_neg q]
theorem ns_cut {h : Heap} {ts : List Addr} {a : Addr} {m : Str → Option Value} (N : h.Ns a m) (ha : a ∉ ts) : (cut h ts).Ns a m :=
  let ⟨o, es, ep, e, r⟩ := N; ⟨o, es, ep, by rw [cut_get, if_neg ha]; exact e, r⟩
noncomputable def tabsH (qs : List (Addr × List ((Nat × Nat) × Str))) : CH := fun a => (qs.lookup a).map CObj.tab
theorem tabsH_mem {qs : List (Addr × List ((Nat × Nat) × Str))} {a : Addr} {c : CObj} (h : tabsH qs a = some c) : a ∈ qs.map (·.1) ∧ ∃ q, c = .tab q := by
  unfold tabsH at h
  obtain ⟨q, h1, rfl⟩ := Option.map_eq_some_iff.mp h
  obtain ⟨l1, l2, e, _⟩ := List.lookup_eq_some_iff.mp h1
  exact ⟨by rw [e]; simp, q, rfl⟩
section
variable {prog : Program} {w : World} {c : ClaimW} {cl : Str → Option Addr} {mean : ExcName → Option Value} {args : List WData} {s₁ : Shared} {K : Frag} {mg mb : Str → Option Value} {fa l : Addr} {ns : List Int} {E : Value → Shared → Prop}
theorem codeTable_of {P a : Addr} {vs : Array Value} {d : Option Addr} {sl : Array (Option Value)} (X : K.In s₁.heap) (hk : K.lookup a = some ⟨.type "code", d, .fields vs, sl⟩) (hv : vs[11]? = some (.ref P)) : isCodeTable s₁.heap P :=
  ⟨a, _, vs, X _ _ hk, rfl, rfl, hv⟩
theorem well_ints {P : Params} {h : Heap} : ∀ {ns : List Int} {vs : List Value}, WellAll P h vs (ns.map .int) → VRs h (ns.map .int) vs
  | [], vs, W => by cases W; exact .nil
  | n :: ns, vs, W => by
    cases W with
    | cons a b => cases a; exact .cons .int (well_ints b)
theorem VRs.ints_any {h h' : Heap} : ∀ {ns : List Int} {vs : List Value}, VRs h (ns.map .int) vs → VRs h' (ns.map .int) vs
  | [], vs, r => by have := r.nil_inv; subst this; exact .nil
  | n :: ns, vs, r => by
    obtain ⟨y, ys, rfl, a, b⟩ := r.cons_inv
    obtain ⟨t, rfl⟩ := a.int_inv
    exact .cons .int (VRs.ints_any b)
theorem ofPys_ints : ∀ ns : List Int, ofPys (ns.map .int) = ns.map .int
  | [] => rfl
  | a :: r => by
    show ofPy (.int a) :: ofPys (r.map .int) = _
    rw [ofPys_ints r]; rfl
theorem law_ends (qs : List (Addr × List ((Nat × Nat) × Str))) (X : K.In s₁.heap) (TT : ∀ P ∈ qs.map (·.1), s₁.heap.get? P = some (tabObj #[])) (hk : ∀ P ∈ qs.map (·.1), K.lookup P = none) (hct : ∀ P ∈ qs.map (·.1), isCodeTable s₁.heap P)
    (hlow : ∀ P ∈ qs.map (·.1), 3 < P) (lim : s₁.heap.NoLimit) (g : s₁.heap.Ns mainGlobals mg) (b : s₁.heap.Ns builtinsNs mb) (boot : ∀ x : Str, x ≠ "__name__" → mb x = bootBuiltins x) (sys : s₁.heap.NoSeer)
    (bm : ∃ bm ob, mg "__builtins__" = some (.ref bm) ∧ bm ≠ builtinsNs ∧ s₁.heap.get? bm = some ob ∧ ob.cls = .type "module" ∧ ob.dict = some builtinsNs ∧ ob.data = .plain)
    (hl : Well w.params s₁.heap (.ref l) (ofPy (.list (ns.map .int)))) (hgens : s₁.gens = #[]) (hr : ∀ cls, c.raises args cls = false) (hp : c.post args (.bool true) args = true)
    (h : ∀ (C : Cx) (items : Array Value), C.w = w → C.fr = [] → Bs C.h₀ K mg mb → (∀ n, n ≤ 100 → AOK C callerA n) → C.h₀.get? l = some (seqObj "list" items 0) → VRs C.h₀ (ns.map .int) items.toList → CALL C callerA (.con (.ref fa)) [.ref l] [] (tabsH qs) fun v H' => v = .bool true ∧ ∀ b, tabsH qs b ≠ none → H' b = tabsH qs b) :
    wpAny (model prog w) callerA (call (.ref fa) [.ref l]) (fun v s' => GoodWG c cl mean args s₁ (.ok (.ret v)) s') E s₁ := by
  have low : ∀ {a : Addr}, a ≤ 3 → a ∉ qs.map (·.1) := fun {a} ha hm => absurd (hlow a hm) (Nat.not_lt.mpr ha)
  have hout : ∀ {a : Addr} {o : Obj}, s₁.heap.get? a = some o → (∀ vs, o.data ≠ .fields vs) → a ∉ qs.map (·.1) := fun {a o} ho hd hm => by
    rw [TT a hm] at ho; cases ho; exact hd _ rfl
  have keep : ∀ {a : Addr} {o : Obj}, s₁.heap.get? a = some o → a ∉ qs.map (·.1) → (cut s₁.heap (qs.map (·.1))).get? a = some o := fun {a o} ho hm => by rw [cut_get, if_neg hm]; exact ho
  have hlist : ∃ vs : List Value, s₁.heap.get? l = some (seqObj "list" vs.toArray 0) ∧ WellAll w.params s₁.heap vs (ns.map .int) := by
    have e : ofPy (.list (ns.map .int)) = .list (ns.map .int) := by
      simp only [ofPy]
      rw [ofPys_ints]
    rw [e] at hl
    cases hl with
    | list a b => exact ⟨_, a, b⟩
  obtain ⟨vs, hl1, hl2⟩ := hlist
  have hl3 := keep hl1 (hout hl1 (by intro _ e; cases e))
  obtain ⟨mm, hmm, _⟩ := sys.mods
  obtain ⟨om, _, _, hom, _⟩ := id hmm
  obtain ⟨bmA, ob, b1, b2, b3, b4, b5, b6⟩ := bm
  have B : Bs (cut s₁.heap (qs.map (·.1))) K mg mb := by
    refine ⟨fun a o e => ?_, ?_, ns_cut g (low (by decide)), ns_cut b (low (by decide)), boot, ⟨om, keep hom (low (by decide))⟩, bmA, ob, b1, b2, keep b3 (hout b3 (by intro vs e; rw [b6] at e; cases e)), b4, b5, b6⟩
    · refine keep (X a o e) fun hm => ?_
      rw [hk a hm] at e; cases e
    · obtain ⟨mc, h1, h2⟩ := lim
      exact ⟨mc, ns_cut h1 (low (by decide)), h2⟩
  have S : HS ⟨prog, w, cut s₁.heap (qs.map (·.1)), default, []⟩ (tabsH qs) s₁ := by
    refine ⟨fun b o e => ?_, fun a c e => ?_, hgens⟩
    · have e : (cut s₁.heap (qs.map (·.1))).get? b = some o := e
      rw [cut_get] at e
      by_cases q : b ∈ qs.map (·.1)
      · rw [if_pos q] at e; cases e
      · rw [if_neg q] at e; exact e
    · obtain ⟨hm, q, rfl⟩ := tabsH_mem e
      refine ⟨by show (cut _ _).get? a = none; rw [cut_get, if_pos hm], _, TT a hm, #[], rfl, trivial, fun pos cv e => ?_⟩
      simp [codeAmong] at e
  refine wpAny_call (codeAny_mono (h ⟨prog, w, cut s₁.heap (qs.map (·.1)), default, []⟩ vs.toArray rfl rfl B (fun n hn => ⟨rfl, ?_, ?_, rfl⟩) hl3 (by rw [List.toList_toArray]; exact VRs.ints_any (well_ints hl2)) s₁ _ _ _ S (by intro e he; cases he) .con (.cons .ref .nil) .nil) ?_)
  · show 1 + claimMargin + n < recursionLimit
    have : 1 + claimMargin + 100 < recursionLimit := by decide
    omega
  · show 4 + 4 * n + 40 < cLine
    have : 4 + 4 * 100 + 40 < cLine := by decide
    omega
  rintro r s' x
  cases r with
  | error e => exact x.elim
  | ok f =>
    cases f with
    | ret rv =>
      obtain ⟨v, H', hv, S', af, rfl, hkeep⟩ := x
      obtain rfl := hv.con_inv
      refine ⟨.inl ⟨.bool true, .bool true, [], rfl, hr, .bool true, hp, fun _ => ⟨.nil, fun a ha => by cases ha⟩⟩, ⟨fun b o e => ?_, fun b o e => af.there b o e⟩, af.os, fun y hy => by rw [S'.gens] at hy; simp at hy⟩
      by_cases q : b ∈ qs.map (·.1)
      · refine .inr (.inl ⟨hct b q, ?_⟩)
        rw [TT b q] at e; cases e
        have hq : ∃ q, tabsH qs b = some (.tab q) := by
          obtain ⟨y, hy, rfl⟩ := List.mem_map.mp q
          unfold tabsH
          cases e : qs.lookup y.1 with
          | none => exact absurd (List.lookup_eq_none_iff.mp e y hy) (by simp)
          | some z => exact ⟨z, rfl⟩
        obtain ⟨q', hq'⟩ := hq
        have h2 := hkeep b (by rw [hq']; simp)
        rw [hq'] at h2
        obtain ⟨_, o, ho, ps, rfl, _⟩ := S'.own b _ h2
        exact ⟨rfl, #[], ps, rfl, by rw [Array.empty_append]; exact ho⟩
      · exact .inl (S'.base b o (keep e q))
    | next => exact x.elim
    | brk => exact x.elim
    | cont => exact x.elim
end
end
end Mine
end
section
namespace Mine
noncomputable section
section
variable {α : Type} (lt : α → α → Bool)
structure LtOk : Prop where
  asymm : ∀ a b, lt a b = true → lt b a = false
  ntrans : ∀ a b c, lt a b = false → lt b c = false → lt a c = false
noncomputable def par (k : Nat) : Nat := (k - 1) / 2
theorem par_lt {k : Nat} (h : 0 < k) : par k < k := by unfold par; omega
noncomputable def IsHeap (l : List α) : Prop := ∀ k (h0 : 0 < k) (hk : k < l.length), lt (l[k]'hk) (l[par k]'(Nat.lt_trans (par_lt h0) hk)) = false
noncomputable def sdown (x : α) (pos : Nat) (l : List α) : List α :=
  if h : 0 < pos then
    match l[par pos]? with
    | some y => if lt x y = true then sdown x (par pos) (l.set pos y) else l.set pos x
    | none => l
  else l.set pos x
termination_by pos
decreasing_by exact par_lt h
noncomputable def kid (l : List α) (pos : Nat) : Nat := match l[2 * pos + 1]?, l[2 * pos + 2]? with
  | some a, some b => if lt a b = true then 2 * pos + 1 else 2 * pos + 2
  | _, _ => 2 * pos + 1
theorem kid_le (l : List α) (pos : Nat) : 2 * pos + 1 ≤ kid lt l pos := by
  unfold kid; split <;> try split
  all_goals omega
noncomputable def sup (pos : Nat) (l : List α) : Nat × List α :=
  if h : 2 * pos + 1 < l.length then
    match l[kid lt l pos]? with
    | some y => sup (kid lt l pos) (l.set pos y)
    | none => (pos, l)
  else (pos, l)
termination_by l.length - pos
decreasing_by
  have := kid_le lt l pos
  rw [List.length_set]; omega
variable {lt}
theorem set_swap_perm {l : List α} {i j : Nat} (hi : i < l.length) (hj : j < l.length) (x : α) : ((l.set i l[j]).set j x).Perm (l.set i x) := by
  by_cases hij : i = j
  · subst hij; rw [List.set_set]
  · have h := List.set_set_perm (as := l.set i x) (i := i) (j := j) (by simpa using hi) (by simpa using hj)
    rw [List.set_set] at h
    have e1 : (l.set i x)[j]'(by simpa using hj) = l[j] := by rw [List.getElem_set_ne hij]
    have e2 : (l.set i x)[i]'(by simpa using hi) = x := by rw [List.getElem_set_self]
    rw [e1, e2] at h
    exact h
theorem sdown_perm (x : α) : ∀ (pos : Nat) (l : List α), pos < l.length → (sdown lt x pos l).Perm (l.set pos x) := by
  intro pos
  induction pos using Nat.strongRecOn with
  | _ pos ih =>
    intro l hp
    unfold sdown
    split
    · rename_i h
      have hq := par_lt h
      have hq' : par pos < l.length := Nat.lt_trans hq hp
      rw [List.getElem?_eq_getElem hq']
      dsimp only
      split
      · refine (ih _ hq _ (by rw [List.length_set]; exact hq')).trans ?_
        exact set_swap_perm hp hq' x
      · exact .refl _
    · exact .refl _
/-- the heap but for the hole -/
structure Hole (lt : α → α → Bool) (l : List α) (pos : Nat) : Prop where
  rest : ∀ k (h0 : 0 < k) (hk : k < l.length), k ≠ pos → par k ≠ pos → lt (l[k]'hk) (l[par k]'(Nat.lt_trans (par_lt h0) hk)) = false
  over : ∀ k (h0 : 0 < k) (hk : k < l.length) (hp : 0 < pos) (hpl : pos < l.length), par k = pos → lt (l[k]'hk) (l[par pos]'(Nat.lt_trans (par_lt hp) hpl)) = false
theorem getElem_set' {l : List α} {i k : Nat} {x : α} (hk : k < (l.set i x).length) : (l.set i x)[k]'hk = if i = k then x else l[k]'(by simpa using hk) := by
  rw [List.getElem_set]
theorem sdown_heap (ok : LtOk lt) (x : α) : ∀ (pos : Nat) (l : List α), pos < l.length → Hole lt l pos → (∀ k (h0 : 0 < k) (hk : k < l.length), par k = pos → lt (l[k]'hk) x = false) → IsHeap lt (sdown lt x pos l) := by
  intro pos
  induction pos using Nat.strongRecOn with
  | _ pos ih =>
    intro l hp H hx
    unfold sdown
    split
    · rename_i h
      have hq := par_lt h
      have hq' : par pos < l.length := Nat.lt_trans hq hp
      rw [List.getElem?_eq_getElem hq']
      dsimp only
      split
      · rename_i hlt
        have hyx := ok.asymm _ _ hlt
        refine ih _ hq _ (by rw [List.length_set]; exact hq') ⟨fun k h0 hk hk1 hk2 => ?_, fun k h0 hk hp0 hpl hk1 => ?_⟩ fun k h0 hk hk1 => ?_
        · have hk' : k < l.length := by simpa using hk
          rw [getElem_set', getElem_set']
          by_cases e1 : pos = k
          · exact absurd (e1 ▸ rfl) hk2
          · rw [if_neg e1]
            by_cases e2 : pos = par k
            · rw [if_pos e2]; exact H.over k h0 hk' h hp e2.symm
            · rw [if_neg e2]; exact H.rest k h0 hk' (Ne.symm e1) (Ne.symm e2)
        · have hk' : k < l.length := by simpa using hk
          have hpp := par_lt hp0
          rw [getElem_set', getElem_set', if_neg (by omega : ¬ pos = par (par pos))]
          have base := H.rest (par pos) hp0 hq' (by omega) (by omega)
          by_cases e1 : pos = k
          · rw [if_pos e1]; exact base
          · rw [if_neg e1]
            have a := H.rest k h0 hk' (Ne.symm e1) (by rw [hk1]; omega)
            have : lt (l[k]'hk') (l[par pos]'hq') = false := by
              have e : par k = par pos := hk1
              simpa [e] using a
            exact ok.ntrans _ _ _ this base
        · have hk' : k < l.length := by simpa using hk
          rw [getElem_set']
          by_cases e1 : pos = k
          · rw [if_pos e1]; exact hyx
          · rw [if_neg e1]
            have a := H.rest k h0 hk' (Ne.symm e1) (by rw [hk1]; omega)
            have : lt (l[k]'hk') (l[par pos]'hq') = false := by
              have e : par k = par pos := hk1
              simpa [e] using a
            exact ok.ntrans _ _ _ this hyx
      · rename_i hlt
        have hlt' : lt x (l[par pos]'hq') = false := by simpa using hlt
        intro k h0 hk
        have hk' : k < l.length := by simpa using hk
        have hkp := par_lt h0
        rw [getElem_set', getElem_set']
        by_cases e1 : pos = k
        · subst e1
          rw [if_pos rfl, if_neg (by omega)]; exact hlt'
        · rw [if_neg e1]
          by_cases e2 : pos = par k
          · rw [if_pos e2]; exact hx k h0 hk' e2.symm
          · rw [if_neg e2]; exact H.rest k h0 hk' (Ne.symm e1) (Ne.symm e2)
    · rename_i h
      have h0' : pos = 0 := by omega
      subst h0'
      intro k h0 hk
      have hk' : k < l.length := by simpa using hk
      rw [getElem_set', getElem_set', if_neg (by omega)]
      by_cases e2 : 0 = par k
      · rw [if_pos e2]; exact hx k h0 hk' e2.symm
      · rw [if_neg e2]; exact H.rest k h0 hk' (by omega) (Ne.symm e2)
/-- push -/
theorem push_perm (x : α) (l : List α) : (sdown lt x l.length (l ++ [x])).Perm (x :: l) := by
  refine (sdown_perm x _ _ (by simp)).trans ?_
  rw [show (l ++ [x]).set l.length x = l ++ [x] from by simp]
  exact List.perm_append_singleton x l
theorem push_heap (ok : LtOk lt) (x : α) (l : List α) (H : IsHeap lt l) : IsHeap lt (sdown lt x l.length (l ++ [x])) := by
  refine sdown_heap ok x _ _ (by simp) ⟨fun k h0 hk h1 h2 => ?_, fun k h0 hk _ _ h1 => ?_⟩ fun k h0 hk h1 => ?_
  · have hk' : k < l.length := by simp at hk; omega
    have hp := par_lt h0
    rw [List.getElem_append_left hk', List.getElem_append_left (Nat.lt_trans hp hk')]
    exact H k h0 hk'
  · have hp := par_lt h0; simp at hk; omega
  · have hp := par_lt h0; simp at hk; omega
theorem kid_lt {l : List α} {pos : Nat} (h : 2 * pos + 1 < l.length) : kid lt l pos < l.length := by
  unfold kid
  split
  · rename_i a b ha hb
    have := (List.getElem?_eq_some_iff.mp hb).1
    split <;> omega
  · exact h
theorem kid_par {l : List α} {pos : Nat} : par (kid lt l pos) = pos := by
  unfold kid par
  split <;> try split
  all_goals omega
theorem kid_least (ok : LtOk lt) {l : List α} {pos : Nat} (h : 2 * pos + 1 < l.length) : ∀ k (h0 : 0 < k) (hk : k < l.length), par k = pos → lt (l[k]'hk) (l[kid lt l pos]'(kid_lt h)) = false := by
  intro k h0 hk hp
  have irr : ∀ a, lt a a = false := fun a => by
    cases e : lt a a with
    | false => rfl
    | true => rw [ok.asymm a a e] at e; cases e
  have hk2 : k = 2 * pos + 1 ∨ k = 2 * pos + 2 := by unfold par at hp; omega
  by_cases h2 : 2 * pos + 2 < l.length
  · have e : kid lt l pos = if lt (l[2 * pos + 1]'h) (l[2 * pos + 2]'h2) = true then 2 * pos + 1 else 2 * pos + 2 := by
      unfold kid
      rw [List.getElem?_eq_getElem h, List.getElem?_eq_getElem h2]
    have main : ∀ j (hj : j < l.length), kid lt l pos = j → lt (l[k]'hk) (l[j]'hj) = false := by
      intro j hj ej
      rw [e] at ej
      by_cases hc : lt (l[2 * pos + 1]'h) (l[2 * pos + 2]'h2) = true
      · rw [if_pos hc] at ej; subst ej
        rcases hk2 with rfl | rfl
        · exact irr _
        · exact ok.asymm _ _ hc
      · rw [if_neg hc] at ej; subst ej
        rcases hk2 with rfl | rfl
        · simpa using hc
        · exact irr _
    exact main _ (kid_lt h) rfl
  · have e : kid lt l pos = 2 * pos + 1 := by
      unfold kid
      rw [List.getElem?_eq_getElem h, List.getElem?_eq_none (by omega)]
    have main : ∀ j (hj : j < l.length), kid lt l pos = j → lt (l[k]'hk) (l[j]'hj) = false := by
      intro j hj ej
      rw [e] at ej; subst ej
      have : k = 2 * pos + 1 := by omega
      subst this; exact irr _
    exact main _ (kid_lt h) rfl
theorem sup_ok (ok : LtOk lt) (x : α) : ∀ (n : Nat) (pos : Nat) (l : List α), l.length - pos ≤ n → pos < l.length → Hole lt l pos →
    (sup lt pos l).2.length = l.length ∧ (sup lt pos l).1 < l.length ∧ Hole lt (sup lt pos l).2 (sup lt pos l).1 ∧ ¬ (2 * (sup lt pos l).1 + 1 < l.length) ∧ ((sup lt pos l).2.set (sup lt pos l).1 x).Perm (l.set pos x) := by
  intro n
  induction n with
  | zero => intro pos l h1 h2; omega
  | succ n ih =>
    intro pos l hn hp H
    by_cases h : 2 * pos + 1 < l.length
    · have hk := kid_lt (lt := lt) h
      have hge := kid_le lt l pos
      have e : sup lt pos l = sup lt (kid lt l pos) (l.set pos (l[kid lt l pos]'hk)) := by
        conv => lhs; unfold sup
        rw [dif_pos h, List.getElem?_eq_getElem hk]
      have hpk : par (kid lt l pos) = pos := kid_par
      have H' : Hole lt (l.set pos (l[kid lt l pos]'hk)) (kid lt l pos) := by
        refine ⟨fun k h0 hk0 h1 h2 => ?_, fun k h0 hk0 h1 h2 h3 => ?_⟩
        · have hk' : k < l.length := by simpa using hk0
          rw [getElem_set', getElem_set']
          by_cases e1 : pos = k
          · subst e1
            rw [if_pos rfl, if_neg (by have := par_lt h0; omega)]
            exact H.over _ (by omega) hk h0 hp hpk
          · rw [if_neg e1]
            by_cases e2 : pos = par k
            · rw [if_pos e2]; exact kid_least ok h k h0 hk' e2.symm
            · rw [if_neg e2]; exact H.rest k h0 hk' (Ne.symm e1) (Ne.symm e2)
        · have hk' : k < l.length := by simpa using hk0
          have hkp := par_lt h0
          rw [getElem_set', getElem_set', if_neg (by omega), if_pos (by rw [hpk])]
          have a := H.rest k h0 hk' (by omega) (by omega)
          have : ∀ j (hj : j < l.length), par k = j → lt (l[k]'hk') (l[j]'hj) = false := by intro j hj ej; subst ej; exact a
          exact this _ hk h3
      obtain ⟨a1, a2, a3, a4, a5⟩ := ih (kid lt l pos) (l.set pos (l[kid lt l pos]'hk)) (by rw [List.length_set]; omega) (by rw [List.length_set]; exact hk) H'
      rw [e]
      rw [List.length_set] at a1 a2 a4
      exact ⟨a1, a2, a3, a4, a5.trans (set_swap_perm hp hk x)⟩
    · have e : sup lt pos l = (pos, l) := by unfold sup; rw [dif_neg h]
      rw [e]
      exact ⟨rfl, hp, H, h, .refl _⟩
/-- pop: the last item at the root, sunk -/
noncomputable def popped (x : α) (l : List α) : List α := sdown lt x (sup lt 0 (l.set 0 x)).1 ((sup lt 0 (l.set 0 x)).2.set (sup lt 0 (l.set 0 x)).1 x)
theorem pop_ok (ok : LtOk lt) {a x : α} {l : List α} (H : IsHeap lt (a :: l ++ [x])) : IsHeap lt (popped (lt := lt) x (a :: l)) ∧ (popped (lt := lt) x (a :: l)).Perm (x :: l) := by
  have H0 : Hole lt ((a :: l).set 0 x) 0 := by
    refine ⟨fun k h0 hk h1 h2 => ?_, fun k h0 hk hp _ _ => absurd hp (by omega)⟩
    have hk' : k < (a :: l).length := by simpa using hk
    rw [getElem_set', getElem_set', if_neg (by omega), if_neg (by omega)]
    have := H k h0 (by simp at hk' ⊢; omega)
    rw [List.getElem_append_left hk', List.getElem_append_left (Nat.lt_trans (par_lt h0) hk')] at this
    exact this
  obtain ⟨a1, a2, a3, a4, a5⟩ := sup_ok ok x (a :: l).length 0 ((a :: l).set 0 x) (by simp) (by simp) H0
  unfold popped
  generalize hs : sup lt 0 ((a :: l).set 0 x) = r at *
  obtain ⟨p, l'⟩ := r
  dsimp only at *
  have hlen : l'.length = (a :: l).length := by simpa using a1
  have hp : p < l'.length := by rw [a1]; exact a2
  constructor
  · refine sdown_heap ok x p _ (by rw [List.length_set]; exact hp) ⟨fun k h0 hk h1 h2 => ?_, fun k h0 hk hp0 hpl h1 => ?_⟩ fun k h0 hk h1 => ?_
    · have hk' : k < l'.length := by simpa using hk
      rw [getElem_set', getElem_set', if_neg (Ne.symm h1), if_neg (Ne.symm h2)]
      exact a3.rest k h0 hk' h1 h2
    · exfalso; have hk' : k < l'.length := by simpa using hk
      unfold par at h1; omega
    · exfalso; have hk' : k < l'.length := by simpa using hk
      unfold par at h1; omega
  · refine (sdown_perm x p _ (by rw [List.length_set]; exact hp)).trans ?_
    rw [List.set_set]
    refine a5.trans ?_
    rw [List.set_set]; exact .refl _
theorem heap_root (ok : LtOk lt) {a : α} {l : List α} (H : IsHeap lt (a :: l)) : ∀ y ∈ a :: l, lt y a = false := by
  have main : ∀ k (hk : k < (a :: l).length), lt ((a :: l)[k]'hk) a = false := by
    intro k
    induction k using Nat.strongRecOn with
    | _ k ih =>
      intro hk
      by_cases h0 : 0 < k
      · have hp := par_lt h0
        exact ok.ntrans _ _ _ (H k h0 hk) (ih _ hp (Nat.lt_trans hp hk))
      · have : k = 0 := by omega
        subst this
        cases e : lt a a with
        | false => exact e
        | true => rw [ok.asymm a a e] at e; cases e
  intro y hy
  obtain ⟨k, hk, rfl⟩ := List.getElem_of_mem hy
  exact main k hk
end
/-- pairs of ints -/
noncomputable def plt (p q : Int × Int) : Bool := decide (p.1 < q.1 ∨ (p.1 = q.1 ∧ p.2 < q.2))
theorem plt_ok : LtOk plt where
  asymm := fun a b h => by unfold plt at *; simp at *; omega
  ntrans := fun a b c h1 h2 => by unfold plt at *; simp at *; omega
end
end Mine
end
section
open PySem PySem.W PyProof.Rows
set_option maxRecDepth 100000
set_option maxHeartbeats 0
namespace Mine
theorem left_of_run {p q : Program} {loose : List Str} {Xt : Shared → Bool} {α : Type} {Yf : Shared → α} {Ya : World → α} {N : Nat} {g0 : Bool} {H₀ : Params → Heap} {gs₀ : Array GenState} {d₀ : Drawn} {k₀ : Nat} {m₀ : Nat} {ann : Option Value}
    (open_ : ∀ w : World, (fencedOpening treeTable p w N).map (fun s => (s.heap, s.gens, s.drawn, s.toks)) = some (H₀ w.params, gs₀, d₀, k₀))
    (size : ∀ w : World, ((H₀ w.params).isNs mainGlobals && gs₀.size == 0, (H₀ w.params).objs.size, (H₀ w.params).nsMap mainGlobals "__annotations__") = (true, m₀, ann))
    (run : ∀ (w : World) (os : OsState), (topRun treeTable p w m₀ ann N ⟨H₀ w.params, gs₀, d₀, k₀, os⟩ (topStub p)).map (fun s₁ => (staticsOk (importedModules p.main.body) (H₀ w.params) s₁.heap && namesBound p s₁.heap && gensDone s₁ && laidKept (H₀ w.params) s₁.heap,
        openSeen q loose (importedModules p.main.body) Xt g0 s₁, Yf s₁)) = some (true, openGood q loose, Ya w)) : LeftO p q loose Xt Yf Ya N g0 := fun w => by
  obtain ⟨⟨h, gs, d, k, os⟩, e, e'⟩ := Option.map_eq_some_iff.mp (open_ w)
  obtain ⟨rfl, rfl, rfl, rfl⟩ : h = H₀ w.params ∧ gs = gs₀ ∧ d = d₀ ∧ k = k₀ := by simpa using e'
  obtain ⟨z1, z2, z3⟩ : _ ∧ _ ∧ _ := by simpa only [Prod.mk.injEq] using size w
  obtain ⟨s₁, r, l⟩ := Option.map_eq_some_iff.mp (run w os)
  obtain ⟨l1, l2, l3⟩ : _ ∧ _ ∧ _ := by simpa only [Prod.mk.injEq] using l
  have t : topFrom treeTable p w N ⟨H₀ w.params, gs, d, k, os⟩ = some s₁ := by
    unfold topFrom
    dsimp only
    rw [z1, z2, z3, r]
    show (match staticsOk (importedModules p.main.body) (H₀ w.params) s₁.heap && namesBound p s₁.heap && gensDone s₁ && laidKept (H₀ w.params) s₁.heap with | true => _ | false => _) = _
    rw [l1]
  unfold openEnds
  rw [e]
  show (topFrom treeTable p w N _).map _ = _
  rw [t]
  exact congrArg some (Prod.ext l2 l3)
theorem boot_size : ∀ w : World, ((boot_heap w.params).isNs mainGlobals && (Array.mk [] : Array GenState).size == 0, (boot_heap w.params).objs.size, (boot_heap w.params).nsMap mainGlobals "__annotations__") = (true, 11, some (.ref 6)) := by
  intro w; kernel_rfl
noncomputable abbrev pw : Program := PySem.Challenge.pw_dn0048_08
noncomputable def view : Program := { pw with main := { pw.main with body := pw.main.body.drop 19 } }
noncomputable abbrev looseN : List Str := ["_wall", "heappush", "heappop", "_siftdown", "_siftup", "_initial_missing", "reduce", "_NODE_OUT", "_NODE_DONE", "_NodeInfo", "CycleError", "TopologicalSorter", "_law_lengths", "_law_counts", "_law_all_ways"].map Str.ofString
theorem booted : ∀ w : World, (fencedOpening treeTable pw w 2858).map (fun s => (s.heap, s.gens, s.drawn, s.toks)) = some (boot_heap w.params, Array.mk [], boot_drawn, boot_toks) :=
  boot_open (p := pw) (N := 2858) (by kernel_rfl) (by decide) (by intro s; kernel_rfl)
theorem said_ : PySem.Challenge.rw_dn0048_08.wellSaid = true := (congrFun PySem.W.Fast.te9446332074065402090 _).trans (by kernel_rfl)
theorem head_and {r : OpenRow} {L W : Prop} (h : L → W → r.Holds) (x : L ∧ W) : r.Holds := h x.1 x.2
local macro_rules
  | `(tactic| o_law) => `(tactic| refine holds_law Mine.said_ fun said => ?_)
local macro_rules
  | `(tactic| o_head $H) => do
    let hl := Lean.mkIdent `hl
    let hw := Lean.mkIdent `hw
    let hc := Lean.mkIdent `hc
    `(tactic| (refine head_and (fun $hl $hc => holds_open (q := Mine.view) (loose := Mine.looseN) (Xt := fun s => xlAt Mine.view [] s && recOk (RowW.records (OpenRow.toRowW PySem.Challenge.rw_dn0048_08.row)) s) (XP := XL Mine.view []) (Yf := Hook.obs $H) (Ya := Hook.val $H) (YP := Hook.says $H) (N := 2858) $hl:ident (Hook.of $H) (Hook.keeps $H) (fun s e => xl_of s (Bool.and_eq_true_iff.mp e).1) XL.keeps (by rfl) (by rfl) (by rfl) (fun s e => recFacts_of (Bool.and_eq_true_iff.mp e).2) (by rfl) (PySem.W.row_said Mine.said_) (by decide +kernel) ⟨rfl, rfl, rfl, rfl, rfl, by decide +kernel⟩ ?$hw:ident $hc:ident) ?$hc:ident))
open_top hd08 for PySem.Challenge.rw_dn0048_08
end Mine
end
section
open PySem PySem.Calls PySem.W PyProof.Rows
set_option maxRecDepth 100000
namespace Mine
local macro_rules | `(tactic| walk_at "x") => `(tactic| with_reducible first
  | refine EX_cons (st := .Assign _ _ _) ?_
  | refine EX_cons (st := .Expr _ _) ?_
  | refine EX_cons (st := .Return _ _) ?_
  | refine EX_cons (st := .Break _) ?_
  | refine EX_cons (st := .Continue _) ?_
  | refine EX_cons (st := .AugAssign _ _ _ _) ?_
  | refine EX_nil ?_
  | refine SeqE.n ?_
  | refine SeqE.r ?_
  | refine SeqE.b ?_
  | refine SeqE.c ?_
  | refine SeqK.n ?_
  | refine SeqK.r ?_
  | refine SeqK.b ?_
  | refine SeqK.c ?_
  | refine ASGs_cons ?_
  | refine ASGs_nil ?_
  | refine ETs_cons ?_
  | refine ETs_nil ?_
  | refine ES_assign2 ?_
  | refine ES_assign ?_
  | refine ES_expr ?_
  | refine ES_ret ?_
  | refine ES_if ?_
  | refine ES_break ?_
  | refine ES_continue ?_
  | refine ES_aug_attr ?_
  | refine EV_bin ?_
  | refine EB_cmp ?_
  | refine EV_cmp ?_
  | refine EV_un ?_
  | refine EB_not ?_
  | refine EB_and ?_
  | refine EB_or ?_
  | refine EV_or ?_
  | refine EV_named ?_
  | refine EV_sub ?_
  | refine EV_meth ?_
  | refine EV_methS ?_
  | refine EV_methL ?_
  | refine EV_call ?_
  | refine EV_attr ?_
  | refine EL_nil ?_
  | refine EL_star ?_
  | refine EL_cons ?_
  | refine EV_int ?_
  | refine EV_none ?_
  | refine EV_bool ?_
  | refine EV_tuple ?_
  | refine EV_if ?_
  | refine EV_local (by with_unfolding_all rfl) ?_
  | refine ASG_local ?_
  | refine ASG_sub ?_
  | refine ASG_attr ?_
  | refine O2_add ?_
  | refine O2_sub ?_
  | refine O2_lt ?_
  | refine O2_gt ?_
  | refine O2_le ?_
  | refine O2_ge ?_
  | refine O2_eq ?_
  | refine O2_ne ?_
  | refine O2_iadd ?_
  | refine O2_isub ?_
  | refine O2_isNone ?_
  | refine O2_isNotNone ?_
  | refine EB_val ?_)
local macro_rules | `(tactic| walk_at "xi") => `(tactic| (with_reducible refine EX_cons (st := .If _ _ _ _) ?_); repeat walk_at "x")
noncomputable section
section
noncomputable abbrev pv (p : Int × Int) : V := .tup [.int p.1, .int p.2]
theorem fdiv_two {a b : Int} (h : 0 ≤ a) (hb : 0 ≤ b) : a.fdiv b = a / b := by rw [Int.fdiv_eq_ediv_of_nonneg _ hb]
noncomputable abbrev KK (P : Params) : Frag := hd08.heap_1 P
noncomputable abbrev a_heappush : Addr := 28
noncomputable abbrev a_heappop : Addr := 35
noncomputable abbrev a_siftdown : Addr := 42
noncomputable abbrev a_siftup : Addr := 49
theorem g_siftdown {P : Params} : nsIn (KK P) mainGlobals "_siftdown" = some (some (.ref a_siftdown)) := by kernel_rfl
theorem g_siftup {P : Params} : nsIn (KK P) mainGlobals "_siftup" = some (some (.ref a_siftup)) := by kernel_rfl
theorem g_len {P : Params} : nsIn (KK P) mainGlobals "len" = some none := by kernel_rfl
theorem b_len : bootBuiltins "len" = some (.builtin "len") := by kernel_rfl
theorem par_shr {p : Nat} (h : 0 < p) : ((p : Int) - 1).fdiv (2 ^ (1 : Int).toNat) = ((par p : Nat) : Int) := by
  rw [fdiv_two (by omega) (by decide)]
  unfold par
  show ((p : Int) - 1) / 2 = _
  omega
theorem sdown_step {lt : (Int × Int) → (Int × Int) → Bool} {x y : Int × Int} {p : Nat} {l : List (Int × Int)} (h : 0 < p) (hy : l[par p]? = some y) : sdown lt x p l = if lt x y = true then sdown lt x (par p) (l.set p y) else l.set p x := by
  conv => lhs; unfold sdown
  rw [dif_pos h, hy]
theorem sdown_zero {lt : (Int × Int) → (Int × Int) → Bool} {x : Int × Int} {l : List (Int × Int)} : sdown lt x 0 l = l.set 0 x := by
  unfold sdown; rfl
theorem pv_get {ps : List (Int × Int)} {k : Nat} {y : Int × Int} (h : ps[k]? = some y) : (ps.map pv)[(k : Int).toNat]? = some (pv y) := by
  rw [Int.toNat_natCast, List.getElem?_map, h]; rfl
theorem pv_set {ps : List (Int × Int)} {k : Nat} {y : Int × Int} : (ps.map pv).set (k : Int).toNat (pv y) = (ps.set k y).map pv := by
  rw [Int.toNat_natCast, List.map_set]
section
variable {C : Cx} {A : Around} {m : Loc} {H : CH} {s : Shared} {mg mb : Str → Option Value} {P : Params}
theorem spec_siftdown {h : Addr} {ps : List (Int × Int)} {pos : Nat} {x : Int × Int} (B : Bs C.h₀ (KK P) mg mb) {n : Nat} (hA : AOK C A (n + 1)) (hh : H h = some (.list (ps.map pv))) (hsz : ps.length ≤ sizeLine) (hp : ps[pos]? = some x) :
    CALL C A (.con (.ref a_siftdown)) [.ref h, .int 0, .int pos] [] H fun v H' => v = V.none ∧ H' = H.set h (.list ((sdown plt x pos ps).map pv)) := by
  refine CALL_K B (by with_unfolding_all rfl) (by with_unfolding_all rfl) hA .pos3 (by with_unfolding_all rfl) rfl fun L hL hL0 hA' => ?_
  have hsz' : (ps.map pv).length ≤ sizeLine := by rw [List.length_map]; exact hsz
  repeat walk_at "x"
  refine sub_list (.own hh) (by omega) (pv_get hp) hsz' ?_
  repeat walk_at "x"
  have hpl : pos < ps.length := (List.getElem?_eq_some_iff.mp hp).1
  refine EX_mid (fun m H' => ∃ (p : Nat) (ps' : List (Int × Int)), H' = H.set h (.list (ps'.map pv)) ∧ ps'.length = ps.length ∧ p < ps.length ∧ ps'.set p x = sdown plt x pos ps ∧ Sub [("pos", .int p), ("newitem", pv x), ("heap", .ref h)] m) ?_ ?_
  · refine ES_while (fun n m H' => ∃ ps' : List (Int × Int), H' = H.set h (.list (ps'.map pv)) ∧ ps'.length = ps.length ∧ n < ps.length ∧ sdown plt x n ps' = sdown plt x pos ps ∧ m = ([("pos", .int n), ("newitem", pv x), ("heap", .ref h), ("startpos", .int 0)] : Loc)) pos _ (.cons rfl (.cons rfl (.cons rfl (.cons rfl .nil)))) ⟨ps, (CH.set_self hh).symm, rfl, hpl, rfl, rfl⟩ ?_
    rintro n m H' ⟨ps', rfl, hl, hn, hsd, rfl⟩
    repeat walk_at "x"
    refine ⟨_, rfl, fun h0 => ?_, fun h0 => ?_⟩
    · have hn0 : 0 < n := by simpa using h0
      obtain ⟨y, hy⟩ : ∃ y, ps'[par n]? = some y := ⟨_, List.getElem?_eq_getElem (by have := par_lt hn0; omega)⟩
      repeat walk_at "x"
      refine O2_shr (by decide) ?_
      rw [par_shr hn0]
      repeat walk_at "x"
      refine sub_list (.own CH.set_same) (by omega) (pv_get hy) (by rw [List.length_map]; omega) ?_
      repeat walk_at "x"
      walk_at "xi"
      refine O2_ltp hA'.line ?_
      have hst := sdown_step (lt := plt) (x := x) hn0 hy
      refine ⟨_, rfl, fun h1 => ?_, fun h1 => ?_⟩
      · rw [if_pos (show plt x y = true from h1)] at hst
        repeat walk_at "x"
        refine set_list CH.set_same (by omega) (by rw [List.length_map]; omega) (by rw [List.length_map]; omega) ?_
        repeat walk_at "x"
        refine ⟨par n, _, par_lt hn0, .cons rfl (.cons rfl (.cons rfl (.cons rfl .nil))), ps'.set n y, ?_, by simpa using hl, by have := par_lt hn0; omega, by rw [← hst, hsd], rfl⟩
        rw [CH.set_set, pv_set]
      · rw [if_neg (show ¬ plt x y = true from by have : plt x y = false := h1; simp [this])] at hst
        repeat walk_at "x"
        exact ⟨n, ps', rfl, hl, hn, by rw [← hst, hsd], .cons rfl (.cons rfl (.cons rfl .nil))⟩
    · have hn0 : n = 0 := by simp at h0; omega
      subst hn0
      repeat walk_at "x"
      exact ⟨0, ps', rfl, hl, hn, by rw [← hsd, sdown_zero], .cons rfl (.cons rfl (.cons rfl .nil))⟩
  · rintro m H' ⟨p, ps', rfl, e2, e3, e4, e5⟩
    refine EX.sub e5 ?_
    repeat walk_at "x"
    refine set_list CH.set_same (by omega) (by rw [List.length_map]; omega) (by rw [List.length_map]; omega) ?_
    repeat walk_at "x"
    refine ⟨rfl, ?_⟩
    rw [CH.set_set, pv_set, e4]
theorem sup_step {lt : (Int × Int) → (Int × Int) → Bool} {p : Nat} {l : List (Int × Int)} {y : Int × Int} (h : 2 * p + 1 < l.length) (hy : l[kid lt l p]? = some y) : sup lt p l = sup lt (kid lt l p) (l.set p y) := by
  conv => lhs; unfold sup
  rw [dif_pos h, hy]
theorem sup_end {lt : (Int × Int) → (Int × Int) → Bool} {p : Nat} {l : List (Int × Int)} (h : ¬ 2 * p + 1 < l.length) : sup lt p l = (p, l) := by
  unfold sup; rw [dif_neg h]
theorem spec_siftup {h : Addr} {ps : List (Int × Int)} {x : Int × Int} (B : Bs C.h₀ (KK P) mg mb) {n : Nat} (hA : AOK C A (n + 2)) (hh : H h = some (.list (ps.map pv))) (hsz : ps.length ≤ sizeLine) (hp : ps[0]? = some x) :
    CALL C A (.con (.ref a_siftup)) [.ref h, .int 0] [] H fun v H' => v = V.none ∧ H' = H.set h (.list ((sdown plt x (sup plt 0 ps).1 ((sup plt 0 ps).2.set (sup plt 0 ps).1 x)).map pv)) := by
  refine CALL_K B (by with_unfolding_all rfl) (by with_unfolding_all rfl) hA .pos2 (by with_unfolding_all rfl) rfl fun L hL hL0 hA' => ?_
  have hsz' : (ps.map pv).length ≤ sizeLine := by rw [List.length_map]; exact hsz
  have hpl : 0 < ps.length := (List.getElem?_eq_some_iff.mp hp).1
  repeat walk_at "x"
  refine EV_b B g_len b_len ?_
  repeat walk_at "x"
  refine ⟨KP_built, CV_len (.own hh) hsz' ?_⟩
  rw [List.length_map]
  repeat walk_at "x"
  refine sub_list (k := 0) (.own hh) (by omega) (pv_get (k := 0) hp) hsz' ?_
  repeat walk_at "x"
  refine O2_mul (.of_left (by decide)) ?_
  repeat walk_at "x"
  refine EX_mid (fun m H' => ∃ (p : Nat) (ps' : List (Int × Int)), H' = H.set h (.list (ps'.map pv)) ∧ ps'.length = ps.length ∧ p < ps.length ∧ sup plt 0 ps = (p, ps') ∧ Sub [("pos", .int p), ("newitem", pv x), ("heap", .ref h), ("startpos", .int 0)] m) ?_ ?_
  · refine ES_while (fun n m H' => ∃ (ps' : List (Int × Int)) (p : Nat), H' = H.set h (.list (ps'.map pv)) ∧ ps'.length = ps.length ∧ p < ps.length ∧ n = ps.length - p ∧ sup plt p ps' = sup plt 0 ps ∧ m = ([("pos", .int p), ("childpos", .int (2 * p + 1)), ("newitem", pv x), ("heap", .ref h), ("startpos", .int 0), ("endpos", .int ps.length)] : Loc)) ps.length _ (.cons rfl (.cons rfl (.cons rfl (.cons rfl (.cons rfl (.cons rfl .nil)))))) ⟨ps, 0, (CH.set_self hh).symm, rfl, hpl, rfl, rfl, rfl⟩ ?_
    rintro n m H' ⟨ps', p, rfl, hl, hn, rfl, hsd, rfl⟩
    have hszp : (ps'.map pv).length ≤ sizeLine := by rw [List.length_map]; omega
    repeat walk_at "x"
    refine ⟨_, rfl, fun h0 => ?_, fun h0 => ?_⟩
    · have hn0 : 2 * p + 1 < ps'.length := by simp at h0; omega
      repeat walk_at "x"
      refine EX_mid (fun m H' => H' = H.set h (.list (ps'.map pv)) ∧ Sub [("childpos", .int (kid plt ps' p : Nat)), ("pos", .int p), ("newitem", pv x), ("heap", .ref h), ("startpos", .int 0), ("endpos", .int ps.length)] m) ?_ ?_
      · repeat walk_at "x"
        refine ⟨_, rfl, fun h1 => ?_, fun h1 => ?_⟩
        · have h2 : 2 * p + 2 < ps'.length := by simp at h1; omega
          obtain ⟨a, ha⟩ : ∃ a, ps'[2 * p + 1]? = some a := ⟨_, List.getElem?_eq_getElem (by omega)⟩
          obtain ⟨b, hb⟩ : ∃ a, ps'[2 * p + 2]? = some a := ⟨_, List.getElem?_eq_getElem (by omega)⟩
          have hk : kid plt ps' p = if plt a b = true then 2 * p + 1 else 2 * p + 2 := by unfold kid; rw [ha, hb]
          repeat walk_at "x"
          refine sub_list (.own CH.set_same) (by omega) (pv_get (k := 2 * p + 1) ha) hszp ?_
          repeat walk_at "x"
          rw [show (2 * (p : Int) + 1 + 1) = ((2 * p + 2 : Nat) : Int) from by omega]
          refine sub_list (.own CH.set_same) (by omega) (pv_get (k := 2 * p + 2) hb) hszp ?_
          refine O2_ltp hA'.line ?_
          refine ⟨_, rfl, fun h3 => ?_, fun h3 => ?_⟩
          · have h3 : plt a b = false := by have h4 : (!plt a b) = true := h3; simpa using h4
            rw [h3] at hk
            repeat walk_at "x"
            refine ⟨rfl, .cons ?_ (.cons rfl (.cons rfl (.cons rfl (.cons rfl (.cons rfl .nil)))))⟩
            rw [hk]; rfl
          · have h3 : plt a b = true := by have h4 : (!plt a b) = false := h3; simpa using h4
            rw [h3] at hk
            repeat walk_at "x"
            refine ⟨rfl, .cons ?_ (.cons rfl (.cons rfl (.cons rfl (.cons rfl (.cons rfl .nil)))))⟩
            rw [hk]; rfl
        · refine ⟨fun q => (by cases q), fun _ => ?_⟩
          have h2 : ¬ 2 * p + 2 < ps'.length := by simp at h1; omega
          have hk : kid plt ps' p = 2 * p + 1 := by unfold kid; rw [List.getElem?_eq_none (by omega : ps'.length ≤ 2 * p + 2)]; cases ps'[2 * p + 1]? <;> rfl
          repeat walk_at "x"
          refine ⟨rfl, .cons ?_ (.cons rfl (.cons rfl (.cons rfl (.cons rfl (.cons rfl .nil)))))⟩
          rw [hk]; rfl
      · rintro m H' ⟨rfl, hm⟩
        refine EX.sub hm ?_
        have hkl := kid_lt (lt := plt) hn0
        obtain ⟨y, hy⟩ : ∃ a, ps'[kid plt ps' p]? = some a := ⟨_, List.getElem?_eq_getElem hkl⟩
        repeat walk_at "x"
        refine sub_list (.own CH.set_same) (by omega) (pv_get hy) hszp ?_
        repeat walk_at "x"
        refine set_list CH.set_same (by omega) (by rw [List.length_map]; omega) hszp ?_
        repeat walk_at "x"
        refine O2_mul (.of_left (by decide)) ?_
        repeat walk_at "x"
        have hge := kid_le plt ps' p
        refine ⟨ps.length - kid plt ps' p, _, by omega, .cons rfl (.cons rfl (.cons rfl (.cons rfl (.cons rfl (.cons rfl .nil))))), ps'.set p y, kid plt ps' p, ?_, by simpa using hl, by omega, rfl, by rw [← sup_step hn0 hy, hsd], rfl⟩
        rw [CH.set_set, pv_set]
    · have hn0 : ¬ 2 * p + 1 < ps'.length := by simp at h0; omega
      repeat walk_at "x"
      exact ⟨p, ps', rfl, hl, hn, by rw [← hsd, sup_end hn0], .cons rfl (.cons rfl (.cons rfl (.cons rfl .nil)))⟩
  · rintro m H' ⟨p, ps', rfl, e2, e3, e4, e5⟩
    refine EX.sub e5 ?_
    repeat walk_at "x"
    refine set_list CH.set_same (by omega) (by rw [List.length_map]; omega) (by rw [List.length_map]; omega) ?_
    rw [CH.set_set, pv_set]
    repeat walk_at "x"
    refine EV_g B g_siftdown ?_
    repeat walk_at "x"
    refine ⟨KP_K B (by with_unfolding_all rfl), CV_of ((spec_siftdown (by exact B) hA' CH.set_same (by rw [List.length_set]; omega) (by rw [List.getElem?_set_self (by omega)])).mono ?_)⟩
    rintro v H' ⟨rfl, rfl⟩
    repeat walk_at "x"
    refine ⟨rfl, ?_⟩
    rw [CH.set_set, e4]
theorem spec_heappush {h : Addr} {ps : List (Int × Int)} {x : Int × Int} (B : Bs C.h₀ (KK P) mg mb) {n : Nat} (hA : AOK C A (n + 2)) (hh : H h = some (.list (ps.map pv))) (hsz : ps.length + 1 ≤ sizeLine) :
    CALL C A (.con (.ref a_heappush)) [.ref h, pv x] [] H fun v H' => v = V.none ∧ H' = H.set h (.list ((sdown plt x ps.length (ps ++ [x])).map pv)) := by
  refine CALL_K B (by with_unfolding_all rfl) (by with_unfolding_all rfl) hA .pos2 (by with_unfolding_all rfl) rfl fun L hL hL0 hA' => ?_
  repeat walk_at "x"
  refine GM_list (.own hh) F.slot_list_append F.type_list_append ?_
  repeat walk_at "x"
  refine ⟨KP_built, CV_append hh (by rw [List.length_map]; omega) ?_⟩
  have e : ps.map pv ++ [pv x] = (ps ++ [x]).map pv := by simp
  rw [e]
  repeat walk_at "x"
  refine EV_g B g_siftdown ?_
  repeat walk_at "x"
  refine EV_b B g_len b_len ?_
  repeat walk_at "x"
  refine ⟨KP_built, CV_len (.own CH.set_same) (by simp; omega) ?_⟩
  repeat walk_at "x"
  have e2 : ((((ps ++ [x]).map pv).length : Nat) : Int) - 1 = ((ps.length : Nat) : Int) := by simp
  rw [e2]
  repeat walk_at "x"
  refine ⟨KP_K B (by with_unfolding_all rfl), CV_of ((spec_siftdown (x := x) (by exact B) hA' CH.set_same (by simp; omega) (by simp)).mono ?_)⟩
  rintro v H' ⟨rfl, rfl⟩
  repeat walk_at "x"
  refine ⟨rfl, ?_⟩
  rw [CH.set_set]
theorem spec_heappop {h : Addr} {a x : Int × Int} {ps : List (Int × Int)} (B : Bs C.h₀ (KK P) mg mb) {n : Nat} (hA : AOK C A (n + 3)) (hh : H h = some (.list ((a :: ps ++ [x]).map pv))) (hsz : ps.length + 2 ≤ sizeLine) :
    CALL C A (.con (.ref a_heappop)) [.ref h] [] H fun v H' => v = pv a ∧ H' = H.set h (.list ((popped (lt := plt) x (a :: ps)).map pv)) := by
  refine CALL_K B (by with_unfolding_all rfl) (by with_unfolding_all rfl) hA .pos1 (by with_unfolding_all rfl) rfl fun L hL hL0 hA' => ?_
  have hh' : H h = some (.list ((a :: ps).map pv ++ [pv x])) := by rw [hh]; simp
  repeat walk_at "x"
  refine GM_list (.own hh) F.slot_list_pop F.type_list_pop ?_
  repeat walk_at "x"
  refine ⟨KP_built, CV_pop hh' (by simp; omega) ?_⟩
  repeat walk_at "x"
  walk_at "xi"
  refine OB_list (.own CH.set_same) (by simp; omega) ?_
  refine ⟨fun _ => ?_, fun q => (by cases q)⟩
  repeat walk_at "x"
  refine sub_list (v := pv a) (.own CH.set_same) (by omega) rfl (by simp; omega) ?_
  repeat walk_at "x"
  refine set_list CH.set_same (by omega) (by simp) (by simp; omega) ?_
  have e : (((a :: ps).map pv).set (0 : Int).toNat (pv x)) = ((a :: ps).set 0 x).map pv := by simp
  rw [e, CH.set_set]
  repeat walk_at "x"
  refine EV_g B g_siftup ?_
  repeat walk_at "x"
  refine ⟨KP_K B (by with_unfolding_all rfl), CV_of ((spec_siftup (x := x) (by exact B) hA' CH.set_same (by simp; omega) (by simp)).mono ?_)⟩
  rintro v H' ⟨rfl, rfl⟩
  repeat walk_at "x"
  refine ⟨rfl, ?_⟩
  rw [CH.set_set]; rfl
theorem spec_heappop1 {h : Addr} {x : Int × Int} (B : Bs C.h₀ (KK P) mg mb) {n : Nat} (hA : AOK C A (n + 3)) (hh : H h = some (.list ([x].map pv))) :
    CALL C A (.con (.ref a_heappop)) [.ref h] [] H fun v H' => v = pv x ∧ H' = H.set h (.list []) := by
  refine CALL_K B (by with_unfolding_all rfl) (by with_unfolding_all rfl) hA .pos1 (by with_unfolding_all rfl) rfl fun L hL hL0 hA' => ?_
  have hh' : H h = some (.list ([] ++ [pv x])) := by rw [hh]; rfl
  repeat walk_at "x"
  refine GM_list (.own hh) F.slot_list_pop F.type_list_pop ?_
  repeat walk_at "x"
  refine ⟨KP_built, CV_pop hh' (by unfold sizeLine; simp) ?_⟩
  repeat walk_at "x"
  walk_at "xi"
  refine OB_list (.own CH.set_same) (by simp) ?_
  refine ⟨fun q => (by cases q), fun _ => ?_⟩
  repeat walk_at "x"
  exact ⟨rfl, rfl⟩
end
end
section
noncomputable abbrev a_reduce : Addr := 58
noncomputable abbrev a_missing : Addr := 50
theorem g_missing {P : Params} : nsIn (KK P) mainGlobals "_initial_missing" = some (some (.ref a_missing)) := by kernel_rfl
theorem g_iter {P : Params} : nsIn (KK P) mainGlobals "iter" = some none := by kernel_rfl
theorem b_iter : bootBuiltins "iter" = some (.builtin "iter") := by kernel_rfl
theorem CH.del_set {H : CH} {a : Addr} {c : CObj} (h : H a = none) : (H.set a c).del a = H := by
  funext b; unfold CH.del CH.set; split
  · subst b; exact h.symm
  · rfl
section
variable {C : Cx} {A : Around} {m : Loc} {H : CH} {s : Shared} {mg mb : Str → Option Value} {P : Params}
theorem spec_reduce {f init : V} {l : Addr} {xs : List V} (B : Bs C.h₀ (KK P) mg mb) {n : Nat} (hA : AOK C A (n + 1)) (hl : H l = some (.list xs)) (hinit : (∃ i, init = .int i) ∨ init = V.none ∨ (∃ a c, init = .ref a ∧ H a = some c) ∨ ∃ l, init = .tup l)
    (J : Nat → V → CH → Prop) (h0 : J 0 init H) (hkp : ∀ env H', KP (C.at env) f H')
    (step : ∀ i v x H' env, AOK (C.at env) (A.deeper env) n → J i v H' → xs[i]? = some x → CALL (C.at env) (A.deeper env) f [v, x] [] H' fun v' H'' => J (i + 1) v' H'')
    (keep : ∀ i v H', J i v H' → H' l = some (.list xs)) :
    CALL C A (.con (.ref a_reduce)) [f, .ref l, init] [] H fun v H' => J xs.length v H' := by
  refine CALL_KW B (by with_unfolding_all rfl) (by with_unfolding_all rfl) hA (binds := [("function", f), ("sequence", .ref l), ("initial", init)]) (.dflt (T := 51) (items := [.ref a_missing]) (n := 0) B (by with_unfolding_all rfl) fun h rs hv => ?_) (by with_unfolding_all rfl) rfl fun L hL hL0 hA' => ?_
  · obtain ⟨a, b, c, rfl, ha, hb, hc⟩ := three_inv hv
    exact ⟨_, [("function", a), ("sequence", b), ("initial", c)], by with_unfolding_all rfl, by with_unfolding_all rfl, rfl, .cons ha (.cons hb (.cons hc .nil))⟩
  repeat walk_at "x"
  refine EV_b B g_iter b_iter ?_
  repeat walk_at "x"
  refine ⟨KP_built, CV_iter (.own hl) fun I hI hI0 => ?_⟩
  have hne : l ≠ I := fun e => by rw [e, hI] at hl; cases hl
  repeat walk_at "x"
  walk_at "xi"
  refine EV_g B g_missing ?_
  refine O2_is_mark (B.X _ _ (by with_unfolding_all rfl : (KK P).lookup a_missing = some { cls := .type "object" })) (fun e => absurd (Value.type.inj e) (by decide)) ?_ ?_
  · rcases hinit with h | h | ⟨a, c, h1, h2⟩ | h
    · exact .inl h
    · exact .inr (.inl h)
    · exact .inr (.inr (.inl ⟨a, c, h1, by rw [CH.set_ne (fun e => by rw [e, hI] at h2; cases h2)]; exact h2⟩))
    · exact .inr (.inr (.inr h))
  refine ⟨_, rfl, fun q => (by cases q), fun _ => ?_⟩
  repeat walk_at "x"
  refine EX_cons (st := .For _ _ _ _ _) ?_
  refine ES_for_it (xs := xs) (l := l) hA'.handled (by with_unfolding_all rfl) CH.set_same [("value", init), ("function", f)] (fun i m' H' => ∃ v, J i v H' ∧ m' = ([("value", v), ("function", f)] : Loc)) (.cons rfl (.cons rfl .nil)) ⟨init, by rw [CH.del_set hI]; exact h0, rfl⟩ (Nat.zero_le _) ?_
  rintro i m' H' ⟨v, hJ, rfl⟩
  refine ⟨keep i v H' hJ, fun x hx => ?_, fun hi => ?_⟩
  · repeat walk_at "x"
    refine ⟨hkp _ _, CV_of ((step i v x H' _ hA' hJ hx).mono ?_)⟩
    intro v' H'' hJ'
    repeat walk_at "x"
    exact ⟨[("value", v'), ("function", f)], .cons rfl (.cons rfl .nil), v', hJ', rfl⟩
  · subst hi
    repeat walk_at "x"
    exact hJ
end
end
section
noncomputable abbrev cNI : Addr := 77
noncomputable abbrev cTS : Addr := 174
noncomputable abbrev a_NIinit : Addr := 73
noncomputable abbrev a_TSinit : Addr := 110
noncomputable abbrev a_getinfo : Addr := 117
noncomputable abbrev a_add : Addr := 124
noncomputable abbrev a_prepare : Addr := 129
noncomputable abbrev a_getready : Addr := 136
noncomputable abbrev a_isactive : Addr := 143
noncomputable abbrev a_done : Addr := 157
noncomputable abbrev a_findcycle : Addr := 164
theorem g_NI {P : Params} : nsIn (KK P) mainGlobals "_NodeInfo" = some (some (.ref cNI)) := by kernel_rfl
theorem k_makeNI {P : Params} : makeOk (KK P) cNI a_NIinit = true := by kernel_rfl
theorem k_makeTS {P : Params} : makeOk (KK P) cTS a_TSinit = true := by kernel_rfl
theorem k_keepNI {P : Params} : keepIn (KK P) (.ref cNI) = true := by kernel_rfl
theorem k_keepTS {P : Params} : keepIn (KK P) (.ref cTS) = true := by kernel_rfl
section
variable {C : Cx} {A : Around} {m : Loc} {H : CH} {s : Shared} {mg mb : Str → Option Value} {P : Params}
noncomputable abbrev niObj (d l : Addr) (np k : Int) : CObj := .inst cNI d [some (.int k), some (.int np), some (.ref l)]
theorem spec_NIinit {x d : Addr} {k : Int} (B : Bs C.h₀ (KK P) mg mb) {n : Nat} (hA : AOK C A (n + 1)) (hx : H x = some (.inst cNI d [])) (hd : H d = some (.idict [])) :
    CALL C A (.con (.ref a_NIinit)) [.ref x, .int k] [] H fun v H' => v = V.none ∧ ∃ l, H l = none ∧ H' = (H.set l (.list [])).set x (niObj d l 0 k) := by
  have hxd : x ≠ d := fun e => by rw [e, hd] at hx; cases hx
  refine CALL_K B (by with_unfolding_all rfl) (by with_unfolding_all rfl) hA .pos2 (by with_unfolding_all rfl) rfl fun L hL hL0 hA' => ?_
  repeat walk_at "x"
  refine SA_slot (p := 78) (i := 0) B hx hd ?_
  repeat walk_at "x"
  refine SA_slot (p := 79) (i := 1) B CH.set_same (by rw [CH.set_ne (Ne.symm hxd)]; exact hd) ?_
  repeat walk_at "x"
  refine EV_list ?_
  repeat walk_at "x"
  refine ⟨by simp, fun l hl => ?_⟩
  rw [CH.set_set] at hl ⊢
  have hlx : x ≠ l := fun e => by rw [e, CH.set_same] at hl; cases hl
  have hlH : H l = none := by rw [← CH.set_ne (H := H) (c := _) (Ne.symm hlx)]; exact hl
  have hld : d ≠ l := fun e => by rw [e, hlH] at hd; cases hd
  repeat walk_at "x"
  refine SA_slot (p := 80) (i := 2) B (by rw [CH.set_ne hlx, CH.set_same]) (by rw [CH.set_ne hld, CH.set_ne (Ne.symm hxd)]; exact hd) ?_
  repeat walk_at "x"
  refine ⟨rfl, l, hlH, ?_⟩
  funext b
  by_cases hb : b = x
  · subst hb; rw [CH.set_same, CH.set_same]; rfl
  · rw [CH.set_ne hb, CH.set_ne hb]
    by_cases hbl : b = l
    · subst hbl; rw [CH.set_same, CH.set_same]
    · rw [CH.set_ne hbl, CH.set_ne hbl, CH.set_ne hb]
theorem spec_makeNI {k : Int} (B : Bs C.h₀ (KK P) mg mb) {n : Nat} (hA : AOK C A (n + 2)) :
    CALL C A (.con (.ref cNI)) [.int k] [] H fun v H' => ∃ x d l, v = .ref x ∧ H x = none ∧ H d = none ∧ H l = none ∧ x ≠ d ∧ x ≠ l ∧ d ≠ l ∧ H' x = some (niObj d l 0 k) ∧ H' d = some (.idict []) ∧ H' l = some (.list []) ∧ ∀ b, b ≠ x → b ≠ d → b ≠ l → H' b = H b := by
  refine CALL_make B k_makeNI fun x d rest kw hx hd hx0 hd0 hxd => ?_
  refine (spec_NIinit (k := k) B hA.under CH.set_same (by rw [CH.set_ne (Ne.symm hxd)]; exact CH.set_same)).mono ?_
  rintro v H' ⟨rfl, l, hl, rfl⟩
  have hlx : l ≠ x := fun e => by rw [e, CH.set_same] at hl; cases hl
  have hld : l ≠ d := fun e => by rw [e, CH.set_ne (Ne.symm hxd), CH.set_same] at hl; cases hl
  refine ⟨rfl, x, d, l, rfl, hx, hd, by rw [CH.set_ne hlx, CH.set_ne hld] at hl; exact hl, hxd, Ne.symm hlx, Ne.symm hld, CH.set_same, ?_, ?_, ?_⟩
  · rw [CH.set_ne (Ne.symm hxd), CH.set_ne (Ne.symm hld), CH.set_ne (Ne.symm hxd), CH.set_same]
  · rw [CH.set_ne hlx, CH.set_same]
  · intro b h1 h2 h3
    rw [CH.set_ne h1, CH.set_ne h3, CH.set_ne h1, CH.set_ne h2]
end
end
section
structure TS where
  keys : List Int
  np : Int → Int
  sc : Int → List Int
  ready : Option (List Int)
  pass : Int
  fin : Int
noncomputable def TS.new : TS := ⟨[], fun _ => 0, fun _ => [], none, 0, 0⟩
noncomputable def upd {α : Type} (f : Int → α) (k : Int) (v : α) : Int → α := fun x => if x = k then v else f x
theorem upd_same {α : Type} {f : Int → α} {k : Int} {v : α} : upd f k v k = v := by simp [upd]
theorem upd_ne {α : Type} {f : Int → α} {k x : Int} {v : α} (h : x ≠ k) : upd f k v x = f x := by simp [upd, h]
noncomputable def TS.touch (T : TS) (k : Int) : TS := if k ∈ T.keys then T else { T with keys := T.keys ++ [k], np := upd T.np k 0, sc := upd T.sc k [] }
noncomputable def TS.setNp (T : TS) (k v : Int) : TS := { T with np := upd T.np k v }
noncomputable def TS.link (T : TS) (p k : Int) : TS := { T with sc := upd T.sc p (T.sc p ++ [k]) }
noncomputable def TS.add (T : TS) (k : Int) (ps : List Int) : TS :=
  ps.foldl (fun T p => (T.touch p).link p k) ((T.touch k).setNp k ((T.touch k).np k + ps.length))
noncomputable def TS.prep (T : TS) : TS := { T with ready := some (T.keys.filter fun k => T.np k == 0) }
noncomputable def TS.out (T : TS) (ks : List Int) : TS := ks.foldl (fun T k => T.setNp k (-1)) T
noncomputable def TS.getReady (T : TS) (r : List Int) : TS := { T.out r with ready := some [], pass := T.pass + r.length }
noncomputable def TS.rel (T : TS) (x : Int) : TS := { T.setNp x (T.np x - 1) with ready := if T.np x - 1 = 0 then T.ready.map (· ++ [x]) else T.ready }
noncomputable def TS.done1 (T : TS) (k : Int) : TS := { (T.sc k).foldl TS.rel (T.setNp k (-2)) with fin := T.fin + 1 }
structure Lay where
  d : Addr
  n2i : Addr
  ep : Nat
  rd : Addr
  bA : Int → Addr
  bD : Int → Addr
  bL : Int → Addr
noncomputable def rdV (T : TS) (L : Lay) : V := match T.ready with | none => V.none | some _ => .ref L.rd
structure TSR (H : CH) (a : Addr) (T : TS) (L : Lay) : Prop where
  top : H a = some (.inst cTS L.d [])
  dict : H L.d = some (.idict [("_node2info", .ref L.n2i), ("_ready_nodes", rdV T L), ("_npassedout", .int T.pass), ("_nfinished", .int T.fin)])
  n2i : H L.n2i = some (.dict (T.keys.map fun k => (k, .ref (L.bA k))) L.ep)
  rdy : ∀ r, T.ready = some r → H L.rd = some (.list (r.map .int))
  node : ∀ k ∈ T.keys, H (L.bA k) = some (niObj (L.bD k) (L.bL k) (T.np k) k)
  nd : ∀ k ∈ T.keys, H (L.bD k) = some (.idict [])
  succ : ∀ k ∈ T.keys, H (L.bL k) = some (.list ((T.sc k).map .int))
  inj : ∀ k ∈ T.keys, ∀ k' ∈ T.keys, L.bL k = L.bL k' → k = k'
  rdn : ∀ k ∈ T.keys, T.ready ≠ none → L.bL k ≠ L.rd
  nodup : T.keys.Nodup
noncomputable def Foot (a : Addr) (T : TS) (L : Lay) (b : Addr) : Prop := b = a ∨ b = L.d ∨ b = L.n2i ∨ (T.ready ≠ none ∧ b = L.rd) ∨ ∃ k ∈ T.keys, b = L.bA k ∨ b = L.bD k ∨ b = L.bL k
noncomputable def FrameT (a : Addr) (H : CH) (T : TS) (L : Lay) (H' : CH) (T' : TS) (L' : Lay) : Prop := ∀ b, H b ≠ none → ¬ Foot a T L b → H' b = H b ∧ ¬ Foot a T' L' b
theorem FrameT.refl {a : Addr} {H : CH} {T : TS} {L : Lay} : FrameT a H T L H T L := fun _ _ h => ⟨rfl, h⟩
theorem FrameT.trans {a : Addr} {H H' H'' : CH} {T T' T'' : TS} {L L' L'' : Lay} (x : FrameT a H T L H' T' L') (y : FrameT a H' T' L' H'' T'' L'') : FrameT a H T L H'' T'' L'' := fun b hb hn => by
  obtain ⟨h1, h2⟩ := x b hb hn
  obtain ⟨h3, h4⟩ := y b (by rw [h1]; exact hb) h2
  exact ⟨h3.trans h1, h4⟩
theorem set_other {H : CH} {a b : Addr} {c : CObj} {x y : CObj} (ha : H a = some x) (hb : H b = some y) (hxy : x ≠ y) : H.set a c b = some y := by
  rw [CH.set_ne (fun e => hxy (by rw [e, ha] at hb; exact Option.some.inj hb))]; exact hb
theorem ni_inj {d l d' l' : Addr} {np np' k k' : Int} (h : niObj d l np k = niObj d' l' np' k') : k = k' := by
  injection h with h1 h2 h3
  simp at h3; exact h3.1
section
variable {H : CH} {a : Addr} {T : TS} {L : Lay}
theorem TSR.setNp (R : TSR H a T L) {k : Int} (hk : k ∈ T.keys) (v : Int) : TSR (H.set (L.bA k) (niObj (L.bD k) (L.bL k) v k)) a (T.setNp k v) L ∧ FrameT a H T L (H.set (L.bA k) (niObj (L.bD k) (L.bL k) v k)) (T.setNp k v) L := by
  have hn := R.node k hk
  refine ⟨⟨?_, ?_, ?_, ?_, ?_, ?_, ?_, R.inj, R.rdn, R.nodup⟩, fun b hb hf => ⟨CH.set_ne fun e => hf (.inr (.inr (.inr (.inr ⟨k, hk, .inl e⟩)))), hf⟩⟩
  · exact set_other hn R.top (by intro e; cases e)
  · exact set_other hn R.dict (by intro e; cases e)
  · exact set_other hn R.n2i (by intro e; cases e)
  · exact fun r hr => set_other hn (R.rdy r hr) (by intro e; cases e)
  · intro k' hk'
    by_cases h : k' = k
    · subst h; show CH.set _ _ _ _ = some (niObj _ _ (upd T.np k' v k') k'); rw [CH.set_same, upd_same]
    · show CH.set _ _ _ _ = some (niObj _ _ (upd T.np k v k') k')
      rw [upd_ne h]
      exact set_other hn (R.node k' hk') (fun e => h (ni_inj e).symm)
  · exact fun k' hk' => set_other hn (R.nd k' hk') (by intro e; cases e)
  · exact fun k' hk' => set_other hn (R.succ k' hk') (by intro e; cases e)
theorem TSR.setSc (R : TSR H a T L) {k : Int} (hk : k ∈ T.keys) (l : List Int) : TSR (H.set (L.bL k) (.list (l.map .int))) a { T with sc := upd T.sc k l } L ∧ FrameT a H T L (H.set (L.bL k) (.list (l.map .int))) { T with sc := upd T.sc k l } L := by
  have hn := R.succ k hk
  refine ⟨⟨?_, ?_, ?_, ?_, ?_, ?_, ?_, R.inj, R.rdn, R.nodup⟩, fun b hb hf => ⟨CH.set_ne fun e => hf (.inr (.inr (.inr (.inr ⟨k, hk, .inr (.inr e)⟩)))), hf⟩⟩
  · exact set_other hn R.top (by intro e; cases e)
  · exact set_other hn R.dict (by intro e; cases e)
  · exact set_other hn R.n2i (by intro e; cases e)
  · intro r hr
    rw [CH.set_ne (Ne.symm (R.rdn k hk (by rw [show T.ready = some r from hr]; simp)))]; exact R.rdy r hr
  · exact fun k' hk' => set_other hn (R.node k' hk') (by intro e; cases e)
  · exact fun k' hk' => set_other hn (R.nd k' hk') (by intro e; cases e)
  · intro k' hk'
    by_cases h : k' = k
    · subst h; show CH.set _ _ _ _ = some (.list ((upd T.sc k' l k').map .int)); rw [CH.set_same, upd_same]
    · show CH.set _ _ _ _ = some (.list ((upd T.sc k l k').map .int))
      rw [upd_ne h, CH.set_ne (fun e => h (R.inj _ hk' _ hk e))]; exact R.succ k' hk'
theorem TSR.setRd (R : TSR H a T L) {r : List Int} (hr : T.ready = some r) (l : List Int) : TSR (H.set L.rd (.list (l.map .int))) a { T with ready := some l } L ∧ FrameT a H T L (H.set L.rd (.list (l.map .int))) { T with ready := some l } L := by
  have hn := R.rdy r hr
  have hne : T.ready ≠ none := by rw [hr]; simp
  refine ⟨⟨?_, ?_, ?_, ?_, ?_, ?_, ?_, R.inj, fun k hk _ => R.rdn k hk hne, R.nodup⟩, fun b hb hf => ⟨CH.set_ne fun e => hf (.inr (.inr (.inr (.inl ⟨hne, e⟩)))), fun h => hf ?_⟩⟩
  · exact set_other hn R.top (by intro e; cases e)
  · have : rdV { T with ready := some l } L = rdV T L := by unfold rdV; rw [hr]
    show CH.set _ _ _ _ = some (.idict [_, ("_ready_nodes", rdV { T with ready := some l } L), _, _])
    rw [this]; exact set_other hn R.dict (by intro e; cases e)
  · exact set_other hn R.n2i (by intro e; cases e)
  · intro r' hr'; cases hr'; exact CH.set_same
  · exact fun k' hk' => set_other hn (R.node k' hk') (by intro e; cases e)
  · exact fun k' hk' => set_other hn (R.nd k' hk') (by intro e; cases e)
  · intro k' hk'
    rw [CH.set_ne (R.rdn k' hk' hne)]; exact R.succ k' hk'
  · rcases h with h | h | h | h | h
    · exact .inl h
    · exact .inr (.inl h)
    · exact .inr (.inr (.inl h))
    · exact .inr (.inr (.inr (.inl ⟨hne, h.2⟩)))
    · exact .inr (.inr (.inr (.inr h)))
/-- counts in the sorter's own names -/
theorem TSR.setNums (R : TSR H a T L) (p f : Int) : TSR (H.set L.d (.idict [("_node2info", .ref L.n2i), ("_ready_nodes", rdV T L), ("_npassedout", .int p), ("_nfinished", .int f)])) a { T with pass := p, fin := f } L ∧
    FrameT a H T L (H.set L.d (.idict [("_node2info", .ref L.n2i), ("_ready_nodes", rdV T L), ("_npassedout", .int p), ("_nfinished", .int f)])) { T with pass := p, fin := f } L := by
  have hn := R.dict
  refine ⟨⟨?_, CH.set_same, ?_, ?_, ?_, ?_, ?_, R.inj, R.rdn, R.nodup⟩, fun b hb hf => ⟨CH.set_ne fun e => hf (.inr (.inl e)), hf⟩⟩
  · exact set_other hn R.top (by intro e; cases e)
  · exact set_other hn R.n2i (by intro e; cases e)
  · exact fun r hr => set_other hn (R.rdy r hr) (by intro e; cases e)
  · exact fun k' hk' => set_other hn (R.node k' hk') (by intro e; cases e)
  · exact fun k' hk' => set_other hn (R.nd k' hk') (by intro e; simp at e)
  · exact fun k' hk' => set_other hn (R.succ k' hk') (by intro e; cases e)
theorem TSR.setSome (R : TSR H a T L) {r : Addr} (hr : H r = none) (hready : T.ready = none) (l : List Int) : TSR ((H.set r (.list (l.map .int))).set L.d (.idict [("_node2info", .ref L.n2i), ("_ready_nodes", .ref r), ("_npassedout", .int T.pass), ("_nfinished", .int T.fin)])) a { T with ready := some l } { L with rd := r } ∧
    FrameT a H T L ((H.set r (.list (l.map .int))).set L.d (.idict [("_node2info", .ref L.n2i), ("_ready_nodes", .ref r), ("_npassedout", .int T.pass), ("_nfinished", .int T.fin)])) { T with ready := some l } { L with rd := r } := by
  have hn := R.dict
  have low : ∀ {b : Addr} {c : CObj}, H b = some c → H.set r (.list (l.map .int)) b = some c := fun {b c} h => by rw [CH.set_ne (fun e => by rw [e, hr] at h; cases h)]; exact h
  have hn' := low hn
  refine ⟨⟨?_, CH.set_same, ?_, ?_, ?_, ?_, ?_, R.inj, ?_, R.nodup⟩, fun b hb hf => ⟨?_, fun h => hf ?_⟩⟩
  · exact set_other hn' (low R.top) (by intro e; cases e)
  · exact set_other hn' (low R.n2i) (by intro e; cases e)
  · intro r' hr'
    cases hr'
    show CH.set _ _ _ r = _
    rw [CH.set_ne (fun e => by rw [← e, hr] at hn; cases hn), CH.set_same]
  · exact fun k' hk' => set_other hn' (low (R.node k' hk')) (by intro e; cases e)
  · exact fun k' hk' => set_other hn' (low (R.nd k' hk')) (by intro e; simp at e)
  · exact fun k' hk' => set_other hn' (low (R.succ k' hk')) (by intro e; cases e)
  · intro k hk _ e
    have h := R.succ k hk
    have e' : L.bL k = r := e
    rw [e', hr] at h; cases h
  · rw [CH.set_ne (fun e => hf (.inr (.inl e))), CH.set_ne (fun e => by rw [e, hr] at hb; exact hb rfl)]
  · rcases h with h | h | h | h | h
    · exact .inl h
    · exact .inr (.inl h)
    · exact .inr (.inr (.inl h))
    · exact absurd h.2 (fun e => by rw [e] at hb; exact hb hr)
    · exact .inr (.inr (.inr (.inr h)))
theorem putI_new {kvs : List (Int × V)} {k : Int} {v : V} (h : k ∉ kvs.map (·.1)) : putI kvs k v = kvs ++ [(k, v)] := by
  unfold putI
  rw [if_neg]
  intro e
  rw [List.any_eq_true] at e
  obtain ⟨p, hp, hk⟩ := e
  exact h (List.mem_map.mpr ⟨p, hp, by simpa using hk⟩)
theorem TSR.addKey (R : TSR H a T L) {k : Int} (hk : k ∉ T.keys) {x d l : Addr} {H' : CH} {ep : Nat} (hx : H x = none) (hd : H d = none) (hl : H l = none) (h1 : H' x = some (niObj d l 0 k)) (h2 : H' d = some (.idict [])) (h3 : H' l = some (.list [])) (hxd : x ≠ d) (hxl : x ≠ l) (hdl : d ≠ l) (h4 : ∀ b, b ≠ x → b ≠ d → b ≠ l → H' b = H b) :
    TSR (H'.set L.n2i (.dict (putI (T.keys.map fun k => (k, .ref (L.bA k))) k (.ref x)) ep)) a { T with keys := T.keys ++ [k], np := upd T.np k 0, sc := upd T.sc k [] } { L with ep := ep, bA := upd L.bA k x, bD := upd L.bD k d, bL := upd L.bL k l } ∧
    FrameT a H T L (H'.set L.n2i (.dict (putI (T.keys.map fun k => (k, .ref (L.bA k))) k (.ref x)) ep)) { T with keys := T.keys ++ [k], np := upd T.np k 0, sc := upd T.sc k [] } { L with ep := ep, bA := upd L.bA k x, bD := upd L.bD k d, bL := upd L.bL k l } := by
  have low : ∀ {b : Addr} {c : CObj}, H b = some c → H' b = some c := fun {b c} h => by
    rw [h4 b (fun e => by rw [e, hx] at h; cases h) (fun e => by rw [e, hd] at h; cases h) (fun e => by rw [e, hl] at h; cases h)]; exact h
  have hn := low R.n2i
  have hput : putI (T.keys.map fun k => (k, V.ref (L.bA k))) k (.ref x) = (T.keys ++ [k]).map fun k' => (k', V.ref (upd L.bA k x k')) := by
    rw [putI_new (by rw [List.map_map]; simpa using hk), List.map_append]
    congr 1
    · refine List.map_congr_left fun k' hk' => ?_
      rw [upd_ne (fun e => hk (by rw [← e]; exact hk'))]
    · simp [upd]
  have ne : ∀ k' ∈ T.keys, k' ≠ k := fun k' hk' e => hk (e ▸ hk')
  refine ⟨⟨?_, ?_, ?_, ?_, ?_, ?_, ?_, ?_, ?_, ?_⟩, fun b hb hf => ⟨?_, fun h => hf ?_⟩⟩
  · exact set_other hn (low R.top) (by intro e; cases e)
  · exact set_other hn (low R.dict) (by intro e; cases e)
  · rw [hput]; exact CH.set_same
  · exact fun r hr => set_other hn (low (R.rdy r hr)) (by intro e; cases e)
  · intro k' hk'
    rcases List.mem_append.mp hk' with hk' | hk'
    · show CH.set _ _ _ (upd L.bA k x k') = some (niObj (upd L.bD k d k') (upd L.bL k l k') (upd T.np k 0 k') k')
      rw [upd_ne (ne k' hk'), upd_ne (ne k' hk'), upd_ne (ne k' hk'), upd_ne (ne k' hk')]
      exact set_other hn (low (R.node k' hk')) (by intro e; cases e)
    · obtain rfl := List.mem_singleton.mp hk'
      show CH.set _ _ _ (upd L.bA k' x k') = some (niObj (upd L.bD k' d k') (upd L.bL k' l k') (upd T.np k' 0 k') k')
      rw [upd_same, upd_same, upd_same, upd_same]
      exact set_other hn h1 (by intro e; cases e)
  · intro k' hk'
    rcases List.mem_append.mp hk' with hk' | hk'
    · show CH.set _ _ _ (upd L.bD k d k') = _
      rw [upd_ne (ne k' hk')]
      exact set_other hn (low (R.nd k' hk')) (by intro e; cases e)
    · obtain rfl := List.mem_singleton.mp hk'
      show CH.set _ _ _ (upd L.bD k' d k') = _
      rw [upd_same]
      exact set_other hn h2 (by intro e; cases e)
  · intro k' hk'
    rcases List.mem_append.mp hk' with hk' | hk'
    · show CH.set _ _ _ (upd L.bL k l k') = some (.list ((upd T.sc k [] k').map .int))
      rw [upd_ne (ne k' hk'), upd_ne (ne k' hk')]
      exact set_other hn (low (R.succ k' hk')) (by intro e; cases e)
    · obtain rfl := List.mem_singleton.mp hk'
      show CH.set _ _ _ (upd L.bL k' l k') = some (.list ((upd T.sc k' [] k').map .int))
      rw [upd_same, upd_same]
      exact set_other hn h3 (by intro e; cases e)
  · intro k₁ hk₁ k₂ hk₂ e
    have e : upd L.bL k l k₁ = upd L.bL k l k₂ := e
    have fresh : ∀ k' ∈ T.keys, L.bL k' ≠ l := fun k' hk' q => by have := R.succ k' hk'; rw [q, hl] at this; cases this
    rcases List.mem_append.mp hk₁ with g₁ | g₁ <;> rcases List.mem_append.mp hk₂ with g₂ | g₂
    · rw [upd_ne (ne _ g₁), upd_ne (ne _ g₂)] at e; exact R.inj _ g₁ _ g₂ e
    · have q := List.mem_singleton.mp g₂
      rw [upd_ne (ne _ g₁), q, upd_same] at e; exact absurd e (fresh _ g₁)
    · have q := List.mem_singleton.mp g₁
      rw [upd_ne (ne _ g₂), q, upd_same] at e; exact absurd e.symm (fresh _ g₂)
    · rw [List.mem_singleton.mp g₁, List.mem_singleton.mp g₂]
  · intro k' hk' hr e
    have e : upd L.bL k l k' = L.rd := e
    rcases List.mem_append.mp hk' with hk' | hk'
    · rw [upd_ne (ne _ hk')] at e; exact R.rdn _ hk' hr e
    · obtain rfl := List.mem_singleton.mp hk'
      rw [upd_same] at e
      obtain ⟨r, hr'⟩ := Option.ne_none_iff_exists'.mp hr
      have := R.rdy r hr'
      rw [← e, hl] at this; cases this
  · rw [List.nodup_append]
    exact ⟨R.nodup, by simp, fun p hp q hq => by rw [List.mem_singleton.mp hq]; exact ne p hp⟩
  · rw [CH.set_ne (fun e => hf (.inr (.inr (.inl e)))), h4 b (fun e => hb (e ▸ hx)) (fun e => hb (e ▸ hd)) (fun e => hb (e ▸ hl))]
  · rcases h with h | h | h | h | ⟨k', hk', h⟩
    · exact .inl h
    · exact .inr (.inl h)
    · exact .inr (.inr (.inl h))
    · exact .inr (.inr (.inr (.inl h)))
    · rcases List.mem_append.mp hk' with hk' | hk'
      · refine .inr (.inr (.inr (.inr ⟨k', hk', ?_⟩)))
        have h : b = upd L.bA k x k' ∨ b = upd L.bD k d k' ∨ b = upd L.bL k l k' := h
        rw [upd_ne (ne _ hk'), upd_ne (ne _ hk'), upd_ne (ne _ hk')] at h; exact h
      · obtain rfl := List.mem_singleton.mp hk'
        have h : b = upd L.bA k' x k' ∨ b = upd L.bD k' d k' ∨ b = upd L.bL k' l k' := h
        rw [upd_same, upd_same, upd_same] at h
        rcases h with rfl | rfl | rfl
        · exact absurd hx hb
        · exact absurd hd hb
        · exact absurd hl hb
end
end
section
section
variable {C : Cx} {A : Around} {m : Loc} {H : CH} {s : Shared} {mg mb : Str → Option Value} {P : Params}
theorem spec_TSinit {x d : Addr} (B : Bs C.h₀ (KK P) mg mb) {n : Nat} (hA : AOK C A (n + 1)) (hx : H x = some (.inst cTS d [])) (hd : H d = some (.idict [])) :
    CALL C A (.con (.ref a_TSinit)) [.ref x] [] H fun v H' => v = V.none ∧ ∃ n, H n = none ∧ H' = (H.set n (.dict [] 0)).set d (.idict [("_node2info", .ref n), ("_ready_nodes", V.none), ("_npassedout", .int 0), ("_nfinished", .int 0)]) := by
  have hxd : x ≠ d := fun e => by rw [e, hd] at hx; cases hx
  refine CALL_KW B (by with_unfolding_all rfl) (by with_unfolding_all rfl) hA (binds := [("self", .ref x), ("graph", V.none)]) (.dflt (T := 103) (items := [.none]) (n := 0) B (by with_unfolding_all rfl) fun h rs hv => ?_) (by with_unfolding_all rfl) rfl fun L hL hL0 hA' => ?_
  · obtain ⟨a, rfl, ha⟩ := one_inv hv
    exact ⟨_, [("self", a), ("graph", .none)], by with_unfolding_all rfl, by with_unfolding_all rfl, rfl, .cons ha (.cons .con .nil)⟩
  repeat walk_at "x"
  refine EV_dict fun n hn hn0 => ?_
  have hxn : x ≠ n := fun e => by rw [e, hn] at hx; cases hx
  have hdn : d ≠ n := fun e => by rw [e, hn] at hd; cases hd
  repeat walk_at "x"
  refine SA_own B (by rw [CH.set_ne hxn]; exact hx) (by rw [CH.set_ne hdn]; exact hd) (by first | with_unfolding_all exact (by decide : (0:Nat) < 1000) | with_unfolding_all exact (by decide : (1:Nat) < 1000) | with_unfolding_all exact (by decide : (2:Nat) < 1000) | with_unfolding_all exact (by decide : (3:Nat) < 1000) | with_unfolding_all exact (by decide : (4:Nat) < 1000)) ?_
  repeat walk_at "x"
  refine SA_own B (by rw [CH.set_ne hxd, CH.set_ne hxn]; exact hx) CH.set_same (by first | with_unfolding_all exact (by decide : (0:Nat) < 1000) | with_unfolding_all exact (by decide : (1:Nat) < 1000) | with_unfolding_all exact (by decide : (2:Nat) < 1000) | with_unfolding_all exact (by decide : (3:Nat) < 1000) | with_unfolding_all exact (by decide : (4:Nat) < 1000)) ?_
  rw [CH.set_set]
  repeat walk_at "x"
  refine SA_own B (by rw [CH.set_ne hxd, CH.set_ne hxn]; exact hx) CH.set_same (by first | with_unfolding_all exact (by decide : (0:Nat) < 1000) | with_unfolding_all exact (by decide : (1:Nat) < 1000) | with_unfolding_all exact (by decide : (2:Nat) < 1000) | with_unfolding_all exact (by decide : (3:Nat) < 1000) | with_unfolding_all exact (by decide : (4:Nat) < 1000)) ?_
  rw [CH.set_set]
  repeat walk_at "x"
  refine SA_own B (by rw [CH.set_ne hxd, CH.set_ne hxn]; exact hx) CH.set_same (by first | with_unfolding_all exact (by decide : (0:Nat) < 1000) | with_unfolding_all exact (by decide : (1:Nat) < 1000) | with_unfolding_all exact (by decide : (2:Nat) < 1000) | with_unfolding_all exact (by decide : (3:Nat) < 1000) | with_unfolding_all exact (by decide : (4:Nat) < 1000)) ?_
  rw [CH.set_set]
  repeat walk_at "x"
  walk_at "xi"
  refine ⟨_, rfl, fun q => (by cases q), fun _ => ?_⟩
  repeat walk_at "x"
  exact ⟨rfl, n, hn, rfl⟩
theorem spec_makeTS (B : Bs C.h₀ (KK P) mg mb) {n : Nat} (hA : AOK C A (n + 2)) :
    CALL C A (.con (.ref cTS)) [] [] H fun v H' => ∃ a L, v = .ref a ∧ TSR H' a .new L ∧ ∀ b, H b ≠ none → H' b = H b ∧ ¬ Foot a .new L b := by
  refine CALL_make B k_makeTS fun x d rest kw hx hd hx0 hd0 hxd => ?_
  refine (spec_TSinit B hA.under CH.set_same (by rw [CH.set_ne (Ne.symm hxd)]; exact CH.set_same)).mono ?_
  rintro v H' ⟨rfl, n, hn, rfl⟩
  have hnx : n ≠ x := fun e => by rw [e, CH.set_same] at hn; cases hn
  have hnd : n ≠ d := fun e => by rw [e, CH.set_ne (Ne.symm hxd), CH.set_same] at hn; cases hn
  have hn0 : H n = none := by rw [CH.set_ne hnx, CH.set_ne hnd] at hn; exact hn
  refine ⟨rfl, x, ⟨d, n, 0, 0, fun _ => 0, fun _ => 0, fun _ => 0⟩, rfl, ⟨?_, CH.set_same, ?_, (by intro _ h; cases h), (by intro _ h; cases h), (by intro _ h; cases h), (by intro _ h; cases h), (by intro _ h; cases h), (by intro _ h; cases h), .nil⟩, fun b hb => ⟨?_, fun h => ?_⟩⟩
  · rw [CH.set_ne hxd, CH.set_ne (Ne.symm hnx), CH.set_same]
  · show CH.set _ _ _ n = _
    rw [CH.set_ne hnd, CH.set_same]; rfl
  · have h1 : b ≠ d := fun e => hb (e ▸ hd)
    have h2 : b ≠ n := fun e => hb (e ▸ hn0)
    have h3 : b ≠ x := fun e => hb (e ▸ hx)
    rw [CH.set_ne h1, CH.set_ne h2, CH.set_ne h3, CH.set_ne h1]
  · rcases h with h | h | h | h | ⟨k, hk, _⟩
    · exact hb (h ▸ hx)
    · exact hb (h ▸ hd)
    · exact hb (h ▸ hn0)
    · exact h.1 rfl
    · cases hk
theorem look_keys {keys : List Int} {f : Int → Addr} {k : Int} (h : k ∈ keys) : (keys.map fun k => (k, V.ref (f k))).lookup k = some (.ref (f k)) := by
  induction keys with
  | nil => cases h
  | cons a r ih =>
    rw [List.map_cons, List.lookup_cons]
    by_cases e : k = a
    · subst e; simp
    · rw [beq_eq_false_iff_ne.mpr e]; exact ih ((List.mem_cons.mp h).resolve_left e)
theorem look_keys_none {keys : List Int} {f : Int → Addr} {k : Int} (h : k ∉ keys) : (keys.map fun k => (k, V.ref (f k))).lookup k = none := by
  induction keys with
  | nil => rfl
  | cons a r ih =>
    rw [List.map_cons, List.lookup_cons]
    have e : k ≠ a := fun e => h (e ▸ List.mem_cons_self)
    rw [beq_eq_false_iff_ne.mpr e]; exact ih fun q => h (List.mem_cons_of_mem _ q)
theorem spec_getinfo {a : Addr} {T : TS} {L : Lay} {k : Int} (B : Bs C.h₀ (KK P) mg mb) {n : Nat} (hA : AOK C A (n + 3)) (R : TSR H a T L) (hz : T.keys.length < sizeLine) :
    CALL C A (.con (.ref a_getinfo)) [.ref a, .int k] [] H fun v H' => ∃ L', TSR H' a (T.touch k) L' ∧ FrameT a H T L H' (T.touch k) L' ∧ v = .ref (L'.bA k) := by
  refine CALL_K B (by with_unfolding_all rfl) (by with_unfolding_all rfl) hA .pos2 (by with_unfolding_all rfl) rfl fun LL hL hL0 hA' => ?_
  walk_at "xi"
  refine GA_own B R.top R.dict rfl ?_
  refine GM_dict R.n2i F.slot_dict_get F.type_dict_get ?_
  repeat walk_at "x"
  by_cases hk : k ∈ T.keys
  · refine ⟨KP_built, CV_get B R.n2i ?_⟩
    rw [look_keys hk]
    repeat walk_at "x"
    refine ⟨_, rfl, fun q => (by cases q), fun _ => ?_⟩
    repeat walk_at "x"
    have e : T.touch k = T := by unfold TS.touch; rw [if_pos hk]
    rw [e]
    exact ⟨L, R, .refl, rfl⟩
  · refine ⟨KP_built, CV_get B R.n2i ?_⟩
    rw [look_keys_none hk]
    repeat walk_at "x"
    refine ⟨_, rfl, fun _ => ?_, fun q => (by cases q)⟩
    have e : T.touch k = { T with keys := T.keys ++ [k], np := upd T.np k 0, sc := upd T.sc k [] } := by unfold TS.touch; rw [if_neg hk]
    rw [e]
    refine EX_cons (st := .Assign _ _ _) (ES_assign2 ?_)
    repeat walk_at "x"
    refine EV_g B g_NI ?_
    repeat walk_at "x"
    refine ⟨KP_cls B k_keepNI, CV_of ((spec_makeNI (by exact B) hA').mono ?_)⟩
    rintro v H' ⟨x, d, l, rfl, hx, hd, hl, hxd, hxl, hdl, h1, h2, h3, h4⟩
    have low : ∀ {b : Addr} {c : CObj}, H b = some c → H' b = some c := fun {b c} h => by
      rw [h4 b (fun e => by rw [e, hx] at h; cases h) (fun e => by rw [e, hd] at h; cases h) (fun e => by rw [e, hl] at h; cases h)]; exact h
    repeat walk_at "x"
    refine GA_own B (low R.top) (low R.dict) rfl ?_
    repeat walk_at "x"
    refine set_dict (low R.n2i) (by rw [List.length_map]; exact Nat.le_of_lt hz) fun ep => ?_
    repeat walk_at "x"
    obtain ⟨R', F'⟩ := R.addKey (ep := ep) hk hx hd hl h1 h2 h3 hxd hxl hdl h4
    exact ⟨_, R', F', by show V.ref x = V.ref (upd L.bA k x k); rw [upd_same]⟩
end
end
section
theorem g_len2 {P : Params} : nsIn (KK P) mainGlobals "len" = some none := by kernel_rfl
theorem g_out {P : Params} : nsIn (KK P) mainGlobals "_NODE_OUT" = some (some (.int (-1) 256)) := by kernel_rfl
theorem g_dn {P : Params} : nsIn (KK P) mainGlobals "_NODE_DONE" = some (some (.int (-2) 259)) := by kernel_rfl
theorem g_tuple {P : Params} : nsIn (KK P) mainGlobals "tuple" = some none := by kernel_rfl
theorem b_tuple : bootBuiltins "tuple" = some (.type "tuple") := by kernel_rfl
theorem g_bool {P : Params} : nsIn (KK P) mainGlobals "bool" = some none := by kernel_rfl
theorem b_bool : bootBuiltins "bool" = some (.type "bool") := by kernel_rfl
structure TS.Le (T : TS) (n : Nat) : Prop where
  keys : T.keys.length ≤ n
  sc : ∀ k, (T.sc k).length ≤ n
theorem TS.Le.mono {T : TS} {n k : Nat} (h : T.Le n) (q : n ≤ k) : T.Le k := ⟨Nat.le_trans h.keys q, fun x => Nat.le_trans (h.sc x) q⟩
theorem TS.Le.touch {T : TS} {n : Nat} (h : T.Le n) (k : Int) : (T.touch k).Le (n + 1) := by
  unfold TS.touch
  split
  · exact h.mono (Nat.le_succ n)
  · refine ⟨by simp; exact h.keys, fun x => ?_⟩
    show (upd T.sc k [] x).length ≤ _
    unfold upd; split
    · simp
    · exact Nat.le_succ_of_le (h.sc x)
theorem TS.Le.setNp {T : TS} {n : Nat} (h : T.Le n) (k v : Int) : (T.setNp k v).Le n := ⟨h.keys, h.sc⟩
theorem TS.Le.link {T : TS} {n : Nat} (h : T.Le n) (p k : Int) : (T.link p k).Le (n + 1) := by
  refine ⟨Nat.le_succ_of_le h.keys, fun x => ?_⟩
  show (upd T.sc p (T.sc p ++ [k]) x).length ≤ _
  unfold upd; split
  · simp; exact h.sc p
  · exact Nat.le_succ_of_le (h.sc x)
theorem touch_mem {T : TS} {k : Int} : k ∈ (T.touch k).keys := by
  unfold TS.touch; split
  · assumption
  · simp
noncomputable abbrev addStep (k : Int) (T : TS) (p : Int) : TS := (T.touch p).link p k
theorem add_le {k : Int} : ∀ {ps : List Int} {T : TS} {n : Nat}, T.Le n → (ps.foldl (addStep k) T).Le (n + 2 * ps.length)
  | [], T, n, h => h
  | p :: ps, T, n, h => by
    have := add_le (k := k) (ps := ps) ((h.touch p).link p k)
    rw [List.foldl_cons]
    exact this.mono (by simp; omega)
theorem take_fold {α β : Type} {f : β → α → β} {T : β} {l : List α} {i : Nat} {x : α} (h : l[i]? = some x) : (l.take (i + 1)).foldl f T = f ((l.take i).foldl f T) x := by
  rw [List.take_add_one, h, List.foldl_append]; rfl
theorem ints_get {l : List Int} {i : Nat} {x : V} (h : (l.map V.int)[i]? = some x) : ∃ p, l[i]? = some p ∧ x = .int p := by
  rw [List.getElem?_map] at h
  obtain ⟨p, hp, rfl⟩ := Option.map_eq_some_iff.mp h
  exact ⟨p, hp, rfl⟩
section
variable {C : Cx} {A : Around} {m : Loc} {H : CH} {s : Shared} {mg mb : Str → Option Value} {P : Params} {a : Addr} {T : TS} {L : Lay}
theorem spec_add {k : Int} {ps : List Int} {N : Nat} (B : Bs C.h₀ (KK P) mg mb) {n : Nat} (hA : AOK C A (n + 4)) (R : TSR H a T L) (hr : T.ready = none) (hle : T.Le N) (hN : N + 2 * ps.length + 2 < sizeLine) :
    CALL C A (.con (.ref a_add)) (.ref a :: .int k :: ps.map .int) [] H fun v H' => v = V.none ∧ ∃ L', TSR H' a (T.add k ps) L' ∧ FrameT a H T L H' (T.add k ps) L' := by
  have hps : ps.length ≤ sizeLine := by omega
  refine CALL_KW B (by with_unfolding_all rfl) (by with_unfolding_all rfl) hA (.star2 (x := "self") (y := "node") (z := "predecessors") (by rw [List.length_map]; exact hps) (by intro r q rs; cases rs <;> with_unfolding_all rfl)) (by with_unfolding_all rfl) rfl fun LL hL hL0 hA' => ?_
  walk_at "xi"
  refine GA_own B R.top R.dict rfl ?_ (by kernel_rfl) (by unfold rdV; rw [hr]; rfl)
  repeat walk_at "x"
  refine ⟨_, rfl, fun q => ?_, fun _ => ?_⟩
  · unfold rdV at q; rw [hr] at q; cases q
  repeat walk_at "x"
  refine GM_inst (f := a_getinfo) B R.top R.dict rfl ?_
  repeat walk_at "x"
  refine ⟨KP_K B (by with_unfolding_all rfl), CV_of ((spec_getinfo (by exact B) hA' R (by have := hle.keys; omega)).mono ?_)⟩
  rintro v H₁ ⟨L₁, R₁, F₁, rfl⟩
  have hkm : k ∈ (T.touch k).keys := touch_mem
  repeat walk_at "x"
  refine GA_slot (p := 79) (i := 1) B (R₁.node k hkm) (R₁.nd k hkm) rfl ?_
  repeat walk_at "x"
  refine EV_b B g_len2 b_len ?_
  repeat walk_at "x"
  refine ⟨KP_built, CV_len_tup (by rw [List.length_map]; exact hps) ?_⟩
  rw [List.length_map]
  repeat walk_at "x"
  refine SA_slot (p := 79) (i := 1) B (R₁.node k hkm) (R₁.nd k hkm) ?_
  obtain ⟨R₂, F₂⟩ := R₁.setNp hkm ((T.touch k).np k + ps.length)
  refine EX_cons (st := .For _ _ _ _ _) (ES_for' ?_)
  repeat walk_at "x"
  refine ⟨ps.map .int, _, [("node", .int k), ("self", .ref a)], fun i m' H' => m' = ([("node", .int k), ("self", .ref a)] : Loc) ∧ ∃ L', TSR H' a ((ps.take i).foldl (addStep k) ((T.touch k).setNp k ((T.touch k).np k + ps.length))) L' ∧ FrameT a H T L H' ((ps.take i).foldl (addStep k) ((T.touch k).setNp k ((T.touch k).np k + ps.length))) L',
    seq_tup hA'.handled, .cons rfl (.cons rfl .nil), ⟨rfl, L₁, R₂, F₁.trans F₂⟩, ?_⟩
  rintro i m' H' ⟨rfl, L', R', F'⟩
  have hle0 : ((T.touch k).setNp k ((T.touch k).np k + ps.length)).Le (N + 1) := (hle.touch k).setNp _ _
  have hle' : ((ps.take i).foldl (addStep k) ((T.touch k).setNp k ((T.touch k).np k + ps.length))).Le (N + 1 + 2 * (ps.take i).length) := add_le hle0
  have htl : (ps.take i).length ≤ ps.length := by rw [List.length_take]; omega
  refine ⟨trivial, fun x hx => ?_, fun hi => ?_⟩
  · obtain ⟨p, hp, rfl⟩ := ints_get hx
    have hil : i < ps.length := (List.getElem?_eq_some_iff.mp hp).1
    have htl2 : (ps.take i).length = i := by rw [List.length_take]; omega
    repeat walk_at "x"
    refine GM_inst (f := a_getinfo) B R'.top R'.dict rfl ?_
    repeat walk_at "x"
    refine ⟨KP_K B (by with_unfolding_all rfl), CV_of ((spec_getinfo (by exact B) hA' R' (by have := hle'.keys; omega)).mono ?_)⟩
    rintro v H₃ ⟨L₃, R₃, F₃, rfl⟩
    have hpm : p ∈ (((ps.take i).foldl (addStep k) ((T.touch k).setNp k ((T.touch k).np k + ps.length))).touch p).keys := touch_mem
    repeat walk_at "x"
    refine GA_slot (p := 80) (i := 2) B (R₃.node p hpm) (R₃.nd p hpm) rfl ?_
    refine GM_list (.own (R₃.succ p hpm)) F.slot_list_append F.type_list_append ?_
    repeat walk_at "x"
    refine ⟨KP_built, CV_append (R₃.succ p hpm) (by rw [List.length_map]; have := (hle'.touch p).sc p; omega) ?_⟩
    obtain ⟨R₄, F₄⟩ := R₃.setSc hpm ((((ps.take i).foldl (addStep k) ((T.touch k).setNp k ((T.touch k).np k + ps.length))).touch p).sc p ++ [k])
    repeat walk_at "x"
    refine ⟨_, .cons rfl (.cons rfl .nil), rfl, L₃, ?_, ?_⟩
    · rw [take_fold hp]
      rw [List.map_append] at R₄
      exact R₄
    · rw [take_fold hp]
      rw [List.map_append] at F₄
      exact (F'.trans F₃).trans F₄
  · repeat walk_at "x"
    refine ⟨rfl, L', ?_⟩
    rw [List.length_map] at hi
    subst hi
    rw [List.take_length] at R' F'
    exact ⟨R', F'⟩
end
end
section
theorem TS.out_eq {ks : List Int} : ∀ {T : TS}, (T.out ks).keys = T.keys ∧ (T.out ks).ready = T.ready ∧ (T.out ks).pass = T.pass ∧ (T.out ks).fin = T.fin ∧ (T.out ks).sc = T.sc := by
  induction ks with
  | nil => intro T; exact ⟨rfl, rfl, rfl, rfl, rfl⟩
  | cons k r ih => intro T; exact ih (T := T.setNp k (-1))
section
variable {C : Cx} {A : Around} {m : Loc} {H : CH} {s : Shared} {mg mb : Str → Option Value} {P : Params} {a : Addr} {T : TS} {L : Lay}
theorem EV_gi {K : Frag} {Q : V → Loc → CH → Prop} {x : Str} {p : Pos} {i : Int} {t : Nat} (B : Bs C.h₀ K mg mb) (e : nsIn K mainGlobals x = some (some (.int i t))) (h : Q (.int i) m H) (hG : C.env.globals = mainGlobals := by with_unfolding_all rfl)
    (hk : C.env.scope.kind = .function := by with_unfolding_all rfl) (hl : C.env.kindOf x = some .globalImplicit := by with_unfolding_all rfl) (hd : (x == ("__debug__" : Str)) = false := by decide) : EV C A (.Name x p) m H Q := fun s S =>
  Name_function_global hk hl (loadGlobal_global (hG ▸ B.g.keeps S.base) (mg_of B.X B.g e) (.here S .int h)) hd
theorem spec_getready {r : List Int} (B : Bs C.h₀ (KK P) mg mb) {n : Nat} (hA : AOK C A (n + 1)) (R : TSR H a T L) (hr : T.ready = some r) (hk : ∀ k ∈ r, k ∈ T.keys) (hz : r.length ≤ sizeLine) :
    CALL C A (.con (.ref a_getready)) [.ref a] [] H fun v H' => v = .tup (r.map .int) ∧ TSR H' a (T.getReady r) L ∧ FrameT a H T L H' (T.getReady r) L := by
  have hv : rdV T L = .ref L.rd := by unfold rdV; rw [hr]
  refine CALL_K B (by with_unfolding_all rfl) (by with_unfolding_all rfl) hA .pos1 (by with_unfolding_all rfl) rfl fun LL hL hL0 hA' => ?_
  walk_at "xi"
  refine GA_own B R.top R.dict rfl ?_ (by kernel_rfl) (by rw [hv]; exact trivial)
  rw [hv]
  repeat walk_at "x"
  refine ⟨_, rfl, fun q => (by cases q), fun _ => ?_⟩
  repeat walk_at "x"
  refine EV_b B g_tuple b_tuple ?_
  repeat walk_at "x"
  refine GA_own B R.top R.dict rfl ?_ (by kernel_rfl) (by rw [hv]; exact trivial)
  rw [hv]
  repeat walk_at "x"
  refine ⟨KP_type, CV_tuple_list (.own (R.rdy r hr)) (by rw [List.length_map]; exact hz) ?_⟩
  repeat walk_at "x"
  refine GA_own B R.top R.dict rfl ?_
  repeat walk_at "x"
  refine EX_cons (st := .For _ _ _ _ _) (ES_for' ?_)
  repeat walk_at "x"
  refine ⟨r.map .int, _, [("n2i", .ref L.n2i), ("result", .tup (r.map .int)), ("self", .ref a)], fun i m' H' => m' = ([("n2i", .ref L.n2i), ("result", .tup (r.map .int)), ("self", .ref a)] : Loc) ∧ TSR H' a (T.out (r.take i)) L ∧ FrameT a H T L H' (T.out (r.take i)) L,
    seq_tup hA'.handled, .cons rfl (.cons rfl (.cons rfl .nil)), ⟨rfl, R, .refl⟩, ?_⟩
  rintro i m' H' ⟨rfl, R', F'⟩
  refine ⟨trivial, fun x hx => ?_, fun hi => ?_⟩
  · obtain ⟨p, hp, rfl⟩ := ints_get hx
    have hpk : p ∈ (T.out (r.take i)).keys := by rw [TS.out_eq.1]; exact hk p (List.mem_of_getElem? hp)
    repeat walk_at "x"
    refine EV_gi B g_out ?_
    repeat walk_at "x"
    refine sub_dict R'.n2i (look_keys hpk) ?_
    repeat walk_at "x"
    refine SA_slot (p := 79) (i := 1) B (R'.node p hpk) (R'.nd p hpk) ?_
    obtain ⟨R₂, F₂⟩ := R'.setNp hpk (-1)
    repeat walk_at "x"
    refine ⟨_, .cons rfl (.cons rfl (.cons rfl .nil)), rfl, ?_, ?_⟩
    · unfold TS.out; rw [take_fold hp]; exact R₂
    · unfold TS.out; rw [take_fold hp]; exact F'.trans F₂
  · rw [List.length_map] at hi
    subst hi
    rw [List.take_length] at R' F'
    have e := @TS.out_eq r T
    have hr' : (T.out r).ready = some r := by rw [e.2.1]; exact hr
    have hv' : rdV (T.out r) L = .ref L.rd := by unfold rdV; rw [hr']
    repeat walk_at "x"
    refine GA_own B R'.top R'.dict rfl ?_ (by kernel_rfl) (by rw [hv']; exact trivial)
    rw [hv']
    refine GM_list (.own (R'.rdy r hr')) F.slot_list_clear F.type_list_clear ?_
    repeat walk_at "x"
    refine ⟨KP_built, CV_clear (R'.rdy r hr') (by rw [List.length_map]; exact hz) ?_⟩
    obtain ⟨R₂, F₂⟩ := R'.setRd hr' []
    repeat walk_at "x"
    refine GA_own B R₂.top R₂.dict rfl ?_
    repeat walk_at "x"
    refine EV_b B g_len2 b_len ?_
    repeat walk_at "x"
    refine ⟨KP_built, CV_len_tup (by rw [List.length_map]; exact hz) ?_⟩
    rw [List.length_map]
    repeat walk_at "x"
    refine SA_own B R₂.top R₂.dict (by first | with_unfolding_all exact (by decide : (4:Nat) < 1000)) ?_
    obtain ⟨R₃, F₃⟩ := R₂.setNums ((T.out r).pass + r.length) (T.out r).fin
    repeat walk_at "x"
    unfold TS.getReady
    rw [← e.2.2.1]
    exact ⟨rfl, R₃, (F'.trans F₂).trans F₃⟩
theorem spec_isactive {r : List Int} (B : Bs C.h₀ (KK P) mg mb) {n : Nat} (hA : AOK C A (n + 1)) (R : TSR H a T L) (hr : T.ready = some r) (hz : r.length ≤ sizeLine) :
    CALL C A (.con (.ref a_isactive)) [.ref a] [] H fun v H' => v = .bool (decide (T.fin < T.pass) || !r.isEmpty) ∧ H' = H := by
  have hv : rdV T L = .ref L.rd := by unfold rdV; rw [hr]
  refine CALL_K B (by with_unfolding_all rfl) (by with_unfolding_all rfl) hA .pos1 (by with_unfolding_all rfl) rfl fun LL hL hL0 hA' => ?_
  walk_at "xi"
  refine GA_own B R.top R.dict rfl ?_ (by kernel_rfl) (by rw [hv]; exact trivial)
  rw [hv]
  repeat walk_at "x"
  refine ⟨_, rfl, fun q => (by cases q), fun _ => ?_⟩
  repeat walk_at "x"
  refine GA_own B R.top R.dict rfl ?_
  repeat walk_at "x"
  refine GA_own B R.top R.dict rfl ?_
  repeat walk_at "x"
  refine OB_bool ⟨fun h => ?_, fun h => ?_⟩
  · repeat walk_at "x"
    exact ⟨by simp [retOf, h], rfl⟩
  · repeat walk_at "x"
    refine EV_b B g_bool b_bool ?_
    repeat walk_at "x"
    refine GA_own B R.top R.dict rfl ?_ (by kernel_rfl) (by rw [hv]; exact trivial)
    rw [hv]
    repeat walk_at "x"
    refine ⟨KP_type, CV_bool_list (.own (R.rdy r hr)) (by rw [List.length_map]; exact hz) ?_⟩
    repeat walk_at "x"
    exact ⟨by simp [retOf, h], rfl⟩
end
end
section
theorem rel_eq {l : List Int} : ∀ {T : TS}, (l.foldl TS.rel T).keys = T.keys ∧ (l.foldl TS.rel T).pass = T.pass ∧ (l.foldl TS.rel T).fin = T.fin ∧ (l.foldl TS.rel T).sc = T.sc := by
  induction l with
  | nil => intro T; exact ⟨rfl, rfl, rfl, rfl⟩
  | cons k r ih => intro T; exact ih (T := T.rel k)
theorem rel_ready {l : List Int} : ∀ {T : TS} {r : List Int}, T.ready = some r → ∃ r', (l.foldl TS.rel T).ready = some r' ∧ r'.length ≤ r.length + l.length := by
  induction l with
  | nil => intro T r h; exact ⟨r, h, by simp⟩
  | cons k t ih =>
    intro T r h
    have : ∃ r', (T.rel k).ready = some r' ∧ r'.length ≤ r.length + 1 := by
      unfold TS.rel
      by_cases e : T.np k - 1 = 0
      · exact ⟨r ++ [k], by show (if _ then _ else _) = _; rw [if_pos e, h]; rfl, by simp⟩
      · exact ⟨r, by show (if _ then _ else _) = _; rw [if_neg e, h], by omega⟩
    obtain ⟨r₁, h₁, l₁⟩ := this
    obtain ⟨r₂, h₂, l₂⟩ := ih h₁
    exact ⟨r₂, h₂, by simp; omega⟩
noncomputable def TS.doneN (T : TS) (ks : List Int) : TS := ks.foldl TS.done1 T
theorem done1_eq {T : TS} {k : Int} : (T.done1 k).keys = T.keys ∧ (T.done1 k).pass = T.pass ∧ (T.done1 k).fin = T.fin + 1 ∧ (T.done1 k).sc = T.sc := by
  have := @rel_eq (T.sc k) (T.setNp k (-2))
  exact ⟨this.1, this.2.1, by unfold TS.done1; rfl, this.2.2.2⟩
theorem doneN_eq {ks : List Int} : ∀ {T : TS}, (T.doneN ks).keys = T.keys ∧ (T.doneN ks).pass = T.pass ∧ (T.doneN ks).fin = T.fin + ks.length ∧ (T.doneN ks).sc = T.sc := by
  induction ks with
  | nil => intro T; exact ⟨rfl, rfl, by simp [TS.doneN], rfl⟩
  | cons k r ih =>
    intro T
    have e := @done1_eq T k
    have h := ih (T := T.done1 k)
    unfold TS.doneN at h ⊢
    rw [List.foldl_cons]
    refine ⟨h.1.trans e.1, h.2.1.trans e.2.1, ?_, h.2.2.2.trans e.2.2.2⟩
    rw [h.2.2.1, e.2.2.1]; simp; omega
theorem doneN_ready {M : Nat} {ks : List Int} : ∀ {T : TS} {r : List Int}, (∀ k, (T.sc k).length ≤ M) → T.ready = some r → ∃ r', (T.doneN ks).ready = some r' ∧ r'.length ≤ r.length + ks.length * M := by
  induction ks with
  | nil => intro T r _ h; exact ⟨r, h, by simp⟩
  | cons k t ih =>
    intro T r hM h
    obtain ⟨r₁, h₁, l₁⟩ := rel_ready (l := T.sc k) (T := T.setNp k (-2)) h
    obtain ⟨r₂, h₂, l₂⟩ := ih (T := T.done1 k) (r := r₁) (by rw [done1_eq.2.2.2]; exact hM) h₁
    have := hM k
    refine ⟨r₂, h₂, ?_⟩
    rw [List.length_cons, Nat.succ_mul]; omega
section
variable {C : Cx} {A : Around} {m : Loc} {H : CH} {s : Shared} {mg mb : Str → Option Value} {P : Params} {a : Addr} {T : TS} {L : Lay}
theorem TSR.rel (R : TSR H a T L) {r : List Int} (hr : T.ready = some r) {x : Int} (hx : x ∈ T.keys) :
    let H₁ := H.set (L.bA x) (niObj (L.bD x) (L.bL x) (T.np x - 1) x)
    let H₂ := if T.np x - 1 = 0 then H₁.set L.rd (.list ((r ++ [x]).map .int)) else H₁
    TSR H₂ a (T.rel x) L ∧ FrameT a H T L H₂ (T.rel x) L := by
  intro H₁ H₂
  obtain ⟨R₁, F₁⟩ := R.setNp hx (T.np x - 1)
  by_cases e : T.np x - 1 = 0
  · obtain ⟨R₂, F₂⟩ := R₁.setRd hr (r ++ [x])
    have e1 : H₂ = H₁.set L.rd (.list ((r ++ [x]).map .int)) := if_pos e
    have e2 : T.rel x = { T.setNp x (T.np x - 1) with ready := some (r ++ [x]) } := by unfold TS.rel; rw [if_pos e, hr]; rfl
    rw [e1, e2]; exact ⟨R₂, F₁.trans F₂⟩
  · have e1 : H₂ = H₁ := if_neg e
    have e2 : T.rel x = T.setNp x (T.np x - 1) := by unfold TS.rel; rw [if_neg e]; rfl
    rw [e1, e2]; exact ⟨R₁, F₁⟩
noncomputable def DnP (H : CH) (a : Addr) (T : TS) (L : Lay) (ks : List Int) (H' : CH) : Prop := TSR H' a (T.doneN ks) L ∧ FrameT a H T L H' (T.doneN ks) L
noncomputable def DnI (H : CH) (a : Addr) (T : TS) (L : Lay) (ns : List Int) (i : Nat) (m' : Loc) (H' : CH) : Prop := m' = ([("n2i", .ref L.n2i), ("self", .ref a)] : Loc) ∧ DnP H a T L (ns.take i) H'
noncomputable def DnV (H : CH) (a : Addr) (T : TS) (L : Lay) (ns : List Int) (v : V) (H' : CH) : Prop := v = V.none ∧ DnP H a T L ns H'
noncomputable def DnJ (H : CH) (a : Addr) (T : TS) (L : Lay) (l : List Int) (T₁ : TS) (j : Nat) (m' : Loc) (H' : CH) : Prop := m' = ([("n2i", .ref L.n2i), ("self", .ref a)] : Loc) ∧ TSR H' a ((l.take j).foldl TS.rel T₁) L ∧ FrameT a H T L H' ((l.take j).foldl TS.rel T₁) L
set_option maxHeartbeats 4000000 in
theorem spec_done {r : List Int} {ns : List Int} {M : Nat} (B : Bs C.h₀ (KK P) mg mb) {n : Nat} (hA : AOK C A (n + 1)) (R : TSR H a T L) (hr : T.ready = some r) (hk : ∀ i k, ns[i]? = some k → k ∈ T.keys ∧ (T.doneN (ns.take i)).np k = -1) (hs : ∀ k ∈ T.keys, ∀ x ∈ T.sc k, x ∈ T.keys)
    (hM : ∀ k, (T.sc k).length ≤ M) (hz : r.length + ns.length * M + M ≤ sizeLine) (hns : ns.length ≤ sizeLine) :
    CALL C A (.con (.ref a_done)) (.ref a :: ns.map .int) [] H (DnV H a T L ns) := by
  have hv : rdV T L = .ref L.rd := by unfold rdV; rw [hr]
  refine CALL_KW B (by with_unfolding_all rfl) (by with_unfolding_all rfl) hA (.star1 (x := "self") (y := "nodes") (by rw [List.length_map]; exact hns) (by intro r rs; cases rs <;> with_unfolding_all rfl)) (by with_unfolding_all rfl) rfl fun LL hL hL0 hA' => ?_
  walk_at "xi"
  refine GA_own B R.top R.dict rfl ?_ (by kernel_rfl) (by rw [hv]; exact trivial)
  rw [hv]
  repeat walk_at "x"
  refine ⟨_, rfl, fun q => (by cases q), fun _ => ?_⟩
  repeat walk_at "x"
  refine GA_own B R.top R.dict rfl ?_
  repeat walk_at "x"
  refine EX_cons (st := .For _ _ _ _ _) (ES_for' ?_)
  repeat walk_at "x"
  refine ⟨ns.map .int, _, [("n2i", .ref L.n2i), ("self", .ref a)], DnI H a T L ns,
    seq_tup hA'.handled, .cons rfl (.cons rfl .nil), ⟨rfl, R, .refl⟩, ?_⟩
  rintro i m' H' ⟨rfl, R', F'⟩
  refine ⟨trivial, fun x hx => ?_, fun hi => ?_⟩
  · obtain ⟨k, hp, rfl⟩ := ints_get hx
    obtain ⟨hk1, hk2⟩ := hk i k hp
    have hil : i < ns.length := (List.getElem?_eq_some_iff.mp hp).1
    have eN := @doneN_eq (ns.take i) T
    obtain ⟨r₁, hr₁, hlr⟩ := doneN_ready (ks := ns.take i) hM hr
    have hkk : k ∈ (T.doneN (ns.take i)).keys := by rw [eN.1]; exact hk1
    have hlr2 : r₁.length + M ≤ sizeLine := by
      have : (ns.take i).length * M ≤ ns.length * M := Nat.mul_le_mul_right _ (by rw [List.length_take]; omega)
      omega
    have estep : T.doneN (ns.take (i + 1)) = (T.doneN (ns.take i)).done1 k := by unfold TS.doneN; exact take_fold hp
    generalize T.doneN (ns.take i) = T₁ at *
    repeat walk_at "x"
    walk_at "xi"
    refine GM_dict R'.n2i F.slot_dict_get F.type_dict_get ?_
    repeat walk_at "x"
    refine ⟨KP_built, CV_get B R'.n2i ?_⟩
    rw [look_keys hkk]
    repeat walk_at "x"
    refine ⟨_, rfl, fun q => (by cases q), fun _ => ?_⟩
    repeat walk_at "x"
    refine GA_slot (p := 79) (i := 1) B (R'.node k hkk) (R'.nd k hkk) rfl ?_
    rw [hk2]
    repeat walk_at "x"
    walk_at "xi"
    refine EV_gi B g_out ?_
    repeat walk_at "x"
    refine ⟨_, rfl, fun q => (by simp at q), fun _ => ?_⟩
    repeat walk_at "x"
    refine EV_gi B g_dn ?_
    repeat walk_at "x"
    refine SA_slot (p := 79) (i := 1) B (R'.node k hkk) (R'.nd k hkk) ?_
    obtain ⟨R₂, F₂⟩ := R'.setNp hkk (-2)
    repeat walk_at "x"
    refine EX_cons (st := .For _ _ _ _ _) (ES_for' ?_)
    repeat walk_at "x"
    refine GA_slot (p := 80) (i := 2) B (R₂.node k hkk) (R₂.nd k hkk) rfl ?_
    refine ⟨(T₁.sc k).map .int, _, [("n2i", .ref L.n2i), ("self", .ref a)], DnJ H a T L (T₁.sc k) (T₁.setNp k (-2)),
      seq_own hA'.handled (R₂.succ k hkk), .cons rfl (.cons rfl .nil), ⟨rfl, R₂, F'.trans F₂⟩, ?_⟩
    rintro j m' H' ⟨rfl, R₃, F₃⟩
    have eR := @rel_eq ((T₁.sc k).take j) (T₁.setNp k (-2))
    obtain ⟨r₃, hr₃, hl₃⟩ := rel_ready (l := (T₁.sc k).take j) (T := T₁.setNp k (-2)) hr₁
    refine ⟨?_, fun x hx => ?_, fun hj => ?_⟩
    · have := R₃.succ k (by rw [eR.1]; exact hkk)
      rw [eR.2.2.2] at this; exact this
    · obtain ⟨y, hy, rfl⟩ := ints_get hx
      have hyk : y ∈ (((T₁.sc k).take j).foldl TS.rel (T₁.setNp k (-2))).keys := by
        rw [eR.1]; show y ∈ T₁.keys
        rw [eN.1]; exact hs k hk1 y (by rw [← eN.2.2.2]; exact List.mem_of_getElem? hy)
      have hl₃' : r₃.length ≤ sizeLine := by
        have h1 := hM k
        rw [← eN.2.2.2] at h1
        have : ((T₁.sc k).take j).length ≤ (T₁.sc k).length := by rw [List.length_take]; omega
        omega
      have estep2 : ((T₁.sc k).take (j + 1)).foldl TS.rel (T₁.setNp k (-2)) = (((T₁.sc k).take j).foldl TS.rel (T₁.setNp k (-2))).rel y := take_fold hy
      generalize ((T₁.sc k).take j).foldl TS.rel (T₁.setNp k (-2)) = T₃ at *
      have hv₃ : rdV T₃ L = .ref L.rd := by unfold rdV; rw [hr₃]
      obtain ⟨R₄, F₄⟩ := R₃.rel hr₃ hyk
      obtain ⟨R₅, F₅⟩ := R₃.setNp hyk (T₃.np y - 1)
      repeat walk_at "x"
      refine sub_dict R₃.n2i (look_keys hyk) ?_
      repeat walk_at "x"
      refine GA_slot (p := 79) (i := 1) B (R₃.node y hyk) (R₃.nd y hyk) rfl ?_
      repeat walk_at "x"
      refine SA_slot (p := 79) (i := 1) B (R₃.node y hyk) (R₃.nd y hyk) ?_
      repeat walk_at "x"
      walk_at "xi"
      refine GA_slot (p := 79) (i := 1) B (R₅.node y hyk) (R₅.nd y hyk) rfl ?_
      repeat walk_at "x"
      refine ⟨_, rfl, fun q => ?_, fun q => ?_⟩
      · have q : T₃.np y - 1 = 0 := by simpa [TS.setNp, upd_same] using q
        rw [if_pos q] at R₄ F₄
        repeat walk_at "x"
        refine GA_own B R₅.top R₅.dict rfl ?_ (by kernel_rfl) (by show VHand (rdV T₃ L); rw [hv₃]; exact trivial)
        rw [show rdV (T₃.setNp y (T₃.np y - 1)) L = .ref L.rd from hv₃]
        refine GM_list (.own (R₅.rdy r₃ hr₃)) F.slot_list_append F.type_list_append ?_
        repeat walk_at "x"
        refine ⟨KP_built, CV_append (R₅.rdy r₃ hr₃) (by rw [List.length_map]; exact hl₃') ?_⟩
        repeat walk_at "x"
        rw [List.map_append] at R₄ F₄
        refine ⟨_, .cons rfl (.cons rfl .nil), (⟨rfl, ?_⟩ : _ ∧ _)⟩
        rw [estep2]; exact ⟨R₄, F₃.trans F₄⟩
      · have q : ¬ T₃.np y - 1 = 0 := by simpa [TS.setNp, upd_same] using q
        rw [if_neg q] at R₄ F₄
        repeat walk_at "x"
        refine ⟨_, .cons rfl (.cons rfl .nil), (⟨rfl, ?_⟩ : _ ∧ _)⟩
        rw [estep2]; exact ⟨R₄, F₃.trans F₄⟩
    · rw [List.length_map] at hj
      subst hj
      rw [List.take_length] at R₃ F₃
      repeat walk_at "x"
      refine GA_own B R₃.top R₃.dict rfl ?_
      repeat walk_at "x"
      refine SA_own B R₃.top R₃.dict (by first | with_unfolding_all exact (by decide : (4:Nat) < 1000)) ?_
      obtain ⟨R₄, F₄⟩ := R₃.setNums ((T₁.sc k).foldl TS.rel (T₁.setNp k (-2))).pass (((T₁.sc k).foldl TS.rel (T₁.setNp k (-2))).fin + 1)
      repeat walk_at "x"
      refine ⟨_, .cons rfl (.cons rfl .nil), (⟨rfl, ?_⟩ : _ ∧ _)⟩
      have e : { (T₁.sc k).foldl TS.rel (T₁.setNp k (-2)) with pass := ((T₁.sc k).foldl TS.rel (T₁.setNp k (-2))).pass, fin := ((T₁.sc k).foldl TS.rel (T₁.setNp k (-2))).fin + 1 } = T₁.done1 k := by
        unfold TS.done1; rw [(@rel_eq (T₁.sc k) (T₁.setNp k (-2))).2.2.1]; rfl
      rw [e] at R₄ F₄
      unfold DnP; rw [estep]
      exact ⟨R₄, F₃.trans F₄⟩
  · repeat walk_at "x"
    refine (⟨rfl, ?_⟩ : _ ∧ _)
    rw [List.length_map] at hi
    subst hi
    rw [List.take_length] at R' F'
    exact ⟨R', F'⟩
end
end
section
theorem TSR.keep {H H' : CH} {a : Addr} {T : TS} {L : Lay} (R : TSR H a T L) (h : ∀ b, H b ≠ none → H' b = H b) : TSR H' a T L := by
  have k : ∀ {b : Addr} {c : CObj}, H b = some c → H' b = some c := fun {b c} e => (h b (by rw [e]; simp)).trans e
  exact ⟨k R.top, k R.dict, k R.n2i, fun r e => k (R.rdy r e), fun x hx => k (R.node x hx), fun x hx => k (R.nd x hx), fun x hx => k (R.succ x hx), R.inj, R.rdn, R.nodup⟩
theorem lookup_no {kvs : List (Int × V)} {k : Int} (h : k ∉ kvs.map (·.1)) : kvs.lookup k = none := by
  induction kvs with
  | nil => rfl
  | cons p r ih =>
    rw [List.map_cons, List.mem_cons, not_or] at h
    rw [List.lookup_cons, beq_eq_false_iff_ne.mpr h.1]; exact ih h.2
theorem lookup_yes {kvs : List (Int × V)} {k : Int} (h : k ∈ kvs.map (·.1)) : (kvs.lookup k).isSome = true := by
  induction kvs with
  | nil => cases h
  | cons p r ih =>
    rw [List.lookup_cons]
    by_cases e : k = p.1
    · rw [beq_iff_eq.mpr e]; rfl
    · rw [beq_eq_false_iff_ne.mpr e]
      rw [List.map_cons, List.mem_cons] at h
      exact ih (h.resolve_left e)
theorem dropI_keys {kvs : List (Int × V)} {l : List Int} {k : Int} (h : kvs.map (·.1) = l ++ [k]) (hk : k ∉ l) : (dropI kvs k).map (·.1) = l := by
  have : (dropI kvs k).map (·.1) = (kvs.map (·.1)).filter (· != k) := by
    unfold dropI; rw [List.filter_map]; rfl
  rw [this, h, List.filter_append]
  have e1 : l.filter (· != k) = l := List.filter_eq_self.mpr fun x hx => by simp; intro e; exact hk (e ▸ hx)
  rw [e1]; simp
theorem nodup_le {α : Type} [BEq α] [LawfulBEq α] : ∀ {l k : List α}, l.Nodup → (∀ x ∈ l, x ∈ k) → l.length ≤ k.length
  | [], k, _, _ => Nat.zero_le _
  | a :: r, k, h, s => by
    rw [List.nodup_cons] at h
    have ha := s a List.mem_cons_self
    have := nodup_le (l := r) (k := k.erase a) h.2 fun x hx => (List.mem_erase_of_ne (by intro e; subst e; exact h.1 hx)).mpr (s x (List.mem_cons_of_mem _ hx))
    rw [List.length_erase_of_mem ha] at this
    have hp := List.length_pos_of_mem ha
    rw [List.length_cons]; omega
noncomputable abbrev Ent := Int × Addr × Nat
structure FC (H₀ H : CH) (T : TS) (L : Lay) (s it se nd : Addr) (st : List Ent) (seen : Int → Bool) : Prop where
  keep : ∀ b, H₀ b ≠ none → H b = H₀ b
  f1 : H₀ s = none
  f2 : H₀ it = none
  f3 : H₀ se = none
  f4 : H₀ nd = none
  ne : s ≠ it
  hs : H s = some (.list (st.map fun e => .int e.1))
  hit : H it = some (.list (st.map fun e => .imm (mwObj e.2.1)))
  hse : ∃ c, H se = some (.set seen c) ∧ c ≤ (T.keys.filter seen).length
  hnd : ∃ kvs ep, H nd = some (.dict kvs ep) ∧ kvs.map (·.1) = st.map (·.1)
  its : ∀ e ∈ st, H e.2.1 = some (.liter (L.bL e.1) e.2.2) ∧ H₀ e.2.1 = none
  nI : (st.map (·.2.1)).Nodup
  nK : (st.map (·.1)).Nodup
  mem : ∀ e ∈ st, e.1 ∈ T.keys ∧ seen e.1 = true
  sub : ∀ x, seen x = true → x ∈ T.keys
section
variable {H₀ H : CH} {T : TS} {L : Lay} {s it se nd : Addr} {st : List Ent} {seen : Int → Bool}
theorem FC.len (F : FC H₀ H T L s it se nd st seen) (hk : T.keys.Nodup) : st.length ≤ T.keys.length := by
  have := nodup_le (l := st.map (·.1)) (k := T.keys) F.nK (fun x hx => by
    obtain ⟨e, he, rfl⟩ := List.mem_map.mp hx; exact (F.mem e he).1)
  simpa using this
theorem filter_add {keys : List Int} {seen : Int → Bool} {x : Int} (hn : keys.Nodup) (hx : x ∈ keys) (hs : seen x = false) : (keys.filter fun y => seen y || decide (y = x)).length = (keys.filter seen).length + 1 := by
  induction keys with
  | nil => cases hx
  | cons a r ih =>
    rw [List.nodup_cons] at hn
    by_cases e : a = x
    · subst e
      have : r.filter (fun y => seen y || decide (y = a)) = r.filter seen := List.filter_congr fun y hy => by
        have : y ≠ a := fun e => hn.1 (e ▸ hy)
        simp [this]
      rw [List.filter_cons_of_pos (by simp), List.filter_cons_of_neg (by simp [hs]), this]; simp
    · have h := ih hn.2 ((List.mem_cons.mp hx).resolve_left (fun q => e q.symm))
      by_cases q : seen a = true
      · rw [List.filter_cons_of_pos (by simp [q]), List.filter_cons_of_pos q, List.length_cons, List.length_cons, h]
      · rw [List.filter_cons_of_neg (by simp [q, e]), List.filter_cons_of_neg q, h]
noncomputable def addSeen (seen : Int → Bool) (x : Int) : Int → Bool := fun y => seen y || decide (y = x)
theorem FC.push (F : FC H₀ H T L s it se nd st seen) (hkn : T.keys.Nodup) {x : Int} (hx : x ∈ T.keys) (hs : seen x = false) {I : Addr} {c : Nat} {kvs : List (Int × V)} {ep : Nat} {v : V} (hse : H se = some (.set seen c)) (hc : c ≤ (T.keys.filter seen).length) (hnd : kvs.map (·.1) = st.map (·.1))
    (hI : (H.set se (.set (addSeen seen x) (c + 1))) I = none) (hI0 : H₀ I = none) :
    FC H₀ (((((H.set se (.set (addSeen seen x) (c + 1))).set I (.liter (L.bL x) 0)).set it (.list ((st.map fun e => .imm (mwObj e.2.1)) ++ [.imm (mwObj I)]))).set nd (.dict (kvs ++ [(x, v)]) ep)).set s (.list ((st.map fun e => .int e.1) ++ [.int x]))) T L s it se nd (st ++ [(x, I, 0)]) (addSeen seen x) := by
  obtain ⟨kv0, ep0, hnd0, _⟩ := F.hnd
  have i1 : I ≠ se := fun e => by rw [e, CH.set_same] at hI; cases hI
  have hI' : H I = none := by rw [CH.set_ne i1] at hI; exact hI
  have i2 : I ≠ it := fun e => by rw [e, F.hit] at hI'; cases hI'
  have i3 : I ≠ nd := fun e => by rw [e, hnd0] at hI'; cases hI'
  have i4 : I ≠ s := fun e => by rw [e, F.hs] at hI'; cases hI'
  have d1 : it ≠ se := fun e => by have := F.hit; rw [e, hse] at this; cases this
  have d2 : nd ≠ se := fun e => by rw [e, hse] at hnd0; cases hnd0
  have d3 : s ≠ se := fun e => by have := F.hs; rw [e, hse] at this; cases this
  have d4 : nd ≠ it := fun e => by have := F.hit; rw [← e, hnd0] at this; cases this
  have d5 : s ≠ nd := fun e => by have := F.hs; rw [e, hnd0] at this; cases this
  have hxs : x ∉ st.map (·.1) := fun h => by
    obtain ⟨e, he, rfl⟩ := List.mem_map.mp h
    rw [(F.mem e he).2] at hs; cases hs
  refine ⟨fun b hb => ?_, F.f1, F.f2, F.f3, F.f4, F.ne, ?_, ?_, ⟨c + 1, ?_, ?_⟩, ⟨kvs ++ [(x, v)], ep, ?_, ?_⟩, ?_, ?_, ?_, ?_, ?_⟩
  · have k : ∀ {c : Addr}, H₀ c = none → b ≠ c := fun {c} h q => hb (by rw [q]; exact h)
    rw [CH.set_ne (k F.f1), CH.set_ne (k F.f4), CH.set_ne (k F.f2), CH.set_ne (k hI0), CH.set_ne (k F.f3)]
    exact F.keep b hb
  · rw [CH.set_same, List.map_append]; rfl
  · rw [CH.set_ne (Ne.symm F.ne), CH.set_ne (Ne.symm d4), CH.set_same, List.map_append]; rfl
  · rw [CH.set_ne (Ne.symm d3), CH.set_ne (Ne.symm d2), CH.set_ne (Ne.symm d1), CH.set_ne (Ne.symm i1), CH.set_same]
  · unfold addSeen; rw [filter_add hkn hx hs]; omega
  · rw [CH.set_ne (Ne.symm d5), CH.set_same]
  · rw [List.map_append, List.map_append, hnd]; rfl
  · intro e he
    rcases List.mem_append.mp he with he | he
    · obtain ⟨h1, h2⟩ := F.its e he
      have n1 : e.2.1 ≠ s := fun q => by rw [q, F.hs] at h1; cases h1
      have n2 : e.2.1 ≠ nd := fun q => by rw [q, hnd0] at h1; cases h1
      have n3 : e.2.1 ≠ it := fun q => by rw [q, F.hit] at h1; cases h1
      have n4 : e.2.1 ≠ I := fun q => by rw [q, hI'] at h1; cases h1
      have n5 : e.2.1 ≠ se := fun q => by rw [q, hse] at h1; cases h1
      rw [CH.set_ne n1, CH.set_ne n2, CH.set_ne n3, CH.set_ne n4, CH.set_ne n5]
      exact ⟨h1, h2⟩
    · obtain rfl := List.mem_singleton.mp he
      show CH.set _ _ _ I = some (.liter (L.bL x) 0) ∧ _
      rw [CH.set_ne i4, CH.set_ne i3, CH.set_ne i2, CH.set_same]
      exact ⟨rfl, hI0⟩
  · rw [List.map_append, List.nodup_append]
    refine ⟨F.nI, by simp, fun p hp q hq => ?_⟩
    obtain rfl := List.mem_singleton.mp hq
    obtain ⟨e, he, rfl⟩ := List.mem_map.mp hp
    intro q; have := (F.its e he).1; rw [q, hI'] at this; cases this
  · rw [List.map_append, List.nodup_append]
    refine ⟨F.nK, by simp, fun p hp q hq => ?_⟩
    obtain rfl := List.mem_singleton.mp hq
    intro q; exact hxs (q ▸ hp)
  · intro e he
    rcases List.mem_append.mp he with he | he
    · have := F.mem e he; exact ⟨this.1, by unfold addSeen; rw [this.2]; rfl⟩
    · obtain rfl := List.mem_singleton.mp he
      exact ⟨hx, by unfold addSeen; simp⟩
  · intro y hy
    unfold addSeen at hy
    rw [Bool.or_eq_true, decide_eq_true_eq] at hy
    rcases hy with hy | hy
    · exact F.sub y hy
    · exact hy ▸ hx
theorem FC.step {e : Ent} (F : FC H₀ H T L s it se nd (st ++ [e]) seen) {i : Nat} :
    FC H₀ (H.set e.2.1 (.liter (L.bL e.1) i)) T L s it se nd (st ++ [(e.1, e.2.1, i)]) seen := by
  obtain ⟨kv0, ep0, hnd0, hk0⟩ := F.hnd
  obtain ⟨c, hse, hc⟩ := F.hse
  obtain ⟨h1, h2⟩ := F.its e (List.mem_append_right _ List.mem_cons_self)
  have hne := F.nI
  rw [List.map_append, List.nodup_append] at hne
  have hm : ∀ {β : Type} (f : Int → Addr → β), ((st ++ [(e.1, e.2.1, i)]).map fun e => f e.1 e.2.1) = ((st ++ [e]).map fun e => f e.1 e.2.1) := by intro β f; simp
  refine ⟨fun b hb => ?_, F.f1, F.f2, F.f3, F.f4, F.ne, ?_, ?_, ⟨c, set_other h1 hse (by intro q; cases q), hc⟩, ⟨kv0, ep0, set_other h1 hnd0 (by intro q; cases q), ?_⟩, ?_, ?_, ?_, ?_, F.sub⟩
  · have hbI : b ≠ e.2.1 := fun q => hb (by rw [q]; exact h2)
    rw [CH.set_ne hbI]; exact F.keep b hb
  · rw [hm fun x _ => V.int x]; exact set_other h1 F.hs (by intro q; cases q)
  · rw [hm fun _ x => V.imm (mwObj x)]; exact set_other h1 F.hit (by intro q; cases q)
  · rw [hm fun x _ => x]; exact hk0
  · intro e' he'
    rcases List.mem_append.mp he' with he' | he'
    · have := F.its e' (List.mem_append_left _ he')
      rw [CH.set_ne (hne.2.2 _ (List.mem_map_of_mem he') _ (List.mem_singleton.mpr rfl))]; exact this
    · obtain rfl := List.mem_singleton.mp he'
      exact ⟨CH.set_same, h2⟩
  · rw [hm fun _ x => x]; exact F.nI
  · rw [hm fun x _ => x]; exact F.nK
  · intro e' he'
    rcases List.mem_append.mp he' with he' | he'
    · exact F.mem e' (List.mem_append_left _ he')
    · obtain rfl := List.mem_singleton.mp he'
      exact F.mem e (List.mem_append_right _ List.mem_cons_self)
theorem FC.pop {e : Ent} (F : FC H₀ H T L s it se nd (st ++ [e]) seen) {kvs : List (Int × V)} {ep : Nat} (hnd : kvs.map (·.1) = st.map (·.1)) :
    FC H₀ ((((H.del e.2.1).set s (.list (st.map fun e => .int e.1))).set nd (.dict kvs ep)).set it (.list (st.map fun e => .imm (mwObj e.2.1)))) T L s it se nd st seen := by
  obtain ⟨kv0, ep0, hnd0, _⟩ := F.hnd
  obtain ⟨c, hse, hc⟩ := F.hse
  obtain ⟨h1, h2⟩ := F.its e (List.mem_append_right _ List.mem_cons_self)
  have hne := F.nI
  rw [List.map_append, List.nodup_append] at hne
  have hnk := F.nK
  rw [List.map_append, List.nodup_append] at hnk
  have d1 : se ≠ it := fun e => by have := F.hit; rw [← e, hse] at this; cases this
  have d2 : se ≠ nd := fun e => by rw [← e, hse] at hnd0; cases hnd0
  have d3 : se ≠ s := fun e => by have := F.hs; rw [← e, hse] at this; cases this
  have d4 : nd ≠ it := fun e => by have := F.hit; rw [← e, hnd0] at this; cases this
  have d5 : s ≠ nd := fun e => by have := F.hs; rw [e, hnd0] at this; cases this
  refine ⟨fun b hb => ?_, F.f1, F.f2, F.f3, F.f4, F.ne, ?_, CH.set_same, ⟨c, ?_, hc⟩, ⟨kvs, ep, ?_, hnd⟩, ?_, hne.1, hnk.1, fun e' he' => F.mem e' (List.mem_append_left _ he'), F.sub⟩
  · have hbI : b ≠ e.2.1 := fun q => hb (by rw [q]; exact h2)
    have k : ∀ {c : Addr}, H₀ c = none → b ≠ c := fun {c} h q => hb (by rw [q]; exact h)
    rw [CH.set_ne (k F.f2), CH.set_ne (k F.f4), CH.set_ne (k F.f1), CH.del_ne hbI]
    exact F.keep b hb
  · rw [CH.set_ne F.ne, CH.set_ne d5, CH.set_same]
  · rw [CH.set_ne d1, CH.set_ne d2, CH.set_ne d3, CH.del_ne (fun q => by rw [← q, hse] at h1; cases h1)]; exact hse
  · rw [CH.set_ne d4, CH.set_same]
  · intro e' he'
    obtain ⟨h3, h4⟩ := F.its e' (List.mem_append_left _ he')
    have n1 : e'.2.1 ≠ s := fun q => by rw [q, F.hs] at h3; cases h3
    have n2 : e'.2.1 ≠ nd := fun q => by rw [q, hnd0] at h3; cases h3
    have n3 : e'.2.1 ≠ it := fun q => by rw [q, F.hit] at h3; cases h3
    rw [CH.set_ne n3, CH.set_ne n2, CH.set_ne n1, CH.del_ne (hne.2.2 _ (List.mem_map_of_mem he') _ (List.mem_singleton.mpr rfl))]
    exact ⟨h3, h4⟩
end
noncomputable def leftU (T : TS) (seen : Int → Bool) : Nat := ((T.keys.filter fun k => !seen k).map fun k => (T.sc k).length + 1).sum
noncomputable def leftS (T : TS) (st : List Ent) : Nat := (st.map fun e => (T.sc e.1).length - e.2.2).sum
theorem leftU_add {T : TS} {seen : Int → Bool} {x : Int} (hn : T.keys.Nodup) (hx : x ∈ T.keys) (hs : seen x = false) : leftU T seen = leftU T (addSeen seen x) + ((T.sc x).length + 1) := by
  unfold leftU
  generalize T.keys = keys at *
  induction keys with
  | nil => cases hx
  | cons a r ih =>
    rw [List.nodup_cons] at hn
    by_cases e : a = x
    · subst e
      have : r.filter (fun y => !addSeen seen a y) = r.filter fun y => !seen y := List.filter_congr fun y hy => by
        have : y ≠ a := fun e => hn.1 (e ▸ hy)
        simp [addSeen, this]
      rw [List.filter_cons_of_pos (by simp [hs]), List.filter_cons_of_neg (by simp [addSeen]), this]; simp; omega
    · have h := ih hn.2 ((List.mem_cons.mp hx).resolve_left (fun q => e q.symm))
      by_cases q : seen a = true
      · rw [List.filter_cons_of_neg (by simp [q]), List.filter_cons_of_neg (by simp [addSeen, q])]; exact h
      · rw [List.filter_cons_of_pos (by simp [q]), List.filter_cons_of_pos (by simp [addSeen, q, e])]
        simp only [List.map_cons, List.sum_cons]; omega
theorem leftS_append {T : TS} {st : List Ent} {e : Ent} : leftS T (st ++ [e]) = leftS T st + ((T.sc e.1).length - e.2.2) := by
  unfold leftS; simp
end
section
theorem g_iter2 {P : Params} : nsIn (KK P) mainGlobals "iter" = some none := by kernel_rfl
theorem g_set {P : Params} : nsIn (KK P) mainGlobals "set" = some none := by kernel_rfl
theorem b_set : bootBuiltins "set" = some (.type "set") := by kernel_rfl
theorem g_stop {P : Params} : nsIn (KK P) mainGlobals "StopIteration" = some none := by kernel_rfl
theorem b_stop : bootBuiltins "StopIteration" = some (.type "StopIteration") := by kernel_rfl
theorem keysOf_map {keys : List Int} {f : Int → V} : keysOf (keys.map fun k => (k, f k)) = keys.map .int := by
  induction keys with
  | nil => rfl
  | cons a r ih => rw [List.map_cons, List.map_cons]; show V.int a :: keysOf _ = _; rw [ih]
noncomputable abbrev mF (s it se nd n2i a : Addr) : Loc := [("node2stacki", .ref nd), ("seen", .ref se), ("itstack", .ref it), ("stack", .ref s), ("n2i", .ref n2i), ("self", .ref a)]
noncomputable abbrev mX (x : Int) (s it se nd n2i a : Addr) : Loc := ("node", .int x) :: mF s it se nd n2i a
noncomputable def Up (rk : Int → Int) (st : List Ent) : Prop := st.Pairwise fun e e' => rk e.1 < rk e'.1
section
variable {C : Cx} {A : Around} {m : Loc} {H : CH} {s : Shared} {mg mb : Str → Option Value} {P : Params} {a : Addr} {T : TS} {L : Lay}
noncomputable def FcI (H : CH) (T : TS) (L : Lay) (S it se nd a : Addr) (rk : Int → Int) (n : Nat) (m' : Loc) (H' : CH) : Prop := ∃ x st seen, m' = mX x S it se nd L.n2i a ∧ FC H H' T L S it se nd st seen ∧ x ∈ T.keys ∧ Up rk st ∧ (∀ e ∈ st, rk e.1 < rk x) ∧ n = leftU T seen + leftS T st
noncomputable def FcM (H : CH) (T : TS) (L : Lay) (S it se nd a : Addr) (rk : Int → Int) (x : Int) (N : Nat) (m' : Loc) (H' : CH) : Prop := m' = mX x S it se nd L.n2i a ∧ ∃ st' seen', FC H H' T L S it se nd st' seen' ∧ Up rk st' ∧ leftU T seen' + leftS T st' ≤ N
noncomputable def FcW (H : CH) (T : TS) (L : Lay) (S it se nd a : Addr) (rk : Int → Int) (x : Int) (N : Nat) (n : Nat) (m' : Loc) (H' : CH) : Prop := m' = mX x S it se nd L.n2i a ∧ ∃ st' seen', FC H H' T L S it se nd st' seen' ∧ Up rk st' ∧ leftU T seen' + leftS T st' ≤ N ∧ n = st'.length
theorem spec_findcycle {rk : Int → Int} (hrk : ∀ k ∈ T.keys, ∀ x ∈ T.sc k, x ∈ T.keys ∧ rk k < rk x) (hz : T.keys.length + 1 < scanBound) (B : Bs C.h₀ (KK P) mg mb) {n : Nat} (hA : AOK C A (n + 1)) (R : TSR H a T L) :
    CALL C A (.con (.ref a_findcycle)) [.ref a] [] H fun v H' => v = V.none ∧ ∀ b, H b ≠ none → H' b = H b := by
  have hz1 : T.keys.length < sizeLine := by unfold sizeLine; unfold scanBound at hz; omega
  refine CALL_K B (by with_unfolding_all rfl) (by with_unfolding_all rfl) hA .pos1 (by with_unfolding_all rfl) rfl fun LL hL hL0 hA' => ?_
  repeat walk_at "x"
  refine GA_own B R.top R.dict rfl ?_
  repeat walk_at "x"
  refine EV_list ?_
  repeat walk_at "x"
  refine ⟨by decide, fun S hS => ?_⟩
  repeat walk_at "x"
  refine EV_list ?_
  repeat walk_at "x"
  refine ⟨by decide, fun it hit => ?_⟩
  repeat walk_at "x"
  refine EV_b B g_set b_set ?_
  repeat walk_at "x"
  refine ⟨KP_type, CV_set0 fun se hse hse0 => ?_⟩
  repeat walk_at "x"
  refine EV_dict fun nd hnd hnd0 => ?_
  have e1 : it ≠ S := fun e => by rw [e, CH.set_same] at hit; cases hit
  have e2 : se ≠ it := fun e => by rw [e, CH.set_same] at hse; cases hse
  have e3 : se ≠ S := fun e => by rw [e, CH.set_ne (Ne.symm e1), CH.set_same] at hse; cases hse
  have e4 : nd ≠ se := fun e => by rw [e, CH.set_same] at hnd; cases hnd
  have e5 : nd ≠ it := fun e => by rw [e, CH.set_ne (Ne.symm e2), CH.set_same] at hnd; cases hnd
  have e6 : nd ≠ S := fun e => by rw [e, CH.set_ne (Ne.symm e3), CH.set_ne (Ne.symm e1), CH.set_same] at hnd; cases hnd
  have f2 : H it = none := by rw [CH.set_ne e1] at hit; exact hit
  have f3 : H se = none := by rw [CH.set_ne e2, CH.set_ne e3] at hse; exact hse
  have f4 : H nd = none := by rw [CH.set_ne e4, CH.set_ne e5, CH.set_ne e6] at hnd; exact hnd
  have F0 : FC H ((((H.set S (.list [])).set it (.list [])).set se (.set (fun _ => false) 0)).set nd (.dict [] 0)) T L S it se nd [] (fun _ => false) := by
    refine ⟨fun b hb => ?_, hS, f2, f3, f4, Ne.symm e1, ?_, ?_, ⟨0, ?_, Nat.zero_le _⟩, ⟨[], 0, CH.set_same, rfl⟩, (by intro _ h; cases h), .nil, .nil, (by intro _ h; cases h), (by intro _ h; cases h)⟩
    · have k : ∀ {c : Addr}, H c = none → b ≠ c := fun {c} h q => hb (by rw [q]; exact h)
      rw [CH.set_ne (k f4), CH.set_ne (k f3), CH.set_ne (k f2), CH.set_ne (k hS)]
    · rw [CH.set_ne (Ne.symm e6), CH.set_ne (Ne.symm e3), CH.set_ne (Ne.symm e1), CH.set_same]; rfl
    · rw [CH.set_ne (Ne.symm e5), CH.set_ne (Ne.symm e2), CH.set_same]; rfl
    · rw [CH.set_ne (Ne.symm e4), CH.set_same]
  repeat walk_at "x"
  refine EX_cons (st := .For _ _ _ _ _) (ES_for' ?_)
  repeat walk_at "x"
  have kn2i : ∀ {st : List Ent} {seen : Int → Bool} {H' : CH}, FC H H' T L S it se nd st seen → H' L.n2i = some (.dict (T.keys.map fun k => (k, .ref (L.bA k))) L.ep) := fun {st seen H'} Z => (Z.keep _ (by rw [R.n2i]; simp)).trans R.n2i
  refine ⟨T.keys.map .int, _, mF S it se nd L.n2i a, fun i m' H' => m' = mF S it se nd L.n2i a ∧ ∃ seen, FC H H' T L S it se nd [] seen,
    (by rw [← keysOf_map (f := fun k => V.ref (L.bA k))]; exact seq_keys (by exact B) hA'.handled (kn2i F0)), .cons rfl (.cons rfl (.cons rfl (.cons rfl (.cons rfl (.cons rfl .nil))))), ⟨rfl, _, F0⟩, ?_⟩
  rintro i m' H' ⟨rfl, seen, Z⟩
  refine ⟨kn2i Z, fun y hy => ?_, fun hi => ?_⟩
  · obtain ⟨x, hx, rfl⟩ := ints_get hy
    have hxk : x ∈ T.keys := List.mem_of_getElem? hx
    obtain ⟨c, hc, hcl⟩ := Z.hse
    repeat walk_at "x"
    walk_at "xi"
    refine O2_inset hc ?_
    repeat walk_at "x"
    refine ⟨_, rfl, fun q => ?_, fun q => ?_⟩
    · repeat walk_at "x"
      exact ⟨_, .cons rfl (.cons rfl (.cons rfl (.cons rfl (.cons rfl (.cons rfl .nil))))), rfl, seen, Z⟩
    repeat walk_at "x"
    refine EX_cons (st := .While _ _ _ _) (ES_while (FcI H T L S it se nd a rk) _ _
      (.cons rfl (.cons rfl (.cons rfl (.cons rfl (.cons rfl (.cons rfl (.cons rfl .nil))))))) ⟨x, [], seen, rfl, Z, hxk, .nil, (by intro _ h; cases h), rfl⟩ ?_)
    clear hc hcl c q hx hxk x Z seen hy
    rintro n' m' H' ⟨x, st, seen, rfl, Z, hxk, hup, hlt, rfl⟩
    repeat walk_at "x"
    refine OB_bool ⟨fun _ => ?_, fun h => (by cases h)⟩
    refine EX_mid (st := .If _ _ _ _) (FcM H T L S it se nd a rk x (leftU T seen + leftS T st)) (ES_if ?_) fun m₁ H₁ hM => ?_
    · obtain ⟨c, hc, hcl⟩ := Z.hse
      repeat walk_at "x"
      refine O2_inset hc ?_
      refine ⟨_, rfl, fun q => ?_, fun q => ?_⟩
      · obtain ⟨kvs, ep, hnd, hkv⟩ := Z.hnd
        walk_at "xi"
        refine O2_in_dict B hnd ?_
        rw [lookup_no (by
          rw [hkv]; intro h
          obtain ⟨e, he, rfl⟩ := List.mem_map.mp h
          exact Int.lt_irrefl _ (hlt e he))]
        refine ⟨_, rfl, fun h => (by cases h), fun _ => ?_⟩
        repeat walk_at "x"
        exact ⟨rfl, st, seen, Z, hup, Nat.le_refl _⟩
      · have hlen := Z.len R.nodup
        repeat walk_at "x"
        refine GM_set hc ?_
        repeat walk_at "x"
        refine ⟨KP_built, CV_add hc ?_ ?_⟩
        · have := List.length_filter_le seen T.keys; omega
        rw [if_neg (by rw [q]; simp)]
        have hit' : H' it = _ := Z.hit
        have o1 : it ≠ se := fun e => by rw [e, hc] at hit'; cases hit'
        have hit2 := (CH.set_ne (H := H') (c := .set (addSeen seen x) (c + 1)) o1).trans hit'
        repeat walk_at "x"
        refine GM_list (.own hit2) F.slot_list_append F.type_list_append ?_
        repeat walk_at "x"
        refine EV_b B g_iter2 b_iter ?_
        repeat walk_at "x"
        have o2 : L.n2i ≠ se := fun e => by have := kn2i Z; rw [e, hc] at this; cases this
        refine sub_dict ((CH.set_ne o2).trans (kn2i Z)) (look_keys hxk) ?_
        repeat walk_at "x"
        have R' := R.keep Z.keep
        have R'' : ∀ {b : Addr} {c' : CObj}, H' b = some c' → (∀ S c, c' ≠ .set S c) → (H'.set se (.set (addSeen seen x) (c + 1))) b = some c' := fun {b c'} h1 h2 => (CH.set_ne (fun e => by rw [e, hc] at h1; cases h1; exact h2 _ _ rfl)).trans h1
        refine GA_slot (p := 80) (i := 2) B (R'' (R'.node x hxk) (by intro _ _ h; cases h)) (R'' (R'.nd x hxk) (by intro _ _ h; cases h)) rfl ?_
        repeat walk_at "x"
        refine ⟨KP_built, CV_iter (.own (R'' (R'.succ x hxk) (by intro _ _ h; cases h))) fun I hI hI0 => ?_⟩
        replace hI : (H'.set se (.set (addSeen seen x) (c + 1))) I = none := hI
        repeat walk_at "x"
        refine GA_next CH.set_same ?_
        repeat walk_at "x"
        have i1 : it ≠ I := fun e => by rw [← e, hit2] at hI; cases hI
        refine ⟨KP_built, CV_append ((CH.set_ne i1).trans hit2) (by rw [List.length_map]; omega) ?_⟩
        repeat walk_at "x"
        obtain ⟨kvs, ep, hnd, hkv⟩ := Z.hnd
        have hS' := Z.hs
        have j1 : S ≠ se := fun e => by rw [e, hc] at hS'; cases hS'
        have j2 : S ≠ I := fun e => by rw [← e, CH.set_ne j1, hS'] at hI; cases hI
        have k1 : nd ≠ se := fun e => by rw [e, hc] at hnd; cases hnd
        have k2 : nd ≠ I := fun e => by rw [← e, CH.set_ne k1, hnd] at hI; cases hI
        have k3 : nd ≠ it := fun e => by rw [e, hit'] at hnd; cases hnd
        have k4 : S ≠ nd := fun e => by rw [e, hnd] at hS'; cases hS'
        refine EV_b B g_len2 b_len ?_
        repeat walk_at "x"
        refine ⟨KP_built, CV_len (.own (by rw [CH.set_ne Z.ne, CH.set_ne j2, CH.set_ne j1]; exact hS')) (by rw [List.length_map]; omega) ?_⟩
        repeat walk_at "x"
        have hxs : x ∉ kvs.map (·.1) := fun h => by
          rw [hkv] at h
          obtain ⟨e, he, rfl⟩ := List.mem_map.mp h
          exact Int.lt_irrefl _ (hlt e he)
        have hkl : kvs.length ≤ sizeLine := by
          have := congrArg List.length hkv
          rw [List.length_map, List.length_map] at this; omega
        refine set_dict (by rw [CH.set_ne k3, CH.set_ne k2, CH.set_ne k1]; exact hnd) hkl fun ep' => ?_
        rw [putI_new hxs]
        repeat walk_at "x"
        refine GM_list (.own (by rw [CH.set_ne k4, CH.set_ne Z.ne, CH.set_ne j2, CH.set_ne j1]; exact hS')) F.slot_list_append F.type_list_append ?_
        repeat walk_at "x"
        refine ⟨KP_built, CV_append (by rw [CH.set_ne k4, CH.set_ne Z.ne, CH.set_ne j2, CH.set_ne j1]; exact hS') (by rw [List.length_map]; omega) ?_⟩
        repeat walk_at "x"
        have hI0' : H I = none := by
          cases h : H I with
          | none => rfl
          | some o =>
            have i2 : I ≠ se := fun e => by rw [e, CH.set_same] at hI; cases hI
            rw [CH.set_ne i2, Z.keep I (by rw [h]; simp), h] at hI; cases hI
        have Z' := Z.push R.nodup hxk q hc hcl hkv hI hI0' (v := .int ((st.map fun e => V.int e.1).length : Int)) (ep := ep')
        refine ⟨rfl, _, _, Z', ?_, ?_⟩
        · unfold Up at hup ⊢
          rw [List.pairwise_append]
          exact ⟨hup, List.pairwise_singleton .., fun e he e' he' => by rw [List.mem_singleton.mp he']; exact hlt e he⟩
        · rw [leftS_append, leftU_add R.nodup hxk q]
          show _ + (_ + ((T.sc x).length - 0)) ≤ _
          omega
    · obtain ⟨rfl, st', seen', Z', hup', hle'⟩ := hM
      generalize leftU T seen + leftS T st = N at *
      refine EX_cons (st := .While _ _ _ _) (ES_while (FcW H T L S it se nd a rk x N) _ _
        (.cons rfl (.cons rfl (.cons rfl (.cons rfl (.cons rfl (.cons rfl (.cons rfl .nil))))))) ⟨rfl, st', seen', Z', hup', hle', rfl⟩ ?_)
      clear Z' hup' hle' st' seen' Z hup hlt st seen H'
      rintro n' m' H' ⟨rfl, st, seen, Z, hup, hle, rfl⟩
      have hlen := Z.len R.nodup
      repeat walk_at "x"
      refine OB_list (.own Z.hs) (by rw [List.length_map]; omega) ⟨fun hb => ?_, fun hb => ?_⟩
      · have hne : st ≠ [] := by intro h; subst h; simp at hb
        obtain ⟨st0, e, rfl⟩ : ∃ st0 e, st = st0 ++ [e] := ⟨_, _, (List.dropLast_concat_getLast hne).symm⟩
        obtain ⟨k, I, i⟩ := e
        obtain ⟨hI, hI0⟩ : H' I = some (.liter (L.bL k) i) ∧ H I = none := Z.its (k, I, i) (List.mem_append_right _ List.mem_cons_self)
        obtain ⟨hkk, hks⟩ : k ∈ T.keys ∧ seen k = true := Z.mem (k, I, i) (List.mem_append_right _ List.mem_cons_self)
        have R' := R.keep Z.keep
        have hit : H' it = some (.list ((st0.map fun e => V.imm (mwObj e.2.1)) ++ [V.imm (mwObj I)])) := by have h := Z.hit; rw [List.map_append] at h; exact h
        have hup0 := hup
        unfold Up at hup0
        rw [List.pairwise_append] at hup0
        replace hlen : st0.length + 1 ≤ T.keys.length := by simpa using hlen
        have hneg : ((st0.map fun e => V.imm (mwObj e.2.1)) ++ [V.imm (mwObj I)])[((-1 : Int) + (((st0.map fun e => V.imm (mwObj e.2.1)) ++ [V.imm (mwObj I)]).length : Int)).toNat]? = some (.imm (mwObj I)) := by
          rw [show ((-1 : Int) + (((st0.map fun e => V.imm (mwObj e.2.1)) ++ [V.imm (mwObj I)]).length : Int)).toNat = (st0.map fun e => V.imm (mwObj e.2.1)).length from by rw [List.length_append, List.length_singleton]; omega]
          simp
        by_cases hi : i < (T.sc k).length
        · have hx' : (T.sc k)[i]? = some (T.sc k)[i] := List.getElem?_eq_getElem hi
          generalize (T.sc k)[i] = y at hx'
          obtain ⟨hyk, hyr⟩ := hrk k hkk y (List.mem_of_getElem? hx')
          refine EX_cons (st := .Try _ _ _ _ _) (ES_try (T := "StopIteration") (cls := "StopIteration") (R := fun _ _ => False) hA'.frames rfl (by kernel_rfl) (by kernel_rfl) (by kernel_rfl) (EXX_of ?_) (fun _ _ _ h => h.elim))
          repeat walk_at "x"
          refine O1_neg ?_
          repeat walk_at "x"
          refine sub_list_neg (k := -1) (v := .imm (mwObj I)) (.own hit) (by decide) (by rw [List.length_append, List.length_singleton]; omega) hneg (by rw [List.length_append, List.length_map, List.length_singleton]; omega) ?_
          repeat walk_at "x"
          refine ⟨KP_mw, CV_mw hI (.own (R'.succ k hkk)) (by rw [List.getElem?_map, hx']; rfl) ?_⟩
          repeat walk_at "x"
          have Z' := Z.step (i := i + 1)
          refine EX_nil ?_
          refine ⟨_, _, ?_, .cons rfl (.cons rfl (.cons rfl (.cons rfl (.cons rfl (.cons rfl (.cons rfl .nil)))))), y, _, _, rfl, Z', hyk, ?_, ?_, rfl⟩
          · rw [leftS_append] at hle ⊢
            show _ + (_ + ((T.sc k).length - (i + 1))) < _
            have : leftU T seen + (leftS T st0 + ((T.sc k).length - i)) ≤ N := hle
            omega
          · unfold Up
            rw [List.pairwise_append]
            exact ⟨hup0.1, List.pairwise_singleton .., fun e he e' he' => by rw [List.mem_singleton.mp he']; exact hup0.2.2 e he (k, I, i) (List.mem_singleton.mpr rfl)⟩
          · intro e he
            rcases List.mem_append.mp he with he | he
            · exact Int.lt_trans (hup0.2.2 e he (k, I, i) (List.mem_singleton.mpr rfl)) hyr
            · rw [List.mem_singleton.mp he]; exact hyr
        · refine EX_cons (st := .Try _ _ _ _ _) (ES_try (T := "StopIteration") (cls := "StopIteration") (R := fun m' H'' => m' = mX x S it se nd L.n2i a ∧ H'' = H'.del I) hA'.frames rfl (by kernel_rfl) (by kernel_rfl) (by kernel_rfl) (EXX_cons (ESX_assign (EVX_call ?_))) ?_)
          · repeat walk_at "x"
            refine O1_neg ?_
            repeat walk_at "x"
            refine sub_list_neg (k := -1) (v := .imm (mwObj I)) (.own hit) (by decide) (by rw [List.length_append, List.length_singleton]; omega) hneg (by rw [List.length_append, List.length_map, List.length_singleton]; omega) ?_
            repeat walk_at "x"
            exact ⟨KP_mw, CVX_mw hA'.handled hI (.own (R'.succ k hkk)) (by rw [List.length_map]; omega) ⟨rfl, rfl⟩⟩
          · rintro _ _ h' ⟨rfl, rfl⟩
            refine EV_b (by exact B) g_stop b_stop ?_
            refine ⟨rfl, ?_⟩
            obtain ⟨kvs, ep, hnd, hkv⟩ := Z.hnd
            rw [List.map_append] at hkv
            have hS' : H' S = some (.list ((st0.map fun e => V.int e.1) ++ [.int k])) := by have h := Z.hs; rw [List.map_append] at h; exact h
            have hkn := Z.nK
            rw [List.map_append, List.nodup_append] at hkn
            have hk0 : k ∉ st0.map (·.1) := fun h => hkn.2.2 _ h _ (List.mem_singleton.mpr rfl) rfl
            have hkv0 := dropI_keys hkv hk0
            have i1 : S ≠ I := fun e => by rw [← e, hS'] at hI; cases hI
            have i2 : nd ≠ I := fun e => by rw [← e, hnd] at hI; cases hI
            have i3 : it ≠ I := fun e => by rw [← e, hit] at hI; cases hI
            have k4 : S ≠ nd := fun e => by rw [e, hnd] at hS'; cases hS'
            have k3 : nd ≠ it := fun e => by rw [e, hit] at hnd; cases hnd
            refine EX_cons (st := .Delete _ _) (ES_del ?_)
            repeat walk_at "x"
            refine GM_list (.own (by rw [CH.del_ne i1]; exact hS')) F.slot_list_pop F.type_list_pop ?_
            repeat walk_at "x"
            refine ⟨KP_built, CV_pop (by rw [CH.del_ne i1]; exact hS') (by rw [List.length_map]; omega) ?_⟩
            refine ⟨nd, k, kvs, ep, rfl, rfl, by rw [CH.set_ne (Ne.symm k4), CH.del_ne i2]; exact hnd, ?_, lookup_yes (by rw [hkv]; simp), fun ep' => ?_⟩
            · have := congrArg List.length hkv
              simp at this
              omega
            repeat walk_at "x"
            refine GM_list (.own (by rw [CH.set_ne (Ne.symm k3), CH.set_ne (Ne.symm Z.ne), CH.del_ne i3]; exact hit)) F.slot_list_pop F.type_list_pop ?_
            repeat walk_at "x"
            refine ⟨KP_built, CV_pop (by rw [CH.set_ne (Ne.symm k3), CH.set_ne (Ne.symm Z.ne), CH.del_ne i3]; exact hit) (by rw [List.length_map]; omega) ?_⟩
            repeat walk_at "x"
            have Z' := Z.pop (ep := ep') hkv0
            refine ⟨_, _, ?_, .cons rfl (.cons rfl (.cons rfl (.cons rfl (.cons rfl (.cons rfl (.cons rfl .nil)))))), rfl, st0, seen, Z', hup0.1, ?_, rfl⟩
            · simp
            · rw [leftS_append] at hle; omega
      · repeat walk_at "x"
        have e : st = [] := by simpa using hb
        subst e
        refine EX_nil ?_
        exact ⟨_, .cons rfl (.cons rfl (.cons rfl (.cons rfl (.cons rfl (.cons rfl .nil))))), rfl, seen, Z⟩
  · repeat walk_at "x"
    exact ⟨rfl, Z.keep⟩
end
end
section
section
variable {C : Cx} {A : Around} {m : Loc} {H : CH} {s : Shared} {mg mb : Str → Option Value} {P : Params} {a : Addr} {T : TS} {L : Lay}
theorem spec_prepare {rk : Int → Int} (hrk : ∀ k ∈ T.keys, ∀ x ∈ T.sc k, x ∈ T.keys ∧ rk k < rk x) (hz : T.keys.length + 1 < scanBound) (B : Bs C.h₀ (KK P) mg mb) {n : Nat} (hA : AOK C A (n + 2)) (R : TSR H a T L) (hr : T.ready = none) :
    CALL C A (.con (.ref a_prepare)) [.ref a] [] H fun v H' => v = V.none ∧ ∃ L', TSR H' a T.prep L' ∧ FrameT a H T L H' T.prep L' := by
  have hz1 : T.keys.length ≤ sizeLine := by unfold sizeLine; unfold scanBound at hz; omega
  refine CALL_K B (by with_unfolding_all rfl) (by with_unfolding_all rfl) hA .pos1 (by with_unfolding_all rfl) rfl fun LL hL hL0 hA' => ?_
  walk_at "xi"
  refine GA_own B R.top R.dict rfl ?_ (by kernel_rfl) (by unfold rdV; rw [hr]; rfl)
  repeat walk_at "x"
  refine ⟨_, rfl, fun q => ?_, fun _ => ?_⟩
  · unfold rdV at q; rw [hr] at q; cases q
  repeat walk_at "x"
  refine EV_lc ?_
  repeat walk_at "x"
  refine GA_own B R.top R.dict rfl ?_
  refine GM_dict R.n2i F.slot_dict_values F.type_dict_values ?_
  repeat walk_at "x"
  refine ⟨KP_built, CV_values B R.n2i ?_⟩
  refine LC_pure T.keys (fun k => .ref (L.bA k)) (fun k => T.np k == 0) .int (ok := fun H' => H' L.n2i = some (.dict (T.keys.map fun k => (k, .ref (L.bA k))) L.ep)) (by
    have : valsOf (T.keys.map fun k => (k, V.ref (L.bA k))) = T.keys.map fun k => V.ref (L.bA k) := by unfold valsOf; rw [List.map_map]; rfl
    rw [← this]; exact seq_vals hA'.handled R.n2i) R.n2i hz1 (fun k hk LC hLC => ?_) fun D hD hD0 => ?_
  · repeat walk_at "x"
    refine GA_slot (p := 79) (i := 1) B (R.node k hk) (R.nd k hk) rfl ?_
    repeat walk_at "x"
    refine ⟨_, rfl, fun q => ?_, fun q => ?_⟩
    · repeat walk_at "x"
      refine ⟨by simpa using q, rfl, fun _ => ?_⟩
      repeat walk_at "x"
      refine GA_slot (p := 78) (i := 0) B (R.node k hk) (R.nd k hk) rfl ?_
      exact ⟨rfl, rfl⟩
    · exact ⟨by simpa using q, rfl, fun h => (by cases h)⟩
  repeat walk_at "x"
  obtain ⟨R₁, F₁⟩ := R.setSome hD hr (T.keys.filter fun k => T.np k == 0)
  have low : ∀ {b : Addr} {c : CObj}, H b = some c → ∀ d, H.set D d b = some c := fun {b c} h d => by rw [CH.set_ne (fun e => by rw [e, hD] at h; cases h)]; exact h
  refine SA_own B (low R.top _) (low R.dict _) (by first | with_unfolding_all exact (by decide : (4:Nat) < 1000)) ?_
  repeat walk_at "x"
  refine GM_inst (f := a_findcycle) B R₁.top R₁.dict rfl ?_
  repeat walk_at "x"
  refine ⟨KP_K B (by with_unfolding_all rfl), CV_of ((spec_findcycle (T := T.prep) (rk := rk) hrk hz (by exact B) hA' R₁).mono ?_)⟩
  rintro v H' ⟨rfl, hkeep⟩
  repeat walk_at "x"
  walk_at "xi"
  refine OB_none ⟨fun q => (by cases q), fun _ => ?_⟩
  repeat walk_at "x"
  refine ⟨rfl, _, R₁.keep hkeep, F₁.trans fun b hb hf => ⟨hkeep b hb, hf⟩⟩
end
end
section
noncomputable abbrev Wy := Int × Int × Int
inductive Way (W : List Wy) : Int → Int → Prop
  | zero : Way W 0 0
  | step {p n q m : Int} : Way W p n → (p, q, m) ∈ W → Way W q (n + m)
noncomputable def Fine (W : List Wy) : Prop := ∀ w ∈ W, (0 ≤ w.1 ∧ w.1 < 7) ∧ (0 ≤ w.2.1 ∧ w.2.1 < 7) ∧ 1 ≤ w.2.2
noncomputable def IsDist (W : List Wy) (p n : Int) : Prop := Way W p n ∧ ∀ k, Way W p k → n ≤ k
theorem Way.range {W : List Wy} (ok : Fine W) {p n : Int} (h : Way W p n) : 0 ≤ p ∧ p < 7 := by
  cases h with
  | zero => omega
  | step _ hm => exact (ok _ hm).2.1
theorem Way.nonneg {W : List Wy} (ok : Fine W) {p n : Int} (h : Way W p n) : 0 ≤ n := by
  induction h with
  | zero => omega
  | step _ hm ih => have h : (1 : Int) ≤ _ := (ok _ hm).2.2; simp only at h; omega
theorem IsDist.uniq {W : List Wy} {p n k : Int} (a : IsDist W p n) (b : IsDist W p k) : n = k := by
  have := a.2 _ b.1; have := b.2 _ a.1; omega
/-- Dijkstra's state, with what is still to do for the place `p` -/
structure DIr (W : List Wy) (D hp : List (Int × Int)) (p : Int) (rest : List Wy) : Prop where
  dist : ∀ x ∈ D, IsDist W x.1 x.2
  way : ∀ x ∈ hp, Way W x.2 x.1
  rel : ∀ x ∈ D, ∀ w ∈ W, w.1 = x.1 → (w ∈ rest ∧ x.1 = p) ∨ w.2.1 ∈ D.map (·.1) ∨ ∃ y ∈ hp, y.2 = w.2.1 ∧ y.1 ≤ x.2 + w.2.2
  st : 0 ∈ D.map (·.1) ∨ (0, 0) ∈ hp
  nodup : (D.map (·.1)).Nodup
noncomputable abbrev DI (W : List Wy) (D hp : List (Int × Int)) : Prop := DIr W D hp 0 []
section
variable {W : List Wy} {D hp hp' r : List (Int × Int)} {p : Int} {rest : List Wy}
theorem DIr.perm (I : DIr W D hp p rest) (h : hp'.Perm hp) : DIr W D hp' p rest :=
  ⟨I.dist, fun x hx => I.way x (h.mem_iff.mp hx), fun x hx w hw e => by
    rcases I.rel x hx w hw e with q | q | ⟨y, hy, q⟩
    · exact .inl q
    · exact .inr (.inl q)
    · exact .inr (.inr ⟨y, h.mem_iff.mpr hy, q⟩), by
    rcases I.st with q | q
    · exact .inl q
    · exact .inr (h.mem_iff.mpr q), I.nodup⟩
theorem DI.first : DI W [] [(0, 0)] := ⟨(by intro _ h; cases h), fun x hx => by rw [List.mem_singleton.mp hx]; exact .zero, (by intro _ h; cases h), .inr List.mem_cons_self, .nil⟩
theorem DIr.old {a : Int × Int} (I : DI W D (a :: r)) (h : a.2 ∈ D.map (·.1)) : DI W D r :=
  ⟨I.dist, fun x hx => I.way x (List.mem_cons_of_mem _ hx), fun x hx w hw e => by
    rcases I.rel x hx w hw e with q | q | ⟨y, hy, q⟩
    · exact .inl q
    · exact .inr (.inl q)
    · rcases List.mem_cons.mp hy with hy | hy
      · subst hy; exact .inr (.inl (q.1 ▸ h))
      · exact .inr (.inr ⟨y, hy, q⟩), by
    rcases I.st with q | q
    · exact .inl q
    · rcases List.mem_cons.mp q with q | q
      · subst q; exact .inl h
      · exact .inr q, I.nodup⟩
theorem DIr.reach (ok : Fine W) (I : DI W D hp) {q k : Int} (h : Way W q k) : q ∈ D.map (·.1) ∨ ∃ x ∈ hp, x.1 ≤ k := by
  induction h with
  | zero =>
    rcases I.st with q | q
    · exact .inl q
    · exact .inr ⟨_, q, Int.le_refl _⟩
  | @step p n q m hp hm ih =>
    have hm1 : 1 ≤ m := (ok _ hm).2.2
    rcases ih with ih | ⟨x, hx, hl⟩
    · obtain ⟨x, hx, rfl⟩ := List.mem_map.mp ih
      have hd := (I.dist x hx).2 _ hp
      rcases I.rel x hx _ hm rfl with q | q | ⟨y, hy, q1, q2⟩
      · cases q.1
      · exact .inl q
      · have q2 : y.1 ≤ x.2 + m := q2
        exact .inr ⟨y, hy, by omega⟩
    · exact .inr ⟨x, hx, by omega⟩
theorem DIr.new {a : Int × Int} (ok : Fine W) (I : DI W D (a :: r)) (hmin : ∀ y ∈ a :: r, plt y a = false) (h : a.2 ∉ D.map (·.1)) : DIr W (D ++ [(a.2, a.1)]) r a.2 W := by
  refine ⟨fun x hx => ?_, fun x hx => I.way x (List.mem_cons_of_mem _ hx), fun x hx w hw e => ?_, ?_, ?_⟩
  · rcases List.mem_append.mp hx with hx | hx
    · exact I.dist x hx
    · rw [List.mem_singleton.mp hx]
      refine ⟨I.way a List.mem_cons_self, fun k hk => ?_⟩
      rcases I.reach ok hk with q | ⟨y, hy, hl⟩
      · exact absurd q h
      · have := hmin y hy
        simp [plt] at this
        show a.1 ≤ k
        omega
  · rcases List.mem_append.mp hx with hx | hx
    · rcases I.rel x hx w hw e with q | q | ⟨y, hy, q⟩
      · cases q.1
      · exact .inr (.inl (by rw [List.map_append]; exact List.mem_append_left _ q))
      · rcases List.mem_cons.mp hy with hy | hy
        · subst hy; exact .inr (.inl (by rw [List.map_append, ← q.1]; exact List.mem_append_right _ List.mem_cons_self))
        · exact .inr (.inr ⟨y, hy, q⟩)
    · rw [List.mem_singleton.mp hx]
      exact .inl ⟨hw, rfl⟩
  · rcases I.st with q | q
    · exact .inl (by rw [List.map_append]; exact List.mem_append_left _ q)
    · rcases List.mem_cons.mp q with q | q
      · subst q; exact .inl (by rw [List.map_append]; exact List.mem_append_right _ List.mem_cons_self)
      · exact .inr q
  · rw [List.map_append, List.nodup_append]
    exact ⟨I.nodup, by simp, fun x hx y hy => by rw [List.mem_singleton.mp hy]; rintro rfl; exact h hx⟩
theorem DIr.skip {w : Wy} (I : DIr W D hp p (w :: rest)) (h : w.1 ≠ p ∨ w.2.1 ∈ D.map (·.1)) : DIr W D hp p rest :=
  ⟨I.dist, I.way, fun x hx v hv e => by
    rcases I.rel x hx v hv e with q | q
    · rcases List.mem_cons.mp q.1 with q1 | q1
      · subst q1
        rcases h with h | h
        · exact absurd (e.trans q.2) h
        · exact .inr (.inl h)
      · exact .inl ⟨q1, q.2⟩
    · exact .inr q, I.st, I.nodup⟩
theorem DIr.push {w : Wy} {n : Int} (I : DIr W D hp p (w :: rest)) (hw : w ∈ W) (h : w.1 = p) (hn : (p, n) ∈ D) : DIr W D ((n + w.2.2, w.2.1) :: hp) p rest := by
  refine ⟨I.dist, fun x hx => ?_, fun x hx v hv e => ?_, ?_, I.nodup⟩
  · rcases List.mem_cons.mp hx with hx | hx
    · subst hx
      exact .step (p := p) (I.dist _ hn).1 (by rw [← h]; exact hw)
    · exact I.way x hx
  · rcases I.rel x hx v hv e with q | q | ⟨y, hy, q⟩
    · rcases List.mem_cons.mp q.1 with q1 | q1
      · subst q1
        have : x.2 = n := by
          have d1 := I.dist x hx
          have d2 := I.dist _ hn
          rw [q.2] at d1; exact d1.uniq d2
        exact .inr (.inr ⟨_, List.mem_cons_self, rfl, by rw [this]; exact Int.le_refl _⟩)
      · exact .inl ⟨q1, q.2⟩
    · exact .inr (.inl q)
    · exact .inr (.inr ⟨y, List.mem_cons_of_mem _ hy, q⟩)
  · rcases I.st with q | q
    · exact .inl q
    · exact .inr (List.mem_cons_of_mem _ q)
theorem DIr.done (I : DIr W D hp p []) : DI W D hp := ⟨I.dist, I.way, fun x hx w hw e => by
  rcases I.rel x hx w hw e with q | q
  · cases q.1
  · exact .inr q, I.st, I.nodup⟩
theorem DIr.size (ok : Fine W) (I : DIr W D hp p rest) : D.length ≤ 7 := by
  have := nodup_le (k := [0, 1, 2, 3, 4, 5, 6]) I.nodup fun x hx => by
    obtain ⟨y, hy, rfl⟩ := List.mem_map.mp hx
    have := (I.dist y hy).1.range ok
    simp; omega
  simpa using this
end
/-- what the search ends with -/
structure Dists (W : List Wy) (D : List (Int × Int)) : Prop where
  dist : ∀ x ∈ D, IsDist W x.1 x.2
  all : ∀ q k, Way W q k → q ∈ D.map (·.1)
  nodup : (D.map (·.1)).Nodup
theorem DIr.fin {W : List Wy} {D : List (Int × Int)} (ok : Fine W) (I : DI W D []) : Dists W D := ⟨I.dist, fun q k h => (I.reach ok h).resolve_right (by rintro ⟨_, h, _⟩; cases h), I.nodup⟩
end
section
noncomputable abbrev a_lengths : Addr := 183
noncomputable abbrev a_counts : Addr := 188
noncomputable abbrev a_allways : Addr := 193
noncomputable abbrev a_law : Addr := 198
theorem g_heappop {P : Params} : nsIn (KK P) mainGlobals "heappop" = some (some (.ref 35)) := by kernel_rfl
theorem g_heappush {P : Params} : nsIn (KK P) mainGlobals "heappush" = some (some (.ref 28)) := by kernel_rfl
theorem g_range {P : Params} : nsIn (KK P) mainGlobals "range" = some none := by kernel_rfl
theorem b_range : bootBuiltins "range" = some (.type "range") := by kernel_rfl
noncomputable abbrev wv (w : Wy) : V := .tup [.int w.1, .int w.2.1, .int w.2.2]
noncomputable abbrev dv (x : Int × Int) : Int × V := (x.1, .int x.2)
theorem dv_keys {D : List (Int × Int)} : (D.map dv).map (·.1) = D.map (·.1) := by rw [List.map_map]; rfl
section
variable {C : Cx} {A : Around} {m : Loc} {H : CH} {s : Shared} {mg mb : Str → Option Value} {P : Params}
theorem spec_pop {h : Addr} {a : Int × Int} {r : List (Int × Int)} (B : Bs C.h₀ (KK P) mg mb) {n : Nat} (hA : AOK C A (n + 3)) (hh : H h = some (.list ((a :: r).map pv))) (hsz : r.length + 1 ≤ sizeLine) (hp : IsHeap plt (a :: r)) :
    CALL C A (.con (.ref a_heappop)) [.ref h] [] H fun v H' => v = pv a ∧ ∃ r', H' = H.set h (.list (r'.map pv)) ∧ r'.Perm r ∧ IsHeap plt r' := by
  rcases List.eq_nil_or_concat r with rfl | ⟨ps, x, rfl⟩
  · refine (spec_heappop1 B hA hh).mono ?_
    rintro v H' ⟨rfl, rfl⟩
    exact ⟨rfl, [], rfl, .refl _, fun k h0 hk => by simp at hk⟩
  · rw [List.concat_eq_append] at *
    refine (spec_heappop B hA hh (by simp at hsz; omega)).mono ?_
    rintro v H' ⟨rfl, rfl⟩
    obtain ⟨h1, h2⟩ := pop_ok plt_ok (a := a) (x := x) (l := ps) hp
    exact ⟨rfl, _, rfl, h2.trans (List.perm_append_comm (l₁ := [x]) (l₂ := ps)), h1⟩
theorem spec_push {h : Addr} {x : Int × Int} {r : List (Int × Int)} (B : Bs C.h₀ (KK P) mg mb) {n : Nat} (hA : AOK C A (n + 2)) (hh : H h = some (.list (r.map pv))) (hsz : r.length + 1 ≤ sizeLine) (hp : IsHeap plt r) :
    CALL C A (.con (.ref a_heappush)) [.ref h, pv x] [] H fun v H' => v = V.none ∧ ∃ r', H' = H.set h (.list (r'.map pv)) ∧ r'.Perm (x :: r) ∧ IsHeap plt r' := by
  refine (spec_heappush B hA hh hsz).mono ?_
  rintro v H' ⟨rfl, rfl⟩
  exact ⟨rfl, _, rfl, push_perm x r, push_heap plt_ok x r hp⟩
theorem ne_out {H : CH} {b c : Addr} (hb : H b ≠ none) (hc : H c = none) : b ≠ c := fun e => hb (by rw [e]; exact hc)
structure LS (H H' : CH) (c d h : Addr) (D hp : List (Int × Int)) : Prop where
  keep : ∀ b, H b ≠ none → H' b = H b
  fd : H d = none
  fh : H h = none
  fc : H c = none
  hd : ∃ ep, H' d = some (.dict (D.map dv) ep)
  hh : H' h = some (.list (hp.map pv))
  hc : H' c = some (.cell (some (.ref h)))
theorem LS.setH {H H' : CH} {c d h : Addr} {D hp hp' : List (Int × Int)} (S : LS H H' c d h D hp) : LS H (H'.set h (.list (hp'.map pv))) c d h D hp' := by
  obtain ⟨ep, hd⟩ := S.hd
  exact ⟨fun b hb => by rw [CH.set_ne (ne_out hb S.fh)]; exact S.keep b hb, S.fd, S.fh, S.fc, ⟨ep, set_other S.hh hd (by intro e; cases e)⟩, CH.set_same, set_other S.hh S.hc (by intro e; cases e)⟩
theorem LS.setD {H H' : CH} {c d h : Addr} {D D' hp : List (Int × Int)} {ep : Nat} (S : LS H H' c d h D hp) : LS H (H'.set d (.dict (D'.map dv) ep)) c d h D' hp := by
  obtain ⟨ep0, hd⟩ := S.hd
  exact ⟨fun b hb => by rw [CH.set_ne (ne_out hb S.fd)]; exact S.keep b hb, S.fd, S.fh, S.fc, ⟨ep, CH.set_same⟩, set_other hd S.hh (by intro e; cases e), set_other hd S.hc (by intro e; cases e)⟩
theorem LS.more {H H' H'' : CH} {c d h : Addr} {D hp : List (Int × Int)} (S : LS H H' c d h D hp) (k : ∀ b, H' b ≠ none → H'' b = H' b) : LS H H'' c d h D hp := by
  obtain ⟨ep, hd⟩ := S.hd
  have k' : ∀ {b : Addr} {o : CObj}, H' b = some o → H'' b = some o := fun {b o} e => (k b (by rw [e]; simp)).trans e
  exact ⟨fun b hb => (k b (by rw [S.keep b hb]; exact hb)).trans (S.keep b hb), S.fd, S.fh, S.fc, ⟨ep, k' hd⟩, k' S.hh, k' S.hc⟩
theorem ways_get {W : List Wy} {i : Nat} {x : V} (h : (W.map wv)[i]? = some x) : ∃ w, W[i]? = some w ∧ x = wv w := by
  rw [List.getElem?_map] at h
  obtain ⟨p, hp, rfl⟩ := Option.map_eq_some_iff.mp h
  exact ⟨p, hp, rfl⟩
noncomputable def LenPost (W : List Wy) (H : CH) (v : V) (H' : CH) : Prop := ∃ d D ep, v = .ref d ∧ H d = none ∧ H' d = some (.dict (D.map dv) ep) ∧ Dists W D ∧ ∀ b, H b ≠ none → H' b = H b
noncomputable def LenI (W : List Wy) (H : CH) (c d h wl : Addr) (n : Nat) (m' : Loc) (H' : CH) : Prop := ∃ D hp, m' = ([("inside", .int (hp.length : Nat)), ("lengths", .ref d), ("ways", .ref wl)] : Loc) ∧ LS H H' c d h D hp ∧ IsHeap plt hp ∧ DI W D hp ∧ n = hp.length + (7 - D.length) * (W.length + 1) ∧ n ≤ 10000
noncomputable def LenJ (W : List Wy) (H : CH) (c d h wl : Addr) (Dn r' : List (Int × Int)) (a : Int × Int) (i : Nat) (m' : Loc) (H' : CH) : Prop := ∃ hp', m' = ([("inside", .int (hp'.length : Nat)), ("place", .int a.2), ("length", .int a.1), ("lengths", .ref d), ("ways", .ref wl)] : Loc) ∧ LS H H' c d h Dn hp' ∧ IsHeap plt hp' ∧ DIr W Dn hp' a.2 (W.drop i) ∧ hp'.length ≤ r'.length + i
theorem spec_lengths {wl : Addr} {W : List Wy} (ok : Fine W) (B : Bs C.h₀ (KK P) mg mb) {n : Nat} (hA : AOK C A (n + 4)) (hw : H wl = some (.list (W.map wv))) (hsz : W.length ≤ 1000) :
    CALL C A (.con (.ref a_lengths)) [.ref wl] [] H (LenPost W H) := by
  refine CALL_cells B (by with_unfolding_all rfl) (by with_unfolding_all rfl) hA rfl bz1 (by intro L; simp [cellsFrom]; with_unfolding_all rfl) (by with_unfolding_all rfl) fun L hL hA' => ?_
  have hcell : setCells (cellsFrom (L + 1) [("ways", .local), ("lengths", .local), ("heap", .cell), ("inside", .local), ("length", .local), ("place", .local), ("a", .local), ("b", .local), ("more", .local), ("heappop", .globalImplicit), ("len", .globalImplicit), ("range", .globalImplicit), ("heappush", .globalImplicit)] []) (fun x => (([("ways" : Str)].zip [V.ref wl]).reverse.lookup x)) H = H.set (L + 1) (.cell none) := rfl
  refine (show EX _ _ _ [("ways", .ref wl)] (H.set (L + 1) (.cell none)) _ from ?_)
  have hL1 := (hL (L + 1) (Nat.le_succ L)).1
  repeat walk_at "x"
  refine EV_dict fun d hd hd0 => ?_
  have d1 : d ≠ L + 1 := fun e => by rw [e, CH.set_same] at hd; cases hd
  rw [CH.set_ne d1] at hd
  repeat walk_at "x"
  refine EV_list ?_
  repeat walk_at "x"
  refine ⟨by decide, ?_⟩
  repeat walk_at "x"
  refine ⟨by decide, fun h hh => ?_⟩
  have h1 : h ≠ d := fun e => by rw [e, CH.set_same] at hh; cases hh
  have h2 : h ≠ L + 1 := fun e => by rw [e, CH.set_ne (Ne.symm d1), CH.set_same] at hh; cases hh
  rw [CH.set_ne h1, CH.set_ne h2] at hh
  refine ASG_cell (c := L + 1) (by with_unfolding_all rfl) (by rw [CH.set_ne (Ne.symm h2), CH.set_ne (Ne.symm d1), CH.set_same]) ?_
  have S0 : LS H ((((H.set (L + 1) (.cell none)).set d (.dict [] 0)).set h (.list [.tup [.int 0, .int 0]])).set (L + 1) (.cell (some (.ref h)))) (L + 1) d h [] [(0, 0)] := by
    refine ⟨fun b hb => ?_, hd, hh, hL1, ⟨0, ?_⟩, ?_, CH.set_same⟩
    · rw [CH.set_ne (ne_out hb hL1), CH.set_ne (ne_out hb hh), CH.set_ne (ne_out hb hd), CH.set_ne (ne_out hb hL1)]
    · rw [CH.set_ne d1, CH.set_ne (Ne.symm h1), CH.set_same]; rfl
    · rw [CH.set_ne h2, CH.set_same]; rfl
  repeat walk_at "x"
  have hw0 : H wl ≠ none := by rw [hw]; simp
  refine EX_cons (st := .While _ _ _ _) (ES_while (LenI W H (L + 1) d h wl) _ [("inside", .int 1), ("lengths", .ref d), ("ways", .ref wl)] (.cons rfl (.cons rfl (.cons rfl .nil)))
    ⟨[], [(0, 0)], rfl, S0, fun k h0 hk => by simp at hk; omega, DI.first, rfl, by simp; omega⟩ ?_)
  rintro k m' H' ⟨D, hp, rfl, S, hheap, I, rfl, hk⟩
  repeat walk_at "x"
  refine ⟨_, rfl, fun q => ?_, fun q => ?_⟩
  · obtain ⟨a, r, rfl⟩ : ∃ a r, hp = a :: r := by
      cases hp with
      | nil => simp at q
      | cons a r => exact ⟨a, r, rfl⟩
    repeat walk_at "x"
    refine EV_g B g_heappop ?_
    repeat walk_at "x"
    refine EV_cell (c := L + 1) (by with_unfolding_all rfl) S.hc ?_
    repeat walk_at "x"
    have hsr : (a :: r).length ≤ 10000 := Nat.le_trans (Nat.le_add_right _ _) hk
    have hsr' : r.length + 1 ≤ 10000 := hsr
    have hz : 10000 < sizeLine := by decide
    refine ⟨KP_K B (by with_unfolding_all rfl), CV_of ((spec_pop (by exact B) hA' S.hh (by omega) hheap).mono ?_)⟩
    rintro v H₁ ⟨rfl, r', rfl, hperm, hheap'⟩
    have S₁ := S.setH (hp' := r')
    have hlen : r'.length = r.length := hperm.length_eq
    refine ASG_tuple hA'.handled rfl ?_
    repeat walk_at "x"
    walk_at "xi"
    refine EV_b B g_len2 b_len ?_
    repeat walk_at "x"
    refine EV_cell (c := L + 1) (by with_unfolding_all rfl) S₁.hc ?_
    repeat walk_at "x"
    refine ⟨KP_built, CV_len (.own S₁.hh) (by rw [List.length_map]; omega) ?_⟩
    repeat walk_at "x"
    refine ⟨_, rfl, fun q => ?_, fun q => ?_⟩
    · rw [List.length_map, hlen] at q; simp at q
    clear q
    repeat walk_at "x"
    refine EV_lc ?_
    repeat walk_at "x"
    refine EV_b B g_range b_range ?_
    repeat walk_at "x"
    refine ⟨KP_type, CV_range2 ?_⟩
    refine LC_pure (List.range (r'.length - 1)) (fun i => .int (1 + (i : Nat) * 1)) (fun _ => false) (fun _ => V.none) (ok := fun _ => True)
      (seq_rng (by exact hA'.handled) (small_one (by omega) (by omega) (by rw [List.length_cons]; omega) (by rw [List.length_cons]; omega)) (by rw [rangeSize_one, List.length_cons]; split <;> omega)) trivial (by rw [List.length_range]; omega) (fun i hi LC hLC => ?_) fun D' hD' hD0 => ?_
    · rw [List.mem_range] at hi
      have hi1 : 1 + i < r'.length := by omega
      have hr1 : r'[1 + i]? = some r'[1 + i] := List.getElem?_eq_getElem hi1
      have hr2 : r'[par (1 + i)]? = some (r'[par (1 + i)]'(Nat.lt_trans (par_lt (by omega)) hi1)) := List.getElem?_eq_getElem _
      have hlt := hheap' (1 + i) (by omega) hi1
      generalize r'[1 + i] = u at *
      generalize r'[par (1 + i)]'(Nat.lt_trans (par_lt (by omega)) hi1) = v at *
      repeat walk_at "x"
      refine EV_cell (c := L + 1) (by with_unfolding_all rfl) S₁.hc ?_
      repeat walk_at "x"
      have hszp : (r'.map pv).length ≤ sizeLine := by rw [List.length_map]; omega
      rw [show (1 + (i : Int) * 1) = ((1 + i : Nat) : Int) from by omega]
      refine sub_list (.own S₁.hh) (by omega) (pv_get hr1) hszp ?_
      repeat walk_at "x"
      refine EV_cell (c := L + 1) (by with_unfolding_all rfl) S₁.hc ?_
      repeat walk_at "x"
      refine O2_div (by decide) (by decide) ?_
      rw [show (((1 + i : Nat) : Int) - 1).fdiv 2 = ((par (1 + i) : Nat) : Int) from by unfold par; rw [Int.fdiv_eq_ediv_of_nonneg _ (by decide)]; omega]
      refine sub_list (.own S₁.hh) (by omega) (pv_get hr2) hszp ?_
      repeat walk_at "x"
      refine O2_ltp hA'.line ?_
      refine ⟨_, rfl, fun h3 => ?_, fun h3 => ?_⟩
      · rw [show plt u v = true from h3] at hlt; cases hlt
      · exact ⟨rfl, rfl, fun h => (by cases h)⟩
    have nl : ((List.range (r'.length - 1)).filter fun _ => false).map (fun _ => V.none) = [] := by simp
    rw [nl]
    repeat walk_at "x"
    refine EV_list ?_
    repeat walk_at "x"
    refine ⟨by decide, fun E hE => ?_⟩
    have hDE : D' ≠ E := fun e => by rw [← e, CH.set_same] at hE; cases hE
    have S₂ : LS H (((H'.set h (.list (r'.map pv))).set D' (.list [])).set E (.list [])) (L + 1) d h D r' := S₁.more fun b hb => by
      have : (H'.set h (.list (r'.map pv))) E = none := by rw [CH.set_ne (Ne.symm hDE)] at hE; exact hE
      rw [CH.set_ne (ne_out hb this), CH.set_ne (ne_out hb hD')]
    generalize (H'.set h (.list (r'.map pv))) = H₁ at *
    refine O2_ned (.list (.own (by rw [CH.set_ne hDE, CH.set_same])) .nil) (.list (.own CH.set_same) .nil) (by decide) (by decide) (by have := hA'.units; omega) fun b hb => ?_
    have hbf : b = false := by
      cases b with
      | false => rfl
      | true => exact absurd rfl (hb.mp rfl)
    subst hbf
    generalize ((H₁.set D' (.list [])).set E (.list [])) = H₂ at *
    refine ⟨_, rfl, fun q => (by cases q), fun _ => ?_⟩
    repeat walk_at "x"
    walk_at "xi"
    obtain ⟨ep, hdd⟩ := S₂.hd
    refine O2_notin_dict B hdd ?_
    have Ip : DI W D (a :: r') := I.perm (hperm.cons a)
    have hmin : ∀ y ∈ a :: r', plt y a = false := fun y hy => heap_root plt_ok hheap y (by
      rcases List.mem_cons.mp hy with e | e
      · exact e ▸ List.mem_cons_self
      · exact List.mem_cons_of_mem _ (hperm.mem_iff.mp e))
    have einside : ((a :: r).length : Int) - 1 = (r'.length : Nat) := by rw [List.length_cons, hlen]; omega
    rw [einside]
    by_cases hin : a.2 ∈ D.map (·.1)
    · rw [lookup_yes (by rw [dv_keys]; exact hin)]
      refine ⟨_, rfl, fun q => (by cases q), fun _ => ?_⟩
      repeat walk_at "x"
      refine ⟨_, _, ?_, .cons rfl (.cons rfl (.cons rfl .nil)), D, r', rfl, S₂, hheap', Ip.old hin, rfl, ?_⟩
      · rw [List.length_cons, hlen]; omega
      · rw [List.length_cons] at hk; rw [hlen]; omega
    · rw [lookup_no (by rw [dv_keys]; exact hin)]
      refine ⟨_, rfl, fun _ => ?_, fun q => (by cases q)⟩
      have In := Ip.new ok hmin hin
      have hD7 := In.size ok
      have hDl : (D.map dv).length ≤ sizeLine := by rw [List.length_map]; simp at hD7; omega
      repeat walk_at "x"
      refine set_dict hdd hDl fun ep' => ?_
      rw [putI_new (by rw [dv_keys]; exact hin)]
      have S₃ : LS H (H₂.set d (.dict ((D ++ [(a.2, a.1)]).map dv) ep')) (L + 1) d h (D ++ [(a.2, a.1)]) r' := S₂.setD
      rw [List.map_append] at S₃
      refine EX_cons (st := .For _ _ _ _ _) (ES_for' ?_)
      repeat walk_at "x"
      generalize hDn : D ++ [(a.2, a.1)] = Dn at *
      have hmem : (a.2, a.1) ∈ Dn := by rw [← hDn]; simp
      refine ⟨W.map wv, (fun H' => H' wl = some (.list (W.map wv))), [("inside", .int (r'.length : Nat)), ("place", .int a.2), ("length", .int a.1), ("lengths", .ref d), ("ways", .ref wl)], LenJ W H (L + 1) d h wl Dn r' a,
        seq_own hA'.handled ((S₃.keep wl hw0).trans hw), .cons rfl (.cons rfl (.cons rfl (.cons rfl (.cons rfl .nil)))), ⟨r', rfl, S₃, hheap', In, Nat.le_refl _⟩, ?_⟩
      rintro i m' H' ⟨hp', rfl, S', hheap2, I', hpl⟩
      have hwl := (S'.keep wl hw0).trans hw
      refine ⟨hwl, fun y hy => ?_, fun hi => ?_⟩
      · obtain ⟨w, hwi, rfl⟩ := ways_get hy
        obtain ⟨hil, hwe⟩ := List.getElem?_eq_some_iff.mp hwi
        have hdrop : W.drop i = w :: W.drop (i + 1) := by rw [List.drop_eq_getElem_cons hil, hwe]
        rw [hdrop] at I'
        obtain ⟨ep2, hdd2⟩ := S'.hd
        refine ASG_tuple hA'.handled rfl ?_
        repeat walk_at "x"
        walk_at "xi"
        refine ⟨_, rfl, fun q1 => ?_, fun q1 => ?_⟩
        · have q1 : w.1 = a.2 := by simpa using q1
          repeat walk_at "x"
          refine O2_notin_dict B hdd2 ?_
          by_cases hin2 : w.2.1 ∈ Dn.map (·.1)
          · rw [lookup_yes (by rw [dv_keys]; exact hin2)]
            refine ⟨_, rfl, fun q => (by cases q), fun _ => ?_⟩
            repeat walk_at "x"
            exact ⟨_, .cons rfl (.cons rfl (.cons rfl (.cons rfl (.cons rfl .nil)))), hp', rfl, S', hheap2, I'.skip (.inr hin2), by omega⟩
          · rw [lookup_no (by rw [dv_keys]; exact hin2)]
            refine ⟨_, rfl, fun _ => ?_, fun q => (by cases q)⟩
            repeat walk_at "x"
            refine EV_g B g_heappush ?_
            repeat walk_at "x"
            refine EV_cell (c := L + 1) (by with_unfolding_all rfl) S'.hc ?_
            repeat walk_at "x"
            refine ⟨by show 2 ≤ sizeLine; decide, ?_⟩
            repeat walk_at "x"
            refine ⟨KP_K B (by with_unfolding_all rfl), CV_of ((spec_push (x := (a.1 + w.2.2, w.2.1)) (by exact B) (n := n + 1) hA' S'.hh (by have : 20000 < sizeLine := (by decide); omega) hheap2).mono ?_)⟩
            rintro v H₃ ⟨rfl, hp3, rfl, hperm3, hheap3⟩
            repeat walk_at "x"
            have hl3 : ((hp3.length : Nat) : Int) = (hp'.length : Nat) + 1 := by rw [hperm3.length_eq, List.length_cons]; omega
            refine ⟨_, .cons (by rw [hl3]; rfl) (.cons rfl (.cons rfl (.cons rfl (.cons rfl .nil)))), hp3, rfl, S'.setH, hheap3, ?_, by omega⟩
            exact (I'.push (List.mem_of_getElem? hwi) q1 hmem).perm hperm3
        · have q1 : w.1 ≠ a.2 := by simpa using q1
          refine ⟨fun q => (by cases q), fun _ => ?_⟩
          repeat walk_at "x"
          exact ⟨_, .cons rfl (.cons rfl (.cons rfl (.cons rfl (.cons rfl .nil)))), hp', rfl, S', hheap2, I'.skip (.inl q1), by omega⟩
      · rw [List.length_map] at hi
        subst hi
        rw [List.drop_length] at I'
        repeat walk_at "x"
        have hDl2 : Dn.length = D.length + 1 := by rw [← hDn]; simp
        have hD7' : D.length + 1 ≤ 7 := by rw [← hDl2]; exact hD7
        obtain ⟨q, hq⟩ : ∃ q, 7 - D.length = q + 1 := ⟨7 - D.length - 1, by omega⟩
        have hq2 : 7 - Dn.length = q := by omega
        rw [List.length_cons, hq, Nat.succ_mul] at hk
        refine ⟨_, _, ?_, .cons rfl (.cons rfl (.cons rfl .nil)), Dn, hp', rfl, S', hheap2, I'.done, rfl, ?_⟩
        · rw [hq2, hq, List.length_cons, Nat.succ_mul]; omega
        · rw [hq2]; omega
  · repeat walk_at "x"
    have e : hp = [] := by
      cases hp with
      | nil => rfl
      | cons a r => simp at q
    subst e
    obtain ⟨ep, hdd⟩ := S.hd
    exact ⟨d, D, ep, rfl, hd, hdd, I.fin ok, S.keep⟩
end
end
section
structure Mid (T : TS) (near : Int → List Int) (k : Int) (n : Nat) : Prop where
  np : ∀ x ∈ T.keys, T.np x = (near x).length + (if x = k then n else 0)
  sc : ∀ p ∈ T.keys, ∀ x, (T.sc p).count x = (near x).count p
  sub : ∀ x, ∀ p ∈ near x, p ∈ T.keys
  out : ∀ x, x ∉ T.keys → near x = []
  nodup : T.keys.Nodup
  pass : T.pass = 0
  fin : T.fin = 0
  ready : T.ready = none
noncomputable abbrev Built (T : TS) (near : Int → List Int) : Prop := ∀ k, Mid T near k 0
theorem Mid.built {T : TS} {near : Int → List Int} {k : Int} (M : Mid T near k 0) : Built T near := fun k' => ⟨fun x hx => by have := M.np x hx; simpa using this, M.sc, M.sub, M.out, M.nodup, M.pass, M.fin, M.ready⟩
theorem Built.new : Built TS.new (fun _ => []) := fun k => ⟨(by intro _ h; cases h), (by intro _ h; cases h), (by intro _ _ h; cases h), fun _ _ => rfl, .nil, rfl, rfl, rfl⟩
theorem Mid.touch {T : TS} {near : Int → List Int} {k : Int} {n : Nat} (M : Mid T near k n) (hk : n ≠ 0 → k ∈ T.keys) (p : Int) : Mid (T.touch p) near k n := by
  unfold TS.touch
  by_cases h : p ∈ T.keys
  · rw [if_pos h]; exact M
  · rw [if_neg h]
    have hne : ∀ x ∈ T.keys, x ≠ p := fun x hx e => h (e ▸ hx)
    refine ⟨fun x hx => ?_, fun q hq x => ?_, fun x q hq => List.mem_append_left _ (M.sub x q hq), fun x hx => M.out x fun q => hx (List.mem_append_left _ q), ?_, M.pass, M.fin, M.ready⟩
    · show upd T.np p 0 x = _
      rcases List.mem_append.mp hx with hx | hx
      · rw [upd_ne (hne x hx)]; exact M.np x hx
      · rw [List.mem_singleton.mp hx, upd_same, M.out p h]
        by_cases e : p = k
        · by_cases e0 : n = 0
          · rw [e0]; simp
          · exact absurd (hk e0) (e ▸ h)
        · rw [if_neg e]; rfl
    · show (upd T.sc p [] q).count x = _
      rcases List.mem_append.mp hq with hq | hq
      · rw [upd_ne (hne q hq)]; exact M.sc q hq x
      · rw [List.mem_singleton.mp hq, upd_same]
        exact (List.count_eq_zero.mpr fun hp => h (M.sub x p hp)).symm
    · rw [List.nodup_append]
      exact ⟨M.nodup, by simp, fun x hx y hy => by rw [List.mem_singleton.mp hy]; exact hne x hx⟩
theorem touch_keep {T : TS} {p x : Int} (h : x ∈ T.keys) : x ∈ (T.touch p).keys := by
  unfold TS.touch; split
  · exact h
  · exact List.mem_append_left _ h
theorem touch_own {T : TS} {p : Int} : p ∈ (T.touch p).keys := by
  unfold TS.touch; split
  · assumption
  · simp
theorem Mid.link {T : TS} {near : Int → List Int} {k p : Int} {n : Nat} (M : Mid T near k (n + 1)) (hk : k ∈ T.keys) (hp : p ∈ T.keys) : Mid (T.link p k) (upd near k (near k ++ [p])) k n := by
  refine ⟨fun x hx => ?_, fun q hq x => ?_, fun x q hq => ?_, fun x hx => ?_, M.nodup, M.pass, M.fin, M.ready⟩
  · show T.np x = _
    rw [M.np x hx]
    by_cases e : x = k
    · subst e; rw [upd_same]; simp; omega
    · rw [upd_ne e, if_neg e, if_neg e]
  · show (upd T.sc p (T.sc p ++ [k]) q).count x = _
    by_cases e : q = p
    · subst e
      rw [upd_same, List.count_append, M.sc q hq x]
      by_cases e2 : x = k
      · subst e2; rw [upd_same, List.count_append]; simp
      · rw [upd_ne e2, List.count_singleton]
        simp; exact fun h => e2 h.symm
    · rw [upd_ne e, M.sc q hq x]
      by_cases e2 : x = k
      · subst e2; rw [upd_same, List.count_append, List.count_singleton]; simp; exact fun h => e h.symm
      · rw [upd_ne e2]
  · by_cases e2 : x = k
    · subst e2; rw [upd_same] at hq
      rcases List.mem_append.mp hq with hq | hq
      · exact M.sub x q hq
      · rw [List.mem_singleton.mp hq]; exact hp
    · rw [upd_ne e2] at hq; exact M.sub x q hq
  · have e2 : x ≠ k := fun e => hx (e ▸ hk)
    rw [upd_ne e2]; exact M.out x hx
theorem upd_upd {α : Type} {f : Int → α} {k : Int} {u v : α} : upd (upd f k u) k v = upd f k v := by
  funext x; unfold upd; split <;> rfl
theorem upd_self {α : Type} {f : Int → α} {k : Int} : upd f k (f k) = f := by
  funext x; unfold upd; split
  · rename_i h; rw [h]
  · rfl
theorem Mid.fold {k : Int} : ∀ {ps : List Int} {T : TS} {near : Int → List Int}, Mid T near k ps.length → k ∈ T.keys → Mid (ps.foldl (fun T p => (T.touch p).link p k) T) (upd near k (near k ++ ps)) k 0 ∧ k ∈ (ps.foldl (fun T p => (T.touch p).link p k) T).keys ∧ ∀ x ∈ T.keys, x ∈ (ps.foldl (fun T p => (T.touch p).link p k) T).keys
  | [], T, near, M, hk => by rw [List.append_nil, upd_self]; exact ⟨M, hk, fun x h => h⟩
  | p :: ps, T, near, M, hk => by
    have M1 := (M.touch (fun _ => hk) p).link (touch_keep hk) touch_own
    have := Mid.fold (ps := ps) M1 (touch_keep hk)
    rw [upd_upd, upd_same, List.append_assoc] at this
    exact ⟨this.1, this.2.1, fun x hx => this.2.2 x (touch_keep hx)⟩
theorem Built.add {T : TS} {near : Int → List Int} (M : Built T near) (k : Int) (ps : List Int) : Built (T.add k ps) (upd near k (near k ++ ps)) ∧ k ∈ (T.add k ps).keys ∧ ∀ x ∈ T.keys, x ∈ (T.add k ps).keys := by
  have M1 := (M k).touch (fun h => absurd rfl h) k
  have hk : k ∈ (T.touch k).keys := touch_own
  have M2 : Mid ((T.touch k).setNp k ((T.touch k).np k + ps.length)) near k ps.length := by
    refine ⟨fun x hx => ?_, M1.sc, M1.sub, M1.out, M1.nodup, M1.pass, M1.fin, M1.ready⟩
    show upd _ k _ x = _
    by_cases e : x = k
    · subst e; rw [upd_same, M1.np x hx]; simp
    · rw [upd_ne e, M1.np x hx, if_neg e, if_neg e]
  have := Mid.fold (ps := ps) M2 hk
  exact ⟨this.1.built, this.2.1, fun x hx => this.2.2 x (touch_keep hx)⟩
structure Run (T : TS) (near : Int → List Int) (dn out ready : List Int) : Prop where
  nodup : T.keys.Nodup
  sc : ∀ p ∈ T.keys, ∀ x, (T.sc p).count x = (near x).count p
  sub : ∀ x, ∀ p ∈ near x, p ∈ T.keys
  ink : ∀ x, x ∉ T.keys → near x = []
  rdy : T.ready = some ready
  np : ∀ x ∈ T.keys, x ∉ dn → x ∉ out → T.np x = ((near x).countP fun p => decide (p ∉ dn))
  npo : ∀ x ∈ out, T.np x = -1
  rmem : ∀ x, x ∈ ready ↔ x ∈ T.keys ∧ x ∉ dn ∧ x ∉ out ∧ ∀ p ∈ near x, p ∈ dn
  rnd : ready.Nodup
  ond : out.Nodup
  dnd : dn.Nodup
  oks : ∀ x ∈ out, x ∈ T.keys
  dks : ∀ x ∈ dn, x ∈ T.keys
  disj : ∀ x ∈ out, x ∉ dn
  odep : ∀ x ∈ out, ∀ p ∈ near x, p ∈ dn
  ddep : ∀ x ∈ dn, ∀ p ∈ near x, p ∈ dn
  pass : T.pass = dn.length + out.length
  fin : T.fin = dn.length
theorem Run.start {T : TS} {near : Int → List Int} (B : Built T near) : Run T.prep near [] [] (T.keys.filter fun k => T.np k == 0) := by
  have M := B 0
  have hnp : ∀ x ∈ T.keys, T.np x = (near x).length := fun x hx => by have := M.np x hx; simpa using this
  refine ⟨M.nodup, M.sc, M.sub, M.out, rfl, fun x hx _ _ => ?_, (by intro _ h; cases h), fun x => ?_, M.nodup.filter _, .nil, .nil, (by intro _ h; cases h), (by intro _ h; cases h), (by intro _ h; cases h), (by intro _ h; cases h), (by intro _ h; cases h), M.pass, M.fin⟩
  · show T.np x = _
    rw [hnp x hx]; simp
  · rw [List.mem_filter]
    constructor
    · rintro ⟨h1, h2⟩
      refine ⟨h1, by simp, by simp, fun p hp => ?_⟩
      rw [hnp x h1] at h2
      have : near x = [] := by simpa using h2
      rw [this] at hp; cases hp
    · rintro ⟨h1, _, _, h4⟩
      refine ⟨h1, ?_⟩
      have : near x = [] := List.eq_nil_iff_forall_not_mem.mpr fun p hp => by cases h4 p hp
      rw [hnp x h1, this]; rfl
theorem out_np {ks : List Int} : ∀ {T : TS} {x : Int}, (T.out ks).np x = if x ∈ ks then -1 else T.np x := by
  induction ks with
  | nil => intro T x; simp [TS.out]
  | cons k r ih =>
    intro T x
    show ((T.setNp k (-1)).out r).np x = _
    rw [ih]
    by_cases h : x ∈ r
    · rw [if_pos h, if_pos (List.mem_cons_of_mem _ h)]
    · rw [if_neg h]
      show upd T.np k (-1) x = _
      by_cases e : x = k
      · subst e; rw [upd_same, if_pos List.mem_cons_self]
      · rw [upd_ne e, if_neg (by simp [e, h])]
section
variable {T : TS} {near : Int → List Int} {dn out ready : List Int}
theorem Run.get (R : Run T near dn out ready) : Run (T.getReady ready) near dn (out ++ ready) [] := by
  have e := @TS.out_eq ready T
  have hnp : ∀ x, (T.getReady ready).np x = if x ∈ ready then -1 else T.np x := fun x => out_np
  have hk : (T.getReady ready).keys = T.keys := e.1
  have hs : (T.getReady ready).sc = T.sc := e.2.2.2.2
  refine ⟨by rw [hk]; exact R.nodup, by rw [hk, hs]; exact R.sc, by rw [hk]; exact R.sub, by rw [hk]; exact R.ink, rfl, fun x hx h1 h2 => ?_, fun x hx => ?_, fun x => ?_, .nil, ?_, R.dnd, fun x hx => ?_, by rw [hk]; exact R.dks, fun x hx => ?_, fun x hx => ?_, R.ddep, ?_, ?_⟩
  · rw [hk] at hx
    rw [List.mem_append, not_or] at h2
    rw [hnp, if_neg h2.2]; exact R.np x hx h1 h2.1
  · rw [hnp]
    by_cases h : x ∈ ready
    · rw [if_pos h]
    · rw [if_neg h]; exact R.npo x ((List.mem_append.mp hx).resolve_right h)
  · rw [hk]
    refine ⟨fun h => (by cases h), fun ⟨h1, h2, h3, h4⟩ => ?_⟩
    rw [List.mem_append, not_or] at h3
    exact absurd ((R.rmem x).mpr ⟨h1, h2, h3.1, h4⟩) h3.2
  · rw [List.nodup_append]
    exact ⟨R.ond, R.rnd, fun x hx y hy e => ((R.rmem y).mp hy).2.2.1 (e ▸ hx)⟩
  · rw [hk]
    rcases List.mem_append.mp hx with h | h
    · exact R.oks x h
    · exact ((R.rmem x).mp h).1
  · rcases List.mem_append.mp hx with h | h
    · exact R.disj x h
    · exact ((R.rmem x).mp h).2.1
  · rcases List.mem_append.mp hx with h | h
    · exact R.odep x h
    · exact ((R.rmem x).mp h).2.2.2
  · show T.pass + _ = _
    rw [R.pass, List.length_append]; omega
  · show (T.out ready).fin = _
    rw [e.2.2.2.1]; exact R.fin
theorem relN : ∀ {l : List Int} {T : TS} {r : List Int}, T.ready = some r → (∀ x ∈ l, (l.count x : Int) ≤ T.np x) → (∀ x ∈ l, x ∉ r) → r.Nodup →
    ∃ r', (l.foldl TS.rel T).ready = some r' ∧ (∀ x, x ∈ r' ↔ x ∈ r ∨ (x ∈ l ∧ T.np x = l.count x)) ∧ r'.Nodup ∧ ∀ x, (l.foldl TS.rel T).np x = T.np x - l.count x
  | [], T, r, h, _, _, hn => ⟨r, h, fun x => by simp, hn, fun x => by simp⟩
  | y :: t, T, r, h, hc, hd, hn => by
    have hy := hc y List.mem_cons_self
    rw [List.count_cons_self] at hy
    have hnp : ∀ x, (T.rel y).np x = if x = y then T.np y - 1 else T.np x := fun x => by
      show upd T.np y _ x = _; unfold upd; rfl
    have hc' : ∀ x ∈ t, (t.count x : Int) ≤ (T.rel y).np x := fun x hx => by
      rw [hnp]
      by_cases e : x = y
      · subst e; rw [if_pos rfl]; omega
      · rw [if_neg e]; have := hc x (List.mem_cons_of_mem _ hx); rw [List.count_cons_of_ne (fun q => e q.symm)] at this; exact this
    by_cases e0 : T.np y - 1 = 0
    · have hyt : y ∉ t := fun q => by have := List.count_pos_iff.mpr q; omega
      have h1 : (T.rel y).ready = some (r ++ [y]) := by show (if _ then _ else _) = _; rw [if_pos e0, h]; rfl
      obtain ⟨r', a1, a2, a3, a4⟩ := relN (l := t) h1 hc' (fun x hx => by
        rw [List.mem_append, List.mem_singleton, not_or]; exact ⟨hd x (List.mem_cons_of_mem _ hx), fun e => hyt (e ▸ hx)⟩) (by
        rw [List.nodup_append]; exact ⟨hn, by simp, fun x hx z hz e => hd y List.mem_cons_self (by rw [← List.mem_singleton.mp hz, ← e]; exact hx)⟩)
      refine ⟨r', a1, fun x => ?_, a3, fun x => ?_⟩
      · rw [a2, hnp, List.mem_append, List.mem_singleton, List.mem_cons]
        by_cases e : x = y
        · subst e
          rw [List.count_cons_self, List.count_eq_zero.mpr hyt]
          have : T.np x = 1 := by omega
          simp [this]
        · rw [if_neg e, List.count_cons_of_ne (fun q => e q.symm)]; simp [e]
      · show (t.foldl TS.rel (T.rel y)).np x = _
        rw [a4, hnp]
        by_cases e : x = y
        · subst e; rw [if_pos rfl, List.count_cons_self]; omega
        · rw [if_neg e, List.count_cons_of_ne (fun q => e q.symm)]
    · have h1 : (T.rel y).ready = some r := by show (if _ then _ else _) = _; rw [if_neg e0, h]
      obtain ⟨r', a1, a2, a3, a4⟩ := relN (l := t) h1 hc' (fun x hx => hd x (List.mem_cons_of_mem _ hx)) hn
      refine ⟨r', a1, fun x => ?_, a3, fun x => ?_⟩
      · rw [a2, hnp, List.mem_cons]
        by_cases e : x = y
        · subst e
          rw [if_pos rfl, List.count_cons_self]
          have hxr := hd x List.mem_cons_self
          simp only [hxr, false_or, true_or, true_and]
          constructor
          · rintro ⟨_, h⟩; omega
          · intro h
            have hp : 0 < t.count x := by omega
            exact ⟨List.count_pos_iff.mp hp, by omega⟩
        · rw [if_neg e, List.count_cons_of_ne (fun q => e q.symm)]; simp [e]
      · show (t.foldl TS.rel (T.rel y)).np x = _
        rw [a4, hnp]
        by_cases e : x = y
        · subst e; rw [if_pos rfl, List.count_cons_self]; omega
        · rw [if_neg e, List.count_cons_of_ne (fun q => e q.symm)]
theorem countP_out {dn : List Int} {k : Int} (hk : k ∉ dn) : ∀ {l : List Int}, (l.countP fun p => decide (p ∉ dn)) = (l.countP fun p => decide (p ∉ k :: dn)) + l.count k
  | [] => rfl
  | a :: l => by
    have ih := countP_out hk (l := l)
    by_cases e : a = k
    · subst e; rw [List.countP_cons_of_pos (by simp [hk]), List.countP_cons_of_neg (by simp), List.count_cons_self]; omega
    · by_cases h : a ∈ dn
      · rw [List.countP_cons_of_neg (by simp [h]), List.countP_cons_of_neg (by simp [h]), List.count_cons_of_ne e]; exact ih
      · rw [List.countP_cons_of_pos (by simp [h]), List.countP_cons_of_pos (by simp [h, e]), List.count_cons_of_ne e]; omega
theorem Run.done (R : Run T near dn out ready) {k : Int} (hk : k ∈ out) : ∃ ready', Run (T.done1 k) near (k :: dn) (out.erase k) ready' := by
  have hkd := R.disj k hk
  have hkk := R.oks k hk
  have scmem : ∀ x, x ∈ T.sc k ↔ k ∈ near x := fun x => by
    have := R.sc k hkk x
    rw [← List.count_pos_iff, this, List.count_pos_iff]
  have hx1 : ∀ x ∈ T.sc k, x ∈ T.keys ∧ x ∉ dn ∧ x ∉ out ∧ x ≠ k := fun x hx => by
    have h := (scmem x).mp hx
    refine ⟨?_, fun q => hkd (R.ddep x q k h), fun q => hkd (R.odep x q k h), fun q => hkd (R.odep k hk k (q ▸ h))⟩
    apply Classical.byContradiction
    intro q
    rw [R.ink x q] at h; cases h
  have e := @done1_eq T k
  have hnp0 : ∀ x, x ≠ k → (T.setNp k (-2)).np x = T.np x := fun x hx => upd_ne hx
  obtain ⟨r', a1, a2, a3, a4⟩ := relN (l := T.sc k) (T := T.setNp k (-2)) (r := ready) R.rdy (fun x hx => by
    obtain ⟨h1, h2, h3, h4⟩ := hx1 x hx
    rw [hnp0 x h4, R.np x h1 h2 h3, R.sc k hkk x, countP_out hkd]; omega) (fun x hx q => hkd (((R.rmem x).mp q).2.2.2 k ((scmem x).mp hx))) R.rnd
  have hk' : (T.done1 k).keys = T.keys := e.1
  have hs : (T.done1 k).sc = T.sc := e.2.2.2
  have hnp : ∀ x, (T.done1 k).np x = (T.setNp k (-2)).np x - (T.sc k).count x := a4
  have hmem : ∀ x, x ∈ out.erase k → x ∈ out ∧ x ≠ k := fun x hx => ⟨List.mem_of_mem_erase hx, fun e => by subst e; exact (List.Nodup.not_mem_erase R.ond) hx⟩
  refine ⟨r', by rw [hk']; exact R.nodup, by rw [hk', hs]; exact R.sc, by rw [hk']; exact R.sub, by rw [hk']; exact R.ink, a1, fun x hx h1 h2 => ?_, fun x hx => ?_, fun x => ?_, a3, R.ond.erase k, ?_, fun x hx => ?_, fun x hx => ?_, fun x hx => ?_, fun x hx p hp => ?_, fun x hx p hp => ?_, ?_, ?_⟩
  · rw [hk'] at hx
    rw [List.mem_cons, not_or] at h1
    have h2' : x ∉ out := fun q => h2 ((List.mem_erase_of_ne h1.1).mpr q)
    rw [hnp, hnp0 x h1.1, R.np x hx h1.2 h2', R.sc k hkk x, countP_out hkd]; omega
  · obtain ⟨h1, h2⟩ := hmem x hx
    rw [hnp, hnp0 x h2, R.npo x h1, List.count_eq_zero.mpr (fun q => (hx1 x q).2.2.1 h1)]; rfl
  · rw [a2, hk', R.rmem]
    constructor
    · rintro (⟨h1, h2, h3, h4⟩ | ⟨h1, h2⟩)
      · have hxk : x ≠ k := fun q => h3 (q ▸ hk)
        exact ⟨h1, by rw [List.mem_cons, not_or]; exact ⟨hxk, h2⟩, fun q => h3 (List.mem_of_mem_erase q), fun p hp => List.mem_cons_of_mem _ (h4 p hp)⟩
      · obtain ⟨b1, b2, b3, b4⟩ := hx1 x h1
        refine ⟨b1, by rw [List.mem_cons, not_or]; exact ⟨b4, b2⟩, fun q => b3 (List.mem_of_mem_erase q), fun p hp => ?_⟩
        rw [hnp0 x b4, R.np x b1 b2 b3, R.sc k hkk x, countP_out hkd] at h2
        have h0 : (near x).countP (fun p => decide (p ∉ k :: dn)) = 0 := by omega
        have := List.countP_eq_zero.mp h0 p hp
        exact Classical.byContradiction fun q => this (decide_eq_true q)
    · rintro ⟨h1, h2, h3, h4⟩
      rw [List.mem_cons, not_or] at h2
      have h3' : x ∉ out := fun q => h3 ((List.mem_erase_of_ne h2.1).mpr q)
      by_cases q : k ∈ near x
      · refine .inr ⟨(scmem x).mpr q, ?_⟩
        rw [hnp0 x h2.1, R.np x h1 h2.2 h3', R.sc k hkk x, countP_out hkd]
        have h0 : (near x).countP (fun p => decide (p ∉ k :: dn)) = 0 := List.countP_eq_zero.mpr fun p hp q => (of_decide_eq_true q) (h4 p hp)
        omega
      · refine .inl ⟨h1, h2.2, h3', fun p hp => ?_⟩
        rcases List.mem_cons.mp (h4 p hp) with h | h
        · exact absurd (h ▸ hp) q
        · exact h
  · rw [List.nodup_cons]; exact ⟨hkd, R.dnd⟩
  · rw [hk']; exact R.oks x (hmem x hx).1
  · rw [hk']
    rcases List.mem_cons.mp hx with h | h
    · exact h ▸ hkk
    · exact R.dks x h
  · rw [List.mem_cons, not_or]; exact ⟨(hmem x hx).2, R.disj x (hmem x hx).1⟩
  · exact List.mem_cons_of_mem _ (R.odep x (hmem x hx).1 p hp)
  · rcases List.mem_cons.mp hx with h | h
    · subst h; exact List.mem_cons_of_mem _ (R.odep x hk p hp)
    · exact List.mem_cons_of_mem _ (R.ddep x h p hp)
  · rw [e.2.1, R.pass, List.length_cons, List.length_erase_of_mem hk]
    have := List.length_pos_of_mem hk; omega
  · rw [e.2.2.1, R.fin, List.length_cons]; omega
theorem Run.all (R : Run T near dn [] []) {rk : Int → Nat} (hrk : ∀ x ∈ T.keys, ∀ p ∈ near x, rk p < rk x) : ∀ x ∈ T.keys, x ∈ dn := by
  have : ∀ n x, rk x < n → x ∈ T.keys → x ∈ dn := by
    intro n
    induction n with
    | zero => intro x h; omega
    | succ n ih =>
      intro x h hx
      apply Classical.byContradiction
      intro q
      have := (R.rmem x).mpr ⟨hx, q, by simp, fun p hp => ih p (by have := hrk x hx p hp; omega) (R.sub x p hp)⟩
      cases this
  exact fun x hx => this (rk x + 1) x (Nat.lt_succ_self _) hx
end
end
section
noncomputable def tight (D : List (Int × Int)) (w : Wy) : Bool := match D.lookup w.1 with
  | none => false
  | some n => D.lookup w.2.1 == some (n + w.2.2)
noncomputable def nearStep (D : List (Int × Int)) (nr : Int → List Int) (w : Wy) : Int → List Int := if tight D w then upd nr w.2.1 (nr w.2.1 ++ [w.1]) else nr
noncomputable def nearOf (D : List (Int × Int)) (W : List Wy) : Int → List Int := W.foldl (nearStep D) fun _ => []
theorem near_len {D : List (Int × Int)} {W : List Wy} {nr : Int → List Int} {n : Nat} (h : ∀ k, (nr k).length ≤ n) : ∀ k, (W.foldl (nearStep D) nr k).length ≤ n + W.length := by
  induction W generalizing nr n with
  | nil => exact h
  | cons w r ih =>
    intro k
    have := ih (nr := nearStep D nr w) (n := n + 1) (fun k => by
      unfold nearStep; split
      · unfold upd; split
        · have := h w.2.1; simp; omega
        · exact Nat.le_succ_of_le (h k)
      · exact Nat.le_succ_of_le (h k)) k
    rw [List.foldl_cons, List.length_cons]; omega
theorem near_mem {D : List (Int × Int)} {W : List Wy} {b a : Int} : a ∈ nearOf D W b ↔ ∃ w ∈ W, tight D w = true ∧ w.2.1 = b ∧ w.1 = a := by
  have gen : ∀ (W : List Wy) (nr : Int → List Int), a ∈ W.foldl (nearStep D) nr b ↔ a ∈ nr b ∨ ∃ w ∈ W, tight D w = true ∧ w.2.1 = b ∧ w.1 = a := by
    intro W
    induction W with
    | nil => intro nr; simp
    | cons w r ih =>
      intro nr
      rw [List.foldl_cons, ih]
      have : a ∈ nearStep D nr w b ↔ a ∈ nr b ∨ (tight D w = true ∧ w.2.1 = b ∧ w.1 = a) := by
        unfold nearStep
        by_cases h : tight D w = true
        · rw [if_pos h]; unfold upd
          by_cases e : b = w.2.1
          · rw [if_pos e, List.mem_append, List.mem_singleton, e]
            exact ⟨fun q => q.imp id fun q => ⟨h, rfl, q.symm⟩, fun q => q.imp id fun q => q.2.2.symm⟩
          · rw [if_neg e]
            exact ⟨.inl, fun q => q.elim id fun q => absurd q.2.1.symm e⟩
        · rw [if_neg h]; exact ⟨.inl, fun q => q.elim id fun q => absurd q.1 h⟩
      rw [this]
      constructor
      · rintro ((q | q) | ⟨v, hv, q⟩)
        · exact .inl q
        · exact .inr ⟨w, List.mem_cons_self, q⟩
        · exact .inr ⟨v, List.mem_cons_of_mem _ hv, q⟩
      · rintro (q | ⟨v, hv, q⟩)
        · exact .inl (.inl q)
        · rcases List.mem_cons.mp hv with e | e
          · exact .inl (.inr (e ▸ q))
          · exact .inr ⟨v, e, q⟩
  have := gen W fun _ => []
  unfold nearOf
  rw [this]
  exact ⟨fun q => q.elim (fun h => by cases h) id, .inr⟩
theorem TS.Le.add {T : TS} {n : Nat} (h : T.Le n) (k : Int) (ps : List Int) : (T.add k ps).Le (n + 1 + 2 * ps.length) := add_le (k := k) (ps := ps) ((h.touch k).setNp k _)
noncomputable def addAll (near : Int → List Int) (i : Nat) : TS := (List.range i).foldl (fun T k => T.add (k : Nat) (near (k : Nat))) TS.new
theorem addAll_succ {near : Int → List Int} {i : Nat} : addAll near (i + 1) = (addAll near i).add (i : Nat) (near (i : Nat)) := by
  unfold addAll; rw [List.range_succ, List.foldl_append]; rfl
theorem addAll_built {near : Int → List Int} : ∀ i : Nat, Built (addAll near i) (fun x => if 0 ≤ x ∧ x < i then near x else []) ∧ ∀ k : Nat, k < i → (k : Int) ∈ (addAll near i).keys
  | 0 => ⟨by
    have : (fun x : Int => if 0 ≤ x ∧ x < (0 : Nat) then near x else []) = fun _ => [] := by funext x; rw [if_neg (by omega)]
    rw [this]; exact Built.new, fun k h => absurd h (Nat.not_lt_zero k)⟩
  | i + 1 => by
    obtain ⟨h, hk⟩ := addAll_built (near := near) i
    obtain ⟨h1, h2, h3⟩ := h.add (i : Nat) (near (i : Nat))
    rw [addAll_succ]
    refine ⟨?_, fun k hk' => ?_⟩
    · have : (fun x : Int => if 0 ≤ x ∧ x < (i + 1 : Nat) then near x else []) = upd (fun x : Int => if 0 ≤ x ∧ x < (i : Nat) then near x else []) (i : Nat) ((if 0 ≤ ((i : Nat) : Int) ∧ ((i : Nat) : Int) < (i : Nat) then near (i : Nat) else []) ++ near (i : Nat)) := by
        funext x
        unfold upd
        by_cases e : x = (i : Nat)
        · subst e; rw [if_pos rfl, if_pos (by omega), if_neg (by omega)]; rfl
        · rw [if_neg e]
          show _ = if 0 ≤ x ∧ x < (i : Nat) then near x else []
          by_cases q : 0 ≤ x ∧ x < (i : Nat)
          · rw [if_pos q, if_pos (by omega)]
          · rw [if_neg q, if_neg (by omega)]
      rw [this]; exact h1
    · by_cases e : k = i
      · subst e; exact h2
      · exact h3 _ (hk k (by omega))
theorem addAll_le {near : Int → List Int} {M : Nat} (hM : ∀ k, (near k).length ≤ M) : ∀ i, (addAll near i).Le (i * (1 + 2 * M))
  | 0 => ⟨by rw [Nat.zero_mul]; exact Nat.le_refl 0, fun _ => Nat.zero_le _⟩
  | i + 1 => by
    rw [addAll_succ]
    refine ((addAll_le hM i).add _ _).mono ?_
    have := hM (i : Nat)
    have e : (i + 1) * (1 + 2 * M) = i * (1 + 2 * M) + (1 + 2 * M) := Nat.succ_mul _ _
    rw [e]; omega
theorem Run.doneN {near : Int → List Int} {ns : List Int} : ∀ {T : TS} {dn rest ready : List Int}, Run T near dn (ns ++ rest) ready → (∃ ready', Run (T.doneN ns) near (ns.reverse ++ dn) rest ready') ∧ ∀ i k, ns[i]? = some k → k ∈ T.keys ∧ (T.doneN (ns.take i)).np k = -1 := by
  induction ns with
  | nil => intro T dn rest ready R; exact ⟨⟨ready, R⟩, fun i k h => by simp at h⟩
  | cons a r ih =>
    intro T dn rest ready R
    obtain ⟨ready', R'⟩ := R.done (k := a) List.mem_cons_self
    rw [List.cons_append, List.erase_cons_head] at R'
    obtain ⟨⟨r2, R2⟩, h2⟩ := ih R'
    refine ⟨⟨r2, ?_⟩, fun i k hk => ?_⟩
    · rw [List.reverse_cons, List.append_assoc]; exact R2
    · cases i with
      | zero =>
        obtain rfl : a = k := by simpa using hk
        exact ⟨R.oks _ List.mem_cons_self, R.npo _ List.mem_cons_self⟩
      | succ i =>
        obtain ⟨g1, g2⟩ := h2 i k (by simpa using hk)
        rw [done1_eq.1] at g1
        exact ⟨g1, g2⟩
theorem touch_keys {T : TS} {k x : Int} (h : x ∈ (T.touch k).keys) : x ∈ T.keys ∨ x = k := by
  unfold TS.touch at h; split at h
  · exact .inl h
  · exact (List.mem_append.mp h).imp id List.mem_singleton.mp
theorem fold_keys {k x : Int} : ∀ {ps : List Int} {T : TS}, x ∈ (ps.foldl (fun T p => (T.touch p).link p k) T).keys → x ∈ T.keys ∨ x ∈ ps
  | [], T, h => .inl h
  | p :: ps, T, h => by
    rcases fold_keys (ps := ps) h with h | h
    · rcases touch_keys h with h | h
      · exact .inl h
      · exact .inr (h ▸ List.mem_cons_self)
    · exact .inr (List.mem_cons_of_mem _ h)
theorem addAll_keys {near : Int → List Int} {Q : Int → Prop} (hn : ∀ x, ∀ p ∈ near x, Q p) : ∀ {i : Nat}, (∀ k : Nat, k < i → Q k) → ∀ x ∈ (addAll near i).keys, Q x
  | 0, _, x, h => by cases h
  | i + 1, hq, x, h => by
    rw [addAll_succ] at h
    rcases fold_keys h with h | h
    · have h : x ∈ ((addAll near i).touch (i : Nat)).keys := h
      rcases touch_keys h with h | h
      · exact addAll_keys hn (fun k hk => hq k (by omega)) x h
      · rw [h]; exact hq i (Nat.lt_succ_self i)
    · exact hn _ x h
theorem tight_get {D : List (Int × Int)} {w : Wy} (h : tight D w = true) : ∃ n, D.lookup w.1 = some n ∧ D.lookup w.2.1 = some (n + w.2.2) := by
  unfold tight at h
  cases e : D.lookup w.1 with
  | none => rw [e] at h; cases h
  | some n => rw [e] at h; exact ⟨n, rfl, by simpa using h⟩
noncomputable def rkOf (D : List (Int × Int)) (x : Int) : Int := (D.lookup x).getD 0
theorem near_rk {D : List (Int × Int)} {W : List Wy} (ok : Fine W) {x p : Int} (h : p ∈ nearOf D W x) : rkOf D p < rkOf D x := by
  obtain ⟨w, hw, ht, rfl, rfl⟩ := near_mem.mp h
  obtain ⟨n, h1, h2⟩ := tight_get ht
  have := (ok w hw).2.2
  unfold rkOf; rw [h1, h2]; simp; omega
end
section
theorem dv_look {D : List (Int × Int)} {k : Int} : (D.map dv).lookup k = (D.lookup k).map .int := by
  induction D with
  | nil => rfl
  | cons p r ih =>
    rw [List.map_cons, List.lookup_cons, List.lookup_cons]
    show (match k == p.1 with | true => _ | false => _) = _
    cases k == p.1 <;> simp_all
/-- the list of the lists -/
structure NS (H H' : CH) (nl : Addr) (bs : List Addr) (nr : Int → List Int) : Prop where
  len : bs.length = 7
  nd : bs.Nodup
  top : H' nl = some (.list (bs.map .ref))
  el : ∀ (k : Nat) (hk : k < bs.length), H' bs[k] = some (.list ((nr k).map .int))
  fnl : H nl = none
  fbs : ∀ b ∈ bs, H b = none
  nlb : nl ∉ bs
theorem NS.app {H H' : CH} {nl : Addr} {bs : List Addr} {nr : Int → List Int} (S : NS H H' nl bs nr) {k : Nat} (hk : k < bs.length) (l : List Int) : NS H (H'.set bs[k] (.list (l.map .int))) nl bs (upd nr k l) := by
  refine ⟨S.len, S.nd, ?_, fun i hi => ?_, S.fnl, S.fbs, S.nlb⟩
  · rw [CH.set_ne (fun e => S.nlb (by rw [e]; exact List.getElem_mem hk))]; exact S.top
  · by_cases e : i = k
    · subst e; rw [CH.set_same, upd_same]
    · have : bs[i] ≠ bs[k] := fun q => e ((List.getElem_inj S.nd).mp q)
      rw [CH.set_ne this, upd_ne (by omega)]; exact S.el i hi
section
variable {C : Cx} {A : Around} {m : Loc} {H : CH} {s : Shared} {mg mb : Str → Option Value} {P : Params}
theorem code_counts (B : Bs C.h₀ (KK P) mg mb) : CodeHd C.h₀ 187 185 :=
  ⟨_, _, _, _, _, _, _, _, _, B.X 187 _ (by with_unfolding_all rfl), rfl, rfl, rfl, rfl, rfl, rfl, rfl, rfl, by decide⟩
noncomputable abbrev qsC : List ((Nat × Nat) × Str) := [((203, 31), "_law_counts.<locals>.<lambda>")]
theorem g_TS {P : Params} : nsIn (KK P) mainGlobals "TopologicalSorter" = some (some (.ref cTS)) := by kernel_rfl
theorem g_reduce {P : Params} : nsIn (KK P) mainGlobals "reduce" = some (some (.ref a_reduce)) := by kernel_rfl
theorem TSR.other {H : CH} {a : Addr} {T : TS} {L : Lay} (R : TSR H a T L) {b : Addr} {c : CObj} (hb : ¬ Foot a T L b) : TSR (H.set b c) a T L := by
  have k : ∀ {x : Addr} {o : CObj}, H x = some o → Foot a T L x → (H.set b c) x = some o := fun {x o} e f => by
    have hx : x ≠ b := fun q => hb (by rw [← q]; exact f)
    rw [CH.set_ne hx]; exact e
  exact ⟨k R.top (.inl rfl), k R.dict (.inr (.inl rfl)), k R.n2i (.inr (.inr (.inl rfl))), fun r e => k (R.rdy r e) (.inr (.inr (.inr (.inl ⟨by rw [e]; simp, rfl⟩)))), fun x hx => k (R.node x hx) (.inr (.inr (.inr (.inr ⟨x, hx, .inl rfl⟩)))), fun x hx => k (R.nd x hx) (.inr (.inr (.inr (.inr ⟨x, hx, .inr (.inl rfl)⟩)))), fun x hx => k (R.succ x hx) (.inr (.inr (.inr (.inr ⟨x, hx, .inr (.inr rfl)⟩)))), R.inj, R.rdn, R.nodup⟩
/-- the heap while the counts are told -/
structure CT (H₃ H' : CH) (a cnt cl : Addr) (T : TS) (Ly : Lay) (cs : Int → Int) : Prop where
  R : TSR H' a T Ly
  keep : ∀ b, H₃ b ≠ none → b ≠ cl → H' b = H₃ b ∧ ¬ Foot a T Ly b
  cell : H' cl = some (.cell (some (.ref cnt))) ∧ ¬ Foot a T Ly cl
  val : H' cnt = some (.list ((List.range 7).map fun k => .int (cs (k : Nat)))) ∧ ¬ Foot a T Ly cnt
  fresh : H₃ cnt = none
theorem CT.frame {H₃ H' H'' : CH} {a cnt cl : Addr} {T T' : TS} {Ly Ly' : Lay} {cs : Int → Int} (S : CT H₃ H' a cnt cl T Ly cs) (R : TSR H'' a T' Ly') (F : FrameT a H' T Ly H'' T' Ly') : CT H₃ H'' a cnt cl T' Ly' cs := by
  refine ⟨R, fun b hb hc => ?_, ?_, ?_, S.fresh⟩
  · obtain ⟨e, f⟩ := S.keep b hb hc
    obtain ⟨e2, f2⟩ := F b (by rw [e]; exact hb) f
    exact ⟨e2.trans e, f2⟩
  · obtain ⟨e, f⟩ := S.cell
    obtain ⟨e2, f2⟩ := F cl (by rw [e]; simp) f
    exact ⟨e2.trans e, f2⟩
  · obtain ⟨e, f⟩ := S.val
    obtain ⟨e2, f2⟩ := F cnt (by rw [e]; simp) f
    exact ⟨e2.trans e, f2⟩
theorem CT.set {H₃ H' : CH} {a cnt cl : Addr} {T : TS} {Ly : Lay} {cs : Int → Int} (S : CT H₃ H' a cnt cl T Ly cs) (cs' : Int → Int) : CT H₃ (H'.set cnt (.list ((List.range 7).map fun k => .int (cs' (k : Nat))))) a cnt cl T Ly cs' :=
  ⟨S.R.other S.val.2, fun b hb hc => by rw [CH.set_ne (ne_out hb S.fresh)]; exact S.keep b hb hc, ⟨set_other S.val.1 S.cell.1 (by intro e; cases e), S.cell.2⟩, ⟨CH.set_same, S.val.2⟩, S.fresh⟩
theorem cs_get {cs : Int → Int} {p : Int} (h0 : 0 ≤ p) (h7 : p < 7) : ((List.range 7).map fun k => V.int (cs (k : Nat)))[p.toNat]? = some (.int (cs p)) := by
  rw [List.getElem?_map, List.getElem?_range (by omega)]
  show some (V.int (cs ((p.toNat : Nat) : Int))) = _
  rw [Int.toNat_of_nonneg h0]
theorem cs_set {cs : Int → Int} {j : Nat} {v : Int} (h : j < 7) : ((List.range 7).map fun k => V.int (cs (k : Nat))).set (j : Int).toNat (.int v) = (List.range 7).map fun k => V.int (upd cs j v (k : Nat)) := by
  apply List.ext_getElem?
  intro i
  rw [show ((j : Int)).toNat = j from rfl, List.getElem?_set]
  simp only [List.length_map, List.length_range, List.getElem?_map]
  by_cases e : j = i
  · subst e
    rw [if_pos rfl, if_pos h, List.getElem?_range h]
    show _ = some (V.int (upd cs j v (j : Nat)))
    rw [upd_same]
  · rw [if_neg e]
    by_cases hi : i < 7
    · rw [List.getElem?_range hi]
      show _ = some (V.int (upd cs j v (i : Nat)))
      rw [upd_ne (by omega)]; rfl
    · rw [List.getElem?_eq_none (by simp; omega)]; rfl
theorem cs_good {near : Int → List Int} {dn ready : List Int} {cs : Int → Int} {i : Nat} {k : Int} (ddep : ∀ x ∈ dn, ∀ p ∈ near x, p ∈ dn) (hk : k ∉ dn) (hkn : ∀ p ∈ near k, p ∈ dn) (hi : ready[i]? = some k) (hr : ∀ x ∈ ready, ∀ p ∈ near x, p ∈ dn)
    (h : ∀ x, x ∈ dn ∨ x ∈ ready.take i → cs x = (if x = 0 then 1 else 0) + ((near x).map cs).sum) : ∀ x, x ∈ dn ∨ x ∈ ready.take (i + 1) → upd cs k ((if k = 0 then 1 else 0) + ((near k).map cs).sum) x = (if x = 0 then 1 else 0) + ((near x).map (upd cs k ((if k = 0 then 1 else 0) + ((near k).map cs).sum))).sum := by
  intro x hx
  have same : ∀ y, (∀ p ∈ near y, p ∈ dn) → (near y).map (upd cs k ((if k = 0 then 1 else 0) + ((near k).map cs).sum)) = (near y).map cs := fun y hy => List.map_congr_left fun p hp => upd_ne (fun e => hk (e ▸ hy p hp))
  by_cases e : x = k
  · subst e; rw [upd_same, same x hkn]
  · rw [upd_ne e]
    have hx' : x ∈ dn ∨ x ∈ ready.take i := by
      rcases hx with hx | hx
      · exact .inl hx
      · rw [List.take_add_one, hi] at hx
        rcases List.mem_append.mp hx with hx | hx
        · exact .inr hx
        · exact absurd (by simpa using hx) e
    rw [same x (by
      rcases hx' with hx | hx
      · exact ddep x hx
      · exact hr x (List.mem_of_mem_take hx))]
    exact h x hx'
theorem EV_if_int {t : PySem.Expr} {a b : Int} {k l : Nat} {p q r : Pos} {Q : V → Loc → CH → Prop} (h : EB C A t m H fun c m₁ H₁ => Q (.int (if c = true then a else b)) m₁ H₁) : EV C A (.IfExp t (.Constant (.int a) k p) (.Constant (.int b) l q) r) m H Q :=
  EV_if (h.mono fun c m₁ H₁ hq => ⟨fun e => EV_int (by subst e; exact hq), fun e => EV_int (by subst e; exact hq)⟩)
noncomputable def CntPost (W : List Wy) (D : List (Int × Int)) (H : CH) (v : V) (H' : CH) : Prop := ∃ c cs, v = .ref c ∧ H c = none ∧ H' c = some (.list ((List.range 7).map fun k => .int (cs (k : Int)))) ∧
      (∀ b : Int, 0 ≤ b → b < 7 → cs b = (if b = 0 then 1 else 0) + ((nearOf D W b).map cs).sum) ∧ ∀ b, H b ≠ none → H' b = H b
noncomputable def CntI (W : List Wy) (D : List (Int × Int)) (H₃ : CH) (a cnt cl nl dd wl : Addr) (T7 : TS) (n : Nat) (m' : Loc) (H' : CH) : Prop := m' = ([("sorter", .ref a), ("near", .ref nl), ("lengths", .ref dd), ("ways", .ref wl)] : Loc) ∧ ∃ T Ly cs dn ready, CT H₃ H' a cnt cl T Ly cs ∧ Run T (nearOf D W) dn [] ready ∧ T.keys = T7.keys ∧ T.sc = T7.sc ∧ (∀ x ∈ dn, cs x = (if x = 0 then 1 else 0) + ((nearOf D W x).map cs).sum) ∧ n = T7.keys.length - dn.length
noncomputable def CntM (W : List Wy) (D : List (Int × Int)) (H₃ : CH) (a cnt cl nl dd wl : Addr) (T8 : TS) (Ly : Lay) (dn ready rd : List Int) (m' : Loc) (H' : CH) : Prop := m' = ([("group", .tup (ready.map .int)), ("sorter", .ref a), ("near", .ref nl), ("lengths", .ref dd), ("ways", .ref wl)] : Loc) ∧ ∃ cs', CT H₃ H' a cnt cl T8 Ly cs' ∧ ∀ x, x ∈ dn ∨ x ∈ rd → cs' x = (if x = 0 then 1 else 0) + ((nearOf D W x).map cs').sum
theorem spec_counts {wl dd : Addr} {W : List Wy} {D : List (Int × Int)} {ep : Nat} (ok : Fine W) (hD : Dists W D) (B : Bs C.h₀ (KK P) mg mb) {n : Nat} (hA : AOK C A (n + 5)) (hw : H wl = some (.list (W.map wv))) (hd : H dd = some (.dict (D.map dv) ep)) (hP : H 185 = some (.tab qsC)) (hsz : W.length ≤ 1000) :
    CALL C A (.con (.ref a_counts)) [.ref wl, .ref dd] [] H (CntPost W D H) := by
  refine CALL_cells B (by with_unfolding_all rfl) (by with_unfolding_all rfl) hA rfl bz2 (by intro L; simp [cellsFrom]; first | with_unfolding_all rfl | exact ⟨.inl (by with_unfolding_all rfl), by with_unfolding_all rfl⟩) (by with_unfolding_all rfl) fun L hL hA' => ?_
  refine (show EX _ _ _ [("lengths", .ref dd), ("ways", .ref wl)] (H.set (L + 1) (.cell none)) _ from ?_)
  have hL1 := (hL (L + 1) (Nat.le_succ L)).1
  generalize hHc : H.set (L + 1) (.cell none) = Hc
  have kc : ∀ b, H b ≠ none → Hc b = H b := fun b hb => by rw [← hHc, CH.set_ne (ne_out hb hL1)]
  have hc1 : Hc (L + 1) = some (.cell none) := by rw [← hHc, CH.set_same]
  have hcw : Hc wl = some (.list (W.map wv)) := (kc wl (by rw [hw]; simp)).trans hw
  have hcd : Hc dd = some (.dict (D.map dv) ep) := (kc dd (by rw [hd]; simp)).trans hd
  have hcP : Hc 185 = some (.tab qsC) := (kc 185 (by rw [hP]; simp)).trans hP
  refine EX_cons (st := .Assign _ _ _) (ES_assign_lc ?_)
  repeat walk_at "x"
  refine EV_b B g_range b_range ?_
  repeat walk_at "x"
  refine ⟨KP_type, CV_range1 ?_⟩
  refine LC_lists (rangeInts 0 1 7) (seq_rng1 (n := 7) hA'.handled (by decide)) (by decide) (fun x hx LC H₁ => ?_) fun nl bs H₁ hlen hbn hbe hkeep hnl hnl0 => ?_
  · repeat walk_at "x"
    refine ⟨rfl, EV_list ?_⟩
    repeat walk_at "x"
    exact ⟨by decide, fun b hb => ⟨b, hb, rfl, rfl⟩⟩
  repeat walk_at "x"
  have hnlH : Hc nl = none := by
    cases q : Hc nl with
    | none => rfl
    | some o => rw [hkeep nl (by rw [q]; simp), q] at hnl; cases hnl
  have hnb : nl ∉ bs := fun q => by have := (hbe nl q).2; rw [hnl] at this; cases this
  have S0 : NS Hc (H₁.set nl (.list (bs.map .ref))) nl bs (fun _ => []) := by
    refine ⟨by rw [hlen]; rfl, hbn, CH.set_same, fun k hk => ?_, hnlH, fun b hb => (hbe b hb).1, hnb⟩
    rw [CH.set_ne (fun e => hnb (by rw [← e]; exact List.getElem_mem hk))]
    exact (hbe _ (List.getElem_mem hk)).2
  have k1 : ∀ b, Hc b ≠ none → (H₁.set nl (.list (bs.map .ref))) b = Hc b := fun b hb => by rw [CH.set_ne (ne_out hb hnlH)]; exact hkeep b hb
  generalize (H₁.set nl (.list (bs.map .ref))) = H₂ at *
  refine EX_mid (st := .For _ _ _ _ _) (fun m' H' => m' = ([("near", .ref nl), ("lengths", .ref dd), ("ways", .ref wl)] : Loc) ∧ NS Hc H' nl bs (nearOf D W) ∧ ∀ b, Hc b ≠ none → H' b = Hc b) (ES_for' ?_) fun m₁ H₃ hM => ?_
  · repeat walk_at "x"
    refine ⟨W.map wv, (fun H' => H' wl = some (.list (W.map wv))), [("near", .ref nl), ("lengths", .ref dd), ("ways", .ref wl)], fun i m' H' => m' = ([("near", .ref nl), ("lengths", .ref dd), ("ways", .ref wl)] : Loc) ∧ NS Hc H' nl bs (nearOf D (W.take i)) ∧ ∀ b, Hc b ≠ none → H' b = Hc b,
        seq_own hA'.handled ((k1 wl (by rw [hcw]; simp)).trans hcw), .cons rfl (.cons rfl (.cons rfl .nil)), ⟨rfl, S0, k1⟩, ?_⟩
    rintro i m' H' ⟨rfl, S, hk⟩
    refine ⟨(hk wl (by rw [hcw]; simp)).trans hcw, fun y hy => ?_, fun hi => ?_⟩
    · obtain ⟨w, hwi, rfl⟩ := ways_get hy
      obtain ⟨⟨a0, a7⟩, ⟨b0, b7⟩, m1⟩ := ok w (List.mem_of_getElem? hwi)
      have hdk : H' dd = some (.dict (D.map dv) ep) := (hk dd (by rw [hcd]; simp)).trans hcd
      have estep : nearOf D (W.take (i + 1)) = nearStep D (nearOf D (W.take i)) w := take_fold hwi
      have hlen2 : ∀ k, (nearOf D (W.take i) k).length ≤ 1000 := fun k => by
        have := near_len (D := D) (W := W.take i) (nr := fun _ => []) (n := 0) (fun _ => Nat.le_refl _) k
        rw [List.length_take] at this
        show (List.foldl (nearStep D) (fun _ => []) (W.take i) k).length ≤ 1000
        omega
      generalize nearOf D (W.take i) = nr at *
      refine ASG_tuple hA'.handled rfl ?_
      repeat walk_at "x"
      walk_at "xi"
      refine O2_in_dict B hdk ?_
      rw [dv_look]
      have keepJ : tight D w = false → (i + 1 = i + 1) → NS Hc H' nl bs (nearOf D (W.take (i + 1))) := fun h _ => by rw [estep]; unfold nearStep; rw [h]; exact S
      cases ha : D.lookup w.1 with
      | none =>
        have ht : tight D w = false := by unfold tight; rw [ha]
        refine ⟨_, rfl, fun q => (by cases q), fun _ => ⟨fun q => (by cases q), fun _ => ?_⟩⟩
        repeat walk_at "x"
        exact ⟨_, .cons rfl (.cons rfl (.cons rfl .nil)), rfl, keepJ ht rfl, hk⟩
      | some na =>
        refine ⟨_, rfl, fun _ => ?_, fun q => (by cases q)⟩
        repeat walk_at "x"
        refine GM_dict hdk F.slot_dict_get F.type_dict_get ?_
        repeat walk_at "x"
        refine ⟨KP_built, CV_get B hdk ?_⟩
        rw [dv_look]
        repeat walk_at "x"
        refine sub_dict (v := .int na) hdk (by rw [dv_look, ha]; rfl) ?_
        repeat walk_at "x"
        refine O2_eqd (d := match D.lookup w.2.1 with | none => Dat.none | some x => .int x) (e := .int (na + w.2.2)) (by cases D.lookup w.2.1 with
          | none => exact .none
          | some x => exact .int x) (.int _) (by cases D.lookup w.2.1 <;> rfl) (by rfl) (by have := hA'.units; omega) fun b hb => ?_
        have hbt : b = tight D w := by
          rw [Bool.eq_iff_iff, hb]; unfold tight; rw [ha]
          cases D.lookup w.2.1 <;> simp
        subst hbt
        refine ⟨_, rfl, fun q => ?_, fun q => ?_⟩
        · obtain ⟨k, hk2⟩ : ∃ k : Nat, w.2.1 = k := ⟨w.2.1.toNat, by omega⟩
          have hkl : k < bs.length := by rw [S.len]; omega
          repeat walk_at "x"
          refine sub_list (v := .ref bs[k]) (.own S.top) b0 (by rw [hk2]; simp [hkl]) (by rw [List.length_map, S.len]; decide) ?_
          refine GM_list (.own (S.el k hkl)) F.slot_list_append F.type_list_append ?_
          repeat walk_at "x"
          refine ⟨KP_built, CV_append (S.el k hkl) (by rw [List.length_map]; have := hlen2 k; have : 1000 < sizeLine := (by decide); omega) ?_⟩
          repeat walk_at "x"
          have S' := S.app hkl (nr k ++ [w.1])
          rw [List.map_append] at S'
          refine ⟨_, .cons rfl (.cons rfl (.cons rfl .nil)), rfl, ?_, fun b hb => ?_⟩
          · rw [estep]; unfold nearStep; rw [q, if_pos rfl, hk2]; exact S'
          · rw [CH.set_ne (ne_out hb (S.fbs _ (List.getElem_mem hkl)))]; exact hk b hb
        · repeat walk_at "x"
          exact ⟨_, .cons rfl (.cons rfl (.cons rfl .nil)), rfl, keepJ q rfl, hk⟩
    · rw [List.length_map] at hi
      subst hi
      rw [List.take_length] at S
      repeat walk_at "x"
      exact ⟨rfl, S, hk⟩
  · obtain ⟨rfl, S, hk3⟩ := hM
    have hnear : ∀ k, (nearOf D W k).length ≤ 1000 := fun k => by
      have := near_len (D := D) (W := W) (nr := fun _ => []) (n := 0) (fun _ => Nat.le_refl _) k
      show (List.foldl (nearStep D) (fun _ => []) W k).length ≤ 1000
      omega
    have hnout : ∀ x, ¬ (0 ≤ x ∧ x < ((7 : Nat) : Int)) → nearOf D W x = [] := fun x hx => List.eq_nil_iff_forall_not_mem.mpr fun a ha => by
      obtain ⟨w, hw, _, e, _⟩ := near_mem.mp ha
      obtain ⟨_, ⟨b0, b7⟩, _⟩ := ok w hw
      exact hx ⟨by omega, by omega⟩
    have hneq : (fun x : Int => if 0 ≤ x ∧ x < ((7 : Nat) : Int) then nearOf D W x else []) = nearOf D W := by
      funext x
      by_cases h : 0 ≤ x ∧ x < ((7 : Nat) : Int)
      · rw [if_pos h]
      · rw [if_neg h, hnout x h]
    obtain ⟨hB7, hK7⟩ := addAll_built (near := nearOf D W) 7
    rw [hneq] at hB7
    repeat walk_at "x"
    refine EV_g B g_TS ?_
    repeat walk_at "x"
    refine ⟨KP_cls B k_keepTS, CV_of ((spec_makeTS (by exact B) (n := n + 2) hA').mono ?_)⟩
    rintro v H₄ ⟨a, Ly, rfl, R, hk4⟩
    repeat walk_at "x"
    refine EX_mid (st := .For _ _ _ _ _) (fun m' H' => m' = ([("sorter", .ref a), ("near", .ref nl), ("lengths", .ref dd), ("ways", .ref wl)] : Loc) ∧ ∃ Ly', TSR H' a (addAll (nearOf D W) 7) Ly' ∧ ∀ b, H₃ b ≠ none → H' b = H₃ b ∧ ¬ Foot a (addAll (nearOf D W) 7) Ly' b) (ES_for' ?_) fun m₁ H₅ hM => ?_
    · repeat walk_at "x"
      refine EV_b B g_range b_range ?_
      repeat walk_at "x"
      refine ⟨KP_type, CV_range1 ?_⟩
      refine ⟨rangeInts 0 1 7, (fun _ => True), [("sorter", .ref a), ("near", .ref nl), ("lengths", .ref dd), ("ways", .ref wl)], fun i m' H' => m' = ([("sorter", .ref a), ("near", .ref nl), ("lengths", .ref dd), ("ways", .ref wl)] : Loc) ∧ ∃ Ly', TSR H' a (addAll (nearOf D W) i) Ly' ∧ ∀ b, H₃ b ≠ none → H' b = H₃ b ∧ ¬ Foot a (addAll (nearOf D W) i) Ly' b,
        seq_rng1 (n := 7) hA'.handled (by decide), .cons rfl (.cons rfl (.cons rfl (.cons rfl .nil))), ⟨rfl, Ly, R, hk4⟩, ?_⟩
      rintro i m' H' ⟨rfl, Ly', R', hk'⟩
      refine ⟨trivial, fun y hy => ?_, fun hi => ?_⟩
      · rw [rangeInts_get] at hy
        by_cases hi7 : i < 7
        · rw [if_pos hi7] at hy
          obtain rfl := (Option.some.inj hy).symm
          have hkl : i < bs.length := by rw [S.len]; exact hi7
          have hnlk : H₃ nl ≠ none := by rw [S.top]; simp
          have hbk : H₃ bs[i] ≠ none := by rw [S.el i hkl]; simp
          have hBi := (addAll_built (near := nearOf D W) i).1
          have hLe := addAll_le hnear i
          have hi6 : i * (1 + 2 * 1000) ≤ 6 * 2001 := Nat.mul_le_mul (by omega) (by decide)
          have hz : 100000 < sizeLine := by decide
          have hni := hnear (i : Nat)
          rw [show (0 + (i : Int) * 1) = ((i : Nat) : Int) from by omega]
          repeat walk_at "x"
          refine GA_bound (f := a_add) B R'.top R'.dict rfl ?_
          repeat walk_at "x"
          refine sub_list (v := .ref bs[i]) (.own ((hk' nl hnlk).1.trans S.top)) (by omega) (by simp [hkl]) (by rw [List.length_map, S.len]; decide) ?_
          refine ⟨_, .list (.own ((hk' _ hbk).1.trans (S.el i hkl))), by rw [List.length_map]; omega, ?_⟩
          repeat walk_at "x"
          refine ⟨KP_bound (B.X a_add _ (by with_unfolding_all rfl)) rfl, CV_of (CALL_bound ?_)⟩
          rw [List.append_nil]
          refine (spec_add (N := i * (1 + 2 * 1000)) (by exact B) (n := n) hA' R' (hBi 0).ready hLe (by omega)).mono ?_
          rintro v H'' ⟨rfl, Ly2, R2, F2⟩
          repeat walk_at "x"
          rw [← addAll_succ] at R2 F2
          refine ⟨_, .cons rfl (.cons rfl (.cons rfl (.cons rfl .nil))), rfl, Ly2, R2, fun b hb => ?_⟩
          obtain ⟨e1, e2⟩ := hk' b hb
          obtain ⟨e3, e4⟩ := F2 b (by rw [e1]; exact hb) e2
          exact ⟨e3.trans e1, e4⟩
        · rw [if_neg hi7] at hy; cases hy
      · repeat walk_at "x"
        have hi7 : i = 7 := by rw [hi]; rfl
        subst hi7
        exact ⟨rfl, Ly', R', hk'⟩
    · obtain ⟨rfl, Ly5, R5, hk5⟩ := hM
      have hkeys : ∀ x ∈ (addAll (nearOf D W) 7).keys, 0 ≤ x ∧ x < 7 := addAll_keys (Q := fun x => 0 ≤ x ∧ x < 7) (fun x p hp => by
        obtain ⟨w, hw, _, _, rfl⟩ := near_mem.mp hp
        exact (ok w hw).1) (fun k hk => by omega)
      have hLe7 := addAll_le hnear 7
      have hRun := Run.start hB7
      have hsc0 : ∀ k ∈ (addAll (nearOf D W) 7).keys, ∀ x ∈ (addAll (nearOf D W) 7).sc k, x ∈ (addAll (nearOf D W) 7).keys ∧ k ∈ nearOf D W x := fun k hk x hx => by
        have h1 := (hB7 0).sc k hk x
        have h2 : k ∈ nearOf D W x := List.count_pos_iff.mp (by rw [← h1]; exact List.count_pos_iff.mpr hx)
        refine ⟨Classical.byContradiction fun q => ?_, h2⟩
        rw [(hB7 0).out x q] at h2; cases h2
      have hready := (hB7 0).ready
      have hnd7 := (hB7 0).nodup
      have hkl7 : (addAll (nearOf D W) 7).keys.length ≤ 7 := by
        have := nodup_le (k := [0, 1, 2, 3, 4, 5, 6]) hnd7 fun x hx => by have := hkeys x hx; simp; omega
        simpa using this
      generalize addAll (nearOf D W) 7 = T7 at *
      refine EX_cons (st := .Expr _ _) (ES_expr ?_)
      repeat walk_at "x"
      refine GM_inst (f := a_prepare) B R5.top R5.dict rfl ?_
      repeat walk_at "x"
      refine ⟨KP_K B (by with_unfolding_all rfl), CV_of ((spec_prepare (rk := rkOf D) (fun k hk x hx => ⟨(hsc0 k hk x hx).1, near_rk ok (hsc0 k hk x hx).2⟩) (by unfold scanBound; omega) (by exact B) (n := n + 2) hA' R5 hready).mono ?_)⟩
      rintro v H₆ ⟨rfl, Ly6, R6, F6⟩
      have hk6 : ∀ b, H₃ b ≠ none → H₆ b = H₃ b ∧ ¬ Foot a T7.prep Ly6 b := fun b hb => by
        obtain ⟨e1, e2⟩ := hk5 b hb
        obtain ⟨e3, e4⟩ := F6 b (by rw [e1]; exact hb) e2
        exact ⟨e3.trans e1, e4⟩
      repeat walk_at "x"
      refine EV_list ?_
      repeat walk_at "x"
      refine ⟨by decide, fun z hz => ?_⟩
      repeat walk_at "x"
      refine O2_mul_list (.own CH.set_same) (by decide) (by decide) (by decide) fun cnt hcnt => ?_
      have hcl3 : H₃ (L + 1) = some (.cell none) := (hk3 (L + 1) (by rw [hc1]; simp)).trans hc1
      have hcl6 := hk6 (L + 1) (by rw [hcl3]; simp)
      have n1 : L + 1 ≠ z := fun e => by rw [← e, hcl6.1, hcl3] at hz; cases hz
      have n2 : cnt ≠ z := fun e => by rw [e, CH.set_same] at hcnt; cases hcnt
      have hcnt6 : H₆ cnt = none := by rw [CH.set_ne n2] at hcnt; exact hcnt
      have n3 : L + 1 ≠ cnt := fun e => by rw [← e, hcl6.1, hcl3] at hcnt6; cases hcnt6
      have nf : ∀ {x : Addr}, H₆ x = none → ¬ Foot a T7.prep Ly6 x := fun {x} hx f => by
        rcases f with e | e | e | e | ⟨k, hk, e | e | e⟩
        · have := R6.top; rw [← e, hx] at this; cases this
        · have := R6.dict; rw [← e, hx] at this; cases this
        · have := R6.n2i; rw [← e, hx] at this; cases this
        · have := R6.rdy _ rfl; rw [← e.2, hx] at this; cases this
        · have := R6.node k hk; rw [← e, hx] at this; cases this
        · have := R6.nd k hk; rw [← e, hx] at this; cases this
        · have := R6.succ k hk; rw [← e, hx] at this; cases this
      have fz : H₃ z = none := by
        cases q : H₃ z with
        | none => rfl
        | some o => rw [(hk6 z (by rw [q]; simp)).1, q] at hz; cases hz
      have fc : H₃ cnt = none := by
        cases q : H₃ cnt with
        | none => rfl
        | some o => rw [(hk6 cnt (by rw [q]; simp)).1, q] at hcnt6; cases hcnt6
      refine ASG_cell (c := L + 1) (by with_unfolding_all rfl) (by rw [CH.set_ne n3, CH.set_ne n1, hcl6.1, hcl3]) ?_
      have S0 : CT H₃ (((H₆.set z (.list [.int 0])).set cnt (.list (List.replicate (7 : Int).toNat [V.int 0]).flatten)).set (L + 1) (.cell (some (.ref cnt)))) a cnt (L + 1) T7.prep Ly6 (fun _ => 0) := by
        refine ⟨((R6.other (nf hz)).other (nf hcnt6)).other hcl6.2, fun b hb hc => ?_, ⟨CH.set_same, hcl6.2⟩, ⟨?_, nf hcnt6⟩, fc⟩
        · rw [CH.set_ne hc, CH.set_ne (ne_out hb fc), CH.set_ne (ne_out hb fz)]; exact hk6 b hb
        · rw [CH.set_ne (Ne.symm n3), CH.set_same]; rfl
      generalize (((H₆.set z (.list [.int 0])).set cnt (.list (List.replicate (7 : Int).toNat [V.int 0]).flatten)).set (L + 1) (.cell (some (.ref cnt)))) = H₇ at *
      repeat walk_at "x"
      have hP3 : H₃ 185 = some (.tab qsC) := (hk3 185 (by rw [hcP]; simp)).trans hcP
      have hPc : (185 : Addr) ≠ L + 1 := fun e => by rw [← e, hP] at hL1; cases hL1
      have hnlc : nl ≠ L + 1 := fun e => by have := S.top; rw [e, hcl3] at this; cases this
      have hbsc : ∀ b ∈ bs, b ≠ L + 1 := fun b hb e => by
        have := S.fbs b hb; rw [e, hc1] at this; cases this
      refine EX_cons (st := .While _ _ _ _) (ES_while (CntI W D H₃ a cnt (L + 1) nl dd wl T7) _ [("sorter", .ref a), ("near", .ref nl), ("lengths", .ref dd), ("ways", .ref wl)] (.cons rfl (.cons rfl (.cons rfl (.cons rfl .nil))))
        ⟨rfl, T7.prep, Ly6, _, [], _, S0, hRun, rfl, rfl, (by intro _ h; cases h), rfl⟩ ?_)
      clear S0 hRun R6 F6 hk6 R5 hk5 hz hcnt hcnt6 hcl6 n1 n2 nf fz
      rintro n' m' H' ⟨rfl, T, Ly', cs, dn, ready, Z, Rn, hTk, hTs, hgood, rfl⟩
      have hrl : ready.length ≤ 7 := Nat.le_trans (nodup_le Rn.rnd fun x hx => by rw [← hTk]; exact ((Rn.rmem x).mp hx).1) hkl7
      have hz7 : 1000000 < sizeLine := by decide
      repeat walk_at "x"
      refine GM_inst (f := a_isactive) B Z.R.top Z.R.dict rfl ?_
      repeat walk_at "x"
      refine ⟨KP_K B (by with_unfolding_all rfl), CV_of ((spec_isactive (by exact B) (n := n + 3) hA' Z.R Rn.rdy (by omega)).mono ?_)⟩
      rintro v H'' ⟨rfl, rfl⟩
      refine OB_bool ⟨fun hb => ?_, fun hb => ?_⟩
      · have hne : ready ≠ [] := by
          intro e
          subst e
          rw [Rn.pass, Rn.fin] at hb
          simp at hb
        repeat walk_at "x"
        refine GM_inst (f := a_getready) B Z.R.top Z.R.dict rfl ?_
        repeat walk_at "x"
        refine ⟨KP_K B (by with_unfolding_all rfl), CV_of ((spec_getready (by exact B) (n := n + 3) hA' Z.R Rn.rdy (fun k hk => ((Rn.rmem k).mp hk).1) (by omega)).mono ?_)⟩
        rintro v H₈ ⟨rfl, R8, F8⟩
        have Z8 := Z.frame R8 F8
        have Rn8 := Rn.get
        rw [List.nil_append] at Rn8
        have hk8 : (T.getReady ready).keys = T.keys := (@TS.out_eq ready T).1
        have hs8 : (T.getReady ready).sc = T.sc := (@TS.out_eq ready T).2.2.2.2
        generalize T.getReady ready = T8 at *
        repeat walk_at "x"
        refine EX_mid (st := .For _ _ _ _ _) (CntM W D H₃ a cnt (L + 1) nl dd wl T8 Ly' dn ready ready) (ES_for' ?_) fun m₁ H₉ hM => ?_
        · repeat walk_at "x"
          refine ⟨ready.map .int, (fun _ => True), [("group", .tup (ready.map .int)), ("sorter", .ref a), ("near", .ref nl), ("lengths", .ref dd), ("ways", .ref wl)], fun i => CntM W D H₃ a cnt (L + 1) nl dd wl T8 Ly' dn ready (ready.take i),
            seq_tup hA'.handled, .cons rfl (.cons rfl (.cons rfl (.cons rfl (.cons rfl .nil)))), ⟨rfl, cs, Z8, fun x hx => hgood x (hx.resolve_right (by simp))⟩, ?_⟩
          rintro i m' H' ⟨rfl, cs', Zi, hgi⟩
          refine ⟨trivial, fun y hy => ?_, fun hi => ?_⟩
          · obtain ⟨k, hki, rfl⟩ := ints_get hy
            have hkr := List.mem_of_getElem? hki
            obtain ⟨q1, q2, _, q4⟩ := (Rn.rmem k).mp hkr
            obtain ⟨k0, k7⟩ := hkeys k (by rw [← hTk]; exact q1)
            obtain ⟨j, rfl⟩ : ∃ j : Nat, k = j := ⟨k.toNat, by omega⟩
            have hjl : j < bs.length := by rw [S.len]; omega
            have hnj : nl ≠ L + 1 := hnlc
            have hnl3 := Zi.keep nl (by rw [S.top]; simp) hnlc
            have hbj3 := Zi.keep bs[j] (by rw [S.el j hjl]; simp) (hbsc _ (List.getElem_mem hjl))
            have hP4 := Zi.keep 185 (by rw [hP3]; simp) hPc
            repeat walk_at "x"
            refine EV_g B g_reduce ?_
            repeat walk_at "x"
            refine EV_lambda B (hP4.1.trans hP3) (code_counts B) ?_
            repeat walk_at "x"
            refine sub_list (v := .ref bs[j]) (.own (hnl3.1.trans S.top)) (by omega) (by simp [hjl]) (by rw [List.length_map, S.len]; decide) ?_
            refine EL_cons (EV_if_int ?_)
            repeat walk_at "x"
            refine ⟨_, rfl, ?_⟩
            repeat walk_at "x"
            have hq : (if decide (((j : Nat) : Int) = 0) = true then (1 : Int) else 0) = if ((j : Nat) : Int) = 0 then 1 else 0 := by simp
            rw [hq]
            generalize hi0 : (if ((j : Nat) : Int) = 0 then (1 : Int) else 0) = i0
            refine ⟨KP_K B (by with_unfolding_all rfl), CV_of ((spec_reduce (by exact B) (n := n + 3) hA' (hbj3.1.trans (S.el j hjl)) (.inl ⟨i0, rfl⟩) (fun t v H'' => H'' = H' ∧ v = .int (i0 + (((nearOf D W (j : Nat)).take t).map cs').sum)) ⟨rfl, by simp⟩ (fun env H'' => KP_lam) ?_ ?_).mono ?_)⟩
            · rintro t v x H'' env hAA ⟨rfl, rfl⟩ hx
              obtain ⟨p, hp, rfl⟩ := ints_get hx
              obtain ⟨p0, p7⟩ := hkeys p (by rw [← hTk]; exact Rn.sub _ p (List.mem_of_getElem? hp))
              refine CALL_fn B.lim hAA (fun _ _ _ => .pos2) (by with_unfolding_all rfl) rfl fun L' a' c' hL' hL0' hA2 => ?_
              repeat walk_at "x"
              refine EV_free (c := L + 1) (by with_unfolding_all rfl) Zi.cell.1 ?_
              repeat walk_at "x"
              refine sub_list (v := .int (cs' p)) (.own Zi.val.1) p0 (cs_get p0 p7) (by simp [sizeLine]) ?_
              repeat walk_at "x"
              refine ⟨rfl, ?_⟩
              rw [List.take_add_one, hp, List.map_append, List.sum_append]
              simp [Int.add_assoc]
            · rintro t v H'' ⟨rfl, rfl⟩; exact hbj3.1.trans (S.el j hjl)
            rintro v H'' ⟨rfl, hv⟩
            rw [List.length_map, List.take_length] at hv
            have hv2 : v = .int ((if ((j : Nat) : Int) = 0 then 1 else 0) + ((nearOf D W (j : Nat)).map cs').sum) := by rw [hv, hi0]
            subst hv2
            repeat walk_at "x"
            refine EV_cell (c := L + 1) (by with_unfolding_all rfl) Zi.cell.1 ?_
            repeat walk_at "x"
            refine set_list Zi.val.1 (by omega) (by simp; omega) (by simp [sizeLine]) ?_
            rw [cs_set (by omega)]
            repeat walk_at "x"
            refine ⟨_, .cons rfl (.cons rfl (.cons rfl (.cons rfl (.cons rfl .nil)))), rfl, _, Zi.set _, ?_⟩
            exact cs_good Rn.ddep q2 q4 hki (fun x hx => ((Rn.rmem x).mp hx).2.2.2) hgi
          · rw [List.length_map] at hi
            subst hi
            rw [List.take_length] at hgi
            repeat walk_at "x"
            exact ⟨rfl, cs', Zi, hgi⟩
        · obtain ⟨rfl, cs', Z9, hg9⟩ := hM
          have hDN := Run.doneN (ns := ready) (rest := []) (T := T8) (dn := dn) (ready := []) (near := nearOf D W) (by rw [List.append_nil]; exact Rn8)
          obtain ⟨⟨r2, Rn10⟩, hdone⟩ := hDN
          repeat walk_at "x"
          refine GA_bound (f := a_done) B Z9.R.top Z9.R.dict rfl ?_
          repeat walk_at "x"
          refine ⟨_, .tup _, by rw [List.length_map]; omega, ?_⟩
          refine ⟨KP_bound (B.X a_done _ (by with_unfolding_all rfl)) rfl, CV_of (CALL_bound ?_)⟩
          refine (spec_done (M := 100000) (by exact B) (n := n + 3) hA' Z9.R Rn8.rdy hdone ?_ ?_ ?_ (by omega)).mono ?_
          · intro k hk x hx
            rw [hk8, hTk] at hk ⊢
            rw [hs8, hTs] at hx
            exact (hsc0 k hk x hx).1
          · intro k
            rw [hs8, hTs]
            have := hLe7.sc k
            omega
          · rw [List.length_nil]; omega
          rintro v H'' ⟨rfl, R10, F10⟩
          have Z10 := Z9.frame R10 F10
          have eD := @doneN_eq ready T8
          repeat walk_at "x"
          have hlt : dn.length + ready.length ≤ T7.keys.length := by
            have := nodup_le (k := T7.keys) Rn10.dnd fun x hx => by rw [← hTk, ← hk8, ← eD.1]; exact Rn10.dks x hx
            simpa [Nat.add_comm] using this
          have hrp : 0 < ready.length := List.length_pos_iff.mpr hne
          refine ⟨_, _, ?_, .cons rfl (.cons rfl (.cons rfl (.cons rfl .nil))), rfl, _, Ly', cs', _, r2, Z10, Rn10, by rw [eD.1, hk8, hTk], by rw [eD.2.2.2, hs8, hTs], fun x hx => hg9 x ?_, rfl⟩
          · simp; omega
          · rcases List.mem_append.mp hx with h | h
            · exact .inr (List.mem_reverse.mp h)
            · exact .inl h
      · have hre : ready = [] := by
          have := Bool.or_eq_false_iff.mp hb
          simpa using this.2
        subst hre
        have hall := Rn.all (rk := fun x => (rkOf D x).toNat) (fun x hx p hp => by
          have h1 := near_rk ok hp
          have h2 : 0 ≤ rkOf D p := by
            obtain ⟨w, hw, ht, _, rfl⟩ := near_mem.mp hp
            obtain ⟨k, h1, _⟩ := tight_get ht
            unfold rkOf; rw [h1]
            have := List.lookup_eq_some_iff.mp h1
            obtain ⟨l1, l2, e, _⟩ := this
            have := (hD.dist (w.1, k) (by rw [e]; simp)).1.nonneg ok
            simpa using this
          omega)
        repeat walk_at "x"
        refine EV_cell (c := L + 1) (by with_unfolding_all rfl) Z.cell.1 ?_
        repeat walk_at "x"
        have up : ∀ {b : Addr}, H b ≠ none → b ≠ L + 1 := fun {b} h e => h (by rw [e]; exact hL1)
        have ch : ∀ b, H b ≠ none → H₃ b = H b := fun b h => (hk3 b (by rw [kc b h]; exact h)).trans (kc b h)
        refine ⟨cnt, cs, rfl, ?_, Z.val.1, fun b b0 b7 => hgood b (hall b (by rw [hTk]; have := hK7 b.toNat (by omega); rw [Int.toNat_of_nonneg b0] at this; exact this)), fun b hb => ?_⟩
        · cases q : H cnt with
          | none => rfl
          | some o => have := ch cnt (by rw [q]; simp); rw [Z.fresh, q] at this; cases this
        · exact (Z.keep b (by rw [ch b hb]; exact hb) (up hb)).1.trans (ch b hb)
end
end
section
noncomputable abbrev It := List Int × Int × Int
noncomputable def key (w : Wy) : Int := 7 * w.1 + w.2.1
noncomputable def lfStep (f : Int → Option Int) (w : Wy) : Int → Option Int := upd f (key w) (some (if (f (key w)).getD w.2.2 < w.2.2 then (f (key w)).getD w.2.2 else w.2.2))
noncomputable def lf (W : List Wy) : Int → Option Int := W.foldl lfStep fun _ => none
noncomputable def mfStep (l : Int → Option Int) (g : Int → Option Int) (w : Wy) : Int → Option Int := if l (key w) = some w.2.2 then upd g (key w) (some ((g (key w)).getD 0 + 1)) else g
noncomputable def mf (l : Int → Option Int) (W : List Wy) : Int → Option Int := W.foldl (mfStep l) fun _ => none
noncomputable def lastOf (it : It) : Int := it.1.getLastD 0
noncomputable def ext (l g : Int → Option Int) (it : It) (b : Int) : Option It := match l (7 * lastOf it + b) with
  | none => none
  | some x => if b ∈ it.1 then none else some (it.1 ++ [b], it.2.1 + x, it.2.2 * (g (7 * lastOf it + b)).getD 0)
noncomputable abbrev Du := Int → Option Int × Int
noncomputable def duStep (du : Du) (b whole times : Int) : Du := match (du b).1 with
  | none => upd du b (some whole, times)
  | some o => if whole < o then upd du b (some whole, times) else if whole = o then upd du b (some whole, (du b).2 + times) else du
noncomputable def stepB (l g : Int → Option Int) (it : It) (st : List It × Du) (b : Int) : List It × Du := match ext l g it b with
  | none => st
  | some it' => (st.1 ++ [it'], duStep st.2 b it'.2.1 it'.2.2)
noncomputable def ups (n : Nat) : List Int := (List.range n).map fun i : Nat => (i : Int)
noncomputable def stepRow (l g : Int → Option Int) (st : List It × Du) (it : It) : List It × Du := (ups 7).foldl (stepB l g it) st
noncomputable def level (l g : Int → Option Int) (st : List It × Du) : List It × Du := st.1.foldl (stepRow l g) ([], st.2)
noncomputable def du0 : Du := fun b => if b = 0 then (some 0, 1) else (none, 0)
noncomputable def runA (l g : Int → Option Int) : Nat → List It × Du
  | 0 => ([([0], 0, 1)], du0)
  | t + 1 => level l g (runA l g t)
theorem ups_succ {n : Nat} : ups (n + 1) = ups n ++ [(n : Int)] := by unfold ups; rw [List.range_succ, List.map_append]; rfl
/-- a row of `t` steps -/
structure RowOk (t : Nat) (it : It) : Prop where
  len : it.1.length = t + 1
  nd : it.1.Nodup
  rng : ∀ x ∈ it.1, 0 ≤ x ∧ x < 7
theorem RowOk.ext {l g : Int → Option Int} {t : Nat} {it it' : It} {b : Int} (R : RowOk t it) (h : ext l g it b = some it') (h0 : 0 ≤ b) (h7 : b < 7) : RowOk (t + 1) it' := by
  unfold Mine.ext at h
  cases hl : l (7 * lastOf it + b) with
  | none => rw [hl] at h; cases h
  | some x =>
    rw [hl] at h
    by_cases hb : b ∈ it.1
    · simp [hb] at h
    · simp only [hb, if_false, Option.some.injEq] at h
      subst h
      refine ⟨by simp [R.len], ?_, fun x hx => ?_⟩
      · show (it.1 ++ [b]).Nodup
        rw [List.nodup_append]; exact ⟨R.nd, by simp, fun x hx y hy => by rw [List.mem_singleton.mp hy]; rintro rfl; exact hb hx⟩
      · have hx : x ∈ it.1 ++ [b] := hx
        rcases List.mem_append.mp hx with h | h
        · exact R.rng x h
        · rw [List.mem_singleton.mp h]; exact ⟨h0, h7⟩
theorem RowOk.short {t : Nat} {it : It} (R : RowOk t it) : t ≤ 6 := by
  have := nodup_le (k := ups 7) R.nd fun x hx => by
    obtain ⟨h0, h7⟩ := R.rng x hx
    unfold ups
    exact List.mem_map.mpr ⟨x.toNat, List.mem_range.mpr (by omega), Int.toNat_of_nonneg h0⟩
  rw [R.len] at this
  have e : (ups 7).length = 7 := rfl
  omega
theorem lf_has {W : List Wy} {w : Wy} (h : w ∈ W) : ∃ x, lf W (key w) = some x := by
  have gen : ∀ (W : List Wy) (f : Int → Option Int), (w ∈ W ∨ ∃ x, f (key w) = some x) → ∃ x, W.foldl lfStep f (key w) = some x := by
    intro W
    induction W with
    | nil => intro f h; exact h.resolve_left (by simp)
    | cons v r ih =>
      intro f h
      refine ih (lfStep f v) ?_
      by_cases e : key w = key v
      · exact .inr ⟨_, by unfold lfStep; rw [e, upd_same]⟩
      · rcases h with h | ⟨x, h⟩
        · rcases List.mem_cons.mp h with h | h
          · exact absurd (h ▸ rfl) e
          · exact .inl h
        · exact .inr ⟨x, by unfold lfStep; rw [upd_ne e]; exact h⟩
  exact gen W _ (.inl h)
/-- the least of the ways of one key -/
theorem lf_spec {W : List Wy} {k x : Int} (h : lf W k = some x) : (∃ w ∈ W, key w = k ∧ w.2.2 = x) ∧ ∀ w ∈ W, key w = k → x ≤ w.2.2 := by
  have gen : ∀ (W : List Wy) (f : Int → Option Int) (x : Int), W.foldl lfStep f k = some x → ((f k = some x) ∨ ∃ w ∈ W, key w = k ∧ w.2.2 = x) ∧ (∀ y, f k = some y → x ≤ y) ∧ ∀ w ∈ W, key w = k → x ≤ w.2.2 := by
    intro W
    induction W with
    | nil => intro f x h; exact ⟨.inl h, fun y hy => by rw [show f k = some x from h] at hy; cases hy; exact Int.le_refl _, by simp⟩
    | cons v r ih =>
      intro f x h
      obtain ⟨h1, h2, h3⟩ := ih (lfStep f v) x h
      by_cases e : k = key v
      · have hv : lfStep f v k = some (if (f (key v)).getD v.2.2 < v.2.2 then (f (key v)).getD v.2.2 else v.2.2) := by unfold lfStep; rw [e, upd_same]
        have hx := h2 _ hv
        refine ⟨?_, fun y hy => ?_, fun w hw hk => ?_⟩
        · rcases h1 with h1 | ⟨w, hw, q⟩
          · rw [hv] at h1
            have h1 := Option.some.inj h1
            by_cases c : (f (key v)).getD v.2.2 < v.2.2
            · rw [if_pos c] at h1
              cases hf : f (key v) with
              | none => rw [hf] at c; simp at c
              | some y => rw [hf] at h1; exact .inl (by rw [e, hf]; simpa using h1)
            · rw [if_neg c] at h1; exact .inr ⟨v, List.mem_cons_self, e.symm, h1⟩
          · exact .inr ⟨w, List.mem_cons_of_mem _ hw, q⟩
        · rw [e] at hy; rw [hy] at hx
          simp at hx
          split at hx <;> omega
        · rcases List.mem_cons.mp hw with q | q
          · subst q; split at hx <;> omega
          · exact h3 w q hk
      · have hv : lfStep f v k = f k := by unfold lfStep; rw [upd_ne e]
        rw [hv] at h1 h2
        refine ⟨h1.imp id fun ⟨w, hw, q⟩ => ⟨w, List.mem_cons_of_mem _ hw, q⟩, h2, fun w hw hk => ?_⟩
        rcases List.mem_cons.mp hw with q | q
        · subst q; exact absurd hk.symm e
        · exact h3 w q hk
  obtain ⟨h1, _, h3⟩ := gen W _ x h
  exact ⟨h1.resolve_left (by simp), h3⟩
theorem mf_spec {l : Int → Option Int} {W : List Wy} {k : Int} : (mf l W k).getD 0 = ((W.filter fun w => decide (key w = k) && decide (l k = some w.2.2)).length : Nat) := by
  have gen : ∀ (W : List Wy) (g : Int → Option Int), (W.foldl (mfStep l) g k).getD 0 = (g k).getD 0 + ((W.filter fun w => decide (key w = k) && decide (l k = some w.2.2)).length : Nat) := by
    intro W
    induction W with
    | nil => intro g; simp
    | cons v r ih =>
      intro g
      rw [List.foldl_cons, ih]
      unfold mfStep
      by_cases e : key v = k
      · subst e
        by_cases h : l (key v) = some v.2.2
        · rw [if_pos h, upd_same, List.filter_cons_of_pos (by simp [h])]; simp; omega
        · rw [if_neg h, List.filter_cons_of_neg (by simp [h])]
      · rw [List.filter_cons_of_neg (by simp [e])]
        split
        · rw [upd_ne (fun q => e q.symm)]
        · rfl
  have := gen W fun _ => none
  simpa [mf] using this
theorem mf_has {l : Int → Option Int} {W : List Wy} {k : Int} (h : ∃ w ∈ W, key w = k ∧ l k = some w.2.2) : ∃ n, mf l W k = some n := by
  obtain ⟨w, hw, e, hl⟩ := h
  have h1 := @mf_spec l W k
  have h2 : 0 < (W.filter fun w => decide (key w = k) && decide (l k = some w.2.2)).length := List.length_pos_of_mem (List.mem_filter.mpr ⟨hw, by simp [e, hl]⟩)
  cases h3 : mf l W k with
  | some n => exact ⟨n, rfl⟩
  | none => rw [h3] at h1; simp at h1; omega
end
section
section
variable {l g : Int → Option Int}
noncomputable def LV (l g : Int → Option Int) : Nat → List It
  | 0 => [([0], 0, 1)]
  | t + 1 => (LV l g t).flatMap fun it => (ups 7).filterMap (ext l g it)
noncomputable def duIt (du : Du) (it : It) : Du := duStep du (lastOf it) it.2.1 it.2.2
theorem ext_last {it it' : It} {b : Int} (h : ext l g it b = some it') : lastOf it' = b := by
  unfold ext at h
  cases hl : l (7 * lastOf it + b) with
  | none => rw [hl] at h; cases h
  | some x =>
    rw [hl] at h
    by_cases hb : b ∈ it.1
    · simp [hb] at h
    · simp only [hb, if_false, Option.some.injEq] at h
      subst h
      unfold lastOf; simp
theorem stepB_eq {it : It} : ∀ {bs : List Int} {st : List It × Du}, bs.foldl (stepB l g it) st = (st.1 ++ bs.filterMap (ext l g it), (bs.filterMap (ext l g it)).foldl duIt st.2)
  | [], st => by simp
  | b :: bs, st => by
    rw [List.foldl_cons, stepB_eq]
    unfold stepB
    cases h : ext l g it b with
    | none => simp [h]
    | some it' => simp [h, duIt, ext_last h]
theorem level_eq : ∀ {its : List It} {st : List It × Du}, its.foldl (stepRow l g) st = (st.1 ++ its.flatMap (fun it => (ups 7).filterMap (ext l g it)), (its.flatMap (fun it => (ups 7).filterMap (ext l g it))).foldl duIt st.2)
  | [], st => by simp
  | it :: r, st => by
    rw [List.foldl_cons, level_eq]
    unfold stepRow
    rw [stepB_eq]
    simp [List.append_assoc, List.foldl_append]
theorem runA_succ {t : Nat} : runA l g (t + 1) = (LV l g (t + 1), (LV l g (t + 1)).foldl duIt (runA l g t).2) ∧ (runA l g t).1 = LV l g t := by
  induction t with
  | zero =>
    refine ⟨?_, rfl⟩
    show level l g (runA l g 0) = _
    unfold level; rw [level_eq]; rfl
  | succ t ih =>
    refine ⟨?_, by rw [ih.1]⟩
    show level l g (runA l g (t + 1)) = _
    unfold level; rw [level_eq, show (runA l g (t + 1)).1 = LV l g (t + 1) from by rw [ih.1]]
    simp [LV]
theorem runA_fst (t : Nat) : (runA l g t).1 = LV l g t := runA_succ.2
noncomputable def fil (b x : Int) (S : List It) : Int := ((S.filter fun it => lastOf it == b && it.2.1 == x).map (·.2.2)).sum
theorem fil_nil {b x : Int} : fil b x [] = 0 := rfl
theorem fil_cons {b x : Int} {it : It} {S : List It} : fil b x (it :: S) = (if lastOf it = b ∧ it.2.1 = x then it.2.2 else 0) + fil b x S := by
  unfold fil
  by_cases h : lastOf it = b ∧ it.2.1 = x
  · rw [List.filter_cons_of_pos (by simp [h]), if_pos h]; simp
  · rw [List.filter_cons_of_neg (by simpa using h), if_neg h]; simp
theorem fil_append {b x : Int} {S R : List It} : fil b x (S ++ R) = fil b x S + fil b x R := by
  unfold fil; simp
theorem fil_none {b x : Int} {S : List It} (h : ∀ it ∈ S, lastOf it = b → it.2.1 ≠ x) : fil b x S = 0 := by
  induction S with
  | nil => rfl
  | cons it r ih =>
    rw [fil_cons, if_neg (fun q => h it List.mem_cons_self q.1 q.2), ih fun i hi => h i (List.mem_cons_of_mem _ hi)]; rfl
structure DuOk (du : Du) (S : List It) : Prop where
  no : ∀ b, (du b).1 = none → (du b).2 = 0 ∧ ∀ it ∈ S, lastOf it ≠ b
  yes : ∀ b x, (du b).1 = some x → (∃ it ∈ S, lastOf it = b ∧ it.2.1 = x) ∧ (∀ it ∈ S, lastOf it = b → x ≤ it.2.1) ∧ (du b).2 = fil b x S
theorem DuOk.first : DuOk du0 [([0], 0, 1)] := by
  refine ⟨fun b h => ?_, fun b x h => ?_⟩
  · unfold du0 at h ⊢
    by_cases e : b = 0
    · rw [if_pos e] at h; cases h
    · rw [if_neg e]; exact ⟨rfl, fun it hi q => by rw [List.mem_singleton.mp hi] at q; exact e q.symm⟩
  · unfold du0 at h ⊢
    by_cases e : b = 0
    · rw [if_pos e] at h ⊢
      cases h
      refine ⟨⟨_, List.mem_singleton.mpr rfl, e.symm, rfl⟩, fun it hi _ => by rw [List.mem_singleton.mp hi]; exact Int.le_refl _, ?_⟩
      rw [fil_cons, if_pos ⟨e.symm, rfl⟩]; rfl
    · rw [if_neg e] at h; cases h
theorem DuOk.step {du : Du} {S : List It} (K : DuOk du S) (it : It) : DuOk (duIt du it) (S ++ [it]) := by
  have other : ∀ {du' : Du} {b : Int}, b ≠ lastOf it → du' b = du b → ((du' b).1 = none → (du' b).2 = 0 ∧ ∀ i ∈ S ++ [it], lastOf i ≠ b) ∧ ∀ x, (du' b).1 = some x → (∃ i ∈ S ++ [it], lastOf i = b ∧ i.2.1 = x) ∧ (∀ i ∈ S ++ [it], lastOf i = b → x ≤ i.2.1) ∧ (du' b).2 = fil b x (S ++ [it]) := fun {du' b} hb he => by
    rw [he]
    refine ⟨fun h => ⟨(K.no b h).1, fun i hi => ?_⟩, fun x h => ?_⟩
    · rcases List.mem_append.mp hi with q | q
      · exact (K.no b h).2 i q
      · rw [List.mem_singleton.mp q]; exact hb.symm
    · obtain ⟨⟨i, hi, h1, h2⟩, h3, h4⟩ := K.yes b x h
      refine ⟨⟨i, List.mem_append_left _ hi, h1, h2⟩, fun j hj q => ?_, ?_⟩
      · rcases List.mem_append.mp hj with r | r
        · exact h3 j r q
        · rw [List.mem_singleton.mp r] at q; exact absurd q.symm hb
      · rw [fil_append, h4, fil_none (S := [it]) (fun j hj q => by rw [List.mem_singleton.mp hj] at q; exact absurd q.symm hb)]; omega
  have main : ∀ {du' : Du}, (∀ b, b ≠ lastOf it → du' b = du b) → ((du' (lastOf it)).1 = none → (du' (lastOf it)).2 = 0 ∧ ∀ i ∈ S ++ [it], lastOf i ≠ lastOf it) → (∀ x, (du' (lastOf it)).1 = some x → (∃ i ∈ S ++ [it], lastOf i = lastOf it ∧ i.2.1 = x) ∧ (∀ i ∈ S ++ [it], lastOf i = lastOf it → x ≤ i.2.1) ∧ (du' (lastOf it)).2 = fil (lastOf it) x (S ++ [it])) → DuOk du' (S ++ [it]) := fun {du'} h1 h2 h3 =>
    ⟨fun b h => by
      by_cases e : b = lastOf it
      · subst e; exact h2 h
      · exact (other e (h1 b e)).1 h, fun b x h => by
      by_cases e : b = lastOf it
      · subst e; exact h3 x h
      · exact (other e (h1 b e)).2 x h⟩
  have mine : it ∈ S ++ [it] := List.mem_append_right _ List.mem_cons_self
  unfold duIt duStep
  cases hd : (du (lastOf it)).1 with
  | none =>
    show DuOk (upd du (lastOf it) (some it.2.1, it.2.2)) _
    refine main (fun b hb => upd_ne hb) (fun h => ?_) fun x h => ?_
    · rw [upd_same] at h; cases h
    · rw [upd_same] at h ⊢
      cases h
      have hn := (K.no _ hd).2
      refine ⟨⟨it, mine, rfl, rfl⟩, fun i hi q => ?_, ?_⟩
      · rcases List.mem_append.mp hi with r | r
        · exact absurd q (hn i r)
        · rw [List.mem_singleton.mp r]; exact Int.le_refl _
      · rw [fil_append, fil_none (S := S) (fun i hi q => absurd q (hn i hi)), fil_cons, if_pos ⟨rfl, rfl⟩, fil_nil]; omega
  | some o =>
    obtain ⟨⟨j, hj, j1, j2⟩, h3, h4⟩ := K.yes _ o hd
    by_cases c1 : it.2.1 < o
    · simp only [c1, if_true]
      refine main (fun b hb => upd_ne hb) (fun h => ?_) fun x h => ?_
      · rw [upd_same] at h; cases h
      · rw [upd_same] at h ⊢
        cases h
        refine ⟨⟨it, mine, rfl, rfl⟩, fun i hi q => ?_, ?_⟩
        · rcases List.mem_append.mp hi with r | r
          · have := h3 i r q; omega
          · rw [List.mem_singleton.mp r]; exact Int.le_refl _
        · rw [fil_append, fil_none (S := S) (fun i hi q => by have := h3 i hi q; omega), fil_cons, if_pos ⟨rfl, rfl⟩, fil_nil]; omega
    · by_cases c2 : it.2.1 = o
      · simp only [c1, c2, if_false, if_true, Int.lt_irrefl]
        refine main (fun b hb => upd_ne hb) (fun h => ?_) fun x h => ?_
        · rw [upd_same] at h; cases h
        · rw [upd_same] at h ⊢
          cases h
          refine ⟨⟨it, mine, rfl, c2⟩, fun i hi q => ?_, ?_⟩
          · rcases List.mem_append.mp hi with r | r
            · exact h3 i r q
            · rw [List.mem_singleton.mp r, c2]; exact Int.le_refl _
          · rw [fil_append, fil_cons, if_pos ⟨rfl, c2⟩, fil_nil, h4]; simp
      · simp only [c1, c2, if_false]
        refine main (fun b _ => rfl) (fun h => ?_) fun x h => ?_
        · rw [hd] at h; cases h
        · rw [hd] at h; cases h
          refine ⟨⟨j, List.mem_append_left _ hj, j1, j2⟩, fun i hi q => ?_, ?_⟩
          · rcases List.mem_append.mp hi with r | r
            · exact h3 i r q
            · rw [List.mem_singleton.mp r]; omega
          · rw [fil_append, fil_cons, if_neg (fun q => c2 q.2), fil_nil, h4]; omega
theorem DuOk.steps : ∀ {its : List It} {du : Du} {S : List It}, DuOk du S → DuOk (its.foldl duIt du) (S ++ its)
  | [], du, S, K => by rw [List.append_nil]; exact K
  | it :: r, du, S, K => by
    have := DuOk.steps (its := r) (K.step it)
    rw [List.append_assoc] at this; exact this
noncomputable def UL (l g : Int → Option Int) : Nat → List It
  | 0 => LV l g 0
  | t + 1 => UL l g t ++ LV l g (t + 1)
theorem runA_du : ∀ t, DuOk (runA l g t).2 (UL l g t)
  | 0 => .first
  | t + 1 => by rw [(runA_succ (t := t)).1]; exact (runA_du t).steps
structure ItOk (W : List Wy) (t : Nat) (it : It) : Prop where
  row : RowOk t it
  last : lastOf it ∈ it.1
  way : Way W (lastOf it) it.2.1
  pre : ∀ p ∈ it.1, ∃ n, Way W p n ∧ n ≤ it.2.1
  cnt : 0 ≤ it.2.2
theorem mf_nonneg {l : Int → Option Int} {W : List Wy} {k : Int} : 0 ≤ (mf l W k).getD 0 := by
  rw [mf_spec]; exact Int.natCast_nonneg _
theorem key_inj {W : List Wy} (ok : Fine W) {w : Wy} (hw : w ∈ W) {a b : Int} (ha0 : 0 ≤ a) (ha7 : a < 7) (hb0 : 0 ≤ b) (hb7 : b < 7) (h : key w = 7 * a + b) : w.1 = a ∧ w.2.1 = b := by
  obtain ⟨h1, h2, _⟩ := ok w hw
  unfold key at h
  omega
theorem ItOk.ext {W : List Wy} (ok : Fine W) {t : Nat} {it it' : It} {b : Int} (I : ItOk W t it) (hb0 : 0 ≤ b) (hb7 : b < 7) (h : ext (lf W) (mf (lf W) W) it b = some it') : ItOk W (t + 1) it' := by
  have R := I.row.ext h hb0 hb7
  have hl := ext_last h
  unfold Mine.ext at h
  cases hx : lf W (7 * lastOf it + b) with
  | none => rw [hx] at h; cases h
  | some x =>
    rw [hx] at h
    by_cases hb : b ∈ it.1
    · simp [hb] at h
    · simp only [hb, if_false, Option.some.injEq] at h
      obtain ⟨⟨w, hw, hk, he⟩, _⟩ := lf_spec hx
      obtain ⟨a0, a7⟩ := I.row.rng _ I.last
      obtain ⟨e1, e2⟩ := key_inj ok hw a0 a7 hb0 hb7 hk
      have hm : (lastOf it, b, x) ∈ W := by rw [← e1, ← e2, ← he]; exact hw
      have hx1 := (ok _ hm).2.2
      have hw' : Way W b (it.2.1 + x) := .step I.way hm
      subst h
      refine ⟨R, by rw [hl]; exact List.mem_append_right _ List.mem_cons_self, by rw [hl]; exact hw', fun p hp => ?_, ?_⟩
      · rcases List.mem_append.mp hp with q | q
        · obtain ⟨n, h1, h2⟩ := I.pre p q
          exact ⟨n, h1, by show n ≤ it.2.1 + x; simp at hx1; omega⟩
        · rw [List.mem_singleton.mp q]; exact ⟨_, hw', Int.le_refl _⟩
      · exact Int.mul_nonneg I.cnt mf_nonneg
theorem mem_ups {n : Nat} {x : Int} : x ∈ ups n ↔ 0 ≤ x ∧ x < n := by
  unfold ups
  rw [List.mem_map]
  constructor
  · rintro ⟨i, hi, rfl⟩; rw [List.mem_range] at hi; omega
  · rintro ⟨h0, h1⟩; exact ⟨x.toNat, List.mem_range.mpr (by omega), Int.toNat_of_nonneg h0⟩
theorem ups_nodup : (ups 7).Nodup := by decide
theorem LV_ok {W : List Wy} (ok : Fine W) : ∀ {t : Nat}, ∀ it ∈ LV (lf W) (mf (lf W) W) t, ItOk W t it
  | 0, it, h => by
    rw [List.mem_singleton.mp h]
    exact ⟨⟨rfl, by simp, fun x hx => by rw [List.mem_singleton.mp hx]; omega⟩, List.mem_cons_self, .zero, fun p hp => ⟨0, by rw [List.mem_singleton.mp hp]; exact .zero, Int.le_refl _⟩, by decide⟩
  | t + 1, it, h => by
    obtain ⟨i, hi, h⟩ := List.mem_flatMap.mp h
    obtain ⟨b, hb, h⟩ := List.mem_filterMap.mp h
    rw [mem_ups] at hb
    exact (LV_ok ok i hi).ext ok hb.1 hb.2 h
theorem UL_ok {W : List Wy} (ok : Fine W) : ∀ {t : Nat}, ∀ it ∈ UL (lf W) (mf (lf W) W) t, ∃ t, ItOk W t it
  | 0, it, h => ⟨0, LV_ok ok it h⟩
  | t + 1, it, h => by
    rcases List.mem_append.mp h with q | q
    · exact UL_ok ok it q
    · exact ⟨_, LV_ok ok it q⟩
noncomputable def sg (D : List (Int × Int)) (b : Int) (S : List It) : Int := match D.lookup b with
  | none => 0
  | some d => fil b d S
theorem sg_append {D : List (Int × Int)} {b : Int} {S R : List It} : sg D b (S ++ R) = sg D b S + sg D b R := by
  unfold sg; cases D.lookup b with
  | none => rfl
  | some d => exact fil_append
theorem sg_cons {D : List (Int × Int)} {b : Int} {it : It} {S : List It} : sg D b (it :: S) = (if lastOf it = b ∧ D.lookup b = some it.2.1 then it.2.2 else 0) + sg D b S := by
  unfold sg; cases D.lookup b with
  | none => simp
  | some d =>
    show fil b d (it :: S) = _
    rw [fil_cons]
    congr 1
    by_cases h : lastOf it = b ∧ it.2.1 = d
    · rw [if_pos h, if_pos ⟨h.1, by rw [h.2]⟩]
    · rw [if_neg h, if_neg (fun q => h ⟨q.1, (Option.some.inj q.2).symm⟩)]
theorem sg_nil {D : List (Int × Int)} {b : Int} : sg D b [] = 0 := by unfold sg; split <;> rfl
theorem sg_none {D : List (Int × Int)} {b : Int} {S : List It} (h : ∀ it ∈ S, lastOf it ≠ b) : sg D b S = 0 := by
  unfold sg; split
  · rfl
  · exact fil_none fun it hi q => absurd q (h it hi)
theorem sg_nonneg {D : List (Int × Int)} {b : Int} {S : List It} (h : ∀ it ∈ S, 0 ≤ it.2.2) : 0 ≤ sg D b S := by
  induction S with
  | nil => rw [sg_nil]; exact Int.le_refl _
  | cons it r ih =>
    rw [sg_cons]
    have := ih fun i hi => h i (List.mem_cons_of_mem _ hi)
    have := h it List.mem_cons_self
    split <;> omega
theorem sum_nonneg' {α : Type} {f : α → Int} : ∀ {l : List α}, (∀ a ∈ l, 0 ≤ f a) → 0 ≤ (l.map f).sum
  | [], _ => by simp
  | a :: l, h => by
    have := h a List.mem_cons_self
    have := sum_nonneg' (l := l) fun b hb => h b (List.mem_cons_of_mem _ hb)
    simp; omega
theorem sum_ge {α : Type} {f : α → Int} {a : α} : ∀ {l : List α}, (∀ b ∈ l, 0 ≤ f b) → a ∈ l → f a ≤ (l.map f).sum
  | b :: l, h, ha => by
    have h0 := h b List.mem_cons_self
    have h1 := sum_nonneg' (l := l) fun c hc => h c (List.mem_cons_of_mem _ hc)
    rcases List.mem_cons.mp ha with e | e
    · subst e; simp; omega
    · have := sum_ge (f := f) (l := l) (fun c hc => h c (List.mem_cons_of_mem _ hc)) e
      simp; omega
theorem one_row {D : List (Int × Int)} {it : It} {b : Int} : ∀ {bs : List Int}, bs.Nodup → sg D b (bs.filterMap (ext l g it)) = if b ∈ bs then (match ext l g it b with | none => 0 | some it' => if D.lookup b = some it'.2.1 then it'.2.2 else 0) else 0
  | [], _ => by rw [List.filterMap_nil, sg_nil, if_neg (by simp)]
  | c :: bs, h => by
    rw [List.nodup_cons] at h
    have ih := one_row (D := D) (it := it) (b := b) h.2
    by_cases e : b = c
    · subst e
      rw [if_neg h.1] at ih
      rw [if_pos List.mem_cons_self]
      cases hx : ext l g it b with
      | none => rw [List.filterMap_cons_none hx, ih]
      | some it' =>
        rw [List.filterMap_cons_some hx, sg_cons, ih]
        show _ = if D.lookup b = some it'.2.1 then it'.2.2 else 0
        rw [Int.add_zero]
        by_cases q : D.lookup b = some it'.2.1
        · rw [if_pos ⟨ext_last hx, q⟩, if_pos q]
        · rw [if_neg (fun r => q r.2), if_neg q]
    · have hm : b ∈ c :: bs ↔ b ∈ bs := by simp [e]
      have : sg D b ((c :: bs).filterMap (ext l g it)) = sg D b (bs.filterMap (ext l g it)) := by
        cases hx : ext l g it c with
        | none => rw [List.filterMap_cons_none hx]
        | some it' => rw [List.filterMap_cons_some hx, sg_cons, if_neg (fun r => e (by rw [← r.1, ext_last hx]))]; omega
      rw [this, ih]
      by_cases q : b ∈ bs
      · rw [if_pos q, if_pos (hm.mpr q)]
      · rw [if_neg q, if_neg (fun r => q (hm.mp r))]
end
section
variable {W : List Wy} {D : List (Int × Int)}
theorem Dists.look (hD : Dists W D) {b d : Int} (h : D.lookup b = some d) : IsDist W b d := by
  obtain ⟨l1, l2, e, _⟩ := List.lookup_eq_some_iff.mp h
  exact hD.dist (b, d) (by rw [e]; simp)
theorem Dists.has (hD : Dists W D) {b n : Int} (h : Way W b n) : ∃ d, D.lookup b = some d ∧ IsDist W b d ∧ d ≤ n := by
  have := hD.all b n h
  cases q : D.lookup b with
  | none =>
    obtain ⟨x, hx, rfl⟩ := List.mem_map.mp this
    have := List.lookup_eq_none_iff.mp q x hx
    simp at this
  | some d => exact ⟨d, rfl, hD.look q, (hD.look q).2 _ h⟩
theorem near_count {a b : Int} : (nearOf D W b).count a = (W.filter fun w => tight D w && (w.2.1 == b) && (w.1 == a)).length := by
  have gen : ∀ (W : List Wy) (nr : Int → List Int), (W.foldl (nearStep D) nr b).count a = (nr b).count a + (W.filter fun w => tight D w && (w.2.1 == b) && (w.1 == a)).length := by
    intro W
    induction W with
    | nil => intro nr; simp
    | cons w r ih =>
      intro nr
      rw [List.foldl_cons, ih]
      unfold nearStep
      by_cases h : tight D w = true
      · rw [if_pos h]; unfold upd
        by_cases e : b = w.2.1
        · rw [if_pos e, List.count_append, e]
          by_cases e2 : w.1 = a
          · rw [List.filter_cons_of_pos (by simp [h, e2])]; simp [e2]; omega
          · rw [List.filter_cons_of_neg (by simp [e2]), List.count_singleton]; simp [e2]
        · rw [if_neg e, List.filter_cons_of_neg (by simp; intro _ q; exact absurd q.symm e)]
      · rw [if_neg h, List.filter_cons_of_neg (by simp [h])]
  have := gen W fun _ => []
  simpa [nearOf] using this
theorem one_item (ok : Fine W) (hD : Dists W D) {t : Nat} {it : It} {b : Int} (I : ItOk W t it) (b0 : 0 ≤ b) (b7 : b < 7) :
    sg D b ((ups 7).filterMap (ext (lf W) (mf (lf W) W) it)) = if D.lookup (lastOf it) = some it.2.1 then it.2.2 * ((nearOf D W b).count (lastOf it) : Nat) else 0 := by
  rw [one_row ups_nodup, if_pos (mem_ups.mpr ⟨b0, b7⟩)]
  obtain ⟨a0, a7⟩ := I.row.rng _ I.last
  obtain ⟨da, ha, hda, hle⟩ := hD.has I.way
  have nr : ∀ {w : Wy}, w ∈ W → tight D w = true → w.2.1 = b → w.1 = lastOf it → key w = 7 * lastOf it + b ∧ D.lookup b = some (da + w.2.2) := fun {w} hw ht h1 h2 => by
    obtain ⟨n, q1, q2⟩ := tight_get ht
    rw [h2, ha] at q1; cases q1
    rw [h1] at q2
    exact ⟨by unfold key; rw [h1, h2], q2⟩
  have zero : (∀ w ∈ W, tight D w = true → w.2.1 = b → w.1 = lastOf it → False) → (nearOf D W b).count (lastOf it) = 0 := fun h => List.count_eq_zero.mpr fun q => by
    obtain ⟨w, hw, ht, h1, h2⟩ := near_mem.mp q
    exact h w hw ht h1 h2
  unfold ext
  cases hx : lf W (7 * lastOf it + b) with
  | none =>
    rw [zero fun w hw ht h1 h2 => by
      obtain ⟨x, hx2⟩ := lf_has hw
      rw [(nr hw ht h1 h2).1, hx] at hx2; cases hx2]
    simp
  | some x =>
    obtain ⟨⟨w, hw, hk, he⟩, hmin⟩ := lf_spec hx
    obtain ⟨e1, e2⟩ := key_inj ok hw a0 a7 b0 b7 hk
    have hm : (lastOf it, b, x) ∈ W := by rw [← e1, ← e2, ← he]; exact hw
    have hx1 : 1 ≤ x := (ok _ hm).2.2
    obtain ⟨db, hb, hdb, hdle⟩ := hD.has (.step hda.1 hm)
    by_cases hin : b ∈ it.1
    · simp only [hin, if_true]
      by_cases good : D.lookup (lastOf it) = some it.2.1
      · rw [if_pos good]
        rw [ha] at good
        have good := Option.some.inj good
        obtain ⟨n, hn, hnl⟩ := I.pre b hin
        have := hdb.2 _ hn
        rw [zero fun w hw ht h1 h2 => by
          have q := (nr hw ht h1 h2).2
          rw [hb] at q
          have q := Option.some.inj q
          have := (ok w hw).2.2
          omega]
        simp
      · rw [if_neg good]
    · simp only [hin, if_false]
      rw [hb, ha]
      by_cases good : da = it.2.1
      · by_cases ht : db = da + x
        · rw [if_pos (by rw [ht, good]), if_pos (by rw [good])]
          congr 1
          rw [mf_spec, near_count, hx]
          congr 2
          refine List.filter_congr fun v hv => ?_
          rw [Bool.eq_iff_iff]
          simp only [Bool.and_eq_true, decide_eq_true_eq, beq_iff_eq]
          constructor
          · rintro ⟨k1, k2⟩
            have k2 := Option.some.inj k2
            obtain ⟨f1, f2⟩ := key_inj ok hv a0 a7 b0 b7 k1
            refine ⟨⟨?_, f2⟩, f1⟩
            unfold tight; rw [f1, ha, f2, hb]; simp; omega
          · rintro ⟨⟨k1, k2⟩, k3⟩
            obtain ⟨q1, q2⟩ := nr hv k1 k2 k3
            rw [hb] at q2
            have q2 := Option.some.inj q2
            exact ⟨q1, by rw [show v.2.2 = x from by omega]⟩
        · rw [if_neg (fun q => ht (by have := Option.some.inj q; omega)), if_pos (by rw [good])]
          rw [zero fun w hw ht' h1 h2 => by
            obtain ⟨q1, q2⟩ := nr hw ht' h1 h2
            rw [hb] at q2
            have q2 := Option.some.inj q2
            have := hmin w hw q1
            omega]
          simp
      · rw [if_neg (fun q => by have := Option.some.inj q; omega), if_neg (fun q => good (Option.some.inj q))]
theorem swap_sum {nb : List Int} : ∀ {its : List It}, (its.map fun it => if D.lookup (lastOf it) = some it.2.1 then it.2.2 * ((nb.count (lastOf it) : Nat) : Int) else 0).sum = (nb.map fun a => sg D a its).sum
  | [] => by
    have : (nb.map fun a => sg D a []) = nb.map fun _ => 0 := List.map_congr_left fun a _ => sg_nil
    rw [this]
    clear this
    induction nb with
    | nil => rfl
    | cons a r ih => rw [List.map_cons, List.sum_cons, ← ih]; rfl
  | it :: r => by
    rw [List.map_cons, List.sum_cons, swap_sum (its := r)]
    have one : ∀ nb : List Int, (if D.lookup (lastOf it) = some it.2.1 then it.2.2 * ((nb.count (lastOf it) : Nat) : Int) else 0) + (nb.map fun a => sg D a r).sum = (nb.map fun a => sg D a (it :: r)).sum := by
      intro nb
      induction nb with
      | nil => simp
      | cons a t ih =>
        rw [List.map_cons, List.sum_cons, List.map_cons, List.sum_cons, ← ih, sg_cons]
        by_cases e : lastOf it = a
        · subst e
          rw [List.count_cons_self]
          by_cases q : D.lookup (lastOf it) = some it.2.1
          · rw [if_pos q, if_pos q, if_pos ⟨rfl, q⟩]
            rw [Int.natCast_add, Int.mul_add]
            simp; omega
          · rw [if_neg q, if_neg q, if_neg (fun z => q z.2)]; omega
        · rw [List.count_cons_of_ne (fun z => e z.symm), if_neg (fun (z : lastOf it = a ∧ _) => e z.1)]; omega
    exact one nb
theorem flat_sg {f : It → List It} {b : Int} : ∀ {its : List It}, sg D b (its.flatMap f) = (its.map fun it => sg D b (f it)).sum
  | [] => by simp [sg_nil]
  | it :: r => by rw [List.flatMap_cons, sg_append, flat_sg (its := r)]; simp
theorem sg_level (ok : Fine W) (hD : Dists W D) {b : Int} (b0 : 0 ≤ b) (b7 : b < 7) (t : Nat) : sg D b (LV (lf W) (mf (lf W) W) (t + 1)) = ((nearOf D W b).map fun a => sg D a (LV (lf W) (mf (lf W) W) t)).sum := by
  show sg D b ((LV (lf W) (mf (lf W) W) t).flatMap _) = _
  rw [flat_sg, ← swap_sum]
  congr 1
  exact List.map_congr_left fun it hit => one_item ok hD (LV_ok ok it hit) b0 b7
theorem sum_add' {f h : Int → Int} : ∀ {nb : List Int}, (nb.map fun a => f a + h a).sum = (nb.map f).sum + (nb.map h).sum
  | [] => rfl
  | a :: r => by simp [sum_add' (nb := r)]; omega
theorem sg_all (ok : Fine W) (hD : Dists W D) {b : Int} (b0 : 0 ≤ b) (b7 : b < 7) : ∀ t : Nat, sg D b (UL (lf W) (mf (lf W) W) (t + 1)) = (if b = 0 then 1 else 0) + ((nearOf D W b).map fun a => sg D a (UL (lf W) (mf (lf W) W) t)).sum
  | 0 => by
    show sg D b (LV _ _ 0 ++ LV _ _ 1) = _
    rw [sg_append, sg_level ok hD b0 b7]
    congr 1
    show sg D b [([0], 0, 1)] = _
    rw [sg_cons, sg_nil]
    obtain ⟨d0, h0, hd0, hle⟩ := hD.has (Way.zero (W := W))
    have : d0 = 0 := by have := hd0.1.nonneg ok; omega
    subst this
    by_cases e : b = 0
    · subst e; rw [if_pos ⟨rfl, h0⟩, if_pos rfl]; rfl
    · rw [if_neg (fun q => e q.1.symm), if_neg e]; rfl
  | t + 1 => by
    show sg D b (UL _ _ (t + 1) ++ LV _ _ (t + 1 + 1)) = _
    rw [sg_append, sg_all ok hD b0 b7 t, sg_level ok hD b0 b7]
    have : (fun a => sg D a (UL (lf W) (mf (lf W) W) (t + 1))) = fun a => sg D a (UL (lf W) (mf (lf W) W) t) + sg D a (LV (lf W) (mf (lf W) W) (t + 1)) := funext fun a => sg_append
    rw [this, sum_add']; omega
/-- the law -/
theorem all_ways {T : Nat} (ok : Fine W) (hD : Dists W D) {cs : Int → Int} (hcs : ∀ b : Int, 0 ≤ b → b < 7 → cs b = (if b = 0 then 1 else 0) + ((nearOf D W b).map cs).sum) (hT : (runA (lf W) (mf (lf W) W) T).1 = []) :
    ∀ b : Int, 0 ≤ b → b < 7 → (runA (lf W) (mf (lf W) W) T).2 b = (D.lookup b, cs b) := by
  have K := runA_du (l := lf W) (g := mf (lf W) W) T
  rw [runA_fst] at hT
  have hU : UL (lf W) (mf (lf W) W) (T + 1) = UL (lf W) (mf (lf W) W) T := by
    show _ ++ (LV _ _ T).flatMap _ = _
    rw [hT]; simp
  have hsg : ∀ b : Int, 0 ≤ b → b < 7 → sg D b (UL (lf W) (mf (lf W) W) T) = (if b = 0 then 1 else 0) + ((nearOf D W b).map fun a => sg D a (UL (lf W) (mf (lf W) W) T)).sum := fun b b0 b7 => by
    have := sg_all ok hD b0 b7 T; rw [hU] at this; exact this
  have items := UL_ok ok (t := T)
  generalize UL (lf W) (mf (lf W) W) T = S at *
  generalize (runA (lf W) (mf (lf W) W) T).2 = du at *
  have nrng : ∀ {a b : Int}, a ∈ nearOf D W b → 0 ≤ a ∧ a < 7 := fun {a b} h => by
    obtain ⟨w, hw, _, _, rfl⟩ := near_mem.mp h
    exact (ok w hw).1
  have nrk : ∀ {x : Int}, 0 ≤ rkOf D x := fun {x} => by
    unfold rkOf
    cases q : D.lookup x with
    | none => exact Int.le_refl _
    | some d => exact (hD.look q).1.nonneg ok
  have same : ∀ n : Nat, ∀ b : Int, 0 ≤ b → b < 7 → rkOf D b < n → sg D b S = cs b := by
    intro n
    induction n with
    | zero => intro b _ _ h; have := nrk (x := b); omega
    | succ n ih =>
      intro b b0 b7 h
      rw [hsg b b0 b7, hcs b b0 b7]
      congr 2
      refine List.map_congr_left fun a ha => ?_
      have := near_rk ok ha
      exact ih a (nrng ha).1 (nrng ha).2 (by omega)
  have same : ∀ b : Int, 0 ≤ b → b < 7 → sg D b S = cs b := fun b b0 b7 => same ((rkOf D b).toNat + 1) b b0 b7 (by have := nrk (x := b); omega)
  have nonneg : ∀ b, 0 ≤ sg D b S := fun b => sg_nonneg fun it hi => (items it hi).elim fun t I => I.cnt
  have pos : ∀ n : Nat, ∀ b d : Int, D.lookup b = some d → d < n → 1 ≤ sg D b S := by
    intro n
    induction n with
    | zero => intro b d h hd; have := (hD.look h).1.nonneg ok; omega
    | succ n ih =>
      intro b d h hd
      have hw := (hD.look h)
      obtain ⟨b0, b7⟩ := hw.1.range ok
      have hs := hsg b b0 b7
      have h2 := sum_nonneg' (f := fun a => sg D a S) (l := nearOf D W b) fun a _ => nonneg a
      cases hw1 : hw.1 with
      | zero => rw [if_pos rfl] at hs; omega
      | @step p n' q m hp hm =>
        obtain ⟨dp, hp1, hp2, hp3⟩ := hD.has hp
        have hm1 : 1 ≤ m := (ok _ hm).2.2
        have := hw.2 _ (.step hp2.1 hm)
        have hdp : n' = dp := by omega
        subst hdp
        have ht : tight D (p, b, m) = true := by unfold tight; rw [hp1, h]; simp
        have hin : p ∈ nearOf D W b := near_mem.mpr ⟨_, hm, ht, rfl, rfl⟩
        have := ih p _ hp1 (by omega)
        have := sum_ge (f := fun a => sg D a S) (l := nearOf D W b) (fun a _ => nonneg a) hin
        have e : 0 ≤ (if b = 0 then (1 : Int) else 0) := by split <;> omega
        omega
  intro b b0 b7
  have hpos : ∀ d, D.lookup b = some d → 1 ≤ sg D b S := fun d h => pos (d.toNat + 1) b d h (by have := (hD.look h).1.nonneg ok; omega)
  cases hd : (du b).1 with
  | none =>
    obtain ⟨h1, h2⟩ := K.no b hd
    have h0 := sg_none (D := D) h2
    have hl : D.lookup b = none := by
      cases q : D.lookup b with
      | none => rfl
      | some d => have := hpos d q; omega
    have := same b b0 b7
    refine Prod.ext (by rw [hd, hl]) ?_
    show (du b).2 = cs b
    omega
  | some x =>
    obtain ⟨⟨it, hit, i1, i2⟩, h3, h4⟩ := K.yes b x hd
    obtain ⟨t, I⟩ := items it hit
    obtain ⟨d, hdl, hdd, hle⟩ := hD.has (i1 ▸ i2 ▸ I.way)
    have hp := hpos d hdl
    have hex : ∃ j ∈ S, lastOf j = b ∧ j.2.1 = d := by
      apply Classical.byContradiction
      intro q
      have : sg D b S = 0 := by
        unfold sg; rw [hdl]
        exact fil_none fun j hj e1 e2 => q ⟨j, hj, e1, e2⟩
      omega
    obtain ⟨j, hj, j1, j2⟩ := hex
    have := h3 j hj j1
    have hxd : x = d := by omega
    subst hxd
    have hs := same b b0 b7
    unfold sg at hs; rw [hdl] at hs
    refine Prod.ext (by rw [hd, hdl]) ?_
    show (du b).2 = cs b
    rw [h4]; exact hs
end
end
section
theorem putI_look {kvs : List (Int × V)} {k k' : Int} {v : V} : (putI kvs k v).lookup k' = if k' = k then some v else kvs.lookup k' := by
  have upd_look : ∀ kvs : List (Int × V), (kvs.map (fun kv => if kv.1 = k then (kv.1, v) else kv)).lookup k' = if k' = k ∧ k ∈ kvs.map (·.1) then some v else kvs.lookup k' := by
    intro kvs
    induction kvs with
    | nil => simp
    | cons p r ih =>
      rw [List.map_cons, List.lookup_cons, List.lookup_cons, ih]
      by_cases e : p.1 = k
      · by_cases e2 : k' = k
        · subst e2; simp [e]
        · have h2 : (k' == k) = false := by simpa using e2
          simp [e, e2, h2]
      · by_cases e2 : k' = p.1
        · subst e2; simp [e]
        · have h1 : (k' == p.1) = false := by simpa using e2
          by_cases e3 : k' = k
          · subst e3
            rw [if_neg e]
            have hm : k' ∈ (p :: r).map (·.1) ↔ k' ∈ r.map (·.1) := by rw [List.map_cons, List.mem_cons]; simp [e2]
            by_cases h : k' ∈ r.map (·.1)
            · have h' := hm.mpr h
              simp only [h1, h, h', and_self, if_true]
            · have h' : ¬ k' ∈ (p :: r).map (·.1) := fun q => h (hm.mp q)
              simp only [h1, h, h', and_false, if_false]
          · simp [e, e3, h1]
  unfold putI
  by_cases h : kvs.any (fun kv => kv.1 == k) = true
  · rw [if_pos h, upd_look]
    have : k ∈ kvs.map (·.1) := by
      obtain ⟨p, hp, e⟩ := List.any_eq_true.mp h
      exact List.mem_map.mpr ⟨p, hp, by simpa using e⟩
    by_cases e : k' = k
    · rw [if_pos ⟨e, this⟩, if_pos e]
    · rw [if_neg (fun q => e q.1), if_neg e]
  · rw [if_neg h, List.lookup_append]
    by_cases e : k' = k
    · subst e
      have : kvs.lookup k' = none := lookup_no fun q => h (by
        obtain ⟨p, hp, e⟩ := List.mem_map.mp q
        exact List.any_eq_true.mpr ⟨p, hp, by simpa using e⟩)
      rw [this, if_pos rfl]; simp
    · rw [if_neg e]
      have : (k' == k) = false := by simpa using e
      simp [List.lookup, this]
theorem putI_len {kvs : List (Int × V)} {k : Int} {v : V} : (putI kvs k v).length ≤ kvs.length + 1 := by
  unfold putI; split
  · simp
  · simp
/-- a dict that tells a function -/
noncomputable def FD (H : CH) (d : Addr) (f : Int → Option Int) (n : Nat) : Prop := ∃ kvs ep, H d = some (.dict kvs ep) ∧ (∀ k, kvs.lookup k = (f k).map V.int) ∧ kvs.length ≤ n
theorem FD.put {H : CH} {d : Addr} {f : Int → Option Int} {n : Nat} {kvs : List (Int × V)} {ep : Nat} {k v : Int} (hl : ∀ k, kvs.lookup k = (f k).map V.int) (hn : kvs.length ≤ n) : FD (H.set d (.dict (putI kvs k (.int v)) ep)) d (upd f k (some v)) (n + 1) := by
  refine ⟨_, _, CH.set_same, fun k' => ?_, Nat.le_trans putI_len (Nat.succ_le_succ hn)⟩
  rw [putI_look]
  by_cases e : k' = k
  · subst e; rw [if_pos rfl, upd_same]; rfl
  · rw [if_neg e, upd_ne e]; exact hl k'
theorem FD.keep {H H' : CH} {d : Addr} {f : Int → Option Int} {n : Nat} (h : FD H d f n) (k : H d ≠ none → H' d = H d) : FD H' d f n := by
  obtain ⟨kvs, ep, h1, h2, h3⟩ := h
  exact ⟨kvs, ep, (k (by rw [h1]; simp)).trans h1, h2, h3⟩
theorem FD.ne {H : CH} {d : Addr} {f : Int → Option Int} {n : Nat} (h : FD H d f n) : H d ≠ none := by
  obtain ⟨kvs, ep, h1, _⟩ := h
  rw [h1]; simp
/-- the rows on the heap -/
inductive RV (H : CH) : List V → List It → Prop
  | nil : RV H [] []
  | cons {r : Addr} {it : It} {vs : List V} {its : List It} : H r = some (.list (it.1.map .int)) → it.1 ≠ [] → RV H vs its → RV H (.tup [.ref r, .int it.2.1, .int it.2.2] :: vs) (it :: its)
theorem RV.length {H : CH} {vs : List V} {its : List It} (h : RV H vs its) : vs.length = its.length := by
  induction h with
  | nil => rfl
  | cons _ _ _ ih => rw [List.length_cons, List.length_cons, ih]
theorem RV.get {H : CH} {vs : List V} {its : List It} (h : RV H vs its) : ∀ {i : Nat} {v : V}, vs[i]? = some v → ∃ it r, its[i]? = some it ∧ v = .tup [.ref r, .int it.2.1, .int it.2.2] ∧ H r = some (.list (it.1.map .int)) ∧ it.1 ≠ [] := by
  induction h with
  | nil => intro i v h; simp at h
  | cons h1 h2 _ ih =>
    intro i v h
    cases i with
    | zero => simp at h; exact ⟨_, _, by simp, h.symm, h1, h2⟩
    | succ i =>
      obtain ⟨it, r, q⟩ := ih (i := i) (by simpa using h)
      exact ⟨it, r, by simpa using q⟩
theorem RV.app {H : CH} {vs : List V} {its : List It} (h : RV H vs its) {r : Addr} {it : It} (h1 : H r = some (.list (it.1.map .int))) (h2 : it.1 ≠ []) : RV H (vs ++ [.tup [.ref r, .int it.2.1, .int it.2.2]]) (its ++ [it]) := by
  induction h with
  | nil => exact .cons h1 h2 .nil
  | cons a b _ ih => exact .cons a b ih
theorem RV.keep {H H' : CH} {vs : List V} {its : List It} (h : RV H vs its) (k : ∀ r l, H r = some (.list (l.map V.int)) → l ≠ [] → H' r = H r) : RV H' vs its := by
  induction h with
  | nil => exact .nil
  | cons a b _ ih => exact .cons ((k _ _ a b).trans a) b ih
noncomputable def itDat (it : It) : Dat := .tuple [.list (it.1.map .int), .int it.2.1, .int it.2.2]
theorem RV.dat {C : Cx} {H : CH} {vs : List V} {its : List It} (h : RV H vs its) : DRs C H vs (its.map itDat) := by
  induction h with
  | nil => exact .nil
  | cons a b _ ih => exact .cons (.tup (.cons (.list (.own a) (DRs.ints _)) (.cons (.int _) (.cons (.int _) .nil)))) ih
theorem ints_ok {n : Nat} {l : List Int} : (l.map Dat.int).all (kqdOk n) = true := by
  rw [List.all_map, List.all_eq_true]; intro x _; cases n <;> rfl
theorem itDat_ok {it : It} {n : Nat} : kqdOk (n + 2) (itDat it) = true := by
  show ([Dat.list (it.1.map .int), .int it.2.1, .int it.2.2].all (kqdOk (n + 1))) = true
  simp only [List.all_cons, List.all_nil, Bool.and_true, Bool.and_eq_true]
  exact ⟨ints_ok, rfl, rfl⟩
theorem its_ok {its : List It} : kqdOk 8 (.list (its.map itDat)) = true := by
  show ((its.map itDat).all (kqdOk 7)) = true
  rw [List.all_map, List.all_eq_true]; intro x _; exact itDat_ok
/-- what is due, as a list -/
noncomputable def optV : Option Int → V
  | none => V.none
  | some x => .int x
noncomputable abbrev duV (du : Du) (k : Int) : V := .tup [optV (du k).1, .int (du k).2]
noncomputable abbrev duL (du : Du) : List V := (List.range 7).map fun k : Nat => duV du (k : Int)
theorem du_get {du : Du} {p : Int} (h0 : 0 ≤ p) (h7 : p < 7) : (duL du)[p.toNat]? = some (duV du p) := by
  rw [List.getElem?_map, List.getElem?_range (by omega)]
  show some (duV du ((p.toNat : Nat) : Int)) = _
  rw [Int.toNat_of_nonneg h0]
theorem du_set {du : Du} {j : Int} {w t : Int} (h0 : 0 ≤ j) (h : j < 7) : (duL du).set j.toNat (.tup [.int w, .int t]) = duL (upd du j (some w, t)) := by
  apply List.ext_getElem?
  intro i
  rw [List.getElem?_set]
  simp only [List.length_map, List.length_range, List.getElem?_map]
  by_cases e : j.toNat = i
  · subst e
    rw [if_pos rfl, if_pos (by omega), List.getElem?_range (by omega)]
    show _ = some (duV (upd du j (some w, t)) ((j.toNat : Nat) : Int))
    rw [Int.toNat_of_nonneg h0]
    unfold duV
    rw [upd_same]; rfl
  · rw [if_neg e]
    by_cases hi : i < 7
    · rw [List.getElem?_range hi]
      show _ = some (duV (upd du j (some w, t)) (i : Nat))
      unfold duV
      rw [upd_ne (by omega)]; rfl
    · rw [List.getElem?_eq_none (by simp; omega)]; rfl
theorem nint_tups {l : List Int} {vs : List V} (hl : l ≠ []) (hv : ∀ v ∈ vs, ∃ t, v = V.tup t) : CObj.list (l.map .int) ≠ .list vs := by
  intro e
  injection e with e
  cases l with
  | nil => exact hl rfl
  | cons a r =>
    obtain ⟨t, q⟩ := hv (.int a) (by rw [← e]; simp)
    cases q
theorem RV.tups {H : CH} {vs : List V} {its : List It} (h : RV H vs its) : ∀ v ∈ vs, ∃ t, v = V.tup t := by
  induction h with
  | nil => intro v h; cases h
  | cons _ _ _ ih =>
    intro v h
    rcases List.mem_cons.mp h with e | e
    · exact ⟨_, e⟩
    · exact ih v e
theorem du_tups {du : Du} : ∀ v ∈ duL du, ∃ t, v = V.tup t := by
  intro v h
  obtain ⟨k, _, rfl⟩ := List.mem_map.mp h
  exact ⟨_, rfl⟩
/-- the state of the search -/
structure AW (H H' : CH) (d1 d2 dl : Addr) (l g : Int → Option Int) (n : Nat) (du : Du) : Prop where
  keep : ∀ b, H b ≠ none → H' b = H b
  h1 : FD H' d1 l n
  h2 : FD H' d2 g n
  hdl : H' dl = some (.list (duL du))
  fdl : H dl = none
theorem AW.more {H H' H'' : CH} {d1 d2 dl : Addr} {l g : Int → Option Int} {n : Nat} {du : Du} (S : AW H H' d1 d2 dl l g n du) (k : ∀ b, H' b ≠ none → H'' b = H' b) : AW H H'' d1 d2 dl l g n du :=
  ⟨fun b hb => (k b (by rw [S.keep b hb]; exact hb)).trans (S.keep b hb), S.h1.keep (k d1), S.h2.keep (k d2), (k dl (by rw [S.hdl]; simp)).trans S.hdl, S.fdl⟩
theorem AW.setDl {H H' : CH} {d1 d2 dl : Addr} {l g : Int → Option Int} {n : Nat} {du : Du} (S : AW H H' d1 d2 dl l g n du) (du' : Du) : AW H (H'.set dl (.list (duL du'))) d1 d2 dl l g n du' := by
  have nd : ∀ {d : Addr} {f : Int → Option Int}, FD H' d f n → d ≠ dl := fun {d f} h e => by
    obtain ⟨_, _, q, _⟩ := h
    rw [e, S.hdl] at q; cases q
  exact ⟨fun b hb => by rw [CH.set_ne (ne_out hb S.fdl)]; exact S.keep b hb, S.h1.keep fun _ => CH.set_ne (nd S.h1), S.h2.keep fun _ => CH.set_ne (nd S.h2), CH.set_same, S.fdl⟩
theorem AW.setG {H H' : CH} {d1 d2 dl gl : Addr} {l g : Int → Option Int} {n : Nat} {du : Du} (S : AW H H' d1 d2 dl l g n du) {vs ws : List V} (hg : H' gl = some (.list vs)) (hn : gl ≠ dl) (hf : H gl = none) : AW H (H'.set gl (.list ws)) d1 d2 dl l g n du := by
  have nd : ∀ {d : Addr} {f : Int → Option Int}, FD H' d f n → d ≠ gl := fun {d f} h e => by
    obtain ⟨_, _, q, _⟩ := h
    rw [e, hg] at q; cases q
  exact ⟨fun b hb => by rw [CH.set_ne (ne_out hb hf)]; exact S.keep b hb, S.h1.keep fun _ => CH.set_ne (nd S.h1), S.h2.keep fun _ => CH.set_ne (nd S.h2), by rw [CH.set_ne (Ne.symm hn)]; exact S.hdl, S.fdl⟩
theorem RV.at {H : CH} {vs ws us : List V} {its : List It} {gl : Addr} (R : RV H vs its) (hg : H gl = some (.list ws)) (ht : ∀ v ∈ ws, ∃ t, v = V.tup t) : RV (H.set gl (.list us)) vs its :=
  R.keep fun r l hr hl => CH.set_ne fun e => by
    rw [e, hg] at hr
    exact nint_tups hl ht (Option.some.inj hr).symm
theorem last_get {l : List Int} (h : l ≠ []) : (l.map V.int)[(-1 + ((l.map V.int).length : Int)).toNat]? = some (.int (l.getLastD 0)) := by
  rw [List.length_map, List.getElem?_map]
  have hl : 0 < l.length := List.length_pos_iff.mpr h
  have e : (-1 + (l.length : Int)).toNat = l.length - 1 := by omega
  rw [e, ← List.getLast?_eq_getElem?, List.getLastD_eq_getLast?]
  cases q : l.getLast? with
  | none => exact absurd (List.getLast?_eq_none_iff.mp q) h
  | some x => rfl
theorem mf_le {l : Int → Option Int} {W : List Wy} {k : Int} : ∃ n : Nat, (mf l W k).getD 0 = n ∧ n ≤ W.length := ⟨_, mf_spec, List.length_filter_le _ _⟩
theorem g_min {P : Params} : nsIn (KK P) mainGlobals "min" = some none := by kernel_rfl
theorem b_min : bootBuiltins "min" = some (.builtin "min") := by kernel_rfl
section
variable {C : Cx} {A : Around} {m : Loc} {H : CH} {s : Shared} {mg mb : Str → Option Value} {P : Params}
theorem mul7 {b : Int} : IntMulOk 7 b := .of_left (by decide)
noncomputable def AWPost (W : List Wy) (H : CH) (v : V) (H' : CH) : Prop := ∃ dl T, v = .ref dl ∧ H dl = none ∧ (runA (lf W) (mf (lf W) W) T).1 = [] ∧ H' dl = some (.list (duL (runA (lf W) (mf (lf W) W) T).2)) ∧ ∀ b, H b ≠ none → H' b = H b
noncomputable def AWI (W : List Wy) (H : CH) (d1 d2 dl wl : Addr) (l : Int → Option Int) (n : Nat) (m' : Loc) (H' : CH) : Prop := ∃ t rl vs, m' = ([("rows", .ref rl), ("due", .ref dl), ("many", .ref d2), ("least", .ref d1), ("ways", .ref wl)] : Loc) ∧ AW H H' d1 d2 dl l (mf l W) W.length (runA l (mf l W) t).2 ∧ RV H' vs (LV l (mf l W) t) ∧ H' rl = some (.list vs) ∧ n = 7 - t ∧ vs.length ≤ 7 ^ t ∧ rl ≠ dl
noncomputable def AWM (W : List Wy) (H : CH) (d1 d2 dl gl rl wl : Addr) (l : Int → Option Int) (t : Nat) (vs : List V) (m' : Loc) (H' : CH) : Prop := m' = ([("grown", .ref gl), ("rows", .ref rl), ("due", .ref dl), ("many", .ref d2), ("least", .ref d1), ("ways", .ref wl)] : Loc) ∧ ∃ vo, AW H H' d1 d2 dl l (mf l W) W.length (runA l (mf l W) (t + 1)).2 ∧ RV H' vo (LV l (mf l W) (t + 1)) ∧ H' gl = some (.list vo) ∧ vo.length ≤ 7 * vs.length
noncomputable def AWJ (W : List Wy) (H : CH) (d1 d2 dl gl rl wl : Addr) (l : Int → Option Int) (t : Nat) (vs : List V) (i : Nat) (m' : Loc) (H' : CH) : Prop := m' = ([("grown", .ref gl), ("rows", .ref rl), ("due", .ref dl), ("many", .ref d2), ("least", .ref d1), ("ways", .ref wl)] : Loc) ∧ H' rl = some (.list vs) ∧ RV H' vs (LV l (mf l W) t) ∧ ∃ vo, AW H H' d1 d2 dl l (mf l W) W.length (((LV l (mf l W) t).take i).foldl (stepRow l (mf l W)) ([], (runA l (mf l W) t).2)).2 ∧ RV H' vo (((LV l (mf l W) t).take i).foldl (stepRow l (mf l W)) ([], (runA l (mf l W) t).2)).1 ∧ H' gl = some (.list vo) ∧ vo.length ≤ 7 * i
noncomputable def AWB (W : List Wy) (H : CH) (d1 d2 dl gl rl r : Addr) (l : Int → Option Int) (t : Nat) (vs : List V) (it : It) (i : Nat) (S0 : List It × Du) (j : Nat) (H' : CH) : Prop := H' rl = some (.list vs) ∧ H' r = some (.list (it.1.map .int)) ∧ RV H' vs (LV l (mf l W) t) ∧ ∃ vo, AW H H' d1 d2 dl l (mf l W) W.length ((ups j).foldl (stepB l (mf l W) it) S0).2 ∧ RV H' vo ((ups j).foldl (stepB l (mf l W) it) S0).1 ∧ H' gl = some (.list vo) ∧ vo.length ≤ 7 * i + j
noncomputable def AWK (W : List Wy) (H : CH) (d1 d2 dl gl rl wl r : Addr) (l : Int → Option Int) (t : Nat) (vs : List V) (it : It) (i : Nat) (S0 : List It × Du) (j : Nat) (m' : Loc) (H' : CH) : Prop := m' = ([("count", .int it.2.2), ("length", .int it.2.1), ("row", .ref r), ("grown", .ref gl), ("rows", .ref rl), ("due", .ref dl), ("many", .ref d2), ("least", .ref d1), ("ways", .ref wl)] : Loc) ∧ AWB W H d1 d2 dl gl rl r l t vs it i S0 j H'
set_option maxHeartbeats 4000000 in
theorem spec_allways {wl : Addr} {W : List Wy} (ok : Fine W) (B : Bs C.h₀ (KK P) mg mb) {n : Nat} (hA : AOK C A (n + 2)) (hw : H wl = some (.list (W.map wv))) (hsz : W.length ≤ 1000) :
    CALL C A (.con (.ref a_allways)) [.ref wl] [] H (AWPost W H) := by
  refine CALL_K B (by with_unfolding_all rfl) (by with_unfolding_all rfl) hA .pos1 (by with_unfolding_all rfl) rfl fun L hL hL0 hA' => ?_
  refine (show EX _ _ _ [("ways", .ref wl)] H _ from ?_)
  have hw0 : H wl ≠ none := by rw [hw]; simp
  have hz : 1000000 < sizeLine := by decide
  repeat walk_at "x"
  refine EV_dict fun d1 hd1 _ => ?_
  repeat walk_at "x"
  have wk : ∀ {H' : CH}, (∀ b, H b ≠ none → H' b = H b) → H' wl = some (.list (W.map wv)) := fun {H'} k => (k wl hw0).trans hw
  refine EX_mid (st := .For _ _ _ _ _) (fun m' H' => m' = ([("least", .ref d1), ("ways", .ref wl)] : Loc) ∧ (∀ b, H b ≠ none → H' b = H b) ∧ FD H' d1 (lf W) W.length) (ES_for' ?_) fun m₁ H₁ hM => ?_
  · repeat walk_at "x"
    refine ⟨W.map wv, (fun H' => H' wl = some (.list (W.map wv))), [("least", .ref d1), ("ways", .ref wl)], fun i m' H' => m' = ([("least", .ref d1), ("ways", .ref wl)] : Loc) ∧ (∀ b, H b ≠ none → H' b = H b) ∧ FD H' d1 (lf (W.take i)) i ∧ i ≤ W.length,
      seq_own hA'.handled (wk fun b hb => CH.set_ne (ne_out hb hd1)), .cons rfl (.cons rfl .nil), ⟨rfl, fun b hb => CH.set_ne (ne_out hb hd1), ⟨[], 0, CH.set_same, fun k => rfl, Nat.le_refl _⟩, Nat.zero_le _⟩, ?_⟩
    rintro i m' H' ⟨rfl, hk, hF, hil⟩
    refine ⟨wk hk, fun y hy => ?_, fun hi => ?_⟩
    · obtain ⟨w, hwi, rfl⟩ := ways_get hy
      have hil' := (List.getElem?_eq_some_iff.mp hwi).1
      obtain ⟨kvs, ep, hd, hl, hn⟩ := hF
      have estep : lf (W.take (i + 1)) = lfStep (lf (W.take i)) w := take_fold hwi
      generalize lf (W.take i) = f at *
      refine ASG_tuple hA'.handled rfl ?_
      repeat walk_at "x"
      refine EV_b B g_min b_min ?_
      repeat walk_at "x"
      refine GM_dict hd F.slot_dict_get F.type_dict_get ?_
      repeat walk_at "x"
      refine O2_mul mul7 ?_
      repeat walk_at "x"
      refine ⟨KP_built, CV_get2 B hd ?_⟩
      have e1 : (kvs.lookup (7 * w.1 + w.2.1)).getD (V.int w.2.2) = .int ((f (key w)).getD w.2.2) := by
        rw [hl]; show ((f (key w)).map V.int).getD (V.int w.2.2) = _
        cases f (key w) <;> rfl
      rw [e1]
      repeat walk_at "x"
      refine ⟨KP_built, CV_min2 hA'.handled ?_⟩
      repeat walk_at "x"
      refine O2_mul mul7 ?_
      repeat walk_at "x"
      refine set_dict hd (by omega) fun ep' => ?_
      repeat walk_at "x"
      refine ⟨_, .cons rfl (.cons rfl .nil), rfl, fun b hb => ?_, ?_, hil'⟩
      · rw [CH.set_ne (ne_out hb hd1)]; exact hk b hb
      · rw [estep]; exact FD.put hl hn
    · rw [List.length_map] at hi
      subst hi
      rw [List.take_length] at hF
      repeat walk_at "x"
      exact ⟨rfl, hk, hF⟩
  · obtain ⟨rfl, hk1, hF1⟩ := hM
    repeat walk_at "x"
    refine EV_dict fun d2 hd2 _ => ?_
    repeat walk_at "x"
    have hd2H : H d2 = none := by
      cases q : H d2 with
      | none => rfl
      | some o => rw [hk1 d2 (by rw [q]; simp), q] at hd2; cases hd2
    have hl0 : ∀ w ∈ W, ∃ x, lf W (key w) = some x := fun w hw => lf_has hw
    generalize hlf : lf W = l at *
    refine EX_mid (st := .For _ _ _ _ _) (fun m' H' => m' = ([("many", .ref d2), ("least", .ref d1), ("ways", .ref wl)] : Loc) ∧ (∀ b, H b ≠ none → H' b = H b) ∧ FD H' d1 l W.length ∧ FD H' d2 (mf l W) W.length) (ES_for' ?_) fun m₂ H₂ hM => ?_
    · repeat walk_at "x"
      refine ⟨W.map wv, (fun H' => H' wl = some (.list (W.map wv))), [("many", .ref d2), ("least", .ref d1), ("ways", .ref wl)], fun i m' H' => m' = ([("many", .ref d2), ("least", .ref d1), ("ways", .ref wl)] : Loc) ∧ (∀ b, H b ≠ none → H' b = H b) ∧ FD H' d1 l W.length ∧ FD H' d2 (mf l (W.take i)) i ∧ i ≤ W.length,
        seq_own hA'.handled (wk fun b hb => by rw [CH.set_ne (ne_out hb hd2H)]; exact hk1 b hb), .cons rfl (.cons rfl (.cons rfl .nil)), ⟨rfl, fun b hb => by rw [CH.set_ne (ne_out hb hd2H)]; exact hk1 b hb, hF1.keep fun h => CH.set_ne (ne_out h hd2), ⟨[], 0, CH.set_same, fun k => rfl, Nat.le_refl _⟩, Nat.zero_le _⟩, ?_⟩
      rintro i m' H' ⟨rfl, hk, hF1', hF, hil⟩
      refine ⟨wk hk, fun y hy => ?_, fun hi => ?_⟩
      · obtain ⟨w, hwi, rfl⟩ := ways_get hy
        have hil' := (List.getElem?_eq_some_iff.mp hwi).1
        obtain ⟨kvs, ep, hd, hl, hn⟩ := hF
        obtain ⟨kvs1, ep1, hdd, hll, hnn⟩ := id hF1'
        have estep : mf l (W.take (i + 1)) = mfStep l (mf l (W.take i)) w := take_fold hwi
        obtain ⟨x, hx⟩ := hl0 w (List.mem_of_getElem? hwi)
        have hne : d1 ≠ d2 := fun e => hF1.ne (by rw [e]; exact hd2)
        generalize mf l (W.take i) = f at *
        refine ASG_tuple hA'.handled rfl ?_
        repeat walk_at "x"
        walk_at "xi"
        refine O2_mul mul7 ?_
        repeat walk_at "x"
        refine sub_dict (v := .int x) hdd (by rw [hll]; show (l (key w)).map V.int = _; rw [hx]; rfl) ?_
        repeat walk_at "x"
        refine ⟨_, rfl, fun q => ?_, fun q => ?_⟩
        · have q : w.2.2 = x := by simpa using q
          repeat walk_at "x"
          refine GM_dict hd F.slot_dict_get F.type_dict_get ?_
          repeat walk_at "x"
          refine O2_mul mul7 ?_
          repeat walk_at "x"
          refine ⟨KP_built, CV_get2 B hd ?_⟩
          have e1 : (kvs.lookup (7 * w.1 + w.2.1)).getD (V.int 0) = .int ((f (key w)).getD 0) := by
            rw [hl]; show ((f (key w)).map V.int).getD (V.int 0) = _
            cases f (key w) <;> rfl
          rw [e1]
          repeat walk_at "x"
          refine O2_mul mul7 ?_
          repeat walk_at "x"
          refine set_dict hd (by omega) fun ep' => ?_
          repeat walk_at "x"
          refine ⟨_, .cons rfl (.cons rfl (.cons rfl .nil)), rfl, fun b hb => ?_, hF1'.keep fun _ => CH.set_ne hne, ?_, hil'⟩
          · rw [CH.set_ne (ne_out hb hd2H)]; exact hk b hb
          · rw [estep]; unfold mfStep; rw [if_pos (by rw [hx, q])]; exact FD.put hl hn
        · have q : w.2.2 ≠ x := by simpa using q
          repeat walk_at "x"
          refine ⟨_, .cons rfl (.cons rfl (.cons rfl .nil)), rfl, hk, hF1', ?_, hil'⟩
          rw [estep]; unfold mfStep; rw [if_neg (fun e => q (by rw [hx] at e; exact (Option.some.inj e).symm))]
          exact ⟨kvs, ep, hd, hl, Nat.le_succ_of_le hn⟩
      · rw [List.length_map] at hi
        subst hi
        rw [List.take_length] at hF
        repeat walk_at "x"
        exact ⟨rfl, hk, hF1', hF⟩
    · obtain ⟨rfl, hk2, hF12, hF22⟩ := hM
      clear hd2 hF1 hk1 hd1 
      repeat walk_at "x"
      refine EV_list ?_
      repeat walk_at "x"
      refine ⟨by decide, ?_⟩
      repeat walk_at "x"
      refine ⟨by decide, fun z hz0 => ?_⟩
      repeat walk_at "x"
      refine EV_lc ?_
      repeat walk_at "x"
      refine EV_b B g_range b_range ?_
      repeat walk_at "x"
      refine ⟨KP_type, CV_range1 ?_⟩
      refine LC_pure (List.range 6) (fun i => .int (0 + (i : Nat) * 1)) (fun _ => true) (fun _ => .tup [V.none, .int 0]) (ok := fun _ => True)
        (seq_rng1 (n := 6) hA'.handled (by decide)) trivial (by decide) (fun i hi LC hLC => ?_) fun z2 hz2 _ => ?_
      · repeat walk_at "x"
        refine ⟨rfl, rfl, fun _ => ?_⟩
        repeat walk_at "x"
        refine ⟨by decide, rfl, rfl⟩
      have k2 : ∀ b, H₂ b ≠ none → ((H₂.set z (.list [.tup [.int 0, .int 1]])).set z2 (.list (((List.range 6).filter fun _ => true).map fun _ => .tup [V.none, .int 0]))) b = H₂ b := fun b hb => by
        have hzz : H₂ z2 = none := by
          rw [CH.set_ne] at hz2
          · exact hz2
          · intro e; rw [e, CH.set_same] at hz2; cases hz2
        rw [CH.set_ne (ne_out hb hzz), CH.set_ne (ne_out hb hz0)]
      have hzn : z ≠ z2 := fun e => by rw [← e, CH.set_same] at hz2; cases hz2
      refine add_lists (.own (by rw [CH.set_ne hzn, CH.set_same])) (.own CH.set_same) (by decide) fun dl hdl => ?_
      have hcap : ∃ H₃, H₃ = (((H₂.set z (.list [.tup [.int 0, .int 1]])).set z2 (.list (((List.range 6).filter fun _ => true).map fun _ => .tup [V.none, .int 0]))).set dl (.list ([.tup [.int 0, .int 1]] ++ ((List.range 6).filter fun _ => true).map fun _ => .tup [V.none, .int 0]))) := ⟨_, rfl⟩
      obtain ⟨H₃, hH3⟩ := hcap
      have hdl2 : H₂ dl = none := by
        cases q : H₂ dl with
        | none => rfl
        | some o => rw [k2 dl (by rw [q]; simp), q] at hdl; cases hdl
      have Z0 : AW H H₃ d1 d2 dl l (mf l W) W.length du0 := by
        have k3 : ∀ b, H₂ b ≠ none → H₃ b = H₂ b := fun b hb => by rw [hH3, CH.set_ne (ne_out hb hdl2)]; exact k2 b hb
        refine ⟨fun b hb => (k3 b (by rw [hk2 b hb]; exact hb)).trans (hk2 b hb), hF12.keep (k3 d1), hF22.keep (k3 d2), by rw [hH3, CH.set_same]; rfl, ?_⟩
        cases q : H dl with
        | none => rfl
        | some o => rw [hk2 dl (by rw [q]; simp), q] at hdl2; cases hdl2
      rw [← hH3]
      clear hH3 hdl k2 hz2 hz0 hd2H
      clear hF12 hF22 hk2 hdl2
      repeat walk_at "x"
      refine EV_list ?_
      repeat walk_at "x"
      refine EV_list ?_
      repeat walk_at "x"
      refine ⟨by decide, fun r0 hr0 => ?_⟩
      repeat walk_at "x"
      refine ⟨by show 3 ≤ sizeLine; decide, ?_⟩
      repeat walk_at "x"
      refine ⟨by show 1 ≤ sizeLine; decide, fun rl hrl => ?_⟩
      repeat walk_at "x"
      have nr : r0 ≠ rl := fun e => by rw [← e, CH.set_same] at hrl; cases hrl
      have hrl3 : H₃ rl = none := by rw [CH.set_ne (Ne.symm nr)] at hrl; exact hrl
      have Z1 : AW H ((H₃.set r0 (.list [.int 0])).set rl (.list [.tup [.ref r0, .int 0, .int 1]])) d1 d2 dl l (mf l W) W.length du0 := Z0.more fun b hb => by rw [CH.set_ne (ne_out hb hrl3), CH.set_ne (ne_out hb hr0)]
      have R1 : RV ((H₃.set r0 (.list [.int 0])).set rl (.list [.tup [.ref r0, .int 0, .int 1]])) [.tup [.ref r0, .int 0, .int 1]] (LV l (mf l W) 0) := .cons (it := ([0], 0, 1)) (by rw [CH.set_ne nr, CH.set_same]; rfl) (by simp) .nil
      refine EX_cons (st := .While _ _ _ _) (ES_while (AWI W H d1 d2 dl wl l) _ [("rows", .ref rl), ("due", .ref dl), ("many", .ref d2), ("least", .ref d1), ("ways", .ref wl)] (.cons rfl (.cons rfl (.cons rfl (.cons rfl (.cons rfl .nil)))))
        ⟨0, rl, _, rfl, Z1, R1, CH.set_same, rfl, Nat.le_refl _, fun e => by rw [e, Z0.hdl] at hrl3; cases hrl3⟩ ?_)
      clear Z0 Z1 R1 nr hr0 hrl hrl3
      rintro n' m' H' ⟨t, rl, vs, rfl, Z, R, hrl, rfl, hvl, nrd⟩
      have hLok : ∀ it ∈ LV l (mf l W) t, ItOk W t it := by subst hlf; exact LV_ok ok
      have ht6 : LV l (mf l W) t ≠ [] → t ≤ 6 := fun h => by
        obtain ⟨it, hit⟩ := List.exists_mem_of_ne_nil _ h
        exact (hLok it hit).row.short
      have hv6 : vs.length ≤ 7 ^ 6 := by
        by_cases h : LV l (mf l W) t = []
        · rw [R.length, h]; decide
        · exact Nat.le_trans hvl (Nat.pow_le_pow_right (by decide) (ht6 h))
      have h76 : 7 * 7 ^ 6 + 7 < sizeLine := by decide
      repeat walk_at "x"
      refine EV_list ?_
      repeat walk_at "x"
      refine ⟨by decide, fun E hE => ?_⟩
      have kE : ∀ b, H' b ≠ none → (H'.set E (.list [])) b = H' b := fun b hb => CH.set_ne (ne_out hb hE)
      have R' : RV (H'.set E (.list [])) vs (LV l (mf l W) t) := R.keep fun r q h _ => kE r (by rw [h]; simp)
      have Z' := Z.more kE
      have hrl' := (kE rl (by rw [hrl]; simp)).trans hrl
      refine O2_ned (.list (.own hrl') R'.dat) (.list (.own CH.set_same) .nil) its_ok (by decide) (by have := hA'.units; omega) fun b hb => ?_
      have hb : b = true ↔ LV l (mf l W) t ≠ [] := by
        rw [hb]
        refine not_congr ⟨fun e => ?_, fun e => by rw [e]; rfl⟩
        injection e with e
        exact List.map_eq_nil_iff.mp e
      clear kE hE Z R hrl
      generalize (H'.set E (.list [])) = H' at *
      refine ⟨_, rfl, fun q => ?_, fun q => ?_⟩
      · have hne := hb.mp q
        have ht := ht6 hne
        repeat walk_at "x"
        refine EV_list ?_
        repeat walk_at "x"
        refine ⟨by decide, fun gl hgl => ?_⟩
        repeat walk_at "x"
        have hgH : H gl = none := by
          cases q : H gl with
          | none => rfl
          | some o => rw [Z'.keep gl (by rw [q]; simp), q] at hgl; cases hgl
        have ngd : gl ≠ dl := fun e => by rw [e, Z'.hdl] at hgl; cases hgl
        have ngr : rl ≠ gl := fun e => by rw [← e, hrl'] at hgl; cases hgl
        have kg : ∀ b, H' b ≠ none → (H'.set gl (.list [])) b = H' b := fun b hb => CH.set_ne (ne_out hb hgl)
        have Z2 := Z'.more kg
        have R2 : RV (H'.set gl (.list [])) vs (LV l (mf l W) t) := R'.keep fun r q h _ => kg r (by rw [h]; simp)
        have hrl2 := (kg rl (by rw [hrl']; simp)).trans hrl'
        have hg2 : (H'.set gl (.list [])) gl = some (.list []) := CH.set_same
        clear kg hgl R' Z' hrl' hb
        generalize (H'.set gl (.list [])) = H₄ at *
        refine EX_mid (st := .For _ _ _ _ _) (AWM W H d1 d2 dl gl rl wl l t vs) (ES_for' ?_) fun m₅ H₅ hM => ?_
        · repeat walk_at "x"
          refine ⟨vs, (fun H' => H' rl = some (.list vs)), [("grown", .ref gl), ("rows", .ref rl), ("due", .ref dl), ("many", .ref d2), ("least", .ref d1), ("ways", .ref wl)], AWJ W H d1 d2 dl gl rl wl l t vs,
            seq_own hA'.handled hrl2, .cons rfl (.cons rfl (.cons rfl (.cons rfl (.cons rfl (.cons rfl .nil))))), ⟨rfl, hrl2, R2, [], Z2, .nil, hg2, Nat.le_refl _⟩, ?_⟩
          rintro i m' H' ⟨rfl, hrl3, R3, vo, Z3, Ro3, hg3, hvo⟩
          refine ⟨hrl3, fun y hy => ?_, fun hi => ?_⟩
          · obtain ⟨it, r, hit, rfl, hr, hne'⟩ := R3.get hy
            have hil : i < vs.length := (List.getElem?_eq_some_iff.mp hy).1
            have Iok := hLok it (List.mem_of_getElem? hit)
            have estep := take_fold (f := stepRow l (mf l W)) (T := (([] : List It), (runA l (mf l W) t).2)) hit
            refine ASG_tuple hA'.handled rfl ?_
            repeat walk_at "x"
            generalize ((LV l (mf l W) t).take i).foldl (stepRow l (mf l W)) ([], (runA l (mf l W) t).2) = S0 at *
            refine EX_cons (st := .For _ _ _ _ _) (ES_for' ?_)
            repeat walk_at "x"
            refine EV_b B g_range b_range ?_
            repeat walk_at "x"
            refine ⟨KP_type, CV_range1 ?_⟩
            refine ⟨rangeInts 0 1 7, (fun _ => True), [("count", .int it.2.2), ("length", .int it.2.1), ("row", .ref r), ("grown", .ref gl), ("rows", .ref rl), ("due", .ref dl), ("many", .ref d2), ("least", .ref d1), ("ways", .ref wl)], AWK W H d1 d2 dl gl rl wl r l t vs it i S0,
              seq_rng1 (n := 7) hA'.handled (by decide), .cons rfl (.cons rfl (.cons rfl (.cons rfl (.cons rfl (.cons rfl (.cons rfl (.cons rfl (.cons rfl .nil)))))))), ⟨rfl, hrl3, hr, R3, vo, Z3, Ro3, hg3, hvo⟩, ?_⟩
            clear Z3 Ro3 hg3 hrl3 R3 hr hvo
            rintro j m' H' ⟨rfl, hrl3, hr, R3, vo, Z3, Ro3, hg3, hvo⟩
            refine ⟨trivial, fun y hy => ?_, fun hi => ?_⟩
            · rw [rangeInts_get] at hy
              by_cases hj7 : j < 7
              · rw [if_pos hj7] at hy
                obtain rfl := (Option.some.inj hy).symm
                have es : (ups (j + 1)).foldl (stepB l (mf l W) it) S0 = stepB l (mf l W) it ((ups j).foldl (stepB l (mf l W) it) S0) (j : Int) := by rw [ups_succ, List.foldl_append]; rfl
                generalize (ups j).foldl (stepB l (mf l W) it) S0 = st at *
                rw [show (0 + (j : Int) * 1) = ((j : Nat) : Int) from by omega]
                have b0 : 0 ≤ ((j : Nat) : Int) := by omega
                have b7 : ((j : Nat) : Int) < 7 := by omega
                generalize ((j : Nat) : Int) = b at *
                have hrs : (it.1.map V.int).length ≤ sizeLine := by
                  rw [List.length_map, Iok.row.len]
                  have := Iok.row.short
                  have : 8 < sizeLine := by decide
                  omega
                have same : stepB l (mf l W) it st b = st → AWB W H d1 d2 dl gl rl r l t vs it i S0 (j + 1) H' := fun e => by
                  unfold AWB; rw [es, e]; exact ⟨hrl3, hr, R3, vo, Z3, Ro3, hg3, by omega⟩
                repeat walk_at "x"
                refine O1_neg ?_
                refine sub_list_neg (.own hr) (by decide) (by rw [List.length_map]; have := List.length_pos_iff.mpr hne'; omega) (last_get hne') hrs ?_
                refine O2_mul mul7 ?_
                repeat walk_at "x"
                walk_at "xi"
                obtain ⟨kv1, ep1, hd1, hl1, hn1⟩ := Z3.h1
                obtain ⟨kv2, ep2, hd2, hl2, hn2⟩ := Z3.h2
                refine O2_in_dict B hd1 ?_
                rw [hl1]
                cases hx : l (7 * it.1.getLastD 0 + b) with
                | none =>
                  refine ⟨_, rfl, fun q => (by cases q), fun _ => ⟨fun q => (by cases q), fun _ => ?_⟩⟩
                  repeat walk_at "x"
                  exact ⟨_, .cons rfl (.cons rfl (.cons rfl (.cons rfl (.cons rfl (.cons rfl (.cons rfl (.cons rfl (.cons rfl .nil)))))))), rfl, same (by unfold stepB ext lastOf; rw [hx])⟩
                | some x =>
                  refine ⟨_, rfl, fun _ => ?_, fun q => (by cases q)⟩
                  repeat walk_at "x"
                  refine O2_notinl (.own hr) (DRs.ints _) (.int b) (by intro e he; obtain ⟨z, _, rfl⟩ := List.mem_map.mp he; rfl) rfl (by have := hA'.units; omega) fun c hc => ?_
                  have hc : c = true ↔ b ∉ it.1 := by
                    rw [hc]
                    refine not_congr ⟨fun e => ?_, fun e => List.mem_map.mpr ⟨b, e, rfl⟩⟩
                    obtain ⟨z, hz, e⟩ := List.mem_map.mp e
                    injection e with e
                    exact e ▸ hz
                  refine ⟨_, rfl, fun q => ?_, fun q => ?_⟩
                  · have hnb := hc.mp q
                    obtain ⟨nm, hnm, hnmW⟩ := @mf_le l W (7 * it.1.getLastD 0 + b)
                    obtain ⟨mm, hmm⟩ : ∃ n, mf l W (7 * it.1.getLastD 0 + b) = some n := by
                      refine mf_has ?_
                      subst hlf
                      obtain ⟨⟨w, hw', hk', he'⟩, _⟩ := lf_spec hx
                      exact ⟨w, hw', hk', by rw [hx, he']⟩
                    have hnm : mm = (nm : Int) := by rw [hmm] at hnm; exact hnm
                    have eB : stepB l (mf l W) it st b = (st.1 ++ [(it.1 ++ [b], it.2.1 + x, it.2.2 * mm)], duStep st.2 b (it.2.1 + x) (it.2.2 * mm)) := by
                      unfold stepB ext
                      rw [show l (7 * lastOf it + b) = some x from hx]
                      simp only [hnb, if_false]
                      rw [show mf l W (7 * lastOf it + b) = some mm from hmm]; rfl
                    rw [eB] at es
                    clear same eB
                    repeat walk_at "x"
                    refine sub_dict (v := .int x) hd1 (by rw [hl1, hx]; rfl) ?_
                    repeat walk_at "x"
                    refine sub_dict (v := .int mm) hd2 (by rw [hl2, hmm]; rfl) ?_
                    refine O2_mul (.of_right (by rw [hnm]; exact intBits_cast_le (by omega))) ?_
                    repeat walk_at "x"
                    refine GM_list (.own hg3) F.slot_list_append F.type_list_append ?_
                    repeat walk_at "x"
                    refine EV_list ?_
                    repeat walk_at "x"
                    refine ⟨by show 1 ≤ sizeLine; decide, fun E2 hE2 => ?_⟩
                    refine add_lists (.own (by rw [CH.set_ne (ne_out (by rw [hr]; simp) hE2)]; exact hr)) (.own CH.set_same) (by rw [List.length_map, Iok.row.len]; have := Iok.row.short; have : 9 < sizeLine := (by decide); simp; omega) fun r2 hr2 => ?_
                    have nE : E2 ≠ r2 := fun e => by rw [← e, CH.set_same] at hr2; cases hr2
                    have hr20 : H' r2 = none := by rw [CH.set_ne (Ne.symm nE)] at hr2; exact hr2
                    have k5 : ∀ c, H' c ≠ none → ((H'.set E2 (.list [.int b])).set r2 (.list (it.1.map V.int ++ [.int b]))) c = H' c := fun c hc => by rw [CH.set_ne (ne_out hc hr20), CH.set_ne (ne_out hc hE2)]
                    have hr25 : ((H'.set E2 (.list [.int b])).set r2 (.list (it.1.map V.int ++ [.int b]))) r2 = some (.list ((it.1 ++ [b]).map V.int)) := by rw [CH.set_same, List.map_append]; rfl
                    have Z4 := Z3.more k5
                    have Ro4 := Ro3.keep (H' := ((H'.set E2 (.list [.int b])).set r2 (.list (it.1.map V.int ++ [.int b])))) fun r q h _ => k5 r (by rw [h]; simp)
                    have R4 := R3.keep (H' := ((H'.set E2 (.list [.int b])).set r2 (.list (it.1.map V.int ++ [.int b])))) fun r q h _ => k5 r (by rw [h]; simp)
                    have hg4 := (k5 gl (by rw [hg3]; simp)).trans hg3
                    have hr4 := (k5 r (by rw [hr]; simp)).trans hr
                    have hrl4 := (k5 rl (by rw [hrl3]; simp)).trans hrl3
                    clear k5 hE2 hr2 hr20 Z3 Ro3 R3 hg3 hr hrl3 hd1 hd2 nE
                    generalize ((H'.set E2 (.list [.int b])).set r2 (.list (it.1.map V.int ++ [.int b]))) = H5 at *
                    repeat walk_at "x"
                    refine ⟨by show 3 ≤ sizeLine; decide, ?_⟩
                    repeat walk_at "x"
                    refine ⟨KP_built, CV_append hg4 (by omega) ?_⟩
                    have Z5 := Z4.setG (ws := vo ++ [.tup [.ref r2, .int (it.2.1 + x), .int (it.2.2 * mm)]]) hg4 ngd hgH
                    have R5 := R4.at (us := vo ++ [.tup [.ref r2, .int (it.2.1 + x), .int (it.2.2 * mm)]]) hg4 Ro4.tups
                    have Ro5 := (Ro4.app (it := (it.1 ++ [b], it.2.1 + x, it.2.2 * mm)) hr25 (by simp)).at (us := vo ++ [.tup [.ref r2, .int (it.2.1 + x), .int (it.2.2 * mm)]]) hg4 Ro4.tups
                    have hr5 : (H5.set gl (.list (vo ++ [.tup [.ref r2, .int (it.2.1 + x), .int (it.2.2 * mm)]]))) r = some (.list (it.1.map .int)) := by
                      rw [CH.set_ne (fun e => by rw [e, hg4] at hr4; exact nint_tups hne' Ro4.tups (Option.some.inj hr4).symm)]; exact hr4
                    have hrl5 : (H5.set gl (.list (vo ++ [.tup [.ref r2, .int (it.2.1 + x), .int (it.2.2 * mm)]]))) rl = some (.list vs) := by rw [CH.set_ne ngr]; exact hrl4
                    have hg5 : (H5.set gl (.list (vo ++ [.tup [.ref r2, .int (it.2.1 + x), .int (it.2.2 * mm)]]))) gl = _ := CH.set_same
                    clear Z4 R4 Ro4 hr4 hrl4 hg4 hr25
                    generalize (H5.set gl (.list (vo ++ [.tup [.ref r2, .int (it.2.1 + x), .int (it.2.2 * mm)]]))) = H6 at *
                    have fin : ∀ du', duStep st.2 b (it.2.1 + x) (it.2.2 * mm) = du' → AWB W H d1 d2 dl gl rl r l t vs it i S0 (j + 1) (H6.set dl (.list (duL du'))) := fun du' e => by
                      unfold AWB; rw [es, e]
                      refine ⟨by rw [CH.set_ne nrd]; exact hrl5, ?_, R5.at Z5.hdl du_tups, _, Z5.setDl du', Ro5.at Z5.hdl du_tups, by rw [CH.set_ne ngd]; exact hg5, by simp; omega⟩
                      rw [CH.set_ne (fun e => by have q := hr5; rw [e, Z5.hdl] at q; exact nint_tups hne' du_tups (Option.some.inj q).symm)]; exact hr5
                    have hS7 : (duL st.2).length ≤ sizeLine := by simp [sizeLine]
                    repeat walk_at "x"
                    walk_at "xi"
                    refine sub_list (v := duV st.2 b) (.own Z5.hdl) b0 (du_get b0 b7) hS7 ?_
                    repeat walk_at "x"
                    refine sub_tup (v := optV (st.2 b).1) (by decide) rfl (by show 2 ≤ sizeLine; decide) ?_
                    repeat walk_at "x"
                    cases ho : (st.2 b).1 with
                    | none =>
                      refine ⟨_, rfl, fun _ => ⟨fun _ => ?_, fun q => (by cases q)⟩, fun q => (by cases q)⟩
                      repeat walk_at "x"
                      refine ⟨by show 2 ≤ sizeLine; decide, ?_⟩
                      repeat walk_at "x"
                      refine set_list Z5.hdl b0 (by simp; omega) hS7 ?_
                      rw [du_set b0 b7]
                      repeat walk_at "x"
                      exact ⟨_, .cons rfl (.cons rfl (.cons rfl (.cons rfl (.cons rfl (.cons rfl (.cons rfl (.cons rfl (.cons rfl .nil)))))))), rfl, fin _ (by unfold duStep; rw [ho])⟩
                    | some o =>
                      refine ⟨_, rfl, fun q => (by cases q), fun _ => ?_⟩
                      repeat walk_at "x"
                      refine sub_list (v := duV st.2 b) (.own Z5.hdl) b0 (du_get b0 b7) hS7 ?_
                      repeat walk_at "x"
                      refine sub_tup (v := .int o) (by decide) (by show some (optV (st.2 b).1) = _; rw [ho]; rfl) (by show 2 ≤ sizeLine; decide) ?_
                      repeat walk_at "x"
                      refine ⟨_, rfl, fun q => ?_, fun q => ?_⟩
                      · have q : it.2.1 + x < o := of_decide_eq_true q
                        repeat walk_at "x"
                        refine ⟨by show 2 ≤ sizeLine; decide, ?_⟩
                        repeat walk_at "x"
                        refine set_list Z5.hdl b0 (by simp; omega) hS7 ?_
                        rw [du_set b0 b7]
                        repeat walk_at "x"
                        exact ⟨_, .cons rfl (.cons rfl (.cons rfl (.cons rfl (.cons rfl (.cons rfl (.cons rfl (.cons rfl (.cons rfl .nil)))))))), rfl, fin _ (by unfold duStep; rw [ho]; exact if_pos q)⟩
                      · have q : ¬ it.2.1 + x < o := of_decide_eq_false q
                        repeat walk_at "x"
                        walk_at "xi"
                        refine sub_list (v := duV st.2 b) (.own Z5.hdl) b0 (du_get b0 b7) hS7 ?_
                        repeat walk_at "x"
                        refine sub_tup (v := .int o) (by decide) (by show some (optV (st.2 b).1) = _; rw [ho]; rfl) (by show 2 ≤ sizeLine; decide) ?_
                        repeat walk_at "x"
                        refine ⟨_, rfl, fun q2 => ?_, fun q2 => ?_⟩
                        · have q2 : it.2.1 + x = o := of_decide_eq_true q2
                          repeat walk_at "x"
                          refine sub_list (v := duV st.2 b) (.own Z5.hdl) b0 (du_get b0 b7) hS7 ?_
                          repeat walk_at "x"
                          refine sub_tup (v := .int (st.2 b).2) (by decide) rfl (by show 2 ≤ sizeLine; decide) ?_
                          repeat walk_at "x"
                          refine ⟨by show 2 ≤ sizeLine; decide, ?_⟩
                          repeat walk_at "x"
                          refine set_list Z5.hdl b0 (by simp; omega) hS7 ?_
                          rw [du_set b0 b7]
                          repeat walk_at "x"
                          exact ⟨_, .cons rfl (.cons rfl (.cons rfl (.cons rfl (.cons rfl (.cons rfl (.cons rfl (.cons rfl (.cons rfl .nil)))))))), rfl, fin _ (by unfold duStep; rw [ho]; show (if _ then _ else _) = _; rw [if_neg q, if_pos q2])⟩
                        · have q2 : it.2.1 + x ≠ o := of_decide_eq_false q2
                          have h0 := fin st.2 (by unfold duStep; rw [ho]; show (if _ then _ else _) = _; rw [if_neg q, if_neg q2])
                          rw [CH.set_self Z5.hdl] at h0
                          repeat walk_at "x"
                          exact ⟨_, .cons rfl (.cons rfl (.cons rfl (.cons rfl (.cons rfl (.cons rfl (.cons rfl (.cons rfl (.cons rfl .nil)))))))), rfl, h0⟩
                  · have hb : b ∈ it.1 := Classical.byContradiction fun h => by rw [hc.mpr h] at q; cases q
                    repeat walk_at "x"
                    exact ⟨_, .cons rfl (.cons rfl (.cons rfl (.cons rfl (.cons rfl (.cons rfl (.cons rfl (.cons rfl (.cons rfl .nil)))))))), rfl, same (by unfold stepB ext lastOf; rw [hx]; simp [hb])⟩
              · rw [if_neg hj7] at hy; cases hy
            · have hj : j = 7 := by rw [hi]; rfl
              subst hj
              repeat walk_at "x"
              exact ⟨_, .cons rfl (.cons rfl (.cons rfl (.cons rfl (.cons rfl (.cons rfl .nil))))), rfl, hrl3, R3, vo, by rw [estep]; exact Z3, by rw [estep]; exact Ro3, hg3, by omega⟩
          · have hlen : i = (LV l (mf l W) t).length := by rw [hi, R3.length]
            rw [List.take_of_length_le (by omega)] at Z3 Ro3
            have e := runA_succ (l := l) (g := mf l W) (t := t)
            have e2 : (LV l (mf l W) t).foldl (stepRow l (mf l W)) ([], (runA l (mf l W) t).2) = runA l (mf l W) (t + 1) := by
              show _ = level l (mf l W) (runA l (mf l W) t)
              unfold level; rw [e.2]
            rw [e2] at Z3 Ro3
            repeat walk_at "x"
            refine ⟨rfl, vo, Z3, ?_, hg3, by omega⟩
            rw [runA_fst] at Ro3; exact Ro3
        · obtain ⟨rfl, vo, Z5, R5, hg5, hvo⟩ := hM
          repeat walk_at "x"
          refine ⟨_, _, ?_, .cons rfl (.cons rfl (.cons rfl (.cons rfl (.cons rfl .nil)))), t + 1, gl, vo, rfl, Z5, R5, hg5, rfl, ?_, ngd⟩
          · omega
          · rw [Nat.pow_succ]; omega
      · have hnil : LV l (mf l W) t = [] := Classical.byContradiction fun h => by rw [hb.mpr h] at q; cases q
        repeat walk_at "x"
        subst hlf
        exact ⟨dl, t, rfl, Z'.fdl, by rw [runA_fst, hnil], Z'.hdl, Z'.keep⟩
end
end
section
theorem g_abs {P : Params} : nsIn (KK P) mainGlobals "abs" = some none := by kernel_rfl
theorem b_abs : bootBuiltins "abs" = some (.builtin "abs") := by kernel_rfl
theorem g_lengths {P : Params} : nsIn (KK P) mainGlobals "_law_lengths" = some (some (.ref a_lengths)) := by kernel_rfl
theorem g_counts {P : Params} : nsIn (KK P) mainGlobals "_law_counts" = some (some (.ref a_counts)) := by kernel_rfl
theorem g_allways {P : Params} : nsIn (KK P) mainGlobals "_law_all_ways" = some (some (.ref a_allways)) := by kernel_rfl
noncomputable def wyOf (x : Int) : Wy := (x.fmod 7, (x.fdiv 7).fmod 7, 1 + (if x.fdiv 49 < 0 then -x.fdiv 49 else x.fdiv 49))
noncomputable def waysOf (ns : List Int) : List Wy := [(0, 1, 4), (0, 2, 1), (2, 1, 3), (1, 3, 2)] ++ ns.map wyOf
theorem fmod7 (x : Int) : 0 ≤ x.fmod 7 ∧ x.fmod 7 < 7 := by
  rw [Int.fmod_eq_emod_of_nonneg _ (by decide)]; omega
theorem ways_fine (ns : List Int) : Fine (waysOf ns) := by
  intro w hw
  rcases List.mem_append.mp hw with h | h
  · simp at h
    rcases h with rfl | rfl | rfl | rfl <;> decide
  · obtain ⟨x, _, rfl⟩ := List.mem_map.mp h
    refine ⟨fmod7 x, fmod7 _, ?_⟩
    show 1 ≤ 1 + (if x.fdiv 49 < 0 then -x.fdiv 49 else x.fdiv 49)
    split <;> omega
noncomputable def optD : Option Int → Dat
  | none => .none
  | some x => .int x
theorem dr_pairs {C : Cx} {H : CH} {f : Nat → Option Int} {g : Nat → Int} {l : List Nat} : DRs C H (l.map fun k => V.tup [optV (f k), .int (g k)]) (l.map fun k => Dat.tuple [optD (f k), .int (g k)]) :=
  DRs.map fun k _ => .tup (.cons (by cases f k with
    | none => exact .none
    | some x => exact .int x) (.cons (.int _) .nil))
theorem pairs_ok {f : Nat → Option Int} {g : Nat → Int} {l : List Nat} : kqdOk 8 (.list (l.map fun k => Dat.tuple [optD (f k), .int (g k)])) = true := by
  show ((l.map fun k => Dat.tuple [optD (f k), .int (g k)]).all (kqdOk 7)) = true
  rw [List.all_map, List.all_eq_true]
  intro k _
  show ([optD (f k), .int (g k)].all (kqdOk 6)) = true
  cases f k <;> rfl
noncomputable def LawV (H : CH) (v : V) (H' : CH) : Prop := v = .bool true ∧ ∀ b, H b ≠ none → H' b = H b
section
variable {C : Cx} {A : Around} {m : Loc} {H : CH} {s : Shared} {mg mb : Str → Option Value} {P : Params}
set_option maxHeartbeats 4000000 in
theorem spec_law {l : Addr} {ns : List Int} {items : Array Value} (hlen : ns.length ≤ 63) (B : Bs C.h₀ (KK P) mg mb) {n : Nat} (hA : AOK C A (n + 10)) (hl : C.h₀.get? l = some (seqObj "list" items 0)) (hv : VRs C.h₀ (ns.map .int) items.toList) (hP : H 185 = some (.tab qsC)) :
    CALL C A (.con (.ref a_law)) [.ref l] [] H (LawV H) := by
  refine CALL_cells (m' := [("script", .ref l)]) B (by with_unfolding_all rfl) (by with_unfolding_all rfl) hA rfl bz1 (by intro L; simp [cellsFrom]; exact ⟨by with_unfolding_all rfl, by with_unfolding_all rfl, by with_unfolding_all rfl⟩) (by kernel_rfl) fun L hL hA' => ?_
  have hcell : setCells (cellsFrom (L + 1) [("script", .local), ("ways", .local), ("lengths", .cell), ("counts", .cell), ("_law_lengths", .globalImplicit), ("_law_counts", .globalImplicit), ("range", .globalImplicit), ("_law_all_ways", .globalImplicit)] []) (fun x => (([("script" : Str)].zip [V.ref l]).reverse.lookup x)) H = ((H.set (L + 1) (.cell none)).set (L + 2) (.cell none)) := by
    kernel_rfl
  rw [hcell]
  have hL1 := (hL (L + 1) (Nat.le_succ L)).1
  have hL2 := (hL (L + 2) (Nat.le_add_right L 2)).1
  have h12 : L + 1 ≠ L + 2 := Nat.ne_of_lt (Nat.lt_succ_self (L + 1))
  have k0 : ∀ b, H b ≠ none → ((H.set (L + 1) (.cell none)).set (L + 2) (.cell none)) b = H b := fun b hb => by rw [CH.set_ne (ne_out hb hL2), CH.set_ne (ne_out hb hL1)]
  have c1 : ((H.set (L + 1) (.cell none)).set (L + 2) (.cell none)) (L + 1) = some (.cell none) := by rw [CH.set_ne h12, CH.set_same]
  have c2 : ((H.set (L + 1) (.cell none)).set (L + 2) (.cell none)) (L + 2) = some (.cell none) := CH.set_same
  generalize ((H.set (L + 1) (.cell none)).set (L + 2) (.cell none)) = H1 at *
  repeat walk_at "x"
  refine EV_list ?_
  repeat walk_at "x"
  refine ⟨by decide, ?_⟩
  repeat walk_at "x"
  refine ⟨by decide, ?_⟩
  repeat walk_at "x"
  refine ⟨by decide, ?_⟩
  repeat walk_at "x"
  refine ⟨by decide, ?_⟩
  repeat walk_at "x"
  refine ⟨by decide, fun w0 hw0 => ?_⟩
  repeat walk_at "x"
  refine EV_lc ?_
  repeat walk_at "x"
  have k1 : ∀ b, H1 b ≠ none → (H1.set w0 (.list [.tup [.int 0, .int 1, .int 4], .tup [.int 0, .int 2, .int 1], .tup [.int 2, .int 1, .int 3], .tup [.int 1, .int 3, .int 2]])) b = H1 b := fun b hb => CH.set_ne (ne_out hb hw0)
  have hw1 : (H1.set w0 (.list [.tup [.int 0, .int 1, .int 4], .tup [.int 0, .int 2, .int 1], .tup [.int 2, .int 1, .int 3], .tup [.int 1, .int 3, .int 2]])) w0 = _ := CH.set_same
  generalize (H1.set w0 (.list [.tup [.int 0, .int 1, .int 4], .tup [.int 0, .int 2, .int 1], .tup [.int 2, .int 1, .int 3], .tup [.int 1, .int 3, .int 2]])) = H2 at *
  refine LC_pure ns .int (fun _ => true) (fun x => wv (wyOf x)) (ok := fun _ => True) (seq_base hA'.handled hl hv) trivial (by have : 63 < sizeLine := (by decide); omega) (fun x hx LC hLC => ?_) fun w1 hw1' _ => ?_
  · repeat walk_at "x"
    refine ⟨rfl, rfl, fun _ => ?_⟩
    repeat walk_at "x"
    refine O2_mod (by decide) ?_
    repeat walk_at "x"
    refine O2_div (by decide) (by decide) ?_
    repeat walk_at "x"
    refine O2_mod (by decide) ?_
    repeat walk_at "x"
    refine EV_b B g_abs b_abs ?_
    repeat walk_at "x"
    refine O2_div (by decide) (by decide) ?_
    repeat walk_at "x"
    refine ⟨KP_built, CV_abs ?_⟩
    repeat walk_at "x"
    exact ⟨by show 3 ≤ sizeLine; decide, rfl, rfl⟩
  have fl : (ns.filter fun _ => true) = ns := by simp
  rw [fl]
  have n1 : w0 ≠ w1 := fun e => by rw [← e, hw1] at hw1'; cases hw1'
  refine add_lists (.own (by rw [CH.set_ne n1]; exact hw1)) (.own CH.set_same) (by rw [List.length_map]; have : 67 < sizeLine := (by decide); simp; omega) fun wl hwl => ?_
  have e3 : ([.tup [.int 0, .int 1, .int 4], .tup [.int 0, .int 2, .int 1], .tup [.int 2, .int 1, .int 3], .tup [.int 1, .int 3, .int 2]] : List V) ++ ns.map (fun x => wv (wyOf x)) = (waysOf ns).map wv := by
    unfold waysOf; rw [List.map_append, List.map_map]; rfl
  rw [e3]
  have hwl2 : H2 wl = none := by
    rw [CH.set_ne] at hwl
    · exact hwl
    · intro e; rw [e, CH.set_same] at hwl; cases hwl
  have k3 : ∀ b, H1 b ≠ none → ((H2.set w1 (.list (ns.map fun x => wv (wyOf x)))).set wl (.list ((waysOf ns).map wv))) b = H1 b := fun b hb => by
    rw [CH.set_ne (ne_out (by rw [k1 b hb]; exact hb) hwl2), CH.set_ne (ne_out (by rw [k1 b hb]; exact hb) hw1')]; exact k1 b hb
  have hw3 : ((H2.set w1 (.list (ns.map fun x => wv (wyOf x)))).set wl (.list ((waysOf ns).map wv))) wl = some (.list ((waysOf ns).map wv)) := CH.set_same
  clear k1 hw1 hwl hwl2 n1 hw1' hw0
  generalize ((H2.set w1 (.list (ns.map fun x => wv (wyOf x)))).set wl (.list ((waysOf ns).map wv))) = H3 at *
  have ok := ways_fine ns
  have hWl : (waysOf ns).length ≤ 1000 := by unfold waysOf; simp; omega
  generalize waysOf ns = W at *
  repeat walk_at "x"
  refine EV_g B g_lengths ?_
  repeat walk_at "x"
  refine ⟨KP_K B (by with_unfolding_all rfl), CV_of ((spec_lengths ok (by exact B) (n := n + 5) hA' hw3 hWl).mono ?_)⟩
  rintro v H4 ⟨d, D, ep, rfl, hd3, hd4, hD, k4⟩
  have hc4 : H4 (L + 1) = some (.cell none) := (k4 _ (by rw [k3 _ (by rw [c1]; simp), c1]; simp)).trans ((k3 _ (by rw [c1]; simp)).trans c1)
  have hc4' : H4 (L + 2) = some (.cell none) := (k4 _ (by rw [k3 _ (by rw [c2]; simp), c2]; simp)).trans ((k3 _ (by rw [c2]; simp)).trans c2)
  refine ASG_cell (c := L + 1) (by with_unfolding_all rfl) hc4 ?_
  have dc : d ≠ L + 1 := fun e => by rw [e, hc4] at hd4; cases hd4
  have wc : wl ≠ L + 1 := fun e => by rw [e, k3 _ (by rw [c1]; simp), c1] at hw3; cases hw3
  have hP1 : H1 185 = some (.tab qsC) := (k0 185 (by rw [hP]; simp)).trans hP
  have hP3 := (k3 185 (by rw [hP1]; simp)).trans hP1
  have pc : 185 ≠ L + 1 := fun e => by rw [← e, hP] at hL1; cases hL1
  have hd5 : (H4.set (L + 1) (.cell (some (.ref d)))) d = some (.dict (D.map dv) ep) := by rw [CH.set_ne dc]; exact hd4
  have hw5 : (H4.set (L + 1) (.cell (some (.ref d)))) wl = some (.list (W.map wv)) := by rw [CH.set_ne wc]; exact (k4 wl (by rw [hw3]; simp)).trans hw3
  have hP5 : (H4.set (L + 1) (.cell (some (.ref d)))) 185 = some (.tab qsC) := by rw [CH.set_ne pc]; exact (k4 185 (by rw [hP3]; simp)).trans hP3
  have hl5 : (H4.set (L + 1) (.cell (some (.ref d)))) (L + 1) = some (.cell (some (.ref d))) := CH.set_same
  have hc5 : (H4.set (L + 1) (.cell (some (.ref d)))) (L + 2) = some (.cell none) := by rw [CH.set_ne (Ne.symm h12)]; exact hc4'
  have k5 : ∀ b, H b ≠ none → (H4.set (L + 1) (.cell (some (.ref d)))) b = H b := fun b hb => by
    rw [CH.set_ne (ne_out hb hL1)]
    have h1 := k0 b hb
    have h3 := k3 b (by rw [h1]; exact hb)
    exact (k4 b (by rw [h3, h1]; exact hb)).trans (h3.trans h1)
  clear hd3 hd4 hc4 hc4' dc wc hP1 hP3 pc k3 k4 hw3 k0 c1 c2
  generalize (H4.set (L + 1) (.cell (some (.ref d)))) = H5 at *
  repeat walk_at "x"
  walk_at "xi"
  refine EV_cell (c := L + 1) (by with_unfolding_all rfl) hl5 ?_
  repeat walk_at "x"
  refine ⟨_, rfl, fun q => (by cases q), fun _ => ?_⟩
  repeat walk_at "x"
  refine EV_g B g_counts ?_
  repeat walk_at "x"
  refine EV_cell (c := L + 1) (by with_unfolding_all rfl) hl5 ?_
  repeat walk_at "x"
  refine ⟨KP_K B (by with_unfolding_all rfl), CV_of ((spec_counts ok hD (by exact B) (n := n + 4) hA' hw5 hd5 hP5 hWl).mono ?_)⟩
  rintro v H6 ⟨c, cs, rfl, hc5', hc6, hcs, k6⟩
  have c26 : H6 (L + 2) = some (.cell none) := (k6 _ (by rw [hc5]; simp)).trans hc5
  refine ASG_cell (c := L + 2) (by with_unfolding_all rfl) c26 ?_
  have nc : c ≠ L + 2 := fun e => by rw [e, c26] at hc6; cases hc6
  have nd : d ≠ L + 2 := fun e => by rw [e, hc5] at hd5; cases hd5
  have nw : wl ≠ L + 2 := fun e => by rw [e, hc5] at hw5; cases hw5
  have hc7 : (H6.set (L + 2) (.cell (some (.ref c)))) c = some (.list ((List.range 7).map fun k : Nat => .int (cs (k : Int)))) := by rw [CH.set_ne nc]; exact hc6
  have hd7 : (H6.set (L + 2) (.cell (some (.ref c)))) d = some (.dict (D.map dv) ep) := by rw [CH.set_ne nd]; exact (k6 d (by rw [hd5]; simp)).trans hd5
  have hw7 : (H6.set (L + 2) (.cell (some (.ref c)))) wl = some (.list (W.map wv)) := by rw [CH.set_ne nw]; exact (k6 wl (by rw [hw5]; simp)).trans hw5
  have hl7 : (H6.set (L + 2) (.cell (some (.ref c)))) (L + 1) = some (.cell (some (.ref d))) := by rw [CH.set_ne h12]; exact (k6 _ (by rw [hl5]; simp)).trans hl5
  have hcc7 : (H6.set (L + 2) (.cell (some (.ref c)))) (L + 2) = some (.cell (some (.ref c))) := CH.set_same
  have k7 : ∀ b, H b ≠ none → (H6.set (L + 2) (.cell (some (.ref c)))) b = H b := fun b hb => by
    rw [CH.set_ne (ne_out hb hL2)]
    exact (k6 b (by rw [k5 b hb]; exact hb)).trans (k5 b hb)
  clear hc5' hc6 c26 nc nd nw k6 k5 hc5 hl5 hP5 hw5 hd5
  generalize (H6.set (L + 2) (.cell (some (.ref c)))) = H7 at *
  repeat walk_at "x"
  refine EV_lc ?_
  repeat walk_at "x"
  refine EV_b B g_range b_range ?_
  repeat walk_at "x"
  refine ⟨KP_type, CV_range1 ?_⟩
  refine LC_pure (List.range 7) (fun i => .int (0 + (i : Nat) * 1)) (fun _ => true) (fun k : Nat => .tup [optV (D.lookup (k : Int)), .int (cs (k : Int))]) (ok := fun _ => True)
    (seq_rng1 (n := 7) hA'.handled (by decide)) trivial (by decide) (fun i hi LC hLC => ?_) fun r hr _ => ?_
  · rw [List.mem_range] at hi
    rw [show (0 + (i : Int) * 1) = ((i : Nat) : Int) from by omega]
    repeat walk_at "x"
    refine ⟨rfl, rfl, fun _ => ?_⟩
    repeat walk_at "x"
    refine EV_cell (c := L + 1) (by with_unfolding_all rfl) hl7 ?_
    refine GM_dict hd7 F.slot_dict_get F.type_dict_get ?_
    repeat walk_at "x"
    refine ⟨KP_built, CV_get B hd7 ?_⟩
    rw [dv_look]
    repeat walk_at "x"
    refine EV_cell (c := L + 2) (by with_unfolding_all rfl) hcc7 ?_
    repeat walk_at "x"
    refine sub_list (v := .int (cs (i : Int))) (.own hc7) (by omega) (cs_get (by omega) (by omega)) (by simp [sizeLine]) ?_
    repeat walk_at "x"
    refine ⟨by show 2 ≤ sizeLine; decide, ?_, rfl⟩
    cases D.lookup (i : Int) <;> rfl
  have k8 : ∀ b, H7 b ≠ none → (H7.set r (.list (((List.range 7).filter fun _ => true).map fun k : Nat => .tup [optV (D.lookup (k : Int)), .int (cs (k : Int))]))) b = H7 b := fun b hb => CH.set_ne (ne_out hb hr)
  have hr8 : (H7.set r (.list (((List.range 7).filter fun _ => true).map fun k : Nat => .tup [optV (D.lookup (k : Int)), .int (cs (k : Int))]))) r = some (.list ((List.range 7).map fun k : Nat => .tup [optV (D.lookup (k : Int)), .int (cs (k : Int))])) := CH.set_same
  have hw8 := (k8 wl (by rw [hw7]; simp)).trans hw7
  have k9 : ∀ b, H b ≠ none → (H7.set r (.list (((List.range 7).filter fun _ => true).map fun k : Nat => .tup [optV (D.lookup (k : Int)), .int (cs (k : Int))]))) b = H b := fun b hb => (k8 b (by rw [k7 b hb]; exact hb)).trans (k7 b hb)
  clear k8 hr k7 hw7 hd7 hl7 hcc7 hc7
  generalize (H7.set r (.list (((List.range 7).filter fun _ => true).map fun k : Nat => .tup [optV (D.lookup (k : Int)), .int (cs (k : Int))]))) = H8 at *
  repeat walk_at "x"
  refine EV_g B g_allways ?_
  repeat walk_at "x"
  refine ⟨KP_K B (by with_unfolding_all rfl), CV_of ((spec_allways ok (by exact B) (n := n + 7) hA' hw8 hWl).mono ?_)⟩
  rintro v H9 ⟨dl, T, rfl, hdl8, hT, hdl9, k10⟩
  have hr9 := (k10 r (by rw [hr8]; simp)).trans hr8
  refine O2_eqd (.list (.own hr9) dr_pairs) (.list (.own hdl9) (dr_pairs (f := fun k : Nat => ((runA (lf W) (mf (lf W) W) T).2 (k : Int)).1) (g := fun k : Nat => ((runA (lf W) (mf (lf W) W) T).2 (k : Int)).2))) pairs_ok pairs_ok (by have := hA'.units; omega) fun b hb => ?_
  have hbt : b = true := by
    rw [hb]
    congr 1
    refine List.map_congr_left fun k hk => ?_
    rw [List.mem_range] at hk
    have := all_ways ok hD hcs hT (k : Int) (by omega) (by omega)
    rw [this]
  subst hbt
  exact (⟨rfl, fun b hb => (k10 b (by rw [k9 b hb]; exact hb)).trans (k9 b hb)⟩ : _ ∧ _)
end
end
end
end Mine
end
section
open PySem PySem.Calls PySem.W PyProof.Rows
set_option maxRecDepth 100000
namespace Mine
theorem k_law {P : Params} : nsIn (KK P) mainGlobals "law" = some (some (.ref a_law)) := by kernel_rfl
theorem in_185 {P : Params} : (KK P).lookup 185 = none := by kernel_rfl
theorem code_185 {P : Params} {s : Shared} (X : (KK P).In s.heap) : isCodeTable s.heap 185 := codeTable_of (a := 187) X (by with_unfolding_all rfl) rfl
end Mine
set_option maxHeartbeats 8000000 in
theorem PySem.Challenge.cw_dn0048_08_holds : PySem.Challenge.rw_dn0048_08.Holds := by
  refine Mine.hd08 ⟨?_, ?_⟩
  · exact Mine.left_of_run (H₀ := boot_heap) (gs₀ := Array.mk []) (d₀ := boot_drawn) (k₀ := boot_toks) (m₀ := 11) (ann := some (.ref 6)) Mine.booted Mine.boot_size (by intro w os; rw [PySem.W.Fast.te14082659384304107361]; kernel_rfl)
  intro w s₀ s₁ mg mb G Y fa o pm cd doc dV kV ho hd hcd hD hmg hg args vals as hpre hlay hrd hwl hlo
  have X := km_in_of Y
  have TT := km_tabs_of Y
  refine Ground.open G ?_
  intro T B D TE TW
  wrow_args hpre hlay hrd hwl hlo
  rename_i ns h1 h2 h3 h4 h5 as1 as2 l vs as3 hL ra hW r0 hI hr hc1 hc2
  have hfa : fa = Mine.a_law := by
    have e := mg_of X T.g (Mine.k_law (P := w.params))
    have e2 : mg (PySem.Str.ofString "law") = some (.ref fa) := hmg
    rw [e2] at e
    injection e with e; injection e with e
  subst hfa
  refine Mine.law_ends [(185, Mine.qsC)] X (by simpa using TT) (by simpa using Mine.in_185) (by simpa using Mine.code_185 X) (by simp) T.nolimit T.g T.b T.builtins (T.seer (by kernel_rfl)) T.bmain hW hg (fun cls => rfl) (by kernel_rfl) ?_
  intro C items hw hfr hB hA hl hv
  subst hw
  refine (Mine.spec_law (n := 90) (by omega) hB (hA 100 (Nat.le_refl _)) hl hv rfl).mono ?_
  rintro v H' ⟨rfl, hk⟩
  exact ⟨rfl, hk⟩
end
