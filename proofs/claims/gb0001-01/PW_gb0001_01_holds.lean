import PyProof.Rows.All
import Wide.All
import OpenK.AllK
import Wide.FinOn
import Lean
import PySem.Challenge.RW_gb0001_01
set_option Elab.async false
set_option maxRecDepth 100000
set_option linter.unusedVariables false

namespace Mine
open PySem PySem.Spec PySem.Calls PyProof.Rows PySem.W

/-! keys: ints and texts, by value -/
noncomputable abbrev IS := Int ⊕ Str
noncomputable def isIS : IS → Value → Bool
  | .inl k, v => Value.isInt k v
  | .inr x, v => Value.isStrOf x v
theorem isIS_cases {k : IS} {v : Value} (h : isIS k v = true) : (∃ i t, k = .inl i ∧ v = .int i t) ∨ (∃ x t, k = .inr x ∧ v = .str x t) := by
  cases k with
  | inl i => obtain ⟨t, rfl⟩ := Value.isInt_shape h; exact .inl ⟨i, t, rfl, rfl⟩
  | inr x => obtain ⟨t, rfl⟩ := Value.isStrOf_shape h; exact .inr ⟨x, t, rfl, rfl⟩
theorem eqBool_int_str {prog : Program} {w : World} {A : Around} {E : Value → Shared → Prop} {s : Shared} {i : Int} {t : Tok} {x : Str} {u : Tok} {Q : Bool → Shared → Prop} (h : Q false s) :
    wpAny (model prog w) A (eqBool (.int i t) (.str x u)) Q E s := by
  unfold eqBool
  refine wpAny_holding ?_
  rw [if_neg (by intro e; have := eq_of_beq e; cases this)]
  exact wpAny_bind (EqMixed.eq_int_str (wpAny_truthy_bool h))
theorem eqBool_str_int {prog : Program} {w : World} {A : Around} {E : Value → Shared → Prop} {s : Shared} {i : Int} {t : Tok} {x : Str} {u : Tok} {Q : Bool → Shared → Prop} (h : Q false s) :
    wpAny (model prog w) A (eqBool (.str x u) (.int i t)) Q E s := by
  unfold eqBool
  refine wpAny_holding ?_
  rw [if_neg (by intro e; have := eq_of_beq e; cases this)]
  exact wpAny_bind (EqMixed.eq_str_int (wpAny_truthy_bool h))
noncomputable def isKind (prog : Program) (w : World) : KeyKind prog w IS where
  is := isIS
  hash := fun k => match k with | .inl i => hashInt i | .inr x => hashStr w x
  inj := fun v a b ha hb => by
    rcases isIS_cases ha with ⟨i, t, rfl, rfl⟩ | ⟨x, t, rfl, rfl⟩ <;> rcases isIS_cases hb with ⟨i', t', rfl, e⟩ | ⟨x', t', rfl, e⟩ <;> cases e <;> rfl
  byValue := fun k v h => by rcases isIS_cases h with ⟨i, t, rfl, rfl⟩ | ⟨x, t, rfl, rfl⟩ <;> rfl
  pyHash := fun hv h => by
    rcases isIS_cases hv with ⟨i, t, rfl, rfl⟩ | ⟨x, t, rfl, rfl⟩
    · exact wpAny_pyHash_int h
    · exact wpAny_pyHash_str h
  eqBool := fun hu hv h => by
    rcases isIS_cases hu with ⟨i, t, rfl, rfl⟩ | ⟨x, t, rfl, rfl⟩ <;> rcases isIS_cases hv with ⟨i', t', rfl, rfl⟩ | ⟨x', t', rfl, rfl⟩
    · refine wpAny_eqBool_int ?_
      have e : (i == i') = decide ((Sum.inl i : IS) = Sum.inl i') := by
        by_cases q : i = i'
        · subst q; simp
        · have : ¬ (Sum.inl i : IS) = Sum.inl i' := fun z => q (Sum.inl.inj z)
          simp [q]
      rw [e]; exact h
    · exact eqBool_int_str (by simpa using h)
    · exact eqBool_str_int (by simpa using h)
    · refine wpAny_eqBool_str ?_
      have e : decide (x = x') = decide ((Sum.inr x : IS) = Sum.inr x') := by
        by_cases q : x = x'
        · subst q; simp
        · have : ¬ (Sum.inr x : IS) = Sum.inr x' := fun z => q (Sum.inr.inj z)
          simp [q]
      rw [e]; exact h
  «strs» := fun k x t v h => by
    rcases isIS_cases h with ⟨i, t, rfl, e⟩ | ⟨y, t, rfl, e⟩
    · cases e
    · cases e; cases v <;> rfl

noncomputable abbrev Key := List IS
noncomputable abbrev tKind (prog : Program) (w : World) : HeapKind prog w Key := tupleKind (isKind prog w)

/-! plain data -/
inductive PV where
  | none
  | bool (b : Bool)
  | int (i : Int)
  | str (s : Str)
  | tup (l : List PV)
  | lst (l : List PV)
  | dct (l : List (Key × PV))
  | obj (a : Addr)

section
variable (prog : Program) (w : World)
mutual
inductive Is (X : Addr → Prop) (h : Heap) : Value → PV → Prop
  | none : Is X h Value.none PV.none
  | bool (b : Bool) : Is X h (Value.bool b) (PV.bool b)
  | int (i : Int) (t : Tok) : Is X h (Value.int i t) (PV.int i)
  | str (x : Str) (t : Tok) : Is X h (Value.str x t) (PV.str x)
  | obj (a : Addr) : Is X h (Value.ref a) (PV.obj a)
  | tup {a : Addr} {vs : List Value} {ds : List PV} : h.IsTuple a vs.toArray → ¬ X a → IsAll X h vs ds → Is X h (Value.ref a) (PV.tup ds)
  | lst {a : Addr} {vs : List Value} {ds : List PV} : h.IsList a vs.toArray → ¬ X a → IsAll X h vs ds → Is X h (Value.ref a) (PV.lst ds)
  | dct {a : Addr} {xs : List (Key × Addr × Value)} {ks : List (Key × PV)} {vs : List Value} {ds : List PV} : (a == sysModules) = false → h.DictOfH (tKind prog w) a xs → ¬ X a → (∀ x ∈ xs, ¬ X x.2.1) → xs.map (·.1) = ks.map (·.1) → vs = xs.map (·.2.2) → ds = ks.map (·.2) →
      IsAll X h vs ds → Is X h (Value.ref a) (PV.dct ks)
inductive IsAll (X : Addr → Prop) (h : Heap) : List Value → List PV → Prop
  | nil : IsAll X h [] []
  | cons {v : Value} {vs : List Value} {d : PV} {ds : List PV} : Is X h v d → IsAll X h vs ds → IsAll X h (v :: vs) (d :: ds)
end

end
/-- all but X stands -/
noncomputable def Gr (X : Addr → Prop) (h h' : Heap) : Prop := ∀ b o, ¬ X b → h.get? b = some o → h'.get? b = some o
theorem Gr.refl (X : Addr → Prop) (h : Heap) : Gr X h h := fun _ _ _ e => e
theorem Gr.trans {X : Addr → Prop} {h h' h'' : Heap} (a : Gr X h h') (b : Gr X h' h'') : Gr X h h'' := fun x o n e => b x o n (a x o n e)
theorem Gr.wk {X Y : Addr → Prop} {h h' : Heap} (a : Gr X h h') (s : ∀ b, X b → Y b) : Gr Y h h' := fun x o n e => a x o (fun q => n (s x q)) e
theorem Gr.of {X : Addr → Prop} {h h' : Heap} (k : ∀ b o, h.get? b = some o → h'.get? b = some o) : Gr X h h' := fun b o _ e => k b o e

theorem isList_gr {h h' : Heap} {a : Addr} {vs : Array Value} (x : h.IsList a vs) (e : ∀ o, h.get? a = some o → h'.get? a = some o) : h'.IsList a vs := let ⟨o, ho, r⟩ := x; ⟨o, e o ho, r⟩
theorem isTuple_gr {h h' : Heap} {a : Addr} {vs : Array Value} (x : h.IsTuple a vs) (e : ∀ o, h.get? a = some o → h'.get? a = some o) : h'.IsTuple a vs := let ⟨o, ho, r⟩ := x; ⟨o, e o ho, r⟩

theorem isTupleKey_gr {prog : Program} {w : World} {h h' : Heap} {k : Key} {a : Addr} (x : IsTupleKey (isKind prog w) h k a) (e : ∀ o, h.get? a = some o → h'.get? a = some o) : IsTupleKey (isKind prog w) h' k a :=
  let ⟨o, its, n, ho, r⟩ := x; ⟨o, its, n, e o ho, r⟩
theorem dictOfH_gr {prog : Program} {w : World} {h h' : Heap} {a : Addr} {xs : List (Key × Addr × Value)} (x : h.DictOfH (tKind prog w) a xs) (e : ∀ o, h.get? a = some o → h'.get? a = some o) (ek : ∀ y ∈ xs, ∀ o, h.get? y.2.1 = some o → h'.get? y.2.1 = some o) : h'.DictOfH (tKind prog w) a xs :=
  let ⟨o, es, ep, ho, r1, r2, r3, r4, r5⟩ := x; ⟨o, es, ep, e o ho, r1, r2, r3, fun y hy => isTupleKey_gr (r4 y hy) (ek y hy), r5⟩

section
variable {prog : Program} {w : World}
mutual
theorem Is.gr {X : Addr → Prop} {h h' : Heap} (g : Gr X h h') : ∀ {v : Value} {d : PV}, Is prog w X h v d → Is prog w X h' v d
  | _, _, .none => .none
  | _, _, .bool b => .bool b
  | _, _, .int i t => .int i t
  | _, _, .str x t => .str x t
  | _, _, .obj a => .obj a
  | _, _, .tup ht hx r => .tup (isTuple_gr ht fun o => g _ o hx) hx (IsAll.gr g r)
  | _, _, .lst ht hx r => .lst (isList_gr ht fun o => g _ o hx) hx (IsAll.gr g r)
  | _, _, .dct hs hd hx hy e1 e2 e3 r => .dct hs (dictOfH_gr hd (fun o => g _ o hx) fun y hm o => g _ o (hy y hm)) hx hy e1 e2 e3 (IsAll.gr g r)
theorem IsAll.gr {X : Addr → Prop} {h h' : Heap} (g : Gr X h h') : ∀ {vs : List Value} {ds : List PV}, IsAll prog w X h vs ds → IsAll prog w X h' vs ds
  | _, _, .nil => .nil
  | _, _, .cons a r => .cons (Is.gr g a) (IsAll.gr g r)
end
mutual
theorem Is.anti {X Y : Addr → Prop} {h : Heap} (s : ∀ b, Y b → X b) : ∀ {v : Value} {d : PV}, Is prog w X h v d → Is prog w Y h v d
  | _, _, .none => .none
  | _, _, .bool b => .bool b
  | _, _, .int i t => .int i t
  | _, _, .str x t => .str x t
  | _, _, .obj a => .obj a
  | _, _, .tup ht hx r => .tup ht (fun q => hx (s _ q)) (IsAll.anti s r)
  | _, _, .lst ht hx r => .lst ht (fun q => hx (s _ q)) (IsAll.anti s r)
  | _, _, .dct hs hd hx hy e1 e2 e3 r => .dct hs hd (fun q => hx (s _ q)) (fun y hm q => hy y hm (s _ q)) e1 e2 e3 (IsAll.anti s r)
theorem IsAll.anti {X Y : Addr → Prop} {h : Heap} (s : ∀ b, Y b → X b) : ∀ {vs : List Value} {ds : List PV}, IsAll prog w X h vs ds → IsAll prog w Y h vs ds
  | _, _, .nil => .nil
  | _, _, .cons a r => .cons (Is.anti s a) (IsAll.anti s r)
end
/-- what stands off a fresh address stands off X and it -/
theorem lt_of_isList {h : Heap} {a : Addr} {vs : Array Value} (x : h.IsList a vs) : a < h.objs.size := let ⟨_, ho, _⟩ := x; Heap.lt_size ho
theorem lt_of_isTuple {h : Heap} {a : Addr} {vs : Array Value} (x : h.IsTuple a vs) : a < h.objs.size := let ⟨_, ho, _⟩ := x; Heap.lt_size ho
mutual
/-- addresses without an object may be added to what is avoided -/
theorem Is.avoid {X Y : Addr → Prop} {h : Heap} (s : ∀ b, Y b → X b ∨ h.get? b = none) : ∀ {v : Value} {d : PV}, Is prog w X h v d → Is prog w Y h v d
  | _, _, .none => .none
  | _, _, .bool b => .bool b
  | _, _, .int i t => .int i t
  | _, _, .str x t => .str x t
  | _, _, .obj a => .obj a
  | _, _, .tup ht hx r => .tup ht (fun q => by
      rcases s _ q with q | q
      · exact hx q
      · obtain ⟨o, ho, _⟩ := ht; rw [q] at ho; cases ho) (IsAll.avoid s r)
  | _, _, .lst ht hx r => .lst ht (fun q => by
      rcases s _ q with q | q
      · exact hx q
      · obtain ⟨o, ho, _⟩ := ht; rw [q] at ho; cases ho) (IsAll.avoid s r)
  | _, _, .dct hs hd hx hy e1 e2 e3 r => .dct hs hd (fun q => by
      rcases s _ q with q | q
      · exact hx q
      · obtain ⟨o, es, ep, ho, _⟩ := hd; rw [q] at ho; cases ho) (fun y hm q => by
      rcases s _ q with q | q
      · exact hy y hm q
      · obtain ⟨o, es, ep, ho, r1, r2, r3, r4, r5⟩ := hd
        obtain ⟨o', its, n, ho', _⟩ := r4 y hm
        rw [q] at ho'; cases ho') e1 e2 e3 (IsAll.avoid s r)
theorem IsAll.avoid {X Y : Addr → Prop} {h : Heap} (s : ∀ b, Y b → X b ∨ h.get? b = none) : ∀ {vs : List Value} {ds : List PV}, IsAll prog w X h vs ds → IsAll prog w Y h vs ds
  | _, _, .nil => .nil
  | _, _, .cons a r => .cons (Is.avoid s a) (IsAll.avoid s r)
end

theorem IsAll.length {X : Addr → Prop} {h : Heap} : ∀ {vs : List Value} {ds : List PV}, IsAll prog w X h vs ds → vs.length = ds.length
  | _, _, .nil => rfl
  | _, _, .cons _ r => by rw [List.length_cons, List.length_cons, r.length]
theorem IsAll.append {X : Addr → Prop} {h : Heap} {ws : List Value} {es : List PV} : ∀ {vs : List Value} {ds : List PV}, IsAll prog w X h vs ds → IsAll prog w X h ws es → IsAll prog w X h (vs ++ ws) (ds ++ es)
  | _, _, .nil, k => k
  | _, _, .cons a r, k => .cons a (IsAll.append r k)
theorem IsAll.get {X : Addr → Prop} {h : Heap} : ∀ {vs : List Value} {ds : List PV}, IsAll prog w X h vs ds → ∀ {i : Nat} {v : Value}, vs[i]? = some v → ∃ d, ds[i]? = some d ∧ Is prog w X h v d
  | _, _, .nil, i, v, e => by simp at e
  | _, _, .cons a r, 0, v, e => by simp at e; subst e; exact ⟨_, rfl, a⟩
  | _, _, .cons a r, i + 1, v, e => by simpa using r.get (by simpa using e)
theorem IsAll.getd {X : Addr → Prop} {h : Heap} : ∀ {vs : List Value} {ds : List PV}, IsAll prog w X h vs ds → ∀ {i : Nat} {d : PV}, ds[i]? = some d → ∃ v, vs[i]? = some v ∧ Is prog w X h v d
  | _, _, .nil, i, v, e => by simp at e
  | _, _, .cons a r, 0, v, e => by simp at e; subst e; exact ⟨_, rfl, a⟩
  | _, _, .cons a r, i + 1, v, e => by simpa using r.getd (by simpa using e)
theorem IsAll.take {X : Addr → Prop} {h : Heap} : ∀ {vs : List Value} {ds : List PV}, IsAll prog w X h vs ds → ∀ n, IsAll prog w X h (vs.take n) (ds.take n)
  | _, _, _, 0 => by simp; exact .nil
  | _, _, .nil, n + 1 => by simp; exact .nil
  | _, _, .cons a r, n + 1 => by simp only [List.take_succ_cons]; exact .cons a (r.take n)
theorem IsAll.drop {X : Addr → Prop} {h : Heap} : ∀ {vs : List Value} {ds : List PV}, IsAll prog w X h vs ds → ∀ n, IsAll prog w X h (vs.drop n) (ds.drop n)
  | _, _, r, 0 => by simpa using r
  | _, _, .nil, n + 1 => by simp; exact .nil
  | _, _, .cons a r, n + 1 => by simp only [List.drop_succ_cons]; exact r.drop n
theorem IsAll.reverse {X : Addr → Prop} {h : Heap} : ∀ {vs : List Value} {ds : List PV}, IsAll prog w X h vs ds → IsAll prog w X h vs.reverse ds.reverse
  | _, _, .nil => .nil
  | _, _, .cons a r => by rw [List.reverse_cons, List.reverse_cons]; exact r.reverse.append (.cons a .nil)

end

/-! the two code tables that the first run of a def with a def within grows -/
noncomputable def isTab (b : Addr) : Prop := b = 30 ∨ b = 37

noncomputable def TabOk (h : Heap) (P : Addr) (line col : Nat) (qual : Str) : Prop :=
  ∃ ps, h.get? P = some (tabObj ps) ∧ (ps = #[] ∨ ∃ c', ps = #[rawInt line, rawInt col, .ref c'] ∧ h.CodeRec (.ref c') qual ∧ ¬ isTab c')
theorem TabOk.gr {h h' : Heap} {P : Addr} {line col : Nat} {qual : Str} (x : TabOk h P line col qual) (g : Gr isTab h h') (hP : h'.get? P = h.get? P) : TabOk h' P line col qual := by
  obtain ⟨ps, e, r⟩ := x
  refine ⟨ps, hP.trans e, ?_⟩
  rcases r with r | ⟨c', r, ⟨c, o, vs, t, e1, e2, e3⟩, hn⟩
  · exact .inl r
  · refine .inr ⟨c', r, ⟨c, o, vs, t, e1, g _ _ ?_ e2, e3⟩, hn⟩
    cases e1; exact hn

/-- what stands under every run -/
structure Inv (G h : Heap) : Prop where
  keep : ∀ b o, G.get? b = some o → h.get? b = some o
  t1 : TabOk h 30 24 4 "_int2digits.<locals>.inner"
  t2 : TabOk h 37 39 4 "_digits2int.<locals>.inner"
  off : ∀ b, isTab b → G.get? b = none
theorem Inv.tabAlive {G h : Heap} (I : Inv G h) {b : Addr} (hb : isTab b) : ∃ ps, h.get? b = some (tabObj ps) := by
  rcases hb with rfl | rfl
  · obtain ⟨ps, e, _⟩ := I.t1; exact ⟨ps, e⟩
  · obtain ⟨ps, e, _⟩ := I.t2; exact ⟨ps, e⟩

end Mine

namespace Mine
open PySem PySem.Spec PySem.Calls PyProof.Rows PySem.W

noncomputable def Room (n : Nat) (A : Around) : Prop := A.handled = none ∧ A.depth + n ≤ 900 ∧ A.units + 16 * n ≤ 9000
theorem cLine_eq : cLine = 9900 := rfl
theorem recursionLimit_eq : recursionLimit = 1000 := rfl
theorem Room.wk {n m : Nat} {A : Around} (r : Room n A) (h : m ≤ n) : Room m A := ⟨r.1, by have := r.2.1; omega, by have := r.2.2; omega⟩
theorem Room.depth {n : Nat} {A : Around} (r : Room n A) : A.depth < recursionLimit := by have := r.2.1; rw [recursionLimit_eq]; omega
theorem Room.units {n : Nat} {A : Around} (r : Room n A) : A.units < cLine := by have := r.2.2; rw [cLine_eq]; omega
theorem Room.units1 {n : Nat} {A : Around} (r : Room n A) (k : Nat) (hk : k ≤ 800) : A.units + k < cLine := by have := r.2.2; rw [cLine_eq]; omega
theorem Room.deeper {n : Nat} {A : Around} (r : Room (n + 1) A) (env : Env) : Room n (A.deeper env) := ⟨r.1, by have := r.2.1; show A.depth + 1 + n ≤ 900; omega, by have := r.2.2; show A.units + 3 + 16 * n ≤ 9000; omega⟩
theorem Room.in1 {n : Nat} {A : Around} (r : Room (n + 1) A) : Room n A.in1 := ⟨r.1, by have := r.2.1; show A.depth + n ≤ 900; omega, by have := r.2.2; show A.units + 1 + 16 * n ≤ 9000; omega⟩
theorem Room.mark {n : Nat} {A : Around} (r : Room n A) : A.mark none = A := by cases A; rfl

noncomputable abbrev No : Value → Shared → Prop := fun _ _ => False

section
variable (prog : Program) (w : World) (G : Heap)

noncomputable def Post {α : Type} (s : Shared) (P : α → Heap → Prop) : α → Shared → Prop := fun v s' => ∃ h' tk', s' = { s with heap := h', toks := tk' } ∧ Gr isTab s.heap h' ∧ Inv G h' ∧ P v h'

inductive Slot where
  | no
  | val (d : PV)
  | ownT (l : List (Key × PV))
  | ownI (l : List (Int × PV))

noncomputable def getS (ρ : List Slot) (i : Nat) : Option PV := match ρ[i]? with | some (Slot.val d) => some d | _ => none
theorem getS_eq {ρ : List Slot} {i : Nat} {d : PV} (h : getS ρ i = some d) : ρ[i]? = some (Slot.val d) := by
  unfold getS at h
  split at h
  · rename_i e; cases h; exact e
  · cases h

structure Fm where
  names : List Str
  sto : List Str
  gl : List Str
  cel : List Str

noncomputable def Holds (env : Env) (h : Heap) (x : Str) (v : Value) : Prop :=
  (env.kindOf x = some .local ∧ ∃ m, h.Ns env.locals m ∧ m x = some v) ∨ ((env.kindOf x = some .cell ∨ env.kindOf x = some .free) ∧ (x == ("__classdict__" : Str)) = false ∧ ∃ c, env.cells.lookup x = some c ∧ h.IsCell c (some v))

noncomputable def OwnT (X : Addr → Prop) (h : Heap) (a : Addr) (l : List (Key × PV)) : Prop :=
  ∃ xs, (h.DictOfH (tKind prog w) a xs ∧ (a == sysModules) = false) ∧ (∀ y ∈ xs, ¬ X y.2.1) ∧ xs.map (·.1) = l.map (·.1) ∧ IsAll prog w X h (xs.map (·.2.2)) (l.map (·.2))
noncomputable def OwnI (X : Addr → Prop) (h : Heap) (a : Addr) (l : List (Int × PV)) : Prop :=
  ∃ kvs, h.DictOf (intKind prog w) a kvs ∧ kvs.map (·.1) = l.map (·.1) ∧ IsAll prog w X h (kvs.map (·.2)) (l.map (·.2))

structure Ok (F : Fm) (env : Env) (h₀ : Heap) (X W : Addr → Prop) (ρ : List Slot) (h : Heap) : Prop where
  base : Inv G h₀
  inv : Inv G h
  kp : Gr isTab h₀ h
  kind : env.scope.kind = .function
  glob : env.globals = mainGlobals
  blt : env.builtins = builtinsNs
  gl : ∀ x ∈ F.gl, env.kindOf x = some .globalImplicit
  ns : ∃ m, h.Ns env.locals m
  wl : W env.locals
  wx : ∀ b, W b → X b
  tx : ∀ b, isTab b → X b
  wf : ∀ b, W b → h₀.get? b = none
  al : ∀ b, X b → ∃ o, h.get? b = some o
  ap : ∀ n n' c, env.cells.lookup n = some c → env.cells.lookup n' = some c → n = n'
  cl : ∀ n c, env.cells.lookup n = some c → c ≠ env.locals ∧ ¬ isTab c
  ca : ∀ n c, env.cells.lookup n = some c → ∃ o, h.get? c = some o
  ce : ∀ x ∈ F.cel, (x == ("__classdict__" : Str)) = false ∧ (env.kindOf x = some .cell ∨ env.kindOf x = some .free) ∧ ∃ c, env.cells.lookup x = some c
  st : ∀ x ∈ F.sto, env.kindOf x = some .local ∨ (env.kindOf x = some .cell ∧ (x == ("__classdict__" : Str)) = false ∧ ∃ c v, env.cells.lookup x = some c ∧ W c ∧ h.IsCell c v)
  nd : F.names.Nodup
  sl : ∀ (i : Nat) (d : PV), ρ[i]? = some (Slot.val d) → ∃ x v, F.names[i]? = some x ∧ Holds env h x v ∧ Is prog w X h v d
  oT : ∀ (i : Nat) (l : List (Key × PV)), ρ[i]? = some (Slot.ownT l) → ∃ x a, F.names[i]? = some x ∧ Holds env h x (.ref a) ∧ W a ∧ a ≠ env.locals ∧ OwnT prog w X h a l
  oI : ∀ (i : Nat) (l : List (Int × PV)), ρ[i]? = some (Slot.ownI l) → ∃ x a, F.names[i]? = some x ∧ Holds env h x (.ref a) ∧ W a ∧ a ≠ env.locals ∧ OwnI prog w X h a l

variable {prog w G}
theorem isCell_gr {h h' : Heap} {c : Addr} {v : Option Value} (x : h.IsCell c v) (e : ∀ o, h.get? c = some o → h'.get? c = some o) : h'.IsCell c v := let ⟨o, ho, hd⟩ := x; ⟨o, e o ho, hd⟩
theorem ns_gr {h h' : Heap} {a : Addr} {m : Str → Option Value} (x : h.Ns a m) (e : ∀ o, h.get? a = some o → h'.get? a = some o) : h'.Ns a m := let ⟨o, es, ep, ho, r⟩ := x; ⟨o, es, ep, e o ho, r⟩
theorem dictOf_gr {h h' : Heap} {a : Addr} {kvs : List (Int × Value)} (x : h.DictOf (intKind prog w) a kvs) (e : ∀ o, h.get? a = some o → h'.get? a = some o) : h'.DictOf (intKind prog w) a kvs := let ⟨o, es, ep, ho, r⟩ := x; ⟨o, es, ep, e o ho, r⟩
theorem OwnT.gr {X : Addr → Prop} {h h' : Heap} {a : Addr} {l : List (Key × PV)} (x : OwnT prog w X h a l) (g : Gr X h h') (e : ∀ o, h.get? a = some o → h'.get? a = some o) : OwnT prog w X h' a l :=
  let ⟨xs, hd, hy, hk, ha⟩ := x; ⟨xs, ⟨dictOfH_gr hd.1 e (fun y hm o => g _ o (hy y hm)), hd.2⟩, hy, hk, ha.gr g⟩
theorem OwnI.gr {X : Addr → Prop} {h h' : Heap} {a : Addr} {l : List (Int × PV)} (x : OwnI prog w X h a l) (g : Gr X h h') (e : ∀ o, h.get? a = some o → h'.get? a = some o) : OwnI prog w X h' a l :=
  let ⟨xs, hd, hk, ha⟩ := x; ⟨xs, dictOf_gr hd e, hk, ha.gr g⟩
theorem lookup_mem {α : Type} {l : List (Str × α)} {n : Str} {c : α} (h : l.lookup n = some c) : (n, c) ∈ l := mem_of_lookup h

section
variable {F : Fm} {env : Env} {h₀ h h' : Heap} {X W : Addr → Prop} {ρ : List Slot}
theorem Holds.gr {x : Str} {v : Value} (H : Holds env h x v) (e : ∀ o, h.get? env.locals = some o → h'.get? env.locals = some o) (ec : ∀ c, env.cells.lookup x = some c → ∀ o, h.get? c = some o → h'.get? c = some o) : Holds env h' x v := by
  rcases H with ⟨k, m, hn, hm⟩ | ⟨k, k', c, hc, hv⟩
  · exact .inl ⟨k, m, ns_gr hn e, hm⟩
  · exact .inr ⟨k, k', c, hc, isCell_gr hv (ec c hc)⟩
theorem Ok.tw (K : Ok prog w G F env h₀ X W ρ h) : ∀ b, isTab b → ¬ W b := fun b hb hw => by
  obtain ⟨ps, e⟩ := K.base.tabAlive hb
  rw [K.wf b hw] at e; cases e
theorem Ok.gr (K : Ok prog w G F env h₀ X W ρ h) (g : Gr isTab h h') (I : Inv G h') : Ok prog w G F env h₀ X W ρ h' := by
  have gX : Gr X h h' := g.wk K.tx
  have eL : ∀ o, h.get? env.locals = some o → h'.get? env.locals = some o := fun o => g _ o fun q => K.tw _ q K.wl
  have eC : ∀ x c, env.cells.lookup x = some c → ∀ o, h.get? c = some o → h'.get? c = some o := fun x c hc o => g _ o (K.cl _ _ hc).2
  have eW : ∀ b, W b → ∀ o, h.get? b = some o → h'.get? b = some o := fun b hb o => g _ o fun q => K.tw _ q hb
  exact {
    base := K.base, inv := I, kp := K.kp.trans g, kind := K.kind, glob := K.glob, blt := K.blt, gl := K.gl
    ns := let ⟨m, hm⟩ := K.ns; ⟨m, ns_gr hm eL⟩
    wl := K.wl, wx := K.wx, tx := K.tx, wf := K.wf
    al := fun b hb => by
      obtain ⟨o, ho⟩ := K.al b hb
      by_cases q : isTab b
      · obtain ⟨ps, e⟩ := I.tabAlive q; exact ⟨_, e⟩
      · exact ⟨o, g _ _ q ho⟩
    ap := K.ap, cl := K.cl
    ca := fun n c hc => let ⟨o, ho⟩ := K.ca n c hc; ⟨o, eC n c hc o ho⟩
    ce := K.ce
    st := fun x hx => by
      rcases K.st x hx with k | ⟨k, k', c, v, hc, hw, hv⟩
      · exact .inl k
      · exact .inr ⟨k, k', c, v, hc, hw, isCell_gr hv (eC x c hc)⟩
    nd := K.nd
    sl := fun i d hi => let ⟨x, v, hx, hH, hI⟩ := K.sl i d hi; ⟨x, v, hx, hH.gr eL (eC x), hI.gr gX⟩
    oT := fun i l hi => let ⟨x, a, hx, hH, hW, hne, hO⟩ := K.oT i l hi; ⟨x, a, hx, hH.gr eL (eC x), hW, hne, hO.gr gX (eW a hW)⟩
    oI := fun i l hi => let ⟨x, a, hx, hH, hW, hne, hO⟩ := K.oI i l hi; ⟨x, a, hx, hH.gr eL (eC x), hW, hne, hO.gr gX (eW a hW)⟩ }
end

theorem Inv.gr_keep {h h' : Heap} (I : Inv G h) (k : ∀ b o, h.get? b = some o → h'.get? b = some o) : Inv G h' where
  keep := fun b o e => k b o (I.keep b o e)
  t1 := I.t1.gr (Gr.of k) (by obtain ⟨ps, e⟩ := I.tabAlive (.inl rfl); rw [e, k _ _ e])
  t2 := I.t2.gr (Gr.of k) (by obtain ⟨ps, e⟩ := I.tabAlive (.inr rfl); rw [e, k _ _ e])
  off := I.off

/-- what is avoided stands, and the tables are avoided -/
structure XOk (X : Addr → Prop) (h : Heap) : Prop where
  tx : ∀ b, isTab b → X b
  al : ∀ b, X b → ∃ o, h.get? b = some o
theorem XOk.fresh {X : Addr → Prop} {h : Heap} (x : XOk X h) {b : Addr} (hb : h.get? b = none) : ¬ X b := fun q => by obtain ⟨o, ho⟩ := x.al b q; rw [hb] at ho; cases ho
theorem get_size (h : Heap) : h.get? h.objs.size = none := by
  cases e : h.get? h.objs.size with
  | none => rfl
  | some o => exact absurd (Heap.lt_size e) (Nat.lt_irrefl _)
theorem XOk.gr {X : Addr → Prop} {h h' : Heap} (x : XOk X h) (g : Gr isTab h h') (I : Inv G h') : XOk X h' :=
  ⟨x.tx, fun b hb => by
    obtain ⟨o, ho⟩ := x.al b hb
    by_cases q : isTab b
    · obtain ⟨ps, e⟩ := I.tabAlive q; exact ⟨_, e⟩
    · exact ⟨o, g _ _ q ho⟩⟩
theorem Ok.xok {F : Fm} {env : Env} {h₀ h : Heap} {X W : Addr → Prop} {ρ : List Slot} (K : Ok prog w G F env h₀ X W ρ h) : XOk X h := ⟨K.tx, K.al⟩
end

section
variable {prog : Program} {w : World} {G : Heap} {α β : Type} {A : Around} {s : Shared}
theorem Post.now {P : α → Heap → Prop} {v : α} (I : Inv G s.heap) (p : P v s.heap) : Post G s P v s := ⟨s.heap, s.toks, rfl, Gr.refl _ _, I, p⟩
theorem Post.tok {P : α → Heap → Prop} {v : α} {tk : Nat} (I : Inv G s.heap) (p : P v s.heap) : Post G s P v { s with toks := tk } := ⟨s.heap, tk, rfl, Gr.refl _ _, I, p⟩
theorem Post.grow {P : α → Heap → Prop} {v : α} {h' : Heap} {tk : Nat} (I : Inv G s.heap) (k : ∀ b o, s.heap.get? b = some o → h'.get? b = some o) (p : P v h') : Post G s P v { s with heap := h', toks := tk } :=
  ⟨h', tk, rfl, Gr.of k, I.gr_keep k, p⟩
theorem Post.lift {P : α → Heap → Prop} {h₁ : Heap} {tk₁ : Nat} (g : Gr isTab s.heap h₁) {v : α} {s' : Shared} (x : Post G { s with heap := h₁, toks := tk₁ } P v s') : Post G s P v s' := by
  obtain ⟨h', tk', rfl, g', I, p⟩ := x
  exact ⟨h', tk', rfl, g.trans g', I, p⟩
theorem Post.imp {P P' : α → Heap → Prop} (i : ∀ v h', Gr isTab s.heap h' → Inv G h' → P v h' → P' v h') {v : α} {s' : Shared} (x : Post G s P v s') : Post G s P' v s' := by
  obtain ⟨h', tk', rfl, g', I, p⟩ := x
  exact ⟨h', tk', rfl, g', I, i _ _ g' I p⟩
/-- one run, then the next -/
theorem seqP {m : Sem α} {P : α → Heap → Prop} {Q : α → Shared → Prop} (hm : wpAny (model prog w) A m (Post G s P) No s)
    (hk : ∀ v h₁ tk₁, Gr isTab s.heap h₁ → Inv G h₁ → P v h₁ → Q v { s with heap := h₁, toks := tk₁ }) : wpAny (model prog w) A m Q No s :=
  wpAny_mono hm (fun v s₁ h => by obtain ⟨h₁, tk₁, rfl, g, I, p⟩ := h; exact hk v h₁ tk₁ g I p) fun _ _ e => e
theorem upP {m : Sem β} {P' : β → Heap → Prop} {h₁ : Heap} {tk₁ : Nat} (g : Gr isTab s.heap h₁) (h : wpAny (model prog w) A m (Post G { s with heap := h₁, toks := tk₁ } P') No { s with heap := h₁, toks := tk₁ }) :
    wpAny (model prog w) A m (Post G s P') No { s with heap := h₁, toks := tk₁ } := wpAny_mono h (fun _ _ x => Post.lift g x) fun _ _ e => e
end
end Mine

namespace Mine
open PySem PySem.Spec PySem.Calls PyProof.Rows PySem.W

section
variable (prog : Program) (w : World) (G : Heap) (n : Nat) (F : Fm)

/-- an expression evaluates to what the function says of the slots -/
noncomputable def Ev (e : Expr) (f : List Slot → Option PV) : Prop :=
  ∀ env h₀ X W ρ A s d, Room n A → Ok prog w G F env h₀ X W ρ s.heap → f ρ = some d → wpAny (model prog w) A (eval e env) (Post G s fun v h' => Is prog w X h' v d) No s
noncomputable def Evs (es : List Expr) (f : List Slot → Option (List PV)) : Prop :=
  ∀ pos env h₀ X W ρ A s ds, Room n A → Ok prog w G F env h₀ X W ρ s.heap → f ρ = some ds → wpAny (model prog w) A (spliced (backTo pos (starEach es env))) (Post G s fun vs h' => IsAll prog w X h' vs ds) No s
noncomputable def Ts (e : Expr) (f : List Slot → Option Bool) : Prop :=
  ∀ env h₀ X W ρ A s b, Room n A → Ok prog w G F env h₀ X W ρ s.heap → f ρ = some b → wpAny (model prog w) A (isTrue e env (eval e env)) (Post G s fun v _ => v = b) No s
end

section
variable {prog : Program} {w : World} {G : Heap} {n : Nat} {F : Fm}

theorem ev_name {x : Str} {pos : Pos} {i : Nat} (hi : F.names[i]? = some x) (hd : (x == ("__debug__" : Str)) = false) : Ev prog w G n F (.Name x pos) (fun ρ => getS ρ i) := by
  intro env h₀ X W ρ A s d R K hf
  obtain ⟨x', v, hx', hH, hI⟩ := K.sl i d (getS_eq hf)
  have : x' = x := Option.some.inj (hx'.symm.trans hi)
  subst this
  refine wpAny_Name ?_ hd
  rcases hH with ⟨k, m, hn, hm⟩ | ⟨k | k, kd, c, hc, hv⟩
  · exact wpAny_loadName_local K.kind k hn hm (Post.now K.inv hI)
  · exact wpAny_loadName_cell K.kind k hc hv (Post.now K.inv hI)
  · exact wpAny_loadName_free K.kind k hc hv (Post.now K.inv hI) kd

theorem ev_int {i : Int} {k : Nat} {pos : Pos} : Ev prog w G n F (.Constant (.int i) k pos) (fun _ => some (.int i)) := by
  intro env h₀ X W ρ A s d R K hf
  cases hf
  exact wpAny_Constant_int (Post.tok K.inv (.int i _))
theorem ev_str {x : String} {k : Nat} {pos : Pos} : Ev prog w G n F (.Constant (.str (Str.ofString x)) k pos) (fun _ => some (.str (Str.ofString x))) := by
  intro env h₀ X W ρ A s d R K hf
  cases hf
  rw [eval_Constant]
  show wpAny _ _ (mkText (Str.ofString x)) _ _ s
  exact wpAny_mkText (Post.tok K.inv (.str _ _))
theorem ev_bool {b : Bool} {k : Nat} {pos : Pos} : Ev prog w G n F (.Constant (.bool b) k pos) (fun _ => some (.bool b)) := by
  intro env h₀ X W ρ A s d R K hf
  cases hf
  rw [eval_Constant]
  exact wpAny_pure (Post.now K.inv (.bool b))

theorem evs_nil : Evs prog w G n F [] (fun _ => some []) := by
  intro pos env h₀ X W ρ A s ds R K hf
  cases hf
  exact args_nil (Post.now K.inv .nil)
theorem evs_cons {e : Expr} {es : List Expr} {f : List Slot → Option PV} {g : List Slot → Option (List PV)} (he : Ev prog w G n F e f) (hs : Evs prog w G n F es g)
    (hst : ∀ env, starEach (e :: es) env = (false, eval e env) :: starEach es env := by intro _; rfl) : Evs prog w G n F (e :: es) (fun ρ => (f ρ).bind fun d => (g ρ).bind fun ds => some (d :: ds)) := by
  intro pos env h₀ X W ρ A s ds R K hf
  obtain ⟨d, hd, hf⟩ := Option.bind_eq_some_iff.mp hf
  obtain ⟨ds', hds, hf⟩ := Option.bind_eq_some_iff.mp hf
  cases hf
  refine args_cons ?_ (hst env)
  refine seqP (he env h₀ X W ρ A s d R K hd) fun v h₁ tk₁ g₁ I₁ p₁ => ?_
  refine upP g₁ ?_
  have K₁ := K.gr g₁ I₁
  refine seqP (hs pos env h₀ X W ρ A _ ds' R K₁ hds) fun vs h₂ tk₂ g₂ I₂ p₂ => ?_
  exact ⟨h₂, tk₂, rfl, g₂, I₂, .cons (p₁.gr (g₂.wk K.tx)) p₂⟩

/-- new list, new tuple -/
theorem Is.newList {X : Addr → Prop} {h : Heap} {vs : List Value} {ds : List PV} (x : XOk X h) (a : IsAll prog w X h vs ds) :
    Is prog w X (h.push { cls := .type "list", data := .seq vs.toArray }) (.ref h.objs.size) (.lst ds) :=
  .lst ⟨_, Heap.get?_push_size _ rfl, rfl, 0, rfl⟩ (x.fresh (get_size h)) (a.gr (Gr.of fun _ _ e => Heap.get?_push_of_some _ e))
theorem Is.newTuple {X : Addr → Prop} {h : Heap} {vs : List Value} {ds : List PV} (x : XOk X h) (a : IsAll prog w X h vs ds) :
    Is prog w X (h.push { cls := .type "tuple", data := .seq vs.toArray }) (.ref h.objs.size) (.tup ds) :=
  .tup ⟨_, Heap.get?_push_size _ rfl, rfl, 0, rfl⟩ (x.fresh (get_size h)) (a.gr (Gr.of fun _ _ e => Heap.get?_push_of_some _ e))

theorem ev_list {es : List Expr} {pos : Pos} {g : List Slot → Option (List PV)} (hs : Evs prog w G n F es g) (hl : es.length ≤ 1000 := by decide) :
    Ev prog w G n F (.List es pos) (fun ρ => (g ρ).bind fun ds => if ds.length ≤ 1000 then some (.lst ds) else none) := by
  intro env h₀ X W ρ A s d R K hf
  obtain ⟨ds, hds, hf⟩ := Option.bind_eq_some_iff.mp hf
  split at hf
  · rename_i hle
    cases hf
    refine wpAny_List_spliced ?_
    refine seqP (hs pos env h₀ X W ρ A s ds R K hds) fun vs h₁ tk₁ g₁ I₁ p₁ => ⟨?_, ?_⟩
    · rw [p₁.length]; exact Nat.le_trans hle (by decide)
    · exact Post.lift g₁ (Post.grow I₁ (fun b o e => Heap.get?_push_of_some _ e) (Is.newList (K.gr g₁ I₁).xok p₁))
  · cases hf
theorem ev_tuple {es : List Expr} {k : Nat} {pos : Pos} {g : List Slot → Option (List PV)} (hs : Evs prog w G n F es g) :
    Ev prog w G n F (.Tuple es k pos) (fun ρ => (g ρ).bind fun ds => if ds.length ≤ 1000 then some (.tup ds) else none) := by
  intro env h₀ X W ρ A s d R K hf
  obtain ⟨ds, hds, hf⟩ := Option.bind_eq_some_iff.mp hf
  split at hf
  · rename_i hle
    cases hf
    refine wpAny_Tuple_spliced ?_
    refine seqP (hs pos env h₀ X W ρ A s ds R K hds) fun vs h₁ tk₁ g₁ I₁ p₁ => ⟨?_, ?_⟩
    · rw [p₁.length]; exact Nat.le_trans hle (by decide)
    · exact Post.lift g₁ (Post.grow I₁ (fun b o e => Heap.get?_push_of_some _ e) (Is.newTuple (K.gr g₁ I₁).xok p₁))
  · cases hf

/-! two operands -/
noncomputable def Op2 (t : Value → Value → Sem Value) (f : PV → PV → Option PV) : Prop :=
  ∀ (X : Addr → Prop) A s u v du dv d, Room n A → Inv G s.heap → XOk X s.heap → Is prog w X s.heap u du → Is prog w X s.heap v dv → f du dv = some d → wpAny (model prog w) A (t u v) (Post G s fun r h' => Is prog w X h' r d) No s
noncomputable def Cmp (op : CmpOp) (f : PV → PV → Option Bool) : Prop :=
  ∀ (X : Addr → Prop) A s u v du dv b, Room n A → Inv G s.heap → XOk X s.heap → Is prog w X s.heap u du → Is prog w X s.heap v dv → f du dv = some b → wpAny (model prog w) A (compareOp op u v) (Post G s fun r _ => r = .bool b) No s

theorem ev_binop {l r : Expr} {op : Operator} {pos : Pos} {f g : List Slot → Option PV} {o : PV → PV → Option PV} (hl : Ev prog w G n F l f) (hr : Ev prog w G n F r g) (ho : Op2 (prog := prog) (w := w) (G := G) (n := n) (binaryOp op) o) :
    Ev prog w G n F (.BinOp l op r pos) (fun ρ => (f ρ).bind fun a => (g ρ).bind fun b => o a b) := by
  intro env h₀ X W ρ A s d R K hf
  obtain ⟨a, ha, hf⟩ := Option.bind_eq_some_iff.mp hf
  obtain ⟨b, hb, hf⟩ := Option.bind_eq_some_iff.mp hf
  refine wpAny_BinOp ?_
  refine seqP (hl env h₀ X W ρ A s a R K ha) fun u h₁ tk₁ g₁ I₁ p₁ => ?_
  have K₁ := K.gr g₁ I₁
  refine seqP (hr env h₀ X W ρ A _ b R K₁ hb) fun v h₂ tk₂ g₂ I₂ p₂ => upP (g₁.trans g₂) ?_
  exact ho X A _ u v a b d R I₂ (K₁.gr g₂ I₂).xok (p₁.gr (g₂.wk K.tx)) p₂ hf

theorem ev_cmp {l r : Expr} {op : CmpOp} {pos : Pos} {f g : List Slot → Option PV} {o : PV → PV → Option Bool} (hl : Ev prog w G n F l f) (hr : Ev prog w G n F r g) (ho : Cmp (prog := prog) (w := w) (G := G) (n := n) op o)
    (hm : behindInMarks op r = false := by with_unfolding_all rfl) :
    Ev prog w G n F (.Compare l [op] [r] pos) (fun ρ => (f ρ).bind fun a => (g ρ).bind fun b => (o a b).bind fun c => some (.bool c)) := by
  intro env h₀ X W ρ A s d R K hf
  obtain ⟨a, ha, hf⟩ := Option.bind_eq_some_iff.mp hf
  obtain ⟨b, hb, hf⟩ := Option.bind_eq_some_iff.mp hf
  obtain ⟨c, hc, hf⟩ := Option.bind_eq_some_iff.mp hf
  cases hf
  refine wpAny_Compare1 ?_ hm
  refine seqP (hl env h₀ X W ρ A s a R K ha) fun u h₁ tk₁ g₁ I₁ p₁ => ?_
  have K₁ := K.gr g₁ I₁
  refine seqP (hr env h₀ X W ρ A _ b R K₁ hb) fun v h₂ tk₂ g₂ I₂ p₂ => upP (g₁.trans g₂) ?_
  refine wpAny_mono (ho X A _ u v a b c R I₂ (K₁.gr g₂ I₂).xok (p₁.gr (g₂.wk K.tx)) p₂ hc) (fun r s' x => x.imp fun v h' _ _ e => ?_) fun _ _ e => e
  subst e; exact .bool c
theorem ts_cmp {l r : Expr} {op : CmpOp} {pos : Pos} {f g : List Slot → Option PV} {o : PV → PV → Option Bool} (hl : Ev prog w G n F l f) (hr : Ev prog w G n F r g) (ho : Cmp (prog := prog) (w := w) (G := G) (n := n) op o)
    (hm : behindInMarks op r = false := by with_unfolding_all rfl) :
    Ts prog w G n F (.Compare l [op] [r] pos) (fun ρ => (f ρ).bind fun a => (g ρ).bind fun b => o a b) := by
  intro env h₀ X W ρ A s c R K hf
  obtain ⟨a, ha, hf⟩ := Option.bind_eq_some_iff.mp hf
  obtain ⟨b, hb, hf⟩ := Option.bind_eq_some_iff.mp hf
  refine wpAny_isTrue_Compare1 ?_ hm
  refine seqP (hl env h₀ X W ρ A s a R K ha) fun u h₁ tk₁ g₁ I₁ p₁ => ?_
  have K₁ := K.gr g₁ I₁
  refine seqP (hr env h₀ X W ρ A _ b R K₁ hb) fun v h₂ tk₂ g₂ I₂ p₂ => ?_
  refine seqP (ho X A _ u v a b c R I₂ (K₁.gr g₂ I₂).xok (p₁.gr (g₂.wk K.tx)) p₂ hf) fun r h₃ tk₃ g₃ I₃ e => upP ((g₁.trans g₂).trans g₃) ?_
  subst e
  exact wpAny_truthy_bool (Post.now I₃ rfl)
end
end Mine

namespace Mine
open PySem PySem.Spec PySem.Calls PyProof.Rows PySem.W

/-! plain functions -/
noncomputable def ints? : List PV → Option (List Int)
  | [] => some []
  | .int i :: r => (ints? r).bind fun l => some (i :: l)
  | _ :: _ => none
noncomputable def pvAdd : PV → PV → Option PV
  | .int a, .int b => some (.int (a + b))
  | .lst a, .lst b => if a.length + b.length ≤ 1000 then some (.lst (a ++ b)) else none
  | _, _ => none
noncomputable def pvSub : PV → PV → Option PV
  | .int a, .int b => some (.int (a - b))
  | _, _ => none
noncomputable def pvMod : PV → PV → Option PV
  | .int a, .int b => if b = 0 then none else some (.int (a.fmod b))
  | _, _ => none
noncomputable def pvEq : PV → PV → Option Bool
  | .int a, .int b => some (a == b)
  | .lst a, .lst b => if a.length = b.length then (ints? a).bind fun x => (ints? b).bind fun y => some (decide (x = y)) else some false
  | .tup a, .tup b => (ints? a).bind fun x => (ints? b).bind fun y => some (decide (x = y))
  | _, _ => none
noncomputable def pvNe (a b : PV) : Option Bool := (pvEq a b).bind fun c => some (!c)
noncomputable def tups? : List PV → Option (List (List Int))
  | [] => some []
  | .tup a :: r => (ints? a).bind fun x => (tups? r).bind fun l => some (x :: l)
  | _ :: _ => none
noncomputable def pvIn : PV → PV → Option Bool
  | .int a, .lst l => (ints? l).bind fun x => some (x.any (· == a))
  | .int a, .tup l => (ints? l).bind fun x => some (x.any (· == a))
  | .tup a, .lst l => (ints? a).bind fun x => (tups? l).bind fun y => some (y.any (fun z => decide (z = x)))
  | _, _ => none
noncomputable def pvNotIn (a b : PV) : Option Bool := (pvIn a b).bind fun c => some (!c)

section
variable {prog : Program} {w : World} {X : Addr → Prop} {h : Heap}
theorem Is.int_inv {v : Value} {i : Int} (a : Is prog w X h v (.int i)) : ∃ t, v = .int i t := by
  cases a; exact ⟨_, rfl⟩
theorem Is.lst_inv {v : Value} {l : List PV} (a : Is prog w X h v (.lst l)) : ∃ la vs, v = .ref la ∧ h.IsList la (vs : List Value).toArray ∧ ¬ X la ∧ IsAll prog w X h vs l := by
  cases a with
  | lst p q r => exact ⟨_, _, rfl, p, q, r⟩
theorem Is.tup_inv {v : Value} {l : List PV} (a : Is prog w X h v (.tup l)) : ∃ la vs, v = .ref la ∧ h.IsTuple la (vs : List Value).toArray ∧ ¬ X la ∧ IsAll prog w X h vs l := by
  cases a with
  | tup p q r => exact ⟨_, _, rfl, p, q, r⟩
theorem ints_are : ∀ {vs : List Value} {ds : List PV}, IsAll prog w X h vs ds → ∀ {ns : List Int}, ints? ds = some ns → IntsAre vs ns
  | _, _, .nil, ns, e => by cases e; exact .nil
  | _, _, .cons (d := d) a r, ns, e => by
    cases a with
    | int i t =>
      unfold ints? at e
      obtain ⟨l, hl, e⟩ := Option.bind_eq_some_iff.mp e
      cases e
      exact .cons i t (ints_are r hl)
    | _ => cases e
end

section
variable {prog : Program} {w : World} {G : Heap} {n : Nat} {F : Fm}

theorem op_add : Op2 (prog := prog) (w := w) (G := G) (n := n) (binaryOp .Add) pvAdd := by
  intro X A s u v du dv d R I x hu hv hf
  unfold pvAdd at hf
  split at hf
  · cases hf
    obtain ⟨_, rfl⟩ := hu.int_inv
    obtain ⟨_, rfl⟩ := hv.int_inv
    exact PyProof.Rows.add_int (Post.tok I (.int _ _))
  · split at hf
    · rename_i hle
      cases hf
      obtain ⟨la, vs, rfl, hl, hx, ha⟩ := hu.lst_inv
      obtain ⟨lb, ws, rfl, hl', hx', ha'⟩ := hv.lst_inv
      obtain ⟨⟨cls, dd, data, sl⟩, ho, hc, n, hd⟩ := id hl
      obtain ⟨⟨cls2, dd2, data2, sl2⟩, ho2, hc2, n2, hd2⟩ := id hl'
      simp only at hc hd hc2 hd2
      subst hc hd hc2 hd2
      have hsz : vs.toArray.size + ws.toArray.size ≤ sizeLine := by
        have e1 := ha.length
        have e2 := ha'.length
        rw [List.size_toArray, List.size_toArray, e1, e2]
        exact Nat.le_trans hle (by decide)
      refine concat_meets ⟨_, ho, rfl⟩ ⟨_, ho2, rfl⟩ noFill_list_add seq_list_add PySem.F.slot_list_add PySem.F.entry_list_add (PySem.F.args_list_add_2 _ _) (list_addW _ _ vs.toArray ws.toArray n n2 dd dd2 sl sl2 hsz) ⟨ho, ho2, ?_⟩
      refine Post.grow I (fun b o e => Heap.get?_push_of_some _ e) ?_
      have e : vs.toArray ++ ws.toArray = (vs ++ ws).toArray := by simp
      rw [e]
      exact Is.newList x (ha.append ha')
    · cases hf
  · cases hf

theorem op_sub : Op2 (prog := prog) (w := w) (G := G) (n := n) (binaryOp .Sub) pvSub := by
  intro X A s u v du dv d R I x hu hv hf
  unfold pvSub at hf
  split at hf
  · cases hf
    obtain ⟨_, rfl⟩ := hu.int_inv
    obtain ⟨_, rfl⟩ := hv.int_inv
    exact PyProof.Rows.sub_int (Post.tok I (.int _ _))
  · cases hf

theorem op_mod : Op2 (prog := prog) (w := w) (G := G) (n := n) (binaryOp .Mod) pvMod := by
  intro X A s u v du dv d R I x hu hv hf
  unfold pvMod at hf
  split at hf
  · split at hf
    · cases hf
    · rename_i h
      cases hf
      obtain ⟨_, rfl⟩ := hu.int_inv
      obtain ⟨_, rfl⟩ := hv.int_inv
      exact PyProof.Rows.mod_int h (Post.tok I (.int _ _))
  · cases hf

open SeqAt in
theorem eqAt_ints {A : Around} {s : Shared} {vs ws : List Value} {ns ms : List Int} (hi : IntsAre vs ns) (hj : IntsAre ws ms) :
    ∀ j (h1 : j < vs.toArray.size) (h2 : j < ws.toArray.size), EqAt A s vs.toArray[j] ws.toArray[j] (ns.getD j 0 == ms.getD j 0) := by
  intro j h1 h2
  have l1 : j < ns.length := by rw [← hi.length]; simpa using h1
  have l2 : j < ms.length := by rw [← hj.length]; simpa using h2
  obtain ⟨t, e1⟩ := hi.get j (ns[j]'l1) (List.getElem?_eq_getElem l1)
  obtain ⟨u, e2⟩ := hj.get j (ms[j]'l2) (List.getElem?_eq_getElem l2)
  have f1 : vs.toArray[j] = .int (ns[j]'l1) t := by
    have := List.getElem?_eq_some_iff.mp e1
    obtain ⟨q, e⟩ := this
    simpa using e
  have f2 : ws.toArray[j] = .int (ms[j]'l2) u := by
    have := List.getElem?_eq_some_iff.mp e2
    obtain ⟨q, e⟩ := this
    simpa using e
  rw [f1, f2]
  have g1 : ns.getD j 0 = ns[j]'l1 := by simp [List.getD, l1]
  have g2 : ms.getD j 0 = ms[j]'l2 := by simp [List.getD, l2]
  rw [g1, g2]
  exact EqAt.int_int _ t _ u
theorem all_eq_ints {ns ms : List Int} : ((List.range (min ns.length ms.length)).all (fun j => ns.getD j 0 == ms.getD j 0) && ns.length == ms.length) = decide (ns = ms) := by
  by_cases h : ns = ms
  · subst h; simp
  · rw [decide_eq_false h]
    by_cases hl : ns.length = ms.length
    · have : ∃ j, j < ns.length ∧ ns.getD j 0 ≠ ms.getD j 0 := by
        refine Classical.byContradiction fun hn => h (List.ext_getElem hl fun j h1 h2 => ?_)
        refine Classical.byContradiction fun hne => hn ⟨j, h1, ?_⟩
        simpa [List.getD, h1, h2] using hne
      obtain ⟨j, hj, hne⟩ := this
      have : (List.range (min ns.length ms.length)).all (fun j => ns.getD j 0 == ms.getD j 0) = false := by
        rw [List.all_eq_false]
        exact ⟨j, by simp; omega, by simpa using hne⟩
      rw [this]; rfl
    · have : (ns.length == ms.length) = false := by simpa using hl
      rw [this, Bool.and_false]

theorem cmp_eq : Cmp (prog := prog) (w := w) (G := G) (n := n) .Eq pvEq := by
  intro X A s u v du dv b R I x hu hv hf
  unfold pvEq at hf
  split at hf
  · cases hf
    obtain ⟨_, rfl⟩ := hu.int_inv
    obtain ⟨_, rfl⟩ := hv.int_inv
    exact wpAny_eq_int (Post.now I rfl)
  · obtain ⟨la, vs, rfl, hl, hx, ha⟩ := hu.lst_inv
    obtain ⟨lb, ws, rfl, hl', hx', ha'⟩ := hv.lst_inv
    split at hf
    · obtain ⟨ns, hns, hf⟩ := Option.bind_eq_some_iff.mp hf
      obtain ⟨ms, hms, hf⟩ := Option.bind_eq_some_iff.mp hf
      cases hf
      exact ke_eq_ints hl hl' (ints_are ha hns) (ints_are ha' hms) (R.units1 64 (by decide)) (Post.now I rfl)
    · rename_i hne
      cases hf
      refine SeqAt.eq_list_lengthsAt hl hl' ?_ R.units (Post.now I rfl)
      simp only [List.size_toArray, bne_iff_ne, ne_eq, ha.length, ha'.length]
      exact hne
  · obtain ⟨la, vs, rfl, hl, hx, ha⟩ := hu.tup_inv
    obtain ⟨lb, ws, rfl, hl', hx', ha'⟩ := hv.tup_inv
    obtain ⟨ns, hns, hf⟩ := Option.bind_eq_some_iff.mp hf
    obtain ⟨ms, hms, hf⟩ := Option.bind_eq_some_iff.mp hf
    cases hf
    have i1 := ints_are ha hns
    have i2 := ints_are ha' hms
    refine SeqAt.eq_tupleAt (e := fun j => ns.getD j 0 == ms.getD j 0) hl hl' R.units (eqAt_ints i1 i2) ?_
    have e : ((List.range (min _ _)).all _ && _ == _) = _ := all_eq_ints (ns := ns) (ms := ms)
    simp only [List.size_toArray, i1.length, i2.length]
    rw [e]
    exact Post.now I rfl
  · cases hf

theorem cmp_ne : Cmp (prog := prog) (w := w) (G := G) (n := n) .NotEq pvNe := by
  intro X A s u v du dv b R I x hu hv hf
  unfold pvNe pvEq at hf
  obtain ⟨c, hc, hf⟩ := Option.bind_eq_some_iff.mp hf
  cases hf
  split at hc
  · cases hc
    obtain ⟨_, rfl⟩ := hu.int_inv
    obtain ⟨_, rfl⟩ := hv.int_inv
    exact PyProof.Rows.ne_int (Post.now I rfl)
  · obtain ⟨la, vs, rfl, hl, hx, ha⟩ := hu.lst_inv
    obtain ⟨lb, ws, rfl, hl', hx', ha'⟩ := hv.lst_inv
    split at hc
    · obtain ⟨ns, hns, hc⟩ := Option.bind_eq_some_iff.mp hc
      obtain ⟨ms, hms, hc⟩ := Option.bind_eq_some_iff.mp hc
      cases hc
      exact ke_ne_ints hl hl' (ints_are ha hns) (ints_are ha' hms) (R.units1 64 (by decide)) (Post.now I rfl)
    · rename_i hne
      cases hc
      refine SeqAt.RcNeAt.lists_lengths hl hl' ?_ R.units prog w No _ (Post.now I rfl)
      simp only [List.size_toArray, bne_iff_ne, ne_eq, ha.length, ha'.length]
      exact hne
  · obtain ⟨la, vs, rfl, hl, hx, ha⟩ := hu.tup_inv
    obtain ⟨lb, ws, rfl, hl', hx', ha'⟩ := hv.tup_inv
    obtain ⟨ns, hns, hc⟩ := Option.bind_eq_some_iff.mp hc
    obtain ⟨ms, hms, hc⟩ := Option.bind_eq_some_iff.mp hc
    cases hc
    have i1 := ints_are ha hns
    have i2 := ints_are ha' hms
    refine SeqAt.RcNeAt.tuples (e := fun j => ns.getD j 0 == ms.getD j 0) hl hl' R.units (eqAt_ints i1 i2) prog w No _ ?_
    have e : ((List.range (min _ _)).all _ && _ == _) = _ := all_eq_ints (ns := ns) (ms := ms)
    simp only [List.size_toArray, i1.length, i2.length]
    rw [e]
    exact Post.now I rfl
  · cases hc

/-- a tuple of ints, seen in the heap -/
noncomputable def IntTup (h : Heap) (v : Value) (ns : List Int) : Prop := ∃ a vs, v = .ref a ∧ h.IsTuple a (vs : List Value).toArray ∧ IntsAre vs ns
theorem intsAre_one : ∀ {vs : List Value} {ns ms : List Int}, IntsAre vs ns → IntsAre vs ms → ns = ms
  | _, _, _, .nil, h => by cases h; rfl
  | _, _, _, .cons n t r, h => by
    cases h with
    | cons m u r' => rw [intsAre_one r r']
theorem IntTup.one {h : Heap} {v : Value} {ns ms : List Int} (x : IntTup h v ns) (y : IntTup h v ms) : ns = ms := by
  obtain ⟨a, vs, rfl, ⟨o, ho, hc, n, hd⟩, i⟩ := x
  obtain ⟨a', vs', e, ⟨o', ho', hc', n', hd'⟩, i'⟩ := y
  cases e
  rw [ho] at ho'; cases ho'
  rw [hd] at hd'
  injection hd' with e1 e2
  have : vs = vs' := by simpa using congrArg Array.toList e1
  subst this
  exact intsAre_one i i'
open Classical in
noncomputable def isTupOf (h : Heap) (x : List Int) (v : Value) : Bool := decide (IntTup h v x)
theorem isTupOf_eq {h : Heap} {x z : List Int} {v : Value} (hz : IntTup h v z) : isTupOf h x v = decide (z = x) := by
  unfold isTupOf
  by_cases q : z = x
  · subst q; simp only [hz, decide_true]
  · rw [decide_eq_false q]
    have : ¬ IntTup h v x := fun y => q (hz.one y)
    simp only [this, decide_false]
theorem tups_are {X : Addr → Prop} {h : Heap} : ∀ {vs : List Value} {ds : List PV}, IsAll prog w X h vs ds → ∀ {nss : List (List Int)}, tups? ds = some nss → ∀ x, vs.any (isTupOf h x) = nss.any (fun z => decide (z = x)) ∧ ∀ v ∈ vs, ∃ z, IntTup h v z
  | _, _, .nil, nss, e, x => by cases e; exact ⟨rfl, fun _ hv => nomatch hv⟩
  | _, _, .cons a r, nss, e, x => by
    cases a with
    | tup ht hx ha =>
      unfold tups? at e
      obtain ⟨z, hz, e⟩ := Option.bind_eq_some_iff.mp e
      obtain ⟨l, hl, e⟩ := Option.bind_eq_some_iff.mp e
      cases e
      obtain ⟨e1, e2⟩ := tups_are r hl x
      have it : IntTup h _ z := ⟨_, _, rfl, ht, ints_are ha hz⟩
      refine ⟨?_, fun v hv => ?_⟩
      · rw [List.any_cons, List.any_cons, e1]
        rw [isTupOf_eq it]
      · rcases List.mem_cons.mp hv with rfl | hv
        · exact ⟨z, it⟩
        · exact e2 v hv
    | _ => cases e
open SeqAt in
theorem eqAt_tup {A : Around} {s : Shared} {u v : Value} {z x : List Int} (hu : A.units < cLine) (a : IntTup s.heap u z) (b : IntTup s.heap v x) : EqAt A s u v (decide (z = x)) := by
  obtain ⟨la, vs, rfl, ha, ia⟩ := a
  obtain ⟨lb, ws, rfl, hb, ib⟩ := b
  by_cases q : la = lb
  · subst q
    have : z = x := IntTup.one ⟨_, _, rfl, ha, ia⟩ ⟨_, _, rfl, hb, ib⟩
    rw [decide_eq_true this]
    exact EqAt.same _
  · refine EqAt.of_refs q ?_
    have := RcAt.tuples (A := A) (s := s) (e := fun j => z.getD j 0 == x.getD j 0) ha hb hu (eqAt_ints ia ib)
    simp only [List.size_toArray, ia.length, ib.length] at this
    rw [all_eq_ints] at this
    exact this

theorem cmp_in : Cmp (prog := prog) (w := w) (G := G) (n := n) .In pvIn := by
  intro X A s u v du dv b R I x hu hv hf
  unfold pvIn at hf
  split at hf
  · obtain ⟨ns, hns, hf⟩ := Option.bind_eq_some_iff.mp hf
    cases hf
    obtain ⟨_, rfl⟩ := hu.int_inv
    obtain ⟨la, vs, rfl, hl', hx', ha'⟩ := hv.lst_inv
    exact in_list_ints hl' (ints_are ha' hns) (Post.now I rfl)
  · obtain ⟨ns, hns, hf⟩ := Option.bind_eq_some_iff.mp hf
    cases hf
    obtain ⟨_, rfl⟩ := hu.int_inv
    obtain ⟨la, vs, rfl, hl', hx', ha'⟩ := hv.tup_inv
    exact in_tuple_ints hl' (by simpa using ints_are ha' hns) (Post.now I rfl)
  · obtain ⟨ns, hns, hf⟩ := Option.bind_eq_some_iff.mp hf
    obtain ⟨nss, hnss, hf⟩ := Option.bind_eq_some_iff.mp hf
    cases hf
    obtain ⟨la, vs, rfl, hl, hx, ha⟩ := hu.tup_inv
    obtain ⟨lb, ws, rfl, hl', hx', ha'⟩ := hv.lst_inv
    obtain ⟨e1, e2⟩ := tups_are ha' hnss ns
    refine SeqAt.in_listAt (isTupOf s.heap ns) hl' (fun y hy => ?_) ?_
    · obtain ⟨z, hz⟩ := e2 y (by simpa using hy)
      have q := eqAt_tup (A := A.in1) (R.units1 1 (by decide)) hz ⟨_, _, rfl, hl, ints_are ha hns⟩
      rw [isTupOf_eq hz]; exact q
    · rw [← Array.any_toList]
      rw [e1]
      exact Post.now I rfl
  · cases hf

theorem cmp_notin : Cmp (prog := prog) (w := w) (G := G) (n := n) .NotIn pvNotIn := by
  intro X A s u v du dv b R I x hu hv hf
  unfold pvNotIn pvIn at hf
  obtain ⟨c, hc, hf⟩ := Option.bind_eq_some_iff.mp hf
  cases hf
  split at hc
  · obtain ⟨ns, hns, hc⟩ := Option.bind_eq_some_iff.mp hc
    cases hc
    obtain ⟨_, rfl⟩ := hu.int_inv
    obtain ⟨la, vs, rfl, hl', hx', ha'⟩ := hv.lst_inv
    exact notin_list_ints hl' (ints_are ha' hns) (Post.now I rfl)
  · obtain ⟨ns, hns, hc⟩ := Option.bind_eq_some_iff.mp hc
    cases hc
    obtain ⟨_, rfl⟩ := hu.int_inv
    obtain ⟨la, vs, rfl, hl', hx', ha'⟩ := hv.tup_inv
    exact notin_tuple_ints hl' (by simpa using ints_are ha' hns) (Post.now I rfl)
  · obtain ⟨ns, hns, hc⟩ := Option.bind_eq_some_iff.mp hc
    obtain ⟨nss, hnss, hc⟩ := Option.bind_eq_some_iff.mp hc
    cases hc
    obtain ⟨la, vs, rfl, hl, hx, ha⟩ := hu.tup_inv
    obtain ⟨lb, ws, rfl, hl', hx', ha'⟩ := hv.lst_inv
    obtain ⟨e1, e2⟩ := tups_are ha' hnss ns
    refine SeqAt.notIn_listAt (isTupOf s.heap ns) hl' (fun y hy => ?_) ?_
    · obtain ⟨z, hz⟩ := e2 y (by simpa using hy)
      have q := eqAt_tup (A := A.in1) (R.units1 1 (by decide)) hz ⟨_, _, rfl, hl, ints_are ha hns⟩
      rw [isTupOf_eq hz]; exact q
    · rw [← Array.any_toList]
      rw [e1]
      exact Post.now I rfl
  · cases hc

end
end Mine

namespace Mine
open PySem PySem.Spec PySem.Calls PyProof.Rows PySem.W

structure GT (G : Heap) (mg mb : Str → Option Value) : Prop where
  g : G.Ns mainGlobals mg
  b : G.Ns builtinsNs mb
  nolimit : G.NoLimit
noncomputable def Glo (mg mb : Str → Option Value) (x : Str) (v : Value) : Prop := mg x = some v ∨ (mg x = none ∧ mb x = some v)

section
variable (prog : Program) (w : World) (G : Heap)
/-- what a call of a value gives, for data -/
noncomputable def Fn (k : Nat) (f : Value) (φ : List PV → Option PV) : Prop :=
  ∀ (X : Addr → Prop) A s vs ds d, Room k A → Inv G s.heap → XOk X s.heap → IsAll prog w X s.heap vs ds → φ ds = some d → wpAny (model prog w) A (call f vs) (Post G s fun v h' => Is prog w X h' v d) No s
end

section
variable {prog : Program} {w : World} {G : Heap} {n : Nat} {F : Fm} {mg mb : Str → Option Value}

theorem gname (T : GT G mg mb) {x : Str} {pos : Pos} {v : Value} {env : Env} {h₀ : Heap} {X W : Addr → Prop} {ρ : List Slot} {A : Around} {s : Shared} {Q : Value → Shared → Prop} (K : Ok prog w G F env h₀ X W ρ s.heap) (hx : x ∈ F.gl) (hv : Glo mg mb x v)
    (hd : (x == ("__debug__" : Str)) = false) (h : Q v s) : wpAny (model prog w) A (eval (.Name x pos) env) Q No s := by
  refine wpAny_Name ?_ hd
  rw [loadName_read K.kind (K.gl x hx)]
  have hg : s.heap.Ns env.globals mg := by rw [K.glob]; exact ns_gr T.g fun o => K.inv.keep _ o
  have hb : s.heap.Ns env.builtins mb := by rw [K.blt]; exact ns_gr T.b fun o => K.inv.keep _ o
  rcases hv with hv | ⟨hm, hv⟩
  · exact loadGlobal_global hg hv h
  · exact loadGlobal_builtin hg hm hb hv h

theorem ev_calldef (T : GT G mg mb) {x : Str} {p pos : Pos} {e : Expr} {es : List Expr} {a : Addr} {o : Obj} {fd : FuncData} {k : Nat} {φ : List PV → Option PV} {g : List Slot → Option (List PV)}
    (hf : Fn prog w G k (.ref a) φ) (hx : x ∈ F.gl) (hv : Glo mg mb x (.ref a)) (ho : G.get? a = some o) (hfd : o.data = .func fd) (hk : k ≤ n) (hs : Evs prog w G n F (e :: es) g)
    (hd : (x == ("__debug__" : Str)) = false := by decide) (he : ∀ env, starEach (e :: es) env = (false, eval e env) :: starEach es env := by intro _; rfl) :
    Ev prog w G n F (.Call (.Name x p) (e :: es) [] pos) (fun ρ => (g ρ).bind φ) := by
  intro env h₀ X W ρ A s d R K hq
  obtain ⟨ds, hds, hq⟩ := Option.bind_eq_some_iff.mp hq
  refine Call_Name rfl (gname T K hx hv hd ?_)
  refine callWith_def hfd ?_ (he env)
  refine seqP (hs pos env h₀ X W ρ A s ds R K hds) fun vs h₁ tk₁ g₁ I₁ p₁ => ⟨I₁.keep _ _ ho, upP g₁ ?_⟩
  exact hf X A _ vs ds d (R.wk hk) I₁ (K.gr g₁ I₁).xok p₁ hq
theorem ev_callblt (T : GT G mg mb) {x : Str} {p pos : Pos} {e : Expr} {es : List Expr} {id : String} {k : Nat} {φ : List PV → Option PV} {g : List Slot → Option (List PV)}
    (hf : Fn prog w G k (.builtin id) φ) (hx : x ∈ F.gl) (hv : Glo mg mb x (.builtin id)) (hk : k ≤ n) (hs : Evs prog w G n F (e :: es) g)
    (hd : (x == ("__debug__" : Str)) = false := by decide) (he : ∀ env, starEach (e :: es) env = (false, eval e env) :: starEach es env := by intro _; rfl) (hp : ∀ env, (backTo pos (starEach es env)).any (·.1) = false := by intro _; rfl) :
    Ev prog w G n F (.Call (.Name x p) (e :: es) [] pos) (fun ρ => (g ρ).bind φ) := by
  intro env h₀ X W ρ A s d R K hq
  obtain ⟨ds, hds, hq⟩ := Option.bind_eq_some_iff.mp hq
  refine Call_Name rfl (gname T K hx hv hd ?_)
  refine PyProof.Rows.callWith_builtin1 ?_ (he env) (hp env)
  refine seqP (hs pos env h₀ X W ρ A s ds R K hds) fun vs h₁ tk₁ g₁ I₁ p₁ => upP g₁ ?_
  exact hf X A _ vs ds d (R.wk hk) I₁ (K.gr g₁ I₁).xok p₁ hq
theorem ev_calltype (T : GT G mg mb) {x : Str} {p pos : Pos} {e : Expr} {es : List Expr} {id : String} {k : Nat} {φ : List PV → Option PV} {g : List Slot → Option (List PV)}
    (hf : Fn prog w G k (.type id) φ) (hx : x ∈ F.gl) (hv : Glo mg mb x (.type id)) (hk : k ≤ n) (hs : Evs prog w G n F (e :: es) g)
    (hd : (x == ("__debug__" : Str)) = false := by decide) (he : ∀ env, starEach (e :: es) env = (false, eval e env) :: starEach es env := by intro _; rfl) (hp : ∀ env, (backTo pos (starEach es env)).any (·.1) = false := by intro _; rfl) :
    Ev prog w G n F (.Call (.Name x p) (e :: es) [] pos) (fun ρ => (g ρ).bind φ) := by
  intro env h₀ X W ρ A s d R K hq
  obtain ⟨ds, hds, hq⟩ := Option.bind_eq_some_iff.mp hq
  refine Call_Name rfl (gname T K hx hv hd ?_)
  refine PyProof.Rows.callWith_type1 ?_ (he env) (hp env)
  refine seqP (hs pos env h₀ X W ρ A s ds R K hds) fun vs h₁ tk₁ g₁ I₁ p₁ => upP g₁ ?_
  exact hf X A _ vs ds d (R.wk hk) I₁ (K.gr g₁ I₁).xok p₁ hq

/-! built-ins -/
noncomputable def fLen : List PV → Option PV
  | [.lst l] => if l.length ≤ 1000000 then some (.int l.length) else none
  | _ => none
noncomputable def fAbs : List PV → Option PV
  | [.int a] => some (.int (if a < 0 then -a else a))
  | _ => none
noncomputable def fList : List PV → Option PV
  | [.lst l] => if l.length ≤ 1000 then some (.lst l) else none
  | _ => none
noncomputable def fTuple : List PV → Option PV
  | [.lst l] => if l.length ≤ 1000 then some (.tup l) else none
  | _ => none

theorem fn_len : Fn prog w G 0 (.builtin "len") fLen := by
  intro X A s vs ds d R I x ha hf
  unfold fLen at hf
  split at hf
  · split at hf
    · rename_i hle
      cases hf
      cases ha with
      | cons a r =>
        cases r
        cases a with
        | lst hl hx hv =>
          have e := hv.length
          refine call_len_list hl (by rw [List.size_toArray, e]; omega) ?_
          rw [List.size_toArray, e]
          exact Post.tok I (.int _ _)
    · cases hf
  · cases hf
theorem fn_abs : Fn prog w G 0 (.builtin "abs") fAbs := by
  intro X A s vs ds d R I x ha hf
  unfold fAbs at hf
  split at hf
  · cases hf
    cases ha with
    | cons a r =>
      cases r
      cases a with
      | int i t => exact PyProof.Rows.call_abs_int fun u tk => Post.tok I (.int _ _)
  · cases hf
theorem fn_list : Fn prog w G 0 (.type "list") fList := by
  intro X A s vs ds d R I x ha hf
  unfold fList at hf
  split at hf
  · split at hf
    · rename_i hle
      cases hf
      cases ha with
      | cons a r =>
        cases r
        cases a with
        | @lst la ws _ hl hx hv =>
          obtain ⟨o, ho, hc, k, hd⟩ := hl
          refine call_list_seq la (.inl rfl) ho hc hd (fun h' c' kp hD => Post.grow I kp ?_) ?_
          · exact .lst ⟨_, hD, rfl, c', rfl⟩ (x.fresh (get_size _)) (hv.gr (Gr.of kp))
          · rw [List.size_toArray, hv.length]; exact Nat.le_trans hle (by decide)
    · cases hf
  · cases hf
theorem fn_tuple : Fn prog w G 0 (.type "tuple") fTuple := by
  intro X A s vs ds d R I x ha hf
  unfold fTuple at hf
  split at hf
  · split at hf
    · rename_i hle
      cases hf
      cases ha with
      | cons a r =>
        cases r
        cases a with
        | @lst la ws _ hl hx hv =>
          refine call_tuple_list hl (fun h' kp => ?_) ?_
          · have g : Gr isTab s.heap h' := Gr.of kp
            have I' := I.gr_keep kp
            refine ⟨_, s.toks, rfl, Gr.of fun b o e => Heap.get?_push_of_some _ (kp b o e), I.gr_keep fun b o e => Heap.get?_push_of_some _ (kp b o e), ?_⟩
            exact Is.newTuple (x.gr g I') (hv.gr (Gr.of kp))
          · rw [List.size_toArray, hv.length]; exact Nat.le_trans hle (by decide)
    · cases hf
  · cases hf

/-! items and slices -/
noncomputable def pvItem : PV → PV → Option PV
  | .lst l, .int k => if 0 ≤ k ∧ k < 1000000 then l[k.toNat]? else none
  | .tup l, .int k => if 0 ≤ k ∧ k < 1000000 then l[k.toNat]? else none
  | _, _ => none
theorem ev_item {e i : Expr} {pos : Pos} {f g : List Slot → Option PV} (he : Ev prog w G n F e f) (hi : Ev prog w G n F i g)
    (hs : ∀ l k u, subscripted i false (.ref l) (.int k u) = operate [.ref l, .int k u] (getItem (.ref l) (.int k u)) := by intros; with_unfolding_all rfl) :
    Ev prog w G n F (.Subscript e i pos) (fun ρ => (f ρ).bind fun a => (g ρ).bind fun b => pvItem a b) := by
  intro env h₀ X W ρ A s d R K hf
  obtain ⟨a, ha, hf⟩ := Option.bind_eq_some_iff.mp hf
  obtain ⟨b, hb, hf⟩ := Option.bind_eq_some_iff.mp hf
  refine Subscript_ ?_
  refine seqP (he env h₀ X W ρ A s a R K ha) fun u h₁ tk₁ g₁ I₁ p₁ => ?_
  have K₁ := K.gr g₁ I₁
  refine seqP (hi env h₀ X W ρ A _ b R K₁ hb) fun v h₂ tk₂ g₂ I₂ p₂ => upP (g₁.trans g₂) ?_
  have p₁' := p₁.gr (g₂.wk K.tx)
  cases p₁' with
  | lst hl hx hv =>
    cases p₂ with
    | int k t =>
      simp only [pvItem] at hf
      split at hf
      · rename_i hk
        obtain ⟨x, hx', hI⟩ := hv.getd hf
        exact tail_any (hl.typeIs) slot_list_getitem.lookup (wpAny_getItem_list hl hk.1 (by omega) (by simpa using hx') (Post.now I₂ hI)) (hs _ k t)
      · cases hf
    | _ => cases hf
  | @tup _ vs _ hl hx hv =>
    cases p₂ with
    | int k t =>
      simp only [pvItem] at hf
      split at hf
      · rename_i hk
        obtain ⟨x, hx', hI⟩ := hv.getd hf
        obtain ⟨q, _⟩ := List.getElem?_eq_some_iff.mp hx'
        have hj : seqIndex? k vs.length = some k.toNat := by
          have h0 : ¬ k < 0 := by omega
          have h1 : k < (vs.length : Int) := by omega
          unfold seqIndex?
          simp only [h0, if_false, hk.1, h1, decide_true, Bool.and_self, if_true]
        exact item_tupleT (j := k.toNat) hl (by omega) (by omega) hj hx' (Post.now I₂ hI) (hs _ k t)
      · cases hf
    | _ => cases hf
  | _ => cases hf
end
end Mine

namespace Mine
open PySem PySem.Spec PySem.Calls PyProof.Rows PySem.W

theorem isAll_pick {prog : Program} {w : World} {X : Addr → Prop} {h : Heap} {vs : List Value} {ds : List PV} (a : IsAll prog w X h vs ds) : ∀ is : List Nat, IsAll prog w X h (is.filterMap (vs[·]?)) (is.filterMap (ds[·]?))
  | [] => .nil
  | i :: is => by
    rw [List.filterMap_cons, List.filterMap_cons]
    cases e : vs[i]? with
    | some v =>
      obtain ⟨d, hd, hi⟩ := a.get e
      rw [hd]
      exact .cons hi (isAll_pick a is)
    | none =>
      cases e' : ds[i]? with
      | some d => obtain ⟨v, hv, _⟩ := a.getd e'; rw [e] at hv; cases hv
      | none => exact isAll_pick a is

noncomputable def pvUpto (c : Nat) : PV → Option PV
  | .lst l => if c ≤ l.length ∧ l.length ≤ 1000 then some (.lst (l.take c)) else none
  | _ => none
noncomputable def pvRev : PV → Option PV
  | .lst l => if l.length ≤ 1000 then some (.lst ((sliceRange (sliceBounds none none (some (-1)) l.length).1 (sliceBounds none none (some (-1)) l.length).2.1 (sliceBounds none none (some (-1)) l.length).2.2).filterMap (l[·]?))) else none
  | _ => none

section
variable {prog : Program} {w : World} {G : Heap} {n : Nat} {F : Fm} {mg mb : Str → Option Value}

theorem ev_upto {e : Expr} {z : Int} {c k : Nat} {p1 p pos : Pos} {f : List Slot → Option PV} (he : Ev prog w G n F e f) (hz : z = (c : Int) := by rfl) :
    Ev prog w G n F (.Subscript e (.Slice none (some (.Constant (.int z) k p1)) none p) pos) (fun ρ => (f ρ).bind (pvUpto c)) := by
  subst hz
  intro env h₀ X W ρ A s d R K hf
  obtain ⟨a, ha, hf⟩ := Option.bind_eq_some_iff.mp hf
  refine Subscript_ ?_
  refine seqP (he env h₀ X W ρ A s a R K ha) fun u h₁ tk₁ g₁ I₁ p₁ => ?_
  refine wpAny_Slice ?_
  rw [evalPart_none]
  refine wpAny_pure ?_
  rw [evalPart_some]
  refine wpAny_Constant_int ?_
  refine wpAny_pure ?_
  refine upP (h₁ := (h₁.push { cls := .type "slice", data := .fields #[.none, .int c tk₁, .none] })) (g₁.trans (Gr.of fun b o e => Heap.get?_push_of_some _ e)) ?_
  have I₂ : Inv G (h₁.push { cls := .type "slice", data := .fields #[.none, .int c tk₁, .none] }) := I₁.gr_keep fun b o e => Heap.get?_push_of_some _ e
  cases p₁ with
  | @lst la vs ds hl hx hv =>
    simp only [pvUpto] at hf
    split at hf
    · rename_i hc
      cases hf
      have hs : vs.toArray.size ≤ sizeLine := by rw [List.size_toArray, hv.length]; exact Nat.le_trans hc.2 (by decide)
      have hl' : (h₁.push { cls := .type "slice", data := .fields #[.none, .int c tk₁, .none] }).IsList la vs.toArray := hl.push _
      refine tail_any hl'.typeIs slot_list_getitem.lookup (wpAny_getItem_list_slice (hsz := hs) hl' (Heap.IsSliceOf.new ..) .none (.int c _) .none (by simp) ?_) rfl
      refine Post.grow I₂ (fun b o e => Heap.get?_push_of_some _ e) ?_
      rw [slicePick_upto vs.toArray c (by rw [List.size_toArray, hv.length]; exact hc.1)]
      refine Is.newList ((K.xok.gr g₁ I₁).gr (Gr.of fun b o e => Heap.get?_push_of_some _ e) I₂) ?_
      exact (hv.take c).gr (Gr.of fun b o e => Heap.get?_push_of_some _ e)
    · cases hf
  | _ => cases hf

theorem ev_rev {e : Expr} {k : Nat} {p0 p1 p pos : Pos} {f : List Slot → Option PV} (he : Ev prog w G n F e f) :
    Ev prog w G n F (.Subscript e (.Slice none none (some (.UnaryOp .USub (.Constant (.int 1) k p0) p1)) p) pos) (fun ρ => (f ρ).bind pvRev) := by
  intro env h₀ X W ρ A s d R K hf
  obtain ⟨a, ha, hf⟩ := Option.bind_eq_some_iff.mp hf
  refine Subscript_ ?_
  refine seqP (he env h₀ X W ρ A s a R K ha) fun u h₁ tk₁ g₁ I₁ p₁ => ?_
  refine wpAny_Slice ?_
  rw [evalPart_none]
  refine wpAny_pure ?_
  refine wpAny_pure ?_
  rw [evalPart_some]
  refine wpAny_UnaryOp (wpAny_Constant_int (PyProof.Rows.neg_int ?_))
  refine upP (h₁ := (h₁.push { cls := .type "slice", data := .fields #[.none, .none, .int (-1) (tk₁ + 1)] })) (g₁.trans (Gr.of fun b o e => Heap.get?_push_of_some _ e)) ?_
  have I₂ : Inv G (h₁.push { cls := .type "slice", data := .fields #[.none, .none, .int (-1) (tk₁ + 1)] }) := I₁.gr_keep fun b o e => Heap.get?_push_of_some _ e
  cases p₁ with
  | @lst la vs ds hl hx hv =>
    simp only [pvRev] at hf
    split at hf
    · rename_i hc
      cases hf
      have hs : vs.toArray.size ≤ sizeLine := by rw [List.size_toArray, hv.length]; exact Nat.le_trans hc (by decide)
      have hl' : (h₁.push { cls := .type "slice", data := .fields #[.none, .none, .int (-1) (tk₁ + 1)] }).IsList la vs.toArray := hl.push _
      refine tail_any hl'.typeIs slot_list_getitem.lookup (wpAny_getItem_list_slice (hsz := hs) hl' (Heap.IsSliceOf.new ..) .none .none (.int (-1) _) (by decide) ?_) rfl
      refine Post.grow I₂ (fun b o e => Heap.get?_push_of_some _ e) ?_
      unfold slicePick
      rw [List.size_toArray, hv.length]
      refine Is.newList ((K.xok.gr g₁ I₁).gr (Gr.of fun b o e => Heap.get?_push_of_some _ e) I₂) ?_
      have := (isAll_pick hv (sliceRange (sliceBounds none none (some (-1)) ds.length).1 (sliceBounds none none (some (-1)) ds.length).2.1 (sliceBounds none none (some (-1)) ds.length).2.2)).gr (h' := (h₁.push { cls := .type "slice", data := .fields #[.none, .none, .int (-1) (tk₁ + 1)] })) (Gr.of fun b o e => Heap.get?_push_of_some _ e)
      simpa using this
    · cases hf
  | _ => cases hf

/-! tests -/
noncomputable def pvTruth : PV → Option Bool
  | .bool b => some b
  | .lst l => if l.length ≤ 1000 then some (!l.isEmpty) else none
  | _ => none
theorem ts_val {e : Expr} {f : List Slot → Option PV} (he : Ev prog w G n F e f)
    (hi : ∀ env wh, isTrue e env wh = (do let v ← wh; standAt e.pos; holding [v] (truthy v)) := by intro _ _; rfl) : Ts prog w G n F e (fun ρ => (f ρ).bind pvTruth) := by
  intro env h₀ X W ρ A s b R K hf
  obtain ⟨a, ha, hf⟩ := Option.bind_eq_some_iff.mp hf
  rw [hi]
  refine wpAny_bind (seqP (he env h₀ X W ρ A s a R K ha) fun u h₁ tk₁ g₁ I₁ p₁ => upP g₁ ?_)
  refine wpAny_bind (wpAny_standAt (wpAny_holding ?_))
  cases p₁ with
  | bool c => cases hf; exact wpAny_truthy_bool (Post.now I₁ rfl)
  | @lst la vs ds hl hx hv =>
    simp only [pvTruth] at hf
    split at hf
    · rename_i hc
      cases hf
      refine wpAny_truthy_list hl (by rw [List.size_toArray, hv.length]; omega) ?_
      refine Post.tok I₁ ?_
      cases hv <;> rfl
    · cases hf
  | _ => cases hf
theorem ts_not {e : Expr} {pos : Pos} {f : List Slot → Option Bool} (he : Ts prog w G n F e f) : Ts prog w G n F (.UnaryOp .Not e pos) (fun ρ => (f ρ).bind fun b => some (!b)) := by
  intro env h₀ X W ρ A s b R K hf
  obtain ⟨a, ha, hf⟩ := Option.bind_eq_some_iff.mp hf
  cases hf
  show wpAny _ _ (do return !(← isTrue e env (eval e env))) _ _ s
  refine wpAny_bind (seqP (he env h₀ X W ρ A s a R K ha) fun u h₁ tk₁ g₁ I₁ e₁ => upP g₁ ?_)
  subst e₁
  exact wpAny_pure (Post.now I₁ rfl)
noncomputable def TsL (prog : Program) (w : World) (G : Heap) (n : Nat) (F : Fm) (op : BoolOp) (es : List Expr) (f : List Slot → Option Bool) : Prop :=
  ∀ env h₀ X W ρ A s b, Room n A → Ok prog w G F env h₀ X W ρ s.heap → f ρ = some b → wpAny (model prog w) A (allTrue op es env) (Post G s fun v _ => v = b) No s
theorem tsl_nil_and : TsL prog w G n F .And [] (fun _ => some true) := by
  intro env h₀ X W ρ A s b R K hf
  cases hf
  exact wpAny_pure (Post.now K.inv rfl)
theorem tsl_nil_or : TsL prog w G n F .Or [] (fun _ => some false) := by
  intro env h₀ X W ρ A s b R K hf
  cases hf
  exact wpAny_pure (Post.now K.inv rfl)
theorem tsl_and {e : Expr} {es : List Expr} {f g : List Slot → Option Bool} (he : Ts prog w G n F e f) (hs : TsL prog w G n F .And es g) : TsL prog w G n F .And (e :: es) (fun ρ => (f ρ).bind fun b => if b then g ρ else some false) := by
  intro env h₀ X W ρ A s b R K hf
  obtain ⟨a, ha, hf⟩ := Option.bind_eq_some_iff.mp hf
  show wpAny _ _ (isTrue e env (eval e env) >>= _) _ _ s
  refine wpAny_bind (seqP (he env h₀ X W ρ A s a R K ha) fun u h₁ tk₁ g₁ I₁ e₁ => upP g₁ ?_)
  subst e₁
  cases u with
  | true => exact hs env h₀ X W ρ A _ b R (K.gr g₁ I₁) hf
  | false => cases hf; exact wpAny_pure (Post.now I₁ rfl)
theorem tsl_or {e : Expr} {es : List Expr} {f g : List Slot → Option Bool} (he : Ts prog w G n F e f) (hs : TsL prog w G n F .Or es g) : TsL prog w G n F .Or (e :: es) (fun ρ => (f ρ).bind fun b => if b then some true else g ρ) := by
  intro env h₀ X W ρ A s b R K hf
  obtain ⟨a, ha, hf⟩ := Option.bind_eq_some_iff.mp hf
  show wpAny _ _ (isTrue e env (eval e env) >>= _) _ _ s
  refine wpAny_bind (seqP (he env h₀ X W ρ A s a R K ha) fun u h₁ tk₁ g₁ I₁ e₁ => upP g₁ ?_)
  subst e₁
  cases u with
  | false => exact hs env h₀ X W ρ A _ b R (K.gr g₁ I₁) hf
  | true => cases hf; exact wpAny_pure (Post.now I₁ rfl)
theorem ts_bool {op : BoolOp} {es : List Expr} {pos : Pos} {f : List Slot → Option Bool} (hs : TsL prog w G n F op es f) : Ts prog w G n F (.BoolOp op es pos) f := hs

/-! a list display taken so many times -/
noncomputable def pvMulL (l : List PV) : PV → Option PV
  | .int k => if 0 ≤ k ∧ k ≤ 1000 ∧ l.length = 1 then some (.lst (List.replicate k.toNat l).flatten) else none
  | _ => none
theorem flatten_foldl (l : List Value) : ∀ k : Nat, List.foldl (fun x1 x2 => x1 ++ x2) #[] (List.replicate k l.toArray) = (List.replicate k l).flatten.toArray := by
  have gen : ∀ (k : Nat) (a : List Value), List.foldl (fun x1 x2 => x1 ++ x2) a.toArray (List.replicate k l.toArray) = (a ++ (List.replicate k l).flatten).toArray := by
    intro k
    induction k with
    | zero => intro a; simp
    | succ k ih =>
      intro a
      rw [List.replicate_succ, List.foldl_cons, List.replicate_succ, List.flatten_cons]
      have : a.toArray ++ l.toArray = (a ++ l).toArray := by simp
      rw [this, ih, List.append_assoc]
  intro k
  simpa using gen k []
theorem isAll_rep {X : Addr → Prop} {h : Heap} {vs : List Value} {ds : List PV} (a : IsAll prog w X h vs ds) : ∀ k : Nat, IsAll prog w X h (List.replicate k vs).flatten (List.replicate k ds).flatten
  | 0 => .nil
  | k + 1 => by
    rw [List.replicate_succ, List.replicate_succ, List.flatten_cons, List.flatten_cons]
    exact a.append (isAll_rep a k)
theorem ev_mulList {es : List Expr} {r : Expr} {p pos : Pos} {g : List Slot → Option (List PV)} {f : List Slot → Option PV} (hs : Evs prog w G n F es g) (hr : Ev prog w G n F r f) :
    Ev prog w G n F (.BinOp (.List es p) .Mult r pos) (fun ρ => (g ρ).bind fun l => (f ρ).bind fun b => pvMulL l b) := by
  intro env h₀ X W ρ A s d R K hf
  obtain ⟨l, hl, hf⟩ := Option.bind_eq_some_iff.mp hf
  obtain ⟨b, hb, hf⟩ := Option.bind_eq_some_iff.mp hf
  refine wpAny_BinOp ?_
  refine wpAny_List_spliced ?_
  cases b with
  | int k =>
    simp only [pvMulL] at hf
    split at hf
    · rename_i hk
      cases hf
      refine seqP (hs p env h₀ X W ρ A s l R K hl) fun vs h₁ tk₁ g₁ I₁ p₁ => ⟨by rw [p₁.length, hk.2.2]; decide, ?_⟩
      have gp : Gr isTab h₁ (h₁.push { cls := .type "list", data := .seq vs.toArray }) := Gr.of fun b o e => Heap.get?_push_of_some _ e
      have Ip : Inv G (h₁.push { cls := .type "list", data := .seq vs.toArray }) := I₁.gr_keep fun b o e => Heap.get?_push_of_some _ e
      have Kp := (K.gr g₁ I₁).gr gp Ip
      refine seqP (hr env h₀ X W ρ A _ _ R Kp hb) fun v h₂ tk₂ g₂ I₂ p₂ => upP ((g₁.trans gp).trans g₂) ?_
      have hD : h₂.get? h₁.objs.size = some { cls := .type "list", data := .seq vs.toArray } := g₂ _ _ (fun q => by
        obtain ⟨ps, e⟩ := I₁.tabAlive q; rw [get_size] at e; cases e) (Heap.get?_push_size _ rfl)
      have hvs : vs.length = 1 := by rw [p₁.length]; exact hk.2.2
      cases p₂ with
      | int _ t =>
        refine wpAny_binaryOp_repeat_ref (T := "list") (U := "int") (by decide) ⟨_, hD, rfl⟩ (fun s' => typeIs_int s' _ _) noFill_list_mul PySem.F.fills_int_mul PySem.F.slot_int_rmul repeat_list PySem.F.slot_int_index.lookup
          (call_meets PySem.F.slot_int_rmul (typeIs_int _ _ _) PySem.F.entry_int_rmul (PySem.F.args_int_rmul_2 _ _) (int___rmul___int_list _ _ _ vs.toArray 0) ⟨hD, rfl, ⟨_, hD, rfl⟩, call_meets PySem.F.slot_list_mul ⟨_, hD, rfl⟩ PySem.F.entry_list_mul (PySem.F.args_list_mul_2 _ _)
            (AutoListH.list___mul___list_int_3 _ vs.toArray 0 _ _ ?_ ?_ ?_) ⟨hD, ?_⟩⟩)
        · simp [Builtin.List.listFitsIndex]; omega
        · rw [List.size_toArray, hvs]; omega
        · rw [List.size_toArray, hvs]; simp [Builtin.List.listTooLong, sizeLine]; omega
        · refine Post.grow I₂ (fun b o e => Heap.get?_push_of_some _ e) ?_
          have ne : vs.toArray.isEmpty = false := by
            cases vs with
            | nil => cases hvs
            | cons a r => rfl
          rw [ne]
          simp only [Bool.false_eq_true, if_false]
          rw [flatten_foldl]
          exact Is.newList (Kp.gr g₂ I₂).xok (isAll_rep ((p₁.gr (gp.wk K.tx)).gr (g₂.wk K.tx)) _)
    · cases hf
  | _ => cases hf
end
end Mine

namespace Mine
open PySem PySem.Spec PySem.Calls PyProof.Rows PySem.W

section
variable {prog : Program} {w : World} {A : Around} {E : Value → Shared → Prop} {R : Result → Shared → Prop} {s : Shared}

theorem compTurn_end (elt target iter : Expr) (ifs : List Expr) (gens : List Comprehension) (scope : Scope) (pos : Pos) (d : Nat) (it acc : Value) (env : Env) (hg : gens[d]? = some ⟨target, iter, ifs, 0⟩) (hn : gens[d + 1]? = none) :
    compTurn (.ListComp elt gens scope pos) d it acc env = (do
      standAt iter.pos
      match ← pyNext it with
      | none => pure (.done .next)
      | some v =>
        letOwnedTupleGo target it v
        assign target env v
        let mut ok := true
        for c in ifs do
          if ok then ok ← isTrue c env (eval c env)
        if ok then
          (do let _ ← call (.builtin "list.append") [acc, ← eval elt env])
        again (.compLoop (.ListComp elt gens scope pos) d it acc env)) := by
  unfold compTurn
  simp only [hg, hn]
  rfl
theorem compTurn_mid (elt target iter target' iter' : Expr) (ifs ifs' : List Expr) (gens : List Comprehension) (scope : Scope) (pos : Pos) (d : Nat) (it acc : Value) (env : Env) (hg : gens[d]? = some ⟨target, iter, ifs, 0⟩) (hn : gens[d + 1]? = some ⟨target', iter', ifs', 0⟩) :
    compTurn (.ListComp elt gens scope pos) d it acc env = (do
      standAt iter.pos
      match ← pyNext it with
      | none => pure (.done .next)
      | some v =>
        letOwnedTupleGo target it v
        assign target env v
        let mut ok := true
        for c in ifs do
          if ok then ok ← isTrue c env (eval c env)
        if ok then
          let x ← eval iter' env
          standAt iter'.pos
          let x ← foldedSetIterable iter' env x
          let _ ← runOwn (.compStart (.ListComp elt gens scope pos) (d + 1) (← holding [x] (pyIter x)) acc env) env
        again (.compLoop (.ListComp elt gens scope pos) d it acc env)) := by
  unfold compTurn
  simp only [hg, hn]
  rfl

theorem codeAny_compStart_at {elt target iter : Expr} {ifs : List Expr} {gens : List Comprehension} {scope : Scope} {pos : Pos} {d : Nat} {it acc : Value} {env : Env} (hg : gens[d]? = some ⟨target, iter, ifs, 0⟩)
    (h0 : codeAny (model prog w) A (.compLoop (.ListComp elt gens scope pos) d it acc env) R s)
    (h : wpAny (model prog w) A (pyIter it) (fun it' s' => codeAny (model prog w) A (.compLoop (.ListComp elt gens scope pos) d it' acc env) R s') (notedBy (model prog w) A env fun x s' => R (.error x) s') s) :
    codeAny (model prog w) A (.compStart (.ListComp elt gens scope pos) d it acc env) R s := by
  refine codeAny_of_tree ?_
  show wpAny _ _ ((compStart (.ListComp elt gens scope pos) d it acc env).onRaise (fun x => do noteFrame x env; standAt theWindowsPlace)) _ _ s
  refine wpAny_notedAt ?_
  unfold compStart
  have hc : (clausesOf (.ListComp elt gens scope pos))[d]? = some ⟨target, iter, ifs, 0⟩ := hg
  simp only [hc]
  show wpAny _ _ (ask >>= _) _ _ s
  refine wpAny_bind (wpAny_askSetting (wpAny_ite ?_))
  split
  · first
      | exact wpAny_bind (wpAny_pure (wpAny_pure (And.intro rfl h0)))
      | exact wpAny_pure (And.intro rfl h0)
  · refine wpAny_bind (wpAny_rule ?_)
    show wpAny _ _ (standAt iter.pos >>= _) _ _ s
    exact wpAny_bind (wpAny_standAt (wpAny_bind (wpAny_mono h (fun it' s' h' => wpAny_pure (And.intro rfl h')) fun _ _ x => x)))

noncomputable abbrev testsOf (ifs : List Expr) (env : Env) : Sem Bool := forIn ifs true fun c r => if r = true then do let ok ← isTrue c env (eval c env); pure (ForInStep.yield ok) else pure (ForInStep.yield r)

theorem codeAny_compLoop_end {elt target iter : Expr} {ifs : List Expr} {gens : List Comprehension} {scope : Scope} {pos : Pos} {d : Nat} {it acc : Value} {env : Env} (hg : gens[d]? = some ⟨target, iter, ifs, 0⟩) (hn : gens[d + 1]? = none) (I : Nat → Shared → Prop)
    (turn : ∀ n s, I n s → wpAny (model prog w) A (pyNext it) (fun r s₁ => match r with
      | none => R (.ok .next) s₁
      | some v => wpAny (model prog w) A (assign target env v) (fun _ s₂ =>
          wpAny (model prog w) A (testsOf ifs env) (fun ok s₃ =>
            if ok = true then wpAny (model prog w) A (eval elt env) (fun x s₄ => wpAny (model prog w) A (call (.builtin "list.append") [acc, x]) (fun _ s₅ => ∃ m, m < n ∧ I m s₅) No s₄) No s₃
            else ∃ m, m < n ∧ I m s₃) No s₂) No s₁) No s)
    (n : Nat) (h : I n s) (ht : ∀ v, letOwnedTupleGo target it v = pure () := by intro _; rfl) :
    codeAny (model prog w) A (.compLoop (.ListComp elt gens scope pos) d it acc env) R s := by
  refine codeAny_loop rfl I (fun n s hI => ?_) n h
  show wpAny _ A ((compTurn (.ListComp elt gens scope pos) d it acc env).onRaise (fun x => do noteFrame x env; theTreesLotGoes x)) _ _ s
  refine wpAny_noted ?_
  rw [compTurn_end elt target iter ifs gens scope pos d it acc env hg hn]
  refine wpAny_bind (wpAny_standAt (wpAny_bind (wpAny_mono (turn n s hI) (fun r s₁ h₁ => ?_) fun _ _ h' => h'.elim)))
  cases r with
  | none => exact wpAny_pure h₁
  | some v =>
    refine wpAny_bind (wpAny_of_eq (ht v) ?_)
    refine wpAny_bind (wpAny_mono h₁ (fun _ s₂ h₂ => wpAny_bind (wpAny_mono h₂ (fun ok s₃ h₃ => ?_) fun _ _ h' => h'.elim)) fun _ _ h' => h'.elim)
    cases ok with
    | false => exact wpAny_pure ⟨rfl, h₃⟩
    | true => exact wpAny_bind (wpAny_bind (wpAny_mono h₃ (fun x s₄ h₄ => wpAny_bind (wpAny_mono h₄ (fun _ s₅ h₅ => wpAny_pure (wpAny_pure ⟨rfl, h₅⟩)) fun _ _ h' => h'.elim)) fun _ _ h' => h'.elim))

theorem codeAny_compLoop_mid {elt target iter target' iter' : Expr} {ifs ifs' : List Expr} {gens : List Comprehension} {scope : Scope} {pos : Pos} {d : Nat} {it acc : Value} {env : Env} (hA : A.mark none = A) (hg : gens[d]? = some ⟨target, iter, ifs, 0⟩) (hn : gens[d + 1]? = some ⟨target', iter', ifs', 0⟩) (I : Nat → Shared → Prop)
    (turn : ∀ n s, I n s → wpAny (model prog w) A (pyNext it) (fun r s₁ => match r with
      | none => R (.ok .next) s₁
      | some v => wpAny (model prog w) A (assign target env v) (fun _ s₂ =>
          wpAny (model prog w) A (testsOf ifs env) (fun ok s₃ =>
            if ok = true then wpAny (model prog w) A (eval iter' env) (fun x s₄ => wpAny (model prog w) A (pyIter x) (fun it' s₅ =>
              codeAny (model prog w) A (.compStart (.ListComp elt gens scope pos) (d + 1) it' acc env) (fun r s₆ => match r with | .ok _ => ∃ m, m < n ∧ I m s₆ | .error _ => False) s₅) No s₄) No s₃
            else ∃ m, m < n ∧ I m s₃) No s₂) No s₁) No s)
    (n : Nat) (h : I n s) (ht : ∀ v, letOwnedTupleGo target it v = pure () := by intro _; rfl) (hs : ∀ x, foldedSetIterable iter' env x = pure x := by intro _; rfl) :
    codeAny (model prog w) A (.compLoop (.ListComp elt gens scope pos) d it acc env) R s := by
  refine codeAny_loop rfl I (fun n s hI => ?_) n h
  show wpAny _ A ((compTurn (.ListComp elt gens scope pos) d it acc env).onRaise (fun x => do noteFrame x env; theTreesLotGoes x)) _ _ s
  refine wpAny_noted ?_
  rw [compTurn_mid elt target iter target' iter' ifs ifs' gens scope pos d it acc env hg hn]
  refine wpAny_bind (wpAny_standAt (wpAny_bind (wpAny_mono (turn n s hI) (fun r s₁ h₁ => ?_) fun _ _ h' => h'.elim)))
  cases r with
  | none => exact wpAny_pure h₁
  | some v =>
    refine wpAny_bind (wpAny_of_eq (ht v) ?_)
    refine wpAny_bind (wpAny_mono h₁ (fun _ s₂ h₂ => wpAny_bind (wpAny_mono h₂ (fun ok s₃ h₃ => ?_) fun _ _ h' => h'.elim)) fun _ _ h' => h'.elim)
    cases ok with
    | false => exact wpAny_pure ⟨rfl, h₃⟩
    | true =>
      refine wpAny_bind (wpAny_mono h₃ (fun x s₄ h₄ => wpAny_bind (wpAny_standAt (wpAny_bind (wpAny_of_eq (hs x) (wpAny_bind (wpAny_holding (wpAny_mono h₄ (fun it' s₅ h₅ => wpAny_bind (wpAny_runOwn ?_)) fun _ _ h' => h'.elim))))))) fun _ _ h' => h'.elim)
      rw [hA]
      refine codeAny_mono h₅ fun r s₆ h₆ => ?_
      cases r with
      | ok f => exact wpAny_pure ⟨rfl, h₆⟩
      | error e => exact h₆.elim
end
end Mine

namespace Mine
open PySem PySem.Spec PySem.Calls PyProof.Rows PySem.W

section
variable {prog : Program} {w : World} {G : Heap} {F : Fm} {env : Env} {h₀ h h' : Heap} {X Y W : Addr → Prop} {ρ : List Slot}

theorem ns_one {h : Heap} {a : Addr} {m m' : Str → Option Value} (x : h.Ns a m) (y : h.Ns a m') : m = m' := by
  obtain ⟨o, es, ep, ho, hd, _, hm⟩ := x
  obtain ⟨o', es', ep', ho', hd', _, hm'⟩ := y
  rw [ho] at ho'; cases ho'
  rw [hd] at hd'; cases hd'
  funext n
  rw [← hm n, ← hm' n]

/-- an address whose object is no code's record -/
noncomputable def NoRec (h : Heap) (a : Addr) : Prop := ∀ o vs q t, h.get? a = some o → o.data = .fields vs → vs[1]? ≠ some (.str q t)
theorem noRec_ns {a : Addr} {m : Str → Option Value} (x : h.Ns a m) : NoRec h a := fun o vs _ _ e q => by
  obtain ⟨o', es, ep, ho, hd, _⟩ := x
  rw [ho] at e; cases e
  rw [hd] at q; cases q
theorem noRec_cell {a : Addr} {v : Option Value} (x : h.IsCell a v) : NoRec h a := fun o vs _ _ e q => by
  obtain ⟨o', ho, hd⟩ := x
  rw [ho] at e; cases e
  rw [hd] at q; cases q
theorem noRec_list {a : Addr} {vs : Array Value} (x : h.IsList a vs) : NoRec h a := fun o _ _ _ e q => by
  obtain ⟨o', ho, _, _, hd⟩ := x
  rw [ho] at e; cases e
  rw [hd] at q; cases q
theorem noRec_dict {a : Addr} {o : Obj} {es : Array DictEntry} {ep : Nat} (ho : h.get? a = some o) (hd : o.data = .dict es ep) : NoRec h a := fun o' _ _ _ e q => by
  rw [ho] at e; cases e
  rw [hd] at q; cases q
theorem TabOk.same {P a : Addr} {line col : Nat} {qual : Str} (x : TabOk h P line col qual) (hs : Heap.SameBut a h h') (hP : P ≠ a) (hr : NoRec h a) : TabOk h' P line col qual := by
  obtain ⟨ps, e, r⟩ := x
  refine ⟨ps, (hs.2 P hP).trans e, ?_⟩
  rcases r with r | ⟨c', r, ⟨c, o, vs, t, e1, e2, e3, e4⟩, hn⟩
  · exact .inl r
  · refine .inr ⟨c', r, ⟨c, o, vs, t, e1, (hs.2 c fun q => hr o vs _ t (q ▸ e2) e3 e4).trans e2, e3, e4⟩, hn⟩
theorem TabOk.keep1 {P a : Addr} {line col : Nat} {qual : Str} (x : TabOk h P line col qual) (hs : ∀ b o, b ≠ a → h.get? b = some o → h'.get? b = some o) (hP : P ≠ a) (hr : NoRec h a) : TabOk h' P line col qual := by
  obtain ⟨ps, e, r⟩ := x
  refine ⟨ps, hs P _ hP e, ?_⟩
  rcases r with r | ⟨c', r, ⟨c, o, vs, t, e1, e2, e3, e4⟩, hn⟩
  · exact .inl r
  · exact .inr ⟨c', r, ⟨c, o, vs, t, e1, hs c _ (fun q => hr o vs _ t (q ▸ e2) e3 e4) e2, e3, e4⟩, hn⟩
theorem Inv.keep1 {a : Addr} (I : Inv G h) (hs : ∀ b o, b ≠ a → h.get? b = some o → h'.get? b = some o) (hG : G.get? a = none) (ht : ¬ isTab a) (hr : NoRec h a) : Inv G h' where
  keep := fun b o e => hs b o (fun q => by rw [q, hG] at e; cases e) (I.keep b o e)
  t1 := I.t1.keep1 hs (fun q => ht (q ▸ .inl rfl)) hr
  t2 := I.t2.keep1 hs (fun q => ht (q ▸ .inr rfl)) hr
  off := I.off
theorem Inv.same {a : Addr} (I : Inv G h) (hs : Heap.SameBut a h h') (hG : G.get? a = none) (ht : ¬ isTab a) (hr : NoRec h a) : Inv G h' where
  keep := fun b o e => (hs.2 b fun q => by rw [q, hG] at e; cases e).trans (I.keep b o e)
  t1 := I.t1.same hs (fun q => ht (q ▸ .inl rfl)) hr
  t2 := I.t2.same hs (fun q => ht (q ▸ .inr rfl)) hr
  off := I.off

theorem Ok.wG (K : Ok prog w G F env h₀ X W ρ h) {a : Addr} (ha : W a) : G.get? a = none := by
  cases e : G.get? a with
  | none => rfl
  | some o => have := K.base.keep _ _ e; rw [K.wf a ha] at this; cases this

/-- a name of the frame's is stored -/
theorem Ok.put {a : Addr} {i : Nat} {x : Str} {v : Value} {d : PV} (K : Ok prog w G F env h₀ X W ρ h) (hi : F.names[i]? = some x) (ha : W a) (hs : Heap.SameBut a h h') (hr : NoRec h a)
    (hal : ∃ o, h'.get? a = some o) (hns : ∃ m, h'.Ns env.locals m) (hx : Holds env h' x v) (ho : ∀ y u, y ≠ x → Holds env h y u → Holds env h' y u)
    (hst : ∀ y ∈ F.sto, env.kindOf y = some .local ∨ (env.kindOf y = some .cell ∧ (y == ("__classdict__" : Str)) = false ∧ ∃ c v, env.cells.lookup y = some c ∧ W c ∧ h'.IsCell c v))
    (hI : Is prog w X h v d) (hoa : ∀ y b, Holds env h y (.ref b) → W b → b ≠ env.locals → (∃ o es ep, h.get? b = some o ∧ o.data = .dict es ep) → b ≠ a) :
    Ok prog w G F env h₀ X W (ρ.set i (.val d)) h' := by
  have gX : Gr X h h' := fun b o n e => (hs.2 b fun q => n (q ▸ K.wx a ha)).trans e
  have ne : ∀ j y, j ≠ i → F.names[j]? = some y → y ≠ x := fun j y hj hy q => by
    subst q
    obtain ⟨l1, e1⟩ := List.getElem?_eq_some_iff.mp hy
    exact hj ((List.getElem?_inj l1 K.nd).mp (hy.trans hi.symm))
  have at' : ∀ (j : Nat) (z : Slot), (ρ.set i (.val d))[j]? = some z → (j = i ∧ z = .val d) ∨ (j ≠ i ∧ ρ[j]? = some z) := fun j z e => by
    rw [List.getElem?_set] at e
    by_cases q : i = j
    · subst q
      rw [if_pos rfl] at e
      split at e
      · cases e; exact .inl ⟨rfl, rfl⟩
      · cases e
    · rw [if_neg q] at e; exact .inr ⟨fun z => q z.symm, e⟩
  exact {
    base := K.base, inv := K.inv.same hs (K.wG ha) (fun q => K.tw _ q ha) hr
    kp := fun b o n e => (hs.2 b fun q => by rw [q, K.wf a ha] at e; cases e).trans (K.kp b o n e)
    kind := K.kind, glob := K.glob, blt := K.blt, gl := K.gl, ns := hns, wl := K.wl, wx := K.wx, tx := K.tx, wf := K.wf
    al := fun b hb => by
      by_cases q : b = a
      · exact q ▸ hal
      · obtain ⟨o, e⟩ := K.al b hb; exact ⟨o, (hs.2 b q).trans e⟩
    ap := K.ap, cl := K.cl, ce := K.ce, st := hst, nd := K.nd
    ca := fun n b hb => by
      by_cases q : b = a
      · exact q ▸ hal
      · obtain ⟨o, e⟩ := K.ca n b hb; exact ⟨o, (hs.2 b q).trans e⟩
    sl := fun j d' e => by
      rcases at' j _ e with ⟨rfl, q⟩ | ⟨hj, e⟩
      · cases q; exact ⟨x, v, hi, hx, hI.gr gX⟩
      · obtain ⟨y, u, hy, hH, hI'⟩ := K.sl j d' e
        exact ⟨y, u, hy, ho y u (ne j y hj hy) hH, hI'.gr gX⟩
    oT := fun j l e => by
      rcases at' j _ e with ⟨rfl, q⟩ | ⟨hj, e⟩
      · cases q
      · obtain ⟨y, b, hy, hH, hW, hne, hO⟩ := K.oT j l e
        refine ⟨y, b, hy, ho y _ (ne j y hj hy) hH, hW, hne, hO.gr gX fun o e => (hs.2 b ?_).trans e⟩
        obtain ⟨xs, ⟨⟨o, es, ep, h1, _, h2, _⟩, _⟩, _⟩ := hO
        exact hoa y b hH hW hne ⟨o, es, ep, h1, h2⟩
    oI := fun j l e => by
      rcases at' j _ e with ⟨rfl, q⟩ | ⟨hj, e⟩
      · cases q
      · obtain ⟨y, b, hy, hH, hW, hne, hO⟩ := K.oI j l e
        refine ⟨y, b, hy, ho y _ (ne j y hj hy) hH, hW, hne, hO.gr gX fun o e => (hs.2 b ?_).trans e⟩
        obtain ⟨xs, ⟨o, es, ep, h1, _, h2, _⟩, _⟩ := hO
        exact hoa y b hH hW hne ⟨o, es, ep, h1, h2⟩ }

theorem ok_store {A : Around} {s : Shared} {i : Nat} {x : Str} {v : Value} {d : PV} {Q : Unit → Shared → Prop} (K : Ok prog w G F env h₀ X W ρ s.heap) (hi : F.names[i]? = some x) (hx : x ∈ F.sto) (hI : Is prog w X s.heap v d)
    (hQ : ∀ h' tk', Ok prog w G F env h₀ X W (ρ.set i (.val d)) h' → (∀ b o, ¬ W b → s.heap.get? b = some o → h'.get? b = some o) → Q () { s with heap := h', toks := tk' }) :
    wpAny (model prog w) A (storeName env x v) Q No s := by
  rcases K.st x hx with k | ⟨k, kd, c, v₀, hc, hw, hv₀⟩
  · obtain ⟨m, hm⟩ := K.ns
    refine wpAny_storeName_local k hm (fun h' hn' hs' => ?_) (by rw [K.kind]; rfl)
    refine hQ h' _ (K.put hi K.wl hs' (noRec_ns hm) ⟨_, hn'.choose_spec.choose_spec.choose_spec.1⟩ ⟨_, hn'⟩ (.inl ⟨k, _, hn', by simp⟩) (fun y u hy hH => ?_) (fun y hy => ?_) hI fun y b hH hW hne _ => hne) fun b o hb e => (hs'.2 b fun q => hb (q ▸ K.wl)).trans e
    · rcases hH with ⟨k', m', hm', e⟩ | ⟨k', kd', c, hc, hcell⟩
      · have : m' = m := ns_one hm' hm
        subst this
        exact .inl ⟨k', _, hn', by simp [hy, e]⟩
      · exact .inr ⟨k', kd', c, hc, hcell.sameBut hs' (K.cl _ _ hc).1⟩
    · rcases K.st y hy with k' | ⟨k', kd', c, v₁, hc, hw, hv₁⟩
      · exact .inl k'
      · exact .inr ⟨k', kd', c, v₁, hc, hw, hv₁.sameBut hs' (K.cl _ _ hc).1⟩
  · have hcl := (K.cl _ _ hc).1
    refine wpAny_storeName_cell K.kind k hc hv₀ (fun h' hv' hs' => ?_)
    obtain ⟨m, hm⟩ := K.ns
    have hm' : h'.Ns env.locals m := hm.sameBut hs' (Ne.symm hcl)
    refine hQ h' _ (K.put hi hw hs' (noRec_cell hv₀) ⟨_, hv'.choose_spec.1⟩ ⟨m, hm'⟩ (.inr ⟨.inl k, kd, c, hc, hv'⟩) (fun y u hy hH => ?_) (fun y hy => ?_) hI fun y b hH hW hne hdt q => ?_) fun b o hb e => (hs'.2 b fun q => hb (q ▸ hw)).trans e
    · rcases hH with ⟨k', m', hm'', e⟩ | ⟨k', kd', c', hc', hcell⟩
      · have : m' = m := ns_one hm'' hm
        subst this
        exact .inl ⟨k', _, hm', e⟩
      · refine .inr ⟨k', kd', c', hc', hcell.sameBut hs' fun q => hy ?_⟩
        subst q
        exact K.ap _ _ _ hc' hc
    · rcases K.st y hy with k' | ⟨k', kd', c', v₁, hc', hw', hv₁⟩
      · exact .inl k'
      · by_cases q : c' = c
        · subst q
          exact .inr ⟨k', kd', c', _, hc', hw', hv'⟩
        · exact .inr ⟨k', kd', c', v₁, hc', hw', hv₁.sameBut hs' q⟩
    · subst q
      obtain ⟨o, es, ep, h1, h2⟩ := hdt
      obtain ⟨o', h3, h4⟩ := hv₀
      rw [h1] at h3; cases h3
      rw [h2] at h4; cases h4

/-- a slot is forgotten -/
theorem Ok.no (K : Ok prog w G F env h₀ X W ρ h) (i : Nat) : Ok prog w G F env h₀ X W (ρ.set i .no) h := by
  have at' : ∀ (j : Nat) (z : Slot), (ρ.set i .no)[j]? = some z → z ≠ .no → ρ[j]? = some z := fun j z e hz => by
    rw [List.getElem?_set] at e
    by_cases q : i = j
    · subst q
      rw [if_pos rfl] at e
      split at e
      · cases e; exact absurd rfl hz
      · cases e
    · rw [if_neg q] at e; exact e
  exact { K with
    sl := fun j d e => K.sl j d (at' j _ e (by intro q; cases q))
    oT := fun j d e => K.oT j d (at' j _ e (by intro q; cases q))
    oI := fun j d e => K.oI j d (at' j _ e (by intro q; cases q)) }

/-- less is known: the slots of ρ' are slots of ρ, or nothing -/
noncomputable def Less (ρ' ρ : List Slot) : Prop := ∀ (j : Nat) (z : Slot), ρ'[j]? = some z → z = .no ∨ ρ[j]? = some z
theorem Ok.less {ρ' : List Slot} (K : Ok prog w G F env h₀ X W ρ h) (l : Less ρ' ρ) : Ok prog w G F env h₀ X W ρ' h :=
  { K with
    sl := fun j d e => (l j _ e).elim (fun q => nomatch q) (K.sl j d)
    oT := fun j d e => (l j _ e).elim (fun q => nomatch q) (K.oT j d)
    oI := fun j d e => (l j _ e).elim (fun q => nomatch q) (K.oI j d) }
theorem Less.refl (ρ : List Slot) : Less ρ ρ := fun _ _ e => .inr e
theorem Less.trans {a b c : List Slot} (x : Less a b) (y : Less b c) : Less a c := fun j z e => (x j z e).elim .inl (y j z)
theorem Less.set {a b : List Slot} (x : Less a b) (i : Nat) (z : Slot) (hl : a.length = b.length) : Less (a.set i z) (b.set i z) := fun j u e => by
  rw [List.getElem?_set] at e ⊢
  split at e
  · rename_i q
    rw [if_pos q]
    split at e
    · rename_i q'
      rw [if_pos (hl ▸ q')]; exact .inr e
    · cases e
  · rename_i q
    rw [if_neg q]; exact x j u e
theorem Less.back {a : List Slot} {i : Nat} {z : Slot} (h : a[i]? = some .no) : Less a (a.set i z) := fun j u e => by
  by_cases q : i = j
  · subst q; rw [h] at e; cases e; exact .inl rfl
  · rw [List.getElem?_set, if_neg q]; exact .inr e

/-- more is avoided: a new object -/
theorem Ok.more (K : Ok prog w G F env h₀ X W ρ h) (g : Gr isTab h h') (I' : Inv G h') (s : ∀ b, X b → Y b) (hn : ∀ b, Y b → X b ∨ h.get? b = none) (ha : ∀ b, Y b → ∃ o, h'.get? b = some o) :
    Ok prog w G F env h₀ Y W ρ h' := by
  have K' := K.gr g I'
  have gY : Gr Y h h' := g.wk fun b hb => s b (K.tx b hb)
  exact { K' with
    wx := fun b hb => s b (K.wx b hb)
    tx := fun b hb => s b (K.tx b hb)
    al := ha
    sl := fun j d e => by
      obtain ⟨x, v, hx, hH, hI⟩ := K.sl j d e
      obtain ⟨x', v', hx', hH', _⟩ := K'.sl j d e
      have eL : ∀ o, h.get? env.locals = some o → h'.get? env.locals = some o := fun o => g _ o fun q => K.tw _ q K.wl
      have eC : ∀ x c, env.cells.lookup x = some c → ∀ o, h.get? c = some o → h'.get? c = some o := fun x c hc o => g _ o (K.cl _ _ hc).2
      exact ⟨x, v, hx, hH.gr eL (eC x), (hI.avoid hn).gr gY⟩
    oT := fun j l e => by
      obtain ⟨x, a, hx, hH, hW, hne, xs, hd, hy, hk, hA⟩ := K.oT j l e
      have eL : ∀ o, h.get? env.locals = some o → h'.get? env.locals = some o := fun o => g _ o fun q => K.tw _ q K.wl
      have eC : ∀ x c, env.cells.lookup x = some c → ∀ o, h.get? c = some o → h'.get? c = some o := fun x c hc o => g _ o (K.cl _ _ hc).2
      have hy' : ∀ y ∈ xs, ¬ Y y.2.1 := fun y hm q => by
        rcases hn _ q with q | q
        · exact hy y hm q
        · obtain ⟨⟨o, es, ep, _, _, _, _, his, _⟩, _⟩ := hd
          obtain ⟨o', its, k, ho', _⟩ := his y hm
          rw [q] at ho'; cases ho'
      exact ⟨x, a, hx, hH.gr eL (eC x), hW, hne, OwnT.gr ⟨xs, hd, hy', hk, hA.avoid hn⟩ gY fun o => g _ o fun q => K.tw _ q hW⟩
    oI := fun j l e => by
      obtain ⟨x, a, hx, hH, hW, hne, xs, hd, hk, hA⟩ := K.oI j l e
      have eL : ∀ o, h.get? env.locals = some o → h'.get? env.locals = some o := fun o => g _ o fun q => K.tw _ q K.wl
      have eC : ∀ x c, env.cells.lookup x = some c → ∀ o, h.get? c = some o → h'.get? c = some o := fun x c hc o => g _ o (K.cl _ _ hc).2
      exact ⟨x, a, hx, hH.gr eL (eC x), hW, hne, OwnI.gr ⟨xs, hd, hk, hA.avoid hn⟩ gY fun o => g _ o fun q => K.tw _ q hW⟩ }

/-- less is avoided -/
theorem Ok.fewer (K : Ok prog w G F env h₀ X W ρ h) (s : ∀ b, Y b → X b) (hw : ∀ b, W b → Y b) (ht : ∀ b, isTab b → Y b) : Ok prog w G F env h₀ Y W ρ h :=
  { K with
    wx := hw, tx := ht, al := fun b hb => K.al b (s b hb)
    sl := fun j d e => let ⟨x, v, hx, hH, hI⟩ := K.sl j d e; ⟨x, v, hx, hH, hI.anti s⟩
    oT := fun j l e => let ⟨x, a, hx, hH, hW, hne, xs, hd, hy, hk, hA⟩ := K.oT j l e; ⟨x, a, hx, hH, hW, hne, xs, hd, fun y hm q => hy y hm (s _ q), hk, hA.anti s⟩
    oI := fun j l e => let ⟨x, a, hx, hH, hW, hne, xs, hd, hk, hA⟩ := K.oI j l e; ⟨x, a, hx, hH, hW, hne, xs, hd, hk, hA.anti s⟩ }
/-- an object off the frame changes -/
theorem Ok.off {a : Addr} (K : Ok prog w G F env h₀ X W ρ h) (I' : Inv G h') (hs : ∀ b o, b ≠ a → h.get? b = some o → h'.get? b = some o) (hXa : X a) (hal : ∃ o, h'.get? a = some o) (hWa : ¬ W a) (h0 : h₀.get? a = none) (hL : a ≠ env.locals) (hC : ∀ n c, env.cells.lookup n = some c → c ≠ a) : Ok prog w G F env h₀ X W ρ h' := by
  have gX : Gr X h h' := fun b o n e => hs b o (fun q => n (q ▸ hXa)) e
  have eL : ∀ o, h.get? env.locals = some o → h'.get? env.locals = some o := fun o => hs _ o (Ne.symm hL)
  have eC : ∀ x c, env.cells.lookup x = some c → ∀ o, h.get? c = some o → h'.get? c = some o := fun x c hc o => hs _ o (hC _ _ hc)
  have eW : ∀ b, W b → ∀ o, h.get? b = some o → h'.get? b = some o := fun b hb o => hs _ o fun q => hWa (q ▸ hb)
  exact { K with
    inv := I'
    kp := fun b o n e => hs b o (fun q => by rw [q, h0] at e; cases e) (K.kp b o n e)
    ns := let ⟨m, hm⟩ := K.ns; ⟨m, ns_gr hm eL⟩
    al := fun b hb => by
      by_cases q : b = a
      · exact q ▸ hal
      · obtain ⟨o, e⟩ := K.al b hb; exact ⟨o, hs b o q e⟩
    ca := fun n b hb => let ⟨o, e⟩ := K.ca n b hb; ⟨o, hs b o (hC n b hb) e⟩
    st := fun x hx => by
      rcases K.st x hx with k | ⟨k, k', c, v, hc, hw, hv⟩
      · exact .inl k
      · exact .inr ⟨k, k', c, v, hc, hw, isCell_gr hv (eC x c hc)⟩
    sl := fun i d hi => let ⟨x, v, hx, hH, hI⟩ := K.sl i d hi; ⟨x, v, hx, hH.gr eL (eC x), hI.gr gX⟩
    oT := fun i l hi => let ⟨x, b, hx, hH, hW, hne, hO⟩ := K.oT i l hi; ⟨x, b, hx, hH.gr eL (eC x), hW, hne, hO.gr gX (eW b hW)⟩
    oI := fun i l hi => let ⟨x, b, hx, hH, hW, hne, hO⟩ := K.oI i l hi; ⟨x, b, hx, hH.gr eL (eC x), hW, hne, hO.gr gX (eW b hW)⟩ }
end
end Mine

namespace Mine
open PySem PySem.Spec PySem.Calls PyProof.Rows PySem.W

/-- an iterator over data -/
structure ItOk (prog : Program) (w : World) (A : Around) (X : Addr → Prop) (h h₁ : Heap) (I : Addr) (fp : List Addr) (P : Nat → Value → Prop) (St : Nat → Heap → Prop) (ds : List PV) : Prop where
  walks : Walks prog w A I fp [I] ds.length P St
  st : St 0 h₁
  new : h.get? I = none
  off : ∀ b ∈ fp, b = I ∨ ¬ X b
  fpa : ∀ b ∈ fp, ∃ o, h₁.get? b = some o
  ob : ∀ i h, St i h → (∃ o, h.get? I = some o) ∧ NoRec h I
  item : ∀ i v, i < ds.length → P i v → ∃ d, ds[i]? = some d ∧ ∀ (Y : Addr → Prop) h₂, (∀ b, Y b → X b ∨ b = I) → Gr Y h₁ h₂ → Is prog w Y h₂ v d

section
variable (prog : Program) (w : World) (G : Heap) (n : Nat) (F : Fm)
noncomputable def Itr (iter : Expr) (f : List Slot → Option (List PV)) : Prop :=
  ∀ env h₀ X W ρ A s ds (Q : Value → Shared → Prop), Room n A → Ok prog w G F env h₀ X W ρ s.heap → f ρ = some ds →
    (∀ I fp P St h₁ tk₁, ItOk prog w A X s.heap h₁ I fp P St ds → Gr isTab s.heap h₁ → Inv G h₁ → Q (.ref I) { s with heap := h₁, toks := tk₁ }) →
    wpAny (model prog w) A (eval iter env) (fun x s₁ => wpAny (model prog w) A (pyIter x) Q No s₁) No s
end

section
variable {prog : Program} {w : World} {G : Heap} {n : Nat} {F : Fm} {mg mb : Str → Option Value}

theorem new_of_gr {h h₁ : Heap} {a : Addr} (g : Gr isTab h h₁) (I₁ : Inv G h₁) (e : h₁.get? a = none) : h.get? a = none := by
  cases q : h.get? a with
  | none => rfl
  | some o =>
    by_cases t : isTab a
    · obtain ⟨ps, e'⟩ := I₁.tabAlive t; rw [e] at e'; cases e'
    · have := g _ _ t q; rw [e] at this; cases this

noncomputable def pvIter : PV → Option (List PV)
  | .lst l => some l
  | .tup l => some l
  | _ => none

theorem itr_val {e : Expr} {f : List Slot → Option PV} (he : Ev prog w G n F e f) : Itr prog w G n F e (fun ρ => (f ρ).bind pvIter) := by
  intro env h₀ X W ρ A s ds Q R K hf hQ
  obtain ⟨a, ha, hf⟩ := Option.bind_eq_some_iff.mp hf
  refine seqP (he env h₀ X W ρ A s a R K ha) fun u h₁ tk₁ g₁ I₁ p₁ => ?_
  cases p₁ with
  | @lst la vs ds' hl hx hv =>
    cases hf
    refine wpAny_pyIter_list hl ?_
    have kp : ∀ b o, h₁.get? b = some o → (h₁.push { cls := .type "list_iterator", data := .fields #[.ref la, .int 0 0] }).get? b = some o := fun b o e => Heap.get?_push_of_some _ e
    have hne : la ≠ h₁.objs.size := Nat.ne_of_lt (lt_of_isList hl)
    have W' := Walks.list (prog := prog) (w := w) R.1 h₁.objs.size la hne vs.toArray
    have hsz : vs.toArray.size = ds.length := by rw [List.size_toArray, hv.length]
    rw [hsz] at W'
    refine hQ _ _ _ _ _ _ ⟨W', ⟨⟨_, Heap.get?_push_size _ rfl, rfl, rfl⟩, hl.push _⟩, new_of_gr g₁ I₁ (get_size _), fun b hb => ?_, fun b hb => ?_, fun i h st => ?_, fun i v hi hP => ?_⟩ (g₁.trans (Gr.of kp)) (I₁.gr_keep kp)
    · rcases List.mem_cons.mp hb with rfl | hb
      · exact .inl rfl
      · rw [List.mem_singleton.mp hb]; exact .inr hx
    · rcases List.mem_cons.mp hb with rfl | hb
      · exact ⟨_, Heap.get?_push_size _ rfl⟩
      · rw [List.mem_singleton.mp hb]; exact (hl.push _).imp fun _ q => q.1
    · obtain ⟨⟨o, ho, _, hd⟩, _⟩ := st
      refine ⟨⟨o, ho⟩, fun o' vs q t e e' e'' => ?_⟩
      rw [ho] at e; cases e
      rw [hd] at e'; cases e'
      cases e''
    · obtain ⟨d, hd, hI⟩ := hv.get (show vs[i]? = some v by simpa using hP)
      refine ⟨d, hd, fun Y h₂ hY g => ?_⟩
      exact ((hI.avoid fun b hb => (hY b hb).imp id fun q => q ▸ get_size _).gr (Gr.of kp)).gr g
  | @tup la vs ds' hl hx hv =>
    cases hf
    refine wpAny_pyIter_tuple hl ?_
    have kp : ∀ b o, h₁.get? b = some o → (h₁.push { cls := .type "tuple_iterator", data := .fields #[.ref la, .int 0 0] }).get? b = some o := fun b o e => Heap.get?_push_of_some _ e
    have hne : la ≠ h₁.objs.size := Nat.ne_of_lt (lt_of_isTuple hl)
    have W' := Walks.tuple (prog := prog) (w := w) R.1 h₁.objs.size la hne vs.toArray
    have hsz : vs.toArray.size = ds.length := by rw [List.size_toArray, hv.length]
    rw [hsz] at W'
    refine hQ _ _ _ _ _ _ ⟨W', ⟨⟨_, Heap.get?_push_size _ rfl, rfl, rfl⟩, hl.push _⟩, new_of_gr g₁ I₁ (get_size _), fun b hb => ?_, fun b hb => ?_, fun i h st => ?_, fun i v hi hP => ?_⟩ (g₁.trans (Gr.of kp)) (I₁.gr_keep kp)
    · rcases List.mem_cons.mp hb with rfl | hb
      · exact .inl rfl
      · rw [List.mem_singleton.mp hb]; exact .inr hx
    · rcases List.mem_cons.mp hb with rfl | hb
      · exact ⟨_, Heap.get?_push_size _ rfl⟩
      · rw [List.mem_singleton.mp hb]; exact (hl.push _).imp fun _ q => q.1
    · obtain ⟨⟨o, ho, _, hd⟩, _⟩ := st
      refine ⟨⟨o, ho⟩, fun o' vs q t e e' e'' => ?_⟩
      rw [ho] at e; cases e
      rw [hd] at e'; cases e'
      cases e''
    · obtain ⟨d, hd, hI⟩ := hv.get (show vs[i]? = some v by simpa using hP)
      refine ⟨d, hd, fun Y h₂ hY g => ?_⟩
      exact ((hI.avoid fun b hb => (hY b hb).imp id fun q => q ▸ get_size _).gr (Gr.of kp)).gr g
  | _ => cases hf

/-- the ints of a range by ones -/
noncomputable def rangeL (a b : Int) : List PV := (List.range (b - a).toNat).map fun (i : Nat) => PV.int (a + (i : Int))
noncomputable def pvRange : List PV → Option (List PV)
  | [.int b] => if -1000 ≤ b ∧ b ≤ 1000 then some (rangeL 0 b) else none
  | [.int a, .int b] => if -1000 ≤ a ∧ a ≤ 1000 ∧ -1000 ≤ b ∧ b ≤ 1000 then some (rangeL a b) else none
  | _ => none

theorem iter_range {A : Around} {X : Addr → Prop} {s : Shared} {h : Heap} {r : Addr} {a b : Int} {t u v : Tok} {Q : Value → Shared → Prop} (hh : A.handled = none) (I : Inv G s.heap) (g₀ : Gr isTab h s.heap) (hr : IsRange s.heap r a b 1 t u v) (hl : -1000 ≤ a ∧ a ≤ 1000 ∧ -1000 ≤ b ∧ b ≤ 1000)
    (hQ : ∀ I fp P St h₁ tk₁, ItOk prog w A X h h₁ I fp P St (rangeL a b) → Gr isTab s.heap h₁ → Inv G h₁ → Q (.ref I) { s with heap := h₁, toks := tk₁ }) :
    wpAny (model prog w) A (pyIter (.ref r)) Q No s := by
  refine wpAny_pyIter_range hr (small_one (by omega) (by omega) (by omega) (by omega)) ?_
  have hn : Builtin.Range.rangeSize a b 1 = (((b - a).toNat : Nat) : Int) := by
    rw [rangeSize_one]
    split <;> omega
  rw [hn]
  have kp : ∀ x o, s.heap.get? x = some o → (s.heap.push { cls := .type "range_iterator", data := .fields #[rawInt a, rawInt ((b - a).toNat : Int), rawInt 1] }).get? x = some o := fun b o e => Heap.get?_push_of_some _ e
  have W' := Walks.range (prog := prog) (w := w) hh s.heap.objs.size a 1 (b - a).toNat
  have hsz : (b - a).toNat = (rangeL a b).length := by simp [rangeL]
  rw [hsz] at W'
  refine hQ _ _ _ _ _ _ ⟨W', ?_, new_of_gr g₀ I (get_size _), fun b hb => .inl (List.mem_singleton.mp hb), fun b hb => ?_, fun i h st => ?_, fun i v hi hP => ?_⟩ (Gr.of kp) (I.gr_keep kp)
  · have := Heap.get?_push_size s.heap (o := { cls := .type "range_iterator", data := .fields #[rawInt a, rawInt ((b - a).toNat : Int), rawInt 1] }) rfl
    rw [← hsz]
    simpa using this
  · rw [List.mem_singleton.mp hb]; exact ⟨_, Heap.get?_push_size _ rfl⟩
  · refine ⟨⟨_, st⟩, fun o' vs q t e e' e'' => ?_⟩
    rw [st] at e; cases e
    cases e'
    cases e''
  · obtain ⟨t', rfl⟩ := hP
    refine ⟨.int (a + (i : Int)), ?_, fun Y h₂ hY g => ?_⟩
    · rw [← hsz] at hi
      simp [rangeL, hi]
    · rw [Int.mul_one]; exact .int _ _

theorem itr_range (T : GT G mg mb) {x : Str} {p pos : Pos} {e : Expr} {es : List Expr} {g : List Slot → Option (List PV)} (hx : x ∈ F.gl) (hv : Glo mg mb x (.type "range")) (hs : Evs prog w G n F (e :: es) g)
    (hd : (x == ("__debug__" : Str)) = false := by decide) (he : ∀ env, starEach (e :: es) env = (false, eval e env) :: starEach es env := by intro _; rfl) (hp : ∀ env, (backTo pos (starEach es env)).any (·.1) = false := by intro _; rfl) :
    Itr prog w G n F (.Call (.Name x p) (e :: es) [] pos) (fun ρ => (g ρ).bind pvRange) := by
  intro env h₀ X W ρ A s ds Q R K hf hQ
  obtain ⟨l, hl, hf⟩ := Option.bind_eq_some_iff.mp hf
  refine Call_Name rfl (gname T K hx hv hd ?_)
  refine PyProof.Rows.callWith_type1 ?_ (he env) (hp env)
  refine seqP (hs pos env h₀ X W ρ A s l R K hl) fun vs h₁ tk₁ g₁ I₁ p₁ => ?_
  unfold pvRange at hf
  split at hf
  · split at hf
    · rename_i hb
      cases hf
      cases p₁ with
      | cons a r =>
        cases r
        cases a with
        | int b t =>
          refine call_range_1 ?_
          have kp : ∀ (ob : Obj) b o, h₁.get? b = some o → (h₁.push ob).get? b = some o := fun _ b o e => Heap.get?_push_of_some _ e
          refine iter_range (X := X) (h := s.heap) R.1 (I₁.gr_keep (kp _)) (g₁.trans (Gr.of (kp _))) (IsRange.new _ _ _ _ _ _ _) (by exact ⟨by decide, by decide, hb.1, hb.2⟩) fun I fp P St h₂ tk₂ o g₂ I₂ => ?_
          exact hQ I fp P St h₂ tk₂ o ((g₁.trans (Gr.of (kp _))).trans g₂) I₂
    · cases hf
  · split at hf
    · rename_i hb
      cases hf
      cases p₁ with
      | cons a r =>
        cases r with
        | cons a' r =>
          cases r
          cases a with
          | int a t =>
            cases a' with
            | int b u =>
              refine call_range_2 ?_
              have kp : ∀ (ob : Obj) b o, h₁.get? b = some o → (h₁.push ob).get? b = some o := fun _ b o e => Heap.get?_push_of_some _ e
              refine iter_range (X := X) (h := s.heap) R.1 (I₁.gr_keep (kp _)) (g₁.trans (Gr.of (kp _))) (IsRange.new _ _ _ _ _ _ _) hb fun I fp P St h₂ tk₂ o g₂ I₂ => ?_
              exact hQ I fp P St h₂ tk₂ o ((g₁.trans (Gr.of (kp _))).trans g₂) I₂
    · cases hf
  · cases hf
end
end Mine

namespace Mine
open PySem PySem.Spec PySem.Calls PyProof.Rows PySem.W

structure Off (X W : Addr → Prop) (h₀ : Heap) (env : Env) (a : Addr) : Prop where
  x : X a
  w : ¬ W a
  t : ¬ isTab a
  n : h₀.get? a = none
  c : ∀ n c, env.cells.lookup n = some c → c ≠ a
noncomputable def Acc (prog : Program) (w : World) (X : Addr → Prop) (D : Addr) (h : Heap) (out : List PV) : Prop := ∃ vs : List Value, h.PlainList D vs.toArray ∧ IsAll prog w X h vs out
structure ItIn (prog : Program) (w : World) (A : Around) (X : Addr → Prop) (h : Heap) (I : Addr) (fp : List Addr) (P : Nat → Value → Prop) (St : Nat → Heap → Prop) (ds : List PV) (i : Nat) : Prop where
  walks : Walks prog w A I fp [I] ds.length P St
  st : St i h
  off : ∀ b ∈ fp, b = I ∨ ¬ X b
  ob : ∀ i h, St i h → (∃ o, h.get? I = some o) ∧ NoRec h I
  item : ∀ i v, i < ds.length → P i v → ∃ d, ds[i]? = some d ∧ Is prog w X h v d
/-- what a loop keeps -/
noncomputable def Kp (W : Addr → Prop) (D I : Addr) (h h' : Heap) : Prop := ∀ b o, ¬ W b → b ≠ D → b ≠ I → ¬ isTab b → h.get? b = some o → h'.get? b = some o
theorem Kp.refl (W : Addr → Prop) (D I : Addr) (h : Heap) : Kp W D I h h := fun _ _ _ _ _ _ e => e
theorem Kp.trans {W : Addr → Prop} {D I : Addr} {h h' h'' : Heap} (a : Kp W D I h h') (b : Kp W D I h' h'') : Kp W D I h h'' := fun x o n1 n2 n3 n4 e => b x o n1 n2 n3 n4 (a x o n1 n2 n3 n4 e)
theorem Kp.gr {X W : Addr → Prop} {D I : Addr} {h h' : Heap} (k : Kp W D I h h') (hw : ∀ b, W b → X b) (hd : X D) (hi : X I) (ht : ∀ b, isTab b → X b) : Gr X h h' := fun b o n e => k b o (fun q => n (hw b q)) (fun q => n (q ▸ hd)) (fun q => n (q ▸ hi)) (fun q => n (ht b q)) e
theorem Kp.of_gr {W : Addr → Prop} {D I : Addr} {h h' : Heap} (g : Gr isTab h h') : Kp W D I h h' := fun b o _ _ _ n e => g b o n e

section
variable {prog : Program} {w : World} {G : Heap} {n : Nat} {F : Fm} {env : Env} {h₀ h h' : Heap} {X W : Addr → Prop} {ρ : List Slot} {A : Around}

theorem Off.nl {a : Addr} (o : Off X W h₀ env a) (K : Ok prog w G F env h₀ X W ρ h) : a ≠ env.locals := fun q => o.w (q ▸ K.wl)
theorem Off.nG {a : Addr} (o : Off X W h₀ env a) (K : Ok prog w G F env h₀ X W ρ h) : G.get? a = none := by
  cases e : G.get? a with
  | none => rfl
  | some ob => have := K.base.keep _ _ e; rw [o.n] at this; cases this
theorem Acc.gr {D : Addr} {out : List PV} (a : Acc prog w X D h out) (g : Gr X h h') (e : ∀ o, h.get? D = some o → h'.get? D = some o) : Acc prog w X D h' out :=
  let ⟨vs, hl, hv⟩ := a; ⟨vs, hl.at e, hv.gr g⟩
theorem ItIn.gr {I : Addr} {fp : List Addr} {P : Nat → Value → Prop} {St : Nat → Heap → Prop} {ds : List PV} {i : Nat} (t : ItIn prog w A X h I fp P St ds i) (g : Gr X h h') (e : ∀ o, h.get? I = some o → h'.get? I = some o) : ItIn prog w A X h' I fp P St ds i :=
  { t with
    st := t.walks.frame _ _ _ t.st fun b hb o eb => by
      rcases t.off b hb with rfl | q
      · exact e o eb
      · exact g b o q eb
    item := fun j v hj hP => let ⟨d, hd, hI⟩ := t.item j v hj hP; ⟨d, hd, hI.gr g⟩ }

/-- an object off the frame changes and is avoided no more -/
theorem Ok.gone {a : Addr} (K : Ok prog w G F env h₀ X W ρ h) (o : Off X W h₀ env a) (I' : Inv G h') (hs : ∀ b o, b ≠ a → h.get? b = some o → h'.get? b = some o) : Ok prog w G F env h₀ (fun b => X b ∧ b ≠ a) W ρ h' := by
  have gX : Gr X h h' := fun b ob n e => hs b ob (fun q => n (q ▸ o.x)) e
  have sub : ∀ b, X b ∧ b ≠ a → X b := fun _ q => q.1
  have eL : ∀ ob, h.get? env.locals = some ob → h'.get? env.locals = some ob := fun ob => hs _ ob (Ne.symm (o.nl K))
  have eC : ∀ x c, env.cells.lookup x = some c → ∀ ob, h.get? c = some ob → h'.get? c = some ob := fun x c hc ob => hs _ ob (o.c _ _ hc)
  have eW : ∀ b, W b → ∀ ob, h.get? b = some ob → h'.get? b = some ob := fun b hb ob => hs _ ob fun q => o.w (q ▸ hb)
  exact { K with
    inv := I'
    kp := fun b ob n e => hs b ob (fun q => by rw [q, o.n] at e; cases e) (K.kp b ob n e)
    ns := let ⟨m, hm⟩ := K.ns; ⟨m, ns_gr hm eL⟩
    wx := fun b hb => ⟨K.wx b hb, fun q => o.w (q ▸ hb)⟩
    tx := fun b hb => ⟨K.tx b hb, fun q => o.t (q ▸ hb)⟩
    al := fun b hb => let ⟨ob, e⟩ := K.al b hb.1; ⟨ob, hs b ob hb.2 e⟩
    ca := fun n b hb => let ⟨ob, e⟩ := K.ca n b hb; ⟨ob, hs b ob (o.c n b hb) e⟩
    st := fun x hx => by
      rcases K.st x hx with k | ⟨k, k', c, v, hc, hw, hv⟩
      · exact .inl k
      · exact .inr ⟨k, k', c, v, hc, hw, isCell_gr hv (eC x c hc)⟩
    sl := fun i d hi => let ⟨x, v, hx, hH, hI⟩ := K.sl i d hi; ⟨x, v, hx, hH.gr eL (eC x), (hI.gr gX).anti sub⟩
    oT := fun i l hi => by
      obtain ⟨x, b, hx, hH, hW, hne, hO⟩ := K.oT i l hi
      obtain ⟨xs, hd, hy, hk, hA⟩ := hO.gr gX (eW b hW)
      exact ⟨x, b, hx, hH.gr eL (eC x), hW, hne, xs, hd, fun y hm q => hy y hm q.1, hk, hA.anti sub⟩
    oI := fun i l hi => by
      obtain ⟨x, b, hx, hH, hW, hne, hO⟩ := K.oI i l hi
      obtain ⟨xs, hd, hk, hA⟩ := hO.gr gX (eW b hW)
      exact ⟨x, b, hx, hH.gr eL (eC x), hW, hne, xs, hd, hk, hA.anti sub⟩ }

noncomputable def TsI (prog : Program) (w : World) (G : Heap) (n : Nat) (F : Fm) (ifs : List Expr) (f : List Slot → Option Bool) : Prop :=
  ∀ env h₀ X W ρ A s b, Room n A → Ok prog w G F env h₀ X W ρ s.heap → f ρ = some b → wpAny (model prog w) A (testsOf ifs env) (Post G s fun v _ => v = b) No s
theorem tsi_nil : TsI prog w G n F [] (fun _ => some true) := by
  intro env h₀ X W ρ A s b R K hf
  cases hf
  exact wpAny_tests_nil (Post.now K.inv rfl)
theorem tsi_one {e : Expr} {f : List Slot → Option Bool} (he : Ts prog w G n F e f) : TsI prog w G n F [e] f := by
  intro env h₀ X W ρ A s b R K hf
  exact wpAny_tests_one (he env h₀ X W ρ A s b R K hf)

noncomputable def loopF (slot : Nat) (t : List Slot → Option Bool) (act : List Slot → Option (List PV)) (ρ : List Slot) : List PV → Option (List PV)
  | [] => some []
  | d :: ds => (t (ρ.set slot (.val d))).bind fun b => if b then (act (ρ.set slot (.val d))).bind fun o => (loopF slot t act ρ ds).bind fun r => some (o ++ r) else loopF slot t act ρ ds

theorem set_back {slot : Nat} {d : PV} (hs : ρ[slot]? = some .no) : (ρ.set slot (.val d)).set slot .no = ρ := by
  rw [List.set_set]
  apply List.ext_getElem?
  intro j
  rw [List.getElem?_set]
  split
  · rename_i q
    subst q
    split
    · exact hs.symm
    · rename_i q; rw [List.getElem?_eq_none (by omega)]
  · rfl

theorem cl_turn {ifs : List Expr} {t : List Slot → Option Bool} {act : List Slot → Option (List PV)} {slot i : Nat} {x : Str} {px : Pos} {s : Shared} {I D : Addr} {fp : List Addr} {P : Nat → Value → Prop} {St : Nat → Heap → Prop} {ds acc rest : List PV}
    {DONE : Shared → Prop} {ACT NX : Shared → Prop}
    (R : Room n A) (K : Ok prog w G F env h₀ X W ρ s.heap) (oI : Off X W h₀ env I) (oD : Off X W h₀ env D) (hDI : D ≠ I) (T : ItIn prog w A X s.heap I fp P St ds i) (C : Acc prog w X D s.heap acc)
    (hslot : ρ[slot]? = some .no) (hi : F.names[slot]? = some x) (hx : x ∈ F.sto) (ht : TsI prog w G n F ifs t) (hle : i ≤ ds.length) (hl : loopF slot t act ρ (ds.drop i) = some rest)
    (hdone : i = ds.length → ∀ h' tk', Ok prog w G F env h₀ (fun b => X b ∧ b ≠ I) W ρ h' → Acc prog w (fun b => X b ∧ b ≠ I) D h' acc → Kp W D I s.heap h' → DONE { s with heap := h', toks := tk' })
    (hskip : i < ds.length → ∀ h' tk', Ok prog w G F env h₀ X W ρ h' → Acc prog w X D h' acc → Kp W D I s.heap h' → ItIn prog w A X h' I fp P St ds (i + 1) → loopF slot t act ρ (ds.drop (i + 1)) = some rest → NX { s with heap := h', toks := tk' })
    (hact : i < ds.length → ∀ d o r h' tk', Ok prog w G F env h₀ X W (ρ.set slot (.val d)) h' → Acc prog w X D h' acc → Kp W D I s.heap h' → ItIn prog w A X h' I fp P St ds (i + 1) →
      act (ρ.set slot (.val d)) = some o → loopF slot t act ρ (ds.drop (i + 1)) = some r → rest = o ++ r → ACT { s with heap := h', toks := tk' }) :
    wpAny (model prog w) A (pyNext (.ref I)) (fun r s₁ => match r with
      | none => DONE s₁
      | some v => wpAny (model prog w) A (assign (.Name x px) env v) (fun _ s₂ => wpAny (model prog w) A (testsOf ifs env) (fun ok s₃ => if ok = true then ACT s₃ else NX s₃) No s₂) No s₁) No s := by
  obtain ⟨⟨oI₀, hoI⟩, hrec⟩ := T.ob _ _ T.st
  have offI : ∀ h', (∀ b o, b ≠ I → s.heap.get? b = some o → h'.get? b = some o) → (∃ o, h'.get? I = some o) → Ok prog w G F env h₀ X W ρ h' := fun h' k al =>
    K.off (K.inv.keep1 k (oI.nG K) oI.t hrec) k oI.x al oI.w oI.n (oI.nl K) oI.c
  by_cases hlt : i < ds.length
  · refine T.walks.item i s _ _ hlt T.st fun v h' tk hP hst hk => ?_
    have k : ∀ b o, b ≠ I → s.heap.get? b = some o → h'.get? b = some o := fun b o hb e => hk b o (by simpa using hb) e
    have K₁ := offI h' k (T.ob _ _ hst).1
    have gX : Gr X s.heap h' := fun b o hb e => k b o (fun q => hb (q ▸ oI.x)) e
    have T₁ : ItIn prog w A X h' I fp P St ds (i + 1) := { T with st := hst, item := fun j u hj hu => let ⟨d, hd, hI⟩ := T.item j u hj hu; ⟨d, hd, hI.gr gX⟩ }
    have C₁ := C.gr gX (k D · hDI)
    obtain ⟨d, hd, hI⟩ := T.item i v hlt hP
    have hI₁ := hI.gr gX
    have kp₁ : Kp W D I s.heap h' := fun b o _ _ hb _ e => k b o hb e
    obtain ⟨hlt', hde⟩ := List.getElem?_eq_some_iff.mp hd
    rw [List.drop_eq_getElem_cons hlt', hde] at hl
    unfold loopF at hl
    obtain ⟨b, hb, hl⟩ := Option.bind_eq_some_iff.mp hl
    refine wpAny_assign_Name (ok_store K₁ hi hx hI₁ fun h₂ tk₂ K₂ k₂ => ?_)
    have gX₂ : Gr X h' h₂ := fun b o hb e => k₂ b o (fun q => hb (K.wx b q)) e
    have T₂ := T₁.gr gX₂ (fun o => k₂ I o oI.w)
    have C₂ := C₁.gr gX₂ (fun o => k₂ D o oD.w)
    have kp₂ : Kp W D I s.heap h₂ := kp₁.trans fun b o hb _ _ _ e => k₂ b o hb e
    refine seqP (ht env h₀ X W _ A _ b R K₂ hb) fun v₃ h₃ tk₃ g₃ I₃ e₃ => ?_
    subst e₃
    have K₃ := K₂.gr g₃ I₃
    have T₃ := T₂.gr (g₃.wk K.tx) (fun o => g₃ I o oI.t)
    have C₃ := C₂.gr (g₃.wk K.tx) (fun o => g₃ D o oD.t)
    have kp₃ := kp₂.trans (Kp.of_gr (W := W) (D := D) (I := I) g₃)
    cases v₃ with
    | true =>
      obtain ⟨o, ho, hl⟩ := Option.bind_eq_some_iff.mp hl
      obtain ⟨r, hr, hl⟩ := Option.bind_eq_some_iff.mp hl
      cases hl
      exact hact hlt d o r h₃ tk₃ K₃ C₃ kp₃ T₃ ho hr rfl
    | false =>
      refine hskip hlt h₃ tk₃ ?_ C₃ kp₃ T₃ hl
      have := K₃.no slot
      rwa [set_back hslot] at this
  · have hi' : i = ds.length := by omega
    refine T.walks.done s _ _ (hi' ▸ T.st) fun h' tk hk => ?_
    have k : ∀ b o, b ≠ I → s.heap.get? b = some o → h'.get? b = some o := fun b o hb e => hk b o (by simpa using hb) e
    have gX : Gr X s.heap h' := fun b o hb e => k b o (fun q => hb (q ▸ oI.x)) e
    obtain ⟨vs, hvl, hvs⟩ := C.gr gX (k D · hDI)
    exact hdone hi' h' tk (K.gone oI (K.inv.keep1 k (oI.nG K) oI.t hrec) k) ⟨vs, hvl, hvs.anti fun _ q => q.1⟩ fun b o _ _ hb _ e => k b o hb e

/-- what the loop over the clauses from one on gives -/
noncomputable def CL (prog : Program) (w : World) (G : Heap) (n : Nat) (F : Fm) (e : Expr) (d : Nat) (φ : List Slot → List PV → Option (List PV)) : Prop :=
  ∀ env h₀ X W ρ A s I D fp P St ds acc out, Room n A → Ok prog w G F env h₀ X W ρ s.heap → Off X W h₀ env I → Off X W h₀ env D → D ≠ I → ItIn prog w A X s.heap I fp P St ds 0 → Acc prog w X D s.heap acc → φ ρ ds = some out → (acc ++ out).length ≤ 100000 →
    codeAny (model prog w) A (.compLoop e d (.ref I) (.ref D) env) (fun r s' => r = .ok .next ∧ ∃ h' tk', s' = { s with heap := h', toks := tk' } ∧ Ok prog w G F env h₀ (fun b => X b ∧ b ≠ I) W ρ h' ∧ Acc prog w (fun b => X b ∧ b ≠ I) D h' (acc ++ out) ∧ Kp W D I s.heap h') s

theorem sizeLine_ge : 100000 ≤ sizeLine := by decide

theorem ite_some {α : Type} {c : Bool} {x : Option α} {y : α} (h : (if c then x else none) = some y) : c = true ∧ x = some y := by
  cases c
  · cases h
  · exact ⟨rfl, h⟩
noncomputable def isNo (ρ : List Slot) (i : Nat) : Bool := match ρ[i]? with | some .no => true | _ => false
theorem isNo_eq {ρ : List Slot} {i : Nat} (h : isNo ρ i = true) : ρ[i]? = some .no := by
  unfold isNo at h
  split at h
  · rename_i e; exact e
  · cases h

theorem cl_end {elt iter : Expr} {x : Str} {px : Pos} {ifs : List Expr} {gens : List Comprehension} {scope : Scope} {pos : Pos} {d slot : Nat} {t : List Slot → Option Bool} {f : List Slot → Option PV}
    (hg : gens[d]? = some ⟨.Name x px, iter, ifs, 0⟩) (hn : gens[d + 1]? = none) (hi : F.names[slot]? = some x) (hx : x ∈ F.sto) (ht : TsI prog w G n F ifs t) (he : Ev prog w G n F elt f) :
    CL prog w G n F (.ListComp elt gens scope pos) d (fun ρ ds => if isNo ρ slot then loopF slot t (fun ρ => (f ρ).bind fun d => some [d]) ρ ds else none) := by
  intro env h₀ X W ρ A s I D fp P St ds acc out R K oI oD hDI T C hφ hb
  obtain ⟨hs, hl⟩ := ite_some hφ
  refine codeAny_compLoop_end hg hn (fun m s' => ∃ i acc' rest h' tk', s' = { s with heap := h', toks := tk' } ∧ m + i = ds.length ∧ Ok prog w G F env h₀ X W ρ h' ∧ Acc prog w X D h' acc' ∧ ItIn prog w A X h' I fp P St ds i ∧
    loopF slot t (fun ρ => (f ρ).bind fun d => some [d]) ρ (ds.drop i) = some rest ∧ acc' ++ rest = acc ++ out ∧ Kp W D I s.heap h') (fun m s' hI => ?_) ds.length ⟨0, acc, out, s.heap, s.toks, rfl, rfl, K, C, T, hl, rfl, Kp.refl W D I s.heap⟩
  obtain ⟨i, acc', rest, h', tk', rfl, hmi, K', C', T', hl', hacc, kp'⟩ := hI
  refine cl_turn (ρ := ρ) R K' oI oD hDI T' C' (isNo_eq hs) hi hx ht (by omega) hl' (fun hi' h₁ tk₁ K₁ C₁ kp₁ => ⟨rfl, ?_⟩) (fun hi' h₁ tk₁ K₁ C₁ kp₁ T₁ hl₁ => ?_) (fun hi' d o r h₁ tk₁ K₁ C₁ kp₁ T₁ ho hr hrest => ?_)
  · subst hi'
    rw [List.drop_length] at hl'
    cases hl'
    rw [List.append_nil] at hacc
    exact ⟨h₁, tk₁, rfl, K₁, hacc ▸ C₁, kp'.trans kp₁⟩
  · exact ⟨m - 1, by omega, i + 1, acc', rest, h₁, tk₁, rfl, by omega, K₁, C₁, T₁, hl₁, hacc, kp'.trans kp₁⟩
  · obtain ⟨dv, hdv, ho⟩ := Option.bind_eq_some_iff.mp ho
    cases ho
    subst hrest
    refine seqP (he env h₀ X W _ A _ dv R K₁ hdv) fun v h₂ tk₂ g₂ I₂ p₂ => ?_
    have K₂ := K₁.gr g₂ I₂
    have T₂ := T₁.gr (g₂.wk K.tx) (fun o => g₂ I o oI.t)
    obtain ⟨vs, hvl, hvs⟩ := C₁.gr (g₂.wk K.tx) (fun o => g₂ D o oD.t)
    have kp₂ := (kp'.trans kp₁).trans (Kp.of_gr (W := W) (D := D) (I := I) g₂)
    have hsz : vs.toArray.size ≤ sizeLine := by
      rw [List.size_toArray, hvs.length]
      have : (acc' ++ ([dv] ++ r)).length = (acc ++ out).length := by rw [hacc]
      simp only [List.length_append] at this hb
      have := sizeLine_ge
      omega
    refine wpAny_list_append_plain (hsz := hsz) hvl fun h₃ hl₃ hs₃ => ?_
    have k₃ : ∀ b o, b ≠ D → h₂.get? b = some o → h₃.get? b = some o := fun b o hb e => (hs₃.2 b hb).trans e
    have gX₃ : Gr X h₂ h₃ := fun b o hb e => k₃ b o (fun q => hb (q ▸ oD.x)) e
    have K₃ : Ok prog w G F env h₀ X W (ρ.set slot (.val d)) h₃ := K₂.off (K₂.inv.keep1 k₃ (oD.nG K) oD.t (noRec_list hvl.isList)) k₃ oD.x (let ⟨_, e⟩ := hl₃; ⟨_, e⟩) oD.w oD.n (oD.nl K) oD.c
    have K₄ := K₃.no slot
    rw [set_back (isNo_eq hs)] at K₄
    refine ⟨m - 1, by omega, i + 1, acc' ++ [dv], r, h₃, tk₂, rfl, by omega, K₄, ⟨vs ++ [v], by simpa using hl₃, (hvs.append (.cons p₂ .nil)).gr gX₃⟩, T₂.gr gX₃ (fun o => k₃ I o (Ne.symm hDI)), hr, by rw [List.append_assoc]; exact hacc, kp₂.trans fun b o _ hb _ _ e => k₃ b o hb e⟩

theorem cl_mid {elt iter iter' target' : Expr} {x : Str} {px : Pos} {ifs ifs' : List Expr} {gens : List Comprehension} {scope : Scope} {pos : Pos} {d slot : Nat} {t : List Slot → Option Bool} {g : List Slot → Option (List PV)} {φ : List Slot → List PV → Option (List PV)}
    (hg : gens[d]? = some ⟨.Name x px, iter, ifs, 0⟩) (hn : gens[d + 1]? = some ⟨target', iter', ifs', 0⟩) (hi : F.names[slot]? = some x) (hx : x ∈ F.sto) (ht : TsI prog w G n F ifs t) (hit : Itr prog w G n F iter' g)
    (hin : CL prog w G n F (.ListComp elt gens scope pos) (d + 1) φ) (hfs : ∀ env x, foldedSetIterable iter' env x = pure x := by intro _ _; rfl) :
    CL prog w G n F (.ListComp elt gens scope pos) d (fun ρ ds => if isNo ρ slot then loopF slot t (fun ρ => (g ρ).bind fun l => φ ρ l) ρ ds else none) := by
  intro env h₀ X W ρ A s I D fp P St ds acc out R K oI oD hDI T C hφ hb
  obtain ⟨hs, hl⟩ := ite_some hφ
  refine codeAny_compLoop_mid (hs := hfs env) R.mark hg hn (fun m s' => ∃ i acc' rest h' tk', s' = { s with heap := h', toks := tk' } ∧ m + i = ds.length ∧ Ok prog w G F env h₀ X W ρ h' ∧ Acc prog w X D h' acc' ∧ ItIn prog w A X h' I fp P St ds i ∧
    loopF slot t (fun ρ => (g ρ).bind fun l => φ ρ l) ρ (ds.drop i) = some rest ∧ acc' ++ rest = acc ++ out ∧ Kp W D I s.heap h') (fun m s' hI => ?_) ds.length ⟨0, acc, out, s.heap, s.toks, rfl, rfl, K, C, T, hl, rfl, Kp.refl W D I s.heap⟩
  obtain ⟨i, acc', rest, h', tk', rfl, hmi, K', C', T', hl', hacc, kp'⟩ := hI
  refine cl_turn (ρ := ρ) R K' oI oD hDI T' C' (isNo_eq hs) hi hx ht (by omega) hl' (fun hi' h₁ tk₁ K₁ C₁ kp₁ => ⟨rfl, ?_⟩) (fun hi' h₁ tk₁ K₁ C₁ kp₁ T₁ hl₁ => ?_) (fun hi' dv o r h₁ tk₁ K₁ C₁ kp₁ T₁ ho hr hrest => ?_)
  · subst hi'
    rw [List.drop_length] at hl'
    cases hl'
    rw [List.append_nil] at hacc
    exact ⟨h₁, tk₁, rfl, K₁, hacc ▸ C₁, kp'.trans kp₁⟩
  · exact ⟨m - 1, by omega, i + 1, acc', rest, h₁, tk₁, rfl, by omega, K₁, C₁, T₁, hl₁, hacc, kp'.trans kp₁⟩
  · obtain ⟨l, hgl, ho⟩ := Option.bind_eq_some_iff.mp ho
    subst hrest
    refine hit env h₀ X W _ A _ l _ R K₁ hgl fun I' fp' P' St' h₂ tk₂ it g₂ I₂ => ?_
    have nX : ¬ X I' := K₁.xok.fresh it.new
    have K₂ := K₁.gr g₂ I₂
    obtain ⟨alI, nrI⟩ := it.ob _ _ it.st
    have alX : ∀ b, (X b ∨ b = I') → ∃ o, h₂.get? b = some o := fun b hb => hb.elim (K₂.al b) fun q => q ▸ alI
    have K₃ : Ok prog w G F env h₀ (fun b => X b ∨ b = I') W (ρ.set slot (.val dv)) h₂ := K₁.more g₂ I₂ (fun b q => .inl q) (fun b q => q.imp id fun z => by rw [z]; exact it.new) alX
    have nL : ∀ b, (∃ o, h₁.get? b = some o) → b ≠ I' := fun b ⟨o, e⟩ q => by rw [q, it.new] at e; cases e
    have oI' : Off (fun b => X b ∨ b = I') W h₀ env I' := by
      refine ⟨.inr rfl, fun q => nX (K.wx _ q), fun q => nX (K.tx _ q), ?_, fun n c hc => nL c (K₁.ca n c hc)⟩
      cases e : h₀.get? I' with
      | none => rfl
      | some o => have := K₁.kp _ _ (fun q => nX (K.tx _ q)) e; rw [it.new] at this; cases this
    have oD' : Off (fun b => X b ∨ b = I') W h₀ env D := ⟨.inl oD.x, oD.w, oD.t, oD.n, oD.c⟩
    have hDI' : D ≠ I' := nL D (K₁.al D oD.x)
    have T₂ : ItIn prog w A (fun b => X b ∨ b = I') h₂ I' fp' P' St' l 0 := by
      refine ⟨it.walks, it.st, fun b hb => ?_, it.ob, fun j v hj hP => ?_⟩
      · rcases it.off b hb with q | q
        · exact .inl q
        · by_cases e : b = I'
          · exact .inl e
          · exact .inr fun z => z.elim q e
      · obtain ⟨dd, hdd, hII⟩ := it.item j v hj hP
        exact ⟨dd, hdd, hII _ h₂ (fun b q => q) (Gr.refl _ _)⟩
    have C₂ : Acc prog w (fun b => X b ∨ b = I') D h₂ acc' := by
      obtain ⟨vs, hvl, hvs⟩ := C₁
      exact ⟨vs, hvl.at fun o => g₂ D o oD.t, (hvs.avoid fun b q => q.imp id fun z => by rw [z]; exact it.new).gr (g₂.wk fun b q => .inl (K.tx b q))⟩
    have hb' : (acc' ++ o).length ≤ 100000 := by
      have : (acc' ++ (o ++ r)).length = (acc ++ out).length := by rw [hacc]
      simp only [List.length_append] at this hb ⊢
      omega
    have body : codeAny (model prog w) A (.compLoop (.ListComp elt gens scope pos) (d + 1) (.ref I') (.ref D) env) _ _ :=
      hin env h₀ _ W _ A { s with heap := h₂, toks := tk₂ } I' D fp' P' St' l acc' o R K₃ oI' oD' hDI' T₂ C₂ ho hb'
    have fin : ∀ (r' : Result) (s₆ : Shared), (r' = .ok .next ∧ ∃ h' tk', s₆ = { s with heap := h', toks := tk' } ∧ Ok prog w G F env h₀ (fun b => (X b ∨ b = I') ∧ b ≠ I') W (ρ.set slot (.val dv)) h' ∧ Acc prog w (fun b => (X b ∨ b = I') ∧ b ≠ I') D h' (acc' ++ o) ∧ Kp W D I' h₂ h') →
        (match r' with | .ok _ => ∃ m₁, m₁ < m ∧ ∃ i acc' rest h' tk', s₆ = { s with heap := h', toks := tk' } ∧ m₁ + i = ds.length ∧ Ok prog w G F env h₀ X W ρ h' ∧ Acc prog w X D h' acc' ∧ ItIn prog w A X h' I fp P St ds i ∧ loopF slot t (fun ρ => (g ρ).bind fun l => φ ρ l) ρ (ds.drop i) = some rest ∧ acc' ++ rest = acc ++ out ∧ Kp W D I s.heap h' | .error _ => False) := by
      rintro r' s₆ ⟨rfl, h₅, tk₅, rfl, K₅, ⟨vs, hvl, hvs⟩, kp₅⟩
      have sub : ∀ b, X b → (X b ∨ b = I') ∧ b ≠ I' := fun b q => ⟨.inl q, nL b (K₁.al b q)⟩
      have K₆ : Ok prog w G F env h₀ X W ρ h₅ := by
        have := (K₅.fewer sub K.wx K.tx).no slot
        rwa [set_back (isNo_eq hs)] at this
      have kk : ∀ b o, ¬ W b → b ≠ D → ¬ isTab b → h₁.get? b = some o → h₅.get? b = some o := fun b o n1 n2 n3 e => kp₅ b o n1 n2 (nL b ⟨o, e⟩) n3 (g₂ b o n3 e)
      have gX : Gr X h₁ h₅ := fun b o q e => kk b o (fun z => q (K.wx b z)) (fun z => q (z ▸ oD.x)) (fun z => q (K.tx b z)) e
      refine ⟨m - 1, by omega, i + 1, acc' ++ o, r, h₅, tk₅, rfl, by omega, K₆, ⟨vs, hvl, hvs.anti sub⟩, T₁.gr gX (fun ob => kk I ob oI.w (Ne.symm hDI) oI.t), hr, by rw [List.append_assoc]; exact hacc, (kp'.trans kp₁).trans fun b ob n1 n2 n3 n4 e => kk b ob n1 n2 n4 e⟩
    refine codeAny_compStart_at hn (codeAny_mono body fin) (it.walks.self 0 _ _ _ it.st (codeAny_mono body fin))
end
end Mine

namespace Mine
open PySem PySem.Spec PySem.Calls PyProof.Rows PySem.W

noncomputable def clOf (env : Env) : List (Str × NameKind) → List (Str × Addr) → List (Str × Addr)
  | [], acc => acc
  | (n, k) :: r, acc => if k == .free then clOf env r ((n, (env.cells.lookup n).getD 0) :: acc) else clOf env r acc
theorem clOf_forIn (env : Env) (f : Str × NameKind → List (Str × Addr) → Sem (ForInStep (List (Str × Addr))))
    (hf : ∀ n k acc, f (n, k) acc = if k == .free then (do let c ← cellOf env n; pure (.yield ((n, c) :: acc))) else pure (.yield acc)) :
    ∀ (names : List (Str × NameKind)) (acc : List (Str × Addr)), (∀ x ∈ names, x.2 = .free → ∃ c, env.cells.lookup x.1 = some c) → forIn names acc f = pure (clOf env names acc)
  | [], acc, _ => by rw [List.forIn_nil]; rfl
  | (n, k) :: r, acc, h => by
    rw [List.forIn_cons, hf]
    unfold clOf
    by_cases q : (k == NameKind.free) = true
    · obtain ⟨c, hc⟩ := h (n, k) List.mem_cons_self (by simpa using q)
      have hc' : env.cells.lookup n = some c := hc
      rw [if_pos q, if_pos q]
      unfold cellOf
      rw [hc']
      simp only [pure_bind, Option.getD_some]
      exact clOf_forIn env f hf r _ fun x hx => h x (List.mem_cons_of_mem _ hx)
    · rw [if_neg q, if_neg q]
      simp only [pure_bind]
      exact clOf_forIn env f hf r _ fun x hx => h x (List.mem_cons_of_mem _ hx)
theorem closureFor_eq {scope : Scope} {env : Env} (h : ∀ x ∈ scope.names, x.2 = .free → ∃ c, env.cells.lookup x.1 = some c) : closureFor scope env = pure (clOf env scope.names []) := by
  simp only [closureFor]
  rw [clOf_forIn env _ (fun n k acc => by
    by_cases q : (k == NameKind.free) = true
    · simp only [q, if_true]
    · simp only [q]) scope.names [] h]
  rfl

theorem clOf_lookup {env : Env} : ∀ {names : List (Str × NameKind)} {acc : List (Str × Addr)} {x : Str} {c : Addr}, (∀ x ∈ names, x.2 = .free → ∃ c, env.cells.lookup x.1 = some c) → (clOf env names acc).lookup x = some c → env.cells.lookup x = some c ∨ acc.lookup x = some c
  | [], acc, x, c, _, e => .inr e
  | (n, k) :: r, acc, x, c, h, e => by
    unfold clOf at e
    have hr : ∀ x ∈ r, x.2 = .free → ∃ c, env.cells.lookup x.1 = some c := fun x hx => h x (List.mem_cons_of_mem _ hx)
    split at e
    · rename_i q
      rcases clOf_lookup hr e with z | z
      · exact .inl z
      · rw [List.lookup_cons] at z
        cases hb : x == n with
        | true =>
          rw [hb] at z
          obtain ⟨c', hc'⟩ := h (n, k) List.mem_cons_self (by simpa using q)
          have hc'' : env.cells.lookup n = some c' := hc'
          rw [hc''] at z
          cases z
          rw [beq_iff_eq.mp hb]; exact .inl hc''
        | false => rw [hb] at z; exact .inr z
    · exact clOf_lookup hr e
theorem clOf_some {env : Env} : ∀ {names : List (Str × NameKind)} {acc : List (Str × Addr)} {x : Str}, ((x, NameKind.free) ∈ names ∨ ∃ c, acc.lookup x = some c) → ∃ c, (clOf env names acc).lookup x = some c
  | [], acc, x, h => h.elim (fun q => nomatch q) id
  | (n, k) :: r, acc, x, h => by
    unfold clOf
    split
    · rename_i q
      refine clOf_some ?_
      rcases h with h | ⟨c, h⟩
      · rcases List.mem_cons.mp h with e | h
        · cases e; exact .inr ⟨_, by rw [List.lookup_cons, beq_self_eq_true]⟩
        · exact .inl h
      · refine .inr ?_
        rw [List.lookup_cons]
        cases x == n
        · exact ⟨c, h⟩
        · exact ⟨_, rfl⟩
    · rename_i q
      refine clOf_some ?_
      rcases h with h | h
      · rcases List.mem_cons.mp h with e | h
        · cases e; exact absurd rfl q
        · exact .inl h
      · exact .inr h
theorem clOf_free {env : Env} {names : List (Str × NameKind)} {x : Str} (h : ∀ x ∈ names, x.2 = .free → ∃ c, env.cells.lookup x.1 = some c) (hx : (x, NameKind.free) ∈ names) : (clOf env names []).lookup x = env.cells.lookup x := by
  obtain ⟨c, hc⟩ := clOf_some (env := env) (acc := []) (.inl hx)
  rw [hc]
  rcases clOf_lookup h hc with z | z
  · exact z.symm
  · simp at z

theorem cellsFrom_lookup : ∀ {names : List (Str × NameKind)} {h : Heap} {acc : List (Str × Addr)} {x : Str} {c : Addr}, (cellsFrom h.objs.size names acc).lookup x = some c → ((x, NameKind.cell) ∈ names ∧ h.objs.size ≤ c ∧ (pushCells h names).IsCell c none) ∨ acc.lookup x = some c
  | [], h, acc, x, c, e => .inr e
  | (n, k) :: r, h, acc, x, c, e => by
    unfold cellsFrom at e
    unfold pushCells
    split at e
    · rename_i q
      rw [if_pos q]
      have hk : k = .cell := by simpa using q
      subst hk
      have e' : (cellsFrom (h.push { cls := .type "cell", data := .cell none }).objs.size r ((n, h.objs.size) :: acc)).lookup x = some c := by rw [Heap.size_push]; exact e
      rcases cellsFrom_lookup e' with ⟨h1, h2, h3⟩ | z
      · exact .inl ⟨List.mem_cons_of_mem _ h1, by rw [Heap.size_push] at h2; omega, h3⟩
      · rw [List.lookup_cons] at z
        cases hb : x == n with
        | true =>
          rw [hb] at z; cases z
          rw [beq_iff_eq.mp hb]
          exact .inl ⟨List.mem_cons_self, Nat.le_refl _, ⟨_, pushCells_keeps _ _ _ _ (Heap.get?_push_size _ rfl), rfl⟩⟩
        | false => rw [hb] at z; exact .inr z
    · rename_i q
      rw [if_neg q]
      rcases cellsFrom_lookup e with ⟨h1, h2, h3⟩ | z
      · exact .inl ⟨List.mem_cons_of_mem _ h1, h2, h3⟩
      · exact .inr z
theorem cellsFrom_some : ∀ {names : List (Str × NameKind)} {n : Nat} {acc : List (Str × Addr)} {x : Str}, ((x, NameKind.cell) ∈ names ∨ ∃ c, acc.lookup x = some c) → ∃ c, (cellsFrom n names acc).lookup x = some c
  | [], n, acc, x, h => h.elim (fun q => nomatch q) id
  | (m, k) :: r, n, acc, x, h => by
    unfold cellsFrom
    split
    · rename_i q
      refine cellsFrom_some ?_
      rcases h with h | ⟨c, h⟩
      · rcases List.mem_cons.mp h with e | h
        · cases e; exact .inr ⟨_, by rw [List.lookup_cons, beq_self_eq_true]⟩
        · exact .inl h
      · refine .inr ?_
        rw [List.lookup_cons]
        cases x == m
        · exact ⟨c, h⟩
        · exact ⟨_, rfl⟩
    · rename_i q
      refine cellsFrom_some ?_
      rcases h with h | h
      · rcases List.mem_cons.mp h with e | h
        · cases e; exact absurd rfl q
        · exact .inl h
      · exact .inr h
theorem cellsFrom_inj : ∀ {names : List (Str × NameKind)} {n : Nat} {acc : List (Str × Addr)}, (∀ x x' c, acc.lookup x = some c → acc.lookup x' = some c → x = x') → (∀ x c, acc.lookup x = some c → c < n) →
    ∀ x x' c, (cellsFrom n names acc).lookup x = some c → (cellsFrom n names acc).lookup x' = some c → x = x'
  | [], n, acc, h1, _ => h1
  | (m, k) :: r, n, acc, h1, h2 => by
    unfold cellsFrom
    split
    · refine cellsFrom_inj (fun x x' c e e' => ?_) (fun x c e => ?_)
      · rw [List.lookup_cons] at e e'
        cases hb : x == m <;> cases hb' : x' == m <;> rw [hb] at e <;> rw [hb'] at e'
        · exact h1 x x' c e e'
        · cases e'; exact absurd (h2 _ _ e) (Nat.lt_irrefl _)
        · cases e; exact absurd (h2 _ _ e') (Nat.lt_irrefl _)
        · rw [beq_iff_eq.mp hb, beq_iff_eq.mp hb']
      · rw [List.lookup_cons] at e
        cases hb : x == m <;> rw [hb] at e
        · exact Nat.lt_succ_of_lt (h2 _ _ e)
        · cases e; exact Nat.lt_succ_self _
    · exact cellsFrom_inj h1 h2
theorem cellsFrom_skip : ∀ {names : List (Str × NameKind)} {n : Nat} {acc : List (Str × Addr)} {x : Str}, (x, NameKind.cell) ∉ names → (cellsFrom n names acc).lookup x = acc.lookup x
  | [], n, acc, x, h => rfl
  | (m, k) :: r, n, acc, x, h => by
    unfold cellsFrom
    have hr : (x, NameKind.cell) ∉ r := fun q => h (List.mem_cons_of_mem _ q)
    split
    · rename_i q
      rw [cellsFrom_skip hr, List.lookup_cons]
      cases hb : x == m with
      | false => rfl
      | true =>
        exfalso; apply h
        rw [beq_iff_eq.mp hb, show k = .cell by simpa using q]
        exact List.mem_cons_self
    · exact cellsFrom_skip hr

theorem cellsFrom_own : ∀ {names : List (Str × NameKind)} {h : Heap} {acc : List (Str × Addr)} {x : Str}, (x, NameKind.cell) ∈ names → ∃ c, (cellsFrom h.objs.size names acc).lookup x = some c ∧ h.objs.size ≤ c ∧ (pushCells h names).IsCell c none
  | [], h, acc, x, e => nomatch e
  | (n, k) :: r, h, acc, x, e => by
    unfold cellsFrom pushCells
    by_cases q : (k == NameKind.cell) = true
    · rw [if_pos q, if_pos q]
      by_cases m : (x, NameKind.cell) ∈ r
      · obtain ⟨c, h1, h2, h3⟩ := cellsFrom_own (h := h.push { cls := .type "cell", data := .cell none }) (acc := (n, h.objs.size) :: acc) m
        rw [Heap.size_push] at h1 h2
        exact ⟨c, h1, Nat.le_of_succ_le h2, h3⟩
      · rcases List.mem_cons.mp e with e | e
        · cases e
          refine ⟨h.objs.size, ?_, Nat.le_refl _, ⟨_, pushCells_keeps _ _ _ _ (Heap.get?_push_size _ rfl), rfl⟩⟩
          rw [cellsFrom_skip m, List.lookup_cons, beq_self_eq_true]
        · exact absurd e m
    · rw [if_neg q, if_neg q]
      rcases List.mem_cons.mp e with e | e
      · cases e; exact absurd rfl q
      · exact cellsFrom_own e

theorem newEnv_comp {M : Model} {A : Around} {E : Value → Shared → Prop} {s : Shared} {scope : Scope} {globals : Addr} {closure : List (Str × Addr)} {qual : Str} {env : Env} {Q : Env → Shared → Prop}
    (h : Q (newEnv scope s.heap.objs.size globals (cellsFrom (s.heap.objs.size + 1) scope.names closure) qual none .none (some env) builtinsNs) { s with heap := pushCells (s.heap.push { cls := .type "dict", data := .dict #[] }) scope.names }) :
    wpAny M A (newFunctionEnv scope globals closure [] qual none .none (some env)) Q E s := by
  simp only [newFunctionEnv, Option.isSome_some, if_true]
  refine wpAny_bind (wpAny_alloc ?_)
  refine wpAny_bind (wpAny_layCells _ (fun name kind cells => by cases hkc : kind == NameKind.cell <;> simp [hkc]) _ _ _ _ ?_)
  rw [show ({ s with heap := s.heap.push { cls := .type "dict", data := .dict #[] } } : Shared).heap.objs.size = s.heap.objs.size + 1 from Heap.size_push ..]
  rw [List.forIn_nil]
  exact wpAny_bind (wpAny_pure (wpAny_pure h))

theorem lookup_relabel {env : Env} : ∀ {names : List (Str × NameKind)} {x : Str},
    (names.map fun (n, k) => if (k == NameKind.free && env.scope.kind == .function && env.kindOf n == some .cell) then (n, NameKind.cell) else (n, k)).lookup x =
      (names.lookup x).map fun k => if (k == NameKind.free && env.scope.kind == .function && env.kindOf x == some .cell) then NameKind.cell else k
  | [], _ => rfl
  | (n, k) :: r, x => by
    show List.lookup x ((if (k == NameKind.free && env.scope.kind == .function && env.kindOf n == some .cell) = true then (n, NameKind.cell) else (n, k)) :: _) = _
    rw [List.lookup_cons (as := r)]
    cases hx : x == n with
    | true =>
      have := beq_iff_eq.mp hx; subst this
      split
      · rename_i q; simp only [List.lookup_cons, hx, Option.map_some, q, if_true]
      · rename_i q; simp only [List.lookup_cons, hx, Option.map_some, if_neg q]
    | false =>
      rw [← lookup_relabel (env := env) (names := r) (x := x)]
      split <;> simp only [List.lookup_cons, hx]
end Mine

namespace Mine
open PySem PySem.Spec PySem.Calls PyProof.Rows PySem.W

noncomputable def paB (F F' : Fm) (scope : Scope) (pass : List (Option Nat)) : Bool := (List.range pass.length).all fun j => match pass[j]? with
  | some (some i) => match F.names[i]?, F'.names[j]? with
    | some x, some y => x == y && scope.names.lookup x == some .free && decide ((x, NameKind.free) ∈ scope.names) && decide (x ∈ F.cel)
    | _, _ => false
  | _ => true
structure CompFm (F F' : Fm) (scope : Scope) (pass : List (Option Nat)) : Prop where
  fn : scope.kind = .function
  nm : ∀ x ∈ scope.names, x.2 = .local → scope.names.lookup x.1 = some .local
  fr : ∀ x ∈ scope.names, x.2 = .free → x.1 ∈ F.cel ∧ (x.1, NameKind.cell) ∉ scope.names
  gl : ∀ x ∈ F'.gl, scope.names.lookup x = some .globalImplicit
  sto : ∀ x ∈ F'.sto, scope.names.lookup x = some .local ∨ (scope.names.lookup x = some .cell ∧ (x, NameKind.cell) ∈ scope.names ∧ (x == ("__classdict__" : Str)) = false)
  cel : ∀ x ∈ F'.cel, (x == ("__classdict__" : Str)) = false ∧ ((scope.names.lookup x = some .cell ∧ (x, NameKind.cell) ∈ scope.names) ∨ (scope.names.lookup x = some .free ∧ (x, NameKind.free) ∈ scope.names))
  nd : F'.names.Nodup
  pa : paB F F' scope pass = true
theorem CompFm.pa' {F F' : Fm} {scope : Scope} {pass : List (Option Nat)} (h : CompFm F F' scope pass) (j i : Nat) (hj : pass[j]? = some (some i)) :
    ∃ x, F.names[i]? = some x ∧ F'.names[j]? = some x ∧ scope.names.lookup x = some .free ∧ (x, NameKind.free) ∈ scope.names ∧ x ∈ F.cel := by
  have h1 := h.pa
  unfold paB at h1
  rw [List.all_eq_true] at h1
  have hlt : j < pass.length := (List.getElem?_eq_some_iff.mp hj).1
  have h2 := h1 j (List.mem_range.mpr hlt)
  rw [hj] at h2
  dsimp only at h2
  split at h2
  · rename_i x y ex ey
    simp only [Bool.and_eq_true, beq_iff_eq, decide_eq_true_eq] at h2
    obtain ⟨⟨⟨e1, e2⟩, e3⟩, e4⟩ := h2
    exact ⟨x, ex, e1 ▸ ey, e2, e3, e4⟩
  · cases h2

noncomputable def passS (ρ : List Slot) (pass : List (Option Nat)) : List Slot := pass.map fun | none => .no | some i => match ρ[i]? with | some (.val d) => .val d | _ => .no
theorem passS_eq {ρ : List Slot} {pass : List (Option Nat)} {j : Nat} {z : Slot} (h : (passS ρ pass)[j]? = some z) : z = .no ∨ ∃ i d, pass[j]? = some (some i) ∧ ρ[i]? = some (.val d) ∧ z = .val d := by
  unfold passS at h
  rw [List.getElem?_map] at h
  cases hp : pass[j]? with
  | none => rw [hp] at h; cases h
  | some o =>
    rw [hp] at h
    cases o with
    | none => cases h; exact .inl rfl
    | some i =>
      simp only [Option.map_some] at h
      split at h
      · rename_i d e
        cases h; exact .inr ⟨i, d, rfl, e, rfl⟩
      · cases h; exact .inl rfl

section
variable {prog : Program} {w : World} {G : Heap} {n : Nat} {F F' : Fm}

theorem compOk {env : Env} {h h₂ h₃ : Heap} {h₀ : Heap} {X W : Addr → Prop} {ρ : List Slot} {scope : Scope} {pass : List (Option Nat)} {I : Addr} (hF : CompFm F F' scope pass) (K : Ok prog w G F env h₀ X W ρ h) (g : Gr isTab h h₂) (I₂ : Inv G h₂) (hI : h.get? I = none) (aI : ∃ o, h₂.get? I = some o)
    (e₃ : h₃ = pushCells ((h₂.push { cls := .type "list", dict := none, data := .seq ([] : List Value).toArray }).push { cls := .type "dict", data := .dict #[] }) scope.names) {cenv : Env}
    (hc : cenv = { newEnv scope (h₂.objs.size + 1) env.globals (cellsFrom (h₂.objs.size + 2) scope.names (clOf env scope.names [])) env.qual none .none (some env) builtinsNs with scope := relabel scope env }) :
    Ok prog w G F' cenv h (fun b => X b ∨ b = I ∨ (h₂.objs.size ≤ b ∧ ∃ o, h₃.get? b = some o)) (fun b => h₂.objs.size + 1 ≤ b ∧ ∃ o, h₃.get? b = some o) (passS ρ pass) h₃ ∧
    (∀ b o, h₂.get? b = some o → h₃.get? b = some o) ∧ h₃.PlainList h₂.objs.size #[] ∧ (∀ x c, cenv.cells.lookup x = some c → (∃ o, h.get? c = some o) ∨ h₂.objs.size + 2 ≤ c) := by
  have hclos : ∀ x ∈ scope.names, x.2 = .free → ∃ c, env.cells.lookup x.1 = some c := fun x hx q => (K.ce x.1 (hF.fr x hx q).1).2.2
  have kp : ∀ b o, h₂.get? b = some o → h₃.get? b = some o := fun b o e => by
    rw [e₃]; exact pushCells_keeps _ _ _ _ (Heap.get?_push_of_some _ (Heap.get?_push_of_some _ e))
  have sz : ((h₂.push { cls := .type "list", dict := none, data := .seq ([] : List Value).toArray }).push { cls := .type "dict", data := .dict #[] }).objs.size = h₂.objs.size + 2 := by rw [Heap.size_push, Heap.size_push]
  have hD : h₃.PlainList h₂.objs.size #[] := ⟨0, by rw [e₃]; exact pushCells_keeps _ _ _ _ (Heap.get?_push_of_some _ (Heap.get?_push_size _ rfl))⟩
  have hC : h₃.Ns (h₂.objs.size + 1) (fun _ => none) := by
    have := Heap.Ns.new (h₂.push { cls := .type "list", dict := none, data := .seq ([] : List Value).toArray }) (.type "dict")
    rw [Heap.size_push] at this
    rw [e₃]; exact this.keeps (pushCells_keeps _ _)
  have loc : cenv.locals = h₂.objs.size + 1 := by rw [hc]; rfl
  have cells : cenv.cells = cellsFrom (h₂.objs.size + 2) scope.names (clOf env scope.names []) := by rw [hc]; rfl
  have kof : ∀ x, cenv.kindOf x = (scope.names.lookup x).map fun k => if (k == NameKind.free && env.scope.kind == .function && env.kindOf x == some .cell) then NameKind.cell else k := fun x => by
    rw [hc]; exact lookup_relabel
  have low : ∀ b, (∃ o, h.get? b = some o) → b < h₂.objs.size := fun b ⟨o, e⟩ => by
    by_cases t : isTab b
    · obtain ⟨ps, e'⟩ := I₂.tabAlive t; exact Heap.lt_size e'
    · exact Heap.lt_size (g _ _ t e)
  have tabLow : ∀ b, isTab b → b < h₂.objs.size := fun b t => let ⟨ps, e'⟩ := I₂.tabAlive t; Heap.lt_size e'
  have lk : ∀ x c, cenv.cells.lookup x = some c → ((x, NameKind.cell) ∈ scope.names ∧ h₂.objs.size + 2 ≤ c ∧ h₃.IsCell c none) ∨ env.cells.lookup x = some c := fun x c e => by
    rw [cells, ← sz] at e
    rcases cellsFrom_lookup e with ⟨h1, h2, h3⟩ | z
    · exact .inl ⟨h1, by rw [← sz]; exact h2, by rw [e₃]; exact h3⟩
    · rcases clOf_lookup hclos z with z | z
      · exact .inr z
      · simp at z
  have lkf : ∀ x, (x, NameKind.free) ∈ scope.names → cenv.cells.lookup x = env.cells.lookup x := fun x hx => by
    rw [cells, cellsFrom_skip (hF.fr _ hx rfl).2, clOf_free hclos hx]
  have lkc : ∀ x, (x, NameKind.cell) ∈ scope.names → ∃ c, cenv.cells.lookup x = some c := fun x hx => by
    rw [cells]; exact cellsFrom_some (.inl hx)
  have kcell : ∀ x, scope.names.lookup x = some .cell → cenv.kindOf x = some .cell := fun x hx => by rw [kof, hx]; rfl
  have kfree : ∀ x, scope.names.lookup x = some .free → cenv.kindOf x = some .cell ∨ cenv.kindOf x = some .free := fun x hx => by
    rw [kof, hx]
    simp only [Option.map_some]
    split
    · exact .inl rfl
    · exact .inr rfl
  have sub : ∀ b, (X b ∨ b = I ∨ (h₂.objs.size ≤ b ∧ ∃ o, h₃.get? b = some o)) → X b ∨ h.get? b = none := fun b hb => by
    rcases hb with hb | rfl | ⟨hb, _⟩
    · exact .inl hb
    · exact .inr hI
    · refine .inr ?_
      cases e : h.get? b with
      | none => rfl
      | some o => exact absurd (low b ⟨o, e⟩) (Nat.not_lt.mpr hb)
  have gt : Gr isTab h h₃ := fun b o t e => kp b o (g b o t e)
  refine ⟨?_, kp, hD, fun x c e => ?_⟩
  · exact {
      base := K.inv, inv := I₂.gr_keep kp, kp := gt
      kind := by rw [hc]; exact hF.fn
      glob := by rw [hc]; exact K.glob
      blt := by rw [hc]; exact K.blt
      gl := fun x hx => by rw [kof, hF.gl x hx]; rfl
      ns := ⟨_, loc ▸ hC⟩
      wl := by rw [loc]; exact ⟨Nat.le_refl _, hC.choose_spec.choose_spec.choose_spec.1 ▸ ⟨_, rfl⟩⟩
      wx := fun b hb => .inr (.inr ⟨Nat.le_of_succ_le hb.1, hb.2⟩)
      tx := fun b hb => .inl (K.tx b hb)
      wf := fun b hb => by
        cases e : h.get? b with
        | none => rfl
        | some o => exact absurd (low b ⟨o, e⟩) (Nat.not_lt.mpr (Nat.le_of_succ_le hb.1))
      al := fun b hb => by
        rcases hb with hb | rfl | ⟨_, hb⟩
        · obtain ⟨o, e⟩ := K.al b hb
          by_cases t : isTab b
          · obtain ⟨ps, e'⟩ := I₂.tabAlive t; exact ⟨_, kp _ _ e'⟩
          · exact ⟨o, gt b o t e⟩
        · obtain ⟨o, e⟩ := aI; exact ⟨o, kp _ _ e⟩
        · exact hb
      ap := by
        rw [cells]
        refine cellsFrom_inj (fun x x' c e e' => ?_) (fun x c e => ?_)
        · rcases clOf_lookup hclos e with z | z
          · rcases clOf_lookup hclos e' with z' | z'
            · exact K.ap x x' c z z'
            · simp at z'
          · simp at z
        · rcases clOf_lookup hclos e with z | z
          · exact Nat.lt_add_right 2 (low c (K.ca x c z))
          · simp at z
      cl := fun x c e => by
        rw [loc]
        rcases lk x c e with ⟨_, h2, _⟩ | z
        · exact ⟨Nat.ne_of_gt h2, fun t => Nat.lt_irrefl _ (Nat.lt_of_lt_of_le (tabLow c t) (Nat.le_of_succ_le (Nat.le_of_succ_le h2)))⟩
        · exact ⟨Nat.ne_of_lt (Nat.lt_succ_of_lt (low c (K.ca x c z))), (K.cl x c z).2⟩
      ca := fun x c e => by
        rcases lk x c e with ⟨_, _, o, h3, _⟩ | z
        · exact ⟨o, h3⟩
        · obtain ⟨o, e⟩ := K.ca x c z
          exact ⟨o, gt c o (K.cl x c z).2 e⟩
      ce := fun x hx => by
        obtain ⟨h1, h2⟩ := hF.cel x hx
        refine ⟨h1, ?_, ?_⟩
        · rcases h2 with ⟨h2, _⟩ | ⟨h2, _⟩
          · exact .inl (kcell x h2)
          · exact kfree x h2
        · rcases h2 with ⟨_, h2⟩ | ⟨_, h2⟩
          · exact lkc x h2
          · rw [lkf x h2]; exact hclos _ h2 rfl
      st := fun x hx => by
        rcases hF.sto x hx with h1 | ⟨h1, h2, h3⟩
        · exact .inl (by rw [kof, h1]; rfl)
        · obtain ⟨c, h4, h5, h6⟩ := cellsFrom_own (h := ((h₂.push { cls := .type "list", dict := none, data := .seq ([] : List Value).toArray }).push { cls := .type "dict", data := .dict #[] })) (acc := clOf env scope.names []) h2
          rw [sz] at h4 h5
          rw [← e₃] at h6
          exact .inr ⟨kcell x h1, h3, c, none, by rw [cells]; exact h4, ⟨Nat.le_of_succ_le h5, h6.imp fun _ q => q.1⟩, h6⟩
      nd := hF.nd
      sl := fun j d hj => by
        rcases passS_eq hj with q | ⟨i, d', hp, hi, q⟩
        · cases q
        · cases q
          obtain ⟨x, hx, hx', hl, hm, hcel⟩ := hF.pa' j i hp
          obtain ⟨y, v, hy, hH, hIs⟩ := K.sl i d hi
          have : y = x := Option.some.inj (hy.symm.trans hx)
          subst this
          obtain ⟨c1, c2, c3⟩ := K.ce y hcel
          refine ⟨y, v, hx', .inr ⟨kfree y hl, c1, ?_⟩, (hIs.avoid sub).gr (gt.wk fun b t => .inl (K.tx b t))⟩
          rcases hH with ⟨k, _⟩ | ⟨_, _, c, e1, e2⟩
          · rcases c2 with c2 | c2 <;> rw [k] at c2 <;> cases c2
          · exact ⟨c, by rw [lkf y hm]; exact e1, isCell_gr e2 fun o => gt c o (K.cl y c e1).2⟩
      oT := fun j l hj => by
        rcases passS_eq hj with q | ⟨i, d', hp, hi, q⟩ <;> cases q
      oI := fun j l hj => by
        rcases passS_eq hj with q | ⟨i, d', hp, hi, q⟩ <;> cases q }
  · rcases lk x c e with ⟨_, h2, _⟩ | z
    · exact .inr h2
    · exact .inl (K.ca x c z)
end
end Mine

namespace Mine
open PySem PySem.Spec PySem.Calls PyProof.Rows PySem.W

section
variable {prog : Program} {w : World} {G : Heap} {n : Nat} {F F' : Fm}

theorem comp_plain {elt iter : Expr} {x : Str} {px : Pos} {ifs : List Expr} {rest : List Comprehension} {scope : Scope} {pos : Pos} {pass : List (Option Nat)} {f : List Slot → Option (List PV)} {φ : List Slot → List PV → Option (List PV)}
    (hF : CompFm F F' scope pass) (hit : Itr prog w G n F iter f) (hcl : CL prog w G n F' (.ListComp elt (⟨.Name x px, iter, ifs, 0⟩ :: rest) scope pos) 0 φ) (hfs : ∀ env x, foldedSetIterable iter env x = pure x := by intro _ _; rfl) :
    ∀ env h₀ X W ρ A s ds out, Room n A → Ok prog w G F env h₀ X W ρ s.heap → f ρ = some ds → φ (passS ρ pass) ds = some out → out.length ≤ 1000 →
      wpAny (model prog w) A (eval (.ListComp elt (⟨.Name x px, iter, ifs, 0⟩ :: rest) scope pos) env) (Post G s fun v h' => Is prog w X h' v (.lst out) ∧ ∃ D items, v = .ref D ∧ h'.PlainList D items) No s := by
  intro env h₀ X W ρ A s ds out R K hds hout hle
  · rw [eval_ListComp]
    have hclos : ∀ x ∈ scope.names, x.2 = .free → ∃ c, env.cells.lookup x.1 = some c := fun x hx q => (K.ce x.1 (hF.fr x hx q).1).2.2
    refine wpAny_comprehension_free (use := none) rfl (hfs env) (closureFor_eq hclos) hF.fn hF.nm ?_
    refine hit env h₀ X W ρ A s ds _ R K hds fun I fp P St h₂ tk₂ it g I₂ => ?_
    refine wpAny_newObj_type (newEnv_comp ?_)
    obtain ⟨alI, nrI⟩ := it.ob _ _ it.st
    generalize e₃ : pushCells ((h₂.push { cls := .type "list", dict := none, data := .seq ([] : List Value).toArray }).push { cls := .type "dict", data := .dict #[] }) scope.names = h₃
    have sz : (h₂.push { cls := .type "list", dict := none, data := .seq ([] : List Value).toArray }).objs.size = h₂.objs.size + 1 := Heap.size_push ..
    simp only [sz]
    obtain ⟨K₃, kp, hD, hcells⟩ := compOk hF K g I₂ it.new alI e₃.symm (cenv := { newEnv scope (h₂.objs.size + 1) env.globals (cellsFrom (h₂.objs.size + 2) scope.names (clOf env scope.names [])) env.qual none .none (some env) builtinsNs with scope := relabel scope env }) rfl
    generalize hce : ({ newEnv scope (h₂.objs.size + 1) env.globals (cellsFrom (h₂.objs.size + 2) scope.names (clOf env scope.names [])) env.qual none .none (some env) builtinsNs with scope := relabel scope env } : Env) = cenv at *
    have loc : cenv.locals = h₂.objs.size + 1 := by rw [← hce]; rfl
    have low : ∀ b, (∃ o, s.heap.get? b = some o) → b < h₂.objs.size := fun b ⟨o, e⟩ => by
      by_cases t : isTab b
      · obtain ⟨ps, e'⟩ := I₂.tabAlive t; exact Heap.lt_size e'
      · exact Heap.lt_size (g _ _ t e)
    have tabLow : ∀ b, isTab b → b < h₂.objs.size := fun b t => let ⟨ps, e'⟩ := I₂.tabAlive t; Heap.lt_size e'
    have ltI : I < h₂.objs.size := let ⟨o, e⟩ := alI; Heap.lt_size e
    have nh : ∀ b, h₂.objs.size ≤ b → s.heap.get? b = none := fun b hb => by
      cases e : s.heap.get? b with
      | none => rfl
      | some o => exact absurd (low b ⟨o, e⟩) (Nat.not_lt.mpr hb)
    have oI : Off (fun b => X b ∨ b = I ∨ (h₂.objs.size ≤ b ∧ ∃ o, h₃.get? b = some o)) (fun b => h₂.objs.size + 1 ≤ b ∧ ∃ o, h₃.get? b = some o) s.heap cenv I :=
      ⟨.inr (.inl rfl), fun q => absurd ltI (Nat.not_lt.mpr (Nat.le_of_succ_le q.1)), fun t => K.xok.fresh it.new (K.tx _ t), it.new, fun y c hc q => by
        rcases hcells y c hc with ⟨o, e⟩ | z
        · rw [q, it.new] at e; cases e
        · rw [q] at z; exact absurd ltI (Nat.not_lt.mpr (Nat.le_of_succ_le (Nat.le_of_succ_le z)))⟩
    have oD : Off (fun b => X b ∨ b = I ∨ (h₂.objs.size ≤ b ∧ ∃ o, h₃.get? b = some o)) (fun b => h₂.objs.size + 1 ≤ b ∧ ∃ o, h₃.get? b = some o) s.heap cenv h₂.objs.size :=
      ⟨.inr (.inr ⟨Nat.le_refl _, let ⟨_, e⟩ := hD; ⟨_, e⟩⟩), fun q => Nat.lt_irrefl _ q.1, fun t => Nat.lt_irrefl _ (tabLow _ t), nh _ (Nat.le_refl _), fun y c hc q => by
        rcases hcells y c hc with z | z
        · exact absurd (low c z) (by rw [q]; exact Nat.lt_irrefl _)
        · rw [q] at z; exact absurd z (by omega)⟩
    have hDI : h₂.objs.size ≠ I := Nat.ne_of_gt ltI
    have T : ItIn prog w A (fun b => X b ∨ b = I ∨ (h₂.objs.size ≤ b ∧ ∃ o, h₃.get? b = some o)) h₃ I fp P St ds 0 := by
      refine ⟨it.walks, it.walks.frame _ _ _ it.st fun b _ o e => kp b o e, fun b hb => ?_, it.ob, fun j v hj hP => ?_⟩
      · rcases it.off b hb with q | q
        · exact .inl q
        · by_cases e : b = I
          · exact .inl e
          · refine .inr fun z => ?_
            rcases z with z | z | ⟨z, _⟩
            · exact q z
            · exact e z
            · obtain ⟨o, eo⟩ := it.fpa b hb
              exact absurd (Heap.lt_size eo) (Nat.not_lt.mpr z)
      · obtain ⟨dd, hdd, hII⟩ := it.item j v hj hP
        have := hII (fun b => X b ∨ b = I) h₂ (fun b q => q) (Gr.refl _ _)
        refine ⟨dd, hdd, (this.avoid fun b hb => ?_).gr (Gr.of kp)⟩
        rcases hb with z | z | ⟨z, _⟩
        · exact .inl (.inl z)
        · exact .inl (.inr z)
        · refine .inr ?_
          cases e : h₂.get? b with
          | none => rfl
          | some o => exact absurd (Heap.lt_size e) (Nat.not_lt.mpr z)
    have C : Acc prog w (fun b => X b ∨ b = I ∨ (h₂.objs.size ≤ b ∧ ∃ o, h₃.get? b = some o)) h₂.objs.size h₃ [] := ⟨[], hD, .nil⟩
    have body := hcl cenv s.heap _ _ (passS ρ pass) A { s with heap := h₃, toks := tk₂ } I h₂.objs.size fp P St ds [] out R K₃ oI oD hDI T C hout (by simp; omega)
    have fin : ∀ (r' : Result) (s₆ : Shared), (r' = .ok .next ∧ ∃ h' tk', s₆ = { s with heap := h', toks := tk' } ∧ Ok prog w G F' cenv s.heap (fun b => (X b ∨ b = I ∨ (h₂.objs.size ≤ b ∧ ∃ o, h₃.get? b = some o)) ∧ b ≠ I) (fun b => h₂.objs.size + 1 ≤ b ∧ ∃ o, h₃.get? b = some o) (passS ρ pass) h' ∧
        Acc prog w (fun b => (X b ∨ b = I ∨ (h₂.objs.size ≤ b ∧ ∃ o, h₃.get? b = some o)) ∧ b ≠ I) h₂.objs.size h' ([] ++ out) ∧ Kp (fun b => h₂.objs.size + 1 ≤ b ∧ ∃ o, h₃.get? b = some o) h₂.objs.size I h₃ h') →
        compPost (model prog w) A No none (Post G s fun v h' => Is prog w X h' v (.lst out) ∧ ∃ D items, v = .ref D ∧ h'.PlainList D items) (.ref h₂.objs.size) (h₂.objs.size + 1) r' s₆ := by
      rintro r' s₆ ⟨rfl, h₅, tk₅, rfl, K₅, ⟨vs, hvl, hvs⟩, kp₅⟩
      obtain ⟨m, hm⟩ := K₅.ns
      rw [loc] at hm
      refine ⟨m, hm, fun h₆ hs₆ => ?_⟩
      have sub : ∀ b, X b → (X b ∨ b = I ∨ (h₂.objs.size ≤ b ∧ ∃ o, h₃.get? b = some o)) ∧ b ≠ I := fun b q => ⟨.inl q, fun e => K.xok.fresh it.new (e ▸ q)⟩
      have nC : ¬ isTab (h₂.objs.size + 1) := fun t => Nat.lt_irrefl _ (Nat.lt_of_succ_lt (tabLow _ t))
      refine ⟨h₆, tk₅, rfl, fun b o t e => ?_, K₅.inv.same hs₆ ?_ nC (noRec_ns hm), ?_⟩
      · have lb := low b ⟨o, e⟩
        rw [hs₆.2 b (Nat.ne_of_lt (Nat.lt_succ_of_lt lb))]
        refine kp₅ b o (fun q => ?_) (Nat.ne_of_lt lb) (fun q => ?_) t (kp b o (g b o t e))
        · exact absurd lb (Nat.not_lt.mpr (Nat.le_of_succ_le q.1))
        · rw [q, it.new] at e; cases e
      · cases e : G.get? (h₂.objs.size + 1) with
        | none => rfl
        | some o => have := K.inv.keep _ _ e; rw [nh _ (Nat.le_succ _)] at this; cases this
      · have nD : ¬ X h₂.objs.size := fun q => by
          have := low _ (K.al _ q); exact Nat.lt_irrefl _ this
        have hpl := hvl.at (h' := h₆) fun o e => (hs₆.2 _ (Nat.ne_of_lt (Nat.lt_succ_self _))).trans e
        refine ⟨.lst (vs := vs) hpl.isList nD ?_, _, _, rfl, hpl⟩
        refine (IsAll.gr (X := (fun b => (X b ∨ b = I ∨ (h₂.objs.size ≤ b ∧ ∃ o, h₃.get? b = some o)) ∧ b ≠ I)) (fun b o q e => ?_) hvs).anti sub
        refine (hs₆.2 b fun z => q ?_).trans e
        subst z
        refine K₅.wx _ ?_
        have := K₅.wl
        rw [loc] at this; exact this
    refine codeAny_compStart_at rfl (codeAny_mono body fin) (it.walks.self 0 _ _ _ T.st (codeAny_mono body fin))
theorem ev_comp {elt iter : Expr} {x : Str} {px : Pos} {ifs : List Expr} {rest : List Comprehension} {scope : Scope} {pos : Pos} {pass : List (Option Nat)} {f : List Slot → Option (List PV)} {φ : List Slot → List PV → Option (List PV)}
    (hF : CompFm F F' scope pass) (hit : Itr prog w G n F iter f) (hcl : CL prog w G n F' (.ListComp elt (⟨.Name x px, iter, ifs, 0⟩ :: rest) scope pos) 0 φ) (hfs : ∀ env x, foldedSetIterable iter env x = pure x := by intro _ _; rfl) :
    Ev prog w G n F (.ListComp elt (⟨.Name x px, iter, ifs, 0⟩ :: rest) scope pos) (fun ρ => (f ρ).bind fun ds => (φ (passS ρ pass) ds).bind fun out => if out.length ≤ 1000 then some (.lst out) else none) := by
  intro env h₀ X W ρ A s d R K hf
  obtain ⟨ds, hds, hf⟩ := Option.bind_eq_some_iff.mp hf
  obtain ⟨out, hout, hf⟩ := Option.bind_eq_some_iff.mp hf
  split at hf
  · rename_i hle
    cases hf
    exact wpAny_mono (comp_plain hF hit hcl hfs env h₀ X W ρ A s ds out R K hds hout hle) (fun v s' q => q.imp fun _ _ _ _ r => r.1) fun _ _ e => e
  · cases hf
end
end Mine

namespace Mine
open PySem PySem.Spec PySem.Calls PyProof.Rows PySem.W

inductive SOut where
  | go (ρ : List Slot)
  | ret (d : PV)

noncomputable def KeptS (W : Addr → Prop) (h h' : Heap) : Prop := ∀ b o, ¬ W b → ¬ isTab b → h.get? b = some o → h'.get? b = some o
theorem KeptS.refl (W : Addr → Prop) (h : Heap) : KeptS W h h := fun _ _ _ _ e => e
theorem KeptS.trans {W : Addr → Prop} {h h' h'' : Heap} (a : KeptS W h h') (b : KeptS W h' h'') : KeptS W h h'' := fun x o n1 n2 e => b x o n1 n2 (a x o n1 n2 e)
theorem KeptS.of_gr {W : Addr → Prop} {h h' : Heap} (g : Gr isTab h h') : KeptS W h h' := fun b o _ n e => g b o n e
noncomputable def Gro (X X' : Addr → Prop) (h : Heap) : Prop := (∀ b, X b → X' b) ∧ ∀ b, X' b → X b ∨ h.get? b = none
theorem Gro.refl (X : Addr → Prop) (h : Heap) : Gro X X h := ⟨fun _ x => x, fun _ x => .inl x⟩
/-- what is new later was new before -/
noncomputable def Older (h h' : Heap) : Prop := ∀ b, h'.get? b = none → h.get? b = none
theorem Older.of_gr {G h h' : Heap} (g : Gr isTab h h') (I : Inv G h') : Older h h' := fun b e => new_of_gr g I e
theorem Older.trans {h h' h'' : Heap} (a : Older h h') (b : Older h' h'') : Older h h'' := fun x e => a x (b x e)
theorem Gro.trans {X X' X'' : Addr → Prop} {h h' : Heap} (a : Gro X X' h) (b : Gro X' X'' h') (o : Older h h') : Gro X X'' h := ⟨fun x q => b.1 x (a.1 x q), fun x q => (b.2 x q).elim (a.2 x) fun z => .inr (o x z)⟩

section
variable (prog : Program) (w : World) (G : Heap) (n : Nat) (F : Fm)
noncomputable def SP (env : Env) (h₀ : Heap) (X₀ X W : Addr → Prop) (s : Shared) (o : SOut) (fl : Flow) (s' : Shared) : Prop :=
  ∃ h' tk', s' = { s with heap := h', toks := tk' } ∧ KeptS W s.heap h' ∧ Older s.heap h' ∧ (match o with
    | .go ρ' => fl = .next ∧ ∃ X' W', Ok prog w G F env h₀ X' W' ρ' h' ∧ Gro X X' s.heap ∧ Gro W W' s.heap
    | .ret d => ∃ v, fl = .ret v ∧ Inv G h' ∧ Gr isTab h₀ h' ∧ Is prog w X₀ h' v d)
noncomputable def Ex (st : Stmt) (f : List Slot → Option SOut) : Prop :=
  ∀ env h₀ X₀ X W ρ A s o, Room n A → Ok prog w G F env h₀ X W ρ s.heap → (∀ b, X₀ b → X b) → XOk X₀ h₀ → f ρ = some o → wpAny (model prog w) A (exec st env) (SP prog w G F env h₀ X₀ X W s o) No s
noncomputable def Exs (st : List Stmt) (f : List Slot → Option SOut) : Prop :=
  ∀ env h₀ X₀ X W ρ A s o, Room n A → Ok prog w G F env h₀ X W ρ s.heap → (∀ b, X₀ b → X b) → XOk X₀ h₀ → f ρ = some o → wpAny (model prog w) A (execs st env) (SP prog w G F env h₀ X₀ X W s o) No s
noncomputable def Tg (tgt : Expr) (st : List Slot → PV → Option (List Slot)) : Prop :=
  ∀ env h₀ X W ρ A s v d ρ', Room n A → Ok prog w G F env h₀ X W ρ s.heap → Is prog w X s.heap v d → st ρ d = some ρ' →
    wpAny (model prog w) A (assign tgt env v) (fun _ s' => ∃ h' tk', s' = { s with heap := h', toks := tk' } ∧ Ok prog w G F env h₀ X W ρ' h' ∧ KeptS W s.heap h') No s
end

section
variable {prog : Program} {w : World} {G : Heap} {n : Nat} {F : Fm}

theorem older_ok {env : Env} {h₀ h h' : Heap} {X W X' W' : Addr → Prop} {ρ ρ' : List Slot} (K : Ok prog w G F env h₀ X W ρ h) (K' : Ok prog w G F env h₀ X' W' ρ' h') (k : KeptS W h h') (sub : ∀ b, X b → X' b) : Older h h' := fun b e => by
  cases q : h.get? b with
  | none => rfl
  | some o =>
    by_cases t : X b
    · obtain ⟨o', e'⟩ := K'.al b (sub b t); rw [e] at e'; cases e'
    · have := k b o (fun z => t (K.wx b z)) (fun z => t (K.tx b z)) q; rw [e] at this; cases this

theorem exs_nil : Exs prog w G n F [] (fun ρ => some (.go ρ)) := by
  intro env h₀ X₀ X W ρ A s o R K hX hX₀ hf
  cases hf
  exact wpAny_execs_nil ⟨s.heap, s.toks, rfl, KeptS.refl _ _, fun _ e => e, rfl, X, W, K, Gro.refl _ _, Gro.refl _ _⟩
theorem exs_cons {st : Stmt} {sts : List Stmt} {f g : List Slot → Option SOut} (h1 : Ex prog w G n F st f) (h2 : Exs prog w G n F sts g) :
    Exs prog w G n F (st :: sts) (fun ρ => (f ρ).bind fun | .go ρ' => g ρ' | .ret d => some (.ret d)) := by
  intro env h₀ X₀ X W ρ A s o R K hX hX₀ hf
  obtain ⟨o₁, ho₁, hf⟩ := Option.bind_eq_some_iff.mp hf
  refine wpAny_execs_cons (wpAny_mono (h1 env h₀ X₀ X W ρ A s o₁ R K hX hX₀ ho₁) (fun fl s₁ hs₁ => ?_) fun _ _ e => e)
  obtain ⟨h₁, tk₁, rfl, k₁, ol₁, hs₁⟩ := hs₁
  cases o₁ with
  | ret d =>
    cases hf
    obtain ⟨v, rfl, r⟩ := hs₁
    exact ⟨h₁, tk₁, rfl, k₁, ol₁, v, rfl, r⟩
  | go ρ' =>
    obtain ⟨rfl, X', W', K', gX, gW⟩ := hs₁
    refine wpAny_mono (h2 env h₀ X₀ X' W' ρ' A _ o R K' (fun b q => gX.1 b (hX b q)) hX₀ hf) (fun fl s₂ hs₂ => ?_) fun _ _ e => e
    obtain ⟨h₂, tk₂, rfl, k₂, ol₂, hs₂⟩ := hs₂
    refine ⟨h₂, tk₂, rfl, fun b o n1 n2 e => ?_, ol₁.trans ol₂, ?_⟩
    · have e₁ := k₁ b o n1 n2 e
      exact k₂ b o (fun q => (gW.2 b q).elim n1 fun z => by rw [e] at z; cases z) n2 e₁
    · cases o with
      | ret d => exact hs₂
      | go ρ'' =>
        obtain ⟨rfl, X'', W'', K'', gX', gW'⟩ := hs₂
        exact ⟨rfl, X'', W'', K'', gX.trans gX' ol₁, gW.trans gW' ol₁⟩

theorem tg_name {x : Str} {px : Pos} {i : Nat} (hi : F.names[i]? = some x) (hx : x ∈ F.sto) : Tg prog w G n F (.Name x px) (fun ρ d => some (ρ.set i (.val d))) := by
  intro env h₀ X W ρ A s v d ρ' R K hI hf
  cases hf
  exact wpAny_assign_Name (ok_store K hi hx hI fun h' tk' K' k => ⟨h', tk', rfl, K', fun b o n1 _ e => k b o n1 e⟩)

theorem swaps_cell {value : Expr} {x : Str} {p : Pos} {line : Nat} {env : Env} (hk : env.kindOf x = some .cell ∨ env.kindOf x = some .free) : swapsWith value (some (.Name x p)) line env = pure false := by
  unfold swapsWith
  have e : (env.kindOf x == some NameKind.local) = false := by rcases hk with q | q <;> rw [q] <;> rfl
  split
  · dsimp only
    rw [e]
    simp
  · rfl

theorem ex_assign {x : Str} {px pos : Pos} {value : Expr} {i : Nat} {f : List Slot → Option PV} (hi : F.names[i]? = some x) (hx : x ∈ F.sto) (he : Ev prog w G n F value f)
    (hs : x ∈ F.cel ∨ ∀ env, swapsWith value (some (.Name x px)) pos.line env = pure false) :
    Ex prog w G n F (.Assign [.Name x px] value pos) (fun ρ => (f ρ).bind fun d => some (.go (ρ.set i (.val d)))) := by
  intro env h₀ X₀ X W ρ A s o R K hX hX₀ hf
  obtain ⟨d, hd, hf⟩ := Option.bind_eq_some_iff.mp hf
  cases hf
  have hs' : swapsWith value (some (.Name x px)) pos.line env = pure false := by
    rcases hs with hs | hs
    · exact swaps_cell (K.ce x hs).2.1
    · exact hs env
  refine wpAny_Assign_Name ?_ hs'
  refine seqP (he env h₀ X W ρ A s d R K hd) fun v h₁ tk₁ g₁ I₁ p₁ => ?_
  have K₁ := K.gr g₁ I₁
  refine ok_store K₁ hi hx p₁ fun h₂ tk₂ K₂ k₂ => ?_
  have kk : KeptS W s.heap h₂ := (KeptS.of_gr g₁).trans fun b o n1 _ e => k₂ b o n1 e
  exact ⟨h₂, tk₂, rfl, kk, older_ok K K₂ kk fun _ q => q, rfl, X, W, K₂, Gro.refl _ _, Gro.refl _ _⟩

theorem tg_two {x y : Str} {px py pos : Pos} {k i j : Nat} (hi : F.names[i]? = some x) (hx : x ∈ F.sto) (hj : F.names[j]? = some y) (hy : y ∈ F.sto) :
    Tg prog w G n F (.Tuple [.Name x px, .Name y py] k pos) (fun ρ d => match d with | .tup [a, b] => some ((ρ.set i (.val a)).set j (.val b)) | _ => none) := by
  intro env h₀ X W ρ A s v d ρ' R K hI hf
  dsimp only at hf
  split at hf
  · rename_i a b
    cases hf
    cases hI with
    | @tup t vs _ ht hnx hv =>
      cases hv with
      | @cons va _ _ _ ha hv =>
        cases hv with
        | @cons vb _ _ _ hb hv =>
          cases hv
          refine wpAny_assign_Tuple R.1 ht (by rfl) (by rfl) fun h' he => ?_
          have kp : ∀ b o, s.heap.get? b = some o → h'.get? b = some o := fun b o e => he b o (Nat.ne_of_lt (Heap.lt_size e)) e
          have K₁ := K.gr (Gr.of kp) (K.inv.gr_keep kp)
          show wpAny _ A (assignInOrder [assign (.Name x px) env, assign (.Name y py) env] [va, vb]) _ _ _
          unfold assignInOrder
          refine wpAny_bind (wpAny_holding (wpAny_assign_Name (ok_store K₁ hi hx (ha.gr (Gr.of kp)) fun h₂ tk₂ K₂ k₂ => ?_)))
          unfold assignInOrder
          have gX₂ : Gr X h' h₂ := fun b o hb e => k₂ b o (fun q => hb (K.wx b q)) e
          refine wpAny_bind (wpAny_holding (wpAny_assign_Name (ok_store K₂ hj hy ((hb.gr (Gr.of kp)).gr gX₂) fun h₃ tk₃ K₃ k₃ => ?_)))
          exact wpAny_pure ⟨h₃, tk₃, rfl, K₃, fun b o n1 _ e => k₃ b o n1 (k₂ b o n1 (kp b o e))⟩
  · cases hf

theorem ex_assign2 {x y : Str} {px py tpos pos : Pos} {k i j : Nat} {value : Expr} {f : List Slot → Option PV} (hi : F.names[i]? = some x) (hx : x ∈ F.sto) (hj : F.names[j]? = some y) (hy : y ∈ F.sto) (he : Ev prog w G n F value f)
    (hs : ∀ env, swapsWithSole [.Tuple [.Name x px, .Name y py] k tpos] value pos.line env = pure false := by intro _; rfl)
    (hw : ∀ env h₀ X W ρ h, Ok prog w G F env h₀ X W ρ h → swappedStores [.Tuple [.Name x px, .Name y py] k tpos] value env = pure none) :
    Ex prog w G n F (.Assign [.Tuple [.Name x px, .Name y py] k tpos] value pos) (fun ρ => (f ρ).bind fun d => match d with | .tup [a, b] => some (.go ((ρ.set i (.val a)).set j (.val b))) | _ => none) := by
  intro env h₀ X₀ X W ρ A s o R K hX hX₀ hf
  obtain ⟨d, hd, hf⟩ := Option.bind_eq_some_iff.mp hf
  split at hf
  · cases hf
    refine Assign_Tuple ?_ (hs env) (hw env h₀ X W ρ _ K)
    refine seqP (he env h₀ X W ρ A s _ R K hd) fun v h₁ tk₁ g₁ I₁ p₁ => ?_
    have K₁ := K.gr g₁ I₁
    refine wpAny_mono (tg_two hi hx hj hy env h₀ X W ρ A _ v _ _ R K₁ p₁ rfl) (fun _ s₂ hs₂ => ?_) fun _ _ e => e
    obtain ⟨h₂, tk₂, rfl, K₂, k₂⟩ := hs₂
    have kk : KeptS W s.heap h₂ := (KeptS.of_gr g₁).trans k₂
    exact ⟨h₂, tk₂, rfl, kk, older_ok K K₂ kk fun _ q => q, rfl, X, W, K₂, Gro.refl _ _, Gro.refl _ _⟩
  · cases hf

theorem ex_if {t : Expr} {body orelse : List Stmt} {pos : Pos} {c : List Slot → Option Bool} {f g : List Slot → Option SOut} (ht : Ts prog w G n F t c) (hb : Exs prog w G n F body f) (ho : Exs prog w G n F orelse g) :
    Ex prog w G n F (.If t body orelse pos) (fun ρ => (c ρ).bind fun b => if b then f ρ else g ρ) := by
  intro env h₀ X₀ X W ρ A s o R K hX hX₀ hf
  obtain ⟨b, hc, hf⟩ := Option.bind_eq_some_iff.mp hf
  refine wpAny_If (seqP (ht env h₀ X W ρ A s b R K hc) fun v h₁ tk₁ g₁ I₁ e₁ => ?_)
  subst e₁
  have K₁ := K.gr g₁ I₁
  have fin : ∀ (fl : Flow) s₂, SP prog w G F env h₀ X₀ X W { s with heap := h₁, toks := tk₁ } o fl s₂ → SP prog w G F env h₀ X₀ X W s o fl s₂ := by
    rintro fl s₂ ⟨h₂, tk₂, rfl, k₂, ol₂, r⟩
    have old := Older.of_gr g₁ I₁
    refine ⟨h₂, tk₂, rfl, (KeptS.of_gr g₁).trans k₂, old.trans ol₂, ?_⟩
    cases o with
    | ret d => exact r
    | go ρ' =>
      obtain ⟨rfl, X', W', K', gX, gW⟩ := r
      exact ⟨rfl, X', W', K', (Gro.refl _ _).trans gX old, (Gro.refl _ _).trans gW old⟩
  cases v with
  | true => exact wpAny_mono (hb env h₀ X₀ X W ρ A _ o R K₁ hX hX₀ hf) fin fun _ _ e => e
  | false => exact wpAny_mono (ho env h₀ X₀ X W ρ A _ o R K₁ hX hX₀ hf) fin fun _ _ e => e

theorem ex_ret {e : Expr} {pos : Pos} {f : List Slot → Option PV} (he : Ev prog w G n F e f) : Ex prog w G n F (.Return (some e) pos) (fun ρ => (f ρ).bind fun d => some (.ret d)) := by
  intro env h₀ X₀ X W ρ A s o R K hX hX₀ hf
  obtain ⟨d, hd, hf⟩ := Option.bind_eq_some_iff.mp hf
  cases hf
  refine wpAny_Return_some (seqP (he env h₀ X W ρ A s d R K hd) fun v h₁ tk₁ g₁ I₁ p₁ => ?_)
  exact ⟨h₁, tk₁, rfl, KeptS.of_gr g₁, Older.of_gr g₁ I₁, v, rfl, I₁, K.kp.trans g₁, p₁.anti hX⟩
end
end Mine

namespace Mine
open PySem PySem.Spec PySem.Calls PyProof.Rows PySem.W

theorem forLoopNo {prog : Program} {w : World} {A : Around} {s : Shared} {R : Result → Shared → Prop} {target : Expr} {it : Value} {body : List Stmt} {env : Env} (I : Nat → Shared → Prop)
    (turn : ∀ n s, I n s → wpAny (model prog w) A (pyNext it) (fun r s₁ => match r with
      | none => R (.ok .next) s₁
      | some v => wpAny (model prog w) A (assign target env v) (fun _ s₂ => wpAny (model prog w) A (execs body env) (fun f s₃ => match f with
          | .next | .cont => ∃ m, m < n ∧ I m s₃
          | .brk => R (.ok .next) s₃
          | .ret v => R (.ok (.ret v)) s₃) No s₂) No s₁) No s)
    (n : Nat) (h : I n s) (ht : ∀ v, letOwnedTupleGo target it v = pure ()) : codeAny (model prog w) A (.forLoop target it body [] env) R s := by
  refine codeAny_forLoop I (fun n s hI => wpAny_mono (turn n s hI) (fun r s₁ h₁ => ?_) fun _ _ e => e.elim) n h ht
  cases r with
  | none => exact wpAny_execs_nil h₁
  | some v => exact wpAny_mono h₁ (fun _ s₂ h₂ => wpAny_mono h₂ (fun _ _ x => x) fun _ _ e => e.elim) fun _ _ e => e.elim

noncomputable def forF (st : List Slot → PV → Option (List Slot)) (g : List Slot → Option SOut) : List Slot → List PV → Option SOut
  | ρ, [] => some (.go ρ)
  | ρ, d :: ds => (st ρ d).bind fun ρ₁ => (g ρ₁).bind fun | .go ρ' => forF st g ρ' ds | .ret d => some (.ret d)

section
variable {prog : Program} {w : World} {G : Heap} {n : Nat} {F : Fm}

theorem ItIn.grow {A : Around} {X X' : Addr → Prop} {h h' : Heap} {I : Addr} {fp : List Addr} {P : Nat → Value → Prop} {St : Nat → Heap → Prop} {ds : List PV} {i : Nat} (t : ItIn prog w A X h I fp P St ds i) (g : Gro X X' h) (k : Gr X' h h') (e : ∀ o, h.get? I = some o → h'.get? I = some o)
    (hfp : ∀ b ∈ fp, ∃ o, h.get? b = some o) : ItIn prog w A X' h' I fp P St ds i := by
  have off : ∀ b ∈ fp, b = I ∨ ¬ X' b := fun b hb => by
    rcases t.off b hb with q | q
    · exact .inl q
    · refine .inr fun z => (g.2 b z).elim q fun z => ?_
      obtain ⟨o, eo⟩ := hfp b hb
      rw [eo] at z; cases z
  exact {
    walks := t.walks
    st := t.walks.frame _ _ _ t.st fun b hb o eb => by
      rcases off b hb with rfl | q
      · exact e o eb
      · exact k b o q eb
    off := off
    ob := t.ob
    item := fun j v hj hP => let ⟨d, hd, hI⟩ := t.item j v hj hP; ⟨d, hd, (hI.avoid fun b hb => g.2 b hb).gr k⟩ }

theorem ex_for {tgt iter : Expr} {body : List Stmt} {pos : Pos} {st : List Slot → PV → Option (List Slot)} {f : List Slot → Option (List PV)} {g : List Slot → Option SOut}
    (hit : Itr prog w G n F iter f) (ht : Tg prog w G n F tgt st) (hb : Exs prog w G n F body g) (hgo : ∀ it v, letOwnedTupleGo tgt it v = pure () := by intro _ _; rfl) (hfs : ∀ env x, foldedSetIterable iter env x = pure x := by intro _ _; rfl) :
    Ex prog w G n F (.For tgt iter body [] pos) (fun ρ => (f ρ).bind fun ds => forF st g ρ ds) := by
  intro env h₀ X₀ X W ρ A s o R K hX hX₀ hf
  obtain ⟨ds, hds, hf⟩ := Option.bind_eq_some_iff.mp hf
  refine wpAny_For (hs := hfs env) ?_
  refine hit env h₀ X W ρ A s ds _ R K hds fun I fp P St h₂ tk₂ it g₂ I₂ => ?_
  obtain ⟨alI, nrI⟩ := it.ob _ _ it.st
  have nX : ¬ X I := K.xok.fresh it.new
  have alX : ∀ b, (X b ∨ b = I) → ∃ o, h₂.get? b = some o := fun b hb => hb.elim ((K.gr g₂ I₂).al b) fun q => q ▸ alI
  have K₂ : Ok prog w G F env h₀ (fun b => X b ∨ b = I) W ρ h₂ := K.more g₂ I₂ (fun b q => .inl q) (fun b q => q.imp id fun z => by rw [z]; exact it.new) alX
  have nT : ¬ isTab I := fun t => nX (K.tx _ t)
  have n0 : h₀.get? I = none := by
    cases e : h₀.get? I with
    | none => rfl
    | some o => have := K.kp _ _ nT e; rw [it.new] at this; cases this
  have nc : ∀ n c, env.cells.lookup n = some c → c ≠ I := fun n c hc q => by obtain ⟨o, e⟩ := K.ca n c hc; rw [q, it.new] at e; cases e
  have T₂ : ItIn prog w A (fun b => X b ∨ b = I) h₂ I fp P St ds 0 := by
    refine ⟨it.walks, it.st, fun b hb => ?_, it.ob, fun j v hj hP => ?_⟩
    · rcases it.off b hb with q | q
      · exact .inl q
      · by_cases e : b = I
        · exact .inl e
        · exact .inr fun z => z.elim q e
    · obtain ⟨dd, hdd, hII⟩ := it.item j v hj hP
      exact ⟨dd, hdd, hII _ h₂ (fun b q => q) (Gr.refl _ _)⟩
  refine codeAny_mono (R := fun r s' => ∃ fl, r = .ok fl ∧ SP prog w G F env h₀ X₀ X W s o fl s') ?_ (fun r s' hr => by obtain ⟨fl, rfl, hr⟩ := hr; exact hr)
  refine forLoopNo (fun m s' => ∃ i ρ' X' W' h' tk', s' = { s with heap := h', toks := tk' } ∧ m + i = ds.length ∧ Ok prog w G F env h₀ X' W' ρ' h' ∧ X' I ∧ ¬ W' I ∧ Gro X X' s.heap ∧ Gro W W' s.heap ∧ ItIn prog w A X' h' I fp P St ds i ∧ (∀ b ∈ fp, ∃ o, h'.get? b = some o) ∧
    forF st g ρ' (ds.drop i) = some o ∧ KeptS W s.heap h' ∧ Older s.heap h') (fun m s' hI => ?_) ds.length ⟨0, ρ, _, W, h₂, tk₂, rfl, rfl, K₂, .inr rfl, fun q => nX (K.wx _ q), ⟨fun b q => .inl q, fun b q => q.imp id fun z => by rw [z]; exact it.new⟩, Gro.refl _ _, T₂, it.fpa, hf, KeptS.of_gr g₂, Older.of_gr g₂ I₂⟩ (hgo _)
  obtain ⟨i, ρ', X', W', h', tk', rfl, hmi, K', xI, wI, gX, gW, T', hfp, hl, kk, old⟩ := hI
  have oI : Off X' W' h₀ env I := ⟨xI, wI, nT, n0, nc⟩
  obtain ⟨⟨oI₀, hoI⟩, hrec⟩ := T'.ob _ _ T'.st
  by_cases hlt : i < ds.length
  · refine T'.walks.item i _ _ _ hlt T'.st fun v h₃ tk₃ hP hst hk => ?_
    have k : ∀ b o, b ≠ I → h'.get? b = some o → h₃.get? b = some o := fun b o hb e => hk b o (by simpa using hb) e
    have K₃ : Ok prog w G F env h₀ X' W' ρ' h₃ := K'.off (K'.inv.keep1 k (oI.nG K') oI.t hrec) k oI.x (T'.ob _ _ hst).1 oI.w oI.n (oI.nl K') oI.c
    have gX₃ : Gr X' h' h₃ := fun b o hb e => k b o (fun q => hb (q ▸ xI)) e
    have T₃ : ItIn prog w A X' h₃ I fp P St ds (i + 1) := { T' with st := hst, item := fun j u hj hu => let ⟨d, hd, hI⟩ := T'.item j u hj hu; ⟨d, hd, hI.gr gX₃⟩ }
    have al₃ : ∀ b, (∃ o, h'.get? b = some o) → ∃ o, h₃.get? b = some o := fun b ⟨o, e⟩ => by
      by_cases q : b = I
      · rw [q]; exact (T'.ob _ _ hst).1
      · exact ⟨o, k b o q e⟩
    have kk₃ : KeptS W s.heap h₃ := fun b o n1 n2 e => k b o (fun q => by rw [q, it.new] at e; cases e) (kk b o n1 n2 e)
    obtain ⟨d, hd, hI⟩ := T'.item i v hlt hP
    have hI₃ := hI.gr gX₃
    obtain ⟨hlt', hde⟩ := List.getElem?_eq_some_iff.mp hd
    rw [List.drop_eq_getElem_cons hlt', hde] at hl
    unfold forF at hl
    obtain ⟨ρ₁, hρ₁, hl⟩ := Option.bind_eq_some_iff.mp hl
    obtain ⟨o₁, ho₁, hl⟩ := Option.bind_eq_some_iff.mp hl
    refine wpAny_mono (ht env h₀ X' W' ρ' A _ v d ρ₁ R K₃ hI₃ hρ₁) (fun _ s₄ hs₄ => ?_) fun _ _ e => e
    obtain ⟨h₄, tk₄, rfl, K₄, k₄⟩ := hs₄
    refine wpAny_mono (hb env h₀ X₀ X' W' ρ₁ A _ o₁ R K₄ (fun b q => gX.1 b (hX b q)) hX₀ ho₁) (fun fl s₅ hs₅ => ?_) fun _ _ e => e
    obtain ⟨h₅, tk₅, rfl, k₅, old₅, hs₅⟩ := hs₅
    have k₃₅ : KeptS W' h₃ h₅ := k₄.trans k₅
    have al₄ : ∀ b, ¬ W' b → ¬ isTab b → (∃ o, h₃.get? b = some o) → ∃ o, h₄.get? b = some o := fun b n1 n2 ⟨o, e⟩ => ⟨o, k₄ b o n1 n2 e⟩
    have o₃₄ : Older h₃ h₄ := older_ok K₃ K₄ k₄ fun _ q => q
    have old' : Older s.heap h₅ := fun b e => by
      have e₃ : h₃.get? b = none := o₃₄ b (old₅ b e)
      cases q : h'.get? b with
      | none => exact old b q
      | some o => obtain ⟨o', e'⟩ := al₃ b ⟨o, q⟩; rw [e₃] at e'; cases e'
    have kk₅ : KeptS W s.heap h₅ := fun b o n1 n2 e => k₃₅ b o (fun q => (gW.2 b q).elim n1 fun z => by rw [e] at z; cases z) n2 (kk₃ b o n1 n2 e)
    cases o₁ with
    | ret d' =>
      cases hl
      obtain ⟨u, rfl, r⟩ := hs₅
      exact ⟨.ret u, rfl, h₅, tk₅, rfl, kk₅, old', u, rfl, r⟩
    | go ρ₂ =>
      obtain ⟨rfl, X₅, W₅, K₅, gX₅, gW₅⟩ := hs₅
      have alI₄ : ∃ o, h₄.get? I = some o := al₄ I wI nT (T'.ob _ _ hst).1
      have oldS : Older s.heap h₄ := fun b e => by
        have e₃ : h₃.get? b = none := o₃₄ b e
        cases q : h'.get? b with
        | none => exact old b q
        | some o => obtain ⟨o', e'⟩ := al₃ b ⟨o, q⟩; rw [e₃] at e'; cases e'
      have gX' : Gro X' X₅ h₃ := ⟨gX₅.1, fun b q => (gX₅.2 b q).imp id fun z => o₃₄ b z⟩
      refine ⟨m - 1, by omega, i + 1, ρ₂, X₅, W₅, h₅, tk₅, rfl, by omega, K₅, gX₅.1 _ xI, fun q => ?_, gX.trans gX₅ oldS, gW.trans gW₅ oldS, T₃.grow gX' ?_ ?_ fun b hb => al₃ b (hfp b hb), fun b hb => ?_, hl, kk₅, old'⟩
      · rcases gW₅.2 _ q with z | z
        · exact wI z
        · obtain ⟨o, e⟩ := alI₄; rw [e] at z; cases z
      · exact fun b o q e => k₃₅ b o (fun z => q (gX₅.1 b (K₃.wx b z))) (fun z => q (K₅.tx b z)) e
      · exact fun o e => k₃₅ I o wI nT e
      · obtain ⟨o, e⟩ := al₃ b (hfp b hb)
        cases q : h₅.get? b with
        | some o' => exact ⟨o', rfl⟩
        | none => have := o₃₄ b (old₅ b q); rw [e] at this; cases this
  · have hi' : i = ds.length := by omega
    refine T'.walks.done _ _ _ (hi' ▸ T'.st) fun h₃ tk₃ hk => ?_
    have k : ∀ b o, b ≠ I → h'.get? b = some o → h₃.get? b = some o := fun b o hb e => hk b o (by simpa using hb) e
    subst hi'
    rw [List.drop_length] at hl
    cases hl
    have kk₃ : KeptS W s.heap h₃ := fun b o n1 n2 e => k b o (fun q => by rw [q, it.new] at e; cases e) (kk b o n1 n2 e)
    have K₃ := K'.gone oI (K'.inv.keep1 k (oI.nG K') oI.t hrec) k
    have sub : ∀ b, X b → X' b ∧ b ≠ I := fun b q => ⟨gX.1 b q, fun z => nX (z ▸ q)⟩
    refine ⟨.next, rfl, h₃, tk₃, rfl, kk₃, fun b e => ?_, rfl, _, W', K₃, ⟨sub, fun b q => gX.2 b q.1⟩, gW⟩
    by_cases q : b = I
    · rw [q]; exact it.new
    · cases z : h'.get? b with
      | none => exact old b z
      | some o' => have := k b o' q z; rw [e] at this; cases this
end
end Mine

namespace Mine
open PySem PySem.Spec PySem.Calls PyProof.Rows PySem.W

theorem bindL_other {k : Str → Option NameKind} : ∀ {binds : List (Str × Value)} {m : Str → Option Value} {x : Str}, (∀ y ∈ binds, y.1 ≠ x) → bindL k binds m x = m x
  | [], _, _, _ => rfl
  | (n, v) :: r, m, x, h => by
    unfold bindL
    rw [bindL_other fun y hy => h y (List.mem_cons_of_mem _ hy)]
    split
    · have : x ≠ n := fun q => h (n, v) List.mem_cons_self q.symm
      simp [this]
    · rfl
theorem bindC_other {k : Str → Option NameKind} : ∀ {binds : List (Str × Value)} {m : Str → Option Value} {x : Str}, (∀ y ∈ binds, y.1 ≠ x) → bindC k binds m x = m x
  | [], _, _, _ => rfl
  | (n, v) :: r, m, x, h => by
    unfold bindC
    rw [bindC_other fun y hy => h y (List.mem_cons_of_mem _ hy)]
    split
    · rfl
    · have : x ≠ n := fun q => h (n, v) List.mem_cons_self q.symm
      simp [this]
theorem bindL_mem {k : Str → Option NameKind} : ∀ {binds : List (Str × Value)} {m : Str → Option Value} {x : Str} {v : Value}, (binds.map (·.1)).Nodup → (x, v) ∈ binds → k x = some .local → bindL k binds m x = some v
  | (n, u) :: r, m, x, v, hd, hm, hk => by
    rw [List.map_cons, List.nodup_cons] at hd
    unfold bindL
    rcases List.mem_cons.mp hm with e | hm
    · cases e
      rw [bindL_other fun y hy q => hd.1 (List.mem_map.mpr ⟨y, hy, q⟩), if_pos hk, if_pos rfl]
    · exact bindL_mem hd.2 hm hk
theorem bindC_mem {k : Str → Option NameKind} : ∀ {binds : List (Str × Value)} {m : Str → Option Value} {x : Str} {v : Value}, (binds.map (·.1)).Nodup → (x, v) ∈ binds → k x ≠ some .local → bindC k binds m x = some v
  | (n, u) :: r, m, x, v, hd, hm, hk => by
    rw [List.map_cons, List.nodup_cons] at hd
    unfold bindC
    rcases List.mem_cons.mp hm with e | hm
    · cases e
      rw [bindC_other fun y hy q => hd.1 (List.mem_map.mpr ⟨y, hy, q⟩), if_neg hk, if_pos rfl]
    · exact bindC_mem hd.2 hm hk

/-- the frame of a def -/
structure DefFm (F : Fm) (scope : Scope) (params : List Str) : Prop where
  fn : scope.kind = .function
  gl : ∀ x ∈ F.gl, scope.names.lookup x = some .globalImplicit
  sto : ∀ x ∈ F.sto, scope.names.lookup x = some .local ∨ (scope.names.lookup x = some .cell ∧ (x, NameKind.cell) ∈ scope.names ∧ (x == ("__classdict__" : Str)) = false)
  cel : ∀ x ∈ F.cel, (x == ("__classdict__" : Str)) = false ∧ scope.names.lookup x = some .cell ∧ (x, NameKind.cell) ∈ scope.names
  nd : F.names.Nodup
  pa : ∃ r, F.names = params ++ r
  pk : ∀ x ∈ params, scope.names.lookup x = some .local ∨ (scope.names.lookup x = some .cell ∧ (x, NameKind.cell) ∈ scope.names ∧ (x == ("__classdict__" : Str)) = false)

theorem zip_get {α β : Type} : ∀ {l : List α} {r : List β} {i : Nat} {a : α} {b : β}, l[i]? = some a → r[i]? = some b → (a, b) ∈ l.zip r
  | x :: l, y :: r, 0, a, b, h, h' => by simp at h h'; subst h; subst h'; simp
  | x :: l, y :: r, i + 1, a, b, h, h' => by
    rw [List.zip_cons_cons]
    exact List.mem_cons_of_mem _ (zip_get (by simpa using h) (by simpa using h'))

section
variable {prog : Program} {w : World} {G : Heap} {n : Nat} {F : Fm} {mg mb : Str → Option Value}

theorem enter_code (T : GT G mg mb) {A : Around} {s : Shared} {X : Addr → Prop} {a : Addr} {o : Obj} {fd : FuncData} {body : List Stmt} {params : List Str} {vs : List Value} {ds : List PV} {r : Nat} {Q : Value → Shared → Prop}
    (ho : G.get? a = some o) (hdata : o.data = .func fd) (hcd : G.CodeRec fd.code fd.qualname) (hbody : fd.body = .stmts body) (hclo : fd.closure = []) (hglob : fd.globals = mainGlobals) (hblt : fd.builtins = builtinsNs)
    (hF : DefFm F fd.scope params) (hbind : ∀ vs : List Value, vs.length = params.length → bindArgs fd ⟨vs, []⟩ = pure (params.zip vs))
    (R : Room (n + 1) A) (I : Inv G s.heap) (x : XOk X s.heap) (ha : IsAll prog w X s.heap vs ds) (hlen : ds.length = params.length)
    (h : ∀ env h₁ tk₁ X' W', Ok prog w G F env s.heap X' W' (ds.map Slot.val ++ List.replicate r .no) h₁ → (∀ b, X b → X' b) → env.code = fd.code → env.qual = fd.qualname ++ ".<locals>." →
      wpAny (model prog w) (A.deeper env) (execs body env) (fun fl s' => Q (match fl with | .ret v => v | _ => .none) s') No { s with heap := h₁, toks := tk₁ })
    (hco : fd.scope.isCoroutine = false := by rfl) (hgen : fd.scope.isGenerator = false := by rfl) : codeAny (model prog w) A (.call (.ref a) ⟨vs, []⟩) (fun r s' => match r with | .ok (.ret v) => Q v s' | .ok _ => False | .error e => No e s') s := by
  have hvl : vs.length = params.length := ha.length.trans hlen
  obtain ⟨rest, hnames⟩ := hF.pa
  have hcd' : s.heap.CodeRec fd.code fd.qualname := let ⟨c, oc, vs', t, e1, e2, e3⟩ := hcd; ⟨c, oc, vs', t, e1, I.keep _ _ e2, e3⟩
  have hzip : ∀ y ∈ params.zip vs, y.1 ∈ params := fun y hy => (List.of_mem_zip hy).1
  have hpn : (params.zip vs).map (·.1) = params := by rw [List.map_fst_zip]; omega
  have hpnd : params.Nodup := by
    have := hF.nd
    rw [hnames] at this
    exact (List.nodup_append.mp this).1
  refine codeAny_call_cells R.depth (I.keep _ _ ho) hdata (T.nolimit.keeps fun b o e => I.keep b o e) hcd' hbody (hbind vs hvl) hclo (fun y hy => ?_) (fun s₁ hC => ?_) hco hgen hF.fn
  · rcases hF.pk y.1 (hzip y hy) with h | ⟨h, hm, _⟩
    · exact .inl h
    · refine .inr ⟨h, ?_⟩
      obtain ⟨c, hc⟩ := cellsFrom_some (n := s.heap.objs.size + 1) (acc := []) (.inl hm)
      rw [hc]; rfl
  · generalize hce : callEnvC fd s.heap.objs.size a = cenv at *
    have hcode : cenv.code = fd.code := by rw [← hce]; rfl
    have hqual : cenv.qual = fd.qualname ++ ".<locals>." := by rw [← hce]; rfl
    have loc : cenv.locals = s.heap.objs.size := by rw [← hce]; rfl
    have kof : ∀ x, cenv.kindOf x = fd.scope.names.lookup x := fun x => by rw [← hce]; rfl
    have cells : cenv.cells = cellsFrom (s.heap.objs.size + 1) fd.scope.names [] := by rw [← hce]; rfl
    obtain ⟨h₁, tk₁, rfl, kp⟩ := hC.done
    have alC : ∀ n c, cenv.cells.lookup n = some c → ∃ o, h₁.get? c = some o := fun n c hc => (hC.cell n c hc).imp fun _ q => q.1
    have abC : ∀ n c, cenv.cells.lookup n = some c → s.heap.objs.size < c := fun n c hc => loc ▸ hC.above n c (lookup_mem hc)
    have nw : ∀ b, s.heap.objs.size ≤ b → s.heap.get? b = none := fun b hb => by
      cases e : s.heap.get? b with
      | none => rfl
      | some o => exact absurd (Heap.lt_size e) (Nat.not_lt.mpr hb)
    have tl : ∀ b, isTab b → b < s.heap.objs.size := fun b t => let ⟨ps, e⟩ := I.tabAlive t; Heap.lt_size e
    have lkc : ∀ x, (x, NameKind.cell) ∈ fd.scope.names → ∃ c, cenv.cells.lookup x = some c := fun x hx => by
      rw [cells]; exact cellsFrom_some (.inl hx)
    have K : Ok prog w G F cenv s.heap (fun b => X b ∨ (s.heap.objs.size ≤ b ∧ ∃ o, h₁.get? b = some o)) (fun b => s.heap.objs.size ≤ b ∧ ∃ o, h₁.get? b = some o) (ds.map Slot.val ++ List.replicate r .no) h₁ := {
      base := I, inv := I.gr_keep kp, kp := Gr.of kp
      kind := by rw [← hce]; exact hF.fn
      glob := by rw [← hce]; exact hglob
      blt := by rw [← hce]; exact hblt
      gl := fun x hx => by rw [kof]; exact hF.gl x hx
      ns := ⟨_, hC.toInCall.ns⟩
      wl := by rw [loc]; exact ⟨Nat.le_refl _, by have := hC.toInCall.ns; rw [loc] at this; obtain ⟨o, es, ep, e, _⟩ := this; exact ⟨o, e⟩⟩
      wx := fun b hb => .inr hb
      tx := fun b hb => .inl (x.tx b hb)
      wf := fun b hb => nw b hb.1
      al := fun b hb => hb.elim (fun q => let ⟨o, e⟩ := x.al b q; ⟨o, kp b o e⟩) fun q => q.2
      ap := fun x y c e e' => name_of_addr hC.apart (lookup_mem e) (lookup_mem e')
      cl := fun x c e => ⟨by rw [loc]; exact Nat.ne_of_gt (abC x c e), fun t => Nat.lt_irrefl _ (Nat.lt_trans (tl c t) (abC x c e))⟩
      ca := alC
      ce := fun x hx => let ⟨h1, h2, h3⟩ := hF.cel x hx; ⟨h1, .inl (by rw [kof]; exact h2), lkc x h3⟩
      st := fun x hx => by
        rcases hF.sto x hx with h | ⟨h, hm, hd⟩
        · exact .inl (by rw [kof]; exact h)
        · obtain ⟨c, hc⟩ := lkc x hm
          exact .inr ⟨by rw [kof]; exact h, hd, c, _, hc, ⟨Nat.le_of_lt (abC x c hc), alC x c hc⟩, hC.cell x c hc⟩
      nd := hF.nd
      sl := fun i d hi => by
        have hi' : (ds.map Slot.val)[i]? = some (.val d) := by
          rw [List.getElem?_append] at hi
          split at hi
          · exact hi
          · rw [List.getElem?_replicate] at hi
            split at hi <;> cases hi
        rw [List.getElem?_map] at hi'
        obtain ⟨d', hd', e⟩ := Option.map_eq_some_iff.mp hi'
        cases e
        obtain ⟨v, hv, hI⟩ := ha.getd hd'
        have hil : i < params.length := by
          obtain ⟨q, _⟩ := List.getElem?_eq_some_iff.mp hd'
          omega
        have hpx : params[i]? = some params[i] := List.getElem?_eq_getElem hil
        have hmem : (params[i], v) ∈ params.zip vs := zip_get hpx hv
        refine ⟨params[i], v, by rw [hnames, List.getElem?_append_left hil]; exact hpx, ?_, (hI.avoid fun b hb => hb.imp id fun q => nw b q.1).gr (Gr.of kp)⟩
        rcases hF.pk _ (List.getElem_mem hil) with h | ⟨h, hm, hd⟩
        · refine .inl ⟨by rw [kof]; exact h, _, hC.toInCall.ns, ?_⟩
          exact bindL_mem (by rw [hpn]; exact hpnd) hmem (by rw [kof]; exact h)
        · obtain ⟨c, hc⟩ := lkc _ hm
          refine .inr ⟨.inl (by rw [kof]; exact h), hd, c, hc, ?_⟩
          have := hC.cell _ c hc
          rwa [bindC_mem (by rw [hpn]; exact hpnd) hmem (by rw [kof, h]; decide)] at this
      oT := fun i l hi => by
        rw [List.getElem?_append] at hi
        split at hi
        · rw [List.getElem?_map] at hi
          obtain ⟨d', hd', e⟩ := Option.map_eq_some_iff.mp hi
          cases e
        · rw [List.getElem?_replicate] at hi
          split at hi <;> cases hi
      oI := fun i l hi => by
        rw [List.getElem?_append] at hi
        split at hi
        · rw [List.getElem?_map] at hi
          obtain ⟨d', hd', e⟩ := Option.map_eq_some_iff.mp hi
          cases e
        · rw [List.getElem?_replicate] at hi
          split at hi <;> cases hi }
    exact wpAny_mono (h cenv h₁ tk₁ _ _ K (fun b q => .inl q) hcode hqual) (fun fl s' hq => by cases fl <;> exact hq) fun _ _ e => e.elim

theorem enter_def (T : GT G mg mb) {A : Around} {s : Shared} {X : Addr → Prop} {a : Addr} {o : Obj} {fd : FuncData} {body : List Stmt} {params : List Str} {vs : List Value} {ds : List PV} {r : Nat} {Q : Value → Shared → Prop}
    (ho : G.get? a = some o) (hdata : o.data = .func fd) (hcd : G.CodeRec fd.code fd.qualname) (hbody : fd.body = .stmts body) (hclo : fd.closure = []) (hglob : fd.globals = mainGlobals) (hblt : fd.builtins = builtinsNs)
    (hF : DefFm F fd.scope params) (hbind : ∀ vs : List Value, vs.length = params.length → bindArgs fd ⟨vs, []⟩ = pure (params.zip vs))
    (R : Room (n + 1) A) (I : Inv G s.heap) (x : XOk X s.heap) (ha : IsAll prog w X s.heap vs ds) (hlen : ds.length = params.length)
    (h : ∀ env h₁ tk₁ X' W', Ok prog w G F env s.heap X' W' (ds.map Slot.val ++ List.replicate r .no) h₁ → (∀ b, X b → X' b) → env.code = fd.code → env.qual = fd.qualname ++ ".<locals>." →
      wpAny (model prog w) (A.deeper env) (execs body env) (fun fl s' => Q (match fl with | .ret v => v | _ => .none) s') No { s with heap := h₁, toks := tk₁ })
    (hco : fd.scope.isCoroutine = false := by rfl) (hgen : fd.scope.isGenerator = false := by rfl) : wpAny (model prog w) A (call (.ref a) vs) Q No s :=
  wpAny_call (enter_code T ho hdata hcd hbody hclo hglob hblt hF hbind R I x ha hlen h hco hgen)

noncomputable def outV : SOut → PV
  | .ret d => d
  | .go _ => .none

theorem fn_def (T : GT G mg mb) {a : Addr} {o : Obj} {fd : FuncData} {body : List Stmt} {params : List Str} {f : List Slot → Option SOut} {r : Nat}
    (ho : G.get? a = some o) (hdata : o.data = .func fd) (hcd : G.CodeRec fd.code fd.qualname) (hbody : fd.body = .stmts body) (hclo : fd.closure = []) (hglob : fd.globals = mainGlobals) (hblt : fd.builtins = builtinsNs)
    (hF : DefFm F fd.scope params) (hbind : ∀ vs : List Value, vs.length = params.length → bindArgs fd ⟨vs, []⟩ = pure (params.zip vs)) (hB : Exs prog w G n F body f)
    (hco : fd.scope.isCoroutine = false := by rfl) (hgen : fd.scope.isGenerator = false := by rfl) :
    Fn prog w G (n + 1) (.ref a) (fun ds => if ds.length = params.length then (f (ds.map Slot.val ++ List.replicate r .no)).bind fun o => some (outV o) else none) := by
  intro X A s vs ds d R I x ha hf
  dsimp only at hf
  split at hf
  case isFalse => cases hf
  rename_i hlen
  obtain ⟨out, hout, hf⟩ := Option.bind_eq_some_iff.mp hf
  cases hf
  refine enter_def (r := r) T ho hdata hcd hbody hclo hglob hblt hF hbind R I x ha hlen (fun env h₁ tk₁ X' W' K sub _ _ => ?_) hco hgen
  refine wpAny_mono (hB env s.heap X _ _ _ _ _ out (R.deeper env) K sub x hout) (fun fl s₂ hs₂ => ?_) fun _ _ e => e.elim
  obtain ⟨h₂, tk₂, rfl, k₂, ol₂, hs₂⟩ := hs₂
  cases out with
  | ret d =>
    obtain ⟨v, rfl, I₂, g₂, hI⟩ := hs₂
    exact ⟨h₂, tk₂, rfl, g₂, I₂, hI⟩
  | go ρ' =>
    obtain ⟨rfl, X', W', K', _, _⟩ := hs₂
    exact ⟨h₂, tk₂, rfl, K'.kp, K'.inv, .none⟩
end
end Mine

namespace Mine
open PySem PySem.Spec PySem.Calls PyProof.Rows PySem.W

noncomputable def bodyOf : Stmt → List Stmt
  | .FunctionDef _ _ b _ _ _ _ _ _ _ => b
  | _ => []
noncomputable def theBody (i : Nat) : List Stmt := bodyOf (PySem.Challenge.pw_gb0001_01.main.body.getD i (.Pass ⟨0, 0, 0, 0⟩))

/-- a def of the top, as the calls see it -/
structure Callee (prog : Program) (w : World) (G : Heap) (mg mb : Str → Option Value) (x : Str) (k : Nat) (φ : List PV → Option PV) : Prop where
  ex : ∃ a o fd, Glo mg mb x (.ref a) ∧ G.get? a = some o ∧ o.data = .func fd ∧ Fn prog w G k (.ref a) φ
structure Blts (mg mb : Str → Option Value) : Prop where
  len : Glo mg mb "len" (.builtin "len")
  abs : Glo mg mb "abs" (.builtin "abs")
  list : Glo mg mb "list" (.type "list")
  tuple : Glo mg mb "tuple" (.type "tuple")
  range : Glo mg mb "range" (.type "range")
  dict : Glo mg mb "dict" (.type "dict")
  sorted : Glo mg mb "sorted" (.builtin "sorted")

section
variable {prog : Program} {w : World} {G : Heap} {n : Nat} {F : Fm} {mg mb : Str → Option Value}
theorem ev_callc (T : GT G mg mb) {x : Str} {p pos : Pos} {e : Expr} {es : List Expr} {k : Nat} {φ : List PV → Option PV} {g : List Slot → Option (List PV)}
    (hc : Callee prog w G mg mb x k φ) (hx : x ∈ F.gl) (hk : k ≤ n) (hs : Evs prog w G n F (e :: es) g)
    (hd : (x == ("__debug__" : Str)) = false := by decide) (he : ∀ env, starEach (e :: es) env = (false, eval e env) :: starEach es env := by intro _; rfl) :
    Ev prog w G n F (.Call (.Name x p) (e :: es) [] pos) (fun ρ => (g ρ).bind φ) := by
  obtain ⟨a, o, fd, h1, h2, h3, h4⟩ := hc.ex
  exact ev_calldef T h4 hx h1 h2 h3 hk hs hd he

noncomputable def fmClosed : Fm := ⟨["lot", "found", "turn"], ["lot", "found", "turn"], ["list", "range"], ["found"]⟩
noncomputable def fmC1 : Fm := ⟨["a", "b", "found"], ["a", "b"], ["_law_third"], ["found"]⟩
noncomputable def fmC2 : Fm := ⟨["point", "found"], ["point"], [], ["found"]⟩

noncomputable def forBody : Stmt → List Stmt
  | .For _ _ b _ _ => b
  | _ => []
/-- one turn of _law_closed -/
noncomputable def closeB (T : GT G mg mb) (B : Blts mg mb) {φ3 : List PV → Option PV} (C3 : Callee prog w G mg mb "_law_third" 8 φ3) : {f : List Slot → Option SOut // Exs prog w G 8 fmClosed (forBody ((theBody 9).getD 1 (.Pass ⟨0, 0, 0, 0⟩))) f} := by
  apply Subtype.mk
  case property =>
    dsimp only [forBody, theBody, bodyOf, PySem.Challenge.pw_gb0001_01, List.getD, List.getElem?_cons_succ, List.getElem?_cons_zero, Option.getD_some]
    apply exs_cons
    case h1 =>
      apply ex_assign (i := 1) (by rfl) (by decide) (hs := .inl (by decide))
      apply ev_binop (ev_name (i := 1) (by rfl) (by decide)) (ho := op_add)
      apply ev_comp (F' := fmC1) (pass := [none, none, some 1])
      case hF => constructor <;> decide
      case hit => exact itr_val (ev_name (i := 1) (by rfl) (by decide))
      case hcl =>
        apply cl_mid (slot := 0) (by rfl) (by rfl) (by rfl) (by decide) tsi_nil (itr_val (ev_name (i := 2) (by rfl) (by decide)))
        apply cl_end (slot := 1) (by rfl) (by rfl) (by rfl) (by decide) (tsi_one (ts_cmp (ev_name (i := 0) (by rfl) (by decide)) (ev_name (i := 1) (by rfl) (by decide)) cmp_ne))
        exact ev_callc T C3 (by decide) (by decide) (evs_cons (ev_name (i := 0) (by rfl) (by decide)) (evs_cons (ev_name (i := 1) (by rfl) (by decide)) evs_nil))
    case h2 =>
      apply exs_cons (h2 := exs_nil)
      apply ex_assign (i := 1) (by rfl) (by decide) (hs := .inl (by decide))
      apply ev_comp (F' := fmC2) (pass := [none, some 1])
      case hF => constructor <;> decide
      case hit => exact itr_range T (by decide) B.range (evs_cons ev_int (evs_cons ev_int evs_nil))
      case hcl =>
        apply cl_end (slot := 0) (by rfl) (by rfl) (by rfl) (by decide) (tsi_one (ts_cmp (ev_name (i := 0) (by rfl) (by decide)) (ev_name (i := 1) (by rfl) (by decide)) cmp_in))
        exact ev_name (i := 0) (by rfl) (by decide)
noncomputable def closedR (T : GT G mg mb) (B : Blts mg mb) {φ3 : List PV → Option PV} (C3 : Callee prog w G mg mb "_law_third" 8 φ3) : {f : List Slot → Option SOut // Exs prog w G 8 fmClosed (theBody 9) f} := by
  apply Subtype.mk
  case property =>
    dsimp only [theBody, bodyOf, PySem.Challenge.pw_gb0001_01, List.getD, List.getElem?_cons_succ, List.getElem?_cons_zero, Option.getD_some]
    apply exs_cons (ex_assign (i := 1) (by rfl) (by decide) (ev_calltype T fn_list (by decide) B.list (by decide) (evs_cons (ev_name (i := 0) (by rfl) (by decide)) evs_nil)) (.inl (by decide)))
    apply exs_cons
    case h1 => exact ex_for (itr_range T (by decide) B.range (evs_cons ev_int evs_nil)) (tg_name (i := 2) (by rfl) (by decide)) (closeB T B C3).2
    case h2 => exact exs_cons (ex_ret (ev_name (i := 1) (by rfl) (by decide))) exs_nil
end
end Mine

namespace Mine
open PySem PySem.Spec PySem.Calls PyProof.Rows PySem.W

theorem swapped_cell {x y : Str} {px py tp p' : Pos} {k k' : Nat} {v1 v2 : Expr} {env : Env} (hx : env.kindOf x = some .cell ∨ env.kindOf x = some .free) (hy : env.kindOf y = some .cell ∨ env.kindOf y = some .free) :
    swappedStores [.Tuple [.Name x px, .Name y py] k tp] (.Tuple [v1, v2] k' p') env = pure none := by
  have ex : (env.kindOf x == some NameKind.local) = false := by rcases hx with q | q <;> rw [q] <;> rfl
  have ey : (env.kindOf y == some NameKind.local) = false := by rcases hy with q | q <;> rw [q] <;> rfl
  unfold swappedStores
  dsimp only
  split
  · rfl
  · split
    · rfl
    · simp only [List.filterMap_cons, List.filterMap_nil, ex, ey, Bool.false_and]
      rfl

section
variable {prog : Program} {w : World} {G : Heap} {n : Nat} {F : Fm} {mg mb : Str → Option Value}

noncomputable def fmFig : Fm := ⟨["number"], [], ["_int2digits"], []⟩
noncomputable def figR (T : GT G mg mb) (B : Blts mg mb) {φ : List PV → Option PV} (C : Callee prog w G mg mb "_int2digits" 6 φ) : {f : List Slot → Option SOut // Exs prog w G 6 fmFig (theBody 7) f} := by
  apply Subtype.mk
  case property =>
    dsimp only [theBody, bodyOf, PySem.Challenge.pw_gb0001_01, List.getD, List.getElem?_cons_succ, List.getElem?_cons_zero, Option.getD_some]
    apply exs_cons (h2 := exs_nil)
    apply ex_ret
    apply ev_upto (c := 3)
    apply ev_binop (ho := op_add)
    case hl => exact ev_callc T C (by decide) (by decide) (evs_cons (ev_name (i := 0) (by rfl) (by decide)) (evs_cons ev_int evs_nil))
    case hr => exact ev_list (evs_cons ev_int (evs_cons ev_int (evs_cons ev_int evs_nil)))

noncomputable def fmThird : Fm := ⟨["one", "other", "left", "right"], ["one", "other", "left", "right"], ["_law_figures", "_digits2int", "range"], ["left", "right"]⟩
noncomputable def fmT1 : Fm := ⟨["k", "left", "right"], ["k"], [], ["left", "right"]⟩
noncomputable def thirdR (T : GT G mg mb) (B : Blts mg mb) {φ φ' : List PV → Option PV} (C : Callee prog w G mg mb "_law_figures" 7 φ) (C' : Callee prog w G mg mb "_digits2int" 6 φ') : {f : List Slot → Option SOut // Exs prog w G 7 fmThird (theBody 8) f} := by
  apply Subtype.mk
  case property =>
    dsimp only [theBody, bodyOf, PySem.Challenge.pw_gb0001_01, List.getD, List.getElem?_cons_succ, List.getElem?_cons_zero, Option.getD_some]
    apply exs_cons
    case h1 =>
      apply ex_assign2 (i := 2) (j := 3) (by rfl) (by decide) (by rfl) (by decide) (hw := fun env h₀ X W ρ h K => swapped_cell (K.ce _ (by decide)).2.1 (K.ce _ (by decide)).2.1)
      apply ev_tuple
      exact evs_cons (ev_callc T C (by decide) (by decide) (evs_cons (ev_name (i := 0) (by rfl) (by decide)) evs_nil)) (evs_cons (ev_callc T C (by decide) (by decide) (evs_cons (ev_name (i := 1) (by rfl) (by decide)) evs_nil)) evs_nil)
    case h2 =>
      apply exs_cons (h2 := exs_nil)
      apply ex_ret
      apply ev_callc T C' (by decide) (by decide)
      apply evs_cons (hs := evs_cons ev_int evs_nil)
      apply ev_comp (F' := fmT1) (pass := [none, some 2, some 3])
      case hF => constructor <;> decide
      case hit => exact itr_range T (by decide) B.range (evs_cons ev_int evs_nil)
      case hcl =>
        apply cl_end (slot := 0) (by rfl) (by rfl) (by rfl) (by decide) tsi_nil
        apply ev_binop (hr := ev_int) (ho := op_mod)
        exact ev_binop (ev_item (ev_name (i := 1) (by rfl) (by decide)) (ev_name (i := 0) (by rfl) (by decide))) (ev_item (ev_name (i := 2) (by rfl) (by decide)) (ev_name (i := 0) (by rfl) (by decide))) op_add
end
end Mine

namespace Mine
open PySem PySem.Spec PySem.Calls PyProof.Rows PySem.W

/-- the frame of a def within a def, that makes no cells -/
structure CloFm (F : Fm) (scope : Scope) (params loc fr : List Str) : Prop where
  fn : scope.kind = .function
  gl : ∀ x ∈ F.gl, scope.names.lookup x = some .globalImplicit
  sto : ∀ x ∈ F.sto, scope.names.lookup x = some .local
  cel : ∀ x ∈ F.cel, (x == ("__classdict__" : Str)) = false ∧ scope.names.lookup x = some .free
  nd : F.names.Nodup
  nm : F.names = params ++ loc ++ fr
  pk : ∀ x ∈ params, scope.names.lookup x = some .local
  fk : ∀ x ∈ fr, x ∈ F.cel
  nc : ∀ x ∈ scope.names, x.2 ≠ .cell

theorem lookup_rev {l : List (Str × Value)} (hn : (l.map (·.1)).Nodup) {x : Str} {v : Value} (hm : (x, v) ∈ l) : l.reverse.lookup x = some v := by
  have h1 : ∃ u, l.reverse.lookup x = some u := by
    cases e : l.reverse.lookup x with
    | some u => exact ⟨u, rfl⟩
    | none =>
      have := List.lookup_eq_none_iff.mp e (x, v) (List.mem_reverse.mpr hm)
      simp at this
  obtain ⟨u, hu⟩ := h1
  have hmu := List.mem_reverse.mp (mem_of_lookup hu)
  have : ∀ {l : List (Str × Value)}, (l.map (·.1)).Nodup → (x, v) ∈ l → (x, u) ∈ l → v = u := by
    intro l
    induction l with
    | nil => intro _ h; cases h
    | cons y r ih =>
      intro hd h1 h2
      rw [List.map_cons, List.nodup_cons] at hd
      rcases List.mem_cons.mp h1 with e1 | h1 <;> rcases List.mem_cons.mp h2 with e2 | h2
      · rw [← e1] at e2; exact (Prod.mk.inj e2).2.symm
      · exact absurd (List.mem_map.mpr ⟨(x, u), h2, by rw [← e1]⟩) hd.1
      · exact absurd (List.mem_map.mpr ⟨(x, v), h1, by rw [← e2]⟩) hd.1
      · exact ih hd.2 h1 h2
  rw [hu, this hn hm hmu]

section
variable {prog : Program} {w : World} {G : Heap} {n : Nat} {F : Fm} {mg mb : Str → Option Value}

theorem enter_clo (T : GT G mg mb) {A : Around} {s : Shared} {X : Addr → Prop} {a : Addr} {o : Obj} {fd : FuncData} {body : List Stmt} {params loc fr : List Str} {vs : List Value} {ds es : List PV} {Q : Value → Shared → Prop}
    (ho : G.get? a = some o) (hdata : o.data = .func fd) (hcd : s.heap.CodeRec fd.code fd.qualname) (hbody : fd.body = .stmts body) (hglob : fd.globals = mainGlobals) (hblt : fd.builtins = builtinsNs)
    (hF : CloFm F fd.scope params loc fr) (hbind : bindArgs fd ⟨vs, []⟩ = pure (params.zip vs))
    (hin : ∀ n n' c, fd.closure.lookup n = some c → fd.closure.lookup n' = some c → n = n') (hal : ∀ n c, fd.closure.lookup n = some c → ¬ isTab c ∧ ∃ o, s.heap.get? c = some o) (hfr : ∀ x ∈ F.cel, ∃ c, fd.closure.lookup x = some c)
    (hsl : ∀ (i : Nat) (d : PV), es[i]? = some d → ∃ y v c, fr[i]? = some y ∧ fd.closure.lookup y = some c ∧ s.heap.IsCell c (some v) ∧ Is prog w X s.heap v d)
    (R : Room (n + 1) A) (I : Inv G s.heap) (x : XOk X s.heap) (ha : IsAll prog w X s.heap vs ds) (hlen : ds.length = params.length)
    (h : ∀ env h₁ tk₁ X' W', Ok prog w G F env s.heap X' W' (ds.map Slot.val ++ List.replicate loc.length .no ++ es.map Slot.val) h₁ → (∀ b, X b → X' b) → (∀ b, X' b → X b ∨ s.heap.get? b = none) → Gr isTab s.heap h₁ → env.cells = fd.closure →
      wpAny (model prog w) (A.deeper env) (execs body env) (fun fl s' => Q (match fl with | .ret v => v | _ => .none) s') No { s with heap := h₁, toks := tk₁ })
    (hco : fd.scope.isCoroutine = false := by rfl) (hgen : fd.scope.isGenerator = false := by rfl) : wpAny (model prog w) A (call (.ref a) vs) Q No s := by
  have hvl : vs.length = params.length := ha.length.trans hlen
  have hpn : (params.zip vs).map (·.1) = params := by rw [List.map_fst_zip]; omega
  have hpnd : params.Nodup := by
    have := hF.nd
    rw [hF.nm, List.append_assoc] at this
    exact (List.nodup_append.mp this).1
  refine wpAny_call ?_
  refine codeAny_call_def R.depth (I.keep _ _ ho) hdata (T.nolimit.keeps fun b o e => I.keep b o e) hcd hbody (BindsTo.of_eq hbind) hF.nc (fun y hy => hF.pk y.1 (List.of_mem_zip hy).1) (fun h₁ hns kp => ?_) hco hgen hF.fn
  generalize hce : callEnv fd s.heap.objs.size a = cenv at *
  have loc' : cenv.locals = s.heap.objs.size := by rw [← hce]; rfl
  have kof : ∀ x, cenv.kindOf x = fd.scope.names.lookup x := fun x => by rw [← hce]; rfl
  have cells : cenv.cells = fd.closure := by rw [← hce]; rfl
  have nw : ∀ b, s.heap.objs.size ≤ b → s.heap.get? b = none := fun b hb => by
    cases e : s.heap.get? b with
    | none => rfl
    | some o => exact absurd (Heap.lt_size e) (Nat.not_lt.mpr hb)
  have alL : ∃ o, h₁.get? s.heap.objs.size = some o := by obtain ⟨o, es, ep, e, _⟩ := hns; exact ⟨o, e⟩
  have K : Ok prog w G F cenv s.heap (fun b => X b ∨ b = s.heap.objs.size) (fun b => b = s.heap.objs.size) (ds.map Slot.val ++ List.replicate loc.length .no ++ es.map Slot.val) h₁ := {
    base := I, inv := I.gr_keep kp, kp := Gr.of kp
    kind := by rw [← hce]; exact hF.fn
    glob := by rw [← hce]; exact hglob
    blt := by rw [← hce]; exact hblt
    gl := fun x hx => by rw [kof]; exact hF.gl x hx
    ns := ⟨_, by rw [loc']; exact hns⟩
    wl := loc'
    wx := fun b hb => .inr hb
    tx := fun b hb => .inl (x.tx b hb)
    wf := fun b hb => nw b (Nat.le_of_eq hb.symm)
    al := fun b hb => hb.elim (fun q => let ⟨o, e⟩ := x.al b q; ⟨o, kp b o e⟩) fun q => q ▸ alL
    ap := by rw [cells]; exact hin
    cl := fun n c hc => by
      rw [cells] at hc
      obtain ⟨h1, o, e⟩ := hal n c hc
      exact ⟨by rw [loc']; exact Nat.ne_of_lt (Heap.lt_size e), h1⟩
    ca := fun n c hc => by
      rw [cells] at hc
      obtain ⟨h1, o, e⟩ := hal n c hc
      exact ⟨o, kp _ _ e⟩
    ce := fun x hx => by
      obtain ⟨h1, h2⟩ := hF.cel x hx
      exact ⟨h1, .inr (by rw [kof]; exact h2), by rw [cells]; exact hfr x hx⟩
    st := fun x hx => .inl (by rw [kof]; exact hF.sto x hx)
    nd := hF.nd
    sl := fun i d hi => by
      rw [List.append_assoc, List.getElem?_append] at hi
      split at hi
      · rw [List.getElem?_map] at hi
        obtain ⟨d', hd', e⟩ := Option.map_eq_some_iff.mp hi
        cases e
        obtain ⟨v, hv, hI⟩ := ha.getd hd'
        have hil : i < params.length := by
          obtain ⟨q, _⟩ := List.getElem?_eq_some_iff.mp hd'
          omega
        have hpx : params[i]? = some params[i] := List.getElem?_eq_getElem hil
        have hmem : (params[i], v) ∈ params.zip vs := zip_get hpx hv
        refine ⟨params[i], v, by rw [hF.nm, List.append_assoc, List.getElem?_append_left hil]; exact hpx, .inl ⟨by rw [kof]; exact hF.pk _ (List.getElem_mem hil), _, by rw [loc']; exact hns, lookup_rev (by rw [hpn]; exact hpnd) hmem⟩, ?_⟩
        exact (hI.avoid fun b hb => hb.imp id fun q => nw b (Nat.le_of_eq q.symm)).gr (Gr.of kp)
      · rename_i hge
        rw [List.length_map] at hi hge
        rw [List.getElem?_append] at hi
        split at hi
        · rw [List.getElem?_replicate] at hi
          split at hi <;> cases hi
        · rename_i hge'
          rw [List.length_replicate] at hi hge'
          rw [List.getElem?_map] at hi
          obtain ⟨d', hd', e⟩ := Option.map_eq_some_iff.mp hi
          cases e
          obtain ⟨y, v, c, h1, h2, h3, h4⟩ := hsl _ _ hd'
          have hcel := hF.fk y (List.mem_of_getElem? h1)
          refine ⟨y, v, ?_, .inr ⟨.inr (by rw [kof]; exact (hF.cel y hcel).2), (hF.cel y hcel).1, c, by rw [cells]; exact h2, h3.keeps kp⟩, (h4.avoid fun b hb => hb.imp id fun q => nw b (Nat.le_of_eq q.symm)).gr (Gr.of kp)⟩
          rw [hF.nm, List.append_assoc, List.getElem?_append_right (by omega), List.getElem?_append_right (by omega), ← hlen]
          exact h1
    oT := fun i l hi => by
      have := List.mem_of_getElem? hi
      simp at this
    oI := fun i l hi => by
      have := List.mem_of_getElem? hi
      simp at this }
  exact wpAny_mono (h cenv h₁ _ _ _ K (fun b q => .inl q) (fun b q => q.imp id fun z => nw b (Nat.le_of_eq z.symm)) (Gr.of kp) cells) (fun fl s' hq => by
    cases fl <;> exact hq) fun _ _ e => e.elim
end
end Mine

namespace Mine
open PySem PySem.Spec PySem.Calls PyProof.Rows PySem.W

noncomputable def pvShr : PV → PV → Option PV
  | .int a, .int n => if 0 ≤ n then some (.int (a.fdiv (2 ^ n.toNat))) else none
  | _, _ => none
noncomputable def pvShl : PV → PV → Option PV
  | .int a, .int n => if 0 ≤ n ∧ (Builtin.Int.intBits a : Int) + n ≤ 2 ^ 27 then some (.int (a * 2 ^ n.toNat)) else none
  | _, _ => none
noncomputable def pvMul : PV → PV → Option PV
  | .int a, .int b => if Builtin.Int.intBits b ≤ 64 then some (.int (a * b)) else none
  | _, _ => none
noncomputable def pvXor : PV → PV → Option PV
  | .int a, .int b => some (.int (Builtin.bitXor a b))
  | _, _ => none
noncomputable def pvFdiv : PV → PV → Option PV
  | .int a, .int b => if b ≠ 0 ∧ b.natAbs < 1073741824 then some (.int (a.fdiv b)) else none
  | _, _ => none

section
variable {prog : Program} {w : World} {G : Heap} {n : Nat} {F : Fm} {mg mb : Str → Option Value}
theorem op_shr : Op2 (prog := prog) (w := w) (G := G) (n := n) (binaryOp .RShift) pvShr := by
  intro X A s u v du dv d R I x hu hv hf
  unfold pvShr at hf
  split at hf
  · split at hf
    · rename_i h
      cases hf
      obtain ⟨_, rfl⟩ := hu.int_inv
      obtain ⟨_, rfl⟩ := hv.int_inv
      exact PyProof.Rows.rshift_int h (Post.tok I (.int _ _))
    · cases hf
  · cases hf

theorem op_shl : Op2 (prog := prog) (w := w) (G := G) (n := n) (binaryOp .LShift) pvShl := by
  intro X A s u v du dv d R I x hu hv hf
  unfold pvShl at hf
  split at hf
  · split at hf
    · rename_i h
      cases hf
      obtain ⟨_, rfl⟩ := hu.int_inv
      obtain ⟨_, rfl⟩ := hv.int_inv
      exact PyProof.Rows.lshift_int h.1 h.2 (Post.tok I (.int _ _))
    · cases hf
  · cases hf

theorem op_mul : Op2 (prog := prog) (w := w) (G := G) (n := n) (binaryOp .Mult) pvMul := by
  intro X A s u v du dv d R I x hu hv hf
  unfold pvMul at hf
  split at hf
  · split at hf
    · rename_i h
      cases hf
      obtain ⟨_, rfl⟩ := hu.int_inv
      obtain ⟨_, rfl⟩ := hv.int_inv
      exact PyProof.Rows.mul_int (Post.tok I (.int _ _)) (.of_right h)
    · cases hf
  · cases hf

theorem op_xor : Op2 (prog := prog) (w := w) (G := G) (n := n) (binaryOp .BitXor) pvXor := by
  intro X A s u v du dv d R I x hu hv hf
  unfold pvXor at hf
  split at hf
  · cases hf
    obtain ⟨_, rfl⟩ := hu.int_inv
    obtain ⟨_, rfl⟩ := hv.int_inv
    exact PyProof.Rows.xor_int (Post.tok I (.int _ _))
  · cases hf

theorem op_fdiv : Op2 (prog := prog) (w := w) (G := G) (n := n) (binaryOp .FloorDiv) pvFdiv := by
  intro X A s u v du dv d R I x hu hv hf
  unfold pvFdiv at hf
  split at hf
  · split at hf
    · rename_i h
      cases hf
      obtain ⟨_, rfl⟩ := hu.int_inv
      obtain ⟨_, rfl⟩ := hv.int_inv
      exact PyProof.Rows.floordiv_int h.1 (Post.tok I (.int _ _)) (.inl (PyProof.noPylong_small h.2))
    · cases hf
  · cases hf

open Classical in
/-- a call of what a name holds -/
noncomputable def callObj (i : Nat) (a : Addr) (φ : List PV → Option PV) (g : List Slot → Option (List PV)) (ρ : List Slot) : Option PV := if getS ρ i = some (.obj a) then (g ρ).bind φ else none
theorem callObj_at {i : Nat} {a : Addr} {φ : List PV → Option PV} {g : List Slot → Option (List PV)} {ρ : List Slot} (h : getS ρ i = some (.obj a)) : callObj i a φ g ρ = (g ρ).bind φ := by
  unfold callObj; rw [if_pos h]
theorem ev_callobj {x : Str} {p pos : Pos} {e : Expr} {es : List Expr} {a : Addr} {o : Obj} {fd : FuncData} {k i : Nat} {φ : List PV → Option PV} {g : List Slot → Option (List PV)}
    (hf : Fn prog w G k (.ref a) φ) (hi : F.names[i]? = some x) (ho : G.get? a = some o) (hfd : o.data = .func fd) (hk : k ≤ n) (hs : Evs prog w G n F (e :: es) g)
    (hd : (x == ("__debug__" : Str)) = false := by decide) (he : ∀ env, starEach (e :: es) env = (false, eval e env) :: starEach es env := by intro _; rfl) :
    Ev prog w G n F (.Call (.Name x p) (e :: es) [] pos) (callObj i a φ g) := by
  intro env h₀ X W ρ A s d R K hq
  unfold callObj at hq
  split at hq
  · rename_i hg
    obtain ⟨ds, hds, hq⟩ := Option.bind_eq_some_iff.mp hq
    refine Call_Name rfl ?_
    refine seqP (ev_name hi hd env h₀ X W ρ A s _ R K hg) fun v h₁ tk₁ g₁ I₁ p₁ => ?_
    cases p₁
    refine callWith_def hfd ?_ (he env)
    have K₁ := K.gr g₁ I₁
    refine seqP (hs pos env h₀ X W ρ A _ ds R K₁ hds) fun vs h₂ tk₂ g₂ I₂ p₂ => ⟨I₂.keep _ _ ho, upP (g₁.trans g₂) ?_⟩
    exact hf X A _ vs ds d (R.wk hk) I₂ (K₁.gr g₂ I₂).xok p₂ hq
  · cases hq

theorem ev_ifexp {t body orelse : Expr} {pos : Pos} {c : List Slot → Option Bool} {f g : List Slot → Option PV} (ht : Ts prog w G n F t c) (hb : Ev prog w G n F body f) (ho : Ev prog w G n F orelse g) :
    Ev prog w G n F (.IfExp t body orelse pos) (fun ρ => (c ρ).bind fun b => if b then f ρ else g ρ) := by
  intro env h₀ X W ρ A s d R K hf
  obtain ⟨b, hc, hf⟩ := Option.bind_eq_some_iff.mp hf
  refine wpAny_IfExp (seqP (ht env h₀ X W ρ A s b R K hc) fun v h₁ tk₁ g₁ I₁ e₁ => ?_)
  subst e₁
  have K₁ := K.gr g₁ I₁
  cases v with
  | true => exact upP g₁ (hb env h₀ X W ρ A _ d R K₁ hf)
  | false => exact upP g₁ (ho env h₀ X W ρ A _ d R K₁ hf)

/-! everything but the tables held fast -/
noncomputable abbrev hid (h : Heap) : Heap := hideAll h [30, 37]
theorem hid_get {h : Heap} {b : Addr} {o : Obj} (e : h.get? b = some o) (n : ¬ isTab b) : (hid h).get? b = some o := hideAll_get _ e fun q => n (by
  rcases List.mem_cons.mp q with q | q
  · exact .inl q
  · exact .inr (List.mem_singleton.mp q))
theorem hid_off {h : Heap} {b : Addr} (t : isTab b) : (hid h).get? b = none := hideAll_none _ (by rcases t with q | q <;> simp [q])
theorem hid_of {h : Heap} {b : Addr} {o : Obj} (e : (hid h).get? b = some o) : h.get? b = some o ∧ ¬ isTab b := ⟨of_hideAll _ e, fun t => by rw [hid_off t] at e; cases e⟩
theorem hid_gr {h h' : Heap} (g : Gr isTab h h') (I' : Inv G h') : Inv (hid h) h' := ⟨fun b o e => g b o (hid_of e).2 (hid_of e).1, I'.t1, I'.t2, fun b t => hid_off t⟩
theorem hid_inv {h : Heap} (I : Inv G h) : Inv (hid h) h := hid_gr (Gr.refl _ _) I
theorem hid_keep {h : Heap} (I : Inv G h) {b : Addr} {o : Obj} (e : G.get? b = some o) : (hid h).get? b = some o := hid_get (I.keep b o e) fun t => by rw [I.off b t] at e; cases e
theorem hid_back {h h' : Heap} (I : Inv G h) (I' : Inv (hid h) h') : Inv G h' := ⟨fun b o e => I'.keep b o (hid_keep I e), I'.t1, I'.t2, I.off⟩
theorem GT.hid {h : Heap} (T : GT G mg mb) (I : Inv G h) : GT (Mine.hid h) mg mb :=
  ⟨ns_gr T.g fun o e => hid_keep I e, ns_gr T.b fun o e => hid_keep I e, let ⟨mm, p, q⟩ := T.nolimit; ⟨mm, ns_gr p fun o e => hid_keep I e, q⟩⟩
end
end Mine

namespace Mine
open PySem PySem.Spec PySem.Calls PyProof.Rows PySem.W

noncomputable def q1 : Str := "_int2digits.<locals>.inner"
noncomputable def q2 : Str := "_digits2int.<locals>.inner"

section
variable {prog : Program} {w : World} {G : Heap} {n : Nat} {F : Fm} {mg mb : Str → Option Value} {h h' : Heap}

theorem TabOk.but {P a : Addr} {line col : Nat} {qual : Str} (x : TabOk h P line col qual) (hs : ∀ b o, b ≠ a → h.get? b = some o → h'.get? b = some o) (hP : P ≠ a) (ha : isTab a) : TabOk h' P line col qual := by
  obtain ⟨ps, e, r⟩ := x
  refine ⟨ps, hs P _ hP e, ?_⟩
  rcases r with r | ⟨c', r, ⟨c, o, vs, t, e1, e2, e3⟩, hn⟩
  · exact .inl r
  · refine .inr ⟨c', r, ⟨c, o, vs, t, e1, hs c _ (fun q => ?_) e2, e3⟩, hn⟩
    cases e1; exact hn (q ▸ ha)
theorem Inv.tab {P : Addr} (I : Inv G h) (hP : isTab P) (hs : ∀ b o, b ≠ P → h.get? b = some o → h'.get? b = some o) (t : P = 30 → TabOk h' 30 24 4 q1) (t' : P = 37 → TabOk h' 37 39 4 q2) : Inv G h' where
  keep := fun b o e => hs b o (fun q => by rw [q, I.off P hP] at e; cases e) (I.keep b o e)
  t1 := by
    by_cases q : P = 30
    · exact t q
    · exact I.t1.but hs (fun z => q z.symm) hP
  t2 := by
    by_cases q : P = 37
    · exact t' q
    · exact I.t2.but hs (fun z => q z.symm) hP
  off := I.off

/-- what a def within a def needs of the top -/
structure NestAt (G : Heap) (mg : Str → Option Value) (c P : Addr) : Prop where
  hd : CodeHd G c P
  bm : G.BuiltinsAt mg P
  tab : isTab P

theorem triples_one {line col : Nat} {c' : Addr} : TriplesOk [rawInt line, rawInt col, .ref c'] := by
  exact trivial

theorem ok_nest (T : GT G mg mb) {A : Around} {s : Shared} {env : Env} {h₀ : Heap} {X W : Addr → Prop} {ρ : List Slot} {i : Nat} {name qual : Str} {params : Arguments} {body : List Stmt} {scope : Scope} {pos : Pos} {c P : Addr} {Q : Flow → Shared → Prop}
    (K : Ok prog w G F env h₀ X W ρ s.heap) (N : NestAt G mg c P) (hcode : env.code = .ref c) (hq : qualnameIn env name name = qual) (hqi : ∀ h', Inv G h' → TabOk h' P pos.line pos.col qual) (hqt : ∀ h', TabOk h' P pos.line pos.col qual → (P = 30 → TabOk h' 30 24 4 q1) ∧ (P = 37 → TabOk h' 37 39 4 q2))
    (hd0 : params.defaults = []) (hk0 : params.kw_defaults = []) (hann : annTrees params none env = []) (hi : F.names[i]? = some name) (hx : name ∈ F.sto) (hfr : ∀ x ∈ scope.names, x.2 = .free → x.1 ∈ F.cel)
    (h : ∀ f fo h' tk' cdv doc pm ctv, Ok prog w G F env h₀ X W (ρ.set i (.val (.obj f))) h' → h'.get? f = some fo → fo.data = .func (fnX name qual params body scope (clOf env scope.names []) .none .none doc pm none cdv ctv) → h'.CodeRec cdv qual → ¬ isTab f →
      (∀ b o, ¬ W b → ¬ isTab b → s.heap.get? b = some o → h'.get? b = some o) → (∀ c, cdv = .ref c → ¬ isTab c) → Q .next { s with heap := h', toks := tk' }) :
    wpAny (model prog w) A (exec (.FunctionDef name params body [] none [] scope none name pos) env) Q No s := by
  have hcl : closureFor scope env = pure (clOf env scope.names []) := closureFor_eq fun x hx q => (K.ce x.1 (hfr x hx q)).2.2
  have hg : s.heap.Ns mainGlobals mg := ns_gr T.g fun o => K.inv.keep _ o
  have C : CodeHd s.heap c P := N.hd.keeps K.inv.keep
  have hb : s.heap.BuiltinsAt mg P := by
    obtain ⟨bm, o, b1, b2, b3, b4, b5, b6⟩ := N.bm
    exact ⟨bm, o, b1, b2, b3, b4, K.inv.keep _ _ b5, b6⟩
  refine nestDef_K hd0 hk0 hann ?_
  rw [hq]
  have nw : ∀ b, s.heap.objs.size ≤ b → s.heap.get? b = none := fun b hb => by
    cases e : s.heap.get? b with
    | none => rfl
    | some o => exact absurd (Heap.lt_size e) (Nat.not_lt.mpr hb)
  have tl : ∀ b, isTab b → b < s.heap.objs.size := fun b t => let ⟨ps, e⟩ := K.inv.tabAlive t; Heap.lt_size e
  have nW : ∀ b, s.heap.objs.size ≤ b → ¬ W b := fun b hb q => K.xok.fresh (nw b hb) (K.wx b q)
  have fin : ∀ (h' : Heap) (tk : Tok) (fo : Obj) cdv doc pm ctv, s.heap.objs.size ≤ h'.objs.size → (∀ b o, b ≠ P → s.heap.get? b = some o → (h'.push fo).get? b = some o) → TabOk (h'.push fo) P pos.line pos.col qual → fo.isFreed = false →
      fo.data = .func (fnX name qual params body scope (clOf env scope.names []) .none .none doc pm none cdv ctv) → (h'.push fo).get? P = some (tabObj #[rawInt pos.line, rawInt pos.col, cdv]) →
      wpAny (model prog w) A (storeName env name (.ref h'.objs.size)) (fun _ s'' => Q .next s'') No { s with heap := h'.push fo, toks := tk } := by
    intro h' tk fo cdv doc pm ctv hsz hk htab hfree hdat hps
    have g : Gr isTab s.heap (h'.push fo) := fun b o n e => hk b o (fun q => n (q ▸ N.tab)) e
    have I₂ : Inv G (h'.push fo) := K.inv.tab N.tab hk (hqt _ htab).1 (hqt _ htab).2
    have K₂ := K.gr g I₂
    refine ok_store (d := .obj h'.objs.size) K₂ hi hx (.obj _) fun h₃ tk₃ K₃ k₃ => ?_
    have hps₃ := k₃ _ _ (K.tw _ N.tab) hps
    obtain ⟨ps', e', r'⟩ := hqi h₃ K₃.inv
    rw [hps₃] at e'
    injection e' with e'
    injection e' with _ _ e' _
    injection e' with e'
    subst e'
    rcases r' with r' | ⟨c', r', hrec, hn⟩
    · have := congrArg Array.size r'; simp at this
    · have hc' : cdv = .ref c' := by
        have := congrArg (fun a : Array Value => a[2]?) r'
        simpa using this
      subst hc'
      refine h h'.objs.size fo h₃ tk₃ (.ref c') doc pm ctv K₃ (k₃ _ _ (nW _ hsz) (Heap.get?_push_size _ hfree)) hdat hrec (fun t => Nat.lt_irrefl _ (Nat.lt_of_lt_of_le (tl _ t) hsz)) (fun b o n1 n2 e => k₃ b o n1 (g b o n2 e)) fun c hc => ?_
      cases hc; exact hn
  obtain ⟨ps, hP, hps⟩ := hqi _ K.inv
  rcases hps with rfl | ⟨c', rfl, hrec, hn⟩
  · refine makeFunction_K (mg := mg) hcl K.glob hg hcode C hP trivial rfl ?_ hb fun c' ctv doc h' tk hx' hge hlt hrec htb => ?_
    · intro q
      obtain ⟨o, es, ep, e, hd, _⟩ := hg
      rw [q, hP] at e; cases e; cases hd
    · have hsz : s.heap.objs.size ≤ h'.objs.size := Nat.le_of_lt (Nat.lt_of_le_of_lt hge hlt)
      have nc' : ¬ isTab c' := fun t => Nat.lt_irrefl _ (Nat.lt_of_lt_of_le (tl _ t) hge)
      have hrec' : (h'.push (fnMade name qual params body scope (clOf env scope.names []) doc ((mg "__name__").getD .none) c' ctv)).CodeRec (.ref c') qual := hrec.push _
      refine fin h' tk _ (.ref c') doc _ ctv hsz (fun b o hb e => Heap.get?_push_of_some _ (hx' b o hb e)) ⟨_, Heap.get?_push_of_some _ htb, .inr ⟨c', by simp, hrec', nc'⟩⟩ rfl rfl ?_
      exact Heap.get?_push_of_some _ (by simpa using htb)
  · have hf : codeAmong pos #[rawInt pos.line, rawInt pos.col, .ref c'].toList = some (.ref c') := by
      show codeAmong pos [.int pos.line 0, .int pos.col 0, .ref c'] = _
      unfold codeAmong
      simp
    refine makeFunction_hit (mg := mg) hcl K.glob hg hcode C hP triples_one hf hb fun ctv doc h' tk hk hsz => ?_
    obtain ⟨c₁, oc, vs, t, e1, e2, e3⟩ := hrec
    cases e1
    have hrec' : (h'.push { cls := .type "function", data := .func (fnX name qual params body scope (clOf env scope.names []) .none .none doc ((mg "__name__").getD .none) none (.ref c') ctv) }).CodeRec (.ref c') qual := ⟨c', oc, vs, t, rfl, Heap.get?_push_of_some _ (hk _ _ e2), e3⟩
    refine fin h' tk _ (.ref c') doc _ ctv hsz (fun b o _ e => Heap.get?_push_of_some _ (hk b o e)) ⟨_, Heap.get?_push_of_some _ (hk _ _ hP), .inr ⟨c', rfl, hrec', hn⟩⟩ rfl rfl (Heap.get?_push_of_some _ (hk _ _ hP))
end
end Mine

namespace Mine
open PySem PySem.Spec PySem.Calls PyProof.Rows PySem.W

noncomputable def headOf : List Stmt → Stmt
  | s :: _ => s
  | [] => .Pass ⟨0, 0, 0, 0⟩
noncomputable def scopeOf : Stmt → Scope
  | .FunctionDef _ _ _ _ _ _ s _ _ _ => s
  | _ => default
noncomputable def paramsOf : Stmt → Arguments
  | .FunctionDef _ p _ _ _ _ _ _ _ _ => p
  | _ => default
noncomputable def d2iIn : Stmt := headOf (theBody 5)

noncomputable def fmD : Fm := ⟨["L", "R", "mid", "shift", "digits", "inner", "n"], ["mid", "shift"], [], ["digits", "inner", "n"]⟩

section
variable {prog : Program} {w : World} {G : Heap} {n k : Nat} {F : Fm} {mg mb : Str → Option Value}

noncomputable def d2iR {f : Addr} {fo : Obj} {fd : FuncData} {φ : List PV → Option PV} (hφ : Fn prog w G k (.ref f) φ) (ho : G.get? f = some fo) (hfd : fo.data = .func fd) : {g : List Slot → Option SOut // Exs prog w G k fmD (bodyOf d2iIn) g} := by
  apply Subtype.mk
  case property =>
    dsimp only [d2iIn, headOf, theBody, bodyOf, PySem.Challenge.pw_gb0001_01, List.getD, List.getElem?_cons_succ, List.getElem?_cons_zero, Option.getD_some]
    apply exs_cons
    case h1 =>
      exact ex_if (ts_cmp (ev_binop (ev_name (i := 0) (by rfl) (by decide)) ev_int op_add) (ev_name (i := 1) (by rfl) (by decide)) cmp_eq) (exs_cons (ex_ret (ev_item (ev_name (i := 4) (by rfl) (by decide)) (ev_name (i := 0) (by rfl) (by decide)))) exs_nil) exs_nil
    case h2 =>
      apply exs_cons
      case h1 => exact ex_assign (i := 2) (by rfl) (by decide) (ev_binop (ev_binop (ev_name (i := 0) (by rfl) (by decide)) (ev_name (i := 1) (by rfl) (by decide)) op_add) ev_int op_shr) (.inr fun _ => rfl)
      case h2 =>
        apply exs_cons
        case h1 => exact ex_assign (i := 3) (by rfl) (by decide) (ev_binop (ev_binop (ev_name (i := 2) (by rfl) (by decide)) (ev_name (i := 0) (by rfl) (by decide)) op_sub) (ev_name (i := 6) (by rfl) (by decide)) op_mul) (.inr fun _ => rfl)
        case h2 =>
          apply exs_cons (h2 := exs_nil)
          apply ex_ret
          apply ev_binop (ho := op_add)
          case hl =>
            apply ev_binop (hr := ev_name (i := 3) (by rfl) (by decide)) (ho := op_shl)
            exact ev_callobj hφ (i := 5) (by rfl) ho hfd (Nat.le_refl _) (evs_cons (ev_name (i := 2) (by rfl) (by decide)) (evs_cons (ev_name (i := 1) (by rfl) (by decide)) evs_nil))
          case hr =>
            exact ev_callobj hφ (i := 5) (by rfl) ho hfd (Nat.le_refl _) (evs_cons (ev_name (i := 0) (by rfl) (by decide)) (evs_cons (ev_name (i := 2) (by rfl) (by decide)) evs_nil))

/-- what the inner def of _digits2int computes, by what it calls -/
noncomputable def d2iStep (ds : List PV) (φ : List PV → Option PV) : List PV → Option PV
  | [.int L, .int R] =>
    if L + 1 == R then pvItem (.lst ds) (.int L)
    else (φ [.int ((L + R).fdiv 2), .int R]).bind fun hi => (pvShl hi (.int (((L + R).fdiv 2 - L) * 1))).bind fun hi' => (φ [.int L, .int ((L + R).fdiv 2)]).bind fun lo => pvAdd hi' lo
  | _ => none
theorem pvAdd_int (a b : Int) : pvAdd (.int a) (.int b) = some (.int (a + b)) := rfl
theorem d2iR_eq {f : Addr} {fo : Obj} {fd : FuncData} {φ : List PV → Option PV} (hφ : Fn prog w G k (.ref f) φ) (ho : G.get? f = some fo) (hfd : fo.data = .func fd) (L R : Int) (ds : List PV) :
    ((d2iR hφ ho hfd).1 [.val (.int L), .val (.int R), .no, .no, .val (.lst ds), .val (.obj f), .val (.int 1)]).bind (fun o => some (outV o)) = d2iStep ds φ [.int L, .int R] := by
  have h64 : Builtin.Int.intBits 1 ≤ 64 := by decide
  unfold d2iR d2iStep
  dsimp only
  by_cases h : L + 1 = R
  · subst h
    simp only [getS, callObj, pvAdd, pvEq, List.getElem?_cons_zero, List.getElem?_cons_succ, Option.bind_some, beq_self_eq_true, if_true]
    cases pvItem (PV.lst ds) (PV.int L) <;> rfl
  · have hb : (L + 1 == R) = false := by simpa using h
    have e2 : (2 : Int) ^ Int.toNat 1 = 2 := rfl
    simp only [getS, callObj, pvAdd_int, pvEq, pvShr, pvSub, pvMul, List.getElem?_cons_zero, List.getElem?_cons_succ, Option.bind_some, hb, Bool.false_eq_true, if_false, List.set_cons_zero, List.set_cons_succ, h64, if_true, Int.zero_le_ofNat, e2]
    cases φ [PV.int ((L + R).fdiv 2), PV.int R] with
    | none => rfl
    | some hi =>
      simp only [Option.bind_some]
      cases pvShl hi (PV.int (((L + R).fdiv 2 - L) * 1)) with
      | none => rfl
      | some hi' =>
        simp only [Option.bind_some]
        cases φ [PV.int L, PV.int ((L + R).fdiv 2)] with
        | none => rfl
        | some lo =>
          simp only [Option.bind_some]
          cases pvAdd hi' lo <;> rfl

/-- the closure stands, and what its cells hold -/
structure D2I (prog : Program) (w : World) (G : Heap) (f : Addr) (fo : Obj) (ds : List PV) : Prop where
  ex : ∃ scope clos doc pm cdv ctv, fo.data = .func (fnX "inner" q2 (paramsOf d2iIn) (bodyOf d2iIn) scope clos .none .none doc pm none cdv ctv) ∧ scope = scopeOf d2iIn ∧ G.CodeRec cdv q2 ∧
    (∀ n n' c, clos.lookup n = some c → clos.lookup n' = some c → n = n') ∧ (∀ n c, clos.lookup n = some c → ¬ isTab c ∧ ∃ o, G.get? c = some o) ∧
    (∃ c v, clos.lookup ("digits" : Str) = some c ∧ G.IsCell c (some v) ∧ Is prog w isTab G v (.lst ds)) ∧ (∃ c, clos.lookup ("inner" : Str) = some c ∧ G.IsCell c (some (.ref f))) ∧ (∃ c t, clos.lookup ("n" : Str) = some c ∧ G.IsCell c (some (.int 1 t)))
  at' : G.get? f = some fo

theorem fmD_ok : CloFm fmD (scopeOf d2iIn) ["L", "R"] ["mid", "shift"] ["digits", "inner", "n"] := by constructor <;> decide +kernel
theorem xok_tab {h : Heap} (I : Inv G h) : XOk isTab h := ⟨fun _ t => t, fun b t => let ⟨ps, e⟩ := I.tabAlive t; ⟨_, e⟩⟩

theorem d2i_step (T : GT G mg mb) {f : Addr} {fo : Obj} {ds : List PV} (D : D2I prog w G f fo ds) {φ : List PV → Option PV} (hφ : Fn prog w G k (.ref f) φ) :
    Fn prog w G (k + 1) (.ref f) (fun l => (d2iStep ds φ l).bind fun d => match d with | .int i => some (.int i) | _ => none) := by
  intro X A s vs l d R I x ha hf
  obtain ⟨d', hd', hf⟩ := Option.bind_eq_some_iff.mp hf
  have hi : ∃ i, d' = .int i ∧ d = .int i := by
    cases d' <;> cases hf
    exact ⟨_, rfl, rfl⟩
  obtain ⟨i, rfl, rfl⟩ := hi
  have hl : ∃ L R, l = [.int L, .int R] := by
    unfold d2iStep at hd'
    split at hd'
    · exact ⟨_, _, rfl⟩
    · cases hd'
  obtain ⟨L, R', rfl⟩ := hl
  have ha' : IsAll prog w isTab s.heap vs [.int L, .int R'] := by
    cases ha with
    | cons a r =>
      cases r with
      | cons b r =>
        cases r
        cases a; cases b
        exact .cons (.int _ _) (.cons (.int _ _) .nil)
  obtain ⟨scope, clos, doc, pm, cdv, ctv, hfo, rfl, hrec, hin, hal, ⟨c1, v1, l1, k1, i1⟩, ⟨c2, l2, k2⟩, ⟨c3, t3, l3, k3⟩⟩ := D.ex
  have hI : Gr isTab G s.heap := fun b o _ e => I.keep b o e
  have hlen : vs.length = 2 := ha'.length
  have hvs : ∃ a b, vs = [a, b] := by
    cases vs with
    | nil => cases hlen
    | cons a r => cases r with
      | nil => cases hlen
      | cons b r => cases r with
        | nil => exact ⟨a, b, rfl⟩
        | cons c r => simp at hlen
  obtain ⟨va, vb, rfl⟩ := hvs
  rw [← d2iR_eq hφ D.at' hfo] at hd'
  obtain ⟨out, hout, hd'⟩ := Option.bind_eq_some_iff.mp hd'
  refine enter_clo (n := k) (F := fmD) T D.at' hfo (let ⟨c, oc, vs', t, e1, e2, e3⟩ := hrec; ⟨c, oc, vs', t, e1, I.keep _ _ e2, e3⟩) rfl rfl rfl (params := ["L", "R"]) (loc := ["mid", "shift"]) (fr := ["digits", "inner", "n"]) fmD_ok (by with_unfolding_all rfl) hin (fun n c hc => ⟨(hal n c hc).1, (hal n c hc).2.imp fun o e => I.keep _ _ e⟩) (fun y hy => ?_)
    (es := [.lst ds, .obj f, .int 1]) (fun i d hi => ?_) R I (xok_tab I) ha' rfl (fun env h₁ tk₁ X' W' K sub _ g _ => ?_)
  · rcases List.mem_cons.mp hy with rfl | hy
    · exact ⟨_, l1⟩
    · rcases List.mem_cons.mp hy with rfl | hy
      · exact ⟨_, l2⟩
      · rw [List.mem_singleton.mp hy]; exact ⟨_, l3⟩
  · match i, hi with
    | 0, hi => cases hi; exact ⟨_, v1, c1, rfl, l1, k1.keeps I.keep, i1.gr hI⟩
    | 1, hi => cases hi; exact ⟨_, _, c2, rfl, l2, k2.keeps I.keep, .obj _⟩
    | 2, hi => cases hi; exact ⟨_, _, c3, rfl, l3, k3.keeps I.keep, .int _ _⟩
    | i + 3, hi => simp at hi
  · refine wpAny_mono ((d2iR hφ D.at' hfo).2 env s.heap isTab X' W' _ _ _ out (R.deeper env) K sub (xok_tab I) hout) (fun fl s₂ hs₂ => ?_) fun _ _ e => e.elim
    obtain ⟨h₂, tk₂, rfl, k₂, ol₂, hs₂⟩ := hs₂
    cases out with
    | ret d =>
      cases hd'
      obtain ⟨v, rfl, I₂, g₂, hI⟩ := hs₂
      cases hI
      exact ⟨h₂, tk₂, rfl, g₂, I₂, .int _ _⟩
    | go ρ' => cases hd'
end
end Mine

namespace Mine
open PySem PySem.Spec PySem.Calls PyProof.Rows PySem.W

section
variable {prog : Program} {w : World} {G : Heap} {n k : Nat} {F : Fm} {mg mb : Str → Option Value}

theorem slot_cell {env : Env} {h₀ h : Heap} {X W : Addr → Prop} {ρ : List Slot} (K : Ok prog w G F env h₀ X W ρ h) {i : Nat} {x : Str} {d : PV} (hi : ρ[i]? = some (.val d)) (hn : F.names[i]? = some x) (hx : x ∈ F.cel) :
    ∃ v c, env.cells.lookup x = some c ∧ h.IsCell c (some v) ∧ Is prog w X h v d := by
  obtain ⟨y, v, hy, hH, hI⟩ := K.sl i d hi
  have : y = x := Option.some.inj (hy.symm.trans hn)
  subst this
  obtain ⟨_, c2, _⟩ := K.ce y hx
  rcases hH with ⟨k, _⟩ | ⟨_, _, c, e1, e2⟩
  · rcases c2 with c2 | c2 <;> rw [k] at c2 <;> cases c2
  · exact ⟨v, c, e1, e2, hI⟩

theorem gr_hid (h : Heap) : Gr isTab h (hid h) := fun b o n e => hid_get e n

noncomputable def fm2 : Fm := ⟨["digits", "n", "inner"], ["digits", "n", "inner"], ["len"], ["digits", "n", "inner"]⟩
theorem d2iIn_eq : d2iIn = .FunctionDef "inner" (paramsOf d2iIn) (bodyOf d2iIn) [] none [] (scopeOf d2iIn) none "inner" ⟨39, 4, 44, 55⟩ := rfl
noncomputable def d2iRet : Stmt := (theBody 5).getD 1 (.Pass ⟨0, 0, 0, 0⟩)
theorem d2iBody_eq : theBody 5 = [d2iIn, d2iRet] := rfl
theorem d2iScope_fr : ∀ x ∈ (scopeOf d2iIn).names, x.2 = .free → x.1 ∈ fm2.cel := by decide +kernel
theorem d2iScope_in : (("digits" : Str), NameKind.free) ∈ (scopeOf d2iIn).names ∧ (("n" : Str), NameKind.free) ∈ (scopeOf d2iIn).names ∧ (("inner" : Str), NameKind.free) ∈ (scopeOf d2iIn).names := by decide +kernel

theorem d2i_made {env : Env} {h₀ h : Heap} {X W : Addr → Prop} {f : Addr} {fo : Obj} {ds : List PV} {doc pm ctv cdv : Value} (K : Ok prog w G fm2 env h₀ X W [.val (.lst ds), .val (.int 1), .val (.obj f)] h) (hf : h.get? f = some fo)
    (hd : fo.data = .func (fnX "inner" q2 (paramsOf d2iIn) (bodyOf d2iIn) (scopeOf d2iIn) (clOf env (scopeOf d2iIn).names []) .none .none doc pm none cdv ctv)) (hrec : h.CodeRec cdv q2) (hn : ¬ isTab f) (hc : ∀ c, cdv = .ref c → ¬ isTab c) : D2I prog w (hid h) f fo ds := by
  have hfr : ∀ x ∈ (scopeOf d2iIn).names, x.2 = .free → ∃ c, env.cells.lookup x.1 = some c := fun x hx q => (K.ce x.1 (d2iScope_fr x hx q)).2.2
  have lk : ∀ n c, (clOf env (scopeOf d2iIn).names []).lookup n = some c → env.cells.lookup n = some c := fun n c e => by
    rcases clOf_lookup hfr e with z | z
    · exact z
    · simp at z
  have cell : ∀ {c : Addr} {v : Option Value} {x : Str}, env.cells.lookup x = some c → h.IsCell c v → (hid h).IsCell c v := fun e x => isCell_gr x fun o eo => hid_get eo (K.cl _ _ e).2
  obtain ⟨v1, c1, l1, k1, i1⟩ := slot_cell K (i := 0) rfl rfl (by decide)
  obtain ⟨v2, c2, l2, k2, i2⟩ := slot_cell K (i := 1) rfl rfl (by decide)
  obtain ⟨v3, c3, l3, k3, i3⟩ := slot_cell K (i := 2) rfl rfl (by decide)
  cases i2; cases i3
  refine ⟨⟨_, _, doc, pm, cdv, ctv, hd, rfl, ?_, fun n n' c e e' => K.ap _ _ _ (lk _ _ e) (lk _ _ e'), fun n c e => ⟨(K.cl _ _ (lk _ _ e)).2, (K.ca _ _ (lk _ _ e)).imp fun o eo => hid_get eo (K.cl _ _ (lk _ _ e)).2⟩, ⟨c1, v1, ?_, cell l1 k1, (i1.anti K.tx).gr (gr_hid h)⟩, ⟨c3, ?_, cell l3 k3⟩, ⟨c2, _, ?_, cell l2 k2⟩⟩, hid_get hf hn⟩
  · obtain ⟨c, oc, vs, t, e1, e2, e3⟩ := hrec
    exact ⟨c, oc, vs, t, e1, hid_get e2 (hc c e1), e3⟩
  · rw [clOf_free hfr d2iScope_in.1]; exact l1
  · rw [clOf_free hfr d2iScope_in.2.2]; exact l3
  · rw [clOf_free hfr d2iScope_in.2.1]; exact l2

noncomputable def d2iF (ds : List PV) (φ : List PV → Option PV) : List PV → Option PV := fun l => (d2iStep ds φ l).bind fun d => match d with | .int i => some (.int i) | _ => none
noncomputable def d2iN (ds : List PV) : Nat → List PV → Option PV
  | 0 => fun _ => none
  | k + 1 => d2iF ds (d2iN ds k)
theorem d2i_fn (T : GT G mg mb) {f : Addr} {fo : Obj} {ds : List PV} (D : D2I prog w G f fo ds) : ∀ k, Fn prog w G k (.ref f) (d2iN ds k)
  | 0 => fun X A s vs l d R I x ha hf => by cases hf
  | k + 1 => d2i_step T D (d2i_fn T D k)

/-- what _digits2int computes -/
noncomputable def d2iV : List PV → Option PV
  | [.lst ds, .int n] => if n = 1 ∧ ds.length ≤ 1000 ∧ ds ≠ [] then d2iN ds 4 [.int 0, .int ds.length] else none
  | _ => none

structure FnObj (G : Heap) (x : Str) (i : Nat) (a : Addr) (o : Obj) (fd : FuncData) (c : Addr) : Prop where
  at' : G.get? a = some o
  data : o.data = .func fd
  crec : G.CodeRec fd.code fd.qualname
  body : fd.body = .stmts (theBody i)
  clo : fd.closure = []
  glob : fd.globals = mainGlobals
  blt : fd.builtins = builtinsNs
  code : fd.code = .ref c
  qual : fd.qualname = x

noncomputable def scopeAt (i : Nat) : Scope := scopeOf (PySem.Challenge.pw_gb0001_01.main.body.getD i (.Pass ⟨0, 0, 0, 0⟩))
theorem fm2_ok : DefFm fm2 (scopeAt 5) ["digits", "n"] := by
  constructor
  case pa => exact ⟨["inner"], rfl⟩
  all_goals decide +kernel

theorem qual_in {env : Env} {h₀ h : Heap} {X W : Addr → Prop} {ρ : List Slot} (K : Ok prog w G F env h₀ X W ρ h) {x : Str} (hx : x ∈ F.cel) : qualnameIn env x x = env.qual ++ x := by
  unfold qualnameIn
  rw [if_neg]
  rcases (K.ce x hx).2.1 with q | q <;> rw [q] <;> decide
theorem fn_d2i (T : GT G mg mb) (B : Blts mg mb) {a c : Addr} {o : Obj} {fd : FuncData} (O : FnObj G "_digits2int" 5 a o fd c) (hsc : fd.scope = scopeAt 5) (N : NestAt G mg c 37)
    (hbind : ∀ vs : List Value, vs.length = 2 → bindArgs fd ⟨vs, []⟩ = pure ((["digits", "n"] : List Str).zip vs)) : Fn prog w G 6 (.ref a) d2iV := by
  intro X A s vs l d R I x ha hf
  unfold d2iV at hf
  split at hf
  case h_2 => cases hf
  rename_i ds n
  split at hf
  case isFalse => cases hf
  rename_i hc
  obtain ⟨rfl, hl, hne⟩ := hc
  refine enter_def (n := 5) (F := fm2) (r := 1) T O.at' O.data O.crec O.body O.clo O.glob O.blt (hsc ▸ fm2_ok) (by simpa using hbind) R I x ha rfl (fun env h₁ tk₁ X' W' K sub hcode hqual => ?_) (by rw [hsc]; decide +kernel) (by rw [hsc]; decide +kernel)
  rw [d2iBody_eq]
  refine wpAny_execs_cons ?_
  rw [d2iIn_eq]
  have R' : Room 5 (A.deeper env) := R.deeper env
  refine ok_nest (qual := q2) (c := c) (P := 37) (i := 2) T K N (by rw [hcode]; exact O.code) ?_ (fun h' I' => I'.t2) (fun h' t => ⟨fun q => absurd q (by decide), fun _ => t⟩) (by decide +kernel) (by decide +kernel) (by rfl) (by rfl) (by decide) d2iScope_fr (fun f fo h₂ tk₂ cdv doc pm ctv K₂ hfo hfd hrec hnf hk hcd => ?_)
  · rw [qual_in K (by decide), hqual, O.qual]; decide +kernel
  · have K₂' : Ok prog w G fm2 env s.heap X' W' [.val (.lst ds), .val (.int 1), .val (.obj f)] h₂ := K₂
    have D := d2i_made K₂' hfo hfd hrec hnf hcd
    have hfn := d2i_fn (T.hid K₂.inv) D 4
    unfold d2iRet
    dsimp only [theBody, bodyOf, PySem.Challenge.pw_gb0001_01, List.getD, List.getElem?_cons_succ, List.getElem?_cons_zero, Option.getD_some]
    refine wpAny_execs_cons (wpAny_Return_some (wpAny_IfExp ?_))
    have nemp : ds.isEmpty = false := by cases ds with
      | nil => exact absurd rfl hne
      | cons a r => rfl
    refine seqP (ts_val (n := 5) (F := fm2) (ev_name (i := 0) (by rfl) (by decide)) (fun _ _ => rfl) env s.heap X' W' _ _ _ true R' K₂' ?_) fun b h₃ tk₃ g₃ I₃ e₃ => ?_
    · show pvTruth (.lst ds) = some true
      show (if ds.length ≤ 1000 then some (!ds.isEmpty) else none) = some true
      rw [if_pos hl, nemp]; rfl
    subst e₃
    have K₃ := K₂'.gr g₃ I₃
    rw [if_pos rfl]
    refine Call_Name rfl ?_
    refine seqP (ev_name (n := 5) (F := fm2) (i := 2) (by rfl) (by decide) env s.heap X' W' _ _ _ _ R' K₃ rfl) fun v h₄ tk₄ g₄ I₄ p₄ => ?_
    cases p₄
    have K₄ := K₃.gr g₄ I₄
    refine callWith_def hfd ?_ rfl
    refine seqP (evs_cons (n := 5) (F := fm2) ev_int (evs_cons (ev_callblt T fn_len (by decide) B.len (by decide) (evs_cons (ev_name (i := 0) (by rfl) (by decide)) evs_nil)) evs_nil) (fun _ => rfl) _ env s.heap X' W' _ _ _ [.int 0, .int ds.length] R' K₄ ?_) fun vs h₅ tk₅ g₅ I₅ p₅ => ?_
    · have e : fLen [.lst ds] = some (.int ds.length) := if_pos (by omega)
      show ((fLen [.lst ds]).bind fun d => (some []).bind fun ds => some (d :: ds)).bind (fun ds => some (PV.int 0 :: ds)) = _
      rw [e]; rfl
    have g25 : Gr isTab h₂ h₅ := (g₃.trans g₄).trans g₅
    refine ⟨g25 _ _ hnf hfo, ?_⟩
    refine wpAny_mono (hfn X' _ _ vs _ d (R'.wk (by decide)) (hid_gr g25 I₅) (K₄.gr g₅ I₅).xok p₅ hf) (fun v s₆ hs₆ => ?_) fun _ _ e => e
    obtain ⟨h₆, tk₆, rfl, g₆, I₆, p₆⟩ := hs₆
    exact ⟨h₆, tk₆, rfl, (K₂.kp.trans g25).trans g₆, hid_back K₂.inv I₆, p₆.anti sub⟩
end
end Mine

namespace Mine
open PySem PySem.Spec PySem.Calls PyProof.Rows PySem.W

noncomputable def pvBits : PV → Option PV
  | .int a => some (.int ((Builtin.Int.intBits a : Nat) : Int))
  | _ => none
noncomputable def pvTruthI : PV → Option Bool
  | .int a => some (a != 0)
  | _ => none
section
variable {prog : Program} {w : World} {G : Heap} {n k : Nat} {F : Fm} {mg mb : Str → Option Value}

theorem ev_bits {e : Expr} {apos pos : Pos} {f : List Slot → Option PV} (he : Ev prog w G n F e f)
    (hm : ∀ env, ∃ pl, eval (.Call (.Attribute e (Str.ofString "bit_length") apos) [] [] pos) env = (do
      let ov ← eval e env
      standAt apos.atName
      let (f, first) ← holding [ov] (getMethod ov (Str.ofString "bit_length") pl)
      callWith pos f first (backTo pos (starEach [] env)) []) := by intro _; exact ⟨_, rfl⟩) : Ev prog w G n F (.Call (.Attribute e (Str.ofString "bit_length") apos) [] [] pos) (fun ρ => (f ρ).bind pvBits) := by
  intro env h₀ X W ρ A s d R K hf
  obtain ⟨a, ha, hf⟩ := Option.bind_eq_some_iff.mp hf
  obtain ⟨pl, hm⟩ := hm env
  refine MethodCall_ (he := hm) ?_
  refine seqP (he env h₀ X W ρ A s a R K ha) fun u h₁ tk₁ g₁ I₁ p₁ => ?_
  cases p₁ with
  | int i t =>
    cases hf
    exact getMethod_int_bit_length (callWith_method0 (call_int_bit_length ⟨h₁, _, rfl, g₁, I₁, .int _ _⟩))
  | _ => cases hf
theorem ts_int {e : Expr} {f : List Slot → Option PV} (he : Ev prog w G n F e f)
    (hi : ∀ env wh, isTrue e env wh = (do let v ← wh; standAt e.pos; holding [v] (truthy v)) := by intro _ _; rfl) : Ts prog w G n F e (fun ρ => (f ρ).bind pvTruthI) := by
  intro env h₀ X W ρ A s b R K hf
  obtain ⟨a, ha, hf⟩ := Option.bind_eq_some_iff.mp hf
  rw [hi]
  refine wpAny_bind (seqP (he env h₀ X W ρ A s a R K ha) fun u h₁ tk₁ g₁ I₁ p₁ => upP g₁ ?_)
  refine wpAny_bind (wpAny_standAt (wpAny_holding ?_))
  cases p₁ with
  | int i t => cases hf; exact truthy_int (Post.now I₁ rfl)
  | _ => cases hf

theorem ld_holds {env : Env} {s : Shared} {x : Str} {pos : Pos} {v : Value} {A : Around} {Q : Value → Shared → Prop} (hk : env.scope.kind = .function) (H : Holds env s.heap x v) (h : Q v s) (hd : (x == ("__debug__" : Str)) = false := by decide) : wpAny (model prog w) A (eval (.Name x pos) env) Q No s := by
  refine wpAny_Name ?_ hd
  rcases H with ⟨k, m, hn, hm⟩ | ⟨k | k, kd, c, hc, hv⟩
  · exact wpAny_loadName_local hk k hn hm h
  · exact wpAny_loadName_cell hk k hc hv h
  · exact wpAny_loadName_free hk k hc hv h kd

theorem ex_go {st : Stmt} {rest : List Stmt} {f : List Slot → Option SOut} (h1 : Ex prog w G n F st f) {env : Env} {h₀ : Heap} {X₀ X W : Addr → Prop} {ρ ρ' : List Slot} {A : Around} {s : Shared} {Q : Flow → Shared → Prop}
    (R : Room n A) (K : Ok prog w G F env h₀ X W ρ s.heap) (hX : ∀ b, X₀ b → X b) (hX₀ : XOk X₀ h₀) (hf : f ρ = some (.go ρ'))
    (hk : ∀ h' tk' X' W', Ok prog w G F env h₀ X' W' ρ' h' → KeptS W s.heap h' → Gro X X' s.heap → Gro W W' s.heap → wpAny (model prog w) A (execs rest env) Q No { s with heap := h', toks := tk' }) : wpAny (model prog w) A (execs (st :: rest) env) Q No s := by
  refine wpAny_execs_cons (wpAny_mono (h1 env h₀ X₀ X W ρ A s _ R K hX hX₀ hf) (fun fl s₁ hs₁ => ?_) fun _ _ e => e)
  obtain ⟨h₁, tk₁, rfl, k₁, ol₁, rfl, X', W', K', gX, gW⟩ := hs₁
  exact hk h₁ tk₁ X' W' K' k₁ gX gW
end

/-- all but the tables and one list stands -/
noncomputable def GrM (la : Addr) (h h' : Heap) : Prop := ∀ b o, ¬ isTab b → b ≠ la → h.get? b = some o → h'.get? b = some o
theorem GrM.trans {la : Addr} {h h' h'' : Heap} (a : GrM la h h') (b : GrM la h' h'') : GrM la h h'' := fun x o n1 n2 e => b x o n1 n2 (a x o n1 n2 e)
theorem GrM.of_gr {la : Addr} {h h' : Heap} (g : Gr isTab h h') : GrM la h h' := fun b o n _ e => g b o n e
noncomputable def ListI (h : Heap) (la : Addr) (l : List Int) : Prop := ∃ vs : List Value, h.IsList la vs.toArray ∧ IntsAre vs l
theorem ListI.gr {h h' : Heap} {la : Addr} {l : List Int} (x : ListI h la l) (g : Gr isTab h h') (n : ¬ isTab la) : ListI h' la l := let ⟨vs, hl, hi⟩ := x; ⟨vs, isList_gr hl fun o => g la o n, hi⟩

noncomputable def MStep := Int → Int → Int → List Int → Option (List Int)
noncomputable def FnM (prog : Program) (w : World) (G : Heap) (la : Addr) (k : Nat) (f : Addr) (φ : MStep) : Prop :=
  ∀ A s x t1 L t2 R t3 l l', Room k A → Inv G s.heap → ListI s.heap la l → φ x L R l = some l' →
    wpAny (model prog w) A (call (.ref f) [.int x t1, .int L t2, .int R t3]) (fun v s' => v = .none ∧ ∃ h' tk', s' = { s with heap := h', toks := tk' } ∧ GrM la s.heap h' ∧ Inv G h' ∧ ListI h' la l') No s

noncomputable def i2dIn : Stmt := (theBody 4).getD 1 (.Pass ⟨0, 0, 0, 0⟩)
theorem i2dIn_eq : i2dIn = .FunctionDef "inner" (paramsOf i2dIn) (bodyOf i2dIn) [] none [] (scopeOf i2dIn) none "inner" ⟨24, 4, 33, 28⟩ := rfl
noncomputable def fmI : Fm := ⟨["x", "L", "R", "mid", "shift", "upper", "lower", "a_digits", "inner", "n"], ["mid", "shift", "upper", "lower"], [], ["a_digits", "inner", "n"]⟩
theorem fmI_ok : CloFm fmI (scopeOf i2dIn) ["x", "L", "R"] ["mid", "shift", "upper", "lower"] ["a_digits", "inner", "n"] := by constructor <;> decide +kernel
structure I2D (G : Heap) (f : Addr) (fo : Obj) (la : Addr) : Prop where
  ex : ∃ scope clos doc pm cdv ctv, fo.data = .func (fnX "inner" q1 (paramsOf i2dIn) (bodyOf i2dIn) scope clos .none .none doc pm none cdv ctv) ∧ scope = scopeOf i2dIn ∧ G.CodeRec cdv q1 ∧
    (∀ n n' c, clos.lookup n = some c → clos.lookup n' = some c → n = n') ∧ (∀ n c, clos.lookup n = some c → ¬ isTab c ∧ c ≠ la ∧ ∃ o, G.get? c = some o) ∧
    (∃ c, clos.lookup ("a_digits" : Str) = some c ∧ G.IsCell c (some (.ref la))) ∧ (∃ c, clos.lookup ("inner" : Str) = some c ∧ G.IsCell c (some (.ref f))) ∧ (∃ c t, clos.lookup ("n" : Str) = some c ∧ G.IsCell c (some (.int 1 t)))
  at' : G.get? f = some fo
  nt : ¬ isTab la
  nl : G.get? la = none
noncomputable def i2dGo (φ : MStep) (x L R mid sh up : Int) (l : List Int) : Option (List Int) :=
  if 0 ≤ sh ∧ (Builtin.Int.intBits up : Int) + sh ≤ 2 ^ 27 then (φ (Builtin.bitXor x (up * 2 ^ sh.toNat)) L mid l).bind fun l₁ => φ up mid R l₁ else none
noncomputable def i2dStep (φ : MStep) : MStep := fun x L R l =>
  if L + 1 == R then (if 0 ≤ L ∧ L < l.length ∧ l.length ≤ 1000 then some (l.set L.toNat x) else none)
  else i2dGo φ x L R ((L + R).fdiv 2) (((L + R).fdiv 2 - L) * 1) (x.fdiv (2 ^ (((L + R).fdiv 2 - L) * 1).toNat)) l
end Mine

namespace Mine
open PySem PySem.Spec PySem.Calls PyProof.Rows PySem.W

section
variable {prog : Program} {w : World} {G : Heap} {n k : Nat} {F : Fm} {mg mb : Str → Option Value}

theorem not_interactive {env : Env} (h : env.scope.kind = .function) : interactive env = false := by
  unfold interactive; rw [h]; rfl
theorem IntsAre.set' {vs : List Value} {l : List Int} (h : IntsAre vs l) {x : Int} {t : Tok} : ∀ i : Nat, IntsAre (vs.set i (.int x t)) (l.set i x) := by
  induction h with
  | nil => intro i; simp; exact .nil
  | cons a b r ih =>
    intro i
    cases i with
    | zero => exact .cons _ _ r
    | succ i => exact .cons _ _ (ih i)
theorem holds_int {env : Env} {h₀ h : Heap} {X W : Addr → Prop} {ρ : List Slot} (K : Ok prog w G F env h₀ X W ρ h) {i : Nat} {x : Str} {z : Int} (hi : ρ[i]? = some (.val (.int z))) (hn : F.names[i]? = some x) : ∃ t, Holds env h x (.int z t) := by
  obtain ⟨y, v, hy, hH, hI⟩ := K.sl i _ hi
  have : y = x := Option.some.inj (hy.symm.trans hn)
  subst this
  cases hI; exact ⟨_, hH⟩
theorem holds_obj {env : Env} {h₀ h : Heap} {X W : Addr → Prop} {ρ : List Slot} (K : Ok prog w G F env h₀ X W ρ h) {i : Nat} {x : Str} {z : Addr} (hi : ρ[i]? = some (.val (.obj z))) (hn : F.names[i]? = some x) : Holds env h x (.ref z) := by
  obtain ⟨y, v, hy, hH, hI⟩ := K.sl i _ hi
  have : y = x := Option.some.inj (hy.symm.trans hn)
  subst this
  cases hI; exact hH

theorem pvMul_one (a : Int) : pvMul (.int a) (.int 1) = some (.int (a * 1)) := by
  show (if Builtin.Int.intBits 1 ≤ 64 then some (PV.int (a * 1)) else none) = _
  exact if_pos (by decide)
theorem pvShr_pos {a n : Int} (h : 0 ≤ n) : pvShr (.int a) (.int n) = some (.int (a.fdiv (2 ^ n.toNat))) := if_pos h
theorem pvShl_pos {a n : Int} (h : 0 ≤ n ∧ (Builtin.Int.intBits a : Int) + n ≤ 2 ^ 27) : pvShl (.int a) (.int n) = some (.int (a * 2 ^ n.toNat)) := if_pos h
theorem i2d_step (T : GT G mg mb) {f la : Addr} {fo : Obj} (D : I2D G f fo la) {φ : MStep} (hφ : FnM prog w G la k f φ) : FnM prog w G la (k + 1) f (i2dStep φ) := by
  intro A s x t1 L t2 R t3 l l' Rm I hl hf
  obtain ⟨scope, clos, doc, pm, cdv, ctv, hfo, rfl, hrec, hin, hal, ⟨c1, l1, k1⟩, ⟨c2, l2, k2⟩, ⟨c3, t4, l3, k3⟩⟩ := D.ex
  have I1 : Inv (hid s.heap) s.heap := hid_inv I
  have T1 : GT (hid s.heap) mg mb := T.hid I
  have alL : ∃ o, s.heap.get? la = some o := let ⟨vs, ⟨o, ho, _⟩, _⟩ := hl; ⟨o, ho⟩
  refine enter_clo (n := k) (F := fmI) T1 (hid_keep I D.at') hfo (let ⟨c, oc, vs', t, e1, e2, e3⟩ := hrec; ⟨c, oc, vs', t, e1, I.keep _ _ e2, e3⟩) rfl rfl rfl fmI_ok (by with_unfolding_all rfl) hin (fun n c hc => ⟨(hal n c hc).1, (hal n c hc).2.2.imp fun o e => I.keep _ _ e⟩) (fun y hy => ?_)
    (ds := [.int x, .int L, .int R]) (es := [.obj la, .obj f, .int 1]) (fun i d hi => ?_) Rm I1 (xok_tab I) (.cons (.int _ _) (.cons (.int _ _) (.cons (.int _ _) .nil))) rfl (fun env h₁ tk₁ X' W' K sub _ g hcells => ?_)
  · rcases List.mem_cons.mp hy with rfl | hy
    · exact ⟨_, l1⟩
    · rcases List.mem_cons.mp hy with rfl | hy
      · exact ⟨_, l2⟩
      · rw [List.mem_singleton.mp hy]; exact ⟨_, l3⟩
  · match i, hi with
    | 0, hi => cases hi; exact ⟨_, _, c1, rfl, l1, k1.keeps I.keep, .obj _⟩
    | 1, hi => cases hi; exact ⟨_, _, c2, rfl, l2, k2.keeps I.keep, .obj _⟩
    | 2, hi => cases hi; exact ⟨_, _, c3, rfl, l3, k3.keeps I.keep, .int _ _⟩
    | i + 3, hi => simp at hi
  have R' : Room k (A.deeper env) := Rm.deeper env
  have K₁ : Ok prog w (hid s.heap) fmI env s.heap X' W' [.val (.int x), .val (.int L), .val (.int R), .no, .no, .no, .no, .val (.obj la), .val (.obj f), .val (.int 1)] h₁ := K
  have wla : ¬ W' la := fun q => by
    obtain ⟨o, e⟩ := alL
    rw [K.wf la q] at e; cases e
  have lla : env.locals ≠ la := fun q => wla (q ▸ K.wl)
  have x0 : XOk isTab s.heap := xok_tab I
  have back : ∀ {h}, Inv (hid s.heap) h → Inv G h := fun I' => hid_back I I'
  dsimp only [i2dIn, theBody, bodyOf, PySem.Challenge.pw_gb0001_01, List.getD, List.getElem?_cons_succ, List.getElem?_cons_zero, Option.getD_some]
  refine wpAny_execs_cons (wpAny_If (seqP (ts_cmp (n := k) (F := fmI) (ev_binop (ev_name (i := 1) (by rfl) (by decide)) ev_int op_add) (ev_name (i := 2) (by rfl) (by decide)) cmp_eq (by with_unfolding_all rfl) env s.heap X' W' _ _ _ (L + 1 == R) R' K₁ rfl) fun b h₂ tk₂ g₂ I₂ e₂ => ?_))
  subst e₂
  have K₂ := K₁.gr g₂ I₂
  unfold i2dStep at hf
  cases hLR : (L + 1 == R) with
  | true =>
    rw [hLR, if_pos rfl] at hf
    rw [if_pos rfl]
    split at hf
    case isFalse => cases hf
    rename_i hb
    cases hf
    refine wpAny_execs_cons (wpAny_Assign_Subscript ?_)
    refine seqP (ev_name (n := k) (F := fmI) (i := 0) (by rfl) (by decide) env s.heap X' W' _ _ _ _ R' K₂ rfl) fun v₃ h₃ tk₃ g₃ I₃ p₃ => ?_
    have K₃ := K₂.gr g₃ I₃
    refine seqP (ev_name (n := k) (F := fmI) (i := 7) (by rfl) (by decide) env s.heap X' W' _ _ _ _ R' K₃ rfl) fun v₄ h₄ tk₄ g₄ I₄ p₄ => ?_
    have K₄ := K₃.gr g₄ I₄
    refine seqP (ev_name (n := k) (F := fmI) (i := 1) (by rfl) (by decide) env s.heap X' W' _ _ _ _ R' K₄ rfl) fun v₅ h₅ tk₅ g₅ I₅ p₅ => ?_
    cases p₃; cases p₄; cases p₅
    have gg : Gr isTab s.heap h₅ := (((g.trans g₂).trans g₃).trans g₄).trans g₅
    obtain ⟨vs, hvl, hvi⟩ := hl.gr gg D.nt
    have hlen : vs.length = l.length := hvi.length
    refine wpAny_setItem_list hvl hb.1 (by omega) (by rw [List.size_toArray, hlen]; exact hb.2.1) fun h₆ hl₆ hs₆ => ?_
    refine wpAny_execs_cons (wpAny_Return_none ?_)
    have k₆ : ∀ b o, b ≠ la → h₅.get? b = some o → h₆.get? b = some o := fun b o hb e => (hs₆.2 b hb).trans e
    simp only [List.setIfInBounds_toArray] at hl₆
    exact ⟨rfl, h₆, tk₅, rfl, fun b o n1 n2 e => k₆ b o n2 (gg b o n1 e), (back I₅).keep1 k₆ D.nl D.nt (noRec_list hvl), _, hl₆, IntsAre.set' hvi _⟩
  | false =>
    rw [hLR, if_neg (by decide)] at hf
    rw [if_neg (by decide)]
    refine wpAny_execs_nil ?_
    generalize hmid : (L + R).fdiv 2 = mid at hf
    generalize hsh : (mid - L) * 1 = sh at hf
    generalize hup : x.fdiv (2 ^ sh.toNat) = up at hf
    unfold i2dGo at hf
    split at hf
    case isFalse => cases hf
    rename_i h0
    obtain ⟨lm, hlm, hlr⟩ := Option.bind_eq_some_iff.mp hf
    refine ex_go (ρ' := [.val (.int x), .val (.int L), .val (.int R), .val (.int mid), .no, .no, .no, .val (.obj la), .val (.obj f), .val (.int 1)]) (ex_assign (n := k) (F := fmI) (i := 3) (by rfl) (by decide) (ev_binop (ev_binop (ev_name (i := 1) (by rfl) (by decide)) (ev_name (i := 2) (by rfl) (by decide)) op_add) ev_int op_shr) (.inr fun _ => rfl)) R' K₂ sub x0 (by subst hmid; rfl) fun h₃ tk₃ X₃ W₃ K₃ kk₃ gX₃ gW₃ => ?_
    refine ex_go (ρ' := [.val (.int x), .val (.int L), .val (.int R), .val (.int mid), .val (.int sh), .no, .no, .val (.obj la), .val (.obj f), .val (.int 1)]) (ex_assign (n := k) (F := fmI) (i := 4) (by rfl) (by decide) (ev_binop (ev_binop (ev_name (i := 3) (by rfl) (by decide)) (ev_name (i := 1) (by rfl) (by decide)) op_sub) (ev_name (i := 9) (by rfl) (by decide)) op_mul) (.inr fun _ => rfl)) R' K₃ (fun b q => gX₃.1 b (sub b q)) x0 (by
      show ((pvMul (.int (mid - L)) (.int 1)).bind fun d => some (SOut.go [.val (.int x), .val (.int L), .val (.int R), .val (.int mid), .val d, .no, .no, .val (.obj la), .val (.obj f), .val (.int 1)])) = _
      rw [pvMul_one, hsh]; rfl) fun h₄ tk₄ X₄ W₄ K₄ kk₄ gX₄ gW₄ => ?_
    refine ex_go (ρ' := [.val (.int x), .val (.int L), .val (.int R), .val (.int mid), .val (.int sh), .val (.int up), .no, .val (.obj la), .val (.obj f), .val (.int 1)]) (ex_assign (n := k) (F := fmI) (i := 5) (by rfl) (by decide) (ev_binop (ev_name (i := 0) (by rfl) (by decide)) (ev_name (i := 4) (by rfl) (by decide)) op_shr) (.inr fun _ => rfl)) R' K₄ (fun b q => gX₄.1 b (gX₃.1 b (sub b q))) x0 (by
      show ((pvShr (.int x) (.int sh)).bind fun d => some (SOut.go [.val (.int x), .val (.int L), .val (.int R), .val (.int mid), .val (.int sh), .val d, .no, .val (.obj la), .val (.obj f), .val (.int 1)])) = _
      rw [pvShr_pos h0.1, hup]; rfl) fun h₅ tk₅ X₅ W₅ K₅ kk₅ gX₅ gW₅ => ?_
    refine ex_go (ρ' := [.val (.int x), .val (.int L), .val (.int R), .val (.int mid), .val (.int sh), .val (.int up), .val (.int (Builtin.bitXor x (up * 2 ^ sh.toNat))), .val (.obj la), .val (.obj f), .val (.int 1)]) (ex_assign (n := k) (F := fmI) (i := 6) (by rfl) (by decide) (ev_binop (ev_name (i := 0) (by rfl) (by decide)) (ev_binop (ev_name (i := 5) (by rfl) (by decide)) (ev_name (i := 4) (by rfl) (by decide)) op_shl) op_xor) (.inr fun _ => rfl)) R' K₅ (fun b q => gX₅.1 b (gX₄.1 b (gX₃.1 b (sub b q)))) x0 (by
      show (((pvShl (.int up) (.int sh)).bind fun d => pvXor (.int x) d).bind fun d => some (SOut.go [.val (.int x), .val (.int L), .val (.int R), .val (.int mid), .val (.int sh), .val (.int up), .val d, .val (.obj la), .val (.obj f), .val (.int 1)])) = _
      rw [pvShl_pos h0]; rfl) fun h₆ tk₆ X₆ W₆ K₆ kk₆ gX₆ gW₆ => ?_
    have not_i : interactive env = false := not_interactive K₆.kind
    refine wpAny_execs_cons (wpAny_Expr (hi := not_i) (Call_Name rfl ?_))
    refine seqP (ev_name (n := k) (F := fmI) (i := 8) (by rfl) (by decide) env s.heap X₆ W₆ _ _ _ _ R' K₆ rfl) fun v₇ h₇ tk₇ g₇ I₇ p₇ => ?_
    cases p₇
    have K₇ := K₆.gr g₇ I₇
    refine callWith_def hfo ?_ rfl
    refine seqP (evs_cons (n := k) (F := fmI) (ev_name (i := 6) (by rfl) (by decide)) (evs_cons (ev_name (i := 1) (by rfl) (by decide)) (evs_cons (ev_name (i := 3) (by rfl) (by decide)) evs_nil)) (fun _ => rfl) _ env s.heap X₆ W₆ _ _ _ [.int (Builtin.bitXor x (up * 2 ^ sh.toNat)), .int L, .int mid] R' K₇ rfl) fun vs h₈ tk₈ g₈ I₈ p₈ => ?_
    have K₈ := K₇.gr g₈ I₈
    refine ⟨I₈.keep _ _ (hid_keep I D.at'), ?_⟩
    have hl₈ : ListI h₈ la l := hl.gr K₈.kp D.nt
    cases p₈ with
    | cons a r =>
    cases r with
    | cons b r =>
    cases r with
    | cons c r =>
    cases r
    cases a; cases b; cases c
    refine wpAny_mono (hφ _ _ _ _ _ _ _ _ _ _ R' (back I₈) hl₈ hlm) (fun v s₉ hs₉ => ?_) fun _ _ e => e
    obtain ⟨rfl, h₉, tk₉, rfl, g₉, I₉, hl₉⟩ := hs₉
    have hloc : ∀ o, h₈.get? env.locals = some o → h₉.get? env.locals = some o := fun o => g₉ _ _ (fun t => K₈.tw _ t K₈.wl) lla
    have hcel : ∀ y c, env.cells.lookup y = some c → ∀ o, h₈.get? c = some o → h₉.get? c = some o := fun y c hc o => g₉ _ _ (K₈.cl _ _ hc).2 (by rw [hcells] at hc; exact (hal _ _ hc).2.1)
    have H1 := (holds_obj K₈ (i := 8) (x := "inner") rfl rfl).gr hloc (hcel _)
    obtain ⟨u1, H2⟩ := holds_int K₈ (i := 5) (x := "upper") rfl rfl
    obtain ⟨u2, H3⟩ := holds_int K₈ (i := 3) (x := "mid") rfl rfl
    obtain ⟨u3, H4⟩ := holds_int K₈ (i := 2) (x := "R") rfl rfl
    have H2 := H2.gr hloc (hcel _)
    have H3 := H3.gr hloc (hcel _)
    have H4 := H4.gr hloc (hcel _)
    refine wpAny_execs_cons (wpAny_Expr (hi := not_i) (Call_Name rfl (ld_holds K₈.kind H1 ?_)))
    refine callWith_def hfo (args_cons (ld_holds K₈.kind H2 (args_cons (ld_holds K₈.kind H3 (args_cons (ld_holds K₈.kind H4 (args_nil ?_)) rfl)) rfl)) rfl) rfl
    refine ⟨I₉.keep _ _ D.at', ?_⟩
    refine wpAny_mono (hφ _ _ _ _ _ _ _ _ _ _ R' I₉ hl₉ hlr) (fun v s₁₀ hs₁₀ => ?_) fun _ _ e => e
    obtain ⟨rfl, h₁₀, tk₁₀, rfl, g₁₀, I₁₀, hl₁₀⟩ := hs₁₀
    exact wpAny_execs_nil ⟨rfl, h₁₀, tk₁₀, rfl, ((GrM.of_gr K₈.kp).trans g₉).trans g₁₀, I₁₀, hl₁₀⟩
end
end Mine

namespace Mine
open PySem PySem.Spec PySem.Calls PyProof.Rows PySem.W

noncomputable def i2dN : Nat → MStep
  | 0 => fun _ _ _ _ => none
  | k + 1 => i2dStep (i2dN k)
noncomputable def bitsN (a : Int) : Nat := Builtin.Int.intBits a
/-- what _int2digits computes -/
noncomputable def i2dV : List PV → Option PV
  | [.int a, .int n] => if n = 1 ∧ bitsN a ≤ 100 then (if a = 0 then some (.lst []) else (i2dN 4 a 0 (bitsN a) (List.replicate (bitsN a) 0)).bind fun l => some (.lst (l.map .int))) else none
  | _ => none

noncomputable abbrev hid3 (h : Heap) (la : Addr) : Heap := hideAll h [30, 37, la]
theorem hid3_get {h : Heap} {la b : Addr} {o : Obj} (e : h.get? b = some o) (n : ¬ isTab b) (n' : b ≠ la) : (hid3 h la).get? b = some o := hideAll_get _ e fun q => by
  rcases List.mem_cons.mp q with q | q
  · exact n (.inl q)
  · rcases List.mem_cons.mp q with q | q
    · exact n (.inr q)
    · exact n' (List.mem_singleton.mp q)
theorem hid3_off {h : Heap} {la b : Addr} (t : isTab b) : (hid3 h la).get? b = none := hideAll_none _ (by rcases t with q | q <;> simp [q])
theorem hid3_la {h : Heap} {la : Addr} : (hid3 h la).get? la = none := hideAll_none _ (by simp)
theorem hid3_of {h : Heap} {la b : Addr} {o : Obj} (e : (hid3 h la).get? b = some o) : h.get? b = some o ∧ ¬ isTab b ∧ b ≠ la := ⟨of_hideAll _ e, fun t => (by rw [hid3_off t] at e; cases e), fun t => (by rw [t, hid3_la] at e; cases e)⟩

section
variable {prog : Program} {w : World} {G : Heap} {n k : Nat} {F : Fm} {mg mb : Str → Option Value}

theorem i2d_fn (T : GT G mg mb) {f la : Addr} {fo : Obj} (D : I2D G f fo la) : ∀ k, FnM prog w G la k f (i2dN k)
  | 0 => fun A s x t1 L t2 R t3 l l' r I hl hf => by cases hf
  | k + 1 => i2d_step T D (i2d_fn T D k)

theorem hid3_gr {h h' : Heap} {la : Addr} (g : Gr isTab h h') (I' : Inv G h') : Inv (hid3 h la) h' := ⟨fun b o e => g b o (hid3_of e).2.1 (hid3_of e).1, I'.t1, I'.t2, fun b t => hid3_off t⟩
theorem hid3_back {h h' : Heap} {la : Addr} (I : Inv G h) (hla : G.get? la = none) (I' : Inv (hid3 h la) h') : Inv G h' := ⟨fun b o e => I'.keep b o (hid3_get (I.keep b o e) (fun t => by rw [I.off b t] at e; cases e) fun q => by rw [q, hla] at e; cases e), I'.t1, I'.t2, I.off⟩
theorem GT.hid3 {h : Heap} {la : Addr} (T : GT G mg mb) (I : Inv G h) (hla : G.get? la = none) : GT (Mine.hid3 h la) mg mb := by
  have k : ∀ b o, G.get? b = some o → (Mine.hid3 h la).get? b = some o := fun b o e => hid3_get (I.keep b o e) (fun t => by rw [I.off b t] at e; cases e) fun q => by rw [q, hla] at e; cases e
  exact ⟨ns_gr T.g fun o e => k _ _ e, ns_gr T.b fun o e => k _ _ e, let ⟨mm, p, q⟩ := T.nolimit; ⟨mm, ns_gr p fun o e => k _ _ e, q⟩⟩

/-- where the slots are ints all, anything that stands may be avoided -/
theorem Ok.ints {env : Env} {h₀ h : Heap} {X Y W : Addr → Prop} {ρ : List Slot} (K : Ok prog w G F env h₀ X W ρ h) (hv : ∀ (i : Nat) (d : PV), ρ[i]? = some (.val d) → ∃ z, d = .int z) (hT : ∀ (i : Nat) l, ρ[i]? ≠ some (.ownT l)) (hI : ∀ (i : Nat) l, ρ[i]? ≠ some (.ownI l))
    (s : ∀ b, X b → Y b) (ha : ∀ b, Y b → ∃ o, h.get? b = some o) : Ok prog w G F env h₀ Y W ρ h :=
  { K with
    wx := fun b q => s b (K.wx b q), tx := fun b q => s b (K.tx b q), al := ha
    sl := fun i d hi => by
      obtain ⟨x, v, hx, hH, hIs⟩ := K.sl i d hi
      obtain ⟨z, rfl⟩ := hv i d hi
      cases hIs; exact ⟨x, _, hx, hH, .int _ _⟩
    oT := fun i l hi => absurd hi (hT i l)
    oI := fun i l hi => absurd hi (hI i l) }

theorem intsAre_all {X : Addr → Prop} {h : Heap} {vs : List Value} {l : List Int} (x : IntsAre vs l) : IsAll prog w X h vs (l.map .int) := by
  induction x with
  | nil => exact .nil
  | cons a t r ih => exact .cons (.int _ _) ih
theorem zeros_ints (m : Nat) : ints? ((List.replicate m [PV.int 0]).flatten) = some (List.replicate m 0) := by
  induction m with
  | zero => rfl
  | succ m ih =>
    rw [List.replicate_succ, List.flatten_cons]
    show (ints? ((List.replicate m [PV.int 0]).flatten)).bind (fun l => some (0 :: l)) = _
    rw [ih]; rfl

noncomputable def fm3 : Fm := ⟨["a", "n", "a_digits", "inner"], ["a", "n", "a_digits", "inner"], ["len"], ["n", "a_digits", "inner"]⟩
theorem fm3_ok : DefFm fm3 (scopeAt 4) ["a", "n"] := by
  constructor
  case pa => exact ⟨["a_digits", "inner"], rfl⟩
  all_goals decide +kernel
theorem i2dScope_fr : ∀ x ∈ (scopeOf i2dIn).names, x.2 = .free → x.1 ∈ fm3.cel := by decide +kernel
theorem i2dScope_in : (("a_digits" : Str), NameKind.free) ∈ (scopeOf i2dIn).names ∧ (("n" : Str), NameKind.free) ∈ (scopeOf i2dIn).names ∧ (("inner" : Str), NameKind.free) ∈ (scopeOf i2dIn).names := by decide +kernel
noncomputable def i2dS1 : Stmt := (theBody 4).getD 0 (.Pass ⟨0, 0, 0, 0⟩)
noncomputable def i2dS3 : Stmt := (theBody 4).getD 2 (.Pass ⟨0, 0, 0, 0⟩)
noncomputable def i2dS4 : Stmt := (theBody 4).getD 3 (.Pass ⟨0, 0, 0, 0⟩)
theorem i2dBody_eq : theBody 4 = [i2dS1, i2dIn, i2dS3, i2dS4] := rfl

theorem i2d_made {env : Env} {h₀ h : Heap} {X W : Addr → Prop} {f la : Addr} {fo : Obj} {z : Int} {ds : List PV} {doc pm ctv cdv : Value} (K : Ok prog w G fm3 env h₀ X W [.val (.int z), .val (.int 1), .val (.lst ds), .val (.obj f)] h) (hf : h.get? f = some fo)
    (hd : fo.data = .func (fnX "inner" q1 (paramsOf i2dIn) (bodyOf i2dIn) (scopeOf i2dIn) (clOf env (scopeOf i2dIn).names []) .none .none doc pm none cdv ctv)) (hrec : h.CodeRec cdv q1) (hn : ¬ isTab f) (hc : ∀ c, cdv = .ref c → ¬ isTab c)
    (hla : ∃ c, env.cells.lookup ("a_digits" : Str) = some c ∧ h.IsCell c (some (.ref la))) (hl : ListI h la l) (ht : ¬ isTab la) (hcl : ∀ n c, env.cells.lookup n = some c → c ≠ la) : I2D (hid3 h la) f fo la := by
  have hfr : ∀ x ∈ (scopeOf i2dIn).names, x.2 = .free → ∃ c, env.cells.lookup x.1 = some c := fun x hx q => (K.ce x.1 (i2dScope_fr x hx q)).2.2
  have lk : ∀ n c, (clOf env (scopeOf i2dIn).names []).lookup n = some c → env.cells.lookup n = some c := fun n c e => by
    rcases clOf_lookup hfr e with z | z
    · exact z
    · simp at z
  have cell : ∀ {c : Addr} {v : Option Value} {x : Str}, env.cells.lookup x = some c → h.IsCell c v → (hid3 h la).IsCell c v := fun e x => isCell_gr x fun o eo => hid3_get eo (K.cl _ _ e).2 (hcl _ _ e)
  obtain ⟨c1, l1, k1⟩ := hla
  obtain ⟨v2, c2, l2, k2, i2⟩ := slot_cell K (i := 1) rfl rfl (by decide)
  obtain ⟨v3, c3, l3, k3, i3⟩ := slot_cell K (i := 3) rfl rfl (by decide)
  obtain ⟨vs, ⟨oL, hoL, hcL, nL, hdL⟩, _⟩ := hl
  cases i2; cases i3
  refine ⟨⟨_, _, doc, pm, cdv, ctv, hd, rfl, ?_, fun n n' c e e' => K.ap _ _ _ (lk _ _ e) (lk _ _ e'), fun n c e => ⟨(K.cl _ _ (lk _ _ e)).2, hcl _ _ (lk _ _ e), (K.ca _ _ (lk _ _ e)).imp fun o eo => hid3_get eo (K.cl _ _ (lk _ _ e)).2 (hcl _ _ (lk _ _ e))⟩, ⟨c1, ?_, cell l1 k1⟩, ⟨c3, ?_, cell l3 k3⟩, ⟨c2, _, ?_, cell l2 k2⟩⟩, hid3_get hf hn ?_, ht, hid3_la⟩
  · obtain ⟨c, oc, vs, t, e1, e2, e3, e4⟩ := hrec
    refine ⟨c, oc, vs, t, e1, hid3_get e2 (hc c e1) fun q => ?_, e3, e4⟩
    rw [q, hoL] at e2; cases e2
    rw [hdL] at e3; cases e3
  · rw [clOf_free hfr i2dScope_in.1]; exact l1
  · rw [clOf_free hfr i2dScope_in.2.2]; exact l3
  · rw [clOf_free hfr i2dScope_in.2.1]; exact l2
  · intro q
    rw [q, hoL] at hf; cases hf
    rw [hdL] at hd; cases hd

theorem fn_i2d (T : GT G mg mb) (B : Blts mg mb) {a c : Addr} {o : Obj} {fd : FuncData} (O : FnObj G "_int2digits" 4 a o fd c) (hsc : fd.scope = scopeAt 4) (N : NestAt G mg c 30)
    (hbind : ∀ vs : List Value, vs.length = 2 → bindArgs fd ⟨vs, []⟩ = pure ((["a", "n"] : List Str).zip vs)) : Fn prog w G 6 (.ref a) i2dV := by
  intro X A s vs l d R I x ha hf
  unfold i2dV at hf
  split at hf
  case h_2 => cases hf
  rename_i z n
  split at hf
  case isFalse => cases hf
  rename_i hc
  obtain ⟨rfl, hm⟩ := hc
  generalize hmm : bitsN z = m at hf hm
  have hkk : (((m : Int) + 1) - 1).fdiv 1 = (m : Int) := by rw [Int.fdiv_one]; omega
  refine enter_def (n := 5) (F := fm3) (r := 2) T O.at' O.data O.crec O.body O.clo O.glob O.blt (hsc ▸ fm3_ok) (by simpa using hbind) R I x ha rfl (fun env h₁ tk₁ X' W' K sub hcode hqual => ?_) (by rw [hsc]; decide +kernel) (by rw [hsc]; decide +kernel)
  rw [i2dBody_eq]
  have R' : Room 5 (A.deeper env) := R.deeper env
  have KY : Ok prog w G fm3 env s.heap (fun b => ∃ o, h₁.get? b = some o) W' [.val (.int z), .val (.int 1), .no, .no] h₁ := by
    refine Ok.ints (X := X') K (fun i d hi => ?_) (fun i l hi => ?_) (fun i l hi => ?_) (fun b q => K.al b q) fun b q => q
    · match i, hi with
      | 0, hi => cases hi; exact ⟨_, rfl⟩
      | 1, hi => cases hi; exact ⟨_, rfl⟩
      | 2, hi => cases hi
      | 3, hi => cases hi
      | i + 4, hi => simp at hi
    · match i, hi with
      | 0, hi => cases hi
      | 1, hi => cases hi
      | 2, hi => cases hi
      | 3, hi => cases hi
      | i + 4, hi => simp at hi
    · match i, hi with
      | 0, hi => cases hi
      | 1, hi => cases hi
      | 2, hi => cases hi
      | 3, hi => cases hi
      | i + 4, hi => simp at hi
  have hXY : ∀ b, X b → ∃ o, h₁.get? b = some o := fun b q => K.al b (sub b q)
  generalize hzs : (List.replicate m [PV.int 0]).flatten = zs
  have hzi : ints? zs = some (List.replicate m 0) := by rw [← hzs]; exact zeros_ints m
  unfold i2dS1
  dsimp only [theBody, bodyOf, PySem.Challenge.pw_gb0001_01, List.getD, List.getElem?_cons_succ, List.getElem?_cons_zero, Option.getD_some]
  refine ex_go (n := 5) (F := fm3) (ρ' := [.val (.int z), .val (.int 1), .val (.lst zs), .no]) (ex_assign (i := 2) (by rfl) (by decide) (ev_mulList (evs_cons ev_int evs_nil) (ev_binop (ev_binop (ev_binop (ev_bits (ev_name (i := 0) (by rfl) (by decide))) (ev_name (i := 1) (by rfl) (by decide)) op_add) ev_int op_sub) (ev_name (i := 1) (by rfl) (by decide)) op_fdiv)) (.inl (by decide))) R' KY hXY x ?_ fun h₂ tk₂ X₂ W₂ K₂ kk₂ gX₂ gW₂ => ?_
  · have e1 : pvFdiv (.int (((m : Int) + 1) - 1)) (.int 1) = some (.int m) := by
      show (if (1 : Int) ≠ 0 ∧ (1 : Int).natAbs < 1073741824 then some (PV.int ((((m : Int) + 1) - 1).fdiv 1)) else none) = _
      rw [if_pos (by decide), hkk]
    have e2 : pvMulL [.int 0] (.int (m : Int)) = some (.lst zs) := by
      show (if 0 ≤ (m : Int) ∧ (m : Int) ≤ 1000 ∧ [PV.int 0].length = 1 then some (PV.lst (List.replicate (m : Int).toNat [PV.int 0]).flatten) else none) = _
      rw [if_pos ⟨by omega, by omega, rfl⟩, Int.toNat_natCast, hzs]
    have e3 : ((Builtin.Int.intBits z : Nat) : Int) = (m : Int) := by rw [← hmm]; rfl
    show ((pvFdiv (.int (((Builtin.Int.intBits z : Nat) : Int) + 1 - 1)) (.int 1)).bind (fun b => pvMulL [.int 0] b)).bind (fun d => some (SOut.go [.val (.int z), .val (.int 1), .val d, .no])) = _
    rw [e3, e1]
    show ((pvMulL [.int 0] (.int (m : Int))).bind _) = _
    rw [e2]; rfl
  · refine wpAny_execs_cons ?_
    rw [i2dIn_eq]
    refine ok_nest (qual := q1) (c := c) (P := 30) (i := 3) T K₂ N (by rw [hcode]; exact O.code) ?_ (fun h' I' => I'.t1) (fun h' t => ⟨fun _ => t, fun q => absurd q (by decide)⟩) (by decide +kernel) (by decide +kernel) (by rfl) (by rfl) (by decide) i2dScope_fr (fun f fo h₃ tk₃ cdv doc pm ctv K₃ hfo hfd hrec hnf hk hcd => ?_)
    · rw [qual_in K₂ (by decide), hqual, O.qual]; decide +kernel
    have K₃' : Ok prog w G fm3 env s.heap X₂ W₂ [.val (.int z), .val (.int 1), .val (.lst zs), .val (.obj f)] h₃ := K₃
    have hX₂ : ∀ b, X b → X₂ b := fun b q => gX₂.1 b (hXY b q)
    obtain ⟨v, ca, lca, kca, ia⟩ := slot_cell K₃' (i := 2) rfl rfl (by decide)
    cases ia with
    | @lst la vs _ hvl hnx hvi =>
    have nla₁ : h₁.get? la = none := by
      cases e : h₁.get? la with
      | none => rfl
      | some o => exact absurd (gX₂.1 la ⟨o, e⟩) hnx
    have nlas : s.heap.get? la = none := by
      cases e : s.heap.get? la with
      | none => rfl
      | some o =>
        by_cases t : isTab la
        · exact absurd (K₃'.tx la t) hnx
        · have := K.kp _ _ t e; rw [nla₁] at this; cases this
    have nlaG : G.get? la = none := by
      cases e : G.get? la with
      | none => rfl
      | some o => have := I.keep _ _ e; rw [nlas] at this; cases this
    have ntl : ¬ isTab la := fun t => hnx (K₃'.tx la t)
    have hcl : ∀ n c, env.cells.lookup n = some c → c ≠ la := fun n c hc q => by
      obtain ⟨o, e⟩ := K.ca n c hc
      rw [q, nla₁] at e; cases e
    have hli : ListI h₃ la (List.replicate m 0) := ⟨vs, hvl, ints_are hvi hzi⟩
    have not_i : interactive env = false := not_interactive K₃'.kind
    unfold i2dS3 i2dS4
    dsimp only [theBody, bodyOf, PySem.Challenge.pw_gb0001_01, List.getD, List.getElem?_cons_succ, List.getElem?_cons_zero, Option.getD_some]
    refine wpAny_execs_cons (wpAny_If (seqP (ts_int (n := 5) (F := fm3) (ev_name (i := 0) (by rfl) (by decide)) (fun _ _ => rfl) env s.heap X₂ W₂ _ _ _ (z != 0) R' K₃' rfl) fun b h₄ tk₄ g₄ I₄ e₄ => ?_))
    subst e₄
    have K₄ := K₃'.gr g₄ I₄
    cases hz : (z != 0) with
    | false =>
      have hz0 : z = 0 := by simpa using hz
      rw [if_neg (by decide)]
      refine wpAny_execs_nil ?_
      refine wpAny_execs_cons (wpAny_Return_some ?_)
      refine seqP (ev_name (n := 5) (F := fm3) (i := 2) (by rfl) (by decide) env s.heap X₂ W₂ _ _ _ _ R' K₄ rfl) fun v₅ h₅ tk₅ g₅ I₅ p₅ => ?_
      rw [if_pos hz0] at hf
      cases hf
      have hm0 : m = 0 := by rw [← hmm, hz0]; rfl
      have hzs0 : zs = [] := by rw [← hzs, hm0]; rfl
      rw [hzs0] at p₅
      exact ⟨h₅, tk₅, rfl, (K₄.gr g₅ I₅).kp, I₅, p₅.anti hX₂⟩
    | true =>
      have hz0 : ¬ z = 0 := by simpa using hz
      rw [if_pos rfl]
      rw [if_neg hz0] at hf
      obtain ⟨bits, hbits, hf⟩ := Option.bind_eq_some_iff.mp hf
      cases hf
      refine wpAny_execs_cons (wpAny_Expr (hi := not_i) (Call_Name rfl ?_))
      refine seqP (ev_name (n := 5) (F := fm3) (i := 3) (by rfl) (by decide) env s.heap X₂ W₂ _ _ _ _ R' K₄ rfl) fun v₅ h₅ tk₅ g₅ I₅ p₅ => ?_
      cases p₅
      have K₅ := K₄.gr g₅ I₅
      refine callWith_def hfd ?_ rfl
      refine seqP (evs_cons (n := 5) (F := fm3) (ev_name (i := 0) (by rfl) (by decide)) (evs_cons ev_int (evs_cons (ev_callblt T fn_len (by decide) B.len (by decide) (evs_cons (ev_name (i := 2) (by rfl) (by decide)) evs_nil)) evs_nil)) (fun _ => rfl) _ env s.heap X₂ W₂ _ _ _ [.int z, .int 0, .int m] R' K₅ ?_) fun us h₆ tk₆ g₆ I₆ p₆ => ?_
      · have hzl : zs.length = m := by rw [← hzs]; simp
        have e : fLen [.lst zs] = some (.int m) := by
          show (if zs.length ≤ 1000000 then some (PV.int zs.length) else none) = _
          rw [if_pos (by omega), hzl]
        show (((fLen [.lst zs]).bind fun d => (some []).bind fun ds => some (d :: ds)).bind (fun ds => some (PV.int 0 :: ds))).bind (fun ds => some (PV.int z :: ds)) = _
        rw [e]; rfl
      have K₆ := K₅.gr g₆ I₆
      have g36 : Gr isTab h₃ h₆ := (g₄.trans g₅).trans g₆
      refine ⟨g36 _ _ hnf hfo, ?_⟩
      have D : I2D (hid3 h₃ la) f fo la := i2d_made K₃' hfo hfd hrec hnf hcd ⟨ca, lca, kca⟩ hli ntl hcl
      cases p₆ with
      | cons a r =>
      cases r with
      | cons b r =>
      cases r with
      | cons c r =>
      cases r
      cases a; cases b; cases c
      refine wpAny_mono (i2d_fn (T.hid3 K₃'.inv nlaG) D 4 _ _ _ _ _ _ _ _ _ _ (R'.wk (by decide)) (hid3_gr g36 I₆) (hli.gr g36 ntl) hbits) (fun v s₇ hs₇ => ?_) fun _ _ e => e
      obtain ⟨rfl, h₇, tk₇, rfl, g₇, I₇, hl₇⟩ := hs₇
      refine wpAny_execs_nil ?_
      have hloc : ∀ o, h₆.get? env.locals = some o → h₇.get? env.locals = some o := fun o => g₇ _ _ (fun t => K₆.tw _ t K₆.wl) fun q => hnx (q ▸ K₆.wx _ K₆.wl)
      have Hd : Holds env h₆ "a_digits" (.ref la) := by
        obtain ⟨y, v', hy, hH, hI'⟩ := K₆.sl 2 _ rfl
        have : y = "a_digits" := Option.some.inj (hy.symm.trans rfl)
        subst this
        have c2 := (K₆.ce "a_digits" (by decide)).2.1
        rcases hH with ⟨k, _⟩ | ⟨k, kd, c', e1, e2⟩
        · rcases c2 with c2 | c2 <;> rw [k] at c2 <;> cases c2
        · rw [lca] at e1; cases e1
          exact .inr ⟨k, kd, ca, lca, isCell_gr kca fun o => g36 _ _ (K₃'.cl _ _ lca).2⟩
      have Hd₇ := Hd.gr hloc fun c' hc' o => g₇ _ _ (K₆.cl _ _ hc').2 (hcl _ _ hc')
      refine wpAny_execs_cons (wpAny_Return_some (ld_holds K₆.kind Hd₇ ?_))
      obtain ⟨ws, hwl, hwi⟩ := hl₇
      refine ⟨h₇, tk₇, rfl, fun b o n e => g₇ b o n (fun q => by rw [q, nlas] at e; cases e) (g36 b o n (K₃'.kp b o n e)), hid3_back K₃'.inv nlaG I₇, .lst hwl (fun q => hnx (hX₂ _ q)) (intsAre_all hwi)⟩
end
end Mine

namespace Mine
open PySem PySem.Spec PySem.Calls PyProof.Rows PySem.W

/-- a dict by its entries, whatever the keys are -/
noncomputable def RawD (h : Heap) (d : Addr) (es : Array DictEntry) (ep : Nat) : Prop := ∃ o, h.get? d = some o ∧ o.ExactDict ∧ o.data = .dict es ep
theorem RawD.at' {h h' : Heap} {d : Addr} {es : Array DictEntry} {ep : Nat} (x : RawD h d es ep) (e : ∀ o, h.get? d = some o → h'.get? d = some o) : RawD h' d es ep := let ⟨o, ho, r⟩ := x; ⟨o, e o ho, r⟩
theorem RawD.typeIs {s : Shared} {d : Addr} {es : Array DictEntry} {ep : Nat} (x : RawD s.heap d es ep) : s.TypeIs (.ref d) "dict" := let ⟨o, ho, hc, _⟩ := x; ⟨o, ho, hc.1⟩

section
variable {prog : Program} {w : World} {A : Around} {E : Value → Shared → Prop} {s : Shared} {d it : Addr} {es : Array DictEntry} {ep i : Nat}

theorem raw_iter {Q : Value → Shared → Prop} (hd : (d == sysModules) = false) (hm : RawD s.heap d es ep)
    (hQ : Q (.ref s.heap.objs.size) { s with heap := s.heap.push { cls := .type "dict_keyiterator", data := .fields #[.ref d, .int 0 0, .int es.size 0, .int ep 0] } }) : wpAny (model prog w) A (pyIter (.ref d)) Q E s := by
  obtain ⟨o, ho, hc, hdat⟩ := id hm
  refine wpAny_pyIter_slot hm.typeIs PySem.F.slot_dict_iter (wpAny_call_entry PySem.F.slot_dict_iter hm.typeIs PySem.F.entry_dict_iter ?_ (PySem.F.args_dict_iter_1 _))
  unfold Builtin.«dict.__iter__»
  refine wpAny_bind ?_
  unfold Builtin.Dict.dictSlotNone
  refine wpAny_bind (wpAny_notOrdered_dict hm.typeIs ?_)
  show wpAny _ _ (pure (Value.ref d)) _ _ s
  refine wpAny_pure ?_
  show wpAny _ _ (Builtin.Dict.showsAll d >>= _) _ _ s
  unfold Builtin.Dict.showsAll
  rw [if_neg (by rw [hd]; exact Bool.false_ne_true)]
  refine wpAny_bind (wpAny_pure (wpAny_bind (wpAny_dictEntries ho hdat (wpAny_bind (wpAny_dictEpoch ho hdat ?_)))))
  refine wpAny_bind (wpAny_newObj_type (wpAny_pure ⟨_, rfl, "dict_keyiterator", _, ⟨_, Heap.get?_push_size _ rfl, rfl⟩, PySem.F.slot_dict_keyiterator_next.lookup, ?_⟩))
  simpa [rawInt] using hQ

theorem raw_key_item {Q : Option Value → Shared → Prop} (hit : s.heap.IsKeyIter it d i es.size ep) (hm : RawD s.heap d es ep) (hi : i < es.size)
    (hQ : ∀ h', h'.IsKeyIter it d (i + 1) es.size ep → Heap.SameBut it s.heap h' → Q (some es[i].key) { s with heap := h' }) : wpAny (model prog w) A (pyNext (.ref it)) Q E s := by
  obtain ⟨o, ho, hc, hd⟩ := id hit
  obtain ⟨od, hod, hcd, hdd⟩ := id hm
  unfold pyNext
  refine wpAny_bind (wpAny_attempt (wpAny_callSpecial?_slot (name := Str.ofString "__next__") hit.typeIs PySem.F.slot_dict_keyiterator_next
    (wpAny_call_entry PySem.F.slot_dict_keyiterator_next hit.typeIs PySem.F.entry_dict_keyiterator_next ?_ (PySem.F.args_dict_keyiterator_next_1 _))))
  refine wpAny_bind (wpAny_pure (wpAny_bind (wpAny_bind (wpAny_bind (wpAny_typeNameOfWhole_keyiter hit.typeIs (wpAny_pure (wpAny_bind (wpAny_fieldsOf ho hd ?_))))))))
  simp only [show Builtin.Dict_items.ownsTuple "dict_keyiterator" = false by decide, Bool.false_eq_true, if_false]
  show wpAny _ _ (if (Value.ref d == Value.none) = true then _ else _) _ _ s
  rw [if_neg (show ¬ ((Value.ref d == Value.none) = true) from Bool.false_ne_true)]
  refine wpAny_bind (wpAny_pure (wpAny_bind (wpAny_dictEntries hod hdd ?_)))
  rw [if_neg (by simp)]
  refine wpAny_bind (wpAny_pure (wpAny_bind (wpAny_dictEpoch hod hdd ?_)))
  rw [if_neg (by simp)]
  refine wpAny_pure ?_
  simp only [show ¬ ((i : Int) < 0) from by omega, if_false, Int.toNat_natCast, Array.getElem?_eq_getElem hi]
  refine wpAny_bind (wpAny_bind (wpAny_typeNameOfWhole_keyiter hit.typeIs (wpAny_pure (wpAny_bind (wpAny_isOneOf_keyiter hit.typeIs ?_)))))
  show wpAny _ _ (setField (.ref it) 1 (rawInt ((i : Int) + 1)) >>= _) _ _ s
  refine wpAny_bind (wpAny_setField ho hd (by simp) ?_)
  have hit' : (s.heap.update it (Obj.mapFields (·.setIfInBounds 1 (rawInt ((i : Int) + 1))))).IsKeyIter it d (i + 1) es.size ep :=
    ⟨_, Heap.get?_update_self _ ho (Obj.isFreed_of_fields (Obj.data_mapFields hd _)), (Obj.cls_mapFields ..).trans hc, by rw [Obj.data_mapFields hd]; simp [rawInt]⟩
  refine wpAny_bind (wpAny_holding (wpAny_bind (wpAny_isOneOf_keyiter (s := { s with heap := s.heap.update it (Obj.mapFields (·.setIfInBounds 1 (rawInt ((i : Int) + 1)))) }) hit'.typeIs ?_)))
  show wpAny _ _ (pure es[i].key) _ _ _
  exact wpAny_pure (wpAny_pure ⟨_, rfl, wpAny_pure (hQ _ hit' (Heap.SameBut.update ..))⟩)

theorem raw_key_end {Q : Option Value → Shared → Prop} (hh : A.handled = none) (hit : s.heap.IsKeyIter it d es.size es.size ep) (hm : RawD s.heap d es ep)
    (hQ : ∀ h', Heap.ExtBut it s.heap h' → Q none { s with heap := h' }) : wpAny (model prog w) A (pyNext (.ref it)) Q E s := by
  obtain ⟨o, ho, hc, hd⟩ := id hit
  obtain ⟨od, hod, hcd, hdd⟩ := id hm
  unfold pyNext
  refine wpAny_bind (wpAny_attempt (wpAny_callSpecial?_slot (name := Str.ofString "__next__") hit.typeIs PySem.F.slot_dict_keyiterator_next
    (wpAny_call_entry PySem.F.slot_dict_keyiterator_next hit.typeIs PySem.F.entry_dict_keyiterator_next ?_ (PySem.F.args_dict_keyiterator_next_1 _))))
  refine wpAny_bind (wpAny_pure (wpAny_bind (wpAny_bind (wpAny_bind (wpAny_typeNameOfWhole_keyiter hit.typeIs (wpAny_pure (wpAny_bind (wpAny_fieldsOf ho hd ?_))))))))
  simp only [show Builtin.Dict_items.ownsTuple "dict_keyiterator" = false by decide, Bool.false_eq_true, if_false]
  show wpAny _ _ (if (Value.ref d == Value.none) = true then _ else _) _ _ s
  rw [if_neg (show ¬ ((Value.ref d == Value.none) = true) from Bool.false_ne_true)]
  refine wpAny_bind (wpAny_pure (wpAny_bind (wpAny_dictEntries hod hdd ?_)))
  rw [if_neg (by simp)]
  refine wpAny_bind (wpAny_pure (wpAny_bind (wpAny_dictEpoch hod hdd ?_)))
  rw [if_neg (by simp)]
  refine wpAny_pure ?_
  simp only [show ¬ ((es.size : Int) < 0) from by omega, if_false, Int.toNat_natCast, Array.getElem?_eq_none (Nat.le_refl es.size)]
  refine wpAny_bind (wpAny_bind (wpAny_typeNameOfWhole_keyiter hit.typeIs (wpAny_pure ?_)))
  show wpAny _ _ (setField (.ref it) 0 .none >>= _) _ _ s
  refine wpAny_bind (wpAny_setField ho hd (by simp) ?_)
  show wpAny _ _ (newExc (.type "StopIteration") [] >>= _) _ _ _
  refine wpAny_bind ?_
  simp only [newExc, newTuple]
  refine wpAny_bind (wpAny_newObj_type ?_ (by size_fits))
  refine wpAny_bind (m := firstArgMember _ _) (wpAny_of_eq (a := Value.none) (by first | rfl | (simp only [firstArgMember]; rfl)) (wpAny_newObj_type ?_ (by size_fits)))
  simp only [raiseNew]
  refine wpAny_bind (wpAny_handled ?_)
  rw [show A.in1.handled = none from hh]
  refine wpAny_bind (wpAny_pure (wpAny_throw ?_))
  refine wpAny_bind (wpAny_isInstance (T := "StopIteration") (b := true) ⟨_, Heap.get?_push_size _ rfl, rfl⟩ isSubtype_stop ?_)
  exact wpAny_pure (hQ _ (((Heap.SameBut.update ..).extBut.push _).push _))
theorem raw_values {Q : Value → Shared → Prop} {v : Addr} (hv : s.heap.IsValuesView v d) (hm : RawD s.heap d es ep)
    (hQ : Q (.ref s.heap.objs.size) { s with heap := s.heap.push { cls := .type "dict_valueiterator", data := .fields #[.ref d, .int 0 0, .int es.size 0, .int ep 0] } }) : wpAny (model prog w) A (pyIter (.ref v)) Q E s := by
  obtain ⟨ov, hov, hcv, hdv⟩ := id hv
  obtain ⟨o, ho, hc, hdat⟩ := id hm
  refine wpAny_pyIter_slot hv.typeIs PySem.F.slot_dict_values_iter (wpAny_call_entry PySem.F.slot_dict_values_iter hv.typeIs PySem.F.entry_dict_values_iter ?_ (PySem.F.args_dict_values_iter_1 _))
  unfold Builtin.«dict_values.__iter__»
  refine wpAny_bind (wpAny_pure (wpAny_bind ?_))
  unfold Builtin.Dict_items.dictOf
  refine wpAny_bind (wpAny_field hov hdv (x := .ref d) rfl (wpAny_pure (wpAny_bind ?_)))
  unfold Builtin.Dict_items.newIterator
  refine wpAny_bind (wpAny_dictEntries ho hdat (wpAny_bind (wpAny_dictEpoch ho hdat ?_)))
  simp only [show Builtin.Dict_items.ownsTuple "dict_valueiterator" = false by decide, Bool.false_eq_true, if_false]
  refine wpAny_newObj_type (wpAny_pure ⟨_, rfl, "dict_valueiterator", _, ⟨_, Heap.get?_push_size _ rfl, rfl⟩, PySem.F.slot_dict_valueiterator_next.lookup, ?_⟩)
  simpa [rawInt] using hQ
theorem raw_values_view {Q : Value → Shared → Prop} (hd : (d == sysModules) = false) (hm : RawD s.heap d es ep)
    (hQ : Q (.ref s.heap.objs.size) { s with heap := s.heap.push { cls := .type "dict_values", data := .fields #[.ref d] } }) : wpAny (model prog w) A (call (.builtin "dict.values") [.ref d]) Q E s := by
  refine wpAny_call_entry PySem.F.slot_dict_values hm.typeIs PySem.F.entry_dict_values ?_ (PySem.F.args_dict_values_1 _)
  refine wpAny_bind ?_
  unfold Builtin.Dict.noArgs
  refine wpAny_bind (wpAny_notOrdered_dict hm.typeIs ?_)
  show wpAny _ _ (pure d) _ _ s
  refine wpAny_pure ?_
  show wpAny _ _ (Builtin.Dict.showsAll d >>= _) _ _ s
  unfold Builtin.Dict.showsAll
  rw [if_neg (by rw [hd]; exact Bool.false_ne_true)]
  exact wpAny_bind (wpAny_pure (wpAny_bind (wpAny_newObj_type (wpAny_pure ⟨_, rfl, hQ⟩))))

theorem raw_val_item {Q : Option Value → Shared → Prop} (hit : s.heap.IsValIter it d i es.size ep) (hm : RawD s.heap d es ep) (hi : i < es.size)
    (hQ : ∀ h', h'.IsValIter it d (i + 1) es.size ep → Heap.SameBut it s.heap h' → Q (some es[i].val) { s with heap := h' }) : wpAny (model prog w) A (pyNext (.ref it)) Q E s := by
  obtain ⟨o, ho, hc, hd⟩ := id hit
  obtain ⟨od, hod, hcd, hdd⟩ := id hm
  unfold pyNext
  refine wpAny_bind (wpAny_attempt (wpAny_callSpecial?_slot (name := Str.ofString "__next__") hit.typeIs PySem.F.slot_dict_valueiterator_next
    (wpAny_call_entry PySem.F.slot_dict_valueiterator_next hit.typeIs PySem.F.entry_dict_valueiterator_next ?_ (PySem.F.args_dict_valueiterator_next_1 _))))
  refine wpAny_bind (wpAny_pure (wpAny_bind (wpAny_bind (wpAny_bind (wpAny_typeNameOfWhole_valiter hit.typeIs (wpAny_pure (wpAny_bind (wpAny_fieldsOf ho hd ?_))))))))
  simp only [show Builtin.Dict_items.ownsTuple "dict_valueiterator" = false by decide, Bool.false_eq_true, if_false]
  show wpAny _ _ (if (Value.ref d == Value.none) = true then _ else _) _ _ s
  rw [if_neg (show ¬ ((Value.ref d == Value.none) = true) from Bool.false_ne_true)]
  refine wpAny_bind (wpAny_pure (wpAny_bind (wpAny_dictEntries hod hdd ?_)))
  rw [if_neg (by simp)]
  refine wpAny_bind (wpAny_pure (wpAny_bind (wpAny_dictEpoch hod hdd ?_)))
  rw [if_neg (by simp)]
  refine wpAny_pure ?_
  simp only [show ¬ ((i : Int) < 0) from by omega, if_false, Int.toNat_natCast, Array.getElem?_eq_getElem hi]
  refine wpAny_bind (wpAny_bind (wpAny_typeNameOfWhole_valiter hit.typeIs (wpAny_pure (wpAny_bind (wpAny_isOneOf_valiter hit.typeIs ?_)))))
  show wpAny _ _ (setField (.ref it) 1 (rawInt ((i : Int) + 1)) >>= _) _ _ s
  refine wpAny_bind (wpAny_setField ho hd (by simp) ?_)
  have hit' : (s.heap.update it (Obj.mapFields (·.setIfInBounds 1 (rawInt ((i : Int) + 1))))).IsValIter it d (i + 1) es.size ep :=
    ⟨_, Heap.get?_update_self _ ho (Obj.isFreed_of_fields (Obj.data_mapFields hd _)), (Obj.cls_mapFields ..).trans hc, by rw [Obj.data_mapFields hd]; simp [rawInt]⟩
  refine wpAny_bind (wpAny_holding (wpAny_bind (wpAny_isOneOf_valiter (s := { s with heap := s.heap.update it (Obj.mapFields (·.setIfInBounds 1 (rawInt ((i : Int) + 1)))) }) hit'.typeIs ?_)))
  refine wpAny_bind (wpAny_isOneOf_valiter (s := { s with heap := s.heap.update it (Obj.mapFields (·.setIfInBounds 1 (rawInt ((i : Int) + 1)))) }) hit'.typeIs ?_)
  show wpAny _ _ (pure es[i].val) _ _ _
  exact wpAny_pure (wpAny_pure ⟨_, rfl, wpAny_pure (hQ _ hit' (Heap.SameBut.update ..))⟩)

theorem raw_val_end {Q : Option Value → Shared → Prop} (hh : A.handled = none) (hit : s.heap.IsValIter it d es.size es.size ep) (hm : RawD s.heap d es ep)
    (hQ : ∀ h', Heap.ExtBut it s.heap h' → Q none { s with heap := h' }) : wpAny (model prog w) A (pyNext (.ref it)) Q E s := by
  obtain ⟨o, ho, hc, hd⟩ := id hit
  obtain ⟨od, hod, hcd, hdd⟩ := id hm
  unfold pyNext
  refine wpAny_bind (wpAny_attempt (wpAny_callSpecial?_slot (name := Str.ofString "__next__") hit.typeIs PySem.F.slot_dict_valueiterator_next
    (wpAny_call_entry PySem.F.slot_dict_valueiterator_next hit.typeIs PySem.F.entry_dict_valueiterator_next ?_ (PySem.F.args_dict_valueiterator_next_1 _))))
  refine wpAny_bind (wpAny_pure (wpAny_bind (wpAny_bind (wpAny_bind (wpAny_typeNameOfWhole_valiter hit.typeIs (wpAny_pure (wpAny_bind (wpAny_fieldsOf ho hd ?_))))))))
  simp only [show Builtin.Dict_items.ownsTuple "dict_valueiterator" = false by decide, Bool.false_eq_true, if_false]
  show wpAny _ _ (if (Value.ref d == Value.none) = true then _ else _) _ _ s
  rw [if_neg (show ¬ ((Value.ref d == Value.none) = true) from Bool.false_ne_true)]
  refine wpAny_bind (wpAny_pure (wpAny_bind (wpAny_dictEntries hod hdd ?_)))
  rw [if_neg (by simp)]
  refine wpAny_bind (wpAny_pure (wpAny_bind (wpAny_dictEpoch hod hdd ?_)))
  rw [if_neg (by simp)]
  refine wpAny_pure ?_
  simp only [show ¬ ((es.size : Int) < 0) from by omega, if_false, Int.toNat_natCast, Array.getElem?_eq_none (Nat.le_refl es.size)]
  refine wpAny_bind (wpAny_bind (wpAny_typeNameOfWhole_valiter hit.typeIs (wpAny_pure ?_)))
  show wpAny _ _ (setField (.ref it) 0 .none >>= _) _ _ s
  refine wpAny_bind (wpAny_setField ho hd (by simp) ?_)
  show wpAny _ _ (newExc (.type "StopIteration") [] >>= _) _ _ _
  refine wpAny_bind ?_
  simp only [newExc, newTuple]
  refine wpAny_bind (wpAny_newObj_type ?_ (by size_fits))
  refine wpAny_bind (m := firstArgMember _ _) (wpAny_of_eq (a := Value.none) (by first | rfl | (simp only [firstArgMember]; rfl)) (wpAny_newObj_type ?_ (by size_fits)))
  simp only [raiseNew]
  refine wpAny_bind (wpAny_handled ?_)
  rw [show A.in1.handled = none from hh]
  refine wpAny_bind (wpAny_pure (wpAny_throw ?_))
  refine wpAny_bind (wpAny_isInstance (T := "StopIteration") (b := true) ⟨_, Heap.get?_push_size _ rfl, rfl⟩ isSubtype_stop ?_)
  exact wpAny_pure (hQ _ (((Heap.SameBut.update ..).extBut.push _).push _))
end
end Mine

namespace Mine
open PySem PySem.Spec PySem.Calls PyProof.Rows PySem.W

section
variable {prog : Program} {w : World} {A : Around} {E : Value → Shared → Prop} {s : Shared} {d it : Addr} {es : Array DictEntry} {ep i : Nat}

theorem raw_items {Q : Value → Shared → Prop} {v : Addr} (hv : s.heap.IsItemsView v d) (hm : RawD s.heap d es ep)
    (hQ : Q (.ref s.heap.objs.size) { s with heap := s.heap.push { cls := .type "dict_itemiterator", data := .fields #[.none, .bool false, .ref d, .int 0 0, .int es.size 0, .int ep 0, .none, .none] } }) : wpAny (model prog w) A (pyIter (.ref v)) Q E s := by
  obtain ⟨ov, hov, hcv, hdv⟩ := id hv
  obtain ⟨o, ho, hc, hdat⟩ := id hm
  refine wpAny_pyIter_slot hv.typeIs PySem.F.slot_dict_items_iter (wpAny_call_entry PySem.F.slot_dict_items_iter hv.typeIs PySem.F.entry_dict_items_iter ?_ (PySem.F.args_dict_items_iter_1 _))
  unfold Builtin.«dict_items.__iter__»
  refine wpAny_bind (wpAny_pure (wpAny_bind ?_))
  unfold Builtin.Dict_items.dictOf
  refine wpAny_bind (wpAny_field hov hdv (x := .ref d) rfl (wpAny_pure (wpAny_bind ?_)))
  unfold Builtin.Dict_items.newIterator
  refine wpAny_bind (wpAny_dictEntries ho hdat (wpAny_bind (wpAny_dictEpoch ho hdat ?_)))
  simp only [show Builtin.Dict_items.ownsTuple "dict_itemiterator" = true by decide, if_true]
  refine wpAny_newObj_type (wpAny_pure ⟨_, rfl, "dict_itemiterator", _, ⟨_, Heap.get?_push_size _ rfl, rfl⟩, PySem.F.slot_dict_itemiterator_next.lookup, ?_⟩)
    (by simp only [sizeOk, Builtin.Dict_items.ownedTupleFields, List.size_toArray, List.length_append, List.length_cons, List.length_nil, sizeLine_eq]; omega)
  simpa [rawInt, Builtin.Dict_items.ownedTupleFields] using hQ
theorem raw_items_view {Q : Value → Shared → Prop} (hd : (d == sysModules) = false) (hm : RawD s.heap d es ep)
    (hQ : Q (.ref s.heap.objs.size) { s with heap := s.heap.push { cls := .type "dict_items", data := .fields #[.ref d] } }) : wpAny (model prog w) A (call (.builtin "dict.items") [.ref d]) Q E s := by
  refine wpAny_call_entry PySem.F.slot_dict_items hm.typeIs PySem.F.entry_dict_items ?_ (PySem.F.args_dict_items_1 _)
  refine wpAny_bind ?_
  unfold Builtin.Dict.noArgs
  refine wpAny_bind (wpAny_notOrdered_dict hm.typeIs ?_)
  show wpAny _ _ (pure d) _ _ s
  refine wpAny_pure ?_
  show wpAny _ _ (Builtin.Dict.showsAll d >>= _) _ _ s
  unfold Builtin.Dict.showsAll
  rw [if_neg (by rw [hd]; exact Bool.false_ne_true)]
  exact wpAny_bind (wpAny_pure (wpAny_bind (wpAny_newObj_type (wpAny_pure ⟨_, rfl, hQ⟩))))

theorem raw_it_item {Q : Option Value → Shared → Prop} {ok ov : Value} (hit : IsItemIter s.heap it d i es.size ep ok ov) (hm : RawD s.heap d es ep) (hi : i < es.size)
    (hQ : ∀ h', IsItemIterOut h' it d (i + 1) es.size ep es[i].key es[i].val s.heap.objs.size → h'.get? s.heap.objs.size = some { cls := .type "tuple", data := .seq #[es[i].key, es[i].val] } → h'.objs.size = s.heap.objs.size + 1 →
      (∀ b o, b ≠ it → s.heap.get? b = some o → h'.get? b = some o) → Q (some (.ref s.heap.objs.size)) { s with heap := h' }) : wpAny (model prog w) A (pyNext (.ref it)) Q E s := by
  obtain ⟨hp, g, dr, tk, os⟩ := s
  obtain ⟨od, hod, hcd, hdd⟩ := id hm
  have hT : Shared.TypeIs ⟨hp, g, dr, tk, os⟩ (.ref it) "dict_itemiterator" := ⟨_, hit, rfl⟩
  unfold pyNext
  refine wpAny_bind (wpAny_attempt (wpAny_callSpecial?_slot (name := Str.ofString "__next__") hT PySem.F.slot_dict_itemiterator_next
    (wpAny_call_entry PySem.F.slot_dict_itemiterator_next hT PySem.F.entry_dict_itemiterator_next ?_ (PySem.F.args_dict_itemiterator_next_1 _))))
  refine wpAny_bind (wpAny_pure (wpAny_bind (wpAny_bind (wpAny_bind (wpAny_typeNameOfWhole_itemiter hT (wpAny_pure (wpAny_bind (wpAny_fieldsOf hit rfl ?_))))))))
  simp only [show Builtin.Dict_items.ownsTuple "dict_itemiterator" = true by decide, if_true]
  show wpAny _ _ (if (Value.ref d == Value.none) = true then _ else _) _ _ _
  rw [if_neg (show ¬ ((Value.ref d == Value.none) = true) from Bool.false_ne_true)]
  refine wpAny_bind (wpAny_pure (wpAny_bind (wpAny_dictEntries hod hdd ?_)))
  rw [if_neg (by simp)]
  refine wpAny_bind (wpAny_pure (wpAny_bind (wpAny_dictEpoch hod hdd ?_)))
  rw [if_neg (by simp)]
  refine wpAny_pure ?_
  simp only [show ¬ ((i : Int) < 0) from by omega, if_false, Int.toNat_natCast, Array.getElem?_eq_getElem hi]
  refine wpAny_bind (wpAny_bind (wpAny_typeNameOfWhole_itemiter hT (wpAny_pure (wpAny_bind (wpAny_isOneOf_itemiter hT ?_)))))
  show wpAny _ _ (setField (.ref it) 3 (rawInt ((i : Int) + 1)) >>= _) _ _ ⟨hp, g, dr, tk, os⟩
  refine wpAny_bind (wpAny_setField_rec hit (by simp) fun h₁ he₁ hs₁ => ?_)
  have s₁ : Heap.SameBut it hp h₁ := hs₁
  have f₁ : IsItemIter h₁ it d (i + 1) es.size ep ok ov := by
    have e : ((i + 1 : Nat) : Int) = (i : Int) + 1 := by omega
    unfold IsItemIter; rw [e]; simpa [rawInt] using he₁
  have hT₁ : Shared.TypeIs ⟨h₁, g, dr, tk, os⟩ (.ref it) "dict_itemiterator" := ⟨_, f₁, rfl⟩
  refine wpAny_bind (wpAny_holding (wpAny_bind (wpAny_isOneOf_itemiter hT₁ ?_)))
  refine wpAny_bind (wpAny_isOneOf_itemiter hT₁ ?_)
  show wpAny _ _ (Builtin.Dict_items.pairFromOwner (.ref it) 6 es[i].key es[i].val) _ _ ⟨h₁, g, dr, tk, os⟩
  unfold Builtin.Dict_items.pairFromOwner
  refine wpAny_bind (wpAny_newTuple ?_)
  have f₂ : IsItemIter (h₁.push { cls := .type "tuple", data := .seq #[es[i].key, es[i].val] }) it d (i + 1) es.size ep ok ov := Heap.get?_push_of_some _ f₁
  generalize hh₂ : h₁.push { cls := .type "tuple", data := .seq #[es[i].key, es[i].val] } = h₂ at f₂
  have z₁ : h₁.objs.size = hp.objs.size := s₁.1
  have il : it < hp.objs.size := Heap.lt_size hit
  have t₂ : h₂.get? hp.objs.size = some { cls := .type "tuple", data := .seq #[es[i].key, es[i].val] } := by rw [← hh₂, ← z₁]; exact Heap.get?_push_size _ rfl
  have z₂ : h₂.objs.size = hp.objs.size + 1 := by rw [← hh₂, Heap.size_push, z₁]
  have k₂ : ∀ b o, b ≠ it → hp.get? b = some o → h₂.get? b = some o := fun b o hb e => by rw [← hh₂]; exact Heap.get?_push_of_some _ (s₁.extBut b o hb e)
  show wpAny _ _ (Builtin.Dict_items.ownedTupleIsFree (.ref it) >>= _) _ _ ⟨h₂, g, dr, tk, os⟩
  rw [z₁]
  clear hh₂ f₁ s₁ he₁ hs₁ hT₁ z₁ h₁
  refine wpAny_bind ?_
  unfold Builtin.Dict_items.ownedTupleIsFree
  refine wpAny_bind (wpAny_field f₂ rfl (x := .none) rfl (wpAny_pure ?_))
  simp only [if_true]
  refine wpAny_bind (wpAny_field f₂ rfl (x := ok) rfl (wpAny_bind (wpAny_field f₂ rfl (x := ov) rfl ?_)))
  refine wpAny_bind (wpAny_setField_rec f₂ (by simp) fun h₃ e₃ s₃ => ?_)
  replace s₃ : Heap.SameBut it h₂ h₃ := s₃
  replace e₃ : IsItemIter h₃ it d (i + 1) es.size ep es[i].key ov := e₃
  refine wpAny_bind (wpAny_setField_rec e₃ (by simp) fun h₄ e₄ s₄ => ?_)
  replace s₄ : Heap.SameBut it h₃ h₄ := s₄
  replace e₄ : IsItemIter h₄ it d (i + 1) es.size ep es[i].key es[i].val := e₄
  refine wpAny_bind (wpAny_setField_rec e₄ (by simp) fun h₅ e₅ s₅ => ?_)
  replace s₅ : Heap.SameBut it h₄ h₅ := s₅
  replace e₅ : IsItemIterOut h₅ it d (i + 1) es.size ep es[i].key es[i].val hp.objs.size := e₅
  refine wpAny_bind (wpAny_setField_rec e₅ (by simp) fun h₆ e₆ s₆ => ?_)
  replace s₆ : Heap.SameBut it h₅ h₆ := s₆
  replace e₆ : IsItemIterOut h₆ it d (i + 1) es.size ep es[i].key es[i].val hp.objs.size := e₆
  have all : ∀ b o, b ≠ it → h₂.get? b = some o → h₆.get? b = some o := fun b o hb e => s₆.extBut b o hb (s₅.extBut b o hb (s₄.extBut b o hb (s₃.extBut b o hb e)))
  refine wpAny_bind (wpAny_letGo (wpAny_pure (wpAny_pure ⟨_, rfl, wpAny_pure (hQ h₆ e₆ (all _ _ (Nat.ne_of_gt il) t₂) ?_ fun b o hb e => all b o hb (k₂ b o hb e))⟩)))
  show h₆.objs.size = hp.objs.size + 1
  rw [s₆.1, s₅.1, s₄.1, s₃.1, z₂]

theorem raw_it_end {Q : Option Value → Shared → Prop} (hh : A.handled = none) {ok ov : Value} (hit : IsItemIter s.heap it d es.size es.size ep ok ov) (hm : RawD s.heap d es ep)
    (hQ : ∀ h', Heap.ExtBut it s.heap h' → Q none { s with heap := h' }) : wpAny (model prog w) A (pyNext (.ref it)) Q E s := by
  have hT : s.TypeIs (.ref it) "dict_itemiterator" := ⟨_, hit, rfl⟩
  obtain ⟨od, hod, hcd, hdd⟩ := id hm
  unfold pyNext
  refine wpAny_bind (wpAny_attempt (wpAny_callSpecial?_slot (name := Str.ofString "__next__") hT PySem.F.slot_dict_itemiterator_next
    (wpAny_call_entry PySem.F.slot_dict_itemiterator_next hT PySem.F.entry_dict_itemiterator_next ?_ (PySem.F.args_dict_itemiterator_next_1 _))))
  refine wpAny_bind (wpAny_pure (wpAny_bind (wpAny_bind (wpAny_bind (wpAny_typeNameOfWhole_itemiter hT (wpAny_pure (wpAny_bind (wpAny_fieldsOf hit rfl ?_))))))))
  simp only [show Builtin.Dict_items.ownsTuple "dict_itemiterator" = true by decide, if_true]
  show wpAny _ _ (if (Value.ref d == Value.none) = true then _ else _) _ _ s
  rw [if_neg (show ¬ ((Value.ref d == Value.none) = true) from Bool.false_ne_true)]
  refine wpAny_bind (wpAny_pure (wpAny_bind (wpAny_dictEntries hod hdd ?_)))
  rw [if_neg (by simp)]
  refine wpAny_bind (wpAny_pure (wpAny_bind (wpAny_dictEpoch hod hdd ?_)))
  rw [if_neg (by simp)]
  refine wpAny_pure ?_
  simp only [show ¬ ((es.size : Int) < 0) from by omega, if_false, Int.toNat_natCast, Array.getElem?_eq_none (Nat.le_refl es.size)]
  refine wpAny_bind (wpAny_bind (wpAny_typeNameOfWhole_itemiter hT (wpAny_pure ?_)))
  show wpAny _ _ (setField (.ref it) 2 .none >>= _) _ _ s
  refine wpAny_bind (wpAny_setField hit rfl (by simp) ?_)
  show wpAny _ _ (newExc (.type "StopIteration") [] >>= _) _ _ _
  refine wpAny_bind ?_
  simp only [newExc, newTuple]
  refine wpAny_bind (wpAny_newObj_type ?_ (by size_fits))
  refine wpAny_bind (m := firstArgMember _ _) (wpAny_of_eq (a := Value.none) (by first | rfl | (simp only [firstArgMember]; rfl)) (wpAny_newObj_type ?_ (by size_fits)))
  simp only [raiseNew]
  refine wpAny_bind (wpAny_handled ?_)
  rw [show A.in1.handled = none from hh]
  refine wpAny_bind (wpAny_pure (wpAny_throw ?_))
  refine wpAny_bind (wpAny_isInstance (T := "StopIteration") (b := true) ⟨_, Heap.get?_push_size _ rfl, rfl⟩ isSubtype_stop ?_)
  exact wpAny_pure (hQ _ (((Heap.SameBut.update ..).extBut.push _).push _))
end
end Mine

namespace Mine
open PySem PySem.Spec PySem.Calls PyProof.Rows PySem.W

noncomputable def isPV : IS → PV
  | .inl i => .int i
  | .inr s => .str s
noncomputable def keyPV (k : Key) : PV := .tup (k.map isPV)
noncomputable def pvIS : PV → Option IS
  | .int i => some (.inl i)
  | .str s => some (.inr s)
  | _ => none
noncomputable def pvISs : List PV → Option Key
  | [] => some []
  | d :: r => (pvIS d).bind fun k => (pvISs r).bind fun ks => some (k :: ks)
noncomputable def pvKey : PV → Option Key
  | .tup l => pvISs l
  | _ => none
noncomputable def pvKeys : PV → Option (List PV)
  | .dct l => some (l.map fun x => keyPV x.1)
  | _ => none
noncomputable def pvVals : PV → Option (List PV)
  | .dct l => some (l.map (·.2))
  | _ => none

section
variable {prog : Program} {w : World} {G : Heap} {n : Nat} {F : Fm} {mg mb : Str → Option Value} {X : Addr → Prop} {h : Heap}

theorem items_all {k : Key} {vs : List Value} (x : ItemsAre (isKind prog w) k vs) : IsAll prog w X h vs (k.map isPV) := by
  induction x with
  | nil => exact .nil
  | cons h1 _ ih =>
    refine .cons ?_ ih
    rcases isIS_cases h1 with ⟨i, t, rfl, rfl⟩ | ⟨x, t, rfl, rfl⟩
    · exact .int _ _
    · exact .str _ _
theorem all_items : ∀ {vs : List Value} {ds : List PV} {k : Key}, IsAll prog w X h vs ds → pvISs ds = some k → ItemsAre (isKind prog w) k vs
  | _, _, k, .nil, e => by cases e; exact .nil
  | _, _, k, .cons (v := v) (d := d) a r, e => by
    unfold pvISs at e
    obtain ⟨x, hx, e⟩ := Option.bind_eq_some_iff.mp e
    obtain ⟨ks, hks, e⟩ := Option.bind_eq_some_iff.mp e
    cases e
    refine .cons ?_ (all_items r hks)
    cases a <;> cases hx
    · exact (show (isKind prog w).is _ _ = true from by simp [isKind, isIS, Value.isInt])
    · exact (show (isKind prog w).is _ _ = true from by simp [isKind, isIS, Value.isStrOf])
theorem key_is {k : Key} {a : Addr} (x : IsTupleKey (isKind prog w) h k a) (hx : ¬ X a) : Is prog w X h (.ref a) (keyPV k) := by
  obtain ⟨o, items, n, ho, hc, hd, hi⟩ := x
  exact .tup (vs := items.toList) ⟨o, ho, hc, n, by simpa using hd⟩ hx (items_all hi)
theorem is_key {v : Value} {d : PV} {k : Key} (x : Is prog w X h v d) (e : pvKey d = some k) : ∃ a, v = .ref a ∧ IsTupleKey (isKind prog w) h k a ∧ ¬ X a := by
  cases x with
  | @tup a vs ds ht hx hv =>
    obtain ⟨o, ho, hc, n, hd⟩ := ht
    exact ⟨a, rfl, ⟨o, vs.toArray, n, ho, hc, hd, by simpa using all_items hv e⟩, hx⟩
  | _ => cases e

theorem raw_of {a : Addr} {xs : List (Key × Addr × Value)} (x : h.DictOfH (tKind prog w) a xs) : ∃ es ep, RawD h a es ep ∧ es.toList = xs.map (entryOfKey (tKind prog w)) := let ⟨o, es, ep, ho, hc, hd, he, _⟩ := x; ⟨es, ep, ⟨o, ho, hc, hd⟩, he⟩

theorem walks_keys {A : Around} (hh : A.handled = none) (I d : Addr) (hne : d ≠ I) (es : Array DictEntry) (ep : Nat) :
    Walks prog w A I [I, d] [I] es.size (fun i v => ∃ e, es[i]? = some e ∧ v = e.key) (fun i h => h.IsKeyIter I d i es.size ep ∧ RawD h d es ep) where
  sub := fun b hb => by simp at hb; simp [hb]
  frame := fun _ _ _ st hk => ⟨st.1.at fun o e => hk I (by simp) o e, st.2.at' fun o e => hk d (by simp) o e⟩
  item := fun i s Q E hi st hQ => raw_key_item st.1 st.2 hi fun h' hit' hs' => hQ _ h' s.toks ⟨es[i], by simp [hi], rfl⟩ ⟨hit', st.2.at' fun o e => hs'.extBut d o hne e⟩ fun b o hb e => hs'.extBut b o (fun h => hb (by simp [h])) e
  done := fun s Q E st hQ => raw_key_end hh st.1 st.2 fun h' he' => hQ h' s.toks fun b o hb e => he' b o (fun h => hb (by simp [h])) e
  self := fun _ _ _ _ st hQ => wpAny_pyIter_keyiter st.1 hQ
theorem walks_vals {A : Around} (hh : A.handled = none) (I d : Addr) (hne : d ≠ I) (es : Array DictEntry) (ep : Nat) :
    Walks prog w A I [I, d] [I] es.size (fun i v => ∃ e, es[i]? = some e ∧ v = e.val) (fun i h => h.IsValIter I d i es.size ep ∧ RawD h d es ep) where
  sub := fun b hb => by simp at hb; simp [hb]
  frame := fun _ _ _ st hk => ⟨st.1.at fun o e => hk I (by simp) o e, st.2.at' fun o e => hk d (by simp) o e⟩
  item := fun i s Q E hi st hQ => raw_val_item st.1 st.2 hi fun h' hit' hs' => hQ _ h' s.toks ⟨es[i], by simp [hi], rfl⟩ ⟨hit', st.2.at' fun o e => hs'.extBut d o hne e⟩ fun b o hb e => hs'.extBut b o (fun h => hb (by simp [h])) e
  done := fun s Q E st hQ => raw_val_end hh st.1 st.2 fun h' he' => hQ h' s.toks fun b o hb e => he' b o (fun h => hb (by simp [h])) e
  self := fun _ _ _ _ st hQ => wpAny_pyIter_valiter st.1 hQ

theorem walks_cast {A : Around} {I : Addr} {fp wr : List Addr} {m m' : Nat} {P : Nat → Value → Prop} {St : Nat → Heap → Prop} (e : m = m') (x : Walks prog w A I fp wr m P St) : Walks prog w A I fp wr m' P St := e ▸ x
theorem noRec_iter {I d : Addr} {h : Heap} {a b c : Value} {x : Int} {t : Tok} {o : Obj} (ho : h.get? I = some o) (hd : o.data = .fields #[.ref d, .int x t, b, c]) : NoRec h I := fun o' vs q t e e' e'' => by
  rw [ho] at e; cases e
  rw [hd] at e'; cases e'
  cases e''

theorem itr_dct {e : Expr} {f : List Slot → Option PV} (he : Ev prog w G n F e f) : Itr prog w G n F e (fun ρ => (f ρ).bind pvKeys) := by
  intro env h₀ X W ρ A s ds Q R K hf hQ
  obtain ⟨a, ha, hf⟩ := Option.bind_eq_some_iff.mp hf
  refine seqP (he env h₀ X W ρ A s a R K ha) fun u h₁ tk₁ g₁ I₁ p₁ => ?_
  cases p₁ with
  | @dct da xs ks vs ds' hs hd hx hy e1 e2 e3 hv =>
    cases hf
    obtain ⟨es, ep, hr, hes⟩ := raw_of hd
    refine raw_iter hs hr ?_
    have kp : ∀ b o, h₁.get? b = some o → (h₁.push { cls := .type "dict_keyiterator", data := .fields #[.ref da, .int 0 0, .int es.size 0, .int ep 0] }).get? b = some o := fun b o e => Heap.get?_push_of_some _ e
    have lt : da < h₁.objs.size := let ⟨o, ho, _⟩ := hr; Heap.lt_size ho
    have W' := walks_keys (prog := prog) (w := w) R.1 h₁.objs.size da (Nat.ne_of_lt lt) es ep
    have hsz : es.size = (ks.map fun x => keyPV x.1).length := by
      have := congrArg List.length e1
      rw [List.length_map, List.length_map] at this
      rw [List.length_map, ← this, ← Array.length_toList, hes, List.length_map]
    have st0 : (h₁.push { cls := .type "dict_keyiterator", data := .fields #[.ref da, .int 0 0, .int es.size 0, .int ep 0] }).IsKeyIter h₁.objs.size da 0 es.size ep ∧ RawD (h₁.push { cls := .type "dict_keyiterator", data := .fields #[.ref da, .int 0 0, .int es.size 0, .int ep 0] }) da es ep :=
      ⟨⟨_, Heap.get?_push_size _ rfl, rfl, rfl⟩, hr.at' fun o e => kp _ o e⟩
    refine hQ _ _ _ _ _ _ ⟨walks_cast hsz W', st0, new_of_gr g₁ I₁ (get_size _), fun b hb => ?_, fun b hb => ?_, fun i h st => ?_, fun i v hi hP => ?_⟩ (g₁.trans (Gr.of kp)) (I₁.gr_keep kp)
    · rcases List.mem_cons.mp hb with rfl | hb
      · exact .inl rfl
      · rw [List.mem_singleton.mp hb]; exact .inr hx
    · rcases List.mem_cons.mp hb with rfl | hb
      · exact ⟨_, Heap.get?_push_size _ rfl⟩
      · rw [List.mem_singleton.mp hb]; obtain ⟨o, ho, _⟩ := hr; exact ⟨o, kp _ _ ho⟩
    · obtain ⟨⟨o, ho, _, hdd⟩, _⟩ := st
      exact ⟨⟨o, ho⟩, noRec_iter (a := .none) ho hdd⟩
    · obtain ⟨en, hen, rfl⟩ := hP
      rw [← Array.getElem?_toList, hes, List.getElem?_map] at hen
      obtain ⟨xq, hxq, rfl⟩ := Option.map_eq_some_iff.mp hen
      have hkq : (ks.map (·.1))[i]? = some xq.1 := by rw [← e1, List.getElem?_map, hxq]; rfl
      rw [List.getElem?_map] at hkq
      obtain ⟨kq, hkq, ek⟩ := Option.map_eq_some_iff.mp hkq
      refine ⟨keyPV kq.1, by rw [List.getElem?_map, hkq]; rfl, fun Y h₂ hY g => ?_⟩
      obtain ⟨o, es', ep', _, _, _, _, his, _⟩ := hd
      have hm := List.mem_of_getElem? hxq
      rw [ek]
      exact (((key_is (his xq hm) (hy xq hm)).avoid fun b hb => (hY b hb).imp id fun q => q ▸ get_size _).gr (Gr.of kp)).gr g
  | _ => cases hf

theorem itr_vals {e : Expr} {apos pos : Pos} {f : List Slot → Option PV} (he : Ev prog w G n F e f)
    (hm : ∀ env, ∃ pl, eval (.Call (.Attribute e (Str.ofString "values") apos) [] [] pos) env = (do
      let ov ← eval e env
      standAt apos.atName
      let (f, first) ← holding [ov] (getMethod ov (Str.ofString "values") pl)
      callWith pos f first (backTo pos (starEach [] env)) []) := by intro _; exact ⟨_, rfl⟩) :
    Itr prog w G n F (.Call (.Attribute e (Str.ofString "values") apos) [] [] pos) (fun ρ => (f ρ).bind pvVals) := by
  intro env h₀ X W ρ A s ds Q R K hf hQ
  obtain ⟨a, ha, hf⟩ := Option.bind_eq_some_iff.mp hf
  obtain ⟨pl, hm⟩ := hm env
  refine MethodCall_ (he := hm) ?_
  refine seqP (he env h₀ X W ρ A s a R K ha) fun u h₁ tk₁ g₁ I₁ p₁ => ?_
  cases p₁ with
  | @dct da xs ks vs ds' hs hd hx hy e1 e2 e3 hv =>
    cases hf
    obtain ⟨es, ep, hr, hes⟩ := raw_of hd
    have hod : ∃ o, h₁.get? da = some o ∧ o.dict = none := let ⟨o, ho, hc, _⟩ := hr; ⟨o, ho, hc.2.1⟩
    refine getMethod_builtin (T := "dict") (RawD.typeIs (s := { s with heap := h₁, toks := tk₁ }) hr) PySem.F.plainAttrs_dict PySem.F.slot_dict_values PySem.F.type_dict_values (fun a e => by cases e; exact hod) (callWith_method0 ?_)
    refine raw_values_view hs hr ?_
    have kp0 : ∀ b o, h₁.get? b = some o → (h₁.push { cls := .type "dict_values", data := .fields #[.ref da] }).get? b = some o := fun b o e => Heap.get?_push_of_some _ e
    generalize hv0 : h₁.push { cls := .type "dict_values", data := .fields #[.ref da] } = hv at kp0
    have vw : hv.IsValuesView h₁.objs.size da := by rw [← hv0]; exact ⟨_, Heap.get?_push_size _ rfl, rfl, rfl⟩
    have hr1 : RawD hv da es ep := hr.at' fun o e => kp0 _ o e
    refine raw_values vw hr1 ?_
    have kp1 : ∀ b o, hv.get? b = some o → (hv.push { cls := .type "dict_valueiterator", data := .fields #[.ref da, .int 0 0, .int es.size 0, .int ep 0] }).get? b = some o := fun b o e => Heap.get?_push_of_some _ e
    have kp := fun b o e => kp1 b o (kp0 b o e)
    have lt : da < hv.objs.size := let ⟨o, ho, _⟩ := hr1; Heap.lt_size ho
    have W' := walks_vals (prog := prog) (w := w) R.1 hv.objs.size da (Nat.ne_of_lt lt) es ep
    have hsz : es.size = (ks.map (·.2)).length := by
      have := congrArg List.length e1
      rw [List.length_map, List.length_map] at this
      rw [List.length_map, ← this, ← Array.length_toList, hes, List.length_map]
    have Iv : Inv G hv := I₁.gr_keep kp0
    refine hQ _ _ _ _ _ _ ⟨walks_cast hsz W', ⟨⟨_, Heap.get?_push_size _ rfl, rfl, rfl⟩, hr1.at' fun o e => kp1 _ o e⟩, new_of_gr (g₁.trans (Gr.of kp0)) Iv (get_size _), fun b hb => ?_, fun b hb => ?_, fun i h st => ?_, fun i v hi hP => ?_⟩ (g₁.trans (Gr.of kp)) (I₁.gr_keep kp)
    · rcases List.mem_cons.mp hb with rfl | hb
      · exact .inl rfl
      · rw [List.mem_singleton.mp hb]; exact .inr hx
    · rcases List.mem_cons.mp hb with rfl | hb
      · exact ⟨_, Heap.get?_push_size _ rfl⟩
      · rw [List.mem_singleton.mp hb]; obtain ⟨o, ho, _⟩ := hr; exact ⟨o, kp _ _ ho⟩
    · obtain ⟨⟨o, ho, _, hdd⟩, _⟩ := st
      exact ⟨⟨o, ho⟩, noRec_iter (a := .none) ho hdd⟩
    · obtain ⟨en, hen, rfl⟩ := hP
      rw [← Array.getElem?_toList, hes, List.getElem?_map] at hen
      obtain ⟨xq, hxq, rfl⟩ := Option.map_eq_some_iff.mp hen
      subst e2 e3
      obtain ⟨dd, hdd, hI⟩ := hv.get (show (xs.map (·.2.2))[i]? = some xq.2.2 by rw [List.getElem?_map, hxq]; rfl)
      refine ⟨dd, hdd, fun Y h₂ hY g => ?_⟩
      exact (((hI.gr (Gr.of kp0)).avoid fun b hb => (hY b hb).imp id fun q => q ▸ get_size _).gr (Gr.of kp1)).gr g
  | _ => cases hf
end
end Mine

namespace Mine
open PySem PySem.Spec PySem.Calls PyProof.Rows PySem.W

noncomputable def pvLt : PV → PV → Option Bool
  | .int a, .int b => some (decide (a < b))
  | _, _ => none
section
variable {prog : Program} {w : World} {G : Heap} {n : Nat} {F : Fm} {mg mb : Str → Option Value}

theorem cmp_lt : Cmp (prog := prog) (w := w) (G := G) (n := n) .Lt pvLt := by
  intro X A s u v du dv b R I x hu hv hf
  unfold pvLt at hf
  split at hf
  · cases hf
    obtain ⟨_, rfl⟩ := hu.int_inv
    obtain ⟨_, rfl⟩ := hv.int_inv
    exact PyProof.Rows.lt_int (Post.now I rfl)
  · cases hf

theorem not_sys {h : Heap} (I : Inv G h) : (h.objs.size == sysModules) = false := by
  obtain ⟨ps, e⟩ := I.tabAlive (.inr rfl)
  have lt := Heap.lt_size e
  have : h.objs.size ≠ 1 := by
    intro q; rw [q] at lt
    exact absurd lt (by decide)
  exact beq_eq_false_iff_ne.mpr this
theorem ev_dict0 {pos : Pos} : Ev prog w G n F (.Dict [] [] pos) (fun _ => some (.dct [])) := by
  intro env h₀ X W ρ A s d R K hf
  cases hf
  refine wpAny_Dict_empty (Post.grow K.inv (fun b o e => Heap.get?_push_of_some _ e) ?_)
  exact .dct (xs := []) (ks := []) (not_sys K.inv) (Heap.DictOfH.new _) (K.xok.fresh (get_size _)) (fun x hx => nomatch hx) rfl rfl rfl .nil

/-- a dict display of one pair whose key is a tuple -/
theorem ev_dict1 {ke ve : Expr} {pos : Pos} {f g : List Slot → Option PV} (hk : Ev prog w G n F ke f) (hv : Ev prog w G n F ve g) (hn : 1 ≤ n) :
    Ev prog w G n F (.Dict [some ke] [ve] pos) (fun ρ => (f ρ).bind fun k => (g ρ).bind fun v => (pvKey k).bind fun kk => some (.dct [(kk, v)])) := by
  intro env h₀ X W ρ A s d R K hf
  obtain ⟨k, hk', hf⟩ := Option.bind_eq_some_iff.mp hf
  obtain ⟨v, hv', hf⟩ := Option.bind_eq_some_iff.mp hf
  obtain ⟨kk, hkk, hf⟩ := Option.bind_eq_some_iff.mp hf
  cases hf
  refine wpAny_Dict_any rfl rfl (by simp) (by show 1 ≤ 15; decide) ?_
  have kp : ∀ b o, s.heap.get? b = some o → (s.heap.push { cls := .type "dict", data := .dict #[] }).get? b = some o := fun b o e => Heap.get?_push_of_some _ e
  have hD : (s.heap.push { cls := .type "dict", data := .dict #[] }).DictOfH (tKind prog w) s.heap.objs.size [] := Heap.DictOfH.new _
  have g₀ : Gr isTab s.heap (s.heap.push { cls := .type "dict", data := .dict #[] }) := Gr.of kp
  have K₀ : Ok prog w G F env h₀ (fun b => X b ∨ b = s.heap.objs.size) W ρ (s.heap.push { cls := .type "dict", data := .dict #[] }) := K.more g₀ (K.inv.gr_keep kp) (fun b q => .inl q) (fun b q => q.imp id fun z => by rw [z]; exact get_size _)
    fun b q => q.elim (fun q => let ⟨o, e⟩ := K.al b q; ⟨o, kp b o e⟩) fun z => by rw [z]; exact ⟨_, Heap.get?_push_size _ rfl⟩
  have nX : ¬ X s.heap.objs.size := K.xok.fresh (get_size _)
  have nT : ¬ isTab s.heap.objs.size := fun t => nX (K.tx _ t)
  show wpAny _ _ (do
    let kv ← eval ke env
    let vv ← holding [kv] (do let x ← eval ve env; standAt pos; pure x)
    return (kv, vv) :: (← holding [kv, vv] (evalPairs []))) _ _ _
  refine wpAny_bind (seqP (hk env h₀ _ W ρ A _ k R K₀ hk') fun kv h₁ tk₁ g₁ I₁ p₁ => ?_)
  have K₁ := K₀.gr g₁ I₁
  refine wpAny_bind (wpAny_holding (wpAny_bind (seqP (hv env h₀ _ W ρ A _ v R K₁ hv') fun vv h₂ tk₂ g₂ I₂ p₂ => ?_)))
  refine wpAny_bind (wpAny_standAt (wpAny_pure (wpAny_bind (wpAny_holding (wpAny_pure (wpAny_pure ?_))))))
  obtain ⟨a, rfl, ha, nxa⟩ := is_key (p₁.gr (g₂.wk K₀.tx)) hkk
  have g02 : Gr isTab (s.heap.push { cls := .type "dict", data := .dict #[] }) h₂ := g₁.trans g₂
  have hD₂ : h₂.DictOfH (tKind prog w) s.heap.objs.size [] := dictOfH_gr hD (fun o => g02 _ o nT) fun y hm => nomatch hm
  have hne : a ≠ s.heap.objs.size := fun q => by
    obtain ⟨o, its, m, ho, hc, hd, _⟩ := ha
    obtain ⟨o', es, ep, ho', hc', hd', _⟩ := hD₂
    rw [q, ho'] at ho; cases ho
    rw [hd'] at hd; cases hd
  show wpAny _ _ (storeAll s.heap.objs.size [(.ref a, vv)]) _ _ _
  unfold storeAll
  rw [List.forIn_cons]
  refine wpAny_bind (wpAny_bind (wpAny_dictSet_heap (knd := tKind prog w) (k := kk) (xs := []) R.units ha hD₂ (fun h₃ hD₃ hs₃ => ?_) (Nat.zero_le _)))
  refine wpAny_pure ?_
  dsimp only
  rw [List.forIn_nil]
  refine wpAny_pure ?_
  have k₃ : ∀ b o, b ≠ s.heap.objs.size → h₂.get? b = some o → h₃.get? b = some o := fun b o hb e => (hs₃.2 b hb).trans e
  have nG : G.get? s.heap.objs.size = none := by
    cases e : G.get? s.heap.objs.size with
    | none => rfl
    | some o => have := K.inv.keep _ _ e; rw [get_size] at this; cases this
  have I₃ : Inv G h₃ := by
    obtain ⟨o, es, ep, ho, hc, hd, _⟩ := hD₂
    exact I₂.keep1 k₃ nG nT (noRec_dict ho hd)
  have hst : storedH (K := Key) [] kk a vv = [(kk, a, vv)] := rfl
  rw [hst] at hD₃
  refine ⟨h₃, _, rfl, fun b o t e => ?_, I₃, ?_⟩
  · exact k₃ b o (fun q => by rw [q, get_size] at e; cases e) (g02 b o t (kp b o e))
  · refine .dct (xs := [(kk, a, vv)]) (ks := [(kk, v)]) (not_sys K.inv) hD₃ nX (fun x hx => by rw [List.mem_singleton.mp hx]; exact fun q => nxa (.inl q)) rfl rfl rfl (.cons ((p₂.gr fun b o q e => k₃ b o (fun z => q (.inr z)) e).anti fun b q => .inl q) .nil)

noncomputable def fSorted : List PV → Option PV
  | [.lst l] => (ints? l).bind fun ns => if l.length < 64 then some (.lst ((sortI ns).map .int)) else none
  | _ => none
theorem fn_sorted : Fn prog w G 0 (.builtin "sorted") fSorted := by
  intro X A s vs ds d R I x ha hf
  unfold fSorted at hf
  split at hf
  · obtain ⟨ns, hns, hf⟩ := Option.bind_eq_some_iff.mp hf
    split at hf
    · rename_i hle
      cases hf
      cases ha with
      | cons a r =>
        cases r
        cases a with
        | @lst la ws _ hl hx hv =>
          refine PyProof.Rows.sorted_ints hl (ints_are hv hns) (by rw [hv.length]; exact hle) fun out ns' h1 h2 h3 => ?_
          have kp : ∀ b o, s.heap.get? b = some o → (sortedAll s.heap ws out).get? b = some o := fun b o e => sortedAll_old e
          refine Post.grow (tk := s.toks) I kp ?_
          obtain ⟨e, he⟩ := sortedAll_at s.heap ws out
          have nx : ¬ X (s.heap.objs.size + 1) := fun q => by
            obtain ⟨o, ho⟩ := x.al _ q
            exact absurd (Heap.lt_size ho) (Nat.not_lt.mpr (Nat.le_succ _))
          rw [← eq_sortI h2 h3]
          have ho : out = out.toList.toArray := by simp
          exact .lst (vs := out.toList) ⟨_, he, rfl, e, by rw [← ho]⟩ nx (by
            have : ∀ {vs : List Value} {l : List Int}, IntsAre vs l → IsAll prog w X (sortedAll s.heap ws out) vs (l.map .int) := fun q => by
              induction q with
              | nil => exact .nil
              | cons a t r ih => exact .cons (.int _ _) ih
            exact this h1)
    · cases hf
  · cases hf

/-- n += an int -/
theorem ex_augint {x : Str} {px pos : Pos} {value : Expr} {i : Nat} {f : List Slot → Option PV} (hi : F.names[i]? = some x) (hx : x ∈ F.sto) (he : Ev prog w G n F value f)
    (hd : (x == ("__debug__" : Str)) = false := by decide) :
    Ex prog w G n F (.AugAssign (.Name x px) .Add value pos) (fun ρ => (getS ρ i).bind fun a => (f ρ).bind fun b => match a, b with | .int a, .int b => some (.go (ρ.set i (.val (.int (a + b))))) | _, _ => none) := by
  intro env h₀ X₀ X W ρ A s o R K hX hX₀ hf
  obtain ⟨a, ha, hf⟩ := Option.bind_eq_some_iff.mp hf
  obtain ⟨b, hb, hf⟩ := Option.bind_eq_some_iff.mp hf
  have hz : ∃ za zb, a = .int za ∧ b = .int zb ∧ some (SOut.go (ρ.set i (.val (.int (za + zb))))) = some o := by
    cases a <;> cases b <;> first | exact ⟨_, _, rfl, rfl, hf⟩ | cases hf
  obtain ⟨za, zb, rfl, rfl, hf⟩ := hz
  cases hf
  refine wpAny_AugAssign_Name ?_
  obtain ⟨t, H⟩ := holds_int K (getS_eq ha) hi
  have ld : ∀ {Q : Value → Shared → Prop}, Q (.int za t) s → wpAny (model prog w) A (loadName env x) Q No s := fun hq => by
    rcases H with ⟨k, m, hn, hm⟩ | ⟨k | k, kd, c, hc, hv⟩
    · exact wpAny_loadName_local K.kind k hn hm hq
    · exact wpAny_loadName_cell K.kind k hc hv hq
    · exact wpAny_loadName_free K.kind k hc hv hq kd
  refine ld ?_
  refine seqP (he env h₀ X W ρ A s _ R K hb) fun v h₁ tk₁ g₁ I₁ p₁ => ?_
  cases p₁
  have K₁ := K.gr g₁ I₁
  refine PyProof.Rows.iadd_int (ok_store (d := .int (za + zb)) K₁ hi hx (.int _ _) fun h₂ tk₂ K₂ k₂ => ?_)
  have kk : KeptS W s.heap h₂ := (KeptS.of_gr g₁).trans fun b o n1 _ e => k₂ b o n1 e
  exact ⟨h₂, tk₂, rfl, kk, older_ok K K₂ kk fun _ q => q, rfl, X, W, K₂, Gro.refl _ _, Gro.refl _ _⟩
end
end Mine

namespace Mine
open PySem PySem.Spec PySem.Calls PyProof.Rows PySem.W

noncomputable def notOwn : Slot → Bool
  | .ownT _ => false
  | .ownI _ => false
  | _ => true
noncomputable def oneOwn (ρ : List Slot) (i : Nat) : Bool := (List.range ρ.length).all fun j => j == i || match ρ[j]? with | some z => notOwn z | none => true
theorem oneOwn_eq {ρ : List Slot} {i j : Nat} {z : Slot} (h : oneOwn ρ i = true) (hj : ρ[j]? = some z) (hne : j ≠ i) : notOwn z = true := by
  unfold oneOwn at h
  rw [List.all_eq_true] at h
  have h1 := h j (List.mem_range.mpr (List.getElem?_eq_some_iff.mp hj).1)
  rw [hj] at h1
  have : (j == i) = false := beq_eq_false_iff_ne.mpr hne
  rw [this] at h1
  simpa using h1

section
variable {prog : Program} {w : World} {G : Heap} {n : Nat} {F : Fm} {mg mb : Str → Option Value} {env : Env} {h₀ h h' : Heap} {X W : Addr → Prop} {ρ : List Slot}

theorem Ok.addW {a : Addr} (K : Ok prog w G F env h₀ X W ρ h) (hX : X a) (h0 : h₀.get? a = none) : Ok prog w G F env h₀ X (fun b => W b ∨ b = a) ρ h :=
  { K with
    wl := .inl K.wl
    wx := fun b q => q.elim (K.wx b) fun z => z ▸ hX
    wf := fun b q => q.elim (K.wf b) fun z => z ▸ h0
    st := fun x hx => (K.st x hx).imp id fun ⟨k, k', c, v, hc, hw, hv⟩ => ⟨k, k', c, v, hc, .inl hw, hv⟩
    oT := fun i l hi => let ⟨x, b, hx, hH, hW, r⟩ := K.oT i l hi; ⟨x, b, hx, hH, .inl hW, r⟩
    oI := fun i l hi => let ⟨x, b, hx, hH, hW, r⟩ := K.oI i l hi; ⟨x, b, hx, hH, .inl hW, r⟩ }

theorem set_at {ρ : List Slot} {i j : Nat} {z u : Slot} (e : (ρ.set i u)[j]? = some z) : (j = i ∧ z = u) ∨ (j ≠ i ∧ ρ[j]? = some z) := by
  rw [List.getElem?_set] at e
  by_cases q : i = j
  · subst q
    rw [if_pos rfl] at e
    split at e
    · cases e; exact .inl ⟨rfl, rfl⟩
    · cases e
  · rw [if_neg q] at e; exact .inr ⟨fun z => q z.symm, e⟩

theorem Ok.upT {a : Addr} {i : Nat} {l : List (Key × PV)} (K : Ok prog w G F env h₀ X W ρ h) (hi : ρ[i]? = some (.val (.obj a))) (hW : W a) (hl : a ≠ env.locals) (hO : OwnT prog w X h a l) : Ok prog w G F env h₀ X W (ρ.set i (.ownT l)) h :=
  { K with
    sl := fun j d e => by
      rcases set_at e with ⟨_, q⟩ | ⟨_, e⟩
      · cases q
      · exact K.sl j d e
    oI := fun j d e => by
      rcases set_at e with ⟨_, q⟩ | ⟨_, e⟩
      · cases q
      · exact K.oI j d e
    oT := fun j d e => by
      rcases set_at e with ⟨rfl, q⟩ | ⟨_, e⟩
      · cases q
        obtain ⟨x, v, hx, hH, hI⟩ := K.sl j _ hi
        cases hI
        exact ⟨x, a, hx, hH, hW, hl, hO⟩
      · exact K.oT j d e }
theorem Ok.upI {a : Addr} {i : Nat} {l : List (Int × PV)} (K : Ok prog w G F env h₀ X W ρ h) (hi : ρ[i]? = some (.val (.obj a))) (hW : W a) (hl : a ≠ env.locals) (hO : OwnI prog w X h a l) : Ok prog w G F env h₀ X W (ρ.set i (.ownI l)) h :=
  { K with
    sl := fun j d e => by
      rcases set_at e with ⟨_, q⟩ | ⟨_, e⟩
      · cases q
      · exact K.sl j d e
    oT := fun j d e => by
      rcases set_at e with ⟨_, q⟩ | ⟨_, e⟩
      · cases q
      · exact K.oT j d e
    oI := fun j d e => by
      rcases set_at e with ⟨rfl, q⟩ | ⟨_, e⟩
      · cases q
        obtain ⟨x, v, hx, hH, hI⟩ := K.sl j _ hi
        cases hI
        exact ⟨x, a, hx, hH, hW, hl, hO⟩
      · exact K.oI j d e }

/-- the dict that a slot owns changes: the slot then holds its address alone -/
theorem Ok.mut {a : Addr} {i : Nat} {x : Str} {o : Obj} {es : Array DictEntry} {ep : Nat} (K : Ok prog w G F env h₀ X W ρ h) (hx : F.names[i]? = some x) (hH : Holds env h x (.ref a)) (hW : W a) (hl : a ≠ env.locals) (ho : h.get? a = some o) (hd : o.data = .dict es ep) (hi : i < ρ.length)
    (hone : oneOwn ρ i = true) (hs : Heap.SameBut a h h') (al : ∃ o, h'.get? a = some o) : Ok prog w G F env h₀ X W (ρ.set i (.val (.obj a))) h' := by
  have gX : Gr X h h' := fun b o n e => (hs.2 b fun q => n (q ▸ K.wx a hW)).trans e
  have nc : ∀ {c : Addr} {v : Option Value}, h.IsCell c v → c ≠ a := fun ⟨o', e, e'⟩ q => by
    rw [q, ho] at e; cases e
    rw [hd] at e'; cases e'
  have hld : ∀ y v, Holds env h y v → Holds env h' y v := fun y v H => by
    rcases H with ⟨k, m, hn, hm⟩ | ⟨k, k', c, hc, hv⟩
    · exact .inl ⟨k, m, hn.sameBut hs (Ne.symm hl), hm⟩
    · exact .inr ⟨k, k', c, hc, hv.sameBut hs (nc hv)⟩
  exact { K with
    inv := K.inv.same hs (K.wG hW) (fun q => K.tw _ q hW) (noRec_dict ho hd)
    kp := fun b o n e => (hs.2 b fun q => by rw [q, K.wf a hW] at e; cases e).trans (K.kp b o n e)
    ns := let ⟨m, hm⟩ := K.ns; ⟨m, hm.sameBut hs (Ne.symm hl)⟩
    al := fun b hb => by
      by_cases q : b = a
      · exact q ▸ al
      · obtain ⟨o, e⟩ := K.al b hb; exact ⟨o, (hs.2 b q).trans e⟩
    ca := fun n b hb => by
      by_cases q : b = a
      · exact q ▸ al
      · obtain ⟨o, e⟩ := K.ca n b hb; exact ⟨o, (hs.2 b q).trans e⟩
    st := fun y hy => (K.st y hy).imp id fun ⟨k, k', c, v, hc, hw, hv⟩ => ⟨k, k', c, v, hc, hw, hv.sameBut hs (nc hv)⟩
    sl := fun j d e => by
      rcases set_at e with ⟨rfl, q⟩ | ⟨_, e⟩
      · cases q; exact ⟨x, _, hx, hld _ _ hH, .obj a⟩
      · obtain ⟨y, v, hy, hH', hI⟩ := K.sl j d e
        exact ⟨y, v, hy, hld _ _ hH', hI.gr gX⟩
    oT := fun j d e => by
      rcases set_at e with ⟨_, q⟩ | ⟨hne, e⟩
      · cases q
      · exact absurd (show false = true from oneOwn_eq hone e hne) Bool.false_ne_true
    oI := fun j d e => by
      rcases set_at e with ⟨_, q⟩ | ⟨hne, e⟩
      · cases q
      · exact absurd (show false = true from oneOwn_eq hone e hne) Bool.false_ne_true }

theorem ex_newT {x : Str} {px dpos pos : Pos} {i : Nat} (hi : F.names[i]? = some x) (hx : x ∈ F.sto) :
    Ex prog w G n F (.Assign [.Name x px] (.Dict [] [] dpos) pos) (fun ρ => if i < ρ.length then some (.go (ρ.set i (.ownT []))) else none) := by
  intro env h₀ X₀ X W ρ A s o R K hX hX₀ hf
  dsimp only at hf
  split at hf
  case isFalse => cases hf
  rename_i hlt
  cases hf
  refine wpAny_Assign_Name (wpAny_Dict_empty ?_) rfl
  have kp : ∀ b o, s.heap.get? b = some o → (s.heap.push { cls := .type "dict", data := .dict #[] }).get? b = some o := fun b o e => Heap.get?_push_of_some _ e
  have K₁ : Ok prog w G F env h₀ (fun b => X b ∨ b = s.heap.objs.size) W ρ (s.heap.push { cls := .type "dict", data := .dict #[] }) := K.more (Gr.of kp) (K.inv.gr_keep kp) (fun b q => .inl q) (fun b q => q.imp id fun z => by rw [z]; exact get_size _)
    fun b q => q.elim (fun q => let ⟨o, e⟩ := K.al b q; ⟨o, kp b o e⟩) fun z => by rw [z]; exact ⟨_, Heap.get?_push_size _ rfl⟩
  have nX : ¬ X s.heap.objs.size := K.xok.fresh (get_size _)
  have nW : ¬ W s.heap.objs.size := fun q => nX (K.wx _ q)
  have h0 : h₀.get? s.heap.objs.size = none := by
    cases e : h₀.get? s.heap.objs.size with
    | none => rfl
    | some o => have := K.kp _ _ (fun t => nX (K.tx _ t)) e; rw [get_size] at this; cases this
  refine ok_store (d := .obj s.heap.objs.size) K₁ hi hx (.obj _) fun h₂ tk₂ K₂ k₂ => ?_
  have hD : (s.heap.push { cls := .type "dict", data := .dict #[] }).DictOfH (tKind prog w) s.heap.objs.size [] := Heap.DictOfH.new _
  have hO : OwnT prog w (fun b => X b ∨ b = s.heap.objs.size) h₂ s.heap.objs.size [] := ⟨[], ⟨dictOfH_gr hD (fun o => k₂ _ o nW) (fun y hm => nomatch hm), not_sys K.inv⟩, fun y hm => (nomatch hm), rfl, .nil⟩
  have K₃ := (K₂.addW (.inr rfl) h0).upT (i := i) (by rw [List.getElem?_set]; simp [hlt]) (.inr rfl) (fun q => nW (q ▸ K.wl)) hO
  rw [List.set_set] at K₃
  have kk : KeptS W s.heap h₂ := fun b o n1 _ e => k₂ b o n1 (kp b o e)
  exact ⟨h₂, tk₂, rfl, kk, older_ok K K₃ kk (fun _ q => .inl q), rfl, _, _, K₃, ⟨fun b q => .inl q, fun b q => q.imp id fun z => by rw [z]; exact get_size _⟩, ⟨fun b q => .inl q, fun b q => q.imp id fun z => by rw [z]; exact get_size _⟩⟩

noncomputable def keyIn (k : Key) (l : List Key) : Bool := l.any fun x => decide (x = k)
theorem keyIn_no {k : Key} {l : List Key} (h : keyIn k l = false) : k ∉ l := fun q => by
  have : keyIn k l = true := List.any_eq_true.mpr ⟨k, q, by simp⟩
  rw [h] at this; cases this
theorem keyIn_yes {k : Key} {l : List Key} (h : keyIn k l = true) : k ∈ l := by
  obtain ⟨y, hy, e⟩ := List.any_eq_true.mp h
  have : y = k := by simpa using e
  exact this ▸ hy
noncomputable def setT (i : Nat) (fk fv : List Slot → Option PV) (ρ : List Slot) : Option SOut :=
  match ρ[i]? with
  | some (.ownT l) => (fv ρ).bind fun v => (fk ρ).bind fun kd => (pvKey kd).bind fun k => if keyIn k (l.map (·.1)) = false ∧ oneOwn ρ i = true ∧ l.length ≤ 1000 then some (.go (ρ.set i (.ownT (l ++ [(k, v)])))) else none
  | _ => none
theorem atKey_none {xs : List (Key × Addr × Value)} {k : Key} (h : k ∉ xs.map (·.1)) : atKey xs k = none := by
  unfold atKey
  rw [List.find?_eq_none.mpr fun y hy q => h (List.mem_map.mpr ⟨y, hy, by simpa using q⟩)]
  rfl
theorem ex_setT {x : Str} {px spos pos : Pos} {ke ve : Expr} {i : Nat} {fk fv : List Slot → Option PV} (hi : F.names[i]? = some x) (hk : Ev prog w G n F ke fk) (hv : Ev prog w G n F ve fv) (hn : 1 ≤ n) (hd : (x == ("__debug__" : Str)) = false := by decide)
    (hsw : ∀ env, swapsWith ve (some (.Subscript (.Name x px) ke spos)) pos.line env = pure false := by intro _; rfl) :
    Ex prog w G n F (.Assign [.Subscript (.Name x px) ke spos] ve pos) (setT i fk fv) := by
  intro env h₀ X₀ X W ρ A s o R K hX hX₀ hf
  unfold setT at hf
  split at hf
  case h_2 => cases hf
  rename_i l hρ
  obtain ⟨v, hfv, hf⟩ := Option.bind_eq_some_iff.mp hf
  obtain ⟨kd, hfk, hf⟩ := Option.bind_eq_some_iff.mp hf
  obtain ⟨k, hkk, hf⟩ := Option.bind_eq_some_iff.mp hf
  split at hf
  case isFalse => cases hf
  rename_i hc
  cases hf
  refine wpAny_Assign_Subscript ?_ (hsw env)
  refine seqP (hv env h₀ X W ρ A s v R K hfv) fun vv h₁ tk₁ g₁ I₁ p₁ => ?_
  have K₁ := K.gr g₁ I₁
  obtain ⟨y, a, hy, hH, hW, hl, hO⟩ := K₁.oT i l hρ
  have : y = x := Option.some.inj (hy.symm.trans hi)
  subst this
  refine ld_holds K₁.kind hH ?_ hd
  refine seqP (hk env h₀ X W ρ A _ kd R K₁ hfk) fun kv h₂ tk₂ g₂ I₂ p₂ => ?_
  have K₂ := K₁.gr g₂ I₂
  obtain ⟨ka, rfl, hka, nka⟩ := is_key p₂ hkk
  have na : ¬ isTab a := fun t => K.tw _ t hW
  obtain ⟨xs, ⟨hD, hsys⟩, hyx, hks, hA⟩ := hO.gr (g₂.wk K.tx) (fun o => g₂ _ o na)
  have p₁' := p₁.gr (g₂.wk K.tx)
  have hkn : k ∉ xs.map (·.1) := by
    rw [hks]; exact keyIn_no hc.1
  have hlen : xs.length ≤ sizeLine := by
    have := congrArg List.length hks
    rw [List.length_map, List.length_map] at this
    rw [this]; exact Nat.le_trans hc.2.2 (by decide)
  refine wpAny_setItem_heap (knd := tKind prog w) (tupleKind_room_in1 (R.units1 1 (by omega))) hka hD (fun h₃ hD₃ hs₃ => ?_) hlen
  rw [storedH_new (atKey_none hkn)] at hD₃
  have H₂ : Holds env h₂ y (.ref a) := by
    obtain ⟨y', a', hy', hH', _, _, _⟩ := K₂.oT i l hρ
    exact hH.gr (fun o => g₂ _ o fun t => K₁.tw _ t K₁.wl) fun c hc o => g₂ _ o (K₁.cl _ _ hc).2
  obtain ⟨od, es, ep, hod, hcd, hdd, _⟩ := id hD
  have alv : ∃ o, h₃.get? a = some o := let ⟨o, _, _, e, _⟩ := hD₃; ⟨o, e⟩
  have hlt : i < ρ.length := (List.getElem?_eq_some_iff.mp hρ).1
  have K₃ := K₂.mut hi H₂ hW hl hod hdd hlt hc.2.1 hs₃ alv
  have gX : Gr X h₂ h₃ := fun b o n e => (hs₃.2 b fun q => n (q ▸ K.wx a hW)).trans e
  have hO₃ : OwnT prog w X h₃ a (l ++ [(k, v)]) := by
    refine ⟨xs ++ [(k, ka, vv)], ⟨hD₃, hsys⟩, fun z hz => ?_, by simp [hks], ?_⟩
    · rcases List.mem_append.mp hz with hz | hz
      · exact hyx z hz
      · rw [List.mem_singleton.mp hz]; exact nka
    · rw [List.map_append, List.map_append]
      exact (hA.gr gX).append (.cons (p₁'.gr gX) .nil)
  have K₄ := K₃.upT (i := i) (by rw [List.getElem?_set]; simp [hlt]) hW hl hO₃
  rw [List.set_set] at K₄
  have kk : KeptS W s.heap h₃ := ((KeptS.of_gr g₁).trans (KeptS.of_gr g₂)).trans fun b o n1 _ e => (hs₃.2 b fun q => n1 (q ▸ hW)).trans e
  exact ⟨h₃, _, rfl, kk, older_ok K K₄ kk fun _ q => q, rfl, X, W, K₄, Gro.refl _ _, Gro.refl _ _⟩
end
end Mine

namespace Mine
open PySem PySem.Spec PySem.Calls PyProof.Rows PySem.W

section
variable {prog : Program} {w : World} {G : Heap} {n : Nat} {F : Fm} {mg mb : Str → Option Value}

theorem atKey_isSome (xs : List (Key × Addr × Value)) (k : Key) : (atKey xs k).isSome = keyIn k (xs.map (·.1)) := by
  cases e : keyIn k (xs.map (·.1)) with
  | false => rw [atKey_none (keyIn_no e)]; rfl
  | true =>
    obtain ⟨y, hy, ey⟩ := List.mem_map.mp (keyIn_yes e)
    unfold atKey
    rw [Option.isSome_map, List.find?_isSome]
    exact ⟨y, hy, by simpa using ey⟩

noncomputable def inT (i : Nat) (fk : List Slot → Option PV) (ρ : List Slot) : Option Bool := match ρ[i]? with
  | some (.ownT l) => (fk ρ).bind fun kd => (pvKey kd).bind fun k => some (keyIn k (l.map (·.1)))
  | _ => none
theorem ts_inT {x : Str} {px pos : Pos} {ke : Expr} {i : Nat} {fk : List Slot → Option PV} (hi : F.names[i]? = some x) (hk : Ev prog w G n F ke fk) (hn : 1 ≤ n) (hd : (x == ("__debug__" : Str)) = false := by decide)
    (hm : behindInMarks .In (.Name x px) = false := by with_unfolding_all rfl) : Ts prog w G n F (.Compare ke [.In] [.Name x px] pos) (inT i fk) := by
  intro env h₀ X W ρ A s b R K hf
  unfold inT at hf
  split at hf
  case h_2 => cases hf
  rename_i l hρ
  obtain ⟨kd, hfk, hf⟩ := Option.bind_eq_some_iff.mp hf
  obtain ⟨k, hkk, hf⟩ := Option.bind_eq_some_iff.mp hf
  cases hf
  refine wpAny_isTrue_Compare1 ?_ hm
  refine seqP (hk env h₀ X W ρ A s kd R K hfk) fun kv h₁ tk₁ g₁ I₁ p₁ => ?_
  have K₁ := K.gr g₁ I₁
  obtain ⟨y, a, hy, hH, hW, hl, xs, ⟨hD, hsys⟩, hyx, hks, hA⟩ := K₁.oT i l hρ
  have : y = x := Option.some.inj (hy.symm.trans hi)
  subst this
  refine ld_holds K₁.kind hH ?_ hd
  obtain ⟨ka, rfl, hka, nka⟩ := is_key p₁ hkk
  refine wpAny_in_heap (knd := tKind prog w) (tupleKind_room_in1 (R.units1 1 (by omega))) hka hsys hD ?_
  rw [atKey_isSome, hks]
  exact wpAny_truthy_bool ⟨h₁, _, rfl, g₁, I₁, rfl⟩

noncomputable def retT (i : Nat) (ρ : List Slot) : Option SOut := match ρ[i]? with
  | some (.ownT l) => some (.ret (.dct l))
  | _ => none
theorem ex_retT {x : Str} {px pos : Pos} {i : Nat} (hi : F.names[i]? = some x) (hd : (x == ("__debug__" : Str)) = false := by decide) : Ex prog w G n F (.Return (some (.Name x px)) pos) (retT i) := by
  intro env h₀ X₀ X W ρ A s o R K hX hX₀ hf
  unfold retT at hf
  split at hf
  case h_2 => cases hf
  rename_i l hρ
  cases hf
  obtain ⟨y, a, hy, hH, hW, hl, xs, ⟨hD, hsys⟩, hyx, hks, hA⟩ := K.oT i l hρ
  have : y = x := Option.some.inj (hy.symm.trans hi)
  subst this
  refine wpAny_Return_some (ld_holds K.kind hH ?_ hd)
  refine ⟨s.heap, s.toks, rfl, KeptS.refl _ _, fun _ e => e, .ref a, rfl, K.inv, K.kp, ?_⟩
  exact .dct hsys hD (hX₀.fresh (K.wf a hW)) (fun y hm q => hyx y hm (hX _ q)) hks rfl rfl (hA.anti hX)

/-- where the iterator over the items of a dict stands -/
noncomputable def ItmSt (I d : Addr) (es : Array DictEntry) (ep : Nat) (i : Nat) (h : Heap) : Prop := (∃ ok ov, IsItemIter h I d i es.size ep ok ov) ∧ RawD h d es ep

noncomputable def pvItems : PV → Option (List PV)
  | .dct l => some (l.map fun x => .tup [keyPV x.1, x.2])
  | _ => none

theorem forLoopTup {prog : Program} {w : World} {A : Around} {s : Shared} {R : Result → Shared → Prop} {target : Expr} {it : Value} {body : List Stmt} {env : Env} (I : Nat → Shared → Prop)
    (turn : ∀ n s, I n s → wpAny (model prog w) A (pyNext it) (fun r s₁ => match r with
      | none => R (.ok .next) s₁
      | some v => wpAny (model prog w) A (letOwnedTupleGo target it v) (fun _ s₁' => wpAny (model prog w) A (assign target env v) (fun _ s₂ => wpAny (model prog w) A (execs body env) (fun f s₃ => match f with
          | .next | .cont => ∃ m, m < n ∧ I m s₃
          | .brk => R (.ok .next) s₃
          | .ret v => R (.ok (.ret v)) s₃) No s₂) No s₁') No s₁) No s)
    (n : Nat) (h : I n s) : codeAny (model prog w) A (.forLoop target it body [] env) R s := by
  refine codeAny_forLoop_any I (fun n s hI => wpAny_mono (turn n s hI) (fun r s₁ h₁ => ?_) fun _ _ h' => h'.elim) n h
  cases r with
  | none => exact wpAny_execs_nil h₁
  | some v => exact wpAny_mono h₁ (fun _ _ h₁' => wpAny_mono h₁' (fun _ _ h₂ => wpAny_mono h₂ (fun _ _ h₃ => h₃) fun _ _ h' => h'.elim) fun _ _ h' => h'.elim) fun _ _ h' => h'.elim

/-- what the dict's entries are -/
noncomputable def EntAre (prog : Program) (w : World) (X : Addr → Prop) (h : Heap) (es : Array DictEntry) (l : List (Key × PV)) : Prop :=
  es.size = l.length ∧ ∀ (j : Nat) (e : DictEntry), es[j]? = some e → ∃ kv, l[j]? = some kv ∧ Is prog w X h e.key (keyPV kv.1) ∧ Is prog w X h e.val kv.2
theorem EntAre.gr {X : Addr → Prop} {h h' : Heap} {es : Array DictEntry} {l : List (Key × PV)} (x : EntAre prog w X h es l) (g : Gr X h h') : EntAre prog w X h' es l :=
  ⟨x.1, fun j e he => let ⟨kv, h1, h2, h3⟩ := x.2 j e he; ⟨kv, h1, h2.gr g, h3.gr g⟩⟩
theorem EntAre.avoid {X Y : Addr → Prop} {h : Heap} {es : Array DictEntry} {l : List (Key × PV)} (x : EntAre prog w X h es l) (s : ∀ b, Y b → X b ∨ h.get? b = none) : EntAre prog w Y h es l :=
  ⟨x.1, fun j e he => let ⟨kv, h1, h2, h3⟩ := x.2 j e he; ⟨kv, h1, h2.avoid s, h3.avoid s⟩⟩
theorem entAre_of {X : Addr → Prop} {h : Heap} {a : Addr} {xs : List (Key × Addr × Value)} {ks : List (Key × PV)} {es : Array DictEntry} (hd : h.DictOfH (tKind prog w) a xs) (hy : ∀ x ∈ xs, ¬ X x.2.1) (e1 : xs.map (·.1) = ks.map (·.1)) (hv : IsAll prog w X h (xs.map (·.2.2)) (ks.map (·.2)))
    (hes : es.toList = xs.map (entryOfKey (tKind prog w))) : EntAre prog w X h es ks := by
  obtain ⟨o, es', ep', _, _, _, _, his, _⟩ := hd
  have hl : xs.length = ks.length := by simpa using congrArg List.length e1
  refine ⟨by rw [← Array.length_toList, hes, List.length_map, hl], fun j e he => ?_⟩
  rw [← Array.getElem?_toList, hes, List.getElem?_map] at he
  obtain ⟨xq, hxq, rfl⟩ := Option.map_eq_some_iff.mp he
  have hkq : (ks.map (·.1))[j]? = some xq.1 := by rw [← e1, List.getElem?_map, hxq]; rfl
  rw [List.getElem?_map] at hkq
  obtain ⟨kq, hkq, ek⟩ := Option.map_eq_some_iff.mp hkq
  obtain ⟨dd, hdd, hI⟩ := hv.get (show (xs.map (·.2.2))[j]? = some xq.2.2 by rw [List.getElem?_map, hxq]; rfl)
  rw [List.getElem?_map, hkq] at hdd
  cases hdd
  have hm := List.mem_of_getElem? hxq
  refine ⟨kq, hkq, ?_, hI⟩
  rw [ek]; exact key_is (his xq hm) (hy xq hm)
end
end Mine

namespace Mine
open PySem PySem.Spec PySem.Calls PyProof.Rows PySem.W

section
variable {prog : Program} {w : World} {G : Heap} {n : Nat} {F : Fm} {mg mb : Str → Option Value}

theorem ex_forItems {x y : Str} {px py tpos apos cpos pos : Pos} {kk i₁ i₂ : Nat} {e : Expr} {body : List Stmt} {f : List Slot → Option PV} {g : List Slot → Option SOut}
    (hi : F.names[i₁]? = some x) (hx : x ∈ F.sto) (hj : F.names[i₂]? = some y) (hy : y ∈ F.sto) (he : Ev prog w G n F e f) (hb : Exs prog w G n F body g)
    (hm : ∀ env, ∃ pl, eval (.Call (.Attribute e (Str.ofString "items") apos) [] [] cpos) env = (do
      let ov ← eval e env
      standAt apos.atName
      let (f, first) ← holding [ov] (getMethod ov (Str.ofString "items") pl)
      callWith cpos f first (backTo cpos (starEach [] env)) []) := by intro _; exact ⟨_, rfl⟩) :
    Ex prog w G n F (.For (.Tuple [.Name x px, .Name y py] kk tpos) (.Call (.Attribute e (Str.ofString "items") apos) [] [] cpos) body [] pos)
      (fun ρ => (f ρ).bind fun a => (pvItems a).bind fun ds => forF (fun ρ d => match d with | .tup [a, b] => some ((ρ.set i₁ (.val a)).set i₂ (.val b)) | _ => none) g ρ ds) := by
  intro env h₀ X₀ X W ρ A s o R K hX hX₀ hf
  obtain ⟨dv, hdv, hf⟩ := Option.bind_eq_some_iff.mp hf
  obtain ⟨ds, hds, hf⟩ := Option.bind_eq_some_iff.mp hf
  obtain ⟨pl, hm⟩ := hm env
  refine wpAny_For ?_
  refine MethodCall_ (he := hm) ?_
  refine seqP (he env h₀ X W ρ A s dv R K hdv) fun u h₁ tk₁ g₁ I₁ p₁ => ?_
  cases p₁ with
  | @dct d xs ks vs ds' hs hd hnx hyx e1 e2 e3 hv =>
  cases hds
  subst e2 e3
  obtain ⟨es, ep, hr, hes⟩ := raw_of hd
  have hent₁ : EntAre prog w X h₁ es ks := entAre_of hd hyx e1 hv hes
  have hod : ∃ o, h₁.get? d = some o ∧ o.dict = none := let ⟨o, ho, hc, _⟩ := hr; ⟨o, ho, hc.2.1⟩
  refine getMethod_builtin (T := "dict") (RawD.typeIs (s := { s with heap := h₁, toks := tk₁ }) hr) PySem.F.plainAttrs_dict PySem.F.slot_dict_items PySem.F.type_dict_items (fun a e => by cases e; exact hod) (callWith_method0 ?_)
  refine raw_items_view hs hr ?_
  have kp0 : ∀ b o, h₁.get? b = some o → (h₁.push { cls := .type "dict_items", data := .fields #[.ref d] }).get? b = some o := fun b o e => Heap.get?_push_of_some _ e
  generalize hv0 : h₁.push { cls := .type "dict_items", data := .fields #[.ref d] } = hw at kp0
  have vw : hw.IsItemsView h₁.objs.size d := by rw [← hv0]; exact ⟨_, Heap.get?_push_size _ rfl, rfl, rfl⟩
  have hr1 : RawD hw d es ep := hr.at' fun o e => kp0 _ o e
  refine raw_items vw hr1 ?_
  have kp1 : ∀ b o, hw.get? b = some o → (hw.push { cls := .type "dict_itemiterator", data := .fields #[.none, .bool false, .ref d, .int 0 0, .int es.size 0, .int ep 0, .none, .none] }).get? b = some o := fun b o e => Heap.get?_push_of_some _ e
  have hit₂ : IsItemIter (hw.push { cls := .type "dict_itemiterator", data := .fields #[.none, .bool false, .ref d, .int 0 0, .int es.size 0, .int ep 0, .none, .none] }) hw.objs.size d 0 es.size ep .none .none := Heap.get?_push_size _ rfl
  generalize hv2 : hw.push { cls := .type "dict_itemiterator", data := .fields #[.none, .bool false, .ref d, .int 0 0, .int es.size 0, .int ep 0, .none, .none] } = h₂ at kp1 hit₂
  show codeAny (model prog w) A (.forLoop _ (.ref hw.objs.size) body [] env) _ { s with heap := h₂, toks := tk₁ }
  have kp := fun b o e => kp1 b o (kp0 b o e)
  have Iw : Inv G hw := I₁.gr_keep kp0
  have gw : Gr isTab s.heap hw := g₁.trans (Gr.of kp0)
  have newI : s.heap.get? hw.objs.size = none := new_of_gr gw Iw (get_size _)
  have g₂ : Gr isTab s.heap h₂ := g₁.trans (Gr.of kp)
  have I₂ : Inv G h₂ := I₁.gr_keep kp
  generalize hI : hw.objs.size = I at hit₂ newI
  have nX : ¬ X I := K.xok.fresh newI
  have nT : ¬ isTab I := fun t => nX (K.tx _ t)
  have n0 : h₀.get? I = none := by
    cases e : h₀.get? I with
    | none => rfl
    | some o => have := K.kp _ _ nT e; rw [newI] at this; cases this
  have nc : ∀ n c, env.cells.lookup n = some c → c ≠ I := fun n c hc q => by obtain ⟨o, e⟩ := K.ca n c hc; rw [q, newI] at e; cases e
  have neI : ∀ {b o}, s.heap.get? b = some o → b ≠ I := fun e q => by rw [q, newI] at e; cases e
  have alX : ∀ b, (X b ∨ b = I) → ∃ o, h₂.get? b = some o := fun b hb => hb.elim ((K.gr g₂ I₂).al b) fun q => q ▸ ⟨_, hit₂⟩
  have K₂ : Ok prog w G F env h₀ (fun b => X b ∨ b = I) W ρ h₂ := K.more g₂ I₂ (fun b q => .inl q) (fun b q => q.imp id fun z => by rw [z]; exact newI) alX
  have dI : d ≠ I := fun q => by
    obtain ⟨o, ho, _⟩ := hr1
    rw [q, ← hI, get_size] at ho; cases ho
  have hent₂ : EntAre prog w (fun b => X b ∨ b = I) h₂ es ks := (((hent₁.gr (Gr.of kp0)).avoid fun b hb => hb.imp id fun z => by rw [z, ← hI]; exact get_size _).gr (Gr.of kp1))
  have hlen : es.size = (ks.map fun x => PV.tup [keyPV x.1, x.2]).length := by rw [List.length_map]; exact hent₁.1
  generalize hdsx : (ks.map fun x => PV.tup [keyPV x.1, x.2]) = dl at hf hlen
  refine codeAny_mono (R := fun r s' => ∃ fl, r = .ok fl ∧ SP prog w G F env h₀ X₀ X W s o fl s') ?_ (fun r s' hr => by obtain ⟨fl, rfl, hr⟩ := hr; exact hr)
  refine forLoopTup (fun m s' => ∃ i ρ' X' W' h' tk', s' = { s with heap := h', toks := tk' } ∧ m + i = dl.length ∧ Ok prog w G F env h₀ X' W' ρ' h' ∧ X' I ∧ ¬ W' I ∧ Gro X X' s.heap ∧ Gro W W' s.heap ∧ ItmSt I d es ep i h' ∧ ¬ X' d ∧ EntAre prog w X' h' es ks ∧
    forF (fun ρ d => match d with | .tup [a, b] => some ((ρ.set i₁ (.val a)).set i₂ (.val b)) | _ => none) g ρ' (dl.drop i) = some o ∧ KeptS W s.heap h' ∧ Older s.heap h') (fun m s' hI' => ?_) dl.length
    ⟨0, ρ, _, W, h₂, tk₁, rfl, rfl, K₂, .inr rfl, fun q => nX (K.wx _ q), ⟨fun b q => .inl q, fun b q => q.imp id fun z => by rw [z]; exact newI⟩, Gro.refl _ _, ⟨⟨_, _, hit₂⟩, hr1.at' fun o e => kp1 _ o e⟩, fun q => q.elim hnx dI, hent₂, hf, KeptS.of_gr g₂, Older.of_gr g₂ I₂⟩
  obtain ⟨i, ρ', X', W', h', tk', rfl, hmi, K', xI, wI, gX, gW, ⟨⟨ok, ov, hit⟩, hrd⟩, ndX, hent, hl, kk, old⟩ := hI'
  have oI : Off X' W' h₀ env I := ⟨xI, wI, nT, n0, nc⟩
  have hrec : NoRec h' I := fun o' vs q t e e' e'' => by
    rw [hit] at e; cases e; cases e'; cases e''
  by_cases hlt : i < es.size
  · refine raw_it_item hit hrd hlt fun h₃ hit₃ htup hsz₃ k₃ => ?_
    refine wpAny_letOwnedTupleGo_items hit₃ fun h₄ hit₄ hs₄ => ?_
    have nI : h'.objs.size ≠ I := fun q => absurd (Heap.lt_size hit) (by rw [← q]; exact Nat.lt_irrefl _)
    have k₄ : ∀ b o, b ≠ I → h'.get? b = some o → h₄.get? b = some o := fun b o hb e => (hs₄.2 b hb).trans (k₃ b o hb e)
    have ht₄ : h₄.get? h'.objs.size = some { cls := .type "tuple", data := .seq #[es[i].key, es[i].val] } := (hs₄.2 _ nI).trans htup
    have K₄ : Ok prog w G F env h₀ X' W' ρ' h₄ := K'.off (K'.inv.keep1 k₄ (oI.nG K') oI.t hrec) k₄ oI.x ⟨_, hit₄⟩ oI.w oI.n (oI.nl K') oI.c
    have gX₄ : Gr X' h' h₄ := fun b o hb e => k₄ b o (fun q => hb (q ▸ xI)) e
    have hent₄ := hent.gr gX₄
    have al₄ : ∀ b, (∃ o, h'.get? b = some o) → ∃ o, h₄.get? b = some o := fun b ⟨o, e⟩ => by
      by_cases q : b = I
      · rw [q]; exact ⟨_, hit₄⟩
      · exact ⟨o, k₄ b o q e⟩
    have kk₄ : KeptS W s.heap h₄ := fun b o n1 n2 e => k₄ b o (neI e) (kk b o n1 n2 e)
    obtain ⟨kv, hkv, iskey, isval⟩ := hent₄.2 i es[i] (by simp [hlt])
    have hdl : dl[i]? = some (.tup [keyPV kv.1, kv.2]) := by rw [← hdsx, List.getElem?_map, hkv]; rfl
    have ntX : ¬ X' h'.objs.size := K'.xok.fresh (get_size _)
    have hI₄ : Is prog w X' h₄ (.ref h'.objs.size) (.tup [keyPV kv.1, kv.2]) := .tup (vs := [es[i].key, es[i].val]) ⟨_, ht₄, rfl, 0, rfl⟩ ntX (.cons iskey (.cons isval .nil))
    obtain ⟨hlt', hde⟩ := List.getElem?_eq_some_iff.mp hdl
    rw [List.drop_eq_getElem_cons hlt', hde] at hl
    unfold forF at hl
    obtain ⟨ρ₁, hρ₁, hl⟩ := Option.bind_eq_some_iff.mp hl
    obtain ⟨o₁, ho₁, hl⟩ := Option.bind_eq_some_iff.mp hl
    refine wpAny_mono (tg_two (n := n) hi hx hj hy env h₀ X' W' ρ' A _ _ _ ρ₁ R K₄ hI₄ hρ₁) (fun _ s₅ hs₅ => ?_) fun _ _ e => e
    obtain ⟨h₅, tk₅, rfl, K₅, k₅⟩ := hs₅
    refine wpAny_mono (hb env h₀ X₀ X' W' ρ₁ A _ o₁ R K₅ (fun b q => gX.1 b (hX b q)) hX₀ ho₁) (fun fl s₆ hs₆ => ?_) fun _ _ e => e
    obtain ⟨h₆, tk₆, rfl, k₆, old₆, hs₆⟩ := hs₆
    have k₄₆ : KeptS W' h₄ h₆ := k₅.trans k₆
    have o₄₅ : Older h₄ h₅ := older_ok K₄ K₅ k₅ fun _ q => q
    have oldS : Older s.heap h₅ := fun b e => by
      have e₃ : h₄.get? b = none := o₄₅ b e
      cases q : h'.get? b with
      | none => exact old b q
      | some o => obtain ⟨o', e'⟩ := al₄ b ⟨o, q⟩; rw [e₃] at e'; cases e'
    have old' : Older s.heap h₆ := oldS.trans old₆
    have kk₆ : KeptS W s.heap h₆ := fun b o n1 n2 e => k₄₆ b o (fun q => (gW.2 b q).elim n1 fun z => by rw [e] at z; cases z) n2 (kk₄ b o n1 n2 e)
    cases o₁ with
    | ret d' =>
      cases hl
      obtain ⟨u, rfl, r⟩ := hs₆
      exact ⟨.ret u, rfl, h₆, tk₆, rfl, kk₆, old', u, rfl, r⟩
    | go ρ₂ =>
      obtain ⟨rfl, X₆, W₆, K₆, gX₆, gW₆⟩ := hs₆
      have gX' : Gro X' X₆ h₄ := ⟨gX₆.1, fun b q => (gX₆.2 b q).imp id fun z => o₄₅ b z⟩
      have ntd : ¬ isTab d := fun t => ndX (K'.tx d t)
      have nwd : ¬ W' d := fun q => ndX (K'.wx d q)
      have rd₄ : RawD h₄ d es ep := hrd.at' fun o e => k₄ d o dI e
      refine ⟨m - 1, by omega, i + 1, ρ₂, X₆, W₆, h₆, tk₆, rfl, by omega, K₆, gX₆.1 _ xI, fun q => ?_, gX.trans gX₆ oldS, gW.trans gW₆ oldS, ⟨⟨_, _, k₄₆ _ _ wI nT hit₄⟩, rd₄.at' fun o e => k₄₆ d o nwd ntd e⟩, fun q => ?_, ?_, hl, kk₆, old'⟩
      · rcases gW₆.2 _ q with z | z
        · exact wI z
        · have := k₅ _ _ wI nT hit₄; rw [z] at this; cases this
      · rcases gX'.2 _ q with z | z
        · exact ndX z
        · obtain ⟨o, e, _⟩ := rd₄; rw [e] at z; cases z
      · exact (hent₄.avoid fun b hb => gX'.2 b hb).gr fun b o q e => k₄₆ b o (fun z => q (gX₆.1 b (K'.wx b z))) (fun z => q (K₆.tx b z)) e
  · have hi' : i = es.size := by omega
    subst hi'
    refine raw_it_end R.1 hit hrd fun h₃ hx₃ => ?_
    have k₃ : ∀ b o, b ≠ I → h'.get? b = some o → h₃.get? b = some o := fun b o hb e => hx₃ b o hb e
    rw [hlen, List.drop_length] at hl
    cases hl
    have K₃ := K'.gone oI (K'.inv.keep1 k₃ (oI.nG K') oI.t hrec) k₃
    have sub : ∀ b, X b → X' b ∧ b ≠ I := fun b q => ⟨gX.1 b q, fun z => nX (z ▸ q)⟩
    refine ⟨.next, rfl, h₃, _, rfl, fun b o n1 n2 e => k₃ b o (neI e) (kk b o n1 n2 e), fun b e => ?_, rfl, _, W', K₃, ⟨sub, fun b q => gX.2 b q.1⟩, gW⟩
    by_cases q : b = I
    · rw [q]; exact newI
    · cases z : h'.get? b with
      | none => exact old b z
      | some o' => have := k₃ b o' q z; rw [e] at this; cases this
  | _ => cases hds
end
end Mine

namespace Mine
open PySem PySem.Spec PySem.Calls PyProof.Rows PySem.W

section
variable {prog : Program} {w : World} {G : Heap} {n : Nat} {F : Fm} {mg mb : Str → Option Value}

theorem exs_none {sts : List Stmt} : Exs prog w G n F sts (fun _ => none) := by
  intro env h₀ X₀ X W ρ A s o R K hX hX₀ hf
  cases hf
theorem ex_none {st : Stmt} : Ex prog w G n F st (fun _ => none) := by
  intro env h₀ X₀ X W ρ A s o R K hX hX₀ hf
  cases hf

noncomputable def fmAdd : Fm := ⟨["target", "source", "new_callers", "func", "caller"], ["new_callers", "func", "caller"], [], []⟩
noncomputable def addR : {f : List Slot → Option SOut // ∀ (prog : Program) (w : World) (G : Heap), Exs prog w G 3 fmAdd (theBody 1) f} := by
  apply Subtype.mk
  case property =>
    intro prog w G
    dsimp only [theBody, bodyOf, PySem.Challenge.pw_gb0001_01, List.getD, List.getElem?_cons_succ, List.getElem?_cons_zero, Option.getD_some]
    apply exs_cons (ex_newT (i := 2) (by rfl) (by decide))
    apply exs_cons
    case h1 =>
      exact ex_forItems (i₁ := 3) (i₂ := 4) (by rfl) (by decide) (by rfl) (by decide) (ev_name (i := 0) (by rfl) (by decide)) (exs_cons (ex_setT (i := 2) (by rfl) (ev_name (i := 3) (by rfl) (by decide)) (ev_name (i := 4) (by rfl) (by decide)) (by decide)) exs_nil)
    case h2 =>
      apply exs_cons
      case h1 =>
        apply ex_forItems (i₁ := 3) (i₂ := 4) (by rfl) (by decide) (by rfl) (by decide) (ev_name (i := 1) (by rfl) (by decide))
        apply exs_cons (h2 := exs_nil)
        exact ex_if (ts_inT (i := 2) (by rfl) (ev_name (i := 3) (by rfl) (by decide)) (by decide)) exs_none (exs_cons (ex_setT (i := 2) (by rfl) (ev_name (i := 3) (by rfl) (by decide)) (ev_name (i := 4) (by rfl) (by decide)) (by decide)) exs_nil)
      case h2 => exact exs_cons (ex_retT (i := 2) (by rfl)) exs_nil

noncomputable def fmCount : Fm := ⟨["callers", "nc", "calls"], ["nc", "calls"], [], []⟩
noncomputable def countR : {f : List Slot → Option SOut // ∀ (prog : Program) (w : World) (G : Heap), Exs prog w G 3 fmCount (theBody 2) f} := by
  apply Subtype.mk
  case property =>
    intro prog w G
    dsimp only [theBody, bodyOf, PySem.Challenge.pw_gb0001_01, List.getD, List.getElem?_cons_succ, List.getElem?_cons_zero, Option.getD_some]
    apply exs_cons (ex_assign (i := 1) (by rfl) (by decide) ev_int (.inr fun _ => rfl))
    apply exs_cons
    case h1 =>
      exact ex_for (itr_vals (ev_name (i := 0) (by rfl) (by decide))) (tg_name (i := 2) (by rfl) (by decide)) (exs_cons (ex_augint (i := 1) (by rfl) (by decide) (ev_name (i := 2) (by rfl) (by decide))) exs_nil)
    case h2 => exact exs_cons (ex_ret (ev_name (i := 1) (by rfl) (by decide))) exs_nil

/- the evaluation of what was read off -/
end
end Mine

namespace Mine
open PySem PySem.Spec PySem.Calls PyProof.Rows PySem.W

theorem miss_list_keys : typeLookup (.type "list") "keys" = pure none := am_miss_of_fast (by decide +kernel)

theorem no_keys {prog : Program} {w : World} {A : Around} {s : Shared} {a : Addr} {xs : Array Value} {Q : Option Value → Shared → Prop} (hA : A.handled = none) (hl : s.heap.PlainList a xs)
    (h : ∀ h' tk, (∀ b o, s.heap.get? b = some o → h'.get? b = some o) → Q none { s with heap := h', toks := tk }) : wpAny (model prog w) A (getAttr? (.ref a) "keys") Q No s := by
  obtain ⟨k, hx⟩ := hl
  obtain ⟨hp, g, d, tk, os⟩ := s
  have hT : ∀ tk', (⟨hp, g, d, tk', os⟩ : Shared).TypeIs (.ref a) "list" := fun _ => ⟨_, hx, rfl⟩
  have f1 := sub_AttributeError
  have f3 := PySem.F.slot_list_getattribute.lookup
  have f4 := PySem.F.slot_list_getattribute.bind (.ref a)
  have f5 := am_list_getattr_none
  unfold getAttr? getAttrBy? getAttrBy
  repeat (any_goals (first | assumption | exact hT _ | ((with_reducible show wpAny _ _ (call (Value.builtin "list.__getattribute__") _ _) _ _ _); refine call_meets PySem.F.slot_list_getattribute (hT _) am_entry_list_getattribute (PySem.F.args_list_getattribute_2 _ _) (meets_getattribute_miss_list a xs k #[] "keys" _ miss_list_keys (by decide +kernel) (by decide +kernel)) ⟨hx, hA, fun h' tk' e hx' => ?_⟩) | wp_step))
  obtain ⟨t', u', he⟩ := hx'.there
  show wpAny _ _ (getattributeRaised _ _ _ _ _ _ _) _ _ _
  unfold getattributeRaised
  repeat (any_goals (first | assumption | wp_step))
  exact h _ _ hx'.keeps

theorem entry_upd_loop : entryFor table "dict.update.loop" = some Builtin.«dict.update.loop» := entryFor_of_tree (by kernel_rfl)
theorem plain_upd_loop : plainId "dict.update.loop" = true := by decide +kernel

/-- the items of a list of pairs, the first an int -/
noncomputable def PairsAt (h : Heap) (ws : List Value) (kvs : List (Int × Value)) : Prop := ws.length = kvs.length ∧ ∀ (i : Nat) (v : Value), ws[i]? = some v → ∃ a k t x, v = .ref a ∧ h.IsTuple a #[.int k t, x] ∧ kvs[i]? = some (k, x)

theorem stored_fresh {kvs : List (Int × Value)} {k : Int} {v : Value} (h : k ∉ kvs.map (·.1)) : stored kvs k v = kvs ++ [(k, v)] := by
  unfold stored
  rw [if_neg]
  intro q
  obtain ⟨y, hy, e⟩ := List.any_eq_true.mp q
  exact h (List.mem_map.mpr ⟨y, hy, by simpa using e⟩)

theorem upd_loop {prog : Program} {w : World} {A : Around} {R : Result → Shared → Prop} (hh : A.handled = none) {d I la : Addr} {ws : List Value} {kvs : List (Int × Value)} (hdI : d ≠ I) (hdl : d ≠ la) (hlI : la ≠ I) (hn : (kvs.map (·.1)).Nodup) (hsz : kvs.length ≤ 1000) :
    ∀ (k i : Nat) (s : Shared), ws.length - i = k → i ≤ ws.length → s.heap.IsListIter I la i → s.heap.IsList la ws.toArray → PairsAt s.heap ws kvs → s.heap.DictOf (intKind prog w) d (kvs.take i) →
      (∀ h' tk, h'.DictOf (intKind prog w) d kvs → (∀ b o, b ≠ d → b ≠ I → s.heap.get? b = some o → h'.get? b = some o) → R (.ok (.ret .none)) { s with heap := h', toks := tk }) →
      codeAny (model prog w) A (.builtin "dict.update.loop" ⟨[.ref d, .ref I, rawInt i, .none], []⟩) R s := by
  intro k
  induction k with
  | zero =>
    intro i s hk hi hit hl hp hd hR
    have hin : i = ws.length := by omega
    subst hin
    refine codeAny_builtin entry_upd_loop ?_
    rw [Around.under_plainId plain_upd_loop _]
    show wpAny _ A.in1 (pyNext (.ref I) >>= _) _ _ s
    refine wpAny_bind (wpAny_pyNext_list_end hh hit hl (by simp) fun h' he' => ?_)
    show wpAny _ A.in1 (Builtin.Dict.addKeywords d [] >>= _) _ _ _
    rw [hp.1, List.take_length] at hd
    refine wpAny_bind (wpAny_pure (wpAny_pure ?_))
    refine hR h' s.toks ?_ fun b o n1 n2 e => he' b o n2 e
    obtain ⟨o, es, ep, ho, r⟩ := hd
    exact ⟨o, es, ep, he' d o hdI ho, r⟩
  | succ k ih =>
    intro i s hk hi hit hl hp hd hR
    have hlt : i < ws.length := by omega
    refine codeAny_builtin entry_upd_loop ?_
    rw [Around.under_plainId plain_upd_loop _]
    show wpAny _ A.in1 (pyNext (.ref I) >>= _) _ _ s
    refine wpAny_bind (wpAny_pyNext_list_item hit hl (x := ws[i]) (by simp [hlt]) fun h₁ hit₁ hs₁ => ?_)
    obtain ⟨a, key, t, x, hv, ht, hkv⟩ := hp.2 i ws[i] (by simp [hlt])
    rw [hv]
    have k₁ : ∀ b o, b ≠ I → s.heap.get? b = some o → h₁.get? b = some o := fun b o hb e => (hs₁.2 b hb).trans e
    obtain ⟨oI, hoI, hcI, hdI'⟩ := id hit
    obtain ⟨ot, hot, hct, nt, hdt⟩ := ht
    have haI : a ≠ I := fun q => by
      rw [q, hoI] at hot; cases hot
      rw [hcI] at hct; exact absurd hct (by decide)
    have hot₁ := k₁ _ _ haI hot
    have hd₁ : h₁.DictOf (intKind prog w) d (kvs.take i) := let ⟨o, es, ep, ho, r⟩ := hd; ⟨o, es, ep, k₁ d o hdI ho, r⟩
    dsimp only
    refine wpAny_bind (wpAny_holding (wpAny_bind (wpAny_tryCatch ?_)))
    unfold Builtin.Dict.pairItems
    refine wpAny_bind (wpAny_typeOf (s := { s with heap := h₁ }) (T := "tuple") ⟨_, hot₁, hct⟩ ?_)
    rw [if_pos (by decide)]
    refine wpAny_bind (wpAny_seqItems (s := { s with heap := h₁ }) hot₁ hdt (wpAny_pure ?_))
    show wpAny _ _ (holding [Value.int key t, x] (dictSet d (.int key t) x)) _ _ _
    have hkn : key ∉ (kvs.take i).map (·.1) := by
      intro q
      rw [List.map_take] at q
      obtain ⟨j, hj, e⟩ := List.mem_iff_getElem.mp q
      rw [List.length_take] at hj
      rw [List.getElem_take] at e
      have hik : (kvs.map (·.1))[i]? = some key := by rw [List.getElem?_map, hkv]; rfl
      have hjk : (kvs.map (·.1))[j]? = some key := by rw [List.getElem?_eq_getElem (by omega), e]
      have := (List.getElem?_inj (by omega) hn).mp (hjk.trans hik.symm)
      omega
    have htk : kvs.take (i + 1) = kvs.take i ++ [(key, x)] := by
      rw [List.take_succ, hkv]; rfl
    refine wpAny_holding (wpAny_dictSet_pairs (knd := intKind prog w) (s := { s with heap := h₁ }) (k := key) (intKind_is _ _ _ _) hd₁ (fun h₂ hd₂ hs₂ => ?_) (by rw [List.length_take]; exact Nat.le_trans (Nat.min_le_right _ _) (Nat.le_trans hsz (by decide))))
    rw [stored_fresh hkn, ← htk] at hd₂
    have k₂ : ∀ b o, b ≠ d → h₁.get? b = some o → h₂.get? b = some o := fun b o hb e => (hs₂.2 b hb).trans e
    have hit₂ : h₂.IsListIter I la (i + 1) := let ⟨o, ho, r⟩ := hit₁; ⟨o, k₂ _ _ (Ne.symm hdI) ho, r⟩
    have hl₂ : h₂.IsList la ws.toArray := isList_gr hl fun o e => k₂ _ _ (Ne.symm hdl) (k₁ _ _ hlI e)
    have hp₂ : PairsAt h₂ ws kvs := by
      refine ⟨hp.1, fun j v hj => ?_⟩
      obtain ⟨a', k', t', x', e1, ht', e3⟩ := hp.2 j v hj
      refine ⟨a', k', t', x', e1, isTuple_gr ht' fun o e => ?_, e3⟩
      obtain ⟨o', ho', hc', _⟩ := ht'
      rw [ho'] at e; cases e
      have n1 : a' ≠ I := fun q => by
        rw [q, hoI] at ho'; cases ho'
        rw [hcI] at hc'; exact absurd hc' (by decide)
      have n2 : a' ≠ d := fun q => by
        obtain ⟨od, _, _, hod, hcd, _⟩ := hd
        rw [q, hod] at ho'; cases ho'
        rw [hcd.1] at hc'; exact absurd hc' (by decide)
      exact k₂ _ _ n2 (k₁ _ _ n1 ho')
    refine wpAny_pure ⟨plainId_quiet plain_upd_loop _, ?_⟩
    have hri : rawInt ((i : Int) + 1) = rawInt ((i + 1 : Nat) : Int) := by simp
    rw [hri]
    refine ih (i + 1) _ (by omega) hlt hit₂ hl₂ hp₂ hd₂ fun h' tk hd' hk' => ?_
    exact hR h' tk hd' fun b o n1 n2 e => hk' b o n1 n2 (k₂ b o n1 (k₁ b o n2 e))
end Mine

namespace Mine
open PySem PySem.Spec PySem.Calls PyProof.Rows PySem.W

theorem call_dict_pairs {prog : Program} {w : World} {A : Around} {s : Shared} {la : Addr} {ws : List Value} {kvs : List (Int × Value)} {Q : Value → Shared → Prop} (hA : A.handled = none) (hl : s.heap.PlainList la ws.toArray) (hp : PairsAt s.heap ws kvs) (hn : (kvs.map (·.1)).Nodup) (hsz : kvs.length ≤ 1000)
    (hQ : ∀ h' tk, h'.DictOf (intKind prog w) s.heap.objs.size kvs → (∀ b o, s.heap.get? b = some o → h'.get? b = some o) → Q (.ref s.heap.objs.size) { s with heap := h', toks := tk }) :
    wpAny (model prog w) A (call (.type "dict") [.ref la]) Q No s := by
  refine callType_codes (Q₁ := fun obj s₁ => obj = .ref s.heap.objs.size ∧ s₁ = { s with heap := s.heap.push { cls := .type "dict", data := .dict #[] } }) PySem.F.kt_called_dict (PySem.F.kt_typeCall_dict_1 _) PySem.F.entry_dict_init (kt_code_dict_new _ ⟨rfl, rfl⟩) ?_
  rintro obj s₁ ⟨rfl, rfl⟩
  have hnew : (s.heap.push { cls := .type "dict", data := .dict #[] }).DictOf (intKind prog w) s.heap.objs.size [] := Heap.DictOf.new s.heap
  have kp : ∀ b o, s.heap.get? b = some o → (s.heap.push { cls := .type "dict", data := .dict #[] }).get? b = some o := fun b o e => Heap.get?_push_of_some _ e
  have hl₁ : (s.heap.push { cls := .type "dict", data := .dict #[] }).PlainList la ws.toArray := hl.at fun o e => kp _ o e
  refine ⟨hnew.typeIs, PySem.F.args_dict_init_2 _ _, ?_⟩
  unfold Builtin.«dict.__init__»
  refine wpAny_bind ?_
  unfold Builtin.Dict.selfAndRest
  refine wpAny_bind (wpAny_notOrdered_dict hnew.typeIs ?_)
  show wpAny _ _ (pure (s.heap.objs.size, [Value.ref la])) _ _ _
  refine wpAny_pure ?_
  show wpAny _ _ (Builtin.Dict.updateFrom "dict.__init__" s.heap.objs.size (.ref la) [] .none) _ _ _
  unfold Builtin.Dict.updateFrom
  refine wpAny_bind (wpAny_typeOf hl₁.isList.typeIs ?_)
  rw [if_pos (by decide)]
  refine wpAny_bind (wpAny_mono (no_keys (s := { s with heap := s.heap.push { cls := .type "dict", data := .dict #[] } }) hA hl₁ (Q := fun r s' => r = none ∧ ∃ h' tk, s' = { s with heap := h', toks := tk } ∧ ∀ b o, (s.heap.push { cls := .type "dict", data := .dict #[] }).get? b = some o → h'.get? b = some o) fun h' tk k => ⟨rfl, h', tk, rfl, k⟩) (fun r s₂ hr => ?_) fun _ _ f => f.elim)
  obtain ⟨rfl, h₂, tk₂, rfl, k₂⟩ := hr
  rw [if_pos (show (none : Option Value).isNone = true from rfl)]
  have hl₂ : h₂.PlainList la ws.toArray := hl₁.at fun o e => k₂ _ o e
  have hlt : la < h₂.objs.size := let ⟨n, e⟩ := hl₂; Heap.lt_size e
  have hdt : s.heap.objs.size < h₂.objs.size := let ⟨o, es, ep, e, _⟩ := hnew; Heap.lt_size (k₂ _ _ e)
  refine wpAny_bind (wpAny_rule (wpAny_bind (wpAny_pyIter_list (s := { s with heap := h₂, toks := tk₂ }) hl₂.isList ?_)))
  have k₃ : ∀ b o, h₂.get? b = some o → (h₂.push { cls := .type "list_iterator", data := .fields #[.ref la, .int 0 0] }).get? b = some o := fun b o e => Heap.get?_push_of_some _ e
  have kall := fun b o e => k₃ b o (k₂ b o (kp b o e))
  refine wpAny_pure ⟨plainId_quiet plain_upd_loop _, ?_⟩
  have hne : s.heap.objs.size ≠ la := fun q => by
    obtain ⟨n, e⟩ := hl
    rw [← q, get_size] at e; cases e
  refine upd_loop (show A.in1.handled = none from hA) (ws := ws) (kvs := kvs) (Nat.ne_of_lt hdt) hne (Nat.ne_of_lt hlt) hn hsz ws.length 0 _ rfl (Nat.zero_le _) ⟨_, Heap.get?_push_size _ rfl, rfl, rfl⟩ (isList_gr hl₂.isList fun o e => k₃ _ o e) ?_ ?_ fun h' tk hd hk => ?_
  · refine ⟨hp.1, fun j v hj => ?_⟩
    obtain ⟨a', k', t', x', e1, ht', e3⟩ := hp.2 j v hj
    exact ⟨a', k', t', x', e1, isTuple_gr ht' fun o e => kall _ o e, e3⟩
  · obtain ⟨o, es, ep, e, r⟩ := hnew
    exact ⟨o, es, ep, k₃ _ _ (k₂ _ _ e), r⟩
  · refine ⟨rfl, hQ h' tk hd fun b o e => hk b o (fun q => by rw [q, get_size] at e; cases e) (fun q => ?_) (kall b o e)⟩
    have := Heap.lt_size (k₂ b o (kp b o e))
    rw [q] at this
    exact Nat.lt_irrefl _ this
end Mine

namespace Mine
open PySem PySem.Spec PySem.Calls PyProof.Rows PySem.W

noncomputable def pairsI : List PV → Option (List (Int × PV))
  | [] => some []
  | .tup [.int k, d] :: r => (pairsI r).bind fun l => some ((k, d) :: l)
  | _ => none
noncomputable def lookI (l : List (Int × PV)) (k : Int) : Option PV := (l.find? fun x => x.1 = k).map (·.2)
noncomputable def setL (l : List (Int × PV)) (k : Int) (d : PV) : List (Int × PV) := if l.any (fun x => x.1 = k) then l.map (fun x => if x.1 = k then (x.1, d) else x) else l ++ [(k, d)]

section
variable {prog : Program} {w : World} {G : Heap} {n : Nat} {F F' : Fm} {mg mb : Str → Option Value}

theorem pairs_at {X : Addr → Prop} {h : Heap} : ∀ {vs : List Value} {ds : List PV} {l : List (Int × PV)}, IsAll prog w X h vs ds → pairsI ds = some l →
    ∃ kvs : List (Int × Value), PairsAt h vs kvs ∧ kvs.map (·.1) = l.map (·.1) ∧ IsAll prog w X h (kvs.map (·.2)) (l.map (·.2))
  | _, _, l, .nil, e => by
    cases e
    exact ⟨[], ⟨rfl, fun i v hv => by simp at hv⟩, rfl, .nil⟩
  | _, _, l, .cons (v := v) (vs := vs) (d := d) (ds := ds) a r, e => by
    unfold pairsI at e
    split at e
    · rename_i q; cases q
    · rename_i k d' r' q
      cases q
      obtain ⟨l', hl', e⟩ := Option.bind_eq_some_iff.mp e
      cases e
      obtain ⟨kvs, ⟨h1, h2⟩, h3, h4⟩ := pairs_at r hl'
      cases a with
      | @tup ta ws _ ht hx hv =>
        cases hv with
        | @cons vk _ _ _ hk hv =>
          cases hv with
          | @cons vx _ _ _ hvx hv =>
            cases hv
            cases hk with
            | int _ t =>
              refine ⟨(k, vx) :: kvs, ⟨by simp [h1], fun i v hv => ?_⟩, by simp [h3], .cons hvx h4⟩
              cases i with
              | zero =>
                simp only [List.getElem?_cons_zero, Option.some.injEq] at hv
                exact ⟨ta, k, t, vx, hv.symm, ht, rfl⟩
              | succ i =>
                simp only [List.getElem?_cons_succ] at hv
                obtain ⟨a', k', t', x', e1, e2, e3⟩ := h2 i v hv
                exact ⟨a', k', t', x', e1, e2, by simpa using e3⟩
    · cases e

theorem ex_newI (T : GT G mg mb) {x : Str} {px pos p cpos cpos' : Pos} {i : Nat} {elt iter : Expr} {y : Str} {py : Pos} {ifs : List Expr} {rest : List Comprehension} {scope : Scope} {pass : List (Option Nat)} {f : List Slot → Option (List PV)} {φ : List Slot → List PV → Option (List PV)}
    (hi : F.names[i]? = some x) (hx : x ∈ F.sto) (hg : ("dict" : Str) ∈ F.gl) (hB : Glo mg mb "dict" (.type "dict"))
    (hF : CompFm F F' scope pass) (hit : Itr prog w G n F iter f) (hcl : CL prog w G n F' (.ListComp elt (⟨.Name y py, iter, ifs, 0⟩ :: rest) scope cpos) 0 φ) (hfs : ∀ env x, foldedSetIterable iter env x = pure x := by intro _ _; rfl) :
    Ex prog w G n F (.Assign [.Name x px] (.Call (.Name "dict" p) [.ListComp elt (⟨.Name y py, iter, ifs, 0⟩ :: rest) scope cpos] [] cpos') pos)
      (fun ρ => (f ρ).bind fun ds => (φ (passS ρ pass) ds).bind fun out => (pairsI out).bind fun l => if i < ρ.length ∧ (l.map (·.1)).Nodup ∧ l.length ≤ 1000 ∧ out.length ≤ 1000 then some (.go (ρ.set i (.ownI l))) else none) := by
  intro env h₀ X₀ X W ρ A s o R K hX hX₀ hf
  obtain ⟨ds, hds, hf⟩ := Option.bind_eq_some_iff.mp hf
  obtain ⟨out, hout, hf⟩ := Option.bind_eq_some_iff.mp hf
  obtain ⟨l, hl, hf⟩ := Option.bind_eq_some_iff.mp hf
  split at hf
  case isFalse => cases hf
  rename_i hc
  cases hf
  refine wpAny_Assign_Name ?_ rfl
  refine Call_Name rfl (gname T K hg hB (by decide) ?_)
  refine PyProof.Rows.callWith_type1 (args_cons ?_ rfl) rfl rfl
  refine seqP (comp_plain hF hit hcl hfs env h₀ X W ρ A s ds out R K hds hout hc.2.2.2) fun v h₁ tk₁ g₁ I₁ p₁ => args_nil ?_
  obtain ⟨p₁, D, items, rfl, hpl⟩ := p₁
  have K₁ := K.gr g₁ I₁
  cases p₁ with
  | @lst _ vs _ hvl hnx hvs =>
  have hit' : items = vs.toArray := by
    obtain ⟨o, ho, _, k, hd⟩ := hvl
    obtain ⟨k', ho'⟩ := hpl
    rw [ho] at ho'; cases ho'
    cases hd; rfl
  subst hit'
  obtain ⟨kvs, hp, hks, hA⟩ := pairs_at hvs hl
  have hkn : (kvs.map (·.1)).Nodup := by rw [hks]; exact hc.2.1
  have hkl : kvs.length ≤ 1000 := by
    have := congrArg List.length hks
    rw [List.length_map, List.length_map] at this
    omega
  refine call_dict_pairs (s := { s with heap := h₁, toks := tk₁ }) R.1 hpl hp hkn hkl fun h₂ tk₂ hD₂ kp => ?_
  have newd : h₁.get? h₁.objs.size = none := get_size _
  have nX : ¬ X h₁.objs.size := K₁.xok.fresh newd
  have nW : ¬ W h₁.objs.size := fun q => nX (K.wx _ q)
  have alD : ∃ o, h₂.get? h₁.objs.size = some o := let ⟨o, es, ep, e, _⟩ := hD₂; ⟨o, e⟩
  have K₂ : Ok prog w G F env h₀ (fun b => X b ∨ b = h₁.objs.size) W ρ h₂ := K₁.more (Gr.of kp) (I₁.gr_keep kp) (fun b q => .inl q) (fun b q => q.imp id fun z => by rw [z]; exact newd)
    fun b q => q.elim (fun q => let ⟨o, e⟩ := K₁.al b q; ⟨o, kp b o e⟩) fun z => by rw [z]; exact alD
  have h0 : h₀.get? h₁.objs.size = none := by
    cases e : h₀.get? h₁.objs.size with
    | none => rfl
    | some o => have := K₁.kp _ _ (fun t => nX (K.tx _ t)) e; rw [newd] at this; cases this
  refine ok_store (d := .obj h₁.objs.size) K₂ hi hx (.obj _) fun h₃ tk₃ K₃ k₃ => ?_
  have hO : OwnI prog w (fun b => X b ∨ b = h₁.objs.size) h₃ h₁.objs.size l := by
    refine ⟨kvs, dictOf_gr hD₂ fun o => k₃ _ o nW, hks, ?_⟩
    have : IsAll prog w (fun b => X b ∨ b = h₁.objs.size) h₂ (kvs.map (·.2)) (l.map (·.2)) := (hA.avoid fun b q => q.imp id fun z => by rw [z]; exact newd).gr (Gr.of kp)
    exact this.gr fun b o q e => k₃ b o (fun z => q (.inl (K.wx b z))) e
  have K₄ := (K₃.addW (.inr rfl) h0).upI (i := i) (by rw [List.getElem?_set]; simp [hc.1]) (.inr rfl) (fun q => nW (q ▸ K.wl)) hO
  rw [List.set_set] at K₄
  have newS : s.heap.get? h₁.objs.size = none := new_of_gr g₁ I₁ newd
  have kk : KeptS W s.heap h₃ := fun b o n1 n2 e => k₃ b o n1 (kp b o (g₁ b o n2 e))
  exact ⟨h₃, tk₃, rfl, kk, older_ok K K₄ kk (fun _ q => .inl q), rfl, _, _, K₄, ⟨fun b q => .inl q, fun b q => q.imp id fun z => by rw [z]; exact newS⟩, ⟨fun b q => .inl q, fun b q => q.imp id fun z => by rw [z]; exact newS⟩⟩
end
end Mine

namespace Mine
open PySem PySem.Spec PySem.Calls PyProof.Rows PySem.W

section
variable {prog : Program} {w : World} {G : Heap} {n : Nat} {F F' : Fm} {mg mb : Str → Option Value}

theorem look_value {X : Addr → Prop} {h : Heap} {k : Int} {d : PV} : ∀ {kvs : List (Int × Value)} {l : List (Int × PV)}, kvs.map (·.1) = l.map (·.1) → IsAll prog w X h (kvs.map (·.2)) (l.map (·.2)) → lookI l k = some d → ∃ v, valueAt kvs k = some v ∧ Is prog w X h v d
  | [], [], _, _, e => by simp [lookI] at e
  | [], _ :: _, e, _, _ => by simp at e
  | _ :: _, [], e, _, _ => by simp at e
  | (k₁, v₁) :: kvs, (k₂, d₂) :: l, hk, hA, e => by
    simp only [List.map_cons, List.cons.injEq] at hk
    obtain ⟨rfl, hk⟩ := hk
    cases hA with
    | cons a r =>
    unfold lookI at e
    unfold valueAt
    rw [List.find?_cons] at e ⊢
    by_cases q : k₁ = k
    · simp only [q, decide_true] at e ⊢
      cases e
      exact ⟨v₁, rfl, a⟩
    · simp only [q, decide_false] at e ⊢
      exact look_value hk r e

noncomputable def itemI (i : Nat) (fi : List Slot → Option PV) (ρ : List Slot) : Option PV := match ρ[i]? with
  | some (.ownI l) => (fi ρ).bind fun d => match d with | .int k => lookI l k | _ => none
  | _ => none
theorem ev_itemI {x : Str} {px pos : Pos} {ie : Expr} {i : Nat} {fi : List Slot → Option PV} (hi : F.names[i]? = some x) (hie : Ev prog w G n F ie fi) (hd : (x == ("__debug__" : Str)) = false := by decide)
    (hs : ∀ l k u, subscripted ie false (.ref l) (.int k u) = operate [.ref l, .int k u] (getItem (.ref l) (.int k u)) := by intros; with_unfolding_all rfl) :
    Ev prog w G n F (.Subscript (.Name x px) ie pos) (itemI i fi) := by
  intro env h₀ X W ρ A s d R K hf
  unfold itemI at hf
  split at hf
  case h_2 => cases hf
  rename_i l hρ
  obtain ⟨kd, hfi, hf⟩ := Option.bind_eq_some_iff.mp hf
  have hz : ∃ k, kd = .int k ∧ lookI l k = some d := by
    cases kd <;> first | exact ⟨_, rfl, hf⟩ | cases hf
  obtain ⟨k, rfl, hf⟩ := hz
  refine Subscript_ ?_
  obtain ⟨y, a, hy, hH, hW, hl, hO⟩ := K.oI i l hρ
  have : y = x := Option.some.inj (hy.symm.trans hi)
  subst this
  refine ld_holds K.kind hH ?_ hd
  refine seqP (hie env h₀ X W ρ A s _ R K hfi) fun kv h₁ tk₁ g₁ I₁ p₁ => ?_
  cases p₁ with
  | int _ t =>
  obtain ⟨kvs, hD, hks, hA⟩ := hO.gr (g₁.wk K.tx) (fun o => g₁ _ o fun q => K.tw _ q hW)
  obtain ⟨v, hv, hI⟩ := look_value hks hA hf
  exact tail_any (s := { s with heap := h₁, toks := tk₁ }) hD.typeIs PySem.F.slot_dict_getitem.lookup (wpAny_getItem_of (knd := intKind prog w) (k := k) (intKind_is _ _ _ _) hD.mapOf hv ⟨h₁, _, rfl, g₁, I₁, hI⟩) (hs a k t)

theorem setL_all {X : Addr → Prop} {h : Heap} {k : Int} {v : Value} {d : PV} {kvs : List (Int × Value)} {l : List (Int × PV)} (hk : kvs.map (·.1) = l.map (·.1)) (hA : IsAll prog w X h (kvs.map (·.2)) (l.map (·.2))) (hI : Is prog w X h v d) :
    (stored kvs k v).map (·.1) = (setL l k d).map (·.1) ∧ IsAll prog w X h ((stored kvs k v).map (·.2)) ((setL l k d).map (·.2)) := by
  have hany : ∀ {kvs : List (Int × Value)} {l : List (Int × PV)}, kvs.map (·.1) = l.map (·.1) → kvs.any (fun x => x.1 = k) = l.any (fun x => x.1 = k) := fun {kvs l} e => by
    have h1 : ∀ {β : Type} (l : List (Int × β)), l.any (fun x => x.1 = k) = (l.map (·.1)).any (fun x => x = k) := fun l => by rw [List.any_map]; rfl
    rw [h1, h1, e]
  unfold stored setL
  rw [hany hk]
  cases hq : l.any (fun x => x.1 = k) with
  | false =>
    rw [if_neg (by simp), if_neg (by simp)]
    rw [List.map_append, List.map_append, List.map_append, List.map_append, hk]
    exact ⟨rfl, hA.append (.cons hI .nil)⟩
  | true =>
    rw [if_pos rfl, if_pos rfl]
    clear hq
    revert hk hA
    induction kvs generalizing l with
    | nil =>
      intro hk hA
      cases l with
      | nil => exact ⟨rfl, .nil⟩
      | cons y r => simp at hk
    | cons z r ih =>
      intro hk hA
      cases l with
      | nil => simp at hk
      | cons y r' =>
        simp only [List.map_cons, List.cons.injEq] at hk
        obtain ⟨e1, e2⟩ := hk
        cases hA with
        | cons a rr =>
        obtain ⟨i1, i2⟩ := ih e2 rr
        simp only [List.map_cons]
        by_cases q : y.1 = k
        · rw [if_pos q, if_pos (e1.trans q)]
          exact ⟨by simp [e1, i1], .cons hI i2⟩
        · rw [if_neg q, if_neg (fun z => q (e1.symm.trans z))]
          exact ⟨by simp [e1, i1], .cons a i2⟩

noncomputable def setI (i : Nat) (fk fv : List Slot → Option PV) (ρ : List Slot) : Option SOut :=
  match ρ[i]? with
  | some (.ownI l) => (fv ρ).bind fun v => (fk ρ).bind fun kd => match kd with | .int k => if oneOwn ρ i = true ∧ l.length ≤ 1000 then some (.go (ρ.set i (.ownI (setL l k v)))) else none | _ => none
  | _ => none
theorem ex_setI {x : Str} {px spos pos : Pos} {ke ve : Expr} {i : Nat} {fk fv : List Slot → Option PV} (hi : F.names[i]? = some x) (hk : Ev prog w G n F ke fk) (hv : Ev prog w G n F ve fv) (hd : (x == ("__debug__" : Str)) = false := by decide)
    (hsw : ∀ env, swapsWith ve (some (.Subscript (.Name x px) ke spos)) pos.line env = pure false := by intro _; rfl) :
    Ex prog w G n F (.Assign [.Subscript (.Name x px) ke spos] ve pos) (setI i fk fv) := by
  intro env h₀ X₀ X W ρ A s o R K hX hX₀ hf
  unfold setI at hf
  split at hf
  case h_2 => cases hf
  rename_i l hρ
  obtain ⟨v, hfv, hf⟩ := Option.bind_eq_some_iff.mp hf
  obtain ⟨kd, hfk, hf⟩ := Option.bind_eq_some_iff.mp hf
  have hz : ∃ k, kd = .int k ∧ (if oneOwn ρ i = true ∧ l.length ≤ 1000 then some (SOut.go (ρ.set i (.ownI (setL l k v)))) else none) = some o := by
    cases kd <;> first | exact ⟨_, rfl, hf⟩ | cases hf
  clear hf
  obtain ⟨k, rfl, hf⟩ := hz
  split at hf
  case isFalse => cases hf
  rename_i hc
  cases hf
  refine wpAny_Assign_Subscript ?_ (hsw env)
  refine seqP (hv env h₀ X W ρ A s v R K hfv) fun vv h₁ tk₁ g₁ I₁ p₁ => ?_
  have K₁ := K.gr g₁ I₁
  obtain ⟨y, a, hy, hH, hW, hl, hO⟩ := K₁.oI i l hρ
  have : y = x := Option.some.inj (hy.symm.trans hi)
  subst this
  refine ld_holds K₁.kind hH ?_ hd
  refine seqP (hk env h₀ X W ρ A _ _ R K₁ hfk) fun kv h₂ tk₂ g₂ I₂ p₂ => ?_
  have K₂ := K₁.gr g₂ I₂
  cases p₂ with
  | int _ t =>
  have na : ¬ isTab a := fun t => K.tw _ t hW
  obtain ⟨kvs, hD, hks, hA⟩ := hO.gr (g₂.wk K.tx) (fun o => g₂ _ o na)
  have p₁' := p₁.gr (g₂.wk K.tx)
  have hlen : kvs.length ≤ sizeLine := by
    have := congrArg List.length hks
    rw [List.length_map, List.length_map] at this
    rw [this]; exact Nat.le_trans hc.2 (by decide)
  refine wpAny_setItem_pairs (knd := intKind prog w) (k := k) (intKind_is _ _ _ _) hD (fun h₃ hD₃ hs₃ => ?_) hlen
  have H₂ : Holds env h₂ y (.ref a) := hH.gr (fun o => g₂ _ o fun t => K₁.tw _ t K₁.wl) fun c hc o => g₂ _ o (K₁.cl _ _ hc).2
  obtain ⟨od, es, ep, hod, hcd, hdd, _⟩ := id hD
  have alv : ∃ o, h₃.get? a = some o := let ⟨o, _, _, e, _⟩ := hD₃; ⟨o, e⟩
  have hlt : i < ρ.length := (List.getElem?_eq_some_iff.mp hρ).1
  have K₃ := K₂.mut hi H₂ hW hl hod hdd hlt hc.1 hs₃ alv
  have gX : Gr X h₂ h₃ := fun b o n e => (hs₃.2 b fun q => n (q ▸ K.wx a hW)).trans e
  obtain ⟨e1, e2⟩ := setL_all (k := k) hks hA p₁'
  have hO₃ : OwnI prog w X h₃ a (setL l k v) := ⟨_, hD₃, e1, e2.gr gX⟩
  have K₄ := K₃.upI (i := i) (by rw [List.getElem?_set]; simp [hlt]) hW hl hO₃
  rw [List.set_set] at K₄
  have kk : KeptS W s.heap h₃ := ((KeptS.of_gr g₁).trans (KeptS.of_gr g₂)).trans fun b o n1 _ e => (hs₃.2 b fun q => n1 (q ▸ hW)).trans e
  exact ⟨h₃, _, rfl, kk, older_ok K K₄ kk fun _ q => q, rfl, X, W, K₄, Gro.refl _ _, Gro.refl _ _⟩
end
end Mine

namespace Mine
open PySem PySem.Spec PySem.Calls PyProof.Rows PySem.W

noncomputable def fmLaw : Fm := ⟨["script", "lines", "point", "calls", "line", "other", "row", "number", "figures", "lot", "meets", "closed", "rest"], ["lines", "point", "calls", "line", "other", "row", "number", "figures", "lot", "meets", "closed", "rest"],
  ["range", "len", "dict", "add_callers", "count_calls", "sorted", "_int2digits", "abs", "tuple", "_law_closed"], ["lines", "point", "figures", "lot", "closed", "rest"]⟩
noncomputable def fmL1 : Fm := ⟨["a", "b", "c"], ["a", "b", "c"], ["range", "_law_third"], []⟩
noncomputable def fmL2 : Fm := ⟨["point"], ["point"], [], []⟩
noncomputable def fmL3 : Fm := ⟨["word"], ["word"], [], []⟩
noncomputable def fmL4 : Fm := ⟨["one", "point"], ["one"], [], ["point"]⟩
noncomputable def fmL5 : Fm := ⟨["often"], ["often"], [], []⟩
noncomputable def fmL6 : Fm := ⟨["one", "other", "lines"], ["one", "other"], ["len"], ["other", "lines"]⟩
noncomputable def fmL7 : Fm := ⟨["point", "other"], ["point"], [], ["other"]⟩
noncomputable def fmL8 : Fm := ⟨["point", "figures"], ["point"], [], ["figures"]⟩
noncomputable def fmL9 : Fm := ⟨["line", "lot"], ["line"], [], ["lot"]⟩
noncomputable def fmL10 : Fm := ⟨["point", "lot"], ["point"], [], ["lot"]⟩
noncomputable def fmL11 : Fm := ⟨["point", "closed"], ["point"], [], ["closed"]⟩
noncomputable def fmL12 : Fm := ⟨["line", "rest"], ["line"], [], ["rest"]⟩
noncomputable def fmL13 : Fm := ⟨["point", "rest"], ["point"], [], ["rest"]⟩

noncomputable def stOf (i : Nat) : Stmt := (theBody 10).getD i (.Pass ⟨0, 0, 0, 0⟩)

section
variable {prog : Program} {w : World} {G : Heap} {mg mb : Str → Option Value}

noncomputable def law1 (T : GT G mg mb) (B : Blts mg mb) {φ3 : List PV → Option PV} (C3 : Callee prog w G mg mb "_law_third" 8 φ3) : {f : List Slot → Option SOut // Ex prog w G 9 fmLaw (stOf 0) f} := by
  apply Subtype.mk
  case property =>
    dsimp only [stOf, theBody, bodyOf, PySem.Challenge.pw_gb0001_01, List.getD, List.getElem?_cons_succ, List.getElem?_cons_zero, Option.getD_some]
    apply ex_assign (i := 1) (by rfl) (by decide) (hs := .inl (by decide))
    apply ev_comp (F' := fmL1) (pass := [none, none, none])
    case hF => constructor <;> decide
    case hit => exact itr_range T (by decide) B.range (evs_cons ev_int (evs_cons ev_int evs_nil))
    case hcl =>
      apply cl_mid (slot := 0) (by rfl) (by rfl) (by rfl) (by decide) tsi_nil (itr_range T (by decide) B.range (evs_cons ev_int (evs_cons (ev_name (i := 0) (by rfl) (by decide)) evs_nil)))
      apply cl_mid (slot := 1) (by rfl) (by rfl) (by rfl) (by decide) tsi_nil (itr_range T (by decide) B.range (evs_cons ev_int (evs_cons (ev_name (i := 1) (by rfl) (by decide)) evs_nil)))
      apply cl_end (slot := 2) (by rfl) (by rfl) (by rfl) (by decide) (tsi_one (ts_cmp (ev_callc T C3 (by decide) (by decide) (evs_cons (ev_name (i := 0) (by rfl) (by decide)) (evs_cons (ev_name (i := 1) (by rfl) (by decide)) evs_nil))) (ev_name (i := 2) (by rfl) (by decide)) cmp_eq))
      exact ev_tuple (evs_cons (ev_name (i := 0) (by rfl) (by decide)) (evs_cons (ev_name (i := 1) (by rfl) (by decide)) (evs_cons (ev_name (i := 2) (by rfl) (by decide)) evs_nil)))
noncomputable def law2 (T : GT G mg mb) (B : Blts mg mb) : {f : List Slot → Option SOut // Ex prog w G 9 fmLaw (stOf 1) f} := by
  apply Subtype.mk
  case property =>
    dsimp only [stOf, theBody, bodyOf, PySem.Challenge.pw_gb0001_01, List.getD, List.getElem?_cons_succ, List.getElem?_cons_zero, Option.getD_some]
    exact ex_if (ts_cmp (ev_callblt T fn_len (by decide) B.len (by decide) (evs_cons (ev_name (i := 1) (by rfl) (by decide)) evs_nil)) ev_int cmp_ne) (exs_cons (ex_ret ev_bool) exs_nil) exs_nil
noncomputable def law3 (T : GT G mg mb) (B : Blts mg mb) : {f : List Slot → Option SOut // Ex prog w G 9 fmLaw (stOf 2) f} := by
  apply Subtype.mk
  case property =>
    dsimp only [stOf, theBody, bodyOf, PySem.Challenge.pw_gb0001_01, List.getD, List.getElem?_cons_succ, List.getElem?_cons_zero, Option.getD_some]
    apply ex_newI T (i := 3) (F' := fmL2) (pass := [none]) (by rfl) (by decide) (by decide) B.dict
    case hF => constructor <;> decide
    case hit => exact itr_range T (by decide) B.range (evs_cons ev_int (evs_cons ev_int evs_nil))
    case hcl =>
      apply cl_end (slot := 0) (by rfl) (by rfl) (by rfl) (by decide) tsi_nil
      exact ev_tuple (evs_cons (ev_name (i := 0) (by rfl) (by decide)) (evs_cons ev_dict0 evs_nil))
noncomputable def law4 (T : GT G mg mb) (B : Blts mg mb) {φa : List PV → Option PV} (Ca : Callee prog w G mg mb "add_callers" 4 φa) : {f : List Slot → Option SOut // Ex prog w G 9 fmLaw (stOf 3) f} := by
  apply Subtype.mk
  case property =>
    dsimp only [stOf, theBody, bodyOf, PySem.Challenge.pw_gb0001_01, List.getD, List.getElem?_cons_succ, List.getElem?_cons_zero, Option.getD_some]
    apply ex_for (itr_val (ev_name (i := 1) (by rfl) (by decide))) (tg_name (i := 4) (by rfl) (by decide))
    apply exs_cons (h2 := exs_nil)
    apply ex_for (itr_val (ev_name (i := 4) (by rfl) (by decide))) (tg_name (i := 2) (by rfl) (by decide))
    apply exs_cons (h2 := exs_nil)
    apply ex_for (itr_val (ev_name (i := 4) (by rfl) (by decide))) (tg_name (i := 5) (by rfl) (by decide))
    apply exs_cons (h2 := exs_nil)
    apply ex_if (ts_cmp (ev_name (i := 5) (by rfl) (by decide)) (ev_name (i := 2) (by rfl) (by decide)) cmp_ne) (ho := exs_nil)
    apply exs_cons (h2 := exs_nil)
    apply ex_setI (i := 3) (by rfl) (ev_name (i := 2) (by rfl) (by decide))
    apply ev_callc T Ca (by decide) (by decide)
    apply evs_cons (ev_itemI (i := 3) (by rfl) (ev_name (i := 2) (by rfl) (by decide)))
    apply evs_cons (hs := evs_nil)
    exact ev_dict1 (ev_tuple (evs_cons ev_str (evs_cons (ev_name (i := 5) (by rfl) (by decide)) (evs_cons ev_str evs_nil)))) ev_int (by decide)

noncomputable def law5 (T : GT G mg mb) (B : Blts mg mb) {φn : List PV → Option PV} (Cn : Callee prog w G mg mb "count_calls" 4 φn) : {f : List Slot → Option SOut // Ex prog w G 9 fmLaw (stOf 4) f} := by
  apply Subtype.mk
  case property =>
    dsimp only [stOf, theBody, bodyOf, PySem.Challenge.pw_gb0001_01, List.getD, List.getElem?_cons_succ, List.getElem?_cons_zero, Option.getD_some]
    apply ex_for (itr_range T (by decide) B.range (evs_cons ev_int (evs_cons ev_int evs_nil))) (tg_name (i := 2) (by rfl) (by decide))
    apply exs_cons (ex_assign (i := 6) (by rfl) (by decide) (ev_itemI (i := 3) (by rfl) (ev_name (i := 2) (by rfl) (by decide))) (.inr fun _ => rfl))
    apply exs_cons
    case h1 =>
      apply ex_if (hb := (exs_cons (ex_ret ev_bool) exs_nil)) (ho := exs_nil)
      apply ts_bool
      apply tsl_or (ts_cmp (ev_callc T Cn (by decide) (by decide) (evs_cons (ev_name (i := 6) (by rfl) (by decide)) evs_nil)) ev_int cmp_ne)
      apply tsl_or (hs := tsl_nil_or)
      apply ts_cmp (ho := cmp_ne)
      case hl =>
        apply ev_callblt T fn_sorted (by decide) B.sorted (by decide)
        apply evs_cons (hs := evs_nil)
        apply ev_comp (F' := fmL3) (pass := [none])
        case hF => constructor <;> decide
        case hit => exact itr_dct (ev_name (i := 6) (by rfl) (by decide))
        case hcl =>
          apply cl_end (slot := 0) (by rfl) (by rfl) (by rfl) (by decide) tsi_nil
          exact ev_item (ev_name (i := 0) (by rfl) (by decide)) ev_int
      case hr =>
        apply ev_comp (F' := fmL4) (pass := [none, some 2])
        case hF => constructor <;> decide
        case hit => exact itr_range T (by decide) B.range (evs_cons ev_int (evs_cons ev_int evs_nil))
        case hcl =>
          apply cl_end (slot := 0) (by rfl) (by rfl) (by rfl) (by decide) (tsi_one (ts_cmp (ev_name (i := 0) (by rfl) (by decide)) (ev_name (i := 1) (by rfl) (by decide)) cmp_ne))
          exact (ev_name (i := 0) (by rfl) (by decide))
    case h2 =>
      apply exs_cons (h2 := exs_nil)
      apply ex_if (hb := (exs_cons (ex_ret ev_bool) exs_nil)) (ho := exs_nil)
      apply ts_cmp (hr := ev_list evs_nil) (ho := cmp_ne)
      apply ev_comp (F' := fmL5) (pass := [none])
      case hF => constructor <;> decide
      case hit => exact itr_vals (ev_name (i := 6) (by rfl) (by decide))
      case hcl =>
        apply cl_end (slot := 0) (by rfl) (by rfl) (by rfl) (by decide) (tsi_one (ts_cmp (ev_name (i := 0) (by rfl) (by decide)) ev_int cmp_ne))
        exact (ev_name (i := 0) (by rfl) (by decide))
noncomputable def law6 (T : GT G mg mb) (B : Blts mg mb) : {f : List Slot → Option SOut // Ex prog w G 9 fmLaw (stOf 5) f} := by
  apply Subtype.mk
  case property =>
    dsimp only [stOf, theBody, bodyOf, PySem.Challenge.pw_gb0001_01, List.getD, List.getElem?_cons_succ, List.getElem?_cons_zero, Option.getD_some]
    apply ex_if (hb := (exs_cons (ex_ret ev_bool) exs_nil)) (ho := exs_nil)
    apply ts_cmp (hr := ev_list evs_nil) (ho := cmp_ne)
    apply ev_comp (F' := fmL6) (pass := [none, none, some 1])
    case hF => constructor <;> decide
    case hit => exact itr_val (ev_name (i := 1) (by rfl) (by decide))
    case hcl =>
      apply cl_mid (slot := 0) (by rfl) (by rfl) (by rfl) (by decide) tsi_nil (itr_val (ev_name (i := 2) (by rfl) (by decide)))
      apply cl_end (slot := 1) (by rfl) (by rfl) (by rfl) (by decide) (he := ev_int)
      apply tsi_one
      apply ts_bool
      apply tsl_and (ts_cmp (ev_name (i := 0) (by rfl) (by decide)) (ev_name (i := 1) (by rfl) (by decide)) cmp_ne)
      apply tsl_and (hs := tsl_nil_and)
      apply ts_cmp (hr := ev_int) (ho := cmp_ne)
      apply ev_callblt T fn_len (by decide) B.len (by decide)
      apply evs_cons (hs := evs_nil)
      apply ev_comp (F' := fmL7) (pass := [none, some 1])
      case hF => constructor <;> decide
      case hit => exact itr_val (ev_name (i := 0) (by rfl) (by decide))
      case hcl =>
        apply cl_end (slot := 0) (by rfl) (by rfl) (by rfl) (by decide) (tsi_one (ts_cmp (ev_name (i := 0) (by rfl) (by decide)) (ev_name (i := 1) (by rfl) (by decide)) cmp_in))
        exact (ev_name (i := 0) (by rfl) (by decide))
noncomputable def lawB1 (T : GT G mg mb) (B : Blts mg mb) {φi : List PV → Option PV} (Ci : Callee prog w G mg mb "_int2digits" 6 φi) : {f : List Slot → Option SOut // Ex prog w G 9 fmLaw ((forBody (stOf 6)).getD 0 (.Pass ⟨0, 0, 0, 0⟩)) f} := by
  apply Subtype.mk
  case property =>
    dsimp only [forBody, stOf, theBody, bodyOf, PySem.Challenge.pw_gb0001_01, List.getD, List.getElem?_cons_succ, List.getElem?_cons_zero, Option.getD_some, List.drop_succ_cons, List.drop_zero]
    exact ex_assign (i := 8) (by rfl) (by decide) (ev_binop (ev_callc T Ci (by decide) (by decide) (evs_cons (ev_binop (ev_callblt T fn_abs (by decide) B.abs (by decide) (evs_cons (ev_name (i := 7) (by rfl) (by decide)) evs_nil)) ev_int op_mod) (evs_cons ev_int evs_nil))) (ev_mulList (evs_cons ev_int evs_nil) ev_int) op_add) (.inl (by decide))
noncomputable def lawB2 (T : GT G mg mb) (B : Blts mg mb) {φc : List PV → Option PV} (Cc : Callee prog w G mg mb "_law_closed" 9 φc) : {f : List Slot → Option SOut // Exs prog w G 9 fmLaw ((forBody (stOf 6)).drop 1) f} := by
  apply Subtype.mk
  case property =>
    dsimp only [forBody, stOf, theBody, bodyOf, PySem.Challenge.pw_gb0001_01, List.getD, List.getElem?_cons_succ, List.getElem?_cons_zero, Option.getD_some, List.drop_succ_cons, List.drop_zero]
    apply exs_cons
    case h1 =>
      apply ex_assign (i := 9) (by rfl) (by decide) (hs := .inl (by decide))
      apply ev_comp (F' := fmL8) (pass := [none, some 8])
      case hF => constructor <;> decide
      case hit => exact itr_range T (by decide) B.range (evs_cons ev_int (evs_cons ev_int evs_nil))
      case hcl =>
        apply cl_end (slot := 0) (by rfl) (by rfl) (by rfl) (by decide) (tsi_one (ts_cmp (ev_item (ev_name (i := 1) (by rfl) (by decide)) (ev_binop (ev_name (i := 0) (by rfl) (by decide)) ev_int op_sub)) ev_int cmp_eq))
        exact (ev_name (i := 0) (by rfl) (by decide))
    case h2 =>
    apply exs_cons
    case h1 =>
      apply ex_assign (i := 10) (by rfl) (by decide) (hs := .inr fun _ => rfl)
      apply ev_cmp (hr := ev_list evs_nil) (ho := cmp_eq)
      apply ev_comp (F' := fmL9) (pass := [none, some 9])
      case hF => constructor <;> decide
      case hit => exact itr_val (ev_name (i := 1) (by rfl) (by decide))
      case hcl =>
        apply cl_end (slot := 0) (by rfl) (by rfl) (by rfl) (by decide) (he := (ev_name (i := 0) (by rfl) (by decide)))
        apply tsi_one
        apply ts_cmp (hr := ev_list evs_nil) (ho := cmp_eq)
        apply ev_comp (F' := fmL10) (pass := [none, some 1])
        case hF => constructor <;> decide
        case hit => exact itr_val (ev_name (i := 0) (by rfl) (by decide))
        case hcl =>
          apply cl_end (slot := 0) (by rfl) (by rfl) (by rfl) (by decide) (tsi_one (ts_cmp (ev_name (i := 0) (by rfl) (by decide)) (ev_name (i := 1) (by rfl) (by decide)) cmp_in))
          exact (ev_name (i := 0) (by rfl) (by decide))
    case h2 =>
    apply exs_cons
    case h1 =>
      apply ex_if (hb := (exs_cons (ex_ret ev_bool) exs_nil)) (ho := exs_nil)
      apply ts_bool
      apply tsl_and (ts_val (ev_name (i := 10) (by rfl) (by decide)))
      apply tsl_and (hs := tsl_nil_and)
      apply ts_bool
      apply tsl_or (ts_cmp (ev_callblt T fn_len (by decide) B.len (by decide) (evs_cons (ev_name (i := 9) (by rfl) (by decide)) evs_nil)) ev_int cmp_lt)
      apply tsl_or (hs := tsl_nil_or)
      apply ts_bool
      apply tsl_and (ts_cmp (ev_callblt T fn_len (by decide) B.len (by decide) (evs_cons (ev_name (i := 9) (by rfl) (by decide)) evs_nil)) ev_int cmp_eq)
      apply tsl_and (hs := tsl_nil_and)
      exact ts_cmp (ev_calltype T fn_tuple (by decide) B.tuple (by decide) (evs_cons (ev_rev (ev_name (i := 9) (by rfl) (by decide))) evs_nil)) (ev_name (i := 1) (by rfl) (by decide)) cmp_notin
    case h2 =>
    apply exs_cons
    case h1 =>
      apply ex_if (hb := (exs_cons (ex_ret ev_bool) exs_nil)) (ho := exs_nil)
      apply ts_bool
      apply tsl_and (ts_cmp (ev_callblt T fn_len (by decide) B.len (by decide) (evs_cons (ev_name (i := 9) (by rfl) (by decide)) evs_nil)) ev_int cmp_eq)
      apply tsl_and (ts_cmp (ev_calltype T fn_tuple (by decide) B.tuple (by decide) (evs_cons (ev_rev (ev_name (i := 9) (by rfl) (by decide))) evs_nil)) (ev_name (i := 1) (by rfl) (by decide)) cmp_in)
      apply tsl_and (hs := tsl_nil_and)
      exact ts_not (ts_val (ev_name (i := 10) (by rfl) (by decide)))
    case h2 =>
    apply exs_cons (ex_assign (i := 11) (by rfl) (by decide) (ev_callc T Cc (by decide) (by decide) (evs_cons (ev_name (i := 9) (by rfl) (by decide)) evs_nil)) (.inl (by decide)))
    apply exs_cons
    case h1 =>
      apply ex_if (hb := (exs_cons (ex_ret ev_bool) exs_nil)) (ho := exs_nil)
      apply ts_bool
      apply tsl_or (ts_cmp (ev_callc T Cc (by decide) (by decide) (evs_cons (ev_name (i := 11) (by rfl) (by decide)) evs_nil)) (ev_name (i := 11) (by rfl) (by decide)) cmp_ne)
      apply tsl_or (ts_cmp (ev_callblt T fn_len (by decide) B.len (by decide) (evs_cons (ev_name (i := 11) (by rfl) (by decide)) evs_nil)) (ev_list (evs_cons ev_int (evs_cons ev_int (evs_cons ev_int (evs_cons ev_int evs_nil))))) cmp_notin)
      apply tsl_or (hs := tsl_nil_or)
      apply ts_val (hi := fun _ _ => rfl)
      apply ev_comp (F' := fmL11) (pass := [none, some 11])
      case hF => constructor <;> decide
      case hit => exact itr_val (ev_name (i := 9) (by rfl) (by decide))
      case hcl =>
        apply cl_end (slot := 0) (by rfl) (by rfl) (by rfl) (by decide) (tsi_one (ts_cmp (ev_name (i := 0) (by rfl) (by decide)) (ev_name (i := 1) (by rfl) (by decide)) cmp_notin))
        exact (ev_name (i := 0) (by rfl) (by decide))
    case h2 =>
    apply exs_cons
    case h1 =>
      apply ex_if (hb := (exs_cons (ex_ret ev_bool) exs_nil)) (ho := exs_nil)
      apply ts_bool
      apply tsl_and (ts_cmp (ev_callblt T fn_len (by decide) B.len (by decide) (evs_cons (ev_name (i := 11) (by rfl) (by decide)) evs_nil)) ev_int cmp_eq)
      apply tsl_and (hs := tsl_nil_and)
      exact ts_cmp (ev_calltype T fn_tuple (by decide) B.tuple (by decide) (evs_cons (ev_rev (ev_name (i := 11) (by rfl) (by decide))) evs_nil)) (ev_name (i := 1) (by rfl) (by decide)) cmp_notin
    case h2 =>
    apply exs_cons
    case h1 =>
      apply ex_assign (i := 12) (by rfl) (by decide) (hs := .inl (by decide))
      apply ev_comp (F' := fmL10) (pass := [none, some 9])
      case hF => constructor <;> decide
      case hit => exact itr_range T (by decide) B.range (evs_cons ev_int (evs_cons ev_int evs_nil))
      case hcl =>
        apply cl_end (slot := 0) (by rfl) (by rfl) (by rfl) (by decide) (tsi_one (ts_cmp (ev_name (i := 0) (by rfl) (by decide)) (ev_name (i := 1) (by rfl) (by decide)) cmp_notin))
        exact (ev_name (i := 0) (by rfl) (by decide))
    case h2 =>
      apply exs_cons (h2 := exs_nil)
      apply ex_if (hb := (exs_cons (ex_ret ev_bool) exs_nil)) (ho := exs_nil)
      apply ts_bool
      apply tsl_and (ts_not (ts_val (ev_name (i := 10) (by rfl) (by decide))))
      apply tsl_and (hs := tsl_nil_and)
      apply ts_cmp (hr := ev_list evs_nil) (ho := cmp_eq)
      apply ev_comp (F' := fmL12) (pass := [none, some 12])
      case hF => constructor <;> decide
      case hit => exact itr_val (ev_name (i := 1) (by rfl) (by decide))
      case hcl =>
        apply cl_end (slot := 0) (by rfl) (by rfl) (by rfl) (by decide) (he := (ev_name (i := 0) (by rfl) (by decide)))
        apply tsi_one
        apply ts_cmp (hr := ev_list evs_nil) (ho := cmp_eq)
        apply ev_comp (F' := fmL13) (pass := [none, some 1])
        case hF => constructor <;> decide
        case hit => exact itr_val (ev_name (i := 0) (by rfl) (by decide))
        case hcl =>
          apply cl_end (slot := 0) (by rfl) (by rfl) (by rfl) (by decide) (tsi_one (ts_cmp (ev_name (i := 0) (by rfl) (by decide)) (ev_name (i := 1) (by rfl) (by decide)) cmp_notin))
          exact (ev_name (i := 0) (by rfl) (by decide))
end
end Mine

namespace Mine
open PySem PySem.Spec PySem.Calls PyProof.Rows PySem.W

theorem Fn.imp {prog : Program} {w : World} {G : Heap} {k : Nat} {f : Value} {φ φ' : List PV → Option PV} (h : Fn prog w G k f φ) (i : ∀ ds d, φ' ds = some d → φ ds = some d) : Fn prog w G k f φ' :=
  fun X A s vs ds d R I x ha hf => h X A s vs ds d R I x ha (i ds d hf)
theorem Callee.imp {prog : Program} {w : World} {G : Heap} {mg mb : Str → Option Value} {x : Str} {k : Nat} {φ φ' : List PV → Option PV} (C : Callee prog w G mg mb x k φ) (i : ∀ ds d, φ' ds = some d → φ ds = some d) : Callee prog w G mg mb x k φ' :=
  let ⟨a, o, fd, h1, h2, h3, h4⟩ := C.ex; ⟨a, o, fd, h1, h2, h3, h4.imp i⟩

noncomputable def pfig : List PV → Option PV
  | [.int k] => if 0 ≤ k ∧ k < 8 then some (.lst [.int (k % 2), .int (k / 2 % 2), .int (k / 4 % 2)]) else none
  | _ => none
noncomputable def pthird : List PV → Option PV
  | [.int a, .int b] => if (0 ≤ a ∧ a < 8) ∧ (0 ≤ b ∧ b < 8) then some (.int ((a.toNat ^^^ b.toNat : Nat) : Int)) else none
  | _ => none

section
variable {prog : Program} {w : World} {G : Heap} {mg mb : Str → Option Value}

theorem cases8 {k : Int} (h : 0 ≤ k ∧ k < 8) : k = 0 ∨ k = 1 ∨ k = 2 ∨ k = 3 ∨ k = 4 ∨ k = 5 ∨ k = 6 ∨ k = 7 := by omega

theorem fig_plain (T : GT G mg mb) (B : Blts mg mb) (C : Callee prog w G mg mb "_int2digits" 6 i2dV) (ds : List PV) (d : PV) (h : pfig ds = some d) :
    (if ds.length = 1 then ((figR T B C).1 (ds.map Slot.val ++ List.replicate 0 .no)).bind fun o => some (outV o) else none) = some d := by
  unfold pfig at h
  split at h
  · split at h
    · rename_i k hk
      cases h
      rcases cases8 hk with rfl | rfl | rfl | rfl | rfl | rfl | rfl | rfl <;> rfl
    · cases h
  · cases h
end
end Mine

namespace Mine
open PySem PySem.Spec PySem.Calls PyProof.Rows PySem.W
section
variable {prog : Program} {w : World} {G : Heap} {mg mb : Str → Option Value}
theorem third_plain (T : GT G mg mb) (B : Blts mg mb) (C : Callee prog w G mg mb "_law_figures" 7 pfig) (C' : Callee prog w G mg mb "_digits2int" 6 d2iV) (ds : List PV) (d : PV) (h : pthird ds = some d) :
    (if ds.length = 2 then ((thirdR T B C C').1 (ds.map Slot.val ++ List.replicate 2 .no)).bind fun o => some (outV o) else none) = some d := by
  unfold pthird at h
  split at h
  · split at h
    · rename_i a b hk
      cases h
      rcases cases8 hk.1 with rfl | rfl | rfl | rfl | rfl | rfl | rfl | rfl <;> rcases cases8 hk.2 with rfl | rfl | rfl | rfl | rfl | rfl | rfl | rfl <;> rfl
    · cases h
  · cases h

noncomputable def mInts (l : List Int) : PV := .lst (l.map .int)
end
end Mine

namespace Mine
open PySem PySem.Spec PySem.Calls PyProof.Rows PySem.W

noncomputable def keep (ρ : List Slot) : List Slot := [ρ.getD 0 .no, ρ.getD 1 .no, .no, .no, .no, .no, .no, .no, .no, .no, .no, .no, .no]
theorem less_keep (ρ : List Slot) : Less (keep ρ) ρ := fun j z e => by
  match j, e with
  | 0, e =>
    simp only [keep, List.getElem?_cons_zero, Option.some.injEq] at e
    rw [List.getD_eq_getElem?_getD] at e
    cases q : ρ[0]? with
    | none => rw [q] at e; exact .inl e.symm
    | some u => rw [q] at e; exact .inr (by rw [← e]; rfl)
  | 1, e =>
    simp only [keep, List.getElem?_cons_succ, List.getElem?_cons_zero, Option.some.injEq] at e
    rw [List.getD_eq_getElem?_getD] at e
    cases q : ρ[1]? with
    | none => rw [q] at e; exact .inl e.symm
    | some u => rw [q] at e; exact .inr (by rw [← e]; rfl)
  | j + 2, e =>
    left
    have := List.mem_of_getElem? (show ([.no, .no, .no, .no, .no, .no, .no, .no, .no, .no, .no] : List Slot)[j]? = some z from e)
    simpa using this
noncomputable def weak (f : List Slot → Option SOut) (ρ : List Slot) : Option SOut := (f ρ).bind fun o => match o with
  | .go ρ' => some (.go (keep ρ'))
  | .ret d => some (.ret d)
section
variable {prog : Program} {w : World} {G : Heap} {n : Nat} {F : Fm} {mg mb : Str → Option Value}
theorem sp_weak {env : Env} {h₀ : Heap} {X₀ X W : Addr → Prop} {s : Shared} {ρ' : List Slot} {fl : Flow} {s' : Shared} (h : SP prog w G F env h₀ X₀ X W s (.go ρ') fl s') : SP prog w G F env h₀ X₀ X W s (.go (keep ρ')) fl s' := by
  obtain ⟨h₁, tk₁, e, k, ol, e2, X', W', K, g1, g2⟩ := h
  exact ⟨h₁, tk₁, e, k, ol, e2, X', W', K.less (less_keep _), g1, g2⟩
theorem exs_weak {sts : List Stmt} {f : List Slot → Option SOut} (h : Exs prog w G n F sts f) : Exs prog w G n F sts (weak f) := by
  intro env h₀ X₀ X W ρ A s o R K hX hX₀ hf
  obtain ⟨o', ho', hf⟩ := Option.bind_eq_some_iff.mp hf
  refine wpAny_mono (h env h₀ X₀ X W ρ A s o' R K hX hX₀ ho') (fun fl s' hs' => ?_) fun _ _ e => e
  cases o' with
  | ret d => cases hf; exact hs'
  | go ρ' => cases hf; exact sp_weak hs'
theorem ex_weak {st : Stmt} {f : List Slot → Option SOut} (h : Ex prog w G n F st f) : Ex prog w G n F st (weak f) := by
  intro env h₀ X₀ X W ρ A s o R K hX hX₀ hf
  obtain ⟨o', ho', hf⟩ := Option.bind_eq_some_iff.mp hf
  refine wpAny_mono (h env h₀ X₀ X W ρ A s o' R K hX hX₀ ho') (fun fl s' hs' => ?_) fun _ _ e => e
  cases o' with
  | ret d => cases hf; exact hs'
  | go ρ' => cases hf; exact sp_weak hs'
theorem exs_imp {sts : List Stmt} {f g : List Slot → Option SOut} (h : Exs prog w G n F sts f) (i : ∀ ρ o, g ρ = some o → f ρ = some o) : Exs prog w G n F sts g :=
  fun env h₀ X₀ X W ρ A s o R K hX hX₀ hf => h env h₀ X₀ X W ρ A s o R K hX hX₀ (i ρ o hf)
theorem ex_imp {st : Stmt} {f g : List Slot → Option SOut} (h : Ex prog w G n F st f) (i : ∀ ρ o, g ρ = some o → f ρ = some o) : Ex prog w G n F st g :=
  fun env h₀ X₀ X W ρ A s o R K hX hX₀ hf => h env h₀ X₀ X W ρ A s o R K hX hX₀ (i ρ o hf)

noncomputable def addφ : List PV → Option PV := fun ds => if ds.length = 2 then (addR.1 (ds.map Slot.val ++ List.replicate 3 .no)).bind fun o => some (outV o) else none
noncomputable def countφ : List PV → Option PV := fun ds => if ds.length = 1 then (countR.1 (ds.map Slot.val ++ List.replicate 2 .no)).bind fun o => some (outV o) else none
noncomputable def pline (a b c : Int) : PV := .tup [.int a, .int b, .int c]
noncomputable def linesV : PV := .lst [pline 3 2 1, pline 5 4 1, pline 6 4 2, pline 6 5 3, pline 7 4 3, pline 7 5 2, pline 7 6 1]
noncomputable def K0 (S : PV) : List Slot := [.val S, .val linesV, .no, .no, .no, .no, .no, .no, .no, .no, .no, .no, .no]

noncomputable def pre36 (T : GT G mg mb) (B : Blts mg mb) (Ca : Callee prog w G mg mb "add_callers" 4 addφ) (Cn : Callee prog w G mg mb "count_calls" 4 countφ) (ρ : List Slot) : Option SOut :=
  ((law3 (prog := prog) (w := w) T B).1 ρ).bind fun o => match o with
    | .go ρ => ((law4 T B Ca).1 ρ).bind fun o => match o with
      | .go ρ => ((law5 T B Cn).1 ρ).bind fun o => match o with
        | .go ρ => (law6 (prog := prog) (w := w) T B).1 ρ
        | .ret d => some (.ret d)
      | .ret d => some (.ret d)
    | .ret d => some (.ret d)
theorem pre36_eq (T : GT G mg mb) (B : Blts mg mb) (Ca : Callee prog w G mg mb "add_callers" 4 addφ) (Cn : Callee prog w G mg mb "count_calls" 4 countφ) (S : PV) : weak (pre36 T B Ca Cn) (K0 S) = some (.go (K0 S)) := by kernel_rfl
end
end Mine

namespace Mine
open PySem PySem.Spec PySem.Calls PyProof.Rows PySem.W

noncomputable def bitsF : Nat → Nat → List Int
  | 0, _ => []
  | f + 1, n => if n = 0 then [] else ((n % 2 : Nat) : Int) :: bitsF f (n / 2)
noncomputable def figsV (r : Nat) : PV := mInts (bitsF 8 r ++ [0, 0, 0, 0, 0, 0, 0])
theorem tab_at {α : Type} {f g : Nat → α} {n r : Nat} (h : (List.range n).map f = (List.range n).map g) (hr : r < n) : f r = g r := by
  have := congrArg (fun l => l[r]?) h
  simp only [List.getElem?_map, List.getElem?_range hr, Option.map_some] at this
  exact Option.some.inj this

/-- lots by number: point k stands for the figure k - 1 -/
noncomputable def lotL (r : Nat) : List Int := (List.range 7).filterMap fun (i : Nat) => if r / 2 ^ i % 2 = 1 then some ((i : Int) + 1) else none
noncomputable def turnT : List Nat := [0, 1, 2, 7, 4, 7, 7, 7, 8, 25, 42, 63, 76, 95, 111, 127, 16, 25, 82, 95, 52, 63, 119, 127, 25, 25, 123, 127, 125, 127, 127, 127, 32, 97, 42, 111, 52, 119, 63, 127, 42, 123, 42, 127, 126, 127, 127, 127, 52, 125, 126, 127, 52, 127, 127, 127, 63, 127, 127, 127, 127, 127, 127, 127, 64, 97, 82, 119, 76, 111, 95, 127, 76, 125, 126, 127, 76, 127, 127, 127, 82, 123, 82, 127, 126, 127, 127, 127, 95, 127, 127, 127, 127, 127, 127, 127, 97, 97, 123, 127, 125, 127, 127, 127, 111, 127, 127, 127, 127, 127, 127, 127, 119, 127, 127, 127, 127, 127, 127, 127, 127, 127, 127, 127, 127, 127, 127, 127]
noncomputable def turnN (r : Nat) : Nat := turnT.getD r 0
noncomputable def closN (r : Nat) : Nat := turnN (turnN (turnN r))
theorem turnN_lt {r : Nat} (h : r < 128) : turnN r < 128 := by
  have : ∀ r ∈ List.range 128, turnN r < 128 := by decide +kernel
  exact this r (List.mem_range.mpr h)
noncomputable def encI (l : List Int) : Nat := l.foldr (fun k n => n + 2 ^ (k - 1).toNat) 0
/-- a table over 128 numbers, put together from sixteen of eight -/
theorem by_eights {P : Nat → Prop} (h : ∀ k < 16, ∀ j < 8, P (8 * k + j)) {r : Nat} (hr : r < 128) : P r := by
  have := h (r / 8) (by omega) (r % 8) (by omega)
  have e : 8 * (r / 8) + r % 8 = r := by omega
  rwa [e] at this
theorem sixteen {P : Nat → Prop} (h0 : P 0) (h1 : P 1) (h2 : P 2) (h3 : P 3) (h4 : P 4) (h5 : P 5) (h6 : P 6) (h7 : P 7) (h8 : P 8) (h9 : P 9) (h10 : P 10) (h11 : P 11) (h12 : P 12) (h13 : P 13) (h14 : P 14) (h15 : P 15) : ∀ k < 16, P k
  | 0, _ => h0 | 1, _ => h1 | 2, _ => h2 | 3, _ => h3 | 4, _ => h4 | 5, _ => h5 | 6, _ => h6 | 7, _ => h7
  | 8, _ => h8 | 9, _ => h9 | 10, _ => h10 | 11, _ => h11 | 12, _ => h12 | 13, _ => h13 | 14, _ => h14 | 15, _ => h15
  | k + 16, h => absurd h (by omega)

section
variable {prog : Program} {w : World} {G : Heap} {mg mb : Str → Option Value}

noncomputable def absI (z : Int) : Int := if z < 0 then -z else z
/-- the figures of a residue, padded -/
noncomputable def figF (r : Nat) : Option PV := (i2dV [.int (r : Int), .int 1]).bind fun a => (pvMulL [.int 0] (.int 7)).bind fun b => pvAdd a b
theorem fig_0  : (List.range 8).map (fun j => figF (8 * 0 + j)) = (List.range 8).map fun j => some (figsV (8 * 0 + j)) := by kernel_rfl
theorem fig_1  : (List.range 8).map (fun j => figF (8 * 1 + j)) = (List.range 8).map fun j => some (figsV (8 * 1 + j)) := by kernel_rfl
theorem fig_2  : (List.range 8).map (fun j => figF (8 * 2 + j)) = (List.range 8).map fun j => some (figsV (8 * 2 + j)) := by kernel_rfl
theorem fig_3  : (List.range 8).map (fun j => figF (8 * 3 + j)) = (List.range 8).map fun j => some (figsV (8 * 3 + j)) := by kernel_rfl
theorem fig_4  : (List.range 8).map (fun j => figF (8 * 4 + j)) = (List.range 8).map fun j => some (figsV (8 * 4 + j)) := by kernel_rfl
theorem fig_5  : (List.range 8).map (fun j => figF (8 * 5 + j)) = (List.range 8).map fun j => some (figsV (8 * 5 + j)) := by kernel_rfl
theorem fig_6  : (List.range 8).map (fun j => figF (8 * 6 + j)) = (List.range 8).map fun j => some (figsV (8 * 6 + j)) := by kernel_rfl
theorem fig_7  : (List.range 8).map (fun j => figF (8 * 7 + j)) = (List.range 8).map fun j => some (figsV (8 * 7 + j)) := by kernel_rfl
theorem fig_8  : (List.range 8).map (fun j => figF (8 * 8 + j)) = (List.range 8).map fun j => some (figsV (8 * 8 + j)) := by kernel_rfl
theorem fig_9  : (List.range 8).map (fun j => figF (8 * 9 + j)) = (List.range 8).map fun j => some (figsV (8 * 9 + j)) := by kernel_rfl
theorem fig_10  : (List.range 8).map (fun j => figF (8 * 10 + j)) = (List.range 8).map fun j => some (figsV (8 * 10 + j)) := by kernel_rfl
theorem fig_11  : (List.range 8).map (fun j => figF (8 * 11 + j)) = (List.range 8).map fun j => some (figsV (8 * 11 + j)) := by kernel_rfl
theorem fig_12  : (List.range 8).map (fun j => figF (8 * 12 + j)) = (List.range 8).map fun j => some (figsV (8 * 12 + j)) := by kernel_rfl
theorem fig_13  : (List.range 8).map (fun j => figF (8 * 13 + j)) = (List.range 8).map fun j => some (figsV (8 * 13 + j)) := by kernel_rfl
theorem fig_14  : (List.range 8).map (fun j => figF (8 * 14 + j)) = (List.range 8).map fun j => some (figsV (8 * 14 + j)) := by kernel_rfl
theorem fig_15  : (List.range 8).map (fun j => figF (8 * 15 + j)) = (List.range 8).map fun j => some (figsV (8 * 15 + j)) := by kernel_rfl
theorem fig_eq  {r : Nat} (hr : r < 128) : figF (r) = some (figsV (r)) :=
  by_eights (P := fun r => figF (r) = some (figsV (r))) (sixteen (P := fun k => ∀ j < 8, figF (8 * k + j) = some (figsV (8 * k + j))) (fun _ => tab_at (fig_0)) (fun _ => tab_at (fig_1)) (fun _ => tab_at (fig_2)) (fun _ => tab_at (fig_3)) (fun _ => tab_at (fig_4)) (fun _ => tab_at (fig_5)) (fun _ => tab_at (fig_6)) (fun _ => tab_at (fig_7)) (fun _ => tab_at (fig_8)) (fun _ => tab_at (fig_9)) (fun _ => tab_at (fig_10)) (fun _ => tab_at (fig_11)) (fun _ => tab_at (fig_12)) (fun _ => tab_at (fig_13)) (fun _ => tab_at (fig_14)) (fun _ => tab_at (fig_15))) hr
theorem b1_eq (T : GT G mg mb) (B : Blts mg mb) (C : Callee prog w G mg mb "_int2digits" 6 i2dV) (S : PV) (z : Int) (r : Nat) (hr : r < 128) (hz : (absI z).fmod 128 = (r : Int)) :
    (lawB1 T B C).1 ((K0 S).set 7 (.val (.int z))) = some (.go (((K0 S).set 7 (.val (.int z))).set 8 (.val (figsV r)))) := by
  have e1 : pvMod (.int (absI z)) (.int 128) = some (.int (r : Int)) := by
    show some (PV.int ((absI z).fmod 128)) = _
    rw [hz]
  show ((((pvMod (.int (absI z)) (.int 128)).bind fun d => some [d, PV.int 1]).bind i2dV).bind fun a => (pvMulL [.int 0] (.int 7)).bind fun b => pvAdd a b).bind (fun d => some (SOut.go (((K0 S).set 7 (.val (.int z))).set 8 (.val d)))) = _
  rw [e1]
  show (figF r).bind _ = _
  rw [fig_eq hr]; rfl

noncomputable def turnF (T : GT G mg mb) (B : Blts mg mb) (C3 : Callee prog w G mg mb "_law_third" 8 pthird) (S t : Slot) (r : Nat) : Option SOut := (closeB T B C3).1 [S, .val (mInts (lotL r)), t]
noncomputable def turnG (S t : Slot) (r : Nat) : Option SOut := some (.go [S, .val (mInts (lotL (turnN r))), t])
theorem turn_0 (T : GT G mg mb) (B : Blts mg mb) (C3 : Callee prog w G mg mb "_law_third" 8 pthird) (S t : Slot) : (List.range 8).map (fun j => turnF T B C3 S t (8 * 0 + j)) = (List.range 8).map fun j => turnG S t (8 * 0 + j) := by kernel_rfl
theorem turn_1 (T : GT G mg mb) (B : Blts mg mb) (C3 : Callee prog w G mg mb "_law_third" 8 pthird) (S t : Slot) : (List.range 8).map (fun j => turnF T B C3 S t (8 * 1 + j)) = (List.range 8).map fun j => turnG S t (8 * 1 + j) := by kernel_rfl
theorem turn_2 (T : GT G mg mb) (B : Blts mg mb) (C3 : Callee prog w G mg mb "_law_third" 8 pthird) (S t : Slot) : (List.range 8).map (fun j => turnF T B C3 S t (8 * 2 + j)) = (List.range 8).map fun j => turnG S t (8 * 2 + j) := by kernel_rfl
theorem turn_3 (T : GT G mg mb) (B : Blts mg mb) (C3 : Callee prog w G mg mb "_law_third" 8 pthird) (S t : Slot) : (List.range 8).map (fun j => turnF T B C3 S t (8 * 3 + j)) = (List.range 8).map fun j => turnG S t (8 * 3 + j) := by kernel_rfl
theorem turn_4 (T : GT G mg mb) (B : Blts mg mb) (C3 : Callee prog w G mg mb "_law_third" 8 pthird) (S t : Slot) : (List.range 8).map (fun j => turnF T B C3 S t (8 * 4 + j)) = (List.range 8).map fun j => turnG S t (8 * 4 + j) := by kernel_rfl
theorem turn_5 (T : GT G mg mb) (B : Blts mg mb) (C3 : Callee prog w G mg mb "_law_third" 8 pthird) (S t : Slot) : (List.range 8).map (fun j => turnF T B C3 S t (8 * 5 + j)) = (List.range 8).map fun j => turnG S t (8 * 5 + j) := by kernel_rfl
theorem turn_6 (T : GT G mg mb) (B : Blts mg mb) (C3 : Callee prog w G mg mb "_law_third" 8 pthird) (S t : Slot) : (List.range 8).map (fun j => turnF T B C3 S t (8 * 6 + j)) = (List.range 8).map fun j => turnG S t (8 * 6 + j) := by kernel_rfl
theorem turn_7 (T : GT G mg mb) (B : Blts mg mb) (C3 : Callee prog w G mg mb "_law_third" 8 pthird) (S t : Slot) : (List.range 8).map (fun j => turnF T B C3 S t (8 * 7 + j)) = (List.range 8).map fun j => turnG S t (8 * 7 + j) := by kernel_rfl
theorem turn_8 (T : GT G mg mb) (B : Blts mg mb) (C3 : Callee prog w G mg mb "_law_third" 8 pthird) (S t : Slot) : (List.range 8).map (fun j => turnF T B C3 S t (8 * 8 + j)) = (List.range 8).map fun j => turnG S t (8 * 8 + j) := by kernel_rfl
theorem turn_9 (T : GT G mg mb) (B : Blts mg mb) (C3 : Callee prog w G mg mb "_law_third" 8 pthird) (S t : Slot) : (List.range 8).map (fun j => turnF T B C3 S t (8 * 9 + j)) = (List.range 8).map fun j => turnG S t (8 * 9 + j) := by kernel_rfl
theorem turn_10 (T : GT G mg mb) (B : Blts mg mb) (C3 : Callee prog w G mg mb "_law_third" 8 pthird) (S t : Slot) : (List.range 8).map (fun j => turnF T B C3 S t (8 * 10 + j)) = (List.range 8).map fun j => turnG S t (8 * 10 + j) := by kernel_rfl
theorem turn_11 (T : GT G mg mb) (B : Blts mg mb) (C3 : Callee prog w G mg mb "_law_third" 8 pthird) (S t : Slot) : (List.range 8).map (fun j => turnF T B C3 S t (8 * 11 + j)) = (List.range 8).map fun j => turnG S t (8 * 11 + j) := by kernel_rfl
theorem turn_12 (T : GT G mg mb) (B : Blts mg mb) (C3 : Callee prog w G mg mb "_law_third" 8 pthird) (S t : Slot) : (List.range 8).map (fun j => turnF T B C3 S t (8 * 12 + j)) = (List.range 8).map fun j => turnG S t (8 * 12 + j) := by kernel_rfl
theorem turn_13 (T : GT G mg mb) (B : Blts mg mb) (C3 : Callee prog w G mg mb "_law_third" 8 pthird) (S t : Slot) : (List.range 8).map (fun j => turnF T B C3 S t (8 * 13 + j)) = (List.range 8).map fun j => turnG S t (8 * 13 + j) := by kernel_rfl
theorem turn_14 (T : GT G mg mb) (B : Blts mg mb) (C3 : Callee prog w G mg mb "_law_third" 8 pthird) (S t : Slot) : (List.range 8).map (fun j => turnF T B C3 S t (8 * 14 + j)) = (List.range 8).map fun j => turnG S t (8 * 14 + j) := by kernel_rfl
theorem turn_15 (T : GT G mg mb) (B : Blts mg mb) (C3 : Callee prog w G mg mb "_law_third" 8 pthird) (S t : Slot) : (List.range 8).map (fun j => turnF T B C3 S t (8 * 15 + j)) = (List.range 8).map fun j => turnG S t (8 * 15 + j) := by kernel_rfl
theorem turn_eq (T : GT G mg mb) (B : Blts mg mb) (C3 : Callee prog w G mg mb "_law_third" 8 pthird) (S t : Slot) {r : Nat} (hr : r < 128) : turnF T B C3 S t (r) = turnG S t (r) :=
  by_eights (P := fun r => turnF T B C3 S t (r) = turnG S t (r)) (sixteen (P := fun k => ∀ j < 8, turnF T B C3 S t (8 * k + j) = turnG S t (8 * k + j)) (fun _ => tab_at (turn_0 T B C3 S t)) (fun _ => tab_at (turn_1 T B C3 S t)) (fun _ => tab_at (turn_2 T B C3 S t)) (fun _ => tab_at (turn_3 T B C3 S t)) (fun _ => tab_at (turn_4 T B C3 S t)) (fun _ => tab_at (turn_5 T B C3 S t)) (fun _ => tab_at (turn_6 T B C3 S t)) (fun _ => tab_at (turn_7 T B C3 S t)) (fun _ => tab_at (turn_8 T B C3 S t)) (fun _ => tab_at (turn_9 T B C3 S t)) (fun _ => tab_at (turn_10 T B C3 S t)) (fun _ => tab_at (turn_11 T B C3 S t)) (fun _ => tab_at (turn_12 T B C3 S t)) (fun _ => tab_at (turn_13 T B C3 S t)) (fun _ => tab_at (turn_14 T B C3 S t)) (fun _ => tab_at (turn_15 T B C3 S t))) hr

noncomputable def closedφ (T : GT G mg mb) (B : Blts mg mb) (C3 : Callee prog w G mg mb "_law_third" 8 pthird) : List PV → Option PV :=
  fun ds => if ds.length = 1 then ((closedR T B C3).1 (ds.map Slot.val ++ List.replicate 2 .no)).bind fun o => some (outV o) else none
theorem for_three (T : GT G mg mb) (B : Blts mg mb) (C3 : Callee prog w G mg mb "_law_third" 8 pthird) (S : Slot) {r : Nat} (hr : r < 128) :
    forF (fun ρ d => some (ρ.set 2 (.val d))) (closeB T B C3).1 [S, .val (mInts (lotL r)), .no] [.int 0, .int 1, .int 2] = some (.go [S, .val (mInts (lotL (closN r))), .val (.int 2)]) := by
  have step : ∀ (u : Slot) (d : PV) (r : Nat) (ds : List PV), r < 128 → forF (fun ρ d => some (ρ.set 2 (.val d))) (closeB T B C3).1 [S, .val (mInts (lotL r)), u] (d :: ds) = forF (fun ρ d => some (ρ.set 2 (.val d))) (closeB T B C3).1 [S, .val (mInts (lotL (turnN r))), .val d] ds := fun u d r ds hr => by
    show ((turnF T B C3 S (.val d) r).bind _) = _
    rw [turn_eq T B C3 S (.val d) hr]; rfl
  rw [step _ _ _ _ hr, step _ _ _ _ (turnN_lt hr), step _ _ _ _ (turnN_lt (turnN_lt hr))]; rfl
theorem closed_at (T : GT G mg mb) (B : Blts mg mb) (C3 : Callee prog w G mg mb "_law_third" 8 pthird) {r : Nat} (hr : r < 128) : closedφ T B C3 [mInts (lotL r)] = some (mInts (lotL (closN r))) := by
  have key := for_three T B C3 (.val (mInts (lotL r))) hr
  unfold closedφ
  rw [if_pos (show [mInts (lotL r)].length = 1 from rfl)]
  unfold closedR
  dsimp only
  have hn : (lotL r).length ≤ 7 := Nat.le_trans (List.length_filterMap_le _ _) (by decide)
  have hl : fList [mInts (lotL r)] = some (mInts (lotL r)) := if_pos (by rw [List.length_map]; omega)
  show ((((fList [mInts (lotL r)]).bind fun d => some (SOut.go [.val (mInts (lotL r)), .val d, .no])).bind _).bind _) = _
  rw [hl]
  show (((forF (fun ρ d => some (ρ.set 2 (.val d))) (closeB T B C3).1 [.val (mInts (lotL r)), .val (mInts (lotL r)), .no] [.int 0, .int 1, .int 2]).bind _).bind _) = _
  rw [key]; rfl
/-- _law_closed, read off a table -/
noncomputable def closedT : List PV → Option PV
  | [.lst l] => (ints? l).bind fun x => if encI x < 128 ∧ x = lotL (encI x) then some (mInts (lotL (closN (encI x)))) else none
  | _ => none
theorem of_ints? : ∀ {l : List PV} {x : List Int}, ints? l = some x → l = x.map .int
  | [], x, e => by cases e; rfl
  | d :: r, x, e => by
    cases d with
    | int i =>
      unfold ints? at e
      obtain ⟨l, hl, e⟩ := Option.bind_eq_some_iff.mp e
      cases e
      rw [of_ints? hl]; rfl
    | _ => cases e
theorem closed_plain (T : GT G mg mb) (B : Blts mg mb) (C3 : Callee prog w G mg mb "_law_third" 8 pthird) (ds : List PV) (d : PV) (h : closedT ds = some d) : closedφ T B C3 ds = some d := by
  unfold closedT at h
  split at h
  · rename_i l
    obtain ⟨x, hx, h⟩ := Option.bind_eq_some_iff.mp h
    split at h
    · rename_i hc
      have e : PV.lst l = mInts (lotL (encI x)) := by rw [of_ints? hx, ← hc.2]; rfl
      rw [e, closed_at T B C3 hc.1]; exact h
    · cases h
  · cases h

noncomputable def bodyF (T : GT G mg mb) (B : Blts mg mb) (Cc : Callee prog w G mg mb "_law_closed" 9 closedT) (S : PV) (z : Int) (r : Nat) : Option SOut := weak (lawB2 T B Cc).1 (((K0 S).set 7 (.val (.int z))).set 8 (.val (figsV r)))
theorem body_0 (T : GT G mg mb) (B : Blts mg mb) (Cc : Callee prog w G mg mb "_law_closed" 9 closedT) (S : PV) (z : Int) : (List.range 8).map (fun j => bodyF T B Cc S z (8 * 0 + j)) = (List.range 8).map fun j => some (.go (K0 S)) := by kernel_rfl
theorem body_1 (T : GT G mg mb) (B : Blts mg mb) (Cc : Callee prog w G mg mb "_law_closed" 9 closedT) (S : PV) (z : Int) : (List.range 8).map (fun j => bodyF T B Cc S z (8 * 1 + j)) = (List.range 8).map fun j => some (.go (K0 S)) := by kernel_rfl
theorem body_2 (T : GT G mg mb) (B : Blts mg mb) (Cc : Callee prog w G mg mb "_law_closed" 9 closedT) (S : PV) (z : Int) : (List.range 8).map (fun j => bodyF T B Cc S z (8 * 2 + j)) = (List.range 8).map fun j => some (.go (K0 S)) := by kernel_rfl
theorem body_3 (T : GT G mg mb) (B : Blts mg mb) (Cc : Callee prog w G mg mb "_law_closed" 9 closedT) (S : PV) (z : Int) : (List.range 8).map (fun j => bodyF T B Cc S z (8 * 3 + j)) = (List.range 8).map fun j => some (.go (K0 S)) := by kernel_rfl
theorem body_4 (T : GT G mg mb) (B : Blts mg mb) (Cc : Callee prog w G mg mb "_law_closed" 9 closedT) (S : PV) (z : Int) : (List.range 8).map (fun j => bodyF T B Cc S z (8 * 4 + j)) = (List.range 8).map fun j => some (.go (K0 S)) := by kernel_rfl
theorem body_5 (T : GT G mg mb) (B : Blts mg mb) (Cc : Callee prog w G mg mb "_law_closed" 9 closedT) (S : PV) (z : Int) : (List.range 8).map (fun j => bodyF T B Cc S z (8 * 5 + j)) = (List.range 8).map fun j => some (.go (K0 S)) := by kernel_rfl
theorem body_6 (T : GT G mg mb) (B : Blts mg mb) (Cc : Callee prog w G mg mb "_law_closed" 9 closedT) (S : PV) (z : Int) : (List.range 8).map (fun j => bodyF T B Cc S z (8 * 6 + j)) = (List.range 8).map fun j => some (.go (K0 S)) := by kernel_rfl
theorem body_7 (T : GT G mg mb) (B : Blts mg mb) (Cc : Callee prog w G mg mb "_law_closed" 9 closedT) (S : PV) (z : Int) : (List.range 8).map (fun j => bodyF T B Cc S z (8 * 7 + j)) = (List.range 8).map fun j => some (.go (K0 S)) := by kernel_rfl
theorem body_8 (T : GT G mg mb) (B : Blts mg mb) (Cc : Callee prog w G mg mb "_law_closed" 9 closedT) (S : PV) (z : Int) : (List.range 8).map (fun j => bodyF T B Cc S z (8 * 8 + j)) = (List.range 8).map fun j => some (.go (K0 S)) := by kernel_rfl
theorem body_9 (T : GT G mg mb) (B : Blts mg mb) (Cc : Callee prog w G mg mb "_law_closed" 9 closedT) (S : PV) (z : Int) : (List.range 8).map (fun j => bodyF T B Cc S z (8 * 9 + j)) = (List.range 8).map fun j => some (.go (K0 S)) := by kernel_rfl
theorem body_10 (T : GT G mg mb) (B : Blts mg mb) (Cc : Callee prog w G mg mb "_law_closed" 9 closedT) (S : PV) (z : Int) : (List.range 8).map (fun j => bodyF T B Cc S z (8 * 10 + j)) = (List.range 8).map fun j => some (.go (K0 S)) := by kernel_rfl
theorem body_11 (T : GT G mg mb) (B : Blts mg mb) (Cc : Callee prog w G mg mb "_law_closed" 9 closedT) (S : PV) (z : Int) : (List.range 8).map (fun j => bodyF T B Cc S z (8 * 11 + j)) = (List.range 8).map fun j => some (.go (K0 S)) := by kernel_rfl
theorem body_12 (T : GT G mg mb) (B : Blts mg mb) (Cc : Callee prog w G mg mb "_law_closed" 9 closedT) (S : PV) (z : Int) : (List.range 8).map (fun j => bodyF T B Cc S z (8 * 12 + j)) = (List.range 8).map fun j => some (.go (K0 S)) := by kernel_rfl
theorem body_13 (T : GT G mg mb) (B : Blts mg mb) (Cc : Callee prog w G mg mb "_law_closed" 9 closedT) (S : PV) (z : Int) : (List.range 8).map (fun j => bodyF T B Cc S z (8 * 13 + j)) = (List.range 8).map fun j => some (.go (K0 S)) := by kernel_rfl
theorem body_14 (T : GT G mg mb) (B : Blts mg mb) (Cc : Callee prog w G mg mb "_law_closed" 9 closedT) (S : PV) (z : Int) : (List.range 8).map (fun j => bodyF T B Cc S z (8 * 14 + j)) = (List.range 8).map fun j => some (.go (K0 S)) := by kernel_rfl
theorem body_15 (T : GT G mg mb) (B : Blts mg mb) (Cc : Callee prog w G mg mb "_law_closed" 9 closedT) (S : PV) (z : Int) : (List.range 8).map (fun j => bodyF T B Cc S z (8 * 15 + j)) = (List.range 8).map fun j => some (.go (K0 S)) := by kernel_rfl
theorem body_eq (T : GT G mg mb) (B : Blts mg mb) (Cc : Callee prog w G mg mb "_law_closed" 9 closedT) (S : PV) (z : Int) {r : Nat} (hr : r < 128) : bodyF T B Cc S z (r) = some (.go (K0 S)) :=
  by_eights (P := fun r => bodyF T B Cc S z (r) = some (.go (K0 S))) (sixteen (P := fun k => ∀ j < 8, bodyF T B Cc S z (8 * k + j) = some (.go (K0 S))) (fun _ => tab_at (body_0 T B Cc S z)) (fun _ => tab_at (body_1 T B Cc S z)) (fun _ => tab_at (body_2 T B Cc S z)) (fun _ => tab_at (body_3 T B Cc S z)) (fun _ => tab_at (body_4 T B Cc S z)) (fun _ => tab_at (body_5 T B Cc S z)) (fun _ => tab_at (body_6 T B Cc S z)) (fun _ => tab_at (body_7 T B Cc S z)) (fun _ => tab_at (body_8 T B Cc S z)) (fun _ => tab_at (body_9 T B Cc S z)) (fun _ => tab_at (body_10 T B Cc S z)) (fun _ => tab_at (body_11 T B Cc S z)) (fun _ => tab_at (body_12 T B Cc S z)) (fun _ => tab_at (body_13 T B Cc S z)) (fun _ => tab_at (body_14 T B Cc S z)) (fun _ => tab_at (body_15 T B Cc S z))) hr
end
end Mine

namespace Mine
open PySem PySem.Spec PySem.Calls PyProof.Rows PySem.W
section
variable {prog : Program} {w : World} {G : Heap} {mg mb : Str → Option Value}

noncomputable def bodyG (T : GT G mg mb) (B : Blts mg mb) (Ci : Callee prog w G mg mb "_int2digits" 6 i2dV) {φc : List PV → Option PV} (Cc : Callee prog w G mg mb "_law_closed" 9 φc) (ρ : List Slot) : Option SOut :=
  ((lawB1 T B Ci).1 ρ).bind fun o => match o with
    | .go ρ' => (lawB2 T B Cc).1 ρ'
    | .ret d => some (.ret d)
theorem body_exs (T : GT G mg mb) (B : Blts mg mb) (Ci : Callee prog w G mg mb "_int2digits" 6 i2dV) {φc : List PV → Option PV} (Cc : Callee prog w G mg mb "_law_closed" 9 φc) : Exs prog w G 9 fmLaw (forBody (stOf 6)) (bodyG T B Ci Cc) := by
  have e : forBody (stOf 6) = (forBody (stOf 6)).getD 0 (.Pass ⟨0, 0, 0, 0⟩) :: (forBody (stOf 6)).drop 1 := rfl
  rw [e]
  exact exs_cons (lawB1 T B Ci).2 (lawB2 T B Cc).2

theorem absI_mod (z : Int) : ∃ r : Nat, r < 128 ∧ (absI z).fmod 128 = (r : Int) := by
  have h0 : 0 ≤ (absI z).fmod 128 := Int.fmod_nonneg_of_pos _ (by decide)
  have h1 : (absI z).fmod 128 < 128 := Int.fmod_lt_of_pos _ (by decide)
  exact ⟨((absI z).fmod 128).toNat, by omega, by omega⟩

theorem bodyG_eq (T : GT G mg mb) (B : Blts mg mb) (Ci : Callee prog w G mg mb "_int2digits" 6 i2dV) (Cc : Callee prog w G mg mb "_law_closed" 9 closedT) (S : PV) (z : Int) :
    weak (bodyG T B Ci Cc) ((K0 S).set 7 (.val (.int z))) = some (.go (K0 S)) := by
  obtain ⟨r, hr, hz⟩ := absI_mod z
  unfold weak bodyG
  rw [b1_eq T B Ci S z r hr hz]
  exact body_eq T B Cc S z hr

noncomputable def law7 (T : GT G mg mb) (B : Blts mg mb) {g : List Slot → Option SOut} (hb : Exs prog w G 9 fmLaw (forBody (stOf 6)) g) : {f : List Slot → Option SOut // Ex prog w G 9 fmLaw (stOf 6) f} := by
  apply Subtype.mk
  case property =>
    exact ex_for (itr_val (ev_upto (c := 2) (ev_binop (ev_name (i := 0) (by rfl) (by decide)) (ev_list (evs_cons ev_int (evs_cons ev_int evs_nil))) op_add))) (tg_name (i := 7) (by rfl) (by decide)) hb
theorem law7_eq (T : GT G mg mb) (B : Blts mg mb) {g : List Slot → Option SOut} (hb : Exs prog w G 9 fmLaw (forBody (stOf 6)) g) (l : List Int) (hl : l.length ≤ 63) (hg : ∀ S z, g ((K0 S).set 7 (.val (.int z))) = some (.go (K0 S))) :
    (law7 T B hb).1 (K0 (mInts l)) = some (.go (K0 (mInts l))) := by
  have key : ∀ a b : Int, forF (fun ρ d => some (ρ.set 7 (.val d))) g (K0 (mInts l)) [.int a, .int b] = some (.go (K0 (mInts l))) := fun a b => by
    unfold forF
    show ((g ((K0 (mInts l)).set 7 (.val (.int a)))).bind _) = _
    rw [hg]
    show forF (fun ρ d => some (ρ.set 7 (.val d))) g (K0 (mInts l)) [.int b] = _
    unfold forF
    show ((g ((K0 (mInts l)).set 7 (.val (.int b)))).bind _) = _
    rw [hg]; rfl
  have hadd : pvAdd (mInts l) (.lst [.int 0, .int 0]) = some (.lst (l.map PV.int ++ [PV.int 0, PV.int 0])) := by
    show (if (l.map PV.int).length + 2 ≤ 1000 then some (PV.lst (l.map PV.int ++ [PV.int 0, PV.int 0])) else none) = _
    rw [if_pos (by rw [List.length_map]; omega)]
  have hup : ∃ a b, pvUpto 2 (.lst (l.map PV.int ++ [PV.int 0, PV.int 0])) = some (.lst [.int a, .int b]) := by
    have hc : 2 ≤ (l.map PV.int ++ [PV.int 0, PV.int 0]).length ∧ (l.map PV.int ++ [PV.int 0, PV.int 0]).length ≤ 1000 := by simp; omega
    have : pvUpto 2 (.lst (l.map PV.int ++ [PV.int 0, PV.int 0])) = some (.lst ((l.map PV.int ++ [PV.int 0, PV.int 0]).take 2)) := if_pos hc
    rw [this]
    match l with
    | [] => exact ⟨0, 0, rfl⟩
    | [a] => exact ⟨a, 0, rfl⟩
    | a :: b :: t => exact ⟨a, b, rfl⟩
  obtain ⟨a, b, hup⟩ := hup
  show ((((pvAdd (mInts l) (.lst [.int 0, .int 0])).bind (pvUpto 2)).bind pvIter).bind fun ds => forF (fun ρ d => some (ρ.set 7 (.val d))) g (K0 (mInts l)) ds) = _
  rw [hadd]
  show (((pvUpto 2 (.lst (l.map PV.int ++ [PV.int 0, PV.int 0]))).bind pvIter).bind _) = _
  rw [hup]
  exact key a b

noncomputable def law8 (T : GT G mg mb) : {f : List Slot → Option SOut // Ex prog w G 9 fmLaw (stOf 7) f} := by
  apply Subtype.mk
  case property => exact ex_ret ev_bool

noncomputable def goThen (o : Option SOut) (k : List Slot → Option SOut) : Option SOut := o.bind fun o => match o with
  | .go ρ => k ρ
  | .ret d => some (.ret d)
theorem goThen_assoc (o : Option SOut) (f k : List Slot → Option SOut) : goThen (goThen o f) k = goThen o fun ρ => goThen (f ρ) k := by
  cases o with
  | none => rfl
  | some o => cases o <;> rfl
theorem goThen_go {o : Option SOut} {ρ : List Slot} (h : o = some (.go ρ)) (k : List Slot → Option SOut) : goThen o k = k ρ := by rw [h]; rfl

noncomputable def initS (S : PV) : List Slot := [.val S, .no, .no, .no, .no, .no, .no, .no, .no, .no, .no, .no, .no]
theorem law1_eq (T : GT G mg mb) (B : Blts mg mb) (C3 : Callee prog w G mg mb "_law_third" 8 pthird) (S : PV) : (law1 T B C3).1 (initS S) = some (.go (K0 S)) := by kernel_rfl
theorem law2_eq (T : GT G mg mb) (B : Blts mg mb) (S : PV) : (law2 (prog := prog) (w := w) T B).1 (K0 S) = some (.go (K0 S)) := by kernel_rfl
theorem law36_eq (T : GT G mg mb) (B : Blts mg mb) (Ca : Callee prog w G mg mb "add_callers" 4 addφ) (Cn : Callee prog w G mg mb "count_calls" 4 countφ) (S : PV) :
    goThen ((law3 (prog := prog) (w := w) T B).1 (K0 S)) (fun ρ => goThen ((law4 T B Ca).1 ρ) fun ρ => goThen ((law5 T B Cn).1 ρ) fun ρ => weak (law6 (prog := prog) (w := w) T B).1 ρ) = some (.go (K0 S)) := by kernel_rfl
theorem law8_eq (T : GT G mg mb) (ρ : List Slot) : (law8 (prog := prog) (w := w) T).1 ρ = some (.ret (.bool true)) := rfl

noncomputable def lawR (T : GT G mg mb) (B : Blts mg mb) (C3 : Callee prog w G mg mb "_law_third" 8 pthird) (Ca : Callee prog w G mg mb "add_callers" 4 addφ) (Cn : Callee prog w G mg mb "count_calls" 4 countφ) (Ci : Callee prog w G mg mb "_int2digits" 6 i2dV) (Cc : Callee prog w G mg mb "_law_closed" 9 closedT) :
    {f : List Slot → Option SOut // Exs prog w G 9 fmLaw (theBody 10) f} :=
  ⟨fun ρ => goThen ((law1 T B C3).1 ρ) fun ρ => goThen ((law2 (prog := prog) (w := w) T B).1 ρ) fun ρ => goThen ((law3 (prog := prog) (w := w) T B).1 ρ) fun ρ => goThen ((law4 T B Ca).1 ρ) fun ρ => goThen ((law5 T B Cn).1 ρ) fun ρ => goThen (weak (law6 (prog := prog) (w := w) T B).1 ρ) fun ρ =>
      goThen ((law7 T B (exs_weak (body_exs T B Ci Cc))).1 ρ) fun ρ => goThen ((law8 (prog := prog) (w := w) T).1 ρ) fun ρ => some (.go ρ),
    show Exs prog w G 9 fmLaw [stOf 0, stOf 1, stOf 2, stOf 3, stOf 4, stOf 5, stOf 6, stOf 7] _ from
    exs_cons (law1 T B C3).2 (exs_cons (law2 T B).2 (exs_cons (law3 T B).2 (exs_cons (law4 T B Ca).2 (exs_cons (law5 T B Cn).2 (exs_cons (ex_weak (law6 T B).2) (exs_cons (law7 T B (exs_weak (body_exs T B Ci Cc))).2 (exs_cons (law8 T).2 exs_nil)))))))⟩
theorem lawR_eq (T : GT G mg mb) (B : Blts mg mb) (C3 : Callee prog w G mg mb "_law_third" 8 pthird) (Ca : Callee prog w G mg mb "add_callers" 4 addφ) (Cn : Callee prog w G mg mb "count_calls" 4 countφ) (Ci : Callee prog w G mg mb "_int2digits" 6 i2dV) (Cc : Callee prog w G mg mb "_law_closed" 9 closedT) (l : List Int) (hl : l.length ≤ 63) :
    (lawR T B C3 Ca Cn Ci Cc).1 (initS (mInts l)) = some (.ret (.bool true)) := by
  unfold lawR
  dsimp only
  rw [goThen_go (law1_eq T B C3 (mInts l)), goThen_go (law2_eq T B (mInts l))]
  have e := law36_eq T B Ca Cn (mInts l)
  have := goThen_go e (fun ρ => goThen ((law7 T B (exs_weak (body_exs T B Ci Cc))).1 ρ) fun ρ => goThen ((law8 (prog := prog) (w := w) T).1 ρ) fun ρ => some (.go ρ))
  simp only [goThen_assoc] at this
  rw [this, goThen_go (law7_eq T B _ l hl fun S z => bodyG_eq T B Ci Cc S z), law8_eq]
  rfl
end
end Mine

namespace Mine
open PySem PySem.Spec PySem.Calls PyProof.Rows PySem.W

noncomputable def paramsAt (i : Nat) : Arguments := paramsOf (PySem.Challenge.pw_gb0001_01.main.body.getD i (.Pass ⟨0, 0, 0, 0⟩))
structure FnAt (G : Heap) (mg mb : Str → Option Value) (x : Str) (i : Nat) (a c : Addr) : Prop where
  glo : Glo mg mb x (.ref a)
  ex : ∃ o doc pm ct, G.get? a = some o ∧ o.data = .func (fnX x x (paramsAt i) (theBody i) (scopeAt i) [] .none .none doc pm none (.ref c) ct) ∧ G.CodeRec (.ref c) x

theorem fmClosed_ok : DefFm fmClosed (scopeAt 9) ["lot"] := by
  constructor
  case pa => exact ⟨["found", "turn"], rfl⟩
  all_goals decide +kernel
theorem fmThird_ok : DefFm fmThird (scopeAt 8) ["one", "other"] := by
  constructor
  case pa => exact ⟨["left", "right"], rfl⟩
  all_goals decide +kernel
theorem fmFig_ok : DefFm fmFig (scopeAt 7) ["number"] := by
  constructor
  case pa => exact ⟨[], rfl⟩
  all_goals decide +kernel
theorem fmAdd_ok : DefFm fmAdd (scopeAt 1) ["target", "source"] := by
  constructor
  case pa => exact ⟨["new_callers", "func", "caller"], rfl⟩
  all_goals decide +kernel
theorem fmCount_ok : DefFm fmCount (scopeAt 2) ["callers"] := by
  constructor
  case pa => exact ⟨["nc", "calls"], rfl⟩
  all_goals decide +kernel
theorem fmLaw_ok : DefFm fmLaw (scopeAt 10) ["script"] := by
  constructor
  case pa => exact ⟨["lines", "point", "calls", "line", "other", "row", "number", "figures", "lot", "meets", "closed", "rest"], rfl⟩
  all_goals decide +kernel

section
variable {prog : Program} {w : World} {G : Heap} {mg mb : Str → Option Value} {a c : Addr}

theorem c_closed (T : GT G mg mb) (B : Blts mg mb) (C3 : Callee prog w G mg mb "_law_third" 8 pthird) (O : FnAt G mg mb "_law_closed" 9 a c) : Callee prog w G mg mb "_law_closed" 9 closedT := by
  obtain ⟨o, doc, pm, ct, ho, hd, hc⟩ := O.ex
  have : Callee prog w G mg mb "_law_closed" 9 (closedφ T B C3) := ⟨⟨a, o, _, O.glo, ho, hd, fn_def (r := 2) T ho hd hc rfl rfl rfl rfl fmClosed_ok (fun vs hv => by
    match vs, hv with
    | [u], _ => with_unfolding_all rfl) (closedR T B C3).2 rfl rfl⟩⟩
  exact this.imp fun ds d h => closed_plain T B C3 ds d h
theorem c_third (T : GT G mg mb) (B : Blts mg mb) (C : Callee prog w G mg mb "_law_figures" 7 pfig) (C' : Callee prog w G mg mb "_digits2int" 6 d2iV) (O : FnAt G mg mb "_law_third" 8 a c) : Callee prog w G mg mb "_law_third" 8 pthird := by
  obtain ⟨o, doc, pm, ct, ho, hd, hc⟩ := O.ex
  have : Callee prog w G mg mb "_law_third" 8 _ := ⟨⟨a, o, _, O.glo, ho, hd, fn_def (r := 2) T ho hd hc rfl rfl rfl rfl fmThird_ok (fun vs hv => by
    match vs, hv with
    | [u, v], _ => with_unfolding_all rfl) (thirdR T B C C').2 rfl rfl⟩⟩
  exact this.imp fun ds d h => third_plain T B C C' ds d h
theorem c_fig (T : GT G mg mb) (B : Blts mg mb) (C : Callee prog w G mg mb "_int2digits" 6 i2dV) (O : FnAt G mg mb "_law_figures" 7 a c) : Callee prog w G mg mb "_law_figures" 7 pfig := by
  obtain ⟨o, doc, pm, ct, ho, hd, hc⟩ := O.ex
  have : Callee prog w G mg mb "_law_figures" 7 _ := ⟨⟨a, o, _, O.glo, ho, hd, fn_def (r := 0) T ho hd hc rfl rfl rfl rfl fmFig_ok (fun vs hv => by
    match vs, hv with
    | [u], _ => with_unfolding_all rfl) (figR T B C).2 rfl rfl⟩⟩
  exact this.imp fun ds d h => fig_plain T B C ds d h
theorem c_add (T : GT G mg mb) (O : FnAt G mg mb "add_callers" 1 a c) : Callee prog w G mg mb "add_callers" 4 addφ := by
  obtain ⟨o, doc, pm, ct, ho, hd, hc⟩ := O.ex
  exact ⟨⟨a, o, _, O.glo, ho, hd, fn_def (r := 3) T ho hd hc rfl rfl rfl rfl fmAdd_ok (fun vs hv => by
    match vs, hv with
    | [u, v], _ => with_unfolding_all rfl) (addR.2 prog w G) rfl rfl⟩⟩
theorem c_count (T : GT G mg mb) (O : FnAt G mg mb "count_calls" 2 a c) : Callee prog w G mg mb "count_calls" 4 countφ := by
  obtain ⟨o, doc, pm, ct, ho, hd, hc⟩ := O.ex
  exact ⟨⟨a, o, _, O.glo, ho, hd, fn_def (r := 2) T ho hd hc rfl rfl rfl rfl fmCount_ok (fun vs hv => by
    match vs, hv with
    | [u], _ => with_unfolding_all rfl) (countR.2 prog w G) rfl rfl⟩⟩
theorem c_d2i (T : GT G mg mb) (B : Blts mg mb) (O : FnAt G mg mb "_digits2int" 5 a c) (N : NestAt G mg c 37) : Callee prog w G mg mb "_digits2int" 6 d2iV := by
  obtain ⟨o, doc, pm, ct, ho, hd, hc⟩ := O.ex
  exact ⟨⟨a, o, _, O.glo, ho, hd, fn_d2i T B ⟨ho, hd, hc, rfl, rfl, rfl, rfl, rfl, rfl⟩ rfl N (fun vs hv => by
    match vs, hv with
    | [u, v], _ => with_unfolding_all rfl)⟩⟩
theorem c_i2d (T : GT G mg mb) (B : Blts mg mb) (O : FnAt G mg mb "_int2digits" 4 a c) (N : NestAt G mg c 30) : Callee prog w G mg mb "_int2digits" 6 i2dV := by
  obtain ⟨o, doc, pm, ct, ho, hd, hc⟩ := O.ex
  exact ⟨⟨a, o, _, O.glo, ho, hd, fn_i2d T B ⟨ho, hd, hc, rfl, rfl, rfl, rfl, rfl, rfl⟩ rfl N (fun vs hv => by
    match vs, hv with
    | [u, v], _ => with_unfolding_all rfl)⟩⟩

theorem law_code {A : Around} {s : Shared} {la fa lc a1 c1 a2 c2 a4 c4 a5 c5 a7 c7 a8 c8 a9 c9 : Addr} {vs : List Value} {l : List Int} (T : GT G mg mb) (B : Blts mg mb) (O : FnAt G mg mb "law" 10 fa lc) (O1 : FnAt G mg mb "add_callers" 1 a1 c1) (O2 : FnAt G mg mb "count_calls" 2 a2 c2)
    (O4 : FnAt G mg mb "_int2digits" 4 a4 c4) (O5 : FnAt G mg mb "_digits2int" 5 a5 c5) (O7 : FnAt G mg mb "_law_figures" 7 a7 c7) (O8 : FnAt G mg mb "_law_third" 8 a8 c8) (O9 : FnAt G mg mb "_law_closed" 9 a9 c9) (N4 : NestAt G mg c4 30) (N5 : NestAt G mg c5 37)
    (R : Room 10 A) (I : Inv G s.heap) (hl : s.heap.IsList la vs.toArray) (hi : IntsAre vs l) (hn : ¬ isTab la) (hle : l.length ≤ 63) :
    codeAny (model prog w) A (.call (.ref fa) ⟨[.ref la], []⟩) (fun r s' => match r with | .ok (.ret v) => Post G s (fun v _ => v = .bool true) v s' | .ok _ => False | .error e => No e s') s := by
  have Ci : Callee prog w G mg mb "_int2digits" 6 i2dV := c_i2d T B O4 N4
  have Cd : Callee prog w G mg mb "_digits2int" 6 d2iV := c_d2i T B O5 N5
  have Cf := c_fig T B Ci O7
  have C3 := c_third T B Cf Cd O8
  have Cc := c_closed T B C3 O9
  have Ca : Callee prog w G mg mb "add_callers" 4 addφ := c_add T O1
  have Cn : Callee prog w G mg mb "count_calls" 4 countφ := c_count T O2
  obtain ⟨o, doc, pm, ct, ho, hd, hc⟩ := O.ex
  have hIs : IsAll prog w isTab s.heap [.ref la] [mInts l] := .cons (.lst hl hn (intsAre_all hi)) .nil
  refine enter_code (n := 9) (F := fmLaw) (r := 12) T ho hd hc rfl rfl rfl rfl fmLaw_ok (fun vs hv => by
    match vs, hv with
    | [u], _ => with_unfolding_all rfl) R I (xok_tab I) hIs rfl (fun env h₁ tk₁ X' W' K sub _ _ => ?_) rfl rfl
  refine wpAny_mono ((lawR T B C3 Ca Cn Ci Cc).2 env s.heap isTab X' W' _ _ _ (.ret (.bool true)) (R.deeper env) K sub (xok_tab I) (lawR_eq T B C3 Ca Cn Ci Cc l hle)) (fun fl s₂ hs₂ => ?_) fun _ _ e => e.elim
  obtain ⟨h₂, tk₂, rfl, k₂, ol₂, v, rfl, I₂, g₂, hI⟩ := hs₂
  cases hI
  exact ⟨h₂, tk₂, rfl, g₂, I₂, rfl⟩
end
end Mine

namespace Mine
open PySem PySem.Spec PySem.Calls PyProof.Rows PySem.W

theorem ghost_two {h : Heap} {b : Addr} (t : isTab b) : (ghostOf h [(41, 37), (34, 30)]).get? b = none := hideAll_none _ (by rcases t with q | q <;> simp [q])
theorem ghost_inv {h : Heap} (hT : TabsAt [(41, 37), (34, 30)] h) : Inv (ghostOf h [(41, 37), (34, 30)]) h where
  keep := fun b o e => of_hideAll _ e
  t1 := ⟨#[], (hT (34, 30) (by simp)).2, .inl rfl⟩
  t2 := ⟨#[], (hT (41, 37) (by simp)).2, .inl rfl⟩
  off := fun b t => ghost_two t

theorem bm_at {p : Program} {loose : List Str} {mean : ExcName → Option Value} {mg mb : Str → Option Value} {G : Heap} {P : Addr} (T : Top p loose mean mg mb G) (hP : G.get? P = none) : G.BuiltinsAt mg P := by
  obtain ⟨bm, ob, b1, b2, b3, b4, b5, b6⟩ := T.bmain
  refine ⟨bm, ob, b1, b2, fun q => ?_, fun q => ?_, b3, b4, b5, b6⟩
  · obtain ⟨o, es, ep, e, hd, _⟩ := T.g
    rw [q, e] at b3; cases b3; rw [hd] at b6; cases b6
  · rw [q, hP] at b3; cases b3

/-- a def that the written part of the top holds -/
noncomputable def FnK (K : Frag) (x : Str) (i : Nat) (a c : Addr) : Prop := nsIn K mainGlobals x = some (some (.ref a)) ∧ ∃ o doc pm ct oc vs t, K.lookup a = some o ∧ o.data = .func (fnX x x (paramsAt i) (theBody i) (scopeAt i) [] .none .none doc pm none (.ref c) ct) ∧ K.lookup c = some oc ∧ oc.data = .fields vs ∧ vs[1]? = some (.str x t)
theorem FnK.at' {K : Frag} {x : Str} {i : Nat} {a c : Addr} {G : Heap} {mg mb : Str → Option Value} (h : FnK K x i a c) (X : K.In G) (g : G.Ns mainGlobals mg) : FnAt G mg mb x i a c := by
  obtain ⟨h1, o, doc, pm, ct, oc, vs, t, h2, h3, h4, h5, h6⟩ := h
  exact ⟨.inl (mg_of X g h1), o, doc, pm, ct, X _ _ h2, h3, c, oc, vs, t, rfl, X _ _ h4, h5, h6⟩

theorem law_end {A : Around} {prog : Program} {w : World} {s₁ : Shared} {c : ClaimW} {cl : Str → Option Addr} {mean : ExcName → Option Value} {args : List WData} {cd : Code} (hT : TabsAt [(41, 37), (34, 30)] s₁.heap) (hg : s₁.gens = #[]) (hr : ∀ cls, c.raises args cls = false) (hp : c.post args (.bool true) args = true)
    (h : codeAny (model prog w) A cd (fun r s' => match r with | .ok (.ret v) => Post (ghostOf s₁.heap [(41, 37), (34, 30)]) s₁ (fun v _ => v = .bool true) v s' | .ok _ => False | .error e => No e s') s₁) :
    codeAny (model prog w) A cd (fun r s' => GoodW c cl mean args { s₁ with heap := ghostOf s₁.heap [(41, 37), (34, 30)] } r s' ∧ GrownAll [(41, 37), (34, 30)] s'.heap) s₁ := by
  refine codeAny_mono h fun r s' hq => ?_
  match r, hq with
  | .ok (.ret v), hq =>
    obtain ⟨h', tk', rfl, g, I, rfl⟩ := hq
    refine ⟨⟨.inl ⟨_, _, [], rfl, hr, ReadsW.bool true, hp, fun _ => ⟨List.nodup_nil, fun _ hm => nomatch hm⟩⟩, fun b o e => I.keep b o e, rfl, hg⟩, ?_, ?_, trivial⟩
    · exact I.tabAlive (.inr rfl)
    · exact I.tabAlive (.inl rfl)

theorem law_fin {K : Frag} {A : Around} {prog : Program} {w : World} {s₁ : Shared} {c : ClaimW} {cl : Str → Option Addr} {mean mean' : ExcName → Option Value} {args : List WData} {p : Program} {loose : List Str} {mg mb : Str → Option Value} {la fa lc a1 c1 a2 c2 a4 a5 a7 c7 a8 c8 a9 c9 fa' : Addr} {vs : List Value} {l : List Int}
    (hT : TabsAt [(41, 37), (34, 30)] s₁.heap) (hg : s₁.gens = #[]) (KX : K.In s₁.heap) (hK : noTabs K = true) (T : Top p loose mean' mg mb s₁.heap) (B : Blts mg mb) (hfa : mg "law" = some (.ref fa')) (hl : s₁.heap.IsList la vs.toArray) (hi : IntsAre vs l) (hle : ¬ ((63 : Nat) : Int) < (l.length : Int)) (R : Room 10 A)
    (O : FnK K "law" 10 fa lc) (O1 : FnK K "add_callers" 1 a1 c1) (O2 : FnK K "count_calls" 2 a2 c2) (O4 : FnK K "_int2digits" 4 a4 34) (O5 : FnK K "_digits2int" 5 a5 41) (O7 : FnK K "_law_figures" 7 a7 c7) (O8 : FnK K "_law_third" 8 a8 c8) (O9 : FnK K "_law_closed" 9 a9 c9)
    (hr : ∀ cls, c.raises args cls = false) (hp : c.post args (.bool true) args = true) :
    codeAny (model prog w) A (.call (.ref fa') ⟨[.ref la], []⟩) (fun r s' => GoodW c cl mean args { s₁ with heap := ghostOf s₁.heap [(41, 37), (34, 30)] } r s' ∧ GrownAll [(41, 37), (34, 30)] s'.heap) s₁ := by
  have X' := ghost_K hT KX hK
  have T' := ghost_top hT T
  have G' : GT (ghostOf s₁.heap [(41, 37), (34, 30)]) mg mb := ⟨T'.g, T'.b, T'.nolimit⟩
  have I := ghost_inv hT
  have Cd := ghost_code hT
  have O' := O.at' (mb := mb) X' T'.g
  have hff : fa' = fa := by
    have := mg_of X' T'.g O.1
    rw [hfa] at this; cases this; rfl
  subst hff
  have hn : ¬ isTab la := fun t => by
    obtain ⟨ps, e⟩ := I.tabAlive t
    obtain ⟨o, ho, hc, _⟩ := hl
    rw [e] at ho; cases ho; cases hc
  exact law_end hT hg hr hp (law_code G' B O' (O1.at' X' T'.g) (O2.at' X' T'.g) (O4.at' X' T'.g) (O5.at' X' T'.g) (O7.at' X' T'.g) (O8.at' X' T'.g) (O9.at' X' T'.g) ⟨Cd.2.1, bm_at T' (ghost_two (.inl rfl)), .inl rfl⟩ ⟨Cd.1, bm_at T' (ghost_two (.inr rfl)), .inr rfl⟩ R I hl hi hn (by omega))

theorem blts_of {p : Program} {loose : List Str} {mean : ExcName → Option Value} {mg mb : Str → Option Value} {h : Heap} (T : Top p loose mean mg mb h)
    (hf : ∀ x ∈ (["len", "abs", "list", "tuple", "range", "dict", "sorted"] : List Str), x ∉ startupNames ∧ x ∉ loose ∧ x ∉ (recsOf p).map (·.name) ∧ x ∉ (litsOf p).map (·.1) ∧ x ∉ (clssOf p loose).map (·.name)) : Blts mg mb := by
  have fr : ∀ x ∈ (["len", "abs", "list", "tuple", "range", "dict", "sorted"] : List Str), mg x = none := fun x hx => let ⟨a, b, c, d, e⟩ := hf x hx; T.free x a b c d e
  have bl : ∀ {x : Str} {v : Value}, x ≠ "__name__" → bootBuiltins x = some v → mb x = some v := fun hx e => (T.builtins _ hx).trans e
  exact ⟨.inr ⟨fr _ (by decide), bl (by decide) (by kernel_rfl)⟩, .inr ⟨fr _ (by decide), bl (by decide) (by kernel_rfl)⟩, .inr ⟨fr _ (by decide), bl (by decide) (by kernel_rfl)⟩, .inr ⟨fr _ (by decide), bl (by decide) (by kernel_rfl)⟩, .inr ⟨fr _ (by decide), bl (by decide) (by kernel_rfl)⟩, .inr ⟨fr _ (by decide), bl (by decide) (by kernel_rfl)⟩, .inr ⟨fr _ (by decide), bl (by decide) (by kernel_rfl)⟩⟩
end Mine

open PySem PySem.W PyProof.Rows
set_option maxRecDepth 100000 in
set_option maxHeartbeats 8000000 in
theorem PySem.Challenge.cw_gb0001_01_holds : PySem.Challenge.rw_gb0001_01.Holds := by
  w_on; o_law; k_head; (case hw => w_witness2); w_strict (
    k_fill
    intro w s₀ s₁ mg mb G Y fa o pm cd doc dV kV ho hd hcd hD hmg hg args vals as hpre hlay hrd hwl hlo
    have KX := km_in_of Y
    km_tabs Y
    have X := (Ground.X G).1
    have V := (Ground.X G).2
    refine Ground.open G ?_
    intro T B D TE TW
    try (refine guard_noD D (by decide +kernel) ?_; clear D)
    km_lay T hmg ho hd cd
    wrow_args hpre hlay hrd hwl hlo
    all_goals (
      first | refine callC_kw (enter_call ?_) | refine enter_call ?_
      w_top on
      kn_posts
      have B' : Mine.Blts mg mb := Mine.blts_of T (by decide +kernel)
      have O10 : Mine.FnK (PySem.Challenge.cw_gb0001_01_holds.heap_39 w.params) "law" 10 _ _ := ⟨by rfl, _, _, _, _, _, _, _, by rfl, by rfl, by rfl, by rfl, by rfl⟩
      have O1 : Mine.FnK (PySem.Challenge.cw_gb0001_01_holds.heap_39 w.params) "add_callers" 1 _ _ := ⟨by rfl, _, _, _, _, _, _, _, by rfl, by rfl, by rfl, by rfl, by rfl⟩
      have O2 : Mine.FnK (PySem.Challenge.cw_gb0001_01_holds.heap_39 w.params) "count_calls" 2 _ _ := ⟨by rfl, _, _, _, _, _, _, _, by rfl, by rfl, by rfl, by rfl, by rfl⟩
      have O4 : Mine.FnK (PySem.Challenge.cw_gb0001_01_holds.heap_39 w.params) "_int2digits" 4 _ 34 := ⟨by rfl, _, _, _, _, _, _, _, by rfl, by rfl, by rfl, by rfl, by rfl⟩
      have O5 : Mine.FnK (PySem.Challenge.cw_gb0001_01_holds.heap_39 w.params) "_digits2int" 5 _ 41 := ⟨by rfl, _, _, _, _, _, _, _, by rfl, by rfl, by rfl, by rfl, by rfl⟩
      have O7 : Mine.FnK (PySem.Challenge.cw_gb0001_01_holds.heap_39 w.params) "_law_figures" 7 _ _ := ⟨by rfl, _, _, _, _, _, _, _, by rfl, by rfl, by rfl, by rfl, by rfl⟩
      have O8 : Mine.FnK (PySem.Challenge.cw_gb0001_01_holds.heap_39 w.params) "_law_third" 8 _ _ := ⟨by rfl, _, _, _, _, _, _, _, by rfl, by rfl, by rfl, by rfl, by rfl⟩
      have O9 : Mine.FnK (PySem.Challenge.cw_gb0001_01_holds.heap_39 w.params) "_law_closed" 9 _ _ := ⟨by rfl, _, _, _, _, _, _, _, by rfl, by rfl, by rfl, by rfl, by rfl⟩
      refine Mine.law_fin hT9 hg KX (by kernel_rfl) T B' hmg (by assumption) (by assumption) (by assumption) ⟨rfl, by decide, by decide⟩ O10 O1 O2 O4 O5 O7 O8 O9 (fun _ => rfl) ?hp
      kernel_rfl))
