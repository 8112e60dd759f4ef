import PyProof.Rows.All
import Wide.All
import OpenK.AllK
import Wide.FinOn
import PySem.Challenge.RW_hz0001_01
set_option maxHeartbeats 1000000
set_option maxRecDepth 100000
set_option Elab.async false
namespace Mine
open PySem PySem.Spec PySem.Calls PyProof.Rows

/-! keys of dicts: tuples of ints and strs -/
noncomputable abbrev Atom := Sum Int Str
noncomputable def atomIs : Atom → Value → Bool
  | .inl i, v => Value.isInt i v
  | .inr x, v => Value.isStrOf x v
theorem atomIs_shape {k : Atom} {v : Value} (h : atomIs k v = true) : (∃ i t, k = .inl i ∧ v = .int i t) ∨ (∃ x t, k = .inr x ∧ v = .str x t) := by
  cases k with
  | inl i => obtain ⟨t, rfl⟩ := Value.isInt_shape h; exact .inl ⟨i, t, rfl, rfl⟩
  | inr x => obtain ⟨t, rfl⟩ := Value.isStrOf_shape h; exact .inr ⟨x, t, rfl, rfl⟩

section
variable {prog : Program} {w : World} {A : Around} {E : Value → Shared → Prop} {s : Shared}
theorem eqBool_is {a b : Int} {x y : Str} {t u : Tok} {Q : Bool → Shared → Prop} (h : Q false s) :
    wpAny (model prog w) A (eqBool (.int a t) (.str y u)) Q E s := by
  unfold eqBool
  try with_reducible refine wpAny_holding ?_
  show wpAny _ _ (if (Value.int a t == Value.str y u) = true then _ else _) Q E s
  rw [if_neg (by simp)]
  exact wpAny_bind (EqMixed.eq_int_str (Q := fun v s' => wpAny (model prog w) A (truthOfDropped v) Q E s') (wpAny_truthy_bool h))
theorem eqBool_si {a b : Int} {x y : Str} {t u : Tok} {Q : Bool → Shared → Prop} (h : Q false s) :
    wpAny (model prog w) A (eqBool (.str x t) (.int b u)) Q E s := by
  unfold eqBool
  try with_reducible refine wpAny_holding ?_
  show wpAny _ _ (if (Value.str x t == Value.int b u) = true then _ else _) Q E s
  rw [if_neg (by simp)]
  exact wpAny_bind (EqMixed.eq_str_int (Q := fun v s' => wpAny (model prog w) A (truthOfDropped v) Q E s') (wpAny_truthy_bool h))
end

noncomputable def atomHash (w : World) : Atom → Int
  | .inl i => hashInt i
  | .inr x => hashStr w x

noncomputable def mixKind (prog : Program) (w : World) : KeyKind prog w Atom where
  is := atomIs
  hash := atomHash w
  inj := fun v a b ha hb => by
    rcases atomIs_shape ha with ⟨i, t, rfl, rfl⟩ | ⟨x, t, rfl, rfl⟩ <;> rcases atomIs_shape hb with ⟨j, u, rfl, h⟩ | ⟨y, u, rfl, h⟩ <;> cases h <;> rfl
  byValue := fun k v h => by rcases atomIs_shape h with ⟨i, t, rfl, rfl⟩ | ⟨x, t, rfl, rfl⟩ <;> rfl
  pyHash := fun hv h => by
    rcases atomIs_shape hv with ⟨i, t, rfl, rfl⟩ | ⟨x, t, rfl, rfl⟩
    · exact wpAny_pyHash_int h
    · exact wpAny_pyHash_str h
  eqBool := fun hu hv h => by
    rcases atomIs_shape hu with ⟨i, t, rfl, rfl⟩ | ⟨x, t, rfl, rfl⟩ <;> rcases atomIs_shape hv with ⟨j, u, rfl, rfl⟩ | ⟨y, u, rfl, rfl⟩
    · refine wpAny_eqBool_int ?_
      by_cases e : i = j
      · subst e; simpa using h
      · rw [beq_eq_false_iff_ne.mpr e]; simpa [e] using h
    · exact eqBool_is (b := 0) (x := y) (by simpa using h)
    · exact eqBool_si (a := 0) (y := x) (by simpa using h)
    · refine wpAny_eqBool_str ?_
      by_cases e : x = y
      · subst e; simpa using h
      · simpa [e] using h
  «strs» := fun k x t v h => by
    rcases atomIs_shape h with ⟨i, u, rfl, hu⟩ | ⟨y, u, rfl, hu⟩
    · cases hu
    · injection hu with hx _
      subst hx
      cases v <;> rfl

end Mine
set_option maxHeartbeats 1000000
set_option maxRecDepth 100000
set_option Elab.async false
set_option linter.unusedVariables false
namespace Mine
open PySem PySem.Spec PySem.Calls PyProof.Rows

structure Cst where
  prog : Program
  w : World
  base : Heap
  mg : Str → Option Value
  mb : Str → Option Value
  hg : base.Ns mainGlobals mg
  hb : base.Ns builtinsNs mb
  lim : base.NoLimit

/-- a value: data that never turns, a reference to a list or a dict of the call's own, or a value of which nothing is known -/
inductive RV where
  | d (x : PyData)
  | r (i : Nat)
  | o (u : Value)
inductive AO where
  | lst (xs : List RV)
  | dct (kvs : List (List Atom × RV))
noncomputable abbrev Mem := List AO
noncomputable abbrev Rho := List (Option RV)

noncomputable def look : Rho → Nat → Option RV
  | [], _ => none
  | x :: _, 0 => x
  | _ :: r, n + 1 => look r n
noncomputable def upd : Rho → Nat → RV → Rho
  | [], 0, v => [some v]
  | [], n + 1, v => none :: upd [] n v
  | _ :: r, 0, v => some v :: r
  | x :: r, n + 1, v => x :: upd r n v
theorem look_upd : ∀ (ρ : Rho) (i j : Nat) (v : RV), look (upd ρ i v) j = if j = i then some v else look ρ j
  | [], 0, 0, v => rfl
  | [], 0, j + 1, v => by simp [upd, look]
  | [], i + 1, 0, v => by simp [upd, look]
  | [], i + 1, j + 1, v => by
    have h := look_upd [] i j v
    simp only [upd, look, h]
    by_cases e : j = i
    · simp [e]
    · simp [e, look]
  | x :: r, 0, 0, v => rfl
  | x :: r, 0, j + 1, v => by simp [upd, look]
  | x :: r, i + 1, 0, v => by simp [upd, look]
  | x :: r, i + 1, j + 1, v => by
    have h := look_upd r i j v
    simp only [upd, look, h]
    by_cases e : j = i <;> simp [e]

noncomputable def VR (h : Heap) (α : List Addr) (v : Value) : RV → Prop
  | .d x => Reads h v x []
  | .r i => ∃ a, α[i]? = some a ∧ v = .ref a
  | .o u => v = u
inductive VRs (h : Heap) (α : List Addr) : List Value → List RV → Prop where
  | nil : VRs h α [] []
  | cons {v : Value} {x : RV} {vs : List Value} {xs : List RV} : VR h α v x → VRs h α vs xs → VRs h α (v :: vs) (x :: xs)
noncomputable def OR (h : Heap) (α : List Addr) : Option Value → Option RV → Prop
  | none, none => True
  | some v, some x => VR h α v x
  | _, _ => False
inductive KVs (h : Heap) (α : List Addr) : List (List Atom × Addr × Value) → List (List Atom × RV) → Prop where
  | nil : KVs h α [] []
  | cons {k : List Atom} {a : Addr} {v : Value} {x : RV} {vs : List (List Atom × Addr × Value)} {xs : List (List Atom × RV)} : VR h α v x → KVs h α vs xs → KVs h α ((k, a, v) :: vs) ((k, x) :: xs)

/-- a dict by heap keys, of which no key was ever struck: its epoch counts its keys -/
noncomputable def DictE {prog : Program} {w : World} {K : Type} [DecidableEq K] (knd : HeapKind prog w K) (h : Heap) (d : Addr) (xs : List (K × Addr × Value)) : Prop :=
  ∃ o es, h.get? d = some o ∧ o.ExactDict ∧ o.data = .dict es xs.length ∧ es.toList = xs.map (entryOfKey knd) ∧ (∀ x ∈ xs, knd.is h x.1 x.2.1) ∧ (xs.map (·.1)).Nodup
theorem DictE.of {prog : Program} {w : World} {K : Type} [DecidableEq K] {knd : HeapKind prog w K} {h : Heap} {d : Addr} {xs : List (K × Addr × Value)} (x : DictE knd h d xs) : h.DictOfH knd d xs :=
  let ⟨o, es, ho, r⟩ := x; ⟨o, es, xs.length, ho, r⟩
noncomputable abbrev lob (vs : Array Value) (n : Nat) : Obj := { cls := .type "list", data := .seq vs n }
noncomputable def AR (C : Cst) (h : Heap) (α : List Addr) (a : Addr) : AO → Prop
  | .lst xs => ∃ vs n, h.get? a = some (lob vs n) ∧ VRs h α vs.toList xs
  | .dct kvs => ∃ xs, DictE (tupleKind (mixKind C.prog C.w)) h a xs ∧ KVs h α xs kvs

structure MR (C : Cst) (h : Heap) (α : List Addr) (μ : Mem) : Prop where
  ext : ∀ b o, C.base.get? b = some o → h.get? b = some o
  len : α.length = μ.length
  obj : ∀ (i : Nat) (a : Addr) (o : AO), α[i]? = some a → μ[i]? = some o → AR C h α a o
  nd : α.Nodup
  new : ∀ a ∈ α, C.base.get? a = none
  nm : ∀ a ∈ α, (a == sysModules) = false

structure Stp (S : List Addr) (α : List Addr) (h : Heap) (α' : List Addr) (h' : Heap) : Prop where
  pre : ∃ β, α' = α ++ β
  new : ∀ a ∈ α', a ∈ α ∨ (h.get? a = none ∧ a ∉ S)
  kp : ∀ b o, h.get? b = some o → b ∉ α → b ∉ S → h'.get? b = some o

theorem Stp.refl (S α : List Addr) (h : Heap) : Stp S α h α h := ⟨⟨[], by simp⟩, fun _ m => .inl m, fun _ _ e _ _ => e⟩
theorem Stp.mem {S α h α' h'} (t : Stp S α h α' h') {a : Addr} (m : a ∈ α) : a ∈ α' := by
  obtain ⟨β, rfl⟩ := t.pre
  exact List.mem_append.mpr (.inl m)
theorem Stp.get {S α h α' h'} (t : Stp S α h α' h') {a : Addr} {i : Nat} (m : α[i]? = some a) : α'[i]? = some a := by
  obtain ⟨β, rfl⟩ := t.pre
  rw [List.getElem?_append_left (List.getElem?_eq_some_iff.mp m).1]; exact m
theorem Stp.off {S α h α' h'} (t : Stp S α h α' h') {b : Addr} {o : Obj} (e : h.get? b = some o) (n : b ∉ α) : b ∉ α' := fun m => by
  rcases t.new b m with q | q
  · exact n q
  · rw [e] at q; exact nomatch q.1
theorem Stp.trans {S α h α' h' α'' h''} (t : Stp S α h α' h') (u : Stp S α' h' α'' h'') : Stp S α h α'' h'' := by
  refine ⟨?_, fun a m => ?_, fun b o e n ns => u.kp b o (t.kp b o e n ns) (t.off e n) ns⟩
  · obtain ⟨β, rfl⟩ := t.pre
    obtain ⟨γ, rfl⟩ := u.pre
    exact ⟨β ++ γ, by simp⟩
  · rcases u.new a m with q | ⟨q, qs⟩
    · exact t.new a q
    · by_cases ha : a ∈ α
      · exact .inl ha
      · refine .inr ⟨?_, qs⟩
        cases e : h.get? a with
        | none => rfl
        | some o => rw [t.kp a o e ha qs] at q; exact nomatch q
/-- what may turn besides: fewer names, where the dropped ones stand nowhere at the start -/
theorem Stp.drop {S S' α h α' h'} (t : Stp S' α h α' h') (hs : ∀ a ∈ S, a ∈ S') (hd : ∀ a ∈ S', a ∈ S ∨ h.get? a = none) : Stp S α h α' h' :=
  ⟨t.pre, fun a m => (t.new a m).imp id fun q => ⟨q.1, fun z => q.2 (hs a z)⟩, fun b o e n ns => t.kp b o e n fun z => (hd b z).elim ns fun q => by rw [e] at q; exact nomatch q⟩
/-- more names, all alive at the start -/
theorem Stp.more {S S' α h α' h'} (t : Stp S α h α' h') (hs : ∀ a ∈ S, a ∈ S') (hl : ∀ a ∈ S', a ∈ S ∨ ∃ o, h.get? a = some o) : Stp S' α h α' h' :=
  ⟨t.pre, fun a m => (t.new a m).imp id fun q => ⟨q.1, fun z => (hl a z).elim q.2 fun ⟨o, e⟩ => by rw [e] at q; exact nomatch q.1⟩, fun b o e n ns => t.kp b o e n fun z => ns (hs b z)⟩

/-- none of these is a tuple or a list -/
noncomputable def NoSeq (h : Heap) (S : List Addr) : Prop := ∀ a ∈ S, ∀ o, h.get? a = some o → ∀ vs n, o.data ≠ .seq vs n
theorem NoSeq.nil {h : Heap} : NoSeq h [] := fun _ m => nomatch m

theorem AR.notTuple {C : Cst} {h : Heap} {α : List Addr} {a : Addr} {o : AO} {b : Obj} (x : AR C h α a o) (e : h.get? a = some b) : b.cls ≠ .type "tuple" := by
  cases o with
  | lst xs =>
    obtain ⟨vs, n, g, _⟩ := x
    rw [e] at g
    cases g
    show Value.type "list" ≠ Value.type "tuple"
    decide
  | dct kvs =>
    obtain ⟨xs, ⟨o, es, ho, hc, _⟩, _⟩ := x
    rw [e] at ho
    cases ho
    rw [hc.1]; decide
theorem MR.notTuple {C : Cst} {h : Heap} {α : List Addr} {μ : Mem} (M : MR C h α μ) {a : Addr} (m : a ∈ α) {o : Obj} (e : h.get? a = some o) : o.cls ≠ .type "tuple" := by
  obtain ⟨i, hi⟩ := List.mem_iff_getElem?.mp m
  obtain ⟨hl, _⟩ := List.getElem?_eq_some_iff.mp hi
  have hj : μ[i]? = some (μ[i]'(M.len ▸ hl)) := List.getElem?_eq_getElem _
  exact (M.obj i a _ hi hj).notTuple e

noncomputable def TupKeep (h h' : Heap) : Prop := ∀ b o vs n, h.get? b = some o → o.cls = .type "tuple" → o.data = .seq vs n → h'.get? b = some o
mutual
theorem reads_tk {h h' : Heap} (k : TupKeep h h') : ∀ {v : Value} {d : PyData} {as : List Addr}, as = [] → Reads h v d as → Reads h' v d as
  | _, _, _, _, .none => .none
  | _, _, _, _, .bool b => .bool b
  | _, _, _, _, .int i t => .int i t
  | _, _, _, _, .str x t => .str x t
  | _, _, _, e, .list _ _ _ _ => nomatch e
  | _, _, _, e, .tuple h1 h2 h3 h4 => .tuple (k _ _ _ _ h1 h2 h3) h2 h3 (readsAll_tk k e h4)
  | _, _, _, e, .dict _ _ _ _ _ => nomatch e
theorem readsAll_tk {h h' : Heap} (k : TupKeep h h') : ∀ {vs : List Value} {ds : List PyData} {as : List Addr}, as = [] → ReadsAll h vs ds as → ReadsAll h' vs ds as
  | _, _, _, _, .nil => .nil
  | _, _, _, e, .cons h1 h2 => .cons (reads_tk k (List.append_eq_nil_iff.mp e).1 h1) (readsAll_tk k (List.append_eq_nil_iff.mp e).2 h2)
end

theorem Stp.tk {C : Cst} {S α h α' h' μ} (M : MR C h α μ) (t : Stp S α h α' h') (z : NoSeq h S) : TupKeep h h' := fun b o vs n e c d =>
  t.kp b o e (fun m => M.notTuple m e c) fun m => z b m o e vs n d

theorem VR.up {h h' : Heap} {α α' : List Addr} (k : TupKeep h h') (p : ∀ (i : Nat) a, α[i]? = some a → α'[i]? = some a) {v : Value} {x : RV} (r : VR h α v x) : VR h' α' v x := by
  cases x with
  | d x => exact reads_tk k rfl r
  | r i => obtain ⟨a, e, q⟩ := r; exact ⟨a, p i a e, q⟩
  | o u => exact r
theorem VRs.up {h h' : Heap} {α α' : List Addr} (k : TupKeep h h') (p : ∀ (i : Nat) a, α[i]? = some a → α'[i]? = some a) {vs : List Value} {xs : List RV} (r : VRs h α vs xs) : VRs h' α' vs xs := by
  induction r with
  | nil => exact .nil
  | cons a _ ih => exact .cons (a.up k p) ih
theorem OR.up {h h' : Heap} {α α' : List Addr} (k : TupKeep h h') (p : ∀ (i : Nat) a, α[i]? = some a → α'[i]? = some a) {v : Option Value} {x : Option RV} (r : OR h α v x) : OR h' α' v x := by
  cases v <;> cases x <;> first | exact r | exact VR.up k p r
theorem KVs.up {h h' : Heap} {α α' : List Addr} (k : TupKeep h h') (p : ∀ (i : Nat) a, α[i]? = some a → α'[i]? = some a) {vs : List (List Atom × Addr × Value)} {xs : List (List Atom × RV)} (r : KVs h α vs xs) : KVs h' α' vs xs := by
  induction r with
  | nil => exact .nil
  | cons a _ ih => exact .cons (a.up k p) ih
theorem itk_up {C : Cst} {h h' : Heap} (k : TupKeep h h') {ks : List Atom} {a : Addr} (x : IsTupleKey (mixKind C.prog C.w) h ks a) : IsTupleKey (mixKind C.prog C.w) h' ks a := by
  obtain ⟨o, items, n, ho, hc, hd, hi⟩ := x
  exact ⟨o, items, n, k a o _ _ ho hc hd, hc, hd, hi⟩
theorem AR.up {C : Cst} {h h' : Heap} {α α' : List Addr} (k : TupKeep h h') (p : ∀ (i : Nat) a, α[i]? = some a → α'[i]? = some a) {a : Addr} {o : AO} (s : ∀ b, h.get? a = some b → h'.get? a = some b) (r : AR C h α a o) : AR C h' α' a o := by
  cases o with
  | lst xs =>
    obtain ⟨vs, n, g, r⟩ := r
    exact ⟨vs, n, s _ g, r.up k p⟩
  | dct kvs =>
    obtain ⟨xs, ⟨o, es, ho, hc, hd, he, hi, hn⟩, r⟩ := r
    exact ⟨xs, ⟨o, es, s _ ho, hc, hd, he, fun x hx => itk_up k (hi x hx), hn⟩, r.up k p⟩

/-- a heap that keeps all but S (no sequence among S, no object of ours, nothing of the base) keeps the memory -/
theorem MR.keep {C : Cst} {h h' : Heap} {α : List Addr} {μ : Mem} {S : List Addr} (M : MR C h α μ) (z : NoSeq h S) (hα : ∀ a ∈ S, a ∉ α) (hb : ∀ a ∈ S, C.base.get? a = none)
    (kp : ∀ b o, h.get? b = some o → b ∉ S → h'.get? b = some o) : MR C h' α μ := by
  have k : TupKeep h h' := fun b o vs n e c d => kp b o e fun m => z b m o e vs n d
  refine ⟨fun b o e => kp b o (M.ext b o e) fun m => ?_, M.len, fun i a o e q => (M.obj i a o e q).up k (fun _ _ e => e) fun b g => kp a b g fun m => ?_, M.nd, M.new, M.nm⟩
  · have := hb b m; rw [e] at this; exact nomatch this
  · exact hα a m (List.mem_of_getElem? e)
theorem Stp.of_keep {h h' : Heap} {α : List Addr} {S : List Addr} (kp : ∀ b o, h.get? b = some o → b ∉ S → h'.get? b = some o) : Stp S α h α h' :=
  ⟨⟨[], by simp⟩, fun _ m => .inl m, fun b o e _ ns => kp b o e ns⟩
theorem MR.push {C : Cst} {h : Heap} {α : List Addr} {μ : Mem} (M : MR C h α μ) (o : Obj) : MR C (h.push o) α μ :=
  M.keep (S := []) NoSeq.nil (fun _ m => nomatch m) (fun _ m => nomatch m) fun _ _ e _ => Heap.get?_push_of_some _ e
theorem Stp.push {S : List Addr} {h : Heap} {α : List Addr} (o : Obj) : Stp S α h α (h.push o) := ⟨⟨[], by simp⟩, fun _ m => .inl m, fun _ _ e _ _ => Heap.get?_push_of_some _ e⟩

/-- a new object joins the memory -/
theorem MR.alloc {C : Cst} {h : Heap} {α : List Addr} {μ : Mem} (M : MR C h α μ) {o : Obj} {x : AO} (hx : AR C (h.push o) (α ++ [h.objs.size]) h.objs.size x) : MR C (h.push o) (α ++ [h.objs.size]) (μ ++ [x]) := by
  have P := M.push o
  have fresh : ∀ b o', h.get? b = some o' → b ≠ h.objs.size := fun b o' e => Nat.ne_of_lt (Heap.lt_size e)
  have inα : ∀ a ∈ α, ∃ o', h.get? a = some o' := fun a m => by
    obtain ⟨i, hi⟩ := List.mem_iff_getElem?.mp m
    obtain ⟨hl, _⟩ := List.getElem?_eq_some_iff.mp hi
    have hj : μ[i]? = some (μ[i]'(M.len ▸ hl)) := List.getElem?_eq_getElem _
    have q := M.obj i a _ hi hj
    cases hq : μ[i]'(M.len ▸ hl) with
    | lst xs => rw [hq] at q; obtain ⟨vs, n, g, _⟩ := q; exact ⟨_, g⟩
    | dct kvs => rw [hq] at q; obtain ⟨xs, ⟨o, es, ho, _⟩, _⟩ := q; exact ⟨_, ho⟩
  refine ⟨P.ext, by simp [M.len], fun i a y e q => ?_, ?_, fun a m => ?_, fun a m => ?_⟩
  · by_cases hi : i < α.length
    · rw [List.getElem?_append_left hi] at e
      rw [List.getElem?_append_left (M.len ▸ hi)] at q
      refine (P.obj i a y e q).up (fun _ _ _ _ e _ _ => e) (fun j b g => ?_) fun _ g => g
      rw [List.getElem?_append_left (List.getElem?_eq_some_iff.mp g).1]; exact g
    · rw [List.getElem?_append_right (Nat.le_of_not_lt hi)] at e
      rw [List.getElem?_append_right (M.len ▸ Nat.le_of_not_lt hi)] at q
      have h1 : i - α.length = 0 := by
        have := (List.getElem?_eq_some_iff.mp e).1
        simpa using this
      rw [h1] at e
      rw [← M.len, h1] at q
      cases e
      cases q
      exact hx
  · refine List.nodup_append.mpr ⟨M.nd, by simp, fun a m b mb => ?_⟩
    rw [List.mem_singleton.mp mb]
    obtain ⟨o', e⟩ := inα a m
    exact fresh a o' e
  · rcases List.mem_append.mp m with m | m
    · exact M.new a m
    · rw [List.mem_singleton.mp m]
      cases e : C.base.get? h.objs.size with
      | none => rfl
      | some o' => exact absurd rfl (fresh _ o' (M.ext _ _ e))
  · rcases List.mem_append.mp m with m | m
    · exact M.nm a m
    · rw [List.mem_singleton.mp m]
      obtain ⟨o', _, _, e, _⟩ := C.hg
      have lt : mainGlobals < h.objs.size := Heap.lt_size (M.ext _ _ e)
      rw [beq_eq_false_iff_ne]
      exact Nat.ne_of_gt (Nat.lt_trans (show sysModules < mainGlobals by decide) lt)
theorem Stp.alloc {h : Heap} {α : List Addr} (o : Obj) : Stp [] α h (α ++ [h.objs.size]) (h.push o) := by
  refine ⟨⟨_, rfl⟩, fun a m => ?_, fun _ _ e _ _ => Heap.get?_push_of_some _ e⟩
  rcases List.mem_append.mp m with m | m
  · exact .inl m
  · rw [List.mem_singleton.mp m]
    refine .inr ⟨?_, fun z => nomatch z⟩
    cases e : h.get? h.objs.size with
    | none => rfl
    | some o' => exact absurd (Heap.lt_size e) (Nat.lt_irrefl _)

theorem MR.alive {C : Cst} {h : Heap} {α : List Addr} {μ : Mem} (M : MR C h α μ) {a : Addr} (m : a ∈ α) : ∃ o, h.get? a = some o := by
  obtain ⟨i, hi⟩ := List.mem_iff_getElem?.mp m
  obtain ⟨hl, _⟩ := List.getElem?_eq_some_iff.mp hi
  have hj : μ[i]? = some (μ[i]'(M.len ▸ hl)) := List.getElem?_eq_getElem _
  have q := M.obj i a _ hi hj
  cases hq : μ[i]'(M.len ▸ hl) with
  | lst xs => rw [hq] at q; obtain ⟨vs, n, g, _⟩ := q; exact ⟨_, g⟩
  | dct kvs => rw [hq] at q; obtain ⟨xs, ⟨o, es, ho, _⟩, _⟩ := q; exact ⟨_, ho⟩

/-- one object of the memory is changed in place -/
theorem MR.put {C : Cst} {h h' : Heap} {α : List Addr} {μ : Mem} (M : MR C h α μ) {i : Nat} {a : Addr} {x : AO} (hi : α[i]? = some a) (hs : Heap.SameBut a h h') (hx : AR C h' α a x) : MR C h' α (μ.set i x) := by
  have k : TupKeep h h' := fun b o vs n e c d => (hs.2 b fun q => by subst q; exact M.notTuple (List.mem_of_getElem? hi) e c).trans e
  refine ⟨fun b o e => (hs.2 b fun q => ?_).trans (M.ext b o e), by simp [M.len], fun j b o e q => ?_, M.nd, M.new, M.nm⟩
  · subst q
    have := M.new b (List.mem_of_getElem? hi)
    rw [e] at this; exact nomatch this
  · by_cases hj : i = j
    · subst hj
      rw [hi] at e
      cases e
      have hl : i < μ.length := M.len ▸ (List.getElem?_eq_some_iff.mp hi).1
      rw [List.getElem?_set_self hl] at q
      cases q
      exact hx
    · rw [List.getElem?_set_ne hj] at q
      refine (M.obj j b o e q).up k (fun _ _ e => e) fun c g => (hs.2 b fun z => ?_).trans g
      subst z
      obtain ⟨l1, e1⟩ := List.getElem?_eq_some_iff.mp hi
      obtain ⟨l2, e2⟩ := List.getElem?_eq_some_iff.mp e
      exact hj ((List.getElem?_inj l1 M.nd).mp (hi.trans e.symm))
theorem Stp.put {h h' : Heap} {α : List Addr} {a : Addr} {S : List Addr} (m : a ∈ α) (hs : Heap.SameBut a h h') : Stp S α h α h' :=
  ⟨⟨[], by simp⟩, fun _ m => .inl m, fun b o e n _ => (hs.2 b fun q => n (q ▸ m)).trans e⟩
end Mine
set_option maxHeartbeats 1000000
set_option maxRecDepth 100000
set_option Elab.async false
set_option linter.unusedVariables false
namespace Mine
open PySem PySem.Spec PySem.Calls PyProof.Rows

noncomputable def own (env : Env) : List Addr := env.locals :: env.cells.map (·.2)

/-- what a slot knows of a name: nothing, or its value -/
noncomputable def OS (h : Heap) (α : List Addr) (o : Option Value) (x : Option RV) : Prop := ∀ y, x = some y → ∃ v, o = some v ∧ VR h α v y
theorem OS.up {h h' : Heap} {α α' : List Addr} (k : TupKeep h h') (p : ∀ (i : Nat) a, α[i]? = some a → α'[i]? = some a) {v : Option Value} {x : Option RV} (r : OS h α v x) : OS h' α' v x := fun y e =>
  let ⟨v, ev, q⟩ := r y e; ⟨v, ev, q.up k p⟩
theorem OS.mk {h : Heap} {α : List Addr} {v : Value} {x : RV} (r : VR h α v x) : OS h α (some v) (some x) := fun y e => by cases e; exact ⟨v, rfl, r⟩
theorem OS.none {h : Heap} {α : List Addr} {v : Option Value} : OS h α v .none := fun y e => nomatch e
structure ER (C : Cst) (T : List (Str × Nat)) (env : Env) (h : Heap) (α : List Addr) (ρ : Rho) : Prop where
  fn : env.scope.kind = .function
  gl : env.globals = mainGlobals
  bi : env.builtins = builtinsNs
  slots : ∃ m, h.Ns env.locals m ∧ ∀ x i, (x, i) ∈ T →
    (env.kindOf x = some .local ∧ OS h α (m x) (look ρ i)) ∨
    ((env.kindOf x = some .cell ∨ (env.kindOf x = some .free ∧ (x == ("__classdict__" : Str)) = false)) ∧ ∃ c v, env.cells.lookup x = some c ∧ h.IsCell c v ∧ OS h α v (look ρ i))
  lnew : C.base.get? env.locals = none
  lal : env.locals ∉ α
  cells : ∀ x c, (x, c) ∈ env.cells → C.base.get? c = none ∧ c ∉ α ∧ c ≠ env.locals ∧ ∃ v, h.IsCell c v
  apart : ∀ x c y, (x, c) ∈ env.cells → (y, c) ∈ env.cells → x = y

theorem ns_data {h : Heap} {a : Addr} {m} (n : h.Ns a m) {o : Obj} (e : h.get? a = some o) : ∃ es ep, o.data = .dict es ep := by
  obtain ⟨o', es, ep, ho, hd, _⟩ := n
  rw [e] at ho
  cases ho
  exact ⟨es, ep, hd⟩
theorem ER.noSeq {C T env h α ρ} (R : ER C T env h α ρ) : NoSeq h (own env) := by
  intro a m o e vs n q
  rcases List.mem_cons.mp m with rfl | m
  · obtain ⟨mm, hn, _⟩ := R.slots
    obtain ⟨es, ep, hd⟩ := ns_data hn e
    rw [hd] at q; cases q
  · obtain ⟨⟨x, c⟩, hx, rfl⟩ := List.mem_map.mp m
    obtain ⟨_, _, _, v, o', ho, hd⟩ := R.cells x c hx
    rw [e] at ho
    cases ho
    rw [hd] at q; cases q
theorem ER.offα {C T env h α ρ} (R : ER C T env h α ρ) : ∀ a ∈ own env, a ∉ α := by
  intro a m
  rcases List.mem_cons.mp m with rfl | m
  · exact R.lal
  · obtain ⟨⟨x, c⟩, hx, rfl⟩ := List.mem_map.mp m
    exact (R.cells x c hx).2.1
theorem ER.offB {C T env h α ρ} (R : ER C T env h α ρ) : ∀ a ∈ own env, C.base.get? a = none := by
  intro a m
  rcases List.mem_cons.mp m with rfl | m
  · exact R.lnew
  · obtain ⟨⟨x, c⟩, hx, rfl⟩ := List.mem_map.mp m
    exact (R.cells x c hx).1
theorem ER.alive {C T env h α ρ} (R : ER C T env h α ρ) : ∀ a ∈ own env, ∃ o, h.get? a = some o := by
  intro a m
  rcases List.mem_cons.mp m with rfl | m
  · obtain ⟨mm, ⟨o, _, _, ho, _⟩, _⟩ := R.slots
    exact ⟨o, ho⟩
  · obtain ⟨⟨x, c⟩, hx, rfl⟩ := List.mem_map.mp m
    obtain ⟨_, _, _, v, o, ho, _⟩ := R.cells x c hx
    exact ⟨o, ho⟩

/-- the frame stands where nothing of its own has turned -/
theorem ER.stp {C T env h α ρ α' h' μ S} (R : ER C T env h α ρ) (M : MR C h α μ) (t : Stp S α h α' h') (z : NoSeq h S) (hS : ∀ a ∈ own env, a ∉ S) : ER C T env h' α' ρ := by
  have tk := t.tk M z
  have keepAt : ∀ a ∈ own env, ∀ o, h.get? a = some o → h'.get? a = some o := fun a m o e => t.kp a o e (R.offα a m) (hS a m)
  have offA : ∀ a ∈ own env, a ∉ α' := fun a m => by
    obtain ⟨o, e⟩ := R.alive a m
    exact t.off e (R.offα a m)
  have keepC : ∀ x c v, (x, c) ∈ env.cells → h.IsCell c v → h'.IsCell c v := fun x c v hx ⟨o, ho, hd⟩ => ⟨o, keepAt c (.tail _ (List.mem_map.mpr ⟨(x, c), hx, rfl⟩)) o ho, hd⟩
  refine ⟨R.fn, R.gl, R.bi, ?_, R.lnew, offA _ (.head _), fun x c hx => ?_, R.apart⟩
  · obtain ⟨m, ⟨o, es, ep, ho, hd, hk, hf⟩, sl⟩ := R.slots
    refine ⟨m, ⟨o, es, ep, keepAt _ (.head _) o ho, hd, hk, hf⟩, fun x i hx => ?_⟩
    rcases sl x i hx with ⟨a, b⟩ | ⟨a, c, v, e, hc, b⟩
    · exact .inl ⟨a, b.up tk fun _ _ e => t.get e⟩
    · exact .inr ⟨a, c, v, e, keepC x c v (mem_of_lookup e) hc, b.up tk fun _ _ e => t.get e⟩
  · obtain ⟨a, b, d, v, e⟩ := R.cells x c hx
    exact ⟨a, offA c (.tail _ (List.mem_map.mpr ⟨(x, c), hx, rfl⟩)), d, v, keepC x c v hx e⟩

/-- room for k calls, one in another -/
structure Room (k : Nat) (A : Around) : Prop where
  hd : A.handled = none
  dp : A.depth + k < recursionLimit
  un : A.units + 8 * k + 200 < cLine
theorem Room.le {k j : Nat} {A : Around} (r : Room k A) (h : j ≤ k) : Room j A := ⟨r.hd, by have := r.dp; omega, by have := r.un; omega⟩

noncomputable abbrev ExF := Rho → Mem → Option (RV × Mem)
noncomputable abbrev BoF := Rho → Mem → Option (Bool × Mem)
noncomputable abbrev ArF := Rho → Mem → Option (List RV × Mem)
inductive Fl where
  | nx
  | rt (v : RV)
noncomputable abbrev StF := Rho → Mem → Option (Fl × Rho × Mem)

noncomputable def DenE (C : Cst) (k : Nat) (sc : Scope) (T : List (Str × Nat)) (e : Expr) (f : ExF) : Prop :=
  ∀ (env : Env) (A : Around) (s : Shared) (α : List Addr) (ρ : Rho) (μ : Mem) (x : RV) (μ' : Mem) (Q : Value → Shared → Prop) (E : Value → Shared → Prop),
    env.scope = sc → Room k A → ER C T env s.heap α ρ → MR C s.heap α μ → f ρ μ = some (x, μ') →
    (∀ v α' h' tk', Stp [] α s.heap α' h' → MR C h' α' μ' → VR h' α' v x → Q v { s with heap := h', toks := tk' }) →
    wpAny (model C.prog C.w) A (eval e env) Q E s
noncomputable def DenB (C : Cst) (k : Nat) (sc : Scope) (T : List (Str × Nat)) (e : Expr) (f : BoF) : Prop :=
  ∀ (env : Env) (A : Around) (s : Shared) (α : List Addr) (ρ : Rho) (μ : Mem) (x : Bool) (μ' : Mem) (Q : Bool → Shared → Prop) (E : Value → Shared → Prop),
    env.scope = sc → Room k A → ER C T env s.heap α ρ → MR C s.heap α μ → f ρ μ = some (x, μ') →
    (∀ α' h' tk', Stp [] α s.heap α' h' → MR C h' α' μ' → Q x { s with heap := h', toks := tk' }) →
    wpAny (model C.prog C.w) A (isTrue e env (eval e env)) Q E s
noncomputable def FR (h : Heap) (α : List Addr) : Flow → Fl → Prop
  | .next, .nx => True
  | .ret v, .rt x => VR h α v x
  | _, _ => False
noncomputable def DenS (C : Cst) (k : Nat) (sc : Scope) (T : List (Str × Nat)) (e : Stmt) (f : StF) : Prop :=
  ∀ (env : Env) (A : Around) (s : Shared) (α : List Addr) (ρ : Rho) (μ : Mem) (x : Fl) (ρ' : Rho) (μ' : Mem) (Q : Flow → Shared → Prop) (E : Value → Shared → Prop),
    env.scope = sc → Room k A → ER C T env s.heap α ρ → MR C s.heap α μ → f ρ μ = some (x, ρ', μ') →
    (∀ fl α' h' tk', Stp (own env) α s.heap α' h' → MR C h' α' μ' → ER C T env h' α' ρ' → FR h' α' fl x → Q fl { s with heap := h', toks := tk' }) →
    wpAny (model C.prog C.w) A (exec e env) Q E s
noncomputable def DenL (C : Cst) (k : Nat) (sc : Scope) (T : List (Str × Nat)) (e : List Stmt) (f : StF) : Prop :=
  ∀ (env : Env) (A : Around) (s : Shared) (α : List Addr) (ρ : Rho) (μ : Mem) (x : Fl) (ρ' : Rho) (μ' : Mem) (Q : Flow → Shared → Prop) (E : Value → Shared → Prop),
    env.scope = sc → Room k A → ER C T env s.heap α ρ → MR C s.heap α μ → f ρ μ = some (x, ρ', μ') →
    (∀ fl α' h' tk', Stp (own env) α s.heap α' h' → MR C h' α' μ' → ER C T env h' α' ρ' → FR h' α' fl x → Q fl { s with heap := h', toks := tk' }) →
    wpAny (model C.prog C.w) A (execs e env) Q E s
/-- a def of the text, called with values -/
noncomputable def DenF (C : Cst) (k : Nat) (f : Addr) (F : List RV → Mem → Option (RV × Mem)) : Prop :=
  ∀ (A : Around) (s : Shared) (α : List Addr) (μ : Mem) (vs : List Value) (xs : List RV) (x : RV) (μ' : Mem) (Q : Value → Shared → Prop) (E : Value → Shared → Prop),
    Room k A → MR C s.heap α μ → VRs s.heap α vs xs → F xs μ = some (x, μ') →
    (∀ v α' h' tk', Stp [] α s.heap α' h' → MR C h' α' μ' → VR h' α' v x → Q v { s with heap := h', toks := tk' }) →
    wpAny (model C.prog C.w) A (call (.ref f) vs) Q E s

section
variable {C : Cst} {k : Nat} {sc : Scope} {T : List (Str × Nat)}

theorem OR.some {h : Heap} {α : List Addr} {o : Option Value} {x : RV} (r : OR h α o (some x)) : ∃ v, o = some v ∧ VR h α v x := by
  cases o with
  | none => exact r.elim
  | some v => exact ⟨v, rfl, r⟩

theorem load_slot {env : Env} {A : Around} {s : Shared} {α : List Addr} {ρ : Rho} {x : Str} {i : Nat} {y : RV} {Q : Value → Shared → Prop} {E : Value → Shared → Prop}
    (R : ER C T env s.heap α ρ) (hx : (x, i) ∈ T) (e : look ρ i = some y) (h : ∀ v, VR s.heap α v y → Q v s) : wpAny (model C.prog C.w) A (loadName env x) Q E s := by
  obtain ⟨m, hn, sl⟩ := R.slots
  rcases sl x i hx with ⟨hk, o⟩ | ⟨hk, c, v, hc, hv, o⟩
  · rw [e] at o
    obtain ⟨v, ev, r⟩ := o y rfl
    exact wpAny_loadName_local R.fn hk hn ev (h v r)
  · rw [e] at o
    obtain ⟨v', rfl, r⟩ := o y rfl
    rcases hk with hk | ⟨hk, hd⟩
    · exact wpAny_loadName_cell R.fn hk hc hv (h v' r)
    · exact wpAny_loadName_free R.fn hk hc hv (h v' r) hd

noncomputable def nameE (i : Nat) : ExF := fun ρ μ => (look ρ i).map fun y => (y, μ)
theorem den_name {x : Str} {pos : Pos} {i : Nat} (hx : (x, i) ∈ T) (hd : (x == ("__debug__" : Str)) = false) : DenE C k sc T (.Name x pos) (nameE i) := by
  intro env A s α ρ μ y μ' Q E hsc hr R M hf h
  unfold nameE at hf
  cases e : look ρ i with
  | none => rw [e] at hf; cases hf
  | some z =>
    rw [e] at hf
    cases hf
    exact wpAny_Name (load_slot R hx e fun v r => h v α s.heap s.toks (Stp.refl ..) M r) hd

theorem store_slot {env : Env} {A : Around} {s : Shared} {α : List Addr} {ρ : Rho} {μ : Mem} {x : Str} {i : Nat} {v : Value} {y : RV} {Q : Unit → Shared → Prop} {E : Value → Shared → Prop}
    (hn1 : (T.map (·.1)).Nodup) (hn2 : (T.map (·.2)).Nodup) (hnf : env.kindOf x ≠ some .free)
    (R : ER C T env s.heap α ρ) (M : MR C s.heap α μ) (hx : (x, i) ∈ T) (r : VR s.heap α v y)
    (h : ∀ h' tk', Stp (own env) α s.heap α h' → MR C h' α μ → ER C T env h' α (upd ρ i y) → Q () { s with heap := h', toks := tk' }) :
    wpAny (model C.prog C.w) A (storeName env x v) Q E s := by
  obtain ⟨m, hn, sl⟩ := R.slots
  have nd : ∀ z j, (z, j) ∈ T → (z = x ↔ j = i) := by
    intro z j hz
    obtain ⟨p, hp⟩ := List.mem_iff_getElem?.mp hz
    obtain ⟨q, hq⟩ := List.mem_iff_getElem?.mp hx
    have l1 := (List.getElem?_eq_some_iff.mp hp).1
    have p1 : (T.map (·.1))[p]? = some z := by rw [List.getElem?_map, hp]; rfl
    have q1 : (T.map (·.1))[q]? = some x := by rw [List.getElem?_map, hq]; rfl
    have p2 : (T.map (·.2))[p]? = some j := by rw [List.getElem?_map, hp]; rfl
    have q2 : (T.map (·.2))[q]? = some i := by rw [List.getElem?_map, hq]; rfl
    constructor
    · rintro rfl
      have : p = q := (List.getElem?_inj (by simpa using l1) hn1).mp (p1.trans q1.symm)
      subst this
      rw [hp] at hq; cases hq; rfl
    · rintro rfl
      have : p = q := (List.getElem?_inj (by simpa using l1) hn2).mp (p2.trans q2.symm)
      subst this
      rw [hp] at hq; cases hq; rfl
  rcases sl x i hx with ⟨hk, o⟩ | ⟨hk, c, v₀, hc, hv, o⟩
  · refine wpAny_storeName_local hk hn (fun h' hn' hs => ?_) (by show (env.scope.kind == .class || (env.scope.kind == .module && env.locals != env.globals)) = false; rw [R.fn]; rfl)
    have kp : ∀ b o, s.heap.get? b = some o → b ∉ [env.locals] → h'.get? b = some o := fun b o e n => (hs.2 b fun q => n (by rw [q]; exact .head _)).trans e
    have z : NoSeq s.heap [env.locals] := fun a m => R.noSeq a (by rw [List.mem_singleton.mp m]; exact .head _)
    have M' := M.keep z (fun a m => by rw [List.mem_singleton.mp m]; exact R.lal) (fun a m => by rw [List.mem_singleton.mp m]; exact R.lnew) kp
    have tk : TupKeep s.heap h' := fun b o vs n e c d => kp b o e fun m => z b m o e vs n d
    have t1 : Stp [env.locals] α s.heap α h' := Stp.of_keep kp
    refine h h' (s.toks + 1) (t1.more (fun a m => by rw [List.mem_singleton.mp m]; exact .head _) fun a m => .inr (R.alive a m)) M' ⟨R.fn, R.gl, R.bi, ⟨_, hn', fun y' j hy => ?_⟩, R.lnew, R.lal, fun y' c' hy => ?_, R.apart⟩
    · rw [look_upd]
      by_cases e : y' = x
      · subst e
        rw [if_pos ((nd y' j hy).mp rfl), if_pos rfl]
        exact .inl ⟨hk, (OS.mk r).up tk fun _ _ e => e⟩
      · rw [if_neg fun q => e ((nd y' j hy).mpr q), if_neg e]
        rcases sl y' j hy with ⟨a, b⟩ | ⟨a, c', v', e', hc', b⟩
        · exact .inl ⟨a, b.up tk fun _ _ e => e⟩
        · exact .inr ⟨a, c', v', e', hc'.sameBut hs (R.cells y' c' (mem_of_lookup e')).2.2.1, b.up tk fun _ _ e => e⟩
    · obtain ⟨a, b, d, v', e⟩ := R.cells y' c' hy
      exact ⟨a, b, d, v', e.sameBut hs d⟩
  · have hk' : env.kindOf x = some .cell := hk.resolve_right fun q => hnf q.1
    refine wpAny_storeName_cell R.fn hk' hc hv fun h' hv' hs => ?_
    have mc : (x, c) ∈ env.cells := mem_of_lookup hc
    have oc : c ∈ own env := .tail _ (List.mem_map.mpr ⟨(x, c), mc, rfl⟩)
    have kp : ∀ b o, s.heap.get? b = some o → b ∉ [c] → h'.get? b = some o := fun b o e n => (hs.2 b fun q => n (by rw [q]; exact .head _)).trans e
    have z : NoSeq s.heap [c] := fun a m => R.noSeq a (by rw [List.mem_singleton.mp m]; exact oc)
    have M' := M.keep z (fun a m => by rw [List.mem_singleton.mp m]; exact R.offα c oc) (fun a m => by rw [List.mem_singleton.mp m]; exact R.offB c oc) kp
    have tk : TupKeep s.heap h' := fun b o vs n e c d => kp b o e fun m => z b m o e vs n d
    have t1 : Stp [c] α s.heap α h' := Stp.of_keep kp
    have nl : env.locals ≠ c := fun q => (R.cells x c mc).2.2.1 q.symm
    refine h h' s.toks (t1.more (fun a m => by rw [List.mem_singleton.mp m]; exact oc) fun a m => .inr (R.alive a m)) M' ⟨R.fn, R.gl, R.bi, ⟨m, hn.sameBut hs nl, fun y' j hy => ?_⟩, R.lnew, R.lal, fun y' c' hy => ?_, R.apart⟩
    · rw [look_upd]
      by_cases e : y' = x
      · subst e
        rw [if_pos ((nd y' j hy).mp rfl)]
        exact .inr ⟨hk, c, _, hc, hv', (OS.mk r).up tk fun _ _ e => e⟩
      · rw [if_neg fun q => e ((nd y' j hy).mpr q)]
        rcases sl y' j hy with ⟨a, b⟩ | ⟨a, c', v', e', hc', b⟩
        · exact .inl ⟨a, b.up tk fun _ _ e => e⟩
        · refine .inr ⟨a, c', v', e', hc'.sameBut hs fun q => ?_, b.up tk fun _ _ e => e⟩
          subst q
          exact e (R.apart y' c' x (mem_of_lookup e') mc)
    · obtain ⟨a, b, d, v', e⟩ := R.cells y' c' hy
      by_cases q : c' = c
      · subst q; exact ⟨a, b, d, _, hv'⟩
      · exact ⟨a, b, d, v', e.sameBut hs q⟩
end
end Mine
set_option maxHeartbeats 1000000
set_option maxRecDepth 100000
set_option Elab.async false
set_option linter.unusedVariables false
namespace Mine
open PySem PySem.Spec PySem.Calls PyProof.Rows

noncomputable abbrev PostE (C : Cst) (s : Shared) (α : List Addr) (x : RV) (μ' : Mem) (Q : Value → Shared → Prop) : Prop :=
  ∀ v α' h' tk', Stp [] α s.heap α' h' → MR C h' α' μ' → VR h' α' v x → Q v { s with heap := h', toks := tk' }

/-- data along a step that touches our own objects alone -/
theorem Stp.tk0 {C : Cst} {α h α' h' μ} (M : MR C h α μ) (t : Stp [] α h α' h') : TupKeep h h' := t.tk M NoSeq.nil
theorem VR.stp {C : Cst} {α h α' h' μ} {v : Value} {x : RV} (r : VR h α v x) (M : MR C h α μ) (t : Stp [] α h α' h') : VR h' α' v x := r.up (t.tk0 M) fun _ _ e => t.get e
theorem VRs.stp {C : Cst} {α h α' h' μ} {v : List Value} {x : List RV} (r : VRs h α v x) (M : MR C h α μ) (t : Stp [] α h α' h') : VRs h' α' v x := r.up (t.tk0 M) fun _ _ e => t.get e
theorem ER.stp0 {C T env h α ρ α' h' μ} (R : ER C T env h α ρ) (M : MR C h α μ) (t : Stp [] α h α' h') : ER C T env h' α' ρ := R.stp M t NoSeq.nil fun _ _ m => nomatch m

section
variable {C : Cst} {k : Nat} {sc : Scope} {T : List (Str × Nat)}

noncomputable def litE (x : PyData) : ExF := fun _ μ => some (.d x, μ)
theorem den_int {i : Int} {n : Nat} {pos : Pos} : DenE C k sc T (.Constant (.int i) n pos) (litE (.int i)) := by
  intro env A s α ρ μ y μ' Q E hsc hr R M hf h
  cases hf
  exact wpAny_mkInt (h _ α s.heap (s.toks + 1) (Stp.refl ..) M (Reads.int i s.toks))
theorem den_str {x : Str} {n : Nat} {pos : Pos} : DenE C k sc T (.Constant (.str x) n pos) (litE (.str x)) := by
  intro env A s α ρ μ y μ' Q E hsc hr R M hf h
  cases hf
  exact wpAny_mkText (h _ α s.heap (s.toks + 1) (Stp.refl ..) M (Reads.str x s.toks))
theorem den_none {n : Nat} {pos : Pos} : DenE C k sc T (.Constant .none n pos) (litE .none) := by
  intro env A s α ρ μ y μ' Q E hsc hr R M hf h
  cases hf
  exact wpAny_pure (h _ α s.heap s.toks (Stp.refl ..) M Reads.none)
theorem den_bool {b : Bool} {n : Nat} {pos : Pos} : DenE C k sc T (.Constant (.bool b) n pos) (litE (.bool b)) := by
  intro env A s α ρ μ y μ' Q E hsc hr R M hf h
  cases hf
  exact wpAny_pure (h _ α s.heap s.toks (Stp.refl ..) M (Reads.bool b))

noncomputable def OpOK (C : Cst) (k : Nat) (m : Value → Value → Sem Value) (g : RV → RV → Mem → Option (RV × Mem)) : Prop :=
  ∀ (A : Around) (s : Shared) (α : List Addr) (μ : Mem) (v u : Value) (x y z : RV) (μ' : Mem) (Q E : Value → Shared → Prop),
    Room k A → MR C s.heap α μ → VR s.heap α v x → VR s.heap α u y → g x y μ = some (z, μ') → PostE C s α z μ' Q → wpAny (model C.prog C.w) A (m v u) Q E s

noncomputable def binE (g : RV → RV → Mem → Option (RV × Mem)) (fa fb : ExF) : ExF := fun ρ μ => match fa ρ μ with
  | none => none
  | some (a, μ₁) => match fb ρ μ₁ with
    | none => none
    | some (b, μ₂) => g a b μ₂

/-- two expressions, one behind the other -/
theorem den_two {a b : Expr} {fa fb : ExF} (ha : DenE C k sc T a fa) (hb : DenE C k sc T b fb)
    {env : Env} {A : Around} {s : Shared} {α : List Addr} {ρ : Rho} {μ : Mem} {g : RV → RV → Mem → Option (RV × Mem)} {z : RV} {μ' : Mem} {E : Value → Shared → Prop} {P : Value → Value → Shared → Prop}
    (hsc : env.scope = sc) (hr : Room k A) (R : ER C T env s.heap α ρ) (M : MR C s.heap α μ) (hf : binE g fa fb ρ μ = some (z, μ'))
    (h : ∀ v u x y α' h' tk' μ₂, Stp [] α s.heap α' h' → MR C h' α' μ₂ → VR h' α' v x → VR h' α' u y → g x y μ₂ = some (z, μ') → P v u { s with heap := h', toks := tk' }) :
    wpAny (model C.prog C.w) A (eval a env) (fun v s₁ => wpAny (model C.prog C.w) A (eval b env) (fun u s₂ => P v u s₂) E s₁) E s := by
  unfold binE at hf
  cases e1 : fa ρ μ with
  | none => rw [e1] at hf; cases hf
  | some p =>
    obtain ⟨x, μ₁⟩ := p
    rw [e1] at hf
    dsimp only at hf
    cases e2 : fb ρ μ₁ with
    | none => rw [e2] at hf; cases hf
    | some q =>
      obtain ⟨y, μ₂⟩ := q
      rw [e2] at hf
      dsimp only at hf
      refine ha env A s α ρ μ x μ₁ _ E hsc hr R M e1 fun v α₁ h₁ tk₁ t₁ M₁ r₁ => ?_
      refine hb env A _ α₁ ρ μ₁ y μ₂ _ E hsc hr (R.stp0 M t₁) M₁ e2 fun u α₂ h₂ tk₂ t₂ M₂ r₂ => ?_
      exact h v u x y α₂ h₂ tk₂ μ₂ (t₁.trans t₂) M₂ (r₁.stp M₁ t₂) r₂ hf

theorem PostE.step {s : Shared} {α : List Addr} {x : RV} {μ' : Mem} {Q : Value → Shared → Prop} {α₁ : List Addr} {h₁ : Heap} {tk₁ : Nat} (P : PostE C s α x μ' Q) (t : Stp [] α s.heap α₁ h₁) :
    PostE C { s with heap := h₁, toks := tk₁ } α₁ x μ' Q := fun v α' h' tk' u M r => P v α' h' tk' (t.trans u) M r

theorem den_bin {a b : Expr} {op : Operator} {pos : Pos} {fa fb : ExF} {g : RV → RV → Mem → Option (RV × Mem)} (ho : OpOK C k (binaryOp op) g) (ha : DenE C k sc T a fa) (hb : DenE C k sc T b fb) :
    DenE C k sc T (.BinOp a op b pos) (binE g fa fb) := by
  intro env A s α ρ μ z μ' Q E hsc hr R M hf h
  exact wpAny_BinOp (den_two ha hb (P := fun v u s₂ => wpAny (model C.prog C.w) A (binaryOp op v u) Q E s₂) hsc hr R M hf fun v u x y α' h' tk' μ₂ t M' r q hg =>
    ho A _ α' μ₂ v u x y z μ' Q E hr M' r q hg (PostE.step h t))
theorem den_cmp {a b : Expr} {op : CmpOp} {pos : Pos} {fa fb : ExF} {g : RV → RV → Mem → Option (RV × Mem)} (ho : OpOK C k (compareOp op) g) (ha : DenE C k sc T a fa) (hb : DenE C k sc T b fb) (hm : behindInMarks op b = false) :
    DenE C k sc T (.Compare a [op] [b] pos) (binE g fa fb) := by
  intro env A s α ρ μ z μ' Q E hsc hr R M hf h
  exact wpAny_Compare1 (den_two ha hb (P := fun v u s₂ => wpAny (model C.prog C.w) A (compareOp op v u) Q E s₂) hsc hr R M hf fun v u x y α' h' tk' μ₂ t M' r q hg =>
    ho A _ α' μ₂ v u x y z μ' Q E hr M' r q hg (PostE.step h t)) hm

noncomputable def asB : Option (RV × Mem) → Option (Bool × Mem)
  | some (.d (.bool b), μ) => some (b, μ)
  | _ => none
theorem asB_some {o : Option (RV × Mem)} {b : Bool} {μ : Mem} (h : asB o = some (b, μ)) : o = some (.d (.bool b), μ) := by
  unfold asB at h
  split at h
  · cases h; rfl
  · cases h
noncomputable def toB (f : ExF) : BoF := fun ρ μ => asB (f ρ μ)
theorem reads_bool {h : Heap} {v : Value} {b : Bool} {as : List Addr} (r : Reads h v (.bool b) as) : v = .bool b := by cases r; rfl
theorem reads_int {h : Heap} {v : Value} {b : Int} {as : List Addr} (r : Reads h v (.int b) as) : ∃ t, v = .int b t := by cases r; exact ⟨_, rfl⟩
theorem reads_str {h : Heap} {v : Value} {b : Str} {as : List Addr} (r : Reads h v (.str b) as) : ∃ t, v = .str b t := by cases r; exact ⟨_, rfl⟩
theorem reads_none {h : Heap} {v : Value} {as : List Addr} (r : Reads h v .none as) : v = .none := by cases r; rfl

/-- a test that is a comparison -/
theorem denB_cmp {a b : Expr} {op : CmpOp} {pos : Pos} {fa fb : ExF} {g : RV → RV → Mem → Option (RV × Mem)} (ho : OpOK C k (compareOp op) g) (ha : DenE C k sc T a fa) (hb : DenE C k sc T b fb) (hm : behindInMarks op b = false) :
    DenB C k sc T (.Compare a [op] [b] pos) (toB (binE g fa fb)) := by
  intro env A s α ρ μ z μ' Q E hsc hr R M hf h
  have hf := asB_some hf
  refine wpAny_isTrue_Compare1 (den_two ha hb (P := fun v u s₂ => wpAny (model C.prog C.w) A (compareOp op v u) (fun c s₃ => wpAny (model C.prog C.w) A (truthy c) Q E s₃) E s₂) hsc hr R M hf fun v u x y α' h' tk' μ₂ t M' r q hg =>
    ho A _ α' μ₂ v u x y _ μ' _ E hr M' r q hg fun c α'' h'' tk'' t' M'' rc => ?_) hm
  rw [reads_bool rc]
  exact wpAny_truthy_bool (h α'' h'' tk'' (t.trans t') M'')

noncomputable def notB (f : BoF) : BoF := fun ρ μ => match f ρ μ with
  | none => none
  | some (b, μ₁) => some (!b, μ₁)
theorem denB_not {a : Expr} {pos : Pos} {f : BoF} (ha : DenB C k sc T a f) : DenB C k sc T (.UnaryOp .Not a pos) (notB f) := by
  intro env A s α ρ μ z μ' Q E hsc hr R M hf h
  unfold notB at hf
  cases e : f ρ μ with
  | none => rw [e] at hf; cases hf
  | some p =>
    obtain ⟨b, μ₁⟩ := p
    rw [e] at hf
    cases hf
    exact wpAny_isTrue_Not (ha env A s α ρ μ b _ _ E hsc hr R M e h)

/-- a test that is neither a comparison nor a word of logic: its value's truth -/
theorem denB_val {a : Expr} {f : ExF} (ha : DenE C k sc T a f) (hw : ∀ env, PySem.isTrue a env (eval a env) = (do let v ← eval a env; standAt a.pos; holding [v] (truthy v))) : DenB C k sc T a (toB f) := by
  intro env A s α ρ μ z μ' Q E hsc hr R M hf h
  have hf := asB_some hf
  refine wpAny_isTrue_value (ha env A s α ρ μ _ μ' _ E hsc hr R M hf fun c α'' h'' tk'' t' M'' rc => ?_) (hw env)
  rw [reads_bool rc]
  exact wpAny_truthy_bool (h α'' h'' tk'' t' M'')

noncomputable def andB (f g : BoF) : BoF := fun ρ μ => match f ρ μ with
  | none => none
  | some (false, μ₁) => some (false, μ₁)
  | some (true, μ₁) => g ρ μ₁
noncomputable def orB (f g : BoF) : BoF := fun ρ μ => match f ρ μ with
  | none => none
  | some (true, μ₁) => some (true, μ₁)
  | some (false, μ₁) => g ρ μ₁
noncomputable def DenA (C : Cst) (k : Nat) (sc : Scope) (T : List (Str × Nat)) (op : BoolOp) (es : List Expr) (f : BoF) : Prop :=
  ∀ (env : Env) (A : Around) (s : Shared) (α : List Addr) (ρ : Rho) (μ : Mem) (x : Bool) (μ' : Mem) (Q : Bool → Shared → Prop) (E : Value → Shared → Prop),
    env.scope = sc → Room k A → ER C T env s.heap α ρ → MR C s.heap α μ → f ρ μ = some (x, μ') →
    (∀ α' h' tk', Stp [] α s.heap α' h' → MR C h' α' μ' → Q x { s with heap := h', toks := tk' }) →
    wpAny (model C.prog C.w) A (allTrue op es env) Q E s
theorem denA_and_nil : DenA C k sc T .And [] (fun _ μ => some (true, μ)) := by
  intro env A s α ρ μ z μ' Q E hsc hr R M hf h
  cases hf
  exact wpAny_allTrue_And_nil (h α s.heap s.toks (Stp.refl ..) M)
theorem denA_or_nil : DenA C k sc T .Or [] (fun _ μ => some (false, μ)) := by
  intro env A s α ρ μ z μ' Q E hsc hr R M hf h
  cases hf
  exact wpAny_allTrue_Or_nil (h α s.heap s.toks (Stp.refl ..) M)
theorem denA_and {a : Expr} {r : List Expr} {f g : BoF} (ha : DenB C k sc T a f) (hb : DenA C k sc T .And r g) : DenA C k sc T .And (a :: r) (andB f g) := by
  intro env A s α ρ μ z μ' Q E hsc hr R M hf h
  unfold andB at hf
  cases e : f ρ μ with
  | none => rw [e] at hf; cases hf
  | some p =>
    obtain ⟨b, μ₁⟩ := p
    rw [e] at hf
    refine wpAny_allTrue_And_cons (ha env A s α ρ μ b μ₁ _ E hsc hr R M e fun α' h' tk' t M' => ?_)
    cases b with
    | false => cases hf; rw [if_neg Bool.false_ne_true]; exact h α' h' tk' t M'
    | true => rw [if_pos rfl]; exact hb env A _ α' ρ μ₁ z μ' Q E hsc hr (R.stp0 M t) M' hf fun α'' h'' tk'' t' M'' => h α'' h'' tk'' (t.trans t') M''
theorem denA_or {a : Expr} {r : List Expr} {f g : BoF} (ha : DenB C k sc T a f) (hb : DenA C k sc T .Or r g) : DenA C k sc T .Or (a :: r) (orB f g) := by
  intro env A s α ρ μ z μ' Q E hsc hr R M hf h
  unfold orB at hf
  cases e : f ρ μ with
  | none => rw [e] at hf; cases hf
  | some p =>
    obtain ⟨b, μ₁⟩ := p
    rw [e] at hf
    refine wpAny_allTrue_Or_cons (ha env A s α ρ μ b μ₁ _ E hsc hr R M e fun α' h' tk' t M' => ?_)
    cases b with
    | true => cases hf; rw [if_pos rfl]; exact h α' h' tk' t M'
    | false => rw [if_neg Bool.false_ne_true]; exact hb env A _ α' ρ μ₁ z μ' Q E hsc hr (R.stp0 M t) M' hf fun α'' h'' tk'' t' M'' => h α'' h'' tk'' (t.trans t') M''
theorem denB_bool {op : BoolOp} {es : List Expr} {pos : Pos} {f : BoF} (h : DenA C k sc T op es f) : DenB C k sc T (.BoolOp op es pos) f := by
  intro env A s α ρ μ z μ' Q E hsc hr R M hf hq
  exact wpAny_isTrue_BoolOp (h env A s α ρ μ z μ' Q E hsc hr R M hf hq)

noncomputable def iteE (c : BoF) (f g : ExF) : ExF := fun ρ μ => match c ρ μ with
  | none => none
  | some (true, μ₁) => f ρ μ₁
  | some (false, μ₁) => g ρ μ₁
theorem den_ite {t a b : Expr} {pos : Pos} {c : BoF} {f g : ExF} (ht : DenB C k sc T t c) (ha : DenE C k sc T a f) (hb : DenE C k sc T b g) : DenE C k sc T (.IfExp t a b pos) (iteE c f g) := by
  intro env A s α ρ μ z μ' Q E hsc hr R M hf h
  unfold iteE at hf
  cases e : c ρ μ with
  | none => rw [e] at hf; cases hf
  | some p =>
    obtain ⟨b, μ₁⟩ := p
    rw [e] at hf
    refine wpAny_IfExp (ht env A s α ρ μ b μ₁ _ E hsc hr R M e fun α' h' tk' t M' => ?_)
    cases b with
    | true => rw [if_pos rfl]; exact ha env A _ α' ρ μ₁ z μ' Q E hsc hr (R.stp0 M t) M' hf (PostE.step h t)
    | false => rw [if_neg Bool.false_ne_true]; exact hb env A _ α' ρ μ₁ z μ' Q E hsc hr (R.stp0 M t) M' hf (PostE.step h t)

/-- not, as a value -/
noncomputable def notE (f : ExF) : ExF := fun ρ μ => match toB f ρ μ with
  | none => none
  | some (b, μ₁) => some (.d (.bool !b), μ₁)
theorem den_not {a : Expr} {pos : Pos} {f : ExF} (ha : DenE C k sc T a f) : DenE C k sc T (.UnaryOp .Not a pos) (notE f) := by
  intro env A s α ρ μ z μ' Q E hsc hr R M hf h
  unfold notE at hf
  cases e : toB f ρ μ with
  | none => rw [e] at hf; cases hf
  | some p =>
    obtain ⟨b, μ₁⟩ := p
    rw [e] at hf
    cases hf
    refine wpAny_UnaryOp (ha env A s α ρ μ _ _ _ E hsc hr R M (asB_some e) fun c α'' h'' tk'' t' M'' rc => ?_)
    rw [reads_bool rc]
    exact not_of (wpAny_truthy_bool (h _ α'' h'' tk'' t' M'' (Reads.bool _)))
/-- and, as a value, of two bools -/
noncomputable def andE (f g : ExF) : ExF := fun ρ μ => match toB f ρ μ with
  | none => none
  | some (false, μ₁) => some (.d (.bool false), μ₁)
  | some (true, μ₁) => g ρ μ₁
theorem den_and2 {a b : Expr} {pos : Pos} {f g : ExF} (ha : DenE C k sc T a f) (hb : DenE C k sc T b g) : DenE C k sc T (.BoolOp .And [a, b] pos) (andE f g) := by
  intro env A s α ρ μ z μ' Q E hsc hr R M hf h
  unfold andE at hf
  cases e : toB f ρ μ with
  | none => rw [e] at hf; cases hf
  | some p =>
    obtain ⟨b, μ₁⟩ := p
    rw [e] at hf
    refine wpAny_And2 (ha env A s α ρ μ _ μ₁ _ E hsc hr R M (asB_some e) fun c α' h' tk' t M' rc => ?_)
    rw [reads_bool rc]
    refine wpAny_truthy_bool ?_
    cases b with
    | true => rw [if_pos rfl]; exact hb env A _ α' ρ μ₁ z μ' Q E hsc hr (R.stp0 M t) M' hf (PostE.step h t)
    | false => cases hf; rw [if_neg Bool.false_ne_true]; exact h _ α' h' tk' t M' (Reads.bool _)

/-! arguments -/
noncomputable def nilA : ArF := fun _ μ => some ([], μ)
noncomputable def consA (f : ExF) (g : ArF) : ArF := fun ρ μ => match f ρ μ with
  | none => none
  | some (x, μ₁) => match g ρ μ₁ with
    | none => none
    | some (xs, μ₂) => some (x :: xs, μ₂)
noncomputable def DenAr (C : Cst) (k : Nat) (sc : Scope) (T : List (Str × Nat)) (es : List Expr) (f : ArF) : Prop :=
  (∀ env, (starEach es env) = es.map fun e => (false, eval e env)) ∧
  ∀ (env : Env) (A : Around) (s : Shared) (α : List Addr) (ρ : Rho) (μ : Mem) (xs : List RV) (μ' : Mem) (Q : List Value → Shared → Prop) (E : Value → Shared → Prop),
    env.scope = sc → Room k A → ER C T env s.heap α ρ → MR C s.heap α μ → f ρ μ = some (xs, μ') →
    (∀ vs α' h' tk', Stp [] α s.heap α' h' → MR C h' α' μ' → VRs h' α' vs xs → Q vs { s with heap := h', toks := tk' }) →
    wpAny (model C.prog C.w) A (spliced (es.map fun e => (false, eval e env))) Q E s
theorem denAr_nil : DenAr C k sc T [] nilA := ⟨fun _ => rfl, by
  intro env A s α ρ μ z μ' Q E hsc hr R M hf h
  cases hf
  exact wpAny_pure (h [] α s.heap s.toks (Stp.refl ..) M .nil)⟩
theorem denAr_cons {e : Expr} {es : List Expr} {f : ExF} {g : ArF} (ha : DenE C k sc T e f) (hb : DenAr C k sc T es g) (hs : ∀ env, starEach (e :: es) env = (false, eval e env) :: starEach es env) : DenAr C k sc T (e :: es) (consA f g) := ⟨fun env => by rw [hs, hb.1]; rfl, by
  intro env A s α ρ μ z μ' Q E hsc hr R M hf h
  unfold consA at hf
  cases e1 : f ρ μ with
  | none => rw [e1] at hf; cases hf
  | some p =>
    obtain ⟨x, μ₁⟩ := p
    rw [e1] at hf
    dsimp only at hf
    cases e2 : g ρ μ₁ with
    | none => rw [e2] at hf; cases hf
    | some q =>
      obtain ⟨xs, μ₂⟩ := q
      rw [e2] at hf
      cases hf
      show wpAny (model C.prog C.w) A (spliced ((false, eval e env) :: es.map fun e => (false, eval e env))) Q E s
      unfold spliced
      refine wpAny_bind (ha env A s α ρ μ x μ₁ _ E hsc hr R M e1 fun v α₁ h₁ tk₁ t₁ M₁ r₁ => ?_)
      refine wpAny_bind (wpAny_pure (wpAny_bind (wpAny_holding ?_)))
      refine hb.2 env A _ α₁ ρ μ₁ xs _ _ E hsc hr (R.stp0 M t₁) M₁ e2 fun vs α₂ h₂ tk₂ t₂ M₂ r₂ => ?_
      exact wpAny_pure (h _ α₂ h₂ tk₂ (t₁.trans t₂) M₂ (.cons (r₁.stp M₁ t₂) r₂))⟩
theorem backTo_plain {pos : Pos} {es : List Expr} {env : Env} : backTo pos (es.map fun e => (false, eval e env)) = es.map fun e => (false, eval e env) := by
  unfold backTo
  rw [List.map_map]
  rfl
end
end Mine
set_option maxHeartbeats 1000000
set_option maxRecDepth 100000
set_option Elab.async false
set_option linter.unusedVariables false
namespace Mine
open PySem PySem.Spec PySem.Calls PyProof.Rows

/-! what a value is, as data -/
noncomputable def flat : List RV → Option (List PyData)
  | [] => some []
  | .d x :: r => match flat r with
    | none => none
    | some xs => some (x :: xs)
  | _ :: _ => none
noncomputable def deep (μ : Mem) : RV → Option PyData
  | .d x => some x
  | .o _ => none
  | .r i => match μ[i]? with
    | some (.lst xs) => match flat xs with
      | none => none
      | some ds => some (.list ds)
    | _ => none
noncomputable def intsOf : List PyData → Option (List Int)
  | [] => some []
  | .int i :: r => match intsOf r with
    | none => none
    | some xs => some (i :: xs)
  | _ :: _ => none
noncomputable def atomsOf : List PyData → Option (List Atom)
  | [] => some []
  | .int i :: r => match atomsOf r with
    | none => none
    | some xs => some (.inl i :: xs)
  | .str x :: r => match atomsOf r with
    | none => none
    | some xs => some (.inr x :: xs)
  | _ :: _ => none

theorem flat_reads {h : Heap} {α : List Addr} {vs : List Value} {xs : List RV} (r : VRs h α vs xs) : ∀ {ds : List PyData}, flat xs = some ds → ReadsAll h vs ds [] := by
  induction r with
  | nil => intro ds e; cases e; exact .nil
  | @cons v x vs xs a _ ih =>
    intro ds e
    cases x with
    | r i => cases e
    | o u => cases e
    | d x =>
      unfold flat at e
      cases q : flat xs with
      | none => rw [q] at e; cases e
      | some es => rw [q] at e; cases e; exact .cons (as := []) (bs := []) a (ih q)
theorem MR.get {C : Cst} {h : Heap} {α : List Addr} {μ : Mem} (M : MR C h α μ) {i : Nat} {o : AO} (hi : μ[i]? = some o) : ∃ a, α[i]? = some a ∧ AR C h α a o := by
  have hl : i < α.length := M.len ▸ (List.getElem?_eq_some_iff.mp hi).1
  exact ⟨_, List.getElem?_eq_getElem hl, M.obj i _ o (List.getElem?_eq_getElem hl) hi⟩
/-- a reference's object -/
theorem VR.obj {C : Cst} {h : Heap} {α : List Addr} {μ : Mem} (M : MR C h α μ) {i : Nat} {v : Value} (r : VR h α v (.r i)) {o : AO} (hi : μ[i]? = some o) : ∃ a, v = .ref a ∧ α[i]? = some a ∧ AR C h α a o := by
  obtain ⟨a, e, rfl⟩ := r
  exact ⟨a, rfl, e, M.obj i a o e hi⟩
theorem deep_reads {C : Cst} {h : Heap} {α : List Addr} {μ : Mem} (M : MR C h α μ) {v : Value} {x : RV} (r : VR h α v x) {d : PyData} (e : deep μ x = some d) : ∃ as, Reads h v d as := by
  cases x with
  | d y => cases e; exact ⟨_, r⟩
  | o u => cases e
  | r i =>
    unfold deep at e
    dsimp only at e
    cases q : μ[i]? with
    | none => rw [q] at e; cases e
    | some o =>
      rw [q] at e
      cases o with
      | dct kvs => cases e
      | lst xs =>
        dsimp only at e
        cases p : flat xs with
        | none => rw [p] at e; cases e
        | some ds =>
          rw [p] at e
          cases e
          obtain ⟨a, rfl, _, vs, n, g, rs⟩ := r.obj M q
          exact ⟨_, reads_list_at g rfl rfl (flat_reads rs p)⟩
theorem intsOf_are {h : Heap} : ∀ {ds : List PyData} {vs : List Value} {ns : List Int} {as : List Addr}, intsOf ds = some ns → ReadsAll h vs ds as → IntsAre vs ns
  | [], _, _, _, e, r => by cases e; cases r; exact .nil
  | .int i :: ds, _, _, _, e, r => by
    unfold intsOf at e
    cases q : intsOf ds with
    | none => rw [q] at e; cases e
    | some ms =>
      rw [q] at e
      cases e
      cases r with
      | cons r1 r2 => cases r1; exact .cons _ _ (intsOf_are q r2)
  | .none :: _, _, _, _, e, _ => nomatch e
  | .bool _ :: _, _, _, _, e, _ => nomatch e
  | .str _ :: _, _, _, _, e, _ => nomatch e
  | .list _ :: _, _, _, _, e, _ => nomatch e
  | .tuple _ :: _, _, _, _, e, _ => nomatch e
  | .dict _ :: _, _, _, _, e, _ => nomatch e
theorem atomsOf_are {prog : Program} {w : World} {h : Heap} : ∀ {ds : List PyData} {vs : List Value} {ns : List Atom} {as : List Addr}, atomsOf ds = some ns → ReadsAll h vs ds as → ItemsAre (mixKind prog w) ns vs
  | [], _, _, _, e, r => by cases e; cases r; exact .nil
  | .int i :: ds, _, _, _, e, r => by
    unfold atomsOf at e
    cases q : atomsOf ds with
    | none => rw [q] at e; cases e
    | some ms =>
      rw [q] at e
      cases e
      cases r with
      | cons r1 r2 => cases r1; exact .cons (by simp [mixKind, atomIs, Value.isInt]) (atomsOf_are q r2)
  | .str i :: ds, _, _, _, e, r => by
    unfold atomsOf at e
    cases q : atomsOf ds with
    | none => rw [q] at e; cases e
    | some ms =>
      rw [q] at e
      cases e
      cases r with
      | cons r1 r2 => cases r1; exact .cons (by simp [mixKind, atomIs, Value.isStrOf]) (atomsOf_are q r2)
  | .none :: _, _, _, _, e, _ => nomatch e
  | .bool _ :: _, _, _, _, e, _ => nomatch e
  | .list _ :: _, _, _, _, e, _ => nomatch e
  | .tuple _ :: _, _, _, _, e, _ => nomatch e
  | .dict _ :: _, _, _, _, e, _ => nomatch e
theorem key_of {C : Cst} {h : Heap} {v : Value} {ds : List PyData} {ks : List Atom} {as : List Addr} (r : Reads h v (.tuple ds) as) (e : atomsOf ds = some ks) : ∃ a, v = .ref a ∧ IsTupleKey (mixKind C.prog C.w) h ks a := by
  cases r with
  | tuple h1 h2 h3 h4 => exact ⟨_, rfl, _, _, _, h1, h2, h3, atomsOf_are e h4⟩

section
variable {C : Cst} {k : Nat}
variable {prog : Program} {w : World} {A : Around} {E : Value → Shared → Prop} {s : Shared}

theorem PostE.same {α : List Addr} {μ : Mem} {x : RV} {Q : Value → Shared → Prop} (P : PostE C s α x μ Q) (M : MR C s.heap α μ) {v : Value} {tk : Nat} (r : VR s.heap α v x) : Q v { s with toks := tk } :=
  P v α s.heap tk (Stp.refl ..) M r

/-! ints -/
noncomputable def gInt (f : Int → Int → Option PyData) : RV → RV → Mem → Option (RV × Mem)
  | .d (.int a), .d (.int b), μ => match f a b with
    | none => none
    | some x => some (.d x, μ)
  | _, _, _ => none
theorem gInt_some {f : Int → Int → Option PyData} {x y z : RV} {μ μ' : Mem} (h : gInt f x y μ = some (z, μ')) : ∃ a b d, x = .d (.int a) ∧ y = .d (.int b) ∧ z = .d d ∧ μ' = μ ∧ f a b = some d := by
  unfold gInt at h
  split at h
  · rename_i a b
    split at h
    · cases h
    · rename_i d e
      cases h
      exact ⟨a, b, d, rfl, rfl, rfl, rfl, e⟩
  · cases h

theorem ok_sub : OpOK C k (binaryOp .Sub) (gInt fun a b => some (.int (a - b))) := by
  intro A s α μ v u x y z μ' Q E hr M r q hg h
  obtain ⟨a, b, d, rfl, rfl, rfl, rfl, e⟩ := gInt_some hg
  cases e
  obtain ⟨t, rfl⟩ := reads_int r
  obtain ⟨t', rfl⟩ := reads_int q
  exact sub_int (h.same M (Reads.int ..))
theorem ok_mod : OpOK C k (binaryOp .Mod) (gInt fun a b => if b = 0 then none else some (.int (a.fmod b))) := by
  intro A s α μ v u x y z μ' Q E hr M r q hg h
  obtain ⟨a, b, d, rfl, rfl, rfl, rfl, e⟩ := gInt_some hg
  by_cases hb : b = 0
  · rw [if_pos hb] at e; cases e
  · rw [if_neg hb] at e
    cases e
    obtain ⟨t, rfl⟩ := reads_int r
    obtain ⟨t', rfl⟩ := reads_int q
    exact mod_int' hb (h.same M (Reads.int ..))
theorem ok_div2 : OpOK C k (binaryOp .FloorDiv) (gInt fun a b => if b = 2 ∧ 0 ≤ a ∧ a < 1000 then some (.int (a.fdiv b)) else none) := by
  intro A s α μ v u x y z μ' Q E hr M r q hg h
  obtain ⟨a, b, d, rfl, rfl, rfl, rfl, e⟩ := gInt_some hg
  by_cases hb : b = 2 ∧ 0 ≤ a ∧ a < 1000
  · rw [if_pos hb] at e
    cases e
    obtain ⟨t, rfl⟩ := reads_int r
    obtain ⟨t', rfl⟩ := reads_int q
    obtain ⟨rfl, h1, h2⟩ := hb
    exact floordiv_int (by decide) (h.same M (Reads.int ..)) (.inl (by
      unfold Builtin.divisionGoesByPylong
      exact Bool.and_eq_false_iff.mpr (.inl (by decide))))
  · rw [if_neg hb] at e; cases e
theorem ok_lt_int : OpOK C k (compareOp .Lt) (gInt fun a b => some (.bool (decide (a < b)))) := by
  intro A s α μ v u x y z μ' Q E hr M r q hg h
  obtain ⟨a, b, d, rfl, rfl, rfl, rfl, e⟩ := gInt_some hg
  cases e
  obtain ⟨t, rfl⟩ := reads_int r
  obtain ⟨t', rfl⟩ := reads_int q
  exact PyProof.Rows.lt_int (h.same M (Reads.bool _))
theorem ok_le_int : OpOK C k (compareOp .LtE) (gInt fun a b => some (.bool (decide (a ≤ b)))) := by
  intro A s α μ v u x y z μ' Q E hr M r q hg h
  obtain ⟨a, b, d, rfl, rfl, rfl, rfl, e⟩ := gInt_some hg
  cases e
  obtain ⟨t, rfl⟩ := reads_int r
  obtain ⟨t', rfl⟩ := reads_int q
  exact PyProof.Rows.le_int (h.same M (Reads.bool _))

/-! equality of data -/
noncomputable def gEq (neg : Bool) (x y : RV) (μ : Mem) : Option (RV × Mem) := match deep μ x, deep μ y with
  | some a, some b => if (SeqAt.shaped a && SeqAt.shaped b) = true then some (.d (.bool (xor neg (a.eqv b))), μ) else none
  | _, _ => none
theorem gEq_some {n : Bool} {x y z : RV} {μ μ' : Mem} (h : gEq n x y μ = some (z, μ')) : ∃ a b, deep μ x = some a ∧ deep μ y = some b ∧ SeqAt.shaped a = true ∧ SeqAt.shaped b = true ∧ z = .d (.bool (xor n (a.eqv b))) ∧ μ' = μ := by
  unfold gEq at h
  split at h
  · rename_i a b e1 e2
    split at h
    · rename_i e
      cases h
      have := Bool.and_eq_true_iff.mp e
      exact ⟨a, b, e1, e2, this.1, this.2, rfl, rfl⟩
    · cases h
  · cases h
theorem ok_eq : OpOK C k (compareOp .Eq) (gEq false) := by
  intro A s α μ v u x y z μ' Q E hr M r q hg h
  obtain ⟨a, b, e1, e2, s1, s2, rfl, rfl⟩ := gEq_some hg
  obtain ⟨as, ra⟩ := deep_reads M r e1
  obtain ⟨bs, rb⟩ := deep_reads M q e2
  refine eq_dataH ra rb s1 s2 (by have := hr.un; omega) (h.same M ?_)
  rw [Bool.false_xor]; exact Reads.bool _
theorem ok_ne : OpOK C k (compareOp .NotEq) (gEq true) := by
  intro A s α μ v u x y z μ' Q E hr M r q hg h
  obtain ⟨a, b, e1, e2, s1, s2, rfl, rfl⟩ := gEq_some hg
  obtain ⟨as, ra⟩ := deep_reads M r e1
  obtain ⟨bs, rb⟩ := deep_reads M q e2
  refine ne_dataH ra rb s1 s2 (by have := hr.un; omega) (h.same M ?_)
  rw [Bool.true_xor]; exact Reads.bool _

/-! in -/
noncomputable def gIn (neg : Bool) (x y : RV) (μ : Mem) : Option (RV × Mem) := match x, y with
  | .d d, .r i => match μ[i]? with
    | some (.lst xs) => match flat xs with
      | none => none
      | some ds => if (SeqAt.shaped d && PyData.canLayAll0 ds) = true then some (.d (.bool (xor neg (ds.any fun y => y.eqv d))), μ) else none
    | _ => none
  | _, _ => none
theorem gIn_some {n : Bool} {x y z : RV} {μ μ' : Mem} (h : gIn n x y μ = some (z, μ')) : ∃ d i xs ds, x = .d d ∧ y = .r i ∧ μ[i]? = some (.lst xs) ∧ flat xs = some ds ∧ SeqAt.shaped d = true ∧ PyData.canLayAll0 ds = true ∧ z = .d (.bool (xor n (ds.any fun y => y.eqv d))) ∧ μ' = μ := by
  unfold gIn at h
  split at h
  · rename_i d i
    split at h
    · rename_i xs e
      split at h
      · cases h
      · rename_i ds e1
        split at h
        · rename_i e2
          cases h
          have := Bool.and_eq_true_iff.mp e2
          exact ⟨d, i, xs, ds, rfl, rfl, e, e1, this.1, this.2, rfl, rfl⟩
        · cases h
    · cases h
  · cases h
theorem ok_in : OpOK C k (compareOp .In) (gIn false) := by
  intro A s α μ v u x y z μ' Q E hr M r q hg h
  obtain ⟨d, i, xs, ds, rfl, rfl, e1, e2, s1, s2, rfl, rfl⟩ := gIn_some hg
  obtain ⟨a, rfl, _, vs, n, g, rs⟩ := VR.obj M q e1
  have dd := SeqAt.depth_of_shaped s1
  refine SeqAt.in_list_reads (reads_list_at g rfl rfl (flat_reads rs e2)) r s2 (SeqAt.canLay_of_shaped s1) (by have := hr.un; have := Nat.min_le_right (PyData.depthAll ds) d.depth; omega) (h.same M ?_)
  rw [Bool.false_xor]; exact Reads.bool _
theorem ok_notIn : OpOK C k (compareOp .NotIn) (gIn true) := by
  intro A s α μ v u x y z μ' Q E hr M r q hg h
  obtain ⟨d, i, xs, ds, rfl, rfl, e1, e2, s1, s2, rfl, rfl⟩ := gIn_some hg
  obtain ⟨a, rfl, _, vs, n, g, rs⟩ := VR.obj M q e1
  have dd := SeqAt.depth_of_shaped s1
  refine SeqAt.notIn_list_reads (reads_list_at g rfl rfl (flat_reads rs e2)) r s2 (SeqAt.canLay_of_shaped s1) (by have := hr.un; have := Nat.min_le_right (PyData.depthAll ds) d.depth; omega) (h.same M ?_)
  rw [Bool.true_xor]; exact Reads.bool _

noncomputable def kget : List (List Atom × RV) → List Atom → Option RV
  | [], _ => none
  | (k, v) :: r, x => if k = x then some v else kget r x
theorem kget_at {h : Heap} {α : List Addr} {vs : List (List Atom × Addr × Value)} {xs : List (List Atom × RV)} (r : KVs h α vs xs) (x : List Atom) : OR h α ((atKey vs x).map (·.2)) (kget xs x) := by
  induction r with
  | nil => exact trivial
  | @cons k a v y vs xs q _ ih =>
    unfold kget atKey
    by_cases e : k = x
    · rw [if_pos e, List.find?_cons_of_pos (by simpa using e)]; exact q
    · rw [if_neg e, List.find?_cons_of_neg (by simpa using e)]; exact ih
noncomputable def gInD (x y : RV) (μ : Mem) : Option (RV × Mem) := match x, y with
  | .d (.tuple ds), .r i => match atomsOf ds with
    | none => none
    | some ks => match μ[i]? with
      | some (.dct kvs) => some (.d (.bool (kget kvs ks).isSome), μ)
      | _ => none
  | _, _ => none
theorem not_modules {C : Cst} {h : Heap} {α : List Addr} {μ : Mem} (M : MR C h α μ) (hb : True) {a : Addr} (m : a ∈ α) : (a == sysModules) = false := by
  exact M.nm a m
theorem or_some {h : Heap} {α : List Addr} {o : Option Value} {x : Option RV} (r : OR h α o x) : o.isSome = x.isSome := by
  cases o <;> cases x <;> first | rfl | exact r.elim
theorem ok_inD (hb : True) : OpOK C k (compareOp .In) gInD := by
  intro A s α μ v u x y z μ' Q E hr M r q hg h
  unfold gInD at hg
  split at hg
  · rename_i ds i
    split at hg
    · cases hg
    · rename_i ks e1
      split at hg
      · rename_i kvs e2
        cases hg
        obtain ⟨a, rfl, ha, xs, hd, kv⟩ := VR.obj M q e2
        obtain ⟨b, rfl, hk⟩ := key_of (C := C) r e1
        have is := or_some (kget_at kv ks)
        rw [Option.isSome_map] at is
        refine wpAny_in_heap (knd := tupleKind (mixKind C.prog C.w)) (by show A.units + 1 < cLine; have := hr.un; omega) hk (not_modules M hb (List.mem_of_getElem? ha)) hd.of (h.same M ?_)
        rw [is]; exact Reads.bool _
      · cases hg
  · cases hg

/-! is None -/
noncomputable def gIs (x y : RV) (μ : Mem) : Option (RV × Mem) := match x, y with
  | .d .none, .d .none => some (.d (.bool true), μ)
  | .d (.int _), .d .none => some (.d (.bool false), μ)
  | _, _ => none
theorem ok_is : OpOK C k (compareOp .Is) gIs := by
  intro A s α μ v u x y z μ' Q E hr M r q hg h
  unfold gIs at hg
  split at hg
  · cases hg
    rw [reads_none r, reads_none q]
    exact wpAny_is_self rfl (h.same M (Reads.bool _))
  · cases hg
    obtain ⟨t, rfl⟩ := reads_int r
    rw [reads_none q]
    exact wpAny_is_other rfl (fun e => nomatch e) (h.same M (Reads.bool _))
  · cases hg

/-! tuples of ints, by < -/
noncomputable def ltL : List Int → List Int → Bool
  | [], [] => false
  | [], _ :: _ => true
  | _ :: _, [] => false
  | a :: as, b :: bs => if a = b then ltL as bs else decide (a < b)
/-- how the first pair that differs decides -/
noncomputable def firstDiff : List Int → List Int → Option Bool
  | n :: ns, m :: ms => if n = m then firstDiff ns ms else some (decide (n < m))
  | _, _ => none
theorem ltL_firstDiff : ∀ ns ms : List Int, ltL ns ms = (firstDiff ns ms).getD (decide (ns.length < ms.length))
  | [], [] => rfl
  | [], _ :: _ => by simp [ltL, firstDiff]
  | _ :: _, [] => by simp [ltL, firstDiff]
  | n :: ns, m :: ms => by
    unfold ltL firstDiff
    split
    · rw [ltL_firstDiff ns ms]; simp
    · rfl
/-- a loop over pairs that leaves at the first that differs -/
theorem lex_loop {R : Option PySem.Fin × Unit → Shared → Prop} {body : Value × Value → Option PySem.Fin × Unit → Sem (ForInStep (Option PySem.Fin × Unit))} {res : Bool → PySem.Fin}
    (step : ∀ (n m : Int) (t u : Tok) (R' : ForInStep (Option PySem.Fin × Unit) → Shared → Prop), (n = m → R' (.yield (none, ())) s) → (n ≠ m → R' (.done (some (res (decide (n < m))), ())) s) → wpAny (model prog w) A (body (.int n t, .int m u) (none, ())) R' E s) :
    ∀ {xs ys : List Value} {ns ms : List Int}, IntsAre xs ns → IntsAre ys ms → R ((firstDiff ns ms).map res, ()) s → wpAny (model prog w) A (forIn (List.zip xs ys) (none, ()) body) R E s
  | _, _, _, _, .nil, _, h => by
    rw [List.zip_nil_left, List.forIn_nil]; exact wpAny_pure h
  | _, _, _, _, .cons .., .nil, h => by
    rw [List.zip_nil_right, List.forIn_nil]; exact wpAny_pure h
  | _, _, _, _, .cons n t hx, .cons m u hy, h => by
    rw [List.zip_cons_cons, List.forIn_cons]
    unfold firstDiff at h
    refine wpAny_bind (step n m t u _ (fun e => ?_) fun e => ?_)
    · rw [if_pos e] at h
      exact lex_loop step hx hy h
    · rw [if_neg e] at h
      exact wpAny_pure h
theorem tuple_lt_tree {x y : List Int} {a b : Addr} {P : Fin → Shared → Prop} {oa ob : Obj} {xs ys : Array Value} {na nb : Nat} (hoa : s.heap.get? a = some oa) (hca : oa.cls = .type "tuple") (hda : oa.data = .seq xs na) (hia : IntsAre xs.toList x)
    (hob : s.heap.get? b = some ob) (hcb : ob.cls = .type "tuple") (hdb : ob.data = .seq ys nb) (hib : IntsAre ys.toList y) (h : P (.done (.ret (.bool (ltL x y)))) s) :
    wpAny (model prog w) A (Builtin.«tuple.__lt__» ⟨[.ref a, .ref b], []⟩) P E s := by
  have lx : xs.size = x.length := by rw [← Array.length_toList]; exact hia.length
  have ly : ys.size = y.length := by rw [← Array.length_toList]; exact hib.length
  refine wpAny_bind (wpAny_pure (wpAny_bind (wpAny_isInstance ⟨ob, hob, hcb⟩ isSubtype_tuple_tuple (wpAny_bind (wpAny_tupleItemsOf hoa hda (wpAny_bind (wpAny_tupleItemsOf hob hdb (wpAny_bind ?_))))))))
  refine lex_loop (res := fun c => .done (.ret (.bool c))) (fun n m t u R' yes no => wpAny_bind (wpAny_eqBool_int ?_)) hia hib ?_
  · by_cases e : n = m
    · rw [beq_iff_eq.mpr e]
      exact wpAny_pure (yes e)
    · rw [beq_eq_false_iff_ne.mpr e]
      have lt : wpAny (model prog w) A (richCompare .Lt (.int n t) (.int m u)) (fun v s' => v = .bool (decide (n < m)) ∧ s' = s) E s := PyProof.Rows.lt_int (Q := fun v s' => v = .bool (decide (n < m)) ∧ s' = s) ⟨rfl, rfl⟩
      refine wpAny_bind (wpAny_rule (wpAny_bind (wpAny_mono lt (fun v s' q => ?_) fun _ _ q => q)))
      obtain ⟨rfl, rfl⟩ := q
      exact wpAny_bind (wpAny_pure (wpAny_pure (no e)))
  · rw [ltL_firstDiff] at h
    cases e : firstDiff x y with
    | some c => rw [e] at h; exact wpAny_pure h
    | none =>
      rw [e] at h
      refine wpAny_pure ?_
      show P (.done (.ret (Builtin.Tuple.tupleCompareSizes .Lt xs.size ys.size))) s
      rw [lx, ly]; exact h
end
end Mine
set_option maxHeartbeats 1000000
set_option maxRecDepth 100000
set_option Elab.async false
set_option linter.unusedVariables false
namespace Mine
open PySem PySem.Spec PySem.Calls PyProof.Rows

theorem readsAll_append {h : Heap} : ∀ {vs ws : List Value} {xs ys : List PyData} {as bs : List Addr}, ReadsAll h vs xs as → ReadsAll h ws ys bs → ReadsAll h (vs ++ ws) (xs ++ ys) (as ++ bs)
  | _, _, _, _, _, _, .nil, r => r
  | _, _, _, _, _, _, .cons (as := a1) (bs := a2) q1 q2, r => by
    rw [List.append_assoc]
    exact .cons q1 (readsAll_append q2 r)
theorem readsAll_len {h : Heap} {vs : List Value} {xs : List PyData} {as : List Addr} (r : ReadsAll h vs xs as) : vs.length = xs.length := SeqAt.ReadsAll.length _ _ _ r
theorem VRs.len {h : Heap} {α : List Addr} {vs : List Value} {xs : List RV} (r : VRs h α vs xs) : vs.length = xs.length := by
  induction r with
  | nil => rfl
  | cons _ _ ih => simp [ih]
theorem VRs.append {h : Heap} {α : List Addr} {vs ws : List Value} {xs ys : List RV} (r : VRs h α vs xs) (q : VRs h α ws ys) : VRs h α (vs ++ ws) (xs ++ ys) := by
  induction r with
  | nil => exact q
  | cons a _ ih => exact .cons a ih
theorem VRs.get {h : Heap} {α : List Addr} {vs : List Value} {xs : List RV} (r : VRs h α vs xs) : ∀ {i : Nat} {x : RV}, xs[i]? = some x → ∃ v, vs[i]? = some v ∧ VR h α v x := by
  induction r with
  | nil => intro i x e; cases e
  | @cons v y vs xs a _ ih =>
    intro i x e
    cases i with
    | zero => cases e; exact ⟨v, rfl, a⟩
    | succ i => exact ih e
theorem VRs.getNone {h : Heap} {α : List Addr} {vs : List Value} {xs : List RV} (r : VRs h α vs xs) {i : Nat} (e : xs[i]? = none) : vs[i]? = none := by
  rw [List.getElem?_eq_none_iff] at e ⊢
  rw [r.len]; exact e
theorem VRs.pick {h : Heap} {α : List Addr} {vs : List Value} {xs : List RV} (r : VRs h α vs xs) : ∀ is : List Nat, VRs h α (is.filterMap fun i => vs[i]?) (is.filterMap fun i => xs[i]?)
  | [] => .nil
  | i :: is => by
    cases e : xs[i]? with
    | none => rw [List.filterMap_cons_none (by exact r.getNone e), List.filterMap_cons_none (by exact e)]; exact r.pick is
    | some x =>
      obtain ⟨v, ev, q⟩ := r.get e
      rw [List.filterMap_cons_some (by exact ev), List.filterMap_cons_some (by exact e)]
      exact .cons q (r.pick is)
theorem readsAll_get {h : Heap} : ∀ {vs : List Value} {xs : List PyData}, ReadsAll h vs xs [] → ∀ {i : Nat} {x : PyData}, xs[i]? = some x → ∃ v, vs[i]? = some v ∧ Reads h v x [] := by
  intro vs
  induction vs with
  | nil => intro xs r i x e; cases r; cases e
  | cons v vs ih =>
    intro xs r i x e
    generalize hz : ([] : List Addr) = z at r
    cases r with
    | cons r1 r2 =>
      obtain ⟨rfl, rfl⟩ := List.append_eq_nil_iff.mp hz.symm
      cases i with
      | zero => cases e; exact ⟨v, rfl, r1⟩
      | succ i => exact ih r2 e
theorem readsAll_drop {h : Heap} : ∀ {vs : List Value} {xs : List PyData} (n : Nat), ReadsAll h vs xs [] → ReadsAll h (vs.drop n) (xs.drop n) [] := by
  intro vs
  induction vs with
  | nil => intro xs n r; cases r; rw [List.drop_nil, List.drop_nil]; exact .nil
  | cons v vs ih =>
    intro xs n r
    generalize hz : ([] : List Addr) = z at r
    cases r with
    | cons r1 r2 =>
      obtain ⟨rfl, rfl⟩ := List.append_eq_nil_iff.mp hz.symm
      cases n with
      | zero => exact .cons (as := []) (bs := []) r1 r2
      | succ n => exact ih n r2
theorem readsAll_take {h : Heap} : ∀ {vs : List Value} {xs : List PyData} (n : Nat), ReadsAll h vs xs [] → ReadsAll h (vs.take n) (xs.take n) [] := by
  intro vs
  induction vs with
  | nil => intro xs n r; cases r; rw [List.take_nil, List.take_nil]; exact .nil
  | cons v vs ih =>
    intro xs n r
    generalize hz : ([] : List Addr) = z at r
    cases r with
    | cons r1 r2 =>
      obtain ⟨rfl, rfl⟩ := List.append_eq_nil_iff.mp hz.symm
      cases n with
      | zero => exact .nil
      | succ n => exact .cons (as := []) (bs := []) r1 (ih n r2)

/-- a tuple's object -/
theorem tup_obj {h : Heap} {v : Value} {ds : List PyData} {as : List Addr} (r : Reads h v (.tuple ds) as) : ∃ a dd vs n sl, v = .ref a ∧ h.get? a = some { cls := .type "tuple", dict := dd, data := .seq vs n, slots := sl } ∧ ReadsAll h vs.toList ds as := by
  cases r with
  | @tuple a o vs n _ _ h1 h2 h3 h4 =>
    obtain ⟨c, dd, dt, sl⟩ := o
    simp only at h2 h3
    subst h2 h3
    exact ⟨a, dd, vs, n, sl, rfl, h1, h4⟩

theorem new_tuple {C : Cst} {h : Heap} {α : List Addr} {μ : Mem} (M : MR C h α μ) {vs : List Value} {ds : List PyData} (r : ReadsAll h vs ds []) :
    MR C (h.push { cls := .type "tuple", data := .seq vs.toArray }) α μ ∧ VR (h.push { cls := .type "tuple", data := .seq vs.toArray }) α (.ref h.objs.size) (.d (.tuple ds)) :=
  ⟨M.push _, reads_tuple_at (Heap.get?_push_size _ rfl) rfl rfl (ReadsAll.keeps (fun _ _ e => Heap.get?_push_of_some _ e) (by simpa using r))⟩
theorem new_list {C : Cst} {h : Heap} {α : List Addr} {μ : Mem} (M : MR C h α μ) {vs : List Value} {xs : List RV} {n : Nat} (r : VRs h α vs xs) :
    MR C (h.push (lob vs.toArray n)) (α ++ [h.objs.size]) (μ ++ [.lst xs]) ∧ VR (h.push (lob vs.toArray n)) (α ++ [h.objs.size]) (.ref h.objs.size) (.r μ.length) := by
  refine ⟨M.alloc ⟨_, _, Heap.get?_push_size _ rfl, ?_⟩, h.objs.size, ?_, rfl⟩
  · refine VRs.up (fun b o _ _ e _ _ => Heap.get?_push_of_some _ e) (fun i a e => ?_) (by simpa using r)
    rw [List.getElem?_append_left (List.getElem?_eq_some_iff.mp e).1]; exact e
  · rw [← M.len, List.getElem?_append_right (Nat.le_refl _), Nat.sub_self]; rfl

section
variable {C : Cst} {k : Nat} {sc : Scope} {T : List (Str × Nat)}
variable {A : Around} {E : Value → Shared → Prop} {s : Shared}

theorem PostE.tuple {α : List Addr} {μ : Mem} {ds : List PyData} {Q : Value → Shared → Prop} (P : PostE C s α (.d (.tuple ds)) μ Q) (M : MR C s.heap α μ) {vs : List Value} {tk : Nat} (r : ReadsAll s.heap vs ds []) :
    Q (.ref s.heap.objs.size) { s with heap := s.heap.push { cls := .type "tuple", data := .seq vs.toArray }, toks := tk } :=
  have z := new_tuple M r
  P _ α _ tk (Stp.push _) z.1 z.2
theorem PostE.list {α : List Addr} {μ : Mem} {xs : List RV} {Q : Value → Shared → Prop} (P : PostE C s α (.r μ.length) (μ ++ [.lst xs]) Q) (M : MR C s.heap α μ) {vs : List Value} {n : Nat} {tk : Nat} (r : VRs s.heap α vs xs) :
    Q (.ref s.heap.objs.size) { s with heap := s.heap.push (lob vs.toArray n), toks := tk } :=
  have z := new_list (n := n) M r
  P _ _ _ tk (Stp.alloc _) z.1 z.2

noncomputable def gAdd (x y : RV) (μ : Mem) : Option (RV × Mem) := match x, y with
  | .d (.int a), .d (.int b) => some (.d (.int (a + b)), μ)
  | .d (.tuple xs), .d (.tuple ys) => if xs.length + ys.length ≤ 1000 then some (.d (.tuple (xs ++ ys)), μ) else none
  | .r i, .r j => match μ[i]?, μ[j]? with
    | some (.lst xs), some (.lst ys) => if xs.length + ys.length ≤ 1000 then some (.r μ.length, μ ++ [.lst (xs ++ ys)]) else none
    | _, _ => none
  | _, _ => none
theorem sizeLine_ge : 1000 ≤ sizeLine := by rw [sizeLine_eq]; decide
theorem ok_add : OpOK C k (binaryOp .Add) gAdd := by
  intro A s α μ v u x y z μ' Q E hr M r q hg h
  unfold gAdd at hg
  split at hg
  · cases hg
    obtain ⟨t, rfl⟩ := reads_int r
    obtain ⟨t', rfl⟩ := reads_int q
    exact add_int (h.same M (Reads.int ..))
  · rename_i xs ys
    split at hg
    · rename_i hl
      cases hg
      obtain ⟨a, dd, vs, n, sl, rfl, ha, ra⟩ := tup_obj r
      obtain ⟨b, dd2, ws, n2, sl2, rfl, hb, rb⟩ := tup_obj q
      have l1 := readsAll_len ra
      have l2 := readsAll_len rb
      rw [Array.length_toList] at l1 l2
      by_cases e0 : vs.isEmpty = true
      · refine concat_meets ⟨_, ha, rfl⟩ ⟨_, hb, rfl⟩ noFill_tuple_add seq_tuple_add PySem.F.slot_tuple_add PySem.F.entry_tuple_add (PySem.F.args_tuple_add_2 _ _) (tuple_addW0 a b vs ws n n2 dd dd2 sl sl2 e0) ⟨ha, hb, ?_⟩
        have : xs = [] := List.length_eq_zero_iff.mp (by rw [← l1]; simpa using e0)
        subst this
        exact h.same M q
      · by_cases e1 : ws.isEmpty = true
        · refine concat_meets ⟨_, ha, rfl⟩ ⟨_, hb, rfl⟩ noFill_tuple_add seq_tuple_add PySem.F.slot_tuple_add PySem.F.entry_tuple_add (PySem.F.args_tuple_add_2 _ _) (tuple_addW1 a b vs ws n n2 dd dd2 sl sl2 e0 e1) ⟨ha, hb, ?_⟩
          have : ys = [] := List.length_eq_zero_iff.mp (by rw [← l2]; simpa using e1)
          subst this
          rw [List.append_nil] at h
          exact h.same M r
        · refine concat_meets ⟨_, ha, rfl⟩ ⟨_, hb, rfl⟩ noFill_tuple_add seq_tuple_add PySem.F.slot_tuple_add PySem.F.entry_tuple_add (PySem.F.args_tuple_add_2 _ _) (tuple_addW2 a b vs ws n n2 dd dd2 sl sl2 e0 e1 (by have := sizeLine_ge; omega)) ⟨ha, hb, ?_⟩
          have e : vs ++ ws = (vs.toList ++ ws.toList).toArray := by simp
          rw [e]
          exact h.tuple M (readsAll_append (as := []) (bs := []) ra rb)
    · cases hg
  · rename_i i j
    split at hg
    · rename_i xs ys e1 e2
      split at hg
      · rename_i hl
        cases hg
        obtain ⟨a, rfl, _, vs, n, ha, ra⟩ := VR.obj M r e1
        obtain ⟨b, rfl, _, ws, n2, hb, rb⟩ := VR.obj M q e2
        have l1 := ra.len
        have l2 := rb.len
        rw [Array.length_toList] at l1 l2
        refine concat_meets ⟨_, ha, rfl⟩ ⟨_, hb, rfl⟩ noFill_list_add seq_list_add PySem.F.slot_list_add PySem.F.entry_list_add (PySem.F.args_list_add_2 _ _) (list_addW a b vs ws n n2 _ _ _ _ (by have := sizeLine_ge; omega)) ⟨ha, hb, ?_⟩
        have e : vs ++ ws = (vs.toList ++ ws.toList).toArray := by simp
        rw [e]
        exact h.list M (ra.append rb)
      · cases hg
    · cases hg
  · cases hg

noncomputable def gLt (x y : RV) (μ : Mem) : Option (RV × Mem) := match x, y with
  | .d (.int a), .d (.int b) => some (.d (.bool (decide (a < b))), μ)
  | .d (.tuple xs), .d (.tuple ys) => match intsOf xs, intsOf ys with
    | some a, some b => some (.d (.bool (ltL a b)), μ)
    | _, _ => none
  | _, _ => none
theorem ok_lt : OpOK C k (compareOp .Lt) gLt := by
  intro A s α μ v u x y z μ' Q E hr M r q hg h
  unfold gLt at hg
  split at hg
  · cases hg
    obtain ⟨t, rfl⟩ := reads_int r
    obtain ⟨t', rfl⟩ := reads_int q
    exact PyProof.Rows.lt_int (h.same M (Reads.bool _))
  · split at hg
    · rename_i a b e1 e2
      cases hg
      obtain ⟨i, dd, vs, n, sl, rfl, ha, ra⟩ := tup_obj r
      obtain ⟨j, dd2, ws, n2, sl2, rfl, hb, rb⟩ := tup_obj q
      refine wpAny_richCompare_same_room (op := .Lt) (T := "tuple") (id := "tuple.__lt__") ⟨_, ha, rfl⟩ ⟨_, hb, rfl⟩ F.slot_tuple_lt
        (wpAny_call_entry F.slot_tuple_lt ⟨_, ha, rfl⟩ F.entry_tuple_lt (tuple_lt_tree ha rfl rfl (intsOf_are e1 ra) hb rfl rfl (intsOf_are e2 rb) ⟨_, rfl, (fun e => nomatch e), h.same M (Reads.bool _)⟩) (F.args_tuple_lt_2 _ _)) (by have := hr.un; omega)
    · cases hg
  · cases hg

/-! displays -/
noncomputable def listE (f : ArF) : ExF := fun ρ μ => match f ρ μ with
  | none => none
  | some (xs, μ₁) => if xs.length ≤ 1000 then some (.r μ₁.length, μ₁ ++ [.lst xs]) else none
theorem den_list {es : List Expr} {pos : Pos} {f : ArF} (hf : DenAr C k sc T es f) : DenE C k sc T (.List es pos) (listE f) := by
  intro env A s α ρ μ z μ' Q E hsc hr R M hg h
  unfold listE at hg
  cases e : f ρ μ with
  | none => rw [e] at hg; cases hg
  | some p =>
    obtain ⟨xs, μ₁⟩ := p
    rw [e] at hg
    dsimp only at hg
    split at hg
    · rename_i hl
      cases hg
      refine List_ ?_
      rw [hf.1, backTo_plain]
      refine hf.2 env A s α ρ μ xs μ₁ _ E hsc hr R M e fun vs α₁ h₁ tk₁ t₁ M₁ r₁ => ?_
      exact wpAny_newList ((PostE.step h t₁).list M₁ r₁) (by rw [r₁.len]; exact Nat.le_trans hl sizeLine_ge)
    · cases hg
noncomputable def tupleE (f : ArF) : ExF := fun ρ μ => match f ρ μ with
  | none => none
  | some (xs, μ₁) => match flat xs with
    | none => none
    | some ds => if ds.length ≤ 1000 then some (.d (.tuple ds), μ₁) else none
theorem den_tuple {es : List Expr} {n : Nat} {pos : Pos} {f : ArF} (hf : DenAr C k sc T es f) : DenE C k sc T (.Tuple es n pos) (tupleE f) := by
  intro env A s α ρ μ z μ' Q E hsc hr R M hg h
  unfold tupleE at hg
  cases e : f ρ μ with
  | none => rw [e] at hg; cases hg
  | some p =>
    obtain ⟨xs, μ₁⟩ := p
    rw [e] at hg
    dsimp only at hg
    split at hg
    · cases hg
    · rename_i ds e1
      split at hg
      · rename_i hl
        cases hg
        refine Tuple_ ?_
        rw [hf.1, backTo_plain]
        refine hf.2 env A s α ρ μ xs _ _ E hsc hr R M e fun vs α₁ h₁ tk₁ t₁ M₁ r₁ => ?_
        have rr := flat_reads r₁ e1
        exact wpAny_newTuple ((PostE.step h t₁).tuple M₁ rr) (by rw [readsAll_len rr]; exact Nat.le_trans hl sizeLine_ge)
      · cases hg

/-! an item -/
noncomputable def gItem (x y : RV) (μ : Mem) : Option (RV × Mem) := match x, y with
  | .r i, .d (.int j) => match μ[i]? with
    | some (.lst xs) => if 0 ≤ j ∧ j < 1000 then match xs[j.toNat]? with
      | none => none
      | some z => some (z, μ) else none
    | _ => none
  | .d (.tuple ds), .d (.int j) => if 0 ≤ j ∧ j < 1000 then match ds[j.toNat]? with
    | none => none
    | some z => some (.d z, μ) else none
  | _, _ => none
theorem ok_item : OpOK C k getItem gItem := by
  intro A s α μ v u x y z μ' Q E hr M r q hg h
  unfold gItem at hg
  split at hg
  · rename_i i j
    split at hg
    · rename_i xs e1
      split at hg
      · rename_i hj
        split at hg
        · cases hg
        · rename_i w e2
          cases hg
          obtain ⟨t, rfl⟩ := reads_int q
          obtain ⟨a, rfl, _, vs, n, ha, ra⟩ := VR.obj M r e1
          obtain ⟨v, ev, rv⟩ := ra.get e2
          exact wpAny_getItem_list ⟨_, ha, rfl, _, rfl⟩ hj.1 (by omega) (by simpa using ev) (h.same M rv)
      · cases hg
    · cases hg
  · rename_i ds j
    split at hg
    · rename_i hj
      split at hg
      · cases hg
      · rename_i w e2
        cases hg
        obtain ⟨t, rfl⟩ := reads_int q
        obtain ⟨a, dd, vs, n, sl, rfl, ha, ra⟩ := tup_obj r
        obtain ⟨v, ev, rv⟩ := readsAll_get ra e2
        have hlt : j.toNat < vs.size := by
          have := (List.getElem?_eq_some_iff.mp ev).1
          simpa using this
        refine PyProof.Rows.getItem_tuple (j := j.toNat) ⟨_, ha, rfl, _, rfl⟩ (by omega) (by omega) ?_ (by simpa using ev) (h.same M rv)
        unfold seqIndex?
        have h1 : ¬ (j < 0) := by omega
        have h2 : (0 ≤ j ∧ j < (vs.size : Int)) := by omega
        simp [h1, h2.1, h2.2]
    · cases hg
  · cases hg

theorem getitem_notPython {M : Model} {o : Value} {T : String} {id : String} {Q : Bool → Shared → Prop} (hT : s.TypeIs o T) (hl : typeLookup (.type T) "__getitem__" = pure (some (.builtin id))) (h : Q false s) :
    wpAny M A (getitemInPython o) Q E s := by
  unfold getitemInPython
  refine wpAny_bind (wpAny_specialOf hT hl ?_)
  exact wpAny_pure h
theorem gItem_type {C : Cst} {h : Heap} {α : List Addr} {μ μ' : Mem} (M : MR C h α μ) {x y z : RV} {o : Value} (r : VR h α o x) (hg : gItem x y μ = some (z, μ')) {s : Shared} (hs : s.heap = h) :
    ∃ T id, s.TypeIs o T ∧ typeLookup (.type T) "__getitem__" = pure (some (.builtin id)) := by
  subst hs
  unfold gItem at hg
  split at hg
  · split at hg
    · rename_i xs e1
      obtain ⟨a, rfl, _, vs, n, ha, ra⟩ := VR.obj M r e1
      exact ⟨"list", _, ⟨_, ha, rfl⟩, slot_list_getitem.lookup⟩
    · cases hg
  · obtain ⟨a, dd, vs, n, sl, rfl, ha, ra⟩ := tup_obj r
    exact ⟨"tuple", _, ⟨_, ha, rfl⟩, slot_tuple_getitem.lookup⟩
  · cases hg
theorem den_item {a i : Expr} {pos : Pos} {fa fi : ExF} (ha : DenE C k sc T a fa) (hi : DenE C k sc T i fi) (hsl : ∀ o v, subscripted i false o v = operate [o, v] (getItem o v)) :
    DenE C k sc T (.Subscript a i pos) (binE gItem fa fi) := by
  intro env A s α ρ μ z μ' Q E hsc hr R M hg h
  rw [eval_Subscript]
  unfold binE at hg
  cases e1 : fa ρ μ with
  | none => rw [e1] at hg; cases hg
  | some p =>
    obtain ⟨x, μ₁⟩ := p
    rw [e1] at hg
    dsimp only at hg
    cases e2 : fi ρ μ₁ with
    | none => rw [e2] at hg; cases hg
    | some q =>
      obtain ⟨y, μ₂⟩ := q
      rw [e2] at hg
      dsimp only at hg
      refine wpAny_bind (ha env A s α ρ μ x μ₁ _ E hsc hr R M e1 fun v α₁ h₁ tk₁ t₁ M₁ r₁ => ?_)
      refine wpAny_bind (wpAny_holding (hi env A _ α₁ ρ μ₁ y μ₂ _ E hsc hr (R.stp0 M t₁) M₁ e2 fun u α₂ h₂ tk₂ t₂ M₂ r₂ => ?_))
      have r₁' := r₁.stp M₁ t₂
      obtain ⟨Ty, id, hT, hl⟩ := gItem_type M₂ (s := { s with heap := h₂, toks := tk₂ }) r₁' hg rfl
      refine wpAny_bind (wpAny_standAt (wpAny_bind (getitem_notPython hT hl ?_)))
      rw [hsl]
      refine wpAny_bind (wpAny_operate' ?_)
      refine ok_item A _ α₂ μ₂ v u x y z μ' _ E hr M₂ r₁' r₂ hg fun c α₃ h₃ tk₃ t₃ M₃ r₃ => ?_
      exact wpAny_bind (wpAny_letTemporaryGo (wpAny_pure (h c α₃ h₃ tk₃ ((t₁.trans t₂).trans t₃) M₃ r₃)))
end
end Mine
set_option maxHeartbeats 1000000
set_option maxRecDepth 100000
set_option Elab.async false
set_option linter.unusedVariables false
namespace Mine
open PySem PySem.Spec PySem.Calls PyProof.Rows

noncomputable def Glb (C : Cst) (x : Str) (v : Value) : Prop := C.mg x = some v ∨ (C.mg x = none ∧ C.mb x = some v)

section
variable {C : Cst} {k : Nat} {sc : Scope} {T : List (Str × Nat)}
variable {A : Around} {E : Value → Shared → Prop} {s : Shared}

theorem name_global {env : Env} {α : List Addr} {ρ : Rho} {μ : Mem} {x : Str} {pos : Pos} {v : Value} {Q : Value → Shared → Prop} (R : ER C T env s.heap α ρ) (M : MR C s.heap α μ)
    (hk : env.kindOf x = some .globalImplicit) (g : Glb C x v) (hd : (x == ("__debug__" : Str)) = false) (h : Q v s) : wpAny (model C.prog C.w) A (eval (.Name x pos) env) Q E s := by
  refine Name_function_global R.fn hk ?_ hd
  have n1 : s.heap.Ns env.globals C.mg := by rw [R.gl]; exact C.hg.keeps M.ext
  rcases g with g | ⟨g1, g2⟩
  · exact loadGlobal_global n1 g h
  · exact loadGlobal_builtin n1 g1 (by rw [R.bi]; exact C.hb.keeps M.ext) g2 h

noncomputable def FnOK (C : Cst) (k : Nat) (f : Value) (F : List RV → Mem → Option (RV × Mem)) : Prop :=
  ∀ (A : Around) (s : Shared) (α : List Addr) (μ : Mem) (vs : List Value) (xs : List RV) (x : RV) (μ' : Mem) (Q E : Value → Shared → Prop),
    Room k A → MR C s.heap α μ → VRs s.heap α vs xs → F xs μ = some (x, μ') → PostE C s α x μ' Q → wpAny (model C.prog C.w) A (call f vs) Q E s

noncomputable def callE (F : List RV → Mem → Option (RV × Mem)) (f : ArF) : ExF := fun ρ μ => match f ρ μ with
  | none => none
  | some (xs, μ₁) => F xs μ₁
theorem callE_some {F : List RV → Mem → Option (RV × Mem)} {f : ArF} {ρ : Rho} {μ μ' : Mem} {x : RV} (h : callE F f ρ μ = some (x, μ')) : ∃ xs μ₁, f ρ μ = some (xs, μ₁) ∧ F xs μ₁ = some (x, μ') := by
  unfold callE at h
  cases e : f ρ μ with
  | none => rw [e] at h; cases h
  | some p => obtain ⟨xs, μ₁⟩ := p; rw [e] at h; exact ⟨xs, μ₁, rfl, h⟩

/-- a call of a builtin function by its name -/
theorem den_callB {x : Str} {id : String} {np pos : Pos} {e : Expr} {es : List Expr} {f : ArF} {F : List RV → Mem → Option (RV × Mem)}
    (g : Glb C x (.builtin id)) (hk : sc.names.lookup x = some .globalImplicit) (hd : (x == ("__debug__" : Str)) = false) (ok : FnOK C k (.builtin id) F) (hf : DenAr C k sc T (e :: es) f) :
    DenE C k sc T (.Call (.Name x np) (e :: es) [] pos) (callE F f) := by
  intro env A s α ρ μ z μ' Q E hsc hr R M hg h
  obtain ⟨xs, μ₁, e1, e2⟩ := callE_some hg
  refine wpAny_Call_ofName (name_global R M (by unfold Env.kindOf; rw [hsc]; exact hk) g hd ?_)
  have he : backTo pos (starEach (e :: es) env) = (e :: es).map fun e => (false, eval e env) := by rw [hf.1, backTo_plain]
  rw [he]
  refine Calls.callWith_builtin (by simp) (Calls.evalArgs_plain ?_)
  refine hf.2 env A s α ρ μ xs μ₁ _ E hsc hr R M e1 fun vs α₁ h₁ tk₁ t₁ M₁ r₁ => ?_
  exact ok A _ α₁ μ₁ vs xs z μ' Q E hr M₁ r₁ e2 (PostE.step h t₁)
/-- a call of a built-in type by its name, one argument -/
theorem den_callT {x : Str} {Ty : String} {np pos : Pos} {e : Expr} {f : ArF} {F : List RV → Mem → Option (RV × Mem)}
    (g : Glb C x (.type Ty)) (hk : sc.names.lookup x = some .globalImplicit) (hd : (x == ("__debug__" : Str)) = false) (ok : FnOK C k (.type Ty) F) (hf : DenAr C k sc T [e] f) :
    DenE C k sc T (.Call (.Name x np) [e] [] pos) (callE F f) := by
  intro env A s α ρ μ z μ' Q E hsc hr R M hg h
  obtain ⟨xs, μ₁, e1, e2⟩ := callE_some hg
  refine wpAny_Call_ofName (name_global R M (by unfold Env.kindOf; rw [hsc]; exact hk) g hd ?_)
  have he : backTo pos (starEach [e] env) = [e].map fun e => (false, eval e env) := by rw [hf.1, backTo_plain]
  rw [he]
  refine PyProof.Rows.callWith_type (by simp) (Calls.evalArgs_plain ?_)
  refine hf.2 env A s α ρ μ xs μ₁ _ E hsc hr R M e1 fun vs α₁ h₁ tk₁ t₁ M₁ r₁ => ?_
  exact ok A _ α₁ μ₁ vs xs z μ' Q E hr M₁ r₁ e2 (PostE.step h t₁)
/-- a call of a def of the text -/
theorem den_callF {x : Str} {a : Addr} {o : Obj} {fd : FuncData} {np pos : Pos} {e : Expr} {es : List Expr} {f : ArF} {F : List RV → Mem → Option (RV × Mem)}
    (g : Glb C x (.ref a)) (ho : C.base.get? a = some o) (hdat : o.data = .func fd) (hk : sc.names.lookup x = some .globalImplicit) (hd : (x == ("__debug__" : Str)) = false) (ok : FnOK C k (.ref a) F) (hf : DenAr C k sc T (e :: es) f) :
    DenE C k sc T (.Call (.Name x np) (e :: es) [] pos) (callE F f) := by
  intro env A s α ρ μ z μ' Q E hsc hr R M hg h
  obtain ⟨xs, μ₁, e1, e2⟩ := callE_some hg
  refine wpAny_Call_ofName (name_global R M (by unfold Env.kindOf; rw [hsc]; exact hk) g hd ?_)
  have he : backTo pos (starEach (e :: es) env) = (e :: es).map fun e => (false, eval e env) := by rw [hf.1, backTo_plain]
  rw [he]
  refine callWith_function (o := o) (fd := fd) (Calls.evalArgs_plain ?_)
  refine hf.2 env A s α ρ μ xs μ₁ _ E hsc hr R M e1 fun vs α₁ h₁ tk₁ t₁ M₁ r₁ => ?_
  exact ⟨⟨M₁.ext a o ho, hdat⟩, ok A _ α₁ μ₁ vs xs z μ' Q E hr M₁ r₁ e2 (PostE.step h t₁)⟩

/-! len -/
noncomputable def fLen (xs : List RV) (μ : Mem) : Option (RV × Mem) := match xs with
  | [.r i] => match μ[i]? with
    | some (.lst ys) => if ys.length ≤ 1000 then some (.d (.int ys.length), μ) else none
    | _ => none
  | [.d (.tuple ds)] => if ds.length ≤ 1000 then some (.d (.int ds.length), μ) else none
  | _ => none
theorem ok_len : FnOK C k (.builtin "len") fLen := by
  intro A s α μ vs xs x μ' Q E hr M r hg h
  unfold fLen at hg
  split at hg
  · rename_i i
    split at hg
    · rename_i ys e1
      split at hg
      · rename_i hl
        cases hg
        cases r with
        | cons r1 r2 =>
          cases r2
          obtain ⟨a, rfl, _, vs, n, ha, ra⟩ := VR.obj M r1 e1
          have l1 := ra.len
          rw [Array.length_toList] at l1
          refine PyProof.Rows.len_list ⟨_, ha, rfl, _, rfl⟩ (by omega) ?_
          rw [l1]
          exact h.same M (Reads.int ..)
      · cases hg
    · cases hg
  · rename_i ds
    split at hg
    · rename_i hl
      cases hg
      cases r with
      | cons r1 r2 =>
        cases r2
        obtain ⟨a, dd, vs, n, sl, rfl, ha, ra⟩ := tup_obj r1
        have l1 := readsAll_len ra
        rw [Array.length_toList] at l1
        refine PyProof.Rows.len_tuple ⟨_, ha, rfl, _, rfl⟩ (by omega) ?_
        rw [l1]
        exact h.same M (Reads.int ..)
    · cases hg
  · cases hg

theorem Stp.keeps {S α : List Addr} {h h' : Heap} (kp : ∀ b o, h.get? b = some o → h'.get? b = some o) : Stp S α h α h' := ⟨⟨[], by simp⟩, fun _ m => .inl m, fun b o e _ _ => kp b o e⟩
theorem MR.keeps {h h' : Heap} {α : List Addr} {μ : Mem} (M : MR C h α μ) (kp : ∀ b o, h.get? b = some o → h'.get? b = some o) : MR C h' α μ :=
  M.keep (S := []) NoSeq.nil (fun _ m => nomatch m) (fun _ m => nomatch m) fun b o e _ => kp b o e
theorem PostE.keeps {α : List Addr} {μ : Mem} {x : RV} {Q : Value → Shared → Prop} (P : PostE C s α x μ Q) (M : MR C s.heap α μ) {v : Value} {h' : Heap} {tk : Nat} (kp : ∀ b o, s.heap.get? b = some o → h'.get? b = some o) (r : VR h' α v x) : Q v { s with heap := h', toks := tk } :=
  P v α h' tk (Stp.keeps kp) (M.keeps kp) r

/-! tuple of a list -/
noncomputable def fTuple (xs : List RV) (μ : Mem) : Option (RV × Mem) := match xs with
  | [.r i] => match μ[i]? with
    | some (.lst ys) => match flat ys with
      | none => none
      | some ds => if ds.length ≤ 1000 then some (.d (.tuple ds), μ) else none
    | _ => none
  | _ => none
theorem ok_tuple : FnOK C k (.type "tuple") fTuple := by
  intro A s α μ vs xs x μ' Q E hr M r hg h
  unfold fTuple at hg
  split at hg
  · rename_i i
    split at hg
    · rename_i ys e1
      split at hg
      · cases hg
      · rename_i ds e2
        split at hg
        · rename_i hl
          cases hg
          cases r with
          | cons r1 r2 =>
            cases r2
            obtain ⟨a, rfl, _, vs, n, ha, ra⟩ := VR.obj M r1 e1
            have rr := flat_reads ra e2
            have l1 := readsAll_len rr
            rw [Array.length_toList] at l1
            refine call_tuple_list ⟨_, ha, rfl, _, rfl⟩ (fun h' kp => ?_) (by have := sizeLine_ge; omega)
            refine h.keeps M (fun b o e => Heap.get?_push_of_some _ (kp b o e)) ?_
            exact reads_tuple_at (Heap.get?_push_size _ rfl) rfl rfl (ReadsAll.keeps (fun b o e => Heap.get?_push_of_some _ (kp b o e)) rr)
        · cases hg
    · cases hg
  · cases hg

/-! min and max of two ints -/
noncomputable def fMin (xs : List RV) (μ : Mem) : Option (RV × Mem) := match xs with
  | [.d (.int a), .d (.int b)] => some (.d (.int (if b < a then b else a)), μ)
  | _ => none
theorem ok_min : FnOK C k (.builtin "min") fMin := by
  intro A s α μ vs xs x μ' Q E hr M r hg h
  unfold fMin at hg
  split at hg
  · rename_i a b
    cases hg
    cases r with
    | cons r1 r2 =>
      cases r2 with
      | cons r2 r3 =>
        cases r3
        obtain ⟨t, rfl⟩ := reads_int r1
        obtain ⟨u, rfl⟩ := reads_int r2
        refine min_two_ints hr.hd fun h' tk kp => h.keeps M kp ?_
        by_cases c : b < a
        · rw [if_pos c, if_pos c]; exact Reads.int ..
        · rw [if_neg c, if_neg c]; exact Reads.int ..
  · cases hg

noncomputable def maxL : Int → List Int → Int
  | m, [] => m
  | m, x :: xs => maxL (if x > m then x else m) xs
noncomputable def fMax (xs : List RV) (μ : Mem) : Option (RV × Mem) := match xs with
  | [.d (.tuple ds)] => match intsOf ds with
    | some (a :: r) => some (.d (.int (maxL a r)), μ)
    | _ => none
  | _ => none
theorem ints_items {vs : List Value} {ns : List Int} (r : IntsAre vs ns) : ∃ xs : Array (Int × Tok), vs.toArray = intItems xs ∧ xs.toList.map (·.1) = ns := by
  induction r with
  | nil => exact ⟨#[], by simp [intItems], by simp⟩
  | @cons n t vs ns _ ih =>
    obtain ⟨xs, e1, e2⟩ := ih
    refine ⟨((n, t) :: xs.toList).toArray, ?_, by simp [e2]⟩
    apply Array.toList_inj.mp
    have := congrArg Array.toList e1
    simp only [intItems, Array.toList_map] at this
    simp [intItems, this]
theorem maxL_best (f : Nat → Int) : ∀ (n : Nat), maxL (f 0) ((List.range n).map fun i => f (i + 1)) = f (argBest (fun i j => decide (f i > f j)) n)
  | 0 => rfl
  | n + 1 => by
    have snoc : ∀ (l : List Int) (m x : Int), maxL m (l ++ [x]) = (if x > maxL m l then x else maxL m l) := by
      intro l
      induction l with
      | nil => intro m x; rfl
      | cons y l ih => intro m x; exact ih _ x
    rw [List.range_succ, List.map_append, List.map_cons, List.map_nil, snoc, maxL_best f n]
    show _ = f (if decide (f (n + 1) > f (argBest (fun i j => decide (f i > f j)) n)) = true then n + 1 else argBest (fun i j => decide (f i > f j)) n)
    by_cases c : f (n + 1) > f (argBest (fun i j => decide (f i > f j)) n)
    · rw [if_pos c, if_pos (by simpa using c)]
    · rw [if_neg c, if_neg (by simpa using c)]
theorem ok_max : FnOK C k (.builtin "max") fMax := by
  intro A s α μ vs xs x μ' Q E hr M r hg h
  unfold fMax at hg
  split at hg
  · rename_i ds
    split at hg
    · rename_i a rr e1
      cases hg
      cases r with
      | cons r1 r2 =>
        cases r2
        obtain ⟨b, dd, vs, n, sl, rfl, hb, rb⟩ := tup_obj r1
        obtain ⟨xs, e2, e3⟩ := ints_items (intsOf_are e1 rb)
        have e2 : vs = intItems xs := by simpa using e2
        subst e2
        have hT : s.heap.IsTuple b (intItems xs) := ⟨_, hb, rfl, _, rfl⟩
        have hlt : b < s.heap.objs.size := Heap.lt_size hb
        have hn : 0 < xs.size := by
          have := congrArg List.length e3
          simp at this
          omega
        refine call_max_walk (wpAny_pyIter_tuple hT ?_)
        refine ⟨_, [_, b], [_], _, _, _, _, rfl, Walks.tuple (A := A.in1) hr.hd _ b (Nat.ne_of_lt hlt) (intItems xs), ⟨⟨_, Heap.get?_push_size _ rfl, rfl, rfl⟩, ?_⟩, fun c hc => ?_, by simpa [intItems] using hn,
          CmpOf.ints_gt (numAt xs) (fun _ _ => intItems_at), fun v h' tk hP hk => ?_⟩
        · exact ⟨_, Heap.get?_push_of_some _ hb, rfl, _, rfl⟩
        · show c < (s.heap.push _).objs.size
          rw [Heap.size_push]
          rcases List.mem_cons.mp hc with rfl | hc
          · exact Nat.lt_succ_self _
          · rw [List.mem_singleton.mp hc]; exact Nat.lt_succ_of_lt hlt
        · refine h.keeps M (fun c o e => hk c o (fun hm => ?_) (Heap.get?_push_of_some _ e)) ?_
          · have := Heap.lt_size e
            rw [List.mem_singleton.mp hm] at this; exact Nat.lt_irrefl _ this
          · obtain ⟨t, rfl⟩ := intItems_at hP
            have hm := maxL_best (numAt xs) (xs.size - 1)
            have hl : xs.toList.map (·.1) = numAt xs 0 :: (List.range (xs.size - 1)).map fun i => numAt xs (i + 1) := by
              apply List.ext_getElem?
              intro i
              cases i with
              | zero =>
                rw [List.getElem?_map, Array.getElem?_toList, List.getElem?_cons_zero, Array.getElem?_eq_getElem hn]
                simp [numAt, hn]
              | succ i =>
                rw [List.getElem?_map, Array.getElem?_toList, List.getElem?_cons_succ, List.getElem?_map]
                by_cases hi : i + 1 < xs.size
                · rw [Array.getElem?_eq_getElem hi, List.getElem?_range (by omega)]
                  simp [numAt, hi]
                · rw [Array.getElem?_eq_none (by omega), List.getElem?_eq_none (by simp; omega)]
                  rfl
            rw [e3] at hl
            injection hl with h1 h2
            subst h1 h2
            have hsz : (intItems xs).size - 1 = xs.size - 1 := by simp [intItems]
            rw [hsz, ← hm]
            exact Reads.int ..
    · cases hg
  · cases hg

/-! isinstance of an int against tuple -/
noncomputable def isiE (f : ExF) : ExF := fun ρ μ => match f ρ μ with
  | some (.d (.int _), μ₁) => some (.d (.bool false), μ₁)
  | _ => none
end
end Mine
set_option maxHeartbeats 1000000
set_option maxRecDepth 100000
set_option Elab.async false
set_option linter.unusedVariables false
namespace Mine
open PySem PySem.Spec PySem.Calls PyProof.Rows

section
variable {C : Cst} {k : Nat} {sc : Scope} {T : List (Str × Nat)}
variable {A : Around} {E : Value → Shared → Prop} {s : Shared}

theorem den_isi {x tn : Str} {np tp pos : Pos} {e : Expr} {f : ExF} (g : Glb C x (.builtin "isinstance")) (hk : sc.names.lookup x = some .globalImplicit) (hd : (x == ("__debug__" : Str)) = false)
    (gt : Glb C tn (.type "tuple")) (hkt : sc.names.lookup tn = some .globalImplicit) (hdt : (tn == ("__debug__" : Str)) = false) (hf : DenE C k sc T e f) (hs : ∀ env, starEach [e, .Name tn tp] env = [(false, eval e env), (false, eval (.Name tn tp) env)]) :
    DenE C k sc T (.Call (.Name x np) [e, .Name tn tp] [] pos) (isiE f) := by
  intro env A s α ρ μ z μ' Q E hsc hr R M hg h
  unfold isiE at hg
  split at hg
  · rename_i i μ₁ e1
    cases hg
    refine wpAny_Call_ofName (name_global R M (by unfold Env.kindOf; rw [hsc]; exact hk) g hd ?_)
    rw [hs]
    refine Calls.callWith_builtin (by simp [backTo]) (Calls.evalArgs_plain (Calls.spliced_cons ?_))
    refine hf env A s α ρ μ _ _ _ E hsc hr R M e1 fun v α₁ h₁ tk₁ t₁ M₁ r₁ => ?_
    have R₁ := R.stp0 M t₁
    refine Calls.spliced_cons (name_global (s := { s with heap := h₁, toks := tk₁ }) R₁ M₁ (by unfold Env.kindOf; rw [hsc]; exact hkt) gt hdt (Calls.spliced_nil ?_))
    obtain ⟨t, rfl⟩ := reads_int r₁
    exact IsiPair.int_tuple (h _ α₁ h₁ _ t₁ M₁ (Reads.bool _))
  · cases hg

/-! methods -/
noncomputable def PureA (f : ArF) : Prop := ∀ ρ μ xs μ', f ρ μ = some (xs, μ') → μ' = μ
noncomputable def PureE (f : ExF) : Prop := ∀ ρ μ xs μ', f ρ μ = some (xs, μ') → μ' = μ
theorem pureA_nil : PureA nilA := fun ρ μ xs μ' h => by cases h; rfl
theorem pureA_cons {f : ExF} {g : ArF} (a : PureE f) (b : PureA g) : PureA (consA f g) := fun ρ μ xs μ' h => by
  unfold consA at h
  cases e1 : f ρ μ with
  | none => rw [e1] at h; cases h
  | some p =>
    obtain ⟨x, μ₁⟩ := p
    rw [e1] at h
    dsimp only at h
    cases e2 : g ρ μ₁ with
    | none => rw [e2] at h; cases h
    | some q =>
      obtain ⟨xs, μ₂⟩ := q
      rw [e2] at h
      cases h
      rw [b _ _ _ _ e2, a _ _ _ _ e1]
theorem pureE_name {i : Nat} : PureE (nameE i) := fun ρ μ xs μ' h => by
  unfold nameE at h
  cases e : look ρ i with
  | none => rw [e] at h; cases h
  | some x => rw [e] at h; cases h; rfl
theorem pureE_lit {x : PyData} : PureE (litE x) := fun ρ μ xs μ' h => by cases h; rfl
theorem pureE_tuple {f : ArF} (a : PureA f) : PureE (tupleE f) := fun ρ μ xs μ' h => by
  unfold tupleE at h
  cases e : f ρ μ with
  | none => rw [e] at h; cases h
  | some p =>
    obtain ⟨ys, μ₁⟩ := p
    rw [e] at h
    dsimp only at h
    split at h
    · cases h
    · split at h
      · cases h; exact a _ _ _ _ e
      · cases h
noncomputable def methE (F : List RV → Mem → Option (RV × Mem)) (fo : ExF) (f : ArF) : ExF := fun ρ μ => match fo ρ μ with
  | none => none
  | some (x, μ₁) => callE (fun xs μ₂ => F (x :: xs) μ₂) f ρ μ₁
theorem den_meth {o : Expr} {name : Str} {apos pos : Pos} {e : Expr} {es : List Expr} {id : String} {fo : ExF} {f : ArF} {F : List RV → Mem → Option (RV × Mem)}
    (ok : FnOK C k (.builtin id) F) (ho : DenE C k sc T o fo) (hf : DenAr C k sc T (e :: es) f) (hbase : ∀ env, attributeBase o name env (eval o env) = eval o env) (hline : (apos.endLine == pos.line) = true) (hlen : es.length < 20)
    (hm : ∀ (s : Shared) (α : List Addr) (μ : Mem) (v : Value) (x : RV) (xs : List RV) (p : RV × Mem), MR C s.heap α μ → VR s.heap α v x → F (x :: xs) μ = some p → ∃ Ty, PlainAttrs Ty ∧ Slot Ty name id ∧ typeOf (.builtin id) = pure (.type "method_descriptor") ∧ s.TypeIs v Ty ∧ (∀ a, v = .ref a → ∃ ob, s.heap.get? a = some ob ∧ ob.dict = none))
    (hp : PureA f) :
    DenE C k sc T (.Call (.Attribute o name apos) (e :: es) [] pos) (methE F fo f) := by
  intro env A s α ρ μ z μ' Q E hsc hr R M hg h
  unfold methE at hg
  cases e0 : fo ρ μ with
  | none => rw [e0] at hg; cases hg
  | some p =>
    obtain ⟨x, μ₁⟩ := p
    rw [e0] at hg
    dsimp only at hg
    obtain ⟨xs, μ₂, e1, e2⟩ := callE_some hg
    have hsame := hp ρ μ₁ xs μ₂ e1
    subst hsame
    have he : backTo pos (starEach (e :: es) env) = (e :: es).map fun e => (false, eval e env) := by rw [hf.1, backTo_plain]
    refine wpAny_Call_method_late (trees := (e :: es).map fun e => (false, eval e env)) (hbase env) ?_ hline he ?_
    · rw [he]
      simp only [List.all_map, Function.comp_def, Bool.not_false, List.all_eq_true, Bool.and_eq_true]
      refine ⟨⟨by simp, fun x hx => nomatch (show x ∈ ([] : List (Option Str × Sem Value)) from hx)⟩, ?_⟩
      simp only [decide_eq_true_eq, List.length_cons, List.length_nil, List.isEmpty_nil, if_true]
      omega
    · refine ho env A s α ρ μ x _ _ E hsc hr R M e0 fun v α₁ h₁ tk₁ t₁ M₁ r₁ => ?_
      obtain ⟨Ty, pa, sl, ty, hT, hd⟩ := hm { s with heap := h₁, toks := tk₁ } α₁ _ v x xs _ M₁ r₁ e2
      refine ⟨Ty, id, pa, sl, ty, hT, hd, ?_⟩
      refine Calls.callWith_builtin (by simp) (Calls.evalArgs_plain ?_)
      refine hf.2 env A _ α₁ ρ _ xs _ _ E hsc hr (R.stp0 M t₁) M₁ e1 fun vs α₂ h₂ tk₂ t₂ M₂ r₂ => ?_
      exact ok A _ α₂ _ (v :: vs) (x :: xs) z μ' Q E hr M₂ (.cons (r₁.stp M₁ t₂) r₂) e2 (PostE.step (PostE.step h t₁) t₂)

theorem list_self {s : Shared} {α : List Addr} {μ : Mem} {v : Value} {i : Nat} {xs : List RV} (M : MR C s.heap α μ) (r : VR s.heap α v (.r i)) (e : μ[i]? = some (.lst xs)) : s.TypeIs v "list" ∧ (∀ a, v = .ref a → ∃ ob, s.heap.get? a = some ob ∧ ob.dict = none) := by
  obtain ⟨a, rfl, _, vs, n, ha, _⟩ := VR.obj M r e
  exact ⟨⟨_, ha, rfl⟩, fun b q => by cases q; exact ⟨_, ha, rfl⟩⟩

noncomputable def idxD (ds : List PyData) (d : PyData) : Option Nat := match ds with
  | [] => none
  | x :: r => if x.eqv d then some 0 else match idxD r d with
    | none => none
    | some n => some (n + 1)
theorem idxD_some : ∀ {ds : List PyData} {d : PyData} {j : Nat}, idxD ds d = some j → ∃ x, ds[j]? = some x ∧ x.eqv d = true ∧ ∀ i y, i < j → ds[i]? = some y → y.eqv d = false
  | [], _, _, h => nomatch h
  | x :: r, d, j, h => by
    unfold idxD at h
    split at h
    · rename_i hx
      cases h
      exact ⟨x, rfl, hx, fun i y hi => absurd hi (Nat.not_lt_zero _)⟩
    · rename_i hx
      cases q : idxD r d with
      | none => rw [q] at h; cases h
      | some n =>
        rw [q] at h
        cases h
        obtain ⟨y, e1, e2, e3⟩ := idxD_some q
        refine ⟨y, e1, e2, fun i z hi hz => ?_⟩
        cases i with
        | zero => cases hz; exact Bool.eq_false_iff.mpr hx
        | succ i => exact e3 i z (Nat.lt_of_succ_lt_succ hi) hz
noncomputable def fIndex (xs : List RV) (μ : Mem) : Option (RV × Mem) := match xs with
  | [.r i, .d d] => match μ[i]? with
    | some (.lst ys) => match flat ys with
      | none => none
      | some ds => if (SeqAt.shaped d && PyData.canLayAll0 ds && decide (ds.length ≤ 1000)) = true then match idxD ds d with
        | none => none
        | some n => some (.d (.int n), μ) else none
    | _ => none
  | _ => none
theorem fIndex_list {x : RV} {xs : List RV} {μ : Mem} {p : RV × Mem} (h : fIndex (x :: xs) μ = some p) : ∃ i ys, x = .r i ∧ μ[i]? = some (.lst ys) := by
  unfold fIndex at h
  split at h
  · rename_i i d e
    cases e
    split at h
    · rename_i ys e1; exact ⟨i, ys, rfl, e1⟩
    · cases h
  · cases h
theorem ok_index : FnOK C k (.builtin "list.index") fIndex := by
  intro A s α μ vs xs x μ' Q E hr M r hg h
  unfold fIndex at hg
  split at hg
  · rename_i i d
    split at hg
    · rename_i ys e1
      split at hg
      · cases hg
      · rename_i ds e2
        split at hg
        · rename_i hc
          split at hg
          · cases hg
          · rename_i j e3
            cases hg
            simp only [Bool.and_eq_true, decide_eq_true_eq] at hc
            obtain ⟨⟨s1, s2⟩, hl⟩ := hc
            cases r with
            | cons r1 r2 =>
              cases r2 with
              | @cons u y us yys r2 r3 =>
                cases r3
                obtain ⟨a, rfl, _, vs, n, ha, ra⟩ := VR.obj M r1 e1
                have rr := flat_reads ra e2
                have l1 := readsAll_len rr
                rw [Array.length_toList] at l1
                obtain ⟨x0, hx0, hx1, hx2⟩ := idxD_some e3
                have hj : j < ds.length := (List.getElem?_eq_some_iff.mp hx0).1
                have dd := SeqAt.depth_of_shaped s1
                have eqs := SeqAt.items_eqAt (A := A) rr r2 s2 (SeqAt.canLay_of_shaped s1) (by have := hr.un; have := Nat.min_le_right (PyData.depthAll ds) d.depth; omega)
                have hm := SeqAt.readsAll_map ds _ _ s2 rr
                have at' : ∀ m (hm' : m < vs.size), ds[m]? = some (SeqAt.readOf s.heap vs[m]) := fun m hm' => by
                  rw [← hm, List.getElem?_map, Array.getElem?_toList, Array.getElem?_eq_getElem hm']; rfl
                refine call_meets F.slot_list_index ⟨_, ha, rfl⟩ F.entry_list_index (F.args_list_index_2 _ _) (SeqAt.list_indexAt a vs n none #[] u (fun y => PyData.eqv (SeqAt.readOf s.heap y) d) j (by omega) (by omega) ?_ ?_) ⟨ha, eqs, h.same M (Reads.int ..)⟩
                · have := at' j (by omega)
                  rw [hx0] at this
                  cases this
                  exact hx1
                · intro m hm' hmj
                  exact hx2 m _ hmj (at' m hm')
        · cases hg
    · cases hg
  · cases hg

theorem isL_upd {h : Heap} {l : Addr} {items : Array Value} {n : Nat} (x : h.get? l = some (lob items n)) (f : Array Value → Array Value) : ∃ m, (h.update l (Obj.mapSeq f)).get? l = some (lob (f items) m) := ⟨_, IsL.update x f⟩
/-- a list of ours is written anew -/
theorem put_list {α : List Addr} {μ : Mem} {i : Nat} {a : Addr} {items : Array Value} {n : Nat} {f : Array Value → Array Value} {ys : List RV} {x : RV} {Q : Value → Shared → Prop} (P : PostE C s α x (μ.set i (.lst ys)) Q) (M : MR C s.heap α μ) (hi : α[i]? = some a)
    (ha : s.heap.get? a = some (lob items n)) (r : VRs s.heap α (f items).toList ys) {v : Value} {tk : Nat} (rv : VR s.heap α v x) : Q v { s with heap := s.heap.update a (Obj.mapSeq f), toks := tk } := by
  obtain ⟨m, hm⟩ := isL_upd ha f
  have hs := Heap.SameBut.update s.heap a (Obj.mapSeq f)
  have k : TupKeep s.heap (s.heap.update a (Obj.mapSeq f)) := fun b o vs n e c d => (hs.2 b fun q => by subst q; exact M.notTuple (List.mem_of_getElem? hi) e c).trans e
  exact P v α _ tk (Stp.put (List.mem_of_getElem? hi) hs) (M.put hi hs ⟨_, _, hm, r.up k fun _ _ e => e⟩) (rv.up k fun _ _ e => e)

noncomputable def fAppend (xs : List RV) (μ : Mem) : Option (RV × Mem) := match xs with
  | [.r i, v] => match μ[i]? with
    | some (.lst ys) => if ys.length ≤ 1000 then some (.d .none, μ.set i (.lst (ys ++ [v]))) else none
    | _ => none
  | _ => none
theorem fAppend_list {x : RV} {xs : List RV} {μ : Mem} {p : RV × Mem} (h : fAppend (x :: xs) μ = some p) : ∃ i ys, x = .r i ∧ μ[i]? = some (.lst ys) := by
  unfold fAppend at h
  split at h
  · rename_i i d e
    cases e
    split at h
    · rename_i ys e1; exact ⟨i, ys, rfl, e1⟩
    · cases h
  · cases h
theorem ok_append : FnOK C k (.builtin "list.append") fAppend := by
  intro A s α μ vs xs x μ' Q E hr M r hg h
  unfold fAppend at hg
  split at hg
  · rename_i i w
    split at hg
    · rename_i ys e1
      split at hg
      · rename_i hl
        cases hg
        cases r with
        | cons r1 r2 =>
          cases r2 with
          | cons r2 r3 =>
            cases r3
            obtain ⟨a, rfl, hi, vs, n, ha, ra⟩ := VR.obj M r1 e1
            have l1 := ra.len
            rw [Array.length_toList] at l1
            refine call_meets F.slot_list_append ⟨_, ha, rfl⟩ F.entry_list_append (F.args_list_append_2 _ _) (list_append a vs n _ (by have := sizeLine_ge; omega)) ⟨ha, ?_⟩
            exact put_list h M hi ha (by simpa using ra.append (.cons r2 .nil)) Reads.none
      · cases hg
    · cases hg
  · cases hg

noncomputable def fInsert (xs : List RV) (μ : Mem) : Option (RV × Mem) := match xs with
  | [.r i, .d (.int j), v] => match μ[i]? with
    | some (.lst ys) => if 0 ≤ j ∧ j ≤ ys.length ∧ ys.length ≤ 1000 then some (.d .none, μ.set i (.lst (ys.take j.toNat ++ v :: ys.drop j.toNat))) else none
    | _ => none
  | _ => none
theorem fInsert_list {x : RV} {xs : List RV} {μ : Mem} {p : RV × Mem} (h : fInsert (x :: xs) μ = some p) : ∃ i ys, x = .r i ∧ μ[i]? = some (.lst ys) := by
  unfold fInsert at h
  split at h
  · rename_i i j d e
    cases e
    split at h
    · rename_i ys e1; exact ⟨i, ys, rfl, e1⟩
    · cases h
  · cases h
theorem VRs.take {h : Heap} {α : List Addr} {vs : List Value} {xs : List RV} (r : VRs h α vs xs) : ∀ n, VRs h α (vs.take n) (xs.take n) := by
  induction r with
  | nil => intro n; simp; exact .nil
  | cons a _ ih => intro n; cases n with
    | zero => exact .nil
    | succ n => exact .cons a (ih n)
theorem VRs.drop {h : Heap} {α : List Addr} {vs : List Value} {xs : List RV} (r : VRs h α vs xs) : ∀ n, VRs h α (vs.drop n) (xs.drop n) := by
  induction r with
  | nil => intro n; simp; exact .nil
  | cons a r ih => intro n; cases n with
    | zero => exact .cons a r
    | succ n => exact ih n
theorem ok_insert : FnOK C k (.builtin "list.insert") fInsert := by
  intro A s α μ vs xs x μ' Q E hr M r hg h
  unfold fInsert at hg
  split at hg
  · rename_i i j w
    split at hg
    · rename_i ys e1
      split at hg
      · rename_i hl
        cases hg
        cases r with
        | cons r1 r2 =>
          cases r2 with
          | cons r2 r3 =>
            cases r3 with
            | @cons wv _ _ _ r3 r4 =>
              cases r4
              obtain ⟨t, rfl⟩ := reads_int r2
              obtain ⟨a, rfl, hi, vs, n, ha, ra⟩ := VR.obj M r1 e1
              have l1 := ra.len
              rw [Array.length_toList] at l1
              obtain ⟨h0, h1, h2⟩ := hl
              have hfit : ¬(!Builtin.List.listFitsIndex j) = true := by
                have : Builtin.List.listFitsIndex j = true := by
                  unfold Builtin.List.listFitsIndex
                  simp
                  omega
                rw [this]; decide
              refine call_meets F.slot_list_insert ⟨_, ha, rfl⟩ F.entry_list_insert (F.args_list_insert_3 _ _ _) (AutoListH.list_insert_list_int_val_1 a vs n j t _ hfit (by have := sizeLine_ge; omega)) ⟨ha, ?_⟩
              refine put_list h M hi ha ?_ Reads.none
              have hk : (if j < 0 then (j + (vs.size : Int)).toNat else min j.toNat vs.size) = j.toNat := by
                rw [if_neg (by omega)]
                omega
              show VRs s.heap α ((vs.extract 0 (if j < 0 then (j + (vs.size : Int)).toNat else min j.toNat vs.size)).push wv ++ vs.extract (if j < 0 then (j + (vs.size : Int)).toNat else min j.toNat vs.size)).toList _
              rw [hk]
              have e : ((vs.extract 0 j.toNat).push wv ++ vs.extract j.toNat).toList = vs.toList.take j.toNat ++ wv :: vs.toList.drop j.toNat := by
                simp [Array.toList_extract, List.extract_eq_take_drop]
                exact List.take_of_length_le (by simp)
              rw [e]
              exact (ra.take _).append (.cons r3 (ra.drop _))
      · cases hg
    · cases hg
  · cases hg

noncomputable def fGet (xs : List RV) (μ : Mem) : Option (RV × Mem) := match xs with
  | [.r i, .d (.tuple ds), w] => match μ[i]? with
    | some (.dct kvs) => match atomsOf ds with
      | none => none
      | some ks => match kget kvs ks with
        | none => some (w, μ)
        | some v => some (v, μ)
    | _ => none
  | _ => none
theorem fGet_dict {x : RV} {xs : List RV} {μ : Mem} {p : RV × Mem} (h : fGet (x :: xs) μ = some p) : ∃ i ys, x = .r i ∧ μ[i]? = some (.dct ys) := by
  unfold fGet at h
  split at h
  · rename_i i j d e
    cases e
    split at h
    · rename_i ys e1; exact ⟨i, ys, rfl, e1⟩
    · cases h
  · cases h
theorem dict_self {s : Shared} {α : List Addr} {μ : Mem} {v : Value} {i : Nat} {xs : List (List Atom × RV)} (M : MR C s.heap α μ) (r : VR s.heap α v (.r i)) (e : μ[i]? = some (.dct xs)) : s.TypeIs v "dict" ∧ (∀ a, v = .ref a → ∃ ob, s.heap.get? a = some ob ∧ ob.dict = none) := by
  obtain ⟨a, rfl, _, xs, hd, _⟩ := VR.obj M r e
  exact ⟨hd.of.typeIs, fun b q => by cases q; obtain ⟨o, _, ho, hc, _⟩ := hd; exact ⟨o, ho, hc.2.1⟩⟩
theorem ok_get (hb : True) : FnOK C k (.builtin "dict.get") fGet := by
  intro A s α μ vs xs x μ' Q E hr M r hg h
  unfold fGet at hg
  split at hg
  · rename_i i ds w
    split at hg
    · rename_i kvs e1
      split at hg
      · cases hg
      · rename_i ks e2
        cases r with
        | cons r1 r2 =>
          cases r2 with
          | cons r2 r3 =>
            cases r3 with
            | cons r3 r4 =>
              cases r4
              obtain ⟨a, rfl, ha, xs, hd, kv⟩ := VR.obj M r1 e1
              obtain ⟨b, rfl, hk⟩ := key_of (C := C) r2 e2
              refine call_meetsIn F.slot_dict_get hd.of.typeIs F.entry_dict_get (F.args_dict_get_3 _ _ _) (meetsH_dict_get_default (tupleKind (mixKind C.prog C.w)) a b (not_modules M hb (List.mem_of_getElem? ha)) _) ⟨?_, ks, xs, hk, hd.of, ?_⟩
              · show A.units + 1 < cLine
                have := hr.un; omega
              · have o := kget_at kv ks
                cases q : kget kvs ks with
                | none =>
                  rw [q] at hg o
                  cases hg
                  cases q2 : (atKey xs ks).map (·.2) with
                  | none => exact h.same M r3
                  | some v => rw [q2] at o; exact o.elim
                | some y =>
                  rw [q] at hg o
                  cases hg
                  obtain ⟨v, ev, rv⟩ := o.some
                  rw [ev]
                  exact h.same M rv
    · cases hg
  · cases hg
end
end Mine
set_option maxHeartbeats 1000000
set_option maxRecDepth 100000
set_option Elab.async false
set_option linter.unusedVariables false
namespace Mine
open PySem PySem.Spec PySem.Calls PyProof.Rows

noncomputable abbrev PostS (C : Cst) (T : List (Str × Nat)) (env : Env) (s : Shared) (α : List Addr) (x : Fl) (ρ' : Rho) (μ' : Mem) (Q : Flow → Shared → Prop) : Prop :=
  ∀ fl α' h' tk', Stp (own env) α s.heap α' h' → MR C h' α' μ' → ER C T env h' α' ρ' → FR h' α' fl x → Q fl { s with heap := h', toks := tk' }

section
variable {C : Cst} {k : Nat} {sc : Scope} {T : List (Str × Nat)}
variable {A : Around} {E : Value → Shared → Prop} {s : Shared}

/-- an expression's step, seen by the frame -/
theorem Stp.own {env : Env} {α α' : List Addr} {h h' : Heap} {ρ : Rho} (R : ER C T env h α ρ) (t : Stp [] α h α' h') : Stp (own env) α h α' h' := t.more (fun _ m => nomatch m) fun a m => .inr (R.alive a m)
theorem PostS.step {env : Env} {α : List Addr} {x : Fl} {ρ' : Rho} {μ' : Mem} {Q : Flow → Shared → Prop} {α₁ : List Addr} {h₁ : Heap} {tk₁ : Nat} (P : PostS C T env s α x ρ' μ' Q) (t : Stp (Mine.own env) α s.heap α₁ h₁) :
    PostS C T env { s with heap := h₁, toks := tk₁ } α₁ x ρ' μ' Q := fun fl α' h' tk' u M R f => P fl α' h' tk' (t.trans u) M R f

noncomputable def retS (f : ExF) : StF := fun ρ μ => match f ρ μ with
  | none => none
  | some (x, μ₁) => some (.rt x, ρ, μ₁)
theorem denS_ret {e : Expr} {pos : Pos} {f : ExF} (hf : DenE C k sc T e f) : DenS C k sc T (.Return (some e) pos) (retS f) := by
  intro env A s α ρ μ x ρ' μ' Q E hsc hr R M hg h
  unfold retS at hg
  cases e1 : f ρ μ with
  | none => rw [e1] at hg; cases hg
  | some p =>
    obtain ⟨y, μ₁⟩ := p
    rw [e1] at hg
    cases hg
    exact wpAny_Return_some (hf env A s α ρ μ y _ _ E hsc hr R M e1 fun v α₁ h₁ tk₁ t₁ M₁ r₁ => h (.ret v) α₁ h₁ tk₁ (Stp.own R t₁) M₁ (R.stp0 M t₁) r₁)

noncomputable def exprS (f : ExF) : StF := fun ρ μ => match f ρ μ with
  | none => none
  | some (_, μ₁) => some (.nx, ρ, μ₁)
theorem denS_expr {e : Expr} {pos : Pos} {f : ExF} (hf : DenE C k sc T e f) (hi : ∀ env : Env, env.scope = sc → interactive env = false) (hs : ∀ env, swapsWith e none pos.line env = pure false) : DenS C k sc T (.Expr e pos) (exprS f) := by
  intro env A s α ρ μ x ρ' μ' Q E hsc hr R M hg h
  unfold exprS at hg
  cases e1 : f ρ μ with
  | none => rw [e1] at hg; cases hg
  | some p =>
    obtain ⟨y, μ₁⟩ := p
    rw [e1] at hg
    cases hg
    exact wpAny_Expr_any (hf env A s α ρ μ y _ _ E hsc hr R M e1 fun v α₁ h₁ tk₁ t₁ M₁ r₁ => h .next α₁ h₁ tk₁ (Stp.own R t₁) M₁ (R.stp0 M t₁) trivial) (hi env hsc) (hs env)

noncomputable def setS (i : Nat) (f : ExF) : StF := fun ρ μ => match f ρ μ with
  | none => none
  | some (x, μ₁) => some (.nx, upd ρ i x, μ₁)
theorem denS_set {x : Str} {e : Expr} {np pos : Pos} {i : Nat} {f : ExF} (hf : DenE C k sc T e f) (hx : (x, i) ∈ T) (hn1 : (T.map (·.1)).Nodup) (hn2 : (T.map (·.2)).Nodup) (hnf : sc.names.lookup x ≠ some .free)
    (hs : ∀ env : Env, env.scope = sc → swapsWith e (some (.Name x np)) pos.line env = pure false) : DenS C k sc T (.Assign [.Name x np] e pos) (setS i f) := by
  intro env A s α ρ μ y ρ' μ' Q E hsc hr R M hg h
  unfold setS at hg
  cases e1 : f ρ μ with
  | none => rw [e1] at hg; cases hg
  | some p =>
    obtain ⟨z, μ₁⟩ := p
    rw [e1] at hg
    cases hg
    refine wpAny_Assign_Name (hf env A s α ρ μ z _ _ E hsc hr R M e1 fun v α₁ h₁ tk₁ t₁ M₁ r₁ => ?_) (hs env hsc)
    have R₁ := R.stp0 M t₁
    refine store_slot (s := { s with heap := h₁, toks := tk₁ }) hn1 hn2 (by unfold Env.kindOf; rw [hsc]; exact hnf) R₁ M₁ hx r₁ fun h' tk' t₂ M₂ R₂ => ?_
    exact h .next α₁ h' tk' ((Stp.own R t₁).trans t₂) M₂ R₂ trivial

theorem unpack2 {prog : Program} {w : World} {t : Addr} {v u : Value} {Q : List Value → Shared → Prop} (hh : A.handled = none) (ht : s.heap.IsTuple t [v, u].toArray)
    (hQ : ∀ h', Heap.ExtBut s.heap.objs.size s.heap h' → Q [v, u] { s with heap := h' }) : wpAny (model prog w) A (unpackItems (.ref t) 2 none) Q E s := by
  have := wpAny_unpackItems_tuple (E := E) (prog := prog) (w := w) (Q := Q) hh ht hQ
  exact this
theorem assign2 {prog : Program} {w : World} {env : Env} {x y : Str} {v u : Value} {Q : Unit → Shared → Prop} (h : wpAny (model prog w) A (assignInOrder [bindName env y, bindName env x] [u, v]) Q E s) :
    wpAny (model prog w) A (assignInOrder (([x, y] : List Str).reverse.map fun n => bindName env n) [v, u].reverse) Q E s := h
/-- x, y = e1, e2 -/
noncomputable def set2S (i j : Nat) (f g : ExF) : StF := fun ρ μ => match f ρ μ with
  | none => none
  | some (x, μ₁) => match g ρ μ₁ with
    | none => none
    | some (y, μ₂) => some (.nx, upd (upd ρ j y) i x, μ₂)
theorem denS_set2 {x y : Str} {e1 e2 : Expr} {n1 n2 tp vp pos : Pos} {kk kv : Nat} {i j : Nat} {f g : ExF} (hf : DenE C k sc T e1 f) (hg : DenE C k sc T e2 g) (hx : (x, i) ∈ T) (hy : (y, j) ∈ T) (hn1 : (T.map (·.1)).Nodup) (hn2 : (T.map (·.2)).Nodup)
    (hnx : sc.names.lookup x ≠ some .free) (hny : sc.names.lookup y ≠ some .free) (he : ∀ env, starEach [e1, e2] env = [(false, eval e1 env), (false, eval e2 env)])
    (hs : ∀ env : Env, env.scope = sc → swapsWithSole [.Tuple [.Name x n1, .Name y n2] kk tp] (.Tuple [e1, e2] kv vp) pos.line env = pure false)
    (hw : ∀ env : Env, env.scope = sc → swappedStores [.Tuple [.Name x n1, .Name y n2] kk tp] (.Tuple [e1, e2] kv vp) env = pure (some [x, y])) :
    DenS C k sc T (.Assign [.Tuple [.Name x n1, .Name y n2] kk tp] (.Tuple [e1, e2] kv vp) pos) (set2S i j f g) := by
  intro env A s α ρ μ fl ρ' μ' Q E hsc hr R M hh h
  unfold set2S at hh
  cases e1' : f ρ μ with
  | none => rw [e1'] at hh; cases hh
  | some p =>
    obtain ⟨z, μ₁⟩ := p
    rw [e1'] at hh
    dsimp only at hh
    cases e2' : g ρ μ₁ with
    | none => rw [e2'] at hh; cases hh
    | some q =>
      obtain ⟨w, μ₂⟩ := q
      rw [e2'] at hh
      cases hh
      refine Assign_Tuple_swapped (names := [x, y]) (Tuple_ ?_) (hs env hsc) (hw env hsc)
      rw [he]
      refine Calls.spliced_cons (hf env A s α ρ μ z μ₁ _ E hsc hr R M e1' fun v α₁ h₁ tk₁ t₁ M₁ r₁ => ?_)
      refine Calls.spliced_cons (hg env A _ α₁ ρ μ₁ w _ _ E hsc hr (R.stp0 M t₁) M₁ e2' fun u α₂ h₂ tk₂ t₂ M₂ r₂ => ?_)
      refine Calls.spliced_nil (wpAny_newTuple ?_ (Nat.le_trans (show 2 ≤ 1000 by decide) sizeLine_ge))
      have R₂ := (R.stp0 M t₁).stp0 M₁ t₂
      have hT : Heap.IsTuple (h₂.push { cls := .type "tuple", data := .seq [v, u].toArray }) h₂.objs.size [v, u].toArray := ⟨_, Heap.get?_push_size _ rfl, rfl, 0, rfl⟩
      show wpAny (model C.prog C.w) A (unpackItems (.ref h₂.objs.size) 2 none) _ E { s with heap := h₂.push { cls := .type "tuple", data := .seq [v, u].toArray }, toks := tk₂ }
      refine unpack2 (s := { s with heap := h₂.push { cls := .type "tuple", data := .seq [v, u].toArray }, toks := tk₂ }) hr.hd hT fun h₃ hE => assign2 ?_
      have kp : ∀ b o, h₂.get? b = some o → h₃.get? b = some o := fun b o e => hE b o (by
        have := Heap.lt_size e
        exact Nat.ne_of_lt (Nat.lt_of_lt_of_le this (by show h₂.objs.size ≤ (h₂.push _).objs.size; rw [Heap.size_push]; exact Nat.le_succ _))) (Heap.get?_push_of_some _ e)
      have M₃ := M₂.keeps kp
      have t₃ : Stp [] α₂ h₂ α₂ h₃ := Stp.keeps kp
      have R₃ := R₂.stp0 M₂ t₃
      have rv := (r₁.stp M₁ t₂).stp M₂ t₃
      have ru := r₂.stp M₂ t₃
      refine wpAny_assignInOrder_more (wpAny_bindName (store_slot (s := { s with heap := h₃, toks := tk₂ }) hn1 hn2 (by unfold Env.kindOf; rw [hsc]; exact hny) R₃ M₃ hy ru fun h₄ tk₄ t₄ M₄ R₄ => ?_))
      have tk := t₄.tk M₃ R₃.noSeq
      refine wpAny_assignInOrder_more (wpAny_bindName (store_slot (s := { s with heap := h₄, toks := tk₄ }) hn1 hn2 (by unfold Env.kindOf; rw [hsc]; exact hnx) R₄ M₄ hx (rv.up tk fun _ _ e => t₄.get e) fun h₅ tk₅ t₅ M₅ R₅ => ?_))
      have := Stp.own R ((t₁.trans t₂).trans t₃)
      exact wpAny_pure (h .next _ h₅ tk₅ ((this.trans t₄).trans t₅) M₅ R₅ trivial)

/-- x += e, ints -/
noncomputable def incS (i : Nat) (f : ExF) : StF := fun ρ μ => match look ρ i with
  | some (.d (.int a)) => match f ρ μ with
    | some (.d (.int b), μ₁) => some (.nx, upd ρ i (.d (.int (a + b))), μ₁)
    | _ => none
  | _ => none
theorem denS_inc {x : Str} {e : Expr} {np pos : Pos} {i : Nat} {f : ExF} (hf : DenE C k sc T e f) (hx : (x, i) ∈ T) (hn1 : (T.map (·.1)).Nodup) (hn2 : (T.map (·.2)).Nodup) (hnf : sc.names.lookup x ≠ some .free) :
    DenS C k sc T (.AugAssign (.Name x np) .Add e pos) (incS i f) := by
  intro env A s α ρ μ y ρ' μ' Q E hsc hr R M hg h
  unfold incS at hg
  split at hg
  · rename_i a e0
    split at hg
    · rename_i b μ₁ e1
      cases hg
      refine wpAny_AugAssign_Name (load_slot R hx e0 fun v r => ?_)
      obtain ⟨t, rfl⟩ := reads_int r
      refine hf env A s α ρ μ _ _ _ E hsc hr R M e1 fun v α₁ h₁ tk₁ t₁ M₁ r₁ => ?_
      obtain ⟨u, rfl⟩ := reads_int r₁
      have R₁ := R.stp0 M t₁
      refine wpAny_iadd_int (store_slot (s := { s with heap := h₁, toks := tk₁ + 1 }) hn1 hn2 (by unfold Env.kindOf; rw [hsc]; exact hnf) R₁ M₁ hx (y := .d (.int (a + b))) (Reads.int ..) fun h' tk' t₂ M₂ R₂ => ?_)
      exact h .next α₁ h' tk' ((Stp.own R t₁).trans t₂) M₂ R₂ trivial
    · cases hg
  · cases hg

/-! blocks -/
noncomputable def nilS : StF := fun ρ μ => some (.nx, ρ, μ)
noncomputable def seqS (f g : StF) : StF := fun ρ μ => match f ρ μ with
  | none => none
  | some (.nx, ρ₁, μ₁) => g ρ₁ μ₁
  | some (.rt x, ρ₁, μ₁) => some (.rt x, ρ₁, μ₁)
theorem denL_nil : DenL C k sc T [] nilS := by
  intro env A s α ρ μ y ρ' μ' Q E hsc hr R M hg h
  cases hg
  exact wpAny_execs_nil (h .next α s.heap s.toks (Stp.refl ..) M R trivial)
theorem denL_cons {e : Stmt} {es : List Stmt} {f g : StF} (hf : DenS C k sc T e f) (hg : DenL C k sc T es g) : DenL C k sc T (e :: es) (seqS f g) := by
  intro env A s α ρ μ y ρ' μ' Q E hsc hr R M hh h
  unfold seqS at hh
  cases e1 : f ρ μ with
  | none => rw [e1] at hh; cases hh
  | some p =>
    obtain ⟨fl, ρ₁, μ₁⟩ := p
    rw [e1] at hh
    refine wpAny_execs_cons (hf env A s α ρ μ fl ρ₁ μ₁ _ E hsc hr R M e1 fun fl' α₁ h₁ tk₁ t₁ M₁ R₁ F₁ => ?_)
    cases fl with
    | nx =>
      cases fl' <;> first | exact F₁.elim | skip
      exact hg env A _ α₁ ρ₁ μ₁ y ρ' μ' Q E hsc hr R₁ M₁ hh (PostS.step h t₁)
    | rt x =>
      cases hh
      cases fl' <;> first | exact F₁.elim | skip
      exact h (.ret _) α₁ h₁ tk₁ t₁ M₁ R₁ F₁

noncomputable def ifS (c : BoF) (f g : StF) : StF := fun ρ μ => match c ρ μ with
  | none => none
  | some (true, μ₁) => f ρ μ₁
  | some (false, μ₁) => g ρ μ₁
theorem denS_if {t : Expr} {a b : List Stmt} {pos : Pos} {c : BoF} {f g : StF} (ht : DenB C k sc T t c) (hf : DenL C k sc T a f) (hg : DenL C k sc T b g) : DenS C k sc T (.If t a b pos) (ifS c f g) := by
  intro env A s α ρ μ y ρ' μ' Q E hsc hr R M hh h
  unfold ifS at hh
  cases e1 : c ρ μ with
  | none => rw [e1] at hh; cases hh
  | some p =>
    obtain ⟨b, μ₁⟩ := p
    rw [e1] at hh
    refine wpAny_If (ht env A s α ρ μ b μ₁ _ E hsc hr R M e1 fun α₁ h₁ tk₁ t₁ M₁ => ?_)
    have R₁ := R.stp0 M t₁
    cases b with
    | true => rw [if_pos rfl]; exact hf env A _ α₁ ρ μ₁ y ρ' μ' Q E hsc hr R₁ M₁ hh (PostS.step h (Stp.own R t₁))
    | false => rw [if_neg Bool.false_ne_true]; exact hg env A _ α₁ ρ μ₁ y ρ' μ' Q E hsc hr R₁ M₁ hh (PostS.step h (Stp.own R t₁))
/-- what is not run -/
noncomputable def noneL : StF := fun _ _ => none
theorem denL_none {l : List Stmt} : DenL C k sc T l noneL := by
  intro env A s α ρ μ y ρ' μ' Q E hsc hr R M hh h
  cases hh
noncomputable def noneE : ExF := fun _ _ => none
theorem den_noneE {e : Expr} : DenE C k sc T e noneE := by
  intro env A s α ρ μ y μ' Q E hsc hr R M hh h
  cases hh

/-! while -/
noncomputable def whileGo (c : BoF) (f : StF) : Nat → StF
  | 0, _, _ => none
  | n + 1, ρ, μ => match c ρ μ with
    | none => none
    | some (false, μ₁) => some (.nx, ρ, μ₁)
    | some (true, μ₁) => match f ρ μ₁ with
      | none => none
      | some (.nx, ρ₂, μ₂) => whileGo c f n ρ₂ μ₂
      | some (.rt x, ρ₂, μ₂) => some (.rt x, ρ₂, μ₂)
theorem denS_while {t : Expr} {a : List Stmt} {pos : Pos} {c : BoF} {f : StF} (N : Nat) (ht : DenB C k sc T t c) (hf : DenL C k sc T a f) : DenS C k sc T (.While t a [] pos) (whileGo c f N) := by
  intro env A s α ρ μ y ρ' μ' Q E hsc hr R M hh h
  refine wpAny_While (codeAny_whileLoop (fun n s₁ => ∃ α₁ h₁ tk₁ ρ₁ μ₁, s₁ = { s with heap := h₁, toks := tk₁ } ∧ Stp (own env) α s.heap α₁ h₁ ∧ MR C h₁ α₁ μ₁ ∧ ER C T env h₁ α₁ ρ₁ ∧ whileGo c f n ρ₁ μ₁ = some (y, ρ', μ')) ?_ N ⟨α, s.heap, s.toks, ρ, μ, rfl, Stp.refl .., M, R, hh⟩)
  rintro n s₁ ⟨α₁, h₁, tk₁, ρ₁, μ₁, rfl, t₁, M₁, R₁, hg⟩
  cases n with
  | zero => cases hg
  | succ n =>
    unfold whileGo at hg
    cases e1 : c ρ₁ μ₁ with
    | none => rw [e1] at hg; cases hg
    | some p =>
      obtain ⟨b, μ₂⟩ := p
      rw [e1] at hg
      refine ht env A _ α₁ ρ₁ μ₁ b μ₂ _ _ hsc hr R₁ M₁ e1 fun α₂ h₂ tk₂ t₂ M₂ => ?_
      have R₂ := R₁.stp0 M₁ t₂
      have t₁₂ := t₁.trans (Stp.own R₁ t₂)
      cases b with
      | false =>
        cases hg
        rw [if_neg Bool.false_ne_true]
        exact wpAny_execs_nil (h .next α₂ h₂ tk₂ t₁₂ M₂ R₂ trivial)
      | true =>
        dsimp only at hg
        rw [if_pos rfl]
        cases e2 : f ρ₁ μ₂ with
        | none => rw [e2] at hg; cases hg
        | some q =>
          obtain ⟨fl, ρ₃, μ₃⟩ := q
          rw [e2] at hg
          refine hf env A _ α₂ ρ₁ μ₂ fl ρ₃ μ₃ _ _ hsc hr R₂ M₂ e2 fun fl' α₃ h₃ tk₃ t₃ M₃ R₃ F₃ => ?_
          cases fl with
          | nx =>
            cases fl' <;> first | exact F₃.elim | skip
            exact ⟨n, Nat.lt_succ_self _, α₃, h₃, tk₃, ρ₃, μ₃, rfl, t₁₂.trans t₃, M₃, R₃, hg⟩
          | rt x =>
            cases hg
            cases fl' <;> first | exact F₃.elim | skip
            exact h (.ret _) α₃ h₃ tk₃ (t₁₂.trans t₃) M₃ R₃ F₃
end
end Mine
set_option maxHeartbeats 1000000
set_option maxRecDepth 100000
set_option Elab.async false
set_option linter.unusedVariables false
namespace Mine
open PySem PySem.Spec PySem.Calls PyProof.Rows

inductive It where
  | lst (j i : Nat)
  | tup (ds : List PyData)
  | rng (a : Int) (n : Nat)
  | vals (j i n : Nat)
noncomputable def nextLst (j i : Nat) (μ : Mem) : Option (Option (RV × It)) := match μ[j]? with
  | some (.lst xs) => match xs[i]? with
    | some x => some (some (x, .lst j (i + 1)))
    | none => some none
  | _ => none
noncomputable def nextVals (j i n : Nat) (μ : Mem) : Option (Option (RV × It)) := match μ[j]? with
  | some (.dct kvs) => if kvs.length = n then match kvs[i]? with
      | some p => some (some (p.2, .vals j (i + 1) n))
      | none => some none
    else none
  | _ => none
noncomputable def nextI : It → Mem → Option (Option (RV × It))
  | .lst j i, μ => nextLst j i μ
  | .tup [], _ => some none
  | .tup (d :: ds), _ => some (some (.d d, .tup ds))
  | .rng _ 0, _ => some none
  | .rng a (n + 1), _ => some (some (.d (.int a), .rng (a + 1) n))
  | .vals j i n, μ => nextVals j i n μ
noncomputable def ItR (h : Heap) (α : List Addr) (it : Addr) : It → Prop
  | .lst j i => ∃ l, α[j]? = some l ∧ h.IsListIter it l i
  | .tup ds => ∃ t vs i, h.IsTupleIter it t i ∧ h.IsTuple t vs ∧ ReadsAll h (vs.toList.drop i) ds []
  | .rng a n => IsRangeIter h it a n 1
  | .vals j i n => ∃ d, α[j]? = some d ∧ h.IsValIter it d i n n

noncomputable abbrev Kp (S : List Addr) (h h' : Heap) : Prop := ∀ b o, h.get? b = some o → b ∉ S → h'.get? b = some o
theorem Kp.extBut {a : Addr} {h h' : Heap} (x : Heap.ExtBut a h h') : Kp [a] h h' := fun b o e n => x b o (fun q => n (by rw [q]; exact .head _)) e
theorem Kp.sameBut {a : Addr} {h h' : Heap} (x : Heap.SameBut a h h') : Kp [a] h h' := Kp.extBut x.extBut
theorem TupKeep.of_kp {S : List Addr} {h h' : Heap} (k : Kp S h h') (z : NoSeq h S) : TupKeep h h' := fun b o vs n e c d => k b o e fun m => z b m o e vs n d

theorem isTuple_tk {h h' : Heap} (k : TupKeep h h') {t : Addr} {vs : Array Value} (x : h.IsTuple t vs) : h'.IsTuple t vs :=
  let ⟨o, ho, hc, n, hd⟩ := x; ⟨o, k t o vs n ho hc hd, hc, n, hd⟩
theorem ItR.alive {h : Heap} {α : List Addr} {it : Addr} {I : It} (x : ItR h α it I) : ∃ o, h.get? it = some o := by
  cases I with
  | lst j i => obtain ⟨l, e, o, ho, _⟩ := x; exact ⟨o, ho⟩
  | tup ds => obtain ⟨t, vs, i, ⟨o, ho, _⟩, _⟩ := x; exact ⟨o, ho⟩
  | rng a n => exact ⟨_, x⟩
  | vals j i n => obtain ⟨l, e, o, ho, _⟩ := x; exact ⟨o, ho⟩
theorem ItR.noSeq {h : Heap} {α : List Addr} {it : Addr} {I : It} (x : ItR h α it I) : NoSeq h [it] := by
  intro a m o e vs n q
  rw [List.mem_singleton.mp m] at e
  cases I with
  | lst j i => obtain ⟨l, _, o', ho, _, hd⟩ := x; rw [e] at ho; cases ho; rw [hd] at q; cases q
  | tup ds => obtain ⟨t, ws, i, ⟨o', ho, _, hd⟩, _⟩ := x; rw [e] at ho; cases ho; rw [hd] at q; cases q
  | rng a n => have ho : h.get? it = _ := x; rw [e] at ho; cases ho; cases q
  | vals j i n => obtain ⟨l, _, o', ho, _, hd⟩ := x; rw [e] at ho; cases ho; rw [hd] at q; cases q
theorem ItR.up {h h' : Heap} {α α' : List Addr} {it : Addr} {I : It} (x : ItR h α it I) (k : TupKeep h h') (p : ∀ (i : Nat) a, α[i]? = some a → α'[i]? = some a) (s : ∀ b, h.get? it = some b → h'.get? it = some b) : ItR h' α' it I := by
  cases I with
  | lst j i => obtain ⟨l, e, o, ho, r⟩ := x; exact ⟨l, p j l e, o, s o ho, r⟩
  | tup ds => obtain ⟨t, vs, i, ⟨o, ho, r⟩, ht, rd⟩ := x; exact ⟨t, vs, i, ⟨o, s o ho, r⟩, isTuple_tk k ht, readsAll_tk k rfl rd⟩
  | rng a n => exact s _ x
  | vals j i n => obtain ⟨l, e, o, ho, r⟩ := x; exact ⟨l, p j l e, o, s o ho, r⟩

section
variable {C : Cst} {k : Nat} {sc : Scope} {T : List (Str × Nat)}
variable {A : Around} {E : Value → Shared → Prop} {s : Shared}

theorem isList_of {h : Heap} {a : Addr} {vs : Array Value} {n : Nat} (ha : h.get? a = some (lob vs n)) : h.IsList a vs := ⟨_, ha, rfl, n, rfl⟩

noncomputable abbrev NextP (C : Cst) (α : List Addr) (it : Addr) (r : Option (RV × It)) (s : Shared) (Q : Option Value → Shared → Prop) : Prop :=
  match r with
  | none => ∀ h' tk', Kp [it] s.heap h' → Q none { s with heap := h', toks := tk' }
  | some (x, I') => ∀ v h' tk', Kp [it] s.heap h' → ItR h' α it I' → VR h' α v x → Q (some v) { s with heap := h', toks := tk' }

theorem next_ok {α : List Addr} {μ : Mem} {it : Addr} {I : It} {r : Option (RV × It)} {Q : Option Value → Shared → Prop} (vals : ∀ j i n, I = .vals j i n → False)
    (hr : Room k A) (M : MR C s.heap α μ) (R : ItR s.heap α it I) (hα : it ∉ α) (hn : nextI I μ = some r) (h : NextP C α it r s Q) : wpAny (model C.prog C.w) A (pyNext (.ref it)) Q E s := by
  have z := R.noSeq
  cases I with
  | lst j i =>
    obtain ⟨l, hl, hit⟩ := R
    replace hn : nextLst j i μ = some r := hn
    unfold nextLst at hn
    cases e : μ[j]? with
    | none => rw [e] at hn; cases hn
    | some o =>
      rw [e] at hn
      cases o with
      | dct kvs => cases hn
      | lst xs =>
        dsimp only at hn
        obtain ⟨vs, n, ha, ra⟩ := M.obj j l _ hl e
        cases e1 : xs[i]? with
        | none =>
          rw [e1] at hn
          cases hn
          have := ra.getNone e1
          exact wpAny_pyNext_list_end hr.hd hit (isList_of ha) (by simpa using this) fun h' hs => h h' s.toks (Kp.extBut hs)
        | some x =>
          rw [e1] at hn
          cases hn
          obtain ⟨v, ev, rv⟩ := ra.get e1
          exact wpAny_pyNext_list_item hit (isList_of ha) (by simpa using ev) fun h' hit' hs => h v h' s.toks (Kp.sameBut hs) ⟨l, hl, hit'⟩ (rv.up (TupKeep.of_kp (Kp.sameBut hs) z) fun _ _ e => e)
  | tup ds =>
    obtain ⟨t, vs, i, hit, ht, rd⟩ := R
    cases ds with
    | nil =>
      cases hn
      have l0 := readsAll_len rd
      refine wpAny_pyNext_tuple_end hr.hd hit ht ?_ fun h' hs => h h' s.toks (Kp.extBut hs)
      simp at l0
      have : vs.size ≤ i := Nat.sub_eq_zero_iff_le.mp l0
      simpa using this
    | cons d ds =>
      cases hn
      obtain ⟨v, ev, rv⟩ := readsAll_get rd (i := 0) (x := d) rfl
      have rd' := readsAll_drop 1 rd
      rw [List.drop_drop] at rd'
      refine wpAny_pyNext_tuple_item hit ht (x := v) (by simpa using ev) fun h' hit' hs => ?_
      have tk := TupKeep.of_kp (Kp.sameBut hs) z
      exact h v h' s.toks (Kp.sameBut hs) ⟨t, vs, i + 1, hit', isTuple_tk tk ht, readsAll_tk tk rfl rd'⟩ (reads_tk tk rfl rv)
  | rng a n =>
    cases n with
    | zero =>
      cases hn
      exact wpAny_pyNext_range_end hr.hd R (by simp) fun h' hs => h h' s.toks (Kp.extBut hs)
    | succ n =>
      cases hn
      refine wpAny_pyNext_range_item R (by omega) fun h' hit' hs => h _ h' _ (Kp.sameBut hs) ?_ (Reads.int _ _)
      have e : ((n + 1 : Nat) : Int) - 1 = (n : Int) := by omega
      rw [e] at hit'
      exact hit'
  | vals j i n => exact (vals j i n rfl).elim

noncomputable abbrev ItF := Rho → Mem → Option (It × Mem)
/-- an expression to walk over -/
noncomputable def DenI (C : Cst) (k : Nat) (sc : Scope) (T : List (Str × Nat)) (e : Expr) (f : ItF) : Prop :=
  ∀ (env : Env) (A : Around) (s : Shared) (α : List Addr) (ρ : Rho) (μ : Mem) (x : It) (μ' : Mem) (Q : Value → Shared → Prop) (E : Value → Shared → Prop),
    env.scope = sc → Room k A → ER C T env s.heap α ρ → MR C s.heap α μ → f ρ μ = some (x, μ') →
    (∀ it α' h' tk', Stp [] α s.heap α' h' → MR C h' α' μ' → ItR h' α' it x → s.heap.get? it = none → it ∉ α' → Q (.ref it) { s with heap := h', toks := tk' }) →
    wpAny (model C.prog C.w) A (eval e env) (fun v s₁ => wpAny (model C.prog C.w) A (pyIter v) Q E s₁) E s

theorem fresh_size {h : Heap} : h.get? h.objs.size = none := by
  cases e : h.get? h.objs.size with
  | none => rfl
  | some o => exact absurd (Heap.lt_size e) (Nat.lt_irrefl _)
theorem MR.off_size {h : Heap} {α : List Addr} {μ : Mem} (M : MR C h α μ) : h.objs.size ∉ α := fun m => by
  obtain ⟨o, e⟩ := M.alive m
  exact absurd (Heap.lt_size e) (Nat.lt_irrefl _)
theorem Stp.fresh {α α' : List Addr} {h h' : Heap} {μ' : Mem} {a : Addr} (M : MR C h' α' μ') (t : Stp [] α h α' h') (e : h'.get? a = none) : h.get? a = none := by
  cases q : h.get? a with
  | none => rfl
  | some o =>
    by_cases n : a ∈ α
    · obtain ⟨o', e'⟩ := M.alive (t.mem n)
      rw [e'] at e; cases e
    · rw [t.kp a o q n (fun m => nomatch m)] at e; cases e

/-- an iterator is made -/
theorem iter_new {α α₁ : List Addr} {h h₁ : Heap} {μ₁ : Mem} {I : It} {tk : Nat} {ob : Obj} {Q : Value → Shared → Prop} (t : Stp [] α h α₁ h₁) (M₁ : MR C h₁ α₁ μ₁)
    (hI : ItR (h₁.push ob) α₁ h₁.objs.size I)
    (hh : ∀ it α' h' tk', Stp [] α h α' h' → MR C h' α' μ₁ → ItR h' α' it I → h.get? it = none → it ∉ α' → Q (.ref it) { s with heap := h', toks := tk' }) :
    Q (.ref h₁.objs.size) { s with heap := h₁.push ob, toks := tk } :=
  hh _ α₁ _ tk (t.trans (Stp.push ob)) (M₁.push ob) hI (t.fresh M₁ fresh_size) M₁.off_size

noncomputable def seqI (f : ExF) : ItF := fun ρ μ => match f ρ μ with
  | some (.r j, μ₁) => match μ₁[j]? with
    | some (.lst _) => some (.lst j 0, μ₁)
    | _ => none
  | some (.d (.tuple ds), μ₁) => some (.tup ds, μ₁)
  | _ => none
theorem denI_seq {e : Expr} {f : ExF} (hf : DenE C k sc T e f) : DenI C k sc T e (seqI f) := by
  intro env A s α ρ μ x μ' Q E hsc hr R M hh h
  unfold seqI at hh
  split at hh
  · rename_i j μ₁ e1
    split at hh
    · rename_i xs e2
      cases hh
      refine hf env A s α ρ μ _ _ _ E hsc hr R M e1 fun v α₁ h₁ tk₁ t₁ M₁ r₁ => ?_
      obtain ⟨a, rfl, hi, vs, n, ha, ra⟩ := VR.obj M₁ r₁ e2
      refine wpAny_pyIter_list (s := { s with heap := h₁, toks := tk₁ }) (isList_of ha) ?_
      exact iter_new (I := .lst j 0) (s := s) t₁ M₁ ⟨a, hi, ⟨_, Heap.get?_push_size _ rfl, rfl, rfl⟩⟩ h
    · cases hh
  · rename_i ds μ₁ e1
    cases hh
    refine hf env A s α ρ μ _ _ _ E hsc hr R M e1 fun v α₁ h₁ tk₁ t₁ M₁ r₁ => ?_
    obtain ⟨a, dd, vs, n, sl, rfl, ha, ra⟩ := tup_obj r₁
    have ht : h₁.IsTuple a vs := ⟨_, ha, rfl, n, rfl⟩
    refine wpAny_pyIter_tuple (s := { s with heap := h₁, toks := tk₁ }) ht ?_
    exact iter_new (I := .tup ds) (s := s) t₁ M₁ ⟨a, vs, 0, ⟨_, Heap.get?_push_size _ rfl, rfl, rfl⟩, ⟨_, Heap.get?_push_of_some _ ha, rfl, n, rfl⟩, ReadsAll.keeps (fun _ _ e => Heap.get?_push_of_some _ e) ra⟩ h
  · cases hh

noncomputable def rangeI (f : ArF) : ItF := fun ρ μ => match f ρ μ with
  | some ([.d (.int n)], μ₁) => if -1000 < n ∧ n < 1000 then some (.rng 0 n.toNat, μ₁) else none
  | some ([.d (.int a), .d (.int b)], μ₁) => if (-1000 < a ∧ a < 1000) ∧ (-1000 < b ∧ b < 1000) then some (.rng a (b - a).toNat, μ₁) else none
  | _ => none
theorem range_it {h : Heap} {α : List Addr} {a b : Int} : ItR (h.push { cls := .type "range_iterator", data := .fields #[rawInt a, rawInt (Builtin.Range.rangeSize a b 1), rawInt 1] }) α h.objs.size (.rng a (b - a).toNat) := by
  have e : Builtin.Range.rangeSize a b 1 = ((b - a).toNat : Int) := by
    rw [rangeSize_one]
    split <;> omega
  rw [e]
  exact Heap.get?_push_size _ rfl
theorem denI_range {np pos : Pos} {e : Expr} {es : List Expr} {f : ArF} (g : Glb C "range" (.type "range")) (hk : sc.names.lookup ("range" : Str) = some .globalImplicit) (hf : DenAr C k sc T (e :: es) f) :
    DenI C k sc T (.Call (.Name "range" np) (e :: es) [] pos) (rangeI f) := by
  intro env A s α ρ μ x μ' Q E hsc hr R M hh h
  refine wpAny_Call_ofName (name_global R M (by unfold Env.kindOf; rw [hsc]; exact hk) g (by decide) ?_)
  have he : backTo pos (starEach (e :: es) env) = (e :: es).map fun e => (false, eval e env) := by rw [hf.1, backTo_plain]
  rw [he]
  refine PyProof.Rows.callWith_type (by simp) (Calls.evalArgs_plain ?_)
  unfold rangeI at hh
  split at hh
  · rename_i n μ₁ e1
    split at hh
    · rename_i hb
      cases hh
      refine hf.2 env A s α ρ μ _ _ _ E hsc hr R M e1 fun vs α₁ h₁ tk₁ t₁ M₁ r₁ => ?_
      cases r₁ with
      | cons r1 r2 =>
        cases r2
        obtain ⟨t, rfl⟩ := reads_int r1
        refine call_range_1 (s := { s with heap := h₁, toks := tk₁ }) ?_
        refine wpAny_pyIter_range (s := { s with heap := h₁.push _, toks := tk₁ + 1 + 1 }) (IsRange.new ..) (small_one (by decide) (by decide) (by omega) (by omega)) ?_
        have hI := range_it (h := h₁.push { cls := .type "range", data := .fields #[.int 0 tk₁, .int n t, .int 1 (tk₁ + 1)] }) (α := α₁) (a := 0) (b := n)
        rw [Int.sub_zero] at hI
        exact iter_new (I := .rng 0 n.toNat) (s := s) (t₁.trans (Stp.push _)) (M₁.push _) hI h
    · cases hh
  · rename_i a b μ₁ e1
    split at hh
    · rename_i hb
      cases hh
      refine hf.2 env A s α ρ μ _ _ _ E hsc hr R M e1 fun vs α₁ h₁ tk₁ t₁ M₁ r₁ => ?_
      cases r₁ with
      | cons r1 r2 =>
        cases r2 with
        | cons r2 r3 =>
          cases r3
          obtain ⟨t, rfl⟩ := reads_int r1
          obtain ⟨u, rfl⟩ := reads_int r2
          refine call_range_2 (s := { s with heap := h₁, toks := tk₁ }) ?_
          refine wpAny_pyIter_range (s := { s with heap := h₁.push _, toks := tk₁ + 1 }) (IsRange.new ..) (small_one (by omega) (by omega) (by omega) (by omega)) ?_
          exact iter_new (I := .rng a (b - a).toNat) (s := s) (t₁.trans (Stp.push _)) (M₁.push _) range_it h
    · cases hh
  · cases hh
end
end Mine
set_option maxHeartbeats 1000000
set_option maxRecDepth 100000
set_option Elab.async false
set_option linter.unusedVariables false
set_option linter.unusedSimpArgs false
namespace Mine
open PySem PySem.Spec PySem.Calls PyProof.Rows

/-- a dict, by its entries as they lie -/
noncomputable abbrev RawD (h : Heap) (d : Addr) (es : Array DictEntry) (ep : Nat) : Prop := ∃ o, h.get? d = some o ∧ o.cls = .type "dict" ∧ o.data = .dict es ep
section
variable {prog : Program} {w : World} {A : Around} {E : Value → Shared → Prop} {s : Shared}
theorem rawD_type {d : Addr} {es : Array DictEntry} {ep : Nat} (x : RawD s.heap d es ep) : s.TypeIs (.ref d) "dict" := ⟨x.choose, x.choose_spec.1, x.choose_spec.2.1⟩

/-! a view is made: each of the model's functions on the way once -/
theorem noArgs_ok {d : Addr} {es : Array DictEntry} {ep : Nat} {name : String} {Q : Addr → Shared → Prop} (hm : RawD s.heap d es ep) (h : Q d s) : wpAny (model prog w) A (Builtin.Dict.noArgs name ⟨[.ref d], []⟩) Q E s := by
  unfold Builtin.Dict.noArgs
  exact wpAny_bind (wpAny_notOrdered_dict (rawD_type hm) (wpAny_pure h))
theorem showsAll_ok {d : Addr} {Q : Unit → Shared → Prop} (hd : (d == sysModules) = false) (h : Q () s) : wpAny (model prog w) A (Builtin.Dict.showsAll d) Q E s := by
  unfold Builtin.Dict.showsAll
  simp only [hd, Bool.false_eq_true, if_false]
  exact wpAny_pure h
theorem raw_values {d : Addr} (hd : (d == sysModules) = false) :
    MeetsIn prog w (Builtin.«dict.values» ⟨[.ref d], []⟩) (fun _ R s => (∃ es ep, RawD s.heap d es ep) ∧
      R (.ok (.ret (.ref s.heap.objs.size))) { s with heap := s.heap.push { cls := .type "dict_values", data := .fields #[.ref d] } }) :=
  .of_wp fun _ _ _ ⟨⟨_, _, hm⟩, h⟩ => wpAny_bind (noArgs_ok hm (wpAny_bind (showsAll_ok hd (wpAny_bind (wpAny_newObj_type (wpAny_pure ⟨_, rfl, h⟩))))))
theorem raw_items {d : Addr} (hd : (d == sysModules) = false) :
    MeetsIn prog w (Builtin.«dict.items» ⟨[.ref d], []⟩) (fun _ R s => (∃ es ep, RawD s.heap d es ep) ∧
      R (.ok (.ret (.ref s.heap.objs.size))) { s with heap := s.heap.push { cls := .type "dict_items", data := .fields #[.ref d] } }) :=
  .of_wp fun _ _ _ ⟨⟨_, _, hm⟩, h⟩ => wpAny_bind (noArgs_ok hm (wpAny_bind (showsAll_ok hd (wpAny_bind (wpAny_newObj_type (wpAny_pure ⟨_, rfl, h⟩))))))

/-! a view's iterator -/
theorem dictOf_ok {v d : Addr} {Q : Addr → Shared → Prop} (hv : ∃ o, s.heap.get? v = some o ∧ o.data = .fields #[.ref d]) (h : Q d s) : wpAny (model prog w) A (Builtin.Dict_items.dictOf (.ref v)) Q E s := by
  obtain ⟨o, ho, hd⟩ := hv
  exact wpAny_bind (wpAny_field ho hd rfl (wpAny_pure h))
/-- the fields of a new iterator over these -/
noncomputable def itFields (ty : String) (d : Addr) (n ep : Nat) : List Value :=
  (if Builtin.Dict_items.ownsTuple ty then [Value.none, .bool false] else []) ++ [.ref d, .int 0 0, .int n 0, .int ep 0] ++ if Builtin.Dict_items.ownsTuple ty then [.none, .none] else []
theorem newIterator_ok {ty : String} {d : Addr} {es : Array DictEntry} {ep : Nat} {Q : Value → Shared → Prop} (hm : RawD s.heap d es ep)
    (h : Q (.ref s.heap.objs.size) { s with heap := s.heap.push { cls := .type ty, data := .fields (itFields ty d es.size ep).toArray } }) : wpAny (model prog w) A (Builtin.Dict_items.newIterator ty d) Q E s := by
  obtain ⟨o, ho, _, hd⟩ := hm
  unfold Builtin.Dict_items.newIterator
  refine wpAny_bind (wpAny_dictEntries ho hd (wpAny_bind (wpAny_dictEpoch ho hd ?_)))
  unfold itFields at h
  cases hb : Builtin.Dict_items.ownsTuple ty <;> rw [hb] at h <;> exact wpAny_newObj_type h (by simp [sizeOk, sizeLine_eq, Builtin.Dict_items.ownedTupleFields])

theorem itFields_values {d : Addr} {n ep : Nat} : itFields "dict_valueiterator" d n ep = [.ref d, .int 0 0, .int n 0, .int ep 0] := by
  unfold itFields
  rw [show Builtin.Dict_items.ownsTuple "dict_valueiterator" = false from by decide]; rfl
theorem itFields_items {d : Addr} {n ep : Nat} : itFields "dict_itemiterator" d n ep = [.none, .bool false, .ref d, .int 0 0, .int n 0, .int ep 0, .none, .none] := by
  unfold itFields
  rw [show Builtin.Dict_items.ownsTuple "dict_itemiterator" = true from by decide]; rfl

theorem raw_iter_values {v d : Addr} {es : Array DictEntry} {ep : Nat} {Q : Value → Shared → Prop} (hv : s.heap.IsValuesView v d) (hm : RawD s.heap d es ep)
    (hQ : Q (.ref s.heap.objs.size) { s with heap := s.heap.push { cls := .type "dict_valueiterator", data := .fields #[.ref d, .int 0 0, .int es.size 0, .int ep 0] } }) :
    wpAny (model prog w) A (pyIter (.ref v)) Q E s :=
  wpAny_pyIter_slot hv.typeIs F.slot_dict_values_iter (wpAny_call_entry F.slot_dict_values_iter hv.typeIs F.entry_dict_values_iter
    (wpAny_bind (wpAny_pure (wpAny_bind (dictOf_ok (hv.imp fun _ x => ⟨x.1, x.2.2⟩) (wpAny_bind (newIterator_ok hm (wpAny_pure ⟨_, rfl, "dict_valueiterator", _, ⟨_, Heap.get?_push_size _ rfl, rfl⟩, F.slot_dict_valueiterator_next.lookup, by rw [itFields_values]; exact hQ⟩)))))))
    (F.args_dict_values_iter_1 _))
theorem raw_iter_items {v d : Addr} {es : Array DictEntry} {ep : Nat} {Q : Value → Shared → Prop} (hv : s.heap.IsItemsView v d) (hm : RawD s.heap d es ep)
    (hQ : Q (.ref s.heap.objs.size) { s with heap := s.heap.push { cls := .type "dict_itemiterator", data := .fields #[.none, .bool false, .ref d, .int 0 0, .int es.size 0, .int ep 0, .none, .none] } }) :
    wpAny (model prog w) A (pyIter (.ref v)) Q E s :=
  wpAny_pyIter_slot hv.typeIs F.slot_dict_items_iter (wpAny_call_entry F.slot_dict_items_iter hv.typeIs F.entry_dict_items_iter
    (wpAny_bind (wpAny_pure (wpAny_bind (dictOf_ok (hv.imp fun _ x => ⟨x.1, x.2.2⟩) (wpAny_bind (newIterator_ok hm (wpAny_pure ⟨_, rfl, "dict_itemiterator", _, ⟨_, Heap.get?_push_size _ rfl, rfl⟩, F.slot_dict_itemiterator_next.lookup, by rw [itFields_items]; exact hQ⟩)))))))
    (F.args_dict_items_iter_1 _))

/-! an iterator's turn -/
theorem next_by {it : Addr} {T id : String} {b : Builtin} {Q : Option Value → Shared → Prop} (hT : s.TypeIs (.ref it) T) (sl : Slot T (Str.ofString "__next__") id) (en : entryFor table id = some b) (ar : argsOk id ⟨[.ref it], []⟩)
    (h : wpAny (model prog w) A.in1 (b ⟨[.ref it], []⟩) (fun fin s' => ∃ v, fin = .done (.ret v) ∧ Q (some v) s') (fun x s' => s'.TypeIs x "StopIteration" ∧ Q none s') s) :
    wpAny (model prog w) A (pyNext (.ref it)) Q E s :=
  wpAny_bind (wpAny_attempt (wpAny_callSpecial?_slot hT sl (wpAny_mono (wpAny_call_entry sl hT en h ar) (fun _ _ q => wpAny_pure q) fun _ _ q =>
    wpAny_bind (wpAny_isInstance q.1 isSubtype_stop (wpAny_pure q.2)))))
theorem stop_ok {α : Type} {M : Model} {Q : α → Shared → Prop} (hh : A.handled = none) (h : ∀ h' e, (∀ b o, s.heap.get? b = some o → h'.get? b = some o) → Shared.TypeIs { s with heap := h' } (.ref e) "StopIteration" → E (.ref e) { s with heap := h' }) :
    wpAny M A (newExc (.type "StopIteration") [] >>= fun e => (raiseNew e : Sem α)) Q E s := by
  refine wpAny_bind ?_
  unfold newExc newTuple
  refine wpAny_bind (wpAny_newObj_type (wpAny_bind (wpAny_of_eq (a := Value.none) ?_ (wpAny_newObj_type (wpAny_raiseNew_none hh (h _ _ (fun b o e => Heap.get?_push_of_some _ (Heap.get?_push_of_some _ e)) ⟨_, Heap.get?_push_size _ rfl, rfl⟩)) ?_))) ?_)
  · first | rfl | (simp only [firstArgMember]; rfl)
  · size_fits
  · size_fits

/-- a turn of the values' iterator, either way -/
theorem vals_turn {it d : Addr} {i ep : Nat} {es : Array DictEntry} {Q : Option Value → Shared → Prop} (hh : A.handled = none) (hit : s.heap.IsValIter it d i es.size ep) (hm : RawD s.heap d es ep)
    (hS : ∀ e h', es[i]? = some e → h'.IsValIter it d (i + 1) es.size ep → Heap.SameBut it s.heap h' → Q (some e.val) { s with heap := h' })
    (hN : ∀ h', es[i]? = none → Heap.ExtBut it s.heap h' → Q none { s with heap := h' }) : wpAny (model prog w) A (pyNext (.ref it)) Q E s := by
  have hT := hit.typeIs
  obtain ⟨o, ho, hc, hf⟩ := hit
  obtain ⟨od, hod, _, hd⟩ := hm
  refine next_by hT F.slot_dict_valueiterator_next F.entry_dict_valueiterator_next (F.args_dict_valueiterator_next_1 _) ?_
  refine wpAny_bind (wpAny_pure (wpAny_bind (wpAny_bind (wpAny_bind (wpAny_typeNameOfWhole_valiter hT (wpAny_pure ?_))))))
  rw [show Builtin.Dict_items.ownsTuple "dict_valueiterator" = false from by decide]
  refine wpAny_bind (wpAny_fieldsOf ho hf ?_)
  have q1 : (Value.ref d == Value.none) = false := rfl
  have q2 : ¬ (i : Int) < 0 := by omega
  simp only [Bool.false_eq_true, if_false, List.drop_zero, List.take_succ_cons, List.take_zero, q1, Builtin.Dict_items.addrOf, pure_bind]
  refine wpAny_bind (wpAny_dictEntries hod hd ?_)
  simp only [bne_self_eq_false, Bool.false_eq_true, if_false]
  refine wpAny_bind (wpAny_dictEpoch hod hd ?_)
  simp only [bne_self_eq_false, Bool.false_eq_true, if_false]
  refine wpAny_pure ?_
  simp only [q2, if_false, Int.toNat_natCast]
  cases hx : es[i]? with
  | some e =>
    refine wpAny_bind (wpAny_bind (wpAny_typeNameOfWhole_valiter hT (wpAny_pure (wpAny_bind (wpAny_isOneOf_valiter hT ?_)))))
    refine wpAny_bind (wpAny_setField (i := 1) (x := rawInt ((i : Int) + 1)) ho hf (by simp) ?_)
    have sb := Heap.SameBut.update s.heap it (Obj.mapFields (·.setIfInBounds 1 (rawInt ((i : Int) + 1))))
    have mv : (s.heap.update it (Obj.mapFields (·.setIfInBounds 1 (rawInt ((i : Int) + 1))))).IsValIter it d (i + 1) es.size ep :=
      ⟨_, Heap.get?_update_self _ ho (Obj.isFreed_of_fields (Obj.data_mapFields hf _)), (Obj.cls_mapFields ..).trans hc, (Obj.data_mapFields hf _).trans rfl⟩
    generalize s.heap.update it (Obj.mapFields (·.setIfInBounds 1 (rawInt ((i : Int) + 1)))) = h' at sb mv ⊢
    have hT' : Shared.TypeIs { s with heap := h' } (.ref it) "dict_valueiterator" := mv.typeIs
    exact wpAny_bind (wpAny_holding (wpAny_bind (wpAny_isOneOf_valiter hT' (wpAny_bind (wpAny_isOneOf_valiter hT' (wpAny_pure (wpAny_pure ⟨_, rfl, hS e h' hx mv sb⟩)))))))
  | none =>
    refine wpAny_bind (wpAny_bind (wpAny_typeNameOfWhole_valiter hT (wpAny_pure ?_)))
    refine wpAny_bind (wpAny_setField (i := 0) (x := .none) ho hf (by simp) ?_)
    have eb := (Heap.SameBut.update s.heap it (Obj.mapFields (·.setIfInBounds 0 Value.none))).extBut
    exact stop_ok hh fun h' e k t => ⟨t, hN h' hx fun b o n q => k b o (eb b o n q)⟩

/-- the pair of a turn, and the iterator that now owns it -/
theorem pair_ok {it d : Addr} {i n ep : Nat} {ok ov key val : Value} {Q : Value → Shared → Prop} (hit : IsItemIter s.heap it d i n ep ok ov)
    (h : ∀ h', IsItemIterOut h' it d i n ep key val s.heap.objs.size → h'.get? s.heap.objs.size = some { cls := .type "tuple", data := .seq #[key, val] } → h'.objs.size = s.heap.objs.size + 1 →
      (∀ b o, b ≠ it → s.heap.get? b = some o → h'.get? b = some o) → Q (.ref s.heap.objs.size) { s with heap := h' }) :
    wpAny (model prog w) A (Builtin.Dict_items.pairFromOwner (.ref it) 6 key val) Q E s := by
  have lt : it < s.heap.objs.size := Heap.lt_size hit
  unfold Builtin.Dict_items.pairFromOwner Builtin.Dict_items.ownedTupleIsFree
  refine wpAny_bind (wpAny_newTuple ?_)
  have h0 := Heap.get?_push_of_some { cls := .type "tuple", data := .seq #[key, val] } hit
  have tup : (s.heap.push { cls := .type "tuple", data := .seq #[key, val] }).get? s.heap.objs.size = _ := Heap.get?_push_size s.heap rfl
  have len : (s.heap.push { cls := .type "tuple", data := .seq #[key, val] }).objs.size = s.heap.objs.size + 1 := Heap.size_push ..
  have old : ∀ b o, b ≠ it → s.heap.get? b = some o → (s.heap.push { cls := .type "tuple", data := .seq #[key, val] }).get? b = some o := fun _ _ _ e => Heap.get?_push_of_some _ e
  show wpAny _ _ _ _ _ { s with heap := s.heap.push { cls := .type "tuple", data := .seq #[key, val] } }
  generalize s.heap.push { cls := .type "tuple", data := .seq #[key, val] } = g at h0 tup len old ⊢
  refine wpAny_bind (wpAny_bind (wpAny_field (s := { s with heap := g }) h0 rfl rfl (wpAny_pure ?_)))
  simp only [if_true]
  refine wpAny_bind (wpAny_field (s := { s with heap := g }) h0 rfl rfl (wpAny_bind (wpAny_field (s := { s with heap := g }) h0 rfl rfl ?_)))
  refine wpAny_bind (wpAny_setField_rec (s := { s with heap := g }) h0 (by simp) fun g₁ e₁ k₁ => ?_)
  refine wpAny_bind (wpAny_setField_rec (s := { s with heap := g₁ }) e₁ (by simp) fun g₂ e₂ k₂ => ?_)
  refine wpAny_bind (wpAny_setField_rec (s := { s with heap := g₂ }) e₂ (by simp) fun g₃ e₃ k₃ => ?_)
  refine wpAny_bind (wpAny_setField_rec (s := { s with heap := g₃ }) e₃ (by simp) fun g₄ e₄ k₄ => ?_)
  have k : Heap.SameBut it g g₄ := Heap.SameBut.trans k₁ (Heap.SameBut.trans k₂ (Heap.SameBut.trans k₃ k₄))
  exact wpAny_bind (wpAny_letGo (wpAny_pure (h g₄ e₄ (k.extBut _ _ (Nat.ne_of_gt lt) tup) (k.1.trans len) fun b o n e => k.extBut b o n (old b o n e))))

/-- a turn of the items' iterator, either way -/
theorem items_turn {it d : Addr} {i ep : Nat} {es : Array DictEntry} {ok ov : Value} {Q : Option Value → Shared → Prop} (hh : A.handled = none) (hit : IsItemIter s.heap it d i es.size ep ok ov) (hm : RawD s.heap d es ep)
    (hS : ∀ e h', es[i]? = some e → IsItemIterOut h' it d (i + 1) es.size ep e.key e.val s.heap.objs.size → h'.get? s.heap.objs.size = some { cls := .type "tuple", data := .seq #[e.key, e.val] } → h'.objs.size = s.heap.objs.size + 1 →
      (∀ b o, b ≠ it → s.heap.get? b = some o → h'.get? b = some o) → Q (some (.ref s.heap.objs.size)) { s with heap := h' })
    (hN : ∀ h', es[i]? = none → Heap.ExtBut it s.heap h' → Q none { s with heap := h' }) : wpAny (model prog w) A (pyNext (.ref it)) Q E s := by
  have hT : s.TypeIs (.ref it) "dict_itemiterator" := ⟨_, hit, rfl⟩
  obtain ⟨od, hod, _, hd⟩ := hm
  refine next_by hT F.slot_dict_itemiterator_next F.entry_dict_itemiterator_next (F.args_dict_itemiterator_next_1 _) ?_
  have own : Builtin.Dict_items.ownsTuple "dict_itemiterator" = true := by decide
  refine wpAny_bind (wpAny_pure (wpAny_bind (wpAny_bind (wpAny_bind (wpAny_typeNameOfWhole_itemiter hT (wpAny_pure ?_))))))
  rw [own]
  refine wpAny_bind (wpAny_fieldsOf hit rfl ?_)
  have q1 : (Value.ref d == Value.none) = false := rfl
  have q2 : ¬ (i : Int) < 0 := by omega
  simp only [if_true, List.drop_succ_cons, List.drop_zero, List.take_succ_cons, List.take_zero, q1, Bool.false_eq_true, if_false, Builtin.Dict_items.addrOf, pure_bind]
  refine wpAny_bind (wpAny_dictEntries hod hd ?_)
  simp only [bne_self_eq_false, Bool.false_eq_true, if_false]
  refine wpAny_bind (wpAny_dictEpoch hod hd ?_)
  simp only [bne_self_eq_false, Bool.false_eq_true, if_false]
  refine wpAny_pure ?_
  simp only [q2, if_false, Int.toNat_natCast]
  cases hx : es[i]? with
  | some e =>
    refine wpAny_bind (wpAny_bind (wpAny_typeNameOfWhole_itemiter hT (wpAny_pure (wpAny_bind (wpAny_isOneOf_itemiter hT ?_)))))
    refine wpAny_bind (wpAny_setField_rec (k := 3) (x := rawInt ((i : Int) + 1)) hit (by simp) fun g mv sb => ?_)
    have mv' : IsItemIter g it d (i + 1) es.size ep ok ov := mv
    have hT' : Shared.TypeIs { s with heap := g } (.ref it) "dict_itemiterator" := ⟨_, mv', rfl⟩
    refine wpAny_bind (wpAny_holding (wpAny_bind (wpAny_isOneOf_itemiter hT' (wpAny_bind (wpAny_isOneOf_itemiter hT' ?_)))))
    refine pair_ok (s := { s with heap := g }) mv' fun g' e₁ e₂ e₃ e₄ => ?_
    have z : g.objs.size = s.heap.objs.size := sb.1
    dsimp only at e₁ e₂ e₃
    rw [z] at e₁ e₂ e₃
    refine wpAny_pure ⟨_, rfl, ?_⟩
    dsimp only
    rw [z]
    exact hS e g' hx e₁ e₂ e₃ fun b o n q => e₄ b o n (sb.extBut b o n q)
  | none =>
    refine wpAny_bind (wpAny_bind (wpAny_typeNameOfWhole_itemiter hT (wpAny_pure ?_)))
    refine wpAny_bind (wpAny_setField_rec (k := 2) (x := .none) hit (by simp) fun g _ sb => ?_)
    exact stop_ok (s := { s with heap := g }) hh fun h' e k t => ⟨t, hN h' hx fun b o n q => k b o (sb.extBut b o n q)⟩
end
end Mine
set_option maxHeartbeats 1000000
set_option maxRecDepth 100000
set_option Elab.async false
set_option linter.unusedVariables false
set_option linter.unusedSimpArgs false
namespace Mine
open PySem PySem.Spec PySem.Calls PyProof.Rows

theorem KVs.len {h : Heap} {α : List Addr} {xs : List (List Atom × Addr × Value)} {kvs : List (List Atom × RV)} (r : KVs h α xs kvs) : xs.length = kvs.length := by
  induction r with
  | nil => rfl
  | cons _ _ ih => simp [ih]
theorem KVs.get {h : Heap} {α : List Addr} {xs : List (List Atom × Addr × Value)} {kvs : List (List Atom × RV)} (r : KVs h α xs kvs) : ∀ {i : Nat} {p : List Atom × RV}, kvs[i]? = some p → ∃ a v, xs[i]? = some (p.1, a, v) ∧ VR h α v p.2 := by
  induction r with
  | nil => intro i x e; cases e
  | @cons k a v y vs xs q _ ih =>
    intro i x e
    cases i with
    | zero => cases e; exact ⟨a, v, rfl, q⟩
    | succ i => exact ih e
noncomputable def atomD : Atom → PyData
  | .inl i => .int i
  | .inr x => .str x
theorem items_reads {prog : Program} {w : World} {h : Heap} {ks : List Atom} {vs : List Value} (r : ItemsAre (mixKind prog w) ks vs) : ReadsAll h vs (ks.map atomD) [] := by
  induction r with
  | nil => exact .nil
  | cons q _ ih =>
    rcases atomIs_shape q with ⟨i, t, rfl, rfl⟩ | ⟨x, t, rfl, rfl⟩
    · exact .cons (as := []) (bs := []) (Reads.int ..) ih
    · exact .cons (as := []) (bs := []) (Reads.str ..) ih
theorem key_reads {prog : Program} {w : World} {h : Heap} {ks : List Atom} {a : Addr} (r : IsTupleKey (mixKind prog w) h ks a) : Reads h (.ref a) (.tuple (ks.map atomD)) [] := by
  obtain ⟨o, items, n, ho, hc, hd, hi⟩ := r
  exact .tuple ho hc hd (items_reads hi)
theorem DictE.raw {prog : Program} {w : World} {K : Type} [DecidableEq K] {knd : HeapKind prog w K} {h : Heap} {d : Addr} {xs : List (K × Addr × Value)} (x : DictE knd h d xs) :
    ∃ es, RawD h d es xs.length ∧ es.size = xs.length ∧ ∀ i : Nat, es[i]? = (xs[i]?).map (entryOfKey knd) := by
  obtain ⟨o, es, ho, hc, hd, he, _⟩ := x
  exact ⟨es, ⟨o, ho, hc.1, hd⟩, size_of_entries he, entry_at he⟩

section
variable {C : Cst} {k : Nat} {sc : Scope} {T : List (Str × Nat)}
variable {A : Around} {E : Value → Shared → Prop} {s : Shared}

theorem next_all {α : List Addr} {μ : Mem} {it : Addr} {I : It} {r : Option (RV × It)} {Q : Option Value → Shared → Prop}
    (hr : Room k A) (M : MR C s.heap α μ) (R : ItR s.heap α it I) (hα : it ∉ α) (hn : nextI I μ = some r) (h : NextP C α it r s Q) : wpAny (model C.prog C.w) A (pyNext (.ref it)) Q E s := by
  cases I with
  | lst j i => exact next_ok (fun _ _ _ e => by cases e) hr M R hα hn h
  | tup ds => exact next_ok (fun _ _ _ e => by cases e) hr M R hα hn h
  | rng a n => exact next_ok (fun _ _ _ e => by cases e) hr M R hα hn h
  | vals j i n =>
    have z := R.noSeq
    obtain ⟨d, hd, hit⟩ := R
    replace hn : nextVals j i n μ = some r := hn
    unfold nextVals at hn
    split at hn
    · rename_i kvs e
      split at hn
      · rename_i hl
        subst hl
        obtain ⟨xs, dx, kv⟩ := M.obj j d _ hd e
        obtain ⟨es, raw, hsz, hes⟩ := dx.raw
        have hl := kv.len
        rw [hl] at raw hsz
        rw [← hsz] at raw hit
        split at hn
        · rename_i p e1
          cases hn
          obtain ⟨a, v, ex, rv⟩ := kv.get e1
          have := hes i
          rw [ex] at this
          refine vals_turn hr.hd hit raw (fun x h' hx hit' hs => ?_) fun _ hx _ => nomatch this.symm.trans hx
          cases this.symm.trans hx
          refine h v h' s.toks (Kp.sameBut hs) ⟨d, hd, ?_⟩ (rv.up (TupKeep.of_kp (Kp.sameBut hs) z) fun _ _ e => e)
          rw [← hsz]; exact hit'
        · rename_i e1
          cases hn
          have none : es[i]? = none := Array.getElem?_eq_none (by rw [hsz]; exact List.getElem?_eq_none_iff.mp e1)
          exact vals_turn hr.hd hit raw (fun _ _ hx _ _ => nomatch none.symm.trans hx) fun h' _ hs => h h' s.toks (Kp.extBut hs)
      · cases hn
    · cases hn

/-- the views of a dict -/
noncomputable def viewF (xs : List RV) (μ : Mem) : Option Nat := match xs with
  | [.r j] => match μ[j]? with
    | some (.dct kvs) => some kvs.length
    | _ => none
  | _ => none
noncomputable def valsI (f : ExF) : ItF := fun ρ μ => match f ρ μ with
  | some (.r j, μ₁) => match μ₁[j]? with
    | some (.dct kvs) => some (.vals j 0 kvs.length, μ₁)
    | _ => none
  | _ => none
theorem denI_vals {o : Expr} {apos pos : Pos} {fo : ExF} (hb : True) (ho : DenE C k sc T o fo) (hbase : ∀ env, attributeBase o "values" env (eval o env) = eval o env) (hline : (apos.endLine == pos.line) = true) :
    DenI C k sc T (.Call (.Attribute o "values" apos) [] [] pos) (valsI fo) := by
  intro env A s α ρ μ x μ' Q E hsc hr R M hh h
  unfold valsI at hh
  split at hh
  · rename_i j μ₁ e1
    split at hh
    · rename_i kvs e2
      cases hh
      refine wpAny_Call_method0_late (hbase env) hline (ho env A s α ρ μ _ _ _ E hsc hr R M e1 fun v α₁ h₁ tk₁ t₁ M₁ r₁ => ?_)
      obtain ⟨sT, sd⟩ := dict_self (s := { s with heap := h₁, toks := tk₁ }) M₁ r₁ e2
      obtain ⟨a, rfl, hi, xs, dx, kv⟩ := VR.obj M₁ r₁ e2
      obtain ⟨es, raw, hsz, hes⟩ := dx.raw
      have hl := kv.len
      rw [hl] at raw hsz
      refine ⟨"dict", "dict.values", F.plainAttrs_dict, F.slot_dict_values, rfl, sT, sd, ?_⟩
      refine Calls.callWith_builtin (by simp) (PySem.evalArgs_none ?_)
      have hm := not_modules M₁ hb (List.mem_of_getElem? hi)
      refine call_meetsIn F.slot_dict_values (rawD_type (s := { s with heap := h₁, toks := tk₁ }) raw) F.entry_dict_values (F.args_dict_values_1 _) (raw_values hm) ⟨⟨es, _, raw⟩, ?_⟩
      refine raw_iter_values (s := { s with heap := h₁.push _, toks := tk₁ }) ⟨_, Heap.get?_push_size _ rfl, rfl, rfl⟩ (es := es) (ep := kvs.length) (let ⟨o, ho, r⟩ := raw; ⟨o, Heap.get?_push_of_some _ ho, r⟩) ?_
      refine iter_new (I := .vals j 0 kvs.length) (s := s) (t₁.trans (Stp.push _)) (M₁.push _) ⟨a, hi, ?_⟩ h
      rw [hsz]
      exact ⟨_, Heap.get?_push_size _ rfl, rfl, rfl⟩
    · cases hh
  · cases hh

/-- a local's slot is written: no more than the frame's own dict turns -/
theorem store_local {env : Env} {α : List Addr} {ρ : Rho} {μ : Mem} {x : Str} {i : Nat} {v : Value} {y : RV} {Q : Unit → Shared → Prop}
    (hn1 : (T.map (·.1)).Nodup) (hn2 : (T.map (·.2)).Nodup) (hl : env.kindOf x = some .local)
    (R : ER C T env s.heap α ρ) (M : MR C s.heap α μ) (hx : (x, i) ∈ T) (r : VR s.heap α v y)
    (h : ∀ h' tk', Stp [env.locals] α s.heap α h' → MR C h' α μ → ER C T env h' α (upd ρ i y) → Q () { s with heap := h', toks := tk' }) :
    wpAny (model C.prog C.w) A (storeName env x v) Q E s := by
  obtain ⟨m, hn, sl⟩ := R.slots
  have nd : ∀ z j, (z, j) ∈ T → (z = x ↔ j = i) := by
    intro z j hz
    obtain ⟨p, hp⟩ := List.mem_iff_getElem?.mp hz
    obtain ⟨q, hq⟩ := List.mem_iff_getElem?.mp hx
    have l1 := (List.getElem?_eq_some_iff.mp hp).1
    have p1 : (T.map (·.1))[p]? = some z := by rw [List.getElem?_map, hp]; rfl
    have q1 : (T.map (·.1))[q]? = some x := by rw [List.getElem?_map, hq]; rfl
    have p2 : (T.map (·.2))[p]? = some j := by rw [List.getElem?_map, hp]; rfl
    have q2 : (T.map (·.2))[q]? = some i := by rw [List.getElem?_map, hq]; rfl
    constructor
    · rintro rfl
      have : p = q := (List.getElem?_inj (by simpa using l1) hn1).mp (p1.trans q1.symm)
      subst this
      rw [hp] at hq; cases hq; rfl
    · rintro rfl
      have : p = q := (List.getElem?_inj (by simpa using l1) hn2).mp (p2.trans q2.symm)
      subst this
      rw [hp] at hq; cases hq; rfl
  refine wpAny_storeName_local hl hn (fun h' hn' hs => ?_) (by show (env.scope.kind == .class || (env.scope.kind == .module && env.locals != env.globals)) = false; rw [R.fn]; rfl)
  have kp : ∀ b o, s.heap.get? b = some o → b ∉ [env.locals] → h'.get? b = some o := fun b o e n => (hs.2 b fun q => n (by rw [q]; exact .head _)).trans e
  have z : NoSeq s.heap [env.locals] := fun a m => R.noSeq a (by rw [List.mem_singleton.mp m]; exact .head _)
  have M' := M.keep z (fun a m => by rw [List.mem_singleton.mp m]; exact R.lal) (fun a m => by rw [List.mem_singleton.mp m]; exact R.lnew) kp
  have tk : TupKeep s.heap h' := fun b o vs n e c d => kp b o e fun m => z b m o e vs n d
  have t1 : Stp [env.locals] α s.heap α h' := Stp.of_keep kp
  refine h h' (s.toks + 1) t1 M' ⟨R.fn, R.gl, R.bi, ⟨_, hn', fun y' j hy => ?_⟩, R.lnew, R.lal, fun y' c' hy => ?_, R.apart⟩
  · rw [look_upd]
    by_cases e : y' = x
    · subst e
      rw [if_pos ((nd y' j hy).mp rfl), if_pos rfl]
      exact .inl ⟨hl, (OS.mk r).up tk fun _ _ e => e⟩
    · rw [if_neg fun q => e ((nd y' j hy).mpr q), if_neg e]
      rcases sl y' j hy with ⟨a, b⟩ | ⟨a, c', v', e', hc', b⟩
      · exact .inl ⟨a, b.up tk fun _ _ e => e⟩
      · exact .inr ⟨a, c', v', e', hc'.sameBut hs (R.cells y' c' (mem_of_lookup e')).2.2.1, b.up tk fun _ _ e => e⟩
  · obtain ⟨a, b, d, v', e⟩ := R.cells y' c' hy
    exact ⟨a, b, d, v', e.sameBut hs d⟩

/-! for -/
noncomputable def forGo (i : Nat) (f : StF) : Nat → It → StF
  | 0, _, _, _ => none
  | n + 1, I, ρ, μ => match nextI I μ with
    | none => none
    | some none => some (.nx, ρ, μ)
    | some (some (x, I')) => match f (upd ρ i x) μ with
      | none => none
      | some (.nx, ρ₁, μ₁) => forGo i f n I' ρ₁ μ₁
      | some (.rt v, ρ₁, μ₁) => some (.rt v, ρ₁, μ₁)
noncomputable def forS (N i : Nat) (fi : ItF) (f : StF) : StF := fun ρ μ => match fi ρ μ with
  | none => none
  | some (I, μ₁) => forGo i f N I ρ μ₁

theorem base_none {α : List Addr} {μ : Mem} {h : Heap} (M : MR C h α μ) {a : Addr} (e : h.get? a = none) : C.base.get? a = none := by
  cases q : C.base.get? a with
  | none => rfl
  | some o => rw [M.ext a o q] at e; cases e
/-- the iterator's turn, seen by the frame -/
theorem kp_one {env : Env} {α : List Addr} {ρ : Rho} {μ : Mem} {h h' : Heap} {it : Addr} (R : ER C T env h α ρ) (M : MR C h α μ) (kp : Kp [it] h h') (z : NoSeq h [it]) (hα : it ∉ α) (hb : C.base.get? it = none) (ho : it ∉ Mine.own env) :
    MR C h' α μ ∧ ER C T env h' α ρ ∧ Stp [it] α h α h' := by
  have t : Stp [it] α h α h' := Stp.of_keep kp
  exact ⟨M.keep z (fun a m => by rw [List.mem_singleton.mp m]; exact hα) (fun a m => by rw [List.mem_singleton.mp m]; exact hb) kp, R.stp M t z fun a m q => ho (by rw [← List.mem_singleton.mp q]; exact m), t⟩

theorem denS_for {x : Str} {np pos : Pos} {iter : Expr} {body : List Stmt} {N i : Nat} {fi : ItF} {f : StF} (hi : DenI C k sc T iter fi) (hf : DenL C k sc T body f) (hx : (x, i) ∈ T) (hn1 : (T.map (·.1)).Nodup) (hn2 : (T.map (·.2)).Nodup)
    (hnf : sc.names.lookup x ≠ some .free) (hs : ∀ env x, foldedSetIterable iter env x = pure x) : DenS C k sc T (.For (.Name x np) iter body [] pos) (forS N i fi f) := by
  intro env A s α ρ μ y ρ' μ' Q E hsc hr R M hh h
  unfold forS at hh
  cases e0 : fi ρ μ with
  | none => rw [e0] at hh; cases hh
  | some p =>
    obtain ⟨I₀, μ₀⟩ := p
    rw [e0] at hh
    dsimp only at hh
    refine wpAny_For (hi env A s α ρ μ I₀ μ₀ _ E hsc hr R M e0 fun it α₀ h₀ tk₀ t₀ M₀ IR₀ fr off => ?_) (hs env)
    have R₀ := R.stp0 M t₀
    have hb : C.base.get? it = none := base_none M fr
    have hoi : it ∉ Mine.own env := fun m => by obtain ⟨o, e⟩ := R.alive it m; rw [e] at fr; cases fr
    refine codeAny_forLoop (fun n s₁ => ∃ α₁ h₁ tk₁ ρ₁ μ₁ I₁, s₁ = { s with heap := h₁, toks := tk₁ } ∧ Stp (it :: Mine.own env) α s.heap α₁ h₁ ∧ MR C h₁ α₁ μ₁ ∧ ER C T env h₁ α₁ ρ₁ ∧ ItR h₁ α₁ it I₁ ∧ it ∉ α₁ ∧ forGo i f n I₁ ρ₁ μ₁ = some (y, ρ', μ')) ?_ N ⟨α₀, h₀, tk₀, ρ, μ₀, I₀, rfl, ?_, M₀, R₀, IR₀, off, hh⟩
    · rintro n s₁ ⟨α₁, h₁, tk₁, ρ₁, μ₁, I₁, rfl, t₁, M₁, R₁, IR₁, off₁, hg⟩
      have al₁ : ∀ a ∈ it :: Mine.own env, ∃ o, h₁.get? a = some o := fun a m => by
        rcases List.mem_cons.mp m with rfl | m
        · exact IR₁.alive
        · exact R₁.alive a m
      cases n with
      | zero => cases hg
      | succ n =>
        unfold forGo at hg
        cases e1 : nextI I₁ μ₁ with
        | none => rw [e1] at hg; cases hg
        | some r =>
          rw [e1] at hg
          refine next_all (s := { s with heap := h₁, toks := tk₁ }) hr M₁ IR₁ off₁ e1 ?_
          cases r with
          | none =>
            cases hg
            intro h₂ tk₂ kp
            obtain ⟨M₂, R₂, t₂⟩ := kp_one R₁ M₁ kp IR₁.noSeq off₁ hb hoi
            have t₁₂ := t₁.trans (t₂.more (fun a m => by rw [List.mem_singleton.mp m]; exact .head _) fun a m => .inr (al₁ a m))
            have td : Stp (Mine.own env) α s.heap α₁ h₂ := t₁₂.drop (fun a m => .tail _ m) fun a m => (List.mem_cons.mp m).elim (fun q => .inr (by rw [q]; exact fr)) .inl
            exact wpAny_execs_nil (h .next α₁ h₂ tk₂ td M₂ R₂ trivial)
          | some q =>
            obtain ⟨x', I₂⟩ := q
            dsimp only at hg
            intro v h₂ tk₂ kp IR₂ rv
            obtain ⟨M₂, R₂, t₂⟩ := kp_one R₁ M₁ kp IR₁.noSeq off₁ hb hoi
            have t₁₂ := t₁.trans (t₂.more (fun a m => by rw [List.mem_singleton.mp m]; exact .head _) fun a m => .inr (al₁ a m))
            refine wpAny_assign_Name (store_slot (s := { s with heap := h₂, toks := tk₂ }) hn1 hn2 (by unfold Env.kindOf; rw [hsc]; exact hnf) R₂ M₂ hx rv fun h₃ tk₃ t₃ M₃ R₃ => ?_)
            have IR₃ : ItR h₃ α₁ it I₂ := IR₂.up (t₃.tk M₂ R₂.noSeq) (fun _ _ e => e) fun b e => t₃.kp it b e off₁ hoi
            have al₂ : ∀ a ∈ it :: Mine.own env, ∃ o, h₂.get? a = some o := fun a m => by
              rcases List.mem_cons.mp m with rfl | m
              · exact IR₂.alive
              · exact R₂.alive a m
            have t₁₃ := t₁₂.trans (t₃.more (fun a m => .tail _ m) fun a m => .inr (al₂ a m))
            cases e2 : f (upd ρ₁ i x') μ₁ with
            | none => rw [e2] at hg; cases hg
            | some q =>
              obtain ⟨fl, ρ₄, μ₄⟩ := q
              rw [e2] at hg
              refine hf env A _ α₁ _ μ₁ fl ρ₄ μ₄ _ _ hsc hr R₃ M₃ e2 fun fl' α₄ h₄ tk₄ t₄ M₄ R₄ F₄ => ?_
              have al₃ : ∀ a ∈ it :: Mine.own env, ∃ o, h₃.get? a = some o := fun a m => by
                rcases List.mem_cons.mp m with rfl | m
                · exact IR₃.alive
                · exact R₃.alive a m
              have t₁₄ := t₁₃.trans (t₄.more (fun a m => .tail _ m) fun a m => .inr (al₃ a m))
              cases fl with
              | nx =>
                cases fl' <;> first | exact F₄.elim | skip
                have off₄ : it ∉ α₄ := by obtain ⟨o, e⟩ := IR₃.alive; exact t₄.off e off₁
                exact ⟨n, Nat.lt_succ_self _, α₄, h₄, tk₄, ρ₄, μ₄, I₂, rfl, t₁₄, M₄, R₄, IR₃.up (t₄.tk M₃ R₃.noSeq) (fun _ _ e => t₄.get e) (fun b e => t₄.kp it b e off₁ hoi), off₄, hg⟩
              | rt x =>
                cases hg
                cases fl' <;> first | exact F₄.elim | skip
                have td : Stp (Mine.own env) α s.heap α₄ h₄ := t₁₄.drop (fun a m => .tail _ m) fun a m => (List.mem_cons.mp m).elim (fun q => .inr (by rw [q]; exact fr)) .inl
                exact h (.ret _) α₄ h₄ tk₄ td M₄ R₄ F₄
    · have t0' : Stp (Mine.own env) α s.heap α₀ h₀ := Stp.own R t₀
      refine ⟨t0'.pre, fun a m => ?_, fun b o e n ns => t0'.kp b o e n fun z => ns (.tail _ z)⟩
      rcases t0'.new a m with q | ⟨q, qs⟩
      · exact .inl q
      · refine .inr ⟨q, fun z => ?_⟩
        rcases List.mem_cons.mp z with rfl | z
        · exact off m
        · exact qs z
end
end Mine
set_option maxHeartbeats 1000000
set_option maxRecDepth 100000
set_option Elab.async false
set_option linter.unusedVariables false
set_option linter.unusedSimpArgs false
namespace Mine
open PySem PySem.Spec PySem.Calls PyProof.Rows

section
variable {C : Cst} {k : Nat} {sc : Scope} {T : List (Str × Nat)}
variable {A : Around} {E : Value → Shared → Prop} {s : Shared}

noncomputable def nextItem (j i n : Nat) (μ : Mem) : Option (Option (RV × RV)) := match μ[j]? with
  | some (.dct kvs) => if kvs.length = n then match kvs[i]? with
      | some p => some (some (.d (.tuple (p.1.map atomD)), p.2))
      | none => some none
    else none
  | _ => none
noncomputable def itemsGo (ik iv : Nat) (f : StF) (j n : Nat) : Nat → Nat → StF
  | 0, _, _, _ => none
  | m + 1, i, ρ, μ => match nextItem j i n μ with
    | none => none
    | some none => some (.nx, ρ, μ)
    | some (some (x, y)) => match f (upd (upd ρ ik x) iv y) μ with
      | none => none
      | some (.nx, ρ₁, μ₁) => itemsGo ik iv f j n m (i + 1) ρ₁ μ₁
      | some (.rt v, ρ₁, μ₁) => some (.rt v, ρ₁, μ₁)
noncomputable def itemsS (N ik iv : Nat) (fo : ExF) (f : StF) : StF := fun ρ μ => match fo ρ μ with
  | some (.r j, μ₁) => match μ₁[j]? with
    | some (.dct kvs) => itemsGo ik iv f j kvs.length N 0 ρ μ₁
    | _ => none
  | _ => none

noncomputable abbrev IIR (h : Heap) (it d : Addr) (i n : Nat) : Prop := ∃ ok ov, IsItemIter h it d i n n ok ov
theorem IIR.noSeq {h : Heap} {it d : Addr} {i n : Nat} (x : IIR h it d i n) : NoSeq h [it] := by
  intro a m o e vs n q
  rw [List.mem_singleton.mp m] at e
  obtain ⟨ok, ov, ho⟩ := x
  have ho : h.get? it = _ := ho
  rw [e] at ho; cases ho; cases q
theorem IIR.alive {h : Heap} {it d : Addr} {i n : Nat} (x : IIR h it d i n) : ∃ o, h.get? it = some o := let ⟨_, _, e⟩ := x; ⟨_, e⟩
theorem IIR.up {h h' : Heap} {it d : Addr} {i n : Nat} (x : IIR h it d i n) (s : ∀ b, h.get? it = some b → h'.get? it = some b) : IIR h' it d i n := let ⟨a, b, e⟩ := x; ⟨a, b, s _ e⟩

theorem assign_pair {env : Env} {x y : Str} {p1 p2 tp : Pos} {kk : Nat} {t : Addr} {v u : Value} {Q : Unit → Shared → Prop} (hh : A.handled = none) (ht : s.heap.IsTuple t #[v, u])
    (h : ∀ h', Heap.ExtBut s.heap.objs.size s.heap h' → wpAny (model C.prog C.w) A (assign (.Name x p1) env v) (fun _ s₁ => wpAny (model C.prog C.w) A (assign (.Name y p2) env u) Q E s₁) E { s with heap := h' }) :
    wpAny (model C.prog C.w) A (assign (.Tuple [.Name x p1, .Name y p2] kk tp) env (.ref t)) Q E s := by
  refine wpAny_assign_Tuple hh ht rfl rfl fun h' hs => ?_
  show wpAny (model C.prog C.w) A (assignInOrder [assign (.Name x p1) env, assign (.Name y p2) env] [v, u]) Q E { s with heap := h' }
  refine wpAny_assignInOrder_more (wpAny_mono (h h' hs) (fun _ s₁ h₁ => wpAny_assignInOrder_more (wpAny_mono h₁ (fun _ s₂ h₂ => wpAny_assignInOrder_none h₂) fun _ _ e => e)) fun _ _ e => e)

theorem denS_items {o : Expr} {x y : Str} {p1 p2 tp apos cpos pos : Pos} {kk : Nat} {body : List Stmt} {N i j : Nat} {fo : ExF} {f : StF} (hsm : True) (ho : DenE C k sc T o fo) (hbase : ∀ env, attributeBase o "items" env (eval o env) = eval o env) (hline : (apos.endLine == cpos.line) = true)
    (hf : DenL C k sc T body f) (hx : (x, i) ∈ T) (hy : (y, j) ∈ T) (hn1 : (T.map (·.1)).Nodup) (hn2 : (T.map (·.2)).Nodup)
    (hnx : sc.names.lookup x ≠ some .free) (hny : sc.names.lookup y ≠ some .free) (hs : ∀ env x, foldedSetIterable (.Call (.Attribute o "items" apos) [] [] cpos) env x = pure x) :
    DenS C k sc T (.For (.Tuple [.Name x p1, .Name y p2] kk tp) (.Call (.Attribute o "items" apos) [] [] cpos) body [] pos) (itemsS N i j fo f) := by
  intro env A s α ρ μ y' ρ' μ' Q E hsc hr R M hh h
  unfold itemsS at hh
  split at hh
  · rename_i dj μ₀ e1
    split at hh
    · rename_i kvs e2
      refine wpAny_For ?_ (hs env)
      refine wpAny_Call_method0_late (hbase env) hline (ho env A s α ρ μ _ _ _ E hsc hr R M e1 fun v α₀ h₀ tk₀ t₀ M₀ r₀ => ?_)
      obtain ⟨sT, sd⟩ := dict_self (s := { s with heap := h₀, toks := tk₀ }) M₀ r₀ e2
      obtain ⟨a, rfl, hi, xs, dx, kv⟩ := VR.obj M₀ r₀ e2
      obtain ⟨es, raw, hsz, hes⟩ := dx.raw
      have hl := kv.len
      rw [hl] at raw hsz
      refine ⟨"dict", "dict.items", F.plainAttrs_dict, F.slot_dict_items, rfl, sT, sd, ?_⟩
      refine Calls.callWith_builtin (by simp) (PySem.evalArgs_none ?_)
      have hm := not_modules M₀ hsm (List.mem_of_getElem? hi)
      refine call_meetsIn F.slot_dict_items (rawD_type (s := { s with heap := h₀, toks := tk₀ }) raw) F.entry_dict_items (F.args_dict_items_1 _) (raw_items hm) ⟨⟨es, _, raw⟩, ?_⟩
      refine raw_iter_items (s := { s with heap := h₀.push _, toks := tk₀ }) ⟨_, Heap.get?_push_size _ rfl, rfl, rfl⟩ (es := es) (ep := kvs.length) (let ⟨o, ho, r⟩ := raw; ⟨o, Heap.get?_push_of_some _ ho, r⟩) ?_
      rw [hsz]
      clear raw hsz hes es dx kv xs hl
      have t₁ : Stp [] α s.heap α₀ (h₀.push { cls := .type "dict_items", data := .fields #[.ref a] }) := t₀.trans (Stp.push _)
      have M₁ := M₀.push { cls := .type "dict_items", data := .fields #[.ref a] }
      generalize hH : h₀.push { cls := .type "dict_items", data := .fields #[.ref a] } = h₁ at t₁ M₁
      have IR₂ : IIR (h₁.push { cls := .type "dict_itemiterator", data := .fields #[.none, .bool false, .ref a, .int 0 0, .int kvs.length 0, .int kvs.length 0, .none, .none] }) h₁.objs.size a 0 kvs.length := ⟨.none, .none, Heap.get?_push_size _ rfl⟩
      have M₂ := M₁.push { cls := .type "dict_itemiterator", data := .fields #[.none, .bool false, .ref a, .int 0 0, .int kvs.length 0, .int kvs.length 0, .none, .none] }
      have t₂ : Stp [] α s.heap α₀ (h₁.push { cls := .type "dict_itemiterator", data := .fields #[.none, .bool false, .ref a, .int 0 0, .int kvs.length 0, .int kvs.length 0, .none, .none] }) := t₁.trans (Stp.push _)
      have fr : s.heap.get? h₁.objs.size = none := t₁.fresh M₁ fresh_size
      have off : h₁.objs.size ∉ α₀ := M₁.off_size
      show codeAny (model C.prog C.w) A (.forLoop _ (.ref h₁.objs.size) body [] env) _ { s with heap := h₁.push _, toks := tk₀ }
      revert IR₂ M₂ t₂ fr off
      generalize h₁.push { cls := .type "dict_itemiterator", data := .fields #[.none, .bool false, .ref a, .int 0 0, .int kvs.length 0, .int kvs.length 0, .none, .none] } = h₂
      generalize h₁.objs.size = it
      intro IR₂ M₂ t₂ fr off
      clear hH t₁ M₁ h₁ sT sd r₀ M₀ t₀ hm e2
      have R₂ := R.stp0 M t₂
      have hb : C.base.get? it = none := base_none M fr
      have hoi : it ∉ Mine.own env := fun m => by obtain ⟨o, e⟩ := R.alive it m; rw [e] at fr; cases fr
      generalize kvs.length = n₀ at hh IR₂
      refine codeAny_forLoop_any (fun n s₁ => ∃ α₁ h₁ tk₁ ρ₁ μ₁ i₁, s₁ = { s with heap := h₁, toks := tk₁ } ∧ Stp (it :: Mine.own env) α s.heap α₁ h₁ ∧ MR C h₁ α₁ μ₁ ∧ ER C T env h₁ α₁ ρ₁ ∧ IIR h₁ it a i₁ n₀ ∧ α₁[dj]? = some a ∧ it ∉ α₁ ∧ itemsGo i j f dj n₀ n i₁ ρ₁ μ₁ = some (y', ρ', μ')) ?_ N ⟨α₀, h₂, tk₀, ρ, μ₀, 0, rfl, ?_, M₂, R₂, IR₂, hi, off, hh⟩
      · rintro n s₁ ⟨α₁, h₁, tk₁, ρ₁, μ₁, i₁, rfl, t₁, M₁, R₁, IR₁, hi₁, off₁, hg⟩
        have al₁ : ∀ a ∈ it :: Mine.own env, ∃ o, h₁.get? a = some o := fun a m => by
          rcases List.mem_cons.mp m with rfl | m
          · exact IR₁.alive
          · exact R₁.alive a m
        cases n with
        | zero => cases hg
        | succ n =>
          unfold itemsGo at hg
          cases e1 : nextItem dj i₁ n₀ μ₁ with
          | none => rw [e1] at hg; cases hg
          | some r =>
            rw [e1] at hg
            unfold nextItem at e1
            split at e1
            · rename_i kvs e2
              split at e1
              · rename_i hl
                subst hl
                obtain ⟨xs, dx, kv⟩ := M₁.obj dj a _ hi₁ e2
                obtain ⟨es, raw, hsz, hes⟩ := dx.raw
                have hl := kv.len
                rw [hl] at raw hsz
                obtain ⟨ok, ov, hit⟩ := id IR₁
                split at e1
                · rename_i p e3
                  cases e1
                  obtain ⟨b, v, ex, rv⟩ := kv.get e3
                  have he := hes i₁
                  rw [ex] at he
                  have hkey : IsTupleKey (mixKind C.prog C.w) h₁ p.1 b := by
                    obtain ⟨o, es', ho', hc', hd', he', his, _⟩ := dx
                    exact his _ (List.mem_of_getElem? ex)
                  have kr := key_reads hkey
                  rw [← hsz] at hit raw
                  refine items_turn (s := { s with heap := h₁, toks := tk₁ }) hr.hd hit raw (fun x h₂ hxe hout htup hz2 hk2 => ?_) fun _ hxe _ => nomatch he.symm.trans hxe
                  cases he.symm.trans hxe
                  have kp : Kp [it] h₁ h₂ := fun b o e n => hk2 b o (fun q => n (by rw [q]; exact .head _)) e
                  obtain ⟨M₂, R₂, t₂⟩ := kp_one R₁ M₁ kp IR₁.noSeq off₁ hb hoi
                  have tk2 := TupKeep.of_kp kp IR₁.noSeq
                  have kr₂ := reads_tk tk2 rfl kr
                  have rv₂ := rv.up tk2 fun _ _ e => e
                  refine wpAny_letOwnedTupleGo_items (s := { s with heap := h₂, toks := tk₁ }) hout fun h₃ hit₃ hs₃ => ?_
                  have z₂ : NoSeq h₂ [it] := by
                    intro a' m o e vs n q
                    rw [List.mem_singleton.mp m] at e
                    have ho : h₂.get? it = _ := hout
                    rw [e] at ho; cases ho; cases q
                  obtain ⟨M₃, R₃, t₃⟩ := kp_one R₂ M₂ (Kp.sameBut hs₃) z₂ off₁ hb hoi
                  have tk3 := TupKeep.of_kp (Kp.sameBut hs₃) z₂
                  have kr₃ := reads_tk tk3 rfl kr₂
                  have rv₃ := rv₂.up tk3 fun _ _ e => e
                  have ntit : h₁.objs.size ≠ it := fun q => by obtain ⟨o, e⟩ := IR₁.alive; exact absurd (Heap.lt_size e) (by rw [q]; exact Nat.lt_irrefl _)
                  have htup₃ : h₃.IsTuple h₁.objs.size #[.ref b, v] := ⟨_, hs₃.extBut _ _ ntit htup, rfl, 0, rfl⟩
                  have IR₃ : IIR h₃ it a (i₁ + 1) kvs.length := ⟨_, _, by rw [hsz] at hit₃; exact hit₃⟩
                  refine assign_pair (s := { s with heap := h₃, toks := tk₁ }) hr.hd htup₃ fun h₄ hs₄ => ?_
                  have kp₄ : ∀ b o, h₃.get? b = some o → h₄.get? b = some o := fun b o e => hs₄ b o (Nat.ne_of_lt (Heap.lt_size e)) e
                  have M₄ := M₃.keeps kp₄
                  have t₄ : Stp [] α₁ h₃ α₁ h₄ := Stp.keeps kp₄
                  have R₄ := R₃.stp0 M₃ t₄
                  have kr₄ := Reads.keeps kp₄ kr₃
                  have rv₄ := rv₃.stp M₃ t₄
                  have IR₄ := IR₃.up fun b e => kp₄ it b e
                  refine wpAny_assign_Name (store_slot (s := { s with heap := h₄, toks := tk₁ }) hn1 hn2 (by unfold Env.kindOf; rw [hsc]; exact hnx) R₄ M₄ hx (y := .d (.tuple (p.1.map atomD))) kr₄ fun h₅ tk₅ t₅ M₅ R₅ => ?_)
                  have rv₅ := rv₄.up (t₅.tk M₄ R₄.noSeq) fun _ _ e => e
                  have IR₅ := IR₄.up fun b e => t₅.kp it b e off₁ hoi
                  refine wpAny_assign_Name (store_slot (s := { s with heap := h₅, toks := tk₅ }) hn1 hn2 (by unfold Env.kindOf; rw [hsc]; exact hny) R₅ M₅ hy rv₅ fun h₆ tk₆ t₆ M₆ R₆ => ?_)
                  have IR₆ := IR₅.up fun b e => t₆.kp it b e off₁ hoi
                  have al₂ : ∀ a ∈ it :: Mine.own env, ∃ o, h₂.get? a = some o := fun a m => by
                    rcases List.mem_cons.mp m with rfl | m
                    · exact ⟨_, hout⟩
                    · exact R₂.alive a m
                  have sub1 : ∀ a ∈ [it], a ∈ it :: Mine.own env := fun a m => by rw [List.mem_singleton.mp m]; exact .head _
                  have tt := (t₁.trans (t₂.more sub1 fun a m => .inr (al₁ a m))).trans (t₃.more sub1 fun a m => .inr (al₂ a m))
                  have al₃ : ∀ a ∈ it :: Mine.own env, ∃ o, h₃.get? a = some o := fun a m => by
                    rcases List.mem_cons.mp m with rfl | m
                    · exact IR₃.alive
                    · exact R₃.alive a m
                  have al₄ : ∀ a ∈ it :: Mine.own env, ∃ o, h₄.get? a = some o := fun a m => by
                    rcases List.mem_cons.mp m with rfl | m
                    · exact IR₄.alive
                    · exact R₄.alive a m
                  have al₅ : ∀ a ∈ it :: Mine.own env, ∃ o, h₅.get? a = some o := fun a m => by
                    rcases List.mem_cons.mp m with rfl | m
                    · exact IR₅.alive
                    · exact R₅.alive a m
                  have al₆ : ∀ a ∈ it :: Mine.own env, ∃ o, h₆.get? a = some o := fun a m => by
                    rcases List.mem_cons.mp m with rfl | m
                    · exact IR₆.alive
                    · exact R₆.alive a m
                  have tt6 := ((tt.trans (t₄.more (fun _ m => nomatch m) fun a m => .inr (al₃ a m))).trans (t₅.more (fun a m => .tail _ m) fun a m => .inr (al₄ a m))).trans (t₆.more (fun a m => .tail _ m) fun a m => .inr (al₅ a m))
                  dsimp only at hg
                  cases e4 : f (upd (upd ρ₁ i (.d (.tuple (p.1.map atomD)))) j p.2) μ₁ with
                  | none => rw [e4] at hg; cases hg
                  | some q =>
                    obtain ⟨fl, ρ₇, μ₇⟩ := q
                    rw [e4] at hg
                    refine hf env A _ α₁ _ μ₁ fl ρ₇ μ₇ _ _ hsc hr R₆ M₆ e4 fun fl' α₇ h₇ tk₇ t₇ M₇ R₇ F₇ => ?_
                    have tt7 := tt6.trans (t₇.more (fun a m => .tail _ m) fun a m => .inr (al₆ a m))
                    cases fl with
                    | nx =>
                      cases fl' <;> first | exact F₇.elim | skip
                      have off₇ : it ∉ α₇ := by obtain ⟨o, e⟩ := IR₆.alive; exact t₇.off e off₁
                      exact ⟨n, Nat.lt_succ_self _, α₇, h₇, tk₇, ρ₇, μ₇, i₁ + 1, rfl, tt7, M₇, R₇, IR₆.up (fun b e => t₇.kp it b e off₁ hoi), t₇.get hi₁, off₇, hg⟩
                    | rt x =>
                      cases hg
                      cases fl' <;> first | exact F₇.elim | skip
                      have td : Stp (Mine.own env) α s.heap α₇ h₇ := tt7.drop (fun a m => .tail _ m) fun a m => (List.mem_cons.mp m).elim (fun q => .inr (by rw [q]; exact fr)) .inl
                      exact h (.ret _) α₇ h₇ tk₇ td M₇ R₇ F₇
                · rename_i e3
                  cases e1
                  cases hg
                  rw [← hsz] at hit raw
                  have none : es[i₁]? = none := Array.getElem?_eq_none (by rw [hsz]; exact List.getElem?_eq_none_iff.mp e3)
                  refine items_turn (s := { s with heap := h₁, toks := tk₁ }) hr.hd hit raw (fun _ _ hx _ _ _ _ => nomatch none.symm.trans hx) fun h₂ _ hs₂ => ?_
                  obtain ⟨M₂, R₂, t₂⟩ := kp_one R₁ M₁ (Kp.extBut hs₂) IR₁.noSeq off₁ hb hoi
                  have t₁₂ := t₁.trans (t₂.more (fun a m => by rw [List.mem_singleton.mp m]; exact .head _) fun a m => .inr (al₁ a m))
                  have td : Stp (Mine.own env) α s.heap α₁ h₂ := t₁₂.drop (fun a m => .tail _ m) fun a m => (List.mem_cons.mp m).elim (fun q => .inr (by rw [q]; exact fr)) .inl
                  exact wpAny_execs_nil (h .next α₁ h₂ tk₁ td M₂ R₂ trivial)
              · cases e1
            · cases e1
      · have t0' : Stp (Mine.own env) α s.heap α₀ h₂ := Stp.own R t₂
        refine ⟨t0'.pre, fun a m => ?_, fun b o e n ns => t0'.kp b o e n fun z => ns (.tail _ z)⟩
        rcases t0'.new a m with q | ⟨q, qs⟩
        · exact .inl q
        · refine .inr ⟨q, fun z => ?_⟩
          rcases List.mem_cons.mp z with rfl | z
          · exact off m
          · exact qs z
    · cases hh
  · cases hh
end
end Mine
set_option maxHeartbeats 1000000
set_option maxRecDepth 100000
set_option Elab.async false
set_option linter.unusedVariables false
set_option linter.unusedSimpArgs false
namespace Mine
open PySem PySem.Spec PySem.Calls PyProof.Rows

noncomputable def kput (ks : List Atom) (x : RV) (p : List Atom × RV) : List Atom × RV := if p.1 = ks then (p.1, x) else p
noncomputable def kset (kvs : List (List Atom × RV)) (ks : List Atom) (x : RV) : List (List Atom × RV) := if (kget kvs ks).isSome then kvs.map (kput ks x) else kvs ++ [(ks, x)]
theorem KVs.map_put {h : Heap} {α : List Addr} {xs : List (List Atom × Addr × Value)} {kvs : List (List Atom × RV)} (r : KVs h α xs kvs) {ks : List Atom} {v : Value} {x : RV} (q : VR h α v x) : KVs h α (xs.map (putAt ks v)) (kvs.map (kput ks x)) := by
  induction r with
  | nil => exact .nil
  | @cons k a u y vs ys p _ ih =>
    show KVs h α (putAt ks v (k, a, u) :: _) (kput ks x (k, y) :: _)
    unfold putAt kput
    by_cases e : k = ks
    · rw [if_pos e, if_pos e]; exact .cons q ih
    · rw [if_neg e, if_neg e]; exact .cons p ih
theorem KVs.snoc {h : Heap} {α : List Addr} {xs : List (List Atom × Addr × Value)} {kvs : List (List Atom × RV)} (r : KVs h α xs kvs) {ks : List Atom} {a : Addr} {v : Value} {x : RV} (q : VR h α v x) : KVs h α (xs ++ [(ks, a, v)]) (kvs ++ [(ks, x)]) := by
  induction r with
  | nil => exact .cons q .nil
  | cons p _ ih => exact .cons p ih
theorem KVs.stored {h : Heap} {α : List Addr} {xs : List (List Atom × Addr × Value)} {kvs : List (List Atom × RV)} (r : KVs h α xs kvs) {ks : List Atom} {a : Addr} {v : Value} {x : RV} (q : VR h α v x) : KVs h α (storedH xs ks a v) (kset kvs ks x) := by
  have is := or_some (kget_at r ks)
  rw [Option.isSome_map] at is
  unfold storedH kset
  rw [is]
  split
  · exact r.map_put q
  · exact r.snoc q

section
variable {prog : Program} {w : World} {K : Type} [DecidableEq K] {knd : HeapKind prog w K} {A : Around} {E : Value → Shared → Prop} {s : Shared}
/-- the dict `d` of the heap, with these entries and keys -/
structure DictX (knd : HeapKind prog w K) (h : Heap) (d : Addr) (o : Obj) (es : Array DictEntry) (xs : List (K × Addr × Value)) : Prop where
  at' : h.get? d = some o
  exact' : o.ExactDict
  data : o.data = .dict es xs.length
  list : es.toList = xs.map (entryOfKey knd)
  keys : ∀ x ∈ xs, knd.is h x.1 x.2.1
  nodup : (xs.map (·.1)).Nodup
theorem DictX.dictE {h : Heap} {d : Addr} {o : Obj} {es : Array DictEntry} {xs : List (K × Addr × Value)} (x : DictX knd h d o es xs) : DictE knd h d xs := ⟨o, es, x.at', x.exact', x.data, x.list, x.keys, x.nodup⟩
theorem DictE.dictX {h : Heap} {d : Addr} {xs : List (K × Addr × Value)} : DictE knd h d xs → ∃ o es, DictX knd h d o es xs
  | ⟨o, es, a, b, c, e, f, g⟩ => ⟨o, es, a, b, c, e, f, g⟩
/-- a key more -/
theorem DictX.grow {h : Heap} {d a : Addr} {o : Obj} {es : Array DictEntry} {xs : List (K × Addr × Value)} (x : DictX knd h d o es xs) {k : K} {v : Value} (hk : knd.is h k a) (hno : ∀ (j : Nat) (p : Addr × Value), xs[j]? ≠ some (k, p)) :
    DictE knd (h.update d (Obj.mapDictKeys (·.push ⟨knd.hash k, .ref a, v⟩))) d (storedH xs k a v) := by
  have sb := Heap.SameBut.update h d (Obj.mapDictKeys (·.push ⟨knd.hash k, .ref a, v⟩))
  have dt := Obj.data_mapDictKeys x.data (·.push ⟨knd.hash k, .ref a, v⟩)
  rw [storedH_new (atKey_none_of_get hno)]
  refine DictX.dictE (es := es.push ⟨knd.hash k, .ref a, v⟩) { at' := Heap.get?_update_self _ x.at' (Obj.isFreed_of_dict dt), exact' := x.exact'.mapDictKeys _, data := ?_, list := ?_, keys := fun y m => ?_, nodup := ?_ }
  · rw [dt]; simp
  · simp [x.list, entryOfKey]
  · have ky : knd.is h y.1 y.2.1 := by
      rcases List.mem_append.mp m with m | m
      · exact x.keys y m
      · cases List.mem_singleton.mp m; exact hk
    exact knd.keeps ky x.at' x.data sb
  · have off := not_mem_keys_of_get hno
    rw [List.map_append, List.nodup_append]
    refine ⟨x.nodup, by simp, fun p mp q mq e => off ?_⟩
    have eq : q = k := List.mem_singleton.mp mq
    rw [← eq, ← e]; exact mp
/-- a value for another -/
theorem DictX.swap {h : Heap} {d a : Addr} {o : Obj} {es : Array DictEntry} {xs : List (K × Addr × Value)} (x : DictX knd h d o es xs) {k : K} {v : Value} {j : Nat} {p : Addr × Value} (hj : xs[j]? = some (k, p)) :
    DictE knd (h.update d (Obj.mapDict (·.modify j fun e => { e with val := v }))) d (storedH xs k a v) := by
  have sb := Heap.SameBut.update h d (Obj.mapDict (·.modify j fun e => { e with val := v }))
  have dt := Obj.data_mapDict x.data (·.modify j fun e => { e with val := v })
  rw [storedH_old (atKey_of_get x.nodup hj)]
  refine DictX.dictE (es := es.modify j fun e => { e with val := v }) { at' := Heap.get?_update_self _ x.at' (Obj.isFreed_of_dict dt), exact' := x.exact'.mapDict _, data := ?_, list := ?_, keys := fun y m => ?_, nodup := ?_ }
  · rw [dt, List.length_map]
  · rw [Array.toList_modify, x.list]
    exact modify_map_putAt (entryOfKey knd) (fun e : DictEntry => { e with val := v }) k v (fun _ _ => rfl) x.nodup hj
  · obtain ⟨z, mz, rfl⟩ := List.mem_map.mp m
    have kz := knd.keeps (x.keys z mz) x.at' x.data sb
    unfold putAt
    by_cases e : z.1 = k
    · rw [if_pos e]; exact kz
    · rw [if_neg e]; exact kz
  · rw [keys_map_putAt]; exact x.nodup
theorem dictSet_E {d a : Addr} {xs : List (K × Addr × Value)} {k : K} {v : Value} {Q : Unit → Shared → Prop} (hu : knd.room A) (hkey : knd.is s.heap k a) (hm : DictE knd s.heap d xs)
    (hQ : ∀ h', DictE knd h' d (storedH xs k a v) → Heap.SameBut d s.heap h' → Q () { s with heap := h', toks := s.toks + knd.draws k })
    (hsz : xs.length ≤ sizeLine) : wpAny (model prog w) A (dictSet d (.ref a) v) Q E s := by
  obtain ⟨o, es, x⟩ := hm.dictX
  refine wpAny_holding (wpAny_bind (knd.pyHash hu hkey (wpAny_holding (wpAny_bind (wpAny_dictFind_heap (s := { s with toks := s.toks + knd.draws k }) hu hkey x.at' x.data x.list x.keys x.nodup (fun hno => ?_) fun j p hj => ?_)))))
  · exact wpAny_bind (wpAny_rule (wpAny_updateDictKeys (hz := by rw [size_of_entries x.list]; exact hsz) (s := { s with toks := s.toks + knd.draws k }) x.at' x.data (hQ _ (x.grow hkey hno) (Heap.SameBut.update ..))))
  · exact wpAny_bind (wpAny_rule (wpAny_bind (wpAny_updateDict (s := { s with toks := s.toks + knd.draws k }) x.at' x.data (wpAny_point (hQ _ (x.swap hj) (Heap.SameBut.update ..))))))
/-- a dict's `__setitem__`, by its body -/
theorem setItem_by {d : Addr} {key v : Value} {Q : Unit → Shared → Prop} (hT : s.TypeIs (.ref d) "dict") (h : wpAny (model prog w) A.in1 (dictSet d key v) (fun _ => Q ()) E s) : wpAny (model prog w) A (setItem (.ref d) key v) Q E s := by
  have body : wpAny (model prog w) A.in1 (dictSet d key v >>= fun _ => ret .none) (fun fin s' => ∃ r, fin = .done (.ret r) ∧ wpAny (model prog w) A (pure ()) Q E s') E s :=
    wpAny_bind (wpAny_mono h (fun _ _ q => wpAny_pure ⟨.none, rfl, wpAny_pure q⟩) fun _ _ q => q)
  refine wpAny_holding (wpAny_bind (wpAny_sequenceKey hT (by decide) (wpAny_bind (wpAny_callSpecial?_slot (name := Str.ofString "__setitem__") hT slot_dict_setitem (wpAny_call_entry slot_dict_setitem hT entry_dict_setitem ?_ (args_dict_setitem _ _ _))))))
  exact wpAny_bind (wpAny_notOrdered_dict hT body)
theorem setItem_E {d a : Addr} {xs : List (K × Addr × Value)} {k : K} {v : Value} {Q : Unit → Shared → Prop} (hu : knd.room A.in1) (hkey : knd.is s.heap k a) (hm : DictE knd s.heap d xs)
    (hQ : ∀ h', DictE knd h' d (storedH xs k a v) → Heap.SameBut d s.heap h' → Q () { s with heap := h', toks := s.toks + knd.draws k })
    (hsz : xs.length ≤ sizeLine) : wpAny (model prog w) A (setItem (.ref d) (.ref a) v) Q E s := setItem_by hm.of.typeIs (dictSet_E hu hkey hm hQ hsz)
end

section
variable {C : Cst} {k : Nat} {sc : Scope} {T : List (Str × Nat)}
variable {A : Around} {E : Value → Shared → Prop} {s : Shared}

/-- a dict of ours is written -/
theorem put_dict {α : List Addr} {μ : Mem} {i : Nat} {a b : Addr} {kvs : List (List Atom × RV)} {xs : List (List Atom × Addr × Value)} {ks : List Atom} {v : Value} {x : RV} {h' : Heap} (M : MR C s.heap α μ) (hi : α[i]? = some a)
    (kv : KVs s.heap α xs kvs) (rv : VR s.heap α v x) (hd : DictE (tupleKind (mixKind C.prog C.w)) h' a (storedH xs ks b v)) (hs : Heap.SameBut a s.heap h') :
    Stp [] α s.heap α h' ∧ MR C h' α (μ.set i (.dct (kset kvs ks x))) := by
  have tk : TupKeep s.heap h' := fun b o vs n e c d => (hs.2 b fun q => by subst q; exact M.notTuple (List.mem_of_getElem? hi) e c).trans e
  exact ⟨Stp.put (List.mem_of_getElem? hi) hs, M.put hi hs ⟨_, hd, (kv.stored rv).up tk fun _ _ e => e⟩⟩

/-- the place in a dict: its index and key -/
noncomputable def place (o i : RV) (μ : Mem) : Option (Nat × List Atom × List (List Atom × RV)) := match o, i with
  | .r j, .d (.tuple ds) => match atomsOf ds with
    | none => none
    | some ks => match μ[j]? with
      | some (.dct kvs) => if kvs.length ≤ 1000 then some (j, ks, kvs) else none
      | _ => none
  | _, _ => none
theorem place_some {o i : RV} {μ : Mem} {j : Nat} {ks : List Atom} {kvs : List (List Atom × RV)} (h : place o i μ = some (j, ks, kvs)) : ∃ ds, o = .r j ∧ i = .d (.tuple ds) ∧ atomsOf ds = some ks ∧ μ[j]? = some (.dct kvs) ∧ kvs.length ≤ 1000 := by
  unfold place at h
  split at h
  · rename_i j' ds
    split at h
    · cases h
    · rename_i ks' e
      split at h
      · rename_i kvs' e'
        split at h
        · rename_i hl
          cases h
          exact ⟨ds, rfl, rfl, e, e', hl⟩
        · cases h
      · cases h
  · cases h
theorem set_place {α : List Addr} {μ : Mem} {o i x : RV} {ov iv v : Value} {j : Nat} {ks : List Atom} {kvs : List (List Atom × RV)} {Q : Unit → Shared → Prop} (hr : Room k A) (M : MR C s.heap α μ) (ro : VR s.heap α ov o) (ri : VR s.heap α iv i) (rv : VR s.heap α v x)
    (hp : place o i μ = some (j, ks, kvs)) (h : ∀ h' tk', Stp [] α s.heap α h' → MR C h' α (μ.set j (.dct (kset kvs ks x))) → Q () { s with heap := h', toks := tk' }) : wpAny (model C.prog C.w) A (setItem ov iv v) Q E s := by
  obtain ⟨ds, rfl, rfl, e1, e2, hl⟩ := place_some hp
  obtain ⟨a, rfl, hi, xs, dx, kv⟩ := VR.obj M ro e2
  obtain ⟨b, rfl, hk⟩ := key_of (C := C) ri e1
  refine setItem_E (knd := tupleKind (mixKind C.prog C.w)) (by show A.units + 1 < cLine; have := hr.un; omega) hk dx (fun h' hd hs => ?_) (by rw [kv.len]; exact Nat.le_trans hl sizeLine_ge)
  have z := put_dict M hi kv rv hd hs
  exact h h' _ z.1 z.2

noncomputable def setItemS (fv fo fi : ExF) : StF := fun ρ μ => match fv ρ μ with
  | none => none
  | some (x, μ₁) => match fo ρ μ₁ with
    | none => none
    | some (o, μ₂) => match fi ρ μ₂ with
      | none => none
      | some (i, μ₃) => match place o i μ₃ with
        | none => none
        | some (j, ks, kvs) => some (.nx, ρ, μ₃.set j (.dct (kset kvs ks x)))
theorem denS_setItem {o i v : Expr} {p1 pos : Pos} {fo fi fv : ExF} (hv : DenE C k sc T v fv) (ho : DenE C k sc T o fo) (hi : DenE C k sc T i fi) (hs : ∀ env, swapsWith v (some (.Subscript o i p1)) pos.line env = pure false) :
    DenS C k sc T (.Assign [.Subscript o i p1] v pos) (setItemS fv fo fi) := by
  intro env A s α ρ μ y ρ' μ' Q E hsc hr R M hh h
  unfold setItemS at hh
  cases e1 : fv ρ μ with
  | none => rw [e1] at hh; cases hh
  | some q1 =>
    obtain ⟨x, μ₁⟩ := q1
    rw [e1] at hh
    dsimp only at hh
    cases e2 : fo ρ μ₁ with
    | none => rw [e2] at hh; cases hh
    | some q2 =>
      obtain ⟨xo, μ₂⟩ := q2
      rw [e2] at hh
      dsimp only at hh
      cases e3 : fi ρ μ₂ with
      | none => rw [e3] at hh; cases hh
      | some q3 =>
        obtain ⟨xi, μ₃⟩ := q3
        rw [e3] at hh
        dsimp only at hh
        cases e4 : place xo xi μ₃ with
        | none => rw [e4] at hh; cases hh
        | some q4 =>
          obtain ⟨j, ks, kvs⟩ := q4
          rw [e4] at hh
          cases hh
          refine wpAny_Assign_Subscript ?_ (hs env)
          refine hv env A s α ρ μ x μ₁ _ E hsc hr R M e1 fun v α₁ h₁ tk₁ t₁ M₁ r₁ => ?_
          have R₁ := R.stp0 M t₁
          refine ho env A _ α₁ ρ μ₁ xo μ₂ _ E hsc hr R₁ M₁ e2 fun ov α₂ h₂ tk₂ t₂ M₂ r₂ => ?_
          have R₂ := R₁.stp0 M₁ t₂
          refine hi env A _ α₂ ρ μ₂ xi μ₃ _ E hsc hr R₂ M₂ e3 fun iv α₃ h₃ tk₃ t₃ M₃ r₃ => ?_
          have R₃ := R₂.stp0 M₂ t₃
          refine set_place (s := { s with heap := h₃, toks := tk₃ }) hr M₃ (r₂.stp M₂ t₃) r₃ ((r₁.stp M₁ t₂).stp M₂ t₃) e4 fun h₄ tk₄ t₄ M₄ => ?_
          exact h .next α₃ h₄ tk₄ (Stp.own R (((t₁.trans t₂).trans t₃).trans t₄)) M₄ (R₃.stp0 M₃ t₄) trivial

/-- d[k] += e, ints -/
noncomputable def augItemS (fo fi fv : ExF) : StF := fun ρ μ => match fo ρ μ with
  | none => none
  | some (o, μ₁) => match fi ρ μ₁ with
    | none => none
    | some (i, μ₂) => match place o i μ₂ with
      | none => none
      | some (j, ks, kvs) => match kget kvs ks with
        | some (.d (.int a)) => match fv ρ μ₂ with
          | some (.d (.int b), μ₃) => match place o i μ₃ with
            | none => none
            | some (j', ks', kvs') => some (.nx, ρ, μ₃.set j' (.dct (kset kvs' ks' (.d (.int (a + b))))))
          | _ => none
        | _ => none
theorem denS_augItem {o i v : Expr} {p1 pos : Pos} {fo fi fv : ExF} (hv : DenE C k sc T v fv) (ho : DenE C k sc T o fo) (hi : DenE C k sc T i fi)
    (ha : ∀ ov iv new, augStore i ov iv new = (do holding [new, ov, iv] (setItem ov iv new); release [new, ov, iv] []; pure .next)) :
    DenS C k sc T (.AugAssign (.Subscript o i p1) .Add v pos) (augItemS fo fi fv) := by
  intro env A s α ρ μ y ρ' μ' Q E hsc hr R M hh h
  unfold augItemS at hh
  cases e1 : fo ρ μ with
  | none => rw [e1] at hh; cases hh
  | some q1 =>
    obtain ⟨xo, μ₁⟩ := q1
    rw [e1] at hh
    dsimp only at hh
    cases e2 : fi ρ μ₁ with
    | none => rw [e2] at hh; cases hh
    | some q2 =>
      obtain ⟨xi, μ₂⟩ := q2
      rw [e2] at hh
      dsimp only at hh
      cases e3 : place xo xi μ₂ with
      | none => rw [e3] at hh; cases hh
      | some q3 =>
        obtain ⟨j, ks, kvs⟩ := q3
        rw [e3] at hh
        dsimp only at hh
        split at hh
        · rename_i a e4
          split at hh
          · rename_i b μ₃ e5
            cases e6 : place xo xi μ₃ with
            | none => rw [e6] at hh; cases hh
            | some q6 =>
              obtain ⟨j', ks', kvs'⟩ := q6
              rw [e6] at hh
              cases hh
              refine wpAny_AugAssign_Subscript_any ?_ ha
              refine ho env A s α ρ μ xo μ₁ _ E hsc hr R M e1 fun ov α₁ h₁ tk₁ t₁ M₁ r₁ => ?_
              have R₁ := R.stp0 M t₁
              refine hi env A _ α₁ ρ μ₁ xi μ₂ _ E hsc hr R₁ M₁ e2 fun iv α₂ h₂ tk₂ t₂ M₂ r₂ => ?_
              have R₂ := R₁.stp0 M₁ t₂
              have r₁' := r₁.stp M₁ t₂
              obtain ⟨ds, rfl, rfl, p1', p2', hl⟩ := place_some e3
              obtain ⟨c, rfl, hci, xs, dx, kv⟩ := VR.obj M₂ r₁' p2'
              obtain ⟨b', rfl, hk⟩ := key_of (C := C) r₂ p1'
              have o4 := kget_at kv ks
              rw [e4] at o4
              cases q : atKey xs ks with
              | none => rw [q] at o4; exact o4.elim
              | some p =>
                rw [q] at o4
                have o4 : VR h₂ α₂ p.2 (.d (.int a)) := o4
                refine wpAny_getItem_heap (knd := tupleKind (mixKind C.prog C.w)) (by show A.units + 1 < cLine; have := hr.un; omega) hk dx.of q ?_
                obtain ⟨t, ep⟩ := reads_int o4
                rw [ep]
                refine hv env A _ α₂ ρ μ₂ _ μ₃ _ E hsc hr R₂ M₂ e5 fun v α₃ h₃ tk₃ t₃ M₃ r₃ => ?_
                obtain ⟨u, rfl⟩ := reads_int r₃
                have R₃ := R₂.stp0 M₂ t₃
                refine wpAny_iadd_int ?_
                refine set_place (s := { s with heap := h₃, toks := tk₃ + 1 }) (x := .d (.int (a + b))) hr M₃ (r₁'.stp M₂ t₃) (r₂.stp M₂ t₃) (Reads.int ..) e6 fun h₄ tk₄ t₄ M₄ => ?_
                exact h .next α₃ h₄ tk₄ (Stp.own R (((t₁.trans t₂).trans t₃).trans t₄)) M₄ (R₃.stp0 M₃ t₄) trivial
          · cases hh
        · cases hh

/-! displays -/
theorem dictE_new {prog : Program} {w : World} {K : Type} [DecidableEq K] {knd : HeapKind prog w K} (h : Heap) : DictE knd (h.push { cls := .type "dict", data := .dict #[] }) h.objs.size [] :=
  ⟨_, #[], Heap.get?_push_size _ rfl, ⟨rfl, rfl, rfl⟩, rfl, rfl, fun _ hx => by simp at hx, List.nodup_nil⟩
theorem new_dict {h : Heap} {α : List Addr} {μ : Mem} (M : MR C h α μ) :
    MR C (h.push { cls := .type "dict", data := .dict #[] }) (α ++ [h.objs.size]) (μ ++ [.dct []]) ∧ VR (h.push { cls := .type "dict", data := .dict #[] }) (α ++ [h.objs.size]) (.ref h.objs.size) (.r μ.length) := by
  refine ⟨M.alloc ⟨[], dictE_new h, .nil⟩, h.objs.size, ?_, rfl⟩
  rw [← M.len, List.getElem?_append_right (Nat.le_refl _), Nat.sub_self]; rfl
noncomputable def dict0E : ExF := fun _ μ => some (.r μ.length, μ ++ [.dct []])
theorem den_dict0 {pos : Pos} : DenE C k sc T (.Dict [] [] pos) dict0E := by
  intro env A s α ρ μ z μ' Q E hsc hr R M hg h
  cases hg
  have n := new_dict M
  exact wpAny_Dict_empty (h _ _ _ s.toks (Stp.alloc _) n.1 n.2)
noncomputable def dict1E (fk fv : ExF) : ExF := fun ρ μ => match fk ρ (μ ++ [.dct []]) with
  | none => none
  | some (i, μ₁) => match fv ρ μ₁ with
    | none => none
    | some (x, μ₂) => match place (.r μ.length) i μ₂ with
      | none => none
      | some (j, ks, kvs) => some (.r μ.length, μ₂.set j (.dct (kset kvs ks x)))
theorem den_dict1 {key val : Expr} {pos : Pos} {fk fv : ExF} (hk : DenE C k sc T key fk) (hv : DenE C k sc T val fv) : DenE C k sc T (.Dict [some key] [val] pos) (dict1E fk fv) := by
  intro env A s α ρ μ z μ' Q E hsc hr R M hg h
  unfold dict1E at hg
  cases e1 : fk ρ (μ ++ [.dct []]) with
  | none => rw [e1] at hg; cases hg
  | some p =>
    obtain ⟨xi, μ₁⟩ := p
    rw [e1] at hg
    dsimp only at hg
    cases e2 : fv ρ μ₁ with
    | none => rw [e2] at hg; cases hg
    | some q =>
      obtain ⟨x, μ₂⟩ := q
      rw [e2] at hg
      dsimp only at hg
      cases e3 : place (.r μ.length) xi μ₂ with
      | none => rw [e3] at hg; cases hg
      | some q3 =>
        obtain ⟨j, ks, kvs⟩ := q3
        rw [e3] at hg
        cases hg
        have n := new_dict M
        have t₀ : Stp [] α s.heap (α ++ [s.heap.objs.size]) (s.heap.push { cls := .type "dict", data := .dict #[] }) := Stp.alloc _
        have R₀ := R.stp0 M t₀
        refine wpAny_Dict_any rfl rfl (by simp) (by show 1 ≤ 15; decide) ?_
        show wpAny _ _ (evalPairs [(eval key env, do let x ← eval val env; standAt pos; pure x)]) _ _ _
        unfold evalPairs
        refine wpAny_bind (hk env A { s with heap := s.heap.push { cls := .type "dict", data := .dict #[] } } _ ρ _ xi μ₁ _ E hsc hr R₀ n.1 e1 fun kv α₁ h₁ tk₁ t₁ M₁ r₁ => ?_)
        refine wpAny_bind (wpAny_holding (wpAny_bind ?_))
        refine hv env A _ α₁ ρ μ₁ x μ₂ _ E hsc hr (R₀.stp0 n.1 t₁) M₁ e2 fun vv α₂ h₂ tk₂ t₂ M₂ r₂ => ?_
        refine wpAny_bind (wpAny_standAt (wpAny_pure ?_))
        refine wpAny_bind (wpAny_holding ?_)
        unfold evalPairs
        refine wpAny_pure (wpAny_pure ?_)
        obtain ⟨ds, ej, rfl, p1, p2, hl⟩ := place_some e3
        cases ej
        have rr := (n.2.stp n.1 t₁).stp M₁ t₂
        obtain ⟨a, ea, hi, xs, dx, kvr⟩ := VR.obj M₂ rr p2
        obtain ⟨b, rfl, hkey⟩ := key_of (C := C) (r₁.stp M₁ t₂) p1
        have ea' : s.heap.objs.size = a := by injection ea
        subst ea'
        unfold storeAll
        refine wpAny_bind (m := dictSet s.heap.objs.size (.ref b) vv >>= fun _ => pure (ForInStep.yield PUnit.unit)) ?_
        refine wpAny_bind (dictSet_E (s := { s with heap := h₂, toks := tk₂ }) (knd := tupleKind (mixKind C.prog C.w)) (by show A.units < cLine; have := hr.un; omega) hkey dx (fun h₃ hd hs => ?_) (by rw [kvr.len]; exact Nat.le_trans hl sizeLine_ge))
        have z := put_dict (s := { s with heap := h₂, toks := tk₂ }) M₂ hi kvr r₂ hd hs
        refine wpAny_pure (wpAny_pure ?_)
        exact h _ α₂ h₃ _ (((t₀.trans t₁).trans t₂).trans z.1) z.2 ⟨_, hi, rfl⟩
end
end Mine
set_option maxHeartbeats 1000000
set_option maxRecDepth 100000
set_option Elab.async false
set_option linter.unusedVariables false
set_option linter.unusedSimpArgs false
namespace Mine
open PySem PySem.Spec PySem.Calls PyProof.Rows

noncomputable def innerN (e iter : Expr) (depth : Nat) (acc : Value) (env : Env) (kk : Sem Fin) : Sem Fin := do
  let x ← eval iter env
  standAt iter.pos
  let x ← foldedSetIterable iter env x
  let it ← holding [x] (pyIter x)
  let _ ← runOwn (.compStart e (depth + 1) it acc env) env
  kk
noncomputable def innerL (elt : Expr) (acc : Value) (env : Env) (kk : Sem Fin) : Sem Fin := do
  (do let x ← eval elt env; let _ ← call (.builtin "list.append") [acc, x])
  kk
/-- what a turn of a list comprehension does, told by what must hold behind each of its steps -/
noncomputable def TurnIs (C : Cst) (e : Expr) (depth : Nat) (target : Expr) (ifs : List Expr) (inner : Value → Env → Sem Fin → Sem Fin) : Prop :=
  ∀ (A : Around) (it acc : Value) (env : Env) (P : PySem.Fin → Shared → Prop) (E : Value → Shared → Prop) (s : Shared),
    wpAny (model C.prog C.w) A (pyNext it) (fun r s₁ => match r with
      | none => P (.done .next) s₁
      | some v => wpAny (model C.prog C.w) A (letOwnedTupleGo target it v) (fun _ s₂ => wpAny (model C.prog C.w) A (assign target env v) (fun _ s₃ =>
        wpAny (model C.prog C.w) A (forIn ifs true fun c r => if r = true then do let ok ← PySem.isTrue c env (eval c env); pure (ForInStep.yield ok) else pure (ForInStep.yield r))
          (fun ok s₄ => wpAny (model C.prog C.w) A (cond ok (inner acc env (again (.compLoop e depth it acc env))) (again (.compLoop e depth it acc env))) P E s₄) E s₃) E s₂) E s₁) E s →
    wpAny (model C.prog C.w) A (compTurn e depth it acc env) P E s

theorem turn_next {C : Cst} {elt target iter t' i' : Expr} {gens : List Comprehension} {ifs f' : List Expr} {scope : Scope} {pos : Pos} {depth : Nat} (hg : gens[depth]? = some ⟨target, iter, ifs, 0⟩) (hg' : gens[depth + 1]? = some ⟨t', i', f', 0⟩) :
    TurnIs C (.ListComp elt gens scope pos) depth target ifs (innerN (.ListComp elt gens scope pos) i' depth) := by
  intro A it acc env P E s h
  unfold compTurn
  dsimp only
  rw [hg, hg']
  refine wpAny_bind (wpAny_standAt (wpAny_bind (wpAny_mono h (fun r s₁ q => ?_) fun _ _ e => e)))
  cases r with
  | none => exact wpAny_pure q
  | some v =>
    refine wpAny_bind (wpAny_mono q (fun _ s₂ q => wpAny_bind (wpAny_mono q (fun _ s₃ q => wpAny_bind (wpAny_mono q (fun ok s₄ q => ?_) fun _ _ e => e)) fun _ _ e => e)) fun _ _ e => e)
    cases ok <;> exact q
theorem turn_last {C : Cst} {elt target iter : Expr} {gens : List Comprehension} {ifs : List Expr} {scope : Scope} {pos : Pos} {depth : Nat} (hg : gens[depth]? = some ⟨target, iter, ifs, 0⟩) (hg' : gens[depth + 1]? = none) :
    TurnIs C (.ListComp elt gens scope pos) depth target ifs (innerL elt) := by
  intro A it acc env P E s h
  unfold compTurn
  dsimp only
  rw [hg, hg']
  refine wpAny_bind (wpAny_standAt (wpAny_bind (wpAny_mono h (fun r s₁ q => ?_) fun _ _ e => e)))
  cases r with
  | none => exact wpAny_pure q
  | some v =>
    refine wpAny_bind (wpAny_mono q (fun _ s₂ q => wpAny_bind (wpAny_mono q (fun _ s₃ q => wpAny_bind (wpAny_mono q (fun ok s₄ q => ?_) fun _ _ e => e)) fun _ _ e => e)) fun _ _ e => e)
    cases ok <;> exact q

noncomputable def clo (env : Env) : List (Str × NameKind) → List (Str × Addr) → List (Str × Addr)
  | [], cs => cs
  | (n, k) :: r, cs => if k == .free then clo env r ((n, (env.cells.lookup n).getD 0) :: cs) else clo env r cs
theorem closureFor_clo {scope : Scope} {env : Env} (h : ∀ x ∈ scope.names, x.2 = .free → ∃ c, env.cells.lookup x.1 = some c) : closureFor scope env = pure (clo env scope.names []) := by
  have key : ∀ (names : List (Str × NameKind)) (cs : List (Str × Addr)), (∀ x ∈ names, x.2 = .free → ∃ c, env.cells.lookup x.1 = some c) →
      (forIn names cs fun (x : Str × NameKind) (r : List (Str × Addr)) => (do
        if x.2 == .free then do
          let y ← cellOf env x.1
          pure (ForInStep.yield ((x.1, y) :: r))
        else pure (ForInStep.yield r) : Sem (ForInStep (List (Str × Addr))))) = (pure (clo env names cs) : Sem _) := by
    intro names
    induction names with
    | nil => intro cs _; rfl
    | cons x r ih =>
      intro cs hx
      obtain ⟨n, k⟩ := x
      rw [List.forIn_cons]
      unfold clo
      by_cases hk : k = .free
      · subst hk
        obtain ⟨c, hc⟩ := hx _ (.head _) rfl
        have e1 : cellOf env n = pure c := by unfold cellOf; rw [hc]
        simp only [beq_self_eq_true, if_true, e1, pure_bind, hc, Option.getD_some]
        exact ih _ fun x m => hx x (.tail _ m)
      · have e1 : (k == NameKind.free) = false := by cases k <;> first | rfl | exact absurd rfl hk
        simp only [e1, Bool.false_eq_true, if_false, pure_bind]
        exact ih _ fun x m => hx x (.tail _ m)
  have := key scope.names [] h
  unfold closureFor
  simp only
  simpa using this
section
variable {prog : Program} {w : World} {A : Around} {E : Value → Shared → Prop} {R : Result → Shared → Prop} {s : Shared}
/-- a clause's start, whichever of the two ways the setting takes -/
theorem starts {e : Expr} {c : Comprehension} {it acc : Value} {env : Env} {depth : Nat} {P : PySem.Fin → Shared → Prop} (he : (clausesOf e)[depth]? = some c) (hc : c.is_async = 0) (h0 : P (.again (.compLoop e depth it acc env)) s)
    (h : wpAny (model prog w) A (pyIter it) (fun it' => P (.again (.compLoop e depth it' acc env))) E s) : wpAny (model prog w) A (compStart e depth it acc env) P E s := by
  have sync : (some c).elim false (·.is_async != 0) = false := by show (c.is_async != 0) = false; rw [hc]; rfl
  have slow : wpAny (model prog w) A (standAt c.iter.pos >>= fun _ => pyIter it >>= fun it' => again (.compLoop e depth it' acc env)) P E s :=
    wpAny_bind (wpAny_standAt (wpAny_bind (wpAny_mono h (fun _ _ q => wpAny_pure q) fun _ _ q => q)))
  unfold compStart
  rw [he, sync]
  simp only [Bool.false_eq_true, if_false]
  refine wpAny_bind (wpAny_askSetting ?_)
  split
  · exact wpAny_pure h0
  · exact wpAny_bind (wpAny_rule slow)
theorem compStart_at {elt target iter : Expr} {gens : List Comprehension} {ifs : List Expr} {scope : Scope} {pos : Pos} {it acc : Value} {env : Env} {depth : Nat} (hg : gens[depth]? = some ⟨target, iter, ifs, 0⟩)
    (h0 : codeAny (model prog w) A (.compLoop (.ListComp elt gens scope pos) depth it acc env) R s)
    (h : wpAny (model prog w) A (pyIter it) (fun it' s' => codeAny (model prog w) A (.compLoop (.ListComp elt gens scope pos) depth it' acc env) R s')
      (notedBy (model prog w) A env fun x s' => R (.error x) s') s) :
    codeAny (model prog w) A (.compStart (.ListComp elt gens scope pos) depth it acc env) R s :=
  codeAny_of_tree (wpAny_notedAt (starts (e := .ListComp elt gens scope pos) hg rfl ⟨rfl, h0⟩ (wpAny_mono h (fun _ _ q => ⟨rfl, q⟩) fun _ _ q => q)))
end

theorem ER.weak {C : Cst} {T : List (Str × Nat)} {env : Env} {h : Heap} {α : List Addr} {ρ ρ' : Rho} (R : ER C T env h α ρ) (hw : ∀ i y, look ρ' i = some y → look ρ i = some y) : ER C T env h α ρ' := by
  refine ⟨R.fn, R.gl, R.bi, ?_, R.lnew, R.lal, R.cells, R.apart⟩
  obtain ⟨m, hn, sl⟩ := R.slots
  refine ⟨m, hn, fun x i hx => ?_⟩
  rcases sl x i hx with ⟨a, b⟩ | ⟨a, c, v, e, hc, b⟩
  · exact .inl ⟨a, fun y q => b y (hw i y q)⟩
  · exact .inr ⟨a, c, v, e, hc, fun y q => b y (hw i y q)⟩
theorem weak_upd {ρ : Rho} {i : Nat} {x : RV} (hi : look ρ i = none) : ∀ j y, look ρ j = some y → look (upd ρ i x) j = some y := fun j y e => by
  rw [look_upd, if_neg fun q => by subst q; rw [hi] at e; cases e]; exact e

section
variable {C : Cst} {k : Nat} {sc : Scope} {T : List (Str × Nat)}
variable {A : Around} {E : Value → Shared → Prop} {s : Shared}

noncomputable abbrev AcF := Nat → Rho → Mem → Option Mem
/-- what is done in a turn of a comprehension, with what comes behind it -/
noncomputable def DenC (C : Cst) (k : Nat) (sc : Scope) (T : List (Str × Nat)) (inner : Value → Env → Sem Fin → Sem Fin) (f : AcF) : Prop :=
  ∀ (env : Env) (A : Around) (s : Shared) (α : List Addr) (ρ : Rho) (μ : Mem) (j : Nat) (acc : Value) (μ' : Mem) (kk : Sem Fin) (Q : Fin → Shared → Prop) (E : Value → Shared → Prop),
    env.scope = sc → Room k A → ER C T env s.heap α ρ → MR C s.heap α μ → VR s.heap α acc (.r j) → f j ρ μ = some μ' →
    (∀ α' h' tk', Stp [env.locals] α s.heap α' h' → MR C h' α' μ' → ER C T env h' α' ρ → wpAny (model C.prog C.w) A kk Q E { s with heap := h', toks := tk' }) →
    wpAny (model C.prog C.w) A (inner acc env kk) Q E s
noncomputable def DenT (C : Cst) (k : Nat) (sc : Scope) (T : List (Str × Nat)) (ifs : List Expr) (f : BoF) : Prop :=
  ∀ (env : Env) (A : Around) (s : Shared) (α : List Addr) (ρ : Rho) (μ : Mem) (x : Bool) (μ' : Mem) (Q : Bool → Shared → Prop) (E : Value → Shared → Prop),
    env.scope = sc → Room k A → ER C T env s.heap α ρ → MR C s.heap α μ → f ρ μ = some (x, μ') →
    (∀ α' h' tk', Stp [] α s.heap α' h' → MR C h' α' μ' → Q x { s with heap := h', toks := tk' }) →
    wpAny (model C.prog C.w) A (forIn ifs true fun c r => if r = true then do let ok ← PySem.isTrue c env (eval c env); pure (ForInStep.yield ok) else pure (ForInStep.yield r)) Q E s
noncomputable def noT : BoF := fun _ μ => some (true, μ)
theorem denT_nil : DenT C k sc T [] noT := by
  intro env A s α ρ μ z μ' Q E hsc hr R M hf h
  cases hf
  exact wpAny_tests_nil (h α s.heap s.toks (Stp.refl ..) M)
theorem denT_one {c : Expr} {f : BoF} (hc : DenB C k sc T c f) : DenT C k sc T [c] f := by
  intro env A s α ρ μ z μ' Q E hsc hr R M hf h
  exact wpAny_tests_one (hc env A s α ρ μ z μ' Q E hsc hr R M hf h)

theorem Stp.loc {env : Env} {α α' : List Addr} {h h' : Heap} {ρ : Rho} (R : ER C T env h α ρ) (t : Stp [] α h α' h') : Stp [env.locals] α h α' h' :=
  t.more (fun _ m => nomatch m) fun a m => .inr (R.alive a (by rw [List.mem_singleton.mp m]; exact .head _))
theorem ER.noLoc {env : Env} {α : List Addr} {h : Heap} {ρ : Rho} (R : ER C T env h α ρ) : NoSeq h [env.locals] := fun a m => R.noSeq a (by rw [List.mem_singleton.mp m]; exact .head _)

noncomputable def lastC (f : ExF) : AcF := fun j ρ μ => match f ρ μ with
  | none => none
  | some (x, μ₁) => match fAppend [.r j, x] μ₁ with
    | none => none
    | some (_, μ₂) => some μ₂
theorem denC_last {elt : Expr} {f : ExF} (hf : DenE C k sc T elt f) : DenC C k sc T (fun acc env kk => innerL elt acc env kk) (lastC f) := by
  intro env A s α ρ μ j acc μ' kk Q E hsc hr R M ra hh h
  unfold lastC at hh
  cases e1 : f ρ μ with
  | none => rw [e1] at hh; cases hh
  | some p =>
    obtain ⟨x, μ₁⟩ := p
    rw [e1] at hh
    dsimp only at hh
    cases e2 : fAppend [.r j, x] μ₁ with
    | none => rw [e2] at hh; cases hh
    | some q =>
      obtain ⟨y, μ₂⟩ := q
      rw [e2] at hh
      cases hh
      show wpAny _ _ (innerL elt acc env kk) _ _ _
      unfold innerL
      refine wpAny_bind (wpAny_bind (hf env A s α ρ μ x μ₁ _ _ hsc hr R M e1 fun v α₁ h₁ tk₁ t₁ M₁ r₁ => wpAny_bind ?_))
      refine ok_append (k := k) A _ α₁ μ₁ [acc, v] [.r j, x] y _ _ _ hr M₁ (.cons (ra.stp M t₁) (.cons r₁ .nil)) e2 fun u α₂ h₂ tk₂ t₂ M₂ r₂ => wpAny_pure ?_
      exact h α₂ h₂ tk₂ (Stp.loc R (t₁.trans t₂)) M₂ ((R.stp0 M t₁).stp0 M₁ t₂)

noncomputable def loopGo (i : Nat) (tb : BoF) (f : AcF) : Nat → It → AcF
  | 0, _, _, _, _ => none
  | n + 1, I, j, ρ, μ => match nextI I μ with
    | none => none
    | some none => some μ
    | some (some (x, I')) => match tb (upd ρ i x) μ with
      | none => none
      | some (false, μ₁) => loopGo i tb f n I' j ρ μ₁
      | some (true, μ₁) => match f j (upd ρ i x) μ₁ with
        | none => none
        | some μ₂ => loopGo i tb f n I' j ρ μ₂

theorem comp_loop {elt : Expr} {gens : List Comprehension} {ifs : List Expr} {scope : Scope} {x : Str} {px pos : Pos} {depth i : Nat} {inner : Value → Env → Sem Fin → Sem Fin} {tb : BoF} {f : AcF}
    (heq : TurnIs C (.ListComp elt gens scope pos) depth (.Name x px) ifs inner)
    (ht : DenT C k sc T ifs tb) (hc : DenC C k sc T inner f) (hx : (x, i) ∈ T) (hn1 : (T.map (·.1)).Nodup) (hn2 : (T.map (·.2)).Nodup) (hl : sc.names.lookup x = some .local)
    {env : Env} {α : List Addr} {ρ : Rho} {μ : Mem} {j : Nat} {acc : Value} {μ' : Mem} {it : Addr} {I : It} {N : Nat} {RR : Result → Shared → Prop}
    (hsc : env.scope = sc) (hr : Room k A) (R : ER C T env s.heap α ρ) (M : MR C s.heap α μ) (ra : VR s.heap α acc (.r j)) (IR : ItR s.heap α it I) (off : it ∉ α) (hb : C.base.get? it = none) (hoi : it ∉ Mine.own env) (hi : look ρ i = none)
    (hh : loopGo i tb f N I j ρ μ = some μ')
    (h : ∀ α' h' tk', Stp [it, env.locals] α s.heap α' h' → MR C h' α' μ' → ER C T env h' α' ρ → RR (.ok .next) { s with heap := h', toks := tk' }) :
    codeAny (model C.prog C.w) A (.compLoop (.ListComp elt gens scope pos) depth (.ref it) acc env) RR s := by
  have hil : it ≠ env.locals := fun q => hoi (by rw [q]; exact .head _)
  refine codeAny_loop rfl (fun n s₁ => ∃ α₁ h₁ tk₁ μ₁ I₁, s₁ = { s with heap := h₁, toks := tk₁ } ∧ Stp [it, env.locals] α s.heap α₁ h₁ ∧ MR C h₁ α₁ μ₁ ∧ ER C T env h₁ α₁ ρ ∧ ItR h₁ α₁ it I₁ ∧ it ∉ α₁ ∧ VR h₁ α₁ acc (.r j) ∧ loopGo i tb f n I₁ j ρ μ₁ = some μ') ?_ N ⟨α, s.heap, s.toks, μ, I, rfl, Stp.refl .., M, R, IR, off, ra, hh⟩
  rintro n s₁ ⟨α₁, h₁, tk₁, μ₁, I₁, rfl, t₁, M₁, R₁, IR₁, off₁, ra₁, hg⟩
  show wpAny _ A ((compTurn (.ListComp elt gens scope pos) depth (.ref it) acc env).onRaise (fun x => do noteFrame x env; theTreesLotGoes x)) _ _ _
  refine wpAny_noted ?_
  refine heq A (.ref it) acc env _ _ _ ?_
  have alOf : ∀ {h₁ : Heap} {α₁ : List Addr} {I₁ : It}, ItR h₁ α₁ it I₁ → ∀ (ρ : Rho), ER C T env h₁ α₁ ρ → ∀ a ∈ [it, env.locals], ∃ o, h₁.get? a = some o := fun IR _ R a m => by
    rcases List.mem_cons.mp m with rfl | m
    · exact IR.alive
    · exact R.alive a (by rw [List.mem_singleton.mp m]; exact .head _)
  have subI : ∀ a ∈ [it], a ∈ [it, env.locals] := fun a m => by rw [List.mem_singleton.mp m]; exact .head _
  have subL : ∀ a ∈ [env.locals], a ∈ [it, env.locals] := fun a m => .tail _ m
  cases n with
  | zero => cases hg
  | succ n =>
    unfold loopGo at hg
    cases e1 : nextI I₁ μ₁ with
    | none => rw [e1] at hg; cases hg
    | some r =>
      rw [e1] at hg
      refine next_all (s := { s with heap := h₁, toks := tk₁ }) hr M₁ IR₁ off₁ e1 ?_
      cases r with
      | none =>
        cases hg
        intro h₂ tk₂ kp
        obtain ⟨M₂, R₂, t₂⟩ := kp_one R₁ M₁ kp IR₁.noSeq off₁ hb hoi
        exact h α₁ h₂ tk₂ (t₁.trans (t₂.more subI fun a m => .inr (alOf IR₁ _ R₁ a m))) M₂ R₂
      | some q =>
        obtain ⟨x', I₂⟩ := q
        dsimp only at hg
        intro v h₂ tk₂ kp IR₂ rv
        obtain ⟨M₂, R₂, t₂⟩ := kp_one R₁ M₁ kp IR₁.noSeq off₁ hb hoi
        have ra₂ : VR h₂ α₁ acc (.r j) := ra₁.up (TupKeep.of_kp kp IR₁.noSeq) fun _ _ e => e
        have t₁₂ := t₁.trans (t₂.more subI fun a m => .inr (alOf IR₁ _ R₁ a m))
        refine wpAny_of_eq (a := ()) rfl ?_
        refine wpAny_assign_Name (store_local (s := { s with heap := h₂, toks := tk₂ }) hn1 hn2 (by unfold Env.kindOf; rw [hsc]; exact hl) R₂ M₂ hx rv fun h₃ tk₃ t₃ M₃ R₃ => ?_)
        have tk3 := t₃.tk M₂ R₂.noLoc
        have itl : it ∉ [env.locals] := fun m => hil (List.mem_singleton.mp m)
        have IR₃ : ItR h₃ α₁ it I₂ := IR₂.up tk3 (fun _ _ e => e) fun b e => t₃.kp it b e off₁ itl
        have ra₃ := ra₂.up tk3 fun _ _ e => e
        have t₁₃ := t₁₂.trans (t₃.more subL fun a m => .inr (alOf IR₂ _ R₂ a m))
        cases e2 : tb (upd ρ i x') μ₁ with
        | none => rw [e2] at hg; cases hg
        | some q =>
          obtain ⟨b, μ₄⟩ := q
          rw [e2] at hg
          refine ht env A { s with heap := h₃, toks := tk₃ } α₁ _ μ₁ b μ₄ _ _ hsc hr R₃ M₃ e2 fun α₄ h₄ tk₄ t₄ M₄ => ?_
          have R₄ := R₃.stp0 M₃ t₄
          have off₄ : it ∉ α₄ := by obtain ⟨o, e⟩ := IR₃.alive; exact t₄.off e off₁
          have IR₄ : ItR h₄ α₄ it I₂ := IR₃.up (t₄.tk0 M₃) (fun _ _ e => t₄.get e) fun b e => t₄.kp it b e off₁ fun m => nomatch m
          have ra₄ := ra₃.stp M₃ t₄
          have t₁₄ := t₁₃.trans (t₄.more (fun _ m => nomatch m) fun a m => .inr (alOf IR₃ _ R₃ a m))
          cases b with
          | false =>
            exact wpAny_pure ⟨rfl, n, Nat.lt_succ_self _, α₄, h₄, tk₄, μ₄, I₂, rfl, t₁₄, M₄, R₄.weak (weak_upd hi), IR₄, off₄, ra₄, hg⟩
          | true =>
            dsimp only at hg
            cases e3 : f j (upd ρ i x') μ₄ with
            | none => rw [e3] at hg; cases hg
            | some μ₅ =>
              rw [e3] at hg
              refine hc env A { s with heap := h₄, toks := tk₄ } α₄ _ μ₄ j acc μ₅ _ _ _ hsc hr R₄ M₄ ra₄ e3 fun α₅ h₅ tk₅ t₅ M₅ R₅ => ?_
              have off₅ : it ∉ α₅ := by obtain ⟨o, e⟩ := IR₄.alive; exact t₅.off e off₄
              have IR₅ : ItR h₅ α₅ it I₂ := IR₄.up (t₅.tk M₄ R₄.noLoc) (fun _ _ e => t₅.get e) fun b e => t₅.kp it b e off₄ itl
              have ra₅ := ra₄.up (t₅.tk M₄ R₄.noLoc) fun _ _ e => t₅.get e
              have t₁₅ := t₁₄.trans (t₅.more subL fun a m => .inr (alOf IR₄ _ R₄ a m))
              exact wpAny_pure ⟨rfl, n, Nat.lt_succ_self _, α₅, h₅, tk₅, μ₅, I₂, rfl, t₁₅, M₅, R₅.weak (weak_upd hi), IR₅, off₅, ra₅, hg⟩
end
end Mine
set_option maxHeartbeats 1000000
set_option maxRecDepth 100000
set_option Elab.async false
set_option linter.unusedVariables false
set_option linter.unusedSimpArgs false
namespace Mine
open PySem PySem.Spec PySem.Calls PyProof.Rows

theorem Stp.widen {S α α' : List Addr} {h h' : Heap} (t : Stp [] α h α' h') (hS : ∀ a ∈ S, a ∈ α' → a ∈ α) : Stp S α h α' h' :=
  ⟨t.pre, fun a m => by
    by_cases n : a ∈ α
    · exact .inl n
    · rcases t.new a m with q | ⟨q, _⟩
      · exact .inl q
      · exact .inr ⟨q, fun z => n (hS a z m)⟩, fun b o e n _ => t.kp b o e n fun m => nomatch m⟩

theorem clo_sound {env : Env} : ∀ (names : List (Str × NameKind)) (cs : List (Str × Addr)), (∀ p ∈ cs, env.cells.lookup p.1 = some p.2) → (∀ x ∈ names, x.2 = .free → ∃ c, env.cells.lookup x.1 = some c) →
    ∀ p ∈ clo env names cs, env.cells.lookup p.1 = some p.2
  | [], cs, h, _ => h
  | (n, k) :: r, cs, h, hn => by
    unfold clo
    split
    · rename_i hk
      obtain ⟨c, hc⟩ := hn _ (.head _) (by simpa using hk)
      refine clo_sound r _ (fun p m => ?_) fun x m => hn x (.tail _ m)
      rcases List.mem_cons.mp m with rfl | m
      · show env.cells.lookup n = some ((env.cells.lookup n).getD 0)
        rw [hc]; rfl
      · exact h p m
    · exact clo_sound r cs h fun x m => hn x (.tail _ m)
theorem clo_keeps {env : Env} : ∀ (names : List (Str × NameKind)) (cs : List (Str × Addr)) (p : Str × Addr), p ∈ cs → p ∈ clo env names cs
  | [], cs, p, m => m
  | (n, k) :: r, cs, p, m => by
    unfold clo
    split
    · exact clo_keeps r _ p (.tail _ m)
    · exact clo_keeps r _ p m
theorem clo_has {env : Env} : ∀ (names : List (Str × NameKind)) (cs : List (Str × Addr)) (x : Str) (c : Addr), (x, NameKind.free) ∈ names → env.cells.lookup x = some c → (x, c) ∈ clo env names cs
  | [], cs, x, c, m, _ => nomatch m
  | (n, k) :: r, cs, x, c, m, hc => by
    unfold clo
    rcases List.mem_cons.mp m with q | m
    · cases q
      rw [if_pos (by rfl)]
      exact clo_keeps r _ _ (by rw [hc]; exact .head _)
    · split
      · exact clo_has r _ x c m hc
      · exact clo_has r _ x c m hc
theorem lookup_of_mem {β : Type} : ∀ {l : List (Str × β)} {x : Str} {c : β}, (x, c) ∈ l → (∀ p ∈ l, p.1 = x → p.2 = c) → l.lookup x = some c
  | [], _, _, m, _ => nomatch m
  | (n, d) :: r, x, c, m, h => by
    by_cases e : x = n
    · subst e
      have := h _ (.head _) rfl
      simp only at this
      subst this
      simp [List.lookup_cons]
    · have e' : (x == n) = false := by simpa using e
      rw [List.lookup_cons, e']
      rcases List.mem_cons.mp m with q | m
      · cases q; exact absurd rfl e
      · exact lookup_of_mem m fun p m => h p (.tail _ m)

noncomputable def reS (scope sc : Scope) : Scope :=
  { scope with names := scope.names.map fun (n, k) => if (k == .free && sc.kind == .function && sc.names.lookup n == some .cell) then (n, .cell) else (n, k) }

noncomputable def okI : It → Bool
  | .vals .. => false
  | _ => true

section
variable {C : Cst} {k : Nat} {sc : Scope} {T : List (Str × Nat)}
variable {A : Around} {E : Value → Shared → Prop} {s : Shared}

theorem iter_self {α : List Addr} {it : Addr} {I : It} {Q : Value → Shared → Prop} (R : ItR s.heap α it I) (ok : okI I = true) (h : Q (.ref it) s) : wpAny (model C.prog C.w) A (pyIter (.ref it)) Q E s := by
  cases I with
  | lst j i => obtain ⟨l, _, hit⟩ := R; exact wpAny_pyIter_listiter hit h
  | tup ds => obtain ⟨t, vs, i, hit, _⟩ := R; exact wpAny_pyIter_tupleiter hit h
  | rng a n => exact wpAny_pyIter_rangeiter R h
  | vals j i n => cases ok

noncomputable def loopF (N i : Nat) (fi : ItF) (tb : BoF) (f : AcF) : AcF := fun j ρ μ => match look ρ i with
  | some _ => none
  | none => match fi ρ μ with
    | none => none
    | some (I, μ₁) => match okI I with
      | false => none
      | true => loopGo i tb f N I j ρ μ₁
theorem denC_next {elt iter : Expr} {gens : List Comprehension} {ifs : List Expr} {scope : Scope} {x : Str} {px pos : Pos} {depth i N : Nat} {inner : Value → Env → Sem Fin → Sem Fin} {fi : ItF} {tb : BoF} {f : AcF}
    (hi : DenI C k sc T iter fi) (hg : gens[depth + 1]? = some ⟨.Name x px, iter, ifs, 0⟩)
    (heq : TurnIs C (.ListComp elt gens scope pos) (depth + 1) (.Name x px) ifs inner)
    (ht : DenT C k sc T ifs tb) (hc : DenC C k sc T inner f) (hx : (x, i) ∈ T) (hn1 : (T.map (·.1)).Nodup) (hn2 : (T.map (·.2)).Nodup) (hl : sc.names.lookup x = some .local) (hs : ∀ env x, foldedSetIterable iter env x = pure x) :
    DenC C k sc T (fun acc env kk => innerN (.ListComp elt gens scope pos) iter depth acc env kk) (loopF N i fi tb f) := by
  intro env A s α ρ μ j acc μ' kk Q E hsc hr R M ra hh h
  unfold loopF at hh
  cases e0 : look ρ i with
  | some y => rw [e0] at hh; cases hh
  | none =>
    rw [e0] at hh
    dsimp only at hh
    cases e1 : fi ρ μ with
    | none => rw [e1] at hh; cases hh
    | some p =>
      obtain ⟨I, μ₁⟩ := p
      rw [e1] at hh
      dsimp only at hh
      cases e2 : okI I with
      | false => rw [e2] at hh; cases hh
      | true =>
        rw [e2] at hh
        dsimp only at hh
        show wpAny _ _ (innerN _ iter depth acc env kk) _ _ _
        unfold innerN
        refine wpAny_bind (wpAny_mono (hi env A s α ρ μ I μ₁ (fun itv s₂ => wpAny (model C.prog C.w) A (runOwn (.compStart (.ListComp elt gens scope pos) (depth + 1) itv acc env) env >>= fun _ => kk) Q E s₂) E hsc hr R M e1 fun it α₁ h₁ tk₁ t₁ M₁ IR₁ fr off => ?_)
          (fun x s₁ h₁ => wpAny_bind (wpAny_standAt (wpAny_bind (wpAny_of_eq (hs env x) (wpAny_bind (wpAny_holding h₁)))))) (fun _ _ e => e))
        have R₁ := R.stp0 M t₁
        have hb : C.base.get? it = none := base_none M fr
        have hoi : it ∉ Mine.own env := fun m => by obtain ⟨o, e⟩ := R.alive it m; rw [e] at fr; cases fr
        have loop : codeAny (model C.prog C.w) A (.compLoop (.ListComp elt gens scope pos) (depth + 1) (.ref it) acc env) (fun r s' => match r with | .ok f => (fun (_ : Flow) s' => wpAny (model C.prog C.w) A kk Q E s') f s' | .error e => cameBackBy (model C.prog C.w) A env E e s') { s with heap := h₁, toks := tk₁ } := by
          refine comp_loop (s := { s with heap := h₁, toks := tk₁ }) heq ht hc hx hn1 hn2 hl hsc hr R₁ M₁ (ra.stp M t₁) IR₁ off hb hoi e0 hh fun α₂ h₂ tk₂ t₂ M₂ R₂ => ?_
          refine h α₂ h₂ tk₂ ?_ M₂ R₂
          have t₁' : Stp [it, env.locals] α s.heap α₁ h₁ := t₁.widen fun a m ma => by
            rcases List.mem_cons.mp m with rfl | m
            · exact absurd ma off
            · rw [List.mem_singleton.mp m] at ma
              exact absurd ma R₁.lal
          exact (t₁'.trans t₂).drop (fun a m => .tail _ m) fun a m => (List.mem_cons.mp m).elim (fun q => .inr (by rw [q]; exact fr)) .inl
        exact wpAny_bind (wpAny_runOwn (compStart_at hg loop (iter_self (s := { s with heap := h₁, toks := tk₁ }) IR₁ e2 loop)))

noncomputable def compE (N i : Nat) (locs : List Nat) (fi : ItF) (tb : BoF) (f : AcF) : ExF := fun ρ μ => match fi ρ μ with
  | none => none
  | some (I, μ₁) => match okI I && locs.all fun i => (look ρ i).isNone with
    | false => none
    | true => match loopGo i tb f N I μ₁.length ρ (μ₁ ++ [.lst []]) with
      | none => none
      | some μ₂ => some (.r μ₁.length, μ₂)

structure CompOK (C : Cst) (k : Nat) (sc : Scope) (T : List (Str × Nat)) (elt iter : Expr) (gs : List Comprehension) (ifs : List Expr) (scope : Scope) (x : Str) (px pos : Pos) (T' : List (Str × Nat)) (i : Nat) (locs : List Nat) (fi : ItF) (tb : BoF) (f : AcF) : Prop where
  hi : DenI C k sc T iter fi
  hc : ∃ inner, TurnIs C (.ListComp elt (⟨.Name x px, iter, ifs, 0⟩ :: gs) scope pos) 0 (.Name x px) ifs inner ∧ DenC C k (reS scope sc) T' inner f
  ht : DenT C k (reS scope sc) T' ifs tb
  hx : (x, i) ∈ T'
  hn1 : (T'.map (·.1)).Nodup
  hn2 : (T'.map (·.2)).Nodup
  hl : (reS scope sc).names.lookup x = some .local
  hil : i ∈ locs
  hT : ∀ p ∈ T', ((reS scope sc).names.lookup p.1 = some .local ∧ p.2 ∈ locs) ∨ ((reS scope sc).names.lookup p.1 = some .cell ∧ (p.1, NameKind.free) ∈ scope.names ∧ p ∈ T ∧ sc.names.lookup p.1 = some .cell)
  hfree : ∀ y ∈ scope.names, y.2 = .free → (T.lookup y.1).isSome = true ∧ sc.names.lookup y.1 = some .cell
  hcell : ∀ y ∈ scope.names, y.2 ≠ .cell
  hkind : scope.kind = .function
  hnames : ∀ y ∈ scope.names, y.2 = .local → scope.names.lookup y.1 = some .local
  hs : ∀ env x, foldedSetIterable iter env x = pure x

theorem slot_cell {env : Env} {α : List Addr} {h : Heap} {ρ : Rho} (R : ER C T env h α ρ) {x : Str} {i : Nat} (hx : (x, i) ∈ T) (hk : env.kindOf x = some .cell) : ∃ c v, env.cells.lookup x = some c ∧ h.IsCell c v ∧ OS h α v (look ρ i) := by
  obtain ⟨m, hn, sl⟩ := R.slots
  rcases sl x i hx with ⟨a, b⟩ | ⟨a, c, v, e, hc, b⟩
  · rw [hk] at a; cases a
  · exact ⟨c, v, e, hc, b⟩

theorem comp_core {elt iter : Expr} {gs : List Comprehension} {ifs : List Expr} {scope : Scope} {x : Str} {px pos pos' : Pos} {T' : List (Str × Nat)} {i N : Nat} {locs : List Nat} {fi : ItF} {tb : BoF} {f : AcF}
    (K : CompOK C k sc T elt iter gs ifs scope x px pos T' i locs fi tb f) {use : Option (Value → Sem Unit)} {Q : Value → Shared → Prop} {env : Env} {α : List Addr} {ρ : Rho} {μ μ' : Mem} {z : RV}
    (hsc : env.scope = sc) (hr : Room k A) (R : ER C T env s.heap α ρ) (M : MR C s.heap α μ) (hg : compE N i locs fi tb f ρ μ = some (z, μ'))
    (h : ∀ acc Ca α' h' tk' m, Stp [] α s.heap α' h' → MR C h' α' μ' → ER C T env h' α' ρ → VR h' α' acc z → h'.Ns Ca m → Ca ∉ α' → s.heap.get? Ca = none → compPost (model C.prog C.w) A E use Q acc Ca (.ok .next) { s with heap := h', toks := tk' }) :
    wpAny (model C.prog C.w) A (comprehension (.ListComp elt (⟨.Name x px, iter, ifs, 0⟩ :: gs) scope pos) scope env pos' (newList []) false (eval iter env) use) Q E s := by
  unfold compE at hg
  cases e1 : fi ρ μ with
  | none => rw [e1] at hg; cases hg
  | some p =>
    obtain ⟨I, μ₁⟩ := p
    rw [e1] at hg
    dsimp only at hg
    cases e2 : (okI I && locs.all fun i => (look ρ i).isNone) with
    | false => rw [e2] at hg; cases hg
    | true =>
      rw [e2] at hg
      dsimp only at hg
      cases e3 : loopGo i tb f N I μ₁.length ρ (μ₁ ++ [.lst []]) with
      | none => rw [e3] at hg; cases hg
      | some μ₂ =>
        rw [e3] at hg
        cases hg
        obtain ⟨eI, eL⟩ := Bool.and_eq_true_iff.mp e2
        have eL : ∀ j ∈ locs, look ρ j = none := fun j m => by simpa using List.all_eq_true.mp eL j m
        have kof : ∀ y, env.kindOf y = sc.names.lookup y := fun y => by unfold Env.kindOf; rw [hsc]
        have hcl : ∀ y ∈ scope.names, y.2 = .free → ∃ c, env.cells.lookup y.1 = some c := fun y m e => by
          obtain ⟨a, b⟩ := K.hfree y m e
          obtain ⟨j, hj⟩ := Option.isSome_iff_exists.mp a
          obtain ⟨c, _, ec, _⟩ := slot_cell R (mem_of_lookup hj) ((kof _).trans b)
          exact ⟨c, ec⟩
        obtain ⟨inner, heq, hdc⟩ := K.hc
        refine wpAny_comprehension_free rfl (K.hs env) (closureFor_clo hcl) K.hkind K.hnames ?_
        refine K.hi env A s α ρ μ I μ₁ _ E hsc hr R M e1 fun it α₁ h₁ tk₁ t₁ M₁ IR₁ fr off => ?_
        have n₂ := new_list (vs := []) (xs := []) (n := 0) M₁ .nil
        refine wpAny_newObj_type ?_
        have t₂ : Stp [] α₁ h₁ (α₁ ++ [h₁.objs.size]) (h₁.push (lob #[] 0)) := Stp.alloc _
        have M₂ := n₂.1
        have ra₂ := n₂.2
        show wpAny _ _ (newFunctionEnv _ _ _ _ _ _ _ _) _ _ { s with heap := h₁.push (lob #[] 0), toks := tk₁ }
        have IR₂ : ItR (h₁.push (lob #[] 0)) (α₁ ++ [h₁.objs.size]) it I := IR₁.up (t₂.tk0 M₁) (fun _ _ e => t₂.get e) fun b e => Heap.get?_push_of_some _ e
        have off₂ : it ∉ α₁ ++ [h₁.objs.size] := by obtain ⟨o, e⟩ := IR₁.alive; exact t₂.off e off
        have t₀₂ := t₁.trans t₂
        revert M₂ ra₂ IR₂ off₂ t₀₂
        generalize h₁.push (lob #[] 0) = H2
        generalize α₁ ++ [h₁.objs.size] = α₂
        show _ → _ → _ → _ → _ → wpAny (model C.prog C.w) A (newFunctionEnv scope env.globals (clo env scope.names []) [] env.qual none .none (some env)) (fun cenv s₄ => codeAny (model C.prog C.w) A (.compStart _ 0 (.ref it) (.ref h₁.objs.size) { cenv with scope := relabel scope env })
          (compPost (model C.prog C.w) A E use Q (.ref h₁.objs.size) cenv.locals) s₄) E { s with heap := H2, toks := tk₁ }
        generalize h₁.objs.size = Da
        intro M₂ ra₂ IR₂ off₂ t₀₂
        have R₂ := R.stp0 M t₀₂
        have hb : C.base.get? it = none := base_none M fr
        have hoi : it ∉ Mine.own env := fun m => by obtain ⟨o, e⟩ := R.alive it m; rw [e] at fr; cases fr
        refine wpAny_newFunctionEnv K.hcell (by intro y hy; simp at hy) (fun h₃ hns hsb => ?_) K.hkind
        show codeAny (model C.prog C.w) A (.compStart _ 0 (.ref it) (.ref Da) (compEnvC scope (clo env scope.names []) H2.objs.size env)) (compPost (model C.prog C.w) A E use Q (.ref Da) H2.objs.size) _
        have kp₃ : ∀ b o, H2.get? b = some o → h₃.get? b = some o := fun b o e => hsb.extBut b o (Nat.ne_of_lt (Heap.lt_size e)) (Heap.get?_push_of_some _ e)
        have M₃ := M₂.keeps kp₃
        have t₃ : Stp [] α₂ H2 α₂ h₃ := Stp.keeps kp₃
        have R₃ := R₂.stp0 M₂ t₃
        have ra₃ := ra₂.stp M₂ t₃
        have IR₃ : ItR h₃ α₂ it I := IR₂.up (t₃.tk0 M₂) (fun _ _ e => e) fun b e => kp₃ it b e
        have frC : H2.get? H2.objs.size = none := fresh_size
        have frC0 : s.heap.get? H2.objs.size = none := t₀₂.fresh M₂ frC
        have offC : H2.objs.size ∉ α₂ := M₂.off_size
        have itC : it ≠ H2.objs.size := fun q => by obtain ⟨o, e⟩ := IR₂.alive; rw [q, frC] at e; cases e
        revert hns frC0 offC itC
        generalize H2.objs.size = Ca
        intro hns frC0 offC itC
        have bC : C.base.get? Ca = none := base_none M frC0
        have snd := clo_sound (env := env) scope.names [] (fun p m => nomatch m) hcl
        have ownC : ∀ p ∈ clo env scope.names [], p ∈ env.cells := fun p m => mem_of_lookup (snd p m)
        have RC : ER C T' (compEnvC scope (clo env scope.names []) Ca env) h₃ α₂ ρ := by
          refine ⟨K.hkind, R.gl, R.bi, ⟨_, hns, fun y j hy => ?_⟩, bC, offC, fun y c hy => ?_, fun y c y' h1 h2 => R.apart y c y' (ownC _ h1) (ownC _ h2)⟩
          · have kC : ∀ y, (compEnvC scope (clo env scope.names []) Ca env).kindOf y = (reS scope sc).names.lookup y := fun y => by rw [← hsc]; rfl
            rcases K.hT _ hy with ⟨a, b⟩ | ⟨a, b, c, d⟩
            · refine .inl ⟨(kC y).trans a, ?_⟩
              rw [eL j b]
              exact OS.none
            · obtain ⟨ca, v, ec, hc, o⟩ := slot_cell R₃ c ((kof _).trans d)
              refine .inr ⟨.inl ((kC y).trans a), ca, v, ?_, hc, o⟩
              exact lookup_of_mem (clo_has scope.names [] y ca b ec) fun p m q => by
                have := snd p m
                rw [q, ec] at this
                cases this; rfl
          · obtain ⟨a, b, d, v, e⟩ := R₃.cells y c (ownC _ hy)
            refine ⟨a, b, fun q => ?_, v, e⟩
            subst q
            obtain ⟨a', b', d', v', o, ho, _⟩ := R.cells y c (ownC _ hy)
            rw [ho] at frC0; cases frC0
        have hoi' : it ∉ Mine.own (compEnvC scope (clo env scope.names []) Ca env) := fun m => by
          rcases List.mem_cons.mp m with q | m
          · exact itC q
          · obtain ⟨p, hp, rfl⟩ := List.mem_map.mp m
            exact hoi (.tail _ (List.mem_map.mpr ⟨p, ownC p hp, rfl⟩))
        have hsc' : (compEnvC scope (clo env scope.names []) Ca env).scope = reS scope sc := by rw [← hsc]; rfl
        have t₀₃ := t₀₂.trans t₃
        have t₀₃' : Stp [it, Ca] α s.heap α₂ h₃ := t₀₃.widen fun a m ma => by
          rcases List.mem_cons.mp m with rfl | m
          · exact absurd ma off₂
          · rw [List.mem_singleton.mp m] at ma
            exact absurd ma offC
        have loop : codeAny (model C.prog C.w) A (.compLoop (.ListComp elt (⟨.Name x px, iter, ifs, 0⟩ :: gs) scope pos) 0 (.ref it) (.ref Da) (compEnvC scope (clo env scope.names []) Ca env)) (compPost (model C.prog C.w) A E use Q (.ref Da) Ca) { s with heap := h₃, toks := tk₁ + ([] : List (Str × Value)).length } := by
          refine comp_loop (s := { s with heap := h₃, toks := tk₁ + ([] : List (Str × Value)).length }) heq K.ht hdc K.hx K.hn1 K.hn2 K.hl hsc' hr RC M₃ ra₃ IR₃ off₂ hb hoi' (eL i K.hil) e3 fun α₄ h₄ tk₄ t₄ M₄ R₄ => ?_
          obtain ⟨m₄, hn₄, _⟩ := R₄.slots
          have t₄ : Stp [it, Ca] α₂ h₃ α₄ h₄ := t₄
          have td : Stp [] α s.heap α₄ h₄ := (t₀₃'.trans t₄).drop (fun _ m => nomatch m) fun a m => .inr (by
            rcases List.mem_cons.mp m with rfl | m
            · exact fr
            · rw [List.mem_singleton.mp m]; exact frC0)
          refine h (.ref Da) Ca α₄ h₄ tk₄ m₄ td M₄ (R.stp0 M td) ?_ hn₄ ?_ frC0
          · refine ra₃.up (t₄.tk M₃ fun a m => ?_) fun _ _ e => t₄.get e
            rcases List.mem_cons.mp m with rfl | m
            · exact IR₃.noSeq a (.head _)
            · rw [List.mem_singleton.mp m]
              exact RC.noLoc _ (.head _)
          · exact R₄.lal
        exact compStart_at rfl loop (iter_self (s := { s with heap := h₃, toks := tk₁ + ([] : List (Str × Value)).length }) IR₃ eI loop)

/-- the comprehension's own dict is let go -/
theorem comp_gone {α α' : List Addr} {h h' h'' : Heap} {μ μ' : Mem} {Ca : Addr} {m : Str → Option Value} (t : Stp [] α h α' h') (M : MR C h' α' μ') (hn : h'.Ns Ca m) (off : Ca ∉ α') (fr : h.get? Ca = none) (bC : C.base.get? Ca = none) (hs : Heap.SameBut Ca h' h'') :
    Stp [] α h α' h'' ∧ MR C h'' α' μ' ∧ TupKeep h' h'' := by
  have z : NoSeq h' [Ca] := fun a m o e vs n q => by
    rw [List.mem_singleton.mp m] at e
    obtain ⟨es, ep, hd⟩ := ns_data hn e
    rw [hd] at q; cases q
  have kp : Kp [Ca] h' h'' := Kp.sameBut hs
  have t' : Stp [Ca] α h α' h' := t.widen fun a m ma => by rw [List.mem_singleton.mp m] at ma; exact absurd ma off
  refine ⟨(t'.trans (Stp.of_keep kp)).drop (fun _ m => nomatch m) fun a m => .inr (by rw [List.mem_singleton.mp m]; exact fr), M.keep z (fun a m => by rw [List.mem_singleton.mp m]; exact off) (fun a m => by rw [List.mem_singleton.mp m]; exact bC) kp, TupKeep.of_kp kp z⟩

theorem den_comp {elt iter : Expr} {gs : List Comprehension} {ifs : List Expr} {scope : Scope} {x : Str} {px pos : Pos} {T' : List (Str × Nat)} {i N : Nat} {locs : List Nat} {fi : ItF} {tb : BoF} {f : AcF}
    (K : CompOK C k sc T elt iter gs ifs scope x px pos T' i locs fi tb f) : DenE C k sc T (.ListComp elt (⟨.Name x px, iter, ifs, 0⟩ :: gs) scope pos) (compE N i locs fi tb f) := by
  intro env A s α ρ μ z μ' Q E hsc hr R M hg h
  rw [eval_ListComp]
  refine comp_core K hsc hr R M hg fun acc Ca α' h' tk' m t M' R' ra hn off fr => ?_
  refine ⟨m, hn, fun h'' hs => ?_⟩
  obtain ⟨t₂, M₂, tk₂⟩ := comp_gone (μ := μ) t M' hn off fr (base_none M fr) hs
  exact h acc α' h'' tk' t₂ M₂ (ra.up tk₂ fun _ _ e => e)

/-- x = [..], where x takes the list before the comprehension's own names go -/
theorem denS_setComp {y : Str} {py spos : Pos} {yi : Nat} {elt iter : Expr} {gs : List Comprehension} {ifs : List Expr} {scope : Scope} {x : Str} {px pos : Pos} {T' : List (Str × Nat)} {i N : Nat} {locs : List Nat} {fi : ItF} {tb : BoF} {f : AcF}
    (K : CompOK C k sc T elt iter gs ifs scope x px pos T' i locs fi tb f) (hy : (y, yi) ∈ T) (hn1 : (T.map (·.1)).Nodup) (hn2 : (T.map (·.2)).Nodup) (hnf : sc.names.lookup y ≠ some .free)
    (hsw : ∀ env : Env, env.scope = sc → swapsWith (.ListComp elt (⟨.Name x px, iter, ifs, 0⟩ :: gs) scope pos) (some (.Name y py)) spos.line env = pure true) :
    DenS C k sc T (.Assign [.Name y py] (.ListComp elt (⟨.Name x px, iter, ifs, 0⟩ :: gs) scope pos) spos) (setS yi (compE N i locs fi tb f)) := by
  intro env A s α ρ μ fl ρ' μ' Q E hsc hr R M hg h
  unfold setS at hg
  cases e1 : compE N i locs fi tb f ρ μ with
  | none => rw [e1] at hg; cases hg
  | some p =>
    obtain ⟨z, μ₁⟩ := p
    rw [e1] at hg
    cases hg
    rw [exec_Assign_Name_used _ _ _ _ (hsw env hsc)]
    refine wpAny_bind (wpAny_standAt (wpAny_bind ?_))
    show wpAny _ A (do let _ ← comprehension (.ListComp elt (⟨.Name x px, iter, ifs, 0⟩ :: gs) scope pos) scope env _ (newList []) false (eval iter env) (some (assign (.Name y py) env))) _ _ s
    refine wpAny_bind (wpAny_mono (comp_core (use := some (assign (.Name y py) env)) (Q := fun _ s' => Q .next s') K hsc hr R M e1 fun acc Ca α' h' tk' m t M' R' ra hn off fr => ?_) (fun _ s' hq => wpAny_pure (wpAny_pure hq)) fun _ _ e => e)
    have bC := base_none M fr
    have hoC : Ca ∉ Mine.own env := fun m => by obtain ⟨o, e⟩ := R.alive Ca m; rw [e] at fr; cases fr
    show wpAny _ A (assign (.Name y py) env acc) _ _ _
    refine wpAny_assign_Name (store_slot (s := { s with heap := h', toks := tk' }) hn1 hn2 (by unfold Env.kindOf; rw [hsc]; exact hnf) R' M' hy ra fun h₂ tk₂ t₂ M₂ R₂ => ?_)
    have tt : Stp (Mine.own env) α s.heap α' h₂ := (Stp.own R t).trans t₂
    obtain ⟨o, es, ep, ho, hd, hk⟩ := id hn
    refine ⟨m, ⟨o, es, ep, t₂.kp Ca o ho off hoC, hd, hk⟩, fun h'' hs => ?_⟩
    have z : NoSeq h₂ [Ca] := fun a m o' e vs n q => by
      rw [List.mem_singleton.mp m, t₂.kp Ca o ho off hoC] at e
      cases e
      rw [hd] at q; cases q
    obtain ⟨M₃, R₃, t₃⟩ := kp_one R₂ M₂ (Kp.sameBut hs) z off bC hoC
    refine h .next α' h'' tk₂ ?_ M₃ R₃ trivial
    have t₀ : Stp (Ca :: Mine.own env) α s.heap α' h₂ := by
      refine ⟨tt.pre, fun a m => ?_, fun b o e n ns => tt.kp b o e n fun z => ns (.tail _ z)⟩
      rcases tt.new a m with q | ⟨q, qs⟩
      · exact .inl q
      · refine .inr ⟨q, fun z => ?_⟩
        rcases List.mem_cons.mp z with rfl | z
        · exact off m
        · exact qs z
    refine (t₀.trans (t₃.more (fun a m => by rw [List.mem_singleton.mp m]; exact .head _) fun a m => .inr ?_)).drop (fun a m => .tail _ m) fun a m => (List.mem_cons.mp m).elim (fun q => .inr (by rw [q]; exact fr)) .inl
    rcases List.mem_cons.mp m with rfl | m
    · exact ⟨o, t₂.kp a o ho off hoC⟩
    · exact R₂.alive a m
end
end Mine
set_option maxHeartbeats 1000000
set_option maxRecDepth 100000
set_option Elab.async false
set_option linter.unusedVariables false
set_option linter.unusedSimpArgs false
namespace Mine
open PySem PySem.Spec PySem.Calls PyProof.Rows

section
variable {prog : Program} {w : World} {A : Around} {E : Value → Shared → Prop} {s : Shared}
/-- a slice by ones, of which each end reads as it should -/
theorem applied_ok {sl : Addr} {lo hi : Value} {a b : Option Int} {n : Nat} {Q : Int × Int × Nat → Shared → Prop} (hs : s.heap.IsSliceOf sl lo hi .none)
    (ha : ∀ P : Option Int → Shared → Prop, P a s → wpAny (model prog w) A (Builtin.Slice.slicePartIndex lo) P E s) (hb : ∀ P : Option Int → Shared → Prop, P b s → wpAny (model prog w) A (Builtin.Slice.slicePartIndex hi) P E s)
    {x y : Int} (e : Builtin.Slice.sliceAdjust a b 1 (n : Int) = (x, y)) (h : Q (x, 1, Builtin.Slice.slicePlaces x y 1) s) :
    wpAny (model prog w) A (Builtin.Slice.sliceApplied (.ref sl) (pure (n : Int))) Q E s := by
  obtain ⟨o, ho, _, hd⟩ := hs
  have read : wpAny (model prog w) A (Builtin.Slice.sliceFields (.ref sl)) (fun p s' => p = (lo, hi, .none) ∧ s' = s) E s :=
    wpAny_bind (wpAny_field ho hd rfl (wpAny_bind (wpAny_field ho hd rfl (wpAny_bind (wpAny_field ho hd rfl (wpAny_pure ⟨rfl, rfl⟩))))))
  have ends : wpAny (model prog w) A (Builtin.Slice.slicePartIndex lo >>= fun p => Builtin.Slice.slicePartIndex hi >>= fun q => pure (n : Int) >>= fun m => pure ((Builtin.Slice.sliceAdjust p q 1 m).1, (1 : Int), Builtin.Slice.slicePlaces (Builtin.Slice.sliceAdjust p q 1 m).1 (Builtin.Slice.sliceAdjust p q 1 m).2 1)) Q E s :=
    wpAny_bind (ha _ (wpAny_bind (hb _ (wpAny_bind (wpAny_pure (wpAny_pure (by rw [e]; exact h)))))))
  refine wpAny_bind (wpAny_mono read (fun p s' q => ?_) fun _ _ q => q)
  obtain ⟨rfl, rfl⟩ := q
  exact wpAny_bind (slicePart_none ends)
/-- a tuple's item, by its class's body -/
theorem tupItem_by {t : Addr} {items : Array Value} {key : Value} {Q : Value → Shared → Prop} (ht : s.heap.IsTuple t items)
    (h : wpAny (model prog w) A.in1 (Builtin.«tuple.__getitem__» ⟨[.ref t, key], []⟩) (fun fin s' => ∃ r, fin = .done (.ret r) ∧ Q r s') E s) : wpAny (model prog w) A (getItem (.ref t) key) Q E s := by
  have hT := ht.typeIs
  refine wpAny_holding (wpAny_bind (wpAny_sequenceKey hT (by decide) (wpAny_bind (wpAny_callSpecial?_slot (name := Str.ofString "__getitem__") hT slot_tuple_getitem (wpAny_mono (wpAny_call_entry slot_tuple_getitem hT entry_tuple_getitem h (args_tuple_getitem _ _)) (fun _ _ q => ?_) fun _ _ q => q)))))
  exact wpAny_pure q
theorem head_pick {items : Array Value} (h1 : 1 ≤ items.size) : ((List.range 1).filterMap fun (k : Nat) => items[((0 : Int) + (k : Int) * 1).toNat]?).toArray = (items.toList.take 1).toArray := by
  obtain ⟨l⟩ := items
  cases l with
  | nil => exact absurd h1 (by simp)
  | cons x r => rfl
theorem getItem_tuple_upto1 {t sl : Addr} {items : Array Value} {u : Tok} {Q : Value → Shared → Prop} (ht : s.heap.IsTuple t items) (hs : s.heap.IsSliceOf sl .none (.int 1 u) .none) (h1 : 1 ≤ items.size)
    (hw : items.size = 1 → Q (.ref t) s)
    (h : Q (.ref s.heap.objs.size) { s with heap := s.heap.push { cls := .type "tuple", data := .seq (items.toList.take 1).toArray } }) : wpAny (model prog w) A (getItem (.ref t) (.ref sl)) Q E s := by
  obtain ⟨o, ho, hc, n, hd⟩ := id ht
  have adj : Builtin.Slice.sliceAdjust none (some (1 : Int)) 1 (items.size : Int) = ((0 : Int), (1 : Int)) := by
    unfold Builtin.Slice.sliceAdjust
    simp only [show ¬ (1 : Int) < 0 from by decide, if_false, Prod.mk.injEq, true_and]
    omega
  have small : sizeOk (.seq (items.toList.take 1).toArray) := by
    have := sizeLine_ge
    simp only [sizeOk, List.size_toArray, List.length_take]
    omega
  have hTs : s.TypeIs (.ref sl) "slice" := ⟨hs.choose, hs.choose_spec.1, hs.choose_spec.2.1⟩
  refine tupItem_by ht (wpAny_bind (wpAny_pure (wpAny_bind (wpAny_tupleItemsOf ho hd (wpAny_bind (wpAny_typeOf hTs (wpAny_bind (applied_ok hs (fun _ => slicePart_none) (fun _ => slicePart_int) adj ?_))))))))
  have one : Builtin.Slice.slicePlaces 0 1 1 = 1 := by decide
  rw [one]
  by_cases whole : 1 = items.size
  · have yes : ((0 : Int) == 0 && (1 : Int) == 1 && (1 : Nat) == items.size) = true := by simp [whole]
    dsimp only
    rw [if_pos yes]
    exact wpAny_bind (wpAny_bind (wpAny_typeOf ht.typeIs (wpAny_pure (wpAny_bind (wpAny_rule (wpAny_pure ⟨_, rfl, hw whole.symm⟩))))))
  · have no : ((0 : Int) == 0 && (1 : Int) == 1 && (1 : Nat) == items.size) = false := by simp [whole]
    dsimp only
    rw [no, head_pick h1]
    exact wpAny_bind (wpAny_newObj_type (wpAny_pure ⟨_, rfl, h⟩) small)
end

section
variable {C : Cst} {k : Nat} {sc : Scope} {T : List (Str × Nat)}
variable {A : Around} {E : Value → Shared → Prop} {s : Shared}

noncomputable abbrev PtF := Rho → Option (Option Int)
noncomputable def DenP (C : Cst) (k : Nat) (sc : Scope) (T : List (Str × Nat)) (e : Option Expr) (f : PtF) : Prop :=
  ∀ (env : Env) (A : Around) (s : Shared) (α : List Addr) (ρ : Rho) (μ : Mem) (x : Option Int) (Q : Value → Shared → Prop) (E : Value → Shared → Prop),
    env.scope = sc → Room k A → ER C T env s.heap α ρ → MR C s.heap α μ → f ρ = some x → (∀ v tk', IsPart v x → Q v { s with toks := tk' }) → wpAny (model C.prog C.w) A (evalPart e env) Q E s
noncomputable def ptNone : PtF := fun _ => some none
theorem denP_none : DenP C k sc T none ptNone := by
  intro env A s α ρ μ x Q E hsc hr R M hf h
  cases hf
  exact wpAny_evalPart_none (h _ s.toks .none)
noncomputable def ptInt (i : Int) : PtF := fun _ => some (some i)
theorem denP_int {i : Int} {n : Nat} {pos : Pos} : DenP C k sc T (some (.Constant (.int i) n pos)) (ptInt i) := by
  intro env A s α ρ μ x Q E hsc hr R M hf h
  cases hf
  exact wpAny_evalPart_some (wpAny_mkInt (h _ _ (.int _ _)))
theorem denP_neg {i : Int} {n : Nat} {p1 pos : Pos} : DenP C k sc T (some (.UnaryOp .USub (.Constant (.int i) n p1) pos)) (ptInt (-i)) := by
  intro env A s α ρ μ x Q E hsc hr R M hf h
  cases hf
  exact wpAny_evalPart_some (wpAny_UnaryOp (wpAny_mkInt (PyProof.Rows.neg_int (h _ _ (.int _ _)))))
noncomputable def ptName (i : Nat) : PtF := fun ρ => match look ρ i with
  | some (.d (.int j)) => some (some j)
  | _ => none
theorem denP_name {x : Str} {pos : Pos} {i : Nat} (hx : (x, i) ∈ T) (hd : (x == ("__debug__" : Str)) = false) : DenP C k sc T (some (.Name x pos)) (ptName i) := by
  intro env A s α ρ μ y Q E hsc hr R M hf h
  unfold ptName at hf
  split at hf
  · rename_i j e
    cases hf
    refine wpAny_evalPart_some (wpAny_Name (load_slot R hx e fun v r => ?_) hd)
    obtain ⟨t, rfl⟩ := reads_int r
    exact h _ s.toks (.int _ _)
  · cases hf

noncomputable def pickR (xs : List RV) (lo hi st : Option Int) : List RV := (sliceRange (sliceBounds lo hi st xs.length).1 (sliceBounds lo hi st xs.length).2.1 (sliceBounds lo hi st xs.length).2.2).filterMap fun i => xs[i]?
noncomputable def gSlice (x : RV) (lo hi st : Option Int) (μ : Mem) : Option (RV × Mem) := match x with
  | .r j => match μ[j]? with
    | some (.lst xs) => if xs.length ≤ 1000 ∧ st ≠ some 0 then some (.r μ.length, μ ++ [.lst (pickR xs lo hi st)]) else none
    | _ => none
  | .d (.tuple ds) => if 1 ≤ ds.length ∧ ds.length ≤ 1000 then match lo, hi, st with
      | some 1, none, none => some (.d (.tuple (ds.drop 1)), μ)
      | none, some 1, none => some (.d (.tuple (ds.take 1)), μ)
      | _, _, _ => none
    else none
  | _ => none
theorem slicePick_R {h : Heap} {α : List Addr} {vs : Array Value} {xs : List RV} (r : VRs h α vs.toList xs) (lo hi st : Option Int) : VRs h α (slicePick vs lo hi st).toList (pickR xs lo hi st) := by
  have l := r.len
  rw [Array.length_toList] at l
  unfold slicePick pickR
  rw [l]
  have := r.pick (sliceRange (sliceBounds lo hi st xs.length).1 (sliceBounds lo hi st xs.length).2.1 (sliceBounds lo hi st xs.length).2.2)
  simpa using this
theorem ok_slice {α : List Addr} {μ μ' : Mem} {v vl vu vs : Value} {x z : RV} {lo hi st : Option Int} {sl : Addr} {Q : Value → Shared → Prop} (M : MR C s.heap α μ) (r : VR s.heap α v x) (hs : s.heap.IsSliceOf sl vl vu vs) (pl : IsPart vl lo) (pu : IsPart vu hi) (ps : IsPart vs st)
    (hg : gSlice x lo hi st μ = some (z, μ')) (h : PostE C s α z μ' Q) : wpAny (model C.prog C.w) A (getItem v (.ref sl)) Q E s := by
  unfold gSlice at hg
  split at hg
  · rename_i j
    split at hg
    · rename_i xs e
      split at hg
      · rename_i hl
        cases hg
        obtain ⟨a, rfl, _, items, n, ha, ra⟩ := VR.obj M r e
        have l := ra.len
        rw [Array.length_toList] at l
        refine wpAny_getItem_list_slice (isList_of ha) hs pl pu ps hl.2 ?_ (by rw [l]; exact Nat.le_trans hl.1 sizeLine_ge)
        have q := h.list (n := 0) (tk := s.toks) M (slicePick_R ra lo hi st)
        simpa using q
      · cases hg
    · cases hg
  · rename_i ds
    split at hg
    · rename_i hl
      obtain ⟨a, dd, items, n, sl', rfl, ha, ra⟩ := tup_obj r
      have l := readsAll_len ra
      rw [Array.length_toList] at l
      split at hg
      · cases hg
        cases pl with
        | int i t =>
          cases pu
          cases ps
          refine getItem_tuple_from (a := 1) ⟨_, ha, rfl, n, rfl⟩ hs (Nat.le_refl _) (by omega) ?_ (by rw [l]; exact Nat.le_trans hl.2 sizeLine_ge)
          exact h.tuple (tk := s.toks) M (readsAll_drop 1 ra)
      · cases hg
        cases pu with
        | int i t =>
          cases pl
          cases ps
          refine getItem_tuple_upto1 ⟨_, ha, rfl, n, rfl⟩ hs (by omega) (fun h1 => ?_) ?_
          · have : ds.take 1 = ds := List.take_of_length_le (by omega)
            rw [this] at h
            exact h.same (tk := s.toks) M r
          · exact h.tuple (tk := s.toks) M (readsAll_take 1 ra)
      · cases hg
    · cases hg
  · cases hg
theorem gSlice_type {α : List Addr} {μ : Mem} {v : Value} {x : RV} {lo hi st : Option Int} {p : RV × Mem} (M : MR C s.heap α μ) (r : VR s.heap α v x) (hg : gSlice x lo hi st μ = some p) :
    ∃ T id, s.TypeIs v T ∧ typeLookup (.type T) "__getitem__" = pure (some (.builtin id)) := by
  unfold gSlice at hg
  split at hg
  · split at hg
    · rename_i xs e
      obtain ⟨a, rfl, _, items, n, ha, ra⟩ := VR.obj M r e
      exact ⟨"list", _, ⟨_, ha, rfl⟩, slot_list_getitem.lookup⟩
    · cases hg
  · obtain ⟨a, dd, items, n, sl', rfl, ha, ra⟩ := tup_obj r
    exact ⟨"tuple", _, ⟨_, ha, rfl⟩, slot_tuple_getitem.lookup⟩
  · cases hg

noncomputable def sliceE (fo : ExF) (pl pu ps : PtF) : ExF := fun ρ μ => match fo ρ μ with
  | none => none
  | some (x, μ₁) => match pl ρ, pu ρ, ps ρ with
    | some lo, some hi, some st => gSlice x lo hi st μ₁
    | _, _, _ => none
theorem den_slice {o : Expr} {l u st : Option Expr} {p1 pos : Pos} {fo : ExF} {pl pu ps : PtF} (ho : DenE C k sc T o fo) (hl : DenP C k sc T l pl) (hu : DenP C k sc T u pu) (hst : DenP C k sc T st ps)
    (hsl : ∀ o v, ∃ ops, subscripted (.Slice l u st p1) false o v = operate ops (getItem o v)) : DenE C k sc T (.Subscript o (.Slice l u st p1) pos) (sliceE fo pl pu ps) := by
  intro env A s α ρ μ z μ' Q E hsc hr R M hg h
  rw [eval_Subscript]
  unfold sliceE at hg
  cases e1 : fo ρ μ with
  | none => rw [e1] at hg; cases hg
  | some p =>
    obtain ⟨x, μ₁⟩ := p
    rw [e1] at hg
    dsimp only at hg
    split at hg
    · rename_i lo hi sv e2 e3 e4
      refine wpAny_bind (ho env A s α ρ μ x μ₁ _ E hsc hr R M e1 fun v α₁ h₁ tk₁ t₁ M₁ r₁ => ?_)
      have R₁ := R.stp0 M t₁
      refine wpAny_bind (wpAny_holding (wpAny_Slice ?_))
      refine hl env A _ α₁ ρ μ₁ lo _ E hsc hr R₁ M₁ e2 fun vl tk₂ pl => ?_
      refine hu env A _ α₁ ρ μ₁ hi _ E hsc hr R₁ M₁ e3 fun vu tk₃ pu => ?_
      refine hst env A _ α₁ ρ μ₁ sv _ E hsc hr R₁ M₁ e4 fun vst tk₄ pst => ?_
      have M₂ := M₁.push { cls := .type "slice", data := .fields #[vl, vu, vst] }
      have t₂ : Stp [] α₁ h₁ α₁ (h₁.push { cls := .type "slice", data := .fields #[vl, vu, vst] }) := Stp.push _
      have r₂ := r₁.stp M₁ t₂
      have hS : Heap.IsSliceOf (h₁.push { cls := .type "slice", data := .fields #[vl, vu, vst] }) h₁.objs.size vl vu vst := Heap.IsSliceOf.new ..
      obtain ⟨Ty, id, hT, hlk⟩ := gSlice_type (s := { s with heap := h₁.push { cls := .type "slice", data := .fields #[vl, vu, vst] }, toks := tk₄ }) M₂ r₂ hg
      refine wpAny_bind (wpAny_standAt (wpAny_bind (getitem_notPython hT hlk ?_)))
      obtain ⟨ops, eo⟩ := hsl v (.ref h₁.objs.size)
      show wpAny _ _ (subscripted (.Slice l u st p1) false v (.ref h₁.objs.size) >>= _) _ _ _
      rw [eo]
      refine wpAny_bind (wpAny_operate' ?_)
      refine ok_slice (s := { s with heap := h₁.push { cls := .type "slice", data := .fields #[vl, vu, vst] }, toks := tk₄ }) M₂ r₂ hS pl pu pst hg fun c α₃ h₃ tk₃ t₃ M₃ r₃ => ?_
      exact wpAny_bind (wpAny_letTemporaryGo (wpAny_pure (h c α₃ h₃ tk₃ ((t₁.trans t₂).trans t₃) M₃ r₃)))
    · cases hg

/-! [x] * 4 -/
noncomputable def gMul4 (x y : RV) (μ : Mem) : Option (RV × Mem) := match x, y with
  | .r j, .d (.int 4) => match μ[j]? with
    | some (.lst [x]) => some (.r μ.length, μ ++ [.lst [x, x, x, x]])
    | _ => none
  | _, _ => none
theorem ok_mul4 : OpOK C k (binaryOp .Mult) gMul4 := by
  intro A s α μ v u x y z μ' Q E hr M r q hg h
  unfold gMul4 at hg
  split at hg
  · rename_i j
    split at hg
    · rename_i w e
      cases hg
      obtain ⟨t, rfl⟩ := reads_int q
      obtain ⟨l, rfl, _, items, n, hl, ra⟩ := VR.obj M r e
      obtain ⟨its⟩ := items
      replace ra : VRs s.heap α its [w] := ra
      cases ra with
      | @cons vv _ _ _ ra rb =>
        cases rb
        refine wpAny_binaryOp_repeat_ref (T := "list") (U := "int") (by decide) ⟨_, hl, rfl⟩ (fun s' => typeIs_int s' 4 t) noFill_list_mul F.fills_int_mul F.slot_int_rmul repeat_list F.slot_int_index.lookup
          (call_meets F.slot_int_rmul (typeIs_int s 4 t) F.entry_int_rmul (F.args_int_rmul_2 _ _) (int___rmul___int_list 4 t l #[vv] n)
            ⟨hl, rfl, ⟨_, hl, rfl⟩, call_meets F.slot_list_mul ⟨_, hl, rfl⟩ F.entry_list_mul (F.args_list_mul_2 _ _)
              (AutoListH.list___mul___list_int_3 l #[vv] n 4 t (by simp [Builtin.List.listFitsIndex]) (by simp) (by simp [Builtin.List.listTooLong, sizeLine]))
              ⟨hl, ?_⟩⟩)
        exact h.list (n := 0) (tk := s.toks) (vs := [vv, vv, vv, vv]) M (.cons ra (.cons ra (.cons ra (.cons ra .nil))))
    · cases hg
  · cases hg

/-! sum -/
noncomputable def fSum (xs : List RV) (μ : Mem) : Option (RV × Mem) := match xs with
  | [.r i] => match μ[i]? with
    | some (.lst ys) => match flat ys with
      | none => none
      | some ds => match intsOf ds with
        | none => none
        | some ns => some (.d (.int ns.sum), μ)
    | _ => none
  | _ => none
theorem ok_sum : FnOK C k (.builtin "sum") fSum := by
  intro A s α μ vs xs x μ' Q E hr M r hg h
  unfold fSum at hg
  split at hg
  · rename_i i
    split at hg
    · rename_i ys e1
      split at hg
      · cases hg
      · rename_i ds e2
        split at hg
        · cases hg
        · rename_i ns e3
          cases hg
          cases r with
          | cons r1 r2 =>
            cases r2
            obtain ⟨l, rfl, _, items, n, hl, ra⟩ := VR.obj M r1 e1
            have ia := intsOf_are e3 (flat_reads ra e2)
            have hall : AllInts items := by
              have := ia.allInts
              simpa using this
            obtain ⟨xs, rfl⟩ := hall.items
            refine sum_intListG hr.hd (isList_of hl) fun h' tk t' hk => ?_
            have e : preSum (numAt xs) xs.size = ns.sum := by
              rw [← ia.numsOf, nums_intItems, preSum_eq, List.take_of_length_le (by simp)]
            rw [e]
            exact h.keeps M hk (Reads.int ..)
    · cases hg
  · cases hg

/-! a < b <= c, as a test -/
noncomputable def chainB (g1 g2 : RV → RV → Mem → Option (RV × Mem)) (fa fb fc : ExF) : BoF := fun ρ μ => match fa ρ μ with
  | none => none
  | some (a, μ₁) => match fb ρ μ₁ with
    | none => none
    | some (b, μ₂) => match asB (g1 a b μ₂) with
      | none => none
      | some (false, μ₃) => some (false, μ₃)
      | some (true, μ₃) => match fc ρ μ₃ with
        | none => none
        | some (c, μ₄) => asB (g2 b c μ₄)
theorem denB_chain {a b c : Expr} {op1 op2 : CmpOp} {pos : Pos} {fa fb fc : ExF} {g1 g2 : RV → RV → Mem → Option (RV × Mem)} (o1 : OpOK C k (compareOp op1) g1) (o2 : OpOK C k (compareOp op2) g2)
    (ha : DenE C k sc T a fa) (hb : DenE C k sc T b fb) (hc : DenE C k sc T c fc) (hm : lastMarks [op1, op2] [b, c] = false) : DenB C k sc T (.Compare a [op1, op2] [b, c] pos) (chainB g1 g2 fa fb fc) := by
  intro env A s α ρ μ z μ' Q E hsc hr R M hg h
  unfold chainB at hg
  cases e1 : fa ρ μ with
  | none => rw [e1] at hg; cases hg
  | some p =>
    obtain ⟨xa, μ₁⟩ := p
    rw [e1] at hg
    dsimp only at hg
    cases e2 : fb ρ μ₁ with
    | none => rw [e2] at hg; cases hg
    | some p =>
      obtain ⟨xb, μ₂⟩ := p
      rw [e2] at hg
      dsimp only at hg
      refine isTrue_chain (ops := []) (rs := []) ?_ hm
      refine ha env A s α ρ μ xa μ₁ _ E hsc hr R M e1 fun va α₁ h₁ tk₁ t₁ M₁ r₁ => ?_
      have R₁ := R.stp0 M t₁
      refine test_link (rs := []) (ops := []) ?_
      refine hb env A _ α₁ ρ μ₁ xb μ₂ _ E hsc hr R₁ M₁ e2 fun vb α₂ h₂ tk₂ t₂ M₂ r₂ => ?_
      have R₂ := R₁.stp0 M₁ t₂
      cases e3 : asB (g1 xa xb μ₂) with
      | none => rw [e3] at hg; cases hg
      | some p =>
        obtain ⟨bb, μ₃⟩ := p
        rw [e3] at hg
        refine o1 A _ α₂ μ₂ va vb xa xb _ μ₃ _ E hr M₂ (r₁.stp M₁ t₂) r₂ (asB_some e3) fun vc α₃ h₃ tk₃ t₃ M₃ r₃ => ?_
        rw [reads_bool r₃]
        refine wpAny_truthy_bool ?_
        have R₃ := R₂.stp0 M₂ t₃
        have t₁₃ := (t₁.trans t₂).trans t₃
        cases bb with
        | false =>
          cases hg
          rw [if_neg Bool.false_ne_true]
          exact h α₃ h₃ tk₃ t₁₃ M₃
        | true =>
          dsimp only at hg
          rw [if_pos rfl]
          cases e4 : fc ρ μ₃ with
          | none => rw [e4] at hg; cases hg
          | some p =>
            obtain ⟨xc, μ₄⟩ := p
            rw [e4] at hg
            refine test_last ?_
            refine hc env A _ α₃ ρ μ₃ xc μ₄ _ E hsc hr R₃ M₃ e4 fun vc α₄ h₄ tk₄ t₄ M₄ r₄ => ?_
            refine o2 A _ α₄ μ₄ vb vc xb xc _ μ' _ E hr M₄ ((r₂.stp M₂ t₃).stp M₃ t₄) r₄ (asB_some hg) fun vd α₅ h₅ tk₅ t₅ M₅ r₅ => ?_
            rw [reads_bool r₅]
            exact wpAny_truthy_bool (h α₅ h₅ tk₅ ((t₁₃.trans t₄).trans t₅) M₅)
end
end Mine
set_option maxHeartbeats 1000000
set_option maxRecDepth 100000
set_option Elab.async false
set_option linter.unusedVariables false
set_option linter.unusedSimpArgs false
namespace Mine
open PySem PySem.Spec PySem.Calls PyProof.Rows

theorem bindL_out {kindOf : Str → Option NameKind} {x : Str} : ∀ (ps : List Str) (ws : List Value) (m : Str → Option Value), x ∉ ps → bindL kindOf (ps.zip ws) m x = m x
  | [], ws, m, _ => rfl
  | p :: ps, [], m, _ => rfl
  | p :: ps, w :: ws, m, h => by
    have hp : ¬ x = p := fun e => h (by rw [e]; exact .head _)
    show bindL kindOf (ps.zip ws) (if kindOf p = some .local then fun y => if y = p then some w else m y else m) x = m x
    rw [bindL_out ps ws _ fun z => h (.tail _ z)]
    split
    · exact if_neg hp
    · rfl
theorem bindC_out {kindOf : Str → Option NameKind} {x : Str} : ∀ (ps : List Str) (ws : List Value) (m : Str → Option Value), x ∉ ps → bindC kindOf (ps.zip ws) m x = m x
  | [], ws, m, _ => rfl
  | p :: ps, [], m, _ => rfl
  | p :: ps, w :: ws, m, h => by
    have hp : ¬ x = p := fun e => h (by rw [e]; exact .head _)
    show bindC kindOf (ps.zip ws) (if kindOf p = some .local then m else fun y => if y = p then some w else m y) x = m x
    rw [bindC_out ps ws _ fun z => h (.tail _ z)]
    split
    · rfl
    · exact if_neg hp
theorem bindL_at {kindOf : Str → Option NameKind} {x : Str} (hk : kindOf x = some .local) : ∀ (ps : List Str) (ws : List Value) (m : Str → Option Value) (i : Nat) (v : Value), ps.Nodup → ps[i]? = some x → ws[i]? = some v → bindL kindOf (ps.zip ws) m x = some v
  | [], ws, m, i, v, _, h, _ => nomatch h
  | p :: ps, [], m, i, v, _, _, h => nomatch h
  | p :: ps, w :: ws, m, 0, v, nd, h1, h2 => by
    cases h1; cases h2
    show bindL kindOf (ps.zip ws) (if kindOf x = some .local then fun y => if y = x then some w else m y else m) x = _
    rw [bindL_out ps ws _ (List.nodup_cons.mp nd).1, if_pos hk]
    exact if_pos rfl
  | p :: ps, w :: ws, m, i + 1, v, nd, h1, h2 => bindL_at hk ps ws _ i v (List.nodup_cons.mp nd).2 h1 h2
theorem bindC_at {kindOf : Str → Option NameKind} {x : Str} (hk : kindOf x ≠ some .local) : ∀ (ps : List Str) (ws : List Value) (m : Str → Option Value) (i : Nat) (v : Value), ps.Nodup → ps[i]? = some x → ws[i]? = some v → bindC kindOf (ps.zip ws) m x = some v
  | [], ws, m, i, v, _, h, _ => nomatch h
  | p :: ps, [], m, i, v, _, _, h => nomatch h
  | p :: ps, w :: ws, m, 0, v, nd, h1, h2 => by
    cases h1; cases h2
    show bindC kindOf (ps.zip ws) (if kindOf x = some .local then m else fun y => if y = x then some w else m y) x = _
    rw [bindC_out ps ws _ (List.nodup_cons.mp nd).1, if_neg hk]
    exact if_pos rfl
  | p :: ps, w :: ws, m, i + 1, v, nd, h1, h2 => bindC_at hk ps ws _ i v (List.nodup_cons.mp nd).2 h1 h2

theorem cellsFrom_keeps : ∀ (names : List (Str × NameKind)) (n : Nat) (acc : List (Str × Addr)) (p : Str × Addr), p ∈ acc → p ∈ cellsFrom n names acc
  | [], n, acc, p, m => m
  | (x, k) :: r, n, acc, p, m => by
    unfold cellsFrom
    split
    · exact cellsFrom_keeps r _ _ p (.tail _ m)
    · exact cellsFrom_keeps r _ _ p m
theorem cellsFrom_has : ∀ (names : List (Str × NameKind)) (n : Nat) (acc : List (Str × Addr)) (x : Str), (x, NameKind.cell) ∈ names → ∃ c, (x, c) ∈ cellsFrom n names acc
  | [], n, acc, x, m => nomatch m
  | (y, k) :: r, n, acc, x, m => by
    unfold cellsFrom
    rcases List.mem_cons.mp m with q | m
    · cases q
      refine ⟨n, ?_⟩
      show _ ∈ cellsFrom (n + 1) r ((y, n) :: acc)
      exact cellsFrom_keeps r _ _ _ (.head _)
    · split
      · exact cellsFrom_has r _ _ x m
      · exact cellsFrom_has r _ _ x m
theorem cellsFrom_keys : ∀ (names : List (Str × NameKind)) (n : Nat) (acc : List (Str × Addr)), (names.map (·.1)).Nodup → (acc.map (·.1)).Nodup → (∀ x ∈ acc.map (·.1), x ∉ names.map (·.1)) → ((cellsFrom n names acc).map (·.1)).Nodup
  | [], n, acc, _, h, _ => h
  | (y, k) :: r, n, acc, hn, ha, hd => by
    have hn' : y ∉ r.map (·.1) ∧ (r.map (·.1)).Nodup := List.nodup_cons.mp hn
    unfold cellsFrom
    split
    · refine cellsFrom_keys r _ _ hn'.2 (List.nodup_cons.mpr ⟨fun m => hd y m (.head _), ha⟩) fun x m => ?_
      rcases List.mem_cons.mp m with rfl | m
      · exact hn'.1
      · exact fun z => hd x m (.tail _ z)
    · exact cellsFrom_keys r _ _ hn'.2 ha fun x m z => hd x m (.tail _ z)
theorem lookup_nodup {β : Type} : ∀ {l : List (Str × β)} {x : Str} {c : β}, (l.map (·.1)).Nodup → (x, c) ∈ l → l.lookup x = some c
  | [], _, _, _, m => nomatch m
  | (y, d) :: r, x, c, nd, m => by
    have nd' : y ∉ r.map (·.1) ∧ (r.map (·.1)).Nodup := List.nodup_cons.mp nd
    rcases List.mem_cons.mp m with q | m
    · cases q; simp [List.lookup_cons]
    · have e : (x == y) = false := by
        rw [beq_eq_false_iff_ne]
        intro q
        exact nd'.1 (List.mem_map.mpr ⟨(x, c), m, q⟩)
      rw [List.lookup_cons, e]
      exact lookup_nodup nd'.2 m
/-- a def of the text, as it lies -/
structure DefAt (C : Cst) (f : Addr) (sc : Scope) (ps : List Str) (body : List Stmt) (fill : List RV → Option (List RV)) : Prop where
  fn : ∃ o fd, C.base.get? f = some o ∧ o.data = .func fd ∧ C.base.CodeRec fd.code fd.qualname ∧ fd.body = .stmts body ∧ fd.closure = [] ∧ fd.globals = mainGlobals ∧ fd.builtins = builtinsNs ∧ fd.scope = sc ∧
    ∀ (s : Shared) (α : List Addr) (vs : List Value) (xs ys : List RV), (∀ b o, C.base.get? b = some o → s.heap.get? b = some o) → VRs s.heap α vs xs → fill xs = some ys → ∃ ws, VRs s.heap α ws ys ∧ ∀ (A : Around) (E : Value → Shared → Prop) (Q : List (Str × Value) → Shared → Prop), Q (ps.zip ws) s → wpAny (model C.prog C.w) A (bindArgs fd ⟨vs, []⟩) Q E s

noncomputable def defF (fill : List RV → Option (List RV)) (f : StF) : List RV → Mem → Option (RV × Mem) := fun xs μ => match fill xs with
  | none => none
  | some ys => match f (ys.map some) μ with
    | none => none
    | some (.rt x, _, μ₁) => some (x, μ₁)
    | some (.nx, _, μ₁) => some (.d .none, μ₁)

theorem look_map : ∀ (ys : List RV) (i : Nat) (y : RV), look (ys.map some) i = some y → ys[i]? = some y
  | [], i, y, h => nomatch h
  | x :: ys, 0, y, h => h
  | x :: ys, i + 1, y, h => look_map ys i y h

section
variable {C : Cst} {k : Nat} {sc : Scope} {T : List (Str × Nat)}
theorem mem_of_lookup' {β : Type} : ∀ {l : List (Str × β)} {x : Str} {c : β}, l.lookup x = some c → (x, c) ∈ l := fun e => mem_of_lookup e
theorem fn_def {f : Addr} {ps : List Str} {body : List Stmt} {fill : List RV → Option (List RV)} {g : StF} (D : DefAt C f sc ps body fill) (hb : DenL C k sc T body g)
    (hco : sc.isCoroutine = false) (hgen : sc.isGenerator = false) (hk : sc.kind = .function) (hnd : (sc.names.map (·.1)).Nodup) (hps : ps.Nodup)
    (hkind : ∀ p ∈ ps, sc.names.lookup p = some .local ∨ sc.names.lookup p = some .cell)
    (hT : ∀ p ∈ T, (sc.names.lookup p.1 = some .local ∨ sc.names.lookup p.1 = some .cell) ∧ (p.2 < ps.length → ps[p.2]? = some p.1))
    (hfl : ∀ xs ys, fill xs = some ys → ys.length = ps.length) : FnOK C (k + 1) (.ref f) (defF fill g) := by
  obtain ⟨o, fd, ho, hdat, hcd, hbody, hclo, hgl, hbi, hsc, hbind⟩ := D.fn
  intro A s α μ vs xs x μ' Q E hr M r hg h
  unfold defF at hg
  cases e1 : fill xs with
  | none => rw [e1] at hg; cases hg
  | some ys =>
    rw [e1] at hg
    dsimp only at hg
    obtain ⟨ws, rw', hB⟩ := hbind s α vs xs ys M.ext r e1
    have hyl := hfl xs ys e1
    have hwl := rw'.len
    refine wpAny_call (codeAny_call_function (o := o) (fd := fd) (by have := hr.dp; omega) (M.ext f o ho) hdat (by rw [hsc]; exact hco) (by rw [hsc]; exact hgen) hbody (hcd.keeps M.ext) (hB _ _ _ ?_))
    rw [hclo]
    have hzip : ∀ p ∈ ps.zip ws, p.1 ∈ ps := fun p m => (List.of_mem_zip (a := p.1) (b := p.2) m).1
    refine wpAny_newFunctionEnv_cells (by rw [hsc]; exact hk) (fun p m => ?_) fun env he s' X => ?_
    · rw [hsc]
      rcases hkind p.1 (hzip p m) with q | q
      · exact .inl q
      · refine .inr ⟨q, ?_⟩
        obtain ⟨c, hc⟩ := cellsFrom_has sc.names (s.heap.objs.size + 1) [] p.1 (mem_of_lookup q)
        rw [lookup_nodup (cellsFrom_keys _ _ [] hnd List.nodup_nil fun x m => nomatch m) hc]
        rfl
    · have hsE : env.scope = sc := by rw [he]; exact hsc
      have hcE : env.cells = cellsFrom (s.heap.objs.size + 1) sc.names [] := by rw [he]; show cellsFrom (s.heap.objs.size + 1) fd.scope.names [] = _; rw [hsc]
      have hLE : env.locals = s.heap.objs.size := by rw [he]; rfl
      have kof : ∀ y, env.kindOf y = sc.names.lookup y := fun y => by unfold Env.kindOf; rw [hsE]
      have hck : ∀ {x c}, (x, c) ∈ env.cells → env.cells.lookup x = some c := fun m => by
        rw [hcE] at m ⊢
        exact lookup_nodup (cellsFrom_keys _ _ [] hnd List.nodup_nil fun x m => nomatch m) m
      obtain ⟨⟨h₁, tk₁, rfl⟩, hns, hkeep, _⟩ := X.toInCall
      replace hkeep : ∀ b o, s.heap.get? b = some o → h₁.get? b = some o := hkeep
      have M₁ : MR C h₁ α μ := M.keeps hkeep
      have t₁ : Stp [] α s.heap α h₁ := Stp.keeps hkeep
      have rws : VRs h₁ α ws ys := rw'.stp M t₁
      have frOwn : ∀ a ∈ Mine.own env, s.heap.get? a = none := fun a m => by
        rcases List.mem_cons.mp m with rfl | m
        · rw [hLE]; exact fresh_size
        · obtain ⟨p, hp, rfl⟩ := List.mem_map.mp m
          have := X.above p.1 p.2 hp
          rw [hLE] at this
          exact Heap.get?_none_of_le (Nat.le_of_lt this)
      have offOwn : ∀ a ∈ Mine.own env, a ∉ α := fun a m q => by
        obtain ⟨o, e⟩ := M.alive q
        rw [frOwn a m] at e; cases e
      have R₁ : ER C T env h₁ α (ys.map some) := by
        refine ⟨by rw [hsE]; exact hk, by rw [he]; exact hgl, by rw [he]; exact hbi, ⟨_, hns, fun y i hy => ?_⟩, base_none M (frOwn _ (.head _)), offOwn _ (.head _), fun y c hy => ?_, fun y c y' m1 m2 => name_of_addr X.apart m1 m2⟩
        · obtain ⟨hkk, hpos⟩ := hT _ hy
          have got : ∀ z, look (ys.map some) i = some z → ps[i]? = some y ∧ ∃ v, ws[i]? = some v ∧ VR h₁ α v z := fun z e => by
            have e' := look_map ys i z e
            have hi : i < ps.length := by have := (List.getElem?_eq_some_iff.mp e').1; omega
            obtain ⟨v, ev, rv⟩ := rws.get e'
            exact ⟨hpos hi, v, ev, rv⟩
          by_cases hl : sc.names.lookup y = some .local
          · refine .inl ⟨(kof y).trans hl, fun z e => ?_⟩
            obtain ⟨a, v, ev, rv⟩ := got z e
            exact ⟨v, bindL_at ((kof y).trans hl) ps ws _ i v hps a ev, rv⟩
          · have hc : sc.names.lookup y = some .cell := hkk.resolve_left hl
            obtain ⟨c, hm⟩ := cellsFrom_has sc.names (s.heap.objs.size + 1) [] y (mem_of_lookup hc)
            rw [← hcE] at hm
            refine .inr ⟨.inl ((kof y).trans hc), c, _, hck hm, X.cell y c (hck hm), fun z e => ?_⟩
            obtain ⟨a, v, ev, rv⟩ := got z e
            exact ⟨v, bindC_at (by rw [kof y, hc]; decide) ps ws _ i v hps a ev, rv⟩
        · have hm : c ∈ Mine.own env := .tail _ (List.mem_map.mpr ⟨(y, c), hy, rfl⟩)
          exact ⟨base_none M (frOwn c hm), offOwn c hm, fun q => Nat.lt_irrefl _ (by have := X.above y c hy; rw [q] at this; exact this), _, X.cell y c (hck hy)⟩
      refine ⟨(C.lim.keeps M.ext).keeps hkeep, codeAny_func ?_⟩
      cases e2 : g (ys.map some) μ with
      | none => rw [e2] at hg; cases hg
      | some q =>
        obtain ⟨fl, ρ', μ₁⟩ := q
        rw [e2] at hg
        have hr' : Room k (A.deeper env) := ⟨hr.hd, by show A.depth + 1 + k < recursionLimit; have := hr.dp; omega, by show A.units + 3 + 8 * k + 200 < cLine; have := hr.un; omega⟩
        refine hb env (A.deeper env) _ α (ys.map some) μ fl ρ' μ₁ _ _ hsE hr' R₁ M₁ e2 fun fl' α₂ h₂ tk₂ t₂ M₂ R₂ F₂ => ?_
        have td : Stp [] α s.heap α₂ h₂ := ((t₁.widen fun a m ma => ma).trans t₂).drop (fun _ m => nomatch m) fun a m => .inr (frOwn a m)
        cases fl with
        | nx =>
          cases hg
          cases fl' <;> first | exact F₂.elim | skip
          exact h .none α₂ h₂ tk₂ td M₂ Reads.none
        | rt y =>
          cases hg
          cases fl' <;> first | exact F₂.elim | skip
          exact h _ α₂ h₂ tk₂ td M₂ F₂
end
end Mine
set_option maxHeartbeats 1000000
set_option maxRecDepth 100000
set_option Elab.async false
set_option linter.unusedVariables false
set_option linter.unusedSimpArgs false
namespace Mine
open PySem PySem.Spec PySem.Calls PyProof.Rows PySem.W

noncomputable def runT {α : Type} (n : Nat) (lt : Nat → Nat → Bool) : KasT α → Option α
  | .ret a => some a
  | .ask i j k => if i < n ∧ j < n then runT n lt (k (lt i j)) else none
theorem runT_wp {α : Type} {n : Nat} {lt : Nat → Nat → Bool} {cmp : Nat → Nat → (Bool → Shared → Prop) → Shared → Prop} {s : Shared} (hc : ∀ i j C, i < n → j < n → C (lt i j) s → cmp i j C s) :
    ∀ (t : KasT α) (a : α) (Q : α → Shared → Prop), runT n lt t = some a → Q a s → t.kasWp cmp Q s
  | .ret b, a, Q, e, h => by cases e; exact h
  | .ask i j k, a, Q, e, h => by
    unfold runT at e
    split at e
    · rename_i hij
      exact hc i j _ hij.1 hij.2 (runT_wp hc (k (lt i j)) a Q e h)
    · cases e

/-- tuples of ints -/
inductive TIs (h : Heap) : List Value → List (List Int) → Prop where
  | nil : TIs h [] []
  | cons {a : Addr} {o : Obj} {xs : Array Value} {n : Nat} {ns : List Int} {vs : List Value} {L : List (List Int)} : h.get? a = some o → o.cls = .type "tuple" → o.data = .seq xs n → IntsAre xs.toList ns → ns ≠ [] → TIs h vs L → TIs h (.ref a :: vs) (ns :: L)
theorem TIs.len {h : Heap} {vs : List Value} {L : List (List Int)} (t : TIs h vs L) : vs.length = L.length := by
  induction t with
  | nil => rfl
  | cons _ _ _ _ _ _ ih => simp [ih]
theorem TIs.up {h h' : Heap} (k : TupKeep h h') {vs : List Value} {L : List (List Int)} (t : TIs h vs L) : TIs h' vs L := by
  induction t with
  | nil => exact .nil
  | cons a b c d e _ ih => exact .cons (k _ _ _ _ a b c) b c d e ih
theorem TIs.get {h : Heap} {vs : List Value} {L : List (List Int)} (t : TIs h vs L) : ∀ {i : Nat}, i < vs.length → ∃ a o xs n, vs.getD i Value.none = .ref a ∧ h.get? a = some o ∧ o.data = .seq xs n ∧ IntsAre xs.toList (L.getD i []) := by
  induction t with
  | nil => intro i hi; exact absurd hi (Nat.not_lt_zero _)
  | cons a b c d e _ ih =>
    intro i hi
    cases i with
    | zero => exact ⟨_, _, _, _, rfl, a, c, d⟩
    | succ i => exact ih (Nat.lt_of_succ_lt_succ hi)
theorem TIs.firsts {h : Heap} {vs : List Value} {L : List (List Int)} (t : TIs h vs L) : ∃ fs, KatTups h vs fs ∧ fs.length = vs.length ∧ ∀ v ∈ fs, ∃ i t, v = .int i t := by
  induction t with
  | nil => exact ⟨[], KatTups.nil, rfl, fun _ m => nomatch m⟩
  | @cons a o xs n ns vs L ha hc hd hi hne _ ih =>
    obtain ⟨fs, k, hl, hf⟩ := ih
    obtain ⟨its⟩ := xs
    replace hi : IntsAre its ns := hi
    cases hi with
    | nil => exact absurd rfl hne
    | @cons i tk _ _ hr =>
      refine ⟨.int i tk :: fs, KatTups.cons ha hc hd rfl k, by simp [hl], fun v m => ?_⟩
      rcases List.mem_cons.mp m with rfl | m
      · exact ⟨i, tk, rfl⟩
      · exact hf v m
noncomputable def tupInts : List PyData → Option (List (List Int))
  | [] => some []
  | .tuple ds :: r => match intsOf ds with
    | some (n :: ns) => match tupInts r with
      | none => none
      | some L => some ((n :: ns) :: L)
    | _ => none
  | _ :: _ => none
theorem tupInts_is {h : Heap} : ∀ {ds : List PyData} {vs : List Value} {L : List (List Int)} {as : List Addr}, tupInts ds = some L → ReadsAll h vs ds as → TIs h vs L
  | [], _, _, _, e, r => by cases e; cases r; exact .nil
  | .tuple xs :: ds, _, _, _, e, r => by
    unfold tupInts at e
    split at e
    · rename_i n ns e1
      split at e
      · cases e
      · rename_i L e2
        cases e
        cases r with
        | cons r1 r2 =>
          cases r1 with
          | tuple h1 h2 h3 h4 => exact .cons h1 h2 h3 (intsOf_are e1 h4) (by simp) (tupInts_is e2 r2)
    · cases e
  | .none :: _, _, _, _, e, _ => nomatch e
  | .int _ :: _, _, _, _, e, _ => nomatch e
  | .bool _ :: _, _, _, _, e, _ => nomatch e
  | .str _ :: _, _, _, _, e, _ => nomatch e
  | .list _ :: _, _, _, _, e, _ => nomatch e
  | .dict _ :: _, _, _, _, e, _ => nomatch e

section
variable {prog : Program} {w : World} {A : Around} {E : Value → Shared → Prop} {s : Shared}
theorem kat_lex_ints {Q : Bool → Shared → Prop} {fin : Bool} : ∀ (xs ys : List Value) (ns ms : List Int) (i : Nat), IntsAre xs ns → IntsAre ys ms →
    (∀ b, (b = ltL ns ms ∨ (b = fin ∧ False)) → Q b s) → fin = decide (xs.length < ys.length) → KatLex prog w A true fin Q (xs.zip ys) i s
  | [], [], _, _, i, .nil, .nil, h, hf => kat_nil (h _ (.inl (by rw [hf]; rfl)))
  | [], _ :: _, _, _, i, .nil, .cons _ _ _, h, hf => kat_nil (h _ (.inl (by rw [hf]; simp [ltL])))
  | _ :: _, [], _, _, i, .cons _ _ _, .nil, h, hf => kat_nil (h _ (.inl (by rw [hf]; simp [ltL])))
  | _ :: xs, _ :: ys, _, _, i, .cons (ns := ns) n t hx, .cons (ns := ms) m u hy, h, hf => by
    refine kat_cons (wpAny_eqBool_int ?_)
    by_cases e : n = m
    · subst e
      rw [beq_self_eq_true]
      refine kat_yes (kat_lex_ints xs ys _ _ (i + 1) hx hy (fun b hb => h b ?_) (by rw [hf]; simp))
      rcases hb with hb | hb
      · left; rw [hb]; simp [ltL]
      · exact hb.2.elim
    · rw [beq_eq_false_iff_ne.mpr e]
      refine kat_no ?_
      have hq : Q (decide (n < m)) s := h _ (.inl (by simp [ltL, e]))
      cases hi : (i == 0) with
      | true => exact oneLt_int hq
      | false => exact kat_one _ _ (PyProof.Rows.lt_int hq)
theorem kat_ask_ints {vs : List Value} {L : List (List Int)} (t : TIs s.heap vs L) {i j : Nat} {Cq : Bool → Shared → Prop} (hi : i < vs.length) (hj : j < vs.length) (h : Cq (ltL (L.getD i []) (L.getD j [])) s) : kas_ask prog w A (tuples' true) vs i j Cq s := by
  obtain ⟨a, o, xs, n, e1, ha, hd, ia⟩ := t.get hi
  obtain ⟨b, o', ys, n', e2, hb, hd', ib⟩ := t.get hj
  unfold kas_ask
  rw [e1, e2]
  refine kat_lt ha hd hb hd' (kat_lex_ints _ _ _ _ 0 ia ib (fun b hb => ?_) (by simp))
  rcases hb with hb | hb
  · rw [hb]; exact h
  · exact hb.2.elim

/-- sort on a list, given what its runs leave; all else stands -/
theorem sort_at {a : Addr} {vs out : List Value} {n : Nat} {P : PySem.Fin → Shared → Prop} (ho : s.heap.get? a = some (seqObj "list" vs.toArray n)) (hv : vs.length < 64) (hl : out.length = vs.length)
    (runs : ∀ (g : Heap) (R : Unit × SortSt → Shared → Prop), Heap.ExtBut a s.heap g → (∀ st, (arrOf st).map (·.2) = out.toArray → failedOf st = none → R ((), st) { s with heap := g }) →
      wpAny (model prog w) A (if vs.toArray.size < 2 then pure general' else keyKind' vs.toArray) (fun κ s' => wpAny (model prog w) A ((if vs.toArray.size < 2 then pure () else sortRuns').run (SortSt.mk' κ (vs.toArray.zip vs.toArray) #[] 7 none)) R E s') E { s with heap := g })
    (h : ∀ g c, Heap.ExtBut a s.heap g → g.get? a = some (seqObj "list" out.toArray c) → P (.done (.ret .none)) { s with heap := g }) :
    wpAny (model prog w) A (Builtin.«list.sort» ⟨[.ref a], []⟩) P E s := by
  have fit : ∀ k, k < 64 → k ≤ sizeLine := fun k q => by rw [sizeLine_eq]; omega
  rw [list_sort_plain]
  refine wpAny_bind (listItems_at ho rfl (wpAny_bind (listUpdate_at ho rfl ?_ (fit _ (by simpa using hv)) (Nat.zero_le _))))
  have k₁ := (Heap.SameBut.update s.heap a (Obj.mapSeq fun _ => (#[] : Array Value))).extBut
  have o₁ := get?_update_seq ho fun _ => (#[] : Array Value)
  generalize s.heap.update a (Obj.mapSeq fun _ => (#[] : Array Value)) = g₁ at k₁ o₁ ⊢
  generalize (if (#[] : Array Value).size == vs.toArray.size then n else n + 1) = ep at o₁
  refine wpAny_bind (seqEpoch_at (s := { s with heap := g₁ }) o₁ rfl (wpAny_bind (wpAny_newTuple (wpAny_bind (wpAny_newList (wpAny_holding ?_) (Nat.zero_le _))) (fit _ hv))))
  have k₂ : Heap.ExtBut a s.heap ((g₁.push (seqObj "tuple" vs.toArray 0)).push (seqObj "list" #[] 0)) := (k₁.push _).push _
  have o₂ : ((g₁.push (seqObj "tuple" vs.toArray 0)).push (seqObj "list" #[] 0)).get? a = _ := Heap.get?_push_of_some _ (Heap.get?_push_of_some _ o₁)
  show wpAny (model prog w) A _ P E { s with heap := (g₁.push (seqObj "tuple" vs.toArray 0)).push (seqObj "list" #[] 0) }
  generalize (g₁.push (seqObj "tuple" vs.toArray 0)).push (seqObj "list" #[] 0) = g₂ at k₂ o₂ ⊢
  have k₃ := (Heap.SameBut.update g₂ a (Obj.mapSeq fun _ => out.toArray)).extBut
  have q : ∀ c', wpAny (model prog w) A (if (ep != ep) = true then c' else ret .none) P E { s with heap := g₂.update a (Obj.mapSeq fun _ => out.toArray) } := fun c' => by
    rw [bne_self_eq_false, if_neg Bool.false_ne_true]
    exact wpAny_pure (h _ _ (Heap.ExtBut.trans k₂ k₃) (get?_update_seq o₂ fun _ => out.toArray))
  have fo : out.toArray.size ≤ sizeLine + 1 := Nat.le_succ_of_le (fit _ (by rw [List.size_toArray, hl]; exact hv))
  dsimp only
  by_cases few : vs.toArray.size < 2 <;> simp only [few, if_true, if_false] at runs ⊢ <;>
  · refine wpAny_bind (wpAny_mono (runs g₂ _ k₂ fun st e1 e2 => ?_) (fun _ _ q => wpAny_bind q) fun _ _ q => q)
    dsimp only
    rw [e1, e2]
    exact wpAny_bind (seqEpoch_at (s := { s with heap := g₂ }) o₂ rfl (wpAny_bind (listUpdate_at (s := { s with heap := g₂ }) o₂ rfl (q _) (Nat.zero_le _) fo)))
/-- two items or more, tuples of ints -/
theorem sort_tuples {a : Addr} {vs : List Value} {n : Nat} {P : PySem.Fin → Shared → Prop} {L : List (List Int)} {p : Array Nat} (ho : s.heap.get? a = some (seqObj "list" vs.toArray n))
    (h2 : 2 ≤ vs.length) (h64 : vs.length < 64) (t : TIs s.heap vs L) (hp : runT vs.length (fun i j => ltL (L.getD i []) (L.getD j [])) (kas_sort vs.length) = some p) (hsz : p.size = vs.length)
    (h : ∀ g c, Heap.ExtBut a s.heap g → g.get? a = some (seqObj "list" (List.toArray (p.toList.map fun i => vs.getD i Value.none)) c) → P (.done (.ret .none)) { s with heap := g }) :
    wpAny (model prog w) A (Builtin.«list.sort» ⟨[.ref a], []⟩) P E s := by
  have many : ¬ vs.toArray.size < 2 := fun q => absurd h2 (Nat.not_le.mpr (by simpa using q))
  refine sort_at ho h64 (out := p.toList.map fun i => vs.getD i Value.none) (by rw [List.length_map, Array.length_toList, hsz]) (fun g R kg hR => ?_) h
  have tg : TIs g vs L := t.up fun b o xs k e c d => kg b o (fun q => by subst q; rw [ho] at e; cases e; exact absurd c (show Value.type "list" ≠ Value.type "tuple" by decide)) e
  obtain ⟨fs, kf, hfl, hfi⟩ := tg.firsts
  have allInt : ∀ v ∈ fs, Looks (model prog w) g (typeOf v) (.type "int") := fun v m => by
    obtain ⟨i, tk, rfl⟩ := hfi v m
    exact Looks.of_pure rfl
  rw [if_neg many]
  refine kat_kind (s := { s with heap := g }) kf (by omega) allInt (by decide) ?_
  rw [if_neg many]
  refine kat_run (s := { s with heap := g }) (Q := fun st s' => R ((), st) s') (G := fun p' s' => p' = p ∧ s' = { s with heap := g }) rfl h2 h64 (fun p' st s' _ a2 a3 a4 => ?_) (runT_wp (fun i j _ hi hj hC => kat_ask_ints (s := { s with heap := g }) tg hi hj hC) _ p _ hp ⟨rfl, rfl⟩)
  obtain ⟨rfl, rfl⟩ := a4
  exact hR st (kat_snds rfl a2) a3
/-- one item or none -/
theorem sort_few {a : Addr} {vs : List Value} {n : Nat} {P : PySem.Fin → Shared → Prop} (ho : s.heap.get? a = some (seqObj "list" vs.toArray n)) (h2 : vs.length < 2)
    (h : ∀ g c, Heap.ExtBut a s.heap g → g.get? a = some (seqObj "list" vs.toArray c) → P (.done (.ret .none)) { s with heap := g }) : wpAny (model prog w) A (Builtin.«list.sort» ⟨[.ref a], []⟩) P E s := by
  have few : vs.toArray.size < 2 := by simpa using h2
  refine sort_at ho (by omega) rfl (fun g R _ hR => ?_) h
  rw [if_pos few]
  refine wpAny_pure ?_
  rw [if_pos few]
  refine wpAny_pure (hR _ ?_ rfl)
  show (vs.toArray.zip vs.toArray).map (·.2) = vs.toArray
  exact Array.toList_inj.mp (by simp [List.map_snd_zip])
/-- sorted on a list, given what list.sort does to a new one like it -/
theorem sorted_by {l : Addr} {vs : List Value} {Q : Value → Shared → Prop} (hl : s.heap.IsList l vs.toArray) (hv : vs.length < 64)
    (h : ∀ g, (∀ b o, s.heap.get? b = some o → g.get? b = some o) → g.get? (s.heap.objs.size + 1) = some (seqObj "list" vs.toArray 0) →
      wpAny (model prog w) A.in1.in1 (Builtin.«list.sort» ⟨[.ref (s.heap.objs.size + 1)], []⟩) (fun fin s' => fin = .done (.ret .none) ∧ Q (.ref (s.heap.objs.size + 1)) s') E { s with heap := g }) :
    wpAny (model prog w) A (call (.builtin "sorted") [.ref l]) Q E s := by
  have fit : vs.length ≤ sizeLine := by rw [sizeLine_eq]; omega
  refine Calls.call_function_entry kind_sorted plain_sorted entry_sorted (args_sorted1 _) (wpAny_bind (m := checkCount "sorted" 1 1 _) (wpAny_pure (wpAny_bind (collect_list hl ?_ fit))))
  have old : ∀ b o, s.heap.get? b = some o → ((s.heap.push (seqObj "list" #[] 0)).update s.heap.objs.size (Obj.mapSeq (· ++ vs.toArray))).get? b = some o := fun b o e =>
    (Heap.get?_update_other _ _ (Nat.ne_of_gt (Heap.lt_size e))).trans (Heap.get?_push_of_some _ e)
  have len : ((s.heap.push (seqObj "list" #[] 0)).update s.heap.objs.size (Obj.mapSeq (· ++ vs.toArray))).objs.size = s.heap.objs.size + 1 := (Heap.SameBut.update ..).1.trans (size_push' ..)
  generalize (s.heap.push (seqObj "list" #[] 0)).update s.heap.objs.size (Obj.mapSeq (· ++ vs.toArray)) = g₁ at old len ⊢
  refine wpAny_bind (wpAny_newList ?_ fit)
  have there : (g₁.push (seqObj "list" vs.toArray 0)).get? (s.heap.objs.size + 1) = some (seqObj "list" vs.toArray 0) := by rw [← len]; exact Heap.get?_push_size _ rfl
  have run := h _ (fun b o e => Heap.get?_push_of_some _ (old b o e)) there
  dsimp only
  rw [len]
  refine wpAny_bind (wpAny_holding (wpAny_call_entry slot_list_sort ⟨_, there, rfl⟩ entry_list_sort (wpAny_mono run (fun fin s' q => ?_) fun _ _ q => q) (args_list_sort _)))
  exact ⟨_, q.1, wpAny_pure ⟨_, rfl, q.2⟩⟩
end

section
variable {C : Cst} {k : Nat} {A : Around} {E : Value → Shared → Prop} {s : Shared}
/-- a new object, wherever it lies, joins the memory -/
theorem MR.join {h : Heap} {α : List Addr} {μ : Mem} (M : MR C h α μ) {D : Addr} {x : AO} (off : D ∉ α) (hb : C.base.get? D = none) (hD : (D == sysModules) = false) (hx : AR C h (α ++ [D]) D x) : MR C h (α ++ [D]) (μ ++ [x]) := by
  refine ⟨M.ext, by simp [M.len], fun i a y e q => ?_, ?_, fun a m => ?_, fun a m => (List.mem_append.mp m).elim (M.nm a) fun m => by rw [List.mem_singleton.mp m]; exact hD⟩
  · by_cases hi : i < α.length
    · rw [List.getElem?_append_left hi] at e
      rw [List.getElem?_append_left (M.len ▸ hi)] at q
      refine (M.obj i a y e q).up (fun _ _ _ _ e _ _ => e) (fun j b g => ?_) fun _ g => g
      rw [List.getElem?_append_left (List.getElem?_eq_some_iff.mp g).1]; exact g
    · rw [List.getElem?_append_right (Nat.le_of_not_lt hi)] at e
      rw [List.getElem?_append_right (M.len ▸ Nat.le_of_not_lt hi)] at q
      have h1 : i - α.length = 0 := by
        have := (List.getElem?_eq_some_iff.mp e).1
        simpa using this
      rw [h1] at e
      rw [← M.len, h1] at q
      cases e
      cases q
      exact hx
  · refine List.nodup_append.mpr ⟨M.nd, by simp, fun a m b mb => ?_⟩
    rw [List.mem_singleton.mp mb]
    rintro rfl
    exact off m
  · rcases List.mem_append.mp m with m | m
    · exact M.new a m
    · rw [List.mem_singleton.mp m]; exact hb

noncomputable def fSorted (xs : List RV) (μ : Mem) : Option (RV × Mem) := match xs with
  | [.r j] => match μ[j]? with
    | some (.lst ys) => if ys.length < 2 then some (.r μ.length, μ ++ [.lst ys]) else match flat ys with
      | none => none
      | some ds => match tupInts ds with
        | none => none
        | some L => if ys.length < 64 then match runT ys.length (fun i j => ltL (L.getD i []) (L.getD j [])) (kas_sort ys.length) with
            | none => none
            | some p => if p.size = ys.length ∧ p.toList.all (fun i => decide (i < ys.length)) = true then some (.r μ.length, μ ++ [.lst (p.toList.filterMap fun i => ys[i]?)]) else none
          else none
    | _ => none
  | _ => none
theorem VRs.perm {h : Heap} {α : List Addr} {vs : List Value} {xs : List RV} (r : VRs h α vs xs) : ∀ p : List Nat, (∀ i ∈ p, i < xs.length) → VRs h α (p.map fun i => vs.getD i Value.none) (p.filterMap fun i => xs[i]?)
  | [], _ => .nil
  | i :: p, hp => by
    have hi : i < xs.length := hp i (.head _)
    have e : xs[i]? = some xs[i] := List.getElem?_eq_getElem hi
    obtain ⟨v, ev, q⟩ := r.get e
    rw [List.filterMap_cons_some (by exact e), List.map_cons]
    have : vs.getD i Value.none = v := by simp [ev]
    rw [this]
    exact .cons q (r.perm p fun j m => hp j (.tail _ m))

theorem sorted_end {α : List Addr} {μ : Mem} {D : Addr} {vs : List Value} {ys : List RV} {c : Nat} {h' : Heap} {Q : Value → Shared → Prop} (P : PostE C s α (.r μ.length) (μ ++ [.lst ys]) Q) (M : MR C s.heap α μ) (fr : s.heap.get? D = none) (hD : (D == sysModules) = false) (keep : ∀ b o, s.heap.get? b = some o → h'.get? b = some o)
    (ho : h'.get? D = some (seqObj "list" vs.toArray c)) (r : VRs s.heap α vs ys) : Q (.ref D) { s with heap := h' } := by
  have M' := M.keeps keep
  have off : D ∉ α := fun m => by obtain ⟨o, e⟩ := M.alive m; rw [e] at fr; cases fr
  have r' : VRs h' (α ++ [D]) vs ys := r.up (fun b o _ _ e _ _ => keep b o e) fun i a e => by rw [List.getElem?_append_left (List.getElem?_eq_some_iff.mp e).1]; exact e
  have M₂ : MR C h' (α ++ [D]) (μ ++ [.lst ys]) := M'.join off (base_none M fr) hD ⟨_, c, ho, by simpa using r'⟩
  refine P _ (α ++ [D]) h' s.toks ⟨⟨_, rfl⟩, fun a m => ?_, fun b o e _ _ => keep b o e⟩ M₂ ⟨D, ?_, rfl⟩
  · rcases List.mem_append.mp m with m | m
    · exact .inl m
    · rw [List.mem_singleton.mp m]; exact .inr ⟨fr, fun z => nomatch z⟩
  · rw [← M.len, List.getElem?_append_right (Nat.le_refl _), Nat.sub_self]; rfl

theorem ok_sorted : FnOK C k (.builtin "sorted") fSorted := by
  intro A s α μ us xs x μ' Q E hr M r hg h
  unfold fSorted at hg
  split at hg
  · rename_i j
    split at hg
    · rename_i ys e1
      cases r with
      | cons r1 r2 =>
        cases r2
        obtain ⟨l, rfl, _, items, n, hl, ra⟩ := VR.obj M r1 e1
        obtain ⟨vs⟩ := items
        replace ra : VRs s.heap α vs ys := ra
        have lv := ra.len
        have fresh : s.heap.get? (s.heap.objs.size + 1) = none := Heap.get?_none_of_le (Nat.le_succ _)
        have noMod : (s.heap.objs.size + 1 == sysModules) = false := by
          obtain ⟨_, _, _, e, _⟩ := C.hg
          have lt : mainGlobals < s.heap.objs.size := Heap.lt_size (M.ext _ _ e)
          have lt' : sysModules < mainGlobals := by decide
          rw [beq_eq_false_iff_ne]
          exact Nat.ne_of_gt (Nat.lt_trans lt' (Nat.lt_succ_of_lt lt))
        -- the end, whatever the order
        have fin : ∀ (out : List Value) (zs : List RV), VRs s.heap α out zs → PostE C s α (.r μ.length) (μ ++ [.lst zs]) Q → ∀ (g : Heap), (∀ b o, s.heap.get? b = some o → g.get? b = some o) → ∀ g' c, Heap.ExtBut (s.heap.objs.size + 1) g g' →
            g'.get? (s.heap.objs.size + 1) = some (seqObj "list" out.toArray c) → Q (.ref (s.heap.objs.size + 1)) { s with heap := g' } := fun out zs rz hP g kg g' c kg' ho =>
          sorted_end (s := s) hP M fresh noMod (fun b o e => kg' b o (fun q => by rw [q, fresh] at e; cases e) (kg b o e)) ho rz
        split at hg
        · rename_i few
          cases hg
          exact sorted_by (isList_of hl) (by omega) fun g kg ho => sort_few (s := { s with heap := g }) ho (by omega) fun g' c k' o' => ⟨rfl, fin vs ys ra h g kg g' c k' o'⟩
        · rename_i few
          split at hg
          · cases hg
          · rename_i ds e2
            split at hg
            · cases hg
            · rename_i L e3
              split at hg
              · rename_i h64
                split at hg
                · cases hg
                · rename_i p e4
                  split at hg
                  · rename_i hp
                    cases hg
                    have t := tupInts_is e3 (flat_reads ra e2)
                    have rp := ra.perm p.toList fun i m => by simpa using List.all_eq_true.mp hp.2 i m
                    exact sorted_by (isList_of hl) (by omega) fun g kg ho => sort_tuples (s := { s with heap := g }) ho (by omega) (by omega) (t.up fun b o _ _ e _ _ => kg b o e) (by rw [lv]; exact e4) (by rw [lv]; exact hp.1)
                      fun g' c k' o' => ⟨rfl, fin _ _ rp h g kg g' c k' o'⟩
                  · cases hg
              · cases hg
    · cases hg
  · cases hg
end
end Mine
set_option maxHeartbeats 1000000
set_option maxRecDepth 100000
set_option Elab.async false
set_option linter.unusedVariables false
set_option linter.unusedSimpArgs false
namespace Mine
open PySem PySem.Spec PySem.Calls PyProof.Rows

/-! a call that sees its arguments alone -/
noncomputable def isD : RV → Bool
  | .d _ => true
  | _ => false
noncomputable def flatO : AO → Bool
  | .lst xs => xs.all isD
  | .dct kvs => kvs.all fun p => isD p.2
theorem VR.flat {h : Heap} {α α' : List Addr} {v : Value} {x : RV} (r : VR h α v x) (e : isD x = true) : VR h α' v x := by
  cases x with
  | d x => exact r
  | r i => cases e
  | o u => cases e
theorem VRs.flat {h : Heap} {α α' : List Addr} {vs : List Value} {xs : List RV} (r : VRs h α vs xs) : xs.all isD = true → VRs h α' vs xs := by
  induction r with
  | nil => intro _; exact .nil
  | cons a _ ih =>
    intro e
    rw [List.all_cons, Bool.and_eq_true] at e
    exact .cons (a.flat e.1) (ih e.2)
theorem KVs.flat {h : Heap} {α α' : List Addr} {vs : List (List Atom × Addr × Value)} {xs : List (List Atom × RV)} (r : KVs h α vs xs) : (xs.all fun p => isD p.2) = true → KVs h α' vs xs := by
  induction r with
  | nil => intro _; exact .nil
  | cons a _ ih =>
    intro e
    rw [List.all_cons, Bool.and_eq_true] at e
    exact .cons (a.flat e.1) (ih e.2)
theorem AR.flat {C : Cst} {h : Heap} {α α' : List Addr} {a : Addr} {o : AO} (r : AR C h α a o) (e : flatO o = true) : AR C h α' a o := by
  cases o with
  | lst xs => obtain ⟨vs, n, g, q⟩ := r; exact ⟨vs, n, g, q.flat e⟩
  | dct kvs => obtain ⟨xs, d, q⟩ := r; exact ⟨xs, d, q.flat e⟩

theorem MR.put' {C : Cst} {h h' : Heap} {α : List Addr} {μ : Mem} (M : MR C h α μ) {i : Nat} {a : Addr} {x : AO} (hi : α[i]? = some a) (hs : ∀ b o, b ≠ a → h.get? b = some o → h'.get? b = some o) (hx : AR C h' α a x) : MR C h' α (μ.set i x) := by
  have k : TupKeep h h' := fun b o vs n e c d => hs b o (fun q => by subst q; exact M.notTuple (List.mem_of_getElem? hi) e c) e
  refine ⟨fun b o e => hs b o (fun q => ?_) (M.ext b o e), by simp [M.len], fun j b o e q => ?_, M.nd, M.new, M.nm⟩
  · subst q
    have := M.new b (List.mem_of_getElem? hi)
    rw [e] at this; exact nomatch this
  · by_cases hj : i = j
    · subst hj
      rw [hi] at e
      cases e
      have hl : i < μ.length := M.len ▸ (List.getElem?_eq_some_iff.mp hi).1
      rw [List.getElem?_set_self hl] at q
      cases q
      exact hx
    · rw [List.getElem?_set_ne hj] at q
      refine (M.obj j b o e q).up k (fun _ _ e => e) fun c g => hs b c (fun z => ?_) g
      subst z
      obtain ⟨l1, e1⟩ := List.getElem?_eq_some_iff.mp hi
      exact hj ((List.getElem?_inj l1 M.nd).mp (hi.trans e.symm))

noncomputable def loc1 (F : List RV → Mem → Option (RV × Mem)) (j : Nat) (rest : List RV) (o : AO) (μ : Mem) : Option (RV × Mem) := match rest.all isD && flatO o with
  | false => none
  | true => match F (.r 0 :: rest) [o] with
    | some (.d y, o' :: _) => match flatO o' with
      | true => some (.d y, μ.set j o')
      | false => none
    | _ => none
noncomputable def loc0 (F : List RV → Mem → Option (RV × Mem)) (xs : List RV) (μ : Mem) : Option (RV × Mem) := match xs.all isD with
  | false => none
  | true => match F xs [] with
    | none => none
    | some (.d y, _) => some (.d y, μ)
    | some (.r i, ν) => match ν[i]? with
      | none => none
      | some o => match flatO o with
        | true => some (.r μ.length, μ ++ [o])
        | false => none
    | some (.o _, _) => none
noncomputable def locF (F : List RV → Mem → Option (RV × Mem)) : List RV → Mem → Option (RV × Mem)
  | .r j :: rest, μ => match μ[j]? with
    | none => none
    | some o => loc1 F j rest o μ
  | .d x :: rest, μ => loc0 F (.d x :: rest) μ
  | .o _ :: _, _ => none
  | [], μ => loc0 F [] μ

section
variable {C : Cst} {k : Nat}
theorem loc0_ok {f : Value} {F : List RV → Mem → Option (RV × Mem)} (ok : FnOK C k f F) : FnOK C k f (loc0 F) := by
  intro A s α μ vs xs x μ' Q E hr M r hg h
  unfold loc0 at hg
  split at hg
  · cases hg
  · rename_i hall
    have M₀ : MR C s.heap [] [] := by
      refine ⟨M.ext, rfl, fun i a o e => ?_, List.nodup_nil, (fun a m => nomatch m), (fun a m => nomatch m)⟩
      cases e
    have r₀ : VRs s.heap [] vs xs := r.flat hall
    split at hg
    · cases hg
    · rename_i y ν e
      cases hg
      refine ok A s [] [] vs xs _ _ Q E hr M₀ r₀ e fun v α' h' tk' t M' r' => ?_
      exact h.keeps M (fun b o e => t.kp b o e (fun m => nomatch m) fun m => nomatch m) r'
    · rename_i i ν e
      split at hg
      · cases hg
      · rename_i o eo
        split at hg
        · rename_i hf
          cases hg
          refine ok A s [] [] vs xs _ _ Q E hr M₀ r₀ e fun v α' h' tk' t M' r' => ?_
          obtain ⟨a, ea, rfl⟩ := r'
          have keep : ∀ b o, s.heap.get? b = some o → h'.get? b = some o := fun b o e => t.kp b o e (fun m => nomatch m) fun m => nomatch m
          have fr : s.heap.get? a = none := (t.new a (List.mem_of_getElem? ea)).elim (fun m => nomatch m) fun q => q.1
          have off : a ∉ α := fun m => by obtain ⟨o, e⟩ := M.alive m; rw [e] at fr; cases fr
          have hx : AR C h' (α ++ [a]) a o := (M'.obj i a o ea eo).flat hf
          refine h _ (α ++ [a]) h' tk' ⟨⟨_, rfl⟩, fun b m => ?_, fun b o e _ _ => keep b o e⟩ ((M.keeps keep).join off (base_none M fr) (M'.nm a (List.mem_of_getElem? ea)) hx) ⟨a, ?_, rfl⟩
          · rcases List.mem_append.mp m with m | m
            · exact .inl m
            · rw [List.mem_singleton.mp m]; exact .inr ⟨fr, fun z => nomatch z⟩
          · rw [← M.len, List.getElem?_append_right (Nat.le_refl _), Nat.sub_self]; rfl
        · cases hg
    · cases hg
theorem loc_ok {f : Value} {F : List RV → Mem → Option (RV × Mem)} (ok : FnOK C k f F) : FnOK C k f (locF F) := by
  intro A s α μ vs xs x μ' Q E hr M r hg h
  unfold locF at hg
  split at hg
  · rename_i j rest
    split at hg
    · cases hg
    · rename_i o eo
      unfold loc1 at hg
      split at hg
      · cases hg
      · rename_i hc
        obtain ⟨hrest, ho⟩ := Bool.and_eq_true_iff.mp hc
        split at hg
        · rename_i y o' ν e
          split at hg
          · rename_i ho'
            cases hg
            cases r with
            | @cons v1 _ vs _ r1 r2 =>
              obtain ⟨a, ea, rfl⟩ := r1
              have M₁ : MR C s.heap [a] [o] := by
                refine ⟨M.ext, rfl, fun i b p e q => ?_, List.nodup_cons.mpr ⟨fun m => (by cases m), List.nodup_nil⟩, fun b m => M.new b (by rw [List.mem_singleton.mp m]; exact List.mem_of_getElem? ea), fun b m => M.nm b (by rw [List.mem_singleton.mp m]; exact List.mem_of_getElem? ea)⟩
                cases i with
                | zero => cases e; cases q; exact (M.obj j a o ea eo).flat ho
                | succ i => cases e
              have r₁ : VRs s.heap [a] (.ref a :: vs) (.r 0 :: rest) := .cons ⟨a, rfl, rfl⟩ (r2.flat hrest)
              refine ok A s [a] [o] _ _ _ _ Q E hr M₁ r₁ e fun v α' h' tk' t M' r' => ?_
              have keep : ∀ b o, b ≠ a → s.heap.get? b = some o → h'.get? b = some o := fun b o hb e => t.kp b o e (fun m => hb (List.mem_singleton.mp m)) fun m => nomatch m
              have hx : AR C h' α a o' := (M'.obj 0 a o' (t.get rfl) rfl).flat ho'
              exact h v α h' tk' ⟨⟨[], by simp⟩, fun _ m => .inl m, fun b o e n _ => keep b o (fun q => n (by rw [q]; exact List.mem_of_getElem? ea)) e⟩ (M.put' ea keep hx) (r'.flat rfl)
          · cases hg
        · cases hg
  · exact loc0_ok ok A s α μ vs _ x μ' Q E hr M r hg h
  · cases hg
  · exact loc0_ok ok A s α μ vs _ x μ' Q E hr M r hg h
end

/-! a run of statements ahead of others -/
section
variable {C : Cst} {k : Nat} {sc : Scope} {T : List (Str × Nat)}
noncomputable def DenPre (C : Cst) (k : Nat) (sc : Scope) (T : List (Str × Nat)) (as : List Stmt) (f : StF) : Prop :=
  ∀ (bs : List Stmt) (env : Env) (A : Around) (s : Shared) (α : List Addr) (ρ : Rho) (μ : Mem) (ρ' : Rho) (μ' : Mem) (Q : Flow → Shared → Prop) (E : Value → Shared → Prop),
    env.scope = sc → Room k A → ER C T env s.heap α ρ → MR C s.heap α μ → f ρ μ = some (.nx, ρ', μ') →
    (∀ α' h' tk', Stp (own env) α s.heap α' h' → MR C h' α' μ' → ER C T env h' α' ρ' → wpAny (model C.prog C.w) A (execs bs env) Q E { s with heap := h', toks := tk' }) →
    wpAny (model C.prog C.w) A (execs (as ++ bs) env) Q E s
theorem denPre_nil : DenPre C k sc T [] nilS := by
  intro bs env A s α ρ μ ρ' μ' Q E hsc hr R M hf h
  cases hf
  exact h α s.heap s.toks (Stp.refl ..) M R
theorem denPre_cons {e : Stmt} {es : List Stmt} {f g : StF} (hf : DenS C k sc T e f) (hg : DenPre C k sc T es g) : DenPre C k sc T (e :: es) (seqS f g) := by
  intro bs env A s α ρ μ ρ' μ' Q E hsc hr R M hh h
  unfold seqS at hh
  cases e1 : f ρ μ with
  | none => rw [e1] at hh; cases hh
  | some p =>
    obtain ⟨fl, ρ₁, μ₁⟩ := p
    rw [e1] at hh
    cases fl with
    | rt x => cases hh
    | nx =>
      refine wpAny_execs_cons (hf env A s α ρ μ .nx ρ₁ μ₁ _ E hsc hr R M e1 fun fl' α₁ h₁ tk₁ t₁ M₁ R₁ F₁ => ?_)
      cases fl' <;> first | exact F₁.elim | skip
      exact hg bs env A _ α₁ ρ₁ μ₁ ρ' μ' Q E hsc hr R₁ M₁ hh fun α' h' tk' t M' R' => h α' h' tk' (t₁.trans t) M' R'

theorem ER.focus {env : Env} {h : Heap} {α α'' : List Addr} {ρ ρ'' : Rho} (R : ER C T env h α ρ) (sub : ∀ a ∈ α'', a ∈ α) (hw : ∀ i y, look ρ'' i = some y → ∃ y0, look ρ i = some y0 ∧ ∀ v, VR h α v y0 → VR h α'' v y) : ER C T env h α'' ρ'' := by
  refine ⟨R.fn, R.gl, R.bi, ?_, R.lnew, fun m => R.lal (sub _ m), fun x c hx => let ⟨a, b, d, v, e⟩ := R.cells x c hx; ⟨a, fun m => b (sub _ m), d, v, e⟩, R.apart⟩
  obtain ⟨m, hn, sl⟩ := R.slots
  refine ⟨m, hn, fun x i hx => ?_⟩
  have up : ∀ o, OS h α o (look ρ i) → OS h α'' o (look ρ'' i) := fun o q y e => by
    obtain ⟨y0, e0, hv⟩ := hw i y e
    obtain ⟨v, ev, rv⟩ := q y0 e0
    exact ⟨v, ev, hv v rv⟩
  rcases sl x i hx with ⟨a, b⟩ | ⟨a, c, v, e, hc, b⟩
  · exact .inl ⟨a, up _ b⟩
  · exact .inr ⟨a, c, v, e, hc, up _ b⟩
end
end Mine
set_option maxHeartbeats 1000000
set_option maxRecDepth 100000
set_option Elab.async false
set_option linter.unusedVariables false
namespace Mine
open PySem PySem.Spec PySem.Calls PyProof.Rows

noncomputable abbrev fuel : Nat := 100
noncomputable abbrev gSub : RV → RV → Mem → Option (RV × Mem) := gInt fun a b => some (.int (a - b))
noncomputable abbrev gMod : RV → RV → Mem → Option (RV × Mem) := gInt fun a b => if b = 0 then none else some (.int (a.fmod b))
noncomputable abbrev gDiv : RV → RV → Mem → Option (RV × Mem) := gInt fun a b => if b = 2 ∧ 0 ≤ a ∧ a < 1000 then some (.int (a.fdiv b)) else none
noncomputable abbrev gLe : RV → RV → Mem → Option (RV × Mem) := gInt fun a b => some (.bool (decide (a ≤ b)))
noncomputable abbrev trueB : BoF := fun _ μ => some (true, μ)
noncomputable abbrev falseB : BoF := fun _ μ => some (false, μ)
noncomputable def fillN (n : Nat) (xs : List RV) : Option (List RV) := if xs.length = n then some xs else none
noncomputable def fillB : List RV → Option (List RV)
  | [a, x] => some [a, x, .d (.int 0), .d .none, .d .none]
  | [a, x, lo, hi] => some [a, x, lo, hi, .d .none]
  | _ => none

section
variable {C : Cst} {k : Nat} {sc : Scope} {T : List (Str × Nat)}
/-- x, y = e1, e2, by way of a tuple -/
noncomputable def set2nS (i j : Nat) (f g : ExF) : StF := fun ρ μ => match f ρ μ with
  | none => none
  | some (x, μ₁) => match g ρ μ₁ with
    | none => none
    | some (y, μ₂) => some (.nx, upd (upd ρ i x) j y, μ₂)
theorem denS_set2n {x y : Str} {e1 e2 : Expr} {n1 n2 tp vp pos : Pos} {kk kv : Nat} {i j : Nat} {f g : ExF} (hf : DenE C k sc T e1 f) (hg : DenE C k sc T e2 g) (hx : (x, i) ∈ T) (hy : (y, j) ∈ T) (hn1 : (T.map (·.1)).Nodup) (hn2 : (T.map (·.2)).Nodup)
    (hnx : sc.names.lookup x ≠ some .free) (hny : sc.names.lookup y ≠ some .free) (he : ∀ env, starEach [e1, e2] env = [(false, eval e1 env), (false, eval e2 env)])
    (hs : ∀ env : Env, env.scope = sc → swapsWithSole [.Tuple [.Name x n1, .Name y n2] kk tp] (.Tuple [e1, e2] kv vp) pos.line env = pure false)
    (hw : ∀ env : Env, env.scope = sc → swappedStores [.Tuple [.Name x n1, .Name y n2] kk tp] (.Tuple [e1, e2] kv vp) env = pure none) :
    DenS C k sc T (.Assign [.Tuple [.Name x n1, .Name y n2] kk tp] (.Tuple [e1, e2] kv vp) pos) (set2nS i j f g) := by
  intro env A s α ρ μ fl ρ' μ' Q E hsc hr R M hh h
  unfold set2nS at hh
  cases e1' : f ρ μ with
  | none => rw [e1'] at hh; cases hh
  | some p =>
    obtain ⟨z, μ₁⟩ := p
    rw [e1'] at hh
    dsimp only at hh
    cases e2' : g ρ μ₁ with
    | none => rw [e2'] at hh; cases hh
    | some q =>
      obtain ⟨w, μ₂⟩ := q
      rw [e2'] at hh
      cases hh
      refine Assign_Tuple (Tuple_ ?_) (hs env hsc) (hw env hsc)
      rw [he]
      refine Calls.spliced_cons (hf env A s α ρ μ z μ₁ _ E hsc hr R M e1' fun v α₁ h₁ tk₁ t₁ M₁ r₁ => ?_)
      refine Calls.spliced_cons (hg env A _ α₁ ρ μ₁ w _ _ E hsc hr (R.stp0 M t₁) M₁ e2' fun u α₂ h₂ tk₂ t₂ M₂ r₂ => ?_)
      refine Calls.spliced_nil (wpAny_newTuple ?_ (Nat.le_trans (show 2 ≤ 1000 by decide) sizeLine_ge))
      have R₂ := (R.stp0 M t₁).stp0 M₁ t₂
      have hT : Heap.IsTuple (h₂.push { cls := .type "tuple", data := .seq [v, u].toArray }) h₂.objs.size #[v, u] := ⟨_, Heap.get?_push_size _ rfl, rfl, 0, rfl⟩
      show wpAny (model C.prog C.w) A (assign _ env (.ref h₂.objs.size)) _ E { s with heap := h₂.push { cls := .type "tuple", data := .seq [v, u].toArray }, toks := tk₂ }
      refine assign_pair (s := { s with heap := h₂.push { cls := .type "tuple", data := .seq [v, u].toArray }, toks := tk₂ }) hr.hd hT fun h₃ hE => ?_
      have kp : ∀ b o, h₂.get? b = some o → h₃.get? b = some o := fun b o e => hE b o (by
        have := Heap.lt_size e
        exact Nat.ne_of_lt (Nat.lt_of_lt_of_le this (by show h₂.objs.size ≤ (h₂.push _).objs.size; rw [Heap.size_push]; exact Nat.le_succ _))) (Heap.get?_push_of_some _ e)
      have M₃ := M₂.keeps kp
      have t₃ : Stp [] α₂ h₂ α₂ h₃ := Stp.keeps kp
      have R₃ := R₂.stp0 M₂ t₃
      have rv := (r₁.stp M₁ t₂).stp M₂ t₃
      have ru := r₂.stp M₂ t₃
      refine wpAny_assign_Name (store_slot (s := { s with heap := h₃, toks := tk₂ }) hn1 hn2 (by unfold Env.kindOf; rw [hsc]; exact hnx) R₃ M₃ hx rv fun h₄ tk₄ t₄ M₄ R₄ => ?_)
      have tk := t₄.tk M₃ R₃.noSeq
      refine wpAny_assign_Name (store_slot (s := { s with heap := h₄, toks := tk₄ }) hn1 hn2 (by unfold Env.kindOf; rw [hsc]; exact hny) R₄ M₄ hy (ru.up tk fun _ _ e => t₄.get e) fun h₅ tk₅ t₅ M₅ R₅ => ?_)
      have := Stp.own R ((t₁.trans t₂).trans t₃)
      exact h .next _ h₅ tk₅ ((this.trans t₄).trans t₅) M₅ R₅ trivial
end

/-- the script: a list of ints that stands from the start and is never written -/
noncomputable def Scr (C : Cst) (l : Addr) (ns : List Int) : Prop := ∃ vs n dd sl, C.base.get? l = some { cls := .type "list", dict := dd, data := .seq vs n, slots := sl } ∧ IntsAre vs.toList ns
noncomputable def intR (ns : List Int) : List RV := ns.map fun i => .d (.int i)
noncomputable def fSumO (l : Addr) (ns : List Int) (xs : List RV) (μ : Mem) : Option (RV × Mem) := match xs with
  | [.o (.ref a)] => if a = l then some (.d (.int ns.sum), μ) else none
  | _ => none
noncomputable def gAddO (l : Addr) (ns : List Int) (x y : RV) (μ : Mem) : Option (RV × Mem) := match x, y with
  | .o (.ref a), .r j => if a = l then match μ[j]? with
      | some (.lst ys) => if ns.length + ys.length ≤ 1000 then some (.r μ.length, μ ++ [.lst (intR ns ++ ys)]) else none
      | _ => none
    else none
  | _, _ => none
theorem intR_vrs {h : Heap} {α : List Addr} {vs : List Value} {ns : List Int} (r : IntsAre vs ns) : VRs h α vs (intR ns) := by
  induction r with
  | nil => exact .nil
  | cons n t _ ih => exact .cons (Reads.int n t) ih
section
variable {C : Cst} {k : Nat}
theorem ok_sumO {l : Addr} {ns : List Int} (S : Scr C l ns) : FnOK C k (.builtin "sum") (fSumO l ns) := by
  intro A s α μ vs xs x μ' Q E hr M r hg h
  unfold fSumO at hg
  split at hg
  · rename_i a
    split at hg
    · rename_i ea
      subst ea
      cases hg
      cases r with
      | cons r1 r2 =>
        cases r2
        obtain ⟨items, n, dd, sl, hl, ia⟩ := S
        replace r1 : _ = Value.ref a := r1
        subst r1
        have hall : AllInts items := by
          have := ia.allInts
          simpa using this
        obtain ⟨xs, rfl⟩ := hall.items
        refine sum_intListG hr.hd ⟨_, M.ext _ _ hl, rfl, n, rfl⟩ fun h' tk t' hk => ?_
        have e : preSum (numAt xs) xs.size = ns.sum := by
          rw [← ia.numsOf, nums_intItems, preSum_eq, List.take_of_length_le (by simp)]
        rw [e]
        exact h.keeps M hk (Reads.int ..)
    · cases hg
  · cases hg
theorem ok_addO {l : Addr} {ns : List Int} (S : Scr C l ns) : OpOK C k (binaryOp .Add) (gAddO l ns) := by
  intro A s α μ v u x y z μ' Q E hr M r q hg h
  unfold gAddO at hg
  split at hg
  · rename_i a j
    split at hg
    · rename_i ea
      subst ea
      split at hg
      · rename_i ys e2
        split at hg
        · rename_i hl
          cases hg
          obtain ⟨items, n, dd, sl, ha, ia⟩ := S
          replace r : v = Value.ref a := r
          subst r
          obtain ⟨b, rfl, _, ws, n2, hb, rb⟩ := VR.obj M q e2
          have ra : VRs s.heap α items.toList (intR ns) := intR_vrs ia
          have l1 := ra.len
          have l2 := rb.len
          rw [Array.length_toList] at l1 l2
          have l3 : (intR ns).length = ns.length := by unfold intR; rw [List.length_map]
          have ha' := M.ext _ _ ha
          refine concat_meets ⟨_, ha', rfl⟩ ⟨_, hb, rfl⟩ noFill_list_add seq_list_add PySem.F.slot_list_add PySem.F.entry_list_add (PySem.F.args_list_add_2 _ _) (list_addW a b items ws n n2 _ _ _ _ (by have := sizeLine_ge; omega)) ⟨ha', hb, ?_⟩
          have e : items ++ ws = (items.toList ++ ws.toList).toArray := by simp
          rw [e]
          exact h.list M (ra.append rb)
        · cases hg
      · cases hg
    · cases hg
  · cases hg
end

/-! a block whose new objects are forgotten at its end -/
noncomputable def clR (n : Nat) : RV → Bool
  | .r i => decide (i < n)
  | _ => true
noncomputable def clO (n : Nat) : AO → Bool
  | .lst xs => xs.all (clR n)
  | .dct kvs => kvs.all fun p => clR n p.2
noncomputable def clρ (n : Nat) : Rho → Bool
  | [] => true
  | none :: r => clρ n r
  | some x :: r => clR n x && clρ n r
theorem clρ_look {n : Nat} : ∀ {ρ : Rho}, clρ n ρ = true → ∀ i x, look ρ i = some x → clR n x = true
  | [], _, i, x, e => nomatch e
  | none :: r, h, 0, x, e => nomatch e
  | none :: r, h, i + 1, x, e => clρ_look (ρ := r) h i x e
  | some y :: r, h, 0, x, e => by cases e; exact (Bool.and_eq_true_iff.mp h).1
  | some y :: r, h, i + 1, x, e => clρ_look (ρ := r) (Bool.and_eq_true_iff.mp h).2 i x e
theorem VR.cl {h : Heap} {α β : List Addr} {v : Value} {x : RV} (r : VR h (α ++ β) v x) (e : clR α.length x = true) : VR h α v x := by
  cases x with
  | d x => exact r
  | o u => exact r
  | r i =>
    obtain ⟨a, ea, q⟩ := r
    have hi : i < α.length := of_decide_eq_true e
    rw [List.getElem?_append_left hi] at ea
    exact ⟨a, ea, q⟩
theorem VRs.cl {h : Heap} {α β : List Addr} {vs : List Value} {xs : List RV} (r : VRs h (α ++ β) vs xs) : xs.all (clR α.length) = true → VRs h α vs xs := by
  induction r with
  | nil => intro _; exact .nil
  | cons a _ ih =>
    intro e
    rw [List.all_cons, Bool.and_eq_true] at e
    exact .cons (a.cl e.1) (ih e.2)
theorem KVs.cl {h : Heap} {α β : List Addr} {vs : List (List Atom × Addr × Value)} {xs : List (List Atom × RV)} (r : KVs h (α ++ β) vs xs) : (xs.all fun p => clR α.length p.2) = true → KVs h α vs xs := by
  induction r with
  | nil => intro _; exact .nil
  | cons a _ ih =>
    intro e
    rw [List.all_cons, Bool.and_eq_true] at e
    exact .cons (a.cl e.1) (ih e.2)
theorem AR.cl {C : Cst} {h : Heap} {α β : List Addr} {a : Addr} {o : AO} (r : AR C h (α ++ β) a o) (e : clO α.length o = true) : AR C h α a o := by
  cases o with
  | lst xs => obtain ⟨vs, n, g, q⟩ := r; exact ⟨vs, n, g, q.cl e⟩
  | dct kvs => obtain ⟨xs, d, q⟩ := r; exact ⟨xs, d, q.cl e⟩
noncomputable def scopeS (f : StF) : StF := fun ρ μ => match f ρ μ with
  | some (.nx, ρ', μ') => match clρ μ.length ρ' && (μ'.take μ.length).all (clO μ.length) with
    | true => some (.nx, ρ', μ'.take μ.length)
    | false => none
  | _ => none
section
variable {C : Cst} {k : Nat} {sc : Scope} {T : List (Str × Nat)}
theorem denL_scope {es : List Stmt} {f : StF} (hf : DenL C k sc T es f) : DenL C k sc T es (scopeS f) := by
  intro env A s α ρ μ y ρ' μ' Q E hsc hr R M hh h
  unfold scopeS at hh
  split at hh
  · rename_i ρ₁ μ₁ e1
    split at hh
    · rename_i hc
      cases hh
      obtain ⟨hc1, hc2⟩ := Bool.and_eq_true_iff.mp hc
      refine hf env A s α ρ μ _ _ _ Q E hsc hr R M e1 fun fl α₁ h₁ tk₁ t₁ M₁ R₁ F₁ => ?_
      obtain ⟨β, rfl⟩ := t₁.pre
      rw [← M.len] at hc1 hc2
      refine h fl α h₁ tk₁ ⟨⟨[], by simp⟩, fun _ m => .inl m, t₁.kp⟩ ?_ ?_ ?_
      · rw [← M.len]
        refine ⟨M₁.ext, ?_, fun i a o e q => ?_, (List.nodup_append.mp M₁.nd).1, fun a m => M₁.new a (List.mem_append_left _ m), fun a m => M₁.nm a (List.mem_append_left _ m)⟩
        · rw [List.length_take, ← M₁.len, List.length_append]; omega
        · have hi : i < α.length := (List.getElem?_eq_some_iff.mp e).1
          have q' : μ₁[i]? = some o := by rw [List.getElem?_take_of_lt hi] at q; exact q
          refine (M₁.obj i a o (by rw [List.getElem?_append_left hi]; exact e) q').cl ?_
          exact List.all_eq_true.mp hc2 o (List.mem_of_getElem? q)
      · exact R₁.focus (fun a m => List.mem_append_left _ m) fun i y e => ⟨y, e, fun v r => r.cl (clρ_look hc1 i y e)⟩
      · cases fl <;> exact F₁
    · cases hh
  · cases hh
end
noncomputable abbrev T_bisect : List (Str × Nat) := [("a", 0), ("x", 1), ("lo", 2), ("hi", 3), ("key", 4), ("mid", 5)]
noncomputable def g_bisect : StF := (seqS (ifS (toB (binE gLt (nameE 2) (litE (.int 0)))) noneL nilS) (seqS (ifS (toB (binE gIs (nameE 3) (litE .none))) (seqS (setS 3 (callE fLen (consA (nameE 0) nilA))) nilS) nilS) (seqS (ifS (toB (binE gIs (nameE 4) (litE .none))) (seqS (whileGo (toB (binE gLt (nameE 2) (nameE 3))) (seqS (setS 5 (binE gDiv (binE gAdd (nameE 2) (nameE 3)) (litE (.int 2)))) (seqS (ifS (toB (binE gLt (binE gItem (nameE 0) (nameE 5)) (nameE 1))) (seqS (setS 2 (binE gAdd (nameE 5) (litE (.int 1)))) nilS) (seqS (setS 3 (nameE 5)) nilS)) nilS)) fuel) nilS) noneL) (seqS (retS (nameE 2)) nilS))))
noncomputable def F_bisect : List RV → Mem → Option (RV × Mem) := defF fillB g_bisect
noncomputable def Lbisect : List RV → Mem → Option (RV × Mem) := locF F_bisect
noncomputable abbrev T_insort : List (Str × Nat) := [("a", 0), ("x", 1), ("lo", 2), ("hi", 3), ("key", 4)]
noncomputable def g_insort : StF := (seqS (ifS (toB (binE gIs (nameE 4) (litE .none))) (seqS (setS 2 (callE Lbisect (consA (nameE 0) (consA (nameE 1) (consA (nameE 2) (consA (nameE 3) nilA)))))) nilS) noneL) (seqS (exprS (methE fInsert (nameE 0) (consA (nameE 2) (consA (nameE 1) nilA)))) nilS))
noncomputable def F_insort : List RV → Mem → Option (RV × Mem) := defF fillB g_insort
noncomputable def Linsort : List RV → Mem → Option (RV × Mem) := locF F_insort
noncomputable abbrev T_addc : List (Str × Nat) := [("target", 0), ("source", 1), ("new_callers", 2), ("func", 3), ("caller", 4)]
noncomputable def g_addc : StF := (seqS (setS 2 dict0E) (seqS (itemsS fuel 3 4 (nameE 0) (seqS (setItemS (nameE 4) (nameE 2) (nameE 3)) nilS)) (seqS (itemsS fuel 3 4 (nameE 1) (seqS (ifS (toB (binE gInD (nameE 3) (nameE 2))) (seqS (ifS (toB (isiE (nameE 4))) noneL (seqS (augItemS (nameE 2) (nameE 3) (nameE 4)) nilS)) nilS) (seqS (setItemS (nameE 4) (nameE 2) (nameE 3)) nilS)) nilS)) (seqS (retS (nameE 2)) nilS))))
noncomputable def F_addc : List RV → Mem → Option (RV × Mem) := defF (fillN 2) g_addc
noncomputable def Laddc : List RV → Mem → Option (RV × Mem) := F_addc
noncomputable abbrev T_count : List (Str × Nat) := [("callers", 0), ("nc", 1), ("calls", 2)]
noncomputable def g_count : StF := (seqS (setS 1 (litE (.int 0))) (seqS (forS fuel 2 (valsI (nameE 0)) (seqS (incS 1 (nameE 2)) nilS)) (seqS (retS (nameE 1)) nilS)))
noncomputable def F_count : List RV → Mem → Option (RV × Mem) := defF (fillN 1) g_count
noncomputable def Lcount : List RV → Mem → Option (RV × Mem) := F_count
noncomputable abbrev T_told : List (Str × Nat) := [("row", 0), ("kinds", 1), ("one", 2)]
noncomputable abbrev T_told_1 : List (Str × Nat) := [("one", 3), ("kinds", 1)]
noncomputable def g_told : StF := (seqS (setS 1 (listE nilA)) (seqS (forS fuel 2 (seqI (nameE 0)) (seqS (setS 1 (binE gAdd (nameE 1) (iteE (toB (binE (gIn true) (nameE 2) (nameE 1))) (listE (consA (nameE 2) nilA)) (listE nilA)))) nilS)) (seqS (retS (callE fTuple (consA (compE fuel 3 [3] (seqI (nameE 0)) noT (lastC (methE fIndex (nameE 1) (consA (nameE 3) nilA)))) nilA))) nilS)))
noncomputable def F_told : List RV → Mem → Option (RV × Mem) := defF (fillN 1) g_told
noncomputable def Ltold : List RV → Mem → Option (RV × Mem) := locF F_told
noncomputable abbrev T_crosses : List (Str × Nat) := [("row", 0), ("many", 1)]
noncomputable abbrev T_crosses_1 : List (Str × Nat) := [("a", 2), ("b", 3), ("c", 4), ("d", 5), ("row", 0)]
noncomputable def g_crosses : StF := (seqS (setS 1 (callE fLen (consA (nameE 0) nilA))) (seqS (retS (binE (gEq true) (compE fuel 2 [2, 3, 4, 5] (rangeI (consA (nameE 1) nilA)) noT (loopF fuel 3 (rangeI (consA (nameE 2) nilA)) noT (loopF fuel 4 (rangeI (consA (nameE 3) nilA)) noT (loopF fuel 5 (rangeI (consA (nameE 4) nilA)) (andB (toB (binE (gEq false) (binE gItem (nameE 0) (nameE 2)) (binE gItem (nameE 0) (nameE 4)))) (andB (toB (binE (gEq false) (binE gItem (nameE 0) (nameE 3)) (binE gItem (nameE 0) (nameE 5)))) (andB (toB (binE (gEq true) (binE gItem (nameE 0) (nameE 2)) (binE gItem (nameE 0) (nameE 3)))) trueB))) (lastC (litE (.int 1))))))) (listE nilA))) nilS))
noncomputable def F_crosses : List RV → Mem → Option (RV × Mem) := defF (fillN 1) g_crosses
noncomputable def Lcrosses : List RV → Mem → Option (RV × Mem) := locF F_crosses
noncomputable abbrev T_ways : List (Str × Nat) := [("many", 0), ("found", 1), ("thing", 2), ("order", 3), ("way", 4)]
noncomputable abbrev T_ways_1 : List (Str × Nat) := [("way", 5), ("lot", 6)]
noncomputable def g_ways : StF := (seqS (setS 1 (listE (consA (tupleE nilA) nilA))) (seqS (forS fuel 2 (rangeI (consA (nameE 0) nilA)) (seqS (setS 1 (compE fuel 5 [5, 6] (seqI (nameE 1)) noT (loopF fuel 6 (rangeI (consA (binE gAdd (litE (.int 2)) (callE fMax (consA (binE gAdd (tupleE (consA (binE gSub (litE (.int 0)) (litE (.int 1))) nilA)) (nameE 5)) nilA))) nilA)) noT (lastC (binE gAdd (nameE 5) (tupleE (consA (nameE 6) nilA))))))) nilS)) (seqS (setS 3 (listE nilA)) (seqS (forS fuel 4 (seqI (sliceE (nameE 1) ptNone ptNone (ptInt (-1)))) (seqS (ifS (notB (toB (callE Lcrosses (consA (nameE 4) nilA)))) (seqS (exprS (callE Linsort (consA (nameE 3) (consA (nameE 4) nilA)))) nilS) nilS) nilS)) (seqS (retS (nameE 3)) nilS)))))
noncomputable def F_ways : List RV → Mem → Option (RV × Mem) := defF (fillN 1) g_ways
noncomputable def Lways : List RV → Mem → Option (RV × Mem) := locF F_ways
noncomputable abbrev T_gaps : List (Str × Nat) := [("row", 0), ("gap", 1), ("many", 2), ("found", 3), ("place", 4), ("other", 5), ("inside", 6), ("outside", 7)]
noncomputable abbrev T_gaps_1 : List (Str × Nat) := [("k", 8), ("row", 0)]
noncomputable abbrev T_gaps_2 : List (Str × Nat) := [("k", 9), ("row", 0), ("other", 5), ("gap", 1)]
noncomputable abbrev T_gaps_3 : List (Str × Nat) := [("one", 10), ("outside", 7)]
noncomputable def g_gaps : StF := (seqS (set2S 2 3 (callE fLen (consA (nameE 0) nilA)) (listE nilA)) (seqS (forS fuel 1 (rangeI (consA (nameE 2) nilA)) (seqS (setS 4 (nameE 1)) (seqS (forS fuel 5 (rangeI (consA (nameE 1) nilA)) (seqS (setS 6 (compE fuel 8 [8] (rangeI (consA (binE gAdd (nameE 5) (litE (.int 1))) (consA (binE gAdd (nameE 1) (litE (.int 1))) nilA))) noT (lastC (binE gItem (nameE 0) (nameE 8))))) (seqS (setS 7 (compE fuel 9 [9] (rangeI (consA (nameE 2) nilA)) (notB (chainB gLt gLe (nameE 5) (nameE 9) (nameE 1))) (lastC (binE gItem (nameE 0) (nameE 9))))) (seqS (ifS (toB (binE (gEq false) (compE fuel 10 [10] (seqI (nameE 6)) (toB (binE (gIn false) (nameE 10) (nameE 7))) (lastC (nameE 10))) (listE nilA))) (seqS (setS 4 (callE fMin (consA (nameE 4) (consA (nameE 5) nilA)))) nilS) nilS) nilS)))) (seqS (exprS (methE fAppend (nameE 3) (consA (nameE 4) nilA))) nilS)))) (seqS (retS (callE Ltold (consA (nameE 3) nilA))) nilS)))
noncomputable def F_gaps : List RV → Mem → Option (RV × Mem) := defF (fillN 1) g_gaps
noncomputable def Lgaps : List RV → Mem → Option (RV × Mem) := locF F_gaps
noncomputable abbrev T_law : List (Str × Nat) := [("script", 0), ("many", 1), ("way", 2), ("rows", 3), ("drawn", 4), ("place", 5), ("order", 6), ("calls", 7), ("gaps", 8), ("other", 9), ("both", 10)]
noncomputable abbrev T_law_1 : List (Str × Nat) := [("lots", 11), ("calls", 7)]
noncomputable abbrev T_law_2 : List (Str × Nat) := [("k", 12), ("way", 2), ("other", 9)]
noncomputable abbrev T_law_3 : List (Str × Nat) := [("number", 13), ("many", 1)]
noncomputable def g_law_0 (l : Addr) (ns : List Int) : StF := (setS 1 (binE gAdd (litE (.int 1)) (binE gMod (callE (fSumO l ns) (consA (nameE 0) nilA)) (litE (.int 4)))))
noncomputable def g_law_1 : StF := (set2nS 6 7 (callE Lways (consA (nameE 1) nilA)) dict0E)
noncomputable def g_law_2 : StF := (forS fuel 2 (seqI (nameE 6)) (seqS (setS 7 (callE Laddc (consA (nameE 7) (consA (dict1E (tupleE (consA (litE (.str "lots")) (consA (binE gAdd (litE (.int 1)) (callE fMax (consA (nameE 2) nilA))) (consA (litE (.str "way")) nilA)))) (litE (.int 1))) nilA)))) nilS))
noncomputable def g_law_3 : StF := (ifS (orB (toB (binE (gEq true) (nameE 6) (callE fSorted (consA (nameE 6) nilA)))) (orB (toB (binE (gEq true) (callE fLen (consA (nameE 6) nilA)) (binE gItem (listE (consA (litE (.int 1)) (consA (litE (.int 2)) (consA (litE (.int 5)) (consA (litE (.int 14)) nilA))))) (binE gSub (nameE 1) (litE (.int 1)))))) (orB (toB (binE (gEq true) (callE Lcount (consA (nameE 7) nilA)) (callE fLen (consA (nameE 6) nilA)))) falseB))) (seqS (retS (litE (.bool false))) nilS) nilS)
noncomputable def g_law_4 : StF := (setS 3 (listE (consA (listE (consA (litE (.int 1)) nilA)) (consA (listE (consA (litE (.int 1)) (consA (litE (.int 1)) nilA))) (consA (listE (consA (litE (.int 1)) (consA (litE (.int 3)) (consA (litE (.int 1)) nilA)))) (consA (listE (consA (litE (.int 1)) (consA (litE (.int 6)) (consA (litE (.int 6)) (consA (litE (.int 1)) nilA))))) nilA))))))
noncomputable def g_law_5 : StF := (ifS (toB (binE (gEq true) (compE fuel 11 [11] (rangeI (consA (litE (.int 1)) (consA (binE gAdd (nameE 1) (litE (.int 1))) nilA))) noT (lastC (methE fGet (nameE 7) (consA (tupleE (consA (litE (.str "lots")) (consA (nameE 11) (consA (litE (.str "way")) nilA)))) (consA (litE (.int 0)) nilA))))) (binE gItem (nameE 3) (binE gSub (nameE 1) (litE (.int 1)))))) (seqS (retS (litE (.bool false))) nilS) nilS)
noncomputable def g_law_6 : StF := (forS fuel 2 (seqI (nameE 6)) (scopeS (seqS (setS 8 (callE Lgaps (consA (nameE 2) nilA))) (seqS (setS 5 (callE Lbisect (consA (nameE 6) (consA (nameE 8) nilA)))) (seqS (ifS (orB (toB (binE (gEq false) (nameE 5) (callE fLen (consA (nameE 6) nilA)))) (orB (toB (binE (gEq true) (binE gItem (nameE 6) (nameE 5)) (nameE 8))) (orB (toB (binE (gEq true) (binE gAdd (binE gAdd (litE (.int 2)) (callE fMax (consA (nameE 2) nilA))) (callE fMax (consA (nameE 8) nilA))) (binE gAdd (nameE 1) (litE (.int 1))))) falseB))) (seqS (retS (litE (.bool false))) nilS) nilS) (seqS (ifS (toB (binE (gEq true) (callE Lgaps (consA (nameE 8) nilA)) (callE Ltold (consA (binE gAdd (sliceE (nameE 2) (ptInt 1) ptNone ptNone) (sliceE (nameE 2) ptNone (ptInt 1) ptNone)) nilA)))) (seqS (retS (litE (.bool false))) nilS) nilS) (seqS (forS fuel 9 (seqI (sliceE (nameE 6) ptNone ptNone (ptInt 2))) (scopeS (seqS (setS 10 (callE Ltold (consA (compE fuel 12 [12] (rangeI (consA (nameE 1) nilA)) noT (lastC (tupleE (consA (binE gItem (nameE 2) (nameE 12)) (consA (binE gItem (nameE 9) (nameE 12)) nilA))))) nilA))) (seqS (ifS (orB (toB (callE Lcrosses (consA (nameE 10) nilA))) (orB (toB (binE (gEq true) (binE gItem (nameE 6) (callE Lbisect (consA (nameE 6) (consA (nameE 10) nilA)))) (nameE 10))) falseB)) (seqS (retS (litE (.bool false))) nilS) nilS) nilS)))) nilS)))))))
noncomputable def g_law_7 (l : Addr) (ns : List Int) : StF := (setS 4 (callE Ltold (consA (compE fuel 13 [13] (seqI (sliceE (binE (gAddO l ns) (nameE 0) (binE gMul4 (listE (consA (litE (.int 0)) nilA)) (litE (.int 4)))) ptNone (ptName 1) ptNone)) noT (lastC (binE gMod (nameE 13) (nameE 1)))) nilA)))
noncomputable def g_law_8 : StF := (setS 5 (callE Lbisect (consA (nameE 6) (consA (nameE 4) nilA))))
noncomputable def g_law_9 : StF := (retS (binE (gEq false) (andE (binE gLt (nameE 5) (callE fLen (consA (nameE 6) nilA))) (binE (gEq false) (binE gItem (nameE 6) (nameE 5)) (nameE 4))) (notE (callE Lcrosses (consA (nameE 4) nilA)))))
end Mine
set_option maxHeartbeats 4000000
set_option maxRecDepth 100000
set_option Elab.async false
set_option linter.unusedVariables false
namespace Mine
open PySem PySem.Spec PySem.Calls PyProof.Rows

/-- the defs of the text: body and scope -/
noncomputable def fdef (i : Nat) : List Stmt × Scope := match PySem.Challenge.pw_hz0001_01.main.body[i]? with
  | some (.FunctionDef _ _ b _ _ _ sc _ _ _) => (b, sc)
  | _ => ([], ⟨.function, [], false, false, []⟩)
noncomputable abbrev body_insort := (fdef 1).1
noncomputable abbrev body_bisect := (fdef 2).1
noncomputable abbrev body_addc := (fdef 4).1
noncomputable abbrev body_count := (fdef 5).1
noncomputable abbrev body_told := (fdef 7).1
noncomputable abbrev body_crosses := (fdef 8).1
noncomputable abbrev body_ways := (fdef 9).1
noncomputable abbrev body_gaps := (fdef 10).1
noncomputable abbrev body_law := (fdef 11).1
noncomputable abbrev sc_insort := (fdef 1).2
noncomputable abbrev sc_bisect := (fdef 2).2
noncomputable abbrev sc_addc := (fdef 4).2
noncomputable abbrev sc_count := (fdef 5).2
noncomputable abbrev sc_told := (fdef 7).2
noncomputable abbrev sc_crosses := (fdef 8).2
noncomputable abbrev sc_ways := (fdef 9).2
noncomputable abbrev sc_gaps := (fdef 10).2
noncomputable abbrev sc_law := (fdef 11).2
noncomputable def stmt_law (i : Nat) : Stmt := match body_law[i]? with
  | some s => s
  | none => .Pass ⟨0, 0, 0, 0⟩

/-- a def: its name stands among the globals, its object in the heap -/
structure DefF (C : Cst) (x : Str) (sc : Scope) (ps : List Str) (body : List Stmt) (fill : List RV → Option (List RV)) where
  a : Addr
  o : Obj
  fd : FuncData
  g : Glb C x (.ref a)
  ho : C.base.get? a = some o
  hd : o.data = .func fd
  at' : DefAt C a sc ps body fill
structure Facts (C : Cst) where
  hsm : True
  b_len : Glb C "len" (.builtin "len")
  b_max : Glb C "max" (.builtin "max")
  b_min : Glb C "min" (.builtin "min")
  b_sum : Glb C "sum" (.builtin "sum")
  b_sorted : Glb C "sorted" (.builtin "sorted")
  b_isinstance : Glb C "isinstance" (.builtin "isinstance")
  b_tuple : Glb C "tuple" (.type "tuple")
  b_range : Glb C "range" (.type "range")
  f_insort : DefF C "insort_left" sc_insort ["a", "x", "lo", "hi", "key"] body_insort fillB
  f_bisect : DefF C "bisect_left" sc_bisect ["a", "x", "lo", "hi", "key"] body_bisect fillB
  f_addc : DefF C "add_callers" sc_addc ["target", "source"] body_addc (fillN 2)
  f_count : DefF C "count_calls" sc_count ["callers"] body_count (fillN 1)
  f_told : DefF C "_law_told" sc_told ["row"] body_told (fillN 1)
  f_crosses : DefF C "_law_crosses" sc_crosses ["row"] body_crosses (fillN 1)
  f_ways : DefF C "_law_ways" sc_ways ["many"] body_ways (fillN 1)
  f_gaps : DefF C "_law_gaps" sc_gaps ["row"] body_gaps (fillN 1)

theorem hm_index {C : Cst} : ∀ (s : Shared) (α : List Addr) (μ : Mem) (v : Value) (x : RV) (xs : List RV) (p : RV × Mem), MR C s.heap α μ → VR s.heap α v x → fIndex (x :: xs) μ = some p → ∃ Ty, PlainAttrs Ty ∧ Slot Ty "index" "list.index" ∧ typeOf (.builtin "list.index") = pure (.type "method_descriptor") ∧ s.TypeIs v Ty ∧ (∀ a, v = .ref a → ∃ ob, s.heap.get? a = some ob ∧ ob.dict = none) := by
  intro s α μ v x xs p M r e
  obtain ⟨i, ys, rfl, em⟩ := fIndex_list e
  obtain ⟨a, b⟩ := list_self M r em
  exact ⟨"list", F.plainAttrs_list, F.slot_list_index, rfl, a, b⟩
theorem hm_append {C : Cst} : ∀ (s : Shared) (α : List Addr) (μ : Mem) (v : Value) (x : RV) (xs : List RV) (p : RV × Mem), MR C s.heap α μ → VR s.heap α v x → fAppend (x :: xs) μ = some p → ∃ Ty, PlainAttrs Ty ∧ Slot Ty "append" "list.append" ∧ typeOf (.builtin "list.append") = pure (.type "method_descriptor") ∧ s.TypeIs v Ty ∧ (∀ a, v = .ref a → ∃ ob, s.heap.get? a = some ob ∧ ob.dict = none) := by
  intro s α μ v x xs p M r e
  obtain ⟨i, ys, rfl, em⟩ := fAppend_list e
  obtain ⟨a, b⟩ := list_self M r em
  exact ⟨"list", F.plainAttrs_list, F.slot_list_append, rfl, a, b⟩
theorem hm_insert {C : Cst} : ∀ (s : Shared) (α : List Addr) (μ : Mem) (v : Value) (x : RV) (xs : List RV) (p : RV × Mem), MR C s.heap α μ → VR s.heap α v x → fInsert (x :: xs) μ = some p → ∃ Ty, PlainAttrs Ty ∧ Slot Ty "insert" "list.insert" ∧ typeOf (.builtin "list.insert") = pure (.type "method_descriptor") ∧ s.TypeIs v Ty ∧ (∀ a, v = .ref a → ∃ ob, s.heap.get? a = some ob ∧ ob.dict = none) := by
  intro s α μ v x xs p M r e
  obtain ⟨i, ys, rfl, em⟩ := fInsert_list e
  obtain ⟨a, b⟩ := list_self M r em
  exact ⟨"list", F.plainAttrs_list, F.slot_list_insert, rfl, a, b⟩
theorem hm_get {C : Cst} : ∀ (s : Shared) (α : List Addr) (μ : Mem) (v : Value) (x : RV) (xs : List RV) (p : RV × Mem), MR C s.heap α μ → VR s.heap α v x → fGet (x :: xs) μ = some p → ∃ Ty, PlainAttrs Ty ∧ Slot Ty "get" "dict.get" ∧ typeOf (.builtin "dict.get") = pure (.type "method_descriptor") ∧ s.TypeIs v Ty ∧ (∀ a, v = .ref a → ∃ ob, s.heap.get? a = some ob ∧ ob.dict = none) := by
  intro s α μ v x xs p M r e
  obtain ⟨i, ys, rfl, em⟩ := fGet_dict e
  obtain ⟨a, b⟩ := dict_self M r em
  exact ⟨"dict", F.plainAttrs_dict, F.slot_dict_get, rfl, a, b⟩

section
variable {C : Cst} {k : Nat}
theorem nd1_bisect : (T_bisect.map (·.1)).Nodup := by decide
theorem nd2_bisect : (T_bisect.map (·.2)).Nodup := by decide
theorem den_bisect (X : Facts C) : DenL C k sc_bisect T_bisect body_bisect g_bisect :=
  (denL_cons (denS_if (denB_cmp ok_lt (den_name (.tail _ (.tail _ (.head _))) (by decide)) den_int (by rfl)) denL_none denL_nil) (denL_cons (denS_if (denB_cmp ok_is (den_name (.tail _ (.tail _ (.tail _ (.head _)))) (by decide)) den_none (by rfl)) (denL_cons (denS_set (den_callB X.b_len (by decide) (by decide) ok_len (denAr_cons (den_name (.head _) (by decide)) denAr_nil (fun _ => rfl))) (.tail _ (.tail _ (.tail _ (.head _)))) nd1_bisect nd2_bisect (by decide) (fun _ _ => rfl)) denL_nil) denL_nil) (denL_cons (denS_if (denB_cmp ok_is (den_name (.tail _ (.tail _ (.tail _ (.tail _ (.head _))))) (by decide)) den_none (by rfl)) (denL_cons (denS_while fuel (denB_cmp ok_lt (den_name (.tail _ (.tail _ (.head _))) (by decide)) (den_name (.tail _ (.tail _ (.tail _ (.head _)))) (by decide)) (by rfl)) (denL_cons (denS_set (den_bin ok_div2 (den_bin ok_add (den_name (.tail _ (.tail _ (.head _))) (by decide)) (den_name (.tail _ (.tail _ (.tail _ (.head _)))) (by decide))) den_int) (.tail _ (.tail _ (.tail _ (.tail _ (.tail _ (.head _)))))) nd1_bisect nd2_bisect (by decide) (fun _ _ => rfl)) (denL_cons (denS_if (denB_cmp ok_lt (den_item (den_name (.head _) (by decide)) (den_name (.tail _ (.tail _ (.tail _ (.tail _ (.tail _ (.head _)))))) (by decide)) (fun _ _ => rfl)) (den_name (.tail _ (.head _)) (by decide)) (by rfl)) (denL_cons (denS_set (den_bin ok_add (den_name (.tail _ (.tail _ (.tail _ (.tail _ (.tail _ (.head _)))))) (by decide)) den_int) (.tail _ (.tail _ (.head _))) nd1_bisect nd2_bisect (by decide) (fun _ _ => rfl)) denL_nil) (denL_cons (denS_set (den_name (.tail _ (.tail _ (.tail _ (.tail _ (.tail _ (.head _)))))) (by decide)) (.tail _ (.tail _ (.tail _ (.head _)))) nd1_bisect nd2_bisect (by decide) (fun _ _ => rfl)) denL_nil)) denL_nil))) denL_nil) denL_none) (denL_cons (denS_ret (den_name (.tail _ (.tail _ (.head _))) (by decide))) denL_nil))))
theorem nd1_insort : (T_insort.map (·.1)).Nodup := by decide
theorem nd2_insort : (T_insort.map (·.2)).Nodup := by decide
theorem den_insort (X : Facts C) (ok_bisect : FnOK C k (.ref X.f_bisect.a) F_bisect) : DenL C k sc_insort T_insort body_insort g_insort :=
  (denL_cons (denS_if (denB_cmp ok_is (den_name (.tail _ (.tail _ (.tail _ (.tail _ (.head _))))) (by decide)) den_none (by rfl)) (denL_cons (denS_set (den_callF X.f_bisect.g X.f_bisect.ho X.f_bisect.hd (by decide) (by decide) (loc_ok ok_bisect) (denAr_cons (den_name (.head _) (by decide)) (denAr_cons (den_name (.tail _ (.head _)) (by decide)) (denAr_cons (den_name (.tail _ (.tail _ (.head _))) (by decide)) (denAr_cons (den_name (.tail _ (.tail _ (.tail _ (.head _)))) (by decide)) denAr_nil (fun _ => rfl)) (fun _ => rfl)) (fun _ => rfl)) (fun _ => rfl))) (.tail _ (.tail _ (.head _))) nd1_insort nd2_insort (by decide) (fun _ _ => rfl)) denL_nil) denL_none) (denL_cons (denS_expr (den_meth ok_insert (den_name (.head _) (by decide)) (denAr_cons (den_name (.tail _ (.tail _ (.head _))) (by decide)) (denAr_cons (den_name (.tail _ (.head _)) (by decide)) denAr_nil (fun _ => rfl)) (fun _ => rfl)) (fun _ => rfl) (by rfl) (by decide) hm_insert (pureA_cons pureE_name (pureA_cons pureE_name pureA_nil))) (fun env h => by cases env; dsimp only at h; subst h; rfl) (fun _ => rfl)) denL_nil))
theorem nd1_addc : (T_addc.map (·.1)).Nodup := by decide
theorem nd2_addc : (T_addc.map (·.2)).Nodup := by decide
theorem den_addc (X : Facts C) : DenL C k sc_addc T_addc body_addc g_addc :=
  (denL_cons (denS_set den_dict0 (.tail _ (.tail _ (.head _))) nd1_addc nd2_addc (by decide) (fun _ _ => rfl)) (denL_cons (denS_items X.hsm (den_name (.head _) (by decide)) (fun _ => rfl) (by rfl) (denL_cons (denS_setItem (den_name (.tail _ (.tail _ (.tail _ (.tail _ (.head _))))) (by decide)) (den_name (.tail _ (.tail _ (.head _))) (by decide)) (den_name (.tail _ (.tail _ (.tail _ (.head _)))) (by decide)) (fun _ => rfl)) denL_nil) (.tail _ (.tail _ (.tail _ (.head _)))) (.tail _ (.tail _ (.tail _ (.tail _ (.head _))))) nd1_addc nd2_addc (by decide) (by decide) (fun _ _ => rfl)) (denL_cons (denS_items X.hsm (den_name (.tail _ (.head _)) (by decide)) (fun _ => rfl) (by rfl) (denL_cons (denS_if (denB_cmp (ok_inD X.hsm) (den_name (.tail _ (.tail _ (.tail _ (.head _)))) (by decide)) (den_name (.tail _ (.tail _ (.head _))) (by decide)) (by rfl)) (denL_cons (denS_if (denB_val (den_isi X.b_isinstance (by decide) (by decide) X.b_tuple (by decide) (by decide) (den_name (.tail _ (.tail _ (.tail _ (.tail _ (.head _))))) (by decide)) (fun _ => rfl)) (fun _ => rfl)) denL_none (denL_cons (denS_augItem (den_name (.tail _ (.tail _ (.tail _ (.tail _ (.head _))))) (by decide)) (den_name (.tail _ (.tail _ (.head _))) (by decide)) (den_name (.tail _ (.tail _ (.tail _ (.head _)))) (by decide)) (fun _ _ _ => rfl)) denL_nil)) denL_nil) (denL_cons (denS_setItem (den_name (.tail _ (.tail _ (.tail _ (.tail _ (.head _))))) (by decide)) (den_name (.tail _ (.tail _ (.head _))) (by decide)) (den_name (.tail _ (.tail _ (.tail _ (.head _)))) (by decide)) (fun _ => rfl)) denL_nil)) denL_nil) (.tail _ (.tail _ (.tail _ (.head _)))) (.tail _ (.tail _ (.tail _ (.tail _ (.head _))))) nd1_addc nd2_addc (by decide) (by decide) (fun _ _ => rfl)) (denL_cons (denS_ret (den_name (.tail _ (.tail _ (.head _))) (by decide))) denL_nil))))
theorem nd1_count : (T_count.map (·.1)).Nodup := by decide
theorem nd2_count : (T_count.map (·.2)).Nodup := by decide
theorem den_count (X : Facts C) : DenL C k sc_count T_count body_count g_count :=
  (denL_cons (denS_set den_int (.tail _ (.head _)) nd1_count nd2_count (by decide) (fun _ _ => rfl)) (denL_cons (denS_for (denI_vals X.hsm (den_name (.head _) (by decide)) (fun _ => rfl) (by rfl)) (denL_cons (denS_inc (den_name (.tail _ (.tail _ (.head _))) (by decide)) (.tail _ (.head _)) nd1_count nd2_count (by decide)) denL_nil) (.tail _ (.tail _ (.head _))) nd1_count nd2_count (by decide) (fun _ _ => rfl)) (denL_cons (denS_ret (den_name (.tail _ (.head _)) (by decide))) denL_nil)))
theorem nd1_told : (T_told.map (·.1)).Nodup := by decide
theorem nd2_told : (T_told.map (·.2)).Nodup := by decide
theorem nd1_told_1 : (T_told_1.map (·.1)).Nodup := by decide
theorem nd2_told_1 : (T_told_1.map (·.2)).Nodup := by decide
theorem den_told (X : Facts C) : DenL C k sc_told T_told body_told g_told :=
  (denL_cons (denS_set (den_list denAr_nil) (.tail _ (.head _)) nd1_told nd2_told (by decide) (fun _ _ => rfl)) (denL_cons (denS_for (denI_seq (den_name (.head _) (by decide))) (denL_cons (denS_set (den_bin ok_add (den_name (.tail _ (.head _)) (by decide)) (den_ite (denB_cmp ok_notIn (den_name (.tail _ (.tail _ (.head _))) (by decide)) (den_name (.tail _ (.head _)) (by decide)) (by rfl)) (den_list (denAr_cons (den_name (.tail _ (.tail _ (.head _))) (by decide)) denAr_nil (fun _ => rfl))) (den_list denAr_nil))) (.tail _ (.head _)) nd1_told nd2_told (by decide) (fun _ _ => rfl)) denL_nil) (.tail _ (.tail _ (.head _))) nd1_told nd2_told (by decide) (fun _ _ => rfl)) (denL_cons (denS_ret (den_callT X.b_tuple (by decide) (by decide) ok_tuple (denAr_cons (den_comp (T' := T_told_1) (locs := [3]) { hi := (denI_seq (den_name (.head _) (by decide))), hc := ⟨_, (turn_last rfl rfl), (denC_last (den_meth ok_index (den_name (.tail _ (.head _)) (by decide)) (denAr_cons (den_name (.head _) (by decide)) denAr_nil (fun _ => rfl)) (fun _ => rfl) (by rfl) (by decide) hm_index (pureA_cons pureE_name pureA_nil)))⟩, ht := denT_nil, hx := (.head _), hn1 := nd1_told_1, hn2 := nd2_told_1, hl := (by decide), hil := (by decide), hT := (by decide), hfree := (by decide), hcell := (by decide), hkind := (by decide), hnames := (by decide), hs := (fun _ _ => rfl) }) denAr_nil (fun _ => rfl)))) denL_nil)))
theorem nd1_crosses : (T_crosses.map (·.1)).Nodup := by decide
theorem nd2_crosses : (T_crosses.map (·.2)).Nodup := by decide
theorem nd1_crosses_1 : (T_crosses_1.map (·.1)).Nodup := by decide
theorem nd2_crosses_1 : (T_crosses_1.map (·.2)).Nodup := by decide
theorem den_crosses (X : Facts C) : DenL C k sc_crosses T_crosses body_crosses g_crosses :=
  (denL_cons (denS_set (den_callB X.b_len (by decide) (by decide) ok_len (denAr_cons (den_name (.head _) (by decide)) denAr_nil (fun _ => rfl))) (.tail _ (.head _)) nd1_crosses nd2_crosses (by decide) (fun _ _ => rfl)) (denL_cons (denS_ret (den_cmp ok_ne (den_comp (T' := T_crosses_1) (locs := [2, 3, 4, 5]) { hi := (denI_range X.b_range (by decide) (denAr_cons (den_name (.tail _ (.head _)) (by decide)) denAr_nil (fun _ => rfl))), hc := ⟨_, (turn_next rfl rfl), (denC_next (depth := 0) (denI_range X.b_range (by decide) (denAr_cons (den_name (.head _) (by decide)) denAr_nil (fun _ => rfl))) rfl (turn_next rfl rfl) denT_nil (denC_next (depth := 1) (denI_range X.b_range (by decide) (denAr_cons (den_name (.tail _ (.head _)) (by decide)) denAr_nil (fun _ => rfl))) rfl (turn_next rfl rfl) denT_nil (denC_next (depth := 2) (denI_range X.b_range (by decide) (denAr_cons (den_name (.tail _ (.tail _ (.head _))) (by decide)) denAr_nil (fun _ => rfl))) rfl (turn_last rfl rfl) (denT_one (denB_bool (denA_and (denB_cmp ok_eq (den_item (den_name (.tail _ (.tail _ (.tail _ (.tail _ (.head _))))) (by decide)) (den_name (.head _) (by decide)) (fun _ _ => rfl)) (den_item (den_name (.tail _ (.tail _ (.tail _ (.tail _ (.head _))))) (by decide)) (den_name (.tail _ (.tail _ (.head _))) (by decide)) (fun _ _ => rfl)) (by rfl)) (denA_and (denB_cmp ok_eq (den_item (den_name (.tail _ (.tail _ (.tail _ (.tail _ (.head _))))) (by decide)) (den_name (.tail _ (.head _)) (by decide)) (fun _ _ => rfl)) (den_item (den_name (.tail _ (.tail _ (.tail _ (.tail _ (.head _))))) (by decide)) (den_name (.tail _ (.tail _ (.tail _ (.head _)))) (by decide)) (fun _ _ => rfl)) (by rfl)) (denA_and (denB_cmp ok_ne (den_item (den_name (.tail _ (.tail _ (.tail _ (.tail _ (.head _))))) (by decide)) (den_name (.head _) (by decide)) (fun _ _ => rfl)) (den_item (den_name (.tail _ (.tail _ (.tail _ (.tail _ (.head _))))) (by decide)) (den_name (.tail _ (.head _)) (by decide)) (fun _ _ => rfl)) (by rfl)) denA_and_nil))))) (denC_last den_int) (.tail _ (.tail _ (.tail _ (.head _)))) nd1_crosses_1 nd2_crosses_1 (by decide) (fun _ _ => rfl)) (.tail _ (.tail _ (.head _))) nd1_crosses_1 nd2_crosses_1 (by decide) (fun _ _ => rfl)) (.tail _ (.head _)) nd1_crosses_1 nd2_crosses_1 (by decide) (fun _ _ => rfl))⟩, ht := denT_nil, hx := (.head _), hn1 := nd1_crosses_1, hn2 := nd2_crosses_1, hl := (by decide), hil := (by decide), hT := (by decide), hfree := (by decide), hcell := (by decide), hkind := (by decide), hnames := (by decide), hs := (fun _ _ => rfl) }) (den_list denAr_nil) (by rfl))) denL_nil))
theorem nd1_ways : (T_ways.map (·.1)).Nodup := by decide
theorem nd2_ways : (T_ways.map (·.2)).Nodup := by decide
theorem nd1_ways_1 : (T_ways_1.map (·.1)).Nodup := by decide
theorem nd2_ways_1 : (T_ways_1.map (·.2)).Nodup := by decide
theorem den_ways (X : Facts C) (ok_crosses : FnOK C k (.ref X.f_crosses.a) F_crosses) (ok_insort : FnOK C k (.ref X.f_insort.a) F_insort) : DenL C k sc_ways T_ways body_ways g_ways :=
  (denL_cons (denS_set (den_list (denAr_cons (den_tuple denAr_nil) denAr_nil (fun _ => rfl))) (.tail _ (.head _)) nd1_ways nd2_ways (by decide) (fun _ _ => rfl)) (denL_cons (denS_for (denI_range X.b_range (by decide) (denAr_cons (den_name (.head _) (by decide)) denAr_nil (fun _ => rfl))) (denL_cons (denS_setComp (T' := T_ways_1) (locs := [5, 6]) { hi := (denI_seq (den_name (.tail _ (.head _)) (by decide))), hc := ⟨_, (turn_next rfl rfl), (denC_next (depth := 0) (denI_range X.b_range (by decide) (denAr_cons (den_bin ok_add den_int (den_callB X.b_max (by decide) (by decide) ok_max (denAr_cons (den_bin ok_add (den_tuple (denAr_cons (den_bin ok_sub den_int den_int) denAr_nil (fun _ => rfl))) (den_name (.head _) (by decide))) denAr_nil (fun _ => rfl)))) denAr_nil (fun _ => rfl))) rfl (turn_last rfl rfl) denT_nil (denC_last (den_bin ok_add (den_name (.head _) (by decide)) (den_tuple (denAr_cons (den_name (.tail _ (.head _)) (by decide)) denAr_nil (fun _ => rfl))))) (.tail _ (.head _)) nd1_ways_1 nd2_ways_1 (by decide) (fun _ _ => rfl))⟩, ht := denT_nil, hx := (.head _), hn1 := nd1_ways_1, hn2 := nd2_ways_1, hl := (by decide), hil := (by decide), hT := (by decide), hfree := (by decide), hcell := (by decide), hkind := (by decide), hnames := (by decide), hs := (fun _ _ => rfl) } (.tail _ (.head _)) nd1_ways nd2_ways (by decide) (fun env h => by cases env; dsimp only at h; subst h; rfl)) denL_nil) (.tail _ (.tail _ (.head _))) nd1_ways nd2_ways (by decide) (fun _ _ => rfl)) (denL_cons (denS_set (den_list denAr_nil) (.tail _ (.tail _ (.tail _ (.head _)))) nd1_ways nd2_ways (by decide) (fun _ _ => rfl)) (denL_cons (denS_for (denI_seq (den_slice (den_name (.tail _ (.head _)) (by decide)) denP_none denP_none denP_neg (fun _ _ => ⟨_, rfl⟩))) (denL_cons (denS_if (denB_not (denB_val (den_callF X.f_crosses.g X.f_crosses.ho X.f_crosses.hd (by decide) (by decide) (loc_ok ok_crosses) (denAr_cons (den_name (.tail _ (.tail _ (.tail _ (.tail _ (.head _))))) (by decide)) denAr_nil (fun _ => rfl))) (fun _ => rfl))) (denL_cons (denS_expr (den_callF X.f_insort.g X.f_insort.ho X.f_insort.hd (by decide) (by decide) (loc_ok ok_insort) (denAr_cons (den_name (.tail _ (.tail _ (.tail _ (.head _)))) (by decide)) (denAr_cons (den_name (.tail _ (.tail _ (.tail _ (.tail _ (.head _))))) (by decide)) denAr_nil (fun _ => rfl)) (fun _ => rfl))) (fun env h => by cases env; dsimp only at h; subst h; rfl) (fun _ => rfl)) denL_nil) denL_nil) denL_nil) (.tail _ (.tail _ (.tail _ (.tail _ (.head _))))) nd1_ways nd2_ways (by decide) (fun _ _ => rfl)) (denL_cons (denS_ret (den_name (.tail _ (.tail _ (.tail _ (.head _)))) (by decide))) denL_nil)))))
theorem nd1_gaps : (T_gaps.map (·.1)).Nodup := by decide
theorem nd2_gaps : (T_gaps.map (·.2)).Nodup := by decide
theorem nd1_gaps_1 : (T_gaps_1.map (·.1)).Nodup := by decide
theorem nd2_gaps_1 : (T_gaps_1.map (·.2)).Nodup := by decide
theorem nd1_gaps_2 : (T_gaps_2.map (·.1)).Nodup := by decide
theorem nd2_gaps_2 : (T_gaps_2.map (·.2)).Nodup := by decide
theorem nd1_gaps_3 : (T_gaps_3.map (·.1)).Nodup := by decide
theorem nd2_gaps_3 : (T_gaps_3.map (·.2)).Nodup := by decide
theorem den_gaps (X : Facts C) (ok_told : FnOK C k (.ref X.f_told.a) F_told) : DenL C k sc_gaps T_gaps body_gaps g_gaps :=
  (denL_cons (denS_set2 (den_callB X.b_len (by decide) (by decide) ok_len (denAr_cons (den_name (.head _) (by decide)) denAr_nil (fun _ => rfl))) (den_list denAr_nil) (.tail _ (.tail _ (.head _))) (.tail _ (.tail _ (.tail _ (.head _)))) nd1_gaps nd2_gaps (by decide) (by decide) (fun _ => rfl) (fun _ _ => rfl) (fun env h => by cases env; dsimp only at h; subst h; rfl)) (denL_cons (denS_for (denI_range X.b_range (by decide) (denAr_cons (den_name (.tail _ (.tail _ (.head _))) (by decide)) denAr_nil (fun _ => rfl))) (denL_cons (denS_set (den_name (.tail _ (.head _)) (by decide)) (.tail _ (.tail _ (.tail _ (.tail _ (.head _))))) nd1_gaps nd2_gaps (by decide) (fun _ _ => rfl)) (denL_cons (denS_for (denI_range X.b_range (by decide) (denAr_cons (den_name (.tail _ (.head _)) (by decide)) denAr_nil (fun _ => rfl))) (denL_cons (denS_setComp (T' := T_gaps_1) (locs := [8]) { hi := (denI_range X.b_range (by decide) (denAr_cons (den_bin ok_add (den_name (.tail _ (.tail _ (.tail _ (.tail _ (.tail _ (.head _)))))) (by decide)) den_int) (denAr_cons (den_bin ok_add (den_name (.tail _ (.head _)) (by decide)) den_int) denAr_nil (fun _ => rfl)) (fun _ => rfl))), hc := ⟨_, (turn_last rfl rfl), (denC_last (den_item (den_name (.tail _ (.head _)) (by decide)) (den_name (.head _) (by decide)) (fun _ _ => rfl)))⟩, ht := denT_nil, hx := (.head _), hn1 := nd1_gaps_1, hn2 := nd2_gaps_1, hl := (by decide), hil := (by decide), hT := (by decide), hfree := (by decide), hcell := (by decide), hkind := (by decide), hnames := (by decide), hs := (fun _ _ => rfl) } (.tail _ (.tail _ (.tail _ (.tail _ (.tail _ (.tail _ (.head _))))))) nd1_gaps nd2_gaps (by decide) (fun env h => by cases env; dsimp only at h; subst h; rfl)) (denL_cons (denS_set (den_comp (T' := T_gaps_2) (locs := [9]) { hi := (denI_range X.b_range (by decide) (denAr_cons (den_name (.tail _ (.tail _ (.head _))) (by decide)) denAr_nil (fun _ => rfl))), hc := ⟨_, (turn_last rfl rfl), (denC_last (den_item (den_name (.tail _ (.head _)) (by decide)) (den_name (.head _) (by decide)) (fun _ _ => rfl)))⟩, ht := (denT_one (denB_not (denB_chain ok_lt ok_le_int (den_name (.tail _ (.tail _ (.head _))) (by decide)) (den_name (.head _) (by decide)) (den_name (.tail _ (.tail _ (.tail _ (.head _)))) (by decide)) (by rfl)))), hx := (.head _), hn1 := nd1_gaps_2, hn2 := nd2_gaps_2, hl := (by decide), hil := (by decide), hT := (by decide), hfree := (by decide), hcell := (by decide), hkind := (by decide), hnames := (by decide), hs := (fun _ _ => rfl) }) (.tail _ (.tail _ (.tail _ (.tail _ (.tail _ (.tail _ (.tail _ (.head _)))))))) nd1_gaps nd2_gaps (by decide) (fun env h => by cases env; dsimp only at h; subst h; rfl)) (denL_cons (denS_if (denB_cmp ok_eq (den_comp (T' := T_gaps_3) (locs := [10]) { hi := (denI_seq (den_name (.tail _ (.tail _ (.tail _ (.tail _ (.tail _ (.tail _ (.head _))))))) (by decide))), hc := ⟨_, (turn_last rfl rfl), (denC_last (den_name (.head _) (by decide)))⟩, ht := (denT_one (denB_cmp ok_in (den_name (.head _) (by decide)) (den_name (.tail _ (.head _)) (by decide)) (by rfl))), hx := (.head _), hn1 := nd1_gaps_3, hn2 := nd2_gaps_3, hl := (by decide), hil := (by decide), hT := (by decide), hfree := (by decide), hcell := (by decide), hkind := (by decide), hnames := (by decide), hs := (fun _ _ => rfl) }) (den_list denAr_nil) (by rfl)) (denL_cons (denS_set (den_callB X.b_min (by decide) (by decide) ok_min (denAr_cons (den_name (.tail _ (.tail _ (.tail _ (.tail _ (.head _))))) (by decide)) (denAr_cons (den_name (.tail _ (.tail _ (.tail _ (.tail _ (.tail _ (.head _)))))) (by decide)) denAr_nil (fun _ => rfl)) (fun _ => rfl))) (.tail _ (.tail _ (.tail _ (.tail _ (.head _))))) nd1_gaps nd2_gaps (by decide) (fun _ _ => rfl)) denL_nil) denL_nil) denL_nil))) (.tail _ (.tail _ (.tail _ (.tail _ (.tail _ (.head _)))))) nd1_gaps nd2_gaps (by decide) (fun _ _ => rfl)) (denL_cons (denS_expr (den_meth ok_append (den_name (.tail _ (.tail _ (.tail _ (.head _)))) (by decide)) (denAr_cons (den_name (.tail _ (.tail _ (.tail _ (.tail _ (.head _))))) (by decide)) denAr_nil (fun _ => rfl)) (fun _ => rfl) (by rfl) (by decide) hm_append (pureA_cons pureE_name pureA_nil)) (fun env h => by cases env; dsimp only at h; subst h; rfl) (fun _ => rfl)) denL_nil))) (.tail _ (.head _)) nd1_gaps nd2_gaps (by decide) (fun _ _ => rfl)) (denL_cons (denS_ret (den_callF X.f_told.g X.f_told.ho X.f_told.hd (by decide) (by decide) (loc_ok ok_told) (denAr_cons (den_name (.tail _ (.tail _ (.tail _ (.head _)))) (by decide)) denAr_nil (fun _ => rfl)))) denL_nil)))
end
end Mine
set_option maxHeartbeats 4000000
set_option maxRecDepth 100000
set_option Elab.async false
set_option linter.unusedVariables false
namespace Mine
open PySem PySem.Spec PySem.Calls PyProof.Rows

theorem fillN_len {n : Nat} {ps : List Str} (h : ps.length = n) : ∀ xs ys, fillN n xs = some ys → ys.length = ps.length := fun xs ys e => by
  unfold fillN at e
  split at e
  · rename_i q; cases e; rw [q, h]
  · cases e
theorem fillB_len {ps : List Str} (h : ps.length = 5) : ∀ xs ys, fillB xs = some ys → ys.length = ps.length := fun xs ys e => by
  unfold fillB at e
  split at e
  · cases e; rw [h]; rfl
  · cases e; rw [h]; rfl
  · cases e
section
variable {C : Cst} {k : Nat}
theorem hk_bisect : ∀ p ∈ (["a", "x", "lo", "hi", "key"] : List Str), sc_bisect.names.lookup p = some .local ∨ sc_bisect.names.lookup p = some .cell := by decide
theorem hT_bisect : ∀ p ∈ T_bisect, (sc_bisect.names.lookup p.1 = some .local ∨ sc_bisect.names.lookup p.1 = some .cell) ∧ (p.2 < (["a", "x", "lo", "hi", "key"] : List Str).length → (["a", "x", "lo", "hi", "key"] : List Str)[p.2]? = some p.1) := by decide
theorem fn_bisect (X : Facts C) : FnOK C (k + 1) (.ref X.f_bisect.a) (defF fillB g_bisect) := fn_def (T := T_bisect) X.f_bisect.at' (den_bisect X) (by decide) (by decide) (by decide) (by decide) (by decide) hk_bisect hT_bisect (fillB_len rfl)
theorem hk_insort : ∀ p ∈ (["a", "x", "lo", "hi", "key"] : List Str), sc_insort.names.lookup p = some .local ∨ sc_insort.names.lookup p = some .cell := by decide
theorem hT_insort : ∀ p ∈ T_insort, (sc_insort.names.lookup p.1 = some .local ∨ sc_insort.names.lookup p.1 = some .cell) ∧ (p.2 < (["a", "x", "lo", "hi", "key"] : List Str).length → (["a", "x", "lo", "hi", "key"] : List Str)[p.2]? = some p.1) := by decide
theorem fn_insort (X : Facts C) : FnOK C (k + 2) (.ref X.f_insort.a) (defF fillB g_insort) := fn_def (T := T_insort) X.f_insort.at' (den_insort X (fn_bisect X)) (by decide) (by decide) (by decide) (by decide) (by decide) hk_insort hT_insort (fillB_len rfl)
theorem hk_addc : ∀ p ∈ (["target", "source"] : List Str), sc_addc.names.lookup p = some .local ∨ sc_addc.names.lookup p = some .cell := by decide
theorem hT_addc : ∀ p ∈ T_addc, (sc_addc.names.lookup p.1 = some .local ∨ sc_addc.names.lookup p.1 = some .cell) ∧ (p.2 < (["target", "source"] : List Str).length → (["target", "source"] : List Str)[p.2]? = some p.1) := by decide
theorem fn_addc (X : Facts C) : FnOK C (k + 1) (.ref X.f_addc.a) (defF (fillN 2) g_addc) := fn_def (T := T_addc) X.f_addc.at' (den_addc X) (by decide) (by decide) (by decide) (by decide) (by decide) hk_addc hT_addc (fillN_len rfl)
theorem hk_count : ∀ p ∈ (["callers"] : List Str), sc_count.names.lookup p = some .local ∨ sc_count.names.lookup p = some .cell := by decide
theorem hT_count : ∀ p ∈ T_count, (sc_count.names.lookup p.1 = some .local ∨ sc_count.names.lookup p.1 = some .cell) ∧ (p.2 < (["callers"] : List Str).length → (["callers"] : List Str)[p.2]? = some p.1) := by decide
theorem fn_count (X : Facts C) : FnOK C (k + 1) (.ref X.f_count.a) (defF (fillN 1) g_count) := fn_def (T := T_count) X.f_count.at' (den_count X) (by decide) (by decide) (by decide) (by decide) (by decide) hk_count hT_count (fillN_len rfl)
theorem hk_told : ∀ p ∈ (["row"] : List Str), sc_told.names.lookup p = some .local ∨ sc_told.names.lookup p = some .cell := by decide
theorem hT_told : ∀ p ∈ T_told, (sc_told.names.lookup p.1 = some .local ∨ sc_told.names.lookup p.1 = some .cell) ∧ (p.2 < (["row"] : List Str).length → (["row"] : List Str)[p.2]? = some p.1) := by decide
theorem fn_told (X : Facts C) : FnOK C (k + 1) (.ref X.f_told.a) (defF (fillN 1) g_told) := fn_def (T := T_told) X.f_told.at' (den_told X) (by decide) (by decide) (by decide) (by decide) (by decide) hk_told hT_told (fillN_len rfl)
theorem hk_crosses : ∀ p ∈ (["row"] : List Str), sc_crosses.names.lookup p = some .local ∨ sc_crosses.names.lookup p = some .cell := by decide
theorem hT_crosses : ∀ p ∈ T_crosses, (sc_crosses.names.lookup p.1 = some .local ∨ sc_crosses.names.lookup p.1 = some .cell) ∧ (p.2 < (["row"] : List Str).length → (["row"] : List Str)[p.2]? = some p.1) := by decide
theorem fn_crosses (X : Facts C) : FnOK C (k + 1) (.ref X.f_crosses.a) (defF (fillN 1) g_crosses) := fn_def (T := T_crosses) X.f_crosses.at' (den_crosses X) (by decide) (by decide) (by decide) (by decide) (by decide) hk_crosses hT_crosses (fillN_len rfl)
theorem hk_ways : ∀ p ∈ (["many"] : List Str), sc_ways.names.lookup p = some .local ∨ sc_ways.names.lookup p = some .cell := by decide
theorem hT_ways : ∀ p ∈ T_ways, (sc_ways.names.lookup p.1 = some .local ∨ sc_ways.names.lookup p.1 = some .cell) ∧ (p.2 < (["many"] : List Str).length → (["many"] : List Str)[p.2]? = some p.1) := by decide
theorem fn_ways (X : Facts C) : FnOK C (k + 3) (.ref X.f_ways.a) (defF (fillN 1) g_ways) := fn_def (T := T_ways) X.f_ways.at' (den_ways X (fn_crosses X) (fn_insort X)) (by decide) (by decide) (by decide) (by decide) (by decide) hk_ways hT_ways (fillN_len rfl)
theorem hk_gaps : ∀ p ∈ (["row"] : List Str), sc_gaps.names.lookup p = some .local ∨ sc_gaps.names.lookup p = some .cell := by decide
theorem hT_gaps : ∀ p ∈ T_gaps, (sc_gaps.names.lookup p.1 = some .local ∨ sc_gaps.names.lookup p.1 = some .cell) ∧ (p.2 < (["row"] : List Str).length → (["row"] : List Str)[p.2]? = some p.1) := by decide
theorem fn_gaps (X : Facts C) : FnOK C (k + 2) (.ref X.f_gaps.a) (defF (fillN 1) g_gaps) := fn_def (T := T_gaps) X.f_gaps.at' (den_gaps X (fn_told X)) (by decide) (by decide) (by decide) (by decide) (by decide) hk_gaps hT_gaps (fillN_len rfl)
end
end Mine
set_option maxHeartbeats 1000000
set_option maxRecDepth 100000
set_option Elab.async false
set_option linter.unusedVariables false
namespace Mine
open PySem PySem.Spec PySem.Calls PyProof.Rows
section
variable {C : Cst} {k : Nat}
theorem nd1_law : (T_law.map (·.1)).Nodup := by decide
theorem nd2_law : (T_law.map (·.2)).Nodup := by decide
theorem nd1_law_1 : (T_law_1.map (·.1)).Nodup := by decide
theorem nd2_law_1 : (T_law_1.map (·.2)).Nodup := by decide
theorem nd1_law_2 : (T_law_2.map (·.1)).Nodup := by decide
theorem nd2_law_2 : (T_law_2.map (·.2)).Nodup := by decide
theorem nd1_law_3 : (T_law_3.map (·.1)).Nodup := by decide
theorem nd2_law_3 : (T_law_3.map (·.2)).Nodup := by decide
theorem den_law_0 (X : Facts C) (ok_ways : FnOK C k (.ref X.f_ways.a) F_ways) (ok_addc : FnOK C k (.ref X.f_addc.a) F_addc) (ok_count : FnOK C k (.ref X.f_count.a) F_count) (ok_gaps : FnOK C k (.ref X.f_gaps.a) F_gaps) (ok_bisect : FnOK C k (.ref X.f_bisect.a) F_bisect) (ok_told : FnOK C k (.ref X.f_told.a) F_told) (ok_crosses : FnOK C k (.ref X.f_crosses.a) F_crosses) {l : Addr} {ns : List Int} (S : Scr C l ns) : DenS C k sc_law T_law (stmt_law 0) (g_law_0 l ns) :=
  (denS_set (den_bin ok_add den_int (den_bin ok_mod (den_callB X.b_sum (by decide) (by decide) (ok_sumO S) (denAr_cons (den_name (.head _) (by decide)) denAr_nil (fun _ => rfl))) den_int)) (.tail _ (.head _)) nd1_law nd2_law (by decide) (fun _ _ => rfl))
theorem den_law_1 (X : Facts C) (ok_ways : FnOK C k (.ref X.f_ways.a) F_ways) (ok_addc : FnOK C k (.ref X.f_addc.a) F_addc) (ok_count : FnOK C k (.ref X.f_count.a) F_count) (ok_gaps : FnOK C k (.ref X.f_gaps.a) F_gaps) (ok_bisect : FnOK C k (.ref X.f_bisect.a) F_bisect) (ok_told : FnOK C k (.ref X.f_told.a) F_told) (ok_crosses : FnOK C k (.ref X.f_crosses.a) F_crosses) : DenS C k sc_law T_law (stmt_law 1) g_law_1 :=
  (denS_set2n (den_callF X.f_ways.g X.f_ways.ho X.f_ways.hd (by decide) (by decide) (loc_ok ok_ways) (denAr_cons (den_name (.tail _ (.head _)) (by decide)) denAr_nil (fun _ => rfl))) den_dict0 (.tail _ (.tail _ (.tail _ (.tail _ (.tail _ (.tail _ (.head _))))))) (.tail _ (.tail _ (.tail _ (.tail _ (.tail _ (.tail _ (.tail _ (.head _)))))))) nd1_law nd2_law (by decide) (by decide) (fun _ => rfl) (fun _ _ => rfl) (fun env h => by cases env; dsimp only at h; subst h; rfl))
theorem den_law_2 (X : Facts C) (ok_ways : FnOK C k (.ref X.f_ways.a) F_ways) (ok_addc : FnOK C k (.ref X.f_addc.a) F_addc) (ok_count : FnOK C k (.ref X.f_count.a) F_count) (ok_gaps : FnOK C k (.ref X.f_gaps.a) F_gaps) (ok_bisect : FnOK C k (.ref X.f_bisect.a) F_bisect) (ok_told : FnOK C k (.ref X.f_told.a) F_told) (ok_crosses : FnOK C k (.ref X.f_crosses.a) F_crosses) : DenS C k sc_law T_law (stmt_law 2) g_law_2 :=
  (denS_for (denI_seq (den_name (.tail _ (.tail _ (.tail _ (.tail _ (.tail _ (.tail _ (.head _))))))) (by decide))) (denL_cons (denS_set (den_callF X.f_addc.g X.f_addc.ho X.f_addc.hd (by decide) (by decide) ok_addc (denAr_cons (den_name (.tail _ (.tail _ (.tail _ (.tail _ (.tail _ (.tail _ (.tail _ (.head _)))))))) (by decide)) (denAr_cons (den_dict1 (den_tuple (denAr_cons den_str (denAr_cons (den_bin ok_add den_int (den_callB X.b_max (by decide) (by decide) ok_max (denAr_cons (den_name (.tail _ (.tail _ (.head _))) (by decide)) denAr_nil (fun _ => rfl)))) (denAr_cons den_str denAr_nil (fun _ => rfl)) (fun _ => rfl)) (fun _ => rfl))) den_int) denAr_nil (fun _ => rfl)) (fun _ => rfl))) (.tail _ (.tail _ (.tail _ (.tail _ (.tail _ (.tail _ (.tail _ (.head _)))))))) nd1_law nd2_law (by decide) (fun _ _ => rfl)) denL_nil) (.tail _ (.tail _ (.head _))) nd1_law nd2_law (by decide) (fun _ _ => rfl))
theorem den_law_3 (X : Facts C) (ok_ways : FnOK C k (.ref X.f_ways.a) F_ways) (ok_addc : FnOK C k (.ref X.f_addc.a) F_addc) (ok_count : FnOK C k (.ref X.f_count.a) F_count) (ok_gaps : FnOK C k (.ref X.f_gaps.a) F_gaps) (ok_bisect : FnOK C k (.ref X.f_bisect.a) F_bisect) (ok_told : FnOK C k (.ref X.f_told.a) F_told) (ok_crosses : FnOK C k (.ref X.f_crosses.a) F_crosses) : DenS C k sc_law T_law (stmt_law 3) g_law_3 :=
  (denS_if (denB_bool (denA_or (denB_cmp ok_ne (den_name (.tail _ (.tail _ (.tail _ (.tail _ (.tail _ (.tail _ (.head _))))))) (by decide)) (den_callB X.b_sorted (by decide) (by decide) ok_sorted (denAr_cons (den_name (.tail _ (.tail _ (.tail _ (.tail _ (.tail _ (.tail _ (.head _))))))) (by decide)) denAr_nil (fun _ => rfl))) (by rfl)) (denA_or (denB_cmp ok_ne (den_callB X.b_len (by decide) (by decide) ok_len (denAr_cons (den_name (.tail _ (.tail _ (.tail _ (.tail _ (.tail _ (.tail _ (.head _))))))) (by decide)) denAr_nil (fun _ => rfl))) (den_item (den_list (denAr_cons den_int (denAr_cons den_int (denAr_cons den_int (denAr_cons den_int denAr_nil (fun _ => rfl)) (fun _ => rfl)) (fun _ => rfl)) (fun _ => rfl))) (den_bin ok_sub (den_name (.tail _ (.head _)) (by decide)) den_int) (fun _ _ => rfl)) (by rfl)) (denA_or (denB_cmp ok_ne (den_callF X.f_count.g X.f_count.ho X.f_count.hd (by decide) (by decide) ok_count (denAr_cons (den_name (.tail _ (.tail _ (.tail _ (.tail _ (.tail _ (.tail _ (.tail _ (.head _)))))))) (by decide)) denAr_nil (fun _ => rfl))) (den_callB X.b_len (by decide) (by decide) ok_len (denAr_cons (den_name (.tail _ (.tail _ (.tail _ (.tail _ (.tail _ (.tail _ (.head _))))))) (by decide)) denAr_nil (fun _ => rfl))) (by rfl)) denA_or_nil)))) (denL_cons (denS_ret den_bool) denL_nil) denL_nil)
theorem den_law_5 (X : Facts C) (ok_ways : FnOK C k (.ref X.f_ways.a) F_ways) (ok_addc : FnOK C k (.ref X.f_addc.a) F_addc) (ok_count : FnOK C k (.ref X.f_count.a) F_count) (ok_gaps : FnOK C k (.ref X.f_gaps.a) F_gaps) (ok_bisect : FnOK C k (.ref X.f_bisect.a) F_bisect) (ok_told : FnOK C k (.ref X.f_told.a) F_told) (ok_crosses : FnOK C k (.ref X.f_crosses.a) F_crosses) : DenS C k sc_law T_law (stmt_law 5) g_law_5 :=
  (denS_if (denB_cmp ok_ne (den_comp (T' := T_law_1) (locs := [11]) { hi := (denI_range X.b_range (by decide) (denAr_cons den_int (denAr_cons (den_bin ok_add (den_name (.tail _ (.head _)) (by decide)) den_int) denAr_nil (fun _ => rfl)) (fun _ => rfl))), hc := ⟨_, (turn_last rfl rfl), (denC_last (den_meth (ok_get X.hsm) (den_name (.tail _ (.head _)) (by decide)) (denAr_cons (den_tuple (denAr_cons den_str (denAr_cons (den_name (.head _) (by decide)) (denAr_cons den_str denAr_nil (fun _ => rfl)) (fun _ => rfl)) (fun _ => rfl))) (denAr_cons den_int denAr_nil (fun _ => rfl)) (fun _ => rfl)) (fun _ => rfl) (by rfl) (by decide) hm_get (pureA_cons (pureE_tuple (pureA_cons pureE_lit (pureA_cons pureE_name (pureA_cons pureE_lit pureA_nil)))) (pureA_cons pureE_lit pureA_nil))))⟩, ht := denT_nil, hx := (.head _), hn1 := nd1_law_1, hn2 := nd2_law_1, hl := (by decide), hil := (by decide), hT := (by decide), hfree := (by decide), hcell := (by decide), hkind := (by decide), hnames := (by decide), hs := (fun _ _ => rfl) }) (den_item (den_name (.tail _ (.tail _ (.tail _ (.head _)))) (by decide)) (den_bin ok_sub (den_name (.tail _ (.head _)) (by decide)) den_int) (fun _ _ => rfl)) (by rfl)) (denL_cons (denS_ret den_bool) denL_nil) denL_nil)
theorem den_law_6 (X : Facts C) (ok_ways : FnOK C k (.ref X.f_ways.a) F_ways) (ok_addc : FnOK C k (.ref X.f_addc.a) F_addc) (ok_count : FnOK C k (.ref X.f_count.a) F_count) (ok_gaps : FnOK C k (.ref X.f_gaps.a) F_gaps) (ok_bisect : FnOK C k (.ref X.f_bisect.a) F_bisect) (ok_told : FnOK C k (.ref X.f_told.a) F_told) (ok_crosses : FnOK C k (.ref X.f_crosses.a) F_crosses) : DenS C k sc_law T_law (stmt_law 6) g_law_6 :=
  (denS_for (denI_seq (den_name (.tail _ (.tail _ (.tail _ (.tail _ (.tail _ (.tail _ (.head _))))))) (by decide))) (denL_scope (denL_cons (denS_set (den_callF X.f_gaps.g X.f_gaps.ho X.f_gaps.hd (by decide) (by decide) (loc_ok ok_gaps) (denAr_cons (den_name (.tail _ (.tail _ (.head _))) (by decide)) denAr_nil (fun _ => rfl))) (.tail _ (.tail _ (.tail _ (.tail _ (.tail _ (.tail _ (.tail _ (.tail _ (.head _))))))))) nd1_law nd2_law (by decide) (fun _ _ => rfl)) (denL_cons (denS_set (den_callF X.f_bisect.g X.f_bisect.ho X.f_bisect.hd (by decide) (by decide) (loc_ok ok_bisect) (denAr_cons (den_name (.tail _ (.tail _ (.tail _ (.tail _ (.tail _ (.tail _ (.head _))))))) (by decide)) (denAr_cons (den_name (.tail _ (.tail _ (.tail _ (.tail _ (.tail _ (.tail _ (.tail _ (.tail _ (.head _))))))))) (by decide)) denAr_nil (fun _ => rfl)) (fun _ => rfl))) (.tail _ (.tail _ (.tail _ (.tail _ (.tail _ (.head _)))))) nd1_law nd2_law (by decide) (fun _ _ => rfl)) (denL_cons (denS_if (denB_bool (denA_or (denB_cmp ok_eq (den_name (.tail _ (.tail _ (.tail _ (.tail _ (.tail _ (.head _)))))) (by decide)) (den_callB X.b_len (by decide) (by decide) ok_len (denAr_cons (den_name (.tail _ (.tail _ (.tail _ (.tail _ (.tail _ (.tail _ (.head _))))))) (by decide)) denAr_nil (fun _ => rfl))) (by rfl)) (denA_or (denB_cmp ok_ne (den_item (den_name (.tail _ (.tail _ (.tail _ (.tail _ (.tail _ (.tail _ (.head _))))))) (by decide)) (den_name (.tail _ (.tail _ (.tail _ (.tail _ (.tail _ (.head _)))))) (by decide)) (fun _ _ => rfl)) (den_name (.tail _ (.tail _ (.tail _ (.tail _ (.tail _ (.tail _ (.tail _ (.tail _ (.head _))))))))) (by decide)) (by rfl)) (denA_or (denB_cmp ok_ne (den_bin ok_add (den_bin ok_add den_int (den_callB X.b_max (by decide) (by decide) ok_max (denAr_cons (den_name (.tail _ (.tail _ (.head _))) (by decide)) denAr_nil (fun _ => rfl)))) (den_callB X.b_max (by decide) (by decide) ok_max (denAr_cons (den_name (.tail _ (.tail _ (.tail _ (.tail _ (.tail _ (.tail _ (.tail _ (.tail _ (.head _))))))))) (by decide)) denAr_nil (fun _ => rfl)))) (den_bin ok_add (den_name (.tail _ (.head _)) (by decide)) den_int) (by rfl)) denA_or_nil)))) (denL_cons (denS_ret den_bool) denL_nil) denL_nil) (denL_cons (denS_if (denB_cmp ok_ne (den_callF X.f_gaps.g X.f_gaps.ho X.f_gaps.hd (by decide) (by decide) (loc_ok ok_gaps) (denAr_cons (den_name (.tail _ (.tail _ (.tail _ (.tail _ (.tail _ (.tail _ (.tail _ (.tail _ (.head _))))))))) (by decide)) denAr_nil (fun _ => rfl))) (den_callF X.f_told.g X.f_told.ho X.f_told.hd (by decide) (by decide) (loc_ok ok_told) (denAr_cons (den_bin ok_add (den_slice (den_name (.tail _ (.tail _ (.head _))) (by decide)) denP_int denP_none denP_none (fun _ _ => ⟨_, rfl⟩)) (den_slice (den_name (.tail _ (.tail _ (.head _))) (by decide)) denP_none denP_int denP_none (fun _ _ => ⟨_, rfl⟩))) denAr_nil (fun _ => rfl))) (by rfl)) (denL_cons (denS_ret den_bool) denL_nil) denL_nil) (denL_cons (denS_for (denI_seq (den_slice (den_name (.tail _ (.tail _ (.tail _ (.tail _ (.tail _ (.tail _ (.head _))))))) (by decide)) denP_none denP_none denP_int (fun _ _ => ⟨_, rfl⟩))) (denL_scope (denL_cons (denS_set (den_callF X.f_told.g X.f_told.ho X.f_told.hd (by decide) (by decide) (loc_ok ok_told) (denAr_cons (den_comp (T' := T_law_2) (locs := [12]) { hi := (denI_range X.b_range (by decide) (denAr_cons (den_name (.tail _ (.head _)) (by decide)) denAr_nil (fun _ => rfl))), hc := ⟨_, (turn_last rfl rfl), (denC_last (den_tuple (denAr_cons (den_item (den_name (.tail _ (.head _)) (by decide)) (den_name (.head _) (by decide)) (fun _ _ => rfl)) (denAr_cons (den_item (den_name (.tail _ (.tail _ (.head _))) (by decide)) (den_name (.head _) (by decide)) (fun _ _ => rfl)) denAr_nil (fun _ => rfl)) (fun _ => rfl))))⟩, ht := denT_nil, hx := (.head _), hn1 := nd1_law_2, hn2 := nd2_law_2, hl := (by decide), hil := (by decide), hT := (by decide), hfree := (by decide), hcell := (by decide), hkind := (by decide), hnames := (by decide), hs := (fun _ _ => rfl) }) denAr_nil (fun _ => rfl))) (.tail _ (.tail _ (.tail _ (.tail _ (.tail _ (.tail _ (.tail _ (.tail _ (.tail _ (.tail _ (.head _))))))))))) nd1_law nd2_law (by decide) (fun _ _ => rfl)) (denL_cons (denS_if (denB_bool (denA_or (denB_val (den_callF X.f_crosses.g X.f_crosses.ho X.f_crosses.hd (by decide) (by decide) (loc_ok ok_crosses) (denAr_cons (den_name (.tail _ (.tail _ (.tail _ (.tail _ (.tail _ (.tail _ (.tail _ (.tail _ (.tail _ (.tail _ (.head _))))))))))) (by decide)) denAr_nil (fun _ => rfl))) (fun _ => rfl)) (denA_or (denB_cmp ok_ne (den_item (den_name (.tail _ (.tail _ (.tail _ (.tail _ (.tail _ (.tail _ (.head _))))))) (by decide)) (den_callF X.f_bisect.g X.f_bisect.ho X.f_bisect.hd (by decide) (by decide) (loc_ok ok_bisect) (denAr_cons (den_name (.tail _ (.tail _ (.tail _ (.tail _ (.tail _ (.tail _ (.head _))))))) (by decide)) (denAr_cons (den_name (.tail _ (.tail _ (.tail _ (.tail _ (.tail _ (.tail _ (.tail _ (.tail _ (.tail _ (.tail _ (.head _))))))))))) (by decide)) denAr_nil (fun _ => rfl)) (fun _ => rfl))) (fun _ _ => rfl)) (den_name (.tail _ (.tail _ (.tail _ (.tail _ (.tail _ (.tail _ (.tail _ (.tail _ (.tail _ (.tail _ (.head _))))))))))) (by decide)) (by rfl)) denA_or_nil))) (denL_cons (denS_ret den_bool) denL_nil) denL_nil) denL_nil))) (.tail _ (.tail _ (.tail _ (.tail _ (.tail _ (.tail _ (.tail _ (.tail _ (.tail _ (.head _)))))))))) nd1_law nd2_law (by decide) (fun _ _ => rfl)) denL_nil)))))) (.tail _ (.tail _ (.head _))) nd1_law nd2_law (by decide) (fun _ _ => rfl))
theorem den_law_7 (X : Facts C) (ok_ways : FnOK C k (.ref X.f_ways.a) F_ways) (ok_addc : FnOK C k (.ref X.f_addc.a) F_addc) (ok_count : FnOK C k (.ref X.f_count.a) F_count) (ok_gaps : FnOK C k (.ref X.f_gaps.a) F_gaps) (ok_bisect : FnOK C k (.ref X.f_bisect.a) F_bisect) (ok_told : FnOK C k (.ref X.f_told.a) F_told) (ok_crosses : FnOK C k (.ref X.f_crosses.a) F_crosses) {l : Addr} {ns : List Int} (S : Scr C l ns) : DenS C k sc_law T_law (stmt_law 7) (g_law_7 l ns) :=
  (denS_set (den_callF X.f_told.g X.f_told.ho X.f_told.hd (by decide) (by decide) (loc_ok ok_told) (denAr_cons (den_comp (T' := T_law_3) (locs := [13]) { hi := (denI_seq (den_slice (den_bin (ok_addO S) (den_name (.head _) (by decide)) (den_bin ok_mul4 (den_list (denAr_cons den_int denAr_nil (fun _ => rfl))) den_int)) denP_none (denP_name (.tail _ (.head _)) (by decide)) denP_none (fun _ _ => ⟨_, rfl⟩))), hc := ⟨_, (turn_last rfl rfl), (denC_last (den_bin ok_mod (den_name (.head _) (by decide)) (den_name (.tail _ (.head _)) (by decide))))⟩, ht := denT_nil, hx := (.head _), hn1 := nd1_law_3, hn2 := nd2_law_3, hl := (by decide), hil := (by decide), hT := (by decide), hfree := (by decide), hcell := (by decide), hkind := (by decide), hnames := (by decide), hs := (fun _ _ => rfl) }) denAr_nil (fun _ => rfl))) (.tail _ (.tail _ (.tail _ (.tail _ (.head _))))) nd1_law nd2_law (by decide) (fun _ _ => rfl))
theorem den_law_8 (X : Facts C) (ok_ways : FnOK C k (.ref X.f_ways.a) F_ways) (ok_addc : FnOK C k (.ref X.f_addc.a) F_addc) (ok_count : FnOK C k (.ref X.f_count.a) F_count) (ok_gaps : FnOK C k (.ref X.f_gaps.a) F_gaps) (ok_bisect : FnOK C k (.ref X.f_bisect.a) F_bisect) (ok_told : FnOK C k (.ref X.f_told.a) F_told) (ok_crosses : FnOK C k (.ref X.f_crosses.a) F_crosses) : DenS C k sc_law T_law (stmt_law 8) g_law_8 :=
  (denS_set (den_callF X.f_bisect.g X.f_bisect.ho X.f_bisect.hd (by decide) (by decide) (loc_ok ok_bisect) (denAr_cons (den_name (.tail _ (.tail _ (.tail _ (.tail _ (.tail _ (.tail _ (.head _))))))) (by decide)) (denAr_cons (den_name (.tail _ (.tail _ (.tail _ (.tail _ (.head _))))) (by decide)) denAr_nil (fun _ => rfl)) (fun _ => rfl))) (.tail _ (.tail _ (.tail _ (.tail _ (.tail _ (.head _)))))) nd1_law nd2_law (by decide) (fun _ _ => rfl))
theorem den_law_9 (X : Facts C) (ok_ways : FnOK C k (.ref X.f_ways.a) F_ways) (ok_addc : FnOK C k (.ref X.f_addc.a) F_addc) (ok_count : FnOK C k (.ref X.f_count.a) F_count) (ok_gaps : FnOK C k (.ref X.f_gaps.a) F_gaps) (ok_bisect : FnOK C k (.ref X.f_bisect.a) F_bisect) (ok_told : FnOK C k (.ref X.f_told.a) F_told) (ok_crosses : FnOK C k (.ref X.f_crosses.a) F_crosses) : DenS C k sc_law T_law (stmt_law 9) g_law_9 :=
  (denS_ret (den_cmp ok_eq (den_and2 (den_cmp ok_lt (den_name (.tail _ (.tail _ (.tail _ (.tail _ (.tail _ (.head _)))))) (by decide)) (den_callB X.b_len (by decide) (by decide) ok_len (denAr_cons (den_name (.tail _ (.tail _ (.tail _ (.tail _ (.tail _ (.tail _ (.head _))))))) (by decide)) denAr_nil (fun _ => rfl))) (by rfl)) (den_cmp ok_eq (den_item (den_name (.tail _ (.tail _ (.tail _ (.tail _ (.tail _ (.tail _ (.head _))))))) (by decide)) (den_name (.tail _ (.tail _ (.tail _ (.tail _ (.tail _ (.head _)))))) (by decide)) (fun _ _ => rfl)) (den_name (.tail _ (.tail _ (.tail _ (.tail _ (.head _))))) (by decide)) (by rfl))) (den_not (den_callF X.f_crosses.g X.f_crosses.ho X.f_crosses.hd (by decide) (by decide) (loc_ok ok_crosses) (denAr_cons (den_name (.tail _ (.tail _ (.tail _ (.tail _ (.head _))))) (by decide)) denAr_nil (fun _ => rfl)))) (by rfl)))
end
end Mine
set_option maxHeartbeats 1000000
set_option maxRecDepth 100000
set_option Elab.async false
set_option linter.unusedVariables false
namespace Mine
open PySem PySem.Spec PySem.Calls PyProof.Rows
variable {C : Cst} {k : Nat}
theorem starEach_List {es : List Expr} {pos : Pos} {rest : List Expr} {env : Env} : starEach (.List es pos :: rest) env = (false, eval (.List es pos) env) :: starEach rest env := rfl


theorem den_law_4 : DenS C k sc_law T_law (stmt_law 4) g_law_4 := by
  unfold g_law_4
  generalize hf : listE _ = f
  refine denS_set ?_ ?_ ?_ ?_ ?_ ?_
  rotate_left
  · exact (.tail _ (.tail _ (.tail _ (.head _))))
  · exact nd1_law
  · exact nd2_law
  · decide
  · intro env h; rfl
  subst hf
  refine den_list ?_
  refine denAr_cons ?_ ?_ (fun _ => starEach_List)
  · exact den_list (denAr_cons den_int denAr_nil (fun _ => rfl))
  refine denAr_cons ?_ ?_ (fun _ => starEach_List)
  · exact den_list (denAr_cons den_int (denAr_cons den_int denAr_nil (fun _ => rfl)) (fun _ => rfl))
  refine denAr_cons ?_ ?_ (fun _ => starEach_List)
  · exact den_list (denAr_cons den_int (denAr_cons den_int (denAr_cons den_int denAr_nil (fun _ => rfl)) (fun _ => rfl)) (fun _ => rfl))
  refine denAr_cons ?_ ?_ (fun _ => starEach_List)
  · exact den_list (denAr_cons den_int (denAr_cons den_int (denAr_cons den_int (denAr_cons den_int denAr_nil (fun _ => rfl)) (fun _ => rfl)) (fun _ => rfl)) (fun _ => rfl))
  exact denAr_nil
end Mine
set_option maxHeartbeats 1000000
set_option maxRecDepth 100000
set_option Elab.async false
set_option linter.unusedVariables false
namespace Mine
open PySem PySem.Spec PySem.Calls PyProof.Rows

noncomputable def mid : StF := seqS g_law_1 (seqS g_law_2 (seqS g_law_3 (seqS g_law_4 (seqS g_law_5 g_law_6))))
noncomputable def tupR (ns : List Int) : RV := .d (.tuple (ns.map .int))
noncomputable def ord1 : List RV := [tupR [0]]
noncomputable def ord2 : List RV := [tupR [0, 0], tupR [0, 1]]
noncomputable def ord3 : List RV := [tupR [0, 0, 0], tupR [0, 0, 1], tupR [0, 1, 0], tupR [0, 1, 1], tupR [0, 1, 2]]
noncomputable def ord4 : List RV := [tupR [0, 0, 0, 0], tupR [0, 0, 0, 1], tupR [0, 0, 1, 0], tupR [0, 0, 1, 1], tupR [0, 0, 1, 2], tupR [0, 1, 0, 0], tupR [0, 1, 0, 2], tupR [0, 1, 1, 0], tupR [0, 1, 1, 1], tupR [0, 1, 1, 2], tupR [0, 1, 2, 0], tupR [0, 1, 2, 1], tupR [0, 1, 2, 2], tupR [0, 1, 2, 3]]
/-- what the law's last lines read of the state -/
noncomputable def obs : Option (Fl × Rho × Mem) → Option (Option RV × Option RV × Option RV × Option AO)
  | some (.nx, ρ, μ) => some (look ρ 0, look ρ 1, look ρ 13, match look ρ 6 with
    | some (.r j) => μ[j]?
    | _ => none)
  | _ => none
theorem obs1 (u : Value) : obs (mid [some (.o u), some (.d (.int 1))] []) = some (some (.o u), some (.d (.int 1)), none, some (.lst ord1)) := by kernel_rfl
theorem obs2 (u : Value) : obs (mid [some (.o u), some (.d (.int 2))] []) = some (some (.o u), some (.d (.int 2)), none, some (.lst ord2)) := by kernel_rfl
theorem obs3 (u : Value) : obs (mid [some (.o u), some (.d (.int 3))] []) = some (some (.o u), some (.d (.int 3)), none, some (.lst ord3)) := by kernel_rfl
end Mine
set_option maxHeartbeats 1000000
set_option maxRecDepth 100000
set_option Elab.async false
set_option linter.unusedVariables false
namespace Mine
open PySem PySem.Spec PySem.Calls PyProof.Rows

noncomputable abbrev iR (i : Int) : RV := .d (.int i)
noncomputable def body6 : StF := (scopeS (seqS (setS 8 (callE Lgaps (consA (nameE 2) nilA))) (seqS (setS 5 (callE Lbisect (consA (nameE 6) (consA (nameE 8) nilA)))) (seqS (ifS (orB (toB (binE (gEq false) (nameE 5) (callE fLen (consA (nameE 6) nilA)))) (orB (toB (binE (gEq true) (binE gItem (nameE 6) (nameE 5)) (nameE 8))) (orB (toB (binE (gEq true) (binE gAdd (binE gAdd (litE (.int 2)) (callE fMax (consA (nameE 2) nilA))) (callE fMax (consA (nameE 8) nilA))) (binE gAdd (nameE 1) (litE (.int 1))))) falseB))) (seqS (retS (litE (.bool false))) nilS) nilS) (seqS (ifS (toB (binE (gEq true) (callE Lgaps (consA (nameE 8) nilA)) (callE Ltold (consA (binE gAdd (sliceE (nameE 2) (ptInt 1) ptNone ptNone) (sliceE (nameE 2) ptNone (ptInt 1) ptNone)) nilA)))) (seqS (retS (litE (.bool false))) nilS) nilS) (seqS (forS fuel 9 (seqI (sliceE (nameE 6) ptNone ptNone (ptInt 2))) (scopeS (seqS (setS 10 (callE Ltold (consA (compE fuel 12 [12] (rangeI (consA (nameE 1) nilA)) noT (lastC (tupleE (consA (binE gItem (nameE 2) (nameE 12)) (consA (binE gItem (nameE 9) (nameE 12)) nilA))))) nilA))) (seqS (ifS (orB (toB (callE Lcrosses (consA (nameE 10) nilA))) (orB (toB (binE (gEq true) (binE gItem (nameE 6) (callE Lbisect (consA (nameE 6) (consA (nameE 10) nilA)))) (nameE 10))) falseB)) (seqS (retS (litE (.bool false))) nilS) nilS) nilS)))) nilS))))))
theorem law6_eq : g_law_6 = forS fuel 2 (seqI (nameE 6)) body6 := rfl
noncomputable def mem1 : Mem := [.lst [tupR [0, 0, 0, 0], tupR [0, 0, 0, 1], tupR [0, 0, 1, 0], tupR [0, 0, 1, 1], tupR [0, 0, 1, 2], tupR [0, 1, 0, 0], tupR [0, 1, 0, 2], tupR [0, 1, 1, 0], tupR [0, 1, 1, 1], tupR [0, 1, 1, 2], tupR [0, 1, 2, 0], tupR [0, 1, 2, 1], tupR [0, 1, 2, 2], tupR [0, 1, 2, 3]],
  .dct []]
noncomputable def mem2 : Mem := [.lst [tupR [0, 0, 0, 0], tupR [0, 0, 0, 1], tupR [0, 0, 1, 0], tupR [0, 0, 1, 1], tupR [0, 0, 1, 2], tupR [0, 1, 0, 0], tupR [0, 1, 0, 2], tupR [0, 1, 1, 0], tupR [0, 1, 1, 1], tupR [0, 1, 1, 2], tupR [0, 1, 2, 0], tupR [0, 1, 2, 1], tupR [0, 1, 2, 2], tupR [0, 1, 2, 3]],
  .dct [],
  .dct [([.inr "lots", .inl 1, .inr "way"], iR 1)],
  .dct [([.inr "lots", .inl 1, .inr "way"], iR 1)],
  .dct [([.inr "lots", .inl 2, .inr "way"], iR 1)],
  .dct [([.inr "lots", .inl 1, .inr "way"], iR 1), ([.inr "lots", .inl 2, .inr "way"], iR 1)],
  .dct [([.inr "lots", .inl 2, .inr "way"], iR 1)],
  .dct [([.inr "lots", .inl 1, .inr "way"], iR 1), ([.inr "lots", .inl 2, .inr "way"], iR 2)],
  .dct [([.inr "lots", .inl 2, .inr "way"], iR 1)],
  .dct [([.inr "lots", .inl 1, .inr "way"], iR 1), ([.inr "lots", .inl 2, .inr "way"], iR 3)],
  .dct [([.inr "lots", .inl 3, .inr "way"], iR 1)],
  .dct [([.inr "lots", .inl 1, .inr "way"], iR 1), ([.inr "lots", .inl 2, .inr "way"], iR 3), ([.inr "lots", .inl 3, .inr "way"], iR 1)],
  .dct [([.inr "lots", .inl 2, .inr "way"], iR 1)],
  .dct [([.inr "lots", .inl 1, .inr "way"], iR 1), ([.inr "lots", .inl 2, .inr "way"], iR 4), ([.inr "lots", .inl 3, .inr "way"], iR 1)],
  .dct [([.inr "lots", .inl 3, .inr "way"], iR 1)],
  .dct [([.inr "lots", .inl 1, .inr "way"], iR 1), ([.inr "lots", .inl 2, .inr "way"], iR 4), ([.inr "lots", .inl 3, .inr "way"], iR 2)],
  .dct [([.inr "lots", .inl 2, .inr "way"], iR 1)],
  .dct [([.inr "lots", .inl 1, .inr "way"], iR 1), ([.inr "lots", .inl 2, .inr "way"], iR 5), ([.inr "lots", .inl 3, .inr "way"], iR 2)],
  .dct [([.inr "lots", .inl 2, .inr "way"], iR 1)],
  .dct [([.inr "lots", .inl 1, .inr "way"], iR 1), ([.inr "lots", .inl 2, .inr "way"], iR 6), ([.inr "lots", .inl 3, .inr "way"], iR 2)],
  .dct [([.inr "lots", .inl 3, .inr "way"], iR 1)],
  .dct [([.inr "lots", .inl 1, .inr "way"], iR 1), ([.inr "lots", .inl 2, .inr "way"], iR 6), ([.inr "lots", .inl 3, .inr "way"], iR 3)],
  .dct [([.inr "lots", .inl 3, .inr "way"], iR 1)],
  .dct [([.inr "lots", .inl 1, .inr "way"], iR 1), ([.inr "lots", .inl 2, .inr "way"], iR 6), ([.inr "lots", .inl 3, .inr "way"], iR 4)],
  .dct [([.inr "lots", .inl 3, .inr "way"], iR 1)],
  .dct [([.inr "lots", .inl 1, .inr "way"], iR 1), ([.inr "lots", .inl 2, .inr "way"], iR 6), ([.inr "lots", .inl 3, .inr "way"], iR 5)],
  .dct [([.inr "lots", .inl 3, .inr "way"], iR 1)],
  .dct [([.inr "lots", .inl 1, .inr "way"], iR 1), ([.inr "lots", .inl 2, .inr "way"], iR 6), ([.inr "lots", .inl 3, .inr "way"], iR 6)],
  .dct [([.inr "lots", .inl 4, .inr "way"], iR 1)],
  .dct [([.inr "lots", .inl 1, .inr "way"], iR 1), ([.inr "lots", .inl 2, .inr "way"], iR 6), ([.inr "lots", .inl 3, .inr "way"], iR 6), ([.inr "lots", .inl 4, .inr "way"], iR 1)]]
noncomputable def mem3 : Mem := mem2 ++ [.lst [tupR [0, 0, 0, 0], tupR [0, 0, 0, 1], tupR [0, 0, 1, 0], tupR [0, 0, 1, 1], tupR [0, 0, 1, 2], tupR [0, 1, 0, 0], tupR [0, 1, 0, 2], tupR [0, 1, 1, 0], tupR [0, 1, 1, 1], tupR [0, 1, 1, 2], tupR [0, 1, 2, 0], tupR [0, 1, 2, 1], tupR [0, 1, 2, 2], tupR [0, 1, 2, 3]],
  .lst [iR 1, iR 2, iR 5, iR 14]]
noncomputable def mem5 : Mem := mem3 ++ [.lst [iR 1],
  .lst [iR 1, iR 1],
  .lst [iR 1, iR 3, iR 1],
  .lst [iR 1, iR 6, iR 6, iR 1],
  .lst [.r 32, .r 33, .r 34, .r 35],
  .lst [iR 1, iR 6, iR 6, iR 1]]
noncomputable def rho1 (u : Value) : Rho := [some (.o u), some (iR 4), none, none, none, none, some (.r 0), some (.r 1)]
noncomputable def rho2 (u : Value) : Rho := [some (.o u), some (iR 4), some (tupR [0, 1, 2, 3]), none, none, none, some (.r 0), some (.r 29)]
noncomputable def rho5 (u : Value) : Rho := [some (.o u), some (iR 4), some (tupR [0, 1, 2, 3]), some (.r 36), none, none, some (.r 0), some (.r 29)]
theorem seqS_at {f g : StF} {ρ ρ₁ : Rho} {μ μ₁ : Mem} (h : f ρ μ = some (.nx, ρ₁, μ₁)) : seqS f g ρ μ = g ρ₁ μ₁ := by
  unfold seqS; rw [h]
theorem seqS_assoc {f g h : StF} {ρ ρ₁ : Rho} {μ μ₁ : Mem} (e : seqS f g ρ μ = some (.nx, ρ₁, μ₁)) : seqS f (seqS g h) ρ μ = h ρ₁ μ₁ := by
  unfold seqS at e ⊢
  cases ef : f ρ μ with
  | none => rw [ef] at e; cases e
  | some p =>
    obtain ⟨fl, ρ', μ'⟩ := p
    rw [ef] at e
    cases fl with
    | nx =>
      dsimp only at e ⊢
      rw [e]
    | rt x => cases e
theorem at1 (u : Value) : g_law_1 [some (.o u), some (.d (.int 4))] [] = some (.nx, rho1 u, mem1) := by kernel_rfl
theorem at2 (u : Value) : g_law_2 (rho1 u) mem1 = some (.nx, rho2 u, mem2) := by kernel_rfl
theorem at3 (u : Value) : g_law_3 (rho2 u) mem2 = some (.nx, rho2 u, mem3) := by kernel_rfl
theorem at5 (u : Value) : seqS g_law_4 g_law_5 (rho2 u) mem3 = some (.nx, rho5 u, mem5) := by kernel_rfl
/-- the frame behind a turn: the way, its place, its gaps, the other way, both -/
noncomputable def rho6 (u : Value) (w p g o b : RV) : Rho := [some (.o u), some (iR 4), some w, some (.r 36), none, some p, some (.r 0), some (.r 29), some g, some o, some b]
theorem turn0 (u : Value) : body6 (upd (rho5 u) 2 (tupR [0, 0, 0, 0])) mem5 = some (.nx, rho6 u (tupR [0, 0, 0, 0]) (iR 13) (tupR [0, 1, 2, 3]) (tupR [0, 1, 2, 2]) (tupR [0, 1, 2, 2]), mem5) := by kernel_rfl
theorem turn1 (u : Value) (v p g o b : RV) : body6 (upd (rho6 u v p g o b) 2 (tupR [0, 0, 0, 1])) mem5 = some (.nx, rho6 u (tupR [0, 0, 0, 1]) (iR 12) (tupR [0, 1, 2, 2]) (tupR [0, 1, 2, 2]) (tupR [0, 1, 2, 3]), mem5) := by kernel_rfl
theorem turn2 (u : Value) (v p g o b : RV) : body6 (upd (rho6 u v p g o b) 2 (tupR [0, 0, 1, 0])) mem5 = some (.nx, rho6 u (tupR [0, 0, 1, 0]) (iR 9) (tupR [0, 1, 1, 2]) (tupR [0, 1, 2, 2]) (tupR [0, 1, 2, 3]), mem5) := by kernel_rfl
theorem turn3 (u : Value) (v p g o b : RV) : body6 (upd (rho6 u v p g o b) 2 (tupR [0, 0, 1, 1])) mem5 = some (.nx, rho6 u (tupR [0, 0, 1, 1]) (iR 11) (tupR [0, 1, 2, 1]) (tupR [0, 1, 2, 2]) (tupR [0, 1, 2, 2]), mem5) := by kernel_rfl
theorem turn4 (u : Value) (v p g o b : RV) : body6 (upd (rho6 u v p g o b) 2 (tupR [0, 0, 1, 2])) mem5 = some (.nx, rho6 u (tupR [0, 0, 1, 2]) (iR 8) (tupR [0, 1, 1, 1]) (tupR [0, 1, 2, 2]) (tupR [0, 1, 2, 3]), mem5) := by kernel_rfl
theorem turn5 (u : Value) (v p g o b : RV) : body6 (upd (rho6 u v p g o b) 2 (tupR [0, 1, 0, 0])) mem5 = some (.nx, rho6 u (tupR [0, 1, 0, 0]) (iR 4) (tupR [0, 0, 1, 2]) (tupR [0, 1, 2, 2]) (tupR [0, 1, 2, 2]), mem5) := by kernel_rfl
theorem turn6 (u : Value) (v p g o b : RV) : body6 (upd (rho6 u v p g o b) 2 (tupR [0, 1, 0, 2])) mem5 = some (.nx, rho6 u (tupR [0, 1, 0, 2]) (iR 3) (tupR [0, 0, 1, 1]) (tupR [0, 1, 2, 2]) (tupR [0, 1, 2, 3]), mem5) := by kernel_rfl
theorem turn7 (u : Value) (v p g o b : RV) : body6 (upd (rho6 u v p g o b) 2 (tupR [0, 1, 1, 0])) mem5 = some (.nx, rho6 u (tupR [0, 1, 1, 0]) (iR 6) (tupR [0, 1, 0, 2]) (tupR [0, 1, 2, 2]) (tupR [0, 1, 2, 3]), mem5) := by kernel_rfl
theorem turn8 (u : Value) (v p g o b : RV) : body6 (upd (rho6 u v p g o b) 2 (tupR [0, 1, 1, 1])) mem5 = some (.nx, rho6 u (tupR [0, 1, 1, 1]) (iR 10) (tupR [0, 1, 2, 0]) (tupR [0, 1, 2, 2]) (tupR [0, 1, 2, 2]), mem5) := by kernel_rfl
theorem turn9 (u : Value) (v p g o b : RV) : body6 (upd (rho6 u v p g o b) 2 (tupR [0, 1, 1, 2])) mem5 = some (.nx, rho6 u (tupR [0, 1, 1, 2]) (iR 5) (tupR [0, 1, 0, 0]) (tupR [0, 1, 2, 2]) (tupR [0, 1, 2, 3]), mem5) := by kernel_rfl
theorem turn10 (u : Value) (v p g o b : RV) : body6 (upd (rho6 u v p g o b) 2 (tupR [0, 1, 2, 0])) mem5 = some (.nx, rho6 u (tupR [0, 1, 2, 0]) (iR 1) (tupR [0, 0, 0, 1]) (tupR [0, 1, 2, 2]) (tupR [0, 1, 2, 3]), mem5) := by kernel_rfl
theorem turn11 (u : Value) (v p g o b : RV) : body6 (upd (rho6 u v p g o b) 2 (tupR [0, 1, 2, 1])) mem5 = some (.nx, rho6 u (tupR [0, 1, 2, 1]) (iR 7) (tupR [0, 1, 1, 0]) (tupR [0, 1, 2, 2]) (tupR [0, 1, 2, 3]), mem5) := by kernel_rfl
theorem turn12 (u : Value) (v p g o b : RV) : body6 (upd (rho6 u v p g o b) 2 (tupR [0, 1, 2, 2])) mem5 = some (.nx, rho6 u (tupR [0, 1, 2, 2]) (iR 2) (tupR [0, 0, 1, 0]) (tupR [0, 1, 2, 2]) (tupR [0, 1, 2, 2]), mem5) := by kernel_rfl
theorem turn13 (u : Value) (v p g o b : RV) : body6 (upd (rho6 u v p g o b) 2 (tupR [0, 1, 2, 3])) mem5 = some (.nx, rho6 u (tupR [0, 1, 2, 3]) (iR 0) (tupR [0, 0, 0, 0]) (tupR [0, 1, 2, 2]) (tupR [0, 1, 2, 3]), mem5) := by kernel_rfl
theorem forGo_turn {i n : Nat} {f : StF} {I I' : It} {x : RV} {ρ ρ' : Rho} {μ μ' : Mem} (h1 : nextI I μ = some (some (x, I'))) (h2 : f (upd ρ i x) μ = some (.nx, ρ', μ')) : forGo i f (n + 1) I ρ μ = forGo i f n I' ρ' μ' := by
  rw [forGo, h1]
  dsimp only
  rw [h2]
theorem forGo_stop {i n : Nat} {f : StF} {I : It} {ρ : Rho} {μ : Mem} (h1 : nextI I μ = some none) : forGo i f (n + 1) I ρ μ = some (.nx, ρ, μ) := by
  rw [forGo, h1]
theorem forS_at {N i : Nat} {fi : ItF} {f : StF} {I : It} {ρ : Rho} {μ μ' : Mem} (h : fi ρ μ = some (I, μ')) : forS N i fi f ρ μ = forGo i f N I ρ μ' := by
  unfold forS
  rw [h]
theorem at6 (u : Value) : ∃ w p g o b, g_law_6 (rho5 u) mem5 = some (.nx, rho6 u w p g o b, mem5) := by
  rw [law6_eq, forS_at (show seqI (nameE 6) (rho5 u) mem5 = some (.lst 0 0, mem5) from rfl), show fuel = 85 + 15 from rfl]
  rw [forGo_turn (show nextI (.lst 0 0) mem5 = some (some (tupR [0, 0, 0, 0], .lst 0 1)) from rfl) (turn0 u)]
  rw [forGo_turn (show nextI (.lst 0 1) mem5 = some (some (tupR [0, 0, 0, 1], .lst 0 2)) from rfl) (turn1 u _ _ _ _ _)]
  rw [forGo_turn (show nextI (.lst 0 2) mem5 = some (some (tupR [0, 0, 1, 0], .lst 0 3)) from rfl) (turn2 u _ _ _ _ _)]
  rw [forGo_turn (show nextI (.lst 0 3) mem5 = some (some (tupR [0, 0, 1, 1], .lst 0 4)) from rfl) (turn3 u _ _ _ _ _)]
  rw [forGo_turn (show nextI (.lst 0 4) mem5 = some (some (tupR [0, 0, 1, 2], .lst 0 5)) from rfl) (turn4 u _ _ _ _ _)]
  rw [forGo_turn (show nextI (.lst 0 5) mem5 = some (some (tupR [0, 1, 0, 0], .lst 0 6)) from rfl) (turn5 u _ _ _ _ _)]
  rw [forGo_turn (show nextI (.lst 0 6) mem5 = some (some (tupR [0, 1, 0, 2], .lst 0 7)) from rfl) (turn6 u _ _ _ _ _)]
  rw [forGo_turn (show nextI (.lst 0 7) mem5 = some (some (tupR [0, 1, 1, 0], .lst 0 8)) from rfl) (turn7 u _ _ _ _ _)]
  rw [forGo_turn (show nextI (.lst 0 8) mem5 = some (some (tupR [0, 1, 1, 1], .lst 0 9)) from rfl) (turn8 u _ _ _ _ _)]
  rw [forGo_turn (show nextI (.lst 0 9) mem5 = some (some (tupR [0, 1, 1, 2], .lst 0 10)) from rfl) (turn9 u _ _ _ _ _)]
  rw [forGo_turn (show nextI (.lst 0 10) mem5 = some (some (tupR [0, 1, 2, 0], .lst 0 11)) from rfl) (turn10 u _ _ _ _ _)]
  rw [forGo_turn (show nextI (.lst 0 11) mem5 = some (some (tupR [0, 1, 2, 1], .lst 0 12)) from rfl) (turn11 u _ _ _ _ _)]
  rw [forGo_turn (show nextI (.lst 0 12) mem5 = some (some (tupR [0, 1, 2, 2], .lst 0 13)) from rfl) (turn12 u _ _ _ _ _)]
  rw [forGo_turn (show nextI (.lst 0 13) mem5 = some (some (tupR [0, 1, 2, 3], .lst 0 14)) from rfl) (turn13 u _ _ _ _ _)]
  exact ⟨_, _, _, _, _, forGo_stop rfl⟩
theorem obs4 (u : Value) : obs (mid [some (.o u), some (.d (.int 4))] []) = some (some (.o u), some (.d (.int 4)), none, some (.lst ord4)) := by
  obtain ⟨w, p, g, o, b, e⟩ := at6 u
  have e5 := seqS_assoc (h := g_law_6) (at5 u)
  unfold mid
  rw [seqS_at (at1 u), seqS_at (at2 u), seqS_at (at3 u), e5, e]
  rfl
end Mine
set_option maxHeartbeats 1000000
set_option maxRecDepth 100000
set_option Elab.async false
namespace Mine
open PySem PySem.Spec PySem.Calls PyProof.Rows
variable {C : Cst} {k : Nat}
theorem fo_ways (X : Facts C) : FnOK C (k + 3) (.ref X.f_ways.a) F_ways := by unfold F_ways; exact fn_ways X
theorem fo_addc (X : Facts C) : FnOK C (k + 1) (.ref X.f_addc.a) F_addc := by unfold F_addc; exact fn_addc X
theorem fo_count (X : Facts C) : FnOK C (k + 1) (.ref X.f_count.a) F_count := by unfold F_count; exact fn_count X
theorem fo_gaps (X : Facts C) : FnOK C (k + 2) (.ref X.f_gaps.a) F_gaps := by unfold F_gaps; exact fn_gaps X
theorem fo_bisect (X : Facts C) : FnOK C (k + 1) (.ref X.f_bisect.a) F_bisect := by unfold F_bisect; exact fn_bisect X
theorem fo_told (X : Facts C) : FnOK C (k + 1) (.ref X.f_told.a) F_told := by unfold F_told; exact fn_told X
theorem fo_crosses (X : Facts C) : FnOK C (k + 1) (.ref X.f_crosses.a) F_crosses := by unfold F_crosses; exact fn_crosses X
theorem body_law_eq : body_law = [stmt_law 0, stmt_law 1, stmt_law 2, stmt_law 3, stmt_law 4, stmt_law 5, stmt_law 6, stmt_law 7, stmt_law 8, stmt_law 9] := by kernel_rfl
noncomputable def tl : StF := seqS g_law_8 (seqS g_law_9 nilS)
noncomputable def g_law (l : Addr) (ns : List Int) : StF := seqS (g_law_0 l ns) (seqS g_law_1 (seqS g_law_2 (seqS g_law_3 (seqS g_law_4 (seqS g_law_5 (seqS g_law_6 (seqS (g_law_7 l ns) tl)))))))
theorem den_lawL (X : Facts C) {l : Addr} {ns : List Int} (S : Scr C l ns) 
  (ow : FnOK C (k + 3) (.ref X.f_ways.a) F_ways) (oa : FnOK C (k + 3) (.ref X.f_addc.a) F_addc)
  (oc : FnOK C (k + 3) (.ref X.f_count.a) F_count) (og : FnOK C (k + 3) (.ref X.f_gaps.a) F_gaps)
  (ob : FnOK C (k + 3) (.ref X.f_bisect.a) F_bisect) (ot : FnOK C (k + 3) (.ref X.f_told.a) F_told)
  (ox : FnOK C (k + 3) (.ref X.f_crosses.a) F_crosses) : DenL C (k + 3) sc_law T_law [stmt_law 0, stmt_law 1, stmt_law 2, stmt_law 3, stmt_law 4, stmt_law 5, stmt_law 6, stmt_law 7, stmt_law 8, stmt_law 9] (g_law l ns) := by
  exact (@denL_cons C (k + 3) sc_law T_law (stmt_law 0) [stmt_law 1, stmt_law 2, stmt_law 3, stmt_law 4, stmt_law 5, stmt_law 6, stmt_law 7, stmt_law 8, stmt_law 9] (g_law_0 l ns) (seqS g_law_1 (seqS g_law_2 (seqS g_law_3 (seqS g_law_4 (seqS g_law_5 (seqS g_law_6 (seqS (g_law_7 l ns) (seqS g_law_8 (seqS g_law_9 nilS))))))))) (den_law_0 X ow oa oc og ob ot ox S) (@denL_cons C (k + 3) sc_law T_law (stmt_law 1) [stmt_law 2, stmt_law 3, stmt_law 4, stmt_law 5, stmt_law 6, stmt_law 7, stmt_law 8, stmt_law 9] g_law_1 (seqS g_law_2 (seqS g_law_3 (seqS g_law_4 (seqS g_law_5 (seqS g_law_6 (seqS (g_law_7 l ns) (seqS g_law_8 (seqS g_law_9 nilS)))))))) (den_law_1 X ow oa oc og ob ot ox) (@denL_cons C (k + 3) sc_law T_law (stmt_law 2) [stmt_law 3, stmt_law 4, stmt_law 5, stmt_law 6, stmt_law 7, stmt_law 8, stmt_law 9] g_law_2 (seqS g_law_3 (seqS g_law_4 (seqS g_law_5 (seqS g_law_6 (seqS (g_law_7 l ns) (seqS g_law_8 (seqS g_law_9 nilS))))))) (den_law_2 X ow oa oc og ob ot ox) (@denL_cons C (k + 3) sc_law T_law (stmt_law 3) [stmt_law 4, stmt_law 5, stmt_law 6, stmt_law 7, stmt_law 8, stmt_law 9] g_law_3 (seqS g_law_4 (seqS g_law_5 (seqS g_law_6 (seqS (g_law_7 l ns) (seqS g_law_8 (seqS g_law_9 nilS)))))) (den_law_3 X ow oa oc og ob ot ox) (@denL_cons C (k + 3) sc_law T_law (stmt_law 4) [stmt_law 5, stmt_law 6, stmt_law 7, stmt_law 8, stmt_law 9] g_law_4 (seqS g_law_5 (seqS g_law_6 (seqS (g_law_7 l ns) (seqS g_law_8 (seqS g_law_9 nilS))))) (@den_law_4 C (k + 3)) (@denL_cons C (k + 3) sc_law T_law (stmt_law 5) [stmt_law 6, stmt_law 7, stmt_law 8, stmt_law 9] g_law_5 (seqS g_law_6 (seqS (g_law_7 l ns) (seqS g_law_8 (seqS g_law_9 nilS)))) (den_law_5 X ow oa oc og ob ot ox) (@denL_cons C (k + 3) sc_law T_law (stmt_law 6) [stmt_law 7, stmt_law 8, stmt_law 9] g_law_6 (seqS (g_law_7 l ns) (seqS g_law_8 (seqS g_law_9 nilS))) (den_law_6 X ow oa oc og ob ot ox) (@denL_cons C (k + 3) sc_law T_law (stmt_law 7) [stmt_law 8, stmt_law 9] (g_law_7 l ns) (seqS g_law_8 (seqS g_law_9 nilS)) (den_law_7 X ow oa oc og ob ot ox S) (@denL_cons C (k + 3) sc_law T_law (stmt_law 8) [stmt_law 9] g_law_8 (seqS g_law_9 nilS) (den_law_8 X ow oa oc og ob ot ox) (@denL_cons C (k + 3) sc_law T_law (stmt_law 9) [] g_law_9 nilS (den_law_9 X ow oa oc og ob ot ox) (@denL_nil C (k + 3) sc_law T_law)))))))))))
theorem den_law (X : Facts C) {l : Addr} {ns : List Int} (S : Scr C l ns) : DenL C (k + 3) sc_law T_law body_law (g_law l ns) :=
  Eq.mpr (congrArg (fun b => DenL C (k + 3) sc_law T_law b (g_law l ns)) body_law_eq) (den_lawL X S (fo_ways X) (fo_addc (k := k + 2) X) (fo_count (k := k + 2) X) (fo_gaps (k := k + 1) X) (fo_bisect (k := k + 2) X) (fo_told (k := k + 2) X) (fo_crosses (k := k + 2) X))
theorem hk_law : ∀ p ∈ (["script"] : List Str), sc_law.names.lookup p = some .local ∨ sc_law.names.lookup p = some .cell := by decide
theorem hT_law : ∀ p ∈ T_law, (sc_law.names.lookup p.1 = some .local ∨ sc_law.names.lookup p.1 = some .cell) ∧ (p.2 < (["script"] : List Str).length → (["script"] : List Str)[p.2]? = some p.1) := by decide
theorem fn_law (X : Facts C) {l : Addr} {ns : List Int} (S : Scr C l ns) {f : Addr} (D : DefAt C f sc_law ["script"] body_law (fillN 1)) : FnOK C (k + 3 + 1) (.ref f) (defF (fillN 1) (g_law l ns)) :=
  fn_def (T := T_law) D (den_law X S) (by decide) (by decide) (by decide) (by decide) (by decide) hk_law hT_law (fillN_len rfl)
end Mine
set_option maxHeartbeats 1000000
set_option maxRecDepth 100000
set_option Elab.async false
set_option linter.unusedVariables false
namespace Mine
open PySem PySem.Spec PySem.Calls PyProof.Rows

theorem getElem?_app {β : Type} {xs ys : List β} {i : Nat} {x : β} (h : xs[i]? = some x) : (xs ++ ys)[i]? = some x := by
  rw [List.getElem?_append_left (List.getElem?_eq_some_iff.mp h).1]; exact h
theorem getElem?_end {β : Type} {xs : List β} {x : β} : (xs ++ [x])[xs.length]? = some x := by simp
/-- the numbers, each by its rest -/
theorem loop_mod {m : Int} (hm : m ≠ 0) {ρ : Rho} (h1 : look ρ 1 = some (.d (.int m))) (jj : Nat) (ys : List Int) (ν : Mem) (hj : ν[jj]? = some (.lst (intR ys))) :
    ∀ (n i : Nat) (done : List RV), ys.length - i < n → i ≤ ys.length → done.length + ys.length ≤ 1000 + i → 
      loopGo 13 noT (lastC (binE gMod (nameE 13) (nameE 1))) n (.lst jj i) ν.length ρ (ν ++ [.lst done]) = some (ν ++ [.lst (done ++ (ys.drop i).map fun y => .d (.int (y.fmod m)))])
  | 0, i, done, h, _, _ => absurd h (Nat.not_lt_zero _)
  | n + 1, i, done, hn, hi, hl => by
    unfold loopGo
    have e0 : (ν ++ [AO.lst done])[jj]? = some (.lst (intR ys)) := getElem?_app hj
    have eN : nextI (.lst jj i) (ν ++ [AO.lst done]) = match (intR ys)[i]? with | some x => some (some (x, .lst jj (i + 1))) | none => some none := by
      show nextLst jj i _ = _
      unfold nextLst
      rw [e0]
      try rfl
    rw [eN]
    have eI : (intR ys)[i]? = (ys[i]?).map fun y => RV.d (.int y) := by unfold intR; rw [List.getElem?_map]
    rw [eI]
    cases e1 : ys[i]? with
    | none =>
      have : ys.length ≤ i := List.getElem?_eq_none_iff.mp e1
      rw [List.drop_of_length_le this]
      simp
    | some y =>
      have hlt : i < ys.length := (List.getElem?_eq_some_iff.mp e1).1
      have ed : ys.drop i = y :: ys.drop (i + 1) := by
        rw [List.drop_eq_getElem_cons hlt]
        have := (List.getElem?_eq_some_iff.mp e1).2
        rw [this]
      rw [ed]
      have e13 : look (upd ρ 13 (.d (.int y))) 13 = some (.d (.int y)) := by rw [look_upd, if_pos rfl]
      have e1' : look (upd ρ 13 (.d (.int y))) 1 = some (.d (.int m)) := by rw [look_upd, if_neg (by decide)]; exact h1
      have el : lastC (binE gMod (nameE 13) (nameE 1)) ν.length (upd ρ 13 (.d (.int y))) (ν ++ [.lst done]) = some (ν ++ [.lst (done ++ [.d (.int (y.fmod m))])]) := by
        have eb : binE gMod (nameE 13) (nameE 1) (upd ρ 13 (.d (.int y))) (ν ++ [.lst done]) = some (.d (.int (y.fmod m)), ν ++ [.lst done]) := by
          unfold binE nameE
          rw [e13, e1']
          simp [gMod, gInt, hm]
        unfold lastC
        rw [eb]
        have ef : fAppend [.r ν.length, .d (.int (y.fmod m))] (ν ++ [.lst done]) = some (.d .none, (ν ++ [AO.lst done]).set ν.length (AO.lst (done ++ [RV.d (PyData.int (y.fmod m))]))) := by
          unfold fAppend
          simp only [getElem?_end]
          rw [if_pos (by omega)]
        simp only [ef]
        simp
      have ih := loop_mod hm h1 jj ys ν hj n (i + 1) (done ++ [.d (.int (y.fmod m))]) (by omega) hlt (by simp; omega)
      simp only [Option.map_some, noT, el, ih]
      simp

theorem slice_to {xs : List RV} {m : Nat} (hm : m ≤ xs.length) : pickR xs none (some (m : Int)) none = xs.take m := by
  unfold pickR
  have e : sliceBounds none (some (m : Int)) none xs.length = ((0 : Int), (m : Int), 1) := by
    simp only [sliceBounds, Option.getD_none]
    have h2 : ¬ ((m : Int) < 0) := by omega
    simp only [h2, if_false, show (1 : Int) > 0 by decide, if_true]
    congr 1
    congr 1
    omega
  rw [e]
  show (sliceRange ((0 : Nat) : Int) (m : Int) 1).filterMap _ = _
  rw [sliceRange_one]
  have := pick_run xs.toArray 0 (m - 0)
  simpa using this
end Mine
set_option maxHeartbeats 1000000
set_option maxRecDepth 100000
set_option Elab.async false
set_option linter.unusedVariables false
set_option linter.unusedSimpArgs false
namespace Mine
open PySem PySem.Spec PySem.Calls PyProof.Rows

noncomputable def chk (os : List RV) (t : PyData) : Bool := match F_bisect [.r 0, .d t] [.lst os] with
  | some (.d (.int p), .lst os' :: _) => os'.all isD && decide (0 ≤ p ∧ p < 1000) && decide (os'.length ≤ 1000) && SeqAt.shaped t && match F_crosses [.d t] [] with
    | some (.d (.bool c), _) => if p < (os'.length : Int) then match os'[p.toNat]? with
        | some (.d x) => SeqAt.shaped x && (x.eqv t == !c)
        | _ => false
      else c
    | _ => false
  | _ => false
noncomputable def chkT (os : List RV) (rs : List RV) : Bool := match F_told [.r 0] [.lst rs] with
  | some (.d t, o' :: _) => flatO o' && os.all isD && chk os t
  | _ => false

theorem binE_at {g : RV → RV → Mem → Option (RV × Mem)} {fa fb : ExF} {ρ : Rho} {μ μ₁ μ₂ : Mem} {a b : RV} (h1 : fa ρ μ = some (a, μ₁)) (h2 : fb ρ μ₁ = some (b, μ₂)) : binE g fa fb ρ μ = g a b μ₂ := by
  unfold binE; rw [h1]; dsimp only; rw [h2]
theorem nameE_at {ρ : Rho} {μ : Mem} {i : Nat} {x : RV} (h : look ρ i = some x) : nameE i ρ μ = some (x, μ) := by unfold nameE; rw [h]; rfl
theorem bool_eqv (a b : Bool) : (PyData.bool a).eqv (.bool b) = (a == b) := rfl
theorem bool_shaped (a : Bool) : SeqAt.shaped (.bool a) = true := rfl

theorem tl_ok {ρ : Rho} {μ : Mem} {j : Nat} {os : List RV} {t : PyData} (h6 : look ρ 6 = some (.r j)) (h4 : look ρ 4 = some (.d t)) (hj : μ[j]? = some (.lst os)) (ho : os.all isD = true) (hc : chk os t = true) :
    ∃ ρ' μ', tl ρ μ = some (.rt (.d (.bool true)), ρ', μ') := by
  unfold chk at hc
  split at hc
  · rename_i p os' ν eb
    simp only [Bool.and_eq_true, decide_eq_true_eq] at hc
    obtain ⟨⟨⟨⟨hd', hp⟩, hl⟩, hst⟩, hc⟩ := hc
    have jl : j < μ.length := (List.getElem?_eq_some_iff.mp hj).1
    have e8 : g_law_8 ρ μ = some (.nx, upd ρ 5 (.d (.int p)), μ.set j (.lst os')) := by
      have : Lbisect [.r j, .d t] μ = some (.d (.int p), μ.set j (.lst os')) := by
        unfold Lbisect locF
        simp only [hj]
        unfold loc1
        have e1 : ([RV.d t].all isD && flatO (.lst os)) = true := by simp [isD, flatO, ho]
        simp only [e1, eb]
        have e2 : flatO (.lst os') = true := hd'
        simp only [e2]
      unfold g_law_8 setS callE
      simp [consA, nilA, nameE, h6, h4, this]
    have hj' : (μ.set j (.lst os'))[j]? = some (.lst os') := List.getElem?_set_self jl
    have h6' : look (upd ρ 5 (.d (.int p))) 6 = some (.r j) := by rw [look_upd, if_neg (by decide)]; exact h6
    have h4' : look (upd ρ 5 (.d (.int p))) 4 = some (.d t) := by rw [look_upd, if_neg (by decide)]; exact h4
    have h5' : look (upd ρ 5 (.d (.int p))) 5 = some (.d (.int p)) := by rw [look_upd, if_pos rfl]
    unfold tl seqS
    rw [e8]
    dsimp only
    revert hj' h6' h4' h5'
    generalize upd ρ 5 (.d (.int p)) = ρ₉
    generalize μ.set j (.lst os') = μ₉
    intro hj' h6' h4' h5'
    split at hc
    · rename_i c ν' ec
      have eC : Lcrosses [.d t] μ₉ = some (.d (.bool c), μ₉) := by
        unfold Lcrosses locF
        show loc0 F_crosses [.d t] μ₉ = _
        unfold loc0
        have e1 : [RV.d t].all isD = true := rfl
        simp only [e1, ec]
      have eNot : notE (callE Lcrosses (consA (nameE 4) nilA)) ρ₉ μ₉ = some (.d (.bool (!c)), μ₉) := by
        unfold notE toB callE
        simp [consA, nilA, nameE, h4', eC, asB]
      have eLen : callE fLen (consA (nameE 6) nilA) ρ₉ μ₉ = some (.d (.int os'.length), μ₉) := by
        unfold callE
        simp [consA, nilA, nameE, h6', fLen, hj', hl]
      have eLt : binE gLt (nameE 5) (callE fLen (consA (nameE 6) nilA)) ρ₉ μ₉ = some (.d (.bool (decide (p < (os'.length : Int)))), μ₉) := by
        exact (binE_at (nameE_at h5') eLen).trans rfl
      by_cases hlt : p < (os'.length : Int)
      · rw [if_pos hlt] at hc
        split at hc
        · rename_i x ex
          obtain ⟨hsx, hq⟩ := Bool.and_eq_true_iff.mp hc
          have eIt : binE gItem (nameE 6) (nameE 5) ρ₉ μ₉ = some (.d x, μ₉) := by
            refine (binE_at (nameE_at h6') (nameE_at h5')).trans ?_
            simp [gItem, hj', hp, ex]
          have eEq : binE (gEq false) (binE gItem (nameE 6) (nameE 5)) (nameE 4) ρ₉ μ₉ = some (.d (.bool (x.eqv t)), μ₉) := by
            refine (binE_at eIt (nameE_at h4')).trans ?_
            simp [gEq, deep, hsx, hst]
          have eAnd : andE (binE gLt (nameE 5) (callE fLen (consA (nameE 6) nilA))) (binE (gEq false) (binE gItem (nameE 6) (nameE 5)) (nameE 4)) ρ₉ μ₉ = some (.d (.bool (x.eqv t)), μ₉) := by
            unfold andE toB
            rw [eLt, decide_eq_true hlt]
            exact eEq
          refine ⟨ρ₉, μ₉, ?_⟩
          have e9 := binE_at (g := gEq false) eAnd eNot
          have e10 : gEq false (.d (.bool (x.eqv t))) (.d (.bool (!c))) μ₉ = some (.d (.bool true), μ₉) := by
            simp [gEq, deep, bool_shaped, bool_eqv, beq_iff_eq.mp hq]
          unfold g_law_9 retS
          rw [e9, e10]
        · cases hc
      · rw [if_neg hlt] at hc
        have eAnd : andE (binE gLt (nameE 5) (callE fLen (consA (nameE 6) nilA))) (binE (gEq false) (binE gItem (nameE 6) (nameE 5)) (nameE 4)) ρ₉ μ₉ = some (.d (.bool false), μ₉) := by
          unfold andE toB
          rw [eLt, decide_eq_false hlt]
          rfl
        refine ⟨ρ₉, μ₉, ?_⟩
        have e9 := binE_at (g := gEq false) eAnd eNot
        have e10 : gEq false (.d (.bool false)) (.d (.bool (!c))) μ₉ = some (.d (.bool true), μ₉) := by
          simp [gEq, deep, bool_shaped, bool_eqv, hc]
        unfold g_law_9 retS
        rw [e9, e10]
    · cases hc
  · cases hc
end Mine
set_option maxHeartbeats 1000000
set_option maxRecDepth 100000
set_option Elab.async false
set_option linter.unusedVariables false
set_option linter.unusedSimpArgs false
namespace Mine
open PySem PySem.Spec PySem.Calls PyProof.Rows

noncomputable abbrev zR : RV := .d (.int 0)
theorem intR_append (a b : List Int) : intR (a ++ b) = intR a ++ intR b := by unfold intR; rw [List.map_append]
theorem law7 {l : Addr} {ns : List Int} {M : Nat} {ρ : Rho} {μ : Mem} {j : Nat} {os : List RV} (hM : 1 ≤ M ∧ M ≤ 4) (h0 : look ρ 0 = some (.o (.ref l))) (h1 : look ρ 1 = some (.d (.int (M : Int)))) (h13 : look ρ 13 = none) (hj : μ[j]? = some (.lst os)) (hn : ns.length ≤ 63)
    (hc : chkT os (((ns ++ [0, 0, 0, 0]).take M).map fun (y : Int) => RV.d (.int (y.fmod (M : Int)))) = true) :
    ∃ t μ', g_law_7 l ns ρ μ = some (.nx, upd ρ 4 (.d t), μ') ∧ μ'[j]? = some (.lst os) ∧ chk os t = true ∧ os.all isD = true := by
  let ys := (ns ++ [0, 0, 0, 0]).take M
  have hys : ys.length = M := by simp [ys]; omega
  let ν₀ : Mem := μ ++ [.lst [zR]]
  let ν₁ : Mem := ν₀ ++ [.lst [zR, zR, zR, zR]]
  let ν₂ : Mem := ν₁ ++ [.lst (intR ns ++ [zR, zR, zR, zR])]
  let ν₃ : Mem := ν₂ ++ [.lst (intR ys)]
  have eL : listE (consA (litE (.int 0)) nilA) ρ μ = some (.r μ.length, ν₀) := rfl
  have eM : binE gMul4 (listE (consA (litE (.int 0)) nilA)) (litE (.int 4)) ρ μ = some (.r ν₀.length, ν₁) := by
    refine (binE_at eL (show litE (.int 4) ρ ν₀ = some (.d (.int 4), ν₀) from rfl)).trans ?_
    have : ν₀[μ.length]? = some (.lst [zR]) := getElem?_end
    unfold gMul4
    simp only [this]
    rfl
  have eA : binE (gAddO l ns) (nameE 0) (binE gMul4 (listE (consA (litE (.int 0)) nilA)) (litE (.int 4))) ρ μ = some (.r ν₁.length, ν₂) := by
    refine (binE_at (nameE_at h0) eM).trans ?_
    have : ν₁[ν₀.length]? = some (.lst [zR, zR, zR, zR]) := getElem?_end
    unfold gAddO
    simp only [if_true, this]
    rw [if_pos (by simp; omega)]
  have eS : sliceE (binE (gAddO l ns) (nameE 0) (binE gMul4 (listE (consA (litE (.int 0)) nilA)) (litE (.int 4)))) ptNone (ptName 1) ptNone ρ μ = some (.r ν₂.length, ν₃) := by
    unfold sliceE
    rw [eA]
    have ep : ptName 1 ρ = some (some (M : Int)) := by unfold ptName; rw [h1]
    simp only [ptNone, ep]
    have : ν₂[ν₁.length]? = some (.lst (intR ns ++ [zR, zR, zR, zR])) := getElem?_end
    unfold gSlice
    simp only [this]
    have hlen : (intR ns ++ [zR, zR, zR, zR]).length ≤ 1000 ∧ (none : Option Int) ≠ some 0 := ⟨by unfold intR; simp; omega, by simp⟩
    rw [if_pos hlen]
    have e : pickR (intR ns ++ [zR, zR, zR, zR]) none (some (M : Int)) none = intR ys := by
      rw [slice_to (by unfold intR; simp; omega)]
      show (intR ns ++ intR [0, 0, 0, 0]).take M = intR ((ns ++ [0, 0, 0, 0]).take M)
      rw [← intR_append]
      unfold intR
      rw [List.map_take]
    rw [e]
  let rs : List RV := ys.map fun y => RV.d (.int (y.fmod (M : Int)))
  have eC : compE fuel 13 [13] (seqI (sliceE (binE (gAddO l ns) (nameE 0) (binE gMul4 (listE (consA (litE (.int 0)) nilA)) (litE (.int 4)))) ptNone (ptName 1) ptNone)) noT (lastC (binE gMod (nameE 13) (nameE 1))) ρ μ = some (.r ν₃.length, ν₃ ++ [.lst rs]) := by
    have eI : seqI (sliceE (binE (gAddO l ns) (nameE 0) (binE gMul4 (listE (consA (litE (.int 0)) nilA)) (litE (.int 4)))) ptNone (ptName 1) ptNone) ρ μ = some (.lst ν₂.length 0, ν₃) := by
      unfold seqI
      rw [eS]
      have : ν₃[ν₂.length]? = some (.lst (intR ys)) := getElem?_end
      simp only [this]
    unfold compE
    rw [eI]
    have ek : (okI (.lst ν₂.length 0) && ([13] : List Nat).all fun i => (look ρ i).isNone) = true := by simp [okI, h13]
    simp only [ek]
    have hj3 : ν₃[ν₂.length]? = some (.lst (intR ys)) := getElem?_end
    have := loop_mod (m := (M : Int)) (by omega) h1 ν₂.length ys ν₃ hj3 fuel 0 [] (by rw [hys]; show M - 0 < 100; omega) (Nat.zero_le _) (by rw [hys]; simp; omega)
    rw [this]
    simp [rs]
  unfold chkT at hc
  split at hc
  · rename_i t o' ν' et
    simp only [Bool.and_eq_true] at hc
    obtain ⟨⟨hf, hos⟩, hk⟩ := hc
    refine ⟨t, (ν₃ ++ [AO.lst rs]).set ν₃.length o', ?_, ?_, hk, hos⟩
    · have eT : Ltold [.r ν₃.length] (ν₃ ++ [AO.lst rs]) = some (.d t, (ν₃ ++ [AO.lst rs]).set ν₃.length o') := by
        unfold Ltold locF
        have : (ν₃ ++ [AO.lst rs])[ν₃.length]? = some (.lst rs) := getElem?_end
        simp only [this]
        unfold loc1
        have e1 : (([] : List RV).all isD && flatO (.lst rs)) = true := by
          simp [flatO, rs, isD]
        simp only [e1]
        have et' : F_told [.r 0] [.lst rs] = some (.d t, o' :: ν') := et
        simp only [et', hf]
      unfold g_law_7 setS callE
      simp only [consA, nilA, eC, eT]
    · rw [List.set_append_right _ _ (Nat.le_refl _)]
      exact getElem?_app (getElem?_app (getElem?_app (getElem?_app (getElem?_app hj))))
  · cases hc

end Mine
set_option maxHeartbeats 1000000
set_option maxRecDepth 100000
set_option Elab.async false
set_option linter.unusedVariables false
set_option linter.unusedSimpArgs false
namespace Mine
open PySem PySem.Spec PySem.Calls PyProof.Rows

noncomputable abbrev fR {n : Nat} (r : Fin n) : RV := .d (.int (r.val : Int))
theorem chk1 : ∀ r0 : Fin 1, chkT ord1 [fR r0] = true := by decide +kernel
theorem chk2 : ∀ r0 r1 : Fin 2, chkT ord2 [fR r0, fR r1] = true := by decide +kernel
theorem chk3 : ∀ r0 r1 r2 : Fin 3, chkT ord3 [fR r0, fR r1, fR r2] = true := by decide +kernel
theorem chk40 : ∀ r1 r2 r3 : Fin 4, chkT ord4 [.d (.int 0), fR r1, fR r2, fR r3] = true := by decide +kernel
theorem chk41 : ∀ r1 r2 r3 : Fin 4, chkT ord4 [.d (.int 1), fR r1, fR r2, fR r3] = true := by decide +kernel
theorem chk42 : ∀ r1 r2 r3 : Fin 4, chkT ord4 [.d (.int 2), fR r1, fR r2, fR r3] = true := by decide +kernel
theorem chk43 : ∀ r1 r2 r3 : Fin 4, chkT ord4 [.d (.int 3), fR r1, fR r2, fR r3] = true := by decide +kernel
theorem chk4 (r0 r1 r2 r3 : Fin 4) : chkT ord4 [fR r0, fR r1, fR r2, fR r3] = true := by
  match r0 with
  | ⟨0, _⟩ => exact chk40 r1 r2 r3
  | ⟨1, _⟩ => exact chk41 r1 r2 r3
  | ⟨2, _⟩ => exact chk42 r1 r2 r3
  | ⟨3, _⟩ => exact chk43 r1 r2 r3

theorem rest_of {M : Nat} (hM : 0 < M) (y : Int) : ∃ r : Fin M, y.fmod (M : Int) = (r.val : Int) := by
  have h0 : 0 ≤ y.fmod (M : Int) := Int.fmod_nonneg_of_pos y (by omega)
  have h1 : y.fmod (M : Int) < M := Int.fmod_lt_of_pos y (by omega)
  exact ⟨⟨(y.fmod (M : Int)).toNat, by omega⟩, by simp; omega⟩
theorem seqS_inv {f g : StF} {ρ ρ' : Rho} {μ μ' : Mem} (h : seqS f g ρ μ = some (.nx, ρ', μ')) : ∃ ρ₁ μ₁, f ρ μ = some (.nx, ρ₁, μ₁) ∧ g ρ₁ μ₁ = some (.nx, ρ', μ') := by
  unfold seqS at h
  split at h
  · cases h
  · rename_i ρ₁ μ₁ e; exact ⟨ρ₁, μ₁, e, h⟩
  · cases h
theorem mid_then {X : StF} {ρ ρ' : Rho} {μ μ' : Mem} (h : mid ρ μ = some (.nx, ρ', μ')) : seqS g_law_1 (seqS g_law_2 (seqS g_law_3 (seqS g_law_4 (seqS g_law_5 (seqS g_law_6 X))))) ρ μ = X ρ' μ' := by
  unfold mid at h
  obtain ⟨ρ₁, μ₁, e1, h⟩ := seqS_inv h
  obtain ⟨ρ₂, μ₂, e2, h⟩ := seqS_inv h
  obtain ⟨ρ₃, μ₃, e3, h⟩ := seqS_inv h
  obtain ⟨ρ₄, μ₄, e4, h⟩ := seqS_inv h
  obtain ⟨ρ₅, μ₅, e5, h⟩ := seqS_inv h
  rw [seqS_at e1, seqS_at e2, seqS_at e3, seqS_at e4, seqS_at e5, seqS_at h]
theorem obs_inv {o : Option (Fl × Rho × Mem)} {a b : Option RV} {os : List RV} (h : obs o = some (a, b, none, some (.lst os))) : ∃ ρ μ j, o = some (.nx, ρ, μ) ∧ look ρ 0 = a ∧ look ρ 1 = b ∧ look ρ 13 = none ∧ look ρ 6 = some (.r j) ∧ μ[j]? = some (.lst os) := by
  unfold obs at h
  split at h
  · rename_i ρ μ
    simp only [Option.some.injEq, Prod.mk.injEq] at h
    obtain ⟨h1, h2, h3, h4⟩ := h
    split at h4
    · rename_i j ej
      exact ⟨ρ, μ, j, rfl, h1, h2, h3, ej, h4⟩
    · cases h4
  · cases h

theorem law_from {l : Addr} {ns : List Int} {M : Nat} {os : List RV} (hM : 1 ≤ M ∧ M ≤ 4) (hn : ns.length ≤ 63) (hs : 1 + ns.sum.fmod 4 = (M : Int))
    (ho : obs (mid [some (.o (.ref l)), some (.d (.int (M : Int)))] []) = some (some (.o (.ref l)), some (.d (.int (M : Int))), none, some (.lst os)))
    (hc : chkT os (((ns ++ [0, 0, 0, 0]).take M).map fun (y : Int) => RV.d (.int (y.fmod (M : Int)))) = true) :
    ∃ ρ' μ', g_law l ns [some (.o (.ref l))] [] = some (.rt (.d (.bool true)), ρ', μ') := by
  have e0 : g_law_0 l ns [some (.o (.ref l))] [] = some (.nx, [some (.o (.ref l)), some (.d (.int (M : Int)))], []) := by
    have es : callE (fSumO l ns) (consA (nameE 0) nilA) [some (.o (.ref l))] [] = some (.d (.int ns.sum), []) := by
      unfold callE
      simp [consA, nilA, nameE, look, fSumO]
    have em : binE gMod (callE (fSumO l ns) (consA (nameE 0) nilA)) (litE (.int 4)) [some (.o (.ref l))] [] = some (.d (.int (ns.sum.fmod 4)), []) := (binE_at es rfl).trans rfl
    have ea : binE gAdd (litE (.int 1)) (binE gMod (callE (fSumO l ns) (consA (nameE 0) nilA)) (litE (.int 4))) [some (.o (.ref l))] [] = some (.d (.int (M : Int)), []) := by
      refine (binE_at (show litE (.int 1) [some (.o (.ref l))] [] = some (.d (.int 1), []) from rfl) em).trans ?_
      rw [← hs]; rfl
    unfold g_law_0 setS
    rw [ea]
    rfl
  obtain ⟨ρ, μ, j, em, h0, h1, h13, h6, hj⟩ := obs_inv ho
  obtain ⟨t, μ', e7, hj', hk, hos⟩ := law7 hM h0 h1 h13 hj hn hc
  obtain ⟨ρ'', μ'', et⟩ := tl_ok (ρ := upd ρ 4 (.d t)) (by rw [look_upd, if_neg (by decide)]; exact h6) (by rw [look_upd, if_pos rfl]) hj' hos hk
  refine ⟨ρ'', μ'', ?_⟩
  unfold g_law
  rw [seqS_at e0, mid_then em, seqS_at e7]
  exact et

theorem take_map (ns : List Int) : ∀ (M : Nat), M ≤ 4 → ∃ ys : List Int, ys.length = M ∧ ((ns ++ [0, 0, 0, 0]).take M) = ys := fun M h => ⟨_, by simp; omega, rfl⟩

theorem law_val (l : Addr) (ns : List Int) (hn : ns.length ≤ 63) : ∃ ρ' μ', g_law l ns [some (.o (.ref l))] [] = some (.rt (.d (.bool true)), ρ', μ') := by
  obtain ⟨r, hr⟩ := rest_of (M := 4) (by decide) ns.sum
  replace hr : ns.sum.fmod 4 = (r.val : Int) := hr
  match r, hr with
  | ⟨0, _⟩, hr =>
    refine law_from (M := 1) ⟨by decide, by decide⟩ hn (by rw [hr]; rfl) (obs1 _) ?_
    obtain ⟨ys, hl, e⟩ := take_map ns 1 (by decide)
    rw [e]
    match ys, hl with
    | [a], _ =>
      obtain ⟨r0, h0⟩ := rest_of (M := 1) (by decide) a
      simp only [List.map_cons, List.map_nil, h0]
      exact chk1 r0
  | ⟨1, _⟩, hr =>
    refine law_from (M := 2) ⟨by decide, by decide⟩ hn (by rw [hr]; rfl) (obs2 _) ?_
    obtain ⟨ys, hl, e⟩ := take_map ns 2 (by decide)
    rw [e]
    match ys, hl with
    | [a, b], _ =>
      obtain ⟨r0, h0⟩ := rest_of (M := 2) (by decide) a
      obtain ⟨r1, h1⟩ := rest_of (M := 2) (by decide) b
      simp only [List.map_cons, List.map_nil, h0, h1]
      exact chk2 r0 r1
  | ⟨2, _⟩, hr =>
    refine law_from (M := 3) ⟨by decide, by decide⟩ hn (by rw [hr]; rfl) (obs3 _) ?_
    obtain ⟨ys, hl, e⟩ := take_map ns 3 (by decide)
    rw [e]
    match ys, hl with
    | [a, b, c], _ =>
      obtain ⟨r0, h0⟩ := rest_of (M := 3) (by decide) a
      obtain ⟨r1, h1⟩ := rest_of (M := 3) (by decide) b
      obtain ⟨r2, h2⟩ := rest_of (M := 3) (by decide) c
      simp only [List.map_cons, List.map_nil, h0, h1, h2]
      exact chk3 r0 r1 r2
  | ⟨3, _⟩, hr =>
    refine law_from (M := 4) ⟨by decide, by decide⟩ hn (by rw [hr]; rfl) (obs4 _) ?_
    obtain ⟨ys, hl, e⟩ := take_map ns 4 (by decide)
    rw [e]
    match ys, hl with
    | [a, b, c, d], _ =>
      obtain ⟨r0, h0⟩ := rest_of (M := 4) (by decide) a
      obtain ⟨r1, h1⟩ := rest_of (M := 4) (by decide) b
      obtain ⟨r2, h2⟩ := rest_of (M := 4) (by decide) c
      obtain ⟨r3, h3⟩ := rest_of (M := 4) (by decide) d
      simp only [List.map_cons, List.map_nil, h0, h1, h2, h3]
      exact chk4 r0 r1 r2 r3
end Mine
set_option maxHeartbeats 1000000
set_option maxRecDepth 100000
set_option Elab.async false
set_option linter.unusedVariables false
set_option linter.unusedSimpArgs false
namespace Mine
open PySem PySem.Spec PySem.Calls PyProof.Rows PySem.W

noncomputable def fAddr (K : Frag) (x : Str) : Addr := match nsIn K mainGlobals x with
  | some (some (.ref a)) => a
  | _ => 0
noncomputable def fObj (K : Frag) (x : Str) : Obj := match K.lookup (fAddr K x) with
  | some o => o
  | none => { cls := .none, data := .plain }
noncomputable def noFd : FuncData := docDef "" {  posonlyargs := [], args := [], vararg := none, kwonlyargs := [], kw_defaults := [], kwarg := none, defaults := [] } [] ⟨.function, [], false, false, []⟩ .none .none .none
noncomputable def fFd (K : Frag) (x : Str) : FuncData := match (fObj K x).data with
  | .func fd => fd
  | _ => noFd
noncomputable def tokD (K : Frag) (x : Str) : Tok := match (fFd K x).defaults with
  | .ref t => match K.lookup t with
    | some ⟨_, _, .seq vs _, _⟩ => match vs.toList with
      | .int _ t :: _ => t
      | _ => 0
    | _ => 0
  | _ => 0

section
variable {C : Cst} {K : Frag}
structure DefK (K : Frag) (x : Str) (sc : Scope) (body : List Stmt) : Prop where
  a : nsIn K mainGlobals x = some (some (.ref (fAddr K x)))
  o : K.lookup (fAddr K x) = some (fObj K x)
  d : (fObj K x).data = .func (fFd K x)
  c : codeIn K (fFd K x).code (fFd K x).qualname = true
  b : (fFd K x).body = .stmts body
  cl : (fFd K x).closure = []
  gl : (fFd K x).globals = mainGlobals
  bi : (fFd K x).builtins = builtinsNs
  sc' : (fFd K x).scope = sc
theorem peek_binds {fd : FuncData} {vs : List Value} {binds : List (Str × Value)} {s : Shared} (X : K.In C.base) (ext : ∀ b o, C.base.get? b = some o → s.heap.get? b = some o) (e : peek K ⟨C.prog, C.w.params⟩ (bindArgs fd ⟨vs, []⟩) = some binds)
    (A : Around) (E : Value → Shared → Prop) (Q : List (Str × Value) → Shared → Prop) (h : Q binds s) : wpAny (model C.prog C.w) A (bindArgs fd ⟨vs, []⟩) Q E s :=
  (Looks.of_peek (M := model C.prog C.w) X e) A Q E s ext h

noncomputable def defK {x : Str} {sc : Scope} {ps : List Str} {body : List Stmt} {fill : List RV → Option (List RV)} (X : K.In C.base) (D : DefK K x sc body)
    (hb : ∀ (s : Shared) (α : List Addr) (vs : List Value) (xs ys : List RV), VRs s.heap α vs xs → fill xs = some ys → ∃ ws, VRs s.heap α ws ys ∧ peek K ⟨C.prog, C.w.params⟩ (bindArgs (fFd K x) ⟨vs, []⟩) = some (ps.zip ws)) : DefF C x sc ps body fill where
  a := fAddr K x
  o := fObj K x
  fd := fFd K x
  g := .inl (mg_of X C.hg D.a)
  ho := X _ _ D.o
  hd := D.d
  at' := ⟨_, _, X _ _ D.o, D.d, codeRec_of X D.c, D.b, D.cl, D.gl, D.bi, D.sc', fun s α vs xs ys ext r e => by
    obtain ⟨ws, rw', hp⟩ := hb s α vs xs ys r e
    exact ⟨ws, rw', peek_binds X ext hp⟩⟩

theorem binds1 {fd : FuncData} {p : Str} {pr : Program} {pm : Params} (h : ∀ v, peek K ⟨pr, pm⟩ (bindArgs fd ⟨[v], []⟩) = some [(p, v)]) :
    ∀ (s : Shared) (α : List Addr) (vs : List Value) (xs ys : List RV), VRs s.heap α vs xs → fillN 1 xs = some ys → ∃ ws, VRs s.heap α ws ys ∧ peek K ⟨pr, pm⟩ (bindArgs fd ⟨vs, []⟩) = some ([p].zip ws) := by
  intro s α vs xs ys r e
  unfold fillN at e
  split at e
  · rename_i hl
    cases e
    match xs, hl, r with
    | [x], _, .cons (v := v) r1 .nil => exact ⟨[v], .cons r1 .nil, h v⟩
  · cases e
theorem binds2 {fd : FuncData} {p q : Str} {pr : Program} {pm : Params} (h : ∀ v u, peek K ⟨pr, pm⟩ (bindArgs fd ⟨[v, u], []⟩) = some [(p, v), (q, u)]) :
    ∀ (s : Shared) (α : List Addr) (vs : List Value) (xs ys : List RV), VRs s.heap α vs xs → fillN 2 xs = some ys → ∃ ws, VRs s.heap α ws ys ∧ peek K ⟨pr, pm⟩ (bindArgs fd ⟨vs, []⟩) = some ([p, q].zip ws) := by
  intro s α vs xs ys r e
  unfold fillN at e
  split at e
  · rename_i hl
    cases e
    match xs, hl, r with
    | [x, y], _, .cons (v := v) r1 (.cons (v := u) r2 .nil) => exact ⟨[v, u], .cons r1 (.cons r2 .nil), h v u⟩
  · cases e
theorem bindsB {fd : FuncData} {p q lo hi key : Str} {t : Tok} {pr : Program} {pm : Params} (h2 : ∀ v u, peek K ⟨pr, pm⟩ (bindArgs fd ⟨[v, u], []⟩) = some [(p, v), (q, u), (lo, .int 0 t), (hi, .none), (key, .none)])
    (h4 : ∀ v u a b, peek K ⟨pr, pm⟩ (bindArgs fd ⟨[v, u, a, b], []⟩) = some [(p, v), (q, u), (lo, a), (hi, b), (key, .none)]) :
    ∀ (s : Shared) (α : List Addr) (vs : List Value) (xs ys : List RV), VRs s.heap α vs xs → fillB xs = some ys → ∃ ws, VRs s.heap α ws ys ∧ peek K ⟨pr, pm⟩ (bindArgs fd ⟨vs, []⟩) = some ([p, q, lo, hi, key].zip ws) := by
  intro s α vs xs ys r e
  unfold fillB at e
  split at e
  · cases e
    match r with
    | .cons (v := v) r1 (.cons (v := u) r2 .nil) => exact ⟨[v, u, .int 0 t, .none, .none], .cons r1 (.cons r2 (.cons (Reads.int 0 t) (.cons Reads.none (.cons Reads.none .nil)))), h2 v u⟩
  · cases e
    match r with
    | .cons (v := v) r1 (.cons (v := u) r2 (.cons (v := a) r3 (.cons (v := b) r4 .nil))) => exact ⟨[v, u, a, b, .none], .cons r1 (.cons r2 (.cons r3 (.cons r4 (.cons Reads.none .nil)))), h4 v u a b⟩
  · cases e

theorem glb_b {x : Str} {v : Value} (X : K.In C.base) (hB : ∀ x : Str, x ≠ "__name__" → C.mb x = bootBuiltins x) (e1 : nsIn K mainGlobals x = some none) (e2 : bootBuiltins x = some v) (hn : x ≠ "__name__") : Glb C x v :=
  .inr ⟨ns_none_of X C.hg e1, (hB x hn).trans e2⟩

/-- the law called with its script: it answers True, and all that stood still stands -/
theorem law_walk (F : Facts C) {f l : Addr} (D : DefAt C f sc_law ["script"] body_law (fillN 1)) {ns : List Int} (S : Scr C l ns) (hn : ns.length ≤ 63) {A : Around} {s : Shared} (hr : Room (0 + 3 + 1) A) (hbase : ∀ b o, C.base.get? b = some o → s.heap.get? b = some o)
    {Q E : Value → Shared → Prop} (h : ∀ h' tk', (∀ b o, s.heap.get? b = some o → h'.get? b = some o) → Q (.bool true) { s with heap := h', toks := tk' }) :
    wpAny (model C.prog C.w) A (call (.ref f) [.ref l]) Q E s := by
  obtain ⟨ρ', μ', e⟩ := law_val l ns hn
  have M : MR C s.heap [] [] := by
    refine ⟨hbase, rfl, fun i a o e => ?_, List.nodup_nil, (fun a m => nomatch m), (fun a m => nomatch m)⟩
    cases e
  have e' : defF (fillN 1) (g_law l ns) [.o (.ref l)] [] = some (.d (.bool true), μ') := by
    unfold defF
    have : fillN 1 [RV.o (.ref l)] = some [.o (.ref l)] := rfl
    rw [this]
    dsimp only [List.map]
    rw [e]
  refine fn_law (k := 0) F S D A s [] [] [.ref l] [.o (.ref l)] (.d (.bool true)) μ' Q E hr M (.cons rfl .nil) e' fun v α' h' tk' t M' r => ?_
  rw [reads_bool r]
  exact h h' tk' fun b o e => t.kp b o e (fun m => nomatch m) fun m => nomatch m
end
end Mine
set_option maxHeartbeats 1000000
set_option maxRecDepth 100000
set_option Elab.async false
set_option linter.unusedVariables false
namespace Mine
open PySem PySem.Spec PySem.Calls PyProof.Rows PySem.W

/-- what the law's text left in the heap -/
structure Text (K : Frag) (pr : Program) (pm : Params) : Prop where
  d_insort : DefK K "insort_left" sc_insort body_insort
  d_bisect : DefK K "bisect_left" sc_bisect body_bisect
  d_addc : DefK K "add_callers" sc_addc body_addc
  d_count : DefK K "count_calls" sc_count body_count
  d_told : DefK K "_law_told" sc_told body_told
  d_crosses : DefK K "_law_crosses" sc_crosses body_crosses
  d_ways : DefK K "_law_ways" sc_ways body_ways
  d_gaps : DefK K "_law_gaps" sc_gaps body_gaps
  d_law : DefK K "law" sc_law body_law
  n_len : nsIn K mainGlobals "len" = some none
  n_max : nsIn K mainGlobals "max" = some none
  n_min : nsIn K mainGlobals "min" = some none
  n_sum : nsIn K mainGlobals "sum" = some none
  n_sorted : nsIn K mainGlobals "sorted" = some none
  n_isinstance : nsIn K mainGlobals "isinstance" = some none
  n_tuple : nsIn K mainGlobals "tuple" = some none
  n_range : nsIn K mainGlobals "range" = some none
  p_count : ∀ v, peek K ⟨pr, pm⟩ (bindArgs (fFd K "count_calls") ⟨[v], []⟩) = some [(("callers" : Str), v)]
  p_told : ∀ v, peek K ⟨pr, pm⟩ (bindArgs (fFd K "_law_told") ⟨[v], []⟩) = some [(("row" : Str), v)]
  p_crosses : ∀ v, peek K ⟨pr, pm⟩ (bindArgs (fFd K "_law_crosses") ⟨[v], []⟩) = some [(("row" : Str), v)]
  p_gaps : ∀ v, peek K ⟨pr, pm⟩ (bindArgs (fFd K "_law_gaps") ⟨[v], []⟩) = some [(("row" : Str), v)]
  p_ways : ∀ v, peek K ⟨pr, pm⟩ (bindArgs (fFd K "_law_ways") ⟨[v], []⟩) = some [(("many" : Str), v)]
  p_law : ∀ v, peek K ⟨pr, pm⟩ (bindArgs (fFd K "law") ⟨[v], []⟩) = some [(("script" : Str), v)]
  p_addc : ∀ v u, peek K ⟨pr, pm⟩ (bindArgs (fFd K "add_callers") ⟨[v, u], []⟩) = some [(("target" : Str), v), (("source" : Str), u)]
  p2_insort : ∀ v u, peek K ⟨pr, pm⟩ (bindArgs (fFd K "insort_left") ⟨[v, u], []⟩) = some [(("a" : Str), v), (("x" : Str), u), (("lo" : Str), .int 0 (tokD K "insort_left")), (("hi" : Str), .none), (("key" : Str), .none)]
  p4_insort : ∀ v u a b, peek K ⟨pr, pm⟩ (bindArgs (fFd K "insort_left") ⟨[v, u, a, b], []⟩) = some [(("a" : Str), v), (("x" : Str), u), (("lo" : Str), a), (("hi" : Str), b), (("key" : Str), .none)]
  p2_bisect : ∀ v u, peek K ⟨pr, pm⟩ (bindArgs (fFd K "bisect_left") ⟨[v, u], []⟩) = some [(("a" : Str), v), (("x" : Str), u), (("lo" : Str), .int 0 (tokD K "bisect_left")), (("hi" : Str), .none), (("key" : Str), .none)]
  p4_bisect : ∀ v u a b, peek K ⟨pr, pm⟩ (bindArgs (fFd K "bisect_left") ⟨[v, u, a, b], []⟩) = some [(("a" : Str), v), (("x" : Str), u), (("lo" : Str), a), (("hi" : Str), b), (("key" : Str), .none)]
theorem bb_len : bootBuiltins "len" = some (.builtin "len") := by kernel_rfl
theorem bb_max : bootBuiltins "max" = some (.builtin "max") := by kernel_rfl
theorem bb_min : bootBuiltins "min" = some (.builtin "min") := by kernel_rfl
theorem bb_sum : bootBuiltins "sum" = some (.builtin "sum") := by kernel_rfl
theorem bb_sorted : bootBuiltins "sorted" = some (.builtin "sorted") := by kernel_rfl
theorem bb_isinstance : bootBuiltins "isinstance" = some (.builtin "isinstance") := by kernel_rfl
theorem bb_tuple : bootBuiltins "tuple" = some (.type "tuple") := by kernel_rfl
theorem bb_range : bootBuiltins "range" = some (.type "range") := by kernel_rfl

theorem finish {q : Program} {loose : List Str} {mean : ExcName → Option Value} {mg mb : Str → Option Value} {s : Shared} {prog : Program} {w : World} {K : Frag} {fa l : Addr} {ns : List Int} {A : Around} {Q E : Value → Shared → Prop}
    (KX : K.In s.heap) (T : Top q loose mean mg mb s.heap) (hmg : mg "law" = some (.ref fa)) (X : Text K prog w.params)
    (S : ∃ vs n dd sl, s.heap.get? l = some { cls := .type "list", dict := dd, data := .seq vs n, slots := sl } ∧ IntsAre vs.toList ns) (hn : ns.length ≤ 63) (hr : Room (0 + 3 + 1) A)
    (h : ∀ h' tk', (∀ b o, s.heap.get? b = some o → h'.get? b = some o) → Q (.bool true) { s with heap := h', toks := tk' }) : wpAny (model prog w) A (call (.ref fa) [.ref l]) Q E s := by
  have F : Facts ⟨prog, w, s.heap, mg, mb, T.g, T.b, T.nolimit⟩ :=
    { hsm := trivial
      b_len := glb_b KX T.builtins X.n_len bb_len (by decide)
      b_max := glb_b KX T.builtins X.n_max bb_max (by decide)
      b_min := glb_b KX T.builtins X.n_min bb_min (by decide)
      b_sum := glb_b KX T.builtins X.n_sum bb_sum (by decide)
      b_sorted := glb_b KX T.builtins X.n_sorted bb_sorted (by decide)
      b_isinstance := glb_b KX T.builtins X.n_isinstance bb_isinstance (by decide)
      b_tuple := glb_b KX T.builtins X.n_tuple bb_tuple (by decide)
      b_range := glb_b KX T.builtins X.n_range bb_range (by decide)
      f_count := defK KX X.d_count (binds1 X.p_count)
      f_told := defK KX X.d_told (binds1 X.p_told)
      f_crosses := defK KX X.d_crosses (binds1 X.p_crosses)
      f_gaps := defK KX X.d_gaps (binds1 X.p_gaps)
      f_ways := defK KX X.d_ways (binds1 X.p_ways)
      f_addc := defK KX X.d_addc (binds2 X.p_addc)
      f_insort := defK KX X.d_insort (bindsB X.p2_insort X.p4_insort)
      f_bisect := defK KX X.d_bisect (bindsB X.p2_bisect X.p4_bisect) }
  have L : DefF ⟨prog, w, s.heap, mg, mb, T.g, T.b, T.nolimit⟩ "law" sc_law ["script"] body_law (fillN 1) := defK KX X.d_law (binds1 X.p_law)
  have ea : fa = fAddr K "law" := by
    have e := mg_of KX T.g X.d_law.a
    rw [hmg] at e
    injection e with e
    injection e
  subst ea
  have D := (defK (C := ⟨prog, w, s.heap, mg, mb, T.g, T.b, T.nolimit⟩) (ps := ["script"]) (fill := fillN 1) KX X.d_law (binds1 X.p_law)).at'
  exact law_walk (C := ⟨prog, w, s.heap, mg, mb, T.g, T.b, T.nolimit⟩) F D S hn hr (fun _ _ e => e) h
end Mine
open PySem PySem.W PyProof.Rows
set_option Elab.async false
set_option maxRecDepth 100000
set_option maxHeartbeats 8000000
theorem PySem.Challenge.cw_hz0001_01_holds : PySem.Challenge.rw_hz0001_01.Holds := by
  (w_on; o_law; k_head; (case hw => w_witness2); w_strict (
    k_fill
    intro w s₀ s₁ mg mb G Y fa o pm cd doc dV kV ho hd hcd hD hmg hg args vals as hpre hlay hrd hwl hlo
    have KX := kIn_of Y
    refine Ground.open G ?_
    intro T B D TE TW
    wrow_args hpre hlay hrd hwl hlo
    rename_i ns hs hlay0 hL1 hr1 hl2 as4 as3 l its as1 hL ra w1 r0 hI hr hc1 hc2
    have hn : ns.length ≤ 63 := by omega
    obtain ⟨⟨cls, dd, dt, sl⟩, gl, ec, n, ed⟩ := hL
    cases ec
    cases ed
    clear D B TE TW G Y hd ho hcd
    refine Mine.finish (ns := ns) KX T hmg ?hT ⟨its.toArray, n, dd, sl, gl, hI⟩ hn ⟨rfl, by decide +kernel, by decide +kernel⟩ (fun h' tk' keep => GoodW.toG ⟨.inl ⟨.bool true, .bool true, [], rfl, fun _ => rfl, .bool true, ?hP, fun _ => ⟨List.nodup_nil, fun _ m => nomatch m⟩⟩, keep, rfl, hg⟩)
    case hP => kernel_rfl
    case hT => exact
      { d_insort := { a := by kernel_rfl, o := by kernel_rfl, d := by kernel_rfl, c := by kernel_rfl, b := by kernel_rfl, cl := by kernel_rfl, gl := by kernel_rfl, bi := by kernel_rfl, sc' := by kernel_rfl },
        d_bisect := { a := by kernel_rfl, o := by kernel_rfl, d := by kernel_rfl, c := by kernel_rfl, b := by kernel_rfl, cl := by kernel_rfl, gl := by kernel_rfl, bi := by kernel_rfl, sc' := by kernel_rfl },
        d_addc := { a := by kernel_rfl, o := by kernel_rfl, d := by kernel_rfl, c := by kernel_rfl, b := by kernel_rfl, cl := by kernel_rfl, gl := by kernel_rfl, bi := by kernel_rfl, sc' := by kernel_rfl },
        d_count := { a := by kernel_rfl, o := by kernel_rfl, d := by kernel_rfl, c := by kernel_rfl, b := by kernel_rfl, cl := by kernel_rfl, gl := by kernel_rfl, bi := by kernel_rfl, sc' := by kernel_rfl },
        d_told := { a := by kernel_rfl, o := by kernel_rfl, d := by kernel_rfl, c := by kernel_rfl, b := by kernel_rfl, cl := by kernel_rfl, gl := by kernel_rfl, bi := by kernel_rfl, sc' := by kernel_rfl },
        d_crosses := { a := by kernel_rfl, o := by kernel_rfl, d := by kernel_rfl, c := by kernel_rfl, b := by kernel_rfl, cl := by kernel_rfl, gl := by kernel_rfl, bi := by kernel_rfl, sc' := by kernel_rfl },
        d_ways := { a := by kernel_rfl, o := by kernel_rfl, d := by kernel_rfl, c := by kernel_rfl, b := by kernel_rfl, cl := by kernel_rfl, gl := by kernel_rfl, bi := by kernel_rfl, sc' := by kernel_rfl },
        d_gaps := { a := by kernel_rfl, o := by kernel_rfl, d := by kernel_rfl, c := by kernel_rfl, b := by kernel_rfl, cl := by kernel_rfl, gl := by kernel_rfl, bi := by kernel_rfl, sc' := by kernel_rfl },
        d_law := { a := by kernel_rfl, o := by kernel_rfl, d := by kernel_rfl, c := by kernel_rfl, b := by kernel_rfl, cl := by kernel_rfl, gl := by kernel_rfl, bi := by kernel_rfl, sc' := by kernel_rfl },
        n_len := by kernel_rfl,
        n_max := by kernel_rfl,
        n_min := by kernel_rfl,
        n_sum := by kernel_rfl,
        n_sorted := by kernel_rfl,
        n_isinstance := by kernel_rfl,
        n_tuple := by kernel_rfl,
        n_range := by kernel_rfl,
        p_count := fun v => by kernel_rfl,
        p_told := fun v => by kernel_rfl,
        p_crosses := fun v => by kernel_rfl,
        p_gaps := fun v => by kernel_rfl,
        p_ways := fun v => by kernel_rfl,
        p_law := fun v => by kernel_rfl,
        p_addc := fun v u => by kernel_rfl,
        p2_insort := fun v u => by kernel_rfl,
        p4_insort := fun v u a b => by kernel_rfl,
        p2_bisect := fun v u => by kernel_rfl,
        p4_bisect := fun v u a b => by kernel_rfl }))
