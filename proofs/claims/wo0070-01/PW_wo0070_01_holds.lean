import PyProof.Rows.All
import Wide.All
import OpenK.AllK
import Wide.FinOn
import Lean
import PySem.Challenge.RW_wo0070_01
open PySem PySem.W PyProof.Rows
set_option Elab.async false
set_option linter.unusedVariables false
set_option linter.unusedSimpArgs false
section
namespace Mine
/-- the goal put by: what is split meanwhile is not written out again with it -/
theorem bc {G : Prop} (h : ¬ G → False) : G := Classical.byContradiction h
/-- abstract values -/
inductive AV where
  | none
  | bool (b : Bool)
  | int (i : Int)
  | str (s : List Nat)
  | tup (vs : List AV)
  | ref (i : Nat)
  | lint (xs : List Int)
  | rng (lo hi : Int)
/-- abstract objects that may change -/
inductive AO where
  | list (vs : List AV)
  | dict (n : Nat) (f : Int → Option AV)
  | inst (C : Addr) (d : Nat)
  | attrs (fs : List (String × AV))
noncomputable abbrev Hp := List AO
mutual
noncomputable def VR (h : Heap) (σ : List Addr) : AV → Value → Prop
  | .none, v => v = .none
  | .bool b, v => v = .bool b
  | .int i, v => ∃ t, v = .int i t
  | .str s, v => ∃ t, v = .str ⟨s.toArray⟩ t
  | .tup avs, v => ∃ a vs n, v = .ref a ∧ a ∉ σ ∧ h.get? a = some { cls := .type "tuple", data := .seq vs.toArray n } ∧ VRs h σ avs vs
  | .ref i, v => ∃ a, v = .ref a ∧ σ[i]? = some a
  | .lint xs, v => ∃ a vs, v = .ref a ∧ a ∉ σ ∧ h.IsList a vs.toArray ∧ IntsAre vs xs
  | .rng lo hi, v => ∃ a t u k, v = .ref a ∧ a ∉ σ ∧ IsRange h a lo hi 1 t u k
noncomputable def VRs (h : Heap) (σ : List Addr) : List AV → List Value → Prop
  | [], vs => vs = []
  | a :: r, vs => ∃ v vs', vs = v :: vs' ∧ VR h σ a v ∧ VRs h σ r vs'
end
/-- what never changes: sequences and ranges -/
noncomputable def Frz (o : Obj) : Prop := match o.data with
  | .seq .. => True
  | .fields _ => o.cls = .type "range"
  | _ => False
mutual
theorem VR.mono {h h' : Heap} {σ σ' : List Addr} (hk : ∀ b o, b ∉ σ → Frz o → h.get? b = some o → h'.get? b = some o ∧ b ∉ σ') (hs : σ <+: σ') :
    ∀ {av : AV} {v : Value}, VR h σ av v → VR h' σ' av v
  | .none, _, x => x
  | .bool _, _, x => x
  | .int _, _, x => x
  | .str _, _, x => x
  | .tup avs, _, x => by
    simp only [VR] at x ⊢
    obtain ⟨a, vs, n, rfl, ha, hg, hr⟩ := x
    obtain ⟨h1, h2⟩ := hk _ _ ha (by exact trivial) hg
    exact ⟨a, vs, n, rfl, h2, h1, VRs.mono hk hs hr⟩
  | .ref i, _, x => by
    simp only [VR] at x ⊢
    obtain ⟨a, rfl, ha⟩ := x
    exact ⟨a, rfl, by
      obtain ⟨t, rfl⟩ := hs
      obtain ⟨hi, _⟩ := List.getElem?_eq_some_iff.mp ha
      rw [List.getElem?_append_left hi]; exact ha⟩
  | .lint xs, _, x => by
    simp only [VR] at x ⊢
    obtain ⟨a, vs, rfl, ha, ⟨o, ho, hc, n, hd⟩, hi⟩ := x
    obtain ⟨h1, h2⟩ := hk _ _ ha (by unfold Frz; rw [hd]; trivial) ho
    exact ⟨a, vs, rfl, h2, ⟨o, h1, hc, n, hd⟩, hi⟩
  | .rng lo hi, _, x => by
    simp only [VR] at x ⊢
    obtain ⟨a, t, u, k, rfl, ha, hg⟩ := x
    obtain ⟨h1, h2⟩ := hk _ _ ha (by exact rfl) hg
    exact ⟨a, t, u, k, rfl, h2, h1⟩
theorem VRs.mono {h h' : Heap} {σ σ' : List Addr} (hk : ∀ b o, b ∉ σ → Frz o → h.get? b = some o → h'.get? b = some o ∧ b ∉ σ') (hs : σ <+: σ') :
    ∀ {avs : List AV} {vs : List Value}, VRs h σ avs vs → VRs h' σ' avs vs
  | [], _, x => x
  | a :: r, _, x => by
    simp only [VRs] at x ⊢
    obtain ⟨v, vs', rfl, h1, h2⟩ := x
    exact ⟨v, vs', rfl, VR.mono hk hs h1, VRs.mono hk hs h2⟩
end
theorem VR.mkI {h : Heap} {σ : List Addr} {i : Int} {t : Tok} : VR h σ (.int i) (.int i t) := by simp only [VR]; exact ⟨t, rfl⟩
theorem VR.mkB {h : Heap} {σ : List Addr} {b : Bool} : VR h σ (.bool b) (.bool b) := by simp only [VR]
theorem VR.mkN {h : Heap} {σ : List Addr} : VR h σ .none .none := by simp only [VR]
theorem VR.mkS {h : Heap} {σ : List Addr} {x : List Nat} {t : Tok} : VR h σ (.str x) (.str ⟨x.toArray⟩ t) := by simp only [VR]; exact ⟨t, rfl⟩
theorem VR.mkR {h : Heap} {σ : List Addr} {i : Nat} {a : Addr} (e : σ[i]? = some a) : VR h σ (.ref i) (.ref a) := by simp only [VR]; exact ⟨a, rfl, e⟩
theorem VRs.length {h : Heap} {σ : List Addr} : ∀ {avs : List AV} {vs : List Value}, VRs h σ avs vs → vs.length = avs.length
  | [], _, x => by simp only [VRs] at x; subst x; rfl
  | a :: r, _, x => by
    simp only [VRs] at x
    obtain ⟨v, vs', rfl, h1, h2⟩ := x
    simp [VRs.length h2]
theorem VRs.get {h : Heap} {σ : List Addr} : ∀ {avs : List AV} {vs : List Value} {i : Nat} {av : AV}, VRs h σ avs vs → avs[i]? = some av → ∃ v, vs[i]? = some v ∧ VR h σ av v
  | [], _, i, _, x, e => by simp at e
  | a :: r, _, i, av, x, e => by
    simp only [VRs] at x
    obtain ⟨v, vs', rfl, h1, h2⟩ := x
    cases i with
    | zero => simp at e; subst e; exact ⟨v, by simp, h1⟩
    | succ i => simp at e; simpa using VRs.get h2 e
theorem VRs.append {h : Heap} {σ : List Addr} : ∀ {a₁ a₂ : List AV} {v₁ v₂ : List Value}, VRs h σ a₁ v₁ → VRs h σ a₂ v₂ → VRs h σ (a₁ ++ a₂) (v₁ ++ v₂)
  | [], _, _, _, x, y => by simp only [VRs] at x; subst x; exact y
  | a :: r, _, _, _, x, y => by
    simp only [VRs] at x
    obtain ⟨v, vs', rfl, h1, h2⟩ := x
    simp only [List.cons_append, VRs]
    exact ⟨v, _, rfl, h1, VRs.append h2 y⟩
theorem VRs.one {h : Heap} {σ : List Addr} {a : AV} {v : Value} (x : VR h σ a v) : VRs h σ [a] [v] := by
  simp only [VRs]; exact ⟨v, [], rfl, x, rfl⟩
theorem VRs.cons {h : Heap} {σ : List Addr} {a : AV} {v : Value} {as : List AV} {vs : List Value} (x : VR h σ a v) (y : VRs h σ as vs) : VRs h σ (a :: as) (v :: vs) := by
  simp only [VRs]; exact ⟨v, vs, rfl, x, y⟩
theorem VRs.nil {h : Heap} {σ : List Addr} : VRs h σ [] [] := by simp only [VRs]
theorem VRs.set {h : Heap} {σ : List Addr} : ∀ {avs : List AV} {vs : List Value} {i : Nat} {av : AV} {v : Value}, VRs h σ avs vs → VR h σ av v → VRs h σ (avs.set i av) (vs.set i v)
  | [], _, i, _, _, x, _ => by simp only [VRs] at x; subst x; simp [VRs]
  | a :: r, _, i, av, v, x, y => by
    simp only [VRs] at x
    obtain ⟨v₀, vs', rfl, h1, h2⟩ := x
    cases i with
    | zero => exact VRs.cons y h2
    | succ i => exact VRs.cons h1 (VRs.set h2 y)
theorem VRs.take {h : Heap} {σ : List Addr} : ∀ {avs : List AV} {vs : List Value} (n : Nat), VRs h σ avs vs → VRs h σ (avs.take n) (vs.take n)
  | _, _, 0, _ => by simp [VRs]
  | [], _, n + 1, x => by simp only [VRs] at x; subst x; simp [VRs]
  | a :: r, _, n + 1, x => by
    simp only [VRs] at x
    obtain ⟨v₀, vs', rfl, h1, h2⟩ := x
    exact VRs.cons h1 (VRs.take n h2)
theorem VRs.dropLast {h : Heap} {σ : List Addr} {avs : List AV} {vs : List Value} (x : VRs h σ avs vs) : VRs h σ avs.dropLast vs.dropLast := by
  rw [List.dropLast_eq_take, List.dropLast_eq_take, x.length]; exact x.take _
/-- the attributes' dict -/
noncomputable def AttrsR (h : Heap) (σ : List Addr) : List (String × AV) → List DictEntry → Prop
  | [], es => es = []
  | (x, av) :: r, es => ∃ hs t v es', es = ⟨hs, .str (Str.ofString x) t, v⟩ :: es' ∧ VR h σ av v ∧ AttrsR h σ r es'
/-- the heap bears the object at a -/
noncomputable def OB (h : Heap) (σ : List Addr) (a : Addr) : AO → Prop
  | .list avs => ∃ vs n, h.get? a = some { cls := .type "list", data := .seq vs.toArray n } ∧ VRs h σ avs vs
  | .dict n f => h.DictLe a n ∧ ∃ g, h.IntMap a g ∧ ∀ k, (f k = .none ∧ g k = .none) ∨ ∃ av v, f k = some av ∧ g k = some v ∧ VR h σ av v
  | .inst C d => ∃ da, σ[d]? = some da ∧ h.get? a = some (instObj C da)
  | .attrs fs => ∃ es n, h.get? a = some (dictOf es n) ∧ AttrsR h σ fs es
theorem AttrsR.mono {h h' : Heap} {σ σ' : List Addr} (hk : ∀ b o, b ∉ σ → Frz o → h.get? b = some o → h'.get? b = some o ∧ b ∉ σ') (hs : σ <+: σ') :
    ∀ {fs : List (String × AV)} {es : List DictEntry}, AttrsR h σ fs es → AttrsR h' σ' fs es
  | [], _, x => x
  | (_, _) :: r, _, x => by
    obtain ⟨hs', t, v, es', rfl, h1, h2⟩ := x
    exact ⟨hs', t, v, es', rfl, h1.mono hk hs, AttrsR.mono hk hs h2⟩
theorem prefix_get {α : Type} {l l' : List α} (hs : l <+: l') {i : Nat} {a : α} (e : l[i]? = some a) : l'[i]? = some a := by
  obtain ⟨t, rfl⟩ := hs
  obtain ⟨hi, _⟩ := List.getElem?_eq_some_iff.mp e
  rw [List.getElem?_append_left hi]; exact e
theorem OB.mono {h h' : Heap} {σ σ' : List Addr} {a : Addr} (hk : ∀ b o, b ∉ σ → Frz o → h.get? b = some o → h'.get? b = some o ∧ b ∉ σ') (hs : σ <+: σ') (ha : h'.get? a = h.get? a) :
    ∀ {o : AO}, OB h σ a o → OB h' σ' a o
  | .list avs, ⟨vs, n, hg, hv⟩ => ⟨vs, n, ha.trans hg, hv.mono hk hs⟩
  | .dict n f, ⟨hl, g, ⟨o, es, ep, ho, r⟩, hv⟩ => ⟨fun o' es' ep' e => hl o' es' ep' (ha ▸ e), g, ⟨o, es, ep, ha.trans ho, r⟩, fun k => (hv k).imp id fun ⟨av, v, h1, h2, h3⟩ => ⟨av, v, h1, h2, h3.mono hk hs⟩⟩
  | .inst C d, ⟨da, h1, h2⟩ => ⟨da, prefix_get hs h1, ha.trans h2⟩
  | .attrs fs, ⟨es, n, h1, h2⟩ => ⟨es, n, ha.trans h1, h2.mono hk hs⟩
/-- the state's relation -/
structure RS (B : Heap) (σ : List Addr) (H : Hp) (h : Heap) : Prop where
  len : σ.length = H.length
  nodup : σ.Nodup
  base : ∀ b o, B.get? b = some o → h.get? b = some o
  off : ∀ a ∈ σ, B.get? a = none
  obj : ∀ (i : Nat) (a : Addr) (o : AO), σ[i]? = some a → H[i]? = some o → OB h σ a o
  live : ∀ a ∈ σ, h.get? a ≠ none
noncomputable def IsD (o : Obj) : Prop := ∃ es n, o.data = .dict es n
theorem Frz.notD {o : Obj} (h : Frz o) : ¬ IsD o := by
  rintro ⟨es, n, hd⟩
  unfold Frz at h; rw [hd] at h; exact h
/-- the same object, or a namespace with other slots -/
noncomputable def Sm (o : Obj) (x : Option Obj) : Prop := x = some o ∨ (IsD o ∧ ∃ sl, x = some { o with slots := sl })
theorem Sm.eq {o : Obj} {x : Option Obj} (h : Sm o x) (n : ¬ IsD o) : x = some o := h.elim id fun q => absurd q.1 n
theorem Sm.trans {o o' : Obj} {x y : Option Obj} (h : Sm o x) (e : x = some o') (h' : Sm o' y) : Sm o y := by
  rcases h with q | ⟨d, sl, q⟩
  · rw [q] at e; cases e; exact h'
  · rw [q] at e; cases e
    rcases h' with q' | ⟨d', sl', q'⟩
    · exact .inr ⟨d, sl, q'⟩
    · exact .inr ⟨d, sl', q'⟩
theorem Sm.ex {o : Obj} {x : Option Obj} (h : Sm o x) : ∃ o', x = some o' := h.elim (fun q => ⟨_, q⟩) fun ⟨_, _, q⟩ => ⟨_, q⟩
theorem Sm.dic {o : Obj} {x : Option Obj} (h : Sm o x) (d : IsD o) : ∃ o', x = some o' ∧ IsD o' := h.elim (fun q => ⟨_, q, d⟩) fun ⟨_, _, q⟩ => ⟨_, q, d⟩
/-- a step: what stays -/
structure Step (V σ : List Addr) (s : Shared) (σ' : List Addr) (s' : Shared) : Prop where
  same : ∃ h' tk, s' = { s with heap := h', toks := tk }
  pre : σ <+: σ'
  fresh : ∀ a ∈ σ', a ∉ σ → s.heap.get? a = none
  keep : ∀ b o, b ∉ σ → b ∉ V → s.heap.get? b = some o → Sm o (s'.heap.get? b)
  dic : ∀ b o, b ∉ σ → s.heap.get? b = some o → IsD o → ∃ o', s'.heap.get? b = some o' ∧ IsD o'
  alive : ∀ b, s.heap.get? b ≠ none → s'.heap.get? b ≠ none
  tok : s.toks ≤ s'.toks
theorem Step.refl {V σ : List Addr} {s : Shared} : Step V σ s σ s :=
  ⟨⟨s.heap, s.toks, rfl⟩, List.prefix_refl _, fun _ h h' => absurd h h', fun _ _ _ _ e => .inl e, fun _ o _ e d => ⟨o, e, d⟩, fun _ e => e, Nat.le_refl _⟩
theorem Step.trans {V V' σ σ' σ'' : List Addr} {s s' s'' : Shared} (x : Step V σ s σ' s') (y : Step V' σ' s' σ'' s'') (hV : ∀ b ∈ V', b ∈ V ∨ s.heap.get? b = none) : Step V σ s σ'' s'' := by
  have out : ∀ b o, b ∉ σ → s.heap.get? b = some o → b ∉ σ' := fun b o hb e q => by
    have := x.fresh b q hb; rw [e] at this; cases this
  refine ⟨?_, x.pre.trans y.pre, fun a h h' => ?_, fun b o hb hv e => ?_, fun b o hb e d => ?_, fun b e => y.alive b (x.alive b e), Nat.le_trans x.tok y.tok⟩
  · obtain ⟨h₁, t₁, rfl⟩ := x.same
    obtain ⟨h₂, t₂, rfl⟩ := y.same
    exact ⟨h₂, t₂, rfl⟩
  · by_cases ha : a ∈ σ'
    · exact x.fresh a ha h'
    · have := y.fresh a h ha
      cases e : s.heap.get? a with
      | none => rfl
      | some o => exact absurd this (x.alive a (by rw [e]; exact fun q => nomatch q))
  · have h1 := x.keep b o hb hv e
    obtain ⟨o', e'⟩ := h1.ex
    refine h1.trans e' (y.keep b o' (out b o hb e) (fun q => ?_) e')
    rcases hV b q with q | q
    · exact hv q
    · rw [e] at q; cases q
  · obtain ⟨o', e', d'⟩ := x.dic b o hb e d
    exact y.dic b o' (out b o hb e) e' d'
theorem Step.trans' {V σ σ' σ'' : List Addr} {s s' s'' : Shared} (x : Step V σ s σ' s') (y : Step [] σ' s' σ'' s'') : Step V σ s σ'' s'' := x.trans y fun _ h => nomatch h
theorem Step.transS {V σ σ' σ'' : List Addr} {s s' s'' : Shared} (x : Step V σ s σ' s') (y : Step V σ' s' σ'' s'') : Step V σ s σ'' s'' := x.trans y fun _ h => .inl h
theorem Step.weaken {V σ σ' : List Addr} {s s' : Shared} (x : Step [] σ s σ' s') : Step V σ s σ' s' := ⟨x.same, x.pre, x.fresh, fun b o h _ e => x.keep b o h (fun q => nomatch q) e, x.dic, x.alive, x.tok⟩
noncomputable def VClean (V : List Addr) (h : Heap) : Prop := ∀ b ∈ V, ∀ o, h.get? b = some o → ¬ Frz o
theorem VClean.nil {h : Heap} : VClean [] h := fun _ h => nomatch h
theorem Step.frz {V σ σ' : List Addr} {s s' : Shared} (x : Step V σ s σ' s') (hV : VClean V s.heap) : ∀ b o, b ∉ σ → Frz o → s.heap.get? b = some o → s'.heap.get? b = some o ∧ b ∉ σ' :=
  fun b o hb hf e => ⟨(x.keep b o hb (fun q => hV b q o e hf) e).eq hf.notD, fun q => by have := x.fresh b q hb; rw [e] at this; cases this⟩
theorem VR.step {V σ σ' : List Addr} {s s' : Shared} {av : AV} {v : Value} (r : VR s.heap σ av v) (x : Step V σ s σ' s') (hV : VClean V s.heap) : VR s'.heap σ' av v := r.mono (x.frz hV) x.pre
theorem VRs.step {V σ σ' : List Addr} {s s' : Shared} {av : List AV} {v : List Value} (r : VRs s.heap σ av v) (x : Step V σ s σ' s') (hV : VClean V s.heap) : VRs s'.heap σ' av v := r.mono (x.frz hV) x.pre
theorem VR.step0 {σ σ' : List Addr} {s s' : Shared} {av : AV} {v : Value} (r : VR s.heap σ av v) (x : Step [] σ s σ' s') : VR s'.heap σ' av v := r.step x .nil
theorem VRs.step0 {σ σ' : List Addr} {s s' : Shared} {av : List AV} {v : List Value} (r : VRs s.heap σ av v) (x : Step [] σ s σ' s') : VRs s'.heap σ' av v := r.step x .nil
section
variable {B : Heap} {σ : List Addr} {H : Hp} {h h' : Heap}
theorem RS.get (R : RS B σ H h) {i : Nat} {o : AO} (e : H[i]? = some o) : ∃ a, σ[i]? = some a ∧ a ∈ σ ∧ OB h σ a o := by
  obtain ⟨hi, _⟩ := List.getElem?_eq_some_iff.mp e
  have hi' : i < σ.length := by rw [R.len]; exact hi
  exact ⟨σ[i], by simp [hi'], List.getElem_mem _, R.obj i _ o (by simp [hi']) e⟩
theorem RS.keeps (R : RS B σ H h) (hk : ∀ b o, h.get? b = some o → h'.get? b = some o) : RS B σ H h' :=
  ⟨R.len, R.nodup, fun b o e => hk b o (R.base b o e), R.off, fun i a o e1 e2 => (R.obj i a o e1 e2).mono (fun b o hb _ e => ⟨hk b o e, hb⟩) (List.prefix_refl _) (by
    have hl := R.live a (List.mem_of_getElem? e1)
    cases q : h.get? a with
    | none => exact absurd q hl
    | some x => exact hk a x q), fun a ha => by
    have hl := R.live a ha
    cases q : h.get? a with
    | none => exact absurd q hl
    | some x => rw [hk a x q]; exact fun q => nomatch q⟩
theorem step_keeps {s : Shared} {h' : Heap} {tk : Nat} (hk : ∀ b o, s.heap.get? b = some o → h'.get? b = some o) (ht : s.toks ≤ tk) : Step [] σ s σ { s with heap := h', toks := tk } :=
  ⟨⟨h', tk, rfl⟩, List.prefix_refl _, fun _ a b => absurd a b, fun b o _ _ e => .inl (hk b o e), fun b o _ e d => ⟨o, hk b o e, d⟩, fun b e => by
    cases q : s.heap.get? b with
    | none => exact absurd q e
    | some x => show h'.get? b ≠ none; rw [hk b x q]; exact (fun q => (nomatch q)), ht⟩
theorem RS.alloc (R : RS B σ H h) (hk : ∀ b o, h.get? b = some o → h'.get? b = some o) {a : Addr} {o : AO} (hf : h.get? a = none) (hl : h'.get? a ≠ none) (ho : OB h' (σ ++ [a]) a o) : RS B (σ ++ [a]) (H ++ [o]) h' := by
  have R' := R.keeps hk
  have fr : ∀ b o, b ∉ σ → Frz o → h.get? b = some o → h'.get? b = some o ∧ b ∉ σ ++ [a] := fun b o hb _ e => ⟨hk b o e, fun q => by
    rcases List.mem_append.mp q with q | q
    · exact hb q
    · rw [List.mem_singleton.mp q, hf] at e; cases e⟩
  have na : a ∉ σ := fun q => R.live a q hf
  refine ⟨by simp [R.len], List.nodup_append.mpr ⟨R.nodup, by simp, fun x hx y hy => by rw [List.mem_singleton.mp hy]; exact fun q => na (q ▸ hx)⟩, R'.base, fun b hb => ?_, fun i b ob e1 e2 => ?_, fun b hb => ?_⟩
  · rcases List.mem_append.mp hb with q | q
    · exact R.off b q
    · rw [List.mem_singleton.mp q]
      cases e : B.get? a with
      | none => rfl
      | some x => have := R.base a x e; rw [hf] at this; cases this
  · by_cases hi : i < σ.length
    · rw [List.getElem?_append_left hi] at e1
      rw [List.getElem?_append_left (R.len ▸ hi)] at e2
      refine (R.obj i b ob e1 e2).mono fr (List.prefix_append _ _) ?_
      have hl := R.live b (List.mem_of_getElem? e1)
      cases q : h.get? b with
      | none => exact absurd q hl
      | some x => exact hk b x q
    · rw [List.getElem?_append_right (by omega)] at e1
      rw [List.getElem?_append_right (by rw [← R.len]; omega)] at e2
      have e : i - σ.length = 0 := by
        obtain ⟨h1, _⟩ := List.getElem?_eq_some_iff.mp e1
        simpa using h1
      rw [e] at e1
      rw [← R.len, e] at e2
      simp at e1 e2
      subst e1 e2
      exact ho
  · rcases List.mem_append.mp hb with q | q
    · exact R'.live b q
    · rw [List.mem_singleton.mp q]; exact hl
theorem step_alloc {s : Shared} {a : Addr} {tk : Nat} (R : RS B σ H s.heap) (hk : ∀ b o, s.heap.get? b = some o → h'.get? b = some o) (hf : s.heap.get? a = none) (ht : s.toks ≤ tk) : Step [] σ s (σ ++ [a]) { s with heap := h', toks := tk } := by
  have x := step_keeps (σ := σ) (tk := tk) hk ht
  exact ⟨x.same, List.prefix_append _ _, fun b hb hn => by
    rcases List.mem_append.mp hb with q | q
    · exact absurd q hn
    · rw [List.mem_singleton.mp q]; exact hf, x.keep, x.dic, x.alive, ht⟩
theorem RS.set (R : RS B σ H h) {i : Nat} {a : Addr} {o : AO} (hi : σ[i]? = some a) (hk : ∀ b o, b ≠ a → h.get? b = some o → h'.get? b = some o) (hl : h'.get? a ≠ none) (ho : OB h' σ a o) : RS B σ (H.set i o) h' := by
  have am : a ∈ σ := List.mem_of_getElem? hi
  refine ⟨by simp [R.len], R.nodup, fun b x e => hk b x (fun q => by have := R.off a am; rw [← q, e] at this; cases this) (R.base b x e), R.off, fun j b ob e1 e2 => ?_, fun b hb => ?_⟩
  · by_cases hj : j = i
    · subst hj
      rw [hi] at e1
      cases e1
      have hlt : j < H.length := by
        rw [← R.len]; exact (List.getElem?_eq_some_iff.mp hi).1
      rw [List.getElem?_set_self hlt] at e2
      cases e2
      exact ho
    · rw [List.getElem?_set_ne (Ne.symm hj)] at e2
      have hb : b ≠ a := fun q => by
        subst q
        have h1 := (List.getElem?_eq_some_iff.mp e1)
        have h2 := (List.getElem?_eq_some_iff.mp hi)
        obtain ⟨l1, q1⟩ := h1
        obtain ⟨l2, q2⟩ := h2
        exact hj ((List.getElem_inj (h₀ := l1) (h₁ := l2) R.nodup).mp (q1.trans q2.symm))
      refine (R.obj j b ob e1 e2).mono (fun c oc hc _ e => ⟨hk c oc (fun q => hc (q ▸ am)) e, hc⟩) (List.prefix_refl _) ?_
      have hl := R.live b (List.mem_of_getElem? e1)
      cases q : h.get? b with
      | none => exact absurd q hl
      | some x => exact hk b x hb q
  · by_cases q : b = a
    · rw [q]; exact hl
    · have hl := R.live b hb
      cases e : h.get? b with
      | none => exact absurd e hl
      | some x => rw [hk b x q e]; exact fun q => nomatch q
theorem step_set {s : Shared} {i : Nat} {a : Addr} {tk : Nat} (hi : σ[i]? = some a) (hk : ∀ b o, b ≠ a → s.heap.get? b = some o → h'.get? b = some o) (hl : h'.get? a ≠ none) (ht : s.toks ≤ tk) : Step [] σ s σ { s with heap := h', toks := tk } := by
  have am : a ∈ σ := List.mem_of_getElem? hi
  refine ⟨⟨h', tk, rfl⟩, List.prefix_refl _, fun _ x y => absurd x y, fun b o hb _ e => .inl (hk b o (fun q => hb (q ▸ am)) e), fun b o hb e d => ⟨o, hk b o (fun q => hb (q ▸ am)) e, d⟩, fun b e => ?_, ht⟩
  by_cases q : b = a
  · rw [q]; exact hl
  · cases e' : s.heap.get? b with
    | none => exact absurd e' e
    | some x => show h'.get? b ≠ none; rw [hk b x q e']; exact fun q => nomatch q
end
end Mine
end
section
namespace Mine
structure Rm (A : Around) (l : Nat) : Prop where
  d : A.depth + 10 * l ≤ 990
  u : A.units + 50 * l ≤ 9800
  hh : A.handled = none
theorem Rm.le {A : Around} {l l' : Nat} (R : Rm A l) (h : l' ≤ l) : Rm A l' := ⟨by have := R.d; omega, by have := R.u; omega, R.hh⟩
theorem Rm.room {A : Around} {l : Nat} (R : Rm A l) : A.depth < recursionLimit := by have := R.d; show A.depth < 1000; omega
/-- the frames are namespaces of calls under way -/
noncomputable def Fp (B : Heap) (A : Around) (σ : List Addr) (h : Heap) : Prop := ∃ l, A.frames = some l ∧ ∀ e ∈ l, e.scope.kind ≠ .module ∧ ∃ L o, e.frame = some L ∧ B.get? L = none ∧ L ∉ σ ∧ h.get? L = some o ∧ IsD o
theorem Fp.step {B : Heap} {A : Around} {V σ σ' : List Addr} {s s' : Shared} (f : Fp B A σ s.heap) (x : Step V σ s σ' s') : Fp B A σ' s'.heap := by
  obtain ⟨l, h1, h2⟩ := f
  refine ⟨l, h1, fun e he => ?_⟩
  obtain ⟨h3, L, o, h4, h5, h6, h7, h8⟩ := h2 e he
  obtain ⟨o', h9, h10⟩ := x.dic L o h6 h7 h8
  exact ⟨h3, L, o', h4, h5, (fun q => by have := x.fresh L q h6; rw [h7] at this; cases this), h9, h10⟩
/-- tokens have been drawn (asked at low levels alone); the frames -/
structure Tp (B : Heap) (A : Around) (σ : List Addr) (l : Nat) (s : Shared) : Prop where
  t : l < 50 → 0 < s.toks
  f : Fp B A σ s.heap
theorem Tp.up {B : Heap} {A : Around} {V σ σ' : List Addr} {l : Nat} {s s' : Shared} (t : Tp B A σ l s) (x : Step V σ s σ' s') : Tp B A σ' l s' := ⟨fun q => Nat.lt_of_lt_of_le (t.t q) x.tok, t.f.step x⟩
noncomputable def vol (env : Env) : List Addr := env.locals :: env.cells.map (·.2)
structure En (B : Heap) (sc : Scope) (env : Env) : Prop where
  is : env.scope = sc
  kind : sc.kind = .function
  g : env.globals = mainGlobals
  b : env.builtins = builtinsNs
  new : ∀ b ∈ vol env, B.get? b = none
  cells : ∀ x, sc.names.lookup x = some .cell → ∃ c, env.cells.lookup x = some c
theorem En.kindOf {B : Heap} {sc : Scope} {env : Env} (n : En B sc env) (x : Str) : env.kindOf x = sc.names.lookup x := by unfold Env.kindOf; rw [n.is]
theorem En.fn {B : Heap} {sc : Scope} {env : Env} (n : En B sc env) : env.scope.kind = .function := by rw [n.is]; exact n.kind
/-- the base: what the top left -/
structure GB (B : Heap) (mg mb : Str → Option Value) : Prop where
  g : B.Ns mainGlobals mg
  b : B.Ns builtinsNs mb
  lim : B.NoLimit
noncomputable def VarAt (env : Env) (h : Heap) (x : Str) (v : Value) : Prop :=
  (env.kindOf x = some .local ∧ ∃ m, h.Ns env.locals m ∧ m x = some v) ∨
  (env.kindOf x = some .cell ∧ ∃ c, env.cells.lookup x = some c ∧ h.IsCell c (some v))
noncomputable abbrev LM := String → Option AV
noncomputable def upd (lm : LM) (x : String) (v : AV) : LM := fun y => if y = x then some v else lm y
structure LR (env : Env) (h : Heap) (σ : List Addr) (lm : LM) : Prop where
  ns : ∃ m, h.Ns env.locals m
  out : env.locals ∉ σ
  cells : ∀ x c, (x, c) ∈ env.cells → (∃ ov, h.IsCell c ov) ∧ c ∉ σ ∧ c ≠ env.locals
  apart : ∀ x y c, env.cells.lookup x = some c → env.cells.lookup y = some c → x = y
  vars : ∀ n av, lm n = some av → ∃ v, VarAt env h (Str.ofString n) v ∧ VR h σ av v
theorem lookup_mem {α β : Type} [BEq α] [LawfulBEq α] {l : List (α × β)} {a : α} {b : β} (h : l.lookup a = some b) : (a, b) ∈ l := by
  induction l with
  | nil => simp at h
  | cons p r ih =>
    obtain ⟨x, y⟩ := p
    rw [List.lookup_cons] at h
    cases e : a == x with
    | true => rw [e] at h; cases h; rw [eq_of_beq e]; exact .head _
    | false => rw [e] at h; exact .tail _ (ih h)
theorem Heap.Ns.at'' {h h' : Heap} {a m} (hn : h.Ns a m) (e : ∀ o, h.get? a = some o → h'.get? a = some o) : h'.Ns a m :=
  let ⟨o, es, ep, x, r⟩ := hn; ⟨o, es, ep, e _ x, r⟩
theorem isCell_at {h h' : Heap} {c : Addr} {ov : Option Value} (x : h.IsCell c ov) (e : ∀ o, h.get? c = some o → h'.get? c = some o) : h'.IsCell c ov :=
  let ⟨o, ho, r⟩ := x; ⟨o, e _ ho, r⟩
theorem Ns_sm {h h' : Heap} {a m} (hn : h.Ns a m) (e : ∀ o, h.get? a = some o → Sm o (h'.get? a)) : h'.Ns a m := by
  obtain ⟨o, es, ep, x, hd, r⟩ := hn
  rcases e o x with q | ⟨_, sl, q⟩
  · exact ⟨o, es, ep, q, hd, r⟩
  · exact ⟨_, es, ep, q, hd, r⟩
theorem isCell_notD {o : Obj} {v : Option Value} (h : o.data = .cell v) : ¬ IsD o := by
  rintro ⟨es, n, hd⟩; rw [h] at hd; cases hd
theorem isCell_sm {h h' : Heap} {c : Addr} {ov : Option Value} (x : h.IsCell c ov) (e : ∀ o, h.get? c = some o → Sm o (h'.get? c)) : h'.IsCell c ov := by
  obtain ⟨o, ho, r⟩ := x
  exact ⟨o, (e _ ho).eq (isCell_notD r), r⟩
theorem VarAt.keep {env : Env} {h h' : Heap} {x : Str} {v : Value} (k : ∀ b ∈ vol env, ∀ o, h.get? b = some o → Sm o (h'.get? b)) : VarAt env h x v → VarAt env h' x v := by
  rintro (⟨a, m, hn, e⟩ | ⟨a, c, e, hc⟩)
  · exact .inl ⟨a, m, Ns_sm hn (k _ (.head _)), e⟩
  · exact .inr ⟨a, c, e, isCell_sm hc (k _ (.tail _ (List.mem_map.mpr ⟨_, lookup_mem e, rfl⟩)))⟩
theorem LR.clean {env : Env} {h : Heap} {σ : List Addr} {lm : LM} (r : LR env h σ lm) : VClean (vol env) h := by
  intro b hb o e
  rcases List.mem_cons.mp hb with rfl | hb
  · obtain ⟨m, o', es, ep, e', hd, _⟩ := r.ns
    rw [e] at e'; cases e'
    unfold Frz; rw [hd]; exact id
  · obtain ⟨⟨x, c⟩, hm, rfl⟩ := List.mem_map.mp hb
    obtain ⟨⟨ov, o', e', hd⟩, _⟩ := r.cells x c hm
    rw [e] at e'; cases e'
    unfold Frz; rw [hd]; exact id
theorem LR.off {env : Env} {h : Heap} {σ : List Addr} {lm : LM} (r : LR env h σ lm) : ∀ b ∈ vol env, b ∉ σ := by
  intro b hb
  rcases List.mem_cons.mp hb with rfl | hb
  · exact r.out
  · obtain ⟨⟨x, c⟩, hm, rfl⟩ := List.mem_map.mp hb
    exact (r.cells x c hm).2.1
theorem LR.live {env : Env} {h : Heap} {σ : List Addr} {lm : LM} (r : LR env h σ lm) : ∀ b ∈ vol env, h.get? b ≠ none := by
  intro b hb
  rcases List.mem_cons.mp hb with rfl | hb
  · obtain ⟨m, o', es, ep, e', _⟩ := r.ns
    rw [e']; exact fun q => nomatch q
  · obtain ⟨⟨x, c⟩, hm, rfl⟩ := List.mem_map.mp hb
    obtain ⟨⟨ov, o', e', hd⟩, _⟩ := r.cells x c hm
    rw [e']; exact fun q => nomatch q
/-- the locals stand over a step that touches objects alone -/
theorem LR.step {env : Env} {s s' : Shared} {σ σ' : List Addr} {lm : LM} (r : LR env s.heap σ lm) (x : Step [] σ s σ' s') : LR env s'.heap σ' lm := by
  have k : ∀ b ∈ vol env, ∀ o, s.heap.get? b = some o → Sm o (s'.heap.get? b) := fun b hb o e => x.keep b o (r.off b hb) (fun q => nomatch q) e
  have off' : ∀ b ∈ vol env, b ∉ σ' := fun b hb q => r.live b hb (x.fresh b q (r.off b hb))
  refine ⟨?_, off' _ (.head _), fun y c hm => ?_, r.apart, fun n av e => ?_⟩
  · obtain ⟨m, hn⟩ := r.ns
    exact ⟨m, Ns_sm hn (k _ (.head _))⟩
  · obtain ⟨⟨ov, hc⟩, _, h3⟩ := r.cells y c hm
    have hb : c ∈ vol env := .tail _ (List.mem_map.mpr ⟨_, hm, rfl⟩)
    exact ⟨⟨ov, isCell_sm hc (k c hb)⟩, off' c hb, h3⟩
  · obtain ⟨v, h1, h2⟩ := r.vars n av e
    exact ⟨v, h1.keep k, h2.step0 x⟩
noncomputable abbrev EP := LM → Hp → Option (AV × Hp)
section
variable (prog : Program) (w : World) (B : Heap)
/-- an expression's meaning -/
noncomputable abbrev SE (l : Nat) (sc : Scope) (e : Expr) (p : EP) : Prop :=
  ∀ {A : Around} {env : Env} {σ : List Addr} {H : Hp} {lm : LM} {s : Shared} {av : AV} {H' : Hp}, Rm A l → En B sc env → Tp B A σ l s → RS B σ H s.heap → LR env s.heap σ lm → p lm H = some (av, H') →
    ∀ {Q : Value → Shared → Prop} {E : Value → Shared → Prop}, (∀ v s' σ', Step [] σ s σ' s' → RS B σ' H' s'.heap → VR s'.heap σ' av v → Q v s') → wpAny (model prog w) A (eval e env) Q E s
noncomputable abbrev EPs := LM → Hp → Option (List AV × Hp)
noncomputable abbrev SEs (l : Nat) (sc : Scope) (es : List Expr) (ps : EPs) : Prop :=
  ∀ {A : Around} {env : Env} {σ : List Addr} {H : Hp} {lm : LM} {s : Shared} {avs : List AV} {H' : Hp} {pos : Pos}, Rm A l → En B sc env → Tp B A σ l s → RS B σ H s.heap → LR env s.heap σ lm → ps lm H = some (avs, H') →
    ∀ {Q : List Value → Shared → Prop} {E : Value → Shared → Prop}, (∀ vs s' σ', Step [] σ s σ' s' → RS B σ' H' s'.heap → VRs s'.heap σ' avs vs → Q vs s') → wpAny (model prog w) A (spliced (backTo pos (starEach es env))) Q E s
/-- a test's meaning -/
noncomputable abbrev TP := LM → Hp → Option (Bool × Hp)
noncomputable abbrev ST (l : Nat) (sc : Scope) (e : Expr) (p : TP) : Prop :=
  ∀ {A : Around} {env : Env} {σ : List Addr} {H : Hp} {lm : LM} {s : Shared} {b : Bool} {H' : Hp}, Rm A l → En B sc env → Tp B A σ l s → RS B σ H s.heap → LR env s.heap σ lm → p lm H = some (b, H') →
    ∀ {Q : Bool → Shared → Prop} {E : Value → Shared → Prop}, (∀ s' σ', Step [] σ s σ' s' → RS B σ' H' s'.heap → Q b s') → wpAny (model prog w) A (isTrue e env (eval e env)) Q E s
end
variable {prog : Program} {w : World} {B : Heap} {mg mb : Str → Option Value} {l : Nat} {sc : Scope}
-- constants
noncomputable def cK (v : AV) : EP := fun _ H => some (v, H)
theorem SE.int {i : Int} {k : Nat} {pos : Pos} : SE prog w B l sc (.Constant (.int i) k pos) (cK (.int i)) := by
  intro A env σ H lm s av H' Rm n tp R L e Q E h
  refine bc fun hng => ?_
  cases e
  refine hng ?_
  exact wpAny_Constant_int (h _ _ σ (step_keeps (fun _ _ e => e) (Nat.le_succ _)) R .mkI)
theorem SE.str {i : Str} {cs : List Nat} {k : Nat} {pos : Pos} (hi : i = ⟨cs.toArray⟩) : SE prog w B l sc (.Constant (.str i) k pos) (cK (.str cs)) := by
  intro A env σ H lm s av H' Rm n tp R L e Q E h
  refine bc fun hng => ?_
  cases e
  subst hi
  refine hng ?_
  exact wpAny_Constant_str (h _ _ σ (step_keeps (fun _ _ e => e) (Nat.le_succ _)) R .mkS)
theorem SE.nul {k : Nat} {pos : Pos} : SE prog w B l sc (.Constant .none k pos) (cK .none) := by
  intro A env σ H lm s av H' Rm n tp R L e Q E h
  refine bc fun hng => ?_
  cases e
  refine hng ?_
  exact wpAny_Constant_none (h _ _ σ .refl R .mkN)
theorem SE.bool {b : Bool} {k : Nat} {pos : Pos} : SE prog w B l sc (.Constant (.bool b) k pos) (cK (.bool b)) := by
  intro A env σ H lm s av H' Rm n tp R L e Q E h
  refine bc fun hng => ?_
  cases e
  refine hng ?_
  exact wpAny_Constant_bool (h _ _ σ .refl R .mkB)
-- names
noncomputable def vV (x : String) : EP := fun lm H => (lm x).map (·, H)
theorem SE.var {x : String} {pos : Pos} (hd : (Str.ofString x == ("__debug__" : Str)) = false) : SE prog w B l sc (.Name (Str.ofString x) pos) (vV x) := by
  intro A env σ H lm s av H' Rm n tp R L e Q E h
  refine bc fun hng => ?_
  unfold vV at e
  obtain ⟨av', e1, e2⟩ := Option.map_eq_some_iff.mp e
  cases e2
  obtain ⟨v, hv, r⟩ := L.vars x av e1
  refine hng ?_
  refine wpAny_Name ?_ hd
  rcases hv with ⟨k, m, hn, hm⟩ | ⟨k, c, hc, hi⟩
  · exact wpAny_loadName_local n.fn k hn hm (h v s σ .refl R r)
  · exact wpAny_loadName_cell n.fn k hc hi (h v s σ .refl R r)
/-- a global that holds a number -/
theorem SE.globInt {x : Str} {pos : Pos} {i : Int} {t : Tok} (G : GB B mg mb) (hv : mg x = some (.int i t)) (hk : sc.names.lookup x = some .globalImplicit) (hd : (x == ("__debug__" : Str)) = false) :
    SE prog w B l sc (.Name x pos) (cK (.int i)) := by
  intro A env σ H lm s av H' Rm n tp R L e Q E h
  refine bc fun hng => ?_
  cases e
  refine hng ?_
  exact Calls.Name_function_global n.fn ((n.kindOf x).trans hk) (Calls.loadGlobal_global (by rw [n.g]; exact Heap.Ns.at'' G.g (R.base _)) hv (h _ s σ .refl R .mkI)) hd
-- operations on two values
noncomputable abbrev F2 := AV → AV → Hp → Option (AV × Hp)
noncomputable def bO (f : F2) (a b : EP) : EP := fun lm H => (a lm H).bind fun r => (b lm r.2).bind fun q => f r.1 q.1 q.2
noncomputable abbrev Op2 (prog : Program) (w : World) (B : Heap) (l : Nat) (t : Value → Value → Sem Value) (f : F2) : Prop :=
  ∀ {A : Around} {σ : List Addr} {H : Hp} {s : Shared} {a b av : AV} {va vb : Value} {H' : Hp}, Rm A l → RS B σ H s.heap → VR s.heap σ a va → VR s.heap σ b vb → f a b H = some (av, H') →
    ∀ {Q : Value → Shared → Prop} {E : Value → Shared → Prop}, (∀ v s' σ', Step [] σ s σ' s' → RS B σ' H' s'.heap → VR s'.heap σ' av v → Q v s') → wpAny (model prog w) A (t va vb) Q E s
theorem SE.two {e₁ e₂ : Expr} {p₁ p₂ : EP} {f : F2} {t : Value → Value → Sem Value} (h1 : SE prog w B l sc e₁ p₁) (h2 : SE prog w B l sc e₂ p₂) (o : Op2 prog w B l t f)
    {A : Around} {env : Env} {σ : List Addr} {H : Hp} {lm : LM} {s : Shared} {av : AV} {H' : Hp} (Rm : Rm A l) (n : En B sc env) (tp : Tp B A σ l s) (R : RS B σ H s.heap) (L : LR env s.heap σ lm) (e : bO f p₁ p₂ lm H = some (av, H'))
    {Q : Value → Shared → Prop} {E : Value → Shared → Prop} (h : ∀ v s' σ', Step [] σ s σ' s' → RS B σ' H' s'.heap → VR s'.heap σ' av v → Q v s') :
    wpAny (model prog w) A (eval e₁ env) (fun a s₁ => wpAny (model prog w) A (eval e₂ env) (fun b s₂ => wpAny (model prog w) A (t a b) Q E s₂) E s₁) E s := by
  unfold bO at e
  obtain ⟨⟨a, H₁⟩, e1, e⟩ := Option.bind_eq_some_iff.mp e
  obtain ⟨⟨b, H₂⟩, e2, e⟩ := Option.bind_eq_some_iff.mp e
  refine h1 Rm n tp R L e1 fun v₁ s₁ σ₁ x₁ R₁ r₁ => h2 Rm n (Tp.up tp x₁) R₁ (L.step x₁) e2 fun v₂ s₂ σ₂ x₂ R₂ r₂ => ?_
  exact o Rm R₂ (r₁.step0 x₂) r₂ e fun v s' σ' x R' r => h v s' σ' ((x₁.trans' x₂).trans' x) R' r
theorem SE.bin {e₁ e₂ : Expr} {p₁ p₂ : EP} {f : F2} {op : Operator} {pos : Pos} (h1 : SE prog w B l sc e₁ p₁) (h2 : SE prog w B l sc e₂ p₂) (o : Op2 prog w B l (binaryOp op) f) : SE prog w B l sc (.BinOp e₁ op e₂ pos) (bO f p₁ p₂) := by
  intro A env σ H lm s av H' Rm n tp R L e Q E h
  exact wpAny_BinOp (SE.two h1 h2 o Rm n tp R L e h)
noncomputable def getL (H : Hp) (i : Nat) : Option (List AV) := match H[i]? with
  | some (.list xs) => some xs
  | _ => .none
theorem getL_some {H : Hp} {i : Nat} {xs : List AV} (e : getL H i = some xs) : H[i]? = some (.list xs) := by
  unfold getL at e
  split at e
  · cases e; assumption
  · cases e
theorem RS.list {σ : List Addr} {H : Hp} {h : Heap} (R : RS B σ H h) {i : Nat} {xs : List AV} {v : Value} (r : VR h σ (.ref i) v) (e : getL H i = some xs) :
    ∃ a vs n, v = .ref a ∧ σ[i]? = some a ∧ a ∈ σ ∧ h.get? a = some { cls := .type "list", data := .seq vs.toArray n } ∧ VRs h σ xs vs := by
  simp only [VR] at r
  obtain ⟨a, rfl, hi⟩ := r
  obtain ⟨a', h1, h2, vs, n, h3, h4⟩ := R.get (getL_some e)
  rw [hi] at h1; cases h1
  exact ⟨a, vs, n, rfl, hi, h2, h3, h4⟩
theorem isL {h : Heap} {a : Addr} {vs : Array Value} {n : Nat} (e : h.get? a = some { cls := .type "list", data := .seq vs n }) : h.IsList a vs := ⟨_, e, rfl, n, rfl⟩
/-- a new list -/
theorem newL {σ : List Addr} {H : Hp} {s : Shared} (R : RS B σ H s.heap) {xs : List AV} {vs : List Value} (r : VRs s.heap σ xs vs) {tk : Nat} (ht : s.toks ≤ tk) :
    Step [] σ s (σ ++ [s.heap.objs.size]) { s with heap := s.heap.push { cls := .type "list", data := .seq vs.toArray }, toks := tk } ∧
    RS B (σ ++ [s.heap.objs.size]) (H ++ [.list xs]) (s.heap.push { cls := .type "list", data := .seq vs.toArray }) ∧
    VR (s.heap.push { cls := .type "list", data := .seq vs.toArray }) (σ ++ [s.heap.objs.size]) (.ref H.length) (.ref s.heap.objs.size) := by
  have hk : ∀ b o, s.heap.get? b = some o → (s.heap.push { cls := .type "list", data := .seq vs.toArray }).get? b = some o := fun b o e => Heap.get?_push_of_some _ e
  have hf : s.heap.get? s.heap.objs.size = .none := by
    cases e : s.heap.get? s.heap.objs.size with
    | none => rfl
    | some o => exact absurd (Heap.lt_size e) (Nat.lt_irrefl _)
  have st := step_alloc (tk := tk) R hk hf ht
  have hn : (s.heap.push { cls := .type "list", data := .seq vs.toArray }).get? s.heap.objs.size = some { cls := .type "list", data := .seq vs.toArray } := Heap.get?_push_size _ rfl
  refine ⟨st, R.alloc hk hf (by rw [hn]; exact fun q => nomatch q) ⟨vs, 0, hn, r.step0 st⟩, ?_⟩
  exact .mkR (by rw [← R.len]; simp)
theorem str_app (a b : List Nat) : Str.mk a.toArray ++ Str.mk b.toArray = Str.mk (a ++ b).toArray := by
  show Str.append _ _ = _
  simp [Str.append]
noncomputable def addF : F2
  | .int a, .int b, H => some (.int (a + b), H)
  | .str a, .str b, H => if a.length + b.length ≤ 100000 then some (.str (a ++ b), H) else .none
  | .ref i, .ref j, H => (getL H i).bind fun xs => (getL H j).bind fun ys => if xs.length + ys.length ≤ 100000 then some (.ref H.length, H ++ [.list (xs ++ ys)]) else .none
  | _, _, _ => .none
theorem op_add : Op2 prog w B l (binaryOp .Add) addF := by
  intro A σ H s a b av va vb H' Rm R ra rb e Q E h
  unfold addF at e
  split at e
  · simp only [VR] at ra rb
    obtain ⟨t, rfl⟩ := ra
    obtain ⟨u, rfl⟩ := rb
    cases e
    exact add_int (h _ _ σ (step_keeps (fun _ _ e => e) (Nat.le_succ _)) R .mkI)
  · simp only [VR] at ra rb
    obtain ⟨t, rfl⟩ := ra
    obtain ⟨u, rfl⟩ := rb
    split at e
    · cases e
      refine wpAny_with_toks (Nat.le_refl s.toks) (add_str (fun t' tk hle => h _ _ σ (step_keeps (fun _ _ e => e) hle) R ?_) ?_)
      · rw [str_app]; exact .mkS
      · rw [sizeLine_eq]; simp only [Str.length, List.size_toArray]; omega
    · cases e
  · obtain ⟨xs, e1, e⟩ := Option.bind_eq_some_iff.mp e
    obtain ⟨ys, e2, e⟩ := Option.bind_eq_some_iff.mp e
    split at e
    · cases e
      obtain ⟨a, vs, n, rfl, -, -, ha, hv⟩ := R.list ra e1
      obtain ⟨b, us, k, rfl, -, -, hb, hu⟩ := R.list rb e2
      obtain ⟨x1, x2, x3⟩ := newL R (hv.append hu) (Nat.le_refl s.toks)
      refine P.add_list ha hb ?_ ?_
      · rw [List.append_toArray]; exact h _ _ _ x1 x2 x3
      · rw [sizeLine_eq, List.size_toArray, List.size_toArray, hv.length, hu.length]; omega
    · cases e
  · cases e
end Mine
end
section
namespace Mine
variable {prog : Program} {w : World} {B : Heap} {mg mb : Str → Option Value} {l : Nat} {sc : Scope}
noncomputable def subF : F2
  | .int a, .int b, H => some (.int (a - b), H)
  | _, _, _ => .none
theorem op_sub : Op2 prog w B l (binaryOp .Sub) subF := by
  intro A σ H s a b av va vb H' Rm R ra rb e Q E h
  refine bc fun hng => ?_
  unfold subF at e
  split at e
  · simp only [VR] at ra rb
    obtain ⟨t, rfl⟩ := ra
    obtain ⟨u, rfl⟩ := rb
    cases e
    refine hng ?_
    with_reducible exact sub_int (h _ _ σ (step_keeps (fun _ _ e => e) (Nat.le_succ _)) R .mkI)
  · cases e
noncomputable def strRep (n : Nat) (x : List Nat) : List Nat := (List.replicate n x).flatten
noncomputable def lstRep (n : Nat) (x : List AV) : List AV := (List.replicate n x).flatten
noncomputable def mulF : F2
  | .int a, .int b, H => if a.natAbs < 2 ^ 60 then some (.int (a * b), H) else .none
  | .str a, .int n, H => if 0 ≤ n ∧ n ≤ 100 ∧ a.length ≤ 1000 then some (.str (strRep n.toNat a), H) else .none
  | .ref i, .int n, H => (getL H i).bind fun xs => if n ≤ 100 ∧ -1000 ≤ n ∧ xs.length ≤ 1000 then some (.ref H.length, H ++ [.list (lstRep n.toNat xs)]) else .none
  | _, _, _ => .none
theorem foldl_app {α : Type} (L : List (Array α)) : ∀ acc : Array α, (L.foldl (· ++ ·) acc) = (acc.toList ++ (L.map Array.toList).flatten).toArray := by
  induction L with
  | nil => intro acc; simp
  | cons x r ih => intro acc; rw [List.foldl_cons, ih]; simp
theorem VRs.rep {h : Heap} {σ : List Addr} {xs : List AV} {vs : List Value} (x : VRs h σ xs vs) : ∀ n, VRs h σ (lstRep n xs) (List.replicate n vs).flatten
  | 0 => by simp [lstRep, VRs.nil]
  | n + 1 => by
    unfold lstRep
    rw [List.replicate_succ, List.replicate_succ, List.flatten_cons, List.flatten_cons]
    exact x.append (VRs.rep x n)
theorem op_mul : Op2 prog w B l (binaryOp .Mult) mulF := by
  intro A σ H s a b av va vb H' Rm R ra rb e Q E h
  refine bc fun hng => ?_
  unfold mulF at e
  split at e
  · split at e
    · rename_i ha
      simp only [VR] at ra rb
      obtain ⟨t, rfl⟩ := ra
      obtain ⟨u, rfl⟩ := rb
      cases e
      refine hng ?_
      with_reducible refine mul_int ?_ (IntMulOk.of_left ?_)
      · exact h _ _ σ (step_keeps (fun _ _ e => e) (Nat.le_succ _)) R .mkI
      exact intBits_le_64 (by omega) (by omega)
    · cases e
  · rename_i H₀ a n
    split at e
    · rename_i ha
      simp only [VR] at ra rb
      obtain ⟨t, rfl⟩ := ra
      obtain ⟨u, rfl⟩ := rb
      cases e
      obtain ⟨h0, h1, h2⟩ := ha
      have hlen : (Str.mk a.toArray).length = a.length := by simp [Str.length]
      refine hng ?_
      with_reducible refine P.mul_str ?_ ?_ ?_ ?_
      · simp; omega
      · intro q _
        have : (Str.mk a.toArray).length ≤ 1000 := by rw [hlen]; exact h2
        have h3 : (1000 : Int) ≤ (2 ^ 63 - 1) / n := by
          rw [Int.le_ediv_iff_mul_le (by omega)]; omega
        omega
      · intro _ _
        have : a.length * n.toNat ≤ 1000 * 100 := Nat.mul_le_mul h2 (by omega)
        rw [hlen]
        unfold Builtin.Str.tooLong
        simp [sizeLine]; omega
      · by_cases c1 : n < 1
        · rw [if_pos c1]
          have : n = 0 := by omega
          subst this
          refine ⟨by decide, h _ _ σ (step_keeps (fun _ _ e => e) (Nat.le_succ _)) R ?_⟩
          simp only [VR]; exact ⟨s.toks, by simp [strRep]; rfl⟩
        · rw [if_neg c1]
          by_cases c2 : (n == 1 || (Str.mk a.toArray).length == 0) = true
          · rw [if_pos c2]
            refine h _ _ σ .refl R ?_
            simp only [VR]
            refine ⟨t, ?_⟩
            rw [hlen] at c2
            simp only [Bool.or_eq_true, beq_iff_eq] at c2
            rcases c2 with rfl | c2
            · simp [strRep]
            · have : a = [] := List.eq_nil_of_length_eq_zero c2
              subst this
              simp [strRep]
          · rw [if_neg c2]
            refine ⟨?_, h _ _ σ (step_keeps (fun _ _ e => e) (Nat.le_succ _)) R ?_⟩
            · rw [foldl_app]
              have : a.length * n.toNat ≤ 1000 * 100 := Nat.mul_le_mul h2 (by omega)
              rw [Nat.mul_comm] at this
              simp [Str.length, sizeLine, List.length_flatten, List.sum_replicate_nat]; omega
            · simp only [VR]
              refine ⟨s.toks, ?_⟩
              rw [foldl_app]
              simp [strRep]
    · cases e
  · rename_i H₀ i n
    obtain ⟨xs, e1, e⟩ := Option.bind_eq_some_iff.mp e
    split at e
    · rename_i ha
      cases e
      obtain ⟨a, vs, k, rfl, -, -, hg, hv⟩ := R.list ra e1
      simp only [VR] at rb
      obtain ⟨u, rfl⟩ := rb
      obtain ⟨h0, h1, h2⟩ := ha
      obtain ⟨x1, x2, x3⟩ := newL R (hv.rep n.toNat) (Nat.le_refl s.toks)
      have hl := hv.length
      have hm : vs.length * n.toNat ≤ 1000 * 100 := Nat.mul_le_mul (by omega) (by omega)
      refine hng ?_
      refine wpAny_binaryOp_repeat_ref (T := "list") (U := "int") (by decide) ⟨_, hg, rfl⟩ (fun s' => typeIs_int s' n u) noFill_list_mul F.fills_int_mul F.slot_int_rmul repeat_list F.slot_int_index.lookup
        (call_meets F.slot_int_rmul (typeIs_int s n u) F.entry_int_rmul (F.args_int_rmul_2 _ _) (int___rmul___int_list n u a _ k)
          ⟨hg, rfl, ⟨_, hg, rfl⟩, call_meets F.slot_list_mul ⟨_, hg, rfl⟩ F.entry_list_mul (F.args_list_mul_2 _ _)
            (AutoListH.list___mul___list_int_3 a vs.toArray k n u (by simp [Builtin.List.listFitsIndex]; omega) (by simp; omega) (by simp [Builtin.List.listTooLong, sizeLine]; omega))
            ⟨hg, ?_⟩⟩)
      have key : (List.foldl (fun x1 x2 => x1 ++ x2) #[] (List.replicate (if vs.toArray.isEmpty = true then 0 else n.toNat) vs.toArray)) = (List.replicate n.toNat vs).flatten.toArray := by
        rw [foldl_app]
        cases vs with
        | nil => simp
        | cons v r => simp
      rw [key]
      exact h _ _ _ x1 x2 x3
    · cases e
  · cases e
noncomputable def modF : F2
  | .int a, .int b, H => if 0 < b then some (.int (a % b), H) else .none
  | _, _, _ => .none
theorem op_mod : Op2 prog w B l (binaryOp .Mod) modF := by
  intro A σ H s a b av va vb H' Rm R ra rb e Q E h
  refine bc fun hng => ?_
  unfold modF at e
  split at e
  · split at e
    · rename_i hb
      simp only [VR] at ra rb
      obtain ⟨t, rfl⟩ := ra
      obtain ⟨u, rfl⟩ := rb
      cases e
      refine hng ?_
      with_reducible refine mod_int' (by omega) ?_
      rw [Int.fmod_eq_emod_of_nonneg _ (by omega)]
      exact h _ _ σ (step_keeps (fun _ _ e => e) (Nat.le_succ _)) R ⟨_, rfl⟩
    · cases e
  · cases e
noncomputable def fdivF : F2
  | .int a, .int b, H => if 0 < b ∧ b < 1000000 then some (.int (a / b), H) else .none
  | _, _, _ => .none
theorem op_fdiv : Op2 prog w B l (binaryOp .FloorDiv) fdivF := by
  intro A σ H s a b av va vb H' Rm R ra rb e Q E h
  refine bc fun hng => ?_
  unfold fdivF at e
  split at e
  · split at e
    · rename_i hb
      simp only [VR] at ra rb
      obtain ⟨t, rfl⟩ := ra
      obtain ⟨u, rfl⟩ := rb
      cases e
      refine hng ?_
      with_reducible refine floordiv_int ?_ ?_ (Or.inl (PyProof.noPylong_small ?_))
      · omega
      rotate_left
      · omega
      rw [Int.fdiv_eq_ediv_of_nonneg _ (by omega)]
      exact h _ _ σ (step_keeps (fun _ _ e => e) (Nat.le_succ _)) R ⟨_, rfl⟩
    · cases e
  · cases e
noncomputable def powF : F2
  | .int a, .int b, H => if a = 10 ∧ b = 6 then some (.int 1000000, H) else .none
  | _, _, _ => .none
theorem op_pow : Op2 prog w B l (binaryOp .Pow) powF := by
  intro A σ H s a b av va vb H' Rm R ra rb e Q E h
  refine bc fun hng => ?_
  unfold powF at e
  split at e
  · split at e
    · rename_i hb
      obtain ⟨rfl, rfl⟩ := hb
      simp only [VR] at ra rb
      obtain ⟨t, rfl⟩ := ra
      obtain ⟨u, rfl⟩ := rb
      cases e
      refine hng ?_
      with_reducible refine pow_int ?_ ?_ ?_
      · decide
      · decide +kernel
      exact h _ _ σ (step_keeps (fun _ _ e => e) (Nat.le_succ _)) R ⟨_, rfl⟩
    · cases e
  · cases e
-- comparisons
noncomputable def ltF : F2 | .int a, .int b, H => some (.bool (decide (a < b)), H) | _, _, _ => .none
noncomputable def leF : F2 | .int a, .int b, H => some (.bool (decide (a ≤ b)), H) | _, _, _ => .none
noncomputable def gtF : F2 | .int a, .int b, H => some (.bool (decide (b < a)), H) | _, _, _ => .none
noncomputable def geF : F2 | .int a, .int b, H => some (.bool (decide (b ≤ a)), H) | _, _, _ => .none
noncomputable def eqF : F2
  | .int a, .int b, H => some (.bool (decide (a = b)), H)
  | .str a, .str b, H => some (.bool (decide (a = b)), H)
  | _, _, _ => .none
theorem op_lt : Op2 prog w B l (compareOp .Lt) ltF := by
  intro A σ H s a b av va vb H' Rm R ra rb e Q E h
  refine bc fun hng => ?_
  unfold ltF at e
  split at e
  · simp only [VR] at ra rb
    obtain ⟨t, rfl⟩ := ra
    obtain ⟨u, rfl⟩ := rb
    cases e
    refine hng ?_
    with_reducible exact lt_int (h _ _ σ .refl R .mkB)
  · cases e
theorem op_le : Op2 prog w B l (compareOp .LtE) leF := by
  intro A σ H s a b av va vb H' Rm R ra rb e Q E h
  refine bc fun hng => ?_
  unfold leF at e
  split at e
  · simp only [VR] at ra rb
    obtain ⟨t, rfl⟩ := ra
    obtain ⟨u, rfl⟩ := rb
    cases e
    refine hng ?_
    with_reducible exact le_int (h _ _ σ .refl R .mkB)
  · cases e
theorem op_gt : Op2 prog w B l (compareOp .Gt) gtF := by
  intro A σ H s a b av va vb H' Rm R ra rb e Q E h
  refine bc fun hng => ?_
  unfold gtF at e
  split at e
  · simp only [VR] at ra rb
    obtain ⟨t, rfl⟩ := ra
    obtain ⟨u, rfl⟩ := rb
    cases e
    refine hng ?_
    with_reducible exact gt_int (h _ _ σ .refl R .mkB)
  · cases e
theorem op_ge : Op2 prog w B l (compareOp .GtE) geF := by
  intro A σ H s a b av va vb H' Rm R ra rb e Q E h
  refine bc fun hng => ?_
  unfold geF at e
  split at e
  · simp only [VR] at ra rb
    obtain ⟨t, rfl⟩ := ra
    obtain ⟨u, rfl⟩ := rb
    cases e
    refine hng ?_
    with_reducible exact ge_int (h _ _ σ .refl R .mkB)
  · cases e
theorem str_eq_iff (a b : List Nat) : (Str.mk a.toArray == Str.mk b.toArray) = decide (a = b) := by
  rw [Bool.eq_iff_iff]; simp
theorem op_eq : Op2 prog w B l (compareOp .Eq) eqF := by
  intro A σ H s a b av va vb H' Rm R ra rb e Q E h
  refine bc fun hng => ?_
  unfold eqF at e
  split at e
  · simp only [VR] at ra rb
    obtain ⟨t, rfl⟩ := ra
    obtain ⟨u, rfl⟩ := rb
    cases e
    refine hng ?_
    with_reducible exact eq_int (h _ _ σ .refl R .mkB)
  · simp only [VR] at ra rb
    obtain ⟨t, rfl⟩ := ra
    obtain ⟨u, rfl⟩ := rb
    cases e
    refine hng ?_
    with_reducible refine eq_str (h _ _ σ .refl R ?_)
    rw [str_eq_iff]; exact .mkB
  · cases e
/-- reading data off the heap: ints, lists, tuples -/
noncomputable def rd (H : Hp) : Nat → AV → Option PyData
  | 0, _ => .none
  | _ + 1, .int i => some (.int i)
  | n + 1, .tup vs => (vs.mapM (rd H n)).map .tuple
  | n + 1, .ref i => (getL H i).bind fun xs => (xs.mapM (rd H n)).map .list
  | _ + 1, _ => .none
theorem mapM_cons {α β : Type} {f : α → Option β} {a : α} {as : List α} {r : List β} (e : (a :: as).mapM f = some r) : ∃ b bs, f a = some b ∧ as.mapM f = some bs ∧ r = b :: bs := by
  rw [List.mapM_cons] at e
  obtain ⟨b, e1, e⟩ := Option.bind_eq_some_iff.mp e
  obtain ⟨bs, e2, e⟩ := Option.bind_eq_some_iff.mp e
  exact ⟨b, bs, e1, e2, (Option.some.inj e).symm⟩
theorem rd_all {σ : List Addr} {h : Heap} {f : AV → Option PyData} {n : Nat}
    (ih : ∀ a v d, VR h σ a v → f a = some d → (∃ as, Reads h v d as) ∧ d.canLay0 = true ∧ d.depth ≤ n) :
    ∀ (as : List AV) (vs : List Value) (ds : List PyData), VRs h σ as vs → as.mapM f = some ds → (∃ l, ReadsAll h vs ds l) ∧ PyData.canLayAll0 ds = true ∧ PyData.depthAll ds ≤ n
  | [], vs, ds, r, e => by
    simp only [VRs] at r; subst r
    cases e
    exact ⟨⟨_, .nil⟩, rfl, Nat.zero_le _⟩
  | a :: as, vs, ds, r, e => by
    simp only [VRs] at r
    obtain ⟨v, vs', rfl, r1, r2⟩ := r
    obtain ⟨d, ds', e1, e2, rfl⟩ := mapM_cons e
    obtain ⟨⟨l1, h1⟩, c1, d1⟩ := ih a v d r1 e1
    obtain ⟨⟨l2, h2⟩, c2, d2⟩ := rd_all ih as vs' ds' r2 e2
    refine ⟨⟨_, .cons h1 h2⟩, ?_, ?_⟩
    · simp only [PyData.canLayAll0, c1, c2, Bool.and_self]
    · simp only [PyData.depthAll]; omega
theorem rd_ok {σ : List Addr} {H : Hp} {h : Heap} (R : RS B σ H h) : ∀ (n : Nat) (a : AV) (v : Value) (d : PyData), VR h σ a v → rd H n a = some d → (∃ as, Reads h v d as) ∧ d.canLay0 = true ∧ d.depth ≤ n
  | 0, _, _, _, _, e => by cases e
  | n + 1, a, v, d, r, e => by
    cases a with
    | int i =>
      simp only [rd] at e; cases e
      simp only [VR] at r
      obtain ⟨t, rfl⟩ := r
      exact ⟨⟨_, .int i t⟩, rfl, Nat.zero_le _⟩
    | tup as =>
      simp only [rd] at e
      obtain ⟨ds, e1, e2⟩ := Option.map_eq_some_iff.mp e
      subst e2
      simp only [VR] at r
      obtain ⟨x, vs, k, rfl, _, hg, hv⟩ := r
      obtain ⟨⟨l, h1⟩, c1, d1⟩ := rd_all (rd_ok R n) as vs ds hv e1
      refine ⟨⟨_, .tuple hg rfl rfl h1⟩, c1, ?_⟩
      simp only [PyData.depth]; omega
    | ref i =>
      simp only [rd] at e
      obtain ⟨xs, e0, e⟩ := Option.bind_eq_some_iff.mp e
      obtain ⟨ds, e1, e2⟩ := Option.map_eq_some_iff.mp e
      subst e2
      obtain ⟨x, vs, k, rfl, _, _, hg, hv⟩ := R.list r e0
      obtain ⟨⟨l, h1⟩, c1, d1⟩ := rd_all (rd_ok R n) xs vs ds hv e1
      refine ⟨⟨_, .list hg rfl rfl h1⟩, c1, ?_⟩
      simp only [PyData.depth]; omega
    | none => simp [rd] at e
    | bool b => simp [rd] at e
    | str s => simp [rd] at e
    | lint xs => simp [rd] at e
    | rng a b => simp [rd] at e
noncomputable def neF : F2 := fun a b H => (rd H 4 a).bind fun x => (rd H 4 b).bind fun y => some (.bool (!PyData.eqv x y), H)
theorem op_ne : Op2 prog w B l (compareOp .NotEq) neF := by
  intro A σ H s a b av va vb H' Rm R ra rb e Q E h
  refine bc fun hng => ?_
  unfold neF at e
  obtain ⟨x, e1, e⟩ := Option.bind_eq_some_iff.mp e
  obtain ⟨y, e2, e⟩ := Option.bind_eq_some_iff.mp e
  cases e
  obtain ⟨⟨l1, h1⟩, c1, d1⟩ := rd_ok R 4 a va x ra e1
  obtain ⟨⟨l2, h2⟩, c2, d2⟩ := rd_ok R 4 b vb y rb e2
  refine hng ?_
  with_reducible refine SeqAt.compareNe_shaped h1 h2 ?_ ?_ ?_ (h _ _ σ .refl R .mkB)
  · unfold SeqAt.shaped; rw [c1]; simp; omega
  · unfold SeqAt.shaped; rw [c2]; simp; omega
  · have := Rm.u; show A.units + 64 < 9900; omega
/-- string comparison by != -/
noncomputable def neS : F2 | .str a, .str b, H => some (.bool (!decide (a = b)), H) | _, _, _ => .none
theorem op_neS : Op2 prog w B l (compareOp .NotEq) neS := by
  intro A σ H s a b av va vb H' Rm R ra rb e Q E h
  refine bc fun hng => ?_
  unfold neS at e
  split at e
  · simp only [VR] at ra rb
    obtain ⟨t, rfl⟩ := ra
    obtain ⟨u, rfl⟩ := rb
    cases e
    refine hng ?_
    with_reducible refine ne_str (h _ _ σ .refl R ?_)
    rw [bne, str_eq_iff]; exact .mkB
  · cases e
noncomputable def isF : F2
  | .bool a, .bool b, H => some (.bool (decide (a = b)), H)
  | .none, .none, H => some (.bool true, H)
  | _, _, _ => .none
noncomputable def isNotF : F2
  | .bool a, .bool b, H => some (.bool (!decide (a = b)), H)
  | .none, .none, H => some (.bool false, H)
  | _, _, _ => .none
theorem op_is : Op2 prog w B l (compareOp .Is) isF := by
  intro A σ H s a b av va vb H' Rm R ra rb e Q E h
  refine bc fun hng => ?_
  unfold isF at e
  split at e
  · simp only [VR] at ra rb
    subst ra rb
    cases e
    refine hng ?_
    with_reducible refine wpAny_is_plain rfl (h _ _ σ .refl R ?_)
    rename_i a b; cases a <;> cases b <;> exact .mkB
  · simp only [VR] at ra rb
    subst ra rb
    cases e
    refine hng ?_
    with_reducible exact wpAny_is_plain rfl (h _ _ σ .refl R .mkB)
  · cases e
theorem op_isNot : Op2 prog w B l (compareOp .IsNot) isNotF := by
  intro A σ H s a b av va vb H' Rm R ra rb e Q E h
  refine bc fun hng => ?_
  unfold isNotF at e
  split at e
  · simp only [VR] at ra rb
    subst ra rb
    cases e
    refine hng ?_
    with_reducible refine wpAny_isNot_plain rfl (h _ _ σ .refl R ?_)
    rename_i a b; cases a <;> cases b <;> exact .mkB
  · simp only [VR] at ra rb
    subst ra rb
    cases e
    refine hng ?_
    with_reducible exact wpAny_isNot_plain rfl (h _ _ σ .refl R .mkB)
  · cases e
end Mine
end
section
namespace Mine
variable {prog : Program} {w : World} {B : Heap} {mg mb : Str → Option Value} {l : Nat} {sc : Scope}
-- membership
noncomputable def asInts : List AV → Option (List Int)
  | [] => some []
  | .int i :: r => (asInts r).map (i :: ·)
  | _ :: _ => .none
noncomputable def asBools : List AV → Option (List Bool)
  | [] => some []
  | .bool i :: r => (asBools r).map (i :: ·)
  | _ :: _ => .none
theorem VRs.asInts {h : Heap} {σ : List Addr} : ∀ {as : List AV} {vs : List Value} {is : List Int}, VRs h σ as vs → asInts as = some is → IntsAre vs is
  | [], vs, is, r, e => by
    simp only [VRs] at r; subst r
    cases e; exact .nil
  | a :: as, vs, is, r, e => by
    simp only [VRs] at r
    obtain ⟨v, vs', rfl, r1, r2⟩ := r
    cases a <;> simp only [Mine.asInts] at e <;> try (cases e; done)
    obtain ⟨is', e1, e2⟩ := Option.map_eq_some_iff.mp e
    subst e2
    simp only [VR] at r1
    obtain ⟨t, rfl⟩ := r1
    exact .cons _ t (VRs.asInts r2 e1)
theorem VRs.asBools {h : Heap} {σ : List Addr} : ∀ {as : List AV} {vs : List Value} {is : List Bool}, VRs h σ as vs → asBools as = some is → vs = is.map Value.bool
  | [], vs, is, r, e => by
    simp only [VRs] at r; subst r
    cases e; rfl
  | a :: as, vs, is, r, e => by
    simp only [VRs] at r
    obtain ⟨v, vs', rfl, r1, r2⟩ := r
    cases a <;> simp only [Mine.asBools] at e <;> try (cases e; done)
    obtain ⟨is', e1, e2⟩ := Option.map_eq_some_iff.mp e
    subst e2
    simp only [VR] at r1
    subst r1
    rw [VRs.asBools r2 e1]; rfl
noncomputable def inF : F2
  | .int k, .ref i, H => match H[i]? with
    | some (.list xs) => (asInts xs).map fun is => (.bool (decide (k ∈ is)), H)
    | some (.dict _ f) => some (.bool (f k).isSome, H)
    | _ => .none
  | .bool b, .ref i, H => (getL H i).bind fun xs => (asBools xs).map fun bs => (.bool (decide (b ∈ bs)), H)
  | .str [c], .str s, H => some (.bool (decide (c ∈ s)), H)
  | _, _, _ => .none
noncomputable def notInF : F2
  | .int k, .ref i, H => (getL H i).bind fun xs => (asInts xs).map fun is => (.bool (!decide (k ∈ is)), H)
  | _, _, _ => .none
noncomputable def isIntV (k : Int) : Value → Bool
  | .int a _ => a == k
  | _ => false
theorem any_ints {vs : List Value} {is : List Int} (h : IntsAre vs is) (k : Int) : vs.toArray.any (isIntV k) = decide (k ∈ is) := by
  rw [List.any_toArray]
  induction h with
  | nil => rfl
  | cons n t h ih =>
    rw [List.any_cons, ih, Bool.eq_iff_iff]
    simp only [isIntV, Bool.or_eq_true, beq_iff_eq, decide_eq_true_eq, List.mem_cons]
    rw [@eq_comm Int k n]
theorem intsAre_mem {vs : List Value} {is : List Int} (h : IntsAre vs is) : ∀ y ∈ vs, ∃ a t, y = .int a t := by
  induction h with
  | nil => intro y hy; cases hy
  | cons n t h ih =>
    intro y hy
    rcases List.mem_cons.mp hy with rfl | hy
    · exact ⟨_, _, rfl⟩
    · exact ih y hy
theorem RS.dict {σ : List Addr} {H : Hp} {h : Heap} (R : RS B σ H h) {i n : Nat} {f : Int → Option AV} {v : Value} (r : VR h σ (.ref i) v) (e : H[i]? = some (.dict n f)) :
    ∃ a, v = .ref a ∧ σ[i]? = some a ∧ a ∈ σ ∧ h.DictLe a n ∧ ∃ g, h.IntMap a g ∧ ∀ k, (f k = .none ∧ g k = .none) ∨ ∃ av v, f k = some av ∧ g k = some v ∧ VR h σ av v := by
  simp only [VR] at r
  obtain ⟨a, rfl, hi⟩ := r
  obtain ⟨a', h1, h2, h3, h4⟩ := R.get e
  rw [hi] at h1; cases h1
  exact ⟨a, rfl, hi, h2, h3, h4⟩
theorem op_in : Op2 prog w B l (compareOp .In) inF := by
  intro A σ H s a b av va vb H' Rm R ra rb e Q E h
  refine bc fun hng => ?_
  unfold inF at e
  split at e
  · rename_i H₀ k i
    split at e
    · rename_i xs hx
      obtain ⟨is, e1, e⟩ := Option.map_eq_some_iff.mp e
      cases e
      obtain ⟨b, vs, n, rfl, -, -, hg, hv⟩ := R.list rb (xs := xs) (by unfold getL; rw [hx])
      simp only [VR] at ra
      obtain ⟨t, rfl⟩ := ra
      have hi := hv.asInts e1
      refine hng ?_
      with_reducible refine SeqAt.in_listAt (isIntV k) (isL hg) (fun y hy => ?_) ?_
      · obtain ⟨c, u, rfl⟩ := intsAre_mem hi y (by simpa using hy)
        exact SeqAt.EqAt.int_int _ _ _ _
      · rw [any_ints hi]; exact h _ _ σ .refl R .mkB
    · rename_i n f hx
      cases e
      obtain ⟨b, rfl, -, -, hl, g, hg, hr⟩ := R.dict rb hx
      simp only [VR] at ra
      obtain ⟨t, rfl⟩ := ra
      refine hng ?_
      with_reducible refine wpAny_in_intMap hg ?_
      have : (g k).isSome = (f k).isSome := by
        rcases hr k with ⟨h1, h2⟩ | ⟨_, _, h1, h2, _⟩ <;> rw [h1, h2] <;> rfl
      rw [this]
      exact h _ _ σ (step_keeps (fun _ _ e => e) (Nat.le_succ _)) R .mkB
    · cases e
  · rename_i H₀ k i
    obtain ⟨xs, e0, e⟩ := Option.bind_eq_some_iff.mp e
    obtain ⟨bs, e1, e⟩ := Option.map_eq_some_iff.mp e
    cases e
    obtain ⟨b, vs, n, rfl, -, -, hg, hv⟩ := R.list rb e0
    simp only [VR] at ra
    subst ra
    have hi := hv.asBools e1
    subst hi
    refine hng ?_
    with_reducible refine SeqAt.in_listAt (fun y => y == .bool k) (isL hg) (fun y hy => ?_) ?_
    · obtain ⟨c, -, rfl⟩ := List.mem_map.mp (List.mem_toArray.mp hy)
      have := SeqAt.EqAt.bool_bool (A := A.in1) (s := s) c k
      have q : (c == k) = (Value.bool c == Value.bool k) := by cases c <;> cases k <;> rfl
      rw [q] at this; exact this
    · have q : ((bs.map Value.bool).toArray.any fun y => y == .bool k) = decide (k ∈ bs) := by
        rw [List.any_toArray, List.any_map, Bool.eq_iff_iff]
        simp only [List.any_eq_true, Function.comp, beq_iff_eq, decide_eq_true_eq, Value.bool.injEq]
        exact ⟨fun ⟨x, h1, h2⟩ => h2 ▸ h1, fun h1 => ⟨k, h1, rfl⟩⟩
      rw [q]; exact h _ _ σ .refl R .mkB
  · rename_i H₀ c x
    simp only [VR] at ra rb
    obtain ⟨t, rfl⟩ := ra
    obtain ⟨u, rfl⟩ := rb
    cases e
    refine hng ?_
    with_reducible refine in_str ?_
    rw [StrLaws.found_one]
    exact h _ _ σ .refl R .mkB
  · cases e
theorem op_notIn : Op2 prog w B l (compareOp .NotIn) notInF := by
  intro A σ H s a b av va vb H' Rm R ra rb e Q E h
  refine bc fun hng => ?_
  unfold notInF at e
  split at e
  · rename_i H₀ k i
    obtain ⟨xs, e0, e⟩ := Option.bind_eq_some_iff.mp e
    obtain ⟨is, e1, e⟩ := Option.map_eq_some_iff.mp e
    cases e
    obtain ⟨b, vs, n, rfl, -, -, hg, hv⟩ := R.list rb e0
    simp only [VR] at ra
    obtain ⟨t, rfl⟩ := ra
    have hi := hv.asInts e1
    refine hng ?_
    with_reducible refine SeqAt.notIn_listAt (isIntV k) (isL hg) (fun y hy => ?_) ?_
    · obtain ⟨c, u, rfl⟩ := intsAre_mem hi y (by simpa using hy)
      exact SeqAt.EqAt.int_int _ _ _ _
    · rw [any_ints hi]; exact h _ _ σ .refl R .mkB
  · cases e
-- an item
noncomputable def nthI (xs : List AV) (k : Int) : Option AV := if k.natAbs < 1000000 then (if 0 ≤ k then xs[k.toNat]? else if -(xs.length : Int) ≤ k then xs[(k + xs.length).toNat]? else .none) else .none
noncomputable def idxF : F2
  | .ref i, .int k, H => match H[i]? with
    | some (.list xs) => (nthI xs k).map (·, H)
    | some (.dict _ f) => (f k).map (·, H)
    | _ => .none
  | .tup xs, .int k, H => if 0 ≤ k then (nthI xs k).map (·, H) else .none
  | .str cs, .int k, H => if 0 ≤ k ∧ k < 1000000 then (cs[k.toNat]?).map fun c => (.str [c], H) else .none
  | _, _, _ => .none
theorem seqIndex_pos {k : Int} {n : Nat} (h0 : 0 ≤ k) (h1 : k.toNat < n) : seqIndex? k n = some k.toNat := by
  have e1 : ¬ k < 0 := by omega
  have e2 : (0 ≤ k && k < (n : Int)) = true := by simp only [Bool.and_eq_true, decide_eq_true_eq]; omega
  unfold seqIndex?
  simp only [if_neg e1, if_pos e2]
theorem op_idx {value slice : Expr} (hs : ∀ o i, subscripted slice false o i = operate [o, i] (getItem o i)) : Op2 prog w B l (subscriptTail value slice) idxF := by
  intro A σ H s a b av va vb H' Rm R ra rb e Q E h
  refine bc fun hng => ?_
  unfold idxF at e
  split at e
  · rename_i H₀ i k
    split at e
    · rename_i xs hx
      obtain ⟨x, e1, e⟩ := Option.map_eq_some_iff.mp e
      cases e
      obtain ⟨a, vs, n, rfl, -, -, hg, hv⟩ := R.list ra (xs := xs) (by unfold getL; rw [hx])
      simp only [VR] at rb
      obtain ⟨t, rfl⟩ := rb
      have hl := hv.length
      have IL := isL hg
      refine hng ?_
      refine tail_any IL.typeIs slot_list_getitem.lookup ?_ (hs _ _)
      unfold nthI at e1
      split at e1
      · rename_i hk
        split at e1
        · rename_i h0
          obtain ⟨v, h1, h2⟩ := hv.get e1
          exact wpAny_getItem_list IL h0 (by omega) (by simpa using h1) (h v s σ .refl R h2)
        · rename_i h0
          split at e1
          · rename_i h3
            obtain ⟨v, h1, h2⟩ := hv.get e1
            exact wpAny_getItem_list_neg IL (by omega) (by simp; omega) (by omega) (by rw [List.size_toArray, hl]; simpa using h1) (h v s σ .refl R h2)
          · cases e1
      · cases e1
    · rename_i n f hx
      obtain ⟨x, e1, e⟩ := Option.map_eq_some_iff.mp e
      cases e
      obtain ⟨a, rfl, -, -, hl, g, hg, hr⟩ := R.dict ra hx
      simp only [VR] at rb
      obtain ⟨t, rfl⟩ := rb
      rcases hr k with ⟨h1, h2⟩ | ⟨_, v, h1, h2, h3⟩
      · rw [h1] at e1; cases e1
      · rw [h1] at e1; cases e1
        refine hng ?_
        refine tail_any hg.typeIs F.slot_dict_getitem.lookup ?_ (hs _ _)
        exact wpAny_getItem_intMap hg h2 (h v _ σ (step_keeps (fun _ _ e => e) (Nat.le_succ _)) R h3)
    · cases e
  · rename_i H₀ xs k
    split at e
    · rename_i h0
      obtain ⟨x, e1, e⟩ := Option.map_eq_some_iff.mp e
      cases e
      simp only [VR] at ra rb
      obtain ⟨t, rfl⟩ := rb
      obtain ⟨a, vs, n, rfl, ha, hg, hv⟩ := ra
      unfold nthI at e1
      split at e1
      · rename_i hk
        try rw [if_pos h0] at e1
        obtain ⟨v, h1, h2⟩ := hv.get e1
        have hlt := (List.getElem?_eq_some_iff.mp h1).1
        refine hng ?_
        refine tail_any (T := "tuple") ⟨_, hg, rfl⟩ F.slot_tuple_getitem.lookup ?_ (hs _ _)
        exact P.getItem_tuple (k := k.toNat) hg (by omega) (by omega) (seqIndex_pos h0 (by simpa using hlt)) (by simpa using h1) (h v s σ .refl R h2)
      · cases e1
    · cases e
  · rename_i H₀ cs k
    split at e
    · rename_i h0
      obtain ⟨c, e1, e⟩ := Option.map_eq_some_iff.mp e
      cases e
      simp only [VR] at ra rb
      obtain ⟨t, rfl⟩ := rb
      obtain ⟨u, rfl⟩ := ra
      have hlt := (List.getElem?_eq_some_iff.mp e1).1
      refine hng ?_
      refine tail_any (T := "str") rfl F.slot_str_getitem.lookup ?_ (hs _ _)
      refine getItem_str (c := c) (by simp; omega) ?_ (h _ _ σ (step_keeps (fun _ _ e => e) (Nat.le_succ _)) R .mkS)
      rw [seqIndex_pos h0.1 (by simp only [Str.length, List.size_toArray]; exact hlt)]
      simpa using e1
    · cases e
  · cases e
theorem SE.idx {e₁ e₂ : Expr} {p₁ p₂ : EP} {pos : Pos} (h1 : SE prog w B l sc e₁ p₁) (h2 : SE prog w B l sc e₂ p₂) (hs : ∀ o i, subscripted e₂ false o i = operate [o, i] (getItem o i)) :
    SE prog w B l sc (.Subscript e₁ e₂ pos) (bO idxF p₁ p₂) := by
  intro A env σ H lm s av H' Rm n tp R L e Q E h
  with_reducible exact Subscript_ (SE.two h1 h2 (op_idx hs) Rm n tp R L e h)
theorem SE.cmp {e₁ e₂ : Expr} {p₁ p₂ : EP} {f : F2} {op : CmpOp} {pos : Pos} (h1 : SE prog w B l sc e₁ p₁) (h2 : SE prog w B l sc e₂ p₂) (o : Op2 prog w B l (compareOp op) f) (hm : behindInMarks op e₂ = false) :
    SE prog w B l sc (.Compare e₁ [op] [e₂] pos) (bO f p₁ p₂) := by
  intro A env σ H lm s av H' Rm n tp R L e Q E h
  with_reducible exact wpAny_Compare1 (SE.two h1 h2 o Rm n tp R L e h) hm
end Mine
end
section
namespace Mine
variable {prog : Program} {w : World} {B : Heap} {mg mb : Str → Option Value} {l : Nat} {sc : Scope}
-- tests
theorem ST.cmp {e₁ e₂ : Expr} {p₁ p₂ : EP} {f : F2} {op : CmpOp} {pos : Pos} (h1 : SE prog w B l sc e₁ p₁) (h2 : SE prog w B l sc e₂ p₂) (o : Op2 prog w B l (compareOp op) f) (hm : behindInMarks op e₂ = false) :
    ST prog w B l sc (.Compare e₁ [op] [e₂] pos) (fun lm H => (bO f p₁ p₂ lm H).bind fun r => match r.1 with | .bool b => some (b, r.2) | _ => .none) := by
  intro A env σ H lm s b H' Rm n tp R L e Q E h
  refine bc fun hng => ?_
  obtain ⟨⟨av, H₁⟩, e1, e2⟩ := Option.bind_eq_some_iff.mp e
  cases av <;> simp only at e2 <;> try (cases e2; done)
  cases e2
  refine hng ?_
  with_reducible refine wpAny_isTrue_Compare1 (SE.two h1 h2 o Rm n tp R L e1 fun v s' σ' x R' r => ?_) hm
  simp only [VR] at r
  subst r
  with_reducible exact wpAny_truthy_bool (h s' σ' x R')
noncomputable def asB (p : EP) : TP := fun lm H => (p lm H).bind fun r => match r.1 with | .bool b => some (b, r.2) | _ => .none
theorem ST.val {e : Expr} {p : EP} (h1 : SE prog w B l sc e p) (he : ∀ env whole, isTrue e env whole = (do let v ← whole; standAt e.pos; holding [v] (truthy v))) : ST prog w B l sc e (asB p) := by
  intro A env σ H lm s b H' Rm n tp R L e Q E h
  refine bc fun hng => ?_
  obtain ⟨⟨av, H₁⟩, e1, e2⟩ := Option.bind_eq_some_iff.mp e
  cases av <;> simp only at e2 <;> try (cases e2; done)
  cases e2
  refine hng ?_
  with_reducible refine wpAny_isTrue_value (h1 Rm n tp R L e1 fun v s' σ' x R' r => ?_) (he _ _)
  simp only [VR] at r
  subst r
  with_reducible exact wpAny_truthy_bool (h s' σ' x R')
noncomputable def tNot (p : TP) : TP := fun lm H => (p lm H).map fun r => (!r.1, r.2)
theorem ST.not {e : Expr} {p : TP} {pos : Pos} (h1 : ST prog w B l sc e p) : ST prog w B l sc (.UnaryOp .Not e pos) (tNot p) := by
  intro A env σ H lm s b H' Rm n tp R L e Q E h
  refine bc fun hng => ?_
  obtain ⟨⟨b₁, H₁⟩, e1, e2⟩ := Option.map_eq_some_iff.mp e
  cases e2
  refine hng ?_
  with_reducible exact wpAny_isTrue_Not (h1 Rm n tp R L e1 fun s' σ' x R' => h s' σ' x R')
/-- a list of tests -/
noncomputable abbrev SA (prog : Program) (w : World) (B : Heap) (l : Nat) (sc : Scope) (op : BoolOp) (es : List Expr) (p : TP) : Prop :=
  ∀ {A : Around} {env : Env} {σ : List Addr} {H : Hp} {lm : LM} {s : Shared} {b : Bool} {H' : Hp}, Rm A l → En B sc env → Tp B A σ l s → RS B σ H s.heap → LR env s.heap σ lm → p lm H = some (b, H') →
    ∀ {Q : Bool → Shared → Prop} {E : Value → Shared → Prop}, (∀ s' σ', Step [] σ s σ' s' → RS B σ' H' s'.heap → Q b s') → wpAny (model prog w) A (allTrue op es env) Q E s
noncomputable def tK (b : Bool) : TP := fun _ H => some (b, H)
noncomputable def tAnd (p q : TP) : TP := fun lm H => (p lm H).bind fun r => if r.1 = true then q lm r.2 else some (false, r.2)
noncomputable def tOr (p q : TP) : TP := fun lm H => (p lm H).bind fun r => if r.1 = true then some (true, r.2) else q lm r.2
theorem SA.andNil : SA prog w B l sc .And [] (tK true) := by
  intro A env σ H lm s b H' Rm n tp R L e Q E h
  refine bc fun hng => ?_
  cases e
  refine hng ?_
  with_reducible exact wpAny_allTrue_And_nil (h s σ .refl R)
theorem wpAny_allTrue_Or_nil' {M : Model} {A : Around} {E : Value → Shared → Prop} {s : Shared} {env : Env} {Q : Bool → Shared → Prop} (h : Q false s) : wpAny M A (allTrue .Or [] env) Q E s := wpAny_pure h
theorem SA.orNil : SA prog w B l sc .Or [] (tK false) := by
  intro A env σ H lm s b H' Rm n tp R L e Q E h
  refine bc fun hng => ?_
  cases e
  refine hng ?_
  with_reducible exact wpAny_allTrue_Or_nil' (h s σ .refl R)
theorem SA.and {e : Expr} {es : List Expr} {p q : TP} (h1 : ST prog w B l sc e p) (h2 : SA prog w B l sc .And es q) : SA prog w B l sc .And (e :: es) (tAnd p q) := by
  intro A env σ H lm s b H' Rm n tp R L e Q E h
  refine bc fun hng => ?_
  obtain ⟨⟨b₁, H₁⟩, e1, e2⟩ := Option.bind_eq_some_iff.mp e
  refine hng ?_
  with_reducible refine wpAny_allTrue_And_cons (h1 Rm n tp R L e1 fun s' σ' x R' => ?_)
  cases b₁ with
  | true => exact h2 Rm n (Tp.up tp x) R' (L.step x) e2 fun s'' σ'' x' R'' => h s'' σ'' (x.trans' x') R''
  | false => cases e2; exact h s' σ' x R'
theorem SA.or {e : Expr} {es : List Expr} {p q : TP} (h1 : ST prog w B l sc e p) (h2 : SA prog w B l sc .Or es q) : SA prog w B l sc .Or (e :: es) (tOr p q) := by
  intro A env σ H lm s b H' Rm n tp R L e Q E h
  refine bc fun hng => ?_
  obtain ⟨⟨b₁, H₁⟩, e1, e2⟩ := Option.bind_eq_some_iff.mp e
  refine hng ?_
  with_reducible refine wpAny_allTrue_Or_cons (h1 Rm n tp R L e1 fun s' σ' x R' => ?_)
  cases b₁ with
  | false => exact h2 Rm n (Tp.up tp x) R' (L.step x) e2 fun s'' σ'' x' R'' => h s'' σ'' (x.trans' x') R''
  | true => cases e2; exact h s' σ' x R'
theorem ST.bool {op : BoolOp} {es : List Expr} {p : TP} {pos : Pos} (h1 : SA prog w B l sc op es p) : ST prog w B l sc (.BoolOp op es pos) p := by
  intro A env σ H lm s b H' Rm n tp R L e Q E h
  with_reducible exact wpAny_isTrue_BoolOp (h1 Rm n tp R L e h)
/-- a chain of two comparisons as a test -/
noncomputable def tChain (f g : F2) (a b c : EP) : TP := fun lm H => (a lm H).bind fun r => (b lm r.2).bind fun q => (f r.1 q.1 q.2).bind fun u => match u.1 with
  | .bool true => (c lm u.2).bind fun t => (g q.1 t.1 t.2).bind fun v => match v.1 with | .bool b => some (b, v.2) | _ => .none
  | .bool false => some (false, u.2)
  | _ => .none
theorem ST.chain {e₁ e₂ e₃ : Expr} {p₁ p₂ p₃ : EP} {f g : F2} {op op' : CmpOp} {pos : Pos} (h1 : SE prog w B l sc e₁ p₁) (h2 : SE prog w B l sc e₂ p₂) (h3 : SE prog w B l sc e₃ p₃)
    (o : Op2 prog w B l (compareOp op) f) (o' : Op2 prog w B l (compareOp op') g) (hm : lastMarks [op, op'] [e₂, e₃] = false) :
    ST prog w B l sc (.Compare e₁ [op, op'] [e₂, e₃] pos) (tChain f g p₁ p₂ p₃) := by
  intro A env σ H lm s b H' Rm n tp R L e Q E h
  refine bc fun hng => ?_
  obtain ⟨⟨a₁, H₁⟩, e1, e⟩ := Option.bind_eq_some_iff.mp e
  obtain ⟨⟨a₂, H₂⟩, e2, e⟩ := Option.bind_eq_some_iff.mp e
  obtain ⟨⟨a₃, H₃⟩, e3, e⟩ := Option.bind_eq_some_iff.mp e
  refine hng ?_
  with_reducible refine isTrue_chain (h1 Rm n tp R L e1 fun v₁ s₁ σ₁ x₁ R₁ r₁ => ?_) hm
  have tp₁ := Tp.up tp x₁
  with_reducible refine test_link ?_
  refine h2 Rm n tp₁ R₁ (L.step x₁) e2 fun v₂ s₂ σ₂ x₂ R₂ r₂ => ?_
  have tp₂ := Tp.up tp₁ x₂
  refine o Rm R₂ (r₁.step0 x₂) r₂ e3 fun v₃ s₃ σ₃ x₃ R₃ r₃ => ?_
  cases a₃ <;> simp only at e <;> try (cases e; done)
  rename_i b₃
  simp only [VR] at r₃
  subst r₃
  with_reducible refine wpAny_truthy_bool ?_
  cases b₃ with
  | false => cases e; exact h _ _ ((x₁.trans' x₂).trans' x₃) R₃
  | true =>
    obtain ⟨⟨a₄, H₄⟩, e4, e⟩ := Option.bind_eq_some_iff.mp e
    obtain ⟨⟨a₅, H₅⟩, e5, e⟩ := Option.bind_eq_some_iff.mp e
    simp only [if_true]
    rw [show evalEach [] env = [] from rfl]
    with_reducible refine test_last ?_
    refine h3 Rm n (Tp.up tp₂ x₃) R₃ (((L.step x₁).step x₂).step x₃) e4 fun v₄ s₄ σ₄ x₄ R₄ r₄ => ?_
    refine o' Rm R₄ ((r₂.step0 x₃).step0 x₄) r₄ e5 fun v₅ s₅ σ₅ x₅ R₅ r₅ => ?_
    cases a₅ <;> simp only at e <;> try (cases e; done)
    cases e
    simp only [VR] at r₅
    subst r₅
    exact wpAny_truthy_bool (h _ _ ((((x₁.trans' x₂).trans' x₃).trans' x₄).trans' x₅) R₅)
-- values by a test
noncomputable def eIf (t : TP) (a b : EP) : EP := fun lm H => (t lm H).bind fun r => if r.1 = true then a lm r.2 else b lm r.2
theorem SE.ite {e e₁ e₂ : Expr} {t : TP} {p q : EP} {pos : Pos} (h0 : ST prog w B l sc e t) (h1 : SE prog w B l sc e₁ p) (h2 : SE prog w B l sc e₂ q) : SE prog w B l sc (.IfExp e e₁ e₂ pos) (eIf t p q) := by
  intro A env σ H lm s av H' Rm n tp R L e Q E h
  refine bc fun hng => ?_
  obtain ⟨⟨b₁, H₁⟩, e1, e2⟩ := Option.bind_eq_some_iff.mp e
  refine hng ?_
  with_reducible refine wpAny_IfExp (h0 Rm n tp R L e1 fun s' σ' x R' => ?_)
  cases b₁ with
  | true => exact h1 Rm n (Tp.up tp x) R' (L.step x) e2 fun v s'' σ'' x' R'' r => h v s'' σ'' (x.trans' x') R'' r
  | false => exact h2 Rm n (Tp.up tp x) R' (L.step x) e2 fun v s'' σ'' x' R'' r => h v s'' σ'' (x.trans' x') R'' r
noncomputable def eAnd (a b : EP) : EP := fun lm H => (a lm H).bind fun r => match r.1 with
  | .bool true => b lm r.2
  | .bool false => some (.bool false, r.2)
  | _ => .none
theorem SE.and2 {e₁ e₂ : Expr} {p q : EP} {pos : Pos} (h1 : SE prog w B l sc e₁ p) (h2 : SE prog w B l sc e₂ q) : SE prog w B l sc (.BoolOp .And [e₁, e₂] pos) (eAnd p q) := by
  intro A env σ H lm s av H' Rm n tp R L e Q E h
  refine bc fun hng => ?_
  obtain ⟨⟨a₁, H₁⟩, e1, e⟩ := Option.bind_eq_some_iff.mp e
  refine hng ?_
  with_reducible refine wpAny_And2 (h1 Rm n tp R L e1 fun v s' σ' x R' r => ?_)
  cases a₁ <;> simp only at e <;> try (cases e; done)
  rename_i b
  simp only [VR] at r
  subst r
  with_reducible refine wpAny_truthy_bool ?_
  cases b with
  | true => exact h2 Rm n (Tp.up tp x) R' (L.step x) e fun v s'' σ'' x' R'' r => h v s'' σ'' (x.trans' x') R'' r
  | false => cases e; exact h _ _ _ x R' .mkB
noncomputable def eNeg (a : EP) : EP := fun lm H => (a lm H).bind fun r => match r.1 with | .int i => some (.int (-i), r.2) | _ => .none
theorem SE.neg {e₁ : Expr} {p : EP} {pos : Pos} (h1 : SE prog w B l sc e₁ p) : SE prog w B l sc (.UnaryOp .USub e₁ pos) (eNeg p) := by
  intro A env σ H lm s av H' Rm n tp R L e Q E h
  refine bc fun hng => ?_
  obtain ⟨⟨a₁, H₁⟩, e1, e⟩ := Option.bind_eq_some_iff.mp e
  refine hng ?_
  with_reducible refine wpAny_UnaryOp (h1 Rm n tp R L e1 fun v s' σ' x R' r => ?_)
  cases a₁ <;> simp only at e <;> try (cases e; done)
  cases e
  simp only [VR] at r
  obtain ⟨t, rfl⟩ := r
  with_reducible refine neg_int ?_
  exact h _ _ σ' (x.trans' (step_keeps (fun _ _ e => e) (Nat.le_succ _))) R' .mkI
-- lists of expressions, displays
noncomputable def esN : EPs := fun _ H => some ([], H)
noncomputable def esC (p : EP) (q : EPs) : EPs := fun lm H => (p lm H).bind fun r => (q lm r.2).bind fun u => some (r.1 :: u.1, u.2)
theorem SEs.nil : SEs prog w B l sc [] esN := by
  intro A env σ H lm s avs H' pos Rm n tp R L e Q E h
  refine bc fun hng => ?_
  cases e
  refine hng ?_
  with_reducible exact wpAny_items_nil (h _ _ σ .refl R .nil)
theorem SEs.cons {e : Expr} {es : List Expr} {p : EP} {q : EPs} (h1 : SE prog w B l sc e p) (h2 : SEs prog w B l sc es q) (he : ∀ env, starEach (e :: es) env = (false, eval e env) :: starEach es env) :
    SEs prog w B l sc (e :: es) (esC p q) := by
  intro A env σ H lm s avs H' pos Rm n tp R L e Q E h
  refine bc fun hng => ?_
  obtain ⟨⟨a₁, H₁⟩, e1, e⟩ := Option.bind_eq_some_iff.mp e
  obtain ⟨⟨a₂, H₂⟩, e2, e⟩ := Option.bind_eq_some_iff.mp e
  cases e
  refine hng ?_
  with_reducible refine wpAny_items_cons (h1 Rm n tp R L e1 fun v s' σ' x R' r => ?_) (he env)
  exact h2 Rm n (Tp.up tp x) R' (L.step x) e2 fun vs s'' σ'' x' R'' r' => h _ _ _ (x.trans' x') R'' (.cons (r.step0 x') r')
theorem dead_next {s : Shared} : s.heap.get? s.heap.objs.size = .none := by
  cases e : s.heap.get? s.heap.objs.size with
  | none => rfl
  | some o => exact absurd (Heap.lt_size e) (Nat.lt_irrefl _)
/-- a new tuple -/
theorem newT {σ : List Addr} {H : Hp} {s : Shared} (R : RS B σ H s.heap) {xs : List AV} {vs : List Value} (r : VRs s.heap σ xs vs) {tk : Nat} (ht : s.toks ≤ tk) :
    Step [] σ s σ { s with heap := s.heap.push { cls := .type "tuple", data := .seq vs.toArray }, toks := tk } ∧
    RS B σ H (s.heap.push { cls := .type "tuple", data := .seq vs.toArray }) ∧
    VR (s.heap.push { cls := .type "tuple", data := .seq vs.toArray }) σ (.tup xs) (.ref s.heap.objs.size) := by
  have hk : ∀ b o, s.heap.get? b = some o → (s.heap.push { cls := .type "tuple", data := .seq vs.toArray }).get? b = some o := fun b o e => Heap.get?_push_of_some _ e
  have st := step_keeps (σ := σ) (tk := tk) hk ht
  refine ⟨st, R.keeps hk, ?_⟩
  simp only [VR]
  exact ⟨_, vs, 0, rfl, fun q => R.live _ q dead_next, Heap.get?_push_size _ rfl, r.step0 st⟩
noncomputable def eList (ps : EPs) : EP := fun lm H => (ps lm H).bind fun r => if r.1.length ≤ 100 then some (.ref r.2.length, r.2 ++ [.list r.1]) else .none
noncomputable def eTup (ps : EPs) : EP := fun lm H => (ps lm H).bind fun r => if r.1.length ≤ 100 then some (.tup r.1, r.2) else .none
theorem SE.list {es : List Expr} {ps : EPs} {pos : Pos} (h1 : SEs prog w B l sc es ps) : SE prog w B l sc (.List es pos) (eList ps) := by
  intro A env σ H lm s av H' Rm n tp R L e Q E h
  refine bc fun hng => ?_
  obtain ⟨⟨a₁, H₁⟩, e1, e⟩ := Option.bind_eq_some_iff.mp e
  split at e
  · rename_i hl
    cases e
    refine hng ?_
    with_reducible refine wpAny_List (h1 Rm n tp R L e1 fun vs s' σ' x R' r => ?_)
    have hlen := r.length
    obtain ⟨x1, x2, x3⟩ := newL R' r (Nat.le_refl s'.toks)
    exact ⟨by rw [sizeLine_eq]; simp only at hl; omega, h _ _ _ (x.trans' x1) x2 x3⟩
  · cases e
theorem SE.tuple {es : List Expr} {ps : EPs} {k : Nat} {pos : Pos} (h1 : SEs prog w B l sc es ps) : SE prog w B l sc (.Tuple es k pos) (eTup ps) := by
  intro A env σ H lm s av H' Rm n tp R L e Q E h
  refine bc fun hng => ?_
  obtain ⟨⟨a₁, H₁⟩, e1, e⟩ := Option.bind_eq_some_iff.mp e
  split at e
  · rename_i hl
    cases e
    refine hng ?_
    with_reducible refine wpAny_Tuple (h1 Rm n tp R L e1 fun vs s' σ' x R' r => ?_)
    have hlen := r.length
    obtain ⟨x1, x2, x3⟩ := newT R' r (Nat.le_refl s'.toks)
    exact ⟨by rw [sizeLine_eq]; simp only at hl; omega, h _ _ _ (x.trans' x1) x2 x3⟩
  · cases e
noncomputable def eDict : EP := fun _ H => some (.ref H.length, H ++ [.dict 0 fun _ => .none])
theorem SE.dict {pos : Pos} : SE prog w B l sc (.Dict [] [] pos) eDict := by
  intro A env σ H lm s av H' Rm n tp R L e Q E h
  refine bc fun hng => ?_
  cases e
  refine hng ?_
  with_reducible refine wpAny_Dict_empty ?_
  have hk : ∀ b o, s.heap.get? b = some o → (s.heap.push { cls := .type "dict", data := .dict #[] }).get? b = some o := fun b o e => Heap.get?_push_of_some _ e
  have hn : (s.heap.push { cls := .type "dict", data := .dict #[] }).get? s.heap.objs.size = some { cls := .type "dict", data := .dict #[] } := Heap.get?_push_size _ rfl
  refine h _ _ _ (step_alloc (tk := s.toks) R hk dead_next (Nat.le_refl _)) (R.alloc hk dead_next (by rw [hn]; exact fun q => nomatch q) ⟨fun o es ep h1 h2 => ?_, _, Heap.IntMap.new _, fun k => .inl ⟨rfl, rfl⟩⟩) (.mkR (by rw [← R.len]; simp))
  rw [hn] at h1; cases h1; cases h2; exact Nat.zero_le _
end Mine
end
section
namespace Mine
variable {prog : Program} {w : World} {B : Heap} {mg mb : Str → Option Value} {l : Nat} {sc : Scope}
noncomputable abbrev FG := List AV → Hp → Option (AV × Hp)
noncomputable abbrev FC (prog : Program) (w : World) (B : Heap) (l : Nat) (f : Value) (g : FG) : Prop :=
  ∀ {A : Around} {σ : List Addr} {H : Hp} {s : Shared} {avs : List AV} {vs : List Value} {av : AV} {H' : Hp}, Rm A l → Fp B A σ s.heap → RS B σ H s.heap → VRs s.heap σ avs vs → g avs H = some (av, H') →
    ∀ {Q : Value → Shared → Prop} {E : Value → Shared → Prop}, (∀ v s' σ', Step [] σ s σ' s' → RS B σ' H' s'.heap → VR s'.heap σ' av v → Q v s') → wpAny (model prog w) A (call f vs) Q E s
theorem VRs.one' {h : Heap} {σ : List Addr} {a : AV} {vs : List Value} (x : VRs h σ [a] vs) : ∃ v, vs = [v] ∧ VR h σ a v := by
  simp only [VRs] at x
  obtain ⟨v, vs', rfl, h1, rfl⟩ := x
  exact ⟨v, rfl, h1⟩
theorem VRs.two' {h : Heap} {σ : List Addr} {a b : AV} {vs : List Value} (x : VRs h σ [a, b] vs) : ∃ v u, vs = [v, u] ∧ VR h σ a v ∧ VR h σ b u := by
  simp only [VRs] at x
  obtain ⟨v, vs', rfl, h1, u, vs'', rfl, h2, rfl⟩ := x
  exact ⟨v, u, rfl, h1, h2⟩
noncomputable def lenG : FG
  | [.ref i], H => (getL H i).bind fun xs => if xs.length ≤ 100000 then some (.int xs.length, H) else .none
  | [.tup xs], H => if xs.length ≤ 100000 then some (.int xs.length, H) else .none
  | [.str xs], H => if xs.length ≤ 100000 then some (.int xs.length, H) else .none
  | _, _ => .none
theorem fc_len : FC prog w B l (.builtin "len") lenG := by
  intro A σ H s avs vs av H' Rm fp R ra e Q E h
  refine bc fun hng => ?_
  unfold lenG at e
  split at e
  · obtain ⟨v, rfl, r⟩ := ra.one'
    obtain ⟨xs, e1, e⟩ := Option.bind_eq_some_iff.mp e
    split at e
    · rename_i hl
      cases e
      obtain ⟨a, vs, n, rfl, -, -, hg, hv⟩ := R.list r e1
      have hlen := hv.length
      refine hng ?_
      refine Calls.call_len_list (isL hg) (by simp; omega) ?_
      rw [List.size_toArray, hlen]
      exact h _ _ σ (step_keeps (fun _ _ e => e) (Nat.le_add_right _ 2)) R .mkI
    · cases e
  · obtain ⟨v, rfl, r⟩ := ra.one'
    split at e
    · rename_i hl
      cases e
      simp only [VR] at r
      obtain ⟨a, vs, n, rfl, -, hg, hv⟩ := r
      have hlen := hv.length
      refine hng ?_
      refine P.len_tuple hg (by simp; omega) ?_
      rw [List.size_toArray, hlen]
      exact h _ _ σ (step_keeps (fun _ _ e => e) (Nat.le_add_right _ 2)) R .mkI
    · cases e
  · obtain ⟨v, rfl, r⟩ := ra.one'
    split at e
    · rename_i hl
      cases e
      simp only [VR] at r
      obtain ⟨t, rfl⟩ := r
      refine hng ?_
      refine P.len_str (by simp [Str.length]; omega) ?_
      simp only [Str.length, List.size_toArray]
      exact h _ _ σ (step_keeps (fun _ _ e => e) (Nat.le_add_right _ 2)) R .mkI
    · cases e
  · cases e
noncomputable def maxG : FG | [.int a, .int b], H => some (.int (max a b), H) | _, _ => .none
noncomputable def minG : FG | [.int a, .int b], H => some (.int (min a b), H) | _, _ => .none
theorem fc_max : FC prog w B l (.builtin "max") maxG := by
  intro A σ H s avs vs av H' Rm fp R ra e Q E h
  refine bc fun hng => ?_
  unfold maxG at e
  split at e
  · rename_i H₀ a b
    obtain ⟨v, u, rfl, r1, r2⟩ := ra.two'
    cases e
    simp only [VR] at r1 r2
    obtain ⟨t, rfl⟩ := r1
    obtain ⟨t', rfl⟩ := r2
    refine hng ?_
    refine wpAny_with_toks (Nat.le_refl s.toks) (max_two_ints Rm.hh fun h' tk hk hle => h _ _ σ (step_keeps hk hle) (R.keeps hk) ?_)
    split
    · rw [Int.max_eq_right (by omega)]; exact .mkI
    · rw [Int.max_eq_left (by omega)]; exact .mkI
  · cases e
theorem fc_min : FC prog w B l (.builtin "min") minG := by
  intro A σ H s avs vs av H' Rm fp R ra e Q E h
  refine bc fun hng => ?_
  unfold minG at e
  split at e
  · rename_i H₀ a b
    obtain ⟨v, u, rfl, r1, r2⟩ := ra.two'
    cases e
    simp only [VR] at r1 r2
    obtain ⟨t, rfl⟩ := r1
    obtain ⟨t', rfl⟩ := r2
    refine hng ?_
    refine wpAny_with_toks (Nat.le_refl s.toks) (min_two_ints Rm.hh fun h' tk hk hle => h _ _ σ (step_keeps hk hle) (R.keeps hk) ?_)
    split
    · rw [Int.min_eq_right (by omega)]; exact .mkI
    · rw [Int.min_eq_left (by omega)]; exact .mkI
  · cases e
noncomputable def rngG : FG
  | [.int n], H => some (.rng 0 n, H)
  | [.int a, .int b], H => some (.rng a b, H)
  | _, _ => .none
theorem fc_rng : FC prog w B l (.type "range") rngG := by
  intro A σ H s avs vs av H' Rm fp R ra e Q E h
  refine bc fun hng => ?_
  unfold rngG at e
  split at e
  · obtain ⟨v, rfl, r⟩ := ra.one'
    cases e
    simp only [VR] at r
    obtain ⟨t, rfl⟩ := r
    have hk : ∀ o, ∀ b o', s.heap.get? b = some o' → (s.heap.push o).get? b = some o' := fun o b o' e => Heap.get?_push_of_some _ e
    refine hng ?_
    refine call_range_1 (h _ _ σ (step_keeps (hk _) (Nat.le_add_right _ 2)) (R.keeps (hk _)) ?_)
    simp only [VR]
    exact ⟨_, _, _, _, rfl, fun q => R.live _ q dead_next, IsRange.new _ _ _ _ _ _ _⟩
  · obtain ⟨v, u, rfl, r1, r2⟩ := ra.two'
    cases e
    simp only [VR] at r1 r2
    obtain ⟨t, rfl⟩ := r1
    obtain ⟨t', rfl⟩ := r2
    have hk : ∀ o, ∀ b o', s.heap.get? b = some o' → (s.heap.push o).get? b = some o' := fun o b o' e => Heap.get?_push_of_some _ e
    refine hng ?_
    refine call_range_2 (h _ _ σ (step_keeps (hk _) (Nat.le_succ _)) (R.keeps (hk _)) ?_)
    simp only [VR]
    exact ⟨_, _, _, _, rfl, fun q => R.live _ q dead_next, IsRange.new _ _ _ _ _ _ _⟩
  · cases e
noncomputable def tupG : FG | [.ref i], H => (getL H i).bind fun xs => if xs.length ≤ 100000 then some (.tup xs, H) else .none | _, _ => .none
theorem fc_tup : FC prog w B l (.type "tuple") tupG := by
  intro A σ H s avs vs av H' Rm fp R ra e Q E h
  refine bc fun hng => ?_
  unfold tupG at e
  split at e
  · obtain ⟨v, rfl, r⟩ := ra.one'
    obtain ⟨xs, e1, e⟩ := Option.bind_eq_some_iff.mp e
    split at e
    · rename_i hl
      cases e
      obtain ⟨a, vs, n, rfl, -, -, hg, hv⟩ := R.list r e1
      have hlen := hv.length
      refine hng ?_
      refine call_tuple_list (isL hg) (fun h' hk => ?_) (by rw [sizeLine_eq]; simp; omega)
      have st1 := step_keeps (σ := σ) (s := s) (tk := s.toks) hk (Nat.le_refl _)
      obtain ⟨x1, x2, x3⟩ := newT (s := { s with heap := h' }) (R.keeps hk) (hv.step0 st1) (Nat.le_refl s.toks)
      exact h _ _ σ (st1.trans' x1) x2 x3
    · cases e
  · cases e
noncomputable def sumG : FG | [.ref i], H => (getL H i).bind fun xs => (asInts xs).map fun is => (.int (preSum (fun j => is.getD j 0) is.length), H) | _, _ => .none
theorem fc_sum : FC prog w B l (.builtin "sum") sumG := by
  intro A σ H s avs vs av H' Rm fp R ra e Q E h
  refine bc fun hng => ?_
  unfold sumG at e
  split at e
  · obtain ⟨v, rfl, r⟩ := ra.one'
    obtain ⟨xs, e1, e⟩ := Option.bind_eq_some_iff.mp e
    obtain ⟨is, e2, e⟩ := Option.map_eq_some_iff.mp e
    cases e
    obtain ⟨a, vs, n, rfl, -, -, hg, hv⟩ := R.list r e1
    have hi := hv.asInts e2
    have hlt := Heap.lt_size hg
    refine hng ?_
    refine wpAny_with_toks (Nat.le_refl s.toks) (call_sum_walkG (wpAny_pyIter_list (isL hg) ⟨_, _, _, _, _, _, fun j => is.getD j 0, rfl, Walks.list (A := A.in1) Rm.hh s.heap.objs.size a (Nat.ne_of_lt hlt) vs.toArray, ⟨⟨_, Heap.get?_push_size _ rfl, rfl, rfl⟩, (isL hg).push _⟩, ?_, ?_, ?_⟩))
    · intro b hb
      rw [Heap.size_push]
      rcases List.mem_cons.mp hb with rfl | hb
      · exact Nat.lt_succ_self _
      · rw [List.mem_singleton.mp hb]; exact Nat.lt_succ_of_lt hlt
    · intro i v hv'
      have : vs[i]? = some v := by simpa using hv'
      exact hi.int_at i v this
    · intro h' tk t' hk hle
      have hk' : ∀ b o, s.heap.get? b = some o → h'.get? b = some o := fun b o e => hk b o (fun q => by
        rw [List.mem_singleton.mp q, dead_next] at e; cases e) (Heap.get?_push_of_some _ e)
      have : vs.toArray.size = is.length := by simp [hi.length]
      rw [this]
      exact h _ _ σ (step_keeps hk' hle) (R.keeps hk') .mkI
  · cases e
-- changes of a list
theorem setL {σ : List Addr} {H : Hp} {s : Shared} {i : Nat} {a : Addr} {vs : List Value} {n : Nat} (R : RS B σ H s.heap) (hi : σ[i]? = some a) (hg : s.heap.get? a = some { cls := .type "list", data := .seq vs.toArray n })
    (f : Array Value → Array Value) {ys : List AV} {us : List Value} (hf : f vs.toArray = us.toArray) (hu : VRs s.heap σ ys us) :
    Step [] σ s σ { s with heap := s.heap.update a (Obj.mapSeq f) } ∧ RS B σ (H.set i (.list ys)) (s.heap.update a (Obj.mapSeq f)) := by
  have hn := IsL.update hg f
  rw [hf] at hn
  have hk : ∀ b o, b ≠ a → s.heap.get? b = some o → (s.heap.update a (Obj.mapSeq f)).get? b = some o := fun b o hb e => (Heap.get?_update_other _ _ (Ne.symm hb)).trans e
  have hl : (s.heap.update a (Obj.mapSeq f)).get? a ≠ .none := by rw [hn]; exact fun q => nomatch q
  have st := step_set (s := s) (tk := s.toks) hi hk hl (Nat.le_refl _)
  exact ⟨st, R.set hi hk hl ⟨us, _, hn, hu.step0 st⟩⟩
noncomputable def appG : FG | [.ref i, v], H => (getL H i).bind fun xs => if xs.length ≤ 100000 then some (.none, H.set i (.list (xs ++ [v]))) else .none | _, _ => .none
theorem fc_app : FC prog w B l (.builtin "list.append") appG := by
  intro A σ H s avs vs av H' Rm fp R ra e Q E h
  refine bc fun hng => ?_
  unfold appG at e
  split at e
  · obtain ⟨v, u, rfl, r, ru⟩ := ra.two'
    obtain ⟨xs, e1, e⟩ := Option.bind_eq_some_iff.mp e
    split at e
    · rename_i hl
      cases e
      obtain ⟨a, vs, n, rfl, hi, -, hg, hv⟩ := R.list r e1
      have hlen := hv.length
      obtain ⟨x1, x2⟩ := setL R hi hg (fun x => x.push u) (us := vs ++ [u]) (by simp) (hv.append (.one ru))
      refine hng ?_
      exact call_meets F.slot_list_append ⟨_, hg, rfl⟩ F.entry_list_append (F.args_list_append_2 _ _) (PySem.list_append a vs.toArray n u (by rw [sizeLine_eq]; simp; omega)) ⟨hg, h _ _ _ x1 x2 .mkN⟩
    · cases e
  · cases e
noncomputable def popG : FG | [.ref i], H => (getL H i).bind fun xs => if xs.length ≤ 100000 then (xs[xs.length - 1]?).map fun v => (v, H.set i (.list xs.dropLast)) else .none | _, _ => .none
theorem fc_pop : FC prog w B l (.builtin "list.pop") popG := by
  intro A σ H s avs vs av H' Rm fp R ra e Q E h
  refine bc fun hng => ?_
  unfold popG at e
  split at e
  · obtain ⟨v, rfl, r⟩ := ra.one'
    obtain ⟨xs, e1, e⟩ := Option.bind_eq_some_iff.mp e
    split at e
    · rename_i hl
      obtain ⟨x, e2, e⟩ := Option.map_eq_some_iff.mp e
      cases e
      obtain ⟨a, vs, n, rfl, hi, -, hg, hv⟩ := R.list r e1
      have hlen := hv.length
      obtain ⟨y, h1, h2⟩ := hv.get e2
      have hlt := (List.getElem?_eq_some_iff.mp h1).1
      obtain ⟨x1, x2⟩ := setL R hi hg (fun z => z.eraseIdxIfInBounds (vs.toArray.size - 1)) (us := vs.dropLast) (by
        simp) hv.dropLast
      refine hng ?_
      exact call_meets F.slot_list_pop ⟨_, hg, rfl⟩ F.entry_list_pop (F.args_list_pop_1 _) (MeetsSeq.list_pop_last a vs.toArray n y (by rw [List.size_toArray, hlen]; simpa using h1) (by rw [sizeLine_eq]; simp; omega)) ⟨hg, h _ _ _ x1 x2 (h2.step0 x1)⟩
    · cases e
  · cases e
noncomputable def extG : FG | [.ref i, .ref j], H => (getL H i).bind fun xs => (getL H j).bind fun ys => if xs.length + ys.length ≤ 100000 then some (.none, H.set i (.list (xs ++ ys))) else .none | _, _ => .none
theorem fc_ext : FC prog w B l (.builtin "list.extend") extG := by
  intro A σ H s avs vs av H' Rm fp R ra e Q E h
  refine bc fun hng => ?_
  unfold extG at e
  split at e
  · obtain ⟨v, u, rfl, r, ru⟩ := ra.two'
    obtain ⟨xs, e1, e⟩ := Option.bind_eq_some_iff.mp e
    obtain ⟨ys, e2, e⟩ := Option.bind_eq_some_iff.mp e
    split at e
    · rename_i hl
      cases e
      obtain ⟨a, vs, n, rfl, hi, -, hg, hv⟩ := R.list r e1
      obtain ⟨b, us, k, rfl, -, -, hb, hu⟩ := R.list ru e2
      have hlen := hv.length
      have hlen' := hu.length
      obtain ⟨x1, x2⟩ := setL R hi hg (fun x => x ++ us.toArray) (us := vs ++ us) (by simp) (hv.append hu)
      refine hng ?_
      exact call_meets F.slot_list_extend ⟨_, hg, rfl⟩ F.entry_list_extend (F.args_list_extend_2 _ _) (AutoSeq1.list_extend_list_list_0 a vs.toArray n b us.toArray k (by simp [Builtin.List.listTooLong, sizeLine]; omega) (by rw [sizeLine_eq]; simp; omega) (by rw [sizeLine_eq]; simp; omega)) ⟨hg, hb, h _ _ _ x1 x2 .mkN⟩
    · cases e
  · cases e
-- calls
/-- the callee's keeper is told -/
noncomputable abbrev Kp (prog : Program) (w : World) (B : Heap) (f : Value) : Prop := ∃ k, (k = Keeper.frame ∨ k = Keeper.machine ∨ k = Keeper.boundFrame) ∧ Looks (model prog w) B (keeperOf f) k
theorem kp_builtin {id : String} : Kp prog w B (.builtin id) := ⟨.machine, .inr (.inl rfl), Looks.of_pure rfl⟩
theorem kp_type {id : String} : Kp prog w B (.type id) := ⟨.machine, .inr (.inl rfl), Looks.of_pure rfl⟩
noncomputable def cG (g : FG) (ps : EPs) : EP := fun lm H => (ps lm H).bind fun r => g r.1 r.2
theorem callArgs {f : Value} {g : FG} {l' : Nat} {es : List Expr} {ps : EPs} {pos : Pos} (fc : FC prog w B l' f g) (kp : Kp prog w B f) (hl : l' ≤ l) (h1 : SEs prog w B l sc es ps) (hne : ∀ env, (starEach es env).any (·.1) = false) (he : ∀ env, match es with | [] => True | e0 :: r => starEach (e0 :: r) env = (false, eval e0 env) :: starEach r env)
    {A : Around} {env : Env} {σ : List Addr} {H : Hp} {lm : LM} {s : Shared} {av : AV} {H' : Hp} (Rm : Rm A l) (n : En B sc env) (tp : Tp B A σ l s) (R : RS B σ H s.heap) (L : LR env s.heap σ lm)
    {first : List Value} {favs : List AV} (rf : VRs s.heap σ favs first) (e : ((ps lm H).bind fun r => g (favs ++ r.1) r.2) = some (av, H'))
    {Q : Value → Shared → Prop} {E : Value → Shared → Prop} (h : ∀ v s' σ', Step [] σ s σ' s' → RS B σ' H' s'.heap → VR s'.heap σ' av v → Q v s') :
    wpAny (model prog w) A (callWith pos f first (backTo pos (starEach es env)) []) Q E s := by
  obtain ⟨⟨avs, H₁⟩, e1, e⟩ := Option.bind_eq_some_iff.mp e
  have hany : ((backTo pos (starEach es env)).any (·.1) || ([] : List (Option Str × Sem Value)).any (·.1.isNone)) = false := by
    unfold backTo
    rw [List.any_map]
    exact (congrArg (· || false) (hne env))
  have fin : ∀ vs s' σ', Step [] σ s σ' s' → RS B σ' H₁ s'.heap → VRs s'.heap σ' avs vs → (B.StaysIn s'.heap ∧ wpAny (model prog w) A (call f (first ++ vs)) Q E s') := fun vs s' σ' x R' r =>
    ⟨R'.base, fc (Rm.le hl) (tp.f.step x) R' ((rf.step0 x).append r) e fun v s'' σ'' x' R'' r' => h _ _ _ (x.trans' x') R'' r'⟩
  refine callWith_of (P := fun h => B.StaysIn h) hany (fun h hb => by obtain ⟨k, a, b⟩ := kp; exact ⟨k, a, b.keeps hb⟩) ?_
  cases es with
  | nil =>
    have q1 := h1 (pos := pos) Rm n tp R L e1 fin (E := E)
    unfold evalArgs
    refine wpAny_bind (wpAny_mono q1 (fun vs s' h' => wpAny_bind (wpAny_pure (wpAny_holding ?_))) fun _ _ x => x)
    exact wpAny_bind (wpAny_pure (wpAny_bind (wpAny_pure (wpAny_pure h'))))
  | cons e0 es =>
    have q := he env
    have q1 := h1 (pos := pos) Rm n tp R L e1 fin (E := E)
    simp only at q
    rw [q] at q1 ⊢
    exact Calls.evalArgs_plain q1
/-- a call of a global of the text's -/
theorem SE.callG {x : Str} {f : Value} {g : FG} {l' : Nat} {es : List Expr} {ps : EPs} {p0 pos : Pos} (fc : FC prog w B l' f g) (kp : Kp prog w B f) (G : GB B mg mb) (hv : mg x = some f)
    (h1 : SEs prog w B l sc es ps) (hl : l' ≤ l) (hk : sc.names.lookup x = some .globalImplicit) (hd : (x == ("__debug__" : Str)) = false) (hne : ∀ env, (starEach es env).any (·.1) = false)
    (he : ∀ env, match es with | [] => True | e0 :: r => starEach (e0 :: r) env = (false, eval e0 env) :: starEach r env) :
    SE prog w B l sc (.Call (.Name x p0) es [] pos) (cG g ps) := by
  intro A env σ H lm s av H' Rm n tp R L e Q E h
  refine Call_ ?_
  refine Calls.Name_function_global n.fn ((n.kindOf x).trans hk) (Calls.loadGlobal_global (by rw [n.g]; exact Heap.Ns.at'' G.g (R.base _)) hv ?_) hd
  exact callArgs fc kp hl h1 hne he Rm n tp R L (favs := []) .nil e h
/-- a call of a built-in -/
theorem SE.callB {x : Str} {f : Value} {g : FG} {l' : Nat} {es : List Expr} {ps : EPs} {p0 pos : Pos} (fc : FC prog w B l' f g) (kp : Kp prog w B f) (G : GB B mg mb) (hm : mg x = Option.none) (hv : mb x = some f)
    (h1 : SEs prog w B l sc es ps) (hl : l' ≤ l) (hk : sc.names.lookup x = some .globalImplicit) (hd : (x == ("__debug__" : Str)) = false) (hne : ∀ env, (starEach es env).any (·.1) = false)
    (he : ∀ env, match es with | [] => True | e0 :: r => starEach (e0 :: r) env = (false, eval e0 env) :: starEach r env) :
    SE prog w B l sc (.Call (.Name x p0) es [] pos) (cG g ps) := by
  intro A env σ H lm s av H' Rm n tp R L e Q E h
  refine Call_ ?_
  refine Calls.Name_function_global n.fn ((n.kindOf x).trans hk) (Calls.loadGlobal_builtin (by rw [n.g]; exact Heap.Ns.at'' G.g (R.base _)) hm (by rw [n.b]; exact Heap.Ns.at'' G.b (R.base _)) hv ?_) hd
  exact callArgs fc kp hl h1 hne he Rm n tp R L (favs := []) .nil e h
/-- a method of a list -/
noncomputable def mG (g : FG) (p : EP) (ps : EPs) : EP := fun lm H => (p lm H).bind fun r => match r.1 with
  | .ref i => (getL r.2 i).bind fun _ => (ps lm r.2).bind fun u => g (.ref i :: u.1) u.2
  | _ => .none
theorem SE.callM {o : Expr} {name : Str} {id : String} {g : FG} {l' : Nat} {p : EP} {es : List Expr} {ps : EPs} {apos pos : Pos} (h0 : SE prog w B l sc o p) (fc : FC prog w B l' (.builtin id) g)
    (slot : Slot "list" name id) (hty : typeOf (.builtin id) = pure (.type "method_descriptor"))
    (h1 : SEs prog w B l sc es ps) (hl : l' ≤ l) (hne : ∀ env, (starEach es env).any (·.1) = false)
    (he : ∀ env, match es with | [] => True | e0 :: r => starEach (e0 :: r) env = (false, eval e0 env) :: starEach r env)
    (hc : ∀ env, ∃ pl : Sem Bool, eval (.Call (.Attribute o name apos) es [] pos) env = (do
      let ov ← eval o env
      standAt apos.atName
      let (f, first) ← holding [ov] (getMethod ov name pl)
      callWith pos f first (backTo pos (starEach es env)) [])) :
    SE prog w B l sc (.Call (.Attribute o name apos) es [] pos) (mG g p ps) := by
  intro A env σ H lm s av H' Rm n tp R L e Q E h
  refine bc fun hng => ?_
  obtain ⟨⟨a₁, H₁⟩, e1, e⟩ := Option.bind_eq_some_iff.mp e
  cases a₁ <;> simp only at e <;> try (cases e; done)
  rename_i i
  obtain ⟨xs, e2, e⟩ := Option.bind_eq_some_iff.mp e
  obtain ⟨pl, hc⟩ := hc env
  refine hng ?_
  refine MethodCall_ (pl := pl) (h0 Rm n tp R L e1 fun v s' σ' x R' r => ?_) hc
  obtain ⟨a, vs, k, rfl, -, -, hg, hv⟩ := R'.list r e2
  refine getMethod_list_of slot hty (isL hg) ⟨_, hg, rfl⟩ ?_
  exact callArgs fc kp_builtin hl h1 hne he Rm n (Tp.up tp x) R' (L.step x) (favs := [.ref i]) (.one r) e fun v s'' σ'' x' R'' r' => h _ _ _ (x.trans' x') R'' r'
end Mine
end
section
namespace Mine
variable {prog : Program} {w : World} {B : Heap} {mg mb : Str → Option Value} {l : Nat} {sc : Scope}
noncomputable abbrev OP := LM → Hp → Option (Option Int × Hp)
noncomputable abbrev SPt (prog : Program) (w : World) (B : Heap) (l : Nat) (sc : Scope) (o : Option Expr) (q : OP) : Prop :=
  ∀ {A : Around} {env : Env} {σ : List Addr} {H : Hp} {lm : LM} {s : Shared} {k : Option Int} {H' : Hp}, Rm A l → En B sc env → Tp B A σ l s → RS B σ H s.heap → LR env s.heap σ lm → q lm H = some (k, H') →
    ∀ {Q : Value → Shared → Prop} {E : Value → Shared → Prop}, (∀ t s' σ', Step [] σ s σ' s' → RS B σ' H' s'.heap → Q (partValue (k.map fun i => (i, t))) s') → wpAny (model prog w) A (evalPart o env) Q E s
noncomputable def pN : OP := fun _ H => some (none, H)
noncomputable def pS (p : EP) : OP := fun lm H => (p lm H).bind fun r => match r.1 with | .int i => some (some i, r.2) | _ => none
theorem SPt.no : SPt prog w B l sc Option.none pN := by
  intro A env σ H lm s k H' Rm n tp R L e Q E h
  cases e
  rw [evalPart_none]
  exact wpAny_pure (h 0 s σ .refl R)
theorem SPt.so {e : Expr} {p : EP} (h1 : SE prog w B l sc e p) : SPt prog w B l sc (Option.some e) (pS p) := by
  intro A env σ H lm s k H' Rm n tp R L e Q E h
  refine bc fun hng => ?_
  obtain ⟨⟨a₁, H₁⟩, e1, e⟩ := Option.bind_eq_some_iff.mp e
  cases a₁ <;> simp only at e <;> try (cases e; done)
  cases e
  refine hng ?_
  rw [evalPart_some]
  refine h1 Rm n tp R L e1 fun v s' σ' x R' r => ?_
  simp only [VR] at r
  obtain ⟨t, rfl⟩ := r
  exact h t s' σ' x R'
noncomputable def sliceS (cs : List Nat) (lo hi : Option Int) : Option (List Nat) :=
  if 0 ≤ lo.getD 0 ∧ 0 ≤ hi.getD cs.length ∧ cs.length ≤ 100000 then some ((cs.drop (lo.getD 0).toNat).take ((hi.getD cs.length).toNat - (lo.getD 0).toNat)) else none
theorem mmin (a b n : Nat) : min a n - min b n = min (a - b) (n - b) := by
  rcases Nat.le_total b n with h | h
  · rw [Nat.min_eq_left h, Nat.sub_min_sub_right]
  · rw [Nat.min_eq_right h, Nat.sub_eq_zero_of_le h, Nat.min_zero, Nat.sub_eq_zero_of_le (Nat.min_le_right _ _)]
theorem clip {i : Int} {n : Nat} (h : 0 ≤ i) : max 0 (min i n) = ((min i.toNat n : Nat) : Int) := by
  obtain ⟨m, rfl⟩ := Int.eq_ofNat_of_zero_le h
  rw [Int.toNat_natCast, Int.max_eq_right (Int.le_min.mpr ⟨h, Int.natCast_nonneg n⟩)]
  rcases Nat.le_total m n with q | q
  · rw [Int.min_eq_left (Int.ofNat_le.mpr q), Nat.min_eq_left q]
  · rw [Int.min_eq_right (Int.ofNat_le.mpr q), Nat.min_eq_right q]
theorem picked_is {cs : List Nat} {lo hi : Option Int} {x : List Nat} (e : sliceS cs lo hi = some x) {t u : Nat} :
    (slicePicked ⟨cs.toArray⟩ (lo.map fun i => (i, t)) (hi.map fun i => (i, u)) none).filterMap ((Str.mk cs.toArray).cps[·]?) = x ∧ (slicePicked ⟨cs.toArray⟩ (lo.map fun i => (i, t)) (hi.map fun i => (i, u)) none).length = x.length := by
  unfold sliceS at e
  split at e
  · rename_i hh
    obtain ⟨h0, h1, h2⟩ := hh
    cases e
    have q : slicePicked ⟨cs.toArray⟩ (lo.map fun i => (i, t)) (hi.map fun i => (i, u)) none = (List.range (min (hi.getD cs.length).toNat cs.length - min (lo.getD 0).toNat cs.length)).map ((min (lo.getD 0).toNat cs.length) + ·) := by
      rw [← sliceRange_one]
      unfold slicePicked Builtin.Str.strSliceIndices
      have e1 : Option.map (fun (x : Int × Nat) => x.1) (Option.map (fun i => (i, t)) lo) = lo := by cases lo <;> rfl
      have e2 : Option.map (fun (x : Int × Nat) => x.1) (Option.map (fun i => (i, u)) hi) = hi := by cases hi <;> rfl
      have hl : (Str.mk cs.toArray).length = cs.length := by simp [Str.length]
      simp only [e1, e2, Option.map_none, Option.getD_none, hl]
      have g1 : (1 : Int) > 0 := by decide
      simp only [if_pos g1]
      congr 1
      · cases lo with
        | none => simp
        | some i =>
          simp only [Option.getD_some] at h0 ⊢
          rw [if_neg (Int.not_lt.mpr h0)]; exact clip h0
      · cases hi with
        | none => simp
        | some i =>
          simp only [Option.getD_some] at h1 ⊢
          rw [if_neg (Int.not_lt.mpr h1)]; exact clip h1
    refine ⟨?_, ?_⟩
    · rw [q, pick_run]
      show List.take _ (List.drop _ cs) = _
      by_cases hc : (lo.getD 0).toNat ≤ cs.length
      · rw [Nat.min_eq_left hc]
        by_cases hd : (hi.getD cs.length).toNat ≤ cs.length
        · rw [Nat.min_eq_left hd]
        · rw [Nat.min_eq_right (Nat.le_of_lt (Nat.lt_of_not_le hd)), List.take_of_length_le (by simp), List.take_of_length_le (by rw [List.length_drop]; exact Nat.sub_le_sub_right (Nat.le_of_lt (Nat.lt_of_not_le hd)) _)]
      · rw [List.drop_of_length_le (Nat.le_of_lt (Nat.lt_of_not_le hc)), Nat.min_eq_right (Nat.le_of_lt (Nat.lt_of_not_le hc)), List.drop_length]; simp
    · rw [q, List.length_map, List.length_range, List.length_take, List.length_drop, mmin]
  · cases e
noncomputable def eSlS (p : EP) (lo hi : OP) : EP := fun lm H => (p lm H).bind fun r => (lo lm r.2).bind fun a => (hi lm a.2).bind fun b => match r.1 with
  | .str cs => (sliceS cs a.1 b.1).map fun x => (.str x, b.2)
  | _ => none
theorem SE.slS {e : Expr} {lo hi : Option Expr} {p : EP} {q u : OP} {pp pos : Pos} (h1 : SE prog w B l sc e p) (h2 : SPt prog w B l sc lo q) (h3 : SPt prog w B l sc hi u) :
    SE prog w B l sc (.Subscript e (.Slice lo hi Option.none pp) pos) (eSlS p q u) := by
  intro A env σ H lm s av H' Rm n tp R L e Q E h
  refine bc fun hng => ?_
  obtain ⟨⟨a₁, H₁⟩, e1, e⟩ := Option.bind_eq_some_iff.mp e
  obtain ⟨⟨a₂, H₂⟩, e2, e⟩ := Option.bind_eq_some_iff.mp e
  obtain ⟨⟨a₃, H₃⟩, e3, e⟩ := Option.bind_eq_some_iff.mp e
  cases a₁ with
  | str cs =>
    simp only at e
    obtain ⟨x, e4, e⟩ := Option.map_eq_some_iff.mp e
    cases e
    refine hng ?_
    refine Subscript_ (h1 Rm n tp R L e1 fun v₁ s₁ σ₁ x₁ R₁ r₁ => ?_)
    have tp₁ := Tp.up tp x₁
    simp only [VR] at r₁
    obtain ⟨t, rfl⟩ := r₁
    refine wpAny_Slice (h2 Rm n tp₁ R₁ (L.step x₁) e2 fun t₂ s₂ σ₂ x₂ R₂ => h3 Rm n (Tp.up tp₁ x₂) R₂ ((L.step x₁).step x₂) e3 fun t₃ s₃ σ₃ x₃ R₃ => ?_)
    rw [evalPart_none]
    refine wpAny_pure ?_
    with_reducible refine tail_any (T := "str") (ops := [.ref s₃.heap.objs.size, .str ⟨cs.toArray⟩ t]) ?_ F.slot_str_getitem.lookup ?_ ?_
    · exact rfl
    rotate_left
    · exact rfl
    have hk : ∀ b o, s₃.heap.get? b = some o → (s₃.heap.push { cls := .type "slice", data := .fields #[partValue (a₂.map fun i => (i, t₂)), partValue (a₃.map fun i => (i, t₃)), Value.none] }).get? b = some o := fun b o e => Heap.get?_push_of_some _ e
    have X := (x₁.trans' x₂).trans' x₃
    obtain ⟨k1, k2⟩ := picked_is e4 (t := t₂) (u := t₃)
    with_reducible refine wpAny_getItem_str_slice (l := a₂.map fun i => (i, t₂)) (u := a₃.map fun i => (i, t₃)) (st := Option.none) ?_ ?_ ?_
    · exact ⟨_, Heap.get?_push_size _ rfl, rfl, rfl⟩
    · rfl
    unfold sliceMade
    split
    · rename_i hc
      have hlen : x.length = cs.length := by
        simp only [Option.map_none, Option.getD_none, beq_self_eq_true, Bool.true_and, beq_iff_eq] at hc
        rw [← k2, hc]; simp [Str.length]
      have : x = cs := by
        unfold sliceS at e4
        split at e4
        · cases e4
          exact ((List.take_sublist _ _).trans (List.drop_sublist _ _)).eq_of_length hlen
        · cases e4
      subst this
      exact h _ _ σ₃ (X.trans' (step_keeps (tk := s₃.toks) hk (Nat.le_refl _))) (R₃.keeps hk) .mkS
    · rw [k1]
      refine ⟨?_, h _ _ σ₃ (X.trans' (step_keeps hk (Nat.le_succ _))) (R₃.keeps hk) .mkS⟩
      unfold sliceS at e4
      split at e4
      · rename_i hh
        cases e4
        rw [sizeLine_eq]
        exact Nat.le_trans (Nat.le_trans ((List.take_sublist _ _).trans (List.drop_sublist _ _)).length_le hh.2.2) (by decide)
      · cases e4
  | _ => simp only at e; cases e
-- slices of lists
noncomputable def eSlL (p : EP) (u : OP) : EP := fun lm H => (p lm H).bind fun r => (u lm r.2).bind fun b => match r.1, b.1 with
  | .ref i, some k => (getL b.2 i).bind fun xs => if 0 ≤ k ∧ k ≤ xs.length ∧ xs.length ≤ 100000 then some (.ref b.2.length, b.2 ++ [.list (xs.take k.toNat)]) else none
  | _, _ => none
theorem SE.slL {e : Expr} {hi : Option Expr} {p : EP} {u : OP} {pp pos : Pos} (h1 : SE prog w B l sc e p) (h3 : SPt prog w B l sc hi u) :
    SE prog w B l sc (.Subscript e (.Slice Option.none hi Option.none pp) pos) (eSlL p u) := by
  intro A env σ H lm s av H' Rm n tp R L e Q E h
  refine bc fun hng => ?_
  obtain ⟨⟨a₁, H₁⟩, e1, e⟩ := Option.bind_eq_some_iff.mp e
  obtain ⟨⟨a₃, H₃⟩, e3, e⟩ := Option.bind_eq_some_iff.mp e
  simp only at e
  split at e
  · rename_i i k _
    obtain ⟨xs, e4, e⟩ := Option.bind_eq_some_iff.mp e
    split at e
    · rename_i hh
      obtain ⟨hk0, hk1, hk2⟩ := hh
      cases e
      refine hng ?_
      refine Subscript_ (h1 Rm n tp R L e1 fun v₁ s₁ σ₁ x₁ R₁ r₁ => ?_)
      have tp₁ := Tp.up tp x₁
      with_reducible refine wpAny_Slice ?_
      rw [evalPart_none]
      with_reducible refine wpAny_pure ?_
      refine h3 Rm n tp₁ R₁ (L.step x₁) e3 fun t₃ s₃ σ₃ x₃ R₃ => ?_
      rw [Option.map_some]
      with_reducible refine wpAny_pure ?_
      obtain ⟨a, vs, k', rfl, -, -, hg, hv⟩ := R₃.list (r₁.step0 x₃) e4
      have hlen := hv.length
      have pk : IsPart (partValue (some (k, t₃))) (some k) := .int k t₃
      have hk : ∀ b o, s₃.heap.get? b = some o → (s₃.heap.push { cls := .type "slice", data := .fields #[Value.none, partValue (some (k, t₃)), Value.none] }).get? b = some o := fun b o e => Heap.get?_push_of_some _ e
      have st := step_keeps (σ := σ₃) (s := s₃) (tk := s₃.toks) hk (Nat.le_refl _)
      have hg' := hk _ _ hg
      have key : slicePick vs.toArray none (some k) none = (vs.take k.toNat).toArray := by
        have := slicePick_upto vs.toArray k.toNat (by simp; omega)
        rw [show ((k.toNat : Nat) : Int) = k by omega] at this
        simpa using this
      obtain ⟨x1, x2, x3⟩ := newL (s := { s₃ with heap := s₃.heap.push { cls := .type "slice", data := .fields #[Value.none, partValue (some (k, t₃)), Value.none] } }) (R₃.keeps hk) ((hv.step0 st).take k.toNat) (Nat.le_refl s₃.toks)
      with_reducible refine tail_any (T := "list") (ops := [.ref s₃.heap.objs.size, .ref a]) ?_ list_getitem_lookup ?_ ?_
      · exact (isL hg').typeIs
      rotate_left
      · exact rfl
      with_reducible refine wpAny_getItem_list_slice (isL hg') (Heap.IsSliceOf.new _ _ _ _) .none pk .none ?_ ?_ ?_
      · exact fun q => nomatch q
      · rw [key]
        exact h _ _ _ (((x₁.trans' x₃).trans' st).trans' x1) x2 x3
      · rw [sizeLine_eq]; simp; omega
    · cases e
  · cases e
/-- every so-manieth item of the script -/
noncomputable def eSl7 (p q : EP) : EP := fun lm H => (p lm H).bind fun r => (q lm r.2).bind fun b => match r.1, b.1 with
  | .lint xs, .int k => if xs.length ≤ 100000 then some (.ref b.2.length, b.2 ++ [.list ((pickNums xs (some k) none (some 7)).map .int)]) else none
  | _, _ => none
theorem intsAre_VRs {h : Heap} {σ : List Addr} {vs : List Value} {is : List Int} (x : IntsAre vs is) : VRs h σ (is.map .int) vs := by
  induction x with
  | nil => exact .nil
  | cons n t _ ih => exact .cons .mkI ih
theorem SE.sl7 {e e' : Expr} {p q : EP} {k : Nat} {p7 pp pos : Pos} (h1 : SE prog w B l sc e p) (h2 : SE prog w B l sc e' q) :
    SE prog w B l sc (.Subscript e (.Slice (Option.some e') Option.none (Option.some (.Constant (.int 7) k p7)) pp) pos) (eSl7 p q) := by
  intro A env σ H lm s av H' Rm n tp R L e Q E h
  refine bc fun hng => ?_
  obtain ⟨⟨a₁, H₁⟩, e1, e⟩ := Option.bind_eq_some_iff.mp e
  obtain ⟨⟨a₃, H₃⟩, e3, e⟩ := Option.bind_eq_some_iff.mp e
  simp only at e
  split at e
  · rename_i xs j _
    split at e
    · rename_i hh
      cases e
      refine hng ?_
      refine Subscript_ (h1 Rm n tp R L e1 fun v₁ s₁ σ₁ x₁ R₁ r₁ => ?_)
      have tp₁ := Tp.up tp x₁
      with_reducible refine wpAny_Slice ?_
      rw [evalPart_some]
      refine h2 Rm n tp₁ R₁ (L.step x₁) e3 fun v₃ s₃ σ₃ x₃ R₃ r₃ => ?_
      rw [evalPart_none]
      with_reducible refine wpAny_pure ?_
      rw [evalPart_some]
      with_reducible refine wpAny_Constant_int ?_
      have r₁' := r₁.step0 x₃
      simp only [VR] at r₁' r₃
      obtain ⟨t₃, rfl⟩ := r₃
      obtain ⟨a, vs, rfl, ha, hg, hi⟩ := r₁'
      have hlen := hi.length
      have hk : ∀ o b o', s₃.heap.get? b = some o' → (s₃.heap.push o).get? b = some o' := fun o b o' e => Heap.get?_push_of_some _ e
      have st := step_keeps (σ := σ₃) (s := s₃) (tk := s₃.toks + 1) (hk { cls := .type "slice", data := .fields #[.int j t₃, Value.none, .int 7 s₃.toks] }) (Nat.le_succ _)
      have hg' := hg.push { cls := .type "slice", data := .fields #[.int j t₃, Value.none, .int 7 s₃.toks] }
      have hp := hi.pick (some j) none (some 7)
      obtain ⟨x1, x2, x3⟩ := newL (s := { s₃ with heap := s₃.heap.push { cls := .type "slice", data := .fields #[.int j t₃, Value.none, .int 7 s₃.toks] }, toks := s₃.toks + 1 }) (R₃.keeps (hk _)) (intsAre_VRs hp) (Nat.le_refl (s₃.toks + 1))
      with_reducible refine tail_any (T := "list") (ops := [.ref a, .ref s₃.heap.objs.size]) ?_ list_getitem_lookup ?_ ?_
      · exact hg'.typeIs
      rotate_left
      · exact rfl
      with_reducible refine wpAny_getItem_list_slice hg' (Heap.IsSliceOf.new _ _ _ _) (.int j t₃) .none (.int 7 s₃.toks) ?_ ?_ ?_
      · exact fun q => nomatch q
      · exact h _ _ _ (((x₁.trans' x₃).trans' st).trans' x1) x2 x3
      · rw [sizeLine_eq]; simp; omega
    · cases e
  · cases e
end Mine
end
section
namespace Mine
variable {prog : Program} {w : World} {B : Heap} {mg mb : Str → Option Value} {l : Nat} {sc : Scope}
theorem ofString_inj {a b : String} (h : Str.ofString a = Str.ofString b) : a = b := by
  rw [Str.ofString_eq_toList, Str.ofString_eq_toList] at h
  have h1 : a.toList.map Char.toNat = b.toList.map Char.toNat := by
    injection h with h
    exact List.toArray_inj h
  have inj : ∀ x y : Char, x.toNat = y.toNat → x = y := fun x y e => Char.ext (UInt32.toNat_inj.mp e)
  have h2 : a.toList = b.toList := by
    have : ∀ l l' : List Char, l.map Char.toNat = l'.map Char.toNat → l = l' := by
      intro l
      induction l with
      | nil => intro l' e; cases l' <;> simp_all
      | cons x r ih =>
        intro l' e
        cases l' with
        | nil => simp at e
        | cons y r' =>
          simp only [List.map_cons, List.cons.injEq] at e
          rw [inj _ _ e.1, ih _ e.2]
    exact this _ _ h1
  exact String.toList_inj.mp h2
noncomputable def lookA (x : String) : List (String × AV) → Option AV
  | [] => none
  | (y, v) :: r => if y = x then some v else lookA x r
noncomputable def putA (x : String) (v : AV) : List (String × AV) → List (String × AV)
  | [] => [(x, v)]
  | (y, u) :: r => if y = x then (y, v) :: r else (y, u) :: putA x v r
theorem isStr_key {x y : String} {t : Tok} : (Value.str (Str.ofString y) t).isStr (Str.ofString x) = decide (y = x) := by
  show (Str.ofString y == Str.ofString x) = _
  by_cases h : y = x
  · subst h; simp
  · rw [decide_eq_false h]
    exact beq_eq_false_iff_ne.mpr fun q => h (ofString_inj q)
theorem AttrsR.len {h : Heap} {σ : List Addr} : ∀ {fs : List (String × AV)} {es : List DictEntry}, AttrsR h σ fs es → es.length = fs.length
  | [], _, x => by cases x; rfl
  | (_, _) :: r, _, x => by
    obtain ⟨hs', t, v, es', rfl, h1, h2⟩ := x
    simp [h2.len]
theorem AttrsR.find {h : Heap} {σ : List Addr} (x : String) : ∀ {fs : List (String × AV)} {es : List DictEntry}, AttrsR h σ fs es → es.any (·.refKey) = false ∧
    ((lookA x fs = none ∧ es.find? (·.key.isStr (Str.ofString x)) = none) ∨ ∃ av e, lookA x fs = some av ∧ es.find? (·.key.isStr (Str.ofString x)) = some e ∧ VR h σ av e.val)
  | [], _, r => by cases r; exact ⟨rfl, .inl ⟨rfl, rfl⟩⟩
  | (y, u) :: fs, _, r => by
    obtain ⟨hs', t, v, es', rfl, h1, h2⟩ := r
    obtain ⟨k1, k2⟩ := h2.find x
    refine ⟨by rw [List.any_cons, k1]; rfl, ?_⟩
    simp only [lookA, List.find?_cons, isStr_key]
    by_cases hy : y = x
    · simp only [hy, if_true, decide_true]
      exact .inr ⟨u, _, rfl, rfl, h1⟩
    · simp only [hy, if_false, decide_false]
      exact k2
theorem AttrsR.getL {h : Heap} {σ : List Addr} {fs : List (String × AV)} {es : List DictEntry} (r : AttrsR h σ fs es) (x : String) :
    (lookA x fs = none ∧ PySem.W.getL (Str.ofString x) es = some none) ∨ ∃ av v, lookA x fs = some av ∧ PySem.W.getL (Str.ofString x) es = some (some v) ∧ VR h σ av v := by
  obtain ⟨k1, k2⟩ := r.find x
  unfold PySem.W.getL
  rcases k2 with ⟨a, b⟩ | ⟨av, e, a, b, c⟩
  · rw [b, k1]; exact .inl ⟨a, rfl⟩
  · rw [b]; exact .inr ⟨av, _, a, rfl, c⟩
theorem AttrsR.put {h : Heap} {σ : List Addr} {x : String} {hs : Int} {t : Tok} {av : AV} {v : Value} (hv : VR h σ av v) : ∀ {fs : List (String × AV)} {es : List DictEntry}, AttrsR h σ fs es →
    AttrsR h σ (putA x av fs) (putL (Str.ofString x) hs (.str (Str.ofString x) t) v es)
  | [], _, r => by cases r; exact ⟨hs, t, v, [], rfl, hv, rfl⟩
  | (y, u) :: fs, _, r => by
    obtain ⟨hs', t', v', es', rfl, h1, h2⟩ := r
    simp only [putA, putL, isStr_key]
    by_cases hy : y = x
    · simp only [hy, if_true, decide_true]
      exact ⟨hs', t', v, es', rfl, hv, h2⟩
    · simp only [hy, if_false, decide_false, Bool.false_eq_true]
      exact ⟨hs', t', v', _, rfl, h1, h2.put hv⟩
theorem VR.handed {h : Heap} {σ : List Addr} : ∀ {av : AV} {v : Value}, VR h σ av v → handedIn v = true
  | .none, _, r => by simp only [VR] at r; subst r; rfl
  | .bool _, _, r => by simp only [VR] at r; subst r; rfl
  | .int _, _, r => by simp only [VR] at r; obtain ⟨t, rfl⟩ := r; rfl
  | .str _, _, r => by simp only [VR] at r; obtain ⟨t, rfl⟩ := r; rfl
  | .tup _, _, r => by simp only [VR] at r; obtain ⟨a, vs, n, rfl, _⟩ := r; rfl
  | .ref _, _, r => by simp only [VR] at r; obtain ⟨a, rfl, _⟩ := r; rfl
  | .lint _, _, r => by simp only [VR] at r; obtain ⟨a, vs, rfl, _⟩ := r; rfl
  | .rng _ _, _, r => by simp only [VR] at r; obtain ⟨a, t, u, k, rfl, _⟩ := r; rfl
/-- what is asked of the class -/
structure Cl (K : Frag) (B : Heap) (C : Addr) : Prop where
  X : K.In B
  get : plainGet K C "" = true
  dct : hasDictIn K C = true
  set : findIn K (.ref C) "__setattr__" = some (some (.builtin "object.__setattr__"))
  over : plainOver K C = true
/-- a name that instances bear themselves -/
structure ClN (K : Frag) (C : Addr) (x : String) : Prop where
  fnd : findIn K (.ref C) (Str.ofString x) = some none
  tak : takerIn K C (Str.ofString x) = some none
/-- a method -/
structure ClM (K : Frag) (C : Addr) (x : String) (f : Addr) : Prop where
  fnd : findIn K (.ref C) (Str.ofString x) = some (some (.ref f))
  typ : typeIn K (.ref f) = some (.type "function")
noncomputable def getA (C : Addr) (H : Hp) (i : Nat) : Option (Nat × List (String × AV)) := match H[i]? with
  | some (.inst C' d) => if C' = C then (match H[d]? with | some (.attrs fs) => some (d, fs) | _ => none) else none
  | _ => none
theorem getA_some {C : Addr} {H : Hp} {i d : Nat} {fs : List (String × AV)} (e : getA C H i = some (d, fs)) : H[i]? = some (.inst C d) ∧ H[d]? = some (.attrs fs) := by
  unfold getA at e
  split at e
  · rename_i C' d' h1
    split at e
    · rename_i hc
      subst hc
      split at e
      · rename_i h2
        cases e
        exact ⟨h1, h2⟩
      · cases e
    · cases e
  · cases e
theorem RS.inst {σ : List Addr} {H : Hp} {h : Heap} (R : RS B σ H h) {C : Addr} {i d : Nat} {fs : List (String × AV)} {v : Value} (r : VR h σ (.ref i) v) (e : getA C H i = some (d, fs)) :
    ∃ x dx es n, v = .ref x ∧ σ[i]? = some x ∧ σ[d]? = some dx ∧ h.get? x = some (instObj C dx) ∧ h.get? dx = some (dictOf es n) ∧ AttrsR h σ fs es ∧ PySem.W.InstAt h x (instObj C dx) C (some (dictOf es n)) := by
  obtain ⟨e1, e2⟩ := getA_some e
  simp only [VR] at r
  obtain ⟨x, rfl, hi⟩ := r
  obtain ⟨x', h1, -, dx, h3, h4⟩ := R.get e1
  rw [hi] at h1; cases h1
  obtain ⟨dx', h5, -, es, n, h6, h7⟩ := R.get e2
  rw [h3] at h5; cases h5
  exact ⟨x, dx, es, n, rfl, hi, h3, h4, h6, h7, ⟨h4, rfl, rfl, h6⟩⟩
noncomputable def eAttr (C : Addr) (x : String) (p : EP) : EP := fun lm H => (p lm H).bind fun r => match r.1 with
  | .ref i => (getA C r.2 i).bind fun u => (lookA x u.2).map (·, r.2)
  | _ => none
theorem SE.attr {K : Frag} {C : Addr} {x : String} {y : Str} {p : EP} {p0 pos : Pos} (c : Cl K B C) (cn : ClN K C x) (h1 : SE prog w B l sc (.Name y p0) p) : SE prog w B l sc (.Attribute (.Name y p0) (Str.ofString x) pos) (eAttr C x p) := by
  intro A env σ H lm s av H' Rm n tp R L e Q E h
  refine bc fun hng => ?_
  obtain ⟨⟨a₁, H₁⟩, e1, e⟩ := Option.bind_eq_some_iff.mp e
  cases a₁ with
  | ref i =>
    simp only at e
    obtain ⟨⟨d, fs⟩, e2, e⟩ := Option.bind_eq_some_iff.mp e
    obtain ⟨v₀, e3, e⟩ := Option.map_eq_some_iff.mp e
    cases e
    refine hng ?_
    with_reducible refine Attribute_name (h1 Rm n tp R L e1 fun v s' σ' x' R' r => ?_)
    obtain ⟨a, dx, es, k, rfl, hi, hd, hx, hdx, hr, I⟩ := R'.inst r e2
    rcases hr.getL x with ⟨q, -⟩ | ⟨av', u, q1, q2, q3⟩
    · rw [q] at e3; cases e3
    · rw [q1] at e3; cases e3
      exact get_value (c.X.keeps R'.base) I (plainGet_of c.get).1 (findObj_own c.dct cn.fnd rfl (show lookIn _ (dictOf es k) = _ from q2)) q3.handed (h _ _ σ' (x'.trans' (step_keeps (fun _ _ e => e) (Nat.le_succ _))) R' q3)
  | _ => simp only at e; cases e
/-- storing an attribute -/
theorem setA {K : Frag} {C x dx : Addr} {A : Around} {s : Shared} {es : List DictEntry} {n : Nat} {name : Str} {v : Value} {Q : Unit → Shared → Prop} {E : Value → Shared → Prop} (X : K.In s.heap) (I : PySem.W.InstAt s.heap x (instObj C dx) C (some (dictOf es n)))
    (hs : findIn K (.ref C) "__setattr__" = some (some (.builtin "object.__setattr__"))) (hp : plainOver K C = true) (ht : takerIn K C name = some none) (hh : hasDictIn K C = true) (hr : es.any (·.refKey) = false) (hz : (putL name (PyData.keyHash w.params name) (.str name (s.toks + 1)) v es).length ≤ 1000)
    (h : ∀ h', h'.get? dx = some (dictOf (putL name (PyData.keyHash w.params name) (.str name (s.toks + 1)) v es) (putN name es n)) → (∀ b o, b ≠ dx → s.heap.get? b = some o → h'.get? b = some o) → Q () { s with heap := h', toks := s.toks + 2 }) :
    wpAny (model prog w) A (setAttr (.ref x) name v) Q E s := by
  refine set_plain X I hs (osa_open X I hp ht fun b => ?_)
  obtain ⟨cd, hc, hd'⟩ := any_some hh
  have D : s.heap.get? dx = some (dictOf es n) := I.dict
  have pe := putName_dict name (PyData.keyHash w.params name) (.str name (s.toks + 1)) v es n
  have D' : (s.heap.update dx (Obj.putName name (PyData.keyHash w.params name) (.str name (s.toks + 1)) v)).get? dx = some (dictOf (putL name (PyData.keyHash w.params name) (.str name (s.toks + 1)) v es) (putN name es n)) := by
    rw [← pe]; exact Heap.get?_update_self _ D (by rw [pe]; rfl)
  refine wpAny_bind (wpAny_pure (wpAny_bind (wpAny_bind (wpAny_loadPart I.at_ (wpAny_bind (looks_clsIn X hc _ _ _ _ (fun _ _ e => e) ?_))))))
  rw [hd']
  refine wpAny_pure (a := some dx) (wpAny_bind (wpAny_pure (wpAny_bind ?_)))
  unfold nsSet
  refine wpAny_bind (wpAny_bind (wpAny_askSetting (wpAny_pure (wpAny_bind (wpAny_mkText (wpAny_bind (wpAny_loadPart D ?_)))))))
  show wpAny _ _ (if aRefKeyMayBeTheName name es.toArray = true then _ else _) _ _ _
  have c : aRefKeyMayBeTheName name es.toArray = false := by
    rw [aRefKeyMayBeTheName_at, List.any_toArray, List.any_toArray, hr, Bool.and_false]
  rw [c]
  refine wpAny_updatePart D ?_
  refine wpAny_bind (wpAny_lookBehind D' (pastItsLine_dict (by rw [List.size_toArray, sizeLine_eq]; omega)) ?_)
  exact wpAny_pure (h _ D' fun b o hb e => (Heap.get?_update_other _ _ (Ne.symm hb)).trans e)
end Mine
end
section
namespace Mine
variable {prog : Program} {w : World} {B : Heap} {mg mb : Str → Option Value} {l : Nat} {sc : Scope}
inductive Fl where
  | next
  | brk
  | ret (v : AV)
noncomputable def FlR (h : Heap) (σ : List Addr) : Fl → Flow → Prop
  | .next, f => f = .next
  | .brk, f => f = .brk
  | .ret a, f => ∃ v, f = .ret v ∧ VR h σ a v
@[elab_as_elim] theorem FlR.elim {h : Heap} {σ : List Addr} {fl : Fl} {f : Flow} {G : Flow → Prop} (r : FlR h σ fl f) (n : fl = .next → G .next) (b : fl = .brk → G .brk) (t : ∀ a v, fl = .ret a → VR h σ a v → G (.ret v)) : G f := by
  cases fl with
  | next => cases r; exact n rfl
  | brk => cases r; exact b rfl
  | ret a => obtain ⟨v, rfl, r⟩ := r; exact t a v rfl r
theorem FlR.mkN {h : Heap} {σ : List Addr} : FlR h σ .next .next := rfl
theorem FlR.mkB {h : Heap} {σ : List Addr} : FlR h σ .brk .brk := rfl
theorem FlR.mkR {h : Heap} {σ : List Addr} {a : AV} {v : Value} (r : VR h σ a v) : FlR h σ (.ret a) (.ret v) := ⟨v, rfl, r⟩
noncomputable abbrev SP := LM → Hp → Option (Fl × LM × Hp)
noncomputable abbrev SX (prog : Program) (w : World) (B : Heap) (l : Nat) (sc : Scope) (st : Stmt) (q : SP) : Prop :=
  ∀ {A : Around} {env : Env} {σ : List Addr} {H : Hp} {lm : LM} {s : Shared} {fl : Fl} {lm' : LM} {H' : Hp}, Rm A l → En B sc env → Tp B A σ l s → RS B σ H s.heap → LR env s.heap σ lm → q lm H = some (fl, lm', H') →
    ∀ {Q : Flow → Shared → Prop} {E : Value → Shared → Prop}, (∀ f s' σ', Step (vol env) σ s σ' s' → RS B σ' H' s'.heap → LR env s'.heap σ' lm' → FlR s'.heap σ' fl f → Q f s') → wpAny (model prog w) A (exec st env) Q E s
theorem outS {env : Env} {σ : List Addr} {s : Shared} {f₁ fl : Fl} {lm₁ lm' : LM} {H₁ H' : Hp} {Q : Flow → Shared → Prop} (e : some (f₁, lm₁, H₁) = some (fl, lm', H'))
    (h : ∀ f s' σ', Step (vol env) σ s σ' s' → RS B σ' H' s'.heap → LR env s'.heap σ' lm' → FlR s'.heap σ' fl f → Q f s') : ∀ f s' σ', Step (vol env) σ s σ' s' → RS B σ' H₁ s'.heap → LR env s'.heap σ' lm₁ → FlR s'.heap σ' f₁ f → Q f s' := by
  cases e; exact h
noncomputable abbrev SXs (prog : Program) (w : World) (B : Heap) (l : Nat) (sc : Scope) (sts : List Stmt) (q : SP) : Prop :=
  ∀ {A : Around} {env : Env} {σ : List Addr} {H : Hp} {lm : LM} {s : Shared} {fl : Fl} {lm' : LM} {H' : Hp}, Rm A l → En B sc env → Tp B A σ l s → RS B σ H s.heap → LR env s.heap σ lm → q lm H = some (fl, lm', H') →
    ∀ {Q : Flow → Shared → Prop} {E : Value → Shared → Prop}, (∀ f s' σ', Step (vol env) σ s σ' s' → RS B σ' H' s'.heap → LR env s'.heap σ' lm' → FlR s'.heap σ' fl f → Q f s') → wpAny (model prog w) A (execs sts env) Q E s
theorem Ns_unique {h : Heap} {a : Addr} {m m' : Str → Option Value} (x : h.Ns a m) (y : h.Ns a m') : m = m' := by
  obtain ⟨o, es, ep, e1, e2, _, e3⟩ := x
  obtain ⟨o', es', ep', e1', e2', _, e3'⟩ := y
  rw [e1] at e1'; cases e1'
  rw [e2] at e2'; cases e2'
  funext n
  rw [← e3, e3']
/-- storing a name -/
theorem store_ok {A : Around} {env : Env} {σ : List Addr} {H : Hp} {lm : LM} {s : Shared} (n : En B sc env) (R : RS B σ H s.heap) (L : LR env s.heap σ lm) {x : String} {av : AV} {v : Value}
    (hk : sc.names.lookup (Str.ofString x) = some .local ∨ sc.names.lookup (Str.ofString x) = some .cell) (r : VR s.heap σ av v)
    {Q : Unit → Shared → Prop} {E : Value → Shared → Prop} (h : ∀ s', Step (vol env) σ s σ s' → RS B σ H s'.heap → LR env s'.heap σ (upd lm x av) → Q () s') : wpAny (model prog w) A (storeName env (Str.ofString x) v) Q E s := by
  have key : ∀ (a : Addr) (h' : Heap) (tk : Nat), a ∈ vol env → (∀ b, b ≠ a → h'.get? b = s.heap.get? b) → h'.get? a ≠ none → (∀ o, s.heap.get? a = some o → IsD o → ∃ o', h'.get? a = some o' ∧ IsD o') → s.toks ≤ tk → Step (vol env) σ s σ { s with heap := h', toks := tk } ∧ RS B σ H h' := by
    intro a h' tk ha hb hl hdic ht
    have na : a ∉ σ := L.off a ha
    have st : Step (vol env) σ s σ { s with heap := h', toks := tk } := ⟨⟨h', tk, rfl⟩, List.prefix_refl _, fun _ a b => absurd a b, fun b o _ hv e => .inl ((hb b (fun q => hv (q ▸ ha))).trans e), fun b o _ e d => by
      by_cases q : b = a
      · subst q; exact hdic o e d
      · exact ⟨o, (hb b q).trans e, d⟩, fun b e => by
      by_cases q : b = a
      · rw [q]; exact hl
      · show h'.get? b ≠ none; rw [hb b q]; exact e, ht⟩
    refine ⟨st, R.len, R.nodup, fun b o e => (hb b (fun q => by rw [q, n.new a ha] at e; cases e)).trans (R.base b o e), R.off, fun i b o e1 e2 => ?_, fun b hb' => ?_⟩
    · exact (R.obj i b o e1 e2).mono (fun c oc hc hf e => ⟨(hb c (fun q => L.clean a ha oc (q ▸ e) hf)).trans e, hc⟩) (List.prefix_refl _) (hb b (fun q => na (q ▸ List.mem_of_getElem? e1)))
    · rw [hb b (fun q => na (q ▸ hb'))]; exact R.live b hb'
  rcases hk with hk | hk
  · obtain ⟨m, hn⟩ := L.ns
    refine wpAny_storeName_local ((n.kindOf _).trans hk) hn (fun h' hn' hs => ?_) (by rw [n.fn]; rfl)
    have hl : h'.get? env.locals ≠ none := by
      obtain ⟨o, es, ep, e, _⟩ := hn'
      rw [e]; exact fun q => nomatch q
    have hdic : ∀ o, s.heap.get? env.locals = some o → IsD o → ∃ o', h'.get? env.locals = some o' ∧ IsD o' := fun _ _ _ => by
      obtain ⟨o, es, ep, e, hd, _⟩ := hn'
      exact ⟨o, e, es, ep, hd⟩
    obtain ⟨st, R'⟩ := key env.locals h' (s.toks + 1) (.head _) hs.2 hl hdic (Nat.le_succ _)
    refine h _ st R' ⟨⟨_, hn'⟩, L.out, fun y c hm => ?_, L.apart, fun y av' e => ?_⟩
    · obtain ⟨⟨ov, hc⟩, h2, h3⟩ := L.cells y c hm
      exact ⟨⟨ov, isCell_at hc fun o e => (hs.2 c h3).trans e⟩, h2, h3⟩
    · unfold upd at e
      by_cases hy : y = x
      · rw [if_pos hy] at e; cases e
        subst hy
        exact ⟨v, .inl ⟨(n.kindOf _).trans hk, _, hn', by simp⟩, r.step st L.clean⟩
      · rw [if_neg hy] at e
        obtain ⟨u, hu, ru⟩ := L.vars y av' e
        refine ⟨u, ?_, ru.step st L.clean⟩
        rcases hu with ⟨k, m', hn'', hm⟩ | ⟨k, c, hc, hi⟩
        · rw [Ns_unique hn'' hn] at hm
          exact .inl ⟨k, _, hn', by rw [if_neg (fun q => hy (ofString_inj q))]; exact hm⟩
        · obtain ⟨_, _, h3⟩ := L.cells _ _ (lookup_mem hc)
          exact .inr ⟨k, c, hc, isCell_at hi fun o e => (hs.2 c h3).trans e⟩
  · obtain ⟨c, hc⟩ := n.cells _ hk
    obtain ⟨⟨ov, hi⟩, h2, h3⟩ := L.cells _ _ (lookup_mem hc)
    refine wpAny_storeName_cell n.fn ((n.kindOf _).trans hk) hc hi (fun h' hi' hs => ?_)
    have hl : h'.get? c ≠ none := by
      obtain ⟨o, e, _⟩ := hi'
      rw [e]; exact fun q => nomatch q
    have hv : c ∈ vol env := .tail _ (List.mem_map.mpr ⟨_, lookup_mem hc, rfl⟩)
    have hdic : ∀ o, s.heap.get? c = some o → IsD o → ∃ o', h'.get? c = some o' ∧ IsD o' := fun o e d => by
      obtain ⟨o', e', r⟩ := hi
      rw [e] at e'; cases e'
      exact absurd d (isCell_notD r)
    obtain ⟨st, R'⟩ := key c h' s.toks hv hs.2 hl hdic (Nat.le_refl _)
    obtain ⟨m, hn⟩ := L.ns
    have hn' : h'.Ns env.locals m := Heap.Ns.at'' hn fun o e => (hs.2 _ (Ne.symm h3)).trans e
    refine h _ st R' ⟨⟨m, hn'⟩, L.out, fun y c' hm => ?_, L.apart, fun y av' e => ?_⟩
    · obtain ⟨⟨ov', hc'⟩, h2', h3'⟩ := L.cells y c' hm
      by_cases q : c' = c
      · subst q; exact ⟨⟨_, hi'⟩, h2', h3'⟩
      · exact ⟨⟨ov', isCell_at hc' fun o e => (hs.2 c' q).trans e⟩, h2', h3'⟩
    · unfold upd at e
      by_cases hy : y = x
      · rw [if_pos hy] at e; cases e
        subst hy
        exact ⟨v, .inr ⟨(n.kindOf _).trans hk, c, hc, hi'⟩, r.step st L.clean⟩
      · rw [if_neg hy] at e
        obtain ⟨u, hu, ru⟩ := L.vars y av' e
        refine ⟨u, ?_, ru.step st L.clean⟩
        rcases hu with ⟨k, m', hn'', hm⟩ | ⟨k, c', hc', hi''⟩
        · exact .inl ⟨k, m', Heap.Ns.at'' hn'' fun o e => (hs.2 _ (Ne.symm h3)).trans e, hm⟩
        · have q : c' ≠ c := fun q => by
            subst q
            exact hy (ofString_inj (L.apart _ _ _ hc' hc))
          exact .inr ⟨k, c', hc', isCell_at hi'' fun o e => (hs.2 c' q).trans e⟩
-- sequences
noncomputable def sNil : SP := fun lm H => some (.next, lm, H)
noncomputable def sSeq (p q : SP) : SP := fun lm H => (p lm H).bind fun r => match r.1 with
  | .next => q r.2.1 r.2.2
  | f => some (f, r.2.1, r.2.2)
theorem SXs.nil : SXs prog w B l sc [] sNil := by
  intro A env σ H lm s fl lm' H' Rm n tp R L e Q E h
  refine bc fun hng => ?_
  cases e
  refine hng ?_
  exact wpAny_execs_nil (h _ s σ .refl R L .mkN)
theorem SXs.cons {st : Stmt} {sts : List Stmt} {p q : SP} (h1 : SX prog w B l sc st p) (h2 : SXs prog w B l sc sts q) : SXs prog w B l sc (st :: sts) (sSeq p q) := by
  intro A env σ H lm s fl lm' H' Rm n tp R L e Q E h
  refine bc fun hng => ?_
  obtain ⟨⟨f₁, lm₁, H₁⟩, e1, e⟩ := Option.bind_eq_some_iff.mp e
  refine hng ?_
  with_reducible refine wpAny_execs_cons (h1 Rm n tp R L e1 fun f s' σ' x R' L' r => ?_)
  cases f₁ with
  | next =>
    cases r
    exact h2 Rm n (Tp.up tp x) R' L' e fun f s'' σ'' x' R'' L'' r' => h f s'' σ'' (x.transS x') R'' L'' r'
  | brk =>
    cases r
    cases e
    exact h _ _ _ x R' L' rfl
  | ret a =>
    obtain ⟨v, rfl, r⟩ := r
    cases e
    exact h _ _ _ x R' L' ⟨v, rfl, r⟩
noncomputable def sRet (p : EP) : SP := fun lm H => (p lm H).map fun r => (.ret r.1, lm, r.2)
theorem SX.ret {e : Expr} {p : EP} {pos : Pos} (h1 : SE prog w B l sc e p) : SX prog w B l sc (.Return (some e) pos) (sRet p) := by
  intro A env σ H lm s fl lm' H' Rm n tp R L e Q E h
  refine bc fun hng => ?_
  obtain ⟨⟨a, H₁⟩, e1, e⟩ := Option.map_eq_some_iff.mp e
  cases e
  refine hng ?_
  with_reducible exact wpAny_Return_some (h1 Rm n tp R L e1 fun v s' σ' x R' r => h _ _ _ x.weaken R' (L.step x) (.mkR r))
noncomputable def sBrk : SP := fun lm H => some (.brk, lm, H)
theorem SX.brk {pos : Pos} : SX prog w B l sc (.Break pos) sBrk := by
  intro A env σ H lm s fl lm' H' Rm n tp R L e Q E h
  refine bc fun hng => ?_
  cases e
  refine hng ?_
  with_reducible exact wpAny_Break (h _ s σ .refl R L .mkB)
noncomputable def sIf (t : TP) (p q : SP) : SP := fun lm H => (t lm H).bind fun r => if r.1 = true then p lm r.2 else q lm r.2
theorem SX.ite {e : Expr} {a b : List Stmt} {t : TP} {p q : SP} {pos : Pos} (h0 : ST prog w B l sc e t) (h1 : SXs prog w B l sc a p) (h2 : SXs prog w B l sc b q) : SX prog w B l sc (.If e a b pos) (sIf t p q) := by
  intro A env σ H lm s fl lm' H' Rm n tp R L e Q E h
  refine bc fun hng => ?_
  obtain ⟨⟨b₁, H₁⟩, e1, e⟩ := Option.bind_eq_some_iff.mp e
  refine hng ?_
  with_reducible refine wpAny_If (h0 Rm n tp R L e1 fun s' σ' x R' => ?_)
  cases b₁ with
  | true => exact h1 Rm n (Tp.up tp x) R' (L.step x) e fun f s'' σ'' x' R'' L'' r' => h f s'' σ'' (x.weaken.transS x') R'' L'' r'
  | false => exact h2 Rm n (Tp.up tp x) R' (L.step x) e fun f s'' σ'' x' R'' L'' r' => h f s'' σ'' (x.weaken.transS x') R'' L'' r'
noncomputable def sAsg (x : String) (p : EP) : SP := fun lm H => (p lm H).map fun r => (.next, upd lm x r.1, r.2)
theorem SX.asg {x : String} {e : Expr} {p : EP} {p0 pos : Pos} (h1 : SE prog w B l sc e p) (hk : sc.names.lookup (Str.ofString x) = some .local ∨ sc.names.lookup (Str.ofString x) = some .cell)
    (hs : ∀ env, swapsWith e (some (.Name (Str.ofString x) p0)) pos.line env = pure false) : SX prog w B l sc (.Assign [.Name (Str.ofString x) p0] e pos) (sAsg x p) := by
  intro A env σ H lm s fl lm' H' Rm n tp R L e Q E h
  refine bc fun hng => ?_
  obtain ⟨⟨a, H₁⟩, e1, e⟩ := Option.map_eq_some_iff.mp e
  cases e
  refine hng ?_
  with_reducible refine wpAny_Assign_Name (h1 Rm n tp R L e1 fun v s' σ' x' R' r => ?_) (hs env)
  exact store_ok n R' (L.step x') hk r fun s'' x'' R'' L'' => h _ _ _ (x'.weaken.transS x'') R'' L'' rfl
noncomputable def sExp (p : EP) : SP := fun lm H => (p lm H).map fun r => (.next, lm, r.2)
theorem SX.exp {e : Expr} {p : EP} {pos : Pos} (h1 : SE prog w B l sc e p) (hi : sc.kind = .function) (hs : ∀ env, swapsWith e none pos.line env = pure false) : SX prog w B l sc (.Expr e pos) (sExp p) := by
  intro A env σ H lm s fl lm' H' Rm n tp R L e Q E h
  refine bc fun hng => ?_
  obtain ⟨⟨a, H₁⟩, e1, e⟩ := Option.map_eq_some_iff.mp e
  cases e
  refine hng ?_
  refine wpAny_Expr_any (h1 Rm n tp R L e1 fun v s' σ' x' R' r => h _ _ _ x'.weaken R' (L.step x') rfl) ?_ (hs env)
  unfold interactive; rw [n.fn]; rfl
-- several names at once
noncomputable def updN : List (String × Pos) → List AV → LM → LM
  | x :: xs, a :: as, lm => updN xs as (upd lm x.1 a)
  | _, _, lm => lm
noncomputable abbrev NK (sc : Scope) (x : String) : Prop := sc.names.lookup (Str.ofString x) = some .local ∨ sc.names.lookup (Str.ofString x) = some .cell
theorem names_ok {A : Around} {env : Env} (n : En B sc env) : ∀ (xs : List (String × Pos)) {σ : List Addr} {H : Hp} {lm : LM} {s : Shared} {avs : List AV} {vs : List Value}, RS B σ H s.heap → LR env s.heap σ lm → (∀ x ∈ xs, NK sc x.1) → VRs s.heap σ avs vs → vs.length = xs.length →
    ∀ (f : String × Pos → Value → Sem Unit) {E : Value → Shared → Prop}, (∀ x v s Q, wpAny (model prog w) A (storeName env (Str.ofString x.1) v) Q E s → wpAny (model prog w) A (f x v) Q E s) →
    ∀ {Q : Unit → Shared → Prop}, (∀ s', Step (vol env) σ s σ s' → RS B σ H s'.heap → LR env s'.heap σ (updN xs avs lm) → Q () s') → wpAny (model prog w) A (assignInOrder (xs.map f) vs) Q E s
  | [], σ, H, lm, s, avs, vs, R, L, hk, r, hl, f, E, hf, Q, h => by
    cases vs with
    | nil =>
      cases avs with
      | nil => exact wpAny_pure (h s .refl R L)
      | cons a as => have := r.length; simp at this
    | cons v vs => simp at hl
  | x :: xs, σ, H, lm, s, avs, vs, R, L, hk, r, hl, f, E, hf, Q, h => by
    cases avs with
    | nil => have := r.length; rw [hl] at this; simp at this
    | cons a as =>
      simp only [VRs] at r
      obtain ⟨v, vs', rfl, r1, r2⟩ := r
      show wpAny _ _ (do holding vs' (f x v); assignInOrder (xs.map f) vs') _ _ _
      refine wpAny_bind (wpAny_holding (hf x v s _ (store_ok n R L (hk x (.head _)) r1 fun s' st R' L' => ?_)))
      exact names_ok n xs R' L' (fun y hy => hk y (.tail _ hy)) (r2.step st L.clean) (by simpa using hl) f hf fun s'' st' R'' L'' => h s'' (st.transS st') R'' L''
noncomputable def sTup (xs : List (String × Pos)) (p : EP) : SP := fun lm H => (p lm H).bind fun r => match r.1 with
  | .tup vs => if vs.length = xs.length then some (.next, updN xs vs lm, r.2) else none
  | _ => none
noncomputable def nameOf (x : String × Pos) : Expr := .Name (Str.ofString x.1) x.2
theorem assignEach_names (env : Env) : ∀ xs : List (String × Pos), assignEach (xs.map nameOf) env = xs.map fun x => (false, assign (nameOf x) env)
  | [] => rfl
  | x :: xs => by rw [List.map_cons, List.map_cons, ← assignEach_names env xs]; rfl
theorem SX.tup {xs : List (String × Pos)} {e : Expr} {p : EP} {k : Nat} {tp0 pos : Pos} (h1 : SE prog w B l sc e p) (hk : ∀ x ∈ xs, NK sc x.1) (hs : ∀ env, swapsWithSole [.Tuple (xs.map nameOf) k tp0] e pos.line env = pure false)
    (hw : ∀ env, env.scope = sc → swappedStores [.Tuple (xs.map nameOf) k tp0] e env = pure none) : SX prog w B l sc (.Assign [.Tuple (xs.map nameOf) k tp0] e pos) (sTup xs p) := by
  intro A env σ H lm s fl lm' H' Rm n tp R L e Q E h
  refine bc fun hng => ?_
  obtain ⟨⟨a, H₁⟩, e1, e⟩ := Option.bind_eq_some_iff.mp e
  cases a with
  | tup avs =>
    simp only at e
    split at e
    · rename_i hl
      cases e
      refine hng ?_
      refine Assign_Tuple (h1 Rm n tp R L e1 fun v s' σ' x' R' r => ?_) (hs env) (hw env n.is)
      have r' := r
      simp only [VR] at r'
      obtain ⟨t, vs, k', rfl, ht, hg, hv⟩ := r'
      have hlen := hv.length
      refine assign_Tuple_tuple Rm.hh ⟨_, hg, rfl, _, rfl⟩ (by rw [assignEach_names]; simp; omega) (by rw [assignEach_names]; simp [List.findIdx?_eq_none_iff]) fun h' he => ?_
      have hk' : ∀ b o, s'.heap.get? b = some o → h'.get? b = some o := fun b o e => he b o (fun q => by rw [q, dead_next] at e; cases e) e
      have st := step_keeps (σ := σ') (s := s') (tk := s'.toks) hk' (Nat.le_refl _)
      rw [assignEach_names, List.map_map]
      exact names_ok n xs (R'.keeps hk') ((L.step x').step st) hk (hv.step0 st) (by omega) _ (fun x v s Q hq => assign_Name hq) fun s'' st' R'' L'' => h _ _ _ ((x'.trans' st).weaken.transS st') R'' L'' .mkN
    · cases e
  | _ => simp only at e; cases e
/-- names that are swapped: the last one first -/
theorem SX.swp {xs : List (String × Pos)} {elts : List Expr} {e : Expr} {p : EP} {k : Nat} {tp0 pos : Pos} (h1 : SE prog w B l sc e p) (hk : ∀ x ∈ xs, NK sc x.1) (hs : ∀ env, swapsWithSole [.Tuple elts k tp0] e pos.line env = pure false)
    (hw : ∀ env, env.scope = sc → swappedStores [.Tuple elts k tp0] e env = pure (some (xs.map fun x => Str.ofString x.1))) : SX prog w B l sc (.Assign [.Tuple elts k tp0] e pos)
      (fun lm H => (p lm H).bind fun r => match r.1 with | .tup vs => if vs.length = xs.length then some (.next, updN xs.reverse vs.reverse lm, r.2) else none | _ => none) := by
  intro A env σ H lm s fl lm' H' Rm n tp R L e Q E h
  refine bc fun hng => ?_
  obtain ⟨⟨a, H₁⟩, e1, e⟩ := Option.bind_eq_some_iff.mp e
  cases a with
  | tup avs =>
    simp only at e
    split at e
    · rename_i hl
      cases e
      refine hng ?_
      refine Assign_Tuple_swapped (h1 Rm n tp R L e1 fun v s' σ' x' R' r => ?_) (hs env) (hw env n.is)
      have r' := r
      simp only [VR] at r'
      obtain ⟨t, vs, k', rfl, ht, hg, hv⟩ := r'
      have hlen := hv.length
      rw [show (xs.map fun x => Str.ofString x.1).length = vs.toArray.size by simp; omega]
      refine unpackItems_tuple Rm.hh ⟨_, hg, rfl, _, rfl⟩ fun h' he => ?_
      have hk' : ∀ b o, s'.heap.get? b = some o → h'.get? b = some o := fun b o e => he b o (fun q => by rw [q, dead_next] at e; cases e) e
      have st := step_keeps (σ := σ') (s := s') (tk := s'.toks) hk' (Nat.le_refl _)
      rw [← List.map_reverse, List.map_map]
      have rev : ∀ {as : List AV} {us : List Value} {h : Heap}, VRs h σ' as us → VRs h σ' as.reverse us.reverse := by
        intro as
        induction as with
        | nil => intro us h x; simp only [VRs] at x; subst x; exact .nil
        | cons a as ih =>
          intro us h x
          simp only [VRs] at x
          obtain ⟨u, us', rfl, x1, x2⟩ := x
          rw [List.reverse_cons, List.reverse_cons]
          exact (ih x2).append (.one x1)
      exact names_ok n xs.reverse (R'.keeps hk') ((L.step x').step st) (fun x hx => hk x (List.mem_reverse.mp hx)) (rev (hv.step0 st)) (by simp; omega) _ (fun x v s Q hq => bindName_ hq) fun s'' st' R'' L'' => h _ _ _ ((x'.trans' st).weaken.transS st') R'' L'' .mkN
    · cases e
  | _ => simp only at e; cases e
-- o[i] = e
noncomputable def setI (H : Hp) (o i v : AV) : Option Hp := match o, i with
  | .ref j, .int k => match H[j]? with
    | some (.list xs) => if 0 ≤ k ∧ k < xs.length ∧ xs.length ≤ 100000 then some (H.set j (.list (xs.set k.toNat v))) else none
    | some (.dict n f) => if n ≤ 100000 then some (H.set j (.dict (n + 1) fun x => if x = k then some v else f x)) else none
    | _ => none
  | _, _ => none
theorem setI_ok {A : Around} {σ : List Addr} {H H' : Hp} {s : Shared} {o i v : AV} {vo vi vv : Value} (R : RS B σ H s.heap) (ro : VR s.heap σ o vo) (ri : VR s.heap σ i vi) (rv : VR s.heap σ v vv) (e : setI H o i v = some H')
    {Q : Unit → Shared → Prop} {E : Value → Shared → Prop} (h : ∀ s', Step [] σ s σ s' → RS B σ H' s'.heap → Q () s') : wpAny (model prog w) A (setItem vo vi vv) Q E s := by
  unfold setI at e
  split at e
  · rename_i j k
    split at e
    · rename_i xs hx
      split at e
      · rename_i hk
        obtain ⟨h0, h1, h2⟩ := hk
        cases e
        obtain ⟨a, vs, n, rfl, hi, -, hg, hv⟩ := R.list ro (xs := xs) (by unfold getL; rw [hx])
        have hlen := hv.length
        simp only [VR] at ri
        obtain ⟨t, rfl⟩ := ri
        obtain ⟨x1, x2⟩ := setL R hi hg (fun x => x.setIfInBounds k.toNat vv) (us := vs.set k.toNat vv) (by apply Array.toList_inj.mp; simp) (hv.set rv)
        exact ki_setAt hg h0 (by omega) (by simp; omega) (h _ x1 x2)
      · cases e
    · rename_i n f hx
      split at e
      · rename_i hn
        cases e
        obtain ⟨a, rfl, hi, -, hl, g, hg, hr⟩ := R.dict ro hx
        simp only [VR] at ri
        obtain ⟨t, rfl⟩ := ri
        refine wpAny_setItem_intMap_le hg hl (by rw [sizeLine_eq]; omega) fun h' hm hl' hs => ?_
        have hk : ∀ b o, b ≠ a → s.heap.get? b = some o → h'.get? b = some o := fun b o hb e => (hs.2 b hb).trans e
        have hlv : h'.get? a ≠ none := by
          obtain ⟨o, es, ep, e, _⟩ := hm
          rw [e]; exact fun q => nomatch q
        have st := step_set (s := s) (tk := s.toks + 1) hi hk hlv (Nat.le_succ _)
        refine h _ st (R.set hi hk hlv ⟨hl', _, hm, fun x => ?_⟩)
        by_cases hx : x = k
        · simp only [hx, if_true]
          exact .inr ⟨v, vv, rfl, rfl, rv.step0 st⟩
        · simp only [hx, if_false]
          exact (hr x).imp id fun ⟨av, u, q1, q2, q3⟩ => ⟨av, u, q1, q2, q3.step0 st⟩
      · cases e
    · cases e
  · cases e
noncomputable def sSetI (o i p : EP) : SP := fun lm H => (p lm H).bind fun r => (o lm r.2).bind fun a => (i lm a.2).bind fun b => (setI b.2 a.1 b.1 r.1).map fun H' => (.next, lm, H')
theorem SX.setI {o i e : Expr} {po pi p : EP} {p0 pos : Pos} (h1 : SE prog w B l sc e p) (h2 : SE prog w B l sc o po) (h3 : SE prog w B l sc i pi) (hs : ∀ env, swapsWith e (some (.Subscript o i p0)) pos.line env = pure false) :
    SX prog w B l sc (.Assign [.Subscript o i p0] e pos) (sSetI po pi p) := by
  intro A env σ H lm s fl lm' H' Rm n tp R L e Q E h
  refine bc fun hng => ?_
  obtain ⟨⟨a₁, H₁⟩, e1, e⟩ := Option.bind_eq_some_iff.mp e
  obtain ⟨⟨a₂, H₂⟩, e2, e⟩ := Option.bind_eq_some_iff.mp e
  obtain ⟨⟨a₃, H₃⟩, e3, e⟩ := Option.bind_eq_some_iff.mp e
  obtain ⟨H₄, e4, e⟩ := Option.map_eq_some_iff.mp e
  cases e
  refine hng ?_
  with_reducible refine wpAny_Assign_Subscript (h1 Rm n tp R L e1 fun v₁ s₁ σ₁ x₁ R₁ r₁ => h2 Rm n (Tp.up tp x₁) R₁ (L.step x₁) e2 fun v₂ s₂ σ₂ x₂ R₂ r₂ => h3 Rm n (Tp.up (Tp.up tp x₁) x₂) R₂ ((L.step x₁).step x₂) e3 fun v₃ s₃ σ₃ x₃ R₃ r₃ => ?_) (hs env)
  exact setI_ok R₃ (r₂.step0 x₃) r₃ ((r₁.step0 x₂).step0 x₃) e4 fun s' x R' => h _ _ _ (((x₁.trans' x₂).trans' x₃).trans' x).weaken R' ((((L.step x₁).step x₂).step x₃).step x) .mkN
-- o.x = e
noncomputable def sSetA (C : Addr) (x : String) (o p : EP) : SP := fun lm H => (p lm H).bind fun r => (o lm r.2).bind fun a => match a.1 with
  | .ref i => (getA C a.2 i).bind fun u => if u.2.length ≤ 100 then some (.next, lm, a.2.set u.1 (.attrs (putA x r.1 u.2))) else none
  | _ => none
theorem putA_len (x : String) (v : AV) : ∀ fs : List (String × AV), (putA x v fs).length ≤ fs.length + 1
  | [] => by simp [putA]
  | (y, u) :: r => by
    have := putA_len x v r
    simp only [putA]
    split <;> simp <;> omega
theorem SX.setA {K : Frag} {C : Addr} {x : String} {o e : Expr} {po p : EP} {p0 pos : Pos} (c : Cl K B C) (cn : ClN K C x) (h1 : SE prog w B l sc e p) (h2 : SE prog w B l sc o po) (hs : ∀ env, swapsWith e (some (.Attribute o (Str.ofString x) p0)) pos.line env = pure false) :
    SX prog w B l sc (.Assign [.Attribute o (Str.ofString x) p0] e pos) (sSetA C x po p) := by
  intro A env σ H lm s fl lm' H' Rm n tp R L e Q E h
  refine bc fun hng => ?_
  obtain ⟨⟨a₁, H₁⟩, e1, e⟩ := Option.bind_eq_some_iff.mp e
  obtain ⟨⟨a₂, H₂⟩, e2, e⟩ := Option.bind_eq_some_iff.mp e
  cases a₂ with
  | ref i =>
    simp only at e
    obtain ⟨⟨d, fs⟩, e3, e⟩ := Option.bind_eq_some_iff.mp e
    split at e
    · rename_i hfs
      cases e
      refine hng ?_
      with_reducible refine plainObj_wpAny_Assign_Attribute (h1 Rm n tp R L e1 fun v₁ s₁ σ₁ x₁ R₁ r₁ => h2 Rm n (Tp.up tp x₁) R₁ (L.step x₁) e2 fun v₂ s₂ σ₂ x₂ R₂ r₂ => ?_) (hs env)
      obtain ⟨a, dx, es, k, rfl, hi, hd, hx, hdx, hr, I⟩ := R₂.inst r₂ e3
      have pr : AttrsR s₂.heap σ₂ (putA x a₁ fs) (putL (Str.ofString x) (PyData.keyHash w.params (Str.ofString x)) (.str (Str.ofString x) (s₂.toks + 1)) v₁ es) := hr.put (r₁.step0 x₂)
      have hz := pr.len
      have hz' := putA_len x a₁ fs
      refine Mine.setA (c.X.keeps R₂.base) I c.set c.over cn.tak c.dct (hr.find "").1 (by simp only at hfs; omega) fun h' hn hk => ?_
      have hlv : h'.get? dx ≠ none := by rw [hn]; exact fun q => nomatch q
      have st := step_set (s := s₂) (tk := s₂.toks + 2) hd hk hlv (Nat.le_add_right _ 2)
      exact h _ _ _ ((x₁.trans' x₂).trans' st).weaken (R₂.set hd hk hlv ⟨_, _, hn, pr.mono (st.frz .nil) st.pre⟩) (((L.step x₁).step x₂).step st) .mkN
    · cases e
  | _ => simp only at e; cases e
-- a = b = c = e
theorem SX.asg3 {x y z : String} {e : Expr} {p : EP} {p1 p2 p3 pos : Pos} (h1 : SE prog w B l sc e p) (hx : NK sc x) (hy : NK sc y) (hz : NK sc z)
    (hw : ∀ env, swappedStores [.Name (Str.ofString x) p1, .Name (Str.ofString y) p2, .Name (Str.ofString z) p3] e env = pure none) :
    SX prog w B l sc (.Assign [.Name (Str.ofString x) p1, .Name (Str.ofString y) p2, .Name (Str.ofString z) p3] e pos) (fun lm H => (p lm H).map fun r => (.next, upd (upd (upd lm x r.1) y r.1) z r.1, r.2)) := by
  intro A env σ H lm s fl lm' H' Rm n tp R L e Q E h
  refine bc fun hng => ?_
  obtain ⟨⟨a, H₁⟩, e1, e⟩ := Option.map_eq_some_iff.mp e
  cases e
  refine hng ?_
  refine wpAny_Assign_three (h1 Rm n tp R L e1 fun v s' σ' x' R' r => ?_) rfl (hw env)
  refine assign_Name (store_ok n R' (L.step x') hx r fun s₁ x₁ R₁ L₁ => assign_Name (store_ok n R₁ L₁ hy (r.step x₁ (L.step x').clean) fun s₂ x₂ R₂ L₂ => assign_Name (store_ok n R₂ L₂ hz ((r.step x₁ (L.step x').clean).step x₂ L₁.clean) fun s₃ x₃ R₃ L₃ => ?_)))
  exact h _ _ _ (((x'.weaken.transS x₁).transS x₂).transS x₃) R₃ L₃ .mkN
end Mine
end
section
namespace Mine
variable {prog : Program} {w : World} {B : Heap} {mg mb : Str → Option Value} {l : Nat} {sc : Scope}
theorem RS.mono' {σ : List Addr} {H : Hp} {h h' : Heap} (R : RS B σ H h) {V : List Addr} (hk : ∀ b o, b ∉ V → h.get? b = some o → h'.get? b = some o) (hσ : ∀ b ∈ V, b ∉ σ) (hB : ∀ b ∈ V, B.get? b = none) (hV : VClean V h) : RS B σ H h' := by
  have ne : ∀ a ∈ σ, a ∉ V := fun a ha hv => hσ a hv ha
  refine ⟨R.len, R.nodup, fun b o e => hk b o (fun q => by rw [hB b q] at e; cases e) (R.base b o e), R.off, fun i a o e1 e2 => ?_, fun a ha => ?_⟩
  · have am := List.mem_of_getElem? e1
    refine (R.obj i a o e1 e2).mono (fun b ob hb hf e => ⟨hk b ob (fun q => hV b q ob e hf) e, hb⟩) (List.prefix_refl _) ?_
    have hl := R.live a am
    cases q : h.get? a with
    | none => exact absurd q hl
    | some x => exact hk a x (ne a am) q
  · have hl := R.live a ha
    cases q : h.get? a with
    | none => exact absurd q hl
    | some x => rw [hk a x (ne a ha) q]; exact fun q => (nomatch q)
/-- the locals stand over a step that leaves them -/
theorem LR.step' {env : Env} {s s' : Shared} {σ σ' V : List Addr} {lm : LM} (r : LR env s.heap σ lm) (x : Step V σ s σ' s') (hd : ∀ b ∈ vol env, b ∉ V) (hV : VClean V s.heap) : LR env s'.heap σ' lm := by
  have k : ∀ b ∈ vol env, ∀ o, s.heap.get? b = some o → Sm o (s'.heap.get? b) := fun b hb o e => x.keep b o (r.off b hb) (hd b hb) e
  have off' : ∀ b ∈ vol env, b ∉ σ' := fun b hb q => r.live b hb (x.fresh b q (r.off b hb))
  refine ⟨?_, off' _ (.head _), fun y c hm => ?_, r.apart, fun n av e => ?_⟩
  · obtain ⟨m, hn⟩ := r.ns
    exact ⟨m, Ns_sm hn (k _ (.head _))⟩
  · obtain ⟨⟨ov, hc⟩, _, h3⟩ := r.cells y c hm
    have hb : c ∈ vol env := .tail _ (List.mem_map.mpr ⟨_, hm, rfl⟩)
    exact ⟨⟨ov, isCell_sm hc (k c hb)⟩, off' c hb, h3⟩
  · obtain ⟨v, h1, h2⟩ := r.vars n av e
    exact ⟨v, h1.keep k, h2.step x hV⟩
/-- an iterator that hands on written items -/
structure ItV (prog : Program) (w : World) (B : Heap) (σ : List Addr) (h : Heap) (V : List Addr) (I : Addr) (vs : List AV) : Prop where
  walk : ∃ (fp : List Addr) (n j : Nat) (P : Nat → Value → Prop) (St : Nat → Heap → Prop), (∀ A' : Around, A'.handled = none → Walks prog w A' I fp [I] n P St) ∧ St j h ∧ n = j + vs.length ∧
    (∀ j h, St j h → ∃ o, h.get? I = some o ∧ ¬ Frz o ∧ ¬ IsD o) ∧ (∀ b ∈ fp, b ∉ σ ∧ b ∉ V ∧ ∃ o, h.get? b = some o ∧ ¬ IsD o) ∧ ∀ k v av, P (j + k) v → vs[k]? = some av → VR h σ av v
  out : I ∉ σ
  off : I ∉ V
  new : B.get? I = none
theorem notD_f {o : Obj} {v : Array Value} (h : o.data = .fields v) : ¬ IsD o := by
  rintro ⟨es, n, hd⟩; rw [h] at hd; cases hd
theorem ItV.off1 {σ V : List Addr} {h : Heap} {I : Addr} {vs : List AV} (x : ItV prog w B σ h V I vs) : VClean [I] h := fun b hb o e hf => by
  obtain ⟨fp, n, j, P, St, h1, h2, h3, h4, h5, h6⟩ := x.walk
  rw [List.mem_singleton.mp hb] at e
  obtain ⟨o', e', hn, _⟩ := h4 _ _ h2
  rw [e'] at e; cases e; exact hn hf
theorem ItV.step {V U σ σ' : List Addr} {s s' : Shared} {I : Addr} {vs : List AV} (x : ItV prog w B σ s.heap V I vs) (st : Step U σ s σ' s') (hU : ∀ b ∈ U, b ∈ V) (hc : VClean U s.heap) : ItV prog w B σ' s'.heap V I vs := by
  obtain ⟨⟨fp, n, j, P, St, h1, h2, h3, h4, h5, h6⟩, o1, o2, o3⟩ := x
  have live : s.heap.get? I ≠ none := by obtain ⟨o, e, _⟩ := h4 _ _ h2; rw [e]; exact fun q => (nomatch q)
  have kp : ∀ b ∈ fp, ∀ o, s.heap.get? b = some o → s'.heap.get? b = some o := fun b hb o e => by
    obtain ⟨o', e', nd⟩ := (h5 b hb).2.2
    rw [e] at e'; cases e'
    exact (st.keep b o (h5 b hb).1 (fun q => (h5 b hb).2.1 (hU b q)) e).eq nd
  refine ⟨⟨fp, n, j, P, St, h1, (h1 { } rfl).frame _ _ _ h2 kp, h3, h4, fun b hb => ?_, fun k v av hp e => (h6 k v av hp e).step st hc⟩, fun q => live (st.fresh I q o1), o2, o3⟩
  obtain ⟨h7, h8, o, e, nd⟩ := h5 b hb
  exact ⟨(fun q => by have := st.fresh b q h7; rw [e] at this; cases this), h8, o, kp b hb o e, nd⟩
theorem ItV.next {V σ : List Addr} {s : Shared} {I : Addr} {v₀ : AV} {vs : List AV} {H : Hp} {A : Around} (x : ItV prog w B σ s.heap V I (v₀ :: vs)) (hh : A.handled = none) (R : RS B σ H s.heap)
    {Q : Option Value → Shared → Prop} {E : Value → Shared → Prop} (h : ∀ v s', Step [I] σ s σ s' → RS B σ H s'.heap → ItV prog w B σ s'.heap V I vs → VR s'.heap σ v₀ v → Q (some v) s') : wpAny (model prog w) A (pyNext (.ref I)) Q E s := by
  refine bc fun hng => ?_
  have hcl : VClean [I] s.heap := x.off1
  obtain ⟨⟨fp, n, j, P, St, h1, h2, h3, h4, h5, h6⟩, o1, o2, o3⟩ := x
  have W := h1 A hh
  have hlt : j < n := by rw [h3]; exact Nat.lt_add_of_pos_right (Nat.succ_pos _)
  refine hng ?_
  with_reducible refine wpAny_with_toks (Nat.le_refl s.toks) (W.item j s _ _ hlt h2 fun v h' tk hp hst hk hle => ?_)
  have st : Step [I] σ s σ { s with heap := h', toks := tk } := ⟨⟨h', tk, rfl⟩, List.prefix_refl _, fun _ a b => absurd a b, fun b o _ hv e => .inl (hk b o hv e), fun b o _ e d => by
    by_cases q : b = I
    · obtain ⟨o', e', _, nd⟩ := h4 _ _ h2
      subst q; rw [e] at e'; cases e'; exact absurd d nd
    · exact ⟨o, hk b o (by simpa using q) e, d⟩, fun b e => by
    by_cases q : b = I
    · obtain ⟨o, e', _⟩ := h4 _ _ hst
      rw [q]; show h'.get? I ≠ none; rw [e']; exact fun q => (nomatch q)
    · cases e' : s.heap.get? b with
      | none => exact absurd e' e
      | some o => show h'.get? b ≠ none; rw [hk b o (by simpa using q) e']; exact fun q => (nomatch q), hle⟩
  refine h v _ st (R.mono' hk (fun b hb => by rw [List.mem_singleton.mp hb]; exact o1) (fun b hb => by rw [List.mem_singleton.mp hb]; exact o3) hcl) ⟨⟨fp, n, j + 1, P, St, h1, hst, by rw [h3]; simp; omega, h4, fun b hb => ?_, fun k u av hp' e => ?_⟩, o1, o2, o3⟩ ?_
  · obtain ⟨h7, h8, o, e, nd⟩ := h5 b hb
    by_cases q : b = I
    · obtain ⟨o', e', _, nd'⟩ := h4 _ _ hst
      exact ⟨h7, h8, o', by rw [q]; exact e', nd'⟩
    · exact ⟨h7, h8, o, hk b o (by simpa using q) e, nd⟩
  · exact (h6 (k + 1) u av (by rw [show j + (k + 1) = j + 1 + k by omega]; exact hp') (by simpa using e)).step st hcl
  · exact (h6 0 v v₀ hp rfl).step st hcl
theorem LR.mono {env : Env} {h h' : Heap} {σ : List Addr} {lm : LM} (r : LR env h σ lm) (k : ∀ b ∈ vol env, ∀ o, h.get? b = some o → h'.get? b = some o) (hf : ∀ b o, b ∉ σ → Frz o → h.get? b = some o → h'.get? b = some o) : LR env h' σ lm := by
  refine ⟨?_, r.out, fun y c hm => ?_, r.apart, fun n av e => ?_⟩
  · obtain ⟨m, hn⟩ := r.ns
    exact ⟨m, Heap.Ns.at'' hn (k _ (.head _))⟩
  · obtain ⟨⟨ov, hc⟩, h2, h3⟩ := r.cells y c hm
    exact ⟨⟨ov, isCell_at hc (k c (.tail _ (List.mem_map.mpr ⟨_, hm, rfl⟩)))⟩, h2, h3⟩
  · obtain ⟨v, h1, h2⟩ := r.vars n av e
    exact ⟨v, h1.keep (fun b hb o e => .inl (k b hb o e)), h2.mono (fun b o hb hfo e => ⟨hf b o hb hfo e, hb⟩) (List.prefix_refl _)⟩
/-- the walk's end: the iterator may be gone -/
theorem ItV.done {env : Env} {lm : LM} {V σ σ₀ : List Addr} {s s₀ : Shared} {I : Addr} {H : Hp} {A : Around} (x : ItV prog w B σ s.heap (vol env) I []) (hh : A.handled = none) (R : RS B σ H s.heap) (L : LR env s.heap σ lm)
    (st : Step V σ₀ s₀ σ s) (h0 : s₀.heap.get? I = none)
    {Q : Option Value → Shared → Prop} {E : Value → Shared → Prop} (h : ∀ s', Step V σ₀ s₀ σ s' → RS B σ H s'.heap → LR env s'.heap σ lm → Q none s') : wpAny (model prog w) A (pyNext (.ref I)) Q E s := by
  refine bc fun hng => ?_
  have hcl : VClean [I] s.heap := x.off1
  obtain ⟨⟨fp, n, j, P, St, h1, h2, h3, h4, h5, h6⟩, o1, o2, o3⟩ := x
  rw [show n = j from h3] at h1
  refine hng ?_
  with_reducible refine wpAny_with_toks (Nat.le_refl s.toks) ((h1 A hh).done s _ _ h2 fun h' tk hk hle => ?_)
  have st' : Step V σ₀ s₀ σ { s with heap := h', toks := tk } := by
    refine ⟨?_, st.pre, st.fresh, fun b o hb hv e => ?_, fun b o hb e d => ?_, fun b e => ?_, Nat.le_trans st.tok hle⟩
    · obtain ⟨h₁, t₁, rfl⟩ := st.same
      exact ⟨h', tk, rfl⟩
    · have k1 := st.keep b o hb hv e
      obtain ⟨o', e'⟩ := k1.ex
      exact k1.trans e' (.inl (hk b o' (fun q => by rw [List.mem_singleton.mp q, h0] at e; cases e) e'))
    · obtain ⟨o', e', d'⟩ := st.dic b o hb e d
      exact ⟨o', hk b o' (fun q => by rw [List.mem_singleton.mp q, h0] at e; cases e) e', d'⟩
    · cases e' : s.heap.get? b with
      | none => exact absurd e' (st.alive b e)
      | some o => show h'.get? b ≠ none; rw [hk b o (fun q => e (by rw [List.mem_singleton.mp q]; exact h0)) e']; exact fun q => (nomatch q)
  refine h _ st' (R.mono' hk (fun b hb => by rw [List.mem_singleton.mp hb]; exact o1) (fun b hb => by rw [List.mem_singleton.mp hb]; exact o3) hcl) ?_
  exact L.mono (fun b hb o e => hk b o (fun q => o2 (List.mem_singleton.mp q ▸ hb)) e) fun b o _ hf e => hk b o (fun q => hcl b q o e hf) e
noncomputable def itemsOf : AV → Option (List AV)
  | .rng lo hi => if lo.natAbs ≤ 1000000 ∧ hi.natAbs ≤ 1000000 then some ((List.range (hi - lo).toNat).map fun (i : Nat) => .int (lo + i)) else none
  | .str cs => some (cs.map fun c => .str [c])
  | .tup vs => some vs
  | .lint is => some (is.map .int)
  | _ => none
/-- the iterator of a thing that does not change -/
theorem iter_ok {V σ : List Addr} {s : Shared} {H : Hp} {A : Around} {av : AV} {v : Value} {vs : List AV} (hh : A.handled = none) (R : RS B σ H s.heap) (r : VR s.heap σ av v) (e : itemsOf av = some vs) (hV : VClean V s.heap) (lV : ∀ b ∈ V, s.heap.get? b ≠ none)
    {Q : Value → Shared → Prop} {E : Value → Shared → Prop} (h : ∀ I s', s.heap.get? I = none → Step [] σ s σ s' → RS B σ H s'.heap → ItV prog w B σ s'.heap V I vs → Q (.ref I) s') : wpAny (model prog w) A (pyIter v) Q E s := by
  have hk : ∀ o b o', s.heap.get? b = some o' → (s.heap.push o).get? b = some o' := fun o b o' e => Heap.get?_push_of_some _ e
  have st : ∀ o, Step [] σ s σ { s with heap := s.heap.push o } := fun o => step_keeps (tk := s.toks) (hk o) (Nat.le_refl _)
  have iV : s.heap.objs.size ∉ V := fun q => lV _ q dead_next
  have iσ : s.heap.objs.size ∉ σ := fun q => R.live _ q dead_next
  have iB : B.get? s.heap.objs.size = none := by
    cases q : B.get? s.heap.objs.size with
    | none => rfl
    | some o => have := R.base _ _ q; rw [dead_next] at this; cases this
  have fpI : ∀ (o : Obj), o.isFreed = false → ¬ IsD o → ∀ b ∈ [s.heap.objs.size], b ∉ σ ∧ b ∉ V ∧ ∃ o', (s.heap.push o).get? b = some o' ∧ ¬ IsD o' := fun o ho nd b hb => by
    rw [List.mem_singleton.mp hb]
    exact ⟨iσ, iV, o, Heap.get?_push_size _ ho, nd⟩
  have fp2 : ∀ (o : Obj) (a : Addr) (oa : Obj), o.isFreed = false → ¬ IsD o → a ∉ σ → s.heap.get? a = some oa → Frz oa → ∀ b ∈ [s.heap.objs.size, a], b ∉ σ ∧ b ∉ V ∧ ∃ o', (s.heap.push o).get? b = some o' ∧ ¬ IsD o' := fun o a oa ho nd h1 h2 h3 b hb => by
    rcases List.mem_cons.mp hb with rfl | hb
    · exact fpI o ho nd _ (.head _)
    · rw [List.mem_singleton.mp hb]
      exact ⟨h1, fun q => hV a q oa h2 h3, oa, hk o a oa h2, h3.notD⟩
  cases av with
  | rng lo hi =>
    simp only [itemsOf] at e
    split at e
    · rename_i hb
      cases e
      simp only [VR] at r
      obtain ⟨a, t, u, k, rfl, ha, hg⟩ := r
      refine wpAny_pyIter_range hg (by
        have f : ∀ x : Int, -3000000 ≤ x → x ≤ 3000000 → Builtin.Range.rangeFitsLong x = true := fun x h1 h2 => by
          unfold Builtin.Range.rangeFitsLong; simp; omega
        unfold Builtin.Range.small; rw [rangeSize_one]
        have e4 := f (if lo < hi then hi - lo else 0) (by split <;> omega) (by split <;> omega)
        have g1 : (1 : Int) > 0 := by decide
        rw [f lo (by omega) (by omega), f hi (by omega) (by omega), f 1 (by omega) (by omega), e4, if_pos g1, f (hi + (1 - 1)) (by omega) (by omega), Bool.or_true]; rfl) ?_
      have hsz : Builtin.Range.rangeSize lo hi 1 = ((hi - lo).toNat : Int) := by rw [rangeSize_one]; split <;> omega
      rw [hsz]
      refine h _ _ dead_next (st _) (R.keeps (hk _)) ⟨⟨[s.heap.objs.size], (hi - lo).toNat, 0, _, _, fun A' h' => (Walks.range h' s.heap.objs.size lo 1 (hi - lo).toNat).bound, ?_, by simp, ?_, fpI _ rfl (notD_f rfl), ?_⟩, iσ, iV, iB⟩
      · simpa using Heap.get?_push_size _ rfl
      · intro j h hst
        refine ⟨_, hst, fun q => ?_, notD_f rfl⟩
        have q' : Value.type "range_iterator" = Value.type "range" := q
        exact absurd q' (by decide)
      · intro k v av hp e
        obtain ⟨hlt, t', rfl⟩ := hp
        rw [List.getElem?_map, List.getElem?_range (by omega)] at e
        cases e
        have : lo + ((0 + k : Nat) : Int) * 1 = lo + (k : Int) := by simp
        rw [this]; exact .mkI
    · cases e
  | str cs =>
    simp only [itemsOf] at e
    cases e
    simp only [VR] at r
    obtain ⟨t, rfl⟩ := r
    have nf : ∀ (ty : String) (j : Nat) (h : Heap), (Value.type ty = Value.type "range") = False → h.IsStrIter s.heap.objs.size ty ⟨cs.toArray⟩ t j → ∃ o, h.get? s.heap.objs.size = some o ∧ ¬ Frz o ∧ ¬ IsD o := by
      rintro ty j h hty ⟨o, ho, hc, hd⟩
      refine ⟨o, ho, fun q => ?_, notD_f hd⟩
      unfold Frz at q; rw [hd] at q; simp only at q; rw [hc, hty] at q; exact q
    have pf : ∀ k v av, SignAt ⟨cs.toArray⟩ (0 + k) v → (cs.map fun c => AV.str [c])[k]? = some av → ∀ h : Heap, VR h σ av v := by
      rintro k v av ⟨c, u, hc, rfl⟩ e h
      rw [List.getElem?_map] at e
      obtain ⟨c', e1, e2⟩ := Option.map_eq_some_iff.mp e
      subst e2
      have : cs[k]? = some c := by simpa using hc
      rw [e1] at this; cases this
      exact .mkS
    cases hasc : (Str.mk cs.toArray).cps.all (· < 128) with
    | false =>
      refine wpAny_pyIter_wide hasc ?_
      exact h _ _ dead_next (st _) (R.keeps (hk _)) ⟨⟨[s.heap.objs.size], cs.toArray.size, 0, _, _, fun A' h' => Walks.strWide h' s.heap.objs.size ⟨cs.toArray⟩ t, ⟨_, Heap.get?_push_size _ rfl, rfl, rfl⟩, by simp, fun j h hst => nf _ j h (by decide) hst, fpI _ rfl (notD_f rfl), fun k v av hp e => pf k v av hp e _⟩, iσ, iV, iB⟩
    | true =>
      refine wpAny_pyIter_ascii hasc ?_
      exact h _ _ dead_next (st _) (R.keeps (hk _)) ⟨⟨[s.heap.objs.size], cs.toArray.size, 0, _, _, fun A' h' => Walks.strAscii h' s.heap.objs.size ⟨cs.toArray⟩ t, ⟨_, Heap.get?_push_size _ rfl, rfl, rfl⟩, by simp, fun j h hst => nf _ j h (by decide) hst, fpI _ rfl (notD_f rfl), fun k v av hp e => pf k v av hp e _⟩, iσ, iV, iB⟩
  | tup us =>
    simp only [itemsOf] at e
    cases e
    simp only [VR] at r
    obtain ⟨a, ws, n, rfl, ha, hg, hv⟩ := r
    have ht : s.heap.IsTuple a ws.toArray := ⟨_, hg, rfl, _, rfl⟩
    refine wpAny_pyIter_tuple ht ?_
    refine h _ _ dead_next (st _) (R.keeps (hk _)) ⟨⟨[s.heap.objs.size, a], ws.toArray.size, 0, _, _, fun A' h' => Walks.tuple h' s.heap.objs.size a (Nat.ne_of_lt (Heap.lt_size hg)) ws.toArray, ⟨⟨_, Heap.get?_push_size _ rfl, rfl, rfl⟩, ⟨_, hk _ _ _ hg, rfl, _, rfl⟩⟩, by simp [hv.length], ?_, fp2 _ a _ rfl (notD_f rfl) ha hg trivial, ?_⟩, iσ, iV, iB⟩
    · rintro j h ⟨⟨o, ho, hc, hd⟩, _⟩
      refine ⟨o, ho, fun q => ?_, notD_f hd⟩
      unfold Frz at q; rw [hd] at q; simp only at q; rw [hc] at q; exact absurd q (by decide)
    · intro k v av hp e
      obtain ⟨u, h1, h2⟩ := hv.get e
      have : ws[k]? = some v := by simpa using hp
      rw [h1] at this; cases this
      exact h2.step0 (st _)
  | lint is =>
    simp only [itemsOf] at e
    cases e
    simp only [VR] at r
    obtain ⟨a, ws, rfl, ha, hg, hi⟩ := r
    refine wpAny_pyIter_list hg ?_
    obtain ⟨o, ho, hc, n, hd⟩ := id hg
    have hlen := hi.length
    refine h _ _ dead_next (st _) (R.keeps (hk _)) ⟨⟨[s.heap.objs.size, a], ws.toArray.size, 0, _, _, fun A' h' => Walks.list h' s.heap.objs.size a (Nat.ne_of_lt (Heap.lt_size ho)) ws.toArray, ⟨⟨_, Heap.get?_push_size _ rfl, rfl, rfl⟩, hg.push _⟩, by simp [hlen], ?_, fp2 _ a _ rfl (notD_f rfl) ha ho (by unfold Frz; rw [hd]; trivial), ?_⟩, iσ, iV, iB⟩
    · rintro j h ⟨⟨o, ho, hc, hd⟩, _⟩
      refine ⟨o, ho, fun q => ?_, notD_f hd⟩
      unfold Frz at q; rw [hd] at q; simp only at q; rw [hc] at q; exact absurd q (by decide)
    · intro k v av hp e
      rw [List.getElem?_map] at e
      obtain ⟨i, e1, e2⟩ := Option.map_eq_some_iff.mp e
      subst e2
      obtain ⟨t, e3⟩ := hi.get k i e1
      have : ws[k]? = some v := by simpa using hp
      rw [e3] at this; cases this
      exact .mkI
  | _ => simp [itemsOf] at e
noncomputable def forL (q : SP) (x : String) : List AV → LM → Hp → Option (Fl × LM × Hp)
  | [], lm, H => some (.next, lm, H)
  | v :: vs, lm, H => (q (upd lm x v) H).bind fun r => match r.1 with
    | .next => forL q x vs r.2.1 r.2.2
    | .brk => some (.next, r.2.1, r.2.2)
    | .ret a => some (.ret a, r.2.1, r.2.2)
noncomputable def sFor (x : String) (p : EP) (q : SP) : SP := fun lm H => (p lm H).bind fun r => (itemsOf r.1).bind fun vs => forL q x vs lm r.2
theorem SX.for {x : String} {iter : Expr} {body : List Stmt} {p : EP} {q : SP} {px pos : Pos} (h1 : SE prog w B l sc iter p) (h2 : SXs prog w B l sc body q) (hk : NK sc x) (hs : ∀ env v, foldedSetIterable iter env v = pure v) :
    SX prog w B l sc (.For (.Name (Str.ofString x) px) iter body [] pos) (sFor x p q) := by
  intro A env σ H lm s fl lm' H' Rm n tp R L e Q E h
  refine bc fun hng => ?_
  obtain ⟨⟨a, H₁⟩, e1, e⟩ := Option.bind_eq_some_iff.mp e
  obtain ⟨vs, e2, e⟩ := Option.bind_eq_some_iff.mp e
  refine hng ?_
  with_reducible refine wpAny_For (h1 Rm n tp R L e1 fun v s₁ σ₁ x₁ R₁ r₁ => ?_) (hs env)
  have L₁ := L.step x₁
  refine iter_ok (V := vol env) Rm.hh R₁ r₁ e2 L₁.clean L₁.live fun I s₂ hI x₂ R₂ it => ?_
  have hI0 : s.heap.get? I = none := by
    cases q : s.heap.get? I with
    | none => rfl
    | some o => exact absurd hI (x₁.alive I (by rw [q]; exact fun q => (nomatch q)))
  refine codeAny_forLoop (fun k s' => ∃ σ' Hk lmk us, k = us.length ∧ Step (vol env) σ s σ' s' ∧ RS B σ' Hk s'.heap ∧ LR env s'.heap σ' lmk ∧ ItV prog w B σ' s'.heap (vol env) I us ∧ forL q x us lmk Hk = some (fl, lm', H')) ?_ vs.length
    ⟨σ₁, H₁, lm, vs, rfl, (x₁.trans' x₂).weaken, R₂, L₁.step x₂, it, e⟩
  refine fun k s' hh => bc fun hng => ?_
  obtain ⟨σ', Hk, lmk, us, ek, st, R', L', it', e'⟩ := hh
  have hIv : I ∉ vol env := it'.off
  have cI : VClean [I] s'.heap := it'.off1
  cases us with
  | nil =>
    have e' : Option.some (Fl.next, lmk, Hk) = some (fl, lm', H') := e'
    refine hng (it'.done Rm.hh R' L' st hI0 fun s₃ st₃ R₃ L₃ => wpAny_execs_nil ?_)
    exact outS e' h _ _ _ st₃ R₃ L₃ .mkN
  | cons u us =>
    obtain ⟨⟨f₁, lm₁, H₂⟩, e3, e4⟩ := Option.bind_eq_some_iff.mp e'
    refine hng (it'.next Rm.hh R' fun v₃ s₃ st₃ R₃ it₃ r₃ => ?_)
    have L₃ := L'.step' st₃ (fun b hb hv => hIv (List.mem_singleton.mp hv ▸ hb)) cI
    have st₃' := st.trans st₃ fun b hb => .inr (by rw [List.mem_singleton.mp hb]; exact hI0)
    refine assign_Name (store_ok n R₃ L₃ hk r₃ fun s₄ st₄ R₄ L₄ => ?_)
    have it₄ := it₃.step st₄ (fun _ h => h) L₃.clean
    have st₄' := st₃'.transS st₄
    refine h2 Rm n (Tp.up tp st₄') R₄ L₄ e3 fun f s₅ σ₅ st₅ R₅ L₅ r₅ => ?_
    have it₅ := it₄.step st₅ (fun _ h => h) L₄.clean
    have st₅' := st₄'.transS st₅
    refine FlR.elim r₅ (fun q => ?_) (fun q => ?_) (fun a v q r => ?_) <;> rw [q] at e4
    · exact ⟨us.length, by rw [ek]; exact Nat.lt_succ_self _, σ₅, H₂, lm₁, us, rfl, st₅', R₅, L₅, it₅, e4⟩
    · exact outS e4 h _ _ _ st₅' R₅ L₅ .mkN
    · exact outS e4 h _ _ _ st₅' R₅ L₅ (.mkR r)
noncomputable def whileF (t : TP) (q : SP) : Nat → LM → Hp → Option (Fl × LM × Hp)
  | 0, _, _ => none
  | n + 1, lm, H => (t lm H).bind fun r => if r.1 = true then (q lm r.2).bind fun u => (match u.1 with
    | .next => whileF t q n u.2.1 u.2.2
    | .brk => some (.next, u.2.1, u.2.2)
    | .ret a => some (.ret a, u.2.1, u.2.2)) else some (.next, lm, r.2)
noncomputable def sWhile (N : Nat) (t : TP) (q : SP) : SP := whileF t q N
theorem SX.while {test : Expr} {body : List Stmt} {t : TP} {q : SP} {pos : Pos} (N : Nat) (h0 : ST prog w B l sc test t) (h2 : SXs prog w B l sc body q) : SX prog w B l sc (.While test body [] pos) (sWhile N t q) := by
  intro A env σ H lm s fl lm' H' Rm n tp R L e Q E h
  with_reducible refine wpAny_While ?_
  refine codeAny_whileLoop (fun k s' => ∃ σ' Hk lmk, Step (vol env) σ s σ' s' ∧ RS B σ' Hk s'.heap ∧ LR env s'.heap σ' lmk ∧ whileF t q k lmk Hk = some (fl, lm', H')) ?_ N ⟨σ, H, lm, .refl, R, L, e⟩
  refine fun k s' hh => bc fun hng => ?_
  obtain ⟨σ', Hk, lmk, st, R', L', e'⟩ := hh
  cases k with
  | zero => cases e'
  | succ k =>
    obtain ⟨⟨b, H₁⟩, e1, e2⟩ := Option.bind_eq_some_iff.mp e'
    have tp' := Tp.up tp st
    refine hng (h0 Rm n tp' R' L' e1 fun s₁ σ₁ x₁ R₁ => ?_)
    have L₁ := L'.step x₁
    have st₁ := st.trans' x₁
    refine bc fun hng => ?_
    cases b with
    | false => exact hng (wpAny_execs_nil (outS e2 h _ _ _ st₁ R₁ L₁ .mkN))
    | true =>
      obtain ⟨⟨f₁, lm₁, H₂⟩, e3, e4⟩ := Option.bind_eq_some_iff.mp e2
      refine hng (h2 Rm n (Tp.up tp' x₁) R₁ L₁ e3 fun f s₅ σ₅ st₅ R₅ L₅ r₅ => ?_)
      have st₅' := st₁.transS st₅
      refine FlR.elim r₅ (fun q => ?_) (fun q => ?_) (fun a v q r => ?_) <;> rw [q] at e4
      · exact ⟨k, Nat.lt_succ_self _, σ₅, H₂, lm₁, st₅', R₅, L₅, e4⟩
      · exact outS e4 h _ _ _ st₅' R₅ L₅ .mkN
      · exact outS e4 h _ _ _ st₅' R₅ L₅ (.mkR r)
end Mine
end
section
namespace Mine
variable {prog : Program} {w : World} {B : Heap} {mg mb : Str → Option Value} {l : Nat} {sc : Scope}
theorem bindL_out {k : Str → Option NameKind} {n : Str} : ∀ {bs : List (Str × Value)} {m : Str → Option Value}, n ∉ bs.map (·.1) → bindL k bs m n = m n
  | [], _, _ => rfl
  | (x, v) :: r, m, h => by
    simp only [List.map_cons, List.mem_cons, not_or] at h
    unfold bindL
    rw [bindL_out h.2]
    split
    · exact if_neg h.1
    · rfl
theorem bindC_out {k : Str → Option NameKind} {n : Str} : ∀ {bs : List (Str × Value)} {m : Str → Option Value}, n ∉ bs.map (·.1) → bindC k bs m n = m n
  | [], _, _ => rfl
  | (x, v) :: r, m, h => by
    simp only [List.map_cons, List.mem_cons, not_or] at h
    unfold bindC
    rw [bindC_out h.2]
    split
    · rfl
    · exact if_neg h.1
theorem bindL_get {k : Str → Option NameKind} {n : Str} {v : Value} (hk : k n = some .local) : ∀ {bs : List (Str × Value)} {m : Str → Option Value}, (bs.map (·.1)).Nodup → (n, v) ∈ bs → bindL k bs m n = some v
  | (x, u) :: r, m, hd, h => by
    obtain ⟨h1, h2⟩ := List.nodup_cons.mp hd
    unfold bindL
    rcases List.mem_cons.mp h with e | h
    · cases e
      rw [bindL_out h1, if_pos hk, if_pos rfl]
    · exact bindL_get hk h2 h
theorem bindC_get {k : Str → Option NameKind} {n : Str} {v : Value} (hk : k n ≠ some .local) : ∀ {bs : List (Str × Value)} {m : Str → Option Value}, (bs.map (·.1)).Nodup → (n, v) ∈ bs → bindC k bs m n = some v
  | (x, u) :: r, m, hd, h => by
    obtain ⟨h1, h2⟩ := List.nodup_cons.mp hd
    unfold bindC
    rcases List.mem_cons.mp h with e | h
    · cases e
      rw [bindC_out h1, if_neg hk, if_pos rfl]
    · exact bindC_get hk h2 h
theorem cellsFrom_acc {x : Str} : ∀ (names : List (Str × NameKind)) (n : Nat) (acc : List (Str × Addr)), (acc.lookup x).isSome = true → ((cellsFrom n names acc).lookup x).isSome = true
  | [], n, acc, h => h
  | (y, k) :: r, n, acc, h => by
    unfold cellsFrom
    split
    · refine cellsFrom_acc r _ _ ?_
      rw [List.lookup_cons]
      split
      · rfl
      · exact h
    · exact cellsFrom_acc r _ _ h
theorem cellsFrom_has {x : Str} : ∀ (names : List (Str × NameKind)) (n : Nat) (acc : List (Str × Addr)), names.lookup x = some .cell → ((cellsFrom n names acc).lookup x).isSome = true
  | [], n, acc, h => by simp at h
  | (y, k) :: r, n, acc, h => by
    rw [List.lookup_cons] at h
    unfold cellsFrom
    cases e : x == y with
    | true =>
      rw [e] at h; cases h
      rw [if_pos (by decide)]
      refine cellsFrom_acc r _ _ ?_
      rw [List.lookup_cons, e]; rfl
    | false =>
      rw [e] at h
      split
      · exact cellsFrom_has r _ _ h
      · exact cellsFrom_has r _ _ h
theorem lookup_of_mem {α β : Type} [BEq α] [LawfulBEq α] {l : List (α × β)} (hd : (l.map (·.1)).Nodup) {a : α} {b : β} (h : (a, b) ∈ l) : l.lookup a = some b := by
  induction l with
  | nil => cases h
  | cons p r ih =>
    obtain ⟨x, y⟩ := p
    obtain ⟨h1, h2⟩ := List.nodup_cons.mp hd
    rw [List.lookup_cons]
    rcases List.mem_cons.mp h with e | h
    · cases e; simp
    · have : (a == x) = false := beq_eq_false_iff_ne.mpr fun q => h1 (q ▸ List.mem_map.mpr ⟨_, h, rfl⟩)
      rw [this]; exact ih h2 h
noncomputable def bindA : List String → List AV → LM
  | p :: ps, a :: as => upd (bindA ps as) p a
  | _, _ => fun _ => none
theorem bindA_get {h : Heap} {σ : List Addr} : ∀ {ps : List String} {as : List AV} {vs : List Value} {x : String} {a : AV}, VRs h σ as vs → bindA ps as x = some a → ∃ v, (Str.ofString x, v) ∈ (ps.map Str.ofString).zip vs ∧ VR h σ a v ∧ x ∈ ps
  | [], as, vs, x, a, r, e => by simp [bindA] at e
  | p :: ps, [], vs, x, a, r, e => by simp [bindA] at e
  | p :: ps, b :: bs, vs, x, a, r, e => by
    simp only [VRs] at r
    obtain ⟨v, vs', rfl, r1, r2⟩ := r
    simp only [bindA, upd] at e
    split at e
    · rename_i hx
      cases e
      exact ⟨v, by rw [hx]; exact .head _, r1, by rw [hx]; exact .head _⟩
    · obtain ⟨u, h1, h2, h3⟩ := bindA_get r2 e
      exact ⟨u, .tail _ h1, h2, .tail _ h3⟩
/-- a def of the text's -/
structure Fn (B : Heap) (f : Addr) (ps : List String) (body : List Stmt) (sc : Scope) : Prop where
  ex : ∃ o fd, B.get? f = some o ∧ o.data = .func fd ∧ B.CodeRec fd.code fd.qualname ∧ fd.body = .stmts body ∧ fd.scope = sc ∧ fd.globals = mainGlobals ∧ fd.builtins = builtinsNs ∧ fd.closure = [] ∧
    ∀ vals : List Value, vals.length = ps.length → bindArgs fd ⟨vals, []⟩ = pure ((ps.map Str.ofString).zip vals)
  nd : ps.Nodup
  kinds : ∀ p ∈ ps, NK sc p
  cnd : ∀ n, ((cellsFrom n sc.names []).map (·.1)).Nodup
  co : sc.isCoroutine = false
  gen : sc.isGenerator = false
  kind : sc.kind = .function
noncomputable def gOf (ps : List String) (q : SP) : FG := fun avs H => if avs.length = ps.length then (q (bindA ps avs) H).bind fun r => (match r.1 with
  | .ret a => some (a, r.2.2)
  | .next => some (.none, r.2.2)
  | .brk => none) else none
theorem Rm.deeper {A : Around} {l : Nat} {env : Env} (R : Rm A (l + 1)) : Rm (A.deeper env) l :=
  ⟨by have := R.d; show A.depth + 1 + 10 * l ≤ 990; omega, by have := R.u; show A.units + 3 + 50 * l ≤ 9800; omega, R.hh⟩
theorem Fp.deeper {A : Around} {σ : List Addr} {h h₁ : Heap} {env : Env} (f : Fp B A σ h) (hk : ∀ b o, h.get? b = some o → h₁.get? b = some o) (hkd : env.scope.kind = .function) (hf : env.frame = some env.locals) (hB : B.get? env.locals = none)
    (hσ : env.locals ∉ σ) (hns : ∃ m, h₁.Ns env.locals m) : Fp B (A.deeper env) σ h₁ := by
  obtain ⟨l, h1, h2⟩ := f
  refine ⟨env :: l, Around.frames_deeper h1, fun e he => ?_⟩
  rcases List.mem_cons.mp he with rfl | he
  · obtain ⟨m, o, es, ep, e1, e2, _⟩ := hns
    exact ⟨by rw [hkd]; decide, _, o, hf, hB, hσ, e1, es, ep, e2⟩
  · obtain ⟨h3, L, o, h4, h5, h6, h7, h8⟩ := h2 e he
    exact ⟨h3, L, o, h4, h5, h6, hk _ _ h7, h8⟩
/-- the body's run, seen from the caller -/
theorem body_ok {ps : List String} {body : List Stmt} {q : SP} {A : Around} {env : Env} {σ : List Addr} {H H' : Hp} {s : Shared} {h₁ : Heap} {tk : Nat} {avs : List AV} {vs : List Value} {av : AV} (hb : SXs prog w B l sc body q) (Rm : Rm A l) (n : En B sc env)
    (hlen : avs.length = ps.length) (R : RS B σ H s.heap) (ra : VRs s.heap σ avs vs) (e : (q (bindA ps avs) H).bind (fun r => (match r.1 with
      | .ret a => some (a, r.2.2)
      | .next => some (.none, r.2.2)
      | .brk => none)) = some (av, H'))
    (hk : ∀ b o, s.heap.get? b = some o → h₁.get? b = some o) (hv : ∀ b ∈ vol env, s.heap.get? b = none) (tpt : l < 50 → 0 < tk) (fp : Fp B A σ h₁)
    (hns : ∃ m, h₁.Ns env.locals m) (hcells : ∀ x c, (x, c) ∈ env.cells → (∃ ov, h₁.IsCell c ov) ∧ c ≠ env.locals) (hap : ∀ x y c, env.cells.lookup x = some c → env.cells.lookup y = some c → x = y)
    (hvars : ∀ x v, (Str.ofString x, v) ∈ (ps.map Str.ofString).zip vs → x ∈ ps → VarAt env h₁ (Str.ofString x) v)
    {Q : Value → Shared → Prop} {E : Value → Shared → Prop} (h : ∀ v s' σ', (s.toks ≤ s'.toks → Step [] σ s σ' s') → RS B σ' H' s'.heap → VR s'.heap σ' av v → Q v s') :
    wpAny (model prog w) A (execs body env) (fun fl s' => Q (match fl with | .ret v => v | _ => .none) s') E { s with heap := h₁, toks := tk } := by
  obtain ⟨⟨fl, lm, H₁⟩, e1, e2⟩ := Option.bind_eq_some_iff.mp e
  have R₁ := R.keeps hk
  have fr : ∀ b o, b ∉ σ → Frz o → s.heap.get? b = some o → h₁.get? b = some o ∧ b ∉ σ := fun b o hb _ e => ⟨hk b o e, hb⟩
  have L₁ : LR env h₁ σ (bindA ps avs) := ⟨hns, fun q => R.live _ q (hv _ (.head _)), fun x c hm => ⟨(hcells x c hm).1, fun q => R.live _ q (hv _ (.tail _ (List.mem_map.mpr ⟨_, hm, rfl⟩))), (hcells x c hm).2⟩, hap, fun x a hx => by
    obtain ⟨v, h1, h2, h3⟩ := bindA_get ra hx
    exact ⟨v, hvars x v h1 h3, h2.mono fr (List.prefix_refl _)⟩⟩
  refine hb Rm n ⟨tpt, fp⟩ R₁ L₁ e1 fun f s' σ' x R' L' r => ?_
  have st : s.toks ≤ s'.toks → Step [] σ s σ' s' := fun hle => by
    refine ⟨?_, x.pre, fun a h1 h2 => ?_, fun b o hb _ e => ?_, fun b o hb e d => x.dic b o hb (hk b o e) d, fun b hb => ?_, hle⟩
    · obtain ⟨h₂, t₂, rfl⟩ := x.same
      exact ⟨h₂, t₂, rfl⟩
    · have := x.fresh a h1 h2
      cases q : s.heap.get? a with
      | none => rfl
      | some o => have q' := hk a o q; rw [show h₁.get? a = none from this] at q'; cases q'
    · exact x.keep b o hb (fun q => by rw [hv b q] at e; cases e) (hk b o e)
    · cases q : s.heap.get? b with
      | none => exact absurd q hb
      | some o => exact x.alive b (by show h₁.get? b ≠ none; rw [hk b o q]; exact fun q => (nomatch q))
  cases fl with
  | ret a =>
    obtain ⟨v, rfl, r⟩ := r
    cases e2
    exact h v s' σ' st R' r
  | next =>
    cases r
    cases e2
    exact h _ s' σ' st R' .mkN
  | brk => cases e2
theorem zip_nodup {ps : List String} (nd : ps.Nodup) {vs : List Value} (h : vs.length = ps.length) : (((ps.map Str.ofString).zip vs).map (·.1)).Nodup := by
  have : (((ps.map Str.ofString).zip vs).map (·.1)) = ps.map Str.ofString := by
    rw [List.map_fst_zip]; simp; omega
  rw [this]
  exact List.Pairwise.map _ (fun a b hab q => hab (ofString_inj q)) nd
/-- a def without cells -/
theorem FC.ofBody {f : Addr} {ps : List String} {body : List Stmt} {q : SP} {mg mb : Str → Option Value} (G : GB B mg mb) (F : Fn B f ps body sc) (hb : SXs prog w B l sc body q) (hnc : ∀ x ∈ sc.names, x.2 ≠ .cell) (hps : ps ≠ []) : FC prog w B (l + 1) (.ref f) (gOf ps q) := by
  intro A σ H s avs vs av H' Rm fp R ra e Q E h
  refine bc fun hng => ?_
  unfold gOf at e
  split at e
  · rename_i hlen
    obtain ⟨o, fd, ho, hd, hcd, hbody, rfl, hgl, hbu, hclo, hbind⟩ := F.ex
    have hvl : vs.length = ps.length := by rw [ra.length, hlen]
    have loc : ∀ p ∈ ps, fd.scope.names.lookup (Str.ofString p) = some .local := fun p hp => by
      rcases F.kinds p hp with k | k
      · exact k
      · exact absurd rfl (hnc _ (lookup_mem k))
    have hlz : ((ps.map Str.ofString).zip vs).length = ps.length := by simp; omega
    have env_cells : (callEnv fd s.heap.objs.size f).cells = [] := hclo
    have hv : ∀ b ∈ vol (callEnv fd s.heap.objs.size f), s.heap.get? b = none := by
      intro b hb
      unfold vol at hb
      rw [env_cells] at hb
      rw [List.mem_singleton.mp hb]; exact dead_next
    have hn : En B fd.scope (callEnv fd s.heap.objs.size f) := by
      refine ⟨rfl, F.kind, hgl, hbu, fun b hb => ?_, fun x hx => absurd rfl (hnc _ (lookup_mem hx))⟩
      cases q : B.get? b with
      | none => rfl
      | some o => have := R.base b o q; rw [hv b hb] at this; cases this
    have hpos : 0 < ps.length := List.length_pos_iff.mpr hps
    refine hng ?_
    with_reducible refine wpAny_with_toks (Nat.le_refl s.toks) (wpAny_call ?_)
    refine codeAny_call_def Rm.room (R.base _ _ ho) hd (G.lim.keeps R.base) (hcd.keeps R.base) hbody (BindsTo.of_eq (hbind vs hvl)) hnc ?_ (fun h₁ hns hk => ?_) F.co F.gen F.kind
    · rintro ⟨x, v⟩ hx
      obtain ⟨y, hy, rfl⟩ := List.mem_map.mp (List.of_mem_zip hx).1
      exact loc y hy
    · refine body_ok (Q := fun v s' => s.toks ≤ s'.toks → Q v s') hb Rm.deeper hn hlen R ra e hk hv (fun _ => by show 0 < s.toks + _; omega) (fp.deeper hk F.kind rfl (hn.new _ (.head _)) (fun q => R.live _ q (hv _ (.head _))) ⟨_, hns⟩) ⟨_, hns⟩ (by rw [env_cells]; exact fun _ _ q => nomatch q) (by rw [env_cells]; intro x y c q; simp at q) (fun x v hx hp => ?_) fun v s' σ' st R' r hle => h v s' σ' (st hle) R' r
      refine .inl ⟨(hn.kindOf _).trans (loc x hp), _, hns, ?_⟩
      have nd := zip_nodup F.nd hvl
      have : (((ps.map Str.ofString).zip vs).reverse.map (·.1)).Nodup := by rw [List.map_reverse]; exact (List.reverse_perm _).nodup_iff.mpr nd
      exact lookup_of_mem this (List.mem_reverse.mpr hx)
  · cases e
/-- a def with cells -/
theorem FC.ofBodyC {f : Addr} {ps : List String} {body : List Stmt} {q : SP} {mg mb : Str → Option Value} (G : GB B mg mb) (F : Fn B f ps body sc) (hb : SXs prog w B l sc body q) (h50 : 50 ≤ l) : FC prog w B (l + 1) (.ref f) (gOf ps q) := by
  intro A σ H s avs vs av H' Rm fp R ra e Q E h
  refine bc fun hng => ?_
  unfold gOf at e
  split at e
  · rename_i hlen
    obtain ⟨o, fd, ho, hd, hcd, hbody, rfl, hgl, hbu, hclo, hbind⟩ := F.ex
    have hvl : vs.length = ps.length := by rw [ra.length, hlen]
    have hsz : ∀ b, s.heap.objs.size ≤ b → s.heap.get? b = none := fun b hb => by
      cases q : s.heap.get? b with
      | none => rfl
      | some o => exact absurd (Heap.lt_size q) (Nat.not_lt.mpr hb)
    refine hng ?_
    with_reducible refine wpAny_with_toks (Nat.le_refl s.toks) (wpAny_call ?_)
    refine codeAny_call_cells Rm.room (R.base _ _ ho) hd (G.lim.keeps R.base) (hcd.keeps R.base) hbody (hbind vs hvl) hclo ?_ (fun s₁ X => ?_) F.co F.gen F.kind
    · rintro ⟨x, v⟩ hx
      obtain ⟨y, hy, rfl⟩ := List.mem_map.mp (List.of_mem_zip hx).1
      rcases F.kinds y hy with k | k
      · exact .inl k
      · exact .inr ⟨k, cellsFrom_has _ _ _ k⟩
    · obtain ⟨⟨⟨h₁, tk, rfl⟩, hns, hkeep, hfresh⟩, hcell, hapart, habove⟩ := X
      have hv : ∀ b ∈ vol (callEnvC fd s.heap.objs.size f), s.heap.get? b = none := by
        intro b hb
        rcases List.mem_cons.mp hb with rfl | hb
        · exact hsz _ (Nat.le_refl _)
        · obtain ⟨⟨x, c⟩, hm, rfl⟩ := List.mem_map.mp hb
          exact hsz _ (Nat.le_of_lt (habove _ _ hm))
      have hn : En B fd.scope (callEnvC fd s.heap.objs.size f) := by
        refine ⟨rfl, F.kind, hgl, hbu, fun b hb => ?_, fun x hx => Option.isSome_iff_exists.mp (cellsFrom_has _ _ _ hx)⟩
        cases q : B.get? b with
        | none => rfl
        | some o => have := R.base b o q; rw [hv b hb] at this; cases this
      have cnd : ((callEnvC fd s.heap.objs.size f).cells.map (·.1)).Nodup := F.cnd _
      refine body_ok (Q := fun v s' => s.toks ≤ s'.toks → Q v s') hb Rm.deeper hn hlen R ra e hkeep hv (fun q => by omega) (fp.deeper hkeep F.kind rfl (hn.new _ (.head _)) (fun q => R.live _ q (hv _ (.head _))) ⟨_, hns⟩) ⟨_, hns⟩ (fun x c hm => ⟨⟨_, hcell x c (lookup_of_mem cnd hm)⟩, Nat.ne_of_gt (habove x c hm)⟩) (fun x y c hx hy => name_of_addr hapart (lookup_mem hx) (lookup_mem hy)) (fun x v hx hp => ?_) fun v s' σ' st R' r hle => h v s' σ' (st hle) R' r
      have nd := zip_nodup F.nd hvl
      rcases F.kinds x hp with k | k
      · have kk := (hn.kindOf (Str.ofString x)).trans k
        exact .inl ⟨kk, _, hns, bindL_get kk nd hx⟩
      · have kk := (hn.kindOf (Str.ofString x)).trans k
        obtain ⟨c, hc⟩ := hn.cells _ k
        refine .inr ⟨kk, c, hc, ?_⟩
        have := hcell _ _ hc
        rw [bindC_get (by rw [kk]; exact fun q => (nomatch q)) nd hx] at this
        exact this
  · cases e
end Mine
end
section
set_option maxRecDepth 20000
namespace Mine
variable {prog : Program} {w : World} {B : Heap} {mg mb : Str → Option Value} {l : Nat} {sc : Scope}
noncomputable def stN (i : Nat) : Stmt := PySem.Challenge.pw_wo0070_01.main.body[i]?.getD (.Pass ⟨0, 0, 0, 0⟩)
noncomputable def bodyOf : Stmt → List Stmt
  | .FunctionDef _ _ b _ _ _ _ _ _ _ => b
  | .ClassDef _ _ _ b _ _ _ _ _ _ _ => b
  | _ => []
noncomputable def scOf : Stmt → Scope
  | .FunctionDef _ _ _ _ _ _ sc _ _ _ => sc
  | _ => ⟨.function, [], false, false, []⟩
noncomputable def mtN (i : Nat) : Stmt := (bodyOf (stN 13))[i]?.getD (.Pass ⟨0, 0, 0, 0⟩)
/-- != of words or of data -/
noncomputable def neU : F2 := fun a b H => match a with
  | .str _ => neS a b H
  | _ => neF a b H
theorem op_neU : Op2 prog w B l (compareOp .NotEq) neU := by
  intro A σ H s a b av va vb H' Rm R ra rb e Q E h
  unfold neU at e
  split at e
  · exact op_neS Rm R ra rb e h
  · exact op_ne Rm R ra rb e h
noncomputable def tCmp (f : F2) (a b : EP) : TP := fun lm H => (bO f a b lm H).bind fun r => match r.1 with | .bool b => some (b, r.2) | _ => .none
theorem ST.cmp' {e₁ e₂ : Expr} {p₁ p₂ : EP} {f : F2} {op : CmpOp} {pos : Pos} (h1 : SE prog w B l sc e₁ p₁) (h2 : SE prog w B l sc e₂ p₂) (o : Op2 prog w B l (compareOp op) f) (hm : behindInMarks op e₂ = false) :
    ST prog w B l sc (.Compare e₁ [op] [e₂] pos) (tCmp f p₁ p₂) := ST.cmp h1 h2 o hm
theorem SE.str' {x : String} {cs : List Nat} {k : Nat} {pos : Pos} (hi : Str.ofString x = ⟨cs.toArray⟩) : SE prog w B l sc (.Constant (.str (Str.ofString x)) k pos) (cK (.str cs)) := SE.str hi
/-- a def of the top -/
structure Df (prog : Program) (w : World) (B : Heap) (mg : Str → Option Value) (x : String) (f : Addr) (ps : List String) (i : Nat) : Prop where
  at_ : mg (Str.ofString x) = some (.ref f)
  kp : Kp prog w B (.ref f)
  fn : Fn B f ps (bodyOf (stN i)) (scOf (stN i))
/-- a built-in by its name -/
noncomputable def Bi (mg mb : Str → Option Value) (x : String) (v : Value) : Prop := mg (Str.ofString x) = none ∧ mb (Str.ofString x) = some v
theorem SE.callD {x : String} {f : Addr} {ps : List String} {i : Nat} {g : FG} {l' : Nat} {es : List Expr} {qs : EPs} {p0 pos : Pos} (D : Df prog w B mg x f ps i) (fc : FC prog w B l' (.ref f) g) (G : GB B mg mb)
    (h1 : SEs prog w B l sc es qs) (hl : l' ≤ l) (hk : sc.names.lookup (Str.ofString x) = some .globalImplicit) (hd : (Str.ofString x == ("__debug__" : Str)) = false) (hne : ∀ env, (starEach es env).any (·.1) = false)
    (he : ∀ env, match es with | [] => True | e0 :: r => starEach (e0 :: r) env = (false, eval e0 env) :: starEach r env) :
    SE prog w B l sc (.Call (.Name (Str.ofString x) p0) es [] pos) (cG g qs) := SE.callG fc D.kp G D.at_ h1 hl hk hd hne he
theorem SE.callI {x : String} {f : Value} {g : FG} {es : List Expr} {qs : EPs} {p0 pos : Pos} (D : Bi mg mb x f) (fc : FC prog w B l f g) (kp : Kp prog w B f) (G : GB B mg mb)
    (h1 : SEs prog w B l sc es qs) (hk : sc.names.lookup (Str.ofString x) = some .globalImplicit) (hd : (Str.ofString x == ("__debug__" : Str)) = false) (hne : ∀ env, (starEach es env).any (·.1) = false)
    (he : ∀ env, match es with | [] => True | e0 :: r => starEach (e0 :: r) env = (false, eval e0 env) :: starEach r env) :
    SE prog w B l sc (.Call (.Name (Str.ofString x) p0) es [] pos) (cG g qs) := SE.callB fc kp G D.1 D.2 h1 (Nat.le_refl l) hk hd hne he
/-- a number of the top's -/
noncomputable def Gi (mg : Str → Option Value) (x : String) (i : Int) : Prop := ∃ t, mg (Str.ofString x) = some (.int i t)
theorem SE.glob {x : String} {pos : Pos} {i : Int} (D : Gi mg x i) (G : GB B mg mb) (hk : sc.names.lookup (Str.ofString x) = some .globalImplicit) (hd : (Str.ofString x == ("__debug__" : Str)) = false) :
    SE prog w B l sc (.Name (Str.ofString x) pos) (cK (.int i)) := let ⟨t, h⟩ := D; SE.globInt G h hk hd
theorem SX.while' {test : Expr} {body : List Stmt} {t : TP} {q : SP} {pos : Pos} (h0 : ST prog w B l sc test t) (h2 : SXs prog w B l sc body q) : SX prog w B l sc (.While test body [] pos) (sWhile 200 t q) := SX.while 200 h0 h2
theorem dbg_ne {x : String} (h : x ≠ "__debug__") : (Str.ofString x == ("__debug__" : Str)) = false := beq_eq_false_iff_ne.mpr fun q => h (ofString_inj q)
end Mine
end
section
set_option maxRecDepth 100000
set_option maxHeartbeats 8000000
namespace Mine
noncomputable abbrev hS (n : String) (t : Nat) : Value := .str (Str.ofString n) t
noncomputable abbrev hI (i : Int) (t : Nat) : Value := .int i t
noncomputable abbrev hR (a : Addr) : Value := .ref a
noncomputable abbrev hN : Value := .none
noncomputable abbrev hE (P : Params) (n : String) (t : Nat) (v : Value) : DictEntry := ⟨PyData.keyHash P (Str.ofString n), .str (Str.ofString n) t, v⟩
noncomputable abbrev hA (n : String) (p : Pos) : Arg := ⟨Str.ofString n, none, p⟩
noncomputable abbrev hT (xs : Array Value) (sl : Array (Option Value)) : Obj := ⟨.type "tuple", none, .seq xs, sl⟩
noncomputable abbrev hC (xs : Array Value) (sl : Array (Option Value)) : Obj := ⟨.type "code", none, .fields xs, sl⟩
noncomputable abbrev hF (f : FuncData) (sl : Array (Option Value)) : Obj := ⟨.type "function", none, .func f, sl⟩
noncomputable def KF (P : Params) : Frag := [(2, PySem.Obj.mk hN none (.dict #[hE P "type.__subclasses__.Exception.0" 265 (hI 73 0), hE P "type.__subclasses__.Exception.n" 266 (hI 1 0)] 2) #[]),
  (3, PySem.Obj.mk (.type "dict") none (.dict #[hE P "__name__" 165 (hS "law_wo0070_01" 618), hE P "__doc__" 166 hN, hE P "__package__" 167 hN, hE P "__loader__" 168 (.builtin "__main__.__loader__#opaque"), hE P "__spec__" 169 hN, hE P "__annotations__" 170 (hR 6), hE P "__builtins__" 171 (hR 4), hE P "__file__" 173 (hS "/claim/cut.py" 172), hE P "__cached__" 174 hN, hE P "_wall" 193 (hR 21), hE P "add" 203 (hR 28), hE P "sub" 211 (hR 35), hE P "contains" 219 (hR 42), hE P "countOf" 229 (hR 49), hE P "getitem" 237 (hR 56), hE P "setitem" 246 (hR 63), hE P "Error" 268 (hR 73), hE P "error_reply" 284 (hR 86), hE P "parse257" 295 (hR 95), hE P "Whitespace" 397 (hR 157), hE P "ENDMARKER" 401 (hI 0 400), hE P "LPAR" 403 (hI 7 402), hE P "RPAR" 405 (hI 8 404), hE P "LSQB" 407 (hI 9 406), hE P "RSQB" 409 (hI 10 408), hE P "COLON" 411 (hI 11 410), hE P "COMMA" 413 (hI 12 412), hE P "SEMI" 415 (hI 13 414), hE P "PLUS" 417 (hI 14 416), hE P "MINUS" 419 (hI 15 418), hE P "STAR" 421 (hI 16 420), hE P "SLASH" 423 (hI 17 422), hE P "VBAR" 425 (hI 18 424), hE P "AMPER" 427 (hI 19 426), hE P "LESS" 429 (hI 20 428), hE P "GREATER" 431 (hI 21 430), hE P "EQUAL" 433 (hI 22 432), hE P "DOT" 435 (hI 23 434), hE P "PERCENT" 437 (hI 24 436), hE P "LBRACE" 439 (hI 25 438), hE P "RBRACE" 441 (hI 26 440), hE P "EQEQUAL" 443 (hI 27 442), hE P "NOTEQUAL" 445 (hI 28 444), hE P "LESSEQUAL" 447 (hI 29 446), hE P "GREATEREQUAL" 449 (hI 30 448), hE P "TILDE" 451 (hI 31 450), hE P "CIRCUMFLEX" 453 (hI 32 452), hE P "LEFTSHIFT" 455 (hI 33 454), hE P "RIGHTSHIFT" 457 (hI 34 456), hE P "DOUBLESTAR" 459 (hI 35 458), hE P "PLUSEQUAL" 461 (hI 36 460), hE P "MINEQUAL" 463 (hI 37 462), hE P "STAREQUAL" 465 (hI 38 464), hE P "SLASHEQUAL" 467 (hI 39 466), hE P "PERCENTEQUAL" 469 (hI 40 468), hE P "AMPEREQUAL" 471 (hI 41 470), hE P "VBAREQUAL" 473 (hI 42 472), hE P "CIRCUMFLEXEQUAL" 475 (hI 43 474), hE P "LEFTSHIFTEQUAL" 477 (hI 44 476), hE P "RIGHTSHIFTEQUAL" 479 (hI 45 478), hE P "DOUBLESTAREQUAL" 481 (hI 46 480), hE P "DOUBLESLASH" 483 (hI 47 482), hE P "DOUBLESLASHEQUAL" 485 (hI 48 484), hE P "AT" 487 (hI 49 486), hE P "ATEQUAL" 489 (hI 50 488), hE P "RARROW" 491 (hI 51 490), hE P "ELLIPSIS" 493 (hI 52 492), hE P "COLONEQUAL" 495 (hI 53 494), hE P "EXCLAMATION" 497 (hI 54 496), hE P "NT_OFFSET" 499 (hI 256 498), hE P "EXACT_TOKEN_TYPES" 596 (hR 162), hE P "ISTERMINAL" 603 (hR 171), hE P "ISNONTERMINAL" 610 (hR 178), hE P "ISEOF" 617 (hR 185), hE P "_law_row" 629 (hR 192), hE P "_law_page" 635 (hR 197), hE P "_law_held" 647 (hR 204), hE P "_law_read" 660 (hR 211), hE P "_law_walk" 678 (hR 218), hE P "_law_order" 684 (hR 223), hE P "_law_sorted" 693 (hR 230), hE P "law" 699 (hR 235)] 82) #[]),
  (15, hT (#[]) #[]),
  (17, hT (#[hS "k" 190]) #[]),
  (18, hT (#[]) #[]),
  (20, hC (#[hS "_wall" 187, hS "_wall" 188, hS "/claim/cut.py" 189, hI 1 0, hI 1 0, hI 0 0, hI 0 0, hI 3 0, hR 15, .bool true, hI 181 0, hR 16, hN, hR 17, hR 18, hR 19, hI 191 0, hI 1 0, hS "/claim/cut.py" 192]) #[]),
  (21, hF ((FuncData.mk (Str.ofString "_wall") (Str.ofString "_wall") (Arguments.mk [] [hA "k" (Pos.mk 1 10 1 11)] none [] [] none []) (.stmts (bodyOf (stN 0))) (scOf (stN 0)) 3 [] hN hN hN (hS "__main__" 164) none (hR 20) hN 0)) #[]),
  (22, hT (#[]) #[]),
  (24, hT (#[hS "a" 199, hS "b" 200]) #[]),
  (25, hT (#[]) #[]),
  (27, hC (#[hS "add" 196, hS "add" 197, hS "/claim/cut.py" 198, hI 5 0, hI 2 0, hI 0 0, hI 0 0, hI 3 0, hR 22, .bool true, hI 181 0, hR 23, hN, hR 24, hR 25, hR 26, hI 201 0, hI 5 0, hS "/claim/cut.py" 202]) #[]),
  (28, hF ((FuncData.mk (Str.ofString "add") (Str.ofString "add") (Arguments.mk [] [hA "a" (Pos.mk 5 8 5 9), hA "b" (Pos.mk 5 11 5 12)] none [] [] none []) (.stmts (bodyOf (stN 2))) (scOf (stN 6)) 3 [] hN hN hN (hS "cpy313.operator" 194) none (hR 27) hN 0)) #[]),
  (29, hT (#[]) #[]),
  (31, hT (#[hS "a" 207, hS "b" 208]) #[]),
  (32, hT (#[]) #[]),
  (34, hC (#[hS "sub" 204, hS "sub" 205, hS "/claim/cut.py" 206, hI 7 0, hI 2 0, hI 0 0, hI 0 0, hI 3 0, hR 29, .bool true, hI 181 0, hR 30, hN, hR 31, hR 32, hR 33, hI 209 0, hI 7 0, hS "/claim/cut.py" 210]) #[]),
  (35, hF ((FuncData.mk (Str.ofString "sub") (Str.ofString "sub") (Arguments.mk [] [hA "a" (Pos.mk 7 8 7 9), hA "b" (Pos.mk 7 11 7 12)] none [] [] none []) (.stmts (bodyOf (stN 3))) (scOf (stN 6)) 3 [] hN hN hN (hS "cpy313.operator" 194) none (hR 34) hN 0)) #[]),
  (36, hT (#[]) #[]),
  (38, hT (#[hS "a" 215, hS "b" 216]) #[]),
  (39, hT (#[]) #[]),
  (41, hC (#[hS "contains" 212, hS "contains" 213, hS "/claim/cut.py" 214, hI 9 0, hI 2 0, hI 0 0, hI 0 0, hI 3 0, hR 36, .bool true, hI 181 0, hR 37, hN, hR 38, hR 39, hR 40, hI 217 0, hI 9 0, hS "/claim/cut.py" 218]) #[]),
  (42, hF ((FuncData.mk (Str.ofString "contains") (Str.ofString "contains") (Arguments.mk [] [hA "a" (Pos.mk 9 13 9 14), hA "b" (Pos.mk 9 16 9 17)] none [] [] none []) (.stmts (bodyOf (stN 4))) (scOf (stN 6)) 3 [] hN hN hN (hS "cpy313.operator" 194) none (hR 41) hN 0)) #[]),
  (43, hT (#[]) #[]),
  (45, hT (#[hS "a" 223, hS "b" 224, hS "count" 225, hS "i" 226]) #[]),
  (46, hT (#[]) #[]),
  (48, hC (#[hS "countOf" 220, hS "countOf" 221, hS "/claim/cut.py" 222, hI 11 0, hI 2 0, hI 0 0, hI 0 0, hI 3 0, hR 43, .bool true, hI 181 0, hR 44, hN, hR 45, hR 46, hR 47, hI 227 0, hI 11 0, hS "/claim/cut.py" 228]) #[]),
  (49, hF ((FuncData.mk (Str.ofString "countOf") (Str.ofString "countOf") (Arguments.mk [] [hA "a" (Pos.mk 11 12 11 13), hA "b" (Pos.mk 11 15 11 16)] none [] [] none []) (.stmts (bodyOf (stN 5))) (scOf (stN 5)) 3 [] hN hN hN (hS "cpy313.operator" 194) none (hR 48) hN 0)) #[]),
  (50, hT (#[]) #[]),
  (52, hT (#[hS "a" 233, hS "b" 234]) #[]),
  (53, hT (#[]) #[]),
  (55, hC (#[hS "getitem" 230, hS "getitem" 231, hS "/claim/cut.py" 232, hI 17 0, hI 2 0, hI 0 0, hI 0 0, hI 3 0, hR 50, .bool true, hI 181 0, hR 51, hN, hR 52, hR 53, hR 54, hI 235 0, hI 17 0, hS "/claim/cut.py" 236]) #[]),
  (56, hF ((FuncData.mk (Str.ofString "getitem") (Str.ofString "getitem") (Arguments.mk [] [hA "a" (Pos.mk 17 12 17 13), hA "b" (Pos.mk 17 15 17 16)] none [] [] none []) (.stmts (bodyOf (stN 6))) (scOf (stN 6)) 3 [] hN hN hN (hS "cpy313.operator" 194) none (hR 55) hN 0)) #[]),
  (57, hT (#[]) #[]),
  (59, hT (#[hS "a" 241, hS "b" 242, hS "c" 243]) #[]),
  (60, hT (#[]) #[]),
  (62, hC (#[hS "setitem" 238, hS "setitem" 239, hS "/claim/cut.py" 240, hI 19 0, hI 3 0, hI 0 0, hI 0 0, hI 3 0, hR 57, .bool true, hI 181 0, hR 58, hN, hR 59, hR 60, hR 61, hI 244 0, hI 19 0, hS "/claim/cut.py" 245]) #[]),
  (63, hF ((FuncData.mk (Str.ofString "setitem") (Str.ofString "setitem") (Arguments.mk [] [hA "a" (Pos.mk 19 12 19 13), hA "b" (Pos.mk 19 15 19 16), hA "c" (Pos.mk 19 18 19 19)] none [] [] none []) (.stmts (bodyOf (stN 7))) (scOf (stN 7)) 3 [] hN hN hN (hS "cpy313.operator" 194) none (hR 62) hN 0)) #[]),
  (64, hT (#[.type "Exception"]) #[]),
  (71, hT (#[]) #[]),
  (72, PySem.Obj.mk (.type "dict") none (.dict #[hE P "__module__" 256 (hS "cpy313.ftplib" 247), hE P "__firstlineno__" 260 (hI 22 259), hE P "__static_attributes__" 261 (hR 71), hE P "__weakref__" 263 (hR 74), hE P "__doc__" 264 hN] 3) #[]),
  (73, PySem.Obj.mk (.type "type") none (.cls (PySem.ClassData.mk (Str.ofString "Error") [.type "Exception"] [hR 73, .type "Exception", .type "BaseException", .type "object"] 72 (Str.ofString "Error") true [] [hR 86] false none false)) #[some (hR 64), none, some (hS "Error" 249), some (hS "Error" 257), some (.builtin "Exception.__new__"), some (.bool true)]),
  (74, PySem.Obj.mk (.type "getset_descriptor") none (.fields #[hS "__weakref__" 262, hR 73, .builtin "ExceptionGroup.__weakref__", hN]) #[]),
  (77, hT (#[hR 73]) #[]),
  (84, hT (#[]) #[]),
  (85, PySem.Obj.mk (.type "dict") none (.dict #[hE P "__module__" 276 (hS "cpy313.ftplib" 247), hE P "__firstlineno__" 280 (hI 24 279), hE P "__static_attributes__" 281 (hR 84), hE P "__doc__" 282 hN] 2) #[]),
  (86, PySem.Obj.mk (.type "type") none (.cls (PySem.ClassData.mk (Str.ofString "error_reply") [hR 73] [hR 86, hR 73, .type "Exception", .type "BaseException", .type "object"] 85 (Str.ofString "error_reply") true [] [] false none false)) #[some (hR 77), none, some (hS "error_reply" 269), some (hS "error_reply" 277), some (.builtin "Exception.__new__"), some (.bool true)]),
  (89, hT (#[]) #[]),
  (91, hT (#[hS "resp" 288, hS "dirname" 289, hS "i" 290, hS "n" 291, hS "c" 292]) #[]),
  (92, hT (#[]) #[]),
  (94, hC (#[hS "parse257" 285, hS "parse257" 286, hS "/claim/cut.py" 287, hI 26 0, hI 1 0, hI 0 0, hI 0 0, hI 3 0, hR 89, .bool true, hI 181 0, hR 90, hN, hR 91, hR 92, hR 93, hI 293 0, hI 26 0, hS "/claim/cut.py" 294]) #[]),
  (95, hF ((FuncData.mk (Str.ofString "parse257") (Str.ofString "parse257") (Arguments.mk [] [hA "resp" (Pos.mk 26 13 26 17)] none [] [] none []) (.stmts (bodyOf (stN 11))) (scOf (stN 11)) 3 [] hN hN hN (hS "cpy313.ftplib" 247) none (hR 94) hN 0)) #[]),
  (106, hT (#[]) #[]),
  (108, hT (#[hS "self" 318, hS "ws" 319, hS "S" 320, hS "T" 321, hS "count" 322, hS "b" 323, hS "n" 324, hS "nt" 325, hS "ch" 326]) #[]),
  (109, hT (#[]) #[]),
  (111, hC (#[hS "__init__" 315, hS "Whitespace.__init__" 316, hS "/claim/cut.py" 317, hI 47 0, hI 2 0, hI 0 0, hI 0 0, hI 3 0, hR 106, .bool true, hI 181 0, hR 107, hN, hR 108, hR 109, hR 110, hI 327 0, hI 47 0, hS "/claim/cut.py" 328]) #[]),
  (112, hF ((FuncData.mk (Str.ofString "__init__") (Str.ofString "Whitespace.__init__") (Arguments.mk [] [hA "self" (Pos.mk 47 17 47 21), hA "ws" (Pos.mk 47 23 47 25)] none [] [] none []) (.stmts (bodyOf (mtN 1))) (scOf (mtN 1)) 3 [] hN hN hN (hS "cpy313.tabnanny" 296) none (hR 111) hN 0)) #[]),
  (113, hT (#[]) #[]),
  (115, hT (#[hS "self" 333, hS "count" 334, hS "trailing" 335]) #[]),
  (116, hT (#[]) #[]),
  (118, hC (#[hS "longest_run_of_spaces" 330, hS "Whitespace.longest_run_of_spaces" 331, hS "/claim/cut.py" 332, hI 70 0, hI 1 0, hI 0 0, hI 0 0, hI 3 0, hR 113, .bool true, hI 181 0, hR 114, hN, hR 115, hR 116, hR 117, hI 336 0, hI 70 0, hS "/claim/cut.py" 337]) #[]),
  (119, hF ((FuncData.mk (Str.ofString "longest_run_of_spaces") (Str.ofString "Whitespace.longest_run_of_spaces") (Arguments.mk [] [hA "self" (Pos.mk 70 30 70 34)] none [] [] none []) (.stmts (bodyOf (mtN 2))) (scOf (mtN 2)) 3 [] hN hN hN (hS "cpy313.tabnanny" 296) none (hR 118) hN 0)) #[]),
  (120, hT (#[]) #[]),
  (122, hT (#[hS "self" 342, hS "tabsize" 343, hS "count" 344, hS "trailing" 345, hS "il" 346, hS "i" 347]) #[]),
  (123, hT (#[]) #[]),
  (125, hC (#[hS "indent_level" 339, hS "Whitespace.indent_level" 340, hS "/claim/cut.py" 341, hI 74 0, hI 2 0, hI 0 0, hI 0 0, hI 3 0, hR 120, .bool true, hI 181 0, hR 121, hN, hR 122, hR 123, hR 124, hI 348 0, hI 74 0, hS "/claim/cut.py" 349]) #[]),
  (126, hF ((FuncData.mk (Str.ofString "indent_level") (Str.ofString "Whitespace.indent_level") (Arguments.mk [] [hA "self" (Pos.mk 74 21 74 25), hA "tabsize" (Pos.mk 74 27 74 34)] none [] [] none []) (.stmts (bodyOf (mtN 3))) (scOf (mtN 3)) 3 [] hN hN hN (hS "cpy313.tabnanny" 296) none (hR 125) hN 0)) #[]),
  (127, hT (#[]) #[]),
  (129, hT (#[hS "self" 354, hS "other" 355]) #[]),
  (130, hT (#[]) #[]),
  (132, hC (#[hS "equal" 351, hS "Whitespace.equal" 352, hS "/claim/cut.py" 353, hI 81 0, hI 2 0, hI 0 0, hI 0 0, hI 3 0, hR 127, .bool true, hI 181 0, hR 128, hN, hR 129, hR 130, hR 131, hI 356 0, hI 81 0, hS "/claim/cut.py" 357]) #[]),
  (133, hF ((FuncData.mk (Str.ofString "equal") (Str.ofString "Whitespace.equal") (Arguments.mk [] [hA "self" (Pos.mk 81 14 81 18), hA "other" (Pos.mk 81 20 81 25)] none [] [] none []) (.stmts (bodyOf (mtN 4))) (scOf (mtN 4)) 3 [] hN hN hN (hS "cpy313.tabnanny" 296) none (hR 132) hN 0)) #[]),
  (134, hT (#[]) #[]),
  (136, hT (#[hS "self" 362, hS "other" 363]) #[]),
  (137, hT (#[]) #[]),
  (139, hC (#[hS "not_equal_witness" 359, hS "Whitespace.not_equal_witness" 360, hS "/claim/cut.py" 361, hI 84 0, hI 2 0, hI 0 0, hI 0 0, hI 3 0, hR 134, .bool true, hI 181 0, hR 135, hN, hR 136, hR 137, hR 138, hI 364 0, hI 84 0, hS "/claim/cut.py" 365]) #[]),
  (140, hF ((FuncData.mk (Str.ofString "not_equal_witness") (Str.ofString "Whitespace.not_equal_witness") (Arguments.mk [] [hA "self" (Pos.mk 84 26 84 30), hA "other" (Pos.mk 84 32 84 37)] none [] [] none []) (.stmts (bodyOf (mtN 5))) (scOf (mtN 7)) 3 [] hN hN hN (hS "cpy313.tabnanny" 296) none (hR 139) hN 0)) #[]),
  (141, hT (#[]) #[]),
  (143, hT (#[hS "self" 370, hS "other" 371, hS "n" 372, hS "ts" 373]) #[]),
  (144, hT (#[]) #[]),
  (146, hC (#[hS "less" 367, hS "Whitespace.less" 368, hS "/claim/cut.py" 369, hI 87 0, hI 2 0, hI 0 0, hI 0 0, hI 3 0, hR 141, .bool true, hI 181 0, hR 142, hN, hR 143, hR 144, hR 145, hI 374 0, hI 87 0, hS "/claim/cut.py" 375]) #[]),
  (147, hF ((FuncData.mk (Str.ofString "less") (Str.ofString "Whitespace.less") (Arguments.mk [] [hA "self" (Pos.mk 87 13 87 17), hA "other" (Pos.mk 87 19 87 24)] none [] [] none []) (.stmts (bodyOf (mtN 6))) (scOf (mtN 6)) 3 [] hN hN hN (hS "cpy313.tabnanny" 296) none (hR 146) hN 0)) #[]),
  (148, hT (#[]) #[]),
  (150, hT (#[hS "self" 380, hS "other" 381]) #[]),
  (151, hT (#[]) #[]),
  (153, hC (#[hS "not_less_witness" 377, hS "Whitespace.not_less_witness" 378, hS "/claim/cut.py" 379, hI 98 0, hI 2 0, hI 0 0, hI 0 0, hI 3 0, hR 148, .bool true, hI 181 0, hR 149, hN, hR 150, hR 151, hR 152, hI 382 0, hI 98 0, hS "/claim/cut.py" 383]) #[]),
  (154, hF ((FuncData.mk (Str.ofString "not_less_witness") (Str.ofString "Whitespace.not_less_witness") (Arguments.mk [] [hA "self" (Pos.mk 98 25 98 29), hA "other" (Pos.mk 98 31 98 36)] none [] [] none []) (.stmts (bodyOf (mtN 7))) (scOf (mtN 7)) 3 [] hN hN hN (hS "cpy313.tabnanny" 296) none (hR 153) hN 0)) #[]),
  (155, hT (#[hS "is_simple" 385, hS "n" 386, hS "norm" 387, hS "nt" 388, hS "raw" 389]) #[]),
  (156, PySem.Obj.mk (.type "dict") none (.dict #[hE P "__module__" 305 (hS "cpy313.tabnanny" 296), hE P "__firstlineno__" 309 (hI 44 308), hE P "S" 313 (hS " " 311), hE P "T" 314 (hS "\t" 312), hE P "__init__" 329 (hR 112), hE P "longest_run_of_spaces" 338 (hR 119), hE P "indent_level" 350 (hR 126), hE P "equal" 358 (hR 133), hE P "not_equal_witness" 366 (hR 140), hE P "less" 376 (hR 147), hE P "not_less_witness" 384 (hR 154), hE P "__static_attributes__" 390 (hR 155), hE P "__dict__" 392 (hR 158), hE P "__weakref__" 394 (hR 159), hE P "__doc__" 395 hN] 4) #[]),
  (157, PySem.Obj.mk (.type "type") none (.cls (PySem.ClassData.mk (Str.ofString "Whitespace") [.type "object"] [hR 157, .type "object"] 156 (Str.ofString "Whitespace") true [] [] false none false)) #[none, none, some (hS "Whitespace" 298), some (hS "Whitespace" 306), some (.builtin "object.__new__"), some (.bool true)]),
  (158, PySem.Obj.mk (.type "getset_descriptor") none (.fields #[hS "__dict__" 391, hR 157, .builtin "function.__dict__", .builtin "function.__dict__#set"]) #[]),
  (159, PySem.Obj.mk (.type "getset_descriptor") none (.fields #[hS "__weakref__" 393, hR 157, .builtin "ExceptionGroup.__weakref__", hN]) #[]),
  (162, PySem.Obj.mk (.type "dict") none (.dict #[hE P "!" 500 (hI 54 496), hE P "!=" 502 (hI 28 444), hE P "%" 504 (hI 24 436), hE P "%=" 506 (hI 40 468), hE P "&" 508 (hI 19 426), hE P "&=" 510 (hI 41 470), hE P "(" 512 (hI 7 402), hE P ")" 514 (hI 8 404), hE P "*" 516 (hI 16 420), hE P "**" 518 (hI 35 458), hE P "**=" 520 (hI 46 480), hE P "*=" 522 (hI 38 464), hE P "+" 524 (hI 14 416), hE P "+=" 526 (hI 36 460), hE P "," 528 (hI 12 412), hE P "-" 530 (hI 15 418), hE P "-=" 532 (hI 37 462), hE P "->" 534 (hI 51 490), hE P "." 536 (hI 23 434), hE P "..." 538 (hI 52 492), hE P "/" 540 (hI 17 422), hE P "//" 542 (hI 47 482), hE P "//=" 544 (hI 48 484), hE P "/=" 546 (hI 39 466), hE P ":" 548 (hI 11 410), hE P ":=" 550 (hI 53 494), hE P ";" 552 (hI 13 414), hE P "<" 554 (hI 20 428), hE P "<<" 556 (hI 33 454), hE P "<<=" 558 (hI 44 476), hE P "<=" 560 (hI 29 446), hE P "=" 562 (hI 22 432), hE P "==" 564 (hI 27 442), hE P ">" 566 (hI 21 430), hE P ">=" 568 (hI 30 448), hE P ">>" 569 (hI 34 456), hE P ">>=" 570 (hI 45 478), hE P "@" 571 (hI 49 486), hE P "@=" 572 (hI 50 488), hE P "[" 573 (hI 9 406), hE P "]" 574 (hI 10 408), hE P "^" 575 (hI 32 452), hE P "^=" 576 (hI 43 474), hE P "{" 577 (hI 25 438), hE P "|" 578 (hI 18 424), hE P "|=" 579 (hI 42 472), hE P "}" 580 (hI 26 440), hE P "~" 581 (hI 31 450)] 48) #[]),
  (165, hT (#[]) #[]),
  (167, hT (#[hS "x" 600]) #[]),
  (168, hT (#[]) #[]),
  (170, hC (#[hS "ISTERMINAL" 597, hS "ISTERMINAL" 598, hS "/claim/cut.py" 599, hI 152 0, hI 1 0, hI 0 0, hI 0 0, hI 3 0, hR 165, .bool true, hI 181 0, hR 166, hN, hR 167, hR 168, hR 169, hI 601 0, hI 152 0, hS "/claim/cut.py" 602]) #[]),
  (171, hF ((FuncData.mk (Str.ofString "ISTERMINAL") (Str.ofString "ISTERMINAL") (Arguments.mk [] [hA "x" (Pos.mk 152 15 152 16)] none [] [] none []) (.stmts (bodyOf (stN 66))) (scOf (stN 67)) 3 [] hN hN hN (hS "cpy313.token" 398) none (hR 170) hN 0)) #[]),
  (172, hT (#[]) #[]),
  (174, hT (#[hS "x" 607]) #[]),
  (175, hT (#[]) #[]),
  (177, hC (#[hS "ISNONTERMINAL" 604, hS "ISNONTERMINAL" 605, hS "/claim/cut.py" 606, hI 154 0, hI 1 0, hI 0 0, hI 0 0, hI 3 0, hR 172, .bool true, hI 181 0, hR 173, hN, hR 174, hR 175, hR 176, hI 608 0, hI 154 0, hS "/claim/cut.py" 609]) #[]),
  (178, hF ((FuncData.mk (Str.ofString "ISNONTERMINAL") (Str.ofString "ISNONTERMINAL") (Arguments.mk [] [hA "x" (Pos.mk 154 18 154 19)] none [] [] none []) (.stmts (bodyOf (stN 67))) (scOf (stN 67)) 3 [] hN hN hN (hS "cpy313.token" 398) none (hR 177) hN 0)) #[]),
  (179, hT (#[]) #[]),
  (181, hT (#[hS "x" 614]) #[]),
  (182, hT (#[]) #[]),
  (184, hC (#[hS "ISEOF" 611, hS "ISEOF" 612, hS "/claim/cut.py" 613, hI 156 0, hI 1 0, hI 0 0, hI 0 0, hI 3 0, hR 179, .bool true, hI 181 0, hR 180, hN, hR 181, hR 182, hR 183, hI 615 0, hI 156 0, hS "/claim/cut.py" 616]) #[]),
  (185, hF ((FuncData.mk (Str.ofString "ISEOF") (Str.ofString "ISEOF") (Arguments.mk [] [hA "x" (Pos.mk 156 10 156 11)] none [] [] none []) (.stmts (bodyOf (stN 68))) (scOf (stN 68)) 3 [] hN hN hN (hS "cpy313.token" 398) none (hR 184) hN 0)) #[]),
  (186, hT (#[]) #[]),
  (188, hT (#[hS "what" 623, hS "far" 624, hS "place" 625, hS "marks" 626]) #[]),
  (189, hT (#[]) #[]),
  (191, hC (#[hS "_law_row" 620, hS "_law_row" 621, hS "/claim/cut.py" 622, hI 159 0, hI 3 0, hI 0 0, hI 0 0, hI 3 0, hR 186, .bool true, hI 181 0, hR 187, hN, hR 188, hR 189, hR 190, hI 627 0, hI 159 0, hS "/claim/cut.py" 628]) #[]),
  (192, hF ((FuncData.mk (Str.ofString "_law_row") (Str.ofString "_law_row") (Arguments.mk [] [hA "what" (Pos.mk 159 13 159 17), hA "far" (Pos.mk 159 19 159 22), hA "place" (Pos.mk 159 24 159 29)] none [] [] none []) (.stmts (bodyOf (stN 70))) (scOf (stN 70)) 3 [] hN hN hN (hS "law_wo0070_01" 618) none (hR 191) hN 0)) #[]),
  (193, hT (#[]) #[]),
  (196, hC (#[hS "_law_page" 630, hS "_law_page" 631, hS "/claim/cut.py" 632, hI 172 0, hI 1 0, hI 0 0, hI 0 0, hI 3 0, hR 193, .bool true, hI 181 0, hR 194, hN, hN, hN, hR 195, hI 633 0, hI 172 0, hS "/claim/cut.py" 634]) #[]),
  (197, hF ((FuncData.mk (Str.ofString "_law_page") (Str.ofString "_law_page") (Arguments.mk [] [hA "cells" (Pos.mk 172 14 172 19)] none [] [] none []) (.stmts (bodyOf (stN 71))) (scOf (stN 71)) 3 [] hN hN hN (hS "law_wo0070_01" 618) none (hR 196) hN 0)) #[]),
  (198, hT (#[]) #[]),
  (200, hT (#[hS "text" 639, hS "place" 640, hS "size" 641, hS "name" 642, hS "fault" 643, hS "goal" 644]) #[]),
  (201, hT (#[]) #[]),
  (203, hC (#[hS "_law_held" 636, hS "_law_held" 637, hS "/claim/cut.py" 638, hI 191 0, hI 2 0, hI 0 0, hI 0 0, hI 3 0, hR 198, .bool true, hI 181 0, hR 199, hN, hR 200, hR 201, hR 202, hI 645 0, hI 191 0, hS "/claim/cut.py" 646]) #[]),
  (204, hF ((FuncData.mk (Str.ofString "_law_held") (Str.ofString "_law_held") (Arguments.mk [] [hA "text" (Pos.mk 191 14 191 18), hA "place" (Pos.mk 191 20 191 25)] none [] [] none []) (.stmts (bodyOf (stN 72))) (scOf (stN 72)) 3 [] hN hN hN (hS "law_wo0070_01" 618) none (hR 203) hN 0)) #[]),
  (205, hT (#[]) #[]),
  (207, hT (#[hS "rows" 651, hS "leads" 652, hS "memory" 653, hS "line" 654, hS "k" 655, hS "lead" 656, hS "last" 657]) #[]),
  (208, hT (#[]) #[]),
  (210, hC (#[hS "_law_read" 648, hS "_law_read" 649, hS "/claim/cut.py" 650, hI 205 0, hI 1 0, hI 0 0, hI 0 0, hI 3 0, hR 205, .bool true, hI 181 0, hR 206, hN, hR 207, hR 208, hR 209, hI 658 0, hI 205 0, hS "/claim/cut.py" 659]) #[]),
  (211, hF ((FuncData.mk (Str.ofString "_law_read") (Str.ofString "_law_read") (Arguments.mk [] [hA "rows" (Pos.mk 205 14 205 18)] none [] [] none []) (.stmts (bodyOf (stN 73))) (scOf (stN 73)) 3 [] hN hN hN (hS "law_wo0070_01" 618) none (hR 210) hN 0)) #[]),
  (212, hT (#[]) #[]),
  (214, hT (#[hS "memory" 664, hS "start" 665, hS "turns" 666, hS "met" 667, hS "stage" 668, hS "behind" 669, hS "at" 670, hS "turn" 671, hS "cell" 672, hS "goal" 673, hS "field" 674, hS "above" 675]) #[]),
  (215, hT (#[]) #[]),
  (217, hC (#[hS "_law_walk" 661, hS "_law_walk" 662, hS "/claim/cut.py" 663, hI 220 0, hI 3 0, hI 0 0, hI 0 0, hI 3 0, hR 212, .bool true, hI 181 0, hR 213, hN, hR 214, hR 215, hR 216, hI 676 0, hI 220 0, hS "/claim/cut.py" 677]) #[]),
  (218, hF ((FuncData.mk (Str.ofString "_law_walk") (Str.ofString "_law_walk") (Arguments.mk [] [hA "memory" (Pos.mk 220 14 220 20), hA "start" (Pos.mk 220 22 220 27), hA "turns" (Pos.mk 220 29 220 34)] none [] [] none []) (.stmts (bodyOf (stN 74))) (scOf (stN 74)) 3 [] hN hN hN (hS "law_wo0070_01" 618) none (hR 217) hN 0)) #[]),
  (219, hT (#[]) #[]),
  (222, hC (#[hS "_law_order" 679, hS "_law_order" 680, hS "/claim/cut.py" 681, hI 246 0, hI 2 0, hI 0 0, hI 0 0, hI 3 0, hR 219, .bool true, hI 181 0, hR 220, hN, hN, hN, hR 221, hI 682 0, hI 246 0, hS "/claim/cut.py" 683]) #[]),
  (223, hF ((FuncData.mk (Str.ofString "_law_order") (Str.ofString "_law_order") (Arguments.mk [] [hA "due" (Pos.mk 246 15 246 18), hA "start" (Pos.mk 246 20 246 25)] none [] [] none []) (.stmts (bodyOf (stN 75))) (scOf (stN 75)) 3 [] hN hN hN (hS "law_wo0070_01" 618) none (hR 222) hN 0)) #[]),
  (224, hT (#[]) #[]),
  (226, hT (#[hS "kind" 688, hS "low" 689, hS "high" 690]) #[]),
  (227, hT (#[]) #[]),
  (229, hC (#[hS "_law_sorted" 685, hS "_law_sorted" 686, hS "/claim/cut.py" 687, hI 255 0, hI 1 0, hI 0 0, hI 0 0, hI 3 0, hR 224, .bool true, hI 181 0, hR 225, hN, hR 226, hR 227, hR 228, hI 691 0, hI 255 0, hS "/claim/cut.py" 692]) #[]),
  (230, hF ((FuncData.mk (Str.ofString "_law_sorted") (Str.ofString "_law_sorted") (Arguments.mk [] [hA "kind" (Pos.mk 255 16 255 20)] none [] [] none []) (.stmts (bodyOf (stN 76))) (scOf (stN 76)) 3 [] hN hN hN (hS "law_wo0070_01" 618) none (hR 229) hN 0)) #[]),
  (231, hT (#[]) #[]),
  (234, hC (#[hS "law" 694, hS "law" 695, hS "/claim/cut.py" 696, hI 262 0, hI 1 0, hI 0 0, hI 0 0, hI 3 0, hR 231, .bool true, hI 181 0, hR 232, hN, hN, hN, hR 233, hI 697 0, hI 262 0, hS "/claim/cut.py" 698]) #[]),
  (235, hF ((FuncData.mk (Str.ofString "law") (Str.ofString "law") (Arguments.mk [] [hA "script" (Pos.mk 262 8 262 14)] none [] [] none []) (.stmts (bodyOf (stN 77))) (scOf (stN 77)) 3 [] hN hN hN (hS "law_wo0070_01" 618) none (hR 234) hN 0)) #[])]
noncomputable def KA : List Addr := [2, 3, 15, 17, 18, 20, 21, 22, 24, 25, 27, 28, 29, 31, 32, 34, 35, 36, 38, 39, 41, 42, 43, 45, 46, 48, 49, 50, 52, 53, 55, 56, 57, 59, 60, 62, 63, 64, 71, 72, 73, 74, 77, 84, 85, 86, 89, 91, 92, 94, 95, 106, 108, 109, 111, 112, 113, 115, 116, 118, 119, 120, 122, 123, 125, 126, 127, 129, 130, 132, 133, 134, 136, 137, 139, 140, 141, 143, 144, 146, 147, 148, 150, 151, 153, 154, 155, 156, 157, 158, 159, 162, 165, 167, 168, 170, 171, 172, 174, 175, 177, 178, 179, 181, 182, 184, 185, 186, 188, 189, 191, 192, 193, 196, 197, 198, 200, 201, 203, 204, 205, 207, 208, 210, 211, 212, 214, 215, 217, 218, 219, 222, 223, 224, 226, 227, 229, 230, 231, 234, 235]
theorem KA_eq (P : Params) : KA = (KF P).map (·.1) := by kernel_rfl
noncomputable def HK : Hook := kHook KF KA KA_eq
noncomputable def VW : Program := view PySem.Challenge.pw_wo0070_01 [0, 2, 3, 4, 5, 6, 7, 9, 10, 11, 13, 15, 16, 17, 18, 19, 20, 21, 22, 23, 24, 25, 26, 27, 28, 29, 30, 31, 32, 33, 34, 35, 36, 37, 38, 39, 40, 41, 42, 43, 44, 45, 46, 47, 48, 49, 50, 51, 52, 53, 54, 55, 56, 57, 58, 59, 60, 61, 62, 63, 64, 65, 66, 67, 68, 70, 71, 72, 73, 74, 75, 76, 77]
noncomputable def LO : List Str := [Str.ofString "Whitespace", Str.ofString "EXACT_TOKEN_TYPES"]
end Mine
end
section
set_option maxRecDepth 100000
set_option maxHeartbeats 8000000
namespace Mine
theorem look_quick : PySem.W.Fast.tw9446332074065402090 PySem.Challenge.rw_wo0070_01 = true := by kernel_rfl
theorem look : PySem.Challenge.rw_wo0070_01.wellSaid = true := (congrFun PySem.W.Fast.te9446332074065402090 _).trans look_quick
end Mine
end
section
set_option maxRecDepth 100000
set_option maxHeartbeats 8000000
namespace Mine
noncomputable def o11 (P : Params) : Obj := hT (#[]) #[]
noncomputable def o12 (P : Params) : Obj := Obj.mk hN none (.fields #[]) #[]
noncomputable def o13 (P : Params) : Obj := hC (#[hS "<module>" 182, hS "<module>" 183, hS "/claim/cut.py" 184, hI 1 0, hI 0 0, hI 0 0, hI 0 0, hI 0 0, hR 11, .bool false, hI 181 0, hR 12, hN, hN, hN, hN, hI 185 0, hI 1 0, hS "/claim/cut.py" 186]) #[]
noncomputable def o14 (P : Params) : Obj := Obj.mk (.type "frame") none .plain #[some (hR 13), some (hR 3), some (hR 3), none, some (hS "__main__" 164), none, some (hR 0)]
noncomputable def o2 (P : Params) : Obj := Obj.mk hN none (.dict #[hE P "type.__subclasses__.Exception.0" 265 (hI 73 0), hE P "type.__subclasses__.Exception.n" 266 (hI 1 0)] 2) #[]
noncomputable def o3 (P : Params) : Obj := Obj.mk (.type "dict") none (.dict #[hE P "__name__" 165 (hS "cpy313.tabnanny" 296), hE P "__doc__" 166 hN, hE P "__package__" 167 hN, hE P "__loader__" 168 (.builtin "__main__.__loader__#opaque"), hE P "__spec__" 169 hN, hE P "__annotations__" 170 (hR 6), hE P "__builtins__" 171 (hR 4), hE P "__file__" 173 (hS "/claim/cut.py" 172), hE P "__cached__" 174 hN, hE P "_wall" 193 (hR 21), hE P "add" 203 (hR 28), hE P "sub" 211 (hR 35), hE P "contains" 219 (hR 42), hE P "countOf" 229 (hR 49), hE P "getitem" 237 (hR 56), hE P "setitem" 246 (hR 63), hE P "Error" 268 (hR 73), hE P "error_reply" 284 (hR 86), hE P "parse257" 295 (hR 95)] 19) #[]
noncomputable def o12_1 (P : Params) : Obj := Obj.mk hN none (.fields #[hI 1 0, hI 0 0, hR 20, hI 5 0, hI 0 0, hR 27, hI 7 0, hI 0 0, hR 34, hI 9 0, hI 0 0, hR 41, hI 11 0, hI 0 0, hR 48, hI 17 0, hI 0 0, hR 55, hI 19 0, hI 0 0, hR 62, hI 22 0, hI 0 0, hR 69, hI 24 0, hI 0 0, hR 82, hI 26 0, hI 0 0, hR 94]) #[]
noncomputable def o15 (P : Params) : Obj := hT (#[]) #[]
noncomputable def o16 (P : Params) : Obj := Obj.mk hN none (.fields #[]) #[]
noncomputable def o17 (P : Params) : Obj := hT (#[hS "k" 190]) #[]
noncomputable def o18 (P : Params) : Obj := hT (#[]) #[]
noncomputable def o19 (P : Params) : Obj := Obj.mk hN none (.func (FuncData.mk (Str.ofString "_wall") (Str.ofString "_wall") (Arguments.mk [] [hA "k" (Pos.mk 1 10 1 11)] none [] [] none []) (.stmts (bodyOf (stN 0))) (scOf (stN 0)) 0 [] hN hN hN hN none hN hN 0)) #[]
noncomputable def o20 (P : Params) : Obj := hC (#[hS "_wall" 187, hS "_wall" 188, hS "/claim/cut.py" 189, hI 1 0, hI 1 0, hI 0 0, hI 0 0, hI 3 0, hR 15, .bool true, hI 181 0, hR 16, hN, hR 17, hR 18, hR 19, hI 191 0, hI 1 0, hS "/claim/cut.py" 192]) #[]
noncomputable def o21 (P : Params) : Obj := hF ((FuncData.mk (Str.ofString "_wall") (Str.ofString "_wall") (Arguments.mk [] [hA "k" (Pos.mk 1 10 1 11)] none [] [] none []) (.stmts (bodyOf (stN 0))) (scOf (stN 0)) 3 [] hN hN hN (hS "__main__" 164) none (hR 20) hN 0)) #[]
noncomputable def o22 (P : Params) : Obj := hT (#[]) #[]
noncomputable def o23 (P : Params) : Obj := Obj.mk hN none (.fields #[]) #[]
noncomputable def o24 (P : Params) : Obj := hT (#[hS "a" 199, hS "b" 200]) #[]
noncomputable def o25 (P : Params) : Obj := hT (#[]) #[]
noncomputable def o26 (P : Params) : Obj := Obj.mk hN none (.func (FuncData.mk (Str.ofString "add") (Str.ofString "add") (Arguments.mk [] [hA "a" (Pos.mk 5 8 5 9), hA "b" (Pos.mk 5 11 5 12)] none [] [] none []) (.stmts (bodyOf (stN 2))) (scOf (stN 6)) 0 [] hN hN hN hN none hN hN 0)) #[]
noncomputable def o27 (P : Params) : Obj := hC (#[hS "add" 196, hS "add" 197, hS "/claim/cut.py" 198, hI 5 0, hI 2 0, hI 0 0, hI 0 0, hI 3 0, hR 22, .bool true, hI 181 0, hR 23, hN, hR 24, hR 25, hR 26, hI 201 0, hI 5 0, hS "/claim/cut.py" 202]) #[]
noncomputable def o28 (P : Params) : Obj := hF ((FuncData.mk (Str.ofString "add") (Str.ofString "add") (Arguments.mk [] [hA "a" (Pos.mk 5 8 5 9), hA "b" (Pos.mk 5 11 5 12)] none [] [] none []) (.stmts (bodyOf (stN 2))) (scOf (stN 6)) 3 [] hN hN hN (hS "cpy313.operator" 194) none (hR 27) hN 0)) #[]
noncomputable def o29 (P : Params) : Obj := hT (#[]) #[]
noncomputable def o30 (P : Params) : Obj := Obj.mk hN none (.fields #[]) #[]
noncomputable def o31 (P : Params) : Obj := hT (#[hS "a" 207, hS "b" 208]) #[]
noncomputable def o32 (P : Params) : Obj := hT (#[]) #[]
noncomputable def o33 (P : Params) : Obj := Obj.mk hN none (.func (FuncData.mk (Str.ofString "sub") (Str.ofString "sub") (Arguments.mk [] [hA "a" (Pos.mk 7 8 7 9), hA "b" (Pos.mk 7 11 7 12)] none [] [] none []) (.stmts (bodyOf (stN 3))) (scOf (stN 6)) 0 [] hN hN hN hN none hN hN 0)) #[]
noncomputable def o34 (P : Params) : Obj := hC (#[hS "sub" 204, hS "sub" 205, hS "/claim/cut.py" 206, hI 7 0, hI 2 0, hI 0 0, hI 0 0, hI 3 0, hR 29, .bool true, hI 181 0, hR 30, hN, hR 31, hR 32, hR 33, hI 209 0, hI 7 0, hS "/claim/cut.py" 210]) #[]
noncomputable def o35 (P : Params) : Obj := hF ((FuncData.mk (Str.ofString "sub") (Str.ofString "sub") (Arguments.mk [] [hA "a" (Pos.mk 7 8 7 9), hA "b" (Pos.mk 7 11 7 12)] none [] [] none []) (.stmts (bodyOf (stN 3))) (scOf (stN 6)) 3 [] hN hN hN (hS "cpy313.operator" 194) none (hR 34) hN 0)) #[]
noncomputable def o36 (P : Params) : Obj := hT (#[]) #[]
noncomputable def o37 (P : Params) : Obj := Obj.mk hN none (.fields #[]) #[]
noncomputable def o38 (P : Params) : Obj := hT (#[hS "a" 215, hS "b" 216]) #[]
noncomputable def o39 (P : Params) : Obj := hT (#[]) #[]
noncomputable def o40 (P : Params) : Obj := Obj.mk hN none (.func (FuncData.mk (Str.ofString "contains") (Str.ofString "contains") (Arguments.mk [] [hA "a" (Pos.mk 9 13 9 14), hA "b" (Pos.mk 9 16 9 17)] none [] [] none []) (.stmts (bodyOf (stN 4))) (scOf (stN 6)) 0 [] hN hN hN hN none hN hN 0)) #[]
noncomputable def o41 (P : Params) : Obj := hC (#[hS "contains" 212, hS "contains" 213, hS "/claim/cut.py" 214, hI 9 0, hI 2 0, hI 0 0, hI 0 0, hI 3 0, hR 36, .bool true, hI 181 0, hR 37, hN, hR 38, hR 39, hR 40, hI 217 0, hI 9 0, hS "/claim/cut.py" 218]) #[]
noncomputable def o42 (P : Params) : Obj := hF ((FuncData.mk (Str.ofString "contains") (Str.ofString "contains") (Arguments.mk [] [hA "a" (Pos.mk 9 13 9 14), hA "b" (Pos.mk 9 16 9 17)] none [] [] none []) (.stmts (bodyOf (stN 4))) (scOf (stN 6)) 3 [] hN hN hN (hS "cpy313.operator" 194) none (hR 41) hN 0)) #[]
noncomputable def o43 (P : Params) : Obj := hT (#[]) #[]
noncomputable def o44 (P : Params) : Obj := Obj.mk hN none (.fields #[]) #[]
noncomputable def o45 (P : Params) : Obj := hT (#[hS "a" 223, hS "b" 224, hS "count" 225, hS "i" 226]) #[]
noncomputable def o46 (P : Params) : Obj := hT (#[]) #[]
noncomputable def o47 (P : Params) : Obj := Obj.mk hN none (.func (FuncData.mk (Str.ofString "countOf") (Str.ofString "countOf") (Arguments.mk [] [hA "a" (Pos.mk 11 12 11 13), hA "b" (Pos.mk 11 15 11 16)] none [] [] none []) (.stmts (bodyOf (stN 5))) (scOf (stN 5)) 0 [] hN hN hN hN none hN hN 0)) #[]
noncomputable def o48 (P : Params) : Obj := hC (#[hS "countOf" 220, hS "countOf" 221, hS "/claim/cut.py" 222, hI 11 0, hI 2 0, hI 0 0, hI 0 0, hI 3 0, hR 43, .bool true, hI 181 0, hR 44, hN, hR 45, hR 46, hR 47, hI 227 0, hI 11 0, hS "/claim/cut.py" 228]) #[]
noncomputable def o49 (P : Params) : Obj := hF ((FuncData.mk (Str.ofString "countOf") (Str.ofString "countOf") (Arguments.mk [] [hA "a" (Pos.mk 11 12 11 13), hA "b" (Pos.mk 11 15 11 16)] none [] [] none []) (.stmts (bodyOf (stN 5))) (scOf (stN 5)) 3 [] hN hN hN (hS "cpy313.operator" 194) none (hR 48) hN 0)) #[]
noncomputable def o50 (P : Params) : Obj := hT (#[]) #[]
noncomputable def o51 (P : Params) : Obj := Obj.mk hN none (.fields #[]) #[]
noncomputable def o52 (P : Params) : Obj := hT (#[hS "a" 233, hS "b" 234]) #[]
noncomputable def o53 (P : Params) : Obj := hT (#[]) #[]
noncomputable def o54 (P : Params) : Obj := Obj.mk hN none (.func (FuncData.mk (Str.ofString "getitem") (Str.ofString "getitem") (Arguments.mk [] [hA "a" (Pos.mk 17 12 17 13), hA "b" (Pos.mk 17 15 17 16)] none [] [] none []) (.stmts (bodyOf (stN 6))) (scOf (stN 6)) 0 [] hN hN hN hN none hN hN 0)) #[]
noncomputable def o55 (P : Params) : Obj := hC (#[hS "getitem" 230, hS "getitem" 231, hS "/claim/cut.py" 232, hI 17 0, hI 2 0, hI 0 0, hI 0 0, hI 3 0, hR 50, .bool true, hI 181 0, hR 51, hN, hR 52, hR 53, hR 54, hI 235 0, hI 17 0, hS "/claim/cut.py" 236]) #[]
noncomputable def o56 (P : Params) : Obj := hF ((FuncData.mk (Str.ofString "getitem") (Str.ofString "getitem") (Arguments.mk [] [hA "a" (Pos.mk 17 12 17 13), hA "b" (Pos.mk 17 15 17 16)] none [] [] none []) (.stmts (bodyOf (stN 6))) (scOf (stN 6)) 3 [] hN hN hN (hS "cpy313.operator" 194) none (hR 55) hN 0)) #[]
noncomputable def o57 (P : Params) : Obj := hT (#[]) #[]
noncomputable def o58 (P : Params) : Obj := Obj.mk hN none (.fields #[]) #[]
noncomputable def o59 (P : Params) : Obj := hT (#[hS "a" 241, hS "b" 242, hS "c" 243]) #[]
noncomputable def o60 (P : Params) : Obj := hT (#[]) #[]
noncomputable def o61 (P : Params) : Obj := Obj.mk hN none (.func (FuncData.mk (Str.ofString "setitem") (Str.ofString "setitem") (Arguments.mk [] [hA "a" (Pos.mk 19 12 19 13), hA "b" (Pos.mk 19 15 19 16), hA "c" (Pos.mk 19 18 19 19)] none [] [] none []) (.stmts (bodyOf (stN 7))) (scOf (stN 7)) 0 [] hN hN hN hN none hN hN 0)) #[]
noncomputable def o62 (P : Params) : Obj := hC (#[hS "setitem" 238, hS "setitem" 239, hS "/claim/cut.py" 240, hI 19 0, hI 3 0, hI 0 0, hI 0 0, hI 3 0, hR 57, .bool true, hI 181 0, hR 58, hN, hR 59, hR 60, hR 61, hI 244 0, hI 19 0, hS "/claim/cut.py" 245]) #[]
noncomputable def o63 (P : Params) : Obj := hF ((FuncData.mk (Str.ofString "setitem") (Str.ofString "setitem") (Arguments.mk [] [hA "a" (Pos.mk 19 12 19 13), hA "b" (Pos.mk 19 15 19 16), hA "c" (Pos.mk 19 18 19 19)] none [] [] none []) (.stmts (bodyOf (stN 7))) (scOf (stN 7)) 3 [] hN hN hN (hS "cpy313.operator" 194) none (hR 62) hN 0)) #[]
noncomputable def o64 (P : Params) : Obj := hT (#[.type "Exception"]) #[]
noncomputable def o65 (P : Params) : Obj := Obj.mk (.type "builtin_function_or_method") none (.fields #[.builtin "type.__prepare__", .type "type"]) #[]
noncomputable def o66 (P : Params) : Obj := Obj.mk (.type "dict") none (.dict #[hE P "__module__" 256 (hS "cpy313.ftplib" 247), hE P "__qualname__" 258 (hS "Error" 257), hE P "__firstlineno__" 260 (hI 22 259), hE P "__static_attributes__" 261 (hR 71)] 4) #[]
noncomputable def o67 (P : Params) : Obj := hT (#[]) #[]
noncomputable def o68 (P : Params) : Obj := Obj.mk hN none (.fields #[]) #[]
noncomputable def o69 (P : Params) : Obj := hC (#[hS "Error" 251, hS "Error" 252, hS "/claim/cut.py" 253, hI 22 0, hI 0 0, hI 0 0, hI 0 0, hI 0 0, hR 67, .bool false, hI 181 0, hR 68, hN, hN, hN, hN, hI 254 0, hI 22 0, hS "/claim/cut.py" 255]) #[]
noncomputable def o70 (P : Params) : Obj := Obj.mk (.type "frame") none .plain #[some (hR 69), some (hR 3), some (hR 66), none, some (hS "cpy313.ftplib" 247), none, some (hR 0)]
noncomputable def o71 (P : Params) : Obj := hT (#[]) #[]
noncomputable def o72 (P : Params) : Obj := Obj.mk (.type "dict") none (.dict #[hE P "__module__" 256 (hS "cpy313.ftplib" 247), hE P "__firstlineno__" 260 (hI 22 259), hE P "__static_attributes__" 261 (hR 71), hE P "__weakref__" 263 (hR 74), hE P "__doc__" 264 hN] 3) #[]
noncomputable def o73 (P : Params) : Obj := Obj.mk (.type "type") none (.cls (ClassData.mk (Str.ofString "Error") [.type "Exception"] [hR 73, .type "Exception", .type "BaseException", .type "object"] 72 (Str.ofString "Error") true [] [hR 86] false none false)) #[some (hR 64), none, some (hS "Error" 249), some (hS "Error" 257), some (.builtin "Exception.__new__"), some (.bool true)]
noncomputable def o74 (P : Params) : Obj := Obj.mk (.type "getset_descriptor") none (.fields #[hS "__weakref__" 262, hR 73, .builtin "ExceptionGroup.__weakref__", hN]) #[]
noncomputable def o75 (P : Params) : Obj := Obj.mk (.type "super") none (.fields #[hR 73, hR 73, hR 73]) #[]
noncomputable def o76 (P : Params) : Obj := Obj.mk (.type "builtin_function_or_method") none (.fields #[.builtin "object.__init_subclass__", hR 73]) #[]
noncomputable def o77 (P : Params) : Obj := hT (#[hR 73]) #[]
noncomputable def o78 (P : Params) : Obj := Obj.mk (.type "builtin_function_or_method") none (.fields #[.builtin "type.__prepare__", .type "type"]) #[]
noncomputable def o79 (P : Params) : Obj := Obj.mk (.type "dict") none (.dict #[hE P "__module__" 276 (hS "cpy313.ftplib" 247), hE P "__qualname__" 278 (hS "error_reply" 277), hE P "__firstlineno__" 280 (hI 24 279), hE P "__static_attributes__" 281 (hR 84)] 4) #[]
noncomputable def o80 (P : Params) : Obj := hT (#[]) #[]
noncomputable def o81 (P : Params) : Obj := Obj.mk hN none (.fields #[]) #[]
noncomputable def o82 (P : Params) : Obj := hC (#[hS "error_reply" 271, hS "error_reply" 272, hS "/claim/cut.py" 273, hI 24 0, hI 0 0, hI 0 0, hI 0 0, hI 0 0, hR 80, .bool false, hI 181 0, hR 81, hN, hN, hN, hN, hI 274 0, hI 24 0, hS "/claim/cut.py" 275]) #[]
noncomputable def o83 (P : Params) : Obj := Obj.mk (.type "frame") none .plain #[some (hR 82), some (hR 3), some (hR 79), none, some (hS "cpy313.ftplib" 247), none, some (hR 0)]
noncomputable def o84 (P : Params) : Obj := hT (#[]) #[]
noncomputable def o85 (P : Params) : Obj := Obj.mk (.type "dict") none (.dict #[hE P "__module__" 276 (hS "cpy313.ftplib" 247), hE P "__firstlineno__" 280 (hI 24 279), hE P "__static_attributes__" 281 (hR 84), hE P "__doc__" 282 hN] 2) #[]
noncomputable def o86 (P : Params) : Obj := Obj.mk (.type "type") none (.cls (ClassData.mk (Str.ofString "error_reply") [hR 73] [hR 86, hR 73, .type "Exception", .type "BaseException", .type "object"] 85 (Str.ofString "error_reply") true [] [] false none false)) #[some (hR 77), none, some (hS "error_reply" 269), some (hS "error_reply" 277), some (.builtin "Exception.__new__"), some (.bool true)]
noncomputable def o87 (P : Params) : Obj := Obj.mk (.type "super") none (.fields #[hR 86, hR 86, hR 86]) #[]
noncomputable def o88 (P : Params) : Obj := Obj.mk (.type "builtin_function_or_method") none (.fields #[.builtin "object.__init_subclass__", hR 86]) #[]
noncomputable def o89 (P : Params) : Obj := hT (#[]) #[]
noncomputable def o90 (P : Params) : Obj := Obj.mk hN none (.fields #[]) #[]
noncomputable def o91 (P : Params) : Obj := hT (#[hS "resp" 288, hS "dirname" 289, hS "i" 290, hS "n" 291, hS "c" 292]) #[]
noncomputable def o92 (P : Params) : Obj := hT (#[]) #[]
noncomputable def o93 (P : Params) : Obj := Obj.mk hN none (.func (FuncData.mk (Str.ofString "parse257") (Str.ofString "parse257") (Arguments.mk [] [hA "resp" (Pos.mk 26 13 26 17)] none [] [] none []) (.stmts (bodyOf (stN 11))) (scOf (stN 11)) 0 [] hN hN hN hN none hN hN 0)) #[]
noncomputable def o94 (P : Params) : Obj := hC (#[hS "parse257" 285, hS "parse257" 286, hS "/claim/cut.py" 287, hI 26 0, hI 1 0, hI 0 0, hI 0 0, hI 3 0, hR 89, .bool true, hI 181 0, hR 90, hN, hR 91, hR 92, hR 93, hI 293 0, hI 26 0, hS "/claim/cut.py" 294]) #[]
noncomputable def o95 (P : Params) : Obj := hF ((FuncData.mk (Str.ofString "parse257") (Str.ofString "parse257") (Arguments.mk [] [hA "resp" (Pos.mk 26 13 26 17)] none [] [] none []) (.stmts (bodyOf (stN 11))) (scOf (stN 11)) 3 [] hN hN hN (hS "cpy313.ftplib" 247) none (hR 94) hN 0)) #[]
noncomputable def o3_1 (P : Params) : Obj := Obj.mk (.type "dict") none (.dict #[hE P "__name__" 165 (hS "cpy313.tabnanny" 296), hE P "__doc__" 166 hN, hE P "__package__" 167 hN, hE P "__loader__" 168 (.builtin "__main__.__loader__#opaque"), hE P "__spec__" 169 hN, hE P "__annotations__" 170 (hR 6), hE P "__builtins__" 171 (hR 4), hE P "__file__" 173 (hS "/claim/cut.py" 172), hE P "__cached__" 174 hN, hE P "_wall" 193 (hR 21), hE P "add" 203 (hR 28), hE P "sub" 211 (hR 35), hE P "contains" 219 (hR 42), hE P "countOf" 229 (hR 49), hE P "getitem" 237 (hR 56), hE P "setitem" 246 (hR 63), hE P "Error" 268 (hR 73), hE P "error_reply" 284 (hR 86), hE P "parse257" 295 (hR 95), hE P "Whitespace" 397 (hR 157)] 20) #[]
noncomputable def o12_2 (P : Params) : Obj := Obj.mk hN none (.fields #[hI 1 0, hI 0 0, hR 20, hI 5 0, hI 0 0, hR 27, hI 7 0, hI 0 0, hR 34, hI 9 0, hI 0 0, hR 41, hI 11 0, hI 0 0, hR 48, hI 17 0, hI 0 0, hR 55, hI 19 0, hI 0 0, hR 62, hI 22 0, hI 0 0, hR 69, hI 24 0, hI 0 0, hR 82, hI 26 0, hI 0 0, hR 94, hI 44 0, hI 0 0, hR 101]) #[]
noncomputable def o96 (P : Params) : Obj := hT (#[]) #[]
noncomputable def o97 (P : Params) : Obj := Obj.mk (.type "builtin_function_or_method") none (.fields #[.builtin "type.__prepare__", .type "type"]) #[]
noncomputable def o98 (P : Params) : Obj := Obj.mk (.type "dict") none (.dict #[hE P "__module__" 305 (hS "cpy313.tabnanny" 296), hE P "__qualname__" 307 (hS "Whitespace" 306), hE P "__firstlineno__" 309 (hI 44 308), hE P "S" 313 (hS " " 311), hE P "T" 314 (hS "\t" 312), hE P "__init__" 329 (hR 112), hE P "longest_run_of_spaces" 338 (hR 119), hE P "indent_level" 350 (hR 126), hE P "equal" 358 (hR 133), hE P "not_equal_witness" 366 (hR 140), hE P "less" 376 (hR 147), hE P "not_less_witness" 384 (hR 154), hE P "__static_attributes__" 390 (hR 155)] 13) #[]
noncomputable def o99 (P : Params) : Obj := hT (#[]) #[]
noncomputable def o100 (P : Params) : Obj := Obj.mk hN none (.fields #[hI 47 0, hI 4 0, hR 111, hI 70 0, hI 4 0, hR 118, hI 74 0, hI 4 0, hR 125, hI 81 0, hI 4 0, hR 132, hI 84 0, hI 4 0, hR 139, hI 87 0, hI 4 0, hR 146, hI 98 0, hI 4 0, hR 153]) #[]
noncomputable def o101 (P : Params) : Obj := hC (#[hS "Whitespace" 300, hS "Whitespace" 301, hS "/claim/cut.py" 302, hI 44 0, hI 0 0, hI 0 0, hI 0 0, hI 0 0, hR 99, .bool false, hI 181 0, hR 100, hN, hN, hN, hN, hI 303 0, hI 44 0, hS "/claim/cut.py" 304]) #[]
noncomputable def o102 (P : Params) : Obj := Obj.mk (.type "frame") none .plain #[some (hR 101), some (hR 3), some (hR 98), none, some (hS "cpy313.tabnanny" 296), none, some (hR 0)]
noncomputable def o103 (P : Params) : Obj := Obj.mk (.type "str_ascii_iterator") none (.fields #[hN, hI 2 0]) #[]
noncomputable def o104 (P : Params) : Obj := hT (#[]) #[]
noncomputable def o105 (P : Params) : Obj := Obj.mk (.type "StopIteration") none (.fields #[hR 104, hN, hN, hN, .bool false, hN]) #[]
noncomputable def o106 (P : Params) : Obj := hT (#[]) #[]
noncomputable def o107 (P : Params) : Obj := Obj.mk hN none (.fields #[]) #[]
noncomputable def o108 (P : Params) : Obj := hT (#[hS "self" 318, hS "ws" 319, hS "S" 320, hS "T" 321, hS "count" 322, hS "b" 323, hS "n" 324, hS "nt" 325, hS "ch" 326]) #[]
noncomputable def o109 (P : Params) : Obj := hT (#[]) #[]
noncomputable def o110 (P : Params) : Obj := Obj.mk hN none (.func (FuncData.mk (Str.ofString "__init__") (Str.ofString "Whitespace.__init__") (Arguments.mk [] [hA "self" (Pos.mk 47 17 47 21), hA "ws" (Pos.mk 47 23 47 25)] none [] [] none []) (.stmts (bodyOf (mtN 1))) (scOf (mtN 1)) 0 [] hN hN hN hN none hN hN 0)) #[]
noncomputable def o111 (P : Params) : Obj := hC (#[hS "__init__" 315, hS "Whitespace.__init__" 316, hS "/claim/cut.py" 317, hI 47 0, hI 2 0, hI 0 0, hI 0 0, hI 3 0, hR 106, .bool true, hI 181 0, hR 107, hN, hR 108, hR 109, hR 110, hI 327 0, hI 47 0, hS "/claim/cut.py" 328]) #[]
noncomputable def o112 (P : Params) : Obj := hF ((FuncData.mk (Str.ofString "__init__") (Str.ofString "Whitespace.__init__") (Arguments.mk [] [hA "self" (Pos.mk 47 17 47 21), hA "ws" (Pos.mk 47 23 47 25)] none [] [] none []) (.stmts (bodyOf (mtN 1))) (scOf (mtN 1)) 3 [] hN hN hN (hS "cpy313.tabnanny" 296) none (hR 111) hN 0)) #[]
noncomputable def o113 (P : Params) : Obj := hT (#[]) #[]
noncomputable def o114 (P : Params) : Obj := Obj.mk hN none (.fields #[]) #[]
noncomputable def o115 (P : Params) : Obj := hT (#[hS "self" 333, hS "count" 334, hS "trailing" 335]) #[]
noncomputable def o116 (P : Params) : Obj := hT (#[]) #[]
noncomputable def o117 (P : Params) : Obj := Obj.mk hN none (.func (FuncData.mk (Str.ofString "longest_run_of_spaces") (Str.ofString "Whitespace.longest_run_of_spaces") (Arguments.mk [] [hA "self" (Pos.mk 70 30 70 34)] none [] [] none []) (.stmts (bodyOf (mtN 2))) (scOf (mtN 2)) 0 [] hN hN hN hN none hN hN 0)) #[]
noncomputable def o118 (P : Params) : Obj := hC (#[hS "longest_run_of_spaces" 330, hS "Whitespace.longest_run_of_spaces" 331, hS "/claim/cut.py" 332, hI 70 0, hI 1 0, hI 0 0, hI 0 0, hI 3 0, hR 113, .bool true, hI 181 0, hR 114, hN, hR 115, hR 116, hR 117, hI 336 0, hI 70 0, hS "/claim/cut.py" 337]) #[]
noncomputable def o119 (P : Params) : Obj := hF ((FuncData.mk (Str.ofString "longest_run_of_spaces") (Str.ofString "Whitespace.longest_run_of_spaces") (Arguments.mk [] [hA "self" (Pos.mk 70 30 70 34)] none [] [] none []) (.stmts (bodyOf (mtN 2))) (scOf (mtN 2)) 3 [] hN hN hN (hS "cpy313.tabnanny" 296) none (hR 118) hN 0)) #[]
noncomputable def o120 (P : Params) : Obj := hT (#[]) #[]
noncomputable def o121 (P : Params) : Obj := Obj.mk hN none (.fields #[]) #[]
noncomputable def o122 (P : Params) : Obj := hT (#[hS "self" 342, hS "tabsize" 343, hS "count" 344, hS "trailing" 345, hS "il" 346, hS "i" 347]) #[]
noncomputable def o123 (P : Params) : Obj := hT (#[]) #[]
noncomputable def o124 (P : Params) : Obj := Obj.mk hN none (.func (FuncData.mk (Str.ofString "indent_level") (Str.ofString "Whitespace.indent_level") (Arguments.mk [] [hA "self" (Pos.mk 74 21 74 25), hA "tabsize" (Pos.mk 74 27 74 34)] none [] [] none []) (.stmts (bodyOf (mtN 3))) (scOf (mtN 3)) 0 [] hN hN hN hN none hN hN 0)) #[]
noncomputable def o125 (P : Params) : Obj := hC (#[hS "indent_level" 339, hS "Whitespace.indent_level" 340, hS "/claim/cut.py" 341, hI 74 0, hI 2 0, hI 0 0, hI 0 0, hI 3 0, hR 120, .bool true, hI 181 0, hR 121, hN, hR 122, hR 123, hR 124, hI 348 0, hI 74 0, hS "/claim/cut.py" 349]) #[]
noncomputable def o126 (P : Params) : Obj := hF ((FuncData.mk (Str.ofString "indent_level") (Str.ofString "Whitespace.indent_level") (Arguments.mk [] [hA "self" (Pos.mk 74 21 74 25), hA "tabsize" (Pos.mk 74 27 74 34)] none [] [] none []) (.stmts (bodyOf (mtN 3))) (scOf (mtN 3)) 3 [] hN hN hN (hS "cpy313.tabnanny" 296) none (hR 125) hN 0)) #[]
noncomputable def o127 (P : Params) : Obj := hT (#[]) #[]
noncomputable def o128 (P : Params) : Obj := Obj.mk hN none (.fields #[]) #[]
noncomputable def o129 (P : Params) : Obj := hT (#[hS "self" 354, hS "other" 355]) #[]
noncomputable def o130 (P : Params) : Obj := hT (#[]) #[]
noncomputable def o131 (P : Params) : Obj := Obj.mk hN none (.func (FuncData.mk (Str.ofString "equal") (Str.ofString "Whitespace.equal") (Arguments.mk [] [hA "self" (Pos.mk 81 14 81 18), hA "other" (Pos.mk 81 20 81 25)] none [] [] none []) (.stmts (bodyOf (mtN 4))) (scOf (mtN 4)) 0 [] hN hN hN hN none hN hN 0)) #[]
noncomputable def o132 (P : Params) : Obj := hC (#[hS "equal" 351, hS "Whitespace.equal" 352, hS "/claim/cut.py" 353, hI 81 0, hI 2 0, hI 0 0, hI 0 0, hI 3 0, hR 127, .bool true, hI 181 0, hR 128, hN, hR 129, hR 130, hR 131, hI 356 0, hI 81 0, hS "/claim/cut.py" 357]) #[]
noncomputable def o133 (P : Params) : Obj := hF ((FuncData.mk (Str.ofString "equal") (Str.ofString "Whitespace.equal") (Arguments.mk [] [hA "self" (Pos.mk 81 14 81 18), hA "other" (Pos.mk 81 20 81 25)] none [] [] none []) (.stmts (bodyOf (mtN 4))) (scOf (mtN 4)) 3 [] hN hN hN (hS "cpy313.tabnanny" 296) none (hR 132) hN 0)) #[]
noncomputable def o134 (P : Params) : Obj := hT (#[]) #[]
noncomputable def o135 (P : Params) : Obj := Obj.mk hN none (.fields #[]) #[]
noncomputable def o136 (P : Params) : Obj := hT (#[hS "self" 362, hS "other" 363]) #[]
noncomputable def o137 (P : Params) : Obj := hT (#[]) #[]
noncomputable def o138 (P : Params) : Obj := Obj.mk hN none (.func (FuncData.mk (Str.ofString "not_equal_witness") (Str.ofString "Whitespace.not_equal_witness") (Arguments.mk [] [hA "self" (Pos.mk 84 26 84 30), hA "other" (Pos.mk 84 32 84 37)] none [] [] none []) (.stmts (bodyOf (mtN 5))) (scOf (mtN 7)) 0 [] hN hN hN hN none hN hN 0)) #[]
noncomputable def o139 (P : Params) : Obj := hC (#[hS "not_equal_witness" 359, hS "Whitespace.not_equal_witness" 360, hS "/claim/cut.py" 361, hI 84 0, hI 2 0, hI 0 0, hI 0 0, hI 3 0, hR 134, .bool true, hI 181 0, hR 135, hN, hR 136, hR 137, hR 138, hI 364 0, hI 84 0, hS "/claim/cut.py" 365]) #[]
noncomputable def o140 (P : Params) : Obj := hF ((FuncData.mk (Str.ofString "not_equal_witness") (Str.ofString "Whitespace.not_equal_witness") (Arguments.mk [] [hA "self" (Pos.mk 84 26 84 30), hA "other" (Pos.mk 84 32 84 37)] none [] [] none []) (.stmts (bodyOf (mtN 5))) (scOf (mtN 7)) 3 [] hN hN hN (hS "cpy313.tabnanny" 296) none (hR 139) hN 0)) #[]
noncomputable def o141 (P : Params) : Obj := hT (#[]) #[]
noncomputable def o142 (P : Params) : Obj := Obj.mk hN none (.fields #[]) #[]
noncomputable def o143 (P : Params) : Obj := hT (#[hS "self" 370, hS "other" 371, hS "n" 372, hS "ts" 373]) #[]
noncomputable def o144 (P : Params) : Obj := hT (#[]) #[]
noncomputable def o145 (P : Params) : Obj := Obj.mk hN none (.func (FuncData.mk (Str.ofString "less") (Str.ofString "Whitespace.less") (Arguments.mk [] [hA "self" (Pos.mk 87 13 87 17), hA "other" (Pos.mk 87 19 87 24)] none [] [] none []) (.stmts (bodyOf (mtN 6))) (scOf (mtN 6)) 0 [] hN hN hN hN none hN hN 0)) #[]
noncomputable def o146 (P : Params) : Obj := hC (#[hS "less" 367, hS "Whitespace.less" 368, hS "/claim/cut.py" 369, hI 87 0, hI 2 0, hI 0 0, hI 0 0, hI 3 0, hR 141, .bool true, hI 181 0, hR 142, hN, hR 143, hR 144, hR 145, hI 374 0, hI 87 0, hS "/claim/cut.py" 375]) #[]
noncomputable def o147 (P : Params) : Obj := hF ((FuncData.mk (Str.ofString "less") (Str.ofString "Whitespace.less") (Arguments.mk [] [hA "self" (Pos.mk 87 13 87 17), hA "other" (Pos.mk 87 19 87 24)] none [] [] none []) (.stmts (bodyOf (mtN 6))) (scOf (mtN 6)) 3 [] hN hN hN (hS "cpy313.tabnanny" 296) none (hR 146) hN 0)) #[]
noncomputable def o148 (P : Params) : Obj := hT (#[]) #[]
noncomputable def o149 (P : Params) : Obj := Obj.mk hN none (.fields #[]) #[]
noncomputable def o150 (P : Params) : Obj := hT (#[hS "self" 380, hS "other" 381]) #[]
noncomputable def o151 (P : Params) : Obj := hT (#[]) #[]
noncomputable def o152 (P : Params) : Obj := Obj.mk hN none (.func (FuncData.mk (Str.ofString "not_less_witness") (Str.ofString "Whitespace.not_less_witness") (Arguments.mk [] [hA "self" (Pos.mk 98 25 98 29), hA "other" (Pos.mk 98 31 98 36)] none [] [] none []) (.stmts (bodyOf (mtN 7))) (scOf (mtN 7)) 0 [] hN hN hN hN none hN hN 0)) #[]
noncomputable def o153 (P : Params) : Obj := hC (#[hS "not_less_witness" 377, hS "Whitespace.not_less_witness" 378, hS "/claim/cut.py" 379, hI 98 0, hI 2 0, hI 0 0, hI 0 0, hI 3 0, hR 148, .bool true, hI 181 0, hR 149, hN, hR 150, hR 151, hR 152, hI 382 0, hI 98 0, hS "/claim/cut.py" 383]) #[]
noncomputable def o154 (P : Params) : Obj := hF ((FuncData.mk (Str.ofString "not_less_witness") (Str.ofString "Whitespace.not_less_witness") (Arguments.mk [] [hA "self" (Pos.mk 98 25 98 29), hA "other" (Pos.mk 98 31 98 36)] none [] [] none []) (.stmts (bodyOf (mtN 7))) (scOf (mtN 7)) 3 [] hN hN hN (hS "cpy313.tabnanny" 296) none (hR 153) hN 0)) #[]
noncomputable def o155 (P : Params) : Obj := hT (#[hS "is_simple" 385, hS "n" 386, hS "norm" 387, hS "nt" 388, hS "raw" 389]) #[]
noncomputable def o156 (P : Params) : Obj := Obj.mk (.type "dict") none (.dict #[hE P "__module__" 305 (hS "cpy313.tabnanny" 296), hE P "__firstlineno__" 309 (hI 44 308), hE P "S" 313 (hS " " 311), hE P "T" 314 (hS "\t" 312), hE P "__init__" 329 (hR 112), hE P "longest_run_of_spaces" 338 (hR 119), hE P "indent_level" 350 (hR 126), hE P "equal" 358 (hR 133), hE P "not_equal_witness" 366 (hR 140), hE P "less" 376 (hR 147), hE P "not_less_witness" 384 (hR 154), hE P "__static_attributes__" 390 (hR 155), hE P "__dict__" 392 (hR 158), hE P "__weakref__" 394 (hR 159), hE P "__doc__" 395 hN] 4) #[]
noncomputable def o157 (P : Params) : Obj := Obj.mk (.type "type") none (.cls (ClassData.mk (Str.ofString "Whitespace") [.type "object"] [hR 157, .type "object"] 156 (Str.ofString "Whitespace") true [] [] false none false)) #[none, none, some (hS "Whitespace" 298), some (hS "Whitespace" 306), some (.builtin "object.__new__"), some (.bool true)]
noncomputable def o158 (P : Params) : Obj := Obj.mk (.type "getset_descriptor") none (.fields #[hS "__dict__" 391, hR 157, .builtin "function.__dict__", .builtin "function.__dict__#set"]) #[]
noncomputable def o159 (P : Params) : Obj := Obj.mk (.type "getset_descriptor") none (.fields #[hS "__weakref__" 393, hR 157, .builtin "ExceptionGroup.__weakref__", hN]) #[]
noncomputable def o160 (P : Params) : Obj := Obj.mk (.type "super") none (.fields #[hR 157, hR 157, hR 157]) #[]
noncomputable def o161 (P : Params) : Obj := Obj.mk (.type "builtin_function_or_method") none (.fields #[.builtin "object.__init_subclass__", hR 157]) #[]
noncomputable def o3_2 (P : Params) : Obj := Obj.mk (.type "dict") none (.dict #[hE P "__name__" 165 (hS "cpy313.token" 398), hE P "__doc__" 166 hN, hE P "__package__" 167 hN, hE P "__loader__" 168 (.builtin "__main__.__loader__#opaque"), hE P "__spec__" 169 hN, hE P "__annotations__" 170 (hR 6), hE P "__builtins__" 171 (hR 4), hE P "__file__" 173 (hS "/claim/cut.py" 172), hE P "__cached__" 174 hN, hE P "_wall" 193 (hR 21), hE P "add" 203 (hR 28), hE P "sub" 211 (hR 35), hE P "contains" 219 (hR 42), hE P "countOf" 229 (hR 49), hE P "getitem" 237 (hR 56), hE P "setitem" 246 (hR 63), hE P "Error" 268 (hR 73), hE P "error_reply" 284 (hR 86), hE P "parse257" 295 (hR 95), hE P "Whitespace" 397 (hR 157), hE P "ENDMARKER" 401 (hI 0 400), hE P "LPAR" 403 (hI 7 402), hE P "RPAR" 405 (hI 8 404), hE P "LSQB" 407 (hI 9 406), hE P "RSQB" 409 (hI 10 408), hE P "COLON" 411 (hI 11 410), hE P "COMMA" 413 (hI 12 412), hE P "SEMI" 415 (hI 13 414), hE P "PLUS" 417 (hI 14 416), hE P "MINUS" 419 (hI 15 418), hE P "STAR" 421 (hI 16 420), hE P "SLASH" 423 (hI 17 422), hE P "VBAR" 425 (hI 18 424), hE P "AMPER" 427 (hI 19 426), hE P "LESS" 429 (hI 20 428), hE P "GREATER" 431 (hI 21 430), hE P "EQUAL" 433 (hI 22 432), hE P "DOT" 435 (hI 23 434), hE P "PERCENT" 437 (hI 24 436), hE P "LBRACE" 439 (hI 25 438), hE P "RBRACE" 441 (hI 26 440), hE P "EQEQUAL" 443 (hI 27 442), hE P "NOTEQUAL" 445 (hI 28 444), hE P "LESSEQUAL" 447 (hI 29 446), hE P "GREATEREQUAL" 449 (hI 30 448), hE P "TILDE" 451 (hI 31 450), hE P "CIRCUMFLEX" 453 (hI 32 452), hE P "LEFTSHIFT" 455 (hI 33 454), hE P "RIGHTSHIFT" 457 (hI 34 456), hE P "DOUBLESTAR" 459 (hI 35 458), hE P "PLUSEQUAL" 461 (hI 36 460), hE P "MINEQUAL" 463 (hI 37 462), hE P "STAREQUAL" 465 (hI 38 464), hE P "SLASHEQUAL" 467 (hI 39 466), hE P "PERCENTEQUAL" 469 (hI 40 468), hE P "AMPEREQUAL" 471 (hI 41 470), hE P "VBAREQUAL" 473 (hI 42 472), hE P "CIRCUMFLEXEQUAL" 475 (hI 43 474), hE P "LEFTSHIFTEQUAL" 477 (hI 44 476), hE P "RIGHTSHIFTEQUAL" 479 (hI 45 478), hE P "DOUBLESTAREQUAL" 481 (hI 46 480), hE P "DOUBLESLASH" 483 (hI 47 482), hE P "DOUBLESLASHEQUAL" 485 (hI 48 484), hE P "AT" 487 (hI 49 486), hE P "ATEQUAL" 489 (hI 50 488), hE P "RARROW" 491 (hI 51 490), hE P "ELLIPSIS" 493 (hI 52 492), hE P "COLONEQUAL" 495 (hI 53 494), hE P "EXCLAMATION" 497 (hI 54 496), hE P "NT_OFFSET" 499 (hI 256 498)] 70) #[]
noncomputable def o3_3 (P : Params) : Obj := Obj.mk (.type "dict") none (.dict #[hE P "__name__" 165 (hS "cpy313.token" 398), hE P "__doc__" 166 hN, hE P "__package__" 167 hN, hE P "__loader__" 168 (.builtin "__main__.__loader__#opaque"), hE P "__spec__" 169 hN, hE P "__annotations__" 170 (hR 6), hE P "__builtins__" 171 (hR 4), hE P "__file__" 173 (hS "/claim/cut.py" 172), hE P "__cached__" 174 hN, hE P "_wall" 193 (hR 21), hE P "add" 203 (hR 28), hE P "sub" 211 (hR 35), hE P "contains" 219 (hR 42), hE P "countOf" 229 (hR 49), hE P "getitem" 237 (hR 56), hE P "setitem" 246 (hR 63), hE P "Error" 268 (hR 73), hE P "error_reply" 284 (hR 86), hE P "parse257" 295 (hR 95), hE P "Whitespace" 397 (hR 157), hE P "ENDMARKER" 401 (hI 0 400), hE P "LPAR" 403 (hI 7 402), hE P "RPAR" 405 (hI 8 404), hE P "LSQB" 407 (hI 9 406), hE P "RSQB" 409 (hI 10 408), hE P "COLON" 411 (hI 11 410), hE P "COMMA" 413 (hI 12 412), hE P "SEMI" 415 (hI 13 414), hE P "PLUS" 417 (hI 14 416), hE P "MINUS" 419 (hI 15 418), hE P "STAR" 421 (hI 16 420), hE P "SLASH" 423 (hI 17 422), hE P "VBAR" 425 (hI 18 424), hE P "AMPER" 427 (hI 19 426), hE P "LESS" 429 (hI 20 428), hE P "GREATER" 431 (hI 21 430), hE P "EQUAL" 433 (hI 22 432), hE P "DOT" 435 (hI 23 434), hE P "PERCENT" 437 (hI 24 436), hE P "LBRACE" 439 (hI 25 438), hE P "RBRACE" 441 (hI 26 440), hE P "EQEQUAL" 443 (hI 27 442), hE P "NOTEQUAL" 445 (hI 28 444), hE P "LESSEQUAL" 447 (hI 29 446), hE P "GREATEREQUAL" 449 (hI 30 448), hE P "TILDE" 451 (hI 31 450), hE P "CIRCUMFLEX" 453 (hI 32 452), hE P "LEFTSHIFT" 455 (hI 33 454), hE P "RIGHTSHIFT" 457 (hI 34 456), hE P "DOUBLESTAR" 459 (hI 35 458), hE P "PLUSEQUAL" 461 (hI 36 460), hE P "MINEQUAL" 463 (hI 37 462), hE P "STAREQUAL" 465 (hI 38 464), hE P "SLASHEQUAL" 467 (hI 39 466), hE P "PERCENTEQUAL" 469 (hI 40 468), hE P "AMPEREQUAL" 471 (hI 41 470), hE P "VBAREQUAL" 473 (hI 42 472), hE P "CIRCUMFLEXEQUAL" 475 (hI 43 474), hE P "LEFTSHIFTEQUAL" 477 (hI 44 476), hE P "RIGHTSHIFTEQUAL" 479 (hI 45 478), hE P "DOUBLESTAREQUAL" 481 (hI 46 480), hE P "DOUBLESLASH" 483 (hI 47 482), hE P "DOUBLESLASHEQUAL" 485 (hI 48 484), hE P "AT" 487 (hI 49 486), hE P "ATEQUAL" 489 (hI 50 488), hE P "RARROW" 491 (hI 51 490), hE P "ELLIPSIS" 493 (hI 52 492), hE P "COLONEQUAL" 495 (hI 53 494), hE P "EXCLAMATION" 497 (hI 54 496), hE P "NT_OFFSET" 499 (hI 256 498), hE P "EXACT_TOKEN_TYPES" 596 (hR 162)] 71) #[]
noncomputable def o162 (P : Params) : Obj := Obj.mk (.type "dict") none (.dict #[hE P "!" 500 (hI 54 496), hE P "!=" 502 (hI 28 444), hE P "%" 504 (hI 24 436), hE P "%=" 506 (hI 40 468), hE P "&" 508 (hI 19 426), hE P "&=" 510 (hI 41 470), hE P "(" 512 (hI 7 402), hE P ")" 514 (hI 8 404), hE P "*" 516 (hI 16 420), hE P "**" 518 (hI 35 458), hE P "**=" 520 (hI 46 480), hE P "*=" 522 (hI 38 464), hE P "+" 524 (hI 14 416), hE P "+=" 526 (hI 36 460), hE P "," 528 (hI 12 412), hE P "-" 530 (hI 15 418), hE P "-=" 532 (hI 37 462), hE P "->" 534 (hI 51 490), hE P "." 536 (hI 23 434), hE P "..." 538 (hI 52 492), hE P "/" 540 (hI 17 422), hE P "//" 542 (hI 47 482), hE P "//=" 544 (hI 48 484), hE P "/=" 546 (hI 39 466), hE P ":" 548 (hI 11 410), hE P ":=" 550 (hI 53 494), hE P ";" 552 (hI 13 414), hE P "<" 554 (hI 20 428), hE P "<<" 556 (hI 33 454), hE P "<<=" 558 (hI 44 476), hE P "<=" 560 (hI 29 446), hE P "=" 562 (hI 22 432), hE P "==" 564 (hI 27 442), hE P ">" 566 (hI 21 430), hE P ">=" 568 (hI 30 448), hE P ">>" 569 (hI 34 456), hE P ">>=" 570 (hI 45 478), hE P "@" 571 (hI 49 486), hE P "@=" 572 (hI 50 488), hE P "[" 573 (hI 9 406), hE P "]" 574 (hI 10 408), hE P "^" 575 (hI 32 452), hE P "^=" 576 (hI 43 474), hE P "{" 577 (hI 25 438), hE P "|" 578 (hI 18 424), hE P "|=" 579 (hI 42 472), hE P "}" 580 (hI 26 440), hE P "~" 581 (hI 31 450)] 48) #[]
noncomputable def o163 (P : Params) : Obj := Obj.mk (.type "dict") none (.dict #[hE P "->" 534 (hI 51 490), hE P "." 536 (hI 23 434), hE P "..." 538 (hI 52 492), hE P "/" 540 (hI 17 422), hE P "//" 542 (hI 47 482), hE P "//=" 544 (hI 48 484), hE P "/=" 546 (hI 39 466), hE P ":" 548 (hI 11 410), hE P ":=" 550 (hI 53 494), hE P ";" 552 (hI 13 414), hE P "<" 554 (hI 20 428), hE P "<<" 556 (hI 33 454), hE P "<<=" 558 (hI 44 476), hE P "<=" 560 (hI 29 446), hE P "=" 562 (hI 22 432), hE P "==" 564 (hI 27 442), hE P ">" 566 (hI 21 430)] 17) #[]
noncomputable def o164 (P : Params) : Obj := Obj.mk (.type "dict") none (.dict #[hE P ">=" 568 (hI 30 448), hE P ">>" 569 (hI 34 456), hE P ">>=" 570 (hI 45 478), hE P "@" 571 (hI 49 486), hE P "@=" 572 (hI 50 488), hE P "[" 573 (hI 9 406), hE P "]" 574 (hI 10 408), hE P "^" 575 (hI 32 452), hE P "^=" 576 (hI 43 474), hE P "{" 577 (hI 25 438), hE P "|" 578 (hI 18 424), hE P "|=" 579 (hI 42 472), hE P "}" 580 (hI 26 440), hE P "~" 581 (hI 31 450)] 14) #[]
noncomputable def o3_4 (P : Params) : Obj := Obj.mk (.type "dict") none (.dict #[hE P "__name__" 165 (hS "law_wo0070_01" 618), hE P "__doc__" 166 hN, hE P "__package__" 167 hN, hE P "__loader__" 168 (.builtin "__main__.__loader__#opaque"), hE P "__spec__" 169 hN, hE P "__annotations__" 170 (hR 6), hE P "__builtins__" 171 (hR 4), hE P "__file__" 173 (hS "/claim/cut.py" 172), hE P "__cached__" 174 hN, hE P "_wall" 193 (hR 21), hE P "add" 203 (hR 28), hE P "sub" 211 (hR 35), hE P "contains" 219 (hR 42), hE P "countOf" 229 (hR 49), hE P "getitem" 237 (hR 56), hE P "setitem" 246 (hR 63), hE P "Error" 268 (hR 73), hE P "error_reply" 284 (hR 86), hE P "parse257" 295 (hR 95), hE P "Whitespace" 397 (hR 157), hE P "ENDMARKER" 401 (hI 0 400), hE P "LPAR" 403 (hI 7 402), hE P "RPAR" 405 (hI 8 404), hE P "LSQB" 407 (hI 9 406), hE P "RSQB" 409 (hI 10 408), hE P "COLON" 411 (hI 11 410), hE P "COMMA" 413 (hI 12 412), hE P "SEMI" 415 (hI 13 414), hE P "PLUS" 417 (hI 14 416), hE P "MINUS" 419 (hI 15 418), hE P "STAR" 421 (hI 16 420), hE P "SLASH" 423 (hI 17 422), hE P "VBAR" 425 (hI 18 424), hE P "AMPER" 427 (hI 19 426), hE P "LESS" 429 (hI 20 428), hE P "GREATER" 431 (hI 21 430), hE P "EQUAL" 433 (hI 22 432), hE P "DOT" 435 (hI 23 434), hE P "PERCENT" 437 (hI 24 436), hE P "LBRACE" 439 (hI 25 438), hE P "RBRACE" 441 (hI 26 440), hE P "EQEQUAL" 443 (hI 27 442), hE P "NOTEQUAL" 445 (hI 28 444), hE P "LESSEQUAL" 447 (hI 29 446), hE P "GREATEREQUAL" 449 (hI 30 448), hE P "TILDE" 451 (hI 31 450), hE P "CIRCUMFLEX" 453 (hI 32 452), hE P "LEFTSHIFT" 455 (hI 33 454), hE P "RIGHTSHIFT" 457 (hI 34 456), hE P "DOUBLESTAR" 459 (hI 35 458), hE P "PLUSEQUAL" 461 (hI 36 460), hE P "MINEQUAL" 463 (hI 37 462), hE P "STAREQUAL" 465 (hI 38 464), hE P "SLASHEQUAL" 467 (hI 39 466), hE P "PERCENTEQUAL" 469 (hI 40 468), hE P "AMPEREQUAL" 471 (hI 41 470), hE P "VBAREQUAL" 473 (hI 42 472), hE P "CIRCUMFLEXEQUAL" 475 (hI 43 474), hE P "LEFTSHIFTEQUAL" 477 (hI 44 476), hE P "RIGHTSHIFTEQUAL" 479 (hI 45 478), hE P "DOUBLESTAREQUAL" 481 (hI 46 480), hE P "DOUBLESLASH" 483 (hI 47 482), hE P "DOUBLESLASHEQUAL" 485 (hI 48 484), hE P "AT" 487 (hI 49 486), hE P "ATEQUAL" 489 (hI 50 488), hE P "RARROW" 491 (hI 51 490), hE P "ELLIPSIS" 493 (hI 52 492), hE P "COLONEQUAL" 495 (hI 53 494), hE P "EXCLAMATION" 497 (hI 54 496), hE P "NT_OFFSET" 499 (hI 256 498), hE P "EXACT_TOKEN_TYPES" 596 (hR 162), hE P "ISTERMINAL" 603 (hR 171), hE P "ISNONTERMINAL" 610 (hR 178), hE P "ISEOF" 617 (hR 185), hE P "_law_row" 629 (hR 192), hE P "_law_page" 635 (hR 197), hE P "_law_held" 647 (hR 204), hE P "_law_read" 660 (hR 211), hE P "_law_walk" 678 (hR 218), hE P "_law_order" 684 (hR 223), hE P "_law_sorted" 693 (hR 230), hE P "law" 699 (hR 235)] 82) #[]
noncomputable def o12_3 (P : Params) : Obj := Obj.mk hN none (.fields #[hI 1 0, hI 0 0, hR 20, hI 5 0, hI 0 0, hR 27, hI 7 0, hI 0 0, hR 34, hI 9 0, hI 0 0, hR 41, hI 11 0, hI 0 0, hR 48, hI 17 0, hI 0 0, hR 55, hI 19 0, hI 0 0, hR 62, hI 22 0, hI 0 0, hR 69, hI 24 0, hI 0 0, hR 82, hI 26 0, hI 0 0, hR 94, hI 44 0, hI 0 0, hR 101, hI 152 0, hI 0 0, hR 170, hI 154 0, hI 0 0, hR 177, hI 156 0, hI 0 0, hR 184, hI 159 0, hI 0 0, hR 191, hI 172 0, hI 0 0, hR 196, hI 191 0, hI 0 0, hR 203, hI 205 0, hI 0 0, hR 210, hI 220 0, hI 0 0, hR 217, hI 246 0, hI 0 0, hR 222, hI 255 0, hI 0 0, hR 229, hI 262 0, hI 0 0, hR 234]) #[]
noncomputable def o165 (P : Params) : Obj := hT (#[]) #[]
noncomputable def o166 (P : Params) : Obj := Obj.mk hN none (.fields #[]) #[]
noncomputable def o167 (P : Params) : Obj := hT (#[hS "x" 600]) #[]
noncomputable def o168 (P : Params) : Obj := hT (#[]) #[]
noncomputable def o169 (P : Params) : Obj := Obj.mk hN none (.func (FuncData.mk (Str.ofString "ISTERMINAL") (Str.ofString "ISTERMINAL") (Arguments.mk [] [hA "x" (Pos.mk 152 15 152 16)] none [] [] none []) (.stmts (bodyOf (stN 66))) (scOf (stN 67)) 0 [] hN hN hN hN none hN hN 0)) #[]
noncomputable def o170 (P : Params) : Obj := hC (#[hS "ISTERMINAL" 597, hS "ISTERMINAL" 598, hS "/claim/cut.py" 599, hI 152 0, hI 1 0, hI 0 0, hI 0 0, hI 3 0, hR 165, .bool true, hI 181 0, hR 166, hN, hR 167, hR 168, hR 169, hI 601 0, hI 152 0, hS "/claim/cut.py" 602]) #[]
noncomputable def o171 (P : Params) : Obj := hF ((FuncData.mk (Str.ofString "ISTERMINAL") (Str.ofString "ISTERMINAL") (Arguments.mk [] [hA "x" (Pos.mk 152 15 152 16)] none [] [] none []) (.stmts (bodyOf (stN 66))) (scOf (stN 67)) 3 [] hN hN hN (hS "cpy313.token" 398) none (hR 170) hN 0)) #[]
noncomputable def o172 (P : Params) : Obj := hT (#[]) #[]
noncomputable def o173 (P : Params) : Obj := Obj.mk hN none (.fields #[]) #[]
noncomputable def o174 (P : Params) : Obj := hT (#[hS "x" 607]) #[]
noncomputable def o175 (P : Params) : Obj := hT (#[]) #[]
noncomputable def o176 (P : Params) : Obj := Obj.mk hN none (.func (FuncData.mk (Str.ofString "ISNONTERMINAL") (Str.ofString "ISNONTERMINAL") (Arguments.mk [] [hA "x" (Pos.mk 154 18 154 19)] none [] [] none []) (.stmts (bodyOf (stN 67))) (scOf (stN 67)) 0 [] hN hN hN hN none hN hN 0)) #[]
noncomputable def o177 (P : Params) : Obj := hC (#[hS "ISNONTERMINAL" 604, hS "ISNONTERMINAL" 605, hS "/claim/cut.py" 606, hI 154 0, hI 1 0, hI 0 0, hI 0 0, hI 3 0, hR 172, .bool true, hI 181 0, hR 173, hN, hR 174, hR 175, hR 176, hI 608 0, hI 154 0, hS "/claim/cut.py" 609]) #[]
noncomputable def o178 (P : Params) : Obj := hF ((FuncData.mk (Str.ofString "ISNONTERMINAL") (Str.ofString "ISNONTERMINAL") (Arguments.mk [] [hA "x" (Pos.mk 154 18 154 19)] none [] [] none []) (.stmts (bodyOf (stN 67))) (scOf (stN 67)) 3 [] hN hN hN (hS "cpy313.token" 398) none (hR 177) hN 0)) #[]
noncomputable def o179 (P : Params) : Obj := hT (#[]) #[]
noncomputable def o180 (P : Params) : Obj := Obj.mk hN none (.fields #[]) #[]
noncomputable def o181 (P : Params) : Obj := hT (#[hS "x" 614]) #[]
noncomputable def o182 (P : Params) : Obj := hT (#[]) #[]
noncomputable def o183 (P : Params) : Obj := Obj.mk hN none (.func (FuncData.mk (Str.ofString "ISEOF") (Str.ofString "ISEOF") (Arguments.mk [] [hA "x" (Pos.mk 156 10 156 11)] none [] [] none []) (.stmts (bodyOf (stN 68))) (scOf (stN 68)) 0 [] hN hN hN hN none hN hN 0)) #[]
noncomputable def o184 (P : Params) : Obj := hC (#[hS "ISEOF" 611, hS "ISEOF" 612, hS "/claim/cut.py" 613, hI 156 0, hI 1 0, hI 0 0, hI 0 0, hI 3 0, hR 179, .bool true, hI 181 0, hR 180, hN, hR 181, hR 182, hR 183, hI 615 0, hI 156 0, hS "/claim/cut.py" 616]) #[]
noncomputable def o185 (P : Params) : Obj := hF ((FuncData.mk (Str.ofString "ISEOF") (Str.ofString "ISEOF") (Arguments.mk [] [hA "x" (Pos.mk 156 10 156 11)] none [] [] none []) (.stmts (bodyOf (stN 68))) (scOf (stN 68)) 3 [] hN hN hN (hS "cpy313.token" 398) none (hR 184) hN 0)) #[]
noncomputable def o186 (P : Params) : Obj := hT (#[]) #[]
noncomputable def o187 (P : Params) : Obj := Obj.mk hN none (.fields #[]) #[]
noncomputable def o188 (P : Params) : Obj := hT (#[hS "what" 623, hS "far" 624, hS "place" 625, hS "marks" 626]) #[]
noncomputable def o189 (P : Params) : Obj := hT (#[]) #[]
noncomputable def o190 (P : Params) : Obj := Obj.mk hN none (.func (FuncData.mk (Str.ofString "_law_row") (Str.ofString "_law_row") (Arguments.mk [] [hA "what" (Pos.mk 159 13 159 17), hA "far" (Pos.mk 159 19 159 22), hA "place" (Pos.mk 159 24 159 29)] none [] [] none []) (.stmts (bodyOf (stN 70))) (scOf (stN 70)) 0 [] hN hN hN hN none hN hN 0)) #[]
noncomputable def o191 (P : Params) : Obj := hC (#[hS "_law_row" 620, hS "_law_row" 621, hS "/claim/cut.py" 622, hI 159 0, hI 3 0, hI 0 0, hI 0 0, hI 3 0, hR 186, .bool true, hI 181 0, hR 187, hN, hR 188, hR 189, hR 190, hI 627 0, hI 159 0, hS "/claim/cut.py" 628]) #[]
noncomputable def o192 (P : Params) : Obj := hF ((FuncData.mk (Str.ofString "_law_row") (Str.ofString "_law_row") (Arguments.mk [] [hA "what" (Pos.mk 159 13 159 17), hA "far" (Pos.mk 159 19 159 22), hA "place" (Pos.mk 159 24 159 29)] none [] [] none []) (.stmts (bodyOf (stN 70))) (scOf (stN 70)) 3 [] hN hN hN (hS "law_wo0070_01" 618) none (hR 191) hN 0)) #[]
noncomputable def o193 (P : Params) : Obj := hT (#[]) #[]
noncomputable def o194 (P : Params) : Obj := Obj.mk hN none (.fields #[]) #[]
noncomputable def o195 (P : Params) : Obj := Obj.mk hN none (.func (FuncData.mk (Str.ofString "_law_page") (Str.ofString "_law_page") (Arguments.mk [] [hA "cells" (Pos.mk 172 14 172 19)] none [] [] none []) (.stmts (bodyOf (stN 71))) (scOf (stN 71)) 0 [] hN hN hN hN none hN hN 0)) #[]
noncomputable def o196 (P : Params) : Obj := hC (#[hS "_law_page" 630, hS "_law_page" 631, hS "/claim/cut.py" 632, hI 172 0, hI 1 0, hI 0 0, hI 0 0, hI 3 0, hR 193, .bool true, hI 181 0, hR 194, hN, hN, hN, hR 195, hI 633 0, hI 172 0, hS "/claim/cut.py" 634]) #[]
noncomputable def o197 (P : Params) : Obj := hF ((FuncData.mk (Str.ofString "_law_page") (Str.ofString "_law_page") (Arguments.mk [] [hA "cells" (Pos.mk 172 14 172 19)] none [] [] none []) (.stmts (bodyOf (stN 71))) (scOf (stN 71)) 3 [] hN hN hN (hS "law_wo0070_01" 618) none (hR 196) hN 0)) #[]
noncomputable def o198 (P : Params) : Obj := hT (#[]) #[]
noncomputable def o199 (P : Params) : Obj := Obj.mk hN none (.fields #[]) #[]
noncomputable def o200 (P : Params) : Obj := hT (#[hS "text" 639, hS "place" 640, hS "size" 641, hS "name" 642, hS "fault" 643, hS "goal" 644]) #[]
noncomputable def o201 (P : Params) : Obj := hT (#[]) #[]
noncomputable def o202 (P : Params) : Obj := Obj.mk hN none (.func (FuncData.mk (Str.ofString "_law_held") (Str.ofString "_law_held") (Arguments.mk [] [hA "text" (Pos.mk 191 14 191 18), hA "place" (Pos.mk 191 20 191 25)] none [] [] none []) (.stmts (bodyOf (stN 72))) (scOf (stN 72)) 0 [] hN hN hN hN none hN hN 0)) #[]
noncomputable def o203 (P : Params) : Obj := hC (#[hS "_law_held" 636, hS "_law_held" 637, hS "/claim/cut.py" 638, hI 191 0, hI 2 0, hI 0 0, hI 0 0, hI 3 0, hR 198, .bool true, hI 181 0, hR 199, hN, hR 200, hR 201, hR 202, hI 645 0, hI 191 0, hS "/claim/cut.py" 646]) #[]
noncomputable def o204 (P : Params) : Obj := hF ((FuncData.mk (Str.ofString "_law_held") (Str.ofString "_law_held") (Arguments.mk [] [hA "text" (Pos.mk 191 14 191 18), hA "place" (Pos.mk 191 20 191 25)] none [] [] none []) (.stmts (bodyOf (stN 72))) (scOf (stN 72)) 3 [] hN hN hN (hS "law_wo0070_01" 618) none (hR 203) hN 0)) #[]
noncomputable def o205 (P : Params) : Obj := hT (#[]) #[]
noncomputable def o206 (P : Params) : Obj := Obj.mk hN none (.fields #[]) #[]
noncomputable def o207 (P : Params) : Obj := hT (#[hS "rows" 651, hS "leads" 652, hS "memory" 653, hS "line" 654, hS "k" 655, hS "lead" 656, hS "last" 657]) #[]
noncomputable def o208 (P : Params) : Obj := hT (#[]) #[]
noncomputable def o209 (P : Params) : Obj := Obj.mk hN none (.func (FuncData.mk (Str.ofString "_law_read") (Str.ofString "_law_read") (Arguments.mk [] [hA "rows" (Pos.mk 205 14 205 18)] none [] [] none []) (.stmts (bodyOf (stN 73))) (scOf (stN 73)) 0 [] hN hN hN hN none hN hN 0)) #[]
noncomputable def o210 (P : Params) : Obj := hC (#[hS "_law_read" 648, hS "_law_read" 649, hS "/claim/cut.py" 650, hI 205 0, hI 1 0, hI 0 0, hI 0 0, hI 3 0, hR 205, .bool true, hI 181 0, hR 206, hN, hR 207, hR 208, hR 209, hI 658 0, hI 205 0, hS "/claim/cut.py" 659]) #[]
noncomputable def o211 (P : Params) : Obj := hF ((FuncData.mk (Str.ofString "_law_read") (Str.ofString "_law_read") (Arguments.mk [] [hA "rows" (Pos.mk 205 14 205 18)] none [] [] none []) (.stmts (bodyOf (stN 73))) (scOf (stN 73)) 3 [] hN hN hN (hS "law_wo0070_01" 618) none (hR 210) hN 0)) #[]
noncomputable def o212 (P : Params) : Obj := hT (#[]) #[]
noncomputable def o213 (P : Params) : Obj := Obj.mk hN none (.fields #[]) #[]
noncomputable def o214 (P : Params) : Obj := hT (#[hS "memory" 664, hS "start" 665, hS "turns" 666, hS "met" 667, hS "stage" 668, hS "behind" 669, hS "at" 670, hS "turn" 671, hS "cell" 672, hS "goal" 673, hS "field" 674, hS "above" 675]) #[]
noncomputable def o215 (P : Params) : Obj := hT (#[]) #[]
noncomputable def o216 (P : Params) : Obj := Obj.mk hN none (.func (FuncData.mk (Str.ofString "_law_walk") (Str.ofString "_law_walk") (Arguments.mk [] [hA "memory" (Pos.mk 220 14 220 20), hA "start" (Pos.mk 220 22 220 27), hA "turns" (Pos.mk 220 29 220 34)] none [] [] none []) (.stmts (bodyOf (stN 74))) (scOf (stN 74)) 0 [] hN hN hN hN none hN hN 0)) #[]
noncomputable def o217 (P : Params) : Obj := hC (#[hS "_law_walk" 661, hS "_law_walk" 662, hS "/claim/cut.py" 663, hI 220 0, hI 3 0, hI 0 0, hI 0 0, hI 3 0, hR 212, .bool true, hI 181 0, hR 213, hN, hR 214, hR 215, hR 216, hI 676 0, hI 220 0, hS "/claim/cut.py" 677]) #[]
noncomputable def o218 (P : Params) : Obj := hF ((FuncData.mk (Str.ofString "_law_walk") (Str.ofString "_law_walk") (Arguments.mk [] [hA "memory" (Pos.mk 220 14 220 20), hA "start" (Pos.mk 220 22 220 27), hA "turns" (Pos.mk 220 29 220 34)] none [] [] none []) (.stmts (bodyOf (stN 74))) (scOf (stN 74)) 3 [] hN hN hN (hS "law_wo0070_01" 618) none (hR 217) hN 0)) #[]
noncomputable def o219 (P : Params) : Obj := hT (#[]) #[]
noncomputable def o220 (P : Params) : Obj := Obj.mk hN none (.fields #[]) #[]
noncomputable def o221 (P : Params) : Obj := Obj.mk hN none (.func (FuncData.mk (Str.ofString "_law_order") (Str.ofString "_law_order") (Arguments.mk [] [hA "due" (Pos.mk 246 15 246 18), hA "start" (Pos.mk 246 20 246 25)] none [] [] none []) (.stmts (bodyOf (stN 75))) (scOf (stN 75)) 0 [] hN hN hN hN none hN hN 0)) #[]
noncomputable def o222 (P : Params) : Obj := hC (#[hS "_law_order" 679, hS "_law_order" 680, hS "/claim/cut.py" 681, hI 246 0, hI 2 0, hI 0 0, hI 0 0, hI 3 0, hR 219, .bool true, hI 181 0, hR 220, hN, hN, hN, hR 221, hI 682 0, hI 246 0, hS "/claim/cut.py" 683]) #[]
noncomputable def o223 (P : Params) : Obj := hF ((FuncData.mk (Str.ofString "_law_order") (Str.ofString "_law_order") (Arguments.mk [] [hA "due" (Pos.mk 246 15 246 18), hA "start" (Pos.mk 246 20 246 25)] none [] [] none []) (.stmts (bodyOf (stN 75))) (scOf (stN 75)) 3 [] hN hN hN (hS "law_wo0070_01" 618) none (hR 222) hN 0)) #[]
noncomputable def o224 (P : Params) : Obj := hT (#[]) #[]
noncomputable def o225 (P : Params) : Obj := Obj.mk hN none (.fields #[]) #[]
noncomputable def o226 (P : Params) : Obj := hT (#[hS "kind" 688, hS "low" 689, hS "high" 690]) #[]
noncomputable def o227 (P : Params) : Obj := hT (#[]) #[]
noncomputable def o228 (P : Params) : Obj := Obj.mk hN none (.func (FuncData.mk (Str.ofString "_law_sorted") (Str.ofString "_law_sorted") (Arguments.mk [] [hA "kind" (Pos.mk 255 16 255 20)] none [] [] none []) (.stmts (bodyOf (stN 76))) (scOf (stN 76)) 0 [] hN hN hN hN none hN hN 0)) #[]
noncomputable def o229 (P : Params) : Obj := hC (#[hS "_law_sorted" 685, hS "_law_sorted" 686, hS "/claim/cut.py" 687, hI 255 0, hI 1 0, hI 0 0, hI 0 0, hI 3 0, hR 224, .bool true, hI 181 0, hR 225, hN, hR 226, hR 227, hR 228, hI 691 0, hI 255 0, hS "/claim/cut.py" 692]) #[]
noncomputable def o230 (P : Params) : Obj := hF ((FuncData.mk (Str.ofString "_law_sorted") (Str.ofString "_law_sorted") (Arguments.mk [] [hA "kind" (Pos.mk 255 16 255 20)] none [] [] none []) (.stmts (bodyOf (stN 76))) (scOf (stN 76)) 3 [] hN hN hN (hS "law_wo0070_01" 618) none (hR 229) hN 0)) #[]
noncomputable def o231 (P : Params) : Obj := hT (#[]) #[]
noncomputable def o232 (P : Params) : Obj := Obj.mk hN none (.fields #[]) #[]
noncomputable def o233 (P : Params) : Obj := Obj.mk hN none (.func (FuncData.mk (Str.ofString "law") (Str.ofString "law") (Arguments.mk [] [hA "script" (Pos.mk 262 8 262 14)] none [] [] none []) (.stmts (bodyOf (stN 77))) (scOf (stN 77)) 0 [] hN hN hN hN none hN hN 0)) #[]
noncomputable def o234 (P : Params) : Obj := hC (#[hS "law" 694, hS "law" 695, hS "/claim/cut.py" 696, hI 262 0, hI 1 0, hI 0 0, hI 0 0, hI 3 0, hR 231, .bool true, hI 181 0, hR 232, hN, hN, hN, hR 233, hI 697 0, hI 262 0, hS "/claim/cut.py" 698]) #[]
noncomputable def o235 (P : Params) : Obj := hF ((FuncData.mk (Str.ofString "law") (Str.ofString "law") (Arguments.mk [] [hA "script" (Pos.mk 262 8 262 14)] none [] [] none []) (.stmts (bodyOf (stN 77))) (scOf (stN 77)) 3 [] hN hN hN (hS "law_wo0070_01" 618) none (hR 234) hN 0)) #[]
noncomputable def LF : Life := Life.mk [] [] [] 0 [] [] false #[] [] 0 false false false 0 [2000, 10, 10] false 0 true [] [] 0 false
noncomputable def DW : Drawn := Drawn.mk 0 0 0 0
noncomputable def ANN : Option Value := some (hR 6)
noncomputable def T0 (P : Params) : BT := (.node (boot_o_0 P) (.node (boot_o_1 P) (.node (boot_o_3 P) (.node (boot_o_7 P) .nil .nil) (.node (o11 P) .nil .nil)) (.node (boot_o_5 P) (.node (boot_o_9 P) .nil .nil) (.node (o13 P) .nil .nil))) (.node (boot_o_2 P) (.node (boot_o_4 P) (.node (boot_o_8 P) .nil .nil) (.node (o12 P) .nil .nil)) (.node (boot_o_6 P) (.node (boot_o_10 P) .nil .nil) (.node (o14 P) .nil .nil))))
noncomputable def uu0 (w : World) (os : OsState) : SharedT := ⟨T0 w.params, 15, LF, Array.mk [], DW, 187, os⟩
noncomputable def T1 (P : Params) : BT := (.node (boot_o_0 P) (.node (boot_o_1 P) (.node (o3 P) (.node (boot_o_7 P) (.node (o15 P) (.node (o31 P) (.node (o63 P) .nil .nil) (.node (o95 P) .nil .nil)) (.node (o47 P) (.node (o79 P) .nil .nil) .nil)) (.node (o23 P) (.node (o39 P) (.node (o71 P) .nil .nil) .nil) (.node (o55 P) (.node (o87 P) .nil .nil) .nil))) (.node (o11 P) (.node (o19 P) (.node (o35 P) (.node (o67 P) .nil .nil) .nil) (.node (o51 P) (.node (o83 P) .nil .nil) .nil)) (.node (o27 P) (.node (o43 P) (.node (o75 P) .nil .nil) .nil) (.node (o59 P) (.node (o91 P) .nil .nil) .nil)))) (.node (boot_o_5 P) (.node (boot_o_9 P) (.node (o17 P) (.node (o33 P) (.node (o65 P) .nil .nil) .nil) (.node (o49 P) (.node (o81 P) .nil .nil) .nil)) (.node (o25 P) (.node (o41 P) (.node (o73 P) .nil .nil) .nil) (.node (o57 P) (.node (o89 P) .nil .nil) .nil))) (.node (o13 P) (.node (o21 P) (.node (o37 P) (.node (o69 P) .nil .nil) .nil) (.node (o53 P) (.node (o85 P) .nil .nil) .nil)) (.node (o29 P) (.node (o45 P) (.node (o77 P) .nil .nil) .nil) (.node (o61 P) (.node (o93 P) .nil .nil) .nil))))) (.node (o2 P) (.node (boot_o_4 P) (.node (boot_o_8 P) (.node (o16 P) (.node (o32 P) (.node (o64 P) .nil .nil) .nil) (.node (o48 P) (.node (o80 P) .nil .nil) .nil)) (.node (o24 P) (.node (o40 P) (.node (o72 P) .nil .nil) .nil) (.node (o56 P) (.node (o88 P) .nil .nil) .nil))) (.node (o12_1 P) (.node (o20 P) (.node (o36 P) (.node (o68 P) .nil .nil) .nil) (.node (o52 P) (.node (o84 P) .nil .nil) .nil)) (.node (o28 P) (.node (o44 P) (.node (o76 P) .nil .nil) .nil) (.node (o60 P) (.node (o92 P) .nil .nil) .nil)))) (.node (boot_o_6 P) (.node (boot_o_10 P) (.node (o18 P) (.node (o34 P) (.node (o66 P) .nil .nil) .nil) (.node (o50 P) (.node (o82 P) .nil .nil) .nil)) (.node (o26 P) (.node (o42 P) (.node (o74 P) .nil .nil) .nil) (.node (o58 P) (.node (o90 P) .nil .nil) .nil))) (.node (o14 P) (.node (o22 P) (.node (o38 P) (.node (o70 P) .nil .nil) .nil) (.node (o54 P) (.node (o86 P) .nil .nil) .nil)) (.node (o30 P) (.node (o46 P) (.node (o78 P) .nil .nil) .nil) (.node (o62 P) (.node (o94 P) .nil .nil) .nil))))))
noncomputable def uu1 (w : World) (os : OsState) : SharedT := ⟨T1 w.params, 96, LF, Array.mk [], DW, 298, os⟩
noncomputable def T2 (P : Params) : BT := (.node (boot_o_0 P) (.node (boot_o_1 P) (.node (o3_1 P) (.node (boot_o_7 P) (.node (o15 P) (.node (o31 P) (.node (o63 P) (.node (o127 P) .nil .nil) .nil) (.node (o95 P) (.node (o159 P) .nil .nil) .nil)) (.node (o47 P) (.node (o79 P) (.node (o143 P) .nil .nil) .nil) (.node (o111 P) .nil .nil))) (.node (o23 P) (.node (o39 P) (.node (o71 P) (.node (o135 P) .nil .nil) .nil) (.node (o103 P) .nil .nil)) (.node (o55 P) (.node (o87 P) (.node (o151 P) .nil .nil) .nil) (.node (o119 P) .nil .nil)))) (.node (o11 P) (.node (o19 P) (.node (o35 P) (.node (o67 P) (.node (o131 P) .nil .nil) .nil) (.node (o99 P) .nil .nil)) (.node (o51 P) (.node (o83 P) (.node (o147 P) .nil .nil) .nil) (.node (o115 P) .nil .nil))) (.node (o27 P) (.node (o43 P) (.node (o75 P) (.node (o139 P) .nil .nil) .nil) (.node (o107 P) .nil .nil)) (.node (o59 P) (.node (o91 P) (.node (o155 P) .nil .nil) .nil) (.node (o123 P) .nil .nil))))) (.node (boot_o_5 P) (.node (boot_o_9 P) (.node (o17 P) (.node (o33 P) (.node (o65 P) (.node (o129 P) .nil .nil) .nil) (.node (o97 P) (.node (o161 P) .nil .nil) .nil)) (.node (o49 P) (.node (o81 P) (.node (o145 P) .nil .nil) .nil) (.node (o113 P) .nil .nil))) (.node (o25 P) (.node (o41 P) (.node (o73 P) (.node (o137 P) .nil .nil) .nil) (.node (o105 P) .nil .nil)) (.node (o57 P) (.node (o89 P) (.node (o153 P) .nil .nil) .nil) (.node (o121 P) .nil .nil)))) (.node (o13 P) (.node (o21 P) (.node (o37 P) (.node (o69 P) (.node (o133 P) .nil .nil) .nil) (.node (o101 P) .nil .nil)) (.node (o53 P) (.node (o85 P) (.node (o149 P) .nil .nil) .nil) (.node (o117 P) .nil .nil))) (.node (o29 P) (.node (o45 P) (.node (o77 P) (.node (o141 P) .nil .nil) .nil) (.node (o109 P) .nil .nil)) (.node (o61 P) (.node (o93 P) (.node (o157 P) .nil .nil) .nil) (.node (o125 P) .nil .nil)))))) (.node (o2 P) (.node (boot_o_4 P) (.node (boot_o_8 P) (.node (o16 P) (.node (o32 P) (.node (o64 P) (.node (o128 P) .nil .nil) .nil) (.node (o96 P) (.node (o160 P) .nil .nil) .nil)) (.node (o48 P) (.node (o80 P) (.node (o144 P) .nil .nil) .nil) (.node (o112 P) .nil .nil))) (.node (o24 P) (.node (o40 P) (.node (o72 P) (.node (o136 P) .nil .nil) .nil) (.node (o104 P) .nil .nil)) (.node (o56 P) (.node (o88 P) (.node (o152 P) .nil .nil) .nil) (.node (o120 P) .nil .nil)))) (.node (o12_2 P) (.node (o20 P) (.node (o36 P) (.node (o68 P) (.node (o132 P) .nil .nil) .nil) (.node (o100 P) .nil .nil)) (.node (o52 P) (.node (o84 P) (.node (o148 P) .nil .nil) .nil) (.node (o116 P) .nil .nil))) (.node (o28 P) (.node (o44 P) (.node (o76 P) (.node (o140 P) .nil .nil) .nil) (.node (o108 P) .nil .nil)) (.node (o60 P) (.node (o92 P) (.node (o156 P) .nil .nil) .nil) (.node (o124 P) .nil .nil))))) (.node (boot_o_6 P) (.node (boot_o_10 P) (.node (o18 P) (.node (o34 P) (.node (o66 P) (.node (o130 P) .nil .nil) .nil) (.node (o98 P) .nil .nil)) (.node (o50 P) (.node (o82 P) (.node (o146 P) .nil .nil) .nil) (.node (o114 P) .nil .nil))) (.node (o26 P) (.node (o42 P) (.node (o74 P) (.node (o138 P) .nil .nil) .nil) (.node (o106 P) .nil .nil)) (.node (o58 P) (.node (o90 P) (.node (o154 P) .nil .nil) .nil) (.node (o122 P) .nil .nil)))) (.node (o14 P) (.node (o22 P) (.node (o38 P) (.node (o70 P) (.node (o134 P) .nil .nil) .nil) (.node (o102 P) .nil .nil)) (.node (o54 P) (.node (o86 P) (.node (o150 P) .nil .nil) .nil) (.node (o118 P) .nil .nil))) (.node (o30 P) (.node (o46 P) (.node (o78 P) (.node (o142 P) .nil .nil) .nil) (.node (o110 P) .nil .nil)) (.node (o62 P) (.node (o94 P) (.node (o158 P) .nil .nil) .nil) (.node (o126 P) .nil .nil)))))))
noncomputable def uu2 (w : World) (os : OsState) : SharedT := ⟨T2 w.params, 162, LF, Array.mk [], DW, 398, os⟩
noncomputable def T3 (P : Params) : BT := (.node (boot_o_0 P) (.node (boot_o_1 P) (.node (o3_2 P) (.node (boot_o_7 P) (.node (o15 P) (.node (o31 P) (.node (o63 P) (.node (o127 P) .nil .nil) .nil) (.node (o95 P) (.node (o159 P) .nil .nil) .nil)) (.node (o47 P) (.node (o79 P) (.node (o143 P) .nil .nil) .nil) (.node (o111 P) .nil .nil))) (.node (o23 P) (.node (o39 P) (.node (o71 P) (.node (o135 P) .nil .nil) .nil) (.node (o103 P) .nil .nil)) (.node (o55 P) (.node (o87 P) (.node (o151 P) .nil .nil) .nil) (.node (o119 P) .nil .nil)))) (.node (o11 P) (.node (o19 P) (.node (o35 P) (.node (o67 P) (.node (o131 P) .nil .nil) .nil) (.node (o99 P) .nil .nil)) (.node (o51 P) (.node (o83 P) (.node (o147 P) .nil .nil) .nil) (.node (o115 P) .nil .nil))) (.node (o27 P) (.node (o43 P) (.node (o75 P) (.node (o139 P) .nil .nil) .nil) (.node (o107 P) .nil .nil)) (.node (o59 P) (.node (o91 P) (.node (o155 P) .nil .nil) .nil) (.node (o123 P) .nil .nil))))) (.node (boot_o_5 P) (.node (boot_o_9 P) (.node (o17 P) (.node (o33 P) (.node (o65 P) (.node (o129 P) .nil .nil) .nil) (.node (o97 P) (.node (o161 P) .nil .nil) .nil)) (.node (o49 P) (.node (o81 P) (.node (o145 P) .nil .nil) .nil) (.node (o113 P) .nil .nil))) (.node (o25 P) (.node (o41 P) (.node (o73 P) (.node (o137 P) .nil .nil) .nil) (.node (o105 P) .nil .nil)) (.node (o57 P) (.node (o89 P) (.node (o153 P) .nil .nil) .nil) (.node (o121 P) .nil .nil)))) (.node (o13 P) (.node (o21 P) (.node (o37 P) (.node (o69 P) (.node (o133 P) .nil .nil) .nil) (.node (o101 P) .nil .nil)) (.node (o53 P) (.node (o85 P) (.node (o149 P) .nil .nil) .nil) (.node (o117 P) .nil .nil))) (.node (o29 P) (.node (o45 P) (.node (o77 P) (.node (o141 P) .nil .nil) .nil) (.node (o109 P) .nil .nil)) (.node (o61 P) (.node (o93 P) (.node (o157 P) .nil .nil) .nil) (.node (o125 P) .nil .nil)))))) (.node (o2 P) (.node (boot_o_4 P) (.node (boot_o_8 P) (.node (o16 P) (.node (o32 P) (.node (o64 P) (.node (o128 P) .nil .nil) .nil) (.node (o96 P) (.node (o160 P) .nil .nil) .nil)) (.node (o48 P) (.node (o80 P) (.node (o144 P) .nil .nil) .nil) (.node (o112 P) .nil .nil))) (.node (o24 P) (.node (o40 P) (.node (o72 P) (.node (o136 P) .nil .nil) .nil) (.node (o104 P) .nil .nil)) (.node (o56 P) (.node (o88 P) (.node (o152 P) .nil .nil) .nil) (.node (o120 P) .nil .nil)))) (.node (o12_2 P) (.node (o20 P) (.node (o36 P) (.node (o68 P) (.node (o132 P) .nil .nil) .nil) (.node (o100 P) .nil .nil)) (.node (o52 P) (.node (o84 P) (.node (o148 P) .nil .nil) .nil) (.node (o116 P) .nil .nil))) (.node (o28 P) (.node (o44 P) (.node (o76 P) (.node (o140 P) .nil .nil) .nil) (.node (o108 P) .nil .nil)) (.node (o60 P) (.node (o92 P) (.node (o156 P) .nil .nil) .nil) (.node (o124 P) .nil .nil))))) (.node (boot_o_6 P) (.node (boot_o_10 P) (.node (o18 P) (.node (o34 P) (.node (o66 P) (.node (o130 P) .nil .nil) .nil) (.node (o98 P) .nil .nil)) (.node (o50 P) (.node (o82 P) (.node (o146 P) .nil .nil) .nil) (.node (o114 P) .nil .nil))) (.node (o26 P) (.node (o42 P) (.node (o74 P) (.node (o138 P) .nil .nil) .nil) (.node (o106 P) .nil .nil)) (.node (o58 P) (.node (o90 P) (.node (o154 P) .nil .nil) .nil) (.node (o122 P) .nil .nil)))) (.node (o14 P) (.node (o22 P) (.node (o38 P) (.node (o70 P) (.node (o134 P) .nil .nil) .nil) (.node (o102 P) .nil .nil)) (.node (o54 P) (.node (o86 P) (.node (o150 P) .nil .nil) .nil) (.node (o118 P) .nil .nil))) (.node (o30 P) (.node (o46 P) (.node (o78 P) (.node (o142 P) .nil .nil) .nil) (.node (o110 P) .nil .nil)) (.node (o62 P) (.node (o94 P) (.node (o158 P) .nil .nil) .nil) (.node (o126 P) .nil .nil)))))))
noncomputable def uu3 (w : World) (os : OsState) : SharedT := ⟨T3 w.params, 162, LF, Array.mk [], DW, 500, os⟩
noncomputable def T4 (P : Params) : BT := (.node (boot_o_0 P) (.node (boot_o_1 P) (.node (o3_3 P) (.node (boot_o_7 P) (.node (o15 P) (.node (o31 P) (.node (o63 P) (.node (o127 P) .nil .nil) .nil) (.node (o95 P) (.node (o159 P) .nil .nil) .nil)) (.node (o47 P) (.node (o79 P) (.node (o143 P) .nil .nil) .nil) (.node (o111 P) .nil .nil))) (.node (o23 P) (.node (o39 P) (.node (o71 P) (.node (o135 P) .nil .nil) .nil) (.node (o103 P) .nil .nil)) (.node (o55 P) (.node (o87 P) (.node (o151 P) .nil .nil) .nil) (.node (o119 P) .nil .nil)))) (.node (o11 P) (.node (o19 P) (.node (o35 P) (.node (o67 P) (.node (o131 P) .nil .nil) .nil) (.node (o99 P) (.node (o163 P) .nil .nil) .nil)) (.node (o51 P) (.node (o83 P) (.node (o147 P) .nil .nil) .nil) (.node (o115 P) .nil .nil))) (.node (o27 P) (.node (o43 P) (.node (o75 P) (.node (o139 P) .nil .nil) .nil) (.node (o107 P) .nil .nil)) (.node (o59 P) (.node (o91 P) (.node (o155 P) .nil .nil) .nil) (.node (o123 P) .nil .nil))))) (.node (boot_o_5 P) (.node (boot_o_9 P) (.node (o17 P) (.node (o33 P) (.node (o65 P) (.node (o129 P) .nil .nil) .nil) (.node (o97 P) (.node (o161 P) .nil .nil) .nil)) (.node (o49 P) (.node (o81 P) (.node (o145 P) .nil .nil) .nil) (.node (o113 P) .nil .nil))) (.node (o25 P) (.node (o41 P) (.node (o73 P) (.node (o137 P) .nil .nil) .nil) (.node (o105 P) .nil .nil)) (.node (o57 P) (.node (o89 P) (.node (o153 P) .nil .nil) .nil) (.node (o121 P) .nil .nil)))) (.node (o13 P) (.node (o21 P) (.node (o37 P) (.node (o69 P) (.node (o133 P) .nil .nil) .nil) (.node (o101 P) .nil .nil)) (.node (o53 P) (.node (o85 P) (.node (o149 P) .nil .nil) .nil) (.node (o117 P) .nil .nil))) (.node (o29 P) (.node (o45 P) (.node (o77 P) (.node (o141 P) .nil .nil) .nil) (.node (o109 P) .nil .nil)) (.node (o61 P) (.node (o93 P) (.node (o157 P) .nil .nil) .nil) (.node (o125 P) .nil .nil)))))) (.node (o2 P) (.node (boot_o_4 P) (.node (boot_o_8 P) (.node (o16 P) (.node (o32 P) (.node (o64 P) (.node (o128 P) .nil .nil) .nil) (.node (o96 P) (.node (o160 P) .nil .nil) .nil)) (.node (o48 P) (.node (o80 P) (.node (o144 P) .nil .nil) .nil) (.node (o112 P) .nil .nil))) (.node (o24 P) (.node (o40 P) (.node (o72 P) (.node (o136 P) .nil .nil) .nil) (.node (o104 P) .nil .nil)) (.node (o56 P) (.node (o88 P) (.node (o152 P) .nil .nil) .nil) (.node (o120 P) .nil .nil)))) (.node (o12_2 P) (.node (o20 P) (.node (o36 P) (.node (o68 P) (.node (o132 P) .nil .nil) .nil) (.node (o100 P) (.node (o164 P) .nil .nil) .nil)) (.node (o52 P) (.node (o84 P) (.node (o148 P) .nil .nil) .nil) (.node (o116 P) .nil .nil))) (.node (o28 P) (.node (o44 P) (.node (o76 P) (.node (o140 P) .nil .nil) .nil) (.node (o108 P) .nil .nil)) (.node (o60 P) (.node (o92 P) (.node (o156 P) .nil .nil) .nil) (.node (o124 P) .nil .nil))))) (.node (boot_o_6 P) (.node (boot_o_10 P) (.node (o18 P) (.node (o34 P) (.node (o66 P) (.node (o130 P) .nil .nil) .nil) (.node (o98 P) (.node (o162 P) .nil .nil) .nil)) (.node (o50 P) (.node (o82 P) (.node (o146 P) .nil .nil) .nil) (.node (o114 P) .nil .nil))) (.node (o26 P) (.node (o42 P) (.node (o74 P) (.node (o138 P) .nil .nil) .nil) (.node (o106 P) .nil .nil)) (.node (o58 P) (.node (o90 P) (.node (o154 P) .nil .nil) .nil) (.node (o122 P) .nil .nil)))) (.node (o14 P) (.node (o22 P) (.node (o38 P) (.node (o70 P) (.node (o134 P) .nil .nil) .nil) (.node (o102 P) .nil .nil)) (.node (o54 P) (.node (o86 P) (.node (o150 P) .nil .nil) .nil) (.node (o118 P) .nil .nil))) (.node (o30 P) (.node (o46 P) (.node (o78 P) (.node (o142 P) .nil .nil) .nil) (.node (o110 P) .nil .nil)) (.node (o62 P) (.node (o94 P) (.node (o158 P) .nil .nil) .nil) (.node (o126 P) .nil .nil)))))))
noncomputable def uu4 (w : World) (os : OsState) : SharedT := ⟨T4 w.params, 165, LF, Array.mk [], DW, 597, os⟩
noncomputable def T5 (P : Params) : BT := (.node (boot_o_0 P) (.node (boot_o_1 P) (.node (o3_4 P) (.node (boot_o_7 P) (.node (o15 P) (.node (o31 P) (.node (o63 P) (.node (o127 P) .nil .nil) (.node (o191 P) .nil .nil)) (.node (o95 P) (.node (o159 P) .nil .nil) (.node (o223 P) .nil .nil))) (.node (o47 P) (.node (o79 P) (.node (o143 P) .nil .nil) (.node (o207 P) .nil .nil)) (.node (o111 P) (.node (o175 P) .nil .nil) .nil))) (.node (o23 P) (.node (o39 P) (.node (o71 P) (.node (o135 P) .nil .nil) (.node (o199 P) .nil .nil)) (.node (o103 P) (.node (o167 P) .nil .nil) (.node (o231 P) .nil .nil))) (.node (o55 P) (.node (o87 P) (.node (o151 P) .nil .nil) (.node (o215 P) .nil .nil)) (.node (o119 P) (.node (o183 P) .nil .nil) .nil)))) (.node (o11 P) (.node (o19 P) (.node (o35 P) (.node (o67 P) (.node (o131 P) .nil .nil) (.node (o195 P) .nil .nil)) (.node (o99 P) (.node (o163 P) .nil .nil) (.node (o227 P) .nil .nil))) (.node (o51 P) (.node (o83 P) (.node (o147 P) .nil .nil) (.node (o211 P) .nil .nil)) (.node (o115 P) (.node (o179 P) .nil .nil) .nil))) (.node (o27 P) (.node (o43 P) (.node (o75 P) (.node (o139 P) .nil .nil) (.node (o203 P) .nil .nil)) (.node (o107 P) (.node (o171 P) .nil .nil) (.node (o235 P) .nil .nil))) (.node (o59 P) (.node (o91 P) (.node (o155 P) .nil .nil) (.node (o219 P) .nil .nil)) (.node (o123 P) (.node (o187 P) .nil .nil) .nil))))) (.node (boot_o_5 P) (.node (boot_o_9 P) (.node (o17 P) (.node (o33 P) (.node (o65 P) (.node (o129 P) .nil .nil) (.node (o193 P) .nil .nil)) (.node (o97 P) (.node (o161 P) .nil .nil) (.node (o225 P) .nil .nil))) (.node (o49 P) (.node (o81 P) (.node (o145 P) .nil .nil) (.node (o209 P) .nil .nil)) (.node (o113 P) (.node (o177 P) .nil .nil) .nil))) (.node (o25 P) (.node (o41 P) (.node (o73 P) (.node (o137 P) .nil .nil) (.node (o201 P) .nil .nil)) (.node (o105 P) (.node (o169 P) .nil .nil) (.node (o233 P) .nil .nil))) (.node (o57 P) (.node (o89 P) (.node (o153 P) .nil .nil) (.node (o217 P) .nil .nil)) (.node (o121 P) (.node (o185 P) .nil .nil) .nil)))) (.node (o13 P) (.node (o21 P) (.node (o37 P) (.node (o69 P) (.node (o133 P) .nil .nil) (.node (o197 P) .nil .nil)) (.node (o101 P) (.node (o165 P) .nil .nil) (.node (o229 P) .nil .nil))) (.node (o53 P) (.node (o85 P) (.node (o149 P) .nil .nil) (.node (o213 P) .nil .nil)) (.node (o117 P) (.node (o181 P) .nil .nil) .nil))) (.node (o29 P) (.node (o45 P) (.node (o77 P) (.node (o141 P) .nil .nil) (.node (o205 P) .nil .nil)) (.node (o109 P) (.node (o173 P) .nil .nil) .nil)) (.node (o61 P) (.node (o93 P) (.node (o157 P) .nil .nil) (.node (o221 P) .nil .nil)) (.node (o125 P) (.node (o189 P) .nil .nil) .nil)))))) (.node (o2 P) (.node (boot_o_4 P) (.node (boot_o_8 P) (.node (o16 P) (.node (o32 P) (.node (o64 P) (.node (o128 P) .nil .nil) (.node (o192 P) .nil .nil)) (.node (o96 P) (.node (o160 P) .nil .nil) (.node (o224 P) .nil .nil))) (.node (o48 P) (.node (o80 P) (.node (o144 P) .nil .nil) (.node (o208 P) .nil .nil)) (.node (o112 P) (.node (o176 P) .nil .nil) .nil))) (.node (o24 P) (.node (o40 P) (.node (o72 P) (.node (o136 P) .nil .nil) (.node (o200 P) .nil .nil)) (.node (o104 P) (.node (o168 P) .nil .nil) (.node (o232 P) .nil .nil))) (.node (o56 P) (.node (o88 P) (.node (o152 P) .nil .nil) (.node (o216 P) .nil .nil)) (.node (o120 P) (.node (o184 P) .nil .nil) .nil)))) (.node (o12_3 P) (.node (o20 P) (.node (o36 P) (.node (o68 P) (.node (o132 P) .nil .nil) (.node (o196 P) .nil .nil)) (.node (o100 P) (.node (o164 P) .nil .nil) (.node (o228 P) .nil .nil))) (.node (o52 P) (.node (o84 P) (.node (o148 P) .nil .nil) (.node (o212 P) .nil .nil)) (.node (o116 P) (.node (o180 P) .nil .nil) .nil))) (.node (o28 P) (.node (o44 P) (.node (o76 P) (.node (o140 P) .nil .nil) (.node (o204 P) .nil .nil)) (.node (o108 P) (.node (o172 P) .nil .nil) .nil)) (.node (o60 P) (.node (o92 P) (.node (o156 P) .nil .nil) (.node (o220 P) .nil .nil)) (.node (o124 P) (.node (o188 P) .nil .nil) .nil))))) (.node (boot_o_6 P) (.node (boot_o_10 P) (.node (o18 P) (.node (o34 P) (.node (o66 P) (.node (o130 P) .nil .nil) (.node (o194 P) .nil .nil)) (.node (o98 P) (.node (o162 P) .nil .nil) (.node (o226 P) .nil .nil))) (.node (o50 P) (.node (o82 P) (.node (o146 P) .nil .nil) (.node (o210 P) .nil .nil)) (.node (o114 P) (.node (o178 P) .nil .nil) .nil))) (.node (o26 P) (.node (o42 P) (.node (o74 P) (.node (o138 P) .nil .nil) (.node (o202 P) .nil .nil)) (.node (o106 P) (.node (o170 P) .nil .nil) (.node (o234 P) .nil .nil))) (.node (o58 P) (.node (o90 P) (.node (o154 P) .nil .nil) (.node (o218 P) .nil .nil)) (.node (o122 P) (.node (o186 P) .nil .nil) .nil)))) (.node (o14 P) (.node (o22 P) (.node (o38 P) (.node (o70 P) (.node (o134 P) .nil .nil) (.node (o198 P) .nil .nil)) (.node (o102 P) (.node (o166 P) .nil .nil) (.node (o230 P) .nil .nil))) (.node (o54 P) (.node (o86 P) (.node (o150 P) .nil .nil) (.node (o214 P) .nil .nil)) (.node (o118 P) (.node (o182 P) .nil .nil) .nil))) (.node (o30 P) (.node (o46 P) (.node (o78 P) (.node (o142 P) .nil .nil) (.node (o206 P) .nil .nil)) (.node (o110 P) (.node (o174 P) .nil .nil) .nil)) (.node (o62 P) (.node (o94 P) (.node (o158 P) .nil .nil) (.node (o222 P) .nil .nil)) (.node (o126 P) (.node (o190 P) .nil .nil) .nil)))))))
noncomputable def uu5 (w : World) (os : OsState) : SharedT := ⟨T5 w.params, 236, LF, Array.mk [], DW, 700, os⟩
noncomputable def H1 (P : Params) : Heap := ⟨Array.mk [boot_o_0 P, boot_o_1 P, o2 P, o3_4 P, boot_o_4 P, boot_o_5 P, boot_o_6 P, boot_o_7 P, boot_o_8 P, boot_o_9 P, boot_o_10 P, o11 P, o12_3 P, o13 P, o14 P, o15 P, o16 P, o17 P, o18 P, o19 P, o20 P, o21 P, o22 P, o23 P, o24 P, o25 P, o26 P, o27 P, o28 P, o29 P, o30 P, o31 P, o32 P, o33 P, o34 P, o35 P, o36 P, o37 P, o38 P, o39 P, o40 P, o41 P, o42 P, o43 P, o44 P, o45 P, o46 P, o47 P, o48 P, o49 P, o50 P, o51 P, o52 P, o53 P, o54 P, o55 P, o56 P, o57 P, o58 P, o59 P, o60 P, o61 P, o62 P, o63 P, o64 P, o65 P, o66 P, o67 P, o68 P, o69 P, o70 P, o71 P, o72 P, o73 P, o74 P, o75 P, o76 P, o77 P, o78 P, o79 P, o80 P, o81 P, o82 P, o83 P, o84 P, o85 P, o86 P, o87 P, o88 P, o89 P, o90 P, o91 P, o92 P, o93 P, o94 P, o95 P, o96 P, o97 P, o98 P, o99 P, o100 P, o101 P, o102 P, o103 P, o104 P, o105 P, o106 P, o107 P, o108 P, o109 P, o110 P, o111 P, o112 P, o113 P, o114 P, o115 P, o116 P, o117 P, o118 P, o119 P, o120 P, o121 P, o122 P, o123 P, o124 P, o125 P, o126 P, o127 P, o128 P, o129 P, o130 P, o131 P, o132 P, o133 P, o134 P, o135 P, o136 P, o137 P, o138 P, o139 P, o140 P, o141 P, o142 P, o143 P, o144 P, o145 P, o146 P, o147 P, o148 P, o149 P, o150 P, o151 P, o152 P, o153 P, o154 P, o155 P, o156 P, o157 P, o158 P, o159 P, o160 P, o161 P, o162 P, o163 P, o164 P, o165 P, o166 P, o167 P, o168 P, o169 P, o170 P, o171 P, o172 P, o173 P, o174 P, o175 P, o176 P, o177 P, o178 P, o179 P, o180 P, o181 P, o182 P, o183 P, o184 P, o185 P, o186 P, o187 P, o188 P, o189 P, o190 P, o191 P, o192 P, o193 P, o194 P, o195 P, o196 P, o197 P, o198 P, o199 P, o200 P, o201 P, o202 P, o203 P, o204 P, o205 P, o206 P, o207 P, o208 P, o209 P, o210 P, o211 P, o212 P, o213 P, o214 P, o215 P, o216 P, o217 P, o218 P, o219 P, o220 P, o221 P, o222 P, o223 P, o224 P, o225 P, o226 P, o227 P, o228 P, o229 P, o230 P, o231 P, o232 P, o233 P, o234 P, o235 P], LF⟩
noncomputable def UF (w : World) (os : OsState) : Shared := ⟨H1 w.params, Array.mk [], DW, 700, os⟩
noncomputable def US (w : World) (os : OsState) : Shared := ⟨boot_heap w.params, Array.mk [], boot_drawn, boot_toks, os⟩
noncomputable abbrev PW : Program := PySem.Challenge.pw_wo0070_01
noncomputable def bE : List Stmt := behindTheImports PW
noncomputable def ev : Env := { scope := PW.main.scope, locals := mainNs, globals := mainNs, cells := [], code := hR 13, frame := some 14 }
noncomputable def cE : Code := .body bE ev
noncomputable abbrev B0 : List Frame := [topFrame (Pos.mk 0 0 0 0)]
noncomputable def hr0 : List Stmt := bE
noncomputable def l1 : List Stmt := hr0.take 13
noncomputable def hr1 : List Stmt := hr0.drop 13
noncomputable def l2 : List Stmt := hr1.take 1
noncomputable def hr2 : List Stmt := hr1.drop 1
noncomputable def l3 : List Stmt := hr2.take 51
noncomputable def hr3 : List Stmt := hr2.drop 51
noncomputable def l4 : List Stmt := hr3.take 1
noncomputable def hr4 : List Stmt := hr3.drop 1
noncomputable def l5 : List Stmt := hr4.take 12
noncomputable def hr5 : List Stmt := hr4.drop 12
noncomputable abbrev ROW : String := "special-get-raises"
theorem q_pre (w : World) (os : OsState) : PySem.W.Fast.tw15667345088766844465 PySem.W.Fast.tw14364793385576792824 PW w 11 ANN 12 (US w os) (topStub PW) = some ((uu0 w os).abs, ⟨PySem.W.Fast.tw11892475500146522536 PySem.W.Fast.tw14364793385576792824 cE, cE, (Pos.mk 0 0 0 0), B0⟩) := by kernel_rfl
theorem k_pre (w : World) (os : OsState) : topGo treeTable PW w 11 ANN 12 (US w os) (topStub PW) = some ((uu0 w os).abs, ⟨denote treeTable cE, cE, (Pos.mk 0 0 0 0), B0⟩) := by
  rw [PySem.W.Fast.te15667345088766844465, PySem.W.Fast.te14364793385576792824, PySem.W.Fast.te11892475500146522536]; exact q_pre w os
theorem k_block (w : World) (os : OsState) : segRun treeTable PW w 11 ANN 1 1 (uu0 w os).abs (blockOf bE ev cE (Pos.mk 0 0 0 0) B0) = some (.next, (uu0 w os).abs, cE, (Pos.mk 0 0 0 0)) := by kernel_rfl
theorem q_1 (w : World) (os : OsState) : PySem.W.Fast.tw10110043849684766642 PySem.W.Fast.tw14364793385576792824 PW w 11 ANN 1 682 (uu0 w os) ⟨(PySem.W.Fast.tw12563942051412417395 l1 ev).wrap doneF deadEnd id id, cE, (Pos.mk 0 0 0 0), B0⟩ = some (.next, uu1 w os, cE, (Pos.mk 43 0 43 8)) := by kernel_rfl
theorem k_1 (w : World) (os : OsState) : segRun treeTable PW w 11 ANN 1 682 (uu0 w os).abs (piecesOf l1 ev cE (Pos.mk 0 0 0 0) B0) = some (.next, (uu1 w os).abs, cE, (Pos.mk 43 0 43 8)) := by
  refine segRun_of ?_
  show segRunT treeTable PW w 11 ANN 1 682 (uu0 w os) ⟨(execs l1 ev).wrap doneF deadEnd id id, cE, (Pos.mk 0 0 0 0), B0⟩ = _
  rw [PySem.W.Fast.te10110043849684766642, PySem.W.Fast.te14364793385576792824, PySem.W.Fast.te12563942051412417395]; exact q_1 w os
theorem q_2f (w : World) (os : OsState) : PySem.W.Fast.tw10110043849684766642 PySem.W.Fast.tw14364793385576792824 PW (w.withFollow ROW false) 11 ANN 1 493 (uu1 (w.withFollow ROW false) os) ⟨(PySem.W.Fast.tw12563942051412417395 l2 ev).wrap doneF deadEnd id id, cE, (Pos.mk 43 0 43 8), B0⟩ = some (.next, uu2 (w.withFollow ROW false) os, cE, (Pos.mk 44 0 99 16)) := by kernel_rfl
theorem q_2t (w : World) (os : OsState) : PySem.W.Fast.tw10110043849684766642 PySem.W.Fast.tw14364793385576792824 PW (w.withFollow ROW true) 11 ANN 1 493 (uu1 (w.withFollow ROW true) os) ⟨(PySem.W.Fast.tw12563942051412417395 l2 ev).wrap doneF deadEnd id id, cE, (Pos.mk 43 0 43 8), B0⟩ = some (.next, uu2 (w.withFollow ROW true) os, cE, (Pos.mk 44 0 99 16)) := by kernel_rfl
theorem q_2 (w : World) : ∀ os : OsState, PySem.W.Fast.tw10110043849684766642 PySem.W.Fast.tw14364793385576792824 PW w 11 ANN 1 493 (uu1 w os) ⟨(PySem.W.Fast.tw12563942051412417395 l2 ev).wrap doneF deadEnd id id, cE, (Pos.mk 43 0 43 8), B0⟩ = some (.next, uu2 w os, cE, (Pos.mk 44 0 99 16)) :=
  byRow2 ROW (P := fun w => ∀ os : OsState, PySem.W.Fast.tw10110043849684766642 PySem.W.Fast.tw14364793385576792824 PW w 11 ANN 1 493 (uu1 w os) ⟨(PySem.W.Fast.tw12563942051412417395 l2 ev).wrap doneF deadEnd id id, cE, (Pos.mk 43 0 43 8), B0⟩ = some (.next, uu2 w os, cE, (Pos.mk 44 0 99 16))) (fun w os => q_2f w os) (fun w os => q_2t w os) w
theorem k_2 (w : World) (os : OsState) : segRun treeTable PW w 11 ANN 1 493 (uu1 w os).abs (piecesOf l2 ev cE (Pos.mk 43 0 43 8) B0) = some (.next, (uu2 w os).abs, cE, (Pos.mk 44 0 99 16)) := by
  refine segRun_of ?_
  show segRunT treeTable PW w 11 ANN 1 493 (uu1 w os) ⟨(execs l2 ev).wrap doneF deadEnd id id, cE, (Pos.mk 43 0 43 8), B0⟩ = _
  rw [PySem.W.Fast.te10110043849684766642, PySem.W.Fast.te14364793385576792824, PySem.W.Fast.te12563942051412417395]; exact q_2 w os
theorem q_3 (w : World) (os : OsState) : PySem.W.Fast.tw10110043849684766642 PySem.W.Fast.tw14364793385576792824 PW w 11 ANN 1 460 (uu2 w os) ⟨(PySem.W.Fast.tw12563942051412417395 l3 ev).wrap doneF deadEnd id id, cE, (Pos.mk 44 0 99 16), B0⟩ = some (.next, uu3 w os, cE, (Pos.mk 150 0 150 9)) := by kernel_rfl
theorem k_3 (w : World) (os : OsState) : segRun treeTable PW w 11 ANN 1 460 (uu2 w os).abs (piecesOf l3 ev cE (Pos.mk 44 0 99 16) B0) = some (.next, (uu3 w os).abs, cE, (Pos.mk 150 0 150 9)) := by
  refine segRun_of ?_
  show segRunT treeTable PW w 11 ANN 1 460 (uu2 w os) ⟨(execs l3 ev).wrap doneF deadEnd id id, cE, (Pos.mk 44 0 99 16), B0⟩ = _
  rw [PySem.W.Fast.te10110043849684766642, PySem.W.Fast.te14364793385576792824, PySem.W.Fast.te12563942051412417395]; exact q_3 w os
theorem q_4f (w : World) (os : OsState) : PySem.W.Fast.tw10110043849684766642 PySem.W.Fast.tw14364793385576792824 PW (w.withFollow ROW false) 11 ANN 1 979 (uu3 (w.withFollow ROW false) os) ⟨(PySem.W.Fast.tw12563942051412417395 l4 ev).wrap doneF deadEnd id id, cE, (Pos.mk 150 0 150 9), B0⟩ = some (.next, uu4 (w.withFollow ROW false) os, cE, (Pos.mk 151 0 151 17)) := by kernel_rfl
theorem q_4t (w : World) (os : OsState) : PySem.W.Fast.tw10110043849684766642 PySem.W.Fast.tw14364793385576792824 PW (w.withFollow ROW true) 11 ANN 1 979 (uu3 (w.withFollow ROW true) os) ⟨(PySem.W.Fast.tw12563942051412417395 l4 ev).wrap doneF deadEnd id id, cE, (Pos.mk 150 0 150 9), B0⟩ = some (.next, uu4 (w.withFollow ROW true) os, cE, (Pos.mk 151 0 151 17)) := by kernel_rfl
theorem q_4 (w : World) : ∀ os : OsState, PySem.W.Fast.tw10110043849684766642 PySem.W.Fast.tw14364793385576792824 PW w 11 ANN 1 979 (uu3 w os) ⟨(PySem.W.Fast.tw12563942051412417395 l4 ev).wrap doneF deadEnd id id, cE, (Pos.mk 150 0 150 9), B0⟩ = some (.next, uu4 w os, cE, (Pos.mk 151 0 151 17)) :=
  byRow2 ROW (P := fun w => ∀ os : OsState, PySem.W.Fast.tw10110043849684766642 PySem.W.Fast.tw14364793385576792824 PW w 11 ANN 1 979 (uu3 w os) ⟨(PySem.W.Fast.tw12563942051412417395 l4 ev).wrap doneF deadEnd id id, cE, (Pos.mk 150 0 150 9), B0⟩ = some (.next, uu4 w os, cE, (Pos.mk 151 0 151 17))) (fun w os => q_4f w os) (fun w os => q_4t w os) w
theorem k_4 (w : World) (os : OsState) : segRun treeTable PW w 11 ANN 1 979 (uu3 w os).abs (piecesOf l4 ev cE (Pos.mk 150 0 150 9) B0) = some (.next, (uu4 w os).abs, cE, (Pos.mk 151 0 151 17)) := by
  refine segRun_of ?_
  show segRunT treeTable PW w 11 ANN 1 979 (uu3 w os) ⟨(execs l4 ev).wrap doneF deadEnd id id, cE, (Pos.mk 150 0 150 9), B0⟩ = _
  rw [PySem.W.Fast.te10110043849684766642, PySem.W.Fast.te14364793385576792824, PySem.W.Fast.te12563942051412417395]; exact q_4 w os
theorem q_5 (w : World) (os : OsState) : PySem.W.Fast.tw10110043849684766642 PySem.W.Fast.tw14364793385576792824 PW w 11 ANN 1 347 (uu4 w os) ⟨(PySem.W.Fast.tw12563942051412417395 l5 ev).wrap doneF deadEnd id id, cE, (Pos.mk 151 0 151 17), B0⟩ = some (.next, uu5 w os, cE, (Pos.mk 262 0 273 15)) := by kernel_rfl
theorem k_5 (w : World) (os : OsState) : segRun treeTable PW w 11 ANN 1 347 (uu4 w os).abs (piecesOf l5 ev cE (Pos.mk 151 0 151 17) B0) = some (.next, (uu5 w os).abs, cE, (Pos.mk 262 0 273 15)) := by
  refine segRun_of ?_
  show segRunT treeTable PW w 11 ANN 1 347 (uu4 w os) ⟨(execs l5 ev).wrap doneF deadEnd id id, cE, (Pos.mk 151 0 151 17), B0⟩ = _
  rw [PySem.W.Fast.te10110043849684766642, PySem.W.Fast.te14364793385576792824, PySem.W.Fast.te12563942051412417395]; exact q_5 w os
theorem q_fin (w : World) (os : OsState) : PySem.W.Fast.tw14082659384304107361 PySem.W.Fast.tw14364793385576792824 PW w 11 ANN 2 (uu5 w os).abs ⟨doneF .next, cE, (Pos.mk 262 0 273 15), B0⟩ = some (UF w os) := by kernel_rfl
theorem k_fin (w : World) (os : OsState) : topRun treeTable PW w 11 ANN 2 (uu5 w os).abs ⟨doneF .next, cE, (Pos.mk 262 0 273 15), B0⟩ = some (UF w os) := by
  rw [PySem.W.Fast.te14082659384304107361, PySem.W.Fast.te14364793385576792824]; exact q_fin w os
theorem bE_eq : bE = l1 ++ (l2 ++ (l3 ++ (l4 ++ (l5 ++ hr5)))) := by
  have e : ∀ (k : Nat) (r : List Stmt), r.take k ++ r.drop k = r := fun k r => List.take_append_drop k r
  show hr0 = _
  rw [show l5 ++ hr5 = hr4 from e 12 hr4, show l4 ++ hr4 = hr3 from e 1 hr3, show l3 ++ hr3 = hr2 from e 51 hr2, show l2 ++ hr2 = hr1 from e 1 hr1]
  exact (e 13 hr0).symm
theorem r5_nil : hr5 = [] := by kernel_rfl
theorem run_all (w : World) (os : OsState) : topRun treeTable PW w 11 ANN (12 + (1 + (682 + (493 + (460 + (979 + (347 + 2))))))) (US w os) (topStub PW) = some (UF w os) := by
  refine go_top (k_pre w os) (piece_block (k_block w os) ?_)
  rw [bE_eq, r5_nil]
  exact piece_app (k_1 w os) (piece_app (k_2 w os) (piece_app (k_3 w os) (piece_app (k_4 w os) (piece_app (k_5 w os) (piece_nil (k_fin w os))))))
noncomputable def XT (s : Shared) : Bool := xlAt VW [] s && recOk PySem.Challenge.rw_wo0070_01.row.records s
noncomputable def SQ (s : Shared) := PySem.W.Fast.tw4187177175401517315 VW LO (importedModules PW.main.body) XT true s
noncomputable def Q0 (s : Shared) := PySem.W.Fast.tw5160383126252970620 (R.mapR (fun x => DefRec.name x) (PySem.W.Fast.tw3399658132070893891 VW)) (PySem.W.Fast.tw5991557255702980513 VW) [] { s with gens := #[] }
theorem s_0 (w : World) (os : OsState) : Q0 (UF w os) = expectedOf VW := by kernel_rfl
noncomputable def Q1 (s : Shared) := Heap.bltView s.heap
theorem s_1 (w : World) (os : OsState) : Q1 (UF w os) = bltViewBooted := by kernel_rfl
noncomputable def Qk (s : Shared) : Bool := PySem.W.Fast.tw10880121769531294198 s.heap (PySem.W.Fast.tw821141287760084731 VW LO) (R.mapR (fun x => DefRec.name x) (PySem.W.Fast.tw3399658132070893891 VW)) (R.mapR (fun x => Prod.fst x) (PySem.W.Fast.tw7409074990110511671 VW)) (R.mapR (fun x => ClsRec.name x) (PySem.W.Fast.tw13664370479719496447 VW (PySem.W.Fast.tw821141287760084731 VW LO)))
theorem s_2k (w : World) (os : OsState) : Qk (UF w os) = true := by kernel_rfl
noncomputable def Qa (s : Shared) : Bool := PySem.W.Fast.tw14722251495701143533 s.heap (importedModules PW.main.body)
theorem s_2a (w : World) (os : OsState) : Qa (UF w os) = true := by kernel_rfl
noncomputable def Qt (s : Shared) : Bool := PySem.W.Fast.tw10994771534591457954 VW s.heap
theorem s_2t (w : World) (os : OsState) : Qt (UF w os) = true := by kernel_rfl
theorem s_2x (w : World) (os : OsState) : XT (UF w os) = true := by kernel_rfl
noncomputable def Qn (s : Shared) : Bool := Heap.isNs s.heap mainGlobals
noncomputable def Qb (s : Shared) : Bool := Heap.isNs s.heap builtinsNs
theorem s_2n (w : World) (os : OsState) : Qn (UF w os) = true := by kernel_rfl
theorem s_2b (w : World) (os : OsState) : Qb (UF w os) = true := by kernel_rfl
noncomputable def Qg (s : Shared) : Bool := if true = true then Array.size s.gens == 0 else !leftWithCleanup s.gens
theorem s_2g (w : World) (os : OsState) : Qg (UF w os) = true := by kernel_rfl
noncomputable def Q2 (s : Shared) : Bool := Qk s && Qa s && Qn s && Qb s && Qt s && XT s && Qg s
theorem s_2 (w : World) (os : OsState) : Q2 (UF w os) = true := by
  unfold Q2
  rw [s_2k, s_2a, s_2n, s_2b, s_2t, s_2x, s_2g]; rfl
noncomputable def Q3 (s : Shared) := PySem.W.Fast.tw479339242167458305 VW s
theorem s_3 (w : World) (os : OsState) : Q3 (UF w os) = true := by kernel_rfl
noncomputable def Q4 (s : Shared) := PySem.W.Fast.tw16090120013241838585 VW (PySem.W.Fast.tw3247288618530077131 VW) s
theorem s_4 (w : World) (os : OsState) : Q4 (UF w os) = pinGoodD (drecsOf VW) := by kernel_rfl
noncomputable def Q5 (s : Shared) := PySem.W.Fast.tw2386780881361962483 VW (PySem.W.Fast.tw821141287760084731 VW LO) s
theorem s_5 (w : World) (os : OsState) : Q5 (UF w os) = plainGoodE VW (looseW VW LO) := by kernel_rfl
noncomputable def Q6 (s : Shared) := PySem.W.Fast.tw11698064438423848299 VW LO s
theorem s_6 (w : World) (os : OsState) : Q6 (UF w os) = plainGoodD VW LO := by kernel_rfl
noncomputable def Q7 (s : Shared) := PySem.W.Fast.tw7317090234206586261 VW s
theorem s_7 (w : World) (os : OsState) : Q7 (UF w os) = wideGood VW := by kernel_rfl
noncomputable def Q8 (s : Shared) := PySem.W.Fast.tw7369524293546568484 VW LO s
theorem s_8 (w : World) (os : OsState) : Q8 (UF w os) = clsGoodW VW LO := by kernel_rfl
theorem q_see (w : World) (os : OsState) : SQ (UF w os) = openGood VW LO := looks_pair (s_0 w os) (looks_pair (s_1 w os) (looks_pair (s_2 w os) (looks_pair (s_3 w os) (looks_pair (s_4 w os) (looks_pair (s_5 w os) (looks_pair (s_6 w os) (looks_pair (s_7 w os) (s_8 w os))))))))
theorem k_see (w : World) (os : OsState) : openSeen VW LO (importedModules PW.main.body) XT true (UF w os) = openGood VW LO := by
  rw [PySem.W.Fast.te4187177175401517315]; exact q_see w os
theorem k_obs (w : World) (os : OsState) : HK.obs (UF w os) = HK.val w := by kernel_rfl
theorem k_tidy (w : World) (os : OsState) : (staticsOk (importedModules PW.main.body) (boot_heap w.params) (H1 w.params) && namesBound PW (H1 w.params) && gensDone (UF w os) && laidKept (boot_heap w.params) (H1 w.params)) = true := by kernel_rfl
theorem k_size (w : World) : ((boot_heap w.params).isNs mainGlobals && (Array.mk [] : Array GenState).size == 0, (boot_heap w.params).objs.size, (boot_heap w.params).nsMap mainGlobals "__annotations__") = (true, 11, ANN) := by kernel_rfl
theorem open_eq : opening PW = plainProg PW.main.scope.names := by kernel_rfl
theorem fen (s : Shared) : fenceModules? PW s = some s := by kernel_rfl
theorem left : LeftO PySem.Challenge.pw_wo0070_01 VW LO XT HK.obs HK.val 6038 true :=
  LeftO.of_pieces (H₀ := boot_heap) (H₁ := H1) (boot_open open_eq (by decide +kernel) fen) k_size (fun w os => run_all w os) (by decide +kernel) fun w => by
    funext os
    have e1 := k_tidy w os
    have e2 := k_see w os
    have e3 := k_obs w os
    unfold UF at e1 e2 e3
    rw [e1, e2, e3]
end Mine
end
section
set_option maxRecDepth 20000
namespace Mine
variable {prog : Program} {w : World} {B : Heap} {mg mb : Str → Option Value} {l : Nat} {sc : Scope}
/-- a method of the class -/
structure Mt (prog : Program) (w : World) (K : Frag) (B : Heap) (C : Addr) (x : String) (f : Addr) (ps : List String) (i : Nat) : Prop where
  m : ClM K C x f
  kp : Kp prog w B (.ref f)
  fn : Fn B f ps (bodyOf (mtN i)) (scOf (mtN i))
noncomputable def mI (C : Addr) (x : String) (g : FG) (p : EP) (ps : EPs) : EP := fun lm H => (p lm H).bind fun r => match r.1 with
  | .ref i => (getA C r.2 i).bind fun u => match lookA x u.2 with
    | .none => (ps lm r.2).bind fun q => g (.ref i :: q.1) q.2
    | .some _ => .none
  | _ => .none
theorem SE.meth {K : Frag} {C : Addr} {o : Expr} {x : String} {f : Addr} {fps : List String} {fi : Nat} {g : FG} {l' : Nat} {p : EP} {es : List Expr} {ps : EPs} {apos pos : Pos} (c : Cl K B C) (D : Mt prog w K B C x f fps fi) (fc : FC prog w B l' (.ref f) g)
    (h0 : SE prog w B l sc o p) (h1 : SEs prog w B l sc es ps) (hl : l' ≤ l) (hne : ∀ env, (starEach es env).any (·.1) = false)
    (he : ∀ env, match es with | [] => True | e0 :: r => starEach (e0 :: r) env = (false, eval e0 env) :: starEach r env)
    (hc : ∀ env, ∃ pl : Sem Bool, eval (.Call (.Attribute o (Str.ofString x) apos) es [] pos) env = (do
      let ov ← eval o env
      standAt apos.atName
      let (f, first) ← holding [ov] (getMethod ov (Str.ofString x) pl)
      callWith pos f first (backTo pos (starEach es env)) [])) :
    SE prog w B l sc (.Call (.Attribute o (Str.ofString x) apos) es [] pos) (mI C x g p ps) := by
  intro A env σ H lm s av H' Rm n tp R L e Q E h
  refine bc fun hng => ?_
  obtain ⟨⟨a₁, H₁⟩, e1, e⟩ := Option.bind_eq_some_iff.mp e
  cases a₁ <;> simp only at e <;> try (cases e; done)
  rename_i i
  obtain ⟨⟨d, fs⟩, e2, e⟩ := Option.bind_eq_some_iff.mp e
  simp only at e
  split at e
  · rename_i hla
    obtain ⟨pl, hc⟩ := hc env
    refine hng ?_
    refine MethodCall_ (pl := pl) (h0 Rm n tp R L e1 fun v s' σ' x' R' r => ?_) hc
    obtain ⟨a, dx, es', k, rfl, hi, hd, hx, hdx, hr, I⟩ := R'.inst r e2
    have hn : PySem.W.getL (Str.ofString x) es' = some none := by
      rcases hr.getL x with ⟨q, q'⟩ | ⟨av', u, q1, q2, q3⟩
      · exact q'
      · rw [hla] at q1; cases q1
    refine method_fn (c.X.keeps R'.base) I (plainGet_of c.get).1 (plainGet_of c.get).2 D.m.fnd D.m.typ (by show (lookIn _ (dictOf es' k)).map _ = _; rw [lookIn_dict, hn]; rfl) ?_
    exact callArgs fc D.kp hl h1 hne he Rm n (Tp.up tp x') R' (L.step x') (favs := [.ref i]) (.one r) e fun v s'' σ'' x'' R'' r' => h _ _ _ (x'.trans' x'') R'' r'
  · cases e
/-- a word of the class's -/
structure ClV (K : Frag) (C : Addr) (x : String) (cs : List Nat) : Prop where
  ex : ∃ mc t, readsIn K C mc = true ∧ findCls K (.ref C) mc (Str.ofString x) = some (.val (.str ⟨cs.toArray⟩ t))
theorem SE.clsAttr {K : Frag} {C : Addr} {x y : String} {cs : List Nat} {p0 pos : Pos} (G : GB B mg mb) (c : Cl K B C) (hC : mg (Str.ofString y) = some (.ref C)) (V : ClV K C x cs)
    (hk : sc.names.lookup (Str.ofString y) = some .globalImplicit) (hd : (Str.ofString y == ("__debug__" : Str)) = false) :
    SE prog w B l sc (.Attribute (.Name (Str.ofString y) p0) (Str.ofString x) pos) (cK (.str cs)) := by
  intro A env σ H lm s av H' Rm n tp R L e Q E h
  refine bc fun hng => ?_
  cases e
  obtain ⟨mc, t, h1, h2⟩ := V.ex
  refine hng ?_
  with_reducible refine Attribute_name ?_
  refine Calls.Name_function_global n.fn ((n.kindOf _).trans hk) (Calls.loadGlobal_global (by rw [n.g]; exact Heap.Ns.at'' G.g (R.base _)) hC ?_) hd
  exact cls_value (c.X.keeps R.base) h1 h2 rfl (h _ _ σ (step_keeps (fun _ _ e => e) (Nat.le_succ _)) R .mkS)
/-- a display of numbers that nothing changes -/
noncomputable def eLint (ps : EPs) : EP := fun lm H => (ps lm H).bind fun r => (asInts r.1).bind fun is => if r.1.length ≤ 100 then some (.lint is, r.2) else .none
theorem SE.lint {es : List Expr} {ps : EPs} {pos : Pos} (h1 : SEs prog w B l sc es ps) : SE prog w B l sc (.List es pos) (eLint ps) := by
  intro A env σ H lm s av H' Rm n tp R L e Q E h
  refine bc fun hng => ?_
  obtain ⟨⟨a₁, H₁⟩, e1, e⟩ := Option.bind_eq_some_iff.mp e
  obtain ⟨is, e2, e⟩ := Option.bind_eq_some_iff.mp e
  split at e
  · rename_i hl
    cases e
    refine hng ?_
    with_reducible refine wpAny_List (h1 Rm n tp R L e1 fun vs s' σ' x R' r => ?_)
    have hlen := r.length
    have hk : ∀ o b o', s'.heap.get? b = some o' → (s'.heap.push o).get? b = some o' := fun o b o' e => Heap.get?_push_of_some _ e
    refine ⟨by rw [sizeLine_eq]; simp only at hl; omega, h _ _ σ' (x.trans' (step_keeps (tk := s'.toks) (hk _) (Nat.le_refl _))) (R'.keeps (hk _)) ?_⟩
    simp only [VR]
    exact ⟨_, vs, rfl, fun q => R'.live _ q dead_next, ⟨_, Heap.get?_push_size _ rfl, rfl, _, rfl⟩, r.asInts e2⟩
  · cases e
/-- the table of the marks -/
noncomputable def Ett (prog : Program) (w : World) (B : Heap) (mg : Str → Option Value) (T : List Nat → Option Int) : Prop :=
  ∃ a f, mg (Str.ofString "EXACT_TOKEN_TYPES") = some (.ref a) ∧ (a == sysModules) = false ∧ B.MapOf (strKind prog w) a f ∧ ∀ cs, (T cs = none ∧ f ⟨cs.toArray⟩ = none) ∨ ∃ k t, T cs = some k ∧ f ⟨cs.toArray⟩ = some (.int k t)
theorem mapOf_keeps {h h' : Heap} {a : Addr} {f : Str → Option Value} (x : h.MapOf (strKind prog w) a f) (k : ∀ o, h.get? a = some o → h'.get? a = some o) : h'.MapOf (strKind prog w) a f := by
  obtain ⟨o, es, ep, h1, r⟩ := x
  exact ⟨o, es, ep, k _ h1, r⟩
noncomputable def tEtt (T : List Nat → Option Int) (p : EP) : TP := fun lm H => (p lm H).bind fun r => match r.1 with
  | .str cs => some ((T cs).isSome, r.2)
  | _ => none
noncomputable def eEtt (T : List Nat → Option Int) (p : EP) : EP := fun lm H => (p lm H).bind fun r => match r.1 with
  | .str cs => (T cs).map fun k => (.int k, r.2)
  | _ => none
theorem ST.inEtt {T : List Nat → Option Int} {e : Expr} {p : EP} {p0 pos : Pos} (G : GB B mg mb) (D : Ett prog w B mg T) (h1 : SE prog w B l sc e p) (hk : sc.names.lookup (Str.ofString "EXACT_TOKEN_TYPES") = some .globalImplicit) :
    ST prog w B l sc (.Compare e [.In] [.Name (Str.ofString "EXACT_TOKEN_TYPES") p0] pos) (tEtt T p) := by
  intro A env σ H lm s b H' Rm n tp R L e Q E h
  refine bc fun hng => ?_
  obtain ⟨⟨av, H₁⟩, e1, e2⟩ := Option.bind_eq_some_iff.mp e
  cases av <;> simp only at e2 <;> try (cases e2; done)
  cases e2
  obtain ⟨a, f, h2, h3, h4, h5⟩ := D
  refine hng ?_
  with_reducible refine wpAny_isTrue_Compare1 (h1 Rm n tp R L e1 fun v s' σ' x R' r => ?_) rfl
  refine Calls.Name_function_global n.fn ((n.kindOf _).trans hk) (Calls.loadGlobal_global (by rw [n.g]; exact Heap.Ns.at'' G.g (R'.base _)) h2 ?_) (dbg_ne (by decide))
  simp only [VR] at r
  obtain ⟨t, rfl⟩ := r
  rename_i cs
  refine wpAny_in_of (knd := strKind prog w) (k := ⟨cs.toArray⟩) (PySem.strKind_is _ _ _ _) h3 (mapOf_keeps h4 (R'.base _)) ?_
  have : (f ⟨cs.toArray⟩).isSome = (T cs).isSome := by
    rcases h5 cs with ⟨q1, q2⟩ | ⟨k, t, q1, q2⟩ <;> rw [q1, q2] <;> rfl
  rw [this]
  with_reducible exact wpAny_truthy_bool (h _ σ' (x.trans' (step_keeps (fun _ _ e => e) (Nat.le_succ _))) R')
theorem SE.idxEtt {T : List Nat → Option Int} {e : Expr} {p : EP} {p0 pos : Pos} (G : GB B mg mb) (D : Ett prog w B mg T) (h1 : SE prog w B l sc e p) (hk : sc.names.lookup (Str.ofString "EXACT_TOKEN_TYPES") = some .globalImplicit)
    (hs : ∀ o i, subscripted e false o i = operate [o, i] (getItem o i)) :
    SE prog w B l sc (.Subscript (.Name (Str.ofString "EXACT_TOKEN_TYPES") p0) e pos) (eEtt T p) := by
  intro A env σ H lm s av H' Rm n tp R L e Q E h
  refine bc fun hng => ?_
  obtain ⟨⟨av, H₁⟩, e1, e2⟩ := Option.bind_eq_some_iff.mp e
  cases av <;> simp only at e2 <;> try (cases e2; done)
  obtain ⟨k, e3, e2⟩ := Option.map_eq_some_iff.mp e2
  cases e2
  obtain ⟨a, f, h2, h3, h4, h5⟩ := D
  refine hng ?_
  with_reducible refine Subscript_ ?_
  refine Calls.Name_function_global n.fn ((n.kindOf _).trans hk) (Calls.loadGlobal_global (by rw [n.g]; exact Heap.Ns.at'' G.g (R.base _)) h2 ?_) (dbg_ne (by decide))
  refine h1 Rm n tp R L e1 fun v s' σ' x R' r => ?_
  simp only [VR] at r
  obtain ⟨t, rfl⟩ := r
  rename_i cs
  have hm := mapOf_keeps h4 (R'.base _)
  rcases h5 cs with ⟨q1, q2⟩ | ⟨k', t', q1, q2⟩
  · rw [q1] at e3; cases e3
  · rw [q1] at e3; cases e3
    have hty : s'.TypeIs (.ref a) "dict" := by
      obtain ⟨o, es, ep, g1, g2, _⟩ := hm
      exact ⟨o, g1, g2.1⟩
    refine tail_any (T := "dict") hty F.slot_dict_getitem.lookup ?_ (hs _ _)
    exact wpAny_getItem_of (knd := strKind prog w) (k := ⟨cs.toArray⟩) (PySem.strKind_is _ _ _ _) hm q2 (h _ _ σ' (x.trans' (step_keeps (fun _ _ e => e) (Nat.le_succ _))) R' .mkI)
noncomputable def mkG (C : Addr) (ps : List String) (q : SP) : FG := fun avs H => if avs.length + 1 = ps.length then (q (bindA ps (.ref (H.length + 1) :: avs)) (H ++ [.attrs []] ++ [.inst C H.length])).bind fun r => (match r.1 with
  | .next => some (.ref (H.length + 1), r.2.2)
  | _ => none) else none
theorem FC.ofClass {K : Frag} {C f : Addr} {ps : List String} {body : List Stmt} {q : SP} (c : Cl K B C) (hm : makesIn K C = true) (hi : findIn K (.ref C) "__init__" = some (some (.ref f))) (hf : typeIn K (.ref f) = some (.type "function"))
    (G : GB B mg mb) (F : Fn B f ps body sc) (hb : SXs prog w B l sc body q) (hnc : ∀ x ∈ sc.names, x.2 ≠ .cell) (hps : ps ≠ []) : FC prog w B (l + 2) (.ref C) (mkG C ps q) := by
  intro A σ H s avs vs av H' Rm fp R ra e Q E h
  refine bc fun hng => ?_
  unfold mkG at e
  split at e
  · rename_i hlen
    have X : K.In s.heap := c.X.keeps R.base
    obtain ⟨hh, g, d, t, os⟩ := s
    refine hng ?_
    with_reducible refine wpAny_with_toks (Nat.le_refl t) (wpAny_call ?_)
    refine make_core (makes_of X hm) (looks_findIn X hi) (fun self => bind_fn X self hf) (.inl rfl) ?_
    have k : ∀ b o, hh.get? b = some o → ((hh.push emptyDict).push (instObj C hh.objs.size)).get? b = some o := fun b o e => Heap.get?_push_of_some _ (Heap.get?_push_of_some _ e)
    have dead0 : hh.get? hh.objs.size = none := dead_next (s := ⟨hh, g, d, t, os⟩)
    have k1 : ∀ b o, hh.get? b = some o → (hh.push emptyDict).get? b = some o := fun b o e => Heap.get?_push_of_some _ e
    have g1 : (hh.push emptyDict).get? hh.objs.size = some emptyDict := Heap.get?_push_size _ rfl
    have R1 : RS B (σ ++ [hh.objs.size]) (H ++ [.attrs []]) (hh.push emptyDict) := R.alloc k1 dead0 (by rw [g1]; exact fun q => (nomatch q)) ⟨[], 0, g1, rfl⟩
    have st1 : Step [] σ ⟨hh, g, d, t, os⟩ (σ ++ [hh.objs.size]) ⟨hh.push emptyDict, g, d, t, os⟩ := step_alloc (s := ⟨hh, g, d, t, os⟩) R k1 dead0 (Nat.le_refl _)
    have dead1 : (hh.push emptyDict).get? (hh.objs.size + 1) = none := by
      have := dead_next (s := ⟨hh.push emptyDict, g, d, t, os⟩)
      simpa [Heap.size_push] using this
    have k2 : ∀ b o, (hh.push emptyDict).get? b = some o → ((hh.push emptyDict).push (instObj C hh.objs.size)).get? b = some o := fun b o e => Heap.get?_push_of_some _ e
    have g2 : ((hh.push emptyDict).push (instObj C hh.objs.size)).get? (hh.objs.size + 1) = some (instObj C hh.objs.size) := by
      have := Heap.get?_push_size (hh.push emptyDict) (o := instObj C hh.objs.size) rfl
      rwa [Heap.size_push] at this
    have hsl : σ.length = H.length := R.len
    have R2 : RS B (σ ++ [hh.objs.size] ++ [hh.objs.size + 1]) (H ++ [.attrs []] ++ [.inst C H.length]) ((hh.push emptyDict).push (instObj C hh.objs.size)) :=
      R1.alloc k2 dead1 (by rw [g2]; exact fun q => (nomatch q)) ⟨hh.objs.size, by rw [List.getElem?_append_left (by simp; omega), List.getElem?_append_right (by omega)]; simp [hsl], g2⟩
    have st2 : Step [] (σ ++ [hh.objs.size]) ⟨hh.push emptyDict, g, d, t, os⟩ (σ ++ [hh.objs.size] ++ [hh.objs.size + 1]) ⟨(hh.push emptyDict).push (instObj C hh.objs.size), g, d, t, os⟩ := step_alloc (s := ⟨hh.push emptyDict, g, d, t, os⟩) R1 k2 dead1 (Nat.le_refl _)
    have st := st1.trans' st2
    have rx : VR ((hh.push emptyDict).push (instObj C hh.objs.size)) (σ ++ [hh.objs.size] ++ [hh.objs.size + 1]) (.ref (H.length + 1)) (.ref (hh.objs.size + 1)) := .mkR (by
      rw [List.getElem?_append_right (by simp; omega)]; simp [hsl])
    obtain ⟨o, fd, ho, hd, hcd, hbody, rfl, hgl, hbu, hclo, hbind⟩ := F.ex
    have ra' := VRs.cons rx (ra.step0 st)
    have hvl : (Value.ref (hh.objs.size + 1) :: vs).length = ps.length := by rw [List.length_cons, ra.length]; omega
    have loc : ∀ p ∈ ps, fd.scope.names.lookup (Str.ofString p) = some .local := fun p hp => by
      rcases F.kinds p hp with k | k
      · exact k
      · exact absurd rfl (hnc _ (lookup_mem k))
    have hlz : ((ps.map Str.ofString).zip (Value.ref (hh.objs.size + 1) :: vs)).length = ps.length := by simp at hvl ⊢; omega
    generalize hS : (⟨(hh.push emptyDict).push (instObj C hh.objs.size), g, d, t, os⟩ : Shared) = S at *
    have hSh : S.heap = (hh.push emptyDict).push (instObj C hh.objs.size) := by rw [← hS]
    have hSt : S.toks = t := by rw [← hS]
    rw [← hSh] at R2 rx ra'
    have fpS : Fp B (A.under (.builtin "type.__call__" ⟨.ref C :: vs, []⟩)) (σ ++ [hh.objs.size] ++ [hh.objs.size + 1]) S.heap := by
      obtain ⟨l', k1, k2⟩ := fp.step st
      refine ⟨l', ?_, k2⟩
      show pushEnvs (Code.builtin "type.__call__" ⟨.ref C :: vs, []⟩).envs A.frames = some l'
      have : (Code.builtin "type.__call__" ⟨.ref C :: vs, []⟩).envs = [] := by with_unfolding_all rfl
      rw [this, k1]; rfl
    have env_cells : (callEnv fd S.heap.objs.size f).cells = [] := hclo
    have hv : ∀ b ∈ vol (callEnv fd S.heap.objs.size f), S.heap.get? b = none := by
      intro b hb
      unfold vol at hb
      rw [env_cells] at hb
      rw [List.mem_singleton.mp hb]; exact dead_next
    have hn : En B fd.scope (callEnv fd S.heap.objs.size f) := by
      refine ⟨rfl, F.kind, hgl, hbu, fun b hb => ?_, fun x hx => absurd rfl (hnc _ (lookup_mem hx))⟩
      cases q : B.get? b with
      | none => rfl
      | some o => have := R2.base b o q; rw [hv b hb] at this; cases this
    have hpos : 0 < ps.length := List.length_pos_iff.mpr hps
    have Rm' : Mine.Rm (A.under (.builtin "type.__call__" ⟨.ref C :: vs, []⟩)) (l + 1) := by
      have hw : (Code.builtin "type.__call__" ⟨.ref C :: vs, []⟩).weight = 1 := by with_unfolding_all rfl
      have hu : (Code.builtin "type.__call__" ⟨.ref C :: vs, []⟩).cUnits = 1 := by with_unfolding_all rfl
      have h1 := Rm.d
      have h2 := Rm.u
      refine ⟨?_, ?_, Rm.hh⟩
      · show A.depth + (Code.builtin "type.__call__" ⟨.ref C :: vs, []⟩).weight + 10 * (l + 1) ≤ 990
        omega
      · show A.units + (Code.builtin "type.__call__" ⟨.ref C :: vs, []⟩).cUnits + 50 * (l + 1) ≤ 9800
        omega
    refine codeAny_call_def Rm'.room (R2.base _ _ ho) hd (G.lim.keeps R2.base) (hcd.keeps R2.base) hbody (BindsTo.of_eq (hbind _ hvl)) hnc ?_ (fun h₁ hns hk => ?_) F.co F.gen F.kind
    · rintro ⟨x, v⟩ hx
      obtain ⟨y, hy, rfl⟩ := List.mem_map.mp (List.of_mem_zip hx).1
      exact loc y hy
    · obtain ⟨⟨fl, lm, H₁⟩, e1, e2⟩ := Option.bind_eq_some_iff.mp e
      cases fl <;> simp only at e2 <;> try (cases e2; done)
      cases e2
      refine wpAny_mono (body_ok (av := .none) (Q := fun v s' => v = .none ∧ (t ≤ s'.toks → Q (.ref (hh.objs.size + 1)) s')) hb Rm'.deeper hn (by simp; omega) R2 ra' (by rw [e1]; rfl) hk hv (fun _ => by show 0 < S.toks + _; omega) (fpS.deeper hk F.kind rfl (hn.new _ (.head _)) (fun q => R2.live _ q (hv _ (.head _))) ⟨_, hns⟩) ⟨_, hns⟩ (by rw [env_cells]; exact fun _ _ q => nomatch q) (by rw [env_cells]; intro x y c q; simp at q) (fun x v hx hp => ?_) fun v s' σ' st' R' r => ?_) (fun fl s' q => ?_) fun _ _ q => q
      · refine .inl ⟨(hn.kindOf _).trans (loc x hp), _, hns, ?_⟩
        have nd := zip_nodup F.nd hvl
        have : (((ps.map Str.ofString).zip (Value.ref (hh.objs.size + 1) :: vs)).reverse.map (·.1)).Nodup := by rw [List.map_reverse]; exact (List.reverse_perm _).nodup_iff.mpr nd
        exact lookup_of_mem this (List.mem_reverse.mpr hx)
      · simp only [VR] at r
        refine ⟨r, fun hle => ?_⟩
        have st'' := st' (by rw [hSt]; exact hle)
        exact h _ _ _ (st.trans' st'') R' (rx.step0 st'')
      · exact q
  · cases e
end Mine
end
section
set_option maxRecDepth 20000
namespace Mine
variable {prog : Program} {w : World} {B : Heap} {mg mb : Str → Option Value} {l : Nat} {sc : Scope}
-- a block's scope and its cells
noncomputable def relS (csc sc : Scope) : Scope :=
  { csc with names := csc.names.map fun (n, k) => if (k == .free && sc.kind == .function && sc.names.lookup n == some .cell) then (n, .cell) else (n, k) }
theorem relS_eq {csc : Scope} {env : Env} : relabel csc env = relS csc env.scope := rfl
noncomputable def clF (env : Env) : List (Str × NameKind) → List (Str × Addr) → List (Str × Addr)
  | [], cs => cs
  | (n, k) :: r, cs => if k == .free then clF env r ((n, (env.cells.lookup n).getD 0) :: cs) else clF env r cs
theorem closure_eq {env : Env} : ∀ (names : List (Str × NameKind)) (cs : List (Str × Addr)), (∀ y ∈ names, y.2 = .free → ∃ c, env.cells.lookup y.1 = some c) →
    (forIn names cs (fun (x : Str × NameKind) r => do
      if x.2 == .free then
        let a ← cellOf env x.1
        pure (ForInStep.yield ((x.1, a) :: r))
      else pure (ForInStep.yield r)) : Sem (List (Str × Addr))) = pure (clF env names cs)
  | [], cs, _ => rfl
  | (n, k) :: r, cs, h => by
    rw [List.forIn_cons]
    unfold clF
    cases hk : (k == NameKind.free) with
    | true =>
      obtain ⟨c, hc⟩ := h _ (.head _) (eq_of_beq hk)
      have : cellOf env n = pure c := by unfold cellOf; rw [show env.cells.lookup n = some c from hc]
      simp only [this, if_true, pure_bind]
      rw [show env.cells.lookup n = some c from hc]
      exact closure_eq r _ fun y hy => h y (.tail _ hy)
    | false =>
      simp only [Bool.false_eq_true, if_false, pure_bind]
      exact closure_eq r _ fun y hy => h y (.tail _ hy)
theorem clF_mem {env : Env} : ∀ (names : List (Str × NameKind)) (cs : List (Str × Addr)), (∀ y ∈ names, y.2 = .free → ∃ c, env.cells.lookup y.1 = some c) → ∀ y c, (y, c) ∈ clF env names cs → (y, c) ∈ cs ∨ env.cells.lookup y = some c
  | [], cs, _, y, c, h => .inl h
  | (n, k) :: r, cs, hf, y, c, h => by
    unfold clF at h
    split at h
    · rename_i hk
      rcases clF_mem r _ (fun y hy => hf y (.tail _ hy)) y c h with h | h
      · rcases List.mem_cons.mp h with q | q
        · obtain ⟨c', hc⟩ := hf _ (.head _) (eq_of_beq hk)
          cases q
          right
          show env.cells.lookup n = some _
          rw [show env.cells.lookup n = some c' from hc]; rfl
        · exact .inl q
      · exact .inr h
    · exact clF_mem r _ (fun y hy => hf y (.tail _ hy)) y c h
theorem clF_keep {env : Env} {x : Str} : ∀ (names : List (Str × NameKind)) (cs : List (Str × Addr)), (∃ c, cs.lookup x = some c) → ∃ c, (clF env names cs).lookup x = some c
  | [], cs, h => h
  | (n, k) :: r, cs, h => by
    unfold clF
    split
    · refine clF_keep r _ ?_
      rw [List.lookup_cons]
      split
      · exact ⟨_, rfl⟩
      · exact h
    · exact clF_keep r _ h
theorem clF_has {env : Env} {x : Str} : ∀ (names : List (Str × NameKind)) (cs : List (Str × Addr)), (x, NameKind.free) ∈ names → ∃ c, (clF env names cs).lookup x = some c
  | (n, k) :: r, cs, h => by
    unfold clF
    rcases List.mem_cons.mp h with q | q
    · cases q
      rw [if_pos (by decide)]
      exact clF_keep r _ ⟨_, by rw [List.lookup_cons, beq_self_eq_true]⟩
    · split
      · exact clF_has r _ q
      · exact clF_has r _ q
theorem lookup_relabel_local' {csc sc : Scope} {x : Str} (h : csc.names.lookup x = some .local) : (relS csc sc).names.lookup x = some .local :=
  lookup_relabel_local (env := { scope := sc, locals := 0, globals := 0, cells := [] }) h
/-- what is asked of a block's scope -/
structure Csc (csc sc : Scope) (x : String) (capt : List String) : Prop where
  free : ∀ y ∈ csc.names, y.2 = .free → sc.names.lookup y.1 = some .cell
  cell : ∀ y ∈ csc.names, y.2 ≠ .cell
  kind : csc.kind = .function
  names : ∀ y ∈ csc.names, y.2 = .local → csc.names.lookup y.1 = some .local
  loc : csc.names.lookup (Str.ofString x) = some .local
  cap : ∀ n ∈ capt, (Str.ofString n, NameKind.free) ∈ csc.names ∧ (relS csc sc).names.lookup (Str.ofString n) = some .cell
  rel : ∀ y, (relS csc sc).names.lookup y = some .cell → (y, NameKind.free) ∈ csc.names
noncomputable def inLM (x : String) (capt : List String) (lm : LM) (v : AV) : LM := fun n => if n = x then some v else if n ∈ capt then lm n else none
/-- where the items come from -/
structure Src (prog : Program) (w : World) (B : Heap) (C I : Addr) {ι : Type} (src : Hp → ι → Option (Option (AV × ι))) (IT : List Addr → Heap → ι → Prop) : Prop where
  step : ∀ {σ σ' U s s' a}, IT σ s.heap a → Step U σ s σ' s' → (∀ b ∈ U, b = C) → VClean U s.heap → IT σ' s'.heap a
  next : ∀ {A : Around} {σ H s a v a'}, A.handled = none → IT σ s.heap a → RS B σ H s.heap → src H a = some (some (v, a')) →
    ∀ {Q : Option Value → Shared → Prop} {E : Value → Shared → Prop}, (∀ u s', Step [I] σ s σ s' → RS B σ H s'.heap → IT σ s'.heap a' → VR s'.heap σ v u → Q (some u) s') → wpAny (model prog w) A (pyNext (.ref I)) Q E s
  done : ∀ {A : Around} {σ H s a σ₀ s₀ env lm}, A.handled = none → IT σ s.heap a → RS B σ H s.heap → LR env s.heap σ lm → I ∉ vol env → src H a = some none → Step [] σ₀ s₀ σ s → s₀.heap.get? I = none →
    ∀ {Q : Option Value → Shared → Prop} {E : Value → Shared → Prop}, (∀ s', Step [] σ₀ s₀ σ s' → RS B σ H s'.heap → LR env s'.heap σ lm → Q none s') → wpAny (model prog w) A (pyNext (.ref I)) Q E s
  self : ∀ {A : Around} {σ s a}, A.handled = none → IT σ s.heap a → ∀ {Q : Value → Shared → Prop} {E : Value → Shared → Prop}, Q (.ref I) s → wpAny (model prog w) A (pyIter (.ref I)) Q E s
  clean : ∀ {σ h a}, IT σ h a → VClean [I] h
  ne : I ≠ C
  out : ∀ {σ h a}, IT σ h a → I ∉ σ
noncomputable def compF (x : String) (capt : List String) (t : TP) (pe : EP) (D : Nat) {ι : Type} (src : Hp → ι → Option (Option (AV × ι))) : Nat → ι → LM → Hp → Option Hp
  | 0, _, _, _ => none
  | n + 1, a, lm, H => (src H a).bind fun r => match r with
    | none => some H
    | some (v, a') => (t (inLM x capt lm v) H).bind fun b => if b.1 = true then (pe (inLM x capt lm v) b.2).bind fun y => (appG [.ref D, y.1] y.2).bind fun z => compF x capt t pe D src n a' lm z.2 else compF x capt t pe D src n a' lm b.2
theorem store_loc {A : Around} {env : Env} {σ : List Addr} {H : Hp} {lm : LM} {s : Shared} (n : En B sc env) (R : RS B σ H s.heap) (L : LR env s.heap σ lm) {x : String} {av : AV} {v : Value}
    (hk : sc.names.lookup (Str.ofString x) = some .local) (r : VR s.heap σ av v)
    {Q : Unit → Shared → Prop} {E : Value → Shared → Prop} (h : ∀ s', Step [env.locals] σ s σ s' → RS B σ H s'.heap → LR env s'.heap σ (upd lm x av) → Q () s') : wpAny (model prog w) A (storeName env (Str.ofString x) v) Q E s := by
  obtain ⟨m, hn⟩ := L.ns
  refine wpAny_storeName_local ((n.kindOf _).trans hk) hn (fun h' hn' hs => ?_) (by rw [n.fn]; rfl)
  have hl : h'.get? env.locals ≠ none := by
    obtain ⟨o, es, ep, e, _⟩ := hn'
    rw [e]; exact fun q => nomatch q
  have st : Step [env.locals] σ s σ { s with heap := h', toks := s.toks + 1 } := ⟨⟨h', _, rfl⟩, List.prefix_refl _, fun _ a b => absurd a b, fun b o _ hv e => .inl ((hs.2 b (by simpa using hv)).trans e), fun b o _ e d => by
      by_cases q : b = env.locals
      · obtain ⟨o', es, ep, e', hd, _⟩ := hn'
        exact ⟨o', by rw [q]; exact e', es, ep, hd⟩
      · exact ⟨o, (hs.2 b q).trans e, d⟩, fun b e => by
      by_cases q : b = env.locals
      · rw [q]; exact hl
      · show h'.get? b ≠ none; rw [hs.2 b q]; exact e, Nat.le_succ _⟩
  have cl : VClean [env.locals] s.heap := fun b hb o e hf => L.clean b (by rw [List.mem_singleton.mp hb]; exact .head _) o e hf
  refine h _ st (R.mono' (V := [env.locals]) (fun b o hb e => (hs.2 b (by simpa using hb)).trans e) (fun b hb => by rw [List.mem_singleton.mp hb]; exact L.out) (fun b hb => n.new b (by rw [List.mem_singleton.mp hb]; exact .head _)) cl)
    ⟨⟨_, hn'⟩, L.out, fun y c hm => ?_, L.apart, fun y av' e => ?_⟩
  · obtain ⟨⟨ov, hc⟩, h2, h3⟩ := L.cells y c hm
    exact ⟨⟨ov, isCell_at hc fun o e => (hs.2 c h3).trans e⟩, h2, h3⟩
  · unfold upd at e
    by_cases hy : y = x
    · rw [if_pos hy] at e; cases e
      subst hy
      exact ⟨v, .inl ⟨(n.kindOf _).trans hk, _, hn', by simp⟩, r.step st cl⟩
    · rw [if_neg hy] at e
      obtain ⟨u, hu, ru⟩ := L.vars y av' e
      refine ⟨u, ?_, ru.step st cl⟩
      rcases hu with ⟨k, m', hn'', hm⟩ | ⟨k, c, hc, hi⟩
      · rw [Ns_unique hn'' hn] at hm
        exact .inl ⟨k, _, hn', by rw [if_neg (fun q => hy (ofString_inj q))]; exact hm⟩
      · obtain ⟨_, _, h3⟩ := L.cells _ _ (lookup_mem hc)
        exact .inr ⟨k, c, hc, isCell_at hi fun o e => (hs.2 c h3).trans e⟩
/-- tests of a block -/
inductive Ifs (prog : Program) (w : World) (B : Heap) (l : Nat) (sc : Scope) : List Expr → TP → Prop
  | nil : Ifs prog w B l sc [] (tK true)
  | one {c : Expr} {t : TP} (h : ST prog w B l sc c t) : Ifs prog w B l sc [c] t
theorem Ifs.ok {ifs : List Expr} {t : TP} (x : Ifs prog w B l sc ifs t) {A : Around} {env : Env} {σ : List Addr} {H : Hp} {lm : LM} {s : Shared} {b : Bool} {H' : Hp} (Rm : Rm A l) (n : En B sc env) (tp : Tp B A σ l s) (R : RS B σ H s.heap) (L : LR env s.heap σ lm) (e : t lm H = some (b, H'))
    {Q : Bool → Shared → Prop} {E : Value → Shared → Prop} (h : ∀ s' σ', Step [] σ s σ' s' → RS B σ' H' s'.heap → Q b s') :
    wpAny (model prog w) A (forIn ifs true fun c r => if r = true then do let ok ← isTrue c env (eval c env); pure (ForInStep.yield ok) else pure (ForInStep.yield r)) Q E s := by
  cases x with
  | nil => cases e; exact wpAny_tests_nil (h s σ .refl R)
  | one x => exact wpAny_tests_one (x Rm n tp R L e h)
/-- the block's loop -/
theorem comp_loop {ι : Type} {src : Hp → ι → Option (Option (AV × ι))} {IT : List Addr → Heap → ι → Prop} {csc : Scope} {x : String} {capt : List String} {elt iter : Expr} {ifs : List Expr} {t : TP} {pe : EP} {px pos : Pos} {C I D iD : Nat} {cenv : Env}
    (S : Src prog w B C I src IT) (he : SE prog w B l sc elt pe) (hi : Ifs prog w B l sc ifs t) {A : Around} (Rm : Rm A l) (n : En B sc cenv) (hC : cenv.locals = C) (hx : sc.names.lookup (Str.ofString x) = some .local) (hnc : x ∉ capt)
    (hIv : I ∉ vol cenv) {N : Nat} {a : ι} {σ₀ σ : List Addr} {s₀ s : Shared} {H H' : Hp} {lm lm₁ : LM} (e : compF x capt t pe iD src N a lm H = some H')
    (hD : σ[iD]? = some D) (st : Step [] σ₀ s₀ σ s) (R : RS B σ H s.heap) (L : LR cenv s.heap σ lm₁) (hlm : ∀ n ∈ capt, lm₁ n = lm n) (it : IT σ s.heap a) (tp : Tp B A σ₀ l s₀) (hI0 : s₀.heap.get? I = none) (hC0 : s₀.heap.get? C = none)
    {RR : Result → Shared → Prop} (h : ∀ s' σ' lm', Step [] σ₀ s₀ σ' s' → RS B σ' H' s'.heap → LR cenv s'.heap σ' lm' → σ'[iD]? = some D → RR (.ok .next) s') :
    codeAny (model prog w) A (.compLoop (.ListComp elt [⟨.Name (Str.ofString x) px, iter, ifs, 0⟩] csc pos) 0 (.ref I) (.ref D) cenv) RR s := by
  refine codeAny_compLoop_tests (fun k s' => ∃ a' σ' Hk lmk, Step [] σ₀ s₀ σ' s' ∧ RS B σ' Hk s'.heap ∧ LR cenv s'.heap σ' lmk ∧ (∀ n ∈ capt, lmk n = lm n) ∧ IT σ' s'.heap a' ∧ σ'[iD]? = some D ∧ compF x capt t pe iD src k a' lm Hk = some H') ?_ N
    ⟨a, σ, H, lm₁, st, R, L, hlm, it, hD, e⟩ (fun _ => rfl)
  refine fun k s' hh => bc fun hng => ?_
  obtain ⟨a', σ', Hk, lmk, st', R', L', hlm', it', hD', e'⟩ := hh
  cases k with
  | zero => cases e'
  | succ k =>
    obtain ⟨r, e1, e2⟩ := Option.bind_eq_some_iff.mp e'
    cases r with
    | none =>
      refine hng (S.done Rm.hh it' R' L' hIv e1 st' hI0 fun s₁ st₁ R₁ L₁ => ?_)
      cases e2
      exact h _ _ _ st₁ R₁ L₁ hD'
    | some va =>
      obtain ⟨v, a''⟩ := va
      simp only at e2
      obtain ⟨⟨b, H₁⟩, e3, e4⟩ := Option.bind_eq_some_iff.mp e2
      refine hng (S.next Rm.hh it' R' e1 fun u s₁ st₁ R₁ it₁ r₁ => ?_)
      have cI := S.clean it'
      have L₁ := L'.step' st₁ (fun b hb hv => hIv (List.mem_singleton.mp hv ▸ hb)) cI
      have T₁ := st'.trans st₁ fun b hb => .inr (by rw [List.mem_singleton.mp hb]; exact hI0)
      refine assign_Name (store_loc n R₁ L₁ hx r₁ fun s₂ st₂ R₂ L₂ => ?_)
      have cC : VClean [cenv.locals] s₁.heap := fun b hb o e hf => L₁.clean b (by rw [List.mem_singleton.mp hb]; exact .head _) o e hf
      have it₂ := S.step it₁ st₂ (fun b hb => by rw [List.mem_singleton.mp hb, hC]) cC
      have T₂ := T₁.trans st₂ fun b hb => .inr (by rw [List.mem_singleton.mp hb, hC]; exact hC0)
      have L₂' : LR cenv s₂.heap σ' (inLM x capt lm v) := ⟨L₂.ns, L₂.out, L₂.cells, L₂.apart, fun y av hy => L₂.vars y av (by
        unfold inLM at hy
        unfold upd
        by_cases q : y = x
        · rw [if_pos q] at hy ⊢; exact hy
        · rw [if_neg q] at hy ⊢
          split at hy
          · rename_i hc; rw [hlm' y hc]; exact hy
          · cases hy)⟩
      refine hi.ok Rm n (Tp.up tp T₂) R₂ L₂' e3 fun s₃ σ₃ st₃ R₃ => ?_
      have it₃ := S.step it₂ st₃ (fun b hb => nomatch hb) .nil
      have T₃ := T₂.trans' st₃
      have L₃ := L₂'.step st₃
      have hlm3 : ∀ n ∈ capt, inLM x capt lm v n = lm n := fun n hn => by
        have q : n ≠ x := fun q => hnc (q ▸ hn)
        unfold inLM; rw [if_neg q, if_pos hn]
      cases b with
      | false =>
        rw [if_neg Bool.false_ne_true]
        rw [if_neg Bool.false_ne_true] at e4
        exact ⟨k, Nat.lt_succ_self _, a'', σ₃, H₁, _, T₃, R₃, L₃, hlm3, it₃, prefix_get st₃.pre hD', e4⟩
      | true =>
        rw [if_pos rfl]
        rw [if_pos rfl] at e4
        refine bc fun hng => ?_
        obtain ⟨⟨y, H₂⟩, e5, e6⟩ := Option.bind_eq_some_iff.mp e4
        obtain ⟨⟨z, H₃⟩, e7, e8⟩ := Option.bind_eq_some_iff.mp e6
        refine hng ?_
        refine he Rm n (Tp.up tp T₃) R₃ L₃ e5 fun u₂ s₄ σ₄ st₄ R₄ r₄ => ?_
        have T₄ := T₃.trans' st₄
        have hD₄ := prefix_get st₄.pre (prefix_get st₃.pre hD')
        refine fc_app (l := l) Rm (Tp.up tp T₄).f R₄ (VRs.cons (VR.mkR hD₄) (.one r₄)) e7 fun _ s₅ σ₅ st₅ R₅ _ => ?_
        exact ⟨k, Nat.lt_succ_self _, a'', σ₅, H₃, _, T₄.trans' st₅, R₅, (L₃.step st₄).step st₅, hlm3, S.step (S.step it₃ st₄ (fun b hb => nomatch hb) .nil) st₅ (fun b hb => nomatch hb) .nil, prefix_get st₅.pre hD₄, e8⟩
/-- from the iterator to the block's end -/
theorem comp_block {ι : Type} {src : Hp → ι → Option (Option (AV × ι))} {csc : Scope} {x : String} {capt : List String} {elt iter : Expr} {ifs : List Expr} {t : TP} {pe : EP} {px pos : Pos} {I : Addr} {env : Env} {cl : List (Str × Addr)}
    (X : Csc csc sc x capt) (hnc : x ∉ capt) (he : SE prog w B l (relS csc sc) elt pe) (hi : Ifs prog w B l (relS csc sc) ifs t) {A : Around} (Rm : Rm A l) (n : En B sc env) (hcl : cl = clF env csc.names [])
    {N : Nat} {a : ι} {σ₀ σ : List Addr} {s₀ s : Shared} {H H' : Hp} {lm : LM} (e : compF x capt t pe H.length src N a lm (H ++ [.list []]) = some H')
    (st : Step [] σ₀ s₀ σ s) (R : RS B σ H s.heap) (L : LR env s.heap σ lm) (tp : Tp B A σ₀ l s₀) (hI0 : s₀.heap.get? I = none) (hI : s.heap.get? I ≠ none) (hIv : I ∉ vol env)
    {IT : Addr → List Addr → Heap → ι → Prop} (S : ∀ C, s.heap.get? C = none → Src prog w B C I src (IT C)) (it : ∀ C, s.heap.get? C = none → IT C σ s.heap a)
    {E : Value → Shared → Prop} {RR : Value → Addr → Result → Shared → Prop}
    (h : ∀ C D s' σ' m, Step [] σ₀ s₀ σ' s' → RS B σ' H' s'.heap → s₀.heap.get? C = none → C ∉ σ' → s'.heap.Ns C m → VR s'.heap σ' (.ref H.length) (.ref D) → RR (.ref D) C (.ok .next) s') :
    wpAny (model prog w) A (newList []) (fun acc s₃ => wpAny (model prog w) A (newFunctionEnv csc env.globals cl [] env.qual none .none (some env)) (fun cenv s₄ =>
      codeAny (model prog w) A (.compStart (.ListComp elt [⟨.Name (Str.ofString x) px, iter, ifs, 0⟩] csc pos) 0 (.ref I) acc { cenv with scope := relabel csc env }) (RR acc cenv.locals) s₄) E s₃) E s := by
  have hkd := X.kind
  refine wpAny_newObj_type (wpAny_newFunctionEnv X.cell (by intro y hy; simp at hy) (fun h₁ hns₁ hsb₁ => ?_) hkd)
  dsimp only at hns₁ hsb₁ ⊢
  obtain ⟨x1, x2, x3⟩ := newL R (xs := []) (vs := []) .nil (Nat.le_refl s.toks)
  generalize hH2 : s.heap.push { cls := .type "list", dict := none, data := .seq ([] : List Value).toArray } = H2 at hns₁ hsb₁ x1 x2 x3 ⊢
  have hC : H2.objs.size = s.heap.objs.size + 1 := by rw [← hH2, Heap.size_push]
  have dC : s.heap.get? H2.objs.size = none := by
    cases q : s.heap.get? H2.objs.size with
    | none => rfl
    | some o => exact absurd (Heap.lt_size q) (by rw [hC]; exact Nat.not_lt.mpr (Nat.le_succ _))
  have dC2 : H2.get? H2.objs.size = none := dead_next (s := { s with heap := H2 })
  have k2 : ∀ b o, H2.get? b = some o → h₁.get? b = some o := fun b o e => hsb₁.extBut b o (fun q => by rw [q, dC2] at e; cases e) (Heap.get?_push_of_some _ e)
  have hC0 : s₀.heap.get? H2.objs.size = none := by
    cases q : s₀.heap.get? H2.objs.size with
    | none => rfl
    | some o => exact absurd dC (st.alive _ (by rw [q]; exact fun q => (nomatch q)))
  have st2 : Step [] (σ ++ [s.heap.objs.size]) { s with heap := H2, toks := s.toks } (σ ++ [s.heap.objs.size]) { s with heap := h₁, toks := s.toks + ([] : List (Str × Value)).length } := step_keeps (s := { s with heap := H2, toks := s.toks }) k2 (Nat.le_refl _)
  have T := (st.trans' x1).trans' st2
  have R2 := RS.keeps (h' := h₁) x2 k2
  have stA := x1.trans' st2
  have Lo := L.step stA
  have itC := (S _ dC).step (it _ dC) stA (fun b hb => nomatch hb) .nil
  have hCσ : H2.objs.size ∉ σ ++ [s.heap.objs.size] := fun q => by
    have := R2.live _ q
    exact x2.live _ q dC2
  have fr : ∀ y ∈ csc.names, y.2 = .free → ∃ c, env.cells.lookup y.1 = some c := fun y hy hf => n.cells _ (X.free y hy hf)
  have clm : ∀ y c, (y, c) ∈ cl → env.cells.lookup y = some c := fun y c hm => by
    rw [hcl] at hm
    rcases clF_mem _ _ fr y c hm with q | q
    · cases q
    · exact q
  have ecl : relabel csc env = relS csc sc := by rw [relS_eq, n.is]
  let cenv : Env := compEnvC csc cl H2.objs.size env
  have hvol : ∀ b ∈ vol cenv, b = H2.objs.size ∨ b ∈ vol env := by
    intro b hb
    rcases List.mem_cons.mp hb with q | q
    · exact .inl q
    · obtain ⟨⟨y, c⟩, hm, rfl⟩ := List.mem_map.mp q
      exact .inr (.tail _ (List.mem_map.mpr ⟨_, lookup_mem (clm y c hm), rfl⟩))
  have nC : En B (relS csc sc) cenv := by
    refine ⟨ecl, hkd, n.g, n.b, fun b hb => ?_, fun y hy => ?_⟩
    · rcases hvol b hb with q | q
      · rw [q]
        cases q' : B.get? H2.objs.size with
        | none => rfl
        | some o => have := R.base _ _ q'; rw [dC] at this; cases this
      · exact n.new b q
    · show ∃ c, cl.lookup y = some c
      rw [hcl]
      exact clF_has _ _ (X.rel y hy)
  have cne : ∀ y c, (y, c) ∈ cl → c ≠ H2.objs.size := fun y c hm q => by
    have hv : c ∈ vol env := .tail _ (List.mem_map.mpr ⟨_, lookup_mem (clm y c hm), rfl⟩)
    exact L.live c hv (by rw [q]; exact dC)
  have LC : LR cenv h₁ (σ ++ [s.heap.objs.size]) (fun y => if y ∈ capt then lm y else none) := by
    refine ⟨⟨_, hns₁⟩, hCσ, fun y c hm => ?_, fun y z c hy hz => ?_, fun y av hy => ?_⟩
    · obtain ⟨h1, h2, _⟩ := Lo.cells y c (lookup_mem (clm y c hm))
      exact ⟨h1, h2, cne y c hm⟩
    · exact Lo.apart y z c (clm y c (lookup_mem hy)) (clm z c (lookup_mem hz))
    · split at hy
      · rename_i hc
        obtain ⟨v, hv, r⟩ := Lo.vars y av hy
        obtain ⟨hf, hrel⟩ := X.cap y hc
        refine ⟨v, ?_, r⟩
        rcases hv with ⟨k, _⟩ | ⟨k, c, hc', hi'⟩
        · rw [n.kindOf, X.free _ hf rfl] at k; cases k
        · obtain ⟨c', hcl'⟩ := clF_has (env := env) _ [] hf
          have e1 : cl.lookup (Str.ofString y) = some c' := by rw [hcl]; exact hcl'
          have e2 := clm _ _ (lookup_mem e1)
          rw [hc'] at e2; cases e2
          exact .inr ⟨(nC.kindOf _).trans hrel, c, e1, hi'⟩
      · cases hy
  have IvC : I ∉ vol cenv := fun q => by
    rcases hvol I q with q | q
    · exact hI (by rw [q]; exact dC)
    · exact hIv q
  have loop : codeAny (model prog w) A (.compLoop (.ListComp elt [⟨.Name (Str.ofString x) px, iter, ifs, 0⟩] csc pos) 0 (.ref I) (.ref s.heap.objs.size) cenv) (RR (.ref s.heap.objs.size) H2.objs.size) { s with heap := h₁, toks := s.toks + ([] : List (Str × Value)).length } := by
    refine comp_loop (S _ dC) he hi Rm nC rfl (lookup_relabel_local' X.loc) hnc IvC e (by rw [← R.len]; simp) T R2 LC (fun n hn => by rw [if_pos hn]) itC tp hI0 hC0 fun s' σ' lm' st' R' L' hD' => ?_
    obtain ⟨m, hm⟩ := L'.ns
    exact h _ _ s' σ' m st' R' hC0 L'.out hm (.mkR hD')
  exact codeAny_compStart_list loop ((S _ dC).self Rm.hh itC loop)
end Mine
end
section
set_option maxRecDepth 20000
namespace Mine
variable {prog : Program} {w : World} {B : Heap} {mg mb : Str → Option Value} {l : Nat} {sc : Scope}
noncomputable def srcI : Hp → List AV → Option (Option (AV × List AV))
  | _, [] => some none
  | _, u :: us => some (some (u, us))
noncomputable def srcL (i : Nat) : Hp → Nat → Option (Option (AV × Nat)) := fun H j => (getL H i).bind fun xs => some (xs[j]?.map fun v => (v, j + 1))
theorem ItV.clean {σ : List Addr} {h : Heap} {V : List Addr} {I : Addr} {vs : List AV} (x : ItV prog w B σ h V I vs) : VClean [I] h := by
  obtain ⟨⟨fp, n, j, P, St, h1, h2, h3, h4, h5, h6⟩, o1, o2, o3⟩ := x
  intro b hb o e hf
  rw [List.mem_singleton.mp hb] at e
  obtain ⟨o', e', hn, _⟩ := h4 _ _ h2
  rw [e'] at e; cases e; exact hn hf
theorem ItV.live {σ : List Addr} {h : Heap} {V : List Addr} {I : Addr} {vs : List AV} (x : ItV prog w B σ h V I vs) : h.get? I ≠ none := by
  obtain ⟨⟨fp, n, j, P, St, h1, h2, h3, h4, h5, h6⟩, o1, o2, o3⟩ := x
  obtain ⟨o', e', hn, _⟩ := h4 _ _ h2
  rw [e']; exact fun q => (nomatch q)
theorem ItV.widen {σ : List Addr} {h : Heap} {I : Addr} {vs : List AV} (x : ItV prog w B σ h [] I vs) {C : Addr} (d : h.get? C = none) : ItV prog w B σ h [C] I vs := by
  have lv := x.live
  obtain ⟨⟨fp, n, j, P, St, h1, h2, h3, h4, h5, h6⟩, o1, o2, o3⟩ := x
  exact ⟨⟨fp, n, j, P, St, h1, h2, h3, h4, fun b hb => ⟨(h5 b hb).1, (fun q => by
    obtain ⟨o', e', _⟩ := (h5 b hb).2.2
    rw [List.mem_singleton.mp q, d] at e'; cases e'), (h5 b hb).2.2⟩, h6⟩, o1, fun q => lv (by rw [List.mem_singleton.mp q]; exact d), o3⟩
/-- the walk's end, for a block -/
theorem ItV.done' {env : Env} {lm : LM} {V σ σ₀ : List Addr} {s s₀ : Shared} {I : Addr} {H : Hp} {A : Around} (x : ItV prog w B σ s.heap V I []) (hh : A.handled = none) (R : RS B σ H s.heap) (L : LR env s.heap σ lm) (o2 : I ∉ vol env)
    (st : Step [] σ₀ s₀ σ s) (h0 : s₀.heap.get? I = none)
    {Q : Option Value → Shared → Prop} {E : Value → Shared → Prop} (h : ∀ s', Step [] σ₀ s₀ σ s' → RS B σ H s'.heap → LR env s'.heap σ lm → Q none s') : wpAny (model prog w) A (pyNext (.ref I)) Q E s := by
  have hcl := x.clean
  obtain ⟨⟨fp, n, j, P, St, h1, h2, h3, h4, h5, h6⟩, o1, _, o3⟩ := x
  have e : n = j := by simpa using h3
  subst e
  with_reducible refine wpAny_with_toks (Nat.le_refl s.toks) ((h1 A hh).done s _ _ h2 fun h' tk hk hle => ?_)
  have st' : Step [] σ₀ s₀ σ { s with heap := h', toks := tk } := by
    refine ⟨?_, st.pre, st.fresh, fun b o hb hv e => ?_, fun b o hb e d => ?_, fun b e => ?_, Nat.le_trans st.tok hle⟩
    · obtain ⟨h₁, t₁, rfl⟩ := st.same
      exact ⟨h', tk, rfl⟩
    · have k1 := st.keep b o hb hv e
      obtain ⟨o', e'⟩ := k1.ex
      exact k1.trans e' (.inl (hk b o' (fun q => by rw [List.mem_singleton.mp q, h0] at e; cases e) e'))
    · obtain ⟨o', e', d'⟩ := st.dic b o hb e d
      exact ⟨o', hk b o' (fun q => by rw [List.mem_singleton.mp q, h0] at e; cases e) e', d'⟩
    · cases e' : s.heap.get? b with
      | none => exact absurd e' (st.alive b e)
      | some o => show h'.get? b ≠ none; rw [hk b o (fun q => e (by rw [List.mem_singleton.mp q]; exact h0)) e']; exact fun q => (nomatch q)
  refine h _ st' (R.mono' hk (fun b hb => by rw [List.mem_singleton.mp hb]; exact o1) (fun b hb => by rw [List.mem_singleton.mp hb]; exact o3) hcl) ?_
  exact L.mono (fun b hb o e => hk b o (fun q => o2 (List.mem_singleton.mp q ▸ hb)) e) fun b o _ hf e => hk b o (fun q => hcl b q o e hf) e
theorem Src.items {C I : Addr} (ne : I ≠ C) : Src prog w B C I srcI (fun σ h us => ItV prog w B σ h [C] I us) where
  step := fun it st hU hc => it.step st (fun b hb => by rw [hU b hb]; exact .head _) hc
  next := by
    intro A σ H s a v a' hh it R e Q E h
    cases a with
    | nil => cases e
    | cons u us =>
      cases e
      exact it.next hh R fun v s' st R' it' r => h v s' st R' it' r
  done := by
    intro A σ H s a σ₀ s₀ env lm hh it R L hv e st h0 Q E h
    cases a with
    | nil => exact it.done' hh R L hv st h0 h
    | cons u us => cases e
  self := by
    intro A σ s a hh it Q E h
    refine bc fun hng => ?_
    obtain ⟨⟨fp, n, j, P, St, h1, h2, h3, h4, h5, h6⟩, o1, o2, o3⟩ := it
    refine hng ?_
    exact (h1 A hh).self _ _ _ _ h2 h
  clean := fun it => it.clean
  ne := ne
  out := fun it => it.out
theorem Src.list {C I : Addr} {i : Nat} (ne : I ≠ C) (hB : B.get? I = none) : Src prog w B C I (srcL i) (fun σ h j => ∃ a, σ[i]? = some a ∧ h.IsListIter I a j ∧ I ∉ σ) where
  step := by
    intro σ σ' U s s' j it st hU hc
    obtain ⟨a, h1, ⟨o, h2, h3⟩, h4⟩ := it
    refine ⟨a, prefix_get st.pre h1, ⟨o, (st.keep I o h4 (fun q => ne (hU I q)) h2).eq (notD_f h3.2), h3⟩, fun q => ?_⟩
    have := st.fresh I q h4
    rw [h2] at this; cases this
  next := by
    intro A σ H s j v a' hh it R e Q E h
    refine bc fun hng => ?_
    obtain ⟨a, h1, h2, h4⟩ := it
    obtain ⟨xs, e1, e2⟩ := Option.bind_eq_some_iff.mp e
    obtain ⟨u, e3, e4⟩ := Option.map_eq_some_iff.mp (Option.some.inj e2)
    cases e4
    obtain ⟨a₁, vs, n, q, hi, ha, hg, hv⟩ := R.list (VR.mkR h1) e1
    cases q
    obtain ⟨y, q1, q2⟩ := hv.get e3
    have hne : a ≠ I := fun q => h4 (q ▸ ha)
    refine hng ?_
    refine wpAny_pyNext_list_item h2 (isL hg) (by simpa using q1) fun h' hit hs => ?_
    obtain ⟨oI, gI, cI, dI⟩ := h2
    have nfz : ¬ Frz oI := fun q => by
      unfold Frz at q; rw [dI] at q; simp only at q; rw [cI] at q; exact absurd q (by decide)
    have cl : VClean [I] s.heap := fun b hb o e hf => by
      rw [List.mem_singleton.mp hb, gI] at e; cases e; exact nfz hf
    have hl : h'.get? I ≠ none := by
      obtain ⟨o, e, _⟩ := hit
      rw [e]; exact fun q => (nomatch q)
    have st : Step [I] σ s σ { s with heap := h' } := ⟨⟨h', _, rfl⟩, List.prefix_refl _, fun _ a b => absurd a b, fun b o _ hv e => .inl ((hs.2 b (by simpa using hv)).trans e), fun b o _ e d => by
      by_cases q : b = I
      · subst q; rw [gI] at e; cases e; exact absurd d (notD_f dI)
      · exact ⟨o, (hs.2 b q).trans e, d⟩, fun b e => by
      by_cases q : b = I
      · rw [q]; exact hl
      · show h'.get? b ≠ none; rw [hs.2 b q]; exact e, Nat.le_refl _⟩
    exact h y _ st (R.mono' (V := [I]) (fun b o hb e => (hs.2 b (by simpa using hb)).trans e) (fun b hb => by rw [List.mem_singleton.mp hb]; exact h4) (fun b hb => by rw [List.mem_singleton.mp hb]; exact hB) cl) ⟨a, h1, hit, h4⟩ (q2.step st cl)
  done := by
    intro A σ H s j σ₀ s₀ env lm hh it R L hv e st h0 Q E h
    obtain ⟨a, h1, h2, h4⟩ := it
    obtain ⟨xs, e1, e2⟩ := Option.bind_eq_some_iff.mp e
    have e3 : xs[j]? = none := Option.map_eq_none_iff.mp (Option.some.inj e2)
    obtain ⟨a₁, vs, n, q, hi, ha, hg, hv'⟩ := R.list (VR.mkR h1) e1
    cases q
    have hlen := hv'.length
    have e4 : vs.toArray[j]? = none := by
      have : xs.length ≤ j := by simpa using e3
      simp; omega
    refine wpAny_pyNext_list_end hh h2 (isL hg) e4 fun h' he => ?_
    obtain ⟨oI, gI, cI, dI⟩ := h2
    have nfz : ¬ Frz oI := fun q => by
      unfold Frz at q; rw [dI] at q; simp only at q; rw [cI] at q; exact absurd q (by decide)
    have hcl : VClean [I] s.heap := fun b hb o e hf => by
      rw [List.mem_singleton.mp hb, gI] at e; cases e; exact nfz hf
    have hk : ∀ b o, b ∉ [I] → s.heap.get? b = some o → h'.get? b = some o := fun b o hb e => he b o (by simpa using hb) e
    have st' : Step [] σ₀ s₀ σ { s with heap := h' } := by
      refine ⟨?_, st.pre, st.fresh, fun b o hb hv e => ?_, fun b o hb e d => ?_, fun b e => ?_, st.tok⟩
      · obtain ⟨h₁, t₁, rfl⟩ := st.same
        exact ⟨h', t₁, rfl⟩
      · have k1 := st.keep b o hb hv e
        obtain ⟨o', e'⟩ := k1.ex
        exact k1.trans e' (.inl (hk b o' (fun q => by rw [List.mem_singleton.mp q, h0] at e; cases e) e'))
      · obtain ⟨o', e', d'⟩ := st.dic b o hb e d
        exact ⟨o', hk b o' (fun q => by rw [List.mem_singleton.mp q, h0] at e; cases e) e', d'⟩
      · cases e' : s.heap.get? b with
        | none => exact absurd e' (st.alive b e)
        | some o => show h'.get? b ≠ none; rw [hk b o (fun q => e (by rw [List.mem_singleton.mp q]; exact h0)) e']; exact fun q => (nomatch q)
    refine h _ st' (R.mono' hk (fun b hb => by rw [List.mem_singleton.mp hb]; exact h4) (fun b hb => by rw [List.mem_singleton.mp hb]; exact hB) hcl) ?_
    exact L.mono (fun b hb o e => hk b o (fun q => hv (List.mem_singleton.mp q ▸ hb)) e) fun b o _ hf e => hk b o (fun q => hcl b q o e hf) e
  self := by
    intro A σ s j hh it Q E h
    refine bc fun hng => ?_
    obtain ⟨a, h1, h2, h4⟩ := it
    refine hng ?_
    exact wpAny_pyIter_listiter h2 h
  clean := by
    rintro σ h j ⟨a, h1, ⟨oI, gI, cI, dI⟩, h4⟩ b hb o e hf
    rw [List.mem_singleton.mp hb, gI] at e; cases e
    unfold Frz at hf; rw [dI] at hf; simp only at hf; rw [cI] at hf; exact absurd hf (by decide)
  ne := ne
  out := fun ⟨a, h1, h2, h4⟩ => h4
/-- after the block: its own namespace may turn -/
theorem after_block {σ₀ σ' : List Addr} {s₀ s' : Shared} {H₀ H' : Hp} {C : Addr} {m : Str → Option Value} {h' : Heap} (T : Step [] σ₀ s₀ σ' s') (R : RS B σ' H' s'.heap) (R0 : RS B σ₀ H₀ s₀.heap) (hC : s₀.heap.get? C = none) (hCσ : C ∉ σ') (hn : s'.heap.Ns C m) (hs : Heap.SameBut C s'.heap h') :
    Step [] σ₀ s₀ σ' { s' with heap := h' } ∧ RS B σ' H' h' ∧ ∀ {a v}, VR s'.heap σ' a v → VR h' σ' a v := by
  have hk : ∀ b o, b ∉ [C] → s'.heap.get? b = some o → h'.get? b = some o := fun b o hb e => (hs.2 b (by simpa using hb)).trans e
  have hcl : VClean [C] s'.heap := fun b hb o e hf => by
    rw [List.mem_singleton.mp hb] at e
    obtain ⟨o', es, ep, e', hd, _⟩ := hn
    rw [e] at e'; cases e'
    unfold Frz at hf; rw [hd] at hf; exact hf
  have kp1 : ∀ b o, b ∉ σ₀ → b ∉ [] → s₀.heap.get? b = some o → Sm o (h'.get? b) := fun b o hb hv e => by
    have k1 := T.keep b o hb hv e
    obtain ⟨o', e'⟩ := k1.ex
    exact k1.trans e' (.inl (hk b o' (fun q => by rw [List.mem_singleton.mp q, hC] at e; cases e) e'))
  have kp2 : ∀ b o, b ∉ σ₀ → s₀.heap.get? b = some o → IsD o → ∃ o', h'.get? b = some o' ∧ IsD o' := fun b o hb e d => by
    obtain ⟨o', e', d'⟩ := T.dic b o hb e d
    exact ⟨o', hk b o' (fun q => by rw [List.mem_singleton.mp q, hC] at e; cases e) e', d'⟩
  refine ⟨⟨?_, T.pre, T.fresh, fun b o hb hv e => kp1 b o hb hv e, fun b o hb e d => kp2 b o hb e d, fun b e => ?_, T.tok⟩, R.mono' hk (fun b hb => by rw [List.mem_singleton.mp hb]; exact hCσ) (fun b hb => ?_) hcl, fun r => r.mono (fun b o hb hf e => ⟨hk b o (fun q => hcl b q o e hf) e, hb⟩) (List.prefix_refl _)⟩
  · obtain ⟨h₁, t₁, rfl⟩ := T.same
    exact ⟨h', t₁, rfl⟩
  · cases e' : s'.heap.get? b with
    | none => exact absurd e' (T.alive b e)
    | some o => show h'.get? b ≠ none; rw [hk b o (fun q => e (by rw [List.mem_singleton.mp q]; exact hC)) e']; exact fun q => (nomatch q)
  · rw [List.mem_singleton.mp hb]
    cases q : B.get? C with
    | none => rfl
    | some o => have := R0.base _ _ q; rw [hC] at this; cases this
/-- the value of a block -/
noncomputable def eComp (x : String) (capt : List String) (t : TP) (pe it : EP) : EP := fun lm H => (it lm H).bind fun r => match r.1 with
  | .ref i => (getL r.2 i).bind fun xs => (compF x capt t pe r.2.length (srcL i) (xs.length + 1) 0 lm (r.2 ++ [.list []])).map fun H' => (.ref r.2.length, H')
  | a => (itemsOf a).bind fun us => (compF x capt t pe r.2.length srcI (us.length + 1) us lm (r.2 ++ [.list []])).map fun H' => (.ref r.2.length, H')
theorem comp_core {csc : Scope} {x : String} {capt : List String} {elt iter : Expr} {ifs : List Expr} {t : TP} {pe pi : EP} {px pos ipos : Pos} {use : Option (Value → Sem Unit)}
    (X : Csc csc sc x capt) (hnc : x ∉ capt) (he : SE prog w B l (relS csc sc) elt pe) (hi : Ifs prog w B l (relS csc sc) ifs t) (h1 : SE prog w B l sc iter pi) (hfs : ∀ env v, foldedSetIterable iter env v = pure v)
    {A : Around} {env : Env} {σ : List Addr} {H : Hp} {lm : LM} {s : Shared} {av : AV} {H' : Hp} (Rm : Rm A l) (n : En B sc env) (tp : Tp B A σ l s) (R : RS B σ H s.heap) (L : LR env s.heap σ lm) (e : eComp x capt t pe pi lm H = some (av, H'))
    {Q : Value → Shared → Prop} {E : Value → Shared → Prop} (h : ∀ C D s' σ' m, Step [] σ s σ' s' → RS B σ' H' s'.heap → s.heap.get? C = none → C ∉ σ' → s'.heap.Ns C m → VR s'.heap σ' av (.ref D) → compPost (model prog w) A E use Q (.ref D) C (.ok .next) s') :
    wpAny (model prog w) A (comprehension (.ListComp elt [⟨.Name (Str.ofString x) px, iter, ifs, 0⟩] csc pos) csc env ipos (newList []) false (eval iter env) use) Q E s := by
  have fr : ∀ y ∈ csc.names, y.2 = .free → ∃ c, env.cells.lookup y.1 = some c := fun y hy hf => n.cells _ (X.free y hy hf)
  have hclos : closureFor csc env = pure (clF env csc.names []) := by
    simp only [closureFor]
    rw [closure_eq _ _ fr]; rfl
  refine wpAny_comprehension_free (use := use) rfl (hfs env) hclos X.kind X.names ?_
  obtain ⟨⟨a, H₁⟩, e1, e2⟩ := Option.bind_eq_some_iff.mp e
  refine h1 Rm n tp R L e1 fun v s₁ σ₁ st₁ R₁ r₁ => ?_
  have L₁ := L.step st₁
  have dead : ∀ b, s₁.heap.get? b = none → s.heap.get? b = none := fun b hb => by
    cases q : s.heap.get? b with
    | none => rfl
    | some o => exact absurd hb (st₁.alive b (by rw [q]; exact fun q => (nomatch q)))
  have items : ∀ us, itemsOf a = some us → (compF x capt t pe H₁.length srcI (us.length + 1) us lm (H₁ ++ [.list []])).map (fun H' => (AV.ref H₁.length, H')) = some (av, H') →
      wpAny (model prog w) A (pyIter v) (fun it s₂ => wpAny (model prog w) A (newList []) (fun acc s₃ => wpAny (model prog w) A (newFunctionEnv csc env.globals (clF env csc.names []) [] env.qual none .none (some env)) (fun cenv s₄ =>
        codeAny (model prog w) A (.compStart (.ListComp elt [⟨.Name (Str.ofString x) px, iter, ifs, 0⟩] csc pos) 0 it acc { cenv with scope := relabel csc env }) (compPost (model prog w) A E use Q acc cenv.locals) s₄) E s₃) E s₂) E s₁ := by
    intro us e3 e4
    obtain ⟨H₂, e5, e6⟩ := Option.map_eq_some_iff.mp e4
    cases e6
    refine iter_ok (V := []) Rm.hh R₁ r₁ e3 .nil (fun _ q => nomatch q) fun I s₂ hI st₂ R₂ it => ?_
    have hIl := it.live
    have T := st₁.trans' st₂
    have L₂ := L₁.step st₂
    exact comp_block (IT := fun C σ h us => ItV prog w B σ h [C] I us) (RR := compPost (model prog w) A E use Q) X hnc he hi Rm n rfl e5 T R₂ L₂ tp (dead I hI) hIl (fun q => L₁.live I q hI)
      (fun C hC => Src.items (fun q => hIl (q ▸ hC))) (fun C hC => it.widen hC) fun C D s' σ' m st' R' hC hCσ hm rD => h C D s' σ' m st' R' hC hCσ hm rD
  cases a with
  | ref i =>
    simp only at e2
    obtain ⟨xs, e3, e4⟩ := Option.bind_eq_some_iff.mp e2
    obtain ⟨H₂, e5, e6⟩ := Option.map_eq_some_iff.mp e4
    cases e6
    obtain ⟨ax, vs, k, rfl, hσ, ha, hg, hv⟩ := R₁.list r₁ e3
    refine wpAny_pyIter_list (isL hg) ?_
    have hk : ∀ b o, s₁.heap.get? b = some o → (s₁.heap.push { cls := .type "list_iterator", data := .fields #[.ref ax, .int 0 0] }).get? b = some o := fun b o e => Heap.get?_push_of_some _ e
    have st₂ := step_keeps (σ := σ₁) (s := s₁) (tk := s₁.toks) hk (Nat.le_refl _)
    have gI : (s₁.heap.push { cls := .type "list_iterator", data := .fields #[.ref ax, .int 0 0] }).get? s₁.heap.objs.size = some { cls := .type "list_iterator", data := .fields #[.ref ax, .int 0 0] } := Heap.get?_push_size _ rfl
    have hIl : (s₁.heap.push { cls := .type "list_iterator", data := .fields #[.ref ax, .int 0 0] }).get? s₁.heap.objs.size ≠ none := by rw [gI]; exact fun q => (nomatch q)
    have hBI : B.get? s₁.heap.objs.size = none := by
      cases q : B.get? s₁.heap.objs.size with
      | none => rfl
      | some o => have := R₁.base _ _ q; rw [dead_next] at this; cases this
    exact comp_block (s := { s₁ with heap := s₁.heap.push { cls := .type "list_iterator", data := .fields #[.ref ax, .int 0 0] } }) (IT := fun C σ h j => ∃ a, σ[i]? = some a ∧ h.IsListIter s₁.heap.objs.size a j ∧ s₁.heap.objs.size ∉ σ) (RR := compPost (model prog w) A E use Q) X hnc he hi Rm n rfl e5 (st₁.trans' st₂) (R₁.keeps hk) (L₁.step st₂) tp (dead _ dead_next) hIl (fun q => L₁.live _ q dead_next)
      (fun C hC => Src.list (fun q => hIl (q ▸ hC)) hBI) (fun C hC => ⟨ax, hσ, ⟨_, gI, rfl, rfl⟩, fun q => R₁.live _ q dead_next⟩) fun C D s' σ' m st' R' hC hCσ hm rD => h C D s' σ' m st' R' hC hCσ hm rD
  | none => simp [itemsOf] at e2
  | bool b => simp [itemsOf] at e2
  | int b => simp [itemsOf] at e2
  | str cs =>
    obtain ⟨us, e3, e4⟩ := Option.bind_eq_some_iff.mp e2
    exact items us e3 e4
  | tup cs =>
    obtain ⟨us, e3, e4⟩ := Option.bind_eq_some_iff.mp e2
    exact items us e3 e4
  | lint cs =>
    obtain ⟨us, e3, e4⟩ := Option.bind_eq_some_iff.mp e2
    exact items us e3 e4
  | rng lo hi =>
    obtain ⟨us, e3, e4⟩ := Option.bind_eq_some_iff.mp e2
    exact items us e3 e4
theorem SE.comp {csc : Scope} {x : String} {capt : List String} {elt iter : Expr} {ifs : List Expr} {t : TP} {pe pi : EP} {px pos : Pos}
    (X : Csc csc sc x capt) (hnc : x ∉ capt) (he : SE prog w B l (relS csc sc) elt pe) (hi : Ifs prog w B l (relS csc sc) ifs t) (h1 : SE prog w B l sc iter pi) (hfs : ∀ env v, foldedSetIterable iter env v = pure v) :
    SE prog w B l sc (.ListComp elt [⟨.Name (Str.ofString x) px, iter, ifs, 0⟩] csc pos) (eComp x capt t pe pi) := by
  intro A env σ H lm s av H' Rm n tp R L e Q E h
  rw [eval_ListComp]
  refine comp_core (use := none) X hnc he hi h1 hfs Rm n tp R L e fun C D s' σ' m st' R' hC hCσ hm rD => ?_
  refine ⟨m, hm, fun h' hs => ?_⟩
  obtain ⟨k1, k2, k3⟩ := after_block st' R' R hC hCσ hm hs
  exact h _ _ σ' k1 k2 (k3 rD)
theorem SX.asgComp {csc : Scope} {x y : String} {capt : List String} {elt iter : Expr} {ifs : List Expr} {t : TP} {pe pi : EP} {px py pos spos : Pos}
    (X : Csc csc sc x capt) (hnc : x ∉ capt) (he : SE prog w B l (relS csc sc) elt pe) (hi : Ifs prog w B l (relS csc sc) ifs t) (h1 : SE prog w B l sc iter pi) (hfs : ∀ env v, foldedSetIterable iter env v = pure v)
    (hy : NK sc y) (hsw : ∀ env, env.scope = sc → swapsWith (.ListComp elt [⟨.Name (Str.ofString x) px, iter, ifs, 0⟩] csc pos) (some (.Name (Str.ofString y) py)) spos.line env = pure true) :
    SX prog w B l sc (.Assign [.Name (Str.ofString y) py] (.ListComp elt [⟨.Name (Str.ofString x) px, iter, ifs, 0⟩] csc pos) spos) (sAsg y (eComp x capt t pe pi)) := by
  intro A env σ H lm s fl lm' H' Rm n tp R L e Q E h
  refine bc fun hng => ?_
  obtain ⟨⟨a, H₁⟩, e1, e2⟩ := Option.map_eq_some_iff.mp e
  cases e2
  refine hng ?_
  rw [exec_Assign_Name_used _ _ _ _ (hsw env n.is)]
  refine wpAny_bind (wpAny_standAt (wpAny_bind ?_))
  show wpAny _ A (do let _ ← comprehension (.ListComp elt [⟨.Name (Str.ofString x) px, iter, ifs, 0⟩] csc pos) csc env _ (newList []) false (eval iter env) (some (assign (.Name (Str.ofString y) py) env))) _ _ s
  refine wpAny_bind (wpAny_mono (comp_core (Q := fun _ s' => Q .next s') (use := some (assign (.Name (Str.ofString y) py) env)) X hnc he hi h1 hfs Rm n tp R L e1 fun C D s' σ' m st' R' hC hCσ hm rD => ?_) (fun _ s' hq => wpAny_pure (wpAny_pure hq)) fun _ _ e => e)
  show wpAny _ A (assign (.Name (Str.ofString y) py) env (.ref D)) _ _ _
  have L' := L.step st'
  have hCv : C ∉ vol env := fun q => L.live C q hC
  refine assign_Name (store_ok n R' L' hy rD fun s'' st'' R'' L'' => ?_)
  have hm' : s''.heap.Ns C m := Ns_sm hm fun o e => st''.keep C o hCσ hCv e
  refine ⟨m, hm', fun h' hs => ?_⟩
  have T : Step (vol env) σ s σ' s'' := st'.weaken.transS st''
  have hk : ∀ b o, b ∉ [C] → s''.heap.get? b = some o → h'.get? b = some o := fun b o hb e => (hs.2 b (by simpa using hb)).trans e
  have hcl : VClean [C] s''.heap := fun b hb o e hf => by
    rw [List.mem_singleton.mp hb] at e
    obtain ⟨o', es, ep, e', hd, _⟩ := hm'
    rw [e] at e'; cases e'
    unfold Frz at hf; rw [hd] at hf; exact hf
  have T' : Step (vol env) σ s σ' { s'' with heap := h' } := by
    refine ⟨?_, T.pre, T.fresh, fun b o hb hv e => ?_, fun b o hb e d => ?_, fun b e => ?_, T.tok⟩
    rotate_left
    · have k1 := T.keep b o hb hv e
      obtain ⟨o', e'⟩ := k1.ex
      exact k1.trans e' (.inl (hk b o' (fun q => by rw [List.mem_singleton.mp q, hC] at e; cases e) e'))
    · obtain ⟨o', e', d'⟩ := T.dic b o hb e d
      exact ⟨o', hk b o' (fun q => by rw [List.mem_singleton.mp q, hC] at e; cases e) e', d'⟩
    rotate_left
    · obtain ⟨h₁, t₁, rfl⟩ := T.same
      exact ⟨h', t₁, rfl⟩
    · cases e' : s''.heap.get? b with
      | none => exact absurd e' (T.alive b e)
      | some o => show h'.get? b ≠ none; rw [hk b o (fun q => e (by rw [List.mem_singleton.mp q]; exact hC)) e']; exact fun q => (nomatch q)
  refine h _ _ σ' T' (R''.mono' hk (fun b hb => by rw [List.mem_singleton.mp hb]; exact hCσ) (fun b hb => ?_) hcl) (L''.mono (fun b hb o e => hk b o (fun q => hCv (List.mem_singleton.mp q ▸ hb)) e) fun b o _ hf e => hk b o (fun q => hcl b q o e hf) e) .mkN
  rw [List.mem_singleton.mp hb]
  cases q : B.get? C with
  | none => rfl
  | some o => have := R.base _ _ q; rw [hC] at this; cases this
end Mine
end
section
set_option maxRecDepth 20000
namespace Mine
variable {prog : Program} {w : World} {B : Heap} {mg mb : Str → Option Value} {l : Nat} {sc : Scope}
/-- the text's own exception class -/
structure Ex (K : Frag) (B : Heap) (mg : Str → Option Value) (x : String) (C : Addr) : Prop where
  X : K.In B
  own : OwnCls (Str.ofString x) C [.type "Exception", .type "BaseException", .type "object"] "Exception.__new__" mg B
  str : findIn K (.ref C) "__str__" = some (some (.builtin "BaseException.__str__"))
  sub : mroIn K C (.type "BaseException") = some true
noncomputable def ExcAtC (h : Heap) (e C : Addr) (a0 : Value) : Prop := ∃ o vs, h.get? e = some o ∧ o.cls = .ref C ∧ o.data = .fields vs ∧ vs[0]? = some a0
theorem typ_exc {M : Model} {s : Shared} {e C : Addr} {a0 : Value} (x : ExcAtC s.heap e C a0) : Looks M s.heap (typeOf (.ref e)) (.ref C) := by
  obtain ⟨o, vs, ho, hc, hd, _⟩ := x
  rw [← hc]
  exact (Looks.ld ho).andThen .now
theorem bes_kind : builtinKind "BaseException.__str__" = some .slot := by decide +kernel
theorem bes_split : splitId "BaseException.__str__" = some ("BaseException", "__str__") := by decide +kernel
theorem bes_plain : plainId "BaseException.__str__" = true := by decide +kernel
theorem str_own {K : Frag} {x : String} {C e t : Addr} {A : Around} {s : Shared} {m : Str} {tk : Tok} (X : Ex K B mg x C) (hB : ∀ b o, B.get? b = some o → s.heap.get? b = some o) (he : ExcAtC s.heap e C (.ref t)) (ht : s.heap.TupAt t [.str m tk]) (hu : A.units + 3 < cLine)
    {Q : Value → Shared → Prop} {E : Value → Shared → Prop} (h : Q (.str m tk) s) : wpAny (model prog w) A (call (.type "str") [.ref e]) Q E s := by
  have XK := X.X.keeps hB
  have call_it : ∀ {A' : Around} {Q' : Value → Shared → Prop} {E' : Value → Shared → Prop}, Q' (.str m tk) s → wpAny (model prog w) A' (call (.builtin "BaseException.__str__") [.ref e]) Q' E' s := by
    intro A' Q' E' hq
    with_reducible refine wpAny_call (codeAny_call_builtin bes_plain PySem.F.entry_bexc_str ?_)
    have hi : Looks (model prog w) s.heap (isInstance (.ref e) (.type "BaseException")) true := (typ_exc he).andThen (looks_subIn XK X.sub)
    with_reducible refine @check_slot (model prog w) _ _ _ "BaseException.__str__" "BaseException" "__str__" (.ref e) [] [] _ bes_kind bes_split hi (PySem.F.args_bexc_str _) ?_
    · unfold Builtin.«BaseException.__str__»
      have ba : ∀ {M : Model} {A : Around} {E : Value → Shared → Prop} {Q : Value × List Value → Shared → Prop}, Q (.ref t, [.str m tk]) s → wpAny M A (Builtin.BaseException.bexcArgs (.ref e)) Q E s := by
        intro M A E Q hq
        obtain ⟨o, vs, ho, _, hd, h0⟩ := he
        obtain ⟨ot, k, hto, _, htd⟩ := ht
        unfold Builtin.BaseException.bexcArgs
        refine wpAny_bind (wpAny_field ho hd h0 (wpAny_bind (wpAny_seqItems hto htd ?_)))
        exact wpAny_pure hq
      repeat (first | with_reducible refine ba ?_ | wp_step)
      exact hq
  refine callType_codes (T := "str") (Bi := Builtin.«object.__init__») (Q₁ := fun r s₁ => r = .str m tk ∧ s₁ = s) PySem.F.called_str (PySem.F.typeCall_str_1 _) PySem.F.entry_object_init ?_ ?_
  · refine codeAny_of_tree ?_
    show wpAny _ A.in1.in1 (do checkBuiltinCall "str.__new__" ⟨[.type "str", .ref e], []⟩; again (.builtin "str.__new__" ⟨[.type "str", .ref e], []⟩)) _ _ s
    refine wpAny_bind (wpAny_of_eq (PySem.F.newCall_str_1 _) (wpAny_pure ⟨plainId_quiet (by decide +kernel) _, codeAny_builtin PySem.F.entry_str_new ?_⟩))
    rw [Around.under_plainId (by decide +kernel) _]
    rw [str_new_tree]
    refine wpAny_bind (wpAny_pure ?_)
    refine wpAny_bind (wpAny_of_eq isSubtype_str_str ?_)
    refine wpAny_bind ?_
    unfold PySem.Builtin.Str.strOf
    rw [show PySem.Builtin.Str.isExactStr (.ref e) = false from rfl]
    refine wpAny_bind (m := cRoomFor _ _) (wpAny_cRoomFor (by show A.units + 1 + 1 < cLine; omega) ?_)
    refine wpAny_bind (m := callSpecial? (.ref e) (Str.ofString "__str__")) ?_
    unfold callSpecial? specialOf
    refine wpAny_bind (wpAny_bind ((typ_exc he).here ((looks_findIn XK X.str).here ?_)))
    refine wpAny_holding (wpAny_bind (wpAny_of_eq (PySem.F.excStr_Exception.str.bind _) ?_))
    exact wpAny_bind (call_it (wpAny_pure (wpAny_pure (wpAny_pure ⟨rfl, rfl⟩))))
  · rintro obj s₁ ⟨rfl, rfl⟩
    exact ⟨typeIs_str _ _ _, PySem.F.args_object_init_2 _ _, object_init_meets PySem.F.called_str.init.lookup PySem.F.called_str.made (by decide) prog w A.in1 _ s₁ ⟨typeIs_str _ _ _, rfl, h⟩⟩
end Mine
end
section
set_option maxRecDepth 20000
namespace Mine
variable {prog : Program} {w : World} {B : Heap} {mg mb : Str → Option Value} {l : Nat} {sc : Scope}
/-- what a raise leaves of the heap -/
theorem after_raise {σ : List Addr} {H : Hp} {s : Shared} {Fs : List Addr} {h' : Heap} (R : RS B σ H s.heap) (hF : ∀ b ∈ Fs, b ∉ σ ∧ B.get? b = none ∧ ∃ o, s.heap.get? b = some o ∧ IsD o)
    (hb : (hideAll s.heap Fs).StaysIn h') (hu : s.heap.UpToSlots h') : Step [] σ s σ { s with heap := h' } ∧ RS B σ H h' := by
  have ex : ∀ b o, b ∉ Fs → s.heap.get? b = some o → h'.get? b = some o := fun b o hn e => hb b o (hideAll_get _ e hn)
  have sm : ∀ b o, s.heap.get? b = some o → Sm o (h'.get? b) := fun b o e => by
    by_cases q : b ∈ Fs
    · obtain ⟨_, _, o', e', d⟩ := hF b q
      rw [e] at e'; cases e'
      obtain ⟨sl, e2⟩ := hu b o e (fun vs hd => by obtain ⟨es, n, hd'⟩ := d; rw [hd'] at hd; cases hd)
      exact .inr ⟨d, sl, e2⟩
    · exact .inl (ex b o q e)
  refine ⟨⟨⟨h', s.toks, rfl⟩, List.prefix_refl _, fun _ a b => absurd a b, fun b o _ _ e => sm b o e, fun b o _ e d => (sm b o e).dic d, fun b e => ?_, Nat.le_refl _⟩, R.mono' (V := Fs) ex (fun b hb => (hF b hb).1) (fun b hb => (hF b hb).2.1) fun b hb o e hf => ?_⟩
  · cases q : s.heap.get? b with
    | none => exact absurd q e
    | some o =>
      obtain ⟨o', e'⟩ := (sm b o q).ex
      show h'.get? b ≠ none
      rw [e']; exact fun q => (nomatch q)
  · obtain ⟨_, _, o', e', d⟩ := hF b hb
    rw [e] at e'; cases e'
    exact hf.notD d
theorem funFrames_of {base h : Heap} : ∀ {l : List Env}, (∀ e ∈ l, e.scope.kind ≠ .module ∧ ∃ L o, e.frame = some L ∧ base.get? L = none ∧ h.get? L = some o ∧ IsD o) → h.FunFrames base l
  | [], _ => trivial
  | e :: r, h => by
    obtain ⟨k, L, o, h1, h2, h3, es, n, hd⟩ := h e (.head _)
    exact ⟨k, ⟨L, o, h1, h2, h3, fun vs q => by rw [hd] at q; cases q⟩, funFrames_of fun e he => h e (.tail _ he)⟩
/-- the exception under way, and what it left -/
structure Rsd (B : Heap) (σ : List Addr) (s : Shared) (outer : List Env) (e C t : Addr) (args : List Value) (G : Heap) (h' : Heap) : Prop where
  fly : Heap.FlyingW G outer e (.ref C) (.ref t) h'
  tup : h'.TupAt t args
  stays : ∃ Fs, (∀ b ∈ Fs, b ∉ σ ∧ B.get? b = none ∧ ∃ o, s.heap.get? b = some o ∧ IsD o) ∧ ∀ b o, (hideAll s.heap Fs).get? b = some o → G.get? b = some o
  up : s.heap.UpToSlots h'
/-- the raise in the callee's body, seen from the call -/
theorem raise_call {K : Frag} {x : String} {C f : Addr} {ps : List String} {test : Expr} {rest : List Stmt} {y : String} {p1 p2 p3 p4 p5 : Pos} {t : TP} (X : Ex K B mg x C) (G : GB B mg mb) (F : Fn B f ps (.If test [.Raise (some (.Call (.Name (Str.ofString x) p1) [.Name (Str.ofString y) p2] [] p3)) none p4] [] p5 :: rest) sc)
    (hT : ST prog w B l sc test t) (hnc : ∀ x ∈ sc.names, x.2 ≠ .cell) (hps : ps ≠ []) (hx : sc.names.lookup (Str.ofString x) = some .globalImplicit) (hdx : x ≠ "__debug__") (hdy : y ≠ "__debug__")
    {A : Around} {σ : List Addr} {H H' : Hp} {s : Shared} {avs : List AV} {vs : List Value} {cs : List Nat} (Rm : Rm A (l + 1)) (fp : Fp B A σ s.heap) (R : RS B σ H s.heap) (ra : VRs s.heap σ avs vs) (hlen : avs.length = ps.length)
    (e1 : t (bindA ps avs) H = some (true, H')) (e2 : bindA ps avs y = some (.str cs)) {outer : List Env} (ho : A.frames = some outer)
    {Q : Value → Shared → Prop} {E : Value → Shared → Prop} (hE : ∀ e t tk h' s₁ σ₁ G', Step [] σ s σ₁ s₁ → RS B σ₁ H' s₁.heap → Rsd B σ₁ s₁ outer e C t [.str ⟨cs.toArray⟩ tk] G' h' → E (.ref e) { s₁ with heap := h' }) :
    wpAny (model prog w) A (call (.ref f) vs) Q E s := by
  refine bc fun hng => ?_
  obtain ⟨o, fd, ho', hd, hcd, hbody, rfl, hgl, hbu, hclo, hbind⟩ := F.ex
  refine hng ?_
  have hvl : vs.length = ps.length := by rw [ra.length, hlen]
  have loc : ∀ p ∈ ps, fd.scope.names.lookup (Str.ofString p) = some .local := fun p hp => by
    rcases F.kinds p hp with k | k
    · exact k
    · exact absurd rfl (hnc _ (lookup_mem k))
  have hlz : ((ps.map Str.ofString).zip vs).length = ps.length := by simp; omega
  have env_cells : (callEnv fd s.heap.objs.size f).cells = [] := hclo
  have hv : ∀ b ∈ vol (callEnv fd s.heap.objs.size f), s.heap.get? b = none := by
    intro b hb
    unfold vol at hb
    rw [env_cells] at hb
    rw [List.mem_singleton.mp hb]; exact dead_next
  have hn : En B fd.scope (callEnv fd s.heap.objs.size f) := by
    refine ⟨rfl, F.kind, hgl, hbu, fun b hb => ?_, fun x hx => absurd rfl (hnc _ (lookup_mem hx))⟩
    cases q : B.get? b with
    | none => rfl
    | some o => have := R.base b o q; rw [hv b hb] at this; cases this
  have hpos : 0 < ps.length := List.length_pos_iff.mpr hps
  with_reducible refine wpAny_with_toks (Nat.le_refl s.toks) (wpAny_call ?_)
  refine codeAny_call_def Rm.room (R.base _ _ ho') hd (G.lim.keeps R.base) (hcd.keeps R.base) hbody (BindsTo.of_eq (hbind vs hvl)) hnc ?_ (fun h₁ hns hk => ?_) F.co F.gen F.kind
  · rintro ⟨x, v⟩ hx
    obtain ⟨y, hy, rfl⟩ := List.mem_map.mp (List.of_mem_zip hx).1
    exact loc y hy
  · have R₁ : RS B σ H h₁ := R.keeps hk
    have fr : ∀ b o, b ∉ σ → Frz o → s.heap.get? b = some o → h₁.get? b = some o ∧ b ∉ σ := fun b o hb _ e => ⟨hk b o e, hb⟩
    have hLσ : s.heap.objs.size ∉ σ := fun q => R.live _ q dead_next
    have L₁ : LR (callEnv fd s.heap.objs.size f) h₁ σ (bindA ps avs) := ⟨⟨_, hns⟩, hLσ, (by rw [env_cells]; exact fun _ _ q => (nomatch q)), (by rw [env_cells]; intro x y c q; simp at q), fun x a hx => by
      obtain ⟨v, h1, h2, h3⟩ := bindA_get ra hx
      refine ⟨v, .inl ⟨(hn.kindOf _).trans (loc x h3), _, hns, ?_⟩, h2.mono fr (List.prefix_refl _)⟩
      have nd := zip_nodup F.nd hvl
      have : (((ps.map Str.ofString).zip vs).reverse.map (·.1)).Nodup := by rw [List.map_reverse]; exact (List.reverse_perm _).nodup_iff.mpr nd
      exact lookup_of_mem this (List.mem_reverse.mpr h1)⟩
    have fpD : Fp B (A.deeper (callEnv fd s.heap.objs.size f)) σ h₁ := fp.deeper hk F.kind rfl (hn.new _ (.head _)) hLσ ⟨_, hns⟩
    have st0 : Step [] σ s σ { s with heap := h₁, toks := s.toks + ((ps.map Str.ofString).zip vs).length } := step_keeps hk (Nat.le_add_right _ _)
    have tp : Tp B (A.deeper (callEnv fd s.heap.objs.size f)) σ l { s with heap := h₁, toks := s.toks + ((ps.map Str.ofString).zip vs).length } := ⟨fun _ => by show 0 < s.toks + _; omega, fpD⟩
    with_reducible refine wpAny_execs_cons (wpAny_If (hT Rm.deeper hn tp R₁ L₁ e1 fun s₂ σ₂ x₂ R₂ => ?_))
    rw [if_pos rfl]
    with_reducible refine wpAny_execs_cons ?_
    have L₂ := L₁.step x₂
    have fp₂ := (tp.up x₂).f
    have own := X.own.keeps R₂.base
    refine bc fun hng => ?_
    obtain ⟨tl, N, nm, q, bs, hdct, sn, sub, ab, col, dd, k0, k1, k2, k3, k5, mN, hC, hN, hni, T⟩ := own.obj
    refine hng ?_
    have FB := PySem.F.excBase_Exception
    refine wpAny_Raise_call_subT (C := C) (nm := nm) (q := q) (N := N) (bs := bs) (bm := tl) (hdct := hdct) (sn := sn) (sub := sub) (ab := ab) (col := col) (dd := dd) (k0 := k0) (k1 := k1) (k2 := k2) (k3 := k3) (k5 := k5)
      FB (mN := mN) (T.hasType FB.hasBase) Rm.hh rfl hni ?_
    refine Calls.Name_function_global hn.fn ((hn.kindOf _).trans hx) (Calls.loadGlobal_global (by rw [hn.g]; exact Heap.Ns.at'' G.g (R₂.base _)) X.own.bound ⟨rfl, ?_⟩) (dbg_ne hdx)
    refine bc fun hng => ?_
    obtain ⟨v, hv2, r2⟩ := L₂.vars y _ e2
    simp only [VR] at r2
    obtain ⟨tk, rfl⟩ := r2
    refine hng ?_
    have h0 : ∀ {E' : Value → Shared → Prop}, wpAny (model prog w) (A.deeper (callEnv fd s.heap.objs.size f)) (spliced (backTo p3 (starEach [.Name (Str.ofString y) p2] (callEnv fd s.heap.objs.size f)))) (fun vs s₃ => vs = [.str ⟨cs.toArray⟩ tk] ∧ s₃ = s₂) E' s₂ := by
      intro E'
      refine spliced_more (wpAny_Name ?_ (dbg_ne hdy))
      have go : wpAny (model prog w) (A.deeper (callEnv fd s.heap.objs.size f)) (spliced (backTo p3 (starEach [] (callEnv fd s.heap.objs.size f)))) (fun vs s₃ => Value.str ⟨cs.toArray⟩ tk :: vs = [.str ⟨cs.toArray⟩ tk] ∧ s₃ = s₂) E' s₂ := spliced_none ⟨rfl, rfl⟩
      rcases hv2 with ⟨k, m, hm1, hm2⟩ | ⟨k, c, hc, hi⟩
      · exact wpAny_loadName_local hn.fn k hm1 hm2 go
      · rw [env_cells] at hc; simp at hc
    have he : starEach [.Name (Str.ofString y) p2] (callEnv fd s.heap.objs.size f) = (false, eval (.Name (Str.ofString y) p2) (callEnv fd s.heap.objs.size f)) :: starEach [] (callEnv fd s.heap.objs.size f) := rfl
    rw [he] at h0 ⊢
    refine Calls.evalArgs_plain (wpAny_mono h0 (fun vs s₃ h₃ => ?_) fun _ _ y => y)
    obtain ⟨rfl, rfl⟩ := h₃
    refine ⟨rfl, by size_fits, hC, hN, T, fun h₃ e hm => ?_⟩
    refine bc fun hng => ?_
    obtain ⟨l', hl', hfr⟩ := fp₂
    have hl'' : l' = callEnv fd s.heap.objs.size f :: outer := by
      have := Around.frames_deeper (env := callEnv fd s.heap.objs.size f) ho
      rw [hl'] at this; exact Option.some.inj this
    subst hl''
    let Fs := (callEnv fd s.heap.objs.size f :: outer).filterMap (·.frame)
    have hFs : ∀ b ∈ Fs, b ∉ σ₂ ∧ B.get? b = none ∧ ∃ o, s₃.heap.get? b = some o ∧ IsD o := fun b hb => by
      obtain ⟨e', he', hf'⟩ := List.mem_filterMap.mp hb
      obtain ⟨_, L, o, q1, q2, q3, q4, q5⟩ := hfr e' he'
      rw [hf'] at q1; cases q1
      exact ⟨q3, q2, o, q4, q5⟩
    have hfun : s₃.heap.FunFrames (hideAll s₃.heap Fs) (callEnv fd s.heap.objs.size f :: outer) := funFrames_of fun e' he' => by
      obtain ⟨k, L, o, q1, q2, q3, q4, q5⟩ := hfr e' he'
      exact ⟨k, L, o, q1, hideAll_none _ (List.mem_filterMap.mpr ⟨e', he', q1⟩), q4, q5⟩
    refine hng ?_
    refine wpAny_leaves_madeW (base := hideAll s₃.heap Fs) hl' rfl (fun b o q => of_hideAll _ q) hfun hm fun h₄ t' y1 y2 y3 y4 hle => ?_
    have Fs' : ∀ b ∈ Fs, b = s.heap.objs.size ∨ b ∈ outer.filterMap (·.frame) := fun b hb => by
      obtain ⟨e', he', hf'⟩ := List.mem_filterMap.mp hb
      rcases List.mem_cons.mp he' with rfl | he'
      · exact .inl (Option.some.inj hf').symm
      · exact .inr (List.mem_filterMap.mpr ⟨e', he', hf'⟩)
    have up : s₃.heap.UpToSlots h₄ := (Heap.UpToSlots.of_keeps hm.keeps).trans y4
    refine hE e t' tk h₄ s₃ σ₂ (hideAll s₃.heap Fs) (st0.trans' x₂) R₂ ⟨y1, y2, ⟨Fs, hFs, fun b o q => q⟩, up⟩
end Mine
end
section
set_option maxRecDepth 20000
namespace Mine
variable {prog : Program} {w : World} {B : Heap} {mg mb : Str → Option Value} {l : Nat} {sc : Scope}
/-- a statement in a body whose frame is the innermost one -/
noncomputable abbrev SXF (prog : Program) (w : World) (B : Heap) (l : Nat) (sc : Scope) (st : Stmt) (q : SP) : Prop :=
  ∀ {A : Around} {env : Env} {σ : List Addr} {H : Hp} {lm : LM} {s : Shared} {fl : Fl} {lm' : LM} {H' : Hp}, Rm A l → En B sc env → Tp B A σ l s → (∃ outer, A.frames = some (env :: outer)) → RS B σ H s.heap → LR env s.heap σ lm → q lm H = some (fl, lm', H') →
    ∀ {Q : Flow → Shared → Prop} {E : Value → Shared → Prop}, (∀ f s' σ', Step (vol env) σ s σ' s' → RS B σ' H' s'.heap → LR env s'.heap σ' lm' → FlR s'.heap σ' fl f → Q f s') → wpAny (model prog w) A (exec st env) Q E s
noncomputable abbrev SXsF (prog : Program) (w : World) (B : Heap) (l : Nat) (sc : Scope) (sts : List Stmt) (q : SP) : Prop :=
  ∀ {A : Around} {env : Env} {σ : List Addr} {H : Hp} {lm : LM} {s : Shared} {fl : Fl} {lm' : LM} {H' : Hp}, Rm A l → En B sc env → Tp B A σ l s → (∃ outer, A.frames = some (env :: outer)) → RS B σ H s.heap → LR env s.heap σ lm → q lm H = some (fl, lm', H') →
    ∀ {Q : Flow → Shared → Prop} {E : Value → Shared → Prop}, (∀ f s' σ', Step (vol env) σ s σ' s' → RS B σ' H' s'.heap → LR env s'.heap σ' lm' → FlR s'.heap σ' fl f → Q f s') → wpAny (model prog w) A (execs sts env) Q E s
theorem SX.toF {st : Stmt} {q : SP} (h : SX prog w B l sc st q) : SXF prog w B l sc st q := by
  intro A env σ H lm s fl lm' H' Rm n tp hF R L e Q E h'
  exact h Rm n tp R L e h'
theorem SXs.toF {st : List Stmt} {q : SP} (h : SXs prog w B l sc st q) : SXsF prog w B l sc st q := by
  intro A env σ H lm s fl lm' H' Rm n tp hF R L e Q E h'
  exact h Rm n tp R L e h'
theorem SXsF.cons {st : Stmt} {sts : List Stmt} {p q : SP} (h1 : SXF prog w B l sc st p) (h2 : SXsF prog w B l sc sts q) : SXsF prog w B l sc (st :: sts) (sSeq p q) := by
  intro A env σ H lm s fl lm' H' Rm n tp hF R L e Q E h
  refine bc fun hng => ?_
  obtain ⟨⟨f₁, lm₁, H₁⟩, e1, e⟩ := Option.bind_eq_some_iff.mp e
  refine hng ?_
  with_reducible refine wpAny_execs_cons (h1 Rm n tp hF R L e1 fun f s' σ' x R' L' r => ?_)
  cases f₁ with
  | next =>
    cases r
    exact h2 Rm n (Tp.up tp x) hF R' L' e fun f s'' σ'' x' R'' L'' r' => h f s'' σ'' (x.transS x') R'' L'' r'
  | brk =>
    cases r
    cases e
    exact h _ _ _ x R' L' rfl
  | ret a =>
    obtain ⟨v, rfl, r⟩ := r
    cases e
    exact h _ _ _ x R' L' ⟨v, rfl, r⟩
/-- the locals' namespace turns -/
theorem turn_ns {env : Env} {σ : List Addr} {H : Hp} {lm : LM} {s : Shared} (n : En B sc env) (R : RS B σ H s.heap) (L : LR env s.heap σ lm) {h' : Heap} {m' : Str → Option Value} {tk : Nat} (hn : h'.Ns env.locals m') (hs : Heap.SameBut env.locals s.heap h') (ht : s.toks ≤ tk) :
    Step (vol env) σ s σ { s with heap := h', toks := tk } ∧ RS B σ H h' ∧ LR env h' σ (fun _ => none) := by
  have hl : h'.get? env.locals ≠ none := by
    obtain ⟨o, es, ep, e, _⟩ := hn
    rw [e]; exact fun q => nomatch q
  have st : Step (vol env) σ s σ { s with heap := h', toks := tk } := ⟨⟨h', _, rfl⟩, List.prefix_refl _, fun _ a b => absurd a b, fun b o _ hv e => .inl ((hs.2 b (fun q => hv (q ▸ .head _))).trans e), fun b o _ e d => by
      by_cases q : b = env.locals
      · obtain ⟨o', es, ep, e', hd, _⟩ := hn
        exact ⟨o', by rw [q]; exact e', es, ep, hd⟩
      · exact ⟨o, (hs.2 b q).trans e, d⟩, fun b e => by
      by_cases q : b = env.locals
      · rw [q]; exact hl
      · show h'.get? b ≠ none; rw [hs.2 b q]; exact e, ht⟩
  have cl : VClean [env.locals] s.heap := fun b hb o e hf => L.clean b (by rw [List.mem_singleton.mp hb]; exact .head _) o e hf
  refine ⟨st, R.mono' (V := [env.locals]) (fun b o hb e => (hs.2 b (by simpa using hb)).trans e) (fun b hb => by rw [List.mem_singleton.mp hb]; exact L.out) (fun b hb => n.new b (by rw [List.mem_singleton.mp hb]; exact .head _)) cl,
    ⟨_, hn⟩, L.out, fun y c hm => ?_, L.apart, fun y av' e => nomatch e⟩
  obtain ⟨⟨ov, hc⟩, h2, h3⟩ := L.cells y c hm
  exact ⟨⟨ov, isCell_at hc fun o e => (hs.2 c h3).trans e⟩, h2, h3⟩
noncomputable def qTry (t : TP) (g : FG) : SP := fun lm H => (lm "text").bind fun a => match a with
  | .str cs => (t (bindA ["resp"] [.str cs]) H).bind fun b => if b.1 = true then some (.ret (.int 0), fun _ => none, b.2) else (g [.str cs] H).map fun r => (.next, upd lm "name" r.1, r.2)
  | _ => none
theorem SXF.tryP {K : Frag} {C f : Addr} {scP : Scope} {test : Expr} {rest : List Stmt} {l' : Nat} {q1 q2 q3 q4 q5 p1 p2 p3 p4 p5 p6 p7 p8 p9 p10 p11 p12 p13 p14 p15 p16 : Pos} {k1 : Nat} {eN : Expr} {t : TP} {g : FG}
    (X : Ex K B mg "error_reply" C) (G : GB B mg mb) (F : Fn B f ["resp"] (.If test [.Raise (some (.Call (.Name (Str.ofString "error_reply") q1) [.Name (Str.ofString "resp") q2] [] q3)) none q4] [] q5 :: rest) scP)
    (hT : ST prog w B l' scP test t) (hnc : ∀ x ∈ scP.names, x.2 ≠ .cell) (hx : scP.names.lookup (Str.ofString "error_reply") = some .globalImplicit)
    (hf : mg (Str.ofString "parse257") = some (.ref f)) (kp : Kp prog w B (.ref f)) (fc : FC prog w B (l' + 1) (.ref f) g) (hl : l' + 1 ≤ l)
    (hs : Bi mg mb "str" (.type "str"))
    (k_text : sc.names.lookup (Str.ofString "text") = some .local) (k_name : sc.names.lookup (Str.ofString "name") = some .local) (k_fault : sc.names.lookup (Str.ofString "fault") = some .local)
    (k_parse : sc.names.lookup (Str.ofString "parse257") = some .globalImplicit) (k_err : sc.names.lookup (Str.ofString "error_reply") = some .globalImplicit) (k_str : sc.names.lookup (Str.ofString "str") = some .globalImplicit) :
    SXF prog w B l sc (.Try [.Assign [.Name (Str.ofString "name") p1] (.Call (.Name (Str.ofString "parse257") p2) [.Name (Str.ofString "text") p3] [] p4) p5]
      [.ExceptHandler (some (.Name (Str.ofString "error_reply") p6)) (some (Str.ofString "fault")) [.Return (some (.IfExp (.Compare (.Call (.Name (Str.ofString "str") p7) [.Name (Str.ofString "fault") p8] [] p9) [.Eq] [.Name (Str.ofString "text") p10] p11) (.Constant (.int 0) k1 p12) eN p13)) p14] p15] [] [] p16) (qTry t g) := by
  intro A env σ H lm s fl lm' H' Rm n tp hF R L e Q E h
  refine bc fun hng => ?_
  obtain ⟨a, ea, e⟩ := Option.bind_eq_some_iff.mp e
  cases a <;> simp only at e <;> try (cases e; done)
  rename_i cs
  obtain ⟨⟨b, H₁⟩, e1, e2⟩ := Option.bind_eq_some_iff.mp e
  cases b with
  | false =>
    rw [if_neg Bool.false_ne_true] at e2
    obtain ⟨⟨v, H₂⟩, e3, e4⟩ := Option.map_eq_some_iff.mp e2
    cases e4
    refine hng ?_
    refine wpAny_Try_except ?_
    with_reducible refine wpAny_execs_cons ?_
    have h1 : SX prog w B l sc (.Assign [.Name (Str.ofString "name") p1] (.Call (.Name (Str.ofString "parse257") p2) [.Name (Str.ofString "text") p3] [] p4) p5) (sAsg "name" (cG g (esC (vV "text") esN))) :=
      SX.asg (SE.callG fc kp G hf (SEs.cons (SE.var (dbg_ne (by decide))) SEs.nil fun _ => rfl) hl k_parse (dbg_ne (by decide)) (fun _ => rfl) fun _ => rfl) (.inl k_name) fun _ => rfl
    refine h1 Rm n tp R L (lm' := upd lm "name" v) (fl := .next) (H' := H₂) ?_ fun f s' σ' x R' L' r => ?_
    · unfold sAsg cG esC vV esN
      rw [ea]
      simp only [Option.map_some, Option.bind_some, e3]
    · cases r
      exact wpAny_execs_nil (wpAny_execs_nil (h _ _ _ x R' L' .mkN))
  | true =>
    rw [if_pos rfl] at e2
    cases e2
    obtain ⟨outer, ho⟩ := hF
    have fpS := tp.f
    obtain ⟨lf, hlf, hfr⟩ := fpS
    rw [ho] at hlf; cases hlf
    obtain ⟨hkm, Lf, oL, hfL, hLB, hLσ, hLo, hLd⟩ := hfr env (.head _)
    refine hng ?_
    refine wpAny_Try_except ?_
    with_reducible refine wpAny_execs_cons ?_
    with_reducible refine wpAny_Assign_Name ?_ rfl
    refine Call_ ?_
    refine Calls.Name_function_global n.fn ((n.kindOf _).trans k_parse) (Calls.loadGlobal_global (by rw [n.g]; exact Heap.Ns.at'' G.g (R.base _)) hf ?_) (dbg_ne (by decide))
    refine callWith_of (P := fun h => B.StaysIn h) rfl (fun h hb => by obtain ⟨k, a, b⟩ := kp; exact ⟨k, a, b.keeps hb⟩) ?_
    have he : starEach [.Name (Str.ofString "text") p3] env = (false, eval (.Name (Str.ofString "text") p3) env) :: starEach [] env := rfl
    have hargs : ∀ {Q' : List Value → Shared → Prop} {E' : Value → Shared → Prop}, (∀ vs s' σ', Step [] σ s σ' s' → RS B σ' H s'.heap → VRs s'.heap σ' [.str cs] vs → Q' vs s') → wpAny (model prog w) A (spliced (backTo p4 (starEach [.Name (Str.ofString "text") p3] env))) Q' E' s := by
      intro Q' E' hq
      have h1 : SEs prog w B l sc [.Name (Str.ofString "text") p3] (esC (vV "text") esN) := SEs.cons (SE.var (dbg_ne (by decide))) SEs.nil fun _ => rfl
      exact h1 Rm n tp R L (by unfold esC vV esN; rw [ea]; rfl) hq
    rw [he] at hargs ⊢
    refine Calls.evalArgs_plain (hargs fun vs s' σ' x' R' r' => ⟨R'.base, ?_⟩)
    rw [List.nil_append]
    refine raise_call X G F hT hnc (by simp) hx (by decide) (by decide) (Rm.le hl) (tp.up x').f R' r' rfl e1 (by rfl) ho fun ex t' tk h₁ s₁ σ₁ G' st₁ R₁ rs => ?_
    obtain ⟨fly, tup, ⟨Fs, hFs, hG⟩, up⟩ := rs
    have T₁ := x'.trans' st₁
    have L₁ := L.step T₁
    -- the station
    refine wpAny_looks_onW (s := { s₁ with heap := h₁ }) ho hfL fly fun h₄ held₄ up₄ => ?_
    refine wpAny_landsW (s := { s₁ with heap := h₄ }) held₄ fun h₅ fly₅ up₅ => ?_
    have stG : ∀ h, Heap.FlyingW G' (env :: outer) ex (.ref C) (.ref t') h → (hideAll s₁.heap Fs).StaysIn h := fun h fl b o q => fl.1 b o (hG b o q)
    have R₅ := (after_raise R₁ hFs (stG _ fly₅) ((up.trans up₄).trans up₅)).2
    obtain ⟨ob, hob, hobc⟩ := fly₅.there
    refine wpAny_handleBy_cons (codeAny_handlers_test ?_) (by intro q; cases q)
    refine Calls.Name_function_global n.fn ((n.kindOf _).trans k_err) (Calls.loadGlobal_global (by rw [n.g]; exact Heap.Ns.at'' G.g (R₅.base _)) X.own.bound ?_) (dbg_ne (by decide))
    refine bc fun hng => ?_
    obtain ⟨tl, N, nm, q, bs, hdct, sn, sub, ab, col, dd, k0, kk1, k2, k3, k5, mN, hC, hN, hni, TL⟩ := (X.own.keeps R₅.base).obj
    refine hng ?_
    refine wpAny_excMatches_sub_self hC hob hobc (TL.hasType (by decide)) (codeAny_handlers_suite_as ?_)
    refine lands_againW (s := { s₁ with heap := h₅ }) fly₅ fun h₆ fly₆ up₆ => ?_
    have upA := ((up.trans up₄).trans up₅).trans up₆
    refine bc fun hng => ?_
    obtain ⟨T₆, R₆⟩ := after_raise R₁ hFs (stG _ fly₆) upA
    have L₆ := L₁.step T₆
    have tup₆ : h₆.TupAt t' [.str ⟨cs.toArray⟩ tk] := ((tup.of_slots up₄).of_slots up₅).of_slots up₆
    obtain ⟨m₆, hn₆⟩ := L₆.ns
    have hp : (env.scope.kind == .class || (env.scope.kind == .module && env.locals != env.globals)) = false := by rw [n.fn]; rfl
    refine hng ?_
    refine wpAny_storeName_local (s := { s₁ with heap := h₆ }) ((n.kindOf _).trans k_fault) hn₆ (fun h₇ hn₇ hs₇ => ?_) hp
    have exC₆ : ExcAtC h₆ ex C (.ref t') := by
      obtain ⟨_, _, _, oe, vs, T, oT, ts, a1, ⟨a2, a3⟩, a4, _⟩ := fly₆
      exact ⟨oe, vs, a1, a2, a4, a3⟩
    have neL : ∀ b o, h₆.get? b = some o → ¬ IsD o → b ≠ env.locals := fun b o e nd q => by
      subst q
      obtain ⟨o', es, ep, e', hd, _⟩ := hn₆
      rw [e] at e'; cases e'
      exact nd ⟨es, ep, hd⟩
    have exC : ExcAtC h₇ ex C (.ref t') := by
      obtain ⟨o, vs, g1, g2, g3, g4⟩ := exC₆
      exact ⟨o, vs, (hs₇.2 _ (neL _ _ g1 (notD_f g3))).trans g1, g2, g3, g4⟩
    have tup₇ : h₇.TupAt t' [.str ⟨cs.toArray⟩ tk] := by
      obtain ⟨o, k, g1, g2, g3⟩ := tup₆
      exact ⟨o, k, (hs₇.2 _ (neL _ _ g1 (by rintro ⟨es, n, hd⟩; rw [g3] at hd; cases hd))).trans g1, g2, g3⟩
    have base₇ : ∀ b o, B.get? b = some o → h₇.get? b = some o := fun b o q => (hs₇.2 _ (fun z => by rw [z, n.new _ (.head _)] at q; cases q)).trans (R₆.base b o q)
    -- the suite
    with_reducible refine wpAny_execs_cons (wpAny_Return_some (wpAny_IfExp (wpAny_isTrue_Compare1 ?_ rfl)))
    refine Call_ ?_
    refine Calls.Name_function_global n.fn ((n.kindOf _).trans k_str) (Calls.loadGlobal_builtin (by rw [n.g]; exact Heap.Ns.at'' G.g (base₇ _)) hs.1 (by rw [n.b]; exact Heap.Ns.at'' G.b (base₇ _)) hs.2 ?_) (dbg_ne (by decide))
    refine callWith_of (P := fun h => h = h₇) rfl (fun h hb => ⟨.machine, .inr (.inl rfl), Looks.of_pure rfl⟩) ?_
    have he2 : starEach [.Name (Str.ofString "fault") p8] env = (false, eval (.Name (Str.ofString "fault") p8) env) :: starEach [] env := rfl
    have harg2 : ∀ {Q' : List Value → Shared → Prop} {E' : Value → Shared → Prop}, Q' [.ref ex] { s₁ with heap := h₇, toks := s₁.toks + 1 } → wpAny (model prog w) (A.mark (some (.ref ex))) (spliced (backTo p9 (starEach [.Name (Str.ofString "fault") p8] env))) Q' E' { s₁ with heap := h₇, toks := s₁.toks + 1 } := by
      intro Q' E' hq
      exact spliced_more (wpAny_Name (wpAny_loadName_local n.fn ((n.kindOf _).trans k_fault) hn₇ (by simp) (spliced_none hq)) (dbg_ne (by decide)))
    rw [he2] at harg2 ⊢
    refine Calls.evalArgs_plain (harg2 ⟨rfl, ?_⟩)
    rw [List.nil_append]
    have hu : (A.mark (some (.ref ex))).units + 3 < cLine := by have := Rm.u; show A.units + 3 < 9900; omega
    refine str_own (s := { s₁ with heap := h₇, toks := s₁.toks + 1 }) X base₇ exC tup₇ hu ?_
    refine bc fun hng => ?_
    obtain ⟨vt, hvt, rt⟩ := L₆.vars "text" _ ea
    simp only [VR] at rt
    obtain ⟨tt, rfl⟩ := rt
    rcases hvt with ⟨kt, mt, hmt, hmt2⟩ | ⟨kt, c, hc, hi⟩
    rotate_left
    · rw [n.kindOf, k_text] at kt; cases kt
    rw [Ns_unique hmt hn₆] at hmt2
    refine hng ?_
    refine wpAny_Name (wpAny_loadName_local n.fn ((n.kindOf _).trans k_text) hn₇ (v := .str ⟨cs.toArray⟩ tt) (by rw [if_neg (fun q => absurd (ofString_inj q) (by decide))]; exact hmt2) ?_) (dbg_ne (by decide))
    refine eq_str ?_
    rw [str_eq_iff, decide_eq_true rfl]
    with_reducible refine wpAny_truthy_bool ?_
    rw [if_pos rfl]
    with_reducible refine wpAny_Constant_int ?_
    -- after the suite
    refine wpAny_nameGoes (s := { s₁ with heap := h₇, toks := s₁.toks + 1 + 1 }) ((n.kindOf _).trans k_fault) hn₇ hp fun h₈ m₈ hn₈ hs₈ => ?_
    obtain ⟨T₈, R₈, L₈⟩ := turn_ns (s := { s₁ with heap := h₆ }) (tk := s₁.toks + 1 + 1 + 1) n R₆ L₆ hn₈ (hs₇.trans hs₈) (by show s₁.toks ≤ _; omega)
    exact h _ { s₁ with heap := h₈, toks := s₁.toks + 1 + 1 + 1 } σ₁ ((T₁.trans' T₆).weaken.transS T₈) R₈ L₈ (.mkR .mkI)
end Mine
end
section
set_option maxRecDepth 20000
namespace Mine
variable {prog : Program} {w : World} {B : Heap} {mg mb : Str → Option Value} {l : Nat} {sc : Scope}
/-- the test of countOf -/
theorem count_test {A : Around} {env : Env} {s : Shared} {p6 p7 p8 p9 p10 p11 p12 : Pos} {m : Str → Option Value} {c : Nat} {tc u : Nat} (hfn : env.scope.kind = .function) (ki : env.kindOf (Str.ofString "i") = some .local) (kb : env.kindOf (Str.ofString "b") = some .local) (hn : s.heap.Ns env.locals m)
    (mi : m (Str.ofString "i") = some (.str ⟨#[c]⟩ tc)) (mb' : m (Str.ofString "b") = some (.str ⟨#[34]⟩ u)) (h0 : 0 < u) (h1 : u < tc) (NB : NoneBooked s.heap)
    {Q : Bool → Shared → Prop} {E : Value → Shared → Prop} (h : Q (c == 34) s) :
    wpAny (model prog w) A (isTrue (.BoolOp .Or [.Compare (.Name (Str.ofString "i") p6) [.Is] [.Name (Str.ofString "b") p7] p8, .Compare (.Name (Str.ofString "i") p9) [.Eq] [.Name (Str.ofString "b") p10] p11] p12) env (eval (.BoolOp .Or [.Compare (.Name (Str.ofString "i") p6) [.Is] [.Name (Str.ofString "b") p7] p8, .Compare (.Name (Str.ofString "i") p9) [.Eq] [.Name (Str.ofString "b") p10] p11] p12) env)) Q E s := by
  have ld : ∀ {x : String} {p : Pos} {v : Value} {Q' : Value → Shared → Prop}, env.kindOf (Str.ofString x) = some .local → m (Str.ofString x) = some v → x ≠ "__debug__" → Q' v s → wpAny (model prog w) A (eval (.Name (Str.ofString x) p) env) Q' E s :=
    fun k e d q => wpAny_Name (wpAny_loadName_local hfn k hn e q) (dbg_ne d)
  have eqs : wpAny (model prog w) A (isTrue (.Compare (.Name (Str.ofString "i") p9) [.Eq] [.Name (Str.ofString "b") p10] p11) env (eval (.Compare (.Name (Str.ofString "i") p9) [.Eq] [.Name (Str.ofString "b") p10] p11) env)) (fun b s' => b = (c == 34) ∧ s' = s) E s := by
    with_reducible refine wpAny_isTrue_Compare1 (ld ki mi (by decide) (ld kb mb' (by decide) ?_)) rfl
    refine eq_str ?_
    have : (Str.mk #[c] == Str.mk #[34]) = (c == 34) := by
      rw [Bool.eq_iff_iff]; simp
    rw [this]
    with_reducible exact wpAny_truthy_bool ⟨rfl, rfl⟩
  with_reducible refine wpAny_isTrue_BoolOp (wpAny_allTrue_Or_cons ?_)
  with_reducible refine wpAny_isTrue_Compare1 (ld ki mi (by decide) (ld kb mb' (by decide) ?_)) rfl
  have hz : (tc == 0 || u == 0) = false := by simp; omega
  have go : ∀ b : Bool, (b = true → (c == 34) = true) → wpAny (model prog w) A (truthy (.bool b)) (fun b s' => if b = true then Q true s' else wpAny (model prog w) A (allTrue .Or [.Compare (.Name (Str.ofString "i") p9) [.Eq] [.Name (Str.ofString "b") p10] p11] env) Q E s') E s := by
    intro b hb
    with_reducible refine wpAny_truthy_bool ?_
    cases b with
    | true =>
      rw [if_pos rfl]
      rw [hb rfl] at h; exact h
    | false =>
      rw [if_neg Bool.false_ne_true]
      with_reducible refine wpAny_allTrue_Or_cons (wpAny_mono eqs (fun b s' hb => ?_) fun _ _ y => y)
      obtain ⟨rfl, rfl⟩ := hb
      cases hc : (c == 34) with
      | true => rw [if_pos rfl]; rw [hc] at h; exact h
      | false => rw [if_neg Bool.false_ne_true]; rw [hc] at h; exact wpAny_allTrue_Or_nil' h
  show wpAny _ _ (isSame _ _ >>= fun b => pure (Value.bool b)) _ _ _
  by_cases hc : c = 34
  · refine wpAny_bind (wpAny_isSame_str hz NB fun b => wpAny_pure (go b fun _ => by simp [hc]))
  · rw [PySem.isSame_str_other _ _ _ _ hz (beq_eq_false_iff_ne.mpr (Nat.ne_of_gt h1)) (beq_eq_false_iff_ne.mpr fun q => hc (by simpa using q))]
    exact wpAny_bind (wpAny_pure (wpAny_pure (go false fun q => nomatch q)))
theorem count_call {f : Addr} {p1 p2 p3 p4 p5 p6 p7 p8 p9 p10 p11 p12 p13 p14 p15 p16 p17 p18 p19 : Pos} {k1 k2 : Nat} (NB : NoneBooked B) (G : GB B mg mb)
    (F : Fn B f ["a", "b"] [.Assign [.Name (Str.ofString "count") p1] (.Constant (.int 0) k1 p2) p3,
      .For (.Name (Str.ofString "i") p4) (.Name (Str.ofString "a") p5) [.If (.BoolOp .Or [.Compare (.Name (Str.ofString "i") p6) [.Is] [.Name (Str.ofString "b") p7] p8, .Compare (.Name (Str.ofString "i") p9) [.Eq] [.Name (Str.ofString "b") p10] p11] p12)
        [.AugAssign (.Name (Str.ofString "count") p13) .Add (.Constant (.int 1) k2 p14) p15] [] p16] [] p17, .Return (some (.Name (Str.ofString "count") p18)) p19] sc)
    (hnc : ∀ x ∈ sc.names, x.2 ≠ .cell) (kc : sc.names.lookup (Str.ofString "count") = some .local) (ki : sc.names.lookup (Str.ofString "i") = some .local)
    {A : Around} {s : Shared} {cs : List Nat} {t u : Nat} (Rm : Rm A (l + 1)) (hB : ∀ b o, B.get? b = some o → s.heap.get? b = some o) (h0 : 0 < u) (h1 : u < s.toks) (ha : cs.all (· < 128) = true)
    {Q : Value → Shared → Prop} {E : Value → Shared → Prop} (h : ∀ t' h' tk, (∀ b o, s.heap.get? b = some o → h'.get? b = some o) → Q (.int (cs.count 34) t') { s with heap := h', toks := tk }) :
    wpAny (model prog w) A (call (.ref f) [.str ⟨cs.toArray⟩ t, .str ⟨#[34]⟩ u]) Q E s := by
  refine bc fun hng => ?_
  have ka : sc.names.lookup (Str.ofString "a") = some .local := by
    rcases F.kinds "a" (by simp) with k | k
    · exact k
    · exact absurd rfl (hnc _ (lookup_mem k))
  have kb : sc.names.lookup (Str.ofString "b") = some .local := by
    rcases F.kinds "b" (by simp) with k | k
    · exact k
    · exact absurd rfl (hnc _ (lookup_mem k))
  obtain ⟨o, fd, ho, hd, hcd, hbody, rfl, hgl, hbu, hclo, hbind⟩ := F.ex
  refine hng ?_
  with_reducible refine wpAny_call ?_
  refine codeAny_call_def Rm.room (hB _ _ ho) hd (G.lim.keeps hB) (hcd.keeps hB) hbody (BindsTo.of_eq (hbind _ rfl)) hnc ?_ (fun h₁ hns hk => ?_) F.co F.gen F.kind
  · rintro ⟨x, v⟩ hx
    simp only [List.map_cons, List.map_nil, List.zip_cons_cons, List.zip_nil_right, List.mem_cons, List.not_mem_nil, or_false, Prod.mk.injEq] at hx
    rcases hx with ⟨rfl, -⟩ | ⟨rfl, -⟩
    · exact ka
    · exact kb
  · have hL0 : s.heap.get? s.heap.objs.size = none := dead_next
    generalize hL : s.heap.objs.size = L at *
    generalize hEnv : callEnv fd L f = env
    have e_loc : env.locals = L := by rw [← hEnv]; rfl
    have hfn : env.scope.kind = .function := by rw [← hEnv]; exact F.kind
    have kof : ∀ x, env.kindOf x = fd.scope.names.lookup x := fun x => by rw [← hEnv]; rfl
    have hp : (env.scope.kind == .class || (env.scope.kind == .module && env.locals != env.globals)) = false := by rw [hfn]; rfl
    rw [← e_loc] at hns hL0
    have nab : ∀ {x y : String}, x ≠ y → Str.ofString x ≠ Str.ofString y := fun h q => h (ofString_inj q)
    have ma : (List.lookup (Str.ofString "a") ((["a", "b"].map Str.ofString).zip [Value.str ⟨cs.toArray⟩ t, .str ⟨#[34]⟩ u]).reverse) = some (.str ⟨cs.toArray⟩ t) := by
      show List.lookup (Str.ofString "a") [(Str.ofString "b", _), (Str.ofString "a", _)] = _
      have e1 : (Str.ofString "a" == Str.ofString "b") = false := beq_eq_false_iff_ne.mpr (nab (by decide))
      rw [List.lookup_cons, e1, List.lookup_cons, beq_self_eq_true]
    have mb2 : (List.lookup (Str.ofString "b") ((["a", "b"].map Str.ofString).zip [Value.str ⟨cs.toArray⟩ t, .str ⟨#[34]⟩ u]).reverse) = some (.str ⟨#[34]⟩ u) := by
      show List.lookup (Str.ofString "b") [(Str.ofString "b", _), (Str.ofString "a", _)] = _
      rw [List.lookup_cons, beq_self_eq_true]
    generalize hM : (fun x => List.lookup x ((["a", "b"].map Str.ofString).zip [Value.str ⟨cs.toArray⟩ t, .str ⟨#[34]⟩ u]).reverse) = M at hns
    have ma' : M (Str.ofString "a") = some (.str ⟨cs.toArray⟩ t) := by rw [← hM]; exact ma
    have mb' : M (Str.ofString "b") = some (.str ⟨#[34]⟩ u) := by rw [← hM]; exact mb2
    have Rm' : Mine.Rm (A.deeper env) l := Rm.deeper
    -- count = 0
    with_reducible refine wpAny_execs_cons (wpAny_Assign_Name (wpAny_Constant_int ?_) rfl)
    refine wpAny_storeName_local ((kof _).trans kc) hns (fun h₂ hn₂ hs₂ => wpAny_execs_cons ?_) hp
    -- for
    with_reducible refine wpAny_For ?_ (fun _ => rfl)
    refine wpAny_Name (wpAny_loadName_local hfn ((kof _).trans ka) hn₂ (v := .str ⟨cs.toArray⟩ t) (by rw [if_neg (nab (by decide))]; exact ma') ?_) (dbg_ne (by decide))
    refine wpAny_pyIter_ascii (by show cs.toArray.all _ = true; simpa using ha) ?_
    generalize hI : h₂.objs.size = I
    have keep2 : ∀ b o, s.heap.get? b = some o → h₂.get? b = some o := fun b o e => (hs₂.2 b (fun q => by rw [q, hL0] at e; cases e)).trans (hk b o e)
    have LI : env.locals ≠ I := fun q => by
      obtain ⟨o', _, _, e', _⟩ := hn₂
      have := Heap.lt_size e'
      rw [hI, q] at this; exact Nat.lt_irrefl _ this
    have hI0 : s.heap.get? I = none := by
      cases q : s.heap.get? I with
      | none => rfl
      | some o' => have := Heap.lt_size (keep2 _ _ q); rw [hI] at this; exact absurd this (Nat.lt_irrefl _)
    refine codeAny_forLoop (fun k s' => ∃ h' tk m j tcnt, s' = { s with heap := h', toks := tk } ∧ k + j = cs.length + 1 ∧ j ≤ cs.length ∧ h'.IsStrIter I "str_ascii_iterator" ⟨cs.toArray⟩ t j ∧ h'.Ns env.locals m ∧ m (Str.ofString "b") = some (.str ⟨#[34]⟩ u) ∧ m (Str.ofString "count") = some (.int ((cs.take j).count 34) tcnt) ∧ u < tk ∧
      (∀ b o, s.heap.get? b = some o → h'.get? b = some o)) ?_ (cs.length + 1) ?_ (fun _ => rfl)
    rotate_left
    · refine ⟨_, _, _, 0, s.toks + 2, rfl, rfl, Nat.zero_le _, ⟨_, by rw [← hI]; exact Heap.get?_push_size _ rfl, rfl, rfl⟩, Heap.Ns.at'' hn₂ fun o e => Heap.get?_push_of_some _ e, ?_, ?_, ?_, fun b o e => Heap.get?_push_of_some _ (keep2 b o e)⟩
      · show (if _ then _ else _) = _
        rw [if_neg (nab (by decide))]; exact mb'
      · show (if _ then _ else _) = _
        rw [if_pos rfl]; rfl
      · show u < s.toks + _ + 1 + 1; omega
    refine fun k s' hh => bc fun hng => ?_
    obtain ⟨h', tk, m, j, tcnt, rfl, hkj, hj, hit, hn, hmb, hmc, hut, hkeep⟩ := hh
    cases hc : cs[j]? with
    | none =>
      have hjl : cs.length ≤ j := List.getElem?_eq_none_iff.mp hc
      refine hng ?_
      refine wpAny_pyNext_ascii_end (s := { s with heap := h', toks := tk }) Rm'.hh hit (by simpa using hjl) fun h₃ he₃ => wpAny_execs_nil ?_
      have hn₃ : h₃.Ns env.locals m := Heap.Ns.at'' hn fun o e => he₃ _ o LI e
      with_reducible refine wpAny_execs_cons (wpAny_Return_some ?_)
      refine wpAny_Name (wpAny_loadName_local (s := { s with heap := h₃, toks := tk }) hfn ((kof _).trans kc) hn₃ hmc ?_) (dbg_ne (by decide))
      rw [List.take_of_length_le hjl]
      exact h _ h₃ tk fun b o e => he₃ b o (fun q => by rw [q, hI0] at e; cases e) (hkeep b o e)
    | some c =>
      have hjl := (List.getElem?_eq_some_iff.mp hc).1
      refine hng ?_
      refine wpAny_pyNext_ascii_item (s := { s with heap := h', toks := tk }) hit (c := c) (by simpa using hc) fun h₃ hit₃ hs₃ => ?_
      have hn₃ : h₃.Ns env.locals m := Heap.Ns.at'' hn fun o e => (hs₃.2 _ LI).trans e
      have keep3 : ∀ b o, s.heap.get? b = some o → h₃.get? b = some o := fun b o e => (hs₃.2 b (fun q => by rw [q, hI0] at e; cases e)).trans (hkeep b o e)
      refine assign_Name (wpAny_storeName_local (s := { s with heap := h₃, toks := tk + 1 }) ((kof _).trans ki) hn₃ (fun h₄ hn₄ hs₄ => ?_) hp)
      have keep4 : ∀ b o, s.heap.get? b = some o → h₄.get? b = some o := fun b o e => (hs₄.2 b (fun q => by rw [q, hL0] at e; cases e)).trans (keep3 b o e)
      have hit₄ : h₄.IsStrIter I "str_ascii_iterator" ⟨cs.toArray⟩ t (j + 1) := by
        obtain ⟨o', e1, e2, e3⟩ := hit₃
        exact ⟨o', (hs₄.2 _ (Ne.symm LI)).trans e1, e2, e3⟩
      have NB4 : NoneBooked h₄ := by
        obtain ⟨mc, hmc, hm⟩ := NB
        exact ⟨mc, Heap.Ns.at'' hmc fun o e => keep4 _ _ (hB _ _ e), hm⟩
      have hmb4 : (fun x => if x = Str.ofString "i" then some (Value.str ⟨#[c]⟩ tk) else m x) (Str.ofString "b") = some (.str ⟨#[34]⟩ u) := by
        show (if _ then _ else _) = _
        rw [if_neg (nab (by decide))]; exact hmb
      have hmc4 : (fun x => if x = Str.ofString "i" then some (Value.str ⟨#[c]⟩ tk) else m x) (Str.ofString "count") = some (.int ((cs.take j).count 34) tcnt) := by
        show (if _ then _ else _) = _
        rw [if_neg (nab (by decide))]; exact hmc
      have tk1 : cs.take (j + 1) = cs.take j ++ [c] := by rw [List.take_add_one, hc]; rfl
      with_reducible refine wpAny_execs_cons (wpAny_If ?_)
      refine count_test (s := { s with heap := h₄, toks := tk + 1 + 1 }) hfn ((kof _).trans ki) ((kof _).trans kb) hn₄ (tc := tk) (if_pos rfl) hmb4 h0 hut NB4 ?_
      cases hq : (c == 34) with
      | true =>
        rw [if_pos rfl]
        with_reducible refine wpAny_execs_cons (wpAny_AugAssign_Name ?_)
        refine wpAny_loadName_local (s := { s with heap := h₄, toks := tk + 1 + 1 }) hfn ((kof _).trans kc) hn₄ hmc4 ?_
        with_reducible refine wpAny_Constant_int ?_
        refine PyProof.Rows.iadd_int ?_
        refine wpAny_storeName_local (s := { s with heap := h₄, toks := tk + 1 + 1 + 1 + 1 }) ((kof _).trans kc) hn₄ (fun h₅ hn₅ hs₅ => ?_) hp
        refine wpAny_execs_nil (wpAny_execs_nil ⟨k - 1, by omega, h₅, _, _, j + 1, tk + 1 + 1 + 1, rfl, by omega, hjl, ?_, hn₅, ?_, ?_, (by show u < tk + 1 + 1 + 1 + 1 + 1; omega), fun b o e => (hs₅.2 b (fun q => by rw [q, hL0] at e; cases e)).trans (keep4 b o e)⟩)
        · obtain ⟨o', e1, e2, e3⟩ := hit₄
          exact ⟨o', (hs₅.2 _ (Ne.symm LI)).trans e1, e2, e3⟩
        · show (if _ then _ else _) = _
          rw [if_neg (nab (by decide))]; exact hmb4
        · show (if _ then _ else _) = _
          rw [if_pos rfl, tk1, List.count_append, List.count_singleton, hq]; rfl
      | false =>
        rw [if_neg Bool.false_ne_true]
        refine wpAny_execs_nil (wpAny_execs_nil ⟨k - 1, by omega, h₄, _, _, j + 1, tcnt, rfl, by omega, hjl, hit₄, hn₄, hmb4, ?_, by omega, keep4⟩)
        rw [tk1, List.count_append, List.count_singleton, hq]; exact hmc4
/-- the number of quotes in a word -/
noncomputable def eCount (x : String) : EP := fun lm H => (lm x).bind fun a => match a with
  | .str cs => if cs.all (· < 128) = true then some (.int (cs.count 34), H) else none
  | _ => none
theorem SE.countOf {x : String} {f : Addr} {scP : Scope} {p1 p2 p3 p4 p5 p6 p7 p8 p9 p10 p11 p12 p13 p14 p15 p16 p17 p18 p19 r1 r2 r3 r4 : Pos} {k1 k2 k3 : Nat} (NB : NoneBooked B) (G : GB B mg mb)
    (F : Fn B f ["a", "b"] [.Assign [.Name (Str.ofString "count") p1] (.Constant (.int 0) k1 p2) p3,
      .For (.Name (Str.ofString "i") p4) (.Name (Str.ofString "a") p5) [.If (.BoolOp .Or [.Compare (.Name (Str.ofString "i") p6) [.Is] [.Name (Str.ofString "b") p7] p8, .Compare (.Name (Str.ofString "i") p9) [.Eq] [.Name (Str.ofString "b") p10] p11] p12)
        [.AugAssign (.Name (Str.ofString "count") p13) .Add (.Constant (.int 1) k2 p14) p15] [] p16] [] p17, .Return (some (.Name (Str.ofString "count") p18)) p19] scP)
    (hnc : ∀ x ∈ scP.names, x.2 ≠ .cell) (kc : scP.names.lookup (Str.ofString "count") = some .local) (ki : scP.names.lookup (Str.ofString "i") = some .local)
    (hf : mg (Str.ofString "countOf") = some (.ref f)) (kp : Kp prog w B (.ref f)) (hl : l < 50) (h1l : 1 ≤ l) (hk : sc.names.lookup (Str.ofString "countOf") = some .globalImplicit) (hdx : x ≠ "__debug__") :
    SE prog w B l sc (.Call (.Name (Str.ofString "countOf") r1) [.Name (Str.ofString x) r2, .Constant (.str (Str.ofString "\"")) k3 r3] [] r4) (eCount x) := by
  intro A env σ H lm s av H' Rm n tp R L e Q E h
  refine bc fun hng => ?_
  obtain ⟨a, ea, e⟩ := Option.bind_eq_some_iff.mp e
  cases a <;> simp only at e <;> try (cases e; done)
  rename_i cs
  split at e
  · rename_i hasc
    cases e
    refine hng ?_
    with_reducible refine wpAny_with_toks (Nat.le_refl s.toks) ?_
    refine Call_ ?_
    refine Calls.Name_function_global n.fn ((n.kindOf _).trans hk) (Calls.loadGlobal_global (by rw [n.g]; exact Heap.Ns.at'' G.g (R.base _)) hf ?_) (dbg_ne (by decide))
    refine callWith_of (P := fun h => B.StaysIn h) rfl (fun h hb => by obtain ⟨k, a, b⟩ := kp; exact ⟨k, a, b.keeps hb⟩) ?_
    obtain ⟨v, hv, r⟩ := L.vars x _ ea
    simp only [VR] at r
    obtain ⟨t, rfl⟩ := r
    have ldx : ∀ {Q' : Value → Shared → Prop} {E' : Value → Shared → Prop}, Q' (.str ⟨cs.toArray⟩ t) s → wpAny (model prog w) A (eval (.Name (Str.ofString x) r2) env) Q' E' s := by
      intro Q' E' hq
      refine wpAny_Name ?_ (dbg_ne hdx)
      rcases hv with ⟨k, m, hn, hm⟩ | ⟨k, c, hc, hi⟩
      · exact wpAny_loadName_local n.fn k hn hm hq
      · exact wpAny_loadName_cell n.fn k hc hi hq
    have hargs : ∀ {Q' : List Value → Shared → Prop} {E' : Value → Shared → Prop}, Q' [.str ⟨cs.toArray⟩ t, .str ⟨#[34]⟩ s.toks] { s with toks := s.toks + 1 } → wpAny (model prog w) A (spliced (backTo r4 (starEach [.Name (Str.ofString x) r2, .Constant (.str (Str.ofString "\"")) k3 r3] env))) Q' E' s := by
      intro Q' E' hq
      exact spliced_more (ldx (spliced_more (wpAny_Constant_str (spliced_none hq))))
    have he : starEach [.Name (Str.ofString x) r2, .Constant (.str (Str.ofString "\"")) k3 r3] env = (false, eval (.Name (Str.ofString x) r2) env) :: starEach [.Constant (.str (Str.ofString "\"")) k3 r3] env := rfl
    rw [he] at hargs ⊢
    refine Calls.evalArgs_plain (hargs ⟨R.base, ?_⟩)
    rw [List.nil_append]
    refine count_call (s := { s with toks := s.toks + 1 }) (l := 0) NB G F hnc kc ki (Rm.le h1l) R.base (tp.t hl) (Nat.lt_succ_self _) hasc fun t' h' tk hk hle => ?_
    exact h _ _ σ (step_keeps hk hle) (R.keeps hk) .mkI
  · cases e
end Mine
end
section
set_option maxRecDepth 20000
namespace Mine
variable {prog : Program} {w : World} {B : Heap} {mg mb : Str → Option Value} {l : Nat} {sc : Scope}
noncomputable def cscOk (csc sc : Scope) (x : String) (capt : List String) : Bool :=
  (csc.names.all fun y => y.2 != .free || sc.names.lookup y.1 == some .cell) && (csc.names.all fun y => y.2 != .cell) && csc.kind == .function && (csc.names.all fun y => y.2 != .local || csc.names.lookup y.1 == some .local) &&
  csc.names.lookup (Str.ofString x) == some .local && (capt.all fun n => csc.names.contains (Str.ofString n, .free) && (relS csc sc).names.lookup (Str.ofString n) == some .cell) && ((relS csc sc).names.all fun p => p.2 != .cell || csc.names.contains (p.1, .free))
theorem Csc.of {csc sc : Scope} {x : String} {capt : List String} (h : cscOk csc sc x capt = true) : Csc csc sc x capt := by
  simp only [cscOk, Bool.and_eq_true, List.all_eq_true, Bool.or_eq_true, bne_iff_ne, ne_eq, beq_iff_eq, List.contains_iff_mem] at h
  obtain ⟨⟨⟨⟨⟨⟨h1, h2⟩, h3⟩, h4⟩, h5⟩, h6⟩, h7⟩ := h
  exact ⟨fun y hy hf => (h1 y hy).resolve_left (fun q => q hf), h2, h3, fun y hy hf => (h4 y hy).resolve_left (fun q => q hf), h5, h6, fun y hy => (h7 _ (lookup_mem hy)).resolve_left (fun q => q rfl)⟩
theorem SE.callC {x : String} {C : Addr} {g : FG} {l' : Nat} {es : List Expr} {qs : EPs} {p0 pos : Pos} (D : mg (Str.ofString x) = some (.ref C)) (fc : FC prog w B l' (.ref C) g) (kp : Kp prog w B (.ref C)) (G : GB B mg mb)
    (h1 : SEs prog w B l sc es qs) (hl : l' ≤ l) (hk : sc.names.lookup (Str.ofString x) = some .globalImplicit) (hd : (Str.ofString x == ("__debug__" : Str)) = false) (hne : ∀ env, (starEach es env).any (·.1) = false)
    (he : ∀ env, match es with | [] => True | e0 :: r => starEach (e0 :: r) env = (false, eval e0 env) :: starEach r env) :
    SE prog w B l sc (.Call (.Name (Str.ofString x) p0) es [] pos) (cG g qs) := SE.callG fc kp G D h1 hl hk hd hne he
theorem SE.countD {x : String} {f : Addr} {r1 r2 r3 r4 : Pos} {k3 : Nat} (D : Df prog w B mg "countOf" f ["a", "b"] 5) (NB : NoneBooked B) (G : GB B mg mb) (hl : l < 50) (h1l : 1 ≤ l) (hk : sc.names.lookup (Str.ofString "countOf") = some .globalImplicit) (hdx : x ≠ "__debug__") :
    SE prog w B l sc (.Call (.Name (Str.ofString "countOf") r1) [.Name (Str.ofString x) r2, .Constant (.str (Str.ofString "\"")) k3 r3] [] r4) (eCount x) :=
  SE.countOf NB G D.fn (by decide) (by rfl) (by rfl) D.at_ D.kp hl h1l hk hdx
/-- a def without cells, of a body that may try -/
theorem FC.ofBodyF {f : Addr} {ps : List String} {body : List Stmt} {q : SP} (G : GB B mg mb) (F : Fn B f ps body sc) (hb : SXsF prog w B l sc body q) (hnc : ∀ x ∈ sc.names, x.2 ≠ .cell) (hps : ps ≠ []) : FC prog w B (l + 1) (.ref f) (gOf ps q) := by
  intro A σ H s avs vs av H' Rm fp R ra e Q E h
  have hF : ∀ env, ∃ outer, (A.deeper env).frames = some (env :: outer) := fun env => by
    obtain ⟨l', h1, _⟩ := fp
    exact ⟨l', Around.frames_deeper h1⟩
  unfold gOf at e
  split at e
  · rename_i hlen
    obtain ⟨o, fd, ho, hd, hcd, hbody, rfl, hgl, hbu, hclo, hbind⟩ := F.ex
    have hvl : vs.length = ps.length := by rw [ra.length, hlen]
    have loc : ∀ p ∈ ps, fd.scope.names.lookup (Str.ofString p) = some .local := fun p hp => by
      rcases F.kinds p hp with k | k
      · exact k
      · exact absurd rfl (hnc _ (lookup_mem k))
    have hlz : ((ps.map Str.ofString).zip vs).length = ps.length := by simp; omega
    have env_cells : (callEnv fd s.heap.objs.size f).cells = [] := hclo
    have hv : ∀ b ∈ vol (callEnv fd s.heap.objs.size f), s.heap.get? b = none := by
      intro b hb
      unfold vol at hb
      rw [env_cells] at hb
      rw [List.mem_singleton.mp hb]; exact dead_next
    have hn : En B fd.scope (callEnv fd s.heap.objs.size f) := by
      refine ⟨rfl, F.kind, hgl, hbu, fun b hb => ?_, fun x hx => absurd rfl (hnc _ (lookup_mem hx))⟩
      cases q : B.get? b with
      | none => rfl
      | some o => have := R.base b o q; rw [hv b hb] at this; cases this
    have hpos : 0 < ps.length := List.length_pos_iff.mpr hps
    with_reducible refine wpAny_with_toks (Nat.le_refl s.toks) (wpAny_call ?_)
    refine codeAny_call_def Rm.room (R.base _ _ ho) hd (G.lim.keeps R.base) (hcd.keeps R.base) hbody (BindsTo.of_eq (hbind vs hvl)) hnc ?_ (fun h₁ hns hk => ?_) F.co F.gen F.kind
    · rintro ⟨x, v⟩ hx
      obtain ⟨y, hy, rfl⟩ := List.mem_map.mp (List.of_mem_zip hx).1
      exact loc y hy
    · obtain ⟨⟨fl, lm, H₁⟩, e1, e2⟩ := Option.bind_eq_some_iff.mp e
      have hLσ : s.heap.objs.size ∉ σ := fun q => R.live _ q dead_next
      have fr : ∀ b o, b ∉ σ → Frz o → s.heap.get? b = some o → h₁.get? b = some o ∧ b ∉ σ := fun b o hb _ e => ⟨hk b o e, hb⟩
      have L₁ : LR (callEnv fd s.heap.objs.size f) h₁ σ (bindA ps avs) := ⟨⟨_, hns⟩, hLσ, (by rw [env_cells]; exact fun _ _ q => (nomatch q)), (by rw [env_cells]; intro x y c q; simp at q), fun x a hx => by
        obtain ⟨v, h1, h2, h3⟩ := bindA_get ra hx
        refine ⟨v, .inl ⟨(hn.kindOf _).trans (loc x h3), _, hns, ?_⟩, h2.mono fr (List.prefix_refl _)⟩
        have nd := zip_nodup F.nd hvl
        have : (((ps.map Str.ofString).zip vs).reverse.map (·.1)).Nodup := by rw [List.map_reverse]; exact (List.reverse_perm _).nodup_iff.mpr nd
        exact lookup_of_mem this (List.mem_reverse.mpr h1)⟩
      have fpD : Fp B (A.deeper (callEnv fd s.heap.objs.size f)) σ h₁ := fp.deeper hk F.kind rfl (hn.new _ (.head _)) hLσ ⟨_, hns⟩
      have st0 : Step [] σ s σ { s with heap := h₁, toks := s.toks + ((ps.map Str.ofString).zip vs).length } := step_keeps hk (Nat.le_add_right _ _)
      have tp : Tp B (A.deeper (callEnv fd s.heap.objs.size f)) σ l { s with heap := h₁, toks := s.toks + ((ps.map Str.ofString).zip vs).length } := ⟨fun _ => by show 0 < s.toks + _; omega, fpD⟩
      refine hb Rm.deeper hn tp (hF _) (R.keeps hk) L₁ e1 fun f₂ s' σ' x R' L' r hle => ?_
      have T : Step [] σ s σ' s' := by
        have := st0.trans x fun b hb => .inr (hv b hb)
        exact this
      cases fl with
      | ret a =>
        obtain ⟨v, rfl, r⟩ := r
        cases e2
        exact h v s' σ' T R' r
      | next =>
        cases r
        cases e2
        exact h _ s' σ' T R' .mkN
      | brk => cases e2
  · cases e
/-- addresses -/
structure AD where
  add : Addr
  sub : Addr
  contains : Addr
  countOf : Addr
  getitem : Addr
  setitem : Addr
  parse : Addr
  ist : Addr
  isn : Addr
  ise : Addr
  row : Addr
  page : Addr
  held : Addr
  read : Addr
  walk : Addr
  order : Addr
  sorted : Addr
  ws : Addr
  init : Addr
  run : Addr
  ind : Addr
  less : Addr
  err : Addr
/-- the table of the marks -/
noncomputable def TTl : List (List Nat × Int) := [
  ([33], 54),
  ([33, 61], 28),
  ([37], 24),
  ([37, 61], 40),
  ([38], 19),
  ([38, 61], 41),
  ([40], 7),
  ([41], 8),
  ([42], 16),
  ([42, 42], 35),
  ([42, 42, 61], 46),
  ([42, 61], 38),
  ([43], 14),
  ([43, 61], 36),
  ([44], 12),
  ([45], 15),
  ([45, 61], 37),
  ([45, 62], 51),
  ([46], 23),
  ([46, 46, 46], 52),
  ([47], 17),
  ([47, 47], 47),
  ([47, 47, 61], 48),
  ([47, 61], 39),
  ([58], 11),
  ([58, 61], 53),
  ([59], 13),
  ([60], 20),
  ([60, 60], 33),
  ([60, 60, 61], 44),
  ([60, 61], 29),
  ([61], 22),
  ([61, 61], 27),
  ([62], 21),
  ([62, 61], 30),
  ([62, 62], 34),
  ([62, 62, 61], 45),
  ([64], 49),
  ([64, 61], 50),
  ([91], 9),
  ([93], 10),
  ([94], 32),
  ([94, 61], 43),
  ([123], 25),
  ([124], 18),
  ([124, 61], 42),
  ([125], 26),
  ([126], 31)]
noncomputable def TT (cs : List Nat) : Option Int := TTl.lookup cs
noncomputable def sFail : SP := fun _ _ => none
theorem SXs.fail {sts : List Stmt} : SXs prog w B l sc sts sFail := by
  intro A env σ H lm s fl lm' H' Rm n tp R L e Q E h
  cases e
noncomputable def sAsg3 (x y z : String) (p : EP) : SP := fun lm H => (p lm H).map fun r => (.next, upd (upd (upd lm x r.1) y r.1) z r.1, r.2)
noncomputable def sSwp (xs : List (String × Pos)) (p : EP) : SP := fun lm H => (p lm H).bind fun r => match r.1 with | .tup vs => if vs.length = xs.length then some (.next, updN xs.reverse vs.reverse lm, r.2) else none | _ => none
/-- what the top leaves -/
structure Cx (prog : Program) (w : World) (K : Frag) (B : Heap) (mg mb : Str → Option Value) (ad : AD) : Prop where
  G : GB B mg mb
  NB : NoneBooked B
  d_add : Df prog w B mg "add" ad.add ["a", "b"] 2
  d_sub : Df prog w B mg "sub" ad.sub ["a", "b"] 3
  d_contains : Df prog w B mg "contains" ad.contains ["a", "b"] 4
  d_countOf : Df prog w B mg "countOf" ad.countOf ["a", "b"] 5
  d_getitem : Df prog w B mg "getitem" ad.getitem ["a", "b"] 6
  d_setitem : Df prog w B mg "setitem" ad.setitem ["a", "b", "c"] 7
  d_parse : Df prog w B mg "parse257" ad.parse ["resp"] 11
  d_ist : Df prog w B mg "ISTERMINAL" ad.ist ["x"] 66
  d_isn : Df prog w B mg "ISNONTERMINAL" ad.isn ["x"] 67
  d_ise : Df prog w B mg "ISEOF" ad.ise ["x"] 68
  d_row : Df prog w B mg "_law_row" ad.row ["what", "far", "place"] 70
  d_page : Df prog w B mg "_law_page" ad.page ["cells"] 71
  d_held : Df prog w B mg "_law_held" ad.held ["text", "place"] 72
  d_read : Df prog w B mg "_law_read" ad.read ["rows"] 73
  d_walk : Df prog w B mg "_law_walk" ad.walk ["memory", "start", "turns"] 74
  d_order : Df prog w B mg "_law_order" ad.order ["due", "start"] 75
  d_sorted : Df prog w B mg "_law_sorted" ad.sorted ["kind"] 76
  bi_len : Bi mg mb "len" (.builtin "len")
  bi_max : Bi mg mb "max" (.builtin "max")
  bi_min : Bi mg mb "min" (.builtin "min")
  bi_sum : Bi mg mb "sum" (.builtin "sum")
  bi_range : Bi mg mb "range" (.type "range")
  bi_tuple : Bi mg mb "tuple" (.type "tuple")
  bi_str : Bi mg mb "str" (.type "str")
  ntoff : Gi mg "NT_OFFSET" 256
  endm : Gi mg "ENDMARKER" 0
  ett : Ett prog w B mg TT
  c : Cl K B ad.ws
  n_raw : ClN K ad.ws "raw"
  n_n : ClN K ad.ws "n"
  n_nt : ClN K ad.ws "nt"
  n_norm : ClN K ad.ws "norm"
  n_is_simple : ClN K ad.ws "is_simple"
  m_run : Mt prog w K B ad.ws "longest_run_of_spaces" ad.run ["self"] 2
  m_ind : Mt prog w K B ad.ws "indent_level" ad.ind ["self", "tabsize"] 3
  m_less : Mt prog w K B ad.ws "less" ad.less ["self", "other"] 6
  ws_at : mg (Str.ofString "Whitespace") = some (.ref ad.ws)
  ws_kp : Kp prog w B (.ref ad.ws)
  ws_m : makesIn K ad.ws = true
  ws_i : findIn K (.ref ad.ws) "__init__" = some (some (.ref ad.init))
  ws_t : typeIn K (.ref ad.init) = some (.type "function")
  ws_fn : Fn B ad.init ["self", "ws"] (bodyOf (mtN 1)) (scOf (mtN 1))
  cvS : ClV K ad.ws "S" [32]
  cvT : ClV K ad.ws "T" [9]
  ex : Ex K B mg "error_reply" ad.err
end Mine
end
section
set_option maxRecDepth 20000
namespace Mine
variable {prog : Program} {w : World} {K : Frag} {B : Heap} {mg mb : Str → Option Value} {ad : AD}
noncomputable def q_add (ad : AD) : SP :=
 (sSeq (sRet (bO addF (vV "a") (vV "b")))
 sNil)
theorem b_add (X : Cx prog w K B mg mb ad) : SXs prog w B 1 (scOf (stN 2)) (bodyOf (stN 2)) (q_add ad) :=
 (@SXs.cons _ _ _ _ _ _ _ _ _ (@SX.ret _ _ _ _ _ _ _ _ (@SE.bin _ _ _ _ _ _ _ _ _ _ _ _ (@SE.var _ _ _ _ _ "a" _ (dbg_ne (by decide))) (@SE.var _ _ _ _ _ "b" _ (dbg_ne (by decide))) (@op_add _ _ _ _))) (@SXs.nil _ _ _ _ _))
noncomputable def g_add (ad : AD) : FG := gOf ["a", "b"] (q_add ad)
theorem f_add (X : Cx prog w K B mg mb ad) : FC prog w B 2 (.ref ad.add) (g_add ad) := (@FC.ofBody _ _ _ _ _ _ _ _ _ _ _ X.G X.d_add.fn (@b_add _ _ _ _ _ _ _ X) (by decide) (by decide))
noncomputable def q_sub (ad : AD) : SP :=
 (sSeq (sRet (bO subF (vV "a") (vV "b")))
 sNil)
theorem b_sub (X : Cx prog w K B mg mb ad) : SXs prog w B 1 (scOf (stN 3)) (bodyOf (stN 3)) (q_sub ad) :=
 (@SXs.cons _ _ _ _ _ _ _ _ _ (@SX.ret _ _ _ _ _ _ _ _ (@SE.bin _ _ _ _ _ _ _ _ _ _ _ _ (@SE.var _ _ _ _ _ "a" _ (dbg_ne (by decide))) (@SE.var _ _ _ _ _ "b" _ (dbg_ne (by decide))) (@op_sub _ _ _ _))) (@SXs.nil _ _ _ _ _))
noncomputable def g_sub (ad : AD) : FG := gOf ["a", "b"] (q_sub ad)
theorem f_sub (X : Cx prog w K B mg mb ad) : FC prog w B 2 (.ref ad.sub) (g_sub ad) := (@FC.ofBody _ _ _ _ _ _ _ _ _ _ _ X.G X.d_sub.fn (@b_sub _ _ _ _ _ _ _ X) (by decide) (by decide))
noncomputable def q_contains (ad : AD) : SP :=
 (sSeq (sRet (bO inF (vV "b") (vV "a")))
 sNil)
theorem b_contains (X : Cx prog w K B mg mb ad) : SXs prog w B 1 (scOf (stN 4)) (bodyOf (stN 4)) (q_contains ad) :=
 (@SXs.cons _ _ _ _ _ _ _ _ _ (@SX.ret _ _ _ _ _ _ _ _ (@SE.cmp _ _ _ _ _ _ _ _ _ _ _ _ (@SE.var _ _ _ _ _ "b" _ (dbg_ne (by decide))) (@SE.var _ _ _ _ _ "a" _ (dbg_ne (by decide))) (@op_in _ _ _ _) rfl)) (@SXs.nil _ _ _ _ _))
noncomputable def g_contains (ad : AD) : FG := gOf ["a", "b"] (q_contains ad)
theorem f_contains (X : Cx prog w K B mg mb ad) : FC prog w B 2 (.ref ad.contains) (g_contains ad) := (@FC.ofBody _ _ _ _ _ _ _ _ _ _ _ X.G X.d_contains.fn (@b_contains _ _ _ _ _ _ _ X) (by decide) (by decide))
noncomputable def q_getitem (ad : AD) : SP :=
 (sSeq (sRet (bO idxF (vV "a") (vV "b")))
 sNil)
theorem b_getitem (X : Cx prog w K B mg mb ad) : SXs prog w B 1 (scOf (stN 6)) (bodyOf (stN 6)) (q_getitem ad) :=
 (@SXs.cons _ _ _ _ _ _ _ _ _ (@SX.ret _ _ _ _ _ _ _ _ (@SE.idx _ _ _ _ _ _ _ _ _ _ (@SE.var _ _ _ _ _ "a" _ (dbg_ne (by decide))) (@SE.var _ _ _ _ _ "b" _ (dbg_ne (by decide))) (fun _ _ => rfl))) (@SXs.nil _ _ _ _ _))
noncomputable def g_getitem (ad : AD) : FG := gOf ["a", "b"] (q_getitem ad)
theorem f_getitem (X : Cx prog w K B mg mb ad) : FC prog w B 2 (.ref ad.getitem) (g_getitem ad) := (@FC.ofBody _ _ _ _ _ _ _ _ _ _ _ X.G X.d_getitem.fn (@b_getitem _ _ _ _ _ _ _ X) (by decide) (by decide))
noncomputable def q_setitem (ad : AD) : SP :=
 (sSeq (sSetI (vV "a") (vV "b") (vV "c"))
 sNil)
theorem b_setitem (X : Cx prog w K B mg mb ad) : SXs prog w B 1 (scOf (stN 7)) (bodyOf (stN 7)) (q_setitem ad) :=
 (@SXs.cons _ _ _ _ _ _ _ _ _ (@SX.setI _ _ _ _ _ _ _ _ _ _ _ _ _ (@SE.var _ _ _ _ _ "c" _ (dbg_ne (by decide))) (@SE.var _ _ _ _ _ "a" _ (dbg_ne (by decide))) (@SE.var _ _ _ _ _ "b" _ (dbg_ne (by decide))) (fun _ => rfl)) (@SXs.nil _ _ _ _ _))
noncomputable def g_setitem (ad : AD) : FG := gOf ["a", "b", "c"] (q_setitem ad)
theorem f_setitem (X : Cx prog w K B mg mb ad) : FC prog w B 2 (.ref ad.setitem) (g_setitem ad) := (@FC.ofBody _ _ _ _ _ _ _ _ _ _ _ X.G X.d_setitem.fn (@b_setitem _ _ _ _ _ _ _ X) (by decide) (by decide))
noncomputable def q_ist (ad : AD) : SP :=
 (sSeq (sRet (bO ltF (vV "x") (cK (.int 256))))
 sNil)
theorem b_ist (X : Cx prog w K B mg mb ad) : SXs prog w B 1 (scOf (stN 66)) (bodyOf (stN 66)) (q_ist ad) :=
 (@SXs.cons _ _ _ _ _ _ _ _ _ (@SX.ret _ _ _ _ _ _ _ _ (@SE.cmp _ _ _ _ _ _ _ _ _ _ _ _ (@SE.var _ _ _ _ _ "x" _ (dbg_ne (by decide))) (@SE.glob _ _ _ _ _ _ _ _ _ _ X.ntoff X.G rfl (dbg_ne (by decide))) (@op_lt _ _ _ _) rfl)) (@SXs.nil _ _ _ _ _))
noncomputable def g_ist (ad : AD) : FG := gOf ["x"] (q_ist ad)
theorem f_ist (X : Cx prog w K B mg mb ad) : FC prog w B 2 (.ref ad.ist) (g_ist ad) := (@FC.ofBody _ _ _ _ _ _ _ _ _ _ _ X.G X.d_ist.fn (@b_ist _ _ _ _ _ _ _ X) (by decide) (by decide))
noncomputable def q_isn (ad : AD) : SP :=
 (sSeq (sRet (bO geF (vV "x") (cK (.int 256))))
 sNil)
theorem b_isn (X : Cx prog w K B mg mb ad) : SXs prog w B 1 (scOf (stN 67)) (bodyOf (stN 67)) (q_isn ad) :=
 (@SXs.cons _ _ _ _ _ _ _ _ _ (@SX.ret _ _ _ _ _ _ _ _ (@SE.cmp _ _ _ _ _ _ _ _ _ _ _ _ (@SE.var _ _ _ _ _ "x" _ (dbg_ne (by decide))) (@SE.glob _ _ _ _ _ _ _ _ _ _ X.ntoff X.G rfl (dbg_ne (by decide))) (@op_ge _ _ _ _) rfl)) (@SXs.nil _ _ _ _ _))
noncomputable def g_isn (ad : AD) : FG := gOf ["x"] (q_isn ad)
theorem f_isn (X : Cx prog w K B mg mb ad) : FC prog w B 2 (.ref ad.isn) (g_isn ad) := (@FC.ofBody _ _ _ _ _ _ _ _ _ _ _ X.G X.d_isn.fn (@b_isn _ _ _ _ _ _ _ X) (by decide) (by decide))
noncomputable def q_ise (ad : AD) : SP :=
 (sSeq (sRet (bO eqF (vV "x") (cK (.int 0))))
 sNil)
theorem b_ise (X : Cx prog w K B mg mb ad) : SXs prog w B 1 (scOf (stN 68)) (bodyOf (stN 68)) (q_ise ad) :=
 (@SXs.cons _ _ _ _ _ _ _ _ _ (@SX.ret _ _ _ _ _ _ _ _ (@SE.cmp _ _ _ _ _ _ _ _ _ _ _ _ (@SE.var _ _ _ _ _ "x" _ (dbg_ne (by decide))) (@SE.glob _ _ _ _ _ _ _ _ _ _ X.endm X.G rfl (dbg_ne (by decide))) (@op_eq _ _ _ _) rfl)) (@SXs.nil _ _ _ _ _))
noncomputable def g_ise (ad : AD) : FG := gOf ["x"] (q_ise ad)
theorem f_ise (X : Cx prog w K B mg mb ad) : FC prog w B 2 (.ref ad.ise) (g_ise ad) := (@FC.ofBody _ _ _ _ _ _ _ _ _ _ _ X.G X.d_ise.fn (@b_ise _ _ _ _ _ _ _ X) (by decide) (by decide))
noncomputable def t_parse : TP := (tCmp neU (eSlS (vV "resp") pN (pS (cK (.int 3)))) (cK (.str [50, 53, 55])))
noncomputable def q_parse (ad : AD) : SP :=
 (sSeq (sIf t_parse sFail sNil)
 (sSeq (sIf (tCmp neU (eSlS (vV "resp") (pS (cK (.int 3))) (pS (cK (.int 5)))) (cK (.str [32, 34])))
  (sSeq (sRet (cK (.str [])))
 sNil)
  sNil)
 (sSeq (sAsg "dirname" (cK (.str [])))
 (sSeq (sAsg "i" (cK (.int 5)))
 (sSeq (sAsg "n" (cG lenG (esC (vV "resp") esN)))
 (sSeq (sWhile 200 (tCmp ltF (vV "i") (vV "n"))
  (sSeq (sAsg "c" (bO idxF (vV "resp") (vV "i")))
 (sSeq (sAsg "i" (bO addF (vV "i") (cK (.int 1))))
 (sSeq (sIf (tCmp eqF (vV "c") (cK (.str [34])))
  (sSeq (sIf (tOr (tCmp geF (vV "i") (vV "n")) (tOr (tCmp neU (bO idxF (vV "resp") (vV "i")) (cK (.str [34]))) (tK false)))
  (sSeq sBrk
 sNil)
  sNil)
 (sSeq (sAsg "i" (bO addF (vV "i") (cK (.int 1))))
 sNil))
  sNil)
 (sSeq (sAsg "dirname" (bO addF (vV "dirname") (vV "c")))
 sNil)))))
 (sSeq (sRet (vV "dirname"))
 sNil)))))))
theorem bt_parse {sc : Scope} {p1 p2 p3 p4 p5 p6 : Pos} {k1 k2 : Nat} : ST prog w B 1 sc (.Compare (.Subscript (.Name (Str.ofString "resp") p1) (.Slice Option.none (Option.some (.Constant (.int 3) k1 p2)) Option.none p3) p4) [.NotEq] [.Constant (.str (Str.ofString "257")) k2 p5] p6) t_parse :=
 (@ST.cmp' _ _ _ _ _ _ _ _ _ _ _ _ (@SE.slS _ _ _ _ _ _ _ _ _ _ _ _ _ (@SE.var _ _ _ _ _ "resp" _ (dbg_ne (by decide))) (@SPt.no _ _ _ _ _) (@SPt.so _ _ _ _ _ _ _ (@SE.int _ _ _ _ _ _ _ _))) (@SE.str' _ _ _ _ _ "257" [50, 53, 55] _ _ rfl) (@op_neU _ _ _ _) rfl)
theorem b_parse (X : Cx prog w K B mg mb ad) : SXs prog w B 1 (scOf (stN 11)) (bodyOf (stN 11)) (q_parse ad) :=
 (@SXs.cons _ _ _ _ _ _ _ _ _ (@SX.ite _ _ _ _ _ _ _ _ _ _ _ _ bt_parse (@SXs.fail _ _ _ _ _ _) (@SXs.nil _ _ _ _ _)) (@SXs.cons _ _ _ _ _ _ _ _ _ (@SX.ite _ _ _ _ _ _ _ _ (tCmp neU (eSlS (vV "resp") (pS (cK (.int 3))) (pS (cK (.int 5)))) (cK (.str [32, 34]))) (sSeq (sRet (cK (.str [])))
 sNil) sNil _ (@ST.cmp' _ _ _ _ _ _ _ _ _ _ _ _ (@SE.slS _ _ _ _ _ _ _ _ _ _ _ _ _ (@SE.var _ _ _ _ _ "resp" _ (dbg_ne (by decide))) (@SPt.so _ _ _ _ _ _ _ (@SE.int _ _ _ _ _ _ _ _)) (@SPt.so _ _ _ _ _ _ _ (@SE.int _ _ _ _ _ _ _ _))) (@SE.str' _ _ _ _ _ " \"" [32, 34] _ _ rfl) (@op_neU _ _ _ _) rfl) (@SXs.cons _ _ _ _ _ _ _ _ _ (@SX.ret _ _ _ _ _ _ _ _ (@SE.str' _ _ _ _ _ "" [] _ _ rfl)) (@SXs.nil _ _ _ _ _)) (@SXs.nil _ _ _ _ _)) (@SXs.cons _ _ _ _ _ _ _ _ _ (@SX.asg _ _ _ _ _ "dirname" _ _ _ _ (@SE.str' _ _ _ _ _ "" [] _ _ rfl) (.inl rfl) (fun _ => rfl)) (@SXs.cons _ _ _ _ _ _ _ _ _ (@SX.asg _ _ _ _ _ "i" _ _ _ _ (@SE.int _ _ _ _ _ _ _ _) (.inl rfl) (fun _ => rfl)) (@SXs.cons _ _ _ _ _ _ _ _ _ (@SX.asg _ _ _ _ _ "n" _ _ _ _ (@SE.callI _ _ _ _ _ _ _ _ _ _ _ _ _ _ X.bi_len fc_len kp_builtin X.G (@SEs.cons _ _ _ _ _ _ _ _ _ (@SE.var _ _ _ _ _ "resp" _ (dbg_ne (by decide))) (@SEs.nil _ _ _ _ _) (fun _ => rfl)) rfl (dbg_ne (by decide)) (fun _ => rfl) (fun _ => rfl)) (.inl rfl) (fun _ => rfl)) (@SXs.cons _ _ _ _ _ _ _ _ _ (@SX.while' _ _ _ _ _ _ _ (tCmp ltF (vV "i") (vV "n")) (sSeq (sAsg "c" (bO idxF (vV "resp") (vV "i")))
 (sSeq (sAsg "i" (bO addF (vV "i") (cK (.int 1))))
 (sSeq (sIf (tCmp eqF (vV "c") (cK (.str [34])))
  (sSeq (sIf (tOr (tCmp geF (vV "i") (vV "n")) (tOr (tCmp neU (bO idxF (vV "resp") (vV "i")) (cK (.str [34]))) (tK false)))
  (sSeq sBrk
 sNil)
  sNil)
 (sSeq (sAsg "i" (bO addF (vV "i") (cK (.int 1))))
 sNil))
  sNil)
 (sSeq (sAsg "dirname" (bO addF (vV "dirname") (vV "c")))
 sNil)))) _ (@ST.cmp' _ _ _ _ _ _ _ _ _ _ _ _ (@SE.var _ _ _ _ _ "i" _ (dbg_ne (by decide))) (@SE.var _ _ _ _ _ "n" _ (dbg_ne (by decide))) (@op_lt _ _ _ _) rfl) (@SXs.cons _ _ _ _ _ _ _ _ _ (@SX.asg _ _ _ _ _ "c" _ _ _ _ (@SE.idx _ _ _ _ _ _ _ _ _ _ (@SE.var _ _ _ _ _ "resp" _ (dbg_ne (by decide))) (@SE.var _ _ _ _ _ "i" _ (dbg_ne (by decide))) (fun _ _ => rfl)) (.inl rfl) (fun _ => rfl)) (@SXs.cons _ _ _ _ _ _ _ _ _ (@SX.asg _ _ _ _ _ "i" _ _ _ _ (@SE.bin _ _ _ _ _ _ _ _ _ _ _ _ (@SE.var _ _ _ _ _ "i" _ (dbg_ne (by decide))) (@SE.int _ _ _ _ _ _ _ _) (@op_add _ _ _ _)) (.inl rfl) (fun _ => rfl)) (@SXs.cons _ _ _ _ _ _ _ _ _ (@SX.ite _ _ _ _ _ _ _ _ (tCmp eqF (vV "c") (cK (.str [34]))) (sSeq (sIf (tOr (tCmp geF (vV "i") (vV "n")) (tOr (tCmp neU (bO idxF (vV "resp") (vV "i")) (cK (.str [34]))) (tK false)))
  (sSeq sBrk
 sNil)
  sNil)
 (sSeq (sAsg "i" (bO addF (vV "i") (cK (.int 1))))
 sNil)) sNil _ (@ST.cmp' _ _ _ _ _ _ _ _ _ _ _ _ (@SE.var _ _ _ _ _ "c" _ (dbg_ne (by decide))) (@SE.str' _ _ _ _ _ "\"" [34] _ _ rfl) (@op_eq _ _ _ _) rfl) (@SXs.cons _ _ _ _ _ _ _ _ _ (@SX.ite _ _ _ _ _ _ _ _ (tOr (tCmp geF (vV "i") (vV "n")) (tOr (tCmp neU (bO idxF (vV "resp") (vV "i")) (cK (.str [34]))) (tK false))) (sSeq sBrk
 sNil) sNil _ (@ST.bool _ _ _ _ _ _ _ _ _ (@SA.or _ _ _ _ _ _ _ _ _ (@ST.cmp' _ _ _ _ _ _ _ _ _ _ _ _ (@SE.var _ _ _ _ _ "i" _ (dbg_ne (by decide))) (@SE.var _ _ _ _ _ "n" _ (dbg_ne (by decide))) (@op_ge _ _ _ _) rfl) (@SA.or _ _ _ _ _ _ _ _ _ (@ST.cmp' _ _ _ _ _ _ _ _ _ _ _ _ (@SE.idx _ _ _ _ _ _ _ _ _ _ (@SE.var _ _ _ _ _ "resp" _ (dbg_ne (by decide))) (@SE.var _ _ _ _ _ "i" _ (dbg_ne (by decide))) (fun _ _ => rfl)) (@SE.str' _ _ _ _ _ "\"" [34] _ _ rfl) (@op_neU _ _ _ _) rfl) (@SA.orNil _ _ _ _ _)))) (@SXs.cons _ _ _ _ _ _ _ _ _ (@SX.brk _ _ _ _ _ _) (@SXs.nil _ _ _ _ _)) (@SXs.nil _ _ _ _ _)) (@SXs.cons _ _ _ _ _ _ _ _ _ (@SX.asg _ _ _ _ _ "i" _ _ _ _ (@SE.bin _ _ _ _ _ _ _ _ _ _ _ _ (@SE.var _ _ _ _ _ "i" _ (dbg_ne (by decide))) (@SE.int _ _ _ _ _ _ _ _) (@op_add _ _ _ _)) (.inl rfl) (fun _ => rfl)) (@SXs.nil _ _ _ _ _))) (@SXs.nil _ _ _ _ _)) (@SXs.cons _ _ _ _ _ _ _ _ _ (@SX.asg _ _ _ _ _ "dirname" _ _ _ _ (@SE.bin _ _ _ _ _ _ _ _ _ _ _ _ (@SE.var _ _ _ _ _ "dirname" _ (dbg_ne (by decide))) (@SE.var _ _ _ _ _ "c" _ (dbg_ne (by decide))) (@op_add _ _ _ _)) (.inl rfl) (fun _ => rfl)) (@SXs.nil _ _ _ _ _)))))) (@SXs.cons _ _ _ _ _ _ _ _ _ (@SX.ret _ _ _ _ _ _ _ _ (@SE.var _ _ _ _ _ "dirname" _ (dbg_ne (by decide)))) (@SXs.nil _ _ _ _ _))))))))
noncomputable def g_parse (ad : AD) : FG := gOf ["resp"] (q_parse ad)
theorem f_parse (X : Cx prog w K B mg mb ad) : FC prog w B 2 (.ref ad.parse) (g_parse ad) := (@FC.ofBody _ _ _ _ _ _ _ _ _ _ _ X.G X.d_parse.fn (@b_parse _ _ _ _ _ _ _ X) (by decide) (by decide))
noncomputable def q_run (ad : AD) : SP :=
 (sSeq (sTup [("count", ⟨71, 8, 71, 13⟩), ("trailing", ⟨71, 15, 71, 23⟩)] (eAttr ad.ws "norm" (vV "self")))
 (sSeq (sRet (cG maxG (esC (bO subF (cG lenG (esC (vV "count") esN)) (cK (.int 1))) (esC (vV "trailing") esN))))
 sNil))
theorem b_run (X : Cx prog w K B mg mb ad) : SXs prog w B 1 (scOf (mtN 2)) (bodyOf (mtN 2)) (q_run ad) :=
 (@SXs.cons _ _ _ _ _ _ _ _ _ (@SX.tup _ _ _ _ _ [("count", ⟨71, 8, 71, 13⟩), ("trailing", ⟨71, 15, 71, 23⟩)] _ _ _ _ _ (@SE.attr _ _ _ _ _ _ _ _ _ _ _ _ X.c X.n_norm (@SE.var _ _ _ _ _ "self" _ (dbg_ne (by decide)))) (by intro x hx; simp only [List.mem_cons, List.not_mem_nil, or_false] at hx; rcases hx with rfl | rfl | rfl | rfl <;> first | exact Or.inl rfl | exact Or.inr rfl) (fun _ => rfl) (by first | (intro env he; rfl) | (intro env he; cases env; cases he; rfl))) (@SXs.cons _ _ _ _ _ _ _ _ _ (@SX.ret _ _ _ _ _ _ _ _ (@SE.callI _ _ _ _ _ _ _ _ _ _ _ _ _ _ X.bi_max fc_max kp_builtin X.G (@SEs.cons _ _ _ _ _ _ _ _ _ (@SE.bin _ _ _ _ _ _ _ _ _ _ _ _ (@SE.callI _ _ _ _ _ _ _ _ _ _ _ _ _ _ X.bi_len fc_len kp_builtin X.G (@SEs.cons _ _ _ _ _ _ _ _ _ (@SE.var _ _ _ _ _ "count" _ (dbg_ne (by decide))) (@SEs.nil _ _ _ _ _) (fun _ => rfl)) rfl (dbg_ne (by decide)) (fun _ => rfl) (fun _ => rfl)) (@SE.int _ _ _ _ _ _ _ _) (@op_sub _ _ _ _)) (@SEs.cons _ _ _ _ _ _ _ _ _ (@SE.var _ _ _ _ _ "trailing" _ (dbg_ne (by decide))) (@SEs.nil _ _ _ _ _) (fun _ => rfl)) (fun _ => rfl)) rfl (dbg_ne (by decide)) (fun _ => rfl) (fun _ => rfl))) (@SXs.nil _ _ _ _ _)))
noncomputable def g_run (ad : AD) : FG := gOf ["self"] (q_run ad)
theorem f_run (X : Cx prog w K B mg mb ad) : FC prog w B 2 (.ref ad.run) (g_run ad) := (@FC.ofBody _ _ _ _ _ _ _ _ _ _ _ X.G X.m_run.fn (@b_run _ _ _ _ _ _ _ X) (by decide) (by decide))
noncomputable def q_ind (ad : AD) : SP :=
 (sSeq (sTup [("count", ⟨75, 8, 75, 13⟩), ("trailing", ⟨75, 15, 75, 23⟩)] (eAttr ad.ws "norm" (vV "self")))
 (sSeq (sAsg "il" (cK (.int 0)))
 (sSeq (sFor "i" (cG rngG (esC (vV "tabsize") (esC (cG lenG (esC (vV "count") esN)) esN)))
  (sSeq (sAsg "il" (bO addF (vV "il") (bO mulF (bO fdivF (vV "i") (vV "tabsize")) (bO idxF (vV "count") (vV "i")))))
 sNil))
 (sSeq (sRet (bO addF (vV "trailing") (bO mulF (vV "tabsize") (bO addF (vV "il") (eAttr ad.ws "nt" (vV "self"))))))
 sNil))))
theorem b_ind (X : Cx prog w K B mg mb ad) : SXs prog w B 1 (scOf (mtN 3)) (bodyOf (mtN 3)) (q_ind ad) :=
 (@SXs.cons _ _ _ _ _ _ _ _ _ (@SX.tup _ _ _ _ _ [("count", ⟨75, 8, 75, 13⟩), ("trailing", ⟨75, 15, 75, 23⟩)] _ _ _ _ _ (@SE.attr _ _ _ _ _ _ _ _ _ _ _ _ X.c X.n_norm (@SE.var _ _ _ _ _ "self" _ (dbg_ne (by decide)))) (by intro x hx; simp only [List.mem_cons, List.not_mem_nil, or_false] at hx; rcases hx with rfl | rfl | rfl | rfl <;> first | exact Or.inl rfl | exact Or.inr rfl) (fun _ => rfl) (by first | (intro env he; rfl) | (intro env he; cases env; cases he; rfl))) (@SXs.cons _ _ _ _ _ _ _ _ _ (@SX.asg _ _ _ _ _ "il" _ _ _ _ (@SE.int _ _ _ _ _ _ _ _) (.inl rfl) (fun _ => rfl)) (@SXs.cons _ _ _ _ _ _ _ _ _ (@SX.for _ _ _ _ _ "i" _ _ (cG rngG (esC (vV "tabsize") (esC (cG lenG (esC (vV "count") esN)) esN))) (sSeq (sAsg "il" (bO addF (vV "il") (bO mulF (bO fdivF (vV "i") (vV "tabsize")) (bO idxF (vV "count") (vV "i")))))
 sNil) _ _ (@SE.callI _ _ _ _ _ _ _ _ _ _ _ _ _ _ X.bi_range fc_rng kp_type X.G (@SEs.cons _ _ _ _ _ _ _ _ _ (@SE.var _ _ _ _ _ "tabsize" _ (dbg_ne (by decide))) (@SEs.cons _ _ _ _ _ _ _ _ _ (@SE.callI _ _ _ _ _ _ _ _ _ _ _ _ _ _ X.bi_len fc_len kp_builtin X.G (@SEs.cons _ _ _ _ _ _ _ _ _ (@SE.var _ _ _ _ _ "count" _ (dbg_ne (by decide))) (@SEs.nil _ _ _ _ _) (fun _ => rfl)) rfl (dbg_ne (by decide)) (fun _ => rfl) (fun _ => rfl)) (@SEs.nil _ _ _ _ _) (fun _ => rfl)) (fun _ => rfl)) rfl (dbg_ne (by decide)) (fun _ => rfl) (fun _ => rfl)) (@SXs.cons _ _ _ _ _ _ _ _ _ (@SX.asg _ _ _ _ _ "il" _ _ _ _ (@SE.bin _ _ _ _ _ _ _ _ _ _ _ _ (@SE.var _ _ _ _ _ "il" _ (dbg_ne (by decide))) (@SE.bin _ _ _ _ _ _ _ _ _ _ _ _ (@SE.bin _ _ _ _ _ _ _ _ _ _ _ _ (@SE.var _ _ _ _ _ "i" _ (dbg_ne (by decide))) (@SE.var _ _ _ _ _ "tabsize" _ (dbg_ne (by decide))) (@op_fdiv _ _ _ _)) (@SE.idx _ _ _ _ _ _ _ _ _ _ (@SE.var _ _ _ _ _ "count" _ (dbg_ne (by decide))) (@SE.var _ _ _ _ _ "i" _ (dbg_ne (by decide))) (fun _ _ => rfl)) (@op_mul _ _ _ _)) (@op_add _ _ _ _)) (.inl rfl) (fun _ => rfl)) (@SXs.nil _ _ _ _ _)) (.inl rfl) (fun _ _ => rfl)) (@SXs.cons _ _ _ _ _ _ _ _ _ (@SX.ret _ _ _ _ _ _ _ _ (@SE.bin _ _ _ _ _ _ _ _ _ _ _ _ (@SE.var _ _ _ _ _ "trailing" _ (dbg_ne (by decide))) (@SE.bin _ _ _ _ _ _ _ _ _ _ _ _ (@SE.var _ _ _ _ _ "tabsize" _ (dbg_ne (by decide))) (@SE.bin _ _ _ _ _ _ _ _ _ _ _ _ (@SE.var _ _ _ _ _ "il" _ (dbg_ne (by decide))) (@SE.attr _ _ _ _ _ _ _ _ _ _ _ _ X.c X.n_nt (@SE.var _ _ _ _ _ "self" _ (dbg_ne (by decide)))) (@op_add _ _ _ _)) (@op_mul _ _ _ _)) (@op_add _ _ _ _))) (@SXs.nil _ _ _ _ _)))))
noncomputable def g_ind (ad : AD) : FG := gOf ["self", "tabsize"] (q_ind ad)
theorem f_ind (X : Cx prog w K B mg mb ad) : FC prog w B 2 (.ref ad.ind) (g_ind ad) := (@FC.ofBody _ _ _ _ _ _ _ _ _ _ _ X.G X.m_ind.fn (@b_ind _ _ _ _ _ _ _ X) (by decide) (by decide))
noncomputable def q_less_0t0 (ad : AD) : SP := (sSeq (sRet (cK (.bool false))) sNil)
noncomputable def q_less_1t0 (ad : AD) : SP := (sSeq (sRet (bO leF (eAttr ad.ws "nt" (vV "self")) (eAttr ad.ws "nt" (vV "other")))) sNil)
noncomputable def q_less_3b0t0 (ad : AD) : SP := (sSeq (sRet (cK (.bool false))) sNil)
noncomputable def q_less_3b0 (ad : AD) : SP := (sSeq (sIf (tCmp geF (mI ad.ws "indent_level" (g_ind ad) (vV "self") (esC (vV "ts") esN)) (mI ad.ws "indent_level" (g_ind ad) (vV "other") (esC (vV "ts") esN)))
  (q_less_3b0t0 ad)
  sNil) sNil)
noncomputable def q_less_4 (ad : AD) : SP := (sSeq (sRet (cK (.bool true))) sNil)
noncomputable def q_less_3 (ad : AD) : SP := (sSeq (sFor "ts" (cG rngG (esC (cK (.int 2)) (esC (bO addF (vV "n") (cK (.int 1))) esN)))
  (q_less_3b0 ad)) (q_less_4 ad))
noncomputable def q_less_2 (ad : AD) : SP := (sSeq (sAsg "n" (bO addF (cG maxG (esC (mI ad.ws "longest_run_of_spaces" (g_run ad) (vV "self") esN) (esC (mI ad.ws "longest_run_of_spaces" (g_run ad) (vV "other") esN) esN))) (cK (.int 1)))) (q_less_3 ad))
noncomputable def q_less_1 (ad : AD) : SP := (sSeq (sIf (tAnd (asB (eAttr ad.ws "is_simple" (vV "self"))) (tAnd (asB (eAttr ad.ws "is_simple" (vV "other"))) (tK true)))
  (q_less_1t0 ad)
  sNil) (q_less_2 ad))
noncomputable def q_less_0 (ad : AD) : SP := (sSeq (sIf (tCmp geF (eAttr ad.ws "n" (vV "self")) (eAttr ad.ws "n" (vV "other")))
  (q_less_0t0 ad)
  sNil) (q_less_1 ad))
noncomputable def q_less (ad : AD) : SP :=
 (q_less_0 ad)
theorem b_less (X : Cx prog w K B mg mb ad) : SXs prog w B 2 (scOf (mtN 6)) (bodyOf (mtN 6)) (q_less ad) :=
 (@SXs.cons _ _ _ _ _ _ _ (sIf (tCmp geF (eAttr ad.ws "n" (vV "self")) (eAttr ad.ws "n" (vV "other")))
  (q_less_0t0 ad)
  sNil) (q_less_1 ad) (@SX.ite _ _ _ _ _ _ _ _ (tCmp geF (eAttr ad.ws "n" (vV "self")) (eAttr ad.ws "n" (vV "other"))) (q_less_0t0 ad) sNil _ (@ST.cmp' _ _ _ _ _ _ _ _ _ _ _ _ (@SE.attr _ _ _ _ _ _ _ _ _ _ _ _ X.c X.n_n (@SE.var _ _ _ _ _ "self" _ (dbg_ne (by decide)))) (@SE.attr _ _ _ _ _ _ _ _ _ _ _ _ X.c X.n_n (@SE.var _ _ _ _ _ "other" _ (dbg_ne (by decide)))) (@op_ge _ _ _ _) rfl) (@SXs.cons _ _ _ _ _ _ _ (sRet (cK (.bool false))) sNil (@SX.ret _ _ _ _ _ _ _ _ (@SE.bool _ _ _ _ _ _ _ _)) (@SXs.nil _ _ _ _ _)) (@SXs.nil _ _ _ _ _)) (@SXs.cons _ _ _ _ _ _ _ (sIf (tAnd (asB (eAttr ad.ws "is_simple" (vV "self"))) (tAnd (asB (eAttr ad.ws "is_simple" (vV "other"))) (tK true)))
  (q_less_1t0 ad)
  sNil) (q_less_2 ad) (@SX.ite _ _ _ _ _ _ _ _ (tAnd (asB (eAttr ad.ws "is_simple" (vV "self"))) (tAnd (asB (eAttr ad.ws "is_simple" (vV "other"))) (tK true))) (q_less_1t0 ad) sNil _ (@ST.bool _ _ _ _ _ _ _ _ _ (@SA.and _ _ _ _ _ _ _ _ _ (@ST.val _ _ _ _ _ _ _ (@SE.attr _ _ _ _ _ _ _ _ _ _ _ _ X.c X.n_is_simple (@SE.var _ _ _ _ _ "self" _ (dbg_ne (by decide)))) (fun _ _ => rfl)) (@SA.and _ _ _ _ _ _ _ _ _ (@ST.val _ _ _ _ _ _ _ (@SE.attr _ _ _ _ _ _ _ _ _ _ _ _ X.c X.n_is_simple (@SE.var _ _ _ _ _ "other" _ (dbg_ne (by decide)))) (fun _ _ => rfl)) (@SA.andNil _ _ _ _ _)))) (@SXs.cons _ _ _ _ _ _ _ (sRet (bO leF (eAttr ad.ws "nt" (vV "self")) (eAttr ad.ws "nt" (vV "other")))) sNil (@SX.ret _ _ _ _ _ _ _ _ (@SE.cmp _ _ _ _ _ _ _ _ _ _ _ _ (@SE.attr _ _ _ _ _ _ _ _ _ _ _ _ X.c X.n_nt (@SE.var _ _ _ _ _ "self" _ (dbg_ne (by decide)))) (@SE.attr _ _ _ _ _ _ _ _ _ _ _ _ X.c X.n_nt (@SE.var _ _ _ _ _ "other" _ (dbg_ne (by decide)))) (@op_le _ _ _ _) rfl)) (@SXs.nil _ _ _ _ _)) (@SXs.nil _ _ _ _ _)) (@SXs.cons _ _ _ _ _ _ _ (sAsg "n" (bO addF (cG maxG (esC (mI ad.ws "longest_run_of_spaces" (g_run ad) (vV "self") esN) (esC (mI ad.ws "longest_run_of_spaces" (g_run ad) (vV "other") esN) esN))) (cK (.int 1)))) (q_less_3 ad) (@SX.asg _ _ _ _ _ "n" _ _ _ _ (@SE.bin _ _ _ _ _ _ _ _ _ _ _ _ (@SE.callI _ _ _ _ _ _ _ _ _ _ _ _ _ _ X.bi_max fc_max kp_builtin X.G (@SEs.cons _ _ _ _ _ _ _ _ _ (@SE.meth _ _ _ _ _ _ _ _ _ _ _ _ _ _ _ _ _ _ _ X.c X.m_run (@f_run _ _ _ _ _ _ _ X) (@SE.var _ _ _ _ _ "self" _ (dbg_ne (by decide))) (@SEs.nil _ _ _ _ _) (by decide) (fun _ => rfl) (fun _ => trivial) (fun _ => ⟨_, rfl⟩)) (@SEs.cons _ _ _ _ _ _ _ _ _ (@SE.meth _ _ _ _ _ _ _ _ _ _ _ _ _ _ _ _ _ _ _ X.c X.m_run (@f_run _ _ _ _ _ _ _ X) (@SE.var _ _ _ _ _ "other" _ (dbg_ne (by decide))) (@SEs.nil _ _ _ _ _) (by decide) (fun _ => rfl) (fun _ => trivial) (fun _ => ⟨_, rfl⟩)) (@SEs.nil _ _ _ _ _) (fun _ => rfl)) (fun _ => rfl)) rfl (dbg_ne (by decide)) (fun _ => rfl) (fun _ => rfl)) (@SE.int _ _ _ _ _ _ _ _) (@op_add _ _ _ _)) (.inl rfl) (fun _ => rfl)) (@SXs.cons _ _ _ _ _ _ _ (sFor "ts" (cG rngG (esC (cK (.int 2)) (esC (bO addF (vV "n") (cK (.int 1))) esN)))
  (q_less_3b0 ad)) (q_less_4 ad) (@SX.for _ _ _ _ _ "ts" _ _ (cG rngG (esC (cK (.int 2)) (esC (bO addF (vV "n") (cK (.int 1))) esN))) (q_less_3b0 ad) _ _ (@SE.callI _ _ _ _ _ _ _ _ _ _ _ _ _ _ X.bi_range fc_rng kp_type X.G (@SEs.cons _ _ _ _ _ _ _ _ _ (@SE.int _ _ _ _ _ _ _ _) (@SEs.cons _ _ _ _ _ _ _ _ _ (@SE.bin _ _ _ _ _ _ _ _ _ _ _ _ (@SE.var _ _ _ _ _ "n" _ (dbg_ne (by decide))) (@SE.int _ _ _ _ _ _ _ _) (@op_add _ _ _ _)) (@SEs.nil _ _ _ _ _) (fun _ => rfl)) (fun _ => rfl)) rfl (dbg_ne (by decide)) (fun _ => rfl) (fun _ => rfl)) (@SXs.cons _ _ _ _ _ _ _ (sIf (tCmp geF (mI ad.ws "indent_level" (g_ind ad) (vV "self") (esC (vV "ts") esN)) (mI ad.ws "indent_level" (g_ind ad) (vV "other") (esC (vV "ts") esN)))
  (q_less_3b0t0 ad)
  sNil) sNil (@SX.ite _ _ _ _ _ _ _ _ (tCmp geF (mI ad.ws "indent_level" (g_ind ad) (vV "self") (esC (vV "ts") esN)) (mI ad.ws "indent_level" (g_ind ad) (vV "other") (esC (vV "ts") esN))) (q_less_3b0t0 ad) sNil _ (@ST.cmp' _ _ _ _ _ _ _ _ _ _ _ _ (@SE.meth _ _ _ _ _ _ _ _ _ _ _ _ _ _ _ _ _ _ _ X.c X.m_ind (@f_ind _ _ _ _ _ _ _ X) (@SE.var _ _ _ _ _ "self" _ (dbg_ne (by decide))) (@SEs.cons _ _ _ _ _ _ _ _ _ (@SE.var _ _ _ _ _ "ts" _ (dbg_ne (by decide))) (@SEs.nil _ _ _ _ _) (fun _ => rfl)) (by decide) (fun _ => rfl) (fun _ => rfl) (fun _ => ⟨_, rfl⟩)) (@SE.meth _ _ _ _ _ _ _ _ _ _ _ _ _ _ _ _ _ _ _ X.c X.m_ind (@f_ind _ _ _ _ _ _ _ X) (@SE.var _ _ _ _ _ "other" _ (dbg_ne (by decide))) (@SEs.cons _ _ _ _ _ _ _ _ _ (@SE.var _ _ _ _ _ "ts" _ (dbg_ne (by decide))) (@SEs.nil _ _ _ _ _) (fun _ => rfl)) (by decide) (fun _ => rfl) (fun _ => rfl) (fun _ => ⟨_, rfl⟩)) (@op_ge _ _ _ _) rfl) (@SXs.cons _ _ _ _ _ _ _ (sRet (cK (.bool false))) sNil (@SX.ret _ _ _ _ _ _ _ _ (@SE.bool _ _ _ _ _ _ _ _)) (@SXs.nil _ _ _ _ _)) (@SXs.nil _ _ _ _ _)) (@SXs.nil _ _ _ _ _)) (.inl rfl) (fun _ _ => rfl)) (@SXs.cons _ _ _ _ _ _ _ (sRet (cK (.bool true))) sNil (@SX.ret _ _ _ _ _ _ _ _ (@SE.bool _ _ _ _ _ _ _ _)) (@SXs.nil _ _ _ _ _))))))
noncomputable def g_less (ad : AD) : FG := gOf ["self", "other"] (q_less ad)
theorem f_less (X : Cx prog w K B mg mb ad) : FC prog w B 3 (.ref ad.less) (g_less ad) := (@FC.ofBody _ _ _ _ _ _ _ _ _ _ _ X.G X.m_less.fn (@b_less _ _ _ _ _ _ _ X) (by decide) (by decide))
noncomputable def q_ws (ad : AD) : SP :=
 (sSeq (sSetA ad.ws "raw" (vV "self") (vV "ws"))
 (sSeq (sSwp [("S", ⟨0, 0, 0, 0⟩), ("T", ⟨0, 0, 0, 0⟩)] (eTup (esC (cK (.str [32])) (esC (cK (.str [9])) esN))))
 (sSeq (sAsg "count" (eList esN))
 (sSeq (sAsg3 "b" "n" "nt" (cK (.int 0)))
 (sSeq (sFor "ch" (eAttr ad.ws "raw" (vV "self"))
  (sSeq (sIf (tCmp eqF (vV "ch") (vV "S"))
  (sSeq (sAsg "n" (bO addF (vV "n") (cK (.int 1))))
 (sSeq (sAsg "b" (bO addF (vV "b") (cK (.int 1))))
 sNil))
  (sSeq (sIf (tCmp eqF (vV "ch") (vV "T"))
  (sSeq (sAsg "n" (bO addF (vV "n") (cK (.int 1))))
 (sSeq (sAsg "nt" (bO addF (vV "nt") (cK (.int 1))))
 (sSeq (sIf (tCmp geF (vV "b") (cG lenG (esC (vV "count") esN)))
  (sSeq (sAsg "count" (bO addF (vV "count") (bO mulF (eList (esC (cK (.int 0)) esN)) (bO addF (bO subF (vV "b") (cG lenG (esC (vV "count") esN))) (cK (.int 1))))))
 sNil)
  sNil)
 (sSeq (sSetI (vV "count") (vV "b") (bO addF (bO idxF (vV "count") (vV "b")) (cK (.int 1))))
 (sSeq (sAsg "b" (cK (.int 0)))
 sNil)))))
  (sSeq sBrk
 sNil))
 sNil))
 sNil))
 (sSeq (sSetA ad.ws "n" (vV "self") (vV "n"))
 (sSeq (sSetA ad.ws "nt" (vV "self") (vV "nt"))
 (sSeq (sSetA ad.ws "norm" (vV "self") (eTup (esC (cG tupG (esC (vV "count") esN)) (esC (vV "b") esN))))
 (sSeq (sSetA ad.ws "is_simple" (vV "self") (bO leF (cG lenG (esC (vV "count") esN)) (cK (.int 1))))
 sNil)))))))))
theorem b_ws (X : Cx prog w K B mg mb ad) : SXs prog w B 2 (scOf (mtN 1)) (bodyOf (mtN 1)) (q_ws ad) :=
 (@SXs.cons _ _ _ _ _ _ _ _ _ (@SX.setA _ _ _ _ _ _ _ _ _ _ _ _ _ _ X.c X.n_raw (@SE.var _ _ _ _ _ "ws" _ (dbg_ne (by decide))) (@SE.var _ _ _ _ _ "self" _ (dbg_ne (by decide))) (fun _ => rfl)) (@SXs.cons _ _ _ _ _ _ _ _ _ (@SX.swp _ _ _ _ _ [("S", ⟨0, 0, 0, 0⟩), ("T", ⟨0, 0, 0, 0⟩)] _ _ _ _ _ _ (@SE.tuple _ _ _ _ _ _ _ _ _ (@SEs.cons _ _ _ _ _ _ _ _ _ (@SE.clsAttr _ _ _ _ _ _ _ _ _ _ _ _ _ _ X.G X.c X.ws_at X.cvS rfl (dbg_ne (by decide))) (@SEs.cons _ _ _ _ _ _ _ _ _ (@SE.clsAttr _ _ _ _ _ _ _ _ _ _ _ _ _ _ X.G X.c X.ws_at X.cvT rfl (dbg_ne (by decide))) (@SEs.nil _ _ _ _ _) (fun _ => rfl)) (fun _ => rfl))) (by intro x hx; simp only [List.mem_cons, List.not_mem_nil, or_false] at hx; rcases hx with rfl | rfl | rfl | rfl <;> first | exact Or.inl rfl | exact Or.inr rfl) (fun _ => rfl) (by intro env he; cases env; cases he; rfl)) (@SXs.cons _ _ _ _ _ _ _ _ _ (@SX.asg _ _ _ _ _ "count" _ _ _ _ (@SE.list _ _ _ _ _ _ _ _ (@SEs.nil _ _ _ _ _)) (.inl rfl) (fun _ => rfl)) (@SXs.cons _ _ _ _ _ _ _ _ _ (@SX.asg3 _ _ _ _ _ "b" "n" "nt" _ _ _ _ _ _ (@SE.int _ _ _ _ _ _ _ _) (.inl rfl) (.inl rfl) (.inl rfl) (fun _ => rfl)) (@SXs.cons _ _ _ _ _ _ _ _ _ (@SX.for _ _ _ _ _ "ch" _ _ (eAttr ad.ws "raw" (vV "self")) (sSeq (sIf (tCmp eqF (vV "ch") (vV "S"))
  (sSeq (sAsg "n" (bO addF (vV "n") (cK (.int 1))))
 (sSeq (sAsg "b" (bO addF (vV "b") (cK (.int 1))))
 sNil))
  (sSeq (sIf (tCmp eqF (vV "ch") (vV "T"))
  (sSeq (sAsg "n" (bO addF (vV "n") (cK (.int 1))))
 (sSeq (sAsg "nt" (bO addF (vV "nt") (cK (.int 1))))
 (sSeq (sIf (tCmp geF (vV "b") (cG lenG (esC (vV "count") esN)))
  (sSeq (sAsg "count" (bO addF (vV "count") (bO mulF (eList (esC (cK (.int 0)) esN)) (bO addF (bO subF (vV "b") (cG lenG (esC (vV "count") esN))) (cK (.int 1))))))
 sNil)
  sNil)
 (sSeq (sSetI (vV "count") (vV "b") (bO addF (bO idxF (vV "count") (vV "b")) (cK (.int 1))))
 (sSeq (sAsg "b" (cK (.int 0)))
 sNil)))))
  (sSeq sBrk
 sNil))
 sNil))
 sNil) _ _ (@SE.attr _ _ _ _ _ _ _ _ _ _ _ _ X.c X.n_raw (@SE.var _ _ _ _ _ "self" _ (dbg_ne (by decide)))) (@SXs.cons _ _ _ _ _ _ _ _ _ (@SX.ite _ _ _ _ _ _ _ _ (tCmp eqF (vV "ch") (vV "S")) (sSeq (sAsg "n" (bO addF (vV "n") (cK (.int 1))))
 (sSeq (sAsg "b" (bO addF (vV "b") (cK (.int 1))))
 sNil)) (sSeq (sIf (tCmp eqF (vV "ch") (vV "T"))
  (sSeq (sAsg "n" (bO addF (vV "n") (cK (.int 1))))
 (sSeq (sAsg "nt" (bO addF (vV "nt") (cK (.int 1))))
 (sSeq (sIf (tCmp geF (vV "b") (cG lenG (esC (vV "count") esN)))
  (sSeq (sAsg "count" (bO addF (vV "count") (bO mulF (eList (esC (cK (.int 0)) esN)) (bO addF (bO subF (vV "b") (cG lenG (esC (vV "count") esN))) (cK (.int 1))))))
 sNil)
  sNil)
 (sSeq (sSetI (vV "count") (vV "b") (bO addF (bO idxF (vV "count") (vV "b")) (cK (.int 1))))
 (sSeq (sAsg "b" (cK (.int 0)))
 sNil)))))
  (sSeq sBrk
 sNil))
 sNil) _ (@ST.cmp' _ _ _ _ _ _ _ _ _ _ _ _ (@SE.var _ _ _ _ _ "ch" _ (dbg_ne (by decide))) (@SE.var _ _ _ _ _ "S" _ (dbg_ne (by decide))) (@op_eq _ _ _ _) rfl) (@SXs.cons _ _ _ _ _ _ _ _ _ (@SX.asg _ _ _ _ _ "n" _ _ _ _ (@SE.bin _ _ _ _ _ _ _ _ _ _ _ _ (@SE.var _ _ _ _ _ "n" _ (dbg_ne (by decide))) (@SE.int _ _ _ _ _ _ _ _) (@op_add _ _ _ _)) (.inl rfl) (fun _ => rfl)) (@SXs.cons _ _ _ _ _ _ _ _ _ (@SX.asg _ _ _ _ _ "b" _ _ _ _ (@SE.bin _ _ _ _ _ _ _ _ _ _ _ _ (@SE.var _ _ _ _ _ "b" _ (dbg_ne (by decide))) (@SE.int _ _ _ _ _ _ _ _) (@op_add _ _ _ _)) (.inl rfl) (fun _ => rfl)) (@SXs.nil _ _ _ _ _))) (@SXs.cons _ _ _ _ _ _ _ _ _ (@SX.ite _ _ _ _ _ _ _ _ (tCmp eqF (vV "ch") (vV "T")) (sSeq (sAsg "n" (bO addF (vV "n") (cK (.int 1))))
 (sSeq (sAsg "nt" (bO addF (vV "nt") (cK (.int 1))))
 (sSeq (sIf (tCmp geF (vV "b") (cG lenG (esC (vV "count") esN)))
  (sSeq (sAsg "count" (bO addF (vV "count") (bO mulF (eList (esC (cK (.int 0)) esN)) (bO addF (bO subF (vV "b") (cG lenG (esC (vV "count") esN))) (cK (.int 1))))))
 sNil)
  sNil)
 (sSeq (sSetI (vV "count") (vV "b") (bO addF (bO idxF (vV "count") (vV "b")) (cK (.int 1))))
 (sSeq (sAsg "b" (cK (.int 0)))
 sNil))))) (sSeq sBrk
 sNil) _ (@ST.cmp' _ _ _ _ _ _ _ _ _ _ _ _ (@SE.var _ _ _ _ _ "ch" _ (dbg_ne (by decide))) (@SE.var _ _ _ _ _ "T" _ (dbg_ne (by decide))) (@op_eq _ _ _ _) rfl) (@SXs.cons _ _ _ _ _ _ _ _ _ (@SX.asg _ _ _ _ _ "n" _ _ _ _ (@SE.bin _ _ _ _ _ _ _ _ _ _ _ _ (@SE.var _ _ _ _ _ "n" _ (dbg_ne (by decide))) (@SE.int _ _ _ _ _ _ _ _) (@op_add _ _ _ _)) (.inl rfl) (fun _ => rfl)) (@SXs.cons _ _ _ _ _ _ _ _ _ (@SX.asg _ _ _ _ _ "nt" _ _ _ _ (@SE.bin _ _ _ _ _ _ _ _ _ _ _ _ (@SE.var _ _ _ _ _ "nt" _ (dbg_ne (by decide))) (@SE.int _ _ _ _ _ _ _ _) (@op_add _ _ _ _)) (.inl rfl) (fun _ => rfl)) (@SXs.cons _ _ _ _ _ _ _ _ _ (@SX.ite _ _ _ _ _ _ _ _ (tCmp geF (vV "b") (cG lenG (esC (vV "count") esN))) (sSeq (sAsg "count" (bO addF (vV "count") (bO mulF (eList (esC (cK (.int 0)) esN)) (bO addF (bO subF (vV "b") (cG lenG (esC (vV "count") esN))) (cK (.int 1))))))
 sNil) sNil _ (@ST.cmp' _ _ _ _ _ _ _ _ _ _ _ _ (@SE.var _ _ _ _ _ "b" _ (dbg_ne (by decide))) (@SE.callI _ _ _ _ _ _ _ _ _ _ _ _ _ _ X.bi_len fc_len kp_builtin X.G (@SEs.cons _ _ _ _ _ _ _ _ _ (@SE.var _ _ _ _ _ "count" _ (dbg_ne (by decide))) (@SEs.nil _ _ _ _ _) (fun _ => rfl)) rfl (dbg_ne (by decide)) (fun _ => rfl) (fun _ => rfl)) (@op_ge _ _ _ _) rfl) (@SXs.cons _ _ _ _ _ _ _ _ _ (@SX.asg _ _ _ _ _ "count" _ _ _ _ (@SE.bin _ _ _ _ _ _ _ _ _ _ _ _ (@SE.var _ _ _ _ _ "count" _ (dbg_ne (by decide))) (@SE.bin _ _ _ _ _ _ _ _ _ _ _ _ (@SE.list _ _ _ _ _ _ _ _ (@SEs.cons _ _ _ _ _ _ _ _ _ (@SE.int _ _ _ _ _ _ _ _) (@SEs.nil _ _ _ _ _) (fun _ => rfl))) (@SE.bin _ _ _ _ _ _ _ _ _ _ _ _ (@SE.bin _ _ _ _ _ _ _ _ _ _ _ _ (@SE.var _ _ _ _ _ "b" _ (dbg_ne (by decide))) (@SE.callI _ _ _ _ _ _ _ _ _ _ _ _ _ _ X.bi_len fc_len kp_builtin X.G (@SEs.cons _ _ _ _ _ _ _ _ _ (@SE.var _ _ _ _ _ "count" _ (dbg_ne (by decide))) (@SEs.nil _ _ _ _ _) (fun _ => rfl)) rfl (dbg_ne (by decide)) (fun _ => rfl) (fun _ => rfl)) (@op_sub _ _ _ _)) (@SE.int _ _ _ _ _ _ _ _) (@op_add _ _ _ _)) (@op_mul _ _ _ _)) (@op_add _ _ _ _)) (.inl rfl) (fun _ => rfl)) (@SXs.nil _ _ _ _ _)) (@SXs.nil _ _ _ _ _)) (@SXs.cons _ _ _ _ _ _ _ _ _ (@SX.setI _ _ _ _ _ _ _ _ _ _ _ _ _ (@SE.bin _ _ _ _ _ _ _ _ _ _ _ _ (@SE.idx _ _ _ _ _ _ _ _ _ _ (@SE.var _ _ _ _ _ "count" _ (dbg_ne (by decide))) (@SE.var _ _ _ _ _ "b" _ (dbg_ne (by decide))) (fun _ _ => rfl)) (@SE.int _ _ _ _ _ _ _ _) (@op_add _ _ _ _)) (@SE.var _ _ _ _ _ "count" _ (dbg_ne (by decide))) (@SE.var _ _ _ _ _ "b" _ (dbg_ne (by decide))) (fun _ => rfl)) (@SXs.cons _ _ _ _ _ _ _ _ _ (@SX.asg _ _ _ _ _ "b" _ _ _ _ (@SE.int _ _ _ _ _ _ _ _) (.inl rfl) (fun _ => rfl)) (@SXs.nil _ _ _ _ _)))))) (@SXs.cons _ _ _ _ _ _ _ _ _ (@SX.brk _ _ _ _ _ _) (@SXs.nil _ _ _ _ _))) (@SXs.nil _ _ _ _ _))) (@SXs.nil _ _ _ _ _)) (.inl rfl) (fun _ _ => rfl)) (@SXs.cons _ _ _ _ _ _ _ _ _ (@SX.setA _ _ _ _ _ _ _ _ _ _ _ _ _ _ X.c X.n_n (@SE.var _ _ _ _ _ "n" _ (dbg_ne (by decide))) (@SE.var _ _ _ _ _ "self" _ (dbg_ne (by decide))) (fun _ => rfl)) (@SXs.cons _ _ _ _ _ _ _ _ _ (@SX.setA _ _ _ _ _ _ _ _ _ _ _ _ _ _ X.c X.n_nt (@SE.var _ _ _ _ _ "nt" _ (dbg_ne (by decide))) (@SE.var _ _ _ _ _ "self" _ (dbg_ne (by decide))) (fun _ => rfl)) (@SXs.cons _ _ _ _ _ _ _ _ _ (@SX.setA _ _ _ _ _ _ _ _ _ _ _ _ _ _ X.c X.n_norm (@SE.tuple _ _ _ _ _ _ _ _ _ (@SEs.cons _ _ _ _ _ _ _ _ _ (@SE.callI _ _ _ _ _ _ _ _ _ _ _ _ _ _ X.bi_tuple fc_tup kp_type X.G (@SEs.cons _ _ _ _ _ _ _ _ _ (@SE.var _ _ _ _ _ "count" _ (dbg_ne (by decide))) (@SEs.nil _ _ _ _ _) (fun _ => rfl)) rfl (dbg_ne (by decide)) (fun _ => rfl) (fun _ => rfl)) (@SEs.cons _ _ _ _ _ _ _ _ _ (@SE.var _ _ _ _ _ "b" _ (dbg_ne (by decide))) (@SEs.nil _ _ _ _ _) (fun _ => rfl)) (fun _ => rfl))) (@SE.var _ _ _ _ _ "self" _ (dbg_ne (by decide))) (fun _ => rfl)) (@SXs.cons _ _ _ _ _ _ _ _ _ (@SX.setA _ _ _ _ _ _ _ _ _ _ _ _ _ _ X.c X.n_is_simple (@SE.cmp _ _ _ _ _ _ _ _ _ _ _ _ (@SE.callI _ _ _ _ _ _ _ _ _ _ _ _ _ _ X.bi_len fc_len kp_builtin X.G (@SEs.cons _ _ _ _ _ _ _ _ _ (@SE.var _ _ _ _ _ "count" _ (dbg_ne (by decide))) (@SEs.nil _ _ _ _ _) (fun _ => rfl)) rfl (dbg_ne (by decide)) (fun _ => rfl) (fun _ => rfl)) (@SE.int _ _ _ _ _ _ _ _) (@op_le _ _ _ _) rfl) (@SE.var _ _ _ _ _ "self" _ (dbg_ne (by decide))) (fun _ => rfl)) (@SXs.nil _ _ _ _ _))))))))))
noncomputable def g_ws (ad : AD) : FG := mkG ad.ws ["self", "ws"] (q_ws ad)
theorem f_ws (X : Cx prog w K B mg mb ad) : FC prog w B 4 (.ref ad.ws) (g_ws ad) := (@FC.ofClass _ _ _ _ _ _ _ _ _ _ _ _ _ X.c X.ws_m X.ws_i X.ws_t X.G X.ws_fn (@b_ws _ _ _ _ _ _ _ X) (by decide) (by decide))
noncomputable def q_row (ad : AD) : SP :=
 (sSeq (sIf (tCmp eqF (vV "what") (cK (.int 4)))
  (sSeq (sRet (eTup (esC (bO addF (bO idxF (eList (esC (cK (.str [60])) (esC (cK (.str [60, 60])) (esC (cK (.str [60, 60, 61])) (esC (cK (.str [45, 62])) (esC (cK (.str [61])) (esC (cK (.str [61, 61])) (esC (cK (.str [46, 46, 46])) (esC (cK (.str [58, 61])) esN))))))))) (bO modF (vV "far") (cK (.int 8)))) (cK (.str [32, 61]))) (esC (bO idxF (eList (esC (cK (.int 20)) (esC (cK (.int 33)) (esC (cK (.int 44)) (esC (cK (.int 51)) (esC (cK (.int 22)) (esC (cK (.int 27)) (esC (cK (.int 52)) (esC (cK (.int 53)) esN))))))))) (bO modF (vV "far") (cK (.int 8)))) esN))))
 sNil)
  sNil)
 (sSeq (sIf (tCmp eqF (vV "what") (cK (.int 7)))
  (sSeq (sRet (eTup (esC (cK (.str [63])) (esC (cK (.int 255)) esN))))
 sNil)
  sNil)
 (sSeq (sAsg "marks" (bO addF (bO mulF (cK (.str [34, 34])) (bO modF (vV "far") (cK (.int 4)))) (bO idxF (eList (esC (cK (.str [34, 32, 120, 34, 34, 32, 34])) (esC (cK (.str [34])) esN))) (bO modF (vV "what") (cK (.int 2))))))
 (sSeq (sIf (tCmp eqF (vV "what") (cK (.int 5)))
  (sSeq (sRet (eTup (esC (bO addF (bO idxF (eList (esC (cK (.str [50, 53, 48, 32, 34])) (esC (cK (.str [49, 53, 55, 32, 34])) (esC (cK (.str [50, 48, 55, 32, 34])) esN)))) (bO modF (bO fdivF (vV "far") (cK (.int 4))) (cK (.int 3)))) (vV "marks")) (esC (cK (.int 0)) esN))))
 sNil)
  sNil)
 (sSeq (sIf (tCmp eqF (vV "what") (cK (.int 6)))
  (sSeq (sRet (eTup (esC (bO addF (bO idxF (eList (esC (cK (.str [50, 53, 55, 45, 34])) (esC (cK (.str [50, 53, 55, 32, 120])) esN))) (bO modF (bO fdivF (vV "far") (cK (.int 4))) (cK (.int 2)))) (vV "marks")) (esC (bO addF (cK (.int 256)) (vV "place")) esN))))
 sNil)
  sNil)
 (sSeq (sIf (tCmp ltF (vV "what") (cK (.int 2)))
  (sSeq (sRet (eTup (esC (bO addF (cK (.str [50, 53, 55, 32, 34])) (vV "marks")) (esC (eIf (tCmp leF (bO modF (vV "far") (cK (.int 4))) (vV "place")) (bO subF (bO addF (cK (.int 256)) (vV "place")) (bO modF (vV "far") (cK (.int 4)))) (cK (.int 0))) esN))))
 sNil)
  sNil)
 (sSeq (sRet (eTup (esC (bO addF (cK (.str [50, 53, 55, 32, 34, 120])) (vV "marks")) (esC (eIf (tCmp ltF (bO addF (vV "place") (bO modF (vV "far") (cK (.int 4)))) (cK (.int 7))) (bO addF (bO addF (cK (.int 256)) (vV "place")) (bO modF (vV "far") (cK (.int 4)))) (cK (.int 0))) esN))))
 sNil)))))))
theorem b_row (X : Cx prog w K B mg mb ad) : SXs prog w B 3 (scOf (stN 70)) (bodyOf (stN 70)) (q_row ad) :=
 (@SXs.cons _ _ _ _ _ _ _ _ _ (@SX.ite _ _ _ _ _ _ _ _ (tCmp eqF (vV "what") (cK (.int 4))) (sSeq (sRet (eTup (esC (bO addF (bO idxF (eList (esC (cK (.str [60])) (esC (cK (.str [60, 60])) (esC (cK (.str [60, 60, 61])) (esC (cK (.str [45, 62])) (esC (cK (.str [61])) (esC (cK (.str [61, 61])) (esC (cK (.str [46, 46, 46])) (esC (cK (.str [58, 61])) esN))))))))) (bO modF (vV "far") (cK (.int 8)))) (cK (.str [32, 61]))) (esC (bO idxF (eList (esC (cK (.int 20)) (esC (cK (.int 33)) (esC (cK (.int 44)) (esC (cK (.int 51)) (esC (cK (.int 22)) (esC (cK (.int 27)) (esC (cK (.int 52)) (esC (cK (.int 53)) esN))))))))) (bO modF (vV "far") (cK (.int 8)))) esN))))
 sNil) sNil _ (@ST.cmp' _ _ _ _ _ _ _ _ _ _ _ _ (@SE.var _ _ _ _ _ "what" _ (dbg_ne (by decide))) (@SE.int _ _ _ _ _ _ _ _) (@op_eq _ _ _ _) rfl) (@SXs.cons _ _ _ _ _ _ _ _ _ (@SX.ret _ _ _ _ _ _ _ _ (@SE.tuple _ _ _ _ _ _ _ _ _ (@SEs.cons _ _ _ _ _ _ _ _ _ (@SE.bin _ _ _ _ _ _ _ _ _ _ _ _ (@SE.idx _ _ _ _ _ _ _ _ _ _ (@SE.list _ _ _ _ _ _ _ _ (@SEs.cons _ _ _ _ _ _ _ _ _ (@SE.str' _ _ _ _ _ "<" [60] _ _ rfl) (@SEs.cons _ _ _ _ _ _ _ _ _ (@SE.str' _ _ _ _ _ "<<" [60, 60] _ _ rfl) (@SEs.cons _ _ _ _ _ _ _ _ _ (@SE.str' _ _ _ _ _ "<<=" [60, 60, 61] _ _ rfl) (@SEs.cons _ _ _ _ _ _ _ _ _ (@SE.str' _ _ _ _ _ "->" [45, 62] _ _ rfl) (@SEs.cons _ _ _ _ _ _ _ _ _ (@SE.str' _ _ _ _ _ "=" [61] _ _ rfl) (@SEs.cons _ _ _ _ _ _ _ _ _ (@SE.str' _ _ _ _ _ "==" [61, 61] _ _ rfl) (@SEs.cons _ _ _ _ _ _ _ _ _ (@SE.str' _ _ _ _ _ "..." [46, 46, 46] _ _ rfl) (@SEs.cons _ _ _ _ _ _ _ _ _ (@SE.str' _ _ _ _ _ ":=" [58, 61] _ _ rfl) (@SEs.nil _ _ _ _ _) (fun _ => rfl)) (fun _ => rfl)) (fun _ => rfl)) (fun _ => rfl)) (fun _ => rfl)) (fun _ => rfl)) (fun _ => rfl)) (fun _ => rfl))) (@SE.bin _ _ _ _ _ _ _ _ _ _ _ _ (@SE.var _ _ _ _ _ "far" _ (dbg_ne (by decide))) (@SE.int _ _ _ _ _ _ _ _) (@op_mod _ _ _ _)) (fun _ _ => rfl)) (@SE.str' _ _ _ _ _ " =" [32, 61] _ _ rfl) (@op_add _ _ _ _)) (@SEs.cons _ _ _ _ _ _ _ _ _ (@SE.idx _ _ _ _ _ _ _ _ _ _ (@SE.list _ _ _ _ _ _ _ _ (@SEs.cons _ _ _ _ _ _ _ _ _ (@SE.int _ _ _ _ _ _ _ _) (@SEs.cons _ _ _ _ _ _ _ _ _ (@SE.int _ _ _ _ _ _ _ _) (@SEs.cons _ _ _ _ _ _ _ _ _ (@SE.int _ _ _ _ _ _ _ _) (@SEs.cons _ _ _ _ _ _ _ _ _ (@SE.int _ _ _ _ _ _ _ _) (@SEs.cons _ _ _ _ _ _ _ _ _ (@SE.int _ _ _ _ _ _ _ _) (@SEs.cons _ _ _ _ _ _ _ _ _ (@SE.int _ _ _ _ _ _ _ _) (@SEs.cons _ _ _ _ _ _ _ _ _ (@SE.int _ _ _ _ _ _ _ _) (@SEs.cons _ _ _ _ _ _ _ _ _ (@SE.int _ _ _ _ _ _ _ _) (@SEs.nil _ _ _ _ _) (fun _ => rfl)) (fun _ => rfl)) (fun _ => rfl)) (fun _ => rfl)) (fun _ => rfl)) (fun _ => rfl)) (fun _ => rfl)) (fun _ => rfl))) (@SE.bin _ _ _ _ _ _ _ _ _ _ _ _ (@SE.var _ _ _ _ _ "far" _ (dbg_ne (by decide))) (@SE.int _ _ _ _ _ _ _ _) (@op_mod _ _ _ _)) (fun _ _ => rfl)) (@SEs.nil _ _ _ _ _) (fun _ => rfl)) (fun _ => rfl)))) (@SXs.nil _ _ _ _ _)) (@SXs.nil _ _ _ _ _)) (@SXs.cons _ _ _ _ _ _ _ _ _ (@SX.ite _ _ _ _ _ _ _ _ (tCmp eqF (vV "what") (cK (.int 7))) (sSeq (sRet (eTup (esC (cK (.str [63])) (esC (cK (.int 255)) esN))))
 sNil) sNil _ (@ST.cmp' _ _ _ _ _ _ _ _ _ _ _ _ (@SE.var _ _ _ _ _ "what" _ (dbg_ne (by decide))) (@SE.int _ _ _ _ _ _ _ _) (@op_eq _ _ _ _) rfl) (@SXs.cons _ _ _ _ _ _ _ _ _ (@SX.ret _ _ _ _ _ _ _ _ (@SE.tuple _ _ _ _ _ _ _ _ _ (@SEs.cons _ _ _ _ _ _ _ _ _ (@SE.str' _ _ _ _ _ "?" [63] _ _ rfl) (@SEs.cons _ _ _ _ _ _ _ _ _ (@SE.int _ _ _ _ _ _ _ _) (@SEs.nil _ _ _ _ _) (fun _ => rfl)) (fun _ => rfl)))) (@SXs.nil _ _ _ _ _)) (@SXs.nil _ _ _ _ _)) (@SXs.cons _ _ _ _ _ _ _ _ _ (@SX.asg _ _ _ _ _ "marks" _ _ _ _ (@SE.bin _ _ _ _ _ _ _ _ _ _ _ _ (@SE.bin _ _ _ _ _ _ _ _ _ _ _ _ (@SE.str' _ _ _ _ _ "\"\"" [34, 34] _ _ rfl) (@SE.bin _ _ _ _ _ _ _ _ _ _ _ _ (@SE.var _ _ _ _ _ "far" _ (dbg_ne (by decide))) (@SE.int _ _ _ _ _ _ _ _) (@op_mod _ _ _ _)) (@op_mul _ _ _ _)) (@SE.idx _ _ _ _ _ _ _ _ _ _ (@SE.list _ _ _ _ _ _ _ _ (@SEs.cons _ _ _ _ _ _ _ _ _ (@SE.str' _ _ _ _ _ "\" x\"\" \"" [34, 32, 120, 34, 34, 32, 34] _ _ rfl) (@SEs.cons _ _ _ _ _ _ _ _ _ (@SE.str' _ _ _ _ _ "\"" [34] _ _ rfl) (@SEs.nil _ _ _ _ _) (fun _ => rfl)) (fun _ => rfl))) (@SE.bin _ _ _ _ _ _ _ _ _ _ _ _ (@SE.var _ _ _ _ _ "what" _ (dbg_ne (by decide))) (@SE.int _ _ _ _ _ _ _ _) (@op_mod _ _ _ _)) (fun _ _ => rfl)) (@op_add _ _ _ _)) (.inl rfl) (fun _ => rfl)) (@SXs.cons _ _ _ _ _ _ _ _ _ (@SX.ite _ _ _ _ _ _ _ _ (tCmp eqF (vV "what") (cK (.int 5))) (sSeq (sRet (eTup (esC (bO addF (bO idxF (eList (esC (cK (.str [50, 53, 48, 32, 34])) (esC (cK (.str [49, 53, 55, 32, 34])) (esC (cK (.str [50, 48, 55, 32, 34])) esN)))) (bO modF (bO fdivF (vV "far") (cK (.int 4))) (cK (.int 3)))) (vV "marks")) (esC (cK (.int 0)) esN))))
 sNil) sNil _ (@ST.cmp' _ _ _ _ _ _ _ _ _ _ _ _ (@SE.var _ _ _ _ _ "what" _ (dbg_ne (by decide))) (@SE.int _ _ _ _ _ _ _ _) (@op_eq _ _ _ _) rfl) (@SXs.cons _ _ _ _ _ _ _ _ _ (@SX.ret _ _ _ _ _ _ _ _ (@SE.tuple _ _ _ _ _ _ _ _ _ (@SEs.cons _ _ _ _ _ _ _ _ _ (@SE.bin _ _ _ _ _ _ _ _ _ _ _ _ (@SE.idx _ _ _ _ _ _ _ _ _ _ (@SE.list _ _ _ _ _ _ _ _ (@SEs.cons _ _ _ _ _ _ _ _ _ (@SE.str' _ _ _ _ _ "250 \"" [50, 53, 48, 32, 34] _ _ rfl) (@SEs.cons _ _ _ _ _ _ _ _ _ (@SE.str' _ _ _ _ _ "157 \"" [49, 53, 55, 32, 34] _ _ rfl) (@SEs.cons _ _ _ _ _ _ _ _ _ (@SE.str' _ _ _ _ _ "207 \"" [50, 48, 55, 32, 34] _ _ rfl) (@SEs.nil _ _ _ _ _) (fun _ => rfl)) (fun _ => rfl)) (fun _ => rfl))) (@SE.bin _ _ _ _ _ _ _ _ _ _ _ _ (@SE.bin _ _ _ _ _ _ _ _ _ _ _ _ (@SE.var _ _ _ _ _ "far" _ (dbg_ne (by decide))) (@SE.int _ _ _ _ _ _ _ _) (@op_fdiv _ _ _ _)) (@SE.int _ _ _ _ _ _ _ _) (@op_mod _ _ _ _)) (fun _ _ => rfl)) (@SE.var _ _ _ _ _ "marks" _ (dbg_ne (by decide))) (@op_add _ _ _ _)) (@SEs.cons _ _ _ _ _ _ _ _ _ (@SE.int _ _ _ _ _ _ _ _) (@SEs.nil _ _ _ _ _) (fun _ => rfl)) (fun _ => rfl)))) (@SXs.nil _ _ _ _ _)) (@SXs.nil _ _ _ _ _)) (@SXs.cons _ _ _ _ _ _ _ _ _ (@SX.ite _ _ _ _ _ _ _ _ (tCmp eqF (vV "what") (cK (.int 6))) (sSeq (sRet (eTup (esC (bO addF (bO idxF (eList (esC (cK (.str [50, 53, 55, 45, 34])) (esC (cK (.str [50, 53, 55, 32, 120])) esN))) (bO modF (bO fdivF (vV "far") (cK (.int 4))) (cK (.int 2)))) (vV "marks")) (esC (bO addF (cK (.int 256)) (vV "place")) esN))))
 sNil) sNil _ (@ST.cmp' _ _ _ _ _ _ _ _ _ _ _ _ (@SE.var _ _ _ _ _ "what" _ (dbg_ne (by decide))) (@SE.int _ _ _ _ _ _ _ _) (@op_eq _ _ _ _) rfl) (@SXs.cons _ _ _ _ _ _ _ _ _ (@SX.ret _ _ _ _ _ _ _ _ (@SE.tuple _ _ _ _ _ _ _ _ _ (@SEs.cons _ _ _ _ _ _ _ _ _ (@SE.bin _ _ _ _ _ _ _ _ _ _ _ _ (@SE.idx _ _ _ _ _ _ _ _ _ _ (@SE.list _ _ _ _ _ _ _ _ (@SEs.cons _ _ _ _ _ _ _ _ _ (@SE.str' _ _ _ _ _ "257-\"" [50, 53, 55, 45, 34] _ _ rfl) (@SEs.cons _ _ _ _ _ _ _ _ _ (@SE.str' _ _ _ _ _ "257 x" [50, 53, 55, 32, 120] _ _ rfl) (@SEs.nil _ _ _ _ _) (fun _ => rfl)) (fun _ => rfl))) (@SE.bin _ _ _ _ _ _ _ _ _ _ _ _ (@SE.bin _ _ _ _ _ _ _ _ _ _ _ _ (@SE.var _ _ _ _ _ "far" _ (dbg_ne (by decide))) (@SE.int _ _ _ _ _ _ _ _) (@op_fdiv _ _ _ _)) (@SE.int _ _ _ _ _ _ _ _) (@op_mod _ _ _ _)) (fun _ _ => rfl)) (@SE.var _ _ _ _ _ "marks" _ (dbg_ne (by decide))) (@op_add _ _ _ _)) (@SEs.cons _ _ _ _ _ _ _ _ _ (@SE.bin _ _ _ _ _ _ _ _ _ _ _ _ (@SE.int _ _ _ _ _ _ _ _) (@SE.var _ _ _ _ _ "place" _ (dbg_ne (by decide))) (@op_add _ _ _ _)) (@SEs.nil _ _ _ _ _) (fun _ => rfl)) (fun _ => rfl)))) (@SXs.nil _ _ _ _ _)) (@SXs.nil _ _ _ _ _)) (@SXs.cons _ _ _ _ _ _ _ _ _ (@SX.ite _ _ _ _ _ _ _ _ (tCmp ltF (vV "what") (cK (.int 2))) (sSeq (sRet (eTup (esC (bO addF (cK (.str [50, 53, 55, 32, 34])) (vV "marks")) (esC (eIf (tCmp leF (bO modF (vV "far") (cK (.int 4))) (vV "place")) (bO subF (bO addF (cK (.int 256)) (vV "place")) (bO modF (vV "far") (cK (.int 4)))) (cK (.int 0))) esN))))
 sNil) sNil _ (@ST.cmp' _ _ _ _ _ _ _ _ _ _ _ _ (@SE.var _ _ _ _ _ "what" _ (dbg_ne (by decide))) (@SE.int _ _ _ _ _ _ _ _) (@op_lt _ _ _ _) rfl) (@SXs.cons _ _ _ _ _ _ _ _ _ (@SX.ret _ _ _ _ _ _ _ _ (@SE.tuple _ _ _ _ _ _ _ _ _ (@SEs.cons _ _ _ _ _ _ _ _ _ (@SE.bin _ _ _ _ _ _ _ _ _ _ _ _ (@SE.str' _ _ _ _ _ "257 \"" [50, 53, 55, 32, 34] _ _ rfl) (@SE.var _ _ _ _ _ "marks" _ (dbg_ne (by decide))) (@op_add _ _ _ _)) (@SEs.cons _ _ _ _ _ _ _ _ _ (@SE.ite _ _ _ _ _ _ _ _ _ _ _ _ (@ST.cmp' _ _ _ _ _ _ _ _ _ _ _ _ (@SE.bin _ _ _ _ _ _ _ _ _ _ _ _ (@SE.var _ _ _ _ _ "far" _ (dbg_ne (by decide))) (@SE.int _ _ _ _ _ _ _ _) (@op_mod _ _ _ _)) (@SE.var _ _ _ _ _ "place" _ (dbg_ne (by decide))) (@op_le _ _ _ _) rfl) (@SE.bin _ _ _ _ _ _ _ _ _ _ _ _ (@SE.bin _ _ _ _ _ _ _ _ _ _ _ _ (@SE.int _ _ _ _ _ _ _ _) (@SE.var _ _ _ _ _ "place" _ (dbg_ne (by decide))) (@op_add _ _ _ _)) (@SE.bin _ _ _ _ _ _ _ _ _ _ _ _ (@SE.var _ _ _ _ _ "far" _ (dbg_ne (by decide))) (@SE.int _ _ _ _ _ _ _ _) (@op_mod _ _ _ _)) (@op_sub _ _ _ _)) (@SE.int _ _ _ _ _ _ _ _)) (@SEs.nil _ _ _ _ _) (fun _ => rfl)) (fun _ => rfl)))) (@SXs.nil _ _ _ _ _)) (@SXs.nil _ _ _ _ _)) (@SXs.cons _ _ _ _ _ _ _ _ _ (@SX.ret _ _ _ _ _ _ _ _ (@SE.tuple _ _ _ _ _ _ _ _ _ (@SEs.cons _ _ _ _ _ _ _ _ _ (@SE.bin _ _ _ _ _ _ _ _ _ _ _ _ (@SE.str' _ _ _ _ _ "257 \"x" [50, 53, 55, 32, 34, 120] _ _ rfl) (@SE.var _ _ _ _ _ "marks" _ (dbg_ne (by decide))) (@op_add _ _ _ _)) (@SEs.cons _ _ _ _ _ _ _ _ _ (@SE.ite _ _ _ _ _ _ _ _ _ _ _ _ (@ST.cmp' _ _ _ _ _ _ _ _ _ _ _ _ (@SE.bin _ _ _ _ _ _ _ _ _ _ _ _ (@SE.var _ _ _ _ _ "place" _ (dbg_ne (by decide))) (@SE.bin _ _ _ _ _ _ _ _ _ _ _ _ (@SE.var _ _ _ _ _ "far" _ (dbg_ne (by decide))) (@SE.int _ _ _ _ _ _ _ _) (@op_mod _ _ _ _)) (@op_add _ _ _ _)) (@SE.int _ _ _ _ _ _ _ _) (@op_lt _ _ _ _) rfl) (@SE.bin _ _ _ _ _ _ _ _ _ _ _ _ (@SE.bin _ _ _ _ _ _ _ _ _ _ _ _ (@SE.int _ _ _ _ _ _ _ _) (@SE.var _ _ _ _ _ "place" _ (dbg_ne (by decide))) (@op_add _ _ _ _)) (@SE.bin _ _ _ _ _ _ _ _ _ _ _ _ (@SE.var _ _ _ _ _ "far" _ (dbg_ne (by decide))) (@SE.int _ _ _ _ _ _ _ _) (@op_mod _ _ _ _)) (@op_add _ _ _ _)) (@SE.int _ _ _ _ _ _ _ _)) (@SEs.nil _ _ _ _ _) (fun _ => rfl)) (fun _ => rfl)))) (@SXs.nil _ _ _ _ _))))))))
noncomputable def g_row (ad : AD) : FG := gOf ["what", "far", "place"] (q_row ad)
theorem f_row (X : Cx prog w K B mg mb ad) : FC prog w B 4 (.ref ad.row) (g_row ad) := (@FC.ofBody _ _ _ _ _ _ _ _ _ _ _ X.G X.d_row.fn (@b_row _ _ _ _ _ _ _ X) (by decide) (by decide))
noncomputable def q_held (ad : AD) : SP :=
 (sSeq (sFor "size" (eTup (esC (cK (.int 3)) (esC (cK (.int 2)) (esC (cK (.int 1)) esN))))
  (sSeq (sIf (tEtt TT (eSlS (vV "text") pN (pS (vV "size"))))
  (sSeq (sRet (eEtt TT (eSlS (vV "text") pN (pS (vV "size")))))
 sNil)
  sNil)
 sNil))
 (sSeq (sIf (tCmp eqF (vV "text") (cK (.str [63])))
  (sSeq (sRet (cK (.int 255)))
 sNil)
  sNil)
 (sSeq (qTry t_parse (g_parse ad))
 (sSeq (sAsg "goal" (cG (g_add ad) (esC (vV "place") (esC (eNeg (eCount "name")) esN))))
 (sSeq (sIf (asB (cG (g_contains ad) (esC (vV "name") (esC (cK (.str [120])) esN))))
  (sSeq (sAsg "goal" (cG (g_sub ad) (esC (vV "place") (esC (eNeg (eCount "name")) esN))))
 sNil)
  sNil)
 (sSeq (sRet (eIf (tChain leF ltF (cK (.int 0)) (vV "goal") (cK (.int 7))) (cG (g_add ad) (esC (cK (.int 256)) (esC (vV "goal") esN))) (cK (.int 0))))
 sNil))))))
theorem b_held (X : Cx prog w K B mg mb ad) : SXsF prog w B 10 (scOf (stN 72)) (bodyOf (stN 72)) (q_held ad) :=
 (@SXsF.cons _ _ _ _ _ _ _ _ _ (@SX.toF _ _ _ _ _ _ _ (@SX.for _ _ _ _ _ "size" _ _ (eTup (esC (cK (.int 3)) (esC (cK (.int 2)) (esC (cK (.int 1)) esN)))) (sSeq (sIf (tEtt TT (eSlS (vV "text") pN (pS (vV "size"))))
  (sSeq (sRet (eEtt TT (eSlS (vV "text") pN (pS (vV "size")))))
 sNil)
  sNil)
 sNil) _ _ (@SE.tuple _ _ _ _ _ _ _ _ _ (@SEs.cons _ _ _ _ _ _ _ _ _ (@SE.int _ _ _ _ _ _ _ _) (@SEs.cons _ _ _ _ _ _ _ _ _ (@SE.int _ _ _ _ _ _ _ _) (@SEs.cons _ _ _ _ _ _ _ _ _ (@SE.int _ _ _ _ _ _ _ _) (@SEs.nil _ _ _ _ _) (fun _ => rfl)) (fun _ => rfl)) (fun _ => rfl))) (@SXs.cons _ _ _ _ _ _ _ _ _ (@SX.ite _ _ _ _ _ _ _ _ (tEtt TT (eSlS (vV "text") pN (pS (vV "size")))) (sSeq (sRet (eEtt TT (eSlS (vV "text") pN (pS (vV "size")))))
 sNil) sNil _ (@ST.inEtt _ _ _ _ _ _ _ _ _ _ _ _ X.G X.ett (@SE.slS _ _ _ _ _ _ _ _ _ _ _ _ _ (@SE.var _ _ _ _ _ "text" _ (dbg_ne (by decide))) (@SPt.no _ _ _ _ _) (@SPt.so _ _ _ _ _ _ _ (@SE.var _ _ _ _ _ "size" _ (dbg_ne (by decide))))) rfl) (@SXs.cons _ _ _ _ _ _ _ _ _ (@SX.ret _ _ _ _ _ _ _ _ (@SE.idxEtt _ _ _ _ _ _ _ _ _ _ _ _ X.G X.ett (@SE.slS _ _ _ _ _ _ _ _ _ _ _ _ _ (@SE.var _ _ _ _ _ "text" _ (dbg_ne (by decide))) (@SPt.no _ _ _ _ _) (@SPt.so _ _ _ _ _ _ _ (@SE.var _ _ _ _ _ "size" _ (dbg_ne (by decide))))) rfl (fun _ _ => rfl))) (@SXs.nil _ _ _ _ _)) (@SXs.nil _ _ _ _ _)) (@SXs.nil _ _ _ _ _)) (.inl rfl) (fun _ _ => rfl))) (@SXsF.cons _ _ _ _ _ _ _ _ _ (@SX.toF _ _ _ _ _ _ _ (@SX.ite _ _ _ _ _ _ _ _ (tCmp eqF (vV "text") (cK (.str [63]))) (sSeq (sRet (cK (.int 255)))
 sNil) sNil _ (@ST.cmp' _ _ _ _ _ _ _ _ _ _ _ _ (@SE.var _ _ _ _ _ "text" _ (dbg_ne (by decide))) (@SE.str' _ _ _ _ _ "?" [63] _ _ rfl) (@op_eq _ _ _ _) rfl) (@SXs.cons _ _ _ _ _ _ _ _ _ (@SX.ret _ _ _ _ _ _ _ _ (@SE.int _ _ _ _ _ _ _ _)) (@SXs.nil _ _ _ _ _)) (@SXs.nil _ _ _ _ _))) (@SXsF.cons _ _ _ _ _ _ _ _ _ (@SXF.tryP _ _ _ _ _ _ _ _ _ _ _ _ _ _ _ _ _ _ _ _ _ _ _ _ _ _ _ _ _ _ _ _ _ _ _ _ _ _ _ X.ex X.G X.d_parse.fn bt_parse (by decide) rfl X.d_parse.at_ X.d_parse.kp (@f_parse _ _ _ _ _ _ _ X) (by decide) X.bi_str rfl rfl rfl rfl rfl rfl) (@SXs.toF _ _ _ _ _ _ _ (@SXs.cons _ _ _ _ _ _ _ _ _ (@SX.asg _ _ _ _ _ "goal" _ _ _ _ (@SE.callD _ _ _ _ _ _ _ _ _ _ _ _ _ _ _ _ _ X.d_add (@f_add _ _ _ _ _ _ _ X) X.G (@SEs.cons _ _ _ _ _ _ _ _ _ (@SE.var _ _ _ _ _ "place" _ (dbg_ne (by decide))) (@SEs.cons _ _ _ _ _ _ _ _ _ (@SE.neg _ _ _ _ _ _ _ _ (@SE.countD _ _ _ _ _ _ _ _ _ _ _ _ _ _ X.d_countOf X.NB X.G (by decide) (by decide) rfl (by decide))) (@SEs.nil _ _ _ _ _) (fun _ => rfl)) (fun _ => rfl)) (by decide) rfl (dbg_ne (by decide)) (fun _ => rfl) (fun _ => rfl)) (.inl rfl) (fun _ => rfl)) (@SXs.cons _ _ _ _ _ _ _ _ _ (@SX.ite _ _ _ _ _ _ _ _ (asB (cG (g_contains ad) (esC (vV "name") (esC (cK (.str [120])) esN)))) (sSeq (sAsg "goal" (cG (g_sub ad) (esC (vV "place") (esC (eNeg (eCount "name")) esN))))
 sNil) sNil _ (@ST.val _ _ _ _ _ _ _ (@SE.callD _ _ _ _ _ _ _ _ _ _ _ _ _ _ _ _ _ X.d_contains (@f_contains _ _ _ _ _ _ _ X) X.G (@SEs.cons _ _ _ _ _ _ _ _ _ (@SE.var _ _ _ _ _ "name" _ (dbg_ne (by decide))) (@SEs.cons _ _ _ _ _ _ _ _ _ (@SE.str' _ _ _ _ _ "x" [120] _ _ rfl) (@SEs.nil _ _ _ _ _) (fun _ => rfl)) (fun _ => rfl)) (by decide) rfl (dbg_ne (by decide)) (fun _ => rfl) (fun _ => rfl)) (fun _ _ => rfl)) (@SXs.cons _ _ _ _ _ _ _ _ _ (@SX.asg _ _ _ _ _ "goal" _ _ _ _ (@SE.callD _ _ _ _ _ _ _ _ _ _ _ _ _ _ _ _ _ X.d_sub (@f_sub _ _ _ _ _ _ _ X) X.G (@SEs.cons _ _ _ _ _ _ _ _ _ (@SE.var _ _ _ _ _ "place" _ (dbg_ne (by decide))) (@SEs.cons _ _ _ _ _ _ _ _ _ (@SE.neg _ _ _ _ _ _ _ _ (@SE.countD _ _ _ _ _ _ _ _ _ _ _ _ _ _ X.d_countOf X.NB X.G (by decide) (by decide) rfl (by decide))) (@SEs.nil _ _ _ _ _) (fun _ => rfl)) (fun _ => rfl)) (by decide) rfl (dbg_ne (by decide)) (fun _ => rfl) (fun _ => rfl)) (.inl rfl) (fun _ => rfl)) (@SXs.nil _ _ _ _ _)) (@SXs.nil _ _ _ _ _)) (@SXs.cons _ _ _ _ _ _ _ _ _ (@SX.ret _ _ _ _ _ _ _ _ (@SE.ite _ _ _ _ _ _ _ _ _ _ _ _ (@ST.chain _ _ _ _ _ _ _ _ _ _ _ _ _ _ _ _ (@SE.int _ _ _ _ _ _ _ _) (@SE.var _ _ _ _ _ "goal" _ (dbg_ne (by decide))) (@SE.int _ _ _ _ _ _ _ _) (@op_le _ _ _ _) (@op_lt _ _ _ _) rfl) (@SE.callD _ _ _ _ _ _ _ _ _ _ _ _ _ _ _ _ _ X.d_add (@f_add _ _ _ _ _ _ _ X) X.G (@SEs.cons _ _ _ _ _ _ _ _ _ (@SE.int _ _ _ _ _ _ _ _) (@SEs.cons _ _ _ _ _ _ _ _ _ (@SE.var _ _ _ _ _ "goal" _ (dbg_ne (by decide))) (@SEs.nil _ _ _ _ _) (fun _ => rfl)) (fun _ => rfl)) (by decide) rfl (dbg_ne (by decide)) (fun _ => rfl) (fun _ => rfl)) (@SE.int _ _ _ _ _ _ _ _))) (@SXs.nil _ _ _ _ _))))))))
noncomputable def g_held (ad : AD) : FG := gOf ["text", "place"] (q_held ad)
theorem f_held (X : Cx prog w K B mg mb ad) : FC prog w B 11 (.ref ad.held) (g_held ad) := (@FC.ofBodyF _ _ _ _ _ _ _ _ _ _ _ X.G X.d_held.fn (@b_held _ _ _ _ _ _ _ X) (by decide) (by decide))
noncomputable def q_sorted (ad : AD) : SP :=
 (sSeq (sSwp [("low", ⟨0, 0, 0, 0⟩), ("high", ⟨0, 0, 0, 0⟩)] (eTup (esC (bO ltF (vV "kind") (cK (.int 256))) (esC (bO gtF (vV "kind") (cK (.int 255))) esN))))
 (sSeq (sIf (tOr (tCmp isNotF (cG (g_ist ad) (esC (vV "kind") esN)) (vV "low")) (tOr (tCmp isNotF (cG (g_isn ad) (esC (vV "kind") esN)) (vV "high")) (tOr (tCmp isNotF (cG (g_ise ad) (esC (vV "kind") esN)) (bO eqF (vV "kind") (cK (.int 0)))) (tK false))))
  (sSeq (sRet (cK (.bool false)))
 sNil)
  sNil)
 (sSeq (sIf (tOr (tCmp isNotF (cG (g_ise ad) (esC (bO subF (vV "kind") (cK (.int 1))) esN)) (cK (.bool false))) (tOr (tCmp isNotF (cG (g_ise ad) (esC (bO addF (vV "kind") (cK (.int 1))) esN)) (cK (.bool false))) (tK false)))
  (sSeq (sRet (cK (.bool false)))
 sNil)
  sNil)
 (sSeq (sRet (eAnd (bO isF (cG (g_ist ad) (esC (bO subF (cK (.int 511)) (vV "kind")) esN)) (vV "high")) (bO isF (cG (g_isn ad) (esC (bO subF (cK (.int 511)) (vV "kind")) esN)) (vV "low"))))
 sNil))))
theorem b_sorted (X : Cx prog w K B mg mb ad) : SXs prog w B 10 (scOf (stN 76)) (bodyOf (stN 76)) (q_sorted ad) :=
 (@SXs.cons _ _ _ _ _ _ _ _ _ (@SX.swp _ _ _ _ _ [("low", ⟨0, 0, 0, 0⟩), ("high", ⟨0, 0, 0, 0⟩)] _ _ _ _ _ _ (@SE.tuple _ _ _ _ _ _ _ _ _ (@SEs.cons _ _ _ _ _ _ _ _ _ (@SE.cmp _ _ _ _ _ _ _ _ _ _ _ _ (@SE.var _ _ _ _ _ "kind" _ (dbg_ne (by decide))) (@SE.int _ _ _ _ _ _ _ _) (@op_lt _ _ _ _) rfl) (@SEs.cons _ _ _ _ _ _ _ _ _ (@SE.cmp _ _ _ _ _ _ _ _ _ _ _ _ (@SE.var _ _ _ _ _ "kind" _ (dbg_ne (by decide))) (@SE.int _ _ _ _ _ _ _ _) (@op_gt _ _ _ _) rfl) (@SEs.nil _ _ _ _ _) (fun _ => rfl)) (fun _ => rfl))) (by intro x hx; simp only [List.mem_cons, List.not_mem_nil, or_false] at hx; rcases hx with rfl | rfl | rfl | rfl <;> first | exact Or.inl rfl | exact Or.inr rfl) (fun _ => rfl) (by intro env he; cases env; cases he; rfl)) (@SXs.cons _ _ _ _ _ _ _ _ _ (@SX.ite _ _ _ _ _ _ _ _ (tOr (tCmp isNotF (cG (g_ist ad) (esC (vV "kind") esN)) (vV "low")) (tOr (tCmp isNotF (cG (g_isn ad) (esC (vV "kind") esN)) (vV "high")) (tOr (tCmp isNotF (cG (g_ise ad) (esC (vV "kind") esN)) (bO eqF (vV "kind") (cK (.int 0)))) (tK false)))) (sSeq (sRet (cK (.bool false)))
 sNil) sNil _ (@ST.bool _ _ _ _ _ _ _ _ _ (@SA.or _ _ _ _ _ _ _ _ _ (@ST.cmp' _ _ _ _ _ _ _ _ _ _ _ _ (@SE.callD _ _ _ _ _ _ _ _ _ _ _ _ _ _ _ _ _ X.d_ist (@f_ist _ _ _ _ _ _ _ X) X.G (@SEs.cons _ _ _ _ _ _ _ _ _ (@SE.var _ _ _ _ _ "kind" _ (dbg_ne (by decide))) (@SEs.nil _ _ _ _ _) (fun _ => rfl)) (by decide) rfl (dbg_ne (by decide)) (fun _ => rfl) (fun _ => rfl)) (@SE.var _ _ _ _ _ "low" _ (dbg_ne (by decide))) (@op_isNot _ _ _ _) rfl) (@SA.or _ _ _ _ _ _ _ _ _ (@ST.cmp' _ _ _ _ _ _ _ _ _ _ _ _ (@SE.callD _ _ _ _ _ _ _ _ _ _ _ _ _ _ _ _ _ X.d_isn (@f_isn _ _ _ _ _ _ _ X) X.G (@SEs.cons _ _ _ _ _ _ _ _ _ (@SE.var _ _ _ _ _ "kind" _ (dbg_ne (by decide))) (@SEs.nil _ _ _ _ _) (fun _ => rfl)) (by decide) rfl (dbg_ne (by decide)) (fun _ => rfl) (fun _ => rfl)) (@SE.var _ _ _ _ _ "high" _ (dbg_ne (by decide))) (@op_isNot _ _ _ _) rfl) (@SA.or _ _ _ _ _ _ _ _ _ (@ST.cmp' _ _ _ _ _ _ _ _ _ _ _ _ (@SE.callD _ _ _ _ _ _ _ _ _ _ _ _ _ _ _ _ _ X.d_ise (@f_ise _ _ _ _ _ _ _ X) X.G (@SEs.cons _ _ _ _ _ _ _ _ _ (@SE.var _ _ _ _ _ "kind" _ (dbg_ne (by decide))) (@SEs.nil _ _ _ _ _) (fun _ => rfl)) (by decide) rfl (dbg_ne (by decide)) (fun _ => rfl) (fun _ => rfl)) (@SE.cmp _ _ _ _ _ _ _ _ _ _ _ _ (@SE.var _ _ _ _ _ "kind" _ (dbg_ne (by decide))) (@SE.int _ _ _ _ _ _ _ _) (@op_eq _ _ _ _) rfl) (@op_isNot _ _ _ _) rfl) (@SA.orNil _ _ _ _ _))))) (@SXs.cons _ _ _ _ _ _ _ _ _ (@SX.ret _ _ _ _ _ _ _ _ (@SE.bool _ _ _ _ _ _ _ _)) (@SXs.nil _ _ _ _ _)) (@SXs.nil _ _ _ _ _)) (@SXs.cons _ _ _ _ _ _ _ _ _ (@SX.ite _ _ _ _ _ _ _ _ (tOr (tCmp isNotF (cG (g_ise ad) (esC (bO subF (vV "kind") (cK (.int 1))) esN)) (cK (.bool false))) (tOr (tCmp isNotF (cG (g_ise ad) (esC (bO addF (vV "kind") (cK (.int 1))) esN)) (cK (.bool false))) (tK false))) (sSeq (sRet (cK (.bool false)))
 sNil) sNil _ (@ST.bool _ _ _ _ _ _ _ _ _ (@SA.or _ _ _ _ _ _ _ _ _ (@ST.cmp' _ _ _ _ _ _ _ _ _ _ _ _ (@SE.callD _ _ _ _ _ _ _ _ _ _ _ _ _ _ _ _ _ X.d_ise (@f_ise _ _ _ _ _ _ _ X) X.G (@SEs.cons _ _ _ _ _ _ _ _ _ (@SE.bin _ _ _ _ _ _ _ _ _ _ _ _ (@SE.var _ _ _ _ _ "kind" _ (dbg_ne (by decide))) (@SE.int _ _ _ _ _ _ _ _) (@op_sub _ _ _ _)) (@SEs.nil _ _ _ _ _) (fun _ => rfl)) (by decide) rfl (dbg_ne (by decide)) (fun _ => rfl) (fun _ => rfl)) (@SE.bool _ _ _ _ _ _ _ _) (@op_isNot _ _ _ _) rfl) (@SA.or _ _ _ _ _ _ _ _ _ (@ST.cmp' _ _ _ _ _ _ _ _ _ _ _ _ (@SE.callD _ _ _ _ _ _ _ _ _ _ _ _ _ _ _ _ _ X.d_ise (@f_ise _ _ _ _ _ _ _ X) X.G (@SEs.cons _ _ _ _ _ _ _ _ _ (@SE.bin _ _ _ _ _ _ _ _ _ _ _ _ (@SE.var _ _ _ _ _ "kind" _ (dbg_ne (by decide))) (@SE.int _ _ _ _ _ _ _ _) (@op_add _ _ _ _)) (@SEs.nil _ _ _ _ _) (fun _ => rfl)) (by decide) rfl (dbg_ne (by decide)) (fun _ => rfl) (fun _ => rfl)) (@SE.bool _ _ _ _ _ _ _ _) (@op_isNot _ _ _ _) rfl) (@SA.orNil _ _ _ _ _)))) (@SXs.cons _ _ _ _ _ _ _ _ _ (@SX.ret _ _ _ _ _ _ _ _ (@SE.bool _ _ _ _ _ _ _ _)) (@SXs.nil _ _ _ _ _)) (@SXs.nil _ _ _ _ _)) (@SXs.cons _ _ _ _ _ _ _ _ _ (@SX.ret _ _ _ _ _ _ _ _ (@SE.and2 _ _ _ _ _ _ _ _ _ _ (@SE.cmp _ _ _ _ _ _ _ _ _ _ _ _ (@SE.callD _ _ _ _ _ _ _ _ _ _ _ _ _ _ _ _ _ X.d_ist (@f_ist _ _ _ _ _ _ _ X) X.G (@SEs.cons _ _ _ _ _ _ _ _ _ (@SE.bin _ _ _ _ _ _ _ _ _ _ _ _ (@SE.int _ _ _ _ _ _ _ _) (@SE.var _ _ _ _ _ "kind" _ (dbg_ne (by decide))) (@op_sub _ _ _ _)) (@SEs.nil _ _ _ _ _) (fun _ => rfl)) (by decide) rfl (dbg_ne (by decide)) (fun _ => rfl) (fun _ => rfl)) (@SE.var _ _ _ _ _ "high" _ (dbg_ne (by decide))) (@op_is _ _ _ _) rfl) (@SE.cmp _ _ _ _ _ _ _ _ _ _ _ _ (@SE.callD _ _ _ _ _ _ _ _ _ _ _ _ _ _ _ _ _ X.d_isn (@f_isn _ _ _ _ _ _ _ X) X.G (@SEs.cons _ _ _ _ _ _ _ _ _ (@SE.bin _ _ _ _ _ _ _ _ _ _ _ _ (@SE.int _ _ _ _ _ _ _ _) (@SE.var _ _ _ _ _ "kind" _ (dbg_ne (by decide))) (@op_sub _ _ _ _)) (@SEs.nil _ _ _ _ _) (fun _ => rfl)) (by decide) rfl (dbg_ne (by decide)) (fun _ => rfl) (fun _ => rfl)) (@SE.var _ _ _ _ _ "low" _ (dbg_ne (by decide))) (@op_is _ _ _ _) rfl))) (@SXs.nil _ _ _ _ _)))))
noncomputable def g_sorted (ad : AD) : FG := gOf ["kind"] (q_sorted ad)
theorem f_sorted (X : Cx prog w K B mg mb ad) : FC prog w B 11 (.ref ad.sorted) (g_sorted ad) := (@FC.ofBody _ _ _ _ _ _ _ _ _ _ _ X.G X.d_sorted.fn (@b_sorted _ _ _ _ _ _ _ X) (by decide) (by decide))
noncomputable def q_walk_2b0t4t0 (ad : AD) : SP := (sSeq (sRet (cK .none)) sNil)
noncomputable def q_walk_2b0t5 (ad : AD) : SP := (sSeq (sSwp [("behind", ⟨0, 0, 0, 0⟩), ("at", ⟨0, 0, 0, 0⟩)] (eTup (esC (vV "at") (esC (vV "goal") esN)))) sNil)
noncomputable def q_walk_2b0t4 (ad : AD) : SP := (sSeq (sIf (tCmp isNotF (cG (g_setitem ad) (esC (vV "cell") (esC (cK (.int 0)) (esC (vV "behind") esN)))) (cK .none))
  (q_walk_2b0t4t0 ad)
  sNil) (q_walk_2b0t5 ad))
noncomputable def q_walk_2b0t3 (ad : AD) : SP := (sSeq (sAsg "goal" (cG (g_getitem ad) (esC (vV "cell") (esC (cK (.int 0)) esN)))) (q_walk_2b0t4 ad))
noncomputable def q_walk_2b0t2 (ad : AD) : SP := (sSeq (sAsg "cell" (cG (g_getitem ad) (esC (vV "memory") (esC (cG (g_sub ad) (esC (vV "at") (esC (cK (.int 256)) esN))) esN)))) (q_walk_2b0t3 ad))
noncomputable def q_walk_2b0t1 (ad : AD) : SP := (sSeq (sSetI (vV "stage") (vV "at") (cK (.int 0))) (q_walk_2b0t2 ad))
noncomputable def q_walk_2b0t0 (ad : AD) : SP := (sSeq (sExp (mG appG (vV "met") (esC (eTup (esC (vV "at") (esC (vV "behind") esN))) esN))) (q_walk_2b0t1 ad))
noncomputable def q_walk_2b0e0t0 (ad : AD) : SP := (sSeq (sRet (vV "met")) sNil)
noncomputable def q_walk_2b0e0e4t2 (ad : AD) : SP := (sSeq (sExp (cG (g_setitem ad) (esC (vV "cell") (esC (bO addF (vV "field") (cK (.int 1))) (esC (vV "above") esN))))) sNil)
noncomputable def q_walk_2b0e0e4t1 (ad : AD) : SP := (sSeq (sAsg "at" (cG (g_getitem ad) (esC (vV "cell") (esC (bO addF (vV "field") (cK (.int 1))) esN)))) (q_walk_2b0e0e4t2 ad))
noncomputable def q_walk_2b0e0e4t0 (ad : AD) : SP := (sSeq (sSetI (vV "stage") (vV "behind") (bO addF (vV "field") (cK (.int 1)))) (q_walk_2b0e0e4t1 ad))
noncomputable def q_walk_2b0e0e4e0 (ad : AD) : SP := (sSeq (sSwp [("behind", ⟨0, 0, 0, 0⟩), ("at", ⟨0, 0, 0, 0⟩)] (eTup (esC (vV "above") (esC (vV "behind") esN)))) sNil)
noncomputable def q_walk_2b0e0e4 (ad : AD) : SP := (sSeq (sIf (tCmp ltF (vV "field") (cK (.int 2)))
  (q_walk_2b0e0e4t0 ad)
  (q_walk_2b0e0e4e0 ad)) sNil)
noncomputable def q_walk_2b0e0e3 (ad : AD) : SP := (sSeq (sExp (cG (g_setitem ad) (esC (vV "cell") (esC (vV "field") (esC (vV "at") esN))))) (q_walk_2b0e0e4 ad))
noncomputable def q_walk_2b0e0e2 (ad : AD) : SP := (sSeq (sAsg "above" (cG (g_getitem ad) (esC (vV "cell") (esC (vV "field") esN)))) (q_walk_2b0e0e3 ad))
noncomputable def q_walk_2b0e0e1 (ad : AD) : SP := (sSeq (sAsg "field" (bO idxF (vV "stage") (vV "behind"))) (q_walk_2b0e0e2 ad))
noncomputable def q_walk_2b0e0e0 (ad : AD) : SP := (sSeq (sAsg "cell" (cG (g_getitem ad) (esC (vV "memory") (esC (cG (g_sub ad) (esC (vV "behind") (esC (cK (.int 256)) esN))) esN)))) (q_walk_2b0e0e1 ad))
noncomputable def q_walk_2b0e0 (ad : AD) : SP := (sSeq (sIf (asB (cG (g_ise ad) (esC (vV "behind") esN)))
  (q_walk_2b0e0t0 ad)
  (q_walk_2b0e0e0 ad)) sNil)
noncomputable def q_walk_2b0 (ad : AD) : SP := (sSeq (sIf (tAnd (asB (cG (g_isn ad) (esC (vV "at") esN))) (tAnd (tNot (asB (cG (g_contains ad) (esC (vV "stage") (esC (vV "at") esN))))) (tK true)))
  (q_walk_2b0t0 ad)
  (q_walk_2b0e0 ad)) sNil)
noncomputable def q_walk_3 (ad : AD) : SP := (sSeq (sRet (cK .none)) sNil)
noncomputable def q_walk_2 (ad : AD) : SP := (sSeq (sFor "turn" (cG rngG (esC (vV "turns") esN))
  (q_walk_2b0 ad)) (q_walk_3 ad))
noncomputable def q_walk_1 (ad : AD) : SP := (sSeq (sSwp [("behind", ⟨0, 0, 0, 0⟩), ("at", ⟨0, 0, 0, 0⟩)] (eTup (esC (cK (.int 0)) (esC (vV "start") esN)))) (q_walk_2 ad))
noncomputable def q_walk_0 (ad : AD) : SP := (sSeq (sSwp [("met", ⟨0, 0, 0, 0⟩), ("stage", ⟨0, 0, 0, 0⟩)] (eTup (esC (eList esN) (esC eDict esN)))) (q_walk_1 ad))
noncomputable def q_walk (ad : AD) : SP :=
 (q_walk_0 ad)
theorem b_walk (X : Cx prog w K B mg mb ad) : SXs prog w B 10 (scOf (stN 74)) (bodyOf (stN 74)) (q_walk ad) :=
 (@SXs.cons _ _ _ _ _ _ _ (sSwp [("met", ⟨0, 0, 0, 0⟩), ("stage", ⟨0, 0, 0, 0⟩)] (eTup (esC (eList esN) (esC eDict esN)))) (q_walk_1 ad) (@SX.swp _ _ _ _ _ [("met", ⟨0, 0, 0, 0⟩), ("stage", ⟨0, 0, 0, 0⟩)] _ _ _ _ _ _ (@SE.tuple _ _ _ _ _ _ _ _ _ (@SEs.cons _ _ _ _ _ _ _ _ _ (@SE.list _ _ _ _ _ _ _ _ (@SEs.nil _ _ _ _ _)) (@SEs.cons _ _ _ _ _ _ _ _ _ (@SE.dict _ _ _ _ _ _) (@SEs.nil _ _ _ _ _) (fun _ => rfl)) (fun _ => rfl))) (by intro x hx; simp only [List.mem_cons, List.not_mem_nil, or_false] at hx; rcases hx with rfl | rfl | rfl | rfl <;> first | exact Or.inl rfl | exact Or.inr rfl) (fun _ => rfl) (by intro env he; cases env; cases he; rfl)) (@SXs.cons _ _ _ _ _ _ _ (sSwp [("behind", ⟨0, 0, 0, 0⟩), ("at", ⟨0, 0, 0, 0⟩)] (eTup (esC (cK (.int 0)) (esC (vV "start") esN)))) (q_walk_2 ad) (@SX.swp _ _ _ _ _ [("behind", ⟨0, 0, 0, 0⟩), ("at", ⟨0, 0, 0, 0⟩)] _ _ _ _ _ _ (@SE.tuple _ _ _ _ _ _ _ _ _ (@SEs.cons _ _ _ _ _ _ _ _ _ (@SE.int _ _ _ _ _ _ _ _) (@SEs.cons _ _ _ _ _ _ _ _ _ (@SE.var _ _ _ _ _ "start" _ (dbg_ne (by decide))) (@SEs.nil _ _ _ _ _) (fun _ => rfl)) (fun _ => rfl))) (by intro x hx; simp only [List.mem_cons, List.not_mem_nil, or_false] at hx; rcases hx with rfl | rfl | rfl | rfl <;> first | exact Or.inl rfl | exact Or.inr rfl) (fun _ => rfl) (by intro env he; cases env; cases he; rfl)) (@SXs.cons _ _ _ _ _ _ _ (sFor "turn" (cG rngG (esC (vV "turns") esN))
  (q_walk_2b0 ad)) (q_walk_3 ad) (@SX.for _ _ _ _ _ "turn" _ _ (cG rngG (esC (vV "turns") esN)) (q_walk_2b0 ad) _ _ (@SE.callI _ _ _ _ _ _ _ _ _ _ _ _ _ _ X.bi_range fc_rng kp_type X.G (@SEs.cons _ _ _ _ _ _ _ _ _ (@SE.var _ _ _ _ _ "turns" _ (dbg_ne (by decide))) (@SEs.nil _ _ _ _ _) (fun _ => rfl)) rfl (dbg_ne (by decide)) (fun _ => rfl) (fun _ => rfl)) (@SXs.cons _ _ _ _ _ _ _ (sIf (tAnd (asB (cG (g_isn ad) (esC (vV "at") esN))) (tAnd (tNot (asB (cG (g_contains ad) (esC (vV "stage") (esC (vV "at") esN))))) (tK true)))
  (q_walk_2b0t0 ad)
  (q_walk_2b0e0 ad)) sNil (@SX.ite _ _ _ _ _ _ _ _ (tAnd (asB (cG (g_isn ad) (esC (vV "at") esN))) (tAnd (tNot (asB (cG (g_contains ad) (esC (vV "stage") (esC (vV "at") esN))))) (tK true))) (q_walk_2b0t0 ad) (q_walk_2b0e0 ad) _ (@ST.bool _ _ _ _ _ _ _ _ _ (@SA.and _ _ _ _ _ _ _ _ _ (@ST.val _ _ _ _ _ _ _ (@SE.callD _ _ _ _ _ _ _ _ _ _ _ _ _ _ _ _ _ X.d_isn (@f_isn _ _ _ _ _ _ _ X) X.G (@SEs.cons _ _ _ _ _ _ _ _ _ (@SE.var _ _ _ _ _ "at" _ (dbg_ne (by decide))) (@SEs.nil _ _ _ _ _) (fun _ => rfl)) (by decide) rfl (dbg_ne (by decide)) (fun _ => rfl) (fun _ => rfl)) (fun _ _ => rfl)) (@SA.and _ _ _ _ _ _ _ _ _ (@ST.not _ _ _ _ _ _ _ _ (@ST.val _ _ _ _ _ _ _ (@SE.callD _ _ _ _ _ _ _ _ _ _ _ _ _ _ _ _ _ X.d_contains (@f_contains _ _ _ _ _ _ _ X) X.G (@SEs.cons _ _ _ _ _ _ _ _ _ (@SE.var _ _ _ _ _ "stage" _ (dbg_ne (by decide))) (@SEs.cons _ _ _ _ _ _ _ _ _ (@SE.var _ _ _ _ _ "at" _ (dbg_ne (by decide))) (@SEs.nil _ _ _ _ _) (fun _ => rfl)) (fun _ => rfl)) (by decide) rfl (dbg_ne (by decide)) (fun _ => rfl) (fun _ => rfl)) (fun _ _ => rfl))) (@SA.andNil _ _ _ _ _)))) (@SXs.cons _ _ _ _ _ _ _ (sExp (mG appG (vV "met") (esC (eTup (esC (vV "at") (esC (vV "behind") esN))) esN))) (q_walk_2b0t1 ad) (@SX.exp _ _ _ _ _ _ _ _ (@SE.callM _ _ _ _ _ _ _ _ _ _ _ _ _ _ _ (@SE.var _ _ _ _ _ "met" _ (dbg_ne (by decide))) fc_app F.slot_list_append rfl (@SEs.cons _ _ _ _ _ _ _ _ _ (@SE.tuple _ _ _ _ _ _ _ _ _ (@SEs.cons _ _ _ _ _ _ _ _ _ (@SE.var _ _ _ _ _ "at" _ (dbg_ne (by decide))) (@SEs.cons _ _ _ _ _ _ _ _ _ (@SE.var _ _ _ _ _ "behind" _ (dbg_ne (by decide))) (@SEs.nil _ _ _ _ _) (fun _ => rfl)) (fun _ => rfl))) (@SEs.nil _ _ _ _ _) (fun _ => rfl)) (Nat.le_refl _) (fun _ => rfl) (fun _ => rfl) (fun _ => ⟨_, rfl⟩)) rfl (fun _ => rfl)) (@SXs.cons _ _ _ _ _ _ _ (sSetI (vV "stage") (vV "at") (cK (.int 0))) (q_walk_2b0t2 ad) (@SX.setI _ _ _ _ _ _ _ _ _ _ _ _ _ (@SE.int _ _ _ _ _ _ _ _) (@SE.var _ _ _ _ _ "stage" _ (dbg_ne (by decide))) (@SE.var _ _ _ _ _ "at" _ (dbg_ne (by decide))) (fun _ => rfl)) (@SXs.cons _ _ _ _ _ _ _ (sAsg "cell" (cG (g_getitem ad) (esC (vV "memory") (esC (cG (g_sub ad) (esC (vV "at") (esC (cK (.int 256)) esN))) esN)))) (q_walk_2b0t3 ad) (@SX.asg _ _ _ _ _ "cell" _ _ _ _ (@SE.callD _ _ _ _ _ _ _ _ _ _ _ _ _ _ _ _ _ X.d_getitem (@f_getitem _ _ _ _ _ _ _ X) X.G (@SEs.cons _ _ _ _ _ _ _ _ _ (@SE.var _ _ _ _ _ "memory" _ (dbg_ne (by decide))) (@SEs.cons _ _ _ _ _ _ _ _ _ (@SE.callD _ _ _ _ _ _ _ _ _ _ _ _ _ _ _ _ _ X.d_sub (@f_sub _ _ _ _ _ _ _ X) X.G (@SEs.cons _ _ _ _ _ _ _ _ _ (@SE.var _ _ _ _ _ "at" _ (dbg_ne (by decide))) (@SEs.cons _ _ _ _ _ _ _ _ _ (@SE.int _ _ _ _ _ _ _ _) (@SEs.nil _ _ _ _ _) (fun _ => rfl)) (fun _ => rfl)) (by decide) rfl (dbg_ne (by decide)) (fun _ => rfl) (fun _ => rfl)) (@SEs.nil _ _ _ _ _) (fun _ => rfl)) (fun _ => rfl)) (by decide) rfl (dbg_ne (by decide)) (fun _ => rfl) (fun _ => rfl)) (.inl rfl) (fun _ => rfl)) (@SXs.cons _ _ _ _ _ _ _ (sAsg "goal" (cG (g_getitem ad) (esC (vV "cell") (esC (cK (.int 0)) esN)))) (q_walk_2b0t4 ad) (@SX.asg _ _ _ _ _ "goal" _ _ _ _ (@SE.callD _ _ _ _ _ _ _ _ _ _ _ _ _ _ _ _ _ X.d_getitem (@f_getitem _ _ _ _ _ _ _ X) X.G (@SEs.cons _ _ _ _ _ _ _ _ _ (@SE.var _ _ _ _ _ "cell" _ (dbg_ne (by decide))) (@SEs.cons _ _ _ _ _ _ _ _ _ (@SE.int _ _ _ _ _ _ _ _) (@SEs.nil _ _ _ _ _) (fun _ => rfl)) (fun _ => rfl)) (by decide) rfl (dbg_ne (by decide)) (fun _ => rfl) (fun _ => rfl)) (.inl rfl) (fun _ => rfl)) (@SXs.cons _ _ _ _ _ _ _ (sIf (tCmp isNotF (cG (g_setitem ad) (esC (vV "cell") (esC (cK (.int 0)) (esC (vV "behind") esN)))) (cK .none))
  (q_walk_2b0t4t0 ad)
  sNil) (q_walk_2b0t5 ad) (@SX.ite _ _ _ _ _ _ _ _ (tCmp isNotF (cG (g_setitem ad) (esC (vV "cell") (esC (cK (.int 0)) (esC (vV "behind") esN)))) (cK .none)) (q_walk_2b0t4t0 ad) sNil _ (@ST.cmp' _ _ _ _ _ _ _ _ _ _ _ _ (@SE.callD _ _ _ _ _ _ _ _ _ _ _ _ _ _ _ _ _ X.d_setitem (@f_setitem _ _ _ _ _ _ _ X) X.G (@SEs.cons _ _ _ _ _ _ _ _ _ (@SE.var _ _ _ _ _ "cell" _ (dbg_ne (by decide))) (@SEs.cons _ _ _ _ _ _ _ _ _ (@SE.int _ _ _ _ _ _ _ _) (@SEs.cons _ _ _ _ _ _ _ _ _ (@SE.var _ _ _ _ _ "behind" _ (dbg_ne (by decide))) (@SEs.nil _ _ _ _ _) (fun _ => rfl)) (fun _ => rfl)) (fun _ => rfl)) (by decide) rfl (dbg_ne (by decide)) (fun _ => rfl) (fun _ => rfl)) (@SE.nul _ _ _ _ _ _ _) (@op_isNot _ _ _ _) rfl) (@SXs.cons _ _ _ _ _ _ _ (sRet (cK .none)) sNil (@SX.ret _ _ _ _ _ _ _ _ (@SE.nul _ _ _ _ _ _ _)) (@SXs.nil _ _ _ _ _)) (@SXs.nil _ _ _ _ _)) (@SXs.cons _ _ _ _ _ _ _ (sSwp [("behind", ⟨0, 0, 0, 0⟩), ("at", ⟨0, 0, 0, 0⟩)] (eTup (esC (vV "at") (esC (vV "goal") esN)))) sNil (@SX.swp _ _ _ _ _ [("behind", ⟨0, 0, 0, 0⟩), ("at", ⟨0, 0, 0, 0⟩)] _ _ _ _ _ _ (@SE.tuple _ _ _ _ _ _ _ _ _ (@SEs.cons _ _ _ _ _ _ _ _ _ (@SE.var _ _ _ _ _ "at" _ (dbg_ne (by decide))) (@SEs.cons _ _ _ _ _ _ _ _ _ (@SE.var _ _ _ _ _ "goal" _ (dbg_ne (by decide))) (@SEs.nil _ _ _ _ _) (fun _ => rfl)) (fun _ => rfl))) (by intro x hx; simp only [List.mem_cons, List.not_mem_nil, or_false] at hx; rcases hx with rfl | rfl | rfl | rfl <;> first | exact Or.inl rfl | exact Or.inr rfl) (fun _ => rfl) (by intro env he; cases env; cases he; rfl)) (@SXs.nil _ _ _ _ _))))))) (@SXs.cons _ _ _ _ _ _ _ (sIf (asB (cG (g_ise ad) (esC (vV "behind") esN)))
  (q_walk_2b0e0t0 ad)
  (q_walk_2b0e0e0 ad)) sNil (@SX.ite _ _ _ _ _ _ _ _ (asB (cG (g_ise ad) (esC (vV "behind") esN))) (q_walk_2b0e0t0 ad) (q_walk_2b0e0e0 ad) _ (@ST.val _ _ _ _ _ _ _ (@SE.callD _ _ _ _ _ _ _ _ _ _ _ _ _ _ _ _ _ X.d_ise (@f_ise _ _ _ _ _ _ _ X) X.G (@SEs.cons _ _ _ _ _ _ _ _ _ (@SE.var _ _ _ _ _ "behind" _ (dbg_ne (by decide))) (@SEs.nil _ _ _ _ _) (fun _ => rfl)) (by decide) rfl (dbg_ne (by decide)) (fun _ => rfl) (fun _ => rfl)) (fun _ _ => rfl)) (@SXs.cons _ _ _ _ _ _ _ (sRet (vV "met")) sNil (@SX.ret _ _ _ _ _ _ _ _ (@SE.var _ _ _ _ _ "met" _ (dbg_ne (by decide)))) (@SXs.nil _ _ _ _ _)) (@SXs.cons _ _ _ _ _ _ _ (sAsg "cell" (cG (g_getitem ad) (esC (vV "memory") (esC (cG (g_sub ad) (esC (vV "behind") (esC (cK (.int 256)) esN))) esN)))) (q_walk_2b0e0e1 ad) (@SX.asg _ _ _ _ _ "cell" _ _ _ _ (@SE.callD _ _ _ _ _ _ _ _ _ _ _ _ _ _ _ _ _ X.d_getitem (@f_getitem _ _ _ _ _ _ _ X) X.G (@SEs.cons _ _ _ _ _ _ _ _ _ (@SE.var _ _ _ _ _ "memory" _ (dbg_ne (by decide))) (@SEs.cons _ _ _ _ _ _ _ _ _ (@SE.callD _ _ _ _ _ _ _ _ _ _ _ _ _ _ _ _ _ X.d_sub (@f_sub _ _ _ _ _ _ _ X) X.G (@SEs.cons _ _ _ _ _ _ _ _ _ (@SE.var _ _ _ _ _ "behind" _ (dbg_ne (by decide))) (@SEs.cons _ _ _ _ _ _ _ _ _ (@SE.int _ _ _ _ _ _ _ _) (@SEs.nil _ _ _ _ _) (fun _ => rfl)) (fun _ => rfl)) (by decide) rfl (dbg_ne (by decide)) (fun _ => rfl) (fun _ => rfl)) (@SEs.nil _ _ _ _ _) (fun _ => rfl)) (fun _ => rfl)) (by decide) rfl (dbg_ne (by decide)) (fun _ => rfl) (fun _ => rfl)) (.inl rfl) (fun _ => rfl)) (@SXs.cons _ _ _ _ _ _ _ (sAsg "field" (bO idxF (vV "stage") (vV "behind"))) (q_walk_2b0e0e2 ad) (@SX.asg _ _ _ _ _ "field" _ _ _ _ (@SE.idx _ _ _ _ _ _ _ _ _ _ (@SE.var _ _ _ _ _ "stage" _ (dbg_ne (by decide))) (@SE.var _ _ _ _ _ "behind" _ (dbg_ne (by decide))) (fun _ _ => rfl)) (.inl rfl) (fun _ => rfl)) (@SXs.cons _ _ _ _ _ _ _ (sAsg "above" (cG (g_getitem ad) (esC (vV "cell") (esC (vV "field") esN)))) (q_walk_2b0e0e3 ad) (@SX.asg _ _ _ _ _ "above" _ _ _ _ (@SE.callD _ _ _ _ _ _ _ _ _ _ _ _ _ _ _ _ _ X.d_getitem (@f_getitem _ _ _ _ _ _ _ X) X.G (@SEs.cons _ _ _ _ _ _ _ _ _ (@SE.var _ _ _ _ _ "cell" _ (dbg_ne (by decide))) (@SEs.cons _ _ _ _ _ _ _ _ _ (@SE.var _ _ _ _ _ "field" _ (dbg_ne (by decide))) (@SEs.nil _ _ _ _ _) (fun _ => rfl)) (fun _ => rfl)) (by decide) rfl (dbg_ne (by decide)) (fun _ => rfl) (fun _ => rfl)) (.inl rfl) (fun _ => rfl)) (@SXs.cons _ _ _ _ _ _ _ (sExp (cG (g_setitem ad) (esC (vV "cell") (esC (vV "field") (esC (vV "at") esN))))) (q_walk_2b0e0e4 ad) (@SX.exp _ _ _ _ _ _ _ _ (@SE.callD _ _ _ _ _ _ _ _ _ _ _ _ _ _ _ _ _ X.d_setitem (@f_setitem _ _ _ _ _ _ _ X) X.G (@SEs.cons _ _ _ _ _ _ _ _ _ (@SE.var _ _ _ _ _ "cell" _ (dbg_ne (by decide))) (@SEs.cons _ _ _ _ _ _ _ _ _ (@SE.var _ _ _ _ _ "field" _ (dbg_ne (by decide))) (@SEs.cons _ _ _ _ _ _ _ _ _ (@SE.var _ _ _ _ _ "at" _ (dbg_ne (by decide))) (@SEs.nil _ _ _ _ _) (fun _ => rfl)) (fun _ => rfl)) (fun _ => rfl)) (by decide) rfl (dbg_ne (by decide)) (fun _ => rfl) (fun _ => rfl)) rfl (fun _ => rfl)) (@SXs.cons _ _ _ _ _ _ _ (sIf (tCmp ltF (vV "field") (cK (.int 2)))
  (q_walk_2b0e0e4t0 ad)
  (q_walk_2b0e0e4e0 ad)) sNil (@SX.ite _ _ _ _ _ _ _ _ (tCmp ltF (vV "field") (cK (.int 2))) (q_walk_2b0e0e4t0 ad) (q_walk_2b0e0e4e0 ad) _ (@ST.cmp' _ _ _ _ _ _ _ _ _ _ _ _ (@SE.var _ _ _ _ _ "field" _ (dbg_ne (by decide))) (@SE.int _ _ _ _ _ _ _ _) (@op_lt _ _ _ _) rfl) (@SXs.cons _ _ _ _ _ _ _ (sSetI (vV "stage") (vV "behind") (bO addF (vV "field") (cK (.int 1)))) (q_walk_2b0e0e4t1 ad) (@SX.setI _ _ _ _ _ _ _ _ _ _ _ _ _ (@SE.bin _ _ _ _ _ _ _ _ _ _ _ _ (@SE.var _ _ _ _ _ "field" _ (dbg_ne (by decide))) (@SE.int _ _ _ _ _ _ _ _) (@op_add _ _ _ _)) (@SE.var _ _ _ _ _ "stage" _ (dbg_ne (by decide))) (@SE.var _ _ _ _ _ "behind" _ (dbg_ne (by decide))) (fun _ => rfl)) (@SXs.cons _ _ _ _ _ _ _ (sAsg "at" (cG (g_getitem ad) (esC (vV "cell") (esC (bO addF (vV "field") (cK (.int 1))) esN)))) (q_walk_2b0e0e4t2 ad) (@SX.asg _ _ _ _ _ "at" _ _ _ _ (@SE.callD _ _ _ _ _ _ _ _ _ _ _ _ _ _ _ _ _ X.d_getitem (@f_getitem _ _ _ _ _ _ _ X) X.G (@SEs.cons _ _ _ _ _ _ _ _ _ (@SE.var _ _ _ _ _ "cell" _ (dbg_ne (by decide))) (@SEs.cons _ _ _ _ _ _ _ _ _ (@SE.bin _ _ _ _ _ _ _ _ _ _ _ _ (@SE.var _ _ _ _ _ "field" _ (dbg_ne (by decide))) (@SE.int _ _ _ _ _ _ _ _) (@op_add _ _ _ _)) (@SEs.nil _ _ _ _ _) (fun _ => rfl)) (fun _ => rfl)) (by decide) rfl (dbg_ne (by decide)) (fun _ => rfl) (fun _ => rfl)) (.inl rfl) (fun _ => rfl)) (@SXs.cons _ _ _ _ _ _ _ (sExp (cG (g_setitem ad) (esC (vV "cell") (esC (bO addF (vV "field") (cK (.int 1))) (esC (vV "above") esN))))) sNil (@SX.exp _ _ _ _ _ _ _ _ (@SE.callD _ _ _ _ _ _ _ _ _ _ _ _ _ _ _ _ _ X.d_setitem (@f_setitem _ _ _ _ _ _ _ X) X.G (@SEs.cons _ _ _ _ _ _ _ _ _ (@SE.var _ _ _ _ _ "cell" _ (dbg_ne (by decide))) (@SEs.cons _ _ _ _ _ _ _ _ _ (@SE.bin _ _ _ _ _ _ _ _ _ _ _ _ (@SE.var _ _ _ _ _ "field" _ (dbg_ne (by decide))) (@SE.int _ _ _ _ _ _ _ _) (@op_add _ _ _ _)) (@SEs.cons _ _ _ _ _ _ _ _ _ (@SE.var _ _ _ _ _ "above" _ (dbg_ne (by decide))) (@SEs.nil _ _ _ _ _) (fun _ => rfl)) (fun _ => rfl)) (fun _ => rfl)) (by decide) rfl (dbg_ne (by decide)) (fun _ => rfl) (fun _ => rfl)) rfl (fun _ => rfl)) (@SXs.nil _ _ _ _ _)))) (@SXs.cons _ _ _ _ _ _ _ (sSwp [("behind", ⟨0, 0, 0, 0⟩), ("at", ⟨0, 0, 0, 0⟩)] (eTup (esC (vV "above") (esC (vV "behind") esN)))) sNil (@SX.swp _ _ _ _ _ [("behind", ⟨0, 0, 0, 0⟩), ("at", ⟨0, 0, 0, 0⟩)] _ _ _ _ _ _ (@SE.tuple _ _ _ _ _ _ _ _ _ (@SEs.cons _ _ _ _ _ _ _ _ _ (@SE.var _ _ _ _ _ "above" _ (dbg_ne (by decide))) (@SEs.cons _ _ _ _ _ _ _ _ _ (@SE.var _ _ _ _ _ "behind" _ (dbg_ne (by decide))) (@SEs.nil _ _ _ _ _) (fun _ => rfl)) (fun _ => rfl))) (by intro x hx; simp only [List.mem_cons, List.not_mem_nil, or_false] at hx; rcases hx with rfl | rfl | rfl | rfl <;> first | exact Or.inl rfl | exact Or.inr rfl) (fun _ => rfl) (by intro env he; cases env; cases he; rfl)) (@SXs.nil _ _ _ _ _))) (@SXs.nil _ _ _ _ _))))))) (@SXs.nil _ _ _ _ _))) (@SXs.nil _ _ _ _ _)) (.inl rfl) (fun _ _ => rfl)) (@SXs.cons _ _ _ _ _ _ _ (sRet (cK .none)) sNil (@SX.ret _ _ _ _ _ _ _ _ (@SE.nul _ _ _ _ _ _ _)) (@SXs.nil _ _ _ _ _)))))
noncomputable def g_walk (ad : AD) : FG := gOf ["memory", "start", "turns"] (q_walk ad)
theorem f_walk (X : Cx prog w K B mg mb ad) : FC prog w B 11 (.ref ad.walk) (g_walk ad) := (@FC.ofBody _ _ _ _ _ _ _ _ _ _ _ X.G X.d_walk.fn (@b_walk _ _ _ _ _ _ _ X) (by decide) (by decide))
noncomputable def q_read_1b3b0 (ad : AD) : SP := (sSeq (sAsg "last" (mG popG (vV "line") esN)) sNil)
noncomputable def q_read_1b4t0 (ad : AD) : SP := (sSeq (sExp (cG (g_setitem ad) (esC (bO idxF (vV "memory") (vV "last")) (esC (cK (.int 2)) (esC (cG (g_add ad) (esC (cK (.int 256)) (esC (vV "k") esN))) esN))))) sNil)
noncomputable def q_read_1b4e0t0 (ad : AD) : SP := (sSeq (sExp (cG (g_setitem ad) (esC (bO idxF (vV "memory") (bO idxF (vV "line") (eNeg (cK (.int 1))))) (esC (cK (.int 1)) (esC (cG (g_add ad) (esC (cK (.int 256)) (esC (vV "k") esN))) esN))))) sNil)
noncomputable def q_read_1b4e0 (ad : AD) : SP := (sSeq (sIf (tCmp neU (vV "line") (eList esN))
  (q_read_1b4e0t0 ad)
  sNil) sNil)
noncomputable def q_read_1b6 (ad : AD) : SP := (sSeq (sExp (mG appG (vV "leads") (esC (vV "lead") esN))) sNil)
noncomputable def q_read_1b5 (ad : AD) : SP := (sSeq (sExp (mG appG (vV "line") (esC (vV "k") esN))) (q_read_1b6 ad))
noncomputable def q_read_1b4 (ad : AD) : SP := (sSeq (sIf (tCmp geF (vV "last") (cK (.int 0)))
  (q_read_1b4t0 ad)
  (q_read_1b4e0 ad)) (q_read_1b5 ad))
noncomputable def q_read_1b3 (ad : AD) : SP := (sSeq (sWhile 200 (tAnd (tCmp neU (vV "line") (eList esN)) (tAnd (tNot (asB (mI ad.ws "less" (g_less ad) (bO idxF (vV "leads") (bO idxF (vV "line") (eNeg (cK (.int 1))))) (esC (vV "lead") esN)))) (tK true)))
  (q_read_1b3b0 ad)) (q_read_1b4 ad))
noncomputable def q_read_1b2 (ad : AD) : SP := (sSeq (sAsg "last" (eNeg (cK (.int 1)))) (q_read_1b3 ad))
noncomputable def q_read_1b1 (ad : AD) : SP := (sSeq (sExp (mG appG (vV "memory") (esC (eList (esC (cG (g_held ad) (esC (eSlS (bO idxF (vV "rows") (vV "k")) (pS (eAttr ad.ws "n" (vV "lead"))) pN) (esC (vV "k") esN))) (esC (cK (.int 0)) (esC (cK (.int 0)) esN)))) esN))) (q_read_1b2 ad))
noncomputable def q_read_1b0 (ad : AD) : SP := (sSeq (sAsg "lead" (cG (g_ws ad) (esC (bO idxF (vV "rows") (vV "k")) esN))) (q_read_1b1 ad))
noncomputable def q_read_2 (ad : AD) : SP := (sSeq (sRet (vV "memory")) sNil)
noncomputable def q_read_1 (ad : AD) : SP := (sSeq (sFor "k" (cG rngG (esC (cG lenG (esC (vV "rows") esN)) esN))
  (q_read_1b0 ad)) (q_read_2 ad))
noncomputable def q_read_0 (ad : AD) : SP := (sSeq (sSwp [("leads", ⟨0, 0, 0, 0⟩), ("memory", ⟨0, 0, 0, 0⟩), ("line", ⟨0, 0, 0, 0⟩)] (eTup (esC (eList esN) (esC (eList esN) (esC (eList esN) esN))))) (q_read_1 ad))
noncomputable def q_read (ad : AD) : SP :=
 (q_read_0 ad)
theorem b_read (X : Cx prog w K B mg mb ad) : SXs prog w B 20 (scOf (stN 73)) (bodyOf (stN 73)) (q_read ad) :=
 (@SXs.cons _ _ _ _ _ _ _ (sSwp [("leads", ⟨0, 0, 0, 0⟩), ("memory", ⟨0, 0, 0, 0⟩), ("line", ⟨0, 0, 0, 0⟩)] (eTup (esC (eList esN) (esC (eList esN) (esC (eList esN) esN))))) (q_read_1 ad) (@SX.swp _ _ _ _ _ [("leads", ⟨0, 0, 0, 0⟩), ("memory", ⟨0, 0, 0, 0⟩), ("line", ⟨0, 0, 0, 0⟩)] _ _ _ _ _ _ (@SE.tuple _ _ _ _ _ _ _ _ _ (@SEs.cons _ _ _ _ _ _ _ _ _ (@SE.list _ _ _ _ _ _ _ _ (@SEs.nil _ _ _ _ _)) (@SEs.cons _ _ _ _ _ _ _ _ _ (@SE.list _ _ _ _ _ _ _ _ (@SEs.nil _ _ _ _ _)) (@SEs.cons _ _ _ _ _ _ _ _ _ (@SE.list _ _ _ _ _ _ _ _ (@SEs.nil _ _ _ _ _)) (@SEs.nil _ _ _ _ _) (fun _ => rfl)) (fun _ => rfl)) (fun _ => rfl))) (by intro x hx; simp only [List.mem_cons, List.not_mem_nil, or_false] at hx; rcases hx with rfl | rfl | rfl | rfl <;> first | exact Or.inl rfl | exact Or.inr rfl) (fun _ => rfl) (by intro env he; cases env; cases he; rfl)) (@SXs.cons _ _ _ _ _ _ _ (sFor "k" (cG rngG (esC (cG lenG (esC (vV "rows") esN)) esN))
  (q_read_1b0 ad)) (q_read_2 ad) (@SX.for _ _ _ _ _ "k" _ _ (cG rngG (esC (cG lenG (esC (vV "rows") esN)) esN)) (q_read_1b0 ad) _ _ (@SE.callI _ _ _ _ _ _ _ _ _ _ _ _ _ _ X.bi_range fc_rng kp_type X.G (@SEs.cons _ _ _ _ _ _ _ _ _ (@SE.callI _ _ _ _ _ _ _ _ _ _ _ _ _ _ X.bi_len fc_len kp_builtin X.G (@SEs.cons _ _ _ _ _ _ _ _ _ (@SE.var _ _ _ _ _ "rows" _ (dbg_ne (by decide))) (@SEs.nil _ _ _ _ _) (fun _ => rfl)) rfl (dbg_ne (by decide)) (fun _ => rfl) (fun _ => rfl)) (@SEs.nil _ _ _ _ _) (fun _ => rfl)) rfl (dbg_ne (by decide)) (fun _ => rfl) (fun _ => rfl)) (@SXs.cons _ _ _ _ _ _ _ (sAsg "lead" (cG (g_ws ad) (esC (bO idxF (vV "rows") (vV "k")) esN))) (q_read_1b1 ad) (@SX.asg _ _ _ _ _ "lead" _ _ _ _ (@SE.callC _ _ _ _ _ _ _ _ _ _ _ _ _ _ _ X.ws_at (@f_ws _ _ _ _ _ _ _ X) X.ws_kp X.G (@SEs.cons _ _ _ _ _ _ _ _ _ (@SE.idx _ _ _ _ _ _ _ _ _ _ (@SE.var _ _ _ _ _ "rows" _ (dbg_ne (by decide))) (@SE.var _ _ _ _ _ "k" _ (dbg_ne (by decide))) (fun _ _ => rfl)) (@SEs.nil _ _ _ _ _) (fun _ => rfl)) (by decide) rfl (dbg_ne (by decide)) (fun _ => rfl) (fun _ => rfl)) (.inl rfl) (fun _ => rfl)) (@SXs.cons _ _ _ _ _ _ _ (sExp (mG appG (vV "memory") (esC (eList (esC (cG (g_held ad) (esC (eSlS (bO idxF (vV "rows") (vV "k")) (pS (eAttr ad.ws "n" (vV "lead"))) pN) (esC (vV "k") esN))) (esC (cK (.int 0)) (esC (cK (.int 0)) esN)))) esN))) (q_read_1b2 ad) (@SX.exp _ _ _ _ _ _ _ _ (@SE.callM _ _ _ _ _ _ _ _ _ _ _ _ _ _ _ (@SE.var _ _ _ _ _ "memory" _ (dbg_ne (by decide))) fc_app F.slot_list_append rfl (@SEs.cons _ _ _ _ _ _ _ _ _ (@SE.list _ _ _ _ _ _ _ _ (@SEs.cons _ _ _ _ _ _ _ _ _ (@SE.callD _ _ _ _ _ _ _ _ _ _ _ _ _ _ _ _ _ X.d_held (@f_held _ _ _ _ _ _ _ X) X.G (@SEs.cons _ _ _ _ _ _ _ _ _ (@SE.slS _ _ _ _ _ _ _ _ _ _ _ _ _ (@SE.idx _ _ _ _ _ _ _ _ _ _ (@SE.var _ _ _ _ _ "rows" _ (dbg_ne (by decide))) (@SE.var _ _ _ _ _ "k" _ (dbg_ne (by decide))) (fun _ _ => rfl)) (@SPt.so _ _ _ _ _ _ _ (@SE.attr _ _ _ _ _ _ _ _ _ _ _ _ X.c X.n_n (@SE.var _ _ _ _ _ "lead" _ (dbg_ne (by decide))))) (@SPt.no _ _ _ _ _)) (@SEs.cons _ _ _ _ _ _ _ _ _ (@SE.var _ _ _ _ _ "k" _ (dbg_ne (by decide))) (@SEs.nil _ _ _ _ _) (fun _ => rfl)) (fun _ => rfl)) (by decide) rfl (dbg_ne (by decide)) (fun _ => rfl) (fun _ => rfl)) (@SEs.cons _ _ _ _ _ _ _ _ _ (@SE.int _ _ _ _ _ _ _ _) (@SEs.cons _ _ _ _ _ _ _ _ _ (@SE.int _ _ _ _ _ _ _ _) (@SEs.nil _ _ _ _ _) (fun _ => rfl)) (fun _ => rfl)) (fun _ => rfl))) (@SEs.nil _ _ _ _ _) (fun _ => rfl)) (Nat.le_refl _) (fun _ => rfl) (fun _ => rfl) (fun _ => ⟨_, rfl⟩)) rfl (fun _ => rfl)) (@SXs.cons _ _ _ _ _ _ _ (sAsg "last" (eNeg (cK (.int 1)))) (q_read_1b3 ad) (@SX.asg _ _ _ _ _ "last" _ _ _ _ (@SE.neg _ _ _ _ _ _ _ _ (@SE.int _ _ _ _ _ _ _ _)) (.inl rfl) (fun _ => rfl)) (@SXs.cons _ _ _ _ _ _ _ (sWhile 200 (tAnd (tCmp neU (vV "line") (eList esN)) (tAnd (tNot (asB (mI ad.ws "less" (g_less ad) (bO idxF (vV "leads") (bO idxF (vV "line") (eNeg (cK (.int 1))))) (esC (vV "lead") esN)))) (tK true)))
  (q_read_1b3b0 ad)) (q_read_1b4 ad) (@SX.while' _ _ _ _ _ _ _ (tAnd (tCmp neU (vV "line") (eList esN)) (tAnd (tNot (asB (mI ad.ws "less" (g_less ad) (bO idxF (vV "leads") (bO idxF (vV "line") (eNeg (cK (.int 1))))) (esC (vV "lead") esN)))) (tK true))) (q_read_1b3b0 ad) _ (@ST.bool _ _ _ _ _ _ _ _ _ (@SA.and _ _ _ _ _ _ _ _ _ (@ST.cmp' _ _ _ _ _ _ _ _ _ _ _ _ (@SE.var _ _ _ _ _ "line" _ (dbg_ne (by decide))) (@SE.list _ _ _ _ _ _ _ _ (@SEs.nil _ _ _ _ _)) (@op_neU _ _ _ _) rfl) (@SA.and _ _ _ _ _ _ _ _ _ (@ST.not _ _ _ _ _ _ _ _ (@ST.val _ _ _ _ _ _ _ (@SE.meth _ _ _ _ _ _ _ _ _ _ _ _ _ _ _ _ _ _ _ X.c X.m_less (@f_less _ _ _ _ _ _ _ X) (@SE.idx _ _ _ _ _ _ _ _ _ _ (@SE.var _ _ _ _ _ "leads" _ (dbg_ne (by decide))) (@SE.idx _ _ _ _ _ _ _ _ _ _ (@SE.var _ _ _ _ _ "line" _ (dbg_ne (by decide))) (@SE.neg _ _ _ _ _ _ _ _ (@SE.int _ _ _ _ _ _ _ _)) (fun _ _ => rfl)) (fun _ _ => rfl)) (@SEs.cons _ _ _ _ _ _ _ _ _ (@SE.var _ _ _ _ _ "lead" _ (dbg_ne (by decide))) (@SEs.nil _ _ _ _ _) (fun _ => rfl)) (by decide) (fun _ => rfl) (fun _ => rfl) (fun _ => ⟨_, rfl⟩)) (fun _ _ => rfl))) (@SA.andNil _ _ _ _ _)))) (@SXs.cons _ _ _ _ _ _ _ (sAsg "last" (mG popG (vV "line") esN)) sNil (@SX.asg _ _ _ _ _ "last" _ _ _ _ (@SE.callM _ _ _ _ _ _ _ _ _ _ _ _ _ _ _ (@SE.var _ _ _ _ _ "line" _ (dbg_ne (by decide))) fc_pop F.slot_list_pop rfl (@SEs.nil _ _ _ _ _) (Nat.le_refl _) (fun _ => rfl) (fun _ => trivial) (fun _ => ⟨_, rfl⟩)) (.inl rfl) (fun _ => rfl)) (@SXs.nil _ _ _ _ _))) (@SXs.cons _ _ _ _ _ _ _ (sIf (tCmp geF (vV "last") (cK (.int 0)))
  (q_read_1b4t0 ad)
  (q_read_1b4e0 ad)) (q_read_1b5 ad) (@SX.ite _ _ _ _ _ _ _ _ (tCmp geF (vV "last") (cK (.int 0))) (q_read_1b4t0 ad) (q_read_1b4e0 ad) _ (@ST.cmp' _ _ _ _ _ _ _ _ _ _ _ _ (@SE.var _ _ _ _ _ "last" _ (dbg_ne (by decide))) (@SE.int _ _ _ _ _ _ _ _) (@op_ge _ _ _ _) rfl) (@SXs.cons _ _ _ _ _ _ _ (sExp (cG (g_setitem ad) (esC (bO idxF (vV "memory") (vV "last")) (esC (cK (.int 2)) (esC (cG (g_add ad) (esC (cK (.int 256)) (esC (vV "k") esN))) esN))))) sNil (@SX.exp _ _ _ _ _ _ _ _ (@SE.callD _ _ _ _ _ _ _ _ _ _ _ _ _ _ _ _ _ X.d_setitem (@f_setitem _ _ _ _ _ _ _ X) X.G (@SEs.cons _ _ _ _ _ _ _ _ _ (@SE.idx _ _ _ _ _ _ _ _ _ _ (@SE.var _ _ _ _ _ "memory" _ (dbg_ne (by decide))) (@SE.var _ _ _ _ _ "last" _ (dbg_ne (by decide))) (fun _ _ => rfl)) (@SEs.cons _ _ _ _ _ _ _ _ _ (@SE.int _ _ _ _ _ _ _ _) (@SEs.cons _ _ _ _ _ _ _ _ _ (@SE.callD _ _ _ _ _ _ _ _ _ _ _ _ _ _ _ _ _ X.d_add (@f_add _ _ _ _ _ _ _ X) X.G (@SEs.cons _ _ _ _ _ _ _ _ _ (@SE.int _ _ _ _ _ _ _ _) (@SEs.cons _ _ _ _ _ _ _ _ _ (@SE.var _ _ _ _ _ "k" _ (dbg_ne (by decide))) (@SEs.nil _ _ _ _ _) (fun _ => rfl)) (fun _ => rfl)) (by decide) rfl (dbg_ne (by decide)) (fun _ => rfl) (fun _ => rfl)) (@SEs.nil _ _ _ _ _) (fun _ => rfl)) (fun _ => rfl)) (fun _ => rfl)) (by decide) rfl (dbg_ne (by decide)) (fun _ => rfl) (fun _ => rfl)) rfl (fun _ => rfl)) (@SXs.nil _ _ _ _ _)) (@SXs.cons _ _ _ _ _ _ _ (sIf (tCmp neU (vV "line") (eList esN))
  (q_read_1b4e0t0 ad)
  sNil) sNil (@SX.ite _ _ _ _ _ _ _ _ (tCmp neU (vV "line") (eList esN)) (q_read_1b4e0t0 ad) sNil _ (@ST.cmp' _ _ _ _ _ _ _ _ _ _ _ _ (@SE.var _ _ _ _ _ "line" _ (dbg_ne (by decide))) (@SE.list _ _ _ _ _ _ _ _ (@SEs.nil _ _ _ _ _)) (@op_neU _ _ _ _) rfl) (@SXs.cons _ _ _ _ _ _ _ (sExp (cG (g_setitem ad) (esC (bO idxF (vV "memory") (bO idxF (vV "line") (eNeg (cK (.int 1))))) (esC (cK (.int 1)) (esC (cG (g_add ad) (esC (cK (.int 256)) (esC (vV "k") esN))) esN))))) sNil (@SX.exp _ _ _ _ _ _ _ _ (@SE.callD _ _ _ _ _ _ _ _ _ _ _ _ _ _ _ _ _ X.d_setitem (@f_setitem _ _ _ _ _ _ _ X) X.G (@SEs.cons _ _ _ _ _ _ _ _ _ (@SE.idx _ _ _ _ _ _ _ _ _ _ (@SE.var _ _ _ _ _ "memory" _ (dbg_ne (by decide))) (@SE.idx _ _ _ _ _ _ _ _ _ _ (@SE.var _ _ _ _ _ "line" _ (dbg_ne (by decide))) (@SE.neg _ _ _ _ _ _ _ _ (@SE.int _ _ _ _ _ _ _ _)) (fun _ _ => rfl)) (fun _ _ => rfl)) (@SEs.cons _ _ _ _ _ _ _ _ _ (@SE.int _ _ _ _ _ _ _ _) (@SEs.cons _ _ _ _ _ _ _ _ _ (@SE.callD _ _ _ _ _ _ _ _ _ _ _ _ _ _ _ _ _ X.d_add (@f_add _ _ _ _ _ _ _ X) X.G (@SEs.cons _ _ _ _ _ _ _ _ _ (@SE.int _ _ _ _ _ _ _ _) (@SEs.cons _ _ _ _ _ _ _ _ _ (@SE.var _ _ _ _ _ "k" _ (dbg_ne (by decide))) (@SEs.nil _ _ _ _ _) (fun _ => rfl)) (fun _ => rfl)) (by decide) rfl (dbg_ne (by decide)) (fun _ => rfl) (fun _ => rfl)) (@SEs.nil _ _ _ _ _) (fun _ => rfl)) (fun _ => rfl)) (fun _ => rfl)) (by decide) rfl (dbg_ne (by decide)) (fun _ => rfl) (fun _ => rfl)) rfl (fun _ => rfl)) (@SXs.nil _ _ _ _ _)) (@SXs.nil _ _ _ _ _)) (@SXs.nil _ _ _ _ _))) (@SXs.cons _ _ _ _ _ _ _ (sExp (mG appG (vV "line") (esC (vV "k") esN))) (q_read_1b6 ad) (@SX.exp _ _ _ _ _ _ _ _ (@SE.callM _ _ _ _ _ _ _ _ _ _ _ _ _ _ _ (@SE.var _ _ _ _ _ "line" _ (dbg_ne (by decide))) fc_app F.slot_list_append rfl (@SEs.cons _ _ _ _ _ _ _ _ _ (@SE.var _ _ _ _ _ "k" _ (dbg_ne (by decide))) (@SEs.nil _ _ _ _ _) (fun _ => rfl)) (Nat.le_refl _) (fun _ => rfl) (fun _ => rfl) (fun _ => ⟨_, rfl⟩)) rfl (fun _ => rfl)) (@SXs.cons _ _ _ _ _ _ _ (sExp (mG appG (vV "leads") (esC (vV "lead") esN))) sNil (@SX.exp _ _ _ _ _ _ _ _ (@SE.callM _ _ _ _ _ _ _ _ _ _ _ _ _ _ _ (@SE.var _ _ _ _ _ "leads" _ (dbg_ne (by decide))) fc_app F.slot_list_append rfl (@SEs.cons _ _ _ _ _ _ _ _ _ (@SE.var _ _ _ _ _ "lead" _ (dbg_ne (by decide))) (@SEs.nil _ _ _ _ _) (fun _ => rfl)) (Nat.le_refl _) (fun _ => rfl) (fun _ => rfl) (fun _ => ⟨_, rfl⟩)) rfl (fun _ => rfl)) (@SXs.nil _ _ _ _ _)))))))) (.inl rfl) (fun _ _ => rfl)) (@SXs.cons _ _ _ _ _ _ _ (sRet (vV "memory")) sNil (@SX.ret _ _ _ _ _ _ _ _ (@SE.var _ _ _ _ _ "memory" _ (dbg_ne (by decide)))) (@SXs.nil _ _ _ _ _))))
noncomputable def g_read (ad : AD) : FG := gOf ["rows"] (q_read ad)
theorem f_read (X : Cx prog w K B mg mb ad) : FC prog w B 21 (.ref ad.read) (g_read ad) := (@FC.ofBody _ _ _ _ _ _ _ _ _ _ _ X.G X.d_read.fn (@b_read _ _ _ _ _ _ _ X) (by decide) (by decide))
noncomputable def q_page_2b0t0 (ad : AD) : SP := (sSeq (sExp (mG appG (vV "depths") (esC (bO modF (bO idxF (vV "cells") (vV "k")) (bO addF (cG minG (esC (bO idxF (vV "depths") (bO subF (vV "k") (cK (.int 1)))) (esC (cK (.int 2)) esN))) (cK (.int 2)))) esN))) sNil)
noncomputable def q_page_2b2t0 (ad : AD) : SP := (sSeq (sAsg "ways" (bO addF (eSlL (vV "ways") (pS (vV "deep"))) (eList (esC (bO addF (bO idxF (vV "ways") (bO subF (vV "deep") (cK (.int 1)))) (bO idxF (eIf (tCmp eqF (vV "deep") (cK (.int 1))) (vV "near") (vV "deeper")) (bO modF (bO fdivF (bO idxF (vV "cells") (vV "k")) (cK (.int 12))) (cK (.int 4))))) esN)))) sNil)
noncomputable def q_page_2b5 (ad : AD) : SP := (sSeq (sExp (mG appG (vV "due") (esC (eList (esC (vV "held") (esC (cK (.int 0)) (esC (cK (.int 0)) esN)))) esN))) sNil)
noncomputable def q_page_2b4 (ad : AD) : SP := (sSeq (sExp (mG appG (vV "rows") (esC (bO addF (bO idxF (vV "ways") (vV "deep")) (vV "text")) esN))) (q_page_2b5 ad))
noncomputable def q_page_2b3 (ad : AD) : SP := (sSeq (sTup [("text", ⟨181, 8, 181, 12⟩), ("held", ⟨181, 14, 181, 18⟩)] (cG (g_row ad) (esC (bO modF (bO fdivF (bO idxF (vV "cells") (vV "k")) (cK (.int 48))) (cK (.int 8))) (esC (bO fdivF (bO idxF (vV "cells") (vV "k")) (cK (.int 384))) (esC (vV "k") esN))))) (q_page_2b4 ad))
noncomputable def q_page_2b2 (ad : AD) : SP := (sSeq (sIf (tCmp gtF (vV "deep") (cK (.int 0)))
  (q_page_2b2t0 ad)
  sNil) (q_page_2b3 ad))
noncomputable def q_page_2b1 (ad : AD) : SP := (sSeq (sAsg "deep" (bO idxF (vV "depths") (vV "k"))) (q_page_2b2 ad))
noncomputable def q_page_2b0 (ad : AD) : SP := (sSeq (sIf (tCmp gtF (vV "k") (cK (.int 0)))
  (q_page_2b0t0 ad)
  sNil) (q_page_2b1 ad))
noncomputable def q_page_3b1t0 (ad : AD) : SP := (sSeq (sSetI (bO idxF (vV "due") (vV "k")) (cK (.int 1)) (bO addF (cK (.int 257)) (vV "k"))) sNil)
noncomputable def q_page_3b2t0 (ad : AD) : SP := (sSeq (sSetI (bO idxF (vV "due") (vV "k")) (cK (.int 2)) (bO addF (cK (.int 256)) (bO idxF (vV "later") (cK (.int 0))))) sNil)
noncomputable def q_page_3b2 (ad : AD) : SP := (sSeq (sIf (tAnd (tCmp ltF (bO idxF (vV "later") (cK (.int 0))) (cK (.int 7))) (tAnd (tCmp eqF (bO idxF (vV "depths") (bO idxF (vV "later") (cK (.int 0)))) (bO idxF (vV "depths") (vV "k"))) (tK true)))
  (q_page_3b2t0 ad)
  sNil) sNil)
noncomputable def q_page_3b1 (ad : AD) : SP := (sSeq (sIf (tCmp gtF (bO idxF (vV "later") (cK (.int 0))) (bO addF (vV "k") (cK (.int 1))))
  (q_page_3b1t0 ad)
  sNil) (q_page_3b2 ad))
noncomputable def q_page_3b0 (ad : AD) : SP := (sSeq (sAsg "later" (bO addF (eComp "j" ["depths", "k"] (tCmp leF (bO idxF (vV "depths") (vV "j")) (bO idxF (vV "depths") (vV "k"))) (vV "j") (cG rngG (esC (bO addF (vV "k") (cK (.int 1))) (esC (cK (.int 7)) esN)))) (eList (esC (cK (.int 7)) esN)))) (q_page_3b1 ad))
noncomputable def q_page_4 (ad : AD) : SP := (sSeq (sRet (eTup (esC (vV "rows") (esC (vV "due") esN)))) sNil)
noncomputable def q_page_3 (ad : AD) : SP := (sSeq (sFor "k" (cG rngG (esC (cK (.int 7)) esN))
  (q_page_3b0 ad)) (q_page_4 ad))
noncomputable def q_page_2 (ad : AD) : SP := (sSeq (sFor "k" (cG rngG (esC (cK (.int 7)) esN))
  (q_page_2b0 ad)) (q_page_3 ad))
noncomputable def q_page_1 (ad : AD) : SP := (sSeq (sTup [("depths", ⟨174, 4, 174, 10⟩), ("ways", ⟨174, 12, 174, 16⟩), ("rows", ⟨174, 18, 174, 22⟩), ("due", ⟨174, 24, 174, 27⟩)] (eTup (esC (eList (esC (cK (.int 0)) esN)) (esC (eList (esC (cK (.str [])) esN)) (esC (eList esN) (esC (eList esN) esN)))))) (q_page_2 ad))
noncomputable def q_page_0 (ad : AD) : SP := (sSeq (sSwp [("near", ⟨0, 0, 0, 0⟩), ("deeper", ⟨0, 0, 0, 0⟩)] (eTup (esC (eList (esC (cK (.str [9])) (esC (cK (.str [32, 9])) (esC (cK (.str [32, 32, 9])) (esC (cK (.str [32, 32, 32])) esN))))) (esC (eList (esC (cK (.str [32, 32, 32, 9])) (esC (cK (.str [32, 32, 9, 32, 32])) (esC (cK (.str [9, 9])) (esC (cK (.str [32, 32, 32, 32, 32])) esN))))) esN)))) (q_page_1 ad))
noncomputable def q_page (ad : AD) : SP :=
 (q_page_0 ad)
theorem b_page (X : Cx prog w K B mg mb ad) : SXs prog w B 50 (scOf (stN 71)) (bodyOf (stN 71)) (q_page ad) :=
 (@SXs.cons _ _ _ _ _ _ _ (sSwp [("near", ⟨0, 0, 0, 0⟩), ("deeper", ⟨0, 0, 0, 0⟩)] (eTup (esC (eList (esC (cK (.str [9])) (esC (cK (.str [32, 9])) (esC (cK (.str [32, 32, 9])) (esC (cK (.str [32, 32, 32])) esN))))) (esC (eList (esC (cK (.str [32, 32, 32, 9])) (esC (cK (.str [32, 32, 9, 32, 32])) (esC (cK (.str [9, 9])) (esC (cK (.str [32, 32, 32, 32, 32])) esN))))) esN)))) (q_page_1 ad) (@SX.swp _ _ _ _ _ [("near", ⟨0, 0, 0, 0⟩), ("deeper", ⟨0, 0, 0, 0⟩)] _ _ _ _ _ _ (@SE.tuple _ _ _ _ _ _ _ _ _ (@SEs.cons _ _ _ _ _ _ _ _ _ (@SE.list _ _ _ _ _ _ _ _ (@SEs.cons _ _ _ _ _ _ _ _ _ (@SE.str' _ _ _ _ _ "\t" [9] _ _ rfl) (@SEs.cons _ _ _ _ _ _ _ _ _ (@SE.str' _ _ _ _ _ " \t" [32, 9] _ _ rfl) (@SEs.cons _ _ _ _ _ _ _ _ _ (@SE.str' _ _ _ _ _ "  \t" [32, 32, 9] _ _ rfl) (@SEs.cons _ _ _ _ _ _ _ _ _ (@SE.str' _ _ _ _ _ "   " [32, 32, 32] _ _ rfl) (@SEs.nil _ _ _ _ _) (fun _ => rfl)) (fun _ => rfl)) (fun _ => rfl)) (fun _ => rfl))) (@SEs.cons _ _ _ _ _ _ _ _ _ (@SE.list _ _ _ _ _ _ _ _ (@SEs.cons _ _ _ _ _ _ _ _ _ (@SE.str' _ _ _ _ _ "   \t" [32, 32, 32, 9] _ _ rfl) (@SEs.cons _ _ _ _ _ _ _ _ _ (@SE.str' _ _ _ _ _ "  \t  " [32, 32, 9, 32, 32] _ _ rfl) (@SEs.cons _ _ _ _ _ _ _ _ _ (@SE.str' _ _ _ _ _ "\t\t" [9, 9] _ _ rfl) (@SEs.cons _ _ _ _ _ _ _ _ _ (@SE.str' _ _ _ _ _ "     " [32, 32, 32, 32, 32] _ _ rfl) (@SEs.nil _ _ _ _ _) (fun _ => rfl)) (fun _ => rfl)) (fun _ => rfl)) (fun _ => rfl))) (@SEs.nil _ _ _ _ _) (fun _ => rfl)) (fun _ => rfl))) (by intro x hx; simp only [List.mem_cons, List.not_mem_nil, or_false] at hx; rcases hx with rfl | rfl | rfl | rfl <;> first | exact Or.inl rfl | exact Or.inr rfl) (fun _ => rfl) (by intro env he; cases env; cases he; rfl)) (@SXs.cons _ _ _ _ _ _ _ (sTup [("depths", ⟨174, 4, 174, 10⟩), ("ways", ⟨174, 12, 174, 16⟩), ("rows", ⟨174, 18, 174, 22⟩), ("due", ⟨174, 24, 174, 27⟩)] (eTup (esC (eList (esC (cK (.int 0)) esN)) (esC (eList (esC (cK (.str [])) esN)) (esC (eList esN) (esC (eList esN) esN)))))) (q_page_2 ad) (@SX.tup _ _ _ _ _ [("depths", ⟨174, 4, 174, 10⟩), ("ways", ⟨174, 12, 174, 16⟩), ("rows", ⟨174, 18, 174, 22⟩), ("due", ⟨174, 24, 174, 27⟩)] _ _ _ _ _ (@SE.tuple _ _ _ _ _ _ _ _ _ (@SEs.cons _ _ _ _ _ _ _ _ _ (@SE.list _ _ _ _ _ _ _ _ (@SEs.cons _ _ _ _ _ _ _ _ _ (@SE.int _ _ _ _ _ _ _ _) (@SEs.nil _ _ _ _ _) (fun _ => rfl))) (@SEs.cons _ _ _ _ _ _ _ _ _ (@SE.list _ _ _ _ _ _ _ _ (@SEs.cons _ _ _ _ _ _ _ _ _ (@SE.str' _ _ _ _ _ "" [] _ _ rfl) (@SEs.nil _ _ _ _ _) (fun _ => rfl))) (@SEs.cons _ _ _ _ _ _ _ _ _ (@SE.list _ _ _ _ _ _ _ _ (@SEs.nil _ _ _ _ _)) (@SEs.cons _ _ _ _ _ _ _ _ _ (@SE.list _ _ _ _ _ _ _ _ (@SEs.nil _ _ _ _ _)) (@SEs.nil _ _ _ _ _) (fun _ => rfl)) (fun _ => rfl)) (fun _ => rfl)) (fun _ => rfl))) (by intro x hx; simp only [List.mem_cons, List.not_mem_nil, or_false] at hx; rcases hx with rfl | rfl | rfl | rfl <;> first | exact Or.inl rfl | exact Or.inr rfl) (fun _ => rfl) (by first | (intro env he; rfl) | (intro env he; cases env; cases he; rfl))) (@SXs.cons _ _ _ _ _ _ _ (sFor "k" (cG rngG (esC (cK (.int 7)) esN))
  (q_page_2b0 ad)) (q_page_3 ad) (@SX.for _ _ _ _ _ "k" _ _ (cG rngG (esC (cK (.int 7)) esN)) (q_page_2b0 ad) _ _ (@SE.callI _ _ _ _ _ _ _ _ _ _ _ _ _ _ X.bi_range fc_rng kp_type X.G (@SEs.cons _ _ _ _ _ _ _ _ _ (@SE.int _ _ _ _ _ _ _ _) (@SEs.nil _ _ _ _ _) (fun _ => rfl)) rfl (dbg_ne (by decide)) (fun _ => rfl) (fun _ => rfl)) (@SXs.cons _ _ _ _ _ _ _ (sIf (tCmp gtF (vV "k") (cK (.int 0)))
  (q_page_2b0t0 ad)
  sNil) (q_page_2b1 ad) (@SX.ite _ _ _ _ _ _ _ _ (tCmp gtF (vV "k") (cK (.int 0))) (q_page_2b0t0 ad) sNil _ (@ST.cmp' _ _ _ _ _ _ _ _ _ _ _ _ (@SE.var _ _ _ _ _ "k" _ (dbg_ne (by decide))) (@SE.int _ _ _ _ _ _ _ _) (@op_gt _ _ _ _) rfl) (@SXs.cons _ _ _ _ _ _ _ (sExp (mG appG (vV "depths") (esC (bO modF (bO idxF (vV "cells") (vV "k")) (bO addF (cG minG (esC (bO idxF (vV "depths") (bO subF (vV "k") (cK (.int 1)))) (esC (cK (.int 2)) esN))) (cK (.int 2)))) esN))) sNil (@SX.exp _ _ _ _ _ _ _ _ (@SE.callM _ _ _ _ _ _ _ _ _ _ _ _ _ _ _ (@SE.var _ _ _ _ _ "depths" _ (dbg_ne (by decide))) fc_app F.slot_list_append rfl (@SEs.cons _ _ _ _ _ _ _ _ _ (@SE.bin _ _ _ _ _ _ _ _ _ _ _ _ (@SE.idx _ _ _ _ _ _ _ _ _ _ (@SE.var _ _ _ _ _ "cells" _ (dbg_ne (by decide))) (@SE.var _ _ _ _ _ "k" _ (dbg_ne (by decide))) (fun _ _ => rfl)) (@SE.bin _ _ _ _ _ _ _ _ _ _ _ _ (@SE.callI _ _ _ _ _ _ _ _ _ _ _ _ _ _ X.bi_min fc_min kp_builtin X.G (@SEs.cons _ _ _ _ _ _ _ _ _ (@SE.idx _ _ _ _ _ _ _ _ _ _ (@SE.var _ _ _ _ _ "depths" _ (dbg_ne (by decide))) (@SE.bin _ _ _ _ _ _ _ _ _ _ _ _ (@SE.var _ _ _ _ _ "k" _ (dbg_ne (by decide))) (@SE.int _ _ _ _ _ _ _ _) (@op_sub _ _ _ _)) (fun _ _ => rfl)) (@SEs.cons _ _ _ _ _ _ _ _ _ (@SE.int _ _ _ _ _ _ _ _) (@SEs.nil _ _ _ _ _) (fun _ => rfl)) (fun _ => rfl)) rfl (dbg_ne (by decide)) (fun _ => rfl) (fun _ => rfl)) (@SE.int _ _ _ _ _ _ _ _) (@op_add _ _ _ _)) (@op_mod _ _ _ _)) (@SEs.nil _ _ _ _ _) (fun _ => rfl)) (Nat.le_refl _) (fun _ => rfl) (fun _ => rfl) (fun _ => ⟨_, rfl⟩)) rfl (fun _ => rfl)) (@SXs.nil _ _ _ _ _)) (@SXs.nil _ _ _ _ _)) (@SXs.cons _ _ _ _ _ _ _ (sAsg "deep" (bO idxF (vV "depths") (vV "k"))) (q_page_2b2 ad) (@SX.asg _ _ _ _ _ "deep" _ _ _ _ (@SE.idx _ _ _ _ _ _ _ _ _ _ (@SE.var _ _ _ _ _ "depths" _ (dbg_ne (by decide))) (@SE.var _ _ _ _ _ "k" _ (dbg_ne (by decide))) (fun _ _ => rfl)) (.inl rfl) (fun _ => rfl)) (@SXs.cons _ _ _ _ _ _ _ (sIf (tCmp gtF (vV "deep") (cK (.int 0)))
  (q_page_2b2t0 ad)
  sNil) (q_page_2b3 ad) (@SX.ite _ _ _ _ _ _ _ _ (tCmp gtF (vV "deep") (cK (.int 0))) (q_page_2b2t0 ad) sNil _ (@ST.cmp' _ _ _ _ _ _ _ _ _ _ _ _ (@SE.var _ _ _ _ _ "deep" _ (dbg_ne (by decide))) (@SE.int _ _ _ _ _ _ _ _) (@op_gt _ _ _ _) rfl) (@SXs.cons _ _ _ _ _ _ _ (sAsg "ways" (bO addF (eSlL (vV "ways") (pS (vV "deep"))) (eList (esC (bO addF (bO idxF (vV "ways") (bO subF (vV "deep") (cK (.int 1)))) (bO idxF (eIf (tCmp eqF (vV "deep") (cK (.int 1))) (vV "near") (vV "deeper")) (bO modF (bO fdivF (bO idxF (vV "cells") (vV "k")) (cK (.int 12))) (cK (.int 4))))) esN)))) sNil (@SX.asg _ _ _ _ _ "ways" _ _ _ _ (@SE.bin _ _ _ _ _ _ _ _ _ _ _ _ (@SE.slL _ _ _ _ _ _ _ _ _ _ _ (@SE.var _ _ _ _ _ "ways" _ (dbg_ne (by decide))) (@SPt.so _ _ _ _ _ _ _ (@SE.var _ _ _ _ _ "deep" _ (dbg_ne (by decide))))) (@SE.list _ _ _ _ _ _ _ _ (@SEs.cons _ _ _ _ _ _ _ _ _ (@SE.bin _ _ _ _ _ _ _ _ _ _ _ _ (@SE.idx _ _ _ _ _ _ _ _ _ _ (@SE.var _ _ _ _ _ "ways" _ (dbg_ne (by decide))) (@SE.bin _ _ _ _ _ _ _ _ _ _ _ _ (@SE.var _ _ _ _ _ "deep" _ (dbg_ne (by decide))) (@SE.int _ _ _ _ _ _ _ _) (@op_sub _ _ _ _)) (fun _ _ => rfl)) (@SE.idx _ _ _ _ _ _ _ _ _ _ (@SE.ite _ _ _ _ _ _ _ _ _ _ _ _ (@ST.cmp' _ _ _ _ _ _ _ _ _ _ _ _ (@SE.var _ _ _ _ _ "deep" _ (dbg_ne (by decide))) (@SE.int _ _ _ _ _ _ _ _) (@op_eq _ _ _ _) rfl) (@SE.var _ _ _ _ _ "near" _ (dbg_ne (by decide))) (@SE.var _ _ _ _ _ "deeper" _ (dbg_ne (by decide)))) (@SE.bin _ _ _ _ _ _ _ _ _ _ _ _ (@SE.bin _ _ _ _ _ _ _ _ _ _ _ _ (@SE.idx _ _ _ _ _ _ _ _ _ _ (@SE.var _ _ _ _ _ "cells" _ (dbg_ne (by decide))) (@SE.var _ _ _ _ _ "k" _ (dbg_ne (by decide))) (fun _ _ => rfl)) (@SE.int _ _ _ _ _ _ _ _) (@op_fdiv _ _ _ _)) (@SE.int _ _ _ _ _ _ _ _) (@op_mod _ _ _ _)) (fun _ _ => rfl)) (@op_add _ _ _ _)) (@SEs.nil _ _ _ _ _) (fun _ => rfl))) (@op_add _ _ _ _)) (.inl rfl) (fun _ => rfl)) (@SXs.nil _ _ _ _ _)) (@SXs.nil _ _ _ _ _)) (@SXs.cons _ _ _ _ _ _ _ (sTup [("text", ⟨181, 8, 181, 12⟩), ("held", ⟨181, 14, 181, 18⟩)] (cG (g_row ad) (esC (bO modF (bO fdivF (bO idxF (vV "cells") (vV "k")) (cK (.int 48))) (cK (.int 8))) (esC (bO fdivF (bO idxF (vV "cells") (vV "k")) (cK (.int 384))) (esC (vV "k") esN))))) (q_page_2b4 ad) (@SX.tup _ _ _ _ _ [("text", ⟨181, 8, 181, 12⟩), ("held", ⟨181, 14, 181, 18⟩)] _ _ _ _ _ (@SE.callD _ _ _ _ _ _ _ _ _ _ _ _ _ _ _ _ _ X.d_row (@f_row _ _ _ _ _ _ _ X) X.G (@SEs.cons _ _ _ _ _ _ _ _ _ (@SE.bin _ _ _ _ _ _ _ _ _ _ _ _ (@SE.bin _ _ _ _ _ _ _ _ _ _ _ _ (@SE.idx _ _ _ _ _ _ _ _ _ _ (@SE.var _ _ _ _ _ "cells" _ (dbg_ne (by decide))) (@SE.var _ _ _ _ _ "k" _ (dbg_ne (by decide))) (fun _ _ => rfl)) (@SE.int _ _ _ _ _ _ _ _) (@op_fdiv _ _ _ _)) (@SE.int _ _ _ _ _ _ _ _) (@op_mod _ _ _ _)) (@SEs.cons _ _ _ _ _ _ _ _ _ (@SE.bin _ _ _ _ _ _ _ _ _ _ _ _ (@SE.idx _ _ _ _ _ _ _ _ _ _ (@SE.var _ _ _ _ _ "cells" _ (dbg_ne (by decide))) (@SE.var _ _ _ _ _ "k" _ (dbg_ne (by decide))) (fun _ _ => rfl)) (@SE.int _ _ _ _ _ _ _ _) (@op_fdiv _ _ _ _)) (@SEs.cons _ _ _ _ _ _ _ _ _ (@SE.var _ _ _ _ _ "k" _ (dbg_ne (by decide))) (@SEs.nil _ _ _ _ _) (fun _ => rfl)) (fun _ => rfl)) (fun _ => rfl)) (by decide) rfl (dbg_ne (by decide)) (fun _ => rfl) (fun _ => rfl)) (by intro x hx; simp only [List.mem_cons, List.not_mem_nil, or_false] at hx; rcases hx with rfl | rfl | rfl | rfl <;> first | exact Or.inl rfl | exact Or.inr rfl) (fun _ => rfl) (by first | (intro env he; rfl) | (intro env he; cases env; cases he; rfl))) (@SXs.cons _ _ _ _ _ _ _ (sExp (mG appG (vV "rows") (esC (bO addF (bO idxF (vV "ways") (vV "deep")) (vV "text")) esN))) (q_page_2b5 ad) (@SX.exp _ _ _ _ _ _ _ _ (@SE.callM _ _ _ _ _ _ _ _ _ _ _ _ _ _ _ (@SE.var _ _ _ _ _ "rows" _ (dbg_ne (by decide))) fc_app F.slot_list_append rfl (@SEs.cons _ _ _ _ _ _ _ _ _ (@SE.bin _ _ _ _ _ _ _ _ _ _ _ _ (@SE.idx _ _ _ _ _ _ _ _ _ _ (@SE.var _ _ _ _ _ "ways" _ (dbg_ne (by decide))) (@SE.var _ _ _ _ _ "deep" _ (dbg_ne (by decide))) (fun _ _ => rfl)) (@SE.var _ _ _ _ _ "text" _ (dbg_ne (by decide))) (@op_add _ _ _ _)) (@SEs.nil _ _ _ _ _) (fun _ => rfl)) (Nat.le_refl _) (fun _ => rfl) (fun _ => rfl) (fun _ => ⟨_, rfl⟩)) rfl (fun _ => rfl)) (@SXs.cons _ _ _ _ _ _ _ (sExp (mG appG (vV "due") (esC (eList (esC (vV "held") (esC (cK (.int 0)) (esC (cK (.int 0)) esN)))) esN))) sNil (@SX.exp _ _ _ _ _ _ _ _ (@SE.callM _ _ _ _ _ _ _ _ _ _ _ _ _ _ _ (@SE.var _ _ _ _ _ "due" _ (dbg_ne (by decide))) fc_app F.slot_list_append rfl (@SEs.cons _ _ _ _ _ _ _ _ _ (@SE.list _ _ _ _ _ _ _ _ (@SEs.cons _ _ _ _ _ _ _ _ _ (@SE.var _ _ _ _ _ "held" _ (dbg_ne (by decide))) (@SEs.cons _ _ _ _ _ _ _ _ _ (@SE.int _ _ _ _ _ _ _ _) (@SEs.cons _ _ _ _ _ _ _ _ _ (@SE.int _ _ _ _ _ _ _ _) (@SEs.nil _ _ _ _ _) (fun _ => rfl)) (fun _ => rfl)) (fun _ => rfl))) (@SEs.nil _ _ _ _ _) (fun _ => rfl)) (Nat.le_refl _) (fun _ => rfl) (fun _ => rfl) (fun _ => ⟨_, rfl⟩)) rfl (fun _ => rfl)) (@SXs.nil _ _ _ _ _))))))) (.inr rfl) (fun _ _ => rfl)) (@SXs.cons _ _ _ _ _ _ _ (sFor "k" (cG rngG (esC (cK (.int 7)) esN))
  (q_page_3b0 ad)) (q_page_4 ad) (@SX.for _ _ _ _ _ "k" _ _ (cG rngG (esC (cK (.int 7)) esN)) (q_page_3b0 ad) _ _ (@SE.callI _ _ _ _ _ _ _ _ _ _ _ _ _ _ X.bi_range fc_rng kp_type X.G (@SEs.cons _ _ _ _ _ _ _ _ _ (@SE.int _ _ _ _ _ _ _ _) (@SEs.nil _ _ _ _ _) (fun _ => rfl)) rfl (dbg_ne (by decide)) (fun _ => rfl) (fun _ => rfl)) (@SXs.cons _ _ _ _ _ _ _ (sAsg "later" (bO addF (eComp "j" ["depths", "k"] (tCmp leF (bO idxF (vV "depths") (vV "j")) (bO idxF (vV "depths") (vV "k"))) (vV "j") (cG rngG (esC (bO addF (vV "k") (cK (.int 1))) (esC (cK (.int 7)) esN)))) (eList (esC (cK (.int 7)) esN)))) (q_page_3b1 ad) (@SX.asg _ _ _ _ _ "later" _ _ _ _ (@SE.bin _ _ _ _ _ _ _ _ _ _ _ _ (@SE.comp _ _ _ _ _ _ "j" ["depths", "k"] _ _ _ _ _ _ _ _ (Csc.of (capt := ["depths", "k"]) (by decide +kernel)) (by decide) (@SE.var _ _ _ _ _ "j" _ (dbg_ne (by decide))) (Ifs.one (@ST.cmp' _ _ _ _ _ _ _ _ _ _ _ _ (@SE.idx _ _ _ _ _ _ _ _ _ _ (@SE.var _ _ _ _ _ "depths" _ (dbg_ne (by decide))) (@SE.var _ _ _ _ _ "j" _ (dbg_ne (by decide))) (fun _ _ => rfl)) (@SE.idx _ _ _ _ _ _ _ _ _ _ (@SE.var _ _ _ _ _ "depths" _ (dbg_ne (by decide))) (@SE.var _ _ _ _ _ "k" _ (dbg_ne (by decide))) (fun _ _ => rfl)) (@op_le _ _ _ _) rfl)) (@SE.callI _ _ _ _ _ _ _ _ _ _ _ _ _ _ X.bi_range fc_rng kp_type X.G (@SEs.cons _ _ _ _ _ _ _ _ _ (@SE.bin _ _ _ _ _ _ _ _ _ _ _ _ (@SE.var _ _ _ _ _ "k" _ (dbg_ne (by decide))) (@SE.int _ _ _ _ _ _ _ _) (@op_add _ _ _ _)) (@SEs.cons _ _ _ _ _ _ _ _ _ (@SE.int _ _ _ _ _ _ _ _) (@SEs.nil _ _ _ _ _) (fun _ => rfl)) (fun _ => rfl)) rfl (dbg_ne (by decide)) (fun _ => rfl) (fun _ => rfl)) (fun _ _ => rfl)) (@SE.list _ _ _ _ _ _ _ _ (@SEs.cons _ _ _ _ _ _ _ _ _ (@SE.int _ _ _ _ _ _ _ _) (@SEs.nil _ _ _ _ _) (fun _ => rfl))) (@op_add _ _ _ _)) (.inl rfl) (fun _ => rfl)) (@SXs.cons _ _ _ _ _ _ _ (sIf (tCmp gtF (bO idxF (vV "later") (cK (.int 0))) (bO addF (vV "k") (cK (.int 1))))
  (q_page_3b1t0 ad)
  sNil) (q_page_3b2 ad) (@SX.ite _ _ _ _ _ _ _ _ (tCmp gtF (bO idxF (vV "later") (cK (.int 0))) (bO addF (vV "k") (cK (.int 1)))) (q_page_3b1t0 ad) sNil _ (@ST.cmp' _ _ _ _ _ _ _ _ _ _ _ _ (@SE.idx _ _ _ _ _ _ _ _ _ _ (@SE.var _ _ _ _ _ "later" _ (dbg_ne (by decide))) (@SE.int _ _ _ _ _ _ _ _) (fun _ _ => rfl)) (@SE.bin _ _ _ _ _ _ _ _ _ _ _ _ (@SE.var _ _ _ _ _ "k" _ (dbg_ne (by decide))) (@SE.int _ _ _ _ _ _ _ _) (@op_add _ _ _ _)) (@op_gt _ _ _ _) rfl) (@SXs.cons _ _ _ _ _ _ _ (sSetI (bO idxF (vV "due") (vV "k")) (cK (.int 1)) (bO addF (cK (.int 257)) (vV "k"))) sNil (@SX.setI _ _ _ _ _ _ _ _ _ _ _ _ _ (@SE.bin _ _ _ _ _ _ _ _ _ _ _ _ (@SE.int _ _ _ _ _ _ _ _) (@SE.var _ _ _ _ _ "k" _ (dbg_ne (by decide))) (@op_add _ _ _ _)) (@SE.idx _ _ _ _ _ _ _ _ _ _ (@SE.var _ _ _ _ _ "due" _ (dbg_ne (by decide))) (@SE.var _ _ _ _ _ "k" _ (dbg_ne (by decide))) (fun _ _ => rfl)) (@SE.int _ _ _ _ _ _ _ _) (fun _ => rfl)) (@SXs.nil _ _ _ _ _)) (@SXs.nil _ _ _ _ _)) (@SXs.cons _ _ _ _ _ _ _ (sIf (tAnd (tCmp ltF (bO idxF (vV "later") (cK (.int 0))) (cK (.int 7))) (tAnd (tCmp eqF (bO idxF (vV "depths") (bO idxF (vV "later") (cK (.int 0)))) (bO idxF (vV "depths") (vV "k"))) (tK true)))
  (q_page_3b2t0 ad)
  sNil) sNil (@SX.ite _ _ _ _ _ _ _ _ (tAnd (tCmp ltF (bO idxF (vV "later") (cK (.int 0))) (cK (.int 7))) (tAnd (tCmp eqF (bO idxF (vV "depths") (bO idxF (vV "later") (cK (.int 0)))) (bO idxF (vV "depths") (vV "k"))) (tK true))) (q_page_3b2t0 ad) sNil _ (@ST.bool _ _ _ _ _ _ _ _ _ (@SA.and _ _ _ _ _ _ _ _ _ (@ST.cmp' _ _ _ _ _ _ _ _ _ _ _ _ (@SE.idx _ _ _ _ _ _ _ _ _ _ (@SE.var _ _ _ _ _ "later" _ (dbg_ne (by decide))) (@SE.int _ _ _ _ _ _ _ _) (fun _ _ => rfl)) (@SE.int _ _ _ _ _ _ _ _) (@op_lt _ _ _ _) rfl) (@SA.and _ _ _ _ _ _ _ _ _ (@ST.cmp' _ _ _ _ _ _ _ _ _ _ _ _ (@SE.idx _ _ _ _ _ _ _ _ _ _ (@SE.var _ _ _ _ _ "depths" _ (dbg_ne (by decide))) (@SE.idx _ _ _ _ _ _ _ _ _ _ (@SE.var _ _ _ _ _ "later" _ (dbg_ne (by decide))) (@SE.int _ _ _ _ _ _ _ _) (fun _ _ => rfl)) (fun _ _ => rfl)) (@SE.idx _ _ _ _ _ _ _ _ _ _ (@SE.var _ _ _ _ _ "depths" _ (dbg_ne (by decide))) (@SE.var _ _ _ _ _ "k" _ (dbg_ne (by decide))) (fun _ _ => rfl)) (@op_eq _ _ _ _) rfl) (@SA.andNil _ _ _ _ _)))) (@SXs.cons _ _ _ _ _ _ _ (sSetI (bO idxF (vV "due") (vV "k")) (cK (.int 2)) (bO addF (cK (.int 256)) (bO idxF (vV "later") (cK (.int 0))))) sNil (@SX.setI _ _ _ _ _ _ _ _ _ _ _ _ _ (@SE.bin _ _ _ _ _ _ _ _ _ _ _ _ (@SE.int _ _ _ _ _ _ _ _) (@SE.idx _ _ _ _ _ _ _ _ _ _ (@SE.var _ _ _ _ _ "later" _ (dbg_ne (by decide))) (@SE.int _ _ _ _ _ _ _ _) (fun _ _ => rfl)) (@op_add _ _ _ _)) (@SE.idx _ _ _ _ _ _ _ _ _ _ (@SE.var _ _ _ _ _ "due" _ (dbg_ne (by decide))) (@SE.var _ _ _ _ _ "k" _ (dbg_ne (by decide))) (fun _ _ => rfl)) (@SE.int _ _ _ _ _ _ _ _) (fun _ => rfl)) (@SXs.nil _ _ _ _ _)) (@SXs.nil _ _ _ _ _)) (@SXs.nil _ _ _ _ _)))) (.inr rfl) (fun _ _ => rfl)) (@SXs.cons _ _ _ _ _ _ _ (sRet (eTup (esC (vV "rows") (esC (vV "due") esN)))) sNil (@SX.ret _ _ _ _ _ _ _ _ (@SE.tuple _ _ _ _ _ _ _ _ _ (@SEs.cons _ _ _ _ _ _ _ _ _ (@SE.var _ _ _ _ _ "rows" _ (dbg_ne (by decide))) (@SEs.cons _ _ _ _ _ _ _ _ _ (@SE.var _ _ _ _ _ "due" _ (dbg_ne (by decide))) (@SEs.nil _ _ _ _ _) (fun _ => rfl)) (fun _ => rfl)))) (@SXs.nil _ _ _ _ _))))))
noncomputable def g_page (ad : AD) : FG := gOf ["cells"] (q_page ad)
theorem f_page (X : Cx prog w K B mg mb ad) : FC prog w B 51 (.ref ad.page) (g_page ad) := (@FC.ofBodyC _ _ _ _ _ _ _ _ _ _ _ X.G X.d_page.fn (@b_page _ _ _ _ _ _ _ X) (by decide))
noncomputable def q_order_1b1t2 (ad : AD) : SP := (sSeq (sExp (mG extG (vV "pile") (esC (eComp "field" ["at", "due"] (tK true) (eTup (esC (bO idxF (bO idxF (vV "due") (bO subF (vV "at") (cK (.int 256)))) (vV "field")) (esC (vV "at") esN))) (eTup (esC (cK (.int 2)) (esC (cK (.int 1)) (esC (cK (.int 0)) esN))))) esN))) sNil)
noncomputable def q_order_1b1t1 (ad : AD) : SP := (sSeq (sExp (mG appG (vV "met") (esC (eTup (esC (vV "at") (esC (vV "behind") esN))) esN))) (q_order_1b1t2 ad))
noncomputable def q_order_1b1t0 (ad : AD) : SP := (sSeq (sExp (mG appG (vV "marks") (esC (vV "at") esN))) (q_order_1b1t1 ad))
noncomputable def q_order_1b1 (ad : AD) : SP := (sSeq (sIf (tAnd (tCmp gtF (vV "at") (cK (.int 255))) (tAnd (tCmp notInF (vV "at") (vV "marks")) (tK true)))
  (q_order_1b1t0 ad)
  sNil) sNil)
noncomputable def q_order_1b0 (ad : AD) : SP := (sSeq (sTup [("at", ⟨249, 8, 249, 10⟩), ("behind", ⟨249, 12, 249, 18⟩)] (mG popG (vV "pile") esN)) (q_order_1b1 ad))
noncomputable def q_order_2 (ad : AD) : SP := (sSeq (sRet (vV "met")) sNil)
noncomputable def q_order_1 (ad : AD) : SP := (sSeq (sWhile 200 (tCmp neU (vV "pile") (eList esN))
  (q_order_1b0 ad)) (q_order_2 ad))
noncomputable def q_order_0 (ad : AD) : SP := (sSeq (sSwp [("met", ⟨0, 0, 0, 0⟩), ("marks", ⟨0, 0, 0, 0⟩), ("pile", ⟨0, 0, 0, 0⟩)] (eTup (esC (eList esN) (esC (eList esN) (esC (eList (esC (eTup (esC (vV "start") (esC (cK (.int 0)) esN))) esN)) esN))))) (q_order_1 ad))
noncomputable def q_order (ad : AD) : SP :=
 (q_order_0 ad)
theorem b_order (X : Cx prog w K B mg mb ad) : SXs prog w B 50 (scOf (stN 75)) (bodyOf (stN 75)) (q_order ad) :=
 (@SXs.cons _ _ _ _ _ _ _ (sSwp [("met", ⟨0, 0, 0, 0⟩), ("marks", ⟨0, 0, 0, 0⟩), ("pile", ⟨0, 0, 0, 0⟩)] (eTup (esC (eList esN) (esC (eList esN) (esC (eList (esC (eTup (esC (vV "start") (esC (cK (.int 0)) esN))) esN)) esN))))) (q_order_1 ad) (@SX.swp _ _ _ _ _ [("met", ⟨0, 0, 0, 0⟩), ("marks", ⟨0, 0, 0, 0⟩), ("pile", ⟨0, 0, 0, 0⟩)] _ _ _ _ _ _ (@SE.tuple _ _ _ _ _ _ _ _ _ (@SEs.cons _ _ _ _ _ _ _ _ _ (@SE.list _ _ _ _ _ _ _ _ (@SEs.nil _ _ _ _ _)) (@SEs.cons _ _ _ _ _ _ _ _ _ (@SE.list _ _ _ _ _ _ _ _ (@SEs.nil _ _ _ _ _)) (@SEs.cons _ _ _ _ _ _ _ _ _ (@SE.list _ _ _ _ _ _ _ _ (@SEs.cons _ _ _ _ _ _ _ _ _ (@SE.tuple _ _ _ _ _ _ _ _ _ (@SEs.cons _ _ _ _ _ _ _ _ _ (@SE.var _ _ _ _ _ "start" _ (dbg_ne (by decide))) (@SEs.cons _ _ _ _ _ _ _ _ _ (@SE.int _ _ _ _ _ _ _ _) (@SEs.nil _ _ _ _ _) (fun _ => rfl)) (fun _ => rfl))) (@SEs.nil _ _ _ _ _) (fun _ => rfl))) (@SEs.nil _ _ _ _ _) (fun _ => rfl)) (fun _ => rfl)) (fun _ => rfl))) (by intro x hx; simp only [List.mem_cons, List.not_mem_nil, or_false] at hx; rcases hx with rfl | rfl | rfl | rfl <;> first | exact Or.inl rfl | exact Or.inr rfl) (fun _ => rfl) (by intro env he; cases env; cases he; rfl)) (@SXs.cons _ _ _ _ _ _ _ (sWhile 200 (tCmp neU (vV "pile") (eList esN))
  (q_order_1b0 ad)) (q_order_2 ad) (@SX.while' _ _ _ _ _ _ _ (tCmp neU (vV "pile") (eList esN)) (q_order_1b0 ad) _ (@ST.cmp' _ _ _ _ _ _ _ _ _ _ _ _ (@SE.var _ _ _ _ _ "pile" _ (dbg_ne (by decide))) (@SE.list _ _ _ _ _ _ _ _ (@SEs.nil _ _ _ _ _)) (@op_neU _ _ _ _) rfl) (@SXs.cons _ _ _ _ _ _ _ (sTup [("at", ⟨249, 8, 249, 10⟩), ("behind", ⟨249, 12, 249, 18⟩)] (mG popG (vV "pile") esN)) (q_order_1b1 ad) (@SX.tup _ _ _ _ _ [("at", ⟨249, 8, 249, 10⟩), ("behind", ⟨249, 12, 249, 18⟩)] _ _ _ _ _ (@SE.callM _ _ _ _ _ _ _ _ _ _ _ _ _ _ _ (@SE.var _ _ _ _ _ "pile" _ (dbg_ne (by decide))) fc_pop F.slot_list_pop rfl (@SEs.nil _ _ _ _ _) (Nat.le_refl _) (fun _ => rfl) (fun _ => trivial) (fun _ => ⟨_, rfl⟩)) (by intro x hx; simp only [List.mem_cons, List.not_mem_nil, or_false] at hx; rcases hx with rfl | rfl | rfl | rfl <;> first | exact Or.inl rfl | exact Or.inr rfl) (fun _ => rfl) (by first | (intro env he; rfl) | (intro env he; cases env; cases he; rfl))) (@SXs.cons _ _ _ _ _ _ _ (sIf (tAnd (tCmp gtF (vV "at") (cK (.int 255))) (tAnd (tCmp notInF (vV "at") (vV "marks")) (tK true)))
  (q_order_1b1t0 ad)
  sNil) sNil (@SX.ite _ _ _ _ _ _ _ _ (tAnd (tCmp gtF (vV "at") (cK (.int 255))) (tAnd (tCmp notInF (vV "at") (vV "marks")) (tK true))) (q_order_1b1t0 ad) sNil _ (@ST.bool _ _ _ _ _ _ _ _ _ (@SA.and _ _ _ _ _ _ _ _ _ (@ST.cmp' _ _ _ _ _ _ _ _ _ _ _ _ (@SE.var _ _ _ _ _ "at" _ (dbg_ne (by decide))) (@SE.int _ _ _ _ _ _ _ _) (@op_gt _ _ _ _) rfl) (@SA.and _ _ _ _ _ _ _ _ _ (@ST.cmp' _ _ _ _ _ _ _ _ _ _ _ _ (@SE.var _ _ _ _ _ "at" _ (dbg_ne (by decide))) (@SE.var _ _ _ _ _ "marks" _ (dbg_ne (by decide))) (@op_notIn _ _ _ _) rfl) (@SA.andNil _ _ _ _ _)))) (@SXs.cons _ _ _ _ _ _ _ (sExp (mG appG (vV "marks") (esC (vV "at") esN))) (q_order_1b1t1 ad) (@SX.exp _ _ _ _ _ _ _ _ (@SE.callM _ _ _ _ _ _ _ _ _ _ _ _ _ _ _ (@SE.var _ _ _ _ _ "marks" _ (dbg_ne (by decide))) fc_app F.slot_list_append rfl (@SEs.cons _ _ _ _ _ _ _ _ _ (@SE.var _ _ _ _ _ "at" _ (dbg_ne (by decide))) (@SEs.nil _ _ _ _ _) (fun _ => rfl)) (Nat.le_refl _) (fun _ => rfl) (fun _ => rfl) (fun _ => ⟨_, rfl⟩)) rfl (fun _ => rfl)) (@SXs.cons _ _ _ _ _ _ _ (sExp (mG appG (vV "met") (esC (eTup (esC (vV "at") (esC (vV "behind") esN))) esN))) (q_order_1b1t2 ad) (@SX.exp _ _ _ _ _ _ _ _ (@SE.callM _ _ _ _ _ _ _ _ _ _ _ _ _ _ _ (@SE.var _ _ _ _ _ "met" _ (dbg_ne (by decide))) fc_app F.slot_list_append rfl (@SEs.cons _ _ _ _ _ _ _ _ _ (@SE.tuple _ _ _ _ _ _ _ _ _ (@SEs.cons _ _ _ _ _ _ _ _ _ (@SE.var _ _ _ _ _ "at" _ (dbg_ne (by decide))) (@SEs.cons _ _ _ _ _ _ _ _ _ (@SE.var _ _ _ _ _ "behind" _ (dbg_ne (by decide))) (@SEs.nil _ _ _ _ _) (fun _ => rfl)) (fun _ => rfl))) (@SEs.nil _ _ _ _ _) (fun _ => rfl)) (Nat.le_refl _) (fun _ => rfl) (fun _ => rfl) (fun _ => ⟨_, rfl⟩)) rfl (fun _ => rfl)) (@SXs.cons _ _ _ _ _ _ _ (sExp (mG extG (vV "pile") (esC (eComp "field" ["at", "due"] (tK true) (eTup (esC (bO idxF (bO idxF (vV "due") (bO subF (vV "at") (cK (.int 256)))) (vV "field")) (esC (vV "at") esN))) (eTup (esC (cK (.int 2)) (esC (cK (.int 1)) (esC (cK (.int 0)) esN))))) esN))) sNil (@SX.exp _ _ _ _ _ _ _ _ (@SE.callM _ _ _ _ _ _ _ _ _ _ _ _ _ _ _ (@SE.var _ _ _ _ _ "pile" _ (dbg_ne (by decide))) fc_ext F.slot_list_extend rfl (@SEs.cons _ _ _ _ _ _ _ _ _ (@SE.comp _ _ _ _ _ _ "field" ["at", "due"] _ _ _ _ _ _ _ _ (Csc.of (capt := ["at", "due"]) (by decide +kernel)) (by decide) (@SE.tuple _ _ _ _ _ _ _ _ _ (@SEs.cons _ _ _ _ _ _ _ _ _ (@SE.idx _ _ _ _ _ _ _ _ _ _ (@SE.idx _ _ _ _ _ _ _ _ _ _ (@SE.var _ _ _ _ _ "due" _ (dbg_ne (by decide))) (@SE.bin _ _ _ _ _ _ _ _ _ _ _ _ (@SE.var _ _ _ _ _ "at" _ (dbg_ne (by decide))) (@SE.int _ _ _ _ _ _ _ _) (@op_sub _ _ _ _)) (fun _ _ => rfl)) (@SE.var _ _ _ _ _ "field" _ (dbg_ne (by decide))) (fun _ _ => rfl)) (@SEs.cons _ _ _ _ _ _ _ _ _ (@SE.var _ _ _ _ _ "at" _ (dbg_ne (by decide))) (@SEs.nil _ _ _ _ _) (fun _ => rfl)) (fun _ => rfl))) Ifs.nil (@SE.tuple _ _ _ _ _ _ _ _ _ (@SEs.cons _ _ _ _ _ _ _ _ _ (@SE.int _ _ _ _ _ _ _ _) (@SEs.cons _ _ _ _ _ _ _ _ _ (@SE.int _ _ _ _ _ _ _ _) (@SEs.cons _ _ _ _ _ _ _ _ _ (@SE.int _ _ _ _ _ _ _ _) (@SEs.nil _ _ _ _ _) (fun _ => rfl)) (fun _ => rfl)) (fun _ => rfl))) (fun _ _ => rfl)) (@SEs.nil _ _ _ _ _) (fun _ => rfl)) (Nat.le_refl _) (fun _ => rfl) (fun _ => rfl) (fun _ => ⟨_, rfl⟩)) rfl (fun _ => rfl)) (@SXs.nil _ _ _ _ _)))) (@SXs.nil _ _ _ _ _)) (@SXs.nil _ _ _ _ _)))) (@SXs.cons _ _ _ _ _ _ _ (sRet (vV "met")) sNil (@SX.ret _ _ _ _ _ _ _ _ (@SE.var _ _ _ _ _ "met" _ (dbg_ne (by decide)))) (@SXs.nil _ _ _ _ _))))
noncomputable def g_order (ad : AD) : FG := gOf ["due", "start"] (q_order ad)
theorem f_order (X : Cx prog w K B mg mb ad) : FC prog w B 51 (.ref ad.order) (g_order ad) := (@FC.ofBodyC _ _ _ _ _ _ _ _ _ _ _ X.G X.d_order.fn (@b_order _ _ _ _ _ _ _ X) (by decide))
noncomputable def q_law_4t0 (ad : AD) : SP := (sSeq (sRet (cK (.bool false))) sNil)
noncomputable def q_law_5b1t0 (ad : AD) : SP := (sSeq (sRet (cK (.bool false))) sNil)
noncomputable def q_law_5b1 (ad : AD) : SP := (sSeq (sIf (tOr (tCmp neU (cG (g_walk ad) (esC (vV "memory") (esC (vV "start") (esC (bO addF (bO mulF (cK (.int 4)) (cG lenG (esC (vV "order") esN))) (cK (.int 1))) esN)))) (vV "order")) (tOr (tCmp neU (vV "memory") (vV "due")) (tK false)))
  (q_law_5b1t0 ad)
  sNil) sNil)
noncomputable def q_law_5b0 (ad : AD) : SP := (sSeq (sAsg "order" (cG (g_order ad) (esC (vV "due") (esC (vV "start") esN)))) (q_law_5b1 ad))
noncomputable def q_law_6 (ad : AD) : SP := (sSeq (sRet (cK (.bool true))) sNil)
noncomputable def q_law_5 (ad : AD) : SP := (sSeq (sFor "start" (eLint (esC (bO addF (cK (.int 256)) (bO modF (bO idxF (vV "cells") (cK (.int 0))) (cK (.int 7)))) (esC (cK (.int 256)) esN)))
  (q_law_5b0 ad)) (q_law_6 ad))
noncomputable def q_law_4 (ad : AD) : SP := (sSeq (sIf (tOr (tCmp neU (vV "memory") (vV "due")) (tOr (tCmp inF (cK (.bool false)) (eComp "kind" [] (tK true) (cG (g_sorted ad) (esC (vV "kind") esN)) (bO addF (eComp "cell" [] (tK true) (bO idxF (vV "cell") (cK (.int 0))) (vV "due")) (eList (esC (cK (.int 0)) esN))))) (tK false)))
  (q_law_4t0 ad)
  sNil) (q_law_5 ad))
noncomputable def q_law_3 (ad : AD) : SP := (sSeq (sAsg "memory" (cG (g_read ad) (esC (vV "rows") esN))) (q_law_4 ad))
noncomputable def q_law_2 (ad : AD) : SP := (sSeq (sTup [("rows", ⟨265, 4, 265, 8⟩), ("due", ⟨265, 10, 265, 13⟩)] (cG (g_page ad) (esC (vV "cells") esN))) (q_law_3 ad))
noncomputable def q_law_1 (ad : AD) : SP := (sSeq (sAsg "cells" (eComp "k" ["firsts", "script"] (tK true) (bO modF (bO addF (bO idxF (vV "firsts") (vV "k")) (cG sumG (esC (eSl7 (vV "script") (vV "k")) esN))) (bO powF (cK (.int 10)) (cK (.int 6)))) (cG rngG (esC (cK (.int 7)) esN)))) (q_law_2 ad))
noncomputable def q_law_0 (ad : AD) : SP := (sSeq (sAsg "firsts" (eList (esC (cK (.int 578)) (esC (cK (.int 865)) (esC (cK (.int 386)) (esC (cK (.int 350)) (esC (cK (.int 2245)) (esC (cK (.int 1214)) (esC (cK (.int 2544)) esN))))))))) (q_law_1 ad))
noncomputable def q_law (ad : AD) : SP :=
 (q_law_0 ad)
theorem b_law (X : Cx prog w K B mg mb ad) : SXs prog w B 60 (scOf (stN 77)) (bodyOf (stN 77)) (q_law ad) :=
 (@SXs.cons _ _ _ _ _ _ _ (sAsg "firsts" (eList (esC (cK (.int 578)) (esC (cK (.int 865)) (esC (cK (.int 386)) (esC (cK (.int 350)) (esC (cK (.int 2245)) (esC (cK (.int 1214)) (esC (cK (.int 2544)) esN))))))))) (q_law_1 ad) (@SX.asg _ _ _ _ _ "firsts" _ _ _ _ (@SE.list _ _ _ _ _ _ _ _ (@SEs.cons _ _ _ _ _ _ _ _ _ (@SE.int _ _ _ _ _ _ _ _) (@SEs.cons _ _ _ _ _ _ _ _ _ (@SE.int _ _ _ _ _ _ _ _) (@SEs.cons _ _ _ _ _ _ _ _ _ (@SE.int _ _ _ _ _ _ _ _) (@SEs.cons _ _ _ _ _ _ _ _ _ (@SE.int _ _ _ _ _ _ _ _) (@SEs.cons _ _ _ _ _ _ _ _ _ (@SE.int _ _ _ _ _ _ _ _) (@SEs.cons _ _ _ _ _ _ _ _ _ (@SE.int _ _ _ _ _ _ _ _) (@SEs.cons _ _ _ _ _ _ _ _ _ (@SE.int _ _ _ _ _ _ _ _) (@SEs.nil _ _ _ _ _) (fun _ => rfl)) (fun _ => rfl)) (fun _ => rfl)) (fun _ => rfl)) (fun _ => rfl)) (fun _ => rfl)) (fun _ => rfl))) (.inr rfl) (fun _ => rfl)) (@SXs.cons _ _ _ _ _ _ _ (sAsg "cells" (eComp "k" ["firsts", "script"] (tK true) (bO modF (bO addF (bO idxF (vV "firsts") (vV "k")) (cG sumG (esC (eSl7 (vV "script") (vV "k")) esN))) (bO powF (cK (.int 10)) (cK (.int 6)))) (cG rngG (esC (cK (.int 7)) esN)))) (q_law_2 ad) (@SX.asgComp _ _ _ _ _ _ "k" "cells" ["firsts", "script"] _ _ _ _ _ _ _ _ _ _ (Csc.of (capt := ["firsts", "script"]) (by decide +kernel)) (by decide) (@SE.bin _ _ _ _ _ _ _ _ _ _ _ _ (@SE.bin _ _ _ _ _ _ _ _ _ _ _ _ (@SE.idx _ _ _ _ _ _ _ _ _ _ (@SE.var _ _ _ _ _ "firsts" _ (dbg_ne (by decide))) (@SE.var _ _ _ _ _ "k" _ (dbg_ne (by decide))) (fun _ _ => rfl)) (@SE.callI _ _ _ _ _ _ _ _ _ _ _ _ _ _ X.bi_sum fc_sum kp_builtin X.G (@SEs.cons _ _ _ _ _ _ _ _ _ (@SE.sl7 _ _ _ _ _ _ _ _ _ _ _ _ _ (@SE.var _ _ _ _ _ "script" _ (dbg_ne (by decide))) (@SE.var _ _ _ _ _ "k" _ (dbg_ne (by decide)))) (@SEs.nil _ _ _ _ _) (fun _ => rfl)) rfl (dbg_ne (by decide)) (fun _ => rfl) (fun _ => rfl)) (@op_add _ _ _ _)) (@SE.bin _ _ _ _ _ _ _ _ _ _ _ _ (@SE.int _ _ _ _ _ _ _ _) (@SE.int _ _ _ _ _ _ _ _) (@op_pow _ _ _ _)) (@op_mod _ _ _ _)) Ifs.nil (@SE.callI _ _ _ _ _ _ _ _ _ _ _ _ _ _ X.bi_range fc_rng kp_type X.G (@SEs.cons _ _ _ _ _ _ _ _ _ (@SE.int _ _ _ _ _ _ _ _) (@SEs.nil _ _ _ _ _) (fun _ => rfl)) rfl (dbg_ne (by decide)) (fun _ => rfl) (fun _ => rfl)) (fun _ _ => rfl) (.inl rfl) (by first | (intro env he; rfl) | (intro env he; cases env; cases he; rfl))) (@SXs.cons _ _ _ _ _ _ _ (sTup [("rows", ⟨265, 4, 265, 8⟩), ("due", ⟨265, 10, 265, 13⟩)] (cG (g_page ad) (esC (vV "cells") esN))) (q_law_3 ad) (@SX.tup _ _ _ _ _ [("rows", ⟨265, 4, 265, 8⟩), ("due", ⟨265, 10, 265, 13⟩)] _ _ _ _ _ (@SE.callD _ _ _ _ _ _ _ _ _ _ _ _ _ _ _ _ _ X.d_page (@f_page _ _ _ _ _ _ _ X) X.G (@SEs.cons _ _ _ _ _ _ _ _ _ (@SE.var _ _ _ _ _ "cells" _ (dbg_ne (by decide))) (@SEs.nil _ _ _ _ _) (fun _ => rfl)) (by decide) rfl (dbg_ne (by decide)) (fun _ => rfl) (fun _ => rfl)) (by intro x hx; simp only [List.mem_cons, List.not_mem_nil, or_false] at hx; rcases hx with rfl | rfl | rfl | rfl <;> first | exact Or.inl rfl | exact Or.inr rfl) (fun _ => rfl) (by first | (intro env he; rfl) | (intro env he; cases env; cases he; rfl))) (@SXs.cons _ _ _ _ _ _ _ (sAsg "memory" (cG (g_read ad) (esC (vV "rows") esN))) (q_law_4 ad) (@SX.asg _ _ _ _ _ "memory" _ _ _ _ (@SE.callD _ _ _ _ _ _ _ _ _ _ _ _ _ _ _ _ _ X.d_read (@f_read _ _ _ _ _ _ _ X) X.G (@SEs.cons _ _ _ _ _ _ _ _ _ (@SE.var _ _ _ _ _ "rows" _ (dbg_ne (by decide))) (@SEs.nil _ _ _ _ _) (fun _ => rfl)) (by decide) rfl (dbg_ne (by decide)) (fun _ => rfl) (fun _ => rfl)) (.inl rfl) (fun _ => rfl)) (@SXs.cons _ _ _ _ _ _ _ (sIf (tOr (tCmp neU (vV "memory") (vV "due")) (tOr (tCmp inF (cK (.bool false)) (eComp "kind" [] (tK true) (cG (g_sorted ad) (esC (vV "kind") esN)) (bO addF (eComp "cell" [] (tK true) (bO idxF (vV "cell") (cK (.int 0))) (vV "due")) (eList (esC (cK (.int 0)) esN))))) (tK false)))
  (q_law_4t0 ad)
  sNil) (q_law_5 ad) (@SX.ite _ _ _ _ _ _ _ _ (tOr (tCmp neU (vV "memory") (vV "due")) (tOr (tCmp inF (cK (.bool false)) (eComp "kind" [] (tK true) (cG (g_sorted ad) (esC (vV "kind") esN)) (bO addF (eComp "cell" [] (tK true) (bO idxF (vV "cell") (cK (.int 0))) (vV "due")) (eList (esC (cK (.int 0)) esN))))) (tK false))) (q_law_4t0 ad) sNil _ (@ST.bool _ _ _ _ _ _ _ _ _ (@SA.or _ _ _ _ _ _ _ _ _ (@ST.cmp' _ _ _ _ _ _ _ _ _ _ _ _ (@SE.var _ _ _ _ _ "memory" _ (dbg_ne (by decide))) (@SE.var _ _ _ _ _ "due" _ (dbg_ne (by decide))) (@op_neU _ _ _ _) rfl) (@SA.or _ _ _ _ _ _ _ _ _ (@ST.cmp' _ _ _ _ _ _ _ _ _ _ _ _ (@SE.bool _ _ _ _ _ _ _ _) (@SE.comp _ _ _ _ _ _ "kind" [] _ _ _ _ _ _ _ _ (Csc.of (capt := []) (by decide +kernel)) (by decide) (@SE.callD _ _ _ _ _ _ _ _ _ _ _ _ _ _ _ _ _ X.d_sorted (@f_sorted _ _ _ _ _ _ _ X) X.G (@SEs.cons _ _ _ _ _ _ _ _ _ (@SE.var _ _ _ _ _ "kind" _ (dbg_ne (by decide))) (@SEs.nil _ _ _ _ _) (fun _ => rfl)) (by decide) rfl (dbg_ne (by decide)) (fun _ => rfl) (fun _ => rfl)) Ifs.nil (@SE.bin _ _ _ _ _ _ _ _ _ _ _ _ (@SE.comp _ _ _ _ _ _ "cell" [] _ _ _ _ _ _ _ _ (Csc.of (capt := []) (by decide +kernel)) (by decide) (@SE.idx _ _ _ _ _ _ _ _ _ _ (@SE.var _ _ _ _ _ "cell" _ (dbg_ne (by decide))) (@SE.int _ _ _ _ _ _ _ _) (fun _ _ => rfl)) Ifs.nil (@SE.var _ _ _ _ _ "due" _ (dbg_ne (by decide))) (fun _ _ => rfl)) (@SE.list _ _ _ _ _ _ _ _ (@SEs.cons _ _ _ _ _ _ _ _ _ (@SE.int _ _ _ _ _ _ _ _) (@SEs.nil _ _ _ _ _) (fun _ => rfl))) (@op_add _ _ _ _)) (fun _ _ => rfl)) (@op_in _ _ _ _) rfl) (@SA.orNil _ _ _ _ _)))) (@SXs.cons _ _ _ _ _ _ _ (sRet (cK (.bool false))) sNil (@SX.ret _ _ _ _ _ _ _ _ (@SE.bool _ _ _ _ _ _ _ _)) (@SXs.nil _ _ _ _ _)) (@SXs.nil _ _ _ _ _)) (@SXs.cons _ _ _ _ _ _ _ (sFor "start" (eLint (esC (bO addF (cK (.int 256)) (bO modF (bO idxF (vV "cells") (cK (.int 0))) (cK (.int 7)))) (esC (cK (.int 256)) esN)))
  (q_law_5b0 ad)) (q_law_6 ad) (@SX.for _ _ _ _ _ "start" _ _ (eLint (esC (bO addF (cK (.int 256)) (bO modF (bO idxF (vV "cells") (cK (.int 0))) (cK (.int 7)))) (esC (cK (.int 256)) esN))) (q_law_5b0 ad) _ _ (@SE.lint _ _ _ _ _ _ _ _ (@SEs.cons _ _ _ _ _ _ _ _ _ (@SE.bin _ _ _ _ _ _ _ _ _ _ _ _ (@SE.int _ _ _ _ _ _ _ _) (@SE.bin _ _ _ _ _ _ _ _ _ _ _ _ (@SE.idx _ _ _ _ _ _ _ _ _ _ (@SE.var _ _ _ _ _ "cells" _ (dbg_ne (by decide))) (@SE.int _ _ _ _ _ _ _ _) (fun _ _ => rfl)) (@SE.int _ _ _ _ _ _ _ _) (@op_mod _ _ _ _)) (@op_add _ _ _ _)) (@SEs.cons _ _ _ _ _ _ _ _ _ (@SE.int _ _ _ _ _ _ _ _) (@SEs.nil _ _ _ _ _) (fun _ => rfl)) (fun _ => rfl))) (@SXs.cons _ _ _ _ _ _ _ (sAsg "order" (cG (g_order ad) (esC (vV "due") (esC (vV "start") esN)))) (q_law_5b1 ad) (@SX.asg _ _ _ _ _ "order" _ _ _ _ (@SE.callD _ _ _ _ _ _ _ _ _ _ _ _ _ _ _ _ _ X.d_order (@f_order _ _ _ _ _ _ _ X) X.G (@SEs.cons _ _ _ _ _ _ _ _ _ (@SE.var _ _ _ _ _ "due" _ (dbg_ne (by decide))) (@SEs.cons _ _ _ _ _ _ _ _ _ (@SE.var _ _ _ _ _ "start" _ (dbg_ne (by decide))) (@SEs.nil _ _ _ _ _) (fun _ => rfl)) (fun _ => rfl)) (by decide) rfl (dbg_ne (by decide)) (fun _ => rfl) (fun _ => rfl)) (.inl rfl) (fun _ => rfl)) (@SXs.cons _ _ _ _ _ _ _ (sIf (tOr (tCmp neU (cG (g_walk ad) (esC (vV "memory") (esC (vV "start") (esC (bO addF (bO mulF (cK (.int 4)) (cG lenG (esC (vV "order") esN))) (cK (.int 1))) esN)))) (vV "order")) (tOr (tCmp neU (vV "memory") (vV "due")) (tK false)))
  (q_law_5b1t0 ad)
  sNil) sNil (@SX.ite _ _ _ _ _ _ _ _ (tOr (tCmp neU (cG (g_walk ad) (esC (vV "memory") (esC (vV "start") (esC (bO addF (bO mulF (cK (.int 4)) (cG lenG (esC (vV "order") esN))) (cK (.int 1))) esN)))) (vV "order")) (tOr (tCmp neU (vV "memory") (vV "due")) (tK false))) (q_law_5b1t0 ad) sNil _ (@ST.bool _ _ _ _ _ _ _ _ _ (@SA.or _ _ _ _ _ _ _ _ _ (@ST.cmp' _ _ _ _ _ _ _ _ _ _ _ _ (@SE.callD _ _ _ _ _ _ _ _ _ _ _ _ _ _ _ _ _ X.d_walk (@f_walk _ _ _ _ _ _ _ X) X.G (@SEs.cons _ _ _ _ _ _ _ _ _ (@SE.var _ _ _ _ _ "memory" _ (dbg_ne (by decide))) (@SEs.cons _ _ _ _ _ _ _ _ _ (@SE.var _ _ _ _ _ "start" _ (dbg_ne (by decide))) (@SEs.cons _ _ _ _ _ _ _ _ _ (@SE.bin _ _ _ _ _ _ _ _ _ _ _ _ (@SE.bin _ _ _ _ _ _ _ _ _ _ _ _ (@SE.int _ _ _ _ _ _ _ _) (@SE.callI _ _ _ _ _ _ _ _ _ _ _ _ _ _ X.bi_len fc_len kp_builtin X.G (@SEs.cons _ _ _ _ _ _ _ _ _ (@SE.var _ _ _ _ _ "order" _ (dbg_ne (by decide))) (@SEs.nil _ _ _ _ _) (fun _ => rfl)) rfl (dbg_ne (by decide)) (fun _ => rfl) (fun _ => rfl)) (@op_mul _ _ _ _)) (@SE.int _ _ _ _ _ _ _ _) (@op_add _ _ _ _)) (@SEs.nil _ _ _ _ _) (fun _ => rfl)) (fun _ => rfl)) (fun _ => rfl)) (by decide) rfl (dbg_ne (by decide)) (fun _ => rfl) (fun _ => rfl)) (@SE.var _ _ _ _ _ "order" _ (dbg_ne (by decide))) (@op_neU _ _ _ _) rfl) (@SA.or _ _ _ _ _ _ _ _ _ (@ST.cmp' _ _ _ _ _ _ _ _ _ _ _ _ (@SE.var _ _ _ _ _ "memory" _ (dbg_ne (by decide))) (@SE.var _ _ _ _ _ "due" _ (dbg_ne (by decide))) (@op_neU _ _ _ _) rfl) (@SA.orNil _ _ _ _ _)))) (@SXs.cons _ _ _ _ _ _ _ (sRet (cK (.bool false))) sNil (@SX.ret _ _ _ _ _ _ _ _ (@SE.bool _ _ _ _ _ _ _ _)) (@SXs.nil _ _ _ _ _)) (@SXs.nil _ _ _ _ _)) (@SXs.nil _ _ _ _ _))) (.inl rfl) (fun _ _ => rfl)) (@SXs.cons _ _ _ _ _ _ _ (sRet (cK (.bool true))) sNil (@SX.ret _ _ _ _ _ _ _ _ (@SE.bool _ _ _ _ _ _ _ _)) (@SXs.nil _ _ _ _ _))))))))
end Mine
end
section
set_option maxRecDepth 20000
namespace Mine
/-- it comes to a value that is so -/
noncomputable def Wp {α : Type} (o : Option α) (P : α → Prop) : Prop := ∃ a, o = some a ∧ P a
theorem Wp_some {α : Type} {a : α} {P : α → Prop} : Wp (some a) P ↔ P a := ⟨fun ⟨_, h, p⟩ => by cases h; exact p, fun p => ⟨_, rfl, p⟩⟩
theorem Wp_none {α : Type} {P : α → Prop} : Wp none P ↔ False := ⟨fun ⟨_, h, _⟩ => (nomatch h), False.elim⟩
theorem Wp_bind {α β : Type} {o : Option α} {f : α → Option β} {P : β → Prop} : Wp (o.bind f) P ↔ Wp o fun a => Wp (f a) P := by
  cases o with
  | none => simp [Wp]
  | some a => simp only [Option.bind_some, Wp_some]
theorem Wp_map {α β : Type} {o : Option α} {f : α → β} {P : β → Prop} : Wp (o.map f) P ↔ Wp o fun a => P (f a) := by
  cases o with
  | none => simp [Wp]
  | some a => simp only [Option.map_some, Wp_some]
theorem Wp.mono {α : Type} {o : Option α} {P Q : α → Prop} (h : Wp o P) (i : ∀ a, P a → Q a) : Wp o Q := let ⟨a, e, p⟩ := h; ⟨a, e, i a p⟩
/-- the heap has grown -/
noncomputable def Le (H H' : Hp) : Prop := ∀ (i : Nat) (o : AO), H[i]? = some o → H'[i]? = some o
theorem Le.refl (H : Hp) : Le H H := fun _ _ h => h
theorem Le.trans {H H' H'' : Hp} (a : Le H H') (b : Le H' H'') : Le H H'' := fun i o h => b i o (a i o h)
theorem Le.app (H X : Hp) : Le H (H ++ X) := fun i o h => by
  obtain ⟨hi, _⟩ := List.getElem?_eq_some_iff.mp h
  rw [List.getElem?_append_left hi]; exact h
theorem Le.len {H H' : Hp} (a : Le H H') : H.length ≤ H'.length := by
  cases h : H.length with
  | zero => omega
  | succ n =>
    have hn : n < H.length := by omega
    have := a n H[n] (List.getElem?_eq_getElem hn)
    have := (List.getElem?_eq_some_iff.mp this).1
    omega
theorem Le.set {H H' : Hp} (a : Le H H') {i : Nat} {o : AO} (hi : H.length ≤ i) : Le H (H'.set i o) := fun j x h => by
  obtain ⟨hj, _⟩ := List.getElem?_eq_some_iff.mp h
  rw [List.getElem?_set_ne (by omega)]; exact a j x h
theorem getL_le {H H' : Hp} (a : Le H H') {i : Nat} {xs : List AV} (h : getL H i = some xs) : getL H' i = some xs := by
  have := a _ _ (getL_some h)
  unfold getL; rw [this]
theorem getL_new (H : Hp) (xs : List AV) : getL (H ++ [.list xs]) H.length = some xs := by simp [getL]
theorem get_new (H : Hp) (o : AO) : (H ++ [o])[H.length]? = some o := by simp
theorem getL_lt {H : Hp} {i : Nat} {xs : List AV} (h : getL H i = some xs) : i < H.length := (List.getElem?_eq_some_iff.mp (getL_some h)).1
theorem getL_set_ne {H : Hp} {i j : Nat} {o : AO} (h : i ≠ j) : getL (H.set i o) j = getL H j := by
  unfold getL; rw [List.getElem?_set_ne h]
theorem nthI_at {xs : List AV} {k : Int} {v : AV} (h0 : 0 ≤ k) (hv : xs[k.toNat]? = some v) (hk : k < 1000000) : nthI xs k = some v := by
  unfold nthI
  rw [if_pos (by omega), if_pos h0]; exact hv
theorem updEq {lm : LM} {x : String} {v : AV} : upd lm x v x = some v := if_pos rfl
theorem updNe {lm : LM} {x y : String} {v : AV} (h : y ≠ x) : upd lm x v y = lm y := if_neg h
variable (ad : AD) (H : Hp)
theorem getitem_ok (a b : AV) : g_getitem ad [a, b] H = idxF a b H := by
  show (Option.bind (Option.bind (Option.map _ (idxF a b H)) _) _) = _
  cases idxF a b H <;> rfl
theorem setitem_ok (a b c : AV) : g_setitem ad [a, b, c] H = (setI H a b c).map fun H' => (.none, H') := by
  show (Option.bind (Option.bind (Option.map _ (setI H a b c)) _) _) = _
  cases setI H a b c <;> rfl
theorem contains_ok (a b : AV) : g_contains ad [a, b] H = inF b a H := by
  show (Option.bind (Option.bind (Option.map _ (inF b a H)) _) _) = _
  cases inF b a H <;> rfl
/-- a row's words and what they hold -/
noncomputable def rowT (what far place : Int) : List Nat × Int :=
  if what = 4 then (([[60], [60, 60], [60, 60, 61], [45, 62], [61], [61, 61], [46, 46, 46], [58, 61]] : List (List Nat)).getD (far % 8).toNat [] ++ [32, 61], ([20, 33, 44, 51, 22, 27, 52, 53] : List Int).getD (far % 8).toNat 0)
  else if what = 7 then ([63], 255)
  else
    let marks := strRep (far % 4).toNat [34, 34] ++ ([[34, 32, 120, 34, 34, 32, 34], [34]] : List (List Nat)).getD (what % 2).toNat []
    if what = 5 then (([[50, 53, 48, 32, 34], [49, 53, 55, 32, 34], [50, 48, 55, 32, 34]] : List (List Nat)).getD (far / 4 % 3).toNat [] ++ marks, 0)
    else if what = 6 then (([[50, 53, 55, 45, 34], [50, 53, 55, 32, 120]] : List (List Nat)).getD (far / 4 % 2).toNat [] ++ marks, 256 + place)
    else if what < 2 then ([50, 53, 55, 32, 34] ++ marks, if far % 4 ≤ place then 256 + place - far % 4 else 0)
    else ([50, 53, 55, 32, 34, 120] ++ marks, if place + far % 4 < 7 then 256 + place + far % 4 else 0)
theorem Wp_ite_none {α : Type} {c : Prop} [Decidable c] {a : Option α} {P : α → Prop} : Wp (if c then a else none) P ↔ c ∧ Wp a P := by
  by_cases h : c
  · rw [if_pos h]; exact ⟨fun q => ⟨h, q⟩, fun q => q.2⟩
  · rw [if_neg h, Wp_none]; exact ⟨False.elim, fun q => h q.1⟩
theorem nth0 {a : AV} {l : List AV} : nthI (a :: l) 0 = some a := rfl
theorem nth1 {a b : AV} {l : List AV} : nthI (a :: b :: l) 1 = some b := rfl
theorem nth2 {a b c : AV} {l : List AV} : nthI (a :: b :: c :: l) 2 = some c := rfl
theorem nth3 {a b c d : AV} {l : List AV} : nthI (a :: b :: c :: d :: l) 3 = some d := rfl
theorem nth4 {a b c d e : AV} {l : List AV} : nthI (a :: b :: c :: d :: e :: l) 4 = some e := rfl
theorem nth5 {a b c d e f : AV} {l : List AV} : nthI (a :: b :: c :: d :: e :: f :: l) 5 = some f := rfl
theorem nth6 {a b c d e f g : AV} {l : List AV} : nthI (a :: b :: c :: d :: e :: f :: g :: l) 6 = some g := rfl
theorem nth7 {a b c d e f g h : AV} {l : List AV} : nthI (a :: b :: c :: d :: e :: f :: g :: h :: l) 7 = some h := rfl
theorem A_lt {H X : Hp} {i : Nat} (h : i < H.length) : (H ++ X)[i]? = H[i]? := List.getElem?_append_left h
theorem AL_lt {H X : Hp} {i : Nat} (h : i < H.length) : getL (H ++ X) i = getL H i := by unfold getL; rw [A_lt h]
theorem A_ge {H X : Hp} {k : Nat} : (H ++ X)[H.length + k]? = X[k]? := by rw [List.getElem?_append_right (by omega)]; congr 1; omega
theorem A0 {H X : Hp} {a : AO} : (H ++ a :: X)[H.length]? = some a := @A_ge H (a :: X) 0
theorem A1 {H X : Hp} {a b : AO} : (H ++ a :: b :: X)[H.length + 1]? = some b := A_ge
theorem A2 {H X : Hp} {a b c : AO} : (H ++ a :: b :: c :: X)[H.length + 2]? = some c := A_ge
theorem A3 {H X : Hp} {a b c d : AO} : (H ++ a :: b :: c :: d :: X)[H.length + 3]? = some d := A_ge
theorem A4 {H X : Hp} {a b c d e : AO} : (H ++ a :: b :: c :: d :: e :: X)[H.length + 4]? = some e := A_ge
theorem getL_of {h : Hp} {c : Nat} {xs : List AV} (e : h[c]? = some (.list xs)) : getL h c = some xs := by unfold getL; rw [e]
theorem AL0 {H X : Hp} {a : List AV} : getL (H ++ .list a :: X) H.length = some a := getL_of A0
theorem AL1 {H X : Hp} {a : AO} {b : List AV} : getL (H ++ a :: .list b :: X) (H.length + 1) = some b := getL_of A1
theorem AL2 {H X : Hp} {a b : AO} {c : List AV} : getL (H ++ a :: b :: .list c :: X) (H.length + 2) = some c := getL_of A2
theorem AL3 {H X : Hp} {a b c : AO} {d : List AV} : getL (H ++ a :: b :: c :: .list d :: X) (H.length + 3) = some d := getL_of A3
theorem AL4 {H X : Hp} {a b c d : AO} {e : List AV} : getL (H ++ a :: b :: c :: d :: .list e :: X) (H.length + 4) = some e := getL_of A4
theorem S_lt {H X : Hp} {i : Nat} {o : AO} (h : i < H.length) : List.set (H ++ X) i o = List.set H i o ++ X := List.set_append_left _ _ h
theorem S_ge {H X : Hp} {k : Nat} {o : AO} : List.set (H ++ X) (H.length + k) o = H ++ X.set k o := by
  rw [List.set_append_right _ _ (by omega)]; congr 2; omega
theorem S0 {H X : Hp} {a o : AO} : List.set (H ++ a :: X) H.length o = H ++ o :: X := @S_ge H (a :: X) 0 o
theorem S1 {H X : Hp} {a b o : AO} : List.set (H ++ a :: b :: X) (H.length + 1) o = H ++ a :: o :: X := S_ge
theorem S2 {H X : Hp} {a b c o : AO} : List.set (H ++ a :: b :: c :: X) (H.length + 2) o = H ++ a :: b :: o :: X := S_ge
theorem S3 {H X : Hp} {a b c d o : AO} : List.set (H ++ a :: b :: c :: d :: X) (H.length + 3) o = H ++ a :: b :: c :: o :: X := S_ge
theorem nthI_int {xs : List Int} {k : Int} (h0 : 0 ≤ k) (h1 : k < xs.length) (h2 : k < 1000000) : nthI (xs.map AV.int) k = some (.int (xs.getD k.toNat 0)) := by
  refine nthI_at h0 ?_ h2
  have : k.toNat < xs.length := by omega
  rw [List.getElem?_map, List.getElem?_eq_getElem this, List.getD_eq_getElem?_getD, List.getElem?_eq_getElem this]; rfl
theorem lstRep_int (n : Nat) (v : Int) : lstRep n [.int v] = (List.replicate n v).map AV.int := by
  induction n with
  | zero => rfl
  | succ n ih =>
    unfold lstRep at ih ⊢
    rw [List.replicate_succ, List.flatten_cons, ih]; rfl
theorem getA_of {C : Addr} {H : Hp} {i d : Nat} {fs : List (String × AV)} (h1 : H[i]? = some (.inst C d)) (h2 : H[d]? = some (.attrs fs)) : getA C H i = some (d, fs) := by
  unfold getA; rw [h1]; simp only [if_true]; rw [h2]
theorem getA_new {C : Addr} {H X : Hp} {fs : List (String × AV)} : getA C (H ++ .attrs fs :: .inst C H.length :: X) (H.length + 1) = some (H.length, fs) := getA_of A1 A0
theorem getA_set {C : Addr} {H : Hp} {i d : Nat} {fs fs' : List (String × AV)} (h1 : H[i]? = some (.inst C d)) (h2 : H[d]? = some (.attrs fs)) : getA C (List.set H d (.attrs fs')) i = some (d, fs') := by
  have hd := (List.getElem?_eq_some_iff.mp h2).1
  refine getA_of ?_ (by rw [List.getElem?_set_self hd])
  rw [List.getElem?_set_ne, h1]
  intro q; subst q; rw [h1] at h2; cases h2
/-- small cases, once -/
theorem ltI {n : Nat} {P : Int → Prop} (h : ∀ i : Nat, i < n → P i) {x : Int} (h0 : 0 ≤ x) (h1 : x < n) : P x := by
  obtain ⟨i, rfl⟩ := Int.eq_ofNat_of_zero_le h0
  exact h i (Int.ofNat_lt.mp h1)
theorem or4 {x : Int} (h0 : 0 ≤ x) (h1 : x < 4) : x = 0 ∨ x = 1 ∨ x = 2 ∨ x = 3 := ltI (n := 4) (P := fun x => x = 0 ∨ x = 1 ∨ x = 2 ∨ x = 3) (by decide) h0 h1
theorem or7 {x : Int} (h0 : 0 ≤ x) (h1 : x < 7) : x = 0 ∨ x = 1 ∨ x = 2 ∨ x = 3 ∨ x = 4 ∨ x = 5 ∨ x = 6 := ltI (n := 7) (P := fun x => x = 0 ∨ x = 1 ∨ x = 2 ∨ x = 3 ∨ x = 4 ∨ x = 5 ∨ x = 6) (by decide) h0 h1
theorem or8 {x : Int} (h0 : 0 ≤ x) (h1 : x < 8) : x = 0 ∨ x = 1 ∨ x = 2 ∨ x = 3 ∨ x = 4 ∨ x = 5 ∨ x = 6 ∨ x = 7 := ltI (n := 8) (P := fun x => x = 0 ∨ x = 1 ∨ x = 2 ∨ x = 3 ∨ x = 4 ∨ x = 5 ∨ x = 6 ∨ x = 7) (by decide) h0 h1
theorem or12 {x : Int} (h0 : 0 ≤ x) (h1 : x < 12) : x = 0 ∨ x = 1 ∨ x = 2 ∨ x = 3 ∨ x = 4 ∨ x = 5 ∨ x = 6 ∨ x = 7 ∨ x = 8 ∨ x = 9 ∨ x = 10 ∨ x = 11 := ltI (n := 12) (P := fun x => x = 0 ∨ x = 1 ∨ x = 2 ∨ x = 3 ∨ x = 4 ∨ x = 5 ∨ x = 6 ∨ x = 7 ∨ x = 8 ∨ x = 9 ∨ x = 10 ∨ x = 11) (by decide) h0 h1
theorem md {x n : Int} (h : 0 < n) : 0 ≤ x % n ∧ x % n < n := ⟨Int.emod_nonneg _ (Int.ne_of_gt h), Int.emod_lt_of_pos _ h⟩
theorem om4 (x : Int) : x % 4 = 0 ∨ x % 4 = 1 ∨ x % 4 = 2 ∨ x % 4 = 3 := or4 (md (by decide)).1 (md (by decide)).2
theorem om8 (x : Int) : x % 8 = 0 ∨ x % 8 = 1 ∨ x % 8 = 2 ∨ x % 8 = 3 ∨ x % 8 = 4 ∨ x % 8 = 5 ∨ x % 8 = 6 ∨ x % 8 = 7 := or8 (md (by decide)).1 (md (by decide)).2
theorem om12 (x : Int) : x % 12 = 0 ∨ x % 12 = 1 ∨ x % 12 = 2 ∨ x % 12 = 3 ∨ x % 12 = 4 ∨ x % 12 = 5 ∨ x % 12 = 6 ∨ x % 12 = 7 ∨ x % 12 = 8 ∨ x % 12 = 9 ∨ x % 12 = 10 ∨ x % 12 = 11 := or12 (md (by decide)).1 (md (by decide)).2
theorem strRep_len (n : Nat) (x : List Nat) : (strRep n x).length = n * x.length := by
  simp [strRep, List.length_flatten, List.sum_replicate_nat]
/-- a value of an expression, once -/
theorem ev_v {lm : LM} {H : Hp} {x : String} {v : AV} (h : lm x = some v) : vV x lm H = some (v, H) := by unfold vV; rw [h]; rfl
theorem ev_b {f : F2} {a b : EP} {lm : LM} {H H₁ H₂ : Hp} {x y : AV} {r : AV × Hp} (h1 : a lm H = some (x, H₁)) (h2 : b lm H₁ = some (y, H₂)) (h3 : f x y H₂ = some r) : bO f a b lm H = some r := by
  unfold bO; rw [h1, Option.bind_some, h2]; exact h3
theorem ev_x {es : EPs} {vs : List AV} {e : EP} {lm : LM} {H : Hp} {k : Int} {v : AV} (h1 : es lm H = some (vs, H)) (hl : vs.length ≤ 100) (h2 : e lm (H ++ [.list vs]) = some (.int k, H ++ [.list vs])) (h3 : nthI vs k = some v) :
    bO idxF (eList es) e lm H = some (v, H ++ [.list vs]) := by
  refine ev_b (x := .ref H.length) (by unfold eList; rw [h1, Option.bind_some, if_pos hl]) h2 ?_
  unfold idxF; dsimp only; rw [get_new]; dsimp only; rw [h3]; rfl
theorem ev_t2 {a b : EP} {lm : LM} {H H₁ H₂ : Hp} {x y : AV} (h1 : a lm H = some (x, H₁)) (h2 : b lm H₁ = some (y, H₂)) : eTup (esC a (esC b esN)) lm H = some (.tup [x, y], H₂) := by
  unfold eTup esC esN; rw [h1, Option.bind_some, h2]; rfl
theorem ev_if {f : F2} {a b p q : EP} {lm : LM} {H : Hp} {c : Bool} {r : AV × Hp} (h1 : bO f a b lm H = some (.bool c, H)) (h2 : (bif c then p lm H else q lm H) = some r) : eIf (tCmp f a b) p q lm H = some r := by
  unfold eIf tCmp; rw [h1]; cases c <;> exact h2
theorem st_no {f : F2} {a b : EP} {p : SP} {lm : LM} {H : Hp} (h1 : bO f a b lm H = some (.bool false, H)) : sIf (tCmp f a b) p sNil lm H = some (.next, lm, H) := by unfold sIf tCmp; rw [h1]; rfl
theorem st_yes {f : F2} {a b : EP} {p q : SP} {lm : LM} {H : Hp} {r : Fl × LM × Hp} (h1 : bO f a b lm H = some (.bool true, H)) (h2 : p lm H = some r) : sIf (tCmp f a b) p q lm H = some r := by unfold sIf tCmp; rw [h1]; exact h2
theorem st_ret {e : EP} {q : SP} {lm : LM} {H H' : Hp} {a : AV} (h : e lm H = some (a, H')) : sSeq (sRet e) q lm H = some (.ret a, lm, H') := by unfold sSeq sRet; rw [h]; rfl
theorem st_n {p q : SP} {lm lm' : LM} {H H' : Hp} {r : Fl × LM × Hp} (h1 : p lm H = some (.next, lm', H')) (h2 : q lm' H' = some r) : sSeq p q lm H = some r := by unfold sSeq; rw [h1]; exact h2
theorem st_r {p q : SP} {lm lm' : LM} {H H' : Hp} {a : AV} (h1 : p lm H = some (.ret a, lm', H')) : sSeq p q lm H = some (.ret a, lm', H') := by unfold sSeq; rw [h1]; rfl
theorem st_a {x : String} {e : EP} {lm : LM} {H H' : Hp} {a : AV} (h : e lm H = some (a, H')) : sAsg x e lm H = some (.next, upd lm x a, H') := by unfold sAsg; rw [h]; rfl
theorem Wp_gOf {ps : List String} {q : SP} {avs : List AV} {H H' : Hp} {a : AV} {lm' : LM} {P : AV × Hp → Prop} (hl : avs.length = ps.length) (h : q (bindA ps avs) H = some (.ret a, lm', H')) (k : P (a, H')) : Wp (gOf ps q avs H) P := by
  unfold gOf; rw [if_pos hl, h]; exact ⟨_, rfl, k⟩
theorem ev_eq {x : String} {lm : LM} {H : Hp} {a n : Int} {c : Bool} (h : lm x = some (.int a)) (hc : decide (a = n) = c) : bO eqF (vV x) (cK (.int n)) lm H = some (.bool c, H) := ev_b (ev_v h) rfl (by rw [← hc]; rfl)
theorem nth_str {xs : List (List Nat)} {k : Int} (h0 : 0 ≤ k) (h1 : k < xs.length) (h2 : k < 1000000) : nthI (xs.map AV.str) k = some (.str (xs.getD k.toNat [])) := by
  refine nthI_at h0 ?_ h2
  have : k.toNat < xs.length := by omega
  rw [List.getElem?_map, List.getElem?_eq_getElem this, List.getD_eq_getElem?_getD, List.getElem?_eq_getElem this]; rfl
theorem getD_len {n : Nat} {xs : List (List Nat)} (h : ∀ x ∈ xs, x.length ≤ n) (i : Nat) : (xs.getD i []).length ≤ n := by
  rw [List.getD_eq_getElem?_getD]
  cases q : xs[i]? with
  | none => exact Nat.zero_le _
  | some y => exact h y (List.mem_of_getElem? q)
noncomputable def marksT (what far : Int) : List Nat := strRep (far % 4).toNat [34, 34] ++ ([[34, 32, 120, 34, 34, 32, 34], [34]] : List (List Nat)).getD (what % 2).toNat []
theorem m4 (x : Int) : (x % 4).toNat ≤ 3 := by
  rcases om4 x with h | h | h | h <;> rw [h] <;> decide
theorem marks_len (what far : Int) : (strRep (far % 4).toNat [34, 34]).length ≤ 6 ∧ (marksT what far).length ≤ 13 := by
  have h1 : (strRep (far % 4).toNat [34, 34]).length ≤ 6 := by rw [strRep_len]; exact Nat.mul_le_mul_right 2 (m4 far)
  refine ⟨h1, ?_⟩
  unfold marksT; rw [List.length_append]
  exact Nat.add_le_add h1 (getD_len (n := 7) (by decide) _)
theorem add_s {a b : List Nat} {H : Hp} {m n : Nat} (h1 : a.length ≤ m) (h2 : b.length ≤ n) (h3 : m + n ≤ 100000) : addF (.str a) (.str b) H = some (.str (a ++ b), H) := if_pos (Nat.le_trans (Nat.add_le_add h1 h2) h3)
theorem ev_far {x : String} {lm : LM} {H : Hp} {f n : Int} (hf : lm x = some (.int f)) (h : 0 < n) : bO modF (vV x) (cK (.int n)) lm H = some (.int (f % n), H) := ev_b (ev_v hf) rfl (if_pos h)
theorem ev_far4 {x : String} {lm : LM} {H : Hp} {f n : Int} (hf : lm x = some (.int f)) (h : 0 < n) : bO modF (bO fdivF (vV x) (cK (.int 4))) (cK (.int n)) lm H = some (.int (f / 4 % n), H) := ev_b (ev_b (ev_v hf) rfl (show fdivF (.int f) (.int 4) H = some (.int (f / 4), H) from (by unfold fdivF; exact if_pos (by decide)))) rfl (if_pos h)
theorem ev_str {es : EPs} (xs : List (List Nat)) {e : EP} {lm : LM} {H : Hp} {a n : Int} (h1 : es lm H = some (xs.map AV.str, H)) (hl : (xs.map AV.str).length ≤ 100) (h2 : ∀ H', e lm H' = some (.int (a % n), H')) (h3 : 0 < n) (h4 : n ≤ xs.length) (h5 : n < 1000000) :
    bO idxF (eList es) e lm H = some (.str (xs.getD (a % n).toNat []), H ++ [.list (xs.map AV.str)]) :=
  ev_x h1 hl (h2 _) (nth_str (md h3).1 (Int.lt_of_lt_of_le (md h3).2 h4) (Int.lt_trans (md h3).2 h5))
theorem ev_int {es : EPs} (xs : List Int) {e : EP} {lm : LM} {H : Hp} {a n : Int} (h1 : es lm H = some (xs.map AV.int, H)) (hl : (xs.map AV.int).length ≤ 100) (h2 : ∀ H', e lm H' = some (.int (a % n), H')) (h3 : 0 < n) (h4 : n ≤ xs.length) (h5 : n < 1000000) :
    bO idxF (eList es) e lm H = some (.int (xs.getD (a % n).toNat 0), H ++ [.list (xs.map AV.int)]) :=
  ev_x h1 hl (h2 _) (nthI_int (md h3).1 (Int.lt_of_lt_of_le (md h3).2 h4) (Int.lt_trans (md h3).2 h5))
theorem rowT_m {what far k : Int} (c4 : ¬ what = 4) (c7 : ¬ what = 7) : rowT what far k = if what = 5 then (([[50, 53, 48, 32, 34], [49, 53, 55, 32, 34], [50, 48, 55, 32, 34]] : List (List Nat)).getD (far / 4 % 3).toNat [] ++ marksT what far, 0)
    else if what = 6 then (([[50, 53, 55, 45, 34], [50, 53, 55, 32, 120]] : List (List Nat)).getD (far / 4 % 2).toNat [] ++ marksT what far, 256 + k)
    else if what < 2 then ([50, 53, 55, 32, 34] ++ marksT what far, if far % 4 ≤ k then 256 + k - far % 4 else 0)
    else ([50, 53, 55, 32, 34, 120] ++ marksT what far, if k + far % 4 < 7 then 256 + k + far % 4 else 0) := by
  unfold rowT; rw [if_neg c4, if_neg c7]; rfl
theorem row_ok (what far k : Int) (h0 : 0 ≤ what) (h8 : what < 8) (hf : 0 ≤ far) (hk : 0 ≤ k) (hk7 : k < 7) :
    Wp (g_row ad [.int what, .int far, .int k] H) fun r => r.1 = .tup [.str (rowT what far k).1, .int (rowT what far k).2] ∧ Le H r.2 := by
  have w1 : bindA ["what", "far", "place"] [.int what, .int far, .int k] "what" = some (.int what) := rfl
  have w2 : bindA ["what", "far", "place"] [.int what, .int far, .int k] "far" = some (.int far) := rfl
  have w3 : bindA ["what", "far", "place"] [.int what, .int far, .int k] "place" = some (.int k) := rfl
  suffices h : ∀ lm : LM, lm "what" = some (.int what) → lm "far" = some (.int far) → lm "place" = some (.int k) → ∃ a b lm' H', rowT what far k = (a, b) ∧ q_row ad lm H = some (.ret (.tup [.str a, .int b]), lm', H') ∧ Le H H' by
    obtain ⟨a, b, lm', H', t, e, l⟩ := h _ w1 w2 w3
    rw [t]
    exact Wp_gOf rfl e ⟨rfl, l⟩
  clear w1 w2 w3
  intro lm w1 w2 w3
  unfold q_row
  by_cases c4 : what = 4
  · subst c4
    exact ⟨_, _, _, _, rfl, st_r (st_yes (ev_eq w1 rfl) (st_ret (ev_t2 (ev_b (ev_str [[60], [60, 60], [60, 60, 61], [45, 62], [61], [61, 61], [46, 46, 46], [58, 61]] rfl (by decide) (fun H' => ev_far w2 (by decide)) (by decide) (by decide) (by decide)) rfl (add_s (n := 2) (getD_len (n := 3) (by decide) _) (by decide) (by decide)))
      (ev_int [20, 33, 44, 51, 22, 27, 52, 53] rfl (by decide) (fun H' => ev_far w2 (by decide)) (by decide) (by decide) (by decide))))), (Le.app _ _).trans (Le.app _ _)⟩
  by_cases c7 : what = 7
  · subst c7
    exact ⟨_, _, _, _, rfl, st_n (st_no (ev_eq w1 rfl)) (st_r (st_yes (ev_eq w1 rfl) (st_ret (ev_t2 rfl rfl)))), Le.refl _⟩
  -- the marks
  have wm : sAsg "marks" (bO addF (bO mulF (cK (.str [34, 34])) (bO modF (vV "far") (cK (.int 4)))) (bO idxF (eList (esC (cK (.str [34, 32, 120, 34, 34, 32, 34])) (esC (cK (.str [34])) esN))) (bO modF (vV "what") (cK (.int 2))))) lm H = some (.next, upd lm "marks" (.str (marksT what far)), H ++ [.list (([[34, 32, 120, 34, 34, 32, 34], [34]] : List (List Nat)).map AV.str)]) :=
    st_a (ev_b (ev_b rfl (ev_far w2 (by decide)) (show mulF (.str [34, 34]) (.int (far % 4)) H = some (.str (strRep (far % 4).toNat [34, 34]), H) from if_pos ⟨(md (by decide)).1, Int.le_trans (Int.le_of_lt (md (by decide)).2) (by decide), by decide⟩))
      (ev_str [[34, 32, 120, 34, 34, 32, 34], [34]] rfl (by decide) (fun H' => ev_far w1 (by decide)) (by decide) (by decide) (by decide)) (add_s (marks_len what far).1 (getD_len (n := 7) (by decide) _) (by decide)))
  have hm := (marks_len what far).2
  have tT := rowT_m (far := far) (k := k) c4 c7
  have v1 : upd lm "marks" (.str (marksT what far)) "what" = some (.int what) := w1
  have v2 : upd lm "marks" (.str (marksT what far)) "far" = some (.int far) := w2
  have v3 : upd lm "marks" (.str (marksT what far)) "place" = some (.int k) := w3
  have v4 : upd lm "marks" (.str (marksT what far)) "marks" = some (.str (marksT what far)) := updEq
  generalize marksT what far = M at wm hm tT v4 v1 v2 v3
  generalize upd lm "marks" (.str M) = lm1 at wm v1 v2 v3 v4
  generalize hH : H ++ [.list (([[34, 32, 120, 34, 34, 32, 34], [34]] : List (List Nat)).map AV.str)] = H1 at wm
  have hLe : Le H H1 := hH ▸ Le.app _ _
  have n4 := decide_eq_false c4
  have n7 := decide_eq_false c7
  clear hH hf h0 h8 c4 c7
  by_cases c5 : what = 5
  · subst c5
    exact ⟨_, _, _, _, tT, st_n (st_no (ev_eq w1 n4)) (st_n (st_no (ev_eq w1 n7)) (st_n wm (st_r (st_yes (ev_eq v1 rfl) (st_ret (ev_t2 (ev_b (ev_str [[50, 53, 48, 32, 34], [49, 53, 55, 32, 34], [50, 48, 55, 32, 34]] rfl (by decide) (fun H' => ev_far4 v2 (by decide)) (by decide) (by decide) (by decide)) (ev_v v4) (add_s (getD_len (n := 5) (by decide) _) hm (by decide))) rfl)))))), hLe.trans (Le.app _ _)⟩
  have n5 := decide_eq_false c5
  rw [if_neg c5] at tT
  by_cases c6 : what = 6
  · subst c6
    exact ⟨_, _, _, _, tT, st_n (st_no (ev_eq w1 n4)) (st_n (st_no (ev_eq w1 n7)) (st_n wm (st_n (st_no (ev_eq v1 n5)) (st_r (st_yes (ev_eq v1 rfl) (st_ret (ev_t2 (ev_b (ev_str [[50, 53, 55, 45, 34], [50, 53, 55, 32, 120]] rfl (by decide) (fun H' => ev_far4 v2 (by decide)) (by decide) (by decide) (by decide)) (ev_v v4) (add_s (getD_len (n := 5) (by decide) _) hm (by decide))) (ev_b rfl (ev_v v3) rfl)))))))), hLe.trans (Le.app _ _)⟩
  rw [if_neg c6] at tT
  refine bc fun hng => ?_
  by_cases c2 : what < 2
  · rw [if_pos c2] at tT
    refine hng ⟨_, _, _, _, tT, st_n (st_no (ev_eq w1 n4)) (st_n (st_no (ev_eq w1 n7)) (st_n wm (st_n (st_no (ev_eq v1 n5)) (st_n (st_no (ev_eq v1 (decide_eq_false c6))) (st_r (st_yes (ev_b (ev_v v1) rfl (show ltF (.int what) (.int 2) H1 = some (.bool true, H1) by unfold ltF; dsimp only; rw [decide_eq_true c2])) (st_ret (ev_t2 (ev_b rfl (ev_v v4) (add_s (m := 5) (by decide) hm (by decide))) (ev_if (ev_b (ev_far v2 (by decide)) (ev_v v3) rfl) ?_))))))))), hLe⟩
    by_cases c : far % 4 ≤ k
    · rw [if_pos c, decide_eq_true c]
      exact ev_b (ev_b rfl (ev_v v3) rfl) (ev_far v2 (by decide)) rfl
    · rw [if_neg c, decide_eq_false c]; rfl
  · rw [if_neg c2] at tT
    refine hng ⟨_, _, _, _, tT, st_n (st_no (ev_eq w1 n4)) (st_n (st_no (ev_eq w1 n7)) (st_n wm (st_n (st_no (ev_eq v1 n5)) (st_n (st_no (ev_eq v1 (decide_eq_false c6))) (st_n (st_no (ev_b (ev_v v1) rfl (show ltF (.int what) (.int 2) H1 = some (.bool false, H1) by unfold ltF; dsimp only; rw [decide_eq_false c2]))) (st_ret (ev_t2 (ev_b rfl (ev_v v4) (add_s (m := 6) (by decide) hm (by decide))) (ev_if (ev_b (ev_b (ev_v v3) (ev_far v2 (by decide)) rfl) rfl rfl) ?_)))))))), hLe⟩
    by_cases c : k + far % 4 < 7
    · rw [if_pos c, decide_eq_true c]
      exact ev_b (ev_b rfl (ev_v v3) rfl) (ev_far v2 (by decide)) rfl
    · rw [if_neg c, decide_eq_false c]; rfl
end Mine
end
section
set_option maxRecDepth 20000
namespace Mine
variable (ad : AD) (H : Hp)
theorem rowT_4 {what far k : Int} (h : what < 4) (h0 : 0 ≤ what) : rowT what far k = rowT what (far % 4) k := by
  have e : far % 4 % 4 = far % 4 := Int.emod_emod_of_dvd far (Int.dvd_refl 4)
  have a : ¬ what = 4 := by omega
  have b : ¬ what = 5 := by omega
  have c : ¬ what = 6 := by omega
  have d : ¬ what = 7 := by omega
  simp only [rowT, e, if_neg a, if_neg b, if_neg c, if_neg d]
theorem rowT_8 {far k : Int} : rowT 4 far k = rowT 4 (far % 8) k := by
  have e : far % 8 % 8 = far % 8 := Int.emod_emod_of_dvd far (Int.dvd_refl 8)
  simp only [rowT, e, if_true]
theorem rowT_12 {far k : Int} : rowT 5 far k = rowT 5 (far % 12) k := by
  have e : far % 12 % 4 = far % 4 := Int.emod_emod_of_dvd far (by decide)
  have e2 : far % 12 / 4 % 3 = far / 4 % 3 := by omega
  have a : ¬ (5 : Int) = 4 := by decide
  have d : ¬ (5 : Int) = 7 := by decide
  simp only [rowT, e, e2, if_true, if_neg a, if_neg d]
theorem rowT_6 {far k : Int} : rowT 6 far k = rowT 6 (far % 8) k := by
  have e : far % 8 % 4 = far % 4 := Int.emod_emod_of_dvd far (by decide)
  have e2 : far % 8 / 4 % 2 = far / 4 % 2 := by omega
  have a : ¬ (6 : Int) = 4 := by decide
  have d : ¬ (6 : Int) = 7 := by decide
  have f : ¬ (6 : Int) = 5 := by decide
  simp only [rowT, e, e2, if_true, if_neg a, if_neg d, if_neg f]
noncomputable def HeldOk (ad : AD) (H : Hp) (what far k : Int) : Prop := g_held ad [.str (rowT what far k).1, .int k] H = some (.int (rowT what far k).2, H)
theorem c4 {P : Int → Prop} (h0 : P 0) (h1 : P 1) (h2 : P 2) (h3 : P 3) (far : Int) : P (far % 4) := by
  have : far % 4 = 0 ∨ far % 4 = 1 ∨ far % 4 = 2 ∨ far % 4 = 3 := om4 far
  rcases this with e | e | e | e <;> rw [e] <;> assumption
theorem c8 {P : Int → Prop} (h0 : P 0) (h1 : P 1) (h2 : P 2) (h3 : P 3) (h4 : P 4) (h5 : P 5) (h6 : P 6) (h7 : P 7) (far : Int) : P (far % 8) := by
  have : far % 8 = 0 ∨ far % 8 = 1 ∨ far % 8 = 2 ∨ far % 8 = 3 ∨ far % 8 = 4 ∨ far % 8 = 5 ∨ far % 8 = 6 ∨ far % 8 = 7 := om8 far
  rcases this with e | e | e | e | e | e | e | e <;> rw [e] <;> assumption
theorem c12 {P : Int → Prop} (h0 : P 0) (h1 : P 1) (h2 : P 2) (h3 : P 3) (h4 : P 4) (h5 : P 5) (h6 : P 6) (h7 : P 7) (h8 : P 8) (h9 : P 9) (h10 : P 10) (h11 : P 11) (far : Int) : P (far % 12) := by
  have : far % 12 = 0 ∨ far % 12 = 1 ∨ far % 12 = 2 ∨ far % 12 = 3 ∨ far % 12 = 4 ∨ far % 12 = 5 ∨ far % 12 = 6 ∨ far % 12 = 7 ∨ far % 12 = 8 ∨ far % 12 = 9 ∨ far % 12 = 10 ∨ far % 12 = 11 := om12 far
  rcases this with e | e | e | e | e | e | e | e | e | e | e | e <;> rw [e] <;> assumption
theorem k7 {P : Int → Prop} (h0 : P 0) (h1 : P 1) (h2 : P 2) (h3 : P 3) (h4 : P 4) (h5 : P 5) (h6 : P 6) {k : Int} (l : 0 ≤ k) (u : k < 7) : P k := by
  have : k = 0 ∨ k = 1 ∨ k = 2 ∨ k = 3 ∨ k = 4 ∨ k = 5 ∨ k = 6 := or7 l u
  rcases this with e | e | e | e | e | e | e <;> rw [e] <;> assumption
theorem held_x {what far far' k : Int} (e : rowT what far k = rowT what far' k) (h : HeldOk ad H what far' k) : HeldOk ad H what far k := by
  unfold HeldOk at *; rw [e]; exact h
theorem held_0_0 {k : Int} (l : 0 ≤ k) (u : k < 7) : HeldOk ad H 0 0 k := k7 (P := HeldOk ad H 0 0) rfl rfl rfl rfl rfl rfl rfl l u
theorem held_0_1 {k : Int} (l : 0 ≤ k) (u : k < 7) : HeldOk ad H 0 1 k := k7 (P := HeldOk ad H 0 1) rfl rfl rfl rfl rfl rfl rfl l u
theorem held_0_2 {k : Int} (l : 0 ≤ k) (u : k < 7) : HeldOk ad H 0 2 k := k7 (P := HeldOk ad H 0 2) rfl rfl rfl rfl rfl rfl rfl l u
theorem held_0_3 {k : Int} (l : 0 ≤ k) (u : k < 7) : HeldOk ad H 0 3 k := k7 (P := HeldOk ad H 0 3) rfl rfl rfl rfl rfl rfl rfl l u
theorem held_1_0 {k : Int} (l : 0 ≤ k) (u : k < 7) : HeldOk ad H 1 0 k := k7 (P := HeldOk ad H 1 0) rfl rfl rfl rfl rfl rfl rfl l u
theorem held_1_1 {k : Int} (l : 0 ≤ k) (u : k < 7) : HeldOk ad H 1 1 k := k7 (P := HeldOk ad H 1 1) rfl rfl rfl rfl rfl rfl rfl l u
theorem held_1_2 {k : Int} (l : 0 ≤ k) (u : k < 7) : HeldOk ad H 1 2 k := k7 (P := HeldOk ad H 1 2) rfl rfl rfl rfl rfl rfl rfl l u
theorem held_1_3 {k : Int} (l : 0 ≤ k) (u : k < 7) : HeldOk ad H 1 3 k := k7 (P := HeldOk ad H 1 3) rfl rfl rfl rfl rfl rfl rfl l u
theorem held_2_0 {k : Int} (l : 0 ≤ k) (u : k < 7) : HeldOk ad H 2 0 k := k7 (P := HeldOk ad H 2 0) rfl rfl rfl rfl rfl rfl rfl l u
theorem held_2_1 {k : Int} (l : 0 ≤ k) (u : k < 7) : HeldOk ad H 2 1 k := k7 (P := HeldOk ad H 2 1) rfl rfl rfl rfl rfl rfl rfl l u
theorem held_2_2 {k : Int} (l : 0 ≤ k) (u : k < 7) : HeldOk ad H 2 2 k := k7 (P := HeldOk ad H 2 2) rfl rfl rfl rfl rfl rfl rfl l u
theorem held_2_3 {k : Int} (l : 0 ≤ k) (u : k < 7) : HeldOk ad H 2 3 k := k7 (P := HeldOk ad H 2 3) rfl rfl rfl rfl rfl rfl rfl l u
theorem held_3_0 {k : Int} (l : 0 ≤ k) (u : k < 7) : HeldOk ad H 3 0 k := k7 (P := HeldOk ad H 3 0) rfl rfl rfl rfl rfl rfl rfl l u
theorem held_3_1 {k : Int} (l : 0 ≤ k) (u : k < 7) : HeldOk ad H 3 1 k := k7 (P := HeldOk ad H 3 1) rfl rfl rfl rfl rfl rfl rfl l u
theorem held_3_2 {k : Int} (l : 0 ≤ k) (u : k < 7) : HeldOk ad H 3 2 k := k7 (P := HeldOk ad H 3 2) rfl rfl rfl rfl rfl rfl rfl l u
theorem held_3_3 {k : Int} (l : 0 ≤ k) (u : k < 7) : HeldOk ad H 3 3 k := k7 (P := HeldOk ad H 3 3) rfl rfl rfl rfl rfl rfl rfl l u
theorem held_4_0 {k : Int} : HeldOk ad H 4 0 k := rfl
theorem held_4_1 {k : Int} : HeldOk ad H 4 1 k := rfl
theorem held_4_2 {k : Int} : HeldOk ad H 4 2 k := rfl
theorem held_4_3 {k : Int} : HeldOk ad H 4 3 k := rfl
theorem held_4_4 {k : Int} : HeldOk ad H 4 4 k := rfl
theorem held_4_5 {k : Int} : HeldOk ad H 4 5 k := rfl
theorem held_4_6 {k : Int} : HeldOk ad H 4 6 k := rfl
theorem held_4_7 {k : Int} : HeldOk ad H 4 7 k := rfl
theorem held_5_0 {k : Int} : HeldOk ad H 5 0 k := rfl
theorem held_5_1 {k : Int} : HeldOk ad H 5 1 k := rfl
theorem held_5_2 {k : Int} : HeldOk ad H 5 2 k := rfl
theorem held_5_3 {k : Int} : HeldOk ad H 5 3 k := rfl
theorem held_5_4 {k : Int} : HeldOk ad H 5 4 k := rfl
theorem held_5_5 {k : Int} : HeldOk ad H 5 5 k := rfl
theorem held_5_6 {k : Int} : HeldOk ad H 5 6 k := rfl
theorem held_5_7 {k : Int} : HeldOk ad H 5 7 k := rfl
theorem held_5_8 {k : Int} : HeldOk ad H 5 8 k := rfl
theorem held_5_9 {k : Int} : HeldOk ad H 5 9 k := rfl
theorem held_5_10 {k : Int} : HeldOk ad H 5 10 k := rfl
theorem held_5_11 {k : Int} : HeldOk ad H 5 11 k := rfl
theorem held_6_0 {k : Int} (l : 0 ≤ k) (u : k < 7) : HeldOk ad H 6 0 k := k7 (P := HeldOk ad H 6 0) rfl rfl rfl rfl rfl rfl rfl l u
theorem held_6_1 {k : Int} (l : 0 ≤ k) (u : k < 7) : HeldOk ad H 6 1 k := k7 (P := HeldOk ad H 6 1) rfl rfl rfl rfl rfl rfl rfl l u
theorem held_6_2 {k : Int} (l : 0 ≤ k) (u : k < 7) : HeldOk ad H 6 2 k := k7 (P := HeldOk ad H 6 2) rfl rfl rfl rfl rfl rfl rfl l u
theorem held_6_3 {k : Int} (l : 0 ≤ k) (u : k < 7) : HeldOk ad H 6 3 k := k7 (P := HeldOk ad H 6 3) rfl rfl rfl rfl rfl rfl rfl l u
theorem held_6_4 {k : Int} (l : 0 ≤ k) (u : k < 7) : HeldOk ad H 6 4 k := k7 (P := HeldOk ad H 6 4) rfl rfl rfl rfl rfl rfl rfl l u
theorem held_6_5 {k : Int} (l : 0 ≤ k) (u : k < 7) : HeldOk ad H 6 5 k := k7 (P := HeldOk ad H 6 5) rfl rfl rfl rfl rfl rfl rfl l u
theorem held_6_6 {k : Int} (l : 0 ≤ k) (u : k < 7) : HeldOk ad H 6 6 k := k7 (P := HeldOk ad H 6 6) rfl rfl rfl rfl rfl rfl rfl l u
theorem held_6_7 {k : Int} (l : 0 ≤ k) (u : k < 7) : HeldOk ad H 6 7 k := k7 (P := HeldOk ad H 6 7) rfl rfl rfl rfl rfl rfl rfl l u
theorem held_7 {f k : Int} : HeldOk ad H 7 f k := rfl
theorem held_ok {what far k : Int} (h0 : 0 ≤ what) (h8 : what < 8) (l : 0 ≤ k) (u : k < 7) : g_held ad [.str (rowT what far k).1, .int k] H = some (.int (rowT what far k).2, H) := by
  show HeldOk ad H what far k
  have hw : what = 0 ∨ what = 1 ∨ what = 2 ∨ what = 3 ∨ what = 4 ∨ what = 5 ∨ what = 6 ∨ what = 7 := or8 h0 h8
  rcases hw with rfl | rfl | rfl | rfl | rfl | rfl | rfl | rfl
  · exact held_x ad H (rowT_4 (by omega) (by omega)) (c4 (P := fun f => HeldOk ad H 0 f k) (held_0_0 ad H l u) (held_0_1 ad H l u) (held_0_2 ad H l u) (held_0_3 ad H l u) far)
  · exact held_x ad H (rowT_4 (by omega) (by omega)) (c4 (P := fun f => HeldOk ad H 1 f k) (held_1_0 ad H l u) (held_1_1 ad H l u) (held_1_2 ad H l u) (held_1_3 ad H l u) far)
  · exact held_x ad H (rowT_4 (by omega) (by omega)) (c4 (P := fun f => HeldOk ad H 2 f k) (held_2_0 ad H l u) (held_2_1 ad H l u) (held_2_2 ad H l u) (held_2_3 ad H l u) far)
  · exact held_x ad H (rowT_4 (by omega) (by omega)) (c4 (P := fun f => HeldOk ad H 3 f k) (held_3_0 ad H l u) (held_3_1 ad H l u) (held_3_2 ad H l u) (held_3_3 ad H l u) far)
  · exact held_x ad H rowT_8 (c8 (P := fun f => HeldOk ad H 4 f k) (held_4_0 ad H) (held_4_1 ad H) (held_4_2 ad H) (held_4_3 ad H) (held_4_4 ad H) (held_4_5 ad H) (held_4_6 ad H) (held_4_7 ad H) far)
  · exact held_x ad H rowT_12 (c12 (P := fun f => HeldOk ad H 5 f k) (held_5_0 ad H) (held_5_1 ad H) (held_5_2 ad H) (held_5_3 ad H) (held_5_4 ad H) (held_5_5 ad H) (held_5_6 ad H) (held_5_7 ad H) (held_5_8 ad H) (held_5_9 ad H) (held_5_10 ad H) (held_5_11 ad H) far)
  · exact held_x ad H rowT_6 (c8 (P := fun f => HeldOk ad H 6 f k) (held_6_0 ad H l u) (held_6_1 ad H l u) (held_6_2 ad H l u) (held_6_3 ad H l u) (held_6_4 ad H l u) (held_6_5 ad H l u) (held_6_6 ad H l u) (held_6_7 ad H l u) far)
  · exact held_7 ad H
end Mine
end
section
set_option maxRecDepth 20000
namespace Mine
variable (ad : AD) (H : Hp)
/-- a row's blanks, read -/
structure WS where
  count : List Int
  b : Int
  n : Int
  nt : Int
noncomputable def wsStep (s : WS) (c : Nat) : WS :=
  if c = 32 then { s with b := s.b + 1, n := s.n + 1 }
  else
    let count := if (s.count.length : Int) ≤ s.b then s.count ++ List.replicate (s.b - s.count.length + 1).toNat 0 else s.count
    { count := count.set s.b.toNat (count.getD s.b.toNat 0 + 1), b := 0, n := s.n + 1, nt := s.nt + 1 }
noncomputable def wsF (way : List Nat) : WS := way.foldl wsStep ⟨[], 0, 0, 0⟩
noncomputable def wsA (raw : List Nat) (s : WS) : List (String × AV) :=
  [("raw", .str raw), ("n", .int s.n), ("nt", .int s.nt), ("norm", .tup [.tup (s.count.map .int), .int s.b]), ("is_simple", .bool (decide ((s.count.length : Int) ≤ 1)))]
structure WInv (ad : AD) (H : Hp) (raw : List Nat) (s : WS) (lm : LM) (h : Hp) : Prop where
  self : lm "self" = some (.ref (H.length + 1))
  S : lm "S" = some (.str [32])
  T : lm "T" = some (.str [9])
  b : lm "b" = some (.int s.b)
  n : lm "n" = some (.int s.n)
  nt : lm "nt" = some (.int s.nt)
  count : ∃ c, lm "count" = some (.ref c) ∧ H.length + 2 ≤ c ∧ h[c]? = some (.list (s.count.map .int))
  le : Le H h
  dict : h[H.length]? = some (.attrs [("raw", .str raw)])
  inst : h[H.length + 1]? = some (.inst ad.ws H.length)
noncomputable def wsBody : SP := (sSeq (sIf (tCmp eqF (vV "ch") (vV "S"))
  (sSeq (sAsg "n" (bO addF (vV "n") (cK (.int 1))))
 (sSeq (sAsg "b" (bO addF (vV "b") (cK (.int 1))))
 sNil))
  (sSeq (sIf (tCmp eqF (vV "ch") (vV "T"))
  (sSeq (sAsg "n" (bO addF (vV "n") (cK (.int 1))))
 (sSeq (sAsg "nt" (bO addF (vV "nt") (cK (.int 1))))
 (sSeq (sIf (tCmp geF (vV "b") (cG lenG (esC (vV "count") esN)))
  (sSeq (sAsg "count" (bO addF (vV "count") (bO mulF (eList (esC (cK (.int 0)) esN)) (bO addF (bO subF (vV "b") (cG lenG (esC (vV "count") esN))) (cK (.int 1))))))
 sNil)
  sNil)
 (sSeq (sSetI (vV "count") (vV "b") (bO addF (bO idxF (vV "count") (vV "b")) (cK (.int 1))))
 (sSeq (sAsg "b" (cK (.int 0)))
 sNil)))))
  (sSeq sBrk
 sNil))
 sNil))
 sNil)
theorem ws_space {raw : List Nat} {s : WS} {lm : LM} {h : Hp} (I : WInv ad H raw s lm h) : Wp (wsBody (upd lm "ch" (.str [32])) h) fun r => r.1 = .next ∧ WInv ad H raw (wsStep s 32) r.2.1 r.2.2 := by
  obtain ⟨hself, hS, hT, hb, hn, hnt, ⟨c, hc, hcl, hcx⟩, hle, hd, hi⟩ := I
  unfold wsBody
  simp only [sSeq, sNil, sAsg, sIf, sBrk, sSetI, cG, esC, esN, vV, cK, bO, eList, tCmp, Option.bind_some, Option.map_some, Wp_some, updNe, updEq, ne_eq, String.reduceEq, not_false_eq_true, if_true, if_false, List.length_cons, List.length_nil, Nat.reduceEqDiff, Nat.reduceLeDiff, Nat.zero_add, decide_true, decide_false, Bool.false_eq_true, Int.reduceNeg, and_true, true_and, addF, subF, mulF, geF, eqF, idxF, lenG, setI, List.cons.injEq, *]
  refine ⟨?_, ?_, ?_, ?_, ?_, ?_, ⟨c, ?_, hcl, hcx⟩, hle, hd, hi⟩ <;> (try simp only [wsStep, if_true]) <;> (try simp only [updNe, updEq, ne_eq, String.reduceEq, not_false_eq_true, *])
theorem ws_end {raw : List Nat} {s : WS} {lm : LM} {h : Hp} {ch : Nat} (h1 : ch ≠ 32) (h2 : ch ≠ 9) (I : WInv ad H raw s lm h) : Wp (wsBody (upd lm "ch" (.str [ch])) h) fun r => r.1 = .brk ∧ WInv ad H raw s r.2.1 r.2.2 := by
  obtain ⟨hself, hS, hT, hb, hn, hnt, ⟨c, hc, hcl, hcx⟩, hle, hd, hi⟩ := I
  unfold wsBody
  simp only [sSeq, sNil, sAsg, sIf, sBrk, sSetI, cG, esC, esN, vV, cK, bO, eList, tCmp, Option.bind_some, Option.map_some, Wp_some, updNe, updEq, ne_eq, String.reduceEq, not_false_eq_true, if_true, if_false, List.length_cons, List.length_nil, Nat.reduceLeDiff, Nat.zero_add, decide_false, Bool.false_eq_true, Int.reduceNeg, and_true, true_and, addF, subF, mulF, geF, eqF, idxF, lenG, setI, List.cons.injEq, *]
  refine ⟨?_, ?_, ?_, ?_, ?_, ?_, ⟨c, ?_, hcl, hcx⟩, hle, hd, hi⟩ <;> first | assumption | (simp only [sSeq, sNil, sRet, sAsg, sIf, sExp, sBrk, sSwp, sTup, sAsg3, sSetI, cG, esC, esN, vV, cK, bO, eTup, eList, eIf, eNeg, eAnd, eDict, tCmp, asB, tAnd, tOr, tNot, tK, tChain, eSlS, eSlL, pN, pS, mG, sFor, sSetA, eAttr, forL, Option.bind_some, Option.map_some, Option.bind_none, Option.map_none, Wp_bind, Wp_map, Wp_some, Wp_none, updNe, updEq, updN, ne_eq, String.reduceEq, not_false_eq_true, not_true_eq_false, if_true, if_false, ite_true, ite_false, bindA, gOf, List.length_cons, List.length_nil, Nat.reduceAdd, Nat.reduceEqDiff, Nat.reduceLeDiff, reduceIte, Nat.zero_add, decide_true, decide_false, decide_eq_true_eq, reduceCtorEq, Bool.false_eq_true, Bool.not_true, Bool.not_false, Int.reduceEq, Int.reduceLT, Int.reduceLE, Int.reduceAdd, Int.reduceSub, Int.reduceMul, Int.reduceMod, Int.reduceDiv, Int.reduceNeg, Int.reduceToNat, Int.reduceNe, Nat.reduceLT, Nat.reduceSub, Nat.reduceMul, Nat.reduceBEq, and_true, true_and, and_false, false_and, not_true, not_false, Wp_ite_none, List.set_set, getA_new, putA, lookA, A_lt, AL_lt, A0, A1, A2, A3, A4, AL0, AL1, AL2, AL3, AL4, S_lt, S0, S1, S2, S3, List.append_assoc, List.length_append, List.length_map, List.length_set, List.length_replicate, get_new, getL_new, nth0, nth1, nth2, nth3, nth4, nth5, nth6, nth7, addF, subF, mulF, modF, fdivF, powF, ltF, leF, gtF, geF, eqF, neU, neS, isF, isNotF, idxF, lenG, maxG, minG, rngG, tupG, appG, popG, extG, setI, itemsOf, List.reverse_cons, List.reverse_nil, List.nil_append, List.cons_append, List.map_cons, List.map_nil, List.cons.injEq, *])
theorem ws_tab {raw : List Nat} {s : WS} {lm : LM} {h : Hp} (I : WInv ad H raw s lm h) (b0 : 0 ≤ s.b) (b9 : s.b ≤ 90) (cl : s.count.length ≤ 90) : Wp (wsBody (upd lm "ch" (.str [9])) h) fun r => r.1 = .next ∧ WInv ad H raw (wsStep s 9) r.2.1 r.2.2 := by
  obtain ⟨hself, hS, hT, hb, hn, hnt, ⟨c, hc, hcl, hcx⟩, hle, hd, hi⟩ := I
  have hcg := getL_of hcx
  have hclt := getL_lt hcg
  unfold wsBody
  by_cases hlen : (s.count.length : Int) ≤ s.b
  · simp only [sSeq, sNil, sAsg, sIf, sBrk, sSetI, cG, esC, esN, vV, cK, bO, eList, tCmp, Option.bind_some, Option.map_some, Wp_bind, Wp_map, Wp_some, updNe, updEq, ne_eq, String.reduceEq, not_false_eq_true, if_true, if_false, List.length_cons, List.length_nil, Nat.reduceAdd, Nat.reduceEqDiff, Nat.reduceLeDiff, Nat.zero_add, decide_true, decide_false, Bool.false_eq_true, Int.reduceNeg, and_true, true_and, Wp_ite_none, AL_lt, A2, AL0, AL1, List.append_assoc, List.length_append, List.length_map, addF, subF, mulF, geF, eqF, idxF, lenG, setI, List.nil_append, List.cons_append, List.cons.injEq, *]
    have hl1 := (List.getElem?_eq_some_iff.mp hd).1
    have hl2 := (List.getElem?_eq_some_iff.mp hi).1
    rw [lstRep_int, ← List.map_append, nthI_int b0 (by rw [List.length_append, List.length_replicate]; omega) (by omega)]
    refine ⟨by omega, by omega, by omega, by rw [List.length_map, List.length_replicate]; omega, ?_⟩
    simp only [Wp_some, Wp_ite_none, A2, S2, List.length_append, List.length_map, List.length_replicate]
    refine ⟨⟨by omega, by omega⟩, ?_⟩
    have e : wsStep s 9 = ⟨(s.count ++ List.replicate (s.b - s.count.length + 1).toNat 0).set s.b.toNat ((s.count ++ List.replicate (s.b - s.count.length + 1).toNat 0).getD s.b.toNat 0 + 1), 0, s.n + 1, s.nt + 1⟩ := by
      simp only [wsStep, if_pos hlen]; rfl
    refine ⟨?_, ?_, ?_, ?_, ?_, ?_, ⟨h.length + 2, ?_, by omega, ?_⟩, hle.trans (Le.app _ _), A_lt hl1 ▸ hd, A_lt hl2 ▸ hi⟩ <;> (try rw [e]) <;> (try simp only [updNe, updEq, ne_eq, String.reduceEq, not_false_eq_true, A2, *])
    rw [List.map_set, List.map_append]
  · simp only [sSeq, sNil, sAsg, sIf, sBrk, sSetI, cG, esC, esN, vV, cK, bO, eList, tCmp, Option.bind_some, Option.map_some, Wp_bind, Wp_map, Wp_some, updNe, updEq, ne_eq, String.reduceEq, not_false_eq_true, if_true, if_false, List.length_cons, List.length_nil, Nat.reduceEqDiff, Nat.reduceLeDiff, Nat.zero_add, decide_true, decide_false, Bool.false_eq_true, Int.reduceNeg, and_true, true_and, Wp_ite_none, AL_lt, List.length_map, addF, subF, mulF, geF, eqF, idxF, lenG, setI, List.cons.injEq, *]
    rw [nthI_int b0 (by omega) (by omega)]
    refine ⟨by omega, ?_⟩
    simp only [Wp_some, Wp_ite_none, List.length_map, *]
    refine ⟨⟨by omega, by omega⟩, ?_⟩
    have e : wsStep s 9 = ⟨s.count.set s.b.toNat (s.count.getD s.b.toNat 0 + 1), 0, s.n + 1, s.nt + 1⟩ := by
      simp only [wsStep, if_neg hlen]; rfl
    refine ⟨?_, ?_, ?_, ?_, ?_, ?_, ⟨c, ?_, hcl, ?_⟩, hle.set (by omega), ?_, ?_⟩ <;> (try rw [e]) <;> (try simp only [updNe, updEq, ne_eq, String.reduceEq, not_false_eq_true, *])
    · rw [List.getElem?_set_self hclt, List.map_set]
    · rw [List.getElem?_set_ne (by omega)]; exact hd
    · rw [List.getElem?_set_ne (by omega)]; exact hi
theorem wsStep_b {s : WS} {c : Nat} (h : 0 ≤ s.b) (m : Nat) (hb : s.b ≤ m) (hc : s.count.length ≤ m) : 0 ≤ (wsStep s c).b ∧ (wsStep s c).b ≤ (m + 1 : Nat) ∧ (wsStep s c).count.length ≤ m + 1 := by
  unfold wsStep
  split
  · simp only; omega
  · simp only
    refine ⟨by omega, by omega, ?_⟩
    rw [List.length_set]
    split
    · rw [List.length_append, List.length_replicate]; omega
    · omega
theorem ws_loop {raw rest : List Nat} {ch : Nat} (h1 : ch ≠ 32) (h2 : ch ≠ 9) : ∀ (way : List Nat) (s : WS) (lm : LM) (h : Hp) (m : Nat), (∀ c ∈ way, c = 32 ∨ c = 9) → 0 ≤ s.b → s.b ≤ m → s.count.length ≤ m → m + way.length ≤ 90 → WInv ad H raw s lm h →
    Wp (forL wsBody "ch" ((way ++ ch :: rest).map fun c => .str [c]) lm h) fun r => r.1 = .next ∧ WInv ad H raw (way.foldl wsStep s) r.2.1 r.2.2
  | [], s, lm, h, m, hw, b0, bm, cm, hm, I => by
    rw [List.nil_append, List.map_cons]
    unfold forL
    rw [Wp_bind]
    refine (ws_end ad H h1 h2 I).mono fun r hr => ?_
    obtain ⟨fl, lm', h'⟩ := r
    obtain ⟨e, I'⟩ := hr
    simp only at e
    subst e
    exact Wp_some.mpr ⟨rfl, I'⟩
  | c :: way, s, lm, h, m, hw, b0, bm, cm, hm, I => by
    rw [List.cons_append, List.map_cons]
    unfold forL
    rw [Wp_bind]
    obtain ⟨k1, k2, k3⟩ := wsStep_b (c := c) b0 m bm cm
    have hl : (c :: way).length = way.length + 1 := rfl
    have step : Wp (wsBody (upd lm "ch" (.str [c])) h) fun r => r.1 = .next ∧ WInv ad H raw (wsStep s c) r.2.1 r.2.2 := by
      rcases hw c (.head _) with rfl | rfl
      · exact ws_space ad H I
      · exact ws_tab ad H I b0 (by omega) (by omega)
    refine step.mono fun r hr => ?_
    obtain ⟨fl, lm', h'⟩ := r
    obtain ⟨e, I'⟩ := hr
    simp only at e
    subst e
    exact ws_loop h1 h2 way (wsStep s c) lm' h' (m + 1) (fun x hx => hw x (.tail _ hx)) k1 k2 k3 (by omega) I'
theorem ws_ok {way rest : List Nat} {ch : Nat} (h1 : ch ≠ 32) (h2 : ch ≠ 9) (hw : ∀ c ∈ way, c = 32 ∨ c = 9) (hl : way.length ≤ 80) :
    Wp (g_ws ad [.str (way ++ ch :: rest)] H) fun r => r.1 = .ref (H.length + 1) ∧ Le H r.2 ∧ getA ad.ws r.2 (H.length + 1) = some (H.length, wsA (way ++ ch :: rest) (wsF way)) := by
  unfold g_ws mkG q_ws
  rw [show (sSeq (sIf (tCmp eqF (vV "ch") (vV "S"))
  (sSeq (sAsg "n" (bO addF (vV "n") (cK (.int 1))))
 (sSeq (sAsg "b" (bO addF (vV "b") (cK (.int 1))))
 sNil))
  (sSeq (sIf (tCmp eqF (vV "ch") (vV "T"))
  (sSeq (sAsg "n" (bO addF (vV "n") (cK (.int 1))))
 (sSeq (sAsg "nt" (bO addF (vV "nt") (cK (.int 1))))
 (sSeq (sIf (tCmp geF (vV "b") (cG lenG (esC (vV "count") esN)))
  (sSeq (sAsg "count" (bO addF (vV "count") (bO mulF (eList (esC (cK (.int 0)) esN)) (bO addF (bO subF (vV "b") (cG lenG (esC (vV "count") esN))) (cK (.int 1))))))
 sNil)
  sNil)
 (sSeq (sSetI (vV "count") (vV "b") (bO addF (bO idxF (vV "count") (vV "b")) (cK (.int 1))))
 (sSeq (sAsg "b" (cK (.int 0)))
 sNil)))))
  (sSeq sBrk
 sNil))
 sNil))
 sNil) = wsBody from rfl]
  generalize hB : wsBody = WB
  simp only [sSeq, sNil, sAsg, sSwp, sAsg3, cG, esC, esN, vV, cK, bO, eTup, eList, sFor, sSetA, eAttr, Option.bind_some, Option.map_some, Wp_bind, updNe, updEq, updN, ne_eq, String.reduceEq, not_false_eq_true, if_true, bindA, List.length_cons, List.length_nil, Nat.reduceAdd, Nat.reduceLeDiff, Nat.zero_add, getA_new, putA, lookA, S0, List.append_assoc, List.length_append, leF, lenG, tupG, itemsOf, List.reverse_cons, List.reverse_nil, List.nil_append, List.cons_append]
  rw [← hB]
  refine Wp.mono (ws_loop ad H (raw := way ++ ch :: rest) h1 h2 way ⟨[], 0, 0, 0⟩ _ _ 0 hw (by simp) (by simp) (by simp) (by omega) ?_) fun r hr => ?_
  · refine ⟨?_, ?_, ?_, ?_, ?_, ?_, ⟨H.length + 2, ?_, Nat.le_refl _, A2⟩, Le.app _ _, A0, A1⟩ <;> simp only [updNe, updEq, ne_eq, String.reduceEq, not_false_eq_true]
  obtain ⟨fl, lm, h⟩ := r
  obtain ⟨e, hself, hS, hT, hb, hn, hnt, ⟨c, hc, hcl, hcx⟩, hle, hd, hi⟩ := hr
  simp only at e hself hS hT hb hn hnt hc hcx hle hd hi
  subst e
  have hcg := getL_of hcx
  have hG := getA_of hi hd
  have hGs : ∀ fs, getA ad.ws (List.set h H.length (.attrs fs)) (H.length + 1) = some (H.length, fs) := fun fs => getA_set hi hd
  have hcs : ∀ o, getL (List.set h H.length o) c = some (List.map AV.int (List.foldl wsStep { count := [], b := 0, n := 0, nt := 0 } way).count) := fun o => (getL_set_ne (by omega)).trans hcg
  have b1 : ∀ (c : Nat) (s : WS), s.count.length ≤ 90 → (wsStep s c).count.length ≤ 90 ∨ True := fun _ _ _ => .inr trivial
  have hcl : ∀ (way : List Nat) (s : WS) (m : Nat), 0 ≤ s.b → s.b ≤ m → s.count.length ≤ m → (way.foldl wsStep s).count.length ≤ m + way.length := by
    intro way
    induction way with
    | nil => intro s m _ _ h; exact h
    | cons c way ih =>
      intro s m h1 h2 h3
      obtain ⟨k1, k2, k3⟩ := wsStep_b (c := c) h1 m h2 h3
      have := ih (wsStep s c) (m + 1) k1 k2 k3
      rw [List.length_cons]
      exact Nat.le_trans this (by omega)
  have hcl' := hcl way ⟨[], 0, 0, 0⟩ 0 (by simp) (by simp) (by simp)
  clear hcl b1 hB hS hT hd hi hcg hcx
  simp only [Option.bind_some, Option.map_some, Wp_bind, Wp_some, String.reduceEq, if_true, if_false, List.length_cons, List.length_nil, Nat.reduceAdd, Nat.reduceLeDiff, Nat.zero_add, true_and, Wp_ite_none, List.set_set, putA, List.length_map, *]
  exact ⟨by omega, by omega, hle.set (Nat.le_refl _), rfl⟩
end Mine
end
section
set_option maxRecDepth 20000
namespace Mine
variable {α β : Type} {P : α → Prop} {lm : LM} {H : Hp}
noncomputable def seqK (q : SP) (k : Fl × LM × Hp → Option α) : Fl × LM × Hp → Option α := fun r => match r.1 with
  | .next => (q r.2.1 r.2.2).bind k
  | f => k (f, r.2.1, r.2.2)
theorem seqK_n {q : SP} {k : Fl × LM × Hp → Option α} : seqK q k (.next, lm, H) = (q lm H).bind k := rfl
theorem seqK_r {q : SP} {k : Fl × LM × Hp → Option α} {v : AV} : seqK q k (.ret v, lm, H) = k (.ret v, lm, H) := rfl
noncomputable def bolK (k : Bool × Hp → Option α) : AV × Hp → Option α := fun r => match r.1 with | .bool b => k (b, r.2) | _ => none
theorem bolK_b {k : Bool × Hp → Option α} {b : Bool} : bolK k (.bool b, H) = k (b, H) := rfl
noncomputable def intK (k : Int × Hp → Option α) : AV × Hp → Option α := fun r => match r.1 with | .int b => k (b, r.2) | _ => none
theorem intK_i {k : Int × Hp → Option α} {b : Int} : intK k (.int b, H) = k (b, H) := rfl
noncomputable def refK (k : Nat × Hp → Option α) : AV × Hp → Option α := fun r => match r.1 with | .ref b => k (b, r.2) | _ => none
theorem refK_r {k : Nat × Hp → Option α} {b : Nat} : refK k (.ref b, H) = k (b, H) := rfl
noncomputable def tupK (k : List AV × Hp → Option α) : AV × Hp → Option α := fun r => match r.1 with | .tup b => k (b, r.2) | _ => none
theorem tupK_t {k : List AV × Hp → Option α} {b : List AV} : tupK k (.tup b, H) = k (b, H) := rfl
noncomputable def strK (k : List Nat × Hp → Option α) : AV × Hp → Option α := fun r => match r.1 with | .str b => k (b, r.2) | _ => none
theorem strK_s {k : List Nat × Hp → Option α} {b : List Nat} : strK k (.str b, H) = k (b, H) := rfl
theorem W_some {a : β} {k : β → Option α} : Wp ((some a).bind k) P ↔ Wp (k a) P := Iff.rfl
theorem W_none {k : β → Option α} : Wp ((none : Option β).bind k) P ↔ False := Wp_none
theorem W_assoc {γ : Type} {o : Option γ} {f : γ → Option β} {k : β → Option α} : Wp ((o.bind f).bind k) P ↔ Wp (o.bind fun a => (f a).bind k) P := by rw [Option.bind_assoc]
theorem W_mapb {γ : Type} {o : Option γ} {f : γ → β} {k : β → Option α} : Wp ((o.map f).bind k) P ↔ Wp (o.bind fun a => k (f a)) P := by cases o <;> exact Iff.rfl
theorem W_cg {o : Option β} {F G : β → Option α} (h : ∀ a, F a = G a) : Wp (o.bind F) P ↔ Wp (o.bind G) P := by rw [show F = G from funext h]
theorem W_ite {c : Prop} [Decidable c] {a : Option β} {k : β → Option α} : Wp ((if c then a else none).bind k) P ↔ c ∧ Wp (a.bind k) P := by
  by_cases h : c
  · rw [if_pos h]; exact ⟨fun q => ⟨h, q⟩, fun q => q.2⟩
  · rw [if_neg h, W_none]; exact ⟨False.elim, fun q => h q.1⟩
noncomputable def itemF : AO → Int → Option AV
  | .list xs, k => nthI xs k
  | .dict _ f, k => f k
  | _, _ => none
noncomputable def putF : AO → Int → AV → Option AO
  | .list xs, k, v => if 0 ≤ k ∧ k < xs.length ∧ xs.length ≤ 100000 then some (.list (xs.set k.toNat v)) else none
  | .dict n f, k, v => if n ≤ 100000 then some (.dict (n + 1) fun x => if x = k then some v else f x) else none
  | _, _, _ => none
noncomputable def hasF : AO → Int → Option Bool
  | .list xs, k => (asInts xs).map fun is => decide (k ∈ is)
  | .dict _ f, k => some (f k).isSome
  | _, _ => none
theorem itemF_l {xs : List AV} {k : Int} : itemF (.list xs) k = nthI xs k := rfl
theorem itemF_d {n : Nat} {f : Int → Option AV} {k : Int} : itemF (.dict n f) k = f k := rfl
theorem putF_l {xs : List AV} {k : Int} {v : AV} : putF (.list xs) k v = if 0 ≤ k ∧ k < xs.length ∧ xs.length ≤ 100000 then some (.list (xs.set k.toNat v)) else none := rfl
theorem putF_d {n : Nat} {f : Int → Option AV} {k : Int} {v : AV} : putF (.dict n f) k v = if n ≤ 100000 then some (.dict (n + 1) fun x => if x = k then some v else f x) else none := rfl
theorem hasF_d {n : Nat} {f : Int → Option AV} {k : Int} : hasF (.dict n f) k = some (f k).isSome := rfl
theorem C_cK {v : AV} {k : AV × Hp → Option α} : Wp ((cK v lm H).bind k) P ↔ Wp (k (v, H)) P := Iff.rfl
theorem C_vV {x : String} {k : AV × Hp → Option α} : Wp ((vV x lm H).bind k) P ↔ Wp ((lm x).bind fun v => k (v, H)) P := by unfold vV; exact W_mapb
theorem C_bO {f : F2} {a b : EP} {k : AV × Hp → Option α} : Wp ((bO f a b lm H).bind k) P ↔ Wp ((a lm H).bind fun r => (b lm r.2).bind fun q => (f r.1 q.1 q.2).bind k) P := by simp only [bO, Option.bind_assoc]
theorem C_eIf {t : TP} {a b : EP} {k : AV × Hp → Option α} : Wp ((eIf t a b lm H).bind k) P ↔ Wp ((t lm H).bind fun r => if r.1 = true then (a lm r.2).bind k else (b lm r.2).bind k) P := by simp only [eIf, Option.bind_assoc, apply_ite (Option.bind · k)]
theorem C_eNeg {a : EP} {k : AV × Hp → Option α} : Wp ((eNeg a lm H).bind k) P ↔ Wp ((a lm H).bind (intK fun r => k (.int (-r.1), r.2))) P := by
  simp only [eNeg, Option.bind_assoc]
  refine W_cg fun y => ?_
  obtain ⟨v, h⟩ := y; cases v <;> rfl
theorem C_eList {ps : EPs} {k : AV × Hp → Option α} : Wp ((eList ps lm H).bind k) P ↔ Wp ((ps lm H).bind fun r => (if r.1.length ≤ 100 then some (AV.ref r.2.length, r.2 ++ [.list r.1]) else none).bind k) P := by simp only [eList, Option.bind_assoc]
theorem C_eTup {ps : EPs} {k : AV × Hp → Option α} : Wp ((eTup ps lm H).bind k) P ↔ Wp ((ps lm H).bind fun r => (if r.1.length ≤ 100 then some (AV.tup r.1, r.2) else none).bind k) P := by simp only [eTup, Option.bind_assoc]
theorem C_eDict  {k : AV × Hp → Option α} : Wp ((eDict lm H).bind k) P ↔ Wp (k (.ref H.length, H ++ [.dict 0 fun _ => none])) P := Iff.rfl
theorem C_cG {g : FG} {ps : EPs} {k : AV × Hp → Option α} : Wp ((cG g ps lm H).bind k) P ↔ Wp ((ps lm H).bind fun r => (g r.1 r.2).bind k) P := by simp only [cG, Option.bind_assoc]
theorem C_esC {p : EP} {q : EPs} {k : List AV × Hp → Option α} : Wp ((esC p q lm H).bind k) P ↔ Wp ((p lm H).bind fun r => (q lm r.2).bind fun u => k (r.1 :: u.1, u.2)) P := by simp only [esC, Option.bind_assoc, Option.bind_some]
theorem C_esN  {k : List AV × Hp → Option α} : Wp ((esN lm H).bind k) P ↔ Wp (k ([], H)) P := Iff.rfl
theorem C_mG {g : FG} {p : EP} {ps : EPs} {k : AV × Hp → Option α} : Wp ((mG g p ps lm H).bind k) P ↔ Wp ((p lm H).bind (refK fun i => (getL i.2 i.1).bind fun _ => (ps lm i.2).bind fun u => (g (.ref i.1 :: u.1) u.2).bind k)) P := by
  simp only [mG, Option.bind_assoc]
  refine W_cg fun y => ?_
  obtain ⟨v, h⟩ := y; cases v <;> simp only [refK, Option.bind_assoc, Option.bind_none]
theorem C_mI {C : Addr} {x : String} {g : FG} {p : EP} {ps : EPs} {k : AV × Hp → Option α} : Wp ((mI C x g p ps lm H).bind k) P ↔ Wp ((p lm H).bind (refK fun i => (getA C i.2 i.1).bind fun u => (if (lookA x u.2).isNone = true then some () else none).bind fun _ => (ps lm i.2).bind fun q => (g (.ref i.1 :: q.1) q.2).bind k)) P := by
  simp only [mI, Option.bind_assoc]
  refine W_cg fun y => ?_
  obtain ⟨v, h⟩ := y
  cases v <;> simp only [refK, Option.bind_none]
  rw [Option.bind_assoc]; congr 1; funext u
  cases lookA x u.2 <;> simp [Option.bind_assoc]
theorem C_eAttr {C : Addr} {x : String} {p : EP} {k : AV × Hp → Option α} : Wp ((eAttr C x p lm H).bind k) P ↔ Wp ((p lm H).bind (refK fun i => (getA C i.2 i.1).bind fun u => (lookA x u.2).bind fun v => k (v, i.2))) P := by
  simp only [eAttr, Option.bind_assoc]
  refine W_cg fun y => ?_
  obtain ⟨v, h⟩ := y
  cases v <;> simp only [refK, Option.bind_none]
  rw [Option.bind_assoc]; congr 1; funext u
  cases lookA x u.2 <;> rfl
theorem C_pN  {k : Option Int × Hp → Option α} : Wp ((pN lm H).bind k) P ↔ Wp (k (none, H)) P := Iff.rfl
theorem C_pS {p : EP} {k : Option Int × Hp → Option α} : Wp ((pS p lm H).bind k) P ↔ Wp ((p lm H).bind (intK fun i => k (some i.1, i.2))) P := by
  simp only [pS, Option.bind_assoc]
  refine W_cg fun y => ?_
  obtain ⟨v, h⟩ := y; cases v <;> rfl
theorem C_eSlS {p : EP} {lo hi : OP} {k : AV × Hp → Option α} : Wp ((eSlS p lo hi lm H).bind k) P ↔ Wp ((p lm H).bind (strK fun r => (lo lm r.2).bind fun a => (hi lm a.2).bind fun b => (sliceS r.1 a.1 b.1).bind fun x => k (.str x, b.2))) P := by
  simp only [eSlS, Option.bind_assoc]
  refine W_cg fun y => ?_
  obtain ⟨v, h⟩ := y
  cases v with
  | str cs =>
    simp only [strK]
    congr 1; funext a; congr 1; funext b
    cases sliceS cs a.1 b.1 <;> rfl
  | _ =>
    simp only [strK]
    cases lo lm h with
    | none => rfl
    | some a =>
      simp only [Option.bind_some]
      cases hi lm a.2 <;> rfl
theorem C_tK {b : Bool} {k : Bool × Hp → Option α} : Wp ((tK b lm H).bind k) P ↔ Wp (k (b, H)) P := Iff.rfl
theorem C_tCmp {f : F2} {a b : EP} {k : Bool × Hp → Option α} : Wp ((tCmp f a b lm H).bind k) P ↔ Wp ((a lm H).bind fun r => (b lm r.2).bind fun q => (f r.1 q.1 q.2).bind (bolK k)) P := by
  simp only [tCmp, bO, Option.bind_assoc]
  refine W_cg fun r => ?_
  congr 1; funext q; congr 1; funext y
  obtain ⟨v, h⟩ := y; cases v <;> rfl
theorem C_asB {p : EP} {k : Bool × Hp → Option α} : Wp ((asB p lm H).bind k) P ↔ Wp ((p lm H).bind (bolK k)) P := by
  simp only [asB, Option.bind_assoc]
  refine W_cg fun y => ?_
  obtain ⟨v, h⟩ := y; cases v <;> rfl
theorem C_tNot {p : TP} {k : Bool × Hp → Option α} : Wp ((tNot p lm H).bind k) P ↔ Wp ((p lm H).bind fun r => k (!r.1, r.2)) P := by unfold tNot; exact W_mapb
theorem C_tAnd {p q : TP} {k : Bool × Hp → Option α} : Wp ((tAnd p q lm H).bind k) P ↔ Wp ((p lm H).bind fun r => if r.1 = true then (q lm r.2).bind k else k (false, r.2)) P := by simp only [tAnd, Option.bind_assoc, apply_ite (Option.bind · k), Option.bind_some]
theorem C_tOr {p q : TP} {k : Bool × Hp → Option α} : Wp ((tOr p q lm H).bind k) P ↔ Wp ((p lm H).bind fun r => if r.1 = true then k (true, r.2) else (q lm r.2).bind k) P := by simp only [tOr, Option.bind_assoc, apply_ite (Option.bind · k), Option.bind_some]
theorem C_sSeq {p q : SP} {k : Fl × LM × Hp → Option α} : Wp ((sSeq p q lm H).bind k) P ↔ Wp ((p lm H).bind (seqK q k)) P := by
  simp only [sSeq, Option.bind_assoc]
  refine W_cg fun y => ?_
  obtain ⟨v, h⟩ := y; cases v <;> rfl
theorem C_sNil  {k : Fl × LM × Hp → Option α} : Wp ((sNil lm H).bind k) P ↔ Wp (k (.next, lm, H)) P := Iff.rfl
theorem C_sAsg {x : String} {p : EP} {k : Fl × LM × Hp → Option α} : Wp ((sAsg x p lm H).bind k) P ↔ Wp ((p lm H).bind fun r => k (.next, upd lm x r.1, r.2)) P := by unfold sAsg; exact W_mapb
theorem C_sRet {p : EP} {k : Fl × LM × Hp → Option α} : Wp ((sRet p lm H).bind k) P ↔ Wp ((p lm H).bind fun r => k (.ret r.1, lm, r.2)) P := by unfold sRet; exact W_mapb
theorem C_sExp {p : EP} {k : Fl × LM × Hp → Option α} : Wp ((sExp p lm H).bind k) P ↔ Wp ((p lm H).bind fun r => k (.next, lm, r.2)) P := by unfold sExp; exact W_mapb
theorem C_sIf {t : TP} {p q : SP} {k : Fl × LM × Hp → Option α} : Wp ((sIf t p q lm H).bind k) P ↔ Wp ((t lm H).bind fun r => if r.1 = true then (p lm r.2).bind k else (q lm r.2).bind k) P := by simp only [sIf, Option.bind_assoc, apply_ite (Option.bind · k)]
theorem C_sSetI {o i p : EP} {k : Fl × LM × Hp → Option α} : Wp ((sSetI o i p lm H).bind k) P ↔ Wp ((p lm H).bind fun r => (o lm r.2).bind fun a => (i lm a.2).bind fun b => (setI b.2 a.1 b.1 r.1).bind fun H' => k (.next, lm, H')) P := by
  simp only [sSetI, Option.bind_assoc]
  refine W_cg fun r => ?_
  congr 1; funext a; congr 1; funext b
  cases setI b.2 a.1 b.1 r.1 <;> rfl
theorem C_sSwp {xs : List (String × Pos)} {p : EP} {k : Fl × LM × Hp → Option α} : Wp ((sSwp xs p lm H).bind k) P ↔ Wp ((p lm H).bind (tupK fun r => (if r.1.length = xs.length then some () else none).bind fun _ => k (.next, updN xs.reverse r.1.reverse lm, r.2))) P := by
  simp only [sSwp, Option.bind_assoc]
  refine W_cg fun y => ?_
  obtain ⟨v, h⟩ := y
  cases v <;> simp only [tupK, Option.bind_none]
  split <;> rfl
theorem C_sTup {xs : List (String × Pos)} {p : EP} {k : Fl × LM × Hp → Option α} : Wp ((sTup xs p lm H).bind k) P ↔ Wp ((p lm H).bind (tupK fun r => (if r.1.length = xs.length then some () else none).bind fun _ => k (.next, updN xs r.1 lm, r.2))) P := by
  simp only [sTup, Option.bind_assoc]
  refine W_cg fun y => ?_
  obtain ⟨v, h⟩ := y
  cases v <;> simp only [tupK, Option.bind_none]
  split <;> rfl
theorem C_updE {x : String} {v : AV} {k : AV → Option α} : Wp ((upd lm x v x).bind k) P ↔ Wp (k v) P := by rw [updEq]; exact W_some
theorem C_updN {x y : String} {v : AV} {k : AV → Option α} (h : (y = x) = False) : Wp ((upd lm x v y).bind k) P ↔ Wp ((lm y).bind k) P := by rw [updNe (fun q => by rw [h] at q; exact q)]
theorem C_addF {a b : Int} {k : AV × Hp → Option α} : Wp ((addF (.int a) (.int b) H).bind k) P ↔ Wp (k (.int (a + b), H)) P := Iff.rfl
theorem C_subF {a b : Int} {k : AV × Hp → Option α} : Wp ((subF (.int a) (.int b) H).bind k) P ↔ Wp (k (.int (a - b), H)) P := Iff.rfl
theorem C_ltF {a b : Int} {k : AV × Hp → Option α} : Wp ((ltF (.int a) (.int b) H).bind k) P ↔ Wp (k (.bool (decide (a < b)), H)) P := Iff.rfl
theorem C_leF {a b : Int} {k : AV × Hp → Option α} : Wp ((leF (.int a) (.int b) H).bind k) P ↔ Wp (k (.bool (decide (a ≤ b)), H)) P := Iff.rfl
theorem C_gtF {a b : Int} {k : AV × Hp → Option α} : Wp ((gtF (.int a) (.int b) H).bind k) P ↔ Wp (k (.bool (decide (b < a)), H)) P := Iff.rfl
theorem C_geF {a b : Int} {k : AV × Hp → Option α} : Wp ((geF (.int a) (.int b) H).bind k) P ↔ Wp (k (.bool (decide (b ≤ a)), H)) P := Iff.rfl
theorem C_eqF {a b : Int} {k : AV × Hp → Option α} : Wp ((eqF (.int a) (.int b) H).bind k) P ↔ Wp (k (.bool (decide (a = b)), H)) P := Iff.rfl
theorem C_addS {a b : List Nat} {k : AV × Hp → Option α} : Wp ((addF (.str a) (.str b) H).bind k) P ↔ Wp ((if a.length + b.length ≤ 100000 then some () else none).bind fun _ => k (.str (a ++ b), H)) P := by simp only [addF]; split <;> exact Iff.rfl
theorem C_addL {i j : Nat} {k : AV × Hp → Option α} : Wp ((addF (.ref i) (.ref j) H).bind k) P ↔ Wp ((getL H i).bind fun xs => (getL H j).bind fun ys => (if xs.length + ys.length ≤ 100000 then some () else none).bind fun _ => k (.ref H.length, H ++ [.list (xs ++ ys)])) P := by
  simp only [addF, Option.bind_assoc]
  refine W_cg fun xs => ?_
  congr 1; funext ys
  split <;> rfl
theorem C_mulI {a b : Int} {k : AV × Hp → Option α} : Wp ((mulF (.int a) (.int b) H).bind k) P ↔ Wp ((if a.natAbs < 2 ^ 60 then some () else none).bind fun _ => k (.int (a * b), H)) P := by simp only [mulF]; split <;> exact Iff.rfl
theorem C_modI {a b : Int} {k : AV × Hp → Option α} : Wp ((modF (.int a) (.int b) H).bind k) P ↔ Wp ((if 0 < b then some () else none).bind fun _ => k (.int (a % b), H)) P := by simp only [modF]; split <;> exact Iff.rfl
theorem C_divI {a b : Int} {k : AV × Hp → Option α} : Wp ((fdivF (.int a) (.int b) H).bind k) P ↔ Wp ((if 0 < b ∧ b < 1000000 then some () else none).bind fun _ => k (.int (a / b), H)) P := by simp only [fdivF]; split <;> exact Iff.rfl
theorem C_powI  {k : AV × Hp → Option α} : Wp ((powF (.int 10) (.int 6) H).bind k) P ↔ Wp (k (.int 1000000, H)) P := Iff.rfl
theorem C_isB {a b : Bool} {k : AV × Hp → Option α} : Wp ((isF (.bool a) (.bool b) H).bind k) P ↔ Wp (k (.bool (decide (a = b)), H)) P := Iff.rfl
theorem C_isNB {a b : Bool} {k : AV × Hp → Option α} : Wp ((isNotF (.bool a) (.bool b) H).bind k) P ↔ Wp (k (.bool (!decide (a = b)), H)) P := Iff.rfl
theorem C_isNN  {k : AV × Hp → Option α} : Wp ((isNotF .none .none H).bind k) P ↔ Wp (k (.bool false, H)) P := Iff.rfl
theorem C_idxL {i : Nat} {j : Int} {k : AV × Hp → Option α} : Wp ((idxF (.ref i) (.int j) H).bind k) P ↔ Wp ((H[i]?).bind fun o => (itemF o j).bind fun v => k (v, H)) P := by
  simp only [idxF]
  cases H[i]? with
  | none => exact Iff.rfl
  | some o => cases o <;> simp only [itemF, Option.bind_some, Option.bind_none] <;> exact W_mapb
theorem C_lenR {i : Nat} {k : AV × Hp → Option α} : Wp ((lenG [.ref i] H).bind k) P ↔ Wp ((getL H i).bind fun xs => (if xs.length ≤ 100000 then some () else none).bind fun _ => k (.int xs.length, H)) P := by
  simp only [lenG, Option.bind_assoc]
  refine W_cg fun xs => ?_
  split <;> rfl
theorem C_max {a b : Int} {k : AV × Hp → Option α} : Wp ((maxG [.int a, .int b] H).bind k) P ↔ Wp (k (.int (max a b), H)) P := Iff.rfl
theorem C_min {a b : Int} {k : AV × Hp → Option α} : Wp ((minG [.int a, .int b] H).bind k) P ↔ Wp (k (.int (min a b), H)) P := Iff.rfl
theorem C_rng1 {a : Int} {k : AV × Hp → Option α} : Wp ((rngG [.int a] H).bind k) P ↔ Wp (k (.rng 0 a, H)) P := Iff.rfl
theorem C_rng2 {a b : Int} {k : AV × Hp → Option α} : Wp ((rngG [.int a, .int b] H).bind k) P ↔ Wp (k (.rng a b, H)) P := Iff.rfl
theorem C_app {i : Nat} {v : AV} {k : AV × Hp → Option α} : Wp ((appG [.ref i, v] H).bind k) P ↔ Wp ((getL H i).bind fun xs => (if xs.length ≤ 100000 then some () else none).bind fun _ => k (.none, H.set i (.list (xs ++ [v])))) P := by
  simp only [appG, Option.bind_assoc]
  refine W_cg fun xs => ?_
  split <;> rfl
theorem C_pop {i : Nat} {k : AV × Hp → Option α} : Wp ((popG [.ref i] H).bind k) P ↔ Wp ((getL H i).bind fun xs => (if xs.length ≤ 100000 then some () else none).bind fun _ => (xs[xs.length - 1]?).bind fun v => k (v, H.set i (.list xs.dropLast))) P := by
  simp only [popG, Option.bind_assoc]
  refine W_cg fun xs => ?_
  split
  · simp only [Option.bind_some]
    cases xs[xs.length - 1]? <;> rfl
  · rfl
theorem C_ext {i j : Nat} {k : AV × Hp → Option α} : Wp ((extG [.ref i, .ref j] H).bind k) P ↔ Wp ((getL H i).bind fun xs => (getL H j).bind fun ys => (if xs.length + ys.length ≤ 100000 then some () else none).bind fun _ => k (.none, H.set i (.list (xs ++ ys)))) P := by
  simp only [extG, Option.bind_assoc]
  refine W_cg fun xs => ?_
  congr 1; funext ys
  split <;> rfl
theorem C_setI {i : Nat} {j : Int} {v : AV} {k : Hp → Option α} : Wp ((setI H (.ref i) (.int j) v).bind k) P ↔ Wp ((H[i]?).bind fun o => (putF o j v).bind fun o' => k (H.set i o')) P := by
  simp only [setI]
  cases H[i]? with
  | none => exact Iff.rfl
  | some o => cases o <;> simp only [putF, Option.bind_some, Option.bind_none] <;> split <;> exact Iff.rfl
theorem C_addG {ad : AD} {a b : Int} {k : AV × Hp → Option α} : Wp ((g_add ad [.int a, .int b] H).bind k) P ↔ Wp (k (.int (a + b), H)) P := Iff.rfl
theorem C_subG {ad : AD} {a b : Int} {k : AV × Hp → Option α} : Wp ((g_sub ad [.int a, .int b] H).bind k) P ↔ Wp (k (.int (a - b), H)) P := Iff.rfl
theorem C_isnG {ad : AD} {a : Int} {k : AV × Hp → Option α} : Wp ((g_isn ad [.int a] H).bind k) P ↔ Wp (k (.bool (decide (256 ≤ a)), H)) P := Iff.rfl
theorem C_istG {ad : AD} {a : Int} {k : AV × Hp → Option α} : Wp ((g_ist ad [.int a] H).bind k) P ↔ Wp (k (.bool (decide (a < 256)), H)) P := Iff.rfl
theorem C_iseG {ad : AD} {a : Int} {k : AV × Hp → Option α} : Wp ((g_ise ad [.int a] H).bind k) P ↔ Wp (k (.bool (decide (a = 0)), H)) P := Iff.rfl
theorem C_getG {ad : AD} {a b : AV} {k : AV × Hp → Option α} : Wp ((g_getitem ad [a, b] H).bind k) P ↔ Wp ((idxF a b H).bind k) P := by rw [getitem_ok]
theorem C_setG {ad : AD} {a b c : AV} {k : AV × Hp → Option α} : Wp ((g_setitem ad [a, b, c] H).bind k) P ↔ Wp ((setI H a b c).bind fun H' => k (.none, H')) P := by rw [setitem_ok]; exact W_mapb
theorem C_conG {ad : AD} {a b : AV} {k : AV × Hp → Option α} : Wp ((g_contains ad [a, b] H).bind k) P ↔ Wp ((inF b a H).bind k) P := by rw [contains_ok]
theorem C_inL {i : Nat} {j : Int} {k : AV × Hp → Option α} : Wp ((inF (.int j) (.ref i) H).bind k) P ↔ Wp ((H[i]?).bind fun o => (hasF o j).bind fun b => k (.bool b, H)) P := by
  simp only [inF]
  cases H[i]? with
  | none => exact Iff.rfl
  | some o =>
    cases o with
    | list vs => simp only [hasF, Option.bind_some]; cases asInts vs <;> exact Iff.rfl
    | _ => exact Iff.rfl
theorem Wp.bind {o : Option β} {P' : β → Prop} {k : β → Option α} (h : Wp o P') (i : ∀ a, P' a → Wp (k a) P) : Wp (o.bind k) P := let ⟨a, e, p⟩ := h; by rw [e]; exact i a p
theorem W_self {o : Option α} : Wp o P ↔ Wp (o.bind some) P := by cases o <;> exact Iff.rfl
theorem W_gOf {ps : List String} {q : SP} {avs : List AV} {P : AV × Hp → Prop} : Wp (gOf ps q avs H) P ↔ (avs.length = ps.length) ∧ Wp ((q (bindA ps avs) H).bind fun r => match r.1 with | .ret a => some (a, r.2.2) | .next => some (.none, r.2.2) | .brk => none) P := by
  unfold gOf
  by_cases h : avs.length = ps.length
  · rw [if_pos h]; exact ⟨fun x => ⟨h, x⟩, fun x => x.2⟩
  · rw [if_neg h, Wp_none]; exact ⟨False.elim, fun x => h x.1⟩
end Mine
end
section
set_option maxRecDepth 20000
namespace Mine
variable (ad : AD) (H : Hp)
noncomputable def ilP (count : List Int) (ts : Int) (l : List Nat) (il : Int) : Int := l.foldl (fun (il : Int) (i : Nat) => il + (ts + i) / ts * count.getD (ts + i).toNat 0) il
noncomputable def indP (s : WS) (ts : Int) : Int := s.b + ts * (ilP s.count ts (List.range ((s.count.length : Int) - ts).toNat) 0 + s.nt)
noncomputable def runP (s : WS) : Int := max ((s.count.length : Int) - 1) s.b
noncomputable def lessP (s o : WS) : Bool :=
  if o.n ≤ s.n then false
  else if (s.count.length : Int) ≤ 1 ∧ (o.count.length : Int) ≤ 1 then decide (s.nt ≤ o.nt)
  else (List.range ((max (runP s) (runP o) + 1 + 1) - 2).toNat).all fun i => !decide (indP o (2 + i) ≤ indP s (2 + i))
noncomputable def indBody : SP := (sSeq (sAsg "il" (bO addF (vV "il") (bO mulF (bO fdivF (vV "i") (vV "tabsize")) (bO idxF (vV "count") (vV "i")))))
 sNil)
theorem ind_loop {count : List Int} {ts : Int} (t0 : 2 ≤ ts) (t1 : ts < 1000) (c1 : count.length ≤ 1000) : ∀ (l : List Nat) (lm : LM) (il : Int), (∀ i ∈ l, ts + (i : Int) < count.length) → lm "il" = some (.int il) → lm "tabsize" = some (.int ts) → lm "count" = some (.tup (count.map .int)) →
    Wp (forL indBody "i" (l.map fun (i : Nat) => .int (ts + i)) lm H) fun r => r.1 = .next ∧ r.2.2 = H ∧ r.2.1 "il" = some (.int (ilP count ts l il)) ∧ ∀ y, y ≠ "i" → y ≠ "il" → r.2.1 y = lm y
  | [], lm, il, hl, h1, h2, h3 => by
    simp only [forL, Wp_some, ne_eq, true_and, List.map_nil]
    exact ⟨h1, fun _ _ _ => trivial⟩
  | i :: l, lm, il, hl, h1, h2, h3 => by
    have hi := hl i (.head _)
    have e1 : nthI (count.map AV.int) (ts + i) = some (.int (count.getD (ts + i).toNat 0)) := nthI_int (by omega) hi (by omega)
    have e0 : 0 ≤ ts + (i : Int) := by omega
    have e2 : 0 < ts ∧ ts < 1000000 := by omega
    have hb : Wp (indBody (upd lm "i" (.int (ts + i))) H) fun r => r = (.next, upd (upd lm "i" (.int (ts + i))) "il" (.int (il + (ts + i) / ts * count.getD (ts + i).toNat 0)), H) := by
      unfold indBody
      simp only [sSeq, sNil, sAsg, vV, bO, Option.bind_some, Option.map_some, Wp_bind, Wp_map, Wp_some, updNe, updEq, ne_eq, String.reduceEq, not_false_eq_true, if_true, Int.reduceNeg, and_true, Wp_ite_none, addF, mulF, fdivF, idxF, *]
      have h5 : 0 ≤ (ts + i) / ts := Int.ediv_nonneg e0 (by omega)
      have h6 : (ts + i) / ts ≤ ts + i := Int.ediv_le_self _ e0
      omega
    rw [List.map_cons]
    unfold forL
    rw [Wp_bind]
    refine hb.mono fun r hr => ?_
    subst hr
    refine (ind_loop t0 t1 c1 l _ (il + (ts + i) / ts * count.getD (ts + i).toNat 0) (fun j hj => hl j (.tail _ hj)) updEq (by simp only [updNe, ne_eq, String.reduceEq, not_false_eq_true, *]) (by simp only [updNe, ne_eq, String.reduceEq, not_false_eq_true, *])).mono fun r hr => ?_
    obtain ⟨a, b, c, d⟩ := hr
    exact ⟨a, b, c, fun y h1 h2 => by rw [d y h1 h2, updNe h2, updNe h1]⟩
theorem ind_ok {i d : Nat} {raw : List Nat} {s : WS} {ts : Int} (hA : getA ad.ws H i = some (d, wsA raw s)) (t0 : 2 ≤ ts) (t1 : ts < 1000) (c1 : s.count.length ≤ 1000) : g_ind ad [.ref i, .int ts] H = some (.int (indP s ts), H) := by
  have key : Wp (g_ind ad [.ref i, .int ts] H) fun r => r = (.int (indP s ts), H) := by
    unfold g_ind q_ind
    rw [show (sSeq (sAsg "il" (bO addF (vV "il") (bO mulF (bO fdivF (vV "i") (vV "tabsize")) (bO idxF (vV "count") (vV "i"))))) sNil) = indBody from rfl]
    generalize hB : indBody = WB
    unfold wsA at hA
    simp only [sSeq, sNil, sRet, sAsg, sTup, cG, esC, esN, vV, cK, bO, sFor, eAttr, Option.bind_some, Option.map_some, Wp_bind, Wp_some, updNe, updEq, updN, ne_eq, String.reduceEq, not_false_eq_true, if_true, if_false, bindA, gOf, List.length_cons, List.length_nil, Nat.reduceAdd, Nat.zero_add, Int.reduceNeg, Wp_ite_none, lookA, List.length_map, addF, mulF, lenG, rngG, itemsOf, *]
    refine ⟨by omega, by omega, ?_⟩
    rw [← hB]
    refine Wp.mono (ind_loop H t0 t1 c1 (List.range ((s.count.length : Int) - ts).toNat) _ 0 (fun j hj => ?_) (by simp only [updEq]) (by simp only [updNe, updEq, ne_eq, String.reduceEq, not_false_eq_true]) (by simp only [updNe, updEq, ne_eq, String.reduceEq, not_false_eq_true])) fun r hr => ?_
    · have := List.mem_range.mp hj; omega
    obtain ⟨fl, lm, h⟩ := r
    obtain ⟨e1, e2, e3, e4⟩ := hr
    simp only at e1 e2 e3
    subst e1 e2
    have e5 := e4 "trailing" (by decide) (by decide)
    have e6 := e4 "tabsize" (by decide) (by decide)
    have e7 := e4 "self" (by decide) (by decide)
    clear e4 hB
    simp only [updEq, updNe, ne_eq, String.reduceEq, not_false_eq_true] at e5 e6 e7
    simp only [Option.bind_some, Option.map_some, Wp_bind, Wp_map, Wp_some, String.reduceEq, if_true, if_false, Int.reduceNeg, Wp_ite_none, lookA, *]
    refine ⟨by omega, rfl⟩
  obtain ⟨a, e, rfl⟩ := key
  exact e
theorem run_ok {i d : Nat} {raw : List Nat} {s : WS} (hA : getA ad.ws H i = some (d, wsA raw s)) (c1 : s.count.length ≤ 1000) : g_run ad [.ref i] H = some (.int (runP s), H) := by
  have key : Wp (g_run ad [.ref i] H) fun r => r = (.int (runP s), H) := by
    unfold g_run q_run
    unfold wsA at hA
    simp only [sSeq, sNil, sRet, sTup, cG, esC, esN, vV, cK, bO, eAttr, Option.bind_some, Option.map_some, Wp_bind, Wp_map, Wp_some, updNe, updEq, updN, ne_eq, String.reduceEq, not_false_eq_true, if_true, if_false, bindA, gOf, List.length_cons, List.length_nil, Nat.reduceAdd, Nat.zero_add, Wp_ite_none, lookA, List.length_map, subF, lenG, maxG, *]
    refine ⟨by omega, rfl⟩
  obtain ⟨a, e, rfl⟩ := key
  exact e
theorem less_loop {i j d d' : Nat} {raw raw' : List Nat} {s o : WS} (hA : getA ad.ws H i = some (d, wsA raw s)) (hA' : getA ad.ws H j = some (d', wsA raw' o)) (c1 : s.count.length ≤ 1000) (c2 : o.count.length ≤ 1000) :
    ∀ (l : List Nat) (lm : LM), (∀ k ∈ l, k < 900) → lm "self" = some (.ref i) → lm "other" = some (.ref j) →
    Wp (forL (q_less_3b0 ad) "ts" (l.map fun (i : Nat) => .int (2 + i)) lm H) fun r => r.2.2 = H ∧ r.1 = if l.all (fun i => !decide (indP o (2 + i) ≤ indP s (2 + i))) = true then .next else .ret (.bool false)
  | [], lm, hl, h1, h2 => by
    unfold forL
    simp [Wp_some]
  | k :: l, lm, hl, h1, h2 => by
    have hk := hl k (.head _)
    have i1 := ind_ok ad H (ts := 2 + (k : Int)) hA (by omega) (by omega) c1
    have i2 := ind_ok ad H (ts := 2 + (k : Int)) hA' (by omega) (by omega) c2
    have ih := less_loop hA hA' c1 c2 l (upd lm "ts" (.int (2 + k))) (fun j hj => hl j (.tail _ hj)) (by simp only [updNe, ne_eq, String.reduceEq, not_false_eq_true, *]) (by simp only [updNe, ne_eq, String.reduceEq, not_false_eq_true, *])
    rw [List.map_cons]
    unfold forL
    rw [List.all_cons]
    unfold wsA at hA hA'
    generalize hF : forL (q_less_3b0 ad) = F at ih ⊢
    unfold q_less_3b0 q_less_3b0t0
    clear hF hl
    by_cases hc : indP o (2 + k) ≤ indP s (2 + k)
    · simp only [↓C_cK, ↓C_vV, ↓C_esC, ↓C_esN, ↓C_mI, ↓C_tCmp, ↓C_sSeq, ↓C_sRet, ↓C_sIf, ↓C_updE, ↓C_updN, ↓C_geF, ↓W_some, ↓W_ite, seqK_r, bolK_b, refK_r, Wp_some, ↓reduceIte, String.reduceEq, decide_true, Bool.not_true, true_and, lookA, Option.isNone_none, *]
      simp
    · simp only [↓C_vV, ↓C_esC, ↓C_esN, ↓C_mI, ↓C_tCmp, ↓C_sSeq, ↓C_sNil, ↓C_sIf, ↓C_updE, ↓C_updN, ↓C_geF, ↓W_some, ↓W_ite, seqK_n, bolK_b, refK_r, ↓reduceIte, String.reduceEq, decide_false, Bool.false_eq_true, Bool.not_false, true_and, lookA, Option.isNone_none, *]
      simpa using ih
theorem less_ok {i j d d' : Nat} {raw raw' : List Nat} {s o : WS} (hA : getA ad.ws H i = some (d, wsA raw s)) (hA' : getA ad.ws H j = some (d', wsA raw' o)) (c1 : s.count.length ≤ 400) (c2 : o.count.length ≤ 400) (b1 : s.b ≤ 400) (b2 : o.b ≤ 400) :
    g_less ad [.ref i, .ref j] H = some (.bool (lessP s o), H) := by
  have key : Wp (g_less ad [.ref i, .ref j] H) fun r => r = (.bool (lessP s o), H) := by
    have hA1 := hA
    have hA2 := hA'
    unfold wsA at hA1 hA2
    have hm : max (runP s) (runP o) + 1 + 1 ≤ 800 ∧ -1 ≤ max (runP s) (runP o) := by
      have : runP s ≤ 401 ∧ -1 ≤ runP s := by unfold runP; omega
      have : runP o ≤ 401 ∧ -1 ≤ runP o := by unfold runP; omega
      omega
    have c1' : s.count.length ≤ 1000 := by omega
    have c2' : o.count.length ≤ 1000 := by omega
    have r1 := run_ok ad H hA c1'
    have r2 := run_ok ad H hA' c2'
    have LL := fun lm => less_loop ad H hA hA' c1' c2' (List.range ((max (runP s) (runP o) + 1 + 1) - 2).toNat) lm (fun k hk => by have := List.mem_range.mp hk; omega)
    unfold g_less q_less
    rw [W_gOf]
    refine ⟨rfl, ?_⟩
    unfold q_less_0 q_less_0t0 lessP
    clear hA hA' c1 c2 b1 b2 c1' c2'
    by_cases h1 : o.n ≤ s.n
    · clear LL hm r1 r2
      simp only [↓C_cK, ↓C_vV, ↓C_eAttr, ↓C_tCmp, ↓C_sSeq, ↓C_sRet, ↓C_sIf, ↓C_updE, ↓C_updN, ↓C_geF, ↓W_some, seqK_r, bolK_b, refK_r, Wp_some, ↓reduceIte, updEq, String.reduceEq, bindA, decide_true, lookA, *]
    unfold q_less_1 q_less_1t0
    by_cases h4 : (s.count.length : Int) ≤ 1 ∧ (o.count.length : Int) ≤ 1
    · clear LL hm r1 r2
      obtain ⟨h2, h3⟩ := h4
      simp only [↓C_vV, ↓C_bO, ↓C_eAttr, ↓C_tK, ↓C_tCmp, ↓C_asB, ↓C_tAnd, ↓C_sSeq, ↓C_sNil, ↓C_sRet, ↓C_sIf, ↓C_updE, ↓C_updN, ↓C_leF, ↓C_geF, ↓W_some, seqK_n, seqK_r, bolK_b, refK_r, Wp_some, ↓reduceIte, updEq, String.reduceEq, bindA, decide_true, decide_false, Bool.false_eq_true, and_true, lookA, *]
    rw [if_neg h1, if_neg h4]
    have h4' : ¬ (decide ((s.count.length : Int) ≤ 1) = true ∧ decide ((o.count.length : Int) ≤ 1) = true) := by simpa using h4
    generalize decide ((s.count.length : Int) ≤ 1) = D1 at *
    generalize decide ((o.count.length : Int) ≤ 1) = D2 at *
    have go : ∀ lm, lm "self" = some (.ref i) → lm "other" = some (.ref j) → Wp (q_less_2 ad lm H) fun r => r.1 = .ret (.bool ((List.range ((max (runP s) (runP o) + 1 + 1) - 2).toNat).all fun i => !decide (indP o (2 + i) ≤ indP s (2 + i)))) ∧ r.2.2 = H := by
      intro lm hs ho
      have L1 := LL (upd lm "n" (.int (max (runP s) (runP o) + 1))) (by simp only [updNe, ne_eq, String.reduceEq, not_false_eq_true, *]) (by simp only [updNe, ne_eq, String.reduceEq, not_false_eq_true, *])
      clear LL
      rw [W_self]
      unfold q_less_2 q_less_3 sFor
      revert L1
      generalize hR : (List.range ((max (runP s) (runP o) + 1 + 1) - 2).toNat) = R
      generalize hM : max (runP s) (runP o) = M at *
      intro L1
      simp only [↓C_cK, ↓C_vV, ↓C_bO, ↓C_cG, ↓C_esC, ↓C_esN, ↓C_mI, ↓C_sSeq, ↓C_sAsg, ↓C_updE, ↓C_addF, ↓C_max, ↓C_rng2, ↓W_some, ↓W_assoc, ↓W_ite, seqK_n, refK_r, ↓reduceIte, String.reduceEq, true_and, lookA, Option.isNone_none, itemsOf, *]
      refine ⟨by omega, L1.bind fun r hr => ?_⟩
      obtain ⟨fl, lm', h'⟩ := r
      obtain ⟨e1, e2⟩ := hr
      simp only at e1 e2
      subst e1
      split at e2
      · rename_i hc
        subst e2
        rw [hc]
        unfold q_less_4
        simp only [↓C_cK, ↓C_sSeq, ↓C_sRet, seqK_n, seqK_r, Wp_some, and_true]
      · rename_i hc
        subst e2
        rw [Bool.eq_false_iff.mpr hc]
        simp only [seqK_r, Wp_some, and_true]
    clear LL hm r1 r2 h4
    have R := go (upd (upd (fun x => none) "other" (AV.ref j)) "self" (AV.ref i)) (by simp only [updEq]) (by simp only [updNe, updEq, ne_eq, String.reduceEq, not_false_eq_true])
    clear go
    revert R
    generalize (List.range ((max (runP s) (runP o) + 1 + 1) - 2).toNat).all _ = L
    intro R
    cases D1 with
    | false =>
      simp only [↓C_vV, ↓C_eAttr, ↓C_tCmp, ↓C_asB, ↓C_tAnd, ↓C_sSeq, ↓C_sNil, ↓C_sIf, ↓C_updE, ↓C_updN, ↓C_geF, ↓W_some, seqK_n, bolK_b, refK_r, ↓reduceIte, updEq, String.reduceEq, bindA, decide_false, Bool.false_eq_true, lookA, *]
      refine R.bind fun r hr => ?_
      obtain ⟨fl, lm', h'⟩ := r
      obtain ⟨e1, e2⟩ := hr
      simp only at e1 e2
      subst e1 e2
      simp only [Wp_some]
    | true =>
      cases D2 with
      | true => exact absurd ⟨rfl, rfl⟩ h4'
      | false =>
        simp only [↓C_vV, ↓C_eAttr, ↓C_tCmp, ↓C_asB, ↓C_tAnd, ↓C_sSeq, ↓C_sNil, ↓C_sIf, ↓C_updE, ↓C_updN, ↓C_geF, ↓W_some, seqK_n, bolK_b, refK_r, ↓reduceIte, updEq, String.reduceEq, bindA, decide_false, Bool.false_eq_true, lookA, *]
        refine R.bind fun r hr => ?_
        obtain ⟨fl, lm', h'⟩ := r
        obtain ⟨e1, e2⟩ := hr
        simp only at e1 e2
        subst e1 e2
        simp only [Wp_some]
  obtain ⟨a, e, rfl⟩ := key
  exact e
end Mine
end
section
set_option maxRecDepth 20000
namespace Mine
variable (ad : AD) (H : Hp)
noncomputable def nearP (p : Nat) : List Nat := ([[9], [32, 9], [32, 32, 9], [32, 32, 32]] : List (List Nat)).getD p []
noncomputable def deepP (p : Nat) : List Nat := ([[32, 32, 32, 9], [32, 32, 9, 32, 32], [9, 9], [32, 32, 32, 32, 32]] : List (List Nat)).getD p []
/-- the blanks of a row, by the pieces of the rows that it is a part of and its own -/
noncomputable def wayC : List Nat → List Nat
  | [] => []
  | p :: r => nearP p ++ (r.map deepP).flatten
noncomputable def r4 : List Nat := [0, 1, 2, 3]
noncomputable def chains1 : List (List Nat) := r4.map fun p => [p]
noncomputable def chains2 : List (List Nat) := chains1.flatMap fun c => r4.map fun p => c ++ [p]
noncomputable def chains3 : List (List Nat) := chains2.flatMap fun c => r4.map fun p => c ++ [p]
noncomputable def lessC (c c' : List Nat) : Bool := lessP (wsF (wayC c)) (wsF (wayC c'))
/-- a row that is as far out as the new one, or farther in, is not less -/
noncomputable def chkNo (c : List Nat) (d : Nat) : Bool := r4.all fun p => !lessC c (c.take (d - 1) ++ [p])
noncomputable def chkYes (c : List Nat) : Bool := r4.all fun p => lessC c (c ++ [p])
theorem chk0 : ([[]] ++ chains1 ++ chains2 ++ chains3).all (fun c => !lessC c []) = true := by decide +kernel
theorem chk1 : chains1.all (fun c => chkNo c 1) = true := by decide +kernel
theorem chk21 : chains2.all (fun c => chkNo c 1) = true := by decide +kernel
theorem chk22 : chains2.all (fun c => chkNo c 2) = true := by decide +kernel
theorem chk31 : chains3.all (fun c => chkNo c 1) = true := by decide +kernel
theorem chk32 : chains3.all (fun c => chkNo c 2) = true := by decide +kernel
theorem chk33 : chains3.all (fun c => chkNo c 3) = true := by decide +kernel
theorem chkY : ([[]] ++ chains1 ++ chains2).all chkYes = true := by decide +kernel
end Mine
end
section
set_option maxRecDepth 20000
namespace Mine
variable (ad : AD) (H : Hp)
section
variable {α : Type} {P : α → Prop} {lm : LM} {H : Hp}
theorem C_sFor {x : String} {p : EP} {q : SP} {k : Fl × LM × Hp → Option α} : Wp ((sFor x p q lm H).bind k) P ↔ Wp ((p lm H).bind fun r => (itemsOf r.1).bind fun vs => (forL q x vs lm r.2).bind k) P := by simp only [sFor, Option.bind_assoc]
theorem C_eSlL {p u : EP} {k : AV × Hp → Option α} : Wp ((eSlL p (pS u) lm H).bind k) P ↔ Wp ((p lm H).bind (refK fun i => (u lm i.2).bind (intK fun j => (getL j.2 i.1).bind fun xs => (if 0 ≤ j.1 ∧ j.1 ≤ xs.length ∧ xs.length ≤ 100000 then some () else none).bind fun _ => k (.ref j.2.length, j.2 ++ [.list (xs.take j.1.toNat)])))) P := by
  simp only [eSlL, pS, Option.bind_assoc]
  refine W_cg fun y => ?_
  obtain ⟨v, h⟩ := y
  cases v with
  | ref i =>
    simp only [refK]
    congr 1; funext z
    obtain ⟨v, h'⟩ := z
    cases v with
    | int j =>
      simp only [intK, Option.bind_some, Option.bind_assoc]
      congr 1; funext xs
      split <;> rfl
    | _ => rfl
  | _ =>
    simp only [refK]
    cases u lm h with
    | none => rfl
    | some z =>
      obtain ⟨v, h'⟩ := z
      cases v <;> rfl
theorem C_neR {i : Nat} {b : AV} {k : AV × Hp → Option α} : Wp ((neU (.ref i) b H).bind k) P ↔ Wp ((rd H 4 (.ref i)).bind fun x => (rd H 4 b).bind fun y => k (.bool (!PyData.eqv x y), H)) P := by
  simp only [neU, neF, Option.bind_assoc, Option.bind_some]
theorem Set_ne {i j : Nat} {o : AO} (h : i ≠ j) : (List.set H i o)[j]? = H[j]? := List.getElem?_set_ne h
theorem Set_eq {i : Nat} {o : AO} (h : i < H.length) : (List.set H i o)[i]? = some o := List.getElem?_set_self h
theorem AL_eq {i : Nat} {xs : List AV} (h : i < H.length) : getL (List.set H i (.list xs)) i = some xs := getL_of (Set_eq h)
theorem for_from {q : SP} {x : String} {Inv : Nat → LM → Hp → Prop} (n : Nat) (step : ∀ k lm h, k < n → Inv k lm h → Wp (q (upd lm x (.int k)) h) fun r => r.1 = .next ∧ Inv (k + 1) r.2.1 r.2.2) :
    ∀ (m j : Nat) (lm : LM) (h : Hp), j + m = n → Inv j lm h → Wp (forL q x ((List.range' j m).map fun (i : Nat) => .int (0 + i)) lm h) fun r => r.1 = .next ∧ Inv n r.2.1 r.2.2
  | 0, j, lm, h, e, I => by
    have : j = n := by omega
    subst this
    exact Wp_some.mpr ⟨rfl, I⟩
  | m + 1, j, lm, h, e, I => by
    rw [List.range'_succ, List.map_cons]
    unfold forL
    have e0 : (0 : Int) + (j : Int) = j := by omega
    rw [e0]
    refine (step j lm h (by omega) I).bind fun r hr => ?_
    obtain ⟨fl, lm', h'⟩ := r
    obtain ⟨e1, I'⟩ := hr
    simp only at e1
    subst e1
    exact for_from n step m (j + 1) lm' h' (by omega) I'
theorem for_range {q : SP} {x : String} {Inv : Nat → LM → Hp → Prop} (n : Nat) (step : ∀ k lm h, k < n → Inv k lm h → Wp (q (upd lm x (.int k)) h) fun r => r.1 = .next ∧ Inv (k + 1) r.2.1 r.2.2) {h : Hp} (I : Inv 0 lm h) :
    Wp (forL q x ((List.range n).map fun (i : Nat) => .int (0 + i)) lm h) fun r => r.1 = .next ∧ Inv n r.2.1 r.2.2 := by
  rw [List.range_eq_range']
  exact for_from n step n 0 lm h (by omega) I
-- blocks
theorem comp_items {x : String} {capt : List String} {t : TP} {pe : EP} {D : Nat} {H : Hp} {b : AV → Bool} {f : AV → AV} (hD : H.length ≤ D) :
    ∀ (us : List AV) (n : Nat) (acc : List AV) (h : Hp), (∀ v ∈ us, ∀ h, Le H h → Wp (t (inLM x capt lm v) h) fun r => r.1 = b v ∧ Le h r.2) → (∀ v ∈ us, b v = true → ∀ h, Le H h → Wp (pe (inLM x capt lm v) h) fun r => r.1 = f v ∧ Le h r.2) →
      us.length < n → acc.length + us.length ≤ 100000 → Le H h → getL h D = some acc → Wp (compF x capt t pe D srcI n us lm h) fun h' => Le H h' ∧ getL h' D = some (acc ++ (us.filter b).map f)
  | [], 0, acc, h, ht, hp, hn, hl, hle, hg => by omega
  | [], n + 1, acc, h, ht, hp, hn, hl, hle, hg => by
    unfold compF
    rw [show srcI h [] = some none from rfl, W_some]
    exact Wp_some.mpr ⟨hle, by simpa using hg⟩
  | v :: us, 0, acc, h, ht, hp, hn, hl, hle, hg => by omega
  | v :: us, n + 1, acc, h, ht, hp, hn, hl, hle, hg => by
    unfold compF
    rw [show srcI h (v :: us) = some (some (v, us)) from rfl, W_some]
    have hl' : acc.length + us.length + 1 ≤ 100000 := by simpa [Nat.add_assoc] using hl
    refine (ht v (.head _) h hle).bind fun r hr => ?_
    obtain ⟨e1, l1⟩ := hr
    have ht' := fun w hw => ht w (.tail _ hw)
    have hp' := fun w hw => hp w (.tail _ hw)
    have hn' : us.length < n := by simpa using hn
    rw [e1, List.filter_cons]
    cases hb : b v with
    | false =>
      exact comp_items hD us n acc r.2 ht' hp' hn' (by omega) (hle.trans l1) (getL_le l1 hg)
    | true =>
      simp only [if_true, List.map_cons]
      refine (hp v (.head _) hb r.2 (hle.trans l1)).bind fun y hy => ?_
      obtain ⟨e2, l2⟩ := hy
      have g2 := getL_le (l1.trans l2) hg
      rw [e2]
      rw [C_app, g2, W_some, W_ite]
      refine ⟨by omega, ?_⟩
      rw [W_some]
      have := comp_items hD us n (acc ++ [f v]) (List.set y.2 D (.list (acc ++ [f v]))) ht' hp' hn' (by simp; omega) ((hle.trans (l1.trans l2)).set hD) (AL_eq (getL_lt g2))
      simpa using this
theorem comp_list {x : String} {capt : List String} {t : TP} {pe : EP} {D i : Nat} {H : Hp} {b : AV → Bool} {f : AV → AV} {xs : List AV} (hD : H.length ≤ D) (hi : getL H i = some xs)
    (ht : ∀ v ∈ xs, ∀ h, Le H h → Wp (t (inLM x capt lm v) h) fun r => r.1 = b v ∧ Le h r.2) (hp : ∀ v ∈ xs, b v = true → ∀ h, Le H h → Wp (pe (inLM x capt lm v) h) fun r => r.1 = f v ∧ Le h r.2) :
    ∀ (m j n : Nat) (acc : List AV) (h : Hp), j + m = xs.length → m < n → acc.length + m ≤ 100000 → Le H h → getL h D = some acc → Wp (compF x capt t pe D (srcL i) n j lm h) fun h' => Le H h' ∧ getL h' D = some (acc ++ ((xs.drop j).filter b).map f)
  | m, j, 0, acc, h, hj, hn, hl, hle, hg => by omega
  | 0, j, n + 1, acc, h, hj, hn, hl, hle, hg => by
    unfold compF
    have e0 : srcL i h j = (getL h i).bind fun xs => some (xs[j]?.map fun v => (v, j + 1)) := rfl
    rw [e0]
    have e1 : xs[j]? = none := by simp; omega
    rw [getL_le hle hi, Option.bind_some, W_some, e1]
    refine Wp_some.mpr ⟨hle, ?_⟩
    rw [List.drop_of_length_le (by omega)]
    simpa using hg
  | m + 1, j, n + 1, acc, h, hj, hn, hl, hle, hg => by
    unfold compF
    have e0 : srcL i h j = (getL h i).bind fun xs => some (xs[j]?.map fun v => (v, j + 1)) := rfl
    rw [e0]
    have hjl : j < xs.length := by omega
    rw [getL_le hle hi, Option.bind_some, W_some, List.getElem?_eq_getElem hjl]
    simp only [Option.map_some]
    have hm : xs[j] ∈ xs := List.getElem_mem hjl
    refine (ht _ hm h hle).bind fun r hr => ?_
    obtain ⟨e1, l1⟩ := hr
    rw [e1, List.drop_eq_getElem_cons hjl, List.filter_cons]
    cases hb : b xs[j] with
    | false =>
      exact comp_list hD hi ht hp m (j + 1) n acc r.2 (by omega) (by omega) (by omega) (hle.trans l1) (getL_le l1 hg)
    | true =>
      simp only [if_true, List.map_cons]
      refine (hp _ hm hb r.2 (hle.trans l1)).bind fun y hy => ?_
      obtain ⟨e2, l2⟩ := hy
      have g2 := getL_le (l1.trans l2) hg
      rw [e2]
      rw [C_app, g2, W_some, W_ite]
      refine ⟨by omega, ?_⟩
      rw [W_some]
      have := comp_list hD hi ht hp m (j + 1) n (acc ++ [f xs[j]]) (List.set y.2 D (.list (acc ++ [f xs[j]]))) (by omega) (by omega) (by simp; omega) ((hle.trans (l1.trans l2)).set hD) (AL_eq (getL_lt g2))
      simpa using this
/-- a block over written items -/
theorem W_compI {x : String} {capt : List String} {t : TP} {pe it : EP} {a : AV} {us : List AV} {H₁ : Hp} {k : AV × Hp → Option α} (b : AV → Bool) (f : AV → AV) (hr : ∀ i, a ≠ .ref i) (hu : itemsOf a = some us) (hl : us.length ≤ 100000)
    (hi : it lm H = some (a, H₁)) (ht : ∀ v ∈ us, ∀ h, Le H₁ h → Wp (t (inLM x capt lm v) h) fun r => r.1 = b v ∧ Le h r.2) (hp : ∀ v ∈ us, b v = true → ∀ h, Le H₁ h → Wp (pe (inLM x capt lm v) h) fun r => r.1 = f v ∧ Le h r.2)
    (h : ∀ h', Le H₁ h' → getL h' H₁.length = some ((us.filter b).map f) → Wp (k (.ref H₁.length, h')) P) : Wp ((eComp x capt t pe it lm H).bind k) P := by
  unfold eComp
  rw [W_assoc, hi, W_some]
  have key : Wp (compF x capt t pe H₁.length srcI (us.length + 1) us lm (H₁ ++ [.list []])) fun h' => Le H₁ h' ∧ getL h' H₁.length = some ((us.filter b).map f) := by
    simpa using comp_items (H := H₁) (Nat.le_refl _) us (us.length + 1) [] (H₁ ++ [.list []]) ht hp (by omega) (by simp; omega) (Le.app _ _) (getL_new _ _)
  cases a with
  | ref i => exact absurd rfl (hr i)
  | _ =>
    simp only [hu, Option.bind_some]
    rw [W_mapb]
    exact key.bind fun h' hh => h h' hh.1 hh.2
/-- a block over a list -/
theorem W_compL {x : String} {capt : List String} {t : TP} {pe it : EP} {i : Nat} {xs : List AV} {H₁ : Hp} {k : AV × Hp → Option α} (b : AV → Bool) (f : AV → AV) (hx : getL H₁ i = some xs) (hl : xs.length ≤ 100000)
    (hi : it lm H = some (.ref i, H₁)) (ht : ∀ v ∈ xs, ∀ h, Le H₁ h → Wp (t (inLM x capt lm v) h) fun r => r.1 = b v ∧ Le h r.2) (hp : ∀ v ∈ xs, b v = true → ∀ h, Le H₁ h → Wp (pe (inLM x capt lm v) h) fun r => r.1 = f v ∧ Le h r.2)
    (h : ∀ h', Le H₁ h' → getL h' H₁.length = some ((xs.filter b).map f) → Wp (k (.ref H₁.length, h')) P) : Wp ((eComp x capt t pe it lm H).bind k) P := by
  unfold eComp
  rw [W_assoc, hi, W_some]
  simp only [hx, Option.bind_some]
  rw [W_mapb]
  have key : Wp (compF x capt t pe H₁.length (srcL i) (xs.length + 1) 0 lm (H₁ ++ [.list []])) fun h' => Le H₁ h' ∧ getL h' H₁.length = some ((xs.filter b).map f) := by
    simpa using comp_list (H := H₁) (Nat.le_refl _) hx ht hp xs.length 0 (xs.length + 1) [] (H₁ ++ [.list []]) (by omega) (by omega) (by simp; omega) (Le.app _ _) (getL_new _ _)
  exact key.bind fun h' hh => h h' hh.1 hh.2
-- data
theorem mapM_some {β γ : Type} {g : β → Option γ} {f : β → γ} : ∀ (l : List β), (∀ x ∈ l, g x = some (f x)) → l.mapM g = some (l.map f)
  | [], _ => rfl
  | a :: l, h => by
    rw [List.mapM_cons, h a (.head _), mapM_some l fun x hx => h x (.tail _ hx)]; rfl
theorem rd_ints {i : Nat} {xs : List Int} {n : Nat} (h : getL H i = some (xs.map .int)) : rd H (n + 2) (.ref i) = some (.list (xs.map .int)) := by
  simp only [rd, h, Option.bind_some]
  rw [List.mapM_map]
  rw [mapM_some (g := rd H (n + 1) ∘ AV.int) (f := PyData.int) xs fun x _ => by simp [rd]]; rfl
theorem rd_nil {i : Nat} {n : Nat} (h : getL H i = some []) : rd H (n + 2) (.ref i) = some (.list []) := rd_ints (xs := []) h
end
end Mine
end
section
set_option maxRecDepth 20000
namespace Mine
variable (ad : AD) (H : Hp)
section
variable (c : Nat → Int)
noncomputable def dep : Nat → Nat
  | 0 => 0
  | k + 1 => (c (k + 1) % (min (dep k : Int) 2 + 2)).toNat
noncomputable def pc (k : Nat) : Nat := (c k / 12 % 4).toNat
noncomputable def chain : Nat → List Nat
  | 0 => []
  | k + 1 => if dep c (k + 1) = 0 then [] else (chain k).take (dep c (k + 1) - 1) ++ [pc c (k + 1)]
noncomputable def txt (k : Nat) : List Nat := (rowT (c k / 48 % 8) (c k / 384) k).1
noncomputable def hld (k : Nat) : Int := (rowT (c k / 48 % 8) (c k / 384) k).2
theorem dep_pos (k : Nat) : 0 < min (dep c k : Int) 2 + 2 := Int.add_pos_of_nonneg_of_pos (Int.le_min.mpr ⟨Int.natCast_nonneg _, by decide⟩) (by decide)
theorem dep_step (k : Nat) : dep c (k + 1) ≤ dep c k + 1 := by
  have h := Int.emod_lt_of_pos (c (k + 1)) (dep_pos c k)
  exact Int.toNat_le.mpr (Int.le_of_lt_add_one (Int.lt_of_lt_of_le h (Int.add_le_add_right (Int.min_le_left _ _) 2)))
theorem dep_le (k : Nat) : dep c k ≤ 3 := by
  cases k with
  | zero => exact Nat.zero_le _
  | succ k =>
    have h := Int.emod_lt_of_pos (c (k + 1)) (dep_pos c k)
    exact Int.toNat_le.mpr (Int.le_of_lt_add_one (Int.lt_of_lt_of_le h (Int.add_le_add_right (Int.min_le_right _ _) 2)))
theorem dep_int (k : Nat) : c (k + 1) % (min (dep c k : Int) 2 + 2) = (dep c (k + 1) : Int) := (Int.toNat_of_nonneg (Int.emod_nonneg _ (Int.ne_of_gt (dep_pos c k)))).symm
theorem chain_len : ∀ k, (chain c k).length = dep c k
  | 0 => rfl
  | k + 1 => by
    have h := dep_step c k
    have ih := chain_len k
    unfold chain
    split
    · rename_i e; rw [e]; rfl
    · rename_i e; rw [List.length_append, List.length_take, ih, Nat.min_eq_left (Nat.sub_le_of_le_add h)]; exact Nat.sub_add_cancel (Nat.pos_of_ne_zero e)
end
theorem ne_add {i n k : Nat} (h : i < n) : n + k ≠ i := Nat.ne_of_gt (Nat.lt_of_lt_of_le h (Nat.le_add_right n k))
theorem nthN {xs : List AV} {n : Nat} {v : AV} (h : xs[n]? = some v) (hn : n < 1000000) : nthI xs (n : Int) = some v := nthI_at (Int.natCast_nonneg _) h (Int.ofNat_lt.mpr hn)
theorem cast_sub1 {D : Nat} (h : 0 < D) : (D : Int) - 1 = ((D - 1 : Nat) : Int) := (Int.ofNat_sub h).symm
theorem nearP_len (p : Nat) : (nearP p).length ≤ 5 := getD_len (by decide) p
theorem deepP_len (p : Nat) : (deepP p).length ≤ 5 := getD_len (by decide) p
theorem wayC_len (l : List Nat) : (wayC l).length ≤ 5 * l.length := by
  cases l with
  | nil => exact Nat.zero_le _
  | cons p r =>
    have h1 := nearP_len p
    have h2 : ∀ r : List Nat, ((r.map deepP).flatten).length ≤ 5 * r.length := by
      intro r
      induction r with
      | nil => exact Nat.zero_le _
      | cons q r ih =>
        rw [List.map_cons, List.flatten_cons, List.length_append, List.length_cons, Nat.mul_succ, Nat.add_comm]
        exact Nat.add_le_add ih (deepP_len q)
    unfold wayC
    rw [List.length_append, List.length_cons, Nat.mul_succ, Nat.add_comm]
    exact Nat.add_le_add (h2 r) h1
theorem rowT_len (w f k : Int) : (rowT w f k).1.length ≤ 30 := by
  have hm := (marks_len w f).2
  by_cases c4 : w = 4
  · rw [c4]; exact Nat.le_trans (Nat.le_of_eq List.length_append) (Nat.le_trans (Nat.add_le_add_right (getD_len (n := 3) (by decide) _) 2) (by decide))
  by_cases c7 : w = 7
  · rw [c7]; exact (by decide : 1 ≤ 30)
  rw [rowT_m c4 c7]
  by_cases c5 : w = 5
  · rw [if_pos c5, List.length_append]; exact Nat.le_trans (Nat.add_le_add (getD_len (n := 5) (by decide) _) hm) (by decide)
  by_cases c6 : w = 6
  · rw [if_neg c5, if_pos c6, List.length_append]; exact Nat.le_trans (Nat.add_le_add (getD_len (n := 5) (by decide) _) hm) (by decide)
  rw [if_neg c5, if_neg c6]
  by_cases c2 : w < 2
  · rw [if_pos c2, List.length_append]; exact Nat.le_trans (Nat.add_le_add_left hm 5) (by decide)
  · rw [if_neg c2, List.length_append]; exact Nat.le_trans (Nat.add_le_add_left hm 6) (by decide)
/-- what stands while the first loop goes -/
structure PI (c : Nat → Int) (H : Hp) (cr nR pR dR rR uR m k : Nat) (lm : LM) (h : Hp) : Prop where
  l1 : lm "cells" = some (.ref cr)
  l2 : lm "near" = some (.ref nR)
  l3 : lm "deeper" = some (.ref pR)
  l4 : lm "depths" = some (.ref dR)
  l5 : lm "rows" = some (.ref rR)
  l6 : lm "due" = some (.ref uR)
  le : Le H h
  cells : h[cr]? = some (.list ((List.range 7).map fun j => .int (c j)))
  near : h[nR]? = some (.list [.str [9], .str [32, 9], .str [32, 32, 9], .str [32, 32, 32]])
  deep : h[pR]? = some (.list [.str [32, 32, 32, 9], .str [32, 32, 9, 32, 32], .str [9, 9], .str [32, 32, 32, 32, 32]])
  deps : h[dR]? = some (.list ((List.range m).map fun j => .int (dep c j)))
  rows : h[rR]? = some (.list ((List.range k).map fun j => .str (wayC (chain c j) ++ txt c j)))
  ways : ∃ (w : Nat) (ws : List (List Nat)), lm "ways" = some (.ref w) ∧ w ≠ dR ∧ w ≠ rR ∧ w ≠ uR ∧ h[w]? = some (.list (ws.map .str)) ∧ ws.length ≤ 4 ∧ ∀ j ≤ dep c (k - 1), ws[j]? = some (wayC ((chain c (k - 1)).take j))
  due : ∃ us : List Nat, us.length = k ∧ h[uR]? = some (.list (us.map .ref)) ∧ us.Nodup ∧ (∀ u ∈ us, u ≠ dR ∧ u ≠ rR ∧ u ≠ uR ∧ H.length ≤ u) ∧ ∀ (j u : Nat), us[j]? = some u → h[u]? = some (.list [.int (hld c j), .int 0, .int 0])
/-- the places apart -/
structure PA (H : Hp) (cr nR pR dR rR uR : Nat) : Prop where
  a1 : cr < H.length
  a2 : H.length ≤ dR ∧ H.length ≤ rR ∧ H.length ≤ uR
  a3 : nR ≠ dR ∧ nR ≠ rR ∧ nR ≠ uR ∧ pR ≠ dR ∧ pR ≠ rR ∧ pR ≠ uR ∧ dR ≠ rR ∧ dR ≠ uR ∧ rR ≠ uR
theorem nth_map {f : Nat → AV} {n k : Nat} (h : k < n) (hn : n ≤ 1000) : nthI ((List.range n).map f) (k : Int) = some (f k) := by
  exact nthN (by simp [h]) (Nat.lt_of_lt_of_le h (Nat.le_trans hn (by decide)))
variable {c : Nat → Int} {cr nR pR dR rR uR : Nat}
theorem lt_of_get {h : Hp} {i : Nat} {o : AO} (e : h[i]? = some o) : i < h.length := (List.getElem?_eq_some_iff.mp e).1
/-- the row's words, and the lists -/
theorem page_b3 {c : Nat → Int} {cr nR pR dR rR uR : Nat} (A : PA H cr nR pR dR rR uR) {k : Nat} (hk : k < 7) (hc : 0 ≤ c k) {lm : LM} {h : Hp} {w : Nat} {ws : List (List Nat)}
    (l1 : lm "cells" = some (.ref cr)) (l2 : lm "near" = some (.ref nR)) (l3 : lm "deeper" = some (.ref pR)) (l4 : lm "depths" = some (.ref dR)) (l5 : lm "rows" = some (.ref rR)) (l6 : lm "due" = some (.ref uR))
    (l7 : lm "ways" = some (.ref w)) (l8 : lm "k" = some (.int k)) (l9 : lm "deep" = some (.int (dep c k)))
    (le : Le H h) (cells : h[cr]? = some (.list ((List.range 7).map fun j => .int (c j))))
    (near : h[nR]? = some (.list [.str [9], .str [32, 9], .str [32, 32, 9], .str [32, 32, 32]]))
    (deep : h[pR]? = some (.list [.str [32, 32, 32, 9], .str [32, 32, 9, 32, 32], .str [9, 9], .str [32, 32, 32, 32, 32]]))
    (deps : h[dR]? = some (.list ((List.range (k + 1)).map fun j => .int (dep c j))))
    (rows : h[rR]? = some (.list ((List.range k).map fun j => .str (wayC (chain c j) ++ txt c j))))
    (hw : w ≠ dR ∧ w ≠ rR ∧ w ≠ uR) (ways : h[w]? = some (.list (ws.map .str))) (wl : ws.length ≤ 4) (wj : ∀ j ≤ dep c k, ws[j]? = some (wayC ((chain c k).take j)))
    (due : ∃ us : List Nat, us.length = k ∧ h[uR]? = some (.list (us.map .ref)) ∧ us.Nodup ∧ (∀ u ∈ us, u ≠ dR ∧ u ≠ rR ∧ u ≠ uR ∧ H.length ≤ u) ∧ ∀ (j u : Nat), us[j]? = some u → h[u]? = some (.list [.int (hld c j), .int 0, .int 0])) :
    Wp (q_page_2b3 ad lm h) fun r => r.1 = .next ∧ PI c H cr nR pR dR rR uR (k + 1) (k + 1) r.2.1 r.2.2 := by
  obtain ⟨us, ul, ug, und, une, uc⟩ := due
  obtain ⟨w1, w2, w3⟩ := hw
  have A1 := A.a1
  obtain ⟨A2, A3, A4⟩ := A.a2
  obtain ⟨n1, n2, n3, p1, p2, p3, d1, d2, d3⟩ := A.a3
  have e1 : nthI ((List.range 7).map fun j => AV.int (c j)) (k : Int) = some (.int (c k)) := nth_map hk (by decide)
  rw [W_self]
  unfold q_page_2b3
  simp only [↓C_cK, ↓C_vV, ↓C_bO, ↓C_cG, ↓C_esC, ↓C_esN, ↓C_sSeq, ↓C_sTup, ↓C_modI, ↓C_divI, ↓C_idxL, ↓W_some, ↓W_ite, seqK_n, itemF_l, List.length_cons, List.length_nil, Nat.reduceAdd, Nat.zero_add, Int.reduceLT, and_true, true_and, *]
  refine (row_ok ad h (c k / 48 % 8) (c k / 384) k (md (by decide)).1 (md (by decide)).2 (Int.ediv_nonneg hc (by decide)) (Int.natCast_nonneg _) (Int.ofNat_lt.mpr hk)).bind fun r hr => ?_
  obtain ⟨v, h1⟩ := r
  obtain ⟨ev, l10⟩ := hr
  simp only at ev l10
  subst ev
  have rows1 := l10 _ _ rows
  have ways1 := l10 _ _ ways
  have ug1 := l10 _ _ ug
  have gr := getL_of rows1
  have ewd : ws[dep c k]? = some (wayC (chain c k)) := by
    have := wj (dep c k) (Nat.le_refl _)
    rw [this, ← chain_len c k, List.take_length]
  have e2 : nthI (ws.map AV.str) (dep c k : Int) = some (.str (wayC (chain c k))) := by
    exact nthN (by rw [List.getElem?_map, ewd]; rfl) (Nat.lt_of_le_of_lt (dep_le c k) (by decide))
  simp only [↓W_some, tupK_t, ↓reduceIte, updN, List.length_cons, List.length_nil, Nat.reduceAdd, Nat.zero_add]
  unfold q_page_2b4
  simp only [↓C_vV, ↓C_bO, ↓C_esC, ↓C_esN, ↓C_mG, ↓C_sSeq, ↓C_sExp, ↓C_updE, ↓C_updN, ↓C_addS, ↓C_idxL, ↓C_app, ↓W_some, ↓W_ite, seqK_n, refK_r, itemF_l, String.reduceEq, List.length_map, *]
  have hwl := wayC_len (chain c k)
  rw [chain_len] at hwl
  have hdl := dep_le c k
  have hrl := rowT_len (c k / 48 % 8) (c k / 384) k
  refine ⟨Nat.le_trans (Nat.add_le_add (Nat.le_trans hwl (Nat.mul_le_mul_left 5 hdl)) hrl) (by decide), by rw [List.length_range]; exact Nat.le_trans (Nat.le_of_lt hk) (by decide), ?_⟩
  have lr := lt_of_get rows1
  have lu := lt_of_get ug1
  have gu : getL h1 uR = some (us.map AV.ref) := getL_of ug1
  have gu2 : ∀ o, getL (List.set h1 rR o) uR = some (us.map AV.ref) := fun o => (getL_set_ne d3).trans gu
  have lh := l10.len
  have fin : PI c H cr nR pR dR rR uR (k + 1) (k + 1) (upd (upd lm "text" (AV.str (rowT (c k / 48 % 8) (c k / 384) k).1)) "held" (AV.int (rowT (c k / 48 % 8) (c k / 384) k).2))
      (List.set (List.set h1 rR (AO.list (List.map (fun j => AV.str (wayC (chain c j) ++ txt c j)) (List.range k) ++ [AV.str (wayC (chain c k) ++ (rowT (c k / 48 % 8) (c k / 384) k).1)]))) uR (AO.list (List.map AV.ref us ++ [AV.ref (List.length h1)])) ++
        [AO.list [AV.int (rowT (c k / 48 % 8) (c k / 384) k).2, AV.int 0, AV.int 0]]) := by
    generalize hX : AO.list (List.map (fun j => AV.str (wayC (chain c j) ++ txt c j)) (List.range k) ++ [AV.str (wayC (chain c k) ++ (rowT (c k / 48 % 8) (c k / 384) k).1)]) = X
    have fr : ∀ {i : Nat} {o : AO} {Y : AO} {Z : Hp}, i ≠ rR → i ≠ uR → h[i]? = some o → (List.set (List.set h1 rR X) uR Y ++ Z)[i]? = some o := by
      intro i o Y Z a b e
      have e1 := l10 _ _ e
      rw [A_lt (by rw [List.length_set, List.length_set]; exact lt_of_get e1), Set_ne (Ne.symm b), Set_ne (Ne.symm a)]; exact e1
    have ult : ∀ u ∈ us, u < h.length := fun u hu => by
      obtain ⟨j, hj⟩ := List.getElem?_of_mem hu
      exact lt_of_get (uc j u hj)
    refine ⟨by simp only [updNe, ne_eq, String.reduceEq, not_false_eq_true, *], by simp only [updNe, ne_eq, String.reduceEq, not_false_eq_true, *], by simp only [updNe, ne_eq, String.reduceEq, not_false_eq_true, *], by simp only [updNe, ne_eq, String.reduceEq, not_false_eq_true, *], by simp only [updNe, ne_eq, String.reduceEq, not_false_eq_true, *], by simp only [updNe, ne_eq, String.reduceEq, not_false_eq_true, *], fun i o e => ?_, fr (Nat.ne_of_lt (Nat.lt_of_lt_of_le A1 A3)) (Nat.ne_of_lt (Nat.lt_of_lt_of_le A1 A4)) cells, fr n2 n3 near, fr p2 p3 deep, fr d1 d2 deps, ?_, ⟨w, ws, by simp only [updNe, ne_eq, String.reduceEq, not_false_eq_true, *], w1, w2, w3, fr w2 w3 ways, wl, wj⟩, us ++ [h1.length], by simp [ul], ?_, ?_, ?_, ?_⟩
    · have := lt_of_get e
      exact fr (Nat.ne_of_lt (Nat.lt_of_lt_of_le this A3)) (Nat.ne_of_lt (Nat.lt_of_lt_of_le this A4)) (le i o e)
    · rw [A_lt (by rw [List.length_set, List.length_set]; exact lr), Set_ne (Ne.symm d3), Set_eq lr, List.range_succ, List.map_append, ← hX]; rfl
    · rw [A_lt (by rw [List.length_set, List.length_set]; exact lu), Set_eq (by rw [List.length_set]; exact lu), List.map_append]; rfl
    · refine List.nodup_append.mpr ⟨und, by simp, fun x hx y hy => ?_⟩
      rw [List.mem_singleton.mp hy]; exact Nat.ne_of_lt (Nat.lt_of_lt_of_le (ult x hx) lh)
    · intro u hu
      rcases List.mem_append.mp hu with q | q
      · exact une u q
      · rw [List.mem_singleton.mp q]
        exact ⟨Nat.ne_of_gt (lt_of_get (l10 _ _ deps)), Nat.ne_of_gt lr, Nat.ne_of_gt lu, Nat.le_trans le.len lh⟩
    · intro j u hu
      by_cases hj : j < us.length
      · rw [List.getElem?_append_left hj] at hu
        obtain ⟨u1, u2, u3, u4⟩ := une u (List.mem_of_getElem? hu)
        exact fr u2 u3 (uc j u hu)
      · have hj' : j = us.length := by
          have := (List.getElem?_eq_some_iff.mp hu).1
          rw [List.length_append] at this
          exact Nat.le_antisymm (Nat.le_of_lt_succ this) (Nat.le_of_not_lt hj)
        subst hj'
        rw [List.getElem?_append_right (Nat.le_refl _)] at hu
        simp at hu
        subst hu
        rw [List.getElem?_append_right (by simp)]
        simp [ul, hld]
  unfold q_page_2b5
  clear wj uc une
  simp only [↓C_cK, ↓C_vV, ↓C_eList, ↓C_esC, ↓C_esN, ↓C_mG, ↓C_sSeq, ↓C_sNil, ↓C_sExp, ↓C_updE, ↓C_updN, ↓C_app, ↓W_some, ↓W_ite, seqK_n, refK_r, Wp_some, String.reduceEq, List.length_cons, List.length_nil, Nat.reduceAdd, Nat.reduceLeDiff, Nat.zero_add, and_true, true_and, AL_lt, S_lt, List.length_map, List.length_set, *]
  exact Nat.le_trans (Nat.le_of_lt hk) (by decide)
theorem near_nth {x : Int} (h0 : 0 ≤ x) (h4 : x < 4) : nthI [AV.str [9], .str [32, 9], .str [32, 32, 9], .str [32, 32, 32]] x = some (.str (nearP x.toNat)) := by
  rcases or4 h0 h4 with rfl | rfl | rfl | rfl <;> rfl
theorem deep_nth {x : Int} (h0 : 0 ≤ x) (h4 : x < 4) : nthI [AV.str [32, 32, 32, 9], .str [32, 32, 9, 32, 32], .str [9, 9], .str [32, 32, 32, 32, 32]] x = some (.str (deepP x.toNat)) := by
  rcases or4 h0 h4 with rfl | rfl | rfl | rfl <;> rfl
theorem wayC_snoc (l : List Nat) (p : Nat) : wayC (l ++ [p]) = wayC l ++ (if l.length = 0 then nearP p else deepP p) := by
  cases l with
  | nil => simp [wayC]
  | cons q r => simp [wayC]
theorem sub1_0 {j : Nat} (h : 0 < j) : j - 1 = 0 ↔ j = 1 := by
  cases j with
  | zero => exact absurd h (Nat.lt_irrefl 0)
  | succ n => exact ⟨fun q => congrArg (· + 1) q, fun q => Nat.succ.inj q⟩
theorem page_b2 {c : Nat → Int} {cr nR pR dR rR uR : Nat} (A : PA H cr nR pR dR rR uR) {k : Nat} (hk : k < 7) (hc : ∀ j, 0 ≤ c j) {lm : LM} {h : Hp} (I : PI c H cr nR pR dR rR uR (k + 1) k lm h) (l8 : lm "k" = some (.int k)) (l9 : lm "deep" = some (.int (dep c k))) :
    Wp (q_page_2b2 ad lm h) fun r => r.1 = .next ∧ PI c H cr nR pR dR rR uR (k + 1) (k + 1) r.2.1 r.2.2 := by
  obtain ⟨l1, l2, l3, l4, l5, l6, le, cells, near, deep, deps, rows, ⟨w, ws, l7, w1, w2, w3, ways, wl, wj⟩, due⟩ := I
  by_cases hd : dep c k = 0
  · have b3 := page_b3 ad H A hk (hc k) l1 l2 l3 l4 l5 l6 l7 l8 l9 le cells near deep deps rows ⟨w1, w2, w3⟩ ways wl (fun j hj => by
      rw [hd] at hj
      rw [Nat.le_zero.mp hj]
      exact wj 0 (Nat.zero_le _)) due
    have hg : ¬ (0 : Int) < (dep c k : Int) := by rw [hd]; decide
    rw [W_self]
    unfold q_page_2b2
    clear due wj hd
    simp only [↓C_cK, ↓C_vV, ↓C_tCmp, ↓C_sSeq, ↓C_sNil, ↓C_sIf, ↓C_gtF, ↓W_some, seqK_n, bolK_b, ↓reduceIte, decide_false, Bool.false_eq_true, *]
    rw [← W_self]
    exact b3
  · obtain ⟨k', rfl⟩ : ∃ k', k = k' + 1 := by
      cases k with
      | zero => exact absurd rfl hd
      | succ k' => exact ⟨k', rfl⟩
    have hs := dep_step c k'
    have h3 := dep_le c (k' + 1)
    rw [Nat.add_sub_cancel] at wj
    have wd : ws[dep c (k' + 1) - 1]? = some (wayC ((chain c k').take (dep c (k' + 1) - 1))) := wj _ (Nat.sub_le_of_le_add hs)
    have wlen : dep c (k' + 1) ≤ ws.length := Nat.le_trans hs (List.getElem?_eq_some_iff.mp (wj (dep c k') (Nat.le_refl _))).1
    have hx := dep_int c k'
    generalize hD : dep c (k' + 1) = D at *
    have hd0 : 0 < D := Nat.pos_of_ne_zero hd
    have hD2 : D - 1 ≤ 3 := Nat.le_trans (Nat.sub_le _ _) h3
    have wn : nthI (ws.map AV.str) ((D : Int) - 1) = some (.str (wayC ((chain c k').take (D - 1)))) := by
      rw [cast_sub1 hd0]
      exact nthN (by rw [List.getElem?_map, wd]; rfl) (Nat.lt_of_le_of_lt hD2 (by decide))
    have e1 : nthI ((List.range 7).map fun j => AV.int (c j)) ((k' + 1 : Nat) : Int) = some (.int (c (k' + 1))) := nth_map hk (by decide)
    have hp : (c (k' + 1) / 12 % 4).toNat = pc c (k' + 1) := rfl
    have nn := near_nth (md (x := c (k' + 1) / 12) (by decide)).1 (md (by decide)).2
    have dn := deep_nth (md (x := c (k' + 1) / 12) (by decide)).1 (md (by decide)).2
    rw [hp] at nn dn
    have hch : chain c (k' + 1) = (chain c k').take (D - 1) ++ [pc c (k' + 1)] := by
      show (if _ then _ else _) = _
      rw [hD, if_neg hd]
    have hlen : ((chain c k').take (D - 1)).length = D - 1 := by
      rw [List.length_take, chain_len]; exact Nat.min_eq_left (Nat.sub_le_of_le_add hs)
    have gw := getL_of ways
    have lw := lt_of_get ways
    have lc := lt_of_get cells
    have ln := lt_of_get near
    have lp := lt_of_get deep
    have ld := lt_of_get deps
    have lr := lt_of_get rows
    have lu : uR < h.length := by obtain ⟨us, _, ug, _⟩ := due; exact lt_of_get ug
    have hwl := wayC_len ((chain c k').take (D - 1))
    rw [hlen] at hwl
    have hnl := nearP_len (pc c (k' + 1))
    have hpl := deepP_len (pc c (k' + 1))
    have hwl15 : (wayC ((chain c k').take (D - 1))).length ≤ 15 := Nat.le_trans hwl (Nat.mul_le_mul_left 5 hD2)
    have hD0 : ¬ ((D : Int) = 0) := fun q => hd (Int.ofNat.inj q)
    have hDp : (0 : Int) < D := Int.natCast_pos.mpr hd0
    have fin : ∀ x, x = (if D = 1 then nearP (pc c (k' + 1)) else deepP (pc c (k' + 1))) → Wp (q_page_2b3 ad (upd lm "ways" (.ref (h.length + 2))) (h ++ [.list ((ws.map AV.str).take D), .list [.str (wayC ((chain c k').take (D - 1)) ++ x)], .list ((ws.map AV.str).take D ++ [.str (wayC ((chain c k').take (D - 1)) ++ x)])]))
        fun r => r.1 = .next ∧ PI c H cr nR pR dR rR uR (k' + 1 + 1) (k' + 1 + 1) r.2.1 r.2.2 := by
      intro x hx
      have fr : ∀ {i : Nat} {o : AO} {Z : Hp}, h[i]? = some o → (h ++ Z)[i]? = some o := fun e => (A_lt (lt_of_get e)).trans e
      obtain ⟨us, ul, ug, und, une, uc⟩ := due
      refine page_b3 ad H (ws := ws.take D ++ [wayC ((chain c k').take (D - 1)) ++ x]) A hk (hc _) ?_ ?_ ?_ ?_ ?_ ?_ updEq ?_ ?_ (le.trans (Le.app _ _)) (fr cells) (fr near) (fr deep) (fr deps) (fr rows) ⟨ne_add ld, ne_add lr, ne_add lu⟩ ?_ ?_ ?_ ⟨us, ul, fr ug, und, une, fun j u hu => fr (uc j u hu)⟩
      all_goals first | (rw [updNe (by decide)]; assumption) | skip
      · rw [hD, updNe (by decide)]; exact l9
      · rw [A2, List.map_append, List.map_take]; rfl
      · rw [List.length_append, List.length_take, List.length_singleton, Nat.min_eq_left wlen]; exact Nat.succ_le_succ h3
      · rw [hD]
        intro j hj
        by_cases hj2 : j < D
        · have hj3 : j ≤ D - 1 := Nat.le_sub_one_of_lt hj2
          rw [List.getElem?_append_left (by rw [List.length_take, Nat.min_eq_left wlen]; exact hj2), List.getElem?_take_of_lt hj2, hch, List.take_append_of_le_length (by rw [hlen]; exact hj3), List.take_take, Nat.min_eq_left hj3]
          exact wj j (Nat.le_trans hj3 (Nat.sub_le_of_le_add hs))
        · have : j = D := Nat.le_antisymm hj (Nat.le_of_not_lt hj2)
          subst this
          have ht : ((chain c k').take (j - 1) ++ [pc c (k' + 1)]).take j = (chain c k').take (j - 1) ++ [pc c (k' + 1)] := List.take_of_length_le (by rw [List.length_append, hlen]; exact Nat.le_of_eq (Nat.sub_add_cancel hd0))
          rw [List.getElem?_append_right (by rw [List.length_take]; exact Nat.min_le_left _ _), List.length_take, Nat.min_eq_left wlen, Nat.sub_self, hch, ht, wayC_snoc, hlen, hx]
          have e : (j - 1 = 0) = (j = 1) := propext (sub1_0 hd0)
          simp only [e]; rfl
    clear due wj
    rw [W_self]
    unfold q_page_2b2 q_page_2b2t0
    by_cases h1 : D = 1
    · have fin1 := fin _ (if_pos h1).symm
      have hb : ((D : Int) = 1) = True := eq_true (congrArg Nat.cast h1)
      clear fin hd hD0 h1 hs h3 hlen hch
      rw [W_self] at fin1
      simp only [↓C_cK, ↓C_vV, ↓C_bO, ↓C_eIf, ↓C_eList, ↓C_esC, ↓C_esN, ↓C_tCmp, ↓C_sSeq, ↓C_sNil, ↓C_sAsg, ↓C_sIf, ↓C_subF, ↓C_gtF, ↓C_eqF, ↓C_addS, ↓C_addL, ↓C_modI, ↓C_divI, ↓C_idxL, ↓C_eSlL, ↓W_some, ↓W_ite, seqK_n, bolK_b, intK_i, refK_r, itemF_l, ↓reduceIte, List.length_cons, List.length_nil, Nat.reduceAdd, Nat.reduceLeDiff, Nat.zero_add, decide_true, Int.reduceLT, and_true, true_and, A_lt, AL0, AL1, List.append_assoc, List.length_append, List.length_map, List.nil_append, List.cons_append, Int.toNat_natCast, *]
      refine ⟨?_, Nat.le_trans (Nat.add_le_add hwl15 hnl) (by decide), ?_⟩
      · exact ⟨Int.natCast_nonneg _, Int.ofNat_le.mpr wlen, Nat.le_trans wl (by decide)⟩
      · rw [List.length_take, List.length_map]; exact Nat.le_trans (Nat.min_le_right _ _) (Nat.le_trans wl (by decide))
    · have fin1 := fin _ (if_neg h1).symm
      have hb : ((D : Int) = 1) = False := eq_false fun q => h1 (Int.ofNat.inj q)
      clear fin hd hD0 h1 hs h3 hlen hch
      rw [W_self] at fin1
      simp only [↓C_cK, ↓C_vV, ↓C_bO, ↓C_eIf, ↓C_eList, ↓C_esC, ↓C_esN, ↓C_tCmp, ↓C_sSeq, ↓C_sNil, ↓C_sAsg, ↓C_sIf, ↓C_subF, ↓C_gtF, ↓C_eqF, ↓C_addS, ↓C_addL, ↓C_modI, ↓C_divI, ↓C_idxL, ↓C_eSlL, ↓W_some, ↓W_ite, seqK_n, bolK_b, intK_i, refK_r, itemF_l, ↓reduceIte, List.length_cons, List.length_nil, Nat.reduceAdd, Nat.reduceLeDiff, Nat.zero_add, decide_true, decide_false, Bool.false_eq_true, Int.reduceLT, and_true, true_and, A_lt, AL0, AL1, List.append_assoc, List.length_append, List.length_map, List.nil_append, List.cons_append, Int.toNat_natCast, *]
      refine ⟨?_, Nat.le_trans (Nat.add_le_add hwl15 hpl) (by decide), ?_⟩
      · exact ⟨Int.natCast_nonneg _, Int.ofNat_le.mpr wlen, Nat.le_trans wl (by decide)⟩
      · rw [List.length_take, List.length_map]; exact Nat.le_trans (Nat.min_le_right _ _) (Nat.le_trans wl (by decide))
theorem PI.upd {c : Nat → Int} {cr nR pR dR rR uR m k : Nat} {lm : LM} {h : Hp} (I : PI c H cr nR pR dR rR uR m k lm h) {x : String} {v : AV} (hx : x ∉ ["cells", "near", "deeper", "depths", "rows", "due", "ways"]) : PI c H cr nR pR dR rR uR m k (upd lm x v) h := by
  simp only [List.mem_cons, List.not_mem_nil, or_false, not_or] at hx
  obtain ⟨h1, h2, h3, h4, h5, h6, h7⟩ := hx
  obtain ⟨l1, l2, l3, l4, l5, l6, le, cells, near, deep, deps, rows, ⟨w, ws, l7, w1, w2, w3, ways, wl, wj⟩, due⟩ := I
  exact ⟨by rw [updNe (Ne.symm h1)]; exact l1, by rw [updNe (Ne.symm h2)]; exact l2, by rw [updNe (Ne.symm h3)]; exact l3, by rw [updNe (Ne.symm h4)]; exact l4, by rw [updNe (Ne.symm h5)]; exact l5, by rw [updNe (Ne.symm h6)]; exact l6, le, cells, near, deep, deps, rows, ⟨w, ws, by rw [updNe (Ne.symm h7)]; exact l7, w1, w2, w3, ways, wl, wj⟩, due⟩
theorem page_b1 {c : Nat → Int} {cr nR pR dR rR uR : Nat} (A : PA H cr nR pR dR rR uR) {k : Nat} (hk : k < 7) (hc : ∀ j, 0 ≤ c j) {lm : LM} {h : Hp} (I : PI c H cr nR pR dR rR uR (k + 1) k lm h) (l8 : lm "k" = some (.int k)) :
    Wp (q_page_2b1 ad lm h) fun r => r.1 = .next ∧ PI c H cr nR pR dR rR uR (k + 1) (k + 1) r.2.1 r.2.2 := by
  have b2 := page_b2 ad H A hk hc (I.upd H (x := "deep") (v := .int (dep c k)) (by decide)) (by rw [updNe (by decide)]; exact l8) updEq
  have e1 : nthI ((List.range (k + 1)).map fun j => AV.int (dep c j)) (k : Int) = some (.int (dep c k)) := nth_map (f := fun j => AV.int (dep c j)) (Nat.lt_succ_self k) (Nat.le_trans hk (by decide))
  have l4 := I.l4
  have deps := I.deps
  rw [W_self] at b2 ⊢
  unfold q_page_2b1
  clear I A
  simp only [↓C_vV, ↓C_bO, ↓C_sSeq, ↓C_sAsg, ↓C_idxL, ↓W_some, seqK_n, itemF_l, *]
theorem page_step {c : Nat → Int} {cr nR pR dR rR uR : Nat} (A : PA H cr nR pR dR rR uR) (hc : ∀ j, 0 ≤ c j) (k : Nat) (lm : LM) (h : Hp) (hk : k < 7) (I : PI c H cr nR pR dR rR uR (max k 1) k lm h) :
    Wp (q_page_2b0 ad (upd lm "k" (.int k)) h) fun r => r.1 = .next ∧ PI c H cr nR pR dR rR uR (max (k + 1) 1) (k + 1) r.2.1 r.2.2 := by
  rw [show max (k + 1) 1 = k + 1 from Nat.max_eq_left (Nat.succ_le_succ (Nat.zero_le k))]
  cases k with
  | zero =>
    have b1 := page_b1 ad H A hk hc (I.upd H (x := "k") (v := .int ((0 : Nat) : Int)) (by decide)) updEq
    rw [W_self] at b1 ⊢
    unfold q_page_2b0
    have hg : ¬ (0 : Int) < ((0 : Nat) : Int) := by decide
    clear I A
    simp only [↓C_cK, ↓C_vV, ↓C_tCmp, ↓C_sSeq, ↓C_sNil, ↓C_sIf, ↓C_updE, ↓C_gtF, seqK_n, bolK_b, ↓reduceIte, Nat.zero_add, decide_false, Bool.false_eq_true, *]
  | succ k' =>
    rw [show max (k' + 1) 1 = k' + 1 from Nat.max_eq_left (Nat.succ_le_succ (Nat.zero_le k'))] at I
    have e1 : nthI ((List.range 7).map fun j => AV.int (c j)) ((k' + 1 : Nat) : Int) = some (.int (c (k' + 1))) := nth_map hk (by decide)
    have e2 : nthI ((List.range (k' + 1)).map fun j => AV.int (dep c j)) (((k' + 1 : Nat) : Int) - 1) = some (.int (dep c k')) := by
      rw [show ((k' + 1 : Nat) : Int) - 1 = (k' : Int) from cast_sub1 (Nat.succ_pos k')]
      exact nth_map (f := fun j => AV.int (dep c j)) (Nat.lt_succ_self k') (Nat.le_trans (Nat.le_of_lt hk) (by decide))
    have hg : (0 : Int) < ((k' + 1 : Nat) : Int) := Int.natCast_pos.mpr (Nat.succ_pos k')
    have hx := dep_int c k'
    have hm : (0 : Int) < min (dep c k' : Int) 2 + 2 := dep_pos c k'
    obtain ⟨n1, n2, n3, p1, p2, p3, d1, d2, d3⟩ := A.a3
    have A1 := A.a1
    obtain ⟨A2, A3, A4⟩ := A.a2
    have l1 := I.l1
    have l4 := I.l4
    have cells := I.cells
    have deps := I.deps
    have gd := getL_of deps
    have ld := lt_of_get deps
    have b1 := page_b1 (lm := Mine.upd lm "k" (.int ((k' + 1 : Nat) : Int))) (h := List.set h dR (.list (((List.range (k' + 1)).map fun j => AV.int (dep c j)) ++ [.int (dep c (k' + 1))]))) ad H A hk hc (by
      obtain ⟨l1, l2, l3, l4, l5, l6, le, cells, near, deep, deps, rows, ⟨w, ws, l7, w1, w2, w3, ways, wl, wj⟩, ⟨us, ul, ug, und, une, uc⟩⟩ := I.upd H (x := "k") (v := .int ((k' + 1 : Nat) : Int)) (by decide)
      have fr : ∀ {i : Nat} {o X : AO}, i ≠ dR → h[i]? = some o → (List.set h dR X)[i]? = some o := fun a e => (Set_ne (Ne.symm a)).trans e
      refine ⟨l1, l2, l3, l4, l5, l6, le.set A2, fr (Nat.ne_of_lt (Nat.lt_of_lt_of_le A1 A2)) cells, fr n1 near, fr p1 deep, ?_, fr (Ne.symm d1) rows, ⟨w, ws, l7, w1, w2, w3, fr w1 ways, wl, wj⟩, ⟨us, ul, fr (Ne.symm d2) ug, und, une, fun j u hu => fr (une u (List.mem_of_getElem? hu)).1 (uc j u hu)⟩⟩
      rw [Set_eq ld, List.range_succ (n := k' + 1), List.map_append]; rfl) updEq
    rw [W_self] at b1 ⊢
    unfold q_page_2b0 q_page_2b0t0
    clear I A
    simp only [↓C_cK, ↓C_vV, ↓C_bO, ↓C_cG, ↓C_esC, ↓C_esN, ↓C_mG, ↓C_tCmp, ↓C_sSeq, ↓C_sNil, ↓C_sExp, ↓C_sIf, ↓C_updE, ↓C_updN, ↓C_addF, ↓C_subF, ↓C_gtF, ↓C_modI, ↓C_idxL, ↓C_min, ↓C_app, ↓W_some, ↓W_ite, seqK_n, bolK_b, refK_r, itemF_l, ↓reduceIte, String.reduceEq, decide_true, and_true, true_and, List.length_map, *]
    rw [List.length_range]; exact Nat.le_trans (Nat.le_of_lt hk) (by decide)
end Mine
end
section
set_option maxRecDepth 20000
namespace Mine
variable (ad : AD) (H : Hp)
section
variable (c : Nat → Int)
/-- the rows behind that stand as far out -/
noncomputable def latI (k : Nat) : List Int := ((List.range (7 - (k + 1))).map fun (i : Nat) => ((k : Int) + 1 + i)).filter fun j => decide (dep c j.toNat ≤ dep c k)
noncomputable def lat (k : Nat) : Int := (latI c k ++ [7]).getD 0 0
noncomputable def fst' (k : Nat) : Int := if (k : Int) + 1 < lat c k then 257 + k else 0
noncomputable def nxt' (k : Nat) : Int := if lat c k < 7 ∧ dep c (lat c k).toNat = dep c k then 256 + lat c k else 0
theorem lat_bd {k : Nat} (hk : k < 7) : (k : Int) + 1 ≤ lat c k ∧ lat c k ≤ 7 := by
  unfold lat
  cases e : latI c k with
  | nil => exact ⟨Int.ofNat_lt.mpr hk, Int.le_refl 7⟩
  | cons a l =>
    have : a ∈ latI c k := by rw [e]; exact .head _
    unfold latI at this
    obtain ⟨h1, _⟩ := List.mem_filter.mp this
    obtain ⟨i, h2, rfl⟩ := List.mem_map.mp h1
    exact ⟨Int.le_add_of_nonneg_right (Int.natCast_nonneg i), Int.ofNat_le.mpr (Nat.le_of_lt (Nat.add_lt_of_lt_sub' (List.mem_range.mp h2)))⟩
theorem latI_len (k : Nat) : (latI c k).length ≤ 7 := by
  unfold latI
  refine Nat.le_trans (List.length_filter_le _ _) ?_
  rw [List.length_map, List.length_range]; exact Nat.sub_le _ _
theorem lat_nn {k : Nat} (hk : k < 7) : 0 ≤ lat c k := Int.le_trans (Int.le_add_one (Int.natCast_nonneg k)) (lat_bd c hk).1
theorem lat_at (k : Nat) : nthI ((latI c k ++ [7]).map AV.int) 0 = some (.int (lat c k)) := nthI_int (by decide) (Int.natCast_pos.mpr (by rw [List.length_append]; exact Nat.succ_pos _)) (by decide)
theorem sub7 (k : Nat) : (7 - ((k : Int) + 1)).toNat = 7 - (k + 1) := Int.toNat_sub 7 (k + 1)
theorem add_ne {n a b : Nat} (h : a ≠ b) : n + a ≠ n + b := fun q => h (Nat.add_left_cancel q)
end
noncomputable def cellC (c : Nat → Int) (k j : Nat) : List AV := if j < k then [.int (hld c j), .int (fst' c j), .int (nxt' c j)] else [.int (hld c j), .int 0, .int 0]
structure P2 (c : Nat → Int) (H : Hp) (dR rR uR : Nat) (us : List Nat) (k : Nat) (lm : LM) (h : Hp) : Prop where
  l4 : lm "depths" = some (.ref dR)
  l5 : lm "rows" = some (.ref rR)
  l6 : lm "due" = some (.ref uR)
  le : Le H h
  deps : h[dR]? = some (.list ((List.range 7).map fun j => .int (dep c j)))
  rows : h[rR]? = some (.list ((List.range 7).map fun j => .str (wayC (chain c j) ++ txt c j)))
  due : h[uR]? = some (.list (us.map .ref))
  cells : ∀ (j u : Nat), us[j]? = some u → h[u]? = some (.list (cellC c k j))
structure U2 (H : Hp) (dR rR uR : Nat) (us : List Nat) : Prop where
  ul : us.length = 7
  und : us.Nodup
  une : ∀ u ∈ us, u ≠ dR ∧ u ≠ rR ∧ u ≠ uR ∧ H.length ≤ u
theorem nodup_ne {us : List Nat} (h : us.Nodup) {i j u v : Nat} (hi : us[i]? = some u) (hj : us[j]? = some v) (hij : i ≠ j) : u ≠ v := by
  intro q
  subst q
  obtain ⟨l1, q1⟩ := List.getElem?_eq_some_iff.mp hi
  obtain ⟨l2, q2⟩ := List.getElem?_eq_some_iff.mp hj
  exact hij ((List.getElem_inj (h₀ := l1) (h₁ := l2) h).mp (q1.trans q2.symm))
/-- the second test -/
theorem page_c2 {c : Nat → Int} {dR rR uR : Nat} {us : List Nat} (U : U2 H dR rR uR us) {k u L : Nat} (hk : k < 7) (hu : us[k]? = some u) {lm : LM} {h : Hp} {b : Int} (hb : b = fst' c k)
    (l4 : lm "depths" = some (.ref dR)) (l5 : lm "rows" = some (.ref rR)) (l6 : lm "due" = some (.ref uR)) (l8 : lm "k" = some (.int k)) (l9 : lm "later" = some (.ref L))
    (le : Le H h) (deps : h[dR]? = some (.list ((List.range 7).map fun j => .int (dep c j)))) (rows : h[rR]? = some (.list ((List.range 7).map fun j => .str (wayC (chain c j) ++ txt c j)))) (due : h[uR]? = some (.list (us.map .ref)))
    (cells : ∀ (j v : Nat), j ≠ k → us[j]? = some v → h[v]? = some (.list (cellC c k j))) (cell : h[u]? = some (.list [.int (hld c k), .int b, .int 0])) (hL : h[L]? = some (.list ((latI c k ++ [7]).map .int))) :
    Wp (q_page_3b2 ad lm h) fun r => r.1 = .next ∧ P2 c H dR rR uR us (k + 1) r.2.1 r.2.2 := by
  obtain ⟨u1, u2, u3, u4⟩ := U.une u (List.mem_of_getElem? hu)
  obtain ⟨b1, b2⟩ := lat_bd c hk
  have lu := lt_of_get cell
  have hlen := latI_len c k
  have e1 := lat_at c k
  have e2 : nthI ((List.range 7).map fun j => AV.int (dep c j)) (k : Int) = some (.int (dep c k)) := nth_map (f := fun j => AV.int (dep c j)) hk (by decide)
  have e3 : nthI (us.map AV.ref) (k : Int) = some (.ref u) := nthN (by rw [List.getElem?_map, hu]; rfl) (Nat.lt_trans hk (by decide))
  have fin : ∀ h', (∀ {i : Nat} {o : AO}, i ≠ u → h[i]? = some o → h'[i]? = some o) → h'[u]? = some (.list [.int (hld c k), .int b, .int (nxt' c k)]) → P2 c H dR rR uR us (k + 1) lm h' := by
    intro h' fr hc
    refine ⟨l4, l5, l6, fun i o e => fr (Nat.ne_of_lt (Nat.lt_of_lt_of_le (lt_of_get e) u4)) (le i o e), fr (Ne.symm u1) deps, fr (Ne.symm u2) rows, fr (Ne.symm u3) due, fun j v hv => ?_⟩
    by_cases hj : j = k
    · subst hj
      rw [hu] at hv; cases hv
      rw [hc, hb]
      unfold cellC
      rw [if_pos (Nat.lt_succ_self _)]
    · have := fr (nodup_ne U.und hv hu hj) (cells j v hj hv)
      rw [this]
      unfold cellC
      have : (j < k) = (j < k + 1) := propext ⟨Nat.lt_succ_of_lt, fun q => Nat.lt_of_le_of_ne (Nat.le_of_lt_succ q) hj⟩
      simp only [this]
  clear U cells
  rw [W_self]
  unfold q_page_3b2 q_page_3b2t0
  by_cases h7 : lat c k < 7
  · have e4 : nthI ((List.range 7).map fun j => AV.int (dep c j)) (lat c k) = some (.int (dep c (lat c k).toNat)) := by
      have := nth_map (f := fun j => AV.int (dep c j)) (n := 7) (k := (lat c k).toNat) ((Int.toNat_lt (lat_nn c hk)).mpr h7) (by decide)
      rwa [Int.toNat_of_nonneg (lat_nn c hk)] at this
    by_cases hd : dep c (lat c k).toNat = dep c k
    · have hx : nxt' c k = 256 + lat c k := if_pos ⟨h7, hd⟩
      have hd' : (((dep c (lat c k).toNat : Nat) : Int) = (dep c k : Int)) = True := eq_true (congrArg Nat.cast hd)
      have f1 := fin (List.set h u (.list [.int (hld c k), .int b, .int (256 + lat c k)])) (fun a e => (Set_ne (Ne.symm a)).trans e) (by rw [Set_eq lu, hx])
      clear fin hd hx hb b1 b2
      simp only [↓C_cK, ↓C_vV, ↓C_bO, ↓C_tK, ↓C_tCmp, ↓C_tAnd, ↓C_sSeq, ↓C_sNil, ↓C_sIf, ↓C_sSetI, ↓C_addF, ↓C_ltF, ↓C_eqF, ↓C_idxL, ↓C_setI, ↓W_some, ↓W_ite, seqK_n, bolK_b, itemF_l, putF_l, Wp_some, ↓reduceIte, List.length_cons, List.length_nil, Nat.reduceAdd, Nat.reduceLeDiff, Nat.zero_add, decide_true, Bool.false_eq_true, Int.reduceLE, Int.reduceToNat, and_true, true_and, *]
      exact ⟨by decide, f1⟩
    · have hx : nxt' c k = 0 := if_neg fun q => hd q.2
      have hd' : (((dep c (lat c k).toNat : Nat) : Int) = (dep c k : Int)) = False := eq_false fun q => hd (Int.ofNat.inj q)
      have f1 := fin h (fun a e => e) (by rw [hx]; exact cell)
      clear fin hd hx hb b1 b2
      simp only [↓C_cK, ↓C_vV, ↓C_bO, ↓C_tCmp, ↓C_tAnd, ↓C_sSeq, ↓C_sNil, ↓C_sIf, ↓C_ltF, ↓C_eqF, ↓C_idxL, ↓W_some, seqK_n, bolK_b, itemF_l, Wp_some, ↓reduceIte, decide_true, decide_false, Bool.false_eq_true, and_true, *]
  · have hx : nxt' c k = 0 := if_neg fun q => h7 q.1
    have f1 := fin h (fun a e => e) (by rw [hx]; exact cell)
    clear fin hx hb b1 b2
    simp only [↓C_cK, ↓C_vV, ↓C_bO, ↓C_tCmp, ↓C_tAnd, ↓C_sSeq, ↓C_sNil, ↓C_sIf, ↓C_ltF, ↓C_idxL, ↓W_some, seqK_n, bolK_b, itemF_l, Wp_some, ↓reduceIte, decide_false, Bool.false_eq_true, and_true, *]
/-- the first test -/
theorem page_c1 {c : Nat → Int} {dR rR uR : Nat} {us : List Nat} (U : U2 H dR rR uR us) {k u L : Nat} (hk : k < 7) (hu : us[k]? = some u) {lm : LM} {h : Hp}
    (l4 : lm "depths" = some (.ref dR)) (l5 : lm "rows" = some (.ref rR)) (l6 : lm "due" = some (.ref uR)) (l8 : lm "k" = some (.int k)) (l9 : lm "later" = some (.ref L)) (hLu : L ≠ u)
    (le : Le H h) (deps : h[dR]? = some (.list ((List.range 7).map fun j => .int (dep c j)))) (rows : h[rR]? = some (.list ((List.range 7).map fun j => .str (wayC (chain c j) ++ txt c j)))) (due : h[uR]? = some (.list (us.map .ref)))
    (cells : ∀ (j v : Nat), us[j]? = some v → h[v]? = some (.list (cellC c k j))) (hL : h[L]? = some (.list ((latI c k ++ [7]).map .int))) :
    Wp (q_page_3b1 ad lm h) fun r => r.1 = .next ∧ P2 c H dR rR uR us (k + 1) r.2.1 r.2.2 := by
  obtain ⟨u1, u2, u3, u4⟩ := U.une u (List.mem_of_getElem? hu)
  have cell : h[u]? = some (.list [.int (hld c k), .int 0, .int 0]) := by
    have := cells k u hu
    unfold cellC at this
    rwa [if_neg (Nat.lt_irrefl k)] at this
  have lu := lt_of_get cell
  have hlen := latI_len c k
  have e1 := lat_at c k
  have e3 : nthI (us.map AV.ref) (k : Int) = some (.ref u) := nthN (by rw [List.getElem?_map, hu]; rfl) (Nat.lt_trans hk (by decide))
  have cells' : ∀ (j v : Nat), j ≠ k → us[j]? = some v → h[v]? = some (.list (cellC c k j)) := fun j v _ e => cells j v e
  by_cases hc : (k : Int) + 1 < lat c k
  · have hx : fst' c k = 257 + k := if_pos hc
    have fr : ∀ {i : Nat} {o X : AO}, i ≠ u → h[i]? = some o → (List.set h u X)[i]? = some o := fun a e => (Set_ne (Ne.symm a)).trans e
    have b2 := page_c2 ad H U hk hu (b := 257 + k) (h := List.set h u (.list [.int (hld c k), .int (257 + k), .int 0])) hx.symm l4 l5 l6 l8 l9 (le.set u4) (fr (Ne.symm u1) deps) (fr (Ne.symm u2) rows) (fr (Ne.symm u3) due)
      (fun j v hj e => fr (nodup_ne U.und e hu hj) (cells' j v hj e)) (Set_eq lu) (fr hLu hL)
    rw [W_self] at b2 ⊢
    unfold q_page_3b1 q_page_3b1t0
    clear U cells cells' fr hx
    simp only [↓C_cK, ↓C_vV, ↓C_bO, ↓C_tCmp, ↓C_sSeq, ↓C_sNil, ↓C_sIf, ↓C_sSetI, ↓C_addF, ↓C_gtF, ↓C_idxL, ↓C_setI, ↓W_some, ↓W_ite, seqK_n, bolK_b, itemF_l, putF_l, ↓reduceIte, List.length_cons, List.length_nil, Nat.reduceAdd, Nat.reduceLeDiff, Nat.zero_add, decide_true, Int.reduceLE, Int.reduceToNat, and_true, true_and, *]
    exact ⟨by decide, b2⟩
  · have hx : fst' c k = 0 := if_neg hc
    have b2 := page_c2 ad H U hk hu (b := 0) (h := h) hx.symm l4 l5 l6 l8 l9 le deps rows due cells' cell hL
    rw [W_self] at b2 ⊢
    unfold q_page_3b1 q_page_3b1t0
    clear U cells cells' hx
    simp only [↓C_cK, ↓C_vV, ↓C_bO, ↓C_tCmp, ↓C_sSeq, ↓C_sNil, ↓C_sIf, ↓C_addF, ↓C_gtF, ↓C_idxL, ↓W_some, seqK_n, bolK_b, itemF_l, ↓reduceIte, decide_false, Bool.false_eq_true, *]
theorem page_step2 {c : Nat → Int} {dR rR uR : Nat} {us : List Nat} (U : U2 H dR rR uR us) (k : Nat) (lm : LM) (h : Hp) (hk : k < 7) (I : P2 c H dR rR uR us k lm h) :
    Wp (q_page_3b0 ad (upd lm "k" (.int k)) h) fun r => r.1 = .next ∧ P2 c H dR rR uR us (k + 1) r.2.1 r.2.2 := by
  obtain ⟨l4, l5, l6, le, deps, rows, due, cells⟩ := I
  obtain ⟨u, hu⟩ : ∃ u, us[k]? = some u := ⟨us[k]'(by rw [U.ul]; exact hk), List.getElem?_eq_getElem _⟩
  have cu := lt_of_get (cells k u hu)
  have e2 : nthI ((List.range 7).map fun j => AV.int (dep c j)) (k : Int) = some (.int (dep c k)) := nth_map (f := fun j => AV.int (dep c j)) hk (by decide)
  rw [W_self]
  unfold q_page_3b0
  rw [C_sSeq, C_sAsg, C_bO]
  refine W_compI (a := .rng ((k : Int) + 1) 7) (us := (List.range (7 - ((k : Int) + 1)).toNat).map fun (i : Nat) => .int ((k : Int) + 1 + i)) (H₁ := h) (fun v => match v with | .int j => decide (dep c j.toNat ≤ dep c k) | _ => false) id (fun _ q => nomatch q) ?_ ?_ ?_ ?_ ?_ ?_
  · show (if _ then _ else _) = _
    rw [if_pos ⟨Nat.le_trans hk (by decide), by decide⟩]
  · rw [List.length_map, List.length_range, sub7]; exact Nat.le_trans (Nat.sub_le _ _) (by decide)
  · simp only [cG, rngG, esC, esN, bO, vV, cK, addF, updEq, Option.map_some, Option.bind_some]
  · intro v hv h' hle
    obtain ⟨i, hi, rfl⟩ := List.mem_map.mp hv
    have hi' := List.mem_range.mp hi
    have e5 : nthI ((List.range 7).map fun j => AV.int (dep c j)) ((k : Int) + 1 + i) = some (.int (dep c (k + 1 + i))) := by
      have := nth_map (f := fun j => AV.int (dep c j)) (n := 7) (k := k + 1 + i) (Nat.add_lt_of_lt_sub' (sub7 k ▸ hi')) (by decide)
      exact this
    have d' := hle _ _ deps
    have g1 : inLM "j" ["depths", "k"] (upd lm "k" (.int k)) (.int ((k : Int) + 1 + i)) "depths" = some (.ref dR) := by
      unfold inLM; rw [if_neg (by decide), if_pos (by decide), updNe (by decide)]; exact l4
    have g2 : inLM "j" ["depths", "k"] (upd lm "k" (.int k)) (.int ((k : Int) + 1 + i)) "k" = some (.int k) := by
      unfold inLM; rw [if_neg (by decide), if_pos (by decide)]; exact updEq
    have g3 : inLM "j" ["depths", "k"] (upd lm "k" (.int k)) (.int ((k : Int) + 1 + i)) "j" = some (.int ((k : Int) + 1 + i)) := by
      unfold inLM; rw [if_pos rfl]
    generalize inLM "j" ["depths", "k"] (upd lm "k" (.int k)) (.int ((k : Int) + 1 + i)) = lm' at *
    have e6 : ((k : Int) + 1 + i).toNat = k + 1 + i := rfl
    clear cells U le hu l4 l5 l6 deps rows due hle
    rw [W_self]
    simp only [↓C_vV, ↓C_bO, ↓C_tCmp, ↓C_leF, ↓C_idxL, ↓W_some, bolK_b, itemF_l, Wp_some, *]
    exact ⟨by simp, Le.refl _⟩
  · intro v hv _ h' hle
    have g3 : inLM "j" ["depths", "k"] (upd lm "k" (.int k)) v "j" = some v := by
      unfold inLM; rw [if_pos rfl]
    unfold vV
    rw [g3]
    exact Wp_some.mpr ⟨rfl, Le.refl _⟩
  · intro h1 hle hg
    have hm : (((List.range (7 - ((k : Int) + 1)).toNat).map fun (i : Nat) => AV.int ((k : Int) + 1 + i)).filter (fun v => match v with | .int j => decide (dep c j.toNat ≤ dep c k) | _ => false)).map id = (latI c k).map .int := by
      unfold latI
      rw [List.map_id, sub7]
      rw [List.filter_map, List.filter_map, List.map_map]; rfl
    rw [hm] at hg
    have hll := latI_len c k
    have hlg := getL_lt hg
    have c1 := page_c1 (lm := upd (upd lm "k" (.int k)) "later" (.ref (h1.length + 1))) (h := h1 ++ [.list [.int 7], .list ((latI c k).map .int ++ [.int 7])]) (L := h1.length + 1) ad H U hk hu (by simp only [updNe, ne_eq, String.reduceEq, not_false_eq_true, *]) (by simp only [updNe, ne_eq, String.reduceEq, not_false_eq_true, *]) (by simp only [updNe, ne_eq, String.reduceEq, not_false_eq_true, *]) (by simp only [updNe, updEq, ne_eq, String.reduceEq, not_false_eq_true, *]) (by simp only [updEq, *]) (ne_add (Nat.lt_of_lt_of_le cu hle.len))
      ((le.trans hle).trans (Le.app _ _)) (A_lt (lt_of_get (hle _ _ deps)) ▸ hle _ _ deps) (A_lt (lt_of_get (hle _ _ rows)) ▸ hle _ _ rows) (A_lt (lt_of_get (hle _ _ due)) ▸ hle _ _ due) (fun j v e => A_lt (lt_of_get (hle _ _ (cells j v e))) ▸ hle _ _ (cells j v e)) (by rw [List.map_append]; exact A1)
    rw [W_self] at c1
    clear cells U le hu l4 l5 l6 deps rows due hle hm
    simp only [↓C_cK, ↓C_eList, ↓C_esC, ↓C_esN, ↓C_addL, ↓W_some, ↓W_ite, seqK_n, List.length_cons, List.length_nil, Nat.reduceLeDiff, Nat.zero_add, and_true, true_and, AL_lt, AL0, List.append_assoc, List.length_append, List.length_map, List.nil_append, List.cons_append, *]
    exact Nat.le_trans hll (by decide)
/-- the page: its rows, and the fields that are due -/
structure PageR (c : Nat → Int) (H : Hp) (r : AV × Hp) (rR uR : Nat) (us : List Nat) : Prop where
  val : r.1 = .tup [.ref rR, .ref uR]
  le : Le H r.2
  rows : r.2[rR]? = some (.list ((List.range 7).map fun j => .str (wayC (chain c j) ++ txt c j)))
  due : r.2[uR]? = some (.list (us.map .ref))
  ul : us.length = 7
  cells : ∀ (j u : Nat), us[j]? = some u → r.2[u]? = some (.list [.int (hld c j), .int (fst' c j), .int (nxt' c j)])
theorem page_ok {c : Nat → Int} (hc : ∀ j, 0 ≤ c j) {cr : Nat} (hcr : H[cr]? = some (.list ((List.range 7).map fun j => .int (c j)))) :
    Wp (g_page ad [.ref cr] H) fun r => ∃ rR uR us, PageR c H r rR uR us := by
  have lc := lt_of_get hcr
  unfold g_page
  rw [W_gOf]
  refine ⟨rfl, ?_⟩
  unfold q_page q_page_0 q_page_1 q_page_2
  simp only [↓C_cK, ↓C_eList, ↓C_eTup, ↓C_cG, ↓C_esC, ↓C_esN, ↓C_sSeq, ↓C_sSwp, ↓C_sTup, ↓C_rng1, ↓C_sFor, ↓W_some, ↓W_ite, seqK_n, tupK_t, ↓reduceIte, updN, bindA, List.length_cons, List.length_nil, Nat.reduceAdd, Nat.reduceLeDiff, Nat.zero_add, Int.reduceSub, Int.reduceToNat, true_and, List.append_assoc, List.length_append, itemsOf, List.reverse_cons, List.reverse_nil, List.nil_append, List.cons_append, *]
  refine ⟨by decide, ?_⟩
  have A : PA H cr H.length (H.length + 1) (H.length + 2) (H.length + 4) (H.length + 5) := ⟨lc, ⟨Nat.le_add_right _ _, Nat.le_add_right _ _, Nat.le_add_right _ _⟩, add_ne (a := 0) (by decide), add_ne (a := 0) (by decide), add_ne (a := 0) (by decide), add_ne (by decide), add_ne (by decide), add_ne (by decide), add_ne (by decide), add_ne (by decide), add_ne (by decide)⟩
  refine (for_range (Inv := fun k lm h => PI c H cr H.length (H.length + 1) (H.length + 2) (H.length + 4) (H.length + 5) (max k 1) k lm h) 7 (fun k lm h hk I => page_step ad H A hc k lm h hk I) ?_).bind fun r hr => ?_
  · have e5 : ∀ {X : Hp} {a b c d e f : AO}, (H ++ a :: b :: c :: d :: e :: f :: X)[H.length + 5]? = some f := A_ge
    refine ⟨by simp only [updNe, updEq, ne_eq, String.reduceEq, not_false_eq_true], by simp only [updNe, updEq, ne_eq, String.reduceEq, not_false_eq_true], by simp only [updNe, updEq, ne_eq, String.reduceEq, not_false_eq_true], by simp only [updNe, updEq, ne_eq, String.reduceEq, not_false_eq_true], by simp only [updNe, updEq, ne_eq, String.reduceEq, not_false_eq_true], by simp only [updEq], Le.app _ _, (A_lt lc).trans hcr, A0, A1, A2, A4, ⟨H.length + 3, [[]], by simp only [updNe, updEq, ne_eq, String.reduceEq, not_false_eq_true], add_ne (by decide), add_ne (by decide), add_ne (by decide), A3, by decide, fun j hj => ?_⟩, ⟨[], rfl, e5, by decide, (fun u hu => nomatch hu), fun j u hu => by simp at hu⟩⟩
    rw [Nat.le_zero.mp hj]; rfl
  · obtain ⟨fl, lm, h⟩ := r
    obtain ⟨e1, I⟩ := hr
    simp only at e1 I
    subst e1
    obtain ⟨l1, l2, l3, l4, l5, l6, le, cells, near, deep, deps, rows, _, ⟨us, ul, ug, und, une, uc⟩⟩ := I
    have U : U2 H (H.length + 2) (H.length + 4) (H.length + 5) us := ⟨ul, und, une⟩
    rw [seqK_n]
    unfold q_page_3
    rw [C_sSeq, C_sFor]
    simp only [↓C_cK, ↓C_cG, ↓C_esC, ↓C_esN, ↓C_rng1, ↓W_some, ↓W_ite, Int.reduceSub, Int.reduceToNat, itemsOf]
    refine ⟨by decide, ?_⟩
    refine (for_range (Inv := fun k lm h => P2 c H (H.length + 2) (H.length + 4) (H.length + 5) us k lm h) 7 (fun k lm h hk I => page_step2 ad H U k lm h hk I) ⟨l4, l5, l6, le, deps, rows, ug, fun j u hu => ?_⟩).bind fun r hr => ?_
    · unfold cellC
      rw [if_neg (Nat.not_lt_zero j)]
      exact uc j u hu
    · obtain ⟨fl, lm', h'⟩ := r
      obtain ⟨e1, I⟩ := hr
      simp only at e1 I
      subst e1
      obtain ⟨m4, m5, m6, le', deps', rows', due', cells'⟩ := I
      rw [seqK_n]
      unfold q_page_4
      have fin : ∃ rR uR us, PageR c H (.tup [.ref (H.length + 4), .ref (H.length + 5)], h') rR uR us := ⟨_, _, us, rfl, le', rows', due', ul, fun j u hu => by
        have := cells' j u hu
        unfold cellC at this
        have hj := (List.getElem?_eq_some_iff.mp hu).1
        rwa [if_pos (ul ▸ hj)] at this⟩
      clear cells' uc une U le le' cells near deep deps rows ug deps' rows' due'
      simp only [↓C_vV, ↓C_eTup, ↓C_esC, ↓C_esN, ↓C_sSeq, ↓C_sRet, ↓W_some, ↓W_ite, seqK_r, Wp_some, List.length_cons, List.length_nil, Nat.reduceLeDiff, and_true, *]
end Mine
end
section
set_option maxRecDepth 20000
namespace Mine
variable (ad : AD) (H : Hp)
-- less, of chains
theorem r4_mem {a : Nat} (h : a < 4) : a ∈ r4 := (by decide : ∀ i < 4, i ∈ r4) a h
theorem ch1 {a : Nat} (h : a < 4) : [a] ∈ chains1 := List.mem_map.mpr ⟨a, r4_mem h, rfl⟩
theorem ch2 {a b : Nat} (h : a < 4) (h' : b < 4) : [a, b] ∈ chains2 := List.mem_flatMap.mpr ⟨[a], ch1 h, List.mem_map.mpr ⟨b, r4_mem h', rfl⟩⟩
theorem ch3 {a b e : Nat} (h : a < 4) (h' : b < 4) (h'' : e < 4) : [a, b, e] ∈ chains3 := List.mem_flatMap.mpr ⟨[a, b], ch2 h h', List.mem_map.mpr ⟨e, r4_mem h'', rfl⟩⟩
theorem chk_use {L : List (List Nat)} {d p : Nat} {C : List Nat} (h : L.all (fun c => chkNo c d) = true) (hC : C ∈ L) (hp : p < 4) : lessC C (C.take (d - 1) ++ [p]) = false := by
  have := List.all_eq_true.mp (List.all_eq_true.mp h C hC) p (r4_mem hp)
  simpa using this
theorem six {n d : Nat} (a : n ≤ 3) (b : d ≤ n) (c : ¬ d = 0) : (n = 1 ∧ d = 1) ∨ (n = 2 ∧ d = 1) ∨ (n = 2 ∧ d = 2) ∨ (n = 3 ∧ d = 1) ∨ (n = 3 ∧ d = 2) ∨ (n = 3 ∧ d = 3) :=
  (by decide : ∀ n d : Fin 4, d.1 ≤ n.1 ∧ ¬ d.1 = 0 → (n.1 = 1 ∧ d.1 = 1) ∨ (n.1 = 2 ∧ d.1 = 1) ∨ (n.1 = 2 ∧ d.1 = 2) ∨ (n.1 = 3 ∧ d.1 = 1) ∨ (n.1 = 3 ∧ d.1 = 2) ∨ (n.1 = 3 ∧ d.1 = 3)) ⟨n, Nat.lt_succ_of_le a⟩ ⟨d, Nat.lt_succ_of_le (Nat.le_trans b a)⟩ ⟨b, c⟩
theorem less_no {C : List Nat} (hC : ∀ x ∈ C, x < 4) (hl : C.length ≤ 3) {d p : Nat} (hp : p < 4) (hd : d ≤ C.length) : lessC C (if d = 0 then [] else C.take (d - 1) ++ [p]) = false := by
  have hz : C ∈ [[]] ++ chains1 ++ chains2 ++ chains3 ∧ (1 ≤ C.length → C.length = 1 → C ∈ chains1) ∧ (C.length = 2 → C ∈ chains2) ∧ (C.length = 3 → C ∈ chains3) := by
    match C, hC, hl with
    | [], _, _ => exact ⟨by simp, by simp, by simp, by simp⟩
    | [a], h, _ =>
      have := ch1 (h a (.head _))
      exact ⟨by simp [this], fun _ _ => this, by simp, by simp⟩
    | [a, b], h, _ =>
      have := ch2 (h a (.head _)) (h b (.tail _ (.head _)))
      exact ⟨by simp [this], by simp, fun _ => this, by simp⟩
    | [a, b, e], h, _ =>
      have := ch3 (h a (.head _)) (h b (.tail _ (.head _))) (h e (.tail _ (.tail _ (.head _))))
      exact ⟨by simp [this], by simp, by simp, fun _ => this⟩
    | a :: b :: e :: f :: r, _, hl => simp at hl
  obtain ⟨z0, z1, z2, z3⟩ := hz
  by_cases h0 : d = 0
  · rw [if_pos h0]
    have := List.all_eq_true.mp chk0 C z0
    simpa using this
  · rw [if_neg h0]
    have : (C.length = 1 ∧ d = 1) ∨ (C.length = 2 ∧ d = 1) ∨ (C.length = 2 ∧ d = 2) ∨ (C.length = 3 ∧ d = 1) ∨ (C.length = 3 ∧ d = 2) ∨ (C.length = 3 ∧ d = 3) := six hl hd h0
    rcases this with ⟨h1, rfl⟩ | ⟨h1, rfl⟩ | ⟨h1, rfl⟩ | ⟨h1, rfl⟩ | ⟨h1, rfl⟩ | ⟨h1, rfl⟩
    · exact chk_use chk1 (z1 hd h1) hp
    · exact chk_use chk21 (z2 h1) hp
    · exact chk_use chk22 (z2 h1) hp
    · exact chk_use chk31 (z3 h1) hp
    · exact chk_use chk32 (z3 h1) hp
    · exact chk_use chk33 (z3 h1) hp
theorem less_yes {C : List Nat} (hC : ∀ x ∈ C, x < 4) (hl : C.length ≤ 2) {p : Nat} (hp : p < 4) : lessC C (C ++ [p]) = true := by
  have hz : C ∈ [[]] ++ chains1 ++ chains2 := by
    match C, hC, hl with
    | [], _, _ => simp
    | [a], h, _ => simp [ch1 (h a (.head _))]
    | [a, b], h, _ => simp [ch2 (h a (.head _)) (h b (.tail _ (.head _)))]
    | a :: b :: e :: r, _, hl => simp at hl
  exact List.all_eq_true.mp (List.all_eq_true.mp chkY C hz) p (r4_mem hp)
section
variable (c : Nat → Int)
theorem pc_lt (k : Nat) : pc c k < 4 := (Int.toNat_lt (md (by decide)).1).mpr (md (by decide)).2
theorem chain_lt : ∀ k, ∀ x ∈ chain c k, x < 4
  | 0, x, h => nomatch h
  | k + 1, x, h => by
    unfold chain at h
    split at h
    · cases h
    · rcases List.mem_append.mp h with q | q
      · exact chain_lt k x (List.mem_of_mem_take q)
      · rw [List.mem_singleton.mp q]; exact pc_lt c _
-- the open rows
noncomputable def line : Nat → List Nat
  | 0 => []
  | k + 1 => (line k).take (dep c k) ++ [k]
theorem line_len : ∀ k, dep c k ≤ (line c k).length ∧ (line c (k + 1)).length = dep c k + 1
  | 0 => ⟨Nat.le_refl _, rfl⟩
  | k + 1 => by
    have h1 := (line_len k).2
    have h2 := dep_step c k
    have h3 : dep c (k + 1) ≤ (line c (k + 1)).length := by rw [h1]; exact h2
    refine ⟨h3, ?_⟩
    show ((line c (k + 1)).take (dep c (k + 1)) ++ [k + 1]).length = _
    rw [List.length_append, List.length_take, List.length_singleton, Nat.min_eq_left h3]
theorem line_at : ∀ k (j t : Nat), (line c (k + 1))[j]? = some t → dep c t = j ∧ chain c t = (chain c k).take j ∧ t ≤ k ∧ j ≤ dep c k
  | 0, j, t, h => by
    have : line c 1 = [0] := rfl
    rw [this] at h
    have hj : j = 0 := Nat.lt_one_iff.mp (List.getElem?_eq_some_iff.mp h).1
    subst hj
    cases h
    exact ⟨rfl, rfl, Nat.le_refl _, Nat.le_refl _⟩
  | k + 1, j, t, h => by
    have hl := line_len c k
    have hl2 := line_len c (k + 1)
    have hs := dep_step c k
    have hj : j < dep c (k + 1) + 1 := by rw [← hl2.2]; exact (List.getElem?_eq_some_iff.mp h).1
    by_cases hd : j < dep c (k + 1)
    · have h' : (line c (k + 1))[j]? = some t := by
        have e : line c (k + 1 + 1) = (line c (k + 1)).take (dep c (k + 1)) ++ [k + 1] := rfl
        rw [e, List.getElem?_append_left (by rw [List.length_take]; exact Nat.lt_min.mpr ⟨hd, Nat.lt_of_lt_of_le hd hl2.1⟩), List.getElem?_take_of_lt hd] at h
        exact h
      obtain ⟨a, b, d, e⟩ := line_at k j t h'
      refine ⟨a, ?_, Nat.le_succ_of_le d, Nat.le_of_lt hd⟩
      rw [b]
      have hch : chain c (k + 1) = (chain c k).take (dep c (k + 1) - 1) ++ [pc c (k + 1)] := by
        show (if _ then _ else _) = _
        rw [if_neg (Nat.ne_of_gt (Nat.lt_of_le_of_lt (Nat.zero_le j) hd))]
      rw [hch, List.take_append_of_le_length (by rw [List.length_take, chain_len]; exact Nat.le_min.mpr ⟨Nat.le_sub_one_of_lt hd, e⟩), List.take_take, Nat.min_eq_left (Nat.le_sub_one_of_lt hd)]
    · have hj' : j = dep c (k + 1) := Nat.le_antisymm (Nat.le_of_lt_succ hj) (Nat.le_of_not_lt hd)
      subst hj'
      have e : line c (k + 1 + 1) = (line c (k + 1)).take (dep c (k + 1)) ++ [k + 1] := rfl
      rw [e, List.getElem?_append_right (by rw [List.length_take]; exact Nat.min_le_left _ _), List.length_take, Nat.min_eq_left hl2.1, Nat.sub_self] at h
      cases h
      refine ⟨rfl, ?_, Nat.le_refl _, Nat.le_refl _⟩
      rw [← chain_len c (k + 1), List.take_length]
theorem line_lt {k j t : Nat} (h : (line c k)[j]? = some t) : t < k := by
  cases k with
  | zero => simp [line] at h
  | succ k => exact Nat.lt_succ_of_le (line_at c k j t h).2.2.1
/-- the test of an open row -/
theorem line_less {k j t : Nat} (h : (line c k)[j]? = some t) (hj : dep c k ≤ j + 1) : lessP (wsF (wayC (chain c t))) (wsF (wayC (chain c k))) = decide (j < dep c k) := by
  cases k with
  | zero => simp [line] at h
  | succ k =>
    obtain ⟨a, b, d, e⟩ := line_at c k j t h
    have h3 := dep_le c k
    have hlt : ∀ x ∈ (chain c k).take j, x < 4 := fun x hx => chain_lt c k x (List.mem_of_mem_take hx)
    have hlen : ((chain c k).take j).length = j := by rw [List.length_take, chain_len]; exact Nat.min_eq_left e
    by_cases hd : j < dep c (k + 1)
    · rw [decide_eq_true hd, b]
      have hch : chain c (k + 1) = (chain c k).take j ++ [pc c (k + 1)] := by
        show (if _ then _ else _) = _
        rw [Nat.le_antisymm hj hd, if_neg (Nat.succ_ne_zero j), Nat.add_sub_cancel]
      rw [hch]
      have h4 := dep_le c (k + 1)
      exact less_yes hlt (by rw [hlen]; exact Nat.le_of_lt_succ (Nat.lt_of_lt_of_le hd h4)) (pc_lt c _)
    · rw [decide_eq_false hd, b]
      have hch : chain c (k + 1) = if dep c (k + 1) = 0 then [] else ((chain c k).take j).take (dep c (k + 1) - 1) ++ [pc c (k + 1)] := by
        show (if _ then _ else _) = _
        rw [List.take_take, Nat.min_eq_left (Nat.le_trans (Nat.sub_le _ _) (Nat.le_of_not_lt hd))]
      rw [hch]
      exact less_no hlt (by rw [hlen]; exact Nat.le_trans e h3) (pc_lt c _) (by rw [hlen]; exact Nat.le_of_not_lt hd)
/-- the fields, as the rows are read -/
noncomputable def mf : Nat → Nat → Int
  | 0, _ => 0
  | k + 1, j => if (line c k)[dep c k]? = none ∧ 0 < dep c k ∧ (line c k)[dep c k - 1]? = some j then 256 + k else mf k j
noncomputable def mn : Nat → Nat → Int
  | 0, _ => 0
  | k + 1, j => if (line c k)[dep c k]? = some j then 256 + k else mn k j
end
-- over all depths
noncomputable def lineL (L : List Nat) : Nat → List Nat
  | 0 => []
  | k + 1 => (lineL L k).take (L.getD k 0) ++ [k]
noncomputable def mfL (L : List Nat) : Nat → Nat → Int
  | 0, _ => 0
  | k + 1, j => if (lineL L k)[L.getD k 0]? = none ∧ 0 < L.getD k 0 ∧ (lineL L k)[L.getD k 0 - 1]? = some j then 256 + k else mfL L k j
noncomputable def mnL (L : List Nat) : Nat → Nat → Int
  | 0, _ => 0
  | k + 1, j => if (lineL L k)[L.getD k 0]? = some j then 256 + k else mnL L k j
noncomputable def latL (L : List Nat) (k : Nat) : Int := ((((List.range (7 - (k + 1))).map fun (i : Nat) => ((k : Int) + 1 + i)).filter fun (j : Int) => decide (L.getD j.toNat 0 ≤ L.getD k 0)) ++ [7]).getD 0 0
noncomputable def fstL (L : List Nat) (k : Nat) : Int := if (k : Int) + 1 < latL L k then 257 + k else 0
noncomputable def nxtL (L : List Nat) (k : Nat) : Int := if latL L k < 7 ∧ L.getD (latL L k).toNat 0 = L.getD k 0 then 256 + latL L k else 0
noncomputable def genD : Nat → List (List Nat)
  | 0 => [[0]]
  | n + 1 => (genD n).flatMap fun L => (List.range (min (L.getD n 0) 2 + 2)).map fun d => L ++ [d]
theorem chkD : (genD 6).all (fun L => (List.range 7).all fun j => decide (fstL L j = mfL L 7 j) && decide (nxtL L j = mnL L 7 j)) = true := by decide +kernel
section
variable (c : Nat → Int)
noncomputable def depL : List Nat := (List.range 7).map (dep c)
theorem depL_get {k : Nat} (h : k < 7) : (depL c).getD k 0 = dep c k := by
  unfold depL
  rw [List.getD_eq_getElem?_getD, List.getElem?_map, List.getElem?_range h]; rfl
theorem genD_mem : ∀ n, (List.range (n + 1)).map (dep c) ∈ genD n
  | 0 => List.mem_singleton.mpr rfl
  | n + 1 => by
    refine List.mem_flatMap.mpr ⟨_, genD_mem n, List.mem_map.mpr ⟨dep c (n + 1), ?_, ?_⟩⟩
    · have e : ((List.range (n + 1)).map (dep c)).getD n 0 = dep c n := by
        rw [List.getD_eq_getElem?_getD, List.getElem?_map, List.getElem?_range (Nat.lt_succ_self n)]; rfl
      rw [e, List.mem_range, ← Nat.add_min_add_right]
      exact Nat.lt_min.mpr ⟨Nat.lt_succ_of_le (dep_step c n), Nat.lt_succ_of_le (dep_le c (n + 1))⟩
    · rw [List.range_succ (n := n + 1), List.map_append]; rfl
theorem lineL_eq : ∀ k, k ≤ 7 → lineL (depL c) k = line c k
  | 0, _ => rfl
  | k + 1, h => by
    unfold lineL line
    rw [lineL_eq k (Nat.le_of_succ_le h), depL_get c h]
theorem mfL_eq (j : Nat) : ∀ k, k ≤ 7 → mfL (depL c) k j = mf c k j
  | 0, _ => rfl
  | k + 1, h => by
    unfold mfL mf
    rw [mfL_eq j k (Nat.le_of_succ_le h), lineL_eq c k (Nat.le_of_succ_le h), depL_get c h]
theorem mnL_eq (j : Nat) : ∀ k, k ≤ 7 → mnL (depL c) k j = mn c k j
  | 0, _ => rfl
  | k + 1, h => by
    unfold mnL mn
    rw [mnL_eq j k (Nat.le_of_succ_le h), lineL_eq c k (Nat.le_of_succ_le h), depL_get c h]
theorem latL_eq {k : Nat} (h : k < 7) : latL (depL c) k = lat c k := by
  unfold latL lat latI
  congr 2
  refine List.filter_congr fun x hx => ?_
  obtain ⟨i, hi, rfl⟩ := List.mem_map.mp hx
  have hi := List.mem_range.mp hi
  rw [show ((k : Int) + 1 + i).toNat = k + 1 + i from rfl, depL_get c (Nat.add_lt_of_lt_sub' hi), depL_get c h]
theorem fields_eq {j : Nat} (h : j < 7) : fst' c j = mf c 7 j ∧ nxt' c j = mn c 7 j := by
  have h1 := List.all_eq_true.mp (List.all_eq_true.mp chkD _ (genD_mem c 6)) j (List.mem_range.mpr h)
  rw [Bool.and_eq_true, decide_eq_true_eq, decide_eq_true_eq] at h1
  obtain ⟨h1, h2⟩ := h1
  have e : (List.range (6 + 1)).map (dep c) = depL c := rfl
  rw [e, mfL_eq c j 7 (Nat.le_refl _)] at h1
  rw [e, mnL_eq c j 7 (Nat.le_refl _)] at h2
  rw [← h1, ← h2]
  obtain ⟨b1, b2⟩ := lat_bd c h
  unfold fst' nxt' fstL nxtL
  rw [latL_eq c h]
  refine ⟨rfl, ?_⟩
  by_cases h7 : lat c j < 7
  · rw [depL_get c ((Int.toNat_lt (Int.le_trans (Int.le_add_one (Int.natCast_nonneg j)) b1)).mpr h7), depL_get c h]
  · rw [if_neg (fun q => h7 q.1), if_neg (fun q => h7 q.1)]
end
end Mine
end
section
set_option maxRecDepth 20000
namespace Mine
variable (ad : AD) (H : Hp)
theorem getD_all {p : Nat → Prop} {L : List (List Nat)} (h : ∀ x ∈ L, ∀ y ∈ x, p y) (i : Nat) : ∀ y ∈ L.getD i [], p y := by
  rw [List.getD_eq_getElem?_getD]
  cases e : L[i]? with
  | none => intro y hy; cases hy
  | some x => exact h x (List.mem_of_getElem? e)
theorem wayC_blank (l : List Nat) : ∀ x ∈ wayC l, x = 32 ∨ x = 9 := by
  have h1 : ∀ p, ∀ x ∈ nearP p, x = 32 ∨ x = 9 := fun p => getD_all (p := fun x => x = 32 ∨ x = 9) (by decide) p
  have h2 : ∀ p, ∀ x ∈ deepP p, x = 32 ∨ x = 9 := fun p => getD_all (p := fun x => x = 32 ∨ x = 9) (by decide) p
  cases l with
  | nil => intro x hx; cases hx
  | cons p r =>
    intro x hx
    rcases List.mem_append.mp hx with q | q
    · exact h1 p x q
    · obtain ⟨y, hy, hx⟩ := List.mem_flatten.mp q
      obtain ⟨z, _, rfl⟩ := List.mem_map.mp hy
      exact h2 z x hx
theorem wsF_step (s : WS) (c : Nat) (h0 : 0 ≤ s.b) : (wsStep s c).n = s.n + 1 ∧ 0 ≤ (wsStep s c).b := by
  unfold wsStep
  split
  · exact ⟨rfl, Int.le_add_one h0⟩
  · exact ⟨rfl, Int.le_refl 0⟩
theorem wsF_bd : ∀ (way : List Nat) (s : WS) (m : Nat), 0 ≤ s.b → s.b ≤ m → s.count.length ≤ m → (way.foldl wsStep s).n = s.n + way.length ∧ (way.foldl wsStep s).count.length ≤ m + way.length ∧ (way.foldl wsStep s).b ≤ (m + way.length : Nat)
  | [], s, m, h0, h1, h2 => ⟨(Int.add_zero _).symm, h2, h1⟩
  | c :: way, s, m, h0, h1, h2 => by
    obtain ⟨k1, k2, k3⟩ := wsStep_b (c := c) h0 m h1 h2
    obtain ⟨e1, e2, e3⟩ := wsF_bd way (wsStep s c) (m + 1) k1 k2 k3
    have := (wsF_step s c h0).1
    rw [List.foldl_cons, List.length_cons]
    exact ⟨by rw [e1, this, Int.add_assoc, Int.add_comm 1]; rfl, Nat.succ_add_eq_add_succ m way.length ▸ e2, Nat.succ_add_eq_add_succ m way.length ▸ e3⟩
theorem wsF_ok (way : List Nat) : (wsF way).n = way.length ∧ (wsF way).count.length ≤ way.length ∧ (wsF way).b ≤ way.length := by
  have := wsF_bd way ⟨[], 0, 0, 0⟩ 0 (by simp) (by simp) (by simp)
  unfold wsF
  refine ⟨by rw [this.1]; simp, Nat.zero_add way.length ▸ this.2.1, Nat.zero_add way.length ▸ this.2.2⟩
noncomputable def hdOk : List Nat → Bool
  | ch :: _ => ch != 32 && ch != 9
  | [] => false
theorem hd_of {x y : List Nat} (h : hdOk x = true) : ∃ ch rest, x ++ y = ch :: rest ∧ ch ≠ 32 ∧ ch ≠ 9 := by
  cases x with
  | nil => cases h
  | cons ch r =>
    have h := Bool.and_eq_true_iff.mp h
    exact ⟨ch, _, rfl, bne_iff_ne.mp h.1, bne_iff_ne.mp h.2⟩
theorem hd_at {L : List (List Nat)} {y : List Nat} {a n : Int} (h : ∀ x ∈ L, hdOk x = true) (h0 : 0 < n) (h1 : n ≤ L.length) : ∃ ch rest, L.getD (a % n).toNat [] ++ y = ch :: rest ∧ ch ≠ 32 ∧ ch ≠ 9 := by
  have hi : (a % n).toNat < L.length := (Int.toNat_lt (md h0).1).mpr (Int.lt_of_lt_of_le (md h0).2 h1)
  rw [List.getD_eq_getElem?_getD, List.getElem?_eq_getElem hi]
  exact hd_of (h _ (List.getElem_mem hi))
theorem txt_head {w f k : Int} (h0 : 0 ≤ w) (h8 : w < 8) : ∃ ch rest, (rowT w f k).1 = ch :: rest ∧ ch ≠ 32 ∧ ch ≠ 9 := by
  by_cases c4 : w = 4
  · rw [c4]; exact hd_at (L := [[60], [60, 60], [60, 60, 61], [45, 62], [61], [61, 61], [46, 46, 46], [58, 61]]) (by decide) (by decide) (by decide)
  by_cases c7 : w = 7
  · rw [c7]; exact ⟨63, _, rfl, by decide, by decide⟩
  rw [rowT_m c4 c7]
  by_cases c5 : w = 5
  · rw [if_pos c5]; exact hd_at (by decide) (by decide) (by decide)
  by_cases c6 : w = 6
  · rw [if_neg c5, if_pos c6]; exact hd_at (by decide) (by decide) (by decide)
  rw [if_neg c5, if_neg c6]
  by_cases c2 : w < 2
  · rw [if_pos c2]; exact ⟨50, _, rfl, by decide, by decide⟩
  · rw [if_neg c2]; exact ⟨50, _, rfl, by decide, by decide⟩
variable {c : Nat → Int}
structure RInv (ad : AD) (c : Nat → Int) (H : Hp) (rw lR mR nR k : Nat) (lm : LM) (h : Hp) : Prop where
  l1 : lm "rows" = some (.ref rw)
  l2 : lm "leads" = some (.ref lR)
  l3 : lm "memory" = some (.ref mR)
  l4 : lm "line" = some (.ref nR)
  le : Le H h
  rows : h[rw]? = some (.list ((List.range 7).map fun j => .str (wayC (chain c j) ++ txt c j)))
  leads : ∃ is : List Nat, is.length = k ∧ h[lR]? = some (.list (is.map .ref)) ∧ ∀ (j i : Nat), is[j]? = some i → ∃ d, h[i]? = some (.inst ad.ws d) ∧ h[d]? = some (.attrs (wsA (wayC (chain c j) ++ txt c j) (wsF (wayC (chain c j)))))
  mem : ∃ ms : List Nat, ms.length = k ∧ h[mR]? = some (.list (ms.map .ref)) ∧ ms.Nodup ∧ (∀ u ∈ ms, u ≠ lR ∧ u ≠ mR ∧ u ≠ nR ∧ H.length ≤ u) ∧ ∀ (j u : Nat), ms[j]? = some u → h[u]? = some (.list [.int (hld c j), .int (mf c k j), .int (mn c k j)])
  line : h[nR]? = some (.list ((line c k).map fun (j : Nat) => AV.int j))
/-- the places apart -/
structure RA (H : Hp) (rw lR mR nR : Nat) : Prop where
  a1 : rw < H.length
  a2 : H.length ≤ lR ∧ H.length ≤ mR ∧ H.length ≤ nR
  a3 : lR ≠ mR ∧ lR ≠ nR ∧ mR ≠ nR
theorem eqv_nil (xs : List Int) : PyData.eqv (.list (xs.map PyData.int)) (.list []) = decide (xs = []) := by
  cases xs <;> rfl
theorem rd_nats {H : Hp} {i : Nat} {xs : List Nat} {n : Nat} (h : getL H i = some (xs.map fun (j : Nat) => AV.int j)) : rd H (n + 2) (.ref i) = some (.list ((xs.map fun (j : Nat) => (j : Int)).map PyData.int)) := by
  refine rd_ints ?_
  rw [List.map_map]; exact h
theorem nth_last {xs : List AV} {v : AV} (h : xs[xs.length - 1]? = some v) : nthI xs (-1) = some v := by
  have hl : 0 < xs.length := Nat.lt_of_le_of_lt (Nat.zero_le _) (List.getElem?_eq_some_iff.mp h).1
  unfold nthI
  rw [if_pos (by decide), if_neg (by decide), if_pos (show -(xs.length : Int) ≤ -1 from Int.neg_le_neg (Int.ofNat_le.mpr hl)), Int.add_comm, show ((xs.length : Int) + -1).toNat = xs.length - 1 from congrArg Int.toNat (cast_sub1 hl)]
  exact h
noncomputable def shutT (ad : AD) : TP := (tAnd (tCmp neU (vV "line") (eList esN)) (tAnd (tNot (asB (mI ad.ws "less" (g_less ad) (bO idxF (vV "leads") (bO idxF (vV "line") (eNeg (cK (.int 1))))) (esC (vV "lead") esN)))) (tK true)))
theorem wsF_400 (c : Nat → Int) (k : Nat) : (wsF (wayC (chain c k))).count.length ≤ 400 ∧ (wsF (wayC (chain c k))).b ≤ 400 := by
  obtain ⟨_, f1, f2⟩ := wsF_ok (wayC (chain c k))
  have w : (wayC (chain c k)).length ≤ 400 := Nat.le_trans (wayC_len _) (by rw [chain_len]; exact Nat.le_trans (Nat.mul_le_mul_left 5 (dep_le c k)) (by decide))
  exact ⟨Nat.le_trans f1 w, Int.le_trans f2 (Int.ofNat_le.mpr w)⟩
/-- the rows' test -/
theorem shut_test {lR nR k : Nat} {is : List Nat} {i0 d0 j : Nat} {raw : List Nat} (hil : is.length = k) (hk : k ≤ 7) {lm : LM} {h : Hp} (hj : j ≤ (line c k).length) (hd : dep c k ≤ j)
    (l2 : lm "leads" = some (.ref lR)) (l4 : lm "line" = some (.ref nR)) (l5 : lm "lead" = some (.ref i0))
    (gl : h[lR]? = some (.list (is.map .ref))) (gi : h[i0]? = some (.inst ad.ws d0)) (gd : h[d0]? = some (.attrs (wsA raw (wsF (wayC (chain c k))))))
    (gs : ∀ (j i : Nat), is[j]? = some i → ∃ d, h[i]? = some (.inst ad.ws d) ∧ h[d]? = some (.attrs (wsA (wayC (chain c j) ++ txt c j) (wsF (wayC (chain c j))))))
    (gn : h[nR]? = some (.list (((line c k).take j).map fun (j : Nat) => AV.int j))) :
    shutT ad lm h = some (decide (dep c k < j), h ++ [.list []]) := by
  have key : Wp (shutT ad lm h) fun r => r = (decide (dep c k < j), h ++ [.list []]) := by
    have ln := lt_of_get gn
    have ll := lt_of_get gl
    have r1 : rd (h ++ [.list []]) 4 (.ref nR) = some (.list ((((line c k).take j).map fun (j : Nat) => (j : Int)).map PyData.int)) := rd_nats (by rw [AL_lt ln]; exact getL_of gn)
    have r2 : rd (h ++ [.list []]) 4 (.ref h.length) = some (.list []) := rd_nil (getL_new _ _)
    have hl := line_len c k
    unfold shutT
    rw [W_self]
    by_cases h0 : j = 0
    · have e0 : PyData.eqv (.list ((((line c k).take j).map fun (j : Nat) => (j : Int)).map PyData.int)) (.list []) = true := by
        rw [eqv_nil, h0]; rfl
      have e1 : decide (dep c k < j) = false := decide_eq_false (by rw [h0]; exact Nat.not_lt_zero _)
      clear gs hl hd h0 hj
      simp only [↓C_vV, ↓C_eList, ↓C_esN, ↓C_tCmp, ↓C_tAnd, ↓C_neR, ↓W_some, ↓W_ite, bolK_b, Wp_some, ↓reduceIte, List.length_nil, Nat.reduceLeDiff, Bool.false_eq_true, Bool.not_true, and_true, *]
    · have hj0 := Nat.pos_of_ne_zero h0
      have hj1 : j - 1 < j := Nat.sub_lt hj0 Nat.one_pos
      obtain ⟨t, ht⟩ : ∃ t, (line c k)[j - 1]? = some t := ⟨_, List.getElem?_eq_getElem (Nat.lt_of_lt_of_le hj1 hj)⟩
      have htk := line_lt c ht
      have hll := line_less c ht (by rw [Nat.sub_add_cancel hj0]; exact hd)
      have hne : ((line c k).take j).map (fun (j : Nat) => (j : Int)) ≠ [] := by
        intro q
        have := congrArg List.length q
        rw [List.length_map, List.length_take, List.length_nil, Nat.min_eq_left hj] at this
        exact h0 this
      have e0 : PyData.eqv (.list ((((line c k).take j).map fun (j : Nat) => (j : Int)).map PyData.int)) (.list []) = false := by
        rw [eqv_nil, decide_eq_false hne]
      have e1 : nthI (((line c k).take j).map fun (j : Nat) => AV.int j) (-1) = some (.int t) := by
        refine nth_last ?_
        rw [List.length_map, List.length_take, Nat.min_eq_left hj, List.getElem?_map, List.getElem?_take_of_lt hj1, ht]; rfl
      obtain ⟨i, hi⟩ : ∃ i, is[t]? = some i := ⟨_, List.getElem?_eq_getElem (hil.symm ▸ htk)⟩
      obtain ⟨d, g1, g2⟩ := gs t i hi
      have e2 : nthI (is.map AV.ref) (t : Int) = some (.ref i) := nthN (by rw [List.getElem?_map, hi]; rfl) (Nat.lt_of_lt_of_le htk (Nat.le_trans hk (by decide)))
      have A1 : getA ad.ws (h ++ [.list []]) i = some (d, wsA (wayC (chain c t) ++ txt c t) (wsF (wayC (chain c t)))) := getA_of (by rw [A_lt (lt_of_get g1)]; exact g1) (by rw [A_lt (lt_of_get g2)]; exact g2)
      have A2 : getA ad.ws (h ++ [.list []]) i0 = some (d0, wsA raw (wsF (wayC (chain c k)))) := getA_of (by rw [A_lt (lt_of_get gi)]; exact gi) (by rw [A_lt (lt_of_get gd)]; exact gd)
      obtain ⟨f1, f2⟩ := wsF_400 c t
      obtain ⟨f3, f4⟩ := wsF_400 c k
      have L := less_ok ad (h ++ [.list []]) A1 A2 f1 f3 f2 f4
      rw [hll] at L
      unfold wsA at A1
      have e3 : decide (dep c k < j) = !decide (j - 1 < dep c k) := by
        by_cases q : dep c k < j
        · rw [decide_eq_true q, decide_eq_false (Nat.not_lt.mpr (Nat.le_sub_one_of_lt q))]; rfl
        · rw [decide_eq_false q, decide_eq_true (Nat.lt_of_lt_of_le hj1 (Nat.le_of_not_lt q))]; rfl
      rw [e3]
      generalize decide (j - 1 < dep c k) = bb at *
      clear gs hl hd e3 hne f1 f2 f3 f4 A2 hll
      simp only [↓C_cK, ↓C_vV, ↓C_bO, ↓C_eNeg, ↓C_eList, ↓C_esC, ↓C_esN, ↓C_mI, ↓C_tCmp, ↓C_asB, ↓C_tNot, ↓C_tAnd, ↓C_idxL, ↓C_neR, ↓W_some, ↓W_ite, bolK_b, intK_i, refK_r, itemF_l, ↓reduceIte, String.reduceEq, List.length_nil, Nat.reduceLeDiff, Bool.not_false, Int.reduceNeg, true_and, lookA, A_lt, Option.isNone_none, *]
      cases bb <;> simp only [↓C_tK, Wp_some, ↓reduceIte, Bool.false_eq_true, Bool.not_true, Bool.not_false]
  obtain ⟨a, e, rfl⟩ := key
  exact e
/-- the rows that the new one shuts -/
theorem shut {lR nR k : Nat} {is : List Nat} {i0 d0 : Nat} {raw : List Nat} (hln : lR ≠ nR) (hil : is.length = k) (hk : k ≤ 7) :
    ∀ (m N : Nat) (lm : LM) (h : Hp) (last : Int), dep c k + m ≤ (line c k).length → m < N →
      lm "leads" = some (.ref lR) → lm "line" = some (.ref nR) → lm "lead" = some (.ref i0) → lm "last" = some (.int last) →
      (last = match (line c k)[dep c k + m]? with | some t => (t : Int) | none => -1) →
      h[lR]? = some (.list (is.map .ref)) → h[i0]? = some (.inst ad.ws d0) → h[d0]? = some (.attrs (wsA raw (wsF (wayC (chain c k))))) →
      (∀ (j i : Nat), is[j]? = some i → ∃ d, h[i]? = some (.inst ad.ws d) ∧ h[d]? = some (.attrs (wsA (wayC (chain c j) ++ txt c j) (wsF (wayC (chain c j)))))) →
      h[nR]? = some (.list (((line c k).take (dep c k + m)).map fun (j : Nat) => AV.int j)) →
      Wp (whileF (shutT ad) (q_read_1b3b0 ad) N lm h) fun r =>
        r.1 = .next ∧ (∀ y, y ≠ "last" → r.2.1 y = lm y) ∧ (r.2.1 "last" = some (.int (match (line c k)[dep c k]? with | some t => (t : Int) | none => -1))) ∧ (∀ (i : Nat) (o : AO), i ≠ nR → h[i]? = some o → r.2.2[i]? = some o) ∧
        r.2.2[nR]? = some (.list (((line c k).take (dep c k)).map fun (j : Nat) => AV.int j)) := by
  intro m
  induction m with
  | zero =>
    intro N lm h last hm hN l2 l4 l5 l6 hlast gl gi gd gs gn
    obtain ⟨N, rfl⟩ : ∃ N', N = N' + 1 := ⟨N - 1, (Nat.sub_add_cancel (Nat.lt_of_le_of_lt (Nat.zero_le _) hN)).symm⟩
    have T := shut_test ad hil hk (j := dep c k) hm (Nat.le_refl _) l2 l4 l5 gl gi gd gs gn
    unfold whileF
    rw [T, W_some, decide_eq_false (Nat.lt_irrefl _), if_neg Bool.false_ne_true, Wp_some]
    refine ⟨rfl, fun _ _ => rfl, ?_, fun i o _ e => (A_lt (lt_of_get e)).trans e, (A_lt (lt_of_get gn)).trans gn⟩
    show lm "last" = _
    rw [l6, hlast]; rfl
  | succ m ih =>
    intro N lm h last hm hN l2 l4 l5 l6 hlast gl gi gd gs gn
    obtain ⟨N, rfl⟩ : ∃ N', N = N' + 1 := ⟨N - 1, (Nat.sub_add_cancel (Nat.lt_of_le_of_lt (Nat.zero_le _) hN)).symm⟩
    have T := shut_test ad hil hk (j := dep c k + (m + 1)) hm (Nat.le_add_right _ _) l2 l4 l5 gl gi gd gs gn
    unfold whileF
    rw [T, W_some, decide_eq_true (Nat.lt_add_of_pos_right (Nat.succ_pos m)), if_pos rfl]
    have ln := lt_of_get gn
    obtain ⟨t, ht⟩ : ∃ t, (line c k)[dep c k + m]? = some t := ⟨_, List.getElem?_eq_getElem hm⟩
    have glen : (((line c k).take (dep c k + (m + 1))).map fun (j : Nat) => AV.int j).length = dep c k + m + 1 := by
      rw [List.length_map, List.length_take]; exact Nat.min_eq_left hm
    have gt : (((line c k).take (dep c k + (m + 1))).map fun (j : Nat) => AV.int j)[(((line c k).take (dep c k + (m + 1))).map fun (j : Nat) => AV.int j).length - 1]? = some (.int t) := by
      rw [glen, Nat.add_sub_cancel, List.getElem?_map, List.getElem?_take_of_lt (show dep c k + m < dep c k + (m + 1) from Nat.lt_succ_self _), ht]; rfl
    have gdr : (((line c k).take (dep c k + (m + 1))).map fun (j : Nat) => AV.int j).dropLast = ((line c k).take (dep c k + m)).map fun (j : Nat) => AV.int j := by
      rw [List.dropLast_eq_take, glen, ← List.map_take, List.take_take, Nat.min_eq_left (show dep c k + m + 1 - 1 ≤ dep c k + (m + 1) from Nat.le_succ _)]; rfl
    have gg : getL (h ++ [.list []]) nR = some (((line c k).take (dep c k + (m + 1))).map fun (j : Nat) => AV.int j) := by rw [AL_lt ln]; exact getL_of gn
    have l100 : (((line c k).take (dep c k + (m + 1))).map fun (j : Nat) => AV.int j).length ≤ 100000 := by
      rw [glen]
      cases k with
      | zero => exact absurd hm (Nat.not_succ_le_zero _)
      | succ k => exact Nat.le_trans hm (by rw [(line_len c k).2]; exact Nat.le_trans (Nat.succ_le_succ (dep_le c k)) (by decide))
    have pop : Wp (q_read_1b3b0 ad lm (h ++ [.list []])) fun r => r = (.next, upd lm "last" (.int t), List.set h nR (.list (((line c k).take (dep c k + m)).map fun (j : Nat) => AV.int j)) ++ [.list []]) := by
      rw [W_self]
      unfold q_read_1b3b0
      clear ih gs T gn hlast
      generalize hX : (((line c k).take (dep c k + (m + 1))).map fun (j : Nat) => AV.int j) = X at *
      clear hX glen
      simp only [↓C_vV, ↓C_esN, ↓C_mG, ↓C_sSeq, ↓C_sNil, ↓C_sAsg, ↓C_pop, ↓W_some, ↓W_ite, seqK_n, refK_r, Wp_some, and_true, S_lt, *]
    refine pop.bind fun r hr => ?_
    subst hr
    have fr : ∀ {i : Nat} {o X : AO}, i ≠ nR → h[i]? = some o → (List.set h nR X ++ [.list []])[i]? = some o := fun a e => by
      rw [A_lt (by rw [List.length_set]; exact lt_of_get e), Set_ne (Ne.symm a)]; exact e
    have ni : ∀ {i d : Nat}, h[i]? = some (.inst ad.ws d) → i ≠ nR := fun e q => by rw [q, gn] at e; cases e
    have na : ∀ {i : Nat} {fs}, h[i]? = some (.attrs fs) → i ≠ nR := fun e q => by rw [q, gn] at e; cases e
    refine (ih N (upd lm "last" (.int t)) (List.set h nR (.list (((line c k).take (dep c k + m)).map fun (j : Nat) => AV.int j)) ++ [.list []]) t (Nat.le_of_succ_le hm) (Nat.lt_of_succ_lt_succ hN) (by rw [updNe (by decide)]; exact l2) (by rw [updNe (by decide)]; exact l4) (by rw [updNe (by decide)]; exact l5) updEq (by rw [ht])
      (fr hln gl) (fr (ni gi) gi) (fr (na gd) gd) (fun j i hj => by
      obtain ⟨d, e1, e2⟩ := gs j i hj
      exact ⟨d, fr (ni e1) e1, fr (na e2) e2⟩) (by rw [A_lt (by rw [List.length_set]; exact ln), Set_eq ln])).mono fun r hr => ?_
    obtain ⟨a1, a2, a3, a4, a5⟩ := hr
    exact ⟨a1, fun y hy => by rw [a2 y hy, updNe hy], a3, fun i o hi e => a4 i o hi (fr hi e), a5⟩
end Mine
end
section
set_option maxRecDepth 20000
namespace Mine
variable (ad : AD) (H : Hp)
variable {c : Nat → Int}
theorem mf_zero (c : Nat → Int) (j : Nat) : ∀ k, k ≤ j → mf c k j = 0 ∧ mn c k j = 0
  | 0, _ => ⟨rfl, rfl⟩
  | k + 1, h => by
    obtain ⟨h1, h2⟩ := mf_zero c j k (Nat.le_of_succ_le h)
    unfold mf mn
    rw [h1, h2]
    refine ⟨?_, ?_⟩
    · rw [if_neg]
      rintro ⟨_, _, q⟩
      exact Nat.lt_asymm (line_lt c q) h
    · rw [if_neg]
      intro q
      exact Nat.lt_asymm (line_lt c q) h
/-- the objects of a row that was read -/
noncomputable def LeadAt (ad : AD) (c : Nat → Int) (h : Hp) (i j : Nat) : Prop := ∃ d, h[i]? = some (.inst ad.ws d) ∧ h[d]? = some (.attrs (wsA (wayC (chain c j) ++ txt c j) (wsF (wayC (chain c j)))))
/-- a step that turns lists alone -/
noncomputable def Lst (S : List Nat) (h h' : Hp) : Prop := ∀ (i : Nat) (o : AO), i ∉ S → h[i]? = some o → h'[i]? = some o
theorem LeadAt.keep {S : List Nat} {h h' : Hp} {i j : Nat} (x : LeadAt ad c h i j) (k : Lst S h h') (hS : ∀ s ∈ S, ∃ xs, h[s]? = some (.list xs)) : LeadAt ad c h' i j := by
  obtain ⟨d, e1, e2⟩ := x
  have n1 : i ∉ S := fun q => by obtain ⟨xs, e⟩ := hS _ q; rw [e1] at e; cases e
  have n2 : d ∉ S := fun q => by obtain ⟨xs, e⟩ := hS _ q; rw [e2] at e; cases e
  exact ⟨d, k _ _ n1 e1, k _ _ n2 e2⟩
theorem Lst.of_set {h : Hp} {i : Nat} {o : AO} : Lst [i] h (List.set h i o) := fun j x hj e => (Set_ne (fun q => hj (by subst q; exact .head _))).trans e
/-- the last statements of a turn -/
theorem read_b5 {rw lR mR nR : Nat} (A : RA H rw lR mR nR) {k i0 : Nat} (hk : k < 7) {lm : LM} {h : Hp} {is ms : List Nat}
    (l1 : lm "rows" = some (.ref rw)) (l2 : lm "leads" = some (.ref lR)) (l3 : lm "memory" = some (.ref mR)) (l4 : lm "line" = some (.ref nR)) (l5 : lm "lead" = some (.ref i0)) (l8 : lm "k" = some (.int k))
    (le : Le H h) (rows : h[rw]? = some (.list ((List.range 7).map fun j => .str (wayC (chain c j) ++ txt c j))))
    (il : is.length = k) (gl : h[lR]? = some (.list (is.map .ref))) (gs : ∀ (j i : Nat), is[j]? = some i → LeadAt ad c h i j) (g0 : LeadAt ad c h i0 k)
    (ml : ms.length = k + 1) (gm : h[mR]? = some (.list (ms.map .ref))) (mnd : ms.Nodup) (mne : ∀ u ∈ ms, u ≠ lR ∧ u ≠ mR ∧ u ≠ nR ∧ H.length ≤ u) (mc : ∀ (j u : Nat), ms[j]? = some u → h[u]? = some (.list [.int (hld c j), .int (mf c (k + 1) j), .int (mn c (k + 1) j)]))
    (gn : h[nR]? = some (.list (((line c k).take (dep c k)).map fun (j : Nat) => AV.int j))) :
    Wp (q_read_1b5 ad lm h) fun r => r.1 = .next ∧ RInv ad c H rw lR mR nR (k + 1) r.2.1 r.2.2 := by
  obtain ⟨a1, ⟨a2, a3, a4⟩, b1, b2, b3⟩ := A
  have ln := lt_of_get gn
  have ll := lt_of_get gl
  have en := getL_of gn
  have el : ∀ o, getL (List.set h nR o) lR = some (is.map .ref) := fun o => (getL_set_ne (Ne.symm b2)).trans (getL_of gl)
  have hl := (line_len c k).1
  have d3 := dep_le c k
  have nlen : (((line c k).take (dep c k)).map fun (j : Nat) => AV.int j).length ≤ 100000 := by
    rw [List.length_map, List.length_take]; exact Nat.le_trans (Nat.min_le_left _ _) (Nat.le_trans d3 (by decide))
  have fin : RInv ad c H rw lR mR nR (k + 1) lm (List.set (List.set h nR (.list (((line c k).take (dep c k)).map (fun (j : Nat) => AV.int j) ++ [.int k]))) lR (.list (is.map .ref ++ [.ref i0]))) := by
    have F : Lst [nR, lR] h (List.set (List.set h nR (.list (((line c k).take (dep c k)).map (fun (j : Nat) => AV.int j) ++ [.int k]))) lR (.list (is.map .ref ++ [.ref i0]))) := fun i o hi e => by
      rw [Set_ne (fun q => hi (by subst q; exact .tail _ (.head _))), Set_ne (fun q => hi (by subst q; exact .head _))]; exact e
    have hS : ∀ s ∈ [nR, lR], ∃ xs, h[s]? = some (.list xs) := by
      intro s hs
      rcases List.mem_cons.mp hs with rfl | hs
      · exact ⟨_, gn⟩
      · rw [List.mem_singleton.mp hs]; exact ⟨_, gl⟩
    have nm : ∀ {i : Nat}, i ≠ nR → i ≠ lR → i ∉ [nR, lR] := fun p q => by simp [p, q]
    refine ⟨l1, l2, l3, l4, fun i o e => F i o (nm (Nat.ne_of_lt (Nat.lt_of_lt_of_le (lt_of_get e) a4)) (Nat.ne_of_lt (Nat.lt_of_lt_of_le (lt_of_get e) a2))) (le i o e), F _ _ (nm (Nat.ne_of_lt (Nat.lt_of_lt_of_le a1 a4)) (Nat.ne_of_lt (Nat.lt_of_lt_of_le a1 a2))) rows, ⟨is ++ [i0], by simp [il], ?_, fun j i hj => ?_⟩, ⟨ms, ml, F _ _ (nm b3 (Ne.symm b1)) gm, mnd, mne, fun j u hu => ?_⟩, ?_⟩
    · rw [Set_eq (by rw [List.length_set]; exact ll), List.map_append]; rfl
    · by_cases hj' : j < is.length
      · rw [List.getElem?_append_left hj'] at hj
        exact (gs j i hj).keep ad F hS
      · have : j = is.length := by
          have := (List.getElem?_eq_some_iff.mp hj).1
          rw [List.length_append] at this
          exact Nat.le_antisymm (Nat.le_of_lt_succ this) (Nat.le_of_not_lt hj')
        subst this
        rw [List.getElem?_append_right (Nat.le_refl _)] at hj
        simp at hj
        subst hj
        rw [il]
        exact g0.keep ad F hS
    · obtain ⟨u1, u2, u3, u4⟩ := mne u (List.mem_of_getElem? hu)
      exact F _ _ (nm u3 u1) (mc j u hu)
    · rw [Set_ne b2, Set_eq ln]
      show _ = some (AO.list (((line c k).take (dep c k) ++ [k]).map fun (j : Nat) => AV.int j))
      rw [List.map_append]; rfl
  rw [W_self]
  unfold q_read_1b5 q_read_1b6
  clear gs g0 mc mne hl le
  rw [List.length_map] at nlen
  simp only [↓C_vV, ↓C_esC, ↓C_esN, ↓C_mG, ↓C_sSeq, ↓C_sNil, ↓C_sExp, ↓C_app, ↓W_some, ↓W_ite, seqK_n, refK_r, Wp_some, and_true, true_and, List.length_map, *]
  exact Nat.le_trans (Nat.le_of_lt hk) (by decide)
/-- the links of a turn -/
theorem read_b4 {rw lR mR nR : Nat} (A : RA H rw lR mR nR) {k i0 : Nat} (hk : k < 7) {lm : LM} {h : Hp} {is ms : List Nat}
    (l1 : lm "rows" = some (.ref rw)) (l2 : lm "leads" = some (.ref lR)) (l3 : lm "memory" = some (.ref mR)) (l4 : lm "line" = some (.ref nR)) (l5 : lm "lead" = some (.ref i0)) (l8 : lm "k" = some (.int k))
    (l9 : lm "last" = some (.int (match (line c k)[dep c k]? with | some t => (t : Int) | none => -1)))
    (le : Le H h) (rows : h[rw]? = some (.list ((List.range 7).map fun j => .str (wayC (chain c j) ++ txt c j))))
    (il : is.length = k) (gl : h[lR]? = some (.list (is.map .ref))) (gs : ∀ (j i : Nat), is[j]? = some i → LeadAt ad c h i j) (g0 : LeadAt ad c h i0 k)
    (ml : ms.length = k + 1) (gm : h[mR]? = some (.list (ms.map .ref))) (mnd : ms.Nodup) (mne : ∀ u ∈ ms, u ≠ lR ∧ u ≠ mR ∧ u ≠ nR ∧ H.length ≤ u) (mc : ∀ (j u : Nat), ms[j]? = some u → h[u]? = some (.list [.int (hld c j), .int (mf c k j), .int (mn c k j)]))
    (gn : h[nR]? = some (.list (((line c k).take (dep c k)).map fun (j : Nat) => AV.int j))) :
    Wp (q_read_1b4 ad lm h) fun r => r.1 = .next ∧ RInv ad c H rw lR mR nR (k + 1) r.2.1 r.2.2 := by
  obtain ⟨a1, ⟨a2, a3, a4⟩, b1, b2, b3⟩ := id A
  have ln := lt_of_get gn
  have hl := (line_len c k).1
  -- a link is put
  have put : ∀ (t u : Nat) (X : AO), ms[t]? = some u → (∃ xs, X = .list xs) → Lst [u] h (List.set h u X) := fun t u X _ _ => Lst.of_set
  have go : ∀ (u : Nat) (h' : Hp), u ∈ ms → Lst [u] h h' → (∀ (j v : Nat), ms[j]? = some v → h'[v]? = some (.list [.int (hld c j), .int (mf c (k + 1) j), .int (mn c (k + 1) j)])) → Wp (q_read_1b5 ad lm h') fun r => r.1 = .next ∧ RInv ad c H rw lR mR nR (k + 1) r.2.1 r.2.2 := by
    intro u h' hu F mc'
    obtain ⟨u1, u2, u3, u4⟩ := mne u hu
    have nm : ∀ {i : Nat}, i ≠ u → i ∉ [u] := fun p => by simp [p]
    have hS : ∀ s ∈ [u], ∃ xs, h[s]? = some (.list xs) := by
      intro s hs
      rw [List.mem_singleton.mp hs]
      obtain ⟨j, hj⟩ := List.getElem?_of_mem hu
      exact ⟨_, mc j u hj⟩
    exact read_b5 ad H A hk l1 l2 l3 l4 l5 l8 (fun i o e => F i o (nm (Nat.ne_of_lt (Nat.lt_of_lt_of_le (lt_of_get e) u4))) (le i o e)) (F _ _ (nm (Nat.ne_of_lt (Nat.lt_of_lt_of_le a1 u4))) rows) il (F _ _ (nm (Ne.symm u1)) gl) (fun j i hj => (gs j i hj).keep ad F hS) (g0.keep ad F hS) ml (F _ _ (nm (Ne.symm u2)) gm) mnd mne mc' (F _ _ (nm (Ne.symm u3)) gn)
  cases ht : (line c k)[dep c k]? with
  | some t =>
    rw [ht] at l9
    simp only at l9
    have htk := line_lt c ht
    obtain ⟨u, hu⟩ : ∃ u, ms[t]? = some u := ⟨_, List.getElem?_eq_getElem (ml.symm ▸ Nat.lt_succ_of_lt htk)⟩
    have cu := mc t u hu
    have lu := lt_of_get cu
    have b5 := go u (List.set h u (.list [.int (hld c t), .int (mf c k t), .int (256 + k)])) (List.mem_of_getElem? hu) Lst.of_set (fun j v hv => by
      have e2 : mf c (k + 1) j = mf c k j := by
        show (if _ then _ else _) = _
        rw [if_neg]; rintro ⟨q, _⟩; rw [ht] at q; cases q
      by_cases hj : j = t
      · subst hj
        rw [hu] at hv; cases hv
        have e3 : mn c (k + 1) j = 256 + k := if_pos ht
        rw [Set_eq lu, e2, e3]
      · have e3 : mn c (k + 1) j = mn c k j := by
          show (if _ then _ else _) = _
          rw [if_neg]; intro q; rw [ht] at q; cases q; exact hj rfl
        rw [Set_ne (nodup_ne mnd hu hv (Ne.symm hj)), e2, e3]
        exact mc j v hv)
    have e1 : nthI (ms.map AV.ref) (t : Int) = some (.ref u) := nthN (by rw [List.getElem?_map, hu]; rfl) (Nat.lt_trans htk (Nat.lt_trans hk (by decide)))
    have hge : (0 : Int) ≤ (t : Int) := Int.natCast_nonneg t
    rw [W_self] at b5 ⊢
    unfold q_read_1b4 q_read_1b4t0
    clear go gs g0 mc mne put hl le ht
    simp only [↓C_cK, ↓C_vV, ↓C_bO, ↓C_cG, ↓C_esC, ↓C_esN, ↓C_tCmp, ↓C_sSeq, ↓C_sNil, ↓C_sExp, ↓C_sIf, ↓C_geF, ↓C_idxL, ↓C_setI, ↓C_addG, ↓C_setG, ↓W_some, ↓W_ite, seqK_n, bolK_b, itemF_l, putF_l, ↓reduceIte, List.length_cons, List.length_nil, Nat.reduceAdd, Nat.reduceLeDiff, Nat.zero_add, decide_true, Int.reduceLE, Int.reduceToNat, and_true, true_and, *]
    exact ⟨by decide, b5⟩
  | none =>
    rw [ht] at l9
    simp only at l9
    have hnl : ¬ (0 : Int) ≤ -1 := by decide
    have r1 : rd (h ++ [.list []]) 4 (.ref nR) = some (.list ((((line c k).take (dep c k)).map fun (j : Nat) => (j : Int)).map PyData.int)) := rd_nats (by rw [AL_lt ln]; exact getL_of gn)
    have r2 : rd (h ++ [.list []]) 4 (.ref h.length) = some (.list []) := rd_nil (getL_new _ _)
    have hdl : dep c k = (line c k).length := by
      exact Nat.le_antisymm hl (List.getElem?_eq_none_iff.mp ht)
    by_cases hd : dep c k = 0
    · have e0 : PyData.eqv (.list ((((line c k).take (dep c k)).map fun (j : Nat) => (j : Int)).map PyData.int)) (.list []) = true := by
        rw [eqv_nil, hd]; rfl
      have b5 : Wp (q_read_1b5 ad lm (h ++ [.list []])) fun r => r.1 = .next ∧ RInv ad c H rw lR mR nR (k + 1) r.2.1 r.2.2 := by
        have fr : ∀ {i : Nat} {o : AO}, h[i]? = some o → (h ++ [.list []])[i]? = some o := fun e => (A_lt (lt_of_get e)).trans e
        have F : Lst [] h (h ++ [.list []]) := fun i o _ e => fr e
        refine read_b5 ad H A hk l1 l2 l3 l4 l5 l8 (le.trans (Le.app _ _)) (fr rows) il (fr gl) (fun j i hj => (gs j i hj).keep ad F (fun _ q => nomatch q)) (g0.keep ad F (fun _ q => nomatch q)) ml (fr gm) mnd mne (fun j v hv => ?_) (fr gn)
        have e2 : mf c (k + 1) j = mf c k j := by
          show (if _ then _ else _) = _
          rw [if_neg]; rintro ⟨_, q, _⟩; exact Nat.ne_of_gt q hd
        have e3 : mn c (k + 1) j = mn c k j := by
          show (if _ then _ else _) = _
          rw [if_neg]; intro q; rw [ht] at q; cases q
        rw [e2, e3]
        exact fr (mc j v hv)
      rw [W_self] at b5 ⊢
      unfold q_read_1b4 q_read_1b4e0
      clear go gs g0 mc mne put hl le ht hd hdl
      simp only [↓C_cK, ↓C_vV, ↓C_eList, ↓C_esN, ↓C_tCmp, ↓C_sSeq, ↓C_sNil, ↓C_sIf, ↓C_geF, ↓C_neR, ↓W_some, ↓W_ite, seqK_n, bolK_b, ↓reduceIte, List.length_nil, Nat.reduceLeDiff, decide_false, Bool.false_eq_true, Bool.not_true, Int.reduceNeg, and_true, *]
    · have e0 : PyData.eqv (.list ((((line c k).take (dep c k)).map fun (j : Nat) => (j : Int)).map PyData.int)) (.list []) = false := by
        rw [eqv_nil, decide_eq_false]
        intro q
        have := congrArg List.length q
        rw [List.length_map, List.length_take, List.length_nil, Nat.min_eq_left hl] at this
        exact hd this
      obtain ⟨t, ht'⟩ : ∃ t, (line c k)[dep c k - 1]? = some t := ⟨_, List.getElem?_eq_getElem (Nat.lt_of_lt_of_le (Nat.sub_lt (Nat.pos_of_ne_zero hd) Nat.one_pos) hl)⟩
      have htk := line_lt c ht'
      obtain ⟨u, hu⟩ : ∃ u, ms[t]? = some u := ⟨_, List.getElem?_eq_getElem (ml.symm ▸ Nat.lt_succ_of_lt htk)⟩
      have cu := mc t u hu
      have lu := lt_of_get cu
      have b5 := go u (List.set h u (.list [.int (hld c t), .int (256 + k), .int (mn c k t)]) ++ [.list []]) (List.mem_of_getElem? hu) (fun i o hi e => by
          rw [A_lt (by rw [List.length_set]; exact lt_of_get e)]; exact Lst.of_set i o hi e) (fun j v hv => by
        have lv := lt_of_get (mc j v hv)
        rw [A_lt (by rw [List.length_set]; exact lv)]
        have e3 : mn c (k + 1) j = mn c k j := by
          show (if _ then _ else _) = _
          rw [if_neg]; intro q; rw [ht] at q; cases q
        by_cases hj : j = t
        · subst hj
          rw [hu] at hv; cases hv
          have e2 : mf c (k + 1) j = 256 + k := if_pos ⟨ht, Nat.pos_of_ne_zero hd, ht'⟩
          rw [Set_eq lu, e2, e3]
        · have e2 : mf c (k + 1) j = mf c k j := by
            show (if _ then _ else _) = _
            rw [if_neg]; rintro ⟨_, _, q⟩; rw [ht'] at q; cases q; exact hj rfl
          rw [Set_ne (nodup_ne mnd hu hv (Ne.symm hj)), e2, e3]
          exact mc j v hv)
      have e1 : nthI (ms.map AV.ref) (t : Int) = some (.ref u) := nthN (by rw [List.getElem?_map, hu]; rfl) (Nat.lt_trans htk (Nat.lt_trans hk (by decide)))
      have e4 : nthI (((line c k).take (dep c k)).map fun (j : Nat) => AV.int j) (-1) = some (.int t) := by
        refine nth_last ?_
        rw [List.length_map, List.length_take, Nat.min_eq_left hl, List.getElem?_map, List.getElem?_take_of_lt (Nat.sub_lt (Nat.pos_of_ne_zero hd) Nat.one_pos), ht']; rfl
      have lm' := lt_of_get gm
      rw [W_self] at b5 ⊢
      unfold q_read_1b4 q_read_1b4e0 q_read_1b4e0t0
      clear go gs g0 mc mne put hl le ht hd hdl ht'
      simp only [↓C_cK, ↓C_vV, ↓C_bO, ↓C_eNeg, ↓C_eList, ↓C_cG, ↓C_esC, ↓C_esN, ↓C_tCmp, ↓C_sSeq, ↓C_sNil, ↓C_sExp, ↓C_sIf, ↓C_geF, ↓C_idxL, ↓C_setI, ↓C_addG, ↓C_setG, ↓C_neR, ↓W_some, ↓W_ite, seqK_n, bolK_b, intK_i, itemF_l, putF_l, ↓reduceIte, List.length_cons, List.length_nil, Nat.reduceAdd, Nat.reduceLeDiff, Nat.zero_add, decide_false, Bool.false_eq_true, Bool.not_false, Int.reduceLE, Int.reduceNeg, Int.reduceToNat, and_true, true_and, A_lt, S_lt, *]
      exact ⟨by decide, b5⟩
end Mine
end
section
set_option maxRecDepth 20000
namespace Mine
variable (ad : AD) (H : Hp)
variable {c : Nat → Int}
theorem LeadAt.le {h h' : Hp} {i j : Nat} (x : LeadAt ad c h i j) (l : Le h h') : LeadAt ad c h' i j := by
  obtain ⟨d, e1, e2⟩ := x
  exact ⟨d, l _ _ e1, l _ _ e2⟩
theorem slice_txt (way t : List Nat) (h : way.length + t.length ≤ 1000) : sliceS (way ++ t) (some (way.length : Int)) none = some t := by
  unfold sliceS
  rw [if_pos ⟨by simp, by simp; omega, by simp; omega⟩]
  simp
  rw [show ((way.length : Int) + t.length).toNat - way.length = t.length from Nat.add_sub_cancel_left _ _, List.take_length]
theorem read_step {rw lR mR nR : Nat} (A : RA H rw lR mR nR) (hc : ∀ j, 0 ≤ c j) (k : Nat) (lm : LM) (h : Hp) (hk : k < 7) (I : RInv ad c H rw lR mR nR k lm h) :
    Wp (q_read_1b0 ad (upd lm "k" (.int k)) h) fun r => r.1 = .next ∧ RInv ad c H rw lR mR nR (k + 1) r.2.1 r.2.2 := by
  obtain ⟨l1, l2, l3, l4, le, rows, ⟨is, il, gl, gs⟩, ⟨ms, ml, gm, mnd, mne, mc⟩, gn⟩ := I
  obtain ⟨a1, ⟨a2, a3, a4⟩, b1, b2, b3⟩ := id A
  have e1 : nthI ((List.range 7).map fun j => AV.str (wayC (chain c j) ++ txt c j)) (k : Int) = some (.str (wayC (chain c k) ++ txt c k)) := nth_map (f := fun j => AV.str (wayC (chain c j) ++ txt c j)) hk (by decide)
  obtain ⟨ch, rest, ht, hh1, hh2⟩ := txt_head (w := c k / 48 % 8) (f := c k / 384) (k := (k : Int)) (md (by decide)).1 (md (by decide)).2
  have ht' : txt c k = ch :: rest := ht
  clear ht
  have wl := wayC_len (chain c k)
  rw [chain_len] at wl
  have d3 := dep_le c k
  have w15 : (wayC (chain c k)).length ≤ 15 := Nat.le_trans wl (Nat.mul_le_mul_left 5 d3)
  have tl : (txt c k).length ≤ 30 := rowT_len _ _ _
  have W := ws_ok ad h (way := wayC (chain c k)) (rest := rest) hh1 hh2 (wayC_blank _) (Nat.le_trans w15 (by decide))
  rw [← ht'] at W
  clear ht'
  rw [W_self]
  unfold q_read_1b0
  have first : ∀ {P : Fl × LM × Hp → Prop} (K : Fl × LM × Hp → Option (Fl × LM × Hp)), (∀ h1, Le h h1 → getA ad.ws h1 (h.length + 1) = some (h.length, wsA (wayC (chain c k) ++ txt c k) (wsF (wayC (chain c k)))) → Wp (K (.next, upd (upd lm "k" (.int k)) "lead" (.ref (h.length + 1)), h1)) P) →
      Wp ((sAsg "lead" (cG (g_ws ad) (esC (bO idxF (vV "rows") (vV "k")) esN)) (upd lm "k" (.int k)) h).bind K) P := by
    intro P K hK
    clear gs mc mne mnd gn gm gl
    simp only [↓C_vV, ↓C_bO, ↓C_cG, ↓C_esC, ↓C_esN, ↓C_sAsg, ↓C_updE, ↓C_updN, ↓C_idxL, ↓W_some, itemF_l, String.reduceEq, *]
    refine W.bind fun r hr => ?_
    obtain ⟨v, h1⟩ := r
    obtain ⟨r1, r2, r3⟩ := hr
    simp only at r1 r2 r3
    subst r1
    exact hK h1 r2 r3
  rw [C_sSeq]
  refine first _ fun h1 hle hA => ?_
  clear first W
  rw [seqK_n]
  have HO := held_ok ad h1 (what := c k / 48 % 8) (far := c k / 384) (k := (k : Int)) (md (by decide)).1 (md (by decide)).2 (Int.natCast_nonneg k) (Int.ofNat_lt.mpr hk)
  have HO : g_held ad [.str (txt c k), .int k] h1 = some (.int (hld c k), h1) := HO
  have hn : (wsF (wayC (chain c k))).n = (wayC (chain c k)).length := (wsF_ok _).1
  have hS := slice_txt (wayC (chain c k)) (txt c k) (Nat.le_trans (Nat.add_le_add w15 tl) (by decide))
  rw [← hn] at hS
  obtain ⟨ha1, ha2⟩ := getA_some hA
  have gm1 := hle _ _ gm
  have lm1 := lt_of_get gm1
  have egm := getL_of gm1
  have rows1 := hle _ _ rows
  have mlen : ms.length ≤ 99999 := by rw [ml]; exact Nat.le_trans (Nat.le_of_lt hk) (by decide)
  -- behind the second statement
  have second : ∀ {P : Fl × LM × Hp → Prop} (K : Fl × LM × Hp → Option (Fl × LM × Hp)), Wp (K (.next, upd (upd lm "k" (.int k)) "lead" (.ref (h.length + 1)), List.set h1 mR (.list (ms.map .ref ++ [.ref h1.length])) ++ [.list [.int (hld c k), .int 0, .int 0]])) P →
      Wp ((sExp (mG appG (vV "memory") (esC (eList (esC (cG (g_held ad) (esC (eSlS (bO idxF (vV "rows") (vV "k")) (pS (eAttr ad.ws "n" (vV "lead"))) pN) (esC (vV "k") esN))) (esC (cK (.int 0)) (esC (cK (.int 0)) esN)))) esN)) (upd (upd lm "k" (.int k)) "lead" (.ref (h.length + 1))) h1).bind K) P := by
    intro P K hK
    unfold wsA at hA
    clear gs mc mne mnd gn gl hn
    simp only [↓C_cK, ↓C_vV, ↓C_bO, ↓C_eList, ↓C_cG, ↓C_esC, ↓C_esN, ↓C_mG, ↓C_eAttr, ↓C_pN, ↓C_pS, ↓C_eSlS, ↓C_sExp, ↓C_updE, ↓C_updN, ↓C_idxL, ↓C_app, ↓W_some, ↓W_ite, intK_i, refK_r, strK_s, itemF_l, ↓reduceIte, String.reduceEq, List.length_cons, List.length_nil, Nat.reduceAdd, Nat.reduceLeDiff, Nat.zero_add, and_true, true_and, lookA, AL_lt, S_lt, List.length_map, *]
    exact Nat.le_trans (Nat.le_of_lt hk) (by decide)
  unfold q_read_1b1
  rw [C_sSeq]
  refine second _ ?_
  clear second
  rw [seqK_n]
  unfold q_read_1b2
  rw [C_sSeq, C_sAsg, C_eNeg, C_cK, intK_i, seqK_n]
  unfold q_read_1b3
  rw [C_sSeq]
  have F : Lst [mR] h1 (List.set h1 mR (AO.list (ms.map AV.ref ++ [AV.ref h1.length])) ++ [AO.list [AV.int (hld c k), AV.int 0, AV.int 0]]) := fun i o hi e => by
    rw [A_lt (by rw [List.length_set]; exact lt_of_get e)]; exact Lst.of_set i o hi e
  have m2 : (List.set h1 mR (AO.list (ms.map AV.ref ++ [AV.ref h1.length])) ++ [AO.list [AV.int (hld c k), AV.int 0, AV.int 0]])[mR]? = some (.list ((ms ++ [h1.length]).map .ref)) := by
    rw [A_lt (by rw [List.length_set]; exact lm1), Set_eq lm1, List.map_append]; rfl
  have c2 : (List.set h1 mR (AO.list (ms.map AV.ref ++ [AV.ref h1.length])) ++ [AO.list [AV.int (hld c k), AV.int 0, AV.int 0]])[h1.length]? = some (AO.list [AV.int (hld c k), AV.int 0, AV.int 0]) := by
    rw [List.getElem?_append_right (by simp)]
    simp
  generalize List.set h1 mR (AO.list (ms.map AV.ref ++ [AV.ref h1.length])) ++ [AO.list [AV.int (hld c k), AV.int 0, AV.int 0]] = h2 at F m2 c2 ⊢
  have hS1 : ∀ s ∈ [mR], ∃ xs, h1[s]? = some (.list xs) := by
    intro s hs
    rw [List.mem_singleton.mp hs]; exact ⟨_, gm1⟩
  have nm : ∀ {i : Nat}, i ≠ mR → i ∉ [mR] := fun p => by simp [p]
  have gs2 : ∀ (j i : Nat), is[j]? = some i → LeadAt ad c h2 i j := fun j i hj => LeadAt.keep ad (LeadAt.le ad (gs j i hj) hle) F hS1
  have g02 : LeadAt ad c h2 (h.length + 1) k := LeadAt.keep ad ⟨_, ha1, ha2⟩ F hS1
  have hl := (line_len c k).1
  obtain ⟨d0, q1, q2⟩ := id g02
  have l7 : (line c k).length ≤ 4 := by
    cases k with
    | zero => exact Nat.zero_le _
    | succ k => rw [(line_len c k).2]; exact Nat.succ_le_succ (dep_le c k)
  have S := shut (c := c) (is := is) (i0 := h.length + 1) (d0 := d0) (raw := wayC (chain c k) ++ txt c k) ad (lR := lR) (nR := nR) b2 il (Nat.le_of_lt hk) ((line c k).length - dep c k) 200 (upd (upd (upd lm "k" (.int k)) "lead" (.ref (h.length + 1))) "last" (.int (-1)))
    h2 (-1) (Nat.le_of_eq (Nat.add_sub_of_le hl)) (Nat.lt_of_le_of_lt (Nat.le_trans (Nat.sub_le _ _) l7) (by decide)) (by simp only [updNe, ne_eq, String.reduceEq, not_false_eq_true, Int.reduceNeg, *]) (by simp only [updNe, ne_eq, String.reduceEq, not_false_eq_true, Int.reduceNeg, *]) (by simp only [updNe, updEq, ne_eq, String.reduceEq, not_false_eq_true, Int.reduceNeg, *]) (by simp only [updEq, Int.reduceNeg, *])
    (by rw [show dep c k + ((line c k).length - dep c k) = (line c k).length from Nat.add_sub_of_le hl]; simp) (F _ _ (nm b1) (hle _ _ gl)) q1 q2 (fun j i hj => gs2 j i hj) (by
      rw [show dep c k + ((line c k).length - dep c k) = (line c k).length from Nat.add_sub_of_le hl, List.take_length]
      exact F _ _ (nm (Ne.symm b3)) (hle _ _ gn))
  refine S.bind fun r hr => ?_
  obtain ⟨fl, lm3, h3⟩ := r
  obtain ⟨s1, s2, s3, s4, s5⟩ := hr
  simp only at s1 s2 s3 s4 s5
  subst s1
  rw [seqK_n, ← W_self]
  have F3 : Lst [nR] _ h3 := fun i o hi e => s4 i o (fun q => hi (by subst q; exact .head _)) e
  have hS3 : ∀ s ∈ [nR], ∃ xs, h2[s]? = some (.list xs) := by
    intro s hs
    rw [List.mem_singleton.mp hs]; exact ⟨_, F _ _ (nm (Ne.symm b3)) (hle _ _ gn)⟩
  have nn : ∀ {i : Nat}, i ≠ nR → i ∉ [nR] := fun p => by simp [p]
  have lh := hle.len
  have mlt : ∀ u ∈ ms, u < h.length := fun u hu => by
    obtain ⟨j, hj⟩ := List.getElem?_of_mem hu
    exact lt_of_get (mc j u hj)
  refine read_b4 ad H A hk (is := is) (ms := ms ++ [h1.length]) (i0 := h.length + 1) (by rw [s2 _ (by decide)]; simp only [updNe, ne_eq, String.reduceEq, not_false_eq_true, Int.reduceNeg, *]) (by rw [s2 _ (by decide)]; simp only [updNe, ne_eq, String.reduceEq, not_false_eq_true, Int.reduceNeg, *]) (by rw [s2 _ (by decide)]; simp only [updNe, ne_eq, String.reduceEq, not_false_eq_true, Int.reduceNeg, *]) (by rw [s2 _ (by decide)]; simp only [updNe, ne_eq, String.reduceEq, not_false_eq_true, Int.reduceNeg, *]) (by rw [s2 _ (by decide)]; simp only [updNe, updEq, ne_eq, String.reduceEq, not_false_eq_true, Int.reduceNeg]) (by rw [s2 _ (by decide)]; simp only [updNe, updEq, ne_eq, String.reduceEq, not_false_eq_true, Int.reduceNeg]) s3
    (fun i o e => ?_) (F3 _ _ (nn (Nat.ne_of_lt (Nat.lt_of_lt_of_le a1 a4))) (F _ _ (nm (Nat.ne_of_lt (Nat.lt_of_lt_of_le a1 a3))) rows1)) il (F3 _ _ (nn b2) (F _ _ (nm b1) (hle _ _ gl))) (fun j i hj => LeadAt.keep ad (gs2 j i hj) F3 hS3) (LeadAt.keep ad g02 F3 hS3) (by simp [ml]) ?_ ?_ ?_ ?_ s5
  · have := lt_of_get e
    exact F3 _ _ (nn (Nat.ne_of_lt (Nat.lt_of_lt_of_le this a4))) (F _ _ (nm (Nat.ne_of_lt (Nat.lt_of_lt_of_le this a3))) (hle _ _ (le _ _ e)))
  · exact F3 _ _ (nn b3) m2
  · refine List.nodup_append.mpr ⟨mnd, by simp, fun x hx y hy => ?_⟩
    rw [List.mem_singleton.mp hy]; exact Nat.ne_of_lt (Nat.lt_of_lt_of_le (mlt x hx) lh)
  · intro u hu
    rcases List.mem_append.mp hu with q | q
    · exact mne u q
    · rw [List.mem_singleton.mp q]
      exact ⟨Nat.ne_of_gt (Nat.lt_of_lt_of_le (lt_of_get gl) lh), Nat.ne_of_gt (Nat.lt_of_lt_of_le (lt_of_get gm) lh), Nat.ne_of_gt (Nat.lt_of_lt_of_le (lt_of_get gn) lh), Nat.le_trans le.len lh⟩
  · intro j u hu
    by_cases hj : j < ms.length
    · rw [List.getElem?_append_left hj] at hu
      obtain ⟨u1, u2, u3, u4⟩ := mne u (List.mem_of_getElem? hu)
      exact F3 _ _ (nn u3) (F _ _ (nm u2) (hle _ _ (mc j u hu)))
    · have : j = ms.length := by
        have := (List.getElem?_eq_some_iff.mp hu).1
        rw [List.length_append] at this
        exact Nat.le_antisymm (Nat.le_of_lt_succ this) (Nat.le_of_not_lt hj)
      subst this
      rw [List.getElem?_append_right (Nat.le_refl _)] at hu
      simp at hu
      subst hu
      obtain ⟨z1, z2⟩ := mf_zero c ms.length k (Nat.le_of_eq ml.symm)
      rw [z1, z2, ml]
      exact F3 _ _ (nn (Nat.ne_of_gt (Nat.lt_of_lt_of_le (lt_of_get gn) lh))) c2
/-- what was read of the page -/
structure ReadR (c : Nat → Int) (H : Hp) (r : AV × Hp) (mR : Nat) (ms : List Nat) : Prop where
  val : r.1 = .ref mR
  le : Le H r.2
  mem : r.2[mR]? = some (.list (ms.map .ref))
  ml : ms.length = 7
  nd : ms.Nodup
  ge : ∀ u ∈ ms, H.length ≤ u
  cells : ∀ (j u : Nat), ms[j]? = some u → r.2[u]? = some (.list [.int (hld c j), .int (fst' c j), .int (nxt' c j)])
theorem read_ok (hc : ∀ j, 0 ≤ c j) {rw : Nat} (hrw : H[rw]? = some (.list ((List.range 7).map fun j => .str (wayC (chain c j) ++ txt c j)))) :
    Wp (g_read ad [.ref rw] H) fun r => ∃ mR ms, ReadR c H r mR ms := by
  have lc := lt_of_get hrw
  have gl := getL_of hrw
  unfold g_read
  rw [W_gOf]
  refine ⟨rfl, ?_⟩
  unfold q_read q_read_0 q_read_1
  simp only [↓C_vV, ↓C_eList, ↓C_eTup, ↓C_cG, ↓C_esC, ↓C_esN, ↓C_sSeq, ↓C_sSwp, ↓C_updE, ↓C_updN, ↓C_lenR, ↓C_rng1, ↓C_sFor, ↓W_some, ↓W_ite, seqK_n, tupK_t, ↓reduceIte, updN, String.reduceEq, bindA, List.length_cons, List.length_nil, Nat.reduceAdd, Nat.reduceLeDiff, Nat.zero_add, true_and, AL_lt, List.append_assoc, List.length_append, List.length_map, itemsOf, List.reverse_cons, List.reverse_nil, List.nil_append, List.cons_append, *]
  have A : RA H rw H.length (H.length + 1) (H.length + 2) := ⟨lc, ⟨Nat.le_refl _, Nat.le_add_right _ _, Nat.le_add_right _ _⟩, add_ne (a := 0) (by decide), add_ne (a := 0) (by decide), add_ne (by decide)⟩
  rw [List.length_range]
  refine ⟨by decide, ⟨by decide, by decide⟩, ?_⟩
  rw [show (((7 : Nat) : Int) - 0).toNat = 7 from rfl]
  refine (for_range (Inv := fun k lm h => RInv ad c H rw H.length (H.length + 1) (H.length + 2) k lm h) 7 (fun k lm h hk I => read_step ad H A hc k lm h hk I) ?_).bind fun r hr => ?_
  · refine ⟨by simp only [updNe, updEq, ne_eq, String.reduceEq, not_false_eq_true], by simp only [updEq], by simp only [updNe, updEq, ne_eq, String.reduceEq, not_false_eq_true], by simp only [updNe, updEq, ne_eq, String.reduceEq, not_false_eq_true], Le.app _ _, (A_lt lc).trans hrw, ⟨[], rfl, A0, fun j i hj => by simp at hj⟩, ⟨[], rfl, A1, by simp, (fun u hu => nomatch hu), fun j u hu => by simp at hu⟩, A2⟩
  · obtain ⟨fl, lm, h⟩ := r
    obtain ⟨e1, I⟩ := hr
    simp only at e1 I
    subst e1
    obtain ⟨l1, l2, l3, l4, le, rows, _, ⟨ms, ml, gm, mnd, mne, mc⟩, gn⟩ := I
    rw [seqK_n]
    unfold q_read_2
    have fin : ∃ mR ms, ReadR c H (.ref (H.length + 1), h) mR ms := ⟨_, ms, rfl, le, gm, ml, mnd, fun u hu => (mne u hu).2.2.2, fun j u hu => by
      have hj := (List.getElem?_eq_some_iff.mp hu).1
      obtain ⟨f1, f2⟩ := fields_eq c (j := j) (ml ▸ hj)
      rw [f1, f2]
      exact mc j u hu⟩
    clear mc mne mnd
    simp only [↓C_vV, ↓C_sSeq, ↓C_sRet, ↓W_some, seqK_r, Wp_some, *]
end Mine
end
section
set_option maxRecDepth 20000
namespace Mine
noncomputable abbrev Met := List (Int × Int)
noncomputable def keys (m : Met) : List Int := m.map (·.1)
noncomputable def ix (v : Int) : Nat := (v - 256).toNat
theorem ix_lt {v : Int} (h1 : 256 ≤ v) (h2 : v < 263) : ix v < 7 := (Int.toNat_lt (Int.sub_nonneg_of_le h1)).mpr (Int.sub_lt_sub_right h2 256)
theorem ix_val {v : Int} (h : 256 ≤ v) : 256 + ((ix v : Nat) : Int) = v := by unfold ix; rw [Int.toNat_of_nonneg (Int.sub_nonneg_of_le h), Int.add_comm, Int.sub_add_cancel]
theorem ix_inj {x y : Int} (hx : 256 ≤ x) (hy : 256 ≤ y) (h : ix x = ix y) : x = y := (ix_val hx).symm.trans (by rw [h]; exact ix_val hy)
section
variable (D : Nat → Nat → Int)
/-- a walk in depth -/
noncomputable def visit : Nat → Met → Int → Int → Met
  | 0, met, _, _ => met
  | n + 1, met, v, b => if 256 ≤ v ∧ v ∉ keys met then visit n (visit n (visit n (met ++ [(v, b)]) (D (ix v) 0) v) (D (ix v) 1) v) (D (ix v) 2) v else met
noncomputable def unv (met : Met) : Nat := (List.range 7).countP fun (j : Nat) => decide ((256 + (j : Int)) ∉ keys met)
theorem countP_lt' {p q : Nat → Bool} : ∀ l : List Nat, (∀ x ∈ l, q x = true → p x = true) → (∃ x ∈ l, p x = true ∧ q x = false) → l.countP q < l.countP p
  | [], _, h => by obtain ⟨_, h, _⟩ := h; cases h
  | a :: l, hi, h => by
    have hm : l.countP q ≤ l.countP p := List.countP_mono_left fun x hx => hi x (.tail _ hx)
    rw [List.countP_cons, List.countP_cons]
    obtain ⟨x, hx, h1, h2⟩ := h
    rcases List.mem_cons.mp hx with rfl | hx
    · rw [h1, h2]; simp; omega
    · have := countP_lt' l (fun y hy => hi y (.tail _ hy)) ⟨x, hx, h1, h2⟩
      have ha := hi a (.head _)
      cases e1 : q a with
      | false => simp; omega
      | true => rw [ha e1]; simp; omega
theorem keys_app (m n : Met) : keys (m ++ n) = keys m ++ keys n := List.map_append
theorem unv_app (m n : Met) : unv (m ++ n) ≤ unv m := by
  refine List.countP_mono_left fun x _ h => ?_
  rw [decide_eq_true_eq] at h ⊢
  rw [keys_app] at h
  exact fun q => h (List.mem_append_left _ q)
theorem unv_new {m : Met} {v b : Int} (h1 : 256 ≤ v) (h2 : v < 263) (h : v ∉ keys m) : unv (m ++ [(v, b)]) < unv m := by
  refine countP_lt' _ (fun x _ q => ?_) ⟨ix v, List.mem_range.mpr (ix_lt h1 h2), ?_, ?_⟩
  · rw [decide_eq_true_eq] at q ⊢
    rw [keys_app] at q
    exact fun r => q (List.mem_append_left _ r)
  · have : 256 + ((ix v : Nat) : Int) = v := ix_val h1
    rw [this, decide_eq_true h]
  · have : 256 + ((ix v : Nat) : Int) = v := ix_val h1
    rw [this, decide_eq_false]
    rw [keys_app]
    exact fun q => q (List.mem_append_right _ (.head _))
theorem unv_zero {m : Met} {v : Int} (h1 : 256 ≤ v) (h2 : v < 263) (h : v ∉ keys m) : 0 < unv m := by
  refine List.countP_pos_iff.mpr ⟨ix v, List.mem_range.mpr (ix_lt h1 h2), ?_⟩
  have : 256 + ((ix v : Nat) : Int) = v := ix_val h1
  rw [this, decide_eq_true h]
theorem visit_app : ∀ (n : Nat) (met : Met) (v b : Int), ∃ x, visit D n met v b = met ++ x
  | 0, met, v, b => ⟨[], by simp [visit]⟩
  | n + 1, met, v, b => by
    unfold visit
    split
    · obtain ⟨x, hx⟩ := visit_app n (met ++ [(v, b)]) (D (ix v) 0) v
      obtain ⟨y, hy⟩ := visit_app n (visit D n (met ++ [(v, b)]) (D (ix v) 0) v) (D (ix v) 1) v
      obtain ⟨z, hz⟩ := visit_app n (visit D n (visit D n (met ++ [(v, b)]) (D (ix v) 0) v) (D (ix v) 1) v) (D (ix v) 2) v
      exact ⟨[(v, b)] ++ x ++ y ++ z, by rw [hz, hy, hx]; simp⟩
    · exact ⟨[], by simp⟩
-- the walker without a pile
structure St where
  M : Nat → Nat → Int
  st : Int → Option Int
  met : Met
  b : Int
  v : Int
noncomputable def put (M : Nat → Nat → Int) (j f : Nat) (x : Int) : Nat → Nat → Int := fun j' f' => if j' = j ∧ f' = f then x else M j' f'
noncomputable def pst (s : Int → Option Int) (x y : Int) : Int → Option Int := fun z => if z = x then some y else s z
inductive Turn : St → St → Prop
  | visit {M st met b v} (h1 : 256 ≤ v) (h2 : v < 263) (h : st v = none) : Turn ⟨M, st, met, b, v⟩ ⟨put M (ix v) 0 b, pst st v 0, met ++ [(v, b)], v, M (ix v) 0⟩
  | next {M st met b v} {f : Nat} (h : ¬(256 ≤ v ∧ st v = none)) (h1 : 256 ≤ b) (h2 : b < 263) (hs : st b = some (f : Int)) (hf : f < 2) : Turn ⟨M, st, met, b, v⟩ ⟨put (put M (ix b) f v) (ix b) (f + 1) (M (ix b) f), pst st b ((f : Int) + 1), met, b, M (ix b) (f + 1)⟩
  | last {M st met b v} (h : ¬(256 ≤ v ∧ st v = none)) (h1 : 256 ≤ b) (h2 : b < 263) (hs : st b = some 2) : Turn ⟨M, st, met, b, v⟩ ⟨put M (ix b) 2 v, st, met, M (ix b) 2, b⟩
inductive Turns : Nat → St → St → Prop
  | zero {s} : Turns 0 s s
  | succ {n s s' s''} (h : Turn s s') (h' : Turns n s' s'') : Turns (n + 1) s s''
theorem Turns.app {n m : Nat} {s s' s'' : St} (h : Turns n s s') (h' : Turns m s' s'') : Turns (n + m) s s'' := by
  induction h with
  | zero => rw [Nat.zero_add]; exact h'
  | succ t _ ih => rw [Nat.succ_add_eq_add_succ]; exact .succ t (ih h')
theorem Turns.one {s s' : St} (h : Turn s s') : Turns 1 s s' := .succ h .zero
theorem walk_ar (a b c d : Nat) : 1 + 4 * a + 1 + 4 * b + 1 + 4 * c + 1 = 4 * (d + 1 + a + b + c - d) := by
  rw [Nat.add_assoc d, Nat.add_assoc d, Nat.add_assoc d, Nat.add_sub_cancel_left]; omega
theorem walk_visit (hD : ∀ j f, D j f < 263) : ∀ (n : Nat) (met : Met) (v b : Int) (M : Nat → Nat → Int) (st : Int → Option Int), (∀ x, st x = none ↔ x ∉ keys met) →
    (∀ x, 256 ≤ x → x < 263 → x ∉ keys met → ∀ f < 3, M (ix x) f = D (ix x) f) → v < 263 → unv met ≤ n →
    ∃ st', Turns (4 * ((visit D n met v b).length - met.length)) ⟨M, st, met, b, v⟩ ⟨M, st', visit D n met v b, b, v⟩ ∧ (∀ x, st' x = none ↔ x ∉ keys (visit D n met v b)) ∧ (∀ x ∈ keys met, st' x = st x) ∧ (256 ≤ v → v ∈ keys (visit D n met v b))
  | 0, met, v, b, M, st, hk, hM, hv, hu => by
    have h0 : 256 ≤ v → v ∈ keys met := fun h => by
      by_cases q : v ∈ keys met
      · exact q
      · exact absurd (unv_zero h hv q) (Nat.not_lt.mpr hu)
    unfold visit
    rw [Nat.sub_self]
    exact ⟨st, .zero, hk, fun _ _ => rfl, h0⟩
  | n + 1, met, v, b, M, st, hk, hM, hv, hu => by
    by_cases hc : 256 ≤ v ∧ v ∉ keys met
    · obtain ⟨h1, h2⟩ := hc
      have u1 := unv_new (b := b) h1 hv h2
      have e0 : visit D (n + 1) met v b = visit D n (visit D n (visit D n (met ++ [(v, b)]) (D (ix v) 0) v) (D (ix v) 1) v) (D (ix v) 2) v := by
        show (if _ then _ else _) = _
        rw [if_pos ⟨h1, h2⟩]
      rw [e0]
      obtain ⟨x2, e2⟩ := visit_app D n (met ++ [(v, b)]) (D (ix v) 0) v
      generalize hm2 : visit D n (met ++ [(v, b)]) (D (ix v) 0) v = m2 at *
      obtain ⟨x3, e3⟩ := visit_app D n m2 (D (ix v) 1) v
      generalize hm3 : visit D n m2 (D (ix v) 1) v = m3 at *
      obtain ⟨x4, e4⟩ := visit_app D n m3 (D (ix v) 2) v
      generalize hm4 : visit D n m3 (D (ix v) 2) v = m4 at *
      have u2 : unv m2 ≤ unv (met ++ [(v, b)]) := by rw [e2]; exact unv_app _ _
      have u3 : unv m3 ≤ unv m2 := by rw [e3]; exact unv_app _ _
      have k1 : ∀ x, pst st v 0 x = none ↔ x ∉ keys (met ++ [(v, b)]) := fun x => by
        unfold pst
        rw [keys_app]
        by_cases q : x = v
        · rw [if_pos q, q]; simp [keys]
        · rw [if_neg q, hk x]; simp [keys, q]
      have sub2 : ∀ x, x ∈ keys (met ++ [(v, b)]) → x ∈ keys m2 := fun x h => by rw [e2, keys_app]; exact List.mem_append_left _ h
      have sub3 : ∀ x, x ∈ keys m2 → x ∈ keys m3 := fun x h => by rw [e3, keys_app]; exact List.mem_append_left _ h
      have sub4 : ∀ x, x ∈ keys m3 → x ∈ keys m4 := fun x h => by rw [e4, keys_app]; exact List.mem_append_left _ h
      have vin : v ∈ keys (met ++ [(v, b)]) := by rw [keys_app]; exact List.mem_append_right _ (.head _)
      have min : ∀ x ∈ keys met, x ∈ keys (met ++ [(v, b)]) := fun x h => by rw [keys_app]; exact List.mem_append_left _ h
      have Mv : ∀ f < 3, M (ix v) f = D (ix v) f := hM v h1 hv h2
      -- the memory on the way
      have hMp : ∀ (f' : Nat) (m : Met), (∀ x ∈ keys (met ++ [(v, b)]), x ∈ keys m) → ∀ x, 256 ≤ x → x < 263 → x ∉ keys m → ∀ f < 3, put M (ix v) f' b (ix x) f = D (ix x) f := fun f' m hs x a1 a2 a3 f hf => by
        have nv : x ≠ v := fun q => a3 (hs x (q ▸ vin))
        unfold put
        rw [if_neg (fun q => nv (ix_inj a1 h1 q.1))]
        exact hM x a1 a2 (fun q => a3 (hs x (min x q))) f hf
      have t1 : Turn ⟨M, st, met, b, v⟩ ⟨put M (ix v) 0 b, pst st v 0, met ++ [(v, b)], v, D (ix v) 0⟩ := by
        rw [← Mv 0 (by decide)]
        exact .visit h1 hv ((hk v).mpr h2)
      obtain ⟨s2, T2, K2, P2, I2⟩ := walk_visit hD n (met ++ [(v, b)]) (D (ix v) 0) v (put M (ix v) 0 b) (pst st v 0) k1 (hMp 0 _ fun _ h => h) (hD _ _) (Nat.le_of_lt_succ (Nat.lt_of_lt_of_le u1 hu))
      rw [hm2] at T2 K2 I2
      have sv2 : s2 v = some ((0 : Nat) : Int) := by rw [P2 v vin]; unfold pst; rw [if_pos rfl]; rfl
      have c2 : ¬(256 ≤ D (ix v) 0 ∧ s2 (D (ix v) 0) = none) := fun ⟨q1, q2⟩ => (K2 _).mp q2 (I2 q1)
      have M2 : put (put (put M (ix v) 0 b) (ix v) 0 (D (ix v) 0)) (ix v) 1 ((put M (ix v) 0 b) (ix v) 0) = put M (ix v) 1 b := by
        funext j f
        unfold put
        by_cases q1 : j = ix v
        · subst q1
          by_cases q2 : f = 1
          · simp [q2]
          · by_cases q3 : f = 0
            · simp [q3, Mv 0 (by decide)]
            · simp [q2, q3]
        · simp [q1]
      have t2 : Turn ⟨put M (ix v) 0 b, s2, m2, v, D (ix v) 0⟩ ⟨put M (ix v) 1 b, pst s2 v (((0 : Nat) : Int) + 1), m2, v, D (ix v) 1⟩ := by
        have := Turn.next (M := put M (ix v) 0 b) (met := m2) (v := D (ix v) 0) (f := 0) c2 h1 hv sv2 (by decide)
        rw [M2] at this
        have e : put M (ix v) 0 b (ix v) (0 + 1) = D (ix v) 1 := by
          unfold put; rw [if_neg (fun q => absurd q.2 (by decide))]; exact Mv 1 (by decide)
        rw [e] at this
        exact this
      have k2 : ∀ x, pst s2 v (((0 : Nat) : Int) + 1) x = none ↔ x ∉ keys m2 := fun x => by
        unfold pst
        by_cases q : x = v
        · rw [if_pos q, q]; simp [sub2 v vin]
        · rw [if_neg q]; exact K2 x
      obtain ⟨s3, T3, K3, P3, I3⟩ := walk_visit hD n m2 (D (ix v) 1) v (put M (ix v) 1 b) (pst s2 v (((0 : Nat) : Int) + 1)) k2 (hMp 1 _ sub2) (hD _ _) (Nat.le_trans u2 (Nat.le_of_lt_succ (Nat.lt_of_lt_of_le u1 hu)))
      rw [hm3] at T3 K3 I3
      have sv3 : s3 v = some ((1 : Nat) : Int) := by rw [P3 v (sub2 v vin)]; unfold pst; rw [if_pos rfl]; rfl
      have c3 : ¬(256 ≤ D (ix v) 1 ∧ s3 (D (ix v) 1) = none) := fun ⟨q1, q2⟩ => (K3 _).mp q2 (I3 q1)
      have M3 : put (put (put M (ix v) 1 b) (ix v) 1 (D (ix v) 1)) (ix v) 2 ((put M (ix v) 1 b) (ix v) 1) = put M (ix v) 2 b := by
        funext j f
        unfold put
        by_cases q1 : j = ix v
        · subst q1
          by_cases q2 : f = 2
          · simp [q2]
          · by_cases q3 : f = 1
            · simp [q3, Mv 1 (by decide)]
            · simp [q2, q3]
        · simp [q1]
      have t3 : Turn ⟨put M (ix v) 1 b, s3, m3, v, D (ix v) 1⟩ ⟨put M (ix v) 2 b, pst s3 v (((1 : Nat) : Int) + 1), m3, v, D (ix v) 2⟩ := by
        have := Turn.next (M := put M (ix v) 1 b) (met := m3) (v := D (ix v) 1) (f := 1) c3 h1 hv sv3 (by decide)
        rw [M3] at this
        have e : put M (ix v) 1 b (ix v) (1 + 1) = D (ix v) 2 := by
          unfold put; rw [if_neg (fun q => absurd q.2 (by decide))]; exact Mv 2 (by decide)
        rw [e] at this
        exact this
      have k3 : ∀ x, pst s3 v (((1 : Nat) : Int) + 1) x = none ↔ x ∉ keys m3 := fun x => by
        unfold pst
        by_cases q : x = v
        · rw [if_pos q, q]; simp [sub3 v (sub2 v vin)]
        · rw [if_neg q]; exact K3 x
      obtain ⟨s4, T4, K4, P4, I4⟩ := walk_visit hD n m3 (D (ix v) 2) v (put M (ix v) 2 b) (pst s3 v (((1 : Nat) : Int) + 1)) k3 (hMp 2 _ fun x h => sub3 x (sub2 x h)) (hD _ _) (Nat.le_trans (Nat.le_trans u3 u2) (Nat.le_of_lt_succ (Nat.lt_of_lt_of_le u1 hu)))
      rw [hm4] at T4 K4 I4
      have sv4 : s4 v = some 2 := by rw [P4 v (sub3 v (sub2 v vin))]; unfold pst; rw [if_pos rfl]; rfl
      have c4 : ¬(256 ≤ D (ix v) 2 ∧ s4 (D (ix v) 2) = none) := fun ⟨q1, q2⟩ => (K4 _).mp q2 (I4 q1)
      have M4 : put (put M (ix v) 2 b) (ix v) 2 (D (ix v) 2) = M := by
        funext j f
        unfold put
        by_cases q1 : j = ix v
        · subst q1
          by_cases q2 : f = 2
          · simp [q2, Mv 2 (by decide)]
          · simp [q2]
        · simp [q1]
      have t4 : Turn ⟨put M (ix v) 2 b, s4, m4, v, D (ix v) 2⟩ ⟨M, s4, m4, b, v⟩ := by
        have := Turn.last (M := put M (ix v) 2 b) (met := m4) (v := D (ix v) 2) c4 h1 hv sv4
        rw [M4] at this
        have e : put M (ix v) 2 b (ix v) 2 = b := by unfold put; rw [if_pos ⟨rfl, rfl⟩]
        rw [e] at this
        exact this
      have all := ((((((Turns.one t1).app T2).app (Turns.one t2)).app T3).app (Turns.one t3)).app T4).app (Turns.one t4)
      have l1 : (met ++ [(v, b)]).length = met.length + 1 := by simp
      have l2 : m2.length = met.length + 1 + x2.length := by rw [e2, List.length_append, l1]
      have l3 : m3.length = m2.length + x3.length := by rw [e3, List.length_append]
      have l4 : m4.length = m3.length + x4.length := by rw [e4, List.length_append]
      refine ⟨s4, ?_, K4, fun x hx => ?_, fun _ => sub4 v (sub3 v (sub2 v vin))⟩
      · rw [l1] at all
        have : 1 + 4 * (m2.length - (met.length + 1)) + 1 + 4 * (m3.length - m2.length) + 1 + 4 * (m4.length - m3.length) + 1 = 4 * (m4.length - met.length) := by
          rw [l4, l3, l2, Nat.add_sub_cancel_left, Nat.add_sub_cancel_left, Nat.add_sub_cancel_left]
          exact walk_ar _ _ _ _
        rw [this] at all
        exact all
      · have nv : x ≠ v := fun q => h2 (q ▸ hx)
        have x1 := min x hx
        rw [P4 x (sub3 x (sub2 x x1))]
        unfold pst
        rw [if_neg nv, P3 x (sub2 x x1)]
        unfold pst
        rw [if_neg nv, P2 x x1]
        unfold pst
        rw [if_neg nv]
    · have e0 : visit D (n + 1) met v b = met := by
        show (if _ then _ else _) = _
        rw [if_neg hc]
      rw [e0, Nat.sub_self]
      exact ⟨st, .zero, hk, fun _ _ => rfl, fun h => Decidable.not_not.mp fun q => hc ⟨h, q⟩⟩
-- the pile
inductive Pop : List (Int × Int) × Met → List (Int × Int) × Met → Prop
  | new {v b p met} (h1 : 256 ≤ v) (h2 : v < 263) (h : v ∉ keys met) : Pop ((v, b) :: p, met) ((D (ix v) 0, v) :: (D (ix v) 1, v) :: (D (ix v) 2, v) :: p, met ++ [(v, b)])
  | old {v b p met} (h : ¬(256 ≤ v ∧ v ∉ keys met)) : Pop ((v, b) :: p, met) (p, met)
inductive Pops : Nat → List (Int × Int) × Met → List (Int × Int) × Met → Prop
  | zero {s} : Pops 0 s s
  | succ {n s s' s''} (h : Pop D s s') (h' : Pops n s' s'') : Pops (n + 1) s s''
theorem Pops.app {n m : Nat} {s s' s''} (h : Pops D n s s') (h' : Pops D m s' s'') : Pops D (n + m) s s'' := by
  induction h with
  | zero => rw [Nat.zero_add]; exact h'
  | succ t _ ih => rw [Nat.succ_add_eq_add_succ]; exact .succ t (ih h')
theorem pile_ar (a b c d : Nat) : 1 + 3 * a + (1 + 3 * b) + (1 + 3 * c) + 1 = 1 + 3 * (d + 1 + a + b + c - d) := by
  rw [Nat.add_assoc d, Nat.add_assoc d, Nat.add_assoc d, Nat.add_sub_cancel_left]; omega
theorem pile_visit (hD : ∀ j f, D j f < 263) : ∀ (n : Nat) (met : Met) (v b : Int) (p : List (Int × Int)), v < 263 → unv met ≤ n → Pops D (1 + 3 * ((visit D n met v b).length - met.length)) ((v, b) :: p, met) (p, visit D n met v b)
  | 0, met, v, b, p, hv, hu => by
    have h0 : ¬(256 ≤ v ∧ v ∉ keys met) := fun ⟨h1, h2⟩ => by
      exact absurd (unv_zero h1 hv h2) (Nat.not_lt.mpr hu)
    unfold visit
    rw [Nat.sub_self]
    exact .succ (.old h0) .zero
  | n + 1, met, v, b, p, hv, hu => by
    by_cases hc : 256 ≤ v ∧ v ∉ keys met
    · obtain ⟨h1, h2⟩ := hc
      have u1 := unv_new (b := b) h1 hv h2
      have e0 : visit D (n + 1) met v b = visit D n (visit D n (visit D n (met ++ [(v, b)]) (D (ix v) 0) v) (D (ix v) 1) v) (D (ix v) 2) v := by
        show (if _ then _ else _) = _
        rw [if_pos ⟨h1, h2⟩]
      rw [e0]
      have T2 := pile_visit hD n (met ++ [(v, b)]) (D (ix v) 0) v ((D (ix v) 1, v) :: (D (ix v) 2, v) :: p) (hD _ _) (Nat.le_of_lt_succ (Nat.lt_of_lt_of_le u1 hu))
      obtain ⟨x2, e2⟩ := visit_app D n (met ++ [(v, b)]) (D (ix v) 0) v
      generalize visit D n (met ++ [(v, b)]) (D (ix v) 0) v = m2 at *
      have u2 : unv m2 ≤ unv (met ++ [(v, b)]) := by rw [e2]; exact unv_app _ _
      have T3 := pile_visit hD n m2 (D (ix v) 1) v ((D (ix v) 2, v) :: p) (hD _ _) (Nat.le_trans u2 (Nat.le_of_lt_succ (Nat.lt_of_lt_of_le u1 hu)))
      obtain ⟨x3, e3⟩ := visit_app D n m2 (D (ix v) 1) v
      generalize visit D n m2 (D (ix v) 1) v = m3 at *
      have u3 : unv m3 ≤ unv m2 := by rw [e3]; exact unv_app _ _
      have T4 := pile_visit hD n m3 (D (ix v) 2) v p (hD _ _) (Nat.le_trans (Nat.le_trans u3 u2) (Nat.le_of_lt_succ (Nat.lt_of_lt_of_le u1 hu)))
      obtain ⟨x4, e4⟩ := visit_app D n m3 (D (ix v) 2) v
      generalize visit D n m3 (D (ix v) 2) v = m4 at *
      have all := Pops.succ (Pop.new (D := D) (p := p) (b := b) h1 hv h2) ((T2.app D T3).app D T4)
      have l1 : (met ++ [(v, b)]).length = met.length + 1 := by simp
      have l2 : m2.length = met.length + 1 + x2.length := by rw [e2, List.length_append, l1]
      have l3 : m3.length = m2.length + x3.length := by rw [e3, List.length_append]
      have l4 : m4.length = m3.length + x4.length := by rw [e4, List.length_append]
      rw [l1] at all
      have : 1 + 3 * (m2.length - (met.length + 1)) + (1 + 3 * (m3.length - m2.length)) + (1 + 3 * (m4.length - m3.length)) + 1 = 1 + 3 * (m4.length - met.length) := by
        rw [l4, l3, l2, Nat.add_sub_cancel_left, Nat.add_sub_cancel_left, Nat.add_sub_cancel_left]
        exact pile_ar _ _ _ _
      rw [this] at all
      exact all
    · have e0 : visit D (n + 1) met v b = met := by
        show (if _ then _ else _) = _
        rw [if_neg hc]
      rw [e0, Nat.sub_self]
      exact .succ (.old hc) .zero
theorem visit_len : ∀ (n : Nat) (met : Met) (v b : Int), v < 263 → (∀ j f, D j f < 263) → (visit D n met v b).length + unv (visit D n met v b) ≤ met.length + unv met
  | 0, met, v, b, _, _ => Nat.le_refl _
  | n + 1, met, v, b, hv, hD => by
    unfold visit
    split
    · rename_i h
      have u1 := unv_new (b := b) h.1 hv h.2
      have a := visit_len n (met ++ [(v, b)]) (D (ix v) 0) v (hD _ _) hD
      have a2 := visit_len n (visit D n (met ++ [(v, b)]) (D (ix v) 0) v) (D (ix v) 1) v (hD _ _) hD
      have a3 := visit_len n (visit D n (visit D n (met ++ [(v, b)]) (D (ix v) 0) v) (D (ix v) 1) v) (D (ix v) 2) v (hD _ _) hD
      have l1 : (met ++ [(v, b)]).length = met.length + 1 := by simp
      refine Nat.le_trans a3 (Nat.le_trans a2 (Nat.le_trans a ?_))
      rw [l1, Nat.succ_add_eq_add_succ]; exact Nat.add_le_add_left u1 _
    · exact Nat.le_refl _
end
end Mine
end
section
set_option maxRecDepth 20000
namespace Mine
variable (ad : AD) (H : Hp)
theorem set30 {a b c x : AV} : List.set [a, b, c] 0 x = [x, b, c] := rfl
theorem set31 {a b c x : AV} : List.set [a, b, c] 1 x = [a, x, c] := rfl
theorem set32 {a b c x : AV} : List.set [a, b, c] 2 x = [a, b, x] := rfl
structure WI (mR tR sR : Nat) (ms : List Nat) (n : Nat) (s : St) (lm : LM) (h : Hp) : Prop where
  l1 : lm "memory" = some (.ref mR)
  l2 : lm "met" = some (.ref tR)
  l3 : lm "stage" = some (.ref sR)
  l4 : lm "behind" = some (.int s.b)
  l5 : lm "at" = some (.int s.v)
  mem : h[mR]? = some (.list (ms.map .ref))
  cells : ∀ (j u : Nat), ms[j]? = some u → h[u]? = some (.list [.int (s.M j 0), .int (s.M j 1), .int (s.M j 2)])
  met : h[tR]? = some (.list (s.met.map fun p => .tup [.int p.1, .int p.2]))
  stage : ∃ k, k ≤ n ∧ h[sR]? = some (.dict k fun x => (s.st x).map .int)
  len : s.met.length ≤ n
structure WA (mR tR sR : Nat) (ms : List Nat) : Prop where
  ml : ms.length = 7
  nd : ms.Nodup
  ne : ∀ u ∈ ms, u ≠ mR ∧ u ≠ tR ∧ u ≠ sR
  a : mR ≠ tR ∧ mR ≠ sR ∧ tR ≠ sR
theorem Lst.trans {S : List Nat} {h h' h'' : Hp} (a : Lst S h h') (b : Lst S h' h'') : Lst S h h'' := fun i o hi e => b i o hi (a i o hi e)
theorem Lst.refl {S : List Nat} {h : Hp} : Lst S h h := fun i o hi e => e
theorem Lst.set_in {S : List Nat} {h : Hp} {i : Nat} {o : AO} (hi : i ∈ S) : Lst S h (List.set h i o) := fun j x hj e => (Set_ne (fun q => hj (by subst q; exact hi))).trans e
theorem map_pst {st : Int → Option Int} {v y : Int} : (fun x => if x = v then some (AV.int y) else (st x).map AV.int) = fun x => (pst st v y x).map AV.int := by
  funext x
  unfold pst
  by_cases h : x = v
  · rw [if_pos h, if_pos h]; rfl
  · rw [if_neg h, if_neg h]
theorem walk_visit1 {mR tR sR : Nat} {ms : List Nat} (A : WA mR tR sR ms) {n : Nat} (hn : n ≤ 1000) {M : Nat → Nat → Int} {st : Int → Option Int} {met : Met} {b v : Int} {lm : LM} {h : Hp} (I : WI mR tR sR ms n ⟨M, st, met, b, v⟩ lm h) (w : AV)
    (h1 : 256 ≤ v) (h2 : v < 263) (hs : st v = none) :
    Wp (q_walk_2b0 ad (upd lm "turn" w) h) fun r => r.1 = .next ∧ WI mR tR sR ms (n + 1) ⟨put M (ix v) 0 b, pst st v 0, met ++ [(v, b)], v, M (ix v) 0⟩ r.2.1 r.2.2 ∧ Lst (tR :: sR :: ms) h r.2.2 := by
  obtain ⟨l1, l2, l3, l4, l5, mem, cells, hmet, ⟨k, hk, stage⟩, len⟩ := I
  obtain ⟨ml, nd, ne, a1, a2, a3⟩ := A
  simp only at l4 l5 cells hmet stage len
  have hix := ix_lt h1 h2
  obtain ⟨u, hu⟩ : ∃ u, ms[ix v]? = some u := ⟨ms[ix v]'(by omega), List.getElem?_eq_getElem _⟩
  have um := List.mem_of_getElem? hu
  obtain ⟨u1, u2, u3⟩ := ne u um
  have cu := cells _ u hu
  have lu := lt_of_get cu
  have lt := lt_of_get hmet
  have ls := lt_of_get stage
  have lmm := lt_of_get mem
  have et := getL_of hmet
  have e1 : nthI (ms.map AV.ref) (v - 256) = some (.ref u) := nthI_at (by omega) (by rw [List.getElem?_map, show (v - 256).toNat = ix v from rfl, hu]; rfl) (by omega)
  have len' : met.length ≤ 100000 := by omega
  have hk' : k ≤ 100000 := by omega
  have s1 : ∀ o, (List.set h tR o)[sR]? = h[sR]? := fun o => Set_ne a3
  have s2 : ∀ o o', (List.set (List.set h tR o) sR o')[mR]? = h[mR]? := fun o o' => by rw [Set_ne (Ne.symm a2), Set_ne (Ne.symm a1)]
  have s3 : ∀ o o', (List.set (List.set h tR o) sR o')[u]? = h[u]? := fun o o' => by rw [Set_ne (Ne.symm u3), Set_ne (Ne.symm u2)]
  have fin : ∀ lm', lm' "memory" = some (.ref mR) → lm' "met" = some (.ref tR) → lm' "stage" = some (.ref sR) → lm' "behind" = some (.int v) → lm' "at" = some (.int (M (ix v) 0)) →
      WI mR tR sR ms (n + 1) ⟨put M (ix v) 0 b, pst st v 0, met ++ [(v, b)], v, M (ix v) 0⟩ lm' (List.set (List.set (List.set h tR (.list (met.map (fun p => AV.tup [.int p.1, .int p.2]) ++ [.tup [.int v, .int b]]))) sR (.dict (k + 1) fun x => if x = v then some (.int 0) else (st x).map .int)) u (.list [.int b, .int (M (ix v) 1), .int (M (ix v) 2)])) ∧
      Lst (tR :: sR :: ms) h (List.set (List.set (List.set h tR (.list (met.map (fun p => AV.tup [.int p.1, .int p.2]) ++ [.tup [.int v, .int b]]))) sR (.dict (k + 1) fun x => if x = v then some (.int 0) else (st x).map .int)) u (.list [.int b, .int (M (ix v) 1), .int (M (ix v) 2)])) := by
    intro lm' m1 m2 m3 m4 m5
    refine ⟨⟨m1, m2, m3, m4, m5, ?_, fun j x hx => ?_, ?_, ⟨k + 1, by omega, ?_⟩, by simp; omega⟩, ?_⟩
    · rw [Set_ne u1, s2]; exact mem
    · by_cases hj : j = ix v
      · subst hj
        rw [hu] at hx; cases hx
        rw [Set_eq (by rw [List.length_set, List.length_set]; exact lu)]
        simp [put]
      · obtain ⟨x1, x2, x3⟩ := ne x (List.mem_of_getElem? hx)
        rw [Set_ne (nodup_ne nd hu hx (Ne.symm hj)), Set_ne (Ne.symm x3), Set_ne (Ne.symm x2), cells j x hx]
        simp [put, hj]
    · rw [Set_ne u2, Set_ne (Ne.symm a3), Set_eq lt, List.map_append]; rfl
    · rw [Set_ne u3, Set_eq (by rw [List.length_set]; exact ls), map_pst]
    · exact ((Lst.set_in (.head _)).trans (Lst.set_in (.tail _ (.head _)))).trans (Lst.set_in (.tail _ (.tail _ um)))
  rw [W_self]
  unfold q_walk_2b0 q_walk_2b0t0 q_walk_2b0t1 q_walk_2b0t2 q_walk_2b0t3 q_walk_2b0t4 q_walk_2b0t4t0 q_walk_2b0t5
  clear cells ne nd
  generalize hX : (met.map fun p => AV.tup [.int p.1, .int p.2]) = X at *
  have Xl : X.length ≤ 100000 := by rw [← hX, List.length_map]; exact len'
  have fin := fin (upd (upd (upd (upd (upd lm "turn" w) "cell" (AV.ref u)) "goal" (AV.int (M (ix v) 0))) "at" (AV.int (M (ix v) 0))) "behind" (AV.int v)) (by simp only [updNe, ne_eq, String.reduceEq, not_false_eq_true, *]) (by simp only [updNe, ne_eq, String.reduceEq, not_false_eq_true, *]) (by simp only [updNe, ne_eq, String.reduceEq, not_false_eq_true, *]) (by simp only [updEq, *]) (by simp only [updNe, updEq, ne_eq, String.reduceEq, not_false_eq_true, *])
  have dd : (0 : Int) < ((3 : Nat) : Int) := by decide
  simp only [↓C_cK, ↓C_vV, ↓C_eTup, ↓C_cG, ↓C_esC, ↓C_esN, ↓C_mG, ↓C_tK, ↓C_tCmp, ↓C_asB, ↓C_tNot, ↓C_tAnd, ↓C_sSeq, ↓C_sNil, ↓C_sAsg, ↓C_sExp, ↓C_sIf, ↓C_sSetI, ↓C_sSwp, ↓C_updE, ↓C_updN, ↓C_isNN, ↓C_idxL, ↓C_app, ↓C_setI, ↓C_subG, ↓C_isnG, ↓C_getG, ↓C_setG, ↓C_conG, ↓C_inL, ↓W_some, ↓W_ite, seqK_n, bolK_b, refK_r, tupK_t, itemF_l, putF_l, putF_d, hasF_d, Wp_some, ↓reduceIte, updNe, updEq, updN, ne_eq, String.reduceEq, not_false_eq_true, List.length_cons, List.length_nil, Nat.reduceAdd, Nat.reduceLeDiff, Nat.zero_add, decide_true, Bool.false_eq_true, Bool.not_false, Int.reduceLE, Int.reduceToNat, and_true, nth0, Option.map_none, Option.isSome_none, set30, List.reverse_cons, List.reverse_nil, List.nil_append, List.cons_append, *]
theorem seqK_nil : seqK sNil (some : Fl × LM × Hp → Option (Fl × LM × Hp)) = some := by
  funext r
  obtain ⟨fl, lm, h⟩ := r
  cases fl <;> rfl
theorem walk_e0 {sR k : Nat} {st : Int → Option Int} {v : Int} {lm : LM} {h : Hp} {P : Fl × LM × Hp → Prop} (l3 : lm "stage" = some (.ref sR)) (l5 : lm "at" = some (.int v)) (stage : h[sR]? = some (.dict k fun x => (st x).map .int)) (hs : ¬(256 ≤ v ∧ st v = none))
    (e0 : Wp (q_walk_2b0e0 ad lm h) P) : Wp (q_walk_2b0 ad lm h) P := by
  rw [W_self]
  unfold q_walk_2b0
  by_cases h1 : 256 ≤ v
  · cases e : st v with
    | none => exact absurd ⟨h1, e⟩ hs
    | some y =>
      clear hs
      simp only [↓C_vV, ↓C_cG, ↓C_esC, ↓C_esN, ↓C_asB, ↓C_tNot, ↓C_tAnd, ↓C_sSeq, ↓C_sIf, ↓C_isnG, ↓C_conG, ↓C_inL, ↓W_some, bolK_b, hasF_d, ↓reduceIte, decide_true, Bool.false_eq_true, Bool.not_true, Option.map_some, Option.isSome_some, *]
      rw [seqK_nil, ← W_self]
      exact e0
  · clear hs
    simp only [↓C_vV, ↓C_cG, ↓C_esC, ↓C_esN, ↓C_asB, ↓C_tAnd, ↓C_sSeq, ↓C_sIf, ↓C_isnG, ↓W_some, bolK_b, ↓reduceIte, decide_false, Bool.false_eq_true, *]
    rw [seqK_nil, ← W_self]
    exact e0
theorem walk_back {mR tR sR : Nat} {ms : List Nat} (A : WA mR tR sR ms) {n : Nat} (hn : n ≤ 1000) {M : Nat → Nat → Int} {st : Int → Option Int} {met : Met} {b v : Int} {lm : LM} {h : Hp} (I : WI mR tR sR ms n ⟨M, st, met, b, v⟩ lm h)
    (h1 : 256 ≤ b) (h2 : b < 263) :
    (∀ f : Nat, f < 2 → st b = some (f : Int) → Wp (q_walk_2b0e0 ad lm h) fun r => r.1 = .next ∧ WI mR tR sR ms (n + 1) ⟨put (put M (ix b) f v) (ix b) (f + 1) (M (ix b) f), pst st b ((f : Int) + 1), met, b, M (ix b) (f + 1)⟩ r.2.1 r.2.2 ∧ Lst (tR :: sR :: ms) h r.2.2) ∧
    (st b = some 2 → Wp (q_walk_2b0e0 ad lm h) fun r => r.1 = .next ∧ WI mR tR sR ms (n + 1) ⟨put M (ix b) 2 v, st, met, M (ix b) 2, b⟩ r.2.1 r.2.2 ∧ Lst (tR :: sR :: ms) h r.2.2) := by
  obtain ⟨l1, l2, l3, l4, l5, mem, cells, hmet, ⟨k, hk, stage⟩, len⟩ := I
  obtain ⟨ml, nd, ne, a1, a2, a3⟩ := A
  simp only at l4 l5 cells hmet stage len
  have hix := ix_lt h1 h2
  obtain ⟨u, hu⟩ : ∃ u, ms[ix b]? = some u := ⟨ms[ix b]'(by omega), List.getElem?_eq_getElem _⟩
  have um := List.mem_of_getElem? hu
  obtain ⟨u1, u2, u3⟩ := ne u um
  have cu := cells _ u hu
  have lu := lt_of_get cu
  have ls := lt_of_get stage
  have e1 : nthI (ms.map AV.ref) (b - 256) = some (.ref u) := nthI_at (by omega) (by rw [List.getElem?_map, show (b - 256).toNat = ix b from rfl, hu]; rfl) (by omega)
  have hk' : k ≤ 100000 := by omega
  have hb0 : (b = 0) = False := eq_false (by omega)
  -- a cell is turned
  have turn : ∀ (M' : Nat → Nat → Int) (st' : Int → Option Int) (b' v' : Int) (h' : Hp) (lm' : LM), (∀ j f, j ≠ ix b → M' j f = M j f) → lm' "memory" = some (.ref mR) → lm' "met" = some (.ref tR) → lm' "stage" = some (.ref sR) → lm' "behind" = some (.int b') → lm' "at" = some (.int v') →
      Lst [sR, u] h h' → h'[u]? = some (.list [.int (M' (ix b) 0), .int (M' (ix b) 1), .int (M' (ix b) 2)]) → (∃ k, k ≤ n + 1 ∧ h'[sR]? = some (.dict k fun x => (st' x).map .int)) → WI mR tR sR ms (n + 1) ⟨M', st', met, b', v'⟩ lm' h' ∧ Lst (tR :: sR :: ms) h h' := by
    intro M' st' b' v' h' lm' hM m1 m2 m3 m4 m5 F cu' stg
    have nm : ∀ {i : Nat}, i ≠ sR → i ≠ u → i ∉ [sR, u] := fun p q => by simp [p, q]
    refine ⟨⟨m1, m2, m3, m4, m5, F _ _ (nm a2 (Ne.symm u1)) mem, fun j x hx => ?_, F _ _ (nm a3 (Ne.symm u2)) hmet, stg, by simp only; omega⟩, fun i o hi e => F i o (nm (fun q => hi (by subst q; exact .tail _ (.head _))) (fun q => hi (by subst q; exact .tail _ (.tail _ um)))) e⟩
    by_cases hj : j = ix b
    · subst hj
      rw [hu] at hx; cases hx
      exact cu'
    · obtain ⟨x1, x2, x3⟩ := ne x (List.mem_of_getElem? hx)
      simp only
      rw [hM j 0 hj, hM j 1 hj, hM j 2 hj]
      exact F _ _ (nm x3 (nodup_ne nd hx hu hj)) (cells j x hx)
  have dd0 : (0 : Int) < ((3 : Nat) : Int) := by decide
  have dd1 : (1 : Int) < ((3 : Nat) : Int) := by decide
  have dd2 : (2 : Int) < ((3 : Nat) : Int) := by decide
  have s1 : ∀ o, (List.set h u o)[sR]? = h[sR]? := fun o => Set_ne u3
  have s2 : ∀ o o', (List.set (List.set h u o) sR o')[u]? = some o := fun o o' => by rw [Set_ne (Ne.symm u3), Set_eq lu]
  have s3 : ∀ o o' o'', List.set (List.set (List.set h u o) sR o') u o'' = List.set (List.set h u o'') sR o' := fun o o' o'' => by
    rw [List.set_comm o' o'' (Ne.symm u3), List.set_set]
  have s4 : ∀ o, (List.set h u o)[u]? = some o := fun o => Set_eq lu
  refine ⟨fun f hf hs => ?_, fun hs => ?_⟩
  · have hf' : f = 0 ∨ f = 1 := by omega
    rcases hf' with rfl | rfl
    · have t := fun lm' => turn (put (put M (ix b) 0 v) (ix b) (0 + 1) (M (ix b) 0)) (pst st b (((0 : Nat) : Int) + 1)) b (M (ix b) (0 + 1)) (List.set (List.set h u (.list [.int v, .int (M (ix b) 0), .int (M (ix b) 2)])) sR (.dict (k + 1) fun x => if x = b then some (.int 1) else (st x).map .int)) lm' (fun j f hj => by unfold put; rw [if_neg (fun q => hj q.1), if_neg (fun q => hj q.1)])
      have F : Lst [sR, u] h (List.set (List.set h u (.list [.int v, .int (M (ix b) 0), .int (M (ix b) 2)])) sR (.dict (k + 1) fun x => if x = b then some (.int 1) else (st x).map .int)) := (Lst.set_in (.tail _ (.head _))).trans (Lst.set_in (.head _))
      have cc : (List.set (List.set h u (.list [.int v, .int (M (ix b) 0), .int (M (ix b) 2)])) sR (.dict (k + 1) fun x => if x = b then some (.int 1) else (st x).map .int))[u]? = some (.list [.int (put (put M (ix b) 0 v) (ix b) (0 + 1) (M (ix b) 0) (ix b) 0), .int (put (put M (ix b) 0 v) (ix b) (0 + 1) (M (ix b) 0) (ix b) 1), .int (put (put M (ix b) 0 v) (ix b) (0 + 1) (M (ix b) 0) (ix b) 2)]) := by
        rw [s2]; simp [put]
      have sg : ∃ k', k' ≤ n + 1 ∧ (List.set (List.set h u (.list [.int v, .int (M (ix b) 0), .int (M (ix b) 2)])) sR (.dict (k + 1) fun x => if x = b then some (.int 1) else (st x).map .int))[sR]? = some (.dict k' fun x => (pst st b (((0 : Nat) : Int) + 1) x).map .int) := ⟨k + 1, by omega, by rw [Set_eq (by rw [List.length_set]; exact ls), map_pst]; rfl⟩
      have hs' : st b = some 0 := hs
      have fin := fun lm' m1 m2 m3 m4 m5 => t lm' m1 m2 m3 m4 m5 F cc sg
      rw [W_self]
      unfold q_walk_2b0e0 q_walk_2b0e0e0 q_walk_2b0e0e1 q_walk_2b0e0e2 q_walk_2b0e0e3 q_walk_2b0e0e4 q_walk_2b0e0e4t0 q_walk_2b0e0e4t1 q_walk_2b0e0e4t2
      clear t F cc sg turn cells ne nd hs
      have fin := fin (upd (upd (upd (upd lm "cell" (AV.ref u)) "field" (AV.int 0)) "above" (AV.int (M (ix b) 0))) "at" (AV.int (M (ix b) 1))) (by simp only [updNe, ne_eq, String.reduceEq, not_false_eq_true, *]) (by simp only [updNe, ne_eq, String.reduceEq, not_false_eq_true, *]) (by simp only [updNe, ne_eq, String.reduceEq, not_false_eq_true, *]) (by simp only [updNe, ne_eq, String.reduceEq, not_false_eq_true, *]) (by simp only [updEq, Nat.zero_add, *])
      simp only [↓C_cK, ↓C_vV, ↓C_bO, ↓C_cG, ↓C_esC, ↓C_esN, ↓C_tCmp, ↓C_asB, ↓C_sSeq, ↓C_sNil, ↓C_sAsg, ↓C_sExp, ↓C_sIf, ↓C_sSetI, ↓C_updE, ↓C_updN, ↓C_addF, ↓C_ltF, ↓C_idxL, ↓C_setI, ↓C_subG, ↓C_iseG, ↓C_getG, ↓C_setG, ↓W_some, seqK_n, bolK_b, itemF_l, itemF_d, putF_l, putF_d, Wp_some, ↓reduceIte, updNe, updEq, ne_eq, String.reduceEq, not_false_eq_true, List.length_cons, List.length_nil, Nat.reduceAdd, Nat.reduceLeDiff, Nat.zero_add, decide_true, decide_false, Bool.false_eq_true, Int.reduceLT, Int.reduceLE, Int.reduceAdd, Int.reduceToNat, and_true, nth0, nth1, Option.map_some, set30, set31, *]
    · have t := fun lm' => turn (put (put M (ix b) 1 v) (ix b) (1 + 1) (M (ix b) 1)) (pst st b (((1 : Nat) : Int) + 1)) b (M (ix b) (1 + 1)) (List.set (List.set h u (.list [.int (M (ix b) 0), .int v, .int (M (ix b) 1)])) sR (.dict (k + 1) fun x => if x = b then some (.int 2) else (st x).map .int)) lm' (fun j f hj => by unfold put; rw [if_neg (fun q => hj q.1), if_neg (fun q => hj q.1)])
      have F : Lst [sR, u] h (List.set (List.set h u (.list [.int (M (ix b) 0), .int v, .int (M (ix b) 1)])) sR (.dict (k + 1) fun x => if x = b then some (.int 2) else (st x).map .int)) := (Lst.set_in (.tail _ (.head _))).trans (Lst.set_in (.head _))
      have cc : (List.set (List.set h u (.list [.int (M (ix b) 0), .int v, .int (M (ix b) 1)])) sR (.dict (k + 1) fun x => if x = b then some (.int 2) else (st x).map .int))[u]? = some (.list [.int (put (put M (ix b) 1 v) (ix b) (1 + 1) (M (ix b) 1) (ix b) 0), .int (put (put M (ix b) 1 v) (ix b) (1 + 1) (M (ix b) 1) (ix b) 1), .int (put (put M (ix b) 1 v) (ix b) (1 + 1) (M (ix b) 1) (ix b) 2)]) := by
        rw [s2]; simp [put]
      have sg : ∃ k', k' ≤ n + 1 ∧ (List.set (List.set h u (.list [.int (M (ix b) 0), .int v, .int (M (ix b) 1)])) sR (.dict (k + 1) fun x => if x = b then some (.int 2) else (st x).map .int))[sR]? = some (.dict k' fun x => (pst st b (((1 : Nat) : Int) + 1) x).map .int) := ⟨k + 1, by omega, by rw [Set_eq (by rw [List.length_set]; exact ls), map_pst]; rfl⟩
      have hs' : st b = some 1 := hs
      have fin := fun lm' m1 m2 m3 m4 m5 => t lm' m1 m2 m3 m4 m5 F cc sg
      rw [W_self]
      unfold q_walk_2b0e0 q_walk_2b0e0e0 q_walk_2b0e0e1 q_walk_2b0e0e2 q_walk_2b0e0e3 q_walk_2b0e0e4 q_walk_2b0e0e4t0 q_walk_2b0e0e4t1 q_walk_2b0e0e4t2
      clear t F cc sg turn cells ne nd hs
      have fin := fin (upd (upd (upd (upd lm "cell" (AV.ref u)) "field" (AV.int 1)) "above" (AV.int (M (ix b) 1))) "at" (AV.int (M (ix b) 2))) (by simp only [updNe, ne_eq, String.reduceEq, not_false_eq_true, *]) (by simp only [updNe, ne_eq, String.reduceEq, not_false_eq_true, *]) (by simp only [updNe, ne_eq, String.reduceEq, not_false_eq_true, *]) (by simp only [updNe, ne_eq, String.reduceEq, not_false_eq_true, *]) (by simp only [updEq, Nat.reduceAdd, *])
      simp only [↓C_cK, ↓C_vV, ↓C_bO, ↓C_cG, ↓C_esC, ↓C_esN, ↓C_tCmp, ↓C_asB, ↓C_sSeq, ↓C_sNil, ↓C_sAsg, ↓C_sExp, ↓C_sIf, ↓C_sSetI, ↓C_updE, ↓C_updN, ↓C_addF, ↓C_ltF, ↓C_idxL, ↓C_setI, ↓C_subG, ↓C_iseG, ↓C_getG, ↓C_setG, ↓W_some, seqK_n, bolK_b, itemF_l, itemF_d, putF_l, putF_d, Wp_some, ↓reduceIte, updNe, updEq, ne_eq, String.reduceEq, not_false_eq_true, List.length_cons, List.length_nil, Nat.reduceAdd, Nat.reduceLeDiff, Nat.zero_add, decide_true, decide_false, Bool.false_eq_true, Int.reduceLT, Int.reduceLE, Int.reduceAdd, Int.reduceToNat, and_true, nth1, nth2, Option.map_some, set31, set32, *]
  · have t := fun lm' => turn (put M (ix b) 2 v) st (M (ix b) 2) b (List.set h u (.list [.int (M (ix b) 0), .int (M (ix b) 1), .int v])) lm' (fun j f hj => by unfold put; rw [if_neg (fun q => hj q.1)])
    have F : Lst [sR, u] h (List.set h u (.list [.int (M (ix b) 0), .int (M (ix b) 1), .int v])) := Lst.set_in (.tail _ (.head _))
    have cc : (List.set h u (.list [.int (M (ix b) 0), .int (M (ix b) 1), .int v]))[u]? = some (.list [.int (put M (ix b) 2 v (ix b) 0), .int (put M (ix b) 2 v (ix b) 1), .int (put M (ix b) 2 v (ix b) 2)]) := by
      rw [s4]; simp [put]
    have sg : ∃ k', k' ≤ n + 1 ∧ (List.set h u (.list [.int (M (ix b) 0), .int (M (ix b) 1), .int v]))[sR]? = some (.dict k' fun x => (st x).map .int) := ⟨k, by omega, by rw [s1]; exact stage⟩
    have fin := fun lm' m1 m2 m3 m4 m5 => t lm' m1 m2 m3 m4 m5 F cc sg
    rw [W_self]
    unfold q_walk_2b0e0 q_walk_2b0e0e0 q_walk_2b0e0e1 q_walk_2b0e0e2 q_walk_2b0e0e3 q_walk_2b0e0e4 q_walk_2b0e0e4e0
    clear t F cc sg turn cells ne nd
    have fin := fin (upd (upd (upd (upd (upd lm "cell" (AV.ref u)) "field" (AV.int 2)) "above" (AV.int (M (ix b) 2))) "at" (AV.int b)) "behind" (AV.int (M (ix b) 2))) (by simp only [updNe, ne_eq, String.reduceEq, not_false_eq_true, *]) (by simp only [updNe, ne_eq, String.reduceEq, not_false_eq_true, *]) (by simp only [updNe, ne_eq, String.reduceEq, not_false_eq_true, *]) (by simp only [updEq, *]) (by simp only [updNe, updEq, ne_eq, String.reduceEq, not_false_eq_true, *])
    simp only [↓C_cK, ↓C_vV, ↓C_bO, ↓C_eTup, ↓C_cG, ↓C_esC, ↓C_esN, ↓C_tCmp, ↓C_asB, ↓C_sSeq, ↓C_sNil, ↓C_sAsg, ↓C_sExp, ↓C_sIf, ↓C_sSwp, ↓C_updE, ↓C_updN, ↓C_ltF, ↓C_idxL, ↓C_setI, ↓C_subG, ↓C_iseG, ↓C_getG, ↓C_setG, ↓W_some, ↓W_ite, seqK_n, bolK_b, tupK_t, itemF_l, itemF_d, putF_l, Wp_some, ↓reduceIte, updNe, updEq, updN, ne_eq, String.reduceEq, not_false_eq_true, List.length_cons, List.length_nil, Nat.reduceAdd, Nat.reduceLeDiff, Nat.zero_add, decide_false, Bool.false_eq_true, Int.reduceLT, Int.reduceLE, Int.reduceToNat, and_true, nth2, Option.map_some, set32, List.reverse_cons, List.reverse_nil, List.nil_append, List.cons_append, *]
theorem WI.upd {mR tR sR n : Nat} {ms : List Nat} {s : St} {lm : LM} {h : Hp} (I : WI mR tR sR ms n s lm h) (w : AV) : WI mR tR sR ms n s (upd lm "turn" w) h := by
  obtain ⟨l1, l2, l3, l4, l5, a, b, c, d, e⟩ := I
  exact ⟨by rw [updNe (by decide)]; exact l1, by rw [updNe (by decide)]; exact l2, by rw [updNe (by decide)]; exact l3, by rw [updNe (by decide)]; exact l4, by rw [updNe (by decide)]; exact l5, a, b, c, d, e⟩
theorem walk_turn {mR tR sR : Nat} {ms : List Nat} (A : WA mR tR sR ms) {n : Nat} (hn : n ≤ 1000) {s s' : St} (T : Turn s s') {lm : LM} {h : Hp} (I : WI mR tR sR ms n s lm h) (w : AV) :
    Wp (q_walk_2b0 ad (upd lm "turn" w) h) fun r => r.1 = .next ∧ WI mR tR sR ms (n + 1) s' r.2.1 r.2.2 ∧ Lst (tR :: sR :: ms) h r.2.2 := by
  cases T with
  | visit h1 h2 hs => exact walk_visit1 ad A hn I w h1 h2 hs
  | next hc h1 h2 hs hf =>
    have J := I.upd w
    obtain ⟨k, _, stage⟩ := J.stage
    exact walk_e0 ad J.l3 J.l5 stage hc ((walk_back ad A hn J h1 h2).1 _ hf hs)
  | last hc h1 h2 hs =>
    have J := I.upd w
    obtain ⟨k, _, stage⟩ := J.stage
    exact walk_e0 ad J.l3 J.l5 stage hc ((walk_back ad A hn J h1 h2).2 hs)
theorem walk_turns {mR tR sR : Nat} {ms : List Nat} (A : WA mR tR sR ms) {m : Nat} {s s' : St} (T : Turns m s s') : ∀ (items rest : List AV) (n : Nat) (lm : LM) (h : Hp), items.length = m → n + m ≤ 1000 → WI mR tR sR ms n s lm h →
    ∀ {P : Fl × LM × Hp → Prop}, (∀ lm' h', WI mR tR sR ms (n + m) s' lm' h' → Lst (tR :: sR :: ms) h h' → Wp (forL (q_walk_2b0 ad) "turn" rest lm' h') P) → Wp (forL (q_walk_2b0 ad) "turn" (items ++ rest) lm h) P := by
  induction T with
  | zero =>
    intro items rest n lm h hl hn I P k
    have : items = [] := List.eq_nil_of_length_eq_zero hl
    subst this
    exact k lm h I Lst.refl
  | succ T T' ih =>
    rename_i m _ _ _
    intro items rest n lm h hl hn I P k
    cases items with
    | nil => simp at hl
    | cons w items =>
      rw [List.cons_append]
      unfold forL
      refine (walk_turn ad A (by omega) T I w).bind fun r hr => ?_
      obtain ⟨fl, lm', h'⟩ := r
      obtain ⟨e1, I', F⟩ := hr
      simp only at e1 I' F
      subst e1
      refine ih items rest (n + 1) lm' h' (by simpa using hl) (by omega) I' fun lm'' h'' I'' F' => k lm'' h'' ?_ (F.trans F')
      rw [show n + (m + 1) = n + 1 + m by omega]; exact I''
theorem walk_home {tR : Nat} {lm : LM} {h : Hp} (l2 : lm "met" = some (.ref tR)) (l4 : lm "behind" = some (.int 0)) : Wp (q_walk_2b0e0 ad lm h) fun r => r.1 = .ret (.ref tR) ∧ r.2.2 = h := by
  rw [W_self]
  unfold q_walk_2b0e0 q_walk_2b0e0t0
  simp only [↓C_vV, ↓C_cG, ↓C_esC, ↓C_esN, ↓C_asB, ↓C_sSeq, ↓C_sRet, ↓C_sIf, ↓C_iseG, ↓W_some, seqK_r, bolK_b, Wp_some, ↓reduceIte, decide_true, and_true, *]
theorem walk_ok {D : Nat → Nat → Int} (hD : ∀ j f, D j f < 263) {mR : Nat} {ms : List Nat} (ml : ms.length = 7) (nd : ms.Nodup) (nm : ∀ u ∈ ms, u ≠ mR) (mem : H[mR]? = some (.list (ms.map .ref)))
    (cells : ∀ (j u : Nat), ms[j]? = some u → H[u]? = some (.list [.int (D j 0), .int (D j 1), .int (D j 2)])) {v : Int} (h1 : 256 ≤ v) (h2 : v < 263) :
    Wp (g_walk ad [.ref mR, .int v, .int (4 * ((visit D 7 [] v 0).length : Int) + 1)] H) fun r => ∃ tR, r.1 = .ref tR ∧ Le H r.2 ∧ r.2[tR]? = some (.list ((visit D 7 [] v 0).map fun p => .tup [.int p.1, .int p.2])) := by
  obtain ⟨st', T, K, _, V⟩ := walk_visit D hD 7 [] v 0 D (fun _ => none) (fun x => by simp [keys]) (fun _ _ _ _ _ _ => rfl) h2 (by decide)
  have vl := visit_len D 7 [] v 0 h2 hD
  have u7 : unv [] = 7 := by decide
  rw [u7] at vl
  generalize visit D 7 [] v 0 = met at *
  have ml' : met.length ≤ 7 := by simp at vl; omega
  have lm := lt_of_get mem
  have lms : ∀ u ∈ ms, u < H.length := fun u hu => by
    obtain ⟨j, hj⟩ := List.getElem?_of_mem hu
    exact lt_of_get (cells j u hj)
  have A : WA mR H.length (H.length + 1) ms := ⟨ml, nd, fun u hu => ⟨nm u hu, by have := lms u hu; omega, by have := lms u hu; omega⟩, by omega, by omega, by omega⟩
  have hr : (4 * (met.length : Int) + 1 - 0).toNat = 4 * met.length + 1 := by omega
  have hab : (4 * (met.length : Int) + 1).natAbs ≤ 1000000 := by omega
  have LOOP : ∀ lm0 : LM, lm0 "memory" = some (.ref mR) → lm0 "met" = some (.ref H.length) → lm0 "stage" = some (.ref (H.length + 1)) → lm0 "behind" = some (.int 0) → lm0 "at" = some (.int v) →
      Wp (forL (q_walk_2b0 ad) "turn" ((List.range (4 * met.length + 1)).map fun (i : Nat) => AV.int (0 + i)) lm0 (H ++ [.list [], .dict 0 fun _ => none])) fun r => r.1 = .ret (.ref H.length) ∧ Le H r.2.2 ∧ r.2.2[H.length]? = some (.list (met.map fun p => .tup [.int p.1, .int p.2])) := by
    intro lm0 m1 m2 m3 m4 m5
    rw [List.range_succ, List.map_append]
    have fr : ∀ {i : Nat} {o : AO}, H[i]? = some o → (H ++ [.list [], .dict 0 fun _ => none])[i]? = some o := fun e => (A_lt (lt_of_get e)).trans e
    have T : Turns (4 * met.length) _ _ := T
    refine walk_turns ad A T _ _ 0 lm0 _ (by simp) (by omega) ⟨m1, m2, m3, m4, m5, fr mem, fun j u hu => fr (cells j u hu), A0, ⟨0, Nat.le_refl _, A1⟩, Nat.zero_le _⟩ fun lm' h' I' F' => ?_
    obtain ⟨n1, n2, n3, n4, n5, nmem, ncells, nmet, ⟨kk, _, nst⟩, _⟩ := I'.upd (.int (0 + ((4 * met.length : Nat) : Int)))
    simp only at n4 n5 ncells nmet nst
    rw [List.map_cons, List.map_nil]
    unfold forL
    refine (walk_e0 ad n3 n5 nst (fun ⟨_, q⟩ => (K v).mp q (V h1)) (walk_home ad n2 n4)).bind fun r hr => ?_
    obtain ⟨fl, lm3, h3⟩ := r
    obtain ⟨e1, e2⟩ := hr
    simp only at e1 e2
    subst e1 e2
    refine Wp_some.mpr ⟨rfl, fun i o e => ?_, nmet⟩
    by_cases hi : i ∈ ms
    · obtain ⟨j, hj⟩ := List.getElem?_of_mem hi
      rw [cells j i hj] at e
      cases e
      exact ncells j i hj
    · have := lt_of_get e
      exact F' i o (by simp [hi]; omega) (fr e)
  unfold g_walk
  rw [W_gOf]
  refine ⟨rfl, ?_⟩
  unfold q_walk q_walk_0 q_walk_1 q_walk_2
  clear cells lms nd nm A K V T hD
  simp only [↓C_cK, ↓C_vV, ↓C_eList, ↓C_eTup, ↓C_eDict, ↓C_cG, ↓C_esC, ↓C_esN, ↓C_sSeq, ↓C_sSwp, ↓C_updE, ↓C_updN, ↓C_rng1, ↓C_sFor, ↓W_some, ↓W_ite, seqK_n, tupK_t, ↓reduceIte, updN, String.reduceEq, bindA, List.length_cons, List.length_nil, Nat.reduceAdd, Nat.reduceLeDiff, Nat.zero_add, and_true, true_and, List.append_assoc, List.length_append, itemsOf, List.reverse_cons, List.reverse_nil, List.nil_append, List.cons_append, *]
  refine ⟨by decide, ?_⟩
  refine (LOOP _ (by simp only [updNe, updEq, ne_eq, String.reduceEq, not_false_eq_true]) (by simp only [updNe, updEq, ne_eq, String.reduceEq, not_false_eq_true]) (by simp only [updNe, updEq, ne_eq, String.reduceEq, not_false_eq_true]) (by simp only [updEq]) (by simp only [updNe, updEq, ne_eq, String.reduceEq, not_false_eq_true])).bind fun r hr => ?_
  obtain ⟨fl, lm3, h3⟩ := r
  obtain ⟨e1, e2, e3⟩ := hr
  simp only at e1 e2 e3
  subst e1
  rw [seqK_r]
  exact Wp_some.mpr ⟨_, rfl, e2, e3⟩
end Mine
end
section
set_option maxRecDepth 20000
namespace Mine
variable (ad : AD) (H : Hp)
section
variable {α : Type} {P : α → Prop} {H : Hp}
theorem C_notIn {i : Nat} {j : Int} {k : AV × Hp → Option α} : Wp ((notInF (.int j) (.ref i) H).bind k) P ↔ Wp ((getL H i).bind fun xs => (asInts xs).bind fun is => k (.bool (!decide (j ∈ is)), H)) P := by
  simp only [notInF, Option.bind_assoc]
  refine W_cg fun xs => ?_
  cases asInts xs <;> rfl
end
theorem asInts_map (xs : List Int) : asInts (xs.map AV.int) = some xs := by
  induction xs with
  | nil => rfl
  | cons x xs ih => rw [List.map_cons]; simp only [asInts, ih, Option.map_some]
noncomputable abbrev tupA (p : Int × Int) : AV := .tup [.int p.1, .int p.2]
noncomputable abbrev tupD (p : Int × Int) : PyData := .tuple [.int p.1, .int p.2]
theorem rd_tups {H : Hp} {i : Nat} {xs : Met} {n : Nat} (h : getL H i = some (xs.map tupA)) : rd H (n + 3) (.ref i) = some (.list (xs.map tupD)) := by
  simp only [rd, h, Option.bind_some]
  rw [List.mapM_map]
  rw [mapM_some (g := rd H (n + 2) ∘ tupA) (f := tupD) xs fun x _ => by simp [rd]]; rfl
theorem eqv_tnil (xs : Met) : PyData.eqv (.list (xs.map tupD)) (.list []) = decide (xs = []) := by
  cases xs <;> rfl
structure OI (D : Nat → Nat → Int) (H : Hp) (dR tR kR pR : Nat) (us : List Nat) (n : Nat) (p : List (Int × Int)) (met : Met) (lm : LM) (h : Hp) : Prop where
  l1 : lm "due" = some (.ref dR)
  l2 : lm "met" = some (.ref tR)
  l3 : lm "marks" = some (.ref kR)
  l4 : lm "pile" = some (.ref pR)
  le : Le H h
  due : h[dR]? = some (.list (us.map .ref))
  cells : ∀ (j u : Nat), us[j]? = some u → h[u]? = some (.list [.int (D j 0), .int (D j 1), .int (D j 2)])
  hmet : h[tR]? = some (.list (met.map tupA))
  marks : h[kR]? = some (.list ((keys met).map .int))
  pile : h[pR]? = some (.list (p.reverse.map tupA))
  len : met.length ≤ n ∧ p.length ≤ 2 * n + 1
structure OA (H : Hp) (dR tR kR pR : Nat) (us : List Nat) : Prop where
  ul : us.length = 7
  ne : ∀ u ∈ us, u < H.length
  a : H.length ≤ tR ∧ H.length ≤ kR ∧ H.length ≤ pR ∧ dR < H.length ∧ tR ≠ kR ∧ tR ≠ pR ∧ kR ≠ pR
theorem order_turn {D : Nat → Nat → Int} {dR tR kR pR : Nat} {us : List Nat} (A : OA H dR tR kR pR us) {n : Nat} (hn : n ≤ 1000) {s s' : List (Int × Int) × Met} (T : Pop D s s') {lm : LM} {h : Hp} (I : OI D H dR tR kR pR us n s.1 s.2 lm h) :
    Wp (q_order_1b0 ad lm h) fun r => r.1 = .next ∧ OI D H dR tR kR pR us (n + 1) s'.1 s'.2 r.2.1 r.2.2 := by
  obtain ⟨l1, l2, l3, l4, le, due, cells, hmet, marks, pile, len1, len2⟩ := I
  obtain ⟨ul, ne, a1, a2, a3, a4, a5, a6, a7⟩ := A
  have lt := lt_of_get hmet
  have lk := lt_of_get marks
  have lp := lt_of_get pile
  have ld := lt_of_get due
  have ep := getL_of pile
  have d1 : dR ≠ tR := Nat.ne_of_lt (Nat.lt_of_lt_of_le a4 a1)
  have d2 : dR ≠ kR := Nat.ne_of_lt (Nat.lt_of_lt_of_le a4 a2)
  have d3 : dR ≠ pR := Nat.ne_of_lt (Nat.lt_of_lt_of_le a4 a3)
  have L2 : s.1.length ≤ 2001 := Nat.le_trans len2 (Nat.add_le_add_right (Nat.mul_le_mul_left 2 hn) 1)
  cases T with
  | old hc =>
    rename_i v b p met
    simp only at cells hmet marks pile len1 len2 ep L2
    have e0 : (((v, b) :: p).reverse.map tupA)[(((v, b) :: p).reverse.map tupA).length - 1]? = some (.tup [.int v, .int b]) := by simp
    have e2 : (((v, b) :: p).reverse.map tupA).dropLast = p.reverse.map tupA := by simp
    have el : (((v, b) :: p).reverse.map tupA).length ≤ 100000 := by rw [List.length_map, List.length_reverse]; exact Nat.le_trans L2 (by decide)
    have em : getL h kR = some ((keys met).map .int) := getL_of marks
    have ek : ∀ o, getL (List.set h pR o) kR = some ((keys met).map .int) := fun o => (getL_set_ne (Ne.symm a7)).trans em
    have ea := asInts_map (keys met)
    have fin : ∀ lm', lm' "due" = some (.ref dR) → lm' "met" = some (.ref tR) → lm' "marks" = some (.ref kR) → lm' "pile" = some (.ref pR) → OI D H dR tR kR pR us (n + 1) p met lm' (List.set h pR (.list (p.reverse.map tupA))) := by
      intro lm' m1 m2 m3 m4
      have fr : ∀ {i : Nat} {o X : AO}, i ≠ pR → h[i]? = some o → (List.set h pR X)[i]? = some o := fun a e => (Set_ne (Ne.symm a)).trans e
      refine ⟨m1, m2, m3, m4, le.set a3, fr d3 due, fun j u hu => fr (Nat.ne_of_lt (Nat.lt_of_lt_of_le (ne u (List.mem_of_getElem? hu)) a3)) (cells j u hu), fr a6 hmet, fr a7 marks, Set_eq lp, Nat.le_succ_of_le len1, Nat.le_trans (Nat.le_of_succ_le len2) (Nat.add_le_add_right (Nat.mul_le_mul_left 2 (Nat.le_succ n)) 1)⟩
    generalize hX : ((v, b) :: p).reverse.map tupA = X at *
    rw [W_self]
    unfold q_order_1b0 q_order_1b1
    clear cells ne
    by_cases h1 : 256 ≤ v
    · have h1' : (255 : Int) < v := Int.lt_of_lt_of_le (by decide) h1
      have h2 : v ∈ keys met := Decidable.not_not.mp fun q => hc ⟨h1, q⟩
      have h3 : decide (v ∈ keys met) = true := decide_eq_true h2
      clear h2 hc hX
      simp only [↓C_cK, ↓C_vV, ↓C_esN, ↓C_mG, ↓C_tCmp, ↓C_tAnd, ↓C_sSeq, ↓C_sNil, ↓C_sIf, ↓C_sTup, ↓C_updE, ↓C_updN, ↓C_gtF, ↓C_pop, ↓C_notIn, ↓W_some, ↓W_ite, seqK_n, bolK_b, refK_r, tupK_t, Wp_some, ↓reduceIte, updNe, updN, ne_eq, String.reduceEq, not_false_eq_true, List.length_cons, List.length_nil, Nat.reduceAdd, Nat.zero_add, decide_true, Bool.false_eq_true, Bool.not_true, and_true, *]
    · have h1' : ¬ (255 : Int) < v := fun q => h1 (Int.add_one_le_of_lt q)
      clear hc hX
      simp only [↓C_cK, ↓C_vV, ↓C_esN, ↓C_mG, ↓C_tCmp, ↓C_tAnd, ↓C_sSeq, ↓C_sNil, ↓C_sIf, ↓C_sTup, ↓C_updE, ↓C_updN, ↓C_gtF, ↓C_pop, ↓W_some, ↓W_ite, seqK_n, bolK_b, refK_r, tupK_t, Wp_some, ↓reduceIte, updNe, updN, ne_eq, String.reduceEq, not_false_eq_true, List.length_cons, List.length_nil, Nat.reduceAdd, Nat.zero_add, decide_false, Bool.false_eq_true, and_true, *]
  | new h1 h2 hv =>
    rename_i v b p met
    simp only at cells hmet marks pile len1 len2 ep L2
    have h1' : (255 : Int) < v := Int.lt_of_lt_of_le (by decide) h1
    have hix := ix_lt h1 h2
    obtain ⟨u, hu⟩ : ∃ u, us[ix v]? = some u := ⟨_, List.getElem?_eq_getElem (ul.symm ▸ hix)⟩
    have uH := ne u (List.mem_of_getElem? hu)
    have cu := cells _ u hu
    have e1 : nthI (us.map AV.ref) (v - 256) = some (.ref u) := nthI_at (Int.sub_nonneg_of_le h1) (by rw [List.getElem?_map, show (v - 256).toNat = ix v from rfl, hu]; rfl) (Int.lt_trans (Int.sub_lt_sub_right h2 256) (by decide))
    have e0 : (((v, b) :: p).reverse.map tupA)[(((v, b) :: p).reverse.map tupA).length - 1]? = some (.tup [.int v, .int b]) := by simp
    have e2 : (((v, b) :: p).reverse.map tupA).dropLast = p.reverse.map tupA := by simp
    have el : (((v, b) :: p).reverse.map tupA).length ≤ 100000 := by rw [List.length_map, List.length_reverse]; exact Nat.le_trans L2 (by decide)
    have em : getL h kR = some ((keys met).map .int) := getL_of marks
    have et := getL_of hmet
    have ek : ∀ o, getL (List.set h pR o) kR = some ((keys met).map .int) := fun o => (getL_set_ne (Ne.symm a7)).trans em
    have et' : ∀ o o', getL (List.set (List.set h pR o) kR o') tR = some (met.map tupA) := fun o o' => (getL_set_ne (Ne.symm a5)).trans ((getL_set_ne (Ne.symm a6)).trans et)
    have ea := asInts_map (keys met)
    have h3 : decide (v ∈ keys met) = false := decide_eq_false hv
    have tl : met.length ≤ 100000 := Nat.le_trans len1 (Nat.le_trans hn (by decide))
    have kl : (keys met).length ≤ 100000 := by unfold keys; rw [List.length_map]; exact tl
    have pl : (p.reverse.map tupA).length + 3 ≤ 100000 := by rw [List.length_map, List.length_reverse]; exact Nat.le_trans (Nat.add_le_add_right (Nat.le_of_succ_le L2) 3) (by decide)
    -- the heap ahead of the block
    have fin : ∀ lm' h', lm' "due" = some (.ref dR) → lm' "met" = some (.ref tR) → lm' "marks" = some (.ref kR) → lm' "pile" = some (.ref pR) →
        Le (List.set (List.set (List.set h pR (.list (p.reverse.map tupA))) kR (.list ((keys met).map .int ++ [.int v]))) tR (.list (met.map tupA ++ [.tup [.int v, .int b]]))) h' →
        OI D H dR tR kR pR us (n + 1) ((D (ix v) 0, v) :: (D (ix v) 1, v) :: (D (ix v) 2, v) :: p) (met ++ [(v, b)]) lm' (List.set h' pR (.list (p.reverse.map tupA ++ [.tup [.int (D (ix v) 2), .int v], .tup [.int (D (ix v) 1), .int v], .tup [.int (D (ix v) 0), .int v]]))) := by
      intro lm' h' m1 m2 m3 m4 hle
      have fr : ∀ {i : Nat} {o : AO} {X Y Z W : AO}, i ≠ pR → i ≠ kR → i ≠ tR → h[i]? = some o → Le (List.set (List.set (List.set h pR X) kR Y) tR Z) h' → (List.set h' pR W)[i]? = some o := fun b1 b2 b3 e l => by
        rw [Set_ne (Ne.symm b1)]
        refine l _ _ ?_
        rw [Set_ne (Ne.symm b3), Set_ne (Ne.symm b2), Set_ne (Ne.symm b1)]; exact e
      refine ⟨m1, m2, m3, m4, fun i o e => ?_, fr d3 d2 d1 due hle, fun j x hx => ?_, ?_, ?_, ?_, by rw [List.length_append]; exact Nat.succ_le_succ len1, Nat.add_le_add_right len2 2⟩
      · have := lt_of_get e
        exact fr (Nat.ne_of_lt (Nat.lt_of_lt_of_le this a3)) (Nat.ne_of_lt (Nat.lt_of_lt_of_le this a2)) (Nat.ne_of_lt (Nat.lt_of_lt_of_le this a1)) (le i o e) hle
      · have := ne x (List.mem_of_getElem? hx)
        exact fr (Nat.ne_of_lt (Nat.lt_of_lt_of_le this a3)) (Nat.ne_of_lt (Nat.lt_of_lt_of_le this a2)) (Nat.ne_of_lt (Nat.lt_of_lt_of_le this a1)) (cells j x hx) hle
      · rw [Set_ne (Ne.symm a6), List.map_append]
        refine hle _ _ ?_
        rw [Set_eq (by rw [List.length_set, List.length_set]; exact lt)]; rfl
      · rw [Set_ne (Ne.symm a7), keys_app, List.map_append]
        refine hle _ _ ?_
        rw [Set_ne a5, Set_eq (by rw [List.length_set]; exact lk)]; rfl
      · rw [Set_eq]
        · simp
        · have := hle.len
          rw [List.length_set, List.length_set, List.length_set] at this
          exact Nat.lt_of_lt_of_le lp this
    have comp : ∀ (lm' : LM) (h0 : Hp) {P : Fl × LM × Hp → Prop} (K : AV × Hp → Option (Fl × LM × Hp)), lm' "due" = some (.ref dR) → lm' "at" = some (.int v) → h0[dR]? = some (.list (us.map .ref)) → h0[u]? = some (.list [.int (D (ix v) 0), .int (D (ix v) 1), .int (D (ix v) 2)]) →
        (∀ h', Le h0 h' → getL h' h0.length = some [.tup [.int (D (ix v) 2), .int v], .tup [.int (D (ix v) 1), .int v], .tup [.int (D (ix v) 0), .int v]] → Wp (K (.ref h0.length, h')) P) →
        Wp ((eComp "field" ["at", "due"] (tK true) (eTup (esC (bO idxF (bO idxF (vV "due") (bO subF (vV "at") (cK (.int 256)))) (vV "field")) (esC (vV "at") esN))) (eTup (esC (cK (.int 2)) (esC (cK (.int 1)) (esC (cK (.int 0)) esN)))) lm' h0).bind K) P := by
      intro lm' h0 P K m1 m5 g1 g2 hK
      refine W_compI (a := .tup [.int 2, .int 1, .int 0]) (us := [.int 2, .int 1, .int 0]) (H₁ := h0) (fun _ => true) (fun w => match w with | .int k => .tup [.int (D (ix v) k.toNat), .int v] | _ => .none) (fun _ q => nomatch q) rfl (by decide) rfl (fun w hw h' hle => Wp_some.mpr ⟨rfl, Le.refl _⟩) (fun w hw _ h' hle => ?_) (fun h' hle hg => hK h' hle hg)
      have n1 : inLM "field" ["at", "due"] lm' w "due" = some (.ref dR) := by unfold inLM; rw [if_neg (by decide), if_pos (by decide)]; exact m1
      have n2 : inLM "field" ["at", "due"] lm' w "at" = some (.int v) := by unfold inLM; rw [if_neg (by decide), if_pos (by decide)]; exact m5
      have n3 : inLM "field" ["at", "due"] lm' w "field" = some w := by unfold inLM; rw [if_pos rfl]
      generalize inLM "field" ["at", "due"] lm' w = lm2 at *
      have g1' := hle _ _ g1
      have g2' := hle _ _ g2
      have refl := Le.refl h'
      rw [W_self]
      clear ek et' fin hK cells ne hle cu
      simp only [List.mem_cons, List.not_mem_nil, or_false] at hw
      rcases hw with rfl | rfl | rfl
      · simp only [↓C_cK, ↓C_vV, ↓C_bO, ↓C_eTup, ↓C_esC, ↓C_esN, ↓C_subF, ↓C_idxL, ↓W_some, ↓W_ite, itemF_l, Wp_some, List.length_cons, List.length_nil, Nat.reduceLeDiff, Int.reduceToNat, and_true, nth2, *]
      · simp only [↓C_cK, ↓C_vV, ↓C_bO, ↓C_eTup, ↓C_esC, ↓C_esN, ↓C_subF, ↓C_idxL, ↓W_some, ↓W_ite, itemF_l, Wp_some, List.length_cons, List.length_nil, Nat.reduceLeDiff, Int.reduceToNat, and_true, nth1, *]
      · simp only [↓C_cK, ↓C_vV, ↓C_bO, ↓C_eTup, ↓C_esC, ↓C_esN, ↓C_subF, ↓C_idxL, ↓W_some, ↓W_ite, itemF_l, Wp_some, List.length_cons, List.length_nil, Nat.reduceLeDiff, Int.reduceToNat, and_true, nth0, *]
    rw [W_self]
    unfold q_order_1b0 q_order_1b1 q_order_1b1t0 q_order_1b1t1
    have s1 : ∀ o o' o'', getL (List.set (List.set (List.set h pR o) kR o') tR o'') pR = getL (List.set h pR o) pR := fun o o' o'' => (getL_set_ne a6).trans (getL_set_ne a7)
    have s2 : ∀ xs, getL (List.set h pR (.list xs)) pR = some xs := fun xs => AL_eq lp
    have s3 : ∀ o o' o'', (List.set (List.set (List.set h pR o) kR o') tR o'')[dR]? = some (.list (us.map .ref)) := fun o o' o'' => by rw [Set_ne (Ne.symm d1), Set_ne (Ne.symm d2), Set_ne (Ne.symm d3)]; exact due
    have s4 : ∀ o o' o'', (List.set (List.set (List.set h pR o) kR o') tR o'')[u]? = some (.list [.int (D (ix v) 0), .int (D (ix v) 1), .int (D (ix v) 2)]) := fun o o' o'' => by rw [Set_ne (Nat.ne_of_gt (Nat.lt_of_lt_of_le uH a1)), Set_ne (Nat.ne_of_gt (Nat.lt_of_lt_of_le uH a2)), Set_ne (Nat.ne_of_gt (Nat.lt_of_lt_of_le uH a3))]; exact cu
    have s5 : ∀ {h0 h' : Hp} {xs : List AV}, Le h0 h' → getL h0 pR = some xs → getL h' pR = some xs := fun l e => getL_le l e
    have tail : Wp (q_order_1b1t2 ad (upd (upd lm "at" (.int v)) "behind" (.int b)) (List.set (List.set (List.set h pR (.list (p.reverse.map tupA))) kR (.list ((keys met).map .int ++ [.int v]))) tR (.list (met.map tupA ++ [.tup [.int v, .int b]])))) fun r => r.1 = .next ∧ OI D H dR tR kR pR us (n + 1) ((D (ix v) 0, v) :: (D (ix v) 1, v) :: (D (ix v) 2, v) :: p) (met ++ [(v, b)]) r.2.1 r.2.2 := by
      have gp := (s1 (.list (p.reverse.map tupA)) (.list ((keys met).map .int ++ [.int v])) (.list (met.map tupA ++ [.tup [.int v, .int b]]))).trans (s2 _)
      have gd := s3 (.list (p.reverse.map tupA)) (.list ((keys met).map .int ++ [.int v])) (.list (met.map tupA ++ [.tup [.int v, .int b]]))
      have gu := s4 (.list (p.reverse.map tupA)) (.list ((keys met).map .int ++ [.int v])) (.list (met.map tupA ++ [.tup [.int v, .int b]]))
      have fin := fin (upd (upd lm "at" (.int v)) "behind" (.int b))
      generalize List.set (List.set (List.set h pR (.list (p.reverse.map tupA))) kR (.list ((keys met).map .int ++ [.int v]))) tR (.list (met.map tupA ++ [.tup [.int v, .int b]])) = h0 at *
      rw [W_self]
      unfold q_order_1b1t2
      rw [C_sSeq, C_sExp, C_mG, C_vV, updNe (by decide), updNe (by decide), l4, W_some, refK_r, gp, W_some, C_esC]
      refine comp _ _ _ (by rw [updNe (by decide), updNe (by decide)]; exact l1) (by rw [updNe (by decide)]; exact updEq) gd gu fun h' hle hg => ?_
      have gp' := getL_le hle gp
      have F := fin h' (by rw [updNe (by decide), updNe (by decide)]; exact l1) (by rw [updNe (by decide), updNe (by decide)]; exact l2) (by rw [updNe (by decide), updNe (by decide)]; exact l3) (by rw [updNe (by decide), updNe (by decide)]; exact l4) hle
      clear comp fin cells ne ek et' s1 s2 s3 s4
      simp only [↓C_esN, ↓C_sNil, ↓C_ext, ↓W_some, ↓W_ite, seqK_n, Wp_some, updNe, ne_eq, String.reduceEq, not_false_eq_true, List.length_cons, List.length_nil, Nat.reduceAdd, Nat.reduceLeDiff, Nat.zero_add, and_true, List.length_map, *]
      rw [List.length_map] at pl
      exact Nat.le_of_add_le_add_right (b := 3) pl
    obtain ⟨⟨fl, lm4, h4⟩, hq, e9, hO⟩ := tail
    simp only at e9
    subst e9
    generalize hX : ((v, b) :: p).reverse.map tupA = X at *
    clear cells ne hX hv due cu comp fin
    simp only [↓C_cK, ↓C_vV, ↓C_eTup, ↓C_esC, ↓C_esN, ↓C_mG, ↓C_tK, ↓C_tCmp, ↓C_tAnd, ↓C_sSeq, ↓C_sNil, ↓C_sExp, ↓C_sIf, ↓C_sTup, ↓C_updE, ↓C_updN, ↓C_gtF, ↓C_app, ↓C_pop, ↓C_notIn, ↓W_some, ↓W_ite, seqK_n, bolK_b, refK_r, tupK_t, Wp_some, ↓reduceIte, updN, String.reduceEq, List.length_cons, List.length_nil, Nat.reduceAdd, Nat.reduceLeDiff, Nat.zero_add, decide_true, Bool.false_eq_true, Bool.not_false, and_true, List.length_map, *]
theorem order_loop {D : Nat → Nat → Int} {dR tR kR pR : Nat} {us : List Nat} (A : OA H dR tR kR pR us) {m : Nat} {s s' : List (Int × Int) × Met} (T : Pops D m s s') (he : s'.1 = []) : ∀ (n N : Nat) (lm : LM) (h : Hp), n + m ≤ 1000 → m < N → OI D H dR tR kR pR us n s.1 s.2 lm h →
    Wp (whileF (tCmp neU (vV "pile") (eList esN)) (q_order_1b0 ad) N lm h) fun r => r.1 = .next ∧ ∃ n', OI D H dR tR kR pR us n' [] s'.2 r.2.1 r.2.2 := by
  have test : ∀ {n : Nat} {p : List (Int × Int)} {met : Met} {lm : LM} {h : Hp}, OI D H dR tR kR pR us n p met lm h → tCmp neU (vV "pile") (eList esN) lm h = some (!decide (p = []), h ++ [.list []]) ∧ OI D H dR tR kR pR us n p met lm (h ++ [.list []]) := by
    intro n p met lm h I
    obtain ⟨l1, l2, l3, l4, le, due, cells, hmet, marks, pile, len⟩ := I
    have fr : ∀ {i : Nat} {o : AO}, h[i]? = some o → (h ++ [.list []])[i]? = some o := fun e => (A_lt (lt_of_get e)).trans e
    refine ⟨?_, l1, l2, l3, l4, le.trans (Le.app _ _), fr due, fun j u hu => fr (cells j u hu), fr hmet, fr marks, fr pile, len⟩
    have r1 : rd (h ++ [.list []]) 4 (.ref pR) = some (.list (p.reverse.map tupD)) := rd_tups (by rw [AL_lt (lt_of_get pile)]; exact getL_of pile)
    have r2 : rd (h ++ [.list []]) 4 (.ref h.length) = some (.list []) := rd_nil (getL_new _ _)
    have e : PyData.eqv (.list (p.reverse.map tupD)) (.list []) = decide (p = []) := by
      rw [eqv_tnil]; simp
    have key : Wp (tCmp neU (vV "pile") (eList esN) lm h) fun r => r = (!decide (p = []), h ++ [.list []]) := by
      rw [W_self]
      clear fr cells
      simp only [↓C_vV, ↓C_eList, ↓C_esN, ↓C_tCmp, ↓C_neR, ↓W_some, ↓W_ite, bolK_b, Wp_some, List.length_nil, Nat.reduceLeDiff, and_true, *]
    obtain ⟨a, e, rfl⟩ := key
    exact e
  induction T with
  | zero =>
    rename_i s
    intro n N lm h hn hN I
    obtain ⟨N, rfl⟩ : ∃ N', N = N' + 1 := ⟨N - 1, (Nat.sub_add_cancel (Nat.lt_of_le_of_lt (Nat.zero_le _) hN)).symm⟩
    obtain ⟨p, met⟩ := s
    simp only at he I
    subst he
    obtain ⟨e1, I'⟩ := test I
    unfold whileF
    rw [e1, W_some]
    exact Wp_some.mpr ⟨rfl, n, I'⟩
  | succ T T' ih =>
    rename_i m s s' s''
    intro n N lm h hn hN I
    obtain ⟨N, rfl⟩ : ∃ N', N = N' + 1 := ⟨N - 1, (Nat.sub_add_cancel (Nat.lt_of_le_of_lt (Nat.zero_le _) hN)).symm⟩
    obtain ⟨e1, I'⟩ := test I
    have hne : s.1 ≠ [] := by cases T <;> exact fun q => nomatch q
    unfold whileF
    rw [e1, W_some, decide_eq_false hne]
    refine (order_turn ad H A (Nat.le_trans (Nat.le_add_right _ _) hn) T I').bind fun r hr => ?_
    obtain ⟨fl, lm', h'⟩ := r
    obtain ⟨e2, I''⟩ := hr
    simp only at e2 I''
    subst e2
    exact ih he (n + 1) N lm' h' (Nat.succ_add_eq_add_succ n m ▸ hn) (Nat.lt_of_succ_lt_succ hN) I''
theorem order_ok {D : Nat → Nat → Int} (hD : ∀ j f, D j f < 263) {dR : Nat} {us : List Nat} (ul : us.length = 7) (due : H[dR]? = some (.list (us.map .ref)))
    (cells : ∀ (j u : Nat), us[j]? = some u → H[u]? = some (.list [.int (D j 0), .int (D j 1), .int (D j 2)])) {v : Int} (h2 : v < 263) :
    Wp (g_order ad [.ref dR, .int v] H) fun r => ∃ tR, r.1 = .ref tR ∧ Le H r.2 ∧ r.2[tR]? = some (.list ((visit D 7 [] v 0).map tupA)) := by
  have T := pile_visit D hD 7 [] v 0 [] h2 (by decide)
  have vl := visit_len D 7 [] v 0 h2 hD
  have u7 : unv [] = 7 := by decide
  rw [u7] at vl
  have ld := lt_of_get due
  have lus : ∀ u ∈ us, u < H.length := fun u hu => by
    obtain ⟨j, hj⟩ := List.getElem?_of_mem hu
    exact lt_of_get (cells j u hj)
  have A : OA H dR H.length (H.length + 1) (H.length + 2) us := ⟨ul, lus, Nat.le_refl _, Nat.le_add_right _ _, Nat.le_add_right _ _, ld, add_ne (a := 0) (by decide), add_ne (a := 0) (by decide), add_ne (by decide)⟩
  have fr : ∀ {i : Nat} {o : AO} {X : Hp}, H[i]? = some o → (H ++ X)[i]? = some o := fun e => (A_lt (lt_of_get e)).trans e
  have LOOP : ∀ lm0 : LM, lm0 "due" = some (.ref dR) → lm0 "met" = some (.ref H.length) → lm0 "marks" = some (.ref (H.length + 1)) → lm0 "pile" = some (.ref (H.length + 2)) → _ := fun lm0 m1 m2 m3 m4 => order_loop ad H A T rfl 0 200 lm0 (H ++ [.list [], .list [], .list [.tup [.int v, .int 0]]]) (by simp at vl ⊢; omega) (by simp at vl ⊢; omega) ⟨m1, m2, m3, m4, Le.app _ _, fr due, fun j u hu => fr (cells j u hu), A0, A1, A2, Nat.zero_le _, Nat.le_refl _⟩
  unfold g_order
  rw [W_gOf]
  refine ⟨rfl, ?_⟩
  unfold q_order q_order_0 q_order_1
  clear cells lus A T hD vl fr
  revert LOOP
  generalize visit D 7 [] v 0 = met
  intro LOOP
  have L := LOOP (upd (upd (upd (upd (upd (fun _ => none) "start" (.int v)) "due" (.ref dR)) "pile" (.ref (H.length + 2))) "marks" (.ref (H.length + 1))) "met" (.ref H.length)) (by simp only [updNe, updEq, ne_eq, String.reduceEq, not_false_eq_true]) (by simp only [updEq]) (by simp only [updNe, updEq, ne_eq, String.reduceEq, not_false_eq_true]) (by simp only [updNe, updEq, ne_eq, String.reduceEq, not_false_eq_true])
  clear LOOP
  obtain ⟨⟨fl, lm4, h4⟩, hq, e9, n', hO⟩ := L
  simp only at e9
  subst e9
  have m2 : lm4 "met" = some (.ref H.length) := hO.l2
  have fin : ∃ tR, AV.ref H.length = .ref tR ∧ Le H h4 ∧ h4[tR]? = some (.list (met.map tupA)) := ⟨_, rfl, hO.le, hO.hmet⟩
  clear hO
  unfold sWhile q_order_2
  simp only [↓C_cK, ↓C_vV, ↓C_eList, ↓C_eTup, ↓C_esC, ↓C_esN, ↓C_sSeq, ↓C_sRet, ↓C_sSwp, ↓W_some, ↓W_ite, seqK_n, seqK_r, tupK_t, Wp_some, ↓reduceIte, updNe, updEq, updN, ne_eq, String.reduceEq, not_false_eq_true, bindA, List.length_cons, List.length_nil, Nat.reduceAdd, Nat.reduceLeDiff, Nat.zero_add, and_true, List.append_assoc, List.length_append, List.reverse_cons, List.reverse_nil, List.nil_append, List.cons_append, *]
end Mine
end
section
set_option maxRecDepth 20000
namespace Mine
variable (ad : AD) (H : Hp)
section
variable {α : Type} {P : α → Prop} {lm : LM} {H : Hp}
theorem C_eAnd {a b : EP} {k : AV × Hp → Option α} : Wp ((eAnd a b lm H).bind k) P ↔ Wp ((a lm H).bind (bolK fun r => if r.1 = true then (b lm r.2).bind k else k (.bool false, r.2))) P := by
  simp only [eAnd, Option.bind_assoc]
  refine W_cg fun r => ?_
  obtain ⟨v, h⟩ := r
  cases v with
  | bool x => cases x <;> rfl
  | _ => rfl
theorem C_eSl7 {p q : EP} {k : AV × Hp → Option α} {xs : List Int} (hp : p lm H = some (.lint xs, H)) (hl : xs.length ≤ 100000) : Wp ((eSl7 p q lm H).bind k) P ↔ Wp ((q lm H).bind (intK fun j => k (.ref j.2.length, j.2 ++ [.list ((pickNums xs (some j.1) none (some 7)).map .int)]))) P := by
  simp only [eSl7, Option.bind_assoc, hp, Option.bind_some]
  refine W_cg fun r => ?_
  obtain ⟨v, h⟩ := r
  cases v with
  | int j => simp only [intK, if_pos hl, Option.bind_some]
  | _ => rfl
theorem C_sum {i : Nat} {k : AV × Hp → Option α} : Wp ((sumG [.ref i] H).bind k) P ↔ Wp ((getL H i).bind fun xs => (asInts xs).bind fun is => k (.int (preSum (fun j => is.getD j 0) is.length), H)) P := by
  simp only [sumG, Option.bind_assoc]
  refine W_cg fun xs => ?_
  cases asInts xs <;> rfl
theorem C_inB {i : Nat} {b : Bool} {k : AV × Hp → Option α} : Wp ((inF (.bool b) (.ref i) H).bind k) P ↔ Wp ((getL H i).bind fun xs => (asBools xs).bind fun bs => k (.bool (decide (b ∈ bs)), H)) P := by
  simp only [inF, Option.bind_assoc]
  refine W_cg fun xs => ?_
  cases asBools xs <;> rfl
end
theorem asBools_map (n : Nat) : asBools (List.replicate n (AV.bool true)) = some (List.replicate n true) := by
  induction n with
  | zero => rfl
  | succ n ih => rw [List.replicate_succ, List.replicate_succ]; simp only [asBools, ih, Option.map_some]
theorem vA {m k : Int} (h0 : 0 ≤ m) (k0 : 0 ≤ k) (k7 : k < 7) : ((if m ≤ k then 256 + k - m else 0) = 0 ∨ 2 ≤ (if m ≤ k then 256 + k - m else 0)) ∧ (if m ≤ k then 256 + k - m else 0) < 263 := by
  split <;> omega
theorem vB {m k : Int} (h0 : 0 ≤ m) (k0 : 0 ≤ k) (k7 : k < 7) : ((if k + m < 7 then 256 + k + m else 0) = 0 ∨ 2 ≤ (if k + m < 7 then 256 + k + m else 0)) ∧ (if k + m < 7 then 256 + k + m else 0) < 263 := by
  split <;> omega
theorem rowT_val {w f k : Int} (h0 : 0 ≤ w) (h8 : w < 8) (k0 : 0 ≤ k) (k7 : k < 7) : ((rowT w f k).2 = 0 ∨ 2 ≤ (rowT w f k).2) ∧ (rowT w f k).2 < 263 := by
  by_cases c4 : w = 4
  · rw [c4, rowT_8]
    refine c8 (P := fun x => ((rowT 4 x k).2 = 0 ∨ 2 ≤ (rowT 4 x k).2) ∧ (rowT 4 x k).2 < 263) ?_ ?_ ?_ ?_ ?_ ?_ ?_ ?_ f <;> exact ⟨.inr (of_decide_eq_true (by rfl)), of_decide_eq_true (by rfl)⟩
  by_cases c7 : w = 7
  · rw [c7]; exact ⟨.inr (show (2 : Int) ≤ 255 by decide), (show (255 : Int) < 263 by decide)⟩
  rw [rowT_m c4 c7]
  by_cases c5 : w = 5
  · rw [if_pos c5]; exact ⟨.inl rfl, (show (0 : Int) < 263 by decide)⟩
  by_cases c6 : w = 6
  · rw [if_neg c5, if_pos c6]; exact ⟨.inr (Int.le_trans (by decide) (Int.add_le_add_left k0 256)), Int.add_lt_add_left k7 256⟩
  rw [if_neg c5, if_neg c6]
  by_cases c2 : w < 2
  · rw [if_pos c2]; exact vA (md (by decide)).1 k0 k7
  · rw [if_neg c2]; exact vB (md (by decide)).1 k0 k7
theorem hld_val (c : Nat → Int) {j : Nat} (hj : j < 7) : (hld c j = 0 ∨ 2 ≤ hld c j) ∧ hld c j < 263 := rowT_val (md (by decide)).1 (md (by decide)).2 (Int.natCast_nonneg j) (Int.ofNat_lt.mpr hj)
/-- the fields that are due -/
noncomputable def DD (c : Nat → Int) : Nat → Nat → Int := fun j f => if j < 7 then (if f = 0 then hld c j else if f = 1 then fst' c j else if f = 2 then nxt' c j else 0) else 0
theorem DD_lt (c : Nat → Int) (j f : Nat) : DD c j f < 263 := by
  unfold DD
  split
  · rename_i hj
    have h1 := (hld_val c hj).2
    obtain ⟨b1, b2⟩ := lat_bd c hj
    have h3 : nxt' c j < 263 := by
      unfold nxt'
      split
      · rename_i q; exact Int.add_lt_add_left q.1 256
      · decide
    have h5 : fst' c j < 263 := by
      unfold fst'
      split
      · rename_i q; exact Int.lt_of_lt_of_le (Int.add_lt_add_left (Int.lt_of_add_lt_add_right (Int.lt_of_lt_of_le q b2) : (j : Int) < 6) 257) (by decide)
      · decide
    split
    · exact h1
    split
    · exact h5
    split
    · exact h3
    · decide
  · decide
theorem sorted_ok {k : Int} (h : k = 0 ∨ 2 ≤ k) : g_sorted ad [.int k] H = some (.bool true, H) := by
  have key : Wp (g_sorted ad [.int k] H) fun r => r = (.bool true, H) := by
    unfold g_sorted
    rw [W_gOf]
    refine ⟨rfl, ?_⟩
    unfold q_sorted
    have a1 : (k - 1 = 0) = False := eq_false (by omega)
    have a2 : (k + 1 = 0) = False := eq_false (by omega)
    by_cases c1 : k < 256
    · have b1 : (k < 256) = True := eq_true c1
      have b2 : (255 < k) = False := eq_false (by omega)
      have b3 : (256 ≤ k) = False := eq_false (by omega)
      have b4 : (511 - k < 256) = False := eq_false (by omega)
      have b5 : (256 ≤ 511 - k) = True := eq_true (by omega)
      by_cases c2 : k = 0
      · subst c2
        clear h a1 a2 c1 b1 b2 b3 b4 b5
        simp only [↓C_cK, ↓C_vV, ↓C_bO, ↓C_eTup, ↓C_cG, ↓C_esC, ↓C_esN, ↓C_tK, ↓C_tCmp, ↓C_tOr, ↓C_sSeq, ↓C_sNil, ↓C_sRet, ↓C_sIf, ↓C_sSwp, ↓C_updE, ↓C_updN, ↓C_addF, ↓C_subF, ↓C_ltF, ↓C_gtF, ↓C_eqF, ↓C_isB, ↓C_isNB, ↓C_isnG, ↓C_istG, ↓C_iseG, ↓C_eAnd, ↓W_some, ↓W_ite, seqK_n, seqK_r, bolK_b, tupK_t, Wp_some, ↓reduceIte, updEq, updN, String.reduceEq, bindA, List.length_cons, List.length_nil, Nat.reduceAdd, Nat.reduceLeDiff, Nat.zero_add, decide_true, decide_false, reduceCtorEq, Bool.false_eq_true, Bool.not_true, Int.reduceEq, Int.reduceLT, Int.reduceLE, Int.reduceAdd, Int.reduceSub, Int.reduceNeg, and_true, List.reverse_cons, List.reverse_nil, List.nil_append, List.cons_append]
      · have b6 : (k = 0) = False := eq_false c2
        clear h c1 c2
        simp only [↓C_cK, ↓C_vV, ↓C_bO, ↓C_eTup, ↓C_cG, ↓C_esC, ↓C_esN, ↓C_tK, ↓C_tCmp, ↓C_tOr, ↓C_sSeq, ↓C_sNil, ↓C_sRet, ↓C_sIf, ↓C_sSwp, ↓C_updE, ↓C_updN, ↓C_addF, ↓C_subF, ↓C_ltF, ↓C_gtF, ↓C_eqF, ↓C_isB, ↓C_isNB, ↓C_isnG, ↓C_istG, ↓C_iseG, ↓C_eAnd, ↓W_some, ↓W_ite, seqK_n, seqK_r, bolK_b, tupK_t, Wp_some, ↓reduceIte, updEq, updN, String.reduceEq, bindA, List.length_cons, List.length_nil, Nat.reduceAdd, Nat.reduceLeDiff, Nat.zero_add, decide_true, decide_false, Bool.false_eq_true, Bool.not_true, and_true, List.reverse_cons, List.reverse_nil, List.nil_append, List.cons_append, *]
    · have b1 : (k < 256) = False := eq_false c1
      have b2 : (255 < k) = True := eq_true (by omega)
      have b3 : (256 ≤ k) = True := eq_true (by omega)
      have b4 : (511 - k < 256) = True := eq_true (by omega)
      have b5 : (256 ≤ 511 - k) = False := eq_false (by omega)
      have b6 : (k = 0) = False := eq_false (by omega)
      clear h c1
      simp only [↓C_cK, ↓C_vV, ↓C_bO, ↓C_eTup, ↓C_cG, ↓C_esC, ↓C_esN, ↓C_tK, ↓C_tCmp, ↓C_tOr, ↓C_sSeq, ↓C_sNil, ↓C_sRet, ↓C_sIf, ↓C_sSwp, ↓C_updE, ↓C_updN, ↓C_addF, ↓C_subF, ↓C_ltF, ↓C_gtF, ↓C_eqF, ↓C_isB, ↓C_isNB, ↓C_isnG, ↓C_istG, ↓C_iseG, ↓C_eAnd, ↓W_some, ↓W_ite, seqK_n, seqK_r, bolK_b, tupK_t, Wp_some, ↓reduceIte, updEq, updN, String.reduceEq, bindA, List.length_cons, List.length_nil, Nat.reduceAdd, Nat.reduceLeDiff, Nat.zero_add, decide_true, decide_false, Bool.false_eq_true, Bool.not_true, and_true, List.reverse_cons, List.reverse_nil, List.nil_append, List.cons_append, *]
  obtain ⟨a, e, rfl⟩ := key
  exact e
-- the law
noncomputable def firsts : List Int := [578, 865, 386, 350, 2245, 1214, 2544]
noncomputable def sum7 (xs : List Int) (k : Nat) : Int := preSum (fun j => (pickNums xs (some (k : Int)) none (some 7)).getD j 0) (pickNums xs (some (k : Int)) none (some 7)).length
noncomputable def cel (xs : List Int) (k : Nat) : Int := (firsts.getD k 0 + sum7 xs k) % 1000000
theorem cel_nn (xs : List Int) (k : Nat) : 0 ≤ cel xs k := by unfold cel; exact Int.emod_nonneg _ (by decide)
noncomputable def dueD (c : Nat → Int) : PyData := .list ((List.range 7).map fun j => .list [.int (DD c j 0), .int (DD c j 1), .int (DD c j 2)])
theorem dueD_lay (c : Nat → Int) : (dueD c).canLay0 = true := by rfl
theorem dueD_eqv (c : Nat → Int) : PyData.eqv (dueD c) (dueD c) = true := SeqAt.eqv_refl _ (dueD_lay c)
theorem eq_range {us : List Nat} (ul : us.length = 7) : us = (List.range 7).map fun j => us.getD j 0 := by
  apply List.ext_getElem
  · simp [ul]
  · intro i h1 h2
    simp [h1]
theorem rd_due {c : Nat → Int} {h : Hp} {m : Nat} {us : List Nat} (ul : us.length = 7) (gm : h[m]? = some (.list (us.map .ref))) (cells : ∀ (j u : Nat), us[j]? = some u → h[u]? = some (.list [.int (DD c j 0), .int (DD c j 1), .int (DD c j 2)])) : rd h 4 (.ref m) = some (dueD c) := by
  unfold dueD
  simp only [rd, getL_of gm, Option.bind_some]
  rw [eq_range ul, List.map_map, List.mapM_map, mapM_some (f := fun j => PyData.list [.int (DD c j 0), .int (DD c j 1), .int (DD c j 2)]) (List.range 7) fun j hj => ?_]
  · rfl
  · have hj := List.mem_range.mp hj
    have hu : us[j]? = some (us.getD j 0) := by
      rw [List.getD_eq_getElem?_getD, List.getElem?_eq_getElem (ul.symm ▸ hj)]; rfl
    have := getL_of (cells j _ hu)
    show rd h 3 (.ref (us.getD j 0)) = _
    simp only [rd, this, Option.bind_some]
    rfl
theorem tups_eqv (met : Met) : PyData.eqv (.list (met.map tupD)) (.list (met.map tupD)) = true := by
  refine SeqAt.eqv_refl _ ?_
  have : ∀ met : Met, PyData.canLayAll0 (met.map tupD) = true := by
    intro met
    induction met with
    | nil => rfl
    | cons p met ih => rw [List.map_cons]; simp only [PyData.canLayAll0, ih]; rfl
  exact this met
end Mine
end
section
set_option maxRecDepth 20000
namespace Mine
variable (ad : AD) (H : Hp)
variable {c : Nat → Int}
theorem DD_0 {c : Nat → Int} {j : Nat} (h : j < 7) : DD c j 0 = hld c j := by unfold DD; rw [if_pos h, if_pos rfl]
theorem DD_1 {c : Nat → Int} {j : Nat} (h : j < 7) : DD c j 1 = fst' c j := by unfold DD; rw [if_pos h, if_neg (by decide), if_pos rfl]
theorem DD_2 {c : Nat → Int} {j : Nat} (h : j < 7) : DD c j 2 = nxt' c j := by unfold DD; rw [if_pos h, if_neg (by decide), if_neg (by decide), if_pos rfl]
/-- what stands from the reading on -/
structure LI (c : Nat → Int) (cr mR uR : Nat) (ms us : List Nat) (lm : LM) (h : Hp) : Prop where
  l1 : lm "cells" = some (.ref cr)
  l2 : lm "memory" = some (.ref mR)
  l3 : lm "due" = some (.ref uR)
  cells : h[cr]? = some (.list ((List.range 7).map fun j => .int (c j)))
  mem : h[mR]? = some (.list (ms.map .ref))
  due : h[uR]? = some (.list (us.map .ref))
  mcells : ∀ (j u : Nat), ms[j]? = some u → h[u]? = some (.list [.int (DD c j 0), .int (DD c j 1), .int (DD c j 2)])
  ucells : ∀ (j u : Nat), us[j]? = some u → h[u]? = some (.list [.int (DD c j 0), .int (DD c j 1), .int (DD c j 2)])
structure LA (mR : Nat) (ms us : List Nat) : Prop where
  ml : ms.length = 7
  ul : us.length = 7
  nd : ms.Nodup
  nm : ∀ u ∈ ms, u ≠ mR
theorem LI.le {cr mR uR : Nat} {ms us : List Nat} {lm lm' : LM} {h h' : Hp} (I : LI c cr mR uR ms us lm h) (l : Le h h') (e1 : lm' "cells" = lm "cells") (e2 : lm' "memory" = lm "memory") (e3 : lm' "due" = lm "due") : LI c cr mR uR ms us lm' h' := by
  obtain ⟨l1, l2, l3, a, b, d, e, f⟩ := I
  exact ⟨e1.trans l1, e2.trans l2, e3.trans l3, l _ _ a, l _ _ b, l _ _ d, fun j u hu => l _ _ (e j u hu), fun j u hu => l _ _ (f j u hu)⟩
/-- one start -/
theorem law_start {cr mR uR : Nat} {ms us : List Nat} (A : LA mR ms us) {lm : LM} {h : Hp} (I : LI c cr mR uR ms us lm h) {v : Int} (h1 : 256 ≤ v) (h2 : v < 263) :
    Wp (q_law_5b0 ad (upd lm "start" (.int v)) h) fun r => r.1 = .next ∧ LI c cr mR uR ms us r.2.1 r.2.2 := by
  obtain ⟨l1, l2, l3, cells, mem, due, mcells, ucells⟩ := id I
  have ORD := order_ok ad h (DD_lt c) A.ul due ucells h2
  obtain ⟨⟨v1, ho⟩, hq1, tR, e1, le1, g1⟩ := ORD
  simp only at e1 le1 g1
  subst e1
  have WLK := walk_ok ad ho (DD_lt c) A.ml A.nd A.nm (le1 _ _ mem) (fun j u hu => le1 _ _ (mcells j u hu)) h1 h2
  obtain ⟨⟨v2, hw⟩, hq2, wR, e2, le2, g2⟩ := WLK
  simp only at e2 le2 g2
  subst e2
  have gl := getL_of g1
  have r1 : rd hw 4 (.ref wR) = some (.list ((visit (DD c) 7 [] v 0).map tupD)) := rd_tups (getL_of g2)
  have r2 : rd hw 4 (.ref tR) = some (.list ((visit (DD c) 7 [] v 0).map tupD)) := rd_tups (getL_of (le2 _ _ g1))
  have r3 : rd hw 4 (.ref mR) = some (dueD c) := rd_due A.ml (le2 _ _ (le1 _ _ mem)) fun j u hu => le2 _ _ (le1 _ _ (mcells j u hu))
  have r4 : rd hw 4 (.ref uR) = some (dueD c) := rd_due A.ul (le2 _ _ (le1 _ _ due)) fun j u hu => le2 _ _ (le1 _ _ (ucells j u hu))
  have q1 := tups_eqv (visit (DD c) 7 [] v 0)
  have q2 := dueD_eqv c
  have vl := visit_len (DD c) 7 [] v 0 h2 (DD_lt c)
  have u7 : unv [] = 7 := by decide
  rw [u7] at vl
  have vl : (visit (DD c) 7 [] v 0).length ≤ 100000 := by simp at vl; omega
  have fin : LI c cr mR uR ms us (upd (upd lm "start" (.int v)) "order" (.ref tR)) hw := I.le (le1.trans le2) (by rw [updNe (by decide), updNe (by decide)]) (by rw [updNe (by decide), updNe (by decide)]) (by rw [updNe (by decide), updNe (by decide)])
  have n4 : Int.natAbs 4 < 2 ^ 60 := by decide
  generalize visit (DD c) 7 [] v 0 = met at *
  clear A I mcells ucells
  rw [W_self]
  unfold q_law_5b0 q_law_5b1 q_law_5b1t0
  simp only [↓C_cK, ↓C_vV, ↓C_bO, ↓C_cG, ↓C_esC, ↓C_esN, ↓C_tK, ↓C_tCmp, ↓C_tOr, ↓C_sSeq, ↓C_sNil, ↓C_sAsg, ↓C_sIf, ↓C_updE, ↓C_updN, ↓C_addF, ↓C_mulI, ↓C_lenR, ↓C_neR, ↓W_some, ↓W_ite, seqK_n, bolK_b, Wp_some, ↓reduceIte, String.reduceEq, Bool.false_eq_true, Bool.not_true, and_true, List.length_map, *]
theorem law_kinds {cr mR uR : Nat} {ms us : List Nat} (A : LA mR ms us) {lm : LM} {h : Hp} (I : LI c cr mR uR ms us lm h) :
    ∃ h', Le h h' ∧ tCmp inF (cK (.bool false)) (eComp "kind" [] (tK true) (cG (g_sorted ad) (esC (vV "kind") esN)) (bO addF (eComp "cell" [] (tK true) (bO idxF (vV "cell") (cK (.int 0))) (vV "due")) (eList (esC (cK (.int 0)) esN)))) lm h = some (false, h') := by
  obtain ⟨l1, l2, l3, cells, mem, due, mcells, ucells⟩ := I
  have key : Wp (tCmp inF (cK (.bool false)) (eComp "kind" [] (tK true) (cG (g_sorted ad) (esC (vV "kind") esN)) (bO addF (eComp "cell" [] (tK true) (bO idxF (vV "cell") (cK (.int 0))) (vV "due")) (eList (esC (cK (.int 0)) esN)))) lm h) fun r => r.1 = false ∧ Le h r.2 := by
    -- the inner block
    have inner : ∀ {P : AV × Hp → Prop} (K : AV × Hp → Option (AV × Hp)), (∀ h', Le h h' → getL h' h.length = some ((List.range 7).map fun j => AV.int (DD c j 0)) → Wp (K (.ref h.length, h')) P) → Wp ((eComp "cell" [] (tK true) (bO idxF (vV "cell") (cK (.int 0))) (vV "due") lm h).bind K) P := by
      intro P K hK
      refine W_compL (i := uR) (xs := us.map .ref) (H₁ := h) (fun _ => true) (fun w => match w with | .ref u => (match h[u]? with | some (.list (x :: _)) => x | _ => .none) | _ => .none) (getL_of due) (by rw [List.length_map, A.ul]; decide) (by unfold vV; rw [l3]; rfl) (fun w hw h' hle => Wp_some.mpr ⟨rfl, Le.refl _⟩) (fun w hw _ h' hle => ?_) (fun h' hle hg => hK h' hle ?_)
      · obtain ⟨u, hu, rfl⟩ := List.mem_map.mp hw
        obtain ⟨j, hj⟩ := List.getElem?_of_mem hu
        have cu := ucells j u hj
        have cu' := hle _ _ cu
        have n3 : inLM "cell" [] lm (.ref u) "cell" = some (.ref u) := by unfold inLM; rw [if_pos rfl]
        generalize inLM "cell" [] lm (.ref u) = lm2 at *
        have refl := Le.refl h'
        rw [W_self]
        clear ucells mcells hK A
        simp only [↓C_cK, ↓C_vV, ↓C_bO, ↓C_idxL, ↓W_some, itemF_l, Wp_some, and_true, nth0, *]
      · rw [hg]
        congr 1
        rw [List.filter_eq_self.mpr (fun _ _ => rfl), List.map_map]
        conv => lhs; rw [eq_range A.ul, List.map_map]
        refine List.map_congr_left fun j hj => ?_
        have hj := List.mem_range.mp hj
        have hu : us[j]? = some (us.getD j 0) := by
          rw [List.getD_eq_getElem?_getD, List.getElem?_eq_getElem (by rw [A.ul]; exact hj)]; rfl
        have := ucells j _ hu
        show (match h[us.getD j 0]? with | some (.list (x :: _)) => x | _ => .none) = _
        rw [this]
    have src : Wp (bO addF (eComp "cell" [] (tK true) (bO idxF (vV "cell") (cK (.int 0))) (vV "due")) (eList (esC (cK (.int 0)) esN)) lm h) fun r => ∃ i, r.1 = .ref i ∧ Le h r.2 ∧ getL r.2 i = some (((List.range 7).map (fun j => DD c j 0) ++ [0]).map AV.int) := by
      rw [W_self, C_bO]
      refine inner _ fun h' hle hg => ?_
      have hg' : getL h' h.length = some (((List.range 7).map fun j => DD c j 0).map AV.int) := by rw [hg, List.map_map]; rfl
      have hlt := getL_lt hg
      have fin : Le h (h' ++ [AO.list [AV.int 0], AO.list (((List.range 7).map fun j => DD c j 0).map AV.int ++ [.int 0])]) := hle.trans (Le.app _ _)
      have gg : getL (h' ++ [AO.list [AV.int 0], AO.list (((List.range 7).map fun j => DD c j 0).map AV.int ++ [.int 0])]) (h'.length + 1) = some (((List.range 7).map (fun j => DD c j 0) ++ [0]).map AV.int) := by rw [AL1, List.map_append]; rfl
      clear inner ucells mcells A hg hle
      generalize hX : ((List.range 7).map fun j => DD c j 0).map AV.int = X at *
      have xl : X.length ≤ 99999 := by rw [← hX, List.length_map, List.length_map, List.length_range]; decide
      clear hX
      simp only [↓C_cK, ↓C_eList, ↓C_esC, ↓C_esN, ↓C_addL, ↓W_some, ↓W_ite, Wp_some, List.length_cons, List.length_nil, Nat.reduceLeDiff, Nat.zero_add, true_and, AL_lt, AL0, List.append_assoc, List.length_append, List.nil_append, List.cons_append, *]
      exact ⟨_, rfl, gg⟩
    obtain ⟨⟨vi, h1⟩, hq, i, e, le1, g1⟩ := src
    simp only at e le1 g1
    subst e
    rw [W_self, C_tCmp, C_cK]
    refine W_compL (i := i) (H₁ := h1) (fun _ => true) (fun _ => .bool true) g1 (by simp) hq (fun w hw h' hle => Wp_some.mpr ⟨rfl, Le.refl _⟩) (fun w hw _ h' hle => ?_) (fun h' hle hg => ?_)
    · obtain ⟨x, hx, rfl⟩ := List.mem_map.mp hw
      have hx' : x = 0 ∨ 2 ≤ x := by
        rcases List.mem_append.mp hx with q | q
        · obtain ⟨j, hj, rfl⟩ := List.mem_map.mp q
          have hj := List.mem_range.mp hj
          rw [DD_0 hj]
          exact (hld_val c hj).1
        · rw [List.mem_singleton.mp q]; exact .inl rfl
      have n3 : inLM "kind" [] lm (.int x) "kind" = some (.int x) := by unfold inLM; rw [if_pos rfl]
      have so := sorted_ok ad h' hx'
      generalize inLM "kind" [] lm (.int x) = lm2 at *
      have refl := Le.refl h'
      rw [W_self]
      clear ucells mcells inner A hx hx' hw
      simp only [↓C_vV, ↓C_cG, ↓C_esC, ↓C_esN, ↓W_some, Wp_some, and_true, *]
    · have hr : (((((List.range 7).map (fun j => DD c j 0) ++ [0]).map AV.int).filter fun _ => true).map fun _ => AV.bool true) = List.replicate 8 (.bool true) := by
        rw [List.filter_eq_self.mpr (fun _ _ => rfl), List.map_const']
        simp
      rw [hr] at hg
      have ab := asBools_map 8
      have fd : decide (false ∈ List.replicate 8 true) = false := by decide
      have fin := le1.trans hle
      clear inner ucells mcells A hr
      generalize List.replicate 8 (AV.bool true) = X at *
      simp only [↓C_inB, ↓W_some, bolK_b, Wp_some, and_true, *]
  obtain ⟨⟨b, h'⟩, e, e1, l⟩ := key
  simp only at e1 l
  subst e1
  exact ⟨h', l, e⟩
theorem law_5 {cr mR uR : Nat} {ms us : List Nat} (A : LA mR ms us) {lm : LM} {h : Hp} (I : LI c cr mR uR ms us lm h) : Wp (q_law_5 ad lm h) fun r => r.1 = .ret (.bool true) := by
  obtain ⟨l1, l2, l3, cells, mem, due, mcells, ucells⟩ := id I
  have e1 : nthI ((List.range 7).map fun j => AV.int (c j)) 0 = some (.int (c 0)) := nth_map (f := fun j => AV.int (c j)) (k := 0) (n := 7) (by omega) (by omega)
  have src : eLint (esC (bO addF (cK (.int 256)) (bO modF (bO idxF (vV "cells") (cK (.int 0))) (cK (.int 7)))) (esC (cK (.int 256)) esN)) lm h = some (.lint [256 + c 0 % 7, 256], h) := by
    unfold eLint esC bO vV cK
    rw [l1]
    simp only [Option.map_some, Option.bind_some, idxF, cells, e1, modF, addF]
    rfl
  have loop : Wp (forL (q_law_5b0 ad) "start" [.int (256 + c 0 % 7), .int 256] lm h) fun r => r.1 = .next := by
    unfold forL
    refine (law_start ad A I (by omega) (by omega)).bind fun r hr => ?_
    obtain ⟨fl, lm', h'⟩ := r
    obtain ⟨e2, I'⟩ := hr
    simp only at e2 I'
    subst e2
    simp only
    unfold forL
    refine (law_start ad A I' (by omega) (by omega)).bind fun r hr => ?_
    obtain ⟨fl, lm'', h''⟩ := r
    obtain ⟨e2, I''⟩ := hr
    simp only at e2 I''
    subst e2
    exact Wp_some.mpr rfl
  rw [W_self]
  unfold q_law_5
  rw [C_sSeq, C_sFor, src, W_some]
  simp only [itemsOf, List.map_cons, List.map_nil, Option.bind_some]
  refine loop.bind fun r hr => ?_
  obtain ⟨fl, lm', h'⟩ := r
  simp only at hr
  subst hr
  rw [seqK_n]
  unfold q_law_6
  simp only [↓C_cK, ↓C_sSeq, ↓C_sRet, seqK_r, Wp_some]
theorem law_4 {cr mR uR : Nat} {ms us : List Nat} (A : LA mR ms us) {lm : LM} {h : Hp} (I : LI c cr mR uR ms us lm h) : Wp (q_law_4 ad lm h) fun r => r.1 = .ret (.bool true) := by
  obtain ⟨l1, l2, l3, cells, mem, due, mcells, ucells⟩ := id I
  obtain ⟨h', l, ek⟩ := law_kinds ad A I
  have r3 : rd h 4 (.ref mR) = some (dueD c) := rd_due A.ml mem mcells
  have r4 : rd h 4 (.ref uR) = some (dueD c) := rd_due A.ul due ucells
  have q2 := dueD_eqv c
  have L5 := law_5 ad A (I.le l rfl rfl rfl)
  rw [W_self] at L5 ⊢
  unfold q_law_4 q_law_4t0
  rw [C_sSeq, C_sIf, C_tOr, C_tCmp, C_vV, l2, W_some, C_vV, l3, W_some, C_neR, r3, W_some, r4, W_some, q2, bolK_b]
  simp only [Bool.not_true, Bool.false_eq_true, if_false]
  rw [C_tOr, ek, W_some]
  simp only [Bool.false_eq_true, if_false]
  rw [C_tK]
  simp only [Bool.false_eq_true, if_false]
  rw [C_sNil, seqK_n]
  exact L5
theorem law_ok (xs : List Int) (hl : xs.length ≤ 63) : Wp (gOf ["script"] (q_law ad) [.lint xs] []) fun r => r.1 = .bool true := by
  rw [W_gOf]
  refine ⟨rfl, ?_⟩
  unfold q_law q_law_0
  -- the cells
  have CELLS : ∀ {P : AV × Hp → Prop} (lm : LM) (K : Fl × LM × Hp → Option (AV × Hp)), lm "script" = some (.lint xs) → lm "firsts" = some (.ref 0) →
      (∀ cr h, h[cr]? = some (.list ((List.range 7).map fun j => .int (cel xs j))) → Wp ((q_law_2 ad (upd lm "cells" (.ref cr)) h).bind K) P) → Wp ((q_law_1 ad lm [.list (firsts.map .int)]).bind K) P := by
    intro P lm K m1 m2 hK
    unfold q_law_1
    rw [C_sSeq, C_sAsg]
    refine W_compI (a := .rng 0 7) (us := (List.range 7).map fun (i : Nat) => .int (0 + i)) (H₁ := [.list (firsts.map .int)]) (fun _ => true) (fun w => match w with | .int k => .int (cel xs k.toNat) | _ => .none) (fun _ q => nomatch q) rfl (by decide) rfl (fun w hw h' hle => Wp_some.mpr ⟨rfl, Le.refl _⟩) (fun w hw _ h' hle => ?_) (fun h' hle hg => ?_)
    · obtain ⟨j, hj, rfl⟩ := List.mem_map.mp hw
      have hj := List.mem_range.mp hj
      have n1 : inLM "k" ["firsts", "script"] lm (.int (0 + j)) "firsts" = some (.ref 0) := by unfold inLM; rw [if_neg (by decide), if_pos (by decide)]; exact m2
      have n2 : inLM "k" ["firsts", "script"] lm (.int (0 + j)) "script" = some (.lint xs) := by unfold inLM; rw [if_neg (by decide), if_pos (by decide)]; exact m1
      have n3 : inLM "k" ["firsts", "script"] lm (.int (0 + j)) "k" = some (.int j) := by unfold inLM; rw [if_pos rfl, Int.zero_add]
      generalize inLM "k" ["firsts", "script"] lm (.int (0 + j)) = lm2 at *
      have g0 : h'[0]? = some (.list (firsts.map .int)) := hle 0 _ rfl
      have e1 : nthI (firsts.map AV.int) (j : Int) = some (.int (firsts.getD j 0)) := nthI_int (by omega) (by show (j : Int) < 7; omega) (by omega)
      have hv : vV "script" lm2 h' = some (.lint xs, h') := by unfold vV; rw [n2]; rfl
      have S7 := fun {k : AV × Hp → Option (AV × Hp)} {P : AV × Hp → Prop} => C_eSl7 (α := AV × Hp) (P := P) (lm := lm2) (H := h') (q := vV "k") (k := k) hv (by omega : xs.length ≤ 100000)
      have fin : Le h' (h' ++ [AO.list ((pickNums xs (some (j : Int)) none (some 7)).map .int)]) := Le.app _ _
      have ea := asInts_map (pickNums xs (some (j : Int)) none (some 7))
      have ec : cel xs ((0 : Int) + j).toNat = (firsts.getD j 0 + preSum (fun j_1 => (pickNums xs (some (j : Int)) none (some 7)).getD j_1 0) (pickNums xs (some (j : Int)) none (some 7)).length) % 1000000 := by
        rw [Int.zero_add, Int.toNat_natCast]; rfl
      rw [W_self]
      clear hK hw
      rw [show (match AV.int (0 + (j : Int)) with | .int k => AV.int (cel xs k.toNat) | _ => .none) = AV.int (cel xs ((0 : Int) + j).toNat) from rfl, ec]
      clear ec
      generalize hX : pickNums xs (some (j : Int)) none (some 7) = X at *
      simp only [↓C_cK, ↓C_vV, ↓C_bO, ↓C_cG, ↓C_esC, ↓C_esN, ↓C_addF, ↓C_modI, ↓C_powI, ↓C_idxL, ↓C_sum, ↓W_some, ↓W_ite, intK_i, itemF_l, Wp_some, Int.reduceLT, and_true, AL0, *]
    · have : ((((List.range 7).map fun (i : Nat) => AV.int (0 + i)).filter fun _ => true).map fun w => match w with | .int k => AV.int (cel xs k.toNat) | _ => .none) = (List.range 7).map fun j => AV.int (cel xs j) := by
        rw [List.filter_eq_self.mpr (fun _ _ => rfl), List.map_map]
        refine List.map_congr_left fun j hj => ?_
        show AV.int (cel xs ((0 : Int) + j).toNat) = _
        rw [Int.zero_add, Int.toNat_natCast]
      rw [this] at hg
      rw [seqK_n]
      exact hK _ _ (getL_some hg)
  have e0 : sAsg "firsts" (eList (esC (cK (.int 578)) (esC (cK (.int 865)) (esC (cK (.int 386)) (esC (cK (.int 350)) (esC (cK (.int 2245)) (esC (cK (.int 1214)) (esC (cK (.int 2544)) esN)))))))) (bindA ["script"] [.lint xs]) [] = some (.next, upd (bindA ["script"] [.lint xs]) "firsts" (.ref 0), [.list (firsts.map .int)]) := rfl
  rw [C_sSeq, e0, W_some, seqK_n]
  refine CELLS _ _ (by rw [updNe (by decide)]; rfl) updEq fun cr h hcr => ?_
  clear CELLS e0
  have PG := page_ok ad h (cel_nn xs) hcr
  obtain ⟨⟨v1, hp⟩, hq1, rR, uR, us, pv, ple, prow, pdue, pul, pcells⟩ := PG
  simp only at pv ple prow pdue pcells
  subst pv
  have RD := read_ok ad hp (cel_nn xs) prow
  obtain ⟨⟨v2, hr⟩, hq2, mR, ms, rv, rle, rmem, rml, rnd, rge, rcells⟩ := RD
  simp only at rv rle rmem rcells
  subst rv
  have nm : ∀ u ∈ ms, u ≠ mR := fun u hu q => by
    obtain ⟨j, hj⟩ := List.getElem?_of_mem hu
    have := rcells j u hj
    rw [q, rmem] at this
    have e := Option.some.inj this
    injection e with e
    have := congrArg List.length e
    rw [List.length_map] at this
    simp at this
    omega
  have A : LA mR ms us := ⟨rml, pul, rnd, nm⟩
  generalize hlm : upd (upd (bindA ["script"] [.lint xs]) "firsts" (.ref 0)) "cells" (.ref cr) = lm0
  have c0 : lm0 "cells" = some (.ref cr) := by rw [← hlm]; exact updEq
  have I : LI (cel xs) cr mR uR ms us (upd (upd (upd lm0 "rows" (.ref rR)) "due" (.ref uR)) "memory" (.ref mR)) hr := by
    refine ⟨by rw [updNe (by decide), updNe (by decide), updNe (by decide)]; exact c0, updEq, by rw [updNe (by decide)]; exact updEq, rle _ _ (ple _ _ hcr), rmem, rle _ _ pdue, fun j u hu => ?_, fun j u hu => ?_⟩
    · have hj := (List.getElem?_eq_some_iff.mp hu).1
      rw [DD_0 (by omega), DD_1 (by omega), DD_2 (by omega)]
      exact rcells j u hu
    · have hj := (List.getElem?_eq_some_iff.mp hu).1
      rw [DD_0 (by omega), DD_1 (by omega), DD_2 (by omega)]
      exact rle _ _ (pcells j u hu)
  have L4 := law_4 ad A I
  obtain ⟨⟨fl, lm4, h4⟩, hq4, e4⟩ := L4
  simp only at e4
  subst e4
  clear A I nm rcells pcells rge rnd hlm
  unfold q_law_2 q_law_3
  simp only [↓C_vV, ↓C_cG, ↓C_esC, ↓C_esN, ↓C_sSeq, ↓C_sAsg, ↓C_sTup, ↓C_updE, ↓C_updN, ↓W_some, seqK_n, tupK_t, Wp_some, ↓reduceIte, updN, String.reduceEq, List.length_cons, List.length_nil, Nat.reduceAdd, Nat.zero_add, *]
end Mine
end
section
set_option maxRecDepth 20000
namespace Mine
variable {prog : Program} {w : World} {B : Heap} {mg mb : Str → Option Value} {K : Frag}
noncomputable def fnAt (K : Frag) (f : Addr) : Option FuncData := match K.lookup f with
  | some ⟨_, _, .func fd, _⟩ => some fd
  | _ => none
theorem fnAt_get (X : K.In B) {f : Addr} {fd : FuncData} (h : fnAt K f = some fd) : ∃ o, B.get? f = some o ∧ o.data = .func fd := by
  unfold fnAt at h
  split at h
  · rename_i a b d e q
    cases h
    exact ⟨_, X _ _ q, rfl⟩
  · cases h
theorem cells_fst : ∀ (names : List (Str × NameKind)) (n m : Nat) (a b : List (Str × Addr)), a.map (·.1) = b.map (·.1) → (cellsFrom n names a).map (·.1) = (cellsFrom m names b).map (·.1)
  | [], _, _, _, _, h => h
  | (x, k) :: r, n, m, a, b, h => by
    unfold cellsFrom
    split
    · exact cells_fst r _ _ _ _ (by simp [h])
    · exact cells_fst r _ _ _ _ h
noncomputable def kindsOk (sc : Scope) (ps : List String) : Bool := ps.all fun p => sc.names.lookup (Str.ofString p) == some .local || sc.names.lookup (Str.ofString p) == some .cell
theorem Fn.of (X : K.In B) {f : Addr} {ps : List String} {body : List Stmt} {sc : Scope} {fd : FuncData} (h1 : fnAt K f = some fd) (h2 : codeIn K fd.code fd.qualname = true) (h3 : fd.body = .stmts body) (h4 : fd.scope = sc) (h5 : fd.globals = mainGlobals) (h6 : fd.builtins = builtinsNs) (h7 : fd.closure = [])
    (h8 : ∀ vals : List Value, vals.length = ps.length → bindArgs fd ⟨vals, []⟩ = pure ((ps.map Str.ofString).zip vals)) (nd : ps.Nodup) (hk : kindsOk sc ps = true) (hc : ((cellsFrom 0 sc.names []).map (·.1)).Nodup) (co : sc.isCoroutine = false) (gen : sc.isGenerator = false) (kind : sc.kind = .function) : Fn B f ps body sc := by
  obtain ⟨o, ho, hd⟩ := fnAt_get X h1
  refine ⟨⟨o, fd, ho, hd, codeRec_of X h2, h3, h4, h5, h6, h7, h8⟩, nd, fun p hp => ?_, fun n => ?_, co, gen, kind⟩
  · have := List.all_eq_true.mp hk p hp
    simp only [Bool.or_eq_true, beq_iff_eq] at this
    exact this
  · rw [cells_fst sc.names n 0 [] [] rfl]; exact hc
theorem booked (X : K.In B) (h1 : nsOkIn K cStatics = true) (h2 : nsIn K cStatics sharingNotToldKey = some none) : NoneBooked B := ⟨_, .of_isNs (isNs_of_in X h1), nsMap_none_of_in X h1 h2⟩
-- the table
noncomputable def DictOk (P : Params) : List DictEntry → List (List Nat × Int) → Prop
  | [], [] => True
  | e :: es, (ks, i) :: l => (∃ t u, e = ⟨PyData.keyHash P ⟨ks.toArray⟩, .str ⟨ks.toArray⟩ t, .int i u⟩) ∧ DictOk P es l
  | _, _ => False
theorem isStrOf_str (a b : List Nat) (t : Tok) : Value.isStrOf ⟨a.toArray⟩ (.str ⟨b.toArray⟩ t) = decide (a = b) := by
  show decide (Str.mk b.toArray = Str.mk a.toArray) = decide (a = b)
  have : (Str.mk b.toArray = Str.mk a.toArray) = (a = b) := by
    apply propext
    simp [eq_comm]
  simp only [this]
theorem dict_find {P : Params} (cs : List Nat) : ∀ (es : List DictEntry) (l : List (List Nat × Int)), DictOk P es l →
    (l.lookup cs = none ∧ (es.find? fun e => Value.isStrOf ⟨cs.toArray⟩ e.key) = none) ∨ ∃ i u e, l.lookup cs = some i ∧ (es.find? fun e => Value.isStrOf ⟨cs.toArray⟩ e.key) = some e ∧ e.val = .int i u
  | [], [], _ => .inl ⟨rfl, rfl⟩
  | e :: es, (ks, i) :: l, ⟨⟨t, u, he⟩, h⟩ => by
    subst he
    rw [List.lookup_cons, List.find?_cons]
    simp only [isStrOf_str]
    by_cases q : cs = ks
    · subst q
      exact .inr ⟨i, u, _, by rw [beq_self_eq_true], by rw [decide_eq_true rfl], rfl⟩
    · have : (cs == ks) = false := beq_eq_false_iff_ne.mpr q
      rw [this, decide_eq_false q]
      exact dict_find cs es l h
  | [], _ :: _, h => h.elim
  | _ :: _, [], h => h.elim
theorem dict_keys {P : Params} : ∀ (es : List DictEntry) (l : List (List Nat × Int)), DictOk P es l → ∀ e ∈ es, ∃ k, Value.isStrOf k e.key = true ∧ e.hash = PyData.keyHash P k
  | [], [], _, e, he => nomatch he
  | e :: es, (ks, i) :: l, ⟨⟨t, u, h1⟩, h⟩, e', he => by
    rcases List.mem_cons.mp he with rfl | he
    · subst h1
      exact ⟨⟨ks.toArray⟩, by rw [isStrOf_str]; simp, rfl⟩
    · exact dict_keys es l h e' he
  | [], _ :: _, h, _, _ => h.elim
  | _ :: _, [], h, _, _ => h.elim
theorem Ett.of (X : K.In B) (G : B.Ns mainGlobals mg) {a : Addr} {es : List DictEntry} {ep : Nat} (h1 : nsIn K mainGlobals (Str.ofString "EXACT_TOKEN_TYPES") = some (some (.ref a))) (h2 : (a == sysModules) = false)
    (h3 : K.lookup a = some { cls := .type "dict", dict := none, data := .dict es.toArray ep, slots := #[] }) (h4 : DictOk w.params es TTl) : Ett prog w B mg TT := by
  refine ⟨a, fun k => findBy (strKind prog w).is es.toArray k, mg_of X G h1, h2, ⟨_, _, _, X _ _ h3, ⟨rfl, rfl, rfl⟩, rfl, fun e he => ?_, fun k => rfl⟩, fun cs => ?_⟩
  · exact dict_keys es TTl h4 e (by simpa using he)
  · have hf : findBy (strKind prog w).is es.toArray ⟨cs.toArray⟩ = (es.find? fun e => Value.isStrOf ⟨cs.toArray⟩ e.key).map (·.val) := by
      unfold findBy
      rw [List.find?_toArray]; rfl
    show (TT cs = none ∧ findBy (strKind prog w).is es.toArray ⟨cs.toArray⟩ = none) ∨ ∃ k t, TT cs = some k ∧ findBy (strKind prog w).is es.toArray ⟨cs.toArray⟩ = some (.int k t)
    rw [hf]
    unfold TT
    rcases dict_find cs es TTl h4 with ⟨q1, q2⟩ | ⟨i, u, e, q1, q2, q3⟩
    · exact .inl ⟨q1, by rw [q2]; rfl⟩
    · exact .inr ⟨i, u, q1, by rw [q2]; show some e.val = _; rw [q3]⟩
end Mine
end
section
set_option maxRecDepth 100000
set_option maxHeartbeats 4000000
namespace Mine
noncomputable abbrev KK (w : World) : Frag := KF w.params
noncomputable def AD0 : AD := ⟨28, 35, 42, 49, 56, 63, 95, 171, 178, 185, 192, 197, 204, 211, 218, 223, 230, 157, 112, 119, 126, 147, 86⟩
section
variable {w : World} {B : Heap} {mg mb : Str → Option Value} {p : Program} {loose : List Str}
noncomputable abbrev PR : Program := PySem.Challenge.rw_wo0070_01.row.prog
theorem ln1 {P : List Value → Prop} (h : ∀ a, P [a]) : ∀ vs : List Value, vs.length = 1 → P vs
  | [a], _ => h a
theorem ln2 {P : List Value → Prop} (h : ∀ a b, P [a, b]) : ∀ vs : List Value, vs.length = 2 → P vs
  | [a, b], _ => h a b
theorem ln3 {P : List Value → Prop} (h : ∀ a b c, P [a, b, c]) : ∀ vs : List Value, vs.length = 3 → P vs
  | [a, b, c], _ => h a b c
theorem fn_add (X : (KK w).In B) : Fn B 28 ["a", "b"] (bodyOf (stN 2)) (scOf (stN 2)) := Fn.of X rfl rfl rfl rfl rfl rfl rfl (ln2 fun _ _ => rfl) (by decide) (by rfl) (by decide +kernel) rfl rfl rfl
theorem df_add (X : (KK w).In B) (G : B.Ns mainGlobals mg) : Df PR w B mg "add" 28 ["a", "b"] 2 := ⟨mg_of X G (by rfl), keeps_K (K := KK w) (by rfl) B X, fn_add X⟩
theorem fn_sub (X : (KK w).In B) : Fn B 35 ["a", "b"] (bodyOf (stN 3)) (scOf (stN 3)) := Fn.of X rfl rfl rfl rfl rfl rfl rfl (ln2 fun _ _ => rfl) (by decide) (by rfl) (by decide +kernel) rfl rfl rfl
theorem df_sub (X : (KK w).In B) (G : B.Ns mainGlobals mg) : Df PR w B mg "sub" 35 ["a", "b"] 3 := ⟨mg_of X G (by rfl), keeps_K (K := KK w) (by rfl) B X, fn_sub X⟩
theorem fn_contains (X : (KK w).In B) : Fn B 42 ["a", "b"] (bodyOf (stN 4)) (scOf (stN 4)) := Fn.of X rfl rfl rfl rfl rfl rfl rfl (ln2 fun _ _ => rfl) (by decide) (by rfl) (by decide +kernel) rfl rfl rfl
theorem df_contains (X : (KK w).In B) (G : B.Ns mainGlobals mg) : Df PR w B mg "contains" 42 ["a", "b"] 4 := ⟨mg_of X G (by rfl), keeps_K (K := KK w) (by rfl) B X, fn_contains X⟩
theorem fn_countOf (X : (KK w).In B) : Fn B 49 ["a", "b"] (bodyOf (stN 5)) (scOf (stN 5)) := Fn.of X rfl rfl rfl rfl rfl rfl rfl (ln2 fun _ _ => rfl) (by decide) (by rfl) (by decide +kernel) rfl rfl rfl
theorem df_countOf (X : (KK w).In B) (G : B.Ns mainGlobals mg) : Df PR w B mg "countOf" 49 ["a", "b"] 5 := ⟨mg_of X G (by rfl), keeps_K (K := KK w) (by rfl) B X, fn_countOf X⟩
theorem fn_getitem (X : (KK w).In B) : Fn B 56 ["a", "b"] (bodyOf (stN 6)) (scOf (stN 6)) := Fn.of X rfl rfl rfl rfl rfl rfl rfl (ln2 fun _ _ => rfl) (by decide) (by rfl) (by decide +kernel) rfl rfl rfl
theorem df_getitem (X : (KK w).In B) (G : B.Ns mainGlobals mg) : Df PR w B mg "getitem" 56 ["a", "b"] 6 := ⟨mg_of X G (by rfl), keeps_K (K := KK w) (by rfl) B X, fn_getitem X⟩
theorem fn_setitem (X : (KK w).In B) : Fn B 63 ["a", "b", "c"] (bodyOf (stN 7)) (scOf (stN 7)) := Fn.of X rfl rfl rfl rfl rfl rfl rfl (ln3 fun _ _ _ => rfl) (by decide) (by rfl) (by decide +kernel) rfl rfl rfl
theorem df_setitem (X : (KK w).In B) (G : B.Ns mainGlobals mg) : Df PR w B mg "setitem" 63 ["a", "b", "c"] 7 := ⟨mg_of X G (by rfl), keeps_K (K := KK w) (by rfl) B X, fn_setitem X⟩
theorem fn_parse (X : (KK w).In B) : Fn B 95 ["resp"] (bodyOf (stN 11)) (scOf (stN 11)) := Fn.of X rfl rfl rfl rfl rfl rfl rfl (ln1 fun _ => rfl) (by decide) (by rfl) (by decide +kernel) rfl rfl rfl
theorem df_parse (X : (KK w).In B) (G : B.Ns mainGlobals mg) : Df PR w B mg "parse257" 95 ["resp"] 11 := ⟨mg_of X G (by rfl), keeps_K (K := KK w) (by rfl) B X, fn_parse X⟩
theorem fn_ist (X : (KK w).In B) : Fn B 171 ["x"] (bodyOf (stN 66)) (scOf (stN 66)) := Fn.of X rfl rfl rfl rfl rfl rfl rfl (ln1 fun _ => rfl) (by decide) (by rfl) (by decide +kernel) rfl rfl rfl
theorem df_ist (X : (KK w).In B) (G : B.Ns mainGlobals mg) : Df PR w B mg "ISTERMINAL" 171 ["x"] 66 := ⟨mg_of X G (by rfl), keeps_K (K := KK w) (by rfl) B X, fn_ist X⟩
theorem fn_isn (X : (KK w).In B) : Fn B 178 ["x"] (bodyOf (stN 67)) (scOf (stN 67)) := Fn.of X rfl rfl rfl rfl rfl rfl rfl (ln1 fun _ => rfl) (by decide) (by rfl) (by decide +kernel) rfl rfl rfl
theorem df_isn (X : (KK w).In B) (G : B.Ns mainGlobals mg) : Df PR w B mg "ISNONTERMINAL" 178 ["x"] 67 := ⟨mg_of X G (by rfl), keeps_K (K := KK w) (by rfl) B X, fn_isn X⟩
theorem fn_ise (X : (KK w).In B) : Fn B 185 ["x"] (bodyOf (stN 68)) (scOf (stN 68)) := Fn.of X rfl rfl rfl rfl rfl rfl rfl (ln1 fun _ => rfl) (by decide) (by rfl) (by decide +kernel) rfl rfl rfl
theorem df_ise (X : (KK w).In B) (G : B.Ns mainGlobals mg) : Df PR w B mg "ISEOF" 185 ["x"] 68 := ⟨mg_of X G (by rfl), keeps_K (K := KK w) (by rfl) B X, fn_ise X⟩
theorem fn_row (X : (KK w).In B) : Fn B 192 ["what", "far", "place"] (bodyOf (stN 70)) (scOf (stN 70)) := Fn.of X rfl rfl rfl rfl rfl rfl rfl (ln3 fun _ _ _ => rfl) (by decide) (by rfl) (by decide +kernel) rfl rfl rfl
theorem df_row (X : (KK w).In B) (G : B.Ns mainGlobals mg) : Df PR w B mg "_law_row" 192 ["what", "far", "place"] 70 := ⟨mg_of X G (by rfl), keeps_K (K := KK w) (by rfl) B X, fn_row X⟩
theorem fn_page (X : (KK w).In B) : Fn B 197 ["cells"] (bodyOf (stN 71)) (scOf (stN 71)) := Fn.of X rfl rfl rfl rfl rfl rfl rfl (ln1 fun _ => rfl) (by decide) (by rfl) (by decide +kernel) rfl rfl rfl
theorem df_page (X : (KK w).In B) (G : B.Ns mainGlobals mg) : Df PR w B mg "_law_page" 197 ["cells"] 71 := ⟨mg_of X G (by rfl), keeps_K (K := KK w) (by rfl) B X, fn_page X⟩
theorem fn_held (X : (KK w).In B) : Fn B 204 ["text", "place"] (bodyOf (stN 72)) (scOf (stN 72)) := Fn.of X rfl rfl rfl rfl rfl rfl rfl (ln2 fun _ _ => rfl) (by decide) (by rfl) (by decide +kernel) rfl rfl rfl
theorem df_held (X : (KK w).In B) (G : B.Ns mainGlobals mg) : Df PR w B mg "_law_held" 204 ["text", "place"] 72 := ⟨mg_of X G (by rfl), keeps_K (K := KK w) (by rfl) B X, fn_held X⟩
theorem fn_read (X : (KK w).In B) : Fn B 211 ["rows"] (bodyOf (stN 73)) (scOf (stN 73)) := Fn.of X rfl rfl rfl rfl rfl rfl rfl (ln1 fun _ => rfl) (by decide) (by rfl) (by decide +kernel) rfl rfl rfl
theorem df_read (X : (KK w).In B) (G : B.Ns mainGlobals mg) : Df PR w B mg "_law_read" 211 ["rows"] 73 := ⟨mg_of X G (by rfl), keeps_K (K := KK w) (by rfl) B X, fn_read X⟩
theorem fn_walk (X : (KK w).In B) : Fn B 218 ["memory", "start", "turns"] (bodyOf (stN 74)) (scOf (stN 74)) := Fn.of X rfl rfl rfl rfl rfl rfl rfl (ln3 fun _ _ _ => rfl) (by decide) (by rfl) (by decide +kernel) rfl rfl rfl
theorem df_walk (X : (KK w).In B) (G : B.Ns mainGlobals mg) : Df PR w B mg "_law_walk" 218 ["memory", "start", "turns"] 74 := ⟨mg_of X G (by rfl), keeps_K (K := KK w) (by rfl) B X, fn_walk X⟩
theorem fn_order (X : (KK w).In B) : Fn B 223 ["due", "start"] (bodyOf (stN 75)) (scOf (stN 75)) := Fn.of X rfl rfl rfl rfl rfl rfl rfl (ln2 fun _ _ => rfl) (by decide) (by rfl) (by decide +kernel) rfl rfl rfl
theorem df_order (X : (KK w).In B) (G : B.Ns mainGlobals mg) : Df PR w B mg "_law_order" 223 ["due", "start"] 75 := ⟨mg_of X G (by rfl), keeps_K (K := KK w) (by rfl) B X, fn_order X⟩
theorem fn_sorted (X : (KK w).In B) : Fn B 230 ["kind"] (bodyOf (stN 76)) (scOf (stN 76)) := Fn.of X rfl rfl rfl rfl rfl rfl rfl (ln1 fun _ => rfl) (by decide) (by rfl) (by decide +kernel) rfl rfl rfl
theorem df_sorted (X : (KK w).In B) (G : B.Ns mainGlobals mg) : Df PR w B mg "_law_sorted" 230 ["kind"] 76 := ⟨mg_of X G (by rfl), keeps_K (K := KK w) (by rfl) B X, fn_sorted X⟩
theorem fn_law (X : (KK w).In B) : Fn B 235 ["script"] (bodyOf (stN 77)) (scOf (stN 77)) := Fn.of X rfl rfl rfl rfl rfl rfl rfl (ln1 fun _ => rfl) (by decide) (by rfl) (by decide +kernel) rfl rfl rfl
theorem fn_init (X : (KK w).In B) : Fn B 112 ["self", "ws"] (bodyOf (mtN 1)) (scOf (mtN 1)) := Fn.of X rfl rfl rfl rfl rfl rfl rfl (ln2 fun _ _ => rfl) (by decide) (by rfl) (by decide +kernel) rfl rfl rfl
theorem fn_run (X : (KK w).In B) : Fn B 119 ["self"] (bodyOf (mtN 2)) (scOf (mtN 2)) := Fn.of X rfl rfl rfl rfl rfl rfl rfl (ln1 fun _ => rfl) (by decide) (by rfl) (by decide +kernel) rfl rfl rfl
theorem fn_ind (X : (KK w).In B) : Fn B 126 ["self", "tabsize"] (bodyOf (mtN 3)) (scOf (mtN 3)) := Fn.of X rfl rfl rfl rfl rfl rfl rfl (ln2 fun _ _ => rfl) (by decide) (by rfl) (by decide +kernel) rfl rfl rfl
theorem fn_less (X : (KK w).In B) : Fn B 147 ["self", "other"] (bodyOf (mtN 6)) (scOf (mtN 6)) := Fn.of X rfl rfl rfl rfl rfl rfl rfl (ln2 fun _ _ => rfl) (by decide) (by rfl) (by decide +kernel) rfl rfl rfl
theorem mt_run (X : (KK w).In B) : Mt PR w (KK w) B 157 "longest_run_of_spaces" 119 ["self"] 2 := ⟨⟨by rfl, by rfl⟩, keeps_K (K := KK w) (by rfl) B X, fn_run X⟩
theorem mt_ind (X : (KK w).In B) : Mt PR w (KK w) B 157 "indent_level" 126 ["self", "tabsize"] 3 := ⟨⟨by rfl, by rfl⟩, keeps_K (K := KK w) (by rfl) B X, fn_ind X⟩
theorem mt_less (X : (KK w).In B) : Mt PR w (KK w) B 157 "less" 147 ["self", "other"] 6 := ⟨⟨by rfl, by rfl⟩, keeps_K (K := KK w) (by rfl) B X, fn_less X⟩
theorem bi_of (X : (KK w).In B) (T : TopRead p loose mg mb B) {x : String} {v : Value} (h1 : nsIn (KK w) mainGlobals (Str.ofString x) = some none) (h2 : Str.ofString x ≠ "__name__") (h3 : bootBuiltins (Str.ofString x) = some v) : Bi mg mb x v := ⟨mg_none_of X T.g h1, (T.builtins _ h2).trans h3⟩
theorem c_ws (X : (KK w).In B) : Cl (KK w) B 157 := ⟨X, by rfl, by rfl, by rfl, by rfl⟩
theorem n_raw : ClN (KK w) 157 "raw" := ⟨by rfl, by rfl⟩
theorem n_n : ClN (KK w) 157 "n" := ⟨by rfl, by rfl⟩
theorem n_nt : ClN (KK w) 157 "nt" := ⟨by rfl, by rfl⟩
theorem n_norm : ClN (KK w) 157 "norm" := ⟨by rfl, by rfl⟩
theorem n_is_simple : ClN (KK w) 157 "is_simple" := ⟨by rfl, by rfl⟩
theorem ett (X : (KK w).In B) (G : B.Ns mainGlobals mg) : Ett PR w B mg TT := Ett.of X G (by rfl) (by decide) (by rfl) (by repeat (first | exact trivial | (refine ⟨⟨_, _, rfl⟩, ?_⟩)))
theorem cv_S : ClV (KK w) 157 "S" [32] := ⟨.type "type", _, by rfl, by rfl⟩
theorem cv_T : ClV (KK w) 157 "T" [9] := ⟨.type "type", _, by rfl, by rfl⟩
theorem ex_err (X : (KK w).In B) (T : TopRead p loose mg mb B) : Ex (KK w) B mg "error_reply" 86 := ⟨X, own_of_in X T (by rfl) (by kernel_rfl), by rfl, by rfl⟩
theorem cx (X : (KK w).In B) (T : TopRead p loose mg mb B) : Cx PR w (KK w) B mg mb AD0 where
  G := ⟨T.g, T.b, T.nolimit⟩
  NB := booked X (by kernel_rfl) (by rfl)
  d_add := df_add X T.g
  d_sub := df_sub X T.g
  d_contains := df_contains X T.g
  d_countOf := df_countOf X T.g
  d_getitem := df_getitem X T.g
  d_setitem := df_setitem X T.g
  d_parse := df_parse X T.g
  d_ist := df_ist X T.g
  d_isn := df_isn X T.g
  d_ise := df_ise X T.g
  d_row := df_row X T.g
  d_page := df_page X T.g
  d_held := df_held X T.g
  d_read := df_read X T.g
  d_walk := df_walk X T.g
  d_order := df_order X T.g
  d_sorted := df_sorted X T.g
  bi_len := bi_of X T (by rfl) (by decide) (by rfl)
  bi_max := bi_of X T (by rfl) (by decide) (by rfl)
  bi_min := bi_of X T (by rfl) (by decide) (by rfl)
  bi_sum := bi_of X T (by rfl) (by decide) (by rfl)
  bi_range := bi_of X T (by rfl) (by decide) (by rfl)
  bi_tuple := bi_of X T (by rfl) (by decide) (by rfl)
  bi_str := bi_of X T (by rfl) (by decide) (by rfl)
  ntoff := ⟨_, mg_of X T.g (by rfl)⟩
  endm := ⟨_, mg_of X T.g (by rfl)⟩
  ett := ett X T.g
  c := c_ws X
  n_raw := n_raw
  n_n := n_n
  n_nt := n_nt
  n_norm := n_norm
  n_is_simple := n_is_simple
  m_run := mt_run X
  m_ind := mt_ind X
  m_less := mt_less X
  ws_at := mg_of X T.g (by rfl)
  ws_kp := keeps_K (K := KK w) (by rfl) B X
  ws_m := by rfl
  ws_i := by rfl
  ws_t := by rfl
  ws_fn := fn_init X
  cvS := cv_S
  cvT := cv_T
  ex := ex_err X T
end
end Mine
end
section
set_option maxRecDepth 100000
set_option maxHeartbeats 1000000
namespace Mine
theorem use_fc {prog : Program} {w : World} {s₁ : Shared} {g : FG} {f x : Addr} {vs : List Value} {xs : List Int} {H' : Hp} (F : FC prog w s₁.heap 61 (.ref f) g) (e : g [.lint xs] [] = some (.bool true, H')) (hL : s₁.heap.IsList x vs.toArray) (hI : IntsAre vs xs)
    {Q : Value → Shared → Prop} {E : Value → Shared → Prop} (h : ∀ s', (∀ b o, s₁.heap.get? b = some o → s'.heap.get? b = some o) → s'.os = s₁.os → s'.gens = s₁.gens → Q (.bool true) s') :
    wpAny (model prog w) callerA (call (.ref f) [.ref x]) Q E s₁ := by
  have rm : Rm callerA 61 := ⟨by decide, by decide, rfl⟩
  have fp : Fp s₁.heap callerA [] s₁.heap := ⟨[], rfl, fun e he => (nomatch he)⟩
  have rs : RS s₁.heap [] [] s₁.heap := ⟨rfl, List.nodup_nil, fun _ _ e => e, fun _ h => (nomatch h), fun i a o h => (by simp at h), fun _ h => (nomatch h)⟩
  have ra : VRs s₁.heap [] [.lint xs] [.ref x] := VRs.one (by simp only [VR]; exact ⟨x, vs, rfl, fun h => (nomatch h), hL, hI⟩)
  refine F rm fp rs ra e fun v s' σ' st R r => ?_
  simp only [VR] at r
  subst r
  obtain ⟨h', tk, rfl⟩ := st.same
  exact h _ R.base rfl rfl
theorem fc_law {w : World} {s₁ : Shared} {mg mb : Str → Option Value} {p : Program} {loose : List Str} (X : (KK w).In s₁.heap) (T : TopRead p loose mg mb s₁.heap) : FC PR w s₁.heap 61 (.ref 235) (gOf ["script"] (q_law AD0)) :=
  @FC.ofBodyC PR w s₁.heap 60 (scOf (stN 77)) 235 ["script"] (bodyOf (stN 77)) (q_law AD0) mg mb (cx X T).G (fn_law X) (@b_law _ _ _ _ _ _ _ (cx X T)) (by decide)
theorem law_run (xs : List Int) (hl : xs.length ≤ 63) : ∃ H', gOf ["script"] (q_law AD0) [.lint xs] [] = some (.bool true, H') := by
  obtain ⟨⟨v, H'⟩, e, ev⟩ := law_ok AD0 xs hl
  exact ⟨H', by rw [e]; simp only at ev; rw [ev]⟩
theorem law_call {w : World} {s₁ : Shared} {mg mb : Str → Option Value} {p : Program} {loose : List Str} (X : (KK w).In s₁.heap) (T : TopRead p loose mg mb s₁.heap) {x : Addr} {vs : List Value} {xs : List Int} (hL : s₁.heap.IsList x vs.toArray) (hI : IntsAre vs xs) (hl : xs.length ≤ 63)
    {Q : Value → Shared → Prop} {E : Value → Shared → Prop} (h : ∀ s', (∀ b o, s₁.heap.get? b = some o → s'.heap.get? b = some o) → s'.os = s₁.os → s'.gens = s₁.gens → Q (.bool true) s') :
    wpAny (model PR w) callerA (call (.ref 235) [.ref x]) Q E s₁ := by
  obtain ⟨H', e⟩ := law_run xs hl
  exact @use_fc PR w s₁ (gOf ["script"] (q_law AD0)) 235 x vs xs H' (@fc_law w s₁ mg mb p loose X T) e hL hI Q E h
end Mine
end
section
set_option maxRecDepth 100000
set_option maxHeartbeats 8000000
namespace Mine
noncomputable def argsOf : Stmt → Arguments
  | .FunctionDef _ a _ _ _ _ _ _ _ _ => a
  | _ => ⟨[], [], none, [], [], none, []⟩
noncomputable def posOf : Stmt → Pos
  | .FunctionDef _ _ _ _ _ _ _ _ _ p => p
  | _ => ⟨0, 0, 0, 0⟩
noncomputable def DR : DefRec := ⟨Str.ofString "law", argsOf (stN 77), bodyOf (stN 77), scOf (stN 77), posOf (stN 77)⟩
theorem dr1 : defOf VW PySem.Challenge.rw_wo0070_01.row.name = some (DR, []) := by kernel_rfl
theorem dr2 : PySem.Challenge.rw_wo0070_01.row.prog.theDef PySem.Challenge.rw_wo0070_01.row.name = some (DR.params, DR.body, DR.scope) := by kernel_rfl
theorem dr3 : kwWritten? DR.params.kwonlyargs DR.params.kw_defaults = some [] := by kernel_rfl
theorem dr4 : (!PySem.Challenge.rw_wo0070_01.row.writes || PySem.Challenge.rw_wo0070_01.row.records.isEmpty) = true := by kernel_rfl
theorem dr5 : (chainsOk VW && opensWell PySem.Challenge.rw_wo0070_01.row.prog && (frees PySem.Challenge.rw_wo0070_01.row.toRowW && PySem.Challenge.rw_wo0070_01.row.within.isEmpty)) = true := by kernel_rfl
theorem dr6 : PySem.Challenge.rw_wo0070_01.row.prog.bare := ⟨rfl, rfl, rfl, rfl, rfl, by decide +kernel⟩
theorem dr7 : PySem.Challenge.rw_wo0070_01.row.toRowW.promised := ⟨[.list []], by decide +kernel, by decide +kernel⟩
theorem head (walk : WalkO VW LO (XL VW []) HK.says PySem.Challenge.rw_wo0070_01.row.toRowW DR [] fun f vs => PySem.call f vs) : PySem.Challenge.rw_wo0070_01.Holds :=
  holds_law look fun said => holds_open (q := VW) (loose := LO) (Xt := XT) (XP := XL VW []) (Yf := HK.obs) (Ya := HK.val) (YP := HK.says) (N := 6038) left HK.of HK.keeps
    (fun s e => xl_of s (Bool.and_eq_true_iff.mp e).1) XL.keeps dr1 dr2 dr3 (fun s e => recFacts_of (Bool.and_eq_true_iff.mp e).2) dr4 said dr5 dr6 dr7 walk
end Mine
end
set_option maxRecDepth 100000 in
set_option maxHeartbeats 8000000 in
theorem PySem.Challenge.cw_wo0070_01_holds : PySem.Challenge.rw_wo0070_01.Holds := by
  refine Mine.head ?_
  intro w s₀ s₁ mg mb G Y fa o pm cd doc dV kV ho hd hcd hD hmg hg args vals as hpre hlay hrd hwl hlo
  have KX : (Mine.KK w).In s₁.heap := kIn_of Y
  refine Ground.open G ?_
  intro T B D TE TW
  clear ho hd hcd hD
  wrow_args hpre hlay hrd hwl hlo
  have e1 := mg_of KX T.g (n := Str.ofString "law") (v := .ref 235) (by rfl)
  have e2 : some (Value.ref fa) = some (.ref 235) := hmg.symm.trans e1
  obtain rfl : fa = 235 := by injection e2 with e2; injection e2
  rename_i hL _ _ _ hI _ hc _
  refine Mine.law_call KX (topRead_of T) hL hI (by omega) fun s' hh ho hgs => ?_
  refine GoodW.toG ⟨.inl ⟨_, _, [], rfl, raisesW_false (by wrow_none_raised), .bool true, by wrow_post, fun _ => ⟨List.nodup_nil, fun _ h => (nomatch h)⟩⟩, hh, ho, hgs.trans hg⟩
