import PyProof.Rows.All
import Wide.All
import OpenK.AllK
import Wide.FinOn
import PySem.Challenge.RW_sw0051_01
set_option Elab.async false
set_option maxRecDepth 100000
set_option genInjectivity false
set_option genSizeOf false
set_option genSizeOfSpec false
namespace Mine
open PySem PySem.Calls PyProof.Rows PySem.W
set_option genInjectivity true in
inductive MV where
  | none | bool (b : Bool) | int (i : Int) | str (x : Str) | ref (i : Nat) | st (v : Value) | strT (x : Str) (t : Tok)
set_option genInjectivity true in
inductive MO where
  | list (xs : List MV) | tup (xs : List MV) | dict (fs : List (Str × MV)) | inst (c : Addr) (d : Nat)
  | meth (f : Addr) (self : MV) | citer (f : MV) (z : MV) (ended : Bool) | lam (F : Addr → Addr → Obj) (c k : Nat) | cell (v : MV) | opq (o : Obj)
structure MH where
  H : Nat → Option MO
  n : Nat
  tb : Bool := false
noncomputable def MH.set (m : MH) (i : Nat) (o : MO) : MH := ⟨fun j => if j = i then some o else m.H j, m.n, m.tb⟩
noncomputable def MH.alloc (m : MH) (o : MO) : MH := ⟨fun j => if j = m.n then some o else m.H j, m.n + 1, m.tb⟩
noncomputable def isStat (N : Nat) : Value → Prop
  | .ref a => a < N
  | .type _ => True
  | .builtin _ => True
  | _ => False
noncomputable def VRel (N : Nat) (σ : List Addr) : MV → Value → Prop
  | .none, v => v = .none
  | .bool b, v => v = .bool b
  | .int i, v => ∃ t, v = .int i t
  | .str x, v => ∃ t, v = .str x t
  | .ref i, v => ∃ a, σ[i]? = some a ∧ v = .ref a
  | .st u, v => v = u ∧ isStat N u
  | .strT x t, v => v = .str x t
noncomputable def VRels (N : Nat) (σ : List Addr) : List MV → List Value → Prop
  | [], [] => True
  | x :: xs, v :: vs => VRel N σ x v ∧ VRels N σ xs vs
  | _, _ => False
theorem VRel.mono {N : Nat} {σ σ' : List Addr} {x : MV} {v : Value} (h : VRel N σ x v) (p : ∀ (i : Nat) (a : Addr), σ[i]? = some a → σ'[i]? = some a) : VRel N σ' x v := by
  cases x with
  | ref i => obtain ⟨a, e, q⟩ := h; exact ⟨a, p _ _ e, q⟩
  | _ => exact h
theorem VRels.mono {N : Nat} {σ σ' : List Addr} (p : ∀ (i : Nat) (a : Addr), σ[i]? = some a → σ'[i]? = some a) : ∀ {xs : List MV} {vs : List Value}, VRels N σ xs vs → VRels N σ' xs vs
  | [], [], _ => trivial
  | _ :: _, _ :: _, h => ⟨h.1.mono p, VRels.mono p h.2⟩
  | [], _ :: _, h => h
  | _ :: _, [], h => h
theorem VRels.length {N : Nat} {σ : List Addr} : ∀ {xs : List MV} {vs : List Value}, VRels N σ xs vs → vs.length = xs.length
  | [], [], _ => rfl
  | _ :: _, _ :: _, h => congrArg (· + 1) (VRels.length h.2)
  | [], _ :: _, h => h.elim
  | _ :: _, [], h => h.elim
theorem VRels.get {N : Nat} {σ : List Addr} : ∀ {xs : List MV} {vs : List Value}, VRels N σ xs vs → ∀ {i : Nat} {x : MV}, xs[i]? = some x → ∃ v, vs[i]? = some v ∧ VRel N σ x v
  | [], [], _, i, x, e => by simp at e
  | _ :: _, _ :: _, h, 0, x, e => by cases e; exact ⟨_, rfl, h.1⟩
  | _ :: _, _ :: _, h, i + 1, x, e => VRels.get h.2 (i := i) (by simpa using e)
  | [], _ :: _, h, _, _, _ => h.elim
  | _ :: _, [], h, _, _, _ => h.elim
theorem VRels.append {N : Nat} {σ : List Addr} : ∀ {xs : List MV} {vs : List Value} {ys : List MV} {us : List Value}, VRels N σ xs vs → VRels N σ ys us → VRels N σ (xs ++ ys) (vs ++ us)
  | [], [], _, _, _, k => k
  | _ :: _, _ :: _, _, _, h, k => ⟨h.1, VRels.append h.2 k⟩
  | [], _ :: _, _, _, h, _ => h.elim
  | _ :: _, [], _, _, h, _ => h.elim
theorem VRels.set {N : Nat} {σ : List Addr} : ∀ {xs : List MV} {vs : List Value}, VRels N σ xs vs → ∀ {i : Nat} {x : MV} {v : Value}, VRel N σ x v → VRels N σ (xs.set i x) (vs.set i v)
  | [], [], _, _, _, _, _ => trivial
  | _ :: _, _ :: _, h, 0, _, _, k => ⟨k, h.2⟩
  | _ :: _, _ :: _, h, i + 1, _, _, k => ⟨h.1, VRels.set h.2 k⟩
  | [], _ :: _, h, _, _, _, _ => h.elim
  | _ :: _, [], h, _, _, _, _ => h.elim
theorem VRels.take {N : Nat} {σ : List Addr} : ∀ {xs : List MV} {vs : List Value}, VRels N σ xs vs → ∀ (i : Nat), VRels N σ (xs.take i) (vs.take i)
  | [], [], _, i => by cases i <;> trivial
  | _ :: _, _ :: _, h, 0 => trivial
  | _ :: _, _ :: _, h, i + 1 => ⟨h.1, VRels.take h.2 i⟩
  | [], _ :: _, h, _ => h.elim
  | _ :: _, [], h, _ => h.elim
theorem VRels.drop {N : Nat} {σ : List Addr} : ∀ {xs : List MV} {vs : List Value}, VRels N σ xs vs → ∀ (i : Nat), VRels N σ (xs.drop i) (vs.drop i)
  | [], [], _, i => by cases i <;> trivial
  | _ :: _, _ :: _, h, 0 => h
  | _ :: _, _ :: _, h, i + 1 => VRels.drop h.2 i
  | [], _ :: _, h, _ => h.elim
  | _ :: _, [], h, _ => h.elim
structure GC where
  prog : Program
  w : World
  K : Frag
  h0 : Heap
  g : Array GenState
  d : Drawn
  os : OsState
  T : Addr
  ps : Array Value
  kin : ∀ a o, K.lookup a = some o → a ≠ T ∧ h0.get? a = some o
  t0 : Nat := 0
noncomputable abbrev GC.N (G : GC) : Nat := G.h0.objs.size
noncomputable abbrev GC.M (G : GC) : Model := model G.prog G.w
noncomputable abbrev GC.S (G : GC) (h : Heap) (t : Nat) : Shared := ⟨h, G.g, G.d, G.t0 + t + 1, G.os⟩
noncomputable def DRel (N : Nat) (σ : List Addr) : List DictEntry → List (Str × MV) → Prop
  | [], [] => True
  | e :: es, f :: fs => (∃ t, e.key = .str f.1 t) ∧ VRel N σ f.2 e.val ∧ DRel N σ es fs
  | _, _ => False
noncomputable def ORel (N : Nat) (σ : List Addr) (h : Heap) (a : Addr) : MO → Prop
  | .list xs => ∃ vs k, h.get? a = some { cls := .type "list", data := .seq vs k } ∧ VRels N σ xs vs.toList
  | .tup xs => ∃ vs k, h.get? a = some { cls := .type "tuple", data := .seq vs k } ∧ VRels N σ xs vs.toList
  | .dict fs => ∃ es n, h.get? a = some (dictOf es n) ∧ DRel N σ es fs
  | .inst c d => ∃ b, σ[d]? = some b ∧ h.get? a = some (instObj c b)
  | .meth f x => ∃ v, VRel N σ x v ∧ h.get? a = some (methodObj (.ref f) v)
  | .citer f z e => ∃ v u, VRel N σ f v ∧ VRel N σ z u ∧ h.get? a = some { cls := .type "callable_iterator", data := .fields #[v, u, .bool e] }
  | .lam F c k => ∃ b d, σ[c]? = some b ∧ σ[k]? = some d ∧ h.get? a = some (F b d)
  | .opq o => h.get? a = some o
  | .cell x => ∃ v o, VRel N σ x v ∧ h.get? a = some o ∧ o.data = .cell (some v)
noncomputable abbrev Sub (σ σ' : List Addr) : Prop := ∀ (i : Nat) (a : Addr), σ[i]? = some a → σ'[i]? = some a
theorem DRel.mono {N : Nat} {σ σ' : List Addr} (p : Sub σ σ') : ∀ {es : List DictEntry} {fs : List (Str × MV)}, DRel N σ es fs → DRel N σ' es fs
  | [], [], _ => trivial
  | _ :: _, _ :: _, h => ⟨h.1, h.2.1.mono p, DRel.mono p h.2.2⟩
  | [], _ :: _, h => h
  | _ :: _, [], h => h
theorem ORel.mono {N : Nat} {σ σ' : List Addr} {h h' : Heap} {a : Addr} {o : MO} (x : ORel N σ h a o) (p : Sub σ σ') (k : ∀ o, h.get? a = some o → h'.get? a = some o) : ORel N σ' h' a o := by
  cases o with
  | list xs => obtain ⟨vs, n, e, r⟩ := x; exact ⟨vs, n, k _ e, r.mono p⟩
  | tup xs => obtain ⟨vs, n, e, r⟩ := x; exact ⟨vs, n, k _ e, r.mono p⟩
  | dict fs => obtain ⟨es, n, e, r⟩ := x; exact ⟨es, n, k _ e, DRel.mono p r⟩
  | inst c d => obtain ⟨b, e, r⟩ := x; exact ⟨b, p _ _ e, k _ r⟩
  | meth f y => obtain ⟨v, e, r⟩ := x; exact ⟨v, e.mono p, k _ r⟩
  | citer f z e => obtain ⟨v, u, e1, e2, r⟩ := x; exact ⟨v, u, e1.mono p, e2.mono p, k _ r⟩
  | lam F c d => obtain ⟨b, b', e, e', r⟩ := x; exact ⟨b, b', p _ _ e, p _ _ e', k _ r⟩
  | opq o => exact k _ x
  | cell y => obtain ⟨v, o, e, r, q⟩ := x; exact ⟨v, o, e.mono p, k _ r, q⟩
structure HRels (G : GC) (σ : List Addr) (m : MH) (h : Heap) : Prop where
  len : σ.length = m.n
  nodup : σ.Nodup
  low : ∀ a ∈ σ, G.N ≤ a ∧ a < h.objs.size
  obj : ∀ i o a, m.H i = some o → σ[i]? = some a → ORel G.N σ h a o
  keep : ∀ b o, b ≠ G.T → G.h0.get? b = some o → h.get? b = some o
  tab : ∃ more, h.get? G.T = some (tabObj (G.ps ++ more)) ∧ (m.tb = false → more = #[])
  tlt : G.T < G.N
  size : G.N ≤ h.objs.size
structure Ext (G : GC) (own σ σ' : List Addr) (h h' : Heap) : Prop where
  sub : Sub σ σ'
  new : ∀ a ∈ σ', a ∈ σ ∨ h.objs.size ≤ a
  size : h.objs.size ≤ h'.objs.size
  keep : ∀ b o, b ∉ σ → b ∉ own → b ≠ G.T → h.get? b = some o → h'.get? b = some o
theorem Ext.refl {G : GC} {own σ : List Addr} {h : Heap} : Ext G own σ σ h h := ⟨fun _ _ e => e, fun _ h => .inl h, Nat.le_refl _, fun _ _ _ _ _ e => e⟩
theorem Ext.trans {G : GC} {own σ σ' σ'' : List Addr} {h h' h'' : Heap} (x : Ext G own σ σ' h h') (y : Ext G own σ' σ'' h' h'') : Ext G own σ σ'' h h'' :=
  ⟨fun i a e => y.sub i a (x.sub i a e), fun a ha => (y.new a ha).elim (x.new a) fun q => .inr (Nat.le_trans x.size q), Nat.le_trans x.size y.size,
    fun b o h1 h2 h3 e => y.keep b o (fun q => (x.new b q).elim h1 fun z => Nat.lt_irrefl _ (Nat.lt_of_lt_of_le (Heap.lt_size e) z)) h2 h3 (x.keep b o h1 h2 h3 e)⟩
theorem Ext.weaken {G : GC} {own own' σ σ' : List Addr} {h h' : Heap} (x : Ext G own σ σ' h h') (p : ∀ a ∈ own, a ∈ own') : Ext G own' σ σ' h h' :=
  ⟨x.sub, x.new, x.size, fun b o h1 h2 h3 e => x.keep b o h1 (fun q => h2 (p b q)) h3 e⟩
theorem mem_of_get {σ : List Addr} {i : Nat} {a : Addr} (e : σ[i]? = some a) : a ∈ σ := List.mem_of_getElem? e
theorem HRels.kIn {G : GC} {σ : List Addr} {m : MH} {h : Heap} (X : HRels G σ m h) : G.K.In h := fun a o e => X.keep a o (G.kin a o e).1 (G.kin a o e).2
theorem HRels.same {G : GC} {σ : List Addr} {m : MH} {h h' : Heap} (X : HRels G σ m h) (k : ∀ b o, (b ∈ σ ∨ b < G.N) → h.get? b = some o → h'.get? b = some o) (hs : h.objs.size ≤ h'.objs.size) : HRels G σ m h' := by
  refine ⟨X.len, X.nodup, fun a ha => ⟨(X.low a ha).1, Nat.lt_of_lt_of_le (X.low a ha).2 hs⟩, fun i o a e q => (X.obj i o a e q).mono (fun _ _ z => z) fun o' z => k _ _ (.inl (mem_of_get q)) z, fun b o hb e => k _ _ (.inr (Heap.lt_size e)) (X.keep b o hb e), ?_, X.tlt, Nat.le_trans X.size hs⟩
  obtain ⟨more, e, z⟩ := X.tab
  exact ⟨more, k _ _ (.inr X.tlt) e, z⟩
theorem HRels.push {G : GC} {σ : List Addr} {m : MH} {h : Heap} (X : HRels G σ m h) (o : Obj) : HRels G σ m (h.push o) :=
  X.same (fun _ _ _ e => Heap.get?_push_of_some _ e) (by rw [Heap.size_push]; omega)
theorem Ext.push {G : GC} {own σ : List Addr} {h : Heap} (o : Obj) : Ext G own σ σ h (h.push o) :=
  ⟨fun _ _ e => e, fun _ h => .inl h, by rw [Heap.size_push]; omega, fun _ _ _ _ _ e => Heap.get?_push_of_some _ e⟩
theorem HRels.alloc {G : GC} {σ : List Addr} {m : MH} {h : Heap} (X : HRels G σ m h) {o : Obj} {mo : MO} (hf : ORel G.N (σ ++ [h.objs.size]) (h.push o) h.objs.size mo) :
    HRels G (σ ++ [h.objs.size]) (m.alloc mo) (h.push o) := by
  have hsub : Sub σ (σ ++ [h.objs.size]) := fun i a e => by
    rw [List.getElem?_append_left (by have := List.getElem?_eq_some_iff.mp e; exact this.1)]; exact e
  refine ⟨by simp [MH.alloc, X.len], ?_, fun a ha => ?_, fun i o' a e q => ?_, fun b o hb e => Heap.get?_push_of_some _ (X.keep b o hb e), ?_, X.tlt, by rw [Heap.size_push]; have := X.size; omega⟩
  · refine List.nodup_append.mpr ⟨X.nodup, by simp, fun a ha b hb e => ?_⟩
    rw [List.mem_singleton.mp hb] at e
    exact absurd e (Nat.ne_of_lt (X.low a ha).2)
  · rw [Heap.size_push]
    rcases List.mem_append.mp ha with ha | ha
    · exact ⟨(X.low a ha).1, Nat.lt_succ_of_lt (X.low a ha).2⟩
    · rw [List.mem_singleton.mp ha]; exact ⟨X.size, Nat.lt_succ_self _⟩
  · have hil : i < σ.length + 1 := by have := (List.getElem?_eq_some_iff.mp q).1; simpa using this
    by_cases hi : i = m.n
    · subst hi
      have hn : σ[m.n]? = none := by rw [List.getElem?_eq_none]; rw [X.len]; exact Nat.le_refl _
      have q' : a = h.objs.size := by
        rw [List.getElem?_append_right (by rw [X.len]; exact Nat.le_refl _), X.len, Nat.sub_self] at q
        exact (Option.some.inj q).symm
      subst q'
      have e' : mo = o' := by
        have : (if m.n = m.n then some mo else m.H m.n) = some o' := e
        rw [if_pos rfl] at this; exact Option.some.inj this
      subst e'; exact hf
    · have e' : m.H i = some o' := by
        have : (if i = m.n then some mo else m.H i) = some o' := e
        rw [if_neg hi] at this; exact this
      have hlt : i < σ.length := by rw [X.len] at hil ⊢; omega
      rw [List.getElem?_append_left hlt] at q
      exact (X.obj i o' a e' q).mono hsub fun o'' z => Heap.get?_push_of_some _ z
  · obtain ⟨more, e, z⟩ := X.tab; exact ⟨more, Heap.get?_push_of_some _ e, z⟩
theorem Ext.alloc {G : GC} {own σ : List Addr} {h : Heap} (o : Obj) : Ext G own σ (σ ++ [h.objs.size]) h (h.push o) :=
  ⟨fun i a e => by rw [List.getElem?_append_left (by have := List.getElem?_eq_some_iff.mp e; exact this.1)]; exact e,
    fun a ha => by
      rcases List.mem_append.mp ha with ha | ha
      · exact .inl ha
      · exact .inr (by rw [List.mem_singleton.mp ha]; exact Nat.le_refl _),
    by rw [Heap.size_push]; omega, fun _ _ _ _ _ e => Heap.get?_push_of_some _ e⟩
theorem HRels.last {G : GC} {σ : List Addr} {m : MH} {h : Heap} (X : HRels G σ m h) (a : Addr) : (σ ++ [a])[m.n]? = some a := by
  rw [List.getElem?_append_right (by rw [X.len]; exact Nat.le_refl _), X.len, Nat.sub_self]; rfl
theorem HRels.upd {G : GC} {σ : List Addr} {m : MH} {h h' : Heap} (X : HRels G σ m h) {i : Nat} {a : Addr} {mo : MO} (hi : σ[i]? = some a) (hs : Heap.SameBut a h h') (ho : ORel G.N σ h' a mo) : HRels G σ (m.set i mo) h' := by
  have ha := X.low a (mem_of_get hi)
  refine ⟨X.len, X.nodup, fun b hb => by rw [hs.1]; exact X.low b hb, fun j o b e q => ?_, fun b o hb e => (hs.2 b ?_).trans (X.keep b o hb e), ?_, X.tlt, by rw [hs.1]; exact X.size⟩
  · by_cases hj : j = i
    · subst hj
      have e' : mo = o := by
        have : (if j = j then some mo else m.H j) = some o := e
        rw [if_pos rfl] at this; exact Option.some.inj this
      rw [hi] at q; cases q; subst e'; exact ho
    · have e' : m.H j = some o := by
        have : (if j = i then some mo else m.H j) = some o := e
        rw [if_neg hj] at this; exact this
      have hne : b ≠ a := fun z => by
        subst z
        obtain ⟨l1, g1⟩ := List.getElem?_eq_some_iff.mp q
        obtain ⟨l2, g2⟩ := List.getElem?_eq_some_iff.mp hi
        exact hj ((List.getElem_inj X.nodup).mp (g1.trans g2.symm))
      exact (X.obj j o b e' q).mono (fun _ _ z => z) fun o' z => (hs.2 b hne).trans z
  · exact Nat.ne_of_lt (Nat.lt_of_lt_of_le (Heap.lt_size e) ha.1)
  · obtain ⟨more, e, z⟩ := X.tab
    exact ⟨more, (hs.2 _ (Nat.ne_of_lt (Nat.lt_of_lt_of_le X.tlt ha.1))).trans e, z⟩
theorem Ext.upd {G : GC} {own σ : List Addr} {h h' : Heap} {i : Nat} {a : Addr} (hi : σ[i]? = some a) (hs : Heap.SameBut a h h') : Ext G own σ σ h h' :=
  ⟨fun _ _ e => e, fun _ h => .inl h, by rw [hs.1]; exact Nat.le_refl _, fun b o h1 _ _ e => (hs.2 b fun q => h1 (q ▸ mem_of_get hi)).trans e⟩
theorem runs_size {M : Model} {Γ : Ctx} {p : Pos} {t : Sem Fin} {fs : List Frame} {s s' : Shared} {e : End} (h : Runs M Γ p t fs s e s') : s.heap.objs.size ≤ s'.heap.objs.size := by
  induction h <;> (try simp only [Shared.setGen, Heap.size_push, Heap.size_after_update] at *) <;> omega
theorem wakes_size {M : Model} {Γ : Ctx} {p : Pos} {g : Nat} {r : Resume} {s s' : Shared} {res : GenResult} (h : Wakes M Γ p g r s res s') : s.heap.objs.size ≤ s'.heap.objs.size := by
  unfold Wakes at h
  split at h
  · exact h.elim
  · split at h
    · obtain ⟨e₁, s₁, hr, _, _, rfl⟩ := h; exact (runs_size hr : (s.setGen g .running).heap.objs.size ≤ s₁.heap.objs.size)
    · rw [h.2]; exact Nat.le_refl _
    · rw [h.2]; exact Nat.le_refl _
  · obtain ⟨e₁, s₁, hr, _, _, rfl⟩ := h; exact (runs_size hr : (s.setGen g .running).heap.objs.size ≤ s₁.heap.objs.size)
  · rw [h.2]; exact Nat.le_refl _
  · rw [h.2]; exact Nat.le_refl _
theorem wp_size {α : Type} (M : Model) (Γ : Ctx) (n : Nat) (t : Sem α) : ∀ (Q : α → Pos → Shared → Prop) (E : Value → Pos → Shared → Prop) (p : Pos) (s : Shared), n ≤ s.heap.objs.size → Sem.wp M Γ t Q E p s →
    Sem.wp M Γ t (fun a p' s' => n ≤ s'.heap.objs.size ∧ Q a p' s') (fun e p' s' => n ≤ s'.heap.objs.size ∧ E e p' s') p s := by
  induction t with
  | pure a => intro Q E p s hn h; exact ⟨hn, h⟩
  | raise e => intro Q E p s hn h; exact ⟨hn, h⟩
  | unsupported _ => intro Q E p s _ h; exact h
  | finish _ => intro Q E p s _ h; exact h
  | rule _ k ih => intro Q E p s hn h; exact ih () Q E p s hn h
  | «at» p' k ih => intro Q E p s hn h; exact ih () Q E p' s hn h
  | load a _ k ih => intro Q E p s hn h; obtain ⟨o, ho, h⟩ := h; exact ⟨o, ho, ih o Q E p s hn h⟩
  | update a _ f k ih => intro Q E p s hn h; exact ⟨h.1, ih () Q E p _ (by rw [Heap.size_after_update]; exact hn) h.2⟩
  | loadIfAlive a k ih => intro Q E p s hn h; exact ih _ Q E p s hn h
  | point _ k ih => intro Q E p s hn h; exact ih () Q E p s hn h
  | register _ _ => intro Q E p s _ h; exact h
  | alloc o k ih => intro Q E p s hn h; exact ih _ Q E p _ (by rw [Heap.size_push]; exact Nat.le_succ_of_le hn) h
  | fresh k ih => intro Q E p s hn h; exact ih _ Q E p _ hn h
  | ask k ih => intro Q E p s hn h; exact ih _ Q E p s hn h
  | choose src m k ih => intro Q E p s hn h; exact ⟨h.1, ih _ Q E p _ hn h.2⟩
  | os q _ k ih => intro Q E p s hn h; exact ih _ Q E p _ hn h
  | call c hd _ _ k ih => intro Q E p s hn h; obtain ⟨r, s', hr, h⟩ := h; exact ⟨r, s', hr, ih r Q E p s' (Nat.le_trans hn (runs_size hr)) h⟩
  | handled own k ih => intro Q E p s hn h; exact ih _ Q E p s hn h
  | genState g k ih => intro Q E p s hn h; obtain ⟨st, hs, h⟩ := h; exact ⟨st, hs, ih _ Q E p s hn h⟩
  | newGen c k ih => intro Q E p s hn h; exact ih _ Q E p _ hn h
  | resume g r _ k ih => intro Q E p s hn h; obtain ⟨res, s', hw, h⟩ := h; exact ⟨res, s', hw, ih res Q E p s' (Nat.le_trans hn (wakes_size hw)) h⟩
  | yield _ _ _ _ => intro Q E p s _ h; exact h
  | stack k ih => intro Q E p s hn h; exact ih _ Q E p s hn h
  | fork _ _ => intro Q E p s _ h; exact h
  | thread k ih => intro Q E p s hn h; exact ih _ Q E p s hn h
  | await _ _ _ _ _ => intro Q E p s _ h; exact h
theorem wpAny_sz {α : Type} {M : Model} {A : Around} {s : Shared} {t : Sem α} {Q : α → Shared → Prop} {E : Value → Shared → Prop}
    (h : wpAny M A t (fun a s' => s.heap.objs.size ≤ s'.heap.objs.size → Q a s') E s) : wpAny M A t Q E s := fun Γ p hΓ => by
  have := wp_size M Γ s.heap.objs.size t _ _ p s (Nat.le_refl _) (h Γ p hΓ)
  exact Sem.wp_mono M Γ t (fun _ _ _ x => x.2 x.1) (fun _ _ _ x => x.2) p s this
theorem runs_toks {M : Model} {Γ : Ctx} {p : Pos} {t : Sem Fin} {fs : List Frame} {s s' : Shared} {e : End} (h : Runs M Γ p t fs s e s') : s.toks ≤ s'.toks := by
  induction h <;> (try simp only [Shared.setGen] at *) <;> omega
theorem wakes_toks {M : Model} {Γ : Ctx} {p : Pos} {g : Nat} {r : Resume} {s s' : Shared} {res : GenResult} (h : Wakes M Γ p g r s res s') : s.toks ≤ s'.toks := by
  unfold Wakes at h
  split at h
  · exact h.elim
  · split at h
    · obtain ⟨e₁, s₁, hr, _, _, rfl⟩ := h; exact (runs_toks hr : (s.setGen g .running).toks ≤ s₁.toks)
    · rw [h.2]; exact Nat.le_refl _
    · rw [h.2]; exact Nat.le_refl _
  · obtain ⟨e₁, s₁, hr, _, _, rfl⟩ := h; exact (runs_toks hr : (s.setGen g .running).toks ≤ s₁.toks)
  · rw [h.2]; exact Nat.le_refl _
  · rw [h.2]; exact Nat.le_refl _
theorem wp_toks {α : Type} (M : Model) (Γ : Ctx) (n : Nat) (t : Sem α) : ∀ (Q : α → Pos → Shared → Prop) (E : Value → Pos → Shared → Prop) (p : Pos) (s : Shared), n ≤ s.toks → Sem.wp M Γ t Q E p s →
    Sem.wp M Γ t (fun a p' s' => n ≤ s'.toks ∧ Q a p' s') (fun e p' s' => n ≤ s'.toks ∧ E e p' s') p s := by
  induction t with
  | pure a => intro Q E p s hn h; exact ⟨hn, h⟩
  | raise e => intro Q E p s hn h; exact ⟨hn, h⟩
  | unsupported _ => intro Q E p s _ h; exact h
  | finish _ => intro Q E p s _ h; exact h
  | rule _ k ih => intro Q E p s hn h; exact ih () Q E p s hn h
  | «at» p' k ih => intro Q E p s hn h; exact ih () Q E p' s hn h
  | load a _ k ih => intro Q E p s hn h; obtain ⟨o, ho, h⟩ := h; exact ⟨o, ho, ih o Q E p s hn h⟩
  | update a _ f k ih => intro Q E p s hn h; exact ⟨h.1, ih () Q E p _ hn h.2⟩
  | loadIfAlive a k ih => intro Q E p s hn h; exact ih _ Q E p s hn h
  | point _ k ih => intro Q E p s hn h; exact ih () Q E p s hn h
  | register _ _ => intro Q E p s _ h; exact h
  | alloc o k ih => intro Q E p s hn h; exact ih _ Q E p _ hn h
  | fresh k ih => intro Q E p s hn h; exact ih _ Q E p _ (Nat.le_succ_of_le hn) h
  | ask k ih => intro Q E p s hn h; exact ih _ Q E p s hn h
  | choose src m k ih => intro Q E p s hn h; exact ⟨h.1, ih _ Q E p _ hn h.2⟩
  | os q _ k ih => intro Q E p s hn h; exact ih _ Q E p _ hn h
  | call c hd _ _ k ih => intro Q E p s hn h; obtain ⟨r, s', hr, h⟩ := h; exact ⟨r, s', hr, ih r Q E p s' (Nat.le_trans hn (runs_toks hr)) h⟩
  | handled own k ih => intro Q E p s hn h; exact ih _ Q E p s hn h
  | genState g k ih => intro Q E p s hn h; obtain ⟨st, hs, h⟩ := h; exact ⟨st, hs, ih _ Q E p s hn h⟩
  | newGen c k ih => intro Q E p s hn h; exact ih _ Q E p _ hn h
  | resume g r _ k ih => intro Q E p s hn h; obtain ⟨res, s', hw, h⟩ := h; exact ⟨res, s', hw, ih res Q E p s' (Nat.le_trans hn (wakes_toks hw)) h⟩
  | yield _ _ _ _ => intro Q E p s _ h; exact h
  | stack k ih => intro Q E p s hn h; exact ih _ Q E p s hn h
  | fork _ _ => intro Q E p s _ h; exact h
  | thread k ih => intro Q E p s hn h; exact ih _ Q E p s hn h
  | await _ _ _ _ _ => intro Q E p s _ h; exact h
theorem wpAny_tk {α : Type} {M : Model} {A : Around} {s : Shared} {t : Sem α} {Q : α → Shared → Prop} {E : Value → Shared → Prop}
    (h : wpAny M A t (fun a s' => s.toks ≤ s'.toks → Q a s') E s) : wpAny M A t Q E s := fun Γ p hΓ => by
  have := wp_toks M Γ s.toks t _ _ p s (Nat.le_refl _) (h Γ p hΓ)
  exact Sem.wp_mono M Γ t (fun _ _ _ x => x.2 x.1) (fun _ _ _ x => x.2) p s this
structure Cx where
  G : GC
  A : Around
  env : Env
  names : List (Str × NameKind)
  own : List Addr
  fp : List Addr
  frees : List (Str × Nat) := []
structure Cx.Ok (c : Cx) : Prop where
  kind : c.env.scope.kind = .function
  nodup : (c.names.map (·.1)).Nodup
  glob : c.env.globals = mainGlobals
  blt : c.env.builtins = builtinsNs
  dbg : ∀ p ∈ c.names, (p.1 == ("__debug__" : Str)) = false
  cdict : ∀ p ∈ c.names, (p.1 == ("__classdict__" : Str)) = false
  Lown : c.env.locals ∈ c.own
  Lfp : c.env.locals ∈ c.fp
  sub : ∀ a ∈ c.own, a ∈ c.fp
  cells : c.env.cells.Pairwise fun x y => x.2 ≠ y.2
  Lcell : ∀ x ∈ c.env.cells, x.2 ≠ c.env.locals
  low : ∀ a ∈ c.fp, c.G.N ≤ a
  tlt : c.G.T < c.G.N
  hand : c.A.handled = none
  rel : ∀ (i : Nat) x k, c.names[i]? = some (x, k) → c.env.kindOf x = some k ∨ (k = .free ∧ c.env.kindOf x = some .cell)
  ownc : ∀ (i : Nat) x, c.names[i]? = some (x, .cell) → ∃ a, a ∈ c.own ∧ c.env.cells.lookup x = some a
  celat : ∀ (i : Nat) x k, k = .cell ∨ k = .free → c.names[i]? = some (x, k) → ∃ a, a ∈ c.fp ∧ c.env.cells.lookup x = some a
structure St where
  vars : List (Option MV)
  m : MH
structure FRel (c : Cx) (σ : List Addr) (vars : List (Option MV)) (h : Heap) : Prop where
  len : vars.length = c.names.length
  loc : ∃ m, h.Ns c.env.locals m ∧ ∀ (i : Nat) x mv, c.names[i]? = some (x, .local) → vars[i]? = some (some mv) → ∃ v, m x = some v ∧ VRel c.G.N σ mv v
  alive : ∀ a ∈ c.fp, a < h.objs.size
  cel : ∀ p ∈ c.env.cells, p.2 ∈ c.fp → ∃ v, h.IsCell p.2 v
  celv : ∀ (i : Nat) x k mv, k = .cell ∨ k = .free → c.names[i]? = some (x, k) → vars[i]? = some (some mv) → ∃ a v, a ∈ c.fp ∧ c.env.cells.lookup x = some a ∧ h.IsCell a (some v) ∧ VRel c.G.N σ mv v
structure Inv (c : Cx) (σ : List Addr) (st : St) (h : Heap) : Prop where
  hr : HRels c.G σ st.m h
  fr : FRel c σ st.vars h
  apart : ∀ a ∈ c.fp, a ∉ σ
  lnk : ∀ q ∈ c.frees, ∃ a, c.env.cells.lookup q.1 = some a ∧ σ[q.2]? = some a
theorem IsCell.keep1 {h h' : Heap} {a : Addr} {v : Option Value} (x : h.IsCell a v) (k : ∀ o, h.get? a = some o → h'.get? a = some o) : h'.IsCell a v :=
  let ⟨o, ho, hd⟩ := x; ⟨o, k o ho, hd⟩
theorem Ns.keep1 {h h' : Heap} {a : Addr} {m : Str → Option Value} (x : h.Ns a m) (k : ∀ o, h.get? a = some o → h'.get? a = some o) : h'.Ns a m :=
  let ⟨o, es, ep, e, r⟩ := x; ⟨o, es, ep, k _ e, r⟩
theorem FRel.keep {c : Cx} (hc : c.Ok) {σ σ' : List Addr} {vars : List (Option MV)} {h h' : Heap} (X : FRel c σ vars h) (p : Sub σ σ') (hs : h.objs.size ≤ h'.objs.size) (k : ∀ a ∈ c.fp, ∀ o, h.get? a = some o → h'.get? a = some o) : FRel c σ' vars h' := by
  refine ⟨X.len, ?_, fun a ha => Nat.lt_of_lt_of_le (X.alive a ha) hs, fun q hq hf => ?_, fun i x k' mv hk e1 e2 => ?_⟩
  · obtain ⟨m, n, r⟩ := X.loc
    exact ⟨m, Ns.keep1 n (k _ hc.Lfp), fun i x mv e1 e2 => let ⟨v, a, b⟩ := r i x mv e1 e2; ⟨v, a, b.mono p⟩⟩
  · obtain ⟨v, z⟩ := X.cel q hq hf
    exact ⟨v, IsCell.keep1 z (k _ hf)⟩
  · obtain ⟨a, v, hf, e, z, w⟩ := X.celv i x k' mv hk e1 e2
    exact ⟨a, v, hf, e, IsCell.keep1 z (k _ hf), w.mono p⟩
theorem FRel.lt {c : Cx} {σ : List Addr} {vars : List (Option MV)} {h : Heap} (X : FRel c σ vars h) : ∀ a ∈ c.fp, a < h.objs.size := X.alive
theorem Ext.apart {c : Cx} {own σ σ' : List Addr} {vars : List (Option MV)} {h h' : Heap} (E : Ext c.G own σ σ' h h') (F : FRel c σ vars h) (q : ∀ a ∈ c.fp, a ∉ σ) : ∀ a ∈ c.fp, a ∉ σ' := fun a ha z =>
  (E.new a z).elim (q a ha) fun y => Nat.lt_irrefl _ (Nat.lt_of_lt_of_le (F.lt a ha) y)
theorem Inv.step {c : Cx} {σ σ' : List Addr} {st : St} {m' : MH} {h h' : Heap} (hc : c.Ok) (X : Inv c σ st h) (H : HRels c.G σ' m' h') (E : Ext c.G [] σ σ' h h') : Inv c σ' { st with m := m' } h' :=
  ⟨H, X.fr.keep hc E.sub E.size fun a ha o e => E.keep a o (X.apart a ha) (fun z => (nomatch z)) (fun z => by have := hc.low a ha; rw [z] at this; exact Nat.lt_irrefl _ (Nat.lt_of_lt_of_le hc.tlt this)) e, E.apart X.fr X.apart,
    fun q hq => let ⟨a, e1, e2⟩ := X.lnk q hq; ⟨a, e1, E.sub _ _ e2⟩⟩
noncomputable def HT {α β : Type} (G : GC) (A : Around) (R : List Addr → β → α → Prop) (f : List Value → Sem α) (xs : List MV) (m : MH) (Q : β → MH → Prop) : Prop :=
  ∀ σ h t vs (Qs : α → Shared → Prop) Es, HRels G σ m h → VRels G.N σ xs vs →
    (∀ σ' h' t' v y m', Q y m' → HRels G σ' m' h' → R σ' y v → Ext G [] σ σ' h h' → Qs v (G.S h' t')) → wpAny G.M A (f vs) Qs Es (G.S h t)
noncomputable def FT {α β : Type} (c : Cx) (R : List Addr → β → α → Prop) (tr : Sem α) (st : St) (Q : β → St → Prop) : Prop :=
  ∀ σ h t (Qs : α → Shared → Prop) Es, Inv c σ st h →
    (∀ σ' h' t' v y st', Q y st' → Inv c σ' st' h' → R σ' y v → Ext c.G c.own σ σ' h h' → Qs v (c.G.S h' t')) → wpAny c.G.M c.A tr Qs Es (c.G.S h t)
noncomputable abbrev RV (G : GC) : List Addr → MV → Value → Prop := VRel G.N
noncomputable abbrev RU : List Addr → Unit → Unit → Prop := fun _ _ _ => True
noncomputable abbrev RB : List Addr → Bool → Bool → Prop := fun _ b b' => b = b'
inductive MF where
  | next | brk | cont | ret (v : MV)
noncomputable def RF (N : Nat) (σ : List Addr) : MF → Flow → Prop
  | .next, f => f = .next
  | .brk, f => f = .brk
  | .cont, f => f = .cont
  | .ret x, f => ∃ v, f = .ret v ∧ VRel N σ x v
noncomputable def ap1 {α : Type} (g : Value → Sem α) : List Value → Sem α
  | [x] => g x
  | _ => unsupported ""
noncomputable def ap2 {α : Type} (g : Value → Value → Sem α) : List Value → Sem α
  | [x, y] => g x y
  | _ => unsupported ""
noncomputable def ap3 {α : Type} (g : Value → Value → Value → Sem α) : List Value → Sem α
  | [x, y, z] => g x y z
  | _ => unsupported ""
noncomputable def callV : List Value → Sem Value
  | f :: vs => call f vs
  | [] => unsupported ""
noncomputable def EvalTo (c : Cx) (e : Expr) (st : St) (Q : MV → St → Prop) : Prop := FT c (RV c.G) (eval e c.env) st Q
noncomputable def TestTo (c : Cx) (e : Expr) (st : St) (Q : Bool → St → Prop) : Prop := FT c RB (isTrue e c.env (eval e c.env)) st Q
noncomputable def ExecTo (c : Cx) (s : Stmt) (st : St) (Q : MF → St → Prop) : Prop := FT c (RF c.G.N) (exec s c.env) st Q
noncomputable def ExecsTo (c : Cx) (ss : List Stmt) (st : St) (Q : MF → St → Prop) : Prop := FT c (RF c.G.N) (execs ss c.env) st Q
noncomputable def ArgsTo (c : Cx) (es : List Expr) (st : St) (Q : List MV → St → Prop) : Prop :=
  ∀ pos, FT c (VRels c.G.N) (spliced (backTo pos (starEach es c.env))) st Q
theorem FT.mono {α β : Type} {c : Cx} {R : List Addr → β → α → Prop} {tr : Sem α} {st : St} {Q Q' : β → St → Prop} (h : FT c R tr st Q) (k : ∀ y st', Q y st' → Q' y st') : FT c R tr st Q' :=
  fun σ hh t Qs Es I q => h σ hh t Qs Es I fun σ' h' t' v y st' hq => q σ' h' t' v y st' (k y st' hq)
theorem HT.mono {α β : Type} {G : GC} {A : Around} {R : List Addr → β → α → Prop} {f : List Value → Sem α} {xs : List MV} {m : MH} {Q Q' : β → MH → Prop} (h : HT G A R f xs m Q) (k : ∀ y m', Q y m' → Q' y m') : HT G A R f xs m Q' :=
  fun σ hh t vs Qs Es I V q => h σ hh t vs Qs Es I V fun σ' h' t' v y m' hq => q σ' h' t' v y m' (k y m' hq)
theorem HT.at {α β : Type} {c : Cx} {R : List Addr → β → α → Prop} {f : List Value → Sem α} {xs : List MV} {st : St} {Q : β → St → Prop} (hc : c.Ok)
    (h : HT c.G c.A R f xs st.m fun y m => Q y { st with m := m }) {σ : List Addr} {hh : Heap} {t : Nat} {vs : List Value} {Qs : α → Shared → Prop} {Es : Value → Shared → Prop} (I : Inv c σ st hh) (V : VRels c.G.N σ xs vs)
    (q : ∀ σ' h' t' v y st', Q y st' → Inv c σ' st' h' → R σ' y v → Ext c.G c.own σ σ' hh h' → Qs v (c.G.S h' t')) : wpAny c.G.M c.A (f vs) Qs Es (c.G.S hh t) :=
  h σ hh t vs Qs Es I.hr V fun σ' h' t' v y m' hq H hr E => q σ' h' t' v y _ hq (I.step hc H E) hr (E.weaken fun _ z => (nomatch z))
theorem tk_at {a t t' : Nat} (h : a + t + 1 ≤ t') : ∃ t'', t' = a + t'' + 1 := ⟨t' - 1 - a, by omega⟩
theorem FT.pure' {α β : Type} {c : Cx} {R : List Addr → β → α → Prop} {tr : Sem α} {st : St} {Q : β → St → Prop} (y : β)
    (h : ∀ σ hh t (Qs : α → Shared → Prop) Es, HRels c.G σ st.m hh → (∀ v t', R σ y v → Qs v ⟨hh, c.G.g, c.G.d, t', c.G.os⟩) → wpAny c.G.M c.A tr Qs Es (c.G.S hh t)) (hq : Q y st) : FT c R tr st Q :=
  fun σ hh t Qs Es I q => wpAny_tk (h σ hh t _ Es I.hr fun v t' hr (hl : c.G.t0 + t + 1 ≤ t') => by
    obtain ⟨t'', rfl⟩ := tk_at hl
    exact q σ hh t'' v y st hq I hr .refl)
theorem HT.pure' {α β : Type} {G : GC} {A : Around} {R : List Addr → β → α → Prop} {f : List Value → Sem α} {xs : List MV} {m : MH} {Q : β → MH → Prop} (y : β)
    (h : ∀ σ hh t vs (Qs : α → Shared → Prop) Es, HRels G σ m hh → VRels G.N σ xs vs → (∀ v t', R σ y v → Qs v ⟨hh, G.g, G.d, t', G.os⟩) → wpAny G.M A (f vs) Qs Es (G.S hh t)) (hq : Q y m) : HT G A R f xs m Q :=
  fun σ hh t vs Qs Es I V q => wpAny_tk (h σ hh t vs _ Es I V fun v t' hr (hl : G.t0 + t + 1 ≤ t') => by
    obtain ⟨t'', rfl⟩ := tk_at hl
    exact q σ hh t'' v y m hq I hr .refl)
inductive Slot : List (Str × NameKind) → List (Option MV) → Str → NameKind → MV → Prop
  | head {x k v ns us} : Slot ((x, k) :: ns) (some v :: us) x k v
  | tail {x k v p u ns us} : Slot ns us x k v → Slot (p :: ns) (u :: us) x k v
inductive Put : List (Str × NameKind) → List (Option MV) → Str → MV → List (Option MV) → Prop
  | headL {x v u ns us} : Put ((x, .local) :: ns) (u :: us) x v (some v :: us)
  | headC {x v u ns us} : Put ((x, .cell) :: ns) (u :: us) x v (some v :: us)
  | tail {x v p u ns us us'} : Put ns us x v us' → Put (p :: ns) (u :: us) x v (u :: us')
inductive Glob : List (Str × NameKind) → Str → Prop
  | head {x ns} : Glob ((x, .globalImplicit) :: ns) x
  | tail {x p ns} : Glob ns x → Glob (p :: ns) x
theorem Slot.at {ns us x k v} (h : Slot ns us x k v) : ∃ i : Nat, ns[i]? = some (x, k) ∧ us[i]? = some (some v) := by
  induction h with
  | head => exact ⟨0, rfl, rfl⟩
  | tail _ ih => obtain ⟨i, a, b⟩ := ih; exact ⟨i + 1, a, b⟩
theorem Put.at {ns us x v us'} (h : Put ns us x v us') : ∃ (i : Nat) (k : NameKind), (k = .local ∨ k = .cell) ∧ ns[i]? = some (x, k) ∧ i < us.length ∧ us' = us.set i (some v) := by
  induction h with
  | headL => exact ⟨0, _, .inl rfl, rfl, Nat.zero_lt_succ _, rfl⟩
  | headC => exact ⟨0, _, .inr rfl, rfl, Nat.zero_lt_succ _, rfl⟩
  | tail _ ih => obtain ⟨i, k, e, a, b, r⟩ := ih; exact ⟨i + 1, k, e, a, Nat.succ_lt_succ b, by rw [r]; rfl⟩
theorem Glob.at {ns x} (h : Glob ns x) : ∃ i : Nat, ns[i]? = some (x, .globalImplicit) := by
  induction h with
  | head => exact ⟨0, rfl⟩
  | tail _ ih => obtain ⟨i, a⟩ := ih; exact ⟨i + 1, a⟩
theorem lookup_nodup {α : Type} : ∀ {l : List (Str × α)}, (l.map (·.1)).Nodup → ∀ {i : Nat} {x : Str} {y : α}, l[i]? = some (x, y) → l.lookup x = some y
  | (k, v) :: r, hn, 0, x, y, e => by cases e; simp
  | (k, v) :: r, hn, i + 1, x, y, e => by
    have e' : r[i]? = some (x, y) := by simpa using e
    have hm : x ∈ r.map (·.1) := List.mem_map.mpr ⟨_, List.mem_of_getElem? e', rfl⟩
    have hne : (x == k) = false := by
      rw [beq_eq_false_iff_ne]
      rintro rfl
      exact (List.nodup_cons.mp hn).1 hm
    rw [List.lookup_cons, hne]
    exact lookup_nodup (List.nodup_cons.mp hn).2 e'
theorem names_inj {l : List (Str × NameKind)} (hn : (l.map (·.1)).Nodup) {i j : Nat} {x : Str} {k k' : NameKind} (e : l[i]? = some (x, k)) (e' : l[j]? = some (x, k')) : i = j := by
  obtain ⟨hi, ei⟩ := List.getElem?_eq_some_iff.mp e
  obtain ⟨hj, ej⟩ := List.getElem?_eq_some_iff.mp e'
  have hi' : i < (l.map (·.1)).length := by simpa using hi
  have hj' : j < (l.map (·.1)).length := by simpa using hj
  refine (List.getElem_inj (h₀ := hi') (h₁ := hj') hn).mp ?_
  rw [List.getElem_map, List.getElem_map, ei, ej]
noncomputable def GlobIs (G : GC) (x : Str) (v : Value) : Prop :=
  isStat G.N v ∧ ∀ σ m h, HRels G σ m h → (∃ mg, h.Ns mainGlobals mg ∧ (mg x = some v ∨ (mg x = none ∧ ∃ mb, h.Ns builtinsNs mb ∧ mb x = some v)))
noncomputable def LoadTo (c : Cx) (x : Str) (st : St) (Q : MV → St → Prop) : Prop := FT c (RV c.G) (loadName c.env x) st Q
theorem ld_name {c : Cx} {x : Str} {k : NameKind} {v : MV} {st : St} {Q : MV → St → Prop} (hc : c.Ok) (hs : Slot c.names st.vars x k v) (hk : k = .local ∨ k = .cell ∨ k = .free) (hq : Q v st) : LoadTo c x st Q := by
  intro σ h t Qs Es I q
  obtain ⟨i, e1, e2⟩ := hs.at
  have hkind := hc.rel i x k e1
  rcases hk with rfl | hk
  · have hkind : c.env.kindOf x = some .local := hkind.elim id fun z => (nomatch z.1)
    obtain ⟨m, n, r⟩ := I.fr.loc
    obtain ⟨v', a, b⟩ := r i x v e1 e2
    exact wpAny_loadName_local hc.kind hkind n a (q σ h t v' v st hq I b .refl)
  · obtain ⟨a, v', _, e, z, w⟩ := I.fr.celv i x k v hk e1 e2
    have hkind : c.env.kindOf x = some .cell ∨ c.env.kindOf x = some .free := by
      rcases hk with rfl | rfl
      · exact hkind.elim .inl fun z => (nomatch z.1)
      · exact hkind.elim .inr fun z => .inl z.2
    rcases hkind with hkind | hkind
    · exact wpAny_loadName_cell hc.kind hkind e z (q σ h t v' v st hq I w .refl)
    · exact wpAny_loadName_free hc.kind hkind e z (q σ h t v' v st hq I w .refl) (hc.cdict _ (List.mem_of_getElem? e1))
theorem ev_name {c : Cx} {x : Str} {p : Pos} {k : NameKind} {v : MV} {st : St} {Q : MV → St → Prop} (hc : c.Ok) (hs : Slot c.names st.vars x k v) (hk : k = .local ∨ k = .cell ∨ k = .free) (hq : Q v st) : EvalTo c (.Name x p) st Q := by
  intro σ h t Qs Es I q
  obtain ⟨i, e1, _⟩ := hs.at
  exact wpAny_Name (ld_name hc hs hk hq σ h t Qs Es I q) (hc.dbg _ (List.mem_of_getElem? e1))
theorem ev_glob {c : Cx} {x : Str} {p : Pos} {v : Value} {st : St} {Q : MV → St → Prop} (hc : c.Ok) (hs : Glob c.names x) (hg : GlobIs c.G x v) (hq : Q (.st v) st) : EvalTo c (.Name x p) st Q := by
  intro σ h t Qs Es I q
  obtain ⟨i, e1⟩ := hs.at
  have hd := hc.dbg _ (List.mem_of_getElem? e1)
  have hkind : c.env.kindOf x = some .globalImplicit := (hc.rel i x _ e1).elim id fun z => (nomatch z.1)
  have fin := q σ h t v (.st v) st hq I ⟨rfl, hg.1⟩ .refl
  obtain ⟨mg, n, r⟩ := hg.2 σ st.m h I.hr
  refine Name_function_global hc.kind hkind ?_ hd
  rcases r with r | ⟨r, mb, n', r'⟩
  · exact loadGlobal_global (by rw [hc.glob]; exact n) r fin
  · exact loadGlobal_builtin (by rw [hc.glob]; exact n) r (by rw [hc.blt]; exact n') r' fin
theorem store_ {c : Cx} {x : Str} {mv : MV} {st : St} {vars' : List (Option MV)} (hc : c.Ok) (hs : Put c.names st.vars x mv vars') {σ : List Addr} {h : Heap} {t : Nat} {v : Value} {Qs : Unit → Shared → Prop} {Es : Value → Shared → Prop}
    (I : Inv c σ st h) (V : VRel c.G.N σ mv v) (q : ∀ h' t', Inv c σ { st with vars := vars' } h' → Ext c.G c.own σ σ h h' → Qs () (c.G.S h' t')) : wpAny c.G.M c.A (storeName c.env x v) Qs Es (c.G.S h t) := by
  obtain ⟨i, k, hk, e1, hi, rfl⟩ := hs.at
  have hkind : c.env.kindOf x = some k := (hc.rel i x k e1).elim id fun z => by rcases hk with rfl | rfl <;> cases z.1
  have ext : ∀ a h', a ∈ c.own → Heap.SameBut a h h' → Ext c.G c.own σ σ h h' := fun a h' ha hs => ⟨fun _ _ e => e, fun _ z => .inl z, by rw [hs.1]; exact Nat.le_refl _, fun b o _ h2 _ e => (hs.2 b fun z => h2 (z ▸ ha)).trans e⟩
  have hrel : ∀ a h', a ∈ c.fp → Heap.SameBut a h h' → HRels c.G σ st.m h' := fun a h' ha hs => I.hr.same (fun b o hb e => (hs.2 b fun z => by
    subst z
    rcases hb with hb | hb
    · exact I.apart _ ha hb
    · exact Nat.lt_irrefl _ (Nat.lt_of_lt_of_le hb (hc.low _ ha))).trans e) (by rw [hs.1]; exact Nat.le_refl _)
  have other : ∀ (j : Nat) y k' w, c.names[j]? = some (y, k') → (st.vars.set i (some mv))[j]? = some (some w) → (y = x ∧ k' = k ∧ w = mv) ∨ (y ≠ x ∧ st.vars[j]? = some (some w)) := fun j y k' w e f => by
    by_cases hij : i = j
    · subst hij
      rw [e1] at e; cases e
      rw [List.getElem?_set_self hi] at f
      exact .inl ⟨rfl, rfl, (Option.some.inj (Option.some.inj f)).symm⟩
    · rw [List.getElem?_set_ne hij] at f
      refine .inr ⟨fun z => hij ?_, f⟩
      subst z
      exact names_inj hc.nodup e1 e
  rcases hk with rfl | rfl
  · obtain ⟨m, n, r⟩ := I.fr.loc
    refine wpAny_storeName_local hkind n (fun h' hn' hs' => q h' (t + 1) ⟨hrel _ h' hc.Lfp hs', ⟨by rw [List.length_set]; exact I.fr.len, ⟨_, hn', fun j y w e f => ?_⟩, fun a ha => by rw [hs'.1]; exact I.fr.alive a ha, fun p hp hf => ?_, fun j y k' w hk' e f => ?_⟩, I.apart, I.lnk⟩ (ext _ _ hc.Lown hs')) (by rw [hc.kind]; rfl)
    · rcases other j y _ w e f with ⟨rfl, _, rfl⟩ | ⟨hy, f⟩
      · exact ⟨v, by rw [if_pos rfl], V⟩
      · obtain ⟨v', a, b⟩ := r j y w e f
        exact ⟨v', by rw [if_neg hy]; exact a, b⟩
    · obtain ⟨w, z⟩ := I.fr.cel p hp hf
      exact ⟨w, z.sameBut hs' (hc.Lcell p hp)⟩
    · rcases other j y _ w e f with ⟨rfl, hk, rfl⟩ | ⟨hy, f⟩
      · rw [hk] at hk'; rcases hk' with hk' | hk' <;> cases hk'
      · obtain ⟨a, v', hf, e', z, u⟩ := I.fr.celv j y k' w hk' e f
        exact ⟨a, v', hf, e', z.sameBut hs' (hc.Lcell _ (mem_of_lookup e')), u⟩
  · obtain ⟨a, hao, ha⟩ := hc.ownc i x e1
    have hmem := mem_of_lookup ha
    have hafp : a ∈ c.fp := hc.sub a hao
    obtain ⟨v₀, z₀⟩ := I.fr.cel _ hmem hafp
    refine wpAny_storeName_cell hc.kind hkind ha z₀ fun h' hc' hs' => q h' _ ⟨hrel _ h' hafp hs', ⟨by rw [List.length_set]; exact I.fr.len, ?_, fun a ha => by rw [hs'.1]; exact I.fr.alive a ha, fun p hp hf => ?_, fun j y k' w hk' e f => ?_⟩, I.apart, I.lnk⟩ (ext _ _ hao hs')
    · obtain ⟨m, n, r⟩ := I.fr.loc
      refine ⟨m, n.sameBut hs' (hc.Lcell _ hmem).symm, fun j y w e f => ?_⟩
      rcases other j y _ w e f with ⟨_, hk, _⟩ | ⟨hy, f⟩
      · cases hk
      · exact r j y w e f
    · by_cases hpa : p.2 = a
      · exact ⟨_, by rw [hpa]; exact hc'⟩
      · obtain ⟨w, z⟩ := I.fr.cel p hp hf
        exact ⟨w, z.sameBut hs' hpa⟩
    · rcases other j y _ w e f with ⟨rfl, _, rfl⟩ | ⟨hy, f⟩
      · exact ⟨a, v, hafp, ha, hc', V⟩
      · obtain ⟨a', v', hf, e', z, u⟩ := I.fr.celv j y k' w hk' e f
        refine ⟨a', v', hf, e', z.sameBut hs' fun z => hy ?_, u⟩
        subst z
        exact name_of_addr hc.cells (mem_of_lookup e') hmem
section
variable {c : Cx} {st : St}
theorem ev_int {i : Int} {k : Nat} {p : Pos} {Q : MV → St → Prop} (hq : Q (.int i) st) : EvalTo c (.Constant (.int i) k p) st Q :=
  FT.pure' (.int i) (fun _ _ _ _ _ _ q => wpAny_Constant_int (q _ _ ⟨_, rfl⟩)) hq
theorem ev_str {x : Str} {k : Nat} {p : Pos} {Q : MV → St → Prop} (hq : Q (.str x) st) : EvalTo c (.Constant (.str x) k p) st Q :=
  FT.pure' (.str x) (fun _ _ _ _ _ _ q => wpAny_Constant_str (q _ _ ⟨_, rfl⟩)) hq
theorem ev_none {k : Nat} {p : Pos} {Q : MV → St → Prop} (hq : Q .none st) : EvalTo c (.Constant .none k p) st Q :=
  FT.pure' .none (fun _ _ _ _ _ _ q => wpAny_Constant_none (q _ _ rfl)) hq
theorem ev_bool {b : Bool} {k : Nat} {p : Pos} {Q : MV → St → Prop} (hq : Q (.bool b) st) : EvalTo c (.Constant (.bool b) k p) st Q :=
  FT.pure' (.bool b) (fun _ _ _ _ _ _ q => wpAny_Constant_bool (q _ _ rfl)) hq
noncomputable abbrev BinT (c : Cx) (op : Operator) (a b : MV) (st : St) (Q : MV → St → Prop) : Prop := HT c.G c.A (RV c.G) (ap2 (binaryOp op)) [a, b] st.m fun y m => Q y { st with m := m }
noncomputable abbrev InT (c : Cx) (op : Operator) (a b : MV) (st : St) (Q : MV → St → Prop) : Prop := HT c.G c.A (RV c.G) (ap2 (inplaceOp op)) [a, b] st.m fun y m => Q y { st with m := m }
noncomputable abbrev CmpT (c : Cx) (op : CmpOp) (a b : MV) (st : St) (Q : MV → St → Prop) : Prop := HT c.G c.A (RV c.G) (ap2 (compareOp op)) [a, b] st.m fun y m => Q y { st with m := m }
noncomputable abbrev UnT (c : Cx) (op : UnaryOp) (a : MV) (st : St) (Q : MV → St → Prop) : Prop := HT c.G c.A (RV c.G) (ap1 (unaryOp op)) [a] st.m fun y m => Q y { st with m := m }
noncomputable abbrev TruT (c : Cx) (a : MV) (st : St) (Q : Bool → St → Prop) : Prop := HT c.G c.A RB (ap1 truthy) [a] st.m fun y m => Q y { st with m := m }
noncomputable abbrev CallT (c : Cx) (f : MV) (as : List MV) (st : St) (Q : MV → St → Prop) : Prop := HT c.G c.A (RV c.G) callV (f :: as) st.m fun y m => Q y { st with m := m }
section at_
variable {c : Cx} {st : St} {σ : List Addr} {hh : Heap} {t : Nat} {Es : Value → Shared → Prop}
theorem TruT.at {a : MV} {Q : Bool → St → Prop} (hc : c.Ok) (h : TruT c a st Q) {v : Value} {Qs : Bool → Shared → Prop} (I : Inv c σ st hh) (V : VRel c.G.N σ a v)
    (q : ∀ σ' h' t' b st', Q b st' → Inv c σ' st' h' → Ext c.G c.own σ σ' hh h' → Qs b (c.G.S h' t')) : wpAny c.G.M c.A (truthy v) Qs Es (c.G.S hh t) :=
  HT.at (vs := [v]) hc h I ⟨V, trivial⟩ fun σ' h' t' b y st' hq I' V' E' => by cases V'; exact q σ' h' t' b st' hq I' E'
theorem CmpT.at {op : CmpOp} {a b : MV} {Q : MV → St → Prop} (hc : c.Ok) (h : CmpT c op a b st Q) {v u : Value} {Qs : Value → Shared → Prop} (I : Inv c σ st hh) (V : VRel c.G.N σ a v) (U : VRel c.G.N σ b u)
    (q : ∀ σ' h' t' v y st', Q y st' → Inv c σ' st' h' → VRel c.G.N σ' y v → Ext c.G c.own σ σ' hh h' → Qs v (c.G.S h' t')) : wpAny c.G.M c.A (compareOp op v u) Qs Es (c.G.S hh t) :=
  HT.at (vs := [v, u]) hc h I ⟨V, U, trivial⟩ q
theorem CallT.at {f : MV} {as : List MV} {Q : MV → St → Prop} (hc : c.Ok) (h : CallT c f as st Q) {v : Value} {us : List Value} {Qs : Value → Shared → Prop} (I : Inv c σ st hh) (V : VRel c.G.N σ f v) (U : VRels c.G.N σ as us)
    (q : ∀ σ' h' t' v y st', Q y st' → Inv c σ' st' h' → VRel c.G.N σ' y v → Ext c.G c.own σ σ' hh h' → Qs v (c.G.S h' t')) : wpAny c.G.M c.A (call v us []) Qs Es (c.G.S hh t) :=
  HT.at (vs := v :: us) hc h I ⟨V, U⟩ q
end at_
theorem ev_bin {l r : Expr} {op : Operator} {p : Pos} {Q : MV → St → Prop} (hc : c.Ok)
    (h : EvalTo c l st fun a st₁ => EvalTo c r st₁ fun b st₂ => BinT c op a b st₂ Q) : EvalTo c (.BinOp l op r p) st Q := by
  intro σ hh t Qs Es I q
  refine wpAny_BinOp (h σ hh t _ _ I fun σ₁ h₁ t₁ va a st₁ k₁ I₁ V₁ E₁ => k₁ σ₁ h₁ t₁ _ _ I₁ fun σ₂ h₂ t₂ vb b st₂ k₂ I₂ V₂ E₂ => ?_)
  exact HT.at (vs := [va, vb]) hc k₂ I₂ ⟨V₁.mono E₂.sub, V₂, trivial⟩ fun σ' h' t' v y st' hq I' V' E' => q σ' h' t' v y st' hq I' V' ((E₁.trans E₂).trans E')
theorem ev_cmp {l r : Expr} {op : CmpOp} {p : Pos} {Q : MV → St → Prop} (hc : c.Ok)
    (h : EvalTo c l st fun a st₁ => EvalTo c r st₁ fun b st₂ => CmpT c op a b st₂ Q) (hm : behindInMarks op r = false := by with_unfolding_all rfl) : EvalTo c (.Compare l [op] [r] p) st Q := by
  intro σ hh t Qs Es I q
  refine wpAny_Compare1 (h σ hh t _ _ I fun σ₁ h₁ t₁ va a st₁ k₁ I₁ V₁ E₁ => k₁ σ₁ h₁ t₁ _ _ I₁ fun σ₂ h₂ t₂ vb b st₂ k₂ I₂ V₂ E₂ => ?_) hm
  exact HT.at (vs := [va, vb]) hc k₂ I₂ ⟨V₁.mono E₂.sub, V₂, trivial⟩ fun σ' h' t' v y st' hq I' V' E' => q σ' h' t' v y st' hq I' V' ((E₁.trans E₂).trans E')
theorem ev_un {x : Expr} {op : UnaryOp} {p : Pos} {Q : MV → St → Prop} (hc : c.Ok)
    (h : EvalTo c x st fun a st₁ => UnT c op a st₁ Q) : EvalTo c (.UnaryOp op x p) st Q := by
  intro σ hh t Qs Es I q
  refine wpAny_UnaryOp (h σ hh t _ _ I fun σ₁ h₁ t₁ va a st₁ k₁ I₁ V₁ E₁ => ?_)
  exact HT.at (vs := [va]) hc k₁ I₁ ⟨V₁, trivial⟩ fun σ' h' t' v y st' hq I' V' E' => q σ' h' t' v y st' hq I' V' (E₁.trans E')
theorem ev_ife {x a b : Expr} {p : Pos} {Q : MV → St → Prop}
    (h : TestTo c x st fun z st₁ => if z then EvalTo c a st₁ Q else EvalTo c b st₁ Q) : EvalTo c (.IfExp x a b p) st Q := by
  intro σ hh t Qs Es I q
  refine wpAny_IfExp (h σ hh t _ _ I fun σ₁ h₁ t₁ v z st₁ k₁ I₁ V₁ E₁ => ?_)
  cases V₁
  cases v with
  | true => exact k₁ σ₁ h₁ t₁ _ _ I₁ fun σ' h' t' v y st' hq I' V' E' => q σ' h' t' v y st' hq I' V' (E₁.trans E')
  | false => exact k₁ σ₁ h₁ t₁ _ _ I₁ fun σ' h' t' v y st' hq I' V' E' => q σ' h' t' v y st' hq I' V' (E₁.trans E')
noncomputable def BoolTo (c : Cx) (op : BoolOp) (es : List Expr) (st : St) (Q : MV → St → Prop) : Prop := ∀ pos, FT c (RV c.G) (boolOp pos op (evalEach es c.env)) st Q
theorem ev_boolop {op : BoolOp} {es : List Expr} {p : Pos} {Q : MV → St → Prop} (h : BoolTo c op es st Q) : EvalTo c (.BoolOp op es p) st Q := h p
theorem bool_one {op : BoolOp} {e : Expr} {Q : MV → St → Prop} (h : EvalTo c e st Q) : BoolTo c op [e] st Q := fun _ => h
theorem bool_and {e e' : Expr} {es : List Expr} {Q : MV → St → Prop} (hc : c.Ok)
    (h : EvalTo c e st fun a st₁ => TruT c a st₁ fun z st₂ => if z then BoolTo c .And (e' :: es) st₂ Q else Q a st₂) : BoolTo c .And (e :: e' :: es) st Q := by
  intro pos σ hh t Qs Es I q
  show wpAny _ _ (do
    let v ← eval e c.env
    standAt pos
    let t ← holding [v] (truthy v)
    match BoolOp.And, t with
    | .And, false | .Or, true => pure v
    | _, _ => boolOp pos .And (evalEach (e' :: es) c.env)) _ _ _
  refine wpAny_bind (h σ hh t _ _ I fun σ₁ h₁ t₁ va a st₁ k₁ I₁ V₁ E₁ => wpAny_bind (wpAny_standAt (wpAny_bind (wpAny_holding ?_))))
  refine TruT.at hc k₁ I₁ V₁ fun σ₂ h₂ t₂ z st₂ k₂ I₂ E₂ => ?_
  cases z with
  | false => exact wpAny_pure (q σ₂ h₂ t₂ va a st₂ k₂ I₂ (V₁.mono E₂.sub) (E₁.trans E₂))
  | true => exact k₂ pos σ₂ h₂ t₂ _ _ I₂ fun σ' h' t' v y st' hq I' V' E' => q σ' h' t' v y st' hq I' V' ((E₁.trans E₂).trans E')
theorem te_cmp {l r : Expr} {op : CmpOp} {p : Pos} {Q : Bool → St → Prop} (hc : c.Ok)
    (h : EvalTo c l st fun a st₁ => EvalTo c r st₁ fun b st₂ => CmpT c op a b st₂ fun y st₃ => TruT c y st₃ Q) (hm : behindInMarks op r = false := by with_unfolding_all rfl) : TestTo c (.Compare l [op] [r] p) st Q := by
  intro σ hh t Qs Es I q
  refine wpAny_isTrue_Compare1 (h σ hh t _ _ I fun σ₁ h₁ t₁ va a st₁ k₁ I₁ V₁ E₁ => k₁ σ₁ h₁ t₁ _ _ I₁ fun σ₂ h₂ t₂ vb b st₂ k₂ I₂ V₂ E₂ => ?_) hm
  refine CmpT.at hc k₂ I₂ (V₁.mono E₂.sub) V₂ fun σ₃ h₃ t₃ v y st₃ k₃ I₃ V₃ E₃ => ?_
  exact TruT.at hc k₃ I₃ V₃ fun σ' h' t' b st' hq I' E' => q σ' h' t' b b st' hq I' rfl (((E₁.trans E₂).trans E₃).trans E')
theorem te_not {x : Expr} {p : Pos} {Q : Bool → St → Prop} (h : TestTo c x st fun z st₁ => Q (!z) st₁) : TestTo c (.UnaryOp .Not x p) st Q := by
  intro σ hh t Qs Es I q
  refine wpAny_isTrue_Not (h σ hh t _ _ I fun σ' h' t' v y st' hq I' V' E' => ?_)
  cases V'
  exact q σ' h' t' _ _ st' hq I' rfl E'
noncomputable def plainTest : Expr → Bool
  | .Name .. => true
  | .Call .. => true
  | .Attribute .. => true
  | .Subscript .. => true
  | _ => false
theorem te_val {x : Expr} {Q : Bool → St → Prop} (hc : c.Ok) (h : EvalTo c x st fun a st₁ => TruT c a st₁ Q) (he : plainTest x = true := by rfl) : TestTo c x st Q := by
  intro σ hh t Qs Es I q
  refine wpAny_isTrue_value (h σ hh t _ _ I fun σ₁ h₁ t₁ va a st₁ k₁ I₁ V₁ E₁ => ?_) (by cases x <;> first | rfl | cases he)
  exact HT.at (vs := [va]) hc k₁ I₁ ⟨V₁, trivial⟩ fun σ' h' t' v y st' hq I' V' E' => q σ' h' t' v y st' hq I' V' (E₁.trans E')
noncomputable def AllTo (c : Cx) (op : BoolOp) (es : List Expr) (st : St) (Q : Bool → St → Prop) : Prop := FT c RB (allTrue op es c.env) st Q
theorem te_bool {op : BoolOp} {es : List Expr} {p : Pos} {Q : Bool → St → Prop} (h : AllTo c op es st Q) : TestTo c (.BoolOp op es p) st Q := by
  intro σ hh t Qs Es I q
  exact wpAny_isTrue_BoolOp (h σ hh t _ _ I q)
theorem all_and_nil {Q : Bool → St → Prop} (h : Q true st) : AllTo c .And [] st Q := fun σ hh t _ _ I q => wpAny_allTrue_And_nil (q σ hh t _ _ st h I rfl .refl)
theorem all_or_nil {Q : Bool → St → Prop} (h : Q false st) : AllTo c .Or [] st Q := fun σ hh t _ _ I q => wpAny_allTrue_Or_nil (q σ hh t _ _ st h I rfl .refl)
theorem all_and {x : Expr} {es : List Expr} {Q : Bool → St → Prop} (h : TestTo c x st fun z st₁ => if z then AllTo c .And es st₁ Q else Q false st₁) : AllTo c .And (x :: es) st Q := by
  intro σ hh t Qs Es I q
  refine wpAny_allTrue_And_cons (h σ hh t _ _ I fun σ₁ h₁ t₁ v z st₁ k₁ I₁ V₁ E₁ => ?_)
  cases V₁
  cases v with
  | true => exact k₁ σ₁ h₁ t₁ _ _ I₁ fun σ' h' t' v y st' hq I' V' E' => q σ' h' t' v y st' hq I' V' (E₁.trans E')
  | false => exact q σ₁ h₁ t₁ _ _ st₁ k₁ I₁ rfl E₁
theorem all_or {x : Expr} {es : List Expr} {Q : Bool → St → Prop} (h : TestTo c x st fun z st₁ => if z then Q true st₁ else AllTo c .Or es st₁ Q) : AllTo c .Or (x :: es) st Q := by
  intro σ hh t Qs Es I q
  refine wpAny_allTrue_Or_cons (h σ hh t _ _ I fun σ₁ h₁ t₁ v z st₁ k₁ I₁ V₁ E₁ => ?_)
  cases V₁
  cases v with
  | true => exact q σ₁ h₁ t₁ _ _ st₁ k₁ I₁ rfl E₁
  | false => exact k₁ σ₁ h₁ t₁ _ _ I₁ fun σ' h' t' v y st' hq I' V' E' => q σ' h' t' v y st' hq I' V' (E₁.trans E')
noncomputable def notStar : Expr → Bool
  | .Starred .. => false
  | _ => true
theorem starEach_cons {e : Expr} {es : List Expr} {env : Env} (h : notStar e = true) : starEach (e :: es) env = (false, eval e env) :: starEach es env := by cases e <;> first | rfl | cases h
theorem args_nil {Q : List MV → St → Prop} (h : Q [] st) : ArgsTo c [] st Q := fun _ σ hh t _ _ I q => wpAny_items_nil (q σ hh t _ [] st h I trivial .refl)
theorem args_cons {e : Expr} {es : List Expr} {Q : List MV → St → Prop} (h : EvalTo c e st fun a st₁ => ArgsTo c es st₁ fun as st₂ => Q (a :: as) st₂) (he : notStar e = true := by rfl) : ArgsTo c (e :: es) st Q := by
  intro pos σ hh t Qs Es I q
  refine wpAny_items_cons (h σ hh t _ _ I fun σ₁ h₁ t₁ va a st₁ k₁ I₁ V₁ E₁ => k₁ pos σ₁ h₁ t₁ _ _ I₁ fun σ' h' t' v y st' hq I' V' E' => ?_) (starEach_cons he)
  exact q σ' h' t' _ (a :: y) st' hq I' ⟨V₁.mono E'.sub, V'⟩ (E₁.trans E')
noncomputable def Keeps (G : GC) (f : MV) (m : MH) : Prop :=
  ∀ σ h v, HRels G σ m h → VRel G.N σ f v → ∃ k, (k = Keeper.frame ∨ k = Keeper.machine ∨ k = Keeper.boundFrame) ∧ Looks G.M h (keeperOf v) k
theorem keeps_builtin {G : GC} {id : String} {m : MH} : Keeps G (.st (.builtin id)) m := fun _ _ _ _ V => ⟨.machine, .inr (.inl rfl), by rw [V.1]; exact Looks.of_pure rfl⟩
theorem keeps_type {G : GC} {n : String} {m : MH} : Keeps G (.st (.type n)) m := fun _ _ _ _ V => ⟨.machine, .inr (.inl rfl), by rw [V.1]; exact Looks.of_pure rfl⟩
theorem any_items {es : List Expr} {env : Env} {pos : Pos} (h : es.all notStar = true) : (backTo pos (starEach es env)).any (·.1) = false := by
  induction es with
  | nil => rfl
  | cons e es ih =>
    simp only [List.all_cons, Bool.and_eq_true] at h
    rw [starEach_cons h.1]
    show (false || (backTo pos (starEach es env)).any (·.1)) = false
    rw [Bool.false_or]; exact ih h.2
theorem callWith_cons {pos : Pos} {f : MV} {bs : List MV} {e : Expr} {es : List Expr} {Q : MV → St → Prop} (hc : c.Ok) (ha : (e :: es).all notStar = true)
    (h : ArgsTo c (e :: es) st fun as st₁ => Keeps c.G f st₁.m ∧ CallT c f (bs ++ as) st₁ Q) {σ : List Addr} {hh : Heap} {t : Nat} {v : Value} {vs : List Value} {Qs : Value → Shared → Prop} {Es : Value → Shared → Prop}
    (I : Inv c σ st hh) (V : VRel c.G.N σ f v) (Vs : VRels c.G.N σ bs vs)
    (q : ∀ σ' h' t' v y st', Q y st' → Inv c σ' st' h' → RV c.G σ' y v → Ext c.G c.own σ σ' hh h' → Qs v (c.G.S h' t')) :
    wpAny c.G.M c.A (callWith pos v vs (backTo pos (starEach (e :: es) c.env)) []) Qs Es (c.G.S hh t) := by
  refine callWith_of (P := fun h => ∃ k, (k = Keeper.frame ∨ k = Keeper.machine ∨ k = Keeper.boundFrame) ∧ Looks c.G.M h (keeperOf v) k) (by rw [any_items ha]; rfl) (fun _ x => x) ?_
  have := h pos σ hh t (fun us s => (∃ k, (k = Keeper.frame ∨ k = Keeper.machine ∨ k = Keeper.boundFrame) ∧ Looks c.G.M s.heap (keeperOf v) k) ∧ wpAny c.G.M c.A (call v (vs ++ us) []) Qs Es s) Es I
    (fun σ₁ h₁ t₁ us as st₁ k₁ I₁ V₁ E₁ => ⟨k₁.1 σ₁ h₁ v I₁.hr (V.mono E₁.sub),
      CallT.at hc k₁.2 I₁ (V.mono E₁.sub) ((Vs.mono E₁.sub).append V₁) fun σ' h' t' v y st' hq I' V' E' => q σ' h' t' v y st' hq I' V' (E₁.trans E')⟩)
  simp only [List.all_cons, Bool.and_eq_true] at ha
  rw [starEach_cons ha.1] at this ⊢
  exact evalArgs_plain this
theorem callWith_nil {pos : Pos} {f : MV} {bs : List MV} {Q : MV → St → Prop} (hc : c.Ok)
    (h : Keeps c.G f st.m ∧ CallT c f bs st Q) {σ : List Addr} {hh : Heap} {t : Nat} {v : Value} {vs : List Value} {Qs : Value → Shared → Prop} {Es : Value → Shared → Prop}
    (I : Inv c σ st hh) (V : VRel c.G.N σ f v) (Vs : VRels c.G.N σ bs vs)
    (q : ∀ σ' h' t' v y st', Q y st' → Inv c σ' st' h' → RV c.G σ' y v → Ext c.G c.own σ σ' hh h' → Qs v (c.G.S h' t')) :
    wpAny c.G.M c.A (callWith pos v vs (backTo pos (starEach [] c.env)) []) Qs Es (c.G.S hh t) := by
  refine callWith_of (P := fun h => ∃ k, (k = Keeper.frame ∨ k = Keeper.machine ∨ k = Keeper.boundFrame) ∧ Looks c.G.M h (keeperOf v) k) rfl (fun _ x => x) (evalArgs_nil3 ?_)
  exact ⟨h.1 σ hh v I.hr V, CallT.at (us := vs ++ []) hc h.2 I V (by rw [List.append_nil]; exact Vs) q⟩
noncomputable def notAttr : Expr → Bool
  | .Attribute .. => false
  | _ => true
theorem eval_call {f : Expr} {args : List Expr} {pos : Pos} {env : Env} (hf : notAttr f = true) : eval (.Call f args [] pos) env = (eval f env >>= fun v => callWith pos v [] (backTo pos (starEach args env)) []) := by
  cases f <;> first | rfl | cases hf
theorem ev_call {f e : Expr} {es : List Expr} {pos : Pos} {Q : MV → St → Prop} (hc : c.Ok)
    (h : EvalTo c f st fun fv st₁ => ArgsTo c (e :: es) st₁ fun as st₂ => Keeps c.G fv st₂.m ∧ CallT c fv as st₂ Q)
    (hf : notAttr f = true := by rfl) (ha : (e :: es).all notStar = true := by rfl) : EvalTo c (.Call f (e :: es) [] pos) st Q := by
  intro σ hh t Qs Es I q
  rw [eval_call hf]
  refine wpAny_bind (h σ hh t _ _ I fun σ₁ h₁ t₁ va a st₁ k₁ I₁ V₁ E₁ => ?_)
  exact callWith_cons (bs := []) hc ha k₁ I₁ V₁ trivial fun σ' h' t' v y st' hq I' V' E' => q σ' h' t' v y st' hq I' V' (E₁.trans E')
noncomputable def RM (G : GC) : List Addr → MV × List MV → Value × List Value → Prop := fun σ b a => VRel G.N σ b.1 a.1 ∧ VRels G.N σ b.2 a.2
noncomputable abbrev MethT (c : Cx) (name : Str) (o : MV) (st : St) (Q : MV × List MV → St → Prop) : Prop :=
  ∀ pl, HT c.G c.A (RM c.G) (ap1 fun v => getMethod v name pl) [o] st.m fun y m => Q y { st with m := m }
theorem MethT.at {σ : List Addr} {hh : Heap} {t : Nat} {Es : Value → Shared → Prop} {name : Str} {o : MV} {Q : MV × List MV → St → Prop} (hc : c.Ok) (h : MethT c name o st Q) {pl : Sem Bool} {v : Value} {Qs : Value × List Value → Shared → Prop} (I : Inv c σ st hh) (V : VRel c.G.N σ o v)
    (q : ∀ σ' h' t' f us y st', Q y st' → Inv c σ' st' h' → VRel c.G.N σ' y.1 f → VRels c.G.N σ' y.2 us → Ext c.G c.own σ σ' hh h' → Qs (f, us) (c.G.S h' t')) : wpAny c.G.M c.A (getMethod v name pl) Qs Es (c.G.S hh t) :=
  HT.at (vs := [v]) hc (h pl) I ⟨V, trivial⟩ fun σ' h' t' b y st' hq I' V' E' => q σ' h' t' b.1 b.2 y st' hq I' V'.1 V'.2 E'
theorem form_ok {args : List Expr} {env : Env} {pos : Pos} (ha : args.all notStar = true) (hl : args.length < 30) : methodCallForm (args.length + 0) (backTo pos (starEach args env)) [] = true := by
  unfold methodCallForm
  have h1 : (backTo pos (starEach args env)).all (fun x => !x.1) = true := by
    have := any_items (env := env) (pos := pos) ha
    rw [List.all_eq_not_any_not]
    simp only [Bool.not_not]
    rw [this]; rfl
  rw [h1]
  simp [hl]
noncomputable def plainBase : Expr → Bool
  | .Call (.Name id _) [] [] _ => id != "super"
  | _ => true
theorem base_ok {o : Expr} {attr : Str} {env : Env} {whole : Sem Value} (h : plainBase o = true) : attributeBase o attr env whole = whole := by
  cases o <;> try rfl
  rename_i f as ks pos
  cases f <;> try rfl
  rename_i id p
  cases as <;> try rfl
  cases ks <;> try rfl
  have hid : (id != "super") = true := h
  show (if (id != "super" || _ || _ || _) = true then _ else _) = _
  rw [hid]
  rfl
theorem eval_meth {o : Expr} {name : Str} {apos pos : Pos} {args : List Expr} {env : Env} (hb : plainBase o = true) (ha : args.all notStar = true) (hl : args.length < 30) (hline : (apos.endLine == pos.line) = true) :
    eval (.Call (.Attribute o name apos) args [] pos) env = (eval o env >>= fun ov => standAt apos.atName >>= fun _ => holding [ov] (getMethod ov name (do return (← importBound o env).getD true)) >>= fun fb => callWith pos fb.1 fb.2 (backTo pos (starEach args env)) []) := by
  rw [arm_eval_Call, base_ok hb]
  refine congrArg _ (funext fun ov => congrArg _ (funext fun _ => ?_))
  unfold methodCall
  have e0 : backToKw pos (keywordEach [] env) = [] := rfl
  rw [e0, show ([] : List Keyword).length = 0 from rfl, form_ok ha hl]
  unfold calleeOf methodCallPos
  rw [hline, if_pos rfl]
  refine congrArg _ (funext fun fb => ?_)
  rfl
theorem ev_meth {o e : Expr} {name : Str} {apos pos : Pos} {es : List Expr} {Q : MV → St → Prop} (hc : c.Ok)
    (h : EvalTo c o st fun ov st₁ => MethT c name ov st₁ fun fb st₂ => ArgsTo c (e :: es) st₂ fun as st₃ => Keeps c.G fb.1 st₃.m ∧ CallT c fb.1 (fb.2 ++ as) st₃ Q)
    (hb : plainBase o = true := by rfl) (ha : (e :: es).all notStar = true := by rfl) (hl : (e :: es).length < 30 := by decide) (hline : (apos.endLine == pos.line) = true := by rfl) : EvalTo c (.Call (.Attribute o name apos) (e :: es) [] pos) st Q := by
  intro σ hh t Qs Es I q
  rw [eval_meth hb ha hl hline]
  refine wpAny_bind (h σ hh t _ _ I fun σ₁ h₁ t₁ va a st₁ k₁ I₁ V₁ E₁ => wpAny_bind (wpAny_standAt (wpAny_bind (wpAny_holding ?_))))
  refine MethT.at hc k₁ I₁ V₁ fun σ₂ h₂ t₂ f us y st₂ k₂ I₂ V₂ U₂ E₂ => ?_
  exact callWith_cons hc ha k₂ I₂ V₂ U₂ fun σ' h' t' v y st' hq I' V' E' => q σ' h' t' v y st' hq I' V' ((E₁.trans E₂).trans E')
theorem ev_meth0 {o : Expr} {name : Str} {apos pos : Pos} {Q : MV → St → Prop} (hc : c.Ok)
    (h : EvalTo c o st fun ov st₁ => MethT c name ov st₁ fun fb st₂ => Keeps c.G fb.1 st₂.m ∧ CallT c fb.1 fb.2 st₂ Q)
    (hb : plainBase o = true := by rfl) (hline : (apos.endLine == pos.line) = true := by rfl) : EvalTo c (.Call (.Attribute o name apos) [] [] pos) st Q := by
  intro σ hh t Qs Es I q
  rw [eval_meth hb rfl (by decide) hline]
  refine wpAny_bind (h σ hh t _ _ I fun σ₁ h₁ t₁ va a st₁ k₁ I₁ V₁ E₁ => wpAny_bind (wpAny_standAt (wpAny_bind (wpAny_holding ?_))))
  refine MethT.at hc k₁ I₁ V₁ fun σ₂ h₂ t₂ f us y st₂ k₂ I₂ V₂ U₂ E₂ => ?_
  exact callWith_nil hc k₂ I₂ V₂ U₂ fun σ' h' t' v y st' hq I' V' E' => q σ' h' t' v y st' hq I' V' ((E₁.trans E₂).trans E')
noncomputable abbrev GetT (c : Cx) (name : Str) (o : MV) (st : St) (Q : MV → St → Prop) : Prop := HT c.G c.A (RV c.G) (ap1 fun v => getAttr v name true) [o] st.m fun y m => Q y { st with m := m }
theorem ev_attr {o : Expr} {name : Str} {pos : Pos} {Q : MV → St → Prop} (hc : c.Ok) (h : EvalTo c o st fun ov st₁ => GetT c name ov st₁ Q) (hb : plainBase o = true := by rfl) : EvalTo c (.Attribute o name pos) st Q := by
  intro σ hh t Qs Es I q
  rw [arm_eval_Attribute, base_ok hb]
  refine wpAny_bind (h σ hh t _ _ I fun σ₁ h₁ t₁ va a st₁ k₁ I₁ V₁ E₁ => wpAny_bind (wpAny_standAt (wpAny_bind (wpAny_holding ?_))))
  exact HT.at (vs := [va]) hc k₁ I₁ ⟨V₁, trivial⟩ fun σ' h' t' v y st' hq I' V' E' => wpAny_bind (wpAny_letTemporaryGo (wpAny_pure (q σ' h' t' v y st' hq I' V' (E₁.trans E'))))
noncomputable def notSlice : Expr → Bool
  | .Slice .. => false
  | _ => true
noncomputable abbrev IdxT (c : Cx) (o i : MV) (st : St) (Q : MV → St → Prop) : Prop := ∀ value slice, notSlice slice = true → HT c.G c.A (RV c.G) (ap2 (subscriptTail value slice)) [o, i] st.m fun y m => Q y { st with m := m }
theorem ev_sub {o i : Expr} {pos : Pos} {Q : MV → St → Prop} (hc : c.Ok) (h : EvalTo c o st fun ov st₁ => EvalTo c i st₁ fun iv st₂ => IdxT c ov iv st₂ Q) (hs : notSlice i = true := by rfl) : EvalTo c (.Subscript o i pos) st Q := by
  intro σ hh t Qs Es I q
  refine Subscript_ (h σ hh t _ _ I fun σ₁ h₁ t₁ va a st₁ k₁ I₁ V₁ E₁ => k₁ σ₁ h₁ t₁ _ _ I₁ fun σ₂ h₂ t₂ vb b st₂ k₂ I₂ V₂ E₂ => ?_)
  exact HT.at (vs := [va, vb]) hc (k₂ o i hs) I₂ ⟨V₁.mono E₂.sub, V₂, trivial⟩ fun σ' h' t' v y st' hq I' V' E' => q σ' h' t' v y st' hq I' V' ((E₁.trans E₂).trans E')
end
section
variable {c : Cx} {st : St}
theorem Inv.alloc {σ : List Addr} {h : Heap} (hc : c.Ok) (I : Inv c σ st h) {o : Obj} {mo : MO} (ho : ORel c.G.N (σ ++ [h.objs.size]) (h.push o) h.objs.size mo) :
    Inv c (σ ++ [h.objs.size]) { st with m := st.m.alloc mo } (h.push o) := I.step hc (I.hr.alloc ho) (Ext.alloc o)
theorem sub_snoc {σ : List Addr} {a : Addr} : Sub σ (σ ++ [a]) := fun i b e => by
  rw [List.getElem?_append_left (List.getElem?_eq_some_iff.mp e).1]; exact e
theorem ev_list {es : List Expr} {pos : Pos} {Q : MV → St → Prop} (hc : c.Ok) (h : ArgsTo c es st fun as st₁ => as.length ≤ sizeLine ∧ Q (.ref st₁.m.n) { st₁ with m := st₁.m.alloc (.list as) }) : EvalTo c (.List es pos) st Q := by
  intro σ hh t Qs Es I q
  refine wpAny_List (h pos σ hh t _ _ I fun σ₁ h₁ t₁ vs as st₁ k₁ I₁ V₁ E₁ => ⟨by rw [V₁.length]; exact k₁.1, ?_⟩)
  refine q _ _ _ _ _ _ k₁.2 (I₁.alloc hc ⟨_, _, Heap.get?_push_size _ rfl, ?_⟩) ⟨_, I₁.hr.last _, rfl⟩ (E₁.trans (Ext.alloc _))
  exact VRels.mono sub_snoc (by simpa using V₁)
theorem ev_tuple {es : List Expr} {k : Nat} {pos : Pos} {Q : MV → St → Prop} (hc : c.Ok) (h : ArgsTo c es st fun as st₁ => as.length ≤ sizeLine ∧ Q (.ref st₁.m.n) { st₁ with m := st₁.m.alloc (.tup as) }) : EvalTo c (.Tuple es k pos) st Q := by
  intro σ hh t Qs Es I q
  refine wpAny_Tuple (h pos σ hh t _ _ I fun σ₁ h₁ t₁ vs as st₁ k₁ I₁ V₁ E₁ => ⟨by rw [V₁.length]; exact k₁.1, ?_⟩)
  refine q _ _ _ _ _ _ k₁.2 (I₁.alloc hc ⟨_, _, Heap.get?_push_size _ rfl, ?_⟩) ⟨_, I₁.hr.last _, rfl⟩ (E₁.trans (Ext.alloc _))
  exact VRels.mono sub_snoc (by simpa using V₁)
theorem xs_nil {Q : MF → St → Prop} (h : Q .next st) : ExecsTo c [] st Q := fun σ hh t _ _ I q => wpAny_execs_nil (q σ hh t _ .next st h I rfl .refl)
theorem xs_cons {s : Stmt} {ss : List Stmt} {Q : MF → St → Prop} (h : ExecTo c s st fun f st₁ => match f with | .next => ExecsTo c ss st₁ Q | f => Q f st₁) : ExecsTo c (s :: ss) st Q := by
  intro σ hh t Qs Es I q
  refine wpAny_execs_cons (h σ hh t _ _ I fun σ₁ h₁ t₁ v f st₁ k₁ I₁ V₁ E₁ => ?_)
  cases f with
  | next => cases V₁; exact k₁ σ₁ h₁ t₁ _ _ I₁ fun σ' h' t' v y st' hq I' V' E' => q σ' h' t' v y st' hq I' V' (E₁.trans E')
  | brk => cases V₁; exact q σ₁ h₁ t₁ _ .brk st₁ k₁ I₁ rfl E₁
  | cont => cases V₁; exact q σ₁ h₁ t₁ _ .cont st₁ k₁ I₁ rfl E₁
  | ret x => obtain ⟨u, rfl, V₁⟩ := V₁; exact q σ₁ h₁ t₁ _ (.ret x) st₁ k₁ I₁ ⟨u, rfl, V₁⟩ E₁
noncomputable def notComp : Expr → Bool
  | .ListComp .. => false
  | .SetComp .. => false
  | .DictComp .. => false
  | _ => true
theorem swaps_no {e : Expr} (h : notComp e = true) (t : Option Expr) (l : Nat) (env : Env) : swapsWith e t l env = pure false := by cases e <;> first | rfl | cases h
theorem x_ret {e : Expr} {pos : Pos} {Q : MF → St → Prop} (h : EvalTo c e st fun v st₁ => Q (.ret v) st₁) : ExecTo c (.Return (some e) pos) st Q := by
  intro σ hh t Qs Es I q
  exact wpAny_Return_some (h σ hh t _ _ I fun σ' h' t' v y st' hq I' V' E' => q σ' h' t' _ (.ret y) st' hq I' ⟨v, rfl, V'⟩ E')
theorem x_brk {pos : Pos} {Q : MF → St → Prop} (h : Q .brk st) : ExecTo c (.Break pos) st Q := fun σ hh t _ _ I q => wpAny_Break (q σ hh t _ .brk st h I rfl .refl)
theorem x_cont {pos : Pos} {Q : MF → St → Prop} (h : Q .cont st) : ExecTo c (.Continue pos) st Q := fun σ hh t _ _ I q => wpAny_Continue (q σ hh t _ .cont st h I rfl .refl)
theorem x_expr {e : Expr} {pos : Pos} {Q : MF → St → Prop} (hc : c.Ok) (h : EvalTo c e st fun _ st₁ => Q .next st₁) (hn : notComp e = true := by rfl) : ExecTo c (.Expr e pos) st Q := by
  intro σ hh t Qs Es I q
  refine wpAny_Expr_any (h σ hh t _ _ I fun σ' h' t' v y st' hq I' V' E' => q σ' h' t' _ .next st' hq I' rfl E') ?_ (swaps_no hn _ _ _)
  unfold interactive; rw [hc.kind]; rfl
theorem x_if {x : Expr} {a b : List Stmt} {pos : Pos} {Q : MF → St → Prop} (h : TestTo c x st fun z st₁ => if z then ExecsTo c a st₁ Q else ExecsTo c b st₁ Q) : ExecTo c (.If x a b pos) st Q := by
  intro σ hh t Qs Es I q
  refine wpAny_If (h σ hh t _ _ I fun σ₁ h₁ t₁ v z st₁ k₁ I₁ V₁ E₁ => ?_)
  cases V₁
  cases v with
  | true => exact k₁ σ₁ h₁ t₁ _ _ I₁ fun σ' h' t' v y st' hq I' V' E' => q σ' h' t' v y st' hq I' V' (E₁.trans E')
  | false => exact k₁ σ₁ h₁ t₁ _ _ I₁ fun σ' h' t' v y st' hq I' V' E' => q σ' h' t' v y st' hq I' V' (E₁.trans E')
noncomputable abbrev PutT (c : Cx) (x : Str) (v : MV) (st : St) (Q : St → Prop) : Prop := ∃ vars', Put c.names st.vars x v vars' ∧ Q { st with vars := vars' }
theorem x_assign {x : Str} {e : Expr} {p pos : Pos} {Q : MF → St → Prop} (hc : c.Ok) (h : EvalTo c e st fun v st₁ => PutT c x v st₁ fun st₂ => Q .next st₂) (hn : notComp e = true := by rfl) : ExecTo c (.Assign [.Name x p] e pos) st Q := by
  intro σ hh t Qs Es I q
  refine wpAny_Assign_Name (h σ hh t _ _ I fun σ₁ h₁ t₁ v y st₁ k₁ I₁ V₁ E₁ => ?_) (swaps_no hn _ _ _)
  obtain ⟨vars', hp, hq⟩ := k₁
  exact store_ hc hp I₁ V₁ fun h' t' I' E' => q σ₁ h' t' _ .next _ hq I' rfl (E₁.trans E')
noncomputable def AsgTo (c : Cx) (target : Expr) (v : MV) (st : St) (Q : St → Prop) : Prop :=
  ∀ σ h t u (Qs : Unit → Shared → Prop) Es, Inv c σ st h → VRel c.G.N σ v u → (∀ σ' h' t' st', Q st' → Inv c σ' st' h' → Ext c.G c.own σ σ' h h' → Qs () (c.G.S h' t')) → wpAny c.G.M c.A (assign target c.env u) Qs Es (c.G.S h t)
theorem asg_name {x : Str} {p : Pos} {v : MV} {Q : St → Prop} (hc : c.Ok) (h : PutT c x v st Q) : AsgTo c (.Name x p) v st Q := by
  intro σ hh t u Qs Es I V q
  obtain ⟨vars', hp, hq⟩ := h
  exact wpAny_assign_Name (store_ hc hp I V fun h' t' I' E' => q σ h' t' _ hq I' E')
theorem x_assign3 {t₁ t₂ t₃ e : Expr} {pos : Pos} {Q : MF → St → Prop} (h : EvalTo c e st fun v st₁ => AsgTo c t₁ v st₁ fun st₂ => AsgTo c t₂ v st₂ fun st₃ => AsgTo c t₃ v st₃ fun st₄ => Q .next st₄)
    (he : (assignEach [t₁, t₂, t₃] c.env).map (·.2) = [assign t₁ c.env, assign t₂ c.env, assign t₃ c.env] := by rfl) (hw : swappedStores [t₁, t₂, t₃] e c.env = pure none := by rfl) : ExecTo c (.Assign [t₁, t₂, t₃] e pos) st Q := by
  intro σ hh t Qs Es I q
  refine wpAny_Assign_three (h σ hh t _ _ I fun σ₁ h₁ t₁ v y st₁ k₁ I₁ V₁ E₁ => ?_) he hw
  refine k₁ σ₁ h₁ t₁ v _ _ I₁ V₁ fun σ₂ h₂ t₂ st₂ k₂ I₂ E₂ => ?_
  refine k₂ σ₂ h₂ t₂ v _ _ I₂ (V₁.mono E₂.sub) fun σ₃ h₃ t₃ st₃ k₃ I₃ E₃ => ?_
  exact k₃ σ₃ h₃ t₃ v _ _ I₃ ((V₁.mono E₂.sub).mono E₃.sub) fun σ' h' t' st' hq I' E' => q σ' h' t' _ .next _ hq I' rfl (((E₁.trans E₂).trans E₃).trans E')
noncomputable def AsgsTo (c : Cx) : List Expr → List MV → St → (St → Prop) → Prop
  | [], _, st, Q => Q st
  | _ :: _, [], _, _ => False
  | e :: es, v :: vs, st, Q => AsgTo c e v st fun st₁ => AsgsTo c es vs st₁ Q
theorem assignEach_cons {e : Expr} {es : List Expr} {env : Env} (h : notStar e = true) : assignEach (e :: es) env = (false, assign e env) :: assignEach es env := by cases e <;> first | rfl | cases h
theorem assignEach_ok {env : Env} : ∀ {es : List Expr}, es.all notStar = true → (assignEach es env).length = es.length ∧ (assignEach es env).findIdx? (·.1) = none
  | [], _ => ⟨rfl, rfl⟩
  | e :: es, h => by
    simp only [List.all_cons, Bool.and_eq_true] at h
    rw [assignEach_cons h.1]
    obtain ⟨a, b⟩ := assignEach_ok (env := env) h.2
    exact ⟨by rw [List.length_cons, a, List.length_cons], by rw [List.findIdx?_cons, b]; rfl⟩
theorem asgs_run (hc : c.Ok) : ∀ {es : List Expr} {vs : List MV} {us : List Value} {st : St} {Q : St → Prop}, es.all notStar = true → vs.length = es.length → AsgsTo c es vs st Q →
    ∀ {σ : List Addr} {h : Heap} {t : Nat} {Qs : Unit → Shared → Prop} {Es : Value → Shared → Prop}, Inv c σ st h → VRels c.G.N σ vs us →
      (∀ σ' h' t' st', Q st' → Inv c σ' st' h' → Ext c.G c.own σ σ' h h' → Qs () (c.G.S h' t')) → wpAny c.G.M c.A (assignInOrder ((assignEach es c.env).map (·.2)) us) Qs Es (c.G.S h t)
  | [], vs, us, st, Q, _, _, H, σ, h, t, Qs, Es, I, _, q => by
    cases us with
    | nil => exact wpAny_assignInOrder_none (q σ h t st H I .refl)
    | cons _ _ => exact wpAny_pure (q σ h t st H I .refl)
  | e :: es, [], _, _, _, _, _, H, _, _, _, _, _, _, _, _ => H.elim
  | e :: es, v :: vs, [], st, Q, _, _, _, _, _, _, _, _, _, V, _ => V.elim
  | e :: es, v :: vs, u :: us, st, Q, hs, hl, H, σ, h, t, Qs, Es, I, V, q => by
    simp only [List.all_cons, Bool.and_eq_true] at hs
    rw [assignEach_cons hs.1]
    show wpAny _ _ (assignInOrder (assign e c.env :: (assignEach es c.env).map (·.2)) (u :: us)) _ _ _
    refine wpAny_assignInOrder_more (H σ h t u _ _ I V.1 fun σ₁ h₁ t₁ st₁ k₁ I₁ E₁ => ?_)
    exact asgs_run hc hs.2 (by simpa using hl) k₁ I₁ (VRels.mono E₁.sub V.2) fun σ' h' t' st' hq I' E' => q σ' h' t' st' hq I' (E₁.trans E')
theorem Ext.newest {G : GC} {own σ : List Addr} {h h' : Heap} (k : Heap.ExtBut h.objs.size h h') (hs : h.objs.size ≤ h'.objs.size) : Ext G own σ σ h h' :=
  ⟨fun _ _ e => e, fun _ z => .inl z, hs, fun b o _ _ _ e => k b o (Nat.ne_of_lt (Heap.lt_size e)) e⟩
theorem asg_tuple {es : List Expr} {k : Nat} {p : Pos} {i : Nat} {vs : List MV} {Q : St → Prop} (hc : c.Ok) (hi : st.m.H i = some (.tup vs)) (hl : vs.length = es.length) (h : AsgsTo c es vs st Q) (hs : es.all notStar = true := by rfl) :
    AsgTo c (.Tuple es k p) (.ref i) st Q := by
  intro σ hh t u Qs Es I V q
  obtain ⟨a, ea, rfl⟩ := V
  obtain ⟨us, n, ho, R⟩ := I.hr.obj i _ a hi ea
  obtain ⟨e1, e2⟩ := assignEach_ok (env := c.env) hs
  have hsz : (assignEach es c.env).length = us.size := by rw [e1, ← hl, ← R.length, Array.length_toList]
  rw [arm_assign_Tuple]
  unfold unpack
  rw [hsz, e2]
  refine wpAny_bind (wpAny_standAt (wpAny_bind (wpAny_holding (wpAny_sz (wpAny_unpackItems_tuple hc.hand ⟨_, ho, rfl, n, rfl⟩ fun h' he hs' => ?_)))))
  have E : Ext c.G [] σ σ hh h' := Ext.newest he hs'
  have k : ∀ b o, hh.get? b = some o → h'.get? b = some o := fun b o e => he b o (Nat.ne_of_lt (Heap.lt_size e)) e
  have I' := I.step hc (I.hr.same (fun b o _ e => k b o e) hs') E
  exact asgs_run hc hs hl h I' R fun σ' h'' t' st' hq I'' E' => q σ' h'' t' st' hq I'' ((E.weaken fun _ z => (nomatch z)).trans E')
theorem x_assignT {es : List Expr} {k : Nat} {tp pos : Pos} {e : Expr} {Q : MF → St → Prop} (h : EvalTo c e st fun v st₁ => AsgTo c (.Tuple es k tp) v st₁ fun st₂ => Q .next st₂)
    (hs : swapsWithSole [.Tuple es k tp] e pos.line c.env = pure false := by rfl) (hw : swappedStores [.Tuple es k tp] e c.env = pure none := by rfl) : ExecTo c (.Assign [.Tuple es k tp] e pos) st Q := by
  intro σ hh t Qs Es I q
  refine Assign_Tuple (h σ hh t _ _ I fun σ₁ h₁ t₁ v y st₁ k₁ I₁ V₁ E₁ => ?_) hs hw
  exact k₁ σ₁ h₁ t₁ v _ _ I₁ V₁ fun σ' h' t' st' hq I' E' => q σ' h' t' _ .next _ hq I' rfl (E₁.trans E')
theorem x_swap2 {x y : Str} {px py : Pos} {e₁ e₂ : Expr} {k k' : Nat} {tp vp pos : Pos} {Q : MF → St → Prop} (hc : c.Ok)
    (h : EvalTo c e₁ st fun a st₁ => EvalTo c e₂ st₁ fun b st₂ => PutT c y b { st₂ with m := st₂.m.alloc (.tup [a, b]) } fun st₃ => PutT c x a st₃ fun st₄ => Q .next st₄)
    (he₁ : notStar e₁ = true := by rfl) (he₂ : notStar e₂ = true := by rfl)
    (hw : swappedStores [.Tuple [.Name x px, .Name y py] k tp] (.Tuple [e₁, e₂] k' vp) c.env = pure (some [x, y])) : ExecTo c (.Assign [.Tuple [.Name x px, .Name y py] k tp] (.Tuple [e₁, e₂] k' vp) pos) st Q := by
  intro σ hh t Qs Es I q
  refine Assign_Tuple_swapped (names := [x, y]) ?_ rfl hw
  have hE : EvalTo c (.Tuple [e₁, e₂] k' vp) st fun v st₂ => ∃ (m : MH) (a b : MV), v = .ref m.n ∧ st₂.m = m.alloc (.tup [a, b]) ∧ PutT c y b st₂ fun st₃ => PutT c x a st₃ fun st₄ => Q .next st₄ :=
    ev_tuple hc (args_cons (h.mono fun a st₁ h₁ => args_cons (h₁.mono fun b st₂ h₂ => args_nil ⟨by show 2 ≤ sizeLine; rw [sizeLine_eq]; omega, st₂.m, a, b, rfl, rfl, h₂⟩) he₂) he₁)
  refine hE σ hh t _ _ I fun σ₁ h₁ t₁ v z st₁ k₁ I₁ V₁ E₁ => ?_
  obtain ⟨m, a, b, rfl, hm, vars', hp, vars'', hp', hq⟩ := k₁
  obtain ⟨ad, ea, rfl⟩ := V₁
  have hi : st₁.m.H m.n = some (.tup [a, b]) := by rw [hm]; show (if m.n = m.n then _ else _) = _; rw [if_pos rfl]
  obtain ⟨us, n, ho, R⟩ := I₁.hr.obj _ _ ad hi ea
  have hsz : us.size = 2 := by rw [← Array.length_toList, R.length]; rfl
  show wpAny _ _ (unpackItems (.ref ad) 2 none) _ _ _
  rw [← hsz]
  refine wpAny_sz (wpAny_unpackItems_tuple hc.hand ⟨_, ho, rfl, n, rfl⟩ fun h' he hs' => ?_)
  have E : Ext c.G [] σ₁ σ₁ h₁ h' := Ext.newest he hs'
  have kk : ∀ b o, h₁.get? b = some o → h'.get? b = some o := fun b o e => he b o (Nat.ne_of_lt (Heap.lt_size e)) e
  have I' := I₁.step hc (I₁.hr.same (fun b o _ e => kk b o e) hs') E
  obtain ⟨v1, v2, hl⟩ : ∃ v1 v2, us.toList = [v1, v2] := by
    have : us.toList.length = 2 := by rw [Array.length_toList, hsz]
    match us.toList, this with
    | [v1, v2], _ => exact ⟨v1, v2, rfl⟩
  rw [hl] at R ⊢
  show wpAny _ _ (assignInOrder [bindName c.env y, bindName c.env x] [v2, v1]) _ _ _
  refine wpAny_assignInOrder_more (wpAny_bindName (store_ hc hp I' R.2.1 fun h₂ t₂ I₂ E₂ => ?_))
  refine wpAny_assignInOrder_more (wpAny_bindName (store_ hc hp' I₂ R.1 fun h₃ t₃ I₃ E₃ => wpAny_assignInOrder_none ?_))
  exact q σ₁ h₃ t₃ _ .next _ hq I₃ rfl ((E₁.trans (E.weaken fun _ z => (nomatch z))).trans (E₂.trans E₃))
noncomputable abbrev SetAttrT (c : Cx) (name : Str) (o v : MV) (st : St) (Q : St → Prop) : Prop := HT c.G c.A RU (ap2 fun a b => setAttr a name b) [o, v] st.m fun _ m => Q { st with m := m }
theorem SetAttrT.at {σ : List Addr} {hh : Heap} {t : Nat} {Es : Value → Shared → Prop} {name : Str} {o v : MV} {Q : St → Prop} (hc : c.Ok) (h : SetAttrT c name o v st Q) {a b : Value} {Qs : Unit → Shared → Prop} (I : Inv c σ st hh) (V : VRel c.G.N σ o a) (U : VRel c.G.N σ v b)
    (q : ∀ σ' h' t' st', Q st' → Inv c σ' st' h' → Ext c.G c.own σ σ' hh h' → Qs () (c.G.S h' t')) : wpAny c.G.M c.A (setAttr a name b) Qs Es (c.G.S hh t) :=
  HT.at (Q := fun _ st' => Q st') (vs := [a, b]) hc h I ⟨V, U, trivial⟩ fun σ' h' t' b y st' hq I' V' E' => q σ' h' t' st' hq I' E'
noncomputable abbrev SetItemT (c : Cx) (o i v : MV) (st : St) (Q : St → Prop) : Prop := HT c.G c.A RU (ap3 setItem) [o, i, v] st.m fun _ m => Q { st with m := m }
theorem SetItemT.at {σ : List Addr} {hh : Heap} {t : Nat} {Es : Value → Shared → Prop} {o i v : MV} {Q : St → Prop} (hc : c.Ok) (h : SetItemT c o i v st Q) {a j b : Value} {Qs : Unit → Shared → Prop} (I : Inv c σ st hh) (V : VRel c.G.N σ o a) (J : VRel c.G.N σ i j) (U : VRel c.G.N σ v b)
    (q : ∀ σ' h' t' st', Q st' → Inv c σ' st' h' → Ext c.G c.own σ σ' hh h' → Qs () (c.G.S h' t')) : wpAny c.G.M c.A (setItem a j b) Qs Es (c.G.S hh t) :=
  HT.at (Q := fun _ st' => Q st') (vs := [a, j, b]) hc h I ⟨V, J, U, trivial⟩ fun σ' h' t' b y st' hq I' V' E' => q σ' h' t' st' hq I' E'
theorem InT.at {σ : List Addr} {hh : Heap} {t : Nat} {Es : Value → Shared → Prop} {op : Operator} {a b : MV} {Q : MV → St → Prop} (hc : c.Ok) (h : InT c op a b st Q) {v u : Value} {Qs : Value → Shared → Prop} (I : Inv c σ st hh) (V : VRel c.G.N σ a v) (U : VRel c.G.N σ b u)
    (q : ∀ σ' h' t' v y st', Q y st' → Inv c σ' st' h' → VRel c.G.N σ' y v → Ext c.G c.own σ σ' hh h' → Qs v (c.G.S h' t')) : wpAny c.G.M c.A (inplaceOp op v u) Qs Es (c.G.S hh t) :=
  HT.at (vs := [v, u]) hc h I ⟨V, U, trivial⟩ q
theorem GetT.at {σ : List Addr} {hh : Heap} {t : Nat} {Es : Value → Shared → Prop} {name : Str} {o : MV} {Q : MV → St → Prop} (hc : c.Ok) (h : GetT c name o st Q) {v : Value} {Qs : Value → Shared → Prop} (I : Inv c σ st hh) (V : VRel c.G.N σ o v)
    (q : ∀ σ' h' t' v y st', Q y st' → Inv c σ' st' h' → VRel c.G.N σ' y v → Ext c.G c.own σ σ' hh h' → Qs v (c.G.S h' t')) : wpAny c.G.M c.A (getAttr v name true) Qs Es (c.G.S hh t) :=
  HT.at (vs := [v]) hc h I ⟨V, trivial⟩ q
noncomputable abbrev GetItemT (c : Cx) (o i : MV) (st : St) (Q : MV → St → Prop) : Prop := HT c.G c.A (RV c.G) (ap2 getItem) [o, i] st.m fun y m => Q y { st with m := m }
theorem GetItemT.at {σ : List Addr} {hh : Heap} {t : Nat} {Es : Value → Shared → Prop} {a b : MV} {Q : MV → St → Prop} (hc : c.Ok) (h : GetItemT c a b st Q) {v u : Value} {Qs : Value → Shared → Prop} (I : Inv c σ st hh) (V : VRel c.G.N σ a v) (U : VRel c.G.N σ b u)
    (q : ∀ σ' h' t' v y st', Q y st' → Inv c σ' st' h' → VRel c.G.N σ' y v → Ext c.G c.own σ σ' hh h' → Qs v (c.G.S h' t')) : wpAny c.G.M c.A (getItem v u) Qs Es (c.G.S hh t) :=
  HT.at (vs := [v, u]) hc h I ⟨V, U, trivial⟩ q
theorem x_setattr {o e : Expr} {name : Str} {p pos : Pos} {Q : MF → St → Prop} (hc : c.Ok) (h : EvalTo c e st fun v st₁ => EvalTo c o st₁ fun ov st₂ => SetAttrT c name ov v st₂ fun st₃ => Q .next st₃) (hn : notComp e = true := by rfl) : ExecTo c (.Assign [.Attribute o name p] e pos) st Q := by
  intro σ hh t Qs Es I q
  refine plainObj_wpAny_Assign_Attribute (h σ hh t _ _ I fun σ₁ h₁ t₁ v y st₁ k₁ I₁ V₁ E₁ => k₁ σ₁ h₁ t₁ _ _ I₁ fun σ₂ h₂ t₂ ov z st₂ k₂ I₂ V₂ E₂ => ?_) (swaps_no hn _ _ _)
  exact SetAttrT.at hc k₂ I₂ V₂ (V₁.mono E₂.sub) fun σ' h' t' st' hq I' E' => q σ' h' t' _ .next _ hq I' rfl ((E₁.trans E₂).trans E')
theorem x_setitem {o i e : Expr} {p pos : Pos} {Q : MF → St → Prop} (hc : c.Ok) (h : EvalTo c e st fun v st₁ => EvalTo c o st₁ fun ov st₂ => EvalTo c i st₂ fun iv st₃ => SetItemT c ov iv v st₃ fun st₄ => Q .next st₄) (hn : notComp e = true := by rfl) : ExecTo c (.Assign [.Subscript o i p] e pos) st Q := by
  intro σ hh t Qs Es I q
  refine wpAny_Assign_Subscript (h σ hh t _ _ I fun σ₁ h₁ t₁ v y st₁ k₁ I₁ V₁ E₁ => k₁ σ₁ h₁ t₁ _ _ I₁ fun σ₂ h₂ t₂ ov z st₂ k₂ I₂ V₂ E₂ => k₂ σ₂ h₂ t₂ _ _ I₂ fun σ₃ h₃ t₃ iv w st₃ k₃ I₃ V₃ E₃ => ?_) (swaps_no hn _ _ _)
  exact SetItemT.at hc k₃ I₃ (V₂.mono E₃.sub) V₃ ((V₁.mono E₂.sub).mono E₃.sub) fun σ' h' t' st' hq I' E' => q σ' h' t' _ .next _ hq I' rfl (((E₁.trans E₂).trans E₃).trans E')
theorem x_aug {x : Str} {op : Operator} {e : Expr} {p pos : Pos} {Q : MF → St → Prop} (hc : c.Ok) (h : LoadTo c x st fun old st₁ => EvalTo c e st₁ fun v st₂ => InT c op old v st₂ fun new st₃ => PutT c x new st₃ fun st₄ => Q .next st₄) : ExecTo c (.AugAssign (.Name x p) op e pos) st Q := by
  intro σ hh t Qs Es I q
  refine wpAny_AugAssign_Name (h σ hh t _ _ I fun σ₁ h₁ t₁ old y st₁ k₁ I₁ V₁ E₁ => k₁ σ₁ h₁ t₁ _ _ I₁ fun σ₂ h₂ t₂ v z st₂ k₂ I₂ V₂ E₂ => InT.at hc k₂ I₂ (V₁.mono E₂.sub) V₂ fun σ₃ h₃ t₃ r w st₃ k₃ I₃ V₃ E₃ => ?_)
  obtain ⟨vars', hp, hq⟩ := k₃
  exact store_ hc hp I₃ V₃ fun h' t' I' E' => q σ₃ h' t' _ .next _ hq I' rfl (((E₁.trans E₂).trans E₃).trans E')
theorem x_augattr {o e : Expr} {name : Str} {op : Operator} {p pos : Pos} {Q : MF → St → Prop} (hc : c.Ok)
    (h : EvalTo c o st fun ov st₁ => GetT c name ov st₁ fun old st₂ => EvalTo c e st₂ fun v st₃ => InT c op old v st₃ fun new st₄ => SetAttrT c name ov new st₄ fun st₅ => Q .next st₅) : ExecTo c (.AugAssign (.Attribute o name p) op e pos) st Q := by
  intro σ hh t Qs Es I q
  refine wpAny_AugAssign_AttributeAny (h σ hh t _ _ I fun σ₁ h₁ t₁ ov y st₁ k₁ I₁ V₁ E₁ => GetT.at hc k₁ I₁ V₁ fun σ₂ h₂ t₂ old z st₂ k₂ I₂ V₂ E₂ => k₂ σ₂ h₂ t₂ _ _ I₂ fun σ₃ h₃ t₃ v w st₃ k₃ I₃ V₃ E₃ =>
    InT.at hc k₃ I₃ (V₂.mono E₃.sub) V₃ fun σ₄ h₄ t₄ r u st₄ k₄ I₄ V₄ E₄ => ?_)
  exact SetAttrT.at hc k₄ I₄ (((V₁.mono E₂.sub).mono E₃.sub).mono E₄.sub) V₄ fun σ' h' t' st' hq I' E' => q σ' h' t' _ .next _ hq I' rfl ((((E₁.trans E₂).trans E₃).trans E₄).trans E')
theorem augStore_ok {i : Expr} (h : notSlice i = true) (ov iv new : Value) : augStore i ov iv new = (do holding [new, ov, iv] (setItem ov iv new); release [new, ov, iv] []; pure .next) := by cases i <;> first | rfl | cases h
theorem x_augitem {o i e : Expr} {op : Operator} {p pos : Pos} {Q : MF → St → Prop} (hc : c.Ok)
    (h : EvalTo c o st fun ov st₁ => EvalTo c i st₁ fun iv st₂ => GetItemT c ov iv st₂ fun old st₃ => EvalTo c e st₃ fun v st₄ => InT c op old v st₄ fun new st₅ => SetItemT c ov iv new st₅ fun st₆ => Q .next st₆)
    (hi : notSlice i = true := by rfl) : ExecTo c (.AugAssign (.Subscript o i p) op e pos) st Q := by
  intro σ hh t Qs Es I q
  refine wpAny_AugAssign_SubscriptAny (h σ hh t _ _ I fun σ₁ h₁ t₁ ov y st₁ k₁ I₁ V₁ E₁ => k₁ σ₁ h₁ t₁ _ _ I₁ fun σ₂ h₂ t₂ iv z st₂ k₂ I₂ V₂ E₂ => GetItemT.at hc k₂ I₂ (V₁.mono E₂.sub) V₂ fun σ₃ h₃ t₃ old w st₃ k₃ I₃ V₃ E₃ => k₃ σ₃ h₃ t₃ _ _ I₃ fun σ₄ h₄ t₄ v w' st₄ k₄ I₄ V₄ E₄ =>
    InT.at hc k₄ I₄ (V₃.mono E₄.sub) V₄ fun σ₅ h₅ t₅ r u st₅ k₅ I₅ V₅ E₅ => ?_) (augStore_ok hi)
  exact SetItemT.at hc k₅ I₅ ((((V₁.mono E₂.sub).mono E₃.sub).mono E₄.sub).mono E₅.sub) (((V₂.mono E₃.sub).mono E₄.sub).mono E₅.sub) V₅ fun σ' h' t' st' hq I' E' => q σ' h' t' _ .next _ hq I' rfl (((((E₁.trans E₂).trans E₃).trans E₄).trans E₅).trans E')
noncomputable def WhileN (c : Cx) (test : Expr) (body : List Stmt) : Nat → St → (MF → St → Prop) → Prop
  | 0, _, _ => False
  | n + 1, st, Q => TestTo c test st fun z st₁ => if z then ExecsTo c body st₁ fun f st₂ => match f with
      | .next | .cont => WhileN c test body n st₂ Q
      | .brk => Q .next st₂
      | .ret v => Q (.ret v) st₂
    else Q .next st₁
theorem x_while {test : Expr} {body : List Stmt} {pos : Pos} {Q : MF → St → Prop} (n : Nat) (h : WhileN c test body n st Q) : ExecTo c (.While test body [] pos) st Q := by
  intro σ hh t Qs Es I q
  refine wpAny_While (codeAny_whileLoop (fun k s => ∃ σ₁ h₁ t₁ st₁, s = c.G.S h₁ t₁ ∧ Inv c σ₁ st₁ h₁ ∧ WhileN c test body k st₁ Q ∧ Ext c.G c.own σ σ₁ hh h₁) ?_ n ⟨σ, hh, t, st, rfl, I, h, .refl⟩)
  rintro k s ⟨σ₁, h₁, t₁, st₁, rfl, I₁, H, E₁⟩
  cases k with
  | zero => exact H.elim
  | succ k =>
    refine H σ₁ h₁ t₁ _ _ I₁ fun σ₂ h₂ t₂ v z st₂ k₂ I₂ V₂ E₂ => ?_
    cases V₂
    cases v with
    | false => exact wpAny_execs_nil (q σ₂ h₂ t₂ _ .next st₂ k₂ I₂ rfl (E₁.trans E₂))
    | true =>
      refine k₂ σ₂ h₂ t₂ _ _ I₂ fun σ₃ h₃ t₃ v f st₃ k₃ I₃ V₃ E₃ => ?_
      cases f with
      | next => cases V₃; exact ⟨k, Nat.lt_succ_self _, σ₃, h₃, t₃, st₃, rfl, I₃, k₃, (E₁.trans E₂).trans E₃⟩
      | cont => cases V₃; exact ⟨k, Nat.lt_succ_self _, σ₃, h₃, t₃, st₃, rfl, I₃, k₃, (E₁.trans E₂).trans E₃⟩
      | brk => cases V₃; exact q σ₃ h₃ t₃ _ .next st₃ k₃ I₃ rfl ((E₁.trans E₂).trans E₃)
      | ret x => obtain ⟨u, rfl, V₃⟩ := V₃; exact q σ₃ h₃ t₃ _ (.ret x) st₃ k₃ I₃ ⟨u, rfl, V₃⟩ ((E₁.trans E₂).trans E₃)
end
theorem VRels.one {N : Nat} {σ : List Addr} {x : MV} {vs : List Value} (h : VRels N σ [x] vs) : ∃ a, vs = [a] ∧ VRel N σ x a := by
  match vs, h with
  | [a], h => exact ⟨a, rfl, h.1⟩
theorem VRels.two {N : Nat} {σ : List Addr} {x y : MV} {vs : List Value} (h : VRels N σ [x, y] vs) : ∃ a b, vs = [a, b] ∧ VRel N σ x a ∧ VRel N σ y b := by
  match vs, h with
  | [a, b], h => exact ⟨a, b, rfl, h.1, h.2.1⟩
theorem VRels.three {N : Nat} {σ : List Addr} {x y z : MV} {vs : List Value} (h : VRels N σ [x, y, z] vs) : ∃ a b d, vs = [a, b, d] ∧ VRel N σ x a ∧ VRel N σ y b ∧ VRel N σ z d := by
  match vs, h with
  | [a, b, d], h => exact ⟨a, b, d, rfl, h.1, h.2.1, h.2.2.1⟩
section
variable {G : GC} {A : Around} {m : MH}
theorem HT.int2 {i j k : Int} {f : Value → Value → Sem Value} {Q : MV → MH → Prop}
    (h : ∀ t u s (Qs : Value → Shared → Prop) Es, (∀ w t', Qs (.int k w) { s with toks := t' }) → wpAny G.M A (f (.int i t) (.int j u)) Qs Es s) (hq : Q (.int k) m) :
    HT G A (RV G) (ap2 f) [.int i, .int j] m Q := by
  refine HT.pure' _ (fun σ hh t vs Qs Es I V q => ?_) hq
  obtain ⟨a, b, rfl, ⟨t1, rfl⟩, ⟨t2, rfl⟩⟩ := V.two
  exact h t1 t2 _ Qs Es fun w t' => q _ t' ⟨w, rfl⟩
theorem HT.int2b {i j : Int} {b : Bool} {f : Value → Value → Sem Value} {Q : MV → MH → Prop}
    (h : ∀ t u s (Qs : Value → Shared → Prop) Es, Qs (.bool b) s → wpAny G.M A (f (.int i t) (.int j u)) Qs Es s) (hq : Q (.bool b) m) :
    HT G A (RV G) (ap2 f) [.int i, .int j] m Q := by
  refine HT.pure' _ (fun σ hh t vs Qs Es I V q => ?_) hq
  obtain ⟨a, b, rfl, ⟨t1, rfl⟩, ⟨t2, rfl⟩⟩ := V.two
  exact h t1 t2 _ Qs Es (q _ _ rfl)
theorem bin_add {i j : Int} {Q : MV → MH → Prop} (hq : Q (.int (i + j)) m) : HT G A (RV G) (ap2 (binaryOp .Add)) [.int i, .int j] m Q :=
  HT.int2 (fun _ _ _ _ _ q => add_int (q _ _)) hq
theorem bin_sub {i j : Int} {Q : MV → MH → Prop} (hq : Q (.int (i - j)) m) : HT G A (RV G) (ap2 (binaryOp .Sub)) [.int i, .int j] m Q :=
  HT.int2 (fun _ _ _ _ _ q => sub_int (q _ _)) hq
theorem bin_mul {i j : Int} {Q : MV → MH → Prop} (h : IntMulOk i j) (hq : Q (.int (i * j)) m) : HT G A (RV G) (ap2 (binaryOp .Mult)) [.int i, .int j] m Q :=
  HT.int2 (fun _ _ _ _ _ q => mul_int (q _ _) h) hq
theorem bin_div {i j : Int} {Q : MV → MH → Prop} (hj : j ≠ 0) (hp : Builtin.divisionGoesByPylong i j = false) (hq : Q (.int (i.fdiv j)) m) : HT G A (RV G) (ap2 (binaryOp .FloorDiv)) [.int i, .int j] m Q :=
  HT.int2 (fun _ _ _ _ _ q => floordiv_int hj (q _ _) (.inl hp)) hq
theorem bin_mod {i j : Int} {Q : MV → MH → Prop} (hj : j ≠ 0) (hq : Q (.int (i.fmod j)) m) : HT G A (RV G) (ap2 (binaryOp .Mod)) [.int i, .int j] m Q :=
  HT.int2 (fun _ _ _ _ _ q => mod_int' hj (q _ _)) hq
theorem bin_pow {i j : Int} {Q : MV → MH → Prop} (hj : 0 ≤ j) (hb : (Builtin.Int.intBits i : Int) * j ≤ 2 ^ 27) (hq : Q (.int (i ^ j.toNat)) m) : HT G A (RV G) (ap2 (binaryOp .Pow)) [.int i, .int j] m Q :=
  HT.int2 (fun _ _ _ _ _ q => pow_int hj hb (q _ _)) hq
theorem in_add {i j : Int} {Q : MV → MH → Prop} (hq : Q (.int (i + j)) m) : HT G A (RV G) (ap2 (inplaceOp .Add)) [.int i, .int j] m Q :=
  HT.int2 (fun _ _ _ _ _ q => wpAny_iadd_int (q _ _)) hq
theorem cmp_eq {i j : Int} {Q : MV → MH → Prop} (hq : Q (.bool (i == j)) m) : HT G A (RV G) (ap2 (compareOp .Eq)) [.int i, .int j] m Q :=
  HT.int2b (fun _ _ _ _ _ q => eq_int q) hq
theorem cmp_ge {i j : Int} {Q : MV → MH → Prop} (hq : Q (.bool (decide (j ≤ i))) m) : HT G A (RV G) (ap2 (compareOp .GtE)) [.int i, .int j] m Q :=
  HT.int2b (fun _ _ _ _ _ q => ge_int q) hq
theorem cmp_le {i j : Int} {Q : MV → MH → Prop} (hq : Q (.bool (decide (i ≤ j))) m) : HT G A (RV G) (ap2 (compareOp .LtE)) [.int i, .int j] m Q :=
  HT.int2b (fun _ _ _ _ _ q => le_int q) hq
theorem cmp_lt {i j : Int} {Q : MV → MH → Prop} (hq : Q (.bool (decide (i < j))) m) : HT G A (RV G) (ap2 (compareOp .Lt)) [.int i, .int j] m Q :=
  HT.int2b (fun _ _ _ _ _ q => lt_int q) hq
theorem cmp_gt {i j : Int} {Q : MV → MH → Prop} (hq : Q (.bool (decide (j < i))) m) : HT G A (RV G) (ap2 (compareOp .Gt)) [.int i, .int j] m Q :=
  HT.int2b (fun _ _ _ _ _ q => gt_int q) hq
theorem un_neg {i : Int} {Q : MV → MH → Prop} (hq : Q (.int (-i)) m) : HT G A (RV G) (ap1 (unaryOp .USub)) [.int i] m Q := by
  refine HT.pure' _ (fun σ hh t vs Qs Es I V q => ?_) hq
  obtain ⟨a, rfl, t1, rfl⟩ := V.one
  exact neg_int (q _ _ ⟨_, rfl⟩)
theorem tru_bool {b : Bool} {Q : Bool → MH → Prop} (hq : Q b m) : HT G A RB (ap1 truthy) [.bool b] m Q := by
  refine HT.pure' _ (fun σ hh t vs Qs Es I V q => ?_) hq
  obtain ⟨a, rfl, rfl⟩ := V.one
  exact wpAny_truthy_bool (q _ _ rfl)
theorem bin_str {x y : Str} {Q : MV → MH → Prop} (hl : x.length + y.length ≤ sizeLine) (hq : Q (.str (x ++ y)) m) : HT G A (RV G) (ap2 (binaryOp .Add)) [.str x, .str y] m Q := by
  refine HT.pure' _ (fun σ hh t vs Qs Es I V q => ?_) hq
  obtain ⟨a, b, rfl, ⟨t1, rfl⟩, ⟨t2, rfl⟩⟩ := V.two
  exact add_str (fun t' tk => q _ tk ⟨_, rfl⟩) hl
theorem cmp_eqs {x y : Str} {Q : MV → MH → Prop} (hq : Q (.bool (x == y)) m) : HT G A (RV G) (ap2 (compareOp .Eq)) [.str x, .str y] m Q := by
  refine HT.pure' _ (fun σ hh t vs Qs Es I V q => ?_) hq
  obtain ⟨a, b, rfl, ⟨t1, rfl⟩, ⟨t2, rfl⟩⟩ := V.two
  exact eq_str (q _ _ rfl)
theorem cmp_nes {x y : Str} {Q : MV → MH → Prop} (hq : Q (.bool (x != y)) m) : HT G A (RV G) (ap2 (compareOp .NotEq)) [.str x, .str y] m Q := by
  refine HT.pure' _ (fun σ hh t vs Qs Es I V q => ?_) hq
  obtain ⟨a, b, rfl, ⟨t1, rfl⟩, ⟨t2, rfl⟩⟩ := V.two
  exact ne_str (q _ _ rfl)
theorem cmp_ins {x y : Str} {Q : MV → MH → Prop} (hq : Q (.bool (!(Builtin.Str.occurrences x y 0 x.length 1).isEmpty)) m) : HT G A (RV G) (ap2 (compareOp .In)) [.str y, .str x] m Q := by
  refine HT.pure' _ (fun σ hh t vs Qs Es I V q => ?_) hq
  obtain ⟨a, b, rfl, ⟨t1, rfl⟩, ⟨t2, rfl⟩⟩ := V.two
  exact in_str (q _ _ rfl)
end
section
variable {G : GC} {A : Around} {m : MH}
theorem HT.read {α β : Type} {R : List Addr → β → α → Prop} {f : List Value → Sem α} {xs : List MV} {Q : β → MH → Prop} (y : β)
    (h : ∀ σ hh t vs (Qs : α → Shared → Prop) Es, HRels G σ m hh → VRels G.N σ xs vs → (∀ v t', R σ y v → Qs v ⟨hh, G.g, G.d, t', G.os⟩) → wpAny G.M A (f vs) Qs Es (G.S hh t)) (hq : Q y m) : HT G A R f xs m Q := HT.pure' y h hq
theorem HRels.list {σ : List Addr} {hh : Heap} (X : HRels G σ m hh) {i : Nat} {xs : List MV} {v : Value} (hi : m.H i = some (.list xs)) (V : VRel G.N σ (.ref i) v) :
    ∃ a us k, σ[i]? = some a ∧ v = .ref a ∧ hh.get? a = some { cls := .type "list", data := .seq us k } ∧ VRels G.N σ xs us.toList := by
  obtain ⟨a, ea, rfl⟩ := V
  obtain ⟨us, k, ho, R⟩ := X.obj i _ a hi ea
  exact ⟨a, us, k, ea, rfl, ho, R⟩
theorem HRels.tup {σ : List Addr} {hh : Heap} (X : HRels G σ m hh) {i : Nat} {xs : List MV} {v : Value} (hi : m.H i = some (.tup xs)) (V : VRel G.N σ (.ref i) v) :
    ∃ a us k, σ[i]? = some a ∧ v = .ref a ∧ hh.get? a = some { cls := .type "tuple", data := .seq us k } ∧ VRels G.N σ xs us.toList := by
  obtain ⟨a, ea, rfl⟩ := V
  obtain ⟨us, k, ho, R⟩ := X.obj i _ a hi ea
  exact ⟨a, us, k, ea, rfl, ho, R⟩
theorem VRels.size {σ : List Addr} {N : Nat} {xs : List MV} {us : Array Value} (h : VRels N σ xs us.toList) : us.size = xs.length := by rw [← h.length, Array.length_toList]
theorem tru_list {i : Nat} {xs : List MV} {Q : Bool → MH → Prop} (hi : m.H i = some (.list xs)) (hl : xs.length < 2 ^ 24) (hq : Q (!xs.isEmpty) m) : HT G A RB (ap1 truthy) [.ref i] m Q := by
  refine HT.read _ (fun σ hh t vs Qs Es I V q => ?_) hq
  obtain ⟨v, rfl, V₁⟩ := V.one
  obtain ⟨a, us, k, ea, rfl, ho, R⟩ := I.list hi V₁
  refine wpAny_truthy_list ⟨_, ho, rfl, k, rfl⟩ (by rw [R.size]; omega) (q _ _ ?_)
  have := R.size
  cases xs <;> simp_all [Array.isEmpty]
theorem sub_tail {value slice : Expr} {o i : Value} (h : notSlice slice = true) : subscripted slice false o i = operate [o, i] (getItem o i) := by cases slice <;> first | rfl | cases h
theorem idx_list {i : Nat} {xs : List MV} {k : Int} {y : MV} {value slice : Expr} {Q : MV → MH → Prop} (hs : notSlice slice = true) (hi : m.H i = some (.list xs)) (h0 : 0 ≤ k) (hk : xs[k.toNat]? = some y) (hl : k < 2 ^ 63) (hq : Q y m) :
    HT G A (RV G) (ap2 (subscriptTail value slice)) [.ref i, .int k] m Q := by
  refine HT.read _ (fun σ hh t vs Qs Es I V q => ?_) hq
  obtain ⟨v, u, rfl, V₁, t1, rfl⟩ := V.two
  obtain ⟨a, us, n, ea, rfl, ho, R⟩ := I.list hi V₁
  obtain ⟨w, hw, W⟩ := R.get hk
  have hL : hh.IsList a us := ⟨_, ho, rfl, n, rfl⟩
  exact tail_any hL.typeIs slot_list_getitem.lookup (wpAny_getItem_list hL h0 hl (by rw [← Array.getElem?_toList]; exact hw) (q _ _ W)) (sub_tail hs (value := value))
theorem idx_tup {i : Nat} {xs : List MV} {k : Int} {y : MV} {value slice : Expr} {Q : MV → MH → Prop} (hs : notSlice slice = true) (hi : m.H i = some (.tup xs)) (h0 : 0 ≤ k) (hk : xs[k.toNat]? = some y) (hl : k < 2 ^ 63) (hq : Q y m) :
    HT G A (RV G) (ap2 (subscriptTail value slice)) [.ref i, .int k] m Q := by
  refine HT.read _ (fun σ hh t vs Qs Es I V q => ?_) hq
  obtain ⟨v, u, rfl, V₁, t1, rfl⟩ := V.two
  obtain ⟨a, us, n, ea, rfl, ho, R⟩ := I.tup hi V₁
  obtain ⟨w, hw, W⟩ := R.get hk
  have hT : IsTup hh a us := ⟨_, ho, rfl, n, rfl⟩
  have hlt : k.toNat < xs.length := (List.getElem?_eq_some_iff.mp hk).1
  refine tail_any (T := "tuple") ⟨_, ho, rfl⟩ F.slot_tuple_getitem.lookup (getItem_tuple hT (by omega) hl (j := k.toNat) ?_ (by rw [← Array.getElem?_toList]; exact hw) (q _ _ W)) (sub_tail hs (value := value))
  rw [R.size]
  unfold seqIndex?
  have h1 : ¬ k < 0 := by omega
  simp only [h1, if_false]
  have h2 : 0 ≤ k ∧ k < (xs.length : Int) := ⟨h0, by omega⟩
  simp [h2]
theorem get_list {i : Nat} {xs : List MV} {k : Int} {y : MV} {Q : MV → MH → Prop} (hi : m.H i = some (.list xs)) (h0 : 0 ≤ k) (hk : xs[k.toNat]? = some y) (hl : k < 2 ^ 63) (hq : Q y m) : HT G A (RV G) (ap2 getItem) [.ref i, .int k] m Q := by
  refine HT.read _ (fun σ hh t vs Qs Es I V q => ?_) hq
  obtain ⟨v, u, rfl, V₁, t1, rfl⟩ := V.two
  obtain ⟨a, us, n, ea, rfl, ho, R⟩ := I.list hi V₁
  obtain ⟨w, hw, W⟩ := R.get hk
  exact wpAny_getItem_list ⟨_, ho, rfl, n, rfl⟩ h0 hl (by rw [← Array.getElem?_toList]; exact hw) (q _ _ W)
theorem mapSeq_get {h : Heap} {a : Addr} {us : Array Value} {k : Nat} {f : Array Value → Array Value} (ho : h.get? a = some { cls := .type "list", data := .seq us k }) :
    ∃ k', (h.update a (Obj.mapSeq f)).get? a = some { cls := .type "list", data := .seq (f us) k' } := ⟨_, Heap.get?_update_self _ ho rfl⟩
theorem list_set_exact {prog : Program} {w : World} {E : Value → Shared → Prop} {s : Shared} {l : Addr} {items : Array Value} {n : Nat} {k : Int} {t : Tok} {v : Value} {Q : Unit → Shared → Prop} (ho : s.heap.get? l = some { cls := .type "list", data := .seq items n })
    (h0 : 0 ≤ k) (hfit : k < 2 ^ 63) (hn : k < items.size) (h : Q () { s with heap := s.heap.update l (Obj.mapSeq (·.setIfInBounds k.toNat v)) }) : wpAny (model prog w) A (setItem (.ref l) (.int k t) v) Q E s := by
  have hl : s.heap.IsList l items := ⟨_, ho, rfl, n, rfl⟩
  unfold setItem
  try with_reducible refine wpAny_holding ?_
  first | refine wpAny_bind (wpAny_pure ?_) | skip
  refine wpAny_bind (wpAny_sequenceKey hl.typeIs (by decide) ?_)
  refine wpAny_bind (wpAny_callSpecial?_slot (name := Str.ofString "__setitem__") hl.typeIs slot_list_setitem
    (wpAny_call_entry slot_list_setitem hl.typeIs entry_list_setitem ?_ (args_list_setitem _ _ _)))
  show wpAny _ _ (Builtin.List.listSubscript? (.int k t) >>= _) _ _ s
  refine wpAny_bind (wpAny_listSubscript_int (fitsIndex_of h0 hfit) ?_)
  clear hfit
  obtain ⟨j, rfl⟩ := Int.eq_ofNat_of_zero_le h0
  have hj : j < items.size := by omega
  have hx' : items[j]? = some items[j] := Array.getElem?_eq_getElem hj
  show wpAny _ _ ((seqItemAt l j >>= fun r => pure (r.map (j, ·))) >>= _) _ _ s
  refine wpAny_bind (wpAny_bind (wpAny_seqItemAt ho rfl (wpAny_pure ?_)))
  rw [hx']
  show wpAny _ _ (setSeqItemAt l j v >>= _) _ _ s
  refine wpAny_bind (wpAny_setSeqItemAt ho rfl ?_)
  first
    | exact wpAny_bind (wpAny_pure (wpAny_pure ⟨.none, rfl, wpAny_pure h⟩))
    | exact wpAny_pure ⟨.none, rfl, wpAny_pure h⟩
theorem set_list {i : Nat} {xs : List MV} {k : Int} {y : MV} {Q : Unit → MH → Prop} (hi : m.H i = some (.list xs)) (h0 : 0 ≤ k) (hk : k < xs.length) (hl : k < 2 ^ 63) (hq : Q () (m.set i (.list (xs.set k.toNat y)))) : HT G A RU (ap3 setItem) [.ref i, .int k, y] m Q := by
  intro σ hh t vs Qs Es I V q
  obtain ⟨v, u, w, rfl, V₁, ⟨t1, rfl⟩, W⟩ := V.three
  obtain ⟨a, us, n, ea, rfl, ho, R⟩ := I.list hi V₁
  show wpAny _ _ (setItem (.ref a) (.int k t1) w) _ _ _
  refine list_set_exact ho h0 hl (by rw [R.size]; exact hk) ?_
  obtain ⟨k', hg⟩ := mapSeq_get (f := fun xs => xs.setIfInBounds k.toNat w) ho
  refine q _ _ _ _ _ _ hq (I.upd ea (Heap.SameBut.update ..) ⟨_, k', hg, ?_⟩) trivial (Ext.upd ea (Heap.SameBut.update ..))
  rw [Array.toList_setIfInBounds]; exact R.set W
theorem call_append {i : Nat} {xs : List MV} {y : MV} {Q : MV → MH → Prop} (hi : m.H i = some (.list xs)) (hl : xs.length ≤ sizeLine) (hq : Q .none (m.set i (.list (xs ++ [y])))) : HT G A (RV G) callV [.st (.builtin "list.append"), .ref i, y] m Q := by
  intro σ hh t vs Qs Es I V q
  obtain ⟨f, v, w, rfl, ⟨rfl, _⟩, V₁, W⟩ := V.three
  obtain ⟨a, us, n, ea, rfl, ho, R⟩ := I.list hi V₁
  have hL : hh.IsList a us := ⟨_, ho, rfl, n, rfl⟩
  show wpAny _ _ (call (.builtin "list.append") [.ref a, w]) _ _ _
  refine wpAny_call_entry slot_list_append hL.typeIs entry_list_append ?_ (args_list_append _ _)
  show wpAny _ _ (updateSeq a (·.push w) >>= fun _ => ret .none) _ _ _
  have hz : us.size ≤ sizeLine := by rw [R.size]; exact hl
  refine wpAny_bind (wpAny_updateSeq ho rfl (wpAny_pure ⟨.none, rfl, ?_⟩) hz (by rw [Array.size_push]; omega))
  obtain ⟨k', hg⟩ := mapSeq_get (f := fun xs => xs.push w) ho
  refine q _ _ _ _ _ _ hq (I.upd ea (Heap.SameBut.update ..) ⟨_, k', hg, ?_⟩) rfl (Ext.upd ea (Heap.SameBut.update ..))
  rw [Array.toList_push]; exact R.append ⟨W, trivial⟩
theorem erase_last {us : Array Value} {l : List Value} {y : Value} (h : us.toList = l ++ [y]) : (us.eraseIdxIfInBounds (us.size - 1)).toList = l := by
  have e : us = (l ++ [y]).toArray := by rw [← h, Array.toArray_toList]
  subst e
  have hk : (l ++ [y]).toArray.size - 1 = l.length := by rw [List.size_toArray, List.length_append]; rfl
  have hlt : l.length < (l ++ [y]).toArray.size := by rw [List.size_toArray, List.length_append]; simp
  rw [hk]
  unfold Array.eraseIdxIfInBounds
  rw [dif_pos hlt, Array.toList_eraseIdx]
  show (l ++ [y]).eraseIdx l.length = l
  rw [List.eraseIdx_append_of_length_le (Nat.le_refl _), Nat.sub_self]
  simp
theorem erase_first {us : Array Value} {l : List Value} {y : Value} (h : us.toList = y :: l) : (us.eraseIdxIfInBounds 0).toList = l := by
  have e : us = (y :: l).toArray := by rw [← h, Array.toArray_toList]
  subst e
  have hlt : 0 < (y :: l).toArray.size := by rw [List.size_toArray]; simp
  unfold Array.eraseIdxIfInBounds
  rw [dif_pos hlt, Array.toList_eraseIdx]
  rfl
theorem VRels.split_last {N : Nat} {σ : List Addr} {xs : List MV} {y : MV} {us : List Value} (h : VRels N σ (xs ++ [y]) us) : ∃ l v, us = l ++ [v] ∧ VRels N σ xs l ∧ VRel N σ y v := by
  induction xs generalizing us with
  | nil =>
    match us, h with
    | [v], h => exact ⟨[], v, rfl, trivial, h.1⟩
  | cons x xs ih =>
    match us, h with
    | u :: us, h =>
      obtain ⟨l, v, rfl, a, b⟩ := ih h.2
      exact ⟨u :: l, v, rfl, ⟨h.1, a⟩, b⟩
theorem call_pop {i : Nat} {xs : List MV} {y : MV} {Q : MV → MH → Prop} (hi : m.H i = some (.list (xs ++ [y]))) (hl : xs.length < sizeLine) (hq : Q y (m.set i (.list xs))) : HT G A (RV G) callV [.st (.builtin "list.pop"), .ref i] m Q := by
  intro σ hh t vs Qs Es I V q
  obtain ⟨f, v, rfl, ⟨rfl, _⟩, V₁⟩ := V.two
  obtain ⟨a, us, n, ea, rfl, ho, R⟩ := I.list hi V₁
  obtain ⟨l, w, hu, RL, W⟩ := R.split_last
  have hsz : us.size = l.length + 1 := by rw [← Array.length_toList, hu]; simp
  have hll : l.length = xs.length := RL.length
  show wpAny _ _ (call (.builtin "list.pop") [.ref a]) _ _ _
  refine call_meets PySem.F.slot_list_pop ⟨_, ho, rfl⟩ PySem.F.entry_list_pop (PySem.F.args_list_pop_1 _) (PySem.MeetsSeq.list_pop_last a us n w ?_ (by omega)) ⟨ho, ?_⟩
  · rw [hsz, ← Array.getElem?_toList, hu]; simp
  · obtain ⟨k', hg⟩ := mapSeq_get (f := fun xs => xs.eraseIdxIfInBounds (us.size - 1)) ho
    refine q _ _ _ _ _ _ hq (I.upd ea (Heap.SameBut.update ..) ⟨_, k', hg, ?_⟩) W (Ext.upd ea (Heap.SameBut.update ..))
    rw [erase_last hu]; exact RL
theorem call_pop0 {i : Nat} {xs : List MV} {y : MV} {Q : MV → MH → Prop} (hi : m.H i = some (.list (y :: xs))) (hl : xs.length < sizeLine) (hq : Q y (m.set i (.list xs))) : HT G A (RV G) callV [.st (.builtin "list.pop"), .ref i, .int 0] m Q := by
  intro σ hh t vs Qs Es I V q
  obtain ⟨f, v, z, rfl, ⟨rfl, _⟩, V₁, t0, rfl⟩ := V.three
  obtain ⟨a, us, n, ea, rfl, ho, R⟩ := I.list hi V₁
  have hsz := R.size
  cases hu : us.toList with
  | nil => rw [hu] at R; exact R.elim
  | cons w l =>
    rw [hu] at R
    show wpAny _ _ (call (.builtin "list.pop") [.ref a, .int 0 t0]) _ _ _
    refine call_meets PySem.F.slot_list_pop ⟨_, ho, rfl⟩ PySem.F.entry_list_pop (PySem.F.args_list_pop_2 _ _) (PySem.MeetsSeq.list_pop_at a us n 0 t0 0 w (by decide) ?_ ?_ (by rw [hsz]; exact hl)) ⟨ho, ?_⟩
    · rw [hsz]; unfold seqIndex?; simp
    · rw [← Array.getElem?_toList, hu]; rfl
    · obtain ⟨k', hg⟩ := mapSeq_get (f := fun xs => xs.eraseIdxIfInBounds 0) ho
      refine q _ _ _ _ _ _ hq (I.upd ea (Heap.SameBut.update ..) ⟨_, k', hg, ?_⟩) R.1 (Ext.upd ea (Heap.SameBut.update ..))
      rw [erase_first hu]; exact R.2
end
noncomputable def Good (n : Nat) (A : Around) : Prop := A.handled = none ∧ A.depth + n ≤ 990 ∧ A.units + 8 * n ≤ 9800
theorem Good.le {n k : Nat} {A : Around} (h : Good n A) (hk : k ≤ n) : Good k A := ⟨h.1, by have := h.2.1; omega, by have := h.2.2; omega⟩
theorem Good.deeper {n : Nat} {A : Around} (h : Good (n + 1) A) (env : Env) : Good n (A.deeper env) :=
  ⟨h.1, by show A.depth + 1 + n ≤ 990; have := h.2.1; omega, by show A.units + 3 + 8 * n ≤ 9800; have := h.2.2; omega⟩
theorem Good.in1 {n : Nat} {A : Around} (h : Good (n + 1) A) : Good n A.in1 :=
  ⟨h.1, by show A.depth + n ≤ 990; have := h.2.1; omega, by show A.units + 1 + 8 * n ≤ 9800; have := h.2.2; omega⟩
theorem Good.room {n : Nat} {A : Around} (h : Good (n + 1) A) : A.depth < recursionLimit := by have := h.2.1; show A.depth < 1000; omega
structure FnAt (G : GC) (f : Addr) (fd : FuncData) : Prop where
  lt : f < G.N
  here : ∀ σ m h, HRels G σ m h → (∃ o, h.get? f = some o ∧ o.data = .func fd) ∧ h.CodeRec fd.code fd.qualname ∧ h.NoLimit
inductive Binds (ns : List (Str × NameKind)) : List (Str × MV) → List (Option MV) → List (Option MV) → Prop
  | nil {us} : Binds ns [] us us
  | cons {x v r us us₁ us₂} : Put ns us x v us₁ → Binds ns r us₁ us₂ → Binds ns ((x, v) :: r) us us₂
noncomputable def VarsOk (N : Nat) (σ : List Addr) (ns : List (Str × NameKind)) (us : List (Option MV)) (m cm : Str → Option Value) : Prop :=
  us.length = ns.length ∧ (∀ (i : Nat) x mv, ns[i]? = some (x, .local) → us[i]? = some (some mv) → ∃ v, m x = some v ∧ VRel N σ mv v) ∧
    (∀ (i : Nat) x mv, ns[i]? = some (x, .cell) → us[i]? = some (some mv) → ∃ v, cm x = some v ∧ VRel N σ mv v)
theorem varsOk_step {N : Nat} {σ : List Addr} {ns : List (Str × NameKind)} (hn : (ns.map (·.1)).Nodup) {us us' : List (Option MV)} {m cm : Str → Option Value} {x : Str} {mv : MV} {v : Value} (h : VarsOk N σ ns us m cm) (hp : Put ns us x mv us') (V : VRel N σ mv v) :
    VarsOk N σ ns us' (if ns.lookup x = some .local then fun y => if y = x then some v else m y else m) (if ns.lookup x = some .local then cm else fun y => if y = x then some v else cm y) := by
  obtain ⟨i, k, hk, e1, hi, rfl⟩ := hp.at
  have hl : ns.lookup x = some k := lookup_nodup hn e1
  have other : ∀ (j : Nat) y k' w, ns[j]? = some (y, k') → (us.set i (some mv))[j]? = some (some w) → (y = x ∧ k' = k ∧ w = mv) ∨ (y ≠ x ∧ us[j]? = some (some w)) := fun j y k' w e f => by
    by_cases hij : i = j
    · subst hij
      rw [e1] at e; cases e
      rw [List.getElem?_set_self hi] at f
      exact .inl ⟨rfl, rfl, (Option.some.inj (Option.some.inj f)).symm⟩
    · rw [List.getElem?_set_ne hij] at f
      exact .inr ⟨fun z => hij (by subst z; exact names_inj hn e1 e), f⟩
  refine ⟨by rw [List.length_set]; exact h.1, fun j y w e f => ?_, fun j y w e f => ?_⟩
  · rcases other j y _ w e f with ⟨rfl, hk', rfl⟩ | ⟨hy, f⟩
    · rw [hl, ← hk', if_pos rfl]; exact ⟨v, by rw [if_pos rfl], V⟩
    · obtain ⟨v', a, b⟩ := h.2.1 j y w e f
      refine ⟨v', ?_, b⟩
      split
      · show (if y = x then some v else m y) = some v'
        rw [if_neg hy]; exact a
      · exact a
  · rcases other j y _ w e f with ⟨rfl, hk', rfl⟩ | ⟨hy, f⟩
    · rw [hl, ← hk', if_neg (by decide)]; exact ⟨v, by rw [if_pos rfl], V⟩
    · obtain ⟨v', a, b⟩ := h.2.2 j y w e f
      refine ⟨v', ?_, b⟩
      split
      · exact a
      · show (if y = x then some v else cm y) = some v'
        rw [if_neg hy]; exact a
theorem binds_ok {N : Nat} {σ : List Addr} {ns : List (Str × NameKind)} (hn : (ns.map (·.1)).Nodup) {kindOf : Str → Option NameKind} (hk : ∀ x, kindOf x = ns.lookup x) :
    ∀ {bs : List (Str × MV)} {vs : List Value} {us us' : List (Option MV)} {m cm : Str → Option Value}, Binds ns bs us us' → VRels N σ (bs.map (·.2)) vs → VarsOk N σ ns us m cm →
      VarsOk N σ ns us' (bindL kindOf ((bs.map (·.1)).zip vs) m) (bindC kindOf ((bs.map (·.1)).zip vs) cm)
  | [], [], _, _, _, _, .nil, _, h => h
  | (x, mv) :: bs, v :: vs, us, us', m, cm, .cons hp hb, V, h => by
    have := varsOk_step hn h hp V.1
    have z := binds_ok hn hk hb V.2 this
    show VarsOk N σ ns us' (bindL kindOf ((bs.map (·.1)).zip vs) (if kindOf x = some .local then fun y => if y = x then some v else m y else m)) (bindC kindOf ((bs.map (·.1)).zip vs) (if kindOf x = some .local then cm else fun y => if y = x then some v else cm y))
    rw [hk]; exact z
  | (x, mv) :: bs, [], us, us', m, cm, _, V, _ => V.elim
  | [], v :: vs, us, us', m, cm, _, V, _ => V.elim
theorem binds_kinds {ns : List (Str × NameKind)} (hn : (ns.map (·.1)).Nodup) : ∀ {bs : List (Str × MV)} {us us' : List (Option MV)}, Binds ns bs us us' → ∀ p ∈ bs, ns.lookup p.1 = some .local ∨ ns.lookup p.1 = some .cell
  | _, _, _, .cons hp hb, q, hq => by
    cases hq with
    | head =>
      obtain ⟨i, k, hk, e1, _, _⟩ := hp.at
      rw [lookup_nodup hn e1]
      rcases hk with rfl | rfl
      · exact .inl rfl
      · exact .inr rfl
    | tail _ hq => exact binds_kinds hn hb q hq
theorem cellsFrom_has {x : Str} : ∀ (names : List (Str × NameKind)) (n : Nat) (acc : List (Str × Addr)), names.lookup x = some .cell ∨ (acc.lookup x).isSome = true → ((cellsFrom n names acc).lookup x).isSome = true := cellsFrom_some
theorem cellsFrom_sub : ∀ (names : List (Str × NameKind)) (n : Nat) (acc : List (Str × Addr)) (q : Str × Addr), q ∈ cellsFrom n names acc → q ∈ acc ∨ n ≤ q.2
  | [], _, _, _, h => .inl h
  | (x, k) :: r, n, acc, q, h => by
    unfold cellsFrom at h
    split at h
    · rcases cellsFrom_sub r (n + 1) _ q h with h | h
      · cases h with
        | head => exact .inr (Nat.le_refl _)
        | tail _ h => exact .inl h
      · exact .inr (Nat.le_of_succ_le h)
    · exact cellsFrom_sub r n acc q h
structure ScopeOk (sc : Scope) : Prop where
  kind : sc.kind = .function
  gen : sc.isGenerator = false
  co : sc.isCoroutine = false
  nodup : (sc.names.map (·.1)).Nodup
  dbg : ∀ p ∈ sc.names, (p.1 == ("__debug__" : Str)) = false
  cdict : ∀ p ∈ sc.names, (p.1 == ("__classdict__" : Str)) = false
  free : ∀ p ∈ sc.names, p.2 ≠ .free
  cellnd : ((cellsFrom 0 sc.names []).map (·.1)).Nodup
section
variable {G : GC} {A : Around} {m : MH}
structure ExtO (G : GC) (own σ σ' : List Addr) (h h' : Heap) : Prop where
  sub : Sub σ σ'
  new : ∀ a ∈ σ', a ∈ σ ∨ a ∈ own ∨ h.objs.size ≤ a
  size : h.objs.size ≤ h'.objs.size
  keep : ∀ b o, b ∉ σ → b ∉ own → b ≠ G.T → h.get? b = some o → h'.get? b = some o
theorem Ext.o {G : GC} {own σ σ' : List Addr} {h h' : Heap} (x : Ext G own σ σ' h h') : ExtO G own σ σ' h h' := ⟨x.sub, fun a ha => (x.new a ha).imp id .inr, x.size, x.keep⟩
theorem ExtO.trans {G : GC} {own σ σ' σ'' : List Addr} {h h' h'' : Heap} (x : ExtO G own σ σ' h h') (y : ExtO G own σ' σ'' h' h'') : ExtO G own σ σ'' h h'' :=
  ⟨fun i a e => y.sub i a (x.sub i a e), fun a ha => (y.new a ha).elim (x.new a) fun q => .inr (q.imp id fun w => Nat.le_trans x.size w), Nat.le_trans x.size y.size,
    fun b o h1 h2 h3 e => y.keep b o (fun q => (x.new b q).elim h1 fun z => z.elim h2 fun w => Nat.lt_irrefl _ (Nat.lt_of_lt_of_le (Heap.lt_size e) w)) h2 h3 (x.keep b o h1 h2 h3 e)⟩
theorem ExtO.weaken {G : GC} {own own' σ σ' : List Addr} {h h' : Heap} (x : ExtO G own σ σ' h h') (p : ∀ a ∈ own, a ∈ own') : ExtO G own' σ σ' h h' :=
  ⟨x.sub, fun a ha => (x.new a ha).imp id fun q => q.imp (p a) id, x.size, fun b o h1 h2 h3 e => x.keep b o h1 (fun q => h2 (p b q)) h3 e⟩
noncomputable def ExecsH (c : Cx) (ss : List Stmt) (st : St) (Q : MF → MH → Prop) : Prop :=
  ∀ σ h t (Qs : Flow → Shared → Prop) Es, Inv c σ st h → (∀ σ' h' t' v y m', Q y m' → HRels c.G σ' m' h' → RF c.G.N σ' y v → ExtO c.G c.own σ σ' h h' → Qs v (c.G.S h' t')) → wpAny c.G.M c.A (execs ss c.env) Qs Es (c.G.S h t)
theorem ExecsH.of {c : Cx} {ss : List Stmt} {st : St} {Q : MF → MH → Prop} (h : ExecsTo c ss st fun f st' => Q f st'.m) : ExecsH c ss st Q := fun σ hh t Qs Es I q =>
  h σ hh t Qs Es I fun σ' h' t' v y st' hq I' V' E' => q σ' h' t' v y st'.m hq I'.hr V' E'.o
theorem xs_consH {c : Cx} {s : Stmt} {ss : List Stmt} {st : St} {Q : MF → MH → Prop} (h : ExecTo c s st fun f st₁ => match f with | .next => ExecsH c ss st₁ Q | f => Q f st₁.m) : ExecsH c (s :: ss) st Q := by
  intro σ hh t Qs Es I q
  refine wpAny_execs_cons (h σ hh t _ _ I fun σ₁ h₁ t₁ v f st₁ k₁ I₁ V₁ E₁ => ?_)
  cases f with
  | next => cases V₁; exact k₁ σ₁ h₁ t₁ _ _ I₁ fun σ' h' t' v y m' hq I' V' E' => q σ' h' t' v y m' hq I' V' (E₁.o.trans E')
  | brk => cases V₁; exact q σ₁ h₁ t₁ _ .brk st₁.m k₁ I₁.hr rfl E₁.o
  | cont => cases V₁; exact q σ₁ h₁ t₁ _ .cont st₁.m k₁ I₁.hr rfl E₁.o
  | ret x => obtain ⟨u, rfl, V₁⟩ := V₁; exact q σ₁ h₁ t₁ _ (.ret x) st₁.m k₁ I₁.hr ⟨u, rfl, V₁⟩ E₁.o
noncomputable def outOf (Q : MV → MH → Prop) : MF → MH → Prop
  | .ret v, m => Q v m
  | .next, m => Q .none m
  | _, _ => False
noncomputable def CT (G : GC) (A : Around) (f : MV) (as : List MV) (m : MH) (Q : MV → MH → Prop) : Prop :=
  ∀ σ h t v vs (R : Result → Shared → Prop), HRels G σ m h → VRel G.N σ f v → VRels G.N σ as vs →
    (∀ σ' h' t' u y m', Q y m' → HRels G σ' m' h' → VRel G.N σ' y u → Ext G [] σ σ' h h' → R (.ok (.ret u)) (G.S h' t')) → codeAny G.M A (.call v ⟨vs, []⟩) R (G.S h t)
theorem CT.ht {f : MV} {as : List MV} {Q : MV → MH → Prop} (h : CT G A f as m Q) : HT G A (RV G) callV (f :: as) m Q := by
  intro σ hh t vs Qs Es I V q
  match vs, V with
  | fv :: vs, V => exact wpAny_call (h σ hh t fv vs _ I V.1 V.2 fun σ' h' t' u y m' hq I' V' E' => q σ' h' t' u y m' hq I' V' E')
theorem CT.mono {f : MV} {as : List MV} {Q Q' : MV → MH → Prop} (h : CT G A f as m Q) (k : ∀ y m', Q y m' → Q' y m') : CT G A f as m Q' :=
  fun σ hh t v vs R I V Vs q => h σ hh t v vs R I V Vs fun σ' h' t' u y m' hq => q σ' h' t' u y m' (k y m' hq)
theorem call_fn {f : Addr} {fd : FuncData} {body : List Stmt} {bs : List (Str × MV)} {vars : List (Option MV)} {n : Nat} {Q : MV → MH → Prop} (hA : Good (n + 1) A) (F : FnAt G f fd) (S : ScopeOk fd.scope)
    (hbody : fd.body = .stmts body) (hcl : fd.closure = []) (hgl : fd.globals = mainGlobals) (hbl : fd.builtins = builtinsNs)
    (hbind : ∀ vs : List Value, vs.length = bs.length → bindArgs fd ⟨vs, []⟩ = pure ((bs.map (·.1)).zip vs))
    (hB : Binds fd.scope.names bs (fd.scope.names.map fun _ => none) vars)
    (H : ∀ A' L own, Good n A' → Cx.Ok ⟨G, A', callEnvC fd L f, fd.scope.names, own, own, []⟩ → ExecsH ⟨G, A', callEnvC fd L f, fd.scope.names, own, own, []⟩ body ⟨vars, m⟩ (outOf Q)) :
    CT G A (.st (.ref f)) (bs.map (·.2)) m Q := by
  intro σ h t fv vs R I Vf V q
  obtain ⟨rfl, _⟩ := Vf
  obtain ⟨⟨o, ho, hd⟩, hcd, hlim⟩ := F.here σ m h I
  have hlen : vs.length = bs.length := by rw [V.length, List.length_map]
  refine codeAny_call_function hA.room ho hd S.co S.gen hbody hcd ?_
  rw [hbind vs hlen]
  refine wpAny_pure ?_
  have hkinds := binds_kinds S.nodup hB
  rw [hcl]
  refine wpAny_tk (wpAny_newFunctionEnv_cells S.kind (fun x hx => ?_) fun env he s' X htk => ?_)
  · have hx' : x.1 ∈ bs.map (·.1) := (List.of_mem_zip hx).1
    obtain ⟨p, hp, e⟩ := List.mem_map.mp hx'
    rcases hkinds p hp with k | k
    · rw [← e]; exact .inl k
    · rw [← e]; exact .inr ⟨k, cellsFrom_has _ _ _ (.inl k)⟩
  subst he
  obtain ⟨h₁, tk, rfl, _⟩ := X.done
  obtain ⟨tk, rfl⟩ := tk_at (show G.t0 + t + 1 ≤ tk from htk)
  have keep := X.toInCall.keep
  have hs1 : h.objs.size ≤ h₁.objs.size := Nat.le_of_lt X.toInCall.ns.lt
  refine ⟨hlim.keeps keep, codeAny_func ?_⟩
  have henv : (newEnv fd.scope h.objs.size fd.globals (cellsFrom (h.objs.size + 1) fd.scope.names []) (fd.qualname ++ ".<locals>.") (some f) fd.code none fd.builtins) = callEnvC fd h.objs.size f := rfl
  have hkind : ∀ x, (callEnvC fd h.objs.size f).kindOf x = fd.scope.names.lookup x := fun _ => rfl
  have cs : ∀ p ∈ cellsFrom (h.objs.size + 1) fd.scope.names [], h.objs.size < p.2 := fun p hp => by
    rcases cellsFrom_sub _ _ _ p hp with z | z
    · cases z
    · exact z
  have hown : ∀ (i : Nat) x, fd.scope.names[i]? = some (x, .cell) → ∃ a, a ∈ h.objs.size :: (cellsFrom (h.objs.size + 1) fd.scope.names []).map (·.2) ∧ (callEnvC fd h.objs.size f).cells.lookup x = some a := fun i x e => by
    obtain ⟨a, ha⟩ := Option.isSome_iff_exists.mp (cellsFrom_has fd.scope.names (h.objs.size + 1) [] (.inl (lookup_nodup S.nodup e)))
    exact ⟨a, .tail _ (List.mem_map.mpr ⟨_, mem_of_lookup ha, rfl⟩), ha⟩
  have hok : Cx.Ok ⟨G, A.deeper (callEnvC fd h.objs.size f), callEnvC fd h.objs.size f, fd.scope.names, h.objs.size :: (cellsFrom (h.objs.size + 1) fd.scope.names []).map (·.2), h.objs.size :: (cellsFrom (h.objs.size + 1) fd.scope.names []).map (·.2), []⟩ := by
    refine ⟨S.kind, S.nodup, hgl, hbl, S.dbg, S.cdict, .head _, .head _, fun a ha => ha, X.apart, fun x hx => ?_, fun a ha => ?_, I.tlt, hA.1, fun i x k e => .inl (lookup_nodup S.nodup e), fun i x e => hown i x e, fun i x k hk e => ?_⟩
    · exact Nat.ne_of_gt (cs x hx)
    · cases ha with
      | head => exact I.size
      | tail _ ha =>
        obtain ⟨p, hp, rfl⟩ := List.mem_map.mp ha
        exact Nat.le_trans I.size (Nat.le_of_lt (cs p hp))
    · rcases hk with rfl | rfl
      · exact hown i x e
      · exact absurd rfl (S.free _ (List.mem_of_getElem? e))
  have hv0 : VarsOk G.N σ fd.scope.names (fd.scope.names.map fun _ => none) (fun _ => none) (fun _ => none) := by
    refine ⟨by rw [List.length_map], fun i x mv _ e => ?_, fun i x mv _ e => ?_⟩ <;> (rw [List.getElem?_map] at e; cases hq : fd.scope.names[i]? <;> rw [hq] at e <;> cases e)
  have hv := binds_ok (kindOf := (callEnvC fd h.objs.size f).kindOf) S.nodup hkind hB V hv0
  have hcel : ∀ p ∈ cellsFrom (h.objs.size + 1) fd.scope.names [], ∃ v, h₁.IsCell p.2 v := fun p hp => ⟨_, X.cell p.1 p.2 (lookup_of_mem_nodup (cellsFrom_names fd.scope.names 0 (h.objs.size + 1) [] [] rfl ▸ S.cellnd) hp)⟩
  have I₁ : Inv ⟨G, A.deeper (callEnvC fd h.objs.size f), callEnvC fd h.objs.size f, fd.scope.names, h.objs.size :: (cellsFrom (h.objs.size + 1) fd.scope.names []).map (·.2), h.objs.size :: (cellsFrom (h.objs.size + 1) fd.scope.names []).map (·.2), []⟩ σ ⟨vars, m⟩ h₁ := by
    refine ⟨I.same (fun b o _ e => keep b o e) hs1, ⟨hv.1, ⟨_, X.toInCall.ns, hv.2.1⟩, fun a ha => ?_, fun p hp _ => hcel p hp, fun i x k mv hk e1 e2 => ?_⟩, fun a ha z => ?_, fun q hq => (nomatch hq)⟩
    · cases ha with
      | head => exact X.toInCall.ns.lt
      | tail _ ha =>
        obtain ⟨p, hp, rfl⟩ := List.mem_map.mp ha
        obtain ⟨v, z⟩ := hcel p hp
        exact z.lt
    · rcases hk with rfl | rfl
      · obtain ⟨v, a, b⟩ := hv.2.2 i x mv e1 e2
        obtain ⟨ad, ha⟩ := Option.isSome_iff_exists.mp (cellsFrom_has fd.scope.names (h.objs.size + 1) [] (.inl (lookup_nodup S.nodup e1)))
        exact ⟨ad, v, .tail _ (List.mem_map.mpr ⟨_, mem_of_lookup ha, rfl⟩), ha, a ▸ X.cell x ad ha, b⟩
      · exact absurd rfl (S.free _ (List.mem_of_getElem? e1))
    · have hlt := (I.low a z).2
      cases ha with
      | head => exact Nat.lt_irrefl _ hlt
      | tail _ ha =>
        obtain ⟨p, hp, rfl⟩ := List.mem_map.mp ha
        exact Nat.lt_asymm hlt (cs p hp)
  refine H _ h.objs.size _ (hA.deeper _) hok σ h₁ tk _ _ I₁ fun σ' h' t' v y m' hq I' R' E' => ?_
  have EE : Ext G [] σ σ' h h' := by
    refine ⟨E'.sub, fun a ha => (E'.new a ha).imp id fun z => z.elim (fun w => by
      cases w with
      | head => exact Nat.le_refl _
      | tail _ w =>
        obtain ⟨p, hp, rfl⟩ := List.mem_map.mp w
        exact Nat.le_of_lt (cs p hp)) fun w => Nat.le_trans hs1 w, Nat.le_trans hs1 E'.size, fun b o h1 _ h3 e => E'.keep b o h1 (fun z => ?_) h3 (keep b o e)⟩
    have hlt := Heap.lt_size e
    cases z with
    | head => exact Nat.lt_irrefl _ hlt
    | tail _ z =>
      obtain ⟨p, hp, rfl⟩ := List.mem_map.mp z
      exact Nat.lt_asymm hlt (cs p hp)
  cases y with
  | ret x => obtain ⟨u, rfl, V'⟩ := R'; exact q σ' h' t' u x m' hq I' V' EE
  | next => cases R'; exact q σ' h' t' .none .none m' hq I' rfl EE
  | brk => exact hq.elim
  | cont => exact hq.elim
end
open PySem PySem.Calls PyProof.Rows PySem.W Builtin Builtin.ObjectAttr
theorem str_comm (x y : Str) : (x == y) = (y == x) := Bool.eq_iff_iff.mpr (by rw [beq_iff_eq, beq_iff_eq]; exact eq_comm)
theorem DRel.find {N : Nat} {σ : List Addr} {name : Str} : ∀ {es : List DictEntry} {fs : List (Str × MV)}, DRel N σ es fs →
    match fs.lookup name with
    | some mv => ∃ e, es.find? (·.key.isStr name) = some e ∧ VRel N σ mv e.val
    | none => es.find? (·.key.isStr name) = none
  | [], [], _ => rfl
  | e :: es, (x, mv) :: fs, h => by
    obtain ⟨⟨t, hk⟩, V, r⟩ := h
    have hk' : e.key = .str x t := hk
    have hb : e.key.isStr name = (x == name) := by rw [hk']; rfl
    have ih := DRel.find (name := name) r
    rw [List.lookup_cons, List.find?_cons, hb, str_comm name x]
    cases x == name with
    | true => exact ⟨e, rfl, V⟩
    | false => exact ih
  | [], _ :: _, h => h.elim
  | _ :: _, [], h => h.elim
theorem DRel.noref {N : Nat} {σ : List Addr} : ∀ {es : List DictEntry} {fs : List (Str × MV)}, DRel N σ es fs → es.any (·.refKey) = false
  | [], [], _ => rfl
  | e :: es, (x, mv) :: fs, h => by
    obtain ⟨⟨t, hk⟩, V, r⟩ := h
    rw [List.any_cons, DRel.noref r]
    have : e.refKey = false := by unfold DictEntry.refKey; rw [hk]
    rw [this]; rfl
  | [], _ :: _, h => h.elim
  | _ :: _, [], h => h.elim
theorem DRel.getL_some {N : Nat} {σ : List Addr} {name : Str} {es : List DictEntry} {fs : List (Str × MV)} {mv : MV} (h : DRel N σ es fs) (e : fs.lookup name = some mv) : ∃ v, getL name es = some (some v) ∧ VRel N σ mv v := by
  have := h.find (name := name)
  rw [e] at this
  obtain ⟨en, a, b⟩ := this
  exact ⟨en.val, by unfold getL; rw [a], b⟩
theorem DRel.getL_none {N : Nat} {σ : List Addr} {name : Str} {es : List DictEntry} {fs : List (Str × MV)} (h : DRel N σ es fs) (e : fs.lookup name = none) : getL name es = some none := by
  have := h.find (name := name)
  rw [e] at this
  unfold getL; rw [this, h.noref]; rfl
noncomputable def putF (name : Str) (v : MV) : List (Str × MV) → List (Str × MV)
  | [] => [(name, v)]
  | f :: r => if f.1 == name then (f.1, v) :: r else f :: putF name v r
theorem DRel.put {N : Nat} {σ : List Addr} {name : Str} {hsh : Int} {t : Tok} {mv : MV} {v : Value} (V : VRel N σ mv v) : ∀ {es : List DictEntry} {fs : List (Str × MV)}, DRel N σ es fs → DRel N σ (putL name hsh (.str name t) v es) (putF name mv fs)
  | [], [], _ => ⟨⟨t, rfl⟩, V, trivial⟩
  | e :: es, (x, u) :: fs, h => by
    obtain ⟨⟨t', hk⟩, U, r⟩ := h
    have hk' : e.key = .str x t' := hk
    have hb : e.key.isStr name = (x == name) := by rw [hk']; rfl
    unfold putL putF
    rw [hb]
    cases hx : x == name with
    | true => rw [if_pos rfl, if_pos rfl]; exact ⟨⟨t', hk⟩, V, r⟩
    | false => rw [if_neg (by decide), if_neg (by decide)]; exact ⟨⟨t', hk⟩, U, DRel.put V r⟩
  | [], _ :: _, h => h.elim
  | _ :: _, [], h => h.elim
theorem DRel.len {N : Nat} {σ : List Addr} : ∀ {es : List DictEntry} {fs : List (Str × MV)}, DRel N σ es fs → es.length = fs.length
  | [], [], _ => rfl
  | _ :: _, _ :: _, h => by rw [List.length_cons, List.length_cons, DRel.len h.2.2]
  | [], _ :: _, h => h.elim
  | _ :: _, [], h => h.elim
theorem putF_len (name : Str) (v : MV) : ∀ fs : List (Str × MV), (putF name v fs).length ≤ fs.length + 1
  | [] => Nat.le_refl _
  | f :: r => by
    unfold putF
    split
    · exact Nat.le_succ _
    · exact Nat.succ_le_succ (putF_len name v r)
structure ClsK (K : Frag) (C : Addr) : Prop where
  ga : findIn K (.ref C) "__getattribute__" = some (some (.builtin "object.__getattribute__"))
  gat : findIn K (.ref C) "__getattr__" = some none
  sa : findIn K (.ref C) "__setattr__" = some (some (.builtin "object.__setattr__"))
  over : plainOver K C = true
  dict : hasDictIn K C = true
noncomputable def handedM : MV → Bool
  | .st (.builtin _) => false
  | _ => true
theorem handedM_ok {N : Nat} {σ : List Addr} {x : MV} {v : Value} (V : VRel N σ x v) (h : handedM x = true) : handedIn v = true := by
  cases x with
  | none => cases V; rfl
  | bool b => cases V; rfl
  | int i => obtain ⟨t, rfl⟩ := V; rfl
  | str s => obtain ⟨t, rfl⟩ := V; rfl
  | ref i => obtain ⟨a, _, rfl⟩ := V; rfl
  | st u => obtain ⟨rfl, hs⟩ := V; cases v <;> first | rfl | cases h
  | strT s t => cases V; rfl
section
variable {G : GC} {A : Around} {m : MH}
theorem HRels.inst {σ : List Addr} {hh : Heap} (X : HRels G σ m hh) {i d : Nat} {C : Addr} {fs : List (Str × MV)} {v : Value} (hi : m.H i = some (.inst C d)) (hd : m.H d = some (.dict fs)) (V : VRel G.N σ (.ref i) v) :
    ∃ a dx es n, σ[i]? = some a ∧ v = .ref a ∧ σ[d]? = some dx ∧ hh.get? dx = some (dictOf es n) ∧ InstAt hh a (instObj C dx) C (some (dictOf es n)) ∧ DRel G.N σ es fs := by
  obtain ⟨a, ea, rfl⟩ := V
  obtain ⟨dx, e1, hx⟩ := X.obj i _ a hi ea
  obtain ⟨es, n, hdx, DR⟩ := X.obj d _ dx hd e1
  exact ⟨a, dx, es, n, ea, rfl, e1, hdx, ⟨hx, rfl, rfl, hdx⟩, DR⟩
theorem get_inst {name : Str} {i d : Nat} {C : Addr} {fs : List (Str × MV)} {y : MV} {Q : MV → MH → Prop} (K : ClsK G.K C) (hi : m.H i = some (.inst C d)) (hd : m.H d = some (.dict fs)) (hno : findIn G.K (.ref C) name = some none)
    (hl : fs.lookup name = some y) (hq : Q y m) (hh : handedM y = true := by rfl) : HT G A (RV G) (ap1 fun v => getAttr v name true) [.ref i] m Q := by
  refine HT.read _ (fun σ h t vs Qs Es I V q => ?_) hq
  obtain ⟨v, rfl, V₁⟩ := V.one
  obtain ⟨a, dx, es, n, ea, rfl, e1, hdx, IA, DR⟩ := I.inst hi hd V₁
  obtain ⟨v, hv, W⟩ := DR.getL_some hl
  exact get_value I.kIn IA K.ga (findObj_own K.dict hno rfl hv) (handedM_ok W hh) (q _ _ W)
theorem meth_inst {name : Str} {i d : Nat} {C f : Addr} {fs : List (Str × MV)} {Q : MV × List MV → MH → Prop} (K : ClsK G.K C) (hi : m.H i = some (.inst C d)) (hd : m.H d = some (.dict fs)) (hf : findIn G.K (.ref C) name = some (some (.ref f)))
    (ht : isFn G.K (.ref f) = true) (hN : f < G.N) (hl : fs.lookup name = none) (hq : Q (.st (.ref f), [.ref i]) m) : ∀ pl, HT G A (RM G) (ap1 fun v => getMethod v name pl) [.ref i] m Q := by
  intro pl
  refine HT.read _ (fun σ h t vs Qs Es I V q => ?_) hq
  obtain ⟨v, rfl, V₁⟩ := V.one
  obtain ⟨a, dx, es, n, ea, rfl, e1, hdx, IA, DR⟩ := I.inst hi hd V₁
  exact method_fn I.kIn IA K.ga K.gat hf (beq_iff_eq.mp ht) (by show (lookIn name (dictOf es n)).map _ = _; rw [lookIn_dict, DR.getL_none hl]; rfl) (q (.ref f, [.ref a]) _ ⟨⟨rfl, hN⟩, ⟨_, ea, rfl⟩, trivial⟩)
theorem meth_own {name : Str} {i d : Nat} {C : Addr} {fs : List (Str × MV)} {y : MV} {Q : MV × List MV → MH → Prop} (K : ClsK G.K C) (hi : m.H i = some (.inst C d)) (hd : m.H d = some (.dict fs)) (hno : findIn G.K (.ref C) name = some none)
    (hl : fs.lookup name = some y) (hq : Q (y, []) m) (hh : handedM y = true := by rfl) : ∀ pl, HT G A (RM G) (ap1 fun v => getMethod v name pl) [.ref i] m Q := by
  intro pl
  refine HT.read _ (fun σ h t vs Qs Es I V q => ?_) hq
  obtain ⟨v, rfl, V₁⟩ := V.one
  obtain ⟨a, dx, es, n, ea, rfl, e1, hdx, IA, DR⟩ := I.inst hi hd V₁
  obtain ⟨v, hv, W⟩ := DR.getL_some hl
  exact method_usual I.kIn IA K.ga K.gat hno rfl (get_value I.kIn IA K.ga (findObj_own K.dict hno rfl hv) (handedM_ok W hh) (q (v, []) _ ⟨W, trivial⟩))
theorem get_bound {name : Str} {i d : Nat} {C f : Addr} {fs : List (Str × MV)} {Q : MV → MH → Prop} (K : ClsK G.K C) (hi : m.H i = some (.inst C d)) (hd : m.H d = some (.dict fs)) (hf : findIn G.K (.ref C) name = some (some (.ref f)))
    (ht : typeIn G.K (.ref f) = some (.type "function")) (hg : specialIn G.K (.ref f) "__get__" = some (some (.builtin "function.__get__"))) (hs : takesIn G.K (.ref f) = some false) (hc : copiedNames.contains name = false)
    (hl : fs.lookup name = none) (hq : Q (.ref m.n) (m.alloc (.meth f (.ref i)))) : HT G A (RV G) (ap1 fun v => getAttr v name true) [.ref i] m Q := by
  intro σ h t vs Qs Es I V q
  obtain ⟨v, rfl, V₁⟩ := V.one
  obtain ⟨a, dx, es, n, ea, rfl, e1, hdx, IA, DR⟩ := I.inst hi hd V₁
  have hff : findObj G.K C (some (dictOf es n)) name = some (.bind (.builtin "function.__get__") (.ref f)) := by
    obtain ⟨cd, hcd, hdd⟩ := any_some K.dict
    unfold findObj
    have ho : W.ownOf cd (some (dictOf es n)) name = some none := by unfold W.ownOf; rw [if_pos hdd]; exact DR.getL_none hl
    rw [hcd, Option.bind_some, hf, Option.bind_some]
    show (specialIn G.K (.ref f) (Str.ofString "__get__")).bind _ = _
    rw [hg, Option.bind_some]
    show (takesIn G.K (.ref f)).bind _ = _
    rw [hs, Option.bind_some]
    show (W.ownOf cd (some (dictOf es n)) name).bind _ = _
    rw [ho, Option.bind_some]
    show (if (copiedNames.contains name && _) = true then _ else _) = _
    rw [hc, Bool.false_and, if_neg Bool.false_ne_true]
  refine get_bind I.kIn IA K.ga hff K.gat (wpAny_call (fn_get (s := { G.S h t with toks := (G.S h t).toks + 1 }) I.kIn ht ?_))
  refine handed_on rfl ?_
  exact q _ _ (t + 1) _ _ _ hq (I.alloc ⟨_, ⟨a, sub_snoc i a ea, rfl⟩, Heap.get?_push_size _ rfl⟩) ⟨_, I.last _, rfl⟩ (Ext.alloc _)
theorem set_inst {name : Str} {i d : Nat} {C : Addr} {fs : List (Str × MV)} {y : MV} {Q : Unit → MH → Prop} (K : ClsK G.K C) (hi : m.H i = some (.inst C d)) (hd : m.H d = some (.dict fs)) (hno : findIn G.K (.ref C) name = some none) (hz : fs.length ≤ 900)
    (hq : Q () (m.set d (.dict (putF name y fs)))) : HT G A RU (ap2 fun a b => setAttr a name b) [.ref i, y] m Q := by
  intro σ h t vs Qs Es I V q
  obtain ⟨v, u, rfl, V₁, U⟩ := V.two
  obtain ⟨a, dx, es, n, ea, rfl, e1, hdx, IA, DR⟩ := I.inst hi hd V₁
  show wpAny _ _ (setAttr (.ref a) name u) _ _ _
  have X := I.kIn
  refine set_plain X IA K.sa (osa_open (s := { G.S h t with toks := (G.S h t).toks + 1 }) X IA K.over (r := none) (by unfold takerIn; rw [hno]; rfl) fun b => ?_)
  obtain ⟨cd, hc, hd'⟩ := any_some K.dict
  refine wpAny_bind (wpAny_pure (wpAny_bind (wpAny_bind (wpAny_loadPart IA.at_ (wpAny_bind ((looks_clsIn X hc).here ?_))))))
  rw [hd']
  refine wpAny_pure (a := some dx) (wpAny_bind (wpAny_pure (wpAny_bind ?_)))
  unfold nsSet
  refine wpAny_bind (wpAny_bind (wpAny_askSetting (wpAny_pure (wpAny_bind (wpAny_mkText (wpAny_bind (wpAny_loadPart hdx ?_)))))))
  dsimp only
  have c : (!es.toArray.any (·.key.isStr name) && es.toArray.any (·.refKey)) = false := by
    have := DR.noref
    rw [← Array.any_toList, ← Array.any_toList, this, Bool.and_false]
  rw [aRefKeyMayBeTheName_at, c]
  have hup : (h.update dx (Obj.putName name (PyData.keyHash G.w.params name) (.str name ((G.S h t).toks + 1)) u)).get? dx = some (dictOf (putL name (PyData.keyHash G.w.params name) (.str name ((G.S h t).toks + 1)) u es) (putN name es n)) := by
    rw [← putName_dict]; exact Heap.get?_update_self _ hdx (by rw [putName_dict]; rfl)
  refine wpAny_updatePart hdx ?_
  refine wpAny_bind (wpAny_lookBehind (hup : _) (pastItsLine_dict ?_) ?_)
  · have := (DR.put (name := name) (hsh := PyData.keyHash G.w.params name) (t := (G.S h t).toks + 1) U).len
    have hp := putF_len name y fs
    rw [List.size_toArray, sizeLine_eq]; omega
  · exact wpAny_pure (q σ _ (t + 1 + 1) _ () _ hq (I.upd e1 (Heap.SameBut.update ..) ⟨_, _, hup, DR.put U⟩) trivial (Ext.upd e1 (Heap.SameBut.update ..)))
end
noncomputable def isTup : Expr → Bool
  | .Tuple .. => true
  | _ => false
structure Src where
  κ : Type
  can : κ → MH → Prop
  step : κ → MH → MV → MH → κ → Prop
  fin : κ → MH → MH → Prop
  k0 : κ
  tup : Bool
  cmp : Bool := true
structure Source (G : GC) (A : Around) (it : Addr) (ws : List Addr) (X : Src) (P : X.κ → List Addr → Heap → Prop) : Prop where
  next : ∀ {k σ h t m target} {Qs : Value → Shared → Prop} {Es}, HRels G σ m h → P k σ h → X.can k m → (X.tup = true → isTup target = true) → (∀ a ∈ ws, a ∉ σ ∧ G.N ≤ a ∧ a < h.objs.size) →
    (∀ σ' h' t' v y m' k', X.step k m y m' k' → HRels G σ' m' h' → VRel G.N σ' y v → P k' σ' h' → Ext G ws σ σ' h h' → Qs v (G.S h' t')) →
    wpAny G.M A (pyNext (.ref it)) (fun r s₁ => ∃ v, r = some v ∧ wpAny G.M A (letOwnedTupleGo target (.ref it) v) (fun _ s => Qs v s) Es s₁) Es (G.S h t)
  done : ∀ {k σ h t m m'} {Qs : Option Value → Shared → Prop} {Es}, HRels G σ m h → P k σ h → X.fin k m m' → (∀ a ∈ ws, a ∉ σ ∧ G.N ≤ a ∧ a < h.objs.size) →
    (∀ σ' h' t', HRels G σ' m' h' → Ext G ws σ σ' h h' → Qs none (G.S h' t')) → wpAny G.M A (pyNext (.ref it)) Qs Es (G.S h t)
  self : ∀ {k σ h t} {Qs : Value → Shared → Prop} {Es}, X.cmp = true → P k σ h → Qs (.ref it) (G.S h t) → wpAny G.M A (pyIter (.ref it)) Qs Es (G.S h t)
  frame : ∀ {k σ σ' own h h'}, P k σ h → (∀ a ∈ ws, a ∉ own ∧ a ∉ σ ∧ a ≠ G.T) → Ext G own σ σ' h h' → P k σ' h'
section
variable {c : Cx} {st : St}
theorem Inv.stepW {σ σ' : List Addr} {st : St} {m' : MH} {h h' : Heap} {ws : List Addr} (hc : c.Ok) (X : Inv c σ st h) (H : HRels c.G σ' m' h') (E : Ext c.G ws σ σ' h h') (hw : ∀ a ∈ ws, a ∉ c.fp) : Inv c σ' { st with m := m' } h' :=
  ⟨H, X.fr.keep hc E.sub E.size fun a ha o e => E.keep a o (X.apart a ha) (fun z => hw a z ha) (fun z => by have := hc.low a ha; rw [z] at this; exact Nat.lt_irrefl _ (Nat.lt_of_lt_of_le hc.tlt this)) e, E.apart X.fr X.apart,
    fun q hq => let ⟨a, e1, e2⟩ := X.lnk q hq; ⟨a, e1, E.sub _ _ e2⟩⟩
theorem Ext.shed {G : GC} {own ws σ σ' : List Addr} {h h' : Heap} (E : Ext G (own ++ ws) σ σ' h h') (hw : ∀ a ∈ ws, h.objs.size ≤ a) : Ext G own σ σ' h h' :=
  ⟨E.sub, E.new, E.size, fun b o h1 h2 h3 e => E.keep b o h1 (fun z => by
    rcases List.mem_append.mp z with z | z
    · exact h2 z
    · exact Nat.lt_irrefl _ (Nat.lt_of_lt_of_le (Heap.lt_size e) (hw b z))) h3 e⟩
noncomputable def ForN (c : Cx) (target : Expr) (body orelse : List Stmt) (X : Src) : Nat → X.κ → St → (MF → St → Prop) → Prop
  | 0, _, _, _ => False
  | n + 1, k, st, Q => (X.can k st.m ∧ ∀ v m' k', X.step k st.m v m' k' → AsgTo c target v { st with m := m' } fun st₁ => ExecsTo c body st₁ fun f st₂ => match f with
        | .next | .cont => ForN c target body orelse X n k' st₂ Q
        | .brk => Q .next st₂
        | .ret v => Q (.ret v) st₂) ∨ (∃ m', X.fin k st.m m' ∧ ExecsTo c orelse { st with m := m' } Q)
theorem apart_mono {G : GC} {ws own σ σ' : List Addr} {h h' : Heap} (hw : ∀ a ∈ ws, a ∉ σ ∧ G.N ≤ a ∧ a < h.objs.size) (E : Ext G own σ σ' h h') : ∀ a ∈ ws, a ∉ σ' ∧ G.N ≤ a ∧ a < h'.objs.size := fun a ha =>
  ⟨fun z => (E.new a z).elim (hw a ha).1 fun y => Nat.lt_irrefl _ (Nat.lt_of_lt_of_le (hw a ha).2.2 y), (hw a ha).2.1, Nat.lt_of_lt_of_le (hw a ha).2.2 E.size⟩
theorem for_run (hc : c.Ok) {it : Addr} {ws : List Addr} {X : Src} {P : X.κ → List Addr → Heap → Prop} (S : Source c.G c.A it ws X P) {target : Expr} {body orelse : List Stmt} {n : Nat} {k : X.κ} {Q : MF → St → Prop} (H : ForN c target body orelse X n k st Q)
    (ht : X.tup = true → isTup target = true) {σ : List Addr} {h : Heap} {t : Nat} {Qs : Flow → Shared → Prop} {Es : Value → Shared → Prop} (I : Inv c σ st h) (p : P k σ h)
    (hw : ∀ a ∈ ws, a ∉ σ ∧ c.G.N ≤ a ∧ a < h.objs.size) (hf : ∀ a ∈ ws, a ∉ c.fp)
    (q : ∀ σ' h' t' v y st', Q y st' → Inv c σ' st' h' → RF c.G.N σ' y v → Ext c.G (c.own ++ ws) σ σ' h h' → Qs v (c.G.S h' t')) :
    codeAny c.G.M c.A (.forLoop target (.ref it) body orelse c.env) (fun r s' => match r with | .ok f => Qs f s' | .error e => cameBackBy c.G.M c.A c.env Es e s') (c.G.S h t) := by
  have hfo : ∀ a ∈ ws, a ∉ c.own := fun a ha z => hf a ha (hc.sub a z)
  have hfw : ∀ a ∈ c.fp, a ∉ ws := fun a ha z => hf a z ha
  refine codeAny_forLoop_any (fun n s => ∃ k σ₁ h₁ t₁ st₁, s = c.G.S h₁ t₁ ∧ Inv c σ₁ st₁ h₁ ∧ P k σ₁ h₁ ∧ ForN c target body orelse X n k st₁ Q ∧ Ext c.G (c.own ++ ws) σ σ₁ h h₁ ∧ ∀ a ∈ ws, a ∉ σ₁ ∧ c.G.N ≤ a ∧ a < h₁.objs.size) ?_ n ⟨k, σ, h, t, st, rfl, I, p, H, .refl, hw⟩
  rintro n s ⟨k, σ₁, h₁, t₁, st₁, rfl, I₁, p₁, H, E₁, hw₁⟩
  cases n with
  | zero => exact H.elim
  | succ n =>
    rcases H with ⟨hcan, H⟩ | ⟨m', hfin, H⟩
    · refine wpAny_mono (S.next (Qs := fun v s₁' => wpAny c.G.M c.A (assign target c.env v) (fun _ s₂ => wpAny c.G.M c.A (execs body c.env) (fun f s₃ => match f with
            | .next | .cont => ∃ m, m < n + 1 ∧ ∃ k σ₁ h₁ t₁ st₁, s₃ = c.G.S h₁ t₁ ∧ Inv c σ₁ st₁ h₁ ∧ P k σ₁ h₁ ∧ ForN c target body orelse X m k st₁ Q ∧ Ext c.G (c.own ++ ws) σ σ₁ h h₁ ∧ ∀ a ∈ ws, a ∉ σ₁ ∧ c.G.N ≤ a ∧ a < h₁.objs.size
            | .brk => Qs .next s₃
            | .ret v => Qs (.ret v) s₃) (notedBy c.G.M c.A c.env fun e s' => cameBackBy c.G.M c.A c.env Es e s') s₂) (notedBy c.G.M c.A c.env fun e s' => cameBackBy c.G.M c.A c.env Es e s') s₁') I₁.hr p₁ hcan ht hw₁ ?_) (fun r s₁ z => ?_) fun _ _ z => z
      · intro σ₂ h₂ t₂ v y m' k' hs H₂ V₂ p₂ E₂
        have I₂ := I₁.stepW hc H₂ E₂ hf
        have hw₂ := apart_mono hw₁ E₂
        refine H y m' k' hs σ₂ h₂ t₂ v _ _ I₂ V₂ fun σ₃ h₃ t₃ st₃ k₃ I₃ E₃ => ?_
        refine k₃ σ₃ h₃ t₃ _ _ I₃ fun σ₄ h₄ t₄ v f st₄ k₄ I₄ V₄ E₄ => ?_
        have E34 := E₃.trans E₄
        have E := (E₁.trans (E₂.weaken fun a ha => List.mem_append_right _ ha)).trans (E34.weaken fun a ha => List.mem_append_left _ ha)
        have p₄ : P k' σ₄ h₄ := S.frame p₂ (fun a ha => ⟨hfo a ha, (hw₂ a ha).1, fun z => Nat.lt_irrefl _ (Nat.lt_of_lt_of_le hc.tlt (z ▸ (hw₂ a ha).2.1))⟩) E34
        have hw₄ := apart_mono hw₂ E34
        cases f with
        | next => cases V₄; exact ⟨n, Nat.lt_succ_self _, k', σ₄, h₄, t₄, st₄, rfl, I₄, p₄, k₄, E, hw₄⟩
        | cont => cases V₄; exact ⟨n, Nat.lt_succ_self _, k', σ₄, h₄, t₄, st₄, rfl, I₄, p₄, k₄, E, hw₄⟩
        | brk => cases V₄; exact q σ₄ h₄ t₄ _ .next st₄ k₄ I₄ rfl E
        | ret x => obtain ⟨u, rfl, V₄⟩ := V₄; exact q σ₄ h₄ t₄ _ (.ret x) st₄ k₄ I₄ ⟨u, rfl, V₄⟩ E
      · obtain ⟨v, rfl, z⟩ := z
        exact z
    · refine S.done I₁.hr p₁ hfin hw₁ fun σ₂ h₂ t₂ H₂ E₂ => ?_
      refine H σ₂ h₂ t₂ _ _ (I₁.stepW hc H₂ E₂ hf) fun σ' h' t' v y st' hq I' V' E' => q σ' h' t' v y st' hq I' V' ((E₁.trans (E₂.weaken fun a ha => List.mem_append_right _ ha)).trans (E'.weaken fun a ha => List.mem_append_left _ ha))
noncomputable def IterE (c : Cx) (e : Expr) (st : St) (K : Src → St → Prop) : Prop :=
  ∀ σ h t (Qs : Value → Shared → Prop) Es, Inv c σ st h →
    (∀ σ' h' t' it ws X P st', K X st' → Source c.G c.A it ws X P → Inv c σ' st' h' → P X.k0 σ' h' → (∀ a ∈ ws, h.objs.size ≤ a ∧ a < h'.objs.size ∧ a ∉ σ') → Ext c.G c.own σ σ' h h' → Qs (.ref it) (c.G.S h' t')) →
    wpAny c.G.M c.A (eval e c.env) (fun x s₁ => wpAny c.G.M c.A (pyIter x) Qs Es s₁) Es (c.G.S h t)
noncomputable def IterV (G : GC) (A : Around) (v : MV) (m : MH) (K : Src → MH → Prop) : Prop :=
  ∀ σ h t u (Qs : Value → Shared → Prop) Es, HRels G σ m h → VRel G.N σ v u →
    (∀ h' t' it ws X P, K X m → Source G A it ws X P → HRels G σ m h' → P X.k0 σ h' → (∀ a ∈ ws, h.objs.size ≤ a ∧ a < h'.objs.size ∧ a ∉ σ) → Ext G [] σ σ h h' → Qs (.ref it) (G.S h' t')) →
    wpAny G.M A (pyIter u) Qs Es (G.S h t)
theorem ie_val {e : Expr} {K : Src → St → Prop} (hc : c.Ok) (h : EvalTo c e st fun v st₁ => IterV c.G c.A v st₁.m fun X m => K X { st₁ with m := m }) : IterE c e st K := by
  intro σ hh t Qs Es I q
  refine h σ hh t _ _ I fun σ₁ h₁ t₁ u v st₁ k₁ I₁ V₁ E₁ => ?_
  refine k₁ σ₁ h₁ t₁ u _ _ I₁.hr V₁ fun h' t' it ws X P hK S H' p hw E' => ?_
  exact q σ₁ h' t' it ws X P _ hK S (I₁.step hc H' E') p (fun a ha => ⟨Nat.le_trans E₁.size (hw a ha).1, (hw a ha).2⟩) (E₁.trans (E'.weaken fun _ z => (nomatch z)))
theorem x_for {target iter : Expr} {body orelse : List Stmt} {pos : Pos} {Q : MF → St → Prop} (hc : c.Ok) (h : IterE c iter st fun X st₁ => (X.tup = true → isTup target = true) ∧ ∃ n, ForN c target body orelse X n X.k0 st₁ Q)
    (hs : ∀ x, foldedSetIterable iter c.env x = pure x := by intro _; rfl) : ExecTo c (.For target iter body orelse pos) st Q := by
  intro σ hh t Qs Es I q
  refine wpAny_For (h σ hh t _ _ I fun σ₁ h₁ t₁ it ws X P st₁ hK S I₁ p hw E₁ => ?_) hs
  obtain ⟨htup, n, H⟩ := hK
  exact for_run hc S H htup I₁ p (fun a ha => ⟨(hw a ha).2.2, Nat.le_trans I.hr.size (hw a ha).1, (hw a ha).2.1⟩) (fun a ha z => Nat.lt_irrefl _ (Nat.lt_of_lt_of_le (I.fr.lt a z) (hw a ha).1))
    fun σ' h' t' v y st' hq I' V' E' => q σ' h' t' v y st' hq I' V' (Ext.shed ((E₁.weaken fun a ha => List.mem_append_left _ ha).trans E') fun a ha => (hw a ha).1)
end
theorem go_plain {M : Model} {A : Around} {s : Shared} {target : Expr} {it : Addr} {v : Value} {o : Obj} {n : String} {Q : Unit → Shared → Prop} {Es : Value → Shared → Prop} (ho : s.heap.get? it = some o) (hc : o.cls = .type n)
    (hn : ["enumerate", "zip", "dict_itemiterator", "dict_reverseitemiterator", "odict_iterator", "itertools.zip_longest", "itertools.pairwise"].contains n = false) (h : Q () s) : wpAny M A (letOwnedTupleGo target (.ref it) v) Q Es s := by
  unfold letOwnedTupleGo
  cases target <;> try exact wpAny_pure h
  all_goals (
    cases v <;> try exact wpAny_pure h
    refine wpAny_bind (wpAny_load ho ?_)
    obtain ⟨cl, d, dt, sl⟩ := o
    cases hc
    cases dt <;> try exact wpAny_pure h
    dsimp only
    rw [hn]
    exact wpAny_pure h)
section
variable {G : GC} {A : Around} {m : MH}
theorem HRels.but {σ : List Addr} {h h' : Heap} {it : Addr} (X : HRels G σ m h) (k : Heap.ExtBut it h h') (hs : h.objs.size ≤ h'.objs.size) (hi : it ∉ σ) (hN : G.N ≤ it) : HRels G σ m h' :=
  X.same (fun b o hb e => k b o (fun z => hb.elim (fun w => hi (z ▸ w)) fun w => Nat.lt_irrefl _ (Nat.lt_of_lt_of_le (z ▸ w) hN)) e) hs
theorem Ext.but {σ : List Addr} {h h' : Heap} {it : Addr} (k : Heap.ExtBut it h h') (hs : h.objs.size ≤ h'.objs.size) : Ext G [it] σ σ h h' :=
  ⟨fun _ _ e => e, fun _ z => .inl z, hs, fun b o _ h2 _ e => k b o (fun z => h2 (z ▸ .head _)) e⟩
theorem VRels.get? {N : Nat} {σ : List Addr} {xs : List MV} {us : Array Value} (R : VRels N σ xs us.toList) {k : Nat} {x : MV} (e : xs[k]? = some x) : ∃ v, us[k]? = some v ∧ VRel N σ x v := by
  obtain ⟨v, a, b⟩ := R.get e
  exact ⟨v, by rw [← Array.getElem?_toList]; exact a, b⟩
theorem VRels.get?_none {N : Nat} {σ : List Addr} {xs : List MV} {us : Array Value} (R : VRels N σ xs us.toList) {k : Nat} (e : xs.length ≤ k) : us[k]? = none := by
  rw [Array.getElem?_eq_none]; rw [← Array.length_toList, R.length]; exact e
noncomputable def listSrc (l : Nat) : Src where
  κ := Nat
  can k m := ∃ xs x, m.H l = some (.list xs) ∧ xs[k]? = some x
  step k m v m' k' := ∃ xs, m.H l = some (.list xs) ∧ xs[k]? = some v ∧ m' = m ∧ k' = k + 1
  fin k m m' := ∃ xs, m.H l = some (.list xs) ∧ xs.length ≤ k ∧ m' = m
  k0 := 0
  tup := false
theorem list_source (hh : A.handled = none) {l : Nat} {it : Addr} : Source G A it [it] (listSrc l) fun k σ h => ∃ la, σ[l]? = some la ∧ h.IsListIter it la k where
  next := by
    intro (k : Nat) σ h t m target Qs Es I p hcan ht hw q
    obtain ⟨la, ea, hit⟩ := p
    obtain ⟨xs, x, hx, hk⟩ := hcan
    obtain ⟨us, n, ho, R⟩ := I.obj l _ la hx ea
    obtain ⟨v, hv, V⟩ := R.get? hk
    have hwi := hw it (.head _)
    refine wpAny_pyNext_list_item hit ⟨_, ho, rfl, n, rfl⟩ hv fun h' hit' hs => ⟨v, rfl, ?_⟩
    obtain ⟨o, ho', hc', _⟩ := id hit'
    refine go_plain ho' hc' (by decide) ?_
    have hsz : h.objs.size ≤ h'.objs.size := by rw [hs.1]; exact Nat.le_refl _
    exact q σ h' t v x m (k + 1) ⟨xs, hx, hk, rfl, rfl⟩ (I.but hs.extBut hsz hwi.1 hwi.2.1) V ⟨la, ea, hit'⟩ (Ext.but hs.extBut hsz)
  done := by
    intro (k : Nat) σ h t m m' Qs Es I p hfin hw q
    obtain ⟨la, ea, hit⟩ := p
    obtain ⟨xs, hx, hk, rfl⟩ := hfin
    obtain ⟨us, n, ho, R⟩ := I.obj l _ la hx ea
    have hwi := hw it (.head _)
    exact wpAny_sz (wpAny_pyNext_list_end hh hit ⟨_, ho, rfl, n, rfl⟩ (R.get?_none hk) fun h' he hs => q σ h' t (I.but he hs hwi.1 hwi.2.1) (Ext.but he hs))
  self := by
    intro (k : Nat) σ h t Qs Es _ p q
    obtain ⟨la, ea, hit⟩ := p
    exact wpAny_pyIter_listiter hit q
  frame := by
    intro (k : Nat) σ σ' own h h' p hw E
    obtain ⟨la, ea, o, ho, r⟩ := p
    obtain ⟨a, b, c⟩ := hw it (.head _)
    exact ⟨la, E.sub _ _ ea, o, E.keep it o b a c ho, r⟩
theorem iv_list (hh : A.handled = none) {l : Nat} {xs : List MV} {K : Src → MH → Prop} (hl : m.H l = some (.list xs)) (h : K (listSrc l) m) : IterV G A (.ref l) m K := by
  intro σ hh' t u Qs Es I V q
  obtain ⟨a, us, n, ea, rfl, ho, R⟩ := I.list hl V
  refine wpAny_pyIter_list ⟨_, ho, rfl, n, rfl⟩ ?_
  refine q _ t hh'.objs.size [hh'.objs.size] (listSrc l) _ h (list_source hh) (I.push _) ⟨a, ea, ⟨_, Heap.get?_push_size _ rfl, rfl, rfl⟩⟩ (fun b hb => ?_) (Ext.push _)
  rw [List.mem_singleton.mp hb, Heap.size_push]
  exact ⟨Nat.le_refl _, Nat.lt_succ_self _, fun z => Nat.lt_irrefl _ (I.low _ z).2⟩
noncomputable def chr (c : Nat) : Str := ⟨#[c]⟩
noncomputable def strSrc (x : Str) : Src where
  κ := Nat
  can k _ := ∃ c, x.cps[k]? = some c
  step k m v m' k' := ∃ c, x.cps[k]? = some c ∧ v = .str (chr c) ∧ m' = m ∧ k' = k + 1
  fin k m m' := x.cps.size ≤ k ∧ m' = m
  k0 := 0
  tup := false
theorem str_source (hh : A.handled = none) {x : Str} {tx : Tok} {it : Addr} : Source G A it [it] (strSrc x) fun k _ h => h.IsStrIter it "str_ascii_iterator" x tx k where
  next := by
    intro (k : Nat) σ h t m target Qs Es I hit hcan ht hw q
    obtain ⟨c, hk⟩ := hcan
    have hwi := hw it (.head _)
    refine wpAny_pyNext_ascii_item hit hk fun h' hit' hs => ⟨_, rfl, ?_⟩
    obtain ⟨o, ho', hc', _⟩ := id hit'
    refine go_plain ho' hc' (by decide) ?_
    have hsz : h.objs.size ≤ h'.objs.size := by rw [hs.1]; exact Nat.le_refl _
    exact q σ h' (t + 1) _ (.str (chr c)) m (k + 1) ⟨c, hk, rfl, rfl, rfl⟩ (I.but hs.extBut hsz hwi.1 hwi.2.1) ⟨_, rfl⟩ hit' (Ext.but hs.extBut hsz)
  done := by
    intro (k : Nat) σ h t m m' Qs Es I hit hfin hw q
    obtain ⟨hk, rfl⟩ := hfin
    have hwi := hw it (.head _)
    exact wpAny_sz (wpAny_pyNext_ascii_end hh hit (Array.getElem?_eq_none hk) fun h' he hs => q σ h' t (I.but he hs hwi.1 hwi.2.1) (Ext.but he hs))
  self := by
    intro (k : Nat) σ h t Qs Es _ p q
    refine wpAny_pyIter_slot p.typeIs F.slot_str_ascii_iterator_iter (wpAny_call_entry F.slot_str_ascii_iterator_iter p.typeIs F.entry_str_ascii_iterator_iter ?_ (F.args_str_ascii_iterator_iter_1 _))
    show wpAny _ _ (ret (.ref it)) _ _ _
    exact wpAny_pure ⟨_, rfl, "str_ascii_iterator", _, p.typeIs, F.slot_str_ascii_iterator_next.lookup, q⟩
  frame := by
    intro (k : Nat) σ σ' own h h' p hw E
    obtain ⟨o, ho, r⟩ := p
    obtain ⟨a, b, c⟩ := hw it (.head _)
    exact ⟨o, E.keep it o b a c ho, r⟩
theorem fresh_one {σ : List Addr} {h : Heap} (I : HRels G σ m h) (o : Obj) : ∀ a ∈ [h.objs.size], h.objs.size ≤ a ∧ a < (h.push o).objs.size ∧ a ∉ σ := fun b hb => by
  rw [List.mem_singleton.mp hb, Heap.size_push]
  exact ⟨Nat.le_refl _, Nat.lt_succ_self _, fun z => Nat.lt_irrefl _ (I.low _ z).2⟩
theorem iv_str (hh : A.handled = none) {x : Str} {K : Src → MH → Prop} (ha : x.cps.all (· < 128) = true) (h : K (strSrc x) m) : IterV G A (.str x) m K := by
  intro σ hh' t u Qs Es I V q
  obtain ⟨tx, rfl⟩ := V
  refine wpAny_pyIter_ascii ha ?_
  exact q _ t hh'.objs.size [hh'.objs.size] (strSrc x) _ h (str_source hh) (I.push _) ⟨_, Heap.get?_push_size _ rfl, rfl, rfl⟩ (fresh_one I _) (Ext.push _)
noncomputable def rangeSrc (a : Int) (n : Nat) : Src where
  κ := Nat
  can k _ := k < n
  step k m v m' k' := k < n ∧ v = .int (a + k) ∧ m' = m ∧ k' = k + 1
  fin k m m' := n ≤ k ∧ m' = m
  k0 := 0
  tup := false
theorem range_source (hh : A.handled = none) {a : Int} {n : Nat} {it : Addr} : Source G A it [it] (rangeSrc a n) fun (k : Nat) _ h => k ≤ n ∧ IsRangeIter h it (a + k) (n - k : Nat) 1 where
  next := by
    intro (k : Nat) σ h t m target Qs Es I p hcan ht hw q
    obtain ⟨hle, hit⟩ := p
    have hcan : k < n := hcan
    have hwi := hw it (.head _)
    refine wpAny_pyNext_range_item hit (by omega) fun h' hit' hs => ⟨_, rfl, ?_⟩
    refine go_plain hit' rfl (by decide) ?_
    have hsz : h.objs.size ≤ h'.objs.size := by rw [hs.1]; exact Nat.le_refl _
    refine q σ h' (t + 1) _ (.int (a + k)) m (k + 1) ⟨hcan, rfl, rfl, rfl⟩ (I.but hs.extBut hsz hwi.1 hwi.2.1) ⟨_, rfl⟩ ⟨hcan, ?_⟩ (Ext.but hs.extBut hsz)
    have e1 : a + (k : Int) + 1 = a + ((k + 1 : Nat) : Int) := by omega
    have e2 : ((n - k : Nat) : Int) - 1 = ((n - (k + 1) : Nat) : Int) := (Int.ofNat_sub (Nat.sub_pos_of_lt hcan)).symm
    rw [e1, e2] at hit'; exact hit'
  done := by
    intro (k : Nat) σ h t m m' Qs Es I p hfin hw q
    obtain ⟨hle, hit⟩ := p
    obtain ⟨hk, rfl⟩ := hfin
    have hk : n ≤ k := hk
    have hwi := hw it (.head _)
    exact wpAny_sz (wpAny_pyNext_range_end hh hit (by omega) fun h' he hs => q σ h' t (I.but he hs hwi.1 hwi.2.1) (Ext.but he hs))
  self := by
    intro (k : Nat) σ h t Qs Es _ p q
    have hT : (G.S h t).TypeIs (.ref it) "range_iterator" := ⟨_, p.2, rfl⟩
    refine wpAny_pyIter_slot hT F.slot_range_iterator_iter (wpAny_call_entry F.slot_range_iterator_iter hT F.entry_range_iterator_iter ?_ (F.args_range_iterator_iter_1 _))
    show wpAny _ _ (ret (.ref it)) _ _ _
    exact wpAny_pure ⟨_, rfl, "range_iterator", _, hT, F.slot_range_iterator_next.lookup, q⟩
  frame := by
    intro (k : Nat) σ σ' own h h' p hw E
    obtain ⟨x, y, z⟩ := hw it (.head _)
    exact ⟨p.1, E.keep it _ y x z p.2⟩
end
section
variable {G : GC} {A : Around} {m : MH}
theorem HRels.allocAt {σ : List Addr} {h : Heap} (X : HRels G σ m h) {a : Addr} {mo : MO} (ha : a ∉ σ) (hN : G.N ≤ a) (hs : a < h.objs.size) (hf : ORel G.N (σ ++ [a]) h a mo) : HRels G (σ ++ [a]) (m.alloc mo) h := by
  have hsub : Sub σ (σ ++ [a]) := sub_snoc
  refine ⟨by simp [MH.alloc, X.len], ?_, fun b hb => ?_, fun i o' b e q => ?_, X.keep, X.tab, X.tlt, X.size⟩
  · refine List.nodup_append.mpr ⟨X.nodup, by simp, fun b hb b' hb' e => ?_⟩
    rw [List.mem_singleton.mp hb'] at e
    exact ha (e ▸ hb)
  · rcases List.mem_append.mp hb with hb | hb
    · exact X.low b hb
    · rw [List.mem_singleton.mp hb]; exact ⟨hN, hs⟩
  · have hil : i < σ.length + 1 := by have := (List.getElem?_eq_some_iff.mp q).1; simpa using this
    by_cases hi : i = m.n
    · subst hi
      have q' : b = a := by
        rw [List.getElem?_append_right (by rw [X.len]; exact Nat.le_refl _), X.len, Nat.sub_self] at q
        exact (Option.some.inj q).symm
      subst q'
      have e' : mo = o' := by
        have : (if m.n = m.n then some mo else m.H m.n) = some o' := e
        rw [if_pos rfl] at this; exact Option.some.inj this
      subst e'; exact hf
    · have e' : m.H i = some o' := by
        have : (if i = m.n then some mo else m.H i) = some o' := e
        rw [if_neg hi] at this; exact this
      have hlt : i < σ.length := by rw [X.len] at hil ⊢; omega
      rw [List.getElem?_append_left hlt] at q
      exact (X.obj i o' b e' q).mono hsub fun o'' z => z
theorem HRels.keepBut {σ : List Addr} {h h' : Heap} {ws : List Addr} (X : HRels G σ m h) (k : ∀ b o, b ∉ ws → h.get? b = some o → h'.get? b = some o) (hs : h.objs.size ≤ h'.objs.size) (hi : ∀ a ∈ ws, a ∉ σ ∧ G.N ≤ a) : HRels G σ m h' :=
  X.same (fun b o hb e => k b o (fun z => hb.elim (hi b z).1 fun w => Nat.lt_irrefl _ (Nat.lt_of_lt_of_le w (hi b z).2)) e) hs
noncomputable def zipSrc (l1 l2 : Nat) : Src where
  κ := Nat
  can k m := ∃ xs ys x y, m.H l1 = some (.list xs) ∧ m.H l2 = some (.list ys) ∧ xs[k]? = some x ∧ ys[k]? = some y
  step k m v m' k' := ∃ xs ys x y, m.H l1 = some (.list xs) ∧ m.H l2 = some (.list ys) ∧ xs[k]? = some x ∧ ys[k]? = some y ∧ v = .ref m.n ∧ m' = m.alloc (.tup [x, y]) ∧ k' = k + 1
  fin k m m' := ∃ xs ys, m.H l1 = some (.list xs) ∧ m.H l2 = some (.list ys) ∧ (xs.length ≤ k ∨ ys.length ≤ k) ∧ m' = m
  k0 := 0
  tup := true
noncomputable abbrev zipWs (b : Nat) : List Addr := [b, b + 1, b + 2, b + 3, b + 4]
theorem zip_apart {b la lb : Nat} (ha : ∀ a ∈ zipWs b, a ≠ la) (hb : ∀ a ∈ zipWs b, a ≠ lb) : ZipApart (b + 4) (b + 2) (b + 3) b (b + 1) la lb := by
  have h0 := ha b (by simp); have h1 := ha (b + 1) (by simp); have h3 := ha (b + 3) (by simp); have h4 := ha (b + 4) (by simp)
  have k0 := hb b (by simp); have k1 := hb (b + 1) (by simp); have k3 := hb (b + 3) (by simp); have k4 := hb (b + 4) (by simp)
  constructor
  · show (b + 2 : Nat) ≠ b + 4; omega
  · show (b + 3 : Nat) ≠ b + 4; omega
  · show (b : Nat) ≠ b + 4; omega
  · show (b + 1 : Nat) ≠ b + 4; omega
  · show (b + 2 : Nat) ≠ b + 3; omega
  · show (b + 2 : Nat) ≠ b; omega
  · show (b + 2 : Nat) ≠ b + 1; omega
  · show (b + 3 : Nat) ≠ b; omega
  · show (b + 3 : Nat) ≠ b + 1; omega
  · show (b : Nat) ≠ b + 1; omega
  · exact h4.symm
  · exact h3.symm
  · exact h0.symm
  · exact h1.symm
  · exact k4.symm
  · exact k3.symm
  · exact k0.symm
  · exact k1.symm
noncomputable def zipP (b l1 l2 : Nat) (k : Nat) (σ : List Addr) (h : Heap) : Prop :=
  ∃ la lb, σ[l1]? = some la ∧ σ[l2]? = some lb ∧ IsZip h (b + 4) (b + 2) (b + 3) .none ∧ IsPair h (b + 2) (.ref b) (.ref (b + 1)) ∧ (∃ u v, IsPair h (b + 3) u v) ∧ h.IsListIter b la k ∧ h.IsListIter (b + 1) lb k
theorem zip_but {b : Nat} {h h' : Heap} (k : ∀ c o, c ≠ b + 4 → c ≠ b + 3 → c ≠ b → c ≠ b + 1 → h.get? c = some o → h'.get? c = some o) : ∀ c o, c ∉ zipWs b → h.get? c = some o → h'.get? c = some o := fun c o hc e =>
  k c o (fun z => hc (by simp [z])) (fun z => hc (by simp [z])) (fun z => hc (by simp [z])) (fun z => hc (by simp [z])) e
theorem zip_source (hh : A.handled = none) {l1 l2 b : Nat} : Source G A (b + 4) (zipWs b) (zipSrc l1 l2) (zipP b l1 l2) where
  next := by
    intro (k : Nat) σ h t m target Qs Es I p hcan ht hw q
    obtain ⟨la, lb, ea, eb, hz, hTI, ⟨u, v, hTO⟩, h1, h2⟩ := p
    obtain ⟨xs, ys, x, y, hx, hy, kx, ky⟩ := hcan
    obtain ⟨us, n, ho, R⟩ := I.obj l1 _ la hx ea
    obtain ⟨vs, n', ho', R'⟩ := I.obj l2 _ lb hy eb
    obtain ⟨vx, ex, Vx⟩ := R.get? kx
    obtain ⟨vy, ey, Vy⟩ := R'.get? ky
    have D := zip_apart (b := b) (fun a ha z => (hw a ha).1 (z ▸ mem_of_get ea)) (fun a ha z => (hw a ha).1 (z ▸ mem_of_get eb))
    have htup := ht rfl
    refine wpAny_pyNext_zip_item D hz hTI hTO h1 h2 ⟨_, ho, rfl, n, rfl⟩ ⟨_, ho', rfl, n', rfl⟩ ex ey fun h' z1 z2 z3 z4 z5 z6 z7 => ⟨_, rfl, ?_⟩
    cases target with
    | Tuple es cx pos =>
      refine wpAny_letOwnedTupleGo_zip z1 fun h'' w1 w2 => ?_
      have hlt : ∀ a ∈ zipWs b, a ≠ h.objs.size := fun a ha => Nat.ne_of_lt (hw a ha).2.2
      have e4 : h.objs.size ≠ b + 4 := (hlt _ (by simp)).symm
      have K1 : ∀ c o, c ∉ zipWs b → h.get? c = some o → h''.get? c = some o := fun c o hc e => (w2.2 c fun z => hc (by simp [z])).trans (zip_but z7 c o hc e)
      have hTI' : IsPair h'' (b + 2) (.ref b) (.ref (b + 1)) := (w2.2 _ D.TIz).trans (z7 _ _ D.TIz D.TITO D.TIi1 D.TIi2 hTI)
      have hs : h.objs.size ≤ h''.objs.size := by rw [w2.1, z6]; exact Nat.le_succ _
      have I' : HRels G σ m h'' := I.keepBut K1 hs fun a ha => ⟨(hw a ha).1, (hw a ha).2.1⟩
      have E' : Ext G (zipWs b) σ (σ ++ [h.objs.size]) h h'' := ⟨sub_snoc, fun a ha => (List.mem_append.mp ha).imp id fun z => by rw [List.mem_singleton.mp z]; exact Nat.le_refl _, hs, fun c o _ hc _ e => K1 c o hc e⟩
      refine q (σ ++ [h.objs.size]) h'' t _ (.ref m.n) _ (k + 1) ⟨xs, ys, x, y, hx, hy, kx, ky, rfl, rfl, rfl⟩ (I'.allocAt (fun z => Nat.lt_irrefl _ (I.low _ z).2) I.size (by rw [w2.1, z6]; exact Nat.lt_succ_self _) ⟨_, _, (w2.2 _ e4).trans z5, ?_⟩) ⟨_, I.last _, rfl⟩ ?_ E'
      · exact ⟨Vx.mono sub_snoc, Vy.mono sub_snoc, trivial⟩
      · exact ⟨la, lb, sub_snoc _ _ ea, sub_snoc _ _ eb, w1, hTI', ⟨_, _, (w2.2 _ D.TOz).trans z2⟩, z3.extBut w2.extBut D.i1z, z4.extBut w2.extBut D.i2z⟩
    | _ => cases htup
  done := by
    intro (k : Nat) σ h t m m' Qs Es I p hfin hw q
    obtain ⟨la, lb, ea, eb, hz, hTI, ⟨u, v, hTO⟩, h1, h2⟩ := p
    obtain ⟨xs, ys, hx, hy, hk, rfl⟩ := hfin
    obtain ⟨us, n, ho, R⟩ := I.obj l1 _ la hx ea
    obtain ⟨vs, n', ho', R'⟩ := I.obj l2 _ lb hy eb
    have D := zip_apart (b := b) (fun a ha z => (hw a ha).1 (z ▸ mem_of_get ea)) (fun a ha z => (hw a ha).1 (z ▸ mem_of_get eb))
    refine wpAny_sz (wpAny_pyNext_zip_end hh D hz hTI hTO h1 h2 ⟨_, ho, rfl, n, rfl⟩ ⟨_, ho', rfl, n', rfl⟩ (hk.imp R.get?_none R'.get?_none) fun h' z7 hs => ?_)
    have K1 := zip_but z7
    exact q σ h' t (I.keepBut K1 hs fun a ha => ⟨(hw a ha).1, (hw a ha).2.1⟩) ⟨fun _ _ e => e, fun _ z => .inl z, hs, fun c o _ hc _ e => K1 c o hc e⟩
  self := by
    intro (k : Nat) σ h t Qs Es _ p q
    obtain ⟨la, lb, ea, eb, hz, _⟩ := p
    exact wpAny_pyIter_zip hz q
  frame := by
    intro (k : Nat) σ σ' own h h' p hw E
    obtain ⟨la, lb, ea, eb, hz, hTI, ⟨u, v, hTO⟩, ⟨o1, g1, r1⟩, ⟨o2, g2, r2⟩⟩ := p
    have K : ∀ a ∈ zipWs b, ∀ o, h.get? a = some o → h'.get? a = some o := fun a ha o e => E.keep a o (hw a ha).2.1 (hw a ha).1 (hw a ha).2.2 e
    exact ⟨la, lb, E.sub _ _ ea, E.sub _ _ eb, K _ (by simp) _ hz, K _ (by simp) _ hTI, ⟨u, v, K _ (by simp) _ hTO⟩, ⟨o1, K _ (by simp) _ g1, r1⟩, ⟨o2, K _ (by simp) _ g2, r2⟩⟩
noncomputable def enumSrc (t0 : Nat) (x : Str) : Src where
  κ := Nat
  can k _ := ∃ c, x.cps[k]? = some c
  step k m v m' k' := ∃ c tk, x.cps[k]? = some c ∧ t0 < tk ∧ v = .ref m.n ∧ m' = m.alloc (.tup [.int k, .strT (chr c) tk]) ∧ k' = k + 1
  fin _ _ _ := False
  k0 := 0
  tup := true
end
section
variable {c : Cx} {st : St}
theorem call_raw {f e : Expr} {es : List Expr} {pos : Pos} {K : MV → List MV → St → Prop} (_hc : c.Ok)
    (h : EvalTo c f st fun fv st₁ => ArgsTo c (e :: es) st₁ fun as st₂ => Keeps c.G fv st₂.m ∧ K fv as st₂)
    {σ : List Addr} {hh : Heap} {t : Nat} {Qs : Value → Shared → Prop} {Es : Value → Shared → Prop} (I : Inv c σ st hh)
    (q : ∀ σ' h' t' fv as st' v us, K fv as st' → Inv c σ' st' h' → VRel c.G.N σ' fv v → VRels c.G.N σ' as us → Ext c.G c.own σ σ' hh h' → wpAny c.G.M c.A (call v us []) Qs Es (c.G.S h' t'))
    (hf : notAttr f = true := by rfl) (ha : (e :: es).all notStar = true := by rfl) : wpAny c.G.M c.A (eval (.Call f (e :: es) [] pos) c.env) Qs Es (c.G.S hh t) := by
  rw [eval_call hf]
  refine wpAny_bind (h σ hh t _ _ I fun σ₁ h₁ t₁ v fv st₁ k₁ I₁ V₁ E₁ => ?_)
  refine callWith_of (P := fun h => ∃ k, (k = Keeper.frame ∨ k = Keeper.machine ∨ k = Keeper.boundFrame) ∧ Looks c.G.M h (keeperOf v) k) (by rw [any_items ha]; rfl) (fun _ x => x) ?_
  have := k₁ pos σ₁ h₁ t₁ (fun us s => (∃ k, (k = Keeper.frame ∨ k = Keeper.machine ∨ k = Keeper.boundFrame) ∧ Looks c.G.M s.heap (keeperOf v) k) ∧ wpAny c.G.M c.A (call v ([] ++ us) []) Qs Es s) Es I₁
    (fun σ₂ h₂ t₂ us as st₂ k₂ I₂ V₂ E₂ => ⟨k₂.1 σ₂ h₂ v I₂.hr (V₁.mono E₂.sub), q σ₂ h₂ t₂ fv as st₂ v us k₂.2 I₂ (V₁.mono E₂.sub) V₂ (E₁.trans E₂)⟩)
  simp only [List.all_cons, Bool.and_eq_true] at ha
  rw [starEach_cons ha.1] at this ⊢
  exact evalArgs_plain this
theorem range_tail (hh : c.A.handled = none) {a b : Int} {t u v : Tok} {σ : List Addr} {h : Heap} {t' : Nat} {K : Src → St → Prop} {Qs : Value → Shared → Prop} {Es : Value → Shared → Prop} (hc : c.Ok) (I : Inv c σ st h)
    (ha : -(2 ^ 62) ≤ a) (ha' : a < 2 ^ 62) (hb : -(2 ^ 62) ≤ b) (hb' : b < 2 ^ 62) (hK : K (rangeSrc a (b - a).toNat) st)
    (q : ∀ h' t' it ws X P, K X st → Source c.G c.A it ws X P → Inv c σ st h' → P X.k0 σ h' → (∀ a ∈ ws, h.objs.size ≤ a ∧ a < h'.objs.size ∧ a ∉ σ) → Ext c.G [] σ σ h h' → Qs (.ref it) (c.G.S h' t')) :
    wpAny c.G.M c.A (pyIter (.ref h.objs.size)) Qs Es (c.G.S (h.push { cls := .type "range", data := .fields #[.int a t, .int b u, .int 1 v] }) t') := by
  refine wpAny_pyIter_range (IsRange.new h a b 1 t u v) (small_one ha ha' hb hb') ?_
  have e : Builtin.Range.rangeSize a b 1 = ((b - a).toNat : Int) := by rw [rangeSize_one]; split <;> omega
  rw [e]
  have I1 := I.hr.push { cls := .type "range", data := .fields #[.int a t, .int b u, .int 1 v] }
  have E1 : Ext c.G [] σ σ h (h.push { cls := .type "range", data := .fields #[.int a t, .int b u, .int 1 v] }) := Ext.push _
  have I2 := I1.push { cls := .type "range_iterator", data := .fields #[rawInt a, rawInt ((b - a).toNat : Int), rawInt 1] }
  have E2 := E1.trans (Ext.push (own := []) (σ := σ) { cls := .type "range_iterator", data := .fields #[rawInt a, rawInt ((b - a).toNat : Int), rawInt 1] })
  refine q _ t' _ [_] (rangeSrc a (b - a).toNat) (fun (k : Nat) _ h => k ≤ (b - a).toNat ∧ IsRangeIter h _ (a + k) ((b - a).toNat - k : Nat) 1) hK (range_source hh) (I.step hc I2 E2) ⟨Nat.zero_le _, ?_⟩ (fun z hz => ?_) E2
  · have := Heap.get?_push_size (h.push { cls := .type "range", data := .fields #[.int a t, .int b u, .int 1 v] }) (o := { cls := .type "range_iterator", data := .fields #[rawInt a, rawInt ((b - a).toNat : Int), rawInt 1] }) rfl
    show Heap.get? _ _ = some { cls := .type "range_iterator", dict := none, data := .fields #[rawInt (a + ((0 : Nat) : Int)), rawInt (((b - a).toNat - 0 : Nat) : Int), rawInt 1], slots := #[] }
    rw [show a + ((0 : Nat) : Int) = a by omega, Nat.sub_zero]
    exact this
  · obtain ⟨a1, a2, a3⟩ := fresh_one I1 _ z hz
    exact ⟨Nat.le_trans E1.size a1, a2, a3⟩
theorem ie_range1 (hc : c.Ok) {f e : Expr} {pos : Pos} {K : Src → St → Prop}
    (h : EvalTo c f st fun fv st₁ => fv = .st (.type "range") ∧ EvalTo c e st₁ fun v st₂ => ∃ b : Int, v = .int b ∧ -(2 ^ 62) ≤ b ∧ b < 2 ^ 62 ∧ K (rangeSrc 0 b.toNat) st₂)
    (hf : notAttr f = true := by rfl) (he : notStar e = true := by rfl) : IterE c (.Call f [e] [] pos) st K := by
  intro σ hh t Qs Es I q
  refine call_raw (K := fun fv as st₂ => fv = .st (.type "range") ∧ ∃ b : Int, as = [.int b] ∧ -(2 ^ 62) ≤ b ∧ b < 2 ^ 62 ∧ K (rangeSrc 0 b.toNat) st₂) hc (h.mono fun fv st₁ h₁ => args_cons (h₁.2.mono fun v st₂ h₂ => args_nil ?_) he) I ?_ hf (by rw [List.all_cons, he]; rfl)
  · obtain ⟨b, rfl, hb, hb', hK⟩ := h₂
    exact ⟨h₁.1 ▸ keeps_type, h₁.1, b, rfl, hb, hb', hK⟩
  · rintro σ₁ h₁ t₁ fv as st₁ v us ⟨rfl, b, rfl, hb, hb', hK⟩ I₁ V U E₁
    obtain ⟨rfl, _⟩ := V
    obtain ⟨a, rfl, tb, rfl⟩ := U.one
    refine call_range_1 ?_
    refine range_tail (t' := t₁ + 1 + 1) (K := fun X st' => st' = st₁ ∧ K X st') hc.hand hc I₁ (by omega) (by omega) hb hb' ⟨rfl, by rw [Int.sub_zero]; exact hK⟩ fun h' t' it ws X P hK' S I' p hw E' => ?_
    exact q σ₁ h' t' it ws X P st₁ hK'.2 S I' p (fun a ha => ⟨Nat.le_trans E₁.size (hw a ha).1, (hw a ha).2⟩) (E₁.trans (E'.weaken fun _ z => (nomatch z)))
theorem ie_range2 (hc : c.Ok) {f e e' : Expr} {pos : Pos} {K : Src → St → Prop}
    (h : EvalTo c f st fun fv st₁ => fv = .st (.type "range") ∧ EvalTo c e st₁ fun v st₂ => EvalTo c e' st₂ fun v' st₃ => ∃ a b : Int, v = .int a ∧ v' = .int b ∧ -(2 ^ 62) ≤ a ∧ a < 2 ^ 62 ∧ -(2 ^ 62) ≤ b ∧ b < 2 ^ 62 ∧ K (rangeSrc a (b - a).toNat) st₃)
    (hf : notAttr f = true := by rfl) (he : notStar e = true := by rfl) (he' : notStar e' = true := by rfl) : IterE c (.Call f [e, e'] [] pos) st K := by
  intro σ hh t Qs Es I q
  refine call_raw (K := fun fv as st₂ => fv = .st (.type "range") ∧ ∃ a b : Int, as = [.int a, .int b] ∧ -(2 ^ 62) ≤ a ∧ a < 2 ^ 62 ∧ -(2 ^ 62) ≤ b ∧ b < 2 ^ 62 ∧ K (rangeSrc a (b - a).toNat) st₂) hc (h.mono fun fv st₁ h₁ => args_cons (h₁.2.mono fun v st₂ h₂ => args_cons (h₂.mono fun v' st₃ h₃ => args_nil ?_) he') he) I ?_ hf (by rw [List.all_cons, he, List.all_cons, he']; rfl)
  · obtain ⟨a, b, rfl, rfl, r⟩ := h₃
    exact ⟨h₁.1 ▸ keeps_type, h₁.1, a, b, rfl, r⟩
  · rintro σ₁ h₁ t₁ fv as st₁ v us ⟨rfl, a, b, rfl, ha, ha', hb, hb', hK⟩ I₁ V U E₁
    obtain ⟨rfl, _⟩ := V
    obtain ⟨x, y, rfl, ⟨ta, rfl⟩, tb, rfl⟩ := U.two
    refine call_range_2 ?_
    refine range_tail (t' := t₁ + 1) (K := fun X st' => st' = st₁ ∧ K X st') hc.hand hc I₁ ha ha' hb hb' ⟨rfl, hK⟩ fun h' t' it ws X P hK' S I' p hw E' => ?_
    exact q σ₁ h' t' it ws X P st₁ hK'.2 S I' p (fun a ha => ⟨Nat.le_trans E₁.size (hw a ha).1, (hw a ha).2⟩) (E₁.trans (E'.weaken fun _ z => (nomatch z)))
theorem ie_zip (hc : c.Ok) {f e e' : Expr} {pos : Pos} {K : Src → St → Prop}
    (h : EvalTo c f st fun fv st₁ => fv = .st (.type "zip") ∧ EvalTo c e st₁ fun v st₂ => EvalTo c e' st₂ fun v' st₃ => ∃ l1 l2 xs ys, v = .ref l1 ∧ v' = .ref l2 ∧ st₃.m.H l1 = some (.list xs) ∧ st₃.m.H l2 = some (.list ys) ∧ K (zipSrc l1 l2) st₃)
    (hf : notAttr f = true := by rfl) (he : notStar e = true := by rfl) (he' : notStar e' = true := by rfl) : IterE c (.Call f [e, e'] [] pos) st K := by
  intro σ hh t Qs Es I q
  refine call_raw (K := fun fv as st₃ => fv = .st (.type "zip") ∧ ∃ l1 l2 xs ys, as = [.ref l1, .ref l2] ∧ st₃.m.H l1 = some (.list xs) ∧ st₃.m.H l2 = some (.list ys) ∧ K (zipSrc l1 l2) st₃) hc (h.mono fun fv st₁ h₁ => args_cons (h₁.2.mono fun v st₂ h₂ => args_cons (h₂.mono fun v' st₃ h₃ => args_nil ?_) he') he) I ?_ hf (by rw [List.all_cons, he, List.all_cons, he']; rfl)
  · obtain ⟨l1, l2, xs, ys, rfl, rfl, r⟩ := h₃
    exact ⟨h₁.1 ▸ keeps_type, h₁.1, l1, l2, xs, ys, rfl, r⟩
  · rintro σ₁ h₁ t₁ fv as st₁ v us ⟨rfl, l1, l2, xs, ys, rfl, hx, hy, hK⟩ I₁ V U E₁
    obtain ⟨rfl, _⟩ := V
    obtain ⟨x, y, rfl, V1, V2⟩ := U.two
    obtain ⟨la, us, n, ea, rfl, ho, R⟩ := I₁.hr.list hx V1
    obtain ⟨lb, us', n', eb, rfl, ho', R'⟩ := I₁.hr.list hy V2
    refine call_zip_2 ⟨_, ho, rfl, n, rfl⟩ ⟨_, ho', rfl, n', rfl⟩ fun h' z1 z2 z3 z4 z5 z6 z7 => ?_
    have hs : h₁.objs.size ≤ h'.objs.size := by rw [z6]; exact Nat.le_add_right _ _
    have E' : Ext c.G [] σ₁ σ₁ h₁ h' := ⟨fun _ _ e => e, fun _ z => .inl z, hs, fun b o _ _ _ e => z7 b o e⟩
    have I' := I₁.step hc (I₁.hr.same (fun b o _ e => z7 b o e) hs) E'
    refine wpAny_pyIter_zip z1 ?_
    have bnd : ∀ a ∈ zipWs h₁.objs.size, h₁.objs.size ≤ a ∧ a < h'.objs.size := fun a ha => by
      rw [z6]
      simp only [List.mem_cons, List.mem_nil_iff, or_false] at ha
      rcases ha with rfl | rfl | rfl | rfl | rfl
      · exact ⟨Nat.le_refl _, Nat.lt_add_of_pos_right (by decide)⟩
      · exact ⟨Nat.le_add_right _ _, Nat.add_lt_add_left (by decide) _⟩
      · exact ⟨Nat.le_add_right _ _, Nat.add_lt_add_left (by decide) _⟩
      · exact ⟨Nat.le_add_right _ _, Nat.add_lt_add_left (by decide) _⟩
      · exact ⟨Nat.le_add_right _ _, Nat.add_lt_add_left (by decide) _⟩
    exact q σ₁ h' t₁ _ (zipWs h₁.objs.size) (zipSrc l1 l2) (zipP h₁.objs.size l1 l2) st₁ hK (zip_source hc.hand) I' ⟨la, lb, ea, eb, z1, z2, ⟨_, _, z3⟩, z4, z5⟩
      (fun a ha => ⟨Nat.le_trans E₁.size (bnd a ha).1, (bnd a ha).2, fun z => Nat.lt_irrefl _ (Nat.lt_of_lt_of_le (I₁.hr.low a z).2 (bnd a ha).1)⟩) (E₁.trans (E'.weaken fun _ z => (nomatch z)))
end
noncomputable def closL (look : Str → Option Addr) : List (Str × NameKind) → List (Str × Addr) → List (Str × Addr)
  | [], acc => acc
  | (x, k) :: r, acc => closL look r (if k == .free then (x, (look x).getD 0) :: acc else acc)
noncomputable abbrev lkC (env : Env) : Str → Option Addr := fun x => env.cells.lookup x
theorem closL_mem {look : Str → Option Addr} : ∀ {ns : List (Str × NameKind)} {acc : List (Str × Addr)} {q : Str × Addr}, q ∈ closL look ns acc → q ∈ acc ∨ ∃ x, (x, NameKind.free) ∈ ns ∧ q = (x, (look x).getD 0)
  | [], _, _, h => .inl h
  | (x, k) :: r, acc, q, h => by
    unfold closL at h
    rcases closL_mem h with h | ⟨y, hy, rfl⟩
    · split at h
      · rename_i hk
        rcases List.mem_cons.mp h with rfl | h
        · exact .inr ⟨x, by rw [beq_iff_eq.mp hk]; exact .head _, rfl⟩
        · exact .inl h
      · exact .inl h
    · exact .inr ⟨y, .tail _ hy, rfl⟩
theorem closL_keys {look : Str → Option Addr} : ∀ {ns : List (Str × NameKind)} {acc : List (Str × Addr)}, (∀ x, x ∈ acc.map (·.1) → x ∉ ns.map (·.1)) → (acc.map (·.1)).Nodup → (ns.map (·.1)).Nodup → ((closL look ns acc).map (·.1)).Nodup
  | [], _, _, h, _ => h
  | (x, k) :: r, acc, hd, ha, hn => by
    unfold closL
    have hn' := List.nodup_cons.mp hn
    split
    · refine closL_keys (fun y hy hr => ?_) (List.nodup_cons.mpr ⟨fun z => hd x z (.head _), ha⟩) hn'.2
      rcases List.mem_cons.mp hy with rfl | hy
      · exact hn'.1 hr
      · exact hd y hy (.tail _ hr)
    · exact closL_keys (fun y hy hr => hd y hy (.tail _ hr)) ha hn'.2
theorem closL_has {look : Str → Option Addr} : ∀ {ns : List (Str × NameKind)} {acc : List (Str × Addr)} {x : Str}, (x, NameKind.free) ∈ ns ∨ (x, (look x).getD 0) ∈ acc → (x, (look x).getD 0) ∈ closL look ns acc
  | [], _, _, h => h.elim (fun z => (nomatch z)) id
  | (y, k) :: r, acc, x, h => by
    unfold closL
    refine closL_has ?_
    rcases h with h | h
    · rcases List.mem_cons.mp h with e | h
      · cases e; exact .inr (.head _)
      · exact .inl h
    · refine .inr ?_
      split
      · exact .tail _ h
      · exact h
theorem closL_run {env : Env} (f : Str × NameKind → List (Str × Addr) → Sem (ForInStep (List (Str × Addr))))
    (hf : ∀ x k cs, f (x, k) cs = if k == .free then (do let a ← cellOf env x; pure (.yield ((x, a) :: cs))) else pure (.yield cs)) :
    ∀ (ns : List (Str × NameKind)) (acc : List (Str × Addr)), (∀ p ∈ ns, p.2 = .free → (env.cells.lookup p.1).isSome = true) → forIn ns acc f = pure (closL (lkC env) ns acc)
  | [], acc, _ => rfl
  | (x, k) :: r, acc, h => by
    rw [List.forIn_cons, hf]
    unfold closL
    have ih' := fun acc => closL_run f hf r acc fun q hq => h q (.tail _ hq)
    cases hk : k == NameKind.free with
    | false => exact ih' acc
    | true =>
      obtain ⟨a, ha⟩ := Option.isSome_iff_exists.mp (h (x, k) (.head _) (beq_iff_eq.mp hk))
      have hc : cellOf env x = pure a := by unfold cellOf; rw [show env.cells.lookup x = some a from ha]
      have hl : (lkC env x).getD 0 = a := by show (env.cells.lookup x).getD 0 = a; rw [show env.cells.lookup x = some a from ha]; rfl
      rw [if_pos rfl, if_pos rfl, hc, hl]
      exact ih' _
theorem closureFor_eq {env : Env} {scope : Scope} (h : ∀ p ∈ scope.names, p.2 = .free → (env.cells.lookup p.1).isSome = true) : closureFor scope env = pure (closL (lkC env) scope.names []) := by
  unfold closureFor
  simp only [bind_pure]
  exact closL_run _ (fun x k cs => by cases hk : k == NameKind.free <;> simp [hk]) scope.names [] h
theorem cellsFrom_app : ∀ (ns : List (Str × NameKind)) (n : Nat) (acc : List (Str × Addr)), cellsFrom n ns acc = cellsFrom n ns [] ++ acc
  | [], _, _ => rfl
  | (x, k) :: r, n, acc => by
    unfold cellsFrom
    split
    · rw [cellsFrom_app r (n + 1) ((x, n) :: acc), cellsFrom_app r (n + 1) [(x, n)], List.append_assoc]; rfl
    · exact cellsFrom_app r n acc
theorem cellsFrom_key {q : Str × Addr} : ∀ {ns : List (Str × NameKind)} {n : Nat}, q ∈ cellsFrom n ns [] → (q.1, NameKind.cell) ∈ ns
  | (x, k) :: r, n, h => by
    unfold cellsFrom at h
    split at h
    · rename_i hk
      rw [cellsFrom_app] at h
      rcases List.mem_append.mp h with h | h
      · exact .tail _ (cellsFrom_key h)
      · rw [List.mem_singleton.mp h, beq_iff_eq.mp hk]; exact .head _
    · exact .tail _ (cellsFrom_key h)
theorem pushCells_size : ∀ (ns : List (Str × NameKind)) (h : Heap), h.objs.size ≤ (pushCells h ns).objs.size
  | [], _ => Nat.le_refl _
  | (_, k) :: r, h => by
    unfold pushCells
    split
    · exact Nat.le_trans (by rw [Heap.size_push]; exact Nat.le_succ _) (pushCells_size r _)
    · exact pushCells_size r h
theorem pairwise_of {l : List (Str × Addr)} (hk : (l.map (·.1)).Nodup) (hi : ∀ p ∈ l, ∀ q ∈ l, p.2 = q.2 → p.1 = q.1) : l.Pairwise fun x y => x.2 ≠ y.2 := by
  induction l with
  | nil => exact .nil
  | cons p r ih =>
    have hk' := List.nodup_cons.mp hk
    refine List.pairwise_cons.mpr ⟨fun q hq e => hk'.1 (List.mem_map.mpr ⟨q, hq, (hi p (.head _) q (.tail _ hq) e).symm⟩), ih hk'.2 fun a ha b hb => hi a (.tail _ ha) b (.tail _ hb)⟩
inductive CompVars (ns : List (Str × NameKind)) (us : List (Option MV)) : List (Str × NameKind) → List (Option MV) → Prop
  | nil : CompVars ns us [] []
  | loc {x r us'} : CompVars ns us r us' → CompVars ns us ((x, .local) :: r) (none :: us')
  | cell {x r us'} : CompVars ns us r us' → CompVars ns us ((x, .cell) :: r) (none :: us')
  | glob {x r us'} : CompVars ns us r us' → CompVars ns us ((x, .globalImplicit) :: r) (none :: us')
  | free {x k v r us'} : Slot ns us x k v → k = .cell ∨ k = .free → CompVars ns us r us' → CompVars ns us ((x, .free) :: r) (some v :: us')
theorem CompVars.len {ns us ns' us'} (h : CompVars ns us ns' us') : us'.length = ns'.length := by
  induction h <;> simp_all
theorem CompVars.at {ns us ns' us'} (h : CompVars ns us ns' us') : ∀ {i : Nat} {x k v}, ns'[i]? = some (x, k) → us'[i]? = some (some v) → k = .free ∧ ∃ k', Slot ns us x k' v ∧ (k' = .cell ∨ k' = .free) := by
  induction h with
  | nil => intro i x k v e; simp at e
  | loc _ ih => intro i x k v e f; cases i with | zero => cases f | succ i => exact ih (by simpa using e) (by simpa using f)
  | cell _ ih => intro i x k v e f; cases i with | zero => cases f | succ i => exact ih (by simpa using e) (by simpa using f)
  | glob _ ih => intro i x k v e f; cases i with | zero => cases f | succ i => exact ih (by simpa using e) (by simpa using f)
  | free hs hk _ ih => intro i x k v e f; cases i with
    | zero => cases e; cases f; exact ⟨rfl, _, hs, hk⟩
    | succ i => exact ih (by simpa using e) (by simpa using f)
theorem CompVars.free' {ns us ns' us'} (h : CompVars ns us ns' us') : ∀ {x}, (x, NameKind.free) ∈ ns' → ∃ k' v, Slot ns us x k' v ∧ (k' = .cell ∨ k' = .free) := by
  induction h with
  | nil => intro x hx; cases hx
  | loc _ ih => intro x hx; cases hx with | tail _ hx => exact ih hx
  | cell _ ih => intro x hx; cases hx with | tail _ hx => exact ih hx
  | glob _ ih => intro x hx; cases hx with | tail _ hx => exact ih hx
  | free hs hk _ ih => intro x hx; cases hx with
    | head => exact ⟨_, _, hs, hk⟩
    | tail _ hx => exact ih hx
structure CompOk (sc : Scope) : Prop where
  kind : sc.kind = .function
  nodup : (sc.names.map (·.1)).Nodup
  dbg : ∀ p ∈ sc.names, (p.1 == ("__debug__" : Str)) = false
  cdict : ∀ p ∈ sc.names, (p.1 == ("__classdict__" : Str)) = false
section
variable {c : Cx} {st : St}
theorem Inv.butC {σ : List Addr} {st : St} {h h' : Heap} {C : Addr} (hc : c.Ok) (X : Inv c σ st h) (s : Heap.SameBut C h h') (h1 : C ∉ c.fp) (h2 : C ∉ σ) (h3 : c.G.N ≤ C) : Inv c σ st h' :=
  X.stepW (m' := st.m) hc (X.hr.but s.extBut (by rw [s.1]; exact Nat.le_refl _) h2 h3) (Ext.but s.extBut (by rw [s.1]; exact Nat.le_refl _)) fun a ha z => h1 (List.mem_singleton.mp ha ▸ z)
noncomputable abbrev compCx (c : Cx) (sc : Scope) (C : Addr) : Cx :=
  { G := c.G, A := c.A, env := compEnvC sc (cellsFrom (C + 1) sc.names [] ++ closL (lkC c.env) sc.names []) C c.env, names := sc.names,
    own := C :: (cellsFrom (C + 1) sc.names []).map (·.2), fp := C :: ((cellsFrom (C + 1) sc.names []).map (·.2) ++ (closL (lkC c.env) sc.names []).map (·.2)) }
theorem free_at (hc : c.Ok) {vars : List (Option MV)} {sc : Scope} {vars' : List (Option MV)} (hV : CompVars c.names vars sc.names vars') {x : Str} (hx : (x, NameKind.free) ∈ sc.names) :
    ∃ a, a ∈ c.fp ∧ c.env.cells.lookup x = some a := by
  obtain ⟨k', v, hs, hk⟩ := hV.free' hx
  obtain ⟨i, e1, _⟩ := hs.at
  exact hc.celat i x k' hk e1
theorem comp_ok (hc : c.Ok) {sc : Scope} (S : CompOk sc) {vars vars' : List (Option MV)} (hV : CompVars c.names vars sc.names vars') {C : Addr} (hC : ∀ a ∈ c.fp, a < C) (hN : c.G.N ≤ C) : (compCx c sc C).Ok := by
  have clo : ∀ q ∈ closL (lkC c.env) sc.names [], (q.1, NameKind.free) ∈ sc.names ∧ q.2 ∈ c.fp ∧ c.env.cells.lookup q.1 = some q.2 := fun q hq => by
    rcases closL_mem hq with h | ⟨x, hx, rfl⟩
    · cases h
    · obtain ⟨a, h1, h2⟩ := free_at hc hV hx
      have e : (lkC c.env x).getD 0 = a := by show (c.env.cells.lookup x).getD 0 = a; rw [h2]; rfl
      exact ⟨hx, by show (lkC c.env x).getD 0 ∈ c.fp; rw [e]; exact h1, by show c.env.cells.lookup x = some ((lkC c.env x).getD 0); rw [e]; exact h2⟩
  have new : ∀ q ∈ cellsFrom (C + 1) sc.names [], (q.1, NameKind.cell) ∈ sc.names ∧ C < q.2 := fun q hq => ⟨cellsFrom_key hq, by
    rcases cellsFrom_sub _ _ _ q hq with z | z
    · cases z
    · exact z⟩
  have uniq : ∀ {x k k'}, (x, k) ∈ sc.names → (x, k') ∈ sc.names → k = k' := fun {x k k'} h1 h2 => by
    obtain ⟨i, hi, e1⟩ := List.getElem_of_mem h1
    obtain ⟨j, hj, e2⟩ := List.getElem_of_mem h2
    have e1' : sc.names[i]? = some (x, k) := by rw [List.getElem?_eq_getElem hi, e1]
    have e2' : sc.names[j]? = some (x, k') := by rw [List.getElem?_eq_getElem hj, e2]
    have := names_inj S.nodup e1' e2'
    subst this
    rw [e1'] at e2'; cases e2'; rfl
  have own : ∀ (i : Nat) x, sc.names[i]? = some (x, .cell) → ∃ a, a ∈ C :: (cellsFrom (C + 1) sc.names []).map (·.2) ∧ (cellsFrom (C + 1) sc.names [] ++ closL (lkC c.env) sc.names []).lookup x = some a := fun i x e => by
    obtain ⟨a, ha⟩ := Option.isSome_iff_exists.mp (cellsFrom_has sc.names (C + 1) [] (.inl (lookup_nodup S.nodup e)))
    exact ⟨a, .tail _ (List.mem_map.mpr ⟨_, mem_of_lookup ha, rfl⟩), by rw [List.lookup_append, ha]; rfl⟩
  have hkn : ((closL (lkC c.env) sc.names []).map (·.1)).Nodup := closL_keys (fun x hx => (nomatch hx)) List.nodup_nil S.nodup
  have CO : CellsOk (pushCells { (default : Heap) with objs := Array.replicate (C + 1) default } sc.names) (C + 1) (cellsFrom (C + 1) sc.names []) := by
    have := cellsFrom_ok sc.names { (default : Heap) with objs := Array.replicate (C + 1) default } (C + 1) [] ⟨fun _ _ hm => (nomatch hm), List.Pairwise.nil⟩ (by simp)
    simpa using this
  refine ⟨S.kind, S.nodup, hc.glob, hc.blt, S.dbg, S.cdict, .head _, .head _, fun a ha => ?_, ?_, fun q hq => ?_, fun a ha => ?_, hc.tlt, hc.hand, fun i x k e => ?_, own, fun i x k hk e => ?_⟩
  · cases ha with
    | head => exact .head _
    | tail _ ha => exact .tail _ (List.mem_append_left _ ha)
  · refine List.pairwise_append.mpr ⟨CO.apart, pairwise_of hkn fun p hp q hq e => ?_, fun p hp q hq e => ?_⟩
    · have h1 := mem_of_lookup (clo p hp).2.2
      have h2 := mem_of_lookup (clo q hq).2.2
      rw [e] at h1
      exact name_of_addr hc.cells h1 h2
    · have h1 := (new p hp).2
      have h2 := hC _ (clo q hq).2.1
      rw [e] at h1; exact Nat.lt_asymm h1 h2
  · rcases List.mem_append.mp hq with hq | hq
    · exact Nat.ne_of_gt (new q hq).2
    · exact Nat.ne_of_lt (hC _ (clo q hq).2.1)
  · cases ha with
    | head => exact hN
    | tail _ ha =>
      rcases List.mem_append.mp ha with ha | ha
      · obtain ⟨q, hq, rfl⟩ := List.mem_map.mp ha
        exact Nat.le_trans hN (Nat.le_of_lt (new q hq).2)
      · obtain ⟨q, hq, rfl⟩ := List.mem_map.mp ha
        exact hc.low _ (clo q hq).2.1
  · show (relabel sc c.env).names.lookup x = some k ∨ _ ∧ (relabel sc c.env).names.lookup x = some .cell
    have hm : ((relabel sc c.env).names.map (·.1)) = sc.names.map (·.1) := by
      unfold relabel
      rw [List.map_map]
      refine List.map_congr_left fun p _ => ?_
      show (if (p.2 == NameKind.free && c.env.scope.kind == ScopeKind.function && c.env.kindOf p.1 == some NameKind.cell) = true then (p.1, NameKind.cell) else (p.1, p.2)).1 = p.1
      split <;> rfl
    have hn : ((relabel sc c.env).names.map (·.1)).Nodup := hm ▸ S.nodup
    have e' : (relabel sc c.env).names[i]? = some (if (k == NameKind.free && c.env.scope.kind == ScopeKind.function && c.env.kindOf x == some NameKind.cell) = true then (x, NameKind.cell) else (x, k)) := by
      show (sc.names.map _)[i]? = _
      rw [List.getElem?_map, e]; rfl
    split at e'
    · rename_i hb
      simp only [Bool.and_eq_true, beq_iff_eq] at hb
      exact .inr ⟨hb.1.1, lookup_nodup hn e'⟩
    · exact .inl (lookup_nodup hn e')
  · rcases hk with rfl | rfl
    · obtain ⟨a, ha, hl⟩ := own i x e
      refine ⟨a, ?_, hl⟩
      cases ha with
      | head => exact .head _
      | tail _ ha => exact .tail _ (List.mem_append_left _ ha)
    · have hx := List.mem_of_getElem? e
      obtain ⟨a, h1, h2⟩ := free_at hc hV hx
      have hin : (x, a) ∈ closL (lkC c.env) sc.names [] := by
        have := closL_has (look := lkC c.env) (acc := []) (.inl hx)
        rwa [show lkC c.env x = some a from h2] at this
      refine ⟨a, .tail _ (List.mem_append_right _ (List.mem_map.mpr ⟨_, hin, rfl⟩)), ?_⟩
      show (cellsFrom (C + 1) sc.names [] ++ closL (lkC c.env) sc.names []).lookup x = some a
      rw [List.lookup_append]
      have : (cellsFrom (C + 1) sc.names []).lookup x = none := by
        cases hq : (cellsFrom (C + 1) sc.names []).lookup x with
        | none => rfl
        | some b => exact absurd (uniq (new _ (mem_of_lookup hq)).1 hx) (by decide)
      rw [this]
      exact lookup_of_mem_nodup hkn hin
theorem comp_inv (hc : c.Ok) {sc : Scope} (S : CompOk sc) {vars' : List (Option MV)} (hV : CompVars c.names st.vars sc.names vars') {σ : List Addr} {h : Heap} (I : Inv c σ st h) :
    Inv (compCx c sc h.objs.size) σ ⟨vars', st.m⟩ (pushCells (h.push { cls := .type "dict", data := .dict #[] }) sc.names) := by
  have hC : ∀ a ∈ c.fp, a < h.objs.size := I.fr.alive
  have ok := comp_ok hc S hV hC I.hr.size
  have keep : ∀ b o, h.get? b = some o → (pushCells (h.push { cls := .type "dict", data := .dict #[] }) sc.names).get? b = some o := fun b o e => pushCells_keeps _ _ b o (Heap.get?_push_of_some _ e)
  have hs : h.objs.size + 1 ≤ (pushCells (h.push { cls := .type "dict", data := .dict #[] }) sc.names).objs.size := by
    have := pushCells_size sc.names (h.push { cls := .type "dict", data := .dict #[] })
    rwa [Heap.size_push] at this
  have CO := cellsFrom_ok sc.names (h.push { cls := .type "dict", data := .dict #[] }) (h.objs.size + 1) [] ⟨fun _ _ hm => (nomatch hm), List.Pairwise.nil⟩ (by rw [Heap.size_push]; exact Nat.le_refl _)
  rw [Heap.size_push] at CO
  have clo : ∀ q ∈ closL (lkC c.env) sc.names [], q.2 ∈ c.fp ∧ c.env.cells.lookup q.1 = some q.2 := fun q hq => by
    rcases closL_mem hq with h | ⟨x, hx, rfl⟩
    · cases h
    · obtain ⟨a, h1, h2⟩ := free_at hc hV hx
      have e : (lkC c.env x).getD 0 = a := by show (c.env.cells.lookup x).getD 0 = a; rw [h2]; rfl
      exact ⟨by show (lkC c.env x).getD 0 ∈ c.fp; rw [e]; exact h1, by show c.env.cells.lookup x = some ((lkC c.env x).getD 0); rw [e]; exact h2⟩
  have lt : ∀ a ∈ (compCx c sc h.objs.size).fp, a < (pushCells (h.push { cls := .type "dict", data := .dict #[] }) sc.names).objs.size := fun a ha => by
    cases ha with
    | head => exact Nat.lt_of_lt_of_le (Nat.lt_succ_self _) hs
    | tail _ ha =>
      rcases List.mem_append.mp ha with ha | ha
      · obtain ⟨q, hq, rfl⟩ := List.mem_map.mp ha
        exact (CO.empty q.1 q.2 hq).1.lt
      · obtain ⟨q, hq, rfl⟩ := List.mem_map.mp ha
        exact Nat.lt_of_lt_of_le (hC _ (clo q hq).1) (Nat.le_of_succ_le hs)
  refine ⟨I.hr.same (fun b o _ e => keep b o e) (Nat.le_of_succ_le hs), ⟨hV.len, ⟨_, (Heap.Ns.new h (.type "dict")).keeps (pushCells_keeps _ _), fun i x mv e f => ?_⟩, lt, fun q hq hf => ?_, fun i x k mv hk e f => ?_⟩, fun a ha z => ?_, fun q hq => (nomatch hq)⟩
  · have := (hV.at e f).1; cases this
  · rcases List.mem_append.mp hq with hq | hq
    · exact ⟨_, (CO.empty q.1 q.2 hq).1⟩
    · obtain ⟨h1, h2⟩ := clo q hq
      obtain ⟨v, z⟩ := I.fr.cel (q.1, q.2) (mem_of_lookup h2) h1
      exact ⟨v, IsCell.keep1 z (keep _)⟩
  · obtain ⟨rfl, k', hs', hk'⟩ := hV.at e f
    obtain ⟨j, e1, e2⟩ := hs'.at
    obtain ⟨a, v, hf, hl, z, V⟩ := I.fr.celv j x k' mv hk' e1 e2
    obtain ⟨a', hf', hl'⟩ := ok.celat i x .free (.inr rfl) e
    have hin : (x, a) ∈ closL (lkC c.env) sc.names [] := by
      have := closL_has (look := lkC c.env) (acc := []) (.inl (List.mem_of_getElem? e))
      rwa [show lkC c.env x = some a from hl] at this
    have e3 : a' = a := by
      have h1 : (x, a') ∈ cellsFrom (h.objs.size + 1) sc.names [] ++ closL (lkC c.env) sc.names [] := mem_of_lookup hl'
      rcases List.mem_append.mp h1 with h1 | h1
      · have h2 := cellsFrom_key h1
        have h3 := List.mem_of_getElem? e
        obtain ⟨j', hj', e'⟩ := List.getElem_of_mem h2
        have e'' : sc.names[j']? = some (x, .cell) := by rw [List.getElem?_eq_getElem hj', e']
        have := names_inj S.nodup e e''
        subst this
        rw [e] at e''; cases e''
      · have := (clo _ h1).2
        rw [hl] at this; exact (Option.some.inj this).symm
    subst e3
    exact ⟨a', v, hf', hl', IsCell.keep1 z (keep _), V⟩
  · cases ha with
    | head => exact Nat.lt_irrefl _ (I.hr.low _ z).2
    | tail _ ha =>
      rcases List.mem_append.mp ha with ha | ha
      · obtain ⟨q, hq, rfl⟩ := List.mem_map.mp ha
        exact Nat.lt_asymm (I.hr.low _ z).2 (CO.empty q.1 q.2 hq).2
      · obtain ⟨q, hq, rfl⟩ := List.mem_map.mp ha
        exact I.apart _ (clo q hq).1 z
end
theorem codeAny_compLoop_go {prog : Program} {w : World} {A : Around} {R : Result → Shared → Prop} {s : Shared} {elt target iter : Expr} {scope : Scope} {pos : Pos} {it acc : Value} {env : Env} (I : Nat → Shared → Prop)
    (turn : ∀ n s, I n s → wpAny (model prog w) A (pyNext it) (fun r s₁ => match r with
      | none => R (.ok .next) s₁
      | some v => wpAny (model prog w) A (letOwnedTupleGo target it v) (fun _ s₁' => wpAny (model prog w) A (assign target env v) (fun _ s₂ => wpAny (model prog w) A (eval elt env) (fun x s₃ =>
          wpAny (model prog w) A (call (.builtin "list.append") [acc, x]) (fun _ s₄ => ∃ m, m < n ∧ I m s₄) (notedBy (model prog w) A env fun e s' => R (.error e) s') s₃)
          (notedBy (model prog w) A env fun e s' => R (.error e) s') s₂) (notedBy (model prog w) A env fun e s' => R (.error e) s') s₁') (notedBy (model prog w) A env fun e s' => R (.error e) s') s₁) (notedBy (model prog w) A env fun e s' => R (.error e) s') s)
    (n : Nat) (h : I n s) :
    codeAny (model prog w) A (.compLoop (.ListComp elt [⟨target, iter, [], 0⟩] scope pos) 0 it acc env) R s := by
  refine codeAny_loop rfl I (fun n s hI => ?_) n h
  show wpAny _ _ ((compTurn (.ListComp elt [⟨target, iter, [], 0⟩] scope pos) 0 it acc env).onRaise (fun x => do noteFrame x env; theTreesLotGoes x)) _ _ s
  refine wpAny_noted ?_
  rw [compTurn_list1]
  refine wpAny_bind (wpAny_standAt (wpAny_bind (wpAny_mono (turn n s hI) (fun r s₁ h₁ => ?_) fun _ _ h' => h')))
  cases r with
  | none => exact wpAny_pure h₁
  | some v =>
    refine wpAny_bind (wpAny_mono h₁ (fun _ s₁' h₁' => ?_) fun _ _ h' => h')
    exact wpAny_bind (wpAny_mono h₁' (fun _ s₂ h₂ => wpAny_bind (wpAny_bind (wpAny_mono h₂ (fun x s₃ h₃ => wpAny_bind (wpAny_mono h₃
      (fun _ s₄ h₄ => wpAny_pure (wpAny_pure ⟨rfl, h₄⟩)) fun _ _ h' => h')) fun _ _ h' => h'))) fun _ _ h' => h')
theorem append_at {prog : Program} {w : World} {A : Around} {E : Value → Shared → Prop} {s : Shared} {D : Addr} {us : Array Value} {n : Nat} {v : Value} {Q : Value → Shared → Prop} (ho : s.heap.get? D = some { cls := .type "list", data := .seq us n }) (hz : us.size ≤ sizeLine)
    (h : ∀ h' n', h'.get? D = some { cls := .type "list", data := .seq (us.push v) n' } → Heap.SameBut D s.heap h' → Q .none { s with heap := h' }) : wpAny (model prog w) A (call (.builtin "list.append") [.ref D, v]) Q E s := by
  have hL : s.heap.IsList D us := ⟨_, ho, rfl, n, rfl⟩
  refine wpAny_call_entry slot_list_append hL.typeIs entry_list_append ?_ (args_list_append _ _)
  show wpAny _ _ (updateSeq D (·.push v) >>= fun _ => ret .none) _ _ _
  obtain ⟨k', hg⟩ := mapSeq_get (f := fun xs => xs.push v) ho
  exact wpAny_bind (wpAny_updateSeq ho rfl (wpAny_pure ⟨.none, rfl, h _ k' hg (Heap.SameBut.update ..)⟩) hz (by rw [Array.size_push]; omega))
section
variable {c : Cx} {st : St}
noncomputable def CompN (c : Cx) (target elt : Expr) (X : Src) : Nat → X.κ → List MV → St → (List MV → MH → Prop) → Prop
  | 0, _, _, _, _ => False
  | n + 1, k, ys, st, Q => (X.can k st.m ∧ ∀ v m' k', X.step k st.m v m' k' → AsgTo c target v { st with m := m' } fun st₁ => EvalTo c elt st₁ fun y st₂ => ys.length ≤ sizeLine ∧ CompN c target elt X n k' (ys ++ [y]) st₂ Q)
      ∨ (∃ m', X.fin k st.m m' ∧ Q ys m')
theorem newEnv_comp {M : Model} {A : Around} {E : Value → Shared → Prop} {s : Shared} {scope : Scope} {globals : Addr} {cl : List (Str × Addr)} {qual : Str} {env : Env} {Q : Env → Shared → Prop}
    (hQ : Q { scope := scope, locals := s.heap.objs.size, globals := globals, cells := cellsFrom (s.heap.objs.size + 1) scope.names cl, qual := qual, func := none, code := env.code, frame := env.frame, builtins := env.builtins }
      { s with heap := pushCells (s.heap.push { cls := .type "dict", data := .dict #[] }) scope.names }) : wpAny M A (newFunctionEnv scope globals cl [] qual none .none (some env)) Q E s := by
  simp only [newFunctionEnv, Option.isSome_some, if_true]
  refine wpAny_bind (wpAny_alloc ?_)
  refine wpAny_bind (wpAny_layCells _ (fun name kind cells => by cases hkc : kind == NameKind.cell <;> simp [hkc]) _ _ _ _ ?_)
  rw [show ({ s with heap := s.heap.push { cls := .type "dict", data := .dict #[] } } : Shared).heap.objs.size = s.heap.objs.size + 1 from Heap.size_push ..]
  exact wpAny_bind (wpAny_pure (wpAny_pure hQ))
theorem comp_core (hc : c.Ok) {sc : Scope} (S : CompOk sc) {elt target iter : Expr} {pos : Pos} {K : MV → St → Prop} {vars' : List (Option MV)} (hV : CompVars c.names st.vars sc.names vars')
    (h : IterE c iter st fun X st₁ => st₁.vars = st.vars ∧ (X.tup = true → isTup target = true) ∧ X.cmp = true ∧ ∃ n,
      ∀ env own fp, Cx.Ok ⟨c.G, c.A, env, sc.names, own, fp, []⟩ → CompN ⟨c.G, c.A, env, sc.names, own, fp, []⟩ target elt X n X.k0 [] ⟨vars', st₁.m⟩ fun ys m' => K (.ref m'.n) { st₁ with m := m'.alloc (.list ys) })
    {σ : List Addr} {hh : Heap} {t : Nat} {Q : Value → Shared → Prop} {Es : Value → Shared → Prop} {use : Option (Value → Sem Unit)} (I : Inv c σ st hh) (hs : ∀ x, foldedSetIterable iter c.env x = pure x)
    (q : ∀ σ' h' t' C D v st', K v st' → Inv c σ' st' h' → VRel c.G.N σ' v (.ref D) → Ext c.G c.own σ σ' hh h' → (∃ m, h'.Ns C m) → C ∉ c.fp → C ∉ σ' → c.G.N ≤ C → hh.objs.size ≤ C → compPost c.G.M c.A Es use Q (.ref D) C (.ok .next) (c.G.S h' t')) :
    wpAny c.G.M c.A (comprehension (.ListComp elt [⟨target, iter, [], 0⟩] sc pos) sc c.env (firstIterPos [⟨target, iter, [], 0⟩] pos) (newList []) false (eval iter c.env) use) Q Es (c.G.S hh t) := by
  have hcl : ∀ p ∈ sc.names, p.2 = .free → (c.env.cells.lookup p.1).isSome = true := fun p hp e => by
    obtain ⟨a, _, h2⟩ := free_at hc hV (x := p.1) (by rw [← e]; exact hp)
    rw [h2]; rfl
  refine wpAny_comprehension_free rfl hs (closureFor_eq hcl) S.kind (fun x hx hl => by
    obtain ⟨i, hi, e⟩ := List.getElem_of_mem hx
    have e' : sc.names[i]? = some (x.1, .local) := by rw [List.getElem?_eq_getElem hi, e]; rw [← hl]
    exact lookup_nodup S.nodup e') ?_
  refine h σ hh t _ _ I fun σ₂ h₂ t₂ it ws X P st₂ hK SS I₂ p₂ hw₂ E₂ => ?_
  obtain ⟨hvars, htup, hcmp, n, H⟩ := hK
  have hV₂ : CompVars c.names st₂.vars sc.names vars' := by rw [hvars]; exact hV
  refine wpAny_newObj_type (newEnv_comp ?_)
  have I₃ : Inv c σ₂ st₂ (h₂.push { cls := .type "list", dict := none, data := .seq ([] : List Value).toArray }) := I₂.step (m' := st₂.m) hc (I₂.hr.push _) (Ext.push _)
  generalize hh3 : h₂.push { cls := .type "list", dict := none, data := .seq ([] : List Value).toArray } = h₃ at I₃
  have hC : h₃.objs.size = h₂.objs.size + 1 := by rw [← hh3, Heap.size_push]
  have k3 : ∀ b o, h₂.get? b = some o → h₃.get? b = some o := fun b o e => by rw [← hh3]; exact Heap.get?_push_of_some _ e
  have d3 : h₃.get? h₂.objs.size = some { cls := .type "list", data := .seq #[] 0 } := by rw [← hh3]; exact Heap.get?_push_size _ rfl
  have hfpC : ∀ a ∈ c.fp, a < h₃.objs.size := I₃.fr.alive
  have hok := comp_ok hc S hV₂ hfpC I₃.hr.size
  have I₄ := comp_inv hc S hV₂ I₃
  have k4 : ∀ b o, h₃.get? b = some o → (pushCells (h₃.push { cls := .type "dict", data := .dict #[] }) sc.names).get? b = some o := fun b o e => pushCells_keeps _ _ b o (Heap.get?_push_of_some _ e)
  have s4 : h₃.objs.size + 1 ≤ (pushCells (h₃.push { cls := .type "dict", data := .dict #[] }) sc.names).objs.size := by
    have := pushCells_size sc.names (h₃.push { cls := .type "dict", data := .dict #[] })
    rwa [Heap.size_push] at this
  rw [show ({ c.G.S h₂ t₂ with heap := h₃ } : Shared).heap.objs.size = h₃.objs.size from rfl, cellsFrom_app]
  show codeAny _ _ (.compStart _ 0 _ _ (compCx c sc h₃.objs.size).env) _ (c.G.S (pushCells (h₃.push { cls := .type "dict", data := .dict #[] }) sc.names) t₂)
  generalize hh4 : pushCells (h₃.push { cls := .type "dict", data := .dict #[] }) sc.names = h₄ at I₄ k4 s4
  have E4 : Ext c.G [] σ₂ σ₂ h₂ h₄ := ⟨fun _ _ e => e, fun _ z => .inl z, by rw [hC] at s4; exact Nat.le_of_succ_le (Nat.le_of_succ_le s4), fun b o _ _ _ e => k4 b o (k3 b o e)⟩
  have H' := H (compCx c sc h₃.objs.size).env (compCx c sc h₃.objs.size).own (compCx c sc h₃.objs.size).fp hok
  have hDC : h₂.objs.size < h₃.objs.size := by rw [hC]; exact Nat.lt_succ_self _
  have ownC : ∀ a ∈ (compCx c sc h₃.objs.size).own, h₃.objs.size ≤ a := fun a ha => by
    cases ha with
    | head => exact Nat.le_refl _
    | tail _ ha =>
      obtain ⟨q', hq', rfl⟩ := List.mem_map.mp ha
      rcases cellsFrom_sub _ _ _ q' hq' with z | z
      · cases z
      · exact Nat.le_of_succ_le z
  have fpC : ∀ a ∈ (compCx c sc h₃.objs.size).fp, h₃.objs.size ≤ a ∨ a ∈ c.fp := fun a ha => by
    cases ha with
    | head => exact .inl (Nat.le_refl _)
    | tail _ ha =>
      rcases List.mem_append.mp ha with ha | ha
      · exact .inl (ownC a (.tail _ ha))
      · obtain ⟨q', hq', rfl⟩ := List.mem_map.mp ha
        rcases closL_mem hq' with z | ⟨x, hx, rfl⟩
        · cases z
        · obtain ⟨a', h1, h2⟩ := free_at hc hV₂ hx
          refine .inr ?_
          show (lkC c.env x).getD 0 ∈ c.fp
          rw [show (lkC c.env x).getD 0 = a' by show (c.env.cells.lookup x).getD 0 = a'; rw [h2]; rfl]; exact h1
  have hDfp : h₂.objs.size ∉ (compCx c sc h₃.objs.size).fp := fun z => (fpC _ z).elim (fun w => Nat.lt_irrefl _ (Nat.lt_of_lt_of_le hDC w)) fun w => Nat.lt_irrefl _ (I₂.fr.alive _ w)
  have hwfp : ∀ a ∈ ws, a ∉ (compCx c sc h₃.objs.size).fp := fun a ha z => (fpC _ z).elim (fun w => Nat.lt_irrefl _ (Nat.lt_trans (Nat.lt_of_lt_of_le (hw₂ a ha).2.1 (Nat.le_of_lt hDC)) (Nat.lt_of_le_of_ne w fun e => by
    subst e; exact Nat.lt_asymm (hw₂ _ ha).2.1 hDC))) fun w => Nat.lt_irrefl _ (Nat.lt_of_lt_of_le (I.fr.alive _ w) (hw₂ a ha).1)
  have hDw : h₂.objs.size ∉ ws := fun z => Nat.lt_irrefl _ (hw₂ _ z).2.1
  have p₄ : P X.k0 σ₂ h₄ := SS.frame (own := []) p₂ (fun a ha => ⟨fun z => (nomatch z), (hw₂ a ha).2.2, fun z => Nat.lt_irrefl _ (Nat.lt_of_lt_of_le (z ▸ hc.tlt) (Nat.le_trans I.hr.size (z ▸ (hw₂ a ha).1)))⟩) E4
  have hw₄ : ∀ a ∈ ws, a ∉ σ₂ ∧ c.G.N ≤ a ∧ a < h₄.objs.size := fun a ha => ⟨(hw₂ a ha).2.2, Nat.le_trans I.hr.size (hw₂ a ha).1, Nat.lt_of_lt_of_le (hw₂ a ha).2.1 E4.size⟩
  have hD₄ : h₂.objs.size ∉ σ₂ ∧ c.G.N ≤ h₂.objs.size ∧ h₂.objs.size < h₄.objs.size := ⟨fun z => Nat.lt_irrefl _ (I₂.hr.low _ z).2, I₂.hr.size, Heap.lt_size (k4 _ _ d3)⟩
  have loop : codeAny c.G.M c.A (.compLoop (.ListComp elt [⟨target, iter, [], 0⟩] sc pos) 0 (.ref it) (.ref h₂.objs.size) (compCx c sc h₃.objs.size).env) (compPost c.G.M c.A Es use Q (.ref h₂.objs.size) h₃.objs.size) (c.G.S h₄ t₂) := by
    refine codeAny_compLoop_go (fun n s => ∃ k σ₁ h₁ t₁ st₁ ys us n', s = c.G.S h₁ t₁ ∧ Inv (compCx c sc h₃.objs.size) σ₁ st₁ h₁ ∧ P k σ₁ h₁ ∧
      CompN (compCx c sc h₃.objs.size) target elt X n k ys st₁ (fun ys m' => K (.ref m'.n) { st₂ with m := m'.alloc (.list ys) }) ∧ h₁.get? h₂.objs.size = some { cls := .type "list", data := .seq us n' } ∧ VRels c.G.N σ₁ ys us.toList ∧
      Ext c.G ((compCx c sc h₃.objs.size).own ++ (h₂.objs.size :: ws)) σ₂ σ₁ h₄ h₁ ∧ (∀ a ∈ ws, a ∉ σ₁ ∧ c.G.N ≤ a ∧ a < h₁.objs.size) ∧ h₂.objs.size ∉ σ₁ ∧ h₂.objs.size < h₁.objs.size) ?_ n
      ⟨X.k0, σ₂, h₄, t₂, ⟨vars', st₂.m⟩, [], #[], 0, rfl, I₄, p₄, H', k4 _ _ d3, trivial, .refl, hw₄, hD₄.1, hD₄.2.2⟩
    rintro n s ⟨k, σ₁, h₁, t₁, st₁, ys, us, n', rfl, I₁, p₁, HN, hD, VY, E₁, hw₁, hDσ, hDs⟩
    cases n with
    | zero => exact HN.elim
    | succ n =>
      rcases HN with ⟨hcan, HN⟩ | ⟨m', hfin, HN⟩
      · refine wpAny_mono (SS.next (Es := notedBy c.G.M c.A (compCx c sc h₃.objs.size).env fun e s' => compPost c.G.M c.A Es use Q (.ref h₂.objs.size) h₃.objs.size (.error e) s')
          (Qs := fun v s₁' => wpAny c.G.M c.A (assign target (compCx c sc h₃.objs.size).env v) (fun _ s₂ => wpAny c.G.M c.A (eval elt (compCx c sc h₃.objs.size).env) (fun x s₃ =>
            wpAny c.G.M c.A (call (.builtin "list.append") [.ref h₂.objs.size, x]) (fun _ s₄ => ∃ m, m < n + 1 ∧ ∃ k σ₁ h₁ t₁ st₁ ys us n', s₄ = c.G.S h₁ t₁ ∧ Inv (compCx c sc h₃.objs.size) σ₁ st₁ h₁ ∧ P k σ₁ h₁ ∧
              CompN (compCx c sc h₃.objs.size) target elt X m k ys st₁ (fun ys m' => K (.ref m'.n) { st₂ with m := m'.alloc (.list ys) }) ∧ h₁.get? h₂.objs.size = some { cls := .type "list", data := .seq us n' } ∧ VRels c.G.N σ₁ ys us.toList ∧
              Ext c.G ((compCx c sc h₃.objs.size).own ++ (h₂.objs.size :: ws)) σ₂ σ₁ h₄ h₁ ∧ (∀ a ∈ ws, a ∉ σ₁ ∧ c.G.N ≤ a ∧ a < h₁.objs.size) ∧ h₂.objs.size ∉ σ₁ ∧ h₂.objs.size < h₁.objs.size)
              (notedBy c.G.M c.A (compCx c sc h₃.objs.size).env fun e s' => compPost c.G.M c.A Es use Q (.ref h₂.objs.size) h₃.objs.size (.error e) s') s₃)
              (notedBy c.G.M c.A (compCx c sc h₃.objs.size).env fun e s' => compPost c.G.M c.A Es use Q (.ref h₂.objs.size) h₃.objs.size (.error e) s') s₂)
              (notedBy c.G.M c.A (compCx c sc h₃.objs.size).env fun e s' => compPost c.G.M c.A Es use Q (.ref h₂.objs.size) h₃.objs.size (.error e) s') s₁') I₁.hr p₁ hcan htup hw₁ ?_) (fun r s₁ z => ?_) fun _ _ z => z
        · intro σa ha ta v y m' k' hst Ha Va pa Ea
          have Ia := I₁.stepW hok Ha Ea hwfp
          have hwa := apart_mono hw₁ Ea
          have hDa : ha.get? h₂.objs.size = some { cls := .type "list", data := .seq us n' } := Ea.keep _ _ hDσ hDw (fun z => Nat.lt_irrefl _ (Nat.lt_of_lt_of_le (z ▸ hc.tlt) (z ▸ hD₄.2.1))) hD
          refine HN y m' k' hst σa ha ta v _ _ Ia Va fun σb hb tb stb kb Ib Eb => ?_
          refine kb σb hb tb _ _ Ib fun σc h_c tc x yv stc kc Ic Vc Ec => ?_
          have Ebc := Eb.trans Ec
          have hDσc : h₂.objs.size ∉ σc := fun z => (Ea.new _ ((Ebc.new _ z).elim id fun w => absurd (Heap.lt_size hDa) (Nat.not_lt.mpr w))).elim hDσ fun w => Nat.lt_irrefl _ (Nat.lt_of_lt_of_le hDs w)
          have hDσa : h₂.objs.size ∉ σa := fun z => (Ea.new _ z).elim hDσ fun w => Nat.lt_irrefl _ (Nat.lt_of_lt_of_le hDs w)
          have hDc : h_c.get? h₂.objs.size = some { cls := .type "list", data := .seq us n' } := Ebc.keep _ _ hDσa (fun z => hDfp (hok.sub _ z)) (fun z => Nat.lt_irrefl _ (Nat.lt_of_lt_of_le (z ▸ hc.tlt) (z ▸ hD₄.2.1))) hDa
          have VYc : VRels c.G.N σc ys us.toList := VRels.mono Ebc.sub (VRels.mono Ea.sub VY)
          refine append_at hDc (by rw [VY.size]; exact kc.1) fun hd n'' hDd sd => ?_
          have Id : Inv (compCx c sc h₃.objs.size) σc stc hd := Ic.butC hok sd hDfp hDσc hD₄.2.1
          have Ed : Ext c.G [h₂.objs.size] σc σc h_c hd := Ext.but sd.extBut (by rw [sd.1]; exact Nat.le_refl _)
          have pc : P k' σc h_c := SS.frame pa (fun a ha' => ⟨fun z => hwfp a ha' (hok.sub _ z), (hwa a ha').1, fun z => Nat.lt_irrefl _ (Nat.lt_of_lt_of_le (z ▸ hc.tlt) (z ▸ (hwa a ha').2.1))⟩) Ebc
          have hwc := apart_mono hwa Ebc
          have pd : P k' σc hd := SS.frame (own := [h₂.objs.size]) pc (fun a ha' => ⟨fun z => hDw (List.mem_singleton.mp z ▸ ha'), (hwc a ha').1, fun z => Nat.lt_irrefl _ (Nat.lt_of_lt_of_le (z ▸ hc.tlt) (z ▸ (hwc a ha').2.1))⟩) Ed
          refine ⟨n, Nat.lt_succ_self _, k', σc, hd, tc, stc, ys ++ [yv], us.push x, n'', rfl, Id, pd, kc.2, hDd, by rw [Array.toList_push]; exact VYc.append ⟨Vc, trivial⟩, ?_, apart_mono hwc Ed, hDσc, Heap.lt_size hDd⟩
          exact ((E₁.trans (Ea.weaken fun a z => List.mem_append_right _ (.tail _ z))).trans (Ebc.weaken fun a z => List.mem_append_left _ z)).trans (Ed.weaken fun a z => List.mem_append_right _ (List.mem_singleton.mp z ▸ .head _))
        · obtain ⟨v, rfl, z⟩ := z
          exact z
      · refine SS.done I₁.hr p₁ hfin hw₁ fun σ₅ h₅ t₅ H₅ E₅ => ?_
        have hDσ₅ : h₂.objs.size ∉ σ₅ := fun z => (E₅.new _ z).elim hDσ fun w => Nat.lt_irrefl _ (Nat.lt_of_lt_of_le hDs w)
        have I₅ := I₁.stepW hok H₅ E₅ hwfp
        have hD₅ : h₅.get? h₂.objs.size = some { cls := .type "list", data := .seq us n' } := E₅.keep _ _ hDσ hDw (fun z => Nat.lt_irrefl _ (Nat.lt_of_lt_of_le (z ▸ hc.tlt) (z ▸ hD₄.2.1))) hD
        have Et : Ext c.G ((compCx c sc h₃.objs.size).own ++ (h₂.objs.size :: ws)) σ₂ σ₅ h₂ h₅ := ((E4.weaken fun _ z => (nomatch z)).trans E₁).trans (E₅.weaken fun a z => List.mem_append_right _ (.tail _ z))
        have Et' : Ext c.G ((compCx c sc h₃.objs.size).own ++ (h₂.objs.size :: ws)) σ₂ (σ₅ ++ [h₂.objs.size]) h₂ h₅ := ⟨fun i a e => sub_snoc i a (Et.sub i a e), fun a ha => (List.mem_append.mp ha).elim (Et.new a) fun z => .inr (by rw [List.mem_singleton.mp z]; exact Nat.le_refl _), Et.size, Et.keep⟩
        have inW : ∀ a ∈ (compCx c sc h₃.objs.size).own ++ (h₂.objs.size :: ws), hh.objs.size ≤ a := fun a ha => by
          rcases List.mem_append.mp ha with ha | ha
          · exact Nat.le_trans E₂.size (Nat.le_trans (Nat.le_of_lt hDC) (ownC a ha))
          · cases ha with
            | head => exact E₂.size
            | tail _ ha => exact (hw₂ a ha).1
        have HA : HRels c.G (σ₅ ++ [h₂.objs.size]) (m'.alloc (.list ys)) h₅ := H₅.allocAt hDσ₅ hD₄.2.1 (Heap.lt_size hD₅) ⟨us, n', hD₅, VRels.mono sub_snoc (VRels.mono E₅.sub VY)⟩
        have fpW : ∀ a ∈ c.fp, a ∉ (compCx c sc h₃.objs.size).own ++ (h₂.objs.size :: ws) := fun a ha z => Nat.lt_irrefl _ (Nat.lt_of_lt_of_le (I.fr.alive a ha) (inW a z))
        have IF : Inv c (σ₅ ++ [h₂.objs.size]) { st₂ with m := m'.alloc (.list ys) } h₅ := I₂.stepW hc HA Et' fun a ha z => fpW a z ha
        have hnC : h₃.objs.size ∉ σ₅ := I₅.apart _ (.head _)
        refine q (σ₅ ++ [h₂.objs.size]) h₅ t₅ h₃.objs.size h₂.objs.size (.ref m'.n) _ HN IF ⟨_, H₅.last _, rfl⟩ (Ext.shed ((E₂.weaken fun a z => List.mem_append_left _ z).trans (Et'.weaken fun a z => List.mem_append_right _ z)) inW)
          (let ⟨mm, hm, _⟩ := I₅.fr.loc; ⟨mm, hm⟩) (fun z => Nat.lt_irrefl _ (hfpC _ z)) (fun z => (List.mem_append.mp z).elim hnC fun w => Nat.lt_irrefl _ (List.mem_singleton.mp w ▸ hDC)) I₃.hr.size (Nat.le_trans E₂.size (Nat.le_of_lt hDC))
  exact codeAny_compStart_list loop (SS.self hcmp p₄ loop)
theorem ev_comp (hc : c.Ok) {sc : Scope} (S : CompOk sc) {elt target iter : Expr} {pos : Pos} {Q : MV → St → Prop} {vars' : List (Option MV)} (hV : CompVars c.names st.vars sc.names vars')
    (h : IterE c iter st fun X st₁ => st₁.vars = st.vars ∧ (X.tup = true → isTup target = true) ∧ X.cmp = true ∧ ∃ n,
      ∀ env own fp, Cx.Ok ⟨c.G, c.A, env, sc.names, own, fp, []⟩ → CompN ⟨c.G, c.A, env, sc.names, own, fp, []⟩ target elt X n X.k0 [] ⟨vars', st₁.m⟩ fun ys m' => Q (.ref m'.n) { st₁ with m := m'.alloc (.list ys) })
    (hs : ∀ x, foldedSetIterable iter c.env x = pure x := by intro _; rfl) : EvalTo c (.ListComp elt [⟨target, iter, [], 0⟩] sc pos) st Q := by
  intro σ hh t Qs Es I q
  rw [eval_ListComp]
  refine comp_core hc S hV h (use := none) I hs fun σ' h' t' C D v st' hK I' V' E' hn h1 h2 h3 h4 => ?_
  obtain ⟨m, hn⟩ := hn
  refine ⟨m, hn, fun h'' s'' => ?_⟩
  exact q σ' h'' t' _ v st' hK (I'.butC hc s'' h1 h2 h3) V' (Ext.shed ((E'.weaken fun a z => List.mem_append_left _ z).trans (Ext.weaken (own' := c.own ++ [C]) (Ext.but s''.extBut (by rw [s''.1]; exact Nat.le_refl _)) fun a z => List.mem_append_right _ z)) fun a ha => List.mem_singleton.mp ha ▸ h4)
theorem x_assign_comp (hc : c.Ok) {y : Str} {py : Pos} {sc : Scope} (S : CompOk sc) {elt target iter : Expr} {pos spos : Pos} {Q : MF → St → Prop} {vars' : List (Option MV)} (hV : CompVars c.names st.vars sc.names vars')
    (hsw : swapsWith (.ListComp elt [⟨target, iter, [], 0⟩] sc pos) (some (.Name y py)) spos.line c.env = pure true)
    (h : IterE c iter st fun X st₁ => st₁.vars = st.vars ∧ (X.tup = true → isTup target = true) ∧ X.cmp = true ∧ ∃ n,
      ∀ env own fp, Cx.Ok ⟨c.G, c.A, env, sc.names, own, fp, []⟩ → CompN ⟨c.G, c.A, env, sc.names, own, fp, []⟩ target elt X n X.k0 [] ⟨vars', st₁.m⟩ fun ys m' => PutT c y (.ref m'.n) { st₁ with m := m'.alloc (.list ys) } fun st₂ => Q .next st₂)
    (hs : ∀ x, foldedSetIterable iter c.env x = pure x := by intro _; rfl) : ExecTo c (.Assign [.Name y py] (.ListComp elt [⟨target, iter, [], 0⟩] sc pos) spos) st Q := by
  intro σ hh t Qs Es I q
  rw [exec_Assign_Name_used _ _ _ _ hsw]
  refine wpAny_bind (wpAny_standAt (wpAny_bind ?_))
  show wpAny _ c.A (do let _ ← comprehension (.ListComp elt [⟨target, iter, [], 0⟩] sc pos) sc c.env _ (newList []) false (eval iter c.env) (some (assign (.Name y py) c.env))) _ _ _
  refine wpAny_bind (wpAny_mono (comp_core hc S hV (K := fun v st' => PutT c y v st' fun st₂ => Q .next st₂) (Q := fun _ s' => Qs .next s') h (use := some (assign (.Name y py) c.env)) I hs fun σ' h' t' C D v st' hK I' V' E' hn h1 h2 h3 h4 => ?_) (fun _ s' hq => wpAny_pure (wpAny_pure hq)) fun _ _ e => e)
  obtain ⟨m, hn⟩ := hn
  obtain ⟨vars₂, hp, hq⟩ := hK
  refine wpAny_assign_Name (store_ hc hp I' V' fun h₂ t₂ I₂ E₂ => ?_)
  have hCn : h₂.Ns C m := Ns.keep1 hn fun o e => E₂.keep C o h2 (fun z => h1 (hc.sub _ z)) (fun z => Nat.lt_irrefl _ (Nat.lt_of_lt_of_le (z ▸ hc.tlt) (z ▸ h3))) e
  refine ⟨m, hCn, fun h'' s'' => ?_⟩
  exact q σ' h'' t₂ _ .next _ hq (I₂.butC hc s'' h1 h2 h3) rfl (Ext.shed (((E'.trans E₂).weaken fun a z => List.mem_append_left _ z).trans (Ext.weaken (own' := c.own ++ [C]) (Ext.but s''.extBut (by rw [s''.1]; exact Nat.le_refl _)) fun a z => List.mem_append_right _ z)) fun a ha => List.mem_singleton.mp ha ▸ h4)
end
theorem collect_sz {prog : Program} {w : World} {A : Around} {E : Value → Shared → Prop} {s : Shared} {Q : List Value → Shared → Prop} (it : Addr) {T : String} {o : Obj} {items : Array Value} {n : Nat} (hT : T = "list" ∨ T = "tuple")
    (ho : s.heap.get? it = some o) (hc : o.cls = .type T) (hd : o.data = .seq items n)
    (hQ : ∀ h', (∀ b o', s.heap.get? b = some o' → h'.get? b = some o') → s.heap.objs.size ≤ h'.objs.size → Q items.toList { s with heap := h' }) (hsz : items.size ≤ sizeLine) :
    wpAny (model prog w) A (collect (.ref it)) Q E s := wpAny_sz (wpAny_collect_seq it hT ho hc hd (fun h' hk hs => hQ h' hk hs) hsz)
theorem tuple_new_sz (l : Addr) (o : Obj) (items : Array Value) (n : Nat) (hc : o.cls = .type "list") (hd : o.data = .seq items n) (hsz : items.size ≤ sizeLine) :
    Meets (Builtin.«tuple.__new__» ⟨[.type "tuple", .ref l], []⟩)
      (fun _ R s => s.heap.get? l = some o ∧ ∀ h' : Heap, (∀ b o', s.heap.get? b = some o' → h'.get? b = some o') → s.heap.objs.size ≤ h'.objs.size → R (.ok (.ret (.ref h'.objs.size))) { s with heap := h'.push { cls := .type "tuple", data := .seq items } }) :=
  .of_wp fun prog w A R s h => by
    obtain ⟨hp, g, d, tk, os⟩ := s; obtain ⟨ht, h⟩ := h
    have hsub := sub_tuple_self
    have hinit := init_tuple_lookup
    have hmh := madeHere_tuple
    have hT : Shared.TypeIs ⟨hp, g, d, tk, os⟩ (.ref l) "list" := ⟨o, ht, hc⟩
    wp_walk using AutoSeq1.wpAny_loadPart' ht, wpAny_typeOf hT, collect_sz (hsz := hsz) l (.inl rfl) ht hc hd
    intro h' hk hs
    show wpAny _ _ (Builtin.Tuple.tupleExact items.toList.toArray >>= fun v => ret v) _ _ _
    unfold Builtin.Tuple.tupleExact
    refine wpAny_bind (wpAny_newObj_type ?_ (by show items.toList.toArray.size ≤ sizeLine; simpa using hsz))
    refine wpAny_pure ⟨_, rfl, ?_⟩
    have e : items.toList.toArray = items := by simp
    rw [e]
    exact h h' hk hs
section
variable {G : GC} {A : Around} {m : MH}
theorem meth_append {i : Nat} {xs : List MV} {Q : MV × List MV → MH → Prop} (hi : m.H i = some (.list xs)) (hq : Q (.st (.builtin "list.append"), [.ref i]) m) : ∀ pl, HT G A (RM G) (ap1 fun v => getMethod v "append" pl) [.ref i] m Q := by
  intro pl
  refine HT.read _ (fun σ h t vs Qs Es I V q => ?_) hq
  obtain ⟨v, rfl, V₁⟩ := V.one
  obtain ⟨a, us, n, ea, rfl, ho, R⟩ := I.list hi V₁
  exact getMethod_list_append ho rfl rfl (q (.builtin "list.append", [.ref a]) _ ⟨⟨rfl, trivial⟩, ⟨a, ea, rfl⟩, trivial⟩)
theorem meth_pop {i : Nat} {xs : List MV} {Q : MV × List MV → MH → Prop} (hi : m.H i = some (.list xs)) (hq : Q (.st (.builtin "list.pop"), [.ref i]) m) : ∀ pl, HT G A (RM G) (ap1 fun v => getMethod v "pop" pl) [.ref i] m Q := by
  intro pl
  refine HT.read _ (fun σ h t vs Qs Es I V q => ?_) hq
  obtain ⟨v, rfl, V₁⟩ := V.one
  obtain ⟨a, us, n, ea, rfl, ho, R⟩ := I.list hi V₁
  exact getMethod_builtin (T := "list") ⟨_, ho, rfl⟩ F.plainAttrs_list F.slot_list_pop F.type_list_pop (fun b e => by cases e; exact ⟨_, ho, rfl⟩) (q (.builtin "list.pop", [.ref a]) _ ⟨⟨rfl, trivial⟩, ⟨a, ea, rfl⟩, trivial⟩)
theorem meth_join {x : Str} {Q : MV × List MV → MH → Prop} (hq : Q (.st (.builtin "str.join"), [.str x]) m) : ∀ pl, HT G A (RM G) (ap1 fun v => getMethod v "join" pl) [.str x] m Q := by
  intro pl
  refine HT.read _ (fun σ h t vs Qs Es I V q => ?_) hq
  obtain ⟨v, rfl, t1, rfl⟩ := V.one
  exact GM.join (q (.builtin "str.join", [.str x t1]) _ ⟨⟨rfl, trivial⟩, ⟨_, rfl⟩, trivial⟩)
theorem meth_index {x : Str} {Q : MV × List MV → MH → Prop} (hq : Q (.st (.builtin "str.index"), [.str x]) m) : ∀ pl, HT G A (RM G) (ap1 fun v => getMethod v "index" pl) [.str x] m Q := by
  intro pl
  refine HT.read _ (fun σ h t vs Qs Es I V q => ?_) hq
  obtain ⟨v, rfl, t1, rfl⟩ := V.one
  exact GM.index (q (.builtin "str.index", [.str x t1]) _ ⟨⟨rfl, trivial⟩, ⟨_, rfl⟩, trivial⟩)
theorem strs_of {N : Nat} {σ : List Addr} : ∀ {texts : List Str} {us : List Value}, VRels N σ (texts.map MV.str) us → ∃ l : List (Str × Tok), us = strValues l ∧ l.map (·.1) = texts
  | [], [], _ => ⟨[], rfl, rfl⟩
  | x :: r, u :: us, h => by
    obtain ⟨⟨t, rfl⟩, h2⟩ := h
    obtain ⟨l, rfl, rfl⟩ := strs_of h2
    exact ⟨(x, t) :: l, rfl, rfl⟩
  | [], _ :: _, h => h.elim
  | _ :: _, [], h => h.elim
theorem call_join {x : Str} {i : Nat} {texts : List Str} {Q : MV → MH → Prop} (hi : m.H i = some (.list (texts.map MV.str))) (hok : JoinOk x texts = true) (hq : Q (.str (Txt.join x texts)) m) :
    HT G A (RV G) callV [.st (.builtin "str.join"), .str x, .ref i] m Q := by
  refine HT.read _ (fun σ h t vs Qs Es I V q => ?_) hq
  obtain ⟨f, v, w, rfl, ⟨rfl, _⟩, ⟨t1, rfl⟩, V₁⟩ := V.three
  obtain ⟨a, us, n, ea, rfl, ho, R⟩ := I.list hi V₁
  obtain ⟨l, hl, ht⟩ := strs_of R
  have hu : us = (strValues l).toArray := by rw [← hl, Array.toArray_toList]
  show wpAny _ _ (call (.builtin "str.join") [.str x t1, .ref a]) _ _ _
  exact SC.join (hu ▸ ⟨_, ho, rfl, n, rfl⟩) ht hok fun t' k => q _ k ⟨_, rfl⟩
theorem call_index {x y : Str} {k : Nat} {rest : List Nat} {Q : MV → MH → Prop} (ho : Builtin.Str.occurrences x y 0 x.length 1 = k :: rest) (hq : Q (.int k) m) : HT G A (RV G) callV [.st (.builtin "str.index"), .str x, .str y] m Q := by
  refine HT.read _ (fun σ h t vs Qs Es I V q => ?_) hq
  obtain ⟨f, v, w, rfl, ⟨rfl, _⟩, ⟨t1, rfl⟩, t2, rfl⟩ := V.three
  show wpAny _ _ (call (.builtin "str.index") [.str x t1, .str y t2]) _ _ _
  exact call_gives F.slot_str_index (typeIs_str _ _ _) F.entry_str_index (F.args_str_index_2 _ _) (gives_str_index x y t1 t2 k rest ho) (q _ _ ⟨_, rfl⟩)
theorem call_len {i : Nat} {xs : List MV} {Q : MV → MH → Prop} (hi : m.H i = some (.list xs)) (hl : xs.length < 2 ^ 62) (hq : Q (.int xs.length) m) : HT G A (RV G) callV [.st (.builtin "len"), .ref i] m Q := by
  refine HT.read _ (fun σ h t vs Qs Es I V q => ?_) hq
  obtain ⟨f, v, rfl, ⟨rfl, _⟩, V₁⟩ := V.two
  obtain ⟨a, us, n, ea, rfl, ho, R⟩ := I.list hi V₁
  have hz := R.size
  exact call_len_list ⟨_, ho, rfl, n, rfl⟩ (by omega) (q _ _ ⟨_, by rw [hz]⟩)
theorem call_lent {i : Nat} {xs : List MV} {Q : MV → MH → Prop} (hi : m.H i = some (.tup xs)) (hl : xs.length < 2 ^ 62) (hq : Q (.int xs.length) m) : HT G A (RV G) callV [.st (.builtin "len"), .ref i] m Q := by
  refine HT.read _ (fun σ h t vs Qs Es I V q => ?_) hq
  obtain ⟨f, v, rfl, ⟨rfl, _⟩, V₁⟩ := V.two
  obtain ⟨a, us, n, ea, rfl, ho, R⟩ := I.tup hi V₁
  have hz := R.size
  exact PyProof.Rows.len_tuple ⟨_, ho, rfl, n, rfl⟩ (by omega) (q _ _ ⟨_, by rw [hz]⟩)
theorem call_tupl {i : Nat} {xs : List MV} {Q : MV → MH → Prop} (hi : m.H i = some (.list xs)) (hl : xs.length ≤ sizeLine) (hq : Q (.ref m.n) (m.alloc (.tup xs))) : HT G A (RV G) callV [.st (.type "tuple"), .ref i] m Q := by
  intro σ h t vs Qs Es I V q
  obtain ⟨f, v, rfl, ⟨rfl, _⟩, V₁⟩ := V.two
  obtain ⟨a, us, n, ea, rfl, ho, R⟩ := I.list hi V₁
  refine callType_new F.called_tuple (by decide) (F.typeCall_tuple_1 _) (F.newCall_tuple_1 _) (fun obj => F.args_object_init_2 obj _) F.entry_tuple_new
    (tuple_new_sz a _ us n rfl rfl (by rw [R.size]; exact hl)) ⟨ho, fun h' hk hs => ?_⟩
  have I' : HRels G σ m h' := I.same (fun b o _ e => hk b o e) hs
  exact ⟨⟨_, Heap.get?_push_size _ rfl, rfl⟩, q _ _ t _ _ _ hq (I'.alloc ⟨us, 0, Heap.get?_push_size _ rfl, R.mono sub_snoc⟩) ⟨_, I'.last _, rfl⟩ (Ext.trans ⟨fun _ _ e => e, fun _ z => .inl z, hs, fun b o _ _ _ e => hk b o e⟩ (Ext.alloc _))⟩
theorem ints_of {N : Nat} {σ : List Addr} {ns : List Int} {us : Array Value} (h : VRels N σ (ns.map MV.int) us.toList) {i : Nat} {v : Value} (e : us[i]? = some v) : ∃ t, v = .int (ns.getD i 0) t := by
  have hlen : us.size = ns.length := by rw [h.size, List.length_map]
  have hi : i < ns.length := by rw [← hlen]; exact (Array.getElem?_eq_some_iff.mp e).1
  have e1 : (ns.map MV.int)[i]? = some (.int (ns.getD i 0)) := by
    rw [List.getElem?_map, List.getElem?_eq_getElem hi]
    simp [List.getD, List.getElem?_eq_getElem hi]
  obtain ⟨w, hw, t, rfl⟩ := h.get? e1
  rw [e] at hw; cases hw; exact ⟨t, rfl⟩
theorem preSum_list (ns : List Int) : ∀ k, k ≤ ns.length → preSum (fun i => ns.getD i 0) k = (ns.take k).sum
  | 0, _ => by simp [preSum]
  | k + 1, hk => by
    have hk' : k < ns.length := hk
    rw [preSum, preSum_list ns k (Nat.le_of_lt hk'), List.take_add_one, List.sum_append, List.getElem?_eq_getElem hk']
    simp [List.getD, List.getElem?_eq_getElem hk']
theorem moved {σ : List Addr} {h h2 h' : Heap} {I : Addr} (X : HRels G σ m h) (e2 : h2.objs.size = h.objs.size + 1) (k2 : ∀ b o, h.get? b = some o → h2.get? b = some o) (hI : I = h.objs.size) (hk : ∀ b o, b ∉ [I] → h2.get? b = some o → h'.get? b = some o) (hs : h.objs.size ≤ h'.objs.size) :
    HRels G σ m h' ∧ Ext G [] σ σ h h' := by
  have k : ∀ b o, h.get? b = some o → h'.get? b = some o := fun b o e => hk b o (fun z => Nat.lt_irrefl _ (by have := Heap.lt_size e; rwa [List.mem_singleton.mp z, hI] at this)) (k2 b o e)
  exact ⟨X.same (fun b o _ e => k b o e) hs, ⟨fun _ _ e => e, fun _ z => .inl z, hs, fun b o _ _ _ e => k b o e⟩⟩
theorem call_sum (hh : A.handled = none) {i : Nat} {ns : List Int} {Q : MV → MH → Prop} (hi : m.H i = some (.list (ns.map MV.int))) (hq : Q (.int ns.sum) m) : HT G A (RV G) callV [.st (.builtin "sum"), .ref i] m Q := by
  intro σ h t vs Qs Es I V q
  obtain ⟨f, v, rfl, ⟨rfl, _⟩, V₁⟩ := V.two
  obtain ⟨a, us, n, ea, rfl, ho, R⟩ := I.list hi V₁
  have hlen : us.size = ns.length := by rw [R.size, List.length_map]
  refine wpAny_tk (wpAny_sz (call_sum_walkAnyS (wpAny_pyIter_list ⟨_, ho, rfl, n, rfl⟩ ?_)))
  have hne : a ≠ h.objs.size := Nat.ne_of_lt (Heap.lt_size ho)
  refine ⟨h.objs.size, [h.objs.size, a], [h.objs.size], _, us.size, _, _, fun i => ns.getD i 0, rfl, Walks.toS (Walks.list (A := A.in1) (by exact hh) h.objs.size a hne us), ⟨⟨_, Heap.get?_push_size _ rfl, rfl, rfl⟩, ⟨_, Heap.get?_push_of_some _ ho, rfl, n, rfl⟩⟩, fun b hb => ?_, fun i v e => ints_of R e, fun s' t' hm hs ht => ?_⟩
  · show b < (h.push _).objs.size
    rw [Heap.size_push]
    simp only [List.mem_cons, List.mem_nil_iff, or_false] at hb
    rcases hb with rfl | rfl
    · exact Nat.lt_succ_self _
    · exact Nat.lt_succ_of_lt (Heap.lt_size ho)
  · obtain ⟨h', g', d', tk', os'⟩ := s'
    obtain ⟨x1, x2, x3, x4, x5⟩ := hm
    cases x2; cases x3; cases x4
    obtain ⟨t'', rfl⟩ := tk_at (show G.t0 + t + 1 ≤ tk' from ht)
    obtain ⟨I', E'⟩ := moved I (h2 := h.push _) (Heap.size_push ..) (fun b o e => Heap.get?_push_of_some _ e) rfl x1 hs
    refine q σ h' t'' _ (.int ns.sum) m hq I' ⟨t', ?_⟩ E'
    rw [hlen, preSum_list ns _ (Nat.le_refl _), List.take_length]
theorem argBest_le (bt : Nat → Nat → Bool) : ∀ k, argBest bt k ≤ k
  | 0 => Nat.le_refl _
  | k + 1 => by
    unfold argBest
    split
    · exact Nat.le_refl _
    · exact Nat.le_succ_of_le (argBest_le bt k)
theorem argBest_min (val : Nat → Int) : ∀ k j, j ≤ k → val (argBest (fun i j => decide (val i < val j)) k) ≤ val j
  | 0, j, h => by rw [Nat.le_zero.mp h]; exact Int.le_refl _
  | k + 1, j, h => by
    have ih := argBest_min val k
    unfold argBest
    split
    · rename_i hb
      simp only [decide_eq_true_eq] at hb
      rcases Nat.lt_or_ge k j with h' | h'
      · rw [show j = k + 1 by omega]; exact Int.le_refl _
      · have := ih j h'; omega
    · rename_i hb
      simp only [decide_eq_true_eq, Int.not_lt] at hb
      rcases Nat.lt_or_ge k j with h' | h'
      · rw [show j = k + 1 by omega]; exact hb
      · exact ih j h'
theorem call_min (hh : A.handled = none) {i : Nat} {ns : List Int} {k : Int} {Q : MV → MH → Prop} (hi : m.H i = some (.list (ns.map MV.int))) (hk : k ∈ ns) (hle : ∀ x ∈ ns, k ≤ x) (hq : Q (.int k) m) : HT G A (RV G) callV [.st (.builtin "min"), .ref i] m Q := by
  intro σ h t vs Qs Es I V q
  obtain ⟨f, v, rfl, ⟨rfl, _⟩, V₁⟩ := V.two
  obtain ⟨a, us, n, ea, rfl, ho, R⟩ := I.list hi V₁
  have hlen : us.size = ns.length := by rw [R.size, List.length_map]
  have hpos : 0 < ns.length := List.length_pos_of_mem hk
  refine wpAny_tk (wpAny_sz (call_min_walk (wpAny_pyIter_list ⟨_, ho, rfl, n, rfl⟩ ?_)))
  have hne : a ≠ h.objs.size := Nat.ne_of_lt (Heap.lt_size ho)
  refine ⟨h.objs.size, [h.objs.size, a], [h.objs.size], us.size, _, _, _, rfl, Walks.list (A := A.in1) (by exact hh) h.objs.size a hne us, ⟨⟨_, Heap.get?_push_size _ rfl, rfl, rfl⟩, ⟨_, Heap.get?_push_of_some _ ho, rfl, n, rfl⟩⟩, fun b hb => ?_, by rw [hlen]; exact hpos, CmpOf.ints_lt (fun i => ns.getD i 0) fun i v e => ints_of R e, fun v h' tk hP x1 hs ht => ?_⟩
  · show b < (h.push _).objs.size
    rw [Heap.size_push]
    simp only [List.mem_cons, List.mem_nil_iff, or_false] at hb
    rcases hb with rfl | rfl
    · exact Nat.lt_succ_self _
    · exact Nat.lt_succ_of_lt (Heap.lt_size ho)
  · obtain ⟨t'', rfl⟩ := tk_at (show G.t0 + t + 1 ≤ tk from ht)
    obtain ⟨I', E'⟩ := moved I (h2 := h.push _) (Heap.size_push ..) (fun b o e => Heap.get?_push_of_some _ e) rfl x1 hs
    obtain ⟨t', rfl⟩ := ints_of R hP
    refine q σ h' t'' _ (.int k) m hq I' ⟨t', ?_⟩ E'
    rw [hlen]
    have hj := argBest_le (fun i j => decide (ns.getD i 0 < ns.getD j 0)) (ns.length - 1)
    generalize hjj : argBest (fun i j => decide (ns.getD i 0 < ns.getD j 0)) (ns.length - 1) = jj at hj
    have hjl : jj < ns.length := by omega
    have e1 : ns.getD jj 0 ≤ k := by
      obtain ⟨p, hp, rfl⟩ := List.getElem_of_mem hk
      have := argBest_min (fun i => ns.getD i 0) (ns.length - 1) p (by omega)
      simp only [hjj] at this
      simpa [List.getD, List.getElem?_eq_getElem hp] using this
    have e2 : k ≤ ns.getD jj 0 := hle _ (by
      have : ns.getD jj 0 = ns[jj] := by simp [List.getD, List.getElem?_eq_getElem hjl]
      rw [this]; exact List.getElem_mem hjl)
    rw [Int.le_antisymm e1 e2]
theorem call_max2 (hh : A.handled = none) {i j : Int} {Q : MV → MH → Prop} (hq : Q (.int (max i j)) m) : HT G A (RV G) callV [.st (.builtin "max"), .int i, .int j] m Q := by
  intro σ h t vs Qs Es I V q
  obtain ⟨f, v, w, rfl, ⟨rfl, _⟩, ⟨t1, rfl⟩, t2, rfl⟩ := V.three
  show wpAny _ _ (call (.builtin "max") [.int i t1, .int j t2]) _ _ _
  refine wpAny_tk (wpAny_sz (max_two_ints hh fun h' tk hk hs ht => ?_))
  obtain ⟨t'', rfl⟩ := tk_at (show G.t0 + t + 1 ≤ tk from ht)
  refine q σ h' t'' _ (.int (max i j)) m hq (I.same (fun b o _ e => hk b o e) hs) ?_ ⟨fun _ _ e => e, fun _ z => .inl z, hs, fun b o _ _ _ e => hk b o e⟩
  split
  · exact ⟨t2, by rw [Int.max_def]; split <;> congr 1; omega⟩
  · exact ⟨t1, by rw [Int.max_def]; split <;> congr 1; omega⟩
end
section
variable {G : GC} {A : Around} {m : MH}
theorem bin_addl {i j : Nat} {xs ys : List MV} {Q : MV → MH → Prop} (hi : m.H i = some (.list xs)) (hj : m.H j = some (.list ys)) (hl : xs.length + ys.length ≤ sizeLine) (hq : Q (.ref m.n) (m.alloc (.list (xs ++ ys)))) :
    HT G A (RV G) (ap2 (binaryOp .Add)) [.ref i, .ref j] m Q := by
  intro σ h t vs Qs Es I V q
  obtain ⟨u, v, rfl, V₁, V₂⟩ := V.two
  obtain ⟨a, us, n, ea, rfl, ho, R⟩ := I.list hi V₁
  obtain ⟨b, ws, n', eb, rfl, ho', R'⟩ := I.list hj V₂
  refine concat_meets ⟨_, ho, rfl⟩ ⟨_, ho', rfl⟩ noFill_list_add seq_list_add PySem.F.slot_list_add PySem.F.entry_list_add (PySem.F.args_list_add_2 _ _) (list_addW a b us ws n n' none none #[] #[] (by rw [R.size, R'.size]; exact hl)) ⟨ho, ho', ?_⟩
  exact q _ _ t _ _ _ hq (I.alloc ⟨us ++ ws, 0, Heap.get?_push_size _ rfl, by rw [Array.toList_append]; exact (R.append R').mono sub_snoc⟩) ⟨_, I.last _, rfl⟩ (Ext.alloc _)
theorem foldl_app (us : Array Value) : ∀ (k : Nat) (acc : Array Value), (List.foldl (fun x1 x2 => x1 ++ x2) acc (List.replicate k us)).toList = acc.toList ++ (List.replicate k us.toList).flatten
  | 0, acc => by simp
  | k + 1, acc => by
    rw [List.replicate_succ, List.foldl_cons, foldl_app us k, Array.toList_append, List.replicate_succ, List.flatten_cons, List.append_assoc]
theorem VRels.rep {N : Nat} {σ : List Addr} {xs : List MV} {us : List Value} (R : VRels N σ xs us) : ∀ k : Nat, VRels N σ (List.replicate k xs).flatten (List.replicate k us).flatten
  | 0 => trivial
  | k + 1 => by rw [List.replicate_succ, List.replicate_succ, List.flatten_cons, List.flatten_cons]; exact R.append (R.rep k)
theorem flatten_nil {α : Type} : ∀ k : Nat, (List.replicate k ([] : List α)).flatten = []
  | 0 => rfl
  | k + 1 => by rw [List.replicate_succ, List.flatten_cons, flatten_nil k]; rfl
theorem bin_mull {i : Nat} {xs : List MV} {x : Int} {Q : MV → MH → Prop} (hi : m.H i = some (.list xs)) (hlo : -(2 ^ 63 : Int) ≤ x) (hhi : x < 2 ^ 63) (hl : xs.length * x.toNat ≤ 2 ^ 24) (hq : Q (.ref m.n) (m.alloc (.list (List.replicate x.toNat xs).flatten))) :
    HT G A (RV G) (ap2 (binaryOp .Mult)) [.ref i, .int x] m Q := by
  intro σ h t vs Qs Es I V q
  obtain ⟨u, v, rfl, V₁, t1, rfl⟩ := V.two
  obtain ⟨a, us, n, ea, rfl, ho, R⟩ := I.list hi V₁
  have hz : us.size * x.toNat ≤ 2 ^ 24 := by rw [R.size]; exact hl
  refine wpAny_binaryOp_repeat_ref (T := "list") (U := "int") (by decide) ⟨_, ho, rfl⟩ (fun s' => typeIs_int s' x t1) noFill_list_mul F.fills_int_mul F.slot_int_rmul repeat_list F.slot_int_index.lookup
    (call_meets F.slot_int_rmul (typeIs_int _ x t1) F.entry_int_rmul (F.args_int_rmul_2 _ _) (int___rmul___int_list x t1 a us n)
      ⟨ho, rfl, ⟨_, ho, rfl⟩, call_meets F.slot_list_mul ⟨_, ho, rfl⟩ F.entry_list_mul (F.args_list_mul_2 _ _)
        (AutoListH.list___mul___list_int_3 a us n x t1 (by simp [Builtin.List.listFitsIndex]; omega) (by omega) (by simp [Builtin.List.listTooLong, sizeLine]; omega))
        ⟨ho, ?_⟩⟩)
  refine q _ _ t _ _ _ hq (I.alloc ⟨_, 0, Heap.get?_push_size _ rfl, ?_⟩) ⟨_, I.last _, rfl⟩ (Ext.alloc _)
  rw [foldl_app]
  refine VRels.mono sub_snoc ?_
  cases hu : us.isEmpty with
  | false => simpa using R.rep x.toNat
  | true =>
    have e : us = #[] := by simpa using hu
    subst e
    cases xs with
    | nil => rw [flatten_nil]; trivial
    | cons y r => exact R.elim
theorem idx_str {x : Str} {k : Int} {c : Nat} {value slice : Expr} {Q : MV → MH → Prop} (hs : notSlice slice = true) (hk : -(2 ^ 63 : Int) ≤ k ∧ k < 2 ^ 63) (hc : (seqIndex? k x.length).bind (x.cps[·]?) = some c) (hq : Q (.str (chr c)) m) :
    HT G A (RV G) (ap2 (subscriptTail value slice)) [.str x, .int k] m Q := by
  refine HT.read _ (fun σ hh t vs Qs Es I V q => ?_) hq
  obtain ⟨v, u, rfl, ⟨t1, rfl⟩, t2, rfl⟩ := V.two
  refine tail_any (T := "str") (typeIs_str _ _ _) F.slot_str_getitem.lookup (getItem_str (by simp; omega) hc ?_) (sub_tail hs (value := value))
  exact q _ _ ⟨_, rfl⟩
noncomputable def SliceT (G : GC) (A : Around) (ov : MV) (lo hi st : Option Int) (m : MH) (Q : MV → MH → Prop) : Prop :=
  ∀ σ h t u sl vl vu vs (Qs : Value → Shared → Prop) Es, HRels G σ m h → VRel G.N σ ov u → h.IsSliceOf sl vl vu vs → IsPart vl lo → IsPart vu hi → IsPart vs st →
    (∀ σ' h' t' v y m', Q y m' → HRels G σ' m' h' → VRel G.N σ' y v → Ext G [] σ σ' h h' → Qs v (G.S h' t')) →
    ∃ T id, (G.S h t).TypeIs u T ∧ typeLookup (.type T) "__getitem__" = pure (some (.builtin id)) ∧ wpAny G.M A (getItem u (.ref sl)) Qs Es (G.S h t)
theorem slice_list {i : Nat} {xs : List MV} {lo hi st : Option Int} {Q : MV → MH → Prop} (hx : m.H i = some (.list xs)) (hl : xs.length ≤ sizeLine) (h0 : st ≠ some 0)
    {ys : List MV} (hy : ∀ N σ (us : Array Value), VRels N σ xs us.toList → VRels N σ ys (slicePick us lo hi st).toList) (hq : Q (.ref m.n) (m.alloc (.list ys))) : SliceT G A (.ref i) lo hi st m Q := by
  intro σ h t u sl vl vu vs Qs Es I V hs pl pu ps q
  obtain ⟨a, us, n, ea, rfl, ho, R⟩ := I.list hx V
  refine ⟨"list", _, ⟨_, ho, rfl⟩, list_getitem_lookup, wpAny_getItem_list_slice ⟨_, ho, rfl, n, rfl⟩ hs pl pu ps h0 ?_ (by rw [R.size]; exact hl)⟩
  exact q _ _ t _ _ _ hq (I.alloc ⟨_, 0, Heap.get?_push_size _ rfl, VRels.mono sub_snoc (hy _ _ _ R)⟩) ⟨_, I.last _, rfl⟩ (Ext.alloc _)
theorem part_of {v : Value} {k : Option Int} (h : IsPart v k) : ∃ l : Option (Int × Tok), v = partValue l ∧ l.map (·.1) = k := by
  cases h with
  | none => exact ⟨none, rfl, rfl⟩
  | int i t => exact ⟨some (i, t), rfl, rfl⟩
theorem slice_str {x : Str} {lo hi : Option Int} {Q : MV → MH → Prop} (hl : x.length ≤ sizeLine) (hq : Q (.str (Txt.slice x lo hi)) m) : SliceT G A (.str x) lo hi none m Q := by
  intro σ h t u sl vl vu vs Qs Es I V hs pl pu ps q
  obtain ⟨tx, rfl⟩ := V
  obtain ⟨l, rfl, rfl⟩ := part_of pl
  obtain ⟨r, rfl, rfl⟩ := part_of pu
  obtain ⟨s', rfl, hs'⟩ := part_of ps
  have : s' = none := by cases s' <;> first | rfl | cases hs'
  subst this
  refine ⟨"str", _, typeIs_str _ _ _, F.slot_str_getitem.lookup, wpAny_tk (wpAny_getItem_str_slice (l := l) (u := r) (st := none) hs rfl (post_val_or_str ⟨Nat.le_trans (Txt.slice_le x _ _) hl, fun t' k ht => ?_⟩))⟩
  obtain ⟨t'', rfl⟩ := tk_at (show G.t0 + t + 1 ≤ k from ht)
  exact q σ h t'' _ _ m hq I ⟨_, rfl⟩ .refl
end
section
variable {c : Cx} {st : St}
noncomputable def PartTo (c : Cx) (e : Option Expr) (st : St) (K : Option Int → St → Prop) : Prop :=
  FT c (fun _ k v => IsPart v k) (evalPart e c.env) st K
theorem part_none {K : Option Int → St → Prop} (h : K none st) : PartTo c none st K := by
  intro σ hh t Qs Es I q
  rw [evalPart_none]; exact wpAny_pure (q σ hh t _ none st h I .none .refl)
theorem part_some {e : Expr} {K : Option Int → St → Prop} (h : EvalTo c e st fun v st₁ => ∃ i : Int, v = .int i ∧ K (some i) st₁) : PartTo c (some e) st K := by
  intro σ hh t Qs Es I q
  rw [evalPart_some]
  refine h σ hh t _ _ I fun σ' h' t' v y st' hq I' V' E' => ?_
  obtain ⟨i, rfl, hK⟩ := hq
  obtain ⟨ti, rfl⟩ := V'
  exact q σ' h' t' _ (some i) st' hK I' (.int i ti) E'
theorem ev_slice {o : Expr} {lower upper step : Option Expr} {p pos : Pos} {Q : MV → St → Prop} (hc : c.Ok)
    (h : EvalTo c o st fun ov st₁ => PartTo c lower st₁ fun lo st₂ => PartTo c upper st₂ fun hi st₃ => PartTo c step st₃ fun sp st₄ => SliceT c.G c.A ov lo hi sp st₄.m fun y m => Q y { st₄ with m := m })
    {ops : Value → Value → List Value} (hsub : ∀ o i, subscripted (.Slice lower upper step p) false o i = operate (ops o i) (getItem o i)) : EvalTo c (.Subscript o (.Slice lower upper step p) pos) st Q := by
  intro σ hh t Qs Es I q
  refine Subscript_ (h σ hh t _ _ I fun σ₁ h₁ t₁ vo ov st₁ k₁ I₁ V₁ E₁ => wpAny_Slice (k₁ σ₁ h₁ t₁ _ _ I₁ fun σ₂ h₂ t₂ vl lo st₂ k₂ I₂ V₂ E₂ => k₂ σ₂ h₂ t₂ _ _ I₂ fun σ₃ h₃ t₃ vu hi st₃ k₃ I₃ V₃ E₃ => k₃ σ₃ h₃ t₃ _ _ I₃ fun σ₄ h₄ t₄ vs sp st₄ k₄ I₄ V₄ E₄ => ?_))
  have I₅ : Inv c σ₄ st₄ (h₄.push { cls := .type "slice", data := .fields #[vl, vu, vs] }) := I₄.step (m' := st₄.m) hc (I₄.hr.push _) (Ext.push _)
  have Vo := ((V₁.mono E₂.sub).mono E₃.sub).mono E₄.sub
  have E15 := (((E₁.trans E₂).trans E₃).trans E₄).trans (Ext.push { cls := .type "slice", data := .fields #[vl, vu, vs] })
  obtain ⟨T, id, hT, hlk, hw⟩ := k₄ σ₄ _ t₄ vo h₄.objs.size vl vu vs Qs Es I₅.hr Vo (Heap.IsSliceOf.new ..) V₂ V₃ V₄ fun σ' h' t' v y m' hq H' V' E' => q σ' h' t' v y _ hq (I₅.step hc H' E') V' (E15.trans (E'.weaken fun _ z => (nomatch z)))
  exact tail_any hT hlk hw (hsub _ _)
end
mutual
inductive Rd (m : MH) : MV → PyData → Prop
  | none : Rd m .none .none
  | bool (b) : Rd m (.bool b) (.bool b)
  | int (i) : Rd m (.int i) (.int i)
  | str (x) : Rd m (.str x) (.str x)
  | list {i xs ds} : m.H i = some (.list xs) → RdAll m xs ds → Rd m (.ref i) (.list ds)
  | tup {i xs ds} : m.H i = some (.tup xs) → RdAll m xs ds → Rd m (.ref i) (.tuple ds)
inductive RdAll (m : MH) : List MV → List PyData → Prop
  | nil : RdAll m [] []
  | cons {x xs d ds} : Rd m x d → RdAll m xs ds → RdAll m (x :: xs) (d :: ds)
end
section
variable {G : GC} {A : Around} {m : MH}
theorem Rd.reads {σ : List Addr} {h : Heap} (I : HRels G σ m h) {x : MV} {d : PyData} (r : Rd m x d) : ∀ {v : Value}, VRel G.N σ x v → ∃ as, Reads h v d as := by
  refine @Rd.rec m (fun x d _ => ∀ {v : Value}, VRel G.N σ x v → ∃ as, Reads h v d as) (fun xs ds _ => ∀ {vs : List Value}, VRels G.N σ xs vs → ∃ as, ReadsAll h vs ds as) ?_ ?_ ?_ ?_ ?_ ?_ ?_ ?_ x d r
  · intro v V; cases V; exact ⟨_, .none⟩
  · intro b v V; cases V; exact ⟨_, .bool b⟩
  · intro i v V; obtain ⟨t, rfl⟩ := V; exact ⟨_, .int i t⟩
  · intro x v V; obtain ⟨t, rfl⟩ := V; exact ⟨_, .str x t⟩
  · intro i xs ds hi _ ih v V
    obtain ⟨a, us, n, ea, rfl, ho, R⟩ := I.list hi V
    obtain ⟨as, h'⟩ := ih R
    exact ⟨_, .list ho rfl rfl h'⟩
  · intro i xs ds hi _ ih v V
    obtain ⟨a, us, n, ea, rfl, ho, R⟩ := I.tup hi V
    obtain ⟨as, h'⟩ := ih R
    exact ⟨_, .tuple ho rfl rfl h'⟩
  · intro vs V
    cases vs with
    | nil => exact ⟨_, .nil⟩
    | cons _ _ => exact V.elim
  · intro x d xs ds _ _ ih1 ih2 vs V
    cases vs with
    | nil => exact V.elim
    | cons v vs =>
      obtain ⟨a, h1⟩ := ih1 V.1
      obtain ⟨b, h2⟩ := ih2 V.2
      exact ⟨_, .cons h1 h2⟩
theorem cmp_eqd {a b : MV} {da db : PyData} {Q : MV → MH → Prop} (ra : Rd m a da) (rb : Rd m b db) (ha : SeqAt.shaped da = true) (hb : SeqAt.shaped db = true) (hu : A.units + 64 < cLine) (hq : Q (.bool (PyData.eqv da db)) m) :
    HT G A (RV G) (ap2 (compareOp .Eq)) [a, b] m Q := by
  refine HT.read _ (fun σ h t vs Qs Es I V q => ?_) hq
  obtain ⟨u, v, rfl, V₁, V₂⟩ := V.two
  obtain ⟨as, r1⟩ := ra.reads I V₁
  obtain ⟨bs, r2⟩ := rb.reads I V₂
  exact eq_dataH r1 r2 ha hb hu (q _ _ rfl)
theorem cmp_ned {a b : MV} {da db : PyData} {Q : MV → MH → Prop} (ra : Rd m a da) (rb : Rd m b db) (ha : SeqAt.shaped da = true) (hb : SeqAt.shaped db = true) (hu : A.units + 64 < cLine) (hq : Q (.bool (!PyData.eqv da db)) m) :
    HT G A (RV G) (ap2 (compareOp .NotEq)) [a, b] m Q := by
  refine HT.read _ (fun σ h t vs Qs Es I V q => ?_) hq
  obtain ⟨u, v, rfl, V₁, V₂⟩ := V.two
  obtain ⟨as, r1⟩ := ra.reads I V₁
  obtain ⟨bs, r2⟩ := rb.reads I V₂
  exact ne_dataH r1 r2 ha hb hu (q _ _ rfl)
theorem Good.eq {n : Nat} {A : Around} (h : Good n A) : A.units + 64 < cLine := by have := h.2.2; show A.units + 64 < 9900; omega
theorem in_adds {x y : Str} {Q : MV → MH → Prop} (hl : x.length + y.length ≤ sizeLine) (hq : Q (.str (x ++ y)) m) : HT G A (RV G) (ap2 (inplaceOp .Add)) [.str x, .str y] m Q := by
  refine HT.read _ (fun σ hh t vs Qs Es I V q => ?_) hq
  obtain ⟨a, b, rfl, ⟨t1, rfl⟩, ⟨t2, rfl⟩⟩ := V.two
  exact PyProof.Rows.iadd_str (fun t' tk => q _ tk ⟨_, rfl⟩) hl
theorem call_stri {i : Int} {Q : MV → MH → Prop} (h : -(2 ^ 61) < i ∧ i < 2 ^ 61) (hq : Q (.str (toString i)) m) : HT G A (RV G) callV [.st (.type "str"), .int i] m Q := by
  refine HT.read _ (fun σ hh t vs Qs Es I V q => ?_) hq
  obtain ⟨f, v, rfl, ⟨rfl, _⟩, t1, rfl⟩ := V.two
  exact str_of_int_fit (N := 4611686018427387904) (by split <;> omega) (Int.le_refl _) fun _ => q _ _ ⟨_, rfl⟩
theorem keeps_stat {a : Addr} (hk : keepIn G.K (.ref a) = true) : Keeps G (.st (.ref a)) m := fun σ h v I V => by
  rw [V.1]; exact keeps_K hk h I.kIn
theorem keeps_lam {i c k : Nat} {F : Addr → Addr → Obj} (hi : m.H i = some (.lam F c k)) (hf : ∀ b d, ∃ cl dd fd sl, F b d = ⟨cl, dd, .func fd, sl⟩) : Keeps G (.ref i) m := fun σ h v I V => by
  obtain ⟨a, ea, rfl⟩ := V
  obtain ⟨b, d, _, _, ho⟩ := I.obj i _ a hi ea
  obtain ⟨cl, dd, fd, sl, e⟩ := hf b d
  rw [e] at ho
  exact ⟨.frame, .inl rfl, (Looks.ld (part := none) ho).andThen .now⟩
theorem tc_good {A : Around} {C : Addr} {rest : List Value} {kw : List (Str × Value)} (n : Nat) (h : Good (n + 1) A) : Good n (A.under (.builtin "type.__call__" ⟨.ref C :: rest, kw⟩)) := by
  have w : (Code.builtin "type.__call__" ⟨.ref C :: rest, kw⟩).weight = 1 := by kernel_rfl
  have u : (Code.builtin "type.__call__" ⟨.ref C :: rest, kw⟩).cUnits = 1 := by kernel_rfl
  refine ⟨h.1, ?_, ?_⟩
  · show A.depth + (Code.builtin "type.__call__" ⟨.ref C :: rest, kw⟩).weight + n ≤ 990
    rw [w]; have := h.2.1; omega
  · show A.units + (Code.builtin "type.__call__" ⟨.ref C :: rest, kw⟩).cUnits + 8 * n ≤ 9800
    rw [u]; have := h.2.2; omega
theorem call_class {C fI : Addr} {as : List MV} {Q : MV → MH → Prop} (hm : makesIn G.K C = true) (hi : findIn G.K (.ref C) "__init__" = some (some (.ref fI))) (hf : typeIn G.K (.ref fI) = some (.type "function")) (hN : fI < G.N)
    (h : ∀ A', (∀ n, Good (n + 1) A → Good n A') → CT G A' (.st (.ref fI)) (.ref (m.n + 1) :: as) ((m.alloc (.dict [])).alloc (.inst C m.n)) fun y m' => y = .none ∧ Q (.ref (m.n + 1)) m') : CT G A (.st (.ref C)) as m Q := by
  intro σ hh t v vs R I V Vs q
  obtain ⟨rfl, _⟩ := V
  refine make_core (makes_of I.kIn hm) (looks_findIn I.kIn hi) (fun self => bind_fn I.kIn self hf) (.inl rfl) ?_
  have I1 : HRels G (σ ++ [hh.objs.size]) (m.alloc (.dict [])) (hh.push emptyDict) := I.alloc ⟨[], 0, Heap.get?_push_size _ rfl, trivial⟩
  have hsz : (hh.push emptyDict).objs.size = hh.objs.size + 1 := Heap.size_push ..
  have I2 : HRels G (σ ++ [hh.objs.size] ++ [hh.objs.size + 1]) ((m.alloc (.dict [])).alloc (.inst C m.n)) ((hh.push emptyDict).push (instObj C hh.objs.size)) := by
    have := I1.alloc (o := instObj C hh.objs.size) (mo := .inst C m.n) ⟨hh.objs.size, by rw [hsz]; exact sub_snoc _ _ (I.last _), Heap.get?_push_size _ rfl⟩
    rwa [hsz] at this
  have E2 : Ext G [] σ (σ ++ [hh.objs.size] ++ [hh.objs.size + 1]) hh ((hh.push emptyDict).push (instObj C hh.objs.size)) := by
    have := (Ext.alloc (G := G) (own := []) (σ := σ) (h := hh) emptyDict).trans (Ext.alloc (instObj C hh.objs.size))
    rwa [hsz] at this
  have L2 : (σ ++ [hh.objs.size] ++ [hh.objs.size + 1])[m.n + 1]? = some (hh.objs.size + 1) := I1.last _
  refine h _ tc_good _ _ t _ _ _ I2 ⟨rfl, hN⟩ ⟨⟨_, L2, rfl⟩, Vs.mono E2.sub⟩ fun σ' h' t' u y m' hq H' V' E' => ?_
  obtain ⟨rfl, hq⟩ := hq
  cases V'
  exact ⟨rfl, q σ' h' t' _ (.ref (m.n + 1)) m' hq H' ⟨_, E'.sub _ _ L2, rfl⟩ (E2.trans E')⟩
theorem get_class {C : Addr} {name : Str} {mc : Value} {x : Str} {tx : Tok} {Q : MV → MH → Prop} (hr : readsIn G.K C mc = true) (e : findCls G.K (.ref C) mc name = some (.val (.str x tx))) (hq : Q (.str x) m) :
    HT G A (RV G) (ap1 fun v => getAttr v name true) [.st (.ref C)] m Q := by
  refine HT.read _ (fun σ h t vs Qs Es I V q => ?_) hq
  obtain ⟨v, rfl, rfl, _⟩ := V.one
  exact cls_value I.kIn hr e rfl (q _ _ ⟨_, rfl⟩)
end
theorem ci_slot : PySem.Slot "callable_iterator" "__next__" "callable_iterator.__next__" :=
  .of (owner := "callable_iterator") (n := "__next__") (by rw [typeLookup_type, builtinLookup_eq_fast]; kernel_rfl) (by decide +kernel) (by decide +kernel) (by decide +kernel)
    (by first | exact .inl (by decide +kernel) | exact .inr (by decide +kernel)) (by rw [isSubtype_type]; kernel_rfl)
theorem ci_entry : entryFor table "callable_iterator.__next__" = some Builtin.«callable_iterator.__next__» := entryFor_of_tree (by kernel_rfl)
theorem ci_args (a : Value) : argsOk "callable_iterator.__next__" ⟨[a], []⟩ := by unfold argsOk; kernel_rfl
theorem cii_slot : PySem.Slot "callable_iterator" "__iter__" "callable_iterator.__iter__" :=
  .of (owner := "callable_iterator") (n := "__iter__") (by rw [typeLookup_type, builtinLookup_eq_fast]; kernel_rfl) (by decide +kernel) (by decide +kernel) (by decide +kernel)
    (by first | exact .inl (by decide +kernel) | exact .inr (by decide +kernel)) (by rw [isSubtype_type]; kernel_rfl)
theorem cii_entry : entryFor table "callable_iterator.__iter__" = some Builtin.«dict_keyiterator.__iter__» :=
  entryFor_alias (id' := "dict_keyiterator.__iter__") (by rw [fastTable_eq_tree]; kernel_rfl) (by first | rfl | decide +kernel | (unfold String.splitOn; simp +decide [String.splitOnAux])) (by decide +kernel) (by rw [fastTable_eq_tree]; kernel_rfl)
theorem cii_args (a : Value) : argsOk "callable_iterator.__iter__" ⟨[a], []⟩ := by unfold argsOk; kernel_rfl
theorem it_kind : builtinKind "iter" = none := by decide +kernel
theorem it_plain : plainId "iter" = true := by decide +kernel
theorem it_entry : entryFor table "iter" = some Builtin.«iter» := entryFor_of_tree (by kernel_rfl)
theorem it_args (a b : Value) : argsOk "iter" ⟨[a, b], []⟩ := by unfold argsOk; kernel_rfl
theorem meth_call : typeLookup (.type "method") "__call__" = pure (some (.builtin "method.__call__")) := by rw [typeLookup_type, builtinLookup_eq_fast]; kernel_rfl
theorem wpAny_borrowed {M : Model} {A : Around} {E : Value → Shared → Prop} {s : Shared} {f : Value} {Q : Value → Shared → Prop} (h : codeAny M A (.call f ⟨[], []⟩) (fun r s' => match r with | .ok (.ret v) => Q v s' | .ok _ => False | .error e => E e s') s) :
    wpAny M A (callBorrowed f []) Q E s := fun Γ p hΓ => by
  unfold callBorrowed
  rw [Sem.wp_call]
  have := h _ p rfl (hΓ.enter (.call f ⟨[], []⟩) none p (by intro x; cases x))
  refine Eq.mp (congrArg (fun R => wpCode M (Γ.enter (Code.call f ⟨[], []⟩) none p) R p s) (funext fun r => funext fun s' => ?_)) this
  rcases r with e | (v | _ | _ | _) <;> rfl
section
variable {G : GC} {A : Around} {m : MH}
theorem looks_borrows {M : Model} {h : Heap} {q f : Addr} {self : Value} {o : Obj} {fd : FuncData} (hq : h.get? q = some (methodObj (.ref f) self)) (hf : h.get? f = some o) (hd : o.data = .func fd) : Looks M h (borrowsExactly (.ref q)) true := by
  unfold borrowsExactly
  refine (Looks.ld (part := none) hq).andThen ?_
  show Looks M h (if (Value.type "method" == Value.type "method") = true then _ else _) true
  rw [if_pos (by decide)]
  refine (Looks.ld (part := none) hf).andThen ?_
  rw [hd]
  exact .now
theorem call_iter {i : Nat} {f : Addr} {x : MV} {z : Str} {Q : MV → MH → Prop} (hi : m.H i = some (.meth f x)) (hq : Q (.ref m.n) (m.alloc (.citer (.ref i) (.str z) false))) : HT G A (RV G) callV [.st (.builtin "iter"), .ref i, .str z] m Q := by
  intro σ h t vs Qs Es I V q
  obtain ⟨g, v, w, rfl, ⟨rfl, _⟩, V₁, tz, rfl⟩ := V.three
  obtain ⟨a, ea, rfl⟩ := V₁
  obtain ⟨u, U, ho⟩ := I.obj i _ a hi ea
  show wpAny _ _ (call (.builtin "iter") [.ref a, .str z tz]) _ _ _
  refine call_function_entry it_kind it_plain it_entry (it_args _ _) ?_
  unfold Builtin.«iter»
  have hT : (G.S h t).TypeIs (.ref a) "method" := ⟨_, ho, rfl⟩
  refine wpAny_bind (m := someArgs "iter" 1 2 _) (wpAny_pure ?_)
  dsimp only
  refine wpAny_bind (wpAny_specialOf hT meth_call ?_)
  simp only [Option.isNone_some, Bool.false_eq_true, if_false]
  refine wpAny_bind (wpAny_rule (wpAny_bind (wpAny_newObj_type (wpAny_pure ⟨_, rfl, ?_⟩))))
  exact q _ _ t _ _ _ hq (I.alloc ⟨_, _, ⟨a, sub_snoc _ _ ea, rfl⟩, ⟨tz, rfl⟩, Heap.get?_push_size _ rfl⟩) ⟨_, I.last _, rfl⟩ (Ext.alloc _)
end
section
variable {prog : Program} {w : World} {A : Around} {E : Value → Shared → Prop} {s : Shared}
theorem stop_met {α : Type} {A₂ : Around} {Q : Option Value → Shared → Prop} (hh : A.handled = none) (h : ∀ h', (∀ b o, s.heap.get? b = some o → h'.get? b = some o) → s.heap.objs.size ≤ h'.objs.size → Q none { s with heap := h' }) :
    wpAny (model prog w) A (Builtin.SmallTypes.stopIteration : Sem α) (fun _ _ => False) (fun e s' => wpAny (model prog w) A₂ (isInstance e (.type "StopIteration") >>= fun b => if b = true then pure none else throw e) Q E s') s := by
  unfold Builtin.SmallTypes.stopIteration
  refine wpAny_bind ?_
  unfold newExc newTuple
  refine wpAny_bind (wpAny_newObj_type ?_ (by size_fits))
  refine wpAny_bind (m := firstArgMember _ _) (wpAny_of_eq (a := Value.none) (by first | rfl | (simp only [firstArgMember]; rfl)) ?_)
  refine wpAny_newObj_type ?_ (by size_fits)
  unfold raiseNew
  refine wpAny_bind (wpAny_handled ?_)
  rw [hh]
  refine wpAny_bind (wpAny_pure (wpAny_throw ?_))
  refine wpAny_bind (wpAny_isInstance (T := "StopIteration") (b := true) ⟨_, Heap.get?_push_size _ rfl, rfl⟩ isSubtype_stop ?_)
  exact wpAny_pure (h _ (fun b o e => Heap.get?_push_of_some _ (Heap.get?_push_of_some _ e)) (by rw [Heap.size_push, Heap.size_push]; omega))
end
section
variable {G : GC} {A : Around}
noncomputable def citSrc (it mi : Nat) (f : Addr) (x : MV) (z : Str) (okm : MH → Prop) (Rr : MH → Str → MH → Prop) : Src where
  κ := Unit
  can _ m := m.H it = some (.citer (.ref mi) (.str z) false) ∧ m.H mi = some (.meth f x) ∧ okm m ∧ ∀ s m', Rr m s m' → s ≠ z ∧ m'.H it = some (.citer (.ref mi) (.str z) false)
  step _ m v m' _ := ∃ s, Rr m s m' ∧ v = .str s
  fin _ m m'' := (∃ a b, m.H it = some (.citer a b true) ∧ m'' = m) ∨ (m.H it = some (.citer (.ref mi) (.str z) false) ∧ m.H mi = some (.meth f x) ∧ okm m ∧
    ∃ m', (∀ s m₂, Rr m s m₂ → s = z ∧ m₂ = m' ∧ m₂.H it = some (.citer (.ref mi) (.str z) false) ∧ m₂.H mi = some (.meth f x)) ∧ m'' = m'.set it (.citer .none .none true))
  k0 := ()
  tup := false
  cmp := false
noncomputable abbrev citObj (u v : Value) (b : Bool) : Obj := { cls := .type "callable_iterator", data := .fields #[u, v, .bool b] }
theorem ci_turn {it mi : Nat} {f : Addr} {x : MV} {z : Str} {okm : MH → Prop} {Rr : MH → Str → MH → Prop} (hN : f < G.N) (hfn : fnIn G.K f = true) (Hr : ∀ m, okm m → CT G A.in1 (.st (.ref f)) [x] m fun y m' => ∃ s, y = .str s ∧ Rr m s m')
    {σ : List Addr} {h : Heap} {t : Nat} {m : MH} {ita : Addr} (I : HRels G σ m h) (ei : σ[it]? = some ita) (h1 : m.H it = some (.citer (.ref mi) (.str z) false)) (h2 : m.H mi = some (.meth f x)) (h3 : okm m)
    {Q : Fin → Shared → Prop} {E : Value → Shared → Prop}
    (hit : ∀ s m', Rr m s m' → m'.H it = some (.citer (.ref mi) (.str z) false))
    (q : ∀ σ' h' t' s u tz ts m' q', Rr m s m' → HRels G σ' m' h' → Ext G [] σ σ' h h' → σ'[it]? = some ita → VRel G.N σ' (.ref mi) (.ref q') → u = .ref q' → h'.get? ita = some (citObj u (.str z tz) false) →
      wpAny G.M A.in1 (if (!(z == s)) = true then (ret (.str s ts) : Sem Fin) else (do rule "callable_iterator.__next__.sentinel"; (do let o ← field (.ref ita) 0; slotLetsGo "callable_iterator.__next__" o (fun | .builtin "callable_iterator.__next__" x => x.pos.head? == some (.ref ita) | _ => false); setField (.ref ita) 0 .none; setField (.ref ita) 1 .none; setField (.ref ita) 2 (.bool true)); Builtin.SmallTypes.stopIteration)) Q E (G.S h' t')) :
    wpAny G.M A.in1 (Builtin.«callable_iterator.__next__» ⟨[.ref ita], []⟩) Q E (G.S h t) := by
  obtain ⟨vf, vz, Vf, ⟨tz, rfl⟩, ho⟩ := I.obj it _ ita h1 ei
  obtain ⟨q', eq', rfl⟩ := Vf
  obtain ⟨vx, Vx, hq⟩ := I.obj mi _ q' h2 eq'
  unfold Builtin.«callable_iterator.__next__»
  refine wpAny_bind (m := slotArgs "__next__" 0 _) (wpAny_pure ?_)
  dsimp only
  refine wpAny_bind (wpAny_field ho rfl (x := .bool false) rfl ?_)
  rw [if_neg (by decide)]
  refine wpAny_bind (wpAny_field ho rfl (x := .ref q') rfl ?_)
  refine wpAny_bind (wpAny_attempt ?_)
  unfold callOutOfASlot
  have hf : ∃ o fd, h.get? f = some o ∧ o.data = .func fd := by
    unfold fnIn at hfn
    split at hfn
    · rename_i e; exact ⟨_, _, I.kIn _ _ e, rfl⟩
    · cases hfn
  obtain ⟨o, fd, hfo, hfd⟩ := hf
  refine wpAny_bind ((looks_borrows hq hfo hfd).here ?_)
  rw [if_pos rfl]
  refine wpAny_borrowed (method_call (s := G.S h t) hq (Hr m h3 σ h t _ _ _ I ⟨rfl, hN⟩ ⟨Vx, trivial⟩ fun σ' h' t' u y m' hq' H' V' E' => ?_))
  obtain ⟨s, rfl, hR⟩ := hq'
  obtain ⟨ts, rfl⟩ := V'
  have ei' := E'.sub _ _ ei
  obtain ⟨vf', vz', Vf', ⟨tz', rfl⟩, ho'⟩ := H'.obj it _ ita (hit s m' hR) ei'
  obtain ⟨q'', eq'', rfl⟩ := Vf'
  dsimp only
  refine wpAny_bind (wpAny_field ho' rfl (x := .bool false) rfl ?_)
  rw [if_neg (by decide)]
  refine wpAny_bind (wpAny_field ho' rfl (x := .str z tz') rfl ?_)
  refine wpAny_bind (wpAny_holding (PyProof.Rows.eqBool_str ?_))
  exact q σ' h' t' s (.ref q'') tz' ts m' q'' hR H' E' ei' ⟨_, eq'', rfl⟩ rfl ho'
theorem cit_source (hh : A.handled = none) {it mi : Nat} {f : Addr} {x : MV} {z : Str} {okm : MH → Prop} {Rr : MH → Str → MH → Prop} (hN : f < G.N) (hfn : fnIn G.K f = true) (Hr : ∀ m, okm m → CT G A.in1 (.st (.ref f)) [x] m fun y m' => ∃ s, y = .str s ∧ Rr m s m') {ita : Addr} :
    Source G A ita [] (citSrc it mi f x z okm Rr) fun _ σ _ => σ[it]? = some ita where
  next := by
    intro k σ h t m target Qs Es I p hcan ht hw q
    have ei := p
    obtain ⟨h1, h2, h3, h4⟩ := hcan
    obtain ⟨vf, vz, Vf, Vz, ho⟩ := I.obj it _ ita h1 ei
    have hT : (G.S h t).TypeIs (.ref ita) "callable_iterator" := ⟨_, ho, rfl⟩
    unfold pyNext
    refine wpAny_bind (wpAny_attempt (wpAny_callSpecial?_slot (name := Str.ofString "__next__") hT ci_slot (wpAny_call_entry ci_slot hT ci_entry ?_ (ci_args _))))
    refine ci_turn hN hfn Hr I ei h1 h2 h3 (fun s m' hR => (h4 s m' hR).2) fun σ' h' t' s u tz ts m' q' hR H' E' ei' V' hu ho' => ?_
    have hne : (!(z == s)) = true := by
      have := (h4 s m' hR).1
      rw [Bool.not_eq_true', beq_eq_false_iff_ne]; exact fun e => this e.symm
    rw [if_pos hne]
    refine wpAny_pure ⟨_, rfl, wpAny_pure ⟨_, rfl, ?_⟩⟩
    refine go_plain ho' rfl (by decide) ?_
    exact q σ' h' t' _ (.str s) m' () ⟨s, hR, rfl⟩ H' ⟨_, rfl⟩ ei' E'
  done := by
    intro k σ h t m m'' Qs Es I p hfin hw q
    have ei := p
    rcases hfin with ⟨a, b, h1, rfl⟩ | ⟨h1, h2, h3, m', h4, rfl⟩
    · obtain ⟨vf, vz, Vf, Vz, ho⟩ := I.obj it _ ita h1 ei
      have hT : (G.S h t).TypeIs (.ref ita) "callable_iterator" := ⟨_, ho, rfl⟩
      unfold pyNext
      refine wpAny_bind (wpAny_attempt (wpAny_callSpecial?_slot (name := Str.ofString "__next__") hT ci_slot (wpAny_call_entry ci_slot hT ci_entry ?_ (ci_args _))))
      unfold Builtin.«callable_iterator.__next__»
      refine wpAny_bind (m := slotArgs "__next__" 0 _) (wpAny_pure ?_)
      dsimp only
      refine wpAny_bind (wpAny_field ho rfl (x := .bool true) rfl ?_)
      rw [if_pos (by decide)]
      refine wpAny_bind (wpAny_rule (wpAny_bind (wpAny_mono (stop_met (A := A.in1) (A₂ := A) (E := Es) (Q := Qs) hh fun h' hk hs => q σ h' t (I.same (fun b o _ e => hk b o e) hs) ⟨fun _ _ e => e, fun _ z => .inl z, hs, fun b o _ _ _ e => hk b o e⟩) (fun _ _ z => False.elim z) fun e s' z => z)))
    · obtain ⟨vf, vz, Vf, Vz, ho⟩ := I.obj it _ ita h1 ei
      have hT : (G.S h t).TypeIs (.ref ita) "callable_iterator" := ⟨_, ho, rfl⟩
      unfold pyNext
      refine wpAny_bind (wpAny_attempt (wpAny_callSpecial?_slot (name := Str.ofString "__next__") hT ci_slot (wpAny_call_entry ci_slot hT ci_entry ?_ (ci_args _))))
      refine ci_turn hN hfn Hr I ei h1 h2 h3 (fun s m' hR => (h4 s m' hR).2.2.1) fun σ' h' t' s u tz ts m₂ q' hR H' E' ei' V' hu ho' => ?_
      obtain ⟨rfl, rfl, h5, h6⟩ := h4 s m₂ hR
      subst hu
      rw [if_neg (by simp)]
      obtain ⟨a', ea', e'⟩ := V'
      cases e'
      obtain ⟨vx, Vx, hq⟩ := H'.obj mi _ q' h6 ea'
      have hf : ∃ o fd, h'.get? f = some o ∧ o.data = .func fd := by
        unfold fnIn at hfn
        split at hfn
        · rename_i e; exact ⟨_, _, H'.kIn _ _ e, rfl⟩
        · cases hfn
      obtain ⟨o, fd, hfo, hfd⟩ := hf
      refine wpAny_bind (wpAny_rule (wpAny_bind (wpAny_bind (wpAny_field ho' rfl (x := .ref q') rfl (wpAny_bind ?_)))))
      unfold slotLetsGo
      refine wpAny_bind ((looks_borrows hq hfo hfd).here ?_)
      rw [if_pos rfl]
      refine wpAny_pure ?_
      refine wpAny_bind (wpAny_setField_rec ho' (by simp) fun hA gA sA => ?_)
      refine wpAny_bind (wpAny_setField_rec gA (by simp) fun hB gB sB => ?_)
      refine wpAny_setField_rec gB (by simp) fun hC gC sC => ?_
      have sABC : Heap.SameBut ita h' hC := (sA.trans sB).trans sC
      have HC : HRels G σ' (m₂.set it (.citer .none .none true)) hC := H'.upd ei' sABC ⟨.none, .none, rfl, rfl, gC⟩
      have EC : Ext G [] σ' σ' h' hC := Ext.upd ei' sABC
      refine wpAny_mono (stop_met (A := A.in1) (A₂ := A) (E := Es) (Q := Qs) hh fun h'' hk hs => q σ' h'' t' (HC.same (fun b o _ e => hk b o e) hs) (E'.trans (EC.trans ⟨fun _ _ e => e, fun _ z => .inl z, hs, fun b o _ _ _ e => hk b o e⟩))) (fun _ _ z => False.elim z) fun e s' z => z
  self := by
    intro k σ h t Qs Es hcmp p q
    cases hcmp
  frame := by
    intro k σ σ' own h h' p hw E
    exact E.sub _ _ p
theorem iv_cit (hh : A.handled = none) {m : MH} {it mi : Nat} {f : Addr} {x : MV} {z : Str} {okm : MH → Prop} {Rr : MH → Str → MH → Prop} (hN : f < G.N) (hfn : fnIn G.K f = true) (Hr : ∀ m, okm m → CT G A.in1 (.st (.ref f)) [x] m fun y m' => ∃ s, y = .str s ∧ Rr m s m')
    {a b : MV} {e : Bool} (h1 : m.H it = some (.citer a b e)) {K : Src → MH → Prop} (hK : K (citSrc it mi f x z okm Rr) m) : IterV G A (.ref it) m K := by
  intro σ h t u Qs Es I V q
  obtain ⟨ita, ei, rfl⟩ := V
  obtain ⟨vf, vz, Vf, Vz, ho⟩ := I.obj it _ ita h1 ei
  have hT : (G.S h t).TypeIs (.ref ita) "callable_iterator" := ⟨_, ho, rfl⟩
  refine wpAny_pyIter_slot hT cii_slot (wpAny_call_entry cii_slot hT cii_entry ?_ (cii_args _))
  show wpAny _ _ (ret (.ref ita)) _ _ _
  exact wpAny_pure ⟨_, rfl, "callable_iterator", _, hT, ci_slot.lookup, q h t ita [] _ _ hK (cit_source hh hN hfn Hr) I ei (fun a ha => (nomatch ha)) .refl⟩
end
section
variable {prog : Program} {w : World} {A : Around} {E : Value → Shared → Prop}
theorem enum_next {hp : Heap} {g : Array GenState} {d : Drawn} {tk₀ : Tok} {os : OsState} {e it : Addr} {y : Str} {ty : Tok} {i c : Nat} {old : Value} {Q : Value → Shared → Prop}
    (he : IsEnum hp e it i old) (hst : hp.IsStrIter it "str_ascii_iterator" y ty i) (hx : y.cps[i]? = some c) (hne : e ≠ it)
    (hQ : ∀ h', IsEnumOut h' e it ((i : Int) + 1) (.str ⟨#[c]⟩ tk₀) hp.objs.size → h'.IsStrIter it "str_ascii_iterator" y ty (i + 1) →
      h'.get? hp.objs.size = some { cls := .type "tuple", data := .seq #[.int i (tk₀ + 1), .str ⟨#[c]⟩ tk₀] } → h'.objs.size = hp.objs.size + 1 →
      (∀ b o, b ≠ e → b ≠ it → hp.get? b = some o → h'.get? b = some o) → Q (.ref hp.objs.size) ⟨h', g, d, tk₀ + 1 + 1, os⟩) :
    wpAny (model prog w) A (Builtin.«enumerate.__next__» ⟨[.ref e], []⟩) (fun fin s' => ∃ v, fin = .done (.ret v) ∧ Q v s') E ⟨hp, g, d, tk₀, os⟩ := by
  have hef : e ≠ it := hne
  show wpAny _ _ (field (.ref e) 2 >>= _) _ _ _
  refine wpAny_bind (wpAny_field he rfl (x := .ref it) rfl ?_)
  refine wpAny_bind (wpAny_nextOf_ascii_item hst hx fun h₁ hit₁ hs₁ => ?_)
  replace hs₁ : Heap.SameBut it hp h₁ := hs₁
  have he₁ : IsEnum h₁ e it i old := (hs₁.2 e hne).trans he
  show wpAny _ _ (field (.ref e) 3 >>= _) _ _ ⟨h₁, g, d, tk₀ + 1, os⟩
  refine wpAny_bind (wpAny_field he₁ rfl (x := rawInt i) rfl ?_)
  show wpAny _ _ (field (.ref e) 4 >>= _) _ _ ⟨h₁, g, d, tk₀ + 1, os⟩
  refine wpAny_bind (wpAny_field he₁ rfl (x := .none) rfl ?_)
  show wpAny _ _ (mkInt i >>= _) _ _ ⟨h₁, g, d, tk₀ + 1, os⟩
  refine wpAny_bind (wpAny_mkInt ?_)
  show wpAny _ _ (setField (.ref e) 3 (rawInt ((i : Int) + 1)) >>= _) _ _ ⟨h₁, g, d, tk₀ + 1 + 1, os⟩
  refine wpAny_bind (wpAny_setField_rec he₁ (by simp) fun h₂ he₂ hs₂ => ?_)
  replace hs₂ : Heap.SameBut e h₁ h₂ := hs₂
  replace he₂ : IsEnum h₂ e it ((i : Int) + 1) old := he₂
  show wpAny _ _ (setField (.ref e) 4 .none >>= _) _ _ ⟨h₂, g, d, tk₀ + 1 + 1, os⟩
  refine wpAny_bind (wpAny_setField_rec he₂ (by simp) fun h₃ he₃ hs₃ => ?_)
  replace hs₃ : Heap.SameBut e h₂ h₃ := hs₃
  replace he₃ : IsEnum h₃ e it ((i : Int) + 1) old := he₃
  show wpAny _ _ (newTuple [.int i (tk₀ + 1), .str ⟨#[c]⟩ tk₀] >>= _) _ _ ⟨h₃, g, d, tk₀ + 1 + 1, os⟩
  refine wpAny_bind (wpAny_newTuple ?_)
  have he₄ : IsEnum (h₃.push { cls := .type "tuple", data := .seq #[.int i (tk₀ + 1), .str ⟨#[c]⟩ tk₀] }) e it ((i : Int) + 1) old := Heap.get?_push_of_some _ he₃
  generalize hh₄ : h₃.push { cls := .type "tuple", data := .seq #[.int i (tk₀ + 1), .str ⟨#[c]⟩ tk₀] } = h₄ at he₄
  have hsz : h₃.objs.size = hp.objs.size := by rw [hs₃.1, hs₂.1, hs₁.1]
  have hel : e < hp.objs.size := Heap.lt_size he
  have ht₄ : h₄.get? hp.objs.size = some { cls := .type "tuple", data := .seq #[.int i (tk₀ + 1), .str ⟨#[c]⟩ tk₀] } := by rw [← hh₄, ← hsz]; exact Heap.get?_push_size _ rfl
  have hz₄ : h₄.objs.size = hp.objs.size + 1 := by rw [← hh₄, Heap.size_push, hsz]
  have hk₄ : ∀ b o, b ≠ e → b ≠ it → hp.get? b = some o → h₄.get? b = some o := fun b o hbe hbi hb => by
    rw [← hh₄]; exact Heap.get?_push_of_some _ (hs₃.extBut b o hbe (hs₂.extBut b o hbe (hs₁.extBut b o hbi hb)))
  have hit₄ : h₄.IsStrIter it "str_ascii_iterator" y ty (i + 1) := by
    obtain ⟨o, ho, r⟩ := hit₁
    exact ⟨o, by rw [← hh₄]; exact Heap.get?_push_of_some _ (hs₃.extBut it o hef.symm (hs₂.extBut it o hef.symm ho)), r⟩
  show wpAny _ _ (Builtin.SmallTypes.ownedTupleIsFree (.ref e) >>= _) _ _ ⟨h₄, g, d, tk₀ + 1 + 1, os⟩
  rw [hsz]
  clear hh₄ he₃ hs₃ he₂ hs₂ he₁ hs₁ hit₁ hsz h₃ h₂ h₁
  refine wpAny_bind ?_
  · unfold Builtin.SmallTypes.ownedTupleIsFree
    refine wpAny_bind (wpAny_field he₄ rfl (x := .none) rfl (wpAny_pure ?_))
    simp only [if_true]
    refine wpAny_bind (wpAny_rule ?_)
    refine wpAny_bind (wpAny_field he₄ rfl (x := old) rfl ?_)
    refine wpAny_bind (wpAny_setField_rec he₄ (by simp) fun h₅ he₅ hs₅ => ?_)
    replace hs₅ : Heap.SameBut e h₄ h₅ := hs₅
    replace he₅ : IsEnum h₅ e it ((i : Int) + 1) (.str ⟨#[c]⟩ tk₀) := he₅
    show wpAny _ _ (Builtin.SmallTypes.ownedTupleHandOut (.ref e) (.ref hp.objs.size) >>= _) _ _ ⟨h₅, g, d, tk₀ + 1 + 1, os⟩
    refine wpAny_bind ?_
    · unfold Builtin.SmallTypes.ownedTupleHandOut
      refine wpAny_bind (wpAny_setField_rec he₅ (by simp) fun h₆ he₆ hs₆ => ?_)
      replace hs₆ : Heap.SameBut e h₅ h₆ := hs₆
      replace he₆ : IsEnumOut h₆ e it ((i : Int) + 1) (.str ⟨#[c]⟩ tk₀) hp.objs.size := he₆
      refine wpAny_setField_rec he₆ (by simp) fun h₇ he₇ hs₇ => ?_
      replace hs₇ : Heap.SameBut e h₆ h₇ := hs₇
      replace he₇ : IsEnumOut h₇ e it ((i : Int) + 1) (.str ⟨#[c]⟩ tk₀) hp.objs.size := he₇
      have k47 : ∀ b o, b ≠ e → h₄.get? b = some o → h₇.get? b = some o := fun b o hbe y => hs₇.extBut b o hbe (hs₆.extBut b o hbe (hs₅.extBut b o hbe y))
      refine wpAny_bind (wpAny_letGo (wpAny_pure ⟨_, rfl, hQ h₇ he₇ ?_ ?_ ?_ ?_⟩))
      · obtain ⟨o, ho, r⟩ := hit₄
        exact ⟨o, k47 it o hef.symm ho, r⟩
      · exact k47 _ _ (Nat.ne_of_gt hel) ht₄
      · rw [hs₇.1, hs₆.1, hs₅.1, hz₄]
      · exact fun b o hbe hbi hb => k47 b o hbe (hk₄ b o hbe hbi hb)
end
section
variable {G : GC} {A : Around} {m : MH}
theorem enum_source (hh : A.handled = none) {y : Str} {ty : Tok} {b : Nat} : Source G A (b + 1) [b, b + 1] (enumSrc G.t0 y) fun (k : Nat) _ h => (∃ old, IsEnum h (b + 1) b k old) ∧ h.IsStrIter b "str_ascii_iterator" y ty k where
  next := by
    intro (k : Nat) σ h t m target Qs Es I p hcan ht hw q
    obtain ⟨⟨old, he⟩, hit⟩ := p
    obtain ⟨c, hc⟩ := hcan
    have hT : (G.S h t).TypeIs (.ref (b + 1)) "enumerate" := ⟨_, he, rfl⟩
    have hne : (b + 1 : Nat) ≠ b := by omega
    have htup := ht rfl
    unfold pyNext
    refine wpAny_bind (wpAny_attempt (wpAny_callSpecial?_slot (name := Str.ofString "__next__") hT F.slot_enumerate_next
      (wpAny_call_entry F.slot_enumerate_next hT F.entry_enumerate_next (enum_next he hit hc hne fun h' z1 z2 z3 z4 z5 => wpAny_pure ⟨_, rfl, ?_⟩) (F.args_enumerate_next_1 _))))
    cases target with
    | Tuple es cx pos =>
      refine wpAny_letOwnedTupleGo_enum z1 fun h'' w1 w2 => ?_
      have hb := hw b (by simp)
      have hb1 := hw (b + 1) (by simp)
      have K1 : ∀ c o, c ∉ [b, b + 1] → h.get? c = some o → h''.get? c = some o := fun c o hc' e => (w2.2 c fun z => hc' (by simp [z])).trans (z5 c o (fun z => hc' (by simp [z])) (fun z => hc' (by simp [z])) e)
      have hs : h.objs.size ≤ h''.objs.size := by rw [w2.1, z4]; exact Nat.le_succ _
      have e1 : h.objs.size ≠ b + 1 := Nat.ne_of_gt hb1.2.2
      have I' : HRels G σ m h'' := I.keepBut K1 hs fun a ha => ⟨(hw a ha).1, (hw a ha).2.1⟩
      have E' : Ext G [b, b + 1] σ (σ ++ [h.objs.size]) h h'' := ⟨sub_snoc, fun a ha => (List.mem_append.mp ha).imp id fun z => by rw [List.mem_singleton.mp z]; exact Nat.le_refl _, hs, fun c o _ hc' _ e => K1 c o hc' e⟩
      refine q (σ ++ [h.objs.size]) h'' (t + 1 + 1) _ (.ref m.n) _ (k + 1) ⟨c, (G.S h t).toks, hc, ?_, rfl, rfl, rfl⟩ (I'.allocAt (fun z => Nat.lt_irrefl _ (I.low _ z).2) I.size (by rw [w2.1, z4]; exact Nat.lt_succ_self _) ⟨_, _, (w2.2 _ e1).trans z3, ?_⟩) ⟨_, I.last _, rfl⟩ ⟨⟨_, w1⟩, z2.extBut w2.extBut hne.symm⟩ E'
      · show G.t0 < G.t0 + t + 1; omega
      · exact ⟨⟨_, rfl⟩, rfl, trivial⟩
    | _ => cases htup
  done := by
    intro (k : Nat) σ h t m m' Qs Es I p hfin hw q
    exact hfin.elim
  self := by
    intro (k : Nat) σ h t Qs Es _ p q
    obtain ⟨⟨old, he⟩, _⟩ := p
    exact wpAny_pyIter_enum he q
  frame := by
    intro (k : Nat) σ σ' own h h' p hw E
    obtain ⟨⟨old, he⟩, o, ho, r⟩ := p
    have k1 := hw b (by simp)
    have k2 := hw (b + 1) (by simp)
    exact ⟨⟨old, E.keep _ _ k2.2.1 k2.1 k2.2.2 he⟩, o, E.keep _ _ k1.2.1 k1.1 k1.2.2 ho, r⟩
end
section
variable {G : GC} {A : Around} {m : MH}
noncomputable def NB (G : GC) : Prop := cStatics ≠ G.T ∧ NoneBooked G.h0
theorem NB.at (h : NB G) {σ : List Addr} {hh : Heap} (X : HRels G σ m hh) : NoneBooked hh := by
  obtain ⟨h1, mc, n, e⟩ := h
  exact ⟨mc, Ns.keep1 n fun o z => X.keep _ _ h1 z, e⟩
theorem cmp_is {x y : Str} {u v : Tok} {Q : MV → MH → Prop} (hb : NB G) (hu : u ≠ 0) (hv : v ≠ 0) (huv : u ≠ v) (h1 : x ≠ y → Q (.bool false) m) (h2 : x = y → ∀ b, Q (.bool b) m) : HT G A (RV G) (ap2 (compareOp .Is)) [.strT x u, .strT y v] m Q := by
  intro σ h t vs Qs Es I V q
  obtain ⟨a, b, rfl, rfl, rfl⟩ := V.two
  show wpAny _ _ (compareOp .Is (.str x u) (.str y v)) _ _ _
  have e0 : (u == 0 || v == 0) = false := by simp [hu, hv]
  by_cases hxy : x = y
  · exact wpAny_bind (wpAny_isSame_str e0 (hb.at I) fun b => wpAny_pure (q σ h t _ (.bool b) m (h2 hxy b) I rfl .refl))
  · exact wpAny_bind (wpAny_of_eq (isSame_str_other x y u v e0 (by simp [huv]) (by simp [hxy])) (wpAny_pure (q σ h t _ (.bool false) m (h1 hxy) I rfl .refl)))
theorem cmp_eqsT {x y : Str} {u v : Tok} {Q : MV → MH → Prop} (hq : Q (.bool (x == y)) m) : HT G A (RV G) (ap2 (compareOp .Eq)) [.strT x u, .strT y v] m Q := by
  refine HT.pure' _ (fun σ hh t vs Qs Es I V q => ?_) hq
  obtain ⟨a, b, rfl, rfl, rfl⟩ := V.two
  exact eq_str (q _ _ rfl)
noncomputable abbrev GC.up (G : GC) (u : Nat) : GC := { G with t0 := u }
theorem HRels.up {σ : List Addr} {h : Heap} {u : Nat} (X : HRels G σ m h) : HRels (G.up u) σ m h := ⟨X.len, X.nodup, X.low, X.obj, X.keep, X.tab, X.tlt, X.size⟩
theorem HRels.down {σ : List Addr} {h : Heap} {u : Nat} (X : HRels (G.up u) σ m h) : HRels G σ m h := ⟨X.len, X.nodup, X.low, X.obj, X.keep, X.tab, X.tlt, X.size⟩
theorem Ext.down {own σ σ' : List Addr} {h h' : Heap} {u : Nat} (X : Ext (G.up u) own σ σ' h h') : Ext G own σ σ' h h' := ⟨X.sub, X.new, X.size, X.keep⟩
end
section
variable {c : Cx} {st : St}
theorem ie_enum (hc : c.Ok) {f e : Expr} {pos : Pos} {K : Src → St → Prop}
    (h : EvalTo c f st fun fv st₁ => fv = .st (.type "enumerate") ∧ EvalTo c e st₁ fun v st₂ => ∃ y, v = .str y ∧ y.cps.all (· < 128) = true ∧ K (enumSrc c.G.t0 y) st₂)
    (hf : notAttr f = true := by rfl) (he : notStar e = true := by rfl) : IterE c (.Call f [e] [] pos) st K := by
  intro σ hh t Qs Es I q
  refine call_raw (K := fun fv as st₂ => fv = .st (.type "enumerate") ∧ ∃ y, as = [.str y] ∧ y.cps.all (· < 128) = true ∧ K (enumSrc c.G.t0 y) st₂) hc (h.mono fun fv st₁ h₁ => args_cons (h₁.2.mono fun v st₂ h₂ => args_nil ?_) he) I ?_ hf (by rw [List.all_cons, he]; rfl)
  · obtain ⟨y, rfl, r⟩ := h₂
    exact ⟨h₁.1 ▸ keeps_type, h₁.1, y, rfl, r⟩
  · rintro σ₁ h₁ t₁ fv as st₁ v us ⟨rfl, y, rfl, ha, hK⟩ I₁ V U E₁
    obtain ⟨rfl, _⟩ := V
    obtain ⟨a, rfl, ty, rfl⟩ := U.one
    refine call_enumerate_str fun h' z1 z2 z3 z4 => ?_
    rw [show strIterType y = "str_ascii_iterator" by unfold strIterType; rw [ha]; rfl] at z2
    have hs : h₁.objs.size ≤ h'.objs.size := by rw [z3]; exact Nat.le_add_right _ _
    have E' : Ext c.G [] σ₁ σ₁ h₁ h' := ⟨fun _ _ e => e, fun _ z => .inl z, hs, fun b o _ _ _ e => z4 b o e⟩
    have I' := I₁.step (m' := st₁.m) hc (I₁.hr.same (fun b o _ e => z4 b o e) hs) E'
    refine wpAny_pyIter_enum z1 ?_
    have bnd : ∀ a ∈ [h₁.objs.size, h₁.objs.size + 1], h₁.objs.size ≤ a ∧ a < h'.objs.size := fun a ha => by
      rw [z3]
      simp only [List.mem_cons, List.mem_nil_iff, or_false] at ha
      rcases ha with rfl | rfl
      · exact ⟨Nat.le_refl _, Nat.lt_add_of_pos_right (by decide)⟩
      · exact ⟨Nat.le_add_right _ _, Nat.add_lt_add_left (by decide) _⟩
    exact q σ₁ h' t₁ _ [h₁.objs.size, h₁.objs.size + 1] (enumSrc c.G.t0 y) _ st₁ hK (enum_source hc.hand) I' ⟨⟨_, z1⟩, z2⟩
      (fun a ha => ⟨Nat.le_trans E₁.size (bnd a ha).1, (bnd a ha).2, fun z => Nat.lt_irrefl _ (Nat.lt_of_lt_of_le (I₁.hr.low a z).2 (bnd a ha).1)⟩) (E₁.trans (E'.weaken fun _ z => (nomatch z)))
theorem ev_call_tk (hc : c.Ok) {f e₁ o i : Expr} {pos sp : Pos} {Q : MV → St → Prop}
    (h : EvalTo c f st fun fv st₁ => EvalTo c e₁ st₁ fun a st₂ => EvalTo c o st₂ fun ov st₃ => EvalTo c i st₃ fun iv st₄ => ∃ (y : Str) (k : Int) (ch : Nat), ov = .str y ∧ iv = .int k ∧ -(2 ^ 63 : Int) ≤ k ∧ k < 2 ^ 63 ∧
      (seqIndex? k y.length).bind (y.cps[·]?) = some ch ∧ Keeps c.G fv st₄.m ∧ ∀ u, 0 < u → CT (c.G.up u) c.A fv [a, .strT (chr ch) u] st₄.m fun y m => Q y { st₄ with m := m })
    (hf : notAttr f = true := by rfl) (h1 : notStar e₁ = true := by rfl) (hi : notSlice i = true := by rfl) : EvalTo c (.Call f [e₁, .Subscript o i sp] [] pos) st Q := by
  intro σ hh t Qs Es I q
  have ha : [e₁, Expr.Subscript o i sp].all notStar = true := by rw [List.all_cons, h1]; rfl
  rw [eval_call hf]
  refine wpAny_bind (h σ hh t _ _ I fun σ₁ h₁ t₁ v fv st₁ k₁ I₁ V₁ E₁ => ?_)
  refine callWith_of (P := fun h => ∃ k, (k = Keeper.frame ∨ k = Keeper.machine ∨ k = Keeper.boundFrame) ∧ Looks c.G.M h (keeperOf v) k) (by rw [any_items ha]; rfl) (fun _ x => x) ?_
  suffices this : wpAny c.G.M c.A (spliced (backTo pos (starEach [e₁, Expr.Subscript o i sp] c.env))) (fun us s => (∃ k, (k = Keeper.frame ∨ k = Keeper.machine ∨ k = Keeper.boundFrame) ∧ Looks c.G.M s.heap (keeperOf v) k) ∧ wpAny c.G.M c.A (call v ([] ++ us) []) Qs Es s) Es (c.G.S h₁ t₁) by
    rw [starEach_cons h1] at this ⊢
    exact evalArgs_plain this
  refine wpAny_items_cons (k₁ σ₁ h₁ t₁ _ _ I₁ fun σ₂ h₂ t₂ va a st₂ k₂ I₂ V₂ E₂ => ?_) (starEach_cons h1)
  refine wpAny_items_cons (Subscript_ (k₂ σ₂ h₂ t₂ _ _ I₂ fun σ₃ h₃ t₃ vo ov st₃ k₃ I₃ V₃ E₃ => k₃ σ₃ h₃ t₃ _ _ I₃ fun σ₄ h₄ t₄ vi iv st₄ k₄ I₄ V₄ E₄ => ?_)) (starEach_cons rfl)
  obtain ⟨y, k, ch, rfl, rfl, hk1, hk2, hch, hkeep, hct⟩ := k₄
  obtain ⟨ty, rfl⟩ := V₃
  obtain ⟨ti, rfl⟩ := V₄
  have E14 := (E₂.trans E₃).trans E₄
  have V₁' := V₁.mono E14.sub
  have V₂' := V₂.mono (E₃.trans E₄).sub
  refine tail_any (T := "str") (typeIs_str _ _ _) F.slot_str_getitem.lookup (getItem_str (by simp; omega) hch (wpAny_items_nil ?_)) (sub_tail hi (value := o))
  refine ⟨hkeep σ₄ h₄ v I₄.hr V₁', ?_⟩
  have hu : 0 < c.G.t0 + t₄ + 1 := Nat.succ_pos _
  show wpAny c.G.M c.A (call v [va, .str (chr ch) (c.G.t0 + t₄ + 1)] []) Qs Es ((c.G.up (c.G.t0 + t₄ + 1)).S h₄ 0)
  refine wpAny_call (hct _ hu σ₄ h₄ 0 v [va, .str (chr ch) (c.G.t0 + t₄ + 1)] _ I₄.hr.up V₁' ⟨V₂', rfl, trivial⟩ fun σ' h' t' u y m' hq H' V' E' => ?_)
  have e : (c.G.up (c.G.t0 + t₄ + 1)).S h' t' = c.G.S h' (t₄ + 1 + t') := by
    show (⟨h', c.G.g, c.G.d, c.G.t0 + t₄ + 1 + t' + 1, c.G.os⟩ : Shared) = ⟨h', c.G.g, c.G.d, c.G.t0 + (t₄ + 1 + t') + 1, c.G.os⟩
    rw [show c.G.t0 + t₄ + 1 + t' + 1 = c.G.t0 + (t₄ + 1 + t') + 1 by omega]
  show Qs u _
  rw [e]
  exact q σ' h' _ u y _ hq (I₄.step hc H'.down E'.down) V' (E₁.trans (E14.trans (E'.down.weaken fun _ z => (nomatch z))))
end
inductive KeepN : List (Str × NameKind) → List (Option MV) → List (Str × NameKind) → List (Option MV) → Prop
  | nil : KeepN [] [] [] []
  | skip {p u ns us ns' us'} : KeepN ns us ns' us' → KeepN (p :: ns) (u :: us) ns' us'
  | loc {x u ns us ns' us'} : KeepN ns us ns' us' → KeepN ((x, .local) :: ns) (u :: us) ((x, .local) :: ns') (u :: us')
  | glob {x u ns us ns' us'} : KeepN ns us ns' us' → KeepN ((x, .globalImplicit) :: ns) (u :: us) ((x, .globalImplicit) :: ns') (u :: us')
theorem KeepN.len {ns us ns' us'} (h : KeepN ns us ns' us') : us'.length = ns'.length := by induction h <;> simp_all
theorem KeepN.at {ns us ns' us'} (h : KeepN ns us ns' us') : ∀ {i : Nat} {x k}, ns'[i]? = some (x, k) → (k = .local ∨ k = .globalImplicit) ∧ ∃ j : Nat, ns[j]? = some (x, k) ∧ ∀ u, us'[i]? = some u → us[j]? = some u := by
  induction h with
  | nil => intro i x k e; simp at e
  | skip _ ih => intro i x k e; obtain ⟨a, j, b, c⟩ := ih e; exact ⟨a, j + 1, by simpa using b, fun u hu => by simpa using c u hu⟩
  | loc _ ih => intro i x k e; cases i with
    | zero => cases e; exact ⟨.inl rfl, 0, rfl, fun u hu => hu⟩
    | succ i => obtain ⟨a, j, b, c⟩ := ih (by simpa using e); exact ⟨a, j + 1, by simpa using b, fun u hu => by simpa using c u (by simpa using hu)⟩
  | glob _ ih => intro i x k e; cases i with
    | zero => cases e; exact ⟨.inr rfl, 0, rfl, fun u hu => hu⟩
    | succ i => obtain ⟨a, j, b, c⟩ := ih (by simpa using e); exact ⟨a, j + 1, by simpa using b, fun u hu => by simpa using c u (by simpa using hu)⟩
theorem KeepN.sub {ns us ns' us'} (h : KeepN ns us ns' us') : List.Sublist ns' ns := by
  induction h with
  | nil => exact .slnil
  | skip _ ih => exact .cons _ ih
  | loc _ ih => exact .cons₂ _ ih
  | glob _ ih => exact .cons₂ _ ih
noncomputable def LamIs (args : Arguments) (body : Expr) (scope : Scope) (x : Str) (qual : Str) (F : Addr → Addr → Obj) : Prop :=
  ∃ pm ctv, F = fun b d => kla_obj "<lambda>" qual args body scope [(x, b)] pm d ctv
structure LamEnv (G : GC) (cc : Addr) : Prop where
  env : ∀ σ m h, HRels G σ m h → ∃ mg, h.Ns mainGlobals mg ∧ h.BuiltinsAt mg G.T ∧ CodeHd h cc G.T
  triples : TriplesOk G.ps.toList
  apart : mainGlobals ≠ G.T
section
variable {c : Cx} {st : St}
theorem xs_lam (hc : c.Ok) {cc : Addr} (L : LamEnv c.G cc) (hcode : c.env.code = .ref cc) {x : Str} {mv : MV} (hx : Slot c.names st.vars x .cell mv) {args : Arguments} {body : Expr} {scope : Scope} {lpos : Pos}
    (hnf : codeAmong lpos c.G.ps.toList = none) (hd : args.defaults = []) (hkd : args.kw_defaults = []) (hcl : closL (lkC c.env) scope.names [] = [(x, (lkC c.env x).getD 0)])
    (hfree : ∀ p ∈ scope.names, p.2 = .free → p.1 = x) (htb : st.m.tb = false) {names' : List (Str × NameKind)} {vars' : List (Option MV)} (hK : KeepN c.names st.vars names' vars')
    {o : Expr} {name : Str} {ap pos : Pos} {rest : List Stmt} {Q : MF → MH → Prop}
    (h : ∀ F oc, LamIs args body scope x (c.env.qual ++ "<lambda>") F → (∃ vs t, oc.data = .fields vs ∧ vs[1]? = some (.str (c.env.qual ++ "<lambda>") t)) →
      Cx.Ok ⟨c.G, c.A, c.env, names', [c.env.locals], [c.env.locals], []⟩ →
      EvalTo ⟨c.G, c.A, c.env, names', [c.env.locals], [c.env.locals], []⟩ o ⟨vars', { (((st.m.alloc (.cell mv)).alloc (.opq oc)).alloc (.lam F st.m.n (st.m.n + 1))) with tb := true }⟩ fun ov st₁ =>
        SetAttrT ⟨c.G, c.A, c.env, names', [c.env.locals], [c.env.locals], []⟩ name ov (.ref (st.m.n + 2)) st₁ fun st₂ => ExecsH ⟨c.G, c.A, c.env, names', [c.env.locals], [c.env.locals], []⟩ rest st₂ Q) :
    ExecsH c (.Assign [.Attribute o name ap] (.Lambda args body scope lpos) pos :: rest) st Q := by
  intro σ hh t Qs Es I q
  obtain ⟨i, e1, e2⟩ := hx.at
  obtain ⟨ca, v, hfa, hlk, ⟨oc0, ho0, hd0⟩, V⟩ := I.fr.celv i x .cell mv (.inl rfl) e1 e2
  obtain ⟨mg, hg, hb, hC⟩ := L.env σ st.m hh I.hr
  obtain ⟨more, hP, hm⟩ := I.hr.tab
  have hm0 : more = #[] := hm htb
  subst hm0
  rw [Array.append_empty] at hP
  have hclos : closureFor scope c.env = pure [(x, ca)] := by
    have := closureFor_eq (env := c.env) (scope := scope) fun p hp e => by rw [hfree p hp e, hlk]; rfl
    rw [this, hcl]
    have : (lkC c.env x).getD 0 = ca := by show (c.env.cells.lookup x).getD 0 = ca; rw [hlk]; rfl
    rw [this]
  have hdef : defaultsOf args c.env = ([], []) := by
    obtain ⟨a1, a2, a3, a4, a5, a6, a7⟩ := args
    cases hd; cases hkd; rfl
  refine wpAny_execs_cons (plainObj_wpAny_Assign_Attribute ?_ (swaps_no rfl _ _ _))
  rw [arm_eval_Lambda, hdef]
  show wpAny _ _ (makeFunction "<lambda>" (c.env.qual ++ "<lambda>") args (.expr body) scope c.env [] [] [] lpos lpos.line) _ _ _
  have hcaT : ca ≠ c.G.T := fun z => by have h1 := hc.low _ hfa; rw [z] at h1; exact Nat.lt_irrefl _ (Nat.lt_of_lt_of_le hc.tlt h1)
  have hLfp : c.env.locals ∈ c.fp := hc.Lfp
  have hLT : c.env.locals ≠ c.G.T := fun z => by have h1 := hc.low _ hLfp; rw [z] at h1; exact Nat.lt_irrefl _ (Nat.lt_of_lt_of_le hc.tlt h1)
  refine wpAny_tk (kla_makeFunction hclos hc.glob hg hcode hC hP L.triples hnf L.apart hb fun c' ctv h' tk hx' hge hlt hrec htab htk => ?_)
  obtain ⟨tk, rfl⟩ := tk_at (show c.G.t0 + t + 1 ≤ tk from htk)
  obtain ⟨cr, oc, vs, tq, ecr, hoc, hdc, hq⟩ := hrec
  cases ecr
  have hs : hh.objs.size ≤ h'.objs.size := Nat.le_of_lt (Nat.lt_of_le_of_lt hge hlt)
  have H1 : HRels c.G σ { st.m with tb := true } h' := by
    refine ⟨I.hr.len, I.hr.nodup, fun a ha => ⟨(I.hr.low a ha).1, Nat.lt_of_lt_of_le (I.hr.low a ha).2 hs⟩, fun i o a e q => (I.hr.obj i o a e q).mono (fun _ _ z => z) fun o' z => hx' a o' (fun w => Nat.lt_irrefl _ (Nat.lt_of_lt_of_le (w ▸ I.hr.tlt) (w ▸ (I.hr.low a (mem_of_get q)).1))) z,
      fun b o hb e => hx' b o hb (I.hr.keep b o hb e), ⟨_, htab, fun z => by cases z⟩, I.hr.tlt, Nat.le_trans I.hr.size hs⟩
  have E1 : Ext c.G [] σ σ hh h' := ⟨fun _ _ e => e, fun _ z => .inl z, hs, fun b o _ _ h3 e => hx' b o h3 e⟩
  have hcaσ : ca ∉ σ := I.apart _ hfa
  have hca' : h'.get? ca = some oc0 := hx' _ _ hcaT ho0
  have H2 : HRels c.G (σ ++ [ca]) (MH.alloc { st.m with tb := true } (.cell mv)) h' := H1.allocAt hcaσ (hc.low _ hfa) (Heap.lt_size hca') ⟨v, oc0, V.mono sub_snoc, hca', hd0⟩
  have hc'σ : c' ∉ σ ++ [ca] := fun z => (List.mem_append.mp z).elim (fun w => Nat.lt_irrefl _ (Nat.lt_of_lt_of_le (I.hr.low _ w).2 hge)) fun w => Nat.lt_irrefl _ (Nat.lt_of_lt_of_le (List.mem_singleton.mp w ▸ I.fr.alive _ hfa) hge)
  have H3 : HRels c.G (σ ++ [ca] ++ [c']) (MH.alloc (MH.alloc { st.m with tb := true } (.cell mv)) (.opq oc)) h' := H2.allocAt hc'σ (Nat.le_trans I.hr.size hge) hlt hoc
  have hsub1 : Sub (σ ++ [ca]) (σ ++ [ca] ++ [c']) := sub_snoc
  have H4 : HRels c.G (σ ++ [ca] ++ [c'] ++ [h'.objs.size]) (MH.alloc (MH.alloc (MH.alloc { st.m with tb := true } (.cell mv)) (.opq oc)) (.lam (fun b d => kla_obj "<lambda>" (c.env.qual ++ "<lambda>") args body scope [(x, b)] ((mg "__name__").getD .none) d ctv) st.m.n (st.m.n + 1)))
      (h'.push (kla_obj "<lambda>" (c.env.qual ++ "<lambda>") args body scope [(x, ca)] ((mg "__name__").getD .none) c' ctv)) := by
    refine H3.alloc ⟨ca, c', sub_snoc _ _ (hsub1 _ _ (H1.last _)), sub_snoc _ _ (H2.last _), Heap.get?_push_size _ rfl⟩
  have hsubT : Sub σ (σ ++ [ca] ++ [c'] ++ [h'.objs.size]) := fun i a e => sub_snoc _ _ (sub_snoc _ _ (sub_snoc _ _ e))
  have hnew : ∀ a ∈ σ ++ [ca] ++ [c'] ++ [h'.objs.size], a ∈ σ ∨ a = ca ∨ hh.objs.size ≤ a := fun a ha => by
    rcases List.mem_append.mp ha with ha | ha
    · rcases List.mem_append.mp ha with ha | ha
      · rcases List.mem_append.mp ha with ha | ha
        · exact .inl ha
        · exact .inr (.inl (List.mem_singleton.mp ha))
      · exact .inr (.inr (List.mem_singleton.mp ha ▸ hge))
    · exact .inr (.inr (List.mem_singleton.mp ha ▸ hs))
  have hcao : ca ∈ c.own := by
    obtain ⟨a, h1, h2⟩ := hc.ownc i x e1
    rw [hlk] at h2; cases h2; exact h1
  have E4 : ExtO c.G c.own σ (σ ++ [ca] ++ [c'] ++ [h'.objs.size]) hh (h'.push (kla_obj "<lambda>" (c.env.qual ++ "<lambda>") args body scope [(x, ca)] ((mg "__name__").getD .none) c' ctv)) :=
    ⟨hsubT, fun a ha => (hnew a ha).imp id fun z => z.elim (fun w => .inl (by rw [w]; exact hcao)) .inr, Nat.le_trans hs (by rw [Heap.size_push]; exact Nat.le_succ _), fun b o _ _ h3 e => Heap.get?_push_of_some _ (hx' b o h3 e)⟩
  obtain ⟨ml, hnl, hrl⟩ := I.fr.loc
  have hLs : c.env.locals < hh.objs.size := hnl.lt
  have hLca : c.env.locals ≠ ca := fun z => hc.Lcell _ (mem_of_lookup hlk) z.symm
  have hok : Cx.Ok ⟨c.G, c.A, c.env, names', [c.env.locals], [c.env.locals], []⟩ := by
    refine ⟨hc.kind, List.Nodup.sublist (hK.sub.map _) hc.nodup, hc.glob, hc.blt, fun p hp => hc.dbg p (hK.sub.subset hp), fun p hp => hc.cdict p (hK.sub.subset hp), .head _, .head _, fun a ha => ha, hc.cells, hc.Lcell, fun a ha => ?_, hc.tlt, hc.hand, fun i y k e => ?_, fun i y e => ?_, fun i y k hk e => ?_⟩
    · rw [List.mem_singleton.mp ha]; exact hc.low _ hLfp
    · obtain ⟨_, j, b, _⟩ := hK.at e; exact hc.rel j y k b
    · obtain ⟨a, _⟩ := hK.at e; rcases a with a | a <;> cases a
    · obtain ⟨a, _⟩ := hK.at e
      rcases a with rfl | rfl <;> (rcases hk with hk | hk <;> cases hk)
  have IC : Inv ⟨c.G, c.A, c.env, names', [c.env.locals], [c.env.locals], []⟩ (σ ++ [ca] ++ [c'] ++ [h'.objs.size]) ⟨vars', MH.alloc (MH.alloc (MH.alloc { st.m with tb := true } (.cell mv)) (.opq oc)) (.lam (fun b d => kla_obj "<lambda>" (c.env.qual ++ "<lambda>") args body scope [(x, b)] ((mg "__name__").getD .none) d ctv) st.m.n (st.m.n + 1))⟩ (h'.push (kla_obj "<lambda>" (c.env.qual ++ "<lambda>") args body scope [(x, ca)] ((mg "__name__").getD .none) c' ctv)) := by
    refine ⟨H4, ⟨hK.len, ⟨ml, Ns.keep1 hnl fun o e => Heap.get?_push_of_some _ (hx' _ o hLT e), fun j y w e f => ?_⟩, fun a ha => ?_, fun p hp hf => ?_, fun j y k w hk e f => ?_⟩, fun a ha z => ?_, fun q hq => (nomatch hq)⟩
    · obtain ⟨_, j', b, d⟩ := hK.at e
      obtain ⟨v', a1, a2⟩ := hrl j' y w b (d _ f)
      exact ⟨v', a1, a2.mono hsubT⟩
    · rw [List.mem_singleton.mp ha, Heap.size_push]; exact Nat.lt_succ_of_lt (Nat.lt_of_lt_of_le hLs hs)
    · exact absurd (List.mem_singleton.mp hf) (hc.Lcell p hp)
    · obtain ⟨a, _⟩ := hK.at e
      rcases a with rfl | rfl <;> (rcases hk with hk | hk <;> cases hk)
    · rw [List.mem_singleton.mp ha] at z
      rcases hnew _ z with w | w | w
      · exact I.apart _ hLfp w
      · exact hLca w
      · exact Nat.lt_irrefl _ (Nat.lt_of_lt_of_le hLs w)
  have hlast : (σ ++ [ca] ++ [c'] ++ [h'.objs.size])[st.m.n + 2]? = some h'.objs.size := H3.last _
  refine h _ oc ⟨_, ctv, rfl⟩ ⟨vs, tq, hdc, hq⟩ hok _ _ tk _ _ IC fun σ₂ h₂ t₂ ov z st₂ k₂ I₂ V₂ E₂ => ?_
  refine SetAttrT.at hok k₂ I₂ V₂ (b := .ref h'.objs.size) ⟨_, E₂.sub _ _ hlast, rfl⟩ fun σ₃ h₃ t₃ st₃ k₃ I₃ E₃ => ?_
  have hown : ∀ a ∈ [c.env.locals], a ∈ c.own := fun a ha => List.mem_singleton.mp ha ▸ hc.Lown
  exact k₃ σ₃ h₃ t₃ _ _ I₃ fun σ' h' t' v y m' hq H' V' E' => q σ' h' t' v y m' hq H' V' (E4.trans (((E₂.trans E₃).o.weaken hown).trans (E'.weaken hown)))
end
section
variable {c : Cx} {st : St}
theorem ev_freeH (hc : c.Ok) {x : Str} {p : Pos} {ci : Nat} {mv : MV} {Q : MV → St → Prop} (hf : (x, ci) ∈ c.frees) (hk : c.env.kindOf x = some .free) (hdb : (x == ("__debug__" : Str)) = false) (hcd : (x == ("__classdict__" : Str)) = false)
    (hm : st.m.H ci = some (.cell mv)) (hq : Q mv st) : EvalTo c (.Name x p) st Q := by
  intro σ h t Qs Es I q
  obtain ⟨a, hl, ha⟩ := I.lnk _ hf
  obtain ⟨v, o, V, ho, hd⟩ := I.hr.obj ci _ a hm ha
  exact wpAny_Name (wpAny_loadName_free hc.kind hk hl ⟨o, ho, hd⟩ (q σ h t v mv st hq I V .refl) hcd) hdb
end
section
variable {G : GC} {A : Around} {m : MH}
theorem call_lam {n : Nat} (hA : Good (n + 1) A) (hlim : ∀ σ m h, HRels G σ m h → h.NoLimit) {i ci ki : Nat} {F : Addr → Addr → Obj} {oc : Obj} {args : Arguments} {body : Expr} {p x qual : Str} {more : List (Str × Const)} {mv av : MV} {Q : MV → MH → Prop}
    (hi : m.H i = some (.lam F ci ki)) (hci : m.H ci = some (.cell mv)) (hki : m.H ki = some (.opq oc)) (hF : LamIs args body ⟨.function, [(p, .local), (x, .free)], false, false, more⟩ x qual F)
    (hoc : ∃ vs t, oc.data = .fields vs ∧ vs[1]? = some (.str qual t))
    (hbind : ∀ fd v, fd.params = args → fd.defaults = .none → fd.kwdefaults = .none → bindArgs fd ⟨[v], []⟩ = pure [(p, v)])
    (hne : (x == p) = false) (hp : (p == ("__debug__" : Str)) = false ∧ (p == ("__classdict__" : Str)) = false)
    (H : ∀ A' env L, Good n A' → Cx.Ok ⟨G, A', env, [(p, .local)], [L], [L], [(x, ci)]⟩ → env.kindOf x = some .free →
      EvalTo ⟨G, A', env, [(p, .local)], [L], [L], [(x, ci)]⟩ body ⟨[some av], m⟩ fun y st' => Q y st'.m) : CT G A (.ref i) [av] m Q := by
  intro σ h t fv vs R I Vf V q
  obtain ⟨fa, efa, rfl⟩ := Vf
  obtain ⟨a, rfl, Va⟩ := V.one
  obtain ⟨ca, cr, eca, ecr, ho⟩ := I.obj i _ fa hi efa
  obtain ⟨pm, ctv, rfl⟩ := hF
  obtain ⟨cv, co, Vc, hco, hcd⟩ := I.obj ci _ ca hci eca
  have hcr : h.get? cr = some oc := I.obj ki _ cr hki ecr
  obtain ⟨ovs, ot, hod, hoq⟩ := hoc
  refine kla_callFunE hA.room ho rfl rfl rfl rfl ⟨cr, oc, ovs, ot, rfl, hcr, hod, hoq⟩ ?_
  rw [hbind _ a rfl rfl rfl]
  refine wpAny_pure ?_
  refine wpAny_newFunctionEnv (fun y hy => ?_) (fun y hy => ?_) (fun h' hn hs => ?_) rfl
  · simp only [List.mem_cons, List.mem_nil_iff, or_false] at hy
    rcases hy with rfl | rfl <;> exact fun z => nomatch z
  · rw [List.mem_singleton.mp hy]; exact List.lookup_cons_self
  have hL : h.objs.size = h.objs.size := rfl
  have k : ∀ b o, h.get? b = some o → h'.get? b = some o := fun b o e => hs.extBut b o (Nat.ne_of_lt (Heap.lt_size e)) (Heap.get?_push_of_some _ e)
  have hsz : h'.objs.size = h.objs.size + 1 := by rw [hs.1, Heap.size_push]
  have hs' : h.objs.size ≤ h'.objs.size := by rw [hsz]; exact Nat.le_succ _
  have H' : HRels G σ m h' := I.same (fun b o _ e => k b o e) hs'
  refine ⟨hlim σ m h' H', kla_codeExpr ?_⟩
  have hpx : (x == p) = false := hne
  have hkx : (newEnv ⟨.function, [(p, .local), (x, .free)], false, false, more⟩ h.objs.size mainGlobals [(x, ca)] (qual ++ ".<locals>.") (some fa) (.ref cr) none builtinsNs).kindOf x = some .free := by
    show List.lookup x [(p, NameKind.local), (x, NameKind.free)] = some .free
    rw [List.lookup_cons, hpx, List.lookup_cons_self]
  have hcaN : G.N ≤ ca ∧ ca < h.objs.size := I.low _ (mem_of_get eca)
  have hok : Cx.Ok ⟨G, A.deeper (newEnv ⟨.function, [(p, .local), (x, .free)], false, false, more⟩ h.objs.size mainGlobals [(x, ca)] (qual ++ ".<locals>.") (some fa) (.ref cr) none builtinsNs), newEnv ⟨.function, [(p, .local), (x, .free)], false, false, more⟩ h.objs.size mainGlobals [(x, ca)] (qual ++ ".<locals>.") (some fa) (.ref cr) none builtinsNs, [(p, .local)], [h.objs.size], [h.objs.size], [(x, ci)]⟩ := by
    refine ⟨rfl, by simp, rfl, rfl, fun q hq => ?_, fun q hq => ?_, .head _, .head _, fun a ha => ha, List.pairwise_singleton _ _, fun q hq => ?_, fun a ha => ?_, I.tlt, hA.1, fun i y k' e => ?_, fun i y e => ?_, fun i y k' hk e => ?_⟩
    · rw [List.mem_singleton.mp hq]; exact hp.1
    · rw [List.mem_singleton.mp hq]; exact hp.2
    · rw [List.mem_singleton.mp hq]; exact Nat.ne_of_lt hcaN.2
    · rw [List.mem_singleton.mp ha]; exact I.size
    · cases i with
      | zero => cases e; exact .inl List.lookup_cons_self
      | succ i => simp at e
    · cases i with
      | zero => cases e
      | succ i => simp at e
    · cases i with
      | zero => cases e; rcases hk with hk | hk <;> cases hk
      | succ i => simp at e
  have IC : Inv ⟨G, A.deeper (newEnv ⟨.function, [(p, .local), (x, .free)], false, false, more⟩ h.objs.size mainGlobals [(x, ca)] (qual ++ ".<locals>.") (some fa) (.ref cr) none builtinsNs), newEnv ⟨.function, [(p, .local), (x, .free)], false, false, more⟩ h.objs.size mainGlobals [(x, ca)] (qual ++ ".<locals>.") (some fa) (.ref cr) none builtinsNs, [(p, .local)], [h.objs.size], [h.objs.size], [(x, ci)]⟩ σ ⟨[some av], m⟩ h' := by
    refine ⟨H', ⟨rfl, ⟨_, hn, fun i y w e f => ?_⟩, fun a ha => ?_, fun q hq hf => ?_, fun i y k' w hk e f => ?_⟩, fun a ha z => ?_, fun q hq => ?_⟩
    · cases i with
      | zero => cases e; cases f; exact ⟨a, by show List.lookup p [(p, a)] = some a; exact List.lookup_cons_self, Va⟩
      | succ i => simp at e
    · rw [List.mem_singleton.mp ha, hsz]; exact Nat.lt_succ_self _
    · rw [List.mem_singleton.mp hq] at hf
      exact absurd (List.mem_singleton.mp hf) (Nat.ne_of_lt hcaN.2)
    · cases i with
      | zero => cases e; rcases hk with hk | hk <;> cases hk
      | succ i => simp at e
    · rw [List.mem_singleton.mp ha] at z; exact Nat.lt_irrefl _ (I.low _ z).2
    · rw [List.mem_singleton.mp hq]; exact ⟨ca, List.lookup_cons_self, eca⟩
  refine H _ _ h.objs.size (hA.deeper _) hok hkx σ h' (t + 1) _ _ IC fun σ' h'' t' v y st' hq I' V' E' => ?_
  exact q σ' h'' t' v y st'.m hq I'.hr V' ⟨E'.sub, fun a ha => (E'.new a ha).imp id fun z => Nat.le_trans hs' z, Nat.le_trans hs' E'.size, fun b o h1 _ h3 e => E'.keep b o h1 (fun z => Nat.lt_irrefl _ (by have := Heap.lt_size e; rwa [List.mem_singleton.mp z] at this)) h3 (k b o e)⟩
end
open PySem PySem.Calls PyProof.Rows PySem.W Builtin Builtin.ObjectAttr
section
variable {prog : Program} {w : World} {A : Around} {E : Value → Shared → Prop} {h : Heap} {g : Array GenState} {d : Drawn} {t : Tok} {os : OsState} {x : Str} {u : Tok}
theorem ga_type : typeOf (.builtin "str.__getitem__") = pure (.type "wrapper_descriptor") := by show builtinType _ = _; rw [builtinType_eq_fast]; kernel_rfl
theorem wd_get : typeLookup (.type "wrapper_descriptor") "__get__" = pure (some (.builtin "wrapper_descriptor.__get__")) := by rw [typeLookup_type, builtinLookup_eq_fast]; kernel_rfl
theorem wd_set : typeLookup (.type "wrapper_descriptor") "__set__" = pure none := by rw [typeLookup_type, builtinLookup_eq_fast]; kernel_rfl
theorem wd_del : typeLookup (.type "wrapper_descriptor") "__delete__" = pure none := by rw [typeLookup_type, builtinLookup_eq_fast]; kernel_rfl
theorem ha_kind : builtinKind "hasattr" = none := by decide +kernel
theorem ha_plain : plainId "hasattr" = true := by decide +kernel
theorem ha_entry : entryFor table "hasattr" = some Builtin.«hasattr» := entryFor_of_tree (by kernel_rfl)
theorem ha_args (a b : Value) : argsOk "hasattr" ⟨[a, b], []⟩ := by unfold argsOk; kernel_rfl
theorem wd_slot : PySem.Slot "wrapper_descriptor" "__get__" "wrapper_descriptor.__get__" :=
  .of (owner := "wrapper_descriptor") (n := "__get__") (by rw [typeLookup_type, builtinLookup_eq_fast]; kernel_rfl) (by decide +kernel) (by decide +kernel) (by decide +kernel)
    (by first | exact .inl (by decide +kernel) | exact .inr (by decide +kernel)) (by rw [isSubtype_type]; kernel_rfl)
theorem wd_entry : entryFor table "wrapper_descriptor.__get__" = some Builtin.«wrapper_descriptor.__get__» := entryFor_of_tree (by kernel_rfl)
theorem wd_args (a b c : Value) : argsOk "wrapper_descriptor.__get__" ⟨[a, b, c], []⟩ := by unfold argsOk; kernel_rfl
set_option maxHeartbeats 2000000 in
theorem gi_by {tk : Tok} {Q : Value → Shared → Prop} (hq : Q (.ref h.objs.size) ⟨h.push { cls := .type "method-wrapper", data := .fields #[.builtin "str.__getitem__", .str x u] }, g, d, t, os⟩) : wpAny (model prog w) A (getAttrBy (.str x u) (.str "__getitem__" tk) false) Q E ⟨h, g, d, t, os⟩ := by
  have hT : (⟨h, g, d, t, os⟩ : Shared).TypeIs (.str x u) "str" := rfl
  have f2 := F.slot_str_getattribute.lookup
  have f3 := F.slot_str_getattribute.bind (.str x u)
  repeat (any_goals (first | assumption | with_reducible (first | refine wpAny_pure ?_ | refine wpAny_bind ?_ | refine wpAny_holding ?_ | refine wpAny_rule ?_ | refine wpAny_alloc' ?_ | refine wpAny_attempt ?_ | refine wpAny_of_eq (by assumption) ?_ | refine wpAny_typeOf (by assumption) ?_ | refine wpAny_specialOf_val (by assumption) (by assumption) ?_ | refine wpAny_call ?_) | ((with_reducible refine wpAny_ite_false ?hc ?_); case hc => rfl) | ((with_reducible refine wpAny_ite_true ?hc ?_); case hc => rfl) | ((with_reducible refine wpAny_ite_false ?hc ?_); case hc => (simp [*]; done)) | ((with_reducible refine wpAny_ite_true ?hc ?_); case hc => (simp [*]; done)) | wp_delta))
  refine codeAny_call_builtin F.slot_str_getattribute.plain F.entry_object_getattribute (F.slot_str_getattribute.check _ _ _ _ _ _ _ _ (show (⟨h, g, d, t, os⟩ : Shared).TypeIs (.str x u) "str" from rfl) (F.args_object_getattribute_2 _ _) ?_)
  have f4 := F.slot_str_getitem.lookup
  have f5 := ga_type
  have f6 := wd_get
  have f7 := wd_set
  have f8 := wd_del
  repeat (any_goals (first | assumption | with_reducible (first | refine wpAny_pure ?_ | refine wpAny_bind ?_ | refine wpAny_holding ?_ | refine wpAny_rule ?_ | refine wpAny_alloc' ?_ | refine wpAny_attempt ?_ | refine wpAny_of_eq (by assumption) ?_ | refine wpAny_typeOf (by assumption) ?_ | refine wpAny_specialOf_val (by assumption) (by assumption) ?_ | refine wpAny_call ?_) | ((with_reducible refine wpAny_ite_false ?hc ?_); case hc => rfl) | ((with_reducible refine wpAny_ite_true ?hc ?_); case hc => rfl) | ((with_reducible refine wpAny_ite_false ?hc ?_); case hc => (simp [*]; done)) | ((with_reducible refine wpAny_ite_true ?hc ?_); case hc => (simp [*]; done)) | wp_delta))
  have hT6 : (⟨h, g, d, t, os⟩ : Shared).TypeIs (.builtin "str.__getitem__") "wrapper_descriptor" := ga_type
  refine codeAny_call_builtin wd_slot.plain wd_entry (wd_slot.check _ _ _ _ _ _ _ _ hT6 (wd_args _ _ _) ?_)
  repeat (any_goals (first | assumption | with_reducible (first | refine wpAny_pure ?_ | refine wpAny_bind ?_ | refine wpAny_holding ?_ | refine wpAny_rule ?_ | refine wpAny_alloc' ?_ | refine wpAny_attempt ?_ | refine wpAny_of_eq (by assumption) ?_ | refine wpAny_typeOf (by assumption) ?_ | refine wpAny_specialOf_val (by assumption) (by assumption) ?_ | refine wpAny_call ?_) | ((with_reducible refine wpAny_ite_false ?hc ?_); case hc => rfl) | ((with_reducible refine wpAny_ite_true ?hc ?_); case hc => rfl) | ((with_reducible refine wpAny_ite_false ?hc ?_); case hc => (simp [*]; done)) | ((with_reducible refine wpAny_ite_true ?hc ?_); case hc => (simp [*]; done)) | wp_delta))
  have e1 : ".".intercalate ("str.__getitem__".cutAt '.').dropLast = "str" := by decide +kernel
  have e2 : isSubtype (.type "str") (.type "str") = pure true := by rw [isSubtype_type]; kernel_rfl
  rw [e1]
  repeat (any_goals (first | assumption | with_reducible (first | refine wpAny_pure ?_ | refine wpAny_bind ?_ | refine wpAny_holding ?_ | refine wpAny_rule ?_ | refine wpAny_alloc' ?_ | refine wpAny_attempt ?_ | refine wpAny_of_eq (by assumption) ?_ | refine wpAny_typeOf (by assumption) ?_ | refine wpAny_specialOf_val (by assumption) (by assumption) ?_ | refine wpAny_call ?_) | ((with_reducible refine wpAny_ite_false ?hc ?_); case hc => rfl) | ((with_reducible refine wpAny_ite_true ?hc ?_); case hc => rfl) | ((with_reducible refine wpAny_ite_false ?hc ?_); case hc => (simp [*]; done)) | ((with_reducible refine wpAny_ite_true ?hc ?_); case hc => (simp [*]; done)) | wp_delta))
set_option maxHeartbeats 2000000 in
theorem hasattr_str {tk : Tok} {Q : Value → Shared → Prop} (hq : Q (.bool true) ⟨h.push { cls := .type "method-wrapper", data := .fields #[.builtin "str.__getitem__", .str x u] }, g, d, t, os⟩) :
    wpAny (model prog w) A (call (.builtin "hasattr") [.str x u, .str "__getitem__" tk]) Q E ⟨h, g, d, t, os⟩ := by
  refine call_function_entry ha_kind ha_plain ha_entry (ha_args _ _) ?_
  unfold Builtin.«hasattr»
  have hT : (⟨h, g, d, t, os⟩ : Shared).TypeIs (.str x u) "str" := rfl
  have f2 := F.slot_str_getattribute.lookup
  have f4 := F.slot_str_getitem.lookup
  unfold getAttrBy?
  repeat (any_goals (first | assumption | with_reducible refine gi_by ?_ | with_reducible (first | refine wpAny_pure ?_ | refine wpAny_bind ?_ | refine wpAny_holding ?_ | refine wpAny_rule ?_ | refine wpAny_alloc' ?_ | refine wpAny_attempt ?_ | refine wpAny_of_eq (by assumption) ?_ | refine wpAny_typeOf (by assumption) ?_ | refine wpAny_specialOf_val (by assumption) (by assumption) ?_ | refine wpAny_call ?_) | ((with_reducible refine wpAny_ite_false ?hc ?_); case hc => rfl) | ((with_reducible refine wpAny_ite_true ?hc ?_); case hc => rfl) | ((with_reducible refine wpAny_ite_false ?hc ?_); case hc => (simp [*]; done)) | ((with_reducible refine wpAny_ite_true ?hc ?_); case hc => (simp [*]; done)) | wp_delta))
  exact ⟨_, rfl, hq⟩
end
section
variable {G : GC} {A : Around} {m : MH}
theorem call_hasattr {x : Str} {Q : MV → MH → Prop} (hq : Q (.bool true) m) : HT G A (RV G) callV [.st (.builtin "hasattr"), .str x, .str "__getitem__"] m Q := by
  intro σ h t vs Qs Es I V q
  obtain ⟨f, a, b, rfl, ⟨rfl, _⟩, ⟨t1, rfl⟩, t2, rfl⟩ := V.three
  exact hasattr_str (q σ _ t _ _ m hq (I.push _) rfl (Ext.push _))
end
structure Ev (c : Cx) (e : Expr) (st : St) (v : MV) (m : MH) : Prop where
  i : EvalTo c e st fun y st' => y = v ∧ st' = ⟨st.vars, m⟩
structure Te (c : Cx) (e : Expr) (st : St) (b : Bool) (m : MH) : Prop where
  i : TestTo c e st fun y st' => y = b ∧ st' = ⟨st.vars, m⟩
structure Evs (c : Cx) (es : List Expr) (st : St) (vs : List MV) (m : MH) : Prop where
  i : ArgsTo c es st fun ys st' => ys = vs ∧ st' = ⟨st.vars, m⟩
noncomputable abbrev Op (c : Cx) {α β : Type} (R : List Addr → β → α → Prop) (f : List Value → Sem α) (xs : List MV) (m : MH) (v : β) (m' : MH) : Prop := HT c.G c.A R f xs m fun y m'' => y = v ∧ m'' = m'
structure Ex (c : Cx) (s : Stmt) (st : St) (f : MF) (st' : St) : Prop where
  i : ExecTo c s st fun g s' => g = f ∧ s' = st'
structure Exs (c : Cx) (ss : List Stmt) (st : St) (f : MF) (st' : St) : Prop where
  i : ExecsTo c ss st fun g s' => g = f ∧ s' = st'
noncomputable def rdk : NameKind → Bool
  | .local | .cell | .free => true
  | _ => false
section
variable {c : Cx} {st : St} {m m₁ m₂ m₃ m₄ : MH} {p : Pos}
theorem Ev.to {e : Expr} {v : MV} {Q : MV → St → Prop} (h : Ev c e st v m) (hq : Q v ⟨st.vars, m⟩) : EvalTo c e st Q := FT.mono h.i fun _ _ z => by rw [z.1, z.2]; exact hq
theorem Te.to {e : Expr} {b : Bool} {Q : Bool → St → Prop} (h : Te c e st b m) (hq : Q b ⟨st.vars, m⟩) : TestTo c e st Q := FT.mono h.i fun _ _ z => by rw [z.1, z.2]; exact hq
theorem Evs.to {es : List Expr} {vs : List MV} {Q : List MV → St → Prop} (h : Evs c es st vs m) (hq : Q vs ⟨st.vars, m⟩) : ArgsTo c es st Q := fun pos => FT.mono (h.i pos) fun _ _ z => by rw [z.1, z.2]; exact hq
theorem Op.to {α β : Type} {R : List Addr → β → α → Prop} {f : List Value → Sem α} {xs : List MV} {v : β} {Q : β → MH → Prop} (h : Op c R f xs m v m₁) (hq : Q v m₁) : HT c.G c.A R f xs m Q := HT.mono h fun _ _ z => by rw [z.1, z.2]; exact hq
theorem Ex.to {s : Stmt} {f : MF} {st' : St} {Q : MF → St → Prop} (h : Ex c s st f st') (hq : Q f st') : ExecTo c s st Q := FT.mono h.i fun _ _ z => by rw [z.1, z.2]; exact hq
theorem Exs.to {ss : List Stmt} {f : MF} {st' : St} {Q : MF → St → Prop} (h : Exs c ss st f st') (hq : Q f st') : ExecsTo c ss st Q := FT.mono h.i fun _ _ z => by rw [z.1, z.2]; exact hq
theorem Ev.int {i : Int} {k : Nat} : Ev c (.Constant (.int i) k p) st (.int i) st.m := ⟨ev_int ⟨rfl, rfl⟩⟩
theorem Ev.str {x : Str} {k : Nat} : Ev c (.Constant (.str x) k p) st (.str x) st.m := ⟨ev_str ⟨rfl, rfl⟩⟩
theorem Ev.none {k : Nat} : Ev c (.Constant .none k p) st .none st.m := ⟨ev_none ⟨rfl, rfl⟩⟩
theorem Ev.bool {b : Bool} {k : Nat} : Ev c (.Constant (.bool b) k p) st (.bool b) st.m := ⟨ev_bool ⟨rfl, rfl⟩⟩
theorem Ev.name {x : Str} {k : NameKind} {v : MV} (hc : c.Ok) (hs : Slot c.names st.vars x k v) (hk : k = .local ∨ k = .cell ∨ k = .free) : Ev c (.Name x p) st v st.m := ⟨ev_name hc hs hk ⟨rfl, rfl⟩⟩
theorem Ev.nm {x : Str} {k : NameKind} {v : MV} (hc : c.Ok) (hs : Slot c.names st.vars x k v) (hk : rdk k = true) : Ev c (.Name x p) st v st.m := .name hc hs (by cases k <;> first | exact .inl rfl | exact .inr (.inl rfl) | exact .inr (.inr rfl) | cases hk)
theorem Ev.glob {x : Str} {v : Value} (hc : c.Ok) (hs : Glob c.names x) (hg : GlobIs c.G x v) : Ev c (.Name x p) st (.st v) st.m := ⟨ev_glob hc hs hg ⟨rfl, rfl⟩⟩
theorem Ev.bin {l r : Expr} {op : Operator} {a b v : MV} (hc : c.Ok) (h1 : Ev c l st a m₁) (h2 : Ev c r ⟨st.vars, m₁⟩ b m₂) (h3 : Op c (RV c.G) (ap2 (binaryOp op)) [a, b] m₂ v m) : Ev c (.BinOp l op r p) st v m :=
  ⟨ev_bin hc (h1.to (h2.to (h3.to ⟨rfl, rfl⟩)))⟩
theorem Ev.cmp {l r : Expr} {op : CmpOp} {a b v : MV} (hc : c.Ok) (h1 : Ev c l st a m₁) (h2 : Ev c r ⟨st.vars, m₁⟩ b m₂) (h3 : Op c (RV c.G) (ap2 (compareOp op)) [a, b] m₂ v m) (hm : behindInMarks op r = false := by with_unfolding_all rfl) : Ev c (.Compare l [op] [r] p) st v m :=
  ⟨ev_cmp hc (h1.to (h2.to (h3.to ⟨rfl, rfl⟩))) hm⟩
theorem Ev.un {x : Expr} {op : UnaryOp} {a v : MV} (hc : c.Ok) (h1 : Ev c x st a m₁) (h3 : Op c (RV c.G) (ap1 (unaryOp op)) [a] m₁ v m) : Ev c (.UnaryOp op x p) st v m := ⟨ev_un hc (h1.to (h3.to ⟨rfl, rfl⟩))⟩
theorem Ev.sub {o i : Expr} {a b v : MV} (hc : c.Ok) (h1 : Ev c o st a m₁) (h2 : Ev c i ⟨st.vars, m₁⟩ b m₂) (h3 : ∀ value slice, notSlice slice = true → Op c (RV c.G) (ap2 (subscriptTail value slice)) [a, b] m₂ v m) (hs : notSlice i = true := by rfl) : Ev c (.Subscript o i p) st v m :=
  ⟨ev_sub hc (h1.to (h2.to fun value slice hsl => (h3 value slice hsl).to ⟨rfl, rfl⟩)) hs⟩
theorem Ev.attr {o : Expr} {name : Str} {a v : MV} (hc : c.Ok) (h1 : Ev c o st a m₁) (h3 : Op c (RV c.G) (ap1 fun v => getAttr v name true) [a] m₁ v m) (hb : plainBase o = true := by rfl) : Ev c (.Attribute o name p) st v m := ⟨ev_attr hc (h1.to (h3.to ⟨rfl, rfl⟩)) hb⟩
theorem Evs.nil : Evs c [] st [] st.m := ⟨args_nil ⟨rfl, rfl⟩⟩
theorem Evs.cons {e : Expr} {es : List Expr} {a : MV} {as : List MV} (h1 : Ev c e st a m₁) (h2 : Evs c es ⟨st.vars, m₁⟩ as m) (he : notStar e = true := by rfl) : Evs c (e :: es) st (a :: as) m := ⟨args_cons (h1.to (h2.to ⟨rfl, rfl⟩)) he⟩
theorem Ev.call {f e : Expr} {es : List Expr} {fv v : MV} {as : List MV} (hc : c.Ok) (h1 : Ev c f st fv m₁) (h2 : Evs c (e :: es) ⟨st.vars, m₁⟩ as m₂) (hk : Keeps c.G fv m₂) (h3 : Op c (RV c.G) callV (fv :: as) m₂ v m)
    (hf : notAttr f = true := by rfl) (ha : (e :: es).all notStar = true := by rfl) : Ev c (.Call f (e :: es) [] p) st v m := ⟨ev_call hc (h1.to (h2.to ⟨hk, h3.to ⟨rfl, rfl⟩⟩)) hf ha⟩
theorem Ev.meth {o e : Expr} {name : Str} {ap : Pos} {es : List Expr} {ov fv v : MV} {bs as : List MV} (hc : c.Ok) (h1 : Ev c o st ov m₁) (h2 : ∀ pl, Op c (RM c.G) (ap1 fun v => getMethod v name pl) [ov] m₁ (fv, bs) m₂)
    (h3 : Evs c (e :: es) ⟨st.vars, m₂⟩ as m₃) (hk : Keeps c.G fv m₃) (h4 : Op c (RV c.G) callV (fv :: (bs ++ as)) m₃ v m)
    (hb : plainBase o = true := by rfl) (ha : (e :: es).all notStar = true := by rfl) (hl : (e :: es).length < 30 := by decide) (hline : (ap.endLine == p.line) = true := by rfl) : Ev c (.Call (.Attribute o name ap) (e :: es) [] p) st v m :=
  ⟨ev_meth hc (h1.to fun pl => (h2 pl).to (h3.to ⟨hk, h4.to ⟨rfl, rfl⟩⟩)) hb ha hl hline⟩
theorem Ev.meth0 {o : Expr} {name : Str} {ap : Pos} {ov fv v : MV} {bs : List MV} (hc : c.Ok) (h1 : Ev c o st ov m₁) (h2 : ∀ pl, Op c (RM c.G) (ap1 fun v => getMethod v name pl) [ov] m₁ (fv, bs) m₂) (hk : Keeps c.G fv m₂) (h4 : Op c (RV c.G) callV (fv :: bs) m₂ v m)
    (hb : plainBase o = true := by rfl) (hline : (ap.endLine == p.line) = true := by rfl) : Ev c (.Call (.Attribute o name ap) [] [] p) st v m :=
  ⟨ev_meth0 hc (h1.to fun pl => (h2 pl).to ⟨hk, h4.to ⟨rfl, rfl⟩⟩) hb hline⟩
theorem Ev.list {es : List Expr} {as : List MV} (hc : c.Ok) (h : Evs c es st as m₁) (hl : as.length ≤ 1000) : Ev c (.List es p) st (.ref m₁.n) (m₁.alloc (.list as)) := ⟨ev_list hc (h.to ⟨Nat.le_trans hl (by rw [sizeLine_eq]; omega), rfl, rfl⟩)⟩
theorem Ev.tuple {es : List Expr} {k : Nat} {as : List MV} (hc : c.Ok) (h : Evs c es st as m₁) (hl : as.length ≤ 1000) : Ev c (.Tuple es k p) st (.ref m₁.n) (m₁.alloc (.tup as)) := ⟨ev_tuple hc (h.to ⟨Nat.le_trans hl (by rw [sizeLine_eq]; omega), rfl, rfl⟩)⟩
theorem Ev.ife {x a b : Expr} {z : Bool} {v : MV} (h1 : Te c x st z m₁) (h2 : if z then Ev c a ⟨st.vars, m₁⟩ v m else Ev c b ⟨st.vars, m₁⟩ v m) : Ev c (.IfExp x a b p) st v m := ⟨ev_ife (h1.to (by cases z <;> exact Ev.i h2))⟩
theorem Te.cmp {l r : Expr} {op : CmpOp} {a b : MV} {z : Bool} (hc : c.Ok) (h1 : Ev c l st a m₁) (h2 : Ev c r ⟨st.vars, m₁⟩ b m₂) (h3 : Op c (RV c.G) (ap2 (compareOp op)) [a, b] m₂ (.bool z) m) (hm : behindInMarks op r = false := by with_unfolding_all rfl) : Te c (.Compare l [op] [r] p) st z m :=
  ⟨te_cmp hc (h1.to (h2.to (h3.to (tru_bool ⟨rfl, rfl⟩)))) hm⟩
theorem Te.not {x : Expr} {z : Bool} (h : Te c x st z m) : Te c (.UnaryOp .Not x p) st (!z) m := ⟨te_not (h.to ⟨rfl, rfl⟩)⟩
theorem Te.val {x : Expr} {a : MV} {z : Bool} (hc : c.Ok) (h : Ev c x st a m₁) (h3 : Op c RB (ap1 truthy) [a] m₁ z m) (he : plainTest x = true := by rfl) : Te c x st z m := ⟨te_val hc (h.to (h3.to ⟨rfl, rfl⟩)) he⟩
theorem Te.and_no {x y : Expr} (h : Te c x st false m) : Te c (.BoolOp .And [x, y] p) st false m := ⟨te_bool (all_and (h.to ⟨rfl, rfl⟩))⟩
theorem Te.and_yes {x y : Expr} {z : Bool} (h : Te c x st true m₁) (h2 : Te c y ⟨st.vars, m₁⟩ z m) : Te c (.BoolOp .And [x, y] p) st z m := ⟨te_bool (all_and (h.to (all_and (h2.to (by cases z; exact ⟨rfl, rfl⟩; exact all_and_nil ⟨rfl, rfl⟩)))))⟩
theorem Exs.nil : Exs c [] st .next st := ⟨xs_nil ⟨rfl, rfl⟩⟩
theorem Exs.cons {s : Stmt} {ss : List Stmt} {f : MF} {st₁ st' : St} (h1 : Ex c s st .next st₁) (h2 : Exs c ss st₁ f st') : Exs c (s :: ss) st f st' := ⟨xs_cons (h1.to h2.i)⟩
theorem Exs.stop {s : Stmt} {ss : List Stmt} {f : MF} {st' : St} (h1 : Ex c s st f st') (hf : f ≠ .next) : Exs c (s :: ss) st f st' := ⟨xs_cons (h1.to (by cases f <;> first | exact absurd rfl hf | exact ⟨rfl, rfl⟩))⟩
theorem Ex.ret {e : Expr} {v : MV} (h : Ev c e st v m) : Ex c (.Return (some e) p) st (.ret v) ⟨st.vars, m⟩ := ⟨x_ret (h.to ⟨rfl, rfl⟩)⟩
theorem Ex.expr {e : Expr} {v : MV} (hc : c.Ok) (h : Ev c e st v m) (hn : notComp e = true := by rfl) : Ex c (.Expr e p) st .next ⟨st.vars, m⟩ := ⟨x_expr hc (h.to ⟨rfl, rfl⟩) hn⟩
theorem Ex.set {x : Str} {e : Expr} {q : Pos} {v : MV} {vars' : List (Option MV)} (hc : c.Ok) (h : Ev c e st v m) (hp : Put c.names st.vars x v vars') (hn : notComp e = true := by rfl) : Ex c (.Assign [.Name x q] e p) st .next ⟨vars', m⟩ := ⟨x_assign hc (h.to ⟨vars', hp, rfl, rfl⟩) hn⟩
theorem Ex.aug {x : Str} {op : Operator} {e : Expr} {q : Pos} {k : NameKind} {o v w : MV} {vars' : List (Option MV)} (hc : c.Ok) (hs : Slot c.names st.vars x k o) (hk : k = .local ∨ k = .cell ∨ k = .free) (h : Ev c e st v m₁) (h3 : Op c (RV c.G) (ap2 (inplaceOp op)) [o, v] m₁ w m)
    (hp : Put c.names st.vars x w vars') : Ex c (.AugAssign (.Name x q) op e p) st .next ⟨vars', m⟩ := ⟨x_aug hc (ld_name hc hs hk (h.to (h3.to ⟨vars', hp, rfl, rfl⟩)))⟩
theorem Ex.setattr {o e : Expr} {name : Str} {q : Pos} {v ov : MV} (hc : c.Ok) (h1 : Ev c e st v m₁) (h2 : Ev c o ⟨st.vars, m₁⟩ ov m₂) (h3 : Op c RU (ap2 fun a b => setAttr a name b) [ov, v] m₂ () m) (hn : notComp e = true := by rfl) : Ex c (.Assign [.Attribute o name q] e p) st .next ⟨st.vars, m⟩ :=
  ⟨x_setattr hc (h1.to (h2.to (h3.to ⟨rfl, rfl⟩))) hn⟩
theorem Ex.setitem {o i e : Expr} {q : Pos} {v ov iv : MV} (hc : c.Ok) (h1 : Ev c e st v m₁) (h2 : Ev c o ⟨st.vars, m₁⟩ ov m₂) (h3 : Ev c i ⟨st.vars, m₂⟩ iv m₃) (h4 : Op c RU (ap3 setItem) [ov, iv, v] m₃ () m) (hn : notComp e = true := by rfl) : Ex c (.Assign [.Subscript o i q] e p) st .next ⟨st.vars, m⟩ :=
  ⟨x_setitem hc (h1.to (h2.to (h3.to (h4.to ⟨rfl, rfl⟩)))) hn⟩
end
noncomputable def stmtAt (k : Nat) : Stmt := PySem.Challenge.pw_sw0051_01.main.body.getD k (.Pass default)
noncomputable def bodyOf : Stmt → List Stmt
  | .FunctionDef (body := b) .. => b
  | .ClassDef (body := b) .. => b
  | _ => []
noncomputable def scopeOf : Stmt → Scope
  | .FunctionDef (scope := s) .. => s
  | _ => default
noncomputable def argsOf : Stmt → Arguments
  | .FunctionDef (args := a) .. => a
  | _ => default
theorem sizeLine_big : 1000 ≤ sizeLine := by rw [sizeLine_eq]; omega
noncomputable def WF (m : MH) : Prop := ∀ i o, m.H i = some o → i < m.n
structure Grow (m m' : MH) : Prop where
  wf : WF m'
  keep : ∀ i o, m.H i = some o → m'.H i = some o
  tb : m'.tb = m.tb
theorem Grow.refl {m : MH} (h : WF m) : Grow m m := ⟨h, fun _ _ e => e, rfl⟩
theorem Grow.trans {m m' m'' : MH} (x : Grow m m') (y : Grow m' m'') : Grow m m'' := ⟨y.wf, fun i o e => y.keep i o (x.keep i o e), y.tb.trans x.tb⟩
theorem alloc_old {m : MH} (h : WF m) {i : Nat} {o o' : MO} (e : m.H i = some o) : (m.alloc o').H i = some o := by
  show (if i = m.n then some o' else m.H i) = some o
  rw [if_neg (Nat.ne_of_lt (h i o e))]; exact e
theorem alloc_new (m : MH) (o : MO) : (m.alloc o).H m.n = some o := by
  show (if m.n = m.n then some o else m.H m.n) = some o
  rw [if_pos rfl]
theorem alloc_wf {m : MH} (h : WF m) (o : MO) : WF (m.alloc o) := fun i o' e => by
  by_cases hi : i = m.n
  · subst hi; exact Nat.lt_succ_self _
  · have : (if i = m.n then some o else m.H i) = some o' := e
    rw [if_neg hi] at this; exact Nat.lt_succ_of_lt (h i o' this)
theorem Grow.alloc {m : MH} (h : WF m) (o : MO) : Grow m (m.alloc o) := ⟨alloc_wf h o, fun _ _ e => alloc_old h e, rfl⟩
theorem Grow.snoc {m m' : MH} (x : Grow m m') (o : MO) : Grow m (m'.alloc o) := x.trans (.alloc x.wf o)
section
variable {c : Cx} {st : St}
theorem comp_range {target elt : Expr} {a : Int} {n : Nat} (P : Nat → List MV → St → Prop) {Q : List MV → MH → Prop} (k : Nat) (ys : List MV) (st : St) (hP : P k ys st) (hk : k ≤ n)
    (step : ∀ k ys st, k < n → P k ys st → AsgTo c target (.int (a + k)) st fun st₁ => EvalTo c elt st₁ fun y st₂ => ys.length ≤ sizeLine ∧ P (k + 1) (ys ++ [y]) st₂)
    (fin : ∀ ys st, P n ys st → Q ys st.m) : CompN c target elt (rangeSrc a n) (n - k + 1) k ys st Q := by
  generalize hj : n - k = j
  induction j generalizing k ys st with
  | zero =>
    have : k = n := by omega
    subst this
    exact .inr ⟨st.m, ⟨Nat.le_refl _, rfl⟩, fin ys st hP⟩
  | succ j ih =>
    refine .inl ⟨show k < n by omega, ?_⟩
    rintro v m' k' ⟨h1, rfl, rfl, rfl⟩
    refine fun σ h t u Qs Es I V q => step k ys st (by omega) hP σ h t u Qs Es I V fun σ' h' t' st' hq I' E' => q σ' h' t' st' ?_ I' E'
    exact FT.mono hq fun y st₂ hy => ⟨hy.1, ih (k + 1) (ys ++ [y]) st₂ hy.2 (by omega) (by omega)⟩
end
theorem comp_range0 {c : Cx} {target elt : Expr} {n : Nat} {st : St} (P : Nat → List MV → St → Prop) {Q : List MV → MH → Prop} (hP : P 0 [] st)
    (step : ∀ k ys st, k < n → P k ys st → AsgTo c target (.int k) st fun st₁ => EvalTo c elt st₁ fun y st₂ => ys.length ≤ sizeLine ∧ P (k + 1) (ys ++ [y]) st₂)
    (fin : ∀ ys st, P n ys st → Q ys st.m) : CompN c target elt (rangeSrc 0 n) (n + 1) (rangeSrc 0 n).k0 [] st Q :=
  comp_range P 0 [] st hP (Nat.zero_le _) (fun k ys st hk hp => by rw [Int.zero_add]; exact step k ys st hk hp) fin
inductive All2 {α β : Type} (R : α → β → Prop) : List α → List β → Prop
  | nil : All2 R [] []
  | cons {a b as bs} : R a b → All2 R as bs → All2 R (a :: as) (b :: bs)
noncomputable abbrev Tab := List (List Int)
noncomputable def IsInts (m : MH) (v : MV) (l : List Int) : Prop := ∃ i, v = .ref i ∧ m.H i = some (.list (l.map .int))
noncomputable def IsTab (m : MH) (v : MV) (t : Tab) : Prop := ∃ i vs, v = .ref i ∧ m.H i = some (.list vs) ∧ All2 (IsInts m) vs t
theorem All2.get {α β : Type} {R : α → β → Prop} : ∀ {as : List α} {bs : List β}, All2 R as bs → ∀ {i : Nat} {b : β}, bs[i]? = some b → ∃ a, as[i]? = some a ∧ R a b
  | _, _, .nil, i, b, e => by simp at e
  | _, _, .cons h r, 0, b, e => by cases e; exact ⟨_, rfl, h⟩
  | _, _, .cons h r, i + 1, b, e => by simpa using r.get (i := i) (by simpa using e)
theorem All2.len {α β : Type} {R : α → β → Prop} {as : List α} {bs : List β} (h : All2 R as bs) : as.length = bs.length := by induction h <;> simp_all
theorem All2.snoc {α β : Type} {R : α → β → Prop} {a : α} {b : β} : ∀ {as : List α} {bs : List β}, All2 R as bs → R a b → All2 R (as ++ [a]) (bs ++ [b])
  | _, _, .nil, k => .cons k .nil
  | _, _, .cons h r, k => .cons h (r.snoc k)
theorem All2.mono {α β : Type} {R R' : α → β → Prop} (f : ∀ a b, R a b → R' a b) : ∀ {as : List α} {bs : List β}, All2 R as bs → All2 R' as bs
  | _, _, .nil => .nil
  | _, _, .cons h r => .cons (f _ _ h) (r.mono f)
theorem IsInts.grow {m m' : MH} (g : Grow m m') {v : MV} {l : List Int} (h : IsInts m v l) : IsInts m' v l := let ⟨i, a, b⟩ := h; ⟨i, a, g.keep _ _ b⟩
theorem IsTab.grow {m m' : MH} (g : Grow m m') {v : MV} {t : Tab} (h : IsTab m v t) : IsTab m' v t := let ⟨i, vs, a, b, c⟩ := h; ⟨i, vs, a, g.keep _ _ b, c.mono fun _ _ z => z.grow g⟩
noncomputable def Fresh (m : MH) (v : MV) : Prop := ∃ i, v = .ref i ∧ ∀ o, m.H i ≠ some o
noncomputable def FTab (m₀ m : MH) (v : MV) (t : Tab) : Prop := ∃ i vs, v = .ref i ∧ m.H i = some (.list vs) ∧ All2 (IsInts m) vs t ∧ (∀ y ∈ vs, Fresh m₀ y) ∧ vs.Pairwise (· ≠ ·)
theorem All2.mem {α β : Type} {R : α → β → Prop} {a : α} : ∀ {as : List α} {bs : List β}, All2 R as bs → a ∈ as → ∃ b, R a b
  | _, _, .nil, h => nomatch h
  | _, _, .cons h r, z => by
    rcases List.mem_cons.mp z with rfl | z
    · exact ⟨_, h⟩
    · exact r.mem z
theorem Grow.fresh {m m' : MH} (g : Grow m m') : Fresh m (.ref m'.n) := ⟨_, rfl, fun o e => Nat.lt_irrefl _ (g.wf _ _ (g.keep _ _ e))⟩
theorem apart_snoc {m m' : MH} {ys : List MV} {t : Tab} (g : Grow m m') (h : All2 (IsInts m) ys t) (hp : ys.Pairwise (· ≠ ·)) : (ys ++ [MV.ref m'.n]).Pairwise (· ≠ ·) := by
  refine List.pairwise_append.mpr ⟨hp, List.pairwise_singleton _ _, fun a ha b hb e => ?_⟩
  rw [List.mem_singleton.mp hb] at e
  obtain ⟨l, i, rfl, hi⟩ := h.mem ha
  cases e
  exact Nat.lt_irrefl _ (g.wf _ _ (g.keep _ _ hi))
theorem FTab.tab {m₀ m : MH} {v : MV} {t : Tab} (h : FTab m₀ m v t) : IsTab m v t := let ⟨i, vs, a, b, c, _⟩ := h; ⟨i, vs, a, b, c⟩
noncomputable def at3 (t : Tab) (i k : Nat) : Int := (t.getD i []).getD k 0
noncomputable def T3 (t : Tab) : Prop := t.length = 3 ∧ ∀ r ∈ t, r.length = 3
noncomputable def mulRow (a b : Tab) (i : Nat) : List Int := (List.range 3).map fun j => ((List.range 3).map fun k => at3 a i k * at3 b k j).sum
noncomputable def mulT (a b : Tab) : Tab := (List.range 3).map (mulRow a b)
theorem IsTab.row {m : MH} {v : MV} {t : Tab} (h : IsTab m v t) (h3 : T3 t) {i : Nat} (hi : i < 3) : ∃ (p : Nat) (vs : List MV) (r : Nat) (row : List Int), v = .ref p ∧ m.H p = some (.list vs) ∧ vs[i]? = some (.ref r) ∧ m.H r = some (.list (row.map .int)) ∧ row.length = 3 ∧ ∀ k, row.getD k 0 = at3 t i k := by
  obtain ⟨p, vs, a, b, c⟩ := h
  have hl : i < t.length := by rw [h3.1]; exact hi
  obtain ⟨x, e, r, rfl, hr⟩ := c.get (List.getElem?_eq_getElem hl)
  refine ⟨p, vs, r, t[i], a, b, e, hr, h3.2 _ (List.getElem_mem hl), fun k => ?_⟩
  have : t.getD i [] = t[i] := by rw [List.getD_eq_getElem?_getD, List.getElem?_eq_getElem hl]; rfl
  unfold at3
  rw [this]
theorem ints_at {row : List Int} {k : Nat} (h : k < row.length) : (row.map MV.int)[k]? = some (.int (row.getD k 0)) := by
  rw [List.getElem?_map, List.getElem?_eq_getElem h, List.getD_eq_getElem?_getD, List.getElem?_eq_getElem h]; rfl
theorem take_snoc {α : Type} (f : Nat → α) (n k : Nat) (h : k < n) : ((List.range n).map f).take (k + 1) = ((List.range n).map f).take k ++ [f k] := by
  rw [List.take_add_one, List.getElem?_map, List.getElem?_range h]; rfl
theorem b_times {G : GC} {A : Around} {env : Env} {own : List Addr} {m : MH} {va vb : MV} {a b : Tab} (hw : WF m) (ha : IsTab m va a) (hb : IsTab m vb b) (h3a : T3 a) (h3b : T3 b) (hok : ∀ i k j, IntMulOk (at3 a i k) (at3 b k j))
    (hr : GlobIs G "range" (.type "range")) (hs : GlobIs G "sum" (.builtin "sum"))
    (hc : Cx.Ok ⟨G, A, env, (scopeOf (stmtAt 18)).names, own, own, []⟩) :
    ExecsTo ⟨G, A, env, (scopeOf (stmtAt 18)).names, own, own, []⟩ (bodyOf (stmtAt 18)) ⟨[some va, some vb, none], m⟩ fun f st' => ∃ v, f = .ret v ∧ Grow m st'.m ∧ FTab m st'.m v (mulT a b) := by
  refine xs_cons ?_
  refine x_ret ?_
  apply ev_comp hc
  case S => exact ⟨rfl, by decide +kernel, by decide +kernel, by decide +kernel⟩
  case hV => (focus repeat first | with_reducible exact CompVars.nil | apply CompVars.loc | apply CompVars.cell | apply CompVars.glob | (apply CompVars.free; (focus repeat first | with_reducible exact Slot.head | (show Slot (_ :: _) (_ :: _) _ _ _; first | with_reducible exact Slot.head | apply Slot.tail)); (first | exact .inl rfl | exact .inr (.inl rfl) | exact .inr (.inr rfl) | exact .inr rfl)))
  refine ie_range1 hc ?_
  refine ev_glob hc (by (focus repeat first | with_reducible exact Glob.head | (show Glob (_ :: _) _; first | with_reducible exact Glob.head | apply Glob.tail))) hr ⟨rfl, ev_int ⟨3, rfl, by decide, by decide, rfl, (fun z => nomatch z), rfl, 4, fun env₁ own₁ fp₁ hc₁ => ?_⟩⟩
  refine comp_range0 (n := 3) (fun k ys st' => ∃ w, st'.vars = [none, w, none, some va, some vb] ∧ Grow m st'.m ∧ All2 (IsInts st'.m) ys ((mulT a b).take k) ∧ (∀ y ∈ ys, Fresh m y) ∧ ys.Pairwise (· ≠ ·)) ⟨none, rfl, .refl hw, .nil, fun _ z => (nomatch z), .nil⟩ ?_ ?_
  · rintro i ys ⟨vars, m₁⟩ hi ⟨w, hv, hg, hys, hfr, hpw⟩
    dsimp only at hv hg hys hfr hpw
    subst hv
    refine asg_name hc₁ ⟨_, by (focus repeat first | with_reducible exact Put.headL | with_reducible exact Put.headC | (show Put (_ :: _) (_ :: _) _ _ _; first | with_reducible exact Put.headL | with_reducible exact Put.headC | apply Put.tail)), ?_⟩
    apply ev_comp hc₁
    case S => exact ⟨rfl, by decide +kernel, by decide +kernel, by decide +kernel⟩
    case hV => (focus repeat first | with_reducible exact CompVars.nil | apply CompVars.loc | apply CompVars.cell | apply CompVars.glob | (apply CompVars.free; (focus repeat first | with_reducible exact Slot.head | (show Slot (_ :: _) (_ :: _) _ _ _; first | with_reducible exact Slot.head | apply Slot.tail)); (first | exact .inl rfl | exact .inr (.inl rfl) | exact .inr (.inr rfl) | exact .inr rfl)))
    refine ie_range1 hc₁ ?_
    refine ev_glob hc₁ (by (focus repeat first | with_reducible exact Glob.head | (show Glob (_ :: _) _; first | with_reducible exact Glob.head | apply Glob.tail))) hr ⟨rfl, ev_int ⟨3, rfl, by decide, by decide, rfl, (fun z => nomatch z), rfl, 4, fun env₂ own₂ fp₂ hc₂ => ?_⟩⟩
    refine comp_range0 (n := 3) (fun k zs st' => ∃ w, st'.vars = [none, w, none, none, some va, some vb, some (.int i)] ∧ Grow m₁ st'.m ∧ zs = ((mulRow a b i).take k).map .int) ⟨none, rfl, .refl hg.wf, rfl⟩ ?_ ?_
    · rintro j zs ⟨vars, m₂⟩ hj ⟨w, hv, hg₂, hzs⟩
      dsimp only at hv hg₂ hzs
      subst hv
      refine asg_name hc₂ ⟨_, by (focus repeat first | with_reducible exact Put.headL | with_reducible exact Put.headC | (show Put (_ :: _) (_ :: _) _ _ _; first | with_reducible exact Put.headL | with_reducible exact Put.headC | apply Put.tail)), ?_⟩
      refine ev_call hc₂ ?_
      refine ev_glob hc₂ (by (focus repeat first | with_reducible exact Glob.head | (show Glob (_ :: _) _; first | with_reducible exact Glob.head | apply Glob.tail))) hs ?_
      refine args_cons ?_
      apply ev_comp hc₂
      case S => exact ⟨rfl, by decide +kernel, by decide +kernel, by decide +kernel⟩
      case hV => (focus repeat first | with_reducible exact CompVars.nil | apply CompVars.loc | apply CompVars.cell | apply CompVars.glob | (apply CompVars.free; (focus repeat first | with_reducible exact Slot.head | (show Slot (_ :: _) (_ :: _) _ _ _; first | with_reducible exact Slot.head | apply Slot.tail)); (first | exact .inl rfl | exact .inr (.inl rfl) | exact .inr (.inr rfl) | exact .inr rfl)))
      refine ie_range1 hc₂ ?_
      refine ev_glob hc₂ (by (focus repeat first | with_reducible exact Glob.head | (show Glob (_ :: _) _; first | with_reducible exact Glob.head | apply Glob.tail))) hr ⟨rfl, ev_int ⟨3, rfl, by decide, by decide, rfl, (fun z => nomatch z), rfl, 4, fun env₃ own₃ fp₃ hc₃ => ?_⟩⟩
      refine comp_range0 (n := 3) (fun k us st' => ∃ w, st'.vars = [none, w, some va, some vb, some (.int i), some (.int j)] ∧ st'.m = m₂ ∧ us = (((List.range 3).map fun k => at3 a i k * at3 b k j).take k).map .int) ⟨none, rfl, rfl, rfl⟩ ?_ ?_
      · rintro k us ⟨vars, m₃⟩ hk ⟨w, hv, hm, hus⟩
        dsimp only at hv hm hus
        subst hv hm
        have hgm := hg.trans hg₂
        obtain ⟨p, vs, r, row, rfl, hp, hrr, hrow, hl, hat⟩ := (ha.grow hgm).row h3a hi
        obtain ⟨p', vs', r', row', rfl, hp', hrr', hrow', hl', hat'⟩ := (hb.grow hgm).row h3b hk
        refine asg_name hc₃ ⟨_, by (focus repeat first | with_reducible exact Put.headL | with_reducible exact Put.headC | (show Put (_ :: _) (_ :: _) _ _ _; first | with_reducible exact Put.headL | with_reducible exact Put.headC | apply Put.tail)), ?_⟩
        refine ev_bin hc₃ ?_
        refine ev_sub hc₃ ?_
        refine ev_sub hc₃ ?_
        refine ev_name hc₃ (by (focus repeat first | with_reducible exact Slot.head | (show Slot (_ :: _) (_ :: _) _ _ _; first | with_reducible exact Slot.head | apply Slot.tail))) (by (first | exact .inl rfl | exact .inr (.inl rfl) | exact .inr (.inr rfl) | exact .inr rfl)) ?_
        refine ev_name hc₃ (by (focus repeat first | with_reducible exact Slot.head | (show Slot (_ :: _) (_ :: _) _ _ _; first | with_reducible exact Slot.head | apply Slot.tail))) (by (first | exact .inl rfl | exact .inr (.inl rfl) | exact .inr (.inr rfl) | exact .inr rfl)) ?_
        refine fun value slice hsl => idx_list hsl hp (by omega) (by simpa using hrr) (by omega) ?_
        refine ev_name hc₃ (by (focus repeat first | with_reducible exact Slot.head | (show Slot (_ :: _) (_ :: _) _ _ _; first | with_reducible exact Slot.head | apply Slot.tail))) (by (first | exact .inl rfl | exact .inr (.inl rfl) | exact .inr (.inr rfl) | exact .inr rfl)) ?_
        refine fun value slice hsl => idx_list hsl hrow (by omega) (y := .int (at3 a i k)) (by rw [Int.toNat_natCast, ints_at (by omega), hat]) (by omega) ?_
        refine ev_sub hc₃ ?_
        refine ev_sub hc₃ ?_
        refine ev_name hc₃ (by (focus repeat first | with_reducible exact Slot.head | (show Slot (_ :: _) (_ :: _) _ _ _; first | with_reducible exact Slot.head | apply Slot.tail))) (by (first | exact .inl rfl | exact .inr (.inl rfl) | exact .inr (.inr rfl) | exact .inr rfl)) ?_
        refine ev_name hc₃ (by (focus repeat first | with_reducible exact Slot.head | (show Slot (_ :: _) (_ :: _) _ _ _; first | with_reducible exact Slot.head | apply Slot.tail))) (by (first | exact .inl rfl | exact .inr (.inl rfl) | exact .inr (.inr rfl) | exact .inr rfl)) ?_
        refine fun value slice hsl => idx_list hsl hp' (by omega) (by simpa using hrr') (by omega) ?_
        refine ev_name hc₃ (by (focus repeat first | with_reducible exact Slot.head | (show Slot (_ :: _) (_ :: _) _ _ _; first | with_reducible exact Slot.head | apply Slot.tail))) (by (first | exact .inl rfl | exact .inr (.inl rfl) | exact .inr (.inr rfl) | exact .inr rfl)) ?_
        refine fun value slice hsl => idx_list hsl hrow' (by omega) (y := .int (at3 b k j)) (by rw [Int.toNat_natCast, ints_at (by omega), hat']) (by omega) ?_
        refine bin_mul (hok i k j) ?_
        refine ⟨?_, _, rfl, rfl, ?_⟩
        · rw [hus, List.length_map, List.length_take]; have := sizeLine_big; omega
        · rw [take_snoc _ _ _ hk, List.map_append, hus]; rfl
      · rintro us ⟨vars, m₃⟩ ⟨w, hv, hm, hus⟩
        dsimp only at hv hm hus
        subst hm
        refine args_nil ⟨keeps_builtin, ?_⟩
        refine call_sum hc₂.hand (ns := (List.range 3).map fun k => at3 a i k * at3 b k j) ?_ ?_
        · rw [hus, List.take_of_length_le (by simp)]; exact alloc_new _ _
        · refine ⟨?_, _, rfl, hg₂.snoc _, ?_⟩
          · rw [hzs, List.length_map, List.length_take]; have := sizeLine_big; omega
          · unfold mulRow; rw [take_snoc _ _ _ hj, List.map_append]; rw [hzs]; rfl
    · rintro zs ⟨vars, m₂⟩ ⟨w, hv, hg₂, hzs⟩
      dsimp only at hv hg₂ hzs
      have hz : zs = (mulRow a b i).map .int := by rw [hzs, List.take_of_length_le (by simp [mulRow])]
      refine ⟨?_, _, rfl, hg.trans (hg₂.snoc _), ?_⟩
      · rw [hys.len, List.length_take]; have := sizeLine_big; omega
      · unfold mulT
        rw [take_snoc _ _ _ hi]
        exact ⟨(hys.mono fun _ _ z => z.grow (hg₂.snoc _)).snoc ⟨_, rfl, by rw [hz]; exact alloc_new _ _⟩, fun y hy => (List.mem_append.mp hy).elim (hfr y) fun z => by rw [List.mem_singleton.mp z]; exact (hg.trans hg₂).fresh, apart_snoc hg₂ hys hpw⟩
  · rintro ys ⟨vars, m₁⟩ ⟨w, hv, hg, hys, hfr, hpw⟩
    dsimp only at hv hg hys hfr hpw
    rw [List.take_of_length_le (by simp [mulT])] at hys
    exact ⟨_, rfl, hg.snoc _, _, _, rfl, alloc_new _ _, hys.mono fun _ _ z => z.grow (.alloc hg.wf _), hfr, hpw⟩
noncomputable abbrev cxOf (G : GC) (A : Around) (env : Env) (own : List Addr) (k : Nat) : Cx := ⟨G, A, env, (scopeOf (stmtAt k)).names, own, own, []⟩
section
variable {G : GC} {A : Around} {env : Env} {own : List Addr} {m : MH}
theorem b_add {x y : Int} (hc : (cxOf G A env own 6).Ok) : Exs (cxOf G A env own 6) (bodyOf (stmtAt 6)) ⟨[some (.int x), some (.int y)], m⟩ (.ret (.int (x + y))) ⟨[some (.int x), some (.int y)], m⟩ := by
  apply Exs.stop
  · apply Ex.ret
    apply Ev.bin hc
    · (apply Ev.nm (by assumption); (repeat first | with_reducible exact Slot.head | (show Slot (_ :: _) (_ :: _) _ _ _; first | with_reducible exact Slot.head | apply Slot.tail)); rfl)
    · (apply Ev.nm (by assumption); (repeat first | with_reducible exact Slot.head | (show Slot (_ :: _) (_ :: _) _ _ _; first | with_reducible exact Slot.head | apply Slot.tail)); rfl)
    · exact bin_add ⟨rfl, rfl⟩
  · exact fun z => nomatch z
theorem b_sub {x y : Int} (hc : (cxOf G A env own 7).Ok) : Exs (cxOf G A env own 7) (bodyOf (stmtAt 7)) ⟨[some (.int x), some (.int y)], m⟩ (.ret (.int (x - y))) ⟨[some (.int x), some (.int y)], m⟩ := by
  apply Exs.stop
  · apply Ex.ret
    apply Ev.bin hc
    · (apply Ev.nm (by assumption); (repeat first | with_reducible exact Slot.head | (show Slot (_ :: _) (_ :: _) _ _ _; first | with_reducible exact Slot.head | apply Slot.tail)); rfl)
    · (apply Ev.nm (by assumption); (repeat first | with_reducible exact Slot.head | (show Slot (_ :: _) (_ :: _) _ _ _; first | with_reducible exact Slot.head | apply Slot.tail)); rfl)
    · exact bin_sub ⟨rfl, rfl⟩
  · exact fun z => nomatch z
theorem b_contains {x y : Str} (hc : (cxOf G A env own 9).Ok) : Exs (cxOf G A env own 9) (bodyOf (stmtAt 9)) ⟨[some (.str x), some (.str y)], m⟩ (.ret (.bool (!(Builtin.Str.occurrences x y 0 x.length 1).isEmpty))) ⟨[some (.str x), some (.str y)], m⟩ := by
  apply Exs.stop
  · apply Ex.ret
    apply Ev.cmp hc
    · (apply Ev.nm (by assumption); (repeat first | with_reducible exact Slot.head | (show Slot (_ :: _) (_ :: _) _ _ _; first | with_reducible exact Slot.head | apply Slot.tail)); rfl)
    · (apply Ev.nm (by assumption); (repeat first | with_reducible exact Slot.head | (show Slot (_ :: _) (_ :: _) _ _ _; first | with_reducible exact Slot.head | apply Slot.tail)); rfl)
    · exact cmp_ins ⟨rfl, rfl⟩
  · exact fun z => nomatch z
theorem b_getitem {i : Nat} {xs : List MV} {k : Int} {y : MV} (hi : m.H i = some (.list xs)) (h0 : 0 ≤ k) (hk : xs[k.toNat]? = some y) (hl : k < 2 ^ 63) (hc : (cxOf G A env own 10).Ok) : Exs (cxOf G A env own 10) (bodyOf (stmtAt 10)) ⟨[some (.ref i), some (.int k)], m⟩ (.ret y) ⟨[some (.ref i), some (.int k)], m⟩ := by
  apply Exs.stop
  · apply Ex.ret
    apply Ev.sub hc
    · (apply Ev.nm (by assumption); (repeat first | with_reducible exact Slot.head | (show Slot (_ :: _) (_ :: _) _ _ _; first | with_reducible exact Slot.head | apply Slot.tail)); rfl)
    · (apply Ev.nm (by assumption); (repeat first | with_reducible exact Slot.head | (show Slot (_ :: _) (_ :: _) _ _ _; first | with_reducible exact Slot.head | apply Slot.tail)); rfl)
    · exact fun value slice hs => idx_list hs hi h0 hk hl ⟨rfl, rfl⟩
  · exact fun z => nomatch z
theorem b_setitem {i : Nat} {xs : List MV} {k : Int} {y : MV} (hi : m.H i = some (.list xs)) (h0 : 0 ≤ k) (hk : k < xs.length) (hl : k < 2 ^ 63) (hc : (cxOf G A env own 12).Ok) :
    Exs (cxOf G A env own 12) (bodyOf (stmtAt 12)) ⟨[some (.ref i), some (.int k), some y], m⟩ .next ⟨[some (.ref i), some (.int k), some y], m.set i (.list (xs.set k.toNat y))⟩ := by
  apply Exs.cons
  · apply Ex.setitem hc
    · (apply Ev.nm (by assumption); (repeat first | with_reducible exact Slot.head | (show Slot (_ :: _) (_ :: _) _ _ _; first | with_reducible exact Slot.head | apply Slot.tail)); rfl)
    · (apply Ev.nm (by assumption); (repeat first | with_reducible exact Slot.head | (show Slot (_ :: _) (_ :: _) _ _ _; first | with_reducible exact Slot.head | apply Slot.tail)); rfl)
    · (apply Ev.nm (by assumption); (repeat first | with_reducible exact Slot.head | (show Slot (_ :: _) (_ :: _) _ _ _; first | with_reducible exact Slot.head | apply Slot.tail)); rfl)
    · exact set_list hi h0 hk hl ⟨rfl, rfl⟩
  · exact Exs.nil
end
noncomputable abbrev Turn (c : Cx) (target : Expr) (body : List Stmt) (v : MV) (st : St) (Q : St → Prop) : Prop :=
  AsgTo c target v st fun st₁ => ExecsTo c body st₁ fun f st₂ => (f = .next ∨ f = .cont) ∧ Q st₂
section
variable {c : Cx} {st : St} {m : MH} {target iter : Expr} {body : List Stmt} {pos : Pos}
theorem turn_on {X : Src} {n : Nat} {k : X.κ} {v : MV} {Q : St → Prop} {K : MF → St → Prop} (h : Turn c target body v st Q) (hQ : ∀ st', Q st' → ForN c target body [] X n k st' K) :
    AsgTo c target v st fun st₁ => ExecsTo c body st₁ fun f st₂ => match f with
        | .next | .cont => ForN c target body [] X n k st₂ K
        | .brk => K .next st₂
        | .ret v => K (.ret v) st₂ := fun σ hh t u Qs Es I V q => h σ hh t u Qs Es I V fun σ' h' t' st' hq I' E' =>
  q σ' h' t' st' (FT.mono hq fun f st₂ z => by rcases z with ⟨rfl | rfl, z⟩ <;> exact hQ _ z) I' E'
theorem for_str {x : Str} (P : Nat → St → Prop) (ha : x.cps.all (· < 128) = true) (h0 : P 0 st) (step : ∀ k ch st, x.cps[k]? = some ch → P k st → Turn c target body (.str (chr ch)) st (P (k + 1))) :
    ForN c target body [] (strSrc x) (x.cps.size + 1) (strSrc x).k0 st fun f st' => f = .next ∧ P x.cps.size st' := by
  suffices H : ∀ j k st, k + j = x.cps.size → P k st → ForN c target body [] (strSrc x) (j + 1) k st fun f st' => f = .next ∧ P x.cps.size st' from H _ 0 st (Nat.zero_add _) h0
  intro j
  induction j with
  | zero => intro k st hk hp; exact .inr ⟨st.m, ⟨by omega, rfl⟩, xs_nil ⟨rfl, by rw [← show k = x.cps.size by omega]; exact hp⟩⟩
  | succ j ih =>
    intro k st hk hp
    have hlt : k < x.cps.size := by omega
    refine .inl ⟨⟨_, Array.getElem?_eq_getElem hlt⟩, ?_⟩
    rintro v m' k' ⟨ch, hch, rfl, rfl, rfl⟩
    exact turn_on (step k ch st hch hp) fun st' hp' => ih (k + 1) st' (by omega) hp'
theorem for_range {a : Int} {n : Nat} (P : Nat → St → Prop) (h0 : P 0 st) (step : ∀ k st, k < n → P k st → Turn c target body (.int (a + k)) st (P (k + 1))) :
    ForN c target body [] (rangeSrc a n) (n + 1) (rangeSrc a n).k0 st fun f st' => f = .next ∧ P n st' := by
  suffices H : ∀ j k st, k + j = n → P k st → ForN c target body [] (rangeSrc a n) (j + 1) k st fun f st' => f = .next ∧ P n st' from H _ 0 st (Nat.zero_add _) h0
  intro j
  induction j with
  | zero => intro k st hk hp; exact .inr ⟨st.m, ⟨show n ≤ k by omega, rfl⟩, xs_nil ⟨rfl, by rw [← show k = n by omega]; exact hp⟩⟩
  | succ j ih =>
    intro k st hk hp
    refine .inl ⟨show k < n by omega, ?_⟩
    rintro v m' k' ⟨h1, rfl, rfl, rfl⟩
    exact turn_on (step k st (by omega) hp) fun st' hp' => ih (k + 1) st' (by omega) hp'
theorem for_list {l : Nat} {xs : List MV} (P : Nat → St → Prop) (hl : ∀ k st, P k st → st.m.H l = some (.list xs)) (h0 : P 0 st) (step : ∀ k x st, xs[k]? = some x → P k st → Turn c target body x st (P (k + 1))) :
    ForN c target body [] (listSrc l) (xs.length + 1) (listSrc l).k0 st fun f st' => f = .next ∧ P xs.length st' := by
  suffices H : ∀ j k st, k + j = xs.length → P k st → ForN c target body [] (listSrc l) (j + 1) k st fun f st' => f = .next ∧ P xs.length st' from H _ 0 st (Nat.zero_add _) h0
  intro j
  induction j with
  | zero => intro k st hk hp; exact .inr ⟨st.m, ⟨xs, hl k st hp, by omega, rfl⟩, xs_nil ⟨rfl, by rw [← show k = xs.length by omega]; exact hp⟩⟩
  | succ j ih =>
    intro k st hk hp
    have hlt : k < xs.length := by omega
    refine .inl ⟨⟨xs, _, hl k st hp, List.getElem?_eq_getElem hlt⟩, ?_⟩
    rintro v m' k' ⟨xs', h1, h2, rfl, rfl⟩
    rw [hl k st hp] at h1; cases h1
    exact turn_on (step k v st h2 hp) fun st' hp' => ih (k + 1) st' (by omega) hp'
theorem x_for_str (hc : c.Ok) {x : Str} (hi : Ev c iter st (.str x) m) (ha : x.cps.all (· < 128) = true) (P : Nat → St → Prop) (h0 : P 0 ⟨st.vars, m⟩) (step : ∀ k ch st, x.cps[k]? = some ch → P k st → Turn c target body (.str (chr ch)) st (P (k + 1)))
    (hs : ∀ x, foldedSetIterable iter c.env x = pure x := by intro _; rfl) : ExecTo c (.For target iter body [] pos) st fun f st' => f = .next ∧ P x.cps.size st' :=
  x_for hc (ie_val hc (hi.to (iv_str hc.hand ha ⟨(fun z => nomatch z), _, for_str P ha h0 step⟩))) hs
theorem x_for_list (hc : c.Ok) {l : Nat} {xs : List MV} (hi : Ev c iter st (.ref l) m) (P : Nat → St → Prop) (hl : ∀ k st, P k st → st.m.H l = some (.list xs)) (h0 : P 0 ⟨st.vars, m⟩) (step : ∀ k x st, xs[k]? = some x → P k st → Turn c target body x st (P (k + 1)))
    (hs : ∀ x, foldedSetIterable iter c.env x = pure x := by intro _; rfl) : ExecTo c (.For target iter body [] pos) st fun f st' => f = .next ∧ P xs.length st' :=
  x_for hc (ie_val hc (hi.to (iv_list hc.hand (hl 0 _ h0) ⟨(fun z => nomatch z), _, for_list P hl h0 step⟩))) hs
theorem x_for_range1 (hc : c.Ok) {f e : Expr} {rp : Pos} {b : Int} {m₁ : MH} (hf : Ev c f st (.st (.type "range")) m₁) (he : Ev c e ⟨st.vars, m₁⟩ (.int b) m) (hb : -(2 ^ 62) ≤ b) (hb' : b < 2 ^ 62) (P : Nat → St → Prop) (h0 : P 0 ⟨st.vars, m⟩)
    (step : ∀ k st, k < b.toNat → P k st → Turn c target body (.int (0 + k)) st (P (k + 1)))
    (hs : ∀ x, foldedSetIterable (.Call f [e] [] rp) c.env x = pure x := by intro _; rfl) (h1 : notAttr f = true := by rfl) (h2 : notStar e = true := by rfl) : ExecTo c (.For target (.Call f [e] [] rp) body [] pos) st fun f st' => f = .next ∧ P b.toNat st' :=
  x_for hc (ie_range1 hc (hf.to ⟨rfl, he.to ⟨b, rfl, hb, hb', (fun z => nomatch z), _, for_range P h0 step⟩⟩) h1 h2) hs
theorem x_for_range2 (hc : c.Ok) {f e e' : Expr} {rp : Pos} {a b : Int} {m₁ m₂ : MH} (hf : Ev c f st (.st (.type "range")) m₁) (he : Ev c e ⟨st.vars, m₁⟩ (.int a) m₂) (he' : Ev c e' ⟨st.vars, m₂⟩ (.int b) m) (ha : -(2 ^ 62) ≤ a) (ha' : a < 2 ^ 62) (hb : -(2 ^ 62) ≤ b) (hb' : b < 2 ^ 62)
    (P : Nat → St → Prop) (h0 : P 0 ⟨st.vars, m⟩) (step : ∀ k st, k < (b - a).toNat → P k st → Turn c target body (.int (a + k)) st (P (k + 1)))
    (hs : ∀ x, foldedSetIterable (.Call f [e, e'] [] rp) c.env x = pure x := by intro _; rfl) (h1 : notAttr f = true := by rfl) (h2 : notStar e = true := by rfl) (h3 : notStar e' = true := by rfl) :
    ExecTo c (.For target (.Call f [e, e'] [] rp) body [] pos) st fun f st' => f = .next ∧ P (b - a).toNat st' :=
  x_for hc (ie_range2 hc (hf.to ⟨rfl, he.to (he'.to ⟨a, b, rfl, rfl, ha, ha', hb, hb', (fun z => nomatch z), _, for_range P h0 step⟩)⟩) h1 h2 h3) hs
end
theorem Grow.set {m m' : MH} (g : Grow m m') {i : Nat} {o : MO} (hi : ∀ o, m.H i ≠ some o) (hn : i < m'.n) : Grow m (m'.set i o) := by
  refine ⟨fun j o' e => ?_, fun j o' e => ?_, g.tb⟩
  · by_cases hj : j = i
    · subst hj; exact hn
    · have : (if j = i then some o else m'.H j) = some o' := e
      rw [if_neg hj] at this; exact g.wf j o' this
  · have hj : j ≠ i := fun z => hi o' (z ▸ e)
    show (if j = i then some o else m'.H j) = some o'
    rw [if_neg hj]; exact g.keep j o' e
theorem set_at (m : MH) (i : Nat) (o : MO) : (m.set i o).H i = some o := by
  show (if i = i then some o else m.H i) = some o
  rw [if_pos rfl]
theorem set_off {m : MH} {i j : Nat} {o : MO} (h : j ≠ i) : (m.set i o).H j = m.H j := by
  show (if j = i then some o else m.H j) = m.H j
  rw [if_neg h]
theorem WF.no {m : MH} (h : WF m) : ∀ o, m.H m.n ≠ some o := fun o e => Nat.lt_irrefl _ (h _ o e)
theorem bits_small {x : Int} (h : x.natAbs < 2 ^ 64) : Builtin.Int.intBits x ≤ 64 := by
  unfold Builtin.Int.intBits
  split
  · exact Nat.zero_le _
  · rename_i hx
    have hx' : x.natAbs ≠ 0 := by simpa using hx
    exact (Nat.log2_lt hx').mpr h
noncomputable def colStep (size : Int) (c : Int) (ch : Nat) : Int := if chr ch == (Str.ofString " ") then c + 1 else (c.fdiv size + 1) * size
noncomputable def colOf (size : Int) (lead : List Nat) : Int := lead.foldl (colStep size) 0
noncomputable def colsOf (lead : Str) : List Int := (List.range 5).map fun k : Nat => colOf (1 + (k : Int)) lead.cps.toList
theorem take_fold {α β : Type} (f : β → α → β) (b : β) (l : Array α) (k : Nat) (x : α) (h : l[k]? = some x) : (l.toList.take (k + 1)).foldl f b = f ((l.toList.take k).foldl f b) x := by
  rw [List.take_add_one, Array.getElem?_toList, h, List.foldl_append]; rfl
section
variable {G : GC} {A : Around} {env : Env} {own : List Addr} {m : MH}
theorem b_columns {lead : Str} (hw : WF m) (ha : lead.cps.all (· < 128) = true) (hr : GlobIs G "range" (.type "range")) (hc : (cxOf G A env own 16).Ok) :
    ExecsTo (cxOf G A env own 16) (bodyOf (stmtAt 16)) ⟨[some (.str lead), none, none, none, none, none], m⟩ fun f st' => ∃ i, f = .ret (.ref i) ∧ Grow m st'.m ∧ st'.m.H i = some (.list ((colsOf lead).map .int)) := by
  refine xs_cons (Ex.to (f := .next) (st' := ⟨[some (.str lead), some (.ref m.n), none, none, none, none], m.alloc (.list [])⟩) ?_ ?_)
  · apply Ex.set hc
    · apply Ev.list hc
      · exact Evs.nil
      · exact Nat.zero_le _
    · (focus repeat first | with_reducible exact Put.headL | with_reducible exact Put.headC | (show Put (_ :: _) (_ :: _) _ _ _; first | with_reducible exact Put.headL | with_reducible exact Put.headC | apply Put.tail))
  dsimp only
  refine xs_cons (FT.mono (x_for_range2 hc (a := 1) (b := 6) (m₁ := m.alloc (.list [])) (m₂ := m.alloc (.list [])) (m := m.alloc (.list [])) ?hf ?he ?he' (by decide) (by decide) (by decide) (by decide)
    (fun k st => (∃ w1 w2 w3, st.vars = [some (.str lead), some (.ref m.n), w1, w2, w3, none]) ∧ Grow m st.m ∧ m.n < st.m.n ∧ st.m.H m.n = some (.list (((colsOf lead).take k).map .int))) ?h0 ?step) ?fin)
  case hf => (apply Ev.glob (by assumption); (focus repeat first | with_reducible exact Glob.head | (show Glob (_ :: _) _; first | with_reducible exact Glob.head | apply Glob.tail)); assumption)
  case he => exact Ev.int
  case he' => exact Ev.int
  case h0 => exact ⟨⟨_, _, _, rfl⟩, .alloc hw _, Nat.lt_succ_self _, alloc_new _ _⟩
  case step =>
    rintro k ⟨vars, m₁⟩ hk ⟨⟨w1, w2, w3, hv⟩, hg, hn, hl⟩
    dsimp only at hv hg hn hl
    subst hv
    have hk5 : k < 5 := hk
    refine asg_name hc ⟨_, by (focus repeat first | with_reducible exact Put.headL | with_reducible exact Put.headC | (show Put (_ :: _) (_ :: _) _ _ _; first | with_reducible exact Put.headL | with_reducible exact Put.headC | apply Put.tail)), ?_⟩
    refine xs_cons (Ex.to (f := .next) (st' := ⟨[some (.str lead), some (.ref m.n), some (.int (1 + k)), some (.int 0), w3, none], m₁⟩) ?_ ?_)
    · apply Ex.set hc
      · exact Ev.int
      · (focus repeat first | with_reducible exact Put.headL | with_reducible exact Put.headC | (show Put (_ :: _) (_ :: _) _ _ _; first | with_reducible exact Put.headL | with_reducible exact Put.headC | apply Put.tail))
    dsimp only
    refine xs_cons (FT.mono (x_for_str hc (x := lead) (m := m₁) ?hi ha
      (fun j st => (∃ w, st.vars = [some (.str lead), some (.ref m.n), some (.int (1 + k)), some (.int ((lead.cps.toList.take j).foldl (colStep (1 + k)) 0)), w, none]) ∧ st.m = m₁) ?g0 ?gstep) ?gfin)
    case hi => (apply Ev.nm (by assumption); (repeat first | with_reducible exact Slot.head | (show Slot (_ :: _) (_ :: _) _ _ _; first | with_reducible exact Slot.head | apply Slot.tail)); rfl)
    case g0 => exact ⟨⟨_, rfl⟩, rfl⟩
    case gstep =>
      rintro j ch ⟨vars, m₂⟩ hch ⟨⟨w, hv⟩, hm⟩
      dsimp only at hv hm
      subst hv hm
      refine asg_name hc ⟨_, by (focus repeat first | with_reducible exact Put.headL | with_reducible exact Put.headC | (show Put (_ :: _) (_ :: _) _ _ _; first | with_reducible exact Put.headL | with_reducible exact Put.headC | apply Put.tail)), ?_⟩
      rw [take_fold _ _ _ _ _ hch]
      generalize (lead.cps.toList.take j).foldl (colStep (1 + k)) 0 = C
      refine xs_cons (Ex.to (f := .next) (st' := ⟨[some (.str lead), some (.ref m.n), some (.int (1 + k)), some (.int (colStep (1 + k) C ch)), some (.str (chr ch)), none], m₂⟩) ?_ ?_)
      · cases hb : chr ch == Str.ofString " " with
        | true =>
          have e : colStep (1 + k) C ch = C + 1 := by unfold colStep; rw [hb]; rfl
          rw [e]
          apply Ex.set hc
          · apply Ev.ife (z := true)
            · apply Te.cmp hc
              · (apply Ev.nm (by assumption); (repeat first | with_reducible exact Slot.head | (show Slot (_ :: _) (_ :: _) _ _ _; first | with_reducible exact Slot.head | apply Slot.tail)); rfl)
              · exact Ev.str
              · exact cmp_eqs ⟨by rw [hb], rfl⟩
            · apply Ev.bin hc
              · (apply Ev.nm (by assumption); (repeat first | with_reducible exact Slot.head | (show Slot (_ :: _) (_ :: _) _ _ _; first | with_reducible exact Slot.head | apply Slot.tail)); rfl)
              · exact Ev.int
              · exact bin_add ⟨rfl, rfl⟩
          · (focus repeat first | with_reducible exact Put.headL | with_reducible exact Put.headC | (show Put (_ :: _) (_ :: _) _ _ _; first | with_reducible exact Put.headL | with_reducible exact Put.headC | apply Put.tail))
        | false =>
          have e : colStep (1 + k) C ch = (C.fdiv (1 + k) + 1) * (1 + k) := by unfold colStep; rw [hb]; rfl
          rw [e]
          apply Ex.set hc
          · apply Ev.ife (z := false)
            · apply Te.cmp hc
              · (apply Ev.nm (by assumption); (repeat first | with_reducible exact Slot.head | (show Slot (_ :: _) (_ :: _) _ _ _; first | with_reducible exact Slot.head | apply Slot.tail)); rfl)
              · exact Ev.str
              · exact cmp_eqs ⟨by rw [hb], rfl⟩
            · apply Ev.bin hc
              · apply Ev.bin hc
                · apply Ev.bin hc
                  · (apply Ev.nm (by assumption); (repeat first | with_reducible exact Slot.head | (show Slot (_ :: _) (_ :: _) _ _ _; first | with_reducible exact Slot.head | apply Slot.tail)); rfl)
                  · (apply Ev.nm (by assumption); (repeat first | with_reducible exact Slot.head | (show Slot (_ :: _) (_ :: _) _ _ _; first | with_reducible exact Slot.head | apply Slot.tail)); rfl)
                  · exact bin_div (by omega) (PyProof.noPylong_small (by omega)) ⟨rfl, rfl⟩
                · exact Ev.int
                · exact bin_add ⟨rfl, rfl⟩
              · (apply Ev.nm (by assumption); (repeat first | with_reducible exact Slot.head | (show Slot (_ :: _) (_ :: _) _ _ _; first | with_reducible exact Slot.head | apply Slot.tail)); rfl)
              · exact bin_mul (.of_right (bits_small (by omega))) ⟨rfl, rfl⟩
          · (focus repeat first | with_reducible exact Put.headL | with_reducible exact Put.headC | (show Put (_ :: _) (_ :: _) _ _ _; first | with_reducible exact Put.headL | with_reducible exact Put.headC | apply Put.tail))
      · exact xs_nil ⟨.inl rfl, ⟨_, rfl⟩, rfl⟩
    case gfin =>
      rintro f ⟨vars, m₂⟩ ⟨rfl, ⟨w, hv⟩, hm⟩
      dsimp only at hv hm
      subst hv hm
      dsimp only
      rw [List.take_of_length_le (by simp)]
      refine xs_cons (Ex.to (f := .next) (st' := ⟨[some (.str lead), some (.ref m.n), some (.int (1 + k)), some (.int (colOf (1 + k) lead.cps.toList)), w, none], m₂.set m.n (.list (((colsOf lead).take k).map .int ++ [.int (colOf (1 + k) lead.cps.toList)]))⟩) ?_ ?_)
      · apply Ex.expr hc
        apply Ev.meth hc
        · (apply Ev.nm (by assumption); (repeat first | with_reducible exact Slot.head | (show Slot (_ :: _) (_ :: _) _ _ _; first | with_reducible exact Slot.head | apply Slot.tail)); rfl)
        · exact meth_append hl ⟨rfl, rfl⟩
        · apply Evs.cons
          · (apply Ev.nm (by assumption); (repeat first | with_reducible exact Slot.head | (show Slot (_ :: _) (_ :: _) _ _ _; first | with_reducible exact Slot.head | apply Slot.tail)); rfl)
          · exact Evs.nil
          · rfl
        · exact keeps_builtin
        · exact call_append hl (by rw [List.length_map, List.length_take]; have := sizeLine_big; omega) ⟨rfl, rfl⟩
      · refine xs_nil ⟨.inl rfl, ⟨_, _, _, rfl⟩, hg.set hw.no hn, hn, ?_⟩
        dsimp only
        rw [set_at]
        unfold colsOf
        rw [take_snoc _ _ _ hk5, List.map_append]; rfl
  case fin =>
    rintro f ⟨vars, m₁⟩ ⟨rfl, ⟨w1, w2, w3, hv⟩, hg, hn, hl⟩
    dsimp only at hv hg hn hl
    subst hv
    dsimp only
    have e5 : (colsOf lead).take ((6 : Int) - 1).toNat = colsOf lead := List.take_of_length_le (by simp [colsOf])
    rw [e5] at hl
    refine xs_cons (Ex.to (f := .ret (.ref m.n)) (st' := ⟨[some (.str lead), some (.ref m.n), w1, w2, w3, none], m₁⟩) ?_ ?_)
    · apply Ex.ret
      (apply Ev.nm (by assumption); (repeat first | with_reducible exact Slot.head | (show Slot (_ :: _) (_ :: _) _ _ _; first | with_reducible exact Slot.head | apply Slot.tail)); rfl)
    · exact ⟨_, rfl, hg, hl⟩
end
structure FnIs (G : GC) (s : Stmt) (f : Addr) : Prop where
  ex : ∃ fd, FnAt G f fd ∧ fd.body = .stmts (bodyOf s) ∧ fd.scope = scopeOf s ∧ fd.params = argsOf s ∧ fd.closure = [] ∧ fd.globals = mainGlobals ∧ fd.builtins = builtinsNs ∧ fd.defaults = .none ∧ fd.kwdefaults = .none
  keep : keepIn G.K (.ref f) = true
theorem c_of {G : GC} {A : Around} {m : MH} {s : Stmt} {f : Addr} {n : Nat} {Q : MV → MH → Prop} {bs : List (Str × MV)} {vars : List (Option MV)} (hA : Good (n + 1) A) (F : FnIs G s f) (S : ScopeOk (scopeOf s))
    (hbind : ∀ fd : FuncData, fd.params = argsOf s → fd.defaults = .none → fd.kwdefaults = .none → ∀ vs : List Value, vs.length = bs.length → bindArgs fd ⟨vs, []⟩ = pure ((bs.map (·.1)).zip vs))
    (hB : Binds (scopeOf s).names bs ((scopeOf s).names.map fun _ => none) vars)
    (H : ∀ A' env own, Good n A' → Cx.Ok ⟨G, A', env, (scopeOf s).names, own, own, []⟩ → ExecsTo ⟨G, A', env, (scopeOf s).names, own, own, []⟩ (bodyOf s) ⟨vars, m⟩ fun fl st' => outOf Q fl st'.m) : CT G A (.st (.ref f)) (bs.map (·.2)) m Q := by
  obtain ⟨fd, F1, h1, h2, h3, h4, h5, h6, h7, h8⟩ := F.ex
  refine call_fn hA F1 (h2 ▸ S) h1 h4 h5 h6 (hbind fd h3 h7 h8) (by rw [h2]; exact hB) fun A' L own hG hok => ?_
  rw [h2] at hok ⊢
  exact ExecsH.of (H A' _ own hG hok)
theorem bind1 {ps : Arguments} {x : Str} (e : ∀ nm qn bd sc gl cl doc pm an cd ct bi a, bindArgs ⟨nm, qn, ps, bd, sc, gl, cl, .none, .none, doc, pm, an, cd, ct, bi⟩ ⟨[a], []⟩ = pure [(x, a)]) (fd : FuncData) (h1 : fd.params = ps) (h2 : fd.defaults = .none) (h3 : fd.kwdefaults = .none) : ∀ vs : List Value, vs.length = 1 → bindArgs fd ⟨vs, []⟩ = pure ([x].zip vs)
  | [a], _ => by
    obtain ⟨⟩ := fd
    cases h1; cases h2; cases h3
    exact e ..
theorem bind2 {ps : Arguments} {x y : Str} (e : ∀ nm qn bd sc gl cl doc pm an cd ct bi a b, bindArgs ⟨nm, qn, ps, bd, sc, gl, cl, .none, .none, doc, pm, an, cd, ct, bi⟩ ⟨[a, b], []⟩ = pure [(x, a), (y, b)]) (fd : FuncData) (h1 : fd.params = ps) (h2 : fd.defaults = .none) (h3 : fd.kwdefaults = .none) : ∀ vs : List Value, vs.length = 2 → bindArgs fd ⟨vs, []⟩ = pure ([x, y].zip vs)
  | [a, b], _ => by
    obtain ⟨⟩ := fd
    cases h1; cases h2; cases h3
    exact e ..
theorem bind3 {ps : Arguments} {x y z : Str} (e : ∀ nm qn bd sc gl cl doc pm an cd ct bi a b c, bindArgs ⟨nm, qn, ps, bd, sc, gl, cl, .none, .none, doc, pm, an, cd, ct, bi⟩ ⟨[a, b, c], []⟩ = pure [(x, a), (y, b), (z, c)]) (fd : FuncData) (h1 : fd.params = ps) (h2 : fd.defaults = .none) (h3 : fd.kwdefaults = .none) : ∀ vs : List Value, vs.length = 3 → bindArgs fd ⟨vs, []⟩ = pure ([x, y, z].zip vs)
  | [a, b, c], _ => by
    obtain ⟨⟩ := fd
    cases h1; cases h2; cases h3
    exact e ..
theorem sc6 : ScopeOk (scopeOf (stmtAt 6)) := by exact ⟨rfl, rfl, rfl, by decide +kernel, by decide +kernel, by decide +kernel, by decide +kernel, by decide +kernel⟩
theorem sc7 : ScopeOk (scopeOf (stmtAt 7)) := by exact ⟨rfl, rfl, rfl, by decide +kernel, by decide +kernel, by decide +kernel, by decide +kernel, by decide +kernel⟩
theorem sc9 : ScopeOk (scopeOf (stmtAt 9)) := by exact ⟨rfl, rfl, rfl, by decide +kernel, by decide +kernel, by decide +kernel, by decide +kernel, by decide +kernel⟩
theorem sc10 : ScopeOk (scopeOf (stmtAt 10)) := by exact ⟨rfl, rfl, rfl, by decide +kernel, by decide +kernel, by decide +kernel, by decide +kernel, by decide +kernel⟩
theorem sc12 : ScopeOk (scopeOf (stmtAt 12)) := by exact ⟨rfl, rfl, rfl, by decide +kernel, by decide +kernel, by decide +kernel, by decide +kernel, by decide +kernel⟩
section
variable {G : GC} {A : Around} {m : MH} {f : Addr} {n : Nat}
theorem Exs.out {c : Cx} {ss : List Stmt} {st st' : St} {v : MV} (h : Exs c ss st (.ret v) st') : ExecsTo c ss st fun fl s => outOf (fun y m' => y = v ∧ m' = st'.m) fl s.m := h.to ⟨rfl, rfl⟩
theorem Exs.out0 {c : Cx} {ss : List Stmt} {st st' : St} (h : Exs c ss st .next st') : ExecsTo c ss st fun fl s => outOf (fun y m' => y = .none ∧ m' = st'.m) fl s.m := h.to ⟨rfl, rfl⟩
theorem c_add {x y : Int} (hA : Good (n + 1) A) (F : FnIs G (stmtAt 6) f) : CT G A (.st (.ref f)) [.int x, .int y] m fun v m' => v = .int (x + y) ∧ m' = m :=
  c_of (bs := [(Str.ofString "a", .int x), (Str.ofString "b", .int y)]) (vars := [some (.int x), some (.int y)]) hA F sc6 (by exact bind2 (fun _ _ _ _ _ _ _ _ _ _ _ _ _ _ => by kernel_rfl)) (by (focus repeat first | exact Binds.nil | (apply Binds.cons; (focus repeat first | with_reducible exact Put.headL | with_reducible exact Put.headC | (show Put (_ :: _) (_ :: _) _ _ _; first | with_reducible exact Put.headL | with_reducible exact Put.headC | apply Put.tail))))) fun _ _ _ _ hc => (b_add hc).out
theorem c_sub {x y : Int} (hA : Good (n + 1) A) (F : FnIs G (stmtAt 7) f) : CT G A (.st (.ref f)) [.int x, .int y] m fun v m' => v = .int (x - y) ∧ m' = m :=
  c_of (bs := [(Str.ofString "a", .int x), (Str.ofString "b", .int y)]) (vars := [some (.int x), some (.int y)]) hA F sc7 (by exact bind2 (fun _ _ _ _ _ _ _ _ _ _ _ _ _ _ => by kernel_rfl)) (by (focus repeat first | exact Binds.nil | (apply Binds.cons; (focus repeat first | with_reducible exact Put.headL | with_reducible exact Put.headC | (show Put (_ :: _) (_ :: _) _ _ _; first | with_reducible exact Put.headL | with_reducible exact Put.headC | apply Put.tail))))) fun _ _ _ _ hc => (b_sub hc).out
theorem c_contains {x y : Str} (hA : Good (n + 1) A) (F : FnIs G (stmtAt 9) f) : CT G A (.st (.ref f)) [.str x, .str y] m fun v m' => v = .bool (!(Builtin.Str.occurrences x y 0 x.length 1).isEmpty) ∧ m' = m :=
  c_of (bs := [(Str.ofString "a", .str x), (Str.ofString "b", .str y)]) (vars := [some (.str x), some (.str y)]) hA F sc9 (by exact bind2 (fun _ _ _ _ _ _ _ _ _ _ _ _ _ _ => by kernel_rfl)) (by (focus repeat first | exact Binds.nil | (apply Binds.cons; (focus repeat first | with_reducible exact Put.headL | with_reducible exact Put.headC | (show Put (_ :: _) (_ :: _) _ _ _; first | with_reducible exact Put.headL | with_reducible exact Put.headC | apply Put.tail))))) fun _ _ _ _ hc => (b_contains hc).out
theorem c_getitem {i : Nat} {xs : List MV} {k : Int} {y : MV} (hi : m.H i = some (.list xs)) (h0 : 0 ≤ k) (hk : xs[k.toNat]? = some y) (hl : k < 2 ^ 63) (hA : Good (n + 1) A) (F : FnIs G (stmtAt 10) f) : CT G A (.st (.ref f)) [.ref i, .int k] m fun v m' => v = y ∧ m' = m :=
  c_of (bs := [(Str.ofString "a", .ref i), (Str.ofString "b", .int k)]) (vars := [some (.ref i), some (.int k)]) hA F sc10 (by exact bind2 (fun _ _ _ _ _ _ _ _ _ _ _ _ _ _ => by kernel_rfl)) (by (focus repeat first | exact Binds.nil | (apply Binds.cons; (focus repeat first | with_reducible exact Put.headL | with_reducible exact Put.headC | (show Put (_ :: _) (_ :: _) _ _ _; first | with_reducible exact Put.headL | with_reducible exact Put.headC | apply Put.tail))))) fun _ _ _ _ hc => (b_getitem hi h0 hk hl hc).out
theorem c_setitem {i : Nat} {xs : List MV} {k : Int} {y : MV} (hi : m.H i = some (.list xs)) (h0 : 0 ≤ k) (hk : k < xs.length) (hl : k < 2 ^ 63) (hA : Good (n + 1) A) (F : FnIs G (stmtAt 12) f) : CT G A (.st (.ref f)) [.ref i, .int k, y] m fun v m' => v = .none ∧ m' = m.set i (.list (xs.set k.toNat y)) :=
  c_of (bs := [(Str.ofString "a", .ref i), (Str.ofString "b", .int k), (Str.ofString "c", y)]) (vars := [some (.ref i), some (.int k), some y]) hA F sc12 (by exact bind3 (fun _ _ _ _ _ _ _ _ _ _ _ _ _ _ _ => by kernel_rfl)) (by (focus repeat first | exact Binds.nil | (apply Binds.cons; (focus repeat first | with_reducible exact Put.headL | with_reducible exact Put.headC | (show Put (_ :: _) (_ :: _) _ _ _; first | with_reducible exact Put.headL | with_reducible exact Put.headC | apply Put.tail))))) fun _ _ _ _ hc => (b_setitem hi h0 hk hl hc).out0
end
theorem sc16 : ScopeOk (scopeOf (stmtAt 16)) := by exact ⟨rfl, rfl, rfl, by decide +kernel, by decide +kernel, by decide +kernel, by decide +kernel, by decide +kernel⟩
theorem sc18 : ScopeOk (scopeOf (stmtAt 18)) := by exact ⟨rfl, rfl, rfl, by decide +kernel, by decide +kernel, by decide +kernel, by decide +kernel, by decide +kernel⟩
section
variable {G : GC} {A : Around} {m : MH} {f : Addr} {n : Nat}
theorem c_columns {lead : Str} (hw : WF m) (ha : lead.cps.all (· < 128) = true) (hr : GlobIs G "range" (.type "range")) (hA : Good (n + 1) A) (F : FnIs G (stmtAt 16) f) :
    CT G A (.st (.ref f)) [.str lead] m fun v m' => ∃ i, v = .ref i ∧ Grow m m' ∧ m'.H i = some (.list ((colsOf lead).map .int)) :=
  c_of (bs := [(Str.ofString "lead", .str lead)]) (vars := [some (.str lead), none, none, none, none, none]) hA F sc16 (by exact bind1 (fun _ _ _ _ _ _ _ _ _ _ _ _ _ => by kernel_rfl)) (by (focus repeat first | exact Binds.nil | (apply Binds.cons; (focus repeat first | with_reducible exact Put.headL | with_reducible exact Put.headC | (show Put (_ :: _) (_ :: _) _ _ _; first | with_reducible exact Put.headL | with_reducible exact Put.headC | apply Put.tail))))) fun _ _ _ _ hc =>
    FT.mono (b_columns hw ha hr hc) fun fl st' z => by obtain ⟨i, rfl, h1, h2⟩ := z; exact ⟨i, rfl, h1, h2⟩
theorem c_times {va vb : MV} {a b : Tab} (hw : WF m) (ha : IsTab m va a) (hb : IsTab m vb b) (h3a : T3 a) (h3b : T3 b) (hok : ∀ i k j, IntMulOk (at3 a i k) (at3 b k j)) (hr : GlobIs G "range" (.type "range")) (hs : GlobIs G "sum" (.builtin "sum")) (hA : Good (n + 1) A) (F : FnIs G (stmtAt 18) f) :
    CT G A (.st (.ref f)) [va, vb] m fun v m' => Grow m m' ∧ FTab m m' v (mulT a b) :=
  c_of (bs := [(Str.ofString "above", va), (Str.ofString "below", vb)]) (vars := [some va, some vb, none]) hA F sc18 (by exact bind2 (fun _ _ _ _ _ _ _ _ _ _ _ _ _ _ => by kernel_rfl)) (by (focus repeat first | exact Binds.nil | (apply Binds.cons; (focus repeat first | with_reducible exact Put.headL | with_reducible exact Put.headC | (show Put (_ :: _) (_ :: _) _ _ _; first | with_reducible exact Put.headL | with_reducible exact Put.headC | apply Put.tail))))) fun _ _ _ _ hc =>
    FT.mono (b_times hw ha hb h3a h3b hok hr hs hc) fun fl st' z => by obtain ⟨v, rfl, h1, h2⟩ := z; exact ⟨h1, h2⟩
end
structure Row where
  lead : Str
  often : Int
  deed : Str
  hidden : Int
noncomputable def IsRow (m : MH) (v : MV) (r : Row) : Prop := ∃ i, v = .ref i ∧ m.H i = some (.tup [.str r.lead, .int r.often, .str r.deed, .int r.hidden])
noncomputable def IsRows (m : MH) (v : MV) (rs : List Row) : Prop := ∃ i vs, v = .ref i ∧ m.H i = some (.list vs) ∧ All2 (IsRow m) vs rs
theorem IsRow.grow {m m' : MH} (g : Grow m m') {v : MV} {r : Row} (h : IsRow m v r) : IsRow m' v r := let ⟨i, a, b⟩ := h; ⟨i, a, g.keep _ _ b⟩
theorem IsRows.grow {m m' : MH} (g : Grow m m') {v : MV} {rs : List Row} (h : IsRows m v rs) : IsRows m' v rs := let ⟨i, vs, a, b, c⟩ := h; ⟨i, vs, a, g.keep _ _ b, c.mono fun _ _ z => z.grow g⟩
theorem zip_list {c : Cx} {target elt : Expr} {st : St} {l1 l2 : Nat} {xs ys : List MV} {n : Nat} (P : Nat → List MV → St → Prop) {Q : List MV → MH → Prop} (hx : xs.length = n) (hy : ys.length = n)
    (hl : ∀ k zs st, P k zs st → st.m.H l1 = some (.list xs) ∧ st.m.H l2 = some (.list ys)) (hP : P 0 [] st)
    (step : ∀ k zs st x y, xs[k]? = some x → ys[k]? = some y → P k zs st → AsgTo c target (.ref st.m.n) { st with m := st.m.alloc (.tup [x, y]) } fun st₁ => EvalTo c elt st₁ fun z st₂ => zs.length ≤ sizeLine ∧ P (k + 1) (zs ++ [z]) st₂)
    (fin : ∀ zs st, P n zs st → Q zs st.m) : CompN c target elt (zipSrc l1 l2) (n + 1) (zipSrc l1 l2).k0 [] st Q := by
  suffices H : ∀ j k zs st, k + j = n → P k zs st → CompN c target elt (zipSrc l1 l2) (j + 1) k zs st Q from H n 0 [] st (Nat.zero_add _) hP
  intro j
  induction j with
  | zero =>
    intro k zs st hk hp
    obtain ⟨a, b⟩ := hl k zs st hp
    exact .inr ⟨st.m, ⟨xs, ys, a, b, .inl (by omega), rfl⟩, fin zs st (by rw [← show k = n by omega]; exact hp)⟩
  | succ j ih =>
    intro k zs st hk hp
    obtain ⟨a, b⟩ := hl k zs st hp
    have h1 : k < xs.length := by omega
    have h2 : k < ys.length := by omega
    refine .inl ⟨⟨xs, ys, _, _, a, b, List.getElem?_eq_getElem h1, List.getElem?_eq_getElem h2⟩, ?_⟩
    rintro v m' k' ⟨xs', ys', x, y, e1, e2, e3, e4, rfl, rfl, rfl⟩
    rw [a] at e1; cases e1
    rw [b] at e2; cases e2
    refine fun σ h t u Qs Es I V q => step k zs st x y e3 e4 hp σ h t u Qs Es I V fun σ' h' t' st' hq I' E' => q σ' h' t' st' ?_ I' E'
    exact FT.mono hq fun z st₂ hz => ⟨hz.1, ih (k + 1) (zs ++ [z]) st₂ (by omega) hz.2⟩
noncomputable def diffs (a b : Str) : List Int := (List.range 5).map fun k : Nat => (colsOf b).getD k 0 - (colsOf a).getD k 0
noncomputable def minL : List Int → Int
  | [] => 0
  | [x] => x
  | x :: r => min x (minL r)
theorem minL_mem : ∀ {l : List Int}, l ≠ [] → minL l ∈ l
  | [], h => absurd rfl h
  | [x], _ => .head _
  | x :: y :: r, _ => by
    have := minL_mem (l := y :: r) (by simp)
    show min x (minL (y :: r)) ∈ _
    rcases Int.le_total x (minL (y :: r)) with h | h
    · rw [Int.min_eq_left h]; exact .head _
    · rw [Int.min_eq_right h]; exact .tail _ this
theorem minL_le : ∀ {l : List Int}, ∀ x ∈ l, minL l ≤ x
  | [], _, h => nomatch h
  | [y], x, h => by rw [List.mem_singleton.mp h]; exact Int.le_refl _
  | y :: z :: r, x, h => by
    show min y (minL (z :: r)) ≤ x
    rcases List.mem_cons.mp h with rfl | h
    · exact Int.min_le_left _ _
    · exact Int.le_trans (Int.min_le_right _ _) (minL_le x h)
noncomputable def testOf : Stmt → Expr
  | .While (test := t) .. => t
  | .If (test := t) .. => t
  | _ => .Constant .none 0 default
noncomputable def innerOf : Stmt → List Stmt
  | .While (body := b) .. => b
  | .For (body := b) .. => b
  | .If (body := b) .. => b
  | _ => []
noncomputable def nthOf (ss : List Stmt) (k : Nat) : Stmt := ss.getD k (.Pass default)
noncomputable def deeper (a b : Str) : Bool := decide (0 < minL (diffs a b))
noncomputable def underN (first : Str) : List Row → Nat
  | [] => 0
  | r :: rs => if deeper first r.lead then underN first rs + 1 else 0
theorem colsOf_len (x : Str) : (colsOf x).length = 5 := by simp [colsOf]
section
variable {G : GC} {A : Around} {env : Env} {own : List Addr} {m : MH}
theorem row_lead {c : Cx} {st : St} {e i : Expr} {p q q' : Pos} {v : MV} {rs : List Row} {k : Nat} {r : Row} (hc : c.Ok) (h : IsRows st.m v rs) (hk : rs[k]? = some r) (h1 : Ev c e st v st.m) (h2 : Ev c i st (.int k) st.m) (hl : rs.length < 1000) (hs : notSlice i = true := by rfl) :
    Ev c (.Subscript (.Subscript e i p) (.Constant (.int 0) 0 q) q') st (.str r.lead) st.m := by
  obtain ⟨a, vs, rfl, hv, hr⟩ := h
  obtain ⟨x, hx, b, rfl, hb⟩ := hr.get hk
  have hlen : k < rs.length := (List.getElem?_eq_some_iff.mp hk).1
  refine Ev.sub (a := .ref b) (m₁ := st.m) (m₂ := st.m) hc (Ev.sub (m₁ := st.m) (m₂ := st.m) hc h1 h2 (fun value slice hsl => idx_list hsl hv (Int.natCast_nonneg _) (by rw [Int.toNat_natCast]; exact hx) (by omega) ⟨rfl, rfl⟩) hs) Ev.int (fun value slice hsl => idx_tup hsl hb (by decide) rfl (by decide) ⟨rfl, rfl⟩)
end
section
variable {G : GC} {A : Around} {env : Env} {own : List Addr} {m : MH}
theorem w_under {v : MV} {r0 : Row} {rest : List Row} {fc : Addr} {fi n : Nat} (hr : IsRows m v (r0 :: rest)) (ha : ∀ r ∈ r0 :: rest, r.lead.cps.all (· < 128) = true) (hlen : rest.length < 100) (hA : Good (n + 1) A) (F : FnIs G (stmtAt 16) fc)
    (hg1 : GlobIs G "_law_columns" (.ref fc)) (hg2 : GlobIs G "len" (.builtin "len")) (hg3 : GlobIs G "min" (.builtin "min")) (hg4 : GlobIs G "zip" (.type "zip")) (hrange : GlobIs G "range" (.type "range")) (hc : (cxOf G A env own 17).Ok) :
    ∀ (tail pre : List Row) (w : Option MV) (m₂ : MH), rest = pre ++ tail → Grow m m₂ → m₂.H fi = some (.list ((colsOf r0.lead).map .int)) →
      WhileN (cxOf G A env own 17) (testOf (nthOf (bodyOf (stmtAt 17)) 2)) (innerOf (nthOf (bodyOf (stmtAt 17)) 2)) (tail.length + 1) ⟨[some v, some (.ref fi), some (.int pre.length), w, none, none, none, none], m₂⟩
        (fun f st' => f = .next ∧ (∃ w, st'.vars = [some v, some (.ref fi), some (.int ((pre.length + underN r0.lead tail : Nat) : Int)), w, none, none, none, none]) ∧ Grow m st'.m) := by
  intro tail
  induction tail with
  | nil =>
    intro pre w m₂ hrest hg hfi
    obtain ⟨a, vs, rfl, hv, hrr⟩ := hr.grow hg
    have hl : vs.length = rest.length + 1 := by rw [hrr.len]; rfl
    have hp : pre.length = rest.length := by rw [hrest, List.append_nil]
    refine Te.to (b := false) (m := m₂) ?_ ?_
    · apply Te.cmp hc
      · apply Ev.bin hc
        · (apply Ev.nm (by assumption); (repeat first | with_reducible exact Slot.head | (show Slot (_ :: _) (_ :: _) _ _ _; first | with_reducible exact Slot.head | apply Slot.tail)); rfl)
        · exact Ev.int
        · exact bin_add ⟨rfl, rfl⟩
      · apply Ev.call hc
        · (apply Ev.glob (by assumption); (focus repeat first | with_reducible exact Glob.head | (show Glob (_ :: _) _; first | with_reducible exact Glob.head | apply Glob.tail)); assumption)
        · apply Evs.cons
          · (apply Ev.nm (by assumption); (repeat first | with_reducible exact Slot.head | (show Slot (_ :: _) (_ :: _) _ _ _; first | with_reducible exact Slot.head | apply Slot.tail)); rfl)
          · exact Evs.nil
          · rfl
        · exact keeps_builtin
        · exact call_len hv (by omega) ⟨rfl, rfl⟩
      · exact cmp_lt ⟨by rw [hl, hp, decide_eq_false (by omega)], rfl⟩
    · exact ⟨rfl, ⟨w, by simp [underN]⟩, hg⟩
  | cons r tail ih =>
    intro pre w m₂ hrest hg hfi
    obtain ⟨a, vs, rfl, hv, hrr⟩ := hr.grow hg
    have hl : vs.length = rest.length + 1 := by rw [hrr.len]; rfl
    have hp : rest.length = pre.length + (tail.length + 1) := by rw [hrest, List.length_append]; rfl
    have hat : (r0 :: rest)[pre.length + 1]? = some r := by rw [List.getElem?_cons_succ, hrest, List.getElem?_append_right (Nat.le_refl _), Nat.sub_self]; rfl
    have hmem : r ∈ r0 :: rest := List.mem_of_getElem? hat
    refine Te.to (b := true) (m := m₂) ?_ ?_
    · apply Te.cmp hc
      · apply Ev.bin hc
        · (apply Ev.nm (by assumption); (repeat first | with_reducible exact Slot.head | (show Slot (_ :: _) (_ :: _) _ _ _; first | with_reducible exact Slot.head | apply Slot.tail)); rfl)
        · exact Ev.int
        · exact bin_add ⟨rfl, rfl⟩
      · apply Ev.call hc
        · (apply Ev.glob (by assumption); (focus repeat first | with_reducible exact Glob.head | (show Glob (_ :: _) _; first | with_reducible exact Glob.head | apply Glob.tail)); assumption)
        · apply Evs.cons
          · (apply Ev.nm (by assumption); (repeat first | with_reducible exact Slot.head | (show Slot (_ :: _) (_ :: _) _ _ _; first | with_reducible exact Slot.head | apply Slot.tail)); rfl)
          · exact Evs.nil
          · rfl
        · exact keeps_builtin
        · exact call_len hv (by omega) ⟨rfl, rfl⟩
      · exact cmp_lt ⟨by rw [hl, decide_eq_true (by omega)], rfl⟩
    · dsimp only
      refine xs_cons ?_
      refine x_assign hc ?_
      refine ev_call hc ?_
      refine ev_glob hc (by (focus repeat first | with_reducible exact Glob.head | (show Glob (_ :: _) _; first | with_reducible exact Glob.head | apply Glob.tail))) hg1 ?_
      refine args_cons (Ev.to (row_lead hc (hr.grow hg) (k := pre.length + 1) (r := r) hat (by (apply Ev.nm (by assumption); (repeat first | with_reducible exact Slot.head | (show Slot (_ :: _) (_ :: _) _ _ _; first | with_reducible exact Slot.head | apply Slot.tail)); rfl)) ?_ (by simp; omega)) ?_)
      · apply Ev.bin hc
        · (apply Ev.nm (by assumption); (repeat first | with_reducible exact Slot.head | (show Slot (_ :: _) (_ :: _) _ _ _; first | with_reducible exact Slot.head | apply Slot.tail)); rfl)
        · exact Ev.int
        · exact bin_add ⟨by rfl, rfl⟩
      refine args_nil ⟨keeps_stat F.keep, ?_⟩
      refine HT.mono (c_columns hg.wf (ha r hmem) hrange hA F).ht ?_
      rintro _ m₃ ⟨si, rfl, hg3', hsi⟩
      refine ⟨_, by (focus repeat first | with_reducible exact Put.headL | with_reducible exact Put.headC | (show Put (_ :: _) (_ :: _) _ _ _; first | with_reducible exact Put.headL | with_reducible exact Put.headC | apply Put.tail)), ?_⟩
      dsimp only
      have hfi₃ := hg3'.keep _ _ hfi
      refine xs_cons (x_if (te_cmp hc (ev_call hc (ev_glob hc (by (focus repeat first | with_reducible exact Glob.head | (show Glob (_ :: _) _; first | with_reducible exact Glob.head | apply Glob.tail))) hg3 (args_cons ?_)))))
      apply ev_comp hc
      case S => exact ⟨rfl, by decide +kernel, by decide +kernel, by decide +kernel⟩
      case hV => (focus repeat first | with_reducible exact CompVars.nil | apply CompVars.loc | apply CompVars.cell | apply CompVars.glob | (apply CompVars.free; (focus repeat first | with_reducible exact Slot.head | (show Slot (_ :: _) (_ :: _) _ _ _; first | with_reducible exact Slot.head | apply Slot.tail)); (first | exact .inl rfl | exact .inr (.inl rfl) | exact .inr (.inr rfl) | exact .inr rfl)))
      refine ie_zip hc (ev_glob hc (by (focus repeat first | with_reducible exact Glob.head | (show Glob (_ :: _) _; first | with_reducible exact Glob.head | apply Glob.tail))) hg4 ⟨rfl, ev_name hc (by (focus repeat first | with_reducible exact Slot.head | (show Slot (_ :: _) (_ :: _) _ _ _; first | with_reducible exact Slot.head | apply Slot.tail))) (by (first | exact .inl rfl | exact .inr (.inl rfl) | exact .inr (.inr rfl) | exact .inr rfl)) (ev_name hc (by (focus repeat first | with_reducible exact Slot.head | (show Slot (_ :: _) (_ :: _) _ _ _; first | with_reducible exact Slot.head | apply Slot.tail))) (by (first | exact .inl rfl | exact .inr (.inl rfl) | exact .inr (.inr rfl) | exact .inr rfl)) ⟨fi, si, _, _, rfl, rfl, hfi₃, hsi, rfl, fun _ => rfl, rfl, 6, fun env₁ own₁ fp₁ hc₁ => ?_⟩)⟩)
      refine zip_list (n := 5) (xs := (colsOf r0.lead).map .int) (ys := (colsOf r.lead).map .int) (fun k zs st => (∃ w1 w2, st.vars = [none, w1, w2]) ∧ Grow m₃ st.m ∧ zs = ((diffs r0.lead r.lead).take k).map .int) (by rw [List.length_map, colsOf_len]) (by rw [List.length_map, colsOf_len])
        (fun k zs st hp => ⟨hp.2.1.keep _ _ hfi₃, hp.2.1.keep _ _ hsi⟩) ⟨⟨_, _, rfl⟩, .refl hg3'.wf, rfl⟩ ?_ ?_
      · rintro k zs ⟨vars, m₄⟩ x y hx hy ⟨⟨w1, w2, hv'⟩, hg4', hz⟩
        dsimp only at hv' hg4' hz hx hy
        subst hv'
        have hk : k < 5 := by have := (List.getElem?_eq_some_iff.mp hx).1; rwa [List.length_map, colsOf_len] at this
        rw [ints_at (by rw [colsOf_len]; exact hk)] at hx hy
        cases hx; cases hy
        refine asg_tuple hc₁ (alloc_new _ _) rfl ?_
        refine asg_name hc₁ ⟨_, by (focus repeat first | with_reducible exact Put.headL | with_reducible exact Put.headC | (show Put (_ :: _) (_ :: _) _ _ _; first | with_reducible exact Put.headL | with_reducible exact Put.headC | apply Put.tail)), ?_⟩
        refine asg_name hc₁ ⟨_, by (focus repeat first | with_reducible exact Put.headL | with_reducible exact Put.headC | (show Put (_ :: _) (_ :: _) _ _ _; first | with_reducible exact Put.headL | with_reducible exact Put.headC | apply Put.tail)), ?_⟩
        refine Ev.to (v := .int ((colsOf r.lead).getD k 0 - (colsOf r0.lead).getD k 0)) (m := m₄.alloc (.tup [.int ((colsOf r0.lead).getD k 0), .int ((colsOf r.lead).getD k 0)])) ?_ ?_
        · apply Ev.bin hc₁
          · (apply Ev.nm (by assumption); (repeat first | with_reducible exact Slot.head | (show Slot (_ :: _) (_ :: _) _ _ _; first | with_reducible exact Slot.head | apply Slot.tail)); rfl)
          · (apply Ev.nm (by assumption); (repeat first | with_reducible exact Slot.head | (show Slot (_ :: _) (_ :: _) _ _ _; first | with_reducible exact Slot.head | apply Slot.tail)); rfl)
          · exact bin_sub ⟨rfl, rfl⟩
        · refine ⟨by rw [hz, List.length_map, List.length_take]; have := sizeLine_big; omega, ⟨_, _, rfl⟩, hg4'.snoc _, ?_⟩
          unfold diffs
          rw [take_snoc _ _ _ hk, List.map_append, hz]; rfl
      · rintro zs ⟨vars, m₄⟩ ⟨_, hg4', hz⟩
        dsimp only at hg4' hz
        have hz' : zs = (diffs r0.lead r.lead).map .int := by rw [hz, List.take_of_length_le (by simp [diffs])]
        have hne : diffs r0.lead r.lead ≠ [] := by simp [diffs]
        refine args_nil ⟨keeps_builtin, ?_⟩
        refine call_min hc.hand (ns := diffs r0.lead r.lead) (by rw [hz']; exact alloc_new _ _) (minL_mem hne) minL_le ?_
        refine ev_int ?_
        refine cmp_le (tru_bool ?_)
        have hgg := hg.trans (hg3'.trans (hg4'.snoc (.list zs)))
        cases hd : decide (minL (diffs r0.lead r.lead) ≤ 0) with
        | true =>
          have hd' : deeper r0.lead r.lead = false := by unfold deeper; rw [decide_eq_false]; exact Int.not_lt.mpr (of_decide_eq_true hd)
          refine xs_cons (x_brk ?_)
          exact ⟨rfl, ⟨some (.ref si), by simp only [underN, hd', Bool.false_eq_true, if_false, Nat.add_zero]⟩, hgg⟩
        | false =>
          have hd' : deeper r0.lead r.lead = true := by unfold deeper; rw [decide_eq_true]; exact Int.not_le.mp (of_decide_eq_false hd)
          refine xs_nil ?_
          dsimp only
          refine xs_cons (Ex.to (f := .next) (st' := ⟨[some (.ref a), some (.ref fi), some (.int ((pre.length : Int) + 1)), some (.ref si), none, none, none, none], m₄.alloc (.list zs)⟩) ?_ ?_)
          · apply Ex.aug hc
            · (focus repeat first | with_reducible exact Slot.head | (show Slot (_ :: _) (_ :: _) _ _ _; first | with_reducible exact Slot.head | apply Slot.tail))
            · (first | exact .inl rfl | exact .inr (.inl rfl) | exact .inr (.inr rfl) | exact .inr rfl)
            · exact Ev.int
            · exact in_add ⟨rfl, rfl⟩
            · (focus repeat first | with_reducible exact Put.headL | with_reducible exact Put.headC | (show Put (_ :: _) (_ :: _) _ _ _; first | with_reducible exact Put.headL | with_reducible exact Put.headC | apply Put.tail))
          · refine xs_nil ?_
            dsimp only
            have := ih (pre ++ [r]) (some (.ref si)) (m₄.alloc (.list zs)) (by rw [hrest, List.append_assoc]; rfl) hgg (((hg3'.trans (hg4'.snoc (.list zs)))).keep _ _ hfi)
            have e : (pre ++ [r]).length + underN r0.lead tail = pre.length + underN r0.lead (r :: tail) := by simp only [underN, hd', if_true, List.length_append, List.length_singleton]; omega
            have e2 : (((pre ++ [r]).length : Nat) : Int) = (pre.length : Int) + 1 := by rw [List.length_append]; rfl
            rw [e, e2] at this
            exact this
theorem b_under {v : MV} {r0 : Row} {rest : List Row} {fc : Addr} {n : Nat} (hw : WF m) (hr : IsRows m v (r0 :: rest)) (ha : ∀ r ∈ r0 :: rest, r.lead.cps.all (· < 128) = true) (hlen : rest.length < 100) (hA : Good (n + 1) A) (F : FnIs G (stmtAt 16) fc)
    (hg1 : GlobIs G "_law_columns" (.ref fc)) (hg2 : GlobIs G "len" (.builtin "len")) (hg3 : GlobIs G "min" (.builtin "min")) (hg4 : GlobIs G "zip" (.type "zip")) (hrange : GlobIs G "range" (.type "range")) (hc : (cxOf G A env own 17).Ok) :
    ExecsTo (cxOf G A env own 17) (bodyOf (stmtAt 17)) ⟨[some v, none, none, none, none, none, none, none], m⟩ fun f st' => f = .ret (.int (underN r0.lead rest)) ∧ Grow m st'.m := by
  refine xs_cons ?_
  refine x_assign hc ?_
  refine ev_call hc ?_
  refine ev_glob hc (by (focus repeat first | with_reducible exact Glob.head | (show Glob (_ :: _) _; first | with_reducible exact Glob.head | apply Glob.tail))) hg1 ?_
  refine args_cons (Ev.to (row_lead hc hr (k := 0) (r := r0) rfl (by (apply Ev.nm (by assumption); (repeat first | with_reducible exact Slot.head | (show Slot (_ :: _) (_ :: _) _ _ _; first | with_reducible exact Slot.head | apply Slot.tail)); rfl)) Ev.int (by simp; omega)) ?_)
  refine args_nil ⟨keeps_stat F.keep, ?_⟩
  refine HT.mono (c_columns hw (ha r0 (.head _)) hrange hA F).ht ?_
  rintro _ m₁ ⟨fi, rfl, hgr, hfi⟩
  refine ⟨_, by (focus repeat first | with_reducible exact Put.headL | with_reducible exact Put.headC | (show Put (_ :: _) (_ :: _) _ _ _; first | with_reducible exact Put.headL | with_reducible exact Put.headC | apply Put.tail)), ?_⟩
  dsimp only
  refine xs_cons (Ex.to (f := .next) (st' := ⟨[some v, some (.ref fi), some (.int 0), none, none, none, none, none], m₁⟩) ?_ ?_)
  · apply Ex.set hc
    · exact Ev.int
    · (focus repeat first | with_reducible exact Put.headL | with_reducible exact Put.headC | (show Put (_ :: _) (_ :: _) _ _ _; first | with_reducible exact Put.headL | with_reducible exact Put.headC | apply Put.tail))
  dsimp only
  refine xs_cons (FT.mono (x_while (rest.length + 1) (w_under hr ha hlen hA F hg1 hg2 hg3 hg4 hrange hc rest [] none m₁ rfl hgr hfi)) ?_)
  rintro f ⟨vars, m₂⟩ ⟨rfl, ⟨w, hv⟩, hg⟩
  dsimp only at hv hg
  subst hv
  dsimp only
  refine xs_cons (Ex.to (f := .ret (.int ((([] : List Row).length + underN r0.lead rest : Nat) : Int))) (st' := ⟨_, m₂⟩) (Ex.ret (m := m₂) (by (apply Ev.nm (by assumption); (repeat first | with_reducible exact Slot.head | (show Slot (_ :: _) (_ :: _) _ _ _; first | with_reducible exact Slot.head | apply Slot.tail)); rfl))) ?_)
  exact ⟨by rw [List.length_nil, Nat.zero_add], hg⟩
end
noncomputable def targetOf : Stmt → Expr
  | .For (target := t) .. => t
  | _ => .Constant .none 0 default
noncomputable def elseOf : Stmt → List Stmt
  | .For (orelse := t) .. => t
  | _ => []
theorem AsgTo.mono {c : Cx} {e : Expr} {v : MV} {st : St} {Q Q' : St → Prop} (h : AsgTo c e v st Q) (k : ∀ s, Q s → Q' s) : AsgTo c e v st Q' :=
  fun σ hh t u Qs Es I V q => h σ hh t u Qs Es I V fun σ' h' t' st' z => q σ' h' t' st' (k _ z)
theorem ForN.mono {c : Cx} {target : Expr} {body orelse : List Stmt} {X : Src} {n : Nat} : ∀ {k : X.κ} {st : St} {Q Q' : MF → St → Prop}, ForN c target body orelse X n k st Q → (∀ f s, Q f s → Q' f s) → ForN c target body orelse X n k st Q' := by
  induction n with
  | zero => exact fun h _ => h.elim
  | succ n ih =>
    intro k st Q Q' h hq
    refine h.imp (fun z => ⟨z.1, fun v m' k' hs => AsgTo.mono (z.2 v m' k' hs) fun st₁ y => FT.mono y fun f st₂ y => ?_⟩) fun ⟨m', z, y⟩ => ⟨m', z, FT.mono y hq⟩
    cases f with
    | next => exact ih y hq
    | cont => exact ih y hq
    | brk => exact hq _ _ y
    | ret v => exact hq _ _ y
theorem chr_inj {a b : Nat} (h : chr a = chr b) : a = b := by
  have : #[a] = #[b] := congrArg Str.cps h
  simpa using this
section
variable {G : GC} {A : Around} {env : Env} {own : List Addr} {m : MH}
theorem f_indexOf {y : Str} {ch k0 : Nat} {u : Tok} (hb : NB G) (hu : u ≠ 0) (hut : u ≤ G.t0) (hk0 : y.cps[k0]? = some ch) (hlt : ∀ j, j < k0 → y.cps[j]? ≠ some ch) (hc : (cxOf G A env own 11).Ok) :
    ∀ (d k : Nat) (w1 w2 : Option MV) (m₂ : MH), k + d = k0 → Grow m m₂ → ForN (cxOf G A env own 11) (targetOf (nthOf (bodyOf (stmtAt 11)) 0)) (innerOf (nthOf (bodyOf (stmtAt 11)) 0)) (elseOf (nthOf (bodyOf (stmtAt 11)) 0)) (enumSrc G.t0 y) (d + 1) k ⟨[some (.str y), some (.strT (chr ch) u), w1, w2, none, none], m₂⟩
      (fun f st' => f = .ret (.int k0) ∧ Grow m st'.m) := by
  intro d
  induction d with
  | zero =>
    intro k w1 w2 m₂ hk hg
    have hkk : k = k0 := by omega
    subst hkk
    refine .inl ⟨⟨ch, hk0⟩, ?_⟩
    rintro v m' k' ⟨c, tk, hcc, htk, rfl, rfl, rfl⟩
    rw [hk0] at hcc; cases hcc
    refine asg_tuple hc (alloc_new _ _) rfl ?_
    refine asg_name hc ⟨_, by (focus repeat first | with_reducible exact Put.headL | with_reducible exact Put.headC | (show Put (_ :: _) (_ :: _) _ _ _; first | with_reducible exact Put.headL | with_reducible exact Put.headC | apply Put.tail)), ?_⟩
    refine asg_name hc ⟨_, by (focus repeat first | with_reducible exact Put.headL | with_reducible exact Put.headC | (show Put (_ :: _) (_ :: _) _ _ _; first | with_reducible exact Put.headL | with_reducible exact Put.headC | apply Put.tail)), ?_⟩
    have hfin : ExecsTo (cxOf G A env own 11) (innerOf (nthOf (innerOf (nthOf (bodyOf (stmtAt 11)) 0)) 0)) ⟨[some (.str y), some (.strT (chr ch) u), some (.int k), some (.strT (chr ch) tk), none, none], m₂.alloc (.tup [.int k, .strT (chr ch) tk])⟩ (fun f st' => f = .ret (.int k) ∧ Grow m st'.m) :=
      (Exs.stop (Ex.ret (m := m₂.alloc (.tup [.int k, .strT (chr ch) tk])) (by (apply Ev.nm (by assumption); (repeat first | with_reducible exact Slot.head | (show Slot (_ :: _) (_ :: _) _ _ _; first | with_reducible exact Slot.head | apply Slot.tail)); rfl))) (fun z => nomatch z)).to ⟨rfl, hg.snoc _⟩
    refine xs_cons (x_if (te_bool (all_or (te_cmp hc (ev_name hc (by (focus repeat first | with_reducible exact Slot.head | (show Slot (_ :: _) (_ :: _) _ _ _; first | with_reducible exact Slot.head | apply Slot.tail))) (by (first | exact .inl rfl | exact .inr (.inl rfl) | exact .inr (.inr rfl) | exact .inr rfl)) (ev_name hc (by (focus repeat first | with_reducible exact Slot.head | (show Slot (_ :: _) (_ :: _) _ _ _; first | with_reducible exact Slot.head | apply Slot.tail))) (by (first | exact .inl rfl | exact .inr (.inl rfl) | exact .inr (.inr rfl) | exact .inr rfl)) (cmp_is hb (Nat.ne_of_gt (Nat.lt_of_le_of_lt (Nat.zero_le _) htk)) hu (Nat.ne_of_gt (Nat.lt_of_le_of_lt hut htk)) (fun z => absurd rfl z) fun _ b => ?_)))))))
    refine tru_bool ?_
    cases b with
    | true => exact FT.mono hfin fun f st' z => by rcases z with ⟨rfl, z⟩; exact ⟨rfl, z⟩
    | false =>
      refine all_or (te_cmp hc (ev_name hc (by (focus repeat first | with_reducible exact Slot.head | (show Slot (_ :: _) (_ :: _) _ _ _; first | with_reducible exact Slot.head | apply Slot.tail))) (by (first | exact .inl rfl | exact .inr (.inl rfl) | exact .inr (.inr rfl) | exact .inr rfl)) (ev_name hc (by (focus repeat first | with_reducible exact Slot.head | (show Slot (_ :: _) (_ :: _) _ _ _; first | with_reducible exact Slot.head | apply Slot.tail))) (by (first | exact .inl rfl | exact .inr (.inl rfl) | exact .inr (.inr rfl) | exact .inr rfl)) (cmp_eqsT (tru_bool ?_)))))
      rw [beq_self_eq_true]
      exact FT.mono hfin fun f st' z => by rcases z with ⟨rfl, z⟩; exact ⟨rfl, z⟩
  | succ d ih =>
    intro k w1 w2 m₂ hk hg
    have hkl : k < y.cps.size := by
      have := (Array.getElem?_eq_some_iff.mp hk0).1
      omega
    refine .inl ⟨⟨y.cps[k], Array.getElem?_eq_getElem hkl⟩, ?_⟩
    rintro v m' k' ⟨c, tk, hcc, htk, rfl, rfl, rfl⟩
    have hne : chr c ≠ chr ch := fun e => hlt k (by omega) (by rw [hcc, chr_inj e])
    refine asg_tuple hc (alloc_new _ _) rfl ?_
    refine asg_name hc ⟨_, by (focus repeat first | with_reducible exact Put.headL | with_reducible exact Put.headC | (show Put (_ :: _) (_ :: _) _ _ _; first | with_reducible exact Put.headL | with_reducible exact Put.headC | apply Put.tail)), ?_⟩
    refine asg_name hc ⟨_, by (focus repeat first | with_reducible exact Put.headL | with_reducible exact Put.headC | (show Put (_ :: _) (_ :: _) _ _ _; first | with_reducible exact Put.headL | with_reducible exact Put.headC | apply Put.tail)), ?_⟩
    refine xs_cons (x_if (te_bool (all_or (te_cmp hc (ev_name hc (by (focus repeat first | with_reducible exact Slot.head | (show Slot (_ :: _) (_ :: _) _ _ _; first | with_reducible exact Slot.head | apply Slot.tail))) (by (first | exact .inl rfl | exact .inr (.inl rfl) | exact .inr (.inr rfl) | exact .inr rfl)) (ev_name hc (by (focus repeat first | with_reducible exact Slot.head | (show Slot (_ :: _) (_ :: _) _ _ _; first | with_reducible exact Slot.head | apply Slot.tail))) (by (first | exact .inl rfl | exact .inr (.inl rfl) | exact .inr (.inr rfl) | exact .inr rfl)) (cmp_is hb (Nat.ne_of_gt (Nat.lt_of_le_of_lt (Nat.zero_le _) htk)) hu (Nat.ne_of_gt (Nat.lt_of_le_of_lt hut htk)) (fun _ => tru_bool ?_) (fun z => absurd z hne))))))))
    refine all_or (te_cmp hc (ev_name hc (by (focus repeat first | with_reducible exact Slot.head | (show Slot (_ :: _) (_ :: _) _ _ _; first | with_reducible exact Slot.head | apply Slot.tail))) (by (first | exact .inl rfl | exact .inr (.inl rfl) | exact .inr (.inr rfl) | exact .inr rfl)) (ev_name hc (by (focus repeat first | with_reducible exact Slot.head | (show Slot (_ :: _) (_ :: _) _ _ _; first | with_reducible exact Slot.head | apply Slot.tail))) (by (first | exact .inl rfl | exact .inr (.inl rfl) | exact .inr (.inr rfl) | exact .inr rfl)) (cmp_eqsT (tru_bool ?_)))))
    rw [beq_eq_false_iff_ne.mpr hne]
    exact all_or_nil (xs_nil (xs_nil (ih (k + 1) _ _ _ (by omega) (hg.snoc _))))
theorem b_indexOf {y : Str} {ch k0 : Nat} {u : Tok} (hb : NB G) (hg : GlobIs G (Str.ofString "enumerate") (.type "enumerate")) (ha : y.cps.all (· < 128) = true) (hu : u ≠ 0) (hut : u ≤ G.t0) (hk0 : y.cps[k0]? = some ch) (hlt : ∀ j, j < k0 → y.cps[j]? ≠ some ch) (hc : (cxOf G A env own 11).Ok) (hw : WF m) :
    ExecsTo (cxOf G A env own 11) (bodyOf (stmtAt 11)) ⟨[some (.str y), some (.strT (chr ch) u), none, none, none, none], m⟩ fun fl st' => outOf (fun v m' => v = .int k0 ∧ Grow m m') fl st'.m := by
  refine xs_cons (x_for hc (ie_enum hc (ev_glob hc (by (focus repeat first | with_reducible exact Glob.head | (show Glob (_ :: _) _; first | with_reducible exact Glob.head | apply Glob.tail))) hg ⟨rfl, ev_name hc (by (focus repeat first | with_reducible exact Slot.head | (show Slot (_ :: _) (_ :: _) _ _ _; first | with_reducible exact Slot.head | apply Slot.tail))) (by (first | exact .inl rfl | exact .inr (.inl rfl) | exact .inr (.inr rfl) | exact .inr rfl)) ⟨y, rfl, ha, fun _ => rfl, k0 + 1, ?_⟩⟩)))
  refine ForN.mono (f_indexOf hb hu hut hk0 hlt hc k0 0 none none m (by omega) (.refl hw)) ?_
  rintro f st' ⟨rfl, z⟩
  exact ⟨rfl, z⟩
end
theorem sc11 : ScopeOk (scopeOf (stmtAt 11)) := by exact ⟨rfl, rfl, rfl, by decide +kernel, by decide +kernel, by decide +kernel, by decide +kernel, by decide +kernel⟩
theorem c_indexOf {G : GC} {A : Around} {m : MH} {f : Addr} {n : Nat} {y : Str} {ch k0 : Nat} {u : Tok} (hb : NB G) (hg : GlobIs G (Str.ofString "enumerate") (.type "enumerate")) (ha : y.cps.all (· < 128) = true) (hu : u ≠ 0) (hut : u ≤ G.t0) (hk0 : y.cps[k0]? = some ch) (hlt : ∀ j, j < k0 → y.cps[j]? ≠ some ch)
    (hA : Good (n + 1) A) (F : FnIs G (stmtAt 11) f) (hw : WF m) : CT G A (.st (.ref f)) [.str y, .strT (chr ch) u] m fun v m' => v = .int k0 ∧ Grow m m' :=
  c_of (bs := [(Str.ofString "a", .str y), (Str.ofString "b", .strT (chr ch) u)]) (vars := [some (.str y), some (.strT (chr ch) u), none, none, none, none]) hA F sc11 (by exact bind2 (fun _ _ _ _ _ _ _ _ _ _ _ _ _ _ => by kernel_rfl)) (by (focus repeat first | exact Binds.nil | (apply Binds.cons; (focus repeat first | with_reducible exact Put.headL | with_reducible exact Put.headC | (show Put (_ :: _) (_ :: _) _ _ _; first | with_reducible exact Put.headL | with_reducible exact Put.headC | apply Put.tail))))) fun _ _ _ _ hc => b_indexOf hb hg ha hu hut hk0 hlt hc hw
theorem sc17 : ScopeOk (scopeOf (stmtAt 17)) := by exact ⟨rfl, rfl, rfl, by decide +kernel, by decide +kernel, by decide +kernel, by decide +kernel, by decide +kernel⟩
section
variable {G : GC} {A : Around} {m : MH} {f : Addr} {n : Nat}
theorem c_under {v : MV} {r0 : Row} {rest : List Row} {fc : Addr} (hw : WF m) (hr : IsRows m v (r0 :: rest)) (ha : ∀ r ∈ r0 :: rest, r.lead.cps.all (· < 128) = true) (hlen : rest.length < 100) (hA : Good (n + 1 + 1) A) (F : FnIs G (stmtAt 17) f) (Fc : FnIs G (stmtAt 16) fc)
    (hg1 : GlobIs G "_law_columns" (.ref fc)) (hg2 : GlobIs G "len" (.builtin "len")) (hg3 : GlobIs G "min" (.builtin "min")) (hg4 : GlobIs G "zip" (.type "zip")) (hrange : GlobIs G "range" (.type "range")) :
    CT G A (.st (.ref f)) [v] m fun y m' => y = .int (underN r0.lead rest) ∧ Grow m m' :=
  c_of (bs := [(Str.ofString "rows", v)]) (vars := [some v, none, none, none, none, none, none, none]) hA F sc17 (by exact bind1 (fun _ _ _ _ _ _ _ _ _ _ _ _ _ => by kernel_rfl)) (by (focus repeat first | exact Binds.nil | (apply Binds.cons; (focus repeat first | with_reducible exact Put.headL | with_reducible exact Put.headC | (show Put (_ :: _) (_ :: _) _ _ _; first | with_reducible exact Put.headL | with_reducible exact Put.headC | apply Put.tail))))) fun _ _ _ hA' hc =>
    FT.mono (b_under hw hr ha hlen hA' Fc hg1 hg2 hg3 hg4 hrange hc) fun fl st' z => by obtain ⟨rfl, h⟩ := z; exact ⟨rfl, h⟩
end
noncomputable abbrev Pt (c : Cx) (e : Option Expr) (st : St) (k : Option Int) (m : MH) : Prop := PartTo c e st fun y st' => y = k ∧ st' = ⟨st.vars, m⟩
section
variable {c : Cx} {st : St} {m m₁ m₂ m₃ m₄ : MH} {p : Pos}
theorem Pt.none : Pt c none st none st.m := part_none ⟨rfl, rfl⟩
theorem Pt.some {e : Expr} {i : Int} (h : Ev c e st (.int i) m) : Pt c (some e) st (some i) m := part_some (h.to ⟨i, rfl, rfl, rfl⟩)
theorem Pt.to {e : Option Expr} {k : Option Int} {K : Option Int → St → Prop} (h : Pt c e st k m) (hq : K k ⟨st.vars, m⟩) : PartTo c e st K := FT.mono h fun _ _ z => by rw [z.1, z.2]; exact hq
theorem Ev.slice {o : Expr} {lower upper step : Option Expr} {q : Pos} {ov v : MV} {lo hi sp : Option Int} (hc : c.Ok) (h1 : Ev c o st ov m₁) (h2 : Pt c lower ⟨st.vars, m₁⟩ lo m₂) (h3 : Pt c upper ⟨st.vars, m₂⟩ hi m₃) (h4 : Pt c step ⟨st.vars, m₃⟩ sp m₄)
    (h5 : SliceT c.G c.A ov lo hi sp m₄ fun y m' => y = v ∧ m' = m) {ops : Value → Value → List Value} (hsub : ∀ o i, subscripted (.Slice lower upper step q) false o i = operate (ops o i) (getItem o i)) : Ev c (.Subscript o (.Slice lower upper step q) p) st v m :=
  ⟨ev_slice hc (h1.to (h2.to (h3.to (h4.to (fun σ h t u sl vl vu vs Qs Es I V a b d e K => h5 σ h t u sl vl vu vs Qs Es I V a b d e fun σ' h' t' v' y m' hq => K σ' h' t' v' y m' ⟨hq.1, by rw [hq.2]⟩))))) hsub⟩
end
theorem pick_mid {us : Array Value} {a b : Nat} (hab : a ≤ b) (hb : b ≤ us.size) : (slicePick us (some (a : Int)) (some (b : Int)) none).toList = (us.toList.drop a).take (b - a) := by
  have e : sliceBounds (some (a : Int)) (some (b : Int)) none us.size = ((a : Int), (b : Int), 1) := by
    simp only [sliceBounds, Option.getD_none, show (1 : Int) > 0 by decide, if_true, if_neg (show ¬ ((a : Int) < 0) by omega), if_neg (show ¬ ((b : Int) < 0) by omega)]
    congr 1
    · rw [Int.min_eq_left (by omega), Int.max_eq_right (by omega)]
    · rw [Int.min_eq_left (by omega), Int.max_eq_right (by omega)]
  rw [kmk_pick_nat _ e]
theorem pick_tail {us : Array Value} {a : Nat} (ha : a ≤ us.size) : (slicePick us (some (a : Int)) none none).toList = us.toList.drop a := by
  have e : sliceBounds (some (a : Int)) none none us.size = ((a : Int), (us.size : Int), 1) := by
    simp only [sliceBounds, Option.getD_none, show (1 : Int) > 0 by decide, if_true, if_neg (show ¬ ((a : Int) < 0) by omega)]
    rw [Int.min_eq_left (by omega), Int.max_eq_right (by omega)]
  rw [kmk_pick_nat _ e]
  show (us.toList.drop a).take (us.size - a) = _
  exact List.take_of_length_le (by rw [List.length_drop, Array.length_toList]; exact Nat.le_refl _)
theorem slice_mid {G : GC} {A : Around} {m : MH} {i : Nat} {xs : List MV} {a b : Nat} {Q : MV → MH → Prop} (hx : m.H i = some (.list xs)) (hl : xs.length ≤ 1000) (hab : a ≤ b) (hb : b ≤ xs.length) (hq : Q (.ref m.n) (m.alloc (.list ((xs.drop a).take (b - a))))) : SliceT G A (.ref i) (some (a : Int)) (some (b : Int)) none m Q :=
  slice_list hx (Nat.le_trans hl sizeLine_big) (by simp) (fun N σ us R => by rw [pick_mid hab (by rw [R.size]; exact hb)]; exact (R.drop a).take _) hq
theorem slice_tail {G : GC} {A : Around} {m : MH} {i : Nat} {xs : List MV} {a : Nat} {Q : MV → MH → Prop} (hx : m.H i = some (.list xs)) (hl : xs.length ≤ 1000) (ha : a ≤ xs.length) (hq : Q (.ref m.n) (m.alloc (.list (xs.drop a)))) : SliceT G A (.ref i) (some (a : Int)) none none m Q :=
  slice_list hx (Nat.le_trans hl sizeLine_big) (by simp) (fun N σ us R => by rw [pick_tail (by rw [R.size]; exact ha)]; exact R.drop a) hq
noncomputable def Row.data (r : Row) : PyData := .tuple [.str r.lead, .int r.often, .str r.deed, .int r.hidden]
theorem IsRow.rd {m : MH} {v : MV} {r : Row} (h : IsRow m v r) : Rd m v r.data := by
  obtain ⟨i, rfl, hi⟩ := h
  exact .tup hi (.cons (.str _) (.cons (.int _) (.cons (.str _) (.cons (.int _) .nil))))
theorem rows_rd {m : MH} {vs : List MV} {rs : List Row} (h : All2 (IsRow m) vs rs) : RdAll m vs (rs.map Row.data) := by
  induction h with
  | nil => exact .nil
  | cons h _ ih => exact .cons h.rd ih
theorem rows_lay (rs : List Row) (hs : ∀ r ∈ rs, PyData.strOk r.lead = true ∧ PyData.strOk r.deed = true) : PyData.canLayAll0 (rs.map Row.data) = true ∧ PyData.depthAll (rs.map Row.data) ≤ 1 := by
  induction rs with
  | nil => exact ⟨rfl, Nat.zero_le _⟩
  | cons r rs ih =>
    have ih := ih fun r h => hs r (.tail _ h)
    have h := hs r (.head _)
    rw [List.map_cons]
    exact ⟨by simp [PyData.canLayAll0, ih.1, Row.data, PyData.canLay0, h.1, h.2], by simp [PyData.depthAll, Row.data, PyData.depth]; omega⟩
theorem rows_shaped (rs : List Row) (hs : ∀ r ∈ rs, PyData.strOk r.lead = true ∧ PyData.strOk r.deed = true) : SeqAt.shaped (.list (rs.map Row.data)) = true := by
  have := rows_lay rs hs
  simp only [SeqAt.shaped, PyData.canLay0, PyData.depth, this.1, Bool.true_and]
  exact decide_eq_true (by omega)
theorem All2.take {α β : Type} {R : α → β → Prop} {as : List α} {bs : List β} (h : All2 R as bs) : ∀ n, All2 R (as.take n) (bs.take n) := by
  induction h with
  | nil => intro n; rw [List.take_nil, List.take_nil]; exact .nil
  | cons h r ih => intro n; cases n with
    | zero => exact .nil
    | succ n => exact .cons h (ih n)
theorem All2.drop {α β : Type} {R : α → β → Prop} {as : List α} {bs : List β} (h : All2 R as bs) : ∀ n, All2 R (as.drop n) (bs.drop n) := by
  induction h with
  | nil => intro n; rw [List.drop_nil, List.drop_nil]; exact .nil
  | cons h r ih => intro n; cases n with
    | zero => exact .cons h r
    | succ n => exact ih n
structure PRow where
  bits : List Bool
  often : Nat
  p : Nat
  plus : Bool
  q : Nat
  hid : Bool
noncomputable def leadOf (bits : List Bool) : Str := ⟨(bits.map fun b => if b then 9 else 32).toArray⟩
noncomputable def deedOf (p : Nat) (plus : Bool) (q : Nat) : Str := ⟨#[120 + p, if plus then 43 else 45, 120 + q]⟩
noncomputable def PRow.lead (r : PRow) : Str := leadOf r.bits
noncomputable def PRow.deed (r : PRow) : Str := deedOf r.p r.plus r.q
noncomputable def PRow.row (r : PRow) : Row := ⟨r.lead, r.often, r.deed, if r.hid then 1 else 0⟩
structure PRow.Ok (r : PRow) : Prop where
  len : r.bits.length ≤ 4
  lo : 1 ≤ r.often
  hi : r.often ≤ 3
  p : r.p < 3
  q : r.q < 3
theorem lead_all (P : Nat → Bool) (h1 : P 9 = true) (h2 : P 32 = true) (bits : List Bool) : (leadOf bits).cps.all P = true := by
  unfold leadOf
  rw [← Array.all_toList, List.toList_toArray, List.all_map, List.all_eq_true]
  intro b _
  cases b
  · exact h2
  · exact h1
theorem deed_all (P : Nat → Bool) (h1 : P 120 = true) (h2 : P 121 = true) (h3 : P 122 = true) (h4 : P 43 = true) (h5 : P 45 = true) {p q : Nat} {b : Bool} (hp : p < 3) (hq : q < 3) : (deedOf p b q).cps.all P = true := by
  have H : ∀ k, k < 3 → P (120 + k) = true := fun k hk => by
    rcases k with _ | _ | _ | k
    · exact h1
    · exact h2
    · exact h3
    · omega
  unfold deedOf
  rw [← Array.all_toList]
  have : P (if b = true then 43 else 45) = true := by cases b; exact h5; exact h4
  simp [H p hp, H q hq, this]
noncomputable def lineStep (r : PRow) (line : List Int) : List Int := line.set r.q (line.getD r.q 0 + (if r.plus then line.getD r.p 0 else -(line.getD r.p 0)))
noncomputable def powT (t : Tab) (k : Nat) : Tab := Nat.rec t (fun _ x => mulT t x) k
noncomputable def I3 : Tab := [[1, 0, 0], [0, 1, 0], [0, 0, 1]]
noncomputable def underP (first : Str) (rs : List PRow) : Nat := underN first (rs.map PRow.row)
structure Due where
  deeds : List PRow
  table : Tab
  nested : Nat
noncomputable def dueStep (due : List PRow → Due) (r : PRow) (rs : List PRow) : Due :=
  let a := due (rs.take (underP r.lead rs))
  let b := due (rs.drop (underP r.lead rs))
  ⟨(List.replicate r.often (r :: a.deeds)).flatten ++ b.deeds, mulT b.table (powT (a.table.map (lineStep r)) (r.often - 1)), max (if 1 < r.often then a.nested + 1 else a.nested) b.nested⟩
noncomputable def dueF (n : Nat) : List PRow → Due := Nat.rec (fun _ => ⟨[], I3, 0⟩) (fun _ due rs => List.casesOn rs ⟨[], I3, 0⟩ fun r rs => dueStep due r rs) n
theorem dueF_nil (n : Nat) : dueF n [] = ⟨[], I3, 0⟩ := by cases n <;> rfl
theorem dueF_cons (n : Nat) (r : PRow) (rs : List PRow) : dueF (n + 1) (r :: rs) = dueStep (dueF n) r rs := rfl
theorem underN_le (first : Str) : ∀ rs : List Row, underN first rs ≤ rs.length
  | [] => Nat.le_refl _
  | r :: rs => by
    unfold underN
    split
    · exact Nat.succ_le_succ (underN_le first rs)
    · exact Nat.zero_le _
theorem underP_le (first : Str) (rs : List PRow) : underP first rs ≤ rs.length := by
  have := underN_le first (rs.map PRow.row); rwa [List.length_map] at this
noncomputable def TB (b : Nat) (t : Tab) : Prop := ∀ i k, Builtin.Int.intBits (at3 t i k) ≤ b
theorem TB.mono {a b : Nat} {t : Tab} (h : TB a t) (k : a ≤ b) : TB b t := fun i j => Nat.le_trans (h i j) k
theorem T3.mul (a b : Tab) : T3 (mulT a b) := by
  refine ⟨by simp [mulT], fun r h => ?_⟩
  obtain ⟨i, _, rfl⟩ := List.mem_map.mp h
  simp [mulRow]
theorem T3.line {t : Tab} (r : PRow) (h : T3 t) : T3 (t.map (lineStep r)) := by
  refine ⟨by rw [List.length_map]; exact h.1, fun x hx => ?_⟩
  obtain ⟨y, hy, rfl⟩ := List.mem_map.mp hx
  rw [lineStep, List.length_set]; exact h.2 y hy
theorem T3.pow {t : Tab} (h : T3 t) : ∀ k, T3 (powT t k)
  | 0 => h
  | _ + 1 => T3.mul _ _
theorem T3.I : T3 I3 := ⟨rfl, by decide⟩
theorem at3_map (f : List Int → List Int) (t : Tab) (i k : Nat) (hi : i < t.length) : at3 (t.map f) i k = (f (t.getD i [])).getD k 0 := by
  unfold at3
  rw [show (t.map f).getD i [] = f (t.getD i []) by rw [List.getD_eq_getElem?_getD (l := t.map f), List.getElem?_map, List.getElem?_eq_getElem hi, List.getD_eq_getElem?_getD (l := t), List.getElem?_eq_getElem hi]; rfl]
theorem at3_out {t : Tab} {i k : Nat} (h : T3 t) (hk : 3 ≤ i ∨ 3 ≤ k) : at3 t i k = 0 := by
  unfold at3
  by_cases hi : i < t.length
  · have hk : 3 ≤ k := hk.resolve_left (by have := h.1; omega)
    rw [List.getD_eq_getElem?_getD (l := t), List.getElem?_eq_getElem hi, Option.getD_some, List.getD_eq_getElem?_getD, List.getElem?_eq_none]; rfl
    rw [h.2 _ (List.getElem_mem hi)]; exact hk
  · rw [List.getD_eq_getElem?_getD (l := t), List.getElem?_eq_none (Nat.not_lt.mp hi)]; simp
theorem line_at {r : PRow} {l : List Int} {k : Nat} (hq : r.q < l.length) : (lineStep r l).getD k 0 = if k = r.q then l.getD r.q 0 + (if r.plus then l.getD r.p 0 else -(l.getD r.p 0)) else l.getD k 0 := by
  unfold lineStep
  rw [List.getD_eq_getElem?_getD, List.getElem?_set]
  by_cases h : r.q = k
  · rw [if_pos h, if_pos h.symm, if_pos hq]; rfl
  · rw [if_neg h, if_neg (fun z => h z.symm), ← List.getD_eq_getElem?_getD]
theorem TB.line {b : Nat} {t : Tab} {r : PRow} (h : TB b t) (h3 : T3 t) (hr : r.Ok) : TB (b + 1) (t.map (lineStep r)) := by
  intro i k
  by_cases hi : i < t.length
  · rw [at3_map _ _ _ _ hi]
    have hl : (t.getD i []).length = 3 := by rw [List.getD_eq_getElem?_getD, List.getElem?_eq_getElem hi]; exact h3.2 _ (List.getElem_mem hi)
    rw [line_at (by rw [hl]; exact hr.q)]
    have hb : ∀ j, Builtin.Int.intBits ((t.getD i []).getD j 0) ≤ b := fun j => h i j
    by_cases hk : k = r.q
    · rw [if_pos hk]
      refine Nat.le_trans (intBits_add_le (hb _) (n := b) ?_) (by rw [Nat.max_self]; exact Nat.le_refl _)
      split
      · exact hb _
      · exact intBits_neg_le (hb _)
    · rw [if_neg hk]; exact Nat.le_succ_of_le (hb _)
  · rw [at3_out (h3.line r) (.inl (by rw [← h3.1]; exact Nat.not_lt.mp hi))]; exact Nat.zero_le _
theorem at3_mul (a b : Tab) {i j : Nat} (hi : i < 3) (hj : j < 3) : at3 (mulT a b) i j = at3 a i 0 * at3 b 0 j + (at3 a i 1 * at3 b 1 j + (at3 a i 2 * at3 b 2 j + 0)) := by
  unfold mulT
  rw [at3, show ((List.range 3).map (mulRow a b)).getD i [] = mulRow a b i by rw [List.getD_eq_getElem?_getD, List.getElem?_map, List.getElem?_range hi]; rfl]
  unfold mulRow
  rw [List.getD_eq_getElem?_getD, List.getElem?_map, List.getElem?_range hj]
  rfl
theorem TB.mul {x y : Nat} {a b : Tab} (ha : TB x a) (hb : TB y b) : TB (x + y + 3) (mulT a b) := by
  intro i j
  by_cases h : i < 3 ∧ j < 3
  · rw [at3_mul a b h.1 h.2]
    have m : ∀ k, Builtin.Int.intBits (at3 a i k * at3 b k j) ≤ x + y := fun k => intBits_mul_le (ha i k) (hb k j)
    have e1 := intBits_add_le (m 2) (n := 0) (y := 0) (Nat.le_refl _)
    have e2 := intBits_add_le (m 1) e1
    have e3 := intBits_add_le (m 0) e2
    exact Nat.le_trans e3 (Nat.succ_le_succ (Nat.max_le.mpr ⟨Nat.le_add_right _ 2, Nat.succ_le_succ (Nat.max_le.mpr ⟨Nat.le_add_right _ 1, Nat.succ_le_succ (Nat.max_le.mpr ⟨Nat.le_refl _, Nat.zero_le _⟩)⟩)⟩))
  · rw [at3_out (T3.mul a b) (by omega)]; exact Nat.zero_le _
theorem TB.I : TB 1 I3 := by
  intro i k
  by_cases h : i < 3 ∧ k < 3
  · obtain ⟨hi, hk⟩ := h
    have : ∀ i, i < 3 → ∀ k, k < 3 → Builtin.Int.intBits (at3 I3 i k) ≤ 1 := by decide +kernel
    exact this i hi k hk
  · rw [at3_out T3.I (by omega)]; exact Nat.zero_le _
theorem TB.pow {x : Nat} {t : Tab} (h : TB x t) : ∀ k, k ≤ 2 → TB (3 * x + 6) (powT t k)
  | 0, _ => h.mono (by omega)
  | 1, _ => (h.mul h).mono (by omega)
  | 2, _ => (h.mul (h.mul h)).mono (by omega)
  | k + 3, hk => by omega
noncomputable def dueBits (n : Nat) : Nat := Nat.rec 1 (fun _ b => 4 * b + 12) n
structure Due.Fits (n : Nat) (d : Due) : Prop where
  t3 : T3 d.table
  tb : TB (dueBits n) d.table
  len : d.deeds.length + 1 ≤ 4 ^ n
  nest : d.nested ≤ n
  ok : ∀ r ∈ d.deeds, r.Ok
theorem due_fits : ∀ (n : Nat) {rs : List PRow}, (∀ r ∈ rs, r.Ok) → (dueF n rs).Fits n := by
  intro n
  have pos : ∀ n, 1 ≤ dueBits n := fun n => by
    induction n with
    | zero => exact Nat.le_refl _
    | succ n ih => show 1 ≤ 4 * dueBits n + 12; omega
  induction n with
  | zero => exact fun _ => ⟨T3.I, TB.I, Nat.le_refl 1, Nat.le_refl 0, fun _ h => nomatch h⟩
  | succ n ih =>
    intro rs hr
    cases rs with
    | nil => exact ⟨T3.I, TB.I.mono (pos (n + 1)), Nat.pow_pos (by decide), Nat.zero_le _, fun _ h => nomatch h⟩
    | cons r rs =>
      have hr0 := hr r (.head _)
      have fa := ih (rs := rs.take (underP r.lead rs)) fun x h => hr x (.tail _ (List.mem_of_mem_take h))
      have fb := ih (rs := rs.drop (underP r.lead rs)) fun x h => hr x (.tail _ (List.mem_of_mem_drop h))
      refine ⟨T3.mul _ _, ?_, ?_, ?_, ?_⟩
      · refine (fb.tb.mul ((fa.tb.line fa.t3 hr0).pow (r.often - 1) (by have := hr0.hi; omega))).mono ?_
        show dueBits n + (3 * (dueBits n + 1) + 6) + 3 ≤ 4 * dueBits n + 12
        omega
      · show ((List.replicate r.often (r :: (dueF n (rs.take (underP r.lead rs))).deeds)).flatten ++ (dueF n (rs.drop (underP r.lead rs))).deeds).length + 1 ≤ _
        rw [List.length_append, List.length_flatten, List.map_replicate, List.sum_replicate_nat, List.length_cons, Nat.pow_succ]
        have h1 := fa.len
        have h2 := fb.len
        have h3 := Nat.mul_le_mul hr0.hi h1
        omega
      · show max (if 1 < r.often then (dueF n (rs.take (underP r.lead rs))).nested + 1 else (dueF n (rs.take (underP r.lead rs))).nested) (dueF n (rs.drop (underP r.lead rs))).nested ≤ n + 1
        have h1 := fa.nest
        have h2 := fb.nest
        split <;> omega
      · intro x hx
        rcases List.mem_append.mp hx with hx | hx
        · obtain ⟨l, hl, hx⟩ := List.mem_flatten.mp hx
          rw [(List.mem_replicate.mp hl).2] at hx
          rcases List.mem_cons.mp hx with rfl | hx
          · exact hr0
          · exact fa.ok x hx
        · exact fb.ok x hx
structure Facts (G : GC) (fa : Nat → Addr) : Prop where
  nb : NB G
  fn : ∀ k ∈ [6, 7, 8, 9, 10, 11, 12, 14, 15, 16, 17, 18, 19, 20, 21], FnIs G (stmtAt k) (fa k)
  def_ : ∀ p ∈ [(6, "add"), (7, "sub"), (8, "concat"), (9, "contains"), (10, "getitem"), (11, "indexOf"), (12, "setitem"), (14, "_law_rows"), (15, "_law_lexer"), (16, "_law_columns"), (17, "_law_under"), (18, "_law_times"), (19, "_law_due"), (20, "_law_round")],
    GlobIs G (Str.ofString p.2) (.ref (fa p.1))
  ty : ∀ x ∈ ["range", "zip", "enumerate", "tuple", "str"], GlobIs G (Str.ofString x) (.type x)
  bi : ∀ x ∈ ["len", "min", "max", "sum", "iter", "hasattr"], GlobIs G (Str.ofString x) (.builtin x)
section
variable {c : Cx} {st : St} {m m₁ m₂ m₃ m₄ m₅ : MH} {p : Pos}
theorem Ex.augitem {o i e : Expr} {op : Operator} {q : Pos} {ov iv old v new : MV} (hc : c.Ok) (h1 : Ev c o st ov m₁) (h2 : Ev c i ⟨st.vars, m₁⟩ iv m₂) (h3 : Op c (RV c.G) (ap2 getItem) [ov, iv] m₂ old m₃) (h4 : Ev c e ⟨st.vars, m₃⟩ v m₄)
    (h5 : Op c (RV c.G) (ap2 (inplaceOp op)) [old, v] m₄ new m₅) (h6 : Op c RU (ap3 setItem) [ov, iv, new] m₅ () m) (hi : notSlice i = true := by rfl) : Ex c (.AugAssign (.Subscript o i q) op e p) st .next ⟨st.vars, m⟩ :=
  ⟨x_augitem hc (h1.to (h2.to (h3.to (h4.to (h5.to (h6.to ⟨rfl, rfl⟩)))))) hi⟩
theorem occ_xyz : ∀ i, i < 3 → Builtin.Str.occurrences "xyz" (chr (120 + i)) 0 (Str.length "xyz") 1 = [i] := by decide +kernel
theorem ev_xyz {e : Expr} {d : Str} {k : Int} {i n0 n1 : Nat} {q0 q1 q2 ap : Pos} (hc : c.Ok) (he : Ev c e st (.str d) st.m) (hk : -(2 ^ 63 : Int) ≤ k ∧ k < 2 ^ 63) (hd : (seqIndex? k d.length).bind (d.cps[·]?) = some (120 + i)) (hi : i < 3) (hline : (ap.endLine == p.line) = true := by rfl) :
    Ev c (.Call (.Attribute (.Constant (.str "xyz") n0 q0) "index" ap) [.Subscript e (.Constant (.int k) n1 q1) q2] [] p) st (.int i) st.m := by
  apply Ev.meth (m₁ := st.m) (m₂ := st.m) (m₃ := st.m) hc (hl := by show 1 < 30; decide) (hline := hline)
  · exact Ev.str
  · exact meth_index ⟨rfl, rfl⟩
  · apply Evs.cons (m₁ := st.m)
    · apply Ev.sub (m₁ := st.m) (m₂ := st.m) hc
      · exact he
      · exact Ev.int
      · exact fun value slice hs => idx_str hs hk hd ⟨rfl, rfl⟩
    · exact Evs.nil
  · exact keeps_builtin
  · exact call_index (occ_xyz i hi) ⟨rfl, rfl⟩
theorem row_get {e i : Expr} {n0 : Nat} {q q' : Pos} {v y : MV} {rs : List Row} {k : Nat} {j : Int} {r : Row} (hc : c.Ok) (h : IsRows st.m v rs) (hk : rs[k]? = some r) (h1 : Ev c e st v st.m) (h2 : Ev c i st (.int k) st.m) (hl : rs.length < 1000) (h0 : 0 ≤ j) (hy : [MV.str r.lead, .int r.often, .str r.deed, .int r.hidden][j.toNat]? = some y) (hj : j < 2 ^ 63) (hs : notSlice i = true := by rfl) :
    Ev c (.Subscript (.Subscript e i p) (.Constant (.int j) n0 q) q') st y st.m := by
  obtain ⟨a, vs, rfl, hv, hr⟩ := h
  obtain ⟨x, hx, b, rfl, hb⟩ := hr.get hk
  have hlen : k < rs.length := (List.getElem?_eq_some_iff.mp hk).1
  exact Ev.sub (a := .ref b) (m₁ := st.m) (m₂ := st.m) hc (Ev.sub (m₁ := st.m) (m₂ := st.m) hc h1 h2 (fun value slice hsl => idx_list hsl hv (Int.natCast_nonneg _) (by rw [Int.toNat_natCast]; exact hx) (by omega) ⟨rfl, rfl⟩) hs) Ev.int (fun value slice hsl => idx_tup hsl hb h0 hy hj ⟨rfl, rfl⟩)
end
theorem All2.upd {m : MH} {vs : List MV} {ts : Tab} (h : All2 (IsInts m) vs ts) : ∀ {k i : Nat} {l : List Int}, vs[k]? = some (.ref i) → vs.Pairwise (· ≠ ·) → All2 (IsInts (m.set i (.list (l.map .int)))) vs (ts.set k l) := by
  induction h with
  | nil => intro k i l e _; simp at e
  | cons h r ih =>
    rename_i a b as bs
    intro k i l e hp
    obtain ⟨hp1, hp2⟩ := List.pairwise_cons.mp hp
    cases k with
    | zero =>
      cases e
      refine .cons ⟨i, rfl, set_at _ _ _⟩ ?_
      have : ∀ (as : List MV) (bs : Tab), All2 (IsInts m) as bs → (∀ x ∈ as, MV.ref i ≠ x) → All2 (IsInts (m.set i (.list (l.map .int)))) as bs := by
        intro as bs h
        induction h with
        | nil => exact fun _ => .nil
        | cons h r ih =>
          intro hn
          obtain ⟨j, rfl, hj⟩ := h
          exact .cons ⟨j, rfl, by rw [set_off fun z => hn _ (.head _) (by rw [z])]; exact hj⟩ (ih fun x hx => hn x (.tail _ hx))
      exact this as bs r hp1
    | succ k =>
      have e' : as[k]? = some (.ref i) := by simpa using e
      obtain ⟨j, rfl, hj⟩ := h
      exact .cons ⟨j, rfl, by rw [set_off fun z => hp1 _ (List.mem_of_getElem? e') (by rw [z])]; exact hj⟩ (ih e' hp2)
theorem set_mid {α : Type} (f : α → α) (t : List α) (k : Nat) (x : α) (h : t[k]? = some x) : ((t.take k).map f ++ t.drop k).set k (f x) = (t.take (k + 1)).map f ++ t.drop (k + 1) := by
  have hk : k < t.length := (List.getElem?_eq_some_iff.mp h).1
  have hl : ((t.take k).map f).length = k := by rw [List.length_map, List.length_take]; omega
  rw [List.set_append_right _ _ (by rw [hl]; exact Nat.le_refl _), hl, Nat.sub_self, List.take_add_one, h, List.map_append, List.append_assoc]
  congr 1
  have hx : t[k] = x := (List.getElem?_eq_some_iff.mp h).2
  rw [List.drop_eq_getElem_cons hk, List.set_cons_zero]
  rfl
theorem mid_at {α : Type} (f : α → α) (t : List α) (k : Nat) (x : α) (h : t[k]? = some x) : ((t.take k).map f ++ t.drop k)[k]? = some x := by
  have hk : k < t.length := (List.getElem?_eq_some_iff.mp h).1
  have hl : ((t.take k).map f).length = k := by rw [List.length_map, List.length_take]; omega
  rw [List.getElem?_append_right (by rw [hl]; exact Nat.le_refl _), hl, Nat.sub_self, List.getElem?_drop, Nat.add_zero]; exact h
theorem Fresh.grow {m m' : MH} (g : Grow m m') {v : MV} (h : Fresh m' v) : Fresh m v := let ⟨i, e, n⟩ := h; ⟨i, e, fun o z => n o (g.keep _ _ z)⟩
theorem no_self {m : MH} {vs : List MV} {t : Tab} {tl : Nat} (ht : All2 (IsInts m) vs t) (htl : m.H tl = some (.list vs)) : MV.ref tl ∉ vs := fun z => by
  obtain ⟨l, i, e, hi⟩ := ht.mem z
  cases e
  rw [htl] at hi
  have e : vs = l.map .int := by cases hi; rfl
  rw [e] at z
  obtain ⟨x, _, hx⟩ := List.mem_map.mp z
  cases hx
theorem lines_rows {r : PRow} {l : List Int} (hl : l.length = 3) (hq : r.q < 3) : (l.map MV.int).set r.q (.int (l.getD r.q 0 + (if r.plus then l.getD r.p 0 else -(l.getD r.p 0)))) = (lineStep r l).map .int := by
  unfold lineStep
  rw [List.map_set]
section
variable {G : GC} {A : Around} {env : Env} {own : List Addr} {m : MH}
theorem d_lines {a1 a2 a4 a5 a7 : Option MV} {m₀ : MH} {tl : Nat} {vs : List MV} {t : Tab} {r : PRow} (hg : Grow m₀ m) (htl : m.H tl = some (.list vs)) (ht : All2 (IsInts m) vs t) (hf : ∀ y ∈ vs, Fresh m₀ y) (hd : vs.Pairwise (· ≠ ·)) (h3 : T3 t) (hr : r.Ok) (hc : (cxOf G A env own 19).Ok) :
    ExecTo (cxOf G A env own 19) (nthOf (bodyOf (stmtAt 19)) 5) ⟨[a1, a2, some (.str r.deed), a4, a5, some (.ref tl), a7, none, none, none, none, none, none, none, none, none, none, none, none], m⟩ fun f st' => f = .next ∧
      (∃ w1 w2, st'.vars = [a1, a2, some (.str r.deed), a4, a5, some (.ref tl), a7, w1, w2, none, none, none, none, none, none, none, none, none, none]) ∧ Grow m₀ st'.m ∧ m.n ≤ st'.m.n ∧ (∀ j, (∀ y ∈ vs, y ≠ MV.ref j) → st'.m.H j = m.H j) ∧ st'.m.H tl = some (.list vs) ∧ All2 (IsInts st'.m) vs (t.map (lineStep r)) := by
  have hne : MV.ref tl ∉ vs := no_self ht htl
  refine FT.mono (x_for_list hc (l := tl) (xs := vs) (m := m) ?hi (fun k st => (∃ w1 w2, st.vars = [a1, a2, some (.str r.deed), a4, a5, some (.ref tl), a7, w1, w2, none, none, none, none, none, none, none, none, none, none]) ∧ Grow m₀ st.m ∧ m.n ≤ st.m.n ∧ (∀ j, (∀ y ∈ vs, y ≠ MV.ref j) → st.m.H j = m.H j) ∧ st.m.H tl = some (.list vs) ∧ All2 (IsInts st.m) vs ((t.take k).map (lineStep r) ++ t.drop k))
    (fun k st h => h.2.2.2.2.1) ?h0 ?step) ?fin
  case hi => (apply Ev.nm (by assumption); (repeat first | with_reducible exact Slot.head | (show Slot (_ :: _) (_ :: _) _ _ _; first | with_reducible exact Slot.head | apply Slot.tail)); rfl)
  case h0 => exact ⟨⟨_, _, rfl⟩, hg, Nat.le_refl _, fun _ _ => rfl, htl, ht⟩
  case fin =>
    rintro f ⟨vars, m₁⟩ ⟨rfl, hv, h1, h2, h3', h4, h5⟩
    refine ⟨rfl, hv, h1, h2, h3', h4, ?_⟩
    rw [show vs.length = t.length from ht.len, List.take_length, List.drop_length, List.append_nil] at h5
    exact h5
  case step =>
    rintro k x ⟨vars, m₁⟩ hx ⟨⟨w1, w2, hv⟩, hg1, hn, hoff, htl1, ht1⟩
    dsimp only at hv hg1 hn hoff htl1 ht1
    subst hv
    have hk : k < t.length := by rw [← ht.len]; exact (List.getElem?_eq_some_iff.mp hx).1
    have hl : (t[k]).length = 3 := h3.2 _ (List.getElem_mem hk)
    have htk := List.getElem?_eq_getElem hk
    obtain ⟨y, hy, li, rfl, hli⟩ := ht1.get (mid_at (lineStep r) t k _ htk)
    rw [hx] at hy; cases hy
    refine asg_name hc ⟨_, by (focus repeat first | with_reducible exact Put.headL | with_reducible exact Put.headC | (show Put (_ :: _) (_ :: _) _ _ _; first | with_reducible exact Put.headL | with_reducible exact Put.headC | apply Put.tail)), ?_⟩
    refine xs_cons (Ex.to (f := .next) (st' := ⟨[a1, a2, some (.str r.deed), a4, a5, some (.ref tl), a7, some (.ref li), some (.int ((t[k]).getD r.p 0)), none, none, none, none, none, none, none, none, none, none], m₁⟩) ?_ ?_)
    · apply Ex.set hc
      · apply Ev.sub hc
        · (apply Ev.nm (by assumption); (repeat first | with_reducible exact Slot.head | (show Slot (_ :: _) (_ :: _) _ _ _; first | with_reducible exact Slot.head | apply Slot.tail)); rfl)
        · apply ev_xyz hc
          · (apply Ev.nm (by assumption); (repeat first | with_reducible exact Slot.head | (show Slot (_ :: _) (_ :: _) _ _ _; first | with_reducible exact Slot.head | apply Slot.tail)); rfl)
          · exact ⟨by decide, by decide⟩
          · rfl
          · exact hr.p
        · exact fun value slice hs => idx_list hs hli (Int.natCast_nonneg _) (by rw [Int.toNat_natCast]; exact ints_at (by rw [hl]; exact hr.p)) (by have := hr.p; omega) ⟨rfl, rfl⟩
      · (focus repeat first | with_reducible exact Put.headL | with_reducible exact Put.headC | (show Put (_ :: _) (_ :: _) _ _ _; first | with_reducible exact Put.headL | with_reducible exact Put.headC | apply Put.tail))
    dsimp only
    refine xs_cons (Ex.to (f := .next) (st' := ⟨[a1, a2, some (.str r.deed), a4, a5, some (.ref tl), a7, some (.ref li), some (.int ((t[k]).getD r.p 0)), none, none, none, none, none, none, none, none, none, none], m₁.set li (.list ((lineStep r (t[k])).map .int))⟩) ?_ ?_)
    · rw [← lines_rows hl hr.q]
      apply Ex.augitem hc
      · (apply Ev.nm (by assumption); (repeat first | with_reducible exact Slot.head | (show Slot (_ :: _) (_ :: _) _ _ _; first | with_reducible exact Slot.head | apply Slot.tail)); rfl)
      · apply ev_xyz hc
        · (apply Ev.nm (by assumption); (repeat first | with_reducible exact Slot.head | (show Slot (_ :: _) (_ :: _) _ _ _; first | with_reducible exact Slot.head | apply Slot.tail)); rfl)
        · exact ⟨by decide, by decide⟩
        · rfl
        · exact hr.q
      · exact get_list hli (Int.natCast_nonneg _) (by rw [Int.toNat_natCast]; exact ints_at (by rw [hl]; exact hr.q)) (by have := hr.q; omega) ⟨rfl, rfl⟩
      · apply Ev.ife (z := r.plus) (v := .int (if r.plus then (t[k]).getD r.p 0 else -((t[k]).getD r.p 0)))
        · apply Te.cmp hc
          · apply Ev.sub hc
            · (apply Ev.nm (by assumption); (repeat first | with_reducible exact Slot.head | (show Slot (_ :: _) (_ :: _) _ _ _; first | with_reducible exact Slot.head | apply Slot.tail)); rfl)
            · exact Ev.int
            · exact fun value slice hs => idx_str hs ⟨by decide, by decide⟩ (c := if r.plus then 43 else 45) rfl ⟨rfl, rfl⟩
          · exact Ev.str
          · exact cmp_eqs ⟨by cases r.plus <;> rfl, rfl⟩
        · cases r.plus with
          | true => rw [if_pos rfl, if_pos rfl]; (apply Ev.nm (by assumption); (repeat first | with_reducible exact Slot.head | (show Slot (_ :: _) (_ :: _) _ _ _; first | with_reducible exact Slot.head | apply Slot.tail)); rfl)
          | false =>
            rw [if_neg Bool.false_ne_true, if_neg Bool.false_ne_true]
            apply Ev.un hc
            · (apply Ev.nm (by assumption); (repeat first | with_reducible exact Slot.head | (show Slot (_ :: _) (_ :: _) _ _ _; first | with_reducible exact Slot.head | apply Slot.tail)); rfl)
            · exact un_neg ⟨rfl, rfl⟩
      · exact in_add ⟨rfl, rfl⟩
      · refine set_list hli (Int.natCast_nonneg _) (by rw [List.length_map, hl]; have := hr.q; omega) (by have := hr.q; omega) ⟨rfl, ?_⟩
        rw [Int.toNat_natCast]
    · dsimp only
      have hfl := hf _ (List.mem_of_getElem? hx)
      obtain ⟨_, e, hno⟩ := hfl
      cases e
      have hne' : tl ≠ li := fun z => hne (by rw [z]; exact List.mem_of_getElem? hx)
      have hln : li < m₁.n := hg1.wf _ _ hli
      refine xs_nil ⟨.inl rfl, ⟨_, _, rfl⟩, hg1.set hno hln, hn, fun j h2 => ?_, ?_, ?_⟩
      · dsimp only
        rw [set_off fun z => h2 _ (List.mem_of_getElem? hx) (by rw [z])]
        exact hoff j h2
      · dsimp only
        rw [set_off hne']; exact htl1
      · dsimp only
        rw [← set_mid _ _ _ _ htk]
        exact ht1.upd hx hd
end
noncomputable def DueOut (m : MH) (d : Due) (y : MV) (m' : MH) : Prop :=
  Grow m m' ∧ ∃ i dl tv, y = .ref i ∧ m'.H i = some (.tup [.ref dl, tv, .int d.nested]) ∧ m'.H dl = some (.list (d.deeds.map fun r => .str r.deed)) ∧ FTab m m' tv d.table
theorem xs_ret {c : Cx} {st : St} {e : Expr} {p : Pos} {ss : List Stmt} {v : MV} {m : MH} {Q : MF → St → Prop} (h : Ev c e st v m) (hq : Q (.ret v) ⟨st.vars, m⟩) : ExecsTo c (.Return (some e) p :: ss) st Q := xs_cons (x_ret (h.to hq))
theorem PRow.Ok.texts {r : PRow} (h : r.Ok) : PyData.strOk r.row.lead = true ∧ PyData.strOk r.row.deed = true := ⟨lead_all _ (by decide) (by decide) _, deed_all _ (by decide) (by decide) (by decide) (by decide) (by decide) h.p h.q⟩
theorem PRow.Ok.ascii {r : PRow} (_ : r.Ok) : r.row.lead.cps.all (· < 128) = true := lead_all _ (by decide) (by decide) _
theorem FTab.keep {m₀ m m' : MH} {v : MV} {t : Tab} (h : FTab m₀ m v t) (g : Grow m m') : FTab m₀ m' v t := let ⟨i, vs, a, b, c, d, e⟩ := h; ⟨i, vs, a, g.keep _ _ b, c.mono fun _ _ z => z.grow g, d, e⟩
theorem FTab.since {m m₀ m' : MH} {v : MV} {t : Tab} (h : FTab m₀ m' v t) (g : Grow m m₀) : FTab m m' v t := let ⟨i, vs, a, b, c, d, e⟩ := h; ⟨i, vs, a, b, c, fun y hy => (d y hy).grow g, e⟩
theorem rows_of {rs : List PRow} (h : ∀ r ∈ rs, r.Ok) : ∀ r ∈ rs.map PRow.row, PyData.strOk r.lead = true ∧ PyData.strOk r.deed = true := fun r hr => by
  obtain ⟨x, hx, rfl⟩ := List.mem_map.mp hr; exact (h x hx).texts
theorem rows_asc {rs : List PRow} (h : ∀ r ∈ rs, r.Ok) : ∀ r ∈ rs.map PRow.row, r.lead.cps.all (· < 128) = true := fun r hr => by
  obtain ⟨x, hx, rfl⟩ := List.mem_map.mp hr; exact (h x hx).ascii
section
variable {G : GC} {A : Around} {env : Env} {own : List Addr} {m : MH}
theorem t_empty {v : MV} {rs : List PRow} {n : Nat} (hw : WF m) (hr : ∀ r ∈ rs, r.Ok) (hv : IsRows m v (rs.map PRow.row)) (hA : Good n A) (hc : (cxOf G A env own 19).Ok) :
    Te (cxOf G A env own 19) (testOf (nthOf (bodyOf (stmtAt 19)) 0)) ⟨[some v, none, none, none, none, none, none, none, none, none, none, none, none, none, none, none, none, none, none], m⟩ rs.isEmpty (m.alloc (.list [])) := by
  obtain ⟨i, vs, rfl, hi, ha⟩ := hv
  apply Te.cmp hc
  · (apply Ev.nm (by assumption); (repeat first | with_reducible exact Slot.head | (show Slot (_ :: _) (_ :: _) _ _ _; first | with_reducible exact Slot.head | apply Slot.tail)); rfl)
  · apply Ev.list hc
    · exact Evs.nil
    · exact Nat.zero_le _
  · refine cmp_eqd (.list (alloc_old hw hi) (rows_rd (ha.mono fun _ _ z => z.grow (.alloc hw _)))) (.list (alloc_new _ _) .nil) (rows_shaped _ (rows_of hr)) (rows_shaped [] fun _ h => nomatch h) hA.eq ⟨?_, rfl⟩
    cases rs <;> simp [PyData.eqv, PyData.eqvAll]
theorem b_due_nil {v : MV} {n : Nat} (hw : WF m) (hv : IsRows m v []) (hA : Good n A) (hc : (cxOf G A env own 19).Ok) :
    ExecsTo (cxOf G A env own 19) (bodyOf (stmtAt 19)) ⟨[some v, none, none, none, none, none, none, none, none, none, none, none, none, none, none, none, none, none, none], m⟩ fun fl st' => outOf (DueOut m (dueF n [])) fl st'.m := by
  rw [dueF_nil]
  refine xs_cons (x_if (Te.to (b := true) (t_empty (rs := []) hw (fun _ h => nomatch h) hv hA hc) ?_))
  rw [if_pos rfl]
  have w1 := alloc_wf hw (.list [])
  generalize hm1 : m.alloc (.list []) = m₁ at w1 ⊢
  have g1 : Grow m m₁ := hm1 ▸ .alloc hw _
  obtain ⟨m₂, e2⟩ : ∃ x, x = m₁.alloc (.list []) := ⟨_, rfl⟩
  obtain ⟨m₃, e3⟩ : ∃ x, x = m₂.alloc (.list [.int 1, .int 0, .int 0]) := ⟨_, rfl⟩
  obtain ⟨m₄, e4⟩ : ∃ x, x = m₃.alloc (.list [.int 0, .int 1, .int 0]) := ⟨_, rfl⟩
  obtain ⟨m₅, e5⟩ : ∃ x, x = m₄.alloc (.list [.int 0, .int 0, .int 1]) := ⟨_, rfl⟩
  obtain ⟨m₆, e6⟩ : ∃ x, x = m₅.alloc (.list [.ref m₂.n, .ref m₃.n, .ref m₄.n]) := ⟨_, rfl⟩
  obtain ⟨m₇, e7⟩ : ∃ x, x = m₆.alloc (.tup [.ref m₁.n, .ref m₅.n, .int 0]) := ⟨_, rfl⟩
  have g2 : Grow m₁ m₂ := e2 ▸ .alloc w1 _
  have g3 : Grow m₂ m₃ := e3 ▸ .alloc g2.wf _
  have g4 : Grow m₃ m₄ := e4 ▸ .alloc g3.wf _
  have g5 : Grow m₄ m₅ := e5 ▸ .alloc g4.wf _
  have g6 : Grow m₅ m₆ := e6 ▸ .alloc g5.wf _
  have g7 : Grow m₆ m₇ := e7 ▸ .alloc g6.wf _
  refine xs_ret (v := .ref m₆.n) (m := m₇) ?_ ?_
  · rw [e7]
    apply Ev.tuple hc
    · apply Evs.cons (m₁ := m₂)
      · rw [e2]; apply Ev.list hc
        · exact Evs.nil
        · exact Nat.zero_le _
      · apply Evs.cons (m₁ := m₆)
        · rw [e6]; apply Ev.list hc
          · apply Evs.cons (m₁ := m₃)
            · rw [e3]; apply Ev.list hc
              · exact Evs.cons Ev.int (Evs.cons Ev.int (Evs.cons Ev.int Evs.nil))
              · decide
            · apply Evs.cons (m₁ := m₄)
              · rw [e4]; apply Ev.list hc
                · exact Evs.cons Ev.int (Evs.cons Ev.int (Evs.cons Ev.int Evs.nil))
                · decide
              · apply Evs.cons (m₁ := m₅)
                · rw [e5]; apply Ev.list hc
                  · exact Evs.cons Ev.int (Evs.cons Ev.int (Evs.cons Ev.int Evs.nil))
                  · decide
                · exact Evs.nil
          · show 3 ≤ 1000; decide
        · exact Evs.cons Ev.int Evs.nil
    · show 3 ≤ 1000; decide
  · have new2 : m₂.H m₁.n = some (.list []) := e2 ▸ alloc_new _ _
    have new3 : m₃.H m₂.n = some (.list [.int 1, .int 0, .int 0]) := e3 ▸ alloc_new _ _
    have new4 : m₄.H m₃.n = some (.list [.int 0, .int 1, .int 0]) := e4 ▸ alloc_new _ _
    have new5 : m₅.H m₄.n = some (.list [.int 0, .int 0, .int 1]) := e5 ▸ alloc_new _ _
    have new6 : m₆.H m₅.n = some (.list [.ref m₂.n, .ref m₃.n, .ref m₄.n]) := e6 ▸ alloc_new _ _
    have new7 : m₇.H m₆.n = some (.tup [.ref m₁.n, .ref m₅.n, .int 0]) := e7 ▸ alloc_new _ _
    have n3 : m₃.n = m₂.n + 1 := by rw [e3]; rfl
    have n4 : m₄.n = m₃.n + 1 := by rw [e4]; rfl
    refine ⟨g1.trans (g2.trans (g3.trans (g4.trans (g5.trans (g6.trans g7))))), m₆.n, m₁.n, .ref m₅.n, rfl, new7, ?_, m₅.n, [.ref m₂.n, .ref m₃.n, .ref m₄.n], rfl, ?_, .cons ⟨_, rfl, ?_⟩ (.cons ⟨_, rfl, ?_⟩ (.cons ⟨_, rfl, ?_⟩ .nil)), ?_, ?_⟩
    · exact (g3.trans (g4.trans (g5.trans (g6.trans g7)))).keep _ _ new2
    · exact g7.keep _ _ new6
    · exact (g4.trans (g5.trans (g6.trans g7))).keep _ _ new3
    · exact (g5.trans (g6.trans g7)).keep _ _ new4
    · exact (g6.trans g7).keep _ _ new5
    · intro y hy
      rcases List.mem_cons.mp hy with rfl | hy
      · exact (g1.trans g2).fresh
      · rcases List.mem_cons.mp hy with rfl | hy
        · exact (g1.trans (g2.trans g3)).fresh
        · rw [List.mem_singleton.mp hy]; exact (g1.trans (g2.trans (g3.trans g4))).fresh
    · rw [n4, n3]; simp; omega
end
noncomputable abbrev duePat (v : MV) (often : Int) (deed : Str) (many : Int) (d t nested line share power again later behind beside : Option MV) : List (Option MV) :=
  [some v, some (.int often), some (.str deed), some (.int many), d, t, nested, line, share, power, again, later, behind, beside, none, none, none, none, none]
noncomputable def DueC (G : GC) (f : Addr) (n : Nat) : Prop := ∀ {A : Around} {m : MH} {v : MV} {rs : List PRow}, rs.length ≤ n → (∀ r ∈ rs, r.Ok) → WF m → IsRows m v (rs.map PRow.row) → Good (n + 3) A → CT G A (.st (.ref f)) [v] m fun y m' => DueOut m (dueF n rs) y m'
section
variable {G : GC} {A : Around} {env : Env} {own : List Addr} {m : MH} {fa : Nat → Addr}
theorem d_power {v tv : MV} {often many : Int} {deed : Str} {d nested w1 w2 : Option MV} {t : Tab} {m₀ : MH} {o b n : Nat} (Fa : Facts G fa) (ho : often = o) (ho1 : 1 ≤ o) (ho3 : o ≤ 3) (hg : Grow m₀ m) (ht : IsTab m tv t) (h3 : T3 t) (hb : TB b t) (hbb : b ≤ 10000) (hA : Good (n + 1) A) (hc : (cxOf G A env own 19).Ok) :
    ExecTo (cxOf G A env own 19) (nthOf (bodyOf (stmtAt 19)) 7) ⟨duePat v often deed many d (some tv) nested w1 w2 (some tv) none none none none, m⟩ fun f st' => f = .next ∧
      (∃ pv w3, st'.vars = duePat v often deed many d (some tv) nested w1 w2 (some pv) w3 none none none ∧ IsTab st'.m pv (powT t (o - 1))) ∧ Grow m st'.m := by
  have hrange : GlobIs G "range" (.type "range") := Fa.ty "range" (by decide)
  have hsum : GlobIs G "sum" (.builtin "sum") := Fa.bi "sum" (by decide)
  have htimes : GlobIs G "_law_times" (.ref (fa 18)) := Fa.def_ (18, "_law_times") (by decide)
  refine FT.mono (x_for_range1 hc (b := often - 1) (m₁ := m) (m := m) ?hf ?he (by omega) (by omega) (fun k st => (∃ pv w3, st.vars = duePat v often deed many d (some tv) nested w1 w2 (some pv) w3 none none none ∧ IsTab st.m pv (powT t k)) ∧ Grow m st.m) ?h0 ?step) ?fin
  case hf => (apply Ev.glob (by assumption); (focus repeat first | with_reducible exact Glob.head | (show Glob (_ :: _) _; first | with_reducible exact Glob.head | apply Glob.tail)); assumption)
  case he =>
    apply Ev.bin hc
    · (apply Ev.nm (by assumption); (repeat first | with_reducible exact Slot.head | (show Slot (_ :: _) (_ :: _) _ _ _; first | with_reducible exact Slot.head | apply Slot.tail)); rfl)
    · exact Ev.int
    · exact bin_sub ⟨rfl, rfl⟩
  case h0 => exact ⟨⟨_, _, rfl, ht⟩, .refl hg.wf⟩
  case fin =>
    rintro f ⟨vars, m₁⟩ ⟨rfl, h, g⟩
    rw [show (often - 1).toNat = o - 1 by rw [ho]; exact Int.toNat_sub o 1] at h
    exact ⟨rfl, h, g⟩
  case step =>
    rintro k ⟨vars, m₁⟩ hk ⟨⟨pv, w3, hv, hp⟩, g⟩
    dsimp only at hv hp g
    subst hv
    have hk2 : k ≤ 2 := by omega
    refine asg_name hc ⟨_, by (focus repeat first | with_reducible exact Put.headL | with_reducible exact Put.headC | (show Put (_ :: _) (_ :: _) _ _ _; first | with_reducible exact Put.headL | with_reducible exact Put.headC | apply Put.tail)), ?_⟩
    refine xs_cons ?_
    refine x_assign hc ?_
    refine ev_call hc (Ev.to (v := .st (.ref (fa 18))) (m := m₁) (by (apply Ev.glob (by assumption); (focus repeat first | with_reducible exact Glob.head | (show Glob (_ :: _) _; first | with_reducible exact Glob.head | apply Glob.tail)); assumption)) (args_cons (Ev.to (v := tv) (m := m₁) (by (apply Ev.nm (by assumption); (repeat first | with_reducible exact Slot.head | (show Slot (_ :: _) (_ :: _) _ _ _; first | with_reducible exact Slot.head | apply Slot.tail)); rfl)) (args_cons (Ev.to (v := pv) (m := m₁) (by (apply Ev.nm (by assumption); (repeat first | with_reducible exact Slot.head | (show Slot (_ :: _) (_ :: _) _ _ _; first | with_reducible exact Slot.head | apply Slot.tail)); rfl)) (args_nil ⟨keeps_stat (Fa.fn 18 (by decide)).keep, ?_⟩))))))
    refine HT.mono (c_times g.wf (ht.grow g) hp h3 (h3.pow k) (fun i j l => IntMulOk.of_le (hb i j) (hb.pow k hk2 j l) (by omega)) hrange hsum hA (Fa.fn 18 (by decide))).ht ?_
    rintro y m₂ ⟨g2, hy⟩
    refine ⟨_, by (focus repeat first | with_reducible exact Put.headL | with_reducible exact Put.headC | (show Put (_ :: _) (_ :: _) _ _ _; first | with_reducible exact Put.headL | with_reducible exact Put.headC | apply Put.tail)), ?_⟩
    exact xs_nil ⟨.inl rfl, ⟨_, _, rfl, hy.tab⟩, g.trans g2⟩
end
theorem All2.mem' {α β : Type} {R : α → β → Prop} {a : α} : ∀ {as : List α} {bs : List β}, All2 R as bs → a ∈ as → ∃ b ∈ bs, R a b
  | _, _, .nil, h => nomatch h
  | _, _, .cons h r, z => by
    rcases List.mem_cons.mp z with rfl | z
    · exact ⟨_, .head _, h⟩
    · obtain ⟨b, hb, w⟩ := r.mem' z; exact ⟨b, .tail _ hb, w⟩
theorem not_row {m : MH} {vs : List MV} {t : Tab} {dl : Nat} {ds : List PRow} (h : All2 (IsInts m) vs t) (h3 : T3 t) (hd : m.H dl = some (.list (ds.map fun r => .str r.deed))) : ∀ y ∈ vs, y ≠ MV.ref dl := by
  rintro y hy rfl
  obtain ⟨l, hl, i, e, hi⟩ := h.mem' hy
  cases e
  rw [hd] at hi
  have e : (ds.map fun r => MV.str r.deed) = l.map .int := MO.list.inj (Option.some.inj hi)
  have h3 := h3.2 l hl
  cases l with
  | nil => cases h3
  | cons x l => cases ds with
    | nil => cases e
    | cons d ds => cases e
theorem replicate_map {α β : Type} (f : α → β) (n : Nat) (l : List α) : (List.replicate n (l.map f)).flatten = ((List.replicate n l).flatten).map f := by
  rw [List.map_flatten, List.map_replicate]
section
variable {G : GC} {A : Around} {env : Env} {own : List Addr} {m : MH} {fa : Nat → Addr}
theorem e_deeds {v : MV} {o : Nat} {deed : Str} {often many : Int} {dl ll : Nat} {t nested w1 w2 pv w3 behind beside : Option MV} {ds ls : List PRow} {r : PRow} (ho : often = o) (hd : deed = r.deed) (ho3 : o ≤ 3) (h1 : m.H dl = some (.list (ds.map fun r => MV.str r.deed))) (h2 : m.H ll = some (.list (ls.map fun r => MV.str r.deed))) (hw : WF m) (hl1 : ds.length ≤ 100) (hl2 : ls.length ≤ 100) (hc : (cxOf G A env own 19).Ok)
    {q1 q2 q3 q4 q5 q6 q7 q8 : Pos} : ∃ k m', Ev (cxOf G A env own 19) (.BinOp (.BinOp (.BinOp (.List [.Name (Str.ofString "deed") q1] q2) .Add (.Name (Str.ofString "deeds") q3) q4) .Mult (.Name (Str.ofString "often") q5) q6) .Add (.Name (Str.ofString "later") q7) q8)
      ⟨duePat v often deed many (some (.ref dl)) t nested w1 w2 pv w3 (some (.ref ll)) behind beside, m⟩ (.ref k) m' ∧ Grow m m' ∧ m'.H k = some (.list (((List.replicate o (r :: ds)).flatten ++ ls).map fun r => .str r.deed)) := by
  subst ho hd
  have hsz := sizeLine_big
  obtain ⟨m₁, e1⟩ : ∃ x, x = m.alloc (.list [.str r.deed]) := ⟨_, rfl⟩
  obtain ⟨m₂, e2⟩ : ∃ x, x = m₁.alloc (.list ([.str r.deed] ++ ds.map fun r => MV.str r.deed)) := ⟨_, rfl⟩
  obtain ⟨m₃, e3⟩ : ∃ x, x = m₂.alloc (.list (List.replicate o ([.str r.deed] ++ ds.map fun r => MV.str r.deed)).flatten) := ⟨_, rfl⟩
  obtain ⟨m₄, e4⟩ : ∃ x, x = m₃.alloc (.list ((List.replicate o ([MV.str r.deed] ++ ds.map fun r => MV.str r.deed)).flatten ++ ls.map fun r => MV.str r.deed)) := ⟨_, rfl⟩
  have g1 : Grow m m₁ := e1 ▸ .alloc hw _
  have g2 : Grow m₁ m₂ := e2 ▸ .alloc g1.wf _
  have g3 : Grow m₂ m₃ := e3 ▸ .alloc g2.wf _
  have g4 : Grow m₃ m₄ := e4 ▸ .alloc g3.wf _
  have n1 : m₁.H m.n = some (.list [.str r.deed]) := e1 ▸ alloc_new _ _
  have n2 : m₂.H m₁.n = some (.list ([.str r.deed] ++ ds.map fun r => MV.str r.deed)) := e2 ▸ alloc_new _ _
  have n3 : m₃.H m₂.n = some (.list (List.replicate o ([MV.str r.deed] ++ ds.map fun r => MV.str r.deed)).flatten) := e3 ▸ alloc_new _ _
  have n4 : m₄.H m₃.n = some (.list ((List.replicate o ([MV.str r.deed] ++ ds.map fun r => MV.str r.deed)).flatten ++ ls.map fun r => MV.str r.deed)) := e4 ▸ alloc_new _ _
  have hlen : ([MV.str r.deed] ++ ds.map fun r => MV.str r.deed).length ≤ 101 := by rw [List.length_append, List.length_map]; show 1 + _ ≤ _; omega
  have hmul : ([MV.str r.deed] ++ ds.map fun r => MV.str r.deed).length * o ≤ 303 := Nat.le_trans (Nat.mul_le_mul hlen ho3) (by decide)
  have hlen3 : ((List.replicate o ([MV.str r.deed] ++ ds.map fun r => MV.str r.deed)).flatten).length ≤ 303 := by
    rw [List.length_flatten, List.map_replicate, List.sum_replicate_nat, Nat.mul_comm]; exact hmul
  refine ⟨m₃.n, m₄, ?_, g1.trans (g2.trans (g3.trans g4)), ?_⟩
  · apply Ev.bin (m₁ := m₃) (m₂ := m₃) hc
    · apply Ev.bin (m₁ := m₂) (m₂ := m₂) hc
      · apply Ev.bin (m₁ := m₁) (m₂ := m₁) hc
        · rw [e1]
          apply Ev.list hc
          · apply Evs.cons
            · (apply Ev.nm (by assumption); (repeat first | with_reducible exact Slot.head | (show Slot (_ :: _) (_ :: _) _ _ _; first | with_reducible exact Slot.head | apply Slot.tail)); rfl)
            · exact Evs.nil
            · rfl
          · show 1 ≤ 1000; decide
        · (apply Ev.nm (by assumption); (repeat first | with_reducible exact Slot.head | (show Slot (_ :: _) (_ :: _) _ _ _; first | with_reducible exact Slot.head | apply Slot.tail)); rfl)
        · exact bin_addl n1 (g1.keep _ _ h1) (by rw [List.length_map]; show 1 + _ ≤ _; omega) ⟨rfl, e2.symm⟩
      · (apply Ev.nm (by assumption); (repeat first | with_reducible exact Slot.head | (show Slot (_ :: _) (_ :: _) _ _ _; first | with_reducible exact Slot.head | apply Slot.tail)); rfl)
      · exact bin_mull n2 (by omega) (by omega) (by rw [Int.toNat_natCast]; omega) ⟨rfl, by rw [Int.toNat_natCast]; exact e3.symm⟩
    · (apply Ev.nm (by assumption); (repeat first | with_reducible exact Slot.head | (show Slot (_ :: _) (_ :: _) _ _ _; first | with_reducible exact Slot.head | apply Slot.tail)); rfl)
    · exact bin_addl n3 ((g1.trans (g2.trans g3)).keep _ _ h2) (by rw [List.length_map]; omega) ⟨rfl, e4.symm⟩
  · rw [n4, List.map_append, ← replicate_map]; rfl
end
section
variable {G : GC} {A : Around} {env : Env} {own : List Addr} {m : MH} {fa : Nat → Addr}
theorem b_due_cons {n : Nat} {v : MV} {r : PRow} {rs : List PRow} (Fa : Facts G fa) (IH : DueC G (fa 19) n) (hn : n ≤ 3) (hlen : rs.length ≤ n) (hr : ∀ x ∈ r :: rs, x.Ok) (hw : WF m) (hv : IsRows m v ((r :: rs).map PRow.row)) (hA : Good (n + 3) A) (hc : (cxOf G A env own 19).Ok) :
    ExecsTo (cxOf G A env own 19) (bodyOf (stmtAt 19)) ⟨[some v, none, none, none, none, none, none, none, none, none, none, none, none, none, none, none, none, none, none], m⟩ fun fl st' => outOf (DueOut m (dueF (n + 1) (r :: rs))) fl st'.m := by
  have hrange : GlobIs G "range" (.type "range") := Fa.ty "range" (by decide)
  have hzip : GlobIs G "zip" (.type "zip") := Fa.ty "zip" (by decide)
  have hsum : GlobIs G "sum" (.builtin "sum") := Fa.bi "sum" (by decide)
  have hmax : GlobIs G "max" (.builtin "max") := Fa.bi "max" (by decide)
  have hmin : GlobIs G "min" (.builtin "min") := Fa.bi "min" (by decide)
  have hlenb : GlobIs G "len" (.builtin "len") := Fa.bi "len" (by decide)
  have htimes : GlobIs G "_law_times" (.ref (fa 18)) := Fa.def_ (18, "_law_times") (by decide)
  have hunder : GlobIs G "_law_under" (.ref (fa 17)) := Fa.def_ (17, "_law_under") (by decide)
  have hcolumns : GlobIs G "_law_columns" (.ref (fa 16)) := Fa.def_ (16, "_law_columns") (by decide)
  have hdue : GlobIs G "_law_due" (.ref (fa 19)) := Fa.def_ (19, "_law_due") (by decide)
  have hr0 := hr r (.head _)
  obtain ⟨vi, vs, rfl, hvi, hvs⟩ := hv
  have hvl : vs.length = rs.length + 1 := by rw [hvs.len, List.length_map]; rfl
  refine xs_cons (x_if (Te.to (b := false) (t_empty (rs := r :: rs) hw hr ⟨vi, vs, rfl, hvi, hvs⟩ hA hc) ?_))
  rw [if_neg Bool.false_ne_true]
  have g1 : Grow m (m.alloc (.list [])) := .alloc hw _
  generalize m.alloc (.list []) = m₁ at g1 ⊢
  refine xs_nil ?_
  dsimp only
  have hv1 : IsRows m₁ (.ref vi) ((r :: rs).map PRow.row) := IsRows.grow g1 ⟨vi, vs, rfl, hvi, hvs⟩
  refine xs_cons (Ex.to (f := .next) (st' := ⟨[some (.ref vi), some (.int r.often), none, none, none, none, none, none, none, none, none, none, none, none, none, none, none, none, none], m₁⟩) ?_ ?_)
  · apply Ex.set hc
    · exact row_get (y := .int r.often) hc hv1 (k := 0) (r := r.row) rfl (by (apply Ev.nm (by assumption); (repeat first | with_reducible exact Slot.head | (show Slot (_ :: _) (_ :: _) _ _ _; first | with_reducible exact Slot.head | apply Slot.tail)); rfl)) Ev.int (by simp; omega) (by decide) rfl (by decide)
    · (focus repeat first | with_reducible exact Put.headL | with_reducible exact Put.headC | (show Put (_ :: _) (_ :: _) _ _ _; first | with_reducible exact Put.headL | with_reducible exact Put.headC | apply Put.tail))
  dsimp only
  refine xs_cons (Ex.to (f := .next) (st' := ⟨[some (.ref vi), some (.int r.often), some (.str r.deed), none, none, none, none, none, none, none, none, none, none, none, none, none, none, none, none], m₁⟩) ?_ ?_)
  · apply Ex.set hc
    · exact row_get (y := .str r.deed) hc hv1 (k := 0) (r := r.row) rfl (by (apply Ev.nm (by assumption); (repeat first | with_reducible exact Slot.head | (show Slot (_ :: _) (_ :: _) _ _ _; first | with_reducible exact Slot.head | apply Slot.tail)); rfl)) Ev.int (by simp; omega) (by decide) rfl (by decide)
    · (focus repeat first | with_reducible exact Put.headL | with_reducible exact Put.headC | (show Put (_ :: _) (_ :: _) _ _ _; first | with_reducible exact Put.headL | with_reducible exact Put.headC | apply Put.tail))
  dsimp only
  refine xs_cons ?_
  refine x_assign hc (ev_call hc (Ev.to (v := .st (.ref (fa 17))) (m := m₁) (by (apply Ev.glob (by assumption); (focus repeat first | with_reducible exact Glob.head | (show Glob (_ :: _) _; first | with_reducible exact Glob.head | apply Glob.tail)); assumption)) (args_cons (Ev.to (v := .ref vi) (m := m₁) (by (apply Ev.nm (by assumption); (repeat first | with_reducible exact Slot.head | (show Slot (_ :: _) (_ :: _) _ _ _; first | with_reducible exact Slot.head | apply Slot.tail)); rfl)) (args_nil ⟨keeps_stat (Fa.fn 17 (by decide)).keep, ?_⟩)))))
  refine HT.mono (c_under (n := n + 1) (r0 := r.row) (rest := rs.map PRow.row) g1.wf hv1 (rows_asc hr) (by rw [List.length_map]; omega) hA (Fa.fn 17 (by decide)) (Fa.fn 16 (by decide)) hcolumns hlenb hmin hzip hrange).ht ?_
  rintro y m₂ ⟨rfl, g2⟩
  refine ⟨_, by (focus repeat first | with_reducible exact Put.headL | with_reducible exact Put.headC | (show Put (_ :: _) (_ :: _) _ _ _; first | with_reducible exact Put.headL | with_reducible exact Put.headC | apply Put.tail)), ?_⟩
  dsimp only
  have hu : underN r.row.lead (rs.map PRow.row) = underP r.lead rs := rfl
  rw [hu]
  have hul := underP_le r.lead rs
  generalize hU : underP r.lead rs = u at hul ⊢
  have fa' := due_fits n (rs := rs.take u) fun x h => hr x (.tail _ (List.mem_of_mem_take h))
  have fb' := due_fits n (rs := rs.drop u) fun x h => hr x (.tail _ (List.mem_of_mem_drop h))
  have h4 : 4 ^ n ≤ 64 := Nat.pow_le_pow_right (by decide) hn
  have hbits : dueBits n ≤ 1000 := by
    have : ∀ k, k ≤ 3 → dueBits k ≤ 1000 := by decide
    exact this n hn
  have hD : dueF (n + 1) (r :: rs) = dueStep (dueF n) r rs := rfl
  rw [hD]
  unfold dueStep
  rw [hU]
  have hv2 := hv1.grow g2
  obtain ⟨vi', vs2, e0, hvi2, hvs2⟩ := hv2
  cases e0
  have hvl2 : vs2.length = rs.length + 1 := by rw [hvs2.len, List.length_map]; rfl
  -- the rows under it
  obtain ⟨m₃, e3⟩ : ∃ x, x = m₂.alloc (.list ((vs2.drop 1).take (u + 1 - 1))) := ⟨_, rfl⟩
  have g3 : Grow m₂ m₃ := e3 ▸ .alloc g2.wf _
  have n3 : m₃.H m₂.n = some (.list ((vs2.drop 1).take (u + 1 - 1))) := e3 ▸ alloc_new _ _
  have hsub : IsRows m₃ (.ref m₂.n) ((rs.take u).map PRow.row) := ⟨_, _, rfl, n3, by
    rw [List.map_take]
    exact ((hvs2.drop 1).take u).mono fun _ _ z => z.grow g3⟩
  refine xs_cons (x_assignT (ev_call hc (Ev.to (v := .st (.ref (fa 19))) (m := m₂) (by (apply Ev.glob (by assumption); (focus repeat first | with_reducible exact Glob.head | (show Glob (_ :: _) _; first | with_reducible exact Glob.head | apply Glob.tail)); assumption)) (args_cons (Ev.to (v := .ref m₂.n) (m := m₃) ?_ (args_nil ⟨keeps_stat (Fa.fn 19 (by decide)).keep, ?_⟩))))))
  · refine Ev.slice (ov := .ref vi) (m₁ := m₂) (m₂ := m₂) (m₃ := m₂) (m₄ := m₂) (lo := some ((1 : Nat) : Int)) (hi := some ((u + 1 : Nat) : Int)) (sp := none) hc ?_ ?_ ?_ ?_ ?_ fun _ _ => rfl
    · (apply Ev.nm (by assumption); (repeat first | with_reducible exact Slot.head | (show Slot (_ :: _) (_ :: _) _ _ _; first | with_reducible exact Slot.head | apply Slot.tail)); rfl)
    · exact Pt.some Ev.int
    · refine Pt.some ?_
      apply Ev.bin hc
      · (apply Ev.nm (by assumption); (repeat first | with_reducible exact Slot.head | (show Slot (_ :: _) (_ :: _) _ _ _; first | with_reducible exact Slot.head | apply Slot.tail)); rfl)
      · exact Ev.int
      · exact bin_add ⟨by rfl, rfl⟩
    · exact Pt.none
    · exact slice_mid hvi2 (by omega) (by omega) (by omega) ⟨rfl, e3.symm⟩
  refine HT.mono (IH (rs := rs.take u) (by rw [List.length_take]; omega) (fun x h => hr x (.tail _ (List.mem_of_mem_take h))) g3.wf hsub hA).ht ?_
  rintro y m₄ ⟨g4, i, dl, tv, rfl, hi, hdl, htv⟩
  generalize hDa : dueF n (rs.take u) = da at fa' hi hdl htv ⊢
  refine asg_tuple hc hi rfl ?_
  refine asg_name hc ⟨_, by (focus repeat first | with_reducible exact Put.headL | with_reducible exact Put.headC | (show Put (_ :: _) (_ :: _) _ _ _; first | with_reducible exact Put.headL | with_reducible exact Put.headC | apply Put.tail)), ?_⟩
  refine asg_name hc ⟨_, by (focus repeat first | with_reducible exact Put.headL | with_reducible exact Put.headC | (show Put (_ :: _) (_ :: _) _ _ _; first | with_reducible exact Put.headL | with_reducible exact Put.headC | apply Put.tail)), ?_⟩
  refine asg_name hc ⟨_, by (focus repeat first | with_reducible exact Put.headL | with_reducible exact Put.headC | (show Put (_ :: _) (_ :: _) _ _ _; first | with_reducible exact Put.headL | with_reducible exact Put.headC | apply Put.tail)), ?_⟩
  dsimp only [AsgsTo]
  obtain ⟨tl, ts, rfl, htl, hts, htf, htd⟩ := htv
  refine xs_cons (FT.mono (d_lines (m₀ := m₃) g4 htl hts htf htd fa'.t3 hr0 hc) ?_)
  rintro f ⟨vars, m₅⟩ ⟨rfl, ⟨w1, w2, hvars⟩, g5, hn5, hoff, htl5, hts5⟩
  dsimp only at hvars g5 hn5 hoff htl5 hts5
  subst hvars
  dsimp only
  have hdl5 : m₅.H dl = some (.list (da.deeds.map fun r => .str r.deed)) := (hoff dl (not_row hts fa'.t3 hdl)).trans hdl
  have hts5' : IsTab m₅ (.ref tl) (da.table.map (lineStep r)) := ⟨tl, ts, rfl, htl5, hts5⟩
  have ht3 := fa'.t3.line r
  have htb := fa'.tb.line fa'.t3 hr0
  refine xs_cons (Ex.to (f := .next) (st' := ⟨duePat (.ref vi) r.often r.deed u (some (.ref dl)) (some (.ref tl)) (some (.int da.nested)) w1 w2 (some (.ref tl)) none none none none, m₅⟩) ?_ ?_)
  · apply Ex.set hc
    · (apply Ev.nm (by assumption); (repeat first | with_reducible exact Slot.head | (show Slot (_ :: _) (_ :: _) _ _ _; first | with_reducible exact Slot.head | apply Slot.tail)); rfl)
    · (focus repeat first | with_reducible exact Put.headL | with_reducible exact Put.headC | (show Put (_ :: _) (_ :: _) _ _ _; first | with_reducible exact Put.headL | with_reducible exact Put.headC | apply Put.tail))
  dsimp only
  refine xs_cons (FT.mono (d_power (n := n + 2) Fa rfl hr0.lo hr0.hi g5 hts5' ht3 htb (by omega) hA hc) ?_)
  rintro f ⟨vars, m₆⟩ ⟨rfl, ⟨pv, w3, hvars, hpv⟩, g6⟩
  dsimp only at hvars hpv g6
  subst hvars
  dsimp only
  have g26 : Grow m₂ m₆ := g3.trans (g5.trans g6)
  have hvi6 := g26.keep _ _ hvi2
  have hvs6 : All2 (IsRow m₆) vs2 ((r :: rs).map PRow.row) := hvs2.mono fun _ _ z => z.grow g26
  -- the rows behind
  obtain ⟨m₇, e7⟩ : ∃ x, x = m₆.alloc (.list (vs2.drop (u + 1))) := ⟨_, rfl⟩
  have g7 : Grow m₆ m₇ := e7 ▸ .alloc g6.wf _
  have n7 : m₇.H m₆.n = some (.list (vs2.drop (u + 1))) := e7 ▸ alloc_new _ _
  have hsub2 : IsRows m₇ (.ref m₆.n) ((rs.drop u).map PRow.row) := ⟨_, _, rfl, n7, by
    rw [List.map_drop]
    exact (hvs6.drop (u + 1)).mono fun _ _ z => z.grow g7⟩
  refine xs_cons (x_assignT (ev_call hc (Ev.to (v := .st (.ref (fa 19))) (m := m₆) (by (apply Ev.glob (by assumption); (focus repeat first | with_reducible exact Glob.head | (show Glob (_ :: _) _; first | with_reducible exact Glob.head | apply Glob.tail)); assumption)) (args_cons (Ev.to (v := .ref m₆.n) (m := m₇) ?_ (args_nil ⟨keeps_stat (Fa.fn 19 (by decide)).keep, ?_⟩))))))
  · refine Ev.slice (ov := .ref vi) (m₁ := m₆) (m₂ := m₆) (m₃ := m₆) (m₄ := m₆) (lo := some ((u + 1 : Nat) : Int)) (hi := none) (sp := none) hc ?_ ?_ ?_ ?_ ?_ fun _ _ => rfl
    · (apply Ev.nm (by assumption); (repeat first | with_reducible exact Slot.head | (show Slot (_ :: _) (_ :: _) _ _ _; first | with_reducible exact Slot.head | apply Slot.tail)); rfl)
    · refine Pt.some ?_
      apply Ev.bin hc
      · (apply Ev.nm (by assumption); (repeat first | with_reducible exact Slot.head | (show Slot (_ :: _) (_ :: _) _ _ _; first | with_reducible exact Slot.head | apply Slot.tail)); rfl)
      · exact Ev.int
      · exact bin_add ⟨by rfl, rfl⟩
    · exact Pt.none
    · exact Pt.none
    · exact slice_tail hvi6 (by omega) (by omega) ⟨rfl, e7.symm⟩
  refine HT.mono (IH (rs := rs.drop u) (by rw [List.length_drop]; omega) (fun x h => hr x (.tail _ (List.mem_of_mem_drop h))) g7.wf hsub2 hA).ht ?_
  rintro y m₈ ⟨g8, i', ll, bv, rfl, hi', hll, hbv⟩
  generalize hDb : dueF n (rs.drop u) = db at fb' hi' hll hbv ⊢
  refine asg_tuple hc hi' rfl ?_
  refine asg_name hc ⟨_, by (focus repeat first | with_reducible exact Put.headL | with_reducible exact Put.headC | (show Put (_ :: _) (_ :: _) _ _ _; first | with_reducible exact Put.headL | with_reducible exact Put.headC | apply Put.tail)), ?_⟩
  refine asg_name hc ⟨_, by (focus repeat first | with_reducible exact Put.headL | with_reducible exact Put.headC | (show Put (_ :: _) (_ :: _) _ _ _; first | with_reducible exact Put.headL | with_reducible exact Put.headC | apply Put.tail)), ?_⟩
  refine asg_name hc ⟨_, by (focus repeat first | with_reducible exact Put.headL | with_reducible exact Put.headC | (show Put (_ :: _) (_ :: _) _ _ _; first | with_reducible exact Put.headL | with_reducible exact Put.headC | apply Put.tail)), ?_⟩
  dsimp only [AsgsTo]
  obtain ⟨N, hN⟩ : ∃ N : Nat, N = (if 1 < r.often then da.nested + 1 else da.nested) := ⟨_, rfl⟩
  rw [← hN]
  refine xs_cons (Ex.to (f := .next) (st' := ⟨duePat (.ref vi) r.often r.deed u (some (.ref dl)) (some (.ref tl)) (some (.int (N : Int))) w1 w2 (some pv) w3 (some (.ref ll)) (some bv) (some (.int db.nested)), m₈⟩) ?_ ?_)
  · apply Ex.set hc
    · apply Ev.ife (z := decide ((1 : Int) < r.often)) (m₁ := m₈) (v := .int (N : Int))
      · apply Te.cmp hc
        · (apply Ev.nm (by assumption); (repeat first | with_reducible exact Slot.head | (show Slot (_ :: _) (_ :: _) _ _ _; first | with_reducible exact Slot.head | apply Slot.tail)); rfl)
        · exact Ev.int
        · exact cmp_gt ⟨rfl, rfl⟩
      · by_cases h1 : 1 < r.often
        · rw [hN, if_pos h1, decide_eq_true (by omega), if_pos rfl]
          apply Ev.bin hc
          · (apply Ev.nm (by assumption); (repeat first | with_reducible exact Slot.head | (show Slot (_ :: _) (_ :: _) _ _ _; first | with_reducible exact Slot.head | apply Slot.tail)); rfl)
          · exact Ev.int
          · exact bin_add ⟨by rfl, rfl⟩
        · rw [hN, if_neg h1, decide_eq_false (by omega), if_neg Bool.false_ne_true]
          (apply Ev.nm (by assumption); (repeat first | with_reducible exact Slot.head | (show Slot (_ :: _) (_ :: _) _ _ _; first | with_reducible exact Slot.head | apply Slot.tail)); rfl)
    · (focus repeat first | with_reducible exact Put.headL | with_reducible exact Put.headC | (show Put (_ :: _) (_ :: _) _ _ _; first | with_reducible exact Put.headL | with_reducible exact Put.headC | apply Put.tail))
  dsimp only
  have g58 : Grow m₅ m₈ := g6.trans (g7.trans g8)
  obtain ⟨k, m₉, hE, g9, hk⟩ := e_deeds (G := G) (A := A) (env := env) (own := own) (v := .ref vi) (o := r.often) (deed := r.deed) (often := r.often) (many := u) (t := some (.ref tl)) (nested := some (.int (N : Int))) (w1 := w1) (w2 := w2) (pv := some pv) (w3 := w3) (behind := some bv) (beside := some (.int db.nested)) (r := r) rfl rfl hr0.hi (g58.keep _ _ hdl5) hll g8.wf (by have := fa'.len; omega) (by have := fb'.len; omega) hc
  refine xs_cons (x_ret (ev_tuple hc (args_cons (Ev.to hE (args_cons (ev_call hc (Ev.to (v := .st (.ref (fa 18))) (m := m₉) (by (apply Ev.glob (by assumption); (focus repeat first | with_reducible exact Glob.head | (show Glob (_ :: _) _; first | with_reducible exact Glob.head | apply Glob.tail)); assumption)) (args_cons (Ev.to (v := bv) (m := m₉) (by (apply Ev.nm (by assumption); (repeat first | with_reducible exact Slot.head | (show Slot (_ :: _) (_ :: _) _ _ _; first | with_reducible exact Slot.head | apply Slot.tail)); rfl)) (args_cons (Ev.to (v := pv) (m := m₉) (by (apply Ev.nm (by assumption); (repeat first | with_reducible exact Slot.head | (show Slot (_ :: _) (_ :: _) _ _ _; first | with_reducible exact Slot.head | apply Slot.tail)); rfl)) (args_nil ⟨keeps_stat (Fa.fn 18 (by decide)).keep, ?_⟩))))))))))))
  have hp3 := ht3.pow (r.often - 1)
  have hpb := htb.pow (r.often - 1) (by have := hr0.hi; omega)
  refine HT.mono (c_times (n := n + 2) g9.wf (hbv.tab.grow g9) (hpv.grow (g7.trans (g8.trans g9))) fb'.t3 hp3 (fun i j l => IntMulOk.of_le (fb'.tb i j) (hpb j l) (by omega)) hrange hsum hA (Fa.fn 18 (by decide))).ht ?_
  rintro y m₁₀ ⟨g10, hy⟩
  refine args_cons (ev_call hc (Ev.to (v := .st (.builtin "max")) (m := m₁₀) (by (apply Ev.glob (by assumption); (focus repeat first | with_reducible exact Glob.head | (show Glob (_ :: _) _; first | with_reducible exact Glob.head | apply Glob.tail)); assumption)) (args_cons (Ev.to (m := m₁₀) (by (apply Ev.nm (by assumption); (repeat first | with_reducible exact Slot.head | (show Slot (_ :: _) (_ :: _) _ _ _; first | with_reducible exact Slot.head | apply Slot.tail)); rfl)) (args_cons (Ev.to (m := m₁₀) (by (apply Ev.nm (by assumption); (repeat first | with_reducible exact Slot.head | (show Slot (_ :: _) (_ :: _) _ _ _; first | with_reducible exact Slot.head | apply Slot.tail)); rfl)) (args_nil ⟨keeps_builtin, call_max2 hc.hand (args_nil ⟨?_, ?_⟩)⟩)))))))
  · exact Nat.le_trans (by decide : 3 ≤ 1000) sizeLine_big
  · have gA : Grow m₂ m₁₀ := g26.trans (g7.trans (g8.trans (g9.trans g10)))
    have gB := gA.snoc (.tup [.ref k, y, .int (max (N : Int) db.nested)])
    refine ⟨g1.trans (g2.trans gB), m₁₀.n, k, y, rfl, ?_, (g10.snoc _).keep _ _ hk, (hy.since (g1.trans (g2.trans (g26.trans (g7.trans (g8.trans g9)))))).keep (.alloc g10.wf _)⟩
    refine (alloc_new _ _).trans ?_
    rw [show (max (N : Int) db.nested) = ((max N db.nested : Nat) : Int) by omega]
end
theorem sc19 : ScopeOk (scopeOf (stmtAt 19)) := by exact ⟨rfl, rfl, rfl, by decide +kernel, by decide +kernel, by decide +kernel, by decide +kernel, by decide +kernel⟩
theorem c_due {G : GC} {fa : Nat → Addr} (Fa : Facts G fa) (n : Nat) (hn : n ≤ 4) : DueC G (fa 19) n := by
  have nil : ∀ n {A : Around} {m : MH} {v : MV}, WF m → IsRows m v [] → Good (n + 3) A → CT G A (.st (.ref (fa 19))) [v] m fun y m' => DueOut m (dueF n []) y m' := fun n A m v hw hv hA =>
    c_of (n := n + 2) (bs := [(Str.ofString "rows", v)]) (vars := [some v, none, none, none, none, none, none, none, none, none, none, none, none, none, none, none, none, none, none]) hA (Fa.fn 19 (by decide)) sc19 (by exact bind1 (fun _ _ _ _ _ _ _ _ _ _ _ _ _ => by kernel_rfl)) (by (focus repeat first | exact Binds.nil | (apply Binds.cons; (focus repeat first | with_reducible exact Put.headL | with_reducible exact Put.headC | (show Put (_ :: _) (_ :: _) _ _ _; first | with_reducible exact Put.headL | with_reducible exact Put.headC | apply Put.tail))))) fun _ _ _ hA' hc => by
      have := b_due_nil hw hv hA' hc
      rw [dueF_nil] at this ⊢
      exact this
  induction n with
  | zero =>
    intro A m v rs hl hr hw hv hA
    cases rs with
    | nil => exact nil 0 hw hv hA
    | cons r rs => exact absurd hl (by simp)
  | succ n ih =>
    intro A m v rs hl hr hw hv hA
    cases rs with
    | nil => exact nil (n + 1) hw hv hA
    | cons r rs =>
      exact c_of (n := n + 3) (bs := [(Str.ofString "rows", v)]) (vars := [some v, none, none, none, none, none, none, none, none, none, none, none, none, none, none, none, none, none, none]) hA (Fa.fn 19 (by decide)) sc19 (by exact bind1 (fun _ _ _ _ _ _ _ _ _ _ _ _ _ => by kernel_rfl)) (by (focus repeat first | exact Binds.nil | (apply Binds.cons; (focus repeat first | with_reducible exact Put.headL | with_reducible exact Put.headC | (show Put (_ :: _) (_ :: _) _ _ _; first | with_reducible exact Put.headL | with_reducible exact Put.headC | apply Put.tail))))) fun _ _ _ hA' hc =>
        b_due_cons Fa (ih (by omega)) (by omega) (by simpa using hl) hr hw hv hA' hc
structure Wv where
  n : Int
  nt : Int
  b : Nat
  count : List Int
noncomputable def bumpPad (c : List Int) (b : Nat) : List Int := if c.length ≤ b then c ++ List.replicate (b + 1 - c.length) 0 else c
noncomputable def bump (c : List Int) (b : Nat) : List Int := (bumpPad c b).set b ((bumpPad c b).getD b 0 + 1)
noncomputable def wsGo (l : List Nat) : Wv → Wv := List.rec id (fun ch _ go s => if ch = 32 then go ⟨s.n + 1, s.nt, s.b + 1, s.count⟩ else if ch = 9 then go ⟨s.n + 1, s.nt + 1, 0, bump s.count s.b⟩ else s) l
noncomputable def wsOf (w : Str) : Wv := wsGo w.cps.toList ⟨0, 0, 0, []⟩
theorem wsGo_cons (ch : Nat) (l : List Nat) (s : Wv) : wsGo (ch :: l) s = if ch = 32 then wsGo l ⟨s.n + 1, s.nt, s.b + 1, s.count⟩ else if ch = 9 then wsGo l ⟨s.n + 1, s.nt + 1, 0, bump s.count s.b⟩ else s := rfl
noncomputable def Wv.simple (s : Wv) : Bool := decide ((s.count.length : Int) ≤ 1)
noncomputable def Wv.longest (s : Wv) : Int := max ((s.count.length : Int) - 1) s.b
noncomputable def ilStep (s : Wv) (ts : Nat) (il : Int) (k : Nat) : Int := il + ((ts : Int) + k).fdiv ts * s.count.getD (ts + k) 0
noncomputable def Wv.il (s : Wv) (ts : Nat) : Int := (List.range (s.count.length - ts)).foldl (ilStep s ts) 0
noncomputable def Wv.indent (s : Wv) (ts : Nat) : Int := s.b + ts * (s.il ts + s.nt)
noncomputable def Wv.sizes (a b : Wv) : Nat := (max a.longest b.longest + 1 + 1 - 2).toNat
noncomputable def Wv.less (a b : Wv) : Bool :=
  if b.n ≤ a.n then false else if a.simple && b.simple then decide (a.nt ≤ b.nt) else (List.range (a.sizes b)).all fun k => !decide (b.indent (2 + k) ≤ a.indent (2 + k))
theorem pad_len (c : List Int) (b : Nat) : b < (bumpPad c b).length := by
  unfold bumpPad
  split
  · rw [List.length_append, List.length_replicate]; omega
  · omega
theorem bump_len (c : List Int) (b : Nat) : (bump c b).length ≤ max c.length (b + 1) := by
  unfold bump bumpPad
  rw [List.length_set]
  split
  · rw [List.length_append, List.length_replicate]; omega
  · omega
theorem ws_bound (l : List Nat) : ∀ (s : Wv) (k : Nat), s.count.length ≤ k → s.b ≤ k → (wsGo l s).count.length ≤ k + l.length ∧ (wsGo l s).b ≤ k + l.length := by
  induction l with
  | nil => exact fun s k h1 h2 => ⟨h1, h2⟩
  | cons ch l ih =>
    intro s k h1 h2
    rw [wsGo_cons, List.length_cons]
    split
    · have := ih ⟨s.n + 1, s.nt, s.b + 1, s.count⟩ (k + 1) (by show s.count.length ≤ _; omega) (by show s.b + 1 ≤ _; omega)
      omega
    · split
      · have hb := bump_len s.count s.b
        have := ih ⟨s.n + 1, s.nt + 1, 0, bump s.count s.b⟩ (k + 1) (by show (bump s.count s.b).length ≤ _; omega) (Nat.zero_le _)
        omega
      · omega
theorem ws_lead (bits : List Bool) (rest : List Nat) (h : ∀ ch r, rest = ch :: r → ch ≠ 32 ∧ ch ≠ 9) : ∀ s, wsGo ((bits.map fun b => if b then 9 else 32) ++ rest) s = wsGo (bits.map fun b => if b then 9 else 32) s := by
  induction bits with
  | nil =>
    intro s
    cases rest with
    | nil => rfl
    | cons ch r =>
      obtain ⟨h1, h2⟩ := h ch r rfl
      show wsGo (ch :: r) s = s
      rw [wsGo_cons, if_neg h1, if_neg h2]
  | cons b bits ih =>
    intro s
    rw [List.map_cons, List.cons_append, wsGo_cons, wsGo_cons]
    rw [ih, ih]
noncomputable def leads : List (List Bool) := (List.range 5).flatMap fun n => Nat.rec [[]] (fun _ ls => ls.flatMap fun l => [false :: l, true :: l]) n
theorem less_leads : (leads.all fun a => leads.all fun b => (Wv.less (wsOf (leadOf a)) (wsOf (leadOf b)) == deeper (leadOf a) (leadOf b))) = true := by decide +kernel
noncomputable def methAt (k j : Nat) : Stmt := nthOf (bodyOf (stmtAt k)) j
noncomputable abbrev cxM (G : GC) (A : Around) (env : Env) (own : List Addr) (s : Stmt) : Cx := ⟨G, A, env, (scopeOf s).names, own, own, []⟩
structure WsK (G : GC) (C : Addr) (fm : Nat → Addr) : Prop where
  cls : ClsK G.K C
  makes : makesIn G.K C = true
  attrs : ∃ mc t1 t2, readsIn G.K C mc = true ∧ findCls G.K (.ref C) mc "S" = some (.val (.str " " t1)) ∧ findCls G.K (.ref C) mc "T" = some (.val (.str "\t" t2))
  fields : ∀ x ∈ ["raw", "n", "nt", "norm", "is_simple"], findIn G.K (.ref C) (Str.ofString x) = some none
  meth : ∀ p ∈ [(1, "__init__"), (2, "longest_run_of_spaces"), (3, "indent_level"), (6, "less")], FnIs G (methAt 2 p.1) (fm p.1) ∧ findIn G.K (.ref C) (Str.ofString p.2) = some (some (.ref (fm p.1))) ∧ isFn G.K (.ref (fm p.1)) = true
  glob : GlobIs G "Whitespace" (.ref C)
  keep : keepIn G.K (.ref C) = true
theorem FnIs.lt {G : GC} {s : Stmt} {f : Addr} (h : FnIs G s f) : f < G.N := let ⟨_, a, _⟩ := h.ex; a.lt
noncomputable abbrev wsFields (raw : Str) (s : Wv) (nm : Nat) : List (Str × MV) := [("raw", .str raw), ("n", .int s.n), ("nt", .int s.nt), ("norm", .ref nm), ("is_simple", .bool s.simple)]
noncomputable def IsWs (C : Addr) (m : MH) (v : MV) (s : Wv) : Prop :=
  ∃ i d nm ct raw, v = .ref i ∧ m.H i = some (.inst C d) ∧ m.H d = some (.dict (wsFields raw s nm)) ∧ m.H nm = some (.tup [.ref ct, .int s.b]) ∧ m.H ct = some (.tup (s.count.map .int))
theorem IsWs.grow {C : Addr} {m m' : MH} (g : Grow m m') {v : MV} {s : Wv} (h : IsWs C m v s) : IsWs C m' v s :=
  let ⟨i, d, nm, ct, raw, a, b, c, e, f⟩ := h; ⟨i, d, nm, ct, raw, a, g.keep _ _ b, g.keep _ _ c, g.keep _ _ e, g.keep _ _ f⟩
section
variable {c : Cx} {st : St} {m m₁ : MH} {target iter : Expr} {body : List Stmt} {pos : Pos}
theorem for_str_b {x : Str} (P : Nat → St → Prop) (B : St → Prop) (_ha : x.cps.all (· < 128) = true) (h0 : P 0 st)
    (step : ∀ k ch st, x.cps[k]? = some ch → P k st → AsgTo c target (.str (chr ch)) st fun st₁ => ExecsTo c body st₁ fun f st₂ => (f = .next ∧ P (k + 1) st₂) ∨ (f = .brk ∧ B st₂)) :
    ForN c target body [] (strSrc x) (x.cps.size + 1) (strSrc x).k0 st fun f st' => f = .next ∧ (P x.cps.size st' ∨ B st') := by
  suffices H : ∀ j k st, k + j = x.cps.size → P k st → ForN c target body [] (strSrc x) (j + 1) k st fun f st' => f = .next ∧ (P x.cps.size st' ∨ B st') from H _ 0 st (Nat.zero_add _) h0
  intro j
  induction j with
  | zero => intro k st hk hp; exact .inr ⟨st.m, ⟨by omega, rfl⟩, xs_nil ⟨rfl, .inl (by rw [← show k = x.cps.size by omega]; exact hp)⟩⟩
  | succ j ih =>
    intro k st hk hp
    have hlt : k < x.cps.size := by omega
    refine .inl ⟨⟨_, Array.getElem?_eq_getElem hlt⟩, ?_⟩
    rintro v m' k' ⟨ch, hch, rfl, rfl, rfl⟩
    refine AsgTo.mono (step k ch st hch hp) fun st₁ h => FT.mono h fun f st₂ z => ?_
    rcases z with ⟨rfl, z⟩ | ⟨rfl, z⟩
    · exact ih (k + 1) st₂ (by omega) z
    · exact ⟨rfl, .inr z⟩
theorem x_for_str_b (hc : c.Ok) {x : Str} (hi : Ev c iter st (.str x) m) (ha : x.cps.all (· < 128) = true) (P : Nat → St → Prop) (B : St → Prop) (h0 : P 0 ⟨st.vars, m⟩)
    (step : ∀ k ch st, x.cps[k]? = some ch → P k st → AsgTo c target (.str (chr ch)) st fun st₁ => ExecsTo c body st₁ fun f st₂ => (f = .next ∧ P (k + 1) st₂) ∨ (f = .brk ∧ B st₂))
    (hs : ∀ x, foldedSetIterable iter c.env x = pure x := by intro _; rfl) : ExecTo c (.For target iter body [] pos) st fun f st' => f = .next ∧ (P x.cps.size st' ∨ B st') :=
  x_for hc (ie_val hc (hi.to (iv_str hc.hand ha ⟨(fun z => nomatch z), _, for_str_b P B ha h0 step⟩))) hs
end
theorem chr_beq (a b : Nat) : (chr a == chr b) = decide (a = b) := by
  by_cases h : a = b
  · subst h; rw [decide_eq_true rfl]; exact beq_self_eq_true _
  · rw [decide_eq_false h]; exact beq_eq_false_iff_ne.mpr fun z => h (chr_inj z)
theorem drop_at {α : Type} {l : Array α} {k : Nat} {x : α} (h : l[k]? = some x) : l.toList.drop k = x :: l.toList.drop (k + 1) := by
  have hk : k < l.toList.length := by rw [Array.length_toList]; exact (Array.getElem?_eq_some_iff.mp h).1
  rw [List.drop_eq_getElem_cons hk]
  congr 1
  have := (Array.getElem?_eq_some_iff.mp h).2
  simpa using this
section
variable {G : GC} {A : Around} {env : Env} {own : List Addr} {m : MH} {C : Addr} {fm : Nat → Addr}
noncomputable def WsAt (v raw : MV) (w : Str) (m₀ : MH) (k : Nat) (st : St) : Prop :=
  ∃ s ct w8, st.vars = [some v, some raw, some (.str " "), some (.str "\t"), some (.ref ct), some (.int s.b), some (.int s.n), some (.int s.nt), w8, none, none, none] ∧ Grow m₀ st.m ∧ (∀ o, m₀.H ct ≠ some o) ∧ st.m.H ct = some (.list (s.count.map .int)) ∧
    s.count.length ≤ k ∧ s.b ≤ k ∧ wsGo (w.cps.toList.drop k) s = wsOf w
noncomputable def WsEnd (v raw : MV) (w : Str) (m₀ : MH) (st : St) : Prop :=
  ∃ ct w8, st.vars = [some v, some raw, some (.str " "), some (.str "\t"), some (.ref ct), some (.int (wsOf w).b), some (.int (wsOf w).n), some (.int (wsOf w).nt), w8, none, none, none] ∧ Grow m₀ st.m ∧ st.m.H ct = some (.list ((wsOf w).count.map .int))
theorem ws_turn {v raw : MV} {w : Str} {m₀ : MH} (hlen : w.cps.size < 100) (hg2 : GlobIs G "len" (.builtin "len")) (hc : (cxM G A env own (methAt 2 1)).Ok) {k ch : Nat} {st : St} (hch : w.cps[k]? = some ch) (hP : WsAt v raw w m₀ k st) :
    AsgTo (cxM G A env own (methAt 2 1)) (targetOf (nthOf (bodyOf (methAt 2 1)) 4)) (.str (chr ch)) st fun st₁ => ExecsTo (cxM G A env own (methAt 2 1)) (innerOf (nthOf (bodyOf (methAt 2 1)) 4)) st₁ fun f st₂ => (f = .next ∧ WsAt v raw w m₀ (k + 1) st₂) ∨ (f = .brk ∧ WsEnd v raw w m₀ st₂) := by
  have hk : k < w.cps.size := (Array.getElem?_eq_some_iff.mp hch).1
  obtain ⟨vars, m₁⟩ := st
  obtain ⟨⟨n, nt, b, count⟩, ct, w8, hv, hg, hf, hct, hl, hb, hgo⟩ := hP
  dsimp only at hv hg hct hl hb hgo
  subst hv
  rw [drop_at hch, wsGo_cons] at hgo
  dsimp only at hgo
  refine asg_name hc ⟨_, by (focus repeat first | with_reducible exact Put.headL | with_reducible exact Put.headC | (show Put (_ :: _) (_ :: _) _ _ _; first | with_reducible exact Put.headL | with_reducible exact Put.headC | apply Put.tail)), ?_⟩
  refine xs_cons (x_if (Te.to (b := decide (ch = 32)) (m := m₁) ?_ ?_))
  · apply Te.cmp hc
    · (apply Ev.nm (by assumption); (repeat first | with_reducible exact Slot.head | (show Slot (_ :: _) (_ :: _) _ _ _; first | with_reducible exact Slot.head | apply Slot.tail)); rfl)
    · (apply Ev.nm (by assumption); (repeat first | with_reducible exact Slot.head | (show Slot (_ :: _) (_ :: _) _ _ _; first | with_reducible exact Slot.head | apply Slot.tail)); rfl)
    · exact cmp_eqs ⟨by rw [show (Str.ofString " ") = chr 32 from rfl, chr_beq], rfl⟩
  · by_cases h32 : ch = 32
    · rw [if_pos h32] at hgo
      rw [if_pos (decide_eq_true h32)]
      refine xs_cons (Ex.to (f := .next) (st' := ⟨[some v, some raw, some (.str " "), some (.str "\t"), some (.ref ct), some (.int b), some (.int (n + 1)), some (.int nt), some (.str (chr ch)), none, none, none], m₁⟩) ?_ ?_)
      · apply Ex.set hc
        · apply Ev.bin hc
          · (apply Ev.nm (by assumption); (repeat first | with_reducible exact Slot.head | (show Slot (_ :: _) (_ :: _) _ _ _; first | with_reducible exact Slot.head | apply Slot.tail)); rfl)
          · exact Ev.int
          · exact bin_add ⟨rfl, rfl⟩
        · (focus repeat first | with_reducible exact Put.headL | with_reducible exact Put.headC | (show Put (_ :: _) (_ :: _) _ _ _; first | with_reducible exact Put.headL | with_reducible exact Put.headC | apply Put.tail))
      dsimp only
      refine xs_cons (Ex.to (f := .next) (st' := ⟨[some v, some raw, some (.str " "), some (.str "\t"), some (.ref ct), some (.int ((b + 1 : Nat) : Int)), some (.int (n + 1)), some (.int nt), some (.str (chr ch)), none, none, none], m₁⟩) ?_ ?_)
      · apply Ex.set (v := .int ((b + 1 : Nat) : Int)) hc
        · apply Ev.bin hc
          · (apply Ev.nm (by assumption); (repeat first | with_reducible exact Slot.head | (show Slot (_ :: _) (_ :: _) _ _ _; first | with_reducible exact Slot.head | apply Slot.tail)); rfl)
          · exact Ev.int
          · exact bin_add ⟨by rfl, rfl⟩
        · (focus repeat first | with_reducible exact Put.headL | with_reducible exact Put.headC | (show Put (_ :: _) (_ :: _) _ _ _; first | with_reducible exact Put.headL | with_reducible exact Put.headC | apply Put.tail))
      exact xs_nil (xs_nil (.inl ⟨rfl, ⟨n + 1, nt, b + 1, count⟩, ct, _, rfl, hg, hf, hct, by show count.length ≤ _; omega, by show b + 1 ≤ _; omega, hgo⟩))
    · rw [if_neg h32] at hgo
      rw [if_neg (by rw [decide_eq_false h32]; exact Bool.false_ne_true)]
      refine xs_cons (x_if (Te.to (b := decide (ch = 9)) (m := m₁) ?_ ?_))
      · apply Te.cmp hc
        · (apply Ev.nm (by assumption); (repeat first | with_reducible exact Slot.head | (show Slot (_ :: _) (_ :: _) _ _ _; first | with_reducible exact Slot.head | apply Slot.tail)); rfl)
        · (apply Ev.nm (by assumption); (repeat first | with_reducible exact Slot.head | (show Slot (_ :: _) (_ :: _) _ _ _; first | with_reducible exact Slot.head | apply Slot.tail)); rfl)
        · exact cmp_eqs ⟨by rw [show (Str.ofString "\t") = chr 9 from rfl, chr_beq], rfl⟩
      · by_cases h9 : ch = 9
        · rw [if_pos h9] at hgo
          rw [if_pos (decide_eq_true h9)]
          refine xs_cons (Ex.to (f := .next) (st' := ⟨[some v, some raw, some (.str " "), some (.str "\t"), some (.ref ct), some (.int b), some (.int (n + 1)), some (.int nt), some (.str (chr ch)), none, none, none], m₁⟩) ?_ ?_)
          · apply Ex.set hc
            · apply Ev.bin hc
              · (apply Ev.nm (by assumption); (repeat first | with_reducible exact Slot.head | (show Slot (_ :: _) (_ :: _) _ _ _; first | with_reducible exact Slot.head | apply Slot.tail)); rfl)
              · exact Ev.int
              · exact bin_add ⟨rfl, rfl⟩
            · (focus repeat first | with_reducible exact Put.headL | with_reducible exact Put.headC | (show Put (_ :: _) (_ :: _) _ _ _; first | with_reducible exact Put.headL | with_reducible exact Put.headC | apply Put.tail))
          dsimp only
          refine xs_cons (Ex.to (f := .next) (st' := ⟨[some v, some raw, some (.str " "), some (.str "\t"), some (.ref ct), some (.int b), some (.int (n + 1)), some (.int (nt + 1)), some (.str (chr ch)), none, none, none], m₁⟩) ?_ ?_)
          · apply Ex.set hc
            · apply Ev.bin hc
              · (apply Ev.nm (by assumption); (repeat first | with_reducible exact Slot.head | (show Slot (_ :: _) (_ :: _) _ _ _; first | with_reducible exact Slot.head | apply Slot.tail)); rfl)
              · exact Ev.int
              · exact bin_add ⟨rfl, rfl⟩
            · (focus repeat first | with_reducible exact Put.headL | with_reducible exact Put.headC | (show Put (_ :: _) (_ :: _) _ _ _; first | with_reducible exact Put.headL | with_reducible exact Put.headC | apply Put.tail))
          dsimp only
          have hsz := sizeLine_big
          refine xs_cons (FT.mono (Q := fun f st' => f = .next ∧ ∃ ct', st'.vars = [some v, some raw, some (.str " "), some (.str "\t"), some (.ref ct'), some (.int b), some (.int (n + 1)), some (.int (nt + 1)), some (.str (chr ch)), none, none, none] ∧ Grow m₀ st'.m ∧ (∀ o, m₀.H ct' ≠ some o) ∧ st'.m.H ct' = some (.list ((bumpPad count b).map .int))) ?_ ?_)
          · refine x_if (Te.to (b := decide ((count.length : Int) ≤ b)) (m := m₁) ?_ ?_)
            · apply Te.cmp hc
              · (apply Ev.nm (by assumption); (repeat first | with_reducible exact Slot.head | (show Slot (_ :: _) (_ :: _) _ _ _; first | with_reducible exact Slot.head | apply Slot.tail)); rfl)
              · apply Ev.call hc
                · (apply Ev.glob (by assumption); (focus repeat first | with_reducible exact Glob.head | (show Glob (_ :: _) _; first | with_reducible exact Glob.head | apply Glob.tail)); assumption)
                · apply Evs.cons
                  · (apply Ev.nm (by assumption); (repeat first | with_reducible exact Slot.head | (show Slot (_ :: _) (_ :: _) _ _ _; first | with_reducible exact Slot.head | apply Slot.tail)); rfl)
                  · exact Evs.nil
                  · rfl
                · exact keeps_builtin
                · exact call_len hct (by rw [List.length_map]; omega) ⟨rfl, rfl⟩
              · exact cmp_ge ⟨by rw [List.length_map], rfl⟩
            · by_cases hp : count.length ≤ b
              · rw [if_pos (decide_eq_true (by omega))]
                obtain ⟨m₂, e2⟩ : ∃ x, x = m₁.alloc (.list [.int 0]) := ⟨_, rfl⟩
                obtain ⟨m₃, e3⟩ : ∃ x, x = m₂.alloc (.list (List.replicate (b + 1 - count.length) [MV.int 0]).flatten) := ⟨_, rfl⟩
                obtain ⟨m₄, e4⟩ : ∃ x, x = m₃.alloc (.list (count.map .int ++ (List.replicate (b + 1 - count.length) [MV.int 0]).flatten)) := ⟨_, rfl⟩
                have g2 : Grow m₁ m₂ := e2 ▸ .alloc hg.wf _
                have g3 : Grow m₂ m₃ := e3 ▸ .alloc g2.wf _
                have g4 : Grow m₃ m₄ := e4 ▸ .alloc g3.wf _
                have n2 : m₂.H m₁.n = some (.list [.int 0]) := e2 ▸ alloc_new _ _
                have n3 : m₃.H m₂.n = some (.list (List.replicate (b + 1 - count.length) [MV.int 0]).flatten) := e3 ▸ alloc_new _ _
                have n4 : m₄.H m₃.n = some (.list (count.map .int ++ (List.replicate (b + 1 - count.length) [MV.int 0]).flatten)) := e4 ▸ alloc_new _ _
                have hfl : (List.replicate (b + 1 - count.length) [MV.int 0]).flatten = (List.replicate (b + 1 - count.length) (0 : Int)).map .int := by
                  rw [List.map_replicate]
                  induction b + 1 - count.length with
                  | zero => rfl
                  | succ j ih => rw [List.replicate_succ, List.replicate_succ, List.flatten_cons, ih]; rfl
                refine xs_cons (Ex.to (f := .next) (st' := ⟨[some v, some raw, some (.str " "), some (.str "\t"), some (.ref m₃.n), some (.int b), some (.int (n + 1)), some (.int (nt + 1)), some (.str (chr ch)), none, none, none], m₄⟩) ?_ ?_)
                · apply Ex.set (v := .ref m₃.n) hc
                  · apply Ev.bin (m₁ := m₁) (m₂ := m₃) hc
                    · (apply Ev.nm (by assumption); (repeat first | with_reducible exact Slot.head | (show Slot (_ :: _) (_ :: _) _ _ _; first | with_reducible exact Slot.head | apply Slot.tail)); rfl)
                    · apply Ev.bin (m₁ := m₂) (m₂ := m₂) hc
                      · rw [e2]
                        exact Ev.list hc (Evs.cons Ev.int Evs.nil) (by show 1 ≤ 1000; decide)
                      · apply Ev.bin (a := .int ((b : Int) - count.length)) hc
                        · apply Ev.bin (b := .int count.length) hc
                          · (apply Ev.nm (by assumption); (repeat first | with_reducible exact Slot.head | (show Slot (_ :: _) (_ :: _) _ _ _; first | with_reducible exact Slot.head | apply Slot.tail)); rfl)
                          · apply Ev.call hc
                            · (apply Ev.glob (by assumption); (focus repeat first | with_reducible exact Glob.head | (show Glob (_ :: _) _; first | with_reducible exact Glob.head | apply Glob.tail)); assumption)
                            · apply Evs.cons
                              · (apply Ev.nm (by assumption); (repeat first | with_reducible exact Slot.head | (show Slot (_ :: _) (_ :: _) _ _ _; first | with_reducible exact Slot.head | apply Slot.tail)); rfl)
                              · exact Evs.nil
                              · rfl
                            · exact keeps_builtin
                            · exact call_len (g2.keep _ _ hct) (by rw [List.length_map]; omega) ⟨by rw [List.length_map], rfl⟩
                          · exact bin_sub ⟨rfl, rfl⟩
                        · exact Ev.int
                        · exact bin_add ⟨rfl, rfl⟩
                      · exact bin_mull n2 (by omega) (by omega) (by rw [show ([MV.int 0]).length = 1 from rfl]; omega) ⟨rfl, by rw [show (b : Int) - count.length + 1 = ((b + 1 : Nat) : Int) - (count.length : Nat) by omega, Int.toNat_sub]; exact e3.symm⟩
                    · exact bin_addl ((g2.trans g3).keep _ _ hct) n3 (by rw [hfl, List.length_map, List.length_map, List.length_replicate]; omega) ⟨rfl, e4.symm⟩
                  · (focus repeat first | with_reducible exact Put.headL | with_reducible exact Put.headC | (show Put (_ :: _) (_ :: _) _ _ _; first | with_reducible exact Put.headL | with_reducible exact Put.headC | apply Put.tail))
                · refine xs_nil ⟨rfl, m₃.n, rfl, hg.trans (g2.trans (g3.trans g4)), fun o e => ?_, ?_⟩
                  · exact Nat.lt_irrefl _ (g3.wf _ _ ((hg.trans (g2.trans g3)).keep _ _ e))
                  · show m₄.H m₃.n = _
                    rw [n4, hfl, ← List.map_append]
                    unfold bumpPad
                    rw [if_pos hp]
              · rw [if_neg (by rw [decide_eq_false (by omega)]; exact Bool.false_ne_true)]
                refine xs_nil ⟨rfl, ct, rfl, hg, hf, ?_⟩
                show m₁.H ct = _
                unfold bumpPad
                rw [if_neg hp]; exact hct
          rintro f ⟨vars, m₂⟩ ⟨rfl, ct', hv, hg2', hf', hct'⟩
          dsimp only at hv hg2' hct'
          subst hv
          dsimp only
          have hpl := pad_len count b
          refine xs_cons (Ex.to (f := .next) (st' := ⟨[some v, some raw, some (.str " "), some (.str "\t"), some (.ref ct'), some (.int b), some (.int (n + 1)), some (.int (nt + 1)), some (.str (chr ch)), none, none, none], m₂.set ct' (.list ((bump count b).map .int))⟩) ?_ ?_)
          · apply Ex.setitem (v := .int ((bumpPad count b).getD b 0 + 1)) hc
            · apply Ev.bin hc
              · apply Ev.sub hc
                · (apply Ev.nm (by assumption); (repeat first | with_reducible exact Slot.head | (show Slot (_ :: _) (_ :: _) _ _ _; first | with_reducible exact Slot.head | apply Slot.tail)); rfl)
                · (apply Ev.nm (by assumption); (repeat first | with_reducible exact Slot.head | (show Slot (_ :: _) (_ :: _) _ _ _; first | with_reducible exact Slot.head | apply Slot.tail)); rfl)
                · exact fun value slice hs => idx_list hs hct' (Int.natCast_nonneg _) (by rw [Int.toNat_natCast]; exact ints_at hpl) (by omega) ⟨rfl, rfl⟩
              · exact Ev.int
              · exact bin_add ⟨rfl, rfl⟩
            · (apply Ev.nm (by assumption); (repeat first | with_reducible exact Slot.head | (show Slot (_ :: _) (_ :: _) _ _ _; first | with_reducible exact Slot.head | apply Slot.tail)); rfl)
            · (apply Ev.nm (by assumption); (repeat first | with_reducible exact Slot.head | (show Slot (_ :: _) (_ :: _) _ _ _; first | with_reducible exact Slot.head | apply Slot.tail)); rfl)
            · refine set_list hct' (Int.natCast_nonneg _) (by rw [List.length_map]; omega) (by omega) ⟨rfl, ?_⟩
              rw [Int.toNat_natCast]
              unfold bump
              rw [List.map_set]
          dsimp only
          refine xs_cons (Ex.to (f := .next) (st' := ⟨[some v, some raw, some (.str " "), some (.str "\t"), some (.ref ct'), some (.int ((0 : Nat) : Int)), some (.int (n + 1)), some (.int (nt + 1)), some (.str (chr ch)), none, none, none], m₂.set ct' (.list ((bump count b).map .int))⟩) ?_ ?_)
          · apply Ex.set (v := .int ((0 : Nat) : Int)) hc
            · exact Ev.int
            · (focus repeat first | with_reducible exact Put.headL | with_reducible exact Put.headC | (show Put (_ :: _) (_ :: _) _ _ _; first | with_reducible exact Put.headL | with_reducible exact Put.headC | apply Put.tail))
          have hbl := bump_len count b
          exact xs_nil (xs_nil (xs_nil (.inl ⟨rfl, ⟨n + 1, nt + 1, 0, bump count b⟩, ct', _, rfl, hg2'.set hf' (hg2'.wf _ _ hct'), hf', set_at _ _ _, by show (bump count b).length ≤ _; omega, Nat.zero_le _, hgo⟩)))
        · rw [if_neg h9] at hgo
          rw [if_neg (by rw [decide_eq_false h9]; exact Bool.false_ne_true)]
          have e : wsOf w = ⟨n, nt, b, count⟩ := hgo.symm
          refine xs_cons (x_brk (.inr ⟨rfl, ct, some (.str (chr ch)), ?_, hg, ?_⟩))
          · rw [e]
          · rw [e]; exact hct
end
theorem swaps2 {x y n1 n2 : Str} {px py tp vp p1 p2 : Pos} {k k' : Nat} {o₁ o₂ : Expr} {env : Env} (hb : env.blockKind = .function) (kx : env.kindOf x = some .local) (ky : env.kindOf y = some .local) (hne : y ≠ x) (hl : py.line = px.line)
    (hf : [Expr.Attribute o₁ n1 p1, .Attribute o₂ n2 p2].all (foldedForSure 8) = false) (hk : [Expr.Attribute o₁ n1 p1, .Attribute o₂ n2 p2].all (constantsAlone 8) = false) :
    swappedStores [.Tuple [.Name x px, .Name y py] k tp] (.Tuple [.Attribute o₁ n1 p1, .Attribute o₂ n2 p2] k' vp) env = pure (some [x, y]) := by
  have hd : [x, y].eraseDups = [x, y] := by
    rw [List.eraseDups_cons]
    simp [hne, List.eraseDups_cons]
  have hn : (if (env.kindOf x == some NameKind.local && px.line == px.line) = true then some x else none) = some x := by rw [kx, beq_self_eq_true px.line]; rfl
  have hn' : (if (env.kindOf y == some NameKind.local && py.line == px.line) = true then some y else none) = some y := by rw [ky, hl, beq_self_eq_true px.line]; rfl
  delta swappedStores
  dsimp only
  generalize hN : List.filterMap _ [Expr.Name x px, Expr.Name y py] = N
  have e : N = [x, y] := by
    rw [← hN, List.filterMap_cons_some (b := x), List.filterMap_cons_some (b := y)]
    · rfl
    · exact hn'
    · exact hn
  rw [e, hd, hb, hf, hk]
  rfl
section
variable {G : GC} {A : Around} {env : Env} {own : List Addr} {C : Addr} {fm : Nat → Addr}
theorem putF_1 (v a : MV) : putF "n" v [(("raw" : Str), a)] = [(("raw" : Str), a), ("n", v)] := rfl
theorem putF_2 (v a b : MV) : putF "nt" v [(("raw" : Str), a), ("n", b)] = [(("raw" : Str), a), ("n", b), ("nt", v)] := rfl
theorem putF_3 (v a b c : MV) : putF "norm" v [(("raw" : Str), a), ("n", b), ("nt", c)] = [(("raw" : Str), a), ("n", b), ("nt", c), ("norm", v)] := rfl
theorem putF_4 (v a b c d : MV) : putF "is_simple" v [(("raw" : Str), a), ("n", b), ("nt", c), ("norm", d)] = [(("raw" : Str), a), ("n", b), ("nt", c), ("norm", d), ("is_simple", v)] := rfl
theorem b_init0 {w : Str} {m : MH} {i d : Nat} {Q : MF → St → Prop} {ss : List Stmt} (W : WsK G C fm) (hi : m.H i = some (.inst C d)) (hd : m.H d = some (.dict [])) (hw : WF m) (hc : (cxM G A env own (methAt 2 1)).Ok)
    (h : ∀ cl m₁, Grow (m.set d (.dict [("raw", .str w)])) m₁ → (∀ o, (m.set d (.dict [("raw", .str w)])).H cl ≠ some o) → m₁.H cl = some (.list []) → ExecsTo (cxM G A env own (methAt 2 1)) ss ⟨[some (.ref i), some (.str w), some (.str " "), some (.str "\t"), some (.ref cl), some (.int ((0 : Nat) : Int)), some (.int ((0 : Nat) : Int)), some (.int ((0 : Nat) : Int)), none, none, none, none], m₁⟩ Q) :
    ExecsTo (cxM G A env own (methAt 2 1)) (nthOf (bodyOf (methAt 2 1)) 0 :: nthOf (bodyOf (methAt 2 1)) 1 :: nthOf (bodyOf (methAt 2 1)) 2 :: nthOf (bodyOf (methAt 2 1)) 3 :: ss) ⟨[some (.ref i), some (.str w), none, none, none, none, none, none, none, none, none, none], m⟩ Q := by
  have hWg : GlobIs G "Whitespace" (.ref C) := W.glob
  obtain ⟨mc, t1, t2, hrd, hS, hT⟩ := W.attrs
  have hbk : env.blockKind = .function := by
    have := hc.kind
    unfold Env.blockKind
    rw [show env.scope.kind = .function from this]; rfl
  have hdn : d < m.n := hw _ _ hd
  have hww : WF (m.set d (.dict [("raw", .str w)])) := fun j o e => by
    by_cases hj : j = d
    · rw [hj]; exact hdn
    · rw [set_off hj] at e; exact hw _ _ e
  refine xs_cons (Ex.to (f := .next) (st' := ⟨[some (.ref i), some (.str w), none, none, none, none, none, none, none, none, none, none], m.set d (.dict [("raw", .str w)])⟩) ?_ ?_)
  · apply Ex.setattr hc
    · (apply Ev.nm (by assumption); (repeat first | with_reducible exact Slot.head | (show Slot (_ :: _) (_ :: _) _ _ _; first | with_reducible exact Slot.head | apply Slot.tail)); rfl)
    · (apply Ev.nm (by assumption); (repeat first | with_reducible exact Slot.head | (show Slot (_ :: _) (_ :: _) _ _ _; first | with_reducible exact Slot.head | apply Slot.tail)); rfl)
    · exact set_inst W.cls hi hd (W.fields "raw" (by decide)) (Nat.zero_le _) ⟨rfl, rfl⟩
  dsimp only
  generalize m.set d (.dict [("raw", .str w)]) = mb at hww h ⊢
  refine xs_cons (x_swap2 hc (Ev.to (v := .str " ") (m := mb) ?_ (Ev.to (v := .str "\t") (m := mb) ?_ ⟨_, by (focus repeat first | with_reducible exact Put.headL | with_reducible exact Put.headC | (show Put (_ :: _) (_ :: _) _ _ _; first | with_reducible exact Put.headL | with_reducible exact Put.headC | apply Put.tail)), ⟨_, by (focus repeat first | with_reducible exact Put.headL | with_reducible exact Put.headC | (show Put (_ :: _) (_ :: _) _ _ _; first | with_reducible exact Put.headL | with_reducible exact Put.headC | apply Put.tail)), ?_⟩⟩)) (hw := swaps2 hbk ((hc.rel 2 _ _ rfl).elim id fun z => nomatch z.1) ((hc.rel 3 _ _ rfl).elim id fun z => nomatch z.1) (by decide) rfl (by rfl) (by rfl)))
  · apply Ev.attr hc
    · (apply Ev.glob (by assumption); (focus repeat first | with_reducible exact Glob.head | (show Glob (_ :: _) _; first | with_reducible exact Glob.head | apply Glob.tail)); assumption)
    · exact get_class hrd hS ⟨rfl, rfl⟩
  · apply Ev.attr hc
    · (apply Ev.glob (by assumption); (focus repeat first | with_reducible exact Glob.head | (show Glob (_ :: _) _; first | with_reducible exact Glob.head | apply Glob.tail)); assumption)
    · exact get_class hrd hT ⟨rfl, rfl⟩
  dsimp only
  have g1 : Grow mb (mb.alloc (.tup [.str " ", .str "\t"])) := .alloc hww _
  generalize mb.alloc (.tup [.str " ", .str "\t"]) = m₁ at g1 ⊢
  refine xs_cons (Ex.to (f := .next) (st' := ⟨[some (.ref i), some (.str w), some (.str " "), some (.str "\t"), some (.ref m₁.n), none, none, none, none, none, none, none], m₁.alloc (.list [])⟩) ?_ ?_)
  · apply Ex.set hc
    · apply Ev.list hc
      · exact Evs.nil
      · exact Nat.zero_le _
    · (focus repeat first | with_reducible exact Put.headL | with_reducible exact Put.headC | (show Put (_ :: _) (_ :: _) _ _ _; first | with_reducible exact Put.headL | with_reducible exact Put.headC | apply Put.tail))
  dsimp only
  refine xs_cons (x_assign3 (Ev.to (v := .int ((0 : Nat) : Int)) (m := m₁.alloc (.list [])) Ev.int (asg_name hc ⟨_, by (focus repeat first | with_reducible exact Put.headL | with_reducible exact Put.headC | (show Put (_ :: _) (_ :: _) _ _ _; first | with_reducible exact Put.headL | with_reducible exact Put.headC | apply Put.tail)), asg_name hc ⟨_, by (focus repeat first | with_reducible exact Put.headL | with_reducible exact Put.headC | (show Put (_ :: _) (_ :: _) _ _ _; first | with_reducible exact Put.headL | with_reducible exact Put.headC | apply Put.tail)), asg_name hc ⟨_, by (focus repeat first | with_reducible exact Put.headL | with_reducible exact Put.headC | (show Put (_ :: _) (_ :: _) _ _ _; first | with_reducible exact Put.headL | with_reducible exact Put.headC | apply Put.tail)), ?_⟩⟩⟩)))
  exact h _ _ (g1.snoc _) (fun o e => Nat.lt_irrefl _ (g1.wf _ _ (g1.keep _ _ e))) (alloc_new _ _)
end
theorem IsWs.init {C : Addr} {m : MH} {i d nm ct : Nat} {raw : Str} {s : Wv} (a : m.H i = some (.inst C d)) (b : m.H d = some (.dict (wsFields raw s nm))) (c : m.H nm = some (.tup [.ref ct, .int s.b])) (e : m.H ct = some (.tup (s.count.map .int))) : IsWs C m (.ref i) s := ⟨i, d, nm, ct, raw, rfl, a, b, c, e⟩
theorem sc_init : ScopeOk (scopeOf (methAt 2 1)) := by exact ⟨rfl, rfl, rfl, by decide +kernel, by decide +kernel, by decide +kernel, by decide +kernel, by decide +kernel⟩
theorem WsAt.end_ {v raw : MV} {w : Str} {m₀ : MH} {st : St} (h : WsAt v raw w m₀ w.cps.size st) : WsEnd v raw w m₀ st := by
  obtain ⟨s, ct, w8, hv, hg, _, hct, _, _, hgo⟩ := h
  rw [List.drop_of_length_le (by rw [Array.length_toList]; exact Nat.le_refl _)] at hgo
  have e : s = wsOf w := hgo
  subst e
  exact ⟨ct, w8, hv, hg, hct⟩
section
variable {G : GC} {A : Around} {env : Env} {own : List Addr} {C : Addr} {fm fa : Nat → Addr}
theorem b_init {w : Str} {m₀ : MH} (W : WsK G C fm) (Fa : Facts G fa) (hw : WF m₀) (ha : w.cps.all (· < 128) = true) (hlen : w.cps.size < 100) (hc : (cxM G A env own (methAt 2 1)).Ok) :
    ExecsTo (cxM G A env own (methAt 2 1)) (bodyOf (methAt 2 1)) ⟨[some (.ref (m₀.n + 1)), some (.str w), none, none, none, none, none, none, none, none, none, none], (m₀.alloc (.dict [])).alloc (.inst C m₀.n)⟩
      fun fl st' => outOf (fun y m' => y = .none ∧ Grow m₀ m' ∧ IsWs C m' (.ref (m₀.n + 1)) (wsOf w)) fl st'.m := by
  have hlenb : GlobIs G "len" (.builtin "len") := Fa.bi "len" (by decide)
  have htup : GlobIs G "tuple" (.type "tuple") := Fa.ty "tuple" (by decide)
  have hww : WF ((m₀.alloc (.dict [])).alloc (.inst C m₀.n)) := alloc_wf (alloc_wf hw _) _
  have g0 : Grow m₀ ((m₀.alloc (.dict [])).alloc (.inst C m₀.n)) := (Grow.alloc hw _).snoc _
  have hd0 : ((m₀.alloc (.dict [])).alloc (.inst C m₀.n)).H m₀.n = some (.dict []) := alloc_old (alloc_wf hw _) (alloc_new _ _)
  have hi0 : ((m₀.alloc (.dict [])).alloc (.inst C m₀.n)).H (m₀.n + 1) = some (.inst C m₀.n) := alloc_new _ _
  generalize (m₀.alloc (.dict [])).alloc (.inst C m₀.n) = m at hww g0 hd0 hi0 ⊢
  refine b_init0 W hi0 hd0 hww hc ?_
  intro cl m₁ g1 hcl hcl1
  have hdm : m₀.n < m.n := hww _ _ hd0
  have hid : m₀.n + 1 ≠ m₀.n := Nat.succ_ne_self _
  have hib : (m.set m₀.n (.dict [("raw", .str w)])).H (m₀.n + 1) = some (.inst C m₀.n) := by rw [set_off hid]; exact hi0
  have hdb : (m.set m₀.n (.dict [("raw", .str w)])).H m₀.n = some (.dict [("raw", .str w)]) := set_at _ _ _
  have gb : Grow m₀ (m.set m₀.n (.dict [("raw", .str w)])) := g0.set hw.no hdm
  generalize m.set m₀.n (.dict [("raw", .str w)]) = mb at g1 hcl hib hdb gb
  refine xs_cons (FT.mono (x_for_str_b hc (x := w) (m := m₁) ?hi ha (WsAt (.ref (m₀.n + 1)) (.str w) w mb) (WsEnd (.ref (m₀.n + 1)) (.str w) w mb) ?h0 fun k ch st hch hP => ws_turn hlen hlenb hc hch hP) ?fin)
  case hi =>
    apply Ev.attr hc
    · (apply Ev.nm (by assumption); (repeat first | with_reducible exact Slot.head | (show Slot (_ :: _) (_ :: _) _ _ _; first | with_reducible exact Slot.head | apply Slot.tail)); rfl)
    · exact get_inst W.cls (g1.keep _ _ hib) (g1.keep _ _ hdb) (W.fields "raw" (by decide)) rfl ⟨rfl, rfl⟩
  case h0 => exact ⟨⟨0, 0, 0, []⟩, cl, none, rfl, g1, hcl, hcl1, Nat.le_refl _, Nat.le_refl _, rfl⟩
  case fin =>
    rintro f st' ⟨rfl, h⟩
    have h : WsEnd (.ref (m₀.n + 1)) (.str w) w mb st' := h.elim WsAt.end_ id
    obtain ⟨vars, m₂⟩ := st'
    obtain ⟨ct, w8, hv, g2, hct⟩ := h
    dsimp only at hv g2 hct
    subst hv
    have hb := ws_bound w.cps.toList ⟨0, 0, 0, []⟩ 0 (Nat.le_refl _) (Nat.le_refl _)
    rw [show wsGo w.cps.toList ⟨0, 0, 0, []⟩ = wsOf w from rfl] at hb
    rw [Array.length_toList] at hb
    have hsz := sizeLine_big
    generalize wsOf w = s at hct hb ⊢
    have hi2 := g2.keep _ _ hib
    have hd2 := g2.keep _ _ hdb
    have hdn : m₀.n < m₂.n := g2.wf _ _ hd2
    have gg := gb.trans g2
    have hcd : ct ≠ m₀.n := fun z => by rw [z, hd2] at hct; cases hct
    dsimp only
    -- self.n, self.nt
    refine xs_cons (Ex.to (f := .next) (st' := ⟨[some (.ref (m₀.n + 1)), some (.str w), some (.str " "), some (.str "\t"), some (.ref ct), some (.int s.b), some (.int s.n), some (.int s.nt), w8, none, none, none], m₂.set m₀.n (.dict [("raw", .str w), ("n", .int s.n)])⟩) ?_ ?_)
    · apply Ex.setattr hc
      · (apply Ev.nm (by assumption); (repeat first | with_reducible exact Slot.head | (show Slot (_ :: _) (_ :: _) _ _ _; first | with_reducible exact Slot.head | apply Slot.tail)); rfl)
      · (apply Ev.nm (by assumption); (repeat first | with_reducible exact Slot.head | (show Slot (_ :: _) (_ :: _) _ _ _; first | with_reducible exact Slot.head | apply Slot.tail)); rfl)
      · exact set_inst W.cls hi2 hd2 (W.fields "n" (by decide)) (by simp) ⟨rfl, by rw [putF_1]⟩
    have g3 := gg.set (o := .dict [("raw", .str w), ("n", .int s.n)]) hw.no hdn
    have hi3 : (m₂.set m₀.n (.dict [("raw", .str w), ("n", .int s.n)])).H (m₀.n + 1) = some (.inst C m₀.n) := by rw [set_off hid]; exact hi2
    have hd3 : (m₂.set m₀.n (.dict [("raw", .str w), ("n", .int s.n)])).H m₀.n = some (.dict [("raw", .str w), ("n", .int s.n)]) := set_at _ _ _
    have hct3 : (m₂.set m₀.n (.dict [("raw", .str w), ("n", .int s.n)])).H ct = some (.list (s.count.map .int)) := by rw [set_off hcd]; exact hct
    have hn3 : m₀.n < (m₂.set m₀.n (.dict [("raw", .str w), ("n", .int s.n)])).n := hdn
    dsimp only
    generalize m₂.set m₀.n (.dict [("raw", .str w), ("n", .int s.n)]) = m₃ at g3 hi3 hd3 hct3 hn3 ⊢
    refine xs_cons (Ex.to (f := .next) (st' := ⟨[some (.ref (m₀.n + 1)), some (.str w), some (.str " "), some (.str "\t"), some (.ref ct), some (.int s.b), some (.int s.n), some (.int s.nt), w8, none, none, none], m₃.set m₀.n (.dict [("raw", .str w), ("n", .int s.n), ("nt", .int s.nt)])⟩) ?_ ?_)
    · apply Ex.setattr hc
      · (apply Ev.nm (by assumption); (repeat first | with_reducible exact Slot.head | (show Slot (_ :: _) (_ :: _) _ _ _; first | with_reducible exact Slot.head | apply Slot.tail)); rfl)
      · (apply Ev.nm (by assumption); (repeat first | with_reducible exact Slot.head | (show Slot (_ :: _) (_ :: _) _ _ _; first | with_reducible exact Slot.head | apply Slot.tail)); rfl)
      · exact set_inst W.cls hi3 hd3 (W.fields "nt" (by decide)) (by simp) ⟨rfl, by rw [putF_2]⟩
    have g4 := g3.set (o := .dict [("raw", .str w), ("n", .int s.n), ("nt", .int s.nt)]) hw.no hn3
    have hi4 : (m₃.set m₀.n (.dict [("raw", .str w), ("n", .int s.n), ("nt", .int s.nt)])).H (m₀.n + 1) = some (.inst C m₀.n) := by rw [set_off hid]; exact hi3
    have hd4 : (m₃.set m₀.n (.dict [("raw", .str w), ("n", .int s.n), ("nt", .int s.nt)])).H m₀.n = some (.dict [("raw", .str w), ("n", .int s.n), ("nt", .int s.nt)]) := set_at _ _ _
    have hct4 : (m₃.set m₀.n (.dict [("raw", .str w), ("n", .int s.n), ("nt", .int s.nt)])).H ct = some (.list (s.count.map .int)) := by rw [set_off hcd]; exact hct3
    dsimp only
    generalize m₃.set m₀.n (.dict [("raw", .str w), ("n", .int s.n), ("nt", .int s.nt)]) = m₄ at g4 hi4 hd4 hct4 ⊢
    -- self.norm
    obtain ⟨m₅, e5⟩ : ∃ x, x = m₄.alloc (.tup (s.count.map .int)) := ⟨_, rfl⟩
    obtain ⟨m₆, e6⟩ : ∃ x, x = m₅.alloc (.tup [.ref m₄.n, .int s.b]) := ⟨_, rfl⟩
    have g5 : Grow m₄ m₅ := e5 ▸ .alloc g4.wf _
    have g6 : Grow m₅ m₆ := e6 ▸ .alloc g5.wf _
    have n5 : m₅.H m₄.n = some (.tup (s.count.map .int)) := e5 ▸ alloc_new _ _
    have n6 : m₆.H m₅.n = some (.tup [.ref m₄.n, .int s.b]) := e6 ▸ alloc_new _ _
    have g46 := g5.trans g6
    have hd6 := g46.keep _ _ hd4
    have hi6 := g46.keep _ _ hi4
    have hn6 : m₀.n < m₆.n := g6.wf _ _ hd6
    refine xs_cons (Ex.to (f := .next) (st' := ⟨[some (.ref (m₀.n + 1)), some (.str w), some (.str " "), some (.str "\t"), some (.ref ct), some (.int s.b), some (.int s.n), some (.int s.nt), w8, none, none, none], m₆.set m₀.n (.dict [("raw", .str w), ("n", .int s.n), ("nt", .int s.nt), ("norm", .ref m₅.n)])⟩) ?_ ?_)
    · apply Ex.setattr (v := .ref m₅.n) (m₁ := m₆) (m₂ := m₆) hc
      · rw [e6]
        apply Ev.tuple (m₁ := m₅) hc
        · apply Evs.cons (a := .ref m₄.n) (m₁ := m₅)
          · apply Ev.call hc
            · (apply Ev.glob (by assumption); (focus repeat first | with_reducible exact Glob.head | (show Glob (_ :: _) _; first | with_reducible exact Glob.head | apply Glob.tail)); assumption)
            · apply Evs.cons
              · (apply Ev.nm (by assumption); (repeat first | with_reducible exact Slot.head | (show Slot (_ :: _) (_ :: _) _ _ _; first | with_reducible exact Slot.head | apply Slot.tail)); rfl)
              · exact Evs.nil
              · rfl
            · exact keeps_type
            · exact call_tupl hct4 (by rw [List.length_map]; omega) ⟨rfl, e5.symm⟩
          · apply Evs.cons
            · (apply Ev.nm (by assumption); (repeat first | with_reducible exact Slot.head | (show Slot (_ :: _) (_ :: _) _ _ _; first | with_reducible exact Slot.head | apply Slot.tail)); rfl)
            · exact Evs.nil
            · rfl
        · show 2 ≤ 1000; decide
      · (apply Ev.nm (by assumption); (repeat first | with_reducible exact Slot.head | (show Slot (_ :: _) (_ :: _) _ _ _; first | with_reducible exact Slot.head | apply Slot.tail)); rfl)
      · exact set_inst W.cls hi6 hd6 (W.fields "norm" (by decide)) (by simp) ⟨rfl, by rw [putF_3]⟩
    have g7 := (g4.trans g46).set (o := .dict [("raw", .str w), ("n", .int s.n), ("nt", .int s.nt), ("norm", .ref m₅.n)]) hw.no hn6
    have hi7 : (m₆.set m₀.n (.dict [("raw", .str w), ("n", .int s.n), ("nt", .int s.nt), ("norm", .ref m₅.n)])).H (m₀.n + 1) = some (.inst C m₀.n) := by rw [set_off hid]; exact hi6
    have hd7 : (m₆.set m₀.n (.dict [("raw", .str w), ("n", .int s.n), ("nt", .int s.nt), ("norm", .ref m₅.n)])).H m₀.n = some (.dict [("raw", .str w), ("n", .int s.n), ("nt", .int s.nt), ("norm", .ref m₅.n)]) := set_at _ _ _
    have hct7 : (m₆.set m₀.n (.dict [("raw", .str w), ("n", .int s.n), ("nt", .int s.nt), ("norm", .ref m₅.n)])).H ct = some (.list (s.count.map .int)) := by rw [set_off hcd]; exact g46.keep _ _ hct4
    have hd5 : m₅.n ≠ m₀.n := fun z => by rw [z, hd6] at n6; cases n6
    have hd4' : m₄.n ≠ m₀.n := fun z => by have := g6.keep _ _ n5; rw [z, hd6] at this; cases this
    have hnm7 : (m₆.set m₀.n (.dict [("raw", .str w), ("n", .int s.n), ("nt", .int s.nt), ("norm", .ref m₅.n)])).H m₅.n = some (.tup [.ref m₄.n, .int s.b]) := by rw [set_off hd5]; exact n6
    have hc7 : (m₆.set m₀.n (.dict [("raw", .str w), ("n", .int s.n), ("nt", .int s.nt), ("norm", .ref m₅.n)])).H m₄.n = some (.tup (s.count.map .int)) := by rw [set_off hd4']; exact g6.keep _ _ n5
    have hn7 : m₀.n < (m₆.set m₀.n (.dict [("raw", .str w), ("n", .int s.n), ("nt", .int s.nt), ("norm", .ref m₅.n)])).n := hn6
    dsimp only
    generalize m₆.set m₀.n (.dict [("raw", .str w), ("n", .int s.n), ("nt", .int s.nt), ("norm", .ref m₅.n)]) = m₇ at g7 hi7 hd7 hct7 hnm7 hc7 hn7 ⊢
    -- self.is_simple
    refine xs_cons (Ex.to (f := .next) (st' := ⟨[some (.ref (m₀.n + 1)), some (.str w), some (.str " "), some (.str "\t"), some (.ref ct), some (.int s.b), some (.int s.n), some (.int s.nt), w8, none, none, none], m₇.set m₀.n (.dict (wsFields w s m₅.n))⟩) ?_ ?_)
    · apply Ex.setattr (v := .bool s.simple) (m₁ := m₇) (m₂ := m₇) hc
      · apply Ev.cmp hc
        · apply Ev.call hc
          · (apply Ev.glob (by assumption); (focus repeat first | with_reducible exact Glob.head | (show Glob (_ :: _) _; first | with_reducible exact Glob.head | apply Glob.tail)); assumption)
          · apply Evs.cons
            · (apply Ev.nm (by assumption); (repeat first | with_reducible exact Slot.head | (show Slot (_ :: _) (_ :: _) _ _ _; first | with_reducible exact Slot.head | apply Slot.tail)); rfl)
            · exact Evs.nil
            · rfl
          · exact keeps_builtin
          · exact call_len hct7 (by rw [List.length_map]; omega) ⟨rfl, rfl⟩
        · exact Ev.int
        · exact cmp_le ⟨by unfold Wv.simple; rw [List.length_map], rfl⟩
      · (apply Ev.nm (by assumption); (repeat first | with_reducible exact Slot.head | (show Slot (_ :: _) (_ :: _) _ _ _; first | with_reducible exact Slot.head | apply Slot.tail)); rfl)
      · exact set_inst W.cls hi7 hd7 (W.fields "is_simple" (by decide)) (by simp) ⟨rfl, by rw [putF_4]⟩
    refine xs_nil ⟨rfl, g7.set hw.no hn7, IsWs.init (raw := w) ?_ (set_at _ _ _) (ct := m₄.n) ?_ ?_⟩
    · dsimp only; rw [set_off hid]; exact hi7
    · dsimp only; rw [set_off hd5]; exact hnm7
    · dsimp only; rw [set_off hd4']; exact hc7
end
theorem c_ws {G : GC} {A : Around} {m : MH} {C : Addr} {fm fa : Nat → Addr} {n : Nat} {w : Str} (W : WsK G C fm) (Fa : Facts G fa) (hw : WF m) (ha : w.cps.all (· < 128) = true) (hlen : w.cps.size < 100) (hA : Good (n + 1 + 1) A) :
    CT G A (.st (.ref C)) [.str w] m fun y m' => Grow m m' ∧ IsWs C m' y (wsOf w) := by
  obtain ⟨F, hf, ht⟩ := W.meth (1, "__init__") (by decide)
  refine call_class W.makes hf (beq_iff_eq.mp ht) F.lt fun A' hg => ?_
  exact c_of (n := n) (bs := [(Str.ofString "self", .ref (m.n + 1)), (Str.ofString "ws", .str w)]) (vars := [some (.ref (m.n + 1)), some (.str w), none, none, none, none, none, none, none, none, none, none]) (hg _ hA) F sc_init (by exact bind2 (fun _ _ _ _ _ _ _ _ _ _ _ _ _ _ => by kernel_rfl)) (by (focus repeat first | exact Binds.nil | (apply Binds.cons; (focus repeat first | with_reducible exact Put.headL | with_reducible exact Put.headC | (show Put (_ :: _) (_ :: _) _ _ _; first | with_reducible exact Put.headL | with_reducible exact Put.headC | apply Put.tail))))) fun _ _ _ _ hc => b_init W Fa hw ha hlen hc
theorem sc_longest : ScopeOk (scopeOf (methAt 2 2)) := by exact ⟨rfl, rfl, rfl, by decide +kernel, by decide +kernel, by decide +kernel, by decide +kernel, by decide +kernel⟩
theorem sc_indent : ScopeOk (scopeOf (methAt 2 3)) := by exact ⟨rfl, rfl, rfl, by decide +kernel, by decide +kernel, by decide +kernel, by decide +kernel, by decide +kernel⟩
section
variable {G : GC} {A : Around} {env : Env} {own : List Addr} {C : Addr} {fm fa : Nat → Addr} {m : MH}
theorem b_longest {v : MV} {s : Wv} (W : WsK G C fm) (Fa : Facts G fa) (hv : IsWs C m v s) (hl : s.count.length ≤ 1000) (hc : (cxM G A env own (methAt 2 2)).Ok) :
    ExecsTo (cxM G A env own (methAt 2 2)) (bodyOf (methAt 2 2)) ⟨[some v, none, none, none, none], m⟩ fun fl st' => outOf (fun y m' => y = .int s.longest ∧ m' = m) fl st'.m := by
  have hlenb : GlobIs G "len" (.builtin "len") := Fa.bi "len" (by decide)
  have hmax : GlobIs G "max" (.builtin "max") := Fa.bi "max" (by decide)
  obtain ⟨i, d, nm, ct, raw, rfl, hi, hd, hnm, hct⟩ := hv
  refine xs_cons (x_assignT (Ev.to (v := .ref nm) (m := m) ?_ (asg_tuple hc hnm rfl (asg_name hc ⟨_, by (focus repeat first | with_reducible exact Put.headL | with_reducible exact Put.headC | (show Put (_ :: _) (_ :: _) _ _ _; first | with_reducible exact Put.headL | with_reducible exact Put.headC | apply Put.tail)), asg_name hc ⟨_, by (focus repeat first | with_reducible exact Put.headL | with_reducible exact Put.headC | (show Put (_ :: _) (_ :: _) _ _ _; first | with_reducible exact Put.headL | with_reducible exact Put.headC | apply Put.tail)), ?_⟩⟩))))
  · apply Ev.attr hc
    · (apply Ev.nm (by assumption); (repeat first | with_reducible exact Slot.head | (show Slot (_ :: _) (_ :: _) _ _ _; first | with_reducible exact Slot.head | apply Slot.tail)); rfl)
    · exact get_inst W.cls hi hd (W.fields "norm" (by decide)) rfl ⟨rfl, rfl⟩
  dsimp only [AsgsTo]
  refine xs_ret (v := .int s.longest) (m := m) ?_ ⟨rfl, rfl⟩
  apply Ev.call hc
  · (apply Ev.glob (by assumption); (focus repeat first | with_reducible exact Glob.head | (show Glob (_ :: _) _; first | with_reducible exact Glob.head | apply Glob.tail)); assumption)
  · apply Evs.cons
    · apply Ev.bin hc
      · apply Ev.call hc
        · (apply Ev.glob (by assumption); (focus repeat first | with_reducible exact Glob.head | (show Glob (_ :: _) _; first | with_reducible exact Glob.head | apply Glob.tail)); assumption)
        · apply Evs.cons
          · (apply Ev.nm (by assumption); (repeat first | with_reducible exact Slot.head | (show Slot (_ :: _) (_ :: _) _ _ _; first | with_reducible exact Slot.head | apply Slot.tail)); rfl)
          · exact Evs.nil
          · rfl
        · exact keeps_builtin
        · exact call_lent hct (by rw [List.length_map]; omega) ⟨rfl, rfl⟩
      · exact Ev.int
      · exact bin_sub ⟨rfl, rfl⟩
    · apply Evs.cons
      · (apply Ev.nm (by assumption); (repeat first | with_reducible exact Slot.head | (show Slot (_ :: _) (_ :: _) _ _ _; first | with_reducible exact Slot.head | apply Slot.tail)); rfl)
      · exact Evs.nil
      · rfl
    · rfl
  · exact keeps_builtin
  · exact call_max2 hc.hand ⟨by unfold Wv.longest; rw [List.length_map], rfl⟩
theorem il_succ (s : Wv) (ts k : Nat) : (List.range (k + 1)).foldl (ilStep s ts) 0 = ilStep s ts ((List.range k).foldl (ilStep s ts) 0) k := by
  rw [List.range_succ, List.foldl_append]; rfl
theorem b_indent {v : MV} {s : Wv} {ts : Nat} (W : WsK G C fm) (Fa : Facts G fa) (hv : IsWs C m v s) (hl : s.count.length ≤ 1000) (h1 : 1 ≤ ts) (h2 : ts ≤ 10000) (hc : (cxM G A env own (methAt 2 3)).Ok) :
    ExecsTo (cxM G A env own (methAt 2 3)) (bodyOf (methAt 2 3)) ⟨[some v, some (.int ts), none, none, none, none, none, none], m⟩ fun fl st' => outOf (fun y m' => y = .int (s.indent ts) ∧ m' = m) fl st'.m := by
  have hlenb : GlobIs G "len" (.builtin "len") := Fa.bi "len" (by decide)
  have hrange : GlobIs G "range" (.type "range") := Fa.ty "range" (by decide)
  obtain ⟨i, d, nm, ct, raw, rfl, hi, hd, hnm, hct⟩ := hv
  refine xs_cons (x_assignT (Ev.to (v := .ref nm) (m := m) ?_ (asg_tuple hc hnm rfl (asg_name hc ⟨_, by (focus repeat first | with_reducible exact Put.headL | with_reducible exact Put.headC | (show Put (_ :: _) (_ :: _) _ _ _; first | with_reducible exact Put.headL | with_reducible exact Put.headC | apply Put.tail)), asg_name hc ⟨_, by (focus repeat first | with_reducible exact Put.headL | with_reducible exact Put.headC | (show Put (_ :: _) (_ :: _) _ _ _; first | with_reducible exact Put.headL | with_reducible exact Put.headC | apply Put.tail)), ?_⟩⟩))))
  · apply Ev.attr hc
    · (apply Ev.nm (by assumption); (repeat first | with_reducible exact Slot.head | (show Slot (_ :: _) (_ :: _) _ _ _; first | with_reducible exact Slot.head | apply Slot.tail)); rfl)
    · exact get_inst W.cls hi hd (W.fields "norm" (by decide)) rfl ⟨rfl, rfl⟩
  dsimp only [AsgsTo]
  refine xs_cons (Ex.to (f := .next) (st' := ⟨[some (.ref i), some (.int ts), some (.ref ct), some (.int s.b), some (.int 0), none, none, none], m⟩) ?_ ?_)
  · apply Ex.set hc
    · exact Ev.int
    · (focus repeat first | with_reducible exact Put.headL | with_reducible exact Put.headC | (show Put (_ :: _) (_ :: _) _ _ _; first | with_reducible exact Put.headL | with_reducible exact Put.headC | apply Put.tail))
  dsimp only
  refine xs_cons (FT.mono (x_for_range2 hc (a := ts) (b := s.count.length) (m₁ := m) (m₂ := m) (m := m) ?hf ?he ?he' (by omega) (by omega) (by omega) (by omega)
    (fun k st => (∃ w, st.vars = [some (.ref i), some (.int ts), some (.ref ct), some (.int s.b), some (.int ((List.range k).foldl (ilStep s ts) 0)), w, none, none]) ∧ st.m = m) ?h0 ?step) ?fin)
  case hf => (apply Ev.glob (by assumption); (focus repeat first | with_reducible exact Glob.head | (show Glob (_ :: _) _; first | with_reducible exact Glob.head | apply Glob.tail)); assumption)
  case he => (apply Ev.nm (by assumption); (repeat first | with_reducible exact Slot.head | (show Slot (_ :: _) (_ :: _) _ _ _; first | with_reducible exact Slot.head | apply Slot.tail)); rfl)
  case he' =>
    apply Ev.call hc
    · (apply Ev.glob (by assumption); (focus repeat first | with_reducible exact Glob.head | (show Glob (_ :: _) _; first | with_reducible exact Glob.head | apply Glob.tail)); assumption)
    · apply Evs.cons
      · (apply Ev.nm (by assumption); (repeat first | with_reducible exact Slot.head | (show Slot (_ :: _) (_ :: _) _ _ _; first | with_reducible exact Slot.head | apply Slot.tail)); rfl)
      · exact Evs.nil
      · rfl
    · exact keeps_builtin
    · exact call_lent hct (by rw [List.length_map]; omega) ⟨by rw [List.length_map], rfl⟩
  case h0 => exact ⟨⟨_, rfl⟩, rfl⟩
  case step =>
    rintro k ⟨vars, m₁⟩ hk ⟨⟨w, hv⟩, hm⟩
    dsimp only at hv hm
    subst hv hm
    have hk' : ts + k < s.count.length := by omega
    rw [il_succ]
    generalize (List.range k).foldl (ilStep s ts) 0 = il
    refine asg_name hc ⟨_, by (focus repeat first | with_reducible exact Put.headL | with_reducible exact Put.headC | (show Put (_ :: _) (_ :: _) _ _ _; first | with_reducible exact Put.headL | with_reducible exact Put.headC | apply Put.tail)), ?_⟩
    refine xs_cons (Ex.to (f := .next) (st' := ⟨[some (.ref i), some (.int ts), some (.ref ct), some (.int s.b), some (.int (ilStep s ts il k)), some (.int (ts + k)), none, none], m₁⟩) ?_ (xs_nil ⟨.inl rfl, ⟨_, rfl⟩, rfl⟩))
    apply Ex.set (v := .int (ilStep s ts il k)) hc
    · apply Ev.bin hc
      · (apply Ev.nm (by assumption); (repeat first | with_reducible exact Slot.head | (show Slot (_ :: _) (_ :: _) _ _ _; first | with_reducible exact Slot.head | apply Slot.tail)); rfl)
      · apply Ev.bin hc
        · apply Ev.bin hc
          · (apply Ev.nm (by assumption); (repeat first | with_reducible exact Slot.head | (show Slot (_ :: _) (_ :: _) _ _ _; first | with_reducible exact Slot.head | apply Slot.tail)); rfl)
          · (apply Ev.nm (by assumption); (repeat first | with_reducible exact Slot.head | (show Slot (_ :: _) (_ :: _) _ _ _; first | with_reducible exact Slot.head | apply Slot.tail)); rfl)
          · exact bin_div (by omega) (PyProof.noPylong_small (by omega)) ⟨rfl, rfl⟩
        · apply Ev.sub (v := .int (s.count.getD (ts + k) 0)) hc
          · (apply Ev.nm (by assumption); (repeat first | with_reducible exact Slot.head | (show Slot (_ :: _) (_ :: _) _ _ _; first | with_reducible exact Slot.head | apply Slot.tail)); rfl)
          · (apply Ev.nm (by assumption); (repeat first | with_reducible exact Slot.head | (show Slot (_ :: _) (_ :: _) _ _ _; first | with_reducible exact Slot.head | apply Slot.tail)); rfl)
          · exact fun value slice hs => idx_tup hs hct (by omega) (by rw [show ((ts : Int) + k).toNat = ts + k by omega]; exact ints_at hk') (by omega) ⟨rfl, rfl⟩
        · refine bin_mul (.of_left (bits_small ?_)) ⟨rfl, rfl⟩
          have := natAbs_fdiv_le ((ts : Int) + k) ts
          omega
      · exact bin_add ⟨rfl, rfl⟩
    · (focus repeat first | with_reducible exact Put.headL | with_reducible exact Put.headC | (show Put (_ :: _) (_ :: _) _ _ _; first | with_reducible exact Put.headL | with_reducible exact Put.headC | apply Put.tail))
  case fin =>
    rintro f ⟨vars, m₁⟩ ⟨rfl, ⟨w, hv⟩, hm⟩
    dsimp only at hv hm
    subst hv hm
    dsimp only
    rw [Int.toNat_sub s.count.length ts]
    refine xs_ret (v := .int (s.indent ts)) (m := m₁) ?_ ⟨rfl, rfl⟩
    apply Ev.bin hc
    · (apply Ev.nm (by assumption); (repeat first | with_reducible exact Slot.head | (show Slot (_ :: _) (_ :: _) _ _ _; first | with_reducible exact Slot.head | apply Slot.tail)); rfl)
    · apply Ev.bin hc
      · (apply Ev.nm (by assumption); (repeat first | with_reducible exact Slot.head | (show Slot (_ :: _) (_ :: _) _ _ _; first | with_reducible exact Slot.head | apply Slot.tail)); rfl)
      · apply Ev.bin hc
        · (apply Ev.nm (by assumption); (repeat first | with_reducible exact Slot.head | (show Slot (_ :: _) (_ :: _) _ _ _; first | with_reducible exact Slot.head | apply Slot.tail)); rfl)
        · apply Ev.attr hc
          · (apply Ev.nm (by assumption); (repeat first | with_reducible exact Slot.head | (show Slot (_ :: _) (_ :: _) _ _ _; first | with_reducible exact Slot.head | apply Slot.tail)); rfl)
          · exact get_inst W.cls hi hd (W.fields "nt" (by decide)) rfl ⟨rfl, rfl⟩
        · exact bin_add ⟨rfl, rfl⟩
      · exact bin_mul (.of_left (bits_small (by omega))) ⟨rfl, rfl⟩
    · exact bin_add ⟨rfl, rfl⟩
theorem c_longest {n : Nat} {v : MV} {s : Wv} (W : WsK G C fm) (Fa : Facts G fa) (hv : IsWs C m v s) (hl : s.count.length ≤ 1000) (hA : Good (n + 1) A) : CT G A (.st (.ref (fm 2))) [v] m fun y m' => y = .int s.longest ∧ m' = m :=
  c_of (n := n) (bs := [(Str.ofString "self", v)]) (vars := [some v, none, none, none, none]) hA (W.meth (2, "longest_run_of_spaces") (by decide)).1 sc_longest (by exact bind1 (fun _ _ _ _ _ _ _ _ _ _ _ _ _ => by kernel_rfl)) (by (focus repeat first | exact Binds.nil | (apply Binds.cons; (focus repeat first | with_reducible exact Put.headL | with_reducible exact Put.headC | (show Put (_ :: _) (_ :: _) _ _ _; first | with_reducible exact Put.headL | with_reducible exact Put.headC | apply Put.tail))))) fun _ _ _ _ hc => b_longest W Fa hv hl hc
theorem c_indent {n : Nat} {v : MV} {s : Wv} {ts : Nat} (W : WsK G C fm) (Fa : Facts G fa) (hv : IsWs C m v s) (hl : s.count.length ≤ 1000) (h1 : 1 ≤ ts) (h2 : ts ≤ 10000) (hA : Good (n + 1) A) : CT G A (.st (.ref (fm 3))) [v, .int ts] m fun y m' => y = .int (s.indent ts) ∧ m' = m :=
  c_of (n := n) (bs := [(Str.ofString "self", v), (Str.ofString "tabsize", .int ts)]) (vars := [some v, some (.int ts), none, none, none, none, none, none]) hA (W.meth (3, "indent_level") (by decide)).1 sc_indent (by exact bind2 (fun _ _ _ _ _ _ _ _ _ _ _ _ _ _ => by kernel_rfl)) (by (focus repeat first | exact Binds.nil | (apply Binds.cons; (focus repeat first | with_reducible exact Put.headL | with_reducible exact Put.headC | (show Put (_ :: _) (_ :: _) _ _ _; first | with_reducible exact Put.headL | with_reducible exact Put.headC | apply Put.tail))))) fun _ _ _ _ hc => b_indent W Fa hv hl h1 h2 hc
end
section
variable {c : Cx} {st : St} {m m₁ m₂ : MH} {target : Expr} {body : List Stmt} {pos : Pos}
theorem for_range_r {a : Int} {n : Nat} (P : Nat → St → Prop) (B : MF → St → Prop) (h0 : P 0 st) (step : ∀ k st, k < n → P k st → AsgTo c target (.int (a + k)) st fun st₁ => ExecsTo c body st₁ fun f st₂ => (f = .next ∧ P (k + 1) st₂) ∨ (∃ v, f = .ret v ∧ B f st₂)) :
    ForN c target body [] (rangeSrc a n) (n + 1) (rangeSrc a n).k0 st fun f st' => (f = .next ∧ P n st') ∨ (∃ v, f = .ret v ∧ B f st') := by
  suffices H : ∀ j k st, k + j = n → P k st → ForN c target body [] (rangeSrc a n) (j + 1) k st fun f st' => (f = .next ∧ P n st') ∨ (∃ v, f = .ret v ∧ B f st') from H _ 0 st (Nat.zero_add _) h0
  intro j
  induction j with
  | zero => intro k st hk hp; exact .inr ⟨st.m, ⟨show n ≤ k by omega, rfl⟩, xs_nil (.inl ⟨rfl, by rw [← show k = n by omega]; exact hp⟩)⟩
  | succ j ih =>
    intro k st hk hp
    refine .inl ⟨show k < n by omega, ?_⟩
    rintro v m' k' ⟨h1, rfl, rfl, rfl⟩
    refine AsgTo.mono (step k st (by omega) hp) fun st₁ h => FT.mono h fun f st₂ z => ?_
    rcases z with ⟨rfl, z⟩ | ⟨w, rfl, z⟩
    · exact ih (k + 1) st₂ (by omega) z
    · exact .inr ⟨w, rfl, z⟩
theorem x_for_range2_r (hc : c.Ok) {f e e' : Expr} {rp : Pos} {a b : Int} (hf : Ev c f st (.st (.type "range")) m₁) (he : Ev c e ⟨st.vars, m₁⟩ (.int a) m₂) (he' : Ev c e' ⟨st.vars, m₂⟩ (.int b) m) (ha : -(2 ^ 62) ≤ a) (ha' : a < 2 ^ 62) (hb : -(2 ^ 62) ≤ b) (hb' : b < 2 ^ 62)
    (P : Nat → St → Prop) (B : MF → St → Prop) (h0 : P 0 ⟨st.vars, m⟩) (step : ∀ k st, k < (b - a).toNat → P k st → AsgTo c target (.int (a + k)) st fun st₁ => ExecsTo c body st₁ fun f st₂ => (f = .next ∧ P (k + 1) st₂) ∨ (∃ v, f = .ret v ∧ B f st₂))
    (hs : ∀ x, foldedSetIterable (.Call f [e, e'] [] rp) c.env x = pure x := by intro _; rfl) (h1 : notAttr f = true := by rfl) (h2 : notStar e = true := by rfl) (h3 : notStar e' = true := by rfl) :
    ExecTo c (.For target (.Call f [e, e'] [] rp) body [] pos) st fun f st' => (f = .next ∧ P (b - a).toNat st') ∨ (∃ v, f = .ret v ∧ B f st') :=
  x_for hc (ie_range2 hc (hf.to ⟨rfl, he.to (he'.to ⟨a, b, rfl, rfl, ha, ha', hb, hb', (fun z => nomatch z), _, for_range_r P B h0 step⟩)⟩) h1 h2 h3) hs
end
theorem sc_less : ScopeOk (scopeOf (methAt 2 6)) := by exact ⟨rfl, rfl, rfl, by decide +kernel, by decide +kernel, by decide +kernel, by decide +kernel, by decide +kernel⟩
section
variable {G : GC} {A : Around} {env : Env} {own : List Addr} {C : Addr} {fm fa : Nat → Addr} {m : MH}
theorem lg_hi {s : Wv} (h : s.count.length ≤ 1000) (h' : s.b ≤ 1000) : s.longest ≤ 1000 := Int.max_le.mpr ⟨by omega, by omega⟩
theorem lg_lo (s : Wv) : -1 ≤ s.longest := Int.le_trans (show (-1 : Int) ≤ (s.count.length : Int) - 1 by omega) (Int.le_max_left ..)
theorem ws_meth {n : Nat} {v : MV} {s : Wv} {k : Nat} {x : Str} (W : WsK G C fm) (hv : IsWs C m v s) (hm : FnIs G (methAt 2 k) (fm k) ∧ findIn G.K (.ref C) x = some (some (.ref (fm k))) ∧ isFn G.K (.ref (fm k)) = true) (hA : Good n A) (hno : ∀ raw nm, (wsFields raw s nm).lookup x = none) :
    ∀ pl, Op (cxM G A env own (methAt 2 6)) (RM G) (ap1 fun v => getMethod v x pl) [v] m (.st (.ref (fm k)), [v]) m := by
  obtain ⟨i, d, nm, ct, raw, rfl, hi, hd, _, _⟩ := hv
  exact meth_inst W.cls hi hd hm.2.1 hm.2.2 hm.1.lt (hno raw nm) ⟨rfl, rfl⟩
theorem b_less {n : Nat} {va vb : MV} {a b : Wv} (W : WsK G C fm) (Fa : Facts G fa) (ha : IsWs C m va a) (hb : IsWs C m vb b) (hla : a.count.length ≤ 1000) (hlb : b.count.length ≤ 1000) (hba : a.b ≤ 1000) (hbb : b.b ≤ 1000) (hA : Good (n + 1) A) (hc : (cxM G A env own (methAt 2 6)).Ok) :
    ExecsTo (cxM G A env own (methAt 2 6)) (bodyOf (methAt 2 6)) ⟨[some va, some vb, none, none, none, none], m⟩ fun fl st' => outOf (fun y m' => y = .bool (a.less b) ∧ m' = m) fl st'.m := by
  have hrange : GlobIs G "range" (.type "range") := Fa.ty "range" (by decide)
  have hmax : GlobIs G "max" (.builtin "max") := Fa.bi "max" (by decide)
  have haL := ws_meth (env := env) (own := own) W ha (W.meth (2, "longest_run_of_spaces") (by decide)) hA (fun _ _ => rfl)
  have hbL := ws_meth (env := env) (own := own) W hb (W.meth (2, "longest_run_of_spaces") (by decide)) hA (fun _ _ => rfl)
  have haI := ws_meth (env := env) (own := own) W ha (W.meth (3, "indent_level") (by decide)) hA (fun _ _ => rfl)
  have hbI := ws_meth (env := env) (own := own) W hb (W.meth (3, "indent_level") (by decide)) hA (fun _ _ => rfl)
  have KL := (W.meth (2, "longest_run_of_spaces") (by decide)).1.keep
  have KI := (W.meth (3, "indent_level") (by decide)).1.keep
  have ha' := ha
  have hb' := hb
  obtain ⟨i, d, nm, ct, raw, rfl, hi, hd, hnm, hct⟩ := ha
  obtain ⟨i', d', nm', ct', raw', rfl, hi', hd', hnm', hct'⟩ := hb
  refine xs_cons (x_if (Te.to (b := decide (b.n ≤ a.n)) (m := m) ?_ ?_))
  · apply Te.cmp hc
    · apply Ev.attr hc
      · (apply Ev.nm (by assumption); (repeat first | with_reducible exact Slot.head | (show Slot (_ :: _) (_ :: _) _ _ _; first | with_reducible exact Slot.head | apply Slot.tail)); rfl)
      · exact get_inst W.cls hi hd (W.fields "n" (by decide)) rfl ⟨rfl, rfl⟩
    · apply Ev.attr hc
      · (apply Ev.nm (by assumption); (repeat first | with_reducible exact Slot.head | (show Slot (_ :: _) (_ :: _) _ _ _; first | with_reducible exact Slot.head | apply Slot.tail)); rfl)
      · exact get_inst W.cls hi' hd' (W.fields "n" (by decide)) rfl ⟨rfl, rfl⟩
    · exact cmp_ge ⟨rfl, rfl⟩
  by_cases h1 : b.n ≤ a.n
  · rw [if_pos (decide_eq_true h1)]
    refine xs_ret (v := .bool false) (m := m) Ev.bool ⟨?_, rfl⟩
    unfold Wv.less; rw [if_pos h1]
  rw [if_neg (by rw [decide_eq_false h1]; exact Bool.false_ne_true)]
  refine xs_nil ?_
  dsimp only
  have tsim : Te (cxM G A env own (methAt 2 6)) (testOf (nthOf (bodyOf (methAt 2 6)) 1)) ⟨[some (.ref i), some (.ref i'), none, none, none, none], m⟩ (a.simple && b.simple) m := by
    cases hs : a.simple with
    | false =>
      rw [Bool.false_and]
      apply Te.and_no
      apply Te.val hc
      · apply Ev.attr hc
        · (apply Ev.nm (by assumption); (repeat first | with_reducible exact Slot.head | (show Slot (_ :: _) (_ :: _) _ _ _; first | with_reducible exact Slot.head | apply Slot.tail)); rfl)
        · exact get_inst W.cls hi hd (W.fields "is_simple" (by decide)) rfl ⟨rfl, rfl⟩
      · exact tru_bool ⟨hs, rfl⟩
    | true =>
      rw [Bool.true_and]
      apply Te.and_yes
      · apply Te.val hc
        · apply Ev.attr hc
          · (apply Ev.nm (by assumption); (repeat first | with_reducible exact Slot.head | (show Slot (_ :: _) (_ :: _) _ _ _; first | with_reducible exact Slot.head | apply Slot.tail)); rfl)
          · exact get_inst W.cls hi hd (W.fields "is_simple" (by decide)) rfl ⟨rfl, rfl⟩
        · exact tru_bool ⟨hs, rfl⟩
      · apply Te.val hc
        · apply Ev.attr hc
          · (apply Ev.nm (by assumption); (repeat first | with_reducible exact Slot.head | (show Slot (_ :: _) (_ :: _) _ _ _; first | with_reducible exact Slot.head | apply Slot.tail)); rfl)
          · exact get_inst W.cls hi' hd' (W.fields "is_simple" (by decide)) rfl ⟨rfl, rfl⟩
        · exact tru_bool ⟨rfl, rfl⟩
  refine xs_cons (x_if (Te.to tsim ?_))
  by_cases h2 : (a.simple && b.simple) = true
  · rw [if_pos h2]
    refine xs_ret (v := .bool (decide (a.nt ≤ b.nt))) (m := m) ?_ ⟨?_, rfl⟩
    · apply Ev.cmp hc
      · apply Ev.attr hc
        · (apply Ev.nm (by assumption); (repeat first | with_reducible exact Slot.head | (show Slot (_ :: _) (_ :: _) _ _ _; first | with_reducible exact Slot.head | apply Slot.tail)); rfl)
        · exact get_inst W.cls hi hd (W.fields "nt" (by decide)) rfl ⟨rfl, rfl⟩
      · apply Ev.attr hc
        · (apply Ev.nm (by assumption); (repeat first | with_reducible exact Slot.head | (show Slot (_ :: _) (_ :: _) _ _ _; first | with_reducible exact Slot.head | apply Slot.tail)); rfl)
        · exact get_inst W.cls hi' hd' (W.fields "nt" (by decide)) rfl ⟨rfl, rfl⟩
      · exact cmp_le ⟨rfl, rfl⟩
    · unfold Wv.less; rw [if_neg h1, if_pos h2]
  rw [if_neg h2]
  refine xs_nil ?_
  dsimp only
  refine xs_cons (Ex.to (f := .next) (st' := ⟨[some (.ref i), some (.ref i'), some (.int (max a.longest b.longest + 1)), none, none, none], m⟩) ?_ ?_)
  · apply Ex.set hc
    · apply Ev.bin hc
      · apply Ev.call hc
        · (apply Ev.glob (by assumption); (focus repeat first | with_reducible exact Glob.head | (show Glob (_ :: _) _; first | with_reducible exact Glob.head | apply Glob.tail)); assumption)
        · apply Evs.cons
          · apply Ev.meth0 hc
            · (apply Ev.nm (by assumption); (repeat first | with_reducible exact Slot.head | (show Slot (_ :: _) (_ :: _) _ _ _; first | with_reducible exact Slot.head | apply Slot.tail)); rfl)
            · exact haL
            · exact keeps_stat KL
            · exact (c_longest W Fa ha' hla hA).ht
          · apply Evs.cons
            · apply Ev.meth0 hc
              · (apply Ev.nm (by assumption); (repeat first | with_reducible exact Slot.head | (show Slot (_ :: _) (_ :: _) _ _ _; first | with_reducible exact Slot.head | apply Slot.tail)); rfl)
              · exact hbL
              · exact keeps_stat KL
              · exact (c_longest W Fa hb' hlb hA).ht
            · exact Evs.nil
            · rfl
          · rfl
        · exact keeps_builtin
        · exact call_max2 hc.hand ⟨rfl, rfl⟩
      · exact Ev.int
      · exact bin_add ⟨rfl, rfl⟩
    · (focus repeat first | with_reducible exact Put.headL | with_reducible exact Put.headC | (show Put (_ :: _) (_ :: _) _ _ _; first | with_reducible exact Put.headL | with_reducible exact Put.headC | apply Put.tail))
  dsimp only
  have hmx : max a.longest b.longest ≤ 1000 ∧ -1 ≤ max a.longest b.longest := ⟨Int.max_le.mpr ⟨lg_hi hla hba, lg_hi hlb hbb⟩, Int.le_trans (lg_lo a) (Int.le_max_left ..)⟩
  refine xs_cons (FT.mono (x_for_range2_r hc (a := 2) (b := max a.longest b.longest + 1 + 1) (m₁ := m) (m₂ := m) (m := m) ?hf ?he ?he' (by omega) (by omega) (by omega) (by omega)
    (fun k st => (∃ w, st.vars = [some (.ref i), some (.ref i'), some (.int (max a.longest b.longest + 1)), w, none, none]) ∧ st.m = m ∧ (List.range k).all (fun k => !decide (b.indent (2 + k) ≤ a.indent (2 + k))) = true)
    (fun f st => f = .ret (.bool false) ∧ st.m = m ∧ a.less b = false) ?h0 ?step) ?fin)
  case hf => (apply Ev.glob (by assumption); (focus repeat first | with_reducible exact Glob.head | (show Glob (_ :: _) _; first | with_reducible exact Glob.head | apply Glob.tail)); assumption)
  case he => exact Ev.int
  case he' =>
    apply Ev.bin hc
    · (apply Ev.nm (by assumption); (repeat first | with_reducible exact Slot.head | (show Slot (_ :: _) (_ :: _) _ _ _; first | with_reducible exact Slot.head | apply Slot.tail)); rfl)
    · exact Ev.int
    · exact bin_add ⟨rfl, rfl⟩
  case h0 => exact ⟨⟨_, rfl⟩, rfl, rfl⟩
  case step =>
    rintro k ⟨vars, m₁⟩ hk ⟨⟨w, hv⟩, hm, hall⟩
    dsimp only at hv hm hall
    subst hv hm
    have e2 : (2 : Int) + k = ((2 + k : Nat) : Int) := by omega
    rw [e2]
    refine asg_name hc ⟨_, by (focus repeat first | with_reducible exact Put.headL | with_reducible exact Put.headC | (show Put (_ :: _) (_ :: _) _ _ _; first | with_reducible exact Put.headL | with_reducible exact Put.headC | apply Put.tail)), ?_⟩
    refine xs_cons (x_if (Te.to (b := decide (b.indent (2 + k) ≤ a.indent (2 + k))) (m := m₁) ?_ ?_))
    · apply Te.cmp hc
      · apply Ev.meth hc
        · (apply Ev.nm (by assumption); (repeat first | with_reducible exact Slot.head | (show Slot (_ :: _) (_ :: _) _ _ _; first | with_reducible exact Slot.head | apply Slot.tail)); rfl)
        · exact haI
        · apply Evs.cons
          · (apply Ev.nm (by assumption); (repeat first | with_reducible exact Slot.head | (show Slot (_ :: _) (_ :: _) _ _ _; first | with_reducible exact Slot.head | apply Slot.tail)); rfl)
          · exact Evs.nil
          · rfl
        · exact keeps_stat KI
        · exact (c_indent W Fa ha' hla (by omega) (by omega) hA).ht
      · apply Ev.meth hc
        · (apply Ev.nm (by assumption); (repeat first | with_reducible exact Slot.head | (show Slot (_ :: _) (_ :: _) _ _ _; first | with_reducible exact Slot.head | apply Slot.tail)); rfl)
        · exact hbI
        · apply Evs.cons
          · (apply Ev.nm (by assumption); (repeat first | with_reducible exact Slot.head | (show Slot (_ :: _) (_ :: _) _ _ _; first | with_reducible exact Slot.head | apply Slot.tail)); rfl)
          · exact Evs.nil
          · rfl
        · exact keeps_stat KI
        · exact (c_indent W Fa hb' hlb (by omega) (by omega) hA).ht
      · exact cmp_ge ⟨rfl, rfl⟩
    · by_cases h3 : b.indent (2 + k) ≤ a.indent (2 + k)
      · rw [if_pos (decide_eq_true h3)]
        refine xs_ret (v := .bool false) (m := m₁) Ev.bool (.inr ⟨_, rfl, rfl, rfl, ?_⟩)
        unfold Wv.less
        rw [if_neg h1, if_neg h2, List.all_eq_false]
        refine ⟨k, List.mem_range.mpr hk, ?_⟩
        rw [decide_eq_true h3]; exact Bool.false_ne_true
      · rw [if_neg (by rw [decide_eq_false h3]; exact Bool.false_ne_true)]
        refine xs_nil (xs_nil (.inl ⟨rfl, ⟨_, rfl⟩, rfl, ?_⟩))
        rw [List.range_succ, List.all_append, hall, List.all_cons, decide_eq_false h3]; rfl
  case fin =>
    rintro f ⟨vars, m₁⟩ h
    rcases h with ⟨rfl, ⟨w, hv⟩, hm, hall⟩ | ⟨w, e, rfl, hm, hls⟩
    · dsimp only at hv hm hall
      subst hv hm
      dsimp only
      refine xs_ret (v := .bool true) (m := m₁) Ev.bool ⟨?_, rfl⟩
      unfold Wv.less
      rw [if_neg h1, if_neg h2]
      exact (congrArg MV.bool hall).symm
    · exact ⟨by rw [hls], hm⟩
theorem c_less {n : Nat} {va vb : MV} {a b : Wv} (W : WsK G C fm) (Fa : Facts G fa) (ha : IsWs C m va a) (hb : IsWs C m vb b) (hla : a.count.length ≤ 1000) (hlb : b.count.length ≤ 1000) (hba : a.b ≤ 1000) (hbb : b.b ≤ 1000) (hA : Good (n + 1 + 1) A) : CT G A (.st (.ref (fm 6))) [va, vb] m fun y m' => y = .bool (a.less b) ∧ m' = m :=
  c_of (n := n + 1) (bs := [(Str.ofString "self", va), (Str.ofString "other", vb)]) (vars := [some va, some vb, none, none, none, none]) hA (W.meth (6, "less") (by decide)).1 sc_less (by exact bind2 (fun _ _ _ _ _ _ _ _ _ _ _ _ _ _ => by kernel_rfl)) (by (focus repeat first | exact Binds.nil | (apply Binds.cons; (focus repeat first | with_reducible exact Put.headL | with_reducible exact Put.headC | (show Put (_ :: _) (_ :: _) _ _ _; first | with_reducible exact Put.headL | with_reducible exact Put.headC | apply Put.tail))))) fun _ _ _ hA' hc => b_less W Fa ha hb hla hlb hba hbb hA' hc
end
noncomputable def valueOf : Stmt → Expr
  | .Assign _ e _ => e
  | _ => .Constant .none 0 default
noncomputable def lamArgs : Expr → Arguments
  | .Lambda a .. => a
  | _ => default
noncomputable def lamBody : Expr → Expr
  | .Lambda _ b .. => b
  | e => e
noncomputable def lamScope : Expr → Scope
  | .Lambda _ _ s _ => s
  | _ => default
noncomputable def lamE : Expr := valueOf (nthOf (bodyOf (stmtAt 15)) 4)
structure LexIds where
  i : Nat
  d : Nat
  pl : Nat
  wi : Nat
  wd : Nat
  lam : Nat
  cc : Nat
  kk : Nat
  sl : Nat
  F : Addr → Addr → Obj
  oc : Obj
  qual : Str
noncomputable def wsStr : Str := "\n\t\r "
noncomputable abbrev lexFields (I : LexIds) (L : Int) : List (Str × MV) := [("lineno", .int L), ("instream", .ref I.wi), ("whitespace", .str wsStr), ("pushback", .ref I.pl)]
noncomputable abbrev signsOf (rest : List Nat) : List MV := rest.reverse.map fun c => .str (chr c)
structure Lx (C : Addr) (I : LexIds) (L : Int) (pb : List MV) (rest : List Nat) (m : MH) : Prop where
  i : m.H I.i = some (.inst C I.d)
  d : m.H I.d = some (.dict (lexFields I L))
  pl : m.H I.pl = some (.list pb)
  wi : m.H I.wi = some (.inst C I.wd)
  wd : ∃ fs, m.H I.wd = some (.dict fs) ∧ fs.lookup ("read" : Str) = some (.ref I.lam)
  lam : m.H I.lam = some (.lam I.F I.cc I.kk)
  cc : m.H I.cc = some (.cell (.ref I.sl))
  kk : m.H I.kk = some (.opq I.oc)
  sl : m.H I.sl = some (.list (signsOf rest))
  wf : WF m
  ne1 : I.pl ≠ I.sl
  ne2 : I.d ≠ I.wd
  isl : LamIs (lamArgs lamE) (lamBody lamE) (lamScope lamE) "signs" I.qual I.F
  ioc : ∃ vs t, I.oc.data = .fields vs ∧ vs[1]? = some (.str I.qual t)
  chars : ∀ c ∈ rest, c < 128
structure LGrow (I : LexIds) (m m' : MH) : Prop where
  keep : ∀ j o, m.H j = some o → j ≠ I.d → j ≠ I.pl → j ≠ I.sl → m'.H j = some o
  tb : m'.tb = m.tb
theorem LGrow.refl {I : LexIds} {m : MH} : LGrow I m m := ⟨fun _ _ e _ _ _ => e, rfl⟩
theorem LGrow.trans {I : LexIds} {m m' m'' : MH} (x : LGrow I m m') (y : LGrow I m' m'') : LGrow I m m'' := ⟨fun j o e h1 h2 h3 => y.keep j o (x.keep j o e h1 h2 h3) h1 h2 h3, y.tb.trans x.tb⟩
theorem Grow.lg {I : LexIds} {m m' : MH} (x : Grow m m') : LGrow I m m' := ⟨fun j o e _ _ _ => x.keep j o e, x.tb⟩
theorem LGrow.new {I : LexIds} {m : MH} (hw : WF m) (o : MO) : LGrow I m (m.alloc o) := ⟨fun j o' e _ _ _ => alloc_old hw e, rfl⟩
section
variable {C : Addr} {I : LexIds} {L : Int} {pb : List MV} {rest : List Nat} {m : MH}
theorem Lx.new (X : Lx C I L pb rest m) (o : MO) : Lx C I L pb rest (m.alloc o) :=
  ⟨alloc_old X.wf X.i, alloc_old X.wf X.d, alloc_old X.wf X.pl, alloc_old X.wf X.wi, X.wd.imp fun _ h => ⟨alloc_old X.wf h.1, h.2⟩, alloc_old X.wf X.lam, alloc_old X.wf X.cc, alloc_old X.wf X.kk, alloc_old X.wf X.sl, alloc_wf X.wf o, X.ne1, X.ne2, X.isl, X.ioc, X.chars⟩
theorem Lx.grow {m' : MH} (X : Lx C I L pb rest m) (g : Grow m m') : Lx C I L pb rest m' :=
  ⟨g.keep _ _ X.i, g.keep _ _ X.d, g.keep _ _ X.pl, g.keep _ _ X.wi, X.wd.imp fun _ h => ⟨g.keep _ _ h.1, h.2⟩, g.keep _ _ X.lam, g.keep _ _ X.cc, g.keep _ _ X.kk, g.keep _ _ X.sl, g.wf, X.ne1, X.ne2, X.isl, X.ioc, X.chars⟩
theorem kinds_ne {m : MH} {i j : Nat} {o o' : MO} (h : m.H i = some o) (h' : m.H j = some o') (hn : o ≠ o') : i ≠ j := fun z => hn (by rw [z, h'] at h; exact (Option.some.inj h).symm)
theorem set_wf {m : MH} (hw : WF m) {i : Nat} {o : MO} (hi : i < m.n) : WF (m.set i o) := fun j o' e => by
  by_cases hj : j = i
  · rw [hj]; exact hi
  · rw [set_off hj] at e; exact hw _ _ e
theorem Lx.pop {r : List Nat} (X : Lx C I L pb rest m) (hr : ∀ c ∈ r, c < 128) : Lx C I L pb r (m.set I.sl (.list (signsOf r))) := by
  have s := X.sl
  obtain ⟨fs, h1, h2⟩ := X.wd
  refine ⟨?_, ?_, ?_, ?_, ⟨fs, ?_, h2⟩, ?_, ?_, ?_, set_at _ _ _, set_wf X.wf (X.wf _ _ s), X.ne1, X.ne2, X.isl, X.ioc, hr⟩
  · rw [set_off (kinds_ne X.i s (fun z => nomatch z))]; exact X.i
  · rw [set_off (kinds_ne X.d s (fun z => nomatch z))]; exact X.d
  · rw [set_off X.ne1]; exact X.pl
  · rw [set_off (kinds_ne X.wi s (fun z => nomatch z))]; exact X.wi
  · rw [set_off (kinds_ne h1 s (fun z => nomatch z))]; exact h1
  · rw [set_off (kinds_ne X.lam s (fun z => nomatch z))]; exact X.lam
  · rw [set_off (kinds_ne X.cc s (fun z => nomatch z))]; exact X.cc
  · rw [set_off (kinds_ne X.kk s (fun z => nomatch z))]; exact X.kk
theorem Lx.push {pb' : List MV} (X : Lx C I L pb rest m) : Lx C I L pb' rest (m.set I.pl (.list pb')) := by
  have s := X.pl
  obtain ⟨fs, h1, h2⟩ := X.wd
  refine ⟨?_, ?_, set_at _ _ _, ?_, ⟨fs, ?_, h2⟩, ?_, ?_, ?_, ?_, set_wf X.wf (X.wf _ _ s), X.ne1, X.ne2, X.isl, X.ioc, X.chars⟩
  · rw [set_off (kinds_ne X.i s (fun z => nomatch z))]; exact X.i
  · rw [set_off (kinds_ne X.d s (fun z => nomatch z))]; exact X.d
  · rw [set_off (kinds_ne X.wi s (fun z => nomatch z))]; exact X.wi
  · rw [set_off (kinds_ne h1 s (fun z => nomatch z))]; exact h1
  · rw [set_off (kinds_ne X.lam s (fun z => nomatch z))]; exact X.lam
  · rw [set_off (kinds_ne X.cc s (fun z => nomatch z))]; exact X.cc
  · rw [set_off (kinds_ne X.kk s (fun z => nomatch z))]; exact X.kk
  · rw [set_off (fun z => X.ne1 z.symm)]; exact X.sl
theorem Lx.line {L' : Int} (X : Lx C I L pb rest m) : Lx C I L' pb rest (m.set I.d (.dict (lexFields I L'))) := by
  have s := X.d
  obtain ⟨fs, h1, h2⟩ := X.wd
  refine ⟨?_, set_at _ _ _, ?_, ?_, ⟨fs, ?_, h2⟩, ?_, ?_, ?_, ?_, set_wf X.wf (X.wf _ _ s), X.ne1, X.ne2, X.isl, X.ioc, X.chars⟩
  · rw [set_off (kinds_ne X.i s (fun z => nomatch z))]; exact X.i
  · rw [set_off (kinds_ne X.pl s (fun z => nomatch z))]; exact X.pl
  · rw [set_off (kinds_ne X.wi s (fun z => nomatch z))]; exact X.wi
  · rw [set_off (fun z => X.ne2 z.symm)]; exact h1
  · rw [set_off (kinds_ne X.lam s (fun z => nomatch z))]; exact X.lam
  · rw [set_off (kinds_ne X.cc s (fun z => nomatch z))]; exact X.cc
  · rw [set_off (kinds_ne X.kk s (fun z => nomatch z))]; exact X.kk
  · rw [set_off (kinds_ne X.sl s (fun z => nomatch z))]; exact X.sl
theorem LGrow.set {m' : MH} (x : LGrow I m m') {j : Nat} {o : MO} (hj : j = I.d ∨ j = I.pl ∨ j = I.sl) : LGrow I m (m'.set j o) :=
  ⟨fun k o' e h1 h2 h3 => by rw [set_off fun z => by subst z; rcases hj with hj | hj | hj; exact h1 hj; exact h2 hj; exact h3 hj]; exact x.keep k o' e h1 h2 h3, x.tb⟩
theorem signs_inj {r r' : List Nat} (h : signsOf r = signsOf r') : r = r' := by
  have : ∀ a b : List Nat, (a.map fun c => MV.str (chr c)) = (b.map fun c => MV.str (chr c)) → a = b := by
    intro a
    induction a with
    | nil => intro b h; cases b with
      | nil => rfl
      | cons => cases h
    | cons x a ih => intro b h; cases b with
      | nil => cases h
      | cons y b =>
        injection h with h1 h2
        injection h1 with h1
        rw [chr_inj h1, ih b h2]
  have := this _ _ h
  rw [← List.reverse_reverse r, this, List.reverse_reverse]
theorem Lx.uniq {L' : Int} {pb' : List MV} {rest' : List Nat} (X : Lx C I L pb rest m) (Y : Lx C I L' pb' rest' m) : L = L' ∧ rest = rest' := by
  have h1 := X.d.symm.trans Y.d
  have h2 := X.sl.symm.trans Y.sl
  injection h1 with h1; injection h1 with h1; injection h1 with h1 _; injection h1 with _ h1; injection h1 with h1
  injection h2 with h2; injection h2 with h2
  exact ⟨h1, signs_inj h2⟩
end
noncomputable def readH (I : LexIds) (L : Int) (c : Nat) (r : List Nat) (m : MH) : MH :=
  if c = 10 then ((m.alloc (.list [])).set I.sl (.list (signsOf r))).set I.d (.dict (lexFields I (L + 1))) else (m.alloc (.list [])).set I.sl (.list (signsOf r))
noncomputable def lineUp (c : Nat) (L : Int) : Int := if c = 10 then L + 1 else L
theorem Lx.read {C : Addr} {I : LexIds} {L : Int} {pb : List MV} {c : Nat} {r : List Nat} {m : MH} (X : Lx C I L pb (c :: r) m) : Lx C I (lineUp c L) pb r (readH I L c r m) ∧ LGrow I m (readH I L c r m) := by
  have hr : ∀ x ∈ r, x < 128 := fun x h => X.chars x (.tail _ h)
  unfold lineUp readH
  split
  · exact ⟨((X.new _).pop hr).line, ((LGrow.new X.wf _).set (.inr (.inr rfl))).set (.inl rfl)⟩
  · exact ⟨(X.new _).pop hr, (LGrow.new X.wf _).set (.inr (.inr rfl))⟩
structure LxK (G : GC) (C : Addr) (fl : Nat → Addr) : Prop where
  cls : ClsK G.K C
  makes : makesIn G.K C = true
  fields : ∀ x ∈ ["lineno", "instream", "whitespace", "pushback", "read"], findIn G.K (.ref C) (Str.ofString x) = some none
  meth : ∀ p ∈ [(0, "__init__"), (1, "_read_char"), (2, "get_token"), (3, "push_token")], FnIs G (methAt 4 p.1) (fl p.1) ∧ findIn G.K (.ref C) (Str.ofString p.2) = some (some (.ref (fl p.1))) ∧ isFn G.K (.ref (fl p.1)) = true
  rc : specialIn G.K (.ref (fl 1)) "__get__" = some (some (.builtin "function.__get__")) ∧ takesIn G.K (.ref (fl 1)) = some false ∧ fnIn G.K (fl 1) = true
  glob : GlobIs G "_netrclex" (.ref C)
  keep : keepIn G.K (.ref C) = true
theorem strs_rd {m : MH} (texts : List Str) : RdAll m (texts.map .str) (texts.map .str) := by
  induction texts with
  | nil => exact .nil
  | cons x r ih => exact .cons (.str x) ih
theorem strs_lay (texts : List Str) (hs : ∀ t ∈ texts, PyData.strOk t = true) : PyData.canLayAll0 (texts.map PyData.str) = true ∧ PyData.depthAll (texts.map PyData.str) = 0 := by
  induction texts with
  | nil => exact ⟨rfl, rfl⟩
  | cons x r ih =>
    have ih := ih fun t h => hs t (.tail _ h)
    rw [List.map_cons]
    exact ⟨by simp [PyData.canLayAll0, ih.1, PyData.canLay0, hs x (.head _)], by simp [PyData.depthAll, PyData.depth, ih.2]⟩
theorem strs_shaped (texts : List Str) (hs : ∀ t ∈ texts, PyData.strOk t = true) : SeqAt.shaped (.list (texts.map PyData.str)) = true := by
  have := strs_lay texts hs
  simp only [SeqAt.shaped, PyData.canLay0, PyData.depth, this.1, this.2]
  rfl
theorem strs_empty (texts : List Str) : PyData.eqv (.list (texts.map PyData.str)) (.list ([].map PyData.str)) = texts.isEmpty := by
  cases texts <;> simp [PyData.eqv, PyData.eqvAll]
theorem Ev.freeH {c : Cx} {st : St} {x : Str} {p : Pos} {ci : Nat} {mv : MV} (hc : c.Ok) (hf : (x, ci) ∈ c.frees) (hk : c.env.kindOf x = some .free) (hdb : (x == ("__debug__" : Str)) = false) (hcd : (x == ("__classdict__" : Str)) = false)
    (hm : st.m.H ci = some (.cell mv)) : Ev c (.Name x p) st mv st.m := ⟨ev_freeH hc hf hk hdb hcd hm ⟨rfl, rfl⟩⟩
theorem signs_ok {rest : List Nat} (h : ∀ c ∈ rest, c < 128) : ∀ t ∈ rest.reverse.map chr, PyData.strOk t = true := fun t ht => by
  obtain ⟨c, hc, rfl⟩ := List.mem_map.mp ht
  have := h c (List.mem_reverse.mp hc)
  show (#[c]).all (· < 0x110000) = true
  simp; omega
theorem signs_eq (rest : List Nat) : signsOf rest = (rest.reverse.map chr).map .str := by rw [signsOf, List.map_map]; rfl
theorem signs_cons (c : Nat) (r : List Nat) : signsOf (c :: r) = signsOf r ++ [.str (chr c)] := by rw [signsOf, List.reverse_cons, List.map_append]; rfl
section
variable {G : GC} {A : Around} {C : Addr} {I : LexIds} {L : Int} {pb : List MV} {fl fa : Nat → Addr} {m : MH}
theorem t_signs {A' : Around} {env : Env} {La : Addr} {n : Nat} {rest : List Nat} (hA : Good n A') (X : Lx C I L pb rest m) (hc : Cx.Ok ⟨G, A', env, [("count", .local)], [La], [La], [("signs", I.cc)]⟩) (hk : env.kindOf "signs" = some .free) {p q r : Pos} :
    Te ⟨G, A', env, [("count", .local)], [La], [La], [("signs", I.cc)]⟩ (.Compare (.Name "signs" p) [.NotEq] [.List [] q] r) ⟨[some (.int 1)], m⟩ (!rest.isEmpty) (m.alloc (.list [])) := by
  apply Te.cmp hc
  · exact Ev.freeH hc (.head _) hk rfl rfl X.cc
  · apply Ev.list hc
    · exact Evs.nil
    · exact Nat.zero_le _
  · refine cmp_ned (.list (alloc_old X.wf X.sl) (by rw [signs_eq]; exact strs_rd _)) (.list (alloc_new _ _) (strs_rd [])) (strs_shaped _ (signs_ok X.chars)) (strs_shaped [] fun _ h => nomatch h) hA.eq ⟨?_, rfl⟩
    rw [strs_empty]
    cases rest with
    | nil => rfl
    | cons c r => simp
theorem c_lam {n : Nat} {c : Nat} {r : List Nat} (Fa : Facts G fa) (X : Lx C I L pb (c :: r) m) (hl : r.length < 1000) (hA : Good (n + 1) A) :
    CT G A (.ref I.lam) [.int 1] m fun y m' => y = .str (chr c) ∧ m' = (m.alloc (.list [])).set I.sl (.list (signsOf r)) := by
  have hsz := sizeLine_big
  obtain ⟨fd, F, _⟩ := (Fa.fn 6 (by decide)).ex
  refine call_lam (n := n) hA (fun σ m h I => (F.here σ m h I).2.2) (p := "count") X.lam X.cc X.kk X.isl X.ioc ?_ (by decide) ⟨by decide, by decide⟩ fun A' env La hA' hc hk => ?_
  · intro fd v h1 h2 h3
    obtain ⟨x1, x2, x3, x4, x5, x6, x7, x8, x9, y1, y2, y3, y4, y5, y6⟩ := fd
    cases h1; cases h2; cases h3
    kernel_rfl
  · refine Ev.to (v := .str (chr c)) (m := (m.alloc (.list [])).set I.sl (.list (signsOf r))) ?_ ⟨rfl, rfl⟩
    refine Ev.ife (z := true) (m₁ := m.alloc (.list [])) (t_signs hA' X hc hk) ?_
    rw [if_pos rfl]
    have hsl : (m.alloc (.list [])).H I.sl = some (.list (signsOf r ++ [.str (chr c)])) := by rw [alloc_old X.wf X.sl, signs_cons]
    apply Ev.meth0 hc
    · exact Ev.freeH hc (.head _) hk rfl rfl (alloc_old X.wf X.cc)
    · exact meth_pop hsl ⟨rfl, rfl⟩
    · exact keeps_builtin
    · exact call_pop hsl (by rw [signsOf, List.length_map, List.length_reverse]; omega) ⟨rfl, rfl⟩
theorem c_lam_eof {n : Nat} (Fa : Facts G fa) (X : Lx C I L pb [] m) (hA : Good (n + 1) A) :
    CT G A (.ref I.lam) [.int 1] m fun y m' => y = .str "" ∧ m' = m.alloc (.list []) := by
  obtain ⟨fd, F, _⟩ := (Fa.fn 6 (by decide)).ex
  refine call_lam (n := n) hA (fun σ m h I => (F.here σ m h I).2.2) (p := "count") X.lam X.cc X.kk X.isl X.ioc ?_ (by decide) ⟨by decide, by decide⟩ fun A' env La hA' hc hk => ?_
  · intro fd v h1 h2 h3
    obtain ⟨x1, x2, x3, x4, x5, x6, x7, x8, x9, y1, y2, y3, y4, y5, y6⟩ := fd
    cases h1; cases h2; cases h3
    kernel_rfl
  · refine Ev.to (v := .str "") (m := m.alloc (.list [])) ?_ ⟨rfl, rfl⟩
    refine Ev.ife (z := false) (m₁ := m.alloc (.list [])) (t_signs hA' X hc hk) ?_
    rw [if_neg Bool.false_ne_true]
    exact Ev.str
end
theorem sc_read : ScopeOk (scopeOf (methAt 4 1)) := by exact ⟨rfl, rfl, rfl, by decide +kernel, by decide +kernel, by decide +kernel, by decide +kernel, by decide +kernel⟩
theorem putF_line (I : LexIds) (L L' : Int) : putF "lineno" (.int L') (lexFields I L) = lexFields I L' := rfl
theorem Ex.augattr {c : Cx} {st : St} {m m₁ m₂ m₃ m₄ : MH} {o e : Expr} {name : Str} {op : Operator} {q p : Pos} {ov old v new : MV} (hc : c.Ok) (h1 : Ev c o st ov m₁) (h2 : Op c (RV c.G) (ap1 fun v => getAttr v name true) [ov] m₁ old m₂) (h3 : Ev c e ⟨st.vars, m₂⟩ v m₃)
    (h4 : Op c (RV c.G) (ap2 (inplaceOp op)) [old, v] m₃ new m₄) (h5 : Op c RU (ap2 fun a b => setAttr a name b) [ov, new] m₄ () m) : Ex c (.AugAssign (.Attribute o name q) op e p) st .next ⟨st.vars, m⟩ :=
  ⟨x_augattr hc (h1.to (h2.to (h3.to (h4.to (h5.to ⟨rfl, rfl⟩)))))⟩
section
variable {G : GC} {A : Around} {env : Env} {own : List Addr} {C : Addr} {I : LexIds} {L : Int} {pb : List MV} {fl fa : Nat → Addr} {m : MH}
theorem lam_keeps (X : Lx C I L pb rest m) : Keeps G (.ref I.lam) m := by
  obtain ⟨pm, ctv, hF⟩ := X.isl
  exact keeps_lam X.lam fun b d => ⟨_, _, _, _, by rw [hF]⟩
theorem x_read {n : Nat} {rest : List Nat} {s : Str} {m' : MH} {w : Option MV} (K : LxK G C fl) (X : Lx C I L pb rest m) (hcall : CT G A (.ref I.lam) [.int 1] m fun y m'' => y = .str s ∧ m'' = m') (_hA : Good n A) (hc : (cxM G A env own (methAt 4 1)).Ok) :
    Ex (cxM G A env own (methAt 4 1)) (nthOf (bodyOf (methAt 4 1)) 0) ⟨[some (.ref I.i), w], m⟩ .next ⟨[some (.ref I.i), some (.str s)], m'⟩ := by
  obtain ⟨fs, hwd, hrd⟩ := X.wd
  apply Ex.set hc
  · apply Ev.meth hc
    · apply Ev.attr hc
      · (apply Ev.nm (by assumption); (repeat first | with_reducible exact Slot.head | (show Slot (_ :: _) (_ :: _) _ _ _; first | with_reducible exact Slot.head | apply Slot.tail)); rfl)
      · exact get_inst K.cls X.i X.d (K.fields "instream" (by decide)) rfl ⟨rfl, rfl⟩
    · exact meth_own K.cls X.wi hwd (K.fields "read" (by decide)) hrd ⟨rfl, rfl⟩
    · apply Evs.cons
      · exact Ev.int
      · exact Evs.nil
      · rfl
    · exact lam_keeps X
    · exact hcall.ht
  · (focus repeat first | with_reducible exact Put.headL | with_reducible exact Put.headC | (show Put (_ :: _) (_ :: _) _ _ _; first | with_reducible exact Put.headL | with_reducible exact Put.headC | apply Put.tail))
theorem b_read {n : Nat} {c : Nat} {r : List Nat} (K : LxK G C fl) (Fa : Facts G fa) (X : Lx C I L pb (c :: r) m) (hl : r.length < 1000) (hA : Good (n + 1) A) (hc : (cxM G A env own (methAt 4 1)).Ok) :
    ExecsTo (cxM G A env own (methAt 4 1)) (bodyOf (methAt 4 1)) ⟨[some (.ref I.i), none], m⟩ fun fl st' => outOf (fun y m' => y = .str (chr c) ∧ m' = readH I L c r m) fl st'.m := by
  refine xs_cons (Ex.to (x_read K X (c_lam Fa X hl hA) hA hc) ?_)
  dsimp only
  have X1 := (X.new (.list [])).pop (r := r) fun x h => X.chars x (.tail _ h)
  unfold readH
  generalize (m.alloc (.list [])).set I.sl (.list (signsOf r)) = m₁ at X1 ⊢
  refine xs_cons (x_if (Te.to (b := decide (c = 10)) (m := m₁) ?_ ?_))
  · apply Te.cmp hc
    · (apply Ev.nm (by assumption); (repeat first | with_reducible exact Slot.head | (show Slot (_ :: _) (_ :: _) _ _ _; first | with_reducible exact Slot.head | apply Slot.tail)); rfl)
    · exact Ev.str
    · exact cmp_eqs ⟨by rw [show (Str.ofString "\n") = chr 10 from rfl, chr_beq], rfl⟩
  by_cases h10 : c = 10
  · rw [if_pos (decide_eq_true h10), if_pos h10]
    refine xs_cons (Ex.to (f := .next) (st' := ⟨[some (.ref I.i), some (.str (chr c))], m₁.set I.d (.dict (lexFields I (L + 1)))⟩) ?_ ?_)
    · apply Ex.augattr hc
      · (apply Ev.nm (by assumption); (repeat first | with_reducible exact Slot.head | (show Slot (_ :: _) (_ :: _) _ _ _; first | with_reducible exact Slot.head | apply Slot.tail)); rfl)
      · exact get_inst K.cls X1.i X1.d (K.fields "lineno" (by decide)) rfl ⟨rfl, rfl⟩
      · exact Ev.int
      · exact in_add ⟨rfl, rfl⟩
      · exact set_inst K.cls X1.i X1.d (K.fields "lineno" (by decide)) (by simp) ⟨rfl, by rw [putF_line]⟩
    · refine xs_nil ?_
      dsimp only
      refine xs_ret (v := .str (chr c)) (m := m₁.set I.d (.dict (lexFields I (L + 1)))) (by (apply Ev.nm (by assumption); (repeat first | with_reducible exact Slot.head | (show Slot (_ :: _) (_ :: _) _ _ _; first | with_reducible exact Slot.head | apply Slot.tail)); rfl)) ⟨rfl, rfl⟩
  · rw [if_neg (by rw [decide_eq_false h10]; exact Bool.false_ne_true), if_neg h10]
    refine xs_nil ?_
    dsimp only
    refine xs_ret (v := .str (chr c)) (m := m₁) (by (apply Ev.nm (by assumption); (repeat first | with_reducible exact Slot.head | (show Slot (_ :: _) (_ :: _) _ _ _; first | with_reducible exact Slot.head | apply Slot.tail)); rfl)) ⟨rfl, rfl⟩
theorem b_read_eof {n : Nat} (K : LxK G C fl) (Fa : Facts G fa) (X : Lx C I L pb [] m) (hA : Good (n + 1) A) (hc : (cxM G A env own (methAt 4 1)).Ok) :
    ExecsTo (cxM G A env own (methAt 4 1)) (bodyOf (methAt 4 1)) ⟨[some (.ref I.i), none], m⟩ fun fl st' => outOf (fun y m' => y = .str "" ∧ m' = m.alloc (.list [])) fl st'.m := by
  refine xs_cons (Ex.to (x_read K X (c_lam_eof Fa X hA) hA hc) ?_)
  dsimp only
  generalize m.alloc (.list []) = m₁
  refine xs_cons (x_if (Te.to (b := false) (m := m₁) ?_ ?_))
  · apply Te.cmp hc
    · (apply Ev.nm (by assumption); (repeat first | with_reducible exact Slot.head | (show Slot (_ :: _) (_ :: _) _ _ _; first | with_reducible exact Slot.head | apply Slot.tail)); rfl)
    · exact Ev.str
    · exact cmp_eqs ⟨by rfl, rfl⟩
  rw [if_neg Bool.false_ne_true]
  refine xs_nil ?_
  dsimp only
  refine xs_ret (v := .str "") (m := m₁) (by (apply Ev.nm (by assumption); (repeat first | with_reducible exact Slot.head | (show Slot (_ :: _) (_ :: _) _ _ _; first | with_reducible exact Slot.head | apply Slot.tail)); rfl)) ⟨rfl, rfl⟩
theorem c_read {n : Nat} {c : Nat} {r : List Nat} (K : LxK G C fl) (Fa : Facts G fa) (X : Lx C I L pb (c :: r) m) (hl : r.length < 1000) (hA : Good (n + 1 + 1) A) : CT G A (.st (.ref (fl 1))) [.ref I.i] m fun y m' => y = .str (chr c) ∧ m' = readH I L c r m :=
  c_of (n := n + 1) (bs := [(Str.ofString "self", .ref I.i)]) (vars := [some (.ref I.i), none]) hA (K.meth (1, "_read_char") (by decide)).1 sc_read (by exact bind1 (fun _ _ _ _ _ _ _ _ _ _ _ _ _ => by kernel_rfl)) (by (focus repeat first | exact Binds.nil | (apply Binds.cons; (focus repeat first | with_reducible exact Put.headL | with_reducible exact Put.headC | (show Put (_ :: _) (_ :: _) _ _ _; first | with_reducible exact Put.headL | with_reducible exact Put.headC | apply Put.tail))))) fun _ _ _ hA' hc => b_read K Fa X hl hA' hc
theorem c_read_eof {n : Nat} (K : LxK G C fl) (Fa : Facts G fa) (X : Lx C I L pb [] m) (hA : Good (n + 1 + 1) A) : CT G A (.st (.ref (fl 1))) [.ref I.i] m fun y m' => y = .str "" ∧ m' = m.alloc (.list []) :=
  c_of (n := n + 1) (bs := [(Str.ofString "self", .ref I.i)]) (vars := [some (.ref I.i), none]) hA (K.meth (1, "_read_char") (by decide)).1 sc_read (by exact bind1 (fun _ _ _ _ _ _ _ _ _ _ _ _ _ => by kernel_rfl)) (by (focus repeat first | exact Binds.nil | (apply Binds.cons; (focus repeat first | with_reducible exact Put.headL | with_reducible exact Put.headC | (show Put (_ :: _) (_ :: _) _ _ _; first | with_reducible exact Put.headL | with_reducible exact Put.headC | apply Put.tail))))) fun _ _ _ hA' hc => b_read_eof K Fa X hA' hc
end
inductive LexQ : Str → List Nat → Str → List Nat → Prop
  | close {acc r} : LexQ acc (34 :: r) acc r
  | step {acc c r tok rest} : c ≠ 34 → c ≠ 92 → c ≠ 10 → LexQ (acc ++ chr c) r tok rest → LexQ acc (c :: r) tok rest
inductive LexB : Str → List Nat → Str → List Nat → Nat → Prop
  | nl {acc r} : LexB acc (10 :: r) acc r 1
  | eof {acc} : LexB acc [] acc [] 0
  | esc {acc c r tok rest n} : c ≠ 10 → LexB (acc ++ chr c) r tok rest n → LexB acc (92 :: c :: r) tok rest n
  | plain {acc c r tok rest n} : c ∈ [101, 110, 100] → LexB (acc ++ chr c) r tok rest n → LexB acc (c :: r) tok rest n
inductive LexO : List Nat → Str → List Nat → Nat → Prop
  | nl {r tok rest n} : LexO r tok rest n → LexO (10 :: r) tok rest (n + 1)
  | eof : LexO [] "" [] 0
  | quote {r tok rest} : LexQ "" r tok rest → LexO (34 :: r) tok rest 0
  | esc {c r tok rest n} : c ≠ 10 → LexB ("" ++ chr c) r tok rest n → LexO (92 :: c :: r) tok rest n
  | plain {c r tok rest n} : c ∈ [101, 110, 100] → LexB ("" ++ chr c) r tok rest n → LexO (c :: r) tok rest n
noncomputable def elseIf : Stmt → List Stmt
  | .If (orelse := b) .. => b
  | _ => []
theorem ws_nl : (!(Builtin.Str.occurrences wsStr (chr 10) 0 wsStr.length 1).isEmpty) = true := by decide +kernel
theorem ws_no : ∀ c ∈ [34, 92, 101, 110, 100], (!(Builtin.Str.occurrences wsStr (chr c) 0 wsStr.length 1).isEmpty) = false := by decide +kernel
structure TkAt (C : Addr) (I : LexIds) (f : Addr) (it mi : Nat) (m₀ : MH) (L : Int) (rest : List Nat) (m : MH) : Prop where
  x : Lx C I L [] rest m
  g : LGrow I m₀ m
  hit : m.H it = some (.citer (.ref mi) (.str "") false)
  hmi : m.H mi = some (.meth f (.ref I.i))
  no : ∀ o, m₀.H it ≠ some o
section
variable {C : Addr} {I : LexIds} {L : Int} {f : Addr} {it mi : Nat} {m₀ m : MH} {rest r : List Nat} {c : Nat}
theorem TkAt.keep {m' : MH} {L' : Int} {rest' : List Nat} (T : TkAt C I f it mi m₀ L rest m) (X : Lx C I L' [] rest' m') (g : LGrow I m m') : TkAt C I f it mi m₀ L' rest' m' := by
  refine ⟨X, T.g.trans g, g.keep _ _ T.hit (kinds_ne T.hit T.x.d fun z => nomatch z) (kinds_ne T.hit T.x.pl fun z => nomatch z) (kinds_ne T.hit T.x.sl fun z => nomatch z),
    g.keep _ _ T.hmi (kinds_ne T.hmi T.x.d fun z => nomatch z) (kinds_ne T.hmi T.x.pl fun z => nomatch z) (kinds_ne T.hmi T.x.sl fun z => nomatch z), T.no⟩
theorem TkAt.read (T : TkAt C I f it mi m₀ L (c :: r) m) : TkAt C I f it mi m₀ (lineUp c L) r (readH I L c r m) := T.keep T.x.read.1 T.x.read.2
theorem Lx.off {pb : List MV} {a b : MV} {e : Bool} {o : MO} {j : Nat} (X : Lx C I L pb rest m) (h : m.H j = some (.citer a b e)) : Lx C I L pb rest (m.set j o) := by
  obtain ⟨fs, h1, h2⟩ := X.wd
  refine ⟨?_, ?_, ?_, ?_, ⟨fs, ?_, h2⟩, ?_, ?_, ?_, ?_, set_wf X.wf (X.wf _ _ h), X.ne1, X.ne2, X.isl, X.ioc, X.chars⟩
  · rw [set_off (kinds_ne X.i h (fun z => nomatch z))]; exact X.i
  · rw [set_off (kinds_ne X.d h (fun z => nomatch z))]; exact X.d
  · rw [set_off (kinds_ne X.pl h (fun z => nomatch z))]; exact X.pl
  · rw [set_off (kinds_ne X.wi h (fun z => nomatch z))]; exact X.wi
  · rw [set_off (kinds_ne h1 h (fun z => nomatch z))]; exact h1
  · rw [set_off (kinds_ne X.lam h (fun z => nomatch z))]; exact X.lam
  · rw [set_off (kinds_ne X.cc h (fun z => nomatch z))]; exact X.cc
  · rw [set_off (kinds_ne X.kk h (fun z => nomatch z))]; exact X.kk
  · rw [set_off (kinds_ne X.sl h (fun z => nomatch z))]; exact X.sl
end
noncomputable def F0 : Stmt := nthOf (bodyOf (methAt 4 2)) 3
noncomputable def FQ : Stmt := nthOf (innerOf (nthOf (innerOf F0) 1)) 0
noncomputable def FB : Stmt := nthOf (elseIf (nthOf (innerOf F0) 1)) 2
noncomputable def okm (C : Addr) (I : LexIds) (m : MH) : Prop := ∃ L pb rest, Lx C I L pb rest m ∧ rest.length < 1000
noncomputable def Rd1 (C : Addr) (I : LexIds) (m : MH) (s : Str) (m' : MH) : Prop := ∀ L pb rest, Lx C I L pb rest m → (rest = [] → s = "" ∧ m' = m.alloc (.list [])) ∧ ∀ c r, rest = c :: r → s = chr c ∧ m' = readH I L c r m
theorem chr_ne (c : Nat) : chr c ≠ "" := fun z => absurd (congrArg Str.length z) (show ¬ (1 = 0) by decide)
section
variable {G : GC} {A : Around} {env : Env} {own : List Addr} {C : Addr} {I : LexIds} {fl fa : Nat → Addr} {it mi n : Nat} {m₀ : MH}
theorem Hr_ok (K : LxK G C fl) (Fa : Facts G fa) (hA : Good (n + 1 + 1 + 1) A) : ∀ m, okm C I m → CT G A.in1 (.st (.ref (fl 1))) [.ref I.i] m fun y m' => ∃ s, y = .str s ∧ Rd1 C I m s m' := by
  rintro m ⟨L, pb, rest, X, hl⟩
  cases rest with
  | nil =>
    refine (c_read_eof (n := n) K Fa X hA.in1).mono ?_
    rintro y m' ⟨rfl, rfl⟩
    refine ⟨_, rfl, fun L' pb' rest' Y => ?_⟩
    obtain ⟨rfl, rfl⟩ := X.uniq Y
    exact ⟨fun _ => ⟨rfl, rfl⟩, fun c r h => nomatch h⟩
  | cons c r =>
    refine (c_read (n := n) K Fa X (by rw [List.length_cons] at hl; omega) hA.in1).mono ?_
    rintro y m' ⟨rfl, rfl⟩
    refine ⟨_, rfl, fun L' pb' rest' Y => ?_⟩
    obtain ⟨rfl, rfl⟩ := X.uniq Y
    exact ⟨(fun h => nomatch h), fun c r h => by cases h; exact ⟨rfl, rfl⟩⟩
noncomputable abbrev cT (G : GC) (A : Around) (env : Env) (own : List Addr) : Cx := cxM G A env own (methAt 4 2)
noncomputable abbrev cit (C : Addr) (I : LexIds) (f : Addr) (it mi : Nat) : Src := citSrc it mi f (.ref I.i) "" (okm C I) (Rd1 C I)
section
variable {c : Cx} {target : Expr} {body orelse : List Stmt} {f : Addr} {k : Nat} {vars : List (Option MV)} {m : MH} {L : Int} {ch : Nat} {r : List Nat} {Q : MF → St → Prop}
theorem for_read (T : TkAt C I f it mi m₀ L (ch :: r) m) (hl : r.length < 900) (h : AsgTo c target (.str (chr ch)) ⟨vars, readH I L ch r m⟩ fun st₁ => ExecsTo c body st₁ fun f' st₂ => match f' with
        | .next | .cont => ForN c target body orelse (cit C I f it mi) k () st₂ Q
        | .brk => Q .next st₂
        | .ret v => Q (.ret v) st₂) : ForN c target body orelse (cit C I f it mi) (k + 1) () ⟨vars, m⟩ Q := by
  refine .inl ⟨⟨T.hit, T.hmi, ⟨L, [], ch :: r, T.x, by rw [List.length_cons]; omega⟩, fun s m' hs => ?_⟩, ?_⟩
  · obtain ⟨rfl, rfl⟩ := (hs _ _ _ T.x).2 _ _ rfl
    exact ⟨chr_ne _, T.read.hit⟩
  · rintro v m' k' ⟨s, hs, rfl⟩
    obtain ⟨rfl, rfl⟩ := (hs _ _ _ T.x).2 _ _ rfl
    exact h
theorem for_eof (T : TkAt C I f it mi m₀ L [] m) (h : ExecsTo c orelse ⟨vars, (m.alloc (.list [])).set it (.citer .none .none true)⟩ Q) : ForN c target body orelse (cit C I f it mi) (k + 1) () ⟨vars, m⟩ Q := by
  refine .inr ⟨_, .inr ⟨T.hit, T.hmi, ⟨L, [], [], T.x, by decide⟩, m.alloc (.list []), fun s m₂ hs => ?_, rfl⟩, h⟩
  obtain ⟨rfl, rfl⟩ := (hs _ _ _ T.x).1 rfl
  exact ⟨rfl, rfl, alloc_old T.x.wf T.hit, alloc_old T.x.wf T.hmi⟩
theorem for_ended {a b : MV} (hm : m.H it = some (.citer a b true)) (h : ExecsTo c orelse ⟨vars, m⟩ Q) : ForN c target body orelse (cit C I f it mi) (k + 1) () ⟨vars, m⟩ Q :=
  .inr ⟨m, .inl ⟨a, b, hm, rfl⟩, h⟩
end
section
variable {m : MH} {L : Int} {acc : Str} {w : Option MV} {ch : Nat} {rest : List Nat} {p q q2 : Pos} {k0 : Nat}
theorem t_ws {b : Bool} {pb : List MV} (K : LxK G C fl) (X : Lx C I L pb rest m) (hb : (!(Builtin.Str.occurrences wsStr (chr ch) 0 wsStr.length 1).isEmpty) = b) (hc : (cT G A env own).Ok) :
    Te (cT G A env own) (.Compare (.Name (Str.ofString "ch") p) [.In] [.Attribute (.Name (Str.ofString "self") q) (Str.ofString "whitespace") q2] q2') ⟨[some (.ref I.i), some (.str acc), some (.ref it), some (.str (chr ch)), none], m⟩ b m := by
  apply Te.cmp hc
  · (apply Ev.nm (by assumption); (repeat first | with_reducible exact Slot.head | (show Slot (_ :: _) (_ :: _) _ _ _; first | with_reducible exact Slot.head | apply Slot.tail)); rfl)
  · apply Ev.attr hc
    · (apply Ev.nm (by assumption); (repeat first | with_reducible exact Slot.head | (show Slot (_ :: _) (_ :: _) _ _ _; first | with_reducible exact Slot.head | apply Slot.tail)); rfl)
    · exact get_inst K.cls X.i X.d (K.fields "whitespace" (by decide)) rfl ⟨rfl, rfl⟩
  · exact cmp_ins ⟨by rw [hb], rfl⟩
theorem t_ch {k : Nat} {s : Str} (hs : s = chr k) (hc : (cT G A env own).Ok) :
    Te (cT G A env own) (.Compare (.Name (Str.ofString "ch") p) [.Eq] [.Constant (.str s) k0 q] q2) ⟨[some (.ref I.i), some (.str acc), some (.ref it), some (.str (chr ch)), none], m⟩ (decide (ch = k)) m := by
  apply Te.cmp hc
  · (apply Ev.nm (by assumption); (repeat first | with_reducible exact Slot.head | (show Slot (_ :: _) (_ :: _) _ _ _; first | with_reducible exact Slot.head | apply Slot.tail)); rfl)
  · exact Ev.str
  · exact cmp_eqs ⟨by rw [hs, chr_beq], rfl⟩
theorem x_tok {x : Str} (hl : acc.length + x.length ≤ 1000) (hc : (cT G A env own).Ok) :
    Ex (cT G A env own) (.AugAssign (.Name (Str.ofString "token") p) .Add (.Name (Str.ofString "ch") q) q2) ⟨[some (.ref I.i), some (.str acc), some (.ref it), some (.str x), none], m⟩ .next ⟨[some (.ref I.i), some (.str (acc ++ x)), some (.ref it), some (.str x), none], m⟩ := by
  apply Ex.aug hc
  · (focus repeat first | with_reducible exact Slot.head | (show Slot (_ :: _) (_ :: _) _ _ _; first | with_reducible exact Slot.head | apply Slot.tail))
  · (first | exact .inl rfl | exact .inr (.inl rfl) | exact .inr (.inr rfl) | exact .inr rfl)
  · (apply Ev.nm (by assumption); (repeat first | with_reducible exact Slot.head | (show Slot (_ :: _) (_ :: _) _ _ _; first | with_reducible exact Slot.head | apply Slot.tail)); rfl)
  · exact in_adds (Nat.le_trans hl sizeLine_big) ⟨rfl, rfl⟩
  · (focus repeat first | with_reducible exact Put.headL | with_reducible exact Put.headC | (show Put (_ :: _) (_ :: _) _ _ _; first | with_reducible exact Put.headL | with_reducible exact Put.headC | apply Put.tail))
theorem x_ch {pb : List MV} {r : List Nat} (K : LxK G C fl) (Fa : Facts G fa) (X : Lx C I L pb (ch :: r) m) (hl : r.length < 900) (hA : Good (n + 1 + 1) A) (hc : (cT G A env own).Ok) {ap p' : Pos} (hline : (ap.endLine == p'.line) = true) :
    Ex (cT G A env own) (.Assign [.Name (Str.ofString "ch") p] (.Call (.Attribute (.Name (Str.ofString "self") q) (Str.ofString "_read_char") ap) [] [] p') q2) ⟨[some (.ref I.i), some (.str acc), some (.ref it), w, none], m⟩ .next ⟨[some (.ref I.i), some (.str acc), some (.ref it), some (.str (chr ch)), none], readH I L ch r m⟩ := by
  obtain ⟨F, hf, ht⟩ := K.meth (1, "_read_char") (by decide)
  apply Ex.set hc
  · apply Ev.meth0 hc (hline := hline)
    · (apply Ev.nm (by assumption); (repeat first | with_reducible exact Slot.head | (show Slot (_ :: _) (_ :: _) _ _ _; first | with_reducible exact Slot.head | apply Slot.tail)); rfl)
    · exact meth_inst K.cls X.i X.d hf ht F.lt rfl ⟨rfl, rfl⟩
    · exact keeps_stat F.keep
    · exact (c_read K Fa X (by omega) hA).ht
  · (focus repeat first | with_reducible exact Put.headL | with_reducible exact Put.headC | (show Put (_ :: _) (_ :: _) _ _ _; first | with_reducible exact Put.headL | with_reducible exact Put.headC | apply Put.tail))
end
end
theorem line_ne {c : Nat} {L : Int} (h : c ≠ 10) : lineUp c L = L := if_neg h
theorem len_chr (acc : Str) (c : Nat) : (acc ++ chr c).length = acc.length + 1 := by
  show (acc.cps ++ #[c]).size = acc.cps.size + 1
  rw [Array.size_append]; rfl
section
variable {G : GC} {A : Around} {env : Env} {own : List Addr} {C : Addr} {I : LexIds} {fl fa : Nat → Addr} {it mi n : Nat} {m₀ : MH}
theorem q_loop (hc : (cT G A env own).Ok) {acc : Str} {chars : List Nat} {tok : Str} {rest : List Nat} (D : LexQ acc chars tok rest) : ∃ k, ∀ {L : Int} {w : Option MV} {m : MH}, TkAt C I (fl 1) it mi m₀ L chars m → acc.length + chars.length ≤ 890 →
    ForN (cT G A env own) (targetOf FQ) (innerOf FQ) [] (cit C I (fl 1) it mi) k () ⟨[some (.ref I.i), some (.str acc), some (.ref it), w, none], m⟩ fun f st' => f = .ret (.str tok) ∧ TkAt C I (fl 1) it mi m₀ L rest st'.m := by
  induction D with
  | close =>
    refine ⟨1, fun {L w m} T hl => for_read T (by rw [List.length_cons] at hl; omega) (asg_name hc ⟨_, by (focus repeat first | with_reducible exact Put.headL | with_reducible exact Put.headC | (show Put (_ :: _) (_ :: _) _ _ _; first | with_reducible exact Put.headL | with_reducible exact Put.headC | apply Put.tail)), xs_cons (x_if (Te.to (t_ch (k := 34) rfl hc) ?_))⟩)⟩
    rw [if_pos (decide_eq_true rfl)]
    exact xs_ret (by (apply Ev.nm (by assumption); (repeat first | with_reducible exact Slot.head | (show Slot (_ :: _) (_ :: _) _ _ _; first | with_reducible exact Slot.head | apply Slot.tail)); rfl)) ⟨rfl, T.read⟩
  | @step acc c r tok rest h34 h92 h10 D ih =>
    obtain ⟨k, ih⟩ := ih
    refine ⟨k + 1, fun {L w m} T hl => for_read T (by rw [List.length_cons] at hl; omega) (asg_name hc ⟨_, by (focus repeat first | with_reducible exact Put.headL | with_reducible exact Put.headC | (show Put (_ :: _) (_ :: _) _ _ _; first | with_reducible exact Put.headL | with_reducible exact Put.headC | apply Put.tail)), xs_cons (x_if (Te.to (t_ch (k := 34) rfl hc) ?_))⟩)⟩
    have T1 := T.read
    rw [line_ne h10] at T1
    rw [List.length_cons] at hl
    rw [if_neg (by rw [decide_eq_false h34]; exact Bool.false_ne_true)]
    refine xs_cons (x_if (Te.to (t_ch (k := 92) rfl hc) ?_))
    rw [if_neg (by rw [decide_eq_false h92]; exact Bool.false_ne_true)]
    refine xs_nil (xs_nil (xs_cons (Ex.to (x_tok (by show _ + 1 ≤ _; omega) hc) (xs_nil ?_))))
    exact ih T1 (by rw [len_chr]; omega)
noncomputable def BEnd (C : Addr) (I : LexIds) (it : Nat) (m₀ : MH) (tok : Str) (L : Int) (rest : List Nat) (f : MF) (st' : St) : Prop :=
  (Lx C I L [] rest st'.m ∧ LGrow I m₀ st'.m) ∧ (f = .ret (.str tok) ∨ (f = .next ∧ rest = [] ∧ (∃ w, st'.vars = [some (.ref I.i), some (.str tok), some (.ref it), w, none]) ∧ ∃ a b, st'.m.H it = some (.citer a b true)))
theorem TkAt.over {C : Addr} {I : LexIds} {f : Addr} {L : Int} {m : MH} (T : TkAt C I f it mi m₀ L [] m) : (Lx C I L [] [] ((m.alloc (.list [])).set it (.citer .none .none true)) ∧ LGrow I m₀ ((m.alloc (.list [])).set it (.citer .none .none true))) ∧ ((m.alloc (.list [])).set it (.citer .none .none true)).H it = some (.citer .none .none true) := by
  have T1 := T.keep (T.x.new (.list [])) (LGrow.new T.x.wf _)
  refine ⟨⟨T1.x.off T1.hit, fun j o e h1 h2 h3 => ?_, T1.g.tb⟩, set_at _ _ _⟩
  rw [set_off (fun z : j = it => T.no o (by rw [← z]; exact e))]
  exact T1.g.keep j o e h1 h2 h3
theorem b_loop (K : LxK G C fl) (Fa : Facts G fa) (hA : Good (n + 1 + 1 + 1) A) (hc : (cT G A env own).Ok) {acc : Str} {chars : List Nat} {tok : Str} {rest : List Nat} {d : Nat} (D : LexB acc chars tok rest d) : ∃ k, ∀ {L : Int} {w : Option MV} {m : MH}, TkAt C I (fl 1) it mi m₀ L chars m → acc.length + chars.length ≤ 890 →
    ForN (cT G A env own) (targetOf FB) (innerOf FB) [] (cit C I (fl 1) it mi) k () ⟨[some (.ref I.i), some (.str acc), some (.ref it), w, none], m⟩ (BEnd C I it m₀ tok (L + d) rest) := by
  have hA2 : Good (n + 1 + 1) A := hA.le (Nat.le_succ _)
  induction D with
  | nl =>
    refine ⟨1, fun {L w m} T hl => for_read T (by rw [List.length_cons] at hl; omega) (asg_name hc ⟨_, by (focus repeat first | with_reducible exact Put.headL | with_reducible exact Put.headC | (show Put (_ :: _) (_ :: _) _ _ _; first | with_reducible exact Put.headL | with_reducible exact Put.headC | apply Put.tail)), xs_cons (x_if (Te.to (t_ws K T.read.x ws_nl hc) ?_))⟩)⟩
    rw [if_pos rfl]
    exact xs_ret (by (apply Ev.nm (by assumption); (repeat first | with_reducible exact Slot.head | (show Slot (_ :: _) (_ :: _) _ _ _; first | with_reducible exact Slot.head | apply Slot.tail)); rfl)) ⟨⟨T.read.x, T.read.g⟩, .inl rfl⟩
  | eof =>
    refine ⟨1, fun {L w m} T hl => for_eof T (xs_nil ⟨?_, .inr ⟨rfl, rfl, ⟨w, rfl⟩, _, _, T.over.2⟩⟩)⟩
    have := T.over.1
    rw [show L + ((0 : Nat) : Int) = L by omega]
    exact this
  | @esc acc c r tok rest d h10 D ih =>
    obtain ⟨k, ih⟩ := ih
    refine ⟨k + 1, fun {L w m} T hl => for_read T (by rw [List.length_cons, List.length_cons] at hl; rw [List.length_cons]; omega) (asg_name hc ⟨_, by (focus repeat first | with_reducible exact Put.headL | with_reducible exact Put.headC | (show Put (_ :: _) (_ :: _) _ _ _; first | with_reducible exact Put.headL | with_reducible exact Put.headC | apply Put.tail)), xs_cons (x_if (Te.to (t_ws K T.read.x (ws_no 92 (by decide)) hc) ?_))⟩)⟩
    have T1 := T.read
    rw [line_ne (by decide)] at T1
    rw [List.length_cons, List.length_cons] at hl
    rw [if_neg Bool.false_ne_true]
    refine xs_cons (x_if (Te.to (t_ch (k := 92) rfl hc) ?_))
    rw [if_pos (decide_eq_true rfl)]
    refine xs_cons (Ex.to (x_ch K Fa T1.x (by omega) hA2 hc rfl) ?_)
    have T2 := T1.read
    rw [line_ne h10] at T2
    refine xs_nil (xs_nil (xs_cons (Ex.to (x_tok (by show _ + 1 ≤ _; omega) hc) (xs_nil ?_))))
    exact ih T2 (by rw [len_chr]; omega)
  | @plain acc c r tok rest d hcs D ih =>
    obtain ⟨k, ih⟩ := ih
    have h10 : c ≠ 10 := fun z => by rw [z] at hcs; revert hcs; decide
    have h92 : c ≠ 92 := fun z => by rw [z] at hcs; revert hcs; decide
    refine ⟨k + 1, fun {L w m} T hl => for_read T (by rw [List.length_cons] at hl; omega) (asg_name hc ⟨_, by (focus repeat first | with_reducible exact Put.headL | with_reducible exact Put.headC | (show Put (_ :: _) (_ :: _) _ _ _; first | with_reducible exact Put.headL | with_reducible exact Put.headC | apply Put.tail)), xs_cons (x_if (Te.to (t_ws K T.read.x (ws_no c (.tail _ (.tail _ hcs))) hc) ?_))⟩)⟩
    have T1 := T.read
    rw [line_ne h10] at T1
    rw [List.length_cons] at hl
    rw [if_neg Bool.false_ne_true]
    refine xs_cons (x_if (Te.to (t_ch (k := 92) rfl hc) ?_))
    rw [if_neg (by rw [decide_eq_false h92]; exact Bool.false_ne_true)]
    refine xs_nil (xs_nil (xs_cons (Ex.to (x_tok (by show _ + 1 ≤ _; omega) hc) (xs_nil ?_))))
    exact ih T1 (by rw [len_chr]; omega)
end
section
variable {G : GC} {A : Around} {env : Env} {own : List Addr} {C : Addr} {I : LexIds} {fl fa : Nat → Addr} {it mi n : Nat} {m₀ : MH}
theorem o_loop (K : LxK G C fl) (Fa : Facts G fa) (hA : Good (n + 1 + 1 + 1) A) (hc : (cT G A env own).Ok) {chars : List Nat} {tok : Str} {rest : List Nat} {d : Nat} (D : LexO chars tok rest d) : ∃ k, ∀ {L : Int} {w : Option MV} {m : MH}, TkAt C I (fl 1) it mi m₀ L chars m → chars.length ≤ 880 →
    ForN (cT G A env own) (targetOf F0) (innerOf F0) [] (cit C I (fl 1) it mi) k () ⟨[some (.ref I.i), some (.str ""), some (.ref it), w, none], m⟩ (BEnd C I it m₀ tok (L + d) rest) := by
  have hA2 : Good (n + 1 + 1) A := hA.le (Nat.le_succ _)
  have hN := (K.meth (1, "_read_char") (by decide)).1.lt
  have hfn := K.rc.2.2
  have hHr := Hr_ok (I := I) (n := n) K Fa hA
  induction D with
  | @nl r tok rest d D ih =>
    obtain ⟨k, ih⟩ := ih
    refine ⟨k + 1, fun {L w m} T hl => for_read T (by rw [List.length_cons] at hl; omega) (asg_name hc ⟨_, by (focus repeat first | with_reducible exact Put.headL | with_reducible exact Put.headC | (show Put (_ :: _) (_ :: _) _ _ _; first | with_reducible exact Put.headL | with_reducible exact Put.headC | apply Put.tail)), xs_cons (x_if (Te.to (t_ws K T.read.x ws_nl hc) ?_))⟩)⟩
    rw [if_pos rfl]
    refine xs_cons (x_cont ?_)
    rw [show L + ((d + 1 : Nat) : Int) = (L + 1) + d by omega]
    exact ih T.read (by rw [List.length_cons] at hl; omega)
  | eof =>
    refine ⟨1, fun {L w m} T hl => for_eof T (xs_nil ⟨?_, .inr ⟨rfl, rfl, ⟨w, rfl⟩, _, _, T.over.2⟩⟩)⟩
    have := T.over.1
    rw [show L + ((0 : Nat) : Int) = L by omega]
    exact this
  | @quote r tok rest D =>
    obtain ⟨k, HQ⟩ := q_loop (I := I) (fl := fl) (it := it) (mi := mi) (m₀ := m₀) hc D
    refine ⟨1, fun {L w m} T hl => for_read T (by rw [List.length_cons] at hl; omega) (asg_name hc ⟨_, by (focus repeat first | with_reducible exact Put.headL | with_reducible exact Put.headC | (show Put (_ :: _) (_ :: _) _ _ _; first | with_reducible exact Put.headL | with_reducible exact Put.headC | apply Put.tail)), xs_cons (x_if (Te.to (t_ws K T.read.x (ws_no 34 (by decide)) hc) ?_))⟩)⟩
    have T1 := T.read
    rw [line_ne (by decide)] at T1
    rw [List.length_cons] at hl
    rw [if_neg Bool.false_ne_true]
    refine xs_nil (xs_cons (x_if (Te.to (t_ch (k := 34) rfl hc) ?_)))
    rw [if_pos (decide_eq_true rfl)]
    refine xs_cons (FT.mono (x_for hc (ie_val hc (Ev.to (v := .ref it) (by (apply Ev.nm (by assumption); (repeat first | with_reducible exact Slot.head | (show Slot (_ :: _) (_ :: _) _ _ _; first | with_reducible exact Slot.head | apply Slot.tail)); rfl)) (iv_cit hc.hand hN hfn hHr T1.hit ⟨(fun z => nomatch z), k, HQ T1 (by show 0 + _ ≤ _; omega)⟩)))) ?_)
    rintro f st' ⟨rfl, T'⟩
    refine ⟨?_, .inl rfl⟩
    rw [show L + ((0 : Nat) : Int) = L by omega]
    exact ⟨T'.x, T'.g⟩
  | @esc c r tok rest d h10 D =>
    obtain ⟨k, HB⟩ := b_loop (I := I) (it := it) (mi := mi) (m₀ := m₀) K Fa hA hc D
    refine ⟨2, fun {L w m} T hl => for_read T (by rw [List.length_cons, List.length_cons] at hl; rw [List.length_cons]; omega) (asg_name hc ⟨_, by (focus repeat first | with_reducible exact Put.headL | with_reducible exact Put.headC | (show Put (_ :: _) (_ :: _) _ _ _; first | with_reducible exact Put.headL | with_reducible exact Put.headC | apply Put.tail)), xs_cons (x_if (Te.to (t_ws K T.read.x (ws_no 92 (by decide)) hc) ?_))⟩)⟩
    have T1 := T.read
    rw [line_ne (by decide)] at T1
    rw [List.length_cons, List.length_cons] at hl
    rw [if_neg Bool.false_ne_true]
    refine xs_nil (xs_cons (x_if (Te.to (t_ch (k := 34) rfl hc) ?_)))
    rw [if_neg (by rw [decide_eq_false (by decide)]; exact Bool.false_ne_true)]
    refine xs_cons (x_if (Te.to (t_ch (k := 92) rfl hc) ?_))
    rw [if_pos (decide_eq_true rfl)]
    refine xs_cons (Ex.to (x_ch K Fa T1.x (by omega) hA2 hc rfl) ?_)
    have T2 := T1.read
    rw [line_ne h10] at T2
    refine xs_nil (xs_cons (Ex.to (x_tok (by show 0 + 1 ≤ _; omega) hc) ?_))
    dsimp only
    refine xs_cons (FT.mono (x_for hc (ie_val hc (Ev.to (v := .ref it) (by (apply Ev.nm (by assumption); (repeat first | with_reducible exact Slot.head | (show Slot (_ :: _) (_ :: _) _ _ _; first | with_reducible exact Slot.head | apply Slot.tail)); rfl)) (iv_cit hc.hand hN hfn hHr T2.hit ⟨(fun z => nomatch z), k, HB T2 (by show 1 + _ ≤ _; omega)⟩)))) ?_)
    rintro f ⟨vars, m'⟩ ⟨hx, rfl | ⟨rfl, hr, ⟨w', hv⟩, a, b, hend⟩⟩
    · exact ⟨hx, .inl rfl⟩
    · dsimp only at hv hx hend
      subst hv
      exact xs_nil (xs_nil (for_ended hend (xs_nil ⟨hx, .inr ⟨rfl, hr, ⟨w', rfl⟩, a, b, hend⟩⟩)))
  | @plain c r tok rest d hcs D =>
    obtain ⟨k, HB⟩ := b_loop (I := I) (it := it) (mi := mi) (m₀ := m₀) K Fa hA hc D
    have h10 : c ≠ 10 := fun z => by rw [z] at hcs; revert hcs; decide
    have h92 : c ≠ 92 := fun z => by rw [z] at hcs; revert hcs; decide
    have h34 : c ≠ 34 := fun z => by rw [z] at hcs; revert hcs; decide
    refine ⟨2, fun {L w m} T hl => for_read T (by rw [List.length_cons] at hl; omega) (asg_name hc ⟨_, by (focus repeat first | with_reducible exact Put.headL | with_reducible exact Put.headC | (show Put (_ :: _) (_ :: _) _ _ _; first | with_reducible exact Put.headL | with_reducible exact Put.headC | apply Put.tail)), xs_cons (x_if (Te.to (t_ws K T.read.x (ws_no c (.tail _ (.tail _ hcs))) hc) ?_))⟩)⟩
    have T1 := T.read
    rw [line_ne h10] at T1
    rw [List.length_cons] at hl
    rw [if_neg Bool.false_ne_true]
    refine xs_nil (xs_cons (x_if (Te.to (t_ch (k := 34) rfl hc) ?_)))
    rw [if_neg (by rw [decide_eq_false h34]; exact Bool.false_ne_true)]
    refine xs_cons (x_if (Te.to (t_ch (k := 92) rfl hc) ?_))
    rw [if_neg (by rw [decide_eq_false h92]; exact Bool.false_ne_true)]
    refine xs_nil (xs_cons (Ex.to (x_tok (by show 0 + 1 ≤ _; omega) hc) ?_))
    dsimp only
    refine xs_cons (FT.mono (x_for hc (ie_val hc (Ev.to (v := .ref it) (by (apply Ev.nm (by assumption); (repeat first | with_reducible exact Slot.head | (show Slot (_ :: _) (_ :: _) _ _ _; first | with_reducible exact Slot.head | apply Slot.tail)); rfl)) (iv_cit hc.hand hN hfn hHr T1.hit ⟨(fun z => nomatch z), k, HB T1 (by show 1 + _ ≤ _; omega)⟩)))) ?_)
    rintro f ⟨vars, m'⟩ ⟨hx, rfl | ⟨rfl, hr, ⟨w', hv⟩, a, b, hend⟩⟩
    · exact ⟨hx, .inl rfl⟩
    · dsimp only at hv hx hend
      subst hv
      exact xs_nil (xs_nil (for_ended hend (xs_nil ⟨hx, .inr ⟨rfl, hr, ⟨w', rfl⟩, a, b, hend⟩⟩)))
theorem t_pb {L : Int} {pb : List MV} {rest : List Nat} {m : MH} (K : LxK G C fl) (X : Lx C I L pb rest m) (hl : pb.length < 900) (hc : (cT G A env own).Ok) :
    Te (cT G A env own) (testOf (nthOf (bodyOf (methAt 4 2)) 0)) ⟨[some (.ref I.i), none, none, none, none], m⟩ (!pb.isEmpty) m := by
  apply Te.val hc
  · apply Ev.attr hc
    · (apply Ev.nm (by assumption); (repeat first | with_reducible exact Slot.head | (show Slot (_ :: _) (_ :: _) _ _ _; first | with_reducible exact Slot.head | apply Slot.tail)); rfl)
    · exact get_inst K.cls X.i X.d (K.fields "pushback" (by decide)) rfl ⟨rfl, rfl⟩
  · exact tru_list X.pl (by omega) ⟨rfl, rfl⟩
theorem b_get {L : Int} {m : MH} (K : LxK G C fl) (Fa : Facts G fa) (hA : Good (n + 1 + 1 + 1) A) (hc : (cT G A env own).Ok) {chars : List Nat} {tok : Str} {rest : List Nat} {d : Nat} (D : LexO chars tok rest d) (X : Lx C I L [] chars m) (hl : chars.length ≤ 880) :
    ExecsTo (cT G A env own) (bodyOf (methAt 4 2)) ⟨[some (.ref I.i), none, none, none, none], m⟩ fun fl st' => outOf (fun y m' => y = .str tok ∧ Lx C I (L + d) [] rest m' ∧ LGrow I m m') fl st'.m := by
  have hiter : GlobIs G "iter" (.builtin "iter") := Fa.bi "iter" (by decide)
  obtain ⟨F, hf, ht⟩ := K.meth (1, "_read_char") (by decide)
  refine xs_cons (x_if (Te.to (b := false) (t_pb K X (by decide) hc) ?_))
  rw [if_neg Bool.false_ne_true]
  refine xs_nil ?_
  dsimp only
  refine xs_cons (Ex.to (f := .next) (st' := ⟨[some (.ref I.i), some (.str ""), none, none, none], m⟩) ?_ ?_)
  · apply Ex.set hc
    · exact Ev.str
    · (focus repeat first | with_reducible exact Put.headL | with_reducible exact Put.headC | (show Put (_ :: _) (_ :: _) _ _ _; first | with_reducible exact Put.headL | with_reducible exact Put.headC | apply Put.tail))
  dsimp only
  obtain ⟨m₁, e1⟩ : ∃ x, x = m.alloc (.meth (fl 1) (.ref I.i)) := ⟨_, rfl⟩
  obtain ⟨m₂, e2⟩ : ∃ x, x = m₁.alloc (.citer (.ref m.n) (.str "") false) := ⟨_, rfl⟩
  have g1 : Grow m m₁ := e1 ▸ .alloc X.wf _
  have g2 : Grow m₁ m₂ := e2 ▸ .alloc g1.wf _
  have n1 : m₁.H m.n = some (.meth (fl 1) (.ref I.i)) := e1 ▸ alloc_new _ _
  have n2 : m₂.H m₁.n = some (.citer (.ref m.n) (.str "") false) := e2 ▸ alloc_new _ _
  refine xs_cons (Ex.to (f := .next) (st' := ⟨[some (.ref I.i), some (.str ""), some (.ref m₁.n), none, none], m₂⟩) ?_ ?_)
  · apply Ex.set (v := .ref m₁.n) hc
    · apply Ev.call (m₂ := m₁) hc
      · (apply Ev.glob (by assumption); (focus repeat first | with_reducible exact Glob.head | (show Glob (_ :: _) _; first | with_reducible exact Glob.head | apply Glob.tail)); assumption)
      · apply Evs.cons (a := .ref m.n) (m₁ := m₁)
        · apply Ev.attr hc
          · (apply Ev.nm (by assumption); (repeat first | with_reducible exact Slot.head | (show Slot (_ :: _) (_ :: _) _ _ _; first | with_reducible exact Slot.head | apply Slot.tail)); rfl)
          · exact get_bound K.cls X.i X.d hf (beq_iff_eq.mp ht) K.rc.1 K.rc.2.1 (by decide) rfl ⟨rfl, e1.symm⟩
        · apply Evs.cons
          · exact Ev.str
          · exact Evs.nil
          · rfl
      · exact keeps_builtin
      · exact call_iter n1 ⟨rfl, e2.symm⟩
    · (focus repeat first | with_reducible exact Put.headL | with_reducible exact Put.headC | (show Put (_ :: _) (_ :: _) _ _ _; first | with_reducible exact Put.headL | with_reducible exact Put.headC | apply Put.tail))
  dsimp only
  have T : TkAt C I (fl 1) m₁.n m.n m L chars m₂ := ⟨X.grow (g1.trans g2), (g1.trans g2).lg, n2, g2.keep _ _ n1, fun o e => Nat.lt_irrefl _ (g1.wf _ _ (g1.keep _ _ e))⟩
  obtain ⟨k, HO⟩ := o_loop (I := I) (it := m₁.n) (mi := m.n) (m₀ := m) K Fa hA hc D
  have hN := F.lt
  have hfn := K.rc.2.2
  refine xs_cons (FT.mono (x_for hc (ie_val hc (Ev.to (v := .ref m₁.n) (m := m₂) (by (apply Ev.nm (by assumption); (repeat first | with_reducible exact Slot.head | (show Slot (_ :: _) (_ :: _) _ _ _; first | with_reducible exact Slot.head | apply Slot.tail)); rfl)) (iv_cit hc.hand hN hfn (Hr_ok K Fa hA) T.hit ⟨(fun z => nomatch z), k, HO T hl⟩)))) ?_)
  rintro f ⟨vars, m'⟩ ⟨hx, rfl | ⟨rfl, hr, ⟨w', hv⟩, a, b, hend⟩⟩
  · exact ⟨rfl, hx⟩
  · dsimp only at hv hx hend
    subst hv
    dsimp only
    refine xs_ret (v := .str tok) (m := m') (by (apply Ev.nm (by assumption); (repeat first | with_reducible exact Slot.head | (show Slot (_ :: _) (_ :: _) _ _ _; first | with_reducible exact Slot.head | apply Slot.tail)); rfl)) ⟨rfl, hx⟩
theorem b_get_pb {L : Int} {m : MH} {t : MV} {ts : List MV} {rest : List Nat} (K : LxK G C fl) (X : Lx C I L (t :: ts) rest m) (hl : ts.length < 890) (hc : (cT G A env own).Ok) :
    ExecsTo (cT G A env own) (bodyOf (methAt 4 2)) ⟨[some (.ref I.i), none, none, none, none], m⟩ fun fl st' => outOf (fun y m' => y = t ∧ m' = m.set I.pl (.list ts)) fl st'.m := by
  have hsz := sizeLine_big
  refine xs_cons (x_if (Te.to (b := true) (t_pb K X (by rw [List.length_cons]; omega) hc) ?_))
  rw [if_pos rfl]
  refine xs_ret (v := t) (m := m.set I.pl (.list ts)) ?_ ⟨rfl, rfl⟩
  apply Ev.meth hc
  · apply Ev.attr hc
    · (apply Ev.nm (by assumption); (repeat first | with_reducible exact Slot.head | (show Slot (_ :: _) (_ :: _) _ _ _; first | with_reducible exact Slot.head | apply Slot.tail)); rfl)
    · exact get_inst K.cls X.i X.d (K.fields "pushback" (by decide)) rfl ⟨rfl, rfl⟩
  · exact meth_pop X.pl ⟨rfl, rfl⟩
  · apply Evs.cons
    · exact Ev.int
    · exact Evs.nil
    · rfl
  · exact keeps_builtin
  · exact call_pop0 X.pl (by omega) ⟨rfl, rfl⟩
theorem b_push {L : Int} {m : MH} {t : MV} {pb : List MV} {rest : List Nat} (K : LxK G C fl) (X : Lx C I L pb rest m) (hl : pb.length < 890) (hc : (cxM G A env own (methAt 4 3)).Ok) :
    ExecsTo (cxM G A env own (methAt 4 3)) (bodyOf (methAt 4 3)) ⟨[some (.ref I.i), some t], m⟩ fun fl st' => outOf (fun y m' => y = .none ∧ m' = m.set I.pl (.list (pb ++ [t]))) fl st'.m := by
  have hsz := sizeLine_big
  refine xs_cons (Ex.to (f := .next) (st' := ⟨[some (.ref I.i), some t], m.set I.pl (.list (pb ++ [t]))⟩) ?_ (xs_nil ⟨rfl, rfl⟩))
  apply Ex.expr hc
  apply Ev.meth hc
  · apply Ev.attr hc
    · (apply Ev.nm (by assumption); (repeat first | with_reducible exact Slot.head | (show Slot (_ :: _) (_ :: _) _ _ _; first | with_reducible exact Slot.head | apply Slot.tail)); rfl)
    · exact get_inst K.cls X.i X.d (K.fields "pushback" (by decide)) rfl ⟨rfl, rfl⟩
  · exact meth_append X.pl ⟨rfl, rfl⟩
  · apply Evs.cons
    · (apply Ev.nm (by assumption); (repeat first | with_reducible exact Slot.head | (show Slot (_ :: _) (_ :: _) _ _ _; first | with_reducible exact Slot.head | apply Slot.tail)); rfl)
    · exact Evs.nil
    · rfl
  · exact keeps_builtin
  · exact call_append X.pl (by omega) ⟨rfl, rfl⟩
end
theorem sc_get : ScopeOk (scopeOf (methAt 4 2)) := by exact ⟨rfl, rfl, rfl, by decide +kernel, by decide +kernel, by decide +kernel, by decide +kernel, by decide +kernel⟩
theorem sc_push : ScopeOk (scopeOf (methAt 4 3)) := by exact ⟨rfl, rfl, rfl, by decide +kernel, by decide +kernel, by decide +kernel, by decide +kernel, by decide +kernel⟩
section
variable {G : GC} {A : Around} {C : Addr} {I : LexIds} {fl fa : Nat → Addr} {n : Nat} {L : Int} {m : MH}
theorem c_get (K : LxK G C fl) (Fa : Facts G fa) (hA : Good (n + 1 + 1 + 1 + 1) A) {chars : List Nat} {tok : Str} {rest : List Nat} {d : Nat} (D : LexO chars tok rest d) (X : Lx C I L [] chars m) (hl : chars.length ≤ 880) :
    CT G A (.st (.ref (fl 2))) [.ref I.i] m fun y m' => y = .str tok ∧ Lx C I (L + d) [] rest m' ∧ LGrow I m m' :=
  c_of (n := n + 1 + 1 + 1) (bs := [(Str.ofString "self", .ref I.i)]) (vars := [some (.ref I.i), none, none, none, none]) hA (K.meth (2, "get_token") (by decide)).1 sc_get (by exact bind1 (fun _ _ _ _ _ _ _ _ _ _ _ _ _ => by kernel_rfl)) (by (focus repeat first | exact Binds.nil | (apply Binds.cons; (focus repeat first | with_reducible exact Put.headL | with_reducible exact Put.headC | (show Put (_ :: _) (_ :: _) _ _ _; first | with_reducible exact Put.headL | with_reducible exact Put.headC | apply Put.tail))))) fun _ _ _ hA' hc => b_get K Fa hA' hc D X hl
theorem c_get_pb {t : MV} {ts : List MV} {rest : List Nat} (K : LxK G C fl) (hA : Good (n + 1) A) (X : Lx C I L (t :: ts) rest m) (hl : ts.length < 890) : CT G A (.st (.ref (fl 2))) [.ref I.i] m fun y m' => y = t ∧ m' = m.set I.pl (.list ts) :=
  c_of (n := n) (bs := [(Str.ofString "self", .ref I.i)]) (vars := [some (.ref I.i), none, none, none, none]) hA (K.meth (2, "get_token") (by decide)).1 sc_get (by exact bind1 (fun _ _ _ _ _ _ _ _ _ _ _ _ _ => by kernel_rfl)) (by (focus repeat first | exact Binds.nil | (apply Binds.cons; (focus repeat first | with_reducible exact Put.headL | with_reducible exact Put.headC | (show Put (_ :: _) (_ :: _) _ _ _; first | with_reducible exact Put.headL | with_reducible exact Put.headC | apply Put.tail))))) fun _ _ _ _ hc => b_get_pb K X hl hc
theorem c_push {t : MV} {pb : List MV} {rest : List Nat} (K : LxK G C fl) (hA : Good (n + 1) A) (X : Lx C I L pb rest m) (hl : pb.length < 890) : CT G A (.st (.ref (fl 3))) [.ref I.i, t] m fun y m' => y = .none ∧ m' = m.set I.pl (.list (pb ++ [t])) :=
  c_of (n := n) (bs := [(Str.ofString "self", .ref I.i), (Str.ofString "token", t)]) (vars := [some (.ref I.i), some t]) hA (K.meth (3, "push_token") (by decide)).1 sc_push (by exact bind2 (fun _ _ _ _ _ _ _ _ _ _ _ _ _ _ => by kernel_rfl)) (by (focus repeat first | exact Binds.nil | (apply Binds.cons; (focus repeat first | with_reducible exact Put.headL | with_reducible exact Put.headC | (show Put (_ :: _) (_ :: _) _ _ _; first | with_reducible exact Put.headL | with_reducible exact Put.headC | apply Put.tail))))) fun _ _ _ _ hc => b_push K X hl hc
end
theorem sc8 : ScopeOk (scopeOf (stmtAt 8)) := by exact ⟨rfl, rfl, rfl, by decide +kernel, by decide +kernel, by decide +kernel, by decide +kernel, by decide +kernel⟩
theorem sc_lexinit : ScopeOk (scopeOf (methAt 4 0)) := by exact ⟨rfl, rfl, rfl, by decide +kernel, by decide +kernel, by decide +kernel, by decide +kernel, by decide +kernel⟩
theorem putL_1 (v : MV) : putF "lineno" v [] = [(("lineno" : Str), v)] := rfl
theorem putL_2 (v a : MV) : putF "instream" v [(("lineno" : Str), a)] = [(("lineno" : Str), a), ("instream", v)] := rfl
theorem putL_3 (v a b : MV) : putF "whitespace" v [(("lineno" : Str), a), ("instream", b)] = [(("lineno" : Str), a), ("instream", b), ("whitespace", v)] := rfl
theorem putL_4 (v a b c : MV) : putF "pushback" v [(("lineno" : Str), a), ("instream", b), ("whitespace", c)] = [(("lineno" : Str), a), ("instream", b), ("whitespace", c), ("pushback", v)] := rfl
section
variable {G : GC} {A : Around} {env : Env} {own : List Addr} {C : Addr} {fl fa : Nat → Addr} {n : Nat} {m : MH}
theorem b_concat {x y : Str} (Fa : Facts G fa) (hl : x.length + y.length ≤ 1000) (hc : (cxM G A env own (stmtAt 8)).Ok) :
    ExecsTo (cxM G A env own (stmtAt 8)) (bodyOf (stmtAt 8)) ⟨[some (.str x), some (.str y), none, none, none, none], m⟩ fun fl st' => outOf (fun v m' => v = .str (x ++ y) ∧ m' = m) fl st'.m := by
  have hh : GlobIs G "hasattr" (.builtin "hasattr") := Fa.bi "hasattr" (by decide)
  refine xs_cons (x_if (Te.to (b := !true) (m := m) ?_ ?_))
  · apply Te.not
    apply Te.val hc
    · apply Ev.call hc
      · (apply Ev.glob (by assumption); (focus repeat first | with_reducible exact Glob.head | (show Glob (_ :: _) _; first | with_reducible exact Glob.head | apply Glob.tail)); assumption)
      · apply Evs.cons
        · (apply Ev.nm (by assumption); (repeat first | with_reducible exact Slot.head | (show Slot (_ :: _) (_ :: _) _ _ _; first | with_reducible exact Slot.head | apply Slot.tail)); rfl)
        · apply Evs.cons
          · exact Ev.str
          · exact Evs.nil
          · rfl
        · rfl
      · exact keeps_builtin
      · exact call_hasattr ⟨rfl, rfl⟩
    · exact tru_bool ⟨rfl, rfl⟩
  · rw [if_neg (by decide)]
    refine xs_nil ?_
    dsimp only
    refine xs_ret (v := .str (x ++ y)) (m := m) ?_ ⟨rfl, rfl⟩
    apply Ev.bin hc
    · (apply Ev.nm (by assumption); (repeat first | with_reducible exact Slot.head | (show Slot (_ :: _) (_ :: _) _ _ _; first | with_reducible exact Slot.head | apply Slot.tail)); rfl)
    · (apply Ev.nm (by assumption); (repeat first | with_reducible exact Slot.head | (show Slot (_ :: _) (_ :: _) _ _ _; first | with_reducible exact Slot.head | apply Slot.tail)); rfl)
    · exact bin_str (Nat.le_trans hl sizeLine_big) ⟨rfl, rfl⟩
theorem c_concat {x y : Str} (Fa : Facts G fa) (hl : x.length + y.length ≤ 1000) (hA : Good (n + 1) A) : CT G A (.st (.ref (fa 8))) [.str x, .str y] m fun v m' => v = .str (x ++ y) ∧ m' = m :=
  c_of (n := n) (bs := [(Str.ofString "a", .str x), (Str.ofString "b", .str y)]) (vars := [some (.str x), some (.str y), none, none, none, none]) hA (Fa.fn 8 (by decide)) sc8 (by exact bind2 (fun _ _ _ _ _ _ _ _ _ _ _ _ _ _ => by kernel_rfl)) (by (focus repeat first | exact Binds.nil | (apply Binds.cons; (focus repeat first | with_reducible exact Put.headL | with_reducible exact Put.headC | (show Put (_ :: _) (_ :: _) _ _ _; first | with_reducible exact Put.headL | with_reducible exact Put.headC | apply Put.tail))))) fun _ _ _ _ hc => b_concat Fa hl hc
noncomputable def NewLx (C : Addr) (fp : MV) (m : MH) (y : MV) (m' : MH) : Prop :=
  Grow m m' ∧ y = .ref (m.n + 1) ∧ m'.H (m.n + 1) = some (.inst C m.n) ∧ m'.H m.n = some (.dict [("lineno", .int 1), ("instream", fp), ("whitespace", .str wsStr), ("pushback", .ref (m.n + 2))]) ∧ m'.H (m.n + 2) = some (.list [])
theorem b_lexinit {fp : MV} {m₀ : MH} (K : LxK G C fl) (hw : WF m₀) (hc : (cxM G A env own (methAt 4 0)).Ok) :
    ExecsTo (cxM G A env own (methAt 4 0)) (bodyOf (methAt 4 0)) ⟨[some (.ref (m₀.n + 1)), some fp], (m₀.alloc (.dict [])).alloc (.inst C m₀.n)⟩
      fun fl st' => outOf (fun y m' => y = .none ∧ NewLx C fp m₀ (.ref (m₀.n + 1)) m') fl st'.m := by
  have hww : WF ((m₀.alloc (.dict [])).alloc (.inst C m₀.n)) := alloc_wf (alloc_wf hw _) _
  have g0 : Grow m₀ ((m₀.alloc (.dict [])).alloc (.inst C m₀.n)) := (Grow.alloc hw _).snoc _
  have hd0 : ((m₀.alloc (.dict [])).alloc (.inst C m₀.n)).H m₀.n = some (.dict []) := alloc_old (alloc_wf hw _) (alloc_new _ _)
  have hi0 : ((m₀.alloc (.dict [])).alloc (.inst C m₀.n)).H (m₀.n + 1) = some (.inst C m₀.n) := alloc_new _ _
  have hn : ((m₀.alloc (.dict [])).alloc (.inst C m₀.n)).n = m₀.n + 2 := rfl
  have hid : m₀.n + 1 ≠ m₀.n := Nat.succ_ne_self _
  generalize (m₀.alloc (.dict [])).alloc (.inst C m₀.n) = m at hww g0 hd0 hi0 hn ⊢
  have set_ : ∀ {m : MH} {fs : List (Str × MV)}, Grow m₀ m → m.n = m₀.n + 2 → m.H (m₀.n + 1) = some (.inst C m₀.n) → Grow m₀ (m.set m₀.n (.dict fs)) ∧ (m.set m₀.n (.dict fs)).n = m₀.n + 2 ∧ (m.set m₀.n (.dict fs)).H (m₀.n + 1) = some (.inst C m₀.n) ∧ (m.set m₀.n (.dict fs)).H m₀.n = some (.dict fs) := fun g h1 h2 =>
    ⟨g.set hw.no (by omega), h1, by rw [set_off hid]; exact h2, set_at _ _ _⟩
  refine xs_cons (Ex.to (f := .next) (st' := ⟨[some (.ref (m₀.n + 1)), some fp], m.set m₀.n (.dict [("lineno", .int 1)])⟩) ?_ ?_)
  · apply Ex.setattr hc
    · exact Ev.int
    · (apply Ev.nm (by assumption); (repeat first | with_reducible exact Slot.head | (show Slot (_ :: _) (_ :: _) _ _ _; first | with_reducible exact Slot.head | apply Slot.tail)); rfl)
    · exact set_inst K.cls hi0 hd0 (K.fields "lineno" (by decide)) (by simp) ⟨rfl, by rw [putL_1]⟩
  obtain ⟨g1, n1, i1, d1⟩ := set_ (fs := [("lineno", .int 1)]) g0 hn hi0
  dsimp only
  generalize m.set m₀.n (.dict [("lineno", .int 1)]) = m₁ at g1 n1 i1 d1 ⊢
  refine xs_cons (Ex.to (f := .next) (st' := ⟨[some (.ref (m₀.n + 1)), some fp], m₁.set m₀.n (.dict [("lineno", .int 1), ("instream", fp)])⟩) ?_ ?_)
  · apply Ex.setattr hc
    · (apply Ev.nm (by assumption); (repeat first | with_reducible exact Slot.head | (show Slot (_ :: _) (_ :: _) _ _ _; first | with_reducible exact Slot.head | apply Slot.tail)); rfl)
    · (apply Ev.nm (by assumption); (repeat first | with_reducible exact Slot.head | (show Slot (_ :: _) (_ :: _) _ _ _; first | with_reducible exact Slot.head | apply Slot.tail)); rfl)
    · exact set_inst K.cls i1 d1 (K.fields "instream" (by decide)) (by simp) ⟨rfl, by rw [putL_2]⟩
  obtain ⟨g2, n2, i2, d2⟩ := set_ (fs := [("lineno", .int 1), ("instream", fp)]) g1 n1 i1
  dsimp only
  generalize m₁.set m₀.n (.dict [("lineno", .int 1), ("instream", fp)]) = m₂ at g2 n2 i2 d2 ⊢
  refine xs_cons (Ex.to (f := .next) (st' := ⟨[some (.ref (m₀.n + 1)), some fp], m₂.set m₀.n (.dict [("lineno", .int 1), ("instream", fp), ("whitespace", .str wsStr)])⟩) ?_ ?_)
  · apply Ex.setattr (v := .str wsStr) hc
    · exact Ev.str
    · (apply Ev.nm (by assumption); (repeat first | with_reducible exact Slot.head | (show Slot (_ :: _) (_ :: _) _ _ _; first | with_reducible exact Slot.head | apply Slot.tail)); rfl)
    · exact set_inst K.cls i2 d2 (K.fields "whitespace" (by decide)) (by simp) ⟨rfl, by rw [putL_3]⟩
  obtain ⟨g3, n3, i3, d3⟩ := set_ (fs := [("lineno", .int 1), ("instream", fp), ("whitespace", .str wsStr)]) g2 n2 i2
  dsimp only
  generalize m₂.set m₀.n (.dict [("lineno", .int 1), ("instream", fp), ("whitespace", .str wsStr)]) = m₃ at g3 n3 i3 d3 ⊢
  have g4 : Grow m₃ (m₃.alloc (.list [])) := .alloc g3.wf _
  have nw : (m₃.alloc (.list [])).H m₃.n = some (.list []) := alloc_new _ _
  have n4 : (m₃.alloc (.list [])).n = m₀.n + 3 := by show m₃.n + 1 = _; rw [n3]
  refine xs_cons (Ex.to (f := .next) (st' := ⟨[some (.ref (m₀.n + 1)), some fp], (m₃.alloc (.list [])).set m₀.n (.dict [("lineno", .int 1), ("instream", fp), ("whitespace", .str wsStr), ("pushback", .ref m₃.n)])⟩) ?_ ?_)
  · apply Ex.setattr hc
    · apply Ev.list hc
      · exact Evs.nil
      · exact Nat.zero_le _
    · (apply Ev.nm (by assumption); (repeat first | with_reducible exact Slot.head | (show Slot (_ :: _) (_ :: _) _ _ _; first | with_reducible exact Slot.head | apply Slot.tail)); rfl)
    · exact set_inst K.cls (g4.keep _ _ i3) (g4.keep _ _ d3) (K.fields "pushback" (by decide)) (by simp) ⟨rfl, by rw [putL_4]⟩
  rw [n3] at nw
  rw [n3]
  refine xs_nil ⟨rfl, (g3.trans g4).set hw.no (by rw [n4]; omega), rfl, ?_, set_at _ _ _, ?_⟩
  · dsimp only; rw [set_off hid]; exact g4.keep _ _ i3
  · dsimp only; rw [set_off (by omega)]; exact nw
theorem c_lexinit {fp : MV} (K : LxK G C fl) (hw : WF m) (hA : Good (n + 1 + 1) A) : CT G A (.st (.ref C)) [fp] m fun y m' => NewLx C fp m y m' := by
  obtain ⟨F, hf, ht⟩ := K.meth (0, "__init__") (by decide)
  refine call_class K.makes hf (beq_iff_eq.mp ht) F.lt fun A' hg => ?_
  exact c_of (n := n) (bs := [(Str.ofString "self", .ref (m.n + 1)), (Str.ofString "fp", fp)]) (vars := [some (.ref (m.n + 1)), some fp]) (hg _ hA) F sc_lexinit (by exact bind2 (fun _ _ _ _ _ _ _ _ _ _ _ _ _ _ => by kernel_rfl)) (by (focus repeat first | exact Binds.nil | (apply Binds.cons; (focus repeat first | with_reducible exact Put.headL | with_reducible exact Put.headC | (show Put (_ :: _) (_ :: _) _ _ _; first | with_reducible exact Put.headL | with_reducible exact Put.headC | apply Put.tail))))) fun _ _ _ _ hc => b_lexinit K hw hc
end
noncomputable def strOf (l : List Nat) : Str := ⟨l.toArray⟩
theorem strOf_app (a b : List Nat) : strOf a ++ strOf b = strOf (a ++ b) := by
  show (⟨a.toArray ++ b.toArray⟩ : Str) = ⟨(a ++ b).toArray⟩
  rw [List.append_toArray]
theorem strOf_len (a : List Nat) : (strOf a).length = a.length := by show a.toArray.size = _; rw [List.size_toArray]
theorem chr_of (c : Nat) : chr c = strOf [c] := rfl
theorem str_join (texts : List (List Nat)) : Txt.join "" (texts.map strOf) = strOf texts.flatten := by
  have h : ∀ texts : List (List Nat), Str.join "" (texts.map strOf) = strOf texts.flatten := by
    intro texts
    induction texts with
    | nil => rfl
    | cons a r ih =>
      cases r with
      | nil => show strOf a = strOf (a ++ []); rw [List.append_nil]
      | cons b r =>
        show strOf a ++ "" ++ Str.join "" ((b :: r).map strOf) = _
        rw [ih, show (Str.ofString "") = strOf [] from rfl, strOf_app, strOf_app, List.append_nil]; rfl
  unfold Txt.join
  rw [StrLaws.glued_eq_join]; exact h texts
theorem joinOk_of {sep : Str} {texts : List Str} (h : (texts.map (·.length)).sum + texts.length * sep.length ≤ 1000) : JoinOk sep texts = true := by
  have hs := sizeLine_big
  unfold JoinOk
  rw [StrLaws.joinTotal]
  unfold Builtin.Str.tooLong
  rw [decide_eq_false (by omega)]; rfl
section
variable {c : Cx} {st : St} {m : MH} {target iter elt : Expr} {body : List Stmt} {pos : Pos}
theorem comp_str {x : Str} (P : Nat → List MV → St → Prop) {Q : List MV → MH → Prop} (hP : P 0 [] st)
    (step : ∀ k ys st ch, x.cps[k]? = some ch → P k ys st → AsgTo c target (.str (chr ch)) st fun st₁ => EvalTo c elt st₁ fun y st₂ => ys.length ≤ sizeLine ∧ P (k + 1) (ys ++ [y]) st₂)
    (fin : ∀ ys st, P x.cps.size ys st → Q ys st.m) : CompN c target elt (strSrc x) (x.cps.size + 1) (strSrc x).k0 [] st Q := by
  suffices H : ∀ j k ys st, k + j = x.cps.size → P k ys st → CompN c target elt (strSrc x) (j + 1) k ys st Q from H _ 0 [] st (Nat.zero_add _) hP
  intro j
  induction j with
  | zero => intro k ys st hk hp; exact .inr ⟨st.m, ⟨by omega, rfl⟩, fin ys st (by rw [← show k = x.cps.size by omega]; exact hp)⟩
  | succ j ih =>
    intro k ys st hk hp
    have hlt : k < x.cps.size := by omega
    refine .inl ⟨⟨_, Array.getElem?_eq_getElem hlt⟩, ?_⟩
    rintro v m' k' ⟨ch, hch, rfl, rfl, rfl⟩
    refine fun σ h t u Qs Es I V q => step k ys st ch hch hp σ h t u Qs Es I V fun σ' h' t' st' hq I' E' => q σ' h' t' st' ?_ I' E'
    exact FT.mono hq fun y st₂ hy => ⟨hy.1, ih (k + 1) (ys ++ [y]) st₂ (by omega) hy.2⟩
theorem for_zip {l1 l2 : Nat} {xs ys : List MV} {n : Nat} (P : Nat → St → Prop) (hx : xs.length = n) (hy : ys.length = n) (hl : ∀ k st, P k st → st.m.H l1 = some (.list xs) ∧ st.m.H l2 = some (.list ys)) (h0 : P 0 st)
    (step : ∀ k x y st, xs[k]? = some x → ys[k]? = some y → P k st → Turn c target body (.ref st.m.n) { st with m := st.m.alloc (.tup [x, y]) } (P (k + 1))) :
    ForN c target body [] (zipSrc l1 l2) (n + 1) (zipSrc l1 l2).k0 st fun f st' => f = .next ∧ P n st' := by
  suffices H : ∀ j k st, k + j = n → P k st → ForN c target body [] (zipSrc l1 l2) (j + 1) k st fun f st' => f = .next ∧ P n st' from H _ 0 st (Nat.zero_add _) h0
  intro j
  induction j with
  | zero =>
    intro k st hk hp
    obtain ⟨a, b⟩ := hl k st hp
    exact .inr ⟨st.m, ⟨xs, ys, a, b, .inl (by omega), rfl⟩, xs_nil ⟨rfl, by rw [← show k = n by omega]; exact hp⟩⟩
  | succ j ih =>
    intro k st hk hp
    obtain ⟨a, b⟩ := hl k st hp
    have h1 : k < xs.length := by omega
    have h2 : k < ys.length := by omega
    refine .inl ⟨⟨xs, ys, _, _, a, b, List.getElem?_eq_getElem h1, List.getElem?_eq_getElem h2⟩, ?_⟩
    rintro v m' k' ⟨xs', ys', x, y, e1, e2, e3, e4, rfl, rfl, rfl⟩
    rw [a] at e1; cases e1
    rw [b] at e2; cases e2
    exact turn_on (step k x y st e3 e4 hp) fun st' hp' => ih (k + 1) st' (by omega) hp'
end
noncomputable def FnC (G : GC) (s : Stmt) (f cc : Addr) : Prop :=
  ∃ fd, FnAt G f fd ∧ fd.body = .stmts (bodyOf s) ∧ fd.scope = scopeOf s ∧ fd.params = argsOf s ∧ fd.closure = [] ∧ fd.globals = mainGlobals ∧ fd.builtins = builtinsNs ∧ fd.defaults = .none ∧ fd.kwdefaults = .none ∧ fd.code = .ref cc
theorem c_of_code {G : GC} {A : Around} {m : MH} {s : Stmt} {f cc : Addr} {n : Nat} {Q : MV → MH → Prop} {bs : List (Str × MV)} {vars : List (Option MV)} (hA : Good (n + 1) A) (F : FnC G s f cc) (S : ScopeOk (scopeOf s))
    (hbind : ∀ fd : FuncData, fd.params = argsOf s → fd.defaults = .none → fd.kwdefaults = .none → ∀ vs : List Value, vs.length = bs.length → bindArgs fd ⟨vs, []⟩ = pure ((bs.map (·.1)).zip vs))
    (hB : Binds (scopeOf s).names bs ((scopeOf s).names.map fun _ => none) vars)
    (H : ∀ A' env own, Good n A' → env.code = .ref cc → Cx.Ok ⟨G, A', env, (scopeOf s).names, own, own, []⟩ → ExecsH ⟨G, A', env, (scopeOf s).names, own, own, []⟩ (bodyOf s) ⟨vars, m⟩ (outOf Q)) : CT G A (.st (.ref f)) (bs.map (·.2)) m Q := by
  obtain ⟨fd, F1, h1, h2, h3, h4, h5, h6, h7, h8, h9⟩ := F
  refine call_fn hA F1 (h2 ▸ S) h1 h4 h5 h6 (hbind fd h3 h7 h8) (by rw [h2]; exact hB) fun A' L own hG hok => ?_
  rw [h2] at hok ⊢
  exact H A' _ own hG h9 hok
noncomputable def lineOf (w : List Nat) (hid : Bool) : List Nat := if hid then (w.map fun c => [92, c]).flatten ++ [10] else [34] ++ w ++ [34] ++ [10]
noncomputable def textOf (ws : List (List Nat × Bool)) : List Nat := (ws.map fun p => lineOf p.1 p.2).flatten
theorem line_len (w : List Nat) (hid : Bool) : (lineOf w hid).length ≤ 2 * w.length + 3 := by
  unfold lineOf
  cases hid
  · simp; omega
  · have : ((w.map fun c => [92, c]).flatten).length = 2 * w.length := by
      induction w with
      | nil => rfl
      | cons c w ih => rw [List.map_cons, List.flatten_cons, List.length_append, ih]; simp; omega
    simp only [if_true, List.length_append, this]
    show 2 * w.length + 1 ≤ _
    omega
theorem text_len {ws : List (List Nat × Bool)} (h : ∀ p ∈ ws, p.1.length ≤ 20) : (textOf ws).length ≤ 43 * ws.length := by
  induction ws with
  | nil => exact Nat.le_refl _
  | cons p ws ih =>
    have ih := ih fun q hq => h q (.tail _ hq)
    have h1 := line_len p.1 p.2
    have h2 := h p (.head _)
    show (lineOf p.1 p.2 ++ textOf ws).length ≤ _
    rw [List.length_append, List.length_cons]
    omega
theorem textOf_snoc {ws : List (List Nat × Bool)} {k : Nat} {p : List Nat × Bool} (h : ws[k]? = some p) : textOf (ws.take (k + 1)) = textOf (ws.take k) ++ lineOf p.1 p.2 := by
  unfold textOf
  rw [List.take_add_one, h, List.map_append, List.flatten_append]
  simp
theorem take_last {α : Type} {l : Array α} {k : Nat} {x : α} (h : l[k]? = some x) : l.toList.take (k + 1) = l.toList.take k ++ [x] := by
  rw [List.take_add_one, Array.getElem?_toList, h]; rfl
theorem ascii_of {l : List Nat} (h : ∀ c ∈ l, c < 128) : (strOf l).cps.all (· < 128) = true := by
  unfold strOf
  rw [← Array.all_toList, List.toList_toArray, List.all_eq_true]
  exact fun c hc => decide_eq_true (h c hc)
section
variable {G : GC} {A : Around} {env : Env} {own : List Addr} {m : MH}
theorem l_turn {a b w1 w2 : Option MV} {t w : List Nat} {hid : Bool} (hw : WF m) (ht : t.length ≤ 500) (hwl : w.length ≤ 20) (hwa : ∀ c ∈ w, c < 128) (hc : (cxM G A env own (stmtAt 15)).Ok) :
    Turn (cxM G A env own (stmtAt 15)) (targetOf (nthOf (bodyOf (stmtAt 15)) 1)) (innerOf (nthOf (bodyOf (stmtAt 15)) 1)) (.ref m.n) ⟨[a, b, some (.str (strOf t)), w1, w2, none, none, none, none], m.alloc (.tup [.str (strOf w), .int (if hid then 1 else 0)])⟩
      fun st' => (∃ w1 w2, st'.vars = [a, b, some (.str (strOf (t ++ lineOf w hid))), w1, w2, none, none, none, none]) ∧ Grow m st'.m := by
  have hsz := sizeLine_big
  obtain ⟨hv, ehv⟩ : ∃ x : Int, x = if hid then 1 else 0 := ⟨_, rfl⟩
  rw [← ehv]
  refine asg_tuple hc (alloc_new _ _) rfl (asg_name hc ⟨_, by (focus repeat first | with_reducible exact Put.headL | with_reducible exact Put.headC | (show Put (_ :: _) (_ :: _) _ _ _; first | with_reducible exact Put.headL | with_reducible exact Put.headC | apply Put.tail)), asg_name hc ⟨_, by (focus repeat first | with_reducible exact Put.headL | with_reducible exact Put.headC | (show Put (_ :: _) (_ :: _) _ _ _; first | with_reducible exact Put.headL | with_reducible exact Put.headC | apply Put.tail)), ?_⟩⟩)
  have g1 : Grow m (m.alloc (.tup [.str (strOf w), .int hv])) := .alloc hw _
  dsimp only [AsgsTo]
  generalize m.alloc (.tup [.str (strOf w), .int hv]) = m₁ at g1 ⊢
  refine xs_cons (x_if (Te.to (b := !hid) (m := m₁) ?_ ?_))
  · apply Te.cmp hc
    · (apply Ev.nm (by assumption); (repeat first | with_reducible exact Slot.head | (show Slot (_ :: _) (_ :: _) _ _ _; first | with_reducible exact Slot.head | apply Slot.tail)); rfl)
    · exact Ev.int
    · exact cmp_eq ⟨by rw [ehv]; cases hid <;> rfl, rfl⟩
  cases hid with
  | false =>
    rw [if_pos (by decide)]
    refine xs_cons (Ex.to (f := .next) (st' := ⟨[a, b, some (.str (strOf (t ++ lineOf w false))), some (.str (strOf w)), some (.int hv), none, none, none, none], m₁⟩) ?_ (xs_nil (xs_nil ⟨.inl rfl, ⟨_, _, rfl⟩, g1⟩)))
    apply Ex.aug (v := .str (strOf ([34] ++ w ++ [34] ++ [10]))) (w := .str (strOf (t ++ lineOf w false))) hc
    · (focus repeat first | with_reducible exact Slot.head | (show Slot (_ :: _) (_ :: _) _ _ _; first | with_reducible exact Slot.head | apply Slot.tail))
    · (first | exact .inl rfl | exact .inr (.inl rfl) | exact .inr (.inr rfl) | exact .inr rfl)
    · apply Ev.bin hc
      · apply Ev.bin hc
        · apply Ev.bin hc
          · exact Ev.str
          · (apply Ev.nm (by assumption); (repeat first | with_reducible exact Slot.head | (show Slot (_ :: _) (_ :: _) _ _ _; first | with_reducible exact Slot.head | apply Slot.tail)); rfl)
          · exact bin_str (x := strOf [34]) (by rw [strOf_len, strOf_len]; show 1 + _ ≤ _; omega) ⟨rfl, rfl⟩
        · exact Ev.str
        · rw [strOf_app]
          exact bin_str (y := strOf [34]) (by rw [strOf_len, strOf_len, List.length_append]; show 1 + _ + 1 ≤ _; omega) ⟨rfl, rfl⟩
      · exact Ev.str
      · rw [strOf_app]
        exact bin_str (y := strOf [10]) (by rw [strOf_len, strOf_len, List.length_append, List.length_append]; show 1 + _ + 1 + 1 ≤ _; omega) ⟨by rw [strOf_app], rfl⟩
    · exact in_adds (by rw [strOf_len, strOf_len]; simp; omega) ⟨by rw [strOf_app]; rfl, rfl⟩
    · (focus repeat first | with_reducible exact Put.headL | with_reducible exact Put.headC | (show Put (_ :: _) (_ :: _) _ _ _; first | with_reducible exact Put.headL | with_reducible exact Put.headC | apply Put.tail))
  | true =>
    rw [if_neg (by decide)]
    refine xs_cons (x_aug hc (ld_name hc (by (focus repeat first | with_reducible exact Slot.head | (show Slot (_ :: _) (_ :: _) _ _ _; first | with_reducible exact Slot.head | apply Slot.tail))) (by (first | exact .inl rfl | exact .inr (.inl rfl) | exact .inr (.inr rfl) | exact .inr rfl)) (ev_bin hc (ev_meth hc (Ev.to Ev.str (meth_join ?_))))))
    refine args_cons ?_
    apply ev_comp hc
    case S => exact ⟨rfl, by decide +kernel, by decide +kernel, by decide +kernel⟩
    case hV => (focus repeat first | with_reducible exact CompVars.nil | apply CompVars.loc | apply CompVars.cell | apply CompVars.glob | (apply CompVars.free; (focus repeat first | with_reducible exact Slot.head | (show Slot (_ :: _) (_ :: _) _ _ _; first | with_reducible exact Slot.head | apply Slot.tail)); (first | exact .inl rfl | exact .inr (.inl rfl) | exact .inr (.inr rfl) | exact .inr rfl)))
    refine ie_val hc (Ev.to (v := .str (strOf w)) (m := m₁) (by (apply Ev.nm (by assumption); (repeat first | with_reducible exact Slot.head | (show Slot (_ :: _) (_ :: _) _ _ _; first | with_reducible exact Slot.head | apply Slot.tail)); rfl)) (iv_str hc.hand (ascii_of hwa) ⟨rfl, (fun z => nomatch z), rfl, (strOf w).cps.size + 1, fun env₁ own₁ fp₁ hc₁ => ?_⟩))
    refine comp_str (fun k ys st => (∃ w, st.vars = [none, w]) ∧ st.m = m₁ ∧ ys = ((w.take k).map fun c => strOf [92, c]).map .str) ⟨⟨_, rfl⟩, rfl, rfl⟩ ?_ ?_
    · rintro k ys ⟨vars, m₂⟩ ch hch ⟨⟨w', hv⟩, hm, hys⟩
      dsimp only at hv hm hys
      subst hv hm
      have hk : k < w.length := by
        have := (Array.getElem?_eq_some_iff.mp hch).1
        rwa [show (strOf w).cps.size = w.length from List.size_toArray ..] at this
      have hx : (strOf w).cps.toList = w := List.toList_toArray ..
      have htk := take_last hch
      rw [hx] at htk
      refine asg_name hc₁ ⟨_, by (focus repeat first | with_reducible exact Put.headL | with_reducible exact Put.headC | (show Put (_ :: _) (_ :: _) _ _ _; first | with_reducible exact Put.headL | with_reducible exact Put.headC | apply Put.tail)), Ev.to (v := .str (strOf [92, ch])) (m := m₂) ?_ ⟨?_, ⟨_, rfl⟩, rfl, ?_⟩⟩
      · apply Ev.bin hc₁
        · exact Ev.str
        · (apply Ev.nm (by assumption); (repeat first | with_reducible exact Slot.head | (show Slot (_ :: _) (_ :: _) _ _ _; first | with_reducible exact Slot.head | apply Slot.tail)); rfl)
        · exact bin_str (x := strOf [92]) (y := strOf [ch]) (by rw [strOf_len, strOf_len]; show 1 + 1 ≤ _; omega) ⟨by rw [strOf_app]; rfl, rfl⟩
      · rw [hys, List.length_map, List.length_map, List.length_take]; omega
      · rw [htk, List.map_append, List.map_append, hys]; rfl
    · rintro ys ⟨vars, m₂⟩ ⟨_, hm, hys⟩
      dsimp only at hm hys
      subst hm
      have hxs : (strOf w).cps.size = w.length := List.size_toArray ..
      rw [hxs, List.take_length] at hys
      have htx : (w.map fun c => strOf [92, c]) = (w.map fun c => [92, c]).map strOf := by rw [List.map_map]; rfl
      have hfl : ((w.map fun c => [92, c]).flatten).length = 2 * w.length := by
        clear hys hxs htx hwl hwa
        induction w with
        | nil => rfl
        | cons c w ih => rw [List.map_cons, List.flatten_cons, List.length_append, ih]; simp; omega
      refine args_nil ⟨keeps_builtin, ?_⟩
      refine call_join (texts := w.map fun c => strOf [92, c]) (by rw [← hys]; exact alloc_new _ _) (joinOk_of ?_) ?_
      · rw [List.map_map, show ((fun x : Str => x.length) ∘ fun c => strOf [92, c]) = Function.const _ 2 from rfl, List.map_const, List.sum_replicate_nat, List.length_map, show (Str.ofString "").length = 0 from rfl]
        omega
      rw [htx, str_join]
      refine Ev.to Ev.str (bin_str (y := strOf [10]) ?_ ?_)
      · rw [strOf_len, strOf_len, hfl]; show _ + 1 ≤ _; omega
      rw [strOf_app]
      refine in_adds ?_ ⟨_, by (focus repeat first | with_reducible exact Put.headL | with_reducible exact Put.headC | (show Put (_ :: _) (_ :: _) _ _ _; first | with_reducible exact Put.headL | with_reducible exact Put.headC | apply Put.tail)), ?_⟩
      · rw [strOf_len, strOf_len, List.length_append, hfl]; show _ + (_ + 1) ≤ _; omega
      rw [strOf_app]
      exact xs_nil (xs_nil ⟨.inl rfl, ⟨_, _, rfl⟩, g1.snoc _⟩)
end
noncomputable def lamPos : Expr → Pos
  | .Lambda _ _ _ p => p
  | _ => default
noncomputable def LamK (G : GC) (f : Addr) : Prop := ∃ cc, LamEnv G cc ∧ codeAmong (lamPos lamE) G.ps.toList = none ∧ FnC G (stmtAt 15) f cc
theorem VRels.rev {N : Nat} {σ : List Addr} : ∀ {xs : List MV} {vs : List Value}, VRels N σ xs vs → VRels N σ xs.reverse vs.reverse
  | [], [], _ => trivial
  | x :: xs, v :: vs, h => by
    rw [List.reverse_cons, List.reverse_cons]
    exact (VRels.rev h.2).append ⟨h.1, trivial⟩
  | [], _ :: _, h => h.elim
  | _ :: _, [], h => h.elim
theorem slice_rev {G : GC} {A : Around} {m : MH} {i : Nat} {xs : List MV} {Q : MV → MH → Prop} (hx : m.H i = some (.list xs)) (hl : xs.length ≤ 1000) (hq : Q (.ref m.n) (m.alloc (.list xs.reverse))) : SliceT G A (.ref i) none none (some (-1)) m Q :=
  slice_list hx (Nat.le_trans hl sizeLine_big) (by simp) (fun N σ us R => by rw [krv_pick]; exact VRels.rev R) hq
theorem putF_read (v a b c d : MV) : putF "read" v [(("lineno" : Str), a), ("instream", b), ("whitespace", c), ("pushback", d)] = [(("lineno" : Str), a), ("instream", b), ("whitespace", c), ("pushback", d), ("read", v)] := rfl
noncomputable def LexOut (C : Addr) (chars : List Nat) (m : MH) (y : MV) (m' : MH) : Prop :=
  ∃ I, y = .ref I.i ∧ Lx C I 1 [] chars m' ∧ Grow m { m' with tb := m.tb } ∧ (∀ o, m.H I.d ≠ some o ∧ m.H I.pl ≠ some o ∧ m.H I.sl ≠ some o)
section
variable {G : GC} {A : Around} {env : Env} {own : List Addr} {C : Addr} {fl fa : Nat → Addr} {n : Nat} {m : MH}
theorem b_lexer {wl hl cc : Nat} {ws : List (List Nat × Bool)} (K : LxK G C fl) (Fa : Facts G fa) (hA : Good (n + 1 + 1) A) (LE : LamEnv G cc) (hcm : codeAmong (lamPos lamE) G.ps.toList = none) (hcode : env.code = .ref cc) (hw : WF m) (htb : m.tb = false)
    (hwl : m.H wl = some (.list (ws.map fun p => .str (strOf p.1)))) (hhl : m.H hl = some (.list (ws.map fun p => .int (if p.2 then 1 else 0)))) (hok : ∀ p ∈ ws, p.1.length ≤ 20 ∧ ∀ c ∈ p.1, c < 128) (hn : ws.length ≤ 10) (hta : ∀ c ∈ textOf ws, c < 128) (hc : (cxM G A env own (stmtAt 15)).Ok) :
    ExecsH (cxM G A env own (stmtAt 15)) (bodyOf (stmtAt 15)) ⟨[some (.ref wl), some (.ref hl), none, none, none, none, none, none, none], m⟩ (outOf (LexOut C (textOf ws ++ [101, 110, 100]) m)) := by
  have hsz := sizeLine_big
  have hzip : GlobIs G "zip" (.type "zip") := Fa.ty "zip" (by decide)
  have hlx : GlobIs G "_netrclex" (.ref C) := K.glob
  have htl : ∀ k, (textOf (ws.take k)).length ≤ 430 := fun k => by
    have h1 := text_len (ws := ws.take k) fun p hp => (hok p (List.mem_of_mem_take hp)).1
    have h2 : (ws.take k).length ≤ 10 := by rw [List.length_take]; omega
    omega
  refine xs_consH (Ex.to (f := .next) (st' := ⟨[some (.ref wl), some (.ref hl), some (.str (strOf [])), none, none, none, none, none, none], m⟩) ?_ ?_)
  · apply Ex.set (v := .str (strOf [])) hc
    · exact Ev.str
    · (focus repeat first | with_reducible exact Put.headL | with_reducible exact Put.headC | (show Put (_ :: _) (_ :: _) _ _ _; first | with_reducible exact Put.headL | with_reducible exact Put.headC | apply Put.tail))
  dsimp only
  refine xs_consH (FT.mono (x_for hc (ie_zip hc (ev_glob hc (by (focus repeat first | with_reducible exact Glob.head | (show Glob (_ :: _) _; first | with_reducible exact Glob.head | apply Glob.tail))) hzip ⟨rfl, ev_name hc (by (focus repeat first | with_reducible exact Slot.head | (show Slot (_ :: _) (_ :: _) _ _ _; first | with_reducible exact Slot.head | apply Slot.tail))) (by (first | exact .inl rfl | exact .inr (.inl rfl) | exact .inr (.inr rfl) | exact .inr rfl)) (ev_name hc (by (focus repeat first | with_reducible exact Slot.head | (show Slot (_ :: _) (_ :: _) _ _ _; first | with_reducible exact Slot.head | apply Slot.tail))) (by (first | exact .inl rfl | exact .inr (.inl rfl) | exact .inr (.inr rfl) | exact .inr rfl)) ⟨wl, hl, _, _, rfl, rfl, hwl, hhl, (fun _ => rfl), ws.length + 1,
    for_zip (n := ws.length) (fun k st => (∃ w1 w2, st.vars = [some (.ref wl), some (.ref hl), some (.str (strOf (textOf (ws.take k)))), w1, w2, none, none, none, none]) ∧ Grow m st.m) (by rw [List.length_map]) (by rw [List.length_map]) (fun k st h => ⟨h.2.keep _ _ hwl, h.2.keep _ _ hhl⟩) ⟨⟨_, _, rfl⟩, .refl hw⟩ ?step⟩)⟩))) ?fin)
  case step =>
    rintro k x y ⟨vars, m₁⟩ hx hy ⟨⟨w1, w2, hv⟩, hg⟩
    dsimp only at hv hg
    subst hv
    have hk : k < ws.length := by have := (List.getElem?_eq_some_iff.mp hx).1; rwa [List.length_map] at this
    have hp := List.getElem?_eq_getElem hk
    rw [List.getElem?_map, hp] at hx hy
    cases hx; cases hy
    have hm := hok _ (List.getElem_mem hk)
    rw [textOf_snoc hp]
    refine AsgTo.mono (l_turn (t := textOf (ws.take k)) (w := ws[k].1) (hid := ws[k].2) hg.wf (by have := htl k; omega) hm.1 hm.2 hc) fun st₁ h => FT.mono h fun f st₂ z => ⟨z.1, z.2.1, hg.trans z.2.2⟩
  case fin =>
    rintro f ⟨vars, m₁⟩ ⟨rfl, ⟨w1, w2, hv⟩, hg⟩
    dsimp only at hv hg
    subst hv
    rw [List.take_length]
    have ht := htl ws.length
    rw [List.take_length] at ht
    generalize htx : textOf ws = t at ht hta ⊢
    dsimp only
    refine xs_consH (x_assign hc (ev_slice hc ?_ (fun _ _ => rfl)))
    apply ev_comp hc
    case S => exact ⟨rfl, by decide +kernel, by decide +kernel, by decide +kernel⟩
    case hV => (focus repeat first | with_reducible exact CompVars.nil | apply CompVars.loc | apply CompVars.cell | apply CompVars.glob | (apply CompVars.free; (focus repeat first | with_reducible exact Slot.head | (show Slot (_ :: _) (_ :: _) _ _ _; first | with_reducible exact Slot.head | apply Slot.tail)); (first | exact .inl rfl | exact .inr (.inl rfl) | exact .inr (.inr rfl) | exact .inr rfl)))
    have hca : ∀ c ∈ t ++ [101, 110, 100], c < 128 := fun c h => (List.mem_append.mp h).elim (hta c) (by simp; omega)
    refine ie_val hc (Ev.to ?_ (iv_str (x := strOf (t ++ [101, 110, 100])) hc.hand (ascii_of hca) ⟨rfl, (fun z => nomatch z), rfl, (strOf (t ++ [101, 110, 100])).cps.size + 1, fun env₁ own₁ fp₁ hc₁ => ?_⟩))
    · apply Ev.bin hc
      · (apply Ev.nm (by assumption); (repeat first | with_reducible exact Slot.head | (show Slot (_ :: _) (_ :: _) _ _ _; first | with_reducible exact Slot.head | apply Slot.tail)); rfl)
      · exact Ev.str
      · exact bin_str (y := strOf [101, 110, 100]) (by rw [strOf_len, strOf_len]; show _ + 3 ≤ _; omega) ⟨by rw [strOf_app], rfl⟩
    generalize hch : t ++ [101, 110, 100] = ch at hca ⊢
    have hchl : ch.length ≤ 433 := by rw [← hch, List.length_append]; show _ + 3 ≤ _; omega
    refine comp_str (fun k ys st => (∃ w, st.vars = [none, w]) ∧ st.m = m₁ ∧ ys = (ch.take k).map fun c => .str (chr c)) ⟨⟨_, rfl⟩, rfl, rfl⟩ ?_ ?_
    · rintro k ys ⟨vars, m₂⟩ x hx ⟨⟨w', hv⟩, hm, hys⟩
      dsimp only at hv hm hys
      subst hv hm
      have htk := take_last hx
      rw [show (strOf ch).cps.toList = ch from List.toList_toArray ..] at htk
      refine asg_name hc₁ ⟨_, by (focus repeat first | with_reducible exact Put.headL | with_reducible exact Put.headC | (show Put (_ :: _) (_ :: _) _ _ _; first | with_reducible exact Put.headL | with_reducible exact Put.headC | apply Put.tail)), Ev.to (v := .str (chr x)) (m := m₂) (by (apply Ev.nm (by assumption); (repeat first | with_reducible exact Slot.head | (show Slot (_ :: _) (_ :: _) _ _ _; first | with_reducible exact Slot.head | apply Slot.tail)); rfl)) ⟨?_, ⟨_, rfl⟩, rfl, ?_⟩⟩
      · rw [hys, List.length_map, List.length_take]; omega
      · rw [htk, List.map_append, hys]; rfl
    · rintro ys ⟨vars, m₂⟩ ⟨_, hm, hys⟩
      dsimp only at hm hys
      subst hm
      rw [show (strOf ch).cps.size = ch.length from List.size_toArray .., List.take_length] at hys
      subst hys
      have g2 : Grow m₂ (m₂.alloc (.list (ch.map fun c => .str (chr c)))) := .alloc hg.wf _
      have n2 : (m₂.alloc (.list (ch.map fun c => MV.str (chr c)))).H m₂.n = some (.list (ch.map fun c => .str (chr c))) := alloc_new _ _
      generalize hm₃ : m₂.alloc (.list (ch.map fun c => MV.str (chr c))) = m₃ at g2 n2 ⊢
      refine part_none (part_none (part_some (Ev.to (v := .int (-1)) (m := m₃) ?_ ⟨-1, rfl, slice_rev n2 (by rw [List.length_map]; omega) ⟨_, by (focus repeat first | with_reducible exact Put.headL | with_reducible exact Put.headC | (show Put (_ :: _) (_ :: _) _ _ _; first | with_reducible exact Put.headL | with_reducible exact Put.headC | apply Put.tail)), ?_⟩⟩)))
      · apply Ev.un hc
        · exact Ev.int
        · exact un_neg ⟨rfl, rfl⟩
      have hsg : (ch.map fun c => MV.str (chr c)).reverse = signsOf ch := by rw [signsOf, List.map_reverse]
      rw [hsg]
      dsimp only
      have g3 : Grow m₃ (m₃.alloc (.list (signsOf ch))) := .alloc g2.wf _
      have n3 : (m₃.alloc (.list (signsOf ch))).H m₃.n = some (.list (signsOf ch)) := alloc_new _ _
      have hl3 : m₃.n < (m₃.alloc (.list (signsOf ch))).n := Nat.lt_succ_self _
      have gm := hg.trans (g2.trans g3)
      have hno : ∀ o, m.H m₃.n ≠ some o := fun o e => Nat.lt_irrefl _ (g2.wf _ _ ((hg.trans g2).keep _ _ e))
      generalize m₃.alloc (.list (signsOf ch)) = m₄ at g3 n3 gm hl3 ⊢
      generalize m₃.n = sl at n3 hl3 hno ⊢
      refine xs_consH (x_assign hc (ev_call hc (Ev.to (v := .st (.ref C)) (m := m₄) (by (apply Ev.glob (by assumption); (focus repeat first | with_reducible exact Glob.head | (show Glob (_ :: _) _; first | with_reducible exact Glob.head | apply Glob.tail)); assumption)) (args_cons (Ev.to (v := .none) (m := m₄) Ev.none (args_nil ⟨keeps_stat K.keep, ?_⟩))))))
      refine HT.mono (c_lexinit K gm.wf hA).ht ?_
      rintro y m₅ ⟨g5, rfl, hwi, hwd, hwp⟩
      refine ⟨_, by (focus repeat first | with_reducible exact Put.headL | with_reducible exact Put.headC | (show Put (_ :: _) (_ :: _) _ _ _; first | with_reducible exact Put.headL | with_reducible exact Put.headC | apply Put.tail)), ?_⟩
      dsimp only
      have htb5 : m₅.tb = false := g5.tb.trans (gm.tb.trans htb)
      refine xs_lam (mv := .ref sl) (names' := [(Str.ofString "wire", .local), (Str.ofString "_netrclex", .globalImplicit)]) (vars' := [some (.ref (m₄.n + 1)), none]) hc LE hcode (by (focus repeat first | with_reducible exact Slot.head | (show Slot (_ :: _) (_ :: _) _ _ _; first | with_reducible exact Slot.head | apply Slot.tail))) hcm rfl rfl rfl (by decide +kernel) htb5 ?hK fun F oc hF hoc hc₂ => ?_
      case hK => exact .skip (.skip (.skip (.skip (.skip (.loc (.skip (.skip (.glob .nil))))))))
      dsimp only
      -- the cell, the name, the lambda
      have hw5 := g5.wf
      have ga : Grow m₅ (((m₅.alloc (.cell (.ref sl))).alloc (.opq oc)).alloc (.lam F m₅.n (m₅.n + 1))) := ((Grow.alloc hw5 _).snoc _).snoc _
      have nc : (((m₅.alloc (.cell (.ref sl))).alloc (.opq oc)).alloc (.lam F m₅.n (m₅.n + 1))).H m₅.n = some (.cell (.ref sl)) := alloc_old (alloc_wf (alloc_wf hw5 _) _) (alloc_old (alloc_wf hw5 _) (alloc_new _ _))
      have nk : (((m₅.alloc (.cell (.ref sl))).alloc (.opq oc)).alloc (.lam F m₅.n (m₅.n + 1))).H (m₅.n + 1) = some (.opq oc) := alloc_old (alloc_wf (alloc_wf hw5 _) _) (alloc_new _ _)
      have nl : (((m₅.alloc (.cell (.ref sl))).alloc (.opq oc)).alloc (.lam F m₅.n (m₅.n + 1))).H (m₅.n + 2) = some (.lam F m₅.n (m₅.n + 1)) := alloc_new _ _
      generalize ((m₅.alloc (.cell (.ref sl))).alloc (.opq oc)).alloc (.lam F m₅.n (m₅.n + 1)) = ma at ga nc nk nl ⊢
      obtain ⟨m₆, e6⟩ : ∃ x : MH, x = { ma with tb := true } := ⟨_, rfl⟩
      have hH6 : m₆.H = ma.H := by rw [e6]
      have hn6 : m₆.n = ma.n := by rw [e6]
      have ht6 : m₆.tb = true := by rw [e6]
      rw [← e6]
      have hw6 : WF m₆ := fun i o e => by rw [hn6]; rw [hH6] at e; exact ga.wf i o e
      have k6 : ∀ i o, m₅.H i = some o → m₆.H i = some o := fun i o e => by rw [hH6]; exact ga.keep i o e
      rw [← hH6] at nc nk nl
      have hwi6 := k6 _ _ hwi
      have hwd6 := k6 _ _ hwd
      have hwp6 := k6 _ _ hwp
      have hsl6 := k6 _ _ (g5.keep _ _ n3)
      refine Ev.to (v := .ref (m₄.n + 1)) (m := m₆) (by apply Ev.name hc₂; ((focus repeat first | with_reducible exact Slot.head | (show Slot (_ :: _) (_ :: _) _ _ _; first | with_reducible exact Slot.head | apply Slot.tail))); ((first | exact .inl rfl | exact .inr (.inl rfl) | exact .inr (.inr rfl) | exact .inr rfl))) ?_
      refine set_inst K.cls hwi6 hwd6 (K.fields "read" (by decide)) (by simp) ?_
      rw [putF_read]
      refine ExecsH.of ?_
      dsimp only
      have hwdn : m₄.n < m₆.n := hw6 _ _ hwd6
      have hw7 : WF (m₆.set m₄.n (.dict [("lineno", .int 1), ("instream", .none), ("whitespace", .str wsStr), ("pushback", .ref (m₄.n + 2)), ("read", .ref (m₅.n + 2))])) := set_wf hw6 hwdn
      have d7 : (m₆.set m₄.n (.dict [("lineno", .int 1), ("instream", .none), ("whitespace", .str wsStr), ("pushback", .ref (m₄.n + 2)), ("read", .ref (m₅.n + 2))])).H m₄.n = some (.dict [("lineno", .int 1), ("instream", .none), ("whitespace", .str wsStr), ("pushback", .ref (m₄.n + 2)), ("read", .ref (m₅.n + 2))]) := set_at _ _ _
      have o7 : ∀ j o, m₆.H j = some o → j ≠ m₄.n → (m₆.set m₄.n (.dict [("lineno", .int 1), ("instream", .none), ("whitespace", .str wsStr), ("pushback", .ref (m₄.n + 2)), ("read", .ref (m₅.n + 2))])).H j = some o := fun j o e h => by rw [set_off h]; exact e
      have t7 : (m₆.set m₄.n (.dict [("lineno", .int 1), ("instream", .none), ("whitespace", .str wsStr), ("pushback", .ref (m₄.n + 2)), ("read", .ref (m₅.n + 2))])).n = m₆.n := rfl
      generalize m₆.set m₄.n (.dict [("lineno", .int 1), ("instream", .none), ("whitespace", .str wsStr), ("pushback", .ref (m₄.n + 2)), ("read", .ref (m₅.n + 2))]) = m₇ at hw7 d7 o7 t7 ⊢
      refine xs_cons (x_ret (ev_call hc₂ (Ev.to (v := .st (.ref C)) (m := m₇) (Ev.glob hc₂ (by (focus repeat first | with_reducible exact Glob.head | (show Glob (_ :: _) _; first | with_reducible exact Glob.head | apply Glob.tail))) hlx) (args_cons (Ev.to (v := .ref (m₄.n + 1)) (m := m₇) (by apply Ev.name hc₂; ((focus repeat first | with_reducible exact Slot.head | (show Slot (_ :: _) (_ :: _) _ _ _; first | with_reducible exact Slot.head | apply Slot.tail))); ((first | exact .inl rfl | exact .inr (.inl rfl) | exact .inr (.inr rfl) | exact .inr rfl))) (args_nil ⟨keeps_stat K.keep, ?_⟩))))))
      refine HT.mono (c_lexinit K hw7 hA).ht ?_
      rintro y m₈ ⟨g8, rfl, hi8, hd8, hp8⟩
      have ne : ∀ {j o}, m₆.H j = some o → o ≠ .dict [("lineno", .int 1), ("instream", .none), ("whitespace", .str wsStr), ("pushback", .ref (m₄.n + 2))] → j ≠ m₄.n := fun h hne => kinds_ne h hwd6 hne
      have new : ∀ {j o}, m.H j = some o → j < m₄.n := fun h => gm.wf _ _ (gm.keep _ _ h)
      have k4 : ∀ j o, m.H j = some o → m₈.H j = some o := fun j o e => g8.keep _ _ (o7 _ _ (k6 _ _ (g5.keep _ _ (gm.keep _ _ e))) (Nat.ne_of_lt (new e)))
      have hn47 : m₄.n ≤ m₇.n := by rw [t7]; exact Nat.le_of_lt hwdn
      refine ⟨⟨m₇.n + 1, m₇.n, m₇.n + 2, m₄.n + 1, m₄.n, m₅.n + 2, m₅.n, m₅.n + 1, sl, F, oc, env.qual ++ "<lambda>"⟩, rfl, ⟨hi8, hd8, hp8, ?_, ⟨_, g8.keep _ _ d7, rfl⟩, ?_, ?_, ?_, ?_, g8.wf, ?_, ?_, hF, hoc, hca⟩, ⟨g8.wf, k4, rfl⟩, fun o => ⟨fun e => ?_, fun e => ?_, hno o⟩⟩
      · exact g8.keep _ _ (o7 _ _ hwi6 (Nat.succ_ne_self _))
      · exact g8.keep _ _ (o7 _ _ nl (ne nl fun z => nomatch z))
      · exact g8.keep _ _ (o7 _ _ nc (ne nc fun z => nomatch z))
      · exact g8.keep _ _ (o7 _ _ nk (ne nk fun z => nomatch z))
      · exact g8.keep _ _ (o7 _ _ hsl6 (ne hsl6 fun z => nomatch z))
      · intro z
        have : sl < m₇.n := hw7 _ _ (o7 _ _ hsl6 (ne hsl6 fun z => nomatch z))
        have z : m₇.n + 2 = sl := z
        omega
      · intro z
        have : m₄.n < m₇.n := hw7 _ _ d7
        have z : m₇.n = m₄.n := z
        omega
      · have := new e
        have e : m₇.n < m₄.n := this
        omega
      · have := new e
        have e : m₇.n + 2 < m₄.n := this
        omega
end
theorem sc15 : ScopeOk (scopeOf (stmtAt 15)) := by exact ⟨rfl, rfl, rfl, by decide +kernel, by decide +kernel, by decide +kernel, by decide +kernel, by decide +kernel⟩
theorem c_lexer {G : GC} {A : Around} {C : Addr} {fl fa : Nat → Addr} {n : Nat} {m : MH} {wl hl : Nat} {ws : List (List Nat × Bool)} (K : LxK G C fl) (Fa : Facts G fa) (LK : LamK G (fa 15)) (hA : Good (n + 1 + 1 + 1) A) (hw : WF m) (htb : m.tb = false)
    (hwl : m.H wl = some (.list (ws.map fun p => .str (strOf p.1)))) (hhl : m.H hl = some (.list (ws.map fun p => .int (if p.2 then 1 else 0)))) (hok : ∀ p ∈ ws, p.1.length ≤ 20 ∧ ∀ c ∈ p.1, c < 128) (hn : ws.length ≤ 10) (hta : ∀ c ∈ textOf ws, c < 128) :
    CT G A (.st (.ref (fa 15))) [.ref wl, .ref hl] m (LexOut C (textOf ws ++ [101, 110, 100]) m) := by
  obtain ⟨cc, LE, hcm, F⟩ := LK
  exact c_of_code (n := n + 1 + 1) (bs := [(Str.ofString "words", .ref wl), (Str.ofString "escaped", .ref hl)]) (vars := [some (.ref wl), some (.ref hl), none, none, none, none, none, none, none]) hA F sc15 (by exact bind2 (fun _ _ _ _ _ _ _ _ _ _ _ _ _ _ => by kernel_rfl)) (by (focus repeat first | exact Binds.nil | (apply Binds.cons; (focus repeat first | with_reducible exact Put.headL | with_reducible exact Put.headC | (show Put (_ :: _) (_ :: _) _ _ _; first | with_reducible exact Put.headL | with_reducible exact Put.headC | apply Put.tail))))) fun _ _ _ hA' hcode hc =>
    b_lexer K Fa hA' LE hcm hcode hw htb hwl hhl hok hn hta hc
noncomputable def pickL {α : Type} (xs : List α) (lo hi st : Option Int) : List α := (sliceRange (sliceBounds lo hi st xs.length).1 (sliceBounds lo hi st xs.length).2.1 (sliceBounds lo hi st xs.length).2.2).filterMap (xs[·]?)
theorem pick_rel {N : Nat} {σ : List Addr} {xs : List MV} {us : Array Value} (R : VRels N σ xs us.toList) (lo hi st : Option Int) : VRels N σ (pickL xs lo hi st) (slicePick us lo hi st).toList := by
  unfold pickL slicePick
  rw [R.size, List.toList_toArray]
  generalize sliceRange (sliceBounds lo hi st xs.length).1 (sliceBounds lo hi st xs.length).2.1 (sliceBounds lo hi st xs.length).2.2 = l
  induction l with
  | nil => trivial
  | cons i l ih =>
    rw [List.filterMap_cons, List.filterMap_cons]
    cases hx : xs[i]? with
    | none =>
      rw [R.get?_none (List.getElem?_eq_none_iff.mp hx)]
      exact ih
    | some x =>
      obtain ⟨v, hv, V⟩ := R.get? hx
      rw [hv]
      exact ⟨V, ih⟩
theorem pick_ints (ns : List Int) (lo hi st : Option Int) : pickL (ns.map MV.int) lo hi st = (pickL ns lo hi st).map .int := by
  unfold pickL
  rw [List.length_map, List.map_filterMap]
  congr 1
  funext i
  rw [List.getElem?_map]
noncomputable def Scr (G : GC) (sv : MV) (ns : List Int) : Prop := ∀ (A : Around) (m : MH) (lo hi st : Option Int) (Q : MV → MH → Prop), st ≠ some 0 → Q (.ref m.n) (m.alloc (.list ((pickL ns lo hi st).map .int))) → SliceT G A sv lo hi st m Q
section
variable {G : GC} {A : Around} {m : MH} {a b : Nat} {Q : MV → MH → Prop}
theorem bin_addN (hq : Q (.int ((a + b : Nat) : Int)) m) : HT G A (RV G) (ap2 (binaryOp .Add)) [.int a, .int b] m Q := bin_add hq
theorem bin_divN (hb : b ≠ 0) (hb2 : b < 100000) (hq : Q (.int ((a / b : Nat) : Int)) m) : HT G A (RV G) (ap2 (binaryOp .FloorDiv)) [.int a, .int b] m Q :=
  bin_div (by omega) (PyProof.noPylong_small (by omega)) (by rw [← Int.ofNat_fdiv]; exact hq)
theorem bin_modN (hb : b ≠ 0) (hq : Q (.int ((a % b : Nat) : Int)) m) : HT G A (RV G) (ap2 (binaryOp .Mod)) [.int a, .int b] m Q :=
  bin_mod (by omega) (by rw [← Int.ofNat_fmod]; exact hq)
end
noncomputable def prow (k h : Nat) : PRow := ⟨(List.range (h % 5)).map fun j => h / 5 / 2 ^ j % 2 == 1, 1 + h / 80 % 6 % (if k < 2 then 2 else 3), h / 480 % 12 % 3, h / 480 % 12 / 6 == 0, (h / 480 % 12 % 3 + 1 + h / 480 % 12 / 3 % 2) % 3, h / 5760 % 2 == 1⟩
theorem prow_ok (k h : Nat) : (prow k h).Ok := by
  refine ⟨?_, ?_, ?_, ?_, ?_⟩
  · show ((List.range (h % 5)).map _).length ≤ 4
    rw [List.length_map, List.length_range]; omega
  · show 1 ≤ 1 + _; omega
  · show 1 + h / 80 % 6 % (if k < 2 then 2 else 3) ≤ 3
    split <;> omega
  · show h / 480 % 12 % 3 < 3; omega
  · show (_ + 1 + _) % 3 < 3; omega
theorem flat_one {α β : Type} (f : α → β) (l : List α) : (l.map fun a => [f a]).flatten = l.map f := by
  induction l with
  | nil => rfl
  | cons a l ih => rw [List.map_cons, List.flatten_cons, ih]; rfl
section
variable {G : GC} {A : Around} {env : Env} {own : List Addr} {fa : Nat → Addr} {m : MH}
noncomputable abbrev rowsPat (sv : MV) (bl rl : Nat) (place heap lead often kind other : Option MV) : List (Option MV) := [some sv, some (.ref bl), some (.ref rl), place, heap, lead, often, kind, other, none, none]
noncomputable def basesL : List Int := [80, 2006, 9762, 1447]
theorem r_heap {sv : MV} {bl rl k : Nat} {ns : List Int} {w4 w5 w6 w7 w8 : Option MV} (Fa : Facts G fa) (hk : k < 4) (hs : Scr G sv ns) (hb : m.H bl = some (.list (basesL.map .int))) (hw : WF m) (hc : (cxM G A env own (stmtAt 14)).Ok) :
    ∃ h m', h < 1000000 ∧ Grow m m' ∧ Ex (cxM G A env own (stmtAt 14)) (nthOf (innerOf (nthOf (bodyOf (stmtAt 14)) 2)) 0) ⟨rowsPat sv bl rl (some (.int k)) w4 w5 w6 w7 w8, m⟩ .next ⟨rowsPat sv bl rl (some (.int k)) (some (.int (h : Nat))) w5 w6 w7 w8, m'⟩ := by
  have hsum : GlobIs G "sum" (.builtin "sum") := Fa.bi "sum" (by decide)
  have hp : (0 : Int) < 1000000 := by decide
  have h1 := Int.fmod_nonneg_of_pos (basesL.getD k 0 + (pickL ns (some (k : Int)) none (some 4)).sum) hp
  have h2 := Int.fmod_lt_of_pos (basesL.getD k 0 + (pickL ns (some (k : Int)) none (some 4)).sum) hp
  generalize hx : basesL.getD k 0 + (pickL ns (some (k : Int)) none (some 4)).sum = x at h1 h2
  obtain ⟨h, hh⟩ := Int.eq_ofNat_of_zero_le h1
  refine ⟨h, m.alloc (.list ((pickL ns (some (k : Int)) none (some 4)).map .int)), by omega, .alloc hw _, ?_⟩
  apply Ex.set (v := .int (h : Nat)) hc
  · apply Ev.bin (a := .int x) (b := .int 1000000) hc
    · apply Ev.bin (a := .int (basesL.getD k 0)) hc
      · apply Ev.sub hc
        · (apply Ev.nm (by assumption); (repeat first | with_reducible exact Slot.head | (show Slot (_ :: _) (_ :: _) _ _ _; first | with_reducible exact Slot.head | apply Slot.tail)); rfl)
        · (apply Ev.nm (by assumption); (repeat first | with_reducible exact Slot.head | (show Slot (_ :: _) (_ :: _) _ _ _; first | with_reducible exact Slot.head | apply Slot.tail)); rfl)
        · exact fun value slice hsl => idx_list hsl hb (Int.natCast_nonneg _) (by rw [Int.toNat_natCast]; exact ints_at hk) (by omega) ⟨rfl, rfl⟩
      · apply Ev.call hc
        · (apply Ev.glob (by assumption); (focus repeat first | with_reducible exact Glob.head | (show Glob (_ :: _) _; first | with_reducible exact Glob.head | apply Glob.tail)); assumption)
        · apply Evs.cons (a := .ref m.n) (m₁ := m.alloc (.list ((pickL ns (some (k : Int)) none (some 4)).map .int)))
          · refine Ev.slice (ov := sv) (m₁ := m) (m₂ := m) (m₃ := m) (m₄ := m) (lo := some (k : Int)) (hi := none) (sp := some 4) hc ?_ ?_ ?_ ?_ ?_ fun _ _ => rfl
            · (apply Ev.nm (by assumption); (repeat first | with_reducible exact Slot.head | (show Slot (_ :: _) (_ :: _) _ _ _; first | with_reducible exact Slot.head | apply Slot.tail)); rfl)
            · refine Pt.some ?_
              (apply Ev.nm (by assumption); (repeat first | with_reducible exact Slot.head | (show Slot (_ :: _) (_ :: _) _ _ _; first | with_reducible exact Slot.head | apply Slot.tail)); rfl)
            · exact Pt.none
            · exact Pt.some Ev.int
            · exact hs _ _ _ _ _ _ (by decide) ⟨rfl, rfl⟩
          · exact Evs.nil
        · exact keeps_builtin
        · exact call_sum hc.hand (alloc_new _ _) ⟨rfl, rfl⟩
      · exact bin_add ⟨by rw [hx], rfl⟩
    · apply Ev.bin hc
      · exact Ev.int
      · exact Ev.int
      · exact bin_pow (by decide) (by decide) ⟨by rfl, rfl⟩
    · exact bin_mod (by decide) ⟨by rw [hh], rfl⟩
  · (focus repeat first | with_reducible exact Put.headL | with_reducible exact Put.headC | (show Put (_ :: _) (_ :: _) _ _ _; first | with_reducible exact Put.headL | with_reducible exact Put.headC | apply Put.tail))
theorem r_lead {sv : MV} {bl rl k h : Nat} {w5 w6 w7 w8 : Option MV} (Fa : Facts G fa) (hw : WF m) (hc : (cxM G A env own (stmtAt 14)).Ok) :
    ExecTo (cxM G A env own (stmtAt 14)) (nthOf (innerOf (nthOf (bodyOf (stmtAt 14)) 2)) 1) ⟨rowsPat sv bl rl (some (.int k)) (some (.int h)) w5 w6 w7 w8, m⟩ fun f st' => f = .next ∧ st'.vars = rowsPat sv bl rl (some (.int k)) (some (.int h)) (some (.str (prow k h).lead)) w6 w7 w8 ∧ Grow m st'.m := by
  have hsz := sizeLine_big
  have hrange : GlobIs G "range" (.type "range") := Fa.ty "range" (by decide)
  refine x_assign hc (ev_meth hc (Ev.to Ev.str (meth_join (args_cons ?_))))
  apply ev_comp hc
  case S => exact ⟨rfl, by decide +kernel, by decide +kernel, by decide +kernel⟩
  case hV => (focus repeat first | with_reducible exact CompVars.nil | apply CompVars.loc | apply CompVars.cell | apply CompVars.glob | (apply CompVars.free; (focus repeat first | with_reducible exact Slot.head | (show Slot (_ :: _) (_ :: _) _ _ _; first | with_reducible exact Slot.head | apply Slot.tail)); (first | exact .inl rfl | exact .inr (.inl rfl) | exact .inr (.inr rfl) | exact .inr rfl)))
  refine ie_range1 hc (ev_glob hc (by (focus repeat first | with_reducible exact Glob.head | (show Glob (_ :: _) _; first | with_reducible exact Glob.head | apply Glob.tail))) hrange ⟨rfl, Ev.to (v := .int ((h % 5 : Nat) : Int)) (m := m) ?_ ⟨_, rfl, by omega, by omega, rfl, (fun z => nomatch z), rfl, h % 5 + 1, fun env₁ own₁ fp₁ hc₁ => ?_⟩⟩)
  · apply Ev.bin hc
    · (apply Ev.nm (by assumption); (repeat first | with_reducible exact Slot.head | (show Slot (_ :: _) (_ :: _) _ _ _; first | with_reducible exact Slot.head | apply Slot.tail)); rfl)
    · exact Ev.int
    · exact bin_modN (b := 5) (by decide) ⟨rfl, rfl⟩
  have hlen : (prow k h).bits.length = h % 5 := by show ((List.range (h % 5)).map _).length = _; rw [List.length_map, List.length_range]
  refine comp_range0 (n := h % 5) (fun j ys st => (∃ w, st.vars = [none, w, some (.int h)]) ∧ st.m = m ∧ ys = (((prow k h).bits.take j).map fun b => strOf [if b then 9 else 32]).map .str) ⟨⟨_, rfl⟩, rfl, rfl⟩ ?_ ?_
  · rintro j ys ⟨vars, m₁⟩ hj ⟨⟨w, hv⟩, hm, hys⟩
    dsimp only at hv hm hys
    subst hv hm
    have htk : (prow k h).bits.take (j + 1) = (prow k h).bits.take j ++ [h / 5 / 2 ^ j % 2 == 1] := take_snoc _ _ _ hj
    refine asg_name hc₁ ⟨_, by (focus repeat first | with_reducible exact Put.headL | with_reducible exact Put.headC | (show Put (_ :: _) (_ :: _) _ _ _; first | with_reducible exact Put.headL | with_reducible exact Put.headC | apply Put.tail)), Ev.to (v := .str (strOf [if (h / 5 / 2 ^ j % 2 == 1) then 9 else 32])) (m := m₁) ?_ ⟨?_, ⟨_, rfl⟩, rfl, ?_⟩⟩
    · apply Ev.ife (z := (h / 5 / 2 ^ j % 2 == 1)) (m₁ := m₁)
      · apply Te.cmp (a := .int ((h / 5 / 2 ^ j % 2 : Nat) : Int)) hc₁
        · apply Ev.bin (a := .int ((h / 5 / 2 ^ j : Nat) : Int)) hc₁
          · apply Ev.bin (a := .int ((h / 5 : Nat) : Int)) (b := .int ((2 ^ j : Nat) : Int)) hc₁
            · apply Ev.bin hc₁
              · (apply Ev.nm (by assumption); (repeat first | with_reducible exact Slot.head | (show Slot (_ :: _) (_ :: _) _ _ _; first | with_reducible exact Slot.head | apply Slot.tail)); rfl)
              · exact Ev.int
              · exact bin_divN (b := 5) (by decide) (by decide) ⟨rfl, rfl⟩
            · apply Ev.bin hc₁
              · exact Ev.int
              · (apply Ev.nm (by assumption); (repeat first | with_reducible exact Slot.head | (show Slot (_ :: _) (_ :: _) _ _ _; first | with_reducible exact Slot.head | apply Slot.tail)); rfl)
              · refine bin_pow (Int.natCast_nonneg _) ?_ ⟨?_, rfl⟩
                · have : Builtin.Int.intBits 2 ≤ 2 := by decide
                  have hj' : j < 5 := by omega
                  have : (Builtin.Int.intBits 2 : Int) ≤ 2 := by omega
                  have h3 := Int.mul_le_mul_of_nonneg_right this (Int.natCast_nonneg j)
                  omega
                · rw [Int.toNat_natCast, Int.natCast_pow]; rfl
            · refine bin_divN (Nat.ne_of_gt (Nat.pow_pos (by decide))) ?_ ⟨rfl, rfl⟩
              exact Nat.lt_of_le_of_lt (Nat.pow_le_pow_right (by decide) (show j ≤ 5 by omega)) (by decide)
          · exact Ev.int
          · exact bin_modN (b := 2) (by decide) ⟨rfl, rfl⟩
        · exact Ev.int
        · refine cmp_eq ⟨?_, rfl⟩
          generalize h / 5 / 2 ^ j % 2 = z
          cases hz : z == 1 with
          | true => rw [eq_of_beq hz]; rfl
          | false =>
            have : z ≠ 1 := fun e => by rw [e] at hz; cases hz
            rw [show (((z : Nat) : Int) == 1) = false from beq_eq_false_iff_ne.mpr (by omega)]
      · cases h / 5 / 2 ^ j % 2 == 1 with
        | true => rw [if_pos rfl]; exact Ev.str
        | false => rw [if_neg Bool.false_ne_true]; exact Ev.str
    · rw [hys, List.length_map, List.length_map, List.length_take]; omega
    · rw [htk, List.map_append, List.map_append, hys]; rfl
  · rintro ys ⟨vars, m₁⟩ ⟨_, hm, hys⟩
    dsimp only at hm hys
    subst hm
    rw [← hlen, List.take_length] at hys
    have htx : ((prow k h).bits.map fun b => strOf [if b then 9 else 32]) = ((prow k h).bits.map fun b => [if b then 9 else 32]).map strOf := by rw [List.map_map]; rfl
    have hok := (prow_ok k h).len
    refine args_nil ⟨keeps_builtin, call_join (texts := (prow k h).bits.map fun b => strOf [if b then 9 else 32]) (by rw [← hys]; exact alloc_new _ _) (joinOk_of ?_) ⟨_, by (focus repeat first | with_reducible exact Put.headL | with_reducible exact Put.headC | (show Put (_ :: _) (_ :: _) _ _ _; first | with_reducible exact Put.headL | with_reducible exact Put.headC | apply Put.tail)), rfl, ?_, .alloc hw _⟩⟩
    · rw [List.map_map, show ((fun x : Str => x.length) ∘ fun b : Bool => strOf [if b then 9 else 32]) = Function.const _ 1 from rfl, List.map_const, List.sum_replicate_nat, List.length_map, show (Str.ofString "").length = 0 from rfl]
      omega
    · rw [htx, str_join, flat_one]; rfl
end
theorem sc14 : ScopeOk (scopeOf (stmtAt 14)) := by exact ⟨rfl, rfl, rfl, by decide +kernel, by decide +kernel, by decide +kernel, by decide +kernel, by decide +kernel⟩
theorem deed_eq (p q : Nat) (plus : Bool) : chr (120 + p) ++ strOf [if plus then 43 else 45] ++ chr (120 + q) = deedOf p plus q := by
  rw [chr_of, chr_of, strOf_app, strOf_app]; rfl
theorem idx_xyz : ∀ p, p < 3 → (seqIndex? ((p : Nat) : Int) (Str.ofString "xyz").length).bind ((Str.ofString "xyz").cps[·]?) = some (120 + p) := by decide +kernel
theorem idx_pm : ∀ p, p < 2 → (seqIndex? ((p : Nat) : Int) (Str.ofString "+-").length).bind ((Str.ofString "+-").cps[·]?) = some (if p == 0 then 43 else 45) := by decide +kernel
section
variable {G : GC} {A : Around} {env : Env} {own : List Addr} {fa : Nat → Addr} {m : MH}
theorem r_rest {sv : MV} {bl rl k h : Nat} {vs : List MV} {w6 w7 w8 : Option MV} (hh : h < 1000000) (hr : m.H rl = some (.list vs)) (hl : vs.length ≤ 900) (hw : WF m) (hc : (cxM G A env own (stmtAt 14)).Ok) :
    Exs (cxM G A env own (stmtAt 14)) ((innerOf (nthOf (bodyOf (stmtAt 14)) 2)).drop 2) ⟨rowsPat sv bl rl (some (.int k)) (some (.int h)) (some (.str (prow k h).lead)) w6 w7 w8, m⟩ .next
      ⟨rowsPat sv bl rl (some (.int k)) (some (.int h)) (some (.str (prow k h).lead)) (some (.int (prow k h).often)) (some (.int (h / 480 % 12 : Nat))) (some (.int (prow k h).q)), (m.alloc (.tup [.str (prow k h).row.lead, .int (prow k h).row.often, .str (prow k h).row.deed, .int (prow k h).row.hidden])).set rl (.list (vs ++ [.ref m.n]))⟩ := by
  have hsz := sizeLine_big
  have hmt : ∀ {o}, (m.alloc o).H rl = some (.list vs) := alloc_old hw hr
  refine Exs.cons (st₁ := ⟨rowsPat sv bl rl (some (.int k)) (some (.int h)) (some (.str (prow k h).lead)) (some (.int (prow k h).often)) w7 w8, m⟩) ?_ ?_
  · apply Ex.set (v := .int (prow k h).often) hc
    · apply Ev.bin (a := .int ((1 : Nat) : Int)) (b := .int ((h / 80 % 6 % (if k < 2 then 2 else 3) : Nat) : Int)) hc
      · exact Ev.int
      · apply Ev.bin (a := .int ((h / 80 % 6 : Nat) : Int)) (b := .int ((if k < 2 then 2 else 3 : Nat) : Int)) hc
        · apply Ev.bin (a := .int ((h / 80 : Nat) : Int)) hc
          · apply Ev.bin hc
            · (apply Ev.nm (by assumption); (repeat first | with_reducible exact Slot.head | (show Slot (_ :: _) (_ :: _) _ _ _; first | with_reducible exact Slot.head | apply Slot.tail)); rfl)
            · exact Ev.int
            · exact bin_divN (b := 80) (by decide) (by decide) ⟨rfl, rfl⟩
          · exact Ev.int
          · exact bin_modN (b := 6) (by decide) ⟨rfl, rfl⟩
        · apply Ev.ife (z := decide ((k : Int) < 2)) (m₁ := m)
          · apply Te.cmp hc
            · (apply Ev.nm (by assumption); (repeat first | with_reducible exact Slot.head | (show Slot (_ :: _) (_ :: _) _ _ _; first | with_reducible exact Slot.head | apply Slot.tail)); rfl)
            · exact Ev.int
            · exact cmp_lt ⟨rfl, rfl⟩
          · by_cases h2 : k < 2
            · rw [if_pos h2, decide_eq_true (by omega), if_pos rfl]; exact Ev.int
            · rw [if_neg h2, decide_eq_false (by omega), if_neg Bool.false_ne_true]; exact Ev.int
        · exact bin_modN (by split <;> decide) ⟨rfl, rfl⟩
      · exact bin_addN (a := 1) ⟨rfl, rfl⟩
    · (focus repeat first | with_reducible exact Put.headL | with_reducible exact Put.headC | (show Put (_ :: _) (_ :: _) _ _ _; first | with_reducible exact Put.headL | with_reducible exact Put.headC | apply Put.tail))
  refine Exs.cons (st₁ := ⟨rowsPat sv bl rl (some (.int k)) (some (.int h)) (some (.str (prow k h).lead)) (some (.int (prow k h).often)) (some (.int (h / 480 % 12 : Nat))) w8, m⟩) ?_ ?_
  · apply Ex.set (v := .int (h / 480 % 12 : Nat)) hc
    · apply Ev.bin (a := .int ((h / 480 : Nat) : Int)) hc
      · apply Ev.bin hc
        · (apply Ev.nm (by assumption); (repeat first | with_reducible exact Slot.head | (show Slot (_ :: _) (_ :: _) _ _ _; first | with_reducible exact Slot.head | apply Slot.tail)); rfl)
        · exact Ev.int
        · exact bin_divN (b := 480) (by decide) (by decide) ⟨rfl, rfl⟩
      · exact Ev.int
      · exact bin_modN (b := 12) (by decide) ⟨rfl, rfl⟩
    · (focus repeat first | with_reducible exact Put.headL | with_reducible exact Put.headC | (show Put (_ :: _) (_ :: _) _ _ _; first | with_reducible exact Put.headL | with_reducible exact Put.headC | apply Put.tail))
  refine Exs.cons (st₁ := ⟨rowsPat sv bl rl (some (.int k)) (some (.int h)) (some (.str (prow k h).lead)) (some (.int (prow k h).often)) (some (.int (h / 480 % 12 : Nat))) (some (.int (prow k h).q)), m⟩) ?_ ?_
  · apply Ex.set (v := .int (prow k h).q) hc
    · apply Ev.bin (a := .int ((h / 480 % 12 % 3 + 1 + h / 480 % 12 / 3 % 2 : Nat) : Int)) hc
      · apply Ev.bin (a := .int ((h / 480 % 12 % 3 + 1 : Nat) : Int)) (b := .int ((h / 480 % 12 / 3 % 2 : Nat) : Int)) hc
        · apply Ev.bin (a := .int ((h / 480 % 12 % 3 : Nat) : Int)) hc
          · apply Ev.bin hc
            · (apply Ev.nm (by assumption); (repeat first | with_reducible exact Slot.head | (show Slot (_ :: _) (_ :: _) _ _ _; first | with_reducible exact Slot.head | apply Slot.tail)); rfl)
            · exact Ev.int
            · exact bin_modN (b := 3) (by decide) ⟨rfl, rfl⟩
          · exact Ev.int
          · exact bin_addN (b := 1) ⟨rfl, rfl⟩
        · apply Ev.bin (a := .int ((h / 480 % 12 / 3 : Nat) : Int)) hc
          · apply Ev.bin hc
            · (apply Ev.nm (by assumption); (repeat first | with_reducible exact Slot.head | (show Slot (_ :: _) (_ :: _) _ _ _; first | with_reducible exact Slot.head | apply Slot.tail)); rfl)
            · exact Ev.int
            · exact bin_divN (b := 3) (by decide) (by decide) ⟨rfl, rfl⟩
          · exact Ev.int
          · exact bin_modN (b := 2) (by decide) ⟨rfl, rfl⟩
        · exact bin_addN ⟨rfl, rfl⟩
      · exact Ev.int
      · exact bin_modN (b := 3) (by decide) ⟨rfl, rfl⟩
    · (focus repeat first | with_reducible exact Put.headL | with_reducible exact Put.headC | (show Put (_ :: _) (_ :: _) _ _ _; first | with_reducible exact Put.headL | with_reducible exact Put.headC | apply Put.tail))
  refine Exs.cons ?_ Exs.nil
  apply Ex.expr hc
  apply Ev.meth (m₃ := m.alloc (.tup [.str (prow k h).row.lead, .int (prow k h).row.often, .str (prow k h).row.deed, .int (prow k h).row.hidden])) hc
  · (apply Ev.nm (by assumption); (repeat first | with_reducible exact Slot.head | (show Slot (_ :: _) (_ :: _) _ _ _; first | with_reducible exact Slot.head | apply Slot.tail)); rfl)
  · exact meth_append hr ⟨rfl, rfl⟩
  · apply Evs.cons (a := .ref m.n) (m₁ := m.alloc (.tup [.str (prow k h).row.lead, .int (prow k h).row.often, .str (prow k h).row.deed, .int (prow k h).row.hidden]))
    · apply Ev.tuple hc
      · apply Evs.cons (a := .str (prow k h).row.lead) (m₁ := m)
        · exact Ev.name hc (.tail (.tail (.tail (.tail (.tail .head))))) (.inl rfl)
        · apply Evs.cons (a := .int (prow k h).row.often) (m₁ := m)
          · exact Ev.name hc (.tail (.tail (.tail (.tail (.tail (.tail .head)))))) (.inl rfl)
          · apply Evs.cons (a := .str (prow k h).row.deed) (m₁ := m)
            · apply Ev.bin (a := .str (chr (120 + (prow k h).p) ++ strOf [if (prow k h).plus then 43 else 45])) (b := .str (chr (120 + (prow k h).q))) hc
              · apply Ev.bin (a := .str (chr (120 + (prow k h).p))) (b := .str (strOf [if (prow k h).plus then 43 else 45])) hc
                · apply Ev.sub (b := .int ((h / 480 % 12 % 3 : Nat) : Int)) hc
                  · exact Ev.str
                  · apply Ev.bin hc
                    · (apply Ev.nm (by assumption); (repeat first | with_reducible exact Slot.head | (show Slot (_ :: _) (_ :: _) _ _ _; first | with_reducible exact Slot.head | apply Slot.tail)); rfl)
                    · exact Ev.int
                    · exact bin_modN (b := 3) (by decide) ⟨rfl, rfl⟩
                  · exact fun value slice hs => idx_str hs ⟨by omega, by omega⟩ (idx_xyz _ (by omega)) ⟨rfl, rfl⟩
                · apply Ev.sub (b := .int ((h / 480 % 12 / 6 : Nat) : Int)) hc
                  · exact Ev.str
                  · apply Ev.bin hc
                    · (apply Ev.nm (by assumption); (repeat first | with_reducible exact Slot.head | (show Slot (_ :: _) (_ :: _) _ _ _; first | with_reducible exact Slot.head | apply Slot.tail)); rfl)
                    · exact Ev.int
                    · exact bin_divN (b := 6) (by decide) (by decide) ⟨rfl, rfl⟩
                  · exact fun value slice hs => idx_str hs ⟨by omega, by omega⟩ (idx_pm _ (by omega)) ⟨rfl, rfl⟩
                · exact bin_str (by rw [strOf_len]; show 1 + 1 ≤ _; omega) ⟨rfl, rfl⟩
              · apply Ev.sub hc
                · exact Ev.str
                · (apply Ev.nm (by assumption); (repeat first | with_reducible exact Slot.head | (show Slot (_ :: _) (_ :: _) _ _ _; first | with_reducible exact Slot.head | apply Slot.tail)); rfl)
                · exact fun value slice hs => idx_str hs ⟨by omega, by have := (prow_ok k h).q; omega⟩ (idx_xyz _ (prow_ok k h).q) ⟨rfl, rfl⟩
              · exact bin_str (by rw [chr_of, strOf_app, strOf_len]; show 2 + 1 ≤ _; omega) ⟨by rw [deed_eq]; rfl, rfl⟩
            · apply Evs.cons (a := .int (prow k h).row.hidden) (m₁ := m)
              · apply Ev.bin (a := .int ((h / 5760 : Nat) : Int)) hc
                · apply Ev.bin hc
                  · (apply Ev.nm (by assumption); (repeat first | with_reducible exact Slot.head | (show Slot (_ :: _) (_ :: _) _ _ _; first | with_reducible exact Slot.head | apply Slot.tail)); rfl)
                  · exact Ev.int
                  · exact bin_divN (b := 5760) (by decide) (by decide) ⟨rfl, rfl⟩
                · exact Ev.int
                · refine bin_modN (b := 2) (by decide) ⟨?_, rfl⟩
                  show MV.int _ = .int (if (h / 5760 % 2 == 1) = true then 1 else 0)
                  have h2 : h / 5760 % 2 = 0 ∨ h / 5760 % 2 = 1 := by omega
                  rcases h2 with h2 | h2 <;> rw [h2] <;> rfl
              · exact Evs.nil
      · show 4 ≤ 1000; decide
    · exact Evs.nil
  · exact keeps_builtin
  · exact call_append hmt (by omega) ⟨rfl, rfl⟩
end
theorem IsRow.set {m : MH} {v : MV} {r : Row} {i : Nat} {xs : List MV} {o : MO} (h : IsRow m v r) (hi : m.H i = some (.list xs)) : IsRow (m.set i o) v r := by
  obtain ⟨j, e, hj⟩ := h
  exact ⟨j, e, by rw [set_off (kinds_ne hj hi fun z => nomatch z)]; exact hj⟩
section
variable {G : GC} {A : Around} {env : Env} {own : List Addr} {fa : Nat → Addr} {m : MH}
theorem b_rows {sv : MV} {ns : List Int} (Fa : Facts G fa) (hs : Scr G sv ns) (hw : WF m) (hc : (cxM G A env own (stmtAt 14)).Ok) :
    ExecsTo (cxM G A env own (stmtAt 14)) (bodyOf (stmtAt 14)) ⟨[some sv, none, none, none, none, none, none, none, none, none, none], m⟩ fun fl st' => outOf (fun y m' => Grow m m' ∧ ∃ rs : List PRow, rs.length = 4 ∧ (∀ r ∈ rs, r.Ok) ∧ IsRows m' y (rs.map PRow.row)) fl st'.m := by
  have hrange : GlobIs G "range" (.type "range") := Fa.ty "range" (by decide)
  refine xs_cons (Ex.to (f := .next) (st' := ⟨[some sv, some (.ref m.n), none, none, none, none, none, none, none, none, none], m.alloc (.list (basesL.map .int))⟩) ?_ ?_)
  · apply Ex.set hc
    · apply Ev.list (as := basesL.map .int) hc
      · exact Evs.cons Ev.int (Evs.cons Ev.int (Evs.cons Ev.int (Evs.cons Ev.int Evs.nil)))
      · show 4 ≤ 1000; decide
    · (focus repeat first | with_reducible exact Put.headL | with_reducible exact Put.headC | (show Put (_ :: _) (_ :: _) _ _ _; first | with_reducible exact Put.headL | with_reducible exact Put.headC | apply Put.tail))
  dsimp only
  have g1 : Grow m (m.alloc (.list (basesL.map .int))) := .alloc hw _
  have n1 : (m.alloc (.list (basesL.map MV.int))).H m.n = some (.list (basesL.map .int)) := alloc_new _ _
  generalize m.alloc (.list (basesL.map MV.int)) = m₁ at g1 n1 ⊢
  generalize m.n = bl at n1 ⊢
  refine xs_cons (Ex.to (f := .next) (st' := ⟨rowsPat sv bl m₁.n none none none none none none, m₁.alloc (.list [])⟩) ?_ ?_)
  · apply Ex.set hc
    · apply Ev.list hc
      · exact Evs.nil
      · exact Nat.zero_le _
    · (focus repeat first | with_reducible exact Put.headL | with_reducible exact Put.headC | (show Put (_ :: _) (_ :: _) _ _ _; first | with_reducible exact Put.headL | with_reducible exact Put.headC | apply Put.tail))
  dsimp only
  have g2 : Grow m₁ (m₁.alloc (.list [])) := .alloc g1.wf _
  have n2 : (m₁.alloc (.list [])).H m₁.n = some (.list []) := alloc_new _ _
  have hno : ∀ o, m.H m₁.n ≠ some o := fun o e => Nat.lt_irrefl _ (g1.wf _ _ (g1.keep _ _ e))
  have hbr : bl ≠ m₁.n := Nat.ne_of_lt (g1.wf _ _ n1)
  generalize m₁.alloc (.list []) = m₂ at g2 n2 ⊢
  generalize m₁.n = rl at n2 hno hbr ⊢
  refine xs_cons (FT.mono (x_for_range1 hc (b := 4) (m₁ := m₂) (m := m₂) ?hf ?he (by decide) (by decide)
    (fun k st => (∃ w3 w4 w5 w6 w7 w8, st.vars = rowsPat sv bl rl w3 w4 w5 w6 w7 w8) ∧ Grow m st.m ∧ st.m.H bl = some (.list (basesL.map .int)) ∧ ∃ vs, ∃ rs : List PRow, st.m.H rl = some (.list vs) ∧ rs.length = k ∧ All2 (IsRow st.m) vs (rs.map PRow.row) ∧ ∀ r ∈ rs, r.Ok) ?h0 ?step) ?fin)
  case hf => (apply Ev.glob (by assumption); (focus repeat first | with_reducible exact Glob.head | (show Glob (_ :: _) _; first | with_reducible exact Glob.head | apply Glob.tail)); assumption)
  case he => exact Ev.int
  case h0 => exact ⟨⟨_, _, _, _, _, _, rfl⟩, g1.trans g2, g2.keep _ _ n1, [], [], n2, rfl, .nil, fun _ h => nomatch h⟩
  case step =>
    rintro k ⟨vars, m₃⟩ hk ⟨⟨w3, w4, w5, w6, w7, w8, hv⟩, hg, hb, vs, rs, hr, hrs, ha, hok⟩
    dsimp only at hv hg hb hr ha
    subst hv
    have hk4 : k < 4 := hk
    rw [Int.zero_add]
    refine asg_name hc ⟨_, by (focus repeat first | with_reducible exact Put.headL | with_reducible exact Put.headC | (show Put (_ :: _) (_ :: _) _ _ _; first | with_reducible exact Put.headL | with_reducible exact Put.headC | apply Put.tail)), ?_⟩
    obtain ⟨h, m₄, hh, g4, hx⟩ := r_heap (w4 := w4) (w5 := w5) (w6 := w6) (w7 := w7) (w8 := w8) (rl := rl) Fa hk4 hs hb hg.wf hc
    refine xs_cons (Ex.to hx ?_)
    dsimp only
    refine xs_cons (FT.mono (r_lead Fa g4.wf hc) ?_)
    rintro f ⟨vars, m₅⟩ ⟨rfl, hv, g5⟩
    dsimp only at hv g5
    subst hv
    dsimp only
    have g35 := g4.trans g5
    have hvl : vs.length = k := by rw [ha.len, List.length_map, hrs]
    have hr5 := g35.keep _ _ hr
    refine Exs.to (r_rest hh hr5 (by omega) g5.wf hc) ⟨.inl rfl, ⟨_, _, _, _, _, _, rfl⟩, ?_, ?_, _, rs ++ [prow k h], set_at _ _ _, ?_, ?_, ?_⟩
    · exact ((hg.trans g35).snoc _).set hno (alloc_wf g5.wf _ _ _ (alloc_old g5.wf hr5))
    · dsimp only
      rw [set_off hbr]
      exact alloc_old g5.wf (g35.keep _ _ hb)
    · rw [List.length_append, hrs]; rfl
    · dsimp only
      rw [List.map_append]
      refine All2.snoc ((ha.mono fun _ _ z => (z.grow (g35.snoc _)).set (alloc_old g5.wf hr5))) (IsRow.set ⟨_, rfl, alloc_new _ _⟩ (alloc_old g5.wf hr5))
    · intro r hr
      rcases List.mem_append.mp hr with hr | hr
      · exact hok r hr
      · rw [List.mem_singleton.mp hr]; exact prow_ok k h
  case fin =>
    rintro f ⟨vars, m₃⟩ ⟨rfl, ⟨w3, w4, w5, w6, w7, w8, hv⟩, hg, hb, vs, rs, hr, hrs, ha, hok⟩
    dsimp only at hv hg hb hr ha
    subst hv
    dsimp only
    exact xs_ret (v := .ref rl) (m := m₃) (by (apply Ev.nm (by assumption); (repeat first | with_reducible exact Slot.head | (show Slot (_ :: _) (_ :: _) _ _ _; first | with_reducible exact Slot.head | apply Slot.tail)); rfl)) ⟨hg, rs, hrs, hok, rl, vs, rfl, hr, ha⟩
theorem c_rows {n : Nat} {sv : MV} {ns : List Int} (Fa : Facts G fa) (hs : Scr G sv ns) (hw : WF m) (hA : Good (n + 1) A) :
    CT G A (.st (.ref (fa 14))) [sv] m fun y m' => Grow m m' ∧ ∃ rs : List PRow, rs.length = 4 ∧ (∀ r ∈ rs, r.Ok) ∧ IsRows m' y (rs.map PRow.row) :=
  c_of (n := n) (bs := [(Str.ofString "script", sv)]) (vars := [some sv, none, none, none, none, none, none, none, none, none, none]) hA (Fa.fn 14 (by decide)) sc14 (by exact bind1 (fun _ _ _ _ _ _ _ _ _ _ _ _ _ => by kernel_rfl)) (by (focus repeat first | exact Binds.nil | (apply Binds.cons; (focus repeat first | with_reducible exact Put.headL | with_reducible exact Put.headC | (show Put (_ :: _) (_ :: _) _ _ _; first | with_reducible exact Put.headL | with_reducible exact Put.headC | apply Put.tail))))) fun _ _ _ _ hc => b_rows Fa hs hw hc
end
noncomputable def leadL (r : PRow) : List Nat := r.bits.map fun b => if b then 9 else 32
noncomputable def deedL (r : PRow) : List Nat := [120 + r.p, if r.plus then 43 else 45, 120 + r.q]
noncomputable def wordL (r : PRow) : List Nat := leadL r ++ (48 + r.often) :: deedL r
noncomputable def wordOf (r : PRow) : Str := strOf (wordL r)
noncomputable def wordV (r : PRow) : MV := .str (wordOf r)
theorem wordL_len (r : PRow) : (wordL r).length = r.bits.length + 4 := by
  unfold wordL leadL deedL
  rw [List.length_append, List.length_map]; rfl
theorem slice_to4 (a b : List Nat) (hb : b.length = 4) : Txt.slice (strOf (a ++ b)) none (some (-4)) = strOf a := by
  have hn : (strOf (a ++ b)).length = a.length + 4 := by rw [strOf_len, List.length_append, hb]
  have e : Txt.slice (strOf (a ++ b)) none (some (-4)) = Txt.slice (strOf (a ++ b)) none (some (a.length : Int)) := by
    unfold Txt.slice
    have : Builtin.Str.strSliceIndices none (some (-4)) 1 (strOf (a ++ b)).length = Builtin.Str.strSliceIndices none (some (a.length : Int)) 1 (strOf (a ++ b)).length := by
      rw [hn]
      simp only [Builtin.Str.strSliceIndices, show (1 : Int) > 0 by decide, if_true, show ((-4 : Int) < 0) by decide, if_neg (show ¬ ((a.length : Int) < 0) by omega)]
      rw [show -4 + ((a.length + 4 : Nat) : Int) = (a.length : Int) by omega]
    rw [this]
  rw [e, beq_iff_eq.mp (slice_closes_toL (x := strOf (a ++ b)) (j := a.length) (by omega) (by rw [hn]; omega))]
  show strOf _ = _
  congr 1
  rw [show (strOf (a ++ b)).cps.toList = a ++ b from List.toList_toArray ..]
  simp
theorem slice_from3 (a b : List Nat) (hb : b.length = 3) : Txt.slice (strOf (a ++ b)) (some (-3)) none = strOf b := by
  have hn : (strOf (a ++ b)).length = a.length + 3 := by rw [strOf_len, List.length_append, hb]
  have e : Txt.slice (strOf (a ++ b)) (some (-3)) none = Txt.slice (strOf (a ++ b)) (some (a.length : Int)) none := by
    unfold Txt.slice
    have : Builtin.Str.strSliceIndices (some (-3)) none 1 (strOf (a ++ b)).length = Builtin.Str.strSliceIndices (some (a.length : Int)) none 1 (strOf (a ++ b)).length := by
      rw [hn]
      simp only [Builtin.Str.strSliceIndices, show (1 : Int) > 0 by decide, if_true, show ((-3 : Int) < 0) by decide, if_neg (show ¬ ((a.length : Int) < 0) by omega)]
      rw [show -3 + ((a.length + 3 : Nat) : Int) = (a.length : Int) by omega]
    rw [this]
  rw [e, slice_from_eq (b := ((a.length + 3 : Nat) : Int)) (by omega) (by rw [hn]; omega) (by rw [hn])]
  show strOf _ = _
  congr 1
  rw [show (strOf (a ++ b)).cps.toList = a ++ b from List.toList_toArray .., Int.toNat_natCast, List.drop_left, List.take_of_length_le (by omega)]
theorem slice_from4 (a b : List Nat) (hb : b.length = 4) : Txt.slice (strOf (a ++ b)) (some (-4)) none = strOf b := by
  have hn : (strOf (a ++ b)).length = a.length + 4 := by rw [strOf_len, List.length_append, hb]
  have e : Txt.slice (strOf (a ++ b)) (some (-4)) none = Txt.slice (strOf (a ++ b)) (some (a.length : Int)) none := by
    unfold Txt.slice
    have : Builtin.Str.strSliceIndices (some (-4)) none 1 (strOf (a ++ b)).length = Builtin.Str.strSliceIndices (some (a.length : Int)) none 1 (strOf (a ++ b)).length := by
      rw [hn]
      simp only [Builtin.Str.strSliceIndices, show (1 : Int) > 0 by decide, if_true, show ((-4 : Int) < 0) by decide, if_neg (show ¬ ((a.length : Int) < 0) by omega)]
      rw [show -4 + ((a.length + 4 : Nat) : Int) = (a.length : Int) by omega]
    rw [this]
  rw [e, slice_from_eq (b := ((a.length + 4 : Nat) : Int)) (by omega) (by rw [hn]; omega) (by rw [hn])]
  show strOf _ = _
  congr 1
  rw [show (strOf (a ++ b)).cps.toList = a ++ b from List.toList_toArray .., Int.toNat_natCast, List.drop_left, List.take_of_length_le (by omega)]
theorem idx_back (a b : List Nat) {k : Nat} {j : Nat} {c : Nat} (hk : k ≤ b.length) (hk0 : 0 < k) (hj : b.length - k = j) (hc : b[j]? = some c) : (seqIndex? (-(k : Int)) (strOf (a ++ b)).length).bind ((strOf (a ++ b)).cps[·]?) = some c := by
  have hn : (strOf (a ++ b)).length = a.length + b.length := by rw [strOf_len, List.length_append]
  have e : seqIndex? (-(k : Int)) (strOf (a ++ b)).length = some (a.length + j) := by
    unfold seqIndex?
    rw [hn, if_pos (show -(k : Int) < 0 by omega)]
    have h1 : (decide (0 ≤ -(k : Int) + ((a.length + b.length : Nat) : Int)) && decide (-(k : Int) + ((a.length + b.length : Nat) : Int) < ((a.length + b.length : Nat) : Int))) = true := by
      rw [Bool.and_eq_true]; exact ⟨decide_eq_true (by omega), decide_eq_true (by omega)⟩
    rw [if_pos h1, show -(k : Int) + ((a.length + b.length : Nat) : Int) = ((a.length + j : Nat) : Int) by rw [(Nat.sub_eq_iff_eq_add hk).mp hj]; clear h1 hn hc hj hk0; omega]
    rfl
  rw [e]
  show (a ++ b).toArray[a.length + j]? = some c
  rw [List.getElem?_toArray, List.getElem?_append_right (by omega), Nat.add_sub_cancel_left]
  exact hc
noncomputable def isMore (w : PRow) : Bool := decide (2 ≤ w.often)
noncomputable def headLess (held : List PRow) (w : PRow) : Bool := held.head?.any fun h => deeper h.lead w.lead
noncomputable def copyOf (h r : PRow) : PRow := ⟨h.bits, 1, r.p, r.plus, r.q, r.hid⟩
noncomputable def expand (held : List PRow) : List PRow := (held.head?.map fun h => (List.replicate h.often (held.map (copyOf h))).flatten).getD []
structure RS where
  held : List PRow
  out : List PRow
  done : Bool
noncomputable def rstep (s : RS) (w : PRow) : RS :=
  if headLess s.held w then (if isMore w then ⟨[w], s.out ++ s.held, s.done⟩ else ⟨s.held ++ [w], s.out, s.done⟩)
  else ⟨if isMore w then [w] else [], s.out ++ expand s.held ++ (if isMore w then [] else [w]), s.done || !s.held.isEmpty⟩
noncomputable def rend (s : RS) : RS := ⟨[], s.out ++ expand s.held, s.done || !s.held.isEmpty⟩
noncomputable def roundOf (q : List PRow) : RS := rend (q.foldl rstep ⟨[], [], false⟩)
theorem copy_ok {h r : PRow} (hh : h.Ok) (hr : r.Ok) : (copyOf h r).Ok := ⟨hh.len, Nat.le_refl 1, (by show 1 ≤ 3; decide), hr.p, hr.q⟩
theorem mem_expand {held : List PRow} {x : PRow} (hx : x ∈ expand held) : ∃ h ∈ held, ∃ r ∈ held, x = copyOf h r := by
  cases held with
  | nil => cases hx
  | cons h t =>
    obtain ⟨l, hl, hx⟩ := List.mem_flatten.mp (show x ∈ (List.replicate h.often ((h :: t).map (copyOf h))).flatten from hx)
    rw [(List.mem_replicate.mp hl).2] at hx
    obtain ⟨r, hr, rfl⟩ := List.mem_map.mp hx
    exact ⟨h, .head _, r, hr, rfl⟩
theorem expand_len {held : List PRow} (h : ∀ r ∈ held, r.Ok) : (expand held).length ≤ 3 * held.length := by
  cases held with
  | nil => exact Nat.le_refl _
  | cons x t =>
    show ((List.replicate x.often ((x :: t).map (copyOf x))).flatten).length ≤ _
    rw [List.length_flatten, List.map_replicate, List.sum_replicate_nat, List.length_map]
    exact Nat.mul_le_mul_right _ (h x (.head _)).hi
structure RInv (s : RS) (k : Nat) : Prop where
  held : ∀ r ∈ s.held, r.Ok
  out : ∀ r ∈ s.out, r.Ok
  len : s.out.length + 3 * s.held.length ≤ 3 * k
theorem RInv.step {s : RS} {k : Nat} {w : PRow} (h : RInv s k) (hw : w.Ok) : RInv (rstep s w) (k + 1) := by
  have hl := h.len
  have he := expand_len h.held
  have heo : ∀ r ∈ expand s.held, r.Ok := fun r hr => by
    obtain ⟨a, ha, b, hb, rfl⟩ := mem_expand hr
    exact copy_ok (h.held a ha) (h.held b hb)
  have one : ∀ r ∈ [w], r.Ok := fun r hr => by rw [List.mem_singleton.mp hr]; exact hw
  unfold rstep
  split
  · split
    · refine ⟨one, fun r hr => (List.mem_append.mp hr).elim (h.out r) (h.held r), ?_⟩
      show (s.out ++ s.held).length + 3 * 1 ≤ _
      rw [List.length_append]; omega
    · refine ⟨fun r hr => (List.mem_append.mp hr).elim (h.held r) (one r), h.out, ?_⟩
      show s.out.length + 3 * (s.held ++ [w]).length ≤ _
      rw [List.length_append, List.length_singleton]; omega
  · split
    · refine ⟨one, fun r hr => ?_, ?_⟩
      · rw [List.append_nil] at hr; exact (List.mem_append.mp hr).elim (h.out r) (heo r)
      · show (s.out ++ expand s.held ++ []).length + 3 * 1 ≤ _
        rw [List.append_nil, List.length_append]; omega
    · refine ⟨fun r hr => (nomatch hr), fun r hr => ?_, ?_⟩
      · rcases List.mem_append.mp hr with hr | hr
        · exact (List.mem_append.mp hr).elim (h.out r) (heo r)
        · exact one r hr
      · show (s.out ++ expand s.held ++ [w]).length + 3 * 0 ≤ _
        rw [List.length_append, List.length_append, List.length_singleton]; omega
theorem ws_word (r : PRow) : wsOf (wordOf r) = wsOf r.lead := by
  show wsGo (wordOf r).cps.toList _ = wsGo r.lead.cps.toList _
  rw [show (wordOf r).cps.toList = (r.bits.map fun b => if b then 9 else 32) ++ (48 + r.often) :: deedL r from List.toList_toArray ..,
    show r.lead.cps.toList = r.bits.map fun b => if b then 9 else 32 from List.toList_toArray ..]
  refine ws_lead _ _ (fun ch t h => ?_) _
  injection h with h _
  omega
theorem leads_mem (bits : List Bool) (h : bits.length ≤ 4) : bits ∈ leads := by
  refine List.mem_flatMap.mpr ⟨bits.length, List.mem_range.mpr (by omega), ?_⟩
  clear h
  induction bits with
  | nil => exact .head _
  | cons b l ih =>
    refine List.mem_flatMap.mpr ⟨l, ih, ?_⟩
    cases b
    · exact .head _
    · exact .tail _ (.head _)
theorem less_deeper {a b : PRow} (ha : a.Ok) (hb : b.Ok) : (wsOf (wordOf a)).less (wsOf (wordOf b)) = deeper a.lead b.lead := by
  rw [ws_word, ws_word]
  have h := List.all_eq_true.mp (List.all_eq_true.mp less_leads _ (leads_mem _ ha.len)) _ (leads_mem _ hb.len)
  exact eq_of_beq h
theorem ws_n (l : List Nat) : ∀ s : Wv, 0 ≤ s.n → 0 ≤ (wsGo l s).n := by
  induction l with
  | nil => exact fun s h => h
  | cons c l ih =>
    intro s h
    rw [wsGo_cons]
    split
    · exact ih _ (by show 0 ≤ s.n + 1; omega)
    · split
      · exact ih _ (by show 0 ≤ s.n + 1; omega)
      · exact h
theorem less_dot (w : Str) : (wsOf w).less (wsOf ".") = false := by
  have h := ws_n w.cps.toList ⟨0, 0, 0, []⟩ (Int.le_refl 0)
  unfold Wv.less
  exact if_pos h
theorem word_len {r : PRow} (hr : r.Ok) : (wordOf r).length ≤ 8 := by
  show (wordL r).toArray.size ≤ 8
  rw [List.size_toArray, wordL_len]; have := hr.len; omega
theorem wordL_all {r : PRow} (hr : r.Ok) (P : Nat → Prop) (h : ∀ c ∈ [9, 32, 49, 50, 51, 120, 121, 122, 43, 45], P c) : ∀ c ∈ wordL r, P c := by
  intro c hc
  refine h c ?_
  rcases List.mem_append.mp hc with hc | hc
  · obtain ⟨b, _, rfl⟩ := List.mem_map.mp hc
    cases b <;> decide
  · have h1 := hr.lo; have h2 := hr.hi; have h3 := hr.p; have h4 := hr.q
    simp only [deedL, List.mem_cons, List.mem_nil_iff, or_false] at hc
    have k1 : ∀ o, o ≤ 3 → 1 ≤ o → 48 + o ∈ [9, 32, 49, 50, 51, 120, 121, 122, 43, 45] := by decide
    have k2 : ∀ o, o < 3 → 120 + o ∈ [9, 32, 49, 50, 51, 120, 121, 122, 43, 45] := by decide
    rcases hc with rfl | rfl | rfl | rfl
    · exact k1 _ h2 h1
    · exact k2 _ h3
    · split <;> decide
    · exact k2 _ h4
theorem word_ascii {r : PRow} (hr : r.Ok) : (wordOf r).cps.all (· < 128) = true := ascii_of (wordL_all hr _ (by decide))
theorem word_ne (r : PRow) : wordOf r ≠ "." := fun z => by
  have := congrArg Str.length z
  rw [show (wordOf r).length = (wordL r).length from List.size_toArray .., wordL_len, show (Str.ofString ".").length = 1 from rfl] at this
  omega
theorem more_word {r : PRow} (hr : r.Ok) : (!(Builtin.Str.occurrences "23" (chr (48 + r.often)) 0 (Str.ofString "23").length 1).isEmpty) = isMore r := by
  have : ∀ o, o ≤ 3 → 1 ≤ o → (!(Builtin.Str.occurrences "23" (chr (48 + o)) 0 (Str.ofString "23").length 1).isEmpty) = decide (2 ≤ o) := by decide +kernel
  exact this _ hr.hi hr.lo
theorem digit_at (r : PRow) : (seqIndex? (-4) (wordOf r).length).bind ((wordOf r).cps[·]?) = some (48 + r.often) := idx_back (leadL r) ((48 + r.often) :: deedL r) (k := 4) (j := 0) (by show 4 ≤ 4; decide) (by decide) rfl rfl
theorem word_to4 (r : PRow) : Txt.slice (wordOf r) none (some (-4)) = strOf (leadL r) := slice_to4 _ _ rfl
theorem word_from3 (r : PRow) : Txt.slice (wordOf r) (some (-3)) none = strOf (deedL r) := by
  have : wordOf r = strOf ((leadL r ++ [48 + r.often]) ++ deedL r) := by unfold wordOf wordL; rw [List.append_assoc]; rfl
  rw [this]; exact slice_from3 _ _ rfl
theorem word_from4 (r : PRow) : Txt.slice (wordOf r) (some (-4)) none = strOf ((48 + r.often) :: deedL r) := slice_from4 _ _ rfl
theorem copy_word (h r : PRow) : strOf (leadL h) ++ ("1" ++ strOf (deedL r)) = wordOf (copyOf h r) := by
  rw [show (Str.ofString "1") = strOf [49] from rfl, strOf_app, strOf_app]; rfl
theorem digits_at : ∀ o, o ≤ 3 → (Str.ofString "0123").cps[o]? = some (48 + o) ∧ ∀ j, j < o → (Str.ofString "0123").cps[j]? ≠ some (48 + o) := by decide +kernel
theorem GlobIs.up {G : GC} {x : Str} {v : Value} {u : Nat} (h : GlobIs G x v) : GlobIs (G.up u) x v := ⟨h.1, fun σ m hp X => h.2 σ m hp X.down⟩
theorem FnIs.up {G : GC} {s : Stmt} {f : Addr} {u : Nat} (h : FnIs G s f) : FnIs (G.up u) s f :=
  ⟨let ⟨fd, F, r⟩ := h.ex; ⟨fd, ⟨F.lt, fun σ m hp X => F.here σ m hp X.down⟩, r⟩, h.keep⟩
section
variable {c : Cx} {st : St} {m m₁ : MH} {p : Pos}
theorem Ev.and_no {x y : Expr} (hc : c.Ok) (h : Ev c x st (.bool false) m) : Ev c (.BoolOp .And [x, y] p) st (.bool false) m := ⟨ev_boolop (bool_and hc (h.to (tru_bool ⟨rfl, rfl⟩)))⟩
theorem Ev.and_yes {x y : Expr} {v : MV} (hc : c.Ok) (h : Ev c x st (.bool true) m₁) (h2 : Ev c y ⟨st.vars, m₁⟩ v m) : Ev c (.BoolOp .And [x, y] p) st v m := ⟨ev_boolop (bool_and hc (h.to (tru_bool (bool_one h2.i))))⟩
end
section
variable {C : Addr} {I : LexIds} {L : Int} {pb : List MV} {rest : List Nat} {m : MH}
noncomputable def Off (I : LexIds) (j : Nat) : Prop := j ≠ I.d ∧ j ≠ I.pl ∧ j ≠ I.sl
theorem Lx.fresh (X : Lx C I L pb rest m) : Off I m.n := ⟨Nat.ne_of_gt (X.wf _ _ X.d), Nat.ne_of_gt (X.wf _ _ X.pl), Nat.ne_of_gt (X.wf _ _ X.sl)⟩
theorem LGrow.at {m' : MH} {j : Nat} {o : MO} (g : LGrow I m m') (h : Off I j) (e : m.H j = some o) : m'.H j = some o := g.keep _ _ e h.1 h.2.1 h.2.2
end
noncomputable abbrev rp (I : LexIds) (done : Bool) (held word : MV) (more under row again : Option MV) : List (Option MV) := [some (.ref I.i), some (.bool done), some held, some word, more, under, row, again, none, none, none, none, none]
theorem words_rd {m : MH} {i : Nat} {ws : List PRow} (h : m.H i = some (.list (ws.map wordV))) : Rd m (.ref i) (.list ((ws.map wordOf).map .str)) :=
  .list h (by rw [show ws.map wordV = (ws.map wordOf).map .str by rw [List.map_map]; rfl]; exact strs_rd _)
theorem words_ok {ws : List PRow} (h : ∀ r ∈ ws, r.Ok) : ∀ t ∈ ws.map wordOf, PyData.strOk t = true := fun t ht => by
  obtain ⟨r, hr, rfl⟩ := List.mem_map.mp ht
  have := word_ascii (h r hr)
  show (wordOf r).cps.all (· < 0x110000) = true
  rw [Array.all_eq_true] at this ⊢
  intro i hi
  have := of_decide_eq_true (this i hi)
  exact decide_eq_true (by omega)
section
variable {G : GC} {A : Around} {env : Env} {own : List Addr} {C Cw : Addr} {I : LexIds} {L : Int} {fl fm fa : Nat → Addr} {n : Nat} {m : MH}
noncomputable abbrev cR (G : GC) (A : Around) (env : Env) (own : List Addr) : Cx := cxM G A env own (stmtAt 20)
theorem t_held {i : Nat} {held : List PRow} {done : Bool} {word : MV} {more under row again : Option MV} {p q r : Pos} (hi : m.H i = some (.list (held.map wordV))) (hh : ∀ r ∈ held, r.Ok) (hw : WF m) (hA : Good n A) (hc : (cR G A env own).Ok) :
    Op (cR G A env own) (RV G) (ap2 (compareOp .NotEq)) [.ref i, .ref m.n] (m.alloc (.list [])) (.bool (!held.isEmpty)) (m.alloc (.list [])) ∧
    Ev (cR G A env own) (.Name (Str.ofString "held") p) ⟨rp I done (.ref i) word more under row again, m⟩ (.ref i) m ∧ Ev (cR G A env own) (.List [] q) ⟨rp I done (.ref i) word more under row again, m⟩ (.ref m.n) (m.alloc (.list [])) := by
  refine ⟨cmp_ned (words_rd (alloc_old hw hi)) (.list (alloc_new _ _) (strs_rd [])) (strs_shaped _ (words_ok hh)) (strs_shaped [] fun _ h => nomatch h) hA.eq ⟨?_, rfl⟩, ?_, ?_⟩
  · rw [strs_empty]; cases held <;> rfl
  · (apply Ev.nm (by assumption); (repeat first | with_reducible exact Slot.head | (show Slot (_ :: _) (_ :: _) _ _ _; first | with_reducible exact Slot.head | apply Slot.tail)); rfl)
  · exact Ev.list hc Evs.nil (Nat.zero_le _)
theorem ev_push {pb : List MV} {rest : List Nat} {t : MV} {e : Expr} {vars : List (Option MV)} {q ap p : Pos} (K : LxK G C fl) (X : Lx C I L pb rest m) (hl : pb.length < 890) (hA : Good (n + 1) A) (hc : (cR G A env own).Ok)
    (he : Ev (cR G A env own) e ⟨some (.ref I.i) :: vars, m⟩ t m) (hs : [e].all notStar = true) (hline : (ap.endLine == p.line) = true) :
    Ev (cR G A env own) (.Call (.Attribute (.Name (Str.ofString "lexer") q) (Str.ofString "push_token") ap) [e] [] p) ⟨some (.ref I.i) :: vars, m⟩ .none (m.set I.pl (.list (pb ++ [t]))) := by
  obtain ⟨F, hf, ht⟩ := K.meth (3, "push_token") (by decide)
  apply Ev.meth hc (ha := hs) (hl := by show 1 < 30; decide) (hline := hline)
  · exact Ev.name hc .head (.inl rfl)
  · exact meth_inst K.cls X.i X.d hf ht F.lt rfl ⟨rfl, rfl⟩
  · refine Evs.cons he Evs.nil ?_
    rw [List.all_cons, List.all_nil, Bool.and_true] at hs; exact hs
  · exact keeps_stat F.keep
  · exact (c_push K hA X hl).ht
theorem x_pushall {pb : List MV} {rest : List Nat} {i : Nat} {ws : List PRow} {done : Bool} {word : MV} {more under row again : Option MV} {q0 q1 q2 q3 q4 q5 q6 q7 : Pos} (K : LxK G C fl) (X : Lx C I L pb rest m) (hi : m.H i = some (.list (ws.map wordV))) (ho : Off I i) (hl : pb.length + ws.length < 890) (hA : Good (n + 1) A) (hc : (cR G A env own).Ok) (hline : (q4.endLine == q6.line) = true) :
    ExecTo (cR G A env own) (.For (.Name (Str.ofString "row") q0) (.Name (Str.ofString "held") q1) [.Expr (.Call (.Attribute (.Name (Str.ofString "lexer") q3) (Str.ofString "push_token") q4) [.Name (Str.ofString "row") q5] [] q6) q2] [] q7) ⟨rp I done (.ref i) word more under row again, m⟩
      fun f st' => f = .next ∧ (∃ row, st'.vars = rp I done (.ref i) word more under row again) ∧ Lx C I L (pb ++ ws.map wordV) rest st'.m ∧ LGrow I m st'.m := by
  refine FT.mono (x_for_list hc (l := i) (xs := ws.map wordV) (m := m) ?hi (fun k st => (∃ row, st.vars = rp I done (.ref i) word more under row again) ∧ Lx C I L (pb ++ (ws.map wordV).take k) rest st.m ∧ LGrow I m st.m) (fun k st h => h.2.2.at ho hi) ?h0 ?step) ?fin
  case hi => (apply Ev.nm (by assumption); (repeat first | with_reducible exact Slot.head | (show Slot (_ :: _) (_ :: _) _ _ _; first | with_reducible exact Slot.head | apply Slot.tail)); rfl)
  case h0 => exact ⟨⟨_, rfl⟩, by rw [List.take_zero, List.append_nil]; exact X, .refl⟩
  case step =>
    rintro k x ⟨vars, m₁⟩ hx ⟨⟨row, hv⟩, X1, g⟩
    dsimp only at hv X1 g
    subst hv
    have hk : k < ws.length := by have := (List.getElem?_eq_some_iff.mp hx).1; rwa [List.length_map] at this
    refine asg_name hc ⟨_, by (focus repeat first | with_reducible exact Put.headL | with_reducible exact Put.headC | (show Put (_ :: _) (_ :: _) _ _ _; first | with_reducible exact Put.headL | with_reducible exact Put.headC | apply Put.tail)), ?_⟩
    refine xs_cons (Ex.to (Ex.expr hc (ev_push K X1 (by rw [List.length_append, List.length_take, List.length_map]; omega) hA hc (by (apply Ev.nm (by assumption); (repeat first | with_reducible exact Slot.head | (show Slot (_ :: _) (_ :: _) _ _ _; first | with_reducible exact Slot.head | apply Slot.tail)); rfl)) rfl hline)) (xs_nil ⟨.inl rfl, ⟨_, rfl⟩, ?_, g.set (.inr (.inl rfl))⟩))
    rw [List.take_add_one, hx, ← List.append_assoc]
    exact X1.push
  case fin =>
    rintro f st' ⟨rfl, h1, h2, h3⟩
    rw [List.take_length] at h2
    exact ⟨rfl, h1, h2, h3⟩
end
noncomputable def WB : List Stmt := innerOf (nthOf (bodyOf (stmtAt 20)) 4)
section
variable {G : GC} {A : Around} {env : Env} {own : List Addr} {C Cw : Addr} {I : LexIds} {L : Int} {fl fm fa : Nat → Addr} {n : Nat} {m : MH} {done : Bool} {held : MV} {word : MV} {more under row again : Option MV}
theorem x_more {r : PRow} (Fa : Facts G fa) (hr : r.Ok) (hA : Good (n + 1) A) (hc : (cR G A env own).Ok) :
    Ex (cR G A env own) (nthOf WB 1) ⟨rp I done held (wordV r) more under row again, m⟩ .next ⟨rp I done held (wordV r) (some (.bool (isMore r))) under row again, m⟩ := by
  have hcn : GlobIs G "contains" (.ref (fa 9)) := Fa.def_ (9, "contains") (by decide)
  apply Ex.set hc
  · apply Ev.and_yes (m₁ := m) hc
    · apply Ev.cmp hc
      · (apply Ev.nm (by assumption); (repeat first | with_reducible exact Slot.head | (show Slot (_ :: _) (_ :: _) _ _ _; first | with_reducible exact Slot.head | apply Slot.tail)); rfl)
      · exact Ev.str
      · exact cmp_nes ⟨by rw [bne_iff_ne.mpr (word_ne r)], rfl⟩
    · apply Ev.call hc
      · (apply Ev.glob (by assumption); (focus repeat first | with_reducible exact Glob.head | (show Glob (_ :: _) _; first | with_reducible exact Glob.head | apply Glob.tail)); assumption)
      · apply Evs.cons
        · exact Ev.str
        · apply Evs.cons (a := .str (chr (48 + r.often))) (m₁ := m)
          · apply Ev.sub (b := .int (-4)) hc
            · (apply Ev.nm (by assumption); (repeat first | with_reducible exact Slot.head | (show Slot (_ :: _) (_ :: _) _ _ _; first | with_reducible exact Slot.head | apply Slot.tail)); rfl)
            · apply Ev.un hc
              · exact Ev.int
              · exact un_neg ⟨rfl, rfl⟩
            · exact fun value slice hs => idx_str hs ⟨by decide, by decide⟩ (digit_at r) ⟨rfl, rfl⟩
          · exact Evs.nil
        · rfl
      · exact keeps_stat (Fa.fn 9 (by decide)).keep
      · refine HT.mono (c_contains hA (Fa.fn 9 (by decide))).ht fun y m' h => ?_
        rw [more_word hr] at h
        exact h
  · (focus repeat first | with_reducible exact Put.headL | with_reducible exact Put.headC | (show Put (_ :: _) (_ :: _) _ _ _; first | with_reducible exact Put.headL | with_reducible exact Put.headC | apply Put.tail))
theorem x_more_dot (hc : (cR G A env own).Ok) :
    Ex (cR G A env own) (nthOf WB 1) ⟨rp I done held (.str ".") more under row again, m⟩ .next ⟨rp I done held (.str ".") (some (.bool false)) under row again, m⟩ := by
  apply Ex.set hc
  · apply Ev.and_no hc
    · apply Ev.cmp hc
      · (apply Ev.nm (by assumption); (repeat first | with_reducible exact Slot.head | (show Slot (_ :: _) (_ :: _) _ _ _; first | with_reducible exact Slot.head | apply Slot.tail)); rfl)
      · exact Ev.str
      · exact cmp_nes ⟨by rfl, rfl⟩
  · (focus repeat first | with_reducible exact Put.headL | with_reducible exact Put.headC | (show Put (_ :: _) (_ :: _) _ _ _; first | with_reducible exact Put.headL | with_reducible exact Put.headC | apply Put.tail))
theorem ws_less {v : MV} {s : Wv} (W : WsK G Cw fm) (hv : IsWs Cw m v s) : ∀ pl, HT G A (RM G) (ap1 fun v => getMethod v "less" pl) [v] m fun y m' => y = (.st (.ref (fm 6)), [v]) ∧ m' = m := by
  obtain ⟨F, hf, ht⟩ := W.meth (6, "less") (by decide)
  obtain ⟨i, d, nm, ct, raw, rfl, hi, hd, _, _⟩ := hv
  exact meth_inst W.cls hi hd hf ht F.lt rfl ⟨rfl, rfl⟩
theorem ws_sizes {w : Str} (h : w.length ≤ 8) : (wsOf w).count.length ≤ 1000 ∧ (wsOf w).b ≤ 1000 := by
  have := ws_bound w.cps.toList ⟨0, 0, 0, []⟩ 0 (Nat.le_refl _) (Nat.le_refl _)
  have e : w.cps.toList.length = w.length := Array.length_toList
  rw [e] at this
  show (wsGo _ _).count.length ≤ _ ∧ (wsGo _ _).b ≤ _
  omega
theorem x_under {i : Nat} {hs : List PRow} {w : Str} (W : WsK G Cw fm) (Fa : Facts G fa) (hi : m.H i = some (.list (hs.map wordV))) (hh : ∀ r ∈ hs, r.Ok) (hwa : w.cps.all (· < 128) = true) (hwl : w.length ≤ 8) (hw : WF m) (hA : Good (n + 1 + 1) A) (hc : (cR G A env own).Ok) :
    ExecTo (cR G A env own) (nthOf WB 2) ⟨rp I done (.ref i) (.str w) more under row again, m⟩ fun f st' => f = .next ∧ st'.vars = rp I done (.ref i) (.str w) more (some (.bool (hs.head?.any fun h => (wsOf (wordOf h)).less (wsOf w)))) row again ∧ Grow m st'.m := by
  have hWg : GlobIs G "Whitespace" (.ref Cw) := W.glob
  have t := t_held (I := I) (env := env) (own := own) (done := done) (word := .str w) (more := more) (under := under) (row := row) (again := again) (p := ⟨199, 16, 199, 20⟩) (q := ⟨199, 24, 199, 26⟩) (r := default) hi hh hw hA hc
  have g1 : Grow m (m.alloc (.list [])) := .alloc hw _
  have hi1 := g1.keep _ _ hi
  have hm : Op (cR G A env own) (RV G) (ap2 (compareOp .NotEq)) [.ref i, .ref m.n] (m.alloc (.list [])) (.bool (!hs.isEmpty)) (m.alloc (.list [])) := t.1
  refine x_assign hc (ev_boolop (bool_and hc (Ev.to (v := .bool (!hs.isEmpty)) (m := m.alloc (.list [])) ?_ (tru_bool ?_))))
  · apply Ev.cmp (m₁ := m) (m₂ := m.alloc (.list [])) hc
    · (apply Ev.nm (by assumption); (repeat first | with_reducible exact Slot.head | (show Slot (_ :: _) (_ :: _) _ _ _; first | with_reducible exact Slot.head | apply Slot.tail)); rfl)
    · exact Ev.list hc Evs.nil (Nat.zero_le _)
    · exact hm
  generalize m.alloc (.list []) = m₁ at g1 hi1 ⊢
  cases hs with
  | nil =>
    refine ⟨_, by (focus repeat first | with_reducible exact Put.headL | with_reducible exact Put.headC | (show Put (_ :: _) (_ :: _) _ _ _; first | with_reducible exact Put.headL | with_reducible exact Put.headC | apply Put.tail)), ?_⟩
    exact ⟨rfl, rfl, g1⟩
  | cons h hs =>
    refine bool_one ?_
    have hh0 := hh h (.head _)
    refine ev_meth hc (ev_call hc (Ev.to (v := .st (.ref Cw)) (m := m₁) (by (apply Ev.glob (by assumption); (focus repeat first | with_reducible exact Glob.head | (show Glob (_ :: _) _; first | with_reducible exact Glob.head | apply Glob.tail)); assumption)) (args_cons (Ev.to (v := wordV h) (m := m₁) ?_ (args_nil ⟨keeps_stat W.keep, ?_⟩)))))
    · apply Ev.sub hc
      · (apply Ev.nm (by assumption); (repeat first | with_reducible exact Slot.head | (show Slot (_ :: _) (_ :: _) _ _ _; first | with_reducible exact Slot.head | apply Slot.tail)); rfl)
      · exact Ev.int
      · exact fun value slice hsl => idx_list hsl hi1 (by decide) rfl (by decide) ⟨rfl, rfl⟩
    refine HT.mono (c_ws (n := n) W Fa g1.wf (word_ascii hh0) (Nat.lt_of_le_of_lt (word_len hh0) (by decide)) hA).ht ?_
    rintro y m₂ ⟨g2, hy⟩
    refine fun pl => HT.mono (ws_less W hy pl) ?_
    rintro _ _ ⟨rfl, rfl⟩
    refine args_cons (ev_call hc (Ev.to (v := .st (.ref Cw)) (by (apply Ev.glob (by assumption); (focus repeat first | with_reducible exact Glob.head | (show Glob (_ :: _) _; first | with_reducible exact Glob.head | apply Glob.tail)); assumption)) (args_cons (Ev.to (v := .str w) (by (apply Ev.nm (by assumption); (repeat first | with_reducible exact Slot.head | (show Slot (_ :: _) (_ :: _) _ _ _; first | with_reducible exact Slot.head | apply Slot.tail)); rfl)) (args_nil ⟨keeps_stat W.keep, ?_⟩)))))
    refine HT.mono (c_ws (n := n) W Fa g2.wf hwa (Nat.lt_of_le_of_lt hwl (by decide)) hA).ht ?_
    rintro z m₃ ⟨g3, hz⟩
    refine args_nil ⟨keeps_stat (W.meth (6, "less") (by decide)).1.keep, ?_⟩
    have s1 := ws_sizes (word_len hh0)
    have s2 := ws_sizes hwl
    refine HT.mono (c_less (n := n) W Fa (hy.grow g3) hz s1.1 s2.1 s1.2 s2.2 hA).ht ?_
    rintro _ _ ⟨rfl, rfl⟩
    refine ⟨_, by (focus repeat first | with_reducible exact Put.headL | with_reducible exact Put.headC | (show Put (_ :: _) (_ :: _) _ _ _; first | with_reducible exact Put.headL | with_reducible exact Put.headC | apply Put.tail)), ?_⟩
    exact ⟨rfl, rfl, g1.trans (g2.trans g3)⟩
end
noncomputable def FE : Stmt := nthOf (innerOf (nthOf (elseIf (nthOf WB 4)) 0)) 1
section
variable {G : GC} {A : Around} {env : Env} {own : List Addr} {C Cw : Addr} {I : LexIds} {L : Int} {fl fm fa : Nat → Addr} {n : Nat} {m : MH} {done : Bool} {word : MV} {more under row again : Option MV}
theorem ev_copy {i : Nat} {h r : PRow} {hs : List PRow} (Fa : Facts G fa) (hi : m.H i = some (.list ((h :: hs).map wordV))) (hh : h.Ok) (hr : r.Ok) (hA : Good (n + 1) A) (hc : (cR G A env own).Ok) {p1 p2 p3 p4 p5 p6 p7 p8 q1 q2 q3 q4 q5 q6 q7 q8 : Pos} {k1 k2 k3 k4 : Nat} :
    Ev (cR G A env own) (.Call (.Name (Str.ofString "concat") p1) [.Subscript (.Subscript (.Name (Str.ofString "held") p2) (.Constant (.int 0) k1 p3) p4) (.Slice none (some (.UnaryOp .USub (.Constant (.int 4) k2 p5) p6)) none p7) p8, .BinOp (.Constant (.str "1") k3 q1) .Add (.Subscript (.Name (Str.ofString "row") q2) (.Slice (some (.UnaryOp .USub (.Constant (.int 3) k4 q3) q4)) none none q5) q6) q7] [] q8)
      ⟨rp I done (.ref i) word more under (some (wordV r)) again, m⟩ (wordV (copyOf h r)) m := by
  have hcc : GlobIs G "concat" (.ref (fa 8)) := Fa.def_ (8, "concat") (by decide)
  have hsz := sizeLine_big
  have l1 := word_len hh
  have l2 := word_len hr
  have hd : (strOf (deedL r)).length = 3 := by rw [strOf_len]; rfl
  have hld : (strOf (leadL h)).length ≤ 4 := by rw [strOf_len]; unfold leadL; rw [List.length_map]; exact hh.len
  apply Ev.call (as := [.str (strOf (leadL h)), .str ("1" ++ strOf (deedL r))]) (m₂ := m) hc
  · (apply Ev.glob (by assumption); (focus repeat first | with_reducible exact Glob.head | (show Glob (_ :: _) _; first | with_reducible exact Glob.head | apply Glob.tail)); assumption)
  · apply Evs.cons (m₁ := m)
    · refine Ev.slice (ov := wordV h) (m₁ := m) (m₂ := m) (m₃ := m) (m₄ := m) (lo := none) (hi := some (-4)) (sp := none) hc ?_ Pt.none (Pt.some ?_) Pt.none ?_ fun _ _ => rfl
      · apply Ev.sub hc
        · (apply Ev.nm (by assumption); (repeat first | with_reducible exact Slot.head | (show Slot (_ :: _) (_ :: _) _ _ _; first | with_reducible exact Slot.head | apply Slot.tail)); rfl)
        · exact Ev.int
        · exact fun value slice hsl => idx_list hsl hi (by decide) rfl (by decide) ⟨rfl, rfl⟩
      · apply Ev.un hc
        · exact Ev.int
        · exact un_neg ⟨rfl, rfl⟩
      · exact slice_str (by omega) ⟨by rw [word_to4], rfl⟩
    · apply Evs.cons (m₁ := m)
      · apply Ev.bin (b := .str (strOf (deedL r))) (m₁ := m) (m₂ := m) hc
        · exact Ev.str
        · refine Ev.slice (ov := wordV r) (m₁ := m) (m₂ := m) (m₃ := m) (m₄ := m) (lo := some (-3)) (hi := none) (sp := none) hc ?_ (Pt.some ?_) Pt.none Pt.none ?_ fun _ _ => rfl
          · (apply Ev.nm (by assumption); (repeat first | with_reducible exact Slot.head | (show Slot (_ :: _) (_ :: _) _ _ _; first | with_reducible exact Slot.head | apply Slot.tail)); rfl)
          · apply Ev.un hc
            · exact Ev.int
            · exact un_neg ⟨rfl, rfl⟩
          · exact slice_str (by omega) ⟨by rw [word_from3], rfl⟩
        · exact bin_str (by rw [hd, show (Str.ofString "1").length = 1 from rfl]; omega) ⟨rfl, rfl⟩
      · exact Evs.nil
  · exact keeps_stat (Fa.fn 8 (by decide)).keep
  · refine HT.mono (c_concat Fa ?_ hA).ht fun y m' z => ?_
    · have e : ("1" ++ strOf (deedL r) : Str) = strOf [49] ++ strOf (deedL r) := rfl
      rw [e, strOf_app, strOf_len]
      rw [strOf_len] at hld
      show (strOf (leadL h)).length + 4 ≤ 1000
      rw [strOf_len]
      omega
    · rw [copy_word] at z; exact z
theorem x_expand {pb : List MV} {rest : List Nat} {i : Nat} {h : PRow} {hs : List PRow} (K : LxK G C fl) (Fa : Facts G fa) (X : Lx C I L pb rest m) (hi : m.H i = some (.list ((h :: hs).map wordV))) (hok : ∀ r ∈ h :: hs, r.Ok) (ho : Off I i) (hl : pb.length + 3 * (h :: hs).length < 890) (hA : Good (n + 1) A) (hc : (cR G A env own).Ok) :
    ExecTo (cR G A env own) FE ⟨rp I done (.ref i) word more under row again, m⟩
      fun f st' => f = .next ∧ (∃ row again, st'.vars = rp I done (.ref i) word more under row again) ∧ Lx C I L (pb ++ (expand (h :: hs)).map wordV) rest st'.m ∧ LGrow I m st'.m := by
  have hrange : GlobIs G "range" (.type "range") := Fa.ty "range" (by decide)
  have hix : GlobIs G "indexOf" (.ref (fa 11)) := Fa.def_ (11, "indexOf") (by decide)
  have henum : GlobIs G "enumerate" (.type "enumerate") := Fa.ty "enumerate" (by decide)
  have hh := hok h (.head _)
  have hcl : ((h :: hs).map (copyOf h)).length = (h :: hs).length := by rw [List.length_map]
  have hdg := digits_at h.often hh.hi
  refine x_for hc (ie_range1 hc (ev_glob hc (by (focus repeat first | with_reducible exact Glob.head | (show Glob (_ :: _) _; first | with_reducible exact Glob.head | apply Glob.tail))) hrange ⟨rfl, ev_call_tk hc (ev_glob hc (by (focus repeat first | with_reducible exact Glob.head | (show Glob (_ :: _) _; first | with_reducible exact Glob.head | apply Glob.tail))) hix (Ev.to Ev.str (Ev.to (v := wordV h) (m := m) ?_ (Ev.to (v := .int (-4)) (m := m) ?_ ⟨wordOf h, -4, 48 + h.often, rfl, rfl, by decide, by decide, digit_at h, keeps_stat (Fa.fn 11 (by decide)).keep, fun u hu => ?_⟩))))⟩))
  · apply Ev.sub hc
    · (apply Ev.nm (by assumption); (repeat first | with_reducible exact Slot.head | (show Slot (_ :: _) (_ :: _) _ _ _; first | with_reducible exact Slot.head | apply Slot.tail)); rfl)
    · exact Ev.int
    · exact fun value slice hsl => idx_list hsl hi (by decide) rfl (by decide) ⟨rfl, rfl⟩
  · apply Ev.un hc
    · exact Ev.int
    · exact un_neg ⟨rfl, rfl⟩
  refine CT.mono (c_indexOf (G := G.up u) (n := n) Fa.nb henum.up (by decide +kernel) (Nat.ne_of_gt hu) (Nat.le_refl _) hdg.1 hdg.2 hA (Fa.fn 11 (by decide)).up X.wf) ?_
  rintro y m₁ ⟨rfl, g1⟩
  have hlo := hh.hi
  refine ⟨_, rfl, by omega, by omega, (fun z => nomatch z), h.often + 1, ?_⟩
  have X1 := X.grow g1
  have hi1 := g1.keep _ _ hi
  rw [Int.toNat_natCast]
  refine ForN.mono (for_range (fun k st => (∃ row again, st.vars = rp I done (.ref i) word more under row again) ∧ Lx C I L (pb ++ ((List.replicate k ((h :: hs).map (copyOf h))).flatten).map wordV) rest st.m ∧ LGrow I m₁ st.m) ⟨⟨_, _, rfl⟩, by rw [List.replicate_zero, List.flatten_nil, List.map_nil, List.append_nil]; exact X1, .refl⟩ ?step) ?fin
  case fin =>
    rintro f st' ⟨rfl, hv, X2, g2⟩
    exact ⟨rfl, hv, X2, g1.lg.trans g2⟩
  case step =>
    rintro k ⟨vars, m₂⟩ hk ⟨⟨row, again, hv⟩, X2, g2⟩
    dsimp only at hv X2 g2
    subst hv
    have hlen : (((List.replicate k ((h :: hs).map (copyOf h))).flatten).map wordV).length = k * (h :: hs).length := by
      rw [List.length_map, List.length_flatten, List.map_replicate, List.sum_replicate_nat, hcl]
    have hk3 : (k + 1) * (h :: hs).length ≤ 3 * (h :: hs).length := Nat.mul_le_mul_right _ (by omega)
    rw [Nat.succ_mul] at hk3
    refine asg_name hc ⟨_, by (focus repeat first | with_reducible exact Put.headL | with_reducible exact Put.headC | (show Put (_ :: _) (_ :: _) _ _ _; first | with_reducible exact Put.headL | with_reducible exact Put.headC | apply Put.tail)), ?_⟩
    refine xs_cons (FT.mono (x_for_list hc (l := i) (xs := (h :: hs).map wordV) (m := m₂) ?hi (fun j st => (∃ row, st.vars = rp I done (.ref i) word more under row (some (.int (0 + k)))) ∧ Lx C I L (pb ++ ((List.replicate k ((h :: hs).map (copyOf h))).flatten).map wordV ++ (((h :: hs).map (copyOf h)).map wordV).take j) rest st.m ∧ LGrow I m₂ st.m)
      (fun j st z => z.2.2.at ho (g2.at ho hi1)) ?h0 ?istep) ?ifin)
    case hi => (apply Ev.nm (by assumption); (repeat first | with_reducible exact Slot.head | (show Slot (_ :: _) (_ :: _) _ _ _; first | with_reducible exact Slot.head | apply Slot.tail)); rfl)
    case h0 => exact ⟨⟨_, rfl⟩, by rw [List.take_zero, List.append_nil]; exact X2, .refl⟩
    case istep =>
      rintro j x ⟨vars, m₃⟩ hx ⟨⟨row, hv⟩, X3, g3⟩
      dsimp only at hv X3 g3
      subst hv
      have hj : j < (h :: hs).length := by have := (List.getElem?_eq_some_iff.mp hx).1; rwa [List.length_map] at this
      have hp := List.getElem?_eq_getElem hj
      rw [List.getElem?_map, hp] at hx
      cases hx
      have hr := hok _ (List.getElem_mem hj)
      refine asg_name hc ⟨_, by (focus repeat first | with_reducible exact Put.headL | with_reducible exact Put.headC | (show Put (_ :: _) (_ :: _) _ _ _; first | with_reducible exact Put.headL | with_reducible exact Put.headC | apply Put.tail)), ?_⟩
      refine xs_cons (Ex.to (Ex.expr hc (ev_push K X3 ?_ hA hc (ev_copy Fa (g3.at ho (g2.at ho hi1)) hh hr hA hc) rfl rfl)) (xs_nil ⟨.inl rfl, ⟨_, rfl⟩, ?_, g3.set (.inr (.inl rfl))⟩))
      · rw [List.length_append, List.length_append, hlen, List.length_take, List.length_map, hcl]; omega
      · have e : (((h :: hs).map (copyOf h)).map wordV)[j]? = some (wordV (copyOf h (h :: hs)[j])) := by rw [List.getElem?_map, List.getElem?_map, hp]; rfl
        rw [List.take_add_one, e, ← List.append_assoc]
        exact X3.push
    case ifin =>
      rintro f ⟨vars, m₃⟩ ⟨rfl, ⟨row, hv⟩, X3, g3⟩
      dsimp only at hv X3 g3
      subst hv
      refine xs_nil ⟨.inl rfl, ⟨_, _, rfl⟩, ?_, g2.trans g3⟩
      rw [show ((h :: hs).map wordV).length = (((h :: hs).map (copyOf h)).map wordV).length by rw [List.length_map, List.length_map, List.length_map], List.take_length, List.append_assoc, ← List.map_append] at X3
      rw [List.replicate_succ', List.flatten_append, List.flatten_singleton]
      exact X3
end
section
variable {C : Addr} {I : LexIds} {L : Int} {pb : List MV} {rest : List Nat} {m : MH}
theorem Lx.offl {xs : List MV} {o : MO} {j : Nat} (X : Lx C I L pb rest m) (h : m.H j = some (.list xs)) (ho : Off I j) : Lx C I L pb rest (m.set j o) := by
  obtain ⟨fs, h1, h2⟩ := X.wd
  refine ⟨?_, ?_, ?_, ?_, ⟨fs, ?_, h2⟩, ?_, ?_, ?_, ?_, set_wf X.wf (X.wf _ _ h), X.ne1, X.ne2, X.isl, X.ioc, X.chars⟩
  · rw [set_off (kinds_ne X.i h (fun z => nomatch z))]; exact X.i
  · rw [set_off ho.1.symm]; exact X.d
  · rw [set_off ho.2.1.symm]; exact X.pl
  · rw [set_off (kinds_ne X.wi h (fun z => nomatch z))]; exact X.wi
  · rw [set_off (kinds_ne h1 h (fun z => nomatch z))]; exact h1
  · rw [set_off (kinds_ne X.lam h (fun z => nomatch z))]; exact X.lam
  · rw [set_off (kinds_ne X.cc h (fun z => nomatch z))]; exact X.cc
  · rw [set_off (kinds_ne X.kk h (fun z => nomatch z))]; exact X.kk
  · rw [set_off ho.2.2.symm]; exact X.sl
end
section
variable {G : GC} {A : Around} {env : Env} {own : List Addr} {C Cw : Addr} {I : LexIds} {L : Int} {fl fm fa : Nat → Addr} {n : Nat} {m : MH} {done : Bool} {held word : MV} {more under row again : Option MV}
theorem x_word {rest : List Nat} {t : MV} {ts : List MV} (K : LxK G C fl) (X : Lx C I L (t :: ts) rest m) (hl : ts.length < 890) (hA : Good (n + 1) A) (hc : (cR G A env own).Ok) :
    Ex (cR G A env own) (nthOf WB 0) ⟨rp I done held word more under row again, m⟩ .next ⟨rp I done held t more under row again, m.set I.pl (.list ts)⟩ := by
  obtain ⟨F, hf, ht⟩ := K.meth (2, "get_token") (by decide)
  apply Ex.set hc
  · apply Ev.meth0 hc
    · (apply Ev.nm (by assumption); (repeat first | with_reducible exact Slot.head | (show Slot (_ :: _) (_ :: _) _ _ _; first | with_reducible exact Slot.head | apply Slot.tail)); rfl)
    · exact meth_inst K.cls X.i X.d hf ht F.lt rfl ⟨rfl, rfl⟩
    · exact keeps_stat F.keep
    · exact (c_get_pb K hA X hl).ht
  · (focus repeat first | with_reducible exact Put.headL | with_reducible exact Put.headC | (show Put (_ :: _) (_ :: _) _ _ _; first | with_reducible exact Put.headL | with_reducible exact Put.headC | apply Put.tail))
theorem t_append {b mo : Bool} (hc : (cR G A env own).Ok) : Te (cR G A env own) (testOf (nthOf WB 3)) ⟨rp I done held word (some (.bool mo)) (some (.bool b)) row again, m⟩ (b && !mo) m := by
  cases b with
  | false =>
    apply Te.and_no
    apply Te.val hc
    · (apply Ev.nm (by assumption); (repeat first | with_reducible exact Slot.head | (show Slot (_ :: _) (_ :: _) _ _ _; first | with_reducible exact Slot.head | apply Slot.tail)); rfl)
    · exact tru_bool ⟨rfl, rfl⟩
  | true =>
    apply Te.and_yes
    · apply Te.val hc
      · (apply Ev.nm (by assumption); (repeat first | with_reducible exact Slot.head | (show Slot (_ :: _) (_ :: _) _ _ _; first | with_reducible exact Slot.head | apply Slot.tail)); rfl)
      · exact tru_bool ⟨rfl, rfl⟩
    · apply Te.not
      apply Te.val hc
      · (apply Ev.nm (by assumption); (repeat first | with_reducible exact Slot.head | (show Slot (_ :: _) (_ :: _) _ _ _; first | with_reducible exact Slot.head | apply Slot.tail)); rfl)
      · exact tru_bool ⟨rfl, rfl⟩
theorem t_both {i : Nat} {hs : List PRow} {b : Bool} (hi : m.H i = some (.list (hs.map wordV))) (hh : ∀ r ∈ hs, r.Ok) (hw : WF m) (hA : Good n A) (hc : (cR G A env own).Ok) :
    Te (cR G A env own) (testOf (nthOf WB 4)) ⟨rp I done (.ref i) word more (some (.bool b)) row again, m⟩ (!hs.isEmpty && b) (m.alloc (.list [])) := by
  have hm := (t_held (I := I) (env := env) (own := own) (done := done) (word := word) (more := more) (under := some (.bool b)) (row := row) (again := again) (p := default) (q := default) (r := default) hi hh hw hA hc).1
  cases hs with
  | nil =>
    apply Te.and_no
    apply Te.cmp (m₁ := m) (m₂ := m.alloc (.list [])) hc
    · (apply Ev.nm (by assumption); (repeat first | with_reducible exact Slot.head | (show Slot (_ :: _) (_ :: _) _ _ _; first | with_reducible exact Slot.head | apply Slot.tail)); rfl)
    · exact Ev.list hc Evs.nil (Nat.zero_le _)
    · exact hm
  | cons h hs =>
    apply Te.and_yes (m₁ := m.alloc (.list []))
    · apply Te.cmp (m₁ := m) (m₂ := m.alloc (.list [])) hc
      · (apply Ev.nm (by assumption); (repeat first | with_reducible exact Slot.head | (show Slot (_ :: _) (_ :: _) _ _ _; first | with_reducible exact Slot.head | apply Slot.tail)); rfl)
      · exact Ev.list hc Evs.nil (Nat.zero_le _)
      · exact hm
    · apply Te.val hc
      · (apply Ev.nm (by assumption); (repeat first | with_reducible exact Slot.head | (show Slot (_ :: _) (_ :: _) _ _ _; first | with_reducible exact Slot.head | apply Slot.tail)); rfl)
      · exact tru_bool ⟨rfl, rfl⟩
theorem t_elif {i : Nat} {hs : List PRow} (hi : m.H i = some (.list (hs.map wordV))) (hh : ∀ r ∈ hs, r.Ok) (hw : WF m) (hA : Good n A) (hc : (cR G A env own).Ok) :
    Te (cR G A env own) (testOf (nthOf (elseIf (nthOf WB 4)) 0)) ⟨rp I done (.ref i) word more under row again, m⟩ (!hs.isEmpty) (m.alloc (.list [])) := by
  have hm := (t_held (I := I) (env := env) (own := own) (done := done) (word := word) (more := more) (under := under) (row := row) (again := again) (p := default) (q := default) (r := default) hi hh hw hA hc).1
  apply Te.cmp (m₁ := m) (m₂ := m.alloc (.list [])) hc
  · (apply Ev.nm (by assumption); (repeat first | with_reducible exact Slot.head | (show Slot (_ :: _) (_ :: _) _ _ _; first | with_reducible exact Slot.head | apply Slot.tail)); rfl)
  · exact Ev.list hc Evs.nil (Nat.zero_le _)
  · exact hm
theorem x_off {pb : List MV} {rest : List Nat} {i : Nat} {hs : List PRow} (K : LxK G C fl) (Fa : Facts G fa) (X : Lx C I L pb rest m) (hi : m.H i = some (.list (hs.map wordV))) (hok : ∀ r ∈ hs, r.Ok) (ho : Off I i) (hl : pb.length + 3 * hs.length < 890) (hA : Good (n + 1) A) (hc : (cR G A env own).Ok) :
    ExecTo (cR G A env own) (nthOf WB 4) ⟨rp I done (.ref i) word more (some (.bool false)) row again, m⟩
      fun f st' => f = .next ∧ (∃ row again, st'.vars = rp I (done || !hs.isEmpty) (.ref i) word more (some (.bool false)) row again) ∧ Lx C I L (pb ++ (expand hs).map wordV) rest st'.m ∧ LGrow I m st'.m := by
  refine x_if (Te.to (t_both hi hok X.wf hA hc) ?_)
  rw [Bool.and_false, if_neg Bool.false_ne_true]
  have g1 : Grow m (m.alloc (.list [])) := .alloc X.wf _
  dsimp only
  generalize m.alloc (.list []) = m₁ at g1 ⊢
  have X1 := X.grow g1
  have hi1 := g1.keep _ _ hi
  refine xs_cons (x_if (Te.to (t_elif hi1 hok X1.wf hA hc) ?_))
  have g2 : Grow m₁ (m₁.alloc (.list [])) := .alloc X1.wf _
  dsimp only
  generalize m₁.alloc (.list []) = m₂ at g2 ⊢
  have X2 := X1.grow g2
  have hi2 := g2.keep _ _ hi1
  have gg : LGrow I m m₂ := (g1.trans g2).lg
  cases hs with
  | nil =>
    rw [if_neg (by decide)]
    refine xs_nil (xs_nil ⟨rfl, ⟨row, again, ?_⟩, ?_, gg⟩)
    · rw [show (done || !([] : List PRow).isEmpty) = done by cases done <;> rfl]
    · rw [show (expand []).map wordV = [] from rfl, List.append_nil]; exact X2
  | cons h hs =>
    rw [if_pos (by rfl)]
    refine xs_cons (Ex.to (f := .next) (st' := ⟨rp I true (.ref i) word more (some (.bool false)) row again, m₂⟩) ?_ ?_)
    · apply Ex.set hc
      · exact Ev.bool
      · (focus repeat first | with_reducible exact Put.headL | with_reducible exact Put.headC | (show Put (_ :: _) (_ :: _) _ _ _; first | with_reducible exact Put.headL | with_reducible exact Put.headC | apply Put.tail))
    dsimp only
    refine xs_cons (FT.mono (x_expand K Fa X2 hi2 hok ho hl hA hc) ?_)
    rintro f st' ⟨rfl, hv, X3, g3⟩
    refine xs_nil (xs_nil ⟨rfl, ?_, X3, gg.trans g3⟩)
    rw [show (done || !(h :: hs).isEmpty) = true by cases done <;> rfl]
    exact hv
theorem x_next {mo : Bool} {hd : MV} (hc : (cR G A env own).Ok) :
    Ex (cR G A env own) (nthOf WB 5) ⟨rp I done hd word (some (.bool mo)) under row again, m⟩ .next ⟨rp I done (.ref m.n) word (some (.bool mo)) under row again, m.alloc (.list (if mo then [word] else []))⟩ := by
  cases mo with
  | true =>
    apply Ex.set hc
    · apply Ev.ife (z := true) (m₁ := m)
      · apply Te.val hc
        · (apply Ev.nm (by assumption); (repeat first | with_reducible exact Slot.head | (show Slot (_ :: _) (_ :: _) _ _ _; first | with_reducible exact Slot.head | apply Slot.tail)); rfl)
        · exact tru_bool ⟨rfl, rfl⟩
      · rw [if_pos rfl]
        apply Ev.list hc
        · apply Evs.cons
          · (apply Ev.nm (by assumption); (repeat first | with_reducible exact Slot.head | (show Slot (_ :: _) (_ :: _) _ _ _; first | with_reducible exact Slot.head | apply Slot.tail)); rfl)
          · exact Evs.nil
          · rfl
        · show 1 ≤ 1000; decide
    · (focus repeat first | with_reducible exact Put.headL | with_reducible exact Put.headC | (show Put (_ :: _) (_ :: _) _ _ _; first | with_reducible exact Put.headL | with_reducible exact Put.headC | apply Put.tail))
  | false =>
    apply Ex.set hc
    · apply Ev.ife (z := false) (m₁ := m)
      · apply Te.val hc
        · (apply Ev.nm (by assumption); (repeat first | with_reducible exact Slot.head | (show Slot (_ :: _) (_ :: _) _ _ _; first | with_reducible exact Slot.head | apply Slot.tail)); rfl)
        · exact tru_bool ⟨rfl, rfl⟩
      · rw [if_neg Bool.false_ne_true]
        exact Ev.list hc Evs.nil (Nat.zero_le _)
    · (focus repeat first | with_reducible exact Put.headL | with_reducible exact Put.headC | (show Put (_ :: _) (_ :: _) _ _ _; first | with_reducible exact Put.headL | with_reducible exact Put.headC | apply Put.tail))
theorem t_push {mo : Bool} {w : Str} (hc : (cR G A env own).Ok) : Te (cR G A env own) (testOf (nthOf WB 6)) ⟨rp I done held (.str w) (some (.bool mo)) under row again, m⟩ ((w != ".") && !mo) m := by
  cases hw : w != Str.ofString "." with
  | false =>
    apply Te.and_no
    apply Te.cmp hc
    · (apply Ev.nm (by assumption); (repeat first | with_reducible exact Slot.head | (show Slot (_ :: _) (_ :: _) _ _ _; first | with_reducible exact Slot.head | apply Slot.tail)); rfl)
    · exact Ev.str
    · exact cmp_nes ⟨by rw [hw], rfl⟩
  | true =>
    apply Te.and_yes
    · apply Te.cmp hc
      · (apply Ev.nm (by assumption); (repeat first | with_reducible exact Slot.head | (show Slot (_ :: _) (_ :: _) _ _ _; first | with_reducible exact Slot.head | apply Slot.tail)); rfl)
      · exact Ev.str
      · exact cmp_nes ⟨by rw [hw], rfl⟩
    · apply Te.not
      apply Te.val hc
      · (apply Ev.nm (by assumption); (repeat first | with_reducible exact Slot.head | (show Slot (_ :: _) (_ :: _) _ _ _; first | with_reducible exact Slot.head | apply Slot.tail)); rfl)
      · exact tru_bool ⟨rfl, rfl⟩
end
noncomputable def RAt (C : Addr) (I : LexIds) (L : Int) (rest : List Nat) (m₀ : MH) (s : RS) (rem : List MV) (wd : MV) (st : St) : Prop :=
  ∃ hl more under row again, st.vars = rp I s.done (.ref hl) wd more under row again ∧ Lx C I L (rem ++ s.out.map wordV) rest st.m ∧ st.m.H hl = some (.list (s.held.map wordV)) ∧ Off I hl ∧ LGrow I m₀ st.m ∧ ∀ o, m₀.H hl ≠ some o
section
variable {G : GC} {A : Around} {env : Env} {own : List Addr} {C Cw : Addr} {I : LexIds} {L : Int} {fl fm fa : Nat → Addr} {n : Nat} {rest : List Nat} {m₀ : MH}
theorem w_front {s : RS} {rem : List MV} {w : Str} {wd : MV} {mo : Bool} {st : St} {ss : List Stmt} {Q : MF → St → Prop} (K : LxK G C fl) (W : WsK G Cw fm) (Fa : Facts G fa) (hA : Good (n + 1 + 1) A) (hc : (cR G A env own).Ok) (hh : ∀ r ∈ s.held, r.Ok) (hl : rem.length + s.out.length < 890) (hwa : w.cps.all (· < 128) = true) (hwl : w.length ≤ 8)
    (hmore : ∀ (m : MH) (held : MV) more under row again, Ex (cR G A env own) (nthOf WB 1) ⟨rp I s.done held (.str w) more under row again, m⟩ .next ⟨rp I s.done held (.str w) (some (.bool mo)) under row again, m⟩)
    (h : RAt C I L rest m₀ s (.str w :: rem) wd st)
    (k : ∀ hl row again m, Lx C I L (rem ++ s.out.map wordV) rest m → m.H hl = some (.list (s.held.map wordV)) → Off I hl → LGrow I m₀ m → (∀ o, m₀.H hl ≠ some o) →
      ExecsTo (cR G A env own) ss ⟨rp I s.done (.ref hl) (.str w) (some (.bool mo)) (some (.bool (s.held.head?.any fun h => (wsOf (wordOf h)).less (wsOf w)))) row again, m⟩ Q) :
    ExecsTo (cR G A env own) (nthOf WB 0 :: nthOf WB 1 :: nthOf WB 2 :: ss) st Q := by
  obtain ⟨vars, m⟩ := st
  obtain ⟨hl', more, under, row, again, hv, X, hi, ho, g, hno⟩ := h
  dsimp only at hv X hi g
  subst hv
  refine xs_cons (Ex.to (x_word K X (by show (rem ++ s.out.map wordV).length < 890; rw [List.length_append, List.length_map]; exact hl) hA hc) ?_)
  have X1 := X.push (pb' := rem ++ s.out.map wordV)
  have g1 := g.set (j := I.pl) (o := .list (rem ++ s.out.map wordV)) (.inr (.inl rfl))
  have hi1 : (m.set I.pl (.list (rem ++ s.out.map wordV))).H hl' = some (.list (s.held.map wordV)) := by rw [set_off ho.2.1]; exact hi
  dsimp only
  generalize m.set I.pl (.list (rem ++ s.out.map wordV)) = m₁ at X1 g1 hi1 ⊢
  refine xs_cons (Ex.to (hmore _ _ _ _ _ _) ?_)
  dsimp only
  refine xs_cons (FT.mono (x_under W Fa hi1 hh hwa hwl X1.wf hA hc) ?_)
  rintro f ⟨vars, m₂⟩ ⟨rfl, hv, g2⟩
  dsimp only at hv g2
  subst hv
  exact k hl' row again m₂ (X1.grow g2) (g2.keep _ _ hi1) ho (g1.trans g2.lg) hno
theorem head_any {hs : List PRow} {r : PRow} (hh : ∀ x ∈ hs, x.Ok) (hr : r.Ok) : (hs.head?.any fun h => (wsOf (wordOf h)).less (wsOf (wordOf r))) = headLess hs r := by
  cases hs with
  | nil => rfl
  | cons h t => exact less_deeper (hh h (.head _)) hr
theorem w_turn {s : RS} {k : Nat} {r : PRow} {rem : List MV} {wd : MV} {st : St} (K : LxK G C fl) (W : WsK G Cw fm) (Fa : Facts G fa) (hA : Good (n + 1 + 1) A) (hc : (cR G A env own).Ok) (H : RInv s k) (hr : r.Ok) (hl : rem.length + 3 * (k + 1) < 880) (h : RAt C I L rest m₀ s (wordV r :: rem) wd st) :
    ExecsTo (cR G A env own) WB st fun f st₂ => (f = .next ∨ f = .cont) ∧ RAt C I L rest m₀ (rstep s r) rem (wordV r) st₂ := by
  have hlen := H.len
  have hA1 : Good (n + 1) A := hA.le (Nat.le_succ _)
  have hsz := sizeLine_big
  refine w_front (ss := [nthOf WB 3, nthOf WB 4, nthOf WB 5, nthOf WB 6]) K W Fa hA hc H.held (by omega) (word_ascii hr) (word_len hr) (fun m held more under row again => x_more Fa hr hA1 hc) h ?_
  intro hl' row again m X hi ho g hno
  rw [head_any H.held hr]
  refine xs_cons (x_if (Te.to (t_append hc) ?_))
  cases hb : headLess s.held r with
  | true =>
    cases hm : isMore r with
    | false =>
      rw [if_pos (by rfl)]
      refine xs_cons (Ex.to (f := .next) (st' := ⟨rp I s.done (.ref hl') (wordV r) (some (.bool false)) (some (.bool true)) row again, m.set hl' (.list (s.held.map wordV ++ [wordV r]))⟩) ?_ ?_)
      · apply Ex.expr hc
        apply Ev.meth hc
        · (apply Ev.nm (by assumption); (repeat first | with_reducible exact Slot.head | (show Slot (_ :: _) (_ :: _) _ _ _; first | with_reducible exact Slot.head | apply Slot.tail)); rfl)
        · exact meth_append hi ⟨rfl, rfl⟩
        · apply Evs.cons
          · (apply Ev.nm (by assumption); (repeat first | with_reducible exact Slot.head | (show Slot (_ :: _) (_ :: _) _ _ _; first | with_reducible exact Slot.head | apply Slot.tail)); rfl)
          · exact Evs.nil
          · rfl
        · exact keeps_builtin
        · exact call_append hi (by rw [List.length_map]; omega) ⟨rfl, rfl⟩
      refine xs_cons (x_cont ⟨.inr rfl, ?_⟩)
      have e : rstep s r = ⟨s.held ++ [r], s.out, s.done⟩ := by unfold rstep; rw [if_pos hb, hm]; rfl
      rw [e]
      refine ⟨hl', _, _, _, _, rfl, X.offl hi ho, ?_, ho, ⟨fun j o e h1 h2 h3 => ?_, g.tb⟩, hno⟩
      · dsimp only
        rw [set_at, List.map_append]; rfl
      · rw [set_off (fun z : j = hl' => hno o (by rw [← z]; exact e))]
        exact g.keep j o e h1 h2 h3
    | true =>
      rw [if_neg (by decide)]
      refine xs_nil ?_
      dsimp only
      have hne : s.held.isEmpty = false := by
        cases hh : s.held with
        | nil => rw [hh] at hb; cases hb
        | cons => rfl
      refine xs_cons (x_if (Te.to (t_both hi H.held X.wf hA hc) ?_))
      rw [hne, if_pos (by rfl)]
      have g1 : Grow m (m.alloc (.list [])) := .alloc X.wf _
      dsimp only
      generalize m.alloc (.list []) = m₁ at g1 ⊢
      have X1 := X.grow g1
      refine xs_cons (FT.mono (x_pushall K X1 (g1.keep _ _ hi) ho (by rw [List.length_append, List.length_map]; omega) hA1 hc rfl) ?_)
      rintro f ⟨vars, m₂⟩ ⟨rfl, ⟨row', hv⟩, X2, g2⟩
      dsimp only at hv X2 g2
      subst hv
      refine xs_nil ?_
      dsimp only
      refine xs_cons (Ex.to (x_next hc) ?_)
      dsimp only
      rw [if_pos rfl]
      have X3 := X2.new (.list [MV.str (wordOf r)])
      have hnw : (m₂.alloc (.list [MV.str (wordOf r)])).H m₂.n = some (.list [MV.str (wordOf r)]) := alloc_new _ _
      have g3 : LGrow I m₂ (m₂.alloc (.list [MV.str (wordOf r)])) := .new X2.wf _
      have hno2 : ∀ o, m₀.H m₂.n ≠ some o := fun o e => by
        rcases X2.fresh with ⟨f1, f2, f3⟩
        exact Nat.lt_irrefl _ (X2.wf _ _ ((g.trans (g1.lg.trans g2)).at ⟨f1, f2, f3⟩ e))
      have ho2 := X2.fresh
      generalize m₂.alloc (.list [MV.str (wordOf r)]) = m₃ at X3 hnw g3 ⊢
      refine xs_cons (x_if (Te.to (t_push hc) ?_))
      rw [Bool.not_true, Bool.and_false, if_neg Bool.false_ne_true]
      refine xs_nil (xs_nil ⟨.inl rfl, ?_⟩)
      have e : rstep s r = ⟨[r], s.out ++ s.held, s.done⟩ := by unfold rstep; rw [if_pos hb, if_pos hm]
      rw [e]
      refine ⟨m₂.n, _, _, _, _, rfl, ?_, hnw, ho2, g.trans (g1.lg.trans (g2.trans g3)), hno2⟩
      rw [List.map_append, ← List.append_assoc]
      exact X3
  | false =>
    rw [Bool.false_and, if_neg Bool.false_ne_true]
    refine xs_nil ?_
    dsimp only
    refine xs_cons (FT.mono (x_off K Fa X hi H.held ho (by rw [List.length_append, List.length_map]; omega) hA1 hc) ?_)
    rintro f ⟨vars, m₂⟩ ⟨rfl, ⟨row', again', hv⟩, X2, g2⟩
    dsimp only at hv X2 g2
    subst hv
    dsimp only
    refine xs_cons (Ex.to (x_next hc) ?_)
    dsimp only
    have X3 := X2.new (.list (if isMore r then [MV.str (wordOf r)] else []))
    have hnw : (m₂.alloc (.list (if isMore r then [MV.str (wordOf r)] else []))).H m₂.n = some (.list (if isMore r then [MV.str (wordOf r)] else [])) := alloc_new _ _
    have g3 : LGrow I m₂ (m₂.alloc (.list (if isMore r then [MV.str (wordOf r)] else []))) := .new X2.wf _
    have ho2 := X2.fresh
    have hno2 : ∀ o, m₀.H m₂.n ≠ some o := fun o e => Nat.lt_irrefl _ (X2.wf _ _ ((g.trans g2).at ho2 e))
    generalize m₂.alloc (.list (if isMore r then [MV.str (wordOf r)] else [])) = m₃ at X3 hnw g3 ⊢
    refine xs_cons (x_if (Te.to (t_push hc) ?_))
    rw [bne_iff_ne.mpr (word_ne r), Bool.true_and]
    have e : rstep s r = ⟨if isMore r then [r] else [], s.out ++ expand s.held ++ (if isMore r then [] else [r]), s.done || !s.held.isEmpty⟩ := by unfold rstep; rw [if_neg (by rw [hb]; exact Bool.false_ne_true)]
    rw [e]
    have hex := expand_len H.held
    cases hm : isMore r with
    | true =>
      rw [hm, if_pos rfl] at hnw
      rw [if_neg (by decide)]
      refine xs_nil (xs_nil ⟨.inl rfl, m₂.n, _, _, _, _, rfl, ?_, ?_, ho2, g.trans (g2.trans g3), hno2⟩)
      · dsimp only
        rw [if_pos rfl, List.append_nil, List.map_append, ← List.append_assoc]
        exact X3
      · dsimp only
        rw [if_pos rfl]; exact hnw
    | false =>
      rw [hm, if_neg Bool.false_ne_true] at hnw
      rw [if_pos (by decide)]
      refine xs_cons (Ex.to (Ex.expr hc (ev_push K X3 (by rw [List.length_append, List.length_append, List.length_map, List.length_map]; omega) hA1 hc (by (apply Ev.nm (by assumption); (repeat first | with_reducible exact Slot.head | (show Slot (_ :: _) (_ :: _) _ _ _; first | with_reducible exact Slot.head | apply Slot.tail)); rfl)) rfl rfl)) ?_)
      refine xs_nil (xs_nil ⟨.inl rfl, m₂.n, _, _, _, _, rfl, ?_, ?_, ho2, (g.trans (g2.trans g3)).set (.inr (.inl rfl)), hno2⟩)
      · dsimp only
        rw [if_neg Bool.false_ne_true, List.map_append, List.map_append, ← List.append_assoc, ← List.append_assoc]
        exact X3.push
      · dsimp only
        rw [set_off ho2.2.1, if_neg Bool.false_ne_true]; exact hnw
theorem w_dot {s : RS} {k : Nat} {wd : MV} {st : St} (K : LxK G C fl) (W : WsK G Cw fm) (Fa : Facts G fa) (hA : Good (n + 1 + 1) A) (hc : (cR G A env own).Ok) (H : RInv s k) (hl : 3 * k < 880) (h : RAt C I L rest m₀ s [.str "."] wd st) :
    ExecsTo (cR G A env own) WB st fun f st₂ => (f = .next ∨ f = .cont) ∧ RAt C I L rest m₀ (rend s) [] (.str ".") st₂ := by
  have hlen := H.len
  have hA1 : Good (n + 1) A := hA.le (Nat.le_succ _)
  refine w_front (ss := [nthOf WB 3, nthOf WB 4, nthOf WB 5, nthOf WB 6]) (rem := []) (w := ".") K W Fa hA hc H.held (by show 0 + _ < _; omega) (by decide +kernel) (by show 1 ≤ 8; decide) (fun m held more under row again => x_more_dot hc) h ?_
  intro hl' row again m X hi ho g hno
  have hb : (s.held.head?.any fun h => (wsOf (wordOf h)).less (wsOf ".")) = false := by
    cases s.held with
    | nil => rfl
    | cons h t => exact less_dot _
  rw [hb]
  refine xs_cons (x_if (Te.to (t_append hc) ?_))
  rw [Bool.false_and, if_neg Bool.false_ne_true]
  refine xs_nil ?_
  dsimp only
  refine xs_cons (FT.mono (x_off K Fa X hi H.held ho (by rw [List.length_append, List.length_map]; show 0 + _ + _ < _; omega) hA1 hc) ?_)
  rintro f ⟨vars, m₂⟩ ⟨rfl, ⟨row', again', hv⟩, X2, g2⟩
  dsimp only at hv X2 g2
  subst hv
  dsimp only
  refine xs_cons (Ex.to (x_next hc) ?_)
  dsimp only
  rw [if_neg Bool.false_ne_true]
  have X3 := X2.new (.list [])
  have hnw : (m₂.alloc (.list [])).H m₂.n = some (.list []) := alloc_new _ _
  have g3 : LGrow I m₂ (m₂.alloc (.list [])) := .new X2.wf _
  have ho2 := X2.fresh
  have hno2 : ∀ o, m₀.H m₂.n ≠ some o := fun o e => Nat.lt_irrefl _ (X2.wf _ _ ((g.trans g2).at ho2 e))
  generalize m₂.alloc (.list []) = m₃ at X3 hnw g3 ⊢
  refine xs_cons (x_if (Te.to (t_push hc) ?_))
  rw [show ((Str.ofString ".") != (Str.ofString ".")) = false from by decide, Bool.false_and, if_neg Bool.false_ne_true]
  refine xs_nil (xs_nil ⟨.inl rfl, m₂.n, _, _, _, _, rfl, ?_, hnw, ho2, g.trans (g2.trans g3), hno2⟩)
  show Lx C I L ([] ++ (s.out ++ expand s.held).map wordV) rest m₃
  rw [List.map_append, List.nil_append]
  rw [List.nil_append] at X3
  exact X3
end
theorem sc20 : ScopeOk (scopeOf (stmtAt 20)) := by exact ⟨rfl, rfl, rfl, by decide +kernel, by decide +kernel, by decide +kernel, by decide +kernel, by decide +kernel⟩
theorem RInv.start : RInv ⟨[], [], false⟩ 0 := ⟨fun _ h => (nomatch h), fun _ h => (nomatch h), Nat.le_refl _⟩
theorem RInv.all {q : List PRow} : ∀ {s : RS} {k : Nat}, RInv s k → (∀ r ∈ q, r.Ok) → RInv (q.foldl rstep s) (k + q.length) := by
  induction q with
  | nil => exact fun h _ => h
  | cons r q ih =>
    intro s k h hq
    have := ih (h.step (hq r (.head _))) fun x hx => hq x (.tail _ hx)
    rw [List.length_cons, Nat.add_comm q.length 1, ← Nat.add_assoc]
    exact this
section
variable {G : GC} {A : Around} {env : Env} {own : List Addr} {C Cw : Addr} {I : LexIds} {L : Int} {fl fm fa : Nat → Addr} {n : Nat} {rest : List Nat} {m₀ m : MH}
theorem t_while {w : Str} {done : Bool} {held : MV} {more under row again : Option MV} (hc : (cR G A env own).Ok) :
    Te (cR G A env own) (testOf (nthOf (bodyOf (stmtAt 20)) 4)) ⟨rp I done held (.str w) more under row again, m⟩ (w != ".") m := by
  apply Te.cmp hc
  · (apply Ev.nm (by assumption); (repeat first | with_reducible exact Slot.head | (show Slot (_ :: _) (_ :: _) _ _ _; first | with_reducible exact Slot.head | apply Slot.tail)); rfl)
  · exact Ev.str
  · exact cmp_nes ⟨rfl, rfl⟩
theorem w_loop (K : LxK G C fl) (W : WsK G Cw fm) (Fa : Facts G fa) (hA : Good (n + 1 + 1) A) (hc : (cR G A env own).Ok) : ∀ (q : List PRow) {s : RS} {k : Nat} {w : Str} {st : St}, RInv s k → (∀ r ∈ q, r.Ok) → q.length + k ≤ 255 → w ≠ "." → RAt C I L rest m₀ s (q.map wordV ++ [.str "."]) (.str w) st →
    WhileN (cR G A env own) (testOf (nthOf (bodyOf (stmtAt 20)) 4)) WB (q.length + 2) st fun f st' => f = .next ∧ RAt C I L rest m₀ (rend (q.foldl rstep s)) [] (.str ".") st' := by
  intro q
  induction q with
  | nil =>
    intro s k w st H _ hk hw h
    obtain ⟨vars, m⟩ := st
    have h' := h
    obtain ⟨hl, more, under, row, again, hv, _⟩ := h
    dsimp only at hv
    subst hv
    refine Te.to (t_while hc) ?_
    rw [bne_iff_ne.mpr hw, if_pos rfl]
    refine FT.mono (w_dot K W Fa hA hc H (by rw [List.length_nil] at hk; omega) h') ?_
    intro f st₂ hf
    obtain ⟨hf, h2⟩ := hf
    have e : WhileN (cR G A env own) (testOf (nthOf (bodyOf (stmtAt 20)) 4)) WB 1 st₂ fun f st' => f = .next ∧ RAt C I L rest m₀ (rend s) [] (.str ".") st' := by
      obtain ⟨vars, m⟩ := st₂
      have h3 := h2
      obtain ⟨hl, more, under, row, again, hv, _⟩ := h2
      dsimp only at hv
      subst hv
      refine Te.to (t_while hc) ?_
      rw [show ((Str.ofString ".") != (Str.ofString ".")) = false from by decide, if_neg Bool.false_ne_true]
      exact ⟨rfl, h3⟩
    rcases hf with rfl | rfl
    · exact e
    · exact e
  | cons r q ih =>
    intro s k w st H hq hk hw h
    obtain ⟨vars, m⟩ := st
    have h' := h
    obtain ⟨hl, more, under, row, again, hv, _⟩ := h
    dsimp only at hv
    subst hv
    rw [List.length_cons] at hk
    refine Te.to (t_while hc) ?_
    rw [bne_iff_ne.mpr hw, if_pos rfl]
    refine FT.mono (w_turn (rem := q.map wordV ++ [.str "."]) K W Fa hA hc H (hq r (.head _)) (by rw [List.length_append, List.length_map, List.length_singleton]; omega) h') ?_
    rintro f st₂ ⟨hf, h2⟩
    have e := ih (H.step (hq r (.head _))) (fun x hx => hq x (.tail _ hx)) (by omega) (word_ne r) h2
    rcases hf with rfl | rfl
    · exact e
    · exact e
theorem b_round {q : List PRow} (K : LxK G C fl) (W : WsK G Cw fm) (Fa : Facts G fa) (X : Lx C I L (q.map wordV) rest m) (hq : ∀ r ∈ q, r.Ok) (hl : q.length ≤ 255) (hA : Good (n + 1 + 1) A) (hc : (cR G A env own).Ok) :
    ExecsTo (cR G A env own) (bodyOf (stmtAt 20)) ⟨[some (.ref I.i), none, none, none, none, none, none, none, none, none, none, none, none], m⟩ fun fl st' => outOf (fun y m' => y = .bool (roundOf q).done ∧ Lx C I L ((roundOf q).out.map wordV) rest m' ∧ LGrow I m m') fl st'.m := by
  have hA1 : Good (n + 1) A := hA.le (Nat.le_succ _)
  refine xs_cons (Ex.to (f := .next) (st' := ⟨[some (.ref I.i), some (.bool false), none, none, none, none, none, none, none, none, none, none, none], m⟩) ?_ ?_)
  · apply Ex.set hc
    · exact Ev.bool
    · (focus repeat first | with_reducible exact Put.headL | with_reducible exact Put.headC | (show Put (_ :: _) (_ :: _) _ _ _; first | with_reducible exact Put.headL | with_reducible exact Put.headC | apply Put.tail))
  dsimp only
  have X1 := X.new (.list [])
  have n1 : (m.alloc (.list [])).H m.n = some (.list []) := alloc_new _ _
  have g1 : LGrow I m (m.alloc (.list [])) := .new X.wf _
  have ho := X.fresh
  have hno : ∀ o, m.H m.n ≠ some o := X.wf.no
  refine xs_cons (Ex.to (f := .next) (st' := ⟨[some (.ref I.i), some (.bool false), some (.ref m.n), none, none, none, none, none, none, none, none, none, none], m.alloc (.list [])⟩) ?_ ?_)
  · apply Ex.set hc
    · exact Ev.list hc Evs.nil (Nat.zero_le _)
    · (focus repeat first | with_reducible exact Put.headL | with_reducible exact Put.headC | (show Put (_ :: _) (_ :: _) _ _ _; first | with_reducible exact Put.headL | with_reducible exact Put.headC | apply Put.tail))
  dsimp only
  generalize m.alloc (.list []) = m₁ at X1 n1 g1 ⊢
  refine xs_cons (Ex.to (f := .next) (st' := ⟨rp I false (.ref m.n) (.str "") none none none none, m₁⟩) ?_ ?_)
  · apply Ex.set hc
    · exact Ev.str
    · (focus repeat first | with_reducible exact Put.headL | with_reducible exact Put.headC | (show Put (_ :: _) (_ :: _) _ _ _; first | with_reducible exact Put.headL | with_reducible exact Put.headC | apply Put.tail))
  dsimp only
  refine xs_cons (Ex.to (Ex.expr hc (ev_push K X1 (by rw [List.length_map]; omega) hA1 hc Ev.str rfl rfl)) ?_)
  dsimp only
  have h0 : RAt C I L rest m ⟨[], [], false⟩ (q.map wordV ++ [.str "."]) (.str "") ⟨rp I false (.ref m.n) (.str "") none none none none, m₁.set I.pl (.list (q.map wordV ++ [.str "."]))⟩ :=
    ⟨m.n, _, _, _, _, rfl, by show Lx C I L (q.map wordV ++ [.str "."] ++ []) rest _; rw [List.append_nil]; exact X1.push, by dsimp only; rw [set_off ho.2.1]; exact n1, ho, g1.set (.inr (.inl rfl)), hno⟩
  refine xs_cons (FT.mono (x_while (q.length + 2) (w_loop K W Fa hA hc q RInv.start hq (by omega) (by decide) h0)) ?_)
  rintro f ⟨vars, m₂⟩ ⟨rfl, hl', more, under, row, again, hv, X2, hi, ho2, g2, _⟩
  dsimp only at hv X2 g2
  subst hv
  dsimp only
  rw [List.nil_append] at X2
  exact xs_ret (v := .bool (rend (q.foldl rstep ⟨[], [], false⟩)).done) (m := m₂) (by (apply Ev.nm (by assumption); (repeat first | with_reducible exact Slot.head | (show Slot (_ :: _) (_ :: _) _ _ _; first | with_reducible exact Slot.head | apply Slot.tail)); rfl)) ⟨rfl, X2, g2⟩
end
theorem c_round {G : GC} {A : Around} {C Cw : Addr} {I : LexIds} {L : Int} {fl fm fa : Nat → Addr} {n : Nat} {rest : List Nat} {m : MH} {q : List PRow} (K : LxK G C fl) (W : WsK G Cw fm) (Fa : Facts G fa) (X : Lx C I L (q.map wordV) rest m) (hq : ∀ r ∈ q, r.Ok) (hl : q.length ≤ 255) (hA : Good (n + 1 + 1 + 1) A) :
    CT G A (.st (.ref (fa 20))) [.ref I.i] m fun y m' => y = .bool (roundOf q).done ∧ Lx C I L ((roundOf q).out.map wordV) rest m' ∧ LGrow I m m' :=
  c_of (n := n + 1 + 1) (bs := [(Str.ofString "lexer", .ref I.i)]) (vars := [some (.ref I.i), none, none, none, none, none, none, none, none, none, none, none, none]) hA (Fa.fn 20 (by decide)) sc20 (by exact bind1 (fun _ _ _ _ _ _ _ _ _ _ _ _ _ => by kernel_rfl)) (by (focus repeat first | exact Binds.nil | (apply Binds.cons; (focus repeat first | with_reducible exact Put.headL | with_reducible exact Put.headC | (show Put (_ :: _) (_ :: _) _ _ _; first | with_reducible exact Put.headL | with_reducible exact Put.headC | apply Put.tail))))) fun _ _ _ hA' hc => b_round K W Fa X hq hl hA' hc
theorem deeper_iff (a b : Str) : deeper a b = true ↔ ∀ k, k < 5 → (colsOf a).getD k 0 < (colsOf b).getD k 0 := by
  have hne : diffs a b ≠ [] := by simp [diffs]
  unfold deeper
  rw [decide_eq_true_eq]
  constructor
  · intro h k hk
    have : (colsOf b).getD k 0 - (colsOf a).getD k 0 ∈ diffs a b := List.mem_map.mpr ⟨k, List.mem_range.mpr hk, rfl⟩
    have := minL_le _ this
    omega
  · intro h
    obtain ⟨k, hk, e⟩ := List.mem_map.mp (minL_mem hne)
    have e2 : (colsOf b).getD k 0 - (colsOf a).getD k 0 = minL (diffs a b) := e
    have := h k (List.mem_range.mp hk)
    omega
theorem deeper_trans {a b c : Str} (h1 : deeper a b = true) (h2 : deeper b c = true) : deeper a c = true := by
  rw [deeper_iff] at h1 h2 ⊢
  exact fun k hk => Int.lt_trans (h1 k hk) (h2 k hk)
noncomputable abbrev Und (r a : PRow) : Prop := deeper r.lead a.lead = true
noncomputable def Cut (A B : List PRow) : Prop := ∀ a ∈ A, ∀ b, B.head? = some b → ¬ Und a b
theorem under_app (ℓ : Str) (A B : List PRow) (hA : ∀ a ∈ A, deeper ℓ a.lead = true) (hB : ∀ b, B.head? = some b → ¬ deeper ℓ b.lead = true) : underP ℓ (A ++ B) = A.length := by
  induction A with
  | nil =>
    cases B with
    | nil => rfl
    | cons b B =>
      show (if deeper ℓ b.row.lead then _ else 0) = 0
      exact if_neg (hB b rfl)
  | cons a A ih =>
    show (if deeper ℓ a.row.lead then underN ℓ ((A ++ B).map PRow.row) + 1 else 0) = _
    rw [if_pos (show deeper ℓ a.row.lead = true from hA a (.head _))]
    have := ih fun x hx => hA x (.tail _ hx)
    show underP ℓ (A ++ B) + 1 = _
    rw [this, List.length_cons]
theorem under_split (ℓ : Str) (q : List PRow) : (∀ a ∈ q.take (underP ℓ q), deeper ℓ a.lead = true) ∧ ∀ b, (q.drop (underP ℓ q)).head? = some b → ¬ deeper ℓ b.lead = true := by
  induction q with
  | nil => exact ⟨fun _ h => (nomatch h), fun _ h => (nomatch h)⟩
  | cons r q ih =>
    by_cases h : deeper ℓ r.lead = true
    · have e : underP ℓ (r :: q) = underP ℓ q + 1 := by
        show (if deeper ℓ r.row.lead then underN ℓ (q.map PRow.row) + 1 else 0) = _
        exact if_pos h
      rw [e]
      refine ⟨fun a ha => ?_, ih.2⟩
      rw [List.take_succ_cons] at ha
      rcases List.mem_cons.mp ha with rfl | ha
      · exact h
      · exact ih.1 a ha
    · have e : underP ℓ (r :: q) = 0 := by
        show (if deeper ℓ r.row.lead then underN ℓ (q.map PRow.row) + 1 else 0) = _
        exact if_neg h
      rw [e]
      exact ⟨fun _ ha => (nomatch ha), fun b hb => by cases hb; exact h⟩
theorem blocks_ind {P : List PRow → Prop} (nil : P []) (cons : ∀ r A B, (∀ a ∈ A, Und r a) → (∀ b, B.head? = some b → ¬ Und r b) → P A → P B → P (r :: (A ++ B))) : ∀ q, P q := by
  have : ∀ n (q : List PRow), q.length ≤ n → P q := by
    intro n
    induction n with
    | zero => intro q h; rw [List.length_eq_zero_iff.mp (Nat.le_zero.mp h)]; exact nil
    | succ n ih =>
      intro q h
      cases q with
      | nil => exact nil
      | cons r q =>
        rw [List.length_cons] at h
        have hs := under_split r.lead q
        have := cons r _ _ hs.1 hs.2 (ih _ (by rw [List.length_take]; omega)) (ih _ (by rw [List.length_drop]; omega))
        rwa [List.take_append_drop] at this
  exact fun q => this _ q (Nat.le_refl _)
noncomputable def due (q : List PRow) : Due := dueF q.length q
theorem due_fuel (n : Nat) : ∀ {q : List PRow}, q.length ≤ n → dueF n q = due q := by
  have H : ∀ k (q : List PRow), q.length ≤ k → ∀ n n', q.length ≤ n → q.length ≤ n' → dueF n q = dueF n' q := by
    intro k
    induction k with
    | zero =>
      intro q h n n' _ _
      rw [List.length_eq_zero_iff.mp (Nat.le_zero.mp h), dueF_nil, dueF_nil]
    | succ k ih =>
      intro q h n n' h1 h2
      cases q with
      | nil => rw [dueF_nil, dueF_nil]
      | cons r q =>
        rw [List.length_cons] at h h1 h2
        obtain ⟨n, rfl⟩ : ∃ m, n = m + 1 := ⟨n - 1, by omega⟩
        obtain ⟨n', rfl⟩ : ∃ m, n' = m + 1 := ⟨n' - 1, by omega⟩
        rw [dueF_cons, dueF_cons]
        unfold dueStep
        have l1 : (q.take (underP r.lead q)).length ≤ q.length := by rw [List.length_take]; omega
        have l2 : (q.drop (underP r.lead q)).length ≤ q.length := by rw [List.length_drop]; omega
        rw [ih _ (by omega) n n' (by omega) (by omega), ih (q.drop _) (by omega) n n' (by omega) (by omega)]
  exact fun {q} h => H _ q (Nat.le_refl _) _ _ h (Nat.le_refl _)
noncomputable def blockDue (r : PRow) (a b : Due) : Due :=
  ⟨(List.replicate r.often (r :: a.deeds)).flatten ++ b.deeds, mulT b.table (powT (a.table.map (lineStep r)) (r.often - 1)), max (if 1 < r.often then a.nested + 1 else a.nested) b.nested⟩
theorem due_block {r : PRow} {A B : List PRow} (hA : ∀ a ∈ A, Und r a) (hB : ∀ b, B.head? = some b → ¬ Und r b) : due (r :: (A ++ B)) = blockDue r (due A) (due B) := by
  show dueF ((A ++ B).length + 1) (r :: (A ++ B)) = _
  rw [dueF_cons]
  unfold dueStep blockDue
  rw [under_app r.lead A B hA hB, List.take_left, List.drop_left, due_fuel _ (q := A) (by rw [List.length_append]; omega), due_fuel _ (q := B) (by rw [List.length_append]; omega)]
noncomputable abbrev Key := Nat × Bool × Nat
noncomputable def key (r : PRow) : Key := (r.p, r.plus, r.q)
noncomputable def keys (q : List PRow) : List Key := (due q).deeds.map key
noncomputable def nest (q : List PRow) : Nat := (due q).nested
theorem keys_nil : keys [] = [] := rfl
theorem nest_nil : nest [] = 0 := rfl
theorem keys_block {r : PRow} {A B : List PRow} (hA : ∀ a ∈ A, Und r a) (hB : ∀ b, B.head? = some b → ¬ Und r b) : keys (r :: (A ++ B)) = (List.replicate r.often (key r :: keys A)).flatten ++ keys B := by
  unfold keys
  rw [due_block hA hB]
  show ((List.replicate r.often (r :: (due A).deeds)).flatten ++ (due B).deeds).map key = _
  rw [List.map_append, List.map_flatten, List.map_replicate]; rfl
theorem nest_block {r : PRow} {A B : List PRow} (hA : ∀ a ∈ A, Und r a) (hB : ∀ b, B.head? = some b → ¬ Und r b) : nest (r :: (A ++ B)) = max (if 1 < r.often then nest A + 1 else nest A) (nest B) := by
  unfold nest; rw [due_block hA hB]; rfl
theorem keys_one {r : PRow} {A : List PRow} (hA : ∀ a ∈ A, Und r a) : keys (r :: A) = (List.replicate r.often (key r :: keys A)).flatten := by
  have := keys_block (B := []) hA fun _ h => (nomatch h)
  rwa [List.append_nil, keys_nil, List.append_nil] at this
theorem nest_one {r : PRow} {A : List PRow} (hA : ∀ a ∈ A, Und r a) : nest (r :: A) = if 1 < r.often then nest A + 1 else nest A := by
  have := nest_block (B := []) hA fun _ h => (nomatch h)
  rwa [List.append_nil, nest_nil, Nat.max_zero] at this
theorem head_app {A B : List PRow} {b : PRow} (h : (A ++ B).head? = some b) : A.head? = some b ∨ (A = [] ∧ B.head? = some b) := by
  cases A with
  | nil => exact .inr ⟨rfl, h⟩
  | cons a A => exact .inl h
theorem due_cut {B : List PRow} : ∀ A, Cut A B → keys (A ++ B) = keys A ++ keys B ∧ nest (A ++ B) = max (nest A) (nest B) := by
  refine blocks_ind (fun _ => ⟨rfl, by rw [nest_nil, Nat.zero_max]; rfl⟩) fun r A1 A2 h1 h2 _ ih hc => ?_
  have hc2 : Cut A2 B := fun a ha => hc a (.tail _ (List.mem_append_right _ ha))
  have hB : ∀ b, (A2 ++ B).head? = some b → ¬ Und r b := fun b hb => by
    rcases head_app hb with hb | ⟨_, hb⟩
    · exact h2 b hb
    · exact hc r (.head _) b hb
  obtain ⟨i1, i2⟩ := ih hc2
  rw [List.cons_append, List.append_assoc, keys_block h1 hB, nest_block h1 hB, keys_block h1 h2, nest_block h1 h2, i1, i2, List.append_assoc, Nat.max_assoc]
  exact ⟨rfl, rfl⟩
theorem cut_block {r : PRow} {A B : List PRow} (hA : ∀ a ∈ A, Und r a) (hB : ∀ b, B.head? = some b → ¬ Und r b) : Cut (r :: A) B := fun a ha b hb h => by
  rcases List.mem_cons.mp ha with rfl | ha
  · exact hB b hb h
  · exact hB b hb (deeper_trans (hA a ha) h)
theorem ones_due : ∀ A : List PRow, (∀ a ∈ A, a.often = 1) → keys A = A.map key ∧ nest A = 0 := by
  refine blocks_ind (fun _ => ⟨rfl, rfl⟩) fun r A B hA hB iA iB h => ?_
  have h1 := h r (.head _)
  obtain ⟨a1, a2⟩ := iA fun a ha => h a (.tail _ (List.mem_append_left _ ha))
  obtain ⟨b1, b2⟩ := iB fun a ha => h a (.tail _ (List.mem_append_right _ ha))
  rw [keys_block hA hB, nest_block hA hB, h1, a1, a2, b1, b2]
  refine ⟨?_, rfl⟩
  rw [List.map_cons, List.map_append]
  show (key r :: A.map key ++ []) ++ _ = _
  rw [List.append_nil]; rfl
theorem nest_more : ∀ q : List PRow, decide (0 < nest q) = q.any isMore := by
  refine blocks_ind rfl fun r A B hA hB iA iB => ?_
  rw [nest_block hA hB, List.any_cons, List.any_append, ← iA, ← iB]
  unfold isMore
  by_cases h : 1 < r.often
  · rw [if_pos h, decide_eq_true (show 2 ≤ r.often from h), Bool.true_or]
    exact decide_eq_true (by omega)
  · rw [if_neg h, decide_eq_false (show ¬ 2 ≤ r.often from h), Bool.false_or]
    by_cases h1 : 0 < nest A
    · rw [decide_eq_true h1, Bool.true_or]; exact decide_eq_true (by omega)
    · rw [decide_eq_false h1, Bool.false_or]
      by_cases h2 : 0 < nest B
      · rw [decide_eq_true h2]; exact decide_eq_true (by omega)
      · rw [decide_eq_false h2]; exact decide_eq_false (by omega)
theorem len_keys : ∀ q : List PRow, (∀ r ∈ q, 1 ≤ r.often) → q.length ≤ (keys q).length := by
  refine blocks_ind (fun _ => Nat.le_refl _) fun r A B hA hB iA iB h => ?_
  have h1 := h r (.head _)
  have a1 := iA fun a ha => h a (.tail _ (List.mem_append_left _ ha))
  have b1 := iB fun a ha => h a (.tail _ (List.mem_append_right _ ha))
  rw [keys_block hA hB, List.length_cons, List.length_append, List.length_append, List.length_flatten, List.map_replicate, List.sum_replicate_nat, List.length_cons]
  have := Nat.mul_le_mul_right ((keys A).length + 1) h1
  omega
theorem fold_out (q : List PRow) : ∀ held out done, q.foldl rstep ⟨held, out, done⟩ = ⟨(q.foldl rstep ⟨held, [], false⟩).held, out ++ (q.foldl rstep ⟨held, [], false⟩).out, done || (q.foldl rstep ⟨held, [], false⟩).done⟩ := by
  induction q with
  | nil => intro held out done; show (⟨held, out, done⟩ : RS) = ⟨held, out ++ [], done || false⟩; rw [List.append_nil, Bool.or_false]
  | cons w q ih =>
    intro held out done
    rw [List.foldl_cons, List.foldl_cons]
    have e : ∀ out done, rstep ⟨held, out, done⟩ w = ⟨(rstep ⟨held, [], false⟩ w).held, out ++ (rstep ⟨held, [], false⟩ w).out, done || (rstep ⟨held, [], false⟩ w).done⟩ := by
      intro out done
      unfold rstep
      dsimp only
      split
      · split
        · simp
        · simp
      · simp [List.append_assoc]
    rw [e, ih, ih (rstep ⟨held, [], false⟩ w).held (rstep ⟨held, [], false⟩ w).out (rstep ⟨held, [], false⟩ w).done, List.append_assoc, Bool.or_assoc]
noncomputable def Rr (held q : List PRow) : List PRow := (rend (q.foldl rstep ⟨held, [], false⟩)).out
noncomputable def Dn (held q : List PRow) : Bool := (rend (q.foldl rstep ⟨held, [], false⟩)).done
theorem rend_out (s : RS) (out : List PRow) (done : Bool) : (rend ⟨s.held, out ++ s.out, done || s.done⟩).out = out ++ (rend s).out ∧ (rend ⟨s.held, out ++ s.out, done || s.done⟩).done = (done || (rend s).done) :=
  ⟨List.append_assoc .., Bool.or_assoc ..⟩
theorem Rr_nil (held : List PRow) : Rr held [] = expand held := List.nil_append _
theorem rstep_at (held : List PRow) (w : PRow) : rstep ⟨held, [], false⟩ w = if headLess held w then (if isMore w then ⟨[w], [] ++ held, false⟩ else ⟨held ++ [w], [], false⟩) else ⟨if isMore w then [w] else [], [] ++ expand held ++ (if isMore w then [] else [w]), false || !held.isEmpty⟩ := rfl
theorem Rr_cons (held q : List PRow) (w : PRow) : Rr held (w :: q) = if headLess held w then (if isMore w then held ++ Rr [w] q else Rr (held ++ [w]) q) else expand held ++ (if isMore w then Rr [w] q else w :: Rr [] q) := by
  unfold Rr
  rw [List.foldl_cons, rstep_at]
  split
  · split
    · rw [List.nil_append, fold_out, (rend_out _ _ _).1]
    · rfl
  · split
    · rw [List.nil_append, List.append_nil, fold_out, (rend_out _ _ _).1]
    · rw [List.nil_append, fold_out, (rend_out _ _ _).1, List.append_assoc]; rfl
theorem Dn_cons (held q : List PRow) (w : PRow) : Dn held (w :: q) = if headLess held w then (if isMore w then Dn [w] q else Dn (held ++ [w]) q) else (!held.isEmpty || (if isMore w then Dn [w] q else Dn [] q)) := by
  unfold Dn
  rw [List.foldl_cons, rstep_at]
  split
  · split
    · rw [List.nil_append, fold_out, (rend_out _ _ _).2, Bool.false_or]
    · rfl
  · split
    · rw [Bool.false_or, fold_out, (rend_out _ _ _).2]
    · rw [Bool.false_or, fold_out, (rend_out _ _ _).2]
theorem Dn_held (q : List PRow) : ∀ h us, Dn (h :: us) q = true := by
  induction q with
  | nil => intro h us; rfl
  | cons w q ih =>
    intro h us
    rw [Dn_cons]
    split
    · split
      · exact ih w []
      · exact ih h _
    · rfl
theorem Dn_start (q : List PRow) : Dn [] q = q.any isMore := by
  induction q with
  | nil => rfl
  | cons w q ih =>
    rw [Dn_cons, if_neg (by exact Bool.false_ne_true), List.any_cons]
    cases h : isMore w with
    | true => rw [if_pos rfl, Dn_held]; rfl
    | false => rw [if_neg Bool.false_ne_true, ih]; rfl
theorem Rr_cut {B : List PRow} : ∀ (A held : List PRow), (∀ a ∈ held, ∀ b, B.head? = some b → ¬ Und a b) → Cut A B → Rr held (A ++ B) = Rr held A ++ Rr [] B := by
  intro A
  induction A with
  | nil =>
    intro held hh _
    cases B with
    | nil => rw [List.append_nil, Rr_nil, Rr_nil]; exact (List.append_nil _).symm
    | cons b B =>
      rw [List.nil_append, Rr_cons, Rr_nil, Rr_cons [] B b, if_neg (show ¬ headLess [] b = true from Bool.false_ne_true)]
      have : ¬ headLess held b = true := by
        cases held with
        | nil => exact Bool.false_ne_true
        | cons h us => exact hh h (.head _) b rfl
      rw [if_neg this]; rfl
  | cons w A ih =>
    intro held hh hc
    have hc2 : Cut A B := fun a ha => hc a (.tail _ ha)
    have hw : ∀ a ∈ [w], ∀ b, B.head? = some b → ¬ Und a b := fun a ha => by rw [List.mem_singleton.mp ha]; exact hc w (.head _)
    rw [List.cons_append, Rr_cons, Rr_cons held A w]
    split
    · split
      · rw [ih [w] hw hc2, List.append_assoc]
      · exact ih _ (fun a ha => (List.mem_append.mp ha).elim (hh a) (hw a)) hc2
    · rw [List.append_assoc]
      congr 1
      split
      · exact ih [w] hw hc2
      · rw [ih [] (fun _ h => (nomatch h)) hc2]; rfl
theorem Rr_ones {h : PRow} : ∀ (A us : List PRow), (∀ a ∈ A, Und h a) → A.any isMore = false → Rr (h :: us) A = expand (h :: us ++ A) := by
  intro A
  induction A with
  | nil => intro us _ _; rw [Rr_nil, List.append_nil]
  | cons w A ih =>
    intro us hA hm
    rw [List.any_cons, Bool.or_eq_false_iff] at hm
    rw [Rr_cons, if_pos (show headLess (h :: us) w = true from hA w (.head _)), if_neg (by rw [hm.1]; exact Bool.false_ne_true)]
    have := ih (us ++ [w]) (fun a ha => hA a (.tail _ ha)) hm.2
    rw [show h :: us ++ [w] = h :: (us ++ [w]) from rfl, this]
    congr 1
    simp
theorem Rr_more {h : PRow} : ∀ (A us : List PRow), (∀ a ∈ A, Und h a) → A.any isMore = true → Rr (h :: us) A = (h :: us) ++ Rr [] A := by
  intro A
  induction A with
  | nil => intro us _ hm; cases hm
  | cons w A ih =>
    intro us hA hm
    rw [Rr_cons, Rr_cons [] A w, if_pos (show headLess (h :: us) w = true from hA w (.head _)), if_neg (show ¬ headLess [] w = true from Bool.false_ne_true)]
    cases hw : isMore w with
    | true => rw [if_pos rfl, if_pos rfl]; rfl
    | false =>
      rw [if_neg Bool.false_ne_true, if_neg Bool.false_ne_true]
      rw [List.any_cons, hw, Bool.false_or] at hm
      have := ih (us ++ [w]) (fun a ha => hA a (.tail _ ha)) hm
      rw [show h :: us ++ [w] = h :: (us ++ [w]) from rfl, this]
      show _ = h :: us ++ ([] ++ w :: Rr [] A)
      simp
theorem expand_bits {held : List PRow} {P : List Bool → Prop} (h : ∀ a ∈ held, P a.bits) : ∀ x ∈ expand held, P x.bits := fun x hx => by
  obtain ⟨a, ha, r, _, rfl⟩ := mem_expand hx
  exact h a ha
theorem Rr_bits {P : List Bool → Prop} : ∀ (q held : List PRow), (∀ a ∈ held, P a.bits) → (∀ a ∈ q, P a.bits) → ∀ x ∈ Rr held q, P x.bits := by
  intro q
  induction q with
  | nil => intro held h _; rw [Rr_nil]; exact expand_bits h
  | cons w q ih =>
    intro held h hq
    have hw := hq w (.head _)
    have hq' := fun a ha => hq a (.tail w ha)
    have h1 : ∀ a ∈ [w], P a.bits := fun a ha => by rw [List.mem_singleton.mp ha]; exact hw
    rw [Rr_cons]
    split
    · split
      · exact fun x hx => (List.mem_append.mp hx).elim (h x) (ih [w] h1 hq' x)
      · exact ih _ (fun a ha => (List.mem_append.mp ha).elim (h a) (h1 a)) hq'
    · intro x hx
      rcases List.mem_append.mp hx with hx | hx
      · exact expand_bits h x hx
      · split at hx
        · exact ih [w] h1 hq' x hx
        · rcases List.mem_cons.mp hx with rfl | hx
          · exact hw
          · exact ih [] (fun _ z => (nomatch z)) hq' x hx
theorem expand_head {h : PRow} {us : List PRow} (hh : 1 ≤ h.often) : ∃ x t, expand (h :: us) = x :: t ∧ x.bits = h.bits := by
  obtain ⟨k, hk⟩ : ∃ k, h.often = k + 1 := ⟨h.often - 1, by omega⟩
  refine ⟨copyOf h h, us.map (copyOf h) ++ (List.replicate k ((h :: us).map (copyOf h))).flatten, ?_, rfl⟩
  show (List.replicate h.often ((h :: us).map (copyOf h))).flatten = _
  rw [hk, List.replicate_succ, List.flatten_cons, List.map_cons]; rfl
theorem Rr_head : ∀ (q : List PRow) (h : PRow) (us : List PRow), 1 ≤ h.often → ∃ x t, Rr (h :: us) q = x :: t ∧ x.bits = h.bits := by
  intro q
  induction q with
  | nil => intro h us hh; rw [Rr_nil]; exact expand_head hh
  | cons w q ih =>
    intro h us hh
    rw [Rr_cons]
    split
    · split
      · exact ⟨h, _, rfl, rfl⟩
      · exact ih h _ hh
    · obtain ⟨x, t, e, hx⟩ := expand_head (us := us) hh
      rw [e]
      exact ⟨x, _, rfl, hx⟩
theorem Rr_head0 {B : List PRow} (hB : ∀ r ∈ B, r.Ok) {b : PRow} (h : (Rr [] B).head? = some b) : ∃ c, B.head? = some c ∧ b.bits = c.bits := by
  cases B with
  | nil => rw [Rr_nil] at h; cases h
  | cons w q =>
    rw [Rr_cons, if_neg (show ¬ headLess [] w = true from Bool.false_ne_true)] at h
    refine ⟨w, rfl, ?_⟩
    split at h
    · obtain ⟨x, t, e, hx⟩ := Rr_head q w [] (hB w (.head _)).lo
      rw [e] at h
      cases h; exact hx
    · cases h; rfl
theorem not_more {A : List PRow} (hok : ∀ a ∈ A, a.Ok) (h : A.any isMore = false) : ∀ a ∈ A, a.often = 1 := fun a ha => by
  have := List.any_eq_false.mp h a ha
  have h1 := (hok a ha).lo
  have h2 : ¬ 2 ≤ a.often := fun z => this (decide_eq_true z)
  omega
theorem max_pred (x y : Nat) : max (x - 1) (y - 1) = max x y - 1 := Nat.sub_max_sub_right ..
theorem max_pred1 {x : Nat} (y : Nat) (h : 0 < x) : max (x - 1 + 1) (y - 1) = max (x + 1) y - 1 := by
  rw [Nat.sub_add_cancel h]; exact max_pred (x + 1) y
theorem round_main : ∀ q : List PRow, (∀ r ∈ q, r.Ok) → keys (Rr [] q) = keys q ∧ nest (Rr [] q) = nest q - 1 := by
  refine blocks_ind (fun _ => ⟨rfl, rfl⟩) fun r A B hA hB iA iB hok => ?_
  have okr := hok r (.head _)
  have okA : ∀ a ∈ A, a.Ok := fun a ha => hok a (.tail _ (List.mem_append_left _ ha))
  have okB : ∀ a ∈ B, a.Ok := fun a ha => hok a (.tail _ (List.mem_append_right _ ha))
  obtain ⟨a1, a2⟩ := iA okA
  obtain ⟨b1, b2⟩ := iB okB
  have e : Rr [] (r :: (A ++ B)) = Rr [] (r :: A) ++ Rr [] B := by
    rw [← List.cons_append]
    exact Rr_cut _ [] (fun _ h => (nomatch h)) (cut_block hA hB)
  have hcut : Cut (Rr [] (r :: A)) (Rr [] B) := fun x hx b hb h => by
    obtain ⟨c, hc, hbc⟩ := Rr_head0 okB hb
    have := Rr_bits (P := fun bits => ¬ deeper (leadOf bits) (leadOf c.bits) = true) (r :: A) [] (fun _ h => (nomatch h)) (fun a ha => cut_block hA hB a ha c hc) x hx
    exact this (by rw [← hbc]; exact h)
  have hA' : ∀ x ∈ Rr [] A, Und r x := Rr_bits (P := fun bits => deeper r.lead (leadOf bits) = true) A [] (fun _ h => (nomatch h)) hA
  obtain ⟨d1, d2⟩ := due_cut _ hcut
  rw [e, d1, d2, keys_block hA hB, nest_block hA hB, b1, b2]
  have er : Rr [] (r :: A) = if isMore r then Rr [r] A else r :: Rr [] A := by
    rw [Rr_cons, if_neg (show ¬ headLess [] r = true from Bool.false_ne_true)]; rfl
  rw [er]
  cases hm : isMore r with
  | false =>
    have h1 : r.often = 1 := not_more (A := [r]) (fun a ha => by rw [List.mem_singleton.mp ha]; exact okr) (by rw [List.any_cons, hm]; rfl) r (.head _)
    rw [if_neg Bool.false_ne_true, keys_one hA', nest_one hA', a1, a2, h1]
    refine ⟨rfl, ?_⟩
    rw [if_neg (by decide), if_neg (by decide)]
    exact max_pred _ _
  | true =>
    have h2 : 1 < r.often := of_decide_eq_true hm
    rw [if_pos rfl, if_pos h2]
    cases ha : A.any isMore with
    | false =>
      have h1 := not_more okA ha
      obtain ⟨o1, o2⟩ := ones_due A h1
      rw [Rr_ones A [] hA ha]
      have hex : ∀ x ∈ expand (r :: A), x.often = 1 := fun x hx => by
        obtain ⟨_, _, _, _, rfl⟩ := mem_expand hx; rfl
      obtain ⟨x1, x2⟩ := ones_due _ hex
      rw [show [r] ++ A = r :: A from rfl, x1, x2, o1, o2]
      refine ⟨?_, max_pred 1 _⟩
      congr 1
      show ((List.replicate r.often ((r :: A).map (copyOf r))).flatten).map key = _
      rw [List.map_flatten, List.map_replicate, List.map_map]
      rfl
    | true =>
      rw [Rr_more A [] hA ha]
      have hn : 0 < nest A := of_decide_eq_true ((nest_more A).trans ha)
      rw [show [r] ++ Rr [] A = r :: Rr [] A from rfl, keys_one hA', nest_one hA', if_pos h2, a1, a2]
      exact ⟨rfl, max_pred1 _ hn⟩
theorem Rr_still : ∀ q : List PRow, q.any isMore = false → Rr [] q = q := by
  intro q
  induction q with
  | nil => exact fun _ => rfl
  | cons w q ih =>
    intro h
    rw [List.any_cons, Bool.or_eq_false_iff] at h
    rw [Rr_cons, if_neg (show ¬ headLess [] w = true from Bool.false_ne_true), if_neg (by rw [h.1]; exact Bool.false_ne_true), ih h.2]; rfl
theorem Rr_ok {q : List PRow} (h : ∀ r ∈ q, r.Ok) : ∀ r ∈ Rr [] q, r.Ok := by
  have := RInv.all RInv.start h
  intro r hr
  rcases List.mem_append.mp (show r ∈ (q.foldl rstep ⟨[], [], false⟩).out ++ expand (q.foldl rstep ⟨[], [], false⟩).held from hr) with hr | hr
  · exact this.out r hr
  · obtain ⟨a, ha, b, hb, rfl⟩ := mem_expand hr
    exact copy_ok (this.held a ha) (this.held b hb)
noncomputable def kstep (v : List Int) (k : Key) : List Int := v.set k.1 (v.getD k.1 0 + (if k.2.1 then v.getD k.2.2 0 else -(v.getD k.2.2 0)))
noncomputable def app (t : Tab) (v : List Int) : List Int := (List.range 3).map fun i => ((List.range 3).map fun k => at3 t i k * v.getD k 0).sum
theorem app_eq (t : Tab) (v : List Int) : app t v = [at3 t 0 0 * v.getD 0 0 + (at3 t 0 1 * v.getD 1 0 + (at3 t 0 2 * v.getD 2 0 + 0)), at3 t 1 0 * v.getD 0 0 + (at3 t 1 1 * v.getD 1 0 + (at3 t 1 2 * v.getD 2 0 + 0)), at3 t 2 0 * v.getD 0 0 + (at3 t 2 1 * v.getD 1 0 + (at3 t 2 2 * v.getD 2 0 + 0))] := rfl
theorem app_len (t : Tab) (v : List Int) : (app t v).length = 3 := rfl
theorem kstep_len (v : List Int) (k : Key) : (kstep v k).length = v.length := by unfold kstep; rw [List.length_set]
theorem folds_len (l : List Key) : ∀ v : List Int, (l.foldl kstep v).length = v.length := by
  induction l with
  | nil => exact fun _ => rfl
  | cons k l ih => intro v; rw [List.foldl_cons, ih, kstep_len]
theorem app_mul (a b : Tab) (v : List Int) : app (mulT a b) v = app a (app b v) := by
  rw [app_eq (mulT a b), app_eq a, app_eq b]
  simp only [at3_mul _ _ (show (0 : Nat) < 3 by decide) (show (0 : Nat) < 3 by decide), at3_mul _ _ (show (0 : Nat) < 3 by decide) (show (1 : Nat) < 3 by decide), at3_mul _ _ (show (0 : Nat) < 3 by decide) (show (2 : Nat) < 3 by decide),
    at3_mul _ _ (show (1 : Nat) < 3 by decide) (show (0 : Nat) < 3 by decide), at3_mul _ _ (show (1 : Nat) < 3 by decide) (show (1 : Nat) < 3 by decide), at3_mul _ _ (show (1 : Nat) < 3 by decide) (show (2 : Nat) < 3 by decide),
    at3_mul _ _ (show (2 : Nat) < 3 by decide) (show (0 : Nat) < 3 by decide), at3_mul _ _ (show (2 : Nat) < 3 by decide) (show (1 : Nat) < 3 by decide), at3_mul _ _ (show (2 : Nat) < 3 by decide) (show (2 : Nat) < 3 by decide),
    List.getD_cons_zero, List.getD_cons_succ, Int.add_mul, Int.mul_add, Int.mul_assoc, Int.mul_zero, Int.zero_mul, Int.add_zero]
  refine List.cons_eq_cons.mpr ⟨by omega, List.cons_eq_cons.mpr ⟨by omega, List.cons_eq_cons.mpr ⟨by omega, rfl⟩⟩⟩
theorem app_I (v : List Int) (h : v.length = 3) : app I3 v = v := by
  match v, h with
  | [a, b, c], _ => rw [app_eq]; simp [at3, I3]
noncomputable def dot (l v : List Int) : Int := l.getD 0 0 * v.getD 0 0 + (l.getD 1 0 * v.getD 1 0 + (l.getD 2 0 * v.getD 2 0 + 0))
theorem dot_comm (l v : List Int) : dot l v = dot v l := by
  unfold dot
  rw [Int.mul_comm (l.getD 0 0), Int.mul_comm (l.getD 1 0), Int.mul_comm (l.getD 2 0)]
theorem dot_set (v : List Int) (x : Int) : ∀ l : List Int, l.length = 3 → ∀ q, q < 3 → dot (l.set q (l.getD q 0 + x)) v = dot l v + x * v.getD q 0
  | [a, b, c], _, q, hq => by
    have e (a y : Int) : (a + x) * y = a * y + x * y := Int.add_mul ..
    match q, hq with
    | 0, _ => show (a + x) * _ + (b * _ + (c * _ + 0)) = a * _ + (b * _ + (c * _ + 0)) + _; rw [e, Int.add_right_comm]
    | 1, _ => show a * _ + ((b + x) * _ + (c * _ + 0)) = a * _ + (b * _ + (c * _ + 0)) + _; rw [e, Int.add_right_comm, Int.add_assoc (a * _)]
    | 2, _ => show a * _ + (b * _ + ((c + x) * _ + 0)) = a * _ + (b * _ + (c * _ + 0)) + _; rw [e, Int.add_right_comm, Int.add_assoc (a * _), Int.add_assoc (b * _)]
theorem row_line (r : PRow) (hr : r.Ok) (l : List Int) (hl : l.length = 3) (v : List Int) (hv : v.length = 3) : dot (lineStep r l) v = dot l (kstep v (key r)) := by
  have e1 := dot_set v (if r.plus then l.getD r.p 0 else -(l.getD r.p 0)) l hl r.q hr.q
  have e2 := dot_set l (if r.plus then v.getD r.q 0 else -(v.getD r.q 0)) v hv r.p hr.p
  refine e1.trans ?_
  rw [dot_comm l (kstep v (key r))]
  refine Eq.trans ?_ e2.symm
  rw [dot_comm v l]
  congr 1
  cases r.plus
  · show -(l.getD r.p 0) * v.getD r.q 0 = -(v.getD r.q 0) * l.getD r.p 0
    rw [Int.neg_mul, Int.neg_mul, Int.mul_comm]
  · exact Int.mul_comm _ _
theorem app_line (r : PRow) (hr : r.Ok) (t : Tab) (ht : T3 t) (v : List Int) (hv : v.length = 3) : app (t.map (lineStep r)) v = app t (kstep v (key r)) := by
  have hrow : ∀ i, i < 3 → (t.getD i []).length = 3 := fun i hi => by
    have hi : i < t.length := by rw [ht.1]; exact hi
    rw [List.getD_eq_getElem?_getD, List.getElem?_eq_getElem hi]; exact ht.2 _ (List.getElem_mem hi)
  have at_ : ∀ i, i < 3 → ∀ k, at3 (t.map (lineStep r)) i k = (lineStep r (t.getD i [])).getD k 0 := fun i hi k => at3_map _ _ _ _ (by rw [ht.1]; exact hi)
  rw [app_eq, app_eq]
  simp only [at_ 0 (by decide), at_ 1 (by decide), at_ 2 (by decide)]
  refine List.cons_eq_cons.mpr ⟨row_line r hr _ (hrow 0 (by decide)) v hv, List.cons_eq_cons.mpr ⟨row_line r hr _ (hrow 1 (by decide)) v hv, List.cons_eq_cons.mpr ⟨row_line r hr _ (hrow 2 (by decide)) v hv, rfl⟩⟩⟩
theorem app_pow (t : Tab) (l : List Key) (h : ∀ v : List Int, v.length = 3 → l.foldl kstep v = app t v) : ∀ (k : Nat) (v : List Int), v.length = 3 → ((List.replicate (k + 1) l).flatten).foldl kstep v = app (powT t k) v
  | 0, v, hv => by
    rw [List.replicate_one, List.flatten_singleton]; exact h v hv
  | k + 1, v, hv => by
    rw [List.replicate_succ', List.flatten_append, List.flatten_singleton, List.foldl_append, app_pow t l h k v hv, h _ (app_len _ _)]
    show _ = app (mulT t (powT t k)) v
    rw [app_mul]
theorem due_t3 : ∀ q : List PRow, T3 (due q).table := by
  refine blocks_ind T3.I fun r A B hA hB _ _ => ?_
  rw [due_block hA hB]; exact T3.mul _ _
theorem reg_due : ∀ q : List PRow, (∀ r ∈ q, r.Ok) → ∀ v : List Int, v.length = 3 → (keys q).foldl kstep v = app (due q).table v := by
  refine blocks_ind (fun _ v hv => (app_I v hv).symm) fun r A B hA hB iA iB hok v hv => ?_
  have okr := hok r (.head _)
  have iA := iA fun a ha => hok a (.tail _ (List.mem_append_left _ ha))
  have iB := iB fun a ha => hok a (.tail _ (List.mem_append_right _ ha))
  obtain ⟨k, hk⟩ : ∃ k, r.often = k + 1 := ⟨r.often - 1, by have := okr.lo; omega⟩
  rw [keys_block hA hB, due_block hA hB, List.foldl_append]
  show _ = app (mulT (due B).table (powT ((due A).table.map (lineStep r)) (r.often - 1))) v
  rw [hk, Nat.add_sub_cancel, app_mul, iB _ (by rw [folds_len]; exact hv)]
  congr 1
  refine app_pow _ _ (fun u hu => ?_) k v hv
  rw [List.foldl_cons, app_line r okr _ (due_t3 A) u hu, iA _ (by rw [kstep_len]; exact hu)]
theorem lex_quote (r : List Nat) : ∀ (w acc : List Nat), (∀ c ∈ w, c ≠ 34 ∧ c ≠ 92 ∧ c ≠ 10) → LexQ (strOf acc) (w ++ 34 :: r) (strOf (acc ++ w)) r := by
  intro w
  induction w with
  | nil => intro acc _; rw [List.append_nil]; exact .close
  | cons c w ih =>
    intro acc h
    obtain ⟨h1, h2, h3⟩ := h c (.head _)
    have := ih (acc ++ [c]) fun x hx => h x (.tail _ hx)
    rw [List.append_assoc] at this
    refine .step h1 h2 h3 ?_
    rw [chr_of, strOf_app]; exact this
theorem lex_bare (r : List Nat) : ∀ (w acc : List Nat), (∀ c ∈ w, c ≠ 10) → LexB (strOf acc) ((w.map fun c => [92, c]).flatten ++ 10 :: r) (strOf (acc ++ w)) r 1 := by
  intro w
  induction w with
  | nil => intro acc _; rw [List.append_nil]; exact .nl
  | cons c w ih =>
    intro acc h
    have := ih (acc ++ [c]) fun x hx => h x (.tail _ hx)
    rw [List.append_assoc] at this
    rw [List.map_cons, List.flatten_cons, List.append_assoc]
    refine .esc (h c (.head _)) ?_
    rw [chr_of, strOf_app]; exact this
theorem lex_line {w : List Nat} {hid pre : Bool} {more : List Nat} (hw : ∀ c ∈ w, c ≠ 34 ∧ c ≠ 92 ∧ c ≠ 10) (hne : w ≠ []) :
    LexO ((if pre then [10] else []) ++ (lineOf w hid ++ more)) (strOf w) ((if hid then [] else [10]) ++ more) ((if pre then 1 else 0) + (if hid then 1 else 0)) := by
  have main : LexO (lineOf w hid ++ more) (strOf w) ((if hid then [] else [10]) ++ more) (if hid then 1 else 0) := by
    cases hid with
    | false =>
      show LexO ([34] ++ w ++ [34] ++ [10] ++ more) (strOf w) (10 :: more) 0
      have := lex_quote (10 :: more) w [] hw
      rw [show [34] ++ w ++ [34] ++ [10] ++ more = 34 :: (w ++ 34 :: (10 :: more)) by simp]
      exact .quote this
    | true =>
      show LexO ((w.map fun c => [92, c]).flatten ++ [10] ++ more) (strOf w) more 1
      cases w with
      | nil => exact absurd rfl hne
      | cons c w =>
        rw [List.map_cons, List.flatten_cons, show [92, c] ++ (w.map fun c => [92, c]).flatten ++ [10] ++ more = 92 :: c :: ((w.map fun c => [92, c]).flatten ++ 10 :: more) by simp]
        refine .esc (hw c (.head _)).2.2 ?_
        have := lex_bare more w [c] fun x hx => (hw x (.tail _ hx)).2.2
        rw [show (Str.ofString "") = strOf [] from rfl, chr_of, strOf_app]
        exact this
  cases pre with
  | false => rw [show ((if false = true then 1 else 0) + (if hid then 1 else 0)) = (if hid then 1 else 0) by rw [if_neg Bool.false_ne_true, Nat.zero_add]]; exact main
  | true => rw [show ((if true = true then 1 else 0) + (if hid then 1 else 0)) = (if hid then 1 else 0) + 1 by rw [if_pos rfl, Nat.add_comm]]; exact .nl main
theorem lex_end (pre : Bool) : LexO ((if pre then [10] else []) ++ [101, 110, 100]) "end" [] (if pre then 1 else 0) := by
  have main : LexO [101, 110, 100] "end" [] 0 := .plain (by decide) (.plain (by decide) (.plain (by decide) .eof))
  cases pre with
  | false => exact main
  | true => exact .nl main
theorem swaps_yes {elt : Expr} {gens : List Comprehension} {sc : Scope} {pos py : Pos} {y : Str} {l : Nat} {env : Env} (hb : env.blockKind = .function) (hk : env.kindOf y = some .local) (hl : py.line = pos.line) (hn : (sc.names.any fun (n, k) => n == y && (k == .local || k == .cell)) = false) :
    swapsWith (.ListComp elt gens sc pos) (some (.Name y py)) l env = pure true := by
  unfold swapsWith
  rw [show Expr.pos (.ListComp elt gens sc pos) = pos from rfl]
  simp only [hb, hk, hn, hl]
  rw [show (ScopeKind.function == ScopeKind.function) = true from rfl, show (some NameKind.local == some NameKind.local) = true from rfl, beq_self_eq_true]; rfl
theorem swaps_cell {elt : Expr} {gens : List Comprehension} {sc : Scope} {pos py : Pos} {y : Str} {l : Nat} {env : Env} (hk : env.kindOf y = some .cell) :
    swapsWith (.ListComp elt gens sc pos) (some (.Name y py)) l env = pure false := by
  unfold swapsWith
  simp only [hk]
  rw [show (some NameKind.cell == some NameKind.local) = false from rfl]
  simp
section
variable {c : Cx} {st : St} {m : MH} {target iter elt : Expr} {body : List Stmt} {pos : Pos}
theorem x_assignV {x : Str} {e : Expr} {p pos : Pos} {Q : MF → St → Prop} (hc : c.Ok) (h : EvalTo c e st fun v st₁ => PutT c x v st₁ fun st₂ => Q .next st₂) (hsw : swapsWith e (some (.Name x p)) pos.line c.env = pure false) : ExecTo c (.Assign [.Name x p] e pos) st Q := by
  intro σ hh t Qs Es I q
  refine wpAny_Assign_Name (h σ hh t _ _ I fun σ₁ h₁ t₁ v y st₁ k₁ I₁ V₁ E₁ => ?_) hsw
  obtain ⟨vars', hp, hq⟩ := k₁
  exact store_ hc hp I₁ V₁ fun h' t' I' E' => q σ₁ h' t' _ .next _ hq I' rfl (E₁.trans E')
theorem comp_list {l : Nat} {xs : List MV} (P : Nat → List MV → St → Prop) {Q : List MV → MH → Prop} (hl : ∀ k ys st, P k ys st → st.m.H l = some (.list xs)) (hP : P 0 [] st)
    (step : ∀ k ys st x, xs[k]? = some x → P k ys st → AsgTo c target x st fun st₁ => EvalTo c elt st₁ fun y st₂ => ys.length ≤ sizeLine ∧ P (k + 1) (ys ++ [y]) st₂)
    (fin : ∀ ys st, P xs.length ys st → Q ys st.m) : CompN c target elt (listSrc l) (xs.length + 1) (listSrc l).k0 [] st Q := by
  suffices H : ∀ j k ys st, k + j = xs.length → P k ys st → CompN c target elt (listSrc l) (j + 1) k ys st Q from H _ 0 [] st (Nat.zero_add _) hP
  intro j
  induction j with
  | zero => intro k ys st hk hp; exact .inr ⟨st.m, ⟨xs, hl k ys st hp, by omega, rfl⟩, fin ys st (by rw [← show k = xs.length by omega]; exact hp)⟩
  | succ j ih =>
    intro k ys st hk hp
    have hlt : k < xs.length := by omega
    refine .inl ⟨⟨xs, _, hl k ys st hp, List.getElem?_eq_getElem hlt⟩, ?_⟩
    rintro v m' k' ⟨xs', h1, h2, rfl, rfl⟩
    rw [hl k ys st hp] at h1; cases h1
    refine fun σ h t u Qs Es I V q => step k ys st v h2 hp σ h t u Qs Es I V fun σ' h' t' st' hq I' E' => q σ' h' t' st' ?_ I' E'
    exact FT.mono hq fun y st₂ hy => ⟨hy.1, ih (k + 1) (ys ++ [y]) st₂ (by omega) hy.2⟩
end
theorem Cx.Ok.block {c : Cx} (hc : c.Ok) : c.env.blockKind = .function := by
  unfold Env.blockKind
  rw [hc.kind]; rfl
noncomputable abbrev lp (a1 a2 a3 a4 a5 a6 a7 a8 a9 a10 a11 a12 a13 a14 : Option MV) : List (Option MV) := [a1, a2, a3, a4, a5, a6, a7, a8, a9, a10, a11, a12, a13, a14, none, none, none, none, none, none, none, none, none, none]
section
variable {G : GC} {A : Around} {env : Env} {own : List Addr} {C Cw : Addr} {I : LexIds} {L : Int} {fl fm fa : Nat → Addr} {n : Nat} {m : MH}
noncomputable abbrev cL (G : GC) (A : Around) (env : Env) (own : List Addr) : Cx := cxM G A env own (stmtAt 21)
theorem str_digit : ∀ o : Nat, o ≤ 3 → (Str.ofString (toString (o : Int))) = strOf [48 + o] := by decide +kernel
theorem l_words {ri : Nat} {vs : List MV} {rs : List PRow} {a1 a4 a5 a6 a7 a8 a9 a10 a11 a12 a13 a14 : Option MV} (Fa : Facts G fa) (hri : m.H ri = some (.list vs)) (hrs : All2 (IsRow m) vs (rs.map PRow.row)) (hok : ∀ r ∈ rs, r.Ok) (hl : rs.length ≤ 4) (hw : WF m) (hc : (cL G A env own).Ok) :
    ExecTo (cL G A env own) (nthOf (bodyOf (stmtAt 21)) 1) ⟨lp a1 (some (.ref ri)) none a4 a5 a6 a7 a8 a9 a10 a11 a12 a13 a14, m⟩ fun f st' => f = .next ∧ ∃ wl, st'.vars = lp a1 (some (.ref ri)) (some (.ref wl)) a4 a5 a6 a7 a8 a9 a10 a11 a12 a13 a14 ∧ Grow m st'.m ∧ st'.m.H wl = some (.list (rs.map wordV)) := by
  have hstr : GlobIs G "str" (.type "str") := Fa.ty "str" (by decide)
  have hsz := sizeLine_big
  have hvl : vs.length = rs.length := by rw [hrs.len, List.length_map]
  refine x_assign_comp hc (S := ⟨rfl, by decide +kernel, by decide +kernel, by decide +kernel⟩) (hV := by (focus repeat first | with_reducible exact CompVars.nil | apply CompVars.loc | apply CompVars.cell | apply CompVars.glob | (apply CompVars.free; (focus repeat first | with_reducible exact Slot.head | (show Slot (_ :: _) (_ :: _) _ _ _; first | with_reducible exact Slot.head | apply Slot.tail)); (first | exact .inl rfl | exact .inr (.inl rfl) | exact .inr (.inr rfl) | exact .inr rfl)))) (hsw := swaps_yes hc.block ((hc.rel 2 _ _ rfl).elim id fun z => nomatch z.1) rfl (by decide +kernel)) ?_
  refine ie_val hc (Ev.to (v := .ref ri) (m := m) (by (apply Ev.nm (by assumption); (repeat first | with_reducible exact Slot.head | (show Slot (_ :: _) (_ :: _) _ _ _; first | with_reducible exact Slot.head | apply Slot.tail)); rfl)) (iv_list hc.hand hri ⟨rfl, (fun z => nomatch z), rfl, vs.length + 1, fun env₁ own₁ fp₁ hc₁ => ?_⟩))
  refine comp_list (xs := vs) (fun k ys st => (∃ w1 w2 w3 w4, st.vars = [none, w1, w2, w3, w4, none]) ∧ st.m = m ∧ ys = (rs.take k).map wordV) (fun k ys st h => h.2.1 ▸ hri) ⟨⟨_, _, _, _, rfl⟩, rfl, rfl⟩ ?_ ?_
  · rintro k ys ⟨vars, m₁⟩ x hx ⟨⟨w1, w2, w3, w4, hv⟩, hm, hys⟩
    dsimp only at hv hm hys
    subst hv hm
    have hk : k < rs.length := by have := (List.getElem?_eq_some_iff.mp hx).1; omega
    have hp := List.getElem?_eq_getElem hk
    obtain ⟨y, hy, b, rfl, hb⟩ := hrs.get (by rw [List.getElem?_map, hp]; rfl)
    rw [hx] at hy; cases hy
    have hr := hok _ (List.getElem_mem hk)
    have hld : (leadL rs[k]).length ≤ 4 := by unfold leadL; rw [List.length_map]; exact hr.len
    refine asg_tuple hc₁ hb rfl (asg_name hc₁ ⟨_, by (focus repeat first | with_reducible exact Put.headL | with_reducible exact Put.headC | (show Put (_ :: _) (_ :: _) _ _ _; first | with_reducible exact Put.headL | with_reducible exact Put.headC | apply Put.tail)), asg_name hc₁ ⟨_, by (focus repeat first | with_reducible exact Put.headL | with_reducible exact Put.headC | (show Put (_ :: _) (_ :: _) _ _ _; first | with_reducible exact Put.headL | with_reducible exact Put.headC | apply Put.tail)), asg_name hc₁ ⟨_, by (focus repeat first | with_reducible exact Put.headL | with_reducible exact Put.headC | (show Put (_ :: _) (_ :: _) _ _ _; first | with_reducible exact Put.headL | with_reducible exact Put.headC | apply Put.tail)), asg_name hc₁ ⟨_, by (focus repeat first | with_reducible exact Put.headL | with_reducible exact Put.headC | (show Put (_ :: _) (_ :: _) _ _ _; first | with_reducible exact Put.headL | with_reducible exact Put.headC | apply Put.tail)), ?_⟩⟩⟩⟩)
    dsimp only [AsgsTo]
    refine Ev.to (v := wordV rs[k]) (m := m₁) ?_ ⟨?_, ⟨_, _, _, _, rfl⟩, rfl, ?_⟩
    · apply Ev.bin (a := .str (strOf (leadL rs[k] ++ [48 + rs[k].often]))) (b := .str (strOf (deedL rs[k]))) (m₁ := m₁) (m₂ := m₁) hc₁
      · apply Ev.bin (a := .str (strOf (leadL rs[k]))) (b := .str (strOf [48 + rs[k].often])) (m₁ := m₁) (m₂ := m₁) hc₁
        · exact Ev.name hc₁ (.tail .head) (.inl rfl)
        · apply Ev.call (as := [.int rs[k].often]) (m₂ := m₁) hc₁
          · (apply Ev.glob (by assumption); (focus repeat first | with_reducible exact Glob.head | (show Glob (_ :: _) _; first | with_reducible exact Glob.head | apply Glob.tail)); assumption)
          · apply Evs.cons (m₁ := m₁)
            · exact Ev.name hc₁ (.tail (.tail .head)) (.inl rfl)
            · exact Evs.nil
          · exact keeps_type
          · have h3 := hr.hi
            exact call_stri ⟨by omega, by omega⟩ ⟨congrArg MV.str (str_digit _ h3), rfl⟩
        · exact bin_str (by rw [strOf_len, strOf_len]; show _ + 1 ≤ _; omega) ⟨by rw [strOf_app], rfl⟩
      · exact Ev.name hc₁ (.tail (.tail (.tail .head))) (.inl rfl)
      · exact bin_str (by rw [strOf_len, strOf_len, List.length_append]; show _ + 1 + 3 ≤ _; omega) ⟨by rw [strOf_app, List.append_assoc]; rfl, rfl⟩
    · rw [hys, List.length_map, List.length_take]; omega
    · rw [List.take_add_one, hp, List.map_append, hys]; rfl
  · rintro ys ⟨vars, m₁⟩ ⟨_, hm, hys⟩
    dsimp only at hm hys
    subst hm
    rw [hvl, List.take_length] at hys
    refine ⟨_, by (focus repeat first | with_reducible exact Put.headL | with_reducible exact Put.headC | (show Put (_ :: _) (_ :: _) _ _ _; first | with_reducible exact Put.headL | with_reducible exact Put.headC | apply Put.tail)), ?_⟩
    exact ⟨rfl, m₁.n, rfl, .alloc hw _, by rw [hys]; exact alloc_new _ _⟩
theorem l_lexer {ri wl : Nat} {vs : List MV} {rs : List PRow} {a1 a5 a6 a7 a8 a9 a10 a11 a12 a13 a14 : Option MV} (K : LxK G C fl) (Fa : Facts G fa) (LK : LamK G (fa 15)) (hri : m.H ri = some (.list vs)) (hrs : All2 (IsRow m) vs (rs.map PRow.row)) (hok : ∀ r ∈ rs, r.Ok) (hl : rs.length ≤ 4) (hwl : m.H wl = some (.list (rs.map wordV))) (hw : WF m) (htb : m.tb = false) (hA : Good (n + 1 + 1 + 1) A) (hc : (cL G A env own).Ok) :
    ExecTo (cL G A env own) (nthOf (bodyOf (stmtAt 21)) 2) ⟨lp a1 (some (.ref ri)) (some (.ref wl)) none a5 a6 a7 a8 a9 a10 a11 a12 a13 a14, m⟩ fun f st' => f = .next ∧ ∃ I m₁, st'.vars = lp a1 (some (.ref ri)) (some (.ref wl)) (some (.ref (LexIds.i I))) a5 a6 a7 a8 a9 a10 a11 a12 a13 a14 ∧
      Grow m m₁ ∧ Lx C I 1 [] (textOf (rs.map fun r => (wordL r, r.hid)) ++ [101, 110, 100]) st'.m ∧ Grow m₁ { st'.m with tb := m₁.tb } ∧ ∀ o, m₁.H I.d ≠ some o ∧ m₁.H I.pl ≠ some o ∧ m₁.H I.sl ≠ some o := by
  have hlx : GlobIs G "_law_lexer" (.ref (fa 15)) := Fa.def_ (15, "_law_lexer") (by decide)
  have hsz := sizeLine_big
  have hvl : vs.length = rs.length := by rw [hrs.len, List.length_map]
  refine x_assign hc (ev_call hc (Ev.to (v := .st (.ref (fa 15))) (m := m) (by (apply Ev.glob (by assumption); (focus repeat first | with_reducible exact Glob.head | (show Glob (_ :: _) _; first | with_reducible exact Glob.head | apply Glob.tail)); assumption)) (args_cons (Ev.to (v := .ref wl) (m := m) (by (apply Ev.nm (by assumption); (repeat first | with_reducible exact Slot.head | (show Slot (_ :: _) (_ :: _) _ _ _; first | with_reducible exact Slot.head | apply Slot.tail)); rfl)) (args_cons ?_)))))
  apply ev_comp hc
  case S => exact ⟨rfl, by decide +kernel, by decide +kernel, by decide +kernel⟩
  case hV => (focus repeat first | with_reducible exact CompVars.nil | apply CompVars.loc | apply CompVars.cell | apply CompVars.glob | (apply CompVars.free; (focus repeat first | with_reducible exact Slot.head | (show Slot (_ :: _) (_ :: _) _ _ _; first | with_reducible exact Slot.head | apply Slot.tail)); (first | exact .inl rfl | exact .inr (.inl rfl) | exact .inr (.inr rfl) | exact .inr rfl)))
  refine ie_val hc (Ev.to (v := .ref ri) (m := m) (by (apply Ev.nm (by assumption); (repeat first | with_reducible exact Slot.head | (show Slot (_ :: _) (_ :: _) _ _ _; first | with_reducible exact Slot.head | apply Slot.tail)); rfl)) (iv_list hc.hand hri ⟨rfl, (fun z => nomatch z), rfl, vs.length + 1, fun env₁ own₁ fp₁ hc₁ => ?_⟩))
  refine comp_list (xs := vs) (fun k ys st => (∃ w1 w2 w3 w4, st.vars = [none, w1, w2, w3, w4]) ∧ st.m = m ∧ ys = (rs.take k).map fun r => .int (if r.hid then 1 else 0)) (fun k ys st h => h.2.1 ▸ hri) ⟨⟨_, _, _, _, rfl⟩, rfl, rfl⟩ ?_ ?_
  · rintro k ys ⟨vars, m₁⟩ x hx ⟨⟨w1, w2, w3, w4, hv⟩, hm, hys⟩
    dsimp only at hv hm hys
    subst hv hm
    have hk : k < rs.length := by have := (List.getElem?_eq_some_iff.mp hx).1; omega
    have hp := List.getElem?_eq_getElem hk
    obtain ⟨y, hy, b, rfl, hb⟩ := hrs.get (by rw [List.getElem?_map, hp]; rfl)
    rw [hx] at hy; cases hy
    refine asg_tuple hc₁ hb rfl (asg_name hc₁ ⟨_, by (focus repeat first | with_reducible exact Put.headL | with_reducible exact Put.headC | (show Put (_ :: _) (_ :: _) _ _ _; first | with_reducible exact Put.headL | with_reducible exact Put.headC | apply Put.tail)), asg_name hc₁ ⟨_, by (focus repeat first | with_reducible exact Put.headL | with_reducible exact Put.headC | (show Put (_ :: _) (_ :: _) _ _ _; first | with_reducible exact Put.headL | with_reducible exact Put.headC | apply Put.tail)), asg_name hc₁ ⟨_, by (focus repeat first | with_reducible exact Put.headL | with_reducible exact Put.headC | (show Put (_ :: _) (_ :: _) _ _ _; first | with_reducible exact Put.headL | with_reducible exact Put.headC | apply Put.tail)), asg_name hc₁ ⟨_, by (focus repeat first | with_reducible exact Put.headL | with_reducible exact Put.headC | (show Put (_ :: _) (_ :: _) _ _ _; first | with_reducible exact Put.headL | with_reducible exact Put.headC | apply Put.tail)), ?_⟩⟩⟩⟩)
    dsimp only [AsgsTo]
    refine Ev.to (v := .int (if rs[k].hid then 1 else 0)) (m := m₁) (Ev.name hc₁ (.tail (.tail (.tail (.tail .head)))) (.inl rfl)) ⟨?_, ⟨_, _, _, _, rfl⟩, rfl, ?_⟩
    · rw [hys, List.length_map, List.length_take]; omega
    · rw [List.take_add_one, hp, List.map_append, hys]; rfl
  · rintro ys ⟨vars, m₁⟩ ⟨_, hm, hys⟩
    dsimp only at hm hys
    subst hm
    rw [hvl, List.take_length] at hys
    subst hys
    have g1 : Grow m₁ (m₁.alloc (.list (rs.map fun r => .int (if r.hid then 1 else 0)))) := .alloc hw _
    have n1 : (m₁.alloc (.list (rs.map fun r => MV.int (if r.hid then 1 else 0)))).H m₁.n = some (.list (rs.map fun r => .int (if r.hid then 1 else 0))) := alloc_new _ _
    have t1 : (m₁.alloc (.list (rs.map fun r => MV.int (if r.hid then 1 else 0)))).tb = false := htb
    generalize m₁.alloc (.list (rs.map fun r => MV.int (if r.hid then 1 else 0))) = m₂ at g1 n1 t1 ⊢
    refine args_nil ⟨keeps_stat (Fa.fn 15 (by decide)).keep, ?_⟩
    have hall : ∀ r : PRow, r.Ok → ∀ c ∈ wordL r, c < 128 := fun r hr => wordL_all hr _ (by decide)
    refine HT.mono (c_lexer (n := n) (ws := rs.map fun r => (wordL r, r.hid)) K Fa LK hA g1.wf t1 (by rw [List.map_map]; exact g1.keep _ _ hwl) (by rw [List.map_map]; exact n1) ?_ (by rw [List.length_map]; omega) ?_).ht ?_
    · intro p hp
      obtain ⟨r, hr, rfl⟩ := List.mem_map.mp hp
      exact ⟨by show (wordL r).length ≤ 20; rw [wordL_len]; have := (hok r hr).len; omega, hall r (hok r hr)⟩
    · intro c hcc
      obtain ⟨l, hl, hcl⟩ := List.mem_flatten.mp hcc
      obtain ⟨p, hp, rfl⟩ := List.mem_map.mp hl
      obtain ⟨r, hr, rfl⟩ := List.mem_map.mp hp
      have hr' := hall r (hok r hr)
      have hcl : c ∈ lineOf (wordL r) r.hid := hcl
      unfold lineOf at hcl
      split at hcl
      · rcases List.mem_append.mp hcl with h | h
        · obtain ⟨l, hl, hcl⟩ := List.mem_flatten.mp h
          obtain ⟨x, hx, rfl⟩ := List.mem_map.mp hl
          simp only [List.mem_cons, List.mem_nil_iff, or_false] at hcl
          rcases hcl with rfl | rfl
          · decide
          · exact hr' _ hx
        · rw [List.mem_singleton.mp h]; decide
      · simp only [List.mem_append, List.mem_singleton] at hcl
        rcases hcl with ((h | h) | h) | h
        · rw [h]; decide
        · exact hr' _ h
        · rw [h]; decide
        · rw [h]; decide
    · rintro y m₃ ⟨I, rfl, X, g3, hno⟩
      refine ⟨_, by (focus repeat first | with_reducible exact Put.headL | with_reducible exact Put.headC | (show Put (_ :: _) (_ :: _) _ _ _; first | with_reducible exact Put.headL | with_reducible exact Put.headC | apply Put.tail)), ?_⟩
      exact ⟨rfl, I, m₂, rfl, g1, X, g3, hno⟩
end
theorem textOf_drop {ws : List (List Nat × Bool)} {k : Nat} {p : List Nat × Bool} (h : ws[k]? = some p) : textOf (ws.drop k) = lineOf p.1 p.2 ++ textOf (ws.drop (k + 1)) := by
  have hk : k < ws.length := (List.getElem?_eq_some_iff.mp h).1
  have hx : ws[k] = p := (List.getElem?_eq_some_iff.mp h).2
  rw [List.drop_eq_getElem_cons hk, hx]; rfl
noncomputable abbrev preL (pre : Bool) : List Nat := if pre then [10] else []
noncomputable abbrev preN (pre : Bool) : Nat := if pre then 1 else 0
section
variable {c : Cx} {st : St} {C : Addr} {I : LexIds} {L : Int} {pb : List MV} {rest : List Nat} {fl : Nat → Addr} {n : Nat} {e o : Expr} {t : MV} {ap p : Pos}
theorem ev_pushG (K : LxK c.G C fl) (X : Lx C I L pb rest st.m) (hl : pb.length < 890) (hA : Good (n + 1) c.A) (hc : c.Ok) (ho : Ev c o st (.ref I.i) st.m) (he : Ev c e st t st.m) (hb : plainBase o = true) (hs : [e].all notStar = true) (hline : (ap.endLine == p.line) = true) :
    Ev c (.Call (.Attribute o (Str.ofString "push_token") ap) [e] [] p) st .none (st.m.set I.pl (.list (pb ++ [t]))) := by
  obtain ⟨F, hf, ht⟩ := K.meth (3, "push_token") (by decide)
  refine Ev.meth (m₁ := st.m) (m₂ := st.m) (m₃ := st.m) (ov := .ref I.i) (fv := .st (.ref (fl 3))) (bs := [.ref I.i]) (as := [t]) hc ho ?_ ?_ (keeps_stat F.keep) (c_push K hA X hl).ht hb hs (by show 1 < 30; decide) hline
  · exact meth_inst K.cls X.i X.d hf ht F.lt rfl ⟨rfl, rfl⟩
  · refine Evs.cons he Evs.nil ?_
    rw [List.all_cons, List.all_nil, Bool.and_true] at hs; exact hs
theorem ev_popG {ts : List MV} (K : LxK c.G C fl) (X : Lx C I L (t :: ts) rest st.m) (hl : ts.length < 890) (hA : Good (n + 1) c.A) (hc : c.Ok) (ho : Ev c o st (.ref I.i) st.m) (hb : plainBase o = true) (hline : (ap.endLine == p.line) = true) :
    Ev c (.Call (.Attribute o (Str.ofString "get_token") ap) [] [] p) st t (st.m.set I.pl (.list ts)) := by
  obtain ⟨F, hf, ht⟩ := K.meth (2, "get_token") (by decide)
  refine Ev.meth0 (m₁ := st.m) (m₂ := st.m) (ov := .ref I.i) (fv := .st (.ref (fl 2))) (bs := [.ref I.i]) hc ho ?_ (keeps_stat F.keep) (c_get_pb K hA X hl).ht hb hline
  exact meth_inst K.cls X.i X.d hf ht F.lt rfl ⟨rfl, rfl⟩
theorem ev_getG {fa : Nat → Addr} {chars : List Nat} {tok : Str} {d : Nat} {Q : MV → St → Prop} (K : LxK c.G C fl) (Fa : Facts c.G fa) (D : LexO chars tok rest d) (X : Lx C I L [] chars st.m) (hl : chars.length ≤ 880) (hA : Good (n + 1 + 1 + 1 + 1) c.A) (hc : c.Ok) (ho : Ev c o st (.ref I.i) st.m) (hb : plainBase o = true) (hline : (ap.endLine == p.line) = true)
    (h : ∀ m', Lx C I (L + d) [] rest m' → LGrow I st.m m' → Q (.str tok) ⟨st.vars, m'⟩) : EvalTo c (.Call (.Attribute o (Str.ofString "get_token") ap) [] [] p) st Q := by
  obtain ⟨F, hf, ht⟩ := K.meth (2, "get_token") (by decide)
  refine ev_meth0 hc (Ev.to ho fun pl => meth_inst (Q := fun y m => _) K.cls X.i X.d hf ht F.lt rfl ⟨keeps_stat F.keep, ?_⟩ pl) hb hline
  refine HT.mono (c_get K Fa hA D X hl).ht ?_
  rintro y m' ⟨rfl, X', g⟩
  exact h m' X' g
end
section
variable {G : GC} {A : Around} {env : Env} {own : List Addr} {C Cw : Addr} {I : LexIds} {L : Int} {fl fm fa : Nat → Addr} {n : Nat} {m : MH} {a1 a2 a5 a6 a7 a8 a9 a10 a11 a12 a13 a14 : Option MV}
theorem words_eq {ws : List PRow} (h : ∀ r ∈ ws, r.Ok) : PyData.eqv (.list ((ws.map wordOf).map PyData.str)) (.list ((ws.map wordOf).map PyData.str)) = true :=
  SeqAt.eqv_refl _ (by unfold PyData.canLay0; exact (strs_lay _ (words_ok h)).1)
theorem l_read {wl : Nat} {rs : List PRow} (K : LxK G C fl) (Fa : Facts G fa) (hok : ∀ r ∈ rs, r.Ok) (hl : rs.length ≤ 4) (X : Lx C I 1 [] (textOf (rs.map fun r => (wordL r, r.hid)) ++ [101, 110, 100]) m) (hwl : m.H wl = some (.list (rs.map wordV))) (ho : Off I wl) (hA : Good (n + 1 + 1 + 1 + 1) A) (hc : (cL G A env own).Ok) :
    ExecTo (cL G A env own) (nthOf (bodyOf (stmtAt 21)) 3) ⟨lp a1 a2 (some (.ref wl)) (some (.ref I.i)) a5 a6 a7 a8 a9 a10 a11 a12 a13 a14, m⟩ fun f st' => f = .next ∧ st'.vars = lp a1 a2 (some (.ref wl)) (some (.ref I.i)) a5 a6 a7 a8 a9 a10 a11 a12 a13 a14 ∧
      LGrow I m st'.m ∧ ∃ pre L, Lx C I L [] (preL pre ++ [101, 110, 100]) st'.m ∧ L + preN pre = 1 + rs.length := by
  have hsz := sizeLine_big
  have htl : (textOf (rs.map fun r => (wordL r, r.hid))).length ≤ 200 := by
    have := text_len (ws := rs.map fun r => (wordL r, r.hid)) fun p hp => by
      obtain ⟨r, hr, rfl⟩ := List.mem_map.mp hp
      show (wordL r).length ≤ 20
      rw [wordL_len]; have := (hok r hr).len; omega
    rw [List.length_map] at this; omega
  have hdl : ∀ k, (textOf ((rs.map fun r => (wordL r, r.hid)).drop k)).length ≤ 200 := fun k => by
    have := text_len (ws := (rs.map fun r => (wordL r, r.hid)).drop k) fun p hp => by
      obtain ⟨r, hr, rfl⟩ := List.mem_map.mp (List.mem_of_mem_drop hp)
      show (wordL r).length ≤ 20
      rw [wordL_len]; have := (hok r hr).len; omega
    rw [List.length_drop, List.length_map] at this; omega
  refine x_if (te_cmp hc ?_)
  apply ev_comp hc
  case S => exact ⟨rfl, by decide +kernel, by decide +kernel, by decide +kernel⟩
  case hV => (focus repeat first | with_reducible exact CompVars.nil | apply CompVars.loc | apply CompVars.cell | apply CompVars.glob | (apply CompVars.free; (focus repeat first | with_reducible exact Slot.head | (show Slot (_ :: _) (_ :: _) _ _ _; first | with_reducible exact Slot.head | apply Slot.tail)); (first | exact .inl rfl | exact .inr (.inl rfl) | exact .inr (.inr rfl) | exact .inr rfl)))
  refine ie_val hc (Ev.to (v := .ref wl) (m := m) (by (apply Ev.nm (by assumption); (repeat first | with_reducible exact Slot.head | (show Slot (_ :: _) (_ :: _) _ _ _; first | with_reducible exact Slot.head | apply Slot.tail)); rfl)) (iv_list hc.hand hwl ⟨rfl, (fun z => nomatch z), rfl, (rs.map wordV).length + 1, fun env₁ own₁ fp₁ hc₁ => ?_⟩))
  refine comp_list (xs := rs.map wordV) (fun k ys st => (∃ w, st.vars = [none, w, some (.ref I.i)]) ∧ LGrow I m st.m ∧ ys = (rs.take k).map wordV ∧ ∃ pre L, Lx C I L [] (preL pre ++ (textOf ((rs.map fun r => (wordL r, r.hid)).drop k) ++ [101, 110, 100])) st.m ∧ L + preN pre = 1 + k)
    (fun k ys st h => h.2.1.at ho hwl) ⟨⟨_, rfl⟩, .refl, rfl, false, 1, X, rfl⟩ ?_ ?_
  · rintro k ys ⟨vars, m₁⟩ x hx ⟨⟨w, hv⟩, g, hys, pre, L, X1, hL⟩
    dsimp only at hv g hys X1
    subst hv
    have hk : k < rs.length := by have := (List.getElem?_eq_some_iff.mp hx).1; rwa [List.length_map] at this
    have hp := List.getElem?_eq_getElem hk
    have hr := hok _ (List.getElem_mem hk)
    have hd := textOf_drop (ws := rs.map fun r => (wordL r, r.hid)) (k := k) (p := (wordL rs[k], rs[k].hid)) (by rw [List.getElem?_map, hp]; rfl)
    rw [hd, List.append_assoc] at X1
    have D := lex_line (w := wordL rs[k]) (hid := rs[k].hid) (pre := pre) (more := textOf ((rs.map fun r => (wordL r, r.hid)).drop (k + 1)) ++ [101, 110, 100]) (wordL_all hr _ (by decide)) (by unfold wordL; simp)
    refine asg_name hc₁ ⟨_, by (focus repeat first | with_reducible exact Put.headL | with_reducible exact Put.headC | (show Put (_ :: _) (_ :: _) _ _ _; first | with_reducible exact Put.headL | with_reducible exact Put.headC | apply Put.tail)), ?_⟩
    refine ev_getG (n := n) K Fa D X1 ?_ hA hc₁ (Ev.name hc₁ (.tail (.tail .head)) (.inr (.inr rfl))) rfl rfl fun m' X2 g2 => ⟨?_, ⟨_, rfl⟩, g.trans g2, ?_, !rs[k].hid, L + (((if pre then 1 else 0) + (if rs[k].hid then 1 else 0) : Nat) : Int), ?_, ?_⟩
    · have h1 := hdl (k + 1)
      have h2 := line_len (wordL rs[k]) rs[k].hid
      have h3 : (wordL rs[k]).length ≤ 8 := by rw [wordL_len]; have := hr.len; omega
      have h4 : (preL pre).length ≤ 1 := by cases pre <;> decide
      rw [List.length_append, List.length_append, List.length_append]
      show (preL pre).length + (_ + (_ + 3)) ≤ 880
      omega
    · rw [hys, List.length_map, List.length_take]; omega
    · rw [List.take_add_one, hp, List.map_append, hys]; rfl
    · have e : preL (!rs[k].hid) = if rs[k].hid then [] else [10] := by cases rs[k].hid <;> rfl
      rw [e]; exact X2
    · cases rs[k].hid <;> cases pre <;> simp [preN] at hL ⊢ <;> omega
  · rintro ys ⟨vars, m₁⟩ ⟨_, g, hys, pre, L, X1, hL⟩
    dsimp only at g hys X1
    rw [List.length_map, List.take_length] at hys
    rw [List.length_map] at hL X1
    rw [show (rs.map fun r => (wordL r, r.hid)).drop rs.length = [] from List.drop_of_length_le (by rw [List.length_map]; exact Nat.le_refl _)] at X1
    subst hys
    have X2 := X1.new (.list (rs.map wordV))
    have n2 : (m₁.alloc (.list (rs.map wordV))).H m₁.n = some (.list (rs.map wordV)) := alloc_new _ _
    have g2 := g.trans (LGrow.new X1.wf (.list (rs.map wordV)))
    dsimp only
    generalize m₁.alloc (.list (rs.map wordV)) = m₂ at X2 n2 g2 ⊢
    refine Ev.to (v := .ref wl) (m := m₂) (by (apply Ev.nm (by assumption); (repeat first | with_reducible exact Slot.head | (show Slot (_ :: _) (_ :: _) _ _ _; first | with_reducible exact Slot.head | apply Slot.tail)); rfl)) (cmp_ned (words_rd n2) (words_rd (g2.at ho hwl)) (strs_shaped _ (words_ok hok)) (strs_shaped _ (words_ok hok)) hA.eq (tru_bool ?_))
    rw [words_eq hok]
    exact xs_nil ⟨rfl, rfl, g2, pre, L, X2, hL⟩
theorem l_push {wl : Nat} {rs : List PRow} {rest : List Nat} (K : LxK G C fl) (hl : rs.length ≤ 4) (X : Lx C I L [] rest m) (hwl : m.H wl = some (.list (rs.map wordV))) (ho : Off I wl) (hA : Good (n + 1) A) (hc : (cL G A env own).Ok) :
    ExecTo (cL G A env own) (nthOf (bodyOf (stmtAt 21)) 4) ⟨lp a1 a2 (some (.ref wl)) (some (.ref I.i)) a5 a6 a7 a8 a9 a10 a11 a12 a13 a14, m⟩ fun f st' => f = .next ∧ (∃ a5, st'.vars = lp a1 a2 (some (.ref wl)) (some (.ref I.i)) a5 a6 a7 a8 a9 a10 a11 a12 a13 a14) ∧
      LGrow I m st'.m ∧ Lx C I L (rs.map wordV) rest st'.m := by
  refine FT.mono (x_for_list hc (l := wl) (xs := rs.map wordV) (m := m) ?hi (fun k st => (∃ a5, st.vars = lp a1 a2 (some (.ref wl)) (some (.ref I.i)) a5 a6 a7 a8 a9 a10 a11 a12 a13 a14) ∧ Lx C I L ((rs.map wordV).take k) rest st.m ∧ LGrow I m st.m) (fun k st h => h.2.2.at ho hwl) ?h0 ?step) ?fin
  case hi => (apply Ev.nm (by assumption); (repeat first | with_reducible exact Slot.head | (show Slot (_ :: _) (_ :: _) _ _ _; first | with_reducible exact Slot.head | apply Slot.tail)); rfl)
  case h0 => exact ⟨⟨_, rfl⟩, X, .refl⟩
  case step =>
    rintro k x ⟨vars, m₁⟩ hx ⟨⟨a5, hv⟩, X1, g⟩
    dsimp only at hv X1 g
    subst hv
    have hk : k < rs.length := by have := (List.getElem?_eq_some_iff.mp hx).1; rwa [List.length_map] at this
    refine asg_name hc ⟨_, by (focus repeat first | with_reducible exact Put.headL | with_reducible exact Put.headC | (show Put (_ :: _) (_ :: _) _ _ _; first | with_reducible exact Put.headL | with_reducible exact Put.headC | apply Put.tail)), ?_⟩
    refine xs_cons (Ex.to (Ex.expr hc (ev_pushG K X1 (by rw [List.length_take]; omega) hA hc (by (apply Ev.nm (by assumption); (repeat first | with_reducible exact Slot.head | (show Slot (_ :: _) (_ :: _) _ _ _; first | with_reducible exact Slot.head | apply Slot.tail)); rfl)) (by (apply Ev.nm (by assumption); (repeat first | with_reducible exact Slot.head | (show Slot (_ :: _) (_ :: _) _ _ _; first | with_reducible exact Slot.head | apply Slot.tail)); rfl)) rfl rfl rfl)) (xs_nil ⟨.inl rfl, ⟨_, rfl⟩, ?_, g.set (.inr (.inl rfl))⟩))
    rw [List.take_add_one, hx]
    exact X1.push
  case fin =>
    rintro f st' ⟨rfl, h1, h2, h3⟩
    rw [List.take_length] at h2
    exact ⟨rfl, h1, h3, h2⟩
end
theorem word_ne_of {r : PRow} {x : Str} (h : x.length < 4) : wordOf r ≠ x := fun z => by
  have := congrArg Str.length z
  rw [show (wordOf r).length = (wordL r).length from List.size_toArray .., wordL_len] at this
  omega
theorem Rr_len {q : List PRow} (h : ∀ r ∈ q, r.Ok) (hk : (keys q).length ≤ 255) : q.length ≤ 255 := Nat.le_trans (len_keys q fun r hr => (h r hr).lo) hk
section
variable {G : GC} {A : Around} {env : Env} {own : List Addr} {C Cw : Addr} {I : LexIds} {L : Int} {fl fm fa : Nat → Addr} {n : Nat} {m m₀ : MH} {a1 a2 a3 a5 a6 a7 a8 a9 a10 a11 a12 a13 a14 : Option MV}
theorem l_rounds {rest : List Nat} (K : LxK G C fl) (W : WsK G Cw fm) (Fa : Facts G fa) (hA : Good (n + 1 + 1 + 1) A) (hc : (cL G A env own).Ok) : ∀ (k : Nat) (q : List PRow) (r0 : Nat) (st : St), nest q = k → (∀ r ∈ q, r.Ok) → (keys q).length ≤ 255 →
    st.vars = lp a1 a2 a3 (some (.ref I.i)) a5 (some (.int r0)) a7 a8 a9 a10 a11 a12 a13 a14 → Lx C I L (q.map wordV) rest st.m → LGrow I m₀ st.m →
    WhileN (cL G A env own) (testOf (nthOf (bodyOf (stmtAt 21)) 6)) (innerOf (nthOf (bodyOf (stmtAt 21)) 6)) (k + 1) st fun f st' => f = .next ∧ st'.vars = lp a1 a2 a3 (some (.ref I.i)) a5 (some (.int ((r0 + k : Nat) : Int))) a7 a8 a9 a10 a11 a12 a13 a14 ∧
      LGrow I m₀ st'.m ∧ ∃ q' : List PRow, Lx C I L (q'.map wordV) rest st'.m ∧ keys q' = keys q ∧ (∀ r ∈ q', r.often = 1) ∧ ∀ r ∈ q', r.Ok := by
  have hrd : GlobIs G "_law_round" (.ref (fa 20)) := Fa.def_ (20, "_law_round") (by decide)
  intro k
  induction k with
  | zero =>
    intro q r0 st hk hq hks hv X g
    obtain ⟨vars, m⟩ := st
    dsimp only at hv X g
    subst hv
    refine te_val hc (ev_call hc (Ev.to (v := .st (.ref (fa 20))) (m := m) (by (apply Ev.glob (by assumption); (focus repeat first | with_reducible exact Glob.head | (show Glob (_ :: _) _; first | with_reducible exact Glob.head | apply Glob.tail)); assumption)) (args_cons (Ev.to (v := .ref I.i) (m := m) (by (apply Ev.nm (by assumption); (repeat first | with_reducible exact Slot.head | (show Slot (_ :: _) (_ :: _) _ _ _; first | with_reducible exact Slot.head | apply Slot.tail)); rfl)) (args_nil ⟨keeps_stat (Fa.fn 20 (by decide)).keep, ?_⟩)))))
    refine HT.mono (c_round (n := n) K W Fa X hq (Rr_len hq hks) hA).ht ?_
    rintro y m₁ ⟨rfl, X1, g1⟩
    have hany : q.any isMore = false := by rw [← nest_more, hk]; rfl
    have hdone : (roundOf q).done = false := (Dn_start q).trans hany
    refine tru_bool ?_
    rw [hdone]
    dsimp only
    rw [if_neg Bool.false_ne_true]
    refine ⟨rfl, rfl, g.trans g1, q, ?_, rfl, not_more hq hany, hq⟩
    have e : (roundOf q).out = q := Rr_still q hany
    rw [e] at X1
    exact X1
  | succ k ih =>
    intro q r0 st hk hq hks hv X g
    obtain ⟨vars, m⟩ := st
    dsimp only at hv X g
    subst hv
    refine te_val hc (ev_call hc (Ev.to (v := .st (.ref (fa 20))) (m := m) (by (apply Ev.glob (by assumption); (focus repeat first | with_reducible exact Glob.head | (show Glob (_ :: _) _; first | with_reducible exact Glob.head | apply Glob.tail)); assumption)) (args_cons (Ev.to (v := .ref I.i) (m := m) (by (apply Ev.nm (by assumption); (repeat first | with_reducible exact Slot.head | (show Slot (_ :: _) (_ :: _) _ _ _; first | with_reducible exact Slot.head | apply Slot.tail)); rfl)) (args_nil ⟨keeps_stat (Fa.fn 20 (by decide)).keep, ?_⟩)))))
    refine HT.mono (c_round (n := n) K W Fa X hq (Rr_len hq hks) hA).ht ?_
    rintro y m₁ ⟨rfl, X1, g1⟩
    have hdone : (roundOf q).done = true := (Dn_start q).trans (by rw [← nest_more, hk]; exact decide_eq_true (Nat.succ_pos k))
    refine tru_bool ?_
    rw [hdone]
    dsimp only
    rw [if_pos rfl]
    obtain ⟨k1, k2⟩ := round_main q hq
    refine xs_cons (Ex.to (f := .next) (st' := ⟨lp a1 a2 a3 (some (.ref I.i)) a5 (some (.int ((r0 + 1 : Nat) : Int))) a7 a8 a9 a10 a11 a12 a13 a14, m₁⟩) ?_ (xs_nil ?_))
    · apply Ex.aug (w := .int ((r0 + 1 : Nat) : Int)) hc
      · (focus repeat first | with_reducible exact Slot.head | (show Slot (_ :: _) (_ :: _) _ _ _; first | with_reducible exact Slot.head | apply Slot.tail))
      · (first | exact .inl rfl | exact .inr (.inl rfl) | exact .inr (.inr rfl) | exact .inr rfl)
      · exact Ev.int
      · exact in_add ⟨rfl, rfl⟩
      · (focus repeat first | with_reducible exact Put.headL | with_reducible exact Put.headC | (show Put (_ :: _) (_ :: _) _ _ _; first | with_reducible exact Put.headL | with_reducible exact Put.headC | apply Put.tail))
    · have := ih (Rr [] q) (r0 + 1) ⟨lp a1 a2 a3 (some (.ref I.i)) a5 (some (.int ((r0 + 1 : Nat) : Int))) a7 a8 a9 a10 a11 a12 a13 a14, m₁⟩ (by rw [k2, hk]; rfl) (Rr_ok hq) (by rw [k1]; exact hks) rfl X1 (g.trans g1)
      rw [k1, show r0 + 1 + k = r0 + (k + 1) by omega] at this
      exact this
theorem t_end {w : Str} {a4 : Option MV} (hc : (cL G A env own).Ok) : Te (cL G A env own) (testOf (nthOf (bodyOf (stmtAt 21)) 9)) ⟨lp a1 a2 a3 a4 (some (.str w)) a6 a7 a8 a9 a10 a11 a12 a13 a14, m⟩ ((w != "end") && (w != "")) m := by
  have t1 : ∀ b, (w != Str.ofString "end") = b → Op (cL G A env own) (RV G) (ap2 (compareOp .NotEq)) [.str w, .str "end"] m (.bool b) m := fun b h => cmp_nes ⟨by rw [h], rfl⟩
  cases h : w != Str.ofString "end" with
  | false =>
    apply Te.and_no
    apply Te.cmp hc
    · (apply Ev.nm (by assumption); (repeat first | with_reducible exact Slot.head | (show Slot (_ :: _) (_ :: _) _ _ _; first | with_reducible exact Slot.head | apply Slot.tail)); rfl)
    · exact Ev.str
    · exact t1 _ h
  | true =>
    apply Te.and_yes
    · apply Te.cmp hc
      · (apply Ev.nm (by assumption); (repeat first | with_reducible exact Slot.head | (show Slot (_ :: _) (_ :: _) _ _ _; first | with_reducible exact Slot.head | apply Slot.tail)); rfl)
      · exact Ev.str
      · exact t1 _ h
    · apply Te.cmp hc
      · (apply Ev.nm (by assumption); (repeat first | with_reducible exact Slot.head | (show Slot (_ :: _) (_ :: _) _ _ _; first | with_reducible exact Slot.head | apply Slot.tail)); rfl)
      · exact Ev.str
      · exact cmp_nes ⟨by rw [Bool.true_and], rfl⟩
theorem l_left {pre : Bool} {ll : Nat} (K : LxK G C fl) (Fa : Facts G fa) (hA : Good (n + 1 + 1 + 1 + 1) A) (hc : (cL G A env own).Ok) (ho : Off I ll) (hno : ∀ o, m₀.H ll ≠ some o) : ∀ (rem : List PRow) (done : List PRow) (r : PRow) (st : St), done.length + rem.length ≤ 255 →
    st.vars = lp a1 a2 a3 (some (.ref I.i)) (some (wordV r)) a6 (some (.ref ll)) a8 a9 a10 a11 a12 a13 a14 → Lx C I L (rem.map wordV) (preL pre ++ [101, 110, 100]) st.m → st.m.H ll = some (.list (done.map wordV)) → LGrow I m₀ st.m →
    WhileN (cL G A env own) (testOf (nthOf (bodyOf (stmtAt 21)) 9)) (innerOf (nthOf (bodyOf (stmtAt 21)) 9)) (rem.length + 2) st fun f st' => f = .next ∧ st'.vars = lp a1 a2 a3 (some (.ref I.i)) (some (.str "end")) a6 (some (.ref ll)) a8 a9 a10 a11 a12 a13 a14 ∧
      LGrow I m₀ st'.m ∧ Lx C I (L + preN pre) [] [] st'.m ∧ st'.m.H ll = some (.list ((done ++ r :: rem).map wordV)) := by
  have hsz := sizeLine_big
  have hA1 : Good (n + 1) A := hA.le (by omega)
  intro rem
  induction rem with
  | nil =>
    intro done r st hl hv X hll g
    obtain ⟨vars, m⟩ := st
    dsimp only at hv X hll g
    subst hv
    refine Te.to (t_end hc) ?_
    rw [bne_iff_ne.mpr (word_ne_of (by decide)), bne_iff_ne.mpr (word_ne_of (by decide)), if_pos (by decide)]
    refine xs_cons (Ex.to (f := .next) (st' := ⟨lp a1 a2 a3 (some (.ref I.i)) (some (wordV r)) a6 (some (.ref ll)) a8 a9 a10 a11 a12 a13 a14, m.set ll (.list (done.map wordV ++ [wordV r]))⟩) ?_ ?_)
    · apply Ex.expr hc
      apply Ev.meth hc
      · (apply Ev.nm (by assumption); (repeat first | with_reducible exact Slot.head | (show Slot (_ :: _) (_ :: _) _ _ _; first | with_reducible exact Slot.head | apply Slot.tail)); rfl)
      · exact meth_append hll ⟨rfl, rfl⟩
      · apply Evs.cons
        · (apply Ev.nm (by assumption); (repeat first | with_reducible exact Slot.head | (show Slot (_ :: _) (_ :: _) _ _ _; first | with_reducible exact Slot.head | apply Slot.tail)); rfl)
        · exact Evs.nil
        · rfl
      · exact keeps_builtin
      · exact call_append hll (by rw [List.length_map]; omega) ⟨rfl, rfl⟩
    have X1 := X.offl (o := .list (done.map wordV ++ [wordV r])) hll ho
    have l1 : (m.set ll (.list (done.map wordV ++ [wordV r]))).H ll = some (.list (done.map wordV ++ [wordV r])) := set_at _ _ _
    have g1 : LGrow I m₀ (m.set ll (.list (done.map wordV ++ [wordV r]))) := ⟨fun j o e h1 h2 h3 => by rw [set_off (fun z : j = ll => hno o (by rw [← z]; exact e))]; exact g.keep j o e h1 h2 h3, g.tb⟩
    dsimp only
    generalize m.set ll (.list (done.map wordV ++ [wordV r])) = m₁ at X1 l1 g1 ⊢
    refine xs_cons (x_assign hc (ev_getG (n := n) K Fa (lex_end pre) X1 (by cases pre <;> decide) hA hc (by (apply Ev.nm (by assumption); (repeat first | with_reducible exact Slot.head | (show Slot (_ :: _) (_ :: _) _ _ _; first | with_reducible exact Slot.head | apply Slot.tail)); rfl)) rfl rfl fun m' X2 g2 => ⟨_, by (focus repeat first | with_reducible exact Put.headL | with_reducible exact Put.headC | (show Put (_ :: _) (_ :: _) _ _ _; first | with_reducible exact Put.headL | with_reducible exact Put.headC | apply Put.tail)), ?_⟩))
    refine xs_nil ?_
    refine Te.to (t_end hc) ?_
    rw [show (((Str.ofString "end") != (Str.ofString "end")) && ((Str.ofString "end") != (Str.ofString ""))) = false from by decide, if_neg Bool.false_ne_true]
    refine ⟨rfl, rfl, g1.trans g2, X2, ?_⟩
    rw [List.map_append]
    exact g2.at ho l1
  | cons r' rem ih =>
    intro done r st hl hv X hll g
    obtain ⟨vars, m⟩ := st
    dsimp only at hv X hll g
    subst hv
    rw [List.length_cons] at hl
    refine Te.to (t_end hc) ?_
    rw [bne_iff_ne.mpr (word_ne_of (by decide)), bne_iff_ne.mpr (word_ne_of (by decide)), if_pos (by decide)]
    refine xs_cons (Ex.to (f := .next) (st' := ⟨lp a1 a2 a3 (some (.ref I.i)) (some (wordV r)) a6 (some (.ref ll)) a8 a9 a10 a11 a12 a13 a14, m.set ll (.list (done.map wordV ++ [wordV r]))⟩) ?_ ?_)
    · apply Ex.expr hc
      apply Ev.meth hc
      · (apply Ev.nm (by assumption); (repeat first | with_reducible exact Slot.head | (show Slot (_ :: _) (_ :: _) _ _ _; first | with_reducible exact Slot.head | apply Slot.tail)); rfl)
      · exact meth_append hll ⟨rfl, rfl⟩
      · apply Evs.cons
        · (apply Ev.nm (by assumption); (repeat first | with_reducible exact Slot.head | (show Slot (_ :: _) (_ :: _) _ _ _; first | with_reducible exact Slot.head | apply Slot.tail)); rfl)
        · exact Evs.nil
        · rfl
      · exact keeps_builtin
      · exact call_append hll (by rw [List.length_map]; omega) ⟨rfl, rfl⟩
    have X1 := X.offl (o := .list (done.map wordV ++ [wordV r])) hll ho
    have l1 : (m.set ll (.list (done.map wordV ++ [wordV r]))).H ll = some (.list (done.map wordV ++ [wordV r])) := set_at _ _ _
    have g1 : LGrow I m₀ (m.set ll (.list (done.map wordV ++ [wordV r]))) := ⟨fun j o e h1 h2 h3 => by rw [set_off (fun z : j = ll => hno o (by rw [← z]; exact e))]; exact g.keep j o e h1 h2 h3, g.tb⟩
    dsimp only
    generalize m.set ll (.list (done.map wordV ++ [wordV r])) = m₁ at X1 l1 g1 ⊢
    refine xs_cons (Ex.to (f := .next) (st' := ⟨lp a1 a2 a3 (some (.ref I.i)) (some (wordV r')) a6 (some (.ref ll)) a8 a9 a10 a11 a12 a13 a14, m₁.set I.pl (.list (rem.map wordV))⟩) ?_ (xs_nil ?_))
    · refine Ex.set hc (ev_popG (t := wordV r') (ts := rem.map wordV) K X1 (by rw [List.length_map]; omega) hA1 hc (by (apply Ev.nm (by assumption); (repeat first | with_reducible exact Slot.head | (show Slot (_ :: _) (_ :: _) _ _ _; first | with_reducible exact Slot.head | apply Slot.tail)); rfl)) rfl rfl) ?_
      (focus repeat first | with_reducible exact Put.headL | with_reducible exact Put.headC | (show Put (_ :: _) (_ :: _) _ _ _; first | with_reducible exact Put.headL | with_reducible exact Put.headC | apply Put.tail))
    · have := ih (done ++ [r]) r' ⟨lp a1 a2 a3 (some (.ref I.i)) (some (wordV r')) a6 (some (.ref ll)) a8 a9 a10 a11 a12 a13 a14, m₁.set I.pl (.list (rem.map wordV))⟩ (by rw [List.length_append, List.length_singleton]; omega) rfl X1.push (by dsimp only; rw [set_off ho.2.1, List.map_append]; exact l1) (g1.set (.inr (.inl rfl)))
      rw [List.append_assoc] at this
      exact this
end
noncomputable def dtext (k : Key) : Str := strOf [49, 120 + k.1, if k.2.1 then 43 else 45, 120 + k.2.2]
theorem dtext_ok {r : PRow} (hr : r.Ok) : PyData.strOk (dtext (key r)) = true := by
  show (strOf (49 :: deedL r)).cps.all _ = true
  have : ∀ c ∈ 49 :: deedL r, c < 128 := by
    intro c hc
    have h3 := hr.p; have h4 := hr.q
    simp only [deedL, List.mem_cons, List.mem_nil_iff, or_false] at hc
    rcases hc with rfl | rfl | rfl | rfl
    · omega
    · omega
    · split <;> omega
    · omega
  have := ascii_of this
  rw [Array.all_eq_true] at this ⊢
  intro i hi
  have := of_decide_eq_true (this i hi)
  exact decide_eq_true (by omega)
theorem texts_rd {m : MH} {i : Nat} {ts : List Str} (h : m.H i = some (.list (ts.map .str))) : Rd m (.ref i) (.list (ts.map .str)) := .list h (strs_rd _)
section
variable {G : GC} {A : Around} {env : Env} {own : List Addr} {C Cw : Addr} {I : LexIds} {L : Int} {fl fm fa : Nat → Addr} {n : Nat} {m : MH} {a1 a2 a3 a4 a5 a6 a7 a8 a9 a10 a11 a12 a13 a14 : Option MV}
theorem l_due {v : MV} {rs : List PRow} (Fa : Facts G fa) (hv : IsRows m v (rs.map PRow.row)) (hok : ∀ r ∈ rs, r.Ok) (hl : rs.length ≤ 4) (hw : WF m) (hA : Good 7 A) (hc : (cL G A env own).Ok) :
    ExecTo (cL G A env own) (nthOf (bodyOf (stmtAt 21)) 10) ⟨lp a1 (some v) a3 a4 a5 a6 a7 a8 a9 a10 a11 a12 a13 a14, m⟩ fun f st' => f = .next ∧ ∃ dl tv, st'.vars = lp a1 (some v) a3 a4 a5 a6 a7 (some (.ref dl)) (some tv) (some (.int (nest rs))) a11 a12 a13 a14 ∧
      Grow m st'.m ∧ st'.m.H dl = some (.list ((due rs).deeds.map fun r => .str r.deed)) ∧ IsTab st'.m tv (due rs).table := by
  have hdue : GlobIs G "_law_due" (.ref (fa 19)) := Fa.def_ (19, "_law_due") (by decide)
  refine x_assignT (ev_call hc (Ev.to (v := .st (.ref (fa 19))) (m := m) (by (apply Ev.glob (by assumption); (focus repeat first | with_reducible exact Glob.head | (show Glob (_ :: _) _; first | with_reducible exact Glob.head | apply Glob.tail)); assumption)) (args_cons (Ev.to (v := v) (m := m) (by (apply Ev.nm (by assumption); (repeat first | with_reducible exact Slot.head | (show Slot (_ :: _) (_ :: _) _ _ _; first | with_reducible exact Slot.head | apply Slot.tail)); rfl)) (args_nil ⟨keeps_stat (Fa.fn 19 (by decide)).keep, ?_⟩)))))
  refine HT.mono (c_due Fa 4 (Nat.le_refl 4) hl hok hw hv hA).ht ?_
  rintro y m₁ ⟨g, i, dl, tv, rfl, hi, hdl, htv⟩
  rw [due_fuel 4 hl] at hi hdl htv
  refine asg_tuple hc hi rfl (asg_name hc ⟨_, by (focus repeat first | with_reducible exact Put.headL | with_reducible exact Put.headC | (show Put (_ :: _) (_ :: _) _ _ _; first | with_reducible exact Put.headL | with_reducible exact Put.headC | apply Put.tail)), asg_name hc ⟨_, by (focus repeat first | with_reducible exact Put.headL | with_reducible exact Put.headC | (show Put (_ :: _) (_ :: _) _ _ _; first | with_reducible exact Put.headL | with_reducible exact Put.headC | apply Put.tail)), asg_name hc ⟨_, by (focus repeat first | with_reducible exact Put.headL | with_reducible exact Put.headC | (show Put (_ :: _) (_ :: _) _ _ _; first | with_reducible exact Put.headL | with_reducible exact Put.headC | apply Put.tail)), ?_⟩⟩⟩)
  exact ⟨rfl, dl, tv, rfl, g, hdl, htv.tab⟩
theorem l_same {ll dl : Nat} {q ds : List PRow} (hll : m.H ll = some (.list (q.map wordV))) (hdl : m.H dl = some (.list (ds.map fun r => .str r.deed))) (hq1 : ∀ r ∈ q, r.often = 1) (hq : ∀ r ∈ q, r.Ok) (hds : ∀ r ∈ ds, r.Ok) (he : q.map key = ds.map key) (hl : q.length ≤ 255) (hw : WF m) (hA : Good n A) (hc : (cL G A env own).Ok) :
    ExecTo (cL G A env own) (nthOf (bodyOf (stmtAt 21)) 11) ⟨lp a1 a2 a3 a4 a5 a6 (some (.ref ll)) (some (.ref dl)) a9 a10 a11 a12 a13 a14, m⟩ fun f st' => f = .next ∧ st'.vars = lp a1 a2 a3 a4 a5 a6 (some (.ref ll)) (some (.ref dl)) a9 a10 a11 a12 a13 a14 ∧ Grow m st'.m := by
  have hsz := sizeLine_big
  have hdl' : ds.length = q.length := by have := congrArg List.length he; rw [List.length_map, List.length_map] at this; exact this.symm
  refine x_if (te_cmp hc ?_)
  apply ev_comp hc
  case S => exact ⟨rfl, by decide +kernel, by decide +kernel, by decide +kernel⟩
  case hV => (focus repeat first | with_reducible exact CompVars.nil | apply CompVars.loc | apply CompVars.cell | apply CompVars.glob | (apply CompVars.free; (focus repeat first | with_reducible exact Slot.head | (show Slot (_ :: _) (_ :: _) _ _ _; first | with_reducible exact Slot.head | apply Slot.tail)); (first | exact .inl rfl | exact .inr (.inl rfl) | exact .inr (.inr rfl) | exact .inr rfl)))
  refine ie_val hc (Ev.to (v := .ref ll) (m := m) (by (apply Ev.nm (by assumption); (repeat first | with_reducible exact Slot.head | (show Slot (_ :: _) (_ :: _) _ _ _; first | with_reducible exact Slot.head | apply Slot.tail)); rfl)) (iv_list hc.hand hll ⟨rfl, (fun z => nomatch z), rfl, (q.map wordV).length + 1, fun env₁ own₁ fp₁ hc₁ => ?_⟩))
  refine comp_list (xs := q.map wordV) (fun k ys st => (∃ w, st.vars = [none, w]) ∧ st.m = m ∧ ys = ((q.take k).map fun r => dtext (key r)).map .str) (fun k ys st h => h.2.1 ▸ hll) ⟨⟨_, rfl⟩, rfl, rfl⟩ ?_ ?_
  · rintro k ys ⟨vars, m₁⟩ x hx ⟨⟨w, hv⟩, hm, hys⟩
    dsimp only at hv hm hys
    subst hv hm
    have hk : k < q.length := by have := (List.getElem?_eq_some_iff.mp hx).1; rwa [List.length_map] at this
    have hp := List.getElem?_eq_getElem hk
    rw [List.getElem?_map, hp] at hx
    cases hx
    have hr := hq _ (List.getElem_mem hk)
    refine asg_name hc₁ ⟨_, by (focus repeat first | with_reducible exact Put.headL | with_reducible exact Put.headC | (show Put (_ :: _) (_ :: _) _ _ _; first | with_reducible exact Put.headL | with_reducible exact Put.headC | apply Put.tail)), Ev.to (v := .str (dtext (key q[k]))) (m := m₁) ?_ ⟨?_, ⟨_, rfl⟩, rfl, ?_⟩⟩
    · refine Ev.slice (ov := wordV q[k]) (m₁ := m₁) (m₂ := m₁) (m₃ := m₁) (m₄ := m₁) (lo := some (-4)) (hi := none) (sp := none) hc₁ ?_ (Pt.some ?_) Pt.none Pt.none ?_ fun _ _ => rfl
      · (apply Ev.nm (by assumption); (repeat first | with_reducible exact Slot.head | (show Slot (_ :: _) (_ :: _) _ _ _; first | with_reducible exact Slot.head | apply Slot.tail)); rfl)
      · apply Ev.un hc₁
        · exact Ev.int
        · exact un_neg ⟨rfl, rfl⟩
      · have hl8 := word_len hr
        refine slice_str (by omega) ⟨?_, rfl⟩
        rw [word_from4, hq1 _ (List.getElem_mem hk)]; rfl
    · rw [hys, List.length_map, List.length_map, List.length_take]; omega
    · rw [List.take_add_one, hp, List.map_append, List.map_append, hys]; rfl
  · rintro ys ⟨vars, m₁⟩ ⟨_, hm, hys⟩
    dsimp only at hm hys
    subst hm
    rw [List.length_map, List.take_length] at hys
    subst hys
    have g2 : Grow m₁ (m₁.alloc (.list ((q.map fun r => dtext (key r)).map .str))) := .alloc hw _
    have n2 : (m₁.alloc (.list ((q.map fun r => dtext (key r)).map MV.str))).H m₁.n = some (.list ((q.map fun r => dtext (key r)).map .str)) := alloc_new _ _
    dsimp only
    generalize m₁.alloc (.list ((q.map fun r => dtext (key r)).map MV.str)) = m₂ at g2 n2 ⊢
    have hdl2 := g2.keep _ _ hdl
    apply ev_comp hc
    case S => exact ⟨rfl, by decide +kernel, by decide +kernel, by decide +kernel⟩
    case hV => (focus repeat first | with_reducible exact CompVars.nil | apply CompVars.loc | apply CompVars.cell | apply CompVars.glob | (apply CompVars.free; (focus repeat first | with_reducible exact Slot.head | (show Slot (_ :: _) (_ :: _) _ _ _; first | with_reducible exact Slot.head | apply Slot.tail)); (first | exact .inl rfl | exact .inr (.inl rfl) | exact .inr (.inr rfl) | exact .inr rfl)))
    refine ie_val hc (Ev.to (v := .ref dl) (m := m₂) (by (apply Ev.nm (by assumption); (repeat first | with_reducible exact Slot.head | (show Slot (_ :: _) (_ :: _) _ _ _; first | with_reducible exact Slot.head | apply Slot.tail)); rfl)) (iv_list hc.hand hdl2 ⟨rfl, (fun z => nomatch z), rfl, (ds.map fun r => MV.str r.deed).length + 1, fun env₁ own₁ fp₁ hc₁ => ?_⟩))
    refine comp_list (xs := ds.map fun r => MV.str r.deed) (fun k ys st => (∃ w, st.vars = [none, w]) ∧ st.m = m₂ ∧ ys = ((ds.take k).map fun r => dtext (key r)).map .str) (fun k ys st h => h.2.1 ▸ hdl2) ?h0 ?_ ?_
    case h0 => exact ⟨⟨_, rfl⟩, rfl, rfl⟩
    · rintro k ys ⟨vars, m₃⟩ x hx ⟨⟨w, hv⟩, hm, hys⟩
      dsimp only at hv hm hys
      subst hv hm
      have hk : k < ds.length := by have := (List.getElem?_eq_some_iff.mp hx).1; rwa [List.length_map] at this
      have hp := List.getElem?_eq_getElem hk
      rw [List.getElem?_map, hp] at hx
      cases hx
      refine asg_name hc₁ ⟨_, by (focus repeat first | with_reducible exact Put.headL | with_reducible exact Put.headC | (show Put (_ :: _) (_ :: _) _ _ _; first | with_reducible exact Put.headL | with_reducible exact Put.headC | apply Put.tail)), Ev.to (v := .str (dtext (key ds[k]))) (m := m₃) ?_ ⟨?_, ⟨_, rfl⟩, rfl, ?_⟩⟩
      · apply Ev.bin hc₁
        · exact Ev.str
        · (apply Ev.nm (by assumption); (repeat first | with_reducible exact Slot.head | (show Slot (_ :: _) (_ :: _) _ _ _; first | with_reducible exact Slot.head | apply Slot.tail)); rfl)
        · exact bin_str (x := strOf [49]) (y := strOf (deedL ds[k])) (by rw [strOf_len, strOf_len]; show 1 + 3 ≤ _; omega) ⟨by rw [strOf_app]; rfl, rfl⟩
      · rw [hys, List.length_map, List.length_map, List.length_take]; omega
      · rw [List.take_add_one, hp, List.map_append, List.map_append, hys]; rfl
    · rintro ys ⟨vars, m₃⟩ ⟨_, hm, hys⟩
      dsimp only at hm hys
      subst hm
      rw [List.length_map, List.take_length] at hys
      have e : (ds.map fun r => dtext (key r)) = q.map fun r => dtext (key r) := by
        have := congrArg (List.map dtext) he
        rw [List.map_map, List.map_map] at this
        exact this.symm
      rw [e] at hys
      subst hys
      have g3 : Grow m₃ (m₃.alloc (.list ((q.map fun r => dtext (key r)).map .str))) := .alloc g2.wf _
      have n3 : (m₃.alloc (.list ((q.map fun r => dtext (key r)).map MV.str))).H m₃.n = some (.list ((q.map fun r => dtext (key r)).map .str)) := alloc_new _ _
      dsimp only
      generalize m₃.alloc (.list ((q.map fun r => dtext (key r)).map MV.str)) = m₄ at g3 n3 ⊢
      have hsk : ∀ t ∈ q.map fun r => dtext (key r), PyData.strOk t = true := fun t ht => by
        obtain ⟨r, hr, rfl⟩ := List.mem_map.mp ht
        exact dtext_ok (hq r hr)
      refine cmp_ned (texts_rd (g3.keep _ _ n2)) (texts_rd n3) (strs_shaped _ hsk) (strs_shaped _ hsk) hA.eq (tru_bool ?_)
      rw [show PyData.eqv (.list ((q.map fun r => dtext (key r)).map PyData.str)) (.list ((q.map fun r => dtext (key r)).map PyData.str)) = true from SeqAt.eqv_refl _ (by unfold PyData.canLay0; exact (strs_lay _ hsk).1)]
      exact xs_nil ⟨rfl, rfl, g2.trans g3⟩
end
noncomputable def beginL : List Int := [5, 3, 2]
noncomputable def begunOf (ns : List Int) : List Int := (List.range 3).map fun k : Nat => beginL.getD k 0 + ((pickL ns (some (k : Int)) none (some 3)).sum).fmod 100000000000000000000
theorem xyz_at : ∀ p, p < 3 → (Str.ofString "xyz").cps[p]? = some (120 + p) ∧ ∀ j, j < p → (Str.ofString "xyz").cps[j]? ≠ some (120 + p) := by decide +kernel
theorem word_back {r : PRow} {k j c : Nat} (hk : k ≤ 3) (hk0 : 0 < k) (hj : 3 - k = j) (hc : (deedL r)[j]? = some c) : (seqIndex? (-(k : Int)) (wordOf r).length).bind ((wordOf r).cps[·]?) = some c := by
  have : wordOf r = strOf ((leadL r ++ [48 + r.often]) ++ deedL r) := by unfold wordOf wordL; rw [List.append_assoc]; rfl
  rw [this]
  exact idx_back _ _ hk hk0 hj hc
section
variable {G : GC} {A : Around} {env : Env} {own : List Addr} {C Cw : Addr} {I : LexIds} {L : Int} {fl fm fa : Nat → Addr} {n : Nat} {m m₀ : MH} {a1 a2 a3 a4 a5 a6 a7 a8 a9 a10 a11 a12 a13 a14 : Option MV}
theorem l_begun {sv : MV} {ns : List Int} (Fa : Facts G fa) (hs : Scr G sv ns) (hw : WF m) (hc : (cL G A env own).Ok) :
    ExecTo (cL G A env own) (nthOf (bodyOf (stmtAt 21)) 12) ⟨lp (some sv) a2 a3 a4 a5 a6 a7 a8 a9 a10 a11 a12 a13 a14, m⟩ fun f st' => f = .next ∧ ∃ bl, st'.vars = lp (some sv) a2 a3 a4 a5 a6 a7 a8 a9 a10 (some (.ref bl)) a12 a13 a14 ∧ Grow m st'.m ∧ st'.m.H bl = some (.list ((begunOf ns).map .int)) := by
  have hsz := sizeLine_big
  have hrange : GlobIs G "range" (.type "range") := Fa.ty "range" (by decide)
  have hsum : GlobIs G "sum" (.builtin "sum") := Fa.bi "sum" (by decide)
  refine x_assignV hc ?_ (swaps_cell ((hc.rel 10 _ _ rfl).elim id fun z => nomatch z.1))
  apply ev_comp hc
  case S => exact ⟨rfl, by decide +kernel, by decide +kernel, by decide +kernel⟩
  case hV => (focus repeat first | with_reducible exact CompVars.nil | apply CompVars.loc | apply CompVars.cell | apply CompVars.glob | (apply CompVars.free; (focus repeat first | with_reducible exact Slot.head | (show Slot (_ :: _) (_ :: _) _ _ _; first | with_reducible exact Slot.head | apply Slot.tail)); (first | exact .inl rfl | exact .inr (.inl rfl) | exact .inr (.inr rfl) | exact .inr rfl)))
  refine ie_range1 hc (ev_glob hc (by (focus repeat first | with_reducible exact Glob.head | (show Glob (_ :: _) _; first | with_reducible exact Glob.head | apply Glob.tail))) hrange ⟨rfl, ev_int ⟨3, rfl, by decide, by decide, rfl, (fun z => nomatch z), rfl, 4, fun env₁ own₁ fp₁ hc₁ => ?_⟩⟩)
  refine comp_range0 (n := 3) (fun k ys st => (∃ w, st.vars = [none, w, none, some sv]) ∧ Grow m st.m ∧ ys = ((begunOf ns).take k).map .int) ?h0 ?_ ?_
  case h0 => exact ⟨⟨_, rfl⟩, .refl hw, rfl⟩
  · rintro k ys ⟨vars, m₁⟩ hk ⟨⟨w, hv⟩, g, hys⟩
    dsimp only at hv g hys
    subst hv
    refine asg_name hc₁ ⟨_, by (focus repeat first | with_reducible exact Put.headL | with_reducible exact Put.headC | (show Put (_ :: _) (_ :: _) _ _ _; first | with_reducible exact Put.headL | with_reducible exact Put.headC | apply Put.tail)), ?_⟩
    obtain ⟨m₂, e2⟩ : ∃ x, x = m₁.alloc (.tup (beginL.map .int)) := ⟨_, rfl⟩
    obtain ⟨m₃, e3⟩ : ∃ x, x = m₂.alloc (.list ((pickL ns (some (k : Int)) none (some 3)).map .int)) := ⟨_, rfl⟩
    have g2 : Grow m₁ m₂ := e2 ▸ .alloc g.wf _
    have g3 : Grow m₂ m₃ := e3 ▸ .alloc g2.wf _
    have n2 : m₂.H m₁.n = some (.tup (beginL.map .int)) := e2 ▸ alloc_new _ _
    have n3 : m₃.H m₂.n = some (.list ((pickL ns (some (k : Int)) none (some 3)).map .int)) := e3 ▸ alloc_new _ _
    refine Ev.to (v := .int (beginL.getD k 0 + ((pickL ns (some (k : Int)) none (some 3)).sum).fmod 100000000000000000000)) (m := m₃) ?_ ⟨?_, ⟨_, rfl⟩, g.trans (g2.trans g3), ?_⟩
    · apply Ev.bin (a := .int (beginL.getD k 0)) (m₁ := m₂) (m₂ := m₃) hc₁
      · apply Ev.sub (a := .ref m₁.n) (m₁ := m₂) (m₂ := m₂) hc₁
        · rw [e2]
          exact Ev.tuple hc₁ (Evs.cons Ev.int (Evs.cons Ev.int (Evs.cons Ev.int Evs.nil))) (by show 3 ≤ 1000; decide)
        · (apply Ev.nm (by assumption); (repeat first | with_reducible exact Slot.head | (show Slot (_ :: _) (_ :: _) _ _ _; first | with_reducible exact Slot.head | apply Slot.tail)); rfl)
        · exact fun value slice hsl => idx_tup hsl n2 (Int.natCast_nonneg _) (by rw [Int.toNat_natCast]; exact ints_at hk) (by omega) ⟨rfl, rfl⟩
      · apply Ev.bin (a := .int (pickL ns (some (k : Int)) none (some 3)).sum) (b := .int 100000000000000000000) (m₁ := m₃) (m₂ := m₃) hc₁
        · apply Ev.call (as := [.ref m₂.n]) (m₂ := m₃) hc₁
          · (apply Ev.glob (by assumption); (focus repeat first | with_reducible exact Glob.head | (show Glob (_ :: _) _; first | with_reducible exact Glob.head | apply Glob.tail)); assumption)
          · apply Evs.cons (m₁ := m₃)
            · rw [e3]
              refine Ev.slice (ov := sv) (m₁ := m₂) (m₂ := m₂) (m₃ := m₂) (m₄ := m₂) (lo := some (k : Int)) (hi := none) (sp := some 3) hc₁ ?_ ?_ ?_ ?_ ?_ fun _ _ => rfl
              · (apply Ev.nm (by assumption); (repeat first | with_reducible exact Slot.head | (show Slot (_ :: _) (_ :: _) _ _ _; first | with_reducible exact Slot.head | apply Slot.tail)); rfl)
              · refine Pt.some ?_
                (apply Ev.nm (by assumption); (repeat first | with_reducible exact Slot.head | (show Slot (_ :: _) (_ :: _) _ _ _; first | with_reducible exact Slot.head | apply Slot.tail)); rfl)
              · exact Pt.none
              · exact Pt.some Ev.int
              · exact hs _ _ _ _ _ _ (by decide) ⟨rfl, rfl⟩
            · exact Evs.nil
          · exact keeps_builtin
          · exact call_sum hc₁.hand n3 ⟨rfl, rfl⟩
        · apply Ev.bin hc₁
          · exact Ev.int
          · exact Ev.int
          · exact bin_pow (by decide) (by decide) ⟨by rfl, rfl⟩
        · exact bin_mod (by decide) ⟨rfl, rfl⟩
      · exact bin_add ⟨rfl, rfl⟩
    · rw [hys, List.length_map, List.length_take]; omega
    · unfold begunOf
      rw [take_snoc _ _ _ hk, List.map_append, hys]; rfl
  · rintro ys ⟨vars, m₁⟩ ⟨_, g, hys⟩
    dsimp only at g hys
    have e : (begunOf ns).take 3 = begunOf ns := List.take_of_length_le (by simp [begunOf])
    rw [e] at hys
    refine ⟨_, by (focus repeat first | with_reducible exact Put.headL | with_reducible exact Put.headC | (show Put (_ :: _) (_ :: _) _ _ _; first | with_reducible exact Put.headL | with_reducible exact Put.headC | apply Put.tail)), ?_⟩
    exact ⟨rfl, m₁.n, rfl, g.snoc _, by rw [hys]; exact alloc_new _ _⟩
theorem l_registers {bl : Nat} {v : List Int} (hb : m.H bl = some (.list (v.map .int))) (hl : v.length ≤ 10) (hw : WF m) (hc : (cL G A env own).Ok) :
    ExecTo (cL G A env own) (nthOf (bodyOf (stmtAt 21)) 13) ⟨lp a1 a2 a3 a4 a5 a6 a7 a8 a9 a10 (some (.ref bl)) a12 a13 a14, m⟩ fun f st' => f = .next ∧ st'.vars = lp a1 a2 a3 a4 a5 a6 a7 a8 a9 a10 (some (.ref bl)) (some (.ref m.n)) a13 a14 ∧ st'.m = m.alloc (.list (v.map .int)) := by
  have hsz := sizeLine_big
  refine x_assign_comp hc (S := ⟨rfl, by decide +kernel, by decide +kernel, by decide +kernel⟩) (hV := by (focus repeat first | with_reducible exact CompVars.nil | apply CompVars.loc | apply CompVars.cell | apply CompVars.glob | (apply CompVars.free; (focus repeat first | with_reducible exact Slot.head | (show Slot (_ :: _) (_ :: _) _ _ _; first | with_reducible exact Slot.head | apply Slot.tail)); (first | exact .inl rfl | exact .inr (.inl rfl) | exact .inr (.inr rfl) | exact .inr rfl)))) (hsw := swaps_yes hc.block ((hc.rel 11 _ _ rfl).elim id fun z => nomatch z.1) rfl (by decide +kernel)) ?_
  refine ie_val hc (Ev.to (v := .ref bl) (m := m) (by (apply Ev.nm (by assumption); (repeat first | with_reducible exact Slot.head | (show Slot (_ :: _) (_ :: _) _ _ _; first | with_reducible exact Slot.head | apply Slot.tail)); rfl)) (iv_list hc.hand hb ⟨rfl, (fun z => nomatch z), rfl, (v.map MV.int).length + 1, fun env₁ own₁ fp₁ hc₁ => ?_⟩))
  refine comp_list (xs := v.map .int) (fun k ys st => (∃ w, st.vars = [none, w]) ∧ st.m = m ∧ ys = (v.map MV.int).take k) (fun k ys st h => h.2.1 ▸ hb) ?h0 ?_ ?_
  case h0 => exact ⟨⟨_, rfl⟩, rfl, rfl⟩
  · rintro k ys ⟨vars, m₁⟩ x hx ⟨⟨w, hv⟩, hm, hys⟩
    dsimp only at hv hm hys
    subst hv hm
    refine asg_name hc₁ ⟨_, by (focus repeat first | with_reducible exact Put.headL | with_reducible exact Put.headC | (show Put (_ :: _) (_ :: _) _ _ _; first | with_reducible exact Put.headL | with_reducible exact Put.headC | apply Put.tail)), Ev.to (v := x) (m := m₁) (by (apply Ev.nm (by assumption); (repeat first | with_reducible exact Slot.head | (show Slot (_ :: _) (_ :: _) _ _ _; first | with_reducible exact Slot.head | apply Slot.tail)); rfl)) ⟨?_, ⟨_, rfl⟩, rfl, ?_⟩⟩
    · rw [hys, List.length_take, List.length_map]; omega
    · rw [List.take_add_one, hx, hys]; rfl
  · rintro ys ⟨vars, m₁⟩ ⟨_, hm, hys⟩
    dsimp only at hm hys
    subst hm
    rw [List.take_length] at hys
    refine ⟨_, by (focus repeat first | with_reducible exact Put.headL | with_reducible exact Put.headC | (show Put (_ :: _) (_ :: _) _ _ _; first | with_reducible exact Put.headL | with_reducible exact Put.headC | apply Put.tail)), ?_⟩
    exact ⟨rfl, rfl, by rw [hys]⟩
end
section
variable {c : Cx} {st : St}
theorem ev_place {G : GC} {fa : Nat → Addr} {n : Nat} {r : PRow} {k j p : Nat} {q0 q1 q2 q3 q4 q5 : Pos} {k0 k1 : Nat} {m : MH} {Q : MV → St → Prop} {w : Expr} {vars : List (Option MV)} (hG : c.G = G) (Fa : Facts G fa) (hA : Good (n + 1) c.A) (hc : c.Ok) (hg : Glob c.names (Str.ofString "indexOf")) (hw : Ev c w ⟨vars, m⟩ (wordV r) m) (hwf : WF m) (hk : k ≤ 3) (hk0 : 0 < k) (hj : 3 - k = j) (hd : (deedL r)[j]? = some (120 + p)) (hp : p < 3)
    (h : ∀ m', Grow m m' → Q (.int p) ⟨vars, m'⟩) :
    EvalTo c (.Call (.Name (Str.ofString "indexOf") q0) [.Constant (.str "xyz") k0 q1, .Subscript w (.UnaryOp .USub (.Constant (.int k) k1 q2) q3) q4] [] q5) ⟨vars, m⟩ Q := by
  subst hG
  have hix : GlobIs c.G "indexOf" (.ref (fa 11)) := Fa.def_ (11, "indexOf") (by decide)
  have henum : GlobIs c.G "enumerate" (.type "enumerate") := Fa.ty "enumerate" (by decide)
  refine ev_call_tk hc (ev_glob hc hg hix (Ev.to Ev.str (Ev.to hw (Ev.to (v := .int (-(k : Int))) (m := m) ?_ ⟨wordOf r, -(k : Int), 120 + p, rfl, rfl, by omega, by omega, word_back hk hk0 hj hd, keeps_stat (Fa.fn 11 (by decide)).keep, fun u hu => ?_⟩))))
  · apply Ev.un hc
    · exact Ev.int
    · exact un_neg ⟨rfl, rfl⟩
  · have hx := xyz_at p hp
    refine CT.mono (c_indexOf (G := c.G.up u) (n := n) Fa.nb henum.up (by decide +kernel) (Nat.ne_of_gt hu) (Nat.le_refl _) hx.1 hx.2 hA (Fa.fn 11 (by decide)).up hwf) ?_
    rintro y m₁ ⟨rfl, g1⟩
    exact h m₁ g1
end
section
variable {G : GC} {A : Around} {env : Env} {own : List Addr} {C Cw : Addr} {I : LexIds} {L : Int} {fl fm fa : Nat → Addr} {n : Nat} {m m₀ : MH} {a1 a2 a3 a4 a6 a8 a9 a10 a11 a13 a14 : Option MV}
theorem r_turn {ll gl : Nat} {r : PRow} {v : List Int} {rest : List Nat} {pb : List MV} {a5 : Option MV} (Fa : Facts G fa) (hr : r.Ok) (hv3 : v.length = 3) (hgl : m.H gl = some (.list (v.map .int))) (X : Lx C I L pb rest m) (ho : Off I gl) (hno : ∀ o, m₀.H gl ≠ some o) (g : LGrow I m₀ m) (hA : Good (n + 1) A) (hc : (cL G A env own).Ok) :
    Turn (cL G A env own) (targetOf (nthOf (bodyOf (stmtAt 21)) 14)) (innerOf (nthOf (bodyOf (stmtAt 21)) 14)) (wordV r) ⟨lp a1 a2 a3 a4 a5 a6 (some (.ref ll)) a8 a9 a10 a11 (some (.ref gl)) a13 a14, m⟩ fun st' =>
      (∃ a5 a13 a14, st'.vars = lp a1 a2 a3 a4 a5 a6 (some (.ref ll)) a8 a9 a10 a11 (some (.ref gl)) a13 a14) ∧ Lx C I L pb rest st'.m ∧ st'.m.H gl = some (.list ((kstep v (key r)).map .int)) ∧ LGrow I m₀ st'.m := by
  have hgi : GlobIs G "getitem" (.ref (fa 10)) := Fa.def_ (10, "getitem") (by decide)
  have hsi : GlobIs G "setitem" (.ref (fa 12)) := Fa.def_ (12, "setitem") (by decide)
  have had : GlobIs G "add" (.ref (fa 6)) := Fa.def_ (6, "add") (by decide)
  have hsu : GlobIs G "sub" (.ref (fa 7)) := Fa.def_ (7, "sub") (by decide)
  have hp := hr.p
  have hq := hr.q
  have at_ : ∀ {m : MH}, m.H gl = some (.list (v.map .int)) → ∀ j : Nat, j < 3 → CT G A (.st (.ref (fa 10))) [.ref gl, .int j] m fun y m' => y = .int (v.getD j 0) ∧ m' = m := fun h j hj =>
    c_getitem h (Int.natCast_nonneg _) (by rw [Int.toNat_natCast]; exact ints_at (by rw [hv3]; exact hj)) (by omega) hA (Fa.fn 10 (by decide))
  refine asg_name hc ⟨_, by (focus repeat first | with_reducible exact Put.headL | with_reducible exact Put.headC | (show Put (_ :: _) (_ :: _) _ _ _; first | with_reducible exact Put.headL | with_reducible exact Put.headC | apply Put.tail)), ?_⟩
  refine xs_cons (x_assign hc (ev_place (n := n) (r := r) (k := 3) (j := 0) (p := r.p) rfl Fa hA hc (by (focus repeat first | with_reducible exact Glob.head | (show Glob (_ :: _) _; first | with_reducible exact Glob.head | apply Glob.tail))) (by (apply Ev.nm (by assumption); (repeat first | with_reducible exact Slot.head | (show Slot (_ :: _) (_ :: _) _ _ _; first | with_reducible exact Slot.head | apply Slot.tail)); rfl)) X.wf (by decide) (by decide) rfl rfl hp fun m₁ g1 => ⟨_, by (focus repeat first | with_reducible exact Put.headL | with_reducible exact Put.headC | (show Put (_ :: _) (_ :: _) _ _ _; first | with_reducible exact Put.headL | with_reducible exact Put.headC | apply Put.tail)), ?_⟩))
  dsimp only
  have X1 := X.grow g1
  have hgl1 := g1.keep _ _ hgl
  have gg1 := g.trans g1.lg
  refine xs_cons (x_assign hc (ev_call hc (Ev.to (v := .st (.ref (fa 10))) (m := m₁) (by (apply Ev.glob (by assumption); (focus repeat first | with_reducible exact Glob.head | (show Glob (_ :: _) _; first | with_reducible exact Glob.head | apply Glob.tail)); assumption)) (args_cons (Ev.to (v := .ref gl) (m := m₁) (by (apply Ev.nm (by assumption); (repeat first | with_reducible exact Slot.head | (show Slot (_ :: _) (_ :: _) _ _ _; first | with_reducible exact Slot.head | apply Slot.tail)); rfl)) (args_cons (ev_place (n := n) (r := r) (k := 1) (j := 2) (p := r.q) rfl Fa hA hc (by (focus repeat first | with_reducible exact Glob.head | (show Glob (_ :: _) _; first | with_reducible exact Glob.head | apply Glob.tail))) (by (apply Ev.nm (by assumption); (repeat first | with_reducible exact Slot.head | (show Slot (_ :: _) (_ :: _) _ _ _; first | with_reducible exact Slot.head | apply Slot.tail)); rfl)) X1.wf (by decide) (by decide) rfl rfl hq fun m₂ g2 => args_nil ⟨keeps_stat (Fa.fn 10 (by decide)).keep, ?_⟩)))))))
  have X2 := X1.grow g2
  have hgl2 := g2.keep _ _ hgl1
  have gg2 := gg1.trans g2.lg
  refine HT.mono (at_ hgl2 r.q hq).ht ?_
  rintro y m₃ ⟨rfl, em⟩
  rw [em]
  refine ⟨_, by (focus repeat first | with_reducible exact Put.headL | with_reducible exact Put.headC | (show Put (_ :: _) (_ :: _) _ _ _; first | with_reducible exact Put.headL | with_reducible exact Put.headC | apply Put.tail)), ?_⟩
  dsimp only
  refine xs_cons (x_if (Te.to (b := r.plus) (m := m₂) ?_ ?_))
  · apply Te.cmp hc
    · apply Ev.sub (a := wordV r) (b := .int (-2)) hc
      · (apply Ev.nm (by assumption); (repeat first | with_reducible exact Slot.head | (show Slot (_ :: _) (_ :: _) _ _ _; first | with_reducible exact Slot.head | apply Slot.tail)); rfl)
      · apply Ev.un hc
        · exact Ev.int
        · exact un_neg ⟨rfl, rfl⟩
      · exact fun value slice hs => idx_str hs ⟨by decide, by decide⟩ (word_back (r := r) (k := 2) (j := 1) (c := if r.plus then 43 else 45) (by decide) (by decide) rfl rfl) ⟨rfl, rfl⟩
    · exact Ev.str
    · exact cmp_eqs ⟨by cases r.plus <;> rfl, rfl⟩
  have hset : ∀ x : Int, CT G A (.st (.ref (fa 12))) [.ref gl, .int r.p, .int x] m₂ fun y m' => y = .none ∧ m' = m₂.set gl (.list ((v.set r.p x).map .int)) := fun x => by
    have := c_setitem (y := .int x) hgl2 (Int.natCast_nonneg r.p) (by rw [List.length_map, hv3]; omega) (by omega) hA (Fa.fn 12 (by decide))
    rw [Int.toNat_natCast, ← List.map_set] at this
    exact this
  have fin : ∀ x : Int, v.set r.p x = kstep v (key r) → Lx C I L pb rest (m₂.set gl (.list ((v.set r.p x).map .int))) ∧ (m₂.set gl (.list ((v.set r.p x).map .int))).H gl = some (.list ((kstep v (key r)).map .int)) ∧ LGrow I m₀ (m₂.set gl (.list ((v.set r.p x).map .int))) := fun x hx =>
    ⟨X2.offl hgl2 ho, by rw [set_at, hx], ⟨fun j o e h1 h2 h3 => by rw [set_off (fun z : j = gl => hno o (by rw [← z]; exact e))]; exact gg2.keep j o e h1 h2 h3, gg2.tb⟩⟩
  cases hpl : r.plus with
  | true =>
    rw [if_pos rfl]
    have hx : v.set r.p (v.getD r.p 0 + v.getD r.q 0) = kstep v (key r) := by unfold kstep key; dsimp only; rw [hpl]; rfl
    refine xs_cons (Ex.to (Ex.expr (v := .none) (m := m₂.set gl (.list ((v.set r.p (v.getD r.p 0 + v.getD r.q 0)).map .int))) hc ?_) (xs_nil (xs_nil ⟨.inl rfl, ⟨_, _, _, rfl⟩, fin _ hx⟩)))
    apply Ev.call (as := [.ref gl, .int r.p, .int (v.getD r.p 0 + v.getD r.q 0)]) (m₂ := m₂) hc
    · (apply Ev.glob (by assumption); (focus repeat first | with_reducible exact Glob.head | (show Glob (_ :: _) _; first | with_reducible exact Glob.head | apply Glob.tail)); assumption)
    · apply Evs.cons (m₁ := m₂)
      · (apply Ev.nm (by assumption); (repeat first | with_reducible exact Slot.head | (show Slot (_ :: _) (_ :: _) _ _ _; first | with_reducible exact Slot.head | apply Slot.tail)); rfl)
      · apply Evs.cons (m₁ := m₂)
        · (apply Ev.nm (by assumption); (repeat first | with_reducible exact Slot.head | (show Slot (_ :: _) (_ :: _) _ _ _; first | with_reducible exact Slot.head | apply Slot.tail)); rfl)
        · apply Evs.cons (m₁ := m₂)
          · apply Ev.call (as := [.int (v.getD r.p 0), .int (v.getD r.q 0)]) (m₂ := m₂) hc
            · (apply Ev.glob (by assumption); (focus repeat first | with_reducible exact Glob.head | (show Glob (_ :: _) _; first | with_reducible exact Glob.head | apply Glob.tail)); assumption)
            · apply Evs.cons (m₁ := m₂)
              · apply Ev.call (as := [.ref gl, .int r.p]) (m₂ := m₂) hc
                · (apply Ev.glob (by assumption); (focus repeat first | with_reducible exact Glob.head | (show Glob (_ :: _) _; first | with_reducible exact Glob.head | apply Glob.tail)); assumption)
                · exact Evs.cons (by (apply Ev.nm (by assumption); (repeat first | with_reducible exact Slot.head | (show Slot (_ :: _) (_ :: _) _ _ _; first | with_reducible exact Slot.head | apply Slot.tail)); rfl)) (Evs.cons (by (apply Ev.nm (by assumption); (repeat first | with_reducible exact Slot.head | (show Slot (_ :: _) (_ :: _) _ _ _; first | with_reducible exact Slot.head | apply Slot.tail)); rfl)) Evs.nil)
                · exact keeps_stat (Fa.fn 10 (by decide)).keep
                · exact (at_ hgl2 r.p hp).ht
              · apply Evs.cons
                · (apply Ev.nm (by assumption); (repeat first | with_reducible exact Slot.head | (show Slot (_ :: _) (_ :: _) _ _ _; first | with_reducible exact Slot.head | apply Slot.tail)); rfl)
                · exact Evs.nil
                · rfl
            · exact keeps_stat (Fa.fn 6 (by decide)).keep
            · exact (c_add hA (Fa.fn 6 (by decide))).ht
          · exact Evs.nil
    · exact keeps_stat (Fa.fn 12 (by decide)).keep
    · exact (hset _).ht
  | false =>
    rw [if_neg Bool.false_ne_true]
    have hx : v.set r.p (v.getD r.p 0 - v.getD r.q 0) = kstep v (key r) := by unfold kstep key; dsimp only; rw [hpl, Int.sub_eq_add_neg]; rfl
    refine xs_cons (Ex.to (Ex.expr (v := .none) (m := m₂.set gl (.list ((v.set r.p (v.getD r.p 0 - v.getD r.q 0)).map .int))) hc ?_) (xs_nil (xs_nil ⟨.inl rfl, ⟨_, _, _, rfl⟩, fin _ hx⟩)))
    apply Ev.call (as := [.ref gl, .int r.p, .int (v.getD r.p 0 - v.getD r.q 0)]) (m₂ := m₂) hc
    · (apply Ev.glob (by assumption); (focus repeat first | with_reducible exact Glob.head | (show Glob (_ :: _) _; first | with_reducible exact Glob.head | apply Glob.tail)); assumption)
    · apply Evs.cons (m₁ := m₂)
      · (apply Ev.nm (by assumption); (repeat first | with_reducible exact Slot.head | (show Slot (_ :: _) (_ :: _) _ _ _; first | with_reducible exact Slot.head | apply Slot.tail)); rfl)
      · apply Evs.cons (m₁ := m₂)
        · (apply Ev.nm (by assumption); (repeat first | with_reducible exact Slot.head | (show Slot (_ :: _) (_ :: _) _ _ _; first | with_reducible exact Slot.head | apply Slot.tail)); rfl)
        · apply Evs.cons (m₁ := m₂)
          · apply Ev.call (as := [.int (v.getD r.p 0), .int (v.getD r.q 0)]) (m₂ := m₂) hc
            · (apply Ev.glob (by assumption); (focus repeat first | with_reducible exact Glob.head | (show Glob (_ :: _) _; first | with_reducible exact Glob.head | apply Glob.tail)); assumption)
            · apply Evs.cons (m₁ := m₂)
              · apply Ev.call (as := [.ref gl, .int r.p]) (m₂ := m₂) hc
                · (apply Ev.glob (by assumption); (focus repeat first | with_reducible exact Glob.head | (show Glob (_ :: _) _; first | with_reducible exact Glob.head | apply Glob.tail)); assumption)
                · exact Evs.cons (by (apply Ev.nm (by assumption); (repeat first | with_reducible exact Slot.head | (show Slot (_ :: _) (_ :: _) _ _ _; first | with_reducible exact Slot.head | apply Slot.tail)); rfl)) (Evs.cons (by (apply Ev.nm (by assumption); (repeat first | with_reducible exact Slot.head | (show Slot (_ :: _) (_ :: _) _ _ _; first | with_reducible exact Slot.head | apply Slot.tail)); rfl)) Evs.nil)
                · exact keeps_stat (Fa.fn 10 (by decide)).keep
                · exact (at_ hgl2 r.p hp).ht
              · apply Evs.cons
                · (apply Ev.nm (by assumption); (repeat first | with_reducible exact Slot.head | (show Slot (_ :: _) (_ :: _) _ _ _; first | with_reducible exact Slot.head | apply Slot.tail)); rfl)
                · exact Evs.nil
                · rfl
            · exact keeps_stat (Fa.fn 7 (by decide)).keep
            · exact (c_sub hA (Fa.fn 7 (by decide))).ht
          · exact Evs.nil
    · exact keeps_stat (Fa.fn 12 (by decide)).keep
    · exact (hset _).ht
end
theorem ints_shaped (v : List Int) : SeqAt.shaped (.list (v.map PyData.int)) = true := ke_shaped_ints v
theorem ints_rd {m : MH} (v : List Int) : RdAll m (v.map .int) (v.map .int) := by
  induction v with
  | nil => exact .nil
  | cons x r ih => exact .cons (.int x) ih
theorem ints_eqv (v : List Int) : PyData.eqv (.list (v.map PyData.int)) (.list (v.map PyData.int)) = true :=
  SeqAt.eqv_refl _ (by unfold PyData.canLay0; exact ke_canLayAll0 v)
noncomputable def appRow (t : Tab) (v : List Int) (i : Nat) : Int := ((List.range 3).map fun k => at3 t i k * v.getD k 0).sum
section
variable {G : GC} {A : Around} {env : Env} {own : List Addr} {C Cw : Addr} {I : LexIds} {L : Int} {fl fm fa : Nat → Addr} {n : Nat} {m m₀ : MH} {a1 a2 a3 a4 a5 a6 a7 a8 a9 a10 a11 a12 a13 a14 : Option MV}
theorem l_deeds {ll gl : Nat} {q : List PRow} {v : List Int} {rest : List Nat} {pb : List MV} (Fa : Facts G fa) (hq : ∀ r ∈ q, r.Ok) (hv3 : v.length = 3) (hgl : m.H gl = some (.list (v.map .int))) (hll : m₀.H ll = some (.list (q.map wordV))) (X : Lx C I L pb rest m) (ho : Off I gl) (hol : Off I ll) (hno : ∀ o, m₀.H gl ≠ some o) (g : LGrow I m₀ m) (hA : Good (n + 1) A) (hc : (cL G A env own).Ok) :
    ExecTo (cL G A env own) (nthOf (bodyOf (stmtAt 21)) 14) ⟨lp a1 a2 a3 a4 a5 a6 (some (.ref ll)) a8 a9 a10 a11 (some (.ref gl)) a13 a14, m⟩ fun f st' => f = .next ∧
      (∃ a5 a13 a14, st'.vars = lp a1 a2 a3 a4 a5 a6 (some (.ref ll)) a8 a9 a10 a11 (some (.ref gl)) a13 a14) ∧ Lx C I L pb rest st'.m ∧ st'.m.H gl = some (.list (((q.map key).foldl kstep v).map .int)) ∧ LGrow I m₀ st'.m := by
  refine FT.mono (x_for_list hc (l := ll) (xs := q.map wordV) (m := m) ?hi (fun k st => (∃ a5 a13 a14, st.vars = lp a1 a2 a3 a4 a5 a6 (some (.ref ll)) a8 a9 a10 a11 (some (.ref gl)) a13 a14) ∧ Lx C I L pb rest st.m ∧ st.m.H gl = some (.list ((((q.take k).map key).foldl kstep v).map .int)) ∧ LGrow I m₀ st.m)
    (fun k st h => h.2.2.2.at hol hll) ?h0 ?step) ?fin
  case hi => (apply Ev.nm (by assumption); (repeat first | with_reducible exact Slot.head | (show Slot (_ :: _) (_ :: _) _ _ _; first | with_reducible exact Slot.head | apply Slot.tail)); rfl)
  case h0 => exact ⟨⟨_, _, _, rfl⟩, X, hgl, g⟩
  case step =>
    rintro k x ⟨vars, m₁⟩ hx ⟨⟨a5, a13, a14, hv⟩, X1, hgl1, g1⟩
    dsimp only at hv X1 hgl1 g1
    subst hv
    have hk : k < q.length := by have := (List.getElem?_eq_some_iff.mp hx).1; rwa [List.length_map] at this
    have hp := List.getElem?_eq_getElem hk
    rw [List.getElem?_map, hp] at hx
    cases hx
    rw [List.take_add_one, hp, List.map_append, List.foldl_append]
    exact r_turn (n := n) Fa (hq _ (List.getElem_mem hk)) (by rw [folds_len]; exact hv3) hgl1 X1 ho hno g1 hA hc
  case fin =>
    rintro f st' ⟨rfl, h1, h2, h3, h4⟩
    rw [List.length_map, List.take_length] at h3
    exact ⟨rfl, h1, h2, h3, h4⟩
theorem l_check {tv : MV} {bl gl : Nat} {t : Tab} {v : List Int} (Fa : Facts G fa) (ht : IsTab m tv t) (h3 : T3 t) (hv3 : v.length = 3) (hb : m.H bl = some (.list (v.map .int))) (hg : m.H gl = some (.list ((app t v).map .int))) (hok : ∀ i k, IntMulOk (at3 t i k) (v.getD k 0)) (hw : WF m) (hA : Good n A) (hc : (cL G A env own).Ok) :
    ExecTo (cL G A env own) (nthOf (bodyOf (stmtAt 21)) 15) ⟨lp a1 a2 a3 a4 a5 a6 a7 a8 (some tv) a10 (some (.ref bl)) (some (.ref gl)) a13 a14, m⟩ fun f st' => f = .next ∧ st'.vars = lp a1 a2 a3 a4 a5 a6 a7 a8 (some tv) a10 (some (.ref bl)) (some (.ref gl)) a13 a14 ∧ Grow m st'.m := by
  have hsz := sizeLine_big
  have hrange : GlobIs G "range" (.type "range") := Fa.ty "range" (by decide)
  have hsum : GlobIs G "sum" (.builtin "sum") := Fa.bi "sum" (by decide)
  refine x_if (te_cmp hc (Ev.to (v := .ref gl) (m := m) (by (apply Ev.nm (by assumption); (repeat first | with_reducible exact Slot.head | (show Slot (_ :: _) (_ :: _) _ _ _; first | with_reducible exact Slot.head | apply Slot.tail)); rfl)) ?_))
  apply ev_comp hc
  case S => exact ⟨rfl, by decide +kernel, by decide +kernel, by decide +kernel⟩
  case hV => (focus repeat first | with_reducible exact CompVars.nil | apply CompVars.loc | apply CompVars.cell | apply CompVars.glob | (apply CompVars.free; (focus repeat first | with_reducible exact Slot.head | (show Slot (_ :: _) (_ :: _) _ _ _; first | with_reducible exact Slot.head | apply Slot.tail)); (first | exact .inl rfl | exact .inr (.inl rfl) | exact .inr (.inr rfl) | exact .inr rfl)))
  refine ie_range1 hc (ev_glob hc (by (focus repeat first | with_reducible exact Glob.head | (show Glob (_ :: _) _; first | with_reducible exact Glob.head | apply Glob.tail))) hrange ⟨rfl, ev_int ⟨3, rfl, by decide, by decide, rfl, (fun z => nomatch z), rfl, 4, fun env₁ own₁ fp₁ hc₁ => ?_⟩⟩)
  refine comp_range0 (n := 3) (fun i ys st => (∃ w, st.vars = [none, w, none, none, some (.ref bl), some tv]) ∧ Grow m st.m ∧ ys = ((app t v).take i).map .int) ?h0 ?_ ?_
  case h0 => exact ⟨⟨_, rfl⟩, .refl hw, rfl⟩
  · rintro i ys ⟨vars, m₁⟩ hi ⟨⟨w, hv⟩, g, hys⟩
    dsimp only at hv g hys
    subst hv
    refine asg_name hc₁ ⟨_, by (focus repeat first | with_reducible exact Put.headL | with_reducible exact Put.headC | (show Put (_ :: _) (_ :: _) _ _ _; first | with_reducible exact Put.headL | with_reducible exact Put.headC | apply Put.tail)), ?_⟩
    refine ev_call hc₁ (Ev.to (v := .st (.builtin "sum")) (m := m₁) (by (apply Ev.glob (by assumption); (focus repeat first | with_reducible exact Glob.head | (show Glob (_ :: _) _; first | with_reducible exact Glob.head | apply Glob.tail)); assumption)) (args_cons ?_))
    apply ev_comp hc₁
    case S => exact ⟨rfl, by decide +kernel, by decide +kernel, by decide +kernel⟩
    case hV => (focus repeat first | with_reducible exact CompVars.nil | apply CompVars.loc | apply CompVars.cell | apply CompVars.glob | (apply CompVars.free; (focus repeat first | with_reducible exact Slot.head | (show Slot (_ :: _) (_ :: _) _ _ _; first | with_reducible exact Slot.head | apply Slot.tail)); (first | exact .inl rfl | exact .inr (.inl rfl) | exact .inr (.inr rfl) | exact .inr rfl)))
    refine ie_range1 hc₁ (ev_glob hc₁ (by (focus repeat first | with_reducible exact Glob.head | (show Glob (_ :: _) _; first | with_reducible exact Glob.head | apply Glob.tail))) hrange ⟨rfl, ev_int ⟨3, rfl, by decide, by decide, rfl, (fun z => nomatch z), rfl, 4, fun env₂ own₂ fp₂ hc₂ => ?_⟩⟩)
    refine comp_range0 (n := 3) (fun k us st => (∃ w, st.vars = [none, w, some (.ref bl), some (.int i), some tv]) ∧ st.m = m₁ ∧ us = (((List.range 3).map fun k => at3 t i k * v.getD k 0).take k).map .int) ?i0 ?_ ?_
    case i0 => exact ⟨⟨_, rfl⟩, rfl, rfl⟩
    · rintro k us ⟨vars, m₂⟩ hk ⟨⟨w, hv⟩, hm, hus⟩
      dsimp only at hv hm hus
      subst hv hm
      obtain ⟨p, vs, r, row, rfl, hp, hrr, hrow, hl, hat⟩ := (ht.grow g).row h3 hi
      refine asg_name hc₂ ⟨_, by (focus repeat first | with_reducible exact Put.headL | with_reducible exact Put.headC | (show Put (_ :: _) (_ :: _) _ _ _; first | with_reducible exact Put.headL | with_reducible exact Put.headC | apply Put.tail)), Ev.to (v := .int (at3 t i k * v.getD k 0)) (m := m₂) ?_ ⟨?_, ⟨_, rfl⟩, rfl, ?_⟩⟩
      · apply Ev.bin (a := .int (at3 t i k)) (b := .int (v.getD k 0)) hc₂
        · apply Ev.sub (a := .ref r) hc₂
          · apply Ev.sub hc₂
            · (apply Ev.nm (by assumption); (repeat first | with_reducible exact Slot.head | (show Slot (_ :: _) (_ :: _) _ _ _; first | with_reducible exact Slot.head | apply Slot.tail)); rfl)
            · (apply Ev.nm (by assumption); (repeat first | with_reducible exact Slot.head | (show Slot (_ :: _) (_ :: _) _ _ _; first | with_reducible exact Slot.head | apply Slot.tail)); rfl)
            · exact fun value slice hsl => idx_list hsl hp (Int.natCast_nonneg _) (by rw [Int.toNat_natCast]; exact hrr) (by omega) ⟨rfl, rfl⟩
          · (apply Ev.nm (by assumption); (repeat first | with_reducible exact Slot.head | (show Slot (_ :: _) (_ :: _) _ _ _; first | with_reducible exact Slot.head | apply Slot.tail)); rfl)
          · exact fun value slice hsl => idx_list hsl hrow (Int.natCast_nonneg _) (y := .int (at3 t i k)) (by rw [Int.toNat_natCast, ints_at (by omega), hat]) (by omega) ⟨rfl, rfl⟩
        · apply Ev.sub hc₂
          · (apply Ev.nm (by assumption); (repeat first | with_reducible exact Slot.head | (show Slot (_ :: _) (_ :: _) _ _ _; first | with_reducible exact Slot.head | apply Slot.tail)); rfl)
          · (apply Ev.nm (by assumption); (repeat first | with_reducible exact Slot.head | (show Slot (_ :: _) (_ :: _) _ _ _; first | with_reducible exact Slot.head | apply Slot.tail)); rfl)
          · exact fun value slice hsl => idx_list hsl (g.keep _ _ hb) (Int.natCast_nonneg _) (by rw [Int.toNat_natCast]; exact ints_at (by rw [hv3]; exact hk)) (by omega) ⟨rfl, rfl⟩
        · exact bin_mul (hok i k) ⟨rfl, rfl⟩
      · rw [hus, List.length_map, List.length_take]; omega
      · rw [take_snoc _ _ _ hk, List.map_append, hus]; rfl
    · rintro us ⟨vars, m₂⟩ ⟨_, hm, hus⟩
      dsimp only at hm hus
      subst hm
      refine args_nil ⟨keeps_builtin, call_sum hc₁.hand (ns := (List.range 3).map fun k => at3 t i k * v.getD k 0) ?_ ⟨?_, ⟨_, rfl⟩, g.snoc _, ?_⟩⟩
      · rw [hus, List.take_of_length_le (by simp)]; exact alloc_new _ _
      · rw [hys, List.length_map, List.length_take]; omega
      · have e : (app t v).take (i + 1) = (app t v).take i ++ [appRow t v i] := take_snoc _ _ _ hi
        rw [e, List.map_append, hys]; rfl
  · rintro ys ⟨vars, m₁⟩ ⟨_, g, hys⟩
    dsimp only at g hys
    rw [show (app t v).take 3 = app t v from List.take_of_length_le (by rw [app_len]; exact Nat.le_refl _)] at hys
    subst hys
    have g2 := g.snoc (.list ((app t v).map .int))
    have n2 : (m₁.alloc (.list ((app t v).map MV.int))).H m₁.n = some (.list ((app t v).map .int)) := alloc_new _ _
    dsimp only
    generalize m₁.alloc (.list ((app t v).map MV.int)) = m₂ at g2 n2 ⊢
    refine cmp_ned (.list (g2.keep _ _ hg) (ints_rd _)) (.list n2 (ints_rd _)) (ints_shaped _) (ints_shaped _) hA.eq (tru_bool ?_)
    rw [ints_eqv]
    exact xs_nil ⟨rfl, rfl, g2⟩
theorem l_end {k : Nat} (K : LxK G C fl) (Fa : Facts G fa) (X : Lx C I 5 [] [] m) (hA : Good (n + 1 + 1 + 1 + 1) A) (hc : (cL G A env own).Ok) :
    ExecTo (cL G A env own) (nthOf (bodyOf (stmtAt 21)) 16) ⟨lp a1 a2 a3 (some (.ref I.i)) a5 (some (.int k)) a7 a8 a9 (some (.int k)) a11 a12 a13 a14, m⟩ fun f st' => f = .ret (.bool true) := by
  refine x_ret (ev_boolop (bool_and hc (Ev.to (v := .bool true) (m := m) ?_ (tru_bool ?_))))
  · apply Ev.cmp hc
    · (apply Ev.nm (by assumption); (repeat first | with_reducible exact Slot.head | (show Slot (_ :: _) (_ :: _) _ _ _; first | with_reducible exact Slot.head | apply Slot.tail)); rfl)
    · (apply Ev.nm (by assumption); (repeat first | with_reducible exact Slot.head | (show Slot (_ :: _) (_ :: _) _ _ _; first | with_reducible exact Slot.head | apply Slot.tail)); rfl)
    · exact cmp_eq ⟨by rw [beq_self_eq_true], rfl⟩
  refine bool_and hc (ev_cmp hc (ev_getG (n := n) K Fa .eof X (by decide) hA hc (by (apply Ev.nm (by assumption); (repeat first | with_reducible exact Slot.head | (show Slot (_ :: _) (_ :: _) _ _ _; first | with_reducible exact Slot.head | apply Slot.tail)); rfl)) rfl rfl fun m₁ X1 g1 => Ev.to Ev.str (cmp_eqs (tru_bool ?_))))
  rw [beq_self_eq_true]
  refine bool_one (Ev.to (v := .bool true) (m := m₁) ?_ rfl)
  apply Ev.cmp hc
  · apply Ev.attr hc
    · (apply Ev.nm (by assumption); (repeat first | with_reducible exact Slot.head | (show Slot (_ :: _) (_ :: _) _ _ _; first | with_reducible exact Slot.head | apply Slot.tail)); rfl)
    · exact get_inst K.cls X1.i X1.d (K.fields "lineno" (by decide)) rfl ⟨rfl, rfl⟩
  · exact Ev.int
  · exact cmp_eq ⟨rfl, rfl⟩
end
theorem sc21 : ScopeOk (scopeOf (stmtAt 21)) := by exact ⟨rfl, rfl, rfl, by decide +kernel, by decide +kernel, by decide +kernel, by decide +kernel, by decide +kernel⟩
theorem begun_bits (ns : List Int) (k : Nat) : Builtin.Int.intBits ((begunOf ns).getD k 0) ≤ 70 := by
  rw [intBits_le_iff]
  by_cases hk : k < 3
  · have e : (begunOf ns).getD k 0 = beginL.getD k 0 + ((pickL ns (some (k : Int)) none (some 3)).sum).fmod 100000000000000000000 := by
      rw [begunOf, List.getD_eq_getElem?_getD, List.getElem?_map, List.getElem?_range hk]; rfl
    have hp : (0 : Int) < 100000000000000000000 := by decide
    have h1 := Int.fmod_nonneg_of_pos (pickL ns (some (k : Int)) none (some 3)).sum hp
    have h2 := Int.fmod_lt_of_pos (pickL ns (some (k : Int)) none (some 3)).sum hp
    have h3 : 0 ≤ beginL.getD k 0 ∧ beginL.getD k 0 ≤ 5 := by
      have : ∀ k, k < 3 → 0 ≤ beginL.getD k 0 ∧ beginL.getD k 0 ≤ 5 := by decide
      exact this k hk
    rw [e]
    omega
  · have : (begunOf ns).getD k 0 = 0 := by
      rw [List.getD_eq_getElem?_getD, List.getElem?_eq_none]; rfl
      show ((List.range 3).map _).length ≤ k
      rw [List.length_map, List.length_range]; omega
    rw [this]; decide
theorem Lx.offL {C : Addr} {I : LexIds} {L : Int} {m : MH} {j : Nat} {xs : List MV} (X : Lx C I L [] [] m) (h : m.H j = some (.list xs)) (hx : xs ≠ []) : Off I j := by
  refine ⟨kinds_ne h X.d (fun z => nomatch z), fun z => ?_, fun z => ?_⟩
  · rw [z, X.pl] at h
    exact hx (MO.list.inj (Option.some.inj h)).symm
  · rw [z, X.sl] at h
    exact hx (MO.list.inj (Option.some.inj h)).symm
theorem ne_of_len {xs : List MV} (h : xs.length = 3) : xs ≠ [] := fun z => by rw [z] at h; cases h
theorem All2.monoB {α β : Type} {R R' : α → β → Prop} : ∀ {as : List α} {bs : List β}, All2 R as bs → (∀ a, ∀ b ∈ bs, R a b → R' a b) → All2 R' as bs
  | _, _, .nil, _ => .nil
  | _, _, .cons h r, f => .cons (f _ _ (.head _) h) (r.monoB fun a b hb => f a b (.tail _ hb))
theorem IsTab.keepL {C : Addr} {I : LexIds} {L : Int} {m m' : MH} {v : MV} {t : Tab} (h : IsTab m v t) (h3 : T3 t) (X : Lx C I L [] [] m) (g : LGrow I m m') : IsTab m' v t := by
  obtain ⟨i, vs, rfl, hi, hvs⟩ := h
  refine ⟨i, vs, rfl, g.at (X.offL hi (ne_of_len (by rw [hvs.len, h3.1]))) hi, hvs.monoB ?_⟩
  rintro a l hl ⟨j, rfl, hj⟩
  exact ⟨j, rfl, g.at (X.offL hj (ne_of_len (by rw [List.length_map]; exact h3.2 l hl))) hj⟩
section
variable {G : GC} {A : Around} {env : Env} {own : List Addr} {C Cw : Addr} {fl fm fa : Nat → Addr} {n : Nat} {m : MH}
theorem b_law {sv : MV} {ns : List Int} (K : LxK G C fl) (W : WsK G Cw fm) (Fa : Facts G fa) (LK : LamK G (fa 15)) (hs : Scr G sv ns) (hw : WF m) (htb : m.tb = false) (hA : Good 7 A) (hc : (cL G A env own).Ok) :
    ExecsTo (cL G A env own) (bodyOf (stmtAt 21)) ⟨lp (some sv) none none none none none none none none none none none none none, m⟩ fun fl st' => outOf (fun y _ => y = .bool true) fl st'.m := by
  have hrows : GlobIs G "_law_rows" (.ref (fa 14)) := Fa.def_ (14, "_law_rows") (by decide)
  have hA4 : Good (0 + 1 + 1 + 1 + 1) A := hA.le (by decide)
  have hA3 : Good (0 + 1 + 1 + 1) A := hA.le (by decide)
  have hA1 : Good (0 + 1) A := hA.le (by decide)
  -- rows
  refine xs_cons (x_assign hc (ev_call hc (Ev.to (v := .st (.ref (fa 14))) (m := m) (by (apply Ev.glob (by assumption); (focus repeat first | with_reducible exact Glob.head | (show Glob (_ :: _) _; first | with_reducible exact Glob.head | apply Glob.tail)); assumption)) (args_cons (Ev.to (v := sv) (m := m) (by (apply Ev.nm (by assumption); (repeat first | with_reducible exact Slot.head | (show Slot (_ :: _) (_ :: _) _ _ _; first | with_reducible exact Slot.head | apply Slot.tail)); rfl)) (args_nil ⟨keeps_stat (Fa.fn 14 (by decide)).keep, ?_⟩))))))
  refine HT.mono (c_rows (n := 0) Fa hs hw hA1).ht ?_
  rintro y m₁ ⟨g1, rs, hrl, hok, ri, vs, rfl, hri, hrs⟩
  refine ⟨_, by (focus repeat first | with_reducible exact Put.headL | with_reducible exact Put.headC | (show Put (_ :: _) (_ :: _) _ _ _; first | with_reducible exact Put.headL | with_reducible exact Put.headC | apply Put.tail)), ?_⟩
  dsimp only
  have hr4 : rs.length ≤ 4 := by omega
  -- words
  refine xs_cons (FT.mono (l_words Fa hri hrs hok hr4 g1.wf hc) ?_)
  rintro f ⟨vars, m₂⟩ ⟨rfl, wl, hv, g2, hwl⟩
  dsimp only at hv g2 hwl
  subst hv
  dsimp only
  -- the lexer
  refine xs_cons (FT.mono (l_lexer (n := 0) K Fa LK (g2.keep _ _ hri) (hrs.mono fun _ _ z => z.grow g2) hok hr4 hwl g2.wf (g2.tb.trans (g1.tb.trans htb)) hA3 hc) ?_)
  rintro f ⟨vars, m₃⟩ ⟨rfl, I, mb, hv, g3, X3, gb, hno⟩
  dsimp only at hv X3 gb
  subst hv
  dsimp only
  have off : ∀ {j o}, mb.H j = some o → Off I j := fun {j o} h => ⟨fun z => (hno o).1 (z ▸ h), fun z => (hno o).2.1 (z ▸ h), fun z => (hno o).2.2 (z ▸ h)⟩
  have kb : ∀ {j o}, mb.H j = some o → m₃.H j = some o := fun h => gb.keep _ _ h
  have hwlb := g3.keep _ _ hwl
  -- the words are read
  refine xs_cons (FT.mono (l_read (n := 0) K Fa hok hr4 X3 (kb hwlb) (off hwlb) hA4 hc) ?_)
  rintro f ⟨vars, m₄⟩ ⟨rfl, hv, g4, pre, L, X4, hL⟩
  dsimp only at hv X4 g4
  subst hv
  dsimp only
  refine xs_cons (FT.mono (l_push (n := 0) K hr4 X4 (g4.at (off hwlb) (kb hwlb)) (off hwlb) hA1 hc) ?_)
  rintro f ⟨vars, m₅⟩ ⟨rfl, ⟨a5, hv⟩, g5, X5⟩
  dsimp only at hv X5 g5
  subst hv
  dsimp only
  refine xs_cons (Ex.to (f := .next) (st' := ⟨lp (some sv) (some (.ref ri)) (some (.ref wl)) (some (.ref I.i)) a5 (some (.int ((0 : Nat) : Int))) none none none none none none none none, m₅⟩) ?_ ?_)
  · apply Ex.set (v := .int ((0 : Nat) : Int)) hc
    · exact Ev.int
    · (focus repeat first | with_reducible exact Put.headL | with_reducible exact Put.headC | (show Put (_ :: _) (_ :: _) _ _ _; first | with_reducible exact Put.headL | with_reducible exact Put.headC | apply Put.tail))
  dsimp only
  -- the rounds
  have hfit := due_fits 4 hok
  rw [due_fuel 4 hr4] at hfit
  have hks : (keys rs).length ≤ 255 := by
    have := hfit.len
    show ((due rs).deeds.map key).length ≤ 255
    rw [List.length_map]
    have h4 : (4 : Nat) ^ 4 = 256 := by decide
    omega
  refine xs_cons (FT.mono (x_while (nest rs + 1) (l_rounds (n := 0) (m₀ := m₅) K W Fa hA3 hc (nest rs) rs 0 _ rfl hok hks rfl X5 .refl)) ?_)
  rintro f ⟨vars, m₆⟩ ⟨rfl, hv, g6, q, X6, hkq, hq1, hq⟩
  dsimp only at hv X6 g6
  subst hv
  dsimp only
  have hqk : q.map key = (due rs).deeds.map key := by
    rw [← (ones_due q hq1).1, hkq]; rfl
  have hql : q.length ≤ 255 := by
    have := congrArg List.length hkq
    rw [(ones_due q hq1).1, List.length_map] at this
    omega
  have hqn : q ≠ [] := fun z => by
    rw [z, keys_nil] at hkq
    have h1 := len_keys rs fun r hr => (hok r hr).lo
    rw [← hkq] at h1
    rw [List.length_nil] at h1
    omega
  obtain ⟨r, rem, rfl⟩ : ∃ r rem, q = r :: rem := by
    cases q with
    | nil => exact absurd rfl hqn
    | cons r rem => exact ⟨r, rem, rfl⟩
  rw [List.length_cons] at hql
  have X7 := X6.new (.list [])
  have n7 : (m₆.alloc (.list [])).H m₆.n = some (.list []) := alloc_new _ _
  have g7 : LGrow I m₆ (m₆.alloc (.list [])) := .new X6.wf _
  have hol := X6.fresh
  have hnol : ∀ o, m₆.H m₆.n ≠ some o := X6.wf.no
  refine xs_cons (Ex.to (f := .next) (st' := ⟨lp (some sv) (some (.ref ri)) (some (.ref wl)) (some (.ref I.i)) a5 (some (.int ((0 + nest rs : Nat) : Int))) (some (.ref m₆.n)) none none none none none none none, m₆.alloc (.list [])⟩) ?_ ?_)
  · apply Ex.set hc
    · exact Ev.list hc Evs.nil (Nat.zero_le _)
    · (focus repeat first | with_reducible exact Put.headL | with_reducible exact Put.headC | (show Put (_ :: _) (_ :: _) _ _ _; first | with_reducible exact Put.headL | with_reducible exact Put.headC | apply Put.tail))
  dsimp only
  generalize m₆.alloc (.list []) = m₇ at X7 n7 g7 ⊢
  generalize m₆.n = ll at n7 hol hnol ⊢
  refine xs_cons (Ex.to (f := .next) (st' := ⟨lp (some sv) (some (.ref ri)) (some (.ref wl)) (some (.ref I.i)) (some (wordV r)) (some (.int ((0 + nest rs : Nat) : Int))) (some (.ref ll)) none none none none none none none, m₇.set I.pl (.list (rem.map wordV))⟩) ?_ ?_)
  · refine Ex.set hc (ev_popG (n := 0) (t := wordV r) (ts := rem.map wordV) K X7 (by rw [List.length_map]; omega) hA1 hc (by (apply Ev.nm (by assumption); (repeat first | with_reducible exact Slot.head | (show Slot (_ :: _) (_ :: _) _ _ _; first | with_reducible exact Slot.head | apply Slot.tail)); rfl)) rfl rfl) ?_
    (focus repeat first | with_reducible exact Put.headL | with_reducible exact Put.headC | (show Put (_ :: _) (_ :: _) _ _ _; first | with_reducible exact Put.headL | with_reducible exact Put.headC | apply Put.tail))
  dsimp only
  refine xs_cons (FT.mono (x_while (rem.length + 2) (l_left (n := 0) (m₀ := m₆) (pre := pre) K Fa hA4 hc hol hnol rem [] r _ (by show 0 + _ ≤ _; omega) rfl X7.push (by dsimp only; rw [set_off hol.2.1]; exact n7) (g7.set (.inr (.inl rfl))))) ?_)
  rintro f ⟨vars, m₉⟩ ⟨rfl, hv, g9, X9, hll⟩
  dsimp only at hv X9 g9 hll
  subst hv
  dsimp only
  have hL5 : L + (preN pre : Int) = 5 := by rw [hL, hrl]; rfl
  rw [hL5] at X9
  rw [List.nil_append] at hll
  have k9 : ∀ {j o}, mb.H j = some o → m₉.H j = some o := fun {j o} h => g9.at (off h) (g6.at (off h) (g5.at (off h) (g4.at (off h) (kb h))))
  have hrows9 : IsRows m₉ (.ref ri) (rs.map PRow.row) := ⟨ri, vs, rfl, k9 (g3.keep _ _ (g2.keep _ _ hri)), (hrs.mono fun _ _ z => by
    obtain ⟨j, e, hj⟩ := (z.grow g2).grow g3
    exact ⟨j, e, k9 hj⟩)⟩
  -- what is due
  refine xs_cons (FT.mono (l_due Fa hrows9 hok hr4 X9.wf hA hc) ?_)
  rintro f ⟨vars, ma⟩ ⟨rfl, dl, tv, hv, ga, hdl, htv⟩
  dsimp only at hv ga hdl htv
  subst hv
  dsimp only
  refine xs_cons (FT.mono (l_same (n := 7) (ga.keep _ _ hll) hdl hq1 hq hfit.ok hqk (by rw [List.length_cons]; omega) ga.wf hA hc) ?_)
  rintro f ⟨vars, mc⟩ ⟨rfl, hv, gc⟩
  dsimp only at hv gc
  subst hv
  dsimp only
  have gac := ga.trans gc
  -- the registers
  refine xs_cons (FT.mono (l_begun Fa hs gac.wf hc) ?_)
  rintro f ⟨vars, md⟩ ⟨rfl, bl, hv, gd, hbl⟩
  dsimp only at hv gd hbl
  subst hv
  dsimp only
  have gad := gac.trans gd
  have hlen3 : (begunOf ns).length = 3 := by unfold begunOf; rw [List.length_map, List.length_range]
  refine xs_cons (FT.mono (l_registers hbl (by rw [hlen3]; decide) gad.wf hc) ?_)
  rintro f ⟨vars, me⟩ ⟨rfl, hv, hm⟩
  dsimp only at hv hm
  subst hv hm
  dsimp only
  have Xd := X9.grow gad
  have ne : (md.alloc (.list ((begunOf ns).map MV.int))).H md.n = some (.list ((begunOf ns).map .int)) := alloc_new _ _
  have ge : LGrow I md (md.alloc (.list ((begunOf ns).map MV.int))) := .new Xd.wf _
  have Xe := Xd.new (.list ((begunOf ns).map MV.int))
  have hog := Xd.fresh
  have hnog : ∀ o, md.H md.n ≠ some o := Xd.wf.no
  have hllo : Off I ll := hol
  refine xs_cons (FT.mono (l_deeds (n := 0) (m₀ := md) Fa hq hlen3 ne (gad.keep _ _ hll) Xe hog hllo hnog ge hA1 hc) ?_)
  rintro f ⟨vars, mf⟩ ⟨rfl, ⟨b5, b13, b14, hv⟩, Xf, hgl, gf⟩
  dsimp only at hv Xf hgl gf
  subst hv
  dsimp only
  have hblf : mf.H bl = some (.list ((begunOf ns).map .int)) := gf.at (Xd.offL hbl (ne_of_len (by rw [List.length_map]; exact hlen3))) hbl
  have ht3 := due_t3 rs
  have htf := (htv.grow (gc.trans gd)).keepL ht3 Xd gf
  rw [(ones_due (r :: rem) hq1).1.symm, hkq, reg_due rs hok _ hlen3] at hgl
  have hbits : dueBits 4 = 1276 := rfl
  refine xs_cons (FT.mono (l_check (n := 7) Fa htf ht3 hlen3 hblf hgl (fun i k => IntMulOk.of_le (hfit.tb i k) (begun_bits ns k) (by rw [hbits]; decide)) Xf.wf hA hc) ?_)
  rintro f ⟨vars, mg⟩ ⟨rfl, hv, gg⟩
  dsimp only at hv gg
  subst hv
  dsimp only
  rw [Nat.zero_add]
  refine xs_cons (FT.mono (l_end (n := 0) K Fa (Xf.grow gg) hA4 hc) ?_)
  rintro f st' rfl
  exact rfl
theorem c_law {sv : MV} {ns : List Int} (K : LxK G C fl) (W : WsK G Cw fm) (Fa : Facts G fa) (LK : LamK G (fa 15)) (hs : Scr G sv ns) (hw : WF m) (htb : m.tb = false) (hA : Good 8 A) :
    CT G A (.st (.ref (fa 21))) [sv] m fun y _ => y = .bool true :=
  c_of (n := 7) (bs := [(Str.ofString "script", sv)]) (vars := lp (some sv) none none none none none none none none none none none none none) hA (Fa.fn 21 (by decide)) sc21 (by exact bind1 (fun _ _ _ _ _ _ _ _ _ _ _ _ _ => by kernel_rfl)) (by (focus repeat first | exact Binds.nil | (apply Binds.cons; (focus repeat first | with_reducible exact Put.headL | with_reducible exact Put.headC | (show Put (_ :: _) (_ :: _) _ _ _; first | with_reducible exact Put.headL | with_reducible exact Put.headC | apply Put.tail))))) fun _ _ _ hA' hc => b_law K W Fa LK hs hw htb hA' hc
end
noncomputable def Kd (K : Frag) (T : Addr) : Frag := K.filter fun p => p.1 != T
theorem kd_in {K : Frag} {T a : Addr} {o : Obj} (e : (Kd K T).lookup a = some o) : a ≠ T ∧ K.lookup a = some o := by
  induction K with
  | nil => cases e
  | cons p r ih =>
    obtain ⟨b, x⟩ := p
    unfold Kd at e ih
    by_cases hb : b = T
    · rw [List.filter_cons_of_neg (by rw [hb]; simp)] at e
      obtain ⟨h1, h2⟩ := ih e
      refine ⟨h1, ?_⟩
      rw [List.lookup_cons, show (a == b) = false from beq_eq_false_iff_ne.mpr fun z => h1 (z.trans hb)]
      exact h2
    · rw [List.filter_cons_of_pos (by simpa using hb)] at e
      rw [List.lookup_cons] at e ⊢
      cases hab : a == b with
      | true => rw [hab] at e; exact ⟨fun z => hb ((eq_of_beq hab).symm.trans z), e⟩
      | false => rw [hab] at e; exact ih e
noncomputable def gcOf (prog : Program) (w : World) (K : Frag) (T : Nat) (s : Shared) (KX : K.In s.heap) : GC :=
  { prog := prog, w := w, K := Kd K T, h0 := s.heap, g := s.gens, d := s.drawn, os := s.os, T := T, ps := #[], t0 := s.toks - 1, kin := fun _ _ e => ⟨(kd_in e).1, KX _ _ (kd_in e).2⟩ }
noncomputable def mE : MH := ⟨fun _ => none, 0, false⟩
theorem ints_rel {N : Nat} {σ : List Addr} {vs : List Value} {ns : List Int} (h : IntsAre vs ns) : VRels N σ (ns.map MV.int) vs := by
  induction h with
  | nil => trivial
  | cons i t _ ih => exact ⟨⟨t, rfl⟩, ih⟩
section
variable {prog : Program} {w : World} {K : Frag} {T n : Nat} {s : Shared} {KX : K.In s.heap}
theorem gc_start (ht : 1 ≤ s.toks) : (gcOf prog w K T s KX).S s.heap 0 = s := by
  show (⟨s.heap, s.gens, s.drawn, s.toks - 1 + 0 + 1, s.os⟩ : Shared) = s
  rw [show s.toks - 1 + 0 + 1 = s.toks by omega]
theorem gc_rels (hT : K.lookup T = some (tabObj #[])) : HRels (gcOf prog w K T s KX) [] mE s.heap :=
  ⟨rfl, List.Pairwise.nil, fun _ h => (nomatch h), fun _ _ _ h => (nomatch h), fun _ _ _ e => e, ⟨#[], KX _ _ hT, fun _ => rfl⟩, Heap.lt_size (KX _ _ hT), Nat.le_refl _⟩
theorem gc_scr {vs : List Value} {ns : List Int} (hl : s.heap.get? n = some { cls := .type "list", data := .seq vs.toArray }) (hi : IntsAre vs ns) (hlen : ns.length ≤ 1000) (hn : n ≠ T) : Scr (gcOf prog w K T s KX) (.st (.ref n)) ns := by
  intro A m lo hi' st Q h0 hq σ h t u sl vl vu vs' Qs Es I V hs pl pu ps q
  obtain ⟨rfl, _⟩ := V
  have ho := I.keep n _ hn hl
  have R : VRels (gcOf prog w K T s KX).N σ (ns.map MV.int) vs.toArray.toList := by rw [List.toList_toArray]; exact ints_rel hi
  refine ⟨"list", _, ⟨_, ho, rfl⟩, list_getitem_lookup, wpAny_getItem_list_slice ⟨_, ho, rfl, 0, rfl⟩ hs pl pu ps h0 ?_ (by rw [R.size, List.length_map]; exact Nat.le_trans hlen sizeLine_big)⟩
  refine q _ _ t _ _ _ hq (I.alloc ⟨_, 0, Heap.get?_push_size _ rfl, VRels.mono sub_snoc ?_⟩) ⟨_, I.last _, rfl⟩ (Ext.alloc _)
  rw [← pick_ints]
  exact pick_rel R lo hi' st
end
noncomputable def dictIn (K : Frag) (a : Addr) : Option (Array DictEntry) := match K.lookup a with
  | some ⟨_, _, .dict es _, _⟩ => some es
  | _ => none
noncomputable def strKeysIn (K : Frag) (a : Addr) : Bool := match dictIn K a with
  | some es => es.toList.all fun e => match e.key with | .str .. => true | _ => false
  | none => false
theorem ns_of {K : Frag} {a : Addr} {h : Heap} (X : K.In h) (e : strKeysIn K a = true) : ∃ m, h.Ns a m := by
  unfold strKeysIn at e
  split at e
  · rename_i es hes
    unfold dictIn at hes
    split at hes
    · rename_i c d es' ep sl hl
      cases hes
      refine ⟨_, _, es, ep, X _ _ hl, rfl, fun x hx => ?_, fun _ => rfl⟩
      have := List.all_eq_true.mp e x (Array.mem_toList_iff.mpr hx)
      split at this
      · rename_i n t hk; exact ⟨n, t, hk⟩
      · cases this
    · cases hes
  · cases e
theorem ns_val {K : Frag} {a : Addr} {h : Heap} {m : Str → Option Value} {n : Str} {v : Option Value} (X : K.In h) (G : h.Ns a m) (e : nsIn K a n = some v) : m n = v := by
  obtain ⟨o, es, ep, ho, hd, hk, hn⟩ := G
  unfold nsIn at e
  split at e
  · rename_i c d es' ep' sl hl
    rw [X _ _ hl] at ho
    cases ho
    cases hd
    rw [← hn n]
    show findBy (fun n v => v.isStr n) es n = v
    unfold findBy
    rw [← Array.find?_toList]
    split at e
    · rename_i x hx
      cases e
      rw [hx]; rfl
    · rename_i hx
      split at e
      · cases e
      · cases e
        rw [hx]; rfl
  · cases e
noncomputable def fdIn (K : Frag) (f : Addr) : FuncData := match K.lookup f with
  | some ⟨_, _, .func fd, _⟩ => fd
  | _ => ⟨"", "", default, .stmts [], default, 0, [], .none, .none, .none, .none, none, .none, .none, 0⟩
noncomputable def codeName (K : Frag) : Value → Option Str
  | .ref c => (match K.lookup c with
      | some ⟨_, _, .fields vs, _⟩ => (match (vs[1]? : Option Value) with
          | some (Value.str q _) => some q
          | _ => none)
      | _ => none)
  | _ => none
structure FnOk (K : Frag) (f : Addr) (s : Stmt) : Prop where
  data : (K.lookup f).map (·.data) = some (.func (fdIn K f))
  body : (fdIn K f).body = .stmts (bodyOf s)
  scope : (fdIn K f).scope = scopeOf s
  params : (fdIn K f).params = argsOf s
  closure : (fdIn K f).closure = []
  globals : (fdIn K f).globals = mainGlobals
  builtins : (fdIn K f).builtins = builtinsNs
  dflt : (fdIn K f).defaults = .none
  kwd : (fdIn K f).kwdefaults = .none
  rec_ : codeName K (fdIn K f).code = some (fdIn K f).qualname
  keep : keepIn K (.ref f) = true
noncomputable def AllP {α : Type} (P : α → Prop) (l : List α) : Prop := List.rec True (fun a _ ih => P a ∧ ih) l
theorem AllP.at {α : Type} {P : α → Prop} : ∀ {l : List α}, AllP P l → ∀ a ∈ l, P a
  | _ :: _, h, a, ha => by
    rcases List.mem_cons.mp ha with rfl | ha
    · exact h.1
    · exact AllP.at h.2 a ha
noncomputable def faOf (k : Nat) : Addr := (([(6, 136), (7, 143), (8, 150), (9, 157), (10, 164), (11, 171), (12, 178), (14, 183), (15, 188), (16, 195), (17, 200), (18, 205), (19, 212), (20, 219), (21, 224)] : List (Nat × Addr)).lookup k).getD 0
noncomputable def fmOf (k : Nat) : Addr := (([(1, 38), (2, 45), (3, 52), (6, 73)] : List (Nat × Addr)).lookup k).getD 0
noncomputable def flOf (k : Nat) : Addr := (([(0, 101), (1, 108), (2, 115), (3, 122)] : List (Nat × Addr)).lookup k).getD 0
noncomputable def isInt : Value → Bool
  | .int _ _ => true
  | _ => false
noncomputable def isStr : Value → Bool
  | .str _ _ => true
  | _ => false
noncomputable def isBool : Value → Bool
  | .bool _ => true
  | _ => false
noncomputable def isRef (P : Addr) : Value → Bool
  | .ref a => a == P
  | _ => false
noncomputable def codeHdIn (K : Frag) (c P : Addr) : Bool := match K.lookup c with
  | some ⟨.type n, _, .fields vs, _⟩ => n == "code" && isRef P (vs.getD 11 .none) && isStr (vs.getD 18 .none) && isInt (vs.getD 7 .none) && isBool (vs.getD 9 .none) && isInt (vs.getD 10 .none)
  | _ => false
structure TopOk (K : Frag) : Prop where
  kg : strKeysIn K mainGlobals = true
  kb : strKeysIn K builtinsNs = true
  kc : strKeysIn K cStatics = true
  lim : nsIn K cStatics "sys.recursionlimit" = some none
  book : nsIn K cStatics sharingNotToldKey = some none
  fns : AllP (fun k => FnOk K (faOf k) (stmtAt k)) [6, 7, 8, 9, 10, 11, 12, 14, 15, 16, 17, 18, 19, 20, 21]
  defs : AllP (fun p : Nat × String => nsIn K mainGlobals (Str.ofString p.2) = some (some (.ref (faOf p.1)))) [(6, "add"), (7, "sub"), (8, "concat"), (9, "contains"), (10, "getitem"), (11, "indexOf"), (12, "setitem"), (14, "_law_rows"), (15, "_law_lexer"), (16, "_law_columns"), (17, "_law_under"), (18, "_law_times"), (19, "_law_due"), (20, "_law_round")]
  tys : AllP (fun x : String => nsIn K mainGlobals (Str.ofString x) = some none ∧ nsIn K builtinsNs (Str.ofString x) = some (some (.type x))) ["range", "zip", "enumerate", "tuple", "str"]
  bis : AllP (fun x : String => nsIn K mainGlobals (Str.ofString x) = some none ∧ nsIn K builtinsNs (Str.ofString x) = some (some (.builtin x))) ["len", "min", "max", "sum", "iter", "hasattr"]
  law : nsIn K mainGlobals "law" = some (some (.ref 224))
  wc : ClsK K 83
  wm : makesIn K 83 = true
  wr : readsIn K 83 (.type "type") = true
  wS : findCls K (.ref 83) (.type "type") "S" = some (.val (.str " " 209))
  wT : findCls K (.ref 83) (.type "type") "T" = some (.val (.str "\t" 210))
  wf : AllP (fun x : String => findIn K (.ref 83) (Str.ofString x) = some none) ["raw", "n", "nt", "norm", "is_simple"]
  wn : AllP (fun p : Nat × String => FnOk K (fmOf p.1) (methAt 2 p.1) ∧ findIn K (.ref 83) (Str.ofString p.2) = some (some (.ref (fmOf p.1))) ∧ isFn K (.ref (fmOf p.1)) = true) [(1, "__init__"), (2, "longest_run_of_spaces"), (3, "indent_level"), (6, "less")]
  wg : nsIn K mainGlobals "Whitespace" = some (some (.ref 83))
  wk : keepIn K (.ref 83) = true
  lc : ClsK K 125
  lm : makesIn K 125 = true
  lf : AllP (fun x : String => findIn K (.ref 125) (Str.ofString x) = some none) ["lineno", "instream", "whitespace", "pushback", "read"]
  ln : AllP (fun p : Nat × String => FnOk K (flOf p.1) (methAt 4 p.1) ∧ findIn K (.ref 125) (Str.ofString p.2) = some (some (.ref (flOf p.1))) ∧ isFn K (.ref (flOf p.1)) = true) [(0, "__init__"), (1, "_read_char"), (2, "get_token"), (3, "push_token")]
  l1 : specialIn K (.ref 108) "__get__" = some (some (.builtin "function.__get__"))
  l2 : takesIn K (.ref 108) = some false
  l3 : fnIn K 108 = true
  lg : nsIn K mainGlobals "_netrclex" = some (some (.ref 125))
  lk : keepIn K (.ref 125) = true
  bb : nsIn K mainGlobals "__builtins__" = some (some (.ref 4))
  bm : K.lookup 4 = some { cls := .type "module", dict := some builtinsNs }
  ch : codeHdIn K 187 185 = true
  cd : (fdIn K 188).code = .ref 187
theorem codeHd_of {K : Frag} {c P : Addr} {h : Heap} (X : K.In h) (e : codeHdIn K c P = true) (hne : c ≠ P) : CodeHd h c P := by
  unfold codeHdIn at e
  split at e
  · rename_i n d vs sl hl
    simp only [Bool.and_eq_true] at e
    obtain ⟨⟨⟨⟨⟨e1, e2⟩, e3⟩, e4⟩, e5⟩, e6⟩ := e
    have f2 : vs.getD 11 .none = .ref P := by
      cases hv : vs.getD 11 .none <;> rw [hv] at e2 <;> first | exact congrArg Value.ref (eq_of_beq e2) | cases e2
    obtain ⟨x3, t3, f3⟩ : ∃ x t, vs.getD 18 .none = .str x t := by
      cases hv : vs.getD 18 .none <;> rw [hv] at e3 <;> first | exact ⟨_, _, rfl⟩ | cases e3
    obtain ⟨x4, t4, f4⟩ : ∃ x t, vs.getD 7 .none = .int x t := by
      cases hv : vs.getD 7 .none <;> rw [hv] at e4 <;> first | exact ⟨_, _, rfl⟩ | cases e4
    obtain ⟨x5, f5⟩ : ∃ x, vs.getD 9 .none = .bool x := by
      cases hv : vs.getD 9 .none <;> rw [hv] at e5 <;> first | exact ⟨_, rfl⟩ | cases e5
    obtain ⟨x6, t6, f6⟩ : ∃ x t, vs.getD 10 .none = .int x t := by
      cases hv : vs.getD 10 .none <;> rw [hv] at e6 <;> first | exact ⟨_, _, rfl⟩ | cases e6
    have f1 : vs[11]? = some (.ref P) := by
      cases hv : vs[11]? with
      | none => rw [Array.getD_eq_getD_getElem?, hv] at f2; cases f2
      | some y => rw [Array.getD_eq_getD_getElem?, hv] at f2; rw [show y = .ref P from f2]
    exact ⟨_, vs, x3, t3, x4, t4, x5, x6, t6, X _ _ hl, by rw [eq_of_beq e1], rfl, f1, f2, f3, f4, f5, f6, hne⟩
  · cases e
section
variable {prog : Program} {w : World} {K : Frag} {s : Shared} {KX : K.In s.heap}
noncomputable abbrev gc1 (prog : Program) (w : World) (K : Frag) (s : Shared) (KX : K.In s.heap) : GC := gcOf prog w K 185 s KX
theorem lt_of {a : Addr} {o : Obj} (e : (Kd K 185).lookup a = some o) : a < (gc1 prog w K s KX).N := Heap.lt_size (KX _ _ (kd_in e).2)
theorem lim_of {h : Heap} (T : TopOk (Kd K 185)) (X : (Kd K 185).In h) : h.NoLimit := by
  obtain ⟨m, hm⟩ := ns_of X T.kc
  exact ⟨m, hm, ns_val X hm T.lim⟩
theorem fn_at {f : Addr} {st : Stmt} (T : TopOk (Kd K 185)) (F : FnOk (Kd K 185) f st) : FnAt (gc1 prog w K s KX) f (fdIn (Kd K 185) f) := by
  obtain ⟨o, ho, hd⟩ := Option.map_eq_some_iff.mp F.data
  refine ⟨lt_of (prog := prog) (w := w) (KX := KX) ho, fun σ m h X => ⟨⟨o, X.kIn _ _ ho, hd⟩, ?_, lim_of T X.kIn⟩⟩
  have hr := F.rec_
  unfold codeName at hr
  split at hr
  · rename_i c hc
    split at hr
    · rename_i cl d vs sl hl
      split at hr
      · rename_i q t hq
        cases hr
        exact ⟨c, _, vs, t, hc, X.kIn _ _ hl, rfl, hq⟩
      · cases hr
    · cases hr
  · cases hr
theorem fn_is {f : Addr} {st : Stmt} (T : TopOk (Kd K 185)) (F : FnOk (Kd K 185) f st) : FnIs (gc1 prog w K s KX) st f :=
  ⟨⟨_, fn_at T F, F.body, F.scope, F.params, F.closure, F.globals, F.builtins, F.dflt, F.kwd⟩, F.keep⟩
theorem gl_ref {x : Str} {a : Addr} {o : Obj} (T : TopOk (Kd K 185)) (e : nsIn (Kd K 185) mainGlobals x = some (some (.ref a))) (ho : (Kd K 185).lookup a = some o) : GlobIs (gc1 prog w K s KX) x (.ref a) :=
  ⟨lt_of (prog := prog) (w := w) (KX := KX) ho, fun σ m h X => by
    obtain ⟨mg, hm⟩ := ns_of X.kIn T.kg
    exact ⟨mg, hm, .inl (ns_val X.kIn hm e)⟩⟩
theorem gl_b {x : Str} {v : Value} (hv : isStat (gc1 prog w K s KX).N v) (T : TopOk (Kd K 185)) (e : nsIn (Kd K 185) mainGlobals x = some none ∧ nsIn (Kd K 185) builtinsNs x = some (some v)) : GlobIs (gc1 prog w K s KX) x v :=
  ⟨hv, fun σ m h X => by
    obtain ⟨mg, hm⟩ := ns_of X.kIn T.kg
    obtain ⟨mb, hb'⟩ := ns_of X.kIn T.kb
    exact ⟨mg, hm, .inr ⟨ns_val X.kIn hm e.1, mb, hb', ns_val X.kIn hb' e.2⟩⟩⟩
theorem look_fn {f : Addr} {st : Stmt} (F : FnOk (Kd K 185) f st) : ∃ o, (Kd K 185).lookup f = some o := let ⟨o, ho, _⟩ := Option.map_eq_some_iff.mp F.data; ⟨o, ho⟩
theorem facts_of (T : TopOk (Kd K 185)) : Facts (gc1 prog w K s KX) faOf := by
  refine ⟨⟨show cStatics ≠ 185 by decide, ?_⟩, fun k hk => fn_is T (T.fns.at k hk), fun p hp => ?_, fun x hx => gl_b trivial T (T.tys.at x hx), fun x hx => gl_b trivial T (T.bis.at x hx)⟩
  · have X : (Kd K 185).In s.heap := fun a o e => KX _ _ (kd_in e).2
    obtain ⟨m, hm⟩ := ns_of X T.kc
    exact ⟨m, hm, ns_val X hm T.book⟩
  · have hp' : p.1 ∈ [6, 7, 8, 9, 10, 11, 12, 14, 15, 16, 17, 18, 19, 20, 21] := by
      have : ∀ p ∈ [(6, "add"), (7, "sub"), (8, "concat"), (9, "contains"), (10, "getitem"), (11, "indexOf"), (12, "setitem"), (14, "_law_rows"), (15, "_law_lexer"), (16, "_law_columns"), (17, "_law_under"), (18, "_law_times"), (19, "_law_due"), (20, "_law_round")], p.1 ∈ [6, 7, 8, 9, 10, 11, 12, 14, 15, 16, 17, 18, 19, 20, 21] := by decide
      exact this p hp
    obtain ⟨o, ho⟩ := look_fn (T.fns.at _ hp')
    exact gl_ref T (T.defs.at p hp) ho
theorem keep_look {K : Frag} {C : Addr} (h : ClsK K C) : ∃ o, K.lookup C = some o := by
  cases hl : K.lookup C with
  | some o => exact ⟨o, rfl⟩
  | none =>
    have := h.gat
    unfold findIn at this
    dsimp only at this
    rw [hl] at this
    cases this
theorem ws_of (T : TopOk (Kd K 185)) : WsK (gc1 prog w K s KX) 83 fmOf := by
  obtain ⟨o, ho⟩ := keep_look T.wc
  refine ⟨T.wc, T.wm, ⟨_, _, _, T.wr, T.wS, T.wT⟩, fun x hx => T.wf.at x hx, fun p hp => ?_, gl_ref T T.wg ho, T.wk⟩
  obtain ⟨h1, h2, h3⟩ := T.wn.at p hp
  exact ⟨fn_is T h1, h2, h3⟩
theorem lx_of (T : TopOk (Kd K 185)) : LxK (gc1 prog w K s KX) 125 flOf := by
  obtain ⟨o, ho⟩ := keep_look T.lc
  refine ⟨T.lc, T.lm, fun x hx => T.lf.at x hx, fun p hp => ?_, ⟨T.l1, T.l2, T.l3⟩, gl_ref T T.lg ho, T.lk⟩
  obtain ⟨h1, h2, h3⟩ := T.ln.at p hp
  exact ⟨fn_is T h1, h2, h3⟩
theorem lam_of (T : TopOk (Kd K 185)) : LamK (gc1 prog w K s KX) 188 := by
  have F := T.fns.at 15 (by decide)
  refine ⟨187, ⟨fun σ m h X => ?_, trivial, show mainGlobals ≠ 185 by decide⟩, rfl, _, fn_at T F, F.body, F.scope, F.params, F.closure, F.globals, F.builtins, F.dflt, F.kwd, T.cd⟩
  obtain ⟨mg, hm⟩ := ns_of X.kIn T.kg
  exact ⟨mg, hm, ⟨4, _, ns_val X.kIn hm T.bb, by decide, by decide, show (4 : Nat) ≠ 185 by decide, X.kIn _ _ T.bm, rfl, rfl, rfl⟩, codeHd_of (P := 185) X.kIn T.ch (by decide)⟩
end
theorem law_top {prog : Program} {w : World} {K : Frag} {s : Shared} {n : Nat} {vs : List Value} {ns : List Int} (KX : K.In s.heap) (T : TopOk (Kd K 185)) (hT : K.lookup 185 = some (tabObj #[])) (ht : 1 ≤ s.toks)
    (hl : s.heap.get? n = some { cls := .type "list", data := .seq vs.toArray }) (hi : IntsAre vs ns) (hlen : ns.length ≤ 63) (hn : n ≠ 185) :
    codeAny (model prog w) callerA (.call (.ref 224) ⟨[.ref n], []⟩) (fun r s' => r = .ok (.ret (.bool true)) ∧ OldK s.heap s'.heap ∧ s'.os = s.os ∧ s'.gens = s.gens) s := by
  have hs := gc_start (prog := prog) (w := w) (K := K) (T := 185) (KX := KX) ht
  have H := gc_rels (prog := prog) (w := w) (KX := KX) hT
  have hA : Good 8 callerA := ⟨rfl, by decide, by decide⟩
  have hlt : (224 : Nat) < (gc1 prog w K s KX).N := by
    obtain ⟨o, ho⟩ := look_fn (T.fns.at 21 (by decide))
    exact lt_of (prog := prog) (w := w) (KX := KX) ho
  have C := c_law (m := mE) (lx_of (prog := prog) (w := w) (KX := KX) T) (ws_of T) (facts_of T) (lam_of T) (gc_scr hl hi (by omega) hn) (fun _ _ e => nomatch e) rfl hA
  have R := C [] s.heap 0 (.ref 224) [.ref n] (fun r s' => r = .ok (.ret (.bool true)) ∧ OldK s.heap s'.heap ∧ s'.os = s.os ∧ s'.gens = s.gens) H ⟨rfl, hlt⟩ ⟨⟨rfl, Heap.lt_size hl⟩, trivial⟩ ?_
  · rw [hs] at R; exact R
  · rintro σ' h' t' u y m' rfl H' V E
    cases V
    refine ⟨rfl, ⟨fun b o e => ?_, fun b o e => ?_⟩, rfl, rfl⟩
    · by_cases hb : b = 185
      · subst hb
        obtain ⟨more, hm, _⟩ := H'.tab
        have e0 : o = tabObj #[] := Option.some.inj (e.symm.trans (KX _ _ hT))
        obtain ⟨o', vs', file, tf, flags, tg, inF, text, tt, h1, h2, h3, h4, _⟩ := codeHd_of (P := 185) H.kIn T.ch (by decide)
        subst e0
        refine .inr (.inl ⟨⟨187, o', vs', h1, h2, h3, h4⟩, rfl, #[], more, rfl, ?_⟩)
        exact hm
      · exact .inl (E.keep b o (fun z => nomatch z) (fun z => nomatch z) hb e)
    · by_cases hb : b = 185
      · subst hb
        obtain ⟨more, hm, _⟩ := H'.tab
        exact ⟨_, hm⟩
      · exact ⟨o, E.keep b o (fun z => nomatch z) (fun z => nomatch z) hb e⟩
noncomputable def frOf (l : List Obj) : Nat → Frag := List.rec (fun _ => []) (fun o _ ih n => match o.isFreed with | true => ih (n + 1) | false => (n, o) :: ih (n + 1)) l
theorem frOf_at : ∀ {l : List Obj} {n a : Nat} {o : Obj}, (frOf l n).lookup a = some o → ∃ i, a = n + i ∧ l[i]? = some o ∧ o.isFreed = false
  | [], _, _, _, e => nomatch e
  | x :: l, n, a, o, e => by
    have e : List.lookup a (match x.isFreed with | true => frOf l (n + 1) | false => (n, x) :: frOf l (n + 1)) = some o := e
    have go (e : (frOf l (n + 1)).lookup a = some o) : ∃ i, a = n + i ∧ (x :: l)[i]? = some o ∧ o.isFreed = false := by
      obtain ⟨i, hi, hl⟩ := frOf_at e
      exact ⟨i + 1, by omega, hl⟩
    cases hx : x.isFreed with
    | true => rw [hx] at e; exact go e
    | false =>
      rw [hx] at e
      dsimp only at e
      rw [List.lookup_cons] at e
      cases h : a == n with
      | true => rw [h] at e; cases e; exact ⟨0, eq_of_beq h, rfl, hx⟩
      | false => rw [h] at e; exact go e
noncomputable def allOf (h : Heap) : Frag := frOf h.objs.toList 0
theorem allOf_in (h : Heap) : (allOf h).In h := fun a o e => by
  obtain ⟨i, hi, hl, hf⟩ := frOf_at e
  rw [Nat.zero_add] at hi
  subst hi
  unfold Heap.get?
  rw [← Array.getElem?_toList, hl]
  obtain ⟨c, d, dt, sl⟩ := o
  cases dt <;> first | rfl | cases hf
noncomputable def fnB (K : Frag) (f : Addr) : Bool := match K.lookup f with
  | some ⟨_, _, .func _, _⟩ => match codeName K (fdIn K f).code with
    | some q => decide (q = (fdIn K f).qualname)
    | none => false
  | _ => false
noncomputable def fnL (K : Frag) (f : Addr) := (fnB K f, (fdIn K f).body, (fdIn K f).scope, (fdIn K f).params, (fdIn K f).closure, (fdIn K f).globals, (fdIn K f).builtins, (fdIn K f).defaults, (fdIn K f).kwdefaults, keepIn K (.ref f))
noncomputable def fnG (s : Stmt) := (true, FuncBody.stmts (bodyOf s), scopeOf s, argsOf s, ([] : List (Str × Addr)), mainGlobals, builtinsNs, Value.none, Value.none, true)
theorem fn_ok {K : Frag} {f : Addr} {s : Stmt} (e : fnL K f = fnG s) : FnOk K f s := by
  unfold fnL fnG at e
  simp only [Prod.mk.injEq] at e
  obtain ⟨h, e1, e2, e3, e4, e5, e6, e7, e8, e9⟩ := e
  unfold fnB at h
  split at h
  · rename_i c d fd sl hl
    refine ⟨?_, e1, e2, e3, e4, e5, e6, e7, e8, ?_, e9⟩
    · unfold fdIn; rw [hl]; rfl
    · split at h
      · rename_i q hq; rw [hq, of_decide_eq_true h]
      · cases h
  · cases h
theorem allP_of {α β : Type} {f g : α → β} : ∀ {l : List α}, l.map f = l.map g → AllP (fun x => f x = g x) l
  | [], _ => trivial
  | _ :: _, e => ⟨(List.cons.inj e).1, allP_of (List.cons.inj e).2⟩
theorem AllP.mono {α : Type} {P Q : α → Prop} (h : ∀ a, P a → Q a) : ∀ {l : List α}, AllP P l → AllP Q l
  | [], _ => trivial
  | _ :: _, p => ⟨h _ p.1, AllP.mono h p.2⟩
noncomputable def lookB (K : Frag) : List Bool := [strKeysIn K mainGlobals, strKeysIn K builtinsNs, strKeysIn K cStatics, makesIn K 83, readsIn K 83 (.type "type"), keepIn K (.ref 83), makesIn K 125, fnIn K 108, keepIn K (.ref 125), codeHdIn K 187 185, plainOver K 83, hasDictIn K 83, plainOver K 125, hasDictIn K 125]
noncomputable def lookN (K : Frag) : List (Option (Option Value)) := [nsIn K cStatics "sys.recursionlimit", nsIn K cStatics sharingNotToldKey, nsIn K mainGlobals "law", nsIn K mainGlobals "Whitespace", nsIn K mainGlobals "_netrclex", nsIn K mainGlobals "__builtins__",
  findIn K (.ref 83) "__getattribute__", findIn K (.ref 83) "__getattr__", findIn K (.ref 83) "__setattr__", findIn K (.ref 125) "__getattribute__", findIn K (.ref 125) "__getattr__", findIn K (.ref 125) "__setattr__", specialIn K (.ref 108) "__get__"]
noncomputable def goodN : List (Option (Option Value)) := [some none, some none, some (some (.ref 224)), some (some (.ref 83)), some (some (.ref 125)), some (some (.ref 4)),
  some (some (.builtin "object.__getattribute__")), some none, some (some (.builtin "object.__setattr__")), some (some (.builtin "object.__getattribute__")), some none, some (some (.builtin "object.__setattr__")), some (some (.builtin "function.__get__"))]
noncomputable def fnsL : List Nat := [6, 7, 8, 9, 10, 11, 12, 14, 15, 16, 17, 18, 19, 20, 21]
noncomputable def defsL : List (Nat × String) := [(6, "add"), (7, "sub"), (8, "concat"), (9, "contains"), (10, "getitem"), (11, "indexOf"), (12, "setitem"), (14, "_law_rows"), (15, "_law_lexer"), (16, "_law_columns"), (17, "_law_under"), (18, "_law_times"), (19, "_law_due"), (20, "_law_round")]
noncomputable def tysL : List String := ["range", "zip", "enumerate", "tuple", "str"]
noncomputable def bisL : List String := ["len", "min", "max", "sum", "iter", "hasattr"]
noncomputable def wfL : List String := ["raw", "n", "nt", "norm", "is_simple"]
noncomputable def lfL : List String := ["lineno", "instream", "whitespace", "pushback", "read"]
noncomputable def wnL : List (Nat × String) := [(1, "__init__"), (2, "longest_run_of_spaces"), (3, "indent_level"), (6, "less")]
noncomputable def lnL : List (Nat × String) := [(0, "__init__"), (1, "_read_char"), (2, "get_token"), (3, "push_token")]
noncomputable def look (K : Frag) := (lookB K, lookN K, fnsL.map (fun k => fnL K (faOf k)), defsL.map (fun p => nsIn K mainGlobals (Str.ofString p.2)),
  tysL.map (fun x => (nsIn K mainGlobals (Str.ofString x), nsIn K builtinsNs (Str.ofString x))), bisL.map (fun x => (nsIn K mainGlobals (Str.ofString x), nsIn K builtinsNs (Str.ofString x))),
  wfL.map (fun x => findIn K (.ref 83) (Str.ofString x)), lfL.map (fun x => findIn K (.ref 125) (Str.ofString x)),
  wnL.map (fun p => (fnL K (fmOf p.1), findIn K (.ref 83) (Str.ofString p.2), isFn K (.ref (fmOf p.1)))), lnL.map (fun p => (fnL K (flOf p.1), findIn K (.ref 125) (Str.ofString p.2), isFn K (.ref (flOf p.1)))),
  findCls K (.ref 83) (.type "type") "S", findCls K (.ref 83) (.type "type") "T", takesIn K (.ref 108), K.lookup 4, (fdIn K 188).code)
noncomputable def good := (List.replicate 14 true, goodN, fnsL.map (fun k => fnG (stmtAt k)), defsL.map (fun p => some (some (Value.ref (faOf p.1)))),
  tysL.map (fun x => (some (Option.none (α := Value)), some (some (Value.type x)))), bisL.map (fun x => (some (Option.none (α := Value)), some (some (Value.builtin x)))),
  wfL.map (fun _ => some (Option.none (α := Value))), lfL.map (fun _ => some (Option.none (α := Value))),
  wnL.map (fun p => (fnG (methAt 2 p.1), some (some (Value.ref (fmOf p.1))), true)), lnL.map (fun p => (fnG (methAt 4 p.1), some (some (Value.ref (flOf p.1))), true)),
  some (CFound.val (.str " " 209)), some (CFound.val (.str "\t" 210)), some false, some ({ cls := .type "module", dict := some builtinsNs } : Obj), Value.ref 187)
theorem topOk_of {K : Frag} (e : look K = good) : TopOk K := by
  have ⟨eb, e⟩ := Prod.mk.inj e
  have ⟨en, e⟩ := Prod.mk.inj e
  have ⟨ef, e⟩ := Prod.mk.inj e
  have ⟨ed, e⟩ := Prod.mk.inj e
  have ⟨et, e⟩ := Prod.mk.inj e
  have ⟨ei, e⟩ := Prod.mk.inj e
  have ⟨ew, e⟩ := Prod.mk.inj e
  have ⟨el, e⟩ := Prod.mk.inj e
  have ⟨ewn, e⟩ := Prod.mk.inj e
  have ⟨eln, e⟩ := Prod.mk.inj e
  have ⟨eS, e⟩ := Prod.mk.inj e
  have ⟨eT, e⟩ := Prod.mk.inj e
  have ⟨el2, e⟩ := Prod.mk.inj e
  have ⟨ebm, ecd⟩ := Prod.mk.inj e
  have B : AllP (fun b => b = true) (lookB K) := allP_of (f := fun b => b) (g := fun _ => true) (by rw [List.map_id']; exact eb)
  have N : AllP (fun p : Option (Option Value) × Option (Option Value) => p.1 = p.2) ((lookN K).zip goodN) := allP_of (f := Prod.fst) (g := Prod.snd) en
  exact {
    kg := B.1, kb := B.2.1, kc := B.2.2.1, lim := N.1, book := N.2.1
    fns := AllP.mono (fun _ h => fn_ok h) (allP_of ef)
    defs := allP_of ed
    tys := AllP.mono (fun _ h => Prod.mk.inj h) (allP_of et)
    bis := AllP.mono (fun _ h => Prod.mk.inj h) (allP_of ei)
    law := N.2.2.1
    wc := ⟨N.2.2.2.2.2.2.1, N.2.2.2.2.2.2.2.1, N.2.2.2.2.2.2.2.2.1, B.2.2.2.2.2.2.2.2.2.2.1, B.2.2.2.2.2.2.2.2.2.2.2.1⟩
    wm := B.2.2.2.1, wr := B.2.2.2.2.1, wS := eS, wT := eT
    wf := allP_of ew
    wn := AllP.mono (fun _ h => ⟨fn_ok (Prod.mk.inj h).1, Prod.mk.inj (Prod.mk.inj h).2⟩) (allP_of ewn)
    wg := N.2.2.2.1, wk := B.2.2.2.2.2.1
    lc := ⟨N.2.2.2.2.2.2.2.2.2.1, N.2.2.2.2.2.2.2.2.2.2.1, N.2.2.2.2.2.2.2.2.2.2.2.1, B.2.2.2.2.2.2.2.2.2.2.2.2.1, B.2.2.2.2.2.2.2.2.2.2.2.2.2.1⟩
    lm := B.2.2.2.2.2.2.1
    lf := allP_of el
    ln := AllP.mono (fun _ h => ⟨fn_ok (Prod.mk.inj h).1, Prod.mk.inj (Prod.mk.inj h).2⟩) (allP_of eln)
    l1 := N.2.2.2.2.2.2.2.2.2.2.2.2.1, l2 := el2, l3 := B.2.2.2.2.2.2.2.1
    lg := N.2.2.2.2.1, lk := B.2.2.2.2.2.2.2.2.1, bb := N.2.2.2.2.2.1, bm := ebm
    ch := B.2.2.2.2.2.2.2.2.2.1, cd := ecd }
noncomputable def looseL : List Str := [Str.ofString "Whitespace"]
noncomputable def viewQ : Program := view PySem.Challenge.pw_sw0051_01 [0, 2, 4, 6, 7, 8, 9, 10, 11, 12, 14, 15, 16, 17, 18, 19, 20, 21]
noncomputable def bootS (w : World) (os : OsState) : Shared := ⟨boot_heap w.params, #[], boot_drawn, boot_toks, os⟩
theorem left_boot {p q : Program} {loose : List Str} {Xt : Shared → Bool} {α : Type} {Yf : Shared → α} {Ya : World → α} {N m : Nat} {ann : Option Value}
    (e : opening p = plainProg p.main.scope.names) (hN : Nat.ble 600 N = true) (f : ∀ s, fenceModules? p s = some s)
    (size : ∀ w : World, ((boot_heap w.params).isNs mainGlobals && Nat.beq 0 0, (boot_heap w.params).objs.size, (boot_heap w.params).nsMap mainGlobals "__annotations__") = (true, m, ann))
    (run : ∀ (w : World) (os : OsState), (PySem.W.Fast.tw14082659384304107361 PySem.W.Fast.tw14364793385576792824 p w m ann N (bootS w os) (topStub p)).map (fun s =>
        (staticsOk (importedModules p.main.body) (boot_heap w.params) s.heap && namesBound p s.heap && gensDone s && laidKept (boot_heap w.params) s.heap,
         PySem.W.Fast.tw4187177175401517315 q loose (importedModules p.main.body) Xt true s, Yf s)) = some (true, openGood q loose, Ya w)) : LeftO p q loose Xt Yf Ya N := fun w => by
  obtain ⟨⟨h, gs, d, k, os⟩, e, e'⟩ := Option.map_eq_some_iff.mp (boot_open e hN f w)
  obtain ⟨rfl, rfl, rfl, rfl⟩ : h = boot_heap w.params ∧ gs = #[] ∧ d = boot_drawn ∧ k = boot_toks := by simpa using e'
  obtain ⟨z1, z2, z3⟩ : _ ∧ _ ∧ _ := by simpa only [Prod.mk.injEq] using size w
  have r := run w os
  rw [← PySem.W.Fast.te14082659384304107361, ← PySem.W.Fast.te14364793385576792824, ← PySem.W.Fast.te4187177175401517315] at r
  obtain ⟨s, hs, r⟩ := Option.map_eq_some_iff.mp r
  obtain ⟨r1, r⟩ := Prod.mk.inj r
  unfold openEnds
  rw [e]
  show (topFrom treeTable p w N (bootS w os)).map _ = _
  have t : topFrom treeTable p w N (bootS w os) = some s := by
    unfold topFrom
    show (match (boot_heap w.params).isNs mainGlobals && Nat.beq 0 0 with
      | true => (topRun treeTable p w (boot_heap w.params).objs.size ((boot_heap w.params).nsMap mainGlobals "__annotations__") N (bootS w os) (topStub p)).bind fun s₁ => match staticsOk (importedModules p.main.body) (boot_heap w.params) s₁.heap && namesBound p s₁.heap && gensDone s₁ && laidKept (boot_heap w.params) s₁.heap with
        | true => some s₁
        | false => none
      | false => none) = _
    rw [z1, z2, z3, hs]
    show (match staticsOk (importedModules p.main.body) (boot_heap w.params) s.heap && namesBound p s.heap && gensDone s && laidKept (boot_heap w.params) s.heap with | true => some s | false => none) = _
    rw [r1]
  rw [t]
  exact congrArg some r
noncomputable def seeY (s : Shared) := (look (Kd (allOf s.heap) 185), (allOf s.heap).lookup 185, s.toks)
noncomputable def sawY (_ : World) := (good, some (tabObj #[]), 495)
noncomputable abbrev XtQ : Shared → Bool := fun s => xlAt viewQ [] s && recOk (RowW.records (OpenRow.toRowW PySem.Challenge.rw_sw0051_01.row)) s
noncomputable def RunP (os : OsState) (w : World) : Prop := (PySem.W.Fast.tw14082659384304107361 PySem.W.Fast.tw14364793385576792824 PySem.Challenge.pw_sw0051_01 w 11 (some (.ref 6)) 2796 (bootS w os) (topStub PySem.Challenge.pw_sw0051_01)).map (fun s =>
        (staticsOk (importedModules PySem.Challenge.pw_sw0051_01.main.body) (boot_heap w.params) s.heap && namesBound PySem.Challenge.pw_sw0051_01 s.heap && gensDone s && laidKept (boot_heap w.params) s.heap,
         PySem.W.Fast.tw4187177175401517315 viewQ looseL (importedModules PySem.Challenge.pw_sw0051_01.main.body) XtQ true s, seeY s)) = some (true, openGood viewQ looseL, sawY w)
theorem run_f (os : OsState) (w : World) : RunP os (w.withFollow "special-get-raises" false) := by unfold RunP; kernel_rfl
theorem run_t (os : OsState) (w : World) : RunP os (w.withFollow "special-get-raises" true) := by unfold RunP; kernel_rfl
theorem left_law : LeftO PySem.Challenge.pw_sw0051_01 viewQ looseL XtQ seeY sawY 2796 :=
  left_boot (m := 11) (ann := some (.ref 6)) (by kernel_rfl) (by kernel_rfl) (fun s => by kernel_rfl) (fun w => by kernel_rfl) (fun w os => byRow2 "special-get-raises" (P := RunP os) (run_f os) (run_t os) w)
theorem law_said : PySem.Challenge.rw_sw0051_01.wellSaid = true := (congrFun PySem.W.Fast.te9446332074065402090 _).trans (by kernel_rfl)
noncomputable def lawR : DefRec × List (Str × Expr) := (defOf viewQ (Str.ofString "law")).get (by kernel_rfl)
end Mine
open PySem PySem.W PyProof.Rows PySem.W.X PySem.Calls
set_option maxHeartbeats 0 in
theorem PySem.Challenge.cw_sw0051_01_holds : PySem.Challenge.rw_sw0051_01.Holds := by
  w_on
  refine holds_law Mine.law_said fun said => ?_
  refine holds_openX (q := Mine.viewQ) (loose := Mine.looseL) (Xt := Mine.XtQ) (XP := XL Mine.viewQ []) (Yf := Mine.seeY) (Ya := Mine.sawY) (d := Mine.lawR.1) (kwd := Mine.lawR.2) (N := 2796) Mine.left_law (fun s e => xl_of s (Bool.and_eq_true_iff.mp e).1) XL.keeps (by kernel_rfl) (by kernel_rfl) (by kernel_rfl) (fun s e => recFacts_of (Bool.and_eq_true_iff.mp e).2) (by kernel_rfl) (by first | assumption | decide +kernel) (by decide +kernel) ⟨rfl, rfl, rfl, rfl, rfl, by decide +kernel⟩ ?hw ?hc
  case hw => w_witness2
  intro w s₀ s₁ mg mb G y fa o pm cd doc dV kV ho hd hcd hD hmg hg args vals as L hpre hlay hrd hwl hlo
  clear ho hd hcd hD
  have ⟨y1, y'⟩ := Prod.mk.inj y
  have ⟨y2, y3⟩ := Prod.mk.inj y'
  have T1 := Mine.topOk_of y1
  have KX : (Mine.allOf s₀.heap).In s₁.heap := Frag.In.keeps (Mine.allOf_in _) L.keeps
  have hlt : 185 < s₀.heap.objs.size := Heap.lt_size (Mine.allOf_in _ _ _ y2)
  have hfa : (some (.ref fa) : Option Value) = some (.ref 224) := hmg.symm.trans (mg_of (fun a o e => KX _ _ (Mine.kd_in e).2) G.T.g T1.law)
  obtain rfl : fa = 224 := by cases hfa; rfl
  clear hfa hmg y y'
  refine Ground.open G ?_
  intro T B D TE TW
  wrow_args hpre hlay hrd hwl hlo
  obtain ⟨hat, hsz⟩ := script_at L
  have htk := script_toks L y3
  subst hat
  have hlist := script_obj L (by assumption)
  refine wpAny_call (codeAny_mono (Mine.law_top KX T1 y2 (Nat.le_trans (show 1 ≤ 495 by decide) htk) hlist (by assumption) (by omega) (by omega)) ?fin)
  case fin =>
    rintro r s' ⟨rfl, hO, hos, hgs⟩
    refine ⟨.inl ⟨_, _, [], rfl, fun _ => rfl, ReadsW.bool true, ?_, fun _ => ⟨List.nodup_nil, fun _ hm => (nomatch hm)⟩⟩, hO, hos, ?_⟩
    · wrow_post
    · rw [hgs, hg]; exact AllBare.empty
