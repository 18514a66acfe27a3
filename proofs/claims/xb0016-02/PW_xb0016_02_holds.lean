import PyProof.Rows.All
import Wide.All
import OpenK.AllK
import Wide.FinOn
import PySem.Challenge.RW_xb0016_02
open PySem PySem.W PyProof.Rows
set_option maxRecDepth 100000
set_option Elab.async false
set_option linter.unusedVariables false
set_option genSizeOf false
set_option genInjectivity false
-- A0
namespace Mine
theorem size_upd (h : Heap) (a : Addr) (f : Obj → Obj) : (h.update a f).objs.size = h.objs.size := by
  cases h; simp [Heap.update]
theorem size_push (h : Heap) (o : Obj) : (h.push o).objs.size = h.objs.size + 1 := Heap.size_push ..
theorem Runs_size_le {M : Model} {Γ : PySem.Ctx} {p : Pos} {t : Sem Fin} {fs : List Frame} {s s' : Shared} {e : End} (h : Runs M Γ p t fs s e s') : s.heap.objs.size ≤ s'.heap.objs.size := by
  induction h <;> (try simp only [Shared.setGen, size_upd, size_push] at *) <;> omega
theorem Wakes_size_le {M : Model} {Γ : PySem.Ctx} {p : Pos} {g : Nat} {r : Resume} {s s' : Shared} {res : GenResult} (h : Wakes M Γ p g r s res s') : s.heap.objs.size ≤ s'.heap.objs.size := by
  unfold Wakes at h
  split at h
  · exact h.elim
  · split at h
    · obtain ⟨e₁, s₁, hr, _, _, rfl⟩ := h; exact (Runs_size_le hr : (s.setGen g .running).heap.objs.size ≤ s₁.heap.objs.size)
    · rw [h.2]; exact Nat.le_refl _
    · rw [h.2]; exact Nat.le_refl _
  · obtain ⟨e₁, s₁, hr, _, _, rfl⟩ := h; exact (Runs_size_le hr : (s.setGen g .running).heap.objs.size ≤ s₁.heap.objs.size)
  · rw [h.2]; exact Nat.le_refl _
  · rw [h.2]; exact Nat.le_refl _
theorem wp_size {α : Type} (M : Model) (Γ : PySem.Ctx) (n : Nat) (t : Sem α) : ∀ (Q : α → Pos → Shared → Prop) (E : Value → Pos → Shared → Prop) (p : Pos) (s : Shared), n ≤ s.heap.objs.size → Sem.wp M Γ t Q E p s →
    Sem.wp M Γ t (fun a p' s' => n ≤ s'.heap.objs.size ∧ Q a p' s') (fun e p' s' => n ≤ s'.heap.objs.size ∧ E e p' s') p s := by
  induction t with
  | pure a => intro Q E p s hn h; exact ⟨hn, h⟩
  | raise e => intro Q E p s hn h; exact ⟨hn, h⟩
  | unsupported _ => intro Q E p s _ h; exact h
  | finish _ => intro Q E p s _ h; exact h
  | rule _ k ih => intro Q E p s hn h; exact ih () Q E p s hn h
  | «at» p' k ih => intro Q E p s hn h; exact ih () Q E p' s hn h
  | load a _ k ih => intro Q E p s hn h; obtain ⟨o, ho, h⟩ := h; exact ⟨o, ho, ih o Q E p s hn h⟩
  | update a _ f k ih => intro Q E p s hn h; exact ⟨h.1, ih () Q E p _ (by show n ≤ (s.heap.update a f).objs.size; rw [size_upd]; exact hn) h.2⟩
  | loadIfAlive a k ih => intro Q E p s hn h; exact ih _ Q E p s hn h
  | point _ k ih => intro Q E p s hn h; exact ih () Q E p s hn h
  | register _ _ => intro Q E p s _ h; exact h
  | alloc o k ih => intro Q E p s hn h; exact ih _ Q E p _ (by show n ≤ (s.heap.push o).objs.size; rw [size_push]; exact Nat.le_succ_of_le hn) h
  | fresh k ih => intro Q E p s hn h; exact ih _ Q E p _ hn h
  | ask k ih => intro Q E p s hn h; exact ih _ Q E p s hn h
  | choose src m k ih => intro Q E p s hn h; exact ⟨h.1, ih _ Q E p _ hn h.2⟩
  | os q _ k ih => intro Q E p s hn h; exact ih _ Q E p _ hn h
  | call c hd _ _ k ih => intro Q E p s hn h; obtain ⟨r, s', hr, h⟩ := h; exact ⟨r, s', hr, ih r Q E p s' (Nat.le_trans hn (Runs_size_le hr)) h⟩
  | handled own k ih => intro Q E p s hn h; exact ih _ Q E p s hn h
  | genState g k ih => intro Q E p s hn h; obtain ⟨st, hs, h⟩ := h; exact ⟨st, hs, ih _ Q E p s hn h⟩
  | newGen c k ih => intro Q E p s hn h; exact ih _ Q E p _ hn h
  | resume g r _ k ih => intro Q E p s hn h; obtain ⟨res, s', hw, h⟩ := h; exact ⟨res, s', hw, ih res Q E p s' (Nat.le_trans hn (Wakes_size_le hw)) h⟩
  | yield _ _ _ _ => intro Q E p s _ h; exact h
  | stack k ih => intro Q E p s hn h; exact ih _ Q E p s hn h
  | fork _ _ => intro Q E p s _ h; exact h
  | thread k ih => intro Q E p s hn h; exact ih _ Q E p s hn h
  | await _ _ _ _ _ => intro Q E p s _ h; exact h
theorem wpAny_size {α : Type} {M : Model} {A : Around} {s : Shared} {t : Sem α} {Q : α → Shared → Prop} {E : Value → Shared → Prop} (h : wpAny M A t (fun a s' => s.heap.objs.size ≤ s'.heap.objs.size → Q a s') E s) : wpAny M A t Q E s :=
  fun Γ p hΓ => Sem.wp_mono M Γ t (fun _ _ _ q => q.2 q.1) (fun _ _ _ q => q.2) p s (wp_size M Γ _ t _ _ p s (Nat.le_refl _) (h Γ p hΓ))
end Mine
-- B1
namespace Mine
noncomputable abbrev Fz := Addr → Option Obj

inductive T where
  | none | bool (b : Bool) | int (i : Int) | str (x : Str) | bytes (b : Array UInt8)
  | list (ts : List T) | tup (ts : List T) | dict (kvs : List (Str × T)) | val (v : Value)
  | inst (C : Addr) (nm : Str) (t : T)

structure Wd where
  prog : Program
  w : World
  G : Fz
  mg : Str → Option Value
  mb : Str → Option Value
  gp : Array GenState → Prop
  os : OsState
  bt : ∀ x : Str, x ≠ "__name__" → mb x = bootBuiltins x
  gd : ∀ h : Heap, (∀ a o, G a = some o → h.get? a = some o) → h.Ns mainGlobals mg ∧ h.Ns builtinsNs mb ∧ h.NoLimit

noncomputable abbrev Wd.M (W : Wd) : Model := model W.prog W.w
noncomputable abbrev Wd.knd (W : Wd) : PySem.KeyKind W.prog W.w Str := PySem.strKind W.prog W.w
theorem Wd.is_str (W : Wd) (k : Str) (u : Tok) : W.knd.is k (.str k u) = true := by
  show Value.isStrOf k (.str k u) = true
  simp [Value.isStrOf]

noncomputable def DictO {prog : Program} {w : World} (knd : PySem.KeyKind prog w Str) (o : Obj) (vs : List (Str × Value)) (ep : Nat) : Prop :=
  ∃ es, o.ExactDict ∧ o.data = .dict es ep ∧ PySem.KeysOf knd es ∧ PySem.Pairs knd es.toList vs ∧ (vs.map (·.1)).Nodup

mutual
noncomputable def Rp (W : Wd) (F : Fz) : T → Value → Prop
  | .none, v => v = .none
  | .bool b, v => v = .bool b
  | .int i, v => ∃ t, v = .int i t
  | .str x, v => ∃ t, v = .str x t
  | .bytes b, v => ∃ t, v = .bytes b t
  | .list ts, v => ∃ a o vs n, v = .ref a ∧ F a = some o ∧ o = { cls := .type "list", data := .seq vs n } ∧ o.data = .seq vs n ∧ Rps W F ts vs.toList
  | .tup ts, v => ∃ a o vs n, v = .ref a ∧ F a = some o ∧ o.cls = .type "tuple" ∧ o.data = .seq vs n ∧ Rps W F ts vs.toList
  | .dict kvs, v => ∃ a o vs ep, v = .ref a ∧ F a = some o ∧ DictO W.knd o vs ep ∧ (a == sysModules) = false ∧ RpKv W F kvs vs
  | .val u, v => v = u
  | .inst C nm t, v => ∃ x dx sl es n u, v = .ref x ∧ F x = some ⟨.ref C, some dx, .plain, sl⟩ ∧ F dx = some (PySem.W.dictOf es n) ∧ PySem.W.getL nm es = some (some u) ∧ (∀ name, name ≠ nm → PySem.W.getL name es = some none) ∧ Rp W F t u
noncomputable def Rps (W : Wd) (F : Fz) : List T → List Value → Prop
  | [], vs => vs = []
  | t :: ts, vs => ∃ v r, vs = v :: r ∧ Rp W F t v ∧ Rps W F ts r
noncomputable def RpKv (W : Wd) (F : Fz) : List (Str × T) → List (Str × Value) → Prop
  | [], vs => vs = []
  | kt :: ts, vs => ∃ v r, vs = (kt.1, v) :: r ∧ Rp W F kt.2 v ∧ RpKv W F ts r
end

mutual
theorem Rp.mono {W : Wd} {F F' : Fz} (h : ∀ a o, F a = some o → F' a = some o) : ∀ (t : T) (v : Value), Rp W F t v → Rp W F' t v
  | .none => fun _ e => e
  | .bool _ => fun _ e => e
  | .int _ => fun _ e => e
  | .str _ => fun _ e => e
  | .bytes _ => fun _ e => e
  | .val _ => fun _ e => e
  | .inst C nm t => fun _ ⟨x, dx, sl, es, n, u, e1, e2, e3, e4, e5, r⟩ => ⟨x, dx, sl, es, n, u, e1, h _ _ e2, h _ _ e3, e4, e5, Rp.mono h t u r⟩
  | .list ts => fun _ ⟨a, o, vs, n, e1, e2, e3, e4, r⟩ => ⟨a, o, vs, n, e1, h a o e2, e3, e4, Rps.mono h ts _ r⟩
  | .tup ts => fun _ ⟨a, o, vs, n, e1, e2, e3, e4, r⟩ => ⟨a, o, vs, n, e1, h a o e2, e3, e4, Rps.mono h ts _ r⟩
  | .dict kvs => fun _ ⟨a, o, vs, n, e1, e2, e3, e4, r⟩ => ⟨a, o, vs, n, e1, h a o e2, e3, e4, RpKv.mono h kvs _ r⟩
theorem Rps.mono {W : Wd} {F F' : Fz} (h : ∀ a o, F a = some o → F' a = some o) : ∀ (ts : List T) (vs : List Value), Rps W F ts vs → Rps W F' ts vs
  | [] => fun _ e => e
  | t :: ts => fun _ ⟨v, r, e, h1, h2⟩ => ⟨v, r, e, Rp.mono h t v h1, Rps.mono h ts r h2⟩
theorem RpKv.mono {W : Wd} {F F' : Fz} (h : ∀ a o, F a = some o → F' a = some o) : ∀ (ts : List (Str × T)) (vs : List (Str × Value)), RpKv W F ts vs → RpKv W F' ts vs
  | [] => fun _ e => e
  | kt :: ts => fun _ ⟨v, r, e, h1, h2⟩ => ⟨v, r, e, Rp.mono h kt.2 v h1, RpKv.mono h ts r h2⟩
end

theorem Rps.length {W : Wd} {F : Fz} : ∀ {ts : List T} {vs : List Value}, Rps W F ts vs → vs.length = ts.length
  | [], _, e => by rw [show _ = [] from e]; rfl
  | _ :: _, _, ⟨_, _, e, _, h⟩ => by rw [e, List.length_cons, List.length_cons, Rps.length h]
theorem Rps.get {W : Wd} {F : Fz} : ∀ {ts : List T} {vs : List Value} (_ : Rps W F ts vs) {i : Nat} {t : T}, ts[i]? = some t → ∃ v, vs[i]? = some v ∧ Rp W F t v
  | [], _, _, i, _, h => by simp at h
  | _ :: _, _, ⟨v, _, e, h1, _⟩, 0, _, h => by cases h; rw [e]; exact ⟨v, rfl, h1⟩
  | _ :: _, _, ⟨_, _, e, _, h2⟩, i + 1, _, h => by rw [e]; exact Rps.get h2 (i := i) (by simpa using h)
theorem Rps.append {W : Wd} {F : Fz} : ∀ {ts us : List T} {vs ws : List Value}, Rps W F ts vs → Rps W F us ws → Rps W F (ts ++ us) (vs ++ ws)
  | [], _, _, _, e, h => by rw [show _ = [] from e]; exact h
  | _ :: _, _, _, _, ⟨v, r, e, h1, h2⟩, h => by rw [e]; exact ⟨v, _, rfl, h1, Rps.append h2 h⟩
theorem Rps.of_get {W : Wd} {F : Fz} : ∀ {ts : List T} {vs : List Value}, vs.length = ts.length → (∀ (i : Nat) (t : T) (v : Value), ts[i]? = some t → vs[i]? = some v → Rp W F t v) → Rps W F ts vs
  | [], vs, hl, _ => List.length_eq_zero_iff.mp hl
  | t :: ts, [], hl, _ => by simp at hl
  | t :: ts, v :: vs, hl, h => ⟨v, vs, rfl, h 0 t v rfl rfl, Rps.of_get (by simpa using hl) fun i t' v' a b => h (i + 1) t' v' (by simpa using a) (by simpa using b)⟩
theorem RpKv.length {W : Wd} {F : Fz} : ∀ {ts : List (Str × T)} {vs : List (Str × Value)}, RpKv W F ts vs → vs.length = ts.length
  | [], _, e => by rw [show _ = [] from e]; rfl
  | _ :: _, _, ⟨_, _, e, _, h⟩ => by rw [e, List.length_cons, List.length_cons, RpKv.length h]
theorem RpKv.keys {W : Wd} {F : Fz} : ∀ {ts : List (Str × T)} {vs : List (Str × Value)}, RpKv W F ts vs → vs.map (·.1) = ts.map (·.1)
  | [], _, e => by rw [show _ = [] from e]; rfl
  | _ :: _, _, ⟨_, _, e, _, h⟩ => by rw [e, List.map_cons, List.map_cons, RpKv.keys h]
theorem RpKv.get {W : Wd} {F : Fz} : ∀ {ts : List (Str × T)} {vs : List (Str × Value)} (_ : RpKv W F ts vs) {i : Nat} {k : Str} {t : T}, ts[i]? = some (k, t) → ∃ v, vs[i]? = some (k, v) ∧ Rp W F t v
  | [], _, _, i, _, _, h => by simp at h
  | _ :: _, _, ⟨v, _, e, h1, _⟩, 0, _, _, h => by cases h; rw [e]; exact ⟨v, rfl, h1⟩
  | _ :: _, _, ⟨_, _, e, _, h2⟩, i + 1, _, _, h => by rw [e]; exact RpKv.get h2 (i := i) (by simpa using h)

inductive X where
  | any
  | tr (t : T)
  | mt (k : Nat)
inductive MO where
  | dead
  | list (ts : List T)
  | dict (kvs : List (Str × T))
  | cell (x : X)
  | ns (m : List (Str × X))
  | bit (b : List UInt8) (i : Nat)
noncomputable def MO.live : MO → Bool
  | .dead => false
  | _ => true

structure Vw where
  F : Fz
  ad : Nat → Addr

noncomputable def XRp (W : Wd) (V : Vw) : X → Value → Prop
  | .any, _ => True
  | .tr t, v => Rp W V.F t v
  | .mt k, v => v = .ref (V.ad k)
noncomputable def ORp (W : Wd) (V : Vw) : X → Option Value → Prop
  | .any, _ => True
  | x, o => ∃ v, o = some v ∧ XRp W V x v
noncomputable def MRp (W : Wd) (V : Vw) (h : Heap) (a : Addr) : MO → Prop
  | .dead => True
  | .list ts => ∃ vs n, h.get? a = some { cls := .type "list", data := .seq vs n } ∧ Rps W V.F ts vs.toList
  | .dict kvs => ∃ o vs ep, h.get? a = some o ∧ DictO W.knd o vs ep ∧ (a == sysModules) = false ∧ RpKv W V.F kvs vs
  | .cell x => ∃ v, h.IsCell a v ∧ ORp W V x v
  | .ns m => ∃ f, h.Ns a f ∧ (m.map (·.1)).Nodup ∧ ∀ p ∈ m, ORp W V p.2 (f p.1)
  | .bit b i => ∃ t o, h.get? a = some o ∧ o.cls = .type "bytes_iterator" ∧ o.data = .fields #[.bytes b.toArray t, .int i 0]

noncomputable def X.fits (n : Nat) : X → Prop
  | .mt k => k < n
  | _ => True
noncomputable def MO.fits (n : Nat) : MO → Prop
  | .cell x => x.fits n
  | .ns m => ∀ p ∈ m, p.2.fits n
  | _ => True

structure St0 (W : Wd) (V : Vw) (σ : List MO) (s : Shared) : Prop where
  keep : ∀ a o, V.F a = some o → s.heap.get? a = some o
  base : ∀ a o, W.G a = some o → V.F a = some o
  led : ∀ (k : Nat) (mo : MO), σ[k]? = some mo → MRp W V s.heap (V.ad k) mo
  inj : ∀ i j, i < σ.length → j < σ.length → V.ad i = V.ad j → i = j
  out : ∀ (k : Nat) (mo : MO), σ[k]? = some mo → mo.live = true → V.F (V.ad k) = none
  bnd : ∀ k, k < σ.length → V.ad k < s.heap.objs.size
  fit : ∀ (k : Nat) (mo : MO), σ[k]? = some mo → mo.fits σ.length
  gen : W.gp s.gens
  os : s.os = W.os

structure ExtB (B : Nat) (σ : List MO) (V : Vw) (s : Shared) (σ' : List MO) (V' : Vw) (s' : Shared) : Prop where
  F : ∀ a o, V.F a = some o → V'.F a = some o
  new : ∀ a o, V'.F a = some o → V.F a = some o ∨ s.heap.objs.size ≤ a ∨ ∃ k, k < σ.length ∧ a = V.ad k
  ad : ∀ k, k < σ.length → V'.ad k = V.ad k
  keptB : ∀ a o, a < B → (∀ k, k < σ.length → a ≠ V.ad k) → s.heap.get? a = some o → s'.heap.get? a = some o
  fresh : ∀ k, σ.length ≤ k → k < σ'.length → s.heap.objs.size ≤ V'.ad k
  len : s.heap.objs.size ≤ s'.heap.objs.size
  le : σ.length ≤ σ'.length
noncomputable abbrev Ext (σ : List MO) (V : Vw) (s : Shared) (σ' : List MO) (V' : Vw) (s' : Shared) : Prop := ExtB s.heap.objs.size σ V s σ' V' s'

theorem Ext.kept {σ σ' : List MO} {V V' : Vw} {s s' : Shared} (E : Ext σ V s σ' V' s') : ∀ a o, (∀ k, k < σ.length → a ≠ V.ad k) → s.heap.get? a = some o → s'.heap.get? a = some o :=
  fun a o h e => E.keptB a o (Heap.lt_size e) h e
theorem Ext.mk' {σ σ' : List MO} {V V' : Vw} {s s' : Shared} (F : ∀ a o, V.F a = some o → V'.F a = some o) (new : ∀ a o, V'.F a = some o → V.F a = some o ∨ s.heap.objs.size ≤ a ∨ ∃ k, k < σ.length ∧ a = V.ad k)
    (ad : ∀ k, k < σ.length → V'.ad k = V.ad k) (kept : ∀ a o, (∀ k, k < σ.length → a ≠ V.ad k) → s.heap.get? a = some o → s'.heap.get? a = some o) (fresh : ∀ k, σ.length ≤ k → k < σ'.length → s.heap.objs.size ≤ V'.ad k)
    (len : s.heap.objs.size ≤ s'.heap.objs.size) (le : σ.length ≤ σ'.length) : Ext σ V s σ' V' s' := ⟨F, new, ad, fun a o _ h e => kept a o h e, fresh, len, le⟩
theorem Ext.refl (σ : List MO) (V : Vw) (s : Shared) : Ext σ V s σ V s :=
  ⟨fun _ _ e => e, fun _ _ e => .inl e, fun _ _ => rfl, fun _ _ _ _ e => e, fun _ h h' => absurd h' (Nat.not_lt.mpr h), Nat.le_refl _, Nat.le_refl _⟩
theorem ExtB.trans {B B' : Nat} {σ σ' σ'' : List MO} {V V' V'' : Vw} {s s' s'' : Shared} (a : ExtB B σ V s σ' V' s') (b : ExtB B' σ' V' s' σ'' V'' s'') (hB : B ≤ B') : ExtB B σ V s σ'' V'' s'' where
  F := fun x o e => b.F x o (a.F x o e)
  new := fun x o e => by
    rcases b.new x o e with h | h | ⟨k, hk, rfl⟩
    · exact a.new x o h
    · exact .inr (.inl (Nat.le_trans a.len h))
    · by_cases h : k < σ.length
      · exact .inr (.inr ⟨k, h, a.ad k h⟩)
      · exact .inr (.inl (a.fresh k (Nat.not_lt.mp h) hk))
  ad := fun k hk => (b.ad k (Nat.lt_of_lt_of_le hk a.le)).trans (a.ad k hk)
  keptB := fun x o hx h e => b.keptB x o (Nat.lt_of_lt_of_le hx hB) (fun k hk q => by
    by_cases hk' : k < σ.length
    · exact h k hk' (q.trans (a.ad k hk'))
    · have h2 := Heap.lt_size e
      rw [q] at h2
      exact absurd h2 (Nat.not_lt.mpr (a.fresh k (Nat.not_lt.mp hk') hk))) (a.keptB x o hx h e)
  fresh := fun k h1 h2 => by
    by_cases h : k < σ'.length
    · rw [b.ad k h]; exact a.fresh k h1 h
    · exact Nat.le_trans a.len (b.fresh k (Nat.not_lt.mp h) h2)
  len := Nat.le_trans a.len b.len
  le := Nat.le_trans a.le b.le
theorem Ext.trans {σ σ' σ'' : List MO} {V V' V'' : Vw} {s s' s'' : Shared} (a : Ext σ V s σ' V' s') (b : Ext σ' V' s' σ'' V'' s'') : Ext σ V s σ'' V'' s'' := ExtB.trans a b a.len
theorem ExtB.take {B : Nat} {σ σ₁ τ : List MO} {V V' : Vw} {s s' : Shared} (a : ExtB B σ V s (σ₁ ++ τ) V' s') (h : σ.length ≤ σ₁.length) : ExtB B σ V s σ₁ V' s' :=
  ⟨a.F, a.new, a.ad, a.keptB, fun k h1 h2 => a.fresh k h1 (by rw [List.length_append]; omega), a.len, h⟩
theorem ExtB.cut {B : Nat} {σ σ₁ σ₂ : List MO} {V V' : Vw} {s s' : Shared} (a : ExtB B σ V s σ₁ V' s') (h : σ₂.length ≤ σ₁.length) (h' : σ.length ≤ σ₂.length) : ExtB B σ V s σ₂ V' s' :=
  ⟨a.F, a.new, a.ad, a.keptB, fun k h1 h2 => a.fresh k h1 (Nat.lt_of_lt_of_le h2 h), a.len, h'⟩

theorem XRp.mono {W : Wd} {V V' : Vw} (h : ∀ a o, V.F a = some o → V'.F a = some o) {x : X} {v : Value} (hx : ∀ k, x = .mt k → V'.ad k = V.ad k) (r : XRp W V x v) : XRp W V' x v := by
  cases x with
  | any => trivial
  | tr t => exact Rp.mono h t v r
  | mt k => exact r.trans (by rw [hx k rfl])
theorem X.fits.mono {n m : Nat} {x : X} (h : x.fits n) (hm : n ≤ m) : x.fits m := by
  cases x <;> first | trivial | exact Nat.lt_of_lt_of_le h hm
theorem XRp.ext {W : Wd} {V V' : Vw} {σ σ' : List MO} {s s' : Shared} {x : X} {v : Value} (r : XRp W V x v) (a : Ext σ V s σ' V' s') (hf : x.fits σ.length) : XRp W V' x v :=
  r.mono a.F fun k e => a.ad k (by subst e; exact hf)
theorem ORp.ext {W : Wd} {V V' : Vw} {x : X} {o : Option Value} (h : ∀ a o, V.F a = some o → V'.F a = some o) (hx : ∀ k, x = .mt k → V'.ad k = V.ad k) (r : ORp W V x o) : ORp W V' x o := by
  cases x with
  | any => trivial
  | tr t => obtain ⟨v, e, q⟩ := r; exact ⟨v, e, q.mono h hx⟩
  | mt k => obtain ⟨v, e, q⟩ := r; exact ⟨v, e, q.mono h hx⟩
theorem ORp_of {W : Wd} {V : Vw} {x : X} {v : Value} (r : XRp W V x v) : ORp W V x (some v) := by
  cases x with
  | any => trivial
  | tr t => exact ⟨v, rfl, r⟩
  | mt k => exact ⟨v, rfl, r⟩
theorem MRp.mono {W : Wd} {V V' : Vw} {h h' : Heap} {a : Addr} {mo : MO} {n : Nat} (r : MRp W V h a mo) (hh : ∀ o, h.get? a = some o → h'.get? a = some o) (hF : ∀ a o, V.F a = some o → V'.F a = some o)
    (hn : mo.fits n) (had : ∀ k, k < n → V'.ad k = V.ad k) : MRp W V' h' a mo := by
  cases mo with
  | dead => trivial
  | list ts => obtain ⟨vs, n, e, q⟩ := r; exact ⟨vs, n, hh _ e, Rps.mono hF _ _ q⟩
  | dict kvs => obtain ⟨o, vs, ep, e, d, e4, q⟩ := r; exact ⟨o, vs, ep, hh _ e, d, e4, RpKv.mono hF _ _ q⟩
  | cell x => obtain ⟨v, ⟨o, e, d⟩, q⟩ := r; exact ⟨v, ⟨o, hh _ e, d⟩, q.ext hF fun k e => had k (by subst e; exact hn)⟩
  | ns m => obtain ⟨f, e, nd, q⟩ := r; exact ⟨f, e.at' fun o => hh o, nd, fun p hp => (q p hp).ext hF fun k e => had k (by have := hn p hp; rw [e] at this; exact this)⟩
  | bit b i => obtain ⟨t, o, e, r⟩ := r; exact ⟨t, o, hh _ e, r⟩



section
variable {W : Wd} {V : Vw} {σ : List MO} {s : Shared}

theorem St0.old {a : Addr} {o : Obj} (S : St0 W V σ s) (h : V.F a = some o) : a < s.heap.objs.size := Heap.lt_size (S.keep a o h)
theorem St0.none {a : Addr} (S : St0 W V σ s) (h : s.heap.objs.size ≤ a) : V.F a = none := by
  cases e : V.F a with
  | none => rfl
  | some o => exact absurd (S.old e) (Nat.not_lt.mpr h)

theorem St0.grow (S : St0 W V σ s) {s' : Shared} (hk : ∀ a o, s.heap.get? a = some o → s'.heap.get? a = some o) (hl : s.heap.objs.size ≤ s'.heap.objs.size) (hg : s'.gens = s.gens) (ho : s'.os = s.os) :
    St0 W V σ s' ∧ Ext σ V s σ V s' :=
  ⟨⟨fun a o e => hk a o (S.keep a o e), S.base, fun k mo e => (S.led k mo e).mono (fun o => hk _ o) (fun _ _ e => e) (S.fit k mo e) fun _ _ => rfl, S.inj, S.out, fun k h => Nat.lt_of_lt_of_le (S.bnd k h) hl, S.fit, hg ▸ S.gen, ho ▸ S.os⟩,
   Ext.mk' (fun _ _ e => e) (fun _ _ e => .inl e) (fun _ _ => rfl) (fun a o _ e => hk a o e) ( fun _ h h' => absurd h' (Nat.not_lt.mpr h)) hl (Nat.le_refl _)⟩
theorem St0.toks (S : St0 W V σ s) (tk : Nat) : St0 W V σ { s with toks := tk } ∧ Ext σ V s σ V { s with toks := tk } := S.grow (fun _ _ e => e) (Nat.le_refl _) rfl rfl

noncomputable def Vw.all (V : Vw) (n : Nat) (h' : Heap) : Vw := ⟨fun a => if a < n then V.F a else h'.get? a, V.ad⟩
theorem Vw.all_sub (S : St0 W V σ s) (h' : Heap) : ∀ a o, V.F a = some o → (V.all s.heap.objs.size h').F a = some o := fun a o e => by
  show (if a < s.heap.objs.size then V.F a else _) = _
  rw [if_pos (S.old e)]; exact e
theorem Vw.all_new {n a : Nat} {h' : Heap} {o : Obj} (h : n ≤ a) (e : h'.get? a = some o) : (V.all n h').F a = some o := by
  show (if a < n then V.F a else _) = _
  rw [if_neg (Nat.not_lt.mpr h)]; exact e
theorem St0.all (S : St0 W V σ s) {s' : Shared} (hk : ∀ a o, s.heap.get? a = some o → s'.heap.get? a = some o) (hl : s.heap.objs.size ≤ s'.heap.objs.size) (hg : s'.gens = s.gens) (ho : s'.os = s.os) :
    St0 W (V.all s.heap.objs.size s'.heap) σ s' ∧ Ext σ V s σ (V.all s.heap.objs.size s'.heap) s' := by
  have sub := Vw.all_sub S s'.heap
  refine ⟨⟨fun a o e => ?_, fun a o e => sub a o (S.base a o e), fun k mo e => (S.led k mo e).mono (fun o => hk _ o) sub (S.fit k mo e) fun _ _ => rfl, S.inj, fun k mo e hv => ?_, fun k h => Nat.lt_of_lt_of_le (S.bnd k h) hl, S.fit, hg ▸ S.gen, ho ▸ S.os⟩,
   Ext.mk' sub (fun a o e => ?_) (fun _ _ => rfl) (fun a o _ e => hk a o e) (fun _ h h' => absurd h' (Nat.not_lt.mpr h)) hl (Nat.le_refl _)⟩
  · by_cases h : a < s.heap.objs.size
    · exact hk a o (S.keep a o (by rw [← e]; show _ = if a < _ then _ else _; rw [if_pos h]))
    · rw [← e]; show _ = if a < _ then _ else _; rw [if_neg h]
  · show (if V.ad k < _ then V.F (V.ad k) else _) = _
    have hlt : k < σ.length := (List.getElem?_eq_some_iff.mp e).1
    rw [if_pos (S.bnd k hlt)]; exact S.out k mo e hv
  · by_cases h : a < s.heap.objs.size
    · exact .inl (by rw [← e]; show _ = if a < _ then _ else _; rw [if_pos h])
    · exact .inr (.inl (Nat.not_lt.mp h))

theorem St0.upd (S : St0 W V σ s) {k : Nat} {mo mo' : MO} (hk : σ[k]? = some mo) (hv : mo.live = true) {s' : Shared}
    (hh : ∀ a o, a ≠ V.ad k → s.heap.get? a = some o → s'.heap.get? a = some o) (hl : s.heap.objs.size ≤ s'.heap.objs.size) (hm : MRp W V s'.heap (V.ad k) mo') (hf : mo'.fits σ.length) (hg : s'.gens = s.gens) (ho : s'.os = s.os) :
    St0 W V (σ.set k mo') s' ∧ Ext σ V s (σ.set k mo') V s' := by
  have hlt : k < σ.length := (List.getElem?_eq_some_iff.mp hk).1
  refine ⟨⟨fun a o e => hh a o (fun q => ?_) (S.keep a o e), S.base, fun j mo e => ?_, ?_, fun j mo e hv' => ?_, fun j h => ?_, fun j mo e => ?_, hg ▸ S.gen, ho ▸ S.os⟩,
    Ext.mk' (fun _ _ e => e) (fun _ _ e => .inl e) (fun _ _ => rfl) (fun a o h e => hh a o (h k hlt) e) (fun _ h h' => absurd h' (Nat.not_lt.mpr (by rw [List.length_set]; exact h))) hl (by rw [List.length_set]; exact Nat.le_refl _)⟩
  · rw [q, S.out k _ hk hv] at e; cases e
  · by_cases hj : k = j
    · subst hj
      rw [List.getElem?_set_self hlt] at e
      cases e; exact hm
    · rw [List.getElem?_set_ne hj] at e
      have hjl : j < σ.length := (List.getElem?_eq_some_iff.mp e).1
      exact (S.led j mo e).mono (fun o => hh _ o fun q => hj (S.inj k j hlt hjl q.symm)) (fun _ _ e => e) (S.fit j mo e) fun _ _ => rfl
  · intro i j h1 h2 e
    rw [List.length_set] at h1 h2
    exact S.inj i j h1 h2 e
  · by_cases hj : k = j
    · subst hj; exact S.out k _ hk hv
    · rw [List.getElem?_set_ne hj] at e; exact S.out j mo e hv'
  · rw [List.length_set] at h; exact Nat.lt_of_lt_of_le (S.bnd j h) hl
  · rw [List.length_set]
    by_cases hj : k = j
    · subst hj; rw [List.getElem?_set_self hlt] at e; cases e; exact hf
    · rw [List.getElem?_set_ne hj] at e; exact S.fit j mo e

noncomputable def Vw.put (V : Vw) (k : Nat) (a : Addr) : Vw := ⟨V.F, fun j => if j = k then a else V.ad j⟩
theorem MO.fits.mono {mo : MO} {n m : Nat} (h : mo.fits n) (hm : n ≤ m) : mo.fits m := by
  cases mo <;> first | trivial | exact X.fits.mono h hm | exact fun p hp => X.fits.mono (h p hp) hm
theorem St0.new (S : St0 W V σ s) {mo : MO} {s' : Shared} {a : Addr} (ha : s.heap.objs.size ≤ a) (hal : a < s'.heap.objs.size)
    (hh : ∀ a o, s.heap.get? a = some o → s'.heap.get? a = some o) (hm : MRp W V s'.heap a mo) (hf : mo.fits σ.length) (hg : s'.gens = s.gens) (ho : s'.os = s.os) :
    St0 W (V.put σ.length a) (σ ++ [mo]) s' ∧ Ext σ V s (σ ++ [mo]) (V.put σ.length a) s' := by
  have hl : s.heap.objs.size ≤ s'.heap.objs.size := Nat.le_of_lt (Nat.lt_of_le_of_lt ha hal)
  have ad : ∀ k, k < σ.length → (V.put σ.length a).ad k = V.ad k := fun k h => if_neg (Nat.ne_of_lt h)
  have adn : (V.put σ.length a).ad σ.length = a := if_pos rfl
  have get : ∀ (k : Nat) (m : MO), (σ ++ [mo])[k]? = some m → (k < σ.length ∧ σ[k]? = some m) ∨ (k = σ.length ∧ m = mo) := fun k m e => by
    by_cases h : k < σ.length
    · rw [List.getElem?_append_left h] at e; exact .inl ⟨h, e⟩
    · rw [List.getElem?_append_right (Nat.not_lt.mp h)] at e
      have : k - σ.length = 0 := by
        cases q : k - σ.length with
        | zero => rfl
        | succ n => rw [q] at e; simp at e
      rw [this] at e
      exact .inr ⟨by omega, by simpa using e.symm⟩
  refine ⟨⟨fun x o e => hh x o (S.keep x o e), S.base, fun k m e => ?_, fun i j hi hj e => ?_, fun k m e hv => ?_, fun k h => ?_, fun k m e => ?_, hg ▸ S.gen, ho ▸ S.os⟩,
    Ext.mk' (fun _ _ e => e) (fun _ _ e => .inl e) ad (fun x o _ e => hh x o e) (fun k h h' => ?_) hl (by rw [List.length_append]; omega)⟩
  · rcases get k m e with ⟨h, e'⟩ | ⟨rfl, rfl⟩
    · rw [ad k h]; exact (S.led k m e').mono (fun o => hh _ o) (fun _ _ e => e) (S.fit k m e') ad
    · rw [adn]; exact hm.mono (fun _ e => e) (fun _ _ e => e) hf ad
  · rw [List.length_append, List.length_singleton] at hi hj
    by_cases h1 : i < σ.length <;> by_cases h2 : j < σ.length
    · rw [ad i h1, ad j h2] at e; exact S.inj i j h1 h2 e
    · have : j = σ.length := by omega
      subst this; rw [ad i h1, adn] at e
      have h3 := S.bnd i h1; rw [e] at h3; exact absurd h3 (Nat.not_lt.mpr ha)
    · have : i = σ.length := by omega
      subst this; rw [ad j h2, adn] at e
      have h3 := S.bnd j h2; rw [← e] at h3; exact absurd h3 (Nat.not_lt.mpr ha)
    · omega
  · rcases get k m e with ⟨h, e'⟩ | ⟨rfl, rfl⟩
    · rw [ad k h]; exact S.out k m e' hv
    · rw [adn]; exact S.none ha
  · rw [List.length_append, List.length_singleton] at h
    by_cases h1 : k < σ.length
    · rw [ad k h1]; exact Nat.lt_of_lt_of_le (S.bnd k h1) hl
    · have : k = σ.length := by omega
      subst this; rw [adn]; exact hal
  · rw [List.length_append, List.length_singleton]
    rcases get k m e with ⟨h, e'⟩ | ⟨rfl, rfl⟩
    · exact (S.fit k m e').mono (Nat.le_succ _)
    · exact hf.mono (Nat.le_succ _)
  · rw [List.length_append, List.length_singleton] at h'
    have : k = σ.length := by omega
    subst this; rw [adn]; exact ha
theorem St0.take {τ : List MO} (S : St0 W V (σ ++ τ) s) (hf : ∀ (k : Nat) (mo : MO), σ[k]? = some mo → mo.fits σ.length) : St0 W V σ s where
  keep := S.keep
  base := S.base
  led := fun k mo e => S.led k mo (by rw [List.getElem?_append_left (List.getElem?_eq_some_iff.mp e).1]; exact e)
  inj := fun i j h1 h2 e => S.inj i j (by rw [List.length_append]; omega) (by rw [List.length_append]; omega) e
  out := fun k mo e => S.out k mo (by rw [List.getElem?_append_left (List.getElem?_eq_some_iff.mp e).1]; exact e)
  bnd := fun k h => S.bnd k (by rw [List.length_append]; omega)
  fit := hf
  gen := S.gen
  os := S.os
end
end Mine
-- B2
namespace Mine
noncomputable def NoE : Value → Shared → Prop := fun _ _ => False
noncomputable abbrev Pt (W : Wd) {α : Type} (σ : List MO) (V : Vw) (s : Shared) (σ' : List MO) (Q : Vw → α → Prop) : α → Shared → Prop := fun a s' => ∃ V', Ext σ V s σ' V' s' ∧ St0 W V' σ' s' ∧ Q V' a

section
variable {W : Wd} {A : Around} {α β : Type} {σ σ₁ σ₂ : List MO} {V V₁ : Vw} {s s₁ : Shared}
theorem Pt.up {Q : Vw → α → Prop} {a : α} {s' : Shared} (E : Ext σ V s σ₁ V₁ s₁) (h : Pt W σ₁ V₁ s₁ σ₂ Q a s') : Pt W σ V s σ₂ Q a s' := let ⟨V', E', S', q⟩ := h; ⟨V', E.trans E', S', q⟩
theorem Pt.imp {Q Q' : Vw → α → Prop} {a : α} {s' : Shared} (h : Pt W σ V s σ₂ Q a s') (hq : ∀ V, Q V a → Q' V a) : Pt W σ V s σ₂ Q' a s' := let ⟨V', E', S', q⟩ := h; ⟨V', E', S', hq _ q⟩
theorem seq {m : Sem α} {Q : Vw → α → Prop} {g : α → Shared → Prop} (h : wpAny W.M A m (Pt W σ V s σ₁ Q) NoE s)
    (k : ∀ V₁ s₁ a, Ext σ V s σ₁ V₁ s₁ → St0 W V₁ σ₁ s₁ → Q V₁ a → g a s₁) : wpAny W.M A m g NoE s :=
  wpAny_mono h (fun a s₁ ⟨V₁, E, S, q⟩ => k V₁ s₁ a E S q) fun _ _ e => e
theorem later {m : Sem α} {Q : Vw → α → Prop} (E : Ext σ V s σ₁ V₁ s₁) (h : wpAny W.M A m (Pt W σ₁ V₁ s₁ σ₂ Q) NoE s₁) : wpAny W.M A m (Pt W σ V s σ₂ Q) NoE s₁ :=
  wpAny_mono h (fun _ _ p => Pt.up E p) fun _ _ e => e
theorem Pt.here {Q : Vw → α → Prop} {a : α} (S : St0 W V σ s) (q : Q V a) : Pt W σ V s σ Q a s := ⟨V, .refl .., S, q⟩
theorem Pt.tok {Q : Vw → α → Prop} {a : α} (S : St0 W V σ s) (tk : Nat) (q : Q V a) : Pt W σ V s σ Q a { s with toks := tk } := ⟨V, (S.toks tk).2, (S.toks tk).1, q⟩
theorem Pt.grow {Q : Vw → α → Prop} {a : α} (S : St0 W V σ s) {h' : Heap} {tk : Nat} (hk : ∀ a o, s.heap.get? a = some o → h'.get? a = some o) (hl : s.heap.objs.size ≤ h'.objs.size) (q : Q V a) : Pt W σ V s σ Q a { s with heap := h', toks := tk } :=
  let z := S.grow (s' := { s with heap := h', toks := tk }) hk hl rfl rfl; ⟨V, z.2, z.1, q⟩
theorem Pt.all {Q : Vw → α → Prop} {a : α} (S : St0 W V σ s) {h' : Heap} {tk : Nat} (hk : ∀ a o, s.heap.get? a = some o → h'.get? a = some o) (hl : s.heap.objs.size ≤ h'.objs.size) (q : Q (V.all s.heap.objs.size h') a) : Pt W σ V s σ Q a { s with heap := h', toks := tk } :=
  let z := S.all (s' := { s with heap := h', toks := tk }) hk hl rfl rfl; ⟨_, z.2, z.1, q⟩
end

inductive Slot where
  | loc
  | cel (k : Nat)
  | fre (k : Nat)
  | glb
structure Sd where
  cur : Nat
  tab : List (Str × Slot)
  acc : List (Nat × Addr)
noncomputable def Room (A : Around) (n : Nat) : Prop := A.handled = none ∧ A.depth + n < recursionLimit ∧ A.units + 4 * n + 100 < cLine
structure Cx where
  W : Wd
  A : Around
  env : Env
  n : Nat
  hk : env.scope.kind = .function
  hg : env.globals = mainGlobals
  hb : env.builtins = builtinsNs
  hA : Room A n

noncomputable def SlotOk (c : Cx) (V : Vw) (n : Nat) (x : Str) : Slot → Prop
  | .loc => c.env.kindOf x = some .local
  | .cel k => c.env.kindOf x = some .cell ∧ c.env.cells.lookup x = some (V.ad k) ∧ k < n
  | .fre k => (c.env.kindOf x = some .free ∧ (x == ("__classdict__" : Str)) = false) ∧ c.env.cells.lookup x = some (V.ad k) ∧ k < n
  | .glb => c.env.kindOf x = some .globalImplicit
structure Fo (c : Cx) (d : Sd) (V : Vw) (n : Nat) : Prop where
  loc : c.env.locals = V.ad d.cur
  cur : d.cur < n
  tab : ∀ p ∈ d.tab, SlotOk c V n p.1 p.2
  acc : ∀ p ∈ d.acc, V.ad p.1 = p.2 ∧ p.1 < n

theorem SlotOk.mono {c : Cx} {V V' : Vw} {n m : Nat} {x : Str} {sl : Slot} (h : SlotOk c V n x sl) (had : ∀ k, k < n → V'.ad k = V.ad k) (hm : n ≤ m) : SlotOk c V' m x sl := by
  cases sl with
  | loc => exact h
  | glb => exact h
  | cel k => exact ⟨h.1, by rw [h.2.1, had k h.2.2], Nat.lt_of_lt_of_le h.2.2 hm⟩
  | fre k => exact ⟨h.1, by rw [h.2.1, had k h.2.2], Nat.lt_of_lt_of_le h.2.2 hm⟩
theorem Fo.mono {c : Cx} {d : Sd} {V V' : Vw} {n m : Nat} (h : Fo c d V n) (had : ∀ k, k < n → V'.ad k = V.ad k) (hm : n ≤ m) : Fo c d V' m :=
  ⟨by rw [h.loc, had _ h.cur], Nat.lt_of_lt_of_le h.cur hm, fun p hp => (h.tab p hp).mono had hm, fun p hp => ⟨by rw [had _ (h.acc p hp).2, (h.acc p hp).1], Nat.lt_of_lt_of_le (h.acc p hp).2 hm⟩⟩
theorem Fo.ext {c : Cx} {d : Sd} {V V' : Vw} {σ σ' : List MO} {s s' : Shared} (h : Fo c d V σ.length) (E : Ext σ V s σ' V' s') : Fo c d V' σ'.length := h.mono E.ad E.le

noncomputable def EvX (c : Cx) (d : Sd) (e : Expr) (σ : List MO) (x : X) (σ' : List MO) : Prop :=
  ∀ V s, St0 c.W V σ s → Fo c d V σ.length → wpAny c.W.M c.A (eval e c.env) (Pt c.W σ V s σ' fun V' v => XRp c.W V' x v ∧ x.fits σ'.length) NoE s
noncomputable abbrev Ev (c : Cx) (d : Sd) (e : Expr) (σ : List MO) (t : T) (σ' : List MO) : Prop := EvX c d e σ (.tr t) σ'
noncomputable def EvB (c : Cx) (d : Sd) (e : Expr) (σ : List MO) (b : Bool) (σ' : List MO) : Prop :=
  ∀ V s, St0 c.W V σ s → Fo c d V σ.length → wpAny c.W.M c.A (isTrue e c.env (eval e c.env)) (Pt c.W σ V s σ' fun _ v => v = b) NoE s
noncomputable def XsRp (W : Wd) (V : Vw) : List X → List Value → Prop
  | [], vs => vs = []
  | x :: xs, vs => ∃ v r, vs = v :: r ∧ XRp W V x v ∧ XsRp W V xs r
noncomputable def EvS (c : Cx) (d : Sd) (es : List Expr) (σ : List MO) (xs : List X) (σ' : List MO) : Prop :=
  ∀ V s pos, St0 c.W V σ s → Fo c d V σ.length → wpAny c.W.M c.A (spliced (backTo pos (starEach es c.env))) (Pt c.W σ V s σ' fun V' vs => XsRp c.W V' xs vs ∧ ∀ x ∈ xs, X.fits σ'.length x) NoE s
theorem XsRp.ext {W : Wd} {V V' : Vw} {σ σ' : List MO} {s s' : Shared} (a : Ext σ V s σ' V' s') : ∀ {xs : List X} {vs : List Value}, XsRp W V xs vs → (∀ x ∈ xs, X.fits σ.length x) → XsRp W V' xs vs
  | [], _, e, _ => e
  | _ :: _, _, ⟨v, r, e, h1, h2⟩, hf => ⟨v, r, e, h1.ext a (hf _ (.head _)), XsRp.ext a h2 fun x hx => hf x (.tail _ hx)⟩

noncomputable def OpX (c : Cx) (m : Value → Value → Sem Value) (σ : List MO) (x y z : X) (σ' : List MO) : Prop :=
  ∀ V s a b, St0 c.W V σ s → XRp c.W V x a → x.fits σ.length → XRp c.W V y b → y.fits σ.length → wpAny c.W.M c.A (m a b) (Pt c.W σ V s σ' fun V' v => XRp c.W V' z v ∧ z.fits σ'.length) NoE s
noncomputable def OpB (c : Cx) (m : Value → Value → Sem Value) (σ : List MO) (x y : X) (b : Bool) : Prop :=
  ∀ V s a u, St0 c.W V σ s → XRp c.W V x a → x.fits σ.length → XRp c.W V y u → y.fits σ.length → wpAny c.W.M c.A (m a u) (Pt c.W σ V s σ fun _ v => v = .bool b) NoE s
noncomputable def Tru (c : Cx) (σ : List MO) (x : X) (b : Bool) : Prop :=
  ∀ V s a, St0 c.W V σ s → XRp c.W V x a → x.fits σ.length → wpAny c.W.M c.A (truthy a) (Pt c.W σ V s σ fun _ v => v = b) NoE s

section
variable {c : Cx} {d : Sd} {σ σ₁ σ₂ σ₃ : List MO}

theorem Ev.int {i : Int} {k : Nat} {pos : Pos} : Ev c d (.Constant (.int i) k pos) σ (.int i) σ := fun _ s S _ => wpAny_Constant_int (Pt.tok S _ ⟨⟨_, rfl⟩, trivial⟩)
theorem Ev.str {x : Str} {k : Nat} {pos : Pos} : Ev c d (.Constant (.str x) k pos) σ (.str x) σ := fun _ s S _ => wpAny_Constant_str (Pt.tok S _ ⟨⟨_, rfl⟩, trivial⟩)
theorem Ev.bool {b : Bool} {k : Nat} {pos : Pos} : Ev c d (.Constant (.bool b) k pos) σ (.bool b) σ := fun _ _ S _ => wpAny_Constant_bool (Pt.here S ⟨rfl, trivial⟩)
theorem Ev.none {k : Nat} {pos : Pos} : Ev c d (.Constant .none k pos) σ .none σ := fun _ _ S _ => wpAny_Constant_none (Pt.here S ⟨rfl, trivial⟩)

noncomputable def X.told : X → Prop
  | .any => False
  | _ => True
theorem ORp_get {W : Wd} {V : Vw} {x : X} {o : Option Value} (h : ORp W V x o) (hx : x.told) : ∃ v, o = some v ∧ XRp W V x v := by
  cases x with
  | any => exact hx.elim
  | tr t => exact h
  | mt k => exact h

theorem EvX.loc {x : Str} {pos : Pos} {m : List (Str × X)} {v : X} (hs : (x, Slot.loc) ∈ d.tab) (hl : σ[d.cur]? = some (.ns m)) (hm : (x, v) ∈ m) (hx : v.told := by trivial) (hd : (x == ("__debug__" : Str)) = false := by decide) : EvX c d (.Name x pos) σ v σ := fun V s S F => by
  obtain ⟨f, hn, _, hq⟩ := S.led _ _ hl
  obtain ⟨u, e, r⟩ := ORp_get (hq _ hm) hx
  exact wpAny_Name (wpAny_loadName_local c.hk (F.tab _ hs) (by rw [F.loc]; exact hn) e (Pt.here S ⟨r, S.fit _ _ hl _ hm⟩)) hd
theorem EvX.cel {x : Str} {pos : Pos} {k : Nat} {v : X} (hs : (x, Slot.cel k) ∈ d.tab) (hl : σ[k]? = some (.cell v)) (hx : v.told := by trivial) (hd : (x == ("__debug__" : Str)) = false := by decide) : EvX c d (.Name x pos) σ v σ := fun V s S F => by
  obtain ⟨w, hc, hq⟩ := S.led _ _ hl
  obtain ⟨u, e, r⟩ := ORp_get hq hx
  obtain ⟨h1, h2, _⟩ := F.tab _ hs
  subst e
  exact wpAny_Name (wpAny_loadName_cell c.hk h1 h2 hc (Pt.here S ⟨r, S.fit _ _ hl⟩)) hd
theorem Ev.glob {x : Str} {pos : Pos} {v : Value} (hs : (x, Slot.glb) ∈ d.tab) (hv : c.W.mg x = some v) (hd : (x == ("__debug__" : Str)) = false := by decide) : Ev c d (.Name x pos) σ (.val v) σ := fun V s S F =>
  Calls.Name_function_global c.hk (F.tab _ hs) (Calls.loadGlobal_global (by rw [c.hg]; exact (c.W.gd s.heap fun a o e => S.keep a o (S.base a o e)).1) hv (Pt.here S ⟨rfl, trivial⟩)) hd
theorem Ev.globInt {x : Str} {pos : Pos} {i : Int} {t : Tok} (hs : (x, Slot.glb) ∈ d.tab) (hv : c.W.mg x = some (.int i t)) (hd : (x == ("__debug__" : Str)) = false := by decide) : Ev c d (.Name x pos) σ (.int i) σ := fun V s S F =>
  Calls.Name_function_global c.hk (F.tab _ hs) (Calls.loadGlobal_global (by rw [c.hg]; exact (c.W.gd s.heap fun a o e => S.keep a o (S.base a o e)).1) hv (Pt.here S ⟨⟨_, rfl⟩, trivial⟩)) hd
theorem Ev.blt {x : Str} {pos : Pos} {v : Value} (hs : (x, Slot.glb) ∈ d.tab) (hn : c.W.mg x = Option.none) (hv : c.W.mb x = some v) (hd : (x == ("__debug__" : Str)) = false := by decide) : Ev c d (.Name x pos) σ (.val v) σ := fun V s S F => by
  have g := c.W.gd s.heap fun a o e => S.keep a o (S.base a o e)
  exact Calls.Name_function_global c.hk (F.tab _ hs) (Calls.loadGlobal_builtin (by rw [c.hg]; exact g.1) hn (by rw [c.hb]; exact g.2.1) hv (Pt.here S ⟨rfl, trivial⟩)) hd

theorem EvX.bin {l r : Expr} {op : Operator} {pos : Pos} {x y z : X} (h1 : EvX c d l σ x σ₁) (h2 : EvX c d r σ₁ y σ₂) (h3 : OpX c (binaryOp op) σ₂ x y z σ₃) : EvX c d (.BinOp l op r pos) σ z σ₃ := fun V s S F =>
  wpAny_BinOp (seq (h1 V s S F) fun V₁ s₁ a E₁ S₁ q₁ => seq (h2 V₁ s₁ S₁ (F.ext E₁)) fun V₂ s₂ b E₂ S₂ q₂ =>
    later (E₁.trans E₂) (h3 V₂ s₂ a b S₂ (q₁.1.ext E₂ q₁.2) (q₁.2.mono E₂.le) q₂.1 q₂.2))
theorem EvX.cmp {l r : Expr} {op : CmpOp} {pos : Pos} {x y : X} {b : Bool} (h1 : EvX c d l σ x σ₁) (h2 : EvX c d r σ₁ y σ₂) (h3 : OpB c (compareOp op) σ₂ x y b) (hm : behindInMarks op r = false := by rfl) : Ev c d (.Compare l [op] [r] pos) σ (.bool b) σ₂ := fun V s S F =>
  wpAny_Compare1 (seq (h1 V s S F) fun V₁ s₁ a E₁ S₁ q₁ => seq (h2 V₁ s₁ S₁ (F.ext E₁)) fun V₂ s₂ u E₂ S₂ q₂ =>
    later (E₁.trans E₂) (wpAny_mono (h3 V₂ s₂ a u S₂ (q₁.1.ext E₂ q₁.2) (q₁.2.mono E₂.le) q₂.1 q₂.2) (fun v s' ⟨V', E', S', e⟩ => ⟨V', E', S', e, trivial⟩) fun _ _ e => e)) hm
theorem EvB.cmp {l r : Expr} {op : CmpOp} {pos : Pos} {x y : X} {b : Bool} (h1 : EvX c d l σ x σ₁) (h2 : EvX c d r σ₁ y σ₂) (h3 : OpB c (compareOp op) σ₂ x y b) (hm : behindInMarks op r = false := by rfl) : EvB c d (.Compare l [op] [r] pos) σ b σ₂ := fun V s S F =>
  wpAny_isTrue_Compare1 (seq (h1 V s S F) fun V₁ s₁ a E₁ S₁ q₁ => seq (h2 V₁ s₁ S₁ (F.ext E₁)) fun V₂ s₂ u E₂ S₂ q₂ =>
    seq (h3 V₂ s₂ a u S₂ (q₁.1.ext E₂ q₁.2) (q₁.2.mono E₂.le) q₂.1 q₂.2) fun V₃ s₃ v E₃ S₃ e => by subst e; exact wpAny_truthy_bool ⟨V₃, (E₁.trans E₂).trans E₃, S₃, rfl⟩) hm
theorem EvB.not {x : Expr} {pos : Pos} {b : Bool} (h : EvB c d x σ b σ₁) : EvB c d (.UnaryOp .Not x pos) σ (!b) σ₁ := fun V s S F =>
  isTrue_not (seq (h V s S F) fun V₁ s₁ a E₁ S₁ q₁ => ⟨V₁, E₁, S₁, by rw [q₁]⟩)
theorem EvB.and_nil {pos : Pos} : EvB c d (.BoolOp .And [] pos) σ true σ := fun _ _ S _ => isTrue_and_nil (Pt.here S rfl)
theorem EvB.or_nil {pos : Pos} : EvB c d (.BoolOp .Or [] pos) σ false σ := fun _ _ S _ => isTrue_or_nil (Pt.here S rfl)
theorem EvB.and {x : Expr} {rest : List Expr} {pos : Pos} {a b : Bool} (h1 : EvB c d x σ a σ) (h2 : a = true → EvB c d (.BoolOp .And rest pos) σ b σ) : EvB c d (.BoolOp .And (x :: rest) pos) σ (a && b) σ := fun V s S F =>
  isTrue_and (seq (h1 V s S F) fun V₁ s₁ u E₁ S₁ q₁ => by
    subst q₁
    cases u with
    | false => exact ⟨V₁, E₁, S₁, rfl⟩
    | true => exact later E₁ (h2 rfl V₁ s₁ S₁ (F.ext E₁)))
theorem EvB.or {x : Expr} {rest : List Expr} {pos : Pos} {a b : Bool} (h1 : EvB c d x σ a σ) (h2 : a = false → EvB c d (.BoolOp .Or rest pos) σ b σ) : EvB c d (.BoolOp .Or (x :: rest) pos) σ (a || b) σ := fun V s S F =>
  isTrue_or (seq (h1 V s S F) fun V₁ s₁ u E₁ S₁ q₁ => by
    subst q₁
    cases u with
    | true => exact ⟨V₁, E₁, S₁, rfl⟩
    | false => exact later E₁ (h2 rfl V₁ s₁ S₁ (F.ext E₁)))
theorem EvB.plain {e : Expr} {x : X} {b : Bool} (h : EvX c d e σ x σ₁) (ht : Tru c σ₁ x b) (he : ∀ whole, isTrue e c.env whole = (do let v ← whole; standAt e.pos; holding [v] (truthy v)) := by intro _; rfl) : EvB c d e σ b σ₁ := fun V s S F =>
  isTrue_plain (seq (h V s S F) fun V₁ s₁ a E₁ S₁ q₁ => later E₁ (ht V₁ s₁ a S₁ q₁.1 q₁.2)) (he _)
theorem EvX.ite {t b o : Expr} {pos : Pos} {p : Bool} {x y z : X} (h : EvB c d t σ p σ₁) (h1 : p = true → EvX c d b σ₁ x σ₂) (h2 : p = false → EvX c d o σ₁ y σ₂) (hz : z = if p then x else y) : EvX c d (.IfExp t b o pos) σ z σ₂ := fun V s S F =>
  wpAny_IfExp (seq (h V s S F) fun V₁ s₁ u E₁ S₁ q₁ => by
    subst q₁; subst hz
    cases u with
    | true => exact later E₁ (h1 rfl V₁ s₁ S₁ (F.ext E₁))
    | false => exact later E₁ (h2 rfl V₁ s₁ S₁ (F.ext E₁)))
theorem EvX.or2 {a b : Expr} {pos : Pos} {p : Bool} {x y z : X} (h : EvX c d a σ x σ₁) (ht : Tru c σ₁ x p) (h2 : p = false → EvX c d b σ₁ y σ₁) (hz : z = if p then x else y) : EvX c d (.BoolOp .Or [a, b] pos) σ z σ₁ := fun V s S F =>
  BoolOp_or (seq (h V s S F) fun V₁ s₁ u E₁ S₁ q₁ => seq (ht V₁ s₁ u S₁ q₁.1 q₁.2) fun V₂ s₂ w E₂ S₂ e => by
    subst e; subst hz
    cases w with
    | true => exact ⟨V₂, E₁.trans E₂, S₂, q₁.1.ext E₂ q₁.2, q₁.2⟩
    | false => exact BoolOp_one (later (E₁.trans E₂) (h2 rfl V₂ s₂ S₂ (F.ext (E₁.trans E₂)))))

theorem EvS.nil : EvS c d [] σ [] σ := fun _ _ _ S _ => args_nil (Pt.here S ⟨rfl, fun _ h => (nomatch h)⟩)
theorem EvS.cons {e : Expr} {es : List Expr} {x : X} {xs : List X} (h1 : EvX c d e σ x σ₁) (h2 : EvS c d es σ₁ xs σ₂) (he : starEach (e :: es) c.env = (false, eval e c.env) :: starEach es c.env := by rfl) : EvS c d (e :: es) σ (x :: xs) σ₂ := fun V s pos S F =>
  args_cons (seq (h1 V s S F) fun V₁ s₁ a E₁ S₁ q₁ => seq (h2 V₁ s₁ pos S₁ (F.ext E₁)) fun V₂ s₂ b E₂ S₂ q₂ =>
    ⟨V₂, E₁.trans E₂, S₂, ⟨a, b, rfl, q₁.1.ext E₂ q₁.2, q₂.1⟩, fun x hx => by
      rcases List.mem_cons.mp hx with rfl | hx
      · exact q₁.2.mono E₂.le
      · exact q₂.2 x hx⟩) he

theorem XsRp.rps {W : Wd} {V : Vw} : ∀ {ts : List T} {vs : List Value}, XsRp W V (ts.map X.tr) vs → Rps W V.F ts vs
  | [], _, e => e
  | _ :: _, _, ⟨v, r, e, h1, h2⟩ => ⟨v, r, e, h1, XsRp.rps h2⟩

noncomputable def EvTs (c : Cx) (d : Sd) (es : List Expr) (σ : List MO) (ts : List T) (σ' : List MO) : Prop := EvS c d es σ (ts.map X.tr) σ'
theorem EvTs.nil : EvTs c d [] σ [] σ := EvS.nil
theorem EvTs.cons {e : Expr} {es : List Expr} {t : T} {ts : List T} (h1 : Ev c d e σ t σ₁) (h2 : EvTs c d es σ₁ ts σ₂) (he : starEach (e :: es) c.env = (false, eval e c.env) :: starEach es c.env := by rfl) : EvTs c d (e :: es) σ (t :: ts) σ₂ := EvS.cons h1 h2 he
theorem Ev.tup {es : List Expr} {k : Nat} {pos : Pos} {ts : List T} (h : EvTs c d es σ ts σ₁) (hl : ts.length ≤ 1000 := by exact Nat.le_of_ble_eq_true rfl) : Ev c d (.Tuple es k pos) σ (.tup ts) σ₁ := fun V s S F =>
  Tuple_ (seq (h V s pos S F) fun V₁ s₁ vs E₁ S₁ q₁ => by
    have r := XsRp.rps q₁.1
    refine later E₁ (wpAny_newTuple (Pt.all (tk := s₁.toks) S₁ (fun a o e => Heap.get?_push_of_some _ e) (by rw [Heap.size_push]; exact Nat.le_succ _) ⟨⟨_, _, vs.toArray, 0, rfl, Vw.all_new (Nat.le_refl _) (Heap.get?_push_size _ rfl), rfl, rfl, ?_⟩, trivial⟩) ?_)
    · have := Rps.mono (Vw.all_sub S₁ (s₁.heap.push { cls := .type "tuple", data := .seq vs.toArray })) _ _ r
      simpa using this
    · rw [r.length, sizeLine_eq]; omega)
theorem Ev.list {es : List Expr} {pos : Pos} {ts : List T} (h : EvTs c d es σ ts σ₁) (hl : ts.length ≤ 1000 := by exact Nat.le_of_ble_eq_true rfl) : Ev c d (.List es pos) σ (.list ts) σ₁ := fun V s S F =>
  List_ (seq (h V s pos S F) fun V₁ s₁ vs E₁ S₁ q₁ => by
    have r := XsRp.rps q₁.1
    refine later E₁ (wpAny_newList (Pt.all (tk := s₁.toks) S₁ (fun a o e => Heap.get?_push_of_some _ e) (by rw [Heap.size_push]; exact Nat.le_succ _) ⟨⟨_, _, vs.toArray, 0, rfl, Vw.all_new (Nat.le_refl _) (Heap.get?_push_size _ rfl), rfl, rfl, ?_⟩, trivial⟩) ?_)
    · have := Rps.mono (Vw.all_sub S₁ (s₁.heap.push { cls := .type "list", data := .seq vs.toArray })) _ _ r
      simpa using this
    · rw [r.length, sizeLine_eq]; omega)
inductive PushL : List MO → MO → List MO → Prop
  | nil {mo : MO} : PushL [] mo [mo]
  | cons {a mo : MO} {r r' : List MO} : PushL r mo r' → PushL (a :: r) mo (a :: r')
theorem PushL.eq {mo : MO} {σ' : List MO} (h : PushL σ mo σ') : σ' = σ ++ [mo] := by
  induction h with
  | nil => rfl
  | cons _ ih => rw [ih]; rfl
theorem EvX.newList {es : List Expr} {pos : Pos} {ts : List T} {n : Nat} (h : EvTs c d es σ ts σ₁) (hl : ts.length ≤ 1000 := by exact Nat.le_of_ble_eq_true rfl) (hn : σ₁.length = n) (hp : PushL σ₁ (.list ts) σ₂) : EvX c d (.List es pos) σ (.mt n) σ₂ := fun V s S F =>
  List_ (seq (h V s pos S F) fun V₁ s₁ vs E₁ S₁ q₁ => by
    have r := XsRp.rps q₁.1
    subst hn; rw [hp.eq]
    refine wpAny_newList ?_ ?_
    · have z := S₁.new (mo := .list ts) (s' := { s₁ with heap := s₁.heap.push { cls := .type "list", data := .seq vs.toArray } }) (a := s₁.heap.objs.size) (Nat.le_refl _) (by show _ < (s₁.heap.push _).objs.size; rw [Heap.size_push]; exact Nat.lt_succ_self _)
        (fun a o e => Heap.get?_push_of_some _ e) ⟨vs.toArray, 0, Heap.get?_push_size _ rfl, by simpa using r⟩ trivial rfl rfl
      refine ⟨_, E₁.trans z.2, z.1, ?_, ?_⟩
      · show Value.ref _ = .ref _
        exact congrArg Value.ref (if_pos rfl).symm
      · show σ₁.length < _
        rw [List.length_append]; exact Nat.lt_succ_self _
    · rw [r.length, sizeLine_eq]; omega)
end
end Mine
-- B3
namespace Mine
section
variable {c : Cx} {σ : List MO} {a b : Int}
theorem OpX.addI : OpX c (binaryOp .Add) σ (.tr (.int a)) (.tr (.int b)) (.tr (.int (a + b))) σ := fun V s x y S ⟨t, e⟩ _ ⟨u, e'⟩ _ => by subst e e'; exact add_int (Pt.tok S _ ⟨⟨_, rfl⟩, trivial⟩)
theorem OpX.subI : OpX c (binaryOp .Sub) σ (.tr (.int a)) (.tr (.int b)) (.tr (.int (a - b))) σ := fun V s x y S ⟨t, e⟩ _ ⟨u, e'⟩ _ => by subst e e'; exact sub_int (Pt.tok S _ ⟨⟨_, rfl⟩, trivial⟩)
theorem OpX.mulI (h : a.natAbs < 2 ^ 64 ∨ b.natAbs < 2 ^ 64) : OpX c (binaryOp .Mult) σ (.tr (.int a)) (.tr (.int b)) (.tr (.int (a * b))) σ := fun V s x y S ⟨t, e⟩ _ ⟨u, e'⟩ _ => by
  subst e e'
  refine mul_int (Pt.tok S _ ⟨⟨_, rfl⟩, trivial⟩) ?_
  rcases h with h | h
  · exact IntMulOk.of_left (intBits_le h)
  · have h' : ¬ (Builtin.Int.intBits b > shortFactorBits) := Nat.not_lt.mpr (intBits_le h)
    unfold IntMulOk; rw [decide_eq_false h']; simp
theorem OpX.modI (h : b ≠ 0) : OpX c (binaryOp .Mod) σ (.tr (.int a)) (.tr (.int b)) (.tr (.int (a.fmod b))) σ := fun V s x y S ⟨t, e⟩ _ ⟨u, e'⟩ _ => by subst e e'; exact mod_int' h (Pt.tok S _ ⟨⟨_, rfl⟩, trivial⟩)
theorem OpX.divI (h : b ≠ 0) (h2 : b.natAbs < 1073741824) : OpX c (binaryOp .FloorDiv) σ (.tr (.int a)) (.tr (.int b)) (.tr (.int (a.fdiv b))) σ := fun V s x y S ⟨t, e⟩ _ ⟨u, e'⟩ _ => by subst e e'; exact floordiv_int h (Pt.tok S _ ⟨⟨_, rfl⟩, trivial⟩) (.inl (PyProof.noPylong_small h2))
theorem OpX.shlI (h : 0 ≤ b) (h2 : b ≤ 1000000) (h3 : a.natAbs < 2 ^ 64) : OpX c (binaryOp .LShift) σ (.tr (.int a)) (.tr (.int b)) (.tr (.int (a * 2 ^ b.toNat))) σ := fun V s x y S ⟨t, e⟩ _ ⟨u, e'⟩ _ => by subst e e'; exact lshift_int_small h h2 h3 (Pt.tok S _ ⟨⟨_, rfl⟩, trivial⟩)
theorem OpX.shrI (h : 0 ≤ b) : OpX c (binaryOp .RShift) σ (.tr (.int a)) (.tr (.int b)) (.tr (.int (a.fdiv (2 ^ b.toNat)))) σ := fun V s x y S ⟨t, e⟩ _ ⟨u, e'⟩ _ => by subst e e'; exact rshift_int h (Pt.tok S _ ⟨⟨_, rfl⟩, trivial⟩)
theorem OpX.powI (h : 0 ≤ b) (h2 : b ≤ 1000000) (h3 : a.natAbs < 2 ^ 64) : OpX c (binaryOp .Pow) σ (.tr (.int a)) (.tr (.int b)) (.tr (.int (a ^ b.toNat))) σ := fun V s x y S ⟨t, e⟩ _ ⟨u, e'⟩ _ => by subst e e'; exact pow_int_small h h2 h3 (Pt.tok S _ ⟨⟨_, rfl⟩, trivial⟩)
theorem OpX.andI : OpX c (binaryOp .BitAnd) σ (.tr (.int a)) (.tr (.int b)) (.tr (.int (Builtin.bitAnd a b))) σ := fun V s x y S ⟨t, e⟩ _ ⟨u, e'⟩ _ => by subst e e'; exact and_int (Pt.tok S _ ⟨⟨_, rfl⟩, trivial⟩)
theorem OpX.orI : OpX c (binaryOp .BitOr) σ (.tr (.int a)) (.tr (.int b)) (.tr (.int (Builtin.bitOr a b))) σ := fun V s x y S ⟨t, e⟩ _ ⟨u, e'⟩ _ => by subst e e'; exact or_int (Pt.tok S _ ⟨⟨_, rfl⟩, trivial⟩)
theorem OpX.xorI : OpX c (binaryOp .BitXor) σ (.tr (.int a)) (.tr (.int b)) (.tr (.int (Builtin.bitXor a b))) σ := fun V s x y S ⟨t, e⟩ _ ⟨u, e'⟩ _ => by subst e e'; exact xor_int (Pt.tok S _ ⟨⟨_, rfl⟩, trivial⟩)
theorem OpX.iaddI : OpX c (inplaceOp .Add) σ (.tr (.int a)) (.tr (.int b)) (.tr (.int (a + b))) σ := fun V s x y S ⟨t, e⟩ _ ⟨u, e'⟩ _ => by subst e e'; exact iadd_int (Pt.tok S _ ⟨⟨_, rfl⟩, trivial⟩)
theorem OpX.isubI : OpX c (inplaceOp .Sub) σ (.tr (.int a)) (.tr (.int b)) (.tr (.int (a - b))) σ := fun V s x y S ⟨t, e⟩ _ ⟨u, e'⟩ _ => by subst e e'; exact isub_int (Pt.tok S _ ⟨⟨_, rfl⟩, trivial⟩)
theorem OpX.idivI (h : b ≠ 0) (h2 : b.natAbs < 1073741824) : OpX c (inplaceOp .FloorDiv) σ (.tr (.int a)) (.tr (.int b)) (.tr (.int (a.fdiv b))) σ := fun V s x y S ⟨t, e⟩ _ ⟨u, e'⟩ _ => by subst e e'; exact ifloordiv_int h (Pt.tok S _ ⟨⟨_, rfl⟩, trivial⟩) (.inl (PyProof.noPylong_small h2))
theorem OpX.ishlI (h : 0 ≤ b) (h2 : b ≤ 1000000) (h3 : a.natAbs < 2 ^ 64) : OpX c (inplaceOp .LShift) σ (.tr (.int a)) (.tr (.int b)) (.tr (.int (a * 2 ^ b.toNat))) σ := fun V s x y S ⟨t, e⟩ _ ⟨u, e'⟩ _ => by subst e e'; exact ilshift_int_small h h2 h3 (Pt.tok S _ ⟨⟨_, rfl⟩, trivial⟩)
theorem OpX.iorI : OpX c (inplaceOp .BitOr) σ (.tr (.int a)) (.tr (.int b)) (.tr (.int (Builtin.bitOr a b))) σ := fun V s x y S ⟨t, e⟩ _ ⟨u, e'⟩ _ => by subst e e'; exact ior_int (Pt.tok S _ ⟨⟨_, rfl⟩, trivial⟩)
theorem OpX.ixorI : OpX c (inplaceOp .BitXor) σ (.tr (.int a)) (.tr (.int b)) (.tr (.int (Builtin.bitXor a b))) σ := fun V s x y S ⟨t, e⟩ _ ⟨u, e'⟩ _ => by subst e e'; exact ixor_int (Pt.tok S _ ⟨⟨_, rfl⟩, trivial⟩)

theorem OpB.ltI : OpB c (compareOp .Lt) σ (.tr (.int a)) (.tr (.int b)) (decide (a < b)) := fun V s x y S ⟨t, e⟩ _ ⟨u, e'⟩ _ => by subst e e'; exact lt_int (Pt.here S rfl)
theorem OpB.gtI : OpB c (compareOp .Gt) σ (.tr (.int a)) (.tr (.int b)) (decide (b < a)) := fun V s x y S ⟨t, e⟩ _ ⟨u, e'⟩ _ => by subst e e'; exact gt_int (Pt.here S rfl)
theorem OpB.leI : OpB c (compareOp .LtE) σ (.tr (.int a)) (.tr (.int b)) (decide (a ≤ b)) := fun V s x y S ⟨t, e⟩ _ ⟨u, e'⟩ _ => by subst e e'; exact le_int (Pt.here S rfl)
theorem OpB.geI : OpB c (compareOp .GtE) σ (.tr (.int a)) (.tr (.int b)) (decide (b ≤ a)) := fun V s x y S ⟨t, e⟩ _ ⟨u, e'⟩ _ => by subst e e'; exact ge_int (Pt.here S rfl)
theorem OpB.eqI : OpB c (compareOp .Eq) σ (.tr (.int a)) (.tr (.int b)) (a == b) := fun V s x y S ⟨t, e⟩ _ ⟨u, e'⟩ _ => by subst e e'; exact eq_int (Pt.here S rfl)
theorem OpB.neI : OpB c (compareOp .NotEq) σ (.tr (.int a)) (.tr (.int b)) (a != b) := fun V s x y S ⟨t, e⟩ _ ⟨u, e'⟩ _ => by subst e e'; exact ne_int (Pt.here S rfl)
theorem Tru.int : Tru c σ (.tr (.int a)) (a != 0) := fun V s x S ⟨t, e⟩ _ => by subst e; exact PySem.P.truthy_int (Pt.here S rfl)
theorem Tru.bool {p : Bool} : Tru c σ (.tr (.bool p)) p := fun V s x S e _ => by have e' : x = .bool p := e; subst e'; exact wpAny_truthy_bool (Pt.here S rfl)
theorem Tru.none : Tru c σ (.tr .none) false := fun V s x S e _ => by have e' : x = .none := e; subst e'; exact truthy_none (Pt.here S rfl)
theorem Tru.str {x : Str} (h : x.length < 1000000) : Tru c σ (.tr (.str x)) ((x.length : Int) != 0) := fun V s v S ⟨t, e⟩ _ => by subst e; exact PySem.P.truthy_str (by omega) (Pt.tok S _ rfl)
end

mutual
noncomputable def T.py : T → PyData
  | .none => .none
  | .bool b => .bool b
  | .int i => .int i
  | .str x => .str x
  | .list ts => .list (pys ts)
  | .tup ts => .tuple (pys ts)
  | .bytes _ | .dict _ | .val _ | .inst _ _ _ => .none
noncomputable def pys : List T → List PyData
  | [] => []
  | t :: ts => t.py :: pys ts
end
mutual
noncomputable def T.isData : T → Bool
  | .none | .bool _ | .int _ => true
  | .str x => PyData.strOk x
  | .list ts | .tup ts => allData ts
  | .bytes _ | .dict _ | .val _ | .inst _ _ _ => false
noncomputable def allData : List T → Bool
  | [] => true
  | t :: ts => t.isData && allData ts
end
mutual
theorem Rp.reads {W : Wd} {F : Fz} {h : Heap} (hk : ∀ a o, F a = some o → h.get? a = some o) : ∀ (t : T) (v : Value), t.isData = true → Rp W F t v → ∃ as, Reads h v t.py as
  | .none => fun v _ e => by have e' : v = .none := e; subst e'; exact ⟨_, .none⟩
  | .bool b => fun v _ e => by have e' : v = .bool b := e; subst e'; exact ⟨_, .bool b⟩
  | .int i => fun v _ e => by obtain ⟨t, e⟩ := e; subst e; exact ⟨_, .int i t⟩
  | .str x => fun v _ e => by obtain ⟨t, e⟩ := e; subst e; exact ⟨_, .str x t⟩
  | .list ts => fun v hd e => by obtain ⟨a, o, vs, n, e1, e2, e3, e4, r⟩ := e; subst e1; obtain ⟨as, q⟩ := Rps.reads hk ts _ hd r; exact ⟨_, .list (hk _ _ e2) (by rw [e3]) e4 q⟩
  | .tup ts => fun v hd e => by obtain ⟨a, o, vs, n, e1, e2, e3, e4, r⟩ := e; subst e1; obtain ⟨as, q⟩ := Rps.reads hk ts _ hd r; exact ⟨_, .tuple (hk _ _ e2) e3 e4 q⟩
  | .bytes _ => fun _ hd _ => Bool.noConfusion hd
  | .dict _ => fun _ hd _ => Bool.noConfusion hd
  | .val _ => fun _ hd _ => Bool.noConfusion hd
  | .inst _ _ _ => fun _ hd _ => Bool.noConfusion hd
theorem Rps.reads {W : Wd} {F : Fz} {h : Heap} (hk : ∀ a o, F a = some o → h.get? a = some o) : ∀ (ts : List T) (vs : List Value), allData ts = true → Rps W F ts vs → ∃ as, ReadsAll h vs (pys ts) as
  | [] => fun vs _ e => by have e' : vs = [] := e; subst e'; exact ⟨_, .nil⟩
  | t :: ts => fun vs hd e => by
    obtain ⟨v, r, e, h1, h2⟩ := e
    subst e
    have hd' : t.isData = true ∧ allData ts = true := by simpa [allData] using hd
    obtain ⟨as, q⟩ := Rp.reads hk t v hd'.1 h1
    obtain ⟨bs, q'⟩ := Rps.reads hk ts r hd'.2 h2
    exact ⟨_, .cons q q'⟩
end
mutual
theorem T.canLay : ∀ t : T, t.isData = true → t.py.canLay0 = true
  | .none => fun _ => rfl
  | .bool _ => fun _ => rfl
  | .int _ => fun _ => rfl
  | .str x => fun h => h
  | .list ts => fun h => pys_canLay ts h
  | .tup ts => fun h => pys_canLay ts h
  | .bytes _ => fun h => Bool.noConfusion h
  | .dict _ => fun h => Bool.noConfusion h
  | .val _ => fun h => Bool.noConfusion h
  | .inst _ _ _ => fun h => Bool.noConfusion h
theorem pys_canLay : ∀ ts : List T, allData ts = true → PyData.canLayAll0 (pys ts) = true
  | [] => fun _ => rfl
  | t :: ts => fun h => by
    have h' : t.isData = true ∧ allData ts = true := by simpa [allData] using h
    show (t.py.canLay0 && PyData.canLayAll0 (pys ts)) = true
    rw [T.canLay t h'.1, pys_canLay ts h'.2]; rfl
end
-- how deep a tree is
mutual
noncomputable def T.dep : T → Nat
  | .list ts | .tup ts => deps ts + 1
  | .none | .bool _ | .int _ | .str _ | .bytes _ | .dict _ | .val _ | .inst _ _ _ => 0
noncomputable def deps : List T → Nat
  | [] => 0
  | t :: ts => max t.dep (deps ts)
end
mutual
theorem T.py_dep : ∀ t : T, t.py.depth ≤ t.dep
  | .none | .bool _ | .int _ | .str _ | .bytes _ | .dict _ | .val _ | .inst _ _ _ => by simp [T.py, PyData.depth]
  | .list ts => by show PyData.depthAll (pys ts) + 1 ≤ _; have := pys_dep ts; simp only [T.dep]; omega
  | .tup ts => by show PyData.depthAll (pys ts) + 1 ≤ _; have := pys_dep ts; simp only [T.dep]; omega
theorem pys_dep : ∀ ts : List T, PyData.depthAll (pys ts) ≤ deps ts
  | [] => Nat.le_refl _
  | t :: ts => by show max t.py.depth (PyData.depthAll (pys ts)) ≤ max t.dep (deps ts); have := T.py_dep t; have := pys_dep ts; omega
end
noncomputable def teq (t u : T) : Bool := PyData.eqv t.py u.py
section
variable {c : Cx} {σ : List MO} {t u : T}
theorem Cx.room (c : Cx) : c.A.units + 100 < cLine := by have := c.hA.2.2; omega
theorem OpB.eqT (ht : t.isData = true) (hu : u.isData = true) (hd : t.dep ≤ 50) : OpB c (compareOp .Eq) σ (.tr t) (.tr u) (teq t u) := fun V s x y S rx _ ry _ => by
  obtain ⟨as, qx⟩ := Rp.reads S.keep t x ht rx
  obtain ⟨bs, qy⟩ := Rp.reads S.keep u y hu ry
  have h1 := T.py_dep t
  have h2 := c.room
  exact SeqAt.compareEq_reads qx qy (T.canLay t ht) (T.canLay u hu) (by omega) (Pt.here S rfl)
theorem OpB.neT (ht : t.isData = true) (hu : u.isData = true) (hd : t.dep ≤ 50) : OpB c (compareOp .NotEq) σ (.tr t) (.tr u) (!teq t u) := fun V s x y S rx _ ry _ => by
  obtain ⟨as, qx⟩ := Rp.reads S.keep t x ht rx
  obtain ⟨bs, qy⟩ := Rp.reads S.keep u y hu ry
  have h1 := T.py_dep t
  have h2 := c.room
  exact SeqAt.compareNe_reads qx qy (T.canLay t ht) (T.canLay u hu) (by omega) (Pt.here S rfl)
theorem OpB.inL {ts : List T} (ht : t.isData = true) (hu : allData ts = true) (hd : t.dep ≤ 50) : OpB c (compareOp .In) σ (.tr t) (.tr (.list ts)) (ts.any fun y => teq y t) := fun V s x y S rx _ ry _ => by
  obtain ⟨as, qx⟩ := Rp.reads S.keep t x ht rx
  obtain ⟨bs, qy⟩ := Rp.reads S.keep (.list ts) y hu ry
  have h1 := T.py_dep t
  have h2 := c.room
  refine SeqAt.in_list_reads qy qx (pys_canLay ts hu) (T.canLay t ht) (by omega) (Pt.here S ?_)
  have : ∀ ts : List T, (pys ts).any (fun y => PyData.eqv y t.py) = ts.any fun y => teq y t := by
    intro ts; induction ts with
    | nil => rfl
    | cons a r ih => show (_ || _) = (_ || _); rw [ih]; rfl
  rw [this]
theorem OpB.notInL {ts : List T} (ht : t.isData = true) (hu : allData ts = true) (hd : t.dep ≤ 50) : OpB c (compareOp .NotIn) σ (.tr t) (.tr (.list ts)) (!ts.any fun y => teq y t) := fun V s x y S rx _ ry _ => by
  obtain ⟨as, qx⟩ := Rp.reads S.keep t x ht rx
  obtain ⟨bs, qy⟩ := Rp.reads S.keep (.list ts) y hu ry
  have h1 := T.py_dep t
  have h2 := c.room
  refine SeqAt.notIn_list_reads qy qx (pys_canLay ts hu) (T.canLay t ht) (by omega) (Pt.here S ?_)
  have : ∀ ts : List T, (pys ts).any (fun y => PyData.eqv y t.py) = ts.any fun y => teq y t := by
    intro ts; induction ts with
    | nil => rfl
    | cons a r ih => show (_ || _) = (_ || _); rw [ih]; rfl
  rw [this]
theorem OpB.inT {ts : List T} (ht : t.isData = true) (hu : allData ts = true) (hd : t.dep ≤ 50) : OpB c (compareOp .In) σ (.tr t) (.tr (.tup ts)) (ts.any fun y => teq y t) := fun V s x y S rx _ ry _ => by
  obtain ⟨as, qx⟩ := Rp.reads S.keep t x ht rx
  obtain ⟨bs, qy⟩ := Rp.reads S.keep (.tup ts) y hu ry
  have h1 := T.py_dep t
  have h2 := c.room
  refine SeqAt.in_tuple_reads qy qx (pys_canLay ts hu) (T.canLay t ht) (by omega) (Pt.here S ?_)
  have : ∀ ts : List T, (pys ts).any (fun y => PyData.eqv y t.py) = ts.any fun y => teq y t := by
    intro ts; induction ts with
    | nil => rfl
    | cons a r ih => show (_ || _) = (_ || _); rw [ih]; rfl
  rw [this]
theorem OpB.notInT {ts : List T} (ht : t.isData = true) (hu : allData ts = true) (hd : t.dep ≤ 50) : OpB c (compareOp .NotIn) σ (.tr t) (.tr (.tup ts)) (!ts.any fun y => teq y t) := fun V s x y S rx _ ry _ => by
  obtain ⟨as, qx⟩ := Rp.reads S.keep t x ht rx
  obtain ⟨bs, qy⟩ := Rp.reads S.keep (.tup ts) y hu ry
  have h1 := T.py_dep t
  have h2 := c.room
  refine SeqAt.notIn_tuple_reads qy qx (pys_canLay ts hu) (T.canLay t ht) (by omega) (Pt.here S ?_)
  have : ∀ ts : List T, (pys ts).any (fun y => PyData.eqv y t.py) = ts.any fun y => teq y t := by
    intro ts; induction ts with
    | nil => rfl
    | cons a r ih => show (_ || _) = (_ || _); rw [ih]; rfl
  rw [this]
end
end Mine
-- B4
namespace Mine
noncomputable def GetX (c : Cx) (σ : List MO) (x y z : X) : Prop :=
  ∀ V s a b, St0 c.W V σ s → XRp c.W V x a → x.fits σ.length → XRp c.W V y b → y.fits σ.length →
    ∃ T id, typeLookup (.type T) "__getitem__" = pure (some (.builtin id)) ∧ s.TypeIs a T ∧ wpAny c.W.M c.A (getItem a b) (Pt c.W σ V s σ fun V' v => XRp c.W V' z v ∧ z.fits σ.length) NoE s
section
variable {c : Cx} {d : Sd} {σ σ₁ σ₂ σ₃ : List MO}
theorem EvX.sub {value slice : Expr} {pos : Pos} {x y z : X} (h1 : EvX c d value σ x σ₁) (h2 : EvX c d slice σ₁ y σ₂) (h3 : GetX c σ₂ x y z)
    (hs : ∀ o i, subscripted slice false o i = operate [o, i] (getItem o i) := by intro _ _; rfl) : EvX c d (.Subscript value slice pos) σ z σ₂ := fun V s S F =>
  Subscript_ (seq (h1 V s S F) fun V₁ s₁ a E₁ S₁ q₁ => seq (h2 V₁ s₁ S₁ (F.ext E₁)) fun V₂ s₂ b E₂ S₂ q₂ => by
    obtain ⟨T, id, hl, hT, hg⟩ := h3 V₂ s₂ a b S₂ (q₁.1.ext E₂ q₁.2) (q₁.2.mono E₂.le) q₂.1 q₂.2
    exact later (E₁.trans E₂) (tail_any hT hl hg (hs a b)))

theorem Rp.listOf {W : Wd} {V : Vw} {s : Shared} {ts : List T} {v : Value} (S : St0 W V σ s) (r : Rp W V.F (.list ts) v) : ∃ l vs, v = .ref l ∧ s.heap.IsList l vs ∧ Rps W V.F ts vs.toList := by
  obtain ⟨a, o, vs, n, e1, e2, e3, e4, q⟩ := r
  exact ⟨a, vs, e1, ⟨o, S.keep _ _ e2, by rw [e3], n, e4⟩, q⟩
theorem Rp.isL {W : Wd} {V : Vw} {s : Shared} {ts : List T} {v : Value} (S : St0 W V σ s) (r : Rp W V.F (.list ts) v) : ∃ l vs n, v = .ref l ∧ IsL s.heap l vs n ∧ Rps W V.F ts vs.toList := by
  obtain ⟨a, o, vs, n, e1, e2, e3, e4, q⟩ := r
  exact ⟨a, vs, n, e1, by subst e3; exact S.keep _ _ e2, q⟩
theorem Rp.tupOf {W : Wd} {V : Vw} {s : Shared} {ts : List T} {v : Value} (S : St0 W V σ s) (r : Rp W V.F (.tup ts) v) : ∃ l vs, v = .ref l ∧ IsTup s.heap l vs ∧ Rps W V.F ts vs.toList := by
  obtain ⟨a, o, vs, n, e1, e2, e3, e4, q⟩ := r
  exact ⟨a, vs, e1, ⟨o, S.keep _ _ e2, e3, n, e4⟩, q⟩
theorem Mut.listOf {W : Wd} {V : Vw} {s : Shared} {ts : List T} {v : Value} {k : Nat} (S : St0 W V σ s) (hk : σ[k]? = some (.list ts)) (r : XRp W V (.mt k) v) : ∃ vs, v = .ref (V.ad k) ∧ s.heap.IsList (V.ad k) vs ∧ Rps W V.F ts vs.toList := by
  obtain ⟨vs, n, e, q⟩ := S.led _ _ hk
  exact ⟨vs, r, ⟨_, e, rfl, n, rfl⟩, q⟩

noncomputable def ixOf (k : Int) (n : Nat) : Nat := if k < 0 then (k + n).toNat else k.toNat

theorem getList {A : Around} {W : Wd} {s : Shared} {l : Addr} {vs : Array Value} {k : Int} {u : Tok} {x : Value} {Q : Value → Shared → Prop} (hl : s.heap.IsList l vs) (h0 : -(vs.size : Int) ≤ k) (h1 : k < vs.size) (hz : vs.size ≤ 1000000)
    (hx : vs[ixOf k vs.size]? = some x) (h : Q x s) : wpAny W.M A (getItem (.ref l) (.int k u)) Q NoE s := by
  by_cases hn : k < 0
  · exact wpAny_getItem_list_neg hl hn h0 (by omega) (by rw [ixOf, if_pos hn] at hx; exact hx) h
  · exact wpAny_getItem_list hl (by omega) (by omega) (by rw [ixOf, if_neg hn] at hx; exact hx) h
theorem GetX.list {ts : List T} {k : Int} {t : T} (h0 : -(ts.length : Int) ≤ k) (h1 : k < ts.length) (hz : ts.length ≤ 1000000) (ht : ts[ixOf k ts.length]? = some t) : GetX c σ (.tr (.list ts)) (.tr (.int k)) (.tr t) := fun V s a b S r _ ⟨u, e⟩ _ => by
  subst e
  obtain ⟨l, vs, rfl, hl, q⟩ := Rp.listOf S r
  have hlen : vs.size = ts.length := by simpa using q.length
  obtain ⟨v, hv, rv⟩ := q.get ht
  exact ⟨"list", _, slot_list_getitem.lookup, hl.typeIs, getList hl (by rw [hlen]; exact h0) (by rw [hlen]; exact h1) (by rw [hlen]; exact hz) (by rw [hlen]; simpa using hv) (Pt.here S ⟨rv, trivial⟩)⟩
theorem GetX.mlist {ts : List T} {k : Int} {t : T} {j : Nat} (hj : σ[j]? = some (.list ts)) (h0 : -(ts.length : Int) ≤ k) (h1 : k < ts.length) (hz : ts.length ≤ 1000000) (ht : ts[ixOf k ts.length]? = some t) : GetX c σ (.mt j) (.tr (.int k)) (.tr t) := fun V s a b S r _ ⟨u, e⟩ _ => by
  subst e
  obtain ⟨vs, rfl, hl, q⟩ := Mut.listOf S hj r
  have hlen : vs.size = ts.length := by simpa using q.length
  obtain ⟨v, hv, rv⟩ := q.get ht
  exact ⟨"list", _, slot_list_getitem.lookup, hl.typeIs, getList hl (by rw [hlen]; exact h0) (by rw [hlen]; exact h1) (by rw [hlen]; exact hz) (by rw [hlen]; simpa using hv) (Pt.here S ⟨rv, trivial⟩)⟩
theorem seqIndex_of {k : Int} {n : Nat} (h0 : -(n : Int) ≤ k) (h1 : k < n) : seqIndex? k n = some (ixOf k n) := by
  unfold seqIndex? ixOf
  by_cases hn : k < 0
  · rw [if_pos hn, if_pos hn]; rw [if_pos (by simp only [Bool.and_eq_true, decide_eq_true_eq]; omega)]
  · rw [if_neg hn, if_neg hn]; rw [if_pos (by simp only [Bool.and_eq_true, decide_eq_true_eq]; omega)]
theorem GetX.tup {ts : List T} {k : Int} {t : T} (h0 : -(ts.length : Int) ≤ k) (h1 : k < ts.length) (hz : ts.length ≤ 1000000) (ht : ts[ixOf k ts.length]? = some t) : GetX c σ (.tr (.tup ts)) (.tr (.int k)) (.tr t) := fun V s a b S r _ ⟨u, e⟩ _ => by
  subst e
  obtain ⟨l, vs, rfl, hl, q⟩ := Rp.tupOf S r
  have hlen : vs.size = ts.length := by simpa using q.length
  obtain ⟨v, hv, rv⟩ := q.get ht
  exact ⟨"tuple", _, slot_tuple_getitem.lookup, hl.typeIs, getItem_tuple hl (by omega) (by omega) (by rw [hlen]; exact seqIndex_of h0 h1) (by simpa using hv) (Pt.here S ⟨rv, trivial⟩)⟩
theorem GetX.str {x : Str} {k : Int} {cp : Nat} (h0 : -(x.length : Int) ≤ k) (h1 : k < x.length) (hz : x.length ≤ 1000000) (ht : x.cps[ixOf k x.length]? = some cp) : GetX c σ (.tr (.str x)) (.tr (.int k)) (.tr (.str ⟨#[cp]⟩)) := fun V s a b S ⟨t, e⟩ _ ⟨u, e'⟩ _ => by
  subst e; subst e'
  refine ⟨"str", _, slot_str_getitem.lookup, typeIs_str s x t, getItem_str (c := cp) ?_ (by rw [seqIndex_of h0 h1]; exact ht) (Pt.tok S _ ⟨⟨_, rfl⟩, trivial⟩)⟩
  simp only [Bool.or_eq_false_iff, decide_eq_false_iff_not]; omega
noncomputable def EvP (c : Cx) (d : Sd) (e : Option Expr) (σ : List MO) (k : Option Int) : Prop :=
  ∀ V s, St0 c.W V σ s → Fo c d V σ.length → wpAny c.W.M c.A (evalPart e c.env) (Pt c.W σ V s σ fun _ v => IsPart v k) NoE s
theorem EvP.no : EvP c d Option.none σ Option.none := fun _ _ S _ => wpAny_pure (Pt.here S .none)
theorem EvP.int {e : Expr} {i : Int} (h : Ev c d e σ (.int i) σ) : EvP c d (some e) σ (some i) := fun V s S F =>
  wpAny_mono (h V s S F) (fun v s' p => Pt.imp p fun V' q => by obtain ⟨⟨t, e⟩, _⟩ := q; subst e; exact .int i t) fun _ _ e => e
theorem EvP.non {e : Expr} (h : Ev c d e σ .none σ) : EvP c d (some e) σ Option.none := fun V s S F =>
  wpAny_mono (h V s S F) (fun v s' p => Pt.imp p fun V' q => by have e : v = .none := q.1; subst e; exact .none) fun _ _ e => e
theorem EvP.ifT {e : Expr} {i : Int} {b : Bool} (h : Ev c d e σ (if b then .int i else .none) σ) : EvP c d (some e) σ (if b then some i else Option.none) := by
  cases b with
  | true => exact EvP.int h
  | false => exact EvP.non h

noncomputable def pick {α : Type} (xs : List α) (lo hi st : Option Int) : List α :=
  (sliceRange (sliceBounds lo hi st xs.length).1 (sliceBounds lo hi st xs.length).2.1 (sliceBounds lo hi st xs.length).2.2).filterMap (xs[·]?)
theorem pick_length_le {α : Type} (xs : List α) (lo hi st : Option Int) (f : α → Value) : (pick xs lo hi st).length ≤ xs.length := by
  have := slicePick_size_le (xs.map f).toArray lo hi st
  have e : (slicePick (xs.map f).toArray lo hi st).toList = (pick xs lo hi st).map f := by
    unfold slicePick pick
    simp only [List.size_toArray, List.length_map, List.map_filterMap]
    congr 1
    funext i
    simp
  have e2 := congrArg List.length e
  simp only [Array.length_toList, List.length_map] at e2
  simp only [List.size_toArray, List.length_map] at this
  omega
theorem pick_rps {W : Wd} {F : Fz} {ts : List T} {vs : Array Value} (q : Rps W F ts vs.toList) (lo hi st : Option Int) : Rps W F (pick ts lo hi st) (slicePick vs lo hi st).toList := by
  have hlen : vs.size = ts.length := by simpa using q.length
  unfold pick slicePick
  rw [hlen]
  generalize sliceRange _ _ _ = is
  show Rps W F _ (is.filterMap (vs[·]?))
  induction is with
  | nil => exact rfl
  | cons i r ih =>
    rw [List.filterMap_cons, List.filterMap_cons]
    cases hi : ts[i]? with
    | none =>
      have : vs[i]? = Option.none := by
        rw [Array.getElem?_eq_none_iff, hlen]; simpa using hi
      rw [this]; exact ih
    | some t =>
      obtain ⟨v, hv, rv⟩ := q.get hi
      have hv' : vs[i]? = some v := by simpa using hv
      rw [hv']; exact ⟨v, _, rfl, rv, ih⟩

theorem sliceObj {h : Heap} {l u st : Value} : (h.push { cls := .type "slice", data := .fields #[l, u, st] }).IsSliceOf h.objs.size l u st := .new ..

theorem Ev.slList {value : Expr} {lo hi : Option Expr} {p pos : Pos} {ts : List T} {a b : Option Int} (h1 : Ev c d value σ (.list ts) σ₁) (h2 : EvP c d lo σ₁ a) (h3 : EvP c d hi σ₁ b) (hz : ts.length ≤ 1000000) :
    Ev c d (.Subscript value (.Slice lo hi Option.none p) pos) σ (.list (pick ts a b Option.none)) σ₁ := fun V s S F =>
  Subscript_ (seq (h1 V s S F) fun V₁ s₁ o E₁ S₁ q₁ => wpAny_Slice (seq (h2 V₁ s₁ S₁ (F.ext E₁)) fun V₂ s₂ vl E₂ S₂ q₂ => seq (h3 V₂ s₂ S₂ (F.ext (E₁.trans E₂))) fun V₃ s₃ vu E₃ S₃ q₃ => by
    refine wpAny_pure ?_
    have r : Rp c.W V₃.F (.list ts) o := (q₁.1.ext E₂ trivial).ext E₃ trivial
    obtain ⟨l, vs, rfl, hl, q⟩ := Rp.listOf S₃ r
    have hlen : vs.size = ts.length := by simpa using q.length
    have hl' : (s₃.heap.push { cls := .type "slice", data := .fields #[vl, vu, .none] }).IsList l vs := hl.push _
    refine tail_any (T := "list") hl'.typeIs slot_list_getitem.lookup (wpAny_getItem_list_slice hl' (sliceObj (h := s₃.heap)) q₂ q₃ .none (by simp) ?_ (by rw [hlen, sizeLine_eq]; omega)) rfl
    refine Pt.up ((E₁.trans E₂).trans E₃) (Pt.all (tk := s₃.toks) S₃ (fun a o e => Heap.get?_push_of_some _ (Heap.get?_push_of_some _ e)) (by rw [Heap.size_push, Heap.size_push]; omega) ⟨⟨_, _, _, 0, rfl, Vw.all_new (by rw [Heap.size_push]; exact Nat.le_succ _) (Heap.get?_push_size _ rfl), rfl, rfl, ?_⟩, trivial⟩)
    exact Rps.mono (Vw.all_sub S₃ _) _ _ (pick_rps q a b Option.none)))
theorem Ev.slListStep {value st : Expr} {lo hi : Option Expr} {p pos : Pos} {ts : List T} {a b : Option Int} {k : Int} (h1 : Ev c d value σ (.list ts) σ₁) (h2 : EvP c d lo σ₁ a) (h3 : EvP c d hi σ₁ b) (h4 : Ev c d st σ₁ (.int k) σ₁) (hk : k ≠ 0) (hz : ts.length ≤ 1000000) :
    Ev c d (.Subscript value (.Slice lo hi (some st) p) pos) σ (.list (pick ts a b (some k))) σ₁ := fun V s S F =>
  Subscript_ (seq (h1 V s S F) fun V₁ s₁ o E₁ S₁ q₁ => wpAny_Slice (seq (h2 V₁ s₁ S₁ (F.ext E₁)) fun V₂ s₂ vl E₂ S₂ q₂ => seq (h3 V₂ s₂ S₂ (F.ext (E₁.trans E₂))) fun V₃ s₃ vu E₃ S₃ q₃ => seq (h4 V₃ s₃ S₃ (F.ext ((E₁.trans E₂).trans E₃))) fun V₄ s₄ vk E₄ S₄ q₄ => by
    obtain ⟨⟨tk, rfl⟩, _⟩ := q₄
    have r : Rp c.W V₄.F (.list ts) o := ((q₁.1.ext E₂ trivial).ext E₃ trivial).ext E₄ trivial
    obtain ⟨l, vs, rfl, hl, q⟩ := Rp.listOf S₄ r
    have hlen : vs.size = ts.length := by simpa using q.length
    have hl' : (s₄.heap.push { cls := .type "slice", data := .fields #[vl, vu, .int k tk] }).IsList l vs := hl.push _
    refine tail_any (T := "list") hl'.typeIs slot_list_getitem.lookup (wpAny_getItem_list_slice hl' (sliceObj (h := s₄.heap)) q₂ q₃ (.int k tk) (by simpa using hk) ?_ (by rw [hlen, sizeLine_eq]; omega)) rfl
    refine Pt.up (((E₁.trans E₂).trans E₃).trans E₄) (Pt.all (tk := s₄.toks) S₄ (fun a o e => Heap.get?_push_of_some _ (Heap.get?_push_of_some _ e)) (by rw [Heap.size_push, Heap.size_push]; omega) ⟨⟨_, _, _, 0, rfl, Vw.all_new (by rw [Heap.size_push]; exact Nat.le_succ _) (Heap.get?_push_size _ rfl), rfl, rfl, ?_⟩, trivial⟩)
    exact Rps.mono (Vw.all_sub S₄ _) _ _ (pick_rps q a b (some k))))
noncomputable def strSl (x : Str) (lo hi : Option Int) : Str :=
  if ((Builtin.Str.strSliceIndices lo hi 1 x.length).length == x.length) = true then x else ⟨((Builtin.Str.strSliceIndices lo hi 1 x.length).filterMap (x.cps[·]?)).toArray⟩
theorem isPart_pv {v : Value} {k : Option Int} (h : IsPart v k) : ∃ p : Option (Int × Tok), v = partValue p ∧ p.map (·.1) = k := by
  cases h with
  | none => exact ⟨Option.none, rfl, rfl⟩
  | int i t => exact ⟨some (i, t), rfl, rfl⟩
theorem Ev.slStr {value : Expr} {lo hi : Option Expr} {p pos : Pos} {x : Str} {a b : Option Int} (h1 : Ev c d value σ (.str x) σ₁) (h2 : EvP c d lo σ₁ a) (h3 : EvP c d hi σ₁ b) (hz : (strSl x a b).length ≤ 1000000) :
    Ev c d (.Subscript value (.Slice lo hi Option.none p) pos) σ (.str (strSl x a b)) σ₁ := fun V s S F =>
  Subscript_ (seq (h1 V s S F) fun V₁ s₁ o E₁ S₁ q₁ => wpAny_Slice (seq (h2 V₁ s₁ S₁ (F.ext E₁)) fun V₂ s₂ vl E₂ S₂ q₂ => seq (h3 V₂ s₂ S₂ (F.ext (E₁.trans E₂))) fun V₃ s₃ vu E₃ S₃ q₃ => by
    refine wpAny_pure ?_
    obtain ⟨⟨t, rfl⟩, _⟩ := q₁
    obtain ⟨pl, rfl, rfl⟩ := isPart_pv q₂
    obtain ⟨pu, rfl, rfl⟩ := isPart_pv q₃
    refine tail_any (T := "str") (typeIs_str _ x t) PySem.F.slot_str_getitem.lookup (wpAny_getItem_str_slice (l := pl) (u := pu) (st := Option.none) ⟨_, Heap.get?_push_size _ rfl, rfl, rfl⟩ rfl ?_) rfl
    have key : ∀ tk t', Pt c.W σ V s σ₁ (fun V' v => XRp c.W V' (.tr (.str (strSl x (pl.map (·.1)) (pu.map (·.1))))) v ∧ True) (.str (strSl x (pl.map (·.1)) (pu.map (·.1))) t') { s₃ with heap := s₃.heap.push { cls := .type "slice", data := .fields #[partValue pl, partValue pu, .none] }, toks := tk } := fun tk t' =>
      Pt.up ((E₁.trans E₂).trans E₃) (Pt.grow S₃ (fun a o e => Heap.get?_push_of_some _ e) (by rw [Heap.size_push]; omega) ⟨⟨_, rfl⟩, trivial⟩)
    unfold sliceMade
    have es : slicePicked x pl pu Option.none = Builtin.Str.strSliceIndices (pl.map (·.1)) (pu.map (·.1)) 1 x.length := rfl
    rw [es]
    by_cases hc : ((Builtin.Str.strSliceIndices (pl.map (·.1)) (pu.map (·.1)) 1 x.length).length == x.length) = true
    · rw [if_pos (by simpa using hc)]
      have e : strSl x (pl.map (·.1)) (pu.map (·.1)) = x := if_pos hc
      have k2 := key s₃.toks t
      rw [e] at k2 ⊢
      exact k2
    · rw [if_neg (by simpa using hc)]
      have e : strSl x (pl.map (·.1)) (pu.map (·.1)) = ⟨((Builtin.Str.strSliceIndices (pl.map (·.1)) (pu.map (·.1)) 1 x.length).filterMap (x.cps[·]?)).toArray⟩ := if_neg hc
      refine ⟨?_, ?_⟩
      · rw [e] at hz; rw [sizeLine_eq]; exact Nat.le_trans hz (by omega)
      · have k2 := key (s₃.toks + 1) s₃.toks
        rw [e] at k2 ⊢
        exact k2))
end
end Mine
-- B5
namespace Mine
structure Itr (W : Wd) (A : Around) (target : Expr) (it : Value) (us : List T) (dep : List MO → Prop) where
  lo : Nat
  base : Nat
  At : Nat → Vw → Nat → Shared → Prop
  frame : ∀ {i : Nat} {V V' : Vw} {σ σ' : List MO} {s s' : Shared}, At i V σ.length s → St0 W V σ s → Ext σ V s σ' V' s' → St0 W V' σ' s' → At i V' σ'.length s'
  less : ∀ {i : Nat} {V : Vw} {n m : Nat} {s : Shared}, At i V n s → m ≤ n → base ≤ m → At i V m s
  item : ∀ {i : Nat} {V : Vw} {σ : List MO} {s : Shared} {t : T}, us[i]? = some t → dep σ → St0 W V σ s → At i V σ.length s →
    wpAny W.M A (pyNext it) (fun r s₁ => ∃ v, r = some v ∧ wpAny W.M A (letOwnedTupleGo target it v) (fun _ s₂ => ∃ V₂, ExtB lo σ V s σ V₂ s₂ ∧ St0 W V₂ σ s₂ ∧ At (i + 1) V₂ σ.length s₂ ∧ Rp W V₂.F t v) NoE s₁) NoE s
  done : ∀ {V : Vw} {σ : List MO} {s : Shared}, dep σ → St0 W V σ s → At us.length V σ.length s → wpAny W.M A (pyNext it) (fun r s₁ => r = none ∧ ∃ V₁, ExtB lo σ V s σ V₁ s₁ ∧ St0 W V₁ σ s₁) NoE s
  self : ∀ {i : Nat} {V : Vw} {n : Nat} {s : Shared} {Q : Value → Shared → Prop}, At i V n s → Q it s → wpAny W.M A (pyIter it) Q NoE s

structure KT (W : Wd) (A : Around) (target : Expr) (I : Addr) (fp wr : List Addr) (n : Nat) (P Md : Nat → Nat → Value → Heap → Prop) (St : Nat → Heap → Prop) : Prop where
  sub : ∀ b ∈ wr, b ∈ fp
  ex : ∀ i h, St i h → ∀ b ∈ wr, ∃ o, h.get? b = some o
  frame : ∀ i h h', St i h → (∀ b ∈ fp, ∀ o, h.get? b = some o → h'.get? b = some o) → St i h'
  item : ∀ i (s : Shared) (Q : Option Value → Shared → Prop), i < n → St i s.heap →
    (∀ v h' tk, Md i s.heap.objs.size v h' → (∀ b o, b ∉ wr → s.heap.get? b = some o → h'.get? b = some o) → Q (some v) { s with heap := h', toks := tk }) → wpAny W.M A (pyNext (.ref I)) Q NoE s
  go : ∀ i z v (s : Shared) (Q : Unit → Shared → Prop), Md i z v s.heap →
    (∀ h', P i z v h' → St (i + 1) h' → (∀ b o, b ∉ wr → s.heap.get? b = some o → h'.get? b = some o) → Q () { s with heap := h' }) → wpAny W.M A (letOwnedTupleGo target (.ref I) v) Q NoE s
  done : ∀ (s : Shared) (Q : Option Value → Shared → Prop), St n s.heap →
    (∀ h' tk, (∀ b o, b ∉ wr → s.heap.get? b = some o → h'.get? b = some o) → Q none { s with heap := h', toks := tk }) → wpAny W.M A (pyNext (.ref I)) Q NoE s
  self : ∀ i (s : Shared) (Q : Value → Shared → Prop), St i s.heap → Q (.ref I) s → wpAny W.M A (pyIter (.ref I)) Q NoE s

noncomputable def Safe (V : Vw) (n : Nat) (b : Addr) : Prop := (∃ o, V.F b = some o) ∨ ∀ k, k < n → b ≠ V.ad k
structure AtKT (fp wr : List Addr) (St : Nat → Heap → Prop) (Inv : Vw → Prop) (i : Nat) (V : Vw) (n : Nat) (s : Shared) : Prop where
  st : St i s.heap
  fp : ∀ b ∈ fp, (∃ o, s.heap.get? b = some o) ∧ Safe V n b
  wr : ∀ b ∈ wr, V.F b = none ∧ ∀ k, k < n → b ≠ V.ad k
  inv : Inv V

theorem AtKT.frame {W : Wd} {A : Around} {target : Expr} {I : Addr} {fp wr : List Addr} {n : Nat} {P Md : Nat → Nat → Value → Heap → Prop} {St : Nat → Heap → Prop} {Inv : Vw → Prop} (K : KT W A target I fp wr n P Md St)
    (hI : ∀ V V' : Vw, (∀ a o, V.F a = some o → V'.F a = some o) → Inv V → Inv V') {i : Nat} {V V' : Vw} {σ σ' : List MO} {s s' : Shared} (h : AtKT fp wr St Inv i V σ.length s) (S : St0 W V σ s) (E : Ext σ V s σ' V' s') (S' : St0 W V' σ' s') :
    AtKT fp wr St Inv i V' σ'.length s' := by
  have kp : ∀ b, Safe V σ.length b → ∀ o, s.heap.get? b = some o → s'.heap.get? b = some o := fun b hs o e => by
    rcases hs with ⟨o', e'⟩ | hs
    · have q := S.keep b o' e'
      rw [e] at q; cases q
      exact S'.keep b o (E.F b o e')
    · exact E.kept b o hs e
  have sf : ∀ b, (∃ o, s.heap.get? b = some o) → Safe V σ.length b → Safe V' σ'.length b := fun b ⟨o, e⟩ hs => by
    rcases hs with ⟨o', e'⟩ | hs
    · exact .inl ⟨o', E.F b o' e'⟩
    · refine .inr fun k hk q => ?_
      by_cases h' : k < σ.length
      · exact hs k h' (q.trans (E.ad k h'))
      · have := E.fresh k (Nat.not_lt.mp h') hk
        rw [← q] at this
        exact absurd (Heap.lt_size e) (Nat.not_lt.mpr this)
  refine ⟨K.frame i _ _ h.st fun b hb o e => kp b (h.fp b hb).2 o e, fun b hb => ?_, fun b hb => ?_, hI V V' E.F h.inv⟩
  · obtain ⟨⟨o, e⟩, hs⟩ := h.fp b hb
    exact ⟨⟨o, kp b hs o e⟩, sf b ⟨o, e⟩ hs⟩
  · obtain ⟨hF, hk⟩ := h.wr b hb
    obtain ⟨⟨o, e⟩, _⟩ := h.fp b (K.sub b hb)
    refine ⟨?_, fun k hk' q => ?_⟩
    · cases q : V'.F b with
      | none => rfl
      | some o' =>
        rcases E.new b o' q with x | x | ⟨k, x, y⟩
        · rw [hF] at x; cases x
        · exact absurd (Heap.lt_size e) (Nat.not_lt.mpr x)
        · exact absurd y (hk k x)
    · by_cases h' : k < σ.length
      · exact hk k h' (q.trans (E.ad k h'))
      · have := E.fresh k (Nat.not_lt.mp h') hk'
        rw [← q] at this
        exact absurd (Heap.lt_size e) (Nat.not_lt.mpr this)

theorem St0.beside {W : Wd} {V : Vw} {σ : List MO} {s s' : Shared} {wr : List Addr} (S : St0 W V σ s) (hw : ∀ b ∈ wr, V.F b = Option.none ∧ ∀ k, k < σ.length → b ≠ V.ad k)
    (hk : ∀ b o, b ∉ wr → s.heap.get? b = some o → s'.heap.get? b = some o) (hl : s.heap.objs.size ≤ s'.heap.objs.size) (hg : s'.gens = s.gens) (ho : s'.os = s.os) : St0 W V σ s' where
  keep := fun a o e => hk a o (fun h => by rw [(hw a h).1] at e; cases e) (S.keep a o e)
  base := S.base
  led := fun k mo e => (S.led k mo e).mono (fun o => hk _ o fun h => (hw _ h).2 k (List.getElem?_eq_some_iff.mp e).1 rfl) (fun _ _ e => e) (S.fit k mo e) fun _ _ => rfl
  inj := S.inj
  out := S.out
  bnd := fun k h => Nat.lt_of_lt_of_le (S.bnd k h) hl
  fit := S.fit
  gen := hg ▸ S.gen
  os := ho ▸ S.os

theorem St0.moreF {W : Wd} {V : Vw} {σ : List MO} {s : Shared} {n : Nat} (S : St0 W V σ s) (hn : ∀ k, k < σ.length → V.ad k < n) {F' : Fz} (h1 : ∀ a o, V.F a = some o → F' a = some o)
    (h2 : ∀ a o, F' a = some o → V.F a = some o ∨ (n ≤ a ∧ s.heap.get? a = some o)) : St0 W ⟨F', V.ad⟩ σ s where
  keep := fun a o e => (h2 a o e).elim (S.keep a o) fun h => h.2
  base := fun a o e => h1 a o (S.base a o e)
  led := fun k mo e => (S.led k mo e).mono (V' := ⟨F', V.ad⟩) (fun _ e => e) h1 (S.fit k mo e) fun _ _ => rfl
  inj := S.inj
  out := fun k mo e hv => by
    cases q : F' (V.ad k) with
    | none => exact q
    | some o =>
      rcases h2 _ o q with x | x
      · rw [S.out k mo e hv] at x; cases x
      · exact absurd (hn k (List.getElem?_eq_some_iff.mp e).1) (Nat.not_lt.mpr x.1)
  bnd := S.bnd
  fit := S.fit
  gen := S.gen
  os := S.os

noncomputable def mkItr {W : Wd} {A : Around} {target : Expr} {I : Addr} {fp wr : List Addr} {n : Nat} {P Md : Nat → Nat → Value → Heap → Prop} {St : Nat → Heap → Prop} (K : KT W A target I fp wr n P Md St) (us : List T) (hn : us.length = n) (lo : Nat) (hlo : ∀ b ∈ wr, lo ≤ b) (Inv : Vw → Prop)
    (hI : ∀ V V' : Vw, (∀ a o, V.F a = some o → V'.F a = some o) → Inv V → Inv V')
    (hP : ∀ (i : Nat) (V : Vw) (z : Nat) (v : Value) (h : Heap) (t : T), us[i]? = some t → Inv V → P i z v h → (∀ a o, V.F a = some o → a < z) → (∀ a o, V.F a = some o → h.get? a = some o) →
      ∃ F' : Fz, (∀ a o, V.F a = some o → F' a = some o) ∧ (∀ a o, F' a = some o → V.F a = some o ∨ (z ≤ a ∧ h.get? a = some o)) ∧ Rp W F' t v) :
    Itr W A target (.ref I) us (fun _ => True) where
  lo := lo
  base := 0
  At := AtKT fp wr St Inv
  frame := fun h S E S' => h.frame K hI S E S'
  less := fun h hm _ => ⟨h.st, fun b hb => ⟨(h.fp b hb).1, (h.fp b hb).2.imp id fun x k hk => x k (Nat.lt_of_lt_of_le hk hm)⟩, fun b hb => ⟨(h.wr b hb).1, fun k hk => (h.wr b hb).2 k (Nat.lt_of_lt_of_le hk hm)⟩, h.inv⟩
  item := fun {i V σ s t} ht _ S h => by
    have hi : i < n := by rw [← hn]; exact (List.getElem?_eq_some_iff.mp ht).1
    refine wpAny_size (K.item i s _ hi h.st fun v h₁ tk hMd hk₁ hz₁ => ⟨v, rfl, wpAny_size (K.go i _ v _ _ hMd fun h₂ hP' hst hk₂ hz₂ => ?_)⟩)
    have hz₁' : s.heap.objs.size ≤ h₁.objs.size := hz₁
    have hz₂' : h₁.objs.size ≤ h₂.objs.size := hz₂
    have hk : ∀ b o, b ∉ wr → s.heap.get? b = some o → h₂.get? b = some o := fun b o hb e => hk₂ b o hb (hk₁ b o hb e)
    have S₂ : St0 W V σ { s with heap := h₂, toks := tk } := S.beside h.wr hk (Nat.le_trans hz₁' hz₂') rfl rfl
    obtain ⟨F', f1, f2, r⟩ := hP i V s.heap.objs.size v h₂ t ht h.inv hP' (fun a o e => S.old e) (fun a o e => S₂.keep a o e)
    refine ⟨⟨F', V.ad⟩, ⟨f1, fun a o e => (f2 a o e).elim .inl fun x => .inr (.inl x.1), fun _ _ => rfl, fun a o ha _ e => hk a o (fun hb => absurd ha (Nat.not_lt.mpr (hlo a hb))) e, fun k x y => absurd y (Nat.not_lt.mpr x), Nat.le_trans hz₁' hz₂', Nat.le_refl _⟩,
      S₂.moreF (fun k hk => S.bnd k hk) f1 f2, ⟨hst, fun b hb => ?_, fun b hb => ?_, hI V _ f1 h.inv⟩, r⟩
    · obtain ⟨⟨o, e⟩, hs⟩ := h.fp b hb
      refine ⟨?_, hs.imp (fun ⟨o', e'⟩ => ⟨o', f1 b o' e'⟩) id⟩
      by_cases hw : b ∈ wr
      · exact K.ex _ _ hst b hw
      · exact ⟨o, hk b o hw e⟩
    · obtain ⟨hF, hk'⟩ := h.wr b hb
      obtain ⟨⟨o, e⟩, _⟩ := h.fp b (K.sub b hb)
      refine ⟨?_, hk'⟩
      cases q : F' b with
      | none => exact q
      | some o' =>
        rcases f2 b o' q with x | x
        · rw [hF] at x; cases x
        · exact absurd (Heap.lt_size e) (Nat.not_lt.mpr x.1)
  done := fun {V σ s} _ S h => by
    refine wpAny_size (K.done s _ (hn ▸ h.st) fun h₁ tk hk₁ hz₁ => ⟨rfl, V, ⟨fun _ _ e => e, fun _ _ e => .inl e, fun _ _ => rfl, fun a o ha _ e => hk₁ a o (fun hb => absurd ha (Nat.not_lt.mpr (hlo a hb))) e, fun k x y => absurd y (Nat.not_lt.mpr x), hz₁, Nat.le_refl _⟩, S.beside h.wr hk₁ hz₁ rfl rfl⟩)
  self := fun h hQ => K.self _ _ _ h.st hQ
theorem letGo_other {W : Wd} {A : Around} {target : Expr} {I : Addr} {v : Value} {s : Shared} {Q : Unit → Shared → Prop} {o : Obj} {n : String} (ho : s.heap.get? I = some o) (hc : o.cls = .type n)
    (hn : (["enumerate", "zip", "dict_itemiterator", "dict_reverseitemiterator", "odict_iterator", "itertools.zip_longest", "itertools.pairwise"] : List String).contains n = false) (hQ : Q () s) : wpAny W.M A (letOwnedTupleGo target (.ref I) v) Q NoE s := by
  have key : ∀ a, v = .ref a → wpAny W.M A (do
      let o ← load I
      match o.cls, o.data with
      | .type n, .fields vs =>
        if ["enumerate", "zip", "dict_itemiterator", "dict_reverseitemiterator", "odict_iterator", "itertools.zip_longest", "itertools.pairwise"].contains n && vs[0]? == some (rawInt a) then
          rule "for.unpacks-the-owned-tuple"
          updateField I 0 .none
      | _, _ => pure ()) Q NoE s := fun a _ => by
    refine wpAny_bind (wpAny_load ho ?_)
    rw [hc]
    split
    · rename_i q _
      cases q
      rw [hn]
      exact wpAny_pure hQ
    · exact wpAny_pure hQ
  unfold letOwnedTupleGo
  split
  · cases v <;> first | exact wpAny_pure hQ | exact key _ rfl
  · cases v <;> first | exact wpAny_pure hQ | exact key _ rfl
  · exact wpAny_pure hQ

theorem KT.ofWalks {W : Wd} {A : Around} {target : Expr} {I : Addr} {fp wr : List Addr} {n : Nat} {P : Nat → Value → Prop} {St : Nat → Heap → Prop} (K : Walks W.prog W.w A I fp wr n P St)
    (hex : ∀ i h, St i h → ∀ b ∈ wr, ∃ o, h.get? b = some o)
    (hgo : ∀ i h, St i h → ∃ o nm, h.get? I = some o ∧ o.cls = .type nm ∧ (["enumerate", "zip", "dict_itemiterator", "dict_reverseitemiterator", "odict_iterator", "itertools.zip_longest", "itertools.pairwise"] : List String).contains nm = false) :
    KT W A target I fp wr n (fun i _ v _ => P i v) (fun i _ v h => P i v ∧ St (i + 1) h) St where
  sub := K.sub
  ex := hex
  frame := K.frame
  item := fun i s Q hi st hQ => K.item i s Q _ hi st fun v h' tk hP st' hk => hQ v h' tk ⟨hP, st'⟩ hk
  go := fun i z v s Q hm hQ => by
    obtain ⟨o, nm, h1, h2, h3⟩ := hgo _ _ hm.2
    exact letGo_other h1 h2 h3 (hQ s.heap hm.1 hm.2 fun _ _ _ e => e)
  done := fun s Q st hQ => K.done s Q _ st hQ
  self := fun i s Q st hQ => K.self i s Q _ st hQ

theorem KT.ofWalksT {W : Wd} {A : Around} {elts : List Expr} {k : Nat} {pos : Pos} {I : Addr} {fp wr : List Addr} {n : Nat} {Pt : Nat → Array Value → Prop} {St : Nat → Heap → Prop} {Mid : Nat → Addr → Heap → Prop} (K : WalksT W.prog W.w A I fp wr n Pt St Mid)
    (hex : ∀ i h, St i h → ∀ b ∈ wr, ∃ o, h.get? b = some o) :
    KT W A (.Tuple elts k pos) I fp wr n (fun i z v h => ∃ T vals, v = .ref T ∧ z ≤ T ∧ Pt i vals ∧ h.IsTuple T vals) (fun i z v h => ∃ T vals, v = .ref T ∧ z ≤ T ∧ Pt i vals ∧ h.IsTuple T vals ∧ Mid i T h) St where
  sub := K.sub
  ex := hex
  frame := K.frame
  item := fun i s Q hi st hQ => K.item i s Q _ hi st fun T vals h' tk hP hz hT hm hk => hQ (.ref T) h' tk ⟨T, vals, rfl, hz, hP, hT, hm⟩ hk
  go := fun i z v s Q hm hQ => by
    obtain ⟨T, vals, rfl, hz, hP, hT, hm⟩ := hm
    exact K.go elts k pos i T s Q _ hm fun h' st hk => hQ h' ⟨T, vals, rfl, hz, hP, hT.at fun o e => hk T o (K.apart i T _ hm) e⟩ st hk
  done := fun s Q st hQ => K.done s Q _ st hQ
  self := fun i s Q st hQ => K.self i s Q _ st hQ

noncomputable def Src (c : Cx) (d : Sd) (target e : Expr) (σ : List MO) (us : List T) (dep : List MO → Prop) (σ₁ : List MO) : Prop :=
  ∀ V s, St0 c.W V σ s → Fo c d V σ.length → wpAny c.W.M c.A (eval e c.env) (fun x s₁ => wpAny c.W.M c.A (pyIter x) (fun it s₂ => ∃ (V₂ : Vw) (I : Itr c.W c.A target it us dep), s.heap.objs.size ≤ I.lo ∧ I.base ≤ σ₁.length ∧ Ext σ V s σ₁ V₂ s₂ ∧ St0 c.W V₂ σ₁ s₂ ∧ I.At 0 V₂ σ₁.length s₂) NoE s₁) NoE s

section
variable {c : Cx} {d : Sd} {σ σ₁ σ₂ : List MO} {target : Expr}

theorem keepF {W : Wd} {F F' : Fz} (h : ∀ a o, F a = some o → F' a = some o) {ts : List T} {vs : List Value} (r : Rps W F ts vs) : Rps W F' ts vs := Rps.mono h ts vs r

theorem Src.list {e : Expr} {ts : List T} (h : Ev c d e σ (.list ts) σ₁) : Src c d target e σ ts (fun _ => True) σ₁ := fun V s S F =>
  seq (h V s S F) fun V₁ s₁ x E₁ S₁ q₁ => by
    obtain ⟨a, o, vs, n, rfl, e2, e3, e4, q⟩ := q₁.1
    have hl : s₁.heap.IsList a vs := ⟨o, S₁.keep _ _ e2, by rw [e3], n, e4⟩
    have hal : a < s₁.heap.objs.size := S₁.old e2
    refine wpAny_pyIter_list hl ?_
    have hlen : ts.length = vs.size := by simpa using q.length.symm
    have W := Walks.list (prog := c.W.prog) (w := c.W.w) c.hA.1 s₁.heap.objs.size a (Nat.ne_of_lt hal) vs
    have g := S₁.grow (s' := { s₁ with heap := s₁.heap.push { cls := .type "list_iterator", data := .fields #[.ref a, .int 0 0] } }) (fun a o e => Heap.get?_push_of_some _ e) (by show _ ≤ (s₁.heap.push _).objs.size; rw [Heap.size_push]; exact Nat.le_succ _) rfl rfl
    refine ⟨V₁, mkItr (KT.ofWalks W (fun i h st b hb => ?_) (fun i h st => ?_)) ts hlen s₁.heap.objs.size (fun b hb => ?_) (fun V => Rps c.W V.F ts vs.toList) (fun V V' h r => keepF h r) (fun i V z v h t ht r hP _ _ => ?_), E₁.len, Nat.zero_le _, E₁.trans g.2, g.1, ?_⟩
    · obtain ⟨o, ho, _⟩ := st.1
      rw [List.mem_singleton.mp hb]; exact ⟨o, ho⟩
    · obtain ⟨o, ho, hc, _⟩ := st.1
      exact ⟨o, _, ho, hc, by decide⟩
    · rw [List.mem_singleton.mp hb]; exact Nat.le_refl _
    · obtain ⟨u, hu, ru⟩ := Rps.get r ht
      have : u = v := by have hP' : vs[i]? = some v := hP; simp at hu; rw [hP'] at hu; exact (Option.some.inj hu).symm
      exact ⟨V.F, fun _ _ e => e, fun _ _ e => .inl e, this ▸ ru⟩
    · refine ⟨⟨⟨_, Heap.get?_push_size _ rfl, rfl, rfl⟩, hl.push _⟩, fun b hb => ?_, fun b hb => ?_, q⟩
      · rcases List.mem_cons.mp hb with rfl | hb
        · exact ⟨⟨_, Heap.get?_push_size _ rfl⟩, .inr fun k hk e => absurd (S₁.bnd k hk) (by rw [← e]; exact Nat.lt_irrefl _)⟩
        · rw [List.mem_singleton.mp hb]; exact ⟨⟨o, Heap.get?_push_of_some _ (S₁.keep _ _ e2)⟩, .inl ⟨o, e2⟩⟩
      · rw [List.mem_singleton.mp hb]
        exact ⟨S₁.none (Nat.le_refl _), fun k hk e => absurd (S₁.bnd k hk) (by rw [← e]; exact Nat.lt_irrefl _)⟩
end
end Mine
-- B6
namespace Mine
theorem assignTup {W : Wd} {A : Around} {s : Shared} {env : Env} {elts : List Expr} {x1} {pos : Pos} {t : Addr} {items : Array Value} {Q : Unit → Shared → Prop} (hh : A.handled = none) (ht : s.heap.IsTuple t items)
    (hn : (assignEach elts env).length = items.size) (hstar : (assignEach elts env).findIdx? (·.1) = none)
    (h : ∀ h', Heap.ExtBut s.heap.objs.size s.heap h' → s.heap.objs.size ≤ h'.objs.size → wpAny W.M A (assignInOrder ((assignEach elts env).map (·.2)) items.toList) Q NoE { s with heap := h' }) :
    wpAny W.M A (assign (.Tuple elts x1 pos) env (.ref t)) Q NoE s := by
  rw [arm_assign_Tuple]
  refine wpAny_bind (wpAny_standAt ?_)
  unfold unpack
  rw [hn, hstar]
  exact wpAny_bind (wpAny_holding (wpAny_size (wpAny_unpackItems_tuple hh ht fun h' he hz => h h' he hz)))

inductive Out where
  | nxt (σ : List MO)
  | ret (x : X) (σ : List MO)
  | brk (σ : List MO)
  | cnt (σ : List MO)
noncomputable def Flw (W : Wd) (V : Vw) (σ : List MO) (Q : Out → Prop) : Flow → Prop
  | .next => Q (.nxt σ)
  | .cont => Q (.cnt σ)
  | .brk => Q (.brk σ)
  | .ret v => ∃ x, XRp W V x v ∧ x.fits σ.length ∧ Q (.ret x σ)
noncomputable def PQ (W : Wd) (σ : List MO) (V : Vw) (s : Shared) (Q : Out → Prop) : Flow → Shared → Prop := fun f s' => ∃ σ' V', Ext σ V s σ' V' s' ∧ St0 W V' σ' s' ∧ Flw W V' σ' Q f
noncomputable def Ex (c : Cx) (d : Sd) (ss : List Stmt) (σ : List MO) (Q : Out → Prop) : Prop :=
  ∀ V s, St0 c.W V σ s → Fo c d V σ.length → wpAny c.W.M c.A (execs ss c.env) (PQ c.W σ V s Q) NoE s
noncomputable def Ex1 (c : Cx) (d : Sd) (st : Stmt) (σ : List MO) (Q : Out → Prop) : Prop :=
  ∀ V s, St0 c.W V σ s → Fo c d V σ.length → wpAny c.W.M c.A (exec st c.env) (PQ c.W σ V s Q) NoE s
noncomputable def Then (c : Cx) (d : Sd) (rest : List Stmt) (Q : Out → Prop) : Out → Prop
  | .nxt σ => Ex c d rest σ Q
  | o => Q o

theorem PQ.up {W : Wd} {σ σ₁ : List MO} {V V₁ : Vw} {s s₁ s' : Shared} {Q : Out → Prop} {f : Flow} (E : Ext σ V s σ₁ V₁ s₁) (h : PQ W σ₁ V₁ s₁ Q f s') : PQ W σ V s Q f s' :=
  let ⟨σ', V', E', S', q⟩ := h; ⟨σ', V', E.trans E', S', q⟩
theorem laterQ {W : Wd} {A : Around} {σ σ₁ : List MO} {V V₁ : Vw} {s s₁ : Shared} {Q : Out → Prop} {m : Sem Flow} (E : Ext σ V s σ₁ V₁ s₁) (h : wpAny W.M A m (PQ W σ₁ V₁ s₁ Q) NoE s₁) : wpAny W.M A m (PQ W σ V s Q) NoE s₁ :=
  wpAny_mono h (fun _ _ p => PQ.up E p) fun _ _ e => e
section
variable {c : Cx} {d : Sd} {σ σ₁ σ₂ σ₃ : List MO} {Q Q' : Out → Prop}

theorem Ex.nil (h : Q (.nxt σ)) : Ex c d [] σ Q := fun V s S F => wpAny_execs_nil ⟨σ, V, .refl .., S, h⟩
theorem Ex.cons {st : Stmt} {rest : List Stmt} (h : Ex1 c d st σ (Then c d rest Q)) : Ex c d (st :: rest) σ Q := fun V s S F =>
  wpAny_execs_cons (wpAny_mono (h V s S F) (fun f s' ⟨σ', V', E, S', q⟩ => by
    cases f with
    | next => exact laterQ E (q V' s' S' (F.ext E))
    | cont => exact ⟨σ', V', E, S', q⟩
    | brk => exact ⟨σ', V', E, S', q⟩
    | ret v => exact ⟨σ', V', E, S', q⟩) fun _ _ e => e)

noncomputable def Stp (σ σ' : List MO) : Prop := ∀ (W : Wd) (V : Vw) (s : Shared), St0 W V σ s → ∃ V', Ext σ V s σ' V' s ∧ St0 W V' σ' s
theorem Stp.refl : Stp σ σ := fun W V s S => ⟨V, .refl .., S⟩
theorem Ex.stp {ss : List Stmt} (h : Stp σ σ₁) (hx : Ex c d ss σ₁ Q) : Ex c d ss σ Q := fun V s S F => by
  obtain ⟨V₁, E₁, S₁⟩ := h c.W V s S
  exact laterQ E₁ (hx V₁ s S₁ (F.ext E₁))
inductive PutN : List (Str × X) → Str → X → List (Str × X) → Prop
  | here {n : Str} {x y : X} {r : List (Str × X)} : PutN ((n, y) :: r) n x ((n, x) :: r)
  | there {p : Str × X} {n : Str} {x : X} {r r' : List (Str × X)} : PutN r n x r' → PutN (p :: r) n x (p :: r')
inductive PutL : List MO → Nat → MO → MO → List MO → Prop
  | here {a b : MO} {r : List MO} : PutL (a :: r) 0 a b (b :: r)
  | there {p a b : MO} {k : Nat} {r r' : List MO} : PutL r k a b r' → PutL (p :: r) (k + 1) a b (p :: r')
theorem PutL.get {k : Nat} {a b : MO} (h : PutL σ k a b σ') : σ[k]? = some a := by
  induction h with
  | here => rfl
  | there _ ih => simpa using ih
theorem PutL.set {k : Nat} {a b : MO} (h : PutL σ k a b σ') : σ' = σ.set k b := by
  induction h with
  | here => rfl
  | there _ ih => rw [ih]; rfl
theorem PutN.names {m m' : List (Str × X)} {n : Str} {x : X} (h : PutN m n x m') : m'.map (·.1) = m.map (·.1) := by
  induction h with
  | here => rfl
  | there _ ih => rw [List.map_cons, List.map_cons, ih]
theorem PutN.mem {m m' : List (Str × X)} {n : Str} {x : X} (h : PutN m n x m') (hn : (m.map (·.1)).Nodup) : ∀ p ∈ m', (p = (n, x)) ∨ (p.1 ≠ n ∧ p ∈ m) := by
  induction h with
  | here =>
    intro p hp
    rw [List.map_cons, List.nodup_cons] at hn
    rcases List.mem_cons.mp hp with rfl | hp
    · exact .inl rfl
    · exact .inr ⟨fun e => hn.1 (e ▸ List.mem_map.mpr ⟨p, hp, rfl⟩), .tail _ hp⟩
  | there hh ih =>
    intro p hp
    rw [List.map_cons, List.nodup_cons] at hn
    rcases List.mem_cons.mp hp with rfl | hp
    · refine .inr ⟨fun e => hn.1 ?_, .head _⟩
      rw [← hh.names, e]
      clear ih hn hp e
      induction hh with
      | here => exact .head _
      | there _ ih => exact .tail _ ih
    · rcases ih hn.2 p hp with h | h
      · exact .inl h
      · exact .inr ⟨h.1, .tail _ h.2⟩

noncomputable def AsV (c : Cx) (d : Sd) (target : Expr) (σ : List MO) (x : X) (σ' : List MO) : Prop :=
  ∀ V s v, St0 c.W V σ s → Fo c d V σ.length → XRp c.W V x v → x.fits σ.length → wpAny c.W.M c.A (assign target c.env v) (Pt c.W σ V s σ' fun _ _ => True) NoE s
noncomputable def StN (c : Cx) (d : Sd) (n : Str) (σ : List MO) (x : X) (σ' : List MO) : Prop :=
  ∀ V s v, St0 c.W V σ s → Fo c d V σ.length → XRp c.W V x v → x.fits σ.length → wpAny c.W.M c.A (storeName c.env n v) (Pt c.W σ V s σ' fun _ _ => True) NoE s
theorem StN.loc {n : Str} {x : X} {m m' : List (Str × X)} (hs : (n, Slot.loc) ∈ d.tab) (hl : PutL σ d.cur (.ns m) (.ns m') σ₁) (hm : PutN m n x m') : StN c d n σ x σ₁ := fun V s v S F r hf => by
  obtain ⟨f, hn, nd, hq⟩ := S.led _ _ hl.get
  have hcur : c.env.locals = V.ad d.cur := F.loc
  refine wpAny_size (wpAny_storeName_local (F.tab _ hs) (by rw [hcur]; exact hn) (fun h' hn' hs' hz => ?_) (by rw [c.hk]; rfl))
  rw [hcur] at hn' hs'
  have z := S.upd (s' := { s with heap := h', toks := s.toks + 1 }) hl.get rfl (fun a o ha e => hs'.extBut a o ha e) hz (mo' := .ns m') ⟨_, hn', hm.names ▸ nd, fun p hp => ?_⟩ (fun p hp => ?_) rfl rfl
  · rw [hl.set]; exact ⟨V, z.2, z.1, trivial⟩
  · rcases hm.mem nd p hp with rfl | ⟨hne, hp⟩
    · simp only [if_pos]; exact ORp_of r
    · rw [if_neg hne]; exact hq p hp
  · rcases hm.mem nd p hp with rfl | ⟨hne, hp⟩
    · exact hf
    · exact S.fit _ _ hl.get p hp
theorem StN.cel {n : Str} {x y : X} {k : Nat} (hs : (n, Slot.cel k) ∈ d.tab) (hl : PutL σ k (.cell y) (.cell x) σ₁) : StN c d n σ x σ₁ := fun V s v S F r hf => by
  obtain ⟨u, hv, hq⟩ := S.led _ _ hl.get
  obtain ⟨h1, h2, _⟩ := F.tab _ hs
  refine wpAny_size (wpAny_storeName_cell c.hk h1 h2 hv (fun h' hc' hs' hz => ?_))
  have z := S.upd (s' := { s with heap := h' }) hl.get rfl (fun a o ha e => hs'.extBut a o ha e) hz (mo' := .cell x) ⟨_, hc', ORp_of r⟩ hf rfl rfl
  rw [hl.set]; exact ⟨V, z.2, z.1, trivial⟩
theorem AsV.name {n : Str} {pos : Pos} {x : X} (h : StN c d n σ x σ₁) : AsV c d (.Name n pos) σ x σ₁ := fun V s v S F r hf => wpAny_assign_Name (h V s v S F r hf)
theorem AsV.tup2 {a b : Expr} {k : Nat} {pos : Pos} {t u : T} (h1 : AsV c d a σ (.tr t) σ₁) (h2 : AsV c d b σ₁ (.tr u) σ₂) (ha : assignEach [a, b] c.env = [(false, assign a c.env), (false, assign b c.env)] := by rfl) :
    AsV c d (.Tuple [a, b] k pos) σ (.tr (.tup [t, u])) σ₂ := fun V s v S F r _ => by
  obtain ⟨l, vs, rfl, hl, q⟩ := Rp.tupOf S r
  obtain ⟨v₁, r₁, e₁, q₁, v₂, r₂, e₂, q₂, e₃⟩ := q
  rw [show r₂ = [] from e₃] at e₂
  rw [e₂] at e₁
  have hsz : vs.size = 2 := by have := congrArg List.length e₁; simpa using this
  refine assignTup (s := s) c.hA.1 hl (by rw [ha, hsz]; rfl) (by rw [ha]; rfl) fun h' he hz => ?_
  have g := S.grow (s' := { s with heap := h' }) (fun a o e => he a o (Nat.ne_of_lt (Heap.lt_size e)) e) hz rfl rfl
  rw [ha, e₁]
  show wpAny _ _ (do holding [v₂] (assign a c.env v₁); assignInOrder [assign b c.env] [v₂]) _ _ _
  refine wpAny_bind (wpAny_holding (seq (h1 V _ v₁ g.1 F q₁ trivial) fun V₁ s₁ _ E₁ S₁ _ => ?_))
  have E₂ := g.2.trans E₁
  show wpAny _ _ (do holding [] (assign b c.env v₂); assignInOrder [] []) _ _ _
  refine wpAny_bind (wpAny_holding (seq (h2 V₁ s₁ v₂ S₁ (F.ext E₂) (Rp.mono E₂.F u v₂ q₂) trivial) fun V₂ s₂ _ E₃ S₂ _ => wpAny_pure ⟨V₂, E₂.trans E₃, S₂, trivial⟩))
end
end Mine
-- B7
namespace Mine
section
variable {c : Cx} {d : Sd} {σ σ₁ σ₂ σ₃ σ₄ : List MO} {Q Q' : Out → Prop}

inductive WkX : X → X → Prop
  | eq {x y : X} : x = y → WkX x y
  | any {x : X} : WkX x .any
inductive WkN : List (Str × X) → List (Str × X) → Prop
  | nil : WkN [] []
  | cons {n : Str} {x y : X} {r r' : List (Str × X)} : WkX x y → WkN r r' → WkN ((n, x) :: r) ((n, y) :: r')
inductive WkM : MO → MO → Prop
  | eq {a b : MO} : a = b → WkM a b
  | ns {m m' : List (Str × X)} : WkN m m' → WkM (.ns m) (.ns m')
  | cell {x y : X} : WkX x y → WkM (.cell x) (.cell y)
  | dead {a : MO} : WkM a .dead
inductive WkL : List MO → List MO → Prop
  | nil {r : List MO} : WkL r []
  | cons {a b : MO} {r r' : List MO} : WkM a b → WkL r r' → WkL (a :: r) (b :: r')
noncomputable def X.fitsB (n : Nat) : X → Bool
  | .mt k => decide (k < n)
  | _ => true
noncomputable def MO.fitsB (n : Nat) : MO → Bool
  | .cell x => x.fitsB n
  | .ns m => m.all fun p => p.2.fitsB n
  | _ => true
theorem X.fits_of {n : Nat} {x : X} (h : x.fitsB n = true) : x.fits n := by
  cases x with
  | mt k => exact of_decide_eq_true (p := k < n) h
  | any => trivial
  | tr t => trivial
theorem MO.fits_of {n : Nat} {a : MO} (h : a.fitsB n = true) : a.fits n := by
  cases a <;> first | trivial | exact X.fits_of h | exact fun p hp => X.fits_of (List.all_eq_true.mp h p hp)
theorem WkX.orp {W : Wd} {V : Vw} {x y : X} {o : Option Value} (h : WkX x y) (r : ORp W V x o) : ORp W V y o := by
  cases h with
  | eq e => exact e ▸ r
  | any => trivial
theorem WkN.names {m m' : List (Str × X)} (h : WkN m m') : m'.map (·.1) = m.map (·.1) := by
  induction h with
  | nil => rfl
  | cons _ _ ih => rw [List.map_cons, List.map_cons, ih]
theorem WkN.orp {W : Wd} {V : Vw} {f : Str → Option Value} {m m' : List (Str × X)} (h : WkN m m') (r : ∀ p ∈ m, ORp W V p.2 (f p.1)) : ∀ p ∈ m', ORp W V p.2 (f p.1) := by
  induction h with
  | nil => exact r
  | cons h _ ih =>
    intro p hp
    rcases List.mem_cons.mp hp with rfl | hp
    · exact h.orp (r _ (.head _))
    · exact ih (fun p hp => r p (.tail _ hp)) p hp
theorem WkM.mrp {W : Wd} {V : Vw} {h : Heap} {a : Addr} {x y : MO} (w : WkM x y) (r : MRp W V h a x) : MRp W V h a y := by
  cases w with
  | eq e => exact e ▸ r
  | ns w => obtain ⟨f, h1, h2, h3⟩ := r; exact ⟨f, h1, w.names ▸ h2, w.orp h3⟩
  | cell w => obtain ⟨v, h1, h2⟩ := r; exact ⟨v, h1, w.orp h2⟩
  | dead => trivial
theorem WkM.live {x y : MO} (w : WkM x y) (h : y.live = true) : x.live = true := by
  cases w with
  | eq e => exact e ▸ h
  | ns _ => rfl
  | cell _ => rfl
  | dead => cases h
theorem WkL.length (w : WkL σ σ₁) : σ₁.length ≤ σ.length := by
  induction w with
  | nil => exact Nat.zero_le _
  | cons _ _ ih => simpa using ih
theorem WkL.get (w : WkL σ σ₁) : ∀ {k : Nat} {b : MO}, σ₁[k]? = some b → ∃ a, σ[k]? = some a ∧ WkM a b := by
  induction w with
  | nil => intro k b h; simp at h
  | cons h _ ih =>
    intro k b e
    cases k with
    | zero => cases e; exact ⟨_, rfl, h⟩
    | succ k => exact ih (k := k) (by simpa using e)
theorem WkL.st (w : WkL σ σ₁) (hf : σ₁.all (MO.fitsB σ₁.length) = true) {W : Wd} {V : Vw} {s : Shared} (S : St0 W V σ s) : St0 W V σ₁ s where
  keep := S.keep
  base := S.base
  led := fun k mo e => by obtain ⟨a, ha, h⟩ := w.get e; exact h.mrp (S.led k a ha)
  inj := fun i j h1 h2 e => S.inj i j (Nat.lt_of_lt_of_le h1 w.length) (Nat.lt_of_lt_of_le h2 w.length) e
  out := fun k mo e hv => by obtain ⟨a, ha, h⟩ := w.get e; exact S.out k a ha (h.live hv)
  bnd := fun k h => S.bnd k (Nat.lt_of_lt_of_le h w.length)
  fit := fun k mo e => MO.fits_of (List.all_eq_true.mp hf mo (List.mem_of_getElem? e))
  gen := S.gen
  os := S.os
theorem WkX.fits {n : Nat} {x y : X} (h : WkX x y) (r : x.fits n) : y.fits n := by
  cases h with
  | eq e => exact e ▸ r
  | any => trivial
theorem WkN.fits {n : Nat} {m m' : List (Str × X)} (h : WkN m m') (r : ∀ p ∈ m, p.2.fits n) : ∀ p ∈ m', p.2.fits n := by
  induction h with
  | nil => exact r
  | cons h _ ih =>
    intro p hp
    rcases List.mem_cons.mp hp with rfl | hp
    · exact h.fits (r _ (.head _))
    · exact ih (fun p hp => r p (.tail _ hp)) p hp
theorem WkM.fits {n : Nat} {x y : MO} (w : WkM x y) (r : x.fits n) : y.fits n := by
  cases w with
  | eq e => exact e ▸ r
  | ns w => exact w.fits r
  | cell w => exact WkX.fits w r
  | dead => trivial
theorem WkL.st' (w : WkL σ σ₁) (hl : σ₁.length = σ.length) {W : Wd} {V : Vw} {s : Shared} (S : St0 W V σ s) : St0 W V σ₁ s where
  keep := S.keep
  base := S.base
  led := fun k mo e => by obtain ⟨a, ha, h⟩ := w.get e; exact h.mrp (S.led k a ha)
  inj := fun i j h1 h2 e => S.inj i j (Nat.lt_of_lt_of_le h1 w.length) (Nat.lt_of_lt_of_le h2 w.length) e
  out := fun k mo e hv => by obtain ⟨a, ha, h⟩ := w.get e; exact S.out k a ha (h.live hv)
  bnd := fun k h => S.bnd k (Nat.lt_of_lt_of_le h w.length)
  fit := fun k mo e => by obtain ⟨a, ha, h⟩ := w.get e; rw [hl]; exact h.fits (S.fit k a ha)
  gen := S.gen
  os := S.os
noncomputable def Lo (n : Nat) (σ σ' : List MO) : Prop := ∃ σ₁, Stp σ σ₁ ∧ n ≤ σ'.length ∧ σ'.length ≤ σ₁.length ∧ ∀ (W : Wd) (V : Vw) (s : Shared), St0 W V σ₁ s → St0 W V σ' s
theorem Lo.refl {n : Nat} (h : n ≤ σ.length) : Lo n σ σ := ⟨σ, .refl, h, Nat.le_refl _, fun _ _ _ S => S⟩
theorem Lo.wk {n : Nat} (w : WkL σ σ₁) (h : n ≤ σ₁.length) (hf : σ₁.all (MO.fitsB σ₁.length) = true) : Lo n σ σ₁ := ⟨σ, .refl, h, w.length, fun _ _ _ S => w.st hf S⟩
theorem Lo.wk' {n : Nat} (w : WkL σ σ₁) (hl : σ₁.length = σ.length) (h : n ≤ σ₁.length) : Lo n σ σ₁ := ⟨σ, .refl, h, w.length, fun _ _ _ S => w.st' hl S⟩
theorem St0.freezeG {W : Wd} {V : Vw} {s : Shared} {k : Nat} {mo : MO} {o : Obj} {t : T} (S : St0 W V σ s) (hk : σ[k]? = some mo) (hlv : mo.live = true) (ho : s.heap.get? (V.ad k) = some o)
    (hr : ∀ F' : Fz, (∀ a o, V.F a = some o → F' a = some o) → F' (V.ad k) = some o → Rp W F' t (.ref (V.ad k))) :
    ∃ V', Ext σ V s (σ.set k .dead) V' s ∧ St0 W V' (σ.set k .dead) s ∧ V'.ad = V.ad ∧ (∀ a o, V.F a = some o → V'.F a = some o) ∧ Rp W V'.F t (.ref (V.ad k)) := by
  have hlt : k < σ.length := (List.getElem?_eq_some_iff.mp hk).1
  have hout := S.out k _ hk hlv
  let F' : Fz := fun a => if a = V.ad k then some o else V.F a
  have sub : ∀ a o, V.F a = some o → F' a = some o := fun a o e => by
    show (if a = V.ad k then _ else V.F a) = _
    rw [if_neg (fun q => by rw [q, hout] at e; cases e)]; exact e
  have self : F' (V.ad k) = some o := if_pos rfl
  refine ⟨⟨F', V.ad⟩, ?_, ⟨fun a o₂ e => ?_, fun a o e => sub a o (S.base a o e), fun j mo e => ?_, ?_, fun j mo e hv => ?_, fun j h => ?_, fun j mo e => ?_, S.gen, S.os⟩, rfl, sub, hr F' sub self⟩
  · refine Ext.mk' sub (fun a o e => ?_) (fun _ _ => rfl) (fun _ _ _ e => e) (fun _ h h' => absurd h' (Nat.not_lt.mpr (by rw [List.length_set]; exact h))) (Nat.le_refl _) (by rw [List.length_set]; exact Nat.le_refl _)
    by_cases h : a = V.ad k
    · exact .inr (.inr ⟨k, hlt, h⟩)
    · exact .inl (by rw [← e]; show _ = if a = V.ad k then _ else V.F a; rw [if_neg h])
  · by_cases h : a = V.ad k
    · subst h
      have e' : F' (V.ad k) = some o₂ := e
      rw [self] at e'; cases e'; exact ho
    · exact S.keep a o₂ (by rw [← e]; show _ = if a = V.ad k then _ else V.F a; rw [if_neg h])
  · by_cases hj : k = j
    · subst hj; rw [List.getElem?_set_self hlt] at e; cases e; trivial
    · rw [List.getElem?_set_ne hj] at e
      exact (S.led j mo e).mono (V' := ⟨F', V.ad⟩) (fun _ e => e) sub (S.fit j mo e) fun _ _ => rfl
  · intro i j h1 h2 e
    rw [List.length_set] at h1 h2
    exact S.inj i j h1 h2 e
  · by_cases hj : k = j
    · subst hj; rw [List.getElem?_set_self hlt] at e; cases e; cases hv
    · rw [List.getElem?_set_ne hj] at e
      have hjl : j < σ.length := (List.getElem?_eq_some_iff.mp e).1
      show (if V.ad j = V.ad k then _ else V.F (V.ad j)) = _
      rw [if_neg (fun q => hj (S.inj k j hlt hjl q.symm))]; exact S.out j mo e hv
  · rw [List.length_set] at h; exact S.bnd j h
  · rw [List.length_set]
    by_cases hj : k = j
    · subst hj; rw [List.getElem?_set_self hlt] at e; cases e; trivial
    · rw [List.getElem?_set_ne hj] at e; exact S.fit j mo e
noncomputable def MO.tree : MO → Option T
  | .list ts => some (.list ts)
  | .dict kvs => some (.dict kvs)
  | _ => Option.none
theorem St0.freeze {W : Wd} {V : Vw} {s : Shared} {k : Nat} {mo : MO} {t : T} (S : St0 W V σ s) (hk : σ[k]? = some mo) (ht : mo.tree = some t) :
    ∃ V', Ext σ V s (σ.set k .dead) V' s ∧ St0 W V' (σ.set k .dead) s ∧ V'.ad = V.ad ∧ (∀ a o, V.F a = some o → V'.F a = some o) ∧ Rp W V'.F t (.ref (V.ad k)) := by
  cases mo with
  | list ts =>
    obtain ⟨vs, n, ho, q⟩ := S.led k _ hk
    cases ht
    exact S.freezeG hk rfl ho fun F' sub self => ⟨_, _, vs, n, rfl, self, rfl, rfl, Rps.mono sub _ _ q⟩
  | dict kvs =>
    obtain ⟨o, vs, ep, ho, d, hs, q⟩ := S.led k _ hk
    cases ht
    exact S.freezeG hk rfl ho fun F' sub self => ⟨_, o, vs, ep, rfl, self, d, hs, RpKv.mono sub _ _ q⟩
  | _ => cases ht
inductive FzX (k : Nat) (t : T) : X → X → Prop
  | eq {x y : X} : x = y → FzX k t x y
  | mt : FzX k t (.mt k) (.tr t)
inductive FzN (k : Nat) (t : T) : List (Str × X) → List (Str × X) → Prop
  | nil : FzN k t [] []
  | cons {n : Str} {x y : X} {r r' : List (Str × X)} : FzX k t x y → FzN k t r r' → FzN k t ((n, x) :: r) ((n, y) :: r')
inductive FzM (k : Nat) (t : T) : MO → MO → Prop
  | eq {a b : MO} : a = b → FzM k t a b
  | ns {m m' : List (Str × X)} : FzN k t m m' → FzM k t (.ns m) (.ns m')
  | cell {x y : X} : FzX k t x y → FzM k t (.cell x) (.cell y)
inductive FzL (k : Nat) (t : T) : List MO → List MO → Prop
  | nil : FzL k t [] []
  | cons {a b : MO} {r r' : List MO} : FzM k t a b → FzL k t r r' → FzL k t (a :: r) (b :: r')
theorem FzX.orp {k : Nat} {t : T} {W : Wd} {V : Vw} {x y : X} {o : Option Value} (h : FzX k t x y) (hr : Rp W V.F t (.ref (V.ad k))) (r : ORp W V x o) : ORp W V y o := by
  cases h with
  | eq e => exact e ▸ r
  | mt => obtain ⟨v, e, q⟩ := r; exact ⟨v, e, by rw [show v = _ from q]; exact hr⟩
theorem FzX.fits {k n : Nat} {t : T} {x y : X} (h : FzX k t x y) (r : x.fits n) : y.fits n := by
  cases h with
  | eq e => exact e ▸ r
  | mt => trivial
theorem FzN.names {k : Nat} {t : T} {m m' : List (Str × X)} (h : FzN k t m m') : m'.map (·.1) = m.map (·.1) := by
  induction h with
  | nil => rfl
  | cons _ _ ih => rw [List.map_cons, List.map_cons, ih]
theorem FzN.orp {k : Nat} {t : T} {W : Wd} {V : Vw} {f : Str → Option Value} {m m' : List (Str × X)} (h : FzN k t m m') (hr : Rp W V.F t (.ref (V.ad k))) (r : ∀ p ∈ m, ORp W V p.2 (f p.1)) : ∀ p ∈ m', ORp W V p.2 (f p.1) := by
  induction h with
  | nil => exact r
  | cons h _ ih =>
    intro p hp
    rcases List.mem_cons.mp hp with rfl | hp
    · exact h.orp hr (r _ (.head _))
    · exact ih (fun p hp => r p (.tail _ hp)) p hp
theorem FzN.fits {k n : Nat} {t : T} {m m' : List (Str × X)} (h : FzN k t m m') (r : ∀ p ∈ m, p.2.fits n) : ∀ p ∈ m', p.2.fits n := by
  induction h with
  | nil => exact r
  | cons h _ ih =>
    intro p hp
    rcases List.mem_cons.mp hp with rfl | hp
    · exact h.fits (r _ (.head _))
    · exact ih (fun p hp => r p (.tail _ hp)) p hp
theorem FzM.mrp {k : Nat} {t : T} {W : Wd} {V : Vw} {h : Heap} {a : Addr} {x y : MO} (w : FzM k t x y) (hr : Rp W V.F t (.ref (V.ad k))) (r : MRp W V h a x) : MRp W V h a y := by
  cases w with
  | eq e => exact e ▸ r
  | ns w => obtain ⟨f, h1, h2, h3⟩ := r; exact ⟨f, h1, w.names ▸ h2, w.orp hr h3⟩
  | cell w => obtain ⟨v, h1, h2⟩ := r; exact ⟨v, h1, w.orp hr h2⟩
theorem FzM.fits {k n : Nat} {t : T} {x y : MO} (w : FzM k t x y) (r : x.fits n) : y.fits n := by
  cases w with
  | eq e => exact e ▸ r
  | ns w => exact w.fits r
  | cell w => exact FzX.fits w r
theorem FzM.live {k : Nat} {t : T} {x y : MO} (w : FzM k t x y) (h : y.live = true) : x.live = true := by
  cases w with
  | eq e => exact e ▸ h
  | ns _ => rfl
  | cell _ => rfl
theorem FzL.length {k : Nat} {t : T} (w : FzL k t σ σ₁) : σ₁.length = σ.length := by
  induction w with
  | nil => rfl
  | cons _ _ ih => simpa using ih
theorem FzL.get {k : Nat} {t : T} (w : FzL k t σ σ₁) : ∀ {j : Nat} {b : MO}, σ₁[j]? = some b → ∃ a, σ[j]? = some a ∧ FzM k t a b := by
  induction w with
  | nil => intro k b h; simp at h
  | cons h _ ih =>
    intro j b e
    cases j with
    | zero => cases e; exact ⟨_, rfl, h⟩
    | succ j => exact ih (j := j) (by simpa using e)
theorem Stp.frozen {k : Nat} {mo : MO} {t : T} (h : PutL σ k mo .dead σ₁) (ht : mo.tree = some t) (w : FzL k t σ₁ σ₂) : Stp σ σ₂ := fun W V s S => by
  obtain ⟨V', E, S', had, hF, hr⟩ := S.freeze h.get ht
  rw [← h.set] at E S'
  have hr' : Rp W V'.F t (.ref (V'.ad k)) := by rw [had]; exact hr
  refine ⟨V', E.cut (Nat.le_of_eq w.length) (by rw [w.length]; exact E.le), ⟨S'.keep, S'.base, fun j mo e => ?_, fun i j h1 h2 e => S'.inj i j (by rw [← w.length]; exact h1) (by rw [← w.length]; exact h2) e, fun j mo e hv => ?_, fun j h => S'.bnd j (by rw [← w.length]; exact h), fun j mo e => ?_, S'.gen, S'.os⟩⟩
  · obtain ⟨a, ha, q⟩ := w.get e; exact q.mrp hr' (S'.led j a ha)
  · obtain ⟨a, ha, q⟩ := w.get e; exact S'.out j a ha (q.live hv)
  · obtain ⟨a, ha, q⟩ := w.get e; rw [w.length]; exact q.fits (S'.fit j a ha)

theorem Ex1.asg {t value : Expr} {pos : Pos} {x : X} (h : EvX c d value σ x σ₁) (ha : AsV c d t σ₁ x σ₂) (hq : Q (.nxt σ₂))
    (hs : swapsWithSole [t] value pos.line c.env = pure false := by rfl) (hw : swappedStores [t] value c.env = pure Option.none := by rfl) (he : (assignEach [t] c.env).map (·.2) = [assign t c.env] := by rfl) : Ex1 c d (.Assign [t] value pos) σ Q := fun V s S F =>
  wpAny_Assign_stores (seq (h V s S F) fun V₁ s₁ v E₁ S₁ q₁ => by
    rw [he]
    exact seq (ha V₁ s₁ v S₁ (F.ext E₁) q₁.1 q₁.2) fun V₂ s₂ _ E₂ S₂ _ => ⟨σ₂, V₂, E₁.trans E₂, S₂, hq⟩) hs hw
theorem Ex1.asg2 {t₁ t₂ value : Expr} {pos : Pos} {x : X} (h : EvX c d value σ x σ₁) (ha : AsV c d t₁ σ₁ x σ₂) (hb : AsV c d t₂ σ₂ x σ₃) (hq : Q (.nxt σ₃))
    (he : (assignEach [t₁, t₂] c.env).map (·.2) = [assign t₁ c.env, assign t₂ c.env] := by rfl) (hw : swappedStores [t₁, t₂] value c.env = pure Option.none := by rfl) : Ex1 c d (.Assign [t₁, t₂] value pos) σ Q := fun V s S F =>
  wpAny_Assign_two (seq (h V s S F) fun V₁ s₁ v E₁ S₁ q₁ =>
    seq (ha V₁ s₁ v S₁ (F.ext E₁) q₁.1 q₁.2) fun V₂ s₂ _ E₂ S₂ _ =>
      seq (hb V₂ s₂ v S₂ (F.ext (E₁.trans E₂)) (q₁.1.ext E₂ q₁.2) (q₁.2.mono E₂.le)) fun V₃ s₃ _ E₃ S₃ _ => ⟨σ₃, V₃, (E₁.trans E₂).trans E₃, S₃, hq⟩) he hw
noncomputable def LdN (c : Cx) (d : Sd) (n : Str) (σ : List MO) (x : X) : Prop :=
  ∀ V s, St0 c.W V σ s → Fo c d V σ.length → wpAny c.W.M c.A (loadName c.env n) (Pt c.W σ V s σ fun V' v => XRp c.W V' x v ∧ x.fits σ.length) NoE s
theorem LdN.loc {x : Str} {m : List (Str × X)} {v : X} (hs : (x, Slot.loc) ∈ d.tab) (hl : σ[d.cur]? = some (.ns m)) (hm : (x, v) ∈ m) (hx : v.told := by trivial) : LdN c d x σ v := fun V s S F => by
  obtain ⟨f, hn, _, hq⟩ := S.led _ _ hl
  obtain ⟨u, e, r⟩ := ORp_get (hq _ hm) hx
  exact wpAny_loadName_local c.hk (F.tab _ hs) (by rw [F.loc]; exact hn) e (Pt.here S ⟨r, S.fit _ _ hl _ hm⟩)
theorem LdN.cel {x : Str} {k : Nat} {v : X} (hs : (x, Slot.cel k) ∈ d.tab) (hl : σ[k]? = some (.cell v)) (hx : v.told := by trivial) : LdN c d x σ v := fun V s S F => by
  obtain ⟨w, hc, hq⟩ := S.led _ _ hl
  obtain ⟨u, e, r⟩ := ORp_get hq hx
  obtain ⟨h1, h2, _⟩ := F.tab _ hs
  subst e
  exact wpAny_loadName_cell c.hk h1 h2 hc (Pt.here S ⟨r, S.fit _ _ hl⟩)
theorem Ex1.aug {n : Str} {pos pos' : Pos} {op : Operator} {value : Expr} {x y z : X} (h1 : LdN c d n σ x) (h2 : EvX c d value σ y σ₁) (h3 : OpX c (inplaceOp op) σ₁ x y z σ₂) (h4 : StN c d n σ₂ z σ₃) (hq : Q (.nxt σ₃)) :
    Ex1 c d (.AugAssign (.Name n pos') op value pos) σ Q := fun V s S F =>
  wpAny_AugAssign_Name (seq (h1 V s S F) fun V₁ s₁ a E₁ S₁ q₁ => seq (h2 V₁ s₁ S₁ (F.ext E₁)) fun V₂ s₂ b E₂ S₂ q₂ =>
    seq (h3 V₂ s₂ a b S₂ (q₁.1.ext E₂ q₁.2) (q₁.2.mono E₂.le) q₂.1 q₂.2) fun V₃ s₃ r E₃ S₃ q₃ =>
      seq (h4 V₃ s₃ r S₃ (F.ext ((E₁.trans E₂).trans E₃)) q₃.1 q₃.2) fun V₄ s₄ _ E₄ S₄ _ => ⟨σ₃, V₄, ((E₁.trans E₂).trans E₃).trans E₄, S₄, hq⟩)
theorem Ex1.ret {e : Expr} {pos : Pos} {x : X} (h : EvX c d e σ x σ₁) (hq : Q (.ret x σ₁)) : Ex1 c d (.Return (some e) pos) σ Q := fun V s S F =>
  wpAny_Return_some (seq (h V s S F) fun V₁ s₁ a E₁ S₁ q₁ => ⟨σ₁, V₁, E₁, S₁, x, q₁.1, q₁.2, hq⟩)
theorem Ex1.brk {pos : Pos} (hq : Q (.brk σ)) : Ex1 c d (.Break pos) σ Q := fun V s S F => wpAny_Break ⟨σ, V, .refl .., S, hq⟩
theorem Ex1.ite {test : Expr} {body orelse : List Stmt} {pos : Pos} {b : Bool} (h : EvB c d test σ b σ₁) (h1 : b = true → Ex c d body σ₁ Q) (h2 : b = false → Ex c d orelse σ₁ Q) : Ex1 c d (.If test body orelse pos) σ Q := fun V s S F =>
  wpAny_If (seq (h V s S F) fun V₁ s₁ u E₁ S₁ q₁ => by
    subst q₁
    cases u with
    | true => exact laterQ E₁ (h1 rfl V₁ s₁ S₁ (F.ext E₁))
    | false => exact laterQ E₁ (h2 rfl V₁ s₁ S₁ (F.ext E₁)))
theorem Ex1.expr {e : Expr} {pos : Pos} {x : X} (h : EvX c d e σ x σ₁) (hq : Q (.nxt σ₁)) (hs : swapsWith e Option.none pos.line c.env = pure false := by rfl) : Ex1 c d (.Expr e pos) σ Q := fun V s S F =>
  have hi : interactive c.env = false := by unfold interactive; rw [c.hk]; rfl
  wpAny_Expr_any (seq (h V s S F) fun V₁ s₁ a E₁ S₁ q₁ => ⟨σ₁, V₁, E₁, S₁, hq⟩) hi hs

noncomputable def Turn (Q : Out → Prop) (n : Nat) (J : List MO → Prop) : Out → Prop
  | .nxt σ => ∃ σ', Lo n σ σ' ∧ J σ'
  | .cnt σ => ∃ σ', Lo n σ σ' ∧ J σ'
  | .brk σ => Q (.nxt σ)
  | .ret x σ => Q (.ret x σ)
theorem Ex1.whl {test : Expr} {body : List Stmt} {pos : Pos} (J : Nat → List MO → Prop) (n : Nat) (h0 : J n σ)
    (step : ∀ n σ', J n σ' → ∃ b σ₁, EvB c d test σ' b σ₁ ∧ (b = true → Ex c d body σ₁ (Turn Q σ.length fun σ'' => ∃ m, m < n ∧ J m σ'')) ∧ (b = false → Q (.nxt σ₁))) : Ex1 c d (.While test body [] pos) σ Q := fun V s S F => by
  refine wpAny_While (codeAny_whileLoop (fun n s' => ∃ σ' V', Ext σ V s σ' V' s' ∧ St0 c.W V' σ' s' ∧ J n σ') (fun n s' ⟨σ', V', E, S', hJ⟩ => ?_) n ⟨σ, V, .refl .., S, h0⟩)
  obtain ⟨b, σ₁, hb, hy, hn⟩ := step n σ' hJ
  refine wpAny_mono (hb V' s' S' (F.ext E)) (fun u s₁ ⟨V₁, E₁, S₁, e⟩ => ?_) fun _ _ e => e.elim
  subst e
  have EE := E.trans E₁
  cases u with
  | true =>
    refine wpAny_mono (hy rfl V₁ s₁ S₁ (F.ext EE)) (fun f s₂ ⟨σ₂, V₂, E₂, S₂, q⟩ => ?_) fun _ _ e => e.elim
    have E3 := EE.trans E₂
    have go : (∃ σ', Lo σ.length σ₂ σ' ∧ ∃ m, m < n ∧ J m σ') → ∃ m, m < n ∧ ∃ σ' V', Ext σ V s σ' V' s₂ ∧ St0 c.W V' σ' s₂ ∧ J m σ' := fun ⟨σ₄, ⟨σ₃, hst, l1, l2, l3⟩, m, hm, hj⟩ => by
      obtain ⟨V₃, E₄, S₃⟩ := hst c.W V₂ s₂ S₂
      exact ⟨m, hm, σ₄, V₃, (E3.trans E₄).cut l2 l1, l3 _ _ _ S₃, hj⟩
    cases f with
    | next => exact go q
    | cont => exact go q
    | brk => exact ⟨σ₂, V₂, E3, S₂, q⟩
    | ret v => exact ⟨σ₂, V₂, E3, S₂, q⟩
  | false => exact wpAny_execs_nil ⟨σ₁, V₁, EE, S₁, hn rfl⟩
theorem Ex1.for {target iter : Expr} {body orelse : List Stmt} {pos : Pos} {us : List T} {dep : List MO → Prop} (hsrc : Src c d target iter σ us dep σ₁) (J : Nat → List MO → Prop) (h0 : J 0 σ₁) (hd : ∀ i σ', J i σ' → dep σ')
    (step : ∀ i t σ', us[i]? = some t → J i σ' → ∃ σ₂, AsV c d target σ' (.tr t) σ₂ ∧ Ex c d body σ₂ (Turn Q σ₁.length (J (i + 1))))
    (hend : ∀ σ', J us.length σ' → Ex c d orelse σ' Q) (hs : ∀ x, foldedSetIterable iter c.env x = pure x := by intro _; rfl) : Ex1 c d (.For target iter body orelse pos) σ Q := fun V s S F => by
  refine wpAny_For (wpAny_mono (hsrc V s S F) (fun x s₁ h₁ => wpAny_mono h₁ (fun it s₂ ⟨V₂, I, hlo, hbs, E₂, S₂, hat⟩ => ?_) fun _ _ e => e.elim) fun _ _ e => e.elim) hs
  refine codeAny_forLoop_any (fun n s' => ∃ i σ' V', n + i = us.length ∧ J i σ' ∧ ExtB s.heap.objs.size σ V s σ' V' s' ∧ St0 c.W V' σ' s' ∧ I.At i V' σ'.length s' ∧ σ₁.length ≤ σ'.length)
    (fun n s' ⟨i, σ', V', hn, hJ, E, S', ha, hl⟩ => ?_) us.length ⟨0, σ₁, V₂, rfl, h0, E₂, S₂, hat, Nat.le_refl _⟩
  by_cases hi : i < us.length
  · obtain ⟨t, ht⟩ : ∃ t, us[i]? = some t := ⟨_, List.getElem?_eq_getElem hi⟩
    refine wpAny_mono (I.item ht (hd i σ' hJ) S' ha) (fun r s₃ ⟨v, e, h⟩ => ?_) fun _ _ e => e.elim
    subst e
    refine wpAny_mono h (fun _ s₄ ⟨V₄, E₄, S₄, ha₄, rt⟩ => ?_) fun _ _ e => e.elim
    have E5 : ExtB s.heap.objs.size σ V s σ' V₄ s₄ := E.trans E₄ hlo
    obtain ⟨σ₅, hA, hB⟩ := step i t σ' ht hJ
    refine wpAny_mono (hA V₄ s₄ v S₄ (F.mono E5.ad E5.le) rt trivial) (fun _ s₅ ⟨V₅, E₅, S₅, _⟩ => ?_) fun _ _ e => e.elim
    have ha₅ := I.frame ha₄ S₄ E₅ S₅
    have E6 : ExtB s.heap.objs.size σ V s σ₅ V₅ s₅ := E5.trans E₅ (Nat.le_trans E5.len (Nat.le_refl _))
    refine wpAny_mono (hB V₅ s₅ S₅ (F.mono E6.ad E6.le)) (fun f s₆ ⟨σ₆, V₆, E₆, S₆, q⟩ => ?_) fun _ _ e => e.elim
    have E7 : ExtB s.heap.objs.size σ V s σ₆ V₆ s₆ := E6.trans E₆ E6.len
    have go : (∃ σ', Lo σ₁.length σ₆ σ' ∧ J (i + 1) σ') → ∃ m, m < n ∧ ∃ i σ' V', m + i = us.length ∧ J i σ' ∧ ExtB s.heap.objs.size σ V s σ' V' s₆ ∧ St0 c.W V' σ' s₆ ∧ I.At i V' σ'.length s₆ ∧ σ₁.length ≤ σ'.length := fun ⟨σ₇, ⟨σ₈, hst, l1, l2, l3⟩, hj⟩ => by
      obtain ⟨V₇, E₈, S₈⟩ := hst c.W V₆ s₆ S₆
      have ha₇ := I.frame (I.frame ha₅ S₅ E₆ S₆) S₆ E₈ S₈
      have E9 : ExtB s.heap.objs.size σ V s σ₈ V₇ s₆ := E7.trans E₈ E7.len
      exact ⟨n - 1, by omega, i + 1, σ₇, V₇, by omega, hj, E9.cut l2 (Nat.le_trans E₂.le l1), l3 _ _ _ S₈, I.less ha₇ l2 (Nat.le_trans hbs l1), l1⟩
    cases f with
    | next => exact go q
    | cont => exact go q
    | brk => exact ⟨σ₆, V₆, E7, S₆, q⟩
    | ret v => exact ⟨σ₆, V₆, E7, S₆, q⟩
  · have hi' : i = us.length := by omega
    subst hi'
    refine wpAny_mono (I.done (hd _ σ' hJ) S' ha) (fun r s₃ ⟨e, V₃, E₃, S₃⟩ => ?_) fun _ _ e => e.elim
    subst e
    have E5 : ExtB s.heap.objs.size σ V s σ' V₃ s₃ := E.trans E₃ hlo
    refine wpAny_mono (hend σ' hJ V₃ s₃ S₃ (F.mono E5.ad E5.le)) (fun f s₄ ⟨σ₄, V₄, E₄, S₄, q⟩ => ?_) fun _ _ e => e.elim
    exact ⟨σ₄, V₄, E5.trans E₄ E5.len, S₄, q⟩
end
end Mine
-- B8
namespace Mine
noncomputable def cellNames : List (Str × NameKind) → List Str
  | [] => []
  | (n, k) :: r => if k == .cell then n :: cellNames r else cellNames r
noncomputable def cellIx : List (Str × NameKind) → Nat → Str → Option Nat → Option Nat
  | [], _, _, acc => acc
  | (n, k) :: r, i, x, acc => if k == .cell then cellIx r (i + 1) x (if x == n then some i else acc) else cellIx r i x acc
theorem cellsFrom_lookup (b : Nat) (cl : List (Str × Addr)) : ∀ (names : List (Str × NameKind)) (i : Nat) (acc : List (Str × Addr)) (x : Str) (o : Option Nat), acc.lookup x = (match o with | some j => some (b + j) | Option.none => cl.lookup x) →
    (cellsFrom (b + i) names acc).lookup x = (match cellIx names i x o with | some j => some (b + j) | Option.none => cl.lookup x)
  | [], _, _, _, _, h => h
  | (n, k) :: r, i, acc, x, o, h => by
    unfold cellsFrom cellIx
    split
    · refine cellsFrom_lookup b cl r (i + 1) _ x _ ?_
      rw [List.lookup_cons]
      cases hx : x == n with
      | true => simp
      | false => simpa using h
    · exact cellsFrom_lookup b cl r i acc x o h
theorem pushCells_size : ∀ (names : List (Str × NameKind)) (h : Heap), (pushCells h names).objs.size = h.objs.size + (cellNames names).length
  | [], h => rfl
  | (n, k) :: r, h => by
    unfold pushCells cellNames
    split
    · rw [pushCells_size r, Heap.size_push, List.length_cons]; omega
    · exact pushCells_size r h

section
variable {W : Wd} {V : Vw} {σ : List MO} {s : Shared}
noncomputable def Vw.puts (V : Vw) (n : Nat) (L : Addr) : Vw := ⟨V.F, fun k => if k < n then V.ad k else L + (k - n)⟩
theorem St0.news (S : St0 W V σ s) {mos : List MO} {s' : Shared} (hh : ∀ a o, s.heap.get? a = some o → s'.heap.get? a = some o) (hm : ∀ i mo, mos[i]? = some mo → MRp W V s'.heap (s.heap.objs.size + i) mo)
    (hf : ∀ mo ∈ mos, mo.fits σ.length) (hb : s.heap.objs.size + mos.length ≤ s'.heap.objs.size) (hg : s'.gens = s.gens) (ho : s'.os = s.os) :
    St0 W (V.puts σ.length s.heap.objs.size) (σ ++ mos) s' ∧ Ext σ V s (σ ++ mos) (V.puts σ.length s.heap.objs.size) s' := by
  have hl : s.heap.objs.size ≤ s'.heap.objs.size := by omega
  have ad : ∀ k, k < σ.length → (V.puts σ.length s.heap.objs.size).ad k = V.ad k := fun k h => if_pos h
  have adn : ∀ k, (V.puts σ.length s.heap.objs.size).ad (σ.length + k) = s.heap.objs.size + k := fun k => by
    show (if _ then _ else _) = _
    rw [if_neg (by omega)]; congr 1; omega
  have get : ∀ (k : Nat) (m : MO), (σ ++ mos)[k]? = some m → (k < σ.length ∧ σ[k]? = some m) ∨ ∃ i, k = σ.length + i ∧ mos[i]? = some m := fun k m e => by
    by_cases h : k < σ.length
    · rw [List.getElem?_append_left h] at e; exact .inl ⟨h, e⟩
    · rw [List.getElem?_append_right (Nat.not_lt.mp h)] at e
      exact .inr ⟨k - σ.length, by omega, e⟩
  refine ⟨⟨fun x o e => hh x o (S.keep x o e), S.base, fun k m e => ?_, fun i j hi hj e => ?_, fun k m e hv => ?_, fun k h => ?_, fun k m e => ?_, hg ▸ S.gen, ho ▸ S.os⟩,
    Ext.mk' (fun _ _ e => e) (fun _ _ e => .inl e) ad (fun x o _ e => hh x o e) (fun k h h' => ?_) hl (by rw [List.length_append]; omega)⟩
  · rcases get k m e with ⟨h, e'⟩ | ⟨i, rfl, e'⟩
    · rw [ad k h]; exact (S.led k m e').mono (fun o => hh _ o) (fun _ _ e => e) (S.fit k m e') ad
    · rw [adn]; exact (hm i m e').mono (fun _ e => e) (fun _ _ e => e) (hf m (List.mem_of_getElem? e')) ad
  · have hi' : i < σ.length ∨ ∃ i', i = σ.length + i' := by by_cases h : i < σ.length; exact .inl h; exact .inr ⟨i - σ.length, by omega⟩
    have hj' : j < σ.length ∨ ∃ i', j = σ.length + i' := by by_cases h : j < σ.length; exact .inl h; exact .inr ⟨j - σ.length, by omega⟩
    rcases hi' with h1 | ⟨i, rfl⟩ <;> rcases hj' with h2 | ⟨j, rfl⟩
    · rw [ad i h1, ad j h2] at e; exact S.inj i j h1 h2 e
    · rw [ad i h1, adn] at e; have h3 := S.bnd i h1; rw [e] at h3; exact absurd h3 (Nat.not_lt.mpr (Nat.le_add_right _ _))
    · rw [ad j h2, adn] at e; have h3 := S.bnd j h2; rw [← e] at h3; exact absurd h3 (Nat.not_lt.mpr (Nat.le_add_right _ _))
    · rw [adn, adn] at e; exact congrArg _ (Nat.add_left_cancel e)
  · rcases get k m e with ⟨h, e'⟩ | ⟨i, rfl, e'⟩
    · rw [ad k h]; exact S.out k m e' hv
    · rw [adn]; exact S.none (Nat.le_add_right _ _)
  · rw [List.length_append] at h
    by_cases h1 : k < σ.length
    · rw [ad k h1]; exact Nat.lt_of_lt_of_le (S.bnd k h1) hl
    · obtain ⟨i, rfl⟩ : ∃ i, k = σ.length + i := ⟨k - σ.length, by omega⟩
      rw [adn]; exact Nat.lt_of_lt_of_le (Nat.add_lt_add_left (by omega) _) hb
  · rw [List.length_append]
    rcases get k m e with ⟨h, e'⟩ | ⟨i, rfl, e'⟩
    · exact (S.fit k m e').mono (by omega)
    · exact (hf m (List.mem_of_getElem? e')).mono (by omega)
  · obtain ⟨i, rfl⟩ : ∃ i, k = σ.length + i := ⟨k - σ.length, by omega⟩
    rw [adn]; exact Nat.le_add_right _ _
end

theorem bindL_get (kindOf : Str → Option NameKind) : ∀ (binds : List (Str × Value)) (m : Str → Option Value) (n : Str) (v : Value), (binds.map (·.1)).Nodup → (n, v) ∈ binds → kindOf n = some .local → bindL kindOf binds m n = some v := by
  intro binds
  have other : ∀ (r : List (Str × Value)) (m : Str → Option Value) (n : Str), n ∉ r.map (·.1) → bindL kindOf r m n = m n := by
    intro r
    induction r with
    | nil => intro m n _; rfl
    | cons p r ih =>
      intro m n hn
      rw [List.map_cons, List.mem_cons, not_or] at hn
      show bindL kindOf r _ n = _
      rw [ih _ _ hn.2]
      split
      · show (if n = p.1 then _ else m n) = _
        rw [if_neg hn.1]
      · rfl
  induction binds with
  | nil => intro m n v _ h; cases h
  | cons p r ih =>
    intro m n v hn hm hk
    rw [List.map_cons, List.nodup_cons] at hn
    show bindL kindOf r _ n = _
    rcases List.mem_cons.mp hm with rfl | hm
    · rw [other _ _ _ hn.1, if_pos hk]; simp
    · exact ih _ n v hn.2 hm hk
theorem bindC_get (kindOf : Str → Option NameKind) : ∀ (binds : List (Str × Value)) (m : Str → Option Value) (n : Str) (v : Value), (binds.map (·.1)).Nodup → (n, v) ∈ binds → kindOf n ≠ some .local → bindC kindOf binds m n = some v := by
  intro binds
  have other : ∀ (r : List (Str × Value)) (m : Str → Option Value) (n : Str), n ∉ r.map (·.1) → bindC kindOf r m n = m n := by
    intro r
    induction r with
    | nil => intro m n _; rfl
    | cons p r ih =>
      intro m n hn
      rw [List.map_cons, List.mem_cons, not_or] at hn
      show bindC kindOf r _ n = _
      rw [ih _ _ hn.2]
      split
      · rfl
      · show (if n = p.1 then _ else m n) = _
        rw [if_neg hn.1]
  induction binds with
  | nil => intro m n v _ h; cases h
  | cons p r ih =>
    intro m n v hn hm hk
    rw [List.map_cons, List.nodup_cons] at hn
    show bindC kindOf r _ n = _
    rcases List.mem_cons.mp hm with rfl | hm
    · rw [other _ _ _ hn.1, if_neg hk]; simp
    · exact ih _ n v hn.2 hm hk

noncomputable def sel {α : Type} : List Bool → List α → List α
  | true :: bs, x :: xs => x :: sel bs xs
  | false :: bs, _ :: xs => sel bs xs
  | _, _ => []
theorem sel_get {α : Type} : ∀ {bs : List Bool} {xs : List α} {x : α}, x ∈ sel bs xs → ∃ i : Nat, bs[i]? = some true ∧ xs[i]? = some x
  | [], _, _, h => by simp [sel] at h
  | _ :: _, [], _, h => by rename_i b _; cases b <;> simp [sel] at h
  | true :: bs, y :: ys, x, h => by
    rcases List.mem_cons.mp (show x ∈ y :: sel bs ys from h) with rfl | h
    · exact ⟨0, rfl, rfl⟩
    · obtain ⟨i, h1, h2⟩ := sel_get h; exact ⟨i + 1, by simpa using h1, by simpa using h2⟩
  | false :: bs, y :: ys, x, h => by
    obtain ⟨i, h1, h2⟩ := sel_get (show x ∈ sel bs ys from h); exact ⟨i + 1, by simpa using h1, by simpa using h2⟩

structure Frm where
  ps : List Str
  fl : List Bool
  cs : List (Option Nat)
  ls : List Str
noncomputable def Frm.ns (f : Frm) (xs : List X) : MO := .ns (sel f.fl (f.ps.zip xs) ++ f.ls.map fun n => (n, .any))
noncomputable def cellOf' (xs : List X) : Option Nat → MO
  | some i => .cell (xs.getD i .any)
  | Option.none => .cell .any
noncomputable def Frm.cells (f : Frm) (xs : List X) : List MO := f.cs.map (cellOf' xs)
noncomputable def Frm.led (f : Frm) (xs : List X) : List MO := f.ns xs :: f.cells xs
noncomputable def nodupB : List Str → Bool
  | [] => true
  | x :: r => (r.all fun y => decide (x ≠ y)) && nodupB r
theorem nodup_of : ∀ {l : List Str}, nodupB l = true → l.Nodup
  | [], _ => List.nodup_nil
  | x :: r, h => by
    have h' : (r.all fun y => decide (x ≠ y)) = true ∧ nodupB r = true := by simpa [nodupB] using h
    refine List.nodup_cons.mpr ⟨fun hm => ?_, nodup_of h'.2⟩
    have := List.all_eq_true.mp h'.1 x hm
    simp at this
noncomputable def isK (names : List (Str × NameKind)) (x : Str) (k : NameKind) : Bool := decide (names.lookup x = some k)
noncomputable def Frm.ok (f : Frm) (names : List (Str × NameKind)) : Bool :=
  nodupB f.ps && decide (f.fl.length = f.ps.length) && ((List.range f.ps.length).all fun i => match f.fl[i]?, f.ps[i]? with | some b, some p => isK names p (if b then .local else .cell) | _, _ => false)
    && nodupB (sel f.fl f.ps ++ f.ls) && decide ((cellNames names).length = f.cs.length)
    && ((List.range f.cs.length).all fun j => match (cellNames names)[j]?, f.cs[j]? with
      | some x, some o => decide (cellIx names 0 x Option.none = some j) && (match o with | some i => decide (f.ps[i]? = some x) && isK names x .cell | Option.none => true)
      | _, _ => false)
    && (f.ps.all fun p => isK names p .local || (isK names p .cell && decide (cellIx names 0 p Option.none ≠ Option.none)))
structure Frm.Ok (f : Frm) (names : List (Str × NameKind)) : Prop where
  nd : f.ps.Nodup
  len : f.fl.length = f.ps.length
  kinds : ∀ (i : Nat) (b : Bool) (p : Str), f.fl[i]? = some b → f.ps[i]? = some p → names.lookup p = some (if b then .local else .cell)
  nd2 : (sel f.fl f.ps ++ f.ls).Nodup
  clen : (cellNames names).length = f.cs.length
  cell : ∀ (j : Nat) (o : Option Nat), f.cs[j]? = some o → ∃ x, (cellNames names)[j]? = some x ∧ cellIx names 0 x Option.none = some j ∧ ∀ i, o = some i → f.ps[i]? = some x ∧ names.lookup x = some .cell
  any : ∀ p ∈ f.ps, names.lookup p = some .local ∨ (names.lookup p = some .cell ∧ cellIx names 0 p Option.none ≠ Option.none)
theorem Frm.ok_of {f : Frm} {names : List (Str × NameKind)} (h : f.ok names = true) : f.Ok names := by
  unfold Frm.ok at h
  simp only [Bool.and_eq_true] at h
  obtain ⟨⟨⟨⟨⟨⟨h1, h2⟩, h3⟩, h4⟩, h5⟩, h6⟩, h7⟩ := h
  have hlen := of_decide_eq_true h2
  refine ⟨nodup_of h1, hlen, fun i b p hb hp => ?_, nodup_of h4, of_decide_eq_true h5, fun j o ho => ?_, fun p hp => ?_⟩
  · have := List.all_eq_true.mp h3 i (List.mem_range.mpr (List.getElem?_eq_some_iff.mp hp).1)
    rw [hb, hp] at this
    exact of_decide_eq_true this
  · have := List.all_eq_true.mp h6 j (List.mem_range.mpr (List.getElem?_eq_some_iff.mp ho).1)
    cases hx : (cellNames names)[j]? with
    | none => rw [hx] at this; cases this
    | some x =>
      rw [hx, ho] at this
      simp only [Bool.and_eq_true] at this
      refine ⟨x, rfl, of_decide_eq_true this.1, fun i hi => ?_⟩
      subst hi
      have t := this.2
      simp only [Bool.and_eq_true] at t
      exact ⟨of_decide_eq_true t.1, of_decide_eq_true t.2⟩
  · have := List.all_eq_true.mp h7 p hp
    rw [Bool.or_eq_true, Bool.and_eq_true] at this
    rcases this with h | h
    · exact .inl (of_decide_eq_true h)
    · exact .inr ⟨of_decide_eq_true h.1, of_decide_eq_true h.2⟩
noncomputable def slotOk (names : List (Str × NameKind)) (base nc : Nat) (x : Str) : Slot → Bool
  | .loc => isK names x .local
  | .glb => isK names x .globalImplicit
  | .cel k => isK names x .cell && decide (base < k) && decide (cellIx names 0 x Option.none = some (k - base - 1)) && decide (k - base - 1 < nc)
  | .fre _ => false
noncomputable def tabOk (names : List (Str × NameKind)) (base nc : Nat) (tab : List (Str × Slot)) : Bool := tab.all fun p => slotOk names base nc p.1 p.2

noncomputable def IsFn (W : Wd) (e : DefItem) (a : Addr) : Prop :=
  ∃ o pm code doc, W.mg e.name = some (.ref a) ∧ W.G a = some o ∧ o.data = .func (Calls.docDef e.name e.params e.body e.scope pm code doc) ∧ ∀ h : Heap, (∀ a o, W.G a = some o → h.get? a = some o) → h.CodeRec code e.name
noncomputable def Fn (W : Wd) (f : Value) (n : Nat) (xs : List X) (τ : List MO) (z : X) (τ' : List MO) : Prop :=
  ∀ A, Room A n → ∀ V s vs, St0 W V τ s → XsRp W V xs vs → (∀ x ∈ xs, X.fits τ.length x) → wpAny W.M A (call f vs) (Pt W τ V s τ' fun V' v => XRp W V' z v ∧ z.fits τ'.length) NoE s
theorem XsRp.length {W : Wd} {V : Vw} : ∀ {xs : List X} {vs : List Value}, XsRp W V xs vs → vs.length = xs.length
  | [], _, e => by rw [show _ = [] from e]; rfl
  | _ :: _, _, ⟨_, _, e, _, h⟩ => by rw [e, List.length_cons, List.length_cons, XsRp.length h]
theorem XsRp.get {W : Wd} {V : Vw} : ∀ {xs : List X} {vs : List Value} (_ : XsRp W V xs vs) {i : Nat} {x : X}, xs[i]? = some x → ∃ v, vs[i]? = some v ∧ XRp W V x v
  | [], _, _, i, _, h => by simp at h
  | _ :: _, _, ⟨v, _, e, h1, _⟩, 0, _, h => by cases h; rw [e]; exact ⟨v, rfl, h1⟩
  | _ :: _, _, ⟨_, _, e, _, h2⟩, i + 1, _, h => by rw [e]; exact XsRp.get h2 (i := i) (by simpa using h)
noncomputable def RetQ (z : X) (τ' : List MO) : Out → Prop
  | .ret x σ => x = z ∧ ∃ r, σ = τ' ++ r
  | .nxt σ => z = .tr .none ∧ ∃ r, σ = τ' ++ r
  | _ => False
theorem Room.deeper {A : Around} {n : Nat} (h : Room A (n + 1)) (env : Env) : Room (A.deeper env) n := by
  obtain ⟨h1, h2, h3⟩ := h
  refine ⟨h1, ?_, ?_⟩
  · rw [depth_deeper]; omega
  · rw [Around.deeper_units]; omega
theorem zip_mem {α β : Type} : ∀ {as : List α} {bs : List β} {i : Nat} {a : α} {b : β}, as[i]? = some a → bs[i]? = some b → (a, b) ∈ as.zip bs
  | [], _, _, _, _, h, _ => by simp at h
  | _ :: _, [], _, _, _, _, h => by simp at h
  | _ :: _, _ :: _, 0, _, _, h, h' => by cases h; cases h'; exact .head _
  | _ :: _, _ :: _, i + 1, _, _, h, h' => .tail _ (zip_mem (i := i) (by simpa using h) (by simpa using h'))
theorem zip_names {α β : Type} : ∀ {as : List α} {bs : List β}, bs.length = as.length → (as.zip bs).map (·.1) = as
  | [], _, _ => by simp
  | _ :: _, [], h => by simp at h
  | a :: as, b :: bs, h => by rw [List.zip_cons_cons, List.map_cons, zip_names (by simpa using h)]
theorem sel_names {α β : Type} : ∀ {fl : List Bool} {as : List α} {bs : List β}, bs.length = as.length → (sel fl (as.zip bs)).map (·.1) = sel fl as
  | [], _, _, _ => by cases ‹List α› <;> simp [sel]
  | b :: fl, [], _, _ => by cases b <;> simp [sel]
  | _ :: _, _ :: _, [], h => by simp at h
  | true :: fl, a :: as, b :: bs, h => by show a :: List.map _ (sel fl (as.zip bs)) = a :: _; rw [sel_names (by simpa using h)]
  | false :: fl, a :: as, b :: bs, h => by show List.map _ (sel fl (as.zip bs)) = sel fl as; rw [sel_names (by simpa using h)]

noncomputable def IsFd (W : Wd) (fd : FuncData) (a : Addr) : Prop := ∃ o, W.G a = some o ∧ o.data = .func fd ∧ ∀ h : Heap, (∀ a o, W.G a = some o → h.get? a = some o) → h.CodeRec fd.code fd.qualname
noncomputable def FnC (W : Wd) (f : Value) (n : Nat) (xs : List X) (τ : List MO) (z : X) (τ' : List MO) : Prop :=
  ∀ A, Room A n → ∀ V s vs, St0 W V τ s → XsRp W V xs vs → (∀ x ∈ xs, X.fits τ.length x) → codeAny W.M A (.call f ⟨vs, []⟩) (fun r s' => match r with | .ok (.ret v) => Pt W τ V s τ' (fun V' v => XRp W V' z v ∧ z.fits τ'.length) v s' | .ok _ => False | .error e => NoE e s') s
theorem FnC.fn {W : Wd} {f : Value} {n : Nat} {xs : List X} {τ τ' : List MO} {z : X} (h : FnC W f n xs τ z τ') : Fn W f n xs τ z τ' := fun A hA V s vs S R hf => wpAny_call (h A hA V s vs S R hf)
theorem FnC.mkD {W : Wd} {fd : FuncData} {body : List Stmt} {a : Addr} {n : Nat} {xs : List X} {τ τ' : List MO} {z : X} (hf : IsFd W fd a) (hbody : fd.body = .stmts body) (hcl : fd.closure = []) (hgl : fd.globals = mainGlobals) (hbl : fd.builtins = builtinsNs) (f : Frm) (tab : List (Str × Slot)) (hx : xs.length = f.ps.length)
    (hbind : ∀ (vs : List Value), vs.length = f.ps.length → bindArgs fd ⟨vs, []⟩ = pure (f.ps.zip vs))
    (cur : Nat) (σ0 : List MO) (hcur : τ.length = cur) (hσ : τ ++ f.led xs = σ0) (hx' : ∀ c : Cx, c.W = W → c.n = n → Ex c ⟨cur, tab, []⟩ body σ0 (RetQ z τ')) (hzf : z.fits τ'.length) (hτ : τ.length ≤ τ'.length) (hτf : ∀ mo ∈ τ', mo.fits τ'.length)
    (hok : f.ok fd.scope.names = true) (htab : tabOk fd.scope.names cur f.cs.length tab = true)
    (hco : fd.scope.isCoroutine = false := by rfl) (hgen : fd.scope.isGenerator = false := by rfl) (hk : fd.scope.kind = .function := by rfl) : FnC W (.ref a) (n + 1) xs τ z τ' := by
  subst hcur; subst hσ
  intro A hA V s vs S R hfit
  obtain ⟨o, hG, hdat, hcode⟩ := hf
  have hheap : ∀ a o, W.G a = some o → s.heap.get? a = some o := fun a o e => S.keep a o (S.base a o e)
  have g := W.gd s.heap hheap
  have OK := Frm.ok_of hok
  have hvl : vs.length = f.ps.length := by rw [R.length, hx]
  have hd1 : A.depth < recursionLimit := by have := hA.2.1; omega
  refine (codeAny_call_cells (fd := fd) hd1 (hheap _ _ hG) hdat g.2.2 (hcode _ hheap) hbody (hbind vs hvl) hcl ?_ ?_ hco hgen hk)
  · intro x hx
    obtain ⟨i, hi⟩ := List.mem_iff_getElem?.mp hx
    have hp : x.1 ∈ f.ps := (List.of_mem_zip hx).1
    rcases OK.any _ hp with h | ⟨h, h'⟩
    · exact .inl h
    · refine .inr ⟨h, ?_⟩
      show ((cellsFrom (s.heap.objs.size + 1) fd.scope.names []).lookup x.1).isSome = true
      have := cellsFrom_lookup (s.heap.objs.size + 1) [] fd.scope.names 0 [] x.1 Option.none rfl
      rw [show s.heap.objs.size + 1 = s.heap.objs.size + 1 + 0 from rfl, this]
      cases q : cellIx fd.scope.names 0 x.1 Option.none with
      | none => exact absurd q h'
      | some j => rfl
  · intro s₁ I
    have key : ∀ x, (callEnvC (fd) s.heap.objs.size a).cells.lookup x = (cellIx fd.scope.names 0 x Option.none).map (s.heap.objs.size + 1 + ·) := fun x => by
      have := cellsFrom_lookup (s.heap.objs.size + 1) [] fd.scope.names 0 [] x Option.none rfl
      show (cellsFrom (s.heap.objs.size + 1 + 0) fd.scope.names []).lookup x = _
      rw [this]
      cases cellIx fd.scope.names 0 x Option.none <;> rfl
    have nd : ((f.ps.zip vs).map (·.1)).Nodup := by rw [zip_names hvl]; exact OK.nd
    have nsOk : ∀ p ∈ (sel f.fl (f.ps.zip xs) ++ f.ls.map fun n => (n, X.any)), ORp W V p.2 (bindL (callEnvC (fd) s.heap.objs.size a).kindOf (f.ps.zip vs) (fun _ => Option.none) p.1) := by
      intro p hp
      rcases List.mem_append.mp hp with hp | hp
      · obtain ⟨i, hb, hz⟩ := sel_get hp
        rw [List.getElem?_zip_eq_some] at hz
        obtain ⟨v, hv, rv⟩ := R.get hz.2
        have hloc := OK.kinds i true p.1 hb hz.1
        rw [bindL_get _ _ _ p.1 v nd (zip_mem hz.1 hv) hloc]
        exact ORp_of rv
      · obtain ⟨n, _, rfl⟩ := List.mem_map.mp hp
        trivial
    have cellAt : ∀ (j : Nat) (o : Option Nat), f.cs[j]? = some o → MRp W V s₁.heap (s.heap.objs.size + (j + 1)) (cellOf' xs o) := by
      intro j o ho
      obtain ⟨x, hx1, hx2, hx3⟩ := OK.cell j o ho
      have hc := I.cell x (s.heap.objs.size + 1 + j) (by rw [key, hx2]; rfl)
      rw [show s.heap.objs.size + 1 + j = s.heap.objs.size + (j + 1) by omega] at hc
      cases o with
      | none => exact ⟨_, hc, trivial⟩
      | some i =>
        obtain ⟨hp, hcell⟩ := hx3 i rfl
        refine ⟨_, hc, ?_⟩
        cases hxi : xs[i]? with
        | none =>
          have := (List.getElem?_eq_some_iff.mp hp).1
          rw [List.getElem?_eq_none_iff] at hxi
          omega
        | some xv =>
          obtain ⟨v, hv, rv⟩ := R.get hxi
          rw [List.getD_eq_getElem?_getD, hxi]
          rw [bindC_get _ _ _ x v nd (zip_mem hp hv) (by show fd.scope.names.lookup x ≠ _; rw [hcell]; decide)]
          exact ORp_of rv
    have hsz : s.heap.objs.size + (f.led xs).length ≤ s₁.heap.objs.size := by
      show s.heap.objs.size + ((f.cs.map (cellOf' xs)).length + 1) ≤ _
      rw [List.length_map]
      by_cases hz : f.cs.length = 0
      · have h1 := I.toInCall.ns.lt
        have h2 : s.heap.objs.size < s₁.heap.objs.size := h1
        omega
      · obtain ⟨o, ho⟩ : ∃ o, f.cs[f.cs.length - 1]? = some o := ⟨_, List.getElem?_eq_getElem (by omega)⟩
        obtain ⟨x, hx1, hx2, hx3⟩ := OK.cell _ o ho
        have hc := (I.cell x (s.heap.objs.size + 1 + (f.cs.length - 1)) (by rw [key, hx2]; rfl)).lt
        have h2 : s.heap.objs.size + 1 + (f.cs.length - 1) < s₁.heap.objs.size := hc
        omega
    obtain ⟨h₁, tk₁, hs₁⟩ := I.toInCall.same
    have z0 := S.news (mos := f.led xs) (s' := s₁) I.toInCall.keep (fun i mo hm => by
      cases i with
      | zero =>
        have : mo = f.ns xs := by simpa [Frm.led] using hm.symm
        subst this
        exact ⟨_, I.toInCall.ns, by rw [List.map_append, sel_names hx, List.map_map, show ((fun x : Str × X => x.1) ∘ fun n => (n, X.any)) = id from rfl, List.map_id]; exact OK.nd2, nsOk⟩
      | succ j =>
        have hm' : (f.cs.map (cellOf' xs))[j]? = some mo := by simpa [Frm.led, Frm.cells] using hm
        rw [List.getElem?_map] at hm'
        cases ho : f.cs[j]? with
        | none => rw [ho] at hm'; cases hm'
        | some o => rw [ho] at hm'; cases hm'; exact cellAt j o ho) (fun mo hm => by
      rcases List.mem_cons.mp hm with rfl | hm
      · intro p hp
        rcases List.mem_append.mp hp with hp | hp
        · obtain ⟨i, hb, hz⟩ := sel_get hp
          rw [List.getElem?_zip_eq_some] at hz
          exact hfit _ (List.mem_of_getElem? hz.2)
        · obtain ⟨n, _, rfl⟩ := List.mem_map.mp hp; trivial
      · obtain ⟨o, _, rfl⟩ := List.mem_map.mp hm
        cases o with
        | none => trivial
        | some i =>
          show (xs.getD i .any).fits _
          rw [List.getD_eq_getElem?_getD]
          cases hxi : xs[i]? with
          | none => trivial
          | some x => exact hfit _ (List.mem_of_getElem? hxi)) hsz (by rw [hs₁]) (by rw [hs₁])
    generalize hV' : V.puts τ.length s.heap.objs.size = V' at z0
    obtain ⟨S', E'⟩ := z0
    have hL : V'.ad τ.length = s.heap.objs.size := by rw [← hV']; show (if τ.length < τ.length then _ else s.heap.objs.size + (τ.length - τ.length)) = _; rw [if_neg (Nat.lt_irrefl _)]; simp
    have had : ∀ k, τ.length < k → V'.ad k = s.heap.objs.size + (k - τ.length) := fun k hk => by rw [← hV']; show (if k < τ.length then _ else _) = _; rw [if_neg (by omega)]
    let c : Cx := ⟨W, A.deeper (callEnvC (fd) s.heap.objs.size a), callEnvC (fd) s.heap.objs.size a, n, hk, hgl, hbl, hA.deeper _⟩
    have F' : Fo c ⟨τ.length, tab, []⟩ V' (τ ++ f.led xs).length := by
      refine ⟨hL.symm, by rw [List.length_append]; simp [Frm.led], fun p hp => ?_, fun p hp => (nomatch hp)⟩
      have := List.all_eq_true.mp htab p hp
      obtain ⟨x, sl⟩ := p
      cases sl with
      | loc => exact of_decide_eq_true (p := fd.scope.names.lookup x = some .local) this
      | glb => exact of_decide_eq_true (p := fd.scope.names.lookup x = some .globalImplicit) this
      | fre k => cases this
      | cel k =>
        simp only [slotOk, Bool.and_eq_true] at this
        obtain ⟨⟨⟨h1, h2⟩, h3⟩, h4⟩ := this
        have h2' := of_decide_eq_true h2
        have h4' := of_decide_eq_true h4
        refine ⟨of_decide_eq_true h1, ?_, ?_⟩
        · show (callEnvC _ _ _).cells.lookup x = _
          rw [key, of_decide_eq_true h3, had k h2']
          show some _ = some _
          congr 1
          show s.heap.objs.size + 1 + (k - τ.length - 1) = s.heap.objs.size + (k - τ.length)
          omega
        · show k < (τ ++ f.led xs).length
          rw [List.length_append]
          show k < τ.length + ((f.cs.map (cellOf' xs)).length + 1)
          rw [List.length_map]; omega
    refine wpAny_mono (hx' c rfl rfl V' s₁ S' F') (fun fl s₂ ⟨σ₂, V₂, E₂, S₂, q⟩ => ?_) fun _ _ e => e.elim
    have fin : ∀ r, σ₂ = τ' ++ r → Ext τ V s τ' V₂ s₂ ∧ St0 W V₂ τ' s₂ := fun r e => by
      subst e
      exact ⟨(E'.trans E₂).take hτ, S₂.take fun k mo hk => hτf mo (List.mem_of_getElem? hk)⟩
    cases fl with
    | next => obtain ⟨hz, r, e⟩ := q; exact ⟨V₂, (fin r e).1, (fin r e).2, by rw [hz]; rfl, hzf⟩
    | cont => exact q.elim
    | brk => exact q.elim
    | ret v => obtain ⟨x, rx, _, hz, r, e⟩ := q; exact ⟨V₂, (fin r e).1, (fin r e).2, by rw [← hz]; exact rx, hzf⟩

theorem Fn.mkD {W : Wd} {fd : FuncData} {body : List Stmt} {a : Addr} {n : Nat} {xs : List X} {τ τ' : List MO} {z : X} (hf : IsFd W fd a) (hbody : fd.body = .stmts body) (hcl : fd.closure = []) (hgl : fd.globals = mainGlobals) (hbl : fd.builtins = builtinsNs) (f : Frm) (tab : List (Str × Slot)) (hx : xs.length = f.ps.length)
    (hbind : ∀ (vs : List Value), vs.length = f.ps.length → bindArgs fd ⟨vs, []⟩ = pure (f.ps.zip vs))
    (cur : Nat) (σ0 : List MO) (hcur : τ.length = cur) (hσ : τ ++ f.led xs = σ0) (hx' : ∀ c : Cx, c.W = W → c.n = n → Ex c ⟨cur, tab, []⟩ body σ0 (RetQ z τ')) (hzf : z.fits τ'.length) (hτ : τ.length ≤ τ'.length) (hτf : ∀ mo ∈ τ', mo.fits τ'.length)
    (hok : f.ok fd.scope.names = true) (htab : tabOk fd.scope.names cur f.cs.length tab = true)
    (hco : fd.scope.isCoroutine = false := by rfl) (hgen : fd.scope.isGenerator = false := by rfl) (hk : fd.scope.kind = .function := by rfl) : Fn W (.ref a) (n + 1) xs τ z τ' :=
  FnC.fn (FnC.mkD hf hbody hcl hgl hbl f tab hx hbind cur σ0 hcur hσ hx' hzf hτ hτf hok htab hco hgen hk)
theorem Fn.mk {W : Wd} {e : DefItem} {a : Addr} {n : Nat} {xs : List X} {τ τ' : List MO} {z : X} (hf : IsFn W e a) (f : Frm) (tab : List (Str × Slot)) (hx : xs.length = f.ps.length)
    (hbind : ∀ pm code doc (vs : List Value), vs.length = f.ps.length → bindArgs (Calls.docDef e.name e.params e.body e.scope pm code doc) ⟨vs, []⟩ = pure (f.ps.zip vs))
    (cur : Nat) (σ0 : List MO) (hcur : τ.length = cur) (hσ : τ ++ f.led xs = σ0) (body : ∀ c : Cx, c.W = W → c.n = n → Ex c ⟨cur, tab, []⟩ e.body σ0 (RetQ z τ')) (hzf : z.fits τ'.length) (hτ : τ.length ≤ τ'.length) (hτf : ∀ mo ∈ τ', mo.fits τ'.length)
    (hok : f.ok e.scope.names = true := by decide +kernel) (htab : tabOk e.scope.names cur f.cs.length tab = true := by decide +kernel)
    (hco : e.scope.isCoroutine = false := by rfl) (hgen : e.scope.isGenerator = false := by rfl) (hk : e.scope.kind = .function := by rfl) : Fn W (.ref a) (n + 1) xs τ z τ' := by
  obtain ⟨o, pm, code, doc, hmg, hG, hdat, hcode⟩ := hf
  exact Fn.mkD (fd := Calls.docDef e.name e.params e.body e.scope pm code doc) ⟨o, hG, hdat, hcode⟩ rfl rfl rfl rfl f tab hx (hbind pm code doc) cur σ0 hcur hσ body hzf hτ hτf hok htab hco hgen hk
theorem FnC.mk {W : Wd} {e : DefItem} {a : Addr} {n : Nat} {xs : List X} {τ τ' : List MO} {z : X} (hf : IsFn W e a) (f : Frm) (tab : List (Str × Slot)) (hx : xs.length = f.ps.length)
    (hbind : ∀ pm code doc (vs : List Value), vs.length = f.ps.length → bindArgs (Calls.docDef e.name e.params e.body e.scope pm code doc) ⟨vs, []⟩ = pure (f.ps.zip vs))
    (cur : Nat) (σ0 : List MO) (hcur : τ.length = cur) (hσ : τ ++ f.led xs = σ0) (body : ∀ c : Cx, c.W = W → c.n = n → Ex c ⟨cur, tab, []⟩ e.body σ0 (RetQ z τ')) (hzf : z.fits τ'.length) (hτ : τ.length ≤ τ'.length) (hτf : ∀ mo ∈ τ', mo.fits τ'.length)
    (hok : f.ok e.scope.names = true := by decide +kernel) (htab : tabOk e.scope.names cur f.cs.length tab = true := by decide +kernel)
    (hco : e.scope.isCoroutine = false := by rfl) (hgen : e.scope.isGenerator = false := by rfl) (hk : e.scope.kind = .function := by rfl) : FnC W (.ref a) (n + 1) xs τ z τ' := by
  obtain ⟨o, pm, code, doc, hmg, hG, hdat, hcode⟩ := hf
  exact FnC.mkD (fd := Calls.docDef e.name e.params e.body e.scope pm code doc) ⟨o, hG, hdat, hcode⟩ rfl rfl rfl rfl f tab hx (hbind pm code doc) cur σ0 hcur hσ body hzf hτ hτf hok htab hco hgen hk
end Mine
-- B9
namespace Mine
noncomputable def CaX (c : Cx) (f : Value) (xs : List X) (σ : List MO) (z : X) (σ' : List MO) : Prop :=
  ∀ V s vs, St0 c.W V σ s → XsRp c.W V xs vs → (∀ x ∈ xs, X.fits σ.length x) → wpAny c.W.M c.A (call f vs) (Pt c.W σ V s σ' fun V' v => XRp c.W V' z v ∧ z.fits σ'.length) NoE s
theorem Room.mono {A : Around} {n m : Nat} (h : Room A n) (hm : m ≤ n) : Room A m := ⟨h.1, by have := h.2.1; omega, by have := h.2.2; omega⟩
section
variable {c : Cx} {d : Sd} {σ σ₁ σ₂ σ₃ : List MO}

theorem St0.frame {W : Wd} {V V' : Vw} {s s' : Shared} (S : St0 W V σ s) (E : Ext [] V s [] V' s') (S' : St0 W V' [] s') : St0 W ⟨V'.F, V.ad⟩ σ s' ∧ Ext σ V s σ ⟨V'.F, V.ad⟩ s' := by
  have kp : ∀ a o, s.heap.get? a = some o → s'.heap.get? a = some o := fun a o e => E.kept a o (fun k hk => absurd hk (Nat.not_lt_zero _)) e
  have nw : ∀ a o, V'.F a = some o → V.F a = some o ∨ s.heap.objs.size ≤ a := fun a o e => by
    rcases E.new a o e with h | h | ⟨k, hk, _⟩
    · exact .inl h
    · exact .inr h
    · exact absurd hk (Nat.not_lt_zero _)
  refine ⟨⟨S'.keep, S'.base, fun k mo e => (S.led k mo e).mono (V' := ⟨V'.F, V.ad⟩) (fun o => kp _ o) E.F (S.fit k mo e) fun _ _ => rfl, S.inj, fun k mo e hv => ?_, fun k h => Nat.lt_of_lt_of_le (S.bnd k h) E.len, S.fit, S'.gen, S'.os⟩,
    Ext.mk' E.F (fun a o e => (nw a o e).elim .inl fun h => .inr (.inl h)) (fun _ _ => rfl) (fun a o _ e => kp a o e) (fun k h h' => absurd h' (Nat.not_lt.mpr h)) E.len (Nat.le_refl _)⟩
  cases q : V'.F (V.ad k) with
  | none => rfl
  | some o =>
    rcases nw _ o q with x | x
    · rw [S.out k mo e hv] at x; cases x
    · exact absurd (S.bnd k (List.getElem?_eq_some_iff.mp e).1) (Nat.not_lt.mpr x)
theorem XsRp.trees {W : Wd} {V V' : Vw} (h : ∀ a o, V.F a = some o → V'.F a = some o) : ∀ {ts : List T} {vs : List Value}, XsRp W V (ts.map X.tr) vs → XsRp W V' (ts.map X.tr) vs
  | [], _, e => e
  | t :: _, _, ⟨v, r, e, h1, h2⟩ => ⟨v, r, e, Rp.mono h t v h1, XsRp.trees h h2⟩
theorem CaX.fn {f : Value} {n : Nat} {ts : List T} {t : T} (h : Fn c.W f n (ts.map X.tr) [] (.tr t) []) (hn : n ≤ c.n) : CaX c f (ts.map X.tr) σ (.tr t) σ := fun V s vs S R _ => by
  refine wpAny_mono (h c.A (c.hA.mono hn) V s vs (St0.take (σ := []) (τ := σ) S fun _ _ e => by simp at e) R fun x hx => ?_) (fun v s' ⟨V', E, S', q⟩ => ?_) fun _ _ e => e
  · obtain ⟨t, _, rfl⟩ := List.mem_map.mp hx; trivial
  · have z := S.frame E S'
    exact ⟨_, z.2, z.1, q.1, trivial⟩
theorem St0.frame1 {W : Wd} {V V' : Vw} {s s' : Shared} {k : Nat} {mo mo' : MO} (S : St0 W V σ s) (hk : σ[k]? = some mo) (hv : mo.live = true) (hf : mo'.fits σ.length) (hb : ∀ V V' : Vw, ∀ h a, V.F = V'.F → MRp W V h a mo' → MRp W V' h a mo') (E : Ext [mo] ⟨V.F, fun _ => V.ad k⟩ s [mo'] V' s') (S' : St0 W V' [mo'] s') :
    St0 W ⟨V'.F, V.ad⟩ (σ.set k mo') s' ∧ Ext σ V s (σ.set k mo') ⟨V'.F, V.ad⟩ s' := by
  have hlt : k < σ.length := (List.getElem?_eq_some_iff.mp hk).1
  have had : V'.ad 0 = V.ad k := E.ad 0 (Nat.lt_succ_self _)
  have kp : ∀ a o, a ≠ V.ad k → s.heap.get? a = some o → s'.heap.get? a = some o := fun a o ha e => E.kept a o (fun j hj q => ha q) e
  have nw : ∀ a o, V'.F a = some o → V.F a = some o ∨ s.heap.objs.size ≤ a ∨ a = V.ad k := fun a o e => by
    rcases E.new a o e with h | h | ⟨j, hj, q⟩
    · exact .inl h
    · exact .inr (.inl h)
    · exact .inr (.inr q)
  refine ⟨⟨S'.keep, S'.base, fun j mo e => ?_, fun i j h1 h2 e => ?_, fun j mo1 e hv' => ?_, fun j h => ?_, fun j mo1 e => ?_, S'.gen, S'.os⟩,
    Ext.mk' E.F (fun a o e => ?_) (fun _ _ => rfl) (fun a o ha e => kp a o (ha k hlt) e) (fun j h h' => absurd h' (Nat.not_lt.mpr (by rw [List.length_set]; exact h))) E.len (by rw [List.length_set]; exact Nat.le_refl _)⟩
  · by_cases hj : k = j
    · subst hj
      rw [List.getElem?_set_self hlt] at e; cases e
      have := S'.led 0 mo' rfl
      rw [had] at this
      exact hb V' ⟨V'.F, V.ad⟩ s'.heap _ rfl this
    · rw [List.getElem?_set_ne hj] at e
      have hjl : j < σ.length := (List.getElem?_eq_some_iff.mp e).1
      exact (S.led j mo e).mono (V' := ⟨V'.F, V.ad⟩) (fun o => kp _ o fun q => hj (S.inj k j hlt hjl q.symm)) E.F (S.fit j mo e) fun _ _ => rfl
  · rw [List.length_set] at h1 h2; exact S.inj i j h1 h2 e
  · by_cases hj : k = j
    · subst hj
      rw [List.getElem?_set_self hlt] at e; cases e
      have := S'.out 0 mo' rfl hv'
      rw [had] at this; exact this
    · rw [List.getElem?_set_ne hj] at e
      have hjl : j < σ.length := (List.getElem?_eq_some_iff.mp e).1
      cases q : V'.F (V.ad j) with
      | none => rfl
      | some o =>
        rcases nw _ o q with x | x | x
        · rw [S.out j mo1 e hv'] at x; cases x
        · exact absurd (S.bnd j hjl) (Nat.not_lt.mpr x)
        · exact absurd (S.inj j k hjl hlt x).symm hj
  · rw [List.length_set] at h; exact Nat.lt_of_lt_of_le (S.bnd j h) E.len
  · rw [List.length_set]
    by_cases hj : k = j
    · subst hj; rw [List.getElem?_set_self hlt] at e; cases e; exact hf
    · rw [List.getElem?_set_ne hj] at e; exact S.fit j mo1 e
  · rcases nw a o e with x | x | x
    · exact .inl x
    · exact .inr (.inl x)
    · exact .inr (.inr ⟨k, hlt, x⟩)
theorem CaX.fnBit {f : Value} {n k i i' : Nat} {b : List UInt8} {t : T} (h : Fn c.W f n [.mt 0] [.bit b i] (.tr t) [.bit b i']) (hn : n ≤ c.n) (hk : PutL σ k (.bit b i) (.bit b i') σ₁) : CaX c f [.mt k] σ (.tr t) σ₁ := fun V s vs S R _ => by
  obtain ⟨v, r, e, hv, er⟩ := R
  have er' : r = [] := er
  subst er'; subst e
  have hlt : k < σ.length := (List.getElem?_eq_some_iff.mp hk.get).1
  have S0 : St0 c.W ⟨V.F, fun _ => V.ad k⟩ [.bit b i] s := by
    refine ⟨S.keep, S.base, fun j mo e => ?_, fun i j h1 h2 _ => ?_, fun j mo e hv => ?_, fun j h => S.bnd k hlt, fun j mo e => ?_, S.gen, S.os⟩
    · cases j with
      | zero => cases e; exact S.led k _ hk.get
      | succ j => simp at e
    · simp at h1 h2; omega
    · cases j with
      | zero => cases e; exact S.out k _ hk.get rfl
      | succ j => simp at e
    · cases j with
      | zero => cases e; trivial
      | succ j => simp at e
  refine wpAny_mono (h c.A (c.hA.mono hn) _ s [v] S0 ⟨v, [], rfl, hv, rfl⟩ fun x hx => ?_) (fun v s' ⟨V', E, S', q⟩ => ?_) fun _ _ e => e
  · rw [List.mem_singleton.mp hx]; exact Nat.lt_succ_self _
  · have z := S.frame1 (mo' := .bit b i') hk.get rfl trivial (fun _ _ _ _ _ m => m) E S'
    rw [hk.set]
    exact ⟨_, z.2, z.1, q.1, trivial⟩

theorem EvX.call {func e : Expr} {rest : List Expr} {pos : Pos} {a : Addr} {it : DefItem} {xs : List X} {z : X} (h0 : Ev c d func σ (.val (.ref a)) σ) (hfn : IsFn c.W it a) (hs : EvS c d (e :: rest) σ xs σ₁) (hc : CaX c (.ref a) xs σ₁ z σ₂)
    (he : eval (.Call func (e :: rest) [] pos) c.env = (do callWith pos (← eval func c.env) [] (backTo pos (starEach (e :: rest) c.env)) (backToKw pos (keywordEach [] c.env))) := by rfl)
    (hst : starEach (e :: rest) c.env = (false, eval e c.env) :: starEach rest c.env := by rfl) : EvX c d (.Call func (e :: rest) [] pos) σ z σ₂ := fun V s S F => by
  obtain ⟨o, pm, code, doc, _, hG, hdat, _⟩ := hfn
  refine Call_ (seq (h0 V s S F) fun V₁ s₁ f E₁ S₁ q₁ => ?_) he
  have hf : f = .ref a := q₁.1
  subst hf
  refine callWith_def (o := o) hdat (seq (hs V₁ s₁ pos S₁ (F.ext E₁)) fun V₂ s₂ vs E₂ S₂ q₂ => ?_) hst
  exact ⟨S₂.keep _ _ (S₂.base _ _ hG), later (E₁.trans E₂) (hc V₂ s₂ vs S₂ q₂.1 q₂.2)⟩
theorem EvX.callB {func e : Expr} {rest : List Expr} {pos : Pos} {id : String} {xs : List X} {z : X} (h0 : Ev c d func σ (.val (.builtin id)) σ) (hs : EvS c d (e :: rest) σ xs σ₁) (hc : CaX c (.builtin id) xs σ₁ z σ₂)
    (he : eval (.Call func (e :: rest) [] pos) c.env = (do callWith pos (← eval func c.env) [] (backTo pos (starEach (e :: rest) c.env)) (backToKw pos (keywordEach [] c.env))) := by rfl)
    (hst : starEach (e :: rest) c.env = (false, eval e c.env) :: starEach rest c.env := by rfl) (hpl : (backTo pos (starEach rest c.env)).any (·.1) = false := by rfl) : EvX c d (.Call func (e :: rest) [] pos) σ z σ₂ := fun V s S F => by
  refine Call_ (seq (h0 V s S F) fun V₁ s₁ f E₁ S₁ q₁ => ?_) he
  have hf : f = .builtin id := q₁.1
  subst hf
  exact callWith_builtin1 (seq (hs V₁ s₁ pos S₁ (F.ext E₁)) fun V₂ s₂ vs E₂ S₂ q₂ => later (E₁.trans E₂) (hc V₂ s₂ vs S₂ q₂.1 q₂.2)) hst hpl
theorem EvX.callT {func e : Expr} {rest : List Expr} {pos : Pos} {id : String} {xs : List X} {z : X} (h0 : Ev c d func σ (.val (.type id)) σ) (hs : EvS c d (e :: rest) σ xs σ₁) (hc : CaX c (.type id) xs σ₁ z σ₂)
    (he : eval (.Call func (e :: rest) [] pos) c.env = (do callWith pos (← eval func c.env) [] (backTo pos (starEach (e :: rest) c.env)) (backToKw pos (keywordEach [] c.env))) := by rfl)
    (hst : starEach (e :: rest) c.env = (false, eval e c.env) :: starEach rest c.env := by rfl) (hpl : (backTo pos (starEach rest c.env)).any (·.1) = false := by rfl) : EvX c d (.Call func (e :: rest) [] pos) σ z σ₂ := fun V s S F => by
  refine Call_ (seq (h0 V s S F) fun V₁ s₁ f E₁ S₁ q₁ => ?_) he
  have hf : f = .type id := q₁.1
  subst hf
  exact callWith_type1 (seq (hs V₁ s₁ pos S₁ (F.ext E₁)) fun V₂ s₂ vs E₂ S₂ q₂ => later (E₁.trans E₂) (hc V₂ s₂ vs S₂ q₂.1 q₂.2)) hst hpl
end
end Mine
-- B10
namespace Mine
section
variable {c : Cx} {d : Sd} {σ σ₁ σ₂ σ₃ : List MO}

theorem Ev.bt {x : Str} {pos : Pos} {v : Value} (hv : bootBuiltins x = some v) (hs : (x, Slot.glb) ∈ d.tab) (hn : c.W.mg x = Option.none) (h1 : x ≠ "__name__" := by decide) (hd : (x == ("__debug__" : Str)) = false := by decide) : Ev c d (.Name x pos) σ (.val v) σ :=
  Ev.blt hs hn ((c.W.bt x h1).trans hv) hd

theorem Rps.ints {W : Wd} {F : Fz} : ∀ {ns : List Int} {vs : List Value}, Rps W F (ns.map T.int) vs → IntsAre vs ns
  | [], _, e => by rw [show _ = [] from e]; exact .nil
  | n :: ns, _, ⟨v, r, e, ⟨t, e1⟩, h⟩ => by rw [e, e1]; exact .cons n t (Rps.ints h)
theorem Rps.ofInts {W : Wd} {F : Fz} : ∀ {ns : List Int} {vs : List Value}, IntsAre vs ns → Rps W F (ns.map T.int) vs
  | _, _, .nil => rfl
  | _, _, .cons n t h => ⟨_, _, rfl, ⟨t, rfl⟩, Rps.ofInts h⟩

theorem XsRp.one {W : Wd} {V : Vw} {x : X} {vs : List Value} (h : XsRp W V [x] vs) : ∃ v, vs = [v] ∧ XRp W V x v := by
  obtain ⟨v, r, e, h1, h2⟩ := h
  rw [show r = [] from h2] at e
  exact ⟨v, e, h1⟩
theorem XsRp.two {W : Wd} {V : Vw} {x y : X} {vs : List Value} (h : XsRp W V [x, y] vs) : ∃ v u, vs = [v, u] ∧ XRp W V x v ∧ XRp W V y u := by
  obtain ⟨v, r, e, h1, u, r', e', h2, h3⟩ := h
  rw [show r' = [] from h3] at e'
  rw [e'] at e
  exact ⟨v, u, e, h1, h2⟩
theorem XsRp.three {W : Wd} {V : Vw} {x y z : X} {vs : List Value} (h : XsRp W V [x, y, z] vs) : ∃ v u w, vs = [v, u, w] ∧ XRp W V x v ∧ XRp W V y u ∧ XRp W V z w := by
  obtain ⟨v, r, e, h1, h2⟩ := h
  obtain ⟨u, w, e', h3, h4⟩ := XsRp.two h2
  rw [e'] at e
  exact ⟨v, u, w, e, h1, h3, h4⟩

theorem CaX.lenS {x : Str} (h : x.length < 1000000) : CaX c (.builtin "len") [.tr (.str x)] σ (.tr (.int x.length)) σ := fun V s vs S R _ => by
  obtain ⟨v, rfl, t, e⟩ := R.one
  subst e
  exact P.len_str (by omega) (Pt.tok S _ ⟨⟨_, rfl⟩, trivial⟩)
theorem CaX.nextBit {k i : Nat} {b : List UInt8} {u : UInt8} (hk : PutL σ k (.bit b i) (.bit b (i + 1)) σ₁) (hu : b[i]? = some u) : CaX c (.builtin "next") [.mt k] σ (.tr (.int u.toNat)) σ₁ := fun V s vs S R _ => by
  obtain ⟨v, rfl, r⟩ := R.one
  have e : v = .ref (V.ad k) := r
  subst e
  obtain ⟨t, o, ho, hc, hd⟩ := S.led _ _ hk.get
  have hit : KBw.IsBytesIter s.heap (V.ad k) b.toArray t i := ⟨o, ho, hc, hd⟩
  refine wpAny_size (Calls.call_function_entry (by decide +kernel) (by decide +kernel) kdk_entry_next (kdk_args_next _) ?_)
  unfold Builtin.«next»
  refine wpAny_bind (m := someArgs "next" 1 2 _) (wpAny_of_eq (a := [Value.ref (V.ad k)]) (by first | rfl | kernel_rfl!) ?_)
  dsimp only
  refine wpAny_bind (wpAny_specialOf (name := Str.ofString "__next__") (KBw.iter_typeIs hit) KBw.slot_next.lookup ?_)
  refine wpAny_ite_split (fun hab => absurd hab (by decide)) (fun _ => ?_)
  refine wpAny_bind ?_
  refine wpAny_callSpecial?_slot (name := PySem.Str.ofString "__next__") (KBw.iter_typeIs hit) KBw.slot_next
    (wpAny_call_entry KBw.slot_next (KBw.iter_typeIs hit) KBw.entry_next ?_ (KBw.args_next _))
  show wpAny _ _ (field (.ref (V.ad k)) 0 >>= _) _ _ s
  refine wpAny_bind (wpAny_field ho hd (x := .bytes b.toArray t) rfl ?_)
  show wpAny _ _ (if (Value.bytes b.toArray t == Value.none) = true then _ else _) _ _ s
  rw [if_neg (show ¬ ((Value.bytes b.toArray t == Value.none) = true) from Bool.false_ne_true)]
  show wpAny _ _ (field (.ref (V.ad k)) 1 >>= _) _ _ s
  refine wpAny_bind (wpAny_field ho hd (x := .int i 0) rfl ?_)
  refine wpAny_bind (wpAny_of_eq (a := b.toArray) rfl ?_)
  have hu' : b.toArray[i]? = some u := by simpa using hu
  simp only [Int.toNat_natCast, hu']
  refine wpAny_bind (wpAny_setField ho hd (by simp) (wpAny_bind (wpAny_mkInt (wpAny_pure ⟨_, rfl, wpAny_pure ⟨_, rfl, fun hz => ?_⟩⟩))))
  have z := S.upd (mo' := .bit b (i + 1)) (s' := { s with heap := s.heap.update (V.ad k) (Obj.mapFields (·.setIfInBounds 1 (rawInt ((i : Int) + 1)))), toks := s.toks + 1 }) hk.get rfl (fun a o ha e => (Heap.SameBut.update ..).extBut a o ha e) (by show _ ≤ (Heap.update _ _ _).objs.size; rw [size_upd]; exact Nat.le_refl _)
    ⟨t, _, Heap.get?_update_self _ ho (Obj.isFreed_of_fields (Obj.data_mapFields hd _)), (Obj.cls_mapFields ..).trans hc, by rw [Obj.data_mapFields hd]; simp [rawInt]⟩ trivial rfl rfl
  rw [hk.set]
  exact ⟨V, z.2, z.1, ⟨_, rfl⟩, trivial⟩
theorem CaX.iterBytes {b : List UInt8} {n : Nat} (hn : σ.length = n) (hp : PushL σ (.bit b 0) σ₁) : CaX c (.builtin "iter") [.tr (.bytes b.toArray)] σ (.mt n) σ₁ := fun V s vs S R _ => by
  rw [hp.eq]
  obtain ⟨v, rfl, t, e⟩ := R.one
  subst e; subst hn
  refine wpAny_size (Calls.call_function_entry (by decide +kernel) (by decide +kernel) kdk_entry_iter (kdk_args_iter _) ?_)
  unfold Builtin.«iter»
  refine wpAny_bind (m := someArgs "iter" 1 2 _) (wpAny_of_eq (a := [Value.bytes b.toArray t]) (by first | rfl | kernel_rfl!) ?_)
  show wpAny _ _ (pyIter (.bytes b.toArray t) >>= _) _ _ _
  refine wpAny_bind (KBw.pyIter_bytes (wpAny_pure ⟨_, rfl, fun hz => ?_⟩))
  have z := S.new (mo := .bit b 0) (s' := { s with heap := s.heap.push { cls := .type "bytes_iterator", data := .fields #[.bytes b.toArray t, .int 0 0] } }) (a := s.heap.objs.size) (Nat.le_refl _) (by show _ < (s.heap.push _).objs.size; rw [Heap.size_push]; exact Nat.lt_succ_self _)
        (fun a o e => Heap.get?_push_of_some _ e) ⟨t, _, Heap.get?_push_size _ rfl, rfl, rfl⟩ trivial rfl rfl
  refine ⟨_, z.2, z.1, ?_, ?_⟩
  · show Value.ref _ = .ref _
    exact congrArg Value.ref (if_pos rfl).symm
  · show σ.length < _
    rw [List.length_append]; exact Nat.lt_succ_self _
theorem CaX.bytesM {ns : List Int} {k : Nat} (hk : σ[k]? = some (.list (ns.map T.int))) (h : ∀ n ∈ ns, 0 ≤ n ∧ n < 256) (hz : ns.length ≤ 1000000) : CaX c (.type "bytes") [.mt k] σ (.tr (.bytes (byteArr ns))) σ := fun V s vs S R _ => by
  obtain ⟨v, rfl, r⟩ := R.one
  obtain ⟨ws, rfl, hl, q⟩ := Mut.listOf S hk r
  have hi := Rps.ints q
  have hlen : ws.toList.length = ns.length := hi.length
  refine wpAny_size (call_bytes_ints (vs := ws.toList) (by simpa using hl) hi h (by rw [sizeLine_eq]; omega) c.hA.1 fun h' t tk hk' hz' => ?_)
  exact Pt.grow S hk' hz' ⟨⟨_, rfl⟩, trivial⟩
theorem CaX.sumL {ns : List Int} : CaX c (.builtin "sum") [.tr (.list (ns.map T.int))] σ (.tr (.int ns.sum)) σ := fun V s vs S R _ => by
  obtain ⟨v, rfl, r⟩ := R.one
  obtain ⟨l, ws, rfl, hl, q⟩ := Rp.listOf S r
  have hi := Rps.ints q
  obtain ⟨xs, hx⟩ := hi.allInts.items
  have hn : numsOf ws.toList.toArray.toList = ns := by rw [show ws.toList.toArray.toList = ws.toList from rfl, hi.numsOf]
  rw [hx, nums_intItems] at hn
  have hl' : s.heap.IsList l (intItems xs) := by rw [← hx]; simpa using hl
  refine wpAny_size (sum_intListG c.hA.1 hl' fun h' tk t' hk hz => ?_)
  rw [preSum_eq, List.take_of_length_le (by simp), hn]
  exact Pt.grow S hk hz ⟨⟨_, rfl⟩, trivial⟩
theorem CaX.minL {ns : List Int} {M : Int} (h1 : M ∈ ns) (h2 : ∀ a ∈ ns, M ≤ a) : CaX c (.builtin "min") [.tr (.list (ns.map T.int))] σ (.tr (.int M)) σ := fun V s vs S R _ => by
  obtain ⟨v, rfl, r⟩ := R.one
  obtain ⟨l, ws, rfl, hl, q⟩ := Rp.listOf S r
  have hi := Rps.ints q
  obtain ⟨xs, e⟩ := hi.allInts.items
  have hns : ns = xs.toList.map (·.1) := by rw [← hi.numsOf, ← nums_intItems, ← e]
  have hne : 0 < ns.length := List.length_pos_of_mem h1
  have hsz : 0 < xs.size := by have h3 := hne; rw [hns, List.length_map, Array.length_toList] at h3; exact h3
  have hl' : s.heap.IsList l (intItems xs) := by rw [← e]; simpa using hl
  refine wpAny_size (min_intList c.hA.1 hl' hsz fun v h' tk hv hk hz => ?_)
  obtain ⟨t, rfl⟩ := intItems_at hv
  obtain ⟨h3, h4⟩ := argBest_lt (numAt xs) (xs.size - 1)
  have hin : numAt xs (argBest (fun i j => decide (numAt xs i < numAt xs j)) (xs.size - 1)) ∈ ns := by
    rw [hns, numAt_eq]; exact getD_mem (by rw [List.length_map, Array.length_toList]; omega)
  have hge : ∀ a ∈ ns, numAt xs (argBest (fun i j => decide (numAt xs i < numAt xs j)) (xs.size - 1)) ≤ a := fun a ha => by
    rw [hns] at ha
    obtain ⟨j, hj, rfl⟩ := mem_getD ha
    rw [List.length_map, Array.length_toList] at hj
    rw [← numAt_eq]; exact h4 j (by omega)
  have : numAt xs (argBest (fun i j => decide (numAt xs i < numAt xs j)) (xs.size - 1)) = M := Int.le_antisymm (hge _ h1) (h2 _ hin)
  rw [this]
  exact Pt.grow S hk hz ⟨⟨_, rfl⟩, trivial⟩
theorem CaX.min2 {a b : Int} : CaX c (.builtin "min") [.tr (.int a), .tr (.int b)] σ (.tr (.int (min a b))) σ := fun V s vs S R _ => by
  obtain ⟨v, u, rfl, ⟨t, e1⟩, ⟨t', e2⟩⟩ := R.two
  subst e1; subst e2
  refine wpAny_size (min_two_ints c.hA.1 fun h' tk hk hz => ?_)
  refine Pt.grow S hk hz ⟨?_, trivial⟩
  by_cases h : b < a
  · rw [if_pos h]; exact ⟨_, by rw [Int.min_eq_right (Int.le_of_lt h)]⟩
  · rw [if_neg h]; exact ⟨_, by rw [Int.min_eq_left (Int.not_lt.mp h)]⟩
theorem CaX.hex {i : Int} (h : (baseText "0x" 16 i).length ≤ 1000000) : CaX c (.builtin "hex") [.tr (.int i)] σ (.tr (.str (baseText "0x" 16 i))) σ := fun V s vs S R _ => by
  obtain ⟨v, rfl, t, e⟩ := R.one
  subst e
  exact P.hex_of_int (Pt.tok S _ ⟨⟨_, rfl⟩, trivial⟩) (by rw [sizeLine_eq]; omega)

theorem OpX.addS {x y : Str} (h : (x ++ y).length ≤ 1000000) : OpX c (binaryOp .Add) σ (.tr (.str x)) (.tr (.str y)) (.tr (.str (x ++ y))) σ := fun V s a b S ⟨t, e⟩ _ ⟨u, e'⟩ _ => by
  subst e; subst e'
  refine P.add_str ?_
  split
  · rename_i hz
    have hx : x.cps.size = 0 := beq_iff_eq.mp hz
    have : x ++ y = y := by
      have e : x.cps = #[] := Array.eq_empty_of_size_eq_zero hx
      cases x; cases y
      show Str.mk (_ ++ _) = _
      rw [show _ = #[] from e, Array.empty_append]
    rw [this]; exact Pt.here S ⟨⟨_, rfl⟩, trivial⟩
  · split
    · rename_i hz
      have hy : y.cps.size = 0 := beq_iff_eq.mp hz
      have : x ++ y = x := by
        have e : y.cps = #[] := Array.eq_empty_of_size_eq_zero hy
        cases x; cases y
        show Str.mk (_ ++ _) = _
        rw [show _ = #[] from e, Array.append_empty]
      rw [this]; exact Pt.here S ⟨⟨_, rfl⟩, trivial⟩
    · exact ⟨by rw [sizeLine_eq]; exact Nat.le_trans h (by omega), Pt.tok S _ ⟨⟨_, rfl⟩, trivial⟩⟩
theorem OpX.addL {ts us : List T} (h : ts.length + us.length ≤ 1000000) : OpX c (binaryOp .Add) σ (.tr (.list ts)) (.tr (.list us)) (.tr (.list (ts ++ us))) σ := fun V s a b S r _ r' _ => by
  obtain ⟨l, vs, n, rfl, hl, q⟩ := Rp.isL S r
  obtain ⟨l', ws, n', rfl, hl', q'⟩ := Rp.isL S r'
  have e1 : vs.size = ts.length := by simpa using q.length
  have e2 : ws.size = us.length := by simpa using q'.length
  refine P.add_list hl hl' (Pt.all (tk := s.toks) S (fun a o e => Heap.get?_push_of_some _ e) (by rw [Heap.size_push]; omega) ⟨⟨_, _, vs ++ ws, 0, rfl, Vw.all_new (Nat.le_refl _) (Heap.get?_push_size _ rfl), rfl, rfl, ?_⟩, trivial⟩) (by rw [sizeLine_eq]; omega)
  rw [Array.toList_append]
  exact Rps.append (Rps.mono (Vw.all_sub S _) _ _ q) (Rps.mono (Vw.all_sub S _) _ _ q')
end
end Mine
-- B11
namespace Mine
noncomputable def rng (a b : Int) : List Int := (List.range (b - a).toNat).map fun (i : Nat) => a + (i : Int)
theorem rng_length (a b : Int) : (rng a b).length = (b - a).toNat := by simp [rng]
section
variable {c : Cx} {d : Sd} {σ σ₁ σ₂ σ₃ : List MO} {target : Expr}

theorem Src.ofRange {V₀ V : Vw} {s s₂ : Shared} {a b : Int} {I : Addr} (E : Ext σ V₀ s σ₁ V s₂) (S : St0 c.W V σ₁ s₂) (hI : s.heap.objs.size ≤ I) (hnew : V.F I = Option.none) (hap : ∀ k, k < σ₁.length → I ≠ V.ad k) (hit : IsRangeIter s₂.heap I a ((b - a).toNat : Int) 1) :
    ∃ (V₂ : Vw) (It : Itr c.W c.A target (.ref I) ((rng a b).map T.int) (fun _ => True)), s.heap.objs.size ≤ It.lo ∧ It.base ≤ σ₁.length ∧ Ext σ V₀ s σ₁ V₂ s₂ ∧ St0 c.W V₂ σ₁ s₂ ∧ It.At 0 V₂ σ₁.length s₂ := by
  have W := Walks.range (prog := c.W.prog) (w := c.W.w) c.hA.1 I a 1 (b - a).toNat
  refine ⟨V, mkItr (KT.ofWalks W (fun i h st x hx => ?_) (fun i h st => ?_)) ((rng a b).map T.int) (by rw [List.length_map, rng_length]) I (fun x hx => ?_) (fun _ => True) (fun _ _ _ _ => trivial) (fun i V z v h t ht _ hP _ _ => ?_), hI, Nat.zero_le _, E, S, ?_⟩
  · rw [List.mem_singleton.mp hx]; exact ⟨_, st⟩
  · exact ⟨_, _, st, rfl, by decide⟩
  · rw [List.mem_singleton.mp hx]; exact Nat.le_refl _
  · obtain ⟨tk, rfl⟩ := hP
    refine ⟨V.F, fun _ _ e => e, fun _ _ e => .inl e, ?_⟩
    rw [rng, List.map_map, List.getElem?_map] at ht
    cases hi : (List.range (b - a).toNat)[i]? with
    | none => rw [hi] at ht; cases ht
    | some j =>
      rw [hi] at ht
      cases ht
      obtain ⟨_, hj⟩ := List.getElem?_eq_some_iff.mp hi
      rw [List.getElem_range] at hj
      subst hj
      exact ⟨_, by show Value.int (a + i * 1) _ = .int (a + i) _; rw [Int.mul_one]⟩
  · refine ⟨?_, fun x hx => ?_, fun x hx => ?_, trivial⟩
    · show IsRangeIter _ _ (a + (0 : Nat) * 1) ((((b - a).toNat : Nat) : Int) - (0 : Nat)) 1
      have e1 : a + ((0 : Nat) : Int) * 1 = a := by simp
      have e2 : (((b - a).toNat : Nat) : Int) - ((0 : Nat) : Int) = ((b - a).toNat : Int) := by simp
      rw [e1, e2]; exact hit
    · rw [List.mem_singleton.mp hx]; exact ⟨⟨_, hit⟩, .inr fun k hk e => hap k hk e⟩
    · rw [List.mem_singleton.mp hx]; exact ⟨hnew, hap⟩
theorem Src.range2 {func e₁ e₂ : Expr} {pos : Pos} {a b : Int} (h0 : Ev c d func σ (.val (.type "range")) σ) (hs : EvS c d [e₁, e₂] σ [.tr (.int a), .tr (.int b)] σ₁) (ha : -(2 ^ 62) ≤ a ∧ a < 2 ^ 62) (hb : -(2 ^ 62) ≤ b ∧ b < 2 ^ 62)
    (he : eval (.Call func [e₁, e₂] [] pos) c.env = (do callWith pos (← eval func c.env) [] (backTo pos (starEach [e₁, e₂] c.env)) (backToKw pos (keywordEach [] c.env))) := by rfl)
    (hst : starEach [e₁, e₂] c.env = (false, eval e₁ c.env) :: starEach [e₂] c.env := by rfl) (hpl : (backTo pos (starEach [e₂] c.env)).any (·.1) = false := by rfl) :
    Src c d target (.Call func [e₁, e₂] [] pos) σ ((rng a b).map T.int) (fun _ => True) σ₁ := fun V s S F => by
  refine Call_ (seq (h0 V s S F) fun V₁ s₁ f E₁ S₁ q₁ => ?_) he
  have hf : f = .type "range" := q₁.1
  subst hf
  refine callWith_type1 (seq (hs V₁ s₁ pos S₁ (F.ext E₁)) fun V₂ s₂ vs E₂ S₂ q₂ => ?_) hst hpl
  obtain ⟨v, u, rfl, ⟨t, e1⟩, ⟨t', e2⟩⟩ := q₂.1.two
  subst e1; subst e2
  refine call_range_2 ?_
  refine wpAny_pyIter_range (IsRange.new _ _ _ _ _ _ _) (small_one ha.1 ha.2 hb.1 hb.2) ?_
  generalize ho1 : ({ cls := .type "range", data := .fields #[.int a t, .int b t', .int 1 s₂.toks] } : Obj) = o1
  have hz : (s₂.heap.push o1).objs.size = s₂.heap.objs.size + 1 := Heap.size_push ..
  have g := S₂.grow (s' := { s₂ with heap := (s₂.heap.push o1).push { cls := .type "range_iterator", data := .fields #[rawInt a, rawInt (Builtin.Range.rangeSize a b 1), rawInt 1] }, toks := s₂.toks + 1 })
    (fun a o e => Heap.get?_push_of_some _ (Heap.get?_push_of_some _ e)) (by show _ ≤ ((s₂.heap.push o1).push _).objs.size; rw [Heap.size_push, Heap.size_push]; omega) rfl rfl
  have EE := E₁.trans E₂
  have hst : s₂.heap.objs.size ≤ (s₂.heap.push o1).objs.size := by rw [hz]; exact Nat.le_succ _
  obtain ⟨V₃, It, i1, i2, i3, i4, i5⟩ := Src.ofRange (target := target) (a := a) (b := b) (I := (s₂.heap.push o1).objs.size) (EE.trans g.2) g.1 (Nat.le_trans EE.len hst) (S₂.none hst) (fun k hk e => absurd (S₂.bnd k hk) (Nat.not_lt.mpr (e ▸ hst))) (by
      show Heap.get? _ _ = _
      have : Builtin.Range.rangeSize a b 1 = ((b - a).toNat : Int) := by rw [rangeSize_one]; split <;> omega
      rw [← this]; exact Heap.get?_push_size _ rfl)
  exact ⟨V₃, It, i1, i2, i3, i4, i5⟩
theorem Src.range1 {func e₁ : Expr} {pos : Pos} {b : Int} (h0 : Ev c d func σ (.val (.type "range")) σ) (hs : EvS c d [e₁] σ [.tr (.int b)] σ₁) (hb : -(2 ^ 62) ≤ b ∧ b < 2 ^ 62)
    (he : eval (.Call func [e₁] [] pos) c.env = (do callWith pos (← eval func c.env) [] (backTo pos (starEach [e₁] c.env)) (backToKw pos (keywordEach [] c.env))) := by rfl)
    (hst : starEach [e₁] c.env = (false, eval e₁ c.env) :: starEach [] c.env := by rfl) (hpl : (backTo pos (starEach [] c.env)).any (·.1) = false := by rfl) :
    Src c d target (.Call func [e₁] [] pos) σ ((rng 0 b).map T.int) (fun _ => True) σ₁ := fun V s S F => by
  refine Call_ (seq (h0 V s S F) fun V₁ s₁ f E₁ S₁ q₁ => ?_) he
  have hf : f = .type "range" := q₁.1
  subst hf
  refine callWith_type1 (seq (hs V₁ s₁ pos S₁ (F.ext E₁)) fun V₂ s₂ vs E₂ S₂ q₂ => ?_) hst hpl
  obtain ⟨v, rfl, t', e2⟩ := q₂.1.one
  subst e2
  refine call_range_1 ?_
  refine wpAny_pyIter_range (IsRange.new _ _ _ _ _ _ _) (small_one (by decide) (by decide) hb.1 hb.2) ?_
  generalize ho1 : ({ cls := .type "range", data := .fields #[.int 0 s₂.toks, .int b t', .int 1 (s₂.toks + 1)] } : Obj) = o1
  have hz : (s₂.heap.push o1).objs.size = s₂.heap.objs.size + 1 := Heap.size_push ..
  have g := S₂.grow (s' := { s₂ with heap := (s₂.heap.push o1).push { cls := .type "range_iterator", data := .fields #[rawInt 0, rawInt (Builtin.Range.rangeSize 0 b 1), rawInt 1] }, toks := s₂.toks + 1 + 1 })
    (fun a o e => Heap.get?_push_of_some _ (Heap.get?_push_of_some _ e)) (by show _ ≤ ((s₂.heap.push o1).push _).objs.size; rw [Heap.size_push, Heap.size_push]; omega) rfl rfl
  have EE := E₁.trans E₂
  have hst : s₂.heap.objs.size ≤ (s₂.heap.push o1).objs.size := by rw [hz]; exact Nat.le_succ _
  obtain ⟨V₃, It, i1, i2, i3, i4, i5⟩ := Src.ofRange (target := target) (a := 0) (b := b) (I := (s₂.heap.push o1).objs.size) (EE.trans g.2) g.1 (Nat.le_trans EE.len hst) (S₂.none hst) (fun k hk e => absurd (S₂.bnd k hk) (Nat.not_lt.mpr (e ▸ hst))) (by
      show Heap.get? _ _ = _
      have : Builtin.Range.rangeSize 0 b 1 = ((b - 0).toNat : Int) := by rw [rangeSize_one]; split <;> omega
      rw [← this]; exact Heap.get?_push_size _ rfl)
  exact ⟨V₃, It, i1, i2, i3, i4, i5⟩

theorem Src.mlist {e : Expr} {us : List T} {k : Nat} (h : EvX c d e σ (.mt k) σ₁) (hk : σ₁[k]? = some (.list us)) : Src c d target e σ us (fun σ' => σ'[k]? = some (.list us)) σ₁ := fun V s S F =>
  seq (h V s S F) fun V₁ s₁ x E₁ S₁ q₁ => by
    obtain ⟨vs, rfl, hl, q⟩ := Mut.listOf S₁ hk q₁.1
    refine wpAny_pyIter_list hl ?_
    have hlt : k < σ₁.length := (List.getElem?_eq_some_iff.mp hk).1
    generalize hlv : V₁.ad k = l
    have g := S₁.grow (s' := { s₁ with heap := s₁.heap.push { cls := .type "list_iterator", data := .fields #[.ref l, .int 0 0] } }) (fun a o e => Heap.get?_push_of_some _ e) (by show _ ≤ (s₁.heap.push _).objs.size; rw [Heap.size_push]; exact Nat.le_succ _) rfl rfl
    have W : ∀ (vs : Array Value), l ≠ s₁.heap.objs.size → _ := fun vs hne => Walks.list (prog := c.W.prog) (w := c.W.w) c.hA.1 s₁.heap.objs.size l hne vs
    have hne : l ≠ s₁.heap.objs.size := by rw [← hlv]; exact Nat.ne_of_lt (S₁.bnd k hlt)
    let It : Itr c.W c.A target (.ref s₁.heap.objs.size) us (fun σ' => σ'[k]? = some (.list us)) := {
      lo := s₁.heap.objs.size
      base := k + 1
      At := fun i V n s => k < n ∧ V.ad k = l ∧ s.heap.IsListIter s₁.heap.objs.size l i ∧ V.F s₁.heap.objs.size = Option.none ∧ ∀ j, j < n → s₁.heap.objs.size ≠ V.ad j
      frame := fun {i V V' σ σ' s s'} h S E S' => by
        obtain ⟨h1, h2, ⟨o, ho, h3⟩, h4, h5⟩ := h
        refine ⟨Nat.lt_of_lt_of_le h1 E.le, (E.ad k h1).trans h2, ⟨o, E.kept _ o h5 ho, h3⟩, ?_, fun j hj q => ?_⟩
        · cases q : V'.F s₁.heap.objs.size with
          | none => rfl
          | some o' =>
            rcases E.new _ o' q with x | x | ⟨j, x, y⟩
            · rw [h4] at x; cases x
            · exact absurd (Heap.lt_size ho) (Nat.not_lt.mpr x)
            · exact absurd y (h5 j x)
        · by_cases h' : j < σ.length
          · exact h5 j h' (q.trans (E.ad j h'))
          · have := E.fresh j (Nat.not_lt.mp h') hj
            rw [← q] at this
            exact absurd (Heap.lt_size ho) (Nat.not_lt.mpr this)
      less := fun h hm hb => ⟨hb, h.2.1, h.2.2.1, h.2.2.2.1, fun j hj => h.2.2.2.2 j (Nat.lt_of_lt_of_le hj hm)⟩
      item := fun {i V σ s t} ht hd S h => by
        obtain ⟨h1, h2, h3, h4, h5⟩ := h
        obtain ⟨ws, n, ho, q⟩ := S.led k _ hd
        rw [h2] at ho
        have hL : s.heap.IsList l ws := ⟨_, ho, rfl, n, rfl⟩
        obtain ⟨v, hv, rv⟩ := q.get ht
        have hv' : ws[i]? = some v := by simpa using hv
        have hi : i < ws.size := (Array.getElem?_eq_some_iff.mp hv').1
        refine wpAny_size ((W ws hne).item i s _ NoE hi ⟨h3, hL⟩ fun v' h' tk hP st hk' hz => ?_)
        have : v' = v := by have hP' : ws[i]? = some v' := hP; rw [hv'] at hP'; exact (Option.some.inj hP').symm
        subst this
        refine ⟨v', rfl, ?_⟩
        obtain ⟨oi, hoi, hci, _⟩ := st.1
        refine letGo_other hoi hci (by decide) ?_
        have wr : ∀ b ∈ [s₁.heap.objs.size], V.F b = Option.none ∧ ∀ j, j < σ.length → b ≠ V.ad j := fun b hb => by rw [List.mem_singleton.mp hb]; exact ⟨h4, h5⟩
        have S' : St0 c.W V σ { s with heap := h', toks := tk } := S.beside wr hk' hz rfl rfl
        refine ⟨V, ⟨fun _ _ e => e, fun _ _ e => .inl e, fun _ _ => rfl, fun a o ha _ e => hk' a o (fun hb => by rw [List.mem_singleton.mp hb] at ha; exact Nat.lt_irrefl _ ha) e, fun j x y => absurd y (Nat.not_lt.mpr x), hz, Nat.le_refl _⟩, S', ⟨h1, h2, st.1, h4, h5⟩, rv⟩
      done := fun {V σ s} hd S h => by
        obtain ⟨h1, h2, h3, h4, h5⟩ := h
        obtain ⟨ws, n, ho, q⟩ := S.led k _ hd
        rw [h2] at ho
        have hL : s.heap.IsList l ws := ⟨_, ho, rfl, n, rfl⟩
        have hlen : us.length = ws.size := by simpa using q.length.symm
        refine wpAny_size ((W ws hne).done s _ NoE ⟨hlen ▸ h3, hL⟩ fun h' tk hk' hz => ?_)
        have wr : ∀ b ∈ [s₁.heap.objs.size], V.F b = Option.none ∧ ∀ j, j < σ.length → b ≠ V.ad j := fun b hb => by rw [List.mem_singleton.mp hb]; exact ⟨h4, h5⟩
        exact ⟨rfl, V, ⟨fun _ _ e => e, fun _ _ e => .inl e, fun _ _ => rfl, fun a o ha _ e => hk' a o (fun hb => by rw [List.mem_singleton.mp hb] at ha; exact Nat.lt_irrefl _ ha) e, fun j x y => absurd y (Nat.not_lt.mpr x), hz, Nat.le_refl _⟩, S.beside wr hk' hz rfl rfl⟩
      self := fun h hQ => wpAny_pyIter_listiter h.2.2.1 hQ }
    exact ⟨V₁, It, E₁.len, hlt, E₁.trans g.2, g.1, hlt, hlv, ⟨_, Heap.get?_push_size _ rfl, rfl, rfl⟩, S₁.none (Nat.le_refl _), fun j hj e => absurd (S₁.bnd j hj) (by rw [← e]; exact Nat.lt_irrefl _)⟩
end
end Mine
-- B12
namespace Mine
theorem addF {W : Wd} {V : Vw} {z T : Nat} {h : Heap} {o : Obj} {vs : Array Value} {n : Nat} {ts : List Mine.T} (ho : h.get? T = some o) (hc : o.cls = .type "tuple") (hd : o.data = .seq vs n) (hz : z ≤ T) (hlt : ∀ a o, V.F a = some o → a < z) (r : Rps W V.F ts vs.toList) :
    ∃ F' : Fz, (∀ a o, V.F a = some o → F' a = some o) ∧ (∀ a o, F' a = some o → V.F a = some o ∨ (z ≤ a ∧ h.get? a = some o)) ∧ Rp W F' (.tup ts) (.ref T) := by
  have sub : ∀ a o', V.F a = some o' → (fun a => if a = T then some o else V.F a : Fz) a = some o' := fun a o' e => by
    show (if a = T then _ else _) = _
    rw [if_neg (fun q => absurd (hlt a o' e) (by rw [q]; exact Nat.not_lt.mpr hz))]; exact e
  refine ⟨fun a => if a = T then some o else V.F a, sub, fun a o' e => ?_, ⟨T, o, vs, n, rfl, if_pos rfl, hc, hd, Rps.mono sub _ _ r⟩⟩
  by_cases q : a = T
  · subst q
    have e' : (if a = a then some o else V.F a) = some o' := e
    rw [if_pos rfl] at e'; cases e'
    exact .inr ⟨hz, ho⟩
  · have e' : (if a = T then some o else V.F a) = some o' := e
    rw [if_neg q] at e'; exact .inl e'

section
variable {c : Cx} {d : Sd} {σ σ₁ σ₂ σ₃ : List MO} {target : Expr}

noncomputable def enumT (ts : List T) : List T := ts.mapIdx fun i t => .tup [.int i, t]
theorem enumT_get (ts : List T) (i : Nat) : (enumT ts)[i]? = ts[i]?.map fun t => .tup [.int i, t] := by simp [enumT]
theorem enumT_length (ts : List T) : (enumT ts).length = ts.length := by simp [enumT]
theorem Src.enumL {func e₁ : Expr} {pos tpos : Pos} {elts : List Expr} {kk : Nat} {ts : List T} (h0 : Ev c d func σ (.val (.type "enumerate")) σ) (hs : EvS c d [e₁] σ [.tr (.list ts)] σ₁)
    (he : eval (.Call func [e₁] [] pos) c.env = (do callWith pos (← eval func c.env) [] (backTo pos (starEach [e₁] c.env)) (backToKw pos (keywordEach [] c.env))) := by rfl)
    (hst : starEach [e₁] c.env = (false, eval e₁ c.env) :: starEach [] c.env := by rfl) (hpl : (backTo pos (starEach [] c.env)).any (·.1) = false := by rfl) :
    Src c d (.Tuple elts kk tpos) (.Call func [e₁] [] pos) σ (enumT ts) (fun _ => True) σ₁ := fun V s S F => by
  refine Call_ (seq (h0 V s S F) fun V₁ s₁ f E₁ S₁ q₁ => ?_) he
  have hf : f = .type "enumerate" := q₁.1
  subst hf
  refine callWith_type1 (seq (hs V₁ s₁ pos S₁ (F.ext E₁)) fun V₂ s₂ vs E₂ S₂ q₂ => ?_) hst hpl
  obtain ⟨v, rfl, r⟩ := q₂.1.one
  obtain ⟨l, o, ws, n, rfl, e2, e3, e4, q⟩ := r
  have hl : s₂.heap.IsList l ws := ⟨o, S₂.keep _ _ e2, by rw [e3], n, e4⟩
  have hll : l < s₂.heap.objs.size := S₂.old e2
  refine call_enumerate_list hl fun h' hen hit hz hk => ?_
  refine wpAny_pyIter_enum hen ?_
  have EE := E₁.trans E₂
  have g := S₂.grow (s' := { s₂ with heap := h' }) hk (by show _ ≤ h'.objs.size; omega) rfl rfl
  have W := WalksT.enumerate (prog := c.W.prog) (w := c.W.w) c.hA.1 (s₂.heap.objs.size + 1) s₂.heap.objs.size l (Nat.succ_ne_self _) (Nat.ne_of_lt (Nat.lt_succ_of_lt hll)) (Nat.ne_of_lt hll) ws
  have hlen : (enumT ts).length = ws.size := by rw [enumT_length]; simpa using q.length.symm
  refine ⟨V₂, mkItr (KT.ofWalksT (elts := elts) (k := kk) (pos := tpos) W (fun i h st b hb => ?_)) (enumT ts) hlen s₂.heap.objs.size (fun b hb => ?_) (fun V => Rps c.W V.F ts ws.toList) (fun V V' h r => keepF h r) (fun i V z v h t ht r hP hlt _ => ?_), EE.len, Nat.zero_le _, EE.trans g.2, g.1, ?_⟩
  · rcases List.mem_cons.mp hb with rfl | hb
    · obtain ⟨old, x⟩ := st.1; exact ⟨_, x⟩
    · rw [List.mem_singleton.mp hb]; obtain ⟨o, x, _⟩ := st.2.1; exact ⟨o, x⟩
  · rcases List.mem_cons.mp hb with rfl | hb
    · omega
    · rw [List.mem_singleton.mp hb]; exact Nat.le_refl _
  · obtain ⟨T, vals, rfl, hzT, ⟨tk, x, hx, rfl⟩, ⟨oT, hoT, hcT, nT, hdT⟩⟩ := hP
    rw [enumT_get] at ht
    cases hti : ts[i]? with
    | none => rw [hti] at ht; cases ht
    | some ti =>
      rw [hti] at ht
      cases ht
      obtain ⟨u, hu, ru⟩ := Rps.get r hti
      have : u = x := by simp at hu; rw [hx] at hu; exact (Option.some.inj hu).symm
      subst this
      exact addF hoT hcT hdT hzT hlt ⟨_, _, rfl, ⟨_, rfl⟩, _, _, rfl, ru, rfl⟩
  · have nw : ∀ b, s₂.heap.objs.size ≤ b → ∀ k, k < σ₁.length → b ≠ V₂.ad k := fun b hb k hk e => absurd (S₂.bnd k hk) (by rw [← e]; exact Nat.not_lt.mpr hb)
    refine ⟨⟨⟨.none, hen⟩, hit, let ⟨o, e, r⟩ := hl; ⟨o, hk _ _ e, r⟩⟩, fun b hb => ?_, fun b hb => ?_, q⟩
    · rcases List.mem_cons.mp hb with rfl | hb
      · exact ⟨⟨_, hen⟩, .inr (nw _ (by omega))⟩
      · rcases List.mem_cons.mp hb with rfl | hb
        · obtain ⟨o, x, _⟩ := hit; exact ⟨⟨o, x⟩, .inr (nw _ (Nat.le_refl _))⟩
        · rw [List.mem_singleton.mp hb]; exact ⟨⟨o, hk _ _ (S₂.keep _ _ e2)⟩, .inl ⟨o, e2⟩⟩
    · rcases List.mem_cons.mp hb with rfl | hb
      · exact ⟨S₂.none (by omega), nw _ (by omega)⟩
      · rw [List.mem_singleton.mp hb]; exact ⟨S₂.none (Nat.le_refl _), nw _ (Nat.le_refl _)⟩

theorem Rp.dictAt {W : Wd} {V : Vw} {s : Shared} {kvs : List (Str × T)} {v : Value} (S : St0 W V σ s) (r : Rp W V.F (.dict kvs) v) :
    ∃ p o vs ep, v = .ref p ∧ V.F p = some o ∧ s.heap.DictAt W.knd p vs ep ∧ (p == sysModules) = false ∧ RpKv W V.F kvs vs ∧ (∀ h : Heap, h.get? p = some o → h.DictAt W.knd p vs ep) := by
  obtain ⟨p, o, vs, ep, e1, e2, ⟨es, x1, x2, x3, x4, x5⟩, e4, q⟩ := r
  exact ⟨p, o, vs, ep, e1, e2, ⟨o, es, S.keep _ _ e2, x1, x2, x3, x4, x5⟩, e4, q, fun h e => ⟨o, es, e, x1, x2, x3, x4, x5⟩⟩
theorem DictAt_of {prog : Program} {w : World} {K : Type} [DecidableEq K] {knd : PySem.KeyKind prog w K} {h h' : Heap} {a : Addr} {kvs : List (K × Value)} {ep : Nat} (x : h.DictAt knd a kvs ep) (hk : ∀ o, h.get? a = some o → h'.get? a = some o) : h'.DictAt knd a kvs ep :=
  let ⟨o, es, e, r⟩ := x; ⟨o, es, hk o e, r⟩
theorem DictAt_dictOf {prog : Program} {w : World} {K : Type} [DecidableEq K] {knd : PySem.KeyKind prog w K} {h : Heap} {a : Addr} {kvs : List (K × Value)} {ep : Nat} (x : h.DictAt knd a kvs ep) : h.DictOf knd a kvs :=
  let ⟨o, es, e, r1, r2, r⟩ := x; ⟨o, es, ep, e, r1, r2, r⟩
theorem isStr_of {W : Wd} {k : Str} {v : Value} (h : W.knd.is k v = true) : ∃ t, v = .str k t := by
  have h' : Value.isStrOf k v = true := h
  cases v with
  | str x t =>
    have e : x = k := by simpa [Value.isStrOf] using h'
    exact ⟨t, by rw [e]⟩
  | _ => cases h'

theorem KT.items {W : Wd} {A : Around} {elts : List Expr} {kk : Nat} {tpos : Pos} (hh : A.handled = none) (I dd : Addr) (hne : dd ≠ I) (kvs : List (Str × Value)) (ep : Nat) :
    KT W A (.Tuple elts kk tpos) I [I, dd] [I] kvs.length
      (fun i z v h => ∃ T key x k, v = .ref T ∧ z ≤ T ∧ kvs[i]? = some (k, x) ∧ W.knd.is k key = true ∧ h.get? T = some { cls := .type "tuple", data := .seq #[key, x] })
      (fun i z v h => ∃ T key x k, v = .ref T ∧ z ≤ T ∧ kvs[i]? = some (k, x) ∧ W.knd.is k key = true ∧ h.get? T = some { cls := .type "tuple", data := .seq #[key, x] } ∧ IsItemIterOut h I dd (i + 1) kvs.length ep key x T ∧ h.DictAt W.knd dd kvs ep ∧ T ≠ I)
      (fun i h => (∃ ok ov, IsItemIter h I dd i kvs.length ep ok ov) ∧ h.DictAt W.knd dd kvs ep) where
  sub := fun b hb => by rw [List.mem_singleton.mp hb]; exact .head _
  ex := fun i h st b hb => by rw [List.mem_singleton.mp hb]; obtain ⟨⟨ok, ov, x⟩, _⟩ := st; exact ⟨_, x⟩
  frame := fun i h h' st hk => by
    obtain ⟨⟨ok, ov, x⟩, y⟩ := st
    exact ⟨⟨ok, ov, hk I (.head _) _ x⟩, DictAt_of y fun o e => hk dd (.tail _ (.head _)) o e⟩
  item := fun i s Q hi st hQ => by
    obtain ⟨⟨ok, ov, hit⟩, hm⟩ := st
    obtain ⟨⟨k, x⟩, hx⟩ : ∃ p, kvs[i]? = some p := ⟨kvs[i], by simp [hi]⟩
    have hI : I < s.heap.objs.size := Heap.lt_size hit
    refine wpAny_pyNext_items_item hit hm hx fun key h' hkey hout hT hz hk => ?_
    exact hQ _ h' s.toks ⟨_, key, x, k, rfl, Nat.le_refl _, hx, hkey, hT, hout, DictAt_of hm fun o e => hk dd o hne e, (Nat.ne_of_lt hI).symm⟩ fun b o hb e => hk b o (fun q => hb (by simp [q])) e
  go := fun i z v s Q hm hQ => by
    obtain ⟨T, key, x, k, rfl, hz, hx, hkey, hT, hout, hd, hTI⟩ := hm
    refine wpAny_letOwnedTupleGo_items hout fun h' hit' hs' => ?_
    exact hQ h' ⟨T, key, x, k, rfl, hz, hx, hkey, (hs'.2 T hTI).trans hT⟩ ⟨⟨key, x, hit'⟩, DictAt_of hd fun o e => (hs'.2 dd hne).trans e⟩ fun b o hb e => (hs'.2 b fun q => hb (by simp [q])).trans e
  done := fun s Q st hQ => by
    obtain ⟨⟨ok, ov, hit⟩, hm⟩ := st
    exact wpAny_pyNext_items_end hh hit hm (by simp) fun h' he => hQ h' s.toks fun b o hb e => he b o (fun q => hb (by simp [q])) e
  self := fun i s Q st hQ => by
    obtain ⟨⟨ok, ov, hit⟩, hm⟩ := st
    have hT : s.TypeIs (.ref I) "dict_itemiterator" := ⟨_, hit, rfl⟩
    refine wpAny_pyIter_slot hT PySem.F.slot_dict_itemiterator_iter (wpAny_call_entry PySem.F.slot_dict_itemiterator_iter hT PySem.W.kcp_entry ?_ (PySem.F.args_dict_itemiterator_iter_1 _))
    show wpAny _ _ (ret (.ref I)) _ _ s
    exact wpAny_pure ⟨_, rfl, "dict_itemiterator", _, hT, PySem.F.slot_dict_itemiterator_next.lookup, hQ⟩

noncomputable def itemsT (kvs : List (Str × T)) : List T := kvs.map fun p => .tup [.str p.1, p.2]
theorem Src.items {o : Expr} {apos pos tpos : Pos} {elts : List Expr} {kk : Nat} {kvs : List (Str × T)} (h : Ev c d o σ (.dict kvs) σ₁)
    (hbase : attributeBase o (Str.ofString "items") c.env (eval o c.env) = eval o c.env := by rfl) (hline : (apos.endLine == pos.line) = true := by rfl) :
    Src c d (.Tuple elts kk tpos) (.Call (.Attribute o (Str.ofString "items") apos) [] [] pos) σ (itemsT kvs) (fun _ => True) σ₁ := fun V s S F => by
  refine Call_method0 hbase hline (seq (h V s S F) fun V₁ s₁ ov E₁ S₁ q₁ => ?_)
  obtain ⟨p, ob, vs, ep, rfl, hF, hat, hsys, q, hmk⟩ := Rp.dictAt S₁ q₁.1
  have hm := DictAt_dictOf hat
  have hp : p < s₁.heap.objs.size := S₁.old hF
  refine ⟨"dict", _, PySem.F.plainAttrs_dict, PySem.F.slot_dict_items, PySem.F.type_dict_items, hm.typeIs, hm.mapOf.noDict, ?_⟩
  refine method_meetsIn PySem.F.slot_dict_items PySem.F.entry_dict_items rfl (PyProof.Rows.evalArgs_none ⟨rfl, hm.typeIs, PySem.F.args_dict_items_1 _, _, meets_dict_items c.W.knd p hsys, ⟨_, hm⟩, ?_⟩)
  have hv : (s₁.heap.push { cls := .type "dict_items", data := .fields #[.ref p] }).IsItemsView s₁.heap.objs.size p := ⟨_, Heap.get?_push_size _ rfl, rfl, rfl⟩
  have hat' : (s₁.heap.push { cls := .type "dict_items", data := .fields #[.ref p] }).DictAt c.W.knd p vs ep := DictAt_of hat fun o e => Heap.get?_push_of_some _ e
  show wpAny _ _ (pyIter _) _ _ _
  refine wpAny_pyIter_items hv hat' ?_
  generalize ho1 : ({ cls := .type "dict_items", data := .fields #[.ref p] } : Obj) = o1 at hv hat'
  have hz : (s₁.heap.push o1).objs.size = s₁.heap.objs.size + 1 := Heap.size_push ..
  have hst : s₁.heap.objs.size ≤ (s₁.heap.push o1).objs.size := by rw [hz]; exact Nat.le_succ _
  have g := S₁.grow (s' := { s₁ with heap := (s₁.heap.push o1).push { cls := .type "dict_itemiterator", data := .fields #[.none, .bool false, .ref p, .int 0 0, .int vs.length 0, .int ep 0, .none, .none] } })
    (fun a o e => Heap.get?_push_of_some _ (Heap.get?_push_of_some _ e)) (by show _ ≤ ((s₁.heap.push o1).push _).objs.size; rw [Heap.size_push, Heap.size_push]; omega) rfl rfl
  have hne : p ≠ (s₁.heap.push o1).objs.size := Nat.ne_of_lt (Nat.lt_of_lt_of_le hp hst)
  have hlen : (itemsT kvs).length = vs.length := by rw [q.length]; simp [itemsT]
  have nw : ∀ b, s₁.heap.objs.size ≤ b → ∀ k, k < σ₁.length → b ≠ V₁.ad k := fun b hb k hk e => absurd (S₁.bnd k hk) (by rw [← e]; exact Nat.not_lt.mpr hb)
  refine ⟨V₁, mkItr (KT.items (elts := elts) (kk := kk) (tpos := tpos) (W := c.W) (A := c.A) c.hA.1 (s₁.heap.push o1).objs.size p hne vs ep) (itemsT kvs) hlen (s₁.heap.push o1).objs.size (fun b hb => ?_) (fun V => RpKv c.W V.F kvs vs) (fun V V' h r => RpKv.mono h _ _ r) (fun i V z v h t ht r hP hlt _ => ?_), Nat.le_trans E₁.len hst, Nat.zero_le _, E₁.trans g.2, g.1, ?_⟩
  · rw [List.mem_singleton.mp hb]; exact Nat.le_refl _
  · obtain ⟨T, key, x, k, rfl, hzT, hx, hkey, hT⟩ := hP
    obtain ⟨tk, rfl⟩ := isStr_of hkey
    have hk : ∃ t', kvs[i]? = some (k, t') ∧ t = .tup [.str k, t'] := by
      have e := r.keys
      have : (kvs.map (·.1))[i]? = some k := by rw [← e, List.getElem?_map, hx]; rfl
      rw [List.getElem?_map] at this
      cases hi : kvs[i]? with
      | none => rw [hi] at this; cases this
      | some p =>
        rw [hi] at this
        obtain ⟨p1, p2⟩ := p
        cases this
        refine ⟨p2, rfl, ?_⟩
        rw [itemsT, List.getElem?_map, hi] at ht
        exact (Option.some.inj ht).symm
    obtain ⟨t', hkv, rfl⟩ := hk
    obtain ⟨u, hu, ru⟩ := r.get hkv
    rw [hx] at hu; cases hu
    exact addF hT rfl rfl hzT hlt ⟨_, _, rfl, ⟨_, rfl⟩, _, _, rfl, ru, rfl⟩
  · refine ⟨⟨⟨.none, .none, Heap.get?_push_size _ rfl⟩, DictAt_of hat' fun o e => Heap.get?_push_of_some _ e⟩, fun b hb => ?_, fun b hb => ?_, q⟩
    · rcases List.mem_cons.mp hb with rfl | hb
      · exact ⟨⟨_, Heap.get?_push_size _ rfl⟩, .inr (nw _ hst)⟩
      · rw [List.mem_singleton.mp hb]; exact ⟨⟨ob, Heap.get?_push_of_some _ (Heap.get?_push_of_some _ (S₁.keep _ _ hF))⟩, .inl ⟨ob, hF⟩⟩
    · rw [List.mem_singleton.mp hb]; exact ⟨S₁.none hst, nw _ hst⟩

theorem Src.values {o : Expr} {apos pos : Pos} {kvs : List (Str × T)} (h : Ev c d o σ (.dict kvs) σ₁)
    (hbase : attributeBase o (Str.ofString "values") c.env (eval o c.env) = eval o c.env := by rfl) (hline : (apos.endLine == pos.line) = true := by rfl) :
    Src c d target (.Call (.Attribute o (Str.ofString "values") apos) [] [] pos) σ (kvs.map (·.2)) (fun _ => True) σ₁ := fun V s S F => by
  refine Call_method0 hbase hline (seq (h V s S F) fun V₁ s₁ ov E₁ S₁ q₁ => ?_)
  obtain ⟨p, ob, vs, ep, rfl, hF, hat, hsys, q, hmk⟩ := Rp.dictAt S₁ q₁.1
  have hm := DictAt_dictOf hat
  have hp : p < s₁.heap.objs.size := S₁.old hF
  refine ⟨"dict", _, PySem.F.plainAttrs_dict, PySem.F.slot_dict_values, PySem.F.type_dict_values, hm.typeIs, hm.mapOf.noDict, ?_⟩
  refine method_meetsIn PySem.F.slot_dict_values PySem.F.entry_dict_values rfl (PyProof.Rows.evalArgs_none ⟨rfl, hm.typeIs, PySem.F.args_dict_values_1 _, _, meets_dict_values c.W.knd p hsys, ⟨_, hm⟩, ?_⟩)
  have hv : (s₁.heap.push { cls := .type "dict_values", data := .fields #[.ref p] }).IsValuesView s₁.heap.objs.size p := ⟨_, Heap.get?_push_size _ rfl, rfl, rfl⟩
  have hat' : (s₁.heap.push { cls := .type "dict_values", data := .fields #[.ref p] }).DictAt c.W.knd p vs ep := DictAt_of hat fun o e => Heap.get?_push_of_some _ e
  show wpAny _ _ (pyIter _) _ _ _
  refine wpAny_pyIter_values hv hat' ?_
  generalize ho1 : ({ cls := .type "dict_values", data := .fields #[.ref p] } : Obj) = o1 at hv hat'
  have hz : (s₁.heap.push o1).objs.size = s₁.heap.objs.size + 1 := Heap.size_push ..
  have hst : s₁.heap.objs.size ≤ (s₁.heap.push o1).objs.size := by rw [hz]; exact Nat.le_succ _
  have g := S₁.grow (s' := { s₁ with heap := (s₁.heap.push o1).push { cls := .type "dict_valueiterator", data := .fields #[.ref p, .int 0 0, .int vs.length 0, .int ep 0] } })
    (fun a o e => Heap.get?_push_of_some _ (Heap.get?_push_of_some _ e)) (by show _ ≤ ((s₁.heap.push o1).push _).objs.size; rw [Heap.size_push, Heap.size_push]; omega) rfl rfl
  have hne : p ≠ (s₁.heap.push o1).objs.size := Nat.ne_of_lt (Nat.lt_of_lt_of_le hp hst)
  have hlen : (kvs.map (·.2)).length = vs.length := by rw [q.length]; simp
  have nw : ∀ b, s₁.heap.objs.size ≤ b → ∀ k, k < σ₁.length → b ≠ V₁.ad k := fun b hb k hk e => absurd (S₁.bnd k hk) (by rw [← e]; exact Nat.not_lt.mpr hb)
  have W := Walks.dictValues (prog := c.W.prog) (w := c.W.w) (A := c.A) (knd := c.W.knd) c.hA.1 (s₁.heap.push o1).objs.size p hne vs ep
  refine ⟨V₁, mkItr (KT.ofWalks W (fun i h st b hb => ?_) (fun i h st => ?_)) (kvs.map (·.2)) hlen (s₁.heap.push o1).objs.size (fun b hb => ?_) (fun V => RpKv c.W V.F kvs vs) (fun V V' h r => RpKv.mono h _ _ r) (fun i V z v h t ht r hP hlt _ => ?_), Nat.le_trans E₁.len hst, Nat.zero_le _, E₁.trans g.2, g.1, ?_⟩
  · rw [List.mem_singleton.mp hb]; obtain ⟨o, x, _⟩ := st.1; exact ⟨o, x⟩
  · obtain ⟨o, x, y, _⟩ := st.1; exact ⟨o, _, x, y, by decide⟩
  · rw [List.mem_singleton.mp hb]; exact Nat.le_refl _
  · obtain ⟨k, hx⟩ := hP
    rw [List.getElem?_map] at ht
    cases hi : kvs[i]? with
    | none => rw [hi] at ht; cases ht
    | some p =>
      rw [hi] at ht
      cases ht
      obtain ⟨p1, p2⟩ := p
      obtain ⟨u, hu, ru⟩ := r.get hi
      rw [hx] at hu; cases hu
      exact ⟨V.F, fun _ _ e => e, fun _ _ e => .inl e, ru⟩
  · refine ⟨⟨⟨_, Heap.get?_push_size _ rfl, rfl, rfl⟩, DictAt_of hat' fun o e => Heap.get?_push_of_some _ e⟩, fun b hb => ?_, fun b hb => ?_, q⟩
    · rcases List.mem_cons.mp hb with rfl | hb
      · exact ⟨⟨_, Heap.get?_push_size _ rfl⟩, .inr (nw _ hst)⟩
      · rw [List.mem_singleton.mp hb]; exact ⟨⟨ob, Heap.get?_push_of_some _ (Heap.get?_push_of_some _ (S₁.keep _ _ hF))⟩, .inl ⟨ob, hF⟩⟩
    · rw [List.mem_singleton.mp hb]; exact ⟨S₁.none hst, nw _ hst⟩
end
end Mine
-- B13
namespace Mine
noncomputable def closFrom (env : Env) : List (Str × NameKind) → List (Str × Addr) → List (Str × Addr)
  | [], acc => acc
  | (n, k) :: r, acc => if k == .free then closFrom env r ((n, (env.cells.lookup n).getD 0) :: acc) else closFrom env r acc
theorem closure_go (env : Env) (f : Str × NameKind → List (Str × Addr) → Sem (ForInStep (List (Str × Addr)))) (hf : ∀ n k cs, f (n, k) cs = if k == .free then (do let a ← cellOf env n; pure (.yield ((n, a) :: cs))) else pure (.yield cs)) :
    ∀ (names : List (Str × NameKind)) (acc : List (Str × Addr)), (∀ p ∈ names, p.2 = .free → (env.cells.lookup p.1).isSome = true) → forIn names acc f = pure (closFrom env names acc)
  | [], acc, _ => by rw [List.forIn_nil]; rfl
  | (n, k) :: r, acc, h => by
    rw [List.forIn_cons, hf]
    unfold closFrom
    by_cases hk : (k == .free) = true
    · rw [if_pos hk, if_pos hk]
      have := h (n, k) (.head _) (beq_iff_eq.mp hk)
      obtain ⟨a, ha⟩ := Option.isSome_iff_exists.mp this
      have e : cellOf env n = pure a := by unfold cellOf; rw [ha]
      have ih := closure_go env f hf r ((n, (env.cells.lookup n).getD 0) :: acc) fun p hp => h p (.tail _ hp)
      rw [e, ha]
      rw [ha] at ih
      simpa using ih
    · rw [if_neg hk, if_neg hk]
      have ih := closure_go env f hf r acc fun p hp => h p (.tail _ hp)
      simpa using ih
theorem closure_of {env : Env} {scope : Scope} (h : ∀ p ∈ scope.names, p.2 = .free → (env.cells.lookup p.1).isSome = true) : closureFor scope env = pure (closFrom env scope.names []) := by
  have e := closure_go env (fun x (cs : List (Str × Addr)) => if (x.2 == NameKind.free) = true then (do let a ← cellOf env x.1; pure (.yield ((x.1, a) :: cs))) else pure (.yield cs)) (fun _ _ _ => rfl) scope.names [] h
  have e2 : closureFor scope env = (forIn scope.names [] (fun x (cs : List (Str × Addr)) => if (x.2 == NameKind.free) = true then (do let a ← cellOf env x.1; pure (.yield ((x.1, a) :: cs))) else pure (.yield cs)) >>= fun cs => pure cs) := rfl
  rw [e2, e]; rfl
theorem closFrom_lookup (env : Env) : ∀ (names : List (Str × NameKind)) (acc : List (Str × Addr)) (x : Str) (a : Addr), env.cells.lookup x = some a → (names.lookup x = some .free ∨ acc.lookup x = some a) → (closFrom env names acc).lookup x = some a
  | [], acc, x, a, _, h => by
    rcases h with h | h
    · simp at h
    · exact h
  | (n, k) :: r, acc, x, a, hx, h => by
    unfold closFrom
    split
    · rename_i hk
      refine closFrom_lookup env r _ x a hx ?_
      rw [List.lookup_cons] at h ⊢
      cases hn : x == n with
      | true =>
        have e := beq_iff_eq.mp hn
        subst e
        right; show some ((env.cells.lookup x).getD 0) = _; rw [hx]; rfl
      | false => rw [hn] at h; exact h
    · rename_i hk
      refine closFrom_lookup env r acc x a hx ?_
      rw [List.lookup_cons] at h
      cases hn : x == n with
      | true =>
        rw [hn] at h
        rcases h with h | h
        · cases h; exact absurd rfl hk
        · exact .inr h
      | false => rw [hn] at h; exact h
theorem relabel_lookup {env : Env} : ∀ (names : List (Str × NameKind)) (x : Str),
    (names.map fun (n, k) => if (k == NameKind.free && env.scope.kind == .function && env.kindOf n == some .cell) then (n, NameKind.cell) else (n, k)).lookup x =
      (names.lookup x).map fun k => if (k == NameKind.free && env.scope.kind == .function && env.kindOf x == some .cell) then NameKind.cell else k
  | [], x => rfl
  | (n, k) :: r, x => by
    have ih := relabel_lookup (env := env) r x
    rw [List.map_cons, List.lookup_cons]
    cases hx : x == n with
    | true =>
      have e := beq_iff_eq.mp hx
      subst e
      by_cases hc : (k == NameKind.free && env.scope.kind == .function && env.kindOf x == some .cell) = true
      · show List.lookup x ((if _ then _ else _) :: _) = _
        rw [if_pos hc]; simp only [List.lookup_cons, hx, Option.map_some]; rw [if_pos hc]
      · show List.lookup x ((if _ then _ else _) :: _) = _
        rw [if_neg hc]; simp only [List.lookup_cons, hx, Option.map_some]; rw [if_neg hc]
    | false =>
      show List.lookup x ((if _ then _ else _) :: _) = _
      by_cases hc : (k == NameKind.free && env.scope.kind == .function && env.kindOf n == some .cell) = true
      · rw [if_pos hc]; simp only [List.lookup_cons, hx]; exact ih
      · rw [if_neg hc]; simp only [List.lookup_cons, hx]; exact ih

theorem newCompEnv {M : Model} {A : Around} {s : Shared} {scope : Scope} {globals : Addr} {cl : List (Str × Addr)} {qual : Str} {env : Env} {Q : Env → Shared → Prop}
    (hQ : Q (newEnv scope s.heap.objs.size globals (cellsFrom (s.heap.objs.size + 1) scope.names cl) qual none .none (some env) env.builtins) { s with heap := pushCells (s.heap.push { cls := .type "dict", data := .dict #[] }) scope.names }) :
    wpAny M A (newFunctionEnv scope globals cl [] qual none .none (some env)) Q NoE s := by
  simp only [newFunctionEnv, Option.isSome_some, if_true]
  refine wpAny_bind (wpAny_alloc ?_)
  refine wpAny_bind (wpAny_layCells _ (fun name kind cells => by cases hkc : kind == NameKind.cell <;> simp [hkc]) _ _ _ _ ?_)
  rw [show ({ s with heap := s.heap.push { cls := .type "dict", data := .dict #[] } } : Shared).heap.objs.size = s.heap.objs.size + 1 from Heap.size_push ..]
  refine wpAny_bind ?_
  rw [List.forIn_nil]
  exact wpAny_pure (wpAny_pure hQ)

theorem pushCells_get : ∀ (names : List (Str × NameKind)) (h : Heap) (j : Nat), j < (cellNames names).length → (pushCells h names).get? (h.objs.size + j) = some { cls := .type "cell", data := .cell none }
  | [], h, j, hj => by simp [cellNames] at hj
  | (n, k) :: r, h, j, hj => by
    unfold pushCells
    unfold cellNames at hj
    split
    · rename_i hk
      rw [if_pos hk, List.length_cons] at hj
      cases j with
      | zero => exact pushCells_keeps r _ _ _ (Heap.get?_push_size _ rfl)
      | succ j =>
        have := pushCells_get r (h.push { cls := .type "cell", data := .cell none }) j (by omega)
        rw [Heap.size_push] at this
        rw [show h.objs.size + (j + 1) = h.objs.size + 1 + j by omega]; exact this
    · rename_i hk
      rw [if_neg hk] at hj
      exact pushCells_get r h j hj

noncomputable def cslot (names : List (Str × NameKind)) (n nc : Nat) (outer : List (Str × Slot)) (x : Str) : Slot → Bool
  | .loc => isK names x .local
  | .glb => isK names x .globalImplicit
  | .cel k => (isK names x .cell && decide (n + 1 < k) && decide (cellIx names 0 x Option.none = some (k - n - 2)) && decide (k - n - 2 < nc))
      || (isK names x .free && decide (cellIx names 0 x Option.none = Option.none) && outer.any fun p => decide (p.1 = x) && match p.2 with | .cel j => decide (j = k) | _ => false)
  | .fre _ => false
noncomputable def compOk (names : List (Str × NameKind)) (n : Nat) (ls : List Str) (nc : Nat) (outer tab : List (Str × Slot)) : Bool :=
  (tab.all fun p => cslot names n nc outer p.1 p.2) && (names.all fun p => decide (p.2 ≠ .free) || outer.any fun q => decide (q.1 = p.1) && match q.2 with | .cel _ => true | _ => false)
    && nodupB ls && decide ((cellNames names).length = nc) && (names.all fun p => decide (p.2 ≠ .local) || isK names p.1 .local)
noncomputable def compFr (ls : List Str) (nc : Nat) : List MO := .ns (ls.map fun n => (n, .any)) :: List.replicate nc (.cell .any)
end Mine
-- B14
namespace Mine
noncomputable def turnT (target : Expr) (ifs : List Expr) (ip : Pos) (it : Value) (env : Env) (emit : Sem Unit) (code : Code) : Sem Fin := do
  standAt ip
  match ← pyNext it with
  | none => pure (.done .next)
  | some v =>
    letOwnedTupleGo target it v
    assign target env v
    let mut ok := true
    for c in ifs do
      if ok then ok ← isTrue c env (eval c env)
    if ok then emit
    again code
theorem wp_turnT {M : Model} {A : Around} {E : Value → Shared → Prop} {target : Expr} {ifs : List Expr} {ip : Pos} {it : Value} {env : Env} {emit : Sem Unit} {code : Code} {s : Shared} {Q : Fin → Shared → Prop}
    (h : wpAny M A (pyNext it) (fun r s₁ => match r with
      | none => Q (.done .next) s₁
      | some v => wpAny M A (letOwnedTupleGo target it v) (fun _ s₁' => wpAny M A (assign target env v) (fun _ s₂ =>
          wpAny M A (forIn ifs true fun c r => if r = true then do let ok ← isTrue c env (eval c env); pure (ForInStep.yield ok) else pure (ForInStep.yield r)) (fun ok s₃ =>
            if ok = true then wpAny M A emit (fun _ s₄ => Q (.again code) s₄) E s₃ else Q (.again code) s₃) E s₂) E s₁') E s₁) E s) : wpAny M A (turnT target ifs ip it env emit code) Q E s := by
  unfold turnT
  refine wpAny_bind (wpAny_standAt (wpAny_bind (wpAny_mono h (fun r s₁ h₁ => ?_) fun _ _ e => e)))
  cases r with
  | none => exact wpAny_pure h₁
  | some v =>
    refine wpAny_bind (wpAny_mono h₁ (fun _ s₂ h₂ => wpAny_bind (wpAny_mono h₂ (fun _ s₃ h₃ => wpAny_bind (wpAny_mono h₃ (fun ok s₄ h₄ => ?_) fun _ _ e => e)) fun _ _ e => e)) fun _ _ e => e)
    cases ok with
    | true => exact wpAny_bind (wpAny_mono h₄ (fun _ s₅ h₅ => wpAny_pure h₅) fun _ _ e => e)
    | false => exact wpAny_pure h₄

noncomputable def Em (c : Cx) (d : Sd) (emit : Sem Unit) (σ σ' : List MO) : Prop :=
  ∀ V s, St0 c.W V σ s → Fo c d V σ.length → wpAny c.W.M c.A emit (Pt c.W σ V s σ' fun _ _ => True) NoE s
noncomputable def Tst (c : Cx) (d : Sd) (ifs : List Expr) (σ : List MO) (b : Bool) (σ' : List MO) : Prop :=
  ∀ V s, St0 c.W V σ s → Fo c d V σ.length → wpAny c.W.M c.A (forIn ifs true fun e r => if r = true then do let ok ← isTrue e c.env (eval e c.env); pure (ForInStep.yield ok) else pure (ForInStep.yield r)) (Pt c.W σ V s σ' fun _ v => v = b) NoE s
noncomputable def CTurn (c : Cx) (d : Sd) (target : Expr) (ifs : List Expr) (emit : Sem Unit) (n : Nat) (J : List MO → Prop) (σ : List MO) (t : T) : Prop :=
  ∃ σ₁, AsV c d target σ (.tr t) σ₁ ∧ ∃ ok σ₂, Tst c d ifs σ₁ ok σ₂ ∧ (ok = true → ∃ σ₃, Em c d emit σ₂ σ₃ ∧ ∃ σ', Lo n σ₃ σ' ∧ J σ') ∧ (ok = false → ∃ σ', Lo n σ₂ σ' ∧ J σ')

section
variable {c : Cx} {d : Sd} {σ σ₁ σ₂ σ₃ : List MO}
theorem Tst.nil : Tst c d [] σ true σ := fun V s S F => wpAny_pure (Pt.here S rfl)
theorem Tst.one {e : Expr} {b : Bool} (h : EvB c d e σ b σ₁) : Tst c d [e] σ b σ₁ := fun V s S F => wpAny_tests_one (h V s S F)

theorem comp_turns {target : Expr} {ifs : List Expr} {ip : Pos} {it : Value} {emit : Sem Unit} {code : Code} {us : List T} {dep : List MO → Prop} (I : Itr c.W c.A target it us dep) {n : Nat} (hn : I.base ≤ n)
    (J : Nat → List MO → Prop) (hd : ∀ i σ', J i σ' → dep σ') (turn : ∀ i t σ', us[i]? = some t → J i σ' → CTurn c d target ifs emit n (J (i + 1)) σ' t)
    {B : Nat} {V₀ : Vw} {s₀ : Shared} {σ₀ : List MO} (F₀ : Fo c d V₀ σ₀.length) (hlo : B ≤ I.lo) (hle : σ₀.length ≤ n) {i : Nat} {V : Vw} {s : Shared} (hi : i ≤ us.length) (hJ : J i σ) (E : ExtB B σ₀ V₀ s₀ σ V s) (hB : B ≤ s.heap.objs.size) (S : St0 c.W V σ s) (hA : I.At i V σ.length s)
    {E' : Value → Shared → Prop} :
    wpAny c.W.M c.A (turnT target ifs ip it c.env emit code) (fun fin s' => match fin with
      | .done f => f = .next ∧ ∃ σ' V', ExtB B σ₀ V₀ s₀ σ' V' s' ∧ St0 c.W V' σ' s' ∧ J us.length σ'
      | .again c' => c' = code ∧ i < us.length ∧ ∃ σ' V', J (i + 1) σ' ∧ ExtB B σ₀ V₀ s₀ σ' V' s' ∧ B ≤ s'.heap.objs.size ∧ St0 c.W V' σ' s' ∧ I.At (i + 1) V' σ'.length s') E' s := by
  refine wp_turnT ?_
  by_cases h : i < us.length
  · obtain ⟨t, ht⟩ : ∃ t, us[i]? = some t := ⟨_, List.getElem?_eq_getElem h⟩
    refine wpAny_mono (I.item ht (hd i σ hJ) S hA) (fun r s₁ ⟨v, e, h₁⟩ => ?_) fun _ _ e => e.elim
    subst e
    refine wpAny_mono h₁ (fun _ s₂ ⟨V₂, E₂, S₂, hA₂, rt⟩ => ?_) fun _ _ e => e.elim
    have X2 : ExtB B σ₀ V₀ s₀ σ V₂ s₂ := E.trans E₂ hlo
    obtain ⟨σ₁, ha, ok, σ₂, htst, hy, hno⟩ := turn i t σ ht hJ
    have B2 : B ≤ s₂.heap.objs.size := Nat.le_trans hB E₂.len
    refine wpAny_mono (ha V₂ s₂ v S₂ (F₀.mono X2.ad X2.le) rt trivial) (fun _ s₃ ⟨V₃, E₃, S₃, _⟩ => ?_) fun _ _ e => e.elim
    have X3 : ExtB B σ₀ V₀ s₀ σ₁ V₃ s₃ := X2.trans E₃ B2
    have hA₃ := I.frame hA₂ S₂ E₃ S₃
    have B3 : B ≤ s₃.heap.objs.size := Nat.le_trans B2 E₃.len
    refine wpAny_mono (htst V₃ s₃ S₃ (F₀.mono X3.ad X3.le)) (fun b s₄ ⟨V₄, E₄, S₄, eb⟩ => ?_) fun _ _ e => e.elim
    subst eb
    have X4 : ExtB B σ₀ V₀ s₀ σ₂ V₄ s₄ := X3.trans E₄ B3
    have hA₄ := I.frame hA₃ S₃ E₄ S₄
    have B4 : B ≤ s₄.heap.objs.size := Nat.le_trans B3 E₄.len
    have fin : ∀ {σ₃ : List MO} {V₅ : Vw} {s₅ : Shared}, ExtB B σ₀ V₀ s₀ σ₃ V₅ s₅ → B ≤ s₅.heap.objs.size → St0 c.W V₅ σ₃ s₅ → I.At (i + 1) V₅ σ₃.length s₅ → (∃ σ', Lo n σ₃ σ' ∧ J (i + 1) σ') →
        code = code ∧ i < us.length ∧ ∃ σ' V', J (i + 1) σ' ∧ ExtB B σ₀ V₀ s₀ σ' V' s₅ ∧ B ≤ s₅.heap.objs.size ∧ St0 c.W V' σ' s₅ ∧ I.At (i + 1) V' σ'.length s₅ := fun {σ₃ V₅ s₅} X5 B5 S₅ hA₅ ⟨σ', ⟨τ, hst, l1, l2, l3⟩, hj⟩ => by
      obtain ⟨V₆, E₆, S₆⟩ := hst c.W V₅ s₅ S₅
      exact ⟨rfl, h, σ', V₆, hj, (X5.trans E₆ B5).cut l2 (Nat.le_trans hle l1), B5, l3 _ _ _ S₆, I.less (I.frame hA₅ S₅ E₆ S₆) l2 (Nat.le_trans hn l1)⟩
    cases b with
    | true =>
      obtain ⟨σ₃, hem, hr⟩ := hy rfl
      show wpAny _ _ _ _ _ _
      refine wpAny_mono (hem V₄ s₄ S₄ (F₀.mono X4.ad X4.le)) (fun _ s₅ ⟨V₅, E₅, S₅, _⟩ => ?_) fun _ _ e => e.elim
      exact fin (X4.trans E₅ B4) (Nat.le_trans B4 E₅.len) S₅ (I.frame hA₄ S₄ E₅ S₅) hr
    | false => exact fin X4 B4 S₄ hA₄ (hno rfl)
  · have hi' : i = us.length := by omega
    subst hi'
    refine wpAny_mono (I.done (hd _ σ hJ) S hA) (fun r s₁ ⟨e, V₁, E₁, S₁⟩ => ?_) fun _ _ e => e.elim
    subst e
    exact ⟨rfl, σ, V₁, E.trans E₁ hlo, S₁, hJ⟩

theorem list_loop {elt : Expr} {gens : List Comprehension} {scope : Scope} {pos : Pos} {k : Nat} {acc : Value} {target : Expr} {ifs : List Expr} {ip : Pos} {it : Value} {emit : Sem Unit} {us : List T} {dep : List MO → Prop} (I : Itr c.W c.A target it us dep) {n : Nat} (hn : I.base ≤ n)
    (he : compTurn (.ListComp elt gens scope pos) k it acc c.env = turnT target ifs ip it c.env emit (.compLoop (.ListComp elt gens scope pos) k it acc c.env))
    (J : Nat → List MO → Prop) (hd : ∀ i σ', J i σ' → dep σ') (turn : ∀ i t σ', us[i]? = some t → J i σ' → CTurn c d target ifs emit n (J (i + 1)) σ' t)
    {B : Nat} {V₀ : Vw} {s₀ : Shared} {σ₀ : List MO} (F₀ : Fo c d V₀ σ₀.length) (hlo : B ≤ I.lo) (hle : σ₀.length ≤ n) {V : Vw} {s : Shared} (hJ : J 0 σ) (E : ExtB B σ₀ V₀ s₀ σ V s) (hB : B ≤ s.heap.objs.size) (S : St0 c.W V σ s) (hA : I.At 0 V σ.length s) :
    codeAny c.W.M c.A (.compLoop (.ListComp elt gens scope pos) k it acc c.env) (fun r s' => r = .ok .next ∧ ∃ σ' V', ExtB B σ₀ V₀ s₀ σ' V' s' ∧ St0 c.W V' σ' s' ∧ J us.length σ') s := by
  refine codeAny_loop rfl (fun m s' => ∃ i σ' V', m + i = us.length ∧ J i σ' ∧ ExtB B σ₀ V₀ s₀ σ' V' s' ∧ B ≤ s'.heap.objs.size ∧ St0 c.W V' σ' s' ∧ I.At i V' σ'.length s') (fun m s' ⟨i, σ', V', hm, hJ', E', hB', S', hA'⟩ => ?_) us.length ⟨0, σ, V, rfl, hJ, E, hB, S, hA⟩
  show wpAny _ _ ((compTurn (.ListComp elt gens scope pos) k it acc c.env).onRaise (fun x => do noteFrame x c.env; theTreesLotGoes x)) _ _ s'
  refine wpAny_noted ?_
  rw [he]
  refine wpAny_mono (comp_turns (E' := NoE) I hn J hd turn F₀ hlo hle (by omega) hJ' E' hB' S' hA') (fun fin s₁ h => ?_) fun _ _ e => e.elim
  cases fin with
  | done f => obtain ⟨rfl, r⟩ := h; exact ⟨rfl, r⟩
  | again c' => obtain ⟨rfl, hi, σ₁, V₁, r⟩ := h; exact ⟨rfl, m - 1, by omega, i + 1, σ₁, V₁, by omega, r⟩
theorem dict_loop {kx vx : Expr} {gens : List Comprehension} {scope : Scope} {pos : Pos} {k : Nat} {acc : Value} {target : Expr} {ifs : List Expr} {ip : Pos} {it : Value} {emit : Sem Unit} {us : List T} {dep : List MO → Prop} (I : Itr c.W c.A target it us dep) {n : Nat} (hn : I.base ≤ n)
    (he : compTurn (.DictComp kx vx gens scope pos) k it acc c.env = turnT target ifs ip it c.env emit (.compLoop (.DictComp kx vx gens scope pos) k it acc c.env))
    (J : Nat → List MO → Prop) (hd : ∀ i σ', J i σ' → dep σ') (turn : ∀ i t σ', us[i]? = some t → J i σ' → CTurn c d target ifs emit n (J (i + 1)) σ' t)
    {B : Nat} {V₀ : Vw} {s₀ : Shared} {σ₀ : List MO} (F₀ : Fo c d V₀ σ₀.length) (hlo : B ≤ I.lo) (hle : σ₀.length ≤ n) {V : Vw} {s : Shared} (hJ : J 0 σ) (E : ExtB B σ₀ V₀ s₀ σ V s) (hB : B ≤ s.heap.objs.size) (S : St0 c.W V σ s) (hA : I.At 0 V σ.length s) :
    codeAny c.W.M c.A (.compLoop (.DictComp kx vx gens scope pos) k it acc c.env) (fun r s' => r = .ok .next ∧ ∃ σ' V', ExtB B σ₀ V₀ s₀ σ' V' s' ∧ St0 c.W V' σ' s' ∧ J us.length σ') s := by
  refine codeAny_loop rfl (fun m s' => ∃ i σ' V', m + i = us.length ∧ J i σ' ∧ ExtB B σ₀ V₀ s₀ σ' V' s' ∧ B ≤ s'.heap.objs.size ∧ St0 c.W V' σ' s' ∧ I.At i V' σ'.length s') (fun m s' ⟨i, σ', V', hm, hJ', E', hB', S', hA'⟩ => ?_) us.length ⟨0, σ, V, rfl, hJ, E, hB, S, hA⟩
  show wpAny _ _ ((compTurn (.DictComp kx vx gens scope pos) k it acc c.env).onRaise (fun x => do noteFrame x c.env; theTreesLotGoes x)) _ _ s'
  refine wpAny_noted ?_
  rw [he]
  refine wpAny_mono (comp_turns (E' := NoE) I hn J hd turn F₀ hlo hle (by omega) hJ' E' hB' S' hA') (fun fin s₁ h => ?_) fun _ _ e => e.elim
  cases fin with
  | done f => obtain ⟨rfl, r⟩ := h; exact ⟨rfl, r⟩
  | again c' => obtain ⟨rfl, hi, σ₁, V₁, r⟩ := h; exact ⟨rfl, m - 1, by omega, i + 1, σ₁, V₁, by omega, r⟩
end
end Mine
-- B15
namespace Mine
section
variable {c : Cx} {d : Sd} {σ σ₁ σ₂ σ₃ : List MO}

structure CFr (c c' : Cx) (tab : List (Str × Slot)) (n : Nat) (d' : Sd) (a : Addr) : Prop where
  hW : c'.W = c.W
  hA : c'.A = c.A
  hn : c'.n = c.n
  cur : d'.cur = n + 1
  htab : d'.tab = tab
  acc : (n, a) ∈ d'.acc

theorem replicate_get {α : Type} {n i : Nat} {x y : α} (h : (List.replicate n x)[i]? = some y) : y = x ∧ i < n := by
  rw [List.getElem?_replicate] at h
  split at h
  · rename_i hi; exact ⟨(Option.some.inj h).symm, hi⟩
  · cases h

theorem comp_core {e : Expr} {scope : Scope} {pos : Pos} {newAcc : Sem Value} {target iter : Expr} {ifs : List Expr} {gs : List Comprehension} {use : Option (Value → Sem Unit)} {us : List T} {dep : List MO → Prop} {n nc : Nat} {ls : List Str} {tab : List (Str × Slot)} {J : List MO → Prop} {o0 : Obj} {mo0 : MO}
    {Q : Value → Shared → Prop} {V : Vw} {s : Shared} (S : St0 c.W V σ s) (F : Fo c d V σ.length)
    (hcl : clausesOf e = ⟨target, iter, ifs, 0⟩ :: gs) (hs : ∀ x, foldedSetIterable iter c.env x = pure x)
    (hsrc : Src c d target iter σ us dep σ₁) (hn : σ₁.length = n) (hok : compOk scope.names n ls nc d.tab tab = true) (hkind : scope.kind = .function)
    (hacc : ∀ s (Q : Value → Shared → Prop), Q (.ref s.heap.objs.size) { s with heap := s.heap.push o0 } → wpAny c.W.M c.A newAcc Q NoE s) (hfr : o0.isFreed = false)
    (hmo : ∀ V h a, h.get? a = some o0 → (a == sysModules) = false → MRp c.W V h a mo0) (hmf : mo0.fits n)
    (run : ∀ (c' : Cx) (d' : Sd) (a : Addr) (it : Value) (I : Itr c.W c.A target it us dep) (V' : Vw) (s' : Shared), CFr c c' tab n d' a → I.base ≤ n → St0 c.W V' (σ₁ ++ mo0 :: compFr ls nc) s' → Fo c' d' V' (σ₁ ++ mo0 :: compFr ls nc).length → I.At 0 V' (σ₁ ++ mo0 :: compFr ls nc).length s' →
      ∀ (B : Nat), B ≤ I.lo → B ≤ s'.heap.objs.size →
      codeAny c.W.M c.A (.compStart e 0 it (.ref a) c'.env) (fun r s'' => r = .ok .next ∧ ∃ σ' V'', ExtB B (σ₁ ++ mo0 :: compFr ls nc) V' s' σ' V'' s'' ∧ St0 c.W V'' σ' s'' ∧ J σ') s')
    (fin : ∀ σ' V' s' (a C : Addr), Ext σ V s σ' V' s' → σ.length ≤ n → (∀ mo ∈ σ₁, mo.fits n) → St0 c.W V' σ' s' → J σ' → n + 1 < σ'.length → V'.ad n = a → V'.ad (n + 1) = C → compPost c.W.M c.A NoE use Q (.ref a) C (.ok .next) s') :
    wpAny c.W.M c.A (comprehension e scope c.env pos newAcc false (eval iter c.env) use) Q NoE s := by
  subst hn
  unfold compOk at hok
  simp only [Bool.and_eq_true] at hok
  obtain ⟨⟨⟨⟨k1, k2⟩, k3⟩, k4⟩, k5⟩ := hok
  have hnc := of_decide_eq_true k4
  have hfree : ∀ p ∈ scope.names, p.2 = .free → (c.env.cells.lookup p.1).isSome = true := fun p hp hk => by
    have := List.all_eq_true.mp k2 p hp
    rw [Bool.or_eq_true] at this
    rcases this with h | h
    · exact absurd hk (of_decide_eq_true h)
    · obtain ⟨q, hq, h⟩ := List.any_eq_true.mp h
      rw [Bool.and_eq_true] at h
      have e1 := of_decide_eq_true h.1
      have h2 := F.tab q hq
      cases hs : q.2 with
      | cel k => rw [hs] at h2; rw [← e1, h2.2.1]; rfl
      | loc => rw [hs] at h; cases h.2
      | glb => rw [hs] at h; cases h.2
      | fre k => rw [hs] at h; cases h.2
  have hnames : ∀ x ∈ scope.names, x.2 = .local → scope.names.lookup x.1 = some .local := fun x hx hl => by
    have := List.all_eq_true.mp k5 x hx
    rw [Bool.or_eq_true] at this
    rcases this with h | h
    · exact absurd hl (of_decide_eq_true h)
    · exact of_decide_eq_true (p := scope.names.lookup x.1 = some .local) h
  refine wpAny_comprehension_free hcl hs (closure_of hfree) hkind hnames (wpAny_mono (hsrc V s S F) (fun x s₁ h₁ => wpAny_mono h₁ (fun it s₂ h₂ => ?_) fun _ _ e => e) fun _ _ e => e)
  obtain ⟨V₂, I, hlo, hbs, E₂, S₂, hA⟩ := h₂
  refine hacc s₂ _ (newCompEnv ?_)
  dsimp only
  have hz : (s₂.heap.push o0).objs.size = s₂.heap.objs.size + 1 := Heap.size_push ..
  have hz3 : ((s₂.heap.push o0).push { cls := .type "dict", data := .dict #[] }).objs.size = s₂.heap.objs.size + 2 := by rw [Heap.size_push, hz]
  generalize hs3 : ({ s₂ with heap := pushCells ((s₂.heap.push o0).push { cls := .type "dict", data := .dict #[] }) scope.names } : Shared) = s₃
  have hkp : ∀ a o, s₂.heap.get? a = some o → s₃.heap.get? a = some o := fun a o e => by rw [← hs3]; exact pushCells_keeps _ _ _ _ (Heap.get?_push_of_some _ (Heap.get?_push_of_some _ e))
  have hsz : s₃.heap.objs.size = s₂.heap.objs.size + 2 + nc := by rw [← hs3, ← hnc, ← hz3]; exact pushCells_size ..
  have hsys : 3 < s₂.heap.objs.size := ((c.W.gd s₂.heap fun a o e => S₂.keep a o (S₂.base a o e)).1).lt
  have ho0 : s₃.heap.get? s₂.heap.objs.size = some o0 := by
    rw [← hs3]
    refine pushCells_keeps _ _ _ _ (Heap.get?_push_of_some _ ?_)
    exact Heap.get?_push_size _ hfr
  have hns : s₃.heap.Ns (s₂.heap.objs.size + 1) (fun _ => Option.none) := by
    rw [← hs3, ← hz]
    exact (Heap.Ns.new (s₂.heap.push o0) (.type "dict")).keeps (pushCells_keeps _ _)
  have hcell : ∀ j, j < nc → s₃.heap.IsCell (s₂.heap.objs.size + (j + 2)) Option.none := fun j hj => by
    have := pushCells_get scope.names ((s₂.heap.push o0).push { cls := .type "dict", data := .dict #[] }) j (by rw [hnc]; exact hj)
    rw [hz3] at this
    rw [show s₂.heap.objs.size + (j + 2) = s₂.heap.objs.size + 2 + j by omega, ← hs3]
    exact ⟨_, this, rfl⟩
  have z := S₂.news (mos := mo0 :: compFr ls nc) (s' := s₃) hkp (fun i mo hm => by
    cases i with
    | zero => cases hm; exact hmo _ _ _ ho0 (beq_eq_false_iff_ne.mpr (Nat.ne_of_gt (Nat.lt_of_le_of_lt (show sysModules ≤ 3 by decide) hsys)))
    | succ i =>
      cases i with
      | zero =>
        cases hm
        refine ⟨_, hns, ?_, fun p hp => ?_⟩
        · rw [List.map_map, show ((fun x : Str × X => x.1) ∘ fun n => (n, X.any)) = id from rfl, List.map_id]; exact nodup_of k3
        · obtain ⟨n, _, rfl⟩ := List.mem_map.mp hp; trivial
      | succ i =>
        have hm' : (List.replicate nc (MO.cell .any))[i]? = some mo := hm
        obtain ⟨rfl, hi⟩ := replicate_get hm'
        exact ⟨_, hcell i hi, trivial⟩) (fun mo hm => by
    rcases List.mem_cons.mp hm with rfl | hm
    · exact hmf
    · rcases List.mem_cons.mp hm with rfl | hm
      · intro p hp
        obtain ⟨n, _, rfl⟩ := List.mem_map.mp hp; trivial
      · rw [List.eq_of_mem_replicate hm]; trivial) (by rw [hsz]; show _ + ((List.replicate nc _).length + 1 + 1) ≤ _; rw [List.length_replicate]; omega) (by rw [← hs3]) (by rw [← hs3])
  generalize hV' : V₂.puts σ₁.length s₂.heap.objs.size = V' at z
  obtain ⟨S', E'⟩ := z
  have had : ∀ k, σ₁.length ≤ k → V'.ad k = s₂.heap.objs.size + (k - σ₁.length) := fun k hk => by rw [← hV']; show (if k < σ₁.length then _ else _) = _; rw [if_neg (by omega)]
  have hlen : (σ₁ ++ mo0 :: compFr ls nc).length = σ₁.length + 2 + nc := by
    rw [List.length_append]; show _ + ((List.replicate nc _).length + 1 + 1) = _; rw [List.length_replicate]; omega
  have EE := E₂.trans E'
  rw [hz]
  let cenv : Env := { newEnv scope (s₂.heap.objs.size + 1) c.env.globals (cellsFrom (s₂.heap.objs.size + 1 + 1) scope.names (closFrom c.env scope.names [])) c.env.qual none .none (some c.env) c.env.builtins with scope := relabel scope c.env }
  have key : ∀ x, cenv.cells.lookup x = match cellIx scope.names 0 x Option.none with | some j => some (s₂.heap.objs.size + 2 + j) | Option.none => (closFrom c.env scope.names []).lookup x := fun x => cellsFrom_lookup (s₂.heap.objs.size + 2) _ scope.names 0 _ x Option.none rfl
  have kOf : ∀ x, cenv.kindOf x = (scope.names.lookup x).map fun k => if (k == NameKind.free && c.env.scope.kind == .function && c.env.kindOf x == some .cell) then NameKind.cell else k := fun x => relabel_lookup scope.names x
  let c' : Cx := ⟨c.W, c.A, cenv, c.n, hkind, c.hg, c.hb, c.hA⟩
  let d' : Sd := ⟨σ₁.length + 1, tab, [(σ₁.length, s₂.heap.objs.size)]⟩
  have F' : Fo c' d' V' (σ₁ ++ mo0 :: compFr ls nc).length := by
    refine ⟨?_, by rw [hlen]; show σ₁.length + 1 < _; omega, fun p hp => ?_, fun p hp => ?_⟩
    · show s₂.heap.objs.size + 1 = V'.ad (σ₁.length + 1)
      rw [had _ (Nat.le_succ _), show σ₁.length + 1 - σ₁.length = 1 by omega]
    · have := List.all_eq_true.mp k1 p hp
      obtain ⟨x, sl⟩ := p
      cases sl with
      | loc =>
        have h : scope.names.lookup x = some .local := of_decide_eq_true (p := scope.names.lookup x = some .local) this
        show cenv.kindOf x = _
        rw [kOf, h]; rfl
      | glb =>
        have h : scope.names.lookup x = some .globalImplicit := of_decide_eq_true (p := scope.names.lookup x = some .globalImplicit) this
        show cenv.kindOf x = _
        rw [kOf, h]; rfl
      | fre k => cases this
      | cel k =>
        simp only [cslot, Bool.or_eq_true, Bool.and_eq_true] at this
        rcases this with ⟨⟨⟨h1, h2⟩, h3⟩, h4⟩ | ⟨⟨h1, h2⟩, h3⟩
        · have h1' : scope.names.lookup x = some .cell := of_decide_eq_true (p := scope.names.lookup x = some .cell) h1
          have h2' := of_decide_eq_true h2
          have h4' := of_decide_eq_true h4
          refine ⟨?_, ?_, by rw [hlen]; show k < _; omega⟩
          · show cenv.kindOf x = _
            rw [kOf, h1']; rfl
          · show cenv.cells.lookup x = _
            rw [key, of_decide_eq_true h3]
            show some _ = some _
            rw [had k (by omega)]
            congr 1
            show s₂.heap.objs.size + 2 + (k - σ₁.length - 2) = s₂.heap.objs.size + (k - σ₁.length)
            omega
        · have h1' : scope.names.lookup x = some .free := of_decide_eq_true (p := scope.names.lookup x = some .free) h1
          obtain ⟨q, hq, h⟩ := List.any_eq_true.mp h3
          rw [Bool.and_eq_true] at h
          have e1 := of_decide_eq_true h.1
          have h5 := F.tab q hq
          cases hs : q.2 with
          | loc => rw [hs] at h; cases h.2
          | glb => rw [hs] at h; cases h.2
          | fre k => rw [hs] at h; cases h.2
          | cel j =>
            rw [hs] at h h5
            have ej := of_decide_eq_true h.2
            subst ej; subst e1
            obtain ⟨g1, g2, g3⟩ := h5
            refine ⟨?_, ?_, by rw [hlen]; show j < _; have := E₂.le; omega⟩
            · show cenv.kindOf q.1 = _
              rw [kOf, h1', g1, c.hk]; rfl
            · show cenv.cells.lookup q.1 = _
              rw [key, of_decide_eq_true h2]
              show (closFrom c.env scope.names []).lookup q.1 = _
              rw [closFrom_lookup c.env scope.names [] q.1 _ g2 (.inl h1'), EE.ad j g3]
    · rw [List.mem_singleton.mp hp]
      refine ⟨?_, by rw [hlen]; show σ₁.length < _; omega⟩
      rw [had _ (Nat.le_refl _), Nat.sub_self]; rfl
  have hA' := I.frame hA S₂ E' S'
  have r := run c' d' s₂.heap.objs.size it I V' s₃ ⟨rfl, rfl, rfl, rfl, rfl, .head _⟩ hbs S' F' hA' s.heap.objs.size hlo EE.len
  have r' : codeAny c.W.M c.A (.compStart e 0 it (.ref s₂.heap.objs.size) cenv) _ s₃ := r
  refine codeAny_mono r' fun rr s' ⟨hr, σ', V'', X2, S'', hJ⟩ => ?_
  subst hr
  have l2 : σ₁.length + 1 < σ'.length := by have := X2.le; rw [hlen] at this; omega
  have a1 : V''.ad σ₁.length = s₂.heap.objs.size := by rw [X2.ad _ (by rw [hlen]; omega), had _ (Nat.le_refl _), Nat.sub_self]; rfl
  have a2 : V''.ad (σ₁.length + 1) = s₂.heap.objs.size + 1 := by rw [X2.ad _ (by rw [hlen]; omega), had _ (Nat.le_succ _), show σ₁.length + 1 - σ₁.length = 1 by omega]
  exact fin σ' V'' s' _ _ (ExtB.trans EE X2 (Nat.le_refl _)) E₂.le (fun mo hm => by obtain ⟨k, hk⟩ := List.mem_iff_getElem?.mp hm; exact S₂.fit k mo hk) S'' hJ l2 a1 a2
end
end Mine
-- B16
namespace Mine
section
variable {c : Cx} {d : Sd} {σ σ₁ σ₂ σ₃ : List MO}

theorem PutL.append {k : Nat} {a b : MO} {σ σ' r : List MO} (h : PutL σ k a b σ') : PutL (σ ++ r) k a b (σ' ++ r) := by
  induction h with
  | here => exact .here
  | there _ ih => exact .there ih
theorem PutL.length {k : Nat} {a b : MO} {σ σ' : List MO} (h : PutL σ k a b σ') : σ'.length = σ.length := by
  rw [h.set, List.length_set]

theorem comp_end {n : Nat} {mo : MO} {t : T} {m : List (Str × X)} {fr : List MO} {V V' : Vw} {s s' : Shared} (E : Ext σ V s (σ₂ ++ mo :: .ns m :: fr) V' s') (S' : St0 c.W V' (σ₂ ++ mo :: .ns m :: fr) s') (ht : mo.tree = some t) (h2 : σ₂.length = n) (hle : σ.length ≤ n) :
    ∃ V'', Ext σ V s (σ₂ ++ .dead :: .ns m :: fr) V'' s' ∧ St0 c.W V'' (σ₂ ++ .dead :: .ns m :: fr) s' ∧ V''.ad = V'.ad ∧ Rp c.W V''.F t (.ref (V'.ad n)) ∧ s.heap.objs.size ≤ V'.ad (n + 1) := by
  subst h2
  have hk : (σ₂ ++ mo :: .ns m :: fr)[σ₂.length]? = some mo := by simp
  obtain ⟨V'', E2, S2, had, hF, hr⟩ := S'.freeze hk ht
  have e : (σ₂ ++ mo :: .ns m :: fr).set σ₂.length .dead = σ₂ ++ .dead :: .ns m :: fr := by simp
  rw [e] at E2 S2
  refine ⟨V'', E.trans E2, S2, had, hr, E.fresh _ (by omega) ?_⟩
  rw [List.length_append]; show σ₂.length + 1 < σ₂.length + (fr.length + 1 + 1); omega
theorem frame_goes {n : Nat} {m : List (Str × X)} {fr : List MO} {V V' : Vw} {s s' : Shared} {h' : Heap} (E : Ext σ V s (σ₂ ++ .dead :: .ns m :: fr) V' s') (S' : St0 c.W V' (σ₂ ++ .dead :: .ns m :: fr) s') (h2 : σ₂.length = n) (hle : σ.length ≤ n) (hf : ∀ mo ∈ σ₂, mo.fits n)
    (hs : Heap.SameBut (V'.ad (n + 1)) s'.heap h') (hfresh : s.heap.objs.size ≤ V'.ad (n + 1)) : Ext σ V s σ₂ V' { s' with heap := h' } ∧ St0 c.W V' σ₂ { s' with heap := h' } := by
  subst h2
  have hlen : (σ₂ ++ .dead :: .ns m :: fr).length = σ₂.length + (fr.length + 2) := by rw [List.length_append]; rfl
  have hns : (σ₂ ++ .dead :: .ns m :: fr)[σ₂.length + 1]? = some (.ns m) := by
    rw [List.getElem?_append_right (by omega), show σ₂.length + 1 - σ₂.length = 1 by omega]; rfl
  have hout := S'.out _ _ hns rfl
  have S2 : St0 c.W V' σ₂ s' := S'.take fun k mo e => hf mo (List.mem_of_getElem? e)
  have wr : ∀ b ∈ [V'.ad (σ₂.length + 1)], V'.F b = Option.none ∧ ∀ k, k < σ₂.length → b ≠ V'.ad k := fun b hb => by
    rw [List.mem_singleton.mp hb]
    exact ⟨hout, fun k hk e => by have := S'.inj _ _ (by rw [hlen]; omega) (by rw [hlen]; omega) e; omega⟩
  have hk : ∀ b o, b ∉ [V'.ad (σ₂.length + 1)] → s'.heap.get? b = some o → h'.get? b = some o := fun b o hb e => (hs.2 b (fun q => hb (by simp [q]))).trans e
  have hz : s'.heap.objs.size ≤ h'.objs.size := Nat.le_of_eq hs.1.symm
  refine ⟨?_, S2.beside (s' := { s' with heap := h' }) wr hk hz rfl rfl⟩
  have E3 : ExtB s.heap.objs.size (σ₂ ++ .dead :: .ns m :: fr) V' s' (σ₂ ++ .dead :: .ns m :: fr) V' { s' with heap := h' } :=
    ⟨fun _ _ e => e, fun _ _ e => .inl e, fun _ _ => rfl, fun a o ha _ e => hk a o (fun hb => by rw [List.mem_singleton.mp hb] at ha; exact absurd ha (Nat.not_lt.mpr hfresh)) e, fun k x y => absurd y (Nat.not_lt.mpr x), hz, Nat.le_refl _⟩
  have EE : ExtB s.heap.objs.size σ V s _ V' { s' with heap := h' } := ExtB.trans E E3 (Nat.le_refl _)
  exact EE.cut (by rw [hlen]; omega) hle

theorem comp_value {n : Nat} {mo : MO} {t : T} {m : List (Str × X)} {fr : List MO} {V V' : Vw} {s s' : Shared} {a C : Addr} (E : Ext σ V s (σ₂ ++ mo :: .ns m :: fr) V' s') (S' : St0 c.W V' (σ₂ ++ mo :: .ns m :: fr) s') (ht : mo.tree = some t) (h2 : σ₂.length = n) (hle : σ.length ≤ n) (hf : ∀ mo ∈ σ₂, mo.fits n)
    (ha : V'.ad n = a) (hC : V'.ad (n + 1) = C) : compPost c.W.M c.A NoE none (Pt c.W σ V s σ₂ fun V' v => XRp c.W V' (.tr t) v ∧ X.fits σ₂.length (.tr t)) (.ref a) C (.ok .next) s' := by
  subst ha; subst hC
  have hns : (σ₂ ++ mo :: .ns m :: fr)[n + 1]? = some (.ns m) := by
    rw [List.getElem?_append_right (by omega), show n + 1 - σ₂.length = 1 by omega]; rfl
  obtain ⟨f, hN, _⟩ := S'.led _ _ hns
  obtain ⟨V'', E2, S2, had, hr, hfr⟩ := comp_end E S' ht h2 hle
  refine ⟨f, hN, fun h' hs' => ?_⟩
  have z := frame_goes (n := n) (h' := h') E2 S2 h2 hle hf (by rw [had]; exact hs') (by rw [had]; exact hfr)
  exact ⟨V'', z.1, z.2, hr, trivial⟩
theorem comp_used {n : Nat} {mo : MO} {t : T} {m : List (Str × X)} {fr : List MO} {V V' : Vw} {s s' : Shared} {a C : Addr} {y : Str} {py : Pos} {mm mm' : List (Str × X)} {Q : Out → Prop} (F : Fo c d V σ.length) (E : Ext σ V s (σ₂ ++ mo :: .ns m :: fr) V' s') (S' : St0 c.W V' (σ₂ ++ mo :: .ns m :: fr) s') (ht : mo.tree = some t) (h2 : σ₂.length = n) (hle : σ.length ≤ n) (hf : ∀ mo ∈ σ₃, mo.fits n)
    (ha : V'.ad n = a) (hC : V'.ad (n + 1) = C) (hs : (y, Slot.loc) ∈ d.tab) (hl : PutL σ₂ d.cur (.ns mm) (.ns mm') σ₃) (hm : PutN mm y (.tr t) mm') (hq : Q (.nxt σ₃)) :
    compPost c.W.M c.A NoE (some (assign (.Name y py) c.env)) (fun _ s' => PQ c.W σ V s Q .next s') (.ref a) C (.ok .next) s' := by
  subst ha; subst hC
  obtain ⟨V'', E2, S2, had, hr, hfr⟩ := comp_end E S' ht h2 hle
  have hst : StN c d y (σ₂ ++ .dead :: .ns m :: fr) (.tr t) (σ₃ ++ .dead :: .ns m :: fr) := StN.loc hs hl.append hm
  have h3 : σ₃.length = n := hl.length.trans h2
  show wpAny _ _ (assign (.Name y py) c.env (.ref (V'.ad n))) _ _ _
  refine wpAny_mono (AsV.name hst V'' s' _ S2 (F.ext E2) hr trivial) (fun _ s₃ ⟨V₃, E3, S3, _⟩ => ?_) fun _ _ e => e
  have e1 : V₃.ad (n + 1) = V'.ad (n + 1) := by
    rw [E3.ad _ (by rw [List.length_append]; show n + 1 < σ₂.length + (fr.length + 1 + 1); omega), had]
  have hns : (σ₃ ++ MO.dead :: .ns m :: fr)[n + 1]? = some (.ns m) := by
    rw [List.getElem?_append_right (by omega), show n + 1 - σ₃.length = 1 by omega]; rfl
  obtain ⟨f, hN, _⟩ := S3.led _ _ hns
  rw [e1] at hN
  refine ⟨f, hN, fun h' hs' => ?_⟩
  have z := frame_goes (n := n) (h' := h') (E2.trans E3) S3 h3 hle hf (by rw [e1]; exact hs') (by rw [e1]; exact hfr)
  exact ⟨σ₃, V₃, z.1, z.2, hq⟩

noncomputable def emitL (elt : Expr) (acc : Value) (env : Env) : Sem Unit := do let _ ← call (.builtin "list.append") [acc, ← eval elt env]
theorem Em.app {elt : Expr} {n : Nat} {a : Addr} {ts : List T} {y : T} (h : Ev c d elt σ y σ₁) (ha : (n, a) ∈ d.acc) (hk : PutL σ₁ n (.list ts) (.list (ts ++ [y])) σ₂) (hz : ts.length ≤ 1000000) : Em c d (emitL elt (.ref a) c.env) σ σ₂ := fun V s S F => by
  refine wpAny_bind (seq (h V s S F) fun V₁ s₁ v E₁ S₁ q₁ => wpAny_bind ?_)
  obtain ⟨vs, m, ho, q⟩ := S₁.led _ _ hk.get
  have F₁ := F.ext E₁
  have hlen : vs.size = ts.length := by simpa using q.length
  have had := (F₁.acc _ ha).1
  have had' : V₁.ad n = a := had
  rw [← had']
  refine wpAny_size (call_meets PySem.F.slot_list_append ⟨_, ho, rfl⟩ PySem.F.entry_list_append (PySem.F.args_list_append_2 _ _) (list_append (V₁.ad n) vs m v (by rw [sizeLine_eq]; omega)) ⟨ho, fun hz' => wpAny_pure ?_⟩)
  have z := S₁.upd (mo' := .list (ts ++ [y])) (s' := { s₁ with heap := s₁.heap.update (V₁.ad n) (Obj.mapSeq fun x_1 => x_1.push v) }) hk.get rfl (fun a o ha e => (Heap.SameBut.update ..).extBut a o ha e) hz' ⟨_, _, IsL.update ho _, by rw [Array.toList_push]; exact Rps.append q ⟨v, [], rfl, q₁.1, rfl⟩⟩ trivial rfl rfl
  rw [hk.set]
  exact ⟨V₁, E₁.trans z.2, z.1, trivial⟩

theorem list_run {elt target iter : Expr} {ifs : List Expr} {rest : List Comprehension} {scope : Scope} {pos : Pos} {us : List T} {dep : List MO → Prop} {n nc : Nat} {ls : List Str} {tab : List (Str × Slot)} {emit : Cx → Addr → Sem Unit} {ip : Pos}
    (he : ∀ (c' : Cx) (a : Addr) (it : Value), compTurn (.ListComp elt (⟨target, iter, ifs, 0⟩ :: rest) scope pos) 0 it (.ref a) c'.env = turnT target ifs ip it c'.env (emit c' a) (.compLoop (.ListComp elt (⟨target, iter, ifs, 0⟩ :: rest) scope pos) 0 it (.ref a) c'.env))
    (J : Nat → List MO → Prop) (h0 : J 0 (σ₁ ++ .list [] :: compFr ls nc)) (hd : ∀ i σ', J i σ' → dep σ')
    (turn : ∀ (c' : Cx) (d' : Sd) (a : Addr), CFr c c' tab n d' a → ∀ i t σ', us[i]? = some t → J i σ' → CTurn c' d' target ifs (emit c' a) (σ₁ ++ .list [] :: compFr ls nc).length (J (i + 1)) σ' t)
    (hle : n ≤ (σ₁ ++ .list [] :: compFr ls nc).length)
    (c' : Cx) (d' : Sd) (a : Addr) (it : Value) (I : Itr c.W c.A target it us dep) (V' : Vw) (s' : Shared) (hc : CFr c c' tab n d' a) (hb : I.base ≤ n) (S : St0 c.W V' (σ₁ ++ .list [] :: compFr ls nc) s') (F : Fo c' d' V' (σ₁ ++ .list [] :: compFr ls nc).length) (hA : I.At 0 V' (σ₁ ++ .list [] :: compFr ls nc).length s')
    (B : Nat) (hlo : B ≤ I.lo) (hB : B ≤ s'.heap.objs.size) :
    codeAny c.W.M c.A (.compStart (.ListComp elt (⟨target, iter, ifs, 0⟩ :: rest) scope pos) 0 it (.ref a) c'.env) (fun r s'' => r = .ok .next ∧ ∃ σ' V'', ExtB B (σ₁ ++ .list [] :: compFr ls nc) V' s' σ' V'' s'' ∧ St0 c.W V'' σ' s'' ∧ J us.length σ') s' := by
  obtain ⟨W', A', env', n', k1, k2, k3, k4⟩ := c'
  obtain ⟨hW, hA', hn, x1, x2, x3⟩ := hc
  have hW' : W' = c.W := hW
  have hA'' : A' = c.A := hA'
  subst hW'; subst hA''
  have lp := list_loop (c := ⟨c.W, c.A, env', n', k1, k2, k3, k4⟩) (d := d') (n := (σ₁ ++ .list [] :: compFr ls nc).length) I (Nat.le_trans hb hle) (he ⟨c.W, c.A, env', n', k1, k2, k3, k4⟩ a it) J hd (turn _ _ a ⟨rfl, rfl, hn, x1, x2, x3⟩) F hlo (Nat.le_refl _) h0
    (⟨fun _ _ e => e, fun _ _ e => .inl e, fun _ _ => rfl, fun _ _ _ _ e => e, fun _ h h' => absurd h' (Nat.not_lt.mpr h), Nat.le_refl _, Nat.le_refl _⟩ : ExtB B _ V' s' _ V' s') hB S hA
  exact codeAny_compStart_list lp (wpAny_mono (I.self hA lp) (fun _ _ h => h) fun _ _ e => e.elim)

theorem EvX.lcG {elt target iter : Expr} {ifs : List Expr} {rest : List Comprehension} {scope : Scope} {pos : Pos} {us : List T} {dep : List MO → Prop} {n nc : Nat} {ls : List Str} {tab : List (Str × Slot)} {emit : Cx → Addr → Sem Unit} {ip : Pos} {ts : List T}
    (he : ∀ (c' : Cx) (a : Addr) (it : Value), compTurn (.ListComp elt (⟨target, iter, ifs, 0⟩ :: rest) scope pos) 0 it (.ref a) c'.env = turnT target ifs ip it c'.env (emit c' a) (.compLoop (.ListComp elt (⟨target, iter, ifs, 0⟩ :: rest) scope pos) 0 it (.ref a) c'.env))
    (hsrc : Src c d target iter σ us dep σ₁) (hn : σ₁.length = n) (hok : compOk scope.names n ls nc d.tab tab = true)
    (J : Nat → List MO → Prop) (h0 : J 0 (σ₁ ++ .list [] :: compFr ls nc)) (hd : ∀ i σ', J i σ' → dep σ')
    (turn : ∀ (c' : Cx) (d' : Sd) (a : Addr), CFr c c' tab n d' a → ∀ i t σ', us[i]? = some t → J i σ' → CTurn c' d' target ifs (emit c' a) (σ₁ ++ .list [] :: compFr ls nc).length (J (i + 1)) σ' t)
    (hend : ∀ σ', J us.length σ' → ∃ m fr, σ' = σ₂ ++ .list ts :: .ns m :: fr) (h2 : σ₂.length = n) (hf : (∀ mo ∈ σ₁, mo.fits n) → ∀ mo ∈ σ₂, mo.fits n)
    (hkind : scope.kind = .function := by rfl) (hs : ∀ x, foldedSetIterable iter c.env x = pure x := by intro _; rfl) : Ev c d (.ListComp elt (⟨target, iter, ifs, 0⟩ :: rest) scope pos) σ (.list ts) σ₂ := fun V s S F => by
  rw [eval_ListComp]
  refine comp_core (us := us) (dep := dep) (n := n) (nc := nc) (ls := ls) (tab := tab) (J := J us.length) (o0 := { cls := .type "list", data := .seq #[] }) (mo0 := .list []) S F rfl hs hsrc hn hok hkind
    (fun s Q h => wpAny_newObj_type h) rfl (fun V h a e _ => ⟨#[], 0, e, rfl⟩) trivial (list_run he J h0 hd turn (by rw [List.length_append, hn]; omega)) fun σ' V' s' a C E hle hfit S' hJ hl ha hC => ?_
  obtain ⟨m, fr, rfl⟩ := hend σ' hJ
  exact comp_value E S' rfl h2 hle (hf hfit) ha hC
theorem Ex1.lcG {elt target iter : Expr} {ifs : List Expr} {rest : List Comprehension} {scope : Scope} {pos spos : Pos} {us : List T} {dep : List MO → Prop} {n nc : Nat} {ls : List Str} {tab : List (Str × Slot)} {emit : Cx → Addr → Sem Unit} {ip : Pos} {ts : List T} {y : Str} {py : Pos} {mm mm' : List (Str × X)} {Q : Out → Prop}
    (he : ∀ (c' : Cx) (a : Addr) (it : Value), compTurn (.ListComp elt (⟨target, iter, ifs, 0⟩ :: rest) scope pos) 0 it (.ref a) c'.env = turnT target ifs ip it c'.env (emit c' a) (.compLoop (.ListComp elt (⟨target, iter, ifs, 0⟩ :: rest) scope pos) 0 it (.ref a) c'.env))
    (hsrc : Src c d target iter σ us dep σ₁) (hn : σ₁.length = n) (hok : compOk scope.names n ls nc d.tab tab = true)
    (J : Nat → List MO → Prop) (h0 : J 0 (σ₁ ++ .list [] :: compFr ls nc)) (hd : ∀ i σ', J i σ' → dep σ')
    (turn : ∀ (c' : Cx) (d' : Sd) (a : Addr), CFr c c' tab n d' a → ∀ i t σ', us[i]? = some t → J i σ' → CTurn c' d' target ifs (emit c' a) (σ₁ ++ .list [] :: compFr ls nc).length (J (i + 1)) σ' t)
    (hend : ∀ σ', J us.length σ' → ∃ m fr, σ' = σ₂ ++ .list ts :: .ns m :: fr) (h2 : σ₂.length = n) (hf : (∀ mo ∈ σ₁, mo.fits n) → ∀ mo ∈ σ₃, mo.fits n)
    (hy : (y, Slot.loc) ∈ d.tab) (hl : PutL σ₂ d.cur (.ns mm) (.ns mm') σ₃) (hm : PutN mm y (.tr (.list ts)) mm') (hq : Q (.nxt σ₃))
    (hsw : (py.line == pos.line && !(scope.names.any fun (n, k) => n == y && (k == .local || k == .cell))) = true := by decide +kernel)
    (hkind : scope.kind = .function := by rfl) (hs : ∀ x, foldedSetIterable iter c.env x = pure x := by intro _; rfl) : Ex1 c d (.Assign [.Name y py] (.ListComp elt (⟨target, iter, ifs, 0⟩ :: rest) scope pos) spos) σ Q := fun V s S F => by
  have hsw' : swapsWith (.ListComp elt (⟨target, iter, ifs, 0⟩ :: rest) scope pos) (some (.Name y py)) spos.line c.env = pure true := by
    show (pure (c.env.blockKind == .function && c.env.kindOf y == some .local && py.line == pos.line && !(scope.names.any fun (n, k) => n == y && (k == .local || k == .cell))) : Sem Bool) = pure true
    have h1 : c.env.kindOf y = some .local := F.tab _ hy
    have h3 : (c.env.blockKind == .function) = true := by unfold Env.blockKind; rw [c.hk]; rfl
    rw [h1, h3]
    rw [Bool.and_eq_true] at hsw
    rw [hsw.1, hsw.2]; rfl
  rw [exec_Assign_Name_used _ _ _ _ hsw']
  refine wpAny_bind (wpAny_standAt (wpAny_bind ?_))
  show wpAny _ _ (do let _ ← comprehension (.ListComp elt (⟨target, iter, ifs, 0⟩ :: rest) scope pos) scope c.env _ (newList []) false (eval iter c.env) (some (assign (.Name y py) c.env))) _ _ s
  refine wpAny_bind (wpAny_mono (Q := fun _ s' => PQ c.W σ V s Q .next s') ?_ (fun _ s' hq => wpAny_pure (wpAny_pure hq)) fun _ _ e => e)
  refine comp_core (us := us) (dep := dep) (n := n) (nc := nc) (ls := ls) (tab := tab) (J := J us.length) (o0 := { cls := .type "list", data := .seq #[] }) (mo0 := .list []) S F rfl hs hsrc hn hok hkind
    (fun s Q h => wpAny_newObj_type h) rfl (fun V h a e _ => ⟨#[], 0, e, rfl⟩) trivial (list_run he J h0 hd turn (by rw [List.length_append, hn]; omega)) fun σ' V' s' a C E hle hfit S' hJ hl' ha hC => ?_
  obtain ⟨m, fr, rfl⟩ := hend σ' hJ
  exact comp_used F E S' rfl h2 hle (hf hfit) ha hC hy hl hm hq

theorem PutL.fits {k n : Nat} {b a : MO} {σ σ' : List MO} (h : PutL σ k a b σ') (hb : b.fits n) (hf : ∀ mo ∈ σ, mo.fits n) : ∀ mo ∈ σ', mo.fits n := by
  rw [h.set]; intro mo hm
  rcases List.mem_or_eq_of_mem_set hm with hm | rfl
  · exact hf mo hm
  · exact hb
theorem PutN.fits {m m' : List (Str × X)} {y : Str} {x : X} {n : Nat} (h : PutN m y x m') (hx : x.fits n) (hf : ∀ p ∈ m, p.2.fits n) : ∀ p ∈ m', p.2.fits n := by
  induction h with
  | here =>
    intro p hp
    rcases List.mem_cons.mp hp with rfl | hp
    · exact hx
    · exact hf p (.tail _ hp)
  | there hh ih =>
    intro p hp
    rcases List.mem_cons.mp hp with rfl | hp
    · exact hf _ (.head _)
    · exact ih hx (fun p hp => hf p (.tail _ hp)) p hp
theorem put_at {n : Nat} {a b : MO} {r : List MO} : ∀ {σ : List MO}, σ.length = n → PutL (σ ++ a :: r) n a b (σ ++ b :: r) := by
  intro σ hn
  subst hn
  induction σ with
  | nil => exact .here
  | cons x r ih => exact .there ih
theorem wkl_refl : ∀ {σ : List MO}, WkL σ σ
  | [] => .nil
  | _ :: _ => .cons (.eq rfl) wkl_refl
theorem wkl_app : ∀ {σ r r' : List MO}, WkL r r' → WkL (σ ++ r) (σ ++ r')
  | [], _, _, h => h
  | _ :: _, _, _, h => .cons (.eq rfl) (wkl_app h)

structure PureT (c : Cx) (target : Expr) (ifs : List Expr) (tab : List (Str × Slot)) (n : Nat) (σ₁ : List MO) (ls : List Str) (nc : Nat) (us : List T) (p : T → Bool) (fr' : T → List MO) : Prop where
  asg : ∀ (c' : Cx) (d' : Sd) (a : Addr), CFr c c' tab n d' a → ∀ t ∈ us, ∀ mo, AsV c' d' target (σ₁ ++ mo :: compFr ls nc) (.tr t) (σ₁ ++ mo :: fr' t)
  tst : ∀ (c' : Cx) (d' : Sd) (a : Addr), CFr c c' tab n d' a → ∀ t ∈ us, ∀ mo, Tst c' d' ifs (σ₁ ++ mo :: fr' t) (p t) (σ₁ ++ mo :: fr' t)
  wk : ∀ t ∈ us, WkL (fr' t) (compFr ls nc)
  len : ∀ t ∈ us, (fr' t).length = (compFr ls nc).length
theorem take_succ_fm {α β : Type} (p : α → Bool) (f : α → β) (l : List α) (i : Nat) (v : α) (h : l[i]? = some v) : ((l.take (i + 1)).filter p).map f = ((l.take i).filter p).map f ++ (if p v then [f v] else []) := by
  rw [take_succ_filter p l i v h, List.map_append]
  cases p v <;> rfl
theorem pure_turn {elt target : Expr} {ifs : List Expr} {us : List T} {n nc : Nat} {ls : List Str} {tab : List (Str × Slot)} {p : T → Bool} {f : T → T} {fr' : T → List MO} (P : PureT c target ifs tab n σ₁ ls nc us p fr') (hn : σ₁.length = n)
    (hE : ∀ (c' : Cx) (d' : Sd) (a : Addr), CFr c c' tab n d' a → ∀ t ∈ us, p t = true → ∀ mo, Ev c' d' elt (σ₁ ++ mo :: fr' t) (f t) (σ₁ ++ mo :: fr' t)) (hz : us.length ≤ 1000000)
    (c' : Cx) (d' : Sd) (a : Addr) (hc : CFr c c' tab n d' a) (i : Nat) (t : T) (σ' : List MO) (ht : us[i]? = some t) (hJ : σ' = σ₁ ++ .list (((us.take i).filter p).map f) :: compFr ls nc) :
    CTurn c' d' target ifs (emitL elt (.ref a) c'.env) (σ₁ ++ .list [] :: compFr ls nc).length (fun σ' => σ' = σ₁ ++ .list (((us.take (i + 1)).filter p).map f) :: compFr ls nc) σ' t := by
  subst hJ
  have hm : t ∈ us := List.mem_of_getElem? ht
  refine ⟨_, P.asg c' d' a hc t hm _, p t, _, P.tst c' d' a hc t hm _, fun hp => ?_, fun hp => ?_⟩
  · have hput : PutL (σ₁ ++ .list (((us.take i).filter p).map f) :: fr' t) n (.list (((us.take i).filter p).map f)) (.list (((us.take i).filter p).map f ++ [f t])) (σ₁ ++ .list (((us.take i).filter p).map f ++ [f t]) :: fr' t) := put_at hn
    refine ⟨_, Em.app (hE c' d' a hc t hm hp _) hc.acc hput ?_, _, Lo.wk' (wkl_app (.cons (.eq rfl) (P.wk t hm))) (by simp [P.len t hm]) (by simp), ?_⟩
    · rw [List.length_map]
      exact Nat.le_trans (List.length_filter_le _ _) (Nat.le_trans (by rw [List.length_take]; exact Nat.min_le_right _ _) hz)
    · rw [take_succ_fm p f us i t ht, hp]; rfl
  · refine ⟨_, Lo.wk' (wkl_app (.cons (.eq rfl) (P.wk t hm))) (by simp [P.len t hm]) (by simp), ?_⟩
    rw [take_succ_fm p f us i t ht, hp]; simp
theorem pure_end {us : List T} {nc : Nat} {ls : List Str} {p : T → Bool} {f : T → T} (σ' : List MO) (h : σ' = σ₁ ++ .list (((us.take us.length).filter p).map f) :: compFr ls nc) : ∃ m fr, σ' = σ₁ ++ .list ((us.filter p).map f) :: .ns m :: fr := by
  subst h; rw [List.take_length]; exact ⟨_, _, rfl⟩
theorem EvX.lc {elt target iter : Expr} {ifs : List Expr} {scope : Scope} {pos : Pos} {us : List T} {dep : List MO → Prop} {n nc : Nat} {ls : List Str} {tab : List (Str × Slot)} (p : T → Bool) (f : T → T) (fr' : T → List MO)
    (hsrc : Src c d target iter σ us dep σ₁) (hn : σ₁.length = n) (hok : compOk scope.names n ls nc d.tab tab = true) (hd : ∀ r, dep (σ₁ ++ r)) (hz : us.length ≤ 1000000)
    (P : PureT c target ifs tab n σ₁ ls nc us p fr') (hE : ∀ (c' : Cx) (d' : Sd) (a : Addr), CFr c c' tab n d' a → ∀ t ∈ us, p t = true → ∀ mo, Ev c' d' elt (σ₁ ++ mo :: fr' t) (f t) (σ₁ ++ mo :: fr' t))
    (hkind : scope.kind = .function := by rfl) (hs : ∀ x, foldedSetIterable iter c.env x = pure x := by intro _; rfl) : Ev c d (.ListComp elt [⟨target, iter, ifs, 0⟩] scope pos) σ (.list ((us.filter p).map f)) σ₁ :=
  EvX.lcG (emit := fun c' a => emitL elt (.ref a) c'.env) (ip := iter.pos) (fun _ _ _ => rfl) hsrc hn hok (fun i σ' => σ' = σ₁ ++ .list (((us.take i).filter p).map f) :: compFr ls nc) rfl (fun i σ' e => e ▸ hd _) (pure_turn P hn hE hz) pure_end hn (fun h => h) hkind hs
theorem Ex1.lc {elt target iter : Expr} {ifs : List Expr} {scope : Scope} {pos spos : Pos} {us : List T} {dep : List MO → Prop} {n nc : Nat} {ls : List Str} {tab : List (Str × Slot)} {y : Str} {py : Pos} {mm mm' : List (Str × X)} {Q : Out → Prop} (p : T → Bool) (f : T → T) (fr' : T → List MO)
    (hsrc : Src c d target iter σ us dep σ₁) (hn : σ₁.length = n) (hok : compOk scope.names n ls nc d.tab tab = true) (hd : ∀ r, dep (σ₁ ++ r)) (hz : us.length ≤ 1000000)
    (P : PureT c target ifs tab n σ₁ ls nc us p fr') (hE : ∀ (c' : Cx) (d' : Sd) (a : Addr), CFr c c' tab n d' a → ∀ t ∈ us, p t = true → ∀ mo, Ev c' d' elt (σ₁ ++ mo :: fr' t) (f t) (σ₁ ++ mo :: fr' t))
    (hy : (y, Slot.loc) ∈ d.tab) (hl : PutL σ₁ d.cur (.ns mm) (.ns mm') σ₃) (hm : PutN mm y (.tr (.list ((us.filter p).map f))) mm') (hq : Q (.nxt σ₃))
    (hsw : (py.line == pos.line && !(scope.names.any fun (n, k) => n == y && (k == .local || k == .cell))) = true := by decide +kernel)
    (hkind : scope.kind = .function := by rfl) (hs : ∀ x, foldedSetIterable iter c.env x = pure x := by intro _; rfl) : Ex1 c d (.Assign [.Name y py] (.ListComp elt [⟨target, iter, ifs, 0⟩] scope pos) spos) σ Q :=
  Ex1.lcG (emit := fun c' a => emitL elt (.ref a) c'.env) (ip := iter.pos) (fun _ _ _ => rfl) hsrc hn hok (fun i σ' => σ' = σ₁ ++ .list (((us.take i).filter p).map f) :: compFr ls nc) rfl (fun i σ' e => e ▸ hd _) (pure_turn P hn hE hz) pure_end hn
    (fun h => hl.fits (hm.fits trivial (fun q hq => by
      have := h _ (List.mem_of_getElem? hl.get)
      exact this q hq)) h) hy hl hm hq hsw hkind hs
end
end Mine
-- B17
namespace Mine
noncomputable def setKv (kvs : List (Str × T)) (k : Str) (t : T) : List (Str × T) :=
  if kvs.any (fun kv => decide (kv.1 = k)) then kvs.map (fun kv => if kv.1 = k then (kv.1, t) else kv) else kvs ++ [(k, t)]
theorem RpKv.append {W : Wd} {F : Fz} {k : Str} {t : T} {v : Value} (r : Rp W F t v) : ∀ {kvs : List (Str × T)} {vs : List (Str × Value)}, RpKv W F kvs vs → RpKv W F (kvs ++ [(k, t)]) (vs ++ [(k, v)])
  | [], _, e => by rw [show _ = [] from e]; exact ⟨v, [], rfl, r, rfl⟩
  | _ :: _, _, ⟨u, ws, e, h1, h2⟩ => by rw [e]; exact ⟨u, _, rfl, h1, RpKv.append r h2⟩
theorem RpKv.over {W : Wd} {F : Fz} {k : Str} {t : T} {v : Value} (r : Rp W F t v) : ∀ {kvs : List (Str × T)} {vs : List (Str × Value)}, RpKv W F kvs vs → RpKv W F (kvs.map fun kv => if kv.1 = k then (kv.1, t) else kv) (vs.map fun kv => if kv.1 = k then (kv.1, v) else kv)
  | [], _, e => by rw [show _ = [] from e]; rfl
  | p :: _, _, ⟨u, ws, e, h1, h2⟩ => by
    rw [e]
    have ih := RpKv.over (k := k) r h2
    by_cases h : p.1 = k
    · have e1 : (fun kv : Str × T => if kv.1 = k then (kv.1, t) else kv) p = (p.1, t) := if_pos h
      refine ⟨v, _, ?_, by rw [e1]; exact r, ih⟩
      rw [e1]
      show (if p.1 = k then (p.1, v) else (p.1, u)) :: _ = _
      rw [if_pos h]
    · have e1 : (fun kv : Str × T => if kv.1 = k then (kv.1, t) else kv) p = p := if_neg h
      refine ⟨u, _, ?_, by rw [e1]; exact h1, ih⟩
      rw [e1]
      show (if p.1 = k then (p.1, v) else (p.1, u)) :: _ = _
      rw [if_neg h]
theorem RpKv.any {W : Wd} {F : Fz} {k : Str} : ∀ {kvs : List (Str × T)} {vs : List (Str × Value)}, RpKv W F kvs vs → vs.any (fun kv => decide (kv.1 = k)) = kvs.any (fun kv => decide (kv.1 = k))
  | [], _, e => by rw [show _ = [] from e]; rfl
  | _ :: _, _, ⟨u, ws, e, h1, h2⟩ => by rw [e, List.any_cons, List.any_cons, RpKv.any h2]
theorem RpKv.stored {W : Wd} {F : Fz} {k : Str} {t : T} {v : Value} {kvs : List (Str × T)} {vs : List (Str × Value)} (q : RpKv W F kvs vs) (r : Rp W F t v) : RpKv W F (setKv kvs k t) (PySem.stored vs k v) := by
  unfold setKv PySem.stored
  rw [RpKv.any q]
  split
  · exact RpKv.over r q
  · exact RpKv.append r q
theorem setKv_length (kvs : List (Str × T)) (k : Str) (t : T) : (setKv kvs k t).length ≤ kvs.length + 1 := by
  unfold setKv; split <;> simp

section
variable {c : Cx} {d : Sd} {σ σ₁ σ₂ σ₃ : List MO}

theorem DictO_of {W : Wd} {h : Heap} {a : Addr} {vs : List (Str × Value)} (x : h.DictOf W.knd a vs) : ∃ o ep, h.get? a = some o ∧ DictO W.knd o vs ep :=
  let ⟨o, es, ep, e, r1, r2, r3, r4, r5⟩ := x; ⟨o, ep, e, es, r1, r2, r3, r4, r5⟩
theorem dictOf_of {W : Wd} {V : Vw} {s : Shared} {k : Nat} {kvs : List (Str × T)} (S : St0 W V σ s) (hk : σ[k]? = some (.dict kvs)) :
    ∃ vs, s.heap.DictOf W.knd (V.ad k) vs ∧ RpKv W V.F kvs vs ∧ (V.ad k == sysModules) = false := by
  obtain ⟨o, vs, ep, e, ⟨es, x1, x2, x3, x4, x5⟩, hs, q⟩ := S.led k _ hk
  exact ⟨vs, ⟨o, es, ep, e, x1, x2, x3, x4, x5⟩, q, hs⟩
theorem St0.putKv {W : Wd} {V : Vw} {s : Shared} {k : Nat} {kvs : List (Str × T)} {key : Str} {t : T} {v : Value} {vs : List (Str × Value)} {h' : Heap} {tk : Nat} (S : St0 W V σ s) (hk : PutL σ k (.dict kvs) (.dict (setKv kvs key t)) σ₁) (q : RpKv W V.F kvs vs) (r : Rp W V.F t v) (hs0 : (V.ad k == sysModules) = false)
    (hd : h'.DictOf W.knd (V.ad k) (PySem.stored vs key v)) (hs : Heap.SameBut (V.ad k) s.heap h') : St0 W V σ₁ { s with heap := h', toks := tk } ∧ Ext σ V s σ₁ V { s with heap := h', toks := tk } := by
  obtain ⟨o, ep, e, hO⟩ := DictO_of hd
  have z := S.upd (mo' := .dict (setKv kvs key t)) (s' := { s with heap := h', toks := tk }) hk.get rfl (fun a o ha e => hs.extBut a o ha e) (Nat.le_of_eq hs.1.symm) ⟨o, _, ep, e, hO, hs0, q.stored r⟩ trivial rfl rfl
  rw [hk.set]; exact z

noncomputable def emitD (kx vx : Expr) (acc : Value) (env : Env) : Sem Unit := do
  let kv ← eval kx env
  let vv ← holding [kv] (eval vx env)
  match acc with
  | .ref d => do
    standAt { kx.pos with endLine := vx.pos.endLine, endCol := vx.pos.endCol }
    holding [kv, vv] (dictSet d kv vv)
  | _ => unsupported "internal:dictcomp"
theorem Em.put {kx vx : Expr} {n : Nat} {a : Addr} {kvs : List (Str × T)} {k : Str} {y : T} (h1 : Ev c d kx σ (.str k) σ₁) (h2 : Ev c d vx σ₁ y σ₂) (ha : (n, a) ∈ d.acc) (hk : PutL σ₂ n (.dict kvs) (.dict (setKv kvs k y)) σ₃) (hz : kvs.length ≤ 1000000) : Em c d (emitD kx vx (.ref a) c.env) σ σ₃ := fun V s S F => by
  refine wpAny_bind (seq (h1 V s S F) fun V₁ s₁ kv E₁ S₁ q₁ => ?_)
  obtain ⟨⟨tk, rfl⟩, _⟩ := q₁
  refine wpAny_bind (wpAny_holding (seq (h2 V₁ s₁ S₁ (F.ext E₁)) fun V₂ s₂ vv E₂ S₂ q₂ => ?_))
  have E12 := E₁.trans E₂
  obtain ⟨vs, hd, q, hs0⟩ := dictOf_of S₂ hk.get
  have had : V₂.ad n = a := ((F.ext E12).acc _ ha).1
  refine wpAny_bind (wpAny_standAt (wpAny_holding ?_))
  rw [← had]
  refine wpAny_dictSet_pairs (c.W.is_str k tk) hd (fun h' hd' hs' => ?_) (by rw [q.length, sizeLine_eq]; omega)
  have z := S₂.putKv (tk := s₂.toks + 1) hk q q₂.1 hs0 hd' hs'
  exact ⟨V₂, E12.trans z.2, z.1, trivial⟩

theorem dict_run {kx vx target iter : Expr} {ifs : List Expr} {rest : List Comprehension} {scope : Scope} {pos : Pos} {us : List T} {dep : List MO → Prop} {n nc : Nat} {ls : List Str} {tab : List (Str × Slot)} {emit : Cx → Addr → Sem Unit} {ip : Pos}
    (he : ∀ (c' : Cx) (a : Addr) (it : Value), compTurn (.DictComp kx vx (⟨target, iter, ifs, 0⟩ :: rest) scope pos) 0 it (.ref a) c'.env = turnT target ifs ip it c'.env (emit c' a) (.compLoop (.DictComp kx vx (⟨target, iter, ifs, 0⟩ :: rest) scope pos) 0 it (.ref a) c'.env))
    (J : Nat → List MO → Prop) (h0 : J 0 (σ₁ ++ .dict [] :: compFr ls nc)) (hd : ∀ i σ', J i σ' → dep σ')
    (turn : ∀ (c' : Cx) (d' : Sd) (a : Addr), CFr c c' tab n d' a → ∀ i t σ', us[i]? = some t → J i σ' → CTurn c' d' target ifs (emit c' a) (σ₁ ++ .dict [] :: compFr ls nc).length (J (i + 1)) σ' t)
    (hle : n ≤ (σ₁ ++ .dict [] :: compFr ls nc).length)
    (c' : Cx) (d' : Sd) (a : Addr) (it : Value) (I : Itr c.W c.A target it us dep) (V' : Vw) (s' : Shared) (hc : CFr c c' tab n d' a) (hb : I.base ≤ n) (S : St0 c.W V' (σ₁ ++ .dict [] :: compFr ls nc) s') (F : Fo c' d' V' (σ₁ ++ .dict [] :: compFr ls nc).length) (hA : I.At 0 V' (σ₁ ++ .dict [] :: compFr ls nc).length s')
    (B : Nat) (hlo : B ≤ I.lo) (hB : B ≤ s'.heap.objs.size) :
    codeAny c.W.M c.A (.compStart (.DictComp kx vx (⟨target, iter, ifs, 0⟩ :: rest) scope pos) 0 it (.ref a) c'.env) (fun r s'' => r = .ok .next ∧ ∃ σ' V'', ExtB B (σ₁ ++ .dict [] :: compFr ls nc) V' s' σ' V'' s'' ∧ St0 c.W V'' σ' s'' ∧ J us.length σ') s' := by
  obtain ⟨W', A', env', n', k1, k2, k3, k4⟩ := c'
  obtain ⟨hW, hA', hn, x1, x2, x3⟩ := hc
  have hW' : W' = c.W := hW
  have hA'' : A' = c.A := hA'
  subst hW'; subst hA''
  have lp := dict_loop (c := ⟨c.W, c.A, env', n', k1, k2, k3, k4⟩) (d := d') (n := (σ₁ ++ .dict [] :: compFr ls nc).length) I (Nat.le_trans hb hle) (he ⟨c.W, c.A, env', n', k1, k2, k3, k4⟩ a it) J hd (turn _ _ a ⟨rfl, rfl, hn, x1, x2, x3⟩) F hlo (Nat.le_refl _) h0
    (⟨fun _ _ e => e, fun _ _ e => .inl e, fun _ _ => rfl, fun _ _ _ _ e => e, fun _ h h' => absurd h' (Nat.not_lt.mpr h), Nat.le_refl _, Nat.le_refl _⟩ : ExtB B _ V' s' _ V' s') hB S hA
  exact codeAny_compStart_dict lp (wpAny_mono (I.self hA lp) (fun _ _ h => h) fun _ _ e => e.elim)
noncomputable def emptyObj : Obj := { cls := .type "dict", data := .dict #[] }
theorem emptyD {W : Wd} {h : Heap} {a : Addr} (e : h.get? a = some emptyObj) : ∃ o vs ep, h.get? a = some o ∧ DictO W.knd o vs ep ∧ vs = [] :=
  ⟨_, [], _, e, ⟨#[], ⟨rfl, rfl, rfl⟩, rfl, fun e h => by simp at h, .nil, List.nodup_nil⟩, rfl⟩
theorem EvX.dcG {kx vx target iter : Expr} {ifs : List Expr} {rest : List Comprehension} {scope : Scope} {pos : Pos} {us : List T} {dep : List MO → Prop} {n nc : Nat} {ls : List Str} {tab : List (Str × Slot)} {emit : Cx → Addr → Sem Unit} {ip : Pos} {kvs : List (Str × T)}
    (he : ∀ (c' : Cx) (a : Addr) (it : Value), compTurn (.DictComp kx vx (⟨target, iter, ifs, 0⟩ :: rest) scope pos) 0 it (.ref a) c'.env = turnT target ifs ip it c'.env (emit c' a) (.compLoop (.DictComp kx vx (⟨target, iter, ifs, 0⟩ :: rest) scope pos) 0 it (.ref a) c'.env))
    (hsrc : Src c d target iter σ us dep σ₁) (hn : σ₁.length = n) (hok : compOk scope.names n ls nc d.tab tab = true)
    (J : Nat → List MO → Prop) (h0 : J 0 (σ₁ ++ .dict [] :: compFr ls nc)) (hd : ∀ i σ', J i σ' → dep σ')
    (turn : ∀ (c' : Cx) (d' : Sd) (a : Addr), CFr c c' tab n d' a → ∀ i t σ', us[i]? = some t → J i σ' → CTurn c' d' target ifs (emit c' a) (σ₁ ++ .dict [] :: compFr ls nc).length (J (i + 1)) σ' t)
    (hend : ∀ σ', J us.length σ' → ∃ m fr, σ' = σ₂ ++ .dict kvs :: .ns m :: fr) (h2 : σ₂.length = n) (hf : (∀ mo ∈ σ₁, mo.fits n) → ∀ mo ∈ σ₂, mo.fits n)
    (hkind : scope.kind = .function := by rfl) (hs : ∀ x, foldedSetIterable iter c.env x = pure x := by intro _; rfl) : Ev c d (.DictComp kx vx (⟨target, iter, ifs, 0⟩ :: rest) scope pos) σ (.dict kvs) σ₂ := fun V s S F => by
  rw [arm_eval_DictComp]
  refine comp_core (us := us) (dep := dep) (n := n) (nc := nc) (ls := ls) (tab := tab) (J := J us.length) (o0 := emptyObj) (mo0 := .dict []) S F rfl hs hsrc hn hok hkind
    (fun s Q h => wpAny_newObj_type h) rfl (fun V h a e hs0 => by obtain ⟨o, vs, ep, e1, e2, e3⟩ := emptyD (W := c.W) e; subst e3; exact ⟨o, [], ep, e1, e2, hs0, rfl⟩) trivial (dict_run he J h0 hd turn (by rw [List.length_append, hn]; omega)) fun σ' V' s' a C E hle hfit S' hJ hl ha hC => ?_
  obtain ⟨m, fr, rfl⟩ := hend σ' hJ
  exact comp_value E S' rfl h2 hle (hf hfit) ha hC
noncomputable def foldKv (g : T → Str) (f : T → T) (l : List T) : List (Str × T) := l.foldl (fun acc t => setKv acc (g t) (f t)) []
theorem foldKv_length (g : T → Str) (f : T → T) (l : List T) : (foldKv g f l).length ≤ l.length := by
  unfold foldKv
  have : ∀ (l : List T) (acc : List (Str × T)), (l.foldl (fun acc t => setKv acc (g t) (f t)) acc).length ≤ acc.length + l.length := by
    intro l
    induction l with
    | nil => intro acc; simp
    | cons t r ih => intro acc; have := ih (setKv acc (g t) (f t)); have := setKv_length acc (g t) (f t); simp only [List.foldl_cons, List.length_cons]; omega
  simpa using this l []
theorem foldKv_step (p : T → Bool) (g : T → Str) (f : T → T) (l : List T) (i : Nat) (v : T) (h : l[i]? = some v) : foldKv g f ((l.take (i + 1)).filter p) = if p v then setKv (foldKv g f ((l.take i).filter p)) (g v) (f v) else foldKv g f ((l.take i).filter p) := by
  unfold foldKv
  rw [take_succ_filter p l i v h, List.foldl_append]
  cases p v <;> rfl
theorem pure_turnD {kx vx target : Expr} {ifs : List Expr} {us : List T} {n nc : Nat} {ls : List Str} {tab : List (Str × Slot)} {p : T → Bool} {g : T → Str} {f : T → T} {fr' : T → List MO} (P : PureT c target ifs tab n σ₁ ls nc us p fr') (hn : σ₁.length = n)
    (hK : ∀ (c' : Cx) (d' : Sd) (a : Addr), CFr c c' tab n d' a → ∀ t ∈ us, p t = true → ∀ mo, Ev c' d' kx (σ₁ ++ mo :: fr' t) (.str (g t)) (σ₁ ++ mo :: fr' t))
    (hE : ∀ (c' : Cx) (d' : Sd) (a : Addr), CFr c c' tab n d' a → ∀ t ∈ us, p t = true → ∀ mo, Ev c' d' vx (σ₁ ++ mo :: fr' t) (f t) (σ₁ ++ mo :: fr' t)) (hz : us.length ≤ 1000000)
    (c' : Cx) (d' : Sd) (a : Addr) (hc : CFr c c' tab n d' a) (i : Nat) (t : T) (σ' : List MO) (ht : us[i]? = some t) (hJ : σ' = σ₁ ++ .dict (foldKv g f ((us.take i).filter p)) :: compFr ls nc) :
    CTurn c' d' target ifs (emitD kx vx (.ref a) c'.env) (σ₁ ++ .dict [] :: compFr ls nc).length (fun σ' => σ' = σ₁ ++ .dict (foldKv g f ((us.take (i + 1)).filter p)) :: compFr ls nc) σ' t := by
  subst hJ
  have hm : t ∈ us := List.mem_of_getElem? ht
  refine ⟨_, P.asg c' d' a hc t hm _, p t, _, P.tst c' d' a hc t hm _, fun hp => ?_, fun hp => ?_⟩
  · refine ⟨_, Em.put (hK c' d' a hc t hm hp _) (hE c' d' a hc t hm hp _) hc.acc (put_at hn) ?_, _, Lo.wk' (wkl_app (.cons (.eq rfl) (P.wk t hm))) (by simp [P.len t hm]) (by simp), ?_⟩
    · exact Nat.le_trans (foldKv_length _ _ _) (Nat.le_trans (List.length_filter_le _ _) (Nat.le_trans (by rw [List.length_take]; exact Nat.min_le_right _ _) hz))
    · rw [foldKv_step p g f us i t ht, hp]; rfl
  · refine ⟨_, Lo.wk' (wkl_app (.cons (.eq rfl) (P.wk t hm))) (by simp [P.len t hm]) (by simp), ?_⟩
    rw [foldKv_step p g f us i t ht, hp]; simp
theorem pure_endD {us : List T} {nc : Nat} {ls : List Str} {p : T → Bool} {g : T → Str} {f : T → T} (σ' : List MO) (h : σ' = σ₁ ++ .dict (foldKv g f ((us.take us.length).filter p)) :: compFr ls nc) : ∃ m fr, σ' = σ₁ ++ .dict (foldKv g f (us.filter p)) :: .ns m :: fr := by
  subst h; rw [List.take_length]; exact ⟨_, _, rfl⟩
theorem EvX.dc {kx vx target iter : Expr} {ifs : List Expr} {scope : Scope} {pos : Pos} {us : List T} {dep : List MO → Prop} {n nc : Nat} {ls : List Str} {tab : List (Str × Slot)} (p : T → Bool) (g : T → Str) (f : T → T) (fr' : T → List MO)
    (hsrc : Src c d target iter σ us dep σ₁) (hn : σ₁.length = n) (hok : compOk scope.names n ls nc d.tab tab = true) (hd : ∀ r, dep (σ₁ ++ r)) (hz : us.length ≤ 1000000)
    (P : PureT c target ifs tab n σ₁ ls nc us p fr') (hK : ∀ (c' : Cx) (d' : Sd) (a : Addr), CFr c c' tab n d' a → ∀ t ∈ us, p t = true → ∀ mo, Ev c' d' kx (σ₁ ++ mo :: fr' t) (.str (g t)) (σ₁ ++ mo :: fr' t))
    (hE : ∀ (c' : Cx) (d' : Sd) (a : Addr), CFr c c' tab n d' a → ∀ t ∈ us, p t = true → ∀ mo, Ev c' d' vx (σ₁ ++ mo :: fr' t) (f t) (σ₁ ++ mo :: fr' t))
    (hkind : scope.kind = .function := by rfl) (hs : ∀ x, foldedSetIterable iter c.env x = pure x := by intro _; rfl) : Ev c d (.DictComp kx vx [⟨target, iter, ifs, 0⟩] scope pos) σ (.dict (foldKv g f (us.filter p))) σ₁ :=
  EvX.dcG (emit := fun c' a => emitD kx vx (.ref a) c'.env) (ip := iter.pos) (fun _ _ _ => rfl) hsrc hn hok (fun i σ' => σ' = σ₁ ++ .dict (foldKv g f ((us.take i).filter p)) :: compFr ls nc) rfl (fun i σ' e => e ▸ hd _) (pure_turnD P hn hK hE hz) pure_endD hn (fun h => h) hkind hs
end
end Mine
-- B18
namespace Mine
section
variable {c : Cx} {d : Sd} {σ σ₁ σ₂ σ₃ σ₄ : List MO} {Q : Out → Prop}

theorem short_ok {n : Nat} (h : n ≤ 1000000) : Builtin.Str.tooLong n = false := by
  unfold Builtin.Str.tooLong
  rw [sizeLine_eq]
  exact decide_eq_false (by omega)
theorem Ev.neg {e : Expr} {pos : Pos} {i : Int} (h : Ev c d e σ (.int i) σ₁) : Ev c d (.UnaryOp .USub e pos) σ (.int (-i)) σ₁ := fun V s S F =>
  PyProof.Rows.UnaryOp_ (seq (h V s S F) fun V₁ s₁ v E₁ S₁ q₁ => by
    obtain ⟨⟨t, rfl⟩, _⟩ := q₁
    exact P.neg_int (Pt.up E₁ (Pt.tok S₁ _ ⟨⟨_, rfl⟩, trivial⟩)))
theorem EvX.append {o e : Expr} {apos pos : Pos} {k : Nat} {ts : List T} {t : T} (h1 : EvX c d o σ (.mt k) σ₁) (h1k : ∃ us, σ₁[k]? = some (.list us)) (h2 : Ev c d e σ₁ t σ₂) (hk : PutL σ₂ k (.list ts) (.list (ts ++ [t])) σ₃) (hz : ts.length ≤ 1000000)
    (hbase : attributeBase o (Str.ofString "append") c.env (eval o c.env) = eval o c.env := by rfl) (hs : starEach [e] c.env = [(false, eval e c.env)] := by rfl) (hline : (apos.endLine == pos.line) = true := by rfl) :
    Ev c d (.Call (.Attribute o (Str.ofString "append") apos) [e] [] pos) σ .none σ₃ := fun V s S F => by
  refine Call_method1 hbase hs hline (seq (h1 V s S F) fun V₁ s₁ ov E₁ S₁ q₁ => ?_)
  obtain ⟨us, hu⟩ := h1k
  have e1 : ov = .ref (V₁.ad k) := q₁.1
  subst e1
  obtain ⟨ws, m, ho, _⟩ := S₁.led _ _ hu
  refine ⟨"list", _, PySem.F.plainAttrs_list, PySem.F.slot_list_append, PySem.F.type_list_append, ⟨_, ho, rfl⟩, fun a e => by cases e; exact ⟨_, ho, rfl⟩, ?_⟩
  refine wpAny_size (P.append_list (seq (h2 V₁ s₁ S₁ (F.ext E₁)) fun V₂ s₂ v E₂ S₂ q₂ => ?_))
  obtain ⟨vs, m', ho', q⟩ := S₂.led _ _ hk.get
  have hlen : vs.size = ts.length := by simpa using q.length
  have had : V₂.ad k = V₁.ad k := E₂.ad k (List.getElem?_eq_some_iff.mp hu).1
  rw [had] at ho'
  refine ⟨vs, m', by rw [hlen, sizeLine_eq]; omega, ho', fun hz' => ?_⟩
  have z := S₂.upd (mo' := .list (ts ++ [t])) (s' := { s₂ with heap := s₂.heap.update (V₁.ad k) (Obj.mapSeq fun x_1 => x_1.push v) }) hk.get rfl (fun a o ha e => (Heap.SameBut.update ..).extBut a o (by rw [← had]; exact ha) e) (by show _ ≤ (Heap.update _ _ _).objs.size; rw [size_upd]; exact Nat.le_refl _) ⟨_, _, (by rw [had]; exact IsL.update ho' (fun x_1 => x_1.push v)), by rw [Array.toList_push]; exact Rps.append q ⟨v, [], rfl, q₂.1, rfl⟩⟩ trivial rfl rfl
  rw [hk.set]
  exact ⟨V₂, (E₁.trans E₂).trans z.2, z.1, rfl, trivial⟩
theorem EvX.extend {o e : Expr} {apos pos : Pos} {k : Nat} {ts us : List T} (h1 : EvX c d o σ (.mt k) σ₁) (h1k : ∃ us, σ₁[k]? = some (.list us)) (h2 : Ev c d e σ₁ (.list us) σ₂) (hk : PutL σ₂ k (.list ts) (.list (ts ++ us)) σ₃) (hz : ts.length + us.length ≤ 1000000)
    (hbase : attributeBase o (Str.ofString "extend") c.env (eval o c.env) = eval o c.env := by rfl) (hs : starEach [e] c.env = [(false, eval e c.env)] := by rfl) (hline : (apos.endLine == pos.line) = true := by rfl) :
    Ev c d (.Call (.Attribute o (Str.ofString "extend") apos) [e] [] pos) σ .none σ₃ := fun V s S F => by
  refine Call_method1 hbase hs hline (seq (h1 V s S F) fun V₁ s₁ ov E₁ S₁ q₁ => ?_)
  obtain ⟨us', hu⟩ := h1k
  have e1 : ov = .ref (V₁.ad k) := q₁.1
  subst e1
  obtain ⟨ws, m, ho, _⟩ := S₁.led _ _ hu
  refine ⟨"list", _, PySem.F.plainAttrs_list, PySem.F.slot_list_extend, PySem.F.type_list_extend, ⟨_, ho, rfl⟩, fun a e => by cases e; exact ⟨_, ho, rfl⟩, ?_⟩
  refine wpAny_size (P.extend_list (seq (h2 V₁ s₁ S₁ (F.ext E₁)) fun V₂ s₂ v E₂ S₂ q₂ => ?_))
  obtain ⟨vs, m', ho', q⟩ := S₂.led _ _ hk.get
  obtain ⟨l, ys, n, rfl, hl, qy⟩ := Rp.isL S₂ q₂.1
  have hlen : vs.size = ts.length := by simpa using q.length
  have hlen2 : ys.size = us.length := by simpa using qy.length
  have had : V₂.ad k = V₁.ad k := E₂.ad k (List.getElem?_eq_some_iff.mp hu).1
  rw [had] at ho'
  have hz1 : vs.size + ys.size ≤ sizeLine := by rw [sizeLine_eq]; omega
  refine ⟨l, vs, ys, m', n, Nat.le_trans (Nat.le_add_right _ _) hz1, Nat.le_succ_of_le hz1, extend_door hz1, rfl, ho', hl, fun hz' => ?_⟩
  have z := S₂.upd (mo' := .list (ts ++ us)) (s' := { s₂ with heap := s₂.heap.update (V₁.ad k) (Obj.mapSeq fun xs => xs ++ ys) }) hk.get rfl (fun a o ha e => (Heap.SameBut.update ..).extBut a o (by rw [← had]; exact ha) e) (by show _ ≤ (Heap.update _ _ _).objs.size; rw [size_upd]; exact Nat.le_refl _) ⟨_, _, (by rw [had]; exact IsL.update ho' (fun xs => xs ++ ys)), by rw [Array.toList_append]; exact Rps.append q qy⟩ trivial rfl rfl
  rw [hk.set]
  exact ⟨V₂, (E₁.trans E₂).trans z.2, z.1, rfl, trivial⟩
theorem EvX.lower {o : Expr} {apos pos : Pos} {x : Str} (h : Ev c d o σ (.str x) σ₁) (hz : (Txt.lower x).length ≤ 1000000)
    (hbase : attributeBase o (Str.ofString "lower") c.env (eval o c.env) = eval o c.env := by rfl) (hline : (apos.endLine == pos.line) = true := by rfl) :
    Ev c d (.Call (.Attribute o (Str.ofString "lower") apos) [] [] pos) σ (.str (Txt.lower x)) σ₁ := fun V s S F => by
  refine Call_method0 hbase hline (seq (h V s S F) fun V₁ s₁ ov E₁ S₁ q₁ => ?_)
  obtain ⟨⟨t, rfl⟩, _⟩ := q₁
  refine SB.lower ?_ (Pt.up E₁ (Pt.tok S₁ _ ⟨⟨_, rfl⟩, trivial⟩))
  exact short_ok hz

theorem strs_rps {W : Wd} {F : Fz} : ∀ {xs : List Str} {l : List (Str × Tok)}, l.map (·.1) = xs → Rps W F (xs.map T.str) (strValues l)
  | [], [], _ => rfl
  | [], _ :: _, h => by simp at h
  | _ :: _, [], h => by simp at h
  | x :: xs, p :: l, h => by
    rw [List.map_cons] at h
    injection h with h1 h2
    exact ⟨_, _, rfl, ⟨p.2, by rw [← h1]⟩, strs_rps h2⟩
theorem rps_strs {W : Wd} {F : Fz} : ∀ {xs : List Str} {vs : List Value}, Rps W F (xs.map T.str) vs → ∃ l : List (Str × Tok), vs = strValues l ∧ l.map (·.1) = xs
  | [], _, e => ⟨[], e, rfl⟩
  | x :: xs, _, ⟨v, r, e, ⟨t, e1⟩, h⟩ => by
    obtain ⟨l, h1, h2⟩ := rps_strs h
    subst e1; subst h1
    exact ⟨(x, t) :: l, e, by rw [List.map_cons, h2]⟩
theorem EvX.split {o e : Expr} {apos pos : Pos} {x y : Str} (h : Ev c d o σ (.str x) σ₁) (h2 : Ev c d e σ₁ (.str y) σ₁) (hy : (y.length == 0) = false) (hz : x.length ≤ 1000000) (hn : (Builtin.Str.partsBetween x (Builtin.Str.occurrences x y 0 x.length (x.length + 1)) y.length).length ≤ 1000000)
    (hbase : attributeBase o (Str.ofString "split") c.env (eval o c.env) = eval o c.env := by rfl) (hs : starEach [e] c.env = [(false, eval e c.env)] := by rfl) (hline : (apos.endLine == pos.line) = true := by rfl) :
    Ev c d (.Call (.Attribute o (Str.ofString "split") apos) [e] [] pos) σ (.list ((Txt.split x y).map T.str)) σ₁ := fun V s S F => by
  refine Call_method1 hbase hs hline (seq (h V s S F) fun V₁ s₁ ov E₁ S₁ q₁ => ?_)
  obtain ⟨⟨t, rfl⟩, _⟩ := q₁
  refine ⟨"str", _, PySem.F.plainAttrs_str, PySem.F.slot_str_split, PySem.F.type_str_split, typeIs_str _ _ _, (fun _ e => nomatch e),
    method1_meets PySem.F.slot_str_split PySem.F.entry_str_split (seq (h2 V₁ s₁ S₁ (F.ext E₁)) fun V₂ s₂ v E₂ S₂ q₂ => ?_)⟩
  obtain ⟨⟨u, rfl⟩, _⟩ := q₂
  refine ⟨typeIs_str _ _ _, PySem.F.args_str_split_2 _ _, ?_⟩
  have hx : x.length ≤ sizeLine := by rw [sizeLine_eq]; omega
  have fin : ∀ (l : List (Str × Tok)) (tk : Nat), l.map (·.1) = Txt.split x y → Pt c.W σ V s σ₁ (fun V' v => XRp c.W V' (.tr (.list ((Txt.split x y).map T.str))) v ∧ True) (.ref s₂.heap.objs.size) { s₂ with heap := s₂.heap.push { cls := .type "list", data := .seq (strValues l).toArray }, toks := tk } := fun l tk hl => by
    refine Pt.up (E₁.trans E₂) (Pt.all S₂ (fun a o e => Heap.get?_push_of_some _ e) (by rw [Heap.size_push]; omega) ⟨⟨_, _, (strValues l).toArray, 0, rfl, Vw.all_new (Nat.le_refl _) (Heap.get?_push_size _ rfl), rfl, rfl, ?_⟩, trivial⟩)
    exact strs_rps hl
  cases h1 : (decide (x.length < y.length) || decide (Builtin.Str.strKind x < Builtin.Str.strKind y))
  · cases hf : (Builtin.Str.occurrences x y 0 x.length (x.length + 1)).isEmpty
    · refine ⟨_, meets_str_split_sep x y t u h1 hy hf hx (by rw [sizeLine_eq]; omega), ?_⟩
      show wants _ NoE _ { s₂ with toks := _, heap := s₂.heap.push { cls := .type "list", data := .seq (strsFrom s₂.toks (Builtin.Str.partsBetween x (Builtin.Str.occurrences x y 0 x.length (x.length + 1)) y.length)).toArray } }
      rw [strsFrom_eq]
      exact fin (numbered s₂.toks _) _ ((numbered_texts _ _).trans ((if_neg (ne_true_of_eq_false h1)).trans (if_neg (ne_true_of_eq_false hf))).symm)
    · exact ⟨_, meets_str_split_not_found x y t u h1 hy hf, fin [(x, t)] _ ((if_neg (ne_true_of_eq_false h1)).trans (if_pos hf)).symm⟩
  · exact ⟨_, meets_str_split_cannot_occur x y t u h1, fin [(x, t)] _ (if_pos h1).symm⟩
theorem EvX.join {o e : Expr} {apos pos : Pos} {x : Str} {xs : List Str} (h : Ev c d o σ (.str x) σ₁) (h2 : Ev c d e σ₁ (.list (xs.map T.str)) σ₂) (hok : JoinOk x xs = true)
    (hbase : attributeBase o (Str.ofString "join") c.env (eval o c.env) = eval o c.env := by rfl) (hs : starEach [e] c.env = [(false, eval e c.env)] := by rfl) (hline : (apos.endLine == pos.line) = true := by rfl) :
    Ev c d (.Call (.Attribute o (Str.ofString "join") apos) [e] [] pos) σ (.str (Txt.join x xs)) σ₂ := fun V s S F => by
  refine Call_method1 hbase hs hline (seq (h V s S F) fun V₁ s₁ ov E₁ S₁ q₁ => ?_)
  obtain ⟨⟨t, rfl⟩, _⟩ := q₁
  refine SB.join (seq (h2 V₁ s₁ S₁ (F.ext E₁)) fun V₂ s₂ v E₂ S₂ q₂ => ?_)
  obtain ⟨a, vs, rfl, hl, q⟩ := Rp.listOf S₂ q₂.1
  obtain ⟨l, e1, e2⟩ := rps_strs q
  have e3 : vs = (strValues l).toArray := by rw [← e1]
  subst e3
  exact ⟨a, l, rfl, hl, xs, e2, hok, fun t' k => Pt.up (E₁.trans E₂) (Pt.tok S₂ k ⟨⟨_, rfl⟩, trivial⟩)⟩
theorem EvX.joinM {o e : Expr} {apos pos : Pos} {x : Str} {xs : List Str} {k : Nat} (h : Ev c d o σ (.str x) σ₁) (h2 : EvX c d e σ₁ (.mt k) σ₂) (hk : σ₂[k]? = some (.list (xs.map T.str))) (hok : JoinOk x xs = true)
    (hbase : attributeBase o (Str.ofString "join") c.env (eval o c.env) = eval o c.env := by rfl) (hs : starEach [e] c.env = [(false, eval e c.env)] := by rfl) (hline : (apos.endLine == pos.line) = true := by rfl) :
    Ev c d (.Call (.Attribute o (Str.ofString "join") apos) [e] [] pos) σ (.str (Txt.join x xs)) σ₂ := fun V s S F => by
  refine Call_method1 hbase hs hline (seq (h V s S F) fun V₁ s₁ ov E₁ S₁ q₁ => ?_)
  obtain ⟨⟨t, rfl⟩, _⟩ := q₁
  refine SB.join (seq (h2 V₁ s₁ S₁ (F.ext E₁)) fun V₂ s₂ v E₂ S₂ q₂ => ?_)
  obtain ⟨vs, rfl, hl, q⟩ := Mut.listOf S₂ hk q₂.1
  obtain ⟨l, e1, e2⟩ := rps_strs q
  have e3 : vs = (strValues l).toArray := by rw [← e1]
  subst e3
  exact ⟨_, l, rfl, hl, xs, e2, hok, fun t' k => Pt.up (E₁.trans E₂) (Pt.tok S₂ k ⟨⟨_, rfl⟩, trivial⟩)⟩

noncomputable def kvGet (kvs : List (Str × T)) (k : Str) : Option T := (kvs.find? fun kv => decide (kv.1 = k)).map (·.2)
theorem RpKv.valueAt {W : Wd} {F : Fz} {k : Str} : ∀ {kvs : List (Str × T)} {vs : List (Str × Value)}, RpKv W F kvs vs → match kvGet kvs k with | some t => ∃ v, PySem.valueAt vs k = some v ∧ Rp W F t v | Option.none => PySem.valueAt vs k = Option.none
  | [], _, e => by rw [show _ = [] from e]; rfl
  | p :: ps, _, ⟨u, ws, e, h1, h2⟩ => by
    subst e
    have ih := RpKv.valueAt (k := k) h2
    unfold kvGet PySem.valueAt at *
    rw [List.find?_cons, List.find?_cons]
    by_cases h : p.1 = k
    · simp only [h, decide_true]; exact ⟨u, rfl, h1⟩
    · simp only [h, decide_false]; exact ih
theorem OpB.inD {kvs : List (Str × T)} {k : Nat} {key : Str} (hk : σ[k]? = some (.dict kvs)) : OpB c (compareOp .In) σ (.tr (.str key)) (.mt k) (kvGet kvs key).isSome := fun V s x y S ⟨t, e⟩ _ r _ => by
  subst e
  obtain ⟨vs, hd, q, hs0⟩ := dictOf_of S hk
  have e' : y = .ref (V.ad k) := r
  subst e'
  refine wpAny_in_of (knd := c.W.knd) (c.W.is_str key t) hs0 hd.mapOf (Pt.tok S _ ?_)
  have := RpKv.valueAt (k := key) q
  cases hg : kvGet kvs key with
  | none => rw [hg] at this; rw [this]; rfl
  | some t' => rw [hg] at this; obtain ⟨v, e1, r⟩ := this; rw [e1]; rfl
theorem OpX.mulL {ts : List T} {k : Int} (h0 : 0 ≤ k) (hz : ts.length * k.toNat ≤ 1000000) (hk : k < 1000000) : OpX c (binaryOp .Mult) σ (.tr (.list ts)) (.tr (.int k)) (.tr (.list (List.replicate k.toNat ts).flatten)) σ := fun V s a b S r _ ⟨u, e⟩ _ => by
  subst e
  obtain ⟨l, vs, n, rfl, hl, q⟩ := Rp.isL S r
  have hlen : vs.size = ts.length := by simpa using q.length
  refine wpAny_binaryOp_repeat_ref (T := "list") (U := "int") (by decide) ⟨_, hl, rfl⟩ (fun s' => typeIs_int s' k u) noFill_list_mul PySem.F.fills_int_mul PySem.F.slot_int_rmul repeat_list PySem.F.slot_int_index.lookup
    (call_meets PySem.F.slot_int_rmul (typeIs_int s k u) PySem.F.entry_int_rmul (PySem.F.args_int_rmul_2 _ _) (int___rmul___int_list k u l vs n)
      ⟨hl, rfl, ⟨_, hl, rfl⟩, call_meets PySem.F.slot_list_mul ⟨_, hl, rfl⟩ PySem.F.entry_list_mul (PySem.F.args_list_mul_2 _ _)
        (AutoListH.list___mul___list_int_3 l vs n k u (by simp [Builtin.List.listFitsIndex]; omega) (by rw [hlen]; omega) (by rw [hlen]; simp [Builtin.List.listTooLong, PySem.sizeLine]; omega))
        ⟨hl, ?_⟩⟩)
  refine Pt.all (tk := s.toks) S (fun a o e => Heap.get?_push_of_some _ e) (by rw [Heap.size_push]; omega) ⟨⟨_, _, _, 0, rfl, Vw.all_new (Nat.le_refl _) (Heap.get?_push_size _ rfl), rfl, rfl, ?_⟩, trivial⟩
  have key : ∀ (n : Nat) (F : Fz), Rps c.W F ts vs.toList → Rps c.W F (List.replicate n ts).flatten (List.replicate n vs.toList).flatten := fun n F h => by
    induction n with
    | zero => exact rfl
    | succ n ih => rw [List.replicate_succ, List.replicate_succ, List.flatten_cons, List.flatten_cons]; exact Rps.append h ih
  have e : (List.foldl (fun x1 x2 => x1 ++ x2) #[] (List.replicate (if vs.isEmpty = true then 0 else k.toNat) vs)).toList = (List.replicate k.toNat vs.toList).flatten := by
    have fl : ∀ (n : Nat) (acc : Array Value), (List.foldl (fun x1 x2 => x1 ++ x2) acc (List.replicate n vs)).toList = acc.toList ++ (List.replicate n vs.toList).flatten := fun n => by
      induction n with
      | zero => intro acc; simp
      | succ n ih => intro acc; rw [List.replicate_succ, List.foldl_cons, ih, List.replicate_succ, List.flatten_cons, Array.toList_append, List.append_assoc]
    rw [fl]
    split
    · rename_i hv
      have : vs.toList = [] := by simpa using hv
      simp [this]
    · simp
  rw [e]
  exact key _ _ (Rps.mono (Vw.all_sub S _) _ _ q)
end
end Mine
-- B19
namespace Mine
section
variable {c : Cx} {d : Sd} {σ σ₁ σ₂ σ₃ σ₄ σ₅ : List MO} {Q : Out → Prop}

theorem sys_lt {W : Wd} {V : Vw} {s : Shared} (S : St0 W V σ s) : (s.heap.objs.size == sysModules) = false := by
  have hsys : 3 < s.heap.objs.size := ((W.gd s.heap fun a o e => S.keep a o (S.base a o e)).1).lt
  exact beq_eq_false_iff_ne.mpr (Nat.ne_of_gt (Nat.lt_of_le_of_lt (show sysModules ≤ 3 by decide) hsys))
theorem EvX.newDict {pos : Pos} {n : Nat} (hn : σ.length = n) (hp : PushL σ (.dict []) σ₁) : EvX c d (.Dict [] [] pos) σ (.mt n) σ₁ := fun V s S F => by
  subst hn; rw [hp.eq]
  refine wpAny_Dict_empty ?_
  obtain ⟨o, vs, ep, e1, e2, e3⟩ := emptyD (W := c.W) (Heap.get?_push_size s.heap (o := emptyObj) rfl)
  subst e3
  have z := S.new (mo := .dict []) (s' := { s with heap := s.heap.push emptyObj }) (a := s.heap.objs.size) (Nat.le_refl _) (by show _ < (s.heap.push _).objs.size; rw [Heap.size_push]; exact Nat.lt_succ_self _)
    (fun a o e => Heap.get?_push_of_some _ e) ⟨o, [], ep, e1, e2, sys_lt S, rfl⟩ trivial rfl rfl
  refine ⟨_, z.2, z.1, ?_, ?_⟩
  · show Value.ref _ = .ref _
    exact congrArg Value.ref (if_pos rfl).symm
  · show σ.length < _
    rw [List.length_append]; exact Nat.lt_succ_self _
theorem Ev.dict0 {pos : Pos} : Ev c d (.Dict [] [] pos) σ (.dict []) σ := fun V s S F => by
  refine wpAny_Dict_empty ?_
  obtain ⟨o, vs, ep, e1, e2, e3⟩ := emptyD (W := c.W) (Heap.get?_push_size s.heap (o := emptyObj) rfl)
  subst e3
  exact Pt.all (tk := s.toks) S (fun a o e => Heap.get?_push_of_some _ e) (by rw [Heap.size_push]; omega) ⟨⟨_, o, [], ep, rfl, Vw.all_new (Nat.le_refl _) e1, e2, sys_lt S, rfl⟩, trivial⟩

noncomputable def SetX (c : Cx) (σ : List MO) (x y z : X) (σ' : List MO) : Prop :=
  ∀ V s a b v, St0 c.W V σ s → XRp c.W V x a → x.fits σ.length → XRp c.W V y b → XRp c.W V z v → z.fits σ.length → wpAny c.W.M c.A (setItem a b v) (Pt c.W σ V s σ' fun _ _ => True) NoE s
theorem SetX.dict {kvs : List (Str × T)} {k : Nat} {key : Str} {t : T} (hk : PutL σ k (.dict kvs) (.dict (setKv kvs key t)) σ₁) (hz : kvs.length ≤ 1000000) : SetX c σ (.mt k) (.tr (.str key)) (.tr t) σ₁ := fun V s a b v S r _ ⟨tk, e⟩ rv _ => by
  subst e
  have e' : a = .ref (V.ad k) := r
  subst e'
  obtain ⟨vs, hd, q, hs0⟩ := dictOf_of S hk.get
  refine wpAny_setItem_pairs (knd := c.W.knd) (c.W.is_str key tk) hd (fun h' hd' hs' => ?_) (by rw [q.length, sizeLine_eq]; omega)
  have z := S.putKv (tk := s.toks + 1) hk q rv hs0 hd' hs'
  exact ⟨V, z.2, z.1, trivial⟩
theorem setItem_isL {prog : Program} {w : World} {A : Around} {E : Value → Shared → Prop} {s : Shared} {l : Addr} {items : Array Value} {n : Nat} {k : Int} {t : Tok} {v : Value} {Q : Unit → Shared → Prop} (hl : IsL s.heap l items n)
    (h0 : 0 ≤ k) (hfit : k < 2 ^ 63) (hn : k < items.size)
    (hQ : ∀ h' n', IsL h' l (items.setIfInBounds k.toNat v) n' → Heap.SameBut l s.heap h' → Q () { s with heap := h' }) :
    wpAny (model prog w) A (setItem (.ref l) (.int k t) v) Q E s := by
  have hl' : s.heap.IsList l items := ⟨_, hl, rfl, n, rfl⟩
  unfold setItem
  try with_reducible refine wpAny_holding ?_
  first | refine wpAny_bind (wpAny_pure ?_) | skip
  refine wpAny_bind (wpAny_sequenceKey hl'.typeIs (by decide) ?_)
  refine wpAny_bind (wpAny_callSpecial?_slot (name := Str.ofString "__setitem__") hl'.typeIs slot_list_setitem
    (wpAny_call_entry slot_list_setitem hl'.typeIs entry_list_setitem ?_ (args_list_setitem _ _ _)))
  show wpAny _ _ (Builtin.List.listSubscript? (.int k t) >>= _) _ _ s
  refine wpAny_bind (wpAny_listSubscript_int (fitsIndex_of h0 hfit) ?_)
  clear hfit
  obtain ⟨j, rfl⟩ := Int.eq_ofNat_of_zero_le h0
  have hj : j < items.size := by omega
  have hx' : items[j]? = some items[j] := Array.getElem?_eq_getElem hj
  show wpAny _ _ ((seqItemAt l j >>= fun r => pure (r.map (j, ·))) >>= _) _ _ s
  refine wpAny_bind (wpAny_bind (wpAny_seqItemAt hl rfl (wpAny_pure ?_)))
  rw [hx']
  show wpAny _ _ (setSeqItemAt l j v >>= _) _ _ s
  have hfin : IsL (s.heap.update l (Obj.mapSeq (·.setIfInBounds j v))) l (items.setIfInBounds j v) _ := IsL.update hl (·.setIfInBounds j v)
  refine wpAny_bind (wpAny_setSeqItemAt hl rfl ?_)
  first
    | exact wpAny_bind (wpAny_pure (wpAny_pure ⟨.none, rfl, wpAny_pure (hQ _ _ hfin (Heap.SameBut.update ..))⟩))
    | exact wpAny_pure ⟨.none, rfl, wpAny_pure (hQ _ _ hfin (Heap.SameBut.update ..))⟩
theorem Rps.set {W : Wd} {F : Fz} : ∀ {ts : List T} {vs : List Value} {j : Nat} {t : T} {v : Value}, Rps W F ts vs → Rp W F t v → Rps W F (ts.set j t) (vs.set j v)
  | [], _, _, _, _, e, _ => by rw [show _ = [] from e]; rfl
  | _ :: _, _, 0, _, v, ⟨u, r, e, h1, h2⟩, h => by rw [e]; exact ⟨v, r, rfl, h, h2⟩
  | _ :: _, _, j + 1, _, _, ⟨u, r, e, h1, h2⟩, h => by rw [e]; exact ⟨u, _, rfl, h1, Rps.set h2 h⟩
theorem SetX.list {ts : List T} {k : Nat} {i : Int} {t : T} (h0 : 0 ≤ i) (h1 : i < ts.length) (hz : ts.length ≤ 1000000) (hk : PutL σ k (.list ts) (.list (ts.set i.toNat t)) σ₁) : SetX c σ (.mt k) (.tr (.int i)) (.tr t) σ₁ := fun V s a b v S r _ ⟨tk, e⟩ rv _ => by
  subst e
  have e' : a = .ref (V.ad k) := r
  subst e'
  obtain ⟨vs, n, ho, q⟩ := S.led _ _ hk.get
  have hlen : vs.size = ts.length := by simpa using q.length
  refine wpAny_size (setItem_isL ho h0 (by omega) (by omega) fun h' n' hl' hs' hz' => ?_)
  have z := S.upd (mo' := .list (ts.set i.toNat t)) (s' := { s with heap := h' }) hk.get rfl (fun a o ha e => hs'.extBut a o ha e) (Nat.le_of_eq hs'.1.symm) ⟨_, n', hl', by rw [Array.toList_setIfInBounds]; exact Rps.set q rv⟩ trivial rfl rfl
  rw [hk.set]
  exact ⟨V, z.2, z.1, trivial⟩
theorem AsV.sub {o i : Expr} {pos : Pos} {x y z : X} (h1 : EvX c d o σ x σ₁) (h2 : EvX c d i σ₁ y σ₂) (h3 : SetX c σ₂ x y z σ₃) : AsV c d (.Subscript o i pos) σ z σ₃ := fun V s v S F r hf => by
  rw [assign_Subscript]
  refine wpAny_bind (wpAny_holding (seq (h1 V s S F) fun V₁ s₁ ov E₁ S₁ q₁ => ?_))
  refine wpAny_bind (wpAny_holding (seq (h2 V₁ s₁ S₁ (F.ext E₁)) fun V₂ s₂ iv E₂ S₂ q₂ => ?_))
  have E12 := E₁.trans E₂
  refine wpAny_bind (wpAny_standAt (wpAny_bind (wpAny_holding (seq (h3 V₂ s₂ ov iv v S₂ (q₁.1.ext E₂ q₁.2) (q₁.2.mono E₂.le) q₂.1 (r.ext E12 hf) (hf.mono E12.le)) fun V₃ s₃ _ E₃ S₃ _ => ?_))))
  exact wpAny_release ⟨V₃, E12.trans E₃, S₃, trivial⟩
theorem Ex1.augSub {o i value : Expr} {tpos pos : Pos} {op : Operator} {x y u w z : X} (h1 : EvX c d o σ x σ₁) (h2 : EvX c d i σ₁ y σ₂) (h3 : GetX c σ₂ x y u) (h4 : EvX c d value σ₂ w σ₃) (h5 : OpX c (inplaceOp op) σ₃ u w z σ₄) (h6 : SetX c σ₄ x y z σ₅) (hq : Q (.nxt σ₅))
    (hi : ∀ ov iv new, augStore i ov iv new = (do holding [new, ov, iv] (setItem ov iv new); release [new, ov, iv] []; pure .next) := by intros; rfl) : Ex1 c d (.AugAssign (.Subscript o i tpos) op value pos) σ Q := fun V s S F => by
  refine wpAny_AugAssign_SubscriptAny (seq (h1 V s S F) fun V₁ s₁ ov E₁ S₁ q₁ => seq (h2 V₁ s₁ S₁ (F.ext E₁)) fun V₂ s₂ iv E₂ S₂ q₂ => ?_) hi
  have E12 := E₁.trans E₂
  have r1 := q₁.1.ext E₂ q₁.2
  have f1 := q₁.2.mono E₂.le
  obtain ⟨_, _, _, _, hg⟩ := h3 V₂ s₂ ov iv S₂ r1 f1 q₂.1 q₂.2
  refine seq hg fun V₃ s₃ old E₃ S₃ q₃ => seq (h4 V₃ s₃ S₃ (F.ext (E12.trans E₃))) fun V₄ s₄ v E₄ S₄ q₄ => ?_
  refine seq (h5 V₄ s₄ old v S₄ (q₃.1.ext E₄ q₃.2) (q₃.2.mono E₄.le) q₄.1 q₄.2) fun V₅ s₅ new E₅ S₅ q₅ => ?_
  have E345 := (E₃.trans E₄).trans E₅
  refine seq (h6 V₅ s₅ ov iv new S₅ (r1.ext E345 f1) (f1.mono E345.le) (q₂.1.ext E345 q₂.2) q₅.1 q₅.2) fun V₆ s₆ _ E₆ S₆ _ => ?_
  exact ⟨σ₅, V₆, (E12.trans E345).trans E₆, S₆, hq⟩
theorem GetX.mdict {kvs : List (Str × T)} {k : Nat} {key : Str} {t : T} (hk : σ[k]? = some (.dict kvs)) (ht : kvGet kvs key = some t) : GetX c σ (.mt k) (.tr (.str key)) (.tr t) := fun V s a b S r _ ⟨u, e'⟩ _ => by
  subst e'
  have e : a = .ref (V.ad k) := r
  subst e
  obtain ⟨vs, hd, q, hs0⟩ := dictOf_of S hk
  have := RpKv.valueAt (k := key) q
  rw [ht] at this
  obtain ⟨v, hv, rv⟩ := this
  exact ⟨"dict", _, PySem.F.slot_dict_getitem.lookup, hd.typeIs, wpAny_getItem_of (c.W.is_str key u) hd.mapOf hv (Pt.tok S _ ⟨rv, trivial⟩)⟩
theorem CaX.isIntTup {i : Int} : CaX c (.builtin "isinstance") [.tr (.int i), .tr (.val (.type "tuple"))] σ (.tr (.bool false)) σ := fun V s vs S R _ => by
  obtain ⟨v, u, rfl, ⟨t, e1⟩, e2⟩ := R.two
  have e2' : u = .type "tuple" := e2
  subst e1; subst e2'
  exact call_isinstance (isinstance_false_int (by decide) (by kernel_rfl) (by rw [isSubtype_type]; kernel_rfl)) (Pt.tok S _ ⟨rfl, trivial⟩)
end
end Mine
-- B20
namespace Mine
section
variable {c : Cx} {d : Sd} {σ σ₁ σ₂ σ₃ : List MO}
structure CEq (c c' : Cx) : Prop where
  hW : c'.W = c.W
  hA : c'.A = c.A
  hn : c'.n = c.n
theorem cfr_cases {c' : Cx} {tab : List (Str × Slot)} {n : Nat} {d' : Sd} {a : Addr} (h : CFr c c' tab n d' a) : CEq c c' ∧ ∃ acc, d' = ⟨n + 1, tab, acc⟩ := by
  obtain ⟨cur, tab', acc⟩ := d'
  obtain ⟨h1, h2, h3, h4, h5, _⟩ := h
  have h4' : cur = n + 1 := h4
  have h5' : tab' = tab := h5
  subst h4'; subst h5'
  exact ⟨⟨h1, h2, h3⟩, acc, rfl⟩
structure Body (c : Cx) (target : Expr) (ifs : List Expr) (tab : List (Str × Slot)) (n : Nat) (σ₁ : List MO) (ls : List Str) (nc : Nat) (us : List T) (p : T → Bool) (fr' : T → List MO) (E : Cx → Sd → List MO → T → Prop) : Prop where
  run : ∀ (c' : Cx) (acc : List (Nat × Addr)), CEq c c' → ∀ t ∈ us, ∀ mo, AsV c' ⟨n + 1, tab, acc⟩ target (σ₁ ++ mo :: compFr ls nc) (.tr t) (σ₁ ++ mo :: fr' t) ∧ Tst c' ⟨n + 1, tab, acc⟩ ifs (σ₁ ++ mo :: fr' t) (p t) (σ₁ ++ mo :: fr' t) ∧ (p t = true → E c' ⟨n + 1, tab, acc⟩ (σ₁ ++ mo :: fr' t) t)
  wk : ∀ t ∈ us, WkL (fr' t) (compFr ls nc) ∧ (fr' t).length = (compFr ls nc).length
theorem Body.pure {target : Expr} {ifs : List Expr} {tab : List (Str × Slot)} {n nc : Nat} {ls : List Str} {us : List T} {p : T → Bool} {fr' : T → List MO} {E : Cx → Sd → List MO → T → Prop} (B : Body c target ifs tab n σ₁ ls nc us p fr' E) : PureT c target ifs tab n σ₁ ls nc us p fr' where
  asg := fun c' d' a hc t ht mo => by obtain ⟨h, acc, rfl⟩ := cfr_cases hc; exact (B.run c' acc h t ht mo).1
  tst := fun c' d' a hc t ht mo => by obtain ⟨h, acc, rfl⟩ := cfr_cases hc; exact (B.run c' acc h t ht mo).2.1
  wk := fun t ht => (B.wk t ht).1
  len := fun t ht => (B.wk t ht).2
theorem Body.elt {target : Expr} {ifs : List Expr} {tab : List (Str × Slot)} {n nc : Nat} {ls : List Str} {us : List T} {p : T → Bool} {fr' : T → List MO} {E : Cx → Sd → List MO → T → Prop} (B : Body c target ifs tab n σ₁ ls nc us p fr' E)
    (c' : Cx) (d' : Sd) (a : Addr) (hc : CFr c c' tab n d' a) (t : T) (ht : t ∈ us) (hp : p t = true) (mo : MO) : E c' d' (σ₁ ++ mo :: fr' t) t := by
  obtain ⟨h, acc, rfl⟩ := cfr_cases hc; exact (B.run c' acc h t ht mo).2.2 hp
theorem EvX.lcB {elt target iter : Expr} {ifs : List Expr} {scope : Scope} {pos : Pos} {us : List T} {dep : List MO → Prop} (n nc : Nat) (ls : List Str) (tab : List (Str × Slot)) (p : T → Bool) (f : T → T) (fr' : T → List MO)
    (hsrc : Src c d target iter σ us dep σ₁) (hn : σ₁.length = n) (hd : ∀ r, dep (σ₁ ++ r)) (hz : us.length ≤ 1000000)
    (B : Body c target ifs tab n σ₁ ls nc us p fr' fun c' d' σ t => Ev c' d' elt σ (f t) σ)
    (hok : compOk scope.names n ls nc d.tab tab = true := by decide +kernel)
    (hkind : scope.kind = .function := by rfl) (hs : ∀ x, foldedSetIterable iter c.env x = pure x := by intro _; rfl) : Ev c d (.ListComp elt [⟨target, iter, ifs, 0⟩] scope pos) σ (.list ((us.filter p).map f)) σ₁ :=
  EvX.lc p f fr' hsrc hn hok hd hz B.pure B.elt hkind hs
theorem Ex1.lcB {elt target iter : Expr} {ifs : List Expr} {scope : Scope} {pos spos : Pos} {us : List T} {dep : List MO → Prop} {y : Str} {py : Pos} {mm mm' : List (Str × X)} {Q : Out → Prop} (n nc : Nat) (ls : List Str) (tab : List (Str × Slot)) (p : T → Bool) (f : T → T) (fr' : T → List MO)
    (hsrc : Src c d target iter σ us dep σ₁) (hn : σ₁.length = n) (hd : ∀ r, dep (σ₁ ++ r)) (hz : us.length ≤ 1000000)
    (B : Body c target ifs tab n σ₁ ls nc us p fr' fun c' d' σ t => Ev c' d' elt σ (f t) σ)
    (hy : (y, Slot.loc) ∈ d.tab) (hl : PutL σ₁ d.cur (.ns mm) (.ns mm') σ₃) (hm : PutN mm y (.tr (.list ((us.filter p).map f))) mm') (hq : Q (.nxt σ₃))
    (hok : compOk scope.names n ls nc d.tab tab = true := by decide +kernel)
    (hsw : (py.line == pos.line && !(scope.names.any fun (n, k) => n == y && (k == .local || k == .cell))) = true := by decide +kernel)
    (hkind : scope.kind = .function := by rfl) (hs : ∀ x, foldedSetIterable iter c.env x = pure x := by intro _; rfl) : Ex1 c d (.Assign [.Name y py] (.ListComp elt [⟨target, iter, ifs, 0⟩] scope pos) spos) σ Q :=
  Ex1.lc p f fr' hsrc hn hok hd hz B.pure B.elt hy hl hm hq hsw hkind hs
theorem EvX.dcB {kx vx target iter : Expr} {ifs : List Expr} {scope : Scope} {pos : Pos} {us : List T} {dep : List MO → Prop} (n nc : Nat) (ls : List Str) (tab : List (Str × Slot)) (p : T → Bool) (g : T → Str) (f : T → T) (fr' : T → List MO)
    (hsrc : Src c d target iter σ us dep σ₁) (hn : σ₁.length = n) (hd : ∀ r, dep (σ₁ ++ r)) (hz : us.length ≤ 1000000)
    (B : Body c target ifs tab n σ₁ ls nc us p fr' fun c' d' σ t => Ev c' d' kx σ (.str (g t)) σ ∧ Ev c' d' vx σ (f t) σ)
    (hok : compOk scope.names n ls nc d.tab tab = true := by decide +kernel)
    (hkind : scope.kind = .function := by rfl) (hs : ∀ x, foldedSetIterable iter c.env x = pure x := by intro _; rfl) : Ev c d (.DictComp kx vx [⟨target, iter, ifs, 0⟩] scope pos) σ (.dict (foldKv g f (us.filter p))) σ₁ :=
  EvX.dc p g f fr' hsrc hn hok hd hz B.pure (fun c' d' a hc t ht hp mo => (B.elt c' d' a hc t ht hp mo).1) (fun c' d' a hc t ht hp mo => (B.elt c' d' a hc t ht hp mo).2) hkind hs
end
section
variable {c : Cx} {σ : List MO}
theorem GetX.listC {ts : List T} {k : Int} {t : T} (ht : ts[k.toNat]? = some t) (h0 : decide (0 ≤ k) = true := by rfl) (hz : Nat.ble ts.length 1000000 = true := by rfl) : GetX c σ (.tr (.list ts)) (.tr (.int k)) (.tr t) := by
  have h0' : 0 ≤ k := of_decide_eq_true h0
  have h1 := (List.getElem?_eq_some_iff.mp ht).1
  exact GetX.list (by omega) (by omega) (Nat.le_of_ble_eq_true hz) (by rw [ixOf, if_neg (by omega)]; exact ht)
theorem GetX.tupC {ts : List T} {k : Int} {t : T} (ht : ts[k.toNat]? = some t) (h0 : decide (0 ≤ k) = true := by rfl) (hz : Nat.ble ts.length 1000000 = true := by rfl) : GetX c σ (.tr (.tup ts)) (.tr (.int k)) (.tr t) := by
  have h0' : 0 ≤ k := of_decide_eq_true h0
  have h1 := (List.getElem?_eq_some_iff.mp ht).1
  exact GetX.tup (by omega) (by omega) (Nat.le_of_ble_eq_true hz) (by rw [ixOf, if_neg (by omega)]; exact ht)
theorem GetX.listN {ts : List T} {k : Nat} {t : T} (ht : ts[k]? = some t) (hz : ts.length ≤ 1000000) : GetX c σ (.tr (.list ts)) (.tr (.int k)) (.tr t) := by
  have h1 := (List.getElem?_eq_some_iff.mp ht).1
  exact GetX.list (by omega) (by omega) hz (by rw [ixOf, if_neg (by omega)]; exact ht)
theorem GetX.tupN {ts : List T} {k : Nat} {t : T} (ht : ts[k]? = some t) (hz : ts.length ≤ 1000000) : GetX c σ (.tr (.tup ts)) (.tr (.int k)) (.tr t) := by
  have h1 := (List.getElem?_eq_some_iff.mp ht).1
  exact GetX.tup (by omega) (by omega) hz (by rw [ixOf, if_neg (by omega)]; exact ht)
end
theorem pick_map {α β : Type} (f : α → β) (xs : List α) (lo hi st : Option Int) : pick (xs.map f) lo hi st = (pick xs lo hi st).map f := by
  unfold pick
  rw [List.length_map, List.map_filterMap]
  congr 1
  funext i
  simp
end Mine
-- B21
namespace Mine
section
variable {c : Cx} {d : Sd} {σ σ₁ σ₂ σ₃ : List MO}
noncomputable def upBy (a c : Int) (n : Nat) : List Int := (List.range n).map fun (i : Nat) => a + (i : Int) * c
theorem EvX.listRange3 {fl fr e₁ e₂ e₃ : Expr} {p₁ p₂ : Pos} {a b s : Int} {n m : Nat} (hl : Ev c d fl σ (.val (.type "list")) σ) (hr : Ev c d fr σ (.val (.type "range")) σ) (hs : EvS c d [e₁, e₂, e₃] σ [.tr (.int a), .tr (.int b), .tr (.int s)] σ)
    (hpos : 0 < s) (hs2 : s < 1073741824) (ha : -(2 ^ 62) ≤ a ∧ a < 2 ^ 62) (hb : -(2 ^ 62) ≤ b ∧ b < 2 ^ 62) (hn : (if a < b then (b - a - 1) / s + 1 else 0) = (n : Int)) (hz : n ≤ 1000000) (hm : σ.length = m) (hp : PushL σ (.list ((upBy a s n).map T.int)) σ₁)
    (he : eval (.Call fl [.Call fr [e₁, e₂, e₃] [] p₂] [] p₁) c.env = (do callWith p₁ (← eval fl c.env) [] (backTo p₁ (starEach [.Call fr [e₁, e₂, e₃] [] p₂] c.env)) (backToKw p₁ (keywordEach [] c.env))) := by rfl)
    (he2 : eval (.Call fr [e₁, e₂, e₃] [] p₂) c.env = (do callWith p₂ (← eval fr c.env) [] (backTo p₂ (starEach [e₁, e₂, e₃] c.env)) (backToKw p₂ (keywordEach [] c.env))) := by rfl)
    (hst : starEach [.Call fr [e₁, e₂, e₃] [] p₂] c.env = (false, eval (.Call fr [e₁, e₂, e₃] [] p₂) c.env) :: starEach [] c.env := by rfl) (hst2 : starEach [e₁, e₂, e₃] c.env = (false, eval e₁ c.env) :: starEach [e₂, e₃] c.env := by rfl) (hpl : (backTo p₂ (starEach [e₂, e₃] c.env)).any (·.1) = false := by rfl) :
    EvX c d (.Call fl [.Call fr [e₁, e₂, e₃] [] p₂] [] p₁) σ (.mt m) σ₁ := fun V st S F => by
  subst hm; rw [hp.eq]
  refine Call_ (seq (hl V st S F) fun V₁ s₁ f E₁ S₁ q₁ => ?_) he
  have hf : f = .type "list" := q₁.1
  subst hf
  refine callWith_type1 (args_cons (Call_ (seq (hr V₁ s₁ S₁ (F.ext E₁)) fun V₂ s₂ g E₂ S₂ q₂ => ?_) he2) hst) hst rfl
  have hg : g = .type "range" := q₂.1
  subst hg
  have E12 := E₁.trans E₂
  refine callWith_type1 (seq (hs V₂ s₂ p₂ S₂ (F.ext E12)) fun V₃ s₃ vs E₃ S₃ q₃ => ?_) hst2 hpl
  obtain ⟨v, u, w, rfl, ⟨t1, e1⟩, ⟨t2, e2⟩, ⟨t3, e3⟩⟩ := q₃.1.three
  subst e1; subst e2; subst e3
  refine call_range_3 (by omega) ?_ (.inl (PyProof.noPylong_small (by omega)))
  refine args_nil ?_
  generalize ho1 : ({ cls := .type "range", data := .fields #[.int a t1, .int b t2, .int s t3] } : Obj) = o1
  have hz1 : (s₃.heap.push o1).objs.size = s₃.heap.objs.size + 1 := Heap.size_push ..
  have hrs : Builtin.Range.rangeSize a b s = (n : Int) := by rw [← hn]; unfold Builtin.Range.rangeSize; rw [if_pos hpos]
  have hrange : IsRange (s₃.heap.push o1) s₃.heap.objs.size a b s t1 t2 t3 := by rw [← ho1]; exact IsRange.new _ _ _ _ _ _ _
  have hsmall : Builtin.Range.small a b s = true := by
    unfold Builtin.Range.small
    rw [hrs]
    have hle : (n : Int) * s ≤ b - a - 1 + s ∨ (n : Int) = 0 := by
      by_cases hab : a < b
      · left
        rw [if_pos hab] at hn
        have h1 := Int.ediv_mul_le (b - a - 1) (show s ≠ 0 by omega)
        rw [← hn, Int.add_mul, Int.one_mul]; omega
      · right; rw [if_neg hab] at hn; exact hn.symm
    have hge : 0 ≤ (n : Int) * s := Int.mul_nonneg (by omega) (by omega)
    simp only [Builtin.Range.rangeFitsLong, Bool.and_eq_true, Bool.or_eq_true, decide_eq_true_eq, beq_iff_eq]
    rcases hle with h | h
    · refine ⟨⟨⟨?_, ?_⟩, ?_⟩, ?_⟩ <;> first | omega | (refine ⟨?_, ?_⟩ <;> omega) | skip
      right
      rw [if_pos hpos]
      simp only [Bool.and_eq_true, decide_eq_true_eq]
      omega
    · rw [h]
      refine ⟨⟨⟨?_, ?_⟩, ?_⟩, ?_⟩ <;> first | omega | (refine ⟨?_, ?_⟩ <;> omega) | (left; rfl)
  have E123 := E12.trans E₃
  have g1 := S₃.grow (s' := { s₃ with heap := s₃.heap.push o1, toks := s₃.toks }) (fun a o e => Heap.get?_push_of_some _ e) (by show _ ≤ (s₃.heap.push o1).objs.size; omega) rfl rfl
  refine wpAny_size (call_list_range c.hA.1 hrange hsmall hrs (by omega) fun h' tk acc' c' hk hS' hacc hz' => ?_)
  have S4 := g1.1
  have hk' : ∀ b o, s₃.heap.get? b = some o → h'.get? b = some o := fun b o e => hk b o (Heap.get?_push_of_some _ e)
  have hlt : (s₃.heap.push o1).objs.size < h'.objs.size := Heap.lt_size hS'
  have z := S4.new (mo := .list ((upBy a s n).map T.int)) (s' := { s₃ with heap := h', toks := tk }) (a := (s₃.heap.push o1).objs.size) (Nat.le_refl _) hlt hk ⟨acc', c', hS', ?_⟩ trivial rfl rfl
  · refine ⟨_, (E123.trans g1.2).trans z.2, z.1, ?_, ?_⟩
    · show Value.ref _ = .ref _
      exact congrArg Value.ref (if_pos rfl).symm
    · show σ.length < _
      rw [List.length_append]; exact Nat.lt_succ_self _
  · refine Rps.of_get (by simp [hacc.1, upBy]) fun i t v ht hv => ?_
    obtain ⟨tk', rfl⟩ := hacc.2 i v (by simpa using hv)
    rw [upBy, List.map_map, List.getElem?_map] at ht
    cases hi : (List.range n)[i]? with
    | none => rw [hi] at ht; cases ht
    | some j =>
      rw [hi] at ht
      obtain ⟨hj1, hj⟩ := List.getElem?_eq_some_iff.mp hi
      rw [List.getElem_range] at hj
      subst hj
      rw [← Option.some.inj ht]
      exact ⟨_, rfl⟩

end
noncomputable def ofL (l : List Nat) : Str := ⟨l.toArray⟩
theorem sliceRange_one (p q : Nat) (h : p ≤ q) : sliceRange p q 1 = (List.range (q - p)).map fun k => p + k := by
  unfold sliceRange
  have e : (if (1 : Int) > 0 then (if (p : Int) < q then ((q : Int) - p + 1 - 1) / 1 else 0) else (if (p : Int) > q then ((p : Int) - q - 1 - 1) / (-1) else 0)).toNat = q - p := by
    rw [if_pos (by decide)]
    by_cases h' : (p : Int) < q
    · rw [if_pos h', Int.ediv_one]; omega
    · rw [if_neg h']; omega
  show List.map (fun (k : Nat) => ((p : Int) + 1 * (k : Int)).toNat) (List.range (if (1 : Int) > 0 then (if (p : Int) < q then ((q : Int) - p + 1 - 1) / 1 else 0) else (if (p : Int) > q then ((p : Int) - q - 1 - 1) / (-1) else 0)).toNat) = _
  rw [e]
  congr 1
  funext k
  omega
theorem run_pick {α : Type} (xs : List α) (p m : Nat) (h : p + m ≤ xs.length) : ((List.range m).map fun k => p + k).filterMap (xs[·]?) = (xs.drop p).take m := by
  induction m with
  | zero => simp
  | succ m ih =>
    rw [List.range_succ, List.map_append, List.filterMap_append, ih (by omega), List.take_add_one, List.getElem?_drop]
    simp [List.getElem?_eq_getElem (show p + m < xs.length by omega)]
theorem strSl_run (x : Str) (lo hi : Option Int) (p q : Nat) (hp : p ≤ q) (hq : q ≤ x.length) (hi' : Builtin.Str.strSliceIndices lo hi 1 x.length = sliceRange p q 1) : strSl x lo hi = ofL ((x.cps.toList.drop p).take (q - p)) := by
  unfold strSl
  rw [hi', sliceRange_one p q hp]
  have e : (((List.range (q - p)).map fun k => p + k).filterMap (x.cps[·]?)) = (x.cps.toList.drop p).take (q - p) := by
    have := run_pick x.cps.toList p (q - p) (by rw [Array.length_toList]; show p + (q - p) ≤ x.length; omega)
    rw [← this]
    congr 1
    funext k
    simp
  rw [e]
  split
  · rename_i h
    have h' : q - p = x.length := by simpa using h
    have hp0 : p = 0 := by omega
    subst hp0
    rw [List.drop_zero, List.take_of_length_le (by rw [Array.length_toList]; show x.length ≤ _; omega)]
    show x = ofL x.cps.toList
    unfold ofL
    cases x; simp
  · rfl
theorem strSl_drop (x : Str) (k : Nat) (h : k ≤ x.length) : strSl x (some k) none = ofL (x.cps.toList.drop k) := by
  rw [strSl_run x _ _ k x.length h (Nat.le_refl _) ?_, List.take_of_length_le]
  · rw [List.length_drop, Array.length_toList]; exact Nat.le_refl _
  · unfold Builtin.Str.strSliceIndices
    simp only []
    congr 1
    · rw [if_pos (by decide)]
      show max 0 (min (if (k : Int) < 0 then _ else (k : Int)) _) = _
      rw [if_neg (by omega)]; omega
theorem strSl_full (x : Str) : strSl x none none = x := by
  rw [strSl_run x _ _ 0 x.length (Nat.zero_le _) (Nat.le_refl _) rfl]
  rw [List.drop_zero, List.take_of_length_le (by rw [Array.length_toList]; exact Nat.le_refl _)]
  unfold ofL; cases x; simp
theorem strSl_take (x : Str) (q : Nat) (h : q ≤ x.length) (h0 : 0 < q) : strSl x none (some (-(q : Int))) = ofL (x.cps.toList.take (x.length - q)) := by
  rw [strSl_run x _ _ 0 (x.length - q) (Nat.zero_le _) (by omega) ?_, List.drop_zero, Nat.sub_zero]
  unfold Builtin.Str.strSliceIndices
  simp only []
  congr 1
  rw [if_pos (by decide)]
  show max 0 (min (if (-(q : Int)) < 0 then _ else _) _) = _
  rw [if_pos (by omega)]; omega
section
variable {c : Cx} {d : Sd} {σ σ₁ σ₂ σ₃ : List MO} {Q : Out → Prop}
theorem Ex1.swap {n₁ n₂ : Str} {p₁ p₂ : Pos} {e₁ e₂ : Expr} {k k' : Nat} {tp vp pos : Pos} {t₁ t₂ : T} (h : EvTs c d [e₁, e₂] σ [t₁, t₂] σ₁) (hn₁ : (n₁, Slot.loc) ∈ d.tab) (hn₂ : (n₂, Slot.loc) ∈ d.tab) (h2 : StN c d n₂ σ₁ (.tr t₂) σ₂) (h1 : StN c d n₁ σ₂ (.tr t₁) σ₃) (hq : Q (.nxt σ₃))
    (hw : ∀ env : Env, env.scope.kind = .function → env.kindOf n₁ = some .local → env.kindOf n₂ = some .local → swappedStores [.Tuple [.Name n₁ p₁, .Name n₂ p₂] k tp] (.Tuple [e₁, e₂] k' vp) env = pure (some [n₁, n₂])) :
    Ex1 c d (.Assign [.Tuple [.Name n₁ p₁, .Name n₂ p₂] k tp] (.Tuple [e₁, e₂] k' vp) pos) σ Q := fun V s S F => by
  have hw' := hw c.env c.hk (F.tab _ hn₁) (F.tab _ hn₂)
  rw [exec_Assign_arm]
  refine wpAny_bind (wpAny_standAt ?_)
  rw [show swapsWithSole [.Tuple [.Name n₁ p₁, .Name n₂ p₂] k tp] (.Tuple [e₁, e₂] k' vp) pos.line c.env = pure false from rfl]
  refine wpAny_bind (wpAny_pure ?_)
  rw [if_neg (by decide)]
  have ht : Ev c d (.Tuple [e₁, e₂] k' vp) σ (.tup [t₁, t₂]) σ₁ := Ev.tup h
  refine wpAny_bind (seq (ht V s S F) fun V₁ s₁ v E₁ S₁ q₁ => ?_)
  rw [hw']
  refine wpAny_bind (wpAny_pure ?_)
  obtain ⟨l, vs, rfl, hl, q⟩ := Rp.tupOf S₁ q₁.1
  obtain ⟨v₁, r₁, e₁', q₁', v₂, r₂, e₂', q₂', e₃⟩ := q
  rw [show r₂ = [] from e₃] at e₂'
  rw [e₂'] at e₁'
  have hsz : vs.size = 2 := by have := congrArg List.length e₁'; simpa using this
  show wpAny _ _ (do
    rule "assign.swapped-stores"
    let items ← unpackItems (.ref l) 2 none
    assignInOrder ([n₁, n₂].reverse.map fun n => bindName c.env n) items.reverse
    pure Flow.next) _ _ _
  refine wpAny_bind (wpAny_rule (wpAny_bind ?_))
  rw [← hsz]
  refine wpAny_size (wpAny_unpackItems_tuple c.hA.1 hl fun h' he hz => ?_)
  have g := S₁.grow (s' := { s₁ with heap := h' }) (fun a o e => he a o (Nat.ne_of_lt (Heap.lt_size e)) e) hz rfl rfl
  rw [e₁']
  show wpAny _ _ (do (do holding [v₁] (bindName c.env n₂ v₂); (do holding [] (bindName c.env n₁ v₁); pure ())); pure Flow.next) _ _ _
  have F₁ := F.ext (E₁.trans g.2)
  refine wpAny_bind (wpAny_bind (wpAny_holding (wpAny_bindName (seq (h2 V₁ _ v₂ g.1 F₁ q₂' trivial) fun V₂ s₂ _ E₂ S₂ _ => wpAny_bind (wpAny_holding (wpAny_bindName (seq (h1 V₂ s₂ v₁ S₂ (F₁.ext E₂) (Rp.mono E₂.F _ _ q₁') trivial) fun V₃ s₃ _ E₃ S₃ _ => wpAny_pure (wpAny_pure ?_))))))))
  exact ⟨σ₃, V₃, ((E₁.trans g.2).trans E₂).trans E₃, S₃, hq⟩
end
theorem fmod_nat (a b : Nat) : ((a : Nat) : Int).fmod ((b : Nat) : Int) = ((a % b : Nat) : Int) := by rw [Int.fmod_eq_emod_of_nonneg _ (Int.natCast_nonneg b)]; rfl
theorem fdiv_nat (a b : Nat) : ((a : Nat) : Int).fdiv ((b : Nat) : Int) = ((a / b : Nat) : Int) := by rw [Int.fdiv_eq_ediv_of_nonneg _ (Int.natCast_nonneg b)]; rfl
theorem fdm_nat (a b m : Nat) : (((a : Nat) : Int).fdiv ((b : Nat) : Int)).fmod ((m : Nat) : Int) = ((a / b % m : Nat) : Int) := by rw [fdiv_nat, fmod_nat]
theorem len2 {α : Type} : ∀ {l : List α}, l.length = 2 → ∃ a b, l = [a, b]
  | [a, b], _ => ⟨a, b, rfl⟩
theorem len4 {α : Type} : ∀ {l : List α}, l.length = 4 → ∃ a b c d, l = [a, b, c, d]
  | [a, b, c, d], _ => ⟨a, b, c, d, rfl⟩
end Mine
-- D1
namespace Mine
structure IsK (W : Wd) (K : Frag) (C fI : Addr) (nm : Str) : Prop where
  sub : ∀ a o, K.lookup a = some o → W.G a = some o
  mks : makesIn K C = true
  ini : findIn K (.ref C) "__init__" = some (some (.ref fI))
  tfI : isFn K (.ref fI) = true
  kp : keepIn K (.ref C) = true
  pg : plainGet K C nm = true
  se : findIn K (.ref C) "__setattr__" = some (some (.builtin "object.__setattr__"))
  po : plainOver K C = true
  hd : hasDictIn K C = true
  tk : takerIn K C nm = some none
  at_ : findIn K (.ref C) nm = some none
theorem IsK.on {W : Wd} {K : Frag} {C fI : Addr} {nm : Str} (k : IsK W K C fI nm) {h : Heap} (hh : ∀ a o, W.G a = some o → h.get? a = some o) : K.In h := fun a o e => hh _ _ (k.sub a o e)
theorem getL_own (nm : Str) (hs : Int) (tk : Tok) (v : Value) : getL nm [⟨hs, .str nm tk, v⟩] = some (some v) := by
  unfold getL; simp [Value.isStr]
theorem getL_other {nm name : Str} (hs : Int) (tk : Tok) (v : Value) (h : name ≠ nm) : getL name [⟨hs, .str nm tk, v⟩] = some none := by
  have e : (nm == name) = false := by simpa using fun q : nm = name => h q.symm
  unfold getL
  simp [Value.isStr, e, DictEntry.refKey]

section
variable {c : Cx} {σ : List MO} {K : Frag} {C fI : Addr} {nm arg : Str} {fd : FuncData} {p1 p2 p3 p4 : Pos} {t : T}
theorem CaX.make (k : IsK c.W K C fI nm) (hf : IsFd c.W fd fI) (hbody : fd.body = .stmts [Stmt.Assign [Expr.Attribute (Expr.Name "self" p1) nm p2] (Expr.Name arg p3) p4])
    (hbind : ∀ u v, bindArgs fd ⟨[u, v], []⟩ = pure [(("self" : Str), u), (arg, v)]) (hcl : fd.closure = []) (hs : fd.scope.names.lookup ("self" : Str) = some .local) (ha : fd.scope.names.lookup arg = some .local)
    (hne : arg ≠ ("self" : Str)) (hd : (arg == ("__debug__" : Str)) = false) (hn : 3 ≤ c.n)
    (hco : fd.scope.isCoroutine = false := by rfl) (hgen : fd.scope.isGenerator = false := by rfl) (hk : fd.scope.kind = .function := by rfl) : CaX c (.ref C) [.tr t] σ (.tr (.inst C nm t)) σ := fun V s vs S R _ => by
  obtain ⟨v, r, e, rv, er⟩ := R
  have er' : r = [] := er
  subst er'; subst e
  obtain ⟨o, hG, hdat, hcode⟩ := hf
  have hheap : ∀ a o, c.W.G a = some o → s.heap.get? a = some o := fun a o e => S.keep a o (S.base a o e)
  have KX := k.on hheap
  obtain ⟨hh, g, dr, tk, os⟩ := s
  have kp2 : ∀ b o, hh.get? b = some o → ((hh.push emptyDict).push (instObj C hh.objs.size)).get? b = some o := fun b o e => Heap.get?_push_of_some _ (Heap.get?_push_of_some _ e)
  have hheap2 : ∀ a o, c.W.G a = some o → ((hh.push emptyDict).push (instObj C hh.objs.size)).get? a = some o := fun a o e => kp2 _ _ (hheap a o e)
  have gd := c.W.gd _ hheap2
  refine wpAny_call (make_core (makes_of KX k.mks) (looks_findIn KX k.ini) (fun self => bind_fn KX self (beq_iff_eq.mp k.tfI)) (.inl rfl) ?_)
  refine codeAny_call_cells (fd := fd) (by rw [depth_under_make]; have := c.hA.2.1; omega) (hheap2 _ _ hG) hdat gd.2.2 (hcode _ hheap2) hbody (hbind _ _) hcl ?_ ?_ hco hgen hk
  · intro x hx
    rcases List.mem_cons.mp hx with rfl | hx
    · exact .inl hs
    · rw [List.mem_singleton.mp hx]; exact .inl ha
  · intro s₁ I
    obtain ⟨h₁, tk₁, rfl⟩ := I.toInCall.same
    have hx0 : hh.get? (hh.objs.size + 1) = Option.none := by
      cases q : hh.get? (hh.objs.size + 1) with
      | none => rfl
      | some o => exact absurd (Heap.lt_size q) (Nat.not_lt.mpr (Nat.le_succ _))
    have hd0 : hh.get? hh.objs.size = Option.none := by
      cases q : hh.get? hh.objs.size with
      | none => rfl
      | some o => exact absurd (Heap.lt_size q) (Nat.lt_irrefl _)
    have gx : ((hh.push emptyDict).push (instObj C hh.objs.size)).get? (hh.objs.size + 1) = some (instObj C hh.objs.size) := by
      have := Heap.get?_push_size (hh.push emptyDict) (o := instObj C hh.objs.size) rfl
      rwa [Heap.size_push] at this
    have gdx : ((hh.push emptyDict).push (instObj C hh.objs.size)).get? hh.objs.size = some (dictOf [] 0) := Heap.get?_push_of_some _ (Heap.get?_push_size hh (o := emptyDict) rfl)
    have F : Fr hh (callEnvC fd ((hh.push emptyDict).push (instObj C hh.objs.size)).objs.size fI).locals h₁ _ := ⟨I.toInCall.ns, fun b o e => I.toInCall.keep _ _ (kp2 _ _ e), by
      show hh.objs.size ≤ ((hh.push emptyDict).push (instObj C hh.objs.size)).objs.size
      rw [Heap.size_push, Heap.size_push]; omega⟩
    have hL : (callEnvC fd ((hh.push emptyDict).push (instObj C hh.objs.size)).objs.size fI).locals = hh.objs.size + 2 := by
      show ((hh.push emptyDict).push (instObj C hh.objs.size)).objs.size = _
      rw [Heap.size_push, Heap.size_push]
    have N : News hh (callEnvC fd ((hh.push emptyDict).push (instObj C hh.objs.size)).objs.size fI).locals h₁ [(hh.objs.size + 1, instObj C hh.objs.size), (hh.objs.size, dictOf [] 0)] := by
      intro p hp
      rcases List.mem_cons.mp hp with rfl | hp
      · exact ⟨I.toInCall.keep _ _ gx, by rw [hL]; show hh.objs.size + 1 ≠ _; omega, hx0⟩
      · rw [List.mem_singleton.mp hp]
        exact ⟨I.toInCall.keep _ _ gdx, by rw [hL]; show hh.objs.size ≠ _; omega, hd0⟩
    have nd : (([(("self" : Str), Value.ref (hh.objs.size + 1)), (arg, v)] : List (Str × Value)).map (·.1)).Nodup := by
      simp only [List.map_cons, List.map_nil, List.nodup_cons, List.mem_singleton, List.not_mem_nil, not_false_eq_true, List.nodup_nil, and_true]
      exact fun q => hne q.symm
    refine wpAny_execs_cons (plainObj_wpAny_Assign_Attribute ?_ rfl)
    refine wpAny_Name (wpAny_loadName_local hk ha I.toInCall.ns (bindL_get _ _ _ arg v nd (by simp) ha) ?_) hd
    refine wpAny_Name (wpAny_loadName_local hk hs I.toInCall.ns (bindL_get _ _ _ "self" (.ref (hh.objs.size + 1)) nd (by simp) hs) ?_) (by decide)
    refine set_dict (dx := hh.objs.size) (es := []) (n := 0) F KX N (InstAt.of_news N (.head _) (.tail _ (.head _))) rfl k.se k.po k.tk k.hd rfl rfl (.tail (by show hh.objs.size + 1 ≠ _; omega) (.head fun p hp => (nomatch hp))) (by show (1 : Nat) ≤ 1000; decide) fun h' F' N' => ?_
    refine wpAny_execs_nil ⟨rfl, ?_⟩
    have sz : hh.objs.size ≤ h'.objs.size := by have := Heap.lt_size (N' _ (.head _)).1; have h2 : hh.objs.size + 1 < h'.objs.size := this; omega
    refine Pt.all (s := ⟨hh, g, dr, tk, os⟩) S (fun a o e => F'.keep a o e) sz ⟨?_, trivial⟩
    refine ⟨hh.objs.size + 1, hh.objs.size, #[], _, _, v, rfl, Vw.all_new (Nat.le_succ _) (N' _ (.head _)).1, Vw.all_new (Nat.le_refl _) (N' _ (.tail _ (.head _))).1, getL_own _ _ _ _, fun name h => getL_other _ _ _ h, ?_⟩
    exact Rp.mono (Vw.all_sub S h') t v rv
end
end Mine
-- D2
namespace Mine
section
variable {c : Cx} {d : Sd} {σ σ₁ σ₂ σ₃ : List MO} {K : Frag} {C fI : Addr} {nm : Str} {t : T}
theorem St0.hG {W : Wd} {V : Vw} {σ : List MO} {s : Shared} (S : St0 W V σ s) : ∀ a o, W.G a = some o → s.heap.get? a = some o := fun a o e => S.keep a o (S.base a o e)
theorem EvX.callK {func e : Expr} {rest : List Expr} {pos : Pos} {xs : List X} {z : X} (k : IsK c.W K C fI nm) (h0 : Ev c d func σ (.val (.ref C)) σ) (hs : EvS c d (e :: rest) σ xs σ₁) (hc : CaX c (.ref C) xs σ₁ z σ₂)
    (he : eval (.Call func (e :: rest) [] pos) c.env = (do callWith pos (← eval func c.env) [] (backTo pos (starEach (e :: rest) c.env)) (backToKw pos (keywordEach [] c.env))) := by rfl)
    (hst : starEach (e :: rest) c.env = (false, eval e c.env) :: starEach rest c.env := by rfl) (hpl : (backTo pos (starEach rest c.env)).any (·.1) = false := by rfl) : EvX c d (.Call func (e :: rest) [] pos) σ z σ₂ := fun V s S F => by
  refine Call_ (seq (h0 V s S F) fun V₁ s₁ f E₁ S₁ q₁ => ?_) he
  have hf : f = .ref C := q₁.1
  subst hf
  exact callWith_K (h₀ := s₁.heap) (k.on S₁.hG) k.kp (seq (hs V₁ s₁ pos S₁ (F.ext E₁)) fun V₂ s₂ vs E₂ S₂ q₂ => ⟨k.on S₂.hG, later (E₁.trans E₂) (hc V₂ s₂ vs S₂ q₂.1 q₂.2)⟩) hst hpl
theorem EvX.field {n : Str} {np pos : Pos} {ts : List T} (k : IsK c.W K C fI nm) (h : Ev c d (.Name n np) σ (.inst C nm (.list ts)) σ₁) : Ev c d (.Attribute (.Name n np) nm pos) σ (.list ts) σ₁ := fun V s S F => by
  refine Attribute_name (seq (h V s S F) fun V₁ s₁ v E₁ S₁ q₁ => ?_)
  obtain ⟨x, dx, sl, es, n, u, rfl, fx, fdx, g1, g2, ru⟩ := q₁.1
  have hu : handedIn u = true := by obtain ⟨a, _, _, _, rfl, _⟩ := ru; rfl
  refine get_value (K := K) (k.on S₁.hG) (od := some (dictOf es n)) ⟨S₁.keep _ _ fx, rfl, rfl, S₁.keep _ _ fdx⟩ (plainGet_of k.pg).1 (findObj_own k.hd k.at_ rfl (by rw [lookIn_dict]; exact g1)) hu ?_
  exact Pt.up E₁ (Pt.tok S₁ _ ⟨ru, trivial⟩)
theorem EvX.meth {o e : Expr} {rest : List Expr} {apos pos : Pos} {mn : Str} {fM : Addr} {pl : Sem Bool} {xs : List X} {z : X} (k : IsK c.W K C fI nm) (km : findIn K (.ref C) mn = some (some (.ref fM))) (ktm : isFn K (.ref fM) = true) (kpm : keepIn K (.ref fM) = true) (hmn : mn ≠ nm)
    (h : Ev c d o σ (.inst C nm t) σ₁) (hs : EvS c d (e :: rest) σ₁ xs σ₂) (hc : CaX c (.ref fM) (.tr (.inst C nm t) :: xs) σ₂ z σ₃)
    (he : eval (.Call (.Attribute o mn apos) (e :: rest) [] pos) c.env = (do
      let ov ← eval o c.env
      standAt apos.atName
      let (f, first) ← holding [ov] (getMethod ov mn pl)
      callWith pos f first (backTo pos (starEach (e :: rest) c.env)) []) := by rfl)
    (hst : starEach (e :: rest) c.env = (false, eval e c.env) :: starEach rest c.env := by rfl) (hpl : (backTo pos (starEach rest c.env)).any (·.1) = false := by rfl) : EvX c d (.Call (.Attribute o mn apos) (e :: rest) [] pos) σ z σ₃ := fun V s S F => by
  refine MethodCall_ (seq (h V s S F) fun V₁ s₁ v E₁ S₁ q₁ => ?_) he
  have q0 := q₁.1
  obtain ⟨x, dx, sl, es, n, u, rfl, fx, fdx, g1, g2, ru⟩ := q₁.1
  refine method_fn (K := K) (k.on S₁.hG) (od := some (dictOf es n)) ⟨S₁.keep _ _ fx, rfl, rfl, S₁.keep _ _ fdx⟩ (plainGet_of k.pg).1 (plainGet_of k.pg).2 km (beq_iff_eq.mp ktm) (by show (lookIn mn (dictOf es n)).map _ = _; rw [lookIn_dict, g2 mn hmn]; rfl) ?_
  refine callWith_K (h₀ := s₁.heap) (k.on S₁.hG) kpm (seq (hs V₁ s₁ pos S₁ (F.ext E₁)) fun V₂ s₂ vs E₂ S₂ q₂ => ⟨k.on S₂.hG, ?_⟩) hst hpl
  refine later (E₁.trans E₂) (hc V₂ s₂ (.ref x :: vs) S₂ ⟨_, _, rfl, ?_, q₂.1⟩ fun y hy => ?_)
  · exact XRp.ext (x := .tr (.inst C nm t)) q0 E₂ trivial
  · rcases List.mem_cons.mp hy with rfl | hy
    · trivial
    · exact q₂.2 y hy
end
end Mine
-- D3
namespace Mine
section
variable {c : Cx} {d : Sd} {σ σ₁ σ₂ : List MO} {Q : Out → Prop}
theorem Ex1.asgC {y : Str} {py : Pos} {value : Expr} {pos : Pos} {x : X} {k : Nat} {b1 b2 : Bool} (hy : (y, Slot.cel k) ∈ d.tab) (h : EvX c d value σ x σ₁) (ha : AsV c d (.Name y py) σ₁ x σ₂) (hq : Q (.nxt σ₂))
    (hs : swapsWith value (some (.Name y py)) pos.line c.env = pure (c.env.blockKind == .function && c.env.kindOf y == some .local && b1 && b2) := by rfl)
    (hw : swappedStores [.Name y py] value c.env = pure Option.none := by rfl) (he : (assignEach [.Name y py] c.env).map (·.2) = [assign (.Name y py) c.env] := by rfl) : Ex1 c d (.Assign [.Name y py] value pos) σ Q := fun V s S F => by
  have h1 : c.env.kindOf y = some .cell := (F.tab _ hy).1
  have h2 : (c.env.kindOf y == some .local) = false := by rw [h1]; decide
  refine Ex1.asg h ha hq ?_ hw he V s S F
  show swapsWith value (some (.Name y py)) pos.line c.env = _
  rw [hs, h2, Bool.and_false, Bool.false_and, Bool.false_and]
end
end Mine
-- D4
namespace Mine
section
variable {c : Cx} {d : Sd} {σ : List MO}
theorem EvX.lcM {elt target iter : Expr} {scope : Scope} {pos : Pos} {us ys : List T} {dep : List MO → Prop} (n nc : Nat) (ls : List Str) (tab : List (Str × Slot)) (S : Nat → List MO) (fr' : T → List MO)
    (hsrc : Src c d target iter σ us dep (S 0)) (hn : ∀ i, (S i).length = n) (hd : ∀ i r, dep (S i ++ r)) (hz : us.length ≤ 1000000) (hy : ys.length = us.length)
    (hf : (∀ mo ∈ S 0, mo.fits n) → ∀ mo ∈ S us.length, mo.fits n)
    (B : ∀ (c' : Cx) (acc : List (Nat × Addr)), CEq c c' → ∀ i t y, us[i]? = some t → ys[i]? = some y → ∀ mo, AsV c' ⟨n + 1, tab, acc⟩ target (S i ++ mo :: compFr ls nc) (.tr t) (S i ++ mo :: fr' t) ∧ Ev c' ⟨n + 1, tab, acc⟩ elt (S i ++ mo :: fr' t) y (S (i + 1) ++ mo :: fr' t))
    (hw : ∀ t ∈ us, WkL (fr' t) (compFr ls nc) ∧ (fr' t).length = (compFr ls nc).length)
    (hok : compOk scope.names n ls nc d.tab tab = true := by decide +kernel)
    (hkind : scope.kind = .function := by rfl) (hs : ∀ x, foldedSetIterable iter c.env x = pure x := by intro _; rfl) : Ev c d (.ListComp elt [⟨target, iter, [], 0⟩] scope pos) σ (.list ys) (S us.length) := by
  refine EvX.lcG (ls := ls) (nc := nc) (tab := tab) (σ₁ := S 0) (us := us) (emit := fun c' a => emitL elt (.ref a) c'.env) (ip := iter.pos) (fun _ _ _ => rfl) hsrc (hn 0) hok (fun i σ' => σ' = S i ++ .list (ys.take i) :: compFr ls nc) rfl (fun i σ' e => e ▸ hd _ _) (fun c' d' a hc i t σ' ht hJ => ?_) (fun σ' e => ?_) (hn _) hf hkind hs
  · subst hJ
    obtain ⟨hE, acc, rfl⟩ := cfr_cases hc
    have hiu := (List.getElem?_eq_some_iff.mp ht).1
    obtain ⟨y, hyi⟩ : ∃ y, ys[i]? = some y := ⟨_, List.getElem?_eq_getElem (by omega)⟩
    have hm := hw t (List.mem_of_getElem? ht)
    obtain ⟨hA, hV⟩ := B c' acc hE i t y ht hyi (.list (ys.take i))
    refine ⟨_, hA, true, _, Tst.nil, fun _ => ?_, fun h => by cases h⟩
    have hput : PutL (S (i + 1) ++ .list (ys.take i) :: fr' t) n (.list (ys.take i)) (.list (ys.take i ++ [y])) (S (i + 1) ++ .list (ys.take i ++ [y]) :: fr' t) := put_at (hn _)
    refine ⟨_, Em.app hV hc.acc hput (by rw [List.length_take]; omega), _, Lo.wk' (wkl_app (.cons (.eq rfl) hm.1)) (by simp [hm.2, hn]) (by simp [hn]), ?_⟩
    rw [List.take_add_one, hyi]; rfl
  · subst e; rw [← hy, List.take_length]; exact ⟨_, _, rfl⟩
end
end Mine
-- D5
namespace Mine
section
variable {prog : Program} {w : World} {A : Around} {R : Result → Shared → Prop} {s : Shared}
theorem codeAny_start1 {elt target iter : Expr} {ifs : List Expr} {g0 : Comprehension} {scope : Scope} {pos : Pos} {it acc : Value} {env : Env}
    (h0 : codeAny (model prog w) A (.compLoop (.ListComp elt [g0, ⟨target, iter, ifs, 0⟩] scope pos) 1 it acc env) R s)
    (h : wpAny (model prog w) A (pyIter it) (fun it' s' => codeAny (model prog w) A (.compLoop (.ListComp elt [g0, ⟨target, iter, ifs, 0⟩] scope pos) 1 it' acc env) R s')
      (notedBy (model prog w) A env fun x s' => R (.error x) s') s) :
    codeAny (model prog w) A (.compStart (.ListComp elt [g0, ⟨target, iter, ifs, 0⟩] scope pos) 1 it acc env) R s := by
  refine codeAny_of_tree ?_
  show wpAny _ _ ((compStart (.ListComp elt [g0, ⟨target, iter, ifs, 0⟩] scope pos) 1 it acc env).onRaise (fun x => do noteFrame x env; standAt theWindowsPlace)) _ _ s
  refine wpAny_notedAt ?_
  unfold compStart
  show wpAny _ _ (ask >>= _) _ _ s
  refine wpAny_bind (wpAny_askSetting (wpAny_ite ?_))
  split
  · exact wpAny_pure (And.intro rfl h0)
  · refine wpAny_bind (wpAny_rule ?_)
    show wpAny _ _ (standAt iter.pos >>= _) _ _ s
    exact wpAny_bind (wpAny_standAt (wpAny_bind (wpAny_mono h (fun it' s' h' => wpAny_pure (And.intro rfl h')) fun _ _ x => x)))
end
noncomputable def emit2 (e : Expr) (iter : Expr) (acc : Value) (env : Env) : Sem Unit := do
  let x ← eval iter env
  standAt iter.pos
  let x ← foldedSetIterable iter env x
  let _ ← runOwn (.compStart e 1 (← holding [x] (pyIter x)) acc env) env
theorem turn_outer (elt t1 i1 t2 i2 : Expr) (if1 if2 : List Expr) (scope : Scope) (pos : Pos) (it acc : Value) (env : Env) : compTurn (.ListComp elt [⟨t1, i1, if1, 0⟩, ⟨t2, i2, if2, 0⟩] scope pos) 0 it acc env
  = turnT t1 if1 i1.pos it env (emit2 (.ListComp elt [⟨t1, i1, if1, 0⟩, ⟨t2, i2, if2, 0⟩] scope pos) i2 acc env) (.compLoop (.ListComp elt [⟨t1, i1, if1, 0⟩, ⟨t2, i2, if2, 0⟩] scope pos) 0 it acc env) := by
  unfold turnT emit2
  simp only [bind_assoc]
  rfl
theorem turn_inner (elt t1 i1 t2 i2 : Expr) (if1 if2 : List Expr) (scope : Scope) (pos : Pos) (it acc : Value) (env : Env) : compTurn (.ListComp elt [⟨t1, i1, if1, 0⟩, ⟨t2, i2, if2, 0⟩] scope pos) 1 it acc env
  = turnT t2 if2 i2.pos it env (emitL elt acc env) (.compLoop (.ListComp elt [⟨t1, i1, if1, 0⟩, ⟨t2, i2, if2, 0⟩] scope pos) 1 it acc env) := by rfl
section
variable {c : Cx} {d : Sd} {σ σ₁ : List MO}
theorem Em.clause {elt t1 i1 t2 i2 : Expr} {if1 : List Expr} {scope : Scope} {pos : Pos} {n : Nat} {a : Addr} {us : List T} {dep : List MO → Prop} {g : T → T} {fr : List MO} {fr2 : T → List MO} {done : List T}
    (hn : σ₁.length = n) (hacc : (n, a) ∈ d.acc) (hsrc : Src c d t2 i2 (σ₁ ++ .list done :: fr) us dep (σ₁ ++ .list done :: fr)) (hd : ∀ mo, dep (σ₁ ++ mo :: fr)) (hz : done.length + us.length ≤ 1000000)
    (hA : ∀ u ∈ us, ∀ mo, AsV c d t2 (σ₁ ++ mo :: fr) (.tr u) (σ₁ ++ mo :: fr2 u)) (hE : ∀ u ∈ us, ∀ mo, Ev c d elt (σ₁ ++ mo :: fr2 u) (g u) (σ₁ ++ mo :: fr2 u))
    (hw : ∀ u ∈ us, WkL (fr2 u) fr ∧ (fr2 u).length = fr.length) (hs : ∀ x, foldedSetIterable i2 c.env x = pure x) :
    Em c d (emit2 (.ListComp elt [⟨t1, i1, if1, 0⟩, ⟨t2, i2, [], 0⟩] scope pos) i2 (.ref a) c.env) (σ₁ ++ .list done :: fr) (σ₁ ++ .list (done ++ us.map g) :: fr) := fun V s S F => by
  unfold emit2
  refine wpAny_bind (wpAny_mono (hsrc V s S F) (fun x s₁ h₁ => wpAny_bind (wpAny_standAt (wpAny_bind (wpAny_of_eq (hs x) (wpAny_bind (wpAny_holding (wpAny_mono h₁ (fun it s₂ h₂ => ?_) fun _ _ e => e.elim))))))) fun _ _ e => e)
  obtain ⟨V₂, I, hlo, hbs, E₂, S₂, hAt⟩ := h₂
  have lp := list_loop (c := c) (d := d) (acc := .ref a) (k := 1) (scope := scope) (pos := pos) (gens := [⟨t1, i1, if1, 0⟩, ⟨t2, i2, [], 0⟩]) (elt := elt) (ip := i2.pos) (emit := emitL elt (.ref a) c.env) (n := (σ₁ ++ .list done :: fr).length) (ifs := []) I hbs (turn_inner ..)
    (fun j σ' => σ' = σ₁ ++ .list (done ++ (us.take j).map g) :: fr) (fun j σ' e => e ▸ hd _) (fun j u σ' hu hJ => ?_) F hlo (Nat.le_refl _) (by simp) E₂ E₂.len S₂ hAt
  · refine wpAny_bind (wpAny_runOwn (codeAny_mono (codeAny_start1 lp (wpAny_mono (I.self hAt lp) (fun _ _ h => h) fun _ _ e => e.elim)) fun r s' ⟨hr, σ', V', E', S', hJ⟩ => ?_))
    subst hr
    subst hJ
    rw [List.take_length] at E' S'
    exact wpAny_pure ⟨V', E', S', trivial⟩
  · subst hJ
    have hm := List.mem_of_getElem? hu
    have hj := (List.getElem?_eq_some_iff.mp hu).1
    have hput : PutL (σ₁ ++ .list (done ++ (us.take j).map g) :: fr2 u) n (.list (done ++ (us.take j).map g)) (.list ((done ++ (us.take j).map g) ++ [g u])) (σ₁ ++ .list ((done ++ (us.take j).map g) ++ [g u]) :: fr2 u) := put_at hn
    refine ⟨_, hA u hm _, true, _, Tst.nil, fun _ => ⟨_, Em.app (hE u hm _) hacc hput (by rw [List.length_append, List.length_map, List.length_take]; omega), _, Lo.wk' (wkl_app (.cons (.eq rfl) (hw u hm).1)) (by simp [(hw u hm).2]) (by simp), ?_⟩, fun h => by cases h⟩
    rw [List.take_add_one, hu, List.map_append, List.append_assoc]; rfl
end
section
variable {c : Cx} {d : Sd} {σ σ₁ : List MO}
structure Body2 (c : Cx) (t1 t2 i2 elt : Expr) (tab : List (Str × Slot)) (n : Nat) (σ₁ : List MO) (ls : List Str) (nc : Nat) (us : List T) (u2 : T → List T) (g : T → T → T) (fr1 : T → List MO) (fr2 : T → T → List MO) : Prop where
  run : ∀ (c' : Cx) (acc : List (Nat × Addr)), CEq c c' → ∀ t ∈ us, (∀ mo, AsV c' ⟨n + 1, tab, acc⟩ t1 (σ₁ ++ mo :: compFr ls nc) (.tr t) (σ₁ ++ mo :: fr1 t)) ∧
    (∃ dep, (∀ done, Src c' ⟨n + 1, tab, acc⟩ t2 i2 (σ₁ ++ .list done :: fr1 t) (u2 t) dep (σ₁ ++ .list done :: fr1 t)) ∧ ∀ mo, dep (σ₁ ++ mo :: fr1 t)) ∧
    ∀ u ∈ u2 t, ∀ mo, AsV c' ⟨n + 1, tab, acc⟩ t2 (σ₁ ++ mo :: fr1 t) (.tr u) (σ₁ ++ mo :: fr2 t u) ∧ Ev c' ⟨n + 1, tab, acc⟩ elt (σ₁ ++ mo :: fr2 t u) (g t u) (σ₁ ++ mo :: fr2 t u)
  wk : ∀ t ∈ us, (WkL (fr1 t) (compFr ls nc) ∧ (fr1 t).length = (compFr ls nc).length) ∧ ∀ u ∈ u2 t, WkL (fr2 t u) (fr1 t) ∧ (fr2 t u).length = (fr1 t).length
  sm : ∀ (c' : Cx) x, foldedSetIterable i2 c'.env x = pure x
noncomputable def flat2 (us : List T) (u2 : T → List T) (g : T → T → T) : List T := (us.map fun t => (u2 t).map (g t)).flatten
theorem flat2_step {us : List T} {u2 : T → List T} {g : T → T → T} {i : Nat} {t : T} (h : us[i]? = some t) : flat2 (us.take (i + 1)) u2 g = flat2 (us.take i) u2 g ++ (u2 t).map (g t) := by
  unfold flat2; rw [List.take_add_one, h]; simp
theorem flat2_len {us : List T} {u2 : T → List T} {g : T → T → T} (h : ∀ t ∈ us, (u2 t).length ≤ 1000) : ∀ i, (flat2 (us.take i) u2 g).length ≤ 1000 * i
  | 0 => by simp [flat2]
  | i + 1 => by
    have ih := flat2_len (g := g) h i
    cases q : us[i]? with
    | none =>
      rw [List.take_add_one, q]; simp only [Option.toList, List.append_nil]; omega
    | some t =>
      have := h t (List.mem_of_getElem? q)
      rw [flat2_step q, List.length_append, List.length_map]; omega
theorem Ex1.lc2 {elt t1 i1 t2 i2 : Expr} {scope : Scope} {pos spos : Pos} {us : List T} {dep : List MO → Prop} {y : Str} {py : Pos} {mm mm' : List (Str × X)} {σ₃ : List MO} {Q : Out → Prop} (n nc : Nat) (ls : List Str) (tab : List (Str × Slot)) (u2 : T → List T) (g : T → T → T) (fr1 : T → List MO) (fr2 : T → T → List MO)
    (hsrc : Src c d t1 i1 σ us dep σ₁) (hn : σ₁.length = n) (hd : ∀ r, dep (σ₁ ++ r)) (hz : us.length ≤ 900) (hz2 : ∀ t ∈ us, (u2 t).length ≤ 1000)
    (B : Body2 c t1 t2 i2 elt tab n σ₁ ls nc us u2 g fr1 fr2)
    (hf : (∀ mo ∈ σ₁, mo.fits n) → ∀ mo ∈ σ₃, mo.fits n)
    (hy : (y, Slot.loc) ∈ d.tab) (hl : PutL σ₁ d.cur (.ns mm) (.ns mm') σ₃) (hm : PutN mm y (.tr (.list (flat2 us u2 g))) mm') (hq : Q (.nxt σ₃))
    (hok : compOk scope.names n ls nc d.tab tab = true := by decide +kernel)
    (hsw : (py.line == pos.line && !(scope.names.any fun (n, k) => n == y && (k == .local || k == .cell))) = true := by decide +kernel)
    (hkind : scope.kind = .function := by rfl) (hs : ∀ x, foldedSetIterable i1 c.env x = pure x := by intro _; rfl) : Ex1 c d (.Assign [.Name y py] (.ListComp elt [⟨t1, i1, [], 0⟩, ⟨t2, i2, [], 0⟩] scope pos) spos) σ Q := by
  refine Ex1.lcG (ls := ls) (nc := nc) (tab := tab) (us := us) (emit := fun c' a => emit2 (.ListComp elt [⟨t1, i1, [], 0⟩, ⟨t2, i2, [], 0⟩] scope pos) i2 (.ref a) c'.env) (ip := i1.pos) (fun _ _ _ => turn_outer ..) hsrc hn hok
    (fun i σ' => σ' = σ₁ ++ .list (flat2 (us.take i) u2 g) :: compFr ls nc) rfl (fun i σ' e => e ▸ hd _) (fun c' d' a hc i t σ' ht hJ => ?_) (fun σ' e => ?_) hn hf hy hl hm hq hsw hkind hs
  · subst hJ
    obtain ⟨hE, acc, rfl⟩ := cfr_cases hc
    have htm := List.mem_of_getElem? ht
    have hiu := (List.getElem?_eq_some_iff.mp ht).1
    obtain ⟨hA, ⟨dep2, hS, hd2⟩, hB⟩ := B.run c' acc hE t htm
    obtain ⟨hw1, hw2⟩ := B.wk t htm
    refine ⟨_, hA _, true, _, Tst.nil, fun _ => ⟨_, Em.clause hn hc.acc (hS _) hd2 ?_ (fun u hu mo => (hB u hu mo).1) (fun u hu mo => (hB u hu mo).2) hw2 (B.sm c'), _, Lo.wk' (wkl_app (.cons (.eq rfl) hw1.1)) (by simp [hw1.2]) (by simp), ?_⟩, fun h => by cases h⟩
    · have h1 := flat2_len (g := g) hz2 i
      have h2 := hz2 t htm
      omega
    · rw [flat2_step ht]
  · subst e; rw [List.take_length]; exact ⟨_, _, rfl⟩
end
end Mine
namespace Mine
local macro_rules | `(tactic| walk_at "mem") => `(tactic| (show List.Mem _ _; (repeat (first | with_reducible exact List.Mem.head _ | apply List.Mem.tail)); done))
local macro_rules | `(tactic| walk_at "put") => `(tactic| ((repeat (first | with_reducible exact PutL.here | apply PutL.there)); done))
local macro_rules | `(tactic| walk_at "putn") => `(tactic| ((repeat (first | with_reducible exact PutN.here | apply PutN.there)); done))
local macro_rules | `(tactic| walk_at "op") => `(tactic| (first
  | (with_reducible first | exact OpX.addI | exact OpX.subI | exact OpX.andI | exact OpX.orI | exact OpX.xorI | exact OpX.iaddI | exact OpX.isubI | exact OpX.iorI)
  | (with_reducible refine OpX.mulI ?_; first | exact .inl (by decide) | exact .inr (by decide) | omega)
  | (with_reducible first | refine OpX.modI ?_ | refine OpX.divI ?_ ?_ | refine OpX.idivI ?_ ?_ | refine OpX.shrI ?_ | refine OpX.shlI ?_ ?_ ?_ | refine OpX.ishlI ?_ ?_ ?_) <;> first | decide | omega))
local macro_rules | `(tactic| walk_at "cmp") => `(tactic| with_reducible first | exact OpB.ltI | exact OpB.gtI | exact OpB.leI | exact OpB.geI | exact OpB.eqI | exact OpB.neI)
local macro_rules | `(tactic| walk_at "ev") => `(tactic| first
  | exact Ev.int | exact Ev.str | exact Ev.bool | exact Ev.none
  | (show EvX _ _ (Expr.Name _ _) _ _ _; first | exact EvX.loc (by walk_at "mem") rfl (by walk_at "mem") | exact EvX.cel (by walk_at "mem") rfl)
  | (show EvX _ _ (Expr.BinOp _ _ _ _) _ _ _; exact EvX.bin (by walk_at "ev") (by walk_at "ev") (by walk_at "op"))
  | (show EvX _ _ (Expr.UnaryOp _ _ _) _ _ _; exact Ev.neg (by walk_at "ev"))
  | (show EvX _ _ (Expr.Tuple _ _ _) _ _ _; exact Ev.tup (by walk_at "ts")))
local macro_rules | `(tactic| walk_at "es") => `(tactic| first
  | exact EvS.nil
  | (show EvS _ _ (_ :: _) _ _ _; exact EvS.cons (by walk_at "ev") (by walk_at "es")))
local macro_rules | `(tactic| walk_at "ts") => `(tactic| first
  | exact EvTs.nil
  | (show EvTs _ _ (_ :: _) _ _ _; exact EvTs.cons (by walk_at "ev") (by walk_at "ts")))
local macro_rules | `(tactic| walk_at "eb") => `(tactic| first | (show EvB _ _ (Expr.Compare _ _ _ _) _ _ _; exact EvB.cmp (by walk_at "ev") (by walk_at "ev") (by walk_at "cmp")) | exact EvB.plain (by walk_at "ev") Tru.int)
local macro_rules | `(tactic| walk_at "as") => `(tactic| first
  | (show AsV _ _ (Expr.Name _ _) _ _ _; first | exact AsV.name (StN.loc (by walk_at "mem") (by walk_at "put") (by walk_at "putn")) | exact AsV.name (StN.cel (by walk_at "mem") (by walk_at "put")))
  | (show AsV _ _ (Expr.Tuple _ _ _) _ _ _; exact AsV.tup2 (by walk_at "as") (by walk_at "as")))
local macro_rules | `(tactic| walk_at "st") => `(tactic| first
  | exact StN.loc (by walk_at "mem") (by walk_at "put") (by walk_at "putn")
  | exact StN.cel (by walk_at "mem") (by walk_at "put"))
-- E1
section
section
variable {c : Cx} {d : Sd} {σ σ₁ σ₂ : List MO}
theorem Stp.wk (w : WkL σ σ₁) (hl : σ₁.length = σ.length) : Stp σ σ₁ := fun W V s S =>
  ⟨V, (Ext.refl σ V s).cut (Nat.le_of_eq hl) (Nat.le_of_eq hl.symm), w.st' hl S⟩
theorem OpB.isNoT {ts : List T} : OpB c (compareOp .Is) σ (.tr (.tup ts)) (.tr .none) false := fun V s x y S ⟨a, o, vs, n, e1, _⟩ _ e _ => by
  have e' : y = .none := e
  subst e1; subst e'
  exact is_ref_none (Pt.here S rfl)
theorem teq_nil (l : List T) : teq (.list l) (.list []) = l.isEmpty := by
  cases l <;> rfl
end
end
-- C1
section
noncomputable def defAt (p : Program) (i : Nat) : DefItem := match p.main.body[i]? with
  | some (.FunctionDef n a b _ _ _ sc _ _ pos) => ⟨n, a, b, sc, pos⟩
  | _ => ⟨Str.empty, ⟨[], [], none, [], [], none, []⟩, [], default, default⟩
noncomputable abbrev P2 : Program := PySem.Challenge.pw_xb0016_02

section
variable {W : Wd}
noncomputable def subst (x y : Str) : Int := if x = y then 0 else if Txt.lower x = Txt.lower y then 1 else 2
theorem teq_str (x y : Str) : teq (.str x) (.str y) = decide (x = y) := by
  show PyData.eqv (.str x) (.str y) = _
  rw [Bool.eq_iff_iff]; simp [PyData.eqv]
theorem w2_subst {a : Addr} (hf : IsFn W (defAt P2 12) a) (x y : Str) (hx : PyData.strOk x = true) (hy : PyData.strOk y = true) (hx' : PyData.strOk (Txt.lower x) = true) (hy' : PyData.strOk (Txt.lower y) = true) (hlx : (Txt.lower x).length ≤ 1000000) (hly : (Txt.lower y).length ≤ 1000000)
    {tc tm : Tok} (hc : W.mg "_CASE_COST" = some (.int 1 tc)) (hm : W.mg "_MOVE_COST" = some (.int 2 tm)) :
    Fn W (.ref a) 1 [.tr (.str x), .tr (.str y)] [] (.tr (.int (subst x y))) [] := by
  refine Fn.mk hf ⟨["ch_a", "ch_b"], [true, true], [], []⟩ [("ch_a", .loc), ("ch_b", .loc), ("_CASE_COST", .glb), ("_MOVE_COST", .glb)] rfl (by (intro _ _ _ vs h; first | (match vs, h with | [_], _ => rfl) | (match vs, h with | [_, _], _ => rfl) | (match vs, h with | [_, _, _], _ => rfl))) 0 [.ns [("ch_a", .tr (.str x)), ("ch_b", .tr (.str y))]] rfl rfl (fun c hW hn => ?_) trivial (Nat.le_refl _) (fun _ h => nomatch h)
  subst hW
  refine Ex.cons (Ex1.ite (EvB.cmp (by walk_at "ev") (by walk_at "ev") (OpB.eqT (t := .str x) (u := .str y) hx hy (Nat.zero_le _))) (fun h => ?_) (fun h => ?_))
  · rw [teq_str] at h
    exact Ex.cons (Ex1.ret (by walk_at "ev") ⟨by rw [subst, if_pos (of_decide_eq_true h)], _, rfl⟩)
  · rw [teq_str] at h
    refine Ex.nil (Ex.cons (Ex1.ite (EvB.cmp (EvX.lower (by walk_at "ev") hlx) (EvX.lower (by walk_at "ev") hly) (OpB.eqT (t := .str _) (u := .str _) hx' hy' (Nat.zero_le _))) (fun h' => ?_) (fun h' => ?_)))
    · rw [teq_str] at h'
      exact Ex.cons (Ex1.ret (Ev.globInt (by walk_at "mem") hc) ⟨by rw [subst, if_neg (of_decide_eq_false h), if_pos (of_decide_eq_true h')], _, rfl⟩)
    · rw [teq_str] at h'
      exact Ex.nil (Ex.cons (Ex1.ret (Ev.globInt (by walk_at "mem") hm) ⟨by rw [subst, if_neg (of_decide_eq_false h), if_neg (of_decide_eq_false h')], _, rfl⟩))
end
end
-- C2
section
section
variable {W : Wd}
theorem pick_rev {α : Type} (xs : List α) : pick xs none none (some (-1)) = xs.reverse := by
  unfold pick
  show ((sliceRange ((xs.length : Int) - 1) (-1) (-1)).filterMap (xs[·]?)) = _
  rw [krv_sliceRange]
  apply List.ext_getElem?
  intro i
  rw [List.filterMap_map]
  have h1 : ∀ (l : List Nat) (i : Nat), (∀ k ∈ l, k < xs.length) → (l.filterMap ((xs[·]?) ∘ fun k => xs.length - 1 - k))[i]? = (l[i]?).bind fun k => xs[xs.length - 1 - k]? := by
    intro l
    induction l with
    | nil => intro i _; simp
    | cons a r ih =>
      intro i hl
      have ha := hl a (.head _)
      have e : ((xs[·]?) ∘ fun k => xs.length - 1 - k) a = some (xs[xs.length - 1 - a]'(by omega)) := List.getElem?_eq_getElem (show xs.length - 1 - a < xs.length by omega)
      rw [List.filterMap_cons_some e]
      cases i with
      | zero => simp [List.getElem?_eq_getElem (show xs.length - 1 - a < xs.length by omega)]
      | succ i => simpa using ih i fun k hk => hl k (.tail _ hk)
  rw [h1 _ _ fun k hk => List.mem_range.mp hk]
  by_cases hi : i < xs.length
  · rw [List.getElem?_reverse hi, List.getElem?_range hi]; rfl
  · rw [List.getElem?_eq_none (by simp; omega), List.getElem?_eq_none (by simp; omega)]; rfl
noncomputable def dgs (n : Nat) : List Int := if h : 63 < n then ((n / 64 % 64 + 64 : Nat) : Int) :: dgs (n / 64) else []
termination_by n
noncomputable def octs (n z : Nat) : List Int := List.replicate z 192 ++ (((n % 64 + 128 * (z % 2) : Nat) : Int) :: dgs n).reverse
theorem dgs_len : ∀ (k n : Nat), n < 64 ^ (k + 1) → (dgs n).length ≤ k
  | 0, n, h => by rw [dgs, dif_neg (by have h' : n < 64 := h; omega)]; exact Nat.zero_le _
  | k + 1, n, h => by
    rw [dgs]
    split
    · rw [List.length_cons]
      have := dgs_len k (n / 64) (Nat.div_lt_of_lt_mul (by rw [Nat.pow_succ] at h; rw [Nat.mul_comm]; exact h))
      omega
    · exact Nat.zero_le _
theorem w2_octets {a : Addr} (hf : IsFn W (defAt P2 16) a) (n z : Nat) (hN : n < 2 ^ 60) (hz : z ≤ 3) : Fn W (.ref a) 1 [.tr (.int n), .tr (.int z)] [] (.tr (.list ((octs n z).map T.int))) [] := by
  refine Fn.mk hf ⟨["number", "noughts"], [true, true], [], ["digits"]⟩ [("number", .loc), ("noughts", .loc), ("digits", .loc)] rfl (by (intro _ _ _ vs h; first | (match vs, h with | [_], _ => rfl) | (match vs, h with | [_, _], _ => rfl) | (match vs, h with | [_, _, _], _ => rfl))) 0 [.ns [("number", .tr (.int n)), ("noughts", .tr (.int z)), ("digits", .any)]] rfl rfl (fun c hW hn => ?_) trivial (Nat.le_refl _) (fun _ h => nomatch h)
  subst hW
  refine Ex.cons (Ex1.asg (EvX.newList (n := 1) (by walk_at "ts") (hn := rfl) (hp := by (repeat (first | with_reducible exact PushL.nil | apply PushL.cons)))) (by walk_at "as") ?_)
  have e0 : (n : Int).fmod 64 + 128 * (z : Int).fmod 2 = ((n % 64 + 128 * (z % 2) : Nat) : Int) := by
    rw [Int.fmod_eq_emod_of_nonneg _ (by omega), Int.fmod_eq_emod_of_nonneg _ (by omega)]; omega
  rw [e0]
  refine Ex.cons (Ex1.whl (fun m σ => ∃ acc : List Int, acc ++ dgs m = dgs n ∧ m ≤ n ∧ σ = [.ns [("number", .tr (.int m)), ("noughts", .tr (.int z)), ("digits", .mt 1)], .list ((((n % 64 + 128 * (z % 2) : Nat) : Int) :: acc).map T.int)]) n ⟨[], rfl, Nat.le_refl _, rfl⟩ (fun m σ' ⟨acc, hacc, hm, hσ⟩ => ?_))
  subst hσ
  refine ⟨_, _, by walk_at "eb", fun h => ?_, fun h => ?_⟩
  · have hlt : 63 < m := by have := of_decide_eq_true h; omega
    refine Ex.cons (Ex1.aug (by first | exact LdN.loc (by walk_at "mem") rfl (by walk_at "mem") | exact LdN.cel (by walk_at "mem") rfl) (by walk_at "ev") (by walk_at "op") (by walk_at "st") ?_)
    refine Ex.cons (Ex1.expr (EvX.append (by walk_at "ev") ⟨_, rfl⟩ (by walk_at "ev") (by walk_at "put") (by rw [List.length_map, List.length_cons]; have h1 := congrArg List.length hacc; rw [List.length_append] at h1; have := dgs_len 9 n hN; omega)) ?_)
    refine Ex.nil ⟨_, Lo.refl (Nat.le_refl _), m / 64, by omega, acc ++ [((m / 64 % 64 + 64 : Nat) : Int)], ?_, by omega, ?_⟩
    · rw [List.append_assoc, ← hacc]
      congr 1
      conv => rhs; rw [dgs]
      rw [dif_pos hlt]; rfl
    · have e1 : (m : Int).fdiv 64 = ((m / 64 : Nat) : Int) := fdiv_nat m 64
      have e2 : ((m / 64 : Nat) : Int).fmod 64 + 64 = ((m / 64 % 64 + 64 : Nat) : Int) := by rw [show ((m / 64 : Nat) : Int).fmod 64 = ((m / 64 % 64 : Nat) : Int) from fmod_nat (m / 64) 64]; rfl
      rw [e1, e2]
      simp
  · have hle : ¬ 63 < m := by have := of_decide_eq_false h; omega
    have hd : dgs m = [] := by rw [dgs, dif_neg hle]
    rw [hd, List.append_nil] at hacc
    subst hacc
    show Ex _ _ _ _ _
    have hlen := dgs_len 9 n hN
    refine Ex.stp (Stp.frozen (k := 1) (by walk_at "put") rfl (by (repeat' first | exact FzL.nil | exact FzN.nil | apply FzL.cons | apply FzN.cons | with_reducible exact FzX.mt | exact FzX.eq rfl | apply FzM.ns | apply FzM.cell | exact FzM.eq rfl))) ?_
    refine Ex.cons (Ex1.ret (EvX.bin (EvX.bin (Ev.list (by walk_at "ts")) (by walk_at "ev") (OpX.mulL (by omega) ?_ (by omega))) (Ev.slListStep (by walk_at "ev") EvP.no EvP.no (by walk_at "ev") (by decide) ?_) (OpX.addL ?_)) ?_)
    · show 1 * (z : Int).toNat ≤ _; omega
    · rw [List.length_map, List.length_cons]; omega
    · rw [pick_rev]; simp; omega
    · refine ⟨?_, _, rfl⟩
      rw [pick_rev, octs]
      simp [List.map_reverse]
end
end
-- C3
section
section
variable {W : Wd}
theorem and64 : ∀ d : Fin 256, Builtin.bitAnd (d.val : Int) 64 = if d.val / 64 % 2 = 1 then 64 else 0 := by decide +kernel
theorem or_low (v : Nat) (x : Nat) (hx : x < 64) : Builtin.bitOr ((v : Int) * 2 ^ (6 : Int).toNat) (x : Int) = ((v * 64 + x : Nat) : Int) := by
  have e : (v * 64) &&& x = 0 := by
    apply Nat.eq_of_testBit_eq
    intro j
    rw [Nat.testBit_and, show (64 : Nat) = 2 ^ 6 from rfl, Nat.testBit_mul_two_pow, Nat.zero_testBit]
    by_cases h : 6 ≤ j
    · have : x.testBit j = false := Nat.testBit_lt_two_pow (Nat.lt_of_lt_of_le hx (by rw [show (64 : Nat) = 2 ^ 6 from rfl]; exact Nat.pow_le_pow_right (by decide) h))
      simp [this]
    · simp [h]
  rw [bitOr_and]
  have e2 : Builtin.bitAnd ((v : Int) * 2 ^ (6 : Int).toNat) (x : Int) = 0 := by
    have h1 : ((v : Int) * 2 ^ (6 : Int).toNat) = ((v * 64 : Nat) : Int) := by rw [show (6 : Int).toNat = 6 from rfl]; omega
    rw [h1]
    unfold Builtin.bitAnd
    rw [decide_eq_true (by omega : (0 : Int) ≤ ((v * 64 : Nat) : Int)), decide_eq_true (by omega : (0 : Int) ≤ (x : Int))]
    show (((v * 64 : Nat) : Int).toNat &&& (x : Int).toNat : Nat) = (0 : Int)
    rw [Int.toNat_natCast, Int.toNat_natCast, e]; rfl
  rw [e2, show (6 : Int).toNat = 6 from rfl]
  omega
noncomputable def vOk : List UInt8 → Bool
  | [] => false
  | [u] => u.toNat / 64 % 2 == 0
  | u :: r => u.toNat / 64 % 2 == 1 && vOk r
noncomputable def vVal : Nat → List UInt8 → Nat
  | v, [] => v
  | v, u :: r => vVal (v * 64 + u.toNat % 64) r
theorem w2_varint {a : Addr} (hf : IsFn W (defAt P2 7) a) (hnx : W.mg "next" = none) (b : List UInt8) (i : Nat) (os : List UInt8) (hos : vOk os = true) (hb : ∃ r, b.drop i = os ++ r) (hval : vVal 0 os < 2 ^ 60) :
    Fn W (.ref a) 1 [.mt 0] [.bit b i] (.tr (.int (vVal 0 os))) [.bit b (i + os.length)] := by
  refine Fn.mk hf ⟨["iterator"], [true], [], ["b", "val"]⟩ [("iterator", .loc), ("b", .loc), ("val", .loc), ("next", .glb)] rfl (by (intro _ _ _ vs h; first | (match vs, h with | [_], _ => rfl) | (match vs, h with | [_, _], _ => rfl) | (match vs, h with | [_, _, _], _ => rfl))) 1 [.bit b i, .ns [("iterator", .mt 0), ("b", .any), ("val", .any)]] rfl rfl (fun c hW hn => ?_) trivial (Nat.le_refl _) (fun mo h => by rw [List.mem_singleton.mp h]; trivial)
  subst hW
  obtain ⟨r, hr⟩ := hb
  have geti : ∀ j u, os[j]? = some u → b[i + j]? = some u := fun j u h => by
    have : (b.drop i)[j]? = some u := by rw [hr, List.getElem?_append_left (List.getElem?_eq_some_iff.mp h).1]; exact h
    rw [List.getElem?_drop] at this; exact this
  obtain ⟨u0, rest0, rfl⟩ : ∃ u rest, os = u :: rest := by
    cases os with
    | nil => cases hos
    | cons u rest => exact ⟨u, rest, rfl⟩
  refine Ex.cons (Ex1.asg (EvX.callB (Ev.bt Boot.next (by walk_at "mem") hnx) (by walk_at "es") (CaX.nextBit (by walk_at "put") (by have := geti 0 u0 rfl; simpa using this))) (by walk_at "as") ?_)
  refine Ex.cons (Ex1.asg (by walk_at "ev") (by walk_at "as") ?_)
  rw [bitAnd_m6]
  have low : ∀ u : UInt8, ((u.toNat : Nat) : Int) % 64 = ((u.toNat % 64 : Nat) : Int) := fun u => by omega
  rw [low]
  refine Ex.cons (Ex1.whl (fun m σ => ∃ done u rest, u0 :: rest0 = done ++ u :: rest ∧ m = rest.length ∧ vOk (u :: rest) = true ∧ σ = [.bit b (i + done.length + 1), .ns [("iterator", .mt 0), ("b", .tr (.int u.toNat)), ("val", .tr (.int (vVal 0 (done ++ [u]))))]]) rest0.length ⟨[], u0, rest0, rfl, rfl, hos, by simp [vVal]⟩ (fun m σ' ⟨done, u, rest, hd, hm, hv, hσ⟩ => ?_))
  subst hσ
  have b64 : Builtin.bitAnd (u.toNat : Int) 64 = if u.toNat / 64 % 2 = 1 then 64 else 0 := and64 ⟨u.toNat, u.toNat_lt⟩
  have snoc : ∀ (l : List UInt8) (v : Nat) (x : UInt8), vVal v (l ++ [x]) = vVal v l * 64 + x.toNat % 64 := by
    intro l
    induction l with
    | nil => intro v x; rfl
    | cons y l ih => intro v x; exact ih _ x
  have mono : ∀ (l : List UInt8) (v : Nat), v ≤ vVal v l := by
    intro l
    induction l with
    | nil => intro v; exact Nat.le_refl _
    | cons y l ih => intro v; have := ih (v * 64 + y.toNat % 64); show v ≤ vVal (v * 64 + y.toNat % 64) l; omega
  have app : ∀ (l l' : List UInt8) (v : Nat), vVal v (l ++ l') = vVal (vVal v l) l' := by
    intro l
    induction l with
    | nil => intro l' v; rfl
    | cons y l ih => intro l' v; exact ih l' _
  have small : vVal 0 (done ++ [u]) < 2 ^ 60 := by
    have e : u0 :: rest0 = (done ++ [u]) ++ rest := by rw [hd]; simp
    rw [e, app] at hval
    exact Nat.lt_of_le_of_lt (mono _ _) hval
  refine ⟨_, _, by walk_at "eb", fun h => ?_, fun h => ?_⟩
  · rw [b64] at h
    obtain ⟨u', rest', rfl⟩ : ∃ u' rest', rest = u' :: rest' := by
      cases rest with
      | nil =>
        have h1 : u.toNat / 64 % 2 = 0 := by simpa [vOk] using hv
        rw [if_neg (by omega)] at h; cases h
      | cons a r => exact ⟨a, r, rfl⟩
    have hv' : vOk (u' :: rest') = true := by
      have : (u.toNat / 64 % 2 == 1 && vOk (u' :: rest')) = true := hv
      rw [Bool.and_eq_true] at this; exact this.2
    refine Ex.cons (Ex1.aug (by first | exact LdN.loc (by walk_at "mem") rfl (by walk_at "mem") | exact LdN.cel (by walk_at "mem") rfl) (by walk_at "ev") (OpX.ishlI (by decide) (by decide) (by have : (vVal 0 (done ++ [u]) : Int).natAbs = vVal 0 (done ++ [u]) := rfl; omega)) (by walk_at "st") ?_)
    refine Ex.cons (Ex1.asg (EvX.callB (Ev.bt Boot.next (by walk_at "mem") hnx) (by walk_at "es") (CaX.nextBit (u := u') (by walk_at "put") ?_)) (by walk_at "as") ?_)
    · have := geti (done.length + 1) u' (by rw [hd, List.getElem?_append_right (by omega), show done.length + 1 - done.length = 1 by omega]; rfl)
      rw [← Nat.add_assoc] at this; exact this
    refine Ex.cons (Ex1.aug (by first | exact LdN.loc (by walk_at "mem") rfl (by walk_at "mem") | exact LdN.cel (by walk_at "mem") rfl) (by walk_at "ev") (by walk_at "op") (by walk_at "st") ?_)
    refine Ex.nil ⟨_, Lo.refl (Nat.le_refl _), rest'.length, by rw [hm]; simp, done ++ [u], u', rest', by rw [hd]; simp, rfl, hv', ?_⟩
    rw [bitAnd_m6, low, or_low _ _ (Nat.mod_lt _ (by decide)), snoc (done ++ [u])]
    simp [Nat.add_assoc]
  · rw [b64] at h
    have h1 : u.toNat / 64 % 2 ≠ 1 := fun e => by rw [if_pos e] at h; cases h
    have hr : rest = [] := by
      cases rest with
      | nil => rfl
      | cons a r =>
        have : (u.toNat / 64 % 2 == 1 && vOk (a :: r)) = true := hv
        rw [Bool.and_eq_true] at this
        exact absurd (beq_iff_eq.mp this.1) h1
    subst hr
    show Ex _ _ _ _ _
    have e : i + (u0 :: rest0).length = i + done.length + 1 := by rw [hd, List.length_append]; rfl
    exact Ex.cons (Ex1.ret (by walk_at "ev") ⟨by rw [hd], _, by rw [e]; rfl⟩)
end
end
-- C4
section
section
variable {W : Wd}
noncomputable abbrev dI (kvs : List (Str × Int)) : T := .dict (kvs.map fun p => (p.1, T.int p.2))
theorem sum_take {l : List Int} {i : Nat} {v : Int} (h : l[i]? = some v) : (l.take (i + 1)).sum = (l.take i).sum + v := by
  rw [List.take_add_one, h]; simp
theorem w2_count {a : Addr} (hf : IsFn W (defAt P2 3) a) (kvs : List (Str × Int)) : Fn W (.ref a) 1 [.tr (dI kvs)] [] (.tr (.int (kvs.map (·.2)).sum)) [] := by
  refine Fn.mk hf ⟨["callers"], [true], [], ["nc", "calls"]⟩ [("callers", .loc), ("nc", .loc), ("calls", .loc)] rfl (by (intro _ _ _ vs h; first | (match vs, h with | [_], _ => rfl) | (match vs, h with | [_, _], _ => rfl) | (match vs, h with | [_, _, _], _ => rfl))) 0 [.ns [("callers", .tr (dI kvs)), ("nc", .any), ("calls", .any)]] rfl rfl (fun c hW hn => ?_) trivial (Nat.le_refl _) (fun _ h => nomatch h)
  subst hW
  refine Ex.cons (Ex1.asg (by walk_at "ev") (by walk_at "as") ?_)
  refine Ex.cons (Ex1.for (Src.values (by walk_at "ev")) (fun i σ => ∃ x, σ = [.ns [("callers", .tr (dI kvs)), ("nc", .tr (.int ((kvs.map (·.2)).take i).sum)), ("calls", x)]]) ⟨_, rfl⟩ (fun _ _ _ => trivial) (fun i t σ ht hJ => ?_) (fun σ hJ => ?_))
  · obtain ⟨x, rfl⟩ := hJ
    rw [List.map_map] at ht
    have : ∃ v, t = .int v ∧ (kvs.map (·.2))[i]? = some v := by
      rw [List.getElem?_map] at ht ⊢
      cases h : kvs[i]? with
      | none => rw [h] at ht; cases ht
      | some p => rw [h] at ht; cases ht; exact ⟨p.2, rfl, rfl⟩
    obtain ⟨v, rfl, hv⟩ := this
    refine ⟨_, by walk_at "as", ?_⟩
    refine Ex.cons (Ex1.aug (by first | exact LdN.loc (by walk_at "mem") rfl (by walk_at "mem") | exact LdN.cel (by walk_at "mem") rfl) (by walk_at "ev") (by walk_at "op") (by walk_at "st") ?_)
    exact Ex.nil ⟨_, Lo.refl (Nat.le_refl _), _, by rw [sum_take hv]⟩
  · obtain ⟨x, rfl⟩ := hJ
    refine Ex.nil (Ex.cons (Ex1.ret (by walk_at "ev") ⟨?_, _, rfl⟩))
    rw [List.length_map, List.length_map, show kvs.length = (kvs.map (·.2)).length by simp, List.take_length]

noncomputable def setI (kvs : List (Str × Int)) (k : Str) (v : Int) : List (Str × Int) :=
  if kvs.any (fun kv => decide (kv.1 = k)) then kvs.map (fun kv => if kv.1 = k then (kv.1, v) else kv) else kvs ++ [(k, v)]
noncomputable def getI (kvs : List (Str × Int)) (k : Str) : Option Int := (kvs.find? fun kv => decide (kv.1 = k)).map (·.2)
noncomputable def mapI (kvs : List (Str × Int)) : List (Str × T) := kvs.map fun p => (p.1, T.int p.2)
theorem setKv_int (kvs : List (Str × Int)) (k : Str) (v : Int) : setKv (mapI kvs) k (.int v) = mapI (setI kvs k v) := by
  unfold setKv setI mapI
  rw [List.any_map]
  have e : ((fun kv : Str × T => decide (kv.1 = k)) ∘ fun p : Str × Int => (p.1, T.int p.2)) = fun kv => decide (kv.1 = k) := rfl
  rw [e]
  split
  · rw [List.map_map, List.map_map]
    congr 1
    funext p
    show (if p.1 = k then (p.1, T.int v) else (p.1, T.int p.2)) = _
    simp only [Function.comp]
    split <;> rfl
  · rw [List.map_append]; rfl
theorem kvGet_int (kvs : List (Str × Int)) (k : Str) : kvGet (mapI kvs) k = (getI kvs k).map T.int := by
  unfold kvGet getI mapI
  rw [List.find?_map]
  have e : ((fun kv : Str × T => decide (kv.1 = k)) ∘ fun p : Str × Int => (p.1, T.int p.2)) = fun kv => decide (kv.1 = k) := rfl
  rw [e]
  cases kvs.find? fun kv => decide (kv.1 = k) <;> rfl
theorem setI_length (kvs : List (Str × Int)) (k : Str) (v : Int) : (setI kvs k v).length ≤ kvs.length + 1 := by unfold setI; split <;> simp
noncomputable def addI (t s : List (Str × Int)) : List (Str × Int) := s.foldl (fun acc p => setI acc p.1 ((getI acc p.1).getD 0 + p.2)) (t.foldl (fun acc p => setI acc p.1 p.2) [])
theorem fold_len {α : Type} (g : List (Str × Int) → α → List (Str × Int)) (hg : ∀ acc p, (g acc p).length ≤ acc.length + 1) : ∀ (l : List α) (acc : List (Str × Int)), (l.foldl g acc).length ≤ acc.length + l.length := by
  intro l
  induction l with
  | nil => intro acc; exact Nat.le_refl _
  | cons p r ih => intro acc; have := ih (g acc p); have := hg acc p; rw [List.foldl_cons, List.length_cons]; omega
theorem fold_take {α β : Type} (g : β → α → β) (l : List α) (b : β) (i : Nat) (v : α) (h : l[i]? = some v) : (l.take (i + 1)).foldl g b = g ((l.take i).foldl g b) v := by
  rw [List.take_add_one, h, List.foldl_append]; rfl
theorem w2_add {a : Addr} (hf : IsFn W (defAt P2 2) a) (t s : List (Str × Int)) (ht : t.length + s.length ≤ 1000) (hi : W.mg "isinstance" = none) (htp : W.mg "tuple" = none) :
    Fn W (.ref a) 1 [.tr (dI t), .tr (dI s)] [] (.tr (dI (addI t s))) [] := by
  refine Fn.mk hf ⟨["target", "source"], [true, true], [], ["new_callers", "func", "caller"]⟩ [("target", .loc), ("source", .loc), ("new_callers", .loc), ("func", .loc), ("caller", .loc), ("isinstance", .glb), ("tuple", .glb)] rfl (by (intro _ _ _ vs h; first | (match vs, h with | [_], _ => rfl) | (match vs, h with | [_, _], _ => rfl) | (match vs, h with | [_, _, _], _ => rfl))) 0
    [.ns [("target", .tr (dI t)), ("source", .tr (dI s)), ("new_callers", .any), ("func", .any), ("caller", .any)]] rfl rfl (fun c hW hn => ?_) trivial (Nat.le_refl _) (fun _ h => nomatch h)
  subst hW
  refine Ex.cons (Ex1.asg (EvX.newDict (n := 1) rfl (by (repeat (first | with_reducible exact PushL.nil | apply PushL.cons)))) (by walk_at "as") ?_)
  have item : ∀ (l : List (Str × Int)) (i : Nat) (u : T), (itemsT (l.map fun p => (p.1, T.int p.2)))[i]? = some u → ∃ p, l[i]? = some p ∧ u = .tup [.str p.1, .int p.2] := fun l i u h => by
    rw [itemsT, List.map_map, List.getElem?_map] at h
    cases hl : l[i]? with
    | none => rw [hl] at h; cases h
    | some p => rw [hl] at h; exact ⟨p, rfl, (Option.some.inj h).symm⟩
  refine Ex.cons (Ex1.for (Src.items (by walk_at "ev")) (fun i σ => ∃ x y, σ = [.ns [("target", .tr (dI t)), ("source", .tr (dI s)), ("new_callers", .mt 1), ("func", x), ("caller", y)], .dict (mapI ((t.take i).foldl (fun acc p => setI acc p.1 p.2) []))]) ⟨_, _, rfl⟩ (fun _ _ _ => trivial) (fun i u σ hu hJ => ?_) (fun σ hJ => ?_))
  · obtain ⟨x, y, rfl⟩ := hJ
    obtain ⟨p, hp, rfl⟩ := item t i u hu
    refine ⟨_, by walk_at "as", ?_⟩
    have hl : (mapI ((t.take i).foldl (fun acc p => setI acc p.1 p.2) [])).length ≤ 1000000 := by
      have h1 := fold_len (fun acc (p : Str × Int) => setI acc p.1 p.2) (fun acc p => setI_length _ _ _) (t.take i) []
      rw [List.length_take] at h1
      rw [mapI, List.length_map]; simp only [List.length_nil] at h1; omega
    refine Ex.cons (Ex1.asg (by walk_at "ev") (AsV.sub (by walk_at "ev") (by walk_at "ev") (SetX.dict (by walk_at "put") hl)) ?_)
    rw [setKv_int, ← fold_take (fun acc (p : Str × Int) => setI acc p.1 p.2) t [] i p hp]
    exact Ex.nil ⟨_, Lo.refl (Nat.le_refl _), _, _, rfl⟩
  · obtain ⟨x, y, rfl⟩ := hJ
    have e0 : (itemsT (t.map fun p => (p.1, T.int p.2))).length = t.length := by simp [itemsT]
    rw [e0, List.take_length]
    refine Ex.nil (Ex.cons (Ex1.for (Src.items (by walk_at "ev")) (fun i σ => ∃ x y, σ = [.ns [("target", .tr (dI t)), ("source", .tr (dI s)), ("new_callers", .mt 1), ("func", x), ("caller", y)], .dict (mapI ((s.take i).foldl (fun acc p => setI acc p.1 ((getI acc p.1).getD 0 + p.2)) (t.foldl (fun acc p => setI acc p.1 p.2) [])))]) ⟨_, _, rfl⟩ (fun _ _ _ => trivial) (fun i u σ hu hJ => ?_) (fun σ hJ => ?_)))
    · obtain ⟨x, y, rfl⟩ := hJ
      obtain ⟨p, hp, rfl⟩ := item s i u hu
      refine ⟨_, by walk_at "as", ?_⟩
      have hl : (mapI ((s.take i).foldl (fun acc p => setI acc p.1 ((getI acc p.1).getD 0 + p.2)) (t.foldl (fun acc p => setI acc p.1 p.2) []))).length ≤ 1000000 := by
        have h1 := fold_len (fun acc (p : Str × Int) => setI acc p.1 p.2) (fun acc p => setI_length _ _ _) t []
        have h2 := fold_len (fun acc (p : Str × Int) => setI acc p.1 ((getI acc p.1).getD 0 + p.2)) (fun acc p => setI_length _ _ _) (s.take i) (t.foldl (fun acc p => setI acc p.1 p.2) [])
        rw [List.length_take] at h2
        rw [mapI, List.length_map]; simp only [List.length_nil] at h1; omega
      have hft := fold_take (fun acc (p : Str × Int) => setI acc p.1 ((getI acc p.1).getD 0 + p.2)) s (t.foldl (fun acc p => setI acc p.1 p.2) []) i p hp
      generalize (s.take i).foldl (fun acc p => setI acc p.1 ((getI acc p.1).getD 0 + p.2)) (t.foldl (fun acc p => setI acc p.1 p.2) []) = acc at hl hft ⊢
      refine Ex.cons (Ex1.ite (EvB.cmp (by walk_at "ev") (by walk_at "ev") (OpB.inD rfl)) (fun h => ?_) (fun h => ?_))
      · rw [kvGet_int] at h
        obtain ⟨v, hv⟩ : ∃ v, getI acc p.1 = some v := by
          cases hg : getI acc p.1 with
          | none => rw [hg] at h; cases h
          | some v => exact ⟨v, rfl⟩
        refine Ex.cons (Ex1.ite (EvB.plain (EvX.callB (Ev.bt Boot.isinstance (by walk_at "mem") hi) (EvS.cons (by walk_at "ev") (EvS.cons (Ev.bt Boot.tuple (by walk_at "mem") htp) EvS.nil)) CaX.isIntTup) Tru.bool) (fun h => (by cases h)) (fun _ => ?_))
        refine Ex.cons (Ex1.augSub (by walk_at "ev") (by walk_at "ev") (GetX.mdict (t := .int v) rfl (by rw [kvGet_int, hv]; rfl)) (by walk_at "ev") OpX.iaddI (SetX.dict (by walk_at "put") hl) ?_)
        rw [hv] at hft
        rw [setKv_int, show v + p.2 = (some v).getD 0 + p.2 from rfl, ← hft]
        exact Ex.nil (Ex.nil (Ex.nil ⟨_, Lo.refl (Nat.le_refl _), _, _, rfl⟩))
      · rw [kvGet_int] at h
        have hv : getI acc p.1 = none := by
          cases hg : getI acc p.1 with
          | none => rfl
          | some v => rw [hg] at h; cases h
        refine Ex.cons (Ex1.asg (by walk_at "ev") (AsV.sub (by walk_at "ev") (by walk_at "ev") (SetX.dict (by walk_at "put") hl)) ?_)
        have e9 : setI acc p.1 ((none : Option Int).getD 0 + p.2) = setI acc p.1 p.2 := by simp
        rw [hv, e9] at hft
        rw [setKv_int, ← hft]
        exact Ex.nil (Ex.nil ⟨_, Lo.refl (Nat.le_refl _), _, _, rfl⟩)
    · obtain ⟨x, y, rfl⟩ := hJ
      have e1 : (itemsT (s.map fun p => (p.1, T.int p.2))).length = s.length := by simp [itemsT]
      rw [e1, List.take_length]
      refine Ex.nil (Ex.stp (Stp.frozen (k := 1) (by walk_at "put") rfl (by (repeat' first | exact FzL.nil | exact FzN.nil | apply FzL.cons | apply FzN.cons | with_reducible exact FzX.mt | exact FzX.eq rfl | apply FzM.ns | apply FzM.cell | exact FzM.eq rfl))) ?_)
      refine Ex.cons (Ex1.ret (by walk_at "ev") ?_)
      exact ⟨rfl, _, rfl⟩
end
end
-- C5
section
section
variable {W : Wd}
noncomputable def stepN (m : Nat) (acc : List Int) (p : Nat × Int) : List Int := acc.set (p.1 % m) (acc.getD (p.1 % m) 0 + p.2.fmod 1000000)
noncomputable def numsN (m : Nat) (base : List Int) (xs : List Int) : List Int := (xs.mapIdx fun i x => (i, x)).foldl (stepN m) base
theorem stepN_length (m : Nat) (acc : List Int) (p : Nat × Int) : (stepN m acc p).length = acc.length := by simp [stepN]
theorem foldN_length (m : Nat) : ∀ (l : List (Nat × Int)) (acc : List Int), (l.foldl (stepN m) acc).length = acc.length
  | [], _ => rfl
  | p :: l, acc => by rw [List.foldl_cons, foldN_length m l, stepN_length]
theorem foldN_bound (m : Nat) : ∀ (l : List (Nat × Int)) (acc : List Int) (j : Nat), acc.getD j 0 ≤ (l.foldl (stepN m) acc).getD j 0 ∧ (l.foldl (stepN m) acc).getD j 0 ≤ acc.getD j 0 + 1000000 * l.length
  | [], _, _ => by simp
  | p :: l, acc, j => by
    have ih := foldN_bound m l (stepN m acc p) j
    rw [List.foldl_cons, List.length_cons]
    have h1 : acc.getD j 0 ≤ (stepN m acc p).getD j 0 ∧ (stepN m acc p).getD j 0 ≤ acc.getD j 0 + 1000000 := by
      have a1 := Int.fmod_nonneg_of_pos p.2 (b := 1000000) (by decide)
      have a2 := Int.fmod_lt_of_pos p.2 (b := 1000000) (by decide)
      unfold stepN
      simp only [List.getD_eq_getElem?_getD]
      by_cases h : p.1 % m = j
      · by_cases hl : p.1 % m < acc.length
        · subst h; rw [List.getElem?_set_self hl]; simp only [Option.getD_some]; omega
        · rw [List.set_eq_of_length_le (by omega)]; omega
      · rw [List.getElem?_set_ne h]; omega
    push_cast
    omega
theorem w2_numbers {a : Addr} (hf : IsFn W (defAt P2 15) a) (script : List Int) (hs : script.length ≤ 63) (he : W.mg "enumerate" = none) :
    Fn W (.ref a) 1 [.tr (.list (script.map T.int))] [] (.tr (.list ((numsN 5 [934, 50, 24871, 16, 4703] (pick script none (some 60) none)).map T.int))) [] := by
  refine Fn.mk hf ⟨["script"], [true], [], ["numbers", "place", "x"]⟩ [("script", .loc), ("numbers", .loc), ("place", .loc), ("x", .loc), ("enumerate", .glb)] rfl (by (intro _ _ _ vs h; first | (match vs, h with | [_], _ => rfl) | (match vs, h with | [_, _], _ => rfl) | (match vs, h with | [_, _, _], _ => rfl))) 0 [.ns [("script", .tr (.list (script.map T.int))), ("numbers", .any), ("place", .any), ("x", .any)]] rfl rfl (fun c hW hn => ?_) trivial (Nat.le_refl _) (fun _ h => nomatch h)
  subst hW
  refine Ex.cons (Ex1.asg (EvX.newList (n := 1) (by walk_at "ts") (hn := rfl) (hp := by (repeat (first | with_reducible exact PushL.nil | apply PushL.cons)))) (by walk_at "as") ?_)
  refine Ex.cons (Ex1.for (us := enumT (pick (script.map T.int) none (some 60) none)) (Src.enumL (Ev.bt Boot.enumerate (by walk_at "mem") he) (EvS.cons (Ev.slList (by walk_at "ev") EvP.no (EvP.int (by walk_at "ev")) (by rw [List.length_map]; omega)) EvS.nil))
    (fun i σ => ∃ x y, σ = [.ns [("script", .tr (.list (script.map T.int))), ("numbers", .mt 1), ("place", x), ("x", y)], .list ((((((pick script none (some 60) none).mapIdx fun i x => (i, x)).take i).foldl (stepN 5) [934, 50, 24871, 16, 4703])).map T.int)]) ⟨_, _, rfl⟩ (fun _ _ _ => trivial) (fun i t σ ht hJ => ?_) (fun σ hJ => ?_))
  · obtain ⟨x, y, rfl⟩ := hJ
    rw [pick_map, enumT_get, List.getElem?_map] at ht
    obtain ⟨v, hv, rfl⟩ : ∃ v, (pick script none (some 60) none)[i]? = some v ∧ t = .tup [.int i, .int v] := by
      cases h : (pick script none (some 60) none)[i]? with
      | none => rw [h] at ht; cases ht
      | some v => rw [h] at ht; exact ⟨v, rfl, (Option.some.inj ht).symm⟩
    have hft := fold_take (stepN 5) ((pick script none (some 60) none).mapIdx fun i x => (i, x)) [934, 50, 24871, 16, 4703] i (i, v) (by rw [List.getElem?_mapIdx, hv]; rfl)
    have hl := foldN_length 5 (((pick script none (some 60) none).mapIdx fun i x => (i, x)).take i) [934, 50, 24871, 16, 4703]
    generalize (((pick script none (some 60) none).mapIdx fun i x => (i, x)).take i).foldl (stepN 5) [934, 50, 24871, 16, 4703] = acc at hft hl ⊢
    have hl5 : acc.length = 5 := hl
    have hm : i % 5 < 5 := Nat.mod_lt _ (by decide)
    have e1 : (i : Int).fmod 5 = ((i % 5 : Nat) : Int) := fmod_nat i 5
    refine ⟨_, by walk_at "as", ?_⟩
    refine Ex.cons (Ex1.augSub (u := .tr (.int (acc.getD (i % 5) 0))) (by walk_at "ev") (by walk_at "ev") (GetX.mlist rfl ?_ ?_ ?_ ?_) (by walk_at "ev") OpX.iaddI (SetX.list ?_ ?_ ?_ (by walk_at "put")) ?_)
    · rw [e1]; omega
    · rw [e1, List.length_map]; omega
    · rw [List.length_map]; omega
    · rw [e1, ixOf, if_neg (by omega), List.getElem?_map, Int.toNat_natCast, List.getD_eq_getElem?_getD]
      rw [List.getElem?_eq_getElem (show i % 5 < acc.length by omega)]; rfl
    · rw [e1]; omega
    · rw [e1, List.length_map]; omega
    · rw [List.length_map]; omega
    · have e2 : (acc.map T.int).set ((i : Int).fmod 5).toNat (.int (acc.getD (i % 5) 0 + v.fmod 1000000)) = (stepN 5 acc (i, v)).map T.int := by
        rw [e1, Int.toNat_natCast, stepN, List.map_set]
      rw [e2, ← hft]
      exact Ex.nil ⟨_, Lo.refl (Nat.le_refl _), _, _, rfl⟩
  · obtain ⟨x, y, rfl⟩ := hJ
    rw [enumT_length, pick_map, List.length_map, show (pick script none (some 60) none).length = ((pick script none (some 60) none).mapIdx fun i x => (i, x)).length by simp, List.take_length]
    refine Ex.nil (Ex.stp (Stp.frozen (k := 1) (by walk_at "put") rfl (by (repeat' first | exact FzL.nil | exact FzN.nil | apply FzL.cons | apply FzN.cons | with_reducible exact FzX.mt | exact FzX.eq rfl | apply FzM.ns | apply FzM.cell | exact FzM.eq rfl))) ?_)
    refine Ex.cons (Ex1.ret (by walk_at "ev") ?_)
    exact ⟨rfl, _, rfl⟩

noncomputable def sideP (i j : Nat) (x : Int) : Bool := Builtin.bitAnd (x.fdiv (2 ^ i)) 1 != 0 && (!(Builtin.bitAnd (x.fdiv (2 ^ j)) 1 != 0) && true)
noncomputable def sidesL (i j : Nat) : List Int := (rng 0 32).filter (sideP i j)
noncomputable def onI {α : Type} (g : Int → α) (z : α) : T → α
  | .int x => g x
  | _ => z
theorem w2_sides {a : Addr} (hf : IsFn W (defAt P2 20) a) (i j : Nat) (hr : W.mg "range" = none) : Fn W (.ref a) 1 [.tr (.int i), .tr (.int j)] [] (.tr (.list ((sidesL i j).map T.int))) [] := by
  refine Fn.mk hf ⟨["i", "j"], [false, false], [some 0, some 1], []⟩ [("i", .cel 1), ("j", .cel 2), ("range", .glb)] rfl (by (intro _ _ _ vs h; first | (match vs, h with | [_], _ => rfl) | (match vs, h with | [_, _], _ => rfl) | (match vs, h with | [_, _, _], _ => rfl))) 0 [.ns [], .cell (.tr (.int i)), .cell (.tr (.int j))] rfl rfl (fun c hW hn => ?_) trivial (Nat.le_refl _) (fun _ h => nomatch h)
  subst hW
  refine Ex.cons (Ex1.ret (EvX.lcB 3 0 ["some"] [("some", .loc), ("i", .cel 1), ("j", .cel 2)] (onI (sideP i j) false) (fun t => t) (fun t => [.ns [("some", .tr t)]])
    (us := (rng 0 32).map T.int) (Src.range1 (Ev.bt Boot.range (by walk_at "mem") hr) (by walk_at "es") (by decide)) rfl (fun _ => trivial) (by decide +kernel) ⟨fun c' acc hc t ht mo => ?_, fun t ht => ⟨by (repeat' first | exact WkL.nil | exact WkN.nil | apply WkL.cons | apply WkN.cons | exact WkX.any | exact WkX.eq rfl | exact WkM.eq rfl | apply WkM.ns | apply WkM.cell | exact WkM.dead), rfl⟩⟩) ?_)
  · obtain ⟨x, _, rfl⟩ := List.mem_map.mp ht
    simp only [compFr, List.map, List.replicate, List.cons_append, List.nil_append, id_eq]
    refine ⟨by walk_at "as", Tst.one ?_, fun _ => by walk_at "ev"⟩
    show EvB _ _ _ _ (Builtin.bitAnd (x.fdiv (2 ^ ((i : Nat) : Int).toNat)) 1 != 0 && (!(Builtin.bitAnd (x.fdiv (2 ^ ((j : Nat) : Int).toNat)) 1 != 0) && true)) _
    exact EvB.and (EvB.plain (by walk_at "ev") Tru.int) fun _ => EvB.and (EvB.not (EvB.plain (by walk_at "ev") Tru.int)) fun _ => EvB.and_nil
  · refine ⟨?_, _, rfl⟩
    rw [List.map_id', List.filter_map]
    rfl
end
end
-- C6
section
section
variable {W : Wd}
noncomputable def names2 : List Str := ["OPTIMIZED", "NEWLOCALS", "VARARGS", "VARKEYWORDS", "NESTED", "GENERATOR", "NOFREE", "COROUTINE", "ITERABLE_COROUTINE", "ASYNC_GENERATOR", "0x400", "0x800", "0x1000"]
noncomputable def namesAt (low : Nat) : List Str := pick names2 (some low) (some (low + 5)) none
theorem split2 : Txt.split (Str.ofString "OPTIMIZED NEWLOCALS VARARGS VARKEYWORDS NESTED GENERATOR" ++ Str.ofString " NOFREE COROUTINE ITERABLE_COROUTINE ASYNC_GENERATOR 0x400 0x800 0x1000") (Str.ofString " ") = names2 := by decide +kernel
theorem w2_names {a : Addr} (hf : IsFn W (defAt P2 17) a) (low : Nat) : Fn W (.ref a) 1 [.tr (.int low)] [] (.tr (.list ((namesAt low).map T.str))) [] := by
  refine Fn.mk hf ⟨["low"], [true], [], ["first", "more"]⟩ [("low", .loc), ("first", .loc), ("more", .loc)] rfl (by (intro _ _ _ vs h; first | (match vs, h with | [_], _ => rfl) | (match vs, h with | [_, _], _ => rfl) | (match vs, h with | [_, _, _], _ => rfl))) 0 [.ns [("low", .tr (.int low)), ("first", .any), ("more", .any)]] rfl rfl (fun c hW hn => ?_) trivial (Nat.le_refl _) (fun _ h => nomatch h)
  subst hW
  refine Ex.cons (Ex1.asg (by walk_at "ev") (by walk_at "as") ?_)
  refine Ex.cons (Ex1.asg (by walk_at "ev") (by walk_at "as") ?_)
  refine Ex.cons (Ex1.ret (Ev.slList (EvX.split (EvX.bin (by walk_at "ev") (by walk_at "ev") (OpX.addS (by decide +kernel))) (by walk_at "ev") (by decide +kernel) (by decide +kernel) (by decide +kernel)) (EvP.int (by walk_at "ev")) (EvP.int (by walk_at "ev")) ?_) ?_)
  · rw [split2]; decide
  · refine ⟨?_, _, rfl⟩
    rw [split2, pick_map]; rfl

noncomputable def wordOf (b0 b1 b2 b3 : Nat) (ends : Int) : Str :=
  (if b0 = 0 then (if ends.fmod 2 = 1 then Str.ofString "x" else Str.ofString "") else Str.ofString "a") ++ (if b1 = 0 then Str.ofString "b" else Str.ofString "B") ++ (if b2 = 0 then Str.ofString "c" else Str.ofString "C") ++ (if b3 = 0 then (if 1 < ends then Str.ofString "y" else Str.ofString "") else Str.ofString "d")
theorem w2_word {a : Addr} (hf : IsFn W (defAt P2 21) a) (b0 b1 b2 b3 : Nat) (h0 : b0 < 2) (h1 : b1 < 2) (h2 : b2 < 2) (h3 : b3 < 2) (ends : Int) : Fn W (.ref a) 1 [.tr (.list [.int b0, .int b1, .int b2, .int b3]), .tr (.int ends)] [] (.tr (.str (wordOf b0 b1 b2 b3 ends))) [] := by
  refine Fn.mk hf ⟨["bits", "ends"], [true, true], [], ["first", "last"]⟩ [("bits", .loc), ("ends", .loc), ("first", .loc), ("last", .loc)] rfl (by (intro _ _ _ vs h; first | (match vs, h with | [_], _ => rfl) | (match vs, h with | [_, _], _ => rfl) | (match vs, h with | [_, _, _], _ => rfl))) 0 [.ns [("bits", .tr (.list [.int b0, .int b1, .int b2, .int b3])), ("ends", .tr (.int ends)), ("first", .any), ("last", .any)]] rfl rfl (fun c hW hn => ?_) trivial (Nat.le_refl _) (fun _ h => nomatch h)
  subst hW
  have ixn : ∀ (b n : Nat), ixOf (b : Int) n = b := fun b n => by rw [ixOf, if_neg (by omega)]; rfl
  refine Ex.cons (Ex1.asg (x := .tr (.str (if b0 = 0 then (if ends.fmod 2 = 1 then Str.ofString "x" else Str.ofString "") else Str.ofString "a"))) (EvX.sub (Ev.tup (EvTs.cons (EvX.ite (z := .tr (.str (if ends.fmod 2 = 1 then Str.ofString "x" else Str.ofString ""))) (by walk_at "eb") (fun _ => by walk_at "ev") (fun _ => by walk_at "ev") ?_) (by walk_at "ts"))) (EvX.sub (by walk_at "ev") (by walk_at "ev") (GetX.listC (t := .int b0) rfl)) (GetX.tupN (t := .str _) ?_ (Nat.le_of_ble_eq_true rfl))) (by walk_at "as") ?_)
  · by_cases h : ends.fmod 2 = 1
    · rw [if_pos h, if_pos (by simpa using h)]
    · rw [if_neg h, if_neg (by simpa using h)]
  · have : b0 = 0 ∨ b0 = 1 := by omega
    rcases this with rfl | rfl <;> rfl
  refine Ex.cons (Ex1.asg (x := .tr (.str (if b3 = 0 then (if 1 < ends then Str.ofString "y" else Str.ofString "") else Str.ofString "d"))) (EvX.sub (Ev.tup (EvTs.cons (EvX.ite (z := .tr (.str (if 1 < ends then Str.ofString "y" else Str.ofString ""))) (by walk_at "eb") (fun _ => by walk_at "ev") (fun _ => by walk_at "ev") ?_) (by walk_at "ts"))) (EvX.sub (by walk_at "ev") (by walk_at "ev") (GetX.listC (t := .int b3) rfl)) (GetX.tupN (t := .str _) ?_ (Nat.le_of_ble_eq_true rfl))) (by walk_at "as") ?_)
  · by_cases h : 1 < ends
    · rw [if_pos h, if_pos (by simpa using h)]
    · rw [if_neg h, if_neg (by simpa using h)]
  · have : b3 = 0 ∨ b3 = 1 := by omega
    rcases this with rfl | rfl <;> rfl
  have c1 : ∀ b, b < 2 → (Str.ofString "bB").cps[b]? = some ((if b = 0 then Str.ofString "b" else Str.ofString "B").cps.getD 0 0) := by decide +kernel
  have c2 : ∀ b, b < 2 → (Str.ofString "cC").cps[b]? = some ((if b = 0 then Str.ofString "c" else Str.ofString "C").cps.getD 0 0) := by decide +kernel
  have d1 : ∀ b, b < 2 → (⟨#[(if b = 0 then Str.ofString "b" else Str.ofString "B").cps.getD 0 0]⟩ : Str) = (if b = 0 then Str.ofString "b" else Str.ofString "B") := by decide +kernel
  have d2 : ∀ b, b < 2 → (⟨#[(if b = 0 then Str.ofString "c" else Str.ofString "C").cps.getD 0 0]⟩ : Str) = (if b = 0 then Str.ofString "c" else Str.ofString "C") := by decide +kernel
  have lb : (Str.ofString "bB").length = 2 := by decide +kernel
  have lc : (Str.ofString "cC").length = 2 := by decide +kernel
  have la : ∀ x y : Str, (x ++ y).length = x.length + y.length := fun x y => Array.size_append ..
  have z0 : (if b0 = 0 then (if ends.fmod 2 = 1 then Str.ofString "x" else Str.ofString "") else Str.ofString "a").length ≤ 1 := by split <;> (try split) <;> decide +kernel
  have z1 : (if b1 = 0 then Str.ofString "b" else Str.ofString "B").length ≤ 1 := by split <;> decide +kernel
  have z2 : (if b2 = 0 then Str.ofString "c" else Str.ofString "C").length ≤ 1 := by split <;> decide +kernel
  have z3 : (if b3 = 0 then (if 1 < ends then Str.ofString "y" else Str.ofString "") else Str.ofString "d").length ≤ 1 := by split <;> (try split) <;> decide +kernel
  refine Ex.cons (Ex1.ret (x := .tr (.str _)) (EvX.bin (EvX.bin (EvX.bin (by walk_at "ev") (EvX.sub (by walk_at "ev") (EvX.sub (by walk_at "ev") (by walk_at "ev") (GetX.listC (t := .int b1) rfl)) (GetX.str (by rw [lb]; omega) (by rw [lb]; omega) (by rw [lb]; omega) (by rw [ixn]; exact c1 b1 h1))) (OpX.addS ?_))
    (EvX.sub (by walk_at "ev") (EvX.sub (by walk_at "ev") (by walk_at "ev") (GetX.listC (t := .int b2) rfl)) (GetX.str (by rw [lc]; omega) (by rw [lc]; omega) (by rw [lc]; omega) (by rw [ixn]; exact c2 b2 h2))) (OpX.addS ?_)) (by walk_at "ev") (OpX.addS ?_)) ?_)
  · rw [d1 b1 h1, la]; omega
  · rw [d1 b1 h1, d2 b2 h2, la, la]; omega
  · rw [d1 b1 h1, d2 b2 h2, la, la, la]; omega
  · refine ⟨?_, _, rfl⟩
    rw [d1 b1 h1, d2 b2 h2]; rfl
end
end
-- C7
section
section
variable {W : Wd} {c : Cx} {d : Sd} {σ σ₁ σ₂ σ₃ : List MO}
noncomputable def flagTbl : List (Int × Str) := [(1, "OPTIMIZED"), (2, "NEWLOCALS"), (4, "VARARGS"), (8, "VARKEYWORDS"), (16, "NESTED"), (32, "GENERATOR"), (64, "NOFREE"), (128, "COROUTINE"), (256, "ITERABLE_COROUTINE"), (512, "ASYNC_GENERATOR")]
structure IsFlags (W : Wd) (D : Addr) (vs : List (Int × Value)) : Prop where
  sys : (D == sysModules) = false
  dict : ∀ h : Heap, (∀ a o, W.G a = some o → h.get? a = some o) → h.DictOf (PySem.intKind W.prog W.w) D vs
  val : ∀ k : Int, match flagTbl.lookup k with | some x => ∃ t, PySem.valueAt vs k = some (.str x t) | Option.none => PySem.valueAt vs k = Option.none
noncomputable def flagStr (i : Nat) : Str := (flagTbl.lookup ((2 : Int) ^ i)).getD (baseText "0x" 16 ((2 : Int) ^ i))
theorem flagStr_len : ∀ i, i < 32 → (flagStr i).length ≤ 20 ∧ (baseText "0x" 16 ((2 : Int) ^ i)).length ≤ 20 := by decide +kernel
theorem EvX.getFlag {o e₁ e₂ : Expr} {apos pos : Pos} {D : Addr} {vs : List (Int × Value)} {k : Int} {x : Str} (h : Ev c d o σ (.val (.ref D)) σ) (hD : IsFlags c.W D vs) (h1 : Ev c d e₁ σ (.int k) σ) (h2 : Ev c d e₂ σ (.str x) σ)
    (hbase : attributeBase o (Str.ofString "get") c.env (eval o c.env) = eval o c.env := by rfl) (hs : starEach [e₁, e₂] c.env = [(false, eval e₁ c.env), (false, eval e₂ c.env)] := by rfl) (hline : (apos.endLine == pos.line) = true := by rfl) :
    Ev c d (.Call (.Attribute o (Str.ofString "get") apos) [e₁, e₂] [] pos) σ (.str ((flagTbl.lookup k).getD x)) σ := fun V s S F => by
  refine Call_method2 hbase hs hline (seq (h V s S F) fun V₁ s₁ ov E₁ S₁ q₁ => ?_)
  have e0 : ov = .ref D := q₁.1
  subst e0
  have hd : ∀ {V : Vw} {s : Shared}, St0 c.W V σ s → s.heap.DictOf (PySem.intKind c.W.prog c.W.w) D vs := fun S => hD.dict _ fun a o e => S.keep a o (S.base a o e)
  refine ⟨"dict", _, PySem.F.plainAttrs_dict, PySem.F.slot_dict_get, PySem.F.type_dict_get, (hd S₁).typeIs, (hd S₁).mapOf.noDict, ?_⟩
  refine wpAny_dict_get2 (knd := PySem.intKind c.W.prog c.W.w) hD.sys (seq (h1 V₁ s₁ S₁ (F.ext E₁)) fun V₂ s₂ key E₂ S₂ q₂ => seq (h2 V₂ s₂ S₂ (F.ext (E₁.trans E₂))) fun V₃ s₃ dv E₃ S₃ q₃ => ?_)
  obtain ⟨⟨tk, rfl⟩, _⟩ := q₂
  obtain ⟨⟨tx, rfl⟩, _⟩ := q₃
  refine ⟨k, _, ?_, (hd S₃).mapOf, Pt.up (E₁.trans (E₂.trans E₃)) (Pt.tok S₃ _ ⟨?_, trivial⟩)⟩
  · show PySem.Value.isInt k (.int k tk) = true
    simp [PySem.Value.isInt]
  · have := hD.val k
    cases hg : flagTbl.lookup k with
    | none => rw [hg] at this; rw [this]; exact ⟨_, rfl⟩
    | some y => rw [hg] at this; obtain ⟨t, e⟩ := this; rw [e]; exact ⟨_, rfl⟩
theorem bitAnd_nat (x y : Nat) : Builtin.bitAnd (x : Int) (y : Int) = ((x &&& y : Nat) : Int) := by
  unfold Builtin.bitAnd
  rw [decide_eq_true (Int.natCast_nonneg x), decide_eq_true (Int.natCast_nonneg y)]
  show (((x : Int).toNat &&& (y : Int).toNat : Nat) : Int) = _
  rw [Int.toNat_natCast, Int.toNat_natCast]
theorem and_two_pow (n i : Nat) : n &&& 2 ^ i = (n.testBit i).toNat * 2 ^ i := by
  apply Nat.eq_of_testBit_eq
  intro j
  rw [Nat.testBit_and, Nat.testBit_two_pow]
  by_cases h : i = j
  · subst h
    cases n.testBit i
    · simp
    · simp [Nat.testBit_two_pow]
  · rw [decide_eq_false h]
    cases n.testBit i
    · simp
    · simp [Nat.testBit_two_pow, h]
noncomputable def flagNames (n f : Nat) : List Str := ((List.range n).filter f.testBit).map flagStr
theorem flagNames_succ (n f : Nat) : flagNames (n + 1) f = flagNames n f ++ (if f.testBit n then [flagStr n] else []) := by
  unfold flagNames
  rw [List.range_succ, List.filter_append, List.map_append]
  congr 1
  by_cases h : f.testBit n <;> simp [h]
theorem flagNames_more (n k f : Nat) (h : f < 2 ^ n) : flagNames (n + k) f = flagNames n f := by
  induction k with
  | zero => rfl
  | succ k ih =>
    rw [← Nat.add_assoc, flagNames_succ, ih]
    have : f.testBit (n + k) = false := Nat.testBit_lt_two_pow (Nat.lt_of_lt_of_le h (Nat.pow_le_pow_right (by decide) (Nat.le_add_right _ _)))
    rw [this]; simp
theorem flagNames_all (n f : Nat) : ∀ x ∈ flagNames n f, ∃ i, i < n ∧ x = flagStr i := fun x hx => by
  obtain ⟨i, hi, rfl⟩ := List.mem_map.mp hx
  exact ⟨i, List.mem_range.mp (List.mem_filter.mp hi).1, rfl⟩
theorem joinOk_small (sep : Str) (hsep : sep.length ≤ 100) : ∀ xs : List Str, xs.length ≤ 1000 → (∀ x ∈ xs, x.length ≤ 100) → JoinOk sep xs = true := by
  intro xs hl hx
  unfold JoinOk
  rw [Bool.not_eq_true', short_ok]
  have : ∀ (xs : List Str) (a : Nat), (∀ x ∈ xs, x.length ≤ 100) → xs.toArray.foldl (· + ·.length + sep.length) a ≤ a + 200 * xs.length := by
    intro xs
    induction xs with
    | nil => intro a _; simp
    | cons x r ih =>
      intro a h
      have h1 := ih (a + x.length + sep.length) fun y hy => h y (.tail _ hy)
      have h2 := h x (.head _)
      simp only [List.foldl_toArray', List.foldl_cons, List.length_cons] at h1 ⊢
      omega
  have := this xs 0 hx
  omega
theorem w2_flags {a : Addr} (hf : IsFn W (defAt P2 6) a) {D : Addr} {vs : List (Int × Value)} (hD : IsFlags W D vs) (hDn : W.mg "COMPILER_FLAG_NAMES" = some (.ref D)) (hr : W.mg "range" = none) (hh : W.mg "hex" = none) (f : Nat) (h0 : 0 < f) (h1 : f < 2 ^ 13) :
    Fn W (.ref a) 1 [.tr (.int f)] [] (.tr (.str (Txt.join ", " (flagNames 32 f)))) [] := by
  refine Fn.mk hf ⟨["flags"], [true], [], ["names", "i", "flag"]⟩ [("flags", .loc), ("names", .loc), ("i", .loc), ("flag", .loc), ("range", .glb), ("COMPILER_FLAG_NAMES", .glb), ("hex", .glb)] rfl (by (intro _ _ _ vs h; first | (match vs, h with | [_], _ => rfl) | (match vs, h with | [_, _], _ => rfl) | (match vs, h with | [_, _, _], _ => rfl))) 0 [.ns [("flags", .tr (.int f)), ("names", .any), ("i", .any), ("flag", .any)]] rfl rfl (fun c hW hn => ?_) trivial (Nat.le_refl _) (fun _ h => nomatch h)
  subst hW
  refine Ex.cons (Ex1.asg (EvX.newList (n := 1) (by walk_at "ts") (hn := rfl) (hp := by (repeat (first | with_reducible exact PushL.nil | apply PushL.cons)))) (by walk_at "as") ?_)
  refine Ex.cons (Ex1.for (us := (rng 0 32).map T.int) (Src.range1 (Ev.bt Boot.range (by walk_at "mem") hr) (by walk_at "es") (by decide))
    (fun i σ => ∃ x y, 0 < f / 2 ^ i * 2 ^ i ∧ σ = [.ns [("flags", .tr (.int (f / 2 ^ i * 2 ^ i : Nat))), ("names", .mt 1), ("i", x), ("flag", y)], .list ((flagNames i f).map T.str)]) ⟨.any, .any, by simpa using h0, by simp [flagNames]⟩ (fun _ _ _ => trivial) (fun i t σ ht hJ => ?_) (fun σ hJ => ?_))
  · obtain ⟨x, y, hpos, rfl⟩ := hJ
    have hi32 : i < 32 := by have := (List.getElem?_eq_some_iff.mp ht).1; rw [List.length_map, rng_length] at this; exact this
    have et : t = .int i := by
      rw [List.getElem?_map, rng, List.getElem?_map, List.getElem?_range (by simpa using hi32)] at ht
      have e := Option.some.inj ht
      rw [← e]; show T.int (0 + (i : Int)) = _; rw [Int.zero_add]
    subst et
    refine ⟨_, by walk_at "as", ?_⟩
    have hT : ((i : Int)).toNat = i := Int.toNat_natCast i
    have e2 : (1 : Int) * 2 ^ ((i : Int)).toNat = ((2 ^ i : Nat) : Int) := by rw [hT, Int.one_mul]; push_cast; rfl
    refine Ex.cons (Ex1.asg (EvX.bin (by walk_at "ev") (by walk_at "ev") (OpX.shlI (by omega) (by omega) (by decide))) (by walk_at "as") ?_)
    rw [e2]
    have eand : Builtin.bitAnd ((f / 2 ^ i * 2 ^ i : Nat) : Int) ((2 ^ i : Nat) : Int) = if f.testBit i then ((2 ^ i : Nat) : Int) else 0 := by
      rw [bitAnd_nat, and_two_pow, Nat.testBit_mul_two_pow]
      simp only [Nat.le_refl, decide_true, Nat.sub_self, Bool.true_and, Nat.testBit_div_two_pow, Nat.zero_add]
      cases f.testBit i <;> simp
    have hp : (0 : Int) < ((2 ^ i : Nat) : Int) := by have := Nat.two_pow_pos i; omega
    have hstep : f / 2 ^ i = 2 * (f / 2 ^ (i + 1)) + (f.testBit i).toNat := by
      have h3 : f / 2 ^ (i + 1) = f / 2 ^ i / 2 := by rw [Nat.pow_succ, Nat.div_div_eq_div_mul]
      have h4 : f.testBit i = decide (f / 2 ^ i % 2 = 1) := by rw [Nat.testBit_eq_decide_div_mod_eq]
      rw [h3, h4]
      by_cases h5 : f / 2 ^ i % 2 = 1
      · simp [h5]; omega
      · simp [h5]; omega
    refine Ex.cons (Ex1.ite (EvB.plain (EvX.bin (by walk_at "ev") (by walk_at "ev") OpX.andI) Tru.int) (fun hb => ?_) (fun hb => ?_))
    · rw [eand] at hb
      have htb : f.testBit i = true := by
        cases hq : f.testBit i with
        | true => rfl
        | false => rw [hq] at hb; cases hb
      rw [htb] at eand hstep
      have hfl := flagStr_len i hi32
      have efl : (flagTbl.lookup ((2 ^ i : Nat) : Int)).getD (baseText "0x" 16 ((2 ^ i : Nat) : Int)) = flagStr i := by rw [flagStr]; push_cast; rfl
      refine Ex.cons (Ex1.expr (EvX.append (by walk_at "ev") ⟨_, rfl⟩ (EvX.getFlag (Ev.glob (by walk_at "mem") hDn) hD (by walk_at "ev") (EvX.callB (Ev.bt Boot.hex (by walk_at "mem") hh) (by walk_at "es") (CaX.hex (by have := hfl.2; push_cast; omega)))) (by walk_at "put") (by
        rw [List.length_map, flagNames, List.length_map]
        have := List.length_filter_le f.testBit (List.range i)
        rw [List.length_range] at this; omega)) ?_)
      rw [efl]
      refine Ex.cons (Ex1.aug (by first | exact LdN.loc (by walk_at "mem") rfl (by walk_at "mem") | exact LdN.cel (by walk_at "mem") rfl) (by walk_at "ev") OpX.ixorI (by walk_at "st") ?_)
      have exor : Builtin.bitXor ((f / 2 ^ i * 2 ^ i : Nat) : Int) ((2 ^ i : Nat) : Int) = ((f / 2 ^ (i + 1) * 2 ^ (i + 1) : Nat) : Int) := by
        rw [bitXor_and, eand, if_pos rfl, hstep]
        have : f / 2 ^ (i + 1) * 2 ^ (i + 1) = 2 * (f / 2 ^ (i + 1)) * 2 ^ i := by rw [Nat.pow_succ, Nat.mul_comm 2, Nat.mul_assoc, Nat.mul_comm 2]
        rw [this, Nat.add_mul]
        simp only [Bool.toNat_true, Nat.one_mul]
        omega
      rw [exor]
      have enames : (flagNames i f).map T.str ++ [T.str (flagStr i)] = (flagNames (i + 1) f).map T.str := by rw [flagNames_succ, htb]; simp
      rw [enames]
      refine Ex.cons (Ex1.ite (EvB.not (EvB.plain (by walk_at "ev") Tru.int)) (fun hz => ?_) (fun hz => ?_))
      · refine Ex.cons (Ex1.brk ?_)
        have hz' : f / 2 ^ (i + 1) * 2 ^ (i + 1) = 0 := by
          have : ((f / 2 ^ (i + 1) * 2 ^ (i + 1) : Nat) : Int) = 0 := by simpa using hz
          omega
        have hlt : f < 2 ^ (i + 1) := by
          have h6 := Nat.two_pow_pos (i + 1)
          have h7 : f / 2 ^ (i + 1) = 0 := by
            rcases Nat.mul_eq_zero.mp hz' with h | h
            · exact h
            · omega
          exact (Nat.div_eq_zero_iff_lt h6).mp h7
        have e32 : flagNames 32 f = flagNames (i + 1) f := by
          have := flagNames_more (i + 1) (31 - i) f hlt
          rw [← this]; congr 1; omega
        refine Ex.cons (Ex1.ret (EvX.joinM (by walk_at "ev") (by walk_at "ev") rfl (joinOk_small _ (by decide +kernel) _ ?_ ?_)) ⟨?_, _, rfl⟩)
        · rw [flagNames, List.length_map]
          have := List.length_filter_le f.testBit (List.range (i + 1))
          rw [List.length_range] at this; omega
        · intro x hx
          obtain ⟨j, hj, rfl⟩ := flagNames_all _ _ x hx
          have := flagStr_len j (by omega); omega
        · rw [e32]
      · refine Ex.nil (Ex.nil (Ex.nil ⟨_, Lo.refl (Nat.le_refl _), _, _, ?_, rfl⟩))
        have : ((f / 2 ^ (i + 1) * 2 ^ (i + 1) : Nat) : Int) ≠ 0 := by simpa using hz
        omega
    · rw [eand] at hb
      have htb : f.testBit i = false := by
        cases hq : f.testBit i with
        | false => rfl
        | true => rw [hq, if_pos rfl] at hb; exact absurd (bne_eq_false_iff_eq.mp hb) (Int.ne_of_gt hp)
      rw [htb] at hstep
      have e5 : f / 2 ^ i * 2 ^ i = f / 2 ^ (i + 1) * 2 ^ (i + 1) := by
        rw [hstep]
        simp only [Bool.toNat_false, Nat.add_zero]
        rw [Nat.pow_succ, Nat.mul_comm 2, Nat.mul_assoc, Nat.mul_comm 2]
      have enames : (flagNames i f).map T.str = (flagNames (i + 1) f).map T.str := by rw [flagNames_succ, htb]; simp
      rw [enames, e5]
      exact Ex.nil (Ex.nil ⟨_, Lo.refl (Nat.le_refl _), _, _, by rw [← e5]; exact hpos, rfl⟩)
  · obtain ⟨x, y, hpos, rfl⟩ := hJ
    exfalso
    rw [List.length_map, rng_length] at hpos
    have : f / 2 ^ 32 = 0 := Nat.div_eq_of_lt (by omega)
    have e32 : ((32 : Int) - 0).toNat = 32 := rfl
    rw [e32, this] at hpos
    omega
end
end
-- C8
section
noncomputable def lowA (c : Nat) : Nat := if 65 ≤ c ∧ c ≤ 90 then c + 32 else c
noncomputable def sCost (x y : Nat) : Int := if x = y then 0 else if lowA x = lowA y then 1 else 2
theorem lower_ascii : ∀ c, c < 128 → Txt.lower ⟨#[c]⟩ = ⟨#[lowA c]⟩ := by decide +kernel
theorem subst_ascii (x y : Nat) (hx : x < 128) (hy : y < 128) : subst ⟨#[x]⟩ ⟨#[y]⟩ = sCost x y := by
  unfold subst sCost
  rw [lower_ascii x hx, lower_ascii y hy]
  simp
noncomputable def preP : List Nat → List Nat → List Nat × List Nat
  | a :: as, b :: bs => if a = b then preP as bs else (a :: as, b :: bs)
  | as, bs => (as, bs)
noncomputable def inner (ch : Nat) : List Nat → List Int → Int → Int → Int → List Int × Int × Int
  | a :: as, r :: rs, dist, res, mn =>
    let res' := min (min res r + 2) (dist + sCost ch a)
    let t := inner ch as rs r res' (if res' < mn then res' else mn)
    (res' :: t.1, t.2.1, t.2.2)
  | _, rs, _, res, mn => (rs, res, mn)
noncomputable def outer (A : List Nat) : List Nat → Nat → List Int → Int → Int → Int
  | [], _, _, res, _ => res
  | b :: bs, i, row, _, cost =>
    let t := inner b A row ((i : Int) * 2) ((i : Int) * 2) 9223372036854775807
    if cost < t.2.2 then cost + 1 else outer A bs (i + 1) t.1 t.2.1 cost
noncomputable def levS (A B : List Nat) (cost : Int) : Int :=
  if cost < ((B.length : Int) - A.length) * 2 then cost + 1 else outer A B 0 (upBy 2 2 A.length) 0 cost
noncomputable def levT (A B : List Nat) (cost : Int) : Int :=
  if A = [] ∨ B = [] then 2 * ((A.length : Int) + B.length) else if B.length < A.length then levS B A cost else levS A B cost
noncomputable def lev (A B : List Nat) (cost : Int) : Int :=
  if A = B then 0 else
    let p := preP A B
    let q := preP p.1.reverse p.2.reverse
    levT q.1.reverse q.2.reverse cost
section
variable {W : Wd} {c : Cx} {d : Sd} {σ σ₁ σ₂ σ₃ : List MO}
noncomputable def Asc (l : List Nat) : Prop := ∀ x ∈ l, x < 128
theorem ofL_len (l : List Nat) : (ofL l).length = l.length := by simp [ofL, Str.length]
theorem ofL_get (l : List Nat) (i : Nat) : (ofL l).cps[i]? = l[i]? := by simp [ofL]
theorem ofL_inj {a b : List Nat} : ofL a = ofL b ↔ a = b := by
  constructor
  · intro h; have := congrArg (fun x : Str => x.cps.toList) h; simpa [ofL] using this
  · intro h; rw [h]
theorem Asc.ok {l : List Nat} (h : Asc l) : PyData.strOk (ofL l) = true := by
  unfold PyData.strOk ofL
  rw [List.all_toArray]
  exact List.all_eq_true.mpr fun x hx => by have := h x hx; simp; omega
theorem ok1 {x : Nat} (h : x < 128) : PyData.strOk ⟨#[x]⟩ = true := by
  have := Asc.ok (l := [x]) (fun y hy => by rw [List.mem_singleton.mp hy]; exact h)
  exact this
theorem EvB.as {e : Expr} {b b' : Bool} (h : EvB c d e σ b σ₁) (hb : b = b') : EvB c d e σ b' σ₁ := hb ▸ h
theorem sl_drop (l : List Nat) (k : Nat) (h : k ≤ l.length) : strSl (ofL l) (some k) none = ofL (l.drop k) := by
  rw [strSl_drop _ _ (by rw [ofL_len]; exact h)]; simp [ofL]
theorem sl_take (l : List Nat) (q : Nat) (h : q ≤ l.length) : strSl (ofL l) none (if (-(q : Int)) != 0 then some (-(q : Int)) else none) = ofL (l.take (l.length - q)) := by
  by_cases h0 : q = 0
  · subst h0
    rw [show ((-((0 : Nat) : Int)) != 0) = false from rfl]
    simp only [Bool.false_eq_true, if_false]
    rw [strSl_full, Nat.sub_zero, List.take_length]
  · rw [if_pos (by simp; omega), strSl_take _ _ (by rw [ofL_len]; exact h) (by omega), ofL_len]; simp [ofL]
noncomputable def hdEq : List Nat → List Nat → Bool
  | a :: _, b :: _ => a == b
  | _, _ => false
theorem preP_step (A B : List Nat) (h : hdEq A B = true) : preP A B = preP (A.drop 1) (B.drop 1) ∧ 0 < A.length ∧ 0 < B.length := by
  cases A with
  | nil => cases h
  | cons a as =>
    cases B with
    | nil => cases h
    | cons b bs =>
      have e : a = b := by simpa [hdEq] using h
      subst e
      simp [preP]
theorem preP_stop (A B : List Nat) (h : hdEq A B = false) : preP A B = (A, B) := by
  cases A with
  | nil => simp [preP]
  | cons a as =>
    cases B with
    | nil => simp [preP]
    | cons b bs =>
      have e : a ≠ b := by simpa [hdEq] using h
      simp [preP, e]
end
end
-- C10
section
section
variable {W : Wd} {c : Cx} {d : Sd} {σ σ₁ σ₂ σ₃ : List MO}
noncomputable abbrev levNs (a b : X) (cost pre post row result bindex bchar distance minimum index substitute ins : X) : MO :=
  .ns [("a", a), ("b", b), ("max_cost", cost), ("pre", pre), ("post", post), ("row", row), ("result", result), ("bindex", bindex), ("bchar", bchar), ("distance", distance), ("minimum", minimum), ("index", index), ("substitute", substitute), ("insert_delete", ins)]
noncomputable abbrev levTab : List (Str × Slot) := [("a", .loc), ("b", .loc), ("max_cost", .loc), ("pre", .loc), ("post", .loc), ("row", .loc), ("result", .loc), ("bindex", .loc), ("bchar", .loc), ("distance", .loc), ("minimum", .loc), ("index", .loc), ("substitute", .loc), ("insert_delete", .loc),
     ("_MOVE_COST", .glb), ("len", .glb), ("_MAX_STRING_SIZE", .glb), ("list", .glb), ("range", .glb), ("_substitution_cost", .glb), ("min", .glb)]
theorem GetX.mlistN {ts : List T} {k j : Nat} {t : T} (hj : σ[j]? = some (.list ts)) (ht : ts[k]? = some t) (hz : ts.length ≤ 1000000) : GetX c σ (.mt j) (.tr (.int k)) (.tr t) := by
  have h1 := (List.getElem?_eq_some_iff.mp ht).1
  exact GetX.mlist hj (by omega) (by omega) hz (by rw [ixOf, if_neg (by omega)]; exact ht)
theorem mil {n : Nat} (h : n ≤ 40) : n < 1000000 := Nat.lt_of_le_of_lt h (by decide)
theorem EvX.lenS {e : Expr} {l : List Nat} {p pos : Pos} (hs : (Str.ofString "len", Slot.glb) ∈ d.tab) (hl : c.W.mg "len" = none) (h : Ev c d e σ (.str (ofL l)) σ) (hz : l.length < 1000000)
    (he : eval (.Call (.Name (Str.ofString "len") p) [e] [] pos) c.env = (do callWith pos (← eval (.Name (Str.ofString "len") p) c.env) [] (backTo pos (starEach [e] c.env)) (backToKw pos (keywordEach [] c.env))) := by rfl)
    (hst : starEach [e] c.env = (false, eval e c.env) :: starEach [] c.env := by rfl) : Ev c d (.Call (.Name (Str.ofString "len") p) [e] [] pos) σ (.int l.length) σ := by
  have := EvX.callB (pos := pos) (Ev.bt (pos := p) Boot.len hs hl) (EvS.cons h EvS.nil hst) (CaX.lenS (x := ofL l) (by rw [ofL_len]; exact hz)) he hst
  rw [ofL_len] at this; exact this
theorem w2_levS (c : Cx) (hn : c.n = 1) {as : Addr} (hs : IsFn c.W (defAt P2 12) as) (hsn : c.W.mg "_substitution_cost" = some (.ref as)) {tc tm : Tok} (hc : c.W.mg "_CASE_COST" = some (.int 1 tc)) (hm : c.W.mg "_MOVE_COST" = some (.int 2 tm))
    (hlen : c.W.mg "len" = none) (hlist : c.W.mg "list" = none) (hrange : c.W.mg "range" = none) (hmin : c.W.mg "min" = none) (A B : List Nat) (hA : Asc A) (hB : Asc B) (lA : A.length ≤ 40) (lB : B.length ≤ 40) (cost : Int) (xk xq : X) :
    Ex c ⟨0, levTab, []⟩ ((defAt P2 13).body.drop 12) [levNs (.tr (.str (ofL A))) (.tr (.str (ofL B))) (.tr (.int cost)) xk xq .any .any .any .any .any .any .any .any .any] (RetQ (.tr (.int (levS A B cost))) []) := by
  refine Ex.cons (Ex1.ite (EvB.cmp (EvX.bin (EvX.bin (EvX.lenS (by walk_at "mem") hlen (by walk_at "ev") (mil (by assumption))) (EvX.lenS (by walk_at "mem") hlen (by walk_at "ev") (mil (by assumption))) OpX.subI) (Ev.globInt (by walk_at "mem") hm) (OpX.mulI (.inr (by decide)))) (by walk_at "ev") OpB.gtI) (fun h => ?_) (fun h => ?_))
  · refine Ex.cons (Ex1.ret (EvX.bin (by walk_at "ev") (by walk_at "ev") OpX.addI) ?_)
    exact ⟨by rw [levS, if_pos (of_decide_eq_true h)], _, rfl⟩
  have e0 : levS A B cost = outer A B 0 (upBy 2 2 A.length) 0 cost := by rw [levS, if_neg (of_decide_eq_false h)]
  rw [e0]
  refine Ex.nil (Ex.cons (Ex1.asg (EvX.listRange3 (n := A.length) (m := 1) (Ev.bt Boot.list (by walk_at "mem") hlist) (Ev.bt Boot.range (by walk_at "mem") hrange) (EvS.cons (Ev.globInt (by walk_at "mem") hm) (EvS.cons (EvX.bin (Ev.globInt (by walk_at "mem") hm) (EvX.bin (EvX.lenS (by walk_at "mem") hlen (by walk_at "ev") (mil (by assumption))) (by walk_at "ev") OpX.addI) (OpX.mulI (.inl (by decide)))) (EvS.cons (Ev.globInt (by walk_at "mem") hm) EvS.nil))) (by decide) (by decide) (by decide) (by omega) ?_ (by omega) rfl (by (repeat (first | with_reducible exact PushL.nil | apply PushL.cons)))) (by walk_at "as") ?_))
  · split <;> omega
  refine Ex.cons (Ex1.asg (by walk_at "ev") (by walk_at "as") ?_)
  refine Ex.cons (Ex1.for (us := (rng 0 B.length).map T.int) (Src.range1 (Ev.bt Boot.range (by walk_at "mem") hrange) (EvS.cons (EvX.lenS (by walk_at "mem") hlen (by walk_at "ev") (mil (by assumption))) EvS.nil) (by omega))
    (fun i σ => ∃ (row : List Int) (res : Int) (x1 x2 x3 x4 x5 x6 x7 : X), row.length = A.length ∧ outer A (B.drop i) i row res cost = outer A B 0 (upBy 2 2 A.length) 0 cost ∧
      σ = [levNs (.tr (.str (ofL A))) (.tr (.str (ofL B))) (.tr (.int cost)) xk xq (.mt 1) (.tr (.int res)) x1 x2 x3 x4 x5 x6 x7, .list (row.map T.int)])
    ⟨_, _, .any, .any, .any, .any, .any, .any, .any, by simp [upBy], rfl, rfl⟩ (fun _ _ _ => trivial) (fun i t σ ht hJ => ?_) (fun σ hJ => ?_))
  · obtain ⟨row, res, x1, x2, x3, x4, x5, x6, x7, hrl, hout, rfl⟩ := hJ
    have hiB : i < B.length := by have := (List.getElem?_eq_some_iff.mp ht).1; rw [List.length_map, rng_length] at this; omega
    have et : t = .int i := by
      rw [List.getElem?_map, rng, List.getElem?_map, List.getElem?_range (by omega)] at ht
      have e := Option.some.inj ht
      rw [← e]; show T.int (0 + (i : Int)) = _; rw [Int.zero_add]
    subst et
    have hch : B[i]? = some B[i] := List.getElem?_eq_getElem hiB
    have hchA : B[i] < 128 := hB _ (List.getElem_mem hiB)
    have hdr : B.drop i = B[i] :: B.drop (i + 1) := List.drop_eq_getElem_cons hiB
    rw [hdr] at hout
    generalize B[i] = ch at hch hchA hout
    refine ⟨_, by walk_at "as", ?_⟩
    refine Ex.cons (Ex1.asg (EvX.sub (by walk_at "ev") (by walk_at "ev") (GetX.str (cp := ch) (by omega) (by rw [ofL_len]; omega) (by rw [ofL_len]; omega) (by rw [ixOf, if_neg (by omega), ofL_get]; exact hch))) (by walk_at "as") ?_)
    refine Ex.cons (Ex1.asg2 (EvX.bin (by walk_at "ev") (Ev.globInt (by walk_at "mem") hm) (OpX.mulI (.inr (by decide)))) (by walk_at "as") (by walk_at "as") ?_)
    refine Ex.cons (Ex1.asg (by walk_at "ev") (by walk_at "as") ?_)
    generalize hT : inner ch A row ((i : Int) * 2) ((i : Int) * 2) 9223372036854775807 = fin
    have hout2 : (if cost < fin.2.2 then cost + 1 else outer A (B.drop (i + 1)) (i + 1) fin.1 fin.2.1 cost) = outer A B 0 (upBy 2 2 A.length) 0 cost := by rw [← hT]; exact hout
    refine Ex.cons (Ex1.for (us := (rng 0 A.length).map T.int) (Src.range1 (Ev.bt Boot.range (by walk_at "mem") hrange) (EvS.cons (EvX.lenS (by walk_at "mem") hlen (by walk_at "ev") (mil (by assumption))) EvS.nil) (by omega))
      (fun j σ => ∃ (done : List Int) (dist res mn : Int) (x5 x6 x7 : X), done.length = j ∧ done ++ (inner ch (A.drop j) (row.drop j) dist res mn).1 = fin.1 ∧ (inner ch (A.drop j) (row.drop j) dist res mn).2 = fin.2 ∧
        σ = [levNs (.tr (.str (ofL A))) (.tr (.str (ofL B))) (.tr (.int cost)) xk xq (.mt 1) (.tr (.int res)) (.tr (.int i)) (.tr (.str ⟨#[ch]⟩)) (.tr (.int dist)) (.tr (.int mn)) x5 x6 x7, .list ((done ++ row.drop j).map T.int)])
      ⟨[], _, _, _, _, _, _, rfl, by rw [← hT]; rfl, by rw [← hT]; rfl, rfl⟩ (fun _ _ _ => trivial) (fun j t σ ht hJ => ?_) (fun σ hJ => ?_))
    · obtain ⟨done, dist, res, mn, y5, y6, y7, hdl, hin1, hin2, rfl⟩ := hJ
      have hjA : j < A.length := by have := (List.getElem?_eq_some_iff.mp ht).1; rw [List.length_map, rng_length] at this; omega
      have et : t = .int j := by
        rw [List.getElem?_map, rng, List.getElem?_map, List.getElem?_range (by omega)] at ht
        have e := Option.some.inj ht
        rw [← e]; show T.int (0 + (j : Int)) = _; rw [Int.zero_add]
      subst et
      have hca : A[j]? = some A[j] := List.getElem?_eq_getElem hjA
      have hcaA : A[j] < 128 := hA _ (List.getElem_mem hjA)
      have hdA : A.drop j = A[j] :: A.drop (j + 1) := List.drop_eq_getElem_cons hjA
      have hjr : j < row.length := by omega
      have hdr : row.drop j = row[j] :: row.drop (j + 1) := List.drop_eq_getElem_cons hjr
      rw [hdA, hdr] at hin1 hin2
      rw [hdr]
      generalize A[j] = ca at hca hcaA hin1 hin2
      generalize row[j] = r at hin1 hin2 ⊢
      have hlr : (done ++ r :: row.drop (j + 1)).length = A.length := by rw [List.length_append, List.length_cons, List.length_drop]; omega
      refine ⟨_, by walk_at "as", ?_⟩
      have hsub := CaX.fn (c := c) (f := .ref as) (σ := [levNs (.tr (.str (ofL A))) (.tr (.str (ofL B))) (.tr (.int cost)) xk xq (.mt 1) (.tr (.int res)) (.tr (.int i)) (.tr (.str ⟨#[ch]⟩)) (.tr (.int dist)) (.tr (.int mn)) (.tr (.int j)) y6 y7, .list ((done ++ r :: row.drop (j + 1)).map T.int)]) (ts := [.str ⟨#[ch]⟩, .str ⟨#[ca]⟩])
        (w2_subst hs ⟨#[ch]⟩ ⟨#[ca]⟩ (ok1 hchA) (ok1 hcaA) (by rw [lower_ascii _ hchA]; exact ok1 (by unfold lowA; split <;> omega)) (by rw [lower_ascii _ hcaA]; exact ok1 (by unfold lowA; split <;> omega)) (by rw [lower_ascii _ hchA]; exact Nat.le_of_ble_eq_true rfl) (by rw [lower_ascii _ hcaA]; exact Nat.le_of_ble_eq_true rfl) hc hm) (by rw [hn]; exact Nat.le_refl _)
      rw [subst_ascii _ _ hchA hcaA] at hsub
      refine Ex.cons (Ex1.asg (EvX.bin (by walk_at "ev") (EvX.call (Ev.glob (by walk_at "mem") hsn) hs (EvS.cons (by walk_at "ev") (EvS.cons (EvX.sub (by walk_at "ev") (by walk_at "ev") (GetX.str (cp := ca) (by omega) (by rw [ofL_len]; omega) (by rw [ofL_len]; omega) (by rw [ixOf, if_neg (by omega), ofL_get]; exact hca))) EvS.nil)) hsub) OpX.addI) (by walk_at "as") ?_)
      refine Ex.cons (Ex1.asg (EvX.sub (by walk_at "ev") (by walk_at "ev") (GetX.mlistN (t := .int r) rfl (by rw [List.getElem?_map, List.getElem?_append_right (by omega), hdl, Nat.sub_self]; rfl) (by rw [List.length_map]; omega))) (by walk_at "as") ?_)
      refine Ex.cons (Ex1.asg (EvX.bin (EvX.callB (Ev.bt Boot.min (by walk_at "mem") hmin) (by walk_at "es") CaX.min2) (Ev.globInt (by walk_at "mem") hm) OpX.addI) (by walk_at "as") ?_)
      refine Ex.cons (Ex1.asg (EvX.callB (Ev.bt Boot.min (by walk_at "mem") hmin) (by walk_at "es") CaX.min2) (by walk_at "as") ?_)
      refine Ex.cons (Ex1.asg (by walk_at "ev") (AsV.sub (by walk_at "ev") (by walk_at "ev") (SetX.list (ts := (done ++ r :: row.drop (j + 1)).map T.int) (by omega) (by rw [List.length_map]; omega) (by rw [List.length_map]; omega) (by walk_at "put"))) ?_)
      generalize hres : min (min res r + 2) (dist + sCost ch ca) = res'
      have eset : (((done ++ r :: row.drop (j + 1)).map T.int).set ((j : Nat) : Int).toNat (T.int res')) = ((done ++ [res']) ++ row.drop (j + 1)).map T.int := by
        rw [Int.toNat_natCast, ← List.map_set, List.set_append, if_neg (by omega), hdl, Nat.sub_self, List.append_assoc]; rfl
      rw [eset]
      have i1 : (done ++ [res']) ++ (inner ch (A.drop (j + 1)) (row.drop (j + 1)) r res' (if res' < mn then res' else mn)).1 = fin.1 := by
        rw [← hin1, inner]
        simp only [hres, List.append_assoc]
        rfl
      have i2 : (inner ch (A.drop (j + 1)) (row.drop (j + 1)) r res' (if res' < mn then res' else mn)).2 = fin.2 := by
        rw [← hin2, inner]
        simp only [hres]
      refine Ex.cons (Ex1.ite (by walk_at "eb") (fun h' => ?_) (fun h' => ?_))
      · rw [if_pos (of_decide_eq_true h')] at i1 i2
        refine Ex.cons (Ex1.asg (by walk_at "ev") (by walk_at "as") ?_)
        exact Ex.nil (Ex.nil ⟨_, Lo.refl (Nat.le_refl _), done ++ [res'], _, _, _, _, _, _, by rw [List.length_append, hdl]; rfl, i1, i2, rfl⟩)
      · rw [if_neg (of_decide_eq_false h')] at i1 i2
        exact Ex.nil (Ex.nil ⟨_, Lo.refl (Nat.le_refl _), done ++ [res'], _, _, _, _, _, _, by rw [List.length_append, hdl]; rfl, i1, i2, rfl⟩)
    · obtain ⟨done, dist, res, mn, y5, y6, y7, hdl, hin1, hin2, rfl⟩ := hJ
      have el : ((rng 0 (A.length : Int)).map T.int).length = A.length := by rw [List.length_map, rng_length]; omega
      rw [el] at hdl hin1 hin2 ⊢
      have hr0 : row.drop A.length = [] := List.drop_eq_nil_of_le (by omega)
      rw [hr0, List.drop_length] at hin1 hin2
      rw [hr0, List.append_nil]
      have e1 : done = fin.1 := by rw [← hin1]; simp [inner]
      have e2 : (res, mn) = fin.2 := hin2
      have e3 : fin.2.1 = res := by rw [← e2]
      have e4 : fin.2.2 = mn := by rw [← e2]
      rw [e3, e4, ← e1] at hout2
      refine Ex.nil (Ex.cons (Ex1.ite (by walk_at "eb") (fun h' => ?_) (fun h' => ?_)))
      · rw [if_pos (of_decide_eq_true h')] at hout2
        refine Ex.cons (Ex1.ret (by walk_at "ev") ?_)
        exact ⟨by rw [hout2], _, rfl⟩
      · rw [if_neg (of_decide_eq_false h')] at hout2
        exact Ex.nil (Ex.nil ⟨_, Lo.refl (Nat.le_refl _), done, res, _, _, _, _, _, _, _, hdl, hout2, rfl⟩)
  · obtain ⟨row, res, x1, x2, x3, x4, x5, x6, x7, hrl, hout, rfl⟩ := hJ
    rw [List.length_map, rng_length, show ((B.length : Int) - 0).toNat = B.length by omega, List.drop_length] at hout
    have hout' : res = outer A B 0 (upBy 2 2 A.length) 0 cost := hout
    refine Ex.nil (Ex.cons (Ex1.ret (by walk_at "ev") ?_))
    exact ⟨by rw [hout'], _, rfl⟩
end
end
-- C9
section
section
variable {W : Wd} {c : Cx} {d : Sd} {σ σ₁ σ₂ σ₃ : List MO}
theorem str_tru (l : List Nat) : (((ofL l).length : Int) != 0) = !l.isEmpty := by
  rw [ofL_len]
  cases l with
  | nil => rfl
  | cons a r => simp; omega
theorem Asc.rev {l : List Nat} (h : Asc l) : Asc l.reverse := fun x hx => h x (List.mem_reverse.mp hx)
theorem w2_lev {a : Addr} (hf : IsFn W (defAt P2 13) a) {as : Addr} (hs : IsFn W (defAt P2 12) as) (hsn : W.mg "_substitution_cost" = some (.ref as)) {tc tm tz : Tok} (hc : W.mg "_CASE_COST" = some (.int 1 tc)) (hm : W.mg "_MOVE_COST" = some (.int 2 tm)) (hz : W.mg "_MAX_STRING_SIZE" = some (.int 40 tz))
    (hlen : W.mg "len" = none) (hlist : W.mg "list" = none) (hrange : W.mg "range" = none) (hmin : W.mg "min" = none) (A B : List Nat) (hA : Asc A) (hB : Asc B) (lA : A.length ≤ 40) (lB : B.length ≤ 40) (cost : Int) :
    Fn W (.ref a) 2 [.tr (.str (ofL A)), .tr (.str (ofL B)), .tr (.int cost)] [] (.tr (.int (lev A B cost))) [] := by
  refine Fn.mk hf ⟨["a", "b", "max_cost"], [true, true, true], [], ["pre", "post", "row", "result", "bindex", "bchar", "distance", "minimum", "index", "substitute", "insert_delete"]⟩
    levTab rfl (by (intro _ _ _ vs h; first | (match vs, h with | [_], _ => rfl) | (match vs, h with | [_, _], _ => rfl) | (match vs, h with | [_, _, _], _ => rfl))) 0
    [levNs (.tr (.str (ofL A))) (.tr (.str (ofL B))) (.tr (.int cost)) .any .any .any .any .any .any .any .any .any .any .any] rfl rfl (fun c hW hn => ?_) trivial (Nat.le_refl _) (fun _ h => nomatch h)
  subst hW
  refine Ex.cons (Ex1.ite (EvB.cmp (by walk_at "ev") (by walk_at "ev") (OpB.eqT (t := .str _) (u := .str _) hA.ok hB.ok (Nat.zero_le _))) (fun h => ?_) (fun h => ?_))
  · rw [teq_str] at h
    have e : A = B := ofL_inj.mp (of_decide_eq_true h)
    exact Ex.cons (Ex1.ret (by walk_at "ev") ⟨by rw [lev, if_pos e], _, rfl⟩)
  rw [teq_str] at h
  have hne : A ≠ B := fun e => of_decide_eq_false h (by rw [e])
  refine Ex.nil (Ex.cons (Ex1.asg (by walk_at "ev") (by walk_at "as") ?_))
  -- the first while
  refine Ex.cons (Ex1.whl (fun m σ => ∃ k, k ≤ A.length ∧ k ≤ B.length ∧ preP A B = preP (A.drop k) (B.drop k) ∧ m = A.length - k ∧ σ = [levNs (.tr (.str (ofL A))) (.tr (.str (ofL B))) (.tr (.int cost)) (.tr (.int k)) .any .any .any .any .any .any .any .any .any .any]) A.length
    ⟨0, Nat.zero_le _, Nat.zero_le _, by simp, by simp, rfl⟩ (fun m σ' hJ => ?_))
  obtain ⟨k, k1, k2, k3, k4, rfl⟩ := hJ
  have cmp : ∀ k, k ≤ A.length → k ≤ B.length → (!(A.drop k).isEmpty) = true → (!(B.drop k).isEmpty) = true → ∃ x y, A[k]? = some x ∧ B[k]? = some y ∧ x < 128 ∧ y < 128 ∧ hdEq (A.drop k) (B.drop k) = decide (x = y) := fun k k1 k2 h1 h2 => by
    have hk1 : k < A.length := by
      rcases Nat.lt_or_ge k A.length with h | h
      · exact h
      · rw [List.drop_eq_nil_of_le h] at h1; cases h1
    have hk2 : k < B.length := by
      rcases Nat.lt_or_ge k B.length with h | h
      · exact h
      · rw [List.drop_eq_nil_of_le h] at h2; cases h2
    refine ⟨A[k], B[k], List.getElem?_eq_getElem hk1, List.getElem?_eq_getElem hk2, hA _ (List.getElem_mem hk1), hB _ (List.getElem_mem hk2), ?_⟩
    rw [List.drop_eq_getElem_cons hk1, List.drop_eq_getElem_cons hk2]
    show (A[k] == B[k]) = _
    rw [Bool.eq_iff_iff]; simp
  refine ⟨hdEq (A.drop k) (B.drop k), _, EvB.as (b := !(A.drop k).isEmpty && (!(B.drop k).isEmpty && (hdEq (A.drop k) (B.drop k) && true))) (EvB.and (EvB.as (EvB.plain (Ev.slStr (by walk_at "ev") (EvP.int (by walk_at "ev")) EvP.no (by rw [sl_drop A k k1, ofL_len, List.length_drop]; omega)) (Tru.str (by rw [sl_drop A k k1, ofL_len, List.length_drop]; omega))) (by rw [sl_drop A k k1, str_tru])) (fun h1 =>
    EvB.and (EvB.as (EvB.plain (Ev.slStr (by walk_at "ev") (EvP.int (by walk_at "ev")) EvP.no (by rw [sl_drop B k k2, ofL_len, List.length_drop]; omega)) (Tru.str (by rw [sl_drop B k k2, ofL_len, List.length_drop]; omega))) (by rw [sl_drop B k k2, str_tru])) (fun h2 => EvB.and ?_ (fun _ => EvB.and_nil)))) ?_, fun hb => ?_, fun hb => ?_⟩
  · obtain ⟨x, y, hx, hy, gx, gy, e⟩ := cmp k k1 k2 h1 h2
    have hkx := (List.getElem?_eq_some_iff.mp hx).1
    have hky := (List.getElem?_eq_some_iff.mp hy).1
    rw [e]
    refine EvB.as (EvB.cmp (EvX.sub (by walk_at "ev") (by walk_at "ev") (GetX.str (cp := x) (by omega) (by rw [ofL_len]; omega) (by rw [ofL_len]; omega) (by rw [ixOf, if_neg (by omega), ofL_get]; exact hx))) (EvX.sub (by walk_at "ev") (by walk_at "ev") (GetX.str (cp := y) (by omega) (by rw [ofL_len]; omega) (by rw [ofL_len]; omega) (by rw [ixOf, if_neg (by omega), ofL_get]; exact hy))) (OpB.eqT (t := .str _) (u := .str _) (ok1 gx) (ok1 gy) (Nat.zero_le _))) ?_
    rw [teq_str, Bool.eq_iff_iff]; simp
  · cases h1 : A.drop k with
    | nil => cases B.drop k <;> rfl
    | cons x r => cases h2 : B.drop k with
      | nil => rfl
      | cons y r' => simp [hdEq]
  · obtain ⟨p1, p2, p3⟩ := preP_step _ _ hb
    rw [List.length_drop] at p2 p3
    refine Ex.cons (Ex1.aug (by first | exact LdN.loc (by walk_at "mem") rfl (by walk_at "mem") | exact LdN.cel (by walk_at "mem") rfl) (by walk_at "ev") (by walk_at "op") (by walk_at "st") ?_)
    refine Ex.nil ⟨_, Lo.refl (Nat.le_refl _), A.length - (k + 1), by omega, k + 1, by omega, by omega, ?_, rfl, rfl⟩
    rw [k3, p1, List.drop_drop, List.drop_drop]
  -- what is left of the first while
  rw [preP_stop _ _ hb] at k3
  have ePre : preP A B = (A.drop k, B.drop k) := k3
  have hA' : Asc (A.drop k) := fun x hx => hA x (List.mem_of_mem_drop hx)
  have hB' : Asc (B.drop k) := fun x hx => hB x (List.mem_of_mem_drop hx)
  have lA' : (A.drop k).length ≤ 40 := by rw [List.length_drop]; omega
  have lB' : (B.drop k).length ≤ 40 := by rw [List.length_drop]; omega
  show Ex _ _ _ _ _
  refine Ex.cons (Ex1.asg (Ev.slStr (by walk_at "ev") (EvP.int (by walk_at "ev")) EvP.no (by rw [sl_drop A k k1, ofL_len]; omega)) (by walk_at "as") ?_)
  refine Ex.cons (Ex1.asg (Ev.slStr (by walk_at "ev") (EvP.int (by walk_at "ev")) EvP.no (by rw [sl_drop B k k2, ofL_len]; omega)) (by walk_at "as") ?_)
  rw [sl_drop A k k1, sl_drop B k k2]
  have eLev : lev A B cost = levT (preP (A.drop k).reverse (B.drop k).reverse).1.reverse (preP (A.drop k).reverse (B.drop k).reverse).2.reverse cost := by
    rw [lev, if_neg hne, ePre]
  rw [eLev]
  generalize A.drop k = A₁ at hA' lA' ⊢
  generalize B.drop k = B₁ at hB' lB' ⊢
  generalize hkx : X.tr (T.int (k : Int)) = xk
  clear eLev ePre k3 hb cmp k1 k2 hne h hA hB lA lB
  refine Ex.cons (Ex1.asg (by walk_at "ev") (by walk_at "as") ?_)
  refine Ex.cons (Ex1.whl (fun m σ => ∃ q : Nat, q ≤ A₁.length ∧ q ≤ B₁.length ∧ preP A₁.reverse B₁.reverse = preP (A₁.reverse.drop q) (B₁.reverse.drop q) ∧ m = A₁.length - q ∧ σ = [levNs (.tr (.str (ofL A₁))) (.tr (.str (ofL B₁))) (.tr (.int cost)) xk (.tr (.int (-(q : Int)))) .any .any .any .any .any .any .any .any .any]) A₁.length
    ⟨0, Nat.zero_le _, Nat.zero_le _, by simp, by simp, rfl⟩ (fun m σ' hJ => ?_))
  obtain ⟨q, q1, q2, q3, q4, rfl⟩ := hJ
  have hzz : X.tr (if (-(q : Int)) != 0 then T.int (-(q : Int)) else T.none) = if (-(q : Int)) != 0 then X.tr (.int (-(q : Int))) else X.tr .none := by split <;> rfl
  have cmp : (!(A₁.reverse.drop q).isEmpty) = true → (!(B₁.reverse.drop q).isEmpty) = true → ∃ x y, A₁[A₁.length - q - 1]? = some x ∧ B₁[B₁.length - q - 1]? = some y ∧ q < A₁.length ∧ q < B₁.length ∧ x < 128 ∧ y < 128 ∧ hdEq (A₁.reverse.drop q) (B₁.reverse.drop q) = decide (x = y) := fun h1 h2 => by
    have hk1 : q < A₁.length := by
      rcases Nat.lt_or_ge q A₁.length with h | h
      · exact h
      · rw [List.drop_eq_nil_of_le (by rw [List.length_reverse]; exact h)] at h1; cases h1
    have hk2 : q < B₁.length := by
      rcases Nat.lt_or_ge q B₁.length with h | h
      · exact h
      · rw [List.drop_eq_nil_of_le (by rw [List.length_reverse]; exact h)] at h2; cases h2
    have r1 : q < A₁.reverse.length := by rw [List.length_reverse]; exact hk1
    have r2 : q < B₁.reverse.length := by rw [List.length_reverse]; exact hk2
    refine ⟨A₁.reverse[q], B₁.reverse[q], ?_, ?_, hk1, hk2, hA'.rev _ (List.getElem_mem r1), hB'.rev _ (List.getElem_mem r2), ?_⟩
    · rw [← List.getElem?_eq_getElem r1, List.getElem?_reverse hk1]; congr 1; omega
    · rw [← List.getElem?_eq_getElem r2, List.getElem?_reverse hk2]; congr 1; omega
    · rw [List.drop_eq_getElem_cons r1, List.drop_eq_getElem_cons r2]
      show (A₁.reverse[q] == B₁.reverse[q]) = _
      rw [Bool.eq_iff_iff]; simp
  have emp : ∀ l : List Nat, (!(l.take (l.length - q)).isEmpty) = !(l.reverse.drop q).isEmpty := fun l => by
    rw [List.drop_reverse]; simp [List.isEmpty_reverse]
  refine ⟨hdEq (A₁.reverse.drop q) (B₁.reverse.drop q), _, EvB.as (b := !(A₁.reverse.drop q).isEmpty && (!(B₁.reverse.drop q).isEmpty && (hdEq (A₁.reverse.drop q) (B₁.reverse.drop q) && true)))
    (EvB.and (EvB.as (EvB.plain (Ev.slStr (by walk_at "ev") EvP.no (EvP.ifT (EvX.or2 (by walk_at "ev") Tru.int (fun _ => by walk_at "ev") hzz)) (by rw [sl_take A₁ q q1, ofL_len, List.length_take]; omega)) (Tru.str (by rw [sl_take A₁ q q1, ofL_len, List.length_take]; omega))) (by rw [sl_take A₁ q q1, str_tru, emp])) (fun h1 =>
    EvB.and (EvB.as (EvB.plain (Ev.slStr (by walk_at "ev") EvP.no (EvP.ifT (EvX.or2 (by walk_at "ev") Tru.int (fun _ => by walk_at "ev") hzz)) (by rw [sl_take B₁ q q2, ofL_len, List.length_take]; omega)) (Tru.str (by rw [sl_take B₁ q q2, ofL_len, List.length_take]; omega))) (by rw [sl_take B₁ q q2, str_tru, emp])) (fun h2 => EvB.and ?_ (fun _ => EvB.and_nil)))) ?_, fun hb => ?_, fun hb => ?_⟩
  · obtain ⟨x, y, hx, hy, hq1, hq2, gx, gy, e⟩ := cmp h1 h2
    rw [e]
    have ix : ∀ n : Nat, q < n → ixOf (-(q : Int) - 1) n = n - q - 1 := fun n hn => by rw [ixOf, if_pos (by omega)]; omega
    refine EvB.as (EvB.cmp (EvX.sub (by walk_at "ev") (by walk_at "ev") (GetX.str (cp := x) (by rw [ofL_len]; omega) (by rw [ofL_len]; omega) (by rw [ofL_len]; omega) (by rw [ofL_len, ix _ hq1, ofL_get]; exact hx))) (EvX.sub (by walk_at "ev") (by walk_at "ev") (GetX.str (cp := y) (by rw [ofL_len]; omega) (by rw [ofL_len]; omega) (by rw [ofL_len]; omega) (by rw [ofL_len, ix _ hq2, ofL_get]; exact hy))) (OpB.eqT (t := .str _) (u := .str _) (ok1 gx) (ok1 gy) (Nat.zero_le _))) ?_
    rw [teq_str, Bool.eq_iff_iff]; simp
  · cases h1 : A₁.reverse.drop q with
    | nil => cases B₁.reverse.drop q <;> rfl
    | cons x r => cases h2 : B₁.reverse.drop q with
      | nil => rfl
      | cons y r' => simp [hdEq]
  · obtain ⟨p1, p2, p3⟩ := preP_step _ _ hb
    rw [List.length_drop, List.length_reverse] at p2 p3
    refine Ex.cons (Ex1.aug (by first | exact LdN.loc (by walk_at "mem") rfl (by walk_at "mem") | exact LdN.cel (by walk_at "mem") rfl) (by walk_at "ev") (by walk_at "op") (by walk_at "st") ?_)
    rw [show -(q : Int) - 1 = -((q + 1 : Nat) : Int) by omega]
    refine Ex.nil ⟨_, Lo.refl (Nat.le_refl _), A₁.length - (q + 1), by omega, q + 1, by omega, by omega, ?_, rfl, rfl⟩
    rw [q3, p1, List.drop_drop, List.drop_drop]
  rw [preP_stop _ _ hb] at q3
  rw [q3]
  show Ex _ _ _ _ _
  refine Ex.cons (Ex1.asg (Ev.slStr (by walk_at "ev") EvP.no (EvP.ifT (EvX.or2 (by walk_at "ev") Tru.int (fun _ => by walk_at "ev") hzz)) (by rw [sl_take A₁ q q1, ofL_len, List.length_take]; omega)) (by walk_at "as") ?_)
  refine Ex.cons (Ex1.asg (Ev.slStr (by walk_at "ev") EvP.no (EvP.ifT (EvX.or2 (by walk_at "ev") Tru.int (fun _ => by walk_at "ev") hzz)) (by rw [sl_take B₁ q q2, ofL_len, List.length_take]; omega)) (by walk_at "as") ?_)
  rw [sl_take A₁ q q1, sl_take B₁ q q2]
  have rA : (A₁.reverse.drop q).reverse = A₁.take (A₁.length - q) := by rw [List.drop_reverse, List.reverse_reverse]
  have rB : (B₁.reverse.drop q).reverse = B₁.take (B₁.length - q) := by rw [List.drop_reverse, List.reverse_reverse]
  rw [rA, rB]
  have hA'' : Asc (A₁.take (A₁.length - q)) := fun x hx => hA' x (List.mem_of_mem_take hx)
  have hB'' : Asc (B₁.take (B₁.length - q)) := fun x hx => hB' x (List.mem_of_mem_take hx)
  have lA'' : (A₁.take (A₁.length - q)).length ≤ 40 := by rw [List.length_take]; omega
  have lB'' : (B₁.take (B₁.length - q)).length ≤ 40 := by rw [List.length_take]; omega
  generalize A₁.take (A₁.length - q) = A₂ at hA'' lA'' ⊢
  generalize B₁.take (B₁.length - q) = B₂ at hB'' lB'' ⊢
  generalize hqx : X.tr (T.int (-(q : Int))) = xq
  clear rA rB q3 hb cmp emp hzz q1 q2 hA' hB' lA' lB'
  refine Ex.cons (Ex1.ite (EvB.as (b' := A₂.isEmpty || (B₂.isEmpty || false)) (EvB.or (EvB.not (EvB.plain (by walk_at "ev") (Tru.str (by rw [ofL_len]; omega)))) (fun _ => EvB.or (EvB.not (EvB.plain (by walk_at "ev") (Tru.str (by rw [ofL_len]; omega)))) (fun _ => EvB.or_nil))) (by rw [str_tru, str_tru]; simp)) (fun h => ?_) (fun h => ?_))
  · have hemp : A₂ = [] ∨ B₂ = [] := by
      rw [Bool.or_false, Bool.or_eq_true] at h
      rcases h with h | h
      · exact .inl (List.isEmpty_iff.mp h)
      · exact .inr (List.isEmpty_iff.mp h)
    refine Ex.cons (Ex1.ret (EvX.bin (Ev.globInt (by walk_at "mem") hm) (EvX.bin (EvX.lenS (by walk_at "mem") hlen (by walk_at "ev") (mil (by assumption))) (EvX.lenS (by walk_at "mem") hlen (by walk_at "ev") (mil (by assumption))) OpX.addI) (OpX.mulI (.inl (by decide)))) ?_)
    exact ⟨by rw [levT, if_pos hemp], _, rfl⟩
  have hemp : ¬ (A₂ = [] ∨ B₂ = []) := by
    rw [Bool.or_false] at h
    rintro (rfl | rfl) <;> simp at h
  refine Ex.nil (Ex.cons (Ex1.ite (b := false) (EvB.as (EvB.or (EvB.cmp (EvX.lenS (by walk_at "mem") hlen (by walk_at "ev") (mil (by assumption))) (Ev.globInt (by walk_at "mem") hz) OpB.gtI) (fun _ => EvB.or (EvB.cmp (EvX.lenS (by walk_at "mem") hlen (by walk_at "ev") (mil (by assumption))) (Ev.globInt (by walk_at "mem") hz) OpB.gtI) (fun _ => EvB.or_nil))) (by rw [decide_eq_false (by omega), decide_eq_false (by omega)]; rfl)) (fun h => (by cases h)) (fun _ => ?_)))
  refine Ex.nil (Ex.cons (Ex1.ite (EvB.cmp (EvX.lenS (by walk_at "mem") hlen (by walk_at "ev") (mil (by assumption))) (EvX.lenS (by walk_at "mem") hlen (by walk_at "ev") (mil (by assumption))) OpB.ltI) (fun h => ?_) (fun h => ?_)))
  · have hlt : B₂.length < A₂.length := by have := of_decide_eq_true h; omega
    have e : levT A₂ B₂ cost = levS B₂ A₂ cost := by rw [levT, if_neg hemp, if_pos hlt]
    rw [e]
    refine Ex.cons (Ex1.swap (by walk_at "ts") (by walk_at "mem") (by walk_at "mem") (by walk_at "st") (by walk_at "st") ?_ ?_)
    · exact Ex.nil (w2_levS c hn hs hsn hc hm hlen hlist hrange hmin B₂ A₂ hB'' hA'' lB'' lA'' cost xk xq)
    · intro env h1 h2 h3
      have he : [Str.ofString "a", Str.ofString "b"].eraseDups.length = 2 := by decide +kernel
      have hf : ∀ p, foldedForSure 8 (.Name (Str.ofString "b") p) = false := fun p => rfl
      have hc : ∀ p, constantsAlone 8 (.Name (Str.ofString "b") p) = false := fun p => by
        show (Str.ofString "b" == Str.ofString "__debug__") = false
        decide +kernel
      delta swappedStores
      simp [Env.blockKind, h1, h2, h3, List.filterMap, Expr.pos, he, hf, hc]
  · have hlt : ¬ B₂.length < A₂.length := by have := of_decide_eq_false h; omega
    have e : levT A₂ B₂ cost = levS A₂ B₂ cost := by rw [levT, if_neg hemp, if_neg hlt]
    rw [e]
    exact Ex.nil (w2_levS c hn hs hsn hc hm hlen hlist hrange hmin A₂ B₂ hA'' hB'' lA'' lB'' cost xk xq)
end
end
-- C11
section
noncomputable def methAt (p : Program) (i k : Nat) : DefItem := match p.main.body[i]? with
  | some (.ClassDef _ _ _ b _ _ _ _ _ _ _) => match b[k]? with
    | some (.FunctionDef n a b _ _ _ sc _ _ pos) => ⟨n, a, b, sc, pos⟩
    | _ => ⟨Str.empty, ⟨[], [], none, [], [], none, []⟩, [], default, default⟩
  | _ => ⟨Str.empty, ⟨[], [], none, [], [], none, []⟩, [], default, default⟩
noncomputable def methFd (e : DefItem) (q : Str) (pm code : Value) : FuncData := { Calls.docDef e.name e.params e.body e.scope pm code .none with qualname := q }
noncomputable def cmpT (h a0 a1 b0 b1 : Int) : Int := if a1 < b1 then -1 else if b1 < a1 then 1 else if a0 < b0 then -h else if b0 < a0 then h else 0
noncomputable abbrev selT (h : Int) : T := .list [.tup [.int 1, .int 1], .tup [.int 0, .int h]]
section
variable {W : Wd}
theorem w2_compare {fM : Addr} {q : Str} {pm code : Value} (hf : IsFd W (methFd (methAt P2 1 1) q pm code) fM) {K : Frag} {C fI : Addr} (k : IsK W K C fI "comp_select_list") (h a0 a1 b0 b1 : Int) :
    Fn W (.ref fM) 1 ([.inst C "comp_select_list" (selT h), .tup [.int a0, .int a1], .tup [.int b0, .int b1]].map X.tr) [] (.tr (.int (cmpT h a0 a1 b0 b1))) [] := by
  refine Fn.mkD (body := (methAt P2 1 1).body) hf rfl rfl rfl rfl ⟨["self", "left", "right"], [true, true, true], [], ["index", "direction", "l", "r"]⟩
    [("self", .loc), ("left", .loc), ("right", .loc), ("index", .loc), ("direction", .loc), ("l", .loc), ("r", .loc)] rfl (fun vs h => match vs, h with | [_, _, _], _ => rfl) 0
    [.ns [("self", .tr (.inst C "comp_select_list" (selT h))), ("left", .tr (.tup [.int a0, .int a1])), ("right", .tr (.tup [.int b0, .int b1])), ("index", .any), ("direction", .any), ("l", .any), ("r", .any)]] rfl rfl (fun c hW hn => ?_) trivial (Nat.le_refl _) (fun _ h => (nomatch h)) (by show Frm.ok _ (methAt P2 1 1).scope.names = true; decide +kernel) (by show tabOk (methAt P2 1 1).scope.names _ _ _ = true; decide +kernel) rfl rfl rfl
  subst hW
  refine Ex.cons (Ex1.for (us := [.tup [.int 1, .int 1], .tup [.int 0, .int h]]) (Src.list (EvX.field k (by walk_at "ev")))
    (fun i σ => ∃ x y z w : X, σ = [.ns [("self", .tr (.inst C "comp_select_list" (selT h))), ("left", .tr (.tup [.int a0, .int a1])), ("right", .tr (.tup [.int b0, .int b1])), ("index", x), ("direction", y), ("l", z), ("r", w)]] ∧ (1 ≤ i → a1 = b1) ∧ (2 ≤ i → a0 = b0))
    ⟨_, _, _, _, rfl, fun h => by omega, fun h => by omega⟩ (fun _ _ _ => trivial) (fun i t σ ht hJ => ?_) (fun σ hJ => ?_))
  · obtain ⟨x, y, z, w, rfl, h1, h2⟩ := hJ
    match i, ht with
    | 0, ht =>
      cases ht
      refine ⟨_, by walk_at "as", ?_⟩
      refine Ex.cons (Ex1.asg (EvX.sub (by walk_at "ev") (by walk_at "ev") (GetX.tupC (t := .int a1) rfl)) (by walk_at "as") ?_)
      refine Ex.cons (Ex1.asg (EvX.sub (by walk_at "ev") (by walk_at "ev") (GetX.tupC (t := .int b1) rfl)) (by walk_at "as") ?_)
      refine Ex.cons (Ex1.ite (EvB.cmp (by walk_at "ev") (by walk_at "ev") OpB.ltI) (fun hb => ?_) (fun hb => ?_))
      · have hb' := of_decide_eq_true hb
        refine Ex.cons (Ex1.ret (by walk_at "ev") ?_)
        exact ⟨by rw [cmpT, if_pos hb'], _, rfl⟩
      · have hb' := of_decide_eq_false hb
        refine Ex.nil ?_
        refine Ex.cons (Ex1.ite (EvB.cmp (by walk_at "ev") (by walk_at "ev") OpB.gtI) (fun hc => ?_) (fun hc => ?_))
        · have hc' := of_decide_eq_true hc
          refine Ex.cons (Ex1.ret (by walk_at "ev") ?_)
          exact ⟨by rw [cmpT, if_neg hb', if_pos hc'], _, rfl⟩
        · have hc' := of_decide_eq_false hc
          exact Ex.nil (Ex.nil ⟨_, Lo.refl (Nat.le_refl _), _, _, _, _, rfl, fun _ => by omega, fun h => by omega⟩)
    | 1, ht =>
      cases ht
      have h1 := h1 (Nat.le_refl _)
      refine ⟨_, by walk_at "as", ?_⟩
      refine Ex.cons (Ex1.asg (EvX.sub (by walk_at "ev") (by walk_at "ev") (GetX.tupC (t := .int a0) rfl)) (by walk_at "as") ?_)
      refine Ex.cons (Ex1.asg (EvX.sub (by walk_at "ev") (by walk_at "ev") (GetX.tupC (t := .int b0) rfl)) (by walk_at "as") ?_)
      refine Ex.cons (Ex1.ite (EvB.cmp (by walk_at "ev") (by walk_at "ev") OpB.ltI) (fun hb => ?_) (fun hb => ?_))
      · have hb' := of_decide_eq_true hb
        refine Ex.cons (Ex1.ret (by walk_at "ev") ?_)
        exact ⟨by rw [cmpT, if_neg (by omega), if_neg (by omega), if_pos hb'], _, rfl⟩
      · have hb' := of_decide_eq_false hb
        refine Ex.nil ?_
        refine Ex.cons (Ex1.ite (EvB.cmp (by walk_at "ev") (by walk_at "ev") OpB.gtI) (fun hc => ?_) (fun hc => ?_))
        · have hc' := of_decide_eq_true hc
          refine Ex.cons (Ex1.ret (by walk_at "ev") ?_)
          exact ⟨by rw [cmpT, if_neg (by omega), if_neg (by omega), if_neg hb', if_pos hc'], _, rfl⟩
        · have hc' := of_decide_eq_false hc
          exact Ex.nil (Ex.nil ⟨_, Lo.refl (Nat.le_refl _), _, _, _, _, rfl, fun _ => by omega, fun _ => by omega⟩)
    | i + 2, ht => simp at ht
  · obtain ⟨x, y, z, w, rfl, h1, h2⟩ := hJ
    have h1 : a1 = b1 := h1 (Nat.le_succ 1)
    have h2 : a0 = b0 := h2 (Nat.le_refl 2)
    refine Ex.nil (Ex.cons (Ex1.ret (by walk_at "ev") ?_))
    exact ⟨by rw [cmpT, if_neg (by omega), if_neg (by omega), if_neg (by omega), if_neg (by omega)], _, rfl⟩
end
end
-- C12
section
section
structure IsTC (W : Wd) (C : Addr) (K : Frag) (fI fM : Addr) (pI cI pM cM : Value) : Prop where
  k : IsK W K C fI "comp_select_list"
  km : findIn K (.ref C) "compare" = some (some (.ref fM))
  tm : isFn K (.ref fM) = true
  pm : keepIn K (.ref fM) = true
  dI : IsFd W (methFd (methAt P2 1 0) "TupleComp.__init__" pI cI) fI
  dM : IsFd W (methFd (methAt P2 1 1) "TupleComp.compare" pM cM) fM
  mg : W.mg "TupleComp" = some (.ref C)
variable {c : Cx} {d : Sd} {σ σ₁ σ₂ : List MO} {C : Addr} {K : Frag} {fI fM : Addr} {pI cI pM cM : Value}
theorem IsTC.make (H : IsTC c.W C K fI fM pI cI pM cM) {func e : Expr} {pos : Pos} {t : T} (hn : 3 ≤ c.n) (h0 : Ev c d func σ (.val (.ref C)) σ) (hs : EvS c d [e] σ [.tr t] σ₁)
    (he : eval (.Call func [e] [] pos) c.env = (do callWith pos (← eval func c.env) [] (backTo pos (starEach [e] c.env)) (backToKw pos (keywordEach [] c.env))) := by rfl)
    (hst : starEach [e] c.env = (false, eval e c.env) :: starEach [] c.env := by rfl) : Ev c d (.Call func [e] [] pos) σ (.inst C "comp_select_list" t) σ₁ :=
  EvX.callK H.k h0 hs (CaX.make (arg := "comp_select_list") H.k H.dI rfl (fun _ _ => rfl) rfl rfl rfl (by decide) (by decide) hn) he hst
theorem IsTC.cmp (H : IsTC c.W C K fI fM pI cI pM cM) {o e₁ e₂ : Expr} {apos pos : Pos} {pl : Sem Bool} {h a0 a1 b0 b1 : Int} (hn : 1 ≤ c.n) (h0 : Ev c d o σ (.inst C "comp_select_list" (selT h)) σ) (hs : EvS c d [e₁, e₂] σ [.tr (.tup [.int a0, .int a1]), .tr (.tup [.int b0, .int b1])] σ)
    (he : eval (.Call (.Attribute o "compare" apos) [e₁, e₂] [] pos) c.env = (do
      let ov ← eval o c.env
      standAt apos.atName
      let (f, first) ← holding [ov] (getMethod ov "compare" pl)
      callWith pos f first (backTo pos (starEach [e₁, e₂] c.env)) []) := by rfl)
    (hst : starEach [e₁, e₂] c.env = (false, eval e₁ c.env) :: starEach [e₂] c.env := by rfl) (hpl : (backTo pos (starEach [e₂] c.env)).any (·.1) = false := by rfl) : Ev c d (.Call (.Attribute o "compare" apos) [e₁, e₂] [] pos) σ (.int (cmpT h a0 a1 b0 b1)) σ :=
  EvX.meth H.k H.km H.tm H.pm (by decide) h0 hs (CaX.fn (ts := [.inst C "comp_select_list" (selT h), .tup [.int a0, .int a1], .tup [.int b0, .int b1]]) (w2_compare H.dM H.k h a0 a1 b0 b1) hn) he hst hpl

noncomputable abbrev rowT (r : Int × Int) : T := .tup [.int r.1, .int r.2]
noncomputable def bestR (h : Int) (b r : Int × Int) : Int × Int := if 100 * r.2 + h * r.1 < 100 * b.2 + h * b.1 then r else b
theorem teq_int2 (a b x y : Int) : teq (.tup [.int a, .int b]) (.tup [.int x, .int y]) = decide (a = x ∧ b = y) := by
  show PyData.eqv (.tuple [.int a, .int b]) (.tuple [.int x, .int y]) = _
  rw [Bool.eq_iff_iff]; simp [PyData.eqv, PyData.eqvAll]
theorem teq_intL2 (a b x y : Int) : teq (.list [.int a, .int b]) (.list [.int x, .int y]) = decide (a = x ∧ b = y) := by
  show PyData.eqv (.list [.int a, .int b]) (.list [.int x, .int y]) = _
  rw [Bool.eq_iff_iff]; simp [PyData.eqv, PyData.eqvAll]
noncomputable def dueR (h : Int) (b r : Int × Int) : Int := if r = b then 0 else if 100 * b.2 + h * b.1 < 100 * r.2 + h * r.1 then 1 else -1
theorem due_one {h : Int} (hh : h = 1 ∨ h = -1) {a0 a1 b0 b1 : Int} (h1 : 0 ≤ a0 ∧ a0 < 32) (h2 : 0 ≤ b0 ∧ b0 < 32) : cmpT h a0 a1 b0 b1 = dueR h (b0, b1) (a0, a1) := by
  unfold cmpT dueR
  simp only [Prod.mk.injEq]
  by_cases c1 : a1 < b1
  · rw [if_pos c1, if_neg (fun e => Int.ne_of_lt c1 e.2), if_neg (by rcases hh with rfl | rfl <;> omega)]
  · by_cases c2 : b1 < a1
    · rw [if_neg c1, if_pos c2, if_neg (fun e => Int.ne_of_gt c2 e.2), if_pos (by rcases hh with rfl | rfl <;> omega)]
    · have c3 : a1 = b1 := Int.le_antisymm (Int.not_lt.mp c2) (Int.not_lt.mp c1)
      subst c3
      rw [if_neg c1, if_neg c1]
      by_cases c4 : a0 < b0
      · rw [if_pos c4, if_neg (fun e => Int.ne_of_lt c4 e.1)]
        rcases hh with rfl | rfl
        · rw [if_neg (by omega)]
        · rw [if_pos (by omega)]; rfl
      · by_cases c5 : b0 < a0
        · rw [if_neg c4, if_pos c5, if_neg (fun e => Int.ne_of_gt c5 e.1)]
          rcases hh with rfl | rfl
          · rw [if_pos (by omega)]
          · rw [if_neg (by omega)]
        · rw [if_neg c4, if_neg c5, if_pos ⟨Int.le_antisymm (Int.not_lt.mp c5) (Int.not_lt.mp c4), rfl⟩]
theorem due_neg {h : Int} (hh : h = 1 ∨ h = -1) {a0 a1 b0 b1 : Int} (h1 : 0 ≤ a0 ∧ a0 < 32) (h2 : 0 ≤ b0 ∧ b0 < 32) : dueR h (a0, a1) (b0, b1) = -dueR h (b0, b1) (a0, a1) := by
  unfold dueR
  by_cases e : (a0, a1) = (b0, b1)
  · rw [if_pos e, if_pos e.symm]; rfl
  · rw [if_neg e, if_neg fun q => e q.symm]
    simp only [Prod.mk.injEq] at e
    by_cases c : 100 * b1 + h * b0 < 100 * a1 + h * a0
    · rw [if_pos c, if_neg (Int.not_lt.mpr (Int.le_of_lt c))]
    · rw [if_neg c, if_pos (by rcases hh with rfl | rfl <;> omega)]; rfl
theorem due_cmp {h : Int} (hh : h = 1 ∨ h = -1) {a0 a1 b0 b1 : Int} (h1 : 0 ≤ a0 ∧ a0 < 32) (h2 : 0 ≤ b0 ∧ b0 < 32) : cmpT h a0 a1 b0 b1 = dueR h (b0, b1) (a0, a1) ∧ cmpT h b0 b1 a0 a1 = -dueR h (b0, b1) (a0, a1) :=
  ⟨due_one hh h1 h2, (due_one hh h2 h1).trans (due_neg hh h1 h2)⟩
theorem w2_first {W : Wd} {a C : Addr} {K : Frag} {fI fM : Addr} {pI cI pM cM : Value} (hf : IsFn W (defAt P2 19) a) (H : IsTC W C K fI fM pI cI pM cM) (r0 : Int × Int) (rows : List (Int × Int)) (h : Int) (hh : h = 1 ∨ h = -1) (hr : ∀ r ∈ r0 :: rows, 0 ≤ r.1 ∧ r.1 < 32) (hl : rows.length < 100) :
    Fn W (.ref a) 4 ([.list ((r0 :: rows).map rowT), .int h].map X.tr) [] (.tr (rowT ((r0 :: rows).foldl (bestR h) r0))) [] := by
  refine Fn.mk hf ⟨["rows", "hand"], [true, true], [], ["comp", "best", "row", "due"]⟩ [("rows", .loc), ("hand", .loc), ("comp", .loc), ("best", .loc), ("row", .loc), ("due", .loc), ("TupleComp", .glb)] rfl (by (intro _ _ _ vs h; first | (match vs, h with | [_], _ => rfl) | (match vs, h with | [_, _], _ => rfl) | (match vs, h with | [_, _, _], _ => rfl))) 0
    [.ns [("rows", .tr (.list ((r0 :: rows).map rowT))), ("hand", .tr (.int h)), ("comp", .any), ("best", .any), ("row", .any), ("due", .any)]] rfl rfl (fun c hW hn => ?_) trivial (Nat.le_refl _) (fun _ h => (nomatch h))
  subst hW
  have hab : h.natAbs < 2 ^ 64 := by rcases hh with rfl | rfl <;> decide
  refine Ex.cons (Ex1.asg (x := .tr (.inst C "comp_select_list" (selT h))) (H.make (by omega) (Ev.glob (by walk_at "mem") H.mg) (EvS.cons (Ev.list (by walk_at "ts")) EvS.nil)) (by walk_at "as") ?_)
  refine Ex.cons (Ex1.asg (EvX.sub (by walk_at "ev") (by walk_at "ev") (GetX.listN (k := 0) (t := rowT r0) rfl (by rw [List.length_map, List.length_cons]; omega))) (by walk_at "as") ?_)
  refine Ex.cons (Ex1.for (us := (r0 :: rows).map rowT) (Src.list (by walk_at "ev"))
    (fun i σ => ∃ (b : Int × Int) (x y : X), (0 ≤ b.1 ∧ b.1 < 32) ∧ ((r0 :: rows).drop i).foldl (bestR h) b = (r0 :: rows).foldl (bestR h) r0 ∧
      σ = [.ns [("rows", .tr (.list ((r0 :: rows).map rowT))), ("hand", .tr (.int h)), ("comp", .tr (.inst C "comp_select_list" (selT h))), ("best", .tr (rowT b)), ("row", x), ("due", y)]])
    ⟨r0, _, _, hr _ (.head _), rfl, rfl⟩ (fun _ _ _ => trivial) (fun i t σ ht hJ => ?_) (fun σ hJ => ?_))
  · obtain ⟨b, x, y, hb, hbest, rfl⟩ := hJ
    rw [List.getElem?_map, Option.map_eq_some_iff] at ht
    obtain ⟨r, hri, rfl⟩ := ht
    have hrm := hr r (List.mem_of_getElem? hri)
    obtain ⟨hlt, hget⟩ := List.getElem?_eq_some_iff.mp hri
    rw [List.drop_eq_getElem_cons hlt, hget, List.foldl_cons] at hbest
    obtain ⟨r0', r1⟩ := r
    obtain ⟨b0, b1⟩ := b
    obtain ⟨hc1, hc2⟩ := due_cmp hh (a1 := r1) (b1 := b1) hrm hb
    refine ⟨_, by walk_at "as", ?_⟩
    refine Ex.cons (Ex1.asg (x := .tr (.int (dueR h (b0, b1) (r0', r1)))) (EvX.ite (EvB.cmp (by walk_at "ev") (by walk_at "ev") (OpB.eqT rfl rfl (Nat.le_of_ble_eq_true rfl))) (fun _ => Ev.int) (fun _ => EvX.ite
      (EvB.cmp (EvX.bin (EvX.bin (by walk_at "ev") (EvX.sub (by walk_at "ev") (by walk_at "ev") (GetX.tupC (t := .int r1) rfl)) (OpX.mulI (.inl (by decide)))) (EvX.bin (by walk_at "ev") (EvX.sub (by walk_at "ev") (by walk_at "ev") (GetX.tupC (t := .int r0') rfl)) (OpX.mulI (.inl hab))) OpX.addI)
        (EvX.bin (EvX.bin (by walk_at "ev") (EvX.sub (by walk_at "ev") (by walk_at "ev") (GetX.tupC (t := .int b1) rfl)) (OpX.mulI (.inl (by decide)))) (EvX.bin (by walk_at "ev") (EvX.sub (by walk_at "ev") (by walk_at "ev") (GetX.tupC (t := .int b0) rfl)) (OpX.mulI (.inl hab))) OpX.addI) OpB.gtI)
      (fun _ => Ev.int) (fun _ => by walk_at "ev") rfl) ?_) (by walk_at "as") ?_)
    · rw [teq_int2, dueR]
      simp only [Prod.mk.injEq, decide_eq_true_eq]
      split
      · rfl
      · split <;> rfl
    refine Ex.cons (Ex1.ite (EvB.cmp (Ev.list (EvTs.cons (H.cmp (by omega) (by walk_at "ev") (EvS.cons (by walk_at "ev") (EvS.cons (by walk_at "ev") EvS.nil))) (EvTs.cons (H.cmp (by omega) (by walk_at "ev") (EvS.cons (by walk_at "ev") (EvS.cons (by walk_at "ev") EvS.nil))) EvTs.nil))) (Ev.list (by walk_at "ts")) (OpB.neT rfl rfl (Nat.le_of_ble_eq_true rfl))) (fun hq => ?_) (fun hq => ?_))
    · rw [teq_intL2, hc1, hc2] at hq; simp at hq
    refine Ex.nil (Ex.cons (Ex1.asg (x := .tr (rowT (bestR h (b0, b1) (r0', r1)))) (EvX.ite (EvB.cmp (by walk_at "ev") (by walk_at "ev") OpB.ltI) (fun _ => by walk_at "ev") (fun _ => by walk_at "ev") ?_) (by walk_at "as") ?_))
    · have e : (dueR h (b0, b1) (r0', r1) < 0) ↔ (100 * r1 + h * r0' < 100 * b1 + h * b0) := by
        unfold dueR
        simp only [Prod.mk.injEq]
        rcases hh with rfl | rfl
        all_goals (repeat' split)
        all_goals omega
      rw [bestR]
      by_cases q : 100 * r1 + h * r0' < 100 * b1 + h * b0
      · rw [if_pos q, if_pos (decide_eq_true (e.mpr q))]
      · rw [if_neg q, decide_eq_false (fun z => q (e.mp z)), if_neg (by decide)]
    refine Ex.nil ⟨_, Lo.refl (Nat.le_refl _), _, _, _, ?_, hbest, rfl⟩
    unfold bestR; split <;> assumption
  · obtain ⟨b, x, y, hb, hbest, rfl⟩ := hJ
    rw [List.length_map, List.drop_length, List.foldl_nil] at hbest
    refine Ex.nil (Ex.cons (Ex1.ret (by walk_at "ev") ?_))
    exact ⟨by rw [hbest], _, rfl⟩
end
end
-- C13
section
noncomputable abbrev Kv := List (Str × Int)
noncomputable def bit4 (s : Nat) : List Nat := (List.range 4).filter fun k => s.testBit k
noncomputable def low1 (s : Nat) : Nat := (bit4 s).headD 0
noncomputable def mrgs (T : List Kv) : Nat → List Kv
  | 0 => [[]]
  | n + 1 => mrgs T n ++ [addI ((mrgs T n).getD (n + 1 - 2 ^ low1 (n + 1)) []) (T.getD (low1 (n + 1)) [])]
noncomputable def ownN (names : List Str) (s : Nat) : List Str := (bit4 s).map fun k => names.getD k ""
noncomputable def outI (own : List Str) (kvs : Kv) : Kv := (kvs.filter fun p => !own.any fun y => decide (y = p.1)).foldl (fun acc p => setI acc p.1 p.2) []
noncomputable def cutsN (T : List Kv) (names : List Str) : Nat → List Int
  | 0 => [0]
  | n + 1 => cutsN T names n ++ [((outI (ownN names (n + 1)) ((mrgs T (n + 1)).getD (n + 1) [])).map (·.2)).sum]
theorem mrgs_length (T : List Kv) : ∀ n, (mrgs T n).length = n + 1
  | 0 => rfl
  | n + 1 => by rw [mrgs, List.length_append, mrgs_length T n]; rfl
theorem cutsN_length (T : List Kv) (names : List Str) : ∀ n, (cutsN T names n).length = n + 1
  | 0 => rfl
  | n + 1 => by rw [cutsN, List.length_append, cutsN_length T names n]; rfl
theorem addI_length (t s : Kv) : (addI t s).length ≤ t.length + s.length := by
  have h1 := fold_len (fun acc (p : Str × Int) => setI acc p.1 p.2) (fun acc p => setI_length _ _ _) t []
  have h2 := fold_len (fun acc (p : Str × Int) => setI acc p.1 ((getI acc p.1).getD 0 + p.2)) (fun acc p => setI_length _ _ _) s (t.foldl (fun acc p => setI acc p.1 p.2) [])
  unfold addI
  simp only [List.length_nil] at h1
  omega
theorem getD_mem_le {T : List Kv} {b : Nat} (h : ∀ t ∈ T, t.length ≤ b) (k : Nat) : (T.getD k []).length ≤ b := by
  rw [List.getD_eq_getElem?_getD]
  cases q : T[k]? with
  | none => exact Nat.zero_le _
  | some t => exact h t (List.mem_of_getElem? q)
theorem mrgs_small (T : List Kv) (hT : ∀ t ∈ T, t.length ≤ 8) : ∀ n, ∀ t ∈ mrgs T n, t.length ≤ 8 * n
  | 0, t, h => by rw [mrgs, List.mem_singleton] at h; subst h; exact Nat.zero_le _
  | n + 1, t, h => by
    rw [mrgs, List.mem_append, List.mem_singleton] at h
    rcases h with h | rfl
    · have := mrgs_small T hT n t h; omega
    · refine Nat.le_trans (addI_length _ _) ?_
      have h1 := getD_mem_le (mrgs_small T hT n) (n + 1 - 2 ^ low1 (n + 1))
      have h2 := getD_mem_le hT (low1 (n + 1))
      omega
noncomputable def bitP (s : Int) (k : Int) : Bool := Builtin.bitAnd (s.fdiv (2 ^ k.toNat)) 1 != 0
theorem bit4_rng : ∀ i, i < 15 → (rng 0 4).filter (bitP ((i + 1 : Nat) : Int)) = (bit4 (i + 1)).map fun (k : Nat) => (k : Int) := by decide +kernel
theorem low1_lt : ∀ i, i < 15 → low1 (i + 1) < 4 ∧ 2 ^ low1 (i + 1) ≤ i + 1 ∧ (bit4 (i + 1))[0]? = some (low1 (i + 1)) := by decide +kernel
theorem getD_some {α : Type} {l : List α} {k : Nat} (z : α) (h : k < l.length) : l[k]? = some (l.getD k z) := by
  rw [List.getD_eq_getElem?_getD, List.getElem?_eq_getElem h]; rfl
theorem rng_at {a b : Int} {i : Nat} {t : T} (h : ((rng a b).map T.int)[i]? = some t) : i < (b - a).toNat ∧ t = .int (a + i) := by
  have hl : i < (b - a).toNat := by have := (List.getElem?_eq_some_iff.mp h).1; rwa [List.length_map, rng_length] at this
  rw [List.getElem?_map, rng, List.getElem?_map, List.getElem?_range hl] at h
  exact ⟨hl, (Option.some.inj h).symm⟩
theorem mem_rng {a b x : Int} (h : x ∈ rng a b) : a ≤ x ∧ x < b := by
  unfold rng at h
  obtain ⟨i, hi, rfl⟩ := List.mem_map.mp h
  rw [List.mem_range] at hi
  omega
noncomputable def nmT : T → Str
  | .tup (.str s :: _) => s
  | _ => ""
noncomputable def vlT : T → T
  | .tup [_, v] => v
  | _ => .none
noncomputable def outP (own : List Str) (t : T) : Bool := !own.any fun y => decide (y = nmT t)
theorem foldKv_out (own : List Str) (kvs : Kv) : foldKv nmT vlT ((itemsT (mapI kvs)).filter (outP own)) = mapI (outI own kvs) := by
  unfold foldKv outI itemsT mapI
  rw [List.map_map, List.filter_map, List.foldl_map]
  have e : (outP own ∘ ((fun p : Str × T => T.tup [T.str p.1, p.2]) ∘ fun p : Str × Int => (p.1, T.int p.2))) = fun p => !own.any fun y => decide (y = p.1) := rfl
  rw [e]
  suffices h : ∀ (l : Kv) (acc : Kv), l.foldl (fun a (p : Str × Int) => setKv a (nmT (((fun p : Str × T => T.tup [T.str p.1, p.2]) ∘ fun p : Str × Int => (p.1, T.int p.2)) p)) (vlT (((fun p : Str × T => T.tup [T.str p.1, p.2]) ∘ fun p : Str × Int => (p.1, T.int p.2)) p))) (mapI acc) = mapI (l.foldl (fun acc p => setI acc p.1 p.2) acc) from h _ []
  intro l
  induction l with
  | nil => intro acc; rfl
  | cons p r ih =>
    intro acc
    rw [List.foldl_cons, List.foldl_cons, ← ih]
    congr 1
    exact setKv_int acc p.1 p.2
theorem any_teq (own : List Str) (n : Str) : ((own.map T.str).any fun y => teq y (.str n)) = own.any fun y => decide (y = n) := by
  rw [List.any_map]
  have e : ((fun y => teq y (.str n)) ∘ T.str) = fun y => decide (y = n) := by funext y; exact teq_str y n
  rw [e]
theorem allData_str : ∀ own : List Str, (∀ x ∈ own, PyData.strOk x = true) → allData (own.map T.str) = true
  | [], _ => rfl
  | x :: r, h => by simp only [List.map_cons, allData, T.isData, h x (.head _), allData_str r fun y hy => h y (.tail _ hy), Bool.and_self]
theorem setI_keys {P : Str → Prop} {kvs : Kv} {k : Str} {v : Int} (h : ∀ p ∈ kvs, P p.1) (hk : P k) : ∀ p ∈ setI kvs k v, P p.1 := by
  unfold setI
  split
  · intro p hp
    obtain ⟨q, hq, rfl⟩ := List.mem_map.mp hp
    split <;> exact h q hq
  · intro p hp
    rcases List.mem_append.mp hp with hp | hp
    · exact h p hp
    · rw [List.mem_singleton.mp hp]; exact hk
theorem fold_keys {P : Str → Prop} (g : Kv → Str × Int → Int) : ∀ (l acc : Kv), (∀ p ∈ acc, P p.1) → (∀ p ∈ l, P p.1) → ∀ p ∈ l.foldl (fun acc p => setI acc p.1 (g acc p)) acc, P p.1
  | [], _, h, _ => h
  | q :: r, acc, h, hl => fold_keys g r _ (setI_keys h (hl q (.head _))) fun p hp => hl p (.tail _ hp)
theorem addI_keys {P : Str → Prop} {t s : Kv} (ht : ∀ p ∈ t, P p.1) (hs : ∀ p ∈ s, P p.1) : ∀ p ∈ addI t s, P p.1 :=
  fold_keys (fun acc p => (getI acc p.1).getD 0 + p.2) s _ (fold_keys (fun _ p => p.2) t [] (fun _ h => nomatch h) ht) hs
theorem getD_keys {P : Str → Prop} {T : List Kv} (h : ∀ t ∈ T, ∀ p ∈ t, P p.1) (k : Nat) : ∀ p ∈ T.getD k [], P p.1 := by
  rw [List.getD_eq_getElem?_getD]
  cases q : T[k]? with
  | none => exact fun _ h => nomatch h
  | some t => exact h t (List.mem_of_getElem? q)
theorem mrgs_keys {P : Str → Prop} {T : List Kv} (hT : ∀ t ∈ T, ∀ p ∈ t, P p.1) : ∀ n, ∀ t ∈ mrgs T n, ∀ p ∈ t, P p.1
  | 0, t, h => by rw [mrgs, List.mem_singleton] at h; subst h; exact fun _ h => nomatch h
  | n + 1, t, h => by
    rw [mrgs, List.mem_append, List.mem_singleton] at h
    rcases h with h | rfl
    · exact mrgs_keys hT n t h
    · exact addI_keys (getD_keys (mrgs_keys hT n) _) (getD_keys hT _)
section
theorem Ev.cast {c : Cx} {d : Sd} {e : Expr} {σ σ' : List MO} {t u : T} (h : Ev c d e σ t σ') (q : t = u) : Ev c d e σ u σ' := q ▸ h
theorem w2_cuts {W : Wd} {a aa ac : Addr} (hf : IsFn W (defAt P2 18) a) (ha : IsFn W (defAt P2 2) aa) (hac : IsFn W (defAt P2 3) ac) (hr : W.mg "range" = none) (hi : W.mg "isinstance" = none) (htp : W.mg "tuple" = none)
    (T0 : List Kv) (names : List Str) (hT : ∀ t ∈ T0, t.length ≤ 8) (hTl : T0.length = 5) (hnl : names.length = 5) (hok : ∀ n ∈ names, PyData.strOk n = true) (hokT : ∀ t ∈ T0, ∀ p ∈ t, PyData.strOk p.1 = true) :
    Fn W (.ref a) 2 ([.list (T0.map dI), .list (names.map T.str)].map X.tr) [] (.tr (.list ((cutsN T0 names 15).map T.int))) [] := by
  have han := ha; obtain ⟨_, _, _, _, han, _⟩ := han
  have hcn := hac; obtain ⟨_, _, _, _, hcn, _⟩ := hcn
  refine Fn.mk hf ⟨["tables", "names"], [true, false], [some 1, none, none], ["merged", "told", "first"]⟩ [("tables", .loc), ("names", .cel 1), ("merged", .loc), ("told", .loc), ("some", .cel 2), ("first", .loc), ("own", .cel 3), ("range", .glb), ("add_callers", .glb), ("count_calls", .glb)] rfl (by (intro _ _ _ vs h; first | (match vs, h with | [_], _ => rfl) | (match vs, h with | [_, _], _ => rfl) | (match vs, h with | [_, _, _], _ => rfl))) 0
    [.ns [("tables", .tr (.list (T0.map dI))), ("merged", .any), ("told", .any), ("first", .any)], .cell (.tr (.list (names.map T.str))), .cell .any, .cell .any] rfl rfl (fun c hW hn => ?_) trivial (Nat.le_refl _) (fun _ h => (nomatch h))
  subst hW
  refine Ex.cons (Ex1.asg (EvX.newList (n := 4) (EvTs.cons Ev.dict0 EvTs.nil) (hn := rfl) (hp := by (repeat (first | with_reducible exact PushL.nil | apply PushL.cons)))) (by walk_at "as") ?_)
  refine Ex.cons (Ex1.asg (EvX.newList (n := 5) (by walk_at "ts") (hn := rfl) (hp := by (repeat (first | with_reducible exact PushL.nil | apply PushL.cons)))) (by walk_at "as") ?_)
  refine Ex.cons (Ex1.for (us := (rng 1 16).map T.int) (Src.range2 (Ev.bt Boot.range (by walk_at "mem") hr) (by walk_at "es") (by decide) (by decide))
    (fun i σ => ∃ x y z, σ = [.ns [("tables", .tr (.list (T0.map dI))), ("merged", .mt 4), ("told", .mt 5), ("first", x)], .cell (.tr (.list (names.map T.str))), .cell y, .cell z, .list ((mrgs T0 i).map dI), .list ((cutsN T0 names i).map T.int)])
    ⟨_, _, _, rfl⟩ (fun _ _ _ => trivial) (fun i t σ ht hJ => ?_) (fun σ hJ => ?_))
  · obtain ⟨x, y, z, rfl⟩ := hJ
    obtain ⟨hi15, rfl⟩ := rng_at ht
    have hi15 : i < 15 := hi15
    rw [show (1 : Int) + (i : Int) = ((i + 1 : Nat) : Int) by omega]
    obtain ⟨hlow, hpow, hbit⟩ := low1_lt i hi15
    have hbr := bit4_rng i hi15
    have hml := mrgs_length T0 i
    generalize hs : ((i + 1 : Nat) : Int) = s at hbr
    have hlt : ∀ k, k ∈ (rng 0 4).map T.int → ∃ x : Int, 0 ≤ x ∧ x < 4 ∧ k = .int x := fun k hk => by
      obtain ⟨x, hx, rfl⟩ := List.mem_map.mp hk
      exact ⟨x, (mem_rng hx).1, (mem_rng hx).2, rfl⟩
    refine ⟨_, by walk_at "as", ?_⟩
    refine Ex.cons (Ex1.asg (EvX.sub (EvX.lcB 6 0 ["k"] [("k", .loc), ("some", .cel 2)] (onI (bitP s) false) (fun t => t) (fun t => [.ns [("k", .tr t)]])
      (us := (rng 0 4).map T.int) (Src.range1 (Ev.bt Boot.range (by walk_at "mem") hr) (by walk_at "es") (by decide)) rfl (fun _ => trivial) (by decide +kernel) ⟨fun c' acc hc t ht mo => ?_, fun t ht => ⟨by (repeat' first | exact WkL.nil | exact WkN.nil | apply WkL.cons | apply WkN.cons | exact WkX.any | exact WkX.eq rfl | exact WkM.eq rfl | apply WkM.ns | apply WkM.cell | exact WkM.dead), rfl⟩⟩) (by walk_at "ev")
      (GetX.listN (k := 0) (t := .int (low1 (i + 1))) ?_ ?_)) (by walk_at "as") ?_)
    · obtain ⟨x, h0, h4, rfl⟩ := hlt t ht
      simp only [compFr, List.map, List.replicate, List.cons_append, List.nil_append, id_eq]
      exact ⟨by walk_at "as", Tst.one (EvB.plain (EvX.bin (EvX.bin (by walk_at "ev") (by walk_at "ev") (OpX.shrI h0)) (by walk_at "ev") OpX.andI) Tru.int), fun _ => by walk_at "ev"⟩
    · rw [List.map_id', List.filter_map]
      show (List.map T.int ((rng 0 4).filter (bitP s)))[0]? = _
      rw [hbr, List.map_map, List.getElem?_map, hbit]; rfl
    · rw [List.length_map]; exact Nat.le_trans (List.length_filter_le _ _) (by decide +kernel)
    have ek : s - 1 * 2 ^ (((low1 (i + 1) : Nat) : Int)).toNat = ((i + 1 - 2 ^ low1 (i + 1) : Nat) : Int) := by
      rw [Int.toNat_natCast, ← hs, Int.ofNat_sub hpow, Int.one_mul]; push_cast; rfl
    have hpp := Nat.two_pow_pos (low1 (i + 1))
    refine Ex.cons (Ex1.expr (EvX.append (by walk_at "ev") ⟨_, rfl⟩ (EvX.call (Ev.glob (by walk_at "mem") han) ha (EvS.cons (EvX.sub (by walk_at "ev") (EvX.bin (by walk_at "ev") (EvX.bin (by walk_at "ev") (by walk_at "ev") (OpX.shlI (by omega) (by omega) (by decide))) OpX.subI)
        (GetX.mlist (t := dI ((mrgs T0 i).getD (i + 1 - 2 ^ low1 (i + 1)) [])) rfl ?_ ?_ ?_ ?_))
      (EvS.cons (EvX.sub (by walk_at "ev") (by walk_at "ev") (GetX.listN (t := dI (T0.getD (low1 (i + 1)) [])) ?_ ?_)) EvS.nil))
      (CaX.fn (ts := [dI _, dI _]) (w2_add ha _ _ ?_ hi htp) (by omega))) (by walk_at "put") ?_) ?_)
    · rw [ek]; omega
    · rw [ek, List.length_map, hml]; omega
    · rw [List.length_map, hml]; omega
    · rw [ek, ixOf, if_neg (by omega), Int.toNat_natCast, List.getElem?_map, getD_some [] (by rw [hml]; omega)]; rfl
    · rw [List.getElem?_map, getD_some [] (by omega)]; rfl
    · rw [List.length_map]; omega
    · have h1 := getD_mem_le (mrgs_small T0 hT i) (i + 1 - 2 ^ low1 (i + 1))
      have h2 := getD_mem_le hT (low1 (i + 1))
      omega
    · rw [List.length_map, hml]; omega
    have em : (mrgs T0 i).map dI ++ [dI (addI ((mrgs T0 i).getD (i + 1 - 2 ^ low1 (i + 1)) []) (T0.getD (low1 (i + 1)) []))] = (mrgs T0 (i + 1)).map dI := by rw [mrgs, List.map_append]; rfl
    rw [em]
    have hml2 := mrgs_length T0 (i + 1)
    refine Ex.cons (Ex1.asgC (k := 3) (by walk_at "mem") (EvX.lcB 6 0 ["k"] [("k", .loc), ("names", .cel 1), ("some", .cel 2)] (onI (bitP s) false) (onI (fun k => T.str (names.getD k.toNat "")) .none) (fun t => [.ns [("k", .tr t)]])
      (us := (rng 0 4).map T.int) (Src.range1 (Ev.bt Boot.range (by walk_at "mem") hr) (by walk_at "es") (by decide)) rfl (fun _ => trivial) (by decide +kernel) ⟨fun c' acc hc t ht mo => ?_, fun t ht => ⟨by (repeat' first | exact WkL.nil | exact WkN.nil | apply WkL.cons | apply WkN.cons | exact WkX.any | exact WkX.eq rfl | exact WkM.eq rfl | apply WkM.ns | apply WkM.cell | exact WkM.dead), rfl⟩⟩) (by walk_at "as") ?_)
    · obtain ⟨x, h0, h4, rfl⟩ := hlt t ht
      simp only [compFr, List.map, List.replicate, List.cons_append, List.nil_append, id_eq]
      obtain ⟨n, rfl⟩ : ∃ n : Nat, x = n := ⟨x.toNat, by omega⟩
      refine ⟨by walk_at "as", Tst.one (EvB.plain (EvX.bin (EvX.bin (by walk_at "ev") (by walk_at "ev") (OpX.shrI h0)) (by walk_at "ev") OpX.andI) Tru.int), fun _ => ?_⟩
      refine EvX.sub (by walk_at "ev") (by walk_at "ev") (GetX.listN ?_ (by rw [List.length_map]; omega))
      show _ = some (T.str (names.getD n ""))
      rw [List.getElem?_map, getD_some (Str.ofString "") (by rw [hnl]; omega)]; rfl
    have eo : ((((rng 0 4).map T.int).filter (onI (bitP s) false)).map (onI (fun k => T.str (names.getD k.toNat "")) .none)) = (ownN names (i + 1)).map T.str := by
      rw [List.filter_map, List.map_map]
      show List.map _ ((rng 0 4).filter (bitP s)) = _
      rw [hbr, ownN, List.map_map, List.map_map]; rfl
    rw [eo]
    have hown : ∀ x ∈ ownN names (i + 1), PyData.strOk x = true := fun x hx => by
      obtain ⟨k, hk, rfl⟩ := List.mem_map.mp hx
      have : k < 4 := List.mem_range.mp (List.mem_filter.mp hk).1
      exact hok _ (List.mem_of_getElem? (getD_some (Str.ofString "") (by rw [hnl]; omega)))
    have hget : ((mrgs T0 (i + 1)).map dI)[i + 1]? = some (dI ((mrgs T0 (i + 1)).getD (i + 1) [])) := by rw [List.getElem?_map, getD_some ([] : Kv) (by rw [hml2]; omega)]; rfl
    have hcur : ∀ p ∈ (mrgs T0 (i + 1)).getD (i + 1) [], PyData.strOk p.1 = true := getD_keys (P := fun x => PyData.strOk x = true) (mrgs_keys (P := fun x => PyData.strOk x = true) hokT (i + 1)) _
    have hcl := getD_mem_le (mrgs_small T0 hT (i + 1)) (i + 1)
    have ecut : (cutsN T0 names (i + 1)).map T.int = (cutsN T0 names i).map T.int ++ [T.int ((outI (ownN names (i + 1)) ((mrgs T0 (i + 1)).getD (i + 1) [])).map (·.2)).sum] := by rw [cutsN, List.map_append]; rfl
    have hcn1 := cutsN_length T0 names i
    generalize (mrgs T0 (i + 1)).getD (i + 1) [] = M at hget hcur hcl ecut
    have hit : ∀ t ∈ itemsT (mapI M), ∃ p : Str × Int, p ∈ M ∧ t = .tup [.str p.1, .int p.2] := fun t ht => by
      rw [itemsT, mapI, List.map_map] at ht
      obtain ⟨p, hp, rfl⟩ := List.mem_map.mp ht
      exact ⟨p, hp, rfl⟩
    refine Ex.cons (Ex1.expr (EvX.append (by walk_at "ev") ⟨_, rfl⟩ (EvX.call (Ev.glob (by walk_at "mem") hcn) hac (EvS.cons
      (Ev.cast (u := dI (outI (ownN names (i + 1)) M)) (EvX.dcB 6 0 ["name", "calls"] [("name", .loc), ("calls", .loc), ("own", .cel 3)] (outP (ownN names (i + 1))) nmT vlT (fun t => [.ns [("name", .tr (.str (nmT t))), ("calls", .tr (vlT t))]])
        (us := itemsT (mapI M)) (Src.items (EvX.sub (by walk_at "ev") (by walk_at "ev") (GetX.mlist (t := dI M) rfl ?_ ?_ ?_ ?_))) rfl (fun _ => trivial) ?_ ⟨fun c' acc hc t ht mo => ?_, fun t ht => ⟨by (repeat' first | exact WkL.nil | exact WkN.nil | apply WkL.cons | apply WkN.cons | exact WkX.any | exact WkX.eq rfl | exact WkM.eq rfl | apply WkM.ns | apply WkM.cell | exact WkM.dead), rfl⟩⟩) (congrArg T.dict (foldKv_out _ _))) EvS.nil)
      (CaX.fn (ts := [dI (outI (ownN names (i + 1)) M)]) (w2_count hac _) (by omega))) (by walk_at "put") ?_) ?_)
    · omega
    · rw [List.length_map, hml2]; omega
    · rw [List.length_map, hml2]; omega
    · rw [ixOf, if_neg (by omega), ← hs, Int.toNat_natCast]; exact hget
    · rw [itemsT, mapI, List.length_map, List.length_map]; omega
    · obtain ⟨p, hp, rfl⟩ := hit t ht
      simp only [compFr, List.map, List.replicate, List.cons_append, List.nil_append, id_eq]
      dsimp only [nmT, vlT]
      refine ⟨by walk_at "as", Tst.one ?_, fun _ => ⟨by walk_at "ev", by walk_at "ev"⟩⟩
      have e := any_teq (ownN names (i + 1)) p.1
      have e2 : outP (ownN names (i + 1)) (.tup [.str p.1, .int p.2]) = !(((ownN names (i + 1)).map T.str).any fun y => teq y (.str p.1)) := by rw [e]; rfl
      rw [e2]
      exact EvB.cmp (by walk_at "ev") (by walk_at "ev") (OpB.notInL (hcur p hp) (allData_str _ hown) (Nat.zero_le _))
    · rw [List.length_map, hcn1]; omega
    rw [← ecut]
    exact Ex.nil ⟨_, Lo.refl (Nat.le_refl _), _, _, _, rfl⟩
  · obtain ⟨x, y, z, rfl⟩ := hJ
    refine Ex.nil (Ex.stp (Stp.frozen (k := 5) (by walk_at "put") rfl (by (repeat' first | exact FzL.nil | exact FzN.nil | apply FzL.cons | apply FzN.cons | with_reducible exact FzX.mt | exact FzX.eq rfl | apply FzM.ns | apply FzM.cell | exact FzM.eq rfl))) ?_)
    refine Ex.cons (Ex1.ret (by walk_at "ev") ?_)
    exact ⟨rfl, _, rfl⟩
end
end
-- C14
section
noncomputable abbrev lawTab : List (Str × Slot) := [(Str.ofString "script", Slot.loc), (Str.ofString "numbers", Slot.loc), (Str.ofString "octets", Slot.loc), (Str.ofString "place", Slot.loc), (Str.ofString "number", Slot.loc), (Str.ofString "pairs", Slot.loc), (Str.ofString "tables", Slot.loc), (Str.ofString "cuts", Slot.loc), (Str.ofString "shift", Slot.loc), (Str.ofString "turn", Slot.loc), (Str.ofString "free", Slot.loc), (Str.ofString "away", Slot.loc), (Str.ofString "rows", Slot.loc), (Str.ofString "best", Slot.loc), (Str.ofString "words", Slot.loc), (Str.ofString "parted", Slot.loc), (Str.ofString "price", Slot.loc), (Str.ofString "far", Slot.loc), (Str.ofString "whole", Slot.cel 1), (Str.ofString "low", Slot.cel 2), (Str.ofString "names", Slot.cel 3), (Str.ofString "tape", Slot.cel 4), (Str.ofString "told", Slot.cel 5), (Str.ofString "j", Slot.cel 6), (Str.ofString "i", Slot.cel 7), (Str.ofString "ties", Slot.cel 8), (Str.ofString "some", Slot.cel 9), (Str.ofString "plain", Slot.cel 10), (Str.ofString "kept", Slot.cel 11), (Str.ofString "sides", Slot.cel 12), (Str.ofString "_law_numbers", Slot.glb), (Str.ofString "sum", Slot.glb), (Str.ofString "_law_names", Slot.glb), (Str.ofString "enumerate", Slot.glb), (Str.ofString "_law_octets", Slot.glb), (Str.ofString "iter", Slot.glb), (Str.ofString "bytes", Slot.glb), (Str.ofString "pretty_flags", Slot.glb), (Str.ofString "range", Slot.glb), (Str.ofString "_law_cuts", Slot.glb), (Str.ofString "_law_sides", Slot.glb), (Str.ofString "min", Slot.glb), (Str.ofString "_law_first", Slot.glb), (Str.ofString "_levenshtein_distance", Slot.glb)]
noncomputable abbrev lns (sc nu oc pl nb pa ta cu sh tu fr aw ro be wo pd pr fa : X) : MO := .ns [(Str.ofString "script", sc), (Str.ofString "numbers", nu), (Str.ofString "octets", oc), (Str.ofString "place", pl), (Str.ofString "number", nb), (Str.ofString "pairs", pa), (Str.ofString "tables", ta), (Str.ofString "cuts", cu), (Str.ofString "shift", sh), (Str.ofString "turn", tu), (Str.ofString "free", fr), (Str.ofString "away", aw), (Str.ofString "rows", ro), (Str.ofString "best", be), (Str.ofString "words", wo), (Str.ofString "parted", pd), (Str.ofString "price", pr), (Str.ofString "far", fa)]
noncomputable abbrev lcs (wh lo na tp td j i ti so pn ke si : X) (r : List MO) : List MO := .cell wh :: .cell lo :: .cell na :: .cell tp :: .cell td :: .cell j :: .cell i :: .cell ti :: .cell so :: .cell pn :: .cell ke :: .cell si :: r
structure Env2 (W : Wd) (C D : Addr) (K : Frag) (fI fM : Addr) (pI cI pM cM : Value) (vs : List (Int × Value)) (f : Nat → Addr) (tc tm tz : Tok) : Prop where
  fn : ∀ i ∈ [2, 3, 6, 7, 12, 13, 15, 16, 17, 18, 19, 20, 21], IsFn W (defAt P2 i) (f i)
  tcl : IsTC W C K fI fM pI cI pM cM
  flags : IsFlags W D vs
  fname : W.mg "COMPILER_FLAG_NAMES" = some (.ref D)
  cc : W.mg "_CASE_COST" = some (.int 1 tc)
  mc : W.mg "_MOVE_COST" = some (.int 2 tm)
  mz : W.mg "_MAX_STRING_SIZE" = some (.int 40 tz)
  bt : ∀ x ∈ ([("range" : Str), "len", "list", "min", "hex", "isinstance", "tuple", "next", "enumerate", "sum", "iter", "bytes"] : List Str), W.mg x = Option.none
section
variable {W : Wd} {C D : Addr} {K : Frag} {fI fM : Addr} {pI cI pM cM : Value} {vs : List (Int × Value)} {f : Nat → Addr} {tc tm tz : Tok}
theorem Env2.nm (E : Env2 W C D K fI fM pI cI pM cM vs f tc tm tz) {i : Nat} (h : i ∈ [2, 3, 6, 7, 12, 13, 15, 16, 17, 18, 19, 20, 21]) : W.mg (defAt P2 i).name = some (.ref (f i)) := by
  obtain ⟨_, _, _, _, h, _⟩ := E.fn i h; exact h
end
section
variable {c : Cx} {C D : Addr} {K : Frag} {fI fM : Addr} {pI cI pM cM : Value} {vs : List (Int × Value)} {f : Nat → Addr} {tc tm tz : Tok} {Q : Out → Prop}
theorem CaX.cast {c : Cx} {g : Value} {xs : List X} {σ σ' : List MO} {t u : T} (h : CaX c g xs σ (.tr t) σ') (q : t = u) : CaX c g xs σ (.tr u) σ' := q ▸ h
noncomputable abbrev dL : Sd := ⟨0, lawTab, []⟩
noncomputable abbrev zl (N : List Nat) : List Int := N.map fun (n : Nat) => (n : Int)
theorem zl_sum : ∀ N : List Nat, (zl N).sum = (N.sum : Nat)
  | [] => rfl
  | n :: r => by rw [zl, List.map_cons, List.sum_cons, List.sum_cons, zl_sum r]; push_cast; rfl
noncomputable def octsTo (N : List Nat) (s : Nat) (i : Nat) : List Int := ((List.range i).map fun k => octs (N.getD k 0) ((s + k) % 3)).flatten
theorem octsTo_step {N : List Nat} {s i n : Nat} (h : N[i]? = some n) : octsTo N s (i + 1) = octsTo N s i ++ octs n ((s + i) % 3) := by
  unfold octsTo
  rw [List.range_succ, List.map_append, List.flatten_append]
  simp [List.getD_eq_getElem?_getD, h]
theorem octs_len {n k : Nat} (h : n < 2 ^ 60) : (octs n (k % 3)).length ≤ 13 := by
  have := dgs_len 9 n h
  unfold octs
  rw [List.length_append, List.length_replicate, List.length_reverse, List.length_cons]
  omega
theorem octsTo_len {N : List Nat} {s : Nat} (hN : ∀ n ∈ N, n < 2 ^ 60) : ∀ i, (octsTo N s i).length ≤ 13 * i
  | 0 => Nat.le_refl _
  | i + 1 => by
    have h1 := octsTo_len (s := s) hN i
    have h2 : octsTo N s (i + 1) = octsTo N s i ++ octs (N.getD i 0) ((s + i) % 3) := by
      unfold octsTo
      rw [List.range_succ, List.map_append, List.flatten_append]
      simp
    have h3 : N.getD i 0 < 2 ^ 60 := by
      rw [List.getD_eq_getElem?_getD]
      cases q : N[i]? with
      | none => decide
      | some n => exact hN n (List.mem_of_getElem? q)
    have h4 := octs_len (k := s + i) h3
    rw [h2, List.length_append]
    omega
theorem law_A (E : Env2 c.W C D K fI fM pI cI pM cM vs f tc tm tz) (hn : 3 ≤ c.n) (script : List Int) (hs : script.length ≤ 63) (N : List Nat) (hN : numsN 5 [934, 50, 24871, 16, 4703] (pick script none (some 60) none) = zl N) (hNl : N.length = 5) (hNb : ∀ n ∈ N, n < 2 ^ 30)
    (s : Nat) (hs' : s = N.sum)
    (next : ∀ pl nb, Ex c dL ((defAt P2 22).body.drop 6) (lns (.tr (.list (script.map T.int))) (.tr (.list ((zl N).map T.int))) (.mt 13) pl nb .any .any .any .any .any .any .any .any .any .any .any .any .any
      :: lcs (.tr (.int s)) (.tr (.int (s % 9 : Nat))) (.tr (.list ((namesAt (s % 9)).map T.str))) .any .any .any .any .any .any .any .any .any [.list ((octsTo N s 5).map T.int)]) Q) :
    Ex c dL (defAt P2 22).body (lns (.tr (.list (script.map T.int))) .any .any .any .any .any .any .any .any .any .any .any .any .any .any .any .any .any :: lcs .any .any .any .any .any .any .any .any .any .any .any .any []) Q := by
  refine Ex.cons (Ex1.asg (EvX.call (Ev.glob (by walk_at "mem") (E.nm (i := 15) (by decide))) (E.fn 15 (by decide)) (EvS.cons (by walk_at "ev") EvS.nil) (CaX.cast (u := .list ((zl N).map T.int)) (CaX.fn (ts := [.list (script.map T.int)]) (w2_numbers (E.fn 15 (by decide)) script hs (E.bt _ (by decide))) (by omega)) (by rw [hN]))) (by walk_at "as") ?_)
  refine Ex.cons (Ex1.asg (EvX.callB (Ev.bt Boot.sum (by walk_at "mem") (E.bt _ (by decide))) (EvS.cons (by walk_at "ev") EvS.nil) (CaX.cast (u := .int s) (CaX.sumL (ns := zl N)) (by rw [zl_sum, hs']))) (by walk_at "as") ?_)
  refine Ex.cons (Ex1.asg (EvX.bin (by walk_at "ev") (by walk_at "ev") (OpX.modI (by decide))) (by walk_at "as") ?_)
  rw [show ((s : Nat) : Int).fmod 9 = ((s % 9 : Nat) : Int) from fmod_nat s 9]
  refine Ex.cons (Ex1.asg (EvX.call (Ev.glob (by walk_at "mem") (E.nm (i := 17) (by decide))) (E.fn 17 (by decide)) (EvS.cons (by walk_at "ev") EvS.nil) (CaX.fn (ts := [.int (s % 9 : Nat)]) (w2_names (E.fn 17 (by decide)) (s % 9)) (by omega))) (by walk_at "as") ?_)
  refine Ex.cons (Ex1.asg (EvX.newList (n := 13) (by walk_at "ts") (hn := rfl) (hp := by (repeat (first | with_reducible exact PushL.nil | apply PushL.cons)))) (by walk_at "as") ?_)
  refine Ex.cons (Ex1.for (us := enumT ((zl N).map T.int)) (Src.enumL (Ev.bt Boot.enumerate (by walk_at "mem") (E.bt _ (by decide))) (EvS.cons (by walk_at "ev") EvS.nil))
    (fun i σ => ∃ x y, σ = lns (.tr (.list (script.map T.int))) (.tr (.list ((zl N).map T.int))) (.mt 13) x y .any .any .any .any .any .any .any .any .any .any .any .any .any
      :: lcs (.tr (.int s)) (.tr (.int (s % 9 : Nat))) (.tr (.list ((namesAt (s % 9)).map T.str))) .any .any .any .any .any .any .any .any .any [.list ((octsTo N s i).map T.int)])
    ⟨_, _, rfl⟩ (fun _ _ _ => trivial) (fun i t σ ht hJ => ?_) (fun σ hJ => ?_))
  · obtain ⟨x, y, rfl⟩ := hJ
    rw [enumT_get, List.getElem?_map, List.getElem?_map] at ht
    obtain ⟨n, hni, rfl⟩ : ∃ n, N[i]? = some n ∧ t = .tup [.int i, .int n] := by
      cases h : N[i]? with
      | none => rw [h] at ht; cases ht
      | some n => rw [h] at ht; exact ⟨n, rfl, (Option.some.inj ht).symm⟩
    have hi5 : i < 5 := by have := (List.getElem?_eq_some_iff.mp hni).1; omega
    have hnb := hNb n (List.mem_of_getElem? hni)
    have hol : (octs n ((s + i) % 3)).length ≤ 13 := octs_len (Nat.lt_of_lt_of_le hnb (by decide))
    refine ⟨_, by walk_at "as", ?_⟩
    have ez : ((s : Int) + (i : Int)).fmod 3 = (((s + i) % 3 : Nat) : Int) := (congrArg (fun z : Int => z.fmod 3) (Int.natCast_add s i).symm).trans (fmod_nat (s + i) 3)
    refine Ex.cons (Ex1.expr (EvX.extend (us := (octs n ((s + i) % 3)).map T.int) (by walk_at "ev") ⟨_, rfl⟩ (EvX.call (Ev.glob (by walk_at "mem") (E.nm (i := 16) (by decide))) (E.fn 16 (by decide)) (EvS.cons (by walk_at "ev") (EvS.cons (Ev.cast (u := .int ((s + i) % 3 : Nat)) (EvX.bin (EvX.bin (by walk_at "ev") (by walk_at "ev") OpX.addI) (by walk_at "ev") (OpX.modI (by decide))) (by rw [ez])) EvS.nil))
      (CaX.fn (ts := [.int n, .int ((s + i) % 3 : Nat)]) (w2_octets (E.fn 16 (by decide)) n ((s + i) % 3) (Nat.lt_of_lt_of_le hnb (by decide)) (by omega)) (by omega))) (by walk_at "put") ?_) ?_)
    · rw [List.length_map, List.length_map]
      have := octsTo_len (s := s) (fun n hn => Nat.lt_of_lt_of_le (hNb n hn) (by decide)) i
      omega
    have eo : (octsTo N s i).map T.int ++ (octs n ((s + i) % 3)).map T.int = (octsTo N s (i + 1)).map T.int := by
      rw [octsTo_step hni, List.map_append]
    rw [eo]
    exact Ex.nil ⟨_, Lo.refl (Nat.le_refl _), _, _, rfl⟩
  · obtain ⟨x, y, rfl⟩ := hJ
    rw [enumT_length, List.length_map, List.length_map, hNl]
    exact Ex.nil (next _ _)
end
end
-- C15
section
noncomputable def u8 (l : List Int) : List UInt8 := l.map fun n => n.toNat.toUInt8
theorem vOk_app : ∀ (l : List UInt8) (u : UInt8), (∀ x ∈ l, x.toNat / 64 % 2 = 1) → u.toNat / 64 % 2 = 0 → vOk (l ++ [u]) = true
  | [], u, _, h => by show (u.toNat / 64 % 2 == 0) = true; rw [h]; rfl
  | [x], u, hl, h => by
    show (x.toNat / 64 % 2 == 1 && vOk [u]) = true
    rw [hl x (.head _)]; show (u.toNat / 64 % 2 == 0) = true; rw [h]; rfl
  | x :: y :: r, u, hl, h => by
    show (x.toNat / 64 % 2 == 1 && vOk (y :: r ++ [u])) = true
    rw [hl x (.head _), vOk_app (y :: r) u (fun z hz => hl z (.tail _ hz)) h]; rfl
theorem vVal_app : ∀ (l : List UInt8) (u : UInt8) (v : Nat), vVal v (l ++ [u]) = vVal v l * 64 + u.toNat % 64
  | [], _, _ => rfl
  | x :: r, u, v => vVal_app r u _
theorem u8_nat (k : Nat) (h : k < 256) : (((k : Nat) : Int).toNat.toUInt8).toNat = k := by
  rw [Int.toNat_natCast]
  show k % 256 = k
  omega
theorem dgs_vVal : ∀ n v, vVal 0 (List.replicate v 192 ++ u8 (dgs n).reverse) = n / 64 := by
  intro n
  induction n using Nat.strongRecOn with
  | ind n ih =>
    intro v
    rw [dgs]
    split
    · rename_i h
      rw [List.reverse_cons, u8, List.map_append, ← List.append_assoc]
      show vVal 0 (_ ++ [((n / 64 % 64 + 64 : Nat) : Int).toNat.toUInt8]) = _
      rw [vVal_app, u8_nat _ (by omega)]
      have := ih (n / 64) (by omega) v
      rw [u8] at this
      rw [this]
      omega
    · rename_i h
      show vVal 0 (List.replicate v 192 ++ []) = _
      rw [List.append_nil]
      have : ∀ v, vVal 0 (List.replicate v (192 : UInt8)) = 0 := by
        intro v
        induction v with
        | zero => rfl
        | succ v ih => exact ih
      rw [this]; omega
theorem octs_u8 (n z : Nat) : u8 (octs n z) = List.replicate z 192 ++ u8 (dgs n).reverse ++ [((n % 64 + 128 * (z % 2) : Nat) : Int).toNat.toUInt8] := by
  unfold octs u8
  rw [List.map_append, List.map_replicate, List.reverse_cons, List.map_append, List.append_assoc]
  rfl
theorem octs_vVal (n z : Nat) : vVal 0 (u8 (octs n z)) = n := by
  rw [octs_u8, vVal_app, dgs_vVal, u8_nat _ (by omega)]; omega
theorem dgs_hi : ∀ n, ∀ x ∈ dgs n, ∃ k : Nat, x = k ∧ 64 ≤ k ∧ k < 128 := by
  intro n
  induction n using Nat.strongRecOn with
  | ind n ih =>
    intro x hx
    rw [dgs] at hx
    split at hx
    · rcases List.mem_cons.mp hx with rfl | hx
      · exact ⟨_, rfl, by omega, by omega⟩
      · exact ih (n / 64) (by omega) x hx
    · cases hx
theorem octs_vOk (n z : Nat) : vOk (u8 (octs n z)) = true := by
  rw [octs_u8]
  refine vOk_app _ _ (fun x hx => ?_) (by rw [u8_nat _ (by omega)]; omega)
  rcases List.mem_append.mp hx with hx | hx
  · rw [(List.mem_replicate.mp hx).2]; decide
  · obtain ⟨y, hy, rfl⟩ := List.mem_map.mp hx
    obtain ⟨k, rfl, h1, h2⟩ := dgs_hi n y (List.mem_reverse.mp hy)
    rw [u8_nat _ (by omega)]; omega
theorem octs_oct (n z : Nat) : ∀ x ∈ octs n z, 0 ≤ x ∧ x < 256 := by
  intro x hx
  unfold octs at hx
  rcases List.mem_append.mp hx with hx | hx
  · rw [(List.mem_replicate.mp hx).2]; decide
  · rcases List.mem_cons.mp (List.mem_reverse.mp hx) with rfl | hx
    · omega
    · obtain ⟨k, rfl, h1, h2⟩ := dgs_hi n x hx; omega
theorem octsTo_oct (N : List Nat) (s : Nat) (i : Nat) : ∀ x ∈ octsTo N s i, 0 ≤ x ∧ x < 256 := by
  intro x hx
  unfold octsTo at hx
  rw [List.mem_flatten] at hx
  obtain ⟨l, hl, hx⟩ := hx
  obtain ⟨k, _, rfl⟩ := List.mem_map.mp hl
  exact octs_oct _ _ x hx
theorem octsTo_split {N : List Nat} {s : Nat} {i n m : Nat} (h : N[i]? = some n) : i < m → ∃ r, octsTo N s m = octsTo N s i ++ octs n ((s + i) % 3) ++ r := by
  intro him
  obtain ⟨k, rfl⟩ : ∃ k, m = i + 1 + k := ⟨m - (i + 1), by omega⟩
  rw [← octsTo_step h]
  clear him
  induction k with
  | zero => exact ⟨[], by rw [List.append_nil]⟩
  | succ k ih =>
    obtain ⟨r, hr⟩ := ih
    refine ⟨r ++ octs (N.getD (i + 1 + k) 0) ((s + (i + 1 + k)) % 3), ?_⟩
    rw [← List.append_assoc, ← hr]
    unfold octsTo
    rw [show i + 1 + (k + 1) = (i + 1 + k) + 1 by omega, List.range_succ, List.map_append, List.flatten_append]
    simp
theorem flags_names : ∀ l, l < 9 → flagNames 32 (31 * 2 ^ l) = namesAt l := by decide +kernel
theorem names_join : ∀ l, l < 9 → JoinOk ", " (namesAt l) = true := by decide +kernel
theorem names_ok : ∀ l, l < 9 → PyData.strOk (Txt.join ", " (namesAt l)) = true := by decide +kernel
section
variable {c : Cx} {C D : Addr} {K : Frag} {fI fM : Addr} {pI cI pM cM : Value} {vs : List (Int × Value)} {f : Nat → Addr} {tc tm tz : Tok} {Q : Out → Prop}
theorem teq_self {t : T} (h : t.isData = true) : teq t t = true := PySem.SeqAt.eqv_refl _ (T.canLay t h)
theorem allData_int : ∀ l : List Int, allData (l.map T.int) = true
  | [] => rfl
  | _ :: r => by simp only [List.map_cons, allData, T.isData, allData_int r, Bool.and_self]
theorem deps_int : ∀ l : List Int, deps (l.map T.int) = 0
  | [] => rfl
  | _ :: r => by simp only [List.map_cons, deps, T.dep, deps_int r, Nat.max_self]
theorem dep_int (l : List Int) : (T.list (l.map T.int)).dep ≤ 50 := by
  show deps (l.map T.int) + 1 ≤ 50
  rw [deps_int]; decide
noncomputable abbrev dT (N : List Nat) : T := .list ((zl N).map T.int)
noncomputable abbrev nT (s : Nat) : T := .list ((namesAt (s % 9)).map T.str)
theorem law_B (E : Env2 c.W C D K fI fM pI cI pM cM vs f tc tm tz) (hn : 3 ≤ c.n) (sc : X) (N : List Nat) (hNl : N.length = 5) (hNb : ∀ n ∈ N, n < 2 ^ 30)
    (s : Nat) (pl nb : X)
    (next : ∀ B pos, Ex c dL ((defAt P2 22).body.drop 9) (lns sc (.tr (dT N)) (.mt 13) pl nb .any .any .any .any .any .any .any .any .any .any .any .any .any
      :: lcs (.tr (.int s)) (.tr (.int (s % 9 : Nat))) (.tr (nT s)) (.mt 14) (.tr (dT N)) .any .any .any .any .any .any .any [.list ((octsTo N s 5).map T.int), .bit B pos]) Q) :
    Ex c dL ((defAt P2 22).body.drop 6) (lns sc (.tr (dT N)) (.mt 13) pl nb .any .any .any .any .any .any .any .any .any .any .any .any .any
      :: lcs (.tr (.int s)) (.tr (.int (s % 9 : Nat))) (.tr (nT s)) .any .any .any .any .any .any .any .any .any [.list ((octsTo N s 5).map T.int)]) Q := by
  have hlen := octsTo_len (s := s) (fun n hn => Nat.lt_of_lt_of_le (hNb n hn) (by decide)) 5
  refine Ex.cons (Ex1.asg (EvX.callB (Ev.bt Boot.iter (by walk_at "mem") (E.bt _ (by decide))) (EvS.cons (EvX.callT (Ev.bt Boot.bytes (by walk_at "mem") (E.bt _ (by decide))) (EvS.cons (by walk_at "ev") EvS.nil)
    (CaX.cast (u := .bytes (u8 (octsTo N s 5)).toArray) (CaX.bytesM (ns := octsTo N s 5) rfl (octsTo_oct N s 5) (by omega)) rfl)) EvS.nil) (CaX.iterBytes (n := 14) rfl (by (repeat (first | with_reducible exact PushL.nil | apply PushL.cons))))) (by walk_at "as") ?_)
  refine Ex.cons (Ex1.asgC (k := 5) (by walk_at "mem") (EvX.lcM (us := (zl N).map T.int) (ys := (zl N).map T.int) 15 0 ["number"] [("number", .loc), ("_parse_varint", .glb), ("tape", .cel 4)]
    (fun i => lns sc (.tr (dT N)) (.mt 13) pl nb .any .any .any .any .any .any .any .any .any .any .any .any .any :: lcs (.tr (.int s)) (.tr (.int (s % 9 : Nat))) (.tr (nT s)) (.mt 14) .any .any .any .any .any .any .any .any [.list ((octsTo N s 5).map T.int), .bit (u8 (octsTo N s 5)) (octsTo N s i).length])
    (fun t => [.ns [("number", .tr t)]])
    (Src.list (by walk_at "ev")) (fun _ => rfl) (fun _ _ => trivial) (by rw [List.length_map, List.length_map, hNl]; decide) rfl (fun h => ?_) (fun c' acc hc i t y ht hy mo => ?_) (fun t ht => ⟨by (repeat' first | exact WkL.nil | exact WkN.nil | apply WkL.cons | apply WkN.cons | exact WkX.any | exact WkX.eq rfl | exact WkM.eq rfl | apply WkM.ns | apply WkM.cell | exact WkM.dead), rfl⟩)) (by walk_at "as") ?_)
  · intro mo hm
    have hm' : mo ∈ (lns sc (.tr (dT N)) (.mt 13) pl nb .any .any .any .any .any .any .any .any .any .any .any .any .any :: lcs (.tr (.int s)) (.tr (.int (s % 9 : Nat))) (.tr (nT s)) (.mt 14) .any .any .any .any .any .any .any .any [.list ((octsTo N s 5).map T.int)]) ++ [.bit (u8 (octsTo N s 5)) (octsTo N s ((zl N).map T.int).length).length] := hm
    rcases List.mem_append.mp hm' with h1 | h1
    · exact h mo (show mo ∈ _ ++ [_] from List.mem_append_left _ h1)
    · rw [List.mem_singleton.mp h1]; trivial
  · have hni : ∃ n, N[i]? = some n ∧ t = .int n := by
      rw [List.getElem?_map, List.getElem?_map] at ht
      cases h : N[i]? with
      | none => rw [h] at ht; cases ht
      | some n => rw [h] at ht; exact ⟨n, rfl, (Option.some.inj ht).symm⟩
    have hyt : y = t := by rw [ht] at hy; exact (Option.some.inj hy).symm
    subst hyt
    obtain ⟨n, hni, rfl⟩ := hni
    have hi5 : i < 5 := by have := (List.getElem?_eq_some_iff.mp hni).1; omega
    have hnb := hNb n (List.mem_of_getElem? hni)
    have E' : Env2 c'.W C D K fI fM pI cI pM cM vs f tc tm tz := hc.hW.symm ▸ E
    have hn' : 3 ≤ c'.n := by rw [hc.hn]; exact hn
    have el : (octsTo N s (i + 1)).length = (octsTo N s i).length + (u8 (octs n ((s + i) % 3))).length := by rw [octsTo_step hni, List.length_append, u8, List.length_map]
    rw [el]
    simp only [compFr, List.map, List.replicate, List.cons_append, List.nil_append, id_eq]
    refine ⟨by walk_at "as", ?_⟩
    refine EvX.call (Ev.glob (by walk_at "mem") (E'.nm (i := 7) (by decide))) (E'.fn 7 (by decide)) (EvS.cons (by walk_at "ev") EvS.nil) (CaX.cast (CaX.fnBit (w2_varint (E'.fn 7 (by decide)) (E'.bt _ (by decide)) (u8 (octsTo N s 5)) (octsTo N s i).length (u8 (octs n ((s + i) % 3))) (octs_vOk _ _) ?_ ?_) (by omega) (by walk_at "put")) ?_)
    · obtain ⟨r, hr⟩ := octsTo_split (s := s) hni hi5
      refine ⟨u8 r, ?_⟩
      rw [hr, u8, u8, u8, List.map_append, List.map_append, List.append_assoc, List.drop_left' (by rw [List.length_map])]
    · rw [octs_vVal]; exact Nat.lt_of_lt_of_le hnb (by decide)
    · rw [octs_vVal]
  rw [List.length_map, List.length_map, hNl]
  have hl : s % 9 < 9 := Nat.mod_lt _ (by decide)
  have hp2 : 2 ^ (s % 9) ≤ 2 ^ 8 := Nat.pow_le_pow_right (by decide) (by omega)
  have hp0 := Nat.two_pow_pos (s % 9)
  have e31 : (31 : Int) * 2 ^ (((s % 9 : Nat) : Int)).toNat = ((31 * 2 ^ (s % 9) : Nat) : Int) := by rw [Int.toNat_natCast]; push_cast; rfl
  refine Ex.cons (Ex1.ite (EvB.or (EvB.cmp (by walk_at "ev") (by walk_at "ev") (OpB.neT (t := dT N) (u := dT N) (allData_int _) (allData_int _) (dep_int _))) (fun _ => EvB.or (EvB.cmp
    (EvX.call (Ev.glob (by walk_at "mem") (E.nm (i := 6) (by decide))) (E.fn 6 (by decide)) (EvS.cons (Ev.cast (u := .int (31 * 2 ^ (s % 9) : Nat)) (EvX.bin (by walk_at "ev") (by walk_at "ev") (OpX.shlI (by omega) (by omega) (by decide))) (by rw [e31])) EvS.nil)
      (CaX.fn (ts := [.int (31 * 2 ^ (s % 9) : Nat)]) (w2_flags (E.fn 6 (by decide)) E.flags E.fname (E.bt _ (by decide)) (E.bt _ (by decide)) (31 * 2 ^ (s % 9)) (by omega) (by omega)) (by omega)))
    (EvX.join (xs := namesAt (s % 9)) (by walk_at "ev") (by walk_at "ev") ?_) (OpB.neT ?_ ?_ (Nat.zero_le _))) (fun _ => EvB.or_nil))) (fun hq => ?_) (fun _ => ?_))
  · exact names_join _ hl
  · rw [flags_names _ hl]; exact names_ok _ hl
  · exact names_ok _ hl
  · rw [flags_names _ hl] at hq
    rw [teq_self (t := .list _) (allData_int _), teq_self (t := .str _) (names_ok _ hl)] at hq
    cases hq
  exact Ex.nil (next _ _)
end
end
-- C16
section
section
variable {c : Cx} {C D : Addr} {K : Frag} {fI fM : Addr} {pI cI pM cM : Value} {vs : List (Int × Value)} {f : Nat → Addr} {tc tm tz : Tok} {Q : Out → Prop}
noncomputable def pairsN : List (Nat × Nat) := [(0, 1), (0, 2), (1, 2), (0, 3), (1, 3), (2, 3), (0, 4), (1, 4), (2, 4), (3, 4)]
noncomputable abbrev pairT (p : Nat × Nat) : T := .tup [.int (p.1 : Nat), .int (p.2 : Nat)]
noncomputable def jT : T → Int
  | .int j => j
  | _ => 0
theorem pairs_flat : flat2 ((rng 0 5).map T.int) (fun t => (rng 0 (jT t)).map T.int) (fun t u => .tup [u, t]) = pairsN.map pairT := by rfl
theorem law_C (E : Env2 c.W C D K fI fM pI cI pM cM vs f tc tm tz) (hn : 3 ≤ c.n) (sc oc pl nb : X) (N : List Nat) (s : Nat) (r : List MO) (tp : X) (hr : r.length = 2)
    (next : Ex c dL ((defAt P2 22).body.drop 10) (lns sc (.tr (dT N)) oc pl nb (.tr (.list (pairsN.map pairT))) .any .any .any .any .any .any .any .any .any .any .any .any
      :: lcs (.tr (.int s)) (.tr (.int (s % 9 : Nat))) (.tr (nT s)) tp (.tr (dT N)) .any .any .any .any .any .any .any r) Q) :
    Ex c dL ((defAt P2 22).body.drop 9) (lns sc (.tr (dT N)) oc pl nb .any .any .any .any .any .any .any .any .any .any .any .any .any
      :: lcs (.tr (.int s)) (.tr (.int (s % 9 : Nat))) (.tr (nT s)) tp (.tr (dT N)) .any .any .any .any .any .any .any r) Q := by
  have hrange := E.bt "range" (by decide)
  obtain ⟨m1, m2, rfl⟩ := len2 hr
  refine Ex.cons (Ex1.lc2 15 0 ["j", "i"] [("j", .loc), ("i", .loc), ("range", .glb)] (us := (rng 0 5).map T.int) (fun t => (rng 0 (jT t)).map T.int) (fun t u => .tup [u, t]) (fun t => [.ns [("j", .tr t), ("i", .any)]]) (fun t u => [.ns [("j", .tr t), ("i", .tr u)]])
    (Src.range1 (Ev.bt Boot.range (by walk_at "mem") hrange) (by walk_at "es") (by decide)) rfl (fun _ => trivial) (by decide +kernel) (fun t ht => ?_) ⟨fun c' acc hc t ht => ?_, fun t ht => ⟨⟨by (repeat' first | exact WkL.nil | exact WkN.nil | apply WkL.cons | apply WkN.cons | exact WkX.any | exact WkX.eq rfl | exact WkM.eq rfl | apply WkM.ns | apply WkM.cell | exact WkM.dead), rfl⟩, fun u hu => ⟨by (repeat' first | exact WkL.nil | exact WkN.nil | apply WkL.cons | apply WkN.cons | exact WkX.any | exact WkX.eq rfl | exact WkM.eq rfl | apply WkM.ns | apply WkM.cell | exact WkM.dead), rfl⟩⟩, fun _ _ => rfl⟩ ?_ (by walk_at "mem") (by walk_at "put") (by rw [pairs_flat]; walk_at "putn") next)
  · obtain ⟨j, hj, rfl⟩ := List.mem_map.mp ht
    have := mem_rng hj
    rw [List.length_map, rng_length]
    show (j - 0).toNat ≤ 1000
    omega
  · obtain ⟨j, hj, rfl⟩ := List.mem_map.mp ht
    have hb := mem_rng hj
    have hr' : c'.W.mg "range" = Option.none := by rw [hc.hW]; exact hrange
    dsimp only [jT]
    refine ⟨fun mo => by simp only [compFr, List.map, List.replicate, List.cons_append, List.nil_append, id_eq]; walk_at "as", ⟨fun _ => True, fun done => Src.range1 (Ev.bt Boot.range (by walk_at "mem") hr') (by simp only [compFr, List.map, List.replicate, List.cons_append, List.nil_append, id_eq]; walk_at "es") (by omega), fun _ => trivial⟩, fun u hu mo => ?_⟩
    simp only [compFr, List.map, List.replicate, List.cons_append, List.nil_append, id_eq]
    exact ⟨by walk_at "as", by walk_at "ev"⟩
  · intro h mo hm
    rcases List.mem_cons.mp hm with rfl | hm
    · exact PutN.fits (y := "pairs") (x := .tr (.list (pairsN.map pairT))) (by walk_at "putn") trivial (h _ (.head _))
    · exact h mo (.tail _ hm)
end
end
-- C17
section
section
variable {c : Cx} {C D : Addr} {K : Frag} {fI fM : Addr} {pI cI pM cM : Value} {vs : List (Int × Value)} {f : Nat → Addr} {tc tm tz : Tok} {Q : Out → Prop}
noncomputable def tieN (N : List Nat) (k : Nat) : Nat := N.getD (k / 2) 0 / 10 ^ (k % 2) % 10
noncomputable def tieF (N : List Nat) : T → T
  | .tup [.int k, p] => .tup [p, .int (tieN N k.toNat)]
  | _ => .none
noncomputable abbrev tiesT (N : List Nat) : T := .list ((enumT (pairsN.map pairT)).map (tieF N))
noncomputable def sndT : T → T
  | .tup [_, .tup [_, y]] => y
  | _ => .none
noncomputable def fstT : T → T
  | .tup [_, .tup [x, _]] => x
  | _ => .none
noncomputable def plT : T → T
  | .tup [x, _] => x
  | _ => .none
theorem law_D (E : Env2 c.W C D K fI fM pI cI pM cM vs f tc tm tz) (hn : 3 ≤ c.n) (sc nu oc pl nb : X) (N : List Nat) (hNl : N.length = 5) (s : Nat) (r : List MO) (wh lo na tp : X) (hr : r.length = 2)
    (next : Ex c dL ((defAt P2 22).body.drop 11) (lns sc nu oc pl nb (.tr (.list (pairsN.map pairT))) .any .any .any .any .any .any .any .any .any .any .any .any
      :: lcs wh lo na tp (.tr (dT N)) .any .any (.tr (tiesT N)) .any .any .any .any r) Q) :
    Ex c dL ((defAt P2 22).body.drop 10) (lns sc nu oc pl nb (.tr (.list (pairsN.map pairT))) .any .any .any .any .any .any .any .any .any .any .any .any
      :: lcs wh lo na tp (.tr (dT N)) .any .any .any .any .any .any .any r) Q := by
  obtain ⟨m1, m2, rfl⟩ := len2 hr
  refine Ex.cons (Ex1.asgC (k := 8) (by walk_at "mem") (EvX.lcB 15 0 ["place", "i", "j"] [("place", .loc), ("i", .loc), ("j", .loc), ("told", .cel 5)] (fun _ => true) (tieF N) (fun t => [.ns [("place", .tr (plT t)), ("i", .tr (fstT t)), ("j", .tr (sndT t))]])
    (us := enumT (pairsN.map pairT)) (Src.enumL (Ev.bt Boot.enumerate (by walk_at "mem") (E.bt _ (by decide))) (EvS.cons (by walk_at "ev") EvS.nil)) rfl (fun _ => trivial) (by decide +kernel) ⟨fun c' acc hc t ht mo => ?_, fun t ht => ⟨by (repeat' first | exact WkL.nil | exact WkN.nil | apply WkL.cons | apply WkN.cons | exact WkX.any | exact WkX.eq rfl | exact WkM.eq rfl | apply WkM.ns | apply WkM.cell | exact WkM.dead), rfl⟩⟩) (by walk_at "as") ?_)
  · obtain ⟨k, hk⟩ := List.mem_iff_getElem?.mp ht
    rw [enumT_get, List.getElem?_map] at hk
    obtain ⟨p, hp, rfl⟩ : ∃ p, pairsN[k]? = some p ∧ t = .tup [.int k, pairT p] := by
      cases h : pairsN[k]? with
      | none => rw [h] at hk; cases hk
      | some p => rw [h] at hk; exact ⟨p, rfl, (Option.some.inj hk).symm⟩
    have hk10 : k < 10 := (List.getElem?_eq_some_iff.mp hp).1
    simp only [compFr, List.map, List.replicate, List.cons_append, List.nil_append, id_eq]
    dsimp only [plT, fstT, sndT, tieF]
    refine ⟨by walk_at "as", Tst.nil, fun _ => Ev.tup (EvTs.cons (by walk_at "ev") (EvTs.cons ?_ EvTs.nil))⟩
    have e2 : ((k : Nat) : Int).fdiv 2 = ((k / 2 : Nat) : Int) := fdiv_nat k 2
    have e3' : ((k : Nat) : Int).fmod 2 = ((k % 2 : Nat) : Int) := fmod_nat k 2
    have e3 : (((k : Nat) : Int).fmod 2).toNat = k % 2 := by rw [e3', Int.toNat_natCast]
    have e4 : (10 : Int) ^ (k % 2) = ((10 ^ (k % 2) : Nat) : Int) := by push_cast; rfl
    have h01 : k % 2 = 0 ∨ k % 2 = 1 := by omega
    have hp1 : 10 ^ (k % 2) = 1 ∨ 10 ^ (k % 2) = 10 := by rcases h01 with h | h <;> rw [h] <;> decide
    refine Ev.cast (EvX.bin (EvX.bin (EvX.sub (by walk_at "ev") (Ev.cast (u := .int (k / 2 : Nat)) (EvX.bin (by walk_at "ev") (by walk_at "ev") (OpX.divI (by decide) (by decide))) (by rw [e2])) (GetX.listN (t := .int (N.getD (k / 2) 0)) ?_ ?_))
      (Ev.cast (u := .int (10 ^ (k % 2) : Nat)) (EvX.bin (by walk_at "ev") (EvX.bin (by walk_at "ev") (by walk_at "ev") (OpX.modI (by decide))) (OpX.powI ?_ ?_ (by decide))) (by rw [e3, e4])) (OpX.divI ?_ ?_)) (by walk_at "ev") (OpX.modI (by decide))) ?_
    · rw [List.getElem?_map, List.getElem?_map, getD_some 0 (by omega)]; rfl
    · rw [List.length_map, List.length_map]; omega
    · rw [e3']; exact Int.natCast_nonneg _
    · rw [e3']; omega
    · omega
    · omega
    · rw [tieN, Int.fdiv_eq_ediv_of_nonneg _ (by omega), Int.fmod_eq_emod_of_nonneg _ (by omega), Int.toNat_natCast]; push_cast; rfl
  · rw [List.filter_eq_self.mpr (fun _ _ => rfl)]; exact next
end
end
-- C18
section
section
variable {c : Cx} {C D : Addr} {K : Frag} {fI fM : Addr} {pI cI pM cM : Value} {vs : List (Int × Value)} {f : Nat → Addr} {tc tm tz : Tok} {Q : Out → Prop}
theorem foldKv_nodup (g : T → Str) (h : T → T) : ∀ (l : List T) (acc : List (Str × T)), (∀ t ∈ l, ∀ kv ∈ acc, kv.1 ≠ g t) → (l.map g).Nodup → l.foldl (fun acc t => setKv acc (g t) (h t)) acc = acc ++ l.map fun t => (g t, h t)
  | [], acc, _, _ => by simp
  | t :: r, acc, ha, hn => by
    rw [List.map_cons, List.nodup_cons] at hn
    have e : setKv acc (g t) (h t) = acc ++ [(g t, h t)] := by
      unfold setKv
      rw [if_neg]
      intro hq
      obtain ⟨kv, hkv, hk⟩ := List.any_eq_true.mp hq
      exact ha t (.head _) kv hkv (of_decide_eq_true hk)
    rw [List.foldl_cons, e, foldKv_nodup g h r _ (fun u hu kv hkv => ?_) hn.2, List.append_assoc]
    · rfl
    · rcases List.mem_append.mp hkv with hkv | hkv
      · exact ha u (.tail _ hu) kv hkv
      · rw [List.mem_singleton.mp hkv]
        intro q
        exact hn.1 (by rw [show g t = g u from q]; exact List.mem_map_of_mem hu)
noncomputable def tiesN (N : List Nat) : List ((Nat × Nat) × Nat) := pairsN.mapIdx fun k p => (p, tieN N k)
noncomputable abbrev tieT (q : (Nat × Nat) × Nat) : T := .tup [pairT q.1, .int (q.2 : Nat)]
noncomputable def ofK (k : Nat) (q : (Nat × Nat) × Nat) : Bool := decide (q.1.1 = k) || decide (q.1.2 = k)
noncomputable def keyK (names : List Str) (k : Nat) (q : (Nat × Nat) × Nat) : Str := names.getD (q.1.1 + q.1.2 - k) ""
noncomputable def tblN (N : List Nat) (names : List Str) (k : Nat) : Kv := ((tiesN N).filter (ofK k)).map fun q => (keyK names k q, (q.2 : Int))
noncomputable abbrev tiesL (N : List Nat) : T := .list ((tiesN N).map tieT)
noncomputable def inP (k : Int) : T → Bool
  | .tup [.tup [.int i, .int j], _] => teq (.int i) (.int k) || (teq (.int j) (.int k) || false)
  | _ => false
noncomputable def keyF (names : List Str) (k : Int) : T → Str
  | .tup [.tup [.int i, .int j], _] => names.getD (i + j - k).toNat ""
  | _ => ""
noncomputable def aT : T → T
  | .tup [.tup [x, _], _] => x
  | _ => .none
noncomputable def bT : T → T
  | .tup [.tup [_, x], _] => x
  | _ => .none
noncomputable def cT : T → T
  | .tup [_, x] => x
  | _ => .none
noncomputable def tblF (N : List Nat) (names : List Str) : T → T
  | .int k => dI (tblN N names k.toNat)
  | _ => .none
theorem teq_int (a b : Int) : teq (.int a) (.int b) = decide (a = b) := by
  show PyData.eqv (.int a) (.int b) = _
  rw [Bool.eq_iff_iff]; simp [PyData.eqv]
theorem tiesN_mem {N : List Nat} {q : (Nat × Nat) × Nat} (h : q ∈ tiesN N) : q.1 ∈ pairsN ∧ q.2 < 10 := by
  unfold tiesN at h
  rw [List.mem_mapIdx] at h
  obtain ⟨i, hi, rfl⟩ := h
  exact ⟨List.getElem_mem hi, Nat.mod_lt _ (by decide)⟩
theorem pairsN_lt : ∀ p ∈ pairsN, p.1 < p.2 ∧ p.2 < 5 := by decide
theorem keys_nodup : ∀ l, l < 9 → ∀ k, k < 5 → ((pairsN.filter fun p => decide (p.1 = k) || decide (p.2 = k)).map fun p => (namesAt l).getD (p.1 + p.2 - k) "").Nodup := by decide +kernel
theorem tiesN_fst (N : List Nat) : (tiesN N).map (·.1) = pairsN := by rfl
theorem inP_tie (k : Nat) (q : (Nat × Nat) × Nat) : inP k (tieT q) = ofK k q := by
  show (teq (.int (q.1.1 : Nat)) (.int k) || (teq (.int (q.1.2 : Nat)) (.int k) || false)) = (decide (q.1.1 = k) || decide (q.1.2 = k))
  rw [teq_int, teq_int, Bool.or_false]
  congr 1 <;> (rw [decide_eq_decide]; omega)
theorem tbl_eq (N : List Nat) {l k : Nat} (hl : l < 9) (hk : k < 5) : foldKv (keyF (namesAt l) k) cT (((tiesN N).map tieT).filter (inP k)) = mapI (tblN N (namesAt l) k) := by
  have e : (inP (k : Int) ∘ tieT) = ofK k := funext fun q => inP_tie k q
  have ek : ∀ q, keyF (namesAt l) k (tieT q) = keyK (namesAt l) k q := fun q => by
    show (namesAt l).getD (((q.1.1 : Nat) : Int) + ((q.1.2 : Nat) : Int) - (k : Int)).toNat "" = _
    rw [keyK, show (((q.1.1 : Nat) : Int) + ((q.1.2 : Nat) : Int) - (k : Int)).toNat = q.1.1 + q.1.2 - k from Int.toNat_sub (q.1.1 + q.1.2) k]
  have nd := keys_nodup l hl k hk
  rw [← tiesN_fst N, List.filter_map, List.map_map] at nd
  rw [List.filter_map, e, foldKv, foldKv_nodup _ _ _ [] (fun _ _ _ h => nomatch h) ?_, List.nil_append, List.map_map, tblN, mapI, List.map_map]
  · exact List.map_congr_left fun q _ => by show (keyF (namesAt l) k (tieT q), T.int (q.2 : Nat)) = _; rw [ek]; rfl
  · rw [List.map_map]
    have e3 : (keyF (namesAt l) k ∘ tieT) = fun q => keyK (namesAt l) k q := funext ek
    rw [e3]
    exact nd
end
end
-- C19
section
section
variable {c : Cx} {C D : Addr} {K : Frag} {fI fM : Addr} {pI cI pM cM : Value} {vs : List (Int × Value)} {f : Nat → Addr} {tc tm tz : Tok} {Q : Out → Prop}
theorem namesAt_len : ∀ l, l < 9 → (namesAt l).length = 5 := by decide +kernel
theorem law_E (E : Env2 c.W C D K fI fM pI cI pM cM vs f tc tm tz) (sc nu oc pl nb pa : X) (N : List Nat) (s : Nat) (r : List MO) (wh lo tp td : X) (hr : r.length = 2)
    (next : Ex c dL ((defAt P2 22).body.drop 12) (lns sc nu oc pl nb pa (.tr (.list ((List.range 5).map fun k => dI (tblN N (namesAt (s % 9)) k)))) .any .any .any .any .any .any .any .any .any .any .any
      :: lcs wh lo (.tr (nT s)) tp td .any .any (.tr (tiesL N)) .any .any .any .any r) Q) :
    Ex c dL ((defAt P2 22).body.drop 11) (lns sc nu oc pl nb pa .any .any .any .any .any .any .any .any .any .any .any .any
      :: lcs wh lo (.tr (nT s)) tp td .any .any (.tr (tiesL N)) .any .any .any .any r) Q := by
  have hl : s % 9 < 9 := Nat.mod_lt _ (by decide)
  have hnl := namesAt_len _ hl
  obtain ⟨m1, m2, rfl⟩ := len2 hr
  refine Ex.cons (Ex1.lcB 15 1 [] [("k", .cel 17), ("names", .cel 3), ("ties", .cel 8)] (us := (rng 0 5).map T.int) (fun _ => true) (tblF N (namesAt (s % 9))) (fun t => [.ns [], .cell (.tr t)])
    (Src.range1 (Ev.bt Boot.range (by walk_at "mem") (E.bt _ (by decide))) (by walk_at "es") (by decide)) rfl (fun _ => trivial) (by decide +kernel) ⟨fun c' acc hc t ht mo => ?_, fun t ht => ⟨by (repeat' first | exact WkL.nil | exact WkN.nil | apply WkL.cons | apply WkN.cons | exact WkX.any | exact WkX.eq rfl | exact WkM.eq rfl | apply WkM.ns | apply WkM.cell | exact WkM.dead), rfl⟩⟩ (by walk_at "mem") (by walk_at "put") (by rw [show (((rng 0 5).map T.int).filter (fun _ => true)).map (tblF N (namesAt (s % 9))) = (List.range 5).map fun k => dI (tblN N (namesAt (s % 9)) k) from rfl]; walk_at "putn") next)
  obtain ⟨x, hx, rfl⟩ := List.mem_map.mp ht
  have hb := mem_rng hx
  obtain ⟨k, rfl⟩ : ∃ k : Nat, x = k := ⟨x.toNat, by omega⟩
  have hk : k < 5 := by omega
  simp only [compFr, List.map, List.replicate, List.cons_append, List.nil_append, id_eq]
  refine ⟨by walk_at "as", Tst.nil, fun _ => ?_⟩
  refine Ev.cast (EvX.dcB 18 0 ["i", "j", "calls"] [("i", .loc), ("j", .loc), ("calls", .loc), ("k", .cel 17), ("names", .cel 3)] (inP k) (keyF (namesAt (s % 9)) k) cT (fun t => [.ns [("i", .tr (aT t)), ("j", .tr (bT t)), ("calls", .tr (cT t))]])
    (us := (tiesN N).map tieT) (Src.list (by walk_at "ev")) rfl (fun _ => trivial) ?_ ⟨fun c' acc hc t ht mo => ?_, fun t ht => ⟨by (repeat' first | exact WkL.nil | exact WkN.nil | apply WkL.cons | apply WkN.cons | exact WkX.any | exact WkX.eq rfl | exact WkM.eq rfl | apply WkM.ns | apply WkM.cell | exact WkM.dead), rfl⟩⟩ (hok := by dsimp only; decide +kernel)) (congrArg T.dict (tbl_eq N hl hk))
  · rw [List.length_map, tiesN, List.length_mapIdx]; decide
  · obtain ⟨q, hq, rfl⟩ := List.mem_map.mp ht
    obtain ⟨hp, hd⟩ := tiesN_mem hq
    have hpl := pairsN_lt _ hp
    have hkey : inP (k : Int) (tieT q) = true → k ≤ q.1.1 + q.1.2 := fun h => by
      rw [inP_tie, ofK, Bool.or_eq_true] at h
      rcases h with h | h <;> have := of_decide_eq_true h <;> omega
    have hkey2 : inP (k : Int) (tieT q) = true → q.1.1 + q.1.2 - k < 5 := fun h => by
      rw [inP_tie, ofK, Bool.or_eq_true] at h
      rcases h with h | h <;> have := of_decide_eq_true h <;> omega
    simp only [compFr, List.map, List.replicate, List.cons_append, List.nil_append, id_eq]
    dsimp only [aT, bT, cT]
    refine ⟨by walk_at "as", Tst.one (EvB.cmp (by walk_at "ev") (by walk_at "ev") (OpB.inT rfl rfl (Nat.zero_le _))), fun h => ⟨?_, by walk_at "ev"⟩⟩
    have h1 := hkey h
    have h2 := hkey2 h
    refine EvX.sub (by walk_at "ev") (Ev.cast (u := .int (q.1.1 + q.1.2 - k : Nat)) (EvX.bin (EvX.bin (by walk_at "ev") (by walk_at "ev") OpX.addI) (by walk_at "ev") OpX.subI) (by congr 1; omega)) (GetX.listN ?_ (by rw [List.length_map]; omega))
    show _ = some (T.str ((namesAt (s % 9)).getD (((q.1.1 : Nat) : Int) + ((q.1.2 : Nat) : Int) - (k : Int)).toNat ""))
    rw [List.getElem?_map, getD_some (Str.ofString "") (by omega), show (((q.1.1 : Nat) : Int) + ((q.1.2 : Nat) : Int) - (k : Int)).toNat = q.1.1 + q.1.2 - k from Int.toNat_sub (q.1.1 + q.1.2) k]; rfl
end
end
-- C20
section
section
variable {c : Cx} {C D : Addr} {K : Frag} {fI fM : Addr} {pI cI pM cM : Value} {vs : List (Int × Value)} {f : Nat → Addr} {tc tm tz : Tok} {Q : Out → Prop}
noncomputable def xorZ (s i j : Int) : Bool := Builtin.bitAnd (Builtin.bitXor (s.fdiv (2 ^ i.toNat)) (s.fdiv (2 ^ j.toNat))) 1 != 0
noncomputable def xorT (s : Int) : T → Bool
  | .tup [.tup [.int i, .int j], _] => xorZ s i j
  | _ => false
noncomputable def plainL (N : List Nat) (s : Int) : List Int := ((tiesN N).filter fun q => xorZ s (q.1.1 : Nat) (q.1.2 : Nat)).map fun q => ((q.2 : Nat) : Int)
noncomputable def plainZ (N : List Nat) (s : Int) : Int := (plainL N s).sum
noncomputable def plainF (N : List Nat) : T → T
  | .int s => .int (plainZ N s)
  | _ => .none
noncomputable abbrev plainT (N : List Nat) : T := .list (((rng 0 32).map (plainZ N)).map T.int)
theorem law_F (E : Env2 c.W C D K fI fM pI cI pM cM vs f tc tm tz) (sc nu oc pl nb pa ta : X) (N : List Nat) (r : List MO) (wh lo na tp td : X) (hr : r.length = 2)
    (next : Ex c dL ((defAt P2 22).body.drop 13) (lns sc nu oc pl nb pa ta .any .any .any .any .any .any .any .any .any .any .any
      :: lcs wh lo na tp td .any .any (.tr (tiesL N)) .any (.tr (plainT N)) .any .any r) Q) :
    Ex c dL ((defAt P2 22).body.drop 12) (lns sc nu oc pl nb pa ta .any .any .any .any .any .any .any .any .any .any .any
      :: lcs wh lo na tp td .any .any (.tr (tiesL N)) .any .any .any .any r) Q := by
  obtain ⟨m1, m2, rfl⟩ := len2 hr
  refine Ex.cons (Ex1.asgC (k := 10) (by walk_at "mem") (Ev.cast (u := plainT N) (EvX.lcB 15 1 [] [("some", .cel 17), ("sum", .glb), ("ties", .cel 8)] (us := (rng 0 32).map T.int) (fun _ => true) (plainF N) (fun t => [.ns [], .cell (.tr t)])
    (Src.range1 (Ev.bt Boot.range (by walk_at "mem") (E.bt _ (by decide))) (by walk_at "es") (by decide)) rfl (fun _ => trivial) (by decide +kernel) ⟨fun c' acc hc t ht mo => ?_, fun t ht => ⟨by (repeat' first | exact WkL.nil | exact WkN.nil | apply WkL.cons | apply WkN.cons | exact WkX.any | exact WkX.eq rfl | exact WkM.eq rfl | apply WkM.ns | apply WkM.cell | exact WkM.dead), rfl⟩⟩) ?_) (by walk_at "as") next)
  · obtain ⟨x, hx, rfl⟩ := List.mem_map.mp ht
    have hb := mem_rng hx
    have hsum : c'.W.mg "sum" = Option.none := by rw [hc.hW]; exact E.bt _ (by decide)
    simp only [compFr, List.map, List.replicate, List.cons_append, List.nil_append, id_eq]
    refine ⟨by walk_at "as", Tst.nil, fun _ => ?_⟩
    refine EvX.callB (Ev.bt Boot.sum (by walk_at "mem") hsum) (EvS.cons (Ev.cast (u := .list ((plainL N x).map T.int)) (EvX.lcB 18 0 ["i", "j", "calls"] [("i", .loc), ("j", .loc), ("calls", .loc), ("some", .cel 17)] (xorT x) cT (fun t => [.ns [("i", .tr (aT t)), ("j", .tr (bT t)), ("calls", .tr (cT t))]])
      (us := (tiesN N).map tieT) (Src.list (by walk_at "ev")) (by rfl) (fun _ => trivial) ?_ ⟨fun c' acc hc t ht mo => ?_, fun t ht => ⟨by (repeat' first | exact WkL.nil | exact WkN.nil | apply WkL.cons | apply WkN.cons | exact WkX.any | exact WkX.eq rfl | exact WkM.eq rfl | apply WkM.ns | apply WkM.cell | exact WkM.dead), rfl⟩⟩ (hok := by dsimp only; decide +kernel)) ?_) EvS.nil) (CaX.sumL (ns := plainL N x))
    · rw [List.length_map, tiesN, List.length_mapIdx]; decide
    · obtain ⟨q, hq, rfl⟩ := List.mem_map.mp ht
      simp only [compFr, List.map, List.replicate, List.cons_append, List.nil_append, id_eq]
      dsimp only [aT, bT, cT]
      exact ⟨by walk_at "as", Tst.one (EvB.plain (EvX.bin (EvX.bin (EvX.bin (by walk_at "ev") (by walk_at "ev") (OpX.shrI (by omega))) (EvX.bin (by walk_at "ev") (by walk_at "ev") (OpX.shrI (by omega))) OpX.xorI) (by walk_at "ev") OpX.andI) Tru.int), fun _ => by walk_at "ev"⟩
    · rw [plainL, List.filter_map, List.map_map, List.map_map]; rfl
  · rw [List.filter_eq_self.mpr (fun _ _ => rfl), List.map_map, plainT, List.map_map]; rfl
end
end
-- C21
section
section
variable {c : Cx} {C D : Addr} {K : Frag} {fI fM : Addr} {pI cI pM cM : Value} {vs : List (Int × Value)} {f : Nat → Addr} {tc tm tz : Tok} {Q : Out → Prop}
noncomputable def tblsN (N : List Nat) (s : Nat) : List Kv := (List.range 5).map fun k => tblN N (namesAt (s % 9)) k
noncomputable def cutL (N : List Nat) : List Int := (rng 0 16).map (plainZ N)
noncomputable abbrev cutT (N : List Nat) : T := .list ((cutL N).map T.int)
noncomputable def callsL (N : List Nat) : List Int := (tiesN N).map fun q => ((q.2 : Nat) : Int)
noncomputable def dT2 : T → T
  | .tup [_, x] => x
  | _ => .none
noncomputable def dT1 : T → T
  | .tup [x, _] => x
  | _ => .none
theorem law_G (E : Env2 c.W C D K fI fM pI cI pM cM vs f tc tm tz) (hn : 3 ≤ c.n) (sc nu oc pl nb pa : X) (N : List Nat) (s : Nat) (r : List MO) (lo tp td : X) (hr : r.length = 2)
    (hT : ∀ t ∈ tblsN N s, t.length ≤ 8) (hok : ∀ n ∈ namesAt (s % 9), PyData.strOk n = true) (hokT : ∀ t ∈ tblsN N s, ∀ p ∈ t, PyData.strOk p.1 = true)
    (hC : cutsN (tblsN N s) (namesAt (s % 9)) 15 = cutL N) (hS : (cutL N).sum = 8 * (callsL N).sum)
    (next : Ex c dL ((defAt P2 22).body.drop 17) (lns sc nu oc pl nb pa (.tr (.list ((List.range 5).map fun k => dI (tblN N (namesAt (s % 9)) k)))) (.tr (cutT N)) (.tr (.int (s / 3 % 10 : Nat))) .any .any .any .any .any .any .any .any .any
      :: lcs (.tr (.int s)) lo (.tr (nT s)) tp td .any .any (.tr (tiesL N)) .any (.tr (plainT N)) (.mt 15) .any (r ++ [.list []])) Q) :
    Ex c dL ((defAt P2 22).body.drop 13) (lns sc nu oc pl nb pa (.tr (.list ((List.range 5).map fun k => dI (tblN N (namesAt (s % 9)) k)))) .any .any .any .any .any .any .any .any .any .any .any
      :: lcs (.tr (.int s)) lo (.tr (nT s)) tp td .any .any (.tr (tiesL N)) .any (.tr (plainT N)) .any .any r) Q := by
  have hl : s % 9 < 9 := Nat.mod_lt _ (by decide)
  have hnl := namesAt_len _ hl
  obtain ⟨m1, m2, rfl⟩ := len2 hr
  refine Ex.cons (Ex1.asg (EvX.call (Ev.glob (by walk_at "mem") (E.nm (i := 18) (by decide))) (E.fn 18 (by decide)) (EvS.cons (by walk_at "ev") (EvS.cons (by walk_at "ev") EvS.nil))
    (CaX.cast (u := cutT N) (CaX.fn (n := 2) (ts := [.list ((List.range 5).map fun k => dI (tblN N (namesAt (s % 9)) k)), nT s]) ?_ (by omega)) (congrArg (fun l => T.list (l.map T.int)) hC))) (by walk_at "as") ?_)
  · have h := w2_cuts (E.fn 18 (by decide)) (E.fn 2 (by decide)) (E.fn 3 (by decide)) (E.bt _ (by decide)) (E.bt _ (by decide)) (E.bt _ (by decide)) (tblsN N s) (namesAt (s % 9)) hT (by rw [tblsN, List.length_map, List.length_range]) hnl hok hokT
    rw [show (tblsN N s).map dI = (List.range 5).map fun k => dI (tblN N (namesAt (s % 9)) k) by rw [tblsN, List.map_map]; rfl] at h
    exact h
  have hsum : c.W.mg "sum" = Option.none := E.bt _ (by decide)
  refine Ex.cons (Ex1.ite (b := !decide (true = true)) (EvB.cmp (EvX.callB (Ev.bt Boot.sum (by walk_at "mem") hsum) (EvS.cons (by walk_at "ev") EvS.nil) (CaX.sumL (ns := cutL N)))
    (EvX.bin (by walk_at "ev") (EvX.callB (Ev.bt Boot.sum (by walk_at "mem") hsum) (EvS.cons (Ev.cast (u := .list ((callsL N).map T.int)) (EvX.lcB 15 0 ["two", "calls"] [("two", .loc), ("calls", .loc)] (fun _ => true) dT2 (fun t => [.ns [("two", .tr (dT1 t)), ("calls", .tr (dT2 t))]])
      (us := (tiesN N).map tieT) (Src.list (by walk_at "ev")) (by rfl) (fun _ => trivial) ?_ ⟨fun c' acc hc t ht mo => ?_, fun t ht => ⟨by (repeat' first | exact WkL.nil | exact WkN.nil | apply WkL.cons | apply WkN.cons | exact WkX.any | exact WkX.eq rfl | exact WkM.eq rfl | apply WkM.ns | apply WkM.cell | exact WkM.dead), rfl⟩⟩ (hok := by decide +kernel)) ?_) EvS.nil) (CaX.sumL (ns := callsL N))) (OpX.mulI (.inl (by decide)))) ?_) (fun h => absurd h (by decide)) (fun _ => ?_))
  · rw [List.length_map, tiesN, List.length_mapIdx]; decide
  · obtain ⟨q, hq, rfl⟩ := List.mem_map.mp ht
    simp only [compFr, List.map, List.replicate, List.cons_append, List.nil_append, id_eq]
    dsimp only [dT1, dT2]
    exact ⟨by walk_at "as", Tst.nil, fun _ => by walk_at "ev"⟩
  · rw [List.filter_eq_self.mpr (fun _ _ => rfl), List.map_map, callsL, List.map_map]; rfl
  · have e : (!decide (true = true)) = ((cutL N).sum != 8 * (callsL N).sum) := by rw [hS]; simp
    rw [e]; exact OpB.neI
  refine Ex.nil (Ex.cons (Ex1.asg (x := .tr (.int (s / 3 % 10 : Nat))) (Ev.cast (EvX.bin (EvX.bin (by walk_at "ev") (by walk_at "ev") (OpX.divI (by decide) (by decide))) (by walk_at "ev") (OpX.modI (by decide))) ?_) (by walk_at "as") ?_))
  · rw [Int.fdiv_eq_ediv_of_nonneg _ (by omega), Int.fmod_eq_emod_of_nonneg _ (by omega)]
    congr 1
  refine Ex.cons (Ex1.asg (EvX.newList (n := 15) (by walk_at "ts") (hn := rfl) (hp := by (repeat (first | with_reducible exact PushL.nil | apply PushL.cons)))) (by walk_at "as") ?_)
  exact next
end
end
-- C22
section
section
variable {c : Cx} {C D : Addr} {K : Frag} {fI fM : Addr} {pI cI pM cM : Value} {vs : List (Int × Value)} {f : Nat → Addr} {tc tm tz : Tok} {Q : Out → Prop}
noncomputable def turnBody : List Stmt := match (defAt P2 22).body.drop 17 with
  | .For _ _ b _ _ :: _ => b
  | _ => []
noncomputable def pairsS (s : Nat) : List (Nat × Nat) := pick pairsN (some (s / 3 % 10 : Nat)) none none ++ pick pairsN none (some (s / 3 % 10 : Nat)) none
noncomputable def sepK (ks : List (Int × Int)) (p : Nat × Nat) : Bool := ks.any fun r => xorZ r.1 (p.1 : Nat) (p.2 : Nat)
noncomputable def turnZ (s t : Nat) : Bool := Builtin.bitAnd ((s : Int).fdiv (2 ^ ((t : Nat) : Int).toNat)) 1 != 0
noncomputable def freeF (s t : Nat) (p : Nat × Nat) : Nat × Nat := if turnZ s t then p else (p.2, p.1)
noncomputable def freeL (s t : Nat) (ks : List (Int × Int)) (l : List (Nat × Nat)) : List (Nat × Nat) := (l.filter fun p => !sepK ks p).map (freeF s t)
noncomputable def xorR (i j : Nat) : T → Bool
  | .tup [.int x, _] => xorZ x i j
  | _ => false
theorem freeL_step (s t : Nat) (ks : List (Int × Int)) (l : List (Nat × Nat)) (i : Nat) (p : Nat × Nat) (h : l[i]? = some p) : freeL s t ks (l.take (i + 1)) = freeL s t ks (l.take i) ++ (if sepK ks p then [] else [freeF s t p]) := by
  unfold freeL
  rw [List.take_add_one, h, List.filter_append, List.map_append]
  congr 1
  cases h' : sepK ks p <;> simp [h']
theorem sepK_nil (ks : List (Int × Int)) (q : Nat × Nat) : teq (.list (((ks.filter fun r => xorZ r.1 (q.1 : Nat) (q.2 : Nat)).map (·.1)).map T.int)) (.list []) = !sepK ks q := by
  rw [teq_nil, sepK]
  induction ks with
  | nil => rfl
  | cons r rs ih =>
    rw [List.any_cons, List.filter_cons]
    cases xorZ r.1 (q.1 : Nat) (q.2 : Nat)
    · simpa using ih
    · rfl
theorem pairsS_mem : ∀ k, k < 10 → ∀ p ∈ pick pairsN (some (k : Nat)) none none ++ pick pairsN none (some (k : Nat)) none, p ∈ pairsN := by decide +kernel
theorem pairsS_len : ∀ k, k < 10 → (pick pairsN (some (k : Nat)) none none ++ pick pairsN none (some (k : Nat)) none).length = 10 := by decide +kernel
theorem tl_int (l : List Int) : allData (l.map T.int) = true := allData_int l
noncomputable abbrev ledK (fr i j : X) (tu : X) (pa cu sh wh lo na pl : X) (r : List MO) : List MO :=
  lns .any .any .any .any .any pa .any cu sh tu fr .any .any .any .any .any .any .any :: lcs wh lo na .any .any j i .any .any pl (.mt 15) .any (.dead :: .dead :: r)
set_option maxHeartbeats 1000000 in
theorem turn_A (E : Env2 c.W C D K fI fM pI cI pM cM vs f tc tm tz) (hn : 3 ≤ c.n) (N : List Nat) (s t : Nat) (ks : List (Int × Int)) (lo na pl cu x y z : X) (p : Nat × Nat) (hk : ks.length ≤ 4) (ht4 : t < 4) (hp : (freeL s t ks (pairsS s))[0]? = some p)
    (next : ∀ us, Ex c dL (turnBody.drop 3) (ledK (.mt 16) (.tr (.int p.1)) (.tr (.int p.2)) (.tr (.int t)) (.tr (.list (pairsN.map pairT))) cu (.tr (.int (s / 3 % 10 : Nat))) (.tr (.int s)) lo na pl [.list (ks.map rowT), .list us]) Q) :
    Ex c dL turnBody (ledK z x y (.tr (.int t)) (.tr (.list (pairsN.map pairT))) cu (.tr (.int (s / 3 % 10 : Nat))) (.tr (.int s)) lo na pl [.list (ks.map rowT)]) Q := by
  have hs10 : s / 3 % 10 < 10 := Nat.mod_lt _ (by decide)
  refine Ex.cons (Ex1.asg (EvX.newList (n := 16) (by walk_at "ts") (hn := rfl) (hp := by (repeat (first | with_reducible exact PushL.nil | apply PushL.cons)))) (by walk_at "as") ?_)
  refine Ex.cons (Ex1.for (us := (pairsS s).map pairT) (Src.list (Ev.cast (u := .list ((pairsS s).map pairT)) (EvX.bin (Ev.slList (by walk_at "ev") (EvP.int (by walk_at "ev")) EvP.no (by decide)) (Ev.slList (by walk_at "ev") EvP.no (EvP.int (by walk_at "ev")) (by decide)) (OpX.addL ?_)) ?_))
    (fun i σ => ∃ x y, σ = ledK (.mt 16) x y (.tr (.int t)) (.tr (.list (pairsN.map pairT))) cu (.tr (.int (s / 3 % 10 : Nat))) (.tr (.int s)) lo na pl [.list (ks.map rowT), .list ((freeL s t ks ((pairsS s).take i)).map pairT)])
    ⟨_, _, rfl⟩ (fun _ _ _ => trivial) (fun i tt σ ht hJ => ?_) (fun σ hJ => ?_))
  · have h1 := pick_length_le (pairsN.map pairT) (some (s / 3 % 10 : Nat)) none none fun _ => .none
    have h2 := pick_length_le (pairsN.map pairT) none (some (s / 3 % 10 : Nat)) none fun _ => .none
    have h3 : (pairsN.map pairT).length = 10 := by decide
    omega
  · rw [pick_map, pick_map, ← List.map_append]; rfl
  · obtain ⟨x, y, rfl⟩ := hJ
    rw [List.getElem?_map, Option.map_eq_some_iff] at ht
    obtain ⟨q, hq, rfl⟩ := ht
    have hqm := pairsS_mem _ hs10 q (List.mem_of_getElem? hq)
    have hql := pairsN_lt _ hqm
    have hfl : (freeL s t ks ((pairsS s).take i)).length ≤ 10 := by
      rw [freeL, List.length_map]
      refine Nat.le_trans (List.length_filter_le _ _) ?_
      rw [List.length_take, show (pairsS s).length = 10 from pairsS_len _ hs10]
      omega
    refine ⟨_, by walk_at "as", ?_⟩
    refine Ex.cons (Ex1.ite (b := !sepK ks q) (EvB.cmp (EvX.lcB 17 0 ["some", "cost"] [("some", .loc), ("cost", .loc), ("i", .cel 7), ("j", .cel 6)] (xorR q.1 q.2) dT1 (fun t => [.ns [("some", .tr (dT1 t)), ("cost", .tr (dT2 t))]])
      (us := ks.map rowT) (Src.mlist (by walk_at "ev") rfl) (by rfl) (fun _ => rfl) (by rw [List.length_map]; omega) ⟨fun c' acc hc t ht mo => ?_, fun t ht => ⟨by (repeat' first | exact WkL.nil | exact WkN.nil | apply WkL.cons | apply WkN.cons | exact WkX.any | exact WkX.eq rfl | exact WkM.eq rfl | apply WkM.ns | apply WkM.cell | exact WkM.dead), rfl⟩⟩ (hok := by decide +kernel)) (Ev.list (by walk_at "ts")) ?_) (fun hb => ?_) (fun hb => ?_))
    · obtain ⟨r, hr, rfl⟩ := List.mem_map.mp ht
      simp only [compFr, List.map, List.replicate, List.cons_append, List.nil_append, id_eq]
      dsimp only [dT1, dT2]
      exact ⟨by walk_at "as", Tst.one (EvB.plain (EvX.bin (EvX.bin (EvX.bin (by walk_at "ev") (by walk_at "ev") (OpX.shrI (by omega))) (EvX.bin (by walk_at "ev") (by walk_at "ev") (OpX.shrI (by omega))) OpX.xorI) (by walk_at "ev") OpX.andI) Tru.int), fun _ => by walk_at "ev"⟩
    · have e : ((ks.map rowT).filter (xorR q.1 q.2)).map dT1 = ((ks.filter fun r => xorZ r.1 q.1 q.2).map (·.1)).map T.int := by
        rw [List.filter_map, List.map_map, List.map_map]; rfl
      rw [e]
      rw [← sepK_nil]
      exact OpB.eqT (tl_int _) rfl (by rw [show T.dep (.list (((ks.filter fun r => xorZ r.1 q.1 q.2).map (·.1)).map T.int)) = deps (((ks.filter fun r => xorZ r.1 q.1 q.2).map (·.1)).map T.int) + 1 from rfl, deps_int]; decide)
    · have hq' : sepK ks q = false := by simpa using hb
      have est := freeL_step s t ks (pairsS s) i q hq
      rw [hq', if_neg (by decide)] at est
      refine Ex.cons (Ex1.expr (EvX.append (t := pairT (freeF s t q)) (by walk_at "ev") ⟨_, rfl⟩ (EvX.ite (EvB.plain (EvX.bin (EvX.bin (by walk_at "ev") (by walk_at "ev") (OpX.shrI (by omega))) (by walk_at "ev") OpX.andI) Tru.int) (fun _ => Ev.tup (by walk_at "ts")) (fun _ => Ev.tup (by walk_at "ts")) ?_) (by walk_at "put") (by rw [List.length_map]; omega)) ?_)
      · rw [freeF, turnZ]; split <;> rfl
      refine Ex.nil (Ex.nil ⟨_, Lo.refl (Nat.le_refl _), .tr (.int q.1), .tr (.int q.2), by rw [est, List.map_append]; rfl⟩)
    · have hq' : sepK ks q = true := by simpa using hb
      have est := freeL_step s t ks (pairsS s) i q hq
      rw [hq', if_pos rfl, List.append_nil] at est
      refine Ex.nil (Ex.nil ⟨_, Lo.refl (Nat.le_refl _), .tr (.int q.1), .tr (.int q.2), by rw [est]⟩)
  · obtain ⟨x, y, rfl⟩ := hJ
    rw [List.length_map, List.take_length]
    refine Ex.nil (Ex.cons (Ex1.asg (EvX.sub (by walk_at "ev") (by walk_at "ev") (GetX.mlist (t := pairT p) rfl (by omega) ?_ ?_ ?_)) (by walk_at "as") (next _)))
    · have := (List.getElem?_eq_some_iff.mp hp).1
      rw [List.length_map]; omega
    · rw [List.length_map, freeL, List.length_map]
      refine Nat.le_trans (List.length_filter_le _ _) ?_
      rw [show (pairsS s).length = 10 from pairsS_len _ hs10]; decide
    · rw [ixOf, if_neg (by decide), Int.toNat_zero, List.getElem?_map, hp]; rfl
end
end
-- C23
section
section
variable {c : Cx} {C D : Addr} {K : Frag} {fI fM : Addr} {pI cI pM cM : Value} {vs : List (Int × Value)} {f : Nat → Addr} {tc tm tz : Tok} {Q : Out → Prop}
noncomputable def awayZ (i : Nat) (x : Int) : Int := if (Builtin.bitAnd (x.fdiv (2 ^ ((i : Nat) : Int).toNat)) 1 != 0) = true then 31 - x else x
noncomputable def awayL (ks : List (Int × Int)) (i : Nat) : List Int := ks.map fun r => awayZ i r.1
noncomputable def awayF (i : Nat) : T → T
  | .tup [.int x, _] => .int (awayZ i x)
  | _ => .none
noncomputable def hitZ (x b : Int) : Bool := !([T.int 0, T.int b].any fun y => teq y (.int (Builtin.bitAnd x b)))
noncomputable def okS (aw : List Int) (x : Int) : Bool := (aw.filter (hitZ x)).isEmpty
noncomputable def rowV (N : List Nat) (x : Int) : Int := (cutL N).getD (min x (31 - x)).toNat 0
noncomputable def rowsL (N : List Nat) (aw : List Int) (l : List Int) : List (Int × Int) := (l.filter (okS aw)).map fun x => (x, rowV N x)
theorem rowsL_step (N : List Nat) (aw : List Int) (l : List Int) (i : Nat) (x : Int) (h : l[i]? = some x) : rowsL N aw (l.take (i + 1)) = rowsL N aw (l.take i) ++ (if okS aw x then [(x, rowV N x)] else []) := by
  unfold rowsL
  rw [List.take_add_one, h, List.filter_append, List.map_append]
  congr 1
  cases h' : okS aw x <;> simp [h']
theorem okS_nil (aw : List Int) (x : Int) : teq (.list ((aw.filter (hitZ x)).map T.int)) (.list []) = okS aw x := by
  rw [teq_nil, okS, List.isEmpty_map]
noncomputable abbrev ledR (fr aw ro be i j so tu pa cu sh wh lo na pl : X) (r : List MO) : List MO :=
  lns .any .any .any .any .any pa .any cu sh tu fr aw ro be .any .any .any .any :: lcs wh lo na .any .any j i .any so pl (.mt 15) .any (.dead :: .dead :: r)
set_option maxHeartbeats 1000000 in
theorem turn_B (E : Env2 c.W C D K fI fM pI cI pM cM vs f tc tm tz) (hn : 3 ≤ c.n) (N : List Nat) (ks : List (Int × Int)) (tu pa sh wh lo na pl be so : X) (i j : Nat) (us : List T) (hk : ks.length ≤ 4) (hi : i < 5) (hj : j < 5)
    (next : ∀ so, Ex c dL (turnBody.drop 6) (ledR (.mt 16) (.tr (.list ((awayL ks i).map T.int))) (.mt 17) be (.tr (.int i)) (.tr (.int j)) so tu pa (.tr (cutT N)) sh wh lo na pl [.list (ks.map rowT), .list us, .list ((rowsL N (awayL ks i) (sidesL i j)).map rowT)]) Q) :
    Ex c dL (turnBody.drop 3) (ledR (.mt 16) .any .any be (.tr (.int i)) (.tr (.int j)) so tu pa (.tr (cutT N)) sh wh lo na pl [.list (ks.map rowT), .list us]) Q := by
  refine Ex.cons (Ex1.lcB 17 0 ["some", "cost"] [("some", .loc), ("cost", .loc), ("i", .cel 7)] (fun _ => true) (awayF i) (fun t => [.ns [("some", .tr (dT1 t)), ("cost", .tr (dT2 t))]])
    (us := ks.map rowT) (Src.mlist (by walk_at "ev") rfl) (by rfl) (fun _ => rfl) (by rw [List.length_map]; omega) ⟨fun c' acc hc t ht mo => ?_, fun t ht => ⟨by (repeat' first | exact WkL.nil | exact WkN.nil | apply WkL.cons | apply WkN.cons | exact WkX.any | exact WkX.eq rfl | exact WkM.eq rfl | apply WkM.ns | apply WkM.cell | exact WkM.dead), rfl⟩⟩ (by walk_at "mem") (by walk_at "put")
    (by rw [show ((ks.map rowT).filter (fun _ => true)).map (awayF i) = (awayL ks i).map T.int by rw [List.filter_eq_self.mpr (fun _ _ => rfl), awayL, List.map_map, List.map_map]; rfl]; walk_at "putn") ?_ (hok := by decide +kernel))
  · obtain ⟨r, hr, rfl⟩ := List.mem_map.mp ht
    simp only [compFr, List.map, List.replicate, List.cons_append, List.nil_append, id_eq]
    dsimp only [dT1, dT2]
    refine ⟨by walk_at "as", Tst.nil, fun _ => EvX.ite (EvB.plain (EvX.bin (EvX.bin (by walk_at "ev") (by walk_at "ev") (OpX.shrI (by omega))) (by walk_at "ev") OpX.andI) Tru.int) (fun _ => by walk_at "ev") (fun _ => by walk_at "ev") ?_⟩
    show X.tr (.int (awayZ i r.1)) = _
    rw [awayZ]; split <;> rfl
  refine Ex.cons (Ex1.asg (EvX.newList (n := 17) (by walk_at "ts") (hn := rfl) (hp := by (repeat (first | with_reducible exact PushL.nil | apply PushL.cons)))) (by walk_at "as") ?_)
  have hal : (awayL ks i).length ≤ 4 := by rw [awayL, List.length_map]; exact hk
  have hsl : (sidesL i j).length ≤ 32 := Nat.le_trans (List.length_filter_le _ _) (by rw [rng_length]; decide)
  have hsm : ∀ x ∈ sidesL i j, 0 ≤ x ∧ x < 32 := fun x hx => mem_rng (List.mem_filter.mp hx).1
  refine Ex.cons (Ex1.for (us := (sidesL i j).map T.int) (Src.list (EvX.call (Ev.glob (by walk_at "mem") (E.nm (i := 20) (by decide))) (E.fn 20 (by decide)) (EvS.cons (by walk_at "ev") (EvS.cons (by walk_at "ev") EvS.nil)) (CaX.fn (n := 1) (ts := [.int i, .int j]) (w2_sides (E.fn 20 (by decide)) i j (E.bt _ (by decide))) (by omega))))
    (fun k σ => ∃ so, σ = ledR (.mt 16) (.tr (.list ((awayL ks i).map T.int))) (.mt 17) be (.tr (.int i)) (.tr (.int j)) so tu pa (.tr (cutT N)) sh wh lo na pl [.list (ks.map rowT), .list us, .list ((rowsL N (awayL ks i) ((sidesL i j).take k)).map rowT)])
    ⟨_, rfl⟩ (fun _ _ _ => trivial) (fun k tt σ ht hJ => ?_) (fun σ hJ => ?_))
  · obtain ⟨so, rfl⟩ := hJ
    rw [List.getElem?_map, Option.map_eq_some_iff] at ht
    obtain ⟨x, hx, rfl⟩ := ht
    have hxb := hsm x (List.mem_of_getElem? hx)
    have hrl : (rowsL N (awayL ks i) ((sidesL i j).take k)).length ≤ 32 := by
      rw [rowsL, List.length_map]
      refine Nat.le_trans (List.length_filter_le _ _) ?_
      rw [List.length_take]; omega
    have est := rowsL_step N (awayL ks i) (sidesL i j) k x hx
    refine ⟨_, by walk_at "as", ?_⟩
    refine Ex.cons (Ex1.ite (b := okS (awayL ks i) x) (EvB.cmp (Ev.cast (u := .list (((awayL ks i).filter (hitZ x)).map T.int)) (EvX.lcB 18 0 ["one"] [("one", .loc), ("some", .cel 9)] (onI (hitZ x) false) (fun t => t) (fun t => [.ns [("one", .tr t)]])
      (us := (awayL ks i).map T.int) (Src.list (by walk_at "ev")) (by rfl) (fun _ => trivial) (by rw [List.length_map]; omega) ⟨fun c' acc hc t ht mo => ?_, fun t ht => ⟨by (repeat' first | exact WkL.nil | exact WkN.nil | apply WkL.cons | apply WkN.cons | exact WkX.any | exact WkX.eq rfl | exact WkM.eq rfl | apply WkM.ns | apply WkM.cell | exact WkM.dead), rfl⟩⟩ (hok := by decide +kernel)) ?_) (Ev.list (by walk_at "ts")) ?_) (fun hb => ?_) (fun hb => ?_))
    · obtain ⟨b, _, rfl⟩ := List.mem_map.mp ht
      simp only [compFr, List.map, List.replicate, List.cons_append, List.nil_append, id_eq]
      exact ⟨by walk_at "as", Tst.one (EvB.cmp (by walk_at "ev") (Ev.tup (by walk_at "ts")) (OpB.notInT rfl rfl (Nat.zero_le _))), fun _ => by walk_at "ev"⟩
    · rw [List.map_id', List.filter_map]; rfl
    · rw [← okS_nil]
      exact OpB.eqT (tl_int _) rfl (by rw [show T.dep (.list (((awayL ks i).filter (hitZ x)).map T.int)) = deps (((awayL ks i).filter (hitZ x)).map T.int) + 1 from rfl, deps_int]; decide)
    · rw [hb, if_pos rfl] at est
      have hmn : (min x (31 - x)).toNat < 16 := by omega
      refine Ex.cons (Ex1.expr (EvX.append (t := rowT (x, rowV N x)) (by walk_at "ev") ⟨_, rfl⟩ (Ev.tup (EvTs.cons (by walk_at "ev") (EvTs.cons (EvX.sub (by walk_at "ev") (EvX.callB (Ev.bt Boot.min (by walk_at "mem") (E.bt _ (by decide))) (EvS.cons (by walk_at "ev") (EvS.cons (by walk_at "ev") EvS.nil)) CaX.min2) ?_) EvTs.nil))) (by walk_at "put") (by rw [List.length_map]; omega)) ?_)
      · rw [show min x (31 - x) = (((min x (31 - x)).toNat : Nat) : Int) by omega]
        refine GetX.listN ?_ (by rw [List.length_map, cutL, List.length_map, rng_length]; decide)
        rw [List.getElem?_map, getD_some 0 (by rw [cutL, List.length_map, rng_length]; exact hmn)]; rfl
      refine Ex.nil (Ex.nil ⟨_, Lo.refl (Nat.le_refl _), .tr (.int x), by rw [est, List.map_append]; rfl⟩)
    · rw [hb, if_neg (by decide), List.append_nil] at est
      refine Ex.nil (Ex.nil ⟨_, Lo.refl (Nat.le_refl _), .tr (.int x), by rw [est]⟩)
  · obtain ⟨so, rfl⟩ := hJ
    rw [List.length_map, List.take_length]
    exact Ex.nil (next _)
end
end
-- C24
section
section
variable {c : Cx} {C D : Addr} {K : Frag} {fI fM : Addr} {pI cI pM cM : Value} {vs : List (Int × Value)} {f : Nat → Addr} {tc tm tz : Tok} {Q : Out → Prop}
noncomputable def handZ (s : Nat) : Int := if s / 7 % 2 = 0 then 1 else -1
noncomputable def bestL (h : Int) : List (Int × Int) → Int × Int
  | [] => (0, 0)
  | r :: rs => (r :: rs).foldl (bestR h) r
noncomputable def plF (N : List Nat) : T → T
  | .int x => .int (plainZ N x)
  | _ => .none
theorem plain_at {N : List Nat} {c : Cx} {σ : List MO} {x : Int} (h : 0 ≤ x ∧ x < 32) : GetX c σ (.tr (plainT N)) (.tr (.int x)) (.tr (.int (plainZ N x))) := by
  obtain ⟨k, rfl⟩ : ∃ k : Nat, x = k := ⟨x.toNat, by omega⟩
  refine GetX.listN ?_ (by rw [List.length_map, List.length_map, rng_length]; decide)
  rw [List.getElem?_map, List.getElem?_map, rng, List.getElem?_map, List.getElem?_range (by omega)]
  show some (T.int (plainZ N (0 + (k : Int)))) = _
  rw [Int.zero_add]
set_option maxHeartbeats 1000000 in
theorem turn_C (E : Env2 c.W C D K fI fM pI cI pM cM vs f tc tm tz) (hn : 4 ≤ c.n) (N : List Nat) (s : Nat) (ks : List (Int × Int)) (rows : List (Int × Int)) (tu pa cu sh lo na be so fr aw : X) (i j : Nat) (us : List T) (hk : ks.length ≤ 4)
    (hne : rows ≠ []) (hrl : rows.length < 100) (hrm : ∀ r ∈ rows, 0 ≤ r.1 ∧ r.1 < 32)
    (hm1 : (bestL (handZ s) rows).2 ∈ (sidesL i j).map (plainZ N)) (hm2 : ∀ a ∈ (sidesL i j).map (plainZ N), (bestL (handZ s) rows).2 ≤ a)
    (next : ∀ fr aw ro be ii jj so, Q (.nxt (ledR fr aw ro be ii jj so tu pa cu sh (.tr (.int s)) lo na (.tr (plainT N)) [.list ((ks ++ [bestL (handZ s) rows]).map rowT), .list us, .dead]))) :
    Ex c dL (turnBody.drop 6) (ledR fr aw (.mt 17) be (.tr (.int i)) (.tr (.int j)) so tu pa cu sh (.tr (.int s)) lo na (.tr (plainT N)) [.list (ks.map rowT), .list us, .list (rows.map rowT)]) Q := by
  match rows, hne with
  | r0 :: rs, _ =>
  refine Ex.stp (Stp.frozen (k := 17) (by walk_at "put") rfl (by (repeat' first | exact FzL.nil | exact FzN.nil | apply FzL.cons | apply FzN.cons | with_reducible exact FzX.mt | exact FzX.eq rfl | apply FzM.ns | apply FzM.cell | exact FzM.eq rfl))) ?_
  refine Ex.cons (Ex1.asg (x := .tr (rowT (bestL (handZ s) (r0 :: rs)))) (EvX.call (Ev.glob (by walk_at "mem") (E.nm (i := 19) (by decide))) (E.fn 19 (by decide))
    (EvS.cons (by walk_at "ev") (EvS.cons (Ev.cast (u := .int (handZ s)) (EvX.sub (Ev.tup (by walk_at "ts")) (EvX.bin (EvX.bin (by walk_at "ev") (by walk_at "ev") (OpX.divI (by decide) (by decide))) (by walk_at "ev") (OpX.modI (by decide))) ?_) rfl) EvS.nil))
    (CaX.fn (n := 4) (ts := [.list ((r0 :: rs).map rowT), .int (handZ s)]) (w2_first (E.fn 19 (by decide)) E.tcl r0 rs (handZ s) (by rw [handZ]; split; exact .inl rfl; exact .inr rfl) hrm (by rw [List.length_cons] at hrl; omega)) (by omega))) (by walk_at "as") ?_)
  · have e : ((s : Int).fdiv 7).fmod 2 = ((s / 7 % 2 : Nat) : Int) := fdm_nat s 7 2
    rw [e]
    refine GetX.tupN ?_ (by decide)
    rw [handZ]
    have h2 : s / 7 % 2 = 0 ∨ s / 7 % 2 = 1 := by omega
    rcases h2 with h | h <;> rw [h] <;> rfl
  generalize hb : bestL (handZ s) (r0 :: rs) = b at *
  obtain ⟨b0, b1⟩ := b
  have hsm : ∀ x ∈ sidesL i j, 0 ≤ x ∧ x < 32 := fun x hx => mem_rng (List.mem_filter.mp hx).1
  have hsl : (sidesL i j).length ≤ 32 := Nat.le_trans (List.length_filter_le _ _) (by rw [rng_length]; decide)
  refine Ex.cons (Ex1.ite (b := false || ((b1 != b1) || false)) (EvB.or (EvB.cmp (by walk_at "ev") (by walk_at "ev") OpB.isNoT) (fun _ => EvB.or (EvB.cmp (EvX.sub (by walk_at "ev") (by walk_at "ev") (GetX.tupC (t := .int b1) rfl))
    (EvX.callB (Ev.bt Boot.min (by walk_at "mem") (E.bt _ (by decide))) (EvS.cons (Ev.cast (u := .list (((sidesL i j).map (plainZ N)).map T.int)) (EvX.lcB 18 0 ["some"] [("some", .loc), ("plain", .cel 10)] (fun _ => true) (plF N) (fun t => [.ns [("some", .tr t)]])
      (us := (sidesL i j).map T.int) (Src.list (EvX.call (Ev.glob (by walk_at "mem") (E.nm (i := 20) (by decide))) (E.fn 20 (by decide)) (EvS.cons (by walk_at "ev") (EvS.cons (by walk_at "ev") EvS.nil)) (CaX.fn (n := 1) (ts := [.int i, .int j]) (w2_sides (E.fn 20 (by decide)) i j (E.bt _ (by decide))) (by omega))))
      (by rfl) (fun _ => trivial) (by rw [List.length_map]; omega) ⟨fun c' acc hc t ht mo => ?_, fun t ht => ⟨by (repeat' first | exact WkL.nil | exact WkN.nil | apply WkL.cons | apply WkN.cons | exact WkX.any | exact WkX.eq rfl | exact WkM.eq rfl | apply WkM.ns | apply WkM.cell | exact WkM.dead), rfl⟩⟩ (hok := by decide +kernel)) ?_) EvS.nil) (CaX.minL (M := b1) hm1 hm2)) OpB.neI) (fun _ => EvB.or_nil))) (fun h => ?_) (fun _ => ?_))
  · obtain ⟨x, hx, rfl⟩ := List.mem_map.mp ht
    simp only [compFr, List.map, List.replicate, List.cons_append, List.nil_append, id_eq]
    exact ⟨by walk_at "as", Tst.nil, fun _ => EvX.sub (by walk_at "ev") (by walk_at "ev") (plain_at (hsm x hx))⟩
  · rw [List.filter_eq_self.mpr (fun _ _ => rfl), List.map_map, List.map_map]; rfl
  · simp at h
  refine Ex.nil (Ex.cons (Ex1.expr (EvX.append (t := rowT (b0, b1)) (by walk_at "ev") ⟨_, rfl⟩ (by walk_at "ev") (by walk_at "put") (by rw [List.length_map]; omega)) ?_))
  refine Ex.nil ?_
  rw [show ks.map rowT ++ [rowT (b0, b1)] = (ks ++ [(b0, b1)]).map rowT by rw [List.map_append]; rfl]
  exact next _ _ _ _ _ _ _
end
end
-- C25
section
section
variable {c : Cx} {C D : Addr} {K : Frag} {fI fM : Addr} {pI cI pM cM : Value} {vs : List (Int × Value)} {f : Nat → Addr} {tc tm tz : Tok} {Q : Out → Prop}
noncomputable def rowsT (N : List Nat) (ks : List (Int × Int)) (p : Nat × Nat) : List (Int × Int) := rowsL N (awayL ks p.1) (sidesL p.1 p.2)
noncomputable def headP (s t : Nat) (ks : List (Int × Int)) : Nat × Nat := (freeL s t ks (pairsS s)).headD (0, 1)
noncomputable def keptN (N : List Nat) (s : Nat) : Nat → List (Int × Int)
  | 0 => []
  | t + 1 => keptN N s t ++ [bestL (handZ s) (rowsT N (keptN N s t) (headP s t (keptN N s t)))]
theorem keptN_length (N : List Nat) (s : Nat) : ∀ t, (keptN N s t).length = t
  | 0 => rfl
  | t + 1 => by rw [keptN, List.length_append, keptN_length N s t]; rfl
structure TurnOk (N : List Nat) (s t : Nat) : Prop where
  free : freeL s t (keptN N s t) (pairsS s) ≠ []
  rows : rowsT N (keptN N s t) (headP s t (keptN N s t)) ≠ []
  mem : (bestL (handZ s) (rowsT N (keptN N s t) (headP s t (keptN N s t)))).2 ∈ (sidesL (headP s t (keptN N s t)).1 (headP s t (keptN N s t)).2).map (plainZ N)
  min : ∀ a ∈ (sidesL (headP s t (keptN N s t)).1 (headP s t (keptN N s t)).2).map (plainZ N), (bestL (handZ s) (rowsT N (keptN N s t) (headP s t (keptN N s t)))).2 ≤ a
theorem headP_lt {s t : Nat} {ks : List (Int × Int)} (h : freeL s t ks (pairsS s) ≠ []) : (freeL s t ks (pairsS s))[0]? = some (headP s t ks) ∧ (headP s t ks).1 < 5 ∧ (headP s t ks).2 < 5 := by
  cases q : freeL s t ks (pairsS s) with
  | nil => exact absurd q h
  | cons p r =>
    have e : headP s t ks = p := by rw [headP, q]; rfl
    rw [e]
    have hm : p ∈ freeL s t ks (pairsS s) := by rw [q]; exact .head _
    rw [freeL] at hm
    obtain ⟨u, hu, rfl⟩ := List.mem_map.mp hm
    have hp := pairsN_lt _ (pairsS_mem _ (Nat.mod_lt _ (by decide)) u (List.mem_filter.mp hu).1)
    refine ⟨rfl, ?_⟩
    unfold freeF
    split
    · exact ⟨by omega, by omega⟩
    · exact ⟨by dsimp only; omega, by dsimp only; omega⟩
theorem rowsT_small (N : List Nat) (ks : List (Int × Int)) (p : Nat × Nat) : (rowsT N ks p).length ≤ 32 ∧ ∀ r ∈ rowsT N ks p, 0 ≤ r.1 ∧ r.1 < 32 := by
  refine ⟨?_, fun r hr => ?_⟩
  · rw [rowsT, rowsL, List.length_map]
    refine Nat.le_trans (List.length_filter_le _ _) (Nat.le_trans (List.length_filter_le _ _) ?_)
    rw [rng_length]; decide
  · obtain ⟨x, hx, rfl⟩ := List.mem_map.mp hr
    exact mem_rng (List.mem_filter.mp (List.mem_filter.mp hx).1).1
set_option maxHeartbeats 1000000 in
theorem law_H (E : Env2 c.W C D K fI fM pI cI pM cM vs f tc tm tz) (hn : 4 ≤ c.n) (sc nu oc pl nb ta tp td ti : X) (N : List Nat) (s : Nat) (r : List MO) (lo na : T) (hr : r.length = 2) (hT : ∀ t, t < 4 → TurnOk N s t)
    (next : ∀ tu fr aw ro be i j so, Ex c dL ((defAt P2 22).body.drop 18) (ledR fr aw ro be i j so tu (.tr (.list (pairsN.map pairT))) (.tr (cutT N)) (.tr (.int (s / 3 % 10 : Nat))) (.tr (.int s)) (.tr lo) (.tr na) (.tr (plainT N)) [.list ((keptN N s 4).map rowT)]) Q) :
    Ex c dL ((defAt P2 22).body.drop 17) (lns sc nu oc pl nb (.tr (.list (pairsN.map pairT))) ta (.tr (cutT N)) (.tr (.int (s / 3 % 10 : Nat))) .any .any .any .any .any .any .any .any .any
      :: lcs (.tr (.int s)) (.tr lo) (.tr na) tp td .any .any ti .any (.tr (plainT N)) (.mt 15) .any (r ++ [.list []])) Q := by
  obtain ⟨m1, m2, rfl⟩ := len2 hr
  refine Ex.stp (Stp.wk (σ₁ := ledR .any .any .any .any .any .any .any .any (.tr (.list (pairsN.map pairT))) (.tr (cutT N)) (.tr (.int (s / 3 % 10 : Nat))) (.tr (.int s)) (.tr lo) (.tr na) (.tr (plainT N)) [.list ((keptN N s 0).map rowT)]) (by (repeat' first | exact WkL.nil | exact WkN.nil | apply WkL.cons | apply WkN.cons | exact WkX.any | exact WkX.eq rfl | exact WkM.eq rfl | apply WkM.ns | apply WkM.cell | exact WkM.dead)) rfl) ?_
  refine Ex.cons (Ex1.for (us := (rng 0 4).map T.int) (Src.range1 (Ev.bt Boot.range (by walk_at "mem") (E.bt _ (by decide))) (by walk_at "es") (by decide))
    (fun t σ => ∃ tu fr aw ro be i j so, σ = ledR fr aw ro be i j so tu (.tr (.list (pairsN.map pairT))) (.tr (cutT N)) (.tr (.int (s / 3 % 10 : Nat))) (.tr (.int s)) (.tr lo) (.tr na) (.tr (plainT N)) [.list ((keptN N s t).map rowT)])
    ⟨_, _, _, _, _, _, _, _, rfl⟩ (fun _ _ _ => trivial) (fun t tt σ ht hJ => ?_) (fun σ hJ => ?_))
  · obtain ⟨tu, fr, aw, ro, be, i, j, so, rfl⟩ := hJ
    obtain ⟨ht4, rfl⟩ := rng_at ht
    have ht4' : t < 4 := ht4
    have H := hT t ht4'
    obtain ⟨hp, hp1, hp2⟩ := headP_lt H.free
    have hkl := keptN_length N s t
    rw [show (0 : Int) + (t : Int) = (t : Int) by omega]
    refine ⟨_, by walk_at "as", ?_⟩
    refine Ex.stp (Stp.wk (σ₁ := ledK .any .any .any (.tr (.int t)) (.tr (.list (pairsN.map pairT))) (.tr (cutT N)) (.tr (.int (s / 3 % 10 : Nat))) (.tr (.int s)) (.tr lo) (.tr na) (.tr (plainT N)) [.list ((keptN N s t).map rowT)]) (by (repeat' first | exact WkL.nil | exact WkN.nil | apply WkL.cons | apply WkN.cons | exact WkX.any | exact WkX.eq rfl | exact WkM.eq rfl | apply WkM.ns | apply WkM.cell | exact WkM.dead)) rfl) ?_
    refine turn_A E (by omega) N s t (keptN N s t) (.tr lo) (.tr na) _ _ _ _ _ (headP s t (keptN N s t)) (by omega) ht4' hp fun us => ?_
    refine turn_B E (by omega) N (keptN N s t) _ _ _ _ (.tr lo) (.tr na) _ _ _ _ _ us (by omega) hp1 hp2 fun so => ?_
    have hs := rowsT_small N (keptN N s t) (headP s t (keptN N s t))
    refine turn_C E (by omega) N s (keptN N s t) (rowsT N (keptN N s t) (headP s t (keptN N s t))) _ _ _ _ (.tr lo) (.tr na) _ _ _ _ _ _ us (by omega) H.rows (by omega) hs.2 H.mem H.min fun fr aw ro be ii jj so => ?_
    exact ⟨ledR .any .any .any .any .any .any .any (.tr (.int t)) (.tr (.list (pairsN.map pairT))) (.tr (cutT N)) (.tr (.int (s / 3 % 10 : Nat))) (.tr (.int s)) (.tr lo) (.tr na) (.tr (plainT N)) [.list ((keptN N s (t + 1)).map rowT)], Lo.wk (by (repeat' first | exact WkL.nil | exact WkN.nil | apply WkL.cons | apply WkN.cons | exact WkX.any | exact WkX.eq rfl | exact WkM.eq rfl | apply WkM.ns | apply WkM.cell | exact WkM.dead)) (Nat.le_refl _) rfl, _, _, _, _, _, _, _, _, rfl⟩
  · obtain ⟨tu, fr, aw, ro, be, i, j, so, rfl⟩ := hJ
    exact Ex.nil (next _ _ _ _ _ _ _ _)
end
end
-- F1
section
noncomputable def sideS (l k : Nat) : List Str := flagNames 32 (k * 2 ^ l)
noncomputable def inN (nm : Str) (side : List Str) : Nat := if (side.any fun y => decide (y = nm)) = true then 1 else 0
noncomputable def sideT (l k : Nat) : List Str := ((List.range 5).filter k.testBit).map fun v => (namesAt l).getD v ""
theorem side_T : ∀ l, l < 9 → ∀ k, k < 32 → sideS l k = sideT l k := by decide +kernel
theorem name_ok : ∀ l, l < 9 → ∀ x ∈ namesAt l, PyData.strOk x = true := by decide +kernel
theorem side_in : ∀ l, l < 9 → ∀ v, v < 5 → ∀ k, k < 32 → inN ((namesAt l).getD v "") (sideT l k) = (k.testBit v).toNat := by decide +kernel
noncomputable def cutsS : List Str → Nat → List Nat
  | x :: y :: r, a => (a + x.length) :: cutsS (y :: r) (a + x.length + 2)
  | _, _ => []
noncomputable def splOk (l k : Nat) : Bool :=
  decide (Builtin.Str.occurrences (Txt.join ", " (sideT l k)) ", " 0 (Txt.join ", " (sideT l k)).length ((Txt.join ", " (sideT l k)).length + 1) = cutsS (sideT l k) 0) &&
  decide (Builtin.Str.partsBetween (Txt.join ", " (sideT l k)) (cutsS (sideT l k) 0) 2 = sideT l k) && Nat.ble (Txt.join ", " (sideT l k)).length 1000 && !(cutsS (sideT l k) 0).isEmpty && Nat.ble 2 (Txt.join ", " (sideT l k)).length
noncomputable def splOne (l k : Nat) : Bool := decide (Txt.split (Txt.join ", " (sideT l k)) ", " = sideT l k) && Nat.ble (Txt.join ", " (sideT l k)).length 1000 && Nat.ble (Builtin.Str.partsBetween (Txt.join ", " (sideT l k)) (Builtin.Str.occurrences (Txt.join ", " (sideT l k)) ", " 0 (Txt.join ", " (sideT l k)).length ((Txt.join ", " (sideT l k)).length + 1)) 2).length 1000
noncomputable def splAll (l : Nat) : Bool := (List.range 31).all fun k => if (sideT l (k + 1)).length ≤ 1 then splOne l (k + 1) else splOk l (k + 1)
theorem spl0 : splAll 0 = true := by decide +kernel
theorem spl1 : splAll 1 = true := by decide +kernel
theorem spl2 : splAll 2 = true := by decide +kernel
theorem spl3 : splAll 3 = true := by decide +kernel
theorem spl4 : splAll 4 = true := by decide +kernel
theorem spl5 : splAll 5 = true := by decide +kernel
theorem spl6 : splAll 6 = true := by decide +kernel
theorem spl7 : splAll 7 = true := by decide +kernel
theorem spl8 : splAll 8 = true := by decide +kernel
theorem spl_all : ∀ l, l < 9 → splAll l = true
  | 0, _ => spl0
  | 1, _ => spl1
  | 2, _ => spl2
  | 3, _ => spl3
  | 4, _ => spl4
  | 5, _ => spl5
  | 6, _ => spl6
  | 7, _ => spl7
  | 8, _ => spl8
  | n + 9, h => absurd h (by omega)
end
-- F2
section
theorem sep_kind : Builtin.Str.strKind (Str.ofString ", ") = 1 ∧ (Str.ofString ", ").length = 2 := by decide +kernel
theorem strKind_pos (x : Str) : ¬ Builtin.Str.strKind x < 1 := by
  unfold Builtin.Str.strKind
  split
  · decide
  · split <;> decide
theorem side_split {l k : Nat} (hl : l < 9) (hk : k < 32) (h0 : 0 < k) : Txt.split (Txt.join ", " (sideT l k)) ", " = sideT l k ∧ (Txt.join ", " (sideT l k)).length ≤ 1000 ∧
    (Builtin.Str.partsBetween (Txt.join ", " (sideT l k)) (Builtin.Str.occurrences (Txt.join ", " (sideT l k)) ", " 0 (Txt.join ", " (sideT l k)).length ((Txt.join ", " (sideT l k)).length + 1)) (Str.ofString ", ").length).length ≤ 1000 := by
  have h := List.all_eq_true.mp (spl_all l hl) (k - 1) (List.mem_range.mpr (by omega))
  rw [show k - 1 + 1 = k by omega] at h
  rw [sep_kind.2]
  split at h
  · unfold splOne at h
    rw [Bool.and_eq_true, Bool.and_eq_true, decide_eq_true_eq, Nat.ble_eq, Nat.ble_eq] at h
    exact ⟨h.1.1, h.1.2, h.2⟩
  · unfold splOk at h
    simp only [Bool.and_eq_true, decide_eq_true_eq, Nat.ble_eq, Bool.not_eq_true'] at h
    obtain ⟨⟨⟨⟨h1, h2⟩, h3⟩, h4⟩, h5⟩ := h
    refine ⟨?_, h3, ?_⟩
    · unfold Txt.split
      rw [sep_kind.1, sep_kind.2, h1, if_neg (by rw [Bool.or_eq_true, decide_eq_true_eq, decide_eq_true_eq]; rintro (h | h); omega; exact strKind_pos _ h), if_neg (by rw [h4]; decide), h2]
    · rw [h1, h2, sideT, List.length_map]
      refine Nat.le_trans (List.length_filter_le _ _) (by rw [List.length_range]; decide)
end
-- C26
section
section
variable {c : Cx} {C D : Addr} {K : Frag} {fI fM : Addr} {pI cI pM cM : Value} {vs : List (Int × Value)} {f : Nat → Addr} {tc tm tz : Tok} {Q : Out → Prop}
theorem side_ok {l k : Nat} (hl : l < 9) : ∀ x ∈ sideT l k, PyData.strOk x = true := by
  intro x hx
  obtain ⟨v, hv, rfl⟩ := List.mem_map.mp hx
  have hv5 : v < 5 := List.mem_range.mp (List.mem_filter.mp hv).1
  exact name_ok l hl _ (List.mem_of_getElem? (getD_some (Str.ofString "") (by rw [namesAt_len l hl]; exact hv5)))
theorem inN_lt (nm : Str) (side : List Str) : inN nm side < 2 := by unfold inN; split <;> decide
noncomputable def bitN (k v : Nat) : Nat := (k.testBit v).toNat
noncomputable def wordN (k0 k1 k2 k3 s v : Nat) : Str := wordOf (bitN k0 v) (bitN k1 v) (bitN k2 v) (bitN k3 v) (s / 22 % 4 : Nat)
noncomputable def wordsL (k0 k1 k2 k3 s : Nat) : List Str := (List.range 5).map (wordN k0 k1 k2 k3 s)
noncomputable def sideF (l : Nat) : T → T
  | .tup [.int x, _] => .list ((sideT l x.toNat).map T.str)
  | _ => .none
noncomputable def inF (nm : Str) : T → T
  | .list ts => .int (if (ts.any fun y => teq y (.str nm)) = true then 1 else 0)
  | _ => .none
noncomputable def wordF (l k0 k1 k2 k3 s : Nat) : T → T
  | .str nm => .str (wordOf (inN nm (sideT l k0)) (inN nm (sideT l k1)) (inN nm (sideT l k2)) (inN nm (sideT l k3)) (s / 22 % 4 : Nat))
  | _ => .none
noncomputable abbrev row4 (k0 k1 k2 k3 : Nat) (c0 c1 c2 c3 : Int) : List (Int × Int) := [((k0 : Nat), c0), ((k1 : Nat), c1), ((k2 : Nat), c2), ((k3 : Nat), c3)]
noncomputable abbrev sides4 (l k0 k1 k2 k3 : Nat) : T := .list [.list ((sideT l k0).map T.str), .list ((sideT l k1).map T.str), .list ((sideT l k2).map T.str), .list ((sideT l k3).map T.str)]
theorem inF_eq (nm : Str) (side : List Str) : inF nm (.list (side.map T.str)) = .int (inN nm side : Nat) := by
  show T.int _ = _
  rw [any_teq, inN]
  split <;> rfl
noncomputable abbrev ledW (tu fr aw ro be i j so wo pd pr fa : X) (pa pl wh lo na si : X) (r : List MO) : List MO :=
  lns .any .any .any .any .any pa .any .any .any tu fr aw ro be wo pd pr fa :: lcs wh lo na .any .any j i .any so pl (.mt 15) si (.dead :: .dead :: r)
set_option maxHeartbeats 1000000 in
theorem law_I (E : Env2 c.W C D K fI fM pI cI pM cM vs f tc tm tz) (hn : 4 ≤ c.n) (pa pl tu fr aw ro be i j so cu sh : X) (s k0 k1 k2 k3 : Nat) (c0 c1 c2 c3 : Int)
    (h0 : 0 < k0 ∧ k0 < 32) (h1 : 0 < k1 ∧ k1 < 32) (h2 : 0 < k2 ∧ k2 < 32) (h3 : 0 < k3 ∧ k3 < 32)
    (next : Ex c dL ((defAt P2 22).body.drop 20) (ledW .any .any .any .any .any .any .any .any (.tr (.list ((wordsL k0 k1 k2 k3 s).map T.str))) .any .any .any pa pl .any .any .any .any [.list ((row4 k0 k1 k2 k3 c0 c1 c2 c3).map rowT)]) Q) :
    Ex c dL ((defAt P2 22).body.drop 18) (ledR fr aw ro be i j so tu pa cu sh (.tr (.int s)) (.tr (.int (s % 9 : Nat))) (.tr (nT s)) pl [.list ((row4 k0 k1 k2 k3 c0 c1 c2 c3).map rowT)]) Q := by
  have hl : s % 9 < 9 := Nat.mod_lt _ (by decide)
  have hnl := namesAt_len _ hl
  refine Ex.cons (Ex1.asgC (k := 12) (by walk_at "mem") (Ev.cast (u := sides4 (s % 9) k0 k1 k2 k3) (EvX.lcB 16 0 ["some", "cost"] [("some", .loc), ("cost", .loc), ("low", .cel 2), ("pretty_flags", .glb)] (fun _ => true) (sideF (s % 9)) (fun t => [.ns [("some", .tr (dT1 t)), ("cost", .tr (dT2 t))]])
    (us := (row4 k0 k1 k2 k3 c0 c1 c2 c3).map rowT) (Src.mlist (by walk_at "ev") rfl) (by rfl) (fun _ => rfl) (Nat.le_of_ble_eq_true rfl) ⟨fun c' acc hc t ht mo => ?_, fun t ht => ⟨by (repeat' first | exact WkL.nil | exact WkN.nil | apply WkL.cons | apply WkN.cons | exact WkX.any | exact WkX.eq rfl | exact WkM.eq rfl | apply WkM.ns | apply WkM.cell | exact WkM.dead), rfl⟩⟩ (hok := by decide +kernel)) rfl) (by walk_at "as") ?_)
  · obtain ⟨k, cc, hk, rfl⟩ : ∃ (k : Nat) (cc : Int), (0 < k ∧ k < 32) ∧ t = rowT ((k : Nat), cc) := by
      obtain ⟨r, hr, rfl⟩ := List.mem_map.mp ht
      simp only [row4, List.mem_cons, List.not_mem_nil, or_false] at hr
      rcases hr with rfl | rfl | rfl | rfl
      · exact ⟨_, _, h0, rfl⟩
      · exact ⟨_, _, h1, rfl⟩
      · exact ⟨_, _, h2, rfl⟩
      · exact ⟨_, _, h3, rfl⟩
    have E' : Env2 c'.W C D K fI fM pI cI pM cM vs f tc tm tz := hc.hW.symm ▸ E
    have hn' : 4 ≤ c'.n := by rw [hc.hn]; exact hn
    have hp2 : 2 ^ (s % 9) ≤ 2 ^ 8 := Nat.pow_le_pow_right (by decide) (by omega)
    have hp0 := Nat.two_pow_pos (s % 9)
    have hm0 : 0 < k * 2 ^ (s % 9) := Nat.mul_pos hk.1 hp0
    have hm1 : k * 2 ^ (s % 9) ≤ 31 * 2 ^ 8 := Nat.mul_le_mul (by omega) hp2
    have e1 : ((k : Nat) : Int) * 2 ^ (((s % 9 : Nat) : Int)).toNat = ((k * 2 ^ (s % 9) : Nat) : Int) := by rw [Int.toNat_natCast]; push_cast; rfl
    obtain ⟨q1, q2, q3⟩ := side_split hl hk.2 hk.1
    simp only [compFr, List.map, List.replicate, List.cons_append, List.nil_append, id_eq]
    dsimp only [dT1, dT2, sideF]
    refine ⟨by walk_at "as", Tst.nil, fun _ => ?_⟩
    refine Ev.cast (EvX.split (x := Txt.join ", " (sideT (s % 9) k)) (Ev.cast (u := .str (Txt.join ", " (sideT (s % 9) k))) (EvX.call (Ev.glob (by walk_at "mem") (E'.nm (i := 6) (by decide))) (E'.fn 6 (by decide)) (EvS.cons (Ev.cast (u := .int (k * 2 ^ (s % 9) : Nat)) (EvX.bin (by walk_at "ev") (by walk_at "ev") (OpX.shlI (by omega) (by omega) (by omega))) (by rw [e1])) EvS.nil)
      (CaX.fn (n := 1) (ts := [.int (k * 2 ^ (s % 9) : Nat)]) (w2_flags (E'.fn 6 (by decide)) E'.flags E'.fname (E'.bt _ (by decide)) (E'.bt _ (by decide)) (k * 2 ^ (s % 9)) hm0 (by omega)) (by omega))) (congrArg (fun z => T.str (Txt.join ", " z)) (side_T _ hl k hk.2))) (by walk_at "ev") (by decide +kernel) (by omega) (by exact Nat.le_trans q3 (by decide))) ?_
    rw [Int.toNat_natCast]
    exact congrArg (fun l => T.list (l.map T.str)) q1
  refine Ex.cons (Ex1.lcB 16 1 [] [("name", .cel 18), ("sides", .cel 12), ("whole", .cel 1), ("_law_word", .glb)] (fun _ => true) (wordF (s % 9) k0 k1 k2 k3 s) (fun t => [.ns [], .cell (.tr t)])
    (us := (namesAt (s % 9)).map T.str) (Src.list (by walk_at "ev")) (by rfl) (fun _ => trivial) (by rw [List.length_map, hnl]; decide) ⟨fun c' acc hc t ht mo => ?_, fun t ht => ⟨by (repeat' first | exact WkL.nil | exact WkN.nil | apply WkL.cons | apply WkN.cons | exact WkX.any | exact WkX.eq rfl | exact WkM.eq rfl | apply WkM.ns | apply WkM.cell | exact WkM.dead), rfl⟩⟩ (by walk_at "mem") (by walk_at "put") (by walk_at "putn") ?_ (hok := by decide +kernel))
  · obtain ⟨nm, hnm, rfl⟩ := List.mem_map.mp ht
    have E' : Env2 c'.W C D K fI fM pI cI pM cM vs f tc tm tz := hc.hW.symm ▸ E
    have hn' : 4 ≤ c'.n := by rw [hc.hn]; exact hn
    have hno := name_ok _ hl nm hnm
    simp only [compFr, List.map, List.replicate, List.cons_append, List.nil_append, id_eq]
    refine ⟨by walk_at "as", Tst.nil, fun _ => ?_⟩
    have e4 : ((s : Int).fdiv 22).fmod 4 = ((s / 22 % 4 : Nat) : Int) := fdm_nat s 22 4
    refine EvX.call (Ev.glob (by walk_at "mem") (E'.nm (i := 21) (by decide))) (E'.fn 21 (by decide)) (EvS.cons (Ev.cast (u := .list [.int (inN nm (sideT (s % 9) k0) : Nat), .int (inN nm (sideT (s % 9) k1) : Nat), .int (inN nm (sideT (s % 9) k2) : Nat), .int (inN nm (sideT (s % 9) k3) : Nat)])
      (EvX.lcB 19 0 ["side"] [("side", .loc), ("name", .cel 18)] (fun _ => true) (inF nm) (fun t => [.ns [("side", .tr t)]]) (us := [.list ((sideT (s % 9) k0).map T.str), .list ((sideT (s % 9) k1).map T.str), .list ((sideT (s % 9) k2).map T.str), .list ((sideT (s % 9) k3).map T.str)])
        (Src.list (by walk_at "ev")) (by rfl) (fun _ => trivial) (Nat.le_of_ble_eq_true rfl) ⟨fun c'' acc hc' t ht mo => ?_, fun t ht => ⟨by (repeat' first | exact WkL.nil | exact WkN.nil | apply WkL.cons | apply WkN.cons | exact WkX.any | exact WkX.eq rfl | exact WkM.eq rfl | apply WkM.ns | apply WkM.cell | exact WkM.dead), rfl⟩⟩ (hok := by dsimp only; decide +kernel)) ?_) (EvS.cons (Ev.cast (u := .int (s / 22 % 4 : Nat)) (EvX.bin (EvX.bin (by walk_at "ev") (by walk_at "ev") (OpX.divI (by decide) (by decide))) (by walk_at "ev") (OpX.modI (by decide))) (by rw [e4])) EvS.nil))
      (CaX.fn (n := 1) (ts := [.list [.int (inN nm (sideT (s % 9) k0) : Nat), .int (inN nm (sideT (s % 9) k1) : Nat), .int (inN nm (sideT (s % 9) k2) : Nat), .int (inN nm (sideT (s % 9) k3) : Nat)], .int (s / 22 % 4 : Nat)]) (w2_word (E'.fn 21 (by decide)) _ _ _ _ (inN_lt _ _) (inN_lt _ _) (inN_lt _ _) (inN_lt _ _) _) (by omega))
    · obtain ⟨k, hk, rfl⟩ : ∃ k : Nat, k < 32 ∧ t = .list ((sideT (s % 9) k).map T.str) := by
        simp only [List.mem_cons, List.not_mem_nil, or_false] at ht
        rcases ht with rfl | rfl | rfl | rfl
        · exact ⟨_, h0.2, rfl⟩
        · exact ⟨_, h1.2, rfl⟩
        · exact ⟨_, h2.2, rfl⟩
        · exact ⟨_, h3.2, rfl⟩
      simp only [compFr, List.map, List.replicate, List.cons_append, List.nil_append, id_eq]
      refine ⟨by walk_at "as", Tst.nil, fun _ => EvX.ite (EvB.cmp (by walk_at "ev") (by walk_at "ev") (OpB.inL (t := .str nm) hno (allData_str _ (side_ok hl)) (Nat.zero_le _))) (fun _ => by walk_at "ev") (fun _ => by walk_at "ev") ?_⟩
      dsimp only [inF]
      split <;> rfl
    · rw [List.filter_eq_self.mpr (fun _ _ => rfl)]
      simp only [List.map, inF_eq]
  have ew : (((namesAt (s % 9)).map T.str).filter (fun _ => true)).map (wordF (s % 9) k0 k1 k2 k3 s) = (wordsL k0 k1 k2 k3 s).map T.str := by
    rw [List.filter_eq_self.mpr (fun _ _ => rfl), List.map_map]
    refine List.ext_getElem (by rw [List.length_map, List.length_map, wordsL, List.length_map, List.length_range, hnl]) fun v hv1 hv2 => ?_
    rw [List.length_map, hnl] at hv1
    rw [List.getElem_map, List.getElem_map]
    have e5 : (namesAt (s % 9))[v]'(by omega) = (namesAt (s % 9)).getD v "" := by rw [List.getD_eq_getElem?_getD, List.getElem?_eq_getElem (by omega)]; rfl
    show T.str _ = T.str _
    rw [e5, side_in _ hl v hv1 _ h0.2, side_in _ hl v hv1 _ h1.2, side_in _ hl v hv1 _ h2.2, side_in _ hl v hv1 _ h3.2]
    simp only [wordsL, List.getElem_map, List.getElem_range]
    rfl
  rw [ew]
  exact Ex.stp (Stp.wk (σ₁ := ledW .any .any .any .any .any .any .any .any (.tr (.list ((wordsL k0 k1 k2 k3 s).map T.str))) .any .any .any pa pl .any .any .any .any [.list ((row4 k0 k1 k2 k3 c0 c1 c2 c3).map rowT)]) (by (repeat' first | exact WkL.nil | exact WkN.nil | apply WkL.cons | apply WkN.cons | exact WkX.any | exact WkX.eq rfl | exact WkM.eq rfl | apply WkM.ns | apply WkM.cell | exact WkM.dead)) rfl) next
end
end
-- C27
section
section
variable {c : Cx} {C D : Addr} {K : Frag} {fI fM : Addr} {pI cI pM cM : Value} {vs : List (Int × Value)} {f : Nat → Addr} {tc tm tz : Tok} {Q : Out → Prop}
noncomputable def wC (k0 k1 k2 k3 s v : Nat) : List Nat := (wordN k0 k1 k2 k3 s v).cps.toList
theorem wC_ofL (k0 k1 k2 k3 s v : Nat) : wordN k0 k1 k2 k3 s v = ofL (wC k0 k1 k2 k3 s v) := by
  unfold wC ofL; cases wordN k0 k1 k2 k3 s v; rfl
noncomputable def wordCk (b0 b1 b2 b3 e : Nat) : Bool := (wordOf b0 b1 b2 b3 (e : Nat)).cps.toList.all (fun x => Nat.blt x 128) && Nat.ble (wordOf b0 b1 b2 b3 (e : Nat)).cps.toList.length 40
theorem word_ck : ∀ b0, b0 < 2 → ∀ b1, b1 < 2 → ∀ b2, b2 < 2 → ∀ b3, b3 < 2 → ∀ e, e < 4 → wordCk b0 b1 b2 b3 e = true := by decide +kernel
theorem word_asc {b0 b1 b2 b3 e : Nat} (h0 : b0 < 2) (h1 : b1 < 2) (h2 : b2 < 2) (h3 : b3 < 2) (he : e < 4) : (∀ x ∈ (wordOf b0 b1 b2 b3 (e : Nat)).cps.toList, x < 128) ∧ (wordOf b0 b1 b2 b3 (e : Nat)).cps.toList.length ≤ 40 := by
  have h := word_ck b0 h0 b1 h1 b2 h2 b3 h3 e he
  unfold wordCk at h
  rw [Bool.and_eq_true, List.all_eq_true, Nat.ble_eq] at h
  exact ⟨fun x hx => Nat.blt_eq.mp (h.1 x hx), h.2⟩
theorem bitN_lt (k v : Nat) : bitN k v < 2 := by unfold bitN; cases k.testBit v <;> decide
theorem wC_ok (k0 k1 k2 k3 s v : Nat) : Asc (wC k0 k1 k2 k3 s v) ∧ (wC k0 k1 k2 k3 s v).length ≤ 40 :=
  word_asc (bitN_lt k0 v) (bitN_lt k1 v) (bitN_lt k2 v) (bitN_lt k3 v) (Nat.mod_lt _ (by decide))
noncomputable def partZ (b0 b1 b2 b3 : Bool) : List Nat := [0, 1, 2, 3].filter fun k => [b0, b1, b2, b3].getD k false
noncomputable abbrev part4 (k0 k1 k2 k3 i j : Nat) : List Nat := partZ (xorZ k0 i j) (xorZ k1 i j) (xorZ k2 i j) (xorZ k3 i j)
theorem partZ_lt {b0 b1 b2 b3 : Bool} {k : Nat} (h : k ∈ partZ b0 b1 b2 b3) : k < 4 := by
  have := (List.mem_filter.mp h).1
  simp at this; omega
theorem partZ_len (b0 b1 b2 b3 : Bool) : (partZ b0 b1 b2 b3).length ≤ 4 := List.length_filter_le _ _
noncomputable def feeL (l : List Nat) : List Int := l.map fun k => [2, 1, 1, 2].getD k 0
noncomputable def feeF : T → T
  | .int k => .int (([2, 1, 1, 2] : List Int).getD k.toNat 0)
  | _ => .none
noncomputable def costL (c0 c1 c2 c3 : Int) (l : List Nat) : List Int := l.map fun k => [c0, c1, c2, c3].getD k 0
noncomputable def costF (c0 c1 c2 c3 : Int) : T → T
  | .int k => .int ([c0, c1, c2, c3].getD k.toNat 0)
  | _ => .none
noncomputable def placeP (i j : Nat) : T → Bool
  | .tup [_, .tup [.int x, _]] => xorZ x i j
  | _ => false
noncomputable def tA : T → T
  | .tup [x, _] => x
  | _ => .none
noncomputable def tB : T → T
  | .tup [_, .tup [x, _]] => x
  | _ => .none
noncomputable def tC : T → T
  | .tup [_, .tup [_, x]] => x
  | _ => .none
theorem part_eq (k0 k1 k2 k3 i j : Nat) (c0 c1 c2 c3 : Int) : ((enumT ((row4 k0 k1 k2 k3 c0 c1 c2 c3).map rowT)).filter (placeP i j)).map tA = ((part4 k0 k1 k2 k3 i j).map fun (k : Nat) => (k : Int)).map T.int := by
  show (List.filter (placeP i j) [.tup [.int (0 : Nat), rowT ((k0 : Nat), c0)], .tup [.int (1 : Nat), rowT ((k1 : Nat), c1)], .tup [.int (2 : Nat), rowT ((k2 : Nat), c2)], .tup [.int (3 : Nat), rowT ((k3 : Nat), c3)]]).map tA = _
  have h0 : placeP i j (.tup [.int (0 : Nat), rowT ((k0 : Nat), c0)]) = xorZ k0 i j := rfl
  have h1 : placeP i j (.tup [.int (1 : Nat), rowT ((k1 : Nat), c1)]) = xorZ k1 i j := rfl
  have h2 : placeP i j (.tup [.int (2 : Nat), rowT ((k2 : Nat), c2)]) = xorZ k2 i j := rfl
  have h3 : placeP i j (.tup [.int (3 : Nat), rowT ((k3 : Nat), c3)]) = xorZ k3 i j := rfl
  rw [List.filter_cons, List.filter_cons, List.filter_cons, List.filter_cons, List.filter_nil, h0, h1, h2, h3]
  show _ = ((partZ (xorZ k0 i j) (xorZ k1 i j) (xorZ k2 i j) (xorZ k3 i j)).map fun (k : Nat) => (k : Int)).map T.int
  clear h0 h1 h2 h3
  generalize xorZ k0 i j = b0
  generalize xorZ k1 i j = b1
  generalize xorZ k2 i j = b2
  generalize xorZ k3 i j = b3
  cases b0 <;> cases b1 <;> cases b2 <;> cases b3 <;> rfl
structure PairOk (N : List Nat) (s k0 k1 k2 k3 : Nat) (c0 c1 c2 c3 : Int) (i j : Nat) : Prop where
  ab : lev (wC k0 k1 k2 k3 s i) (wC k0 k1 k2 k3 s j) (feeL (part4 k0 k1 k2 k3 i j)).sum = (feeL (part4 k0 k1 k2 k3 i j)).sum
  ba : lev (wC k0 k1 k2 k3 s j) (wC k0 k1 k2 k3 s i) ((feeL (part4 k0 k1 k2 k3 i j)).sum - 1) = (feeL (part4 k0 k1 k2 k3 i j)).sum
  low : ∃ M : Int, (M ∈ costL c0 c1 c2 c3 (part4 k0 k1 k2 k3 i j) ∧ ∀ a ∈ costL c0 c1 c2 c3 (part4 k0 k1 k2 k3 i j), M ≤ a) ∧ (M ∈ (sidesL i j).map (plainZ N) ∧ ∀ a ∈ (sidesL i j).map (plainZ N), M ≤ a)
noncomputable abbrev ledP (i j so pd pr fa : X) (wo pa pl ke : X) (r : List MO) : List MO :=
  lns .any .any .any .any .any pa .any .any .any .any .any .any .any .any wo pd pr fa :: lcs .any .any .any .any .any j i .any so pl ke .any (.dead :: .dead :: r)
set_option maxHeartbeats 1000000 in
theorem law_J (E : Env2 c.W C D K fI fM pI cI pM cM vs f tc tm tz) (hn : 4 ≤ c.n) (N : List Nat) (s k0 k1 k2 k3 : Nat) (c0 c1 c2 c3 : Int) (hP : ∀ p ∈ pairsN, PairOk N s k0 k1 k2 k3 c0 c1 c2 c3 p.1 p.2)
    (next : ∀ σ, Q (.ret (.tr (.bool true)) σ)) :
    Ex c dL ((defAt P2 22).body.drop 20) (ledW .any .any .any .any .any .any .any .any (.tr (.list ((wordsL k0 k1 k2 k3 s).map T.str))) .any .any .any (.tr (.list (pairsN.map pairT))) (.tr (plainT N)) .any .any .any .any [.list ((row4 k0 k1 k2 k3 c0 c1 c2 c3).map rowT)]) Q := by
  refine Ex.stp (Stp.frozen (k := 15) (by walk_at "put") rfl (by (repeat' first | exact FzL.nil | exact FzN.nil | apply FzL.cons | apply FzN.cons | with_reducible exact FzX.mt | exact FzX.eq rfl | apply FzM.ns | apply FzM.cell | exact FzM.eq rfl))) ?_
  refine Ex.cons (Ex1.for (us := pairsN.map pairT) (Src.list (by walk_at "ev"))
    (fun _ σ => ∃ i j so pd pr fa, σ = ledP i j so pd pr fa (.tr (.list ((wordsL k0 k1 k2 k3 s).map T.str))) (.tr (.list (pairsN.map pairT))) (.tr (plainT N)) (.tr (.list ((row4 k0 k1 k2 k3 c0 c1 c2 c3).map rowT))) [.dead])
    ⟨_, _, _, _, _, _, rfl⟩ (fun _ _ _ => trivial) (fun k tt σ ht hJ => ?_) (fun σ hJ => ?_))
  · obtain ⟨i', j', so, pd, pr, fa, rfl⟩ := hJ
    rw [List.getElem?_map, Option.map_eq_some_iff] at ht
    obtain ⟨⟨i, j⟩, hq, rfl⟩ := ht
    have hqm := List.mem_of_getElem? hq
    have hql := pairsN_lt _ hqm
    have H := hP _ hqm
    dsimp only at hql H
    obtain ⟨M, ⟨m1, m2⟩, m3, m4⟩ := H.low
    have Hab := H.ab
    have Hba := H.ba
    generalize hpt : part4 k0 k1 k2 k3 i j = pt at *
    have hplt : ∀ k ∈ pt, k < 4 := fun k hk => by rw [← hpt] at hk; exact partZ_lt hk
    have hpl : pt.length ≤ 4 := by rw [← hpt]; exact partZ_len _ _ _ _
    refine ⟨_, by walk_at "as", ?_⟩
    refine Ex.cons (Ex1.lcB 16 0 ["place", "some", "cost"] [("place", .loc), ("some", .loc), ("cost", .loc), ("i", .cel 7), ("j", .cel 6)] (placeP i j) tA (fun t => [.ns [("place", .tr (tA t)), ("some", .tr (tB t)), ("cost", .tr (tC t))]])
      (us := enumT ((row4 k0 k1 k2 k3 c0 c1 c2 c3).map rowT)) (Src.enumL (Ev.bt Boot.enumerate (by walk_at "mem") (E.bt _ (by decide))) (EvS.cons (by walk_at "ev") EvS.nil)) (by rfl) (fun _ => trivial) (by rw [enumT_length]; exact Nat.le_of_ble_eq_true rfl) ⟨fun c' acc hc t ht mo => ?_, fun t ht => ⟨by (repeat' first | exact WkL.nil | exact WkN.nil | apply WkL.cons | apply WkN.cons | exact WkX.any | exact WkX.eq rfl | exact WkM.eq rfl | apply WkM.ns | apply WkM.cell | exact WkM.dead), rfl⟩⟩ (by walk_at "mem") (by walk_at "put")
      (by rw [part_eq, hpt]; walk_at "putn") ?_ (hok := by decide +kernel))
    · obtain ⟨n, hn'⟩ := List.mem_iff_getElem?.mp ht
      rw [enumT_get, List.getElem?_map] at hn'
      obtain ⟨r, hr, rfl⟩ : ∃ r, (row4 k0 k1 k2 k3 c0 c1 c2 c3)[n]? = some r ∧ t = .tup [.int n, rowT r] := by
        cases h : (row4 k0 k1 k2 k3 c0 c1 c2 c3)[n]? with
        | none => rw [h] at hn'; cases hn'
        | some r => rw [h] at hn'; exact ⟨r, rfl, (Option.some.inj hn').symm⟩
      simp only [compFr, List.map, List.replicate, List.cons_append, List.nil_append, id_eq]
      dsimp only [tA, tB, tC]
      exact ⟨by walk_at "as", Tst.one (EvB.plain (EvX.bin (EvX.bin (EvX.bin (by walk_at "ev") (by walk_at "ev") (OpX.shrI (by omega))) (EvX.bin (by walk_at "ev") (by walk_at "ev") (OpX.shrI (by omega))) OpX.xorI) (by walk_at "ev") OpX.andI) Tru.int), fun _ => by walk_at "ev"⟩
    have hsum : c.W.mg "sum" = Option.none := E.bt _ (by decide)
    have hmin : c.W.mg "min" = Option.none := E.bt _ (by decide)
    refine Ex.cons (Ex1.asg (EvX.callB (Ev.bt Boot.sum (by walk_at "mem") hsum) (EvS.cons (Ev.cast (u := .list ((feeL pt).map T.int)) (EvX.lcB 16 0 ["place"] [("place", .loc)] (fun _ => true) feeF (fun t => [.ns [("place", .tr t)]])
      (us := (pt.map fun (k : Nat) => (k : Int)).map T.int) (Src.list (by walk_at "ev")) (by rfl) (fun _ => trivial) (by rw [List.length_map, List.length_map]; omega) ⟨fun c' acc hc t ht mo => ?_, fun t ht => ⟨by (repeat' first | exact WkL.nil | exact WkN.nil | apply WkL.cons | apply WkN.cons | exact WkX.any | exact WkX.eq rfl | exact WkM.eq rfl | apply WkM.ns | apply WkM.cell | exact WkM.dead), rfl⟩⟩ (hok := by decide +kernel)) ?_) EvS.nil) (CaX.sumL (ns := feeL pt))) (by walk_at "as") ?_)
    · obtain ⟨z, hz, rfl⟩ := List.mem_map.mp ht
      obtain ⟨k, hk, rfl⟩ := List.mem_map.mp hz
      have hk4 := hplt k hk
      simp only [compFr, List.map, List.replicate, List.cons_append, List.nil_append, id_eq]
      refine ⟨by walk_at "as", Tst.nil, fun _ => EvX.sub (Ev.tup (by walk_at "ts")) (by walk_at "ev") (GetX.tupN ?_ (Nat.le_of_ble_eq_true rfl))⟩
      have : k = 0 ∨ k = 1 ∨ k = 2 ∨ k = 3 := by omega
      rcases this with rfl | rfl | rfl | rfl <;> rfl
    · rw [List.filter_eq_self.mpr (fun _ _ => rfl), List.map_map, List.map_map, feeL, List.map_map]; rfl
    have hw : ∀ v, v < 5 → ∀ σ, GetX c σ (.tr (.list ((wordsL k0 k1 k2 k3 s).map T.str))) (.tr (.int (v : Nat))) (.tr (.str (ofL (wC k0 k1 k2 k3 s v)))) := fun v hv σ =>
      GetX.listN (by rw [List.getElem?_map, wordsL, List.getElem?_map, List.getElem?_range hv, ← wC_ofL]; rfl) (by rw [List.length_map, wordsL, List.length_map, List.length_range]; decide)
    have hi5 : i < 5 := by omega
    have hlev : ∀ (u v : Nat) (z : Int), Fn c.W (.ref (f 13)) 2 [.tr (.str (ofL (wC k0 k1 k2 k3 s u))), .tr (.str (ofL (wC k0 k1 k2 k3 s v))), .tr (.int z)] [] (.tr (.int (lev (wC k0 k1 k2 k3 s u) (wC k0 k1 k2 k3 s v) z))) [] := fun u v z =>
      w2_lev (E.fn 13 (by decide)) (E.fn 12 (by decide)) (E.nm (i := 12) (by decide)) E.cc E.mc E.mz (E.bt _ (by decide)) (E.bt _ (by decide)) (E.bt _ (by decide)) (E.bt _ (by decide)) _ _ (wC_ok k0 k1 k2 k3 s u).1 (wC_ok k0 k1 k2 k3 s v).1 (wC_ok k0 k1 k2 k3 s u).2 (wC_ok k0 k1 k2 k3 s v).2 z
    refine Ex.cons (Ex1.asg (x := .tr (.list [.int (feeL pt).sum, .int (feeL pt).sum])) (Ev.list (EvTs.cons
      (EvX.call (Ev.glob (by walk_at "mem") (E.nm (i := 13) (by decide))) (E.fn 13 (by decide)) (EvS.cons (EvX.sub (by walk_at "ev") (by walk_at "ev") (hw i hi5 _)) (EvS.cons (EvX.sub (by walk_at "ev") (by walk_at "ev") (hw j hql.2 _)) (EvS.cons (by walk_at "ev") EvS.nil)))
        (CaX.cast (CaX.fn (n := 2) (ts := [.str (ofL (wC k0 k1 k2 k3 s i)), .str (ofL (wC k0 k1 k2 k3 s j)), .int (feeL pt).sum]) (hlev i j _) (by omega)) (by rw [Hab])))
      (EvTs.cons (EvX.call (Ev.glob (by walk_at "mem") (E.nm (i := 13) (by decide))) (E.fn 13 (by decide)) (EvS.cons (EvX.sub (by walk_at "ev") (by walk_at "ev") (hw j hql.2 _)) (EvS.cons (EvX.sub (by walk_at "ev") (by walk_at "ev") (hw i hi5 _)) (EvS.cons (by walk_at "ev") EvS.nil)))
        (CaX.cast (CaX.fn (n := 2) (ts := [.str (ofL (wC k0 k1 k2 k3 s j)), .str (ofL (wC k0 k1 k2 k3 s i)), .int ((feeL pt).sum - 1)]) (hlev j i _) (by omega)) (by rw [Hba]))) EvTs.nil))) (by walk_at "as") ?_)
    have hsm : ∀ x ∈ sidesL i j, 0 ≤ x ∧ x < 32 := fun x hx => mem_rng (List.mem_filter.mp hx).1
    have hsl : (sidesL i j).length ≤ 32 := Nat.le_trans (List.length_filter_le _ _) (by rw [rng_length]; decide)
    refine Ex.cons (Ex1.ite (b := (!teq (.list [.int (feeL pt).sum, .int (feeL pt).sum]) (.list [.int (feeL pt).sum, .int (feeL pt).sum])) || ((M != M) || false)) (EvB.or (EvB.cmp (by walk_at "ev") (Ev.list (by walk_at "ts")) (OpB.neT rfl rfl (Nat.le_of_ble_eq_true rfl))) (fun _ => EvB.or (EvB.cmp
      (EvX.callB (Ev.bt Boot.min (by walk_at "mem") hmin) (EvS.cons (Ev.cast (u := .list ((costL c0 c1 c2 c3 pt).map T.int)) (EvX.lcB 16 0 ["place"] [("place", .loc), ("kept", .cel 11)] (fun _ => true) (costF c0 c1 c2 c3) (fun t => [.ns [("place", .tr t)]])
        (us := (pt.map fun (k : Nat) => (k : Int)).map T.int) (Src.list (by walk_at "ev")) (by rfl) (fun _ => trivial) (by rw [List.length_map, List.length_map]; omega) ⟨fun c' acc hc t ht mo => ?_, fun t ht => ⟨by (repeat' first | exact WkL.nil | exact WkN.nil | apply WkL.cons | apply WkN.cons | exact WkX.any | exact WkX.eq rfl | exact WkM.eq rfl | apply WkM.ns | apply WkM.cell | exact WkM.dead), rfl⟩⟩ (hok := by decide +kernel)) ?_) EvS.nil) (CaX.minL (M := M) m1 m2))
      (EvX.callB (Ev.bt Boot.min (by walk_at "mem") hmin) (EvS.cons (Ev.cast (u := .list (((sidesL i j).map (plainZ N)).map T.int)) (EvX.lcB 16 0 ["some"] [("some", .loc), ("plain", .cel 10)] (fun _ => true) (plF N) (fun t => [.ns [("some", .tr t)]])
        (us := (sidesL i j).map T.int) (Src.list (EvX.call (Ev.glob (by walk_at "mem") (E.nm (i := 20) (by decide))) (E.fn 20 (by decide)) (EvS.cons (by walk_at "ev") (EvS.cons (by walk_at "ev") EvS.nil)) (CaX.fn (n := 1) (ts := [.int i, .int j]) (w2_sides (E.fn 20 (by decide)) i j (E.bt _ (by decide))) (by omega))))
        (by rfl) (fun _ => trivial) (by rw [List.length_map]; omega) ⟨fun c' acc hc t ht mo => ?_, fun t ht => ⟨by (repeat' first | exact WkL.nil | exact WkN.nil | apply WkL.cons | apply WkN.cons | exact WkX.any | exact WkX.eq rfl | exact WkM.eq rfl | apply WkM.ns | apply WkM.cell | exact WkM.dead), rfl⟩⟩ (hok := by decide +kernel)) ?_) EvS.nil) (CaX.minL (M := M) m3 m4)) OpB.neI) (fun _ => EvB.or_nil))) (fun h => ?_) (fun _ => ?_))
    · obtain ⟨z, hz, rfl⟩ := List.mem_map.mp ht
      obtain ⟨k, hk, rfl⟩ := List.mem_map.mp hz
      have hk4 := hplt k hk
      simp only [compFr, List.map, List.replicate, List.cons_append, List.nil_append, id_eq]
      have h4 : k = 0 ∨ k = 1 ∨ k = 2 ∨ k = 3 := by omega
      refine ⟨by walk_at "as", Tst.nil, fun _ => Ev.cast (EvX.sub (EvX.sub (by walk_at "ev") (by walk_at "ev") (GetX.listN (t := rowT ((row4 k0 k1 k2 k3 c0 c1 c2 c3).getD k (0, 0))) ?_ (Nat.le_of_ble_eq_true rfl))) (by walk_at "ev") (GetX.tupC (k := 1) (t := .int ((row4 k0 k1 k2 k3 c0 c1 c2 c3).getD k (0, 0)).2) rfl)) ?_⟩
      · rcases h4 with rfl | rfl | rfl | rfl <;> rfl
      · rcases h4 with rfl | rfl | rfl | rfl <;> rfl
    · rw [List.filter_eq_self.mpr (fun _ _ => rfl), List.map_map, List.map_map, costL, List.map_map]; rfl
    · obtain ⟨x, hx, rfl⟩ := List.mem_map.mp ht
      simp only [compFr, List.map, List.replicate, List.cons_append, List.nil_append, id_eq]
      exact ⟨by walk_at "as", Tst.nil, fun _ => EvX.sub (by walk_at "ev") (by walk_at "ev") (plain_at (hsm x hx))⟩
    · rw [List.filter_eq_self.mpr (fun _ _ => rfl), List.map_map, List.map_map]; rfl
    · rw [teq_intL2] at h; simp at h
    exact Ex.nil (Ex.nil ⟨_, Lo.refl (Nat.le_refl _), _, _, _, _, _, _, rfl⟩)
  · obtain ⟨i', j', so, pd, pr, fa, rfl⟩ := hJ
    refine Ex.nil (Ex.cons (Ex1.ret Ev.bool (next _)))
end
end
-- C28
section
section
variable {W : Wd} {C D : Addr} {K : Frag} {fI fM : Addr} {pI cI pM cM : Value} {vs : List (Int × Value)} {f : Nat → Addr} {tc tm tz : Tok}
structure Good2 (N : List Nat) (s : Nat) : Prop where
  tl : ∀ t ∈ tblsN N s, t.length ≤ 8
  tk : ∀ t ∈ tblsN N s, ∀ p ∈ t, PyData.strOk p.1 = true
  cut : cutsN (tblsN N s) (namesAt (s % 9)) 15 = cutL N
  sum : (cutL N).sum = 8 * (callsL N).sum
  turn : ∀ t, t < 4 → TurnOk N s t
  fin : ∃ (k0 k1 k2 k3 : Nat) (c0 c1 c2 c3 : Int), keptN N s 4 = row4 k0 k1 k2 k3 c0 c1 c2 c3 ∧ (0 < k0 ∧ k0 < 32) ∧ (0 < k1 ∧ k1 < 32) ∧ (0 < k2 ∧ k2 < 32) ∧ (0 < k3 ∧ k3 < 32) ∧ ∀ p ∈ pairsN, PairOk N s k0 k1 k2 k3 c0 c1 c2 c3 p.1 p.2
theorem w2_law {a : Addr} (hf : IsFn W (defAt P2 22) a) (E : Env2 W C D K fI fM pI cI pM cM vs f tc tm tz) (script : List Int) (hs : script.length ≤ 63) (N : List Nat) (hN : numsN 5 [934, 50, 24871, 16, 4703] (pick script none (some 60) none) = zl N) (hNl : N.length = 5) (hNb : ∀ n ∈ N, n < 2 ^ 30)
    (G : Good2 N N.sum) : FnC W (.ref a) 5 [.tr (.list (script.map T.int))] [] (.tr (.bool true)) [] := by
  refine FnC.mk hf ⟨["script"], [true], [none, none, none, none, none, none, none, none, none, none, none, none], ["numbers", "octets", "place", "number", "pairs", "tables", "cuts", "shift", "turn", "free", "away", "rows", "best", "words", "parted", "price", "far"]⟩ lawTab rfl (by (intro _ _ _ vs h; first | (match vs, h with | [_], _ => rfl) | (match vs, h with | [_, _], _ => rfl) | (match vs, h with | [_, _, _], _ => rfl))) 0
    (lns (.tr (.list (script.map T.int))) .any .any .any .any .any .any .any .any .any .any .any .any .any .any .any .any .any :: lcs .any .any .any .any .any .any .any .any .any .any .any .any []) rfl rfl (fun c hW hn => ?_) trivial (Nat.le_refl _) (fun _ h => (nomatch h))
  subst hW
  obtain ⟨k0, k1, k2, k3, c0, c1, c2, c3, hk, h0, h1, h2, h3, hP⟩ := G.fin
  have hl : N.sum % 9 < 9 := Nat.mod_lt _ (by decide)
  refine law_A E (by omega) script hs N hN hNl hNb N.sum rfl fun pl nb => ?_
  refine law_B E (by omega) _ N hNl hNb N.sum pl nb fun B pos => ?_
  refine law_C E (by omega) _ _ _ _ N N.sum _ _ rfl ?_
  refine law_D E (by omega) _ _ _ _ _ N hNl N.sum _ _ _ _ _ rfl ?_
  refine law_E E _ _ _ _ _ _ N N.sum _ _ _ _ _ rfl ?_
  refine law_F E _ _ _ _ _ _ _ N _ _ _ _ _ _ rfl ?_
  refine law_G E (by omega) _ _ _ _ _ _ N N.sum _ _ _ _ rfl G.tl (name_ok _ hl) G.tk G.cut G.sum ?_
  refine law_H E (by omega) _ _ _ _ _ _ _ _ _ N N.sum _ (.int (N.sum % 9 : Nat)) (nT N.sum) rfl G.turn fun tu fr aw ro be i j so => ?_
  rw [hk]
  refine law_I E (by omega) _ _ _ _ _ _ _ _ _ _ _ _ N.sum k0 k1 k2 k3 c0 c1 c2 c3 h0 h1 h2 h3 ?_
  exact law_J E (by omega) N N.sum k0 k1 k2 k3 c0 c1 c2 c3 hP fun σ => ⟨rfl, σ, rfl⟩
end
end
-- M1
section
noncomputable abbrev Ties := List ((Nat × Nat) × Nat)
noncomputable def cutF (L : Ties) (X : Nat → Bool) : Nat := (L.map fun q => if (X q.1.1 != X q.1.2) = true then q.2 else 0).sum
theorem cutF_cons (q : (Nat × Nat) × Nat) (L : Ties) (X : Nat → Bool) : cutF (q :: L) X = (if (X q.1.1 != X q.1.2) = true then q.2 else 0) + cutF L X := rfl
theorem corner1 : ∀ a b x x' y y' : Bool, (((x == a && y == b) != (x' == a && y' == b)).toNat + ((x == !a && y == !b) != (x' == !a && y' == !b)).toNat) ≤ (x != x').toNat + (y != y').toNat := by decide
theorem ite_toNat (b : Bool) (n : Nat) : (if b = true then n else 0) = b.toNat * n := by cases b <;> simp
theorem cut_corner (L : Ties) (X Y : Nat → Bool) (a b : Bool) : cutF L (fun v => X v == a && Y v == b) + cutF L (fun v => X v == !a && Y v == !b) ≤ cutF L X + cutF L Y := by
  induction L with
  | nil => exact Nat.le_refl _
  | cons q r ih =>
    rw [cutF_cons, cutF_cons, cutF_cons, cutF_cons, ite_toNat, ite_toNat, ite_toNat, ite_toNat]
    have h := Nat.mul_le_mul_right q.2 (corner1 a b (X q.1.1) (X q.1.2) (Y q.1.1) (Y q.1.2))
    rw [Nat.add_mul, Nat.add_mul] at h
    omega
theorem cut_same {L : Ties} {X Y : Nat → Bool} (h : ∀ q ∈ L, (X q.1.1 != X q.1.2) = (Y q.1.1 != Y q.1.2)) : cutF L X = cutF L Y := by
  unfold cutF
  congr 1
  exact List.map_congr_left fun q hq => by rw [h q hq]
theorem cut_not (L : Ties) (X : Nat → Bool) : cutF L (fun v => !X v) = cutF L X := cut_same fun q _ => by cases X q.1.1 <;> cases X q.1.2 <;> rfl

noncomputable def NC (A S : Nat → Bool) : Prop := ∃ a b : Bool, ∀ v, v < 5 → ¬(A v = a ∧ S v = b)
noncomputable def Resp (S A : Nat → Bool) (i : Nat) : Prop := ∃ b : Bool, ∀ v, v < 5 → A v ≠ A i → S v = b
structure Rep (L : Ties) (A : Nat → Bool) (u w : Nat) : Prop where
  hu : u < 5
  hw : w < 5
  ne : A u ≠ A w
  min : ∀ Y : Nat → Bool, Y u ≠ Y w → cutF L A ≤ cutF L Y
theorem NC.at {A S : Nat → Bool} (h : NC A S) {i : Nat} (hi : i < 5) : (∀ v, v < 5 → A v ≠ A i → S v ≠ S i → False) ∨ (∀ v, v < 5 → A v ≠ A i → S v ≠ S i) ∨ (∀ v, v < 5 → S v ≠ S i → A v ≠ A i) := by
  obtain ⟨a, b, h⟩ := h
  have h0 := h i hi
  by_cases h1 : A i = a
  · by_cases h2 : S i = b
    · exact absurd ⟨h1, h2⟩ h0
    · refine .inr (.inr fun v hv hs ha => h v hv ⟨ha.trans h1, ?_⟩)
      cases q : S v <;> cases q' : S i <;> cases b <;> simp_all
  · by_cases h2 : S i = b
    · refine .inr (.inl fun v hv ha hs => h v hv ⟨?_, hs.trans h2⟩)
      cases q : A v <;> cases q' : A i <;> cases a <;> simp_all
    · refine .inl fun v hv ha hs => h v hv ⟨?_, ?_⟩
      · cases q : A v <;> cases q' : A i <;> cases a <;> simp_all
      · cases q : S v <;> cases q' : S i <;> cases b <;> simp_all
theorem Resp.nc {S A : Nat → Bool} {i : Nat} (h : Resp S A i) : NC A S := by
  obtain ⟨b, h⟩ := h
  refine ⟨!A i, !b, fun v hv ⟨h1, h2⟩ => ?_⟩
  have := h v hv (by rw [h1]; cases A i <;> decide)
  rw [this] at h2
  cases b <;> cases h2
theorem NC.symm {A S : Nat → Bool} (h : NC A S) : NC S A := let ⟨a, b, h⟩ := h; ⟨b, a, fun v hv ⟨x, y⟩ => h v hv ⟨y, x⟩⟩
theorem Rep.flip {L : Ties} {A : Nat → Bool} {u w : Nat} (r : Rep L A u w) : Rep L A w u := ⟨r.hw, r.hu, fun e => r.ne e.symm, fun Y h => r.min Y fun e => h e.symm⟩
theorem uncross1 {L : Ties} {A S : Nat → Bool} {u w i : Nat} (r : Rep L A u w) (hu : A u ≠ A i) :
    cutF L (fun v => if A v = A i then S v else S u) ≤ cutF L S := by
  have hw : A w = A i := by
    have := r.ne
    cases q : A u <;> cases q' : A w <;> cases q'' : A i <;> simp_all
  have h1 := cut_corner L A S (A u) (S u)
  have h2 : cutF L A ≤ cutF L (fun v => A v == A u && S v == S u) := r.min _ (by
    have := r.ne
    cases q : A u <;> cases q' : A w <;> cases q'' : S u <;> simp_all)
  have h3 : cutF L (fun v => A v == !A u && S v == !S u) = cutF L (fun v => if A v = A i then S v else S u) := by
    refine cut_same fun q _ => ?_
    have e : ∀ v, (A v == !A u && S v == !S u) = ((if A v = A i then S v else S u) != S u) := fun v => by
      cases q : A u <;> cases q' : A i <;> cases q'' : S u <;> cases A v <;> cases S v <;> simp_all
    rw [e, e]
    cases (if A q.1.1 = A i then S q.1.1 else S u) <;> cases (if A q.1.2 = A i then S q.1.2 else S u) <;> cases S u <;> rfl
  omega
theorem uncross (L : Ties) {i j : Nat} (hi : i < 5) : ∀ (K : List (Nat → Bool)), (∀ A ∈ K, A i = A j) → (∀ A ∈ K, ∃ u w, Rep L A u w) → (∀ A ∈ K, ∀ A' ∈ K, A = A' ∨ NC A A') → ∀ S : Nat → Bool,
    ∃ S' : Nat → Bool, S' i = S i ∧ S' j = S j ∧ cutF L S' ≤ cutF L S ∧ ∀ A ∈ K, Resp S' A i
  | [], _, _, _, S => ⟨S, rfl, rfl, Nat.le_refl _, fun _ h => nomatch h⟩
  | A :: K, h1, h2, h3, S => by
    obtain ⟨S₁, e1, e2, e3, e4⟩ := uncross L hi K (fun B hB => h1 B (.tail _ hB)) (fun B hB => h2 B (.tail _ hB)) (fun B hB B' hB' => h3 B (.tail _ hB) B' (.tail _ hB')) S
    have hr : ∃ u w, Rep L A u w ∧ A u ≠ A i := by
      obtain ⟨u, w, r⟩ := h2 A (.head _)
      by_cases h : A u = A i
      · exact ⟨w, u, r.flip, fun e => r.ne (h.trans e.symm)⟩
      · exact ⟨u, w, r, h⟩
    obtain ⟨u, w, r, hu⟩ := hr
    refine ⟨fun v => if A v = A i then S₁ v else S₁ u, ?_, ?_, Nat.le_trans (uncross1 r hu) e3, fun B hB => ?_⟩
    · show (if A i = A i then S₁ i else S₁ u) = S i
      rw [if_pos rfl]; exact e1
    · show (if A j = A i then S₁ j else S₁ u) = S j
      rw [if_pos (h1 A (.head _)).symm]; exact e2
    · have self : Resp (fun v => if A v = A i then S₁ v else S₁ u) A i := ⟨S₁ u, fun v _ h => if_neg h⟩
      rcases List.mem_cons.mp hB with rfl | hB'
      · exact self
      · rcases h3 A (.head _) B hB with rfl | hn
        · exact self
        · obtain ⟨b, hb⟩ := e4 B hB'
          rcases hn.at hi with h | h | h
          · refine ⟨b, fun v hv hB => ?_⟩
            show (if A v = A i then S₁ v else S₁ u) = b
            by_cases q : A v = A i
            · rw [if_pos q]; exact hb v hv hB
            · exact (h v hv q hB).elim
          · refine ⟨b, fun v hv hB => ?_⟩
            show (if A v = A i then S₁ v else S₁ u) = b
            by_cases q : A v = A i
            · rw [if_pos q]; exact hb v hv hB
            · rw [if_neg q]; exact hb u r.hu (h u r.hu hu)
          · exact ⟨S₁ u, fun v hv hB => if_neg (h v hv hB)⟩
theorem rep_core {L : Ties} {A S : Nat → Bool} {u w x y : Nat} (r : Rep L A u w) (hx : x < 5) (hw : A w ≠ A x) (hs : S u ≠ S w) (hxs : S x = S w) (hys : S y ≠ S w) (hm : ∀ Y : Nat → Bool, Y x ≠ Y y → cutF L S ≤ cutF L Y) : Rep L A x w := by
  refine ⟨hx, r.hw, fun e => hw e.symm, fun Y hY => ?_⟩
  by_cases h1 : Y u = Y w
  · by_cases h2 : Y x = Y y
    · have c := cut_corner L Y S (Y w) (S w)
      have c1 : cutF L A ≤ cutF L (fun v => Y v == Y w && S v == S w) := r.min _ (by
        show (Y u == Y w && S u == S w) ≠ (Y w == Y w && S w == S w)
        cases q : S u <;> cases q' : S w <;> simp_all)
      have c2 : cutF L S ≤ cutF L (fun v => Y v == !Y w && S v == !S w) := hm _ (by
        show (Y x == !Y w && S x == !S w) ≠ (Y y == !Y w && S y == !S w)
        cases q : S x <;> cases q' : S w <;> cases q'' : S y <;> cases q3 : Y x <;> cases q4 : Y y <;> cases q5 : Y w <;> simp_all)
      omega
    · exact Nat.le_trans (r.min S hs) (hm Y h2)
  · exact r.min Y h1
theorem rep_step {L : Ties} {A S : Nat → Bool} {u w i j : Nat} (r : Rep L A u w) (hi : i < 5) (hj : j < 5) (hA : A i = A j) (hS : S i ≠ S j) (hm : ∀ Y : Nat → Bool, Y i ≠ Y j → cutF L S ≤ cutF L Y) :
    ∃ x z, Rep L A x z ∧ S x = S z ∧ ∀ B : Nat → Bool, B i = B j → Resp S B i → B u = B w → B x = B z := by
  by_cases hs : S u = S w
  · exact ⟨u, w, r, hs, fun B _ _ h => h⟩
  · have main : ∀ u w, Rep L A u w → A w ≠ A i → S u ≠ S w → ∃ x z, Rep L A x z ∧ S x = S z ∧ ∀ B : Nat → Bool, B i = B j → Resp S B i → B u = B w → B x = B z := by
      intro u w r hw hs
      have fin : ∀ x y, x < 5 → (x = i ∧ y = j) ∨ (x = j ∧ y = i) → S x = S w → S y ≠ S w → ∃ x z, Rep L A x z ∧ S x = S z ∧ ∀ B : Nat → Bool, B i = B j → Resp S B i → B u = B w → B x = B z := by
        intro x y hx hxy h1 h2
        have hAx : A x = A i := hxy.elim (fun h => by rw [h.1]) (fun h => by rw [h.1, hA])
        have hAy : A y = A i := hxy.elim (fun h => by rw [h.2, hA]) (fun h => by rw [h.2])
        refine ⟨x, w, rep_core r hx (by rw [hAx]; exact hw) hs h1 h2 (fun Y hY => hm Y ?_), h1, fun B hB hr hu => ?_⟩
        · rcases hxy with ⟨rfl, rfl⟩ | ⟨rfl, rfl⟩
          · exact hY
          · exact fun e => hY e.symm
        · have hBx : B x = B i := hxy.elim (fun h => by rw [h.1]) (fun h => by rw [h.1, hB])
          rw [hBx]
          by_cases q : B w = B i
          · exact q.symm
          · obtain ⟨b, hb⟩ := hr
            exact absurd ((hb u r.hu (by rw [hu]; exact q)).trans (hb w r.hw q).symm) hs
      by_cases h : S i = S w
      · exact fin i j hi (.inl ⟨rfl, rfl⟩) h fun e => hS (h.trans e.symm)
      · refine fin j i hj (.inr ⟨rfl, rfl⟩) ?_ h
        cases q : S i <;> cases q' : S j <;> cases q'' : S w <;> simp_all
    by_cases h : A w = A i
    · obtain ⟨x, z, h1, h2, h3⟩ := main w u r.flip (fun e => r.ne (e.trans h.symm)) fun e => hs e.symm
      exact ⟨x, z, h1, h2, fun B hB hr hu => h3 B hB hr hu.symm⟩
    · exact main u w r h hs
end
-- M2
section
structure GH (L : Ties) (K : List (Nat → Bool)) : Prop where
  nc : ∀ A ∈ K, ∀ A' ∈ K, A = A' ∨ NC A A'
  rep : ∀ (t : Nat) (A : Nat → Bool), K[t]? = some A → ∃ u w, Rep L A u w ∧ ∀ (t' : Nat) (B : Nat → Bool), K[t']? = some B → t' ≠ t → B u = B w
  cl : ∃ C : List Nat, C.length ≤ K.length + 1 ∧ (∀ c ∈ C, c < 5) ∧ ∀ v, v < 5 → ∃ c ∈ C, ∀ A ∈ K, A v = A c
theorem GH.nil (L : Ties) : GH L [] := ⟨fun _ h => (nomatch h), fun t A h => (by simp at h), [0], Nat.le_refl _, fun c h => by rw [List.mem_singleton.mp h]; decide, fun v _ => ⟨0, .head _, fun _ h => (nomatch h)⟩⟩
theorem GH.reps {L : Ties} {K : List (Nat → Bool)} (H : GH L K) : ∀ A ∈ K, ∃ u w, Rep L A u w := fun A hA => by
  obtain ⟨t, ht⟩ := List.mem_iff_getElem?.mp hA
  obtain ⟨u, w, r, _⟩ := H.rep t A ht
  exact ⟨u, w, r⟩
theorem GH.snoc {L : Ties} {K : List (Nat → Bool)} (H : GH L K) {S : Nat → Bool} {i j : Nat} (hi : i < 5) (hj : j < 5) (hK : ∀ A ∈ K, A i = A j) (hS : S i ≠ S j) (hm : ∀ Y : Nat → Bool, Y i ≠ Y j → cutF L S ≤ cutF L Y) (hr : ∀ A ∈ K, Resp S A i) : GH L (K ++ [S]) := by
  refine ⟨fun A hA A' hA' => ?_, fun t A ht => ?_, ?_⟩
  · rcases List.mem_append.mp hA with hA | hA <;> rcases List.mem_append.mp hA' with hA' | hA'
    · exact H.nc A hA A' hA'
    · rw [List.mem_singleton.mp hA']; exact .inr (hr A hA).nc
    · rw [List.mem_singleton.mp hA]; exact .inr (hr A' hA').nc.symm
    · rw [List.mem_singleton.mp hA, List.mem_singleton.mp hA']; exact .inl rfl
  · by_cases h : t < K.length
    · rw [List.getElem?_append_left h] at ht
      obtain ⟨u, w, r, h2⟩ := H.rep t A ht
      have hAK : A ∈ K := List.mem_of_getElem? ht
      obtain ⟨x, z, r', hs, h3⟩ := rep_step r hi hj (hK A hAK) hS hm
      refine ⟨x, z, r', fun t' B hB hne => ?_⟩
      by_cases h' : t' < K.length
      · rw [List.getElem?_append_left h'] at hB
        have hBK : B ∈ K := List.mem_of_getElem? hB
        exact h3 B (hK B hBK) (hr B hBK) (h2 t' B hB hne)
      · rw [List.getElem?_append_right (Nat.not_lt.mp h')] at hB
        have : B = S := by
          have := List.mem_of_getElem? hB
          exact List.mem_singleton.mp this
        rw [this]; exact hs
    · rw [List.getElem?_append_right (Nat.not_lt.mp h)] at ht
      have hl : t - K.length < 1 := (List.getElem?_eq_some_iff.mp ht).1
      have : A = S := List.mem_singleton.mp (List.mem_of_getElem? ht)
      subst this
      refine ⟨i, j, ⟨hi, hj, hS, hm⟩, fun t' B hB hne => ?_⟩
      have h' : t' < K.length := by
        have := (List.getElem?_eq_some_iff.mp hB).1
        rw [List.length_append] at this
        simp at this
        omega
      rw [List.getElem?_append_left h'] at hB
      exact hK B (List.mem_of_getElem? hB)

  · obtain ⟨C, hC, hC5, hv⟩ := H.cl
    obtain ⟨c0, hc0, h0⟩ := hv i hi
    have hx : ∃ x, (x = i ∨ x = j) ∧ S x ≠ S c0 := by
      by_cases h : S i = S c0
      · exact ⟨j, .inr rfl, fun e => hS (h.trans e.symm)⟩
      · exact ⟨i, .inl rfl, h⟩
    obtain ⟨x, hx, hxs⟩ := hx
    have hxK : ∀ A ∈ K, A x = A i := fun A hA => hx.elim (fun h => by rw [h]) fun h => by rw [h, hK A hA]
    refine ⟨C ++ [x], by rw [List.length_append, List.length_append]; simp; omega, fun c hc => (List.mem_append.mp hc).elim (hC5 c) fun h => by rw [List.mem_singleton.mp h]; rcases hx with h | h <;> rw [h] <;> assumption, fun v hv5 => ?_⟩
    obtain ⟨c, hc, hvc⟩ := hv v hv5
    by_cases hcl : ∀ A ∈ K, A v = A i
    · by_cases hs : S v = S c0
      · refine ⟨c0, List.mem_append_left _ hc0, fun A hA => ?_⟩
        rcases List.mem_append.mp hA with hA | hA
        · exact (hcl A hA).trans (h0 A hA)
        · rw [List.mem_singleton.mp hA]; exact hs
      · refine ⟨x, List.mem_append_right _ (.head _), fun A hA => ?_⟩
        rcases List.mem_append.mp hA with hA | hA
        · exact (hcl A hA).trans (hxK A hA).symm
        · rw [List.mem_singleton.mp hA]
          cases q : S v <;> cases q' : S x <;> cases q'' : S c0 <;> simp_all
    · obtain ⟨A, hA, hne⟩ : ∃ A ∈ K, A v ≠ A i := by
        false_or_by_contra
        rename_i hq
        exact hcl fun A hA => by
          false_or_by_contra
          rename_i hq'
          exact hq ⟨A, hA, hq'⟩
      obtain ⟨b, hb⟩ := hr A hA
      refine ⟨c, List.mem_append_left _ hc, fun B hB => ?_⟩
      rcases List.mem_append.mp hB with hB | hB
      · exact hvc B hB
      · rw [List.mem_singleton.mp hB]
        exact (hb v hv5 hne).trans (hb c (hC5 c hc) (by rw [← hvc A hA]; exact hne)).symm

noncomputable def par (Y : Nat → Bool) (m : Nat) : Bool := (m.testBit 0 && Y 0) ^^ ((m.testBit 1 && Y 1) ^^ ((m.testBit 2 && Y 2) ^^ ((m.testBit 3 && Y 3) ^^ (m.testBit 4 && Y 4))))
theorem x5 (a0 b0 a1 b1 a2 b2 a3 b3 a4 b4 : Bool) : ((a0 ^^ b0) ^^ ((a1 ^^ b1) ^^ ((a2 ^^ b2) ^^ ((a3 ^^ b3) ^^ (a4 ^^ b4))))) = ((a0 ^^ (a1 ^^ (a2 ^^ (a3 ^^ a4)))) ^^ (b0 ^^ (b1 ^^ (b2 ^^ (b3 ^^ b4))))) := by
  simp only [Bool.xor_assoc, Bool.xor_left_comm, Bool.xor_comm]
theorem par_xor (Y : Nat → Bool) (a b : Nat) : par Y (a ^^^ b) = (par Y a ^^ par Y b) := by
  unfold par
  simp only [Nat.testBit_xor, Bool.and_xor_distrib_right]
  exact x5 ..
theorem par_zero (Y : Nat → Bool) : par Y 0 = false := by simp [par]
theorem par_one (Y : Nat → Bool) : ∀ u, u < 5 → par Y (2 ^ u) = Y u
  | 0, _ => by simp [par, Nat.testBit]
  | 1, _ => by simp [par, Nat.testBit]
  | 2, _ => by simp [par, Nat.testBit]
  | 3, _ => by simp [par, Nat.testBit]
  | 4, _ => by simp [par, Nat.testBit]
  | n + 5, h => absurd h (by omega)
noncomputable def edge (u w : Nat) : Nat := 2 ^ u ^^^ 2 ^ w
theorem par_edge (Y : Nat → Bool) {u w : Nat} (hu : u < 5) (hw : w < 5) : par Y (edge u w) = (Y u ^^ Y w) := by
  rw [edge, par_xor, par_one Y u hu, par_one Y w hw]
noncomputable def sums : List Nat → List Nat
  | [] => [0]
  | e :: l => sums l ++ (sums l).map (· ^^^ e)
theorem sums_par {Y : Nat → Bool} : ∀ {l : List Nat}, (∀ e ∈ l, par Y e = false) → ∀ m ∈ sums l, par Y m = false
  | [], _, m, h => by rw [sums, List.mem_singleton] at h; rw [h, par_zero]
  | e :: l, he, m, h => by
    have ih := sums_par (l := l) fun e' h' => he e' (.tail _ h')
    rw [sums, List.mem_append] at h
    rcases h with h | h
    · exact ih m h
    · obtain ⟨m', hm', rfl⟩ := List.mem_map.mp h
      rw [par_xor, ih m' hm', he e (.head _)]; rfl
theorem sums_mem : ∀ {l : List Nat} {m : Nat}, m ∈ sums l → ∃ bs : List Bool, bs.length = l.length ∧ ∀ Y, par Y m = (bs.zip l).foldr (fun p acc => (p.1 && par Y p.2) ^^ acc) false
  | [], m, h => by rw [sums, List.mem_singleton] at h; subst h; exact ⟨[], rfl, fun Y => par_zero Y⟩
  | e :: l, m, h => by
    rw [sums, List.mem_append] at h
    rcases h with h | h
    · obtain ⟨bs, h1, h2⟩ := sums_mem h
      exact ⟨false :: bs, by simp [h1], fun Y => by simp [h2 Y]⟩
    · obtain ⟨m', hm', rfl⟩ := List.mem_map.mp h
      obtain ⟨bs, h1, h2⟩ := sums_mem hm'
      exact ⟨true :: bs, by simp [h1], fun Y => by rw [par_xor, h2 Y]; simp [Bool.xor_comm]⟩
theorem pigeon {α : Type} [DecidableEq α] : ∀ (l l' : List α), l.Nodup → (∀ x ∈ l, x ∈ l') → l'.length ≤ l.length → ∀ y ∈ l', y ∈ l
  | [], l', _, _, hl, y, hy => by
    have : l' = [] := List.length_eq_zero_iff.mp (Nat.le_zero.mp hl)
    rw [this] at hy; exact nomatch hy
  | x :: r, l', hn, hs, hl, y, hy => by
    rw [List.nodup_cons] at hn
    by_cases h : y = x
    · rw [h]; exact .head _
    · have hx := hs x (.head _)
      have he : (l'.erase x).length = l'.length - 1 := List.length_erase_of_mem hx
      refine .tail _ (pigeon r (l'.erase x) hn.2 (fun z hz => ?_) (by rw [he]; rw [List.length_cons] at hl; omega) y ?_)
      · exact (List.mem_erase_of_ne (fun (e : z = x) => hn.1 (e ▸ hz))).mpr (hs z (.tail _ hz))
      · exact (List.mem_erase_of_ne h).mpr hy
theorem nodup_le {α : Type} [DecidableEq α] : ∀ (l l' : List α), l.Nodup → (∀ x ∈ l, x ∈ l') → l.length ≤ l'.length
  | [], _, _, _ => Nat.zero_le _
  | x :: r, l', hn, hs => by
    rw [List.nodup_cons] at hn
    have hx := hs x (.head _)
    have he : (l'.erase x).length = l'.length - 1 := List.length_erase_of_mem hx
    have hp : 0 < l'.length := List.length_pos_of_mem hx
    have := nodup_le r (l'.erase x) hn.2 fun z hz => (List.mem_erase_of_ne (fun (e : z = x) => hn.1 (e ▸ hz))).mpr (hs z (.tail _ hz))
    rw [List.length_cons]; omega
theorem GH.pair {L : Ties} {K : List (Nat → Bool)} (H : GH L K) (hK : K.length ≤ 3) : ∃ i j, i < j ∧ j < 5 ∧ ∀ A ∈ K, A i = A j := by
  obtain ⟨C, hC, hC5, hv⟩ := H.cl
  obtain ⟨c0, m0, h0⟩ := hv 0 (by decide)
  obtain ⟨c1, m1, h1⟩ := hv 1 (by decide)
  obtain ⟨c2, m2, h2⟩ := hv 2 (by decide)
  obtain ⟨c3, m3, h3⟩ := hv 3 (by decide)
  obtain ⟨c4, m4, h4⟩ := hv 4 (by decide)
  by_cases hn : [c0, c1, c2, c3, c4].Nodup
  · have := nodup_le [c0, c1, c2, c3, c4] C hn (by simp [m0, m1, m2, m3, m4])
    simp at this
    omega
  · have key : c0 = c1 ∨ c0 = c2 ∨ c0 = c3 ∨ c0 = c4 ∨ c1 = c2 ∨ c1 = c3 ∨ c1 = c4 ∨ c2 = c3 ∨ c2 = c4 ∨ c3 = c4 := by
      false_or_by_contra
      rename_i hq
      simp only [not_or] at hq
      obtain ⟨q1, q2, q3, q4, q5, q6, q7, q8, q9, q10⟩ := hq
      exact hn (by simp [q1, q2, q3, q4, q5, q6, q7, q8, q9, q10])
    rcases key with e | e | e | e | e | e | e | e | e | e
    · exact ⟨0, 1, by decide, by decide, fun A hA => (h0 A hA).trans (e ▸ (h1 A hA).symm)⟩
    · exact ⟨0, 2, by decide, by decide, fun A hA => (h0 A hA).trans (e ▸ (h2 A hA).symm)⟩
    · exact ⟨0, 3, by decide, by decide, fun A hA => (h0 A hA).trans (e ▸ (h3 A hA).symm)⟩
    · exact ⟨0, 4, by decide, by decide, fun A hA => (h0 A hA).trans (e ▸ (h4 A hA).symm)⟩
    · exact ⟨1, 2, by decide, by decide, fun A hA => (h1 A hA).trans (e ▸ (h2 A hA).symm)⟩
    · exact ⟨1, 3, by decide, by decide, fun A hA => (h1 A hA).trans (e ▸ (h3 A hA).symm)⟩
    · exact ⟨1, 4, by decide, by decide, fun A hA => (h1 A hA).trans (e ▸ (h4 A hA).symm)⟩
    · exact ⟨2, 3, by decide, by decide, fun A hA => (h2 A hA).trans (e ▸ (h3 A hA).symm)⟩
    · exact ⟨2, 4, by decide, by decide, fun A hA => (h2 A hA).trans (e ▸ (h4 A hA).symm)⟩
    · exact ⟨3, 4, by decide, by decide, fun A hA => (h3 A hA).trans (e ▸ (h4 A hA).symm)⟩
noncomputable def Evn : List Nat := [0, 3, 5, 6, 9, 10, 12, 15, 17, 18, 20, 23, 24, 27, 29, 30]
theorem ev_xor : ∀ a ∈ Evn, ∀ b ∈ Evn, a ^^^ b ∈ Evn := by decide
theorem edge_ev : ∀ u, u < 5 → ∀ w, w < 5 → edge u w ∈ Evn := by decide
theorem sums_ev : ∀ {l : List Nat}, (∀ e ∈ l, e ∈ Evn) → ∀ m ∈ sums l, m ∈ Evn
  | [], _, m, h => by rw [sums, List.mem_singleton] at h; rw [h]; decide
  | e :: l, he, m, h => by
    have ih := sums_ev (l := l) fun e' h' => he e' (.tail _ h')
    rw [sums, List.mem_append] at h
    rcases h with h | h
    · exact ih m h
    · obtain ⟨m', hm', rfl⟩ := List.mem_map.mp h
      exact ev_xor _ (ih m' hm') _ (he e (.head _))
theorem sums_nodup {Y : Nat → Bool} {e : Nat} {l : List Nat} (hn : (sums l).Nodup) (hl : ∀ e' ∈ l, par Y e' = false) (he : par Y e = true) : (sums (e :: l)).Nodup := by
  rw [sums, List.nodup_append]
  refine ⟨hn, ?_, fun a ha b hb => ?_⟩
  · rw [List.Nodup, List.pairwise_map]
    exact hn.imp fun hne h => hne (by
      have := congrArg (· ^^^ e) h
      simpa [Nat.xor_assoc] using this)
  · obtain ⟨m', hm', rfl⟩ := List.mem_map.mp hb
    intro q
    have h1 := sums_par hl a ha
    rw [q, par_xor, sums_par hl m' hm', he] at h1
    cases h1
theorem xor_ne {a b : Bool} : (a ^^ b) = true ↔ a ≠ b := by cases a <;> cases b <;> simp
theorem go8 : ∀ b0 b1 b2 b3 t0 t1 t2 t3 : Bool, true = (b3 && t3 ^^ (b2 && t2 ^^ (b1 && t1 ^^ b0 && t0))) → (b0 = true ∧ t0 = true) ∨ (b1 = true ∧ t1 = true) ∨ (b2 = true ∧ t2 = true) ∨ (b3 = true ∧ t3 = true) := by decide
theorem GH.all {L : Ties} {A0 A1 A2 A3 : Nat → Bool} (H : GH L [A0, A1, A2, A3]) {i j : Nat} (hi : i < 5) (hj : j < 5) {Y : Nat → Bool} (hY : Y i ≠ Y j) : ∃ A ∈ [A0, A1, A2, A3], A i ≠ A j ∧ cutF L A ≤ cutF L Y := by
  obtain ⟨u0, w0, r0, s0⟩ := H.rep 0 A0 rfl
  obtain ⟨u1, w1, r1, s1⟩ := H.rep 1 A1 rfl
  obtain ⟨u2, w2, r2, s2⟩ := H.rep 2 A2 rfl
  obtain ⟨u3, w3, r3, s3⟩ := H.rep 3 A3 rfl
  have own : ∀ {A : Nat → Bool} {u w : Nat}, Rep L A u w → par A (edge u w) = true := fun r => by rw [par_edge _ r.hu r.hw]; exact xor_ne.mpr r.ne
  have off : ∀ {A B : Nat → Bool} {u w : Nat}, Rep L A u w → B u = B w → par B (edge u w) = false := fun r h => by rw [par_edge _ r.hu r.hw, h]; exact Bool.xor_self _
  have p00 := own r0
  have p11 := own r1
  have p22 := own r2
  have p33 := own r3
  have p10 := off r0 (s0 1 A1 rfl (by decide))
  have p20 := off r0 (s0 2 A2 rfl (by decide))
  have p30 := off r0 (s0 3 A3 rfl (by decide))
  have p01 := off r1 (s1 0 A0 rfl (by decide))
  have p21 := off r1 (s1 2 A2 rfl (by decide))
  have p31 := off r1 (s1 3 A3 rfl (by decide))
  have p02 := off r2 (s2 0 A0 rfl (by decide))
  have p12 := off r2 (s2 1 A1 rfl (by decide))
  have p32 := off r2 (s2 3 A3 rfl (by decide))
  have p03 := off r3 (s3 0 A0 rfl (by decide))
  have p13 := off r3 (s3 1 A1 rfl (by decide))
  have p23 := off r3 (s3 2 A2 rfl (by decide))
  have v0 := edge_ev u0 r0.hu w0 r0.hw
  have v1 := edge_ev u1 r1.hu w1 r1.hw
  have v2 := edge_ev u2 r2.hu w2 r2.hw
  have v3 := edge_ev u3 r3.hu w3 r3.hw
  have d0 : (sums []).Nodup := by decide
  have d1 := sums_nodup d0 (Y := A0) (fun _ h => nomatch h) p00
  have d2 := sums_nodup d1 (Y := A1) (e := edge u1 w1) (fun e' h => by rw [List.mem_singleton.mp h]; exact p10) p11
  have d3 := sums_nodup d2 (Y := A2) (e := edge u2 w2) (fun e' h => by
    rcases List.mem_cons.mp h with rfl | h
    · exact p21
    · rw [List.mem_singleton.mp h]; exact p20) p22
  have d4 := sums_nodup d3 (Y := A3) (e := edge u3 w3) (fun e' h => by
    rcases List.mem_cons.mp h with rfl | h
    · exact p32
    · rcases List.mem_cons.mp h with rfl | h
      · exact p31
      · rw [List.mem_singleton.mp h]; exact p30) p33
  have hm := pigeon _ Evn d4 (sums_ev (fun e h => by
    simp only [List.mem_cons, List.not_mem_nil, or_false] at h
    rcases h with rfl | rfl | rfl | rfl <;> assumption)) (by simp [sums, Evn]) _ (edge_ev i hi j hj)
  obtain ⟨bs, hbl, hb⟩ := sums_mem hm
  match bs, hbl with
  | [b3, b2, b1, b0], _ =>
    have k0 := hb A0
    have k1 := hb A1
    have k2 := hb A2
    have k3 := hb A3
    have kY := hb Y
    simp only [List.zip_cons_cons, List.zip_nil_right, List.foldr_cons, List.foldr_nil, p00, p11, p22, p33, p10, p20, p30, p01, p21, p31, p02, p12, p32, p03, p13, p23, Bool.and_true, Bool.and_false, Bool.xor_false, Bool.false_xor, par_edge _ hi hj, par_edge Y r0.hu r0.hw, par_edge Y r1.hu r1.hw, par_edge Y r2.hu r2.hw, par_edge Y r3.hu r3.hw] at k0 k1 k2 k3 kY
    rw [xor_ne.mpr hY] at kY
    have go : (b0 = true ∧ Y u0 ≠ Y w0) ∨ (b1 = true ∧ Y u1 ≠ Y w1) ∨ (b2 = true ∧ Y u2 ≠ Y w2) ∨ (b3 = true ∧ Y u3 ≠ Y w3) := by
      rw [← xor_ne, ← xor_ne, ← xor_ne, ← xor_ne]
      revert kY
      generalize (Y u0 ^^ Y w0) = t0
      generalize (Y u1 ^^ Y w1) = t1
      generalize (Y u2 ^^ Y w2) = t2
      generalize (Y u3 ^^ Y w3) = t3
      exact go8 b0 b1 b2 b3 t0 t1 t2 t3
    rcases go with ⟨h, hy⟩ | ⟨h, hy⟩ | ⟨h, hy⟩ | ⟨h, hy⟩
    · exact ⟨A0, by simp, xor_ne.mp (k0.trans h), r0.min Y hy⟩
    · exact ⟨A1, by simp, xor_ne.mp (k1.trans h), r1.min Y hy⟩
    · exact ⟨A2, by simp, xor_ne.mp (k2.trans h), r2.min Y hy⟩
    · exact ⟨A3, by simp, xor_ne.mp (k3.trans h), r3.min Y hy⟩
end
-- M3
section
noncomputable def wcB (n e : Nat) : List Nat := (wordOf (n % 2) (n / 2 % 2) (n / 4 % 2) (n / 8 % 2) (e : Nat)).cps.toList
noncomputable def priceB (n m : Nat) : Int := (feeL (partZ (n % 2 != m % 2) (n / 2 % 2 != m / 2 % 2) (n / 4 % 2 != m / 4 % 2) (n / 8 % 2 != m / 8 % 2))).sum
noncomputable def levCk (n m e : Nat) : Bool := Nat.beq n m || (decide (lev (wcB n e) (wcB m e) (priceB n m) = priceB n m) && decide (lev (wcB m e) (wcB n e) (priceB n m - 1) = priceB n m))
noncomputable def levAll (e : Nat) : Bool := (List.range 16).all fun n => (List.range 16).all fun m => levCk n m e
theorem lev_ck0 : levAll 0 = true := by decide +kernel
theorem lev_ck1 : levAll 1 = true := by decide +kernel
theorem lev_ck2 : levAll 2 = true := by decide +kernel
theorem lev_ck3 : levAll 3 = true := by decide +kernel
theorem lev_all : ∀ e, e < 4 → levAll e = true
  | 0, _ => lev_ck0
  | 1, _ => lev_ck1
  | 2, _ => lev_ck2
  | 3, _ => lev_ck3
  | n + 4, h => absurd h (by omega)
theorem bit_ne (x y : Bool) : (x.toNat != y.toNat) = (x != y) := by cases x <;> cases y <;> rfl
noncomputable def code4 (k0 k1 k2 k3 v : Nat) : Nat := bitN k0 v + 2 * bitN k1 v + 4 * bitN k2 v + 8 * bitN k3 v
theorem code4_bool : ∀ x0 x1 x2 x3 : Bool, x0.toNat + 2 * x1.toNat + 4 * x2.toNat + 8 * x3.toNat < 16 ∧ (x0.toNat + 2 * x1.toNat + 4 * x2.toNat + 8 * x3.toNat) % 2 = x0.toNat ∧ (x0.toNat + 2 * x1.toNat + 4 * x2.toNat + 8 * x3.toNat) / 2 % 2 = x1.toNat ∧ (x0.toNat + 2 * x1.toNat + 4 * x2.toNat + 8 * x3.toNat) / 4 % 2 = x2.toNat ∧ (x0.toNat + 2 * x1.toNat + 4 * x2.toNat + 8 * x3.toNat) / 8 % 2 = x3.toNat := by decide
theorem code4_parts (k0 k1 k2 k3 v : Nat) : code4 k0 k1 k2 k3 v < 16 ∧ code4 k0 k1 k2 k3 v % 2 = bitN k0 v ∧ code4 k0 k1 k2 k3 v / 2 % 2 = bitN k1 v ∧ code4 k0 k1 k2 k3 v / 4 % 2 = bitN k2 v ∧ code4 k0 k1 k2 k3 v / 8 % 2 = bitN k3 v := code4_bool (k0.testBit v) (k1.testBit v) (k2.testBit v) (k3.testBit v)
theorem xor_bit : ∀ S, S < 32 → ∀ i, i < 5 → ∀ j, j < 5 → xorZ (S : Nat) (i : Nat) (j : Nat) = (S.testBit i != S.testBit j) := by decide +kernel
theorem lev_pair {k0 k1 k2 k3 s i j : Nat} (h0 : k0 < 32) (h1 : k1 < 32) (h2 : k2 < 32) (h3 : k3 < 32) (hi : i < 5) (hj : j < 5)
    (hne : k0.testBit i ≠ k0.testBit j ∨ k1.testBit i ≠ k1.testBit j ∨ k2.testBit i ≠ k2.testBit j ∨ k3.testBit i ≠ k3.testBit j) :
    lev (wC k0 k1 k2 k3 s i) (wC k0 k1 k2 k3 s j) (feeL (part4 k0 k1 k2 k3 i j)).sum = (feeL (part4 k0 k1 k2 k3 i j)).sum ∧
    lev (wC k0 k1 k2 k3 s j) (wC k0 k1 k2 k3 s i) ((feeL (part4 k0 k1 k2 k3 i j)).sum - 1) = (feeL (part4 k0 k1 k2 k3 i j)).sum := by
  obtain ⟨a0, a1, a2, a3, a4⟩ := code4_parts k0 k1 k2 k3 i
  obtain ⟨b0, b1, b2, b3, b4⟩ := code4_parts k0 k1 k2 k3 j
  have h := List.all_eq_true.mp (List.all_eq_true.mp (lev_all (s / 22 % 4) (Nat.mod_lt _ (by decide))) _ (List.mem_range.mpr a0)) _ (List.mem_range.mpr b0)
  have hp : priceB (code4 k0 k1 k2 k3 i) (code4 k0 k1 k2 k3 j) = (feeL (part4 k0 k1 k2 k3 i j)).sum := by
    unfold priceB part4
    rw [a1, a2, a3, a4, b1, b2, b3, b4, xor_bit k0 h0 i hi j hj, xor_bit k1 h1 i hi j hj, xor_bit k2 h2 i hi j hj, xor_bit k3 h3 i hi j hj]
    unfold bitN
    rw [bit_ne, bit_ne, bit_ne, bit_ne]
  have hw : ∀ v, wcB (code4 k0 k1 k2 k3 v) (s / 22 % 4) = wC k0 k1 k2 k3 s v := fun v => by
    obtain ⟨c0, c1, c2, c3, c4⟩ := code4_parts k0 k1 k2 k3 v
    unfold wcB wC wordN
    rw [c1, c2, c3, c4]
  unfold levCk at h
  rw [hp, hw, hw, Bool.or_eq_true, Bool.and_eq_true, decide_eq_true_eq, decide_eq_true_eq] at h
  rcases h with h | h
  · exfalso
    have e := Nat.eq_of_beq_eq_true h
    have tb : ∀ {x y : Bool}, x.toNat = y.toNat → x = y := fun {x y} h => by cases x <;> cases y <;> first | rfl | cases h
    rw [e] at a1 a2 a3 a4
    rcases hne with h | h | h | h
    · exact h (tb (a1.symm.trans b1))
    · exact h (tb (a2.symm.trans b2))
    · exact h (tb (a3.symm.trans b3))
    · exact h (tb (a4.symm.trans b4))
  · exact h
end
-- M4
section
theorem side_bit : ∀ S, S < 32 → ∀ i, i < 5 → ∀ j, j < 5 → sideP i j (S : Nat) = (S.testBit i && !S.testBit j) := by decide +kernel
noncomputable def respB (S a i : Nat) : Bool := [true, false].any fun b => (List.range 5).all fun v => a.testBit v == a.testBit i || S.testBit v == b
noncomputable def hitCk (i : Nat) : Bool := (List.range 32).all fun S => (List.range 32).all fun a => hitZ (S : Nat) (awayZ i (a : Nat)) == !respB S a i
theorem hit0 : hitCk 0 = true := by decide +kernel
theorem hit1 : hitCk 1 = true := by decide +kernel
theorem hit2 : hitCk 2 = true := by decide +kernel
theorem hit3 : hitCk 3 = true := by decide +kernel
theorem hit4 : hitCk 4 = true := by decide +kernel
theorem hit_all : ∀ i, i < 5 → hitCk i = true
  | 0, _ => hit0
  | 1, _ => hit1
  | 2, _ => hit2
  | 3, _ => hit3
  | 4, _ => hit4
  | n + 5, h => absurd h (by omega)
theorem hit_resp {S a i : Nat} (hS : S < 32) (ha : a < 32) (hi : i < 5) : hitZ (S : Nat) (awayZ i (a : Nat)) = false ↔ Resp S.testBit a.testBit i := by
  have h := List.all_eq_true.mp (List.all_eq_true.mp (hit_all i hi) S (List.mem_range.mpr hS)) a (List.mem_range.mpr ha)
  rw [beq_iff_eq.mp h]
  have key : respB S a i = true ↔ Resp S.testBit a.testBit i := by
    unfold respB Resp
    rw [List.any_eq_true]
    constructor
    · rintro ⟨b, _, h⟩
      refine ⟨b, fun v hv hne => ?_⟩
      have := List.all_eq_true.mp h v (List.mem_range.mpr hv)
      rw [Bool.or_eq_true, beq_iff_eq, beq_iff_eq] at this
      exact this.resolve_left hne
    · rintro ⟨b, h⟩
      refine ⟨b, by cases b <;> simp, List.all_eq_true.mpr fun v hv => ?_⟩
      rw [Bool.or_eq_true, beq_iff_eq, beq_iff_eq]
      by_cases q : a.testBit v = a.testBit i
      · exact .inl q
      · exact .inr (h v (List.mem_range.mp hv) q)
  rw [← key]
  cases respB S a i <;> simp
theorem not_bit : ∀ S, S < 32 → ∀ v, v < 5 → (31 - S).testBit v = !S.testBit v := by decide +kernel
theorem num_of : ∀ b0 b1 b2 b3 b4 : Bool, ∃ S, S < 32 ∧ S.testBit 0 = b0 ∧ S.testBit 1 = b1 ∧ S.testBit 2 = b2 ∧ S.testBit 3 = b3 ∧ S.testBit 4 = b4 := fun b0 b1 b2 b3 b4 =>
  ⟨b0.toNat + 2 * b1.toNat + 4 * b2.toNat + 8 * b3.toNat + 16 * b4.toNat, by revert b0 b1 b2 b3 b4; decide⟩
theorem cut_num (Y : Nat → Bool) : ∃ S, S < 32 ∧ ∀ v, v < 5 → S.testBit v = Y v := by
  obtain ⟨S, h, h0, h1, h2, h3, h4⟩ := num_of (Y 0) (Y 1) (Y 2) (Y 3) (Y 4)
  refine ⟨S, h, fun v hv => ?_⟩
  match v, hv with
  | 0, _ => exact h0
  | 1, _ => exact h1
  | 2, _ => exact h2
  | 3, _ => exact h3
  | 4, _ => exact h4
  | n + 5, hv => omega
theorem ties_lt {N : List Nat} {q : (Nat × Nat) × Nat} (h : q ∈ tiesN N) : q.1.1 < 5 ∧ q.1.2 < 5 := by
  have := pairsN_lt _ (tiesN_mem h).1
  omega
theorem cut_bits {N : List Nat} {X Y : Nat → Bool} (h : ∀ v, v < 5 → X v = Y v) : cutF (tiesN N) X = cutF (tiesN N) Y := cut_same fun q hq => by
  obtain ⟨h1, h2⟩ := ties_lt hq
  rw [h _ h1, h _ h2]
theorem sum_cut {S : Nat} (hS : S < 32) : ∀ L : Ties, (∀ q ∈ L, q.1.1 < 5 ∧ q.1.2 < 5) → ((L.filter fun q => xorZ (S : Nat) (q.1.1 : Nat) (q.1.2 : Nat)).map fun q => ((q.2 : Nat) : Int)).sum = ((cutF L S.testBit : Nat) : Int)
  | [], _ => rfl
  | q :: r, h => by
    have ih := sum_cut hS r fun q hq => h q (.tail _ hq)
    obtain ⟨h1, h2⟩ := h q (.head _)
    rw [cutF_cons, List.filter_cons, xor_bit S hS _ h1 _ h2]
    split
    · rw [List.map_cons, List.sum_cons, ih]; push_cast; rfl
    · rw [ih]; simp
theorem plain_cut {N : List Nat} {S : Nat} (hS : S < 32) : plainZ N (S : Nat) = ((cutF (tiesN N) S.testBit : Nat) : Int) := sum_cut hS _ fun _ h => ties_lt h
theorem min_ck : ∀ S, S < 32 → (min ((S : Nat) : Int) (31 - ((S : Nat) : Int))).toNat = if S < 16 then S else 31 - S := by decide
theorem row_cut {N : List Nat} {S : Nat} (hS : S < 32) : rowV N (S : Nat) = plainZ N (S : Nat) := by
  have hg : ∀ k : Nat, k < 16 → (cutL N).getD k 0 = plainZ N (k : Nat) := fun k hk => by
    rw [List.getD_eq_getElem?_getD, cutL, List.getElem?_map, rng, List.getElem?_map, List.getElem?_range (by omega)]
    show plainZ N (0 + (k : Int)) = _
    rw [Int.zero_add]
  unfold rowV
  by_cases h : S < 16
  · rw [min_ck S hS, if_pos h, hg S h]
  · rw [min_ck S hS, if_neg h, hg _ (by omega), plain_cut (by omega), plain_cut hS]
    congr 1
    rw [← cut_not (tiesN N) S.testBit]
    exact cut_bits fun v hv => not_bit S hS v hv
theorem side_mem {i j : Nat} (hi : i < 5) (hj : j < 5) {x : Int} : x ∈ sidesL i j ↔ ∃ S : Nat, S < 32 ∧ x = S ∧ S.testBit i = true ∧ S.testBit j = false := by
  unfold sidesL
  rw [List.mem_filter]
  constructor
  · rintro ⟨h1, h2⟩
    have := mem_rng h1
    refine ⟨x.toNat, by omega, by omega, ?_⟩
    rw [show x = ((x.toNat : Nat) : Int) by omega, side_bit _ (by omega) i hi j hj, Bool.and_eq_true, Bool.not_eq_true'] at h2
    exact h2
  · rintro ⟨S, h, rfl, h1, h2⟩
    refine ⟨?_, by rw [side_bit S h i hi j hj, h1, h2]; rfl⟩
    unfold rng
    exact List.mem_map.mpr ⟨S, List.mem_range.mpr (by omega), by omega⟩
theorem best_of {h : Int} (hh : h = 1 ∨ h = -1) : ∀ (l : List (Int × Int)) (b : Int × Int), (0 ≤ b.1 ∧ b.1 < 32) → (∀ r ∈ l, 0 ≤ r.1 ∧ r.1 < 32) → (l.foldl (bestR h) b = b ∨ l.foldl (bestR h) b ∈ l) ∧ (l.foldl (bestR h) b).2 ≤ b.2 ∧ ∀ r ∈ l, (l.foldl (bestR h) b).2 ≤ r.2
  | [], b, _, _ => ⟨.inl rfl, Int.le_refl _, fun _ h => nomatch h⟩
  | r :: l, b, hb, hl => by
    have hr := hl r (.head _)
    have hbr : (0 ≤ (bestR h b r).1 ∧ (bestR h b r).1 < 32) ∧ (bestR h b r = b ∨ bestR h b r = r) ∧ (bestR h b r).2 ≤ b.2 ∧ (bestR h b r).2 ≤ r.2 := by
      unfold bestR
      split
      · exact ⟨hr, .inr rfl, by rcases hh with rfl | rfl <;> omega, Int.le_refl _⟩
      · exact ⟨hb, .inl rfl, Int.le_refl _, by rcases hh with rfl | rfl <;> omega⟩
    obtain ⟨i1, i2, i3⟩ := best_of hh l (bestR h b r) hbr.1 fun r hr => hl r (.tail _ hr)
    rw [List.foldl_cons]
    refine ⟨?_, Int.le_trans i2 hbr.2.2.1, fun r' hr' => ?_⟩
    · rcases i1 with e | e
      · rw [e]
        rcases hbr.2.1 with e' | e'
        · exact .inl e'
        · exact .inr (by rw [e']; exact .head _)
      · exact .inr (.tail _ e)
    · rcases List.mem_cons.mp hr' with rfl | hr'
      · exact Int.le_trans i2 hbr.2.2.2
      · exact i3 r' hr'
theorem bestL_of {h : Int} (hh : h = 1 ∨ h = -1) {l : List (Int × Int)} (hne : l ≠ []) (hl : ∀ r ∈ l, 0 ≤ r.1 ∧ r.1 < 32) : bestL h l ∈ l ∧ ∀ r ∈ l, (bestL h l).2 ≤ r.2 := by
  match l, hne with
  | r :: rs, _ =>
    obtain ⟨h1, _, h3⟩ := best_of hh (r :: rs) r (hl r (.head _)) hl
    refine ⟨?_, h3⟩
    rcases h1 with e | e
    · show (r :: rs).foldl (bestR h) r ∈ _
      rw [e]; exact .head _
    · exact e
end
-- M5
section
noncomputable abbrev rowS (N : List Nat) (S : Nat) : Int × Int := (((S : Nat) : Int), plainZ N ((S : Nat) : Int))
noncomputable def kf (r : Int × Int) : Nat → Bool := r.1.toNat.testBit
structure KOk (N : List Nat) (s t : Nat) : Prop where
  gh : GH (tiesN N) ((keptN N s t).map kf)
  el : ∀ r ∈ keptN N s t, ∃ S : Nat, 0 < S ∧ S < 32 ∧ r = rowS N S
theorem pair_mem : ∀ j, j < 5 → ∀ i, i < j → (i, j) ∈ pairsN := by decide
theorem pairsS_all : ∀ k, k < 10 → ∀ p ∈ pairsN, p ∈ pick pairsN (some (k : Nat)) none none ++ pick pairsN none (some (k : Nat)) none := by decide +kernel
theorem handZ_one (s : Nat) : handZ s = 1 ∨ handZ s = -1 := by unfold handZ; split; exact .inl rfl; exact .inr rfl
theorem xor_kf {N : List Nat} {r : Int × Int} (h : ∃ S : Nat, 0 < S ∧ S < 32 ∧ r = rowS N S) {i j : Nat} (hi : i < 5) (hj : j < 5) : xorZ r.1 (i : Nat) (j : Nat) = (kf r i != kf r j) := by
  obtain ⟨S, _, hS, rfl⟩ := h
  exact xor_bit S hS i hi j hj
theorem turn_ok {N : List Nat} {s t : Nat} (ht : t < 4) (H : KOk N s t) : TurnOk N s t ∧ KOk N s (t + 1) := by
  have hkl := keptN_length N s t
  obtain ⟨i0, j0, hij, hj0, hsame⟩ := H.gh.pair (by rw [List.length_map, hkl]; omega)
  have hfree : freeL s t (keptN N s t) (pairsS s) ≠ [] := by
    have hp := pairsS_all (s / 3 % 10) (Nat.mod_lt _ (by decide)) _ (pair_mem j0 hj0 i0 hij)
    have hs : sepK (keptN N s t) (i0, j0) = false := by
      unfold sepK
      rw [List.any_eq_false]
      intro r hr
      rw [xor_kf (H.el r hr) (by dsimp only; omega) (by dsimp only; omega)]
      have := hsame (kf r) (List.mem_map_of_mem hr)
      dsimp only
      rw [this]; simp
    intro e
    have : freeF s t (i0, j0) ∈ freeL s t (keptN N s t) (pairsS s) := List.mem_map.mpr ⟨(i0, j0), List.mem_filter.mpr ⟨hp, by rw [hs]; rfl⟩, rfl⟩
    rw [e] at this
    exact nomatch this
  obtain ⟨hp0, hp1, hp2⟩ := headP_lt hfree
  have hpair : (headP s t (keptN N s t)).1 ≠ (headP s t (keptN N s t)).2 ∧ ∀ r ∈ keptN N s t, kf r (headP s t (keptN N s t)).1 = kf r (headP s t (keptN N s t)).2 := by
    have hm := List.mem_of_getElem? hp0
    rw [freeL] at hm
    obtain ⟨q, hq, hqe⟩ := List.mem_map.mp hm
    obtain ⟨hq1, hq2⟩ := List.mem_filter.mp hq
    have hql := pairsN_lt _ (pairsS_mem _ (Nat.mod_lt _ (by decide)) q hq1)
    rw [Bool.not_eq_true'] at hq2
    unfold sepK at hq2
    rw [List.any_eq_false] at hq2
    have key : ∀ r ∈ keptN N s t, kf r q.1 = kf r q.2 := fun r hr => by
      have := hq2 r hr
      rw [xor_kf (H.el r hr) (by omega) (by omega)] at this
      simpa using this
    rw [← hqe]
    unfold freeF
    split
    · exact ⟨by omega, key⟩
    · exact ⟨by dsimp only; omega, fun r hr => (key r hr).symm⟩
  generalize hpe : headP s t (keptN N s t) = p at *
  obtain ⟨i, j⟩ := p
  dsimp only at hp1 hp2 hpair
  obtain ⟨hne, hsm⟩ := hpair
  have hK : ∀ A ∈ (keptN N s t).map kf, A i = A j := fun A hA => by
    obtain ⟨r, hr, rfl⟩ := List.mem_map.mp hA
    exact hsm r hr
  -- a row for every set
  have hrow : ∀ Y : Nat → Bool, Y i = true → Y j = false → ∃ S : Nat, S < 32 ∧ rowS N S ∈ rowsT N (keptN N s t) (i, j) ∧ cutF (tiesN N) S.testBit ≤ cutF (tiesN N) Y := fun Y h1 h2 => by
    obtain ⟨Y', e1, e2, e3, e4⟩ := uncross (tiesN N) (j := j) hp1 ((keptN N s t).map kf) hK H.gh.reps H.gh.nc Y
    obtain ⟨S, hS, hSb⟩ := cut_num Y'
    refine ⟨S, hS, ?_, by rw [cut_bits hSb]; exact e3⟩
    unfold rowsT rowsL
    refine List.mem_map.mpr ⟨(S : Nat), List.mem_filter.mpr ⟨(side_mem hp1 hp2).mpr ⟨S, hS, rfl, by rw [hSb i hp1, e1, h1], by rw [hSb j hp2, e2, h2]⟩, ?_⟩, by rw [row_cut hS]⟩
    unfold okS
    rw [List.isEmpty_iff, List.filter_eq_nil_iff]
    intro b hb
    unfold awayL at hb
    obtain ⟨r, hr, rfl⟩ := List.mem_map.mp hb
    obtain ⟨a, ha0, ha, rfl⟩ := H.el r hr
    have hres : Resp S.testBit a.testBit i := by
      obtain ⟨b, hb⟩ := e4 (kf (rowS N a)) (List.mem_map_of_mem hr)
      exact ⟨b, fun v hv hne => (hSb v hv).trans (hb v hv hne)⟩
    have := (hit_resp hS ha hp1).mpr hres
    dsimp only
    rw [this]; decide
  have hrowInv : ∀ r ∈ rowsT N (keptN N s t) (i, j), ∃ S : Nat, S < 32 ∧ r = rowS N S ∧ S.testBit i = true ∧ S.testBit j = false ∧ ∀ A ∈ (keptN N s t).map kf, Resp S.testBit A i := fun r hr => by
    unfold rowsT rowsL at hr
    obtain ⟨x, hx, rfl⟩ := List.mem_map.mp hr
    obtain ⟨hx1, hx2⟩ := List.mem_filter.mp hx
    obtain ⟨S, hS, rfl, h1, h2⟩ := (side_mem hp1 hp2).mp hx1
    refine ⟨S, hS, by rw [row_cut hS], h1, h2, fun A hA => ?_⟩
    obtain ⟨r, hr, rfl⟩ := List.mem_map.mp hA
    obtain ⟨a, ha0, ha, rfl⟩ := H.el r hr
    unfold okS at hx2
    rw [List.isEmpty_iff, List.filter_eq_nil_iff] at hx2
    have := hx2 (awayZ i (a : Nat)) (List.mem_map.mpr ⟨_, hr, rfl⟩)
    rw [Bool.not_eq_true] at this
    exact (hit_resp hS ha hp1).mp this
  have hrows : rowsT N (keptN N s t) (i, j) ≠ [] := by
    obtain ⟨S, _, hm, _⟩ := hrow (fun v => v == i) (by simp) (by simpa using fun h => hne h.symm)
    intro e
    rw [e] at hm; exact nomatch hm
  obtain ⟨hb1, hb2⟩ := bestL_of (handZ_one s) hrows (rowsT_small N (keptN N s t) (i, j)).2
  obtain ⟨S, hS, hSe, hSi, hSj, hSr⟩ := hrowInv _ hb1
  have hminY : ∀ Y : Nat → Bool, Y i = true → Y j = false → cutF (tiesN N) S.testBit ≤ cutF (tiesN N) Y := fun Y h1 h2 => by
    obtain ⟨S', hS', hm, hle⟩ := hrow Y h1 h2
    have := hb2 _ hm
    rw [hSe] at this
    dsimp only at this
    rw [plain_cut hS, plain_cut hS'] at this
    omega
  refine ⟨⟨hfree, by rw [hpe]; exact hrows, ?_, ?_⟩, ?_, ?_⟩
  · rw [hpe, hSe]
    exact List.mem_map.mpr ⟨(S : Nat), (side_mem hp1 hp2).mpr ⟨S, hS, rfl, hSi, hSj⟩, rfl⟩
  · rw [hpe, hSe]
    intro a ha
    obtain ⟨x, hx, rfl⟩ := List.mem_map.mp ha
    obtain ⟨X, hX, rfl, h1, h2⟩ := (side_mem hp1 hp2).mp hx
    dsimp only
    rw [plain_cut hS, plain_cut hX]
    have := hminY X.testBit h1 h2
    omega
  · rw [keptN, List.map_append, hpe, hSe]
    refine H.gh.snoc (i := i) (j := j) hp1 hp2 hK ?_ (fun Y hY => ?_) hSr
    · show S.testBit i ≠ S.testBit j
      rw [hSi, hSj]; decide
    · show cutF (tiesN N) S.testBit ≤ _
      cases q : Y i
      · rw [← cut_not (tiesN N) Y]
        refine hminY _ (by rw [q]; rfl) ?_
        rw [q] at hY
        cases q' : Y j
        · exact absurd q'.symm hY
        · rfl
      · refine hminY Y q ?_
        rw [q] at hY
        cases q' : Y j
        · rfl
        · exact absurd q'.symm hY
  · intro r hr
    rw [keptN, hpe, hSe] at hr
    rcases List.mem_append.mp hr with hr | hr
    · exact H.el r hr
    · rw [List.mem_singleton.mp hr]
      refine ⟨S, ?_, hS, rfl⟩
      rcases Nat.eq_zero_or_pos S with h | h
      · rw [h, Nat.zero_testBit] at hSi; cases hSi
      · exact h
theorem kok : ∀ (N : List Nat) (s t : Nat), t ≤ 4 → KOk N s t
  | N, s, 0, _ => ⟨GH.nil _, fun _ h => nomatch h⟩
  | N, s, t + 1, h => (turn_ok (by omega) (kok N s t (by omega))).2
end
-- M6
section
theorem exists_min : ∀ l : List Int, l ≠ [] → ∃ M ∈ l, ∀ a ∈ l, M ≤ a
  | [], h => absurd rfl h
  | [x], _ => ⟨x, .head _, fun a h => by rw [List.mem_singleton.mp h]; exact Int.le_refl _⟩
  | x :: y :: r, _ => by
    obtain ⟨M, h1, h2⟩ := exists_min (y :: r) (by simp)
    by_cases h : x ≤ M
    · refine ⟨x, .head _, fun a ha => ?_⟩
      rcases List.mem_cons.mp ha with rfl | ha
      · exact Int.le_refl _
      · exact Int.le_trans h (h2 a ha)
    · refine ⟨M, .tail _ h1, fun a ha => ?_⟩
      rcases List.mem_cons.mp ha with rfl | ha
      · omega
      · exact h2 a ha
theorem part_mem {b0 b1 b2 b3 : Bool} {k : Nat} : k ∈ partZ b0 b1 b2 b3 ↔ (k = 0 ∧ b0 = true) ∨ (k = 1 ∧ b1 = true) ∨ (k = 2 ∧ b2 = true) ∨ (k = 3 ∧ b3 = true) := by
  unfold partZ
  rw [List.mem_filter]
  constructor
  · rintro ⟨h1, h2⟩
    simp only [List.mem_cons, List.not_mem_nil, or_false] at h1
    rcases h1 with rfl | rfl | rfl | rfl
    · exact .inl ⟨rfl, h2⟩
    · exact .inr (.inl ⟨rfl, h2⟩)
    · exact .inr (.inr (.inl ⟨rfl, h2⟩))
    · exact .inr (.inr (.inr ⟨rfl, h2⟩))
  · rintro (⟨rfl, h⟩ | ⟨rfl, h⟩ | ⟨rfl, h⟩ | ⟨rfl, h⟩)
    · exact ⟨by simp, h⟩
    · exact ⟨by simp, h⟩
    · exact ⟨by simp, h⟩
    · exact ⟨by simp, h⟩
theorem side_le {N : List Nat} {i j k : Nat} (hi : i < 5) (hj : j < 5) (hk : k < 32) (hne : k.testBit i ≠ k.testBit j) {M : Int} (hM : ∀ a ∈ (sidesL i j).map (plainZ N), M ≤ a) : M ≤ plainZ N (k : Nat) := by
  cases q : k.testBit i
  · rw [q] at hne
    have hj' : k.testBit j = true := by cases q' : k.testBit j; exact absurd q'.symm hne; rfl
    have := hM (plainZ N ((31 - k : Nat) : Int)) (List.mem_map.mpr ⟨_, (side_mem hi hj).mpr ⟨31 - k, by omega, rfl, by rw [not_bit k hk i hi, q]; rfl, by rw [not_bit k hk j hj, hj']; rfl⟩, rfl⟩)
    rw [plain_cut (by omega)] at this
    rw [plain_cut hk, ← cut_not, ← cut_bits (X := (31 - k).testBit) fun v hv => not_bit k hk v hv]
    exact this
  · rw [q] at hne
    have hj' : k.testBit j = false := by cases q' : k.testBit j; rfl; exact absurd q'.symm hne
    exact hM _ (List.mem_map.mpr ⟨_, (side_mem hi hj).mpr ⟨k, hk, rfl, q, hj'⟩, rfl⟩)
theorem fin_ok (N : List Nat) (s : Nat) : ∃ (k0 k1 k2 k3 : Nat) (c0 c1 c2 c3 : Int), keptN N s 4 = row4 k0 k1 k2 k3 c0 c1 c2 c3 ∧ (0 < k0 ∧ k0 < 32) ∧ (0 < k1 ∧ k1 < 32) ∧ (0 < k2 ∧ k2 < 32) ∧ (0 < k3 ∧ k3 < 32) ∧ ∀ p ∈ pairsN, PairOk N s k0 k1 k2 k3 c0 c1 c2 c3 p.1 p.2 := by
  have H := kok N s 4 (Nat.le_refl _)
  have hl := keptN_length N s 4
  have hgh := H.gh
  have hel := H.el
  generalize keptN N s 4 = ks at *
  obtain ⟨r0, r1, r2, r3, rfl⟩ := len4 hl
  obtain ⟨k0, z0, h0, rfl⟩ := hel r0 (by simp)
  obtain ⟨k1, z1, h1, rfl⟩ := hel r1 (by simp)
  obtain ⟨k2, z2, h2, rfl⟩ := hel r2 (by simp)
  obtain ⟨k3, z3, h3, rfl⟩ := hel r3 (by simp)
  have G : GH (tiesN N) [k0.testBit, k1.testBit, k2.testBit, k3.testBit] := hgh
  refine ⟨k0, k1, k2, k3, plainZ N (k0 : Nat), plainZ N (k1 : Nat), plainZ N (k2 : Nat), plainZ N (k3 : Nat), rfl, ⟨z0, h0⟩, ⟨z1, h1⟩, ⟨z2, h2⟩, ⟨z3, h3⟩, fun p hp => ?_⟩
  obtain ⟨i, j⟩ := p
  have hij := pairsN_lt _ hp
  dsimp only at hij ⊢
  have hi : i < 5 := by omega
  have hj : j < 5 := hij.2
  have hsep : k0.testBit i ≠ k0.testBit j ∨ k1.testBit i ≠ k1.testBit j ∨ k2.testBit i ≠ k2.testBit j ∨ k3.testBit i ≠ k3.testBit j := by
    obtain ⟨A, hA, hne, _⟩ := G.all hi hj (Y := fun v => v == i) (by simp; omega)
    simp only [List.mem_cons, List.not_mem_nil, or_false] at hA
    rcases hA with rfl | rfl | rfl | rfl
    · exact .inl hne
    · exact .inr (.inl hne)
    · exact .inr (.inr (.inl hne))
    · exact .inr (.inr (.inr hne))
  obtain ⟨ab, ba⟩ := lev_pair (s := s) h0 h1 h2 h3 hi hj hsep
  refine ⟨ab, ba, ?_⟩
  have hsne : (sidesL i j).map (plainZ N) ≠ [] := by
    obtain ⟨S, hS, hb⟩ := cut_num (fun v => v == i)
    have := (side_mem hi hj).mpr ⟨S, hS, rfl, by rw [hb i hi]; simp, by rw [hb j hj]; simp; omega⟩
    intro e
    have h := List.mem_map_of_mem (f := plainZ N) this
    rw [e] at h
    exact nomatch h
  obtain ⟨M, hM1, hM2⟩ := exists_min _ hsne
  refine ⟨M, ⟨?_, ?_⟩, hM1, hM2⟩
  · obtain ⟨x, hx, rfl⟩ := List.mem_map.mp hM1
    obtain ⟨S, hS, rfl, q1, q2⟩ := (side_mem hi hj).mp hx
    obtain ⟨A, hA, hne, hle⟩ := G.all hi hj (Y := S.testBit) (by rw [q1, q2]; decide)
    have key : ∀ k : Nat, k < 32 → A = k.testBit → plainZ N (k : Nat) = plainZ N (S : Nat) := fun k hk hA => by
      subst hA
      have h1 := side_le hi hj hk hne hM2
      have h2 : plainZ N (k : Nat) ≤ plainZ N (S : Nat) := by rw [plain_cut hk, plain_cut hS]; omega
      omega
    unfold costL part4
    simp only [List.mem_cons, List.not_mem_nil, or_false] at hA
    rcases hA with rfl | rfl | rfl | rfl
    · exact List.mem_map.mpr ⟨0, part_mem.mpr (.inl ⟨rfl, by rw [xor_bit _ h0 i hi j hj]; simpa using hne⟩), key k0 h0 rfl⟩
    · exact List.mem_map.mpr ⟨1, part_mem.mpr (.inr (.inl ⟨rfl, by rw [xor_bit _ h1 i hi j hj]; simpa using hne⟩)), key k1 h1 rfl⟩
    · exact List.mem_map.mpr ⟨2, part_mem.mpr (.inr (.inr (.inl ⟨rfl, by rw [xor_bit _ h2 i hi j hj]; simpa using hne⟩))), key k2 h2 rfl⟩
    · exact List.mem_map.mpr ⟨3, part_mem.mpr (.inr (.inr (.inr ⟨rfl, by rw [xor_bit _ h3 i hi j hj]; simpa using hne⟩))), key k3 h3 rfl⟩
  · intro a ha
    unfold costL part4 at ha
    obtain ⟨k, hk, rfl⟩ := List.mem_map.mp ha
    rcases part_mem.mp hk with ⟨rfl, h⟩ | ⟨rfl, h⟩ | ⟨rfl, h⟩ | ⟨rfl, h⟩
    · rw [xor_bit _ h0 i hi j hj] at h; exact side_le hi hj h0 (by simpa using h) hM2
    · rw [xor_bit _ h1 i hi j hj] at h; exact side_le hi hj h1 (by simpa using h) hM2
    · rw [xor_bit _ h2 i hi j hj] at h; exact side_le hi hj h2 (by simpa using h) hM2
    · rw [xor_bit _ h3 i hi j hj] at h; exact side_le hi hj h3 (by simpa using h) hM2
end
-- M7
section
noncomputable def keyN (kvs : Kv) : Prop := (kvs.map (·.1)).Nodup
noncomputable def tot (own : List Str) (kvs : Kv) : Int := ((kvs.filter fun p => !own.any fun y => decide (y = p.1)).map (·.2)).sum
noncomputable def outK (own : List Str) (k : Str) : Bool := !own.any fun y => decide (y = k)
theorem tot_cons (own : List Str) (p : Str × Int) (r : Kv) : tot own (p :: r) = (if outK own p.1 = true then p.2 else 0) + tot own r := by
  unfold tot outK
  rw [List.filter_cons]
  split
  · rw [List.map_cons, List.sum_cons]
  · rw [Int.zero_add]
theorem setI_cons (p : Str × Int) (r : Kv) (k : Str) (v : Int) (hn : keyN (p :: r)) : setI (p :: r) k v = if p.1 = k then (p.1, v) :: r else p :: setI r k v := by
  unfold setI
  unfold keyN at hn
  rw [List.map_cons, List.nodup_cons] at hn
  rw [List.any_cons]
  by_cases h : p.1 = k
  · rw [if_pos h, decide_eq_true h, Bool.true_or, if_pos rfl, List.map_cons, if_pos h]
    congr 1
    have : ∀ q ∈ r, (if q.1 = k then (q.1, v) else q) = q := fun q hq => if_neg fun e => hn.1 (by rw [h, ← e]; exact List.mem_map_of_mem hq)
    rw [List.map_congr_left this, List.map_id']
  · rw [if_neg h, decide_eq_false h, Bool.false_or, List.map_cons, if_neg h]
    split <;> rfl
theorem getI_cons (p : Str × Int) (r : Kv) (k : Str) : getI (p :: r) k = if p.1 = k then some p.2 else getI r k := by
  unfold getI
  rw [List.find?_cons]
  by_cases h : p.1 = k
  · rw [if_pos h, decide_eq_true h]; rfl
  · rw [if_neg h, decide_eq_false h]
theorem keyN_tail {p : Str × Int} {r : Kv} (h : keyN (p :: r)) : keyN r := by
  unfold keyN at *
  rw [List.map_cons, List.nodup_cons] at h
  exact h.2
theorem setI_names : ∀ (kvs : Kv) (k : Str) (v : Int), keyN kvs → (setI kvs k v).map (·.1) = if k ∈ kvs.map (·.1) then kvs.map (·.1) else kvs.map (·.1) ++ [k]
  | [], k, v, _ => by simp [setI]
  | p :: r, k, v, hn => by
    have ih := setI_names r k v (keyN_tail hn)
    rw [setI_cons p r k v hn]
    by_cases h : p.1 = k
    · rw [if_pos h, List.map_cons, List.map_cons, if_pos (by rw [h]; exact .head _)]
    · rw [if_neg h, List.map_cons, ih, List.map_cons]
      by_cases h' : k ∈ r.map (·.1)
      · rw [if_pos h', if_pos (.tail _ h')]
      · rw [if_neg h', if_neg (fun e => (List.mem_cons.mp e).elim (fun e => h e.symm) h'), List.cons_append]
theorem setI_nd {kvs : Kv} {k : Str} {v : Int} (hn : keyN kvs) : keyN (setI kvs k v) := by
  unfold keyN
  rw [setI_names kvs k v hn]
  split
  · exact hn
  · rename_i h
    rw [List.nodup_append]
    refine ⟨hn, by simp, fun a ha b hb e => h ?_⟩
    rw [List.mem_singleton.mp hb] at e
    rw [← e]; exact ha
theorem setI_tot (own : List Str) : ∀ (kvs : Kv) (k : Str) (v : Int), keyN kvs → tot own (setI kvs k v) = tot own kvs + (if outK own k = true then v - (getI kvs k).getD 0 else 0)
  | [], k, v, _ => by
    show tot own [(k, v)] = _
    rw [tot_cons]
    show _ + tot own [] = tot own [] + _
    rw [show (getI [] k).getD 0 = 0 from rfl, Int.sub_zero, Int.add_comm]
  | p :: r, k, v, hn => by
    have ih := setI_tot own r k v (keyN_tail hn)
    rw [setI_cons p r k v hn, getI_cons, tot_cons]
    by_cases h : p.1 = k
    · rw [if_pos h, if_pos h, tot_cons]
      dsimp only
      rw [h]
      show _ = _ + (if outK own k = true then v - p.2 else 0)
      split <;> omega
    · rw [if_neg h, if_neg h, tot_cons, ih]; omega
theorem foldI_self : ∀ (t acc : Kv), keyN (acc ++ t) → t.foldl (fun acc p => setI acc p.1 p.2) acc = acc ++ t
  | [], acc, _ => by simp
  | p :: r, acc, hn => by
    have hnew : setI acc p.1 p.2 = acc ++ [p] := by
      unfold setI
      rw [if_neg]
      intro h
      obtain ⟨q, hq, e⟩ := List.any_eq_true.mp h
      have e' := of_decide_eq_true e
      unfold keyN at hn
      rw [List.map_append, List.nodup_append] at hn
      exact hn.2.2 q.1 (List.mem_map_of_mem hq) p.1 (List.mem_map_of_mem (.head _)) e'
    rw [List.foldl_cons, hnew, foldI_self r (acc ++ [p]) (by rw [List.append_assoc]; exact hn), List.append_assoc]; rfl
theorem foldAdd (own : List Str) : ∀ (s acc : Kv), keyN acc → keyN (s.foldl (fun acc p => setI acc p.1 ((getI acc p.1).getD 0 + p.2)) acc) ∧ tot own (s.foldl (fun acc p => setI acc p.1 ((getI acc p.1).getD 0 + p.2)) acc) = tot own acc + tot own s
  | [], acc, h => ⟨h, by rw [List.foldl_nil]; show _ = _ + (0 : Int); omega⟩
  | p :: r, acc, h => by
    obtain ⟨i1, i2⟩ := foldAdd own r (setI acc p.1 ((getI acc p.1).getD 0 + p.2)) (setI_nd h)
    refine ⟨i1, ?_⟩
    rw [List.foldl_cons, i2, setI_tot own acc _ _ h, tot_cons]
    split <;> omega
theorem addI_tot (own : List Str) {t s : Kv} (h : keyN t) : keyN (addI t s) ∧ tot own (addI t s) = tot own t + tot own s := by
  unfold addI
  rw [foldI_self t [] h, List.nil_append]
  exact foldAdd own s t h
theorem outI_tot {own : List Str} {kvs : Kv} (h : keyN kvs) : ((outI own kvs).map (·.2)).sum = tot own kvs := by
  unfold outI
  rw [foldI_self _ [] ?_, List.nil_append]; rfl
  unfold keyN at *
  exact h.sublist (List.Sublist.map _ List.filter_sublist)
theorem low_step : ∀ n, n < 15 → bit4 (n + 1) = low1 (n + 1) :: bit4 (n + 1 - 2 ^ low1 (n + 1)) ∧ n + 1 - 2 ^ low1 (n + 1) ≤ n ∧ low1 (n + 1) < 5 := by decide +kernel
theorem mrgs_get (T : List Kv) : ∀ n m, m ≤ n → (mrgs T n).getD m [] = (mrgs T m).getD m []
  | 0, m, h => by rw [Nat.le_zero.mp h]
  | n + 1, m, h => by
    by_cases q : m = n + 1
    · rw [q]
    · rw [mrgs, List.getD_eq_getElem?_getD, List.getElem?_append_left (by rw [mrgs_length]; omega), ← List.getD_eq_getElem?_getD]
      exact mrgs_get T n m (by omega)
theorem mrgs_tot (own : List Str) (T : List Kv) : ∀ m, m < 16 → keyN ((mrgs T m).getD m []) ∧ tot own ((mrgs T m).getD m []) = ((bit4 m).map fun k => tot own (T.getD k [])).sum := by
  intro m
  induction m using Nat.strongRecOn with
  | ind m ih =>
    intro hm
    match m, ih, hm with
    | 0, _, _ => exact ⟨List.nodup_nil, rfl⟩
    | n + 1, ih, hm =>
      obtain ⟨h1, h2, h3⟩ := low_step n (by omega)
      obtain ⟨i1, i2⟩ := ih (n + 1 - 2 ^ low1 (n + 1)) (by omega) (by omega)
      have e : (mrgs T (n + 1)).getD (n + 1) [] = addI ((mrgs T (n + 1 - 2 ^ low1 (n + 1))).getD (n + 1 - 2 ^ low1 (n + 1)) []) (T.getD (low1 (n + 1)) []) := by
        rw [mrgs, List.getD_eq_getElem?_getD, List.getElem?_append_right (by rw [mrgs_length]; omega), mrgs_length, Nat.sub_self]
        show addI _ _ = _
        rw [mrgs_get T n _ h2]
      rw [e]
      obtain ⟨a1, a2⟩ := addI_tot own (s := T.getD (low1 (n + 1)) []) i1
      refine ⟨a1, ?_⟩
      rw [a2, i2, h1, List.map_cons, List.sum_cons]; omega
theorem cutsN_eq (T : List Kv) (names : List Str) : ∀ n, n < 16 → cutsN T names n = (List.range (n + 1)).map fun m => ((bit4 m).map fun k => tot (ownN names m) (T.getD k [])).sum
  | 0, _ => rfl
  | n + 1, h => by
    obtain ⟨a, b⟩ := mrgs_tot (ownN names (n + 1)) T (n + 1) h
    rw [cutsN, cutsN_eq T names n (by omega), List.range_succ (n := n + 1), List.map_append]
    congr 1
    show [_] = [_]
    rw [outI_tot a, b]
theorem pick_sum (w : Int) {ι : Type} (p : ι → Bool) : ∀ ms : List ι, (ms.map fun m => if p m = true then w else 0).sum = ((ms.filter p).length : Nat) * w
  | [] => by simp
  | m :: r => by
    rw [List.map_cons, List.sum_cons, pick_sum w p r, List.filter_cons]
    split
    · rw [List.length_cons]; push_cast; rw [Int.add_mul]; omega
    · omega
theorem sum_add {ι : Type} (f g : ι → Int) : ∀ ms : List ι, (ms.map fun m => f m + g m).sum = (ms.map f).sum + (ms.map g).sum
  | [] => rfl
  | m :: r => by rw [List.map_cons, List.sum_cons, sum_add f g r, List.map_cons, List.sum_cons, List.map_cons, List.sum_cons]; omega
theorem swap_sum {ι : Type} (ms : List ι) (P : ι → (Nat × Nat) → Bool) (c : Nat × Nat → Nat) : ∀ L : Ties, (∀ q ∈ L, (ms.filter fun m => P m q.1).length = c q.1) → (ms.map fun m => ((L.filter fun q => P m q.1).map fun q => ((q.2 : Nat) : Int)).sum).sum = (L.map fun q => ((c q.1 : Nat) : Int) * ((q.2 : Nat) : Int)).sum
  | [], _ => by
    induction ms with
    | nil => rfl
    | cons m r ih => rw [List.map_cons, List.sum_cons, ih fun _ h => nomatch h]; rfl
  | q :: r, h => by
    have ih := swap_sum ms P c r fun q hq => h q (.tail _ hq)
    have e : (fun m => (((q :: r).filter fun q => P m q.1).map fun q => ((q.2 : Nat) : Int)).sum) = fun m => (if P m q.1 = true then ((q.2 : Nat) : Int) else 0) + ((r.filter fun q => P m q.1).map fun q => ((q.2 : Nat) : Int)).sum := funext fun m => by
      rw [List.filter_cons]
      split
      · rw [List.map_cons, List.sum_cons]
      · rw [Int.zero_add]
    rw [e, sum_add, ih, pick_sum, h q (.head _), List.map_cons, List.sum_cons]
theorem tot_tbl (own : List Str) (N : List Nat) (names : List Str) (k : Nat) : tot own (tblN N names k) = (((tiesN N).filter fun q => (decide (q.1.1 = k) || decide (q.1.2 = k)) && outK own (names.getD (q.1.1 + q.1.2 - k) "")).map fun q => ((q.2 : Nat) : Int)).sum := by
  unfold tot tblN
  rw [List.filter_map, List.map_map, List.filter_filter]
  congr 1
  have e : (fun q => ((fun p : Str × Int => !own.any fun y => decide (y = p.1)) ∘ fun q => (keyK names k q, ((q.2 : Nat) : Int))) q && ofK k q) = fun q : (Nat × Nat) × Nat => (decide (q.1.1 = k) || decide (q.1.2 = k)) && outK own (names.getD (q.1.1 + q.1.2 - k) "") := funext fun q => by
    rw [Bool.and_comm]; rfl
  rw [e]; rfl
noncomputable def cutP (l m k : Nat) (p : Nat × Nat) : Bool := (decide (p.1 = k) || decide (p.2 = k)) && outK (ownN (namesAt l) m) ((namesAt l).getD (p.1 + p.2 - k) "")
noncomputable def cutC (m : Nat) (p : Nat × Nat) : Nat := (xorZ (m : Nat) (p.1 : Nat) (p.2 : Nat)).toNat
theorem cut_ck : ∀ l, l < 9 → ∀ m, m < 16 → ∀ p ∈ pairsN, ((bit4 m).filter fun k => cutP l m k p).length = cutC m p := by decide +kernel
theorem all_ck : ∀ p ∈ pairsN, ((List.range 16).filter fun m => xorZ (m : Nat) (p.1 : Nat) (p.2 : Nat)).length = 8 := by decide +kernel
theorem bit4_lt : ∀ m, m < 16 → ∀ k ∈ bit4 m, k < 5 := by decide +kernel
theorem cutC_sum (N : List Nat) (m : Nat) : ((tiesN N).map fun q => ((cutC m q.1 : Nat) : Int) * ((q.2 : Nat) : Int)).sum = plainZ N (m : Nat) := by
  unfold plainZ plainL
  generalize tiesN N = L
  induction L with
  | nil => rfl
  | cons q r ih =>
    rw [List.map_cons, List.sum_cons, ih, List.filter_cons]
    unfold cutC
    cases xorZ (m : Nat) (q.1.1 : Nat) (q.1.2 : Nat)
    · simp
    · rw [if_pos rfl, List.map_cons, List.sum_cons]; simp
theorem cut_one (N : List Nat) {l m : Nat} (hl : l < 9) (hm : m < 16) (T : List Kv) (hT : ∀ k, k < 5 → T.getD k [] = tblN N (namesAt l) k) : ((bit4 m).map fun k => tot (ownN (namesAt l) m) (T.getD k [])).sum = plainZ N (m : Nat) := by
  rw [List.map_congr_left (g := fun k => (((tiesN N).filter fun q => cutP l m k q.1).map fun q => ((q.2 : Nat) : Int)).sum) fun k hk => by rw [hT k (bit4_lt m hm k hk), tot_tbl]; rfl]
  rw [swap_sum (bit4 m) (cutP l m) (cutC m) (tiesN N) fun q hq => cut_ck l hl m hm q.1 (tiesN_mem hq).1]
  exact cutC_sum N m
theorem tbls_get (N : List Nat) (s k : Nat) (hk : k < 5) : (tblsN N s).getD k [] = tblN N (namesAt (s % 9)) k := by
  rw [tblsN, List.getD_eq_getElem?_getD, List.getElem?_map, List.getElem?_range hk]; rfl
theorem cut_ok (N : List Nat) (s : Nat) : cutsN (tblsN N s) (namesAt (s % 9)) 15 = cutL N := by
  rw [cutsN_eq _ _ 15 (by decide), cutL, rng, List.map_map]
  refine List.map_congr_left fun m hm => ?_
  rw [List.mem_range] at hm
  rw [cut_one N (Nat.mod_lt s (by decide)) hm (tblsN N s) fun k hk => tbls_get N s k hk]
  show _ = plainZ N (0 + (m : Int))
  rw [Int.zero_add]
theorem sum_ok (N : List Nat) : (cutL N).sum = 8 * (callsL N).sum := by
  have e : cutL N = (List.range 16).map fun (m : Nat) => (((tiesN N).filter fun q => xorZ (m : Nat) (q.1.1 : Nat) (q.1.2 : Nat)).map fun q => ((q.2 : Nat) : Int)).sum := by
    rw [cutL, rng, List.map_map]
    refine List.map_congr_left fun m hm => ?_
    show plainZ N (0 + (m : Int)) = _
    rw [Int.zero_add]; rfl
  rw [e, swap_sum (List.range 16) (fun m p => xorZ (m : Nat) (p.1 : Nat) (p.2 : Nat)) (fun _ => 8) (tiesN N) fun q hq => all_ck q.1 (tiesN_mem hq).1]
  unfold callsL
  generalize tiesN N = L
  induction L with
  | nil => rfl
  | cons q r ih => rw [List.map_cons, List.sum_cons, ih, List.map_cons, List.sum_cons]; push_cast; omega
theorem tbl_cnt : ∀ k, k < 5 → (pairsN.filter fun p => decide (p.1 = k) || decide (p.2 = k)).length ≤ 8 := by decide
theorem good2 (N : List Nat) (s : Nat) : Good2 N s where
  tl := fun t ht => by
    obtain ⟨k, hk, rfl⟩ := List.mem_map.mp ht
    have := tbl_cnt k (List.mem_range.mp hk)
    rw [← tiesN_fst N, List.filter_map, List.length_map] at this
    rw [tblN, List.length_map]
    exact this
  tk := fun t ht p hp => by
    obtain ⟨k, hk, rfl⟩ := List.mem_map.mp ht
    obtain ⟨q, hq, rfl⟩ := List.mem_map.mp hp
    obtain ⟨hq1, hq2⟩ := List.mem_filter.mp hq
    have hl : s % 9 < 9 := Nat.mod_lt _ (by decide)
    have hpl := pairsN_lt _ (tiesN_mem hq1).1
    unfold ofK at hq2
    rw [Bool.or_eq_true, decide_eq_true_eq, decide_eq_true_eq] at hq2
    exact name_ok _ hl _ (List.mem_of_getElem? (getD_some (Str.ofString "") (by rw [namesAt_len _ hl]; omega)))
  cut := cut_ok N s
  sum := sum_ok N
  turn := fun t ht => (turn_ok ht (kok N s t (by omega))).1
  fin := fin_ok N s
end
-- J1
section
section
variable {prog : Program} {w : World} {p : Program} {loose : List Str} {mean : ExcName → Option Value} {mg mb : Str → Option Value}
noncomputable def wdOf (prog : Program) (w : World) (s : Shared) (T : Top p loose mean mg mb s.heap) : Wd where
  prog := prog
  w := w
  G := s.heap.get?
  mg := mg
  mb := mb
  gp := fun g => g = #[]
  os := s.os
  bt := T.builtins
  gd := fun h hk => ⟨T.g.keeps hk, T.b.keeps hk, T.nolimit.keeps hk⟩
theorem isFn_of {s : Shared} (T : Top p loose mean mg mb s.heap) {e : DefItem} (he : e ∈ (recsOf p).map itemOf) : ∃ a, IsFn (wdOf prog w s T) e a := by
  obtain ⟨d, hd, rfl⟩ := List.mem_map.mp he
  obtain ⟨a, o, pm, code, doc, h1, h2, h3, h4⟩ := T.fn d hd
  exact ⟨a, o, pm, code, doc, h1, h2, h3, fun h hk => h4.keeps hk⟩
theorem isFd_of {W : Wd} {K : Frag} (sub : ∀ a o, K.lookup a = some o → W.G a = some o) {fd : FuncData} {fI c : Addr} {o oc : Obj} {vs : Array Value} {t : Tok} (h1 : K.lookup fI = some o) (h2 : o.data = .func fd) (h3 : fd.code = .ref c) (h4 : K.lookup c = some oc) (h5 : oc.data = .fields vs) (h6 : vs[1]? = some (.str fd.qualname t)) : IsFd W fd fI :=
  ⟨o, sub _ _ h1, h2, fun h hk => ⟨c, oc, vs, t, h3, hk _ _ (sub _ _ h4), h5, h6⟩⟩
noncomputable def flagEs : Array DictEntry := #[⟨1, .int 1 253, .str "OPTIMIZED" 254⟩, ⟨2, .int 2 255, .str "NEWLOCALS" 256⟩, ⟨4, .int 4 257, .str "VARARGS" 258⟩, ⟨8, .int 8 259, .str "VARKEYWORDS" 260⟩, ⟨16, .int 16 261, .str "NESTED" 262⟩, ⟨32, .int 32 263, .str "GENERATOR" 264⟩, ⟨64, .int 64 265, .str "NOFREE" 266⟩, ⟨128, .int 128 267, .str "COROUTINE" 268⟩, ⟨256, .int 256 269, .str "ITERABLE_COROUTINE" 270⟩, ⟨512, .int 512 271, .str "ASYNC_GENERATOR" 272⟩]
noncomputable def flagVs : List (Int × Value) := [(1, .str "OPTIMIZED" 254), (2, .str "NEWLOCALS" 256), (4, .str "VARARGS" 258), (8, .str "VARKEYWORDS" 260), (16, .str "NESTED" 262), (32, .str "GENERATOR" 264), (64, .str "NOFREE" 266), (128, .str "COROUTINE" 268), (256, .str "ITERABLE_COROUTINE" 270), (512, .str "ASYNC_GENERATOR" 272)]
theorem hash_small : hashInt 1 = 1 ∧ hashInt 2 = 2 ∧ hashInt 4 = 4 ∧ hashInt 8 = 8 ∧ hashInt 16 = 16 ∧ hashInt 32 = 32 ∧ hashInt 64 = 64 ∧ hashInt 128 = 128 ∧ hashInt 256 = 256 ∧ hashInt 512 = 512 := by decide +kernel
theorem val_of (k : Int) : ∀ l : List (Int × Str × Tok), match (l.map fun p => (p.1, p.2.1)).lookup k with | some x => ∃ t, PySem.valueAt (l.map fun p => (p.1, Value.str p.2.1 p.2.2)) k = some (.str x t) | Option.none => PySem.valueAt (l.map fun p => (p.1, Value.str p.2.1 p.2.2)) k = Option.none
  | [] => rfl
  | p :: r => by
    have ih := val_of k r
    rw [List.map_cons, List.lookup_cons]
    unfold PySem.valueAt at *
    rw [List.map_cons, List.find?_cons]
    by_cases h : p.1 = k
    · have e : (k == p.1) = true := by rw [h]; exact beq_self_eq_true k
      rw [e, decide_eq_true h]
      exact ⟨p.2.2, rfl⟩
    · have e : (k == p.1) = false := by rw [beq_eq_false_iff_ne]; exact fun q => h q.symm
      rw [e, decide_eq_false h]
      exact ih
theorem flags_of {W : Wd} {D : Addr} (h1 : W.G D = some { cls := .type "dict", data := .dict flagEs 10 }) (h2 : (D == sysModules) = false) : IsFlags W D flagVs where
  sys := h2
  dict := fun h hk => by
    obtain ⟨q1, q2, q3, q4, q5, q6, q7, q8, q9, q10⟩ := hash_small
    refine ⟨_, flagEs, 10, hk _ _ h1, ⟨rfl, rfl, rfl⟩, rfl, fun e he => ?_, ?_, by decide⟩
    · simp only [flagEs, List.mem_toArray, List.mem_cons, List.not_mem_nil, or_false] at he
      rcases he with rfl | rfl | rfl | rfl | rfl | rfl | rfl | rfl | rfl | rfl
      · exact ⟨1, rfl, q1.symm⟩
      · exact ⟨2, rfl, q2.symm⟩
      · exact ⟨4, rfl, q3.symm⟩
      · exact ⟨8, rfl, q4.symm⟩
      · exact ⟨16, rfl, q5.symm⟩
      · exact ⟨32, rfl, q6.symm⟩
      · exact ⟨64, rfl, q7.symm⟩
      · exact ⟨128, rfl, q8.symm⟩
      · exact ⟨256, rfl, q9.symm⟩
      · exact ⟨512, rfl, q10.symm⟩
    · exact .cons rfl rfl (.cons rfl rfl (.cons rfl rfl (.cons rfl rfl (.cons rfl rfl (.cons rfl rfl (.cons rfl rfl (.cons rfl rfl (.cons rfl rfl (.cons rfl rfl .nil)))))))))
  val := fun k => val_of k [(1, "OPTIMIZED", 254), (2, "NEWLOCALS", 256), (4, "VARARGS", 258), (8, "VARKEYWORDS", 260), (16, "NESTED", 262), (32, "GENERATOR", 264), (64, "NOFREE", 266), (128, "COROUTINE", 268), (256, "ITERABLE_COROUTINE", 270), (512, "ASYNC_GENERATOR", 272)]
theorem wellAll_ints {P : Params} {h : Heap} {W : Wd} {F : Fz} : ∀ {xs : List Int} {vs : List Value}, WellAll P h vs (ofPys (xs.map PyData.int)) → Rps W F (xs.map T.int) vs
  | [], _, w => by cases w; rfl
  | x :: xs, _, w => by
    cases w with
    | cons w1 w2 =>
      cases w1 with
      | int i t => exact ⟨_, _, rfl, ⟨t, rfl⟩, wellAll_ints w2⟩
theorem numbers_ok (script : List Int) (hs : script.length ≤ 63) : ∃ N : List Nat, numsN 5 [934, 50, 24871, 16, 4703] (pick script none (some 60) none) = zl N ∧ N.length = 5 ∧ ∀ n ∈ N, n < 2 ^ 30 := by
  have hl := foldN_length 5 ((pick script none (some 60) none).mapIdx fun i x => (i, x)) [934, 50, 24871, 16, 4703]
  have hb := foldN_bound 5 ((pick script none (some 60) none).mapIdx fun i x => (i, x)) [934, 50, 24871, 16, 4703]
  have hpl := pick_length_le script none (some 60) none fun _ => .none
  have hml : ((pick script none (some 60) none).mapIdx fun i x => (i, x)).length ≤ 63 := by rw [List.length_mapIdx]; omega
  have e0 : numsN 5 [934, 50, 24871, 16, 4703] (pick script none (some 60) none) = ((pick script none (some 60) none).mapIdx fun i x => (i, x)).foldl (stepN 5) [934, 50, 24871, 16, 4703] := rfl
  rw [e0]
  generalize ((pick script none (some 60) none).mapIdx fun i x => (i, x)).foldl (stepN 5) [934, 50, 24871, 16, 4703] = l at *
  have hbase : ∀ j, j < 5 → 0 ≤ ([934, 50, 24871, 16, 4703] : List Int).getD j 0 ∧ ([934, 50, 24871, 16, 4703] : List Int).getD j 0 ≤ 24871 := by decide
  have hmem : ∀ x ∈ l, 0 ≤ x ∧ x < 2 ^ 30 := fun x hx => by
    obtain ⟨j, hj⟩ := List.mem_iff_getElem?.mp hx
    have h := hb j
    have hx' : l.getD j 0 = x := by rw [List.getD_eq_getElem?_getD, hj]; rfl
    rw [hx'] at h
    have hj5 : j < 5 := by have := (List.getElem?_eq_some_iff.mp hj).1; rw [hl] at this; exact this
    have h5 := hbase j hj5
    exact ⟨Int.le_trans h5.1 h.1, by omega⟩
  refine ⟨l.map Int.toNat, ?_, by rw [List.length_map, hl]; rfl, fun n hn => ?_⟩
  · unfold zl
    rw [List.map_map]
    have : ∀ x ∈ l, ((fun n : Nat => (n : Int)) ∘ Int.toNat) x = id x := fun x hx => Int.toNat_of_nonneg (hmem x hx).1
    rw [List.map_congr_left this, List.map_id]
  · obtain ⟨x, hx, rfl⟩ := List.mem_map.mp hn
    have := hmem x hx
    omega
noncomputable def fnIx : List Nat := [2, 3, 6, 7, 12, 13, 15, 16, 17, 18, 19, 20, 21]
noncomputable def btN : List Str := ["range", "len", "list", "min", "hex", "isinstance", "tuple", "next", "enumerate", "sum", "iter", "bytes"]
structure Room2 (K : Frag) (p : Program) (C D : Addr) (fI fM : Addr) (pI cI pM cM : Value) (tc tm tz : Tok) : Prop where
  fn : ∀ i ∈ fnIx, defAt P2 i ∈ (recsOf p).map itemOf
  law : defAt P2 22 ∈ (recsOf p).map itemOf
  mks : makesIn K C = true
  ini : findIn K (.ref C) "__init__" = some (some (.ref fI))
  tfI : isFn K (.ref fI) = true
  kp : keepIn K (.ref C) = true
  pg : plainGet K C "comp_select_list" = true
  se : findIn K (.ref C) "__setattr__" = some (some (.builtin "object.__setattr__"))
  po : plainOver K C = true
  hd : hasDictIn K C = true
  tk : takerIn K C "comp_select_list" = some none
  at_ : findIn K (.ref C) "comp_select_list" = some none
  km : findIn K (.ref C) "compare" = some (some (.ref fM))
  tmf : isFn K (.ref fM) = true
  pmf : keepIn K (.ref fM) = true
  dI : ∃ c o oc vs t, K.lookup fI = some o ∧ o.data = .func (methFd (methAt P2 1 0) "TupleComp.__init__" pI cI) ∧ cI = .ref c ∧ K.lookup c = some oc ∧ oc.data = .fields vs ∧ vs[1]? = some (.str "TupleComp.__init__" t)
  dM : ∃ c o oc vs t, K.lookup fM = some o ∧ o.data = .func (methFd (methAt P2 1 1) "TupleComp.compare" pM cM) ∧ cM = .ref c ∧ K.lookup c = some oc ∧ oc.data = .fields vs ∧ vs[1]? = some (.str "TupleComp.compare" t)
  mg : nsIn K mainGlobals "TupleComp" = some (some (.ref C))
  fl : K.lookup D = some { cls := .type "dict", data := .dict flagEs 10 }
  fs : (D == sysModules) = false
  fname : nsIn K mainGlobals "COMPILER_FLAG_NAMES" = some (some (.ref D))
  cc : nsIn K mainGlobals "_CASE_COST" = some (some (.int 1 tc))
  mc : nsIn K mainGlobals "_MOVE_COST" = some (some (.int 2 tm))
  mz : nsIn K mainGlobals "_MAX_STRING_SIZE" = some (some (.int 40 tz))
  bt : ∀ x ∈ btN, nsIn K mainGlobals x = some none
theorem law2_code {s : Shared} {K : Frag} {C D fI fM : Addr} {pI cI pM cM : Value} {tc tm tz : Tok} (TT : Top p loose mean mg mb s.heap) (KX : K.In s.heap) (hg : s.gens = #[]) (R : Room2 K p C D fI fM pI cI pM cM tc tm tz) {a fa : Addr} (hlaw : mg (defAt P2 22).name = some (.ref fa)) {script : List Int}
    (hw : Well w.params s.heap (.ref a) (ofPy (.list (script.map PyData.int)))) (hs : script.length ≤ 63) :
    codeAny (model prog w) callerA (.call (.ref fa) ⟨[.ref a], []⟩) (fun r s' => r = .ok (.ret (.bool true)) ∧ (∀ b o, s.heap.get? b = some o → s'.heap.get? b = some o) ∧ s'.os = s.os ∧ s'.gens = #[]) s := by
  let W := wdOf prog w s TT
  have hsub : ∀ a o, K.lookup a = some o → W.G a = some o := KX
  have hf : ∀ i, ∃ a, i ∈ fnIx → IsFn W (defAt P2 i) a := fun i => by
    by_cases h : i ∈ fnIx
    · obtain ⟨a, ha⟩ := isFn_of (prog := prog) (w := w) TT (R.fn i h)
      exact ⟨a, fun _ => ha⟩
    · exact ⟨0, fun h' => absurd h' h⟩
  have hf' : ∃ f : Nat → Addr, ∀ i, i ∈ fnIx → IsFn W (defAt P2 i) (f i) := Classical.axiomOfChoice hf
  obtain ⟨f, hff⟩ := hf'
  obtain ⟨al, hal⟩ := isFn_of (prog := prog) (w := w) TT R.law
  have eal : al = fa := by
    obtain ⟨_, _, _, _, h, _⟩ := hal
    have h' : mg (defAt P2 22).name = some (.ref al) := h
    rw [hlaw] at h'
    injection h' with h'
    injection h' with h'
    exact h'.symm
  subst eal
  obtain ⟨c1, o1, oc1, v1, t1, i1, i2, i3, i4, i5, i6⟩ := R.dI
  obtain ⟨c2, o2, oc2, v2, t2, j1, j2, j3, j4, j5, j6⟩ := R.dM
  have E : Env2 W C D K fI fM pI cI pM cM flagVs f tc tm tz :=
    ⟨hff, ⟨⟨hsub, R.mks, R.ini, R.tfI, R.kp, R.pg, R.se, R.po, R.hd, R.tk, R.at_⟩, R.km, R.tmf, R.pmf, isFd_of hsub i1 i2 i3 i4 i5 i6, isFd_of hsub j1 j2 j3 j4 j5 j6, mg_of KX TT.g R.mg⟩,
      flags_of (hsub _ _ R.fl) R.fs, mg_of KX TT.g R.fname, mg_of KX TT.g R.cc, mg_of KX TT.g R.mc, mg_of KX TT.g R.mz, fun x hx => mg_none_of KX TT.g (R.bt x hx)⟩
  obtain ⟨N, hN, hNl, hNb⟩ := numbers_ok script hs
  have L := w2_law hal E script hs N hN hNl hNb (good2 N N.sum)
  let V : Vw := ⟨s.heap.get?, fun _ => 0⟩
  have S : St0 W V [] s := ⟨fun _ _ e => e, fun _ _ e => e, fun k mo e => by simp at e, fun i j h => by simp at h, fun k mo e => by simp at e, fun k h => by simp at h, fun k mo e => by simp at e, hg, rfl⟩
  have hx : XsRp W V [.tr (.list (script.map T.int))] [.ref a] := by
    refine ⟨.ref a, [], rfl, ?_, rfl⟩
    cases hw with
    | list h1 h2 => exact ⟨a, _, _, _, rfl, h1, rfl, rfl, wellAll_ints h2⟩
  refine codeAny_mono (L callerA ?_ V s [.ref a] S hx (fun x h => by rw [List.mem_singleton.mp h]; trivial)) fun r s' h => ?_
  · exact ⟨rfl, by decide +kernel, by decide +kernel⟩
  · match r, h with
    | .ok (.ret v), h =>
      obtain ⟨V', E', S', q⟩ := h
      have e : v = .bool true := q.1
      subst e
      exact ⟨rfl, fun b o hb => E'.kept b o (fun k hk => absurd hk (Nat.not_lt_zero _)) hb, S'.os, S'.gen⟩
end
end
-- J4
section
noncomputable def en (P : Params) (k : Str) (t : Tok) (v : Value) : DictEntry := ⟨PyData.keyHash P k, .str k t, v⟩
noncomputable def K2 (P : Params) : Frag := [(3, { cls := .type "dict", data := .dict #[en P "__name__" 165 (.str "law_xb0016_02" 339), en P "__doc__" 166 (.none), en P "__package__" 167 (.none), en P "__loader__" 168 (.builtin "__main__.__loader__#opaque"), en P "__spec__" 169 (.none), en P "__annotations__" 170 (.ref 6), en P "__builtins__" 171 (.ref 4), en P "__file__" 173 (.str "/claim/cut.py" 172), en P "__cached__" 174 (.none), en P "TupleComp" 230 (.ref 38), en P "add_callers" 241 (.ref 49), en P "count_calls" 250 (.ref 56), en P "COMPILER_FLAG_NAMES" 283 (.ref 57), en P "pretty_flags" 293 (.ref 64), en P "_parse_varint" 302 (.ref 71), en P "_MAX_STRING_SIZE" 306 (.int 40 305), en P "_MOVE_COST" 308 (.int 2 307), en P "_CASE_COST" 310 (.int 1 309), en P "_substitution_cost" 318 (.ref 78), en P "_levenshtein_distance" 338 (.ref 85), en P "_law_numbers" 350 (.ref 92), en P "_law_octets" 359 (.ref 99), en P "_law_names" 368 (.ref 106), en P "_law_cuts" 374 (.ref 111), en P "_law_first" 386 (.ref 118), en P "_law_sides" 392 (.ref 123), en P "_law_word" 402 (.ref 130), en P "law" 408 (.ref 135)] 28 }),
  (27, { cls := .type "code", data := .fields #[.str (Str.ofString "__init__") 201, .str (Str.ofString "TupleComp.__init__") 202, .str (Str.ofString "/claim/cut.py") 203, .int 4 0, .int 2 0, .int 0 0, .int 0 0, .int 3 0, .ref 22, .bool true, .int 181 0, .ref 23, .none, .ref 24, .ref 25, .ref 26, .int 206 0, .int 4 0, .str (Str.ofString "/claim/cut.py") 207] }),
  (28, { cls := .type "function", data := .func (methFd (methAt P2 1 0) "TupleComp.__init__" (.str "cpy313.pstats" 187) (.ref 27)) }),
  (34, { cls := .type "code", data := .fields #[.str (Str.ofString "compare") 209, .str (Str.ofString "TupleComp.compare") 210, .str (Str.ofString "/claim/cut.py") 211, .int 7 0, .int 3 0, .int 0 0, .int 0 0, .int 3 0, .ref 29, .bool true, .int 181 0, .ref 30, .none, .ref 31, .ref 32, .ref 33, .int 219 0, .int 7 0, .str (Str.ofString "/claim/cut.py") 220] }),
  (35, { cls := .type "function", data := .func (methFd (methAt P2 1 1) "TupleComp.compare" (.str "cpy313.pstats" 187) (.ref 34)) }),
  (37, { cls := .type "dict", data := .dict #[en P "__module__" 196 (.str "cpy313.pstats" 187), en P "__firstlineno__" 200 (.int 2 199), en P "__init__" 208 (.ref 28), en P "compare" 221 (.ref 35), en P "__static_attributes__" 223 (.ref 36), en P "__dict__" 225 (.ref 39), en P "__weakref__" 227 (.ref 40), en P "__doc__" 228 (.none)] 4 }),
  (38, { cls := .type "type", data := .cls { name := Str.ofString "TupleComp", bases := [.type "object"], mro := [.ref 38, .type "object"], ns := 37, qualname := Str.ofString "TupleComp" }, slots := #[none, none, some (.str (Str.ofString "TupleComp") 189), some (.str (Str.ofString "TupleComp") 197), some (.builtin "object.__new__"), some (.bool true)] }),
  (57, { cls := .type "dict", data := .dict flagEs 10 })]
noncomputable def A2 : List Addr := [3, 27, 28, 34, 35, 37, 38, 57]
noncomputable def H2 : Hook := kHook K2 A2 fun _ => rfl
noncomputable def q2 : Program := { P2 with main := { P2.main with body := [1, 2, 3, 5, 6, 7, 9, 10, 11, 12, 13, 15, 16, 17, 18, 19, 20, 21, 22].filterMap (P2.main.body[·]?) } }
theorem map_pair {α β γ : Type} {x : Option α} {f : α → β} {g : α → γ} {b : β} {c : γ} (h1 : x.map f = some b) (h2 : x.map g = some c) : x.map (fun s => (f s, g s)) = some (b, c) := by
  cases x with
  | none => cases h1
  | some a => rw [Option.map_some] at *; injection h1 with h1; injection h2 with h2; rw [h1, h2]
noncomputable def R2 : OpenRow := PySem.Challenge.rw_xb0016_02.row
theorem said2 : PySem.Challenge.rw_xb0016_02.wellSaid = true := by
  unfold OpenLaw.wellSaid
  refine look_both (look_both (look_both (look_both (look_both (look_both (look_both (look_both (look_both (look_both (look_both (look_both (look_both (look_both (look_both (look_both (look_both (look_both ?_ ?_) ?_) ?_) ?_) ?_) ?_) ?_) ?_) ?_) ?_) ?_) ?_) ?_) ?_) ?_) ?_) ?_) ?_
  all_goals decide +kernel
theorem ok2 : (chainsOk q2 && opensWell R2.prog && (frees R2.toRowW && R2.within.isEmpty)) = true :=
  look_both (look_both (by decide +kernel) (by decide +kernel)) (look_both (by decide +kernel) (by decide +kernel))
noncomputable def X2 (s : Shared) : Bool := xlAt q2 [] s && recOk (RowW.records (OpenRow.toRowW R2)) s
theorem runA : ∀ w : World, (fencedOpening treeTable R2.prog w 1924).map (fun s₀ => (topFrom treeTable R2.prog (w.withFollow "special-get-raises" false) 1924 s₀).map (fun s => (openSeen q2 ["COMPILER_FLAG_NAMES"] (importedModules R2.prog.main.body) X2 true s, H2.obs s))) = some (some (openGood q2 ["COMPILER_FLAG_NAMES"], H2.val (w.withFollow "special-get-raises" false))) := fun w => by kernel_rfl
theorem runB : ∀ w : World, (fencedOpening treeTable R2.prog w 1924).map (fun s₀ => (topFrom treeTable R2.prog (w.withFollow "special-get-raises" true) 1924 s₀).map (fun s => (openSeen q2 ["COMPILER_FLAG_NAMES"] (importedModules R2.prog.main.body) X2 true s, H2.obs s))) = some (some (openGood q2 ["COMPILER_FLAG_NAMES"], H2.val (w.withFollow "special-get-raises" true))) := fun w => by kernel_rfl
theorem left2 : LeftO R2.prog q2 ["COMPILER_FLAG_NAMES"] X2 H2.obs H2.val 1924 := LeftO.of_split "special-get-raises" fun w => map_pair (runA w) (runB w)
end
end Mine
set_option maxRecDepth 100000 in
set_option maxHeartbeats 8000000 in
theorem PySem.Challenge.cw_xb0016_02_holds : PySem.Challenge.rw_xb0016_02.Holds := by
  refine holds_law Mine.said2 fun said => ?_
  refine holds_open (q := Mine.q2) (loose := ["COMPILER_FLAG_NAMES"]) (Xt := Mine.X2) (XP := XL Mine.q2 []) (Yf := Hook.obs Mine.H2) (Ya := Hook.val Mine.H2) (YP := Hook.says Mine.H2) (N := 1924) Mine.left2 (Hook.of Mine.H2) (Hook.keeps Mine.H2) (fun s e => xl_of s (Bool.and_eq_true_iff.mp e).1) XL.keeps (by rfl) (by rfl) (by rfl) (fun s e => recFacts_of (Bool.and_eq_true_iff.mp e).2) (by rfl) said Mine.ok2 ⟨rfl, rfl, rfl, rfl, rfl, by decide +kernel⟩ ?hw ?hc
  case hw => w_witness2
  intro w s₀ s₁ mg mb G Y fa o pm cd doc dV kV ho hd hcd hD hmg hg args vals as hpre hlay hrd hwl hlo
  have KX : (Mine.K2 w.params).In s₁.heap := kIn_of Y
  refine Ground.open G ?_
  intro T B D TE TW
  wrow_args hpre hlay hrd hwl hlo
  all_goals first | refine callC_kw (enter_call ?_) | refine enter_call ?_ | refine callC_kw (enter_callW ?_) | refine enter_callW ?_ | w_how
  refine codeAny_mono (Mine.law2_code (C := 38) (D := 57) (fI := 28) (fM := 35) (pI := .str "cpy313.pstats" 187) (cI := .ref 27) (pM := .str "cpy313.pstats" 187) (cM := .ref 34) (tc := 309) (tm := 307) (tz := 305) T KX hg ?room hmg (by assumption) (by omega)) fun r s' h => GoodW.toG ?good
  case good =>
    obtain ⟨e, hk, hos, hge⟩ := h
    exact ⟨.inl ⟨.bool true, .bool true, [], e, fun _ => rfl, .bool true, by wrow_post, fun _ => ⟨List.nodup_nil, fun _ h => nomatch h⟩⟩, hk, hos, hge⟩
  case room =>
    refine ⟨fun i hi => ?_, ?_, ?_, ?_, ?_, ?_, ?_, ?_, ?_, ?_, ?_, ?_, ?_, ?_, ?_, ?_, ?_, ?_, ?_, ?_, ?_, ?_, ?_, ?_, ?_⟩
    · simp only [Mine.fnIx, List.mem_cons, List.not_mem_nil, or_false] at hi
      rcases hi with rfl | rfl | rfl | rfl | rfl | rfl | rfl | rfl | rfl | rfl | rfl | rfl | rfl
      · exact List.mem_of_getElem? (i := 0) rfl
      · exact List.mem_of_getElem? (i := 1) rfl
      · exact List.mem_of_getElem? (i := 2) rfl
      · exact List.mem_of_getElem? (i := 3) rfl
      · exact List.mem_of_getElem? (i := 4) rfl
      · exact List.mem_of_getElem? (i := 5) rfl
      · exact List.mem_of_getElem? (i := 6) rfl
      · exact List.mem_of_getElem? (i := 7) rfl
      · exact List.mem_of_getElem? (i := 8) rfl
      · exact List.mem_of_getElem? (i := 9) rfl
      · exact List.mem_of_getElem? (i := 10) rfl
      · exact List.mem_of_getElem? (i := 11) rfl
      · exact List.mem_of_getElem? (i := 12) rfl
    · exact List.mem_of_getElem? (i := 13) rfl
    · rfl
    · rfl
    · rfl
    · rfl
    · rfl
    · rfl
    · rfl
    · rfl
    · rfl
    · rfl
    · rfl
    · rfl
    · rfl
    · exact ⟨27, _, _, _, _, rfl, rfl, rfl, rfl, rfl, rfl⟩
    · exact ⟨34, _, _, _, _, rfl, rfl, rfl, rfl, rfl, rfl⟩
    · rfl
    · rfl
    · rfl
    · rfl
    · rfl
    · rfl
    · rfl
    · intro x hx
      simp only [Mine.btN, List.mem_cons, List.not_mem_nil, or_false] at hx
      rcases hx with rfl | rfl | rfl | rfl | rfl | rfl | rfl | rfl | rfl | rfl | rfl | rfl <;> rfl
