import PyProof.Rows.All
import Wide.All
import OpenK.AllK
import Wide.FinOn
import PySem.Challenge.RW_dn0226_09
open PySem PySem.W PyProof.Rows
set_option Elab.async false
set_option maxRecDepth 100000
set_option linter.unusedVariables false
namespace Mine

/-- values without their tokens; lists that are written to are met by their address -/
inductive PT where
  | none
  | bool (b : Bool)
  | int (i : Int)
  | str (x : Str)
  | tup (ts : List PT)
  | lst (ts : List PT)
  | mut (a : Addr)
  | rng (a b c : Int)
  | oth (v : Value)

/-- the lists that are written to -/
abbrev AH := Addr → Option (List PT)
/-- the names of a frame -/
abbrev Sg := Str → Option PT

def upd (σ : Sg) (x : Str) (t : PT) : Sg := fun y => if y = x then some t else σ y
def hup (H : AH) (a : Addr) (ts : List PT) : AH := fun b => if b = a then some ts else H b

theorem upd_same {σ : Sg} {x : Str} {t : PT} : upd σ x t x = some t := by simp [upd]
theorem upd_ne {σ : Sg} {x y : Str} {t : PT} {r : Option PT} (h : y ≠ x) (e : σ y = r) : upd σ x t y = r := by simp [upd, h, e]
theorem hup_same {H : AH} {a : Addr} {ts : List PT} : hup H a ts a = some ts := by simp [hup]
theorem hup_ne {H : AH} {a b : Addr} {ts : List PT} {r} (h : b ≠ a) (e : H b = r) : hup H a ts b = r := by simp [hup, h, e]
theorem name_ne {a b : String} (h : a ≠ b) : Str.ofString a ≠ Str.ofString b := by
  intro e
  rw [Str.ofString_eq_toList, Str.ofString_eq_toList] at e
  have e2 : a.toList.map Char.toNat = b.toList.map Char.toNat := by simpa using e
  have inj : ∀ (l m : List Char), l.map Char.toNat = m.map Char.toNat → l = m := by
    intro l
    induction l with
    | nil => intro m hm; cases m <;> simp_all
    | cons c r ih =>
      intro m hm
      cases m with
      | nil => simp at hm
      | cons d q =>
        simp only [List.map_cons, List.cons.injEq] at hm
        obtain ⟨h1, h2⟩ := hm
        rw [ih q h2, Char.toNat_inj.mp h1]
  exact h (String.toList_inj.mp (inj _ _ e2))

def PlainTuple (h : Heap) (a : Addr) (items : Array Value) : Prop := ∃ n, h.get? a = some { cls := .type "tuple", data := .seq items n }

mutual
/-- the value v stands for the tree, on the heap h -/
def Den (h : Heap) (H : AH) : PT → Value → Prop
  | .none, v => v = .none
  | .bool b, v => v = .bool b
  | .int i, v => ∃ tk, v = .int i tk
  | .str x, v => ∃ tk, v = .str x tk
  | .tup ts, v => ∃ a vs, v = .ref a ∧ H a = Option.none ∧ PlainTuple h a vs ∧ Dens h H ts vs.toList
  | .lst ts, v => ∃ a vs, v = .ref a ∧ H a = Option.none ∧ h.PlainList a vs ∧ Dens h H ts vs.toList
  | .mut a, v => v = .ref a ∧ H a ≠ Option.none
  | .rng a b c, v => ∃ r t u w, v = .ref r ∧ H r = Option.none ∧ IsRange h r a b c t u w
  | .oth w, v => v = w
def Dens (h : Heap) (H : AH) : List PT → List Value → Prop
  | [], vs => vs = []
  | t :: ts, vs => ∃ v r, vs = v :: r ∧ Den h H t v ∧ Dens h H ts r
end

theorem den_none {h : Heap} {H : AH} : Den h H .none .none := by simp only [Den]
theorem den_bool {h : Heap} {H : AH} {b : Bool} : Den h H (.bool b) (.bool b) := by simp only [Den]
theorem den_int {h : Heap} {H : AH} {i : Int} {tk : Tok} : Den h H (.int i) (.int i tk) := by simp only [Den]; exact ⟨tk, rfl⟩
theorem den_str {h : Heap} {H : AH} {x : Str} {tk : Tok} : Den h H (.str x) (.str x tk) := by simp only [Den]; exact ⟨tk, rfl⟩
theorem den_oth {h : Heap} {H : AH} {v : Value} : Den h H (.oth v) v := by simp only [Den]
theorem of_none {h : Heap} {H : AH} {v : Value} (d : Den h H .none v) : v = .none := by simpa only [Den] using d
theorem of_bool {h : Heap} {H : AH} {v : Value} {b : Bool} (d : Den h H (.bool b) v) : v = .bool b := by simpa only [Den] using d
theorem of_int {h : Heap} {H : AH} {v : Value} {i : Int} (d : Den h H (.int i) v) : ∃ tk, v = .int i tk := by simpa only [Den] using d
theorem of_str {h : Heap} {H : AH} {v : Value} {x : Str} (d : Den h H (.str x) v) : ∃ tk, v = .str x tk := by simpa only [Den] using d
theorem of_oth {h : Heap} {H : AH} {v w : Value} (d : Den h H (.oth w) v) : v = w := by simpa only [Den] using d
theorem of_tup {h : Heap} {H : AH} {v : Value} {ts : List PT} (d : Den h H (.tup ts) v) : ∃ a vs, v = .ref a ∧ H a = Option.none ∧ PlainTuple h a vs ∧ Dens h H ts vs.toList := by simpa only [Den] using d
theorem of_lst {h : Heap} {H : AH} {v : Value} {ts : List PT} (d : Den h H (.lst ts) v) : ∃ a vs, v = .ref a ∧ H a = Option.none ∧ h.PlainList a vs ∧ Dens h H ts vs.toList := by simpa only [Den] using d
theorem of_mut {h : Heap} {H : AH} {v : Value} {a : Addr} (d : Den h H (.mut a) v) : v = .ref a ∧ H a ≠ Option.none := by simpa only [Den] using d
theorem of_rng {h : Heap} {H : AH} {v : Value} {a b c : Int} (d : Den h H (.rng a b c) v) : ∃ r t u w, v = .ref r ∧ H r = Option.none ∧ IsRange h r a b c t u w := by simpa only [Den] using d
theorem dens_nil {h : Heap} {H : AH} : Dens h H [] [] := by simp only [Dens]
theorem dens_cons {h : Heap} {H : AH} {t : PT} {ts : List PT} {v : Value} {vs : List Value} (d : Den h H t v) (e : Dens h H ts vs) : Dens h H (t :: ts) (v :: vs) := by simp only [Dens]; exact ⟨v, vs, rfl, d, e⟩
theorem of_nil {h : Heap} {H : AH} {vs : List Value} (d : Dens h H [] vs) : vs = [] := by simpa only [Dens] using d
theorem of_cons {h : Heap} {H : AH} {t : PT} {ts : List PT} {vs : List Value} (d : Dens h H (t :: ts) vs) : ∃ v r, vs = v :: r ∧ Den h H t v ∧ Dens h H ts r := by simpa only [Dens] using d

/-- the heap has grown: nothing that stood is changed; the new lists that are written to are new objects -/
structure Ext (s : Shared) (H : AH) (s' : Shared) (H' : AH) : Prop where
  keeps : Keeps s s'
  old : ∀ a ts, H a = some ts → H' a = some ts
  new : ∀ a, H a = Option.none → H' a ≠ Option.none → s.heap.get? a = Option.none

theorem Keeps.refl (s : Shared) : Keeps s s := ⟨s.heap, s.toks, rfl, fun _ _ e => e⟩
theorem Keeps.trans {s s₁ s₂ : Shared} (x : Keeps s s₁) (y : Keeps s₁ s₂) : Keeps s s₂ := by
  obtain ⟨h₁, t₁, rfl, k₁⟩ := x
  obtain ⟨h₂, t₂, rfl, k₂⟩ := y
  exact ⟨h₂, t₂, rfl, fun b o e => k₂ b o (k₁ b o e)⟩
theorem Keeps.get {s s' : Shared} (x : Keeps s s') {b o} (e : s.heap.get? b = some o) : s'.heap.get? b = some o := by
  obtain ⟨h₁, t₁, rfl, k₁⟩ := x
  exact k₁ b o e

theorem Ext.refl (s : Shared) (H : AH) : Ext s H s H := ⟨Keeps.refl s, fun _ _ e => e, fun _ h h' => absurd h h'⟩
theorem Ext.of_keeps {s s' : Shared} (H : AH) (k : Keeps s s') : Ext s H s' H := ⟨k, fun _ _ e => e, fun _ h h' => absurd h h'⟩
theorem Ext.trans {s s₁ s₂ : Shared} {H H₁ H₂ : AH} (x : Ext s H s₁ H₁) (y : Ext s₁ H₁ s₂ H₂) : Ext s H s₂ H₂ := by
  refine ⟨Keeps.trans x.keeps y.keeps, fun a ts e => y.old a ts (x.old a ts e), fun a h h' => ?_⟩
  cases q : H₁ a with
  | some ts => exact x.new a h (by simp [q])
  | none =>
    have := y.new a q h'
    cases z : s.heap.get? a with
    | none => rfl
    | some o => rw [Keeps.get x.keeps z] at this; cases this
/-- an address that stood and was no list written to stays so -/
theorem Ext.stays {s s' : Shared} {H H' : AH} (x : Ext s H s' H') {a : Addr} {o : Obj} (e : s.heap.get? a = some o) (h : H a = Option.none) : H' a = Option.none := by
  cases q : H' a with
  | none => rfl
  | some ts => have := x.new a h (by simp [q]); rw [e] at this; cases this

/-- the objects that trees are read from -/
def Pl (o : Obj) : Prop := (∃ its n, o = { cls := .type "list", data := .seq its n }) ∨ (∃ its n, o = { cls := .type "tuple", data := .seq its n }) ∨
  ∃ fs, o = { cls := .type "range", dict := Option.none, data := .fields fs, slots := #[] }
mutual
/-- trees without a list that is written to -/
def NM : PT → Bool
  | .none => true
  | .bool _ => true
  | .int _ => true
  | .str _ => true
  | .tup ts => NMs ts
  | .lst ts => NMs ts
  | .mut _ => false
  | .rng _ _ _ => true
  | .oth _ => true
def NMs : List PT → Bool
  | [] => true
  | t :: ts => NM t && NMs ts
end
mutual
theorem Den.mono' {h h' : Heap} {H H' : AH} (hk : ∀ a o, Pl o → h.get? a = some o → H a = Option.none → h'.get? a = some o ∧ H' a = Option.none) :
    ∀ (t : PT) (v : Value), (NM t = true ∨ ∀ a, H a ≠ Option.none → H' a ≠ Option.none) → Den h H t v → Den h' H' t v
  | .none, _, _, e => e
  | .bool _, _, _, e => e
  | .int _, _, _, e => e
  | .str _, _, _, e => e
  | .tup ts, v, hm, e => by
    simp only [Den] at e ⊢
    obtain ⟨a, vs, rfl, h1, ⟨n, h2⟩, h3⟩ := e
    have := hk a _ (.inr (.inl ⟨_, _, rfl⟩)) h2 h1
    exact ⟨a, vs, rfl, this.2, ⟨n, this.1⟩, Dens.mono' hk ts _ (hm.imp (fun q => by simpa only [NM] using q) id) h3⟩
  | .lst ts, v, hm, e => by
    simp only [Den] at e ⊢
    obtain ⟨a, vs, rfl, h1, ⟨n, h2⟩, h3⟩ := e
    have := hk a _ (.inl ⟨_, _, rfl⟩) h2 h1
    exact ⟨a, vs, rfl, this.2, ⟨n, this.1⟩, Dens.mono' hk ts _ (hm.imp (fun q => by simpa only [NM] using q) id) h3⟩
  | .mut a, v, hm, e => by
    simp only [Den] at e ⊢
    rcases hm with hm | hm
    · simp [NM] at hm
    · exact ⟨e.1, hm a e.2⟩
  | .rng a b c, v, hm, e => by
    simp only [Den] at e ⊢
    obtain ⟨r, t, u, w, rfl, h1, h2⟩ := e
    have := hk r _ (.inr (.inr ⟨_, rfl⟩)) h2 h1
    exact ⟨r, t, u, w, rfl, this.2, this.1⟩
  | .oth _, _, _, e => e
theorem Dens.mono' {h h' : Heap} {H H' : AH} (hk : ∀ a o, Pl o → h.get? a = some o → H a = Option.none → h'.get? a = some o ∧ H' a = Option.none) :
    ∀ (ts : List PT) (vs : List Value), (NMs ts = true ∨ ∀ a, H a ≠ Option.none → H' a ≠ Option.none) → Dens h H ts vs → Dens h' H' ts vs
  | [], _, _, e => e
  | t :: ts, vs, hm, e => by
    simp only [Dens] at e ⊢
    obtain ⟨v, r, rfl, h1, h2⟩ := e
    exact ⟨v, r, rfl, Den.mono' hk t v (hm.imp (fun q => by simp only [NMs, Bool.and_eq_true] at q; exact q.1) id) h1, Dens.mono' hk ts r (hm.imp (fun q => by simp only [NMs, Bool.and_eq_true] at q; exact q.2) id) h2⟩
end
theorem Ext.den {s s' : Shared} {H H' : AH} (x : Ext s H s' H') {t : PT} {v : Value} (d : Den s.heap H t v) : Den s'.heap H' t v :=
  Den.mono' (fun _ _ _ e h => ⟨Keeps.get x.keeps e, x.stays e h⟩) t v (.inr fun a h => by
    cases q : H a with
    | none => exact absurd q h
    | some ts => rw [x.old a ts q]; simp) d
theorem Ext.dens {s s' : Shared} {H H' : AH} (x : Ext s H s' H') {ts : List PT} {vs : List Value} (d : Dens s.heap H ts vs) : Dens s'.heap H' ts vs :=
  Dens.mono' (fun _ _ _ e h => ⟨Keeps.get x.keeps e, x.stays e h⟩) ts vs (.inr fun a h => by
    cases q : H a with
    | none => exact absurd q h
    | some ts => rw [x.old a ts q]; simp) d

theorem Dens.length {h : Heap} {H : AH} : ∀ {ts : List PT} {vs : List Value}, Dens h H ts vs → vs.length = ts.length
  | [], _, e => by simp only [Dens] at e; subst e; rfl
  | t :: ts, vs, e => by
    simp only [Dens] at e
    obtain ⟨v, r, rfl, _, h2⟩ := e
    simp [Dens.length h2]
theorem Dens.append {h : Heap} {H : AH} : ∀ {ts us : List PT} {vs ws : List Value}, Dens h H ts vs → Dens h H us ws → Dens h H (ts ++ us) (vs ++ ws)
  | [], _, _, _, e, f => by simp only [Dens] at e; subst e; exact f
  | t :: ts, us, vs, ws, e, f => by
    simp only [Dens] at e
    obtain ⟨v, r, rfl, h1, h2⟩ := e
    show Dens h H (t :: (ts ++ us)) _
    simp only [Dens]
    exact ⟨v, r ++ ws, rfl, h1, Dens.append h2 f⟩
theorem Dens.get {h : Heap} {H : AH} : ∀ {ts : List PT} {vs : List Value} {i : Nat} {t : PT}, Dens h H ts vs → ts[i]? = some t → ∃ v, vs[i]? = some v ∧ Den h H t v
  | [], _, _, _, _, q => by simp at q
  | t :: ts, vs, i, u, e, q => by
    simp only [Dens] at e
    obtain ⟨v, r, rfl, h1, h2⟩ := e
    cases i with
    | zero => simp at q; subst q; exact ⟨v, rfl, h1⟩
    | succ j =>
      have q' : ts[j]? = some u := by simpa using q
      obtain ⟨v', e1, e2⟩ := Dens.get h2 q'
      exact ⟨v', by simpa using e1, e2⟩
theorem Dens.get' {h : Heap} {H : AH} : ∀ {ts : List PT} {vs : List Value} {i : Nat} {v : Value}, Dens h H ts vs → vs[i]? = some v → ∃ t, ts[i]? = some t ∧ Den h H t v
  | [], _, _, _, e, q => by simp only [Dens] at e; subst e; simp at q
  | t :: ts, vs, i, u, e, q => by
    simp only [Dens] at e
    obtain ⟨v, r, rfl, h1, h2⟩ := e
    cases i with
    | zero => simp at q; subst q; exact ⟨t, rfl, h1⟩
    | succ j =>
      have q' : r[j]? = some u := by simpa using q
      obtain ⟨t', e1, e2⟩ := Dens.get' h2 q'
      exact ⟨t', by simpa using e1, e2⟩
theorem Dens.of_get {h : Heap} {H : AH} : ∀ {ts : List PT} {vs : List Value}, vs.length = ts.length → (∀ (i : Nat) t v, ts[i]? = some t → vs[i]? = some v → Den h H t v) → Dens h H ts vs
  | [], vs, e, _ => by simp only [Dens]; exact List.length_eq_zero_iff.mp e
  | t :: ts, vs, e, f => by
    cases vs with
    | nil => simp at e
    | cons v r =>
      simp only [Dens]
      exact ⟨v, r, rfl, f 0 t v rfl rfl, Dens.of_get (by simpa using e) fun i t' v' h1 h2 => f (i + 1) t' v' h1 h2⟩

/-- the lists that are written to, on the heap -/
def Muts (h : Heap) (H : AH) : Prop := ∀ a ts, H a = some ts → ∃ vs, h.PlainList a vs ∧ Dens h H ts vs.toList

theorem Ext.muts {s s' : Shared} {H : AH} (x : Ext s H s' H) (m : Muts s.heap H) : Muts s'.heap H := fun a ts e => by
  obtain ⟨vs, h1, h2⟩ := m a ts e
  exact ⟨vs, h1.at fun o q => Keeps.get x.keeps q, x.dens h2⟩


structure Gx where
  prog : Program
  w : World
  h₀ : Heap
  mg : Str → Option Value
  mb : Str → Option Value
structure GOk (G : Gx) : Prop where
  g : G.h₀.Ns mainGlobals G.mg
  b : G.h₀.Ns builtinsNs G.mb
  nolimit : G.h₀.NoLimit
  builtins : ∀ x : Str, x ≠ "__name__" → G.mb x = bootBuiltins x
structure Cx where
  G : Gx
  A : Around
  env : Env
  lo : Nat
  d : Nat
  fn : Bool
structure COk (C : Cx) : Prop where
  G : GOk C.G
  hh : C.A.handled = Option.none
  depth : C.A.depth + C.d ≤ 900
  units : C.A.units + 10 * C.d ≤ 9000
  kind : C.env.scope.kind = .function
  glob : C.env.globals = mainGlobals
  blt : C.env.builtins = builtinsNs
  low : C.G.h₀.objs.size ≤ C.lo
  loc : C.lo ≤ C.env.locals

/-- the heap, as far as a value's operation asks -/
structure Bs (C : Cx) (H : AH) (s : Shared) : Prop where
  ok : COk C
  base : ∀ b o, C.G.h₀.get? b = some o → s.heap.get? b = some o
  muts : Muts s.heap H
  lo : C.lo ≤ s.heap.objs.size
/-- the heap, and the names of the frame -/
structure Sv (C : Cx) (σ : Sg) (H : AH) (s : Shared) : Prop extends Bs C H s where
  ns : ∃ m, s.heap.Ns C.env.locals m ∧ ∀ x t, σ x = some t → C.env.kindOf x = some .local → ∃ v, m x = some v ∧ Den s.heap H t v
  cells : ∀ x t, σ x = some t → C.env.kindOf x ≠ some .local → (C.env.kindOf x = some .cell ∨ C.env.kindOf x = some .free) ∧
    ∃ c v, C.env.cells.lookup x = some c ∧ s.heap.IsCell c (some v) ∧ Den s.heap H t v


def postW (s : Shared) (H : AH) (Q : PT → AH → Prop) (v : Value) (s' : Shared) : Prop :=
  ∃ H' u, Ext s H s' H' ∧ Muts s'.heap H' ∧ Den s'.heap H' u v ∧ Q u H'
def postB (s : Shared) (H : AH) (Q : Bool → AH → Prop) (b : Bool) (s' : Shared) : Prop :=
  ∃ H', Ext s H s' H' ∧ Muts s'.heap H' ∧ Q b H'

def no : Value → Shared → Prop := fun _ _ => False
abbrev Cx.M (C : Cx) : Model := model C.G.prog C.G.w

def Wp (C : Cx) (H : AH) (t : Sem Value) (s : Shared) (Q : PT → AH → Prop) : Prop := wpAny C.M C.A t (postW s H Q) no s
def WpB (C : Cx) (H : AH) (t : Sem Bool) (s : Shared) (Q : Bool → AH → Prop) : Prop := wpAny C.M C.A t (postB s H Q) no s

def Ev (C : Cx) (e : Expr) (σ : Sg) (H : AH) (Q : PT → AH → Prop) : Prop := ∀ s, Sv C σ H s → Wp C H (eval e C.env) s Q
def Ts (C : Cx) (e : Expr) (σ : Sg) (H : AH) (Q : Bool → AH → Prop) : Prop := ∀ s, Sv C σ H s → WpB C H (isTrue e C.env (eval e C.env)) s Q

theorem Bs.ext {C : Cx} {H H' : AH} {s s' : Shared} (x : Bs C H s) (e : Ext s H s' H') (hs : C.lo ≤ s'.heap.objs.size) (m : Muts s'.heap H') : Bs C H' s' :=
  ⟨x.ok, fun b o q => Keeps.get e.keeps (x.base b o q), m, hs⟩
theorem Sv.ext {C : Cx} {σ : Sg} {H H' : AH} {s s' : Shared} (x : Sv C σ H s) (e : Ext s H s' H') (m : Muts s'.heap H') : Sv C σ H' s' := by
  refine ⟨x.toBs.ext e (by
    obtain ⟨_, ⟨o, _, _, ho, _⟩, _⟩ := x.ns
    exact Nat.le_of_lt (Nat.lt_of_le_of_lt x.ok.loc (Heap.lt_size (Keeps.get e.keeps ho)))) m, ?_, fun y t hy hk => ?_⟩
  · obtain ⟨mm, h1, h2⟩ := x.ns
    exact ⟨mm, h1.keeps fun b o q => Keeps.get e.keeps q, fun y t hy hk => let ⟨v, h3, h4⟩ := h2 y t hy hk; ⟨v, h3, e.den h4⟩⟩
  · obtain ⟨h1, c, v, h2, h3, h4⟩ := x.cells y t hy hk
    exact ⟨h1, c, v, h2, h3.keeps fun b o q => Keeps.get e.keeps q, e.den h4⟩

theorem postW.trans {s s₁ : Shared} {H H₁ : AH} {Q : PT → AH → Prop} {v : Value} {s' : Shared} (e : Ext s H s₁ H₁) (p : postW s₁ H₁ Q v s') : postW s H Q v s' := by
  obtain ⟨H', u, h1, h3, h4, h5⟩ := p
  exact ⟨H', u, e.trans h1, h3, h4, h5⟩
theorem postB.trans {s s₁ : Shared} {H H₁ : AH} {Q : Bool → AH → Prop} {v : Bool} {s' : Shared} (e : Ext s H s₁ H₁) (p : postB s₁ H₁ Q v s') : postB s H Q v s' := by
  obtain ⟨H', h1, h3, h4⟩ := p
  exact ⟨H', e.trans h1, h3, h4⟩

/-- one step behind another -/
theorem Wp.then {C : Cx} {H : AH} {t : Sem Value} {s : Shared} {Q₁ : PT → AH → Prop} {R : Value → Shared → Prop} (h : Wp C H t s Q₁)
    (k : ∀ v u s₁ H₁, Ext s H s₁ H₁ → Muts s₁.heap H₁ → Den s₁.heap H₁ u v → Q₁ u H₁ → R v s₁) : wpAny C.M C.A t R no s :=
  wpAny_mono h (fun v s₁ ⟨H₁, u, h1, h3, h4, h5⟩ => k v u s₁ H₁ h1 h3 h4 h5) fun _ _ f => f
theorem WpB.then {C : Cx} {H : AH} {t : Sem Bool} {s : Shared} {Q₁ : Bool → AH → Prop} {R : Bool → Shared → Prop} (h : WpB C H t s Q₁)
    (k : ∀ b s₁ H₁, Ext s H s₁ H₁ → Muts s₁.heap H₁ → Q₁ b H₁ → R b s₁) : wpAny C.M C.A t R no s :=
  wpAny_mono h (fun v s₁ ⟨H₁, h1, h3, h4⟩ => k v s₁ H₁ h1 h3 h4) fun _ _ f => f
theorem Wp.mono {C : Cx} {H : AH} {t : Sem Value} {s : Shared} {Q Q' : PT → AH → Prop} (h : Wp C H t s Q) (k : ∀ u H', Q u H' → Q' u H') : Wp C H t s Q' :=
  wpAny_mono h (fun v s₁ ⟨H₁, u, h1, h3, h4, h5⟩ => ⟨H₁, u, h1, h3, h4, k _ _ h5⟩) fun _ _ f => f
theorem Ev.mono {C : Cx} {e : Expr} {σ : Sg} {H : AH} {Q Q' : PT → AH → Prop} (h : Ev C e σ H Q) (k : ∀ u H', Q u H' → Q' u H') : Ev C e σ H Q' := fun s x => (h s x).mono k

/-- an end that changes nothing but the tokens -/
theorem postW.toks {s : Shared} {H : AH} {Q : PT → AH → Prop} {v : Value} {u : PT} (tk : Nat) (m : Muts s.heap H) (d : Den s.heap H u v) (q : Q u H) : postW s H Q v { s with toks := tk } :=
  ⟨H, u, Ext.of_keeps H ⟨s.heap, tk, rfl, fun _ _ e => e⟩, m, d, q⟩
theorem postW.same {s : Shared} {H : AH} {Q : PT → AH → Prop} {v : Value} {u : PT} (m : Muts s.heap H) (d : Den s.heap H u v) (q : Q u H) : postW s H Q v s :=
  ⟨H, u, Ext.refl s H, m, d, q⟩
theorem postB.toks {s : Shared} {H : AH} {Q : Bool → AH → Prop} {v : Bool} (tk : Nat) (m : Muts s.heap H) (q : Q v H) : postB s H Q v { s with toks := tk } :=
  ⟨H, Ext.of_keeps H ⟨s.heap, tk, rfl, fun _ _ e => e⟩, m, q⟩
theorem postB.same {s : Shared} {H : AH} {Q : Bool → AH → Prop} {v : Bool} (m : Muts s.heap H) (q : Q v H) : postB s H Q v s :=
  ⟨H, Ext.refl s H, m, q⟩

section
variable {C : Cx} {σ : Sg} {H : AH} {Q : PT → AH → Prop}

theorem ev_int {i : Int} {k : Nat} {pos : Pos} (q : Q (.int i) H) : Ev C (.Constant (.int i) k pos) σ H Q :=
  fun _ x => wpAny_Constant_int (postW.toks _ x.muts den_int q)
theorem ev_str {i : Str} {k : Nat} {pos : Pos} (q : Q (.str i) H) : Ev C (.Constant (.str i) k pos) σ H Q :=
  fun s x => by
    show wpAny _ _ (mkText i) _ _ s
    exact wpAny_mkText (postW.toks _ x.muts den_str q)
theorem ev_none {k : Nat} {pos : Pos} (q : Q .none H) : Ev C (.Constant .none k pos) σ H Q :=
  fun s x => by
    show wpAny _ _ (pure Value.none) _ _ s
    exact wpAny_pure (postW.same x.muts den_none q)

/-- a name of the frame -/
theorem ev_name {y : Str} {pos : Pos} {t : PT} (h : σ y = some t) (q : Q t H) (hd : (y == ("__debug__" : Str)) = false := by decide) (hn : (y == ("__classdict__" : Str)) = false := by decide) : Ev C (.Name y pos) σ H Q :=
  fun s x => by
    refine wpAny_Name ?_ hd
    by_cases hl : C.env.kindOf y = some .local
    · obtain ⟨m, h1, h2⟩ := x.ns
      obtain ⟨v, h3, h4⟩ := h2 y t h hl
      exact wpAny_loadName_local x.ok.kind hl h1 h3 (postW.same x.muts h4 q)
    · obtain ⟨h1, c, v, h2, h3, h4⟩ := x.cells y t h hl
      rcases h1 with h1 | h1
      · exact wpAny_loadName_cell x.ok.kind h1 h2 h3 (postW.same x.muts h4 q)
      · exact wpAny_loadName_free x.ok.kind h1 h2 h3 (postW.same x.muts h4 q) hn

/-- what a binary operation gives -/
def Bin (C : Cx) (op : Operator) (a b : PT) (H : AH) (Q : PT → AH → Prop) : Prop :=
  ∀ s v w, Bs C H s → Den s.heap H a v → Den s.heap H b w → Wp C H (binaryOp op v w) s Q
def Cmp (C : Cx) (op : CmpOp) (a b : PT) (H : AH) (Q : PT → AH → Prop) : Prop :=
  ∀ s v w, Bs C H s → Den s.heap H a v → Den s.heap H b w → Wp C H (compareOp op v w) s Q
def Tru (C : Cx) (a : PT) (H : AH) (Q : Bool → AH → Prop) : Prop :=
  ∀ s v, Bs C H s → Den s.heap H a v → WpB C H (truthy v) s Q

theorem ev_binop {l r : Expr} {op : Operator} {pos : Pos} (h : Ev C l σ H fun a H₁ => Ev C r σ H₁ fun b H₂ => Bin C op a b H₂ Q) : Ev C (.BinOp l op r pos) σ H Q :=
  fun s x => by
    refine wpAny_BinOp ((h s x).then fun v a s₁ H₁ e₁ m₁ d₁ q₁ => ?_)
    have x₁ := x.ext e₁ m₁
    refine (q₁ s₁ x₁).then fun w b s₂ H₂ e₂ m₂ d₂ q₂ => ?_
    exact wpAny_mono (q₂ s₂ v w (x₁.ext e₂ m₂).toBs (e₂.den d₁) d₂) (fun _ _ p => (p.trans e₂).trans e₁) fun _ _ f => f
theorem ev_compare {l r : Expr} {op : CmpOp} {pos : Pos} (h : Ev C l σ H fun a H₁ => Ev C r σ H₁ fun b H₂ => Cmp C op a b H₂ Q)
    (hm : behindInMarks op r = false := by with_unfolding_all rfl) : Ev C (.Compare l [op] [r] pos) σ H Q :=
  fun s x => by
    refine wpAny_Compare1 ((h s x).then fun v a s₁ H₁ e₁ m₁ d₁ q₁ => ?_) hm
    have x₁ := x.ext e₁ m₁
    refine (q₁ s₁ x₁).then fun w b s₂ H₂ e₂ m₂ d₂ q₂ => ?_
    exact wpAny_mono (q₂ s₂ v w (x₁.ext e₂ m₂).toBs (e₂.den d₁) d₂) (fun _ _ p => (p.trans e₂).trans e₁) fun _ _ f => f
theorem ts_compare {l r : Expr} {op : CmpOp} {pos : Pos} {Q : Bool → AH → Prop} (h : Ev C l σ H fun a H₁ => Ev C r σ H₁ fun b H₂ => Cmp C op a b H₂ fun c H₃ => Tru C c H₃ Q)
    (hm : behindInMarks op r = false := by with_unfolding_all rfl) : Ts C (.Compare l [op] [r] pos) σ H Q :=
  fun s x => by
    refine wpAny_isTrue_Compare1 ((h s x).then fun v a s₁ H₁ e₁ m₁ d₁ q₁ => ?_) hm
    have x₁ := x.ext e₁ m₁
    refine (q₁ s₁ x₁).then fun w b s₂ H₂ e₂ m₂ d₂ q₂ => ?_
    have x₂ := x₁.ext e₂ m₂
    refine (q₂ s₂ v w x₂.toBs (e₂.den d₁) d₂).then fun u c s₃ H₃ e₃ m₃ d₃ q₃ => ?_
    exact wpAny_mono (q₃ s₃ u (x₂.ext e₃ m₃).toBs d₃) (fun _ _ p => ((p.trans e₃).trans e₂).trans e₁) fun _ _ f => f


/-- a name of the top -/
theorem ev_gname {y : Str} {pos : Pos} {t : PT} {v : Value} (hk : C.env.kindOf y = some .globalImplicit) (hm : C.G.mg y = some v) (hv : ∀ h, Den h H t v) (q : Q t H)
    (hd : (y == ("__debug__" : Str)) = false := by decide) : Ev C (.Name y pos) σ H Q :=
  fun s x => by
    refine wpAny_Name (ks_loadName_global x.ok.kind hk ?_) hd
    unfold loadGlobal
    rw [x.ok.glob]
    refine wpAny_bind (wpAny_nsGet (x.ok.G.g.keeps x.base) ?_)
    rw [hm]
    exact wpAny_pure (postW.same x.muts (hv _) q)
/-- a built-in name -/
theorem ev_bname {y : Str} {pos : Pos} {v : Value} (hk : C.env.kindOf y = some .globalImplicit) (hm : C.G.mg y = Option.none) (hb : bootBuiltins y = some v) (q : Q (.oth v) H)
    (hn : y ≠ "__name__" := by decide) (hd : (y == ("__debug__" : Str)) = false := by decide) : Ev C (.Name y pos) σ H Q :=
  fun s x => by
    refine wpAny_Name (ks_loadName_global x.ok.kind hk ?_) hd
    unfold loadGlobal
    rw [x.ok.glob, x.ok.blt]
    refine wpAny_bind (wpAny_nsGet (x.ok.G.g.keeps x.base) ?_)
    rw [hm]
    refine wpAny_bind (wpAny_nsGet (x.ok.G.b.keeps x.base) ?_)
    rw [x.ok.G.builtins y hn, hb]
    exact wpAny_pure (postW.same x.muts den_oth q)

/-- several expressions, one behind the other -/
def postL (s : Shared) (H : AH) (Q : List PT → AH → Prop) (vs : List Value) (s' : Shared) : Prop :=
  ∃ H' us, Ext s H s' H' ∧ Muts s'.heap H' ∧ Dens s'.heap H' us vs ∧ Q us H'
def Evs (C : Cx) (es : List Expr) (σ : Sg) (H : AH) (Q : List PT → AH → Prop) : Prop :=
  ∀ pos s, Sv C σ H s → wpAny C.M C.A (spliced (backTo pos (starEach es C.env))) (postL s H Q) no s
theorem evs_nil {Q : List PT → AH → Prop} (q : Q [] H) : Evs C [] σ H Q :=
  fun pos s x => Calls.spliced_nil ⟨H, [], Ext.refl s H, x.muts, dens_nil, q⟩
theorem evs_cons {e : Expr} {es : List Expr} {Q : List PT → AH → Prop} (h : Ev C e σ H fun t H₁ => Evs C es σ H₁ fun ts H₂ => Q (t :: ts) H₂)
    (he : starEach (e :: es) C.env = (false, eval e C.env) :: starEach es C.env := by rfl) : Evs C (e :: es) σ H Q :=
  fun pos s x => by
    rw [he]
    refine Calls.spliced_cons ((h s x).then fun v a s₁ H₁ e₁ m₁ d₁ q₁ => ?_)
    refine wpAny_mono (q₁ pos s₁ (x.ext e₁ m₁)) (fun vs s₂ p => ?_) fun _ _ f => f
    obtain ⟨H₂, us, e₂, m₂, d₂, q₂⟩ := p
    exact ⟨H₂, a :: us, e₁.trans e₂, m₂, dens_cons (e₂.den d₁) d₂, q₂⟩

/-- what a call gives -/
def Cal (C : Cx) (f : PT) (ts : List PT) (H : AH) (Q : PT → AH → Prop) : Prop :=
  ∀ s v vs, Bs C H s → Den s.heap H f v → Dens s.heap H ts vs →
    (∃ k, (k = Keeper.frame ∨ k = Keeper.machine ∨ k = Keeper.boundFrame) ∧ Looks C.M s.heap (keeperOf v) k) ∧ Wp C H (call v vs) s Q

theorem evalArgs_zero {M : Model} {A : Around} {E : Value → Shared → Prop} {s : Shared} {f : Value} {R : Args → Shared → Prop}
    (h : wpAny M A (spliced []) (fun vs s' => R ⟨vs, []⟩ s') E s) : wpAny M A (evalArgs f true [] []) R E s := by
  unfold evalArgs
  show wpAny M A (spliced [] >>= _) R E s
  refine wpAny_bind (wpAny_mono h (fun vs s' h' => ?_) fun _ _ x => x)
  refine wpAny_bind (wpAny_pure ?_)
  refine wpAny_holding ?_
  exact wpAny_bind (wpAny_pure (wpAny_bind (wpAny_pure (wpAny_pure h'))))

theorem callWith_any {M : Model} {A : Around} {E : Value → Shared → Prop} {s : Shared} {env : Env} {pos : Pos} {f : Value} {first : List Value} {R : Value → Shared → Prop} {args : List Expr}
    (hplain : (backTo pos (starEach args env)).any (·.1) = false)
    (h : wpAny M A (spliced (backTo pos (starEach args env))) (fun vs s₁ => (∃ k, (k = Keeper.frame ∨ k = Keeper.machine ∨ k = Keeper.boundFrame) ∧ Looks M s₁.heap (keeperOf f) k) ∧ wpAny M A (call f (first ++ vs)) R E s₁) E s) :
    wpAny M A (callWith pos f first (backTo pos (starEach args env)) []) R E s := by
  refine callWith_of (P := fun h => ∃ k, (k = Keeper.frame ∨ k = Keeper.machine ∨ k = Keeper.boundFrame) ∧ Looks M h (keeperOf f) k) (by rw [hplain]; rfl) (fun h x => x) ?_
  revert h hplain
  generalize backTo pos (starEach args env) = l
  intro hplain h
  cases l with
  | nil => exact evalArgs_zero h
  | cons x r =>
    obtain ⟨b, t⟩ := x
    simp only [List.any_cons, Bool.or_eq_false_iff] at hplain
    obtain ⟨rfl, _⟩ := hplain
    exact Calls.evalArgs_plain h

theorem ev_call {g : Str} {p pos : Pos} {args : List Expr} (h : Ev C (.Name g p) σ H fun f H₁ => Evs C args σ H₁ fun ts H₂ => Cal C f ts H₂ Q)
    (hplain : (backTo pos (starEach args C.env)).any (·.1) = false := by rfl) : Ev C (.Call (.Name g p) args [] pos) σ H Q :=
  fun s x => by
    refine wpAny_Call_NameR ((h s x).then fun v a s₁ H₁ e₁ m₁ d₁ q₁ => ?_)
    have x₁ := x.ext e₁ m₁
    refine callWith_any hplain (wpAny_mono (q₁ pos s₁ x₁) (fun vs s₂ p => ?_) fun _ _ f => f)
    obtain ⟨H₂, us, e₂, m₂, d₂, q₂⟩ := p
    obtain ⟨k, w⟩ := q₂ s₂ v vs (x₁.ext e₂ m₂).toBs (e₂.den d₁) d₂
    exact ⟨k, wpAny_mono w (fun _ _ p => (p.trans e₂).trans e₁) fun _ _ f => f⟩

theorem keeper_builtin {M : Model} {h : Heap} {id : String} : ∃ k, (k = Keeper.frame ∨ k = Keeper.machine ∨ k = Keeper.boundFrame) ∧ Looks M h (keeperOf (.builtin id)) k :=
  ⟨.machine, .inr (.inl rfl), Looks.of_pure rfl⟩
theorem keeper_type {M : Model} {h : Heap} {id : String} : ∃ k, (k = Keeper.frame ∨ k = Keeper.machine ∨ k = Keeper.boundFrame) ∧ Looks M h (keeperOf (.type id)) k :=
  ⟨.machine, .inr (.inl rfl), Looks.of_pure rfl⟩

/-- what a built-in gives of its arguments -/
def Blt (C : Cx) (id : String) (ts : List PT) (H : AH) (Q : PT → AH → Prop) : Prop :=
  ∀ s vs, Bs C H s → Dens s.heap H ts vs → Wp C H (call (.builtin id) vs) s Q
def Typ (C : Cx) (id : String) (ts : List PT) (H : AH) (Q : PT → AH → Prop) : Prop :=
  ∀ s vs, Bs C H s → Dens s.heap H ts vs → Wp C H (call (.type id) vs) s Q
theorem cal_builtin {id : String} {ts : List PT} (h : Blt C id ts H Q) : Cal C (.oth (.builtin id)) ts H Q := fun s v vs x hv hvs => by
  cases of_oth hv
  exact ⟨keeper_builtin, h s vs x hvs⟩
theorem cal_type {id : String} {ts : List PT} (h : Typ C id ts H Q) : Cal C (.oth (.type id)) ts H Q := fun s v vs x hv hvs => by
  cases of_oth hv
  exact ⟨keeper_type, h s vs x hvs⟩

/-- a method of a value: the built-in that stands for it -/
def Mth (C : Cx) (t : PT) (name : Str) (id : String) (H : AH) : Prop :=
  ∀ s v, Bs C H s → Den s.heap H t v → ∃ T, PlainAttrs T ∧ PySem.Slot T name id ∧ typeOf (.builtin id) = pure (.type "method_descriptor") ∧ s.TypeIs v T ∧ (∀ a, v = .ref a → ∃ ob, s.heap.get? a = some ob ∧ ob.dict = Option.none)

theorem ev_method {o : Expr} {name : Str} {apos pos : Pos} {args : List Expr} (h : Ev C o σ H fun t H₁ => ∃ id, Mth C t name id H₁ ∧ Evs C args σ H₁ fun ts H₂ => Blt C id (t :: ts) H₂ Q)
    (hbase : attributeBase o name C.env (eval o C.env) = eval o C.env := by rfl)
    (hfew : ((backTo pos (starEach args C.env)).all (fun x => !x.1) && (backToKw pos (keywordEach [] C.env)).all (fun x => x.1.isSome)
      && decide (args.length + ([] : List Keyword).length + (if ([] : List Keyword).isEmpty then 0 else 1) < 30)) = true := by rfl)
    (hline : (apos.endLine == pos.line) = true := by rfl) (hplain : (backTo pos (starEach args C.env)).any (·.1) = false := by rfl) :
    Ev C (.Call (.Attribute o name apos) args [] pos) σ H Q :=
  fun s x => by
    refine wpAny_Call_method_late hbase hfew hline rfl ((h s x).then fun v a s₁ H₁ e₁ m₁ d₁ q₁ => ?_)
    have x₁ := x.ext e₁ m₁
    obtain ⟨id, hm, q₁⟩ := q₁
    obtain ⟨T, p1, p2, p3, p4, p5⟩ := hm s₁ v x₁.toBs d₁
    refine ⟨T, id, p1, p2, p3, p4, p5, ?_⟩
    refine callWith_any hplain (wpAny_mono (q₁ pos s₁ x₁) (fun vs s₂ p => ?_) fun _ _ f => f)
    obtain ⟨H₂, us, e₂, m₂, d₂, q₂⟩ := p
    exact ⟨keeper_builtin, wpAny_mono (q₂ s₂ (v :: vs) (x₁.ext e₂ m₂).toBs (dens_cons (e₂.den d₁) d₂)) (fun _ _ p => (p.trans e₂).trans e₁) fun _ _ f => f⟩

end


inductive Fl where
  | next
  | brk
  | cont
  | ret (t : PT)
def FlD (h : Heap) (H : AH) : Fl → Flow → Prop
  | .next, f => f = .next
  | .brk, f => f = .brk
  | .cont, f => f = .cont
  | .ret t, f => ∃ v, f = .ret v ∧ Den h H t v

/-- a frame that statements run in -/
structure SOk (C : Cx) : Prop where
  cell : C.fn = true → ∀ x c, C.env.kindOf x = some .cell → C.env.cells.lookup x = some c → C.lo ≤ c
  apart : C.fn = true → ∀ x y c, C.env.cells.lookup x = some c → C.env.cells.lookup y = some c → x = y

structure St (C : Cx) (σ : Sg) (H : AH) (s : Shared) : Prop extends Sv C σ H s where
  sok : SOk C
  has : ∀ x, C.env.kindOf x = some .cell → ∃ c v, C.env.cells.lookup x = some c ∧ s.heap.IsCell c v

/-- what no statement of the frame turns -/
structure Fz (C : Cx) (H : AH) (b : Addr) : Prop where
  loc : b ≠ C.env.locals
  cell : C.fn = true → ∀ x, C.env.kindOf x = some .cell → C.env.cells.lookup x ≠ some b
  mt : H b = Option.none ∨ b < C.lo
structure Kp (C : Cx) (s : Shared) (H : AH) (s' : Shared) (H' : AH) : Prop where
  same : ∃ h tk, s' = { s with heap := h, toks := tk }
  keep : ∀ b o, s.heap.get? b = some o → Fz C H b → s'.heap.get? b = some o
  alive : ∀ b o, s.heap.get? b = some o → ∃ o', s'.heap.get? b = some o'
  frz : ∀ b o, s.heap.get? b = some o → H b = Option.none → H' b = Option.none
  frn : ∀ b ts, H b = some ts → b < C.lo → H' b = some ts
theorem Kp.refl (C : Cx) (s : Shared) (H : AH) : Kp C s H s H := ⟨⟨s.heap, s.toks, rfl⟩, fun _ _ e _ => e, fun _ o e => ⟨o, e⟩, fun _ _ _ e => e, fun _ _ e _ => e⟩
theorem Fz.step {C : Cx} {s s' : Shared} {H H' : AH} (x : Kp C s H s' H') {b : Addr} {o : Obj} (e : s.heap.get? b = some o) (f : Fz C H b) : Fz C H' b := by
  refine ⟨f.loc, f.cell, ?_⟩
  rcases f.mt with h | h
  · exact .inl (x.frz b o e h)
  · exact .inr h
theorem Kp.trans {C : Cx} {s s₁ s₂ : Shared} {H H₁ H₂ : AH} (x : Kp C s H s₁ H₁) (y : Kp C s₁ H₁ s₂ H₂) : Kp C s H s₂ H₂ := by
  refine ⟨?_, fun b o e f => y.keep b o (x.keep b o e f) (f.step x e), fun b o e => ?_, fun b o e q => ?_, fun b ts q l => y.frn b ts (x.frn b ts q l) l⟩
  · obtain ⟨h₁, t₁, rfl⟩ := x.same
    obtain ⟨h₂, t₂, rfl⟩ := y.same
    exact ⟨h₂, t₂, rfl⟩
  · obtain ⟨o', e'⟩ := x.alive b o e
    exact y.alive b o' e'
  · obtain ⟨o', e'⟩ := x.alive b o e
    exact y.frz b o' e' (x.frz b o e q)
theorem Kp.of_ext {C : Cx} {s s' : Shared} {H H' : AH} (e : Ext s H s' H') : Kp C s H s' H' := by
  refine ⟨?_, fun b o q _ => Keeps.get e.keeps q, fun b o q => ⟨o, Keeps.get e.keeps q⟩, fun b o q h => e.stays q h, fun b ts q _ => e.old b ts q⟩
  obtain ⟨h, tk, rfl, _⟩ := e.keeps
  exact ⟨h, tk, rfl⟩

theorem St.ext {C : Cx} {σ : Sg} {H H' : AH} {s s' : Shared} (x : St C σ H s) (e : Ext s H s' H') (m : Muts s'.heap H') : St C σ H' s' := by
  refine ⟨x.toSv.ext e m, x.sok, fun y hy => ?_⟩
  obtain ⟨c, v, h1, h2⟩ := x.has y hy
  exact ⟨c, v, h1, h2.keeps fun b o q => Keeps.get e.keeps q⟩

theorem ns_ne {h : Heap} {L a : Addr} {m : Str → Option Value} {o : Obj} (n : h.Ns L m) (p : Pl o) (e : h.get? a = some o) : a ≠ L := by
  rintro rfl
  obtain ⟨o', es, ep, ho, hd, _⟩ := n
  rw [e] at ho; cases ho
  rcases p with ⟨_, _, rfl⟩ | ⟨_, _, rfl⟩ | ⟨_, rfl⟩ <;> cases hd
theorem cell_ne {h : Heap} {c a : Addr} {v : Option Value} {o : Obj} (n : h.IsCell c v) (p : Pl o) (e : h.get? a = some o) : a ≠ c := by
  rintro rfl
  obtain ⟨o', ho, hd⟩ := n
  rw [e] at ho; cases ho
  rcases p with ⟨_, _, rfl⟩ | ⟨_, _, rfl⟩ | ⟨_, rfl⟩ <;> cases hd
theorem pl_list {h : Heap} {a : Addr} {vs : Array Value} (l : h.PlainList a vs) : ∃ o, Pl o ∧ h.get? a = some o := let ⟨_, e⟩ := l; ⟨_, .inl ⟨_, _, rfl⟩, e⟩
theorem ns_ne_list {h : Heap} {L a : Addr} {m : Str → Option Value} {vs : Array Value} (n : h.Ns L m) (l : h.PlainList a vs) : a ≠ L := let ⟨_, p, e⟩ := pl_list l; ns_ne n p e
theorem cell_ne_list {h : Heap} {c a : Addr} {v : Option Value} {vs : Array Value} (n : h.IsCell c v) (l : h.PlainList a vs) : a ≠ c := let ⟨_, p, e⟩ := pl_list l; cell_ne n p e
theorem ns_ne_cell {h : Heap} {L c : Addr} {m : Str → Option Value} {v : Option Value} (n : h.Ns L m) (l : h.IsCell c v) : c ≠ L := by
  rintro rfl
  obtain ⟨o, es, ep, ho, hd, _⟩ := n
  obtain ⟨o', q, hd'⟩ := l
  rw [ho] at q; cases q; rw [hd] at hd'; cases hd'

theorem den_ns {h h' : Heap} {H : AH} {L : Addr} {m : Str → Option Value} (n : h.Ns L m) (hs : Heap.SameBut L h h') {t : PT} {v : Value} (d : Den h H t v) : Den h' H t v :=
  Den.mono' (fun a o p e q => ⟨(hs.2 a (ns_ne n p e)).trans e, q⟩) t v (.inr fun _ q => q) d
theorem den_cell {h h' : Heap} {H : AH} {L : Addr} {m : Option Value} (n : h.IsCell L m) (hs : Heap.SameBut L h h') {t : PT} {v : Value} (d : Den h H t v) : Den h' H t v :=
  Den.mono' (fun a o p e q => ⟨(hs.2 a (cell_ne n p e)).trans e, q⟩) t v (.inr fun _ q => q) d
theorem dens_ns {h h' : Heap} {H : AH} {L : Addr} {m : Str → Option Value} (n : h.Ns L m) (hs : Heap.SameBut L h h') {ts : List PT} {vs : List Value} (d : Dens h H ts vs) : Dens h' H ts vs :=
  Dens.mono' (fun a o p e q => ⟨(hs.2 a (ns_ne n p e)).trans e, q⟩) ts vs (.inr fun _ q => q) d
theorem dens_cell {h h' : Heap} {H : AH} {L : Addr} {m : Option Value} (n : h.IsCell L m) (hs : Heap.SameBut L h h') {ts : List PT} {vs : List Value} (d : Dens h H ts vs) : Dens h' H ts vs :=
  Dens.mono' (fun a o p e q => ⟨(hs.2 a (cell_ne n p e)).trans e, q⟩) ts vs (.inr fun _ q => q) d

/-- frozen objects are read as they were -/
theorem St.fz {C : Cx} {σ : Sg} {H : AH} {s : Shared} (x : St C σ H s) {a : Addr} {o : Obj} (p : Pl o) (e : s.heap.get? a = some o) (q : H a = Option.none) : Fz C H a := by
  obtain ⟨m, hn, _⟩ := x.ns
  refine ⟨ns_ne hn p e, fun _ y hy hc => ?_, .inl q⟩
  obtain ⟨c, v, h1, h2⟩ := x.has y hy
  rw [h1] at hc; cases hc
  exact cell_ne h2 p e rfl
theorem den_keep {C : Cx} {σ : Sg} {s s' : Shared} {H H' : AH} (x : St C σ H s) (k : Kp C s H s' H') {t : PT} {v : Value} (hm : NM t = true ∨ ∀ a, H a ≠ Option.none → H' a ≠ Option.none) (d : Den s.heap H t v) : Den s'.heap H' t v :=
  Den.mono' (fun a o p e q => ⟨k.keep a o e (x.fz p e q), k.frz a o e q⟩) t v hm d
/-- a name that may be stored -/
def stb (C : Cx) (x : Str) : Bool := match C.env.kindOf x with
  | some .local => true
  | some .cell => C.fn
  | _ => false

theorem base_ne {C : Cx} (k : COk C) {a : Addr} (ha : C.lo ≤ a) {b : Addr} {o : Obj} (e : C.G.h₀.get? b = some o) : b ≠ a := by
  rintro rfl
  exact absurd (Heap.lt_size e) (Nat.not_lt.mpr (Nat.le_trans k.low ha))

/-- the store of a name -/
theorem st_store {C : Cx} {σ : Sg} {H : AH} {s : Shared} {y : Str} {t : PT} {v : Value} {R : Unit → Shared → Prop} (x : St C σ H s) (d : Den s.heap H t v)
    (hy : stb C y = true) (h : ∀ s', St C (upd σ y t) H s' → Kp C s H s' H → R () s') : wpAny C.M C.A (storeName C.env y v) R no s := by
  obtain ⟨m, hn, hm⟩ := x.ns
  unfold stb at hy
  have hkl : C.env.kindOf y = some .local ∨ (C.env.kindOf y = some .cell ∧ C.fn = true) := by
    revert hy
    cases hq : C.env.kindOf y with
    | none => intro hy; cases hy
    | some k => cases k <;> first | (intro _; exact .inl rfl) | (intro q; exact .inr ⟨rfl, q⟩) | (intro hy; cases hy)
  rcases hkl with hl | ⟨hl, hfn⟩
  · refine wpAny_storeName_local hl hn (fun h' hn' hs' => h _ ?_ ?_) (by rw [x.ok.kind]; rfl)
    · refine ⟨⟨⟨x.ok, fun b o q => ?_, fun a ts q => ?_, ?_⟩, ⟨_, hn', fun z u hz hk => ?_⟩, fun z u hz hk => ?_⟩, x.sok, fun z hz => ?_⟩
      · exact (hs'.2 b (base_ne x.ok x.ok.loc q)).trans (x.base b o q)
      · obtain ⟨vs, h1, h2⟩ := x.muts a ts q
        exact ⟨vs, h1.at fun o w => (hs'.2 a (ns_ne_list hn h1)).trans w, dens_ns hn hs' h2⟩
      · rw [hs'.1]; exact x.lo
      · by_cases e : z = y
        · subst e
          rw [upd_same] at hz; cases hz
          exact ⟨v, by simp, den_ns hn hs' d⟩
        · rw [upd, if_neg e] at hz
          obtain ⟨w, h1, h2⟩ := hm z u hz hk
          exact ⟨w, by simp [e, h1], den_ns hn hs' h2⟩
      · have e : z ≠ y := by rintro rfl; exact hk hl
        rw [upd, if_neg e] at hz
        obtain ⟨h1, c, w, h2, h3, h4⟩ := x.cells z u hz hk
        exact ⟨h1, c, w, h2, h3.sameBut hs' (ns_ne_cell hn h3), den_ns hn hs' h4⟩
      · obtain ⟨c, w, h2, h3⟩ := x.has z hz
        exact ⟨c, w, h2, h3.sameBut hs' (ns_ne_cell hn h3)⟩
    · refine ⟨⟨_, _, rfl⟩, fun b o e f => (hs'.2 b f.loc).trans e, fun b o e => ?_, fun b o e q => q, fun b ts q _ => q⟩
      by_cases q : b = C.env.locals
      · subst q; obtain ⟨o', _, _, h1, _⟩ := hn'; exact ⟨o', h1⟩
      · exact ⟨o, (hs'.2 b q).trans e⟩
  · obtain ⟨c, v₀, hc, hcv⟩ := x.has y hl
    refine wpAny_storeName_cell x.ok.kind hl hc hcv (fun h' hn' hs' => h _ ?_ ?_)
    · refine ⟨⟨⟨x.ok, fun b o q => ?_, fun a ts q => ?_, ?_⟩, ⟨m, ?_, fun z u hz hk => ?_⟩, fun z u hz hk => ?_⟩, x.sok, fun z hz => ?_⟩
      · exact (hs'.2 b (base_ne x.ok (x.sok.cell hfn y c hl hc) q)).trans (x.base b o q)
      · obtain ⟨vs, h1, h2⟩ := x.muts a ts q
        exact ⟨vs, h1.at fun o w => (hs'.2 a (cell_ne_list hcv h1)).trans w, dens_cell hcv hs' h2⟩
      · rw [hs'.1]; exact x.lo
      · exact hn.at' fun o w => (hs'.2 _ (Ne.symm (ns_ne_cell hn hcv))).trans w
      · have e : z ≠ y := by rintro rfl; rw [hl] at hk; cases hk
        rw [upd, if_neg e] at hz
        obtain ⟨w, h1, h2⟩ := hm z u hz hk
        exact ⟨w, h1, den_cell hcv hs' h2⟩
      · by_cases e : z = y
        · subst e
          rw [upd_same] at hz; cases hz
          exact ⟨.inl hl, c, v, hc, hn', den_cell hcv hs' d⟩
        · rw [upd, if_neg e] at hz
          obtain ⟨h1, c', w, h2, h3, h4⟩ := x.cells z u hz hk
          have : c' ≠ c := fun q => e (x.sok.apart hfn z y c (q ▸ h2) hc)
          exact ⟨h1, c', w, h2, h3.sameBut hs' this, den_cell hcv hs' h4⟩
      · by_cases e : z = y
        · subst e; exact ⟨c, _, hc, hn'⟩
        · obtain ⟨c', w, h2, h3⟩ := x.has z hz
          have : c' ≠ c := fun q => e (x.sok.apart hfn z y c (q ▸ h2) hc)
          exact ⟨c', w, h2, h3.sameBut hs' this⟩
    · refine ⟨⟨_, s.toks, rfl⟩, fun b o e f => (hs'.2 b fun q => f.cell hfn y hl (q ▸ hc)).trans e, fun b o e => ?_, fun b o e q => q, fun b ts q _ => q⟩
      by_cases q : b = c
      · subst q; obtain ⟨o', h1, _⟩ := hn'; exact ⟨o', h1⟩
      · exact ⟨o, (hs'.2 b q).trans e⟩

theorem st_store' {C : Cx} {σ : Sg} {H : AH} {s : Shared} {y : Str} {t : PT} {v : Value} {R : Unit → Shared → Prop} (x : St C σ H s) (d : Den s.heap H t v)
    (hy : stb C y = true) (h : ∀ s', St C (upd σ y t) H s' → Kp C s H s' H → (∀ u w, Den s.heap H u w → Den s'.heap H u w) → R () s') : wpAny C.M C.A (storeName C.env y v) R no s :=
  st_store x d hy fun s' x' k' => h s' x' k' fun u w e => den_keep x k' (.inr fun _ q => q) e

/-- a list that is written to is turned -/
theorem st_write {C : Cx} {σ : Sg} {H : AH} {s : Shared} {a : Addr} {ts us : List PT} {ws : Array Value} {h' : Heap} {tk : Nat} (x : St C σ H s) (ha : H a = some ts) (hlo : C.lo ≤ a)
    (hl : h'.PlainList a ws) (hs : Heap.SameBut a s.heap h') (d : Dens s.heap H us ws.toList) : St C σ (hup H a us) { s with heap := h', toks := tk } ∧ Kp C s H { s with heap := h', toks := tk } (hup H a us) := by
  obtain ⟨m, hn, hm⟩ := x.ns
  obtain ⟨vs, hv, _⟩ := x.muts a ts ha
  have up : ∀ t v, Den s.heap H t v → Den h' (hup H a us) t v := fun t v => Den.mono' (fun b o _ e q => by
    have hne : b ≠ a := by rintro rfl; rw [ha] at q; cases q
    exact ⟨(hs.2 b hne).trans e, hup_ne hne q⟩) t v (.inr fun b q => by
      by_cases e : b = a
      · subst e; rw [hup_same]; simp
      · rw [hup_ne e rfl]; exact q)
  have ups : ∀ t v, Dens s.heap H t v → Dens h' (hup H a us) t v := fun t v => Dens.mono' (fun b o _ e q => by
    have hne : b ≠ a := by rintro rfl; rw [ha] at q; cases q
    exact ⟨(hs.2 b hne).trans e, hup_ne hne q⟩) t v (.inr fun b q => by
      by_cases e : b = a
      · subst e; rw [hup_same]; simp
      · rw [hup_ne e rfl]; exact q)
  constructor
  · refine ⟨⟨⟨x.ok, fun b o q => ?_, fun b ts' q => ?_, ?_⟩, ⟨m, ?_, fun z u hz hk => ?_⟩, fun z u hz hk => ?_⟩, x.sok, fun z hz => ?_⟩
    · exact (hs.2 b (base_ne x.ok hlo q)).trans (x.base b o q)
    · by_cases e : b = a
      · subst e
        rw [hup_same] at q; cases q
        exact ⟨ws, hl, ups _ _ d⟩
      · rw [hup, if_neg e] at q
        obtain ⟨vs', h1, h2⟩ := x.muts b ts' q
        exact ⟨vs', h1.at fun o w => (hs.2 b e).trans w, ups _ _ h2⟩
    · show C.lo ≤ h'.objs.size
      rw [hs.1]; exact x.lo
    · exact hn.at' fun o w => (hs.2 _ (Ne.symm (ns_ne_list hn hv))).trans w
    · obtain ⟨w, h1, h2⟩ := hm z u hz hk
      exact ⟨w, h1, up _ _ h2⟩
    · obtain ⟨h1, c', w, h2, h3, h4⟩ := x.cells z u hz hk
      exact ⟨h1, c', w, h2, h3.sameBut hs (Ne.symm (cell_ne_list h3 hv)), up _ _ h4⟩
    · obtain ⟨c', w, h2, h3⟩ := x.has z hz
      exact ⟨c', w, h2, h3.sameBut hs (Ne.symm (cell_ne_list h3 hv))⟩
  · refine ⟨⟨_, tk, rfl⟩, fun b o e f => (hs.2 b fun q => ?_).trans e, fun b o e => ?_, fun b o e q => ?_, fun b ts' q l => ?_⟩
    · rcases f.mt with h | h
      · rw [q, ha] at h; cases h
      · rw [q] at h; exact absurd hlo (Nat.not_le.mpr h)
    · by_cases q : b = a
      · subst q; obtain ⟨_, h1⟩ := hl; exact ⟨_, h1⟩
      · exact ⟨o, (hs.2 b q).trans e⟩
    · exact hup_ne (by rintro rfl; rw [ha] at q; cases q) q
    · exact hup_ne (by rintro rfl; exact absurd hlo (Nat.not_le.mpr l)) q

/-- what statements do -/
def postS (C : Cx) (s : Shared) (H : AH) (R : Fl → Sg → AH → Prop) (fl : Flow) (s' : Shared) : Prop :=
  ∃ f σ' H', St C σ' H' s' ∧ Kp C s H s' H' ∧ FlD s'.heap H' f fl ∧ R f σ' H'
def Exs (C : Cx) (ss : List Stmt) (σ : Sg) (H : AH) (R : Fl → Sg → AH → Prop) : Prop :=
  ∀ s, St C σ H s → wpAny C.M C.A (execs ss C.env) (postS C s H R) no s
def Ex (C : Cx) (st : Stmt) (σ : Sg) (H : AH) (R : Fl → Sg → AH → Prop) : Prop :=
  ∀ s, St C σ H s → wpAny C.M C.A (exec st C.env) (postS C s H R) no s
def Then (C : Cx) (ss : List Stmt) (R : Fl → Sg → AH → Prop) (f : Fl) (σ : Sg) (H : AH) : Prop := match f with
  | .next => Exs C ss σ H R
  | f => R f σ H
def Asg (C : Cx) (e : Expr) (t : PT) (σ : Sg) (H : AH) (R : Sg → AH → Prop) : Prop :=
  ∀ s v, St C σ H s → Den s.heap H t v → wpAny C.M C.A (assign e C.env v) (fun _ s' => ∃ σ' H', St C σ' H' s' ∧ Kp C s H s' H' ∧ R σ' H') no s

theorem postS.trans {C : Cx} {s s₁ : Shared} {H H₁ : AH} {R : Fl → Sg → AH → Prop} {fl : Flow} {s' : Shared} (z : Kp C s H s₁ H₁) (p : postS C s₁ H₁ R fl s') : postS C s H R fl s' := by
  obtain ⟨f, σ', H', h1, h2, h3, h4⟩ := p
  exact ⟨f, σ', H', h1, z.trans h2, h3, h4⟩

section
variable {C : Cx} {σ : Sg} {H : AH} {R : Fl → Sg → AH → Prop}

theorem Exs.mono {ss : List Stmt} {R' : Fl → Sg → AH → Prop} (h : Exs C ss σ H R) (k : ∀ f σ' H', R f σ' H' → R' f σ' H') : Exs C ss σ H R' := fun s x =>
  wpAny_mono (h s x) (fun fl s' ⟨f, σ', H', h1, h2, h3, h4⟩ => ⟨f, σ', H', h1, h2, h3, k _ _ _ h4⟩) fun _ _ f => f
theorem Ex.mono {ss : Stmt} {R' : Fl → Sg → AH → Prop} (h : Ex C ss σ H R) (k : ∀ f σ' H', R f σ' H' → R' f σ' H') : Ex C ss σ H R' := fun s x =>
  wpAny_mono (h s x) (fun fl s' ⟨f, σ', H', h1, h2, h3, h4⟩ => ⟨f, σ', H', h1, h2, h3, k _ _ _ h4⟩) fun _ _ f => f

theorem exs_nil (r : R .next σ H) : Exs C [] σ H R := fun s x => wpAny_execs_nil ⟨.next, σ, H, x, Kp.refl C s H, rfl, r⟩
theorem exs_cons {st : Stmt} {rest : List Stmt} (h : Ex C st σ H (Then C rest R)) : Exs C (st :: rest) σ H R := fun s x => by
  refine wpAny_execs_cons (wpAny_mono (h s x) (fun fl s' q => ?_) fun _ _ f => f)
  obtain ⟨f, σ', H', h1, h2, h3, h4⟩ := q
  cases f with
  | next => simp only [FlD] at h3; subst h3; exact wpAny_mono (h4 s' h1) (fun _ _ q => q.trans h2) fun _ _ f => f
  | brk => simp only [FlD] at h3; subst h3; exact ⟨.brk, σ', H', h1, h2, rfl, h4⟩
  | cont => simp only [FlD] at h3; subst h3; exact ⟨.cont, σ', H', h1, h2, rfl, h4⟩
  | ret t => simp only [FlD] at h3; obtain ⟨v, rfl, hv⟩ := h3; exact ⟨.ret t, σ', H', h1, h2, ⟨v, rfl, hv⟩, h4⟩

theorem ex_return {e : Expr} {pos : Pos} (h : Ev C e σ H fun t H₁ => R (.ret t) σ H₁) : Ex C (.Return (some e) pos) σ H R := fun s x => by
  refine wpAny_Return_some ((h s x.toSv).then fun v a s₁ H₁ e₁ m₁ d₁ q₁ => ?_)
  exact ⟨.ret a, σ, H₁, x.ext e₁ m₁, Kp.of_ext e₁, ⟨v, rfl, d₁⟩, q₁⟩

theorem ex_if {test : Expr} {body orelse : List Stmt} {pos : Pos} (h : Ts C test σ H fun t H₁ => if t = true then Exs C body σ H₁ R else Exs C orelse σ H₁ R) : Ex C (.If test body orelse pos) σ H R := fun s x => by
  refine wpAny_If ((h s x.toSv).then fun v s₁ H₁ e₁ m₁ q₁ => ?_)
  have x₁ := x.ext e₁ m₁
  cases v with
  | true => exact wpAny_mono (q₁ s₁ x₁) (fun _ _ q => q.trans (Kp.of_ext e₁)) fun _ _ f => f
  | false => exact wpAny_mono (q₁ s₁ x₁) (fun _ _ q => q.trans (Kp.of_ext e₁)) fun _ _ f => f

theorem asg_name {y : Str} {pos : Pos} {t : PT} {R : Sg → AH → Prop} (r : R (upd σ y t) H) (hy : stb C y = true := by rfl) : Asg C (.Name y pos) t σ H R := fun s v x d =>
  wpAny_assign_Name (st_store x d hy fun s' x' z' => ⟨_, H, x', z', r⟩)

theorem ex_assign {target e : Expr} {pos : Pos} (h : Ev C e σ H fun t H₁ => Asg C target t σ H₁ fun σ' H' => R .next σ' H')
    (hs : swapsWithSole [target] e pos.line C.env = pure false := by rfl) (hw : swappedStores [target] e C.env = pure Option.none := by rfl) (he : (assignEach [target] C.env).map (·.2) = [assign target C.env] := by rfl) : Ex C (.Assign [target] e pos) σ H R := fun s x => by
  refine wpAny_Assign_stores ((h s x.toSv).then fun v a s₁ H₁ e₁ m₁ d₁ q₁ => ?_) hs hw
  rw [he]
  refine wpAny_mono (q₁ s₁ v (x.ext e₁ m₁) d₁) (fun _ s' q => ?_) fun _ _ f => f
  obtain ⟨σ', H', h1, h2, h3⟩ := q
  exact ⟨.next, σ', H', h1, (Kp.of_ext e₁).trans h2, rfl, h3⟩
/-- x = e -/
theorem ex_set {y : Str} {e : Expr} {pos' pos : Pos} (h : Ev C e σ H fun t H₁ => R .next (upd σ y t) H₁) (hy : stb C y = true := by rfl)
    (hs : swapsWith e (some (.Name y pos')) pos.line C.env = pure false := by rfl) : Ex C (.Assign [.Name y pos'] e pos) σ H R := fun s x => by
  refine wpAny_Assign_Name ((h s x.toSv).then fun v a s₁ H₁ e₁ m₁ d₁ q₁ => ?_) hs
  exact st_store (x.ext e₁ m₁) d₁ hy fun s' x' z' => ⟨.next, _, H₁, x', (Kp.of_ext e₁).trans z', rfl, q₁⟩
/-- x = y = e -/
theorem ex_set2 {y z : Str} {e : Expr} {p1 p2 pos : Pos} (h : Ev C e σ H fun t H₁ => R .next (upd (upd σ y t) z t) H₁) (hy : stb C y = true := by rfl) (hz : stb C z = true := by rfl)
    (hw : swappedStores [.Name y p1, .Name z p2] e C.env = pure Option.none := by rfl) : Ex C (.Assign [.Name y p1, .Name z p2] e pos) σ H R := fun s x => by
  refine wpAny_Assign_two ((h s x.toSv).then fun v a s₁ H₁ e₁ m₁ d₁ q₁ => ?_) rfl hw
  have x₁ := x.ext e₁ m₁
  refine wpAny_assign_Name (st_store' x₁ d₁ hy fun s₂ x₂ k₂ d₂ => ?_)
  exact wpAny_assign_Name (st_store x₂ (d₂ _ _ d₁) hz fun s₃ x₃ k₃ => ⟨.next, _, H₁, x₃, ((Kp.of_ext e₁).trans k₂).trans k₃, rfl, q₁⟩)

/-- while, by a measure -/
theorem ex_while {test : Expr} {body : List Stmt} {pos : Pos} (I : Nat → Sg → AH → Prop) (n : Nat) (h0 : I n σ H)
    (turn : ∀ n σ H, I n σ H → Ts C test σ H fun t H₁ => if t = true then Exs C body σ H₁ (fun f σ' H' => match f with
      | .next | .cont => ∃ m, m < n ∧ I m σ' H'
      | .brk => R .next σ' H'
      | .ret t => R (.ret t) σ' H') else R .next σ H₁) : Ex C (.While test body [] pos) σ H R := fun s x => by
  refine wpAny_While ?_
  refine codeAny_whileLoop (fun n s' => ∃ σ' H', I n σ' H' ∧ St C σ' H' s' ∧ Kp C s H s' H') (fun n s' hI => ?_) n ⟨σ, H, h0, x, Kp.refl C s H⟩
  obtain ⟨σ', H', hI, x', z'⟩ := hI
  refine wpAny_mono (turn n σ' H' hI s' x'.toSv) (fun t s₁ q => ?_) fun _ _ f => f.elim
  obtain ⟨H₁, e₁, m₁, q₁⟩ := q
  have x₁ := x'.ext e₁ m₁
  have w₁ := z'.trans (Kp.of_ext e₁)
  cases t with
  | true =>
    simp only [if_true] at q₁ ⊢
    refine wpAny_mono (q₁ s₁ x₁) (fun fl s₂ q => ?_) fun _ _ f => f.elim
    obtain ⟨f, σ₂, H₂, h1, h2, h3, h4⟩ := q
    cases f with
    | next => simp only [FlD] at h3; subst h3; obtain ⟨k, hk, hI'⟩ := h4; exact ⟨k, hk, σ₂, H₂, hI', h1, w₁.trans h2⟩
    | cont => simp only [FlD] at h3; subst h3; obtain ⟨k, hk, hI'⟩ := h4; exact ⟨k, hk, σ₂, H₂, hI', h1, w₁.trans h2⟩
    | brk => simp only [FlD] at h3; subst h3; exact ⟨.next, σ₂, H₂, h1, w₁.trans h2, rfl, h4⟩
    | ret t => simp only [FlD] at h3; obtain ⟨v, rfl, hv⟩ := h3; exact ⟨.ret t, σ₂, H₂, h1, w₁.trans h2, ⟨v, rfl, hv⟩, h4⟩
  | false =>
    simp only [Bool.false_eq_true, if_false] at q₁ ⊢
    exact wpAny_execs_nil ⟨.next, σ', H₁, x₁, w₁, rfl, q₁⟩
end


/-- an iterator's object -/
def ItO (o : Obj) : Prop := ∃ vs n, o.data = .fields vs ∧ o.cls = .type n ∧ n ≠ "range" ∧
  ["enumerate", "zip", "dict_itemiterator", "dict_reverseitemiterator", "odict_iterator", "itertools.zip_longest", "itertools.pairwise"].contains n = false
theorem ItO.pl {o : Obj} (x : ItO o) : ¬ Pl o := by
  obtain ⟨vs, n, h1, h2, h3, _⟩ := x
  rintro (⟨_, _, rfl⟩ | ⟨_, _, rfl⟩ | ⟨_, rfl⟩)
  · cases h1
  · cases h1
  · cases h2; exact h3 rfl

/-- what a value is walked over; fr: nobody writes to it -/
def Itr (C : Cx) (H : AH) (t : PT) (ts : List PT) (fr : Bool) : Prop := ∀ s v, Bs C H s → Den s.heap H t v → wpAny C.M C.A (pyIter v) (fun it s' =>
  ∃ I fp Pr S, it = .ref I ∧ Walks C.G.prog C.G.w C.A I (I :: fp) [I] ts.length Pr S ∧ S 0 s'.heap ∧ Keeps s s' ∧ s.heap.objs.size ≤ I ∧ (∀ i h, S i h → ∃ o, h.get? I = some o ∧ ItO o) ∧
    (∀ b ∈ fp, (∃ o, Pl o ∧ s.heap.get? b = some o) ∧ (fr = true → H b = Option.none ∨ b < C.lo)) ∧ (∀ i v, Pr i v → ∃ t, ts[i]? = some t ∧ Den s.heap H t v)) no s

theorem push_keeps (s : Shared) (o : Obj) : Keeps s { s with heap := s.heap.push o } := ⟨_, s.toks, rfl, fun b o' e => Heap.get?_push_of_some _ e⟩
theorem get_size_none (h : Heap) : h.get? h.objs.size = Option.none := by
  cases q : h.get? h.objs.size with
  | none => rfl
  | some o => exact absurd (Heap.lt_size q) (Nat.lt_irrefl _)

theorem nm_get {ts : List PT} (h : NMs ts = true) {i : Nat} {t : PT} (e : ts[i]? = some t) : NM t = true := by
  induction ts generalizing i with
  | nil => simp at e
  | cons a r ih =>
    simp only [NMs, Bool.and_eq_true] at h
    cases i with
    | zero => simp at e; subst e; exact h.1
    | succ j => exact ih h.2 (by simpa using e)

section
variable {C : Cx} {σ : Sg} {H : AH}

theorem itr_list_at {s : Shared} {H : AH} {a : Addr} {vs : Array Value} {ts : List PT} {fr : Bool} (x : Bs C H s) (hl : s.heap.PlainList a vs) (hd : Dens s.heap H ts vs.toList) (hf : fr = true → H a = Option.none ∨ a < C.lo) :
    wpAny C.M C.A (pyIter (.ref a)) (fun it s' =>
  ∃ I fp Pr S, it = .ref I ∧ Walks C.G.prog C.G.w C.A I (I :: fp) [I] ts.length Pr S ∧ S 0 s'.heap ∧ Keeps s s' ∧ s.heap.objs.size ≤ I ∧ (∀ i h, S i h → ∃ o, h.get? I = some o ∧ ItO o) ∧
    (∀ b ∈ fp, (∃ o, Pl o ∧ s.heap.get? b = some o) ∧ (fr = true → H b = Option.none ∨ b < C.lo)) ∧ (∀ i v, Pr i v → ∃ t, ts[i]? = some t ∧ Den s.heap H t v)) no s := by
  have hne : a ≠ s.heap.objs.size := by obtain ⟨_, e⟩ := hl; exact Nat.ne_of_lt (Heap.lt_size e)
  have hlen : vs.size = ts.length := by have := hd.length; simpa using this
  refine wpAny_pyIter_list hl.isList ⟨s.heap.objs.size, [a], _, _, rfl, hlen ▸ Walks.list x.ok.hh _ a hne vs, ⟨⟨_, Heap.get?_push_size _ rfl, rfl, rfl⟩, hl.isList.at fun o e => Heap.get?_push_of_some _ e⟩, push_keeps _ _, Nat.le_refl _, ?_, ?_, ?_⟩
  · rintro i h ⟨⟨o, h1, h2, h3⟩, _⟩
    exact ⟨o, h1, _, _, h3, h2, by decide, by decide +kernel⟩
  · intro b hb
    rw [List.mem_singleton] at hb; subst hb
    exact ⟨let ⟨o, p, e⟩ := pl_list hl; ⟨o, p, e⟩, hf⟩
  · intro i v hv
    obtain ⟨t, h1, h2⟩ := hd.get' (i := i) (v := v) (by simpa using hv)
    exact ⟨t, h1, h2⟩

theorem itr_lst {ts : List PT} {fr : Bool} : Itr C H (.lst ts) ts fr := fun s v x d => by
  obtain ⟨a, vs, rfl, h1, h2, h3⟩ := of_lst d
  exact itr_list_at x h2 h3 fun _ => .inl h1
theorem itr_mut {a : Addr} {ts : List PT} {fr : Bool} (h : H a = some ts) (hf : fr = true → a < C.lo) : Itr C H (.mut a) ts fr := fun s v x d => by
  obtain ⟨rfl, _⟩ := of_mut d
  obtain ⟨vs, h2, h3⟩ := x.muts a ts h
  exact itr_list_at x h2 h3 fun q => .inr (hf q)
/-- the ints of a range -/
def rngL (a c : Int) (n : Nat) : List PT := (List.range n).map fun (i : Nat) => .int (a + (i : Int) * c)
theorem rngL_get {a c : Int} {n i : Nat} (h : i < n) : (rngL a c n)[i]? = some (.int (a + i * c)) := by
  simp [rngL, h]
theorem rngL_length {a c : Int} {n : Nat} : (rngL a c n).length = n := by simp [rngL]

theorem itr_rng {a b c : Int} {n : Nat} {fr : Bool} (hs : Builtin.Range.small a b c = true) (hn : Builtin.Range.rangeSize a b c = (n : Int)) : Itr C H (.rng a b c) (rngL a c n) fr := fun s v x d => by
  obtain ⟨r, t, u, w, rfl, h1, h2⟩ := of_rng d
  rw [rngL_length]
  refine wpAny_pyIter_range h2 hs ⟨s.heap.objs.size, [], _, _, rfl, (Walks.range x.ok.hh _ a c n).bound, ?_, push_keeps _ _, Nat.le_refl _, ?_, ?_, ?_⟩
  · show IsRangeIter _ _ (a + ((0 : Nat) : Int) * c) ((n : Int) - ((0 : Nat) : Int)) c
    have e1 : a + ((0 : Nat) : Int) * c = a := by simp
    have e2 : (n : Int) - ((0 : Nat) : Int) = n := by simp
    rw [e1, e2, ← hn]
    exact Heap.get?_push_size _ rfl
  · rintro i h h1
    exact ⟨_, h1, _, _, rfl, rfl, by decide, by decide +kernel⟩
  · intro b hb; cases hb
  · rintro i v ⟨hi, t, rfl⟩
    exact ⟨_, rngL_get hi, den_int⟩
variable {R : Fl → Sg → AH → Prop}

/-- the walk's own object is turned: nothing that is read is -/
theorem St.turn {s : Shared} {I : Addr} {h' : Heap} {tk : Nat} (x : St C σ H s) (hI : ∃ o, s.heap.get? I = some o ∧ ItO o) (hb : C.G.h₀.get? I = Option.none)
    (hk : ∀ b o, b ∉ [I] → s.heap.get? b = some o → h'.get? b = some o) : St C σ H { s with heap := h', toks := tk } ∧ ∀ t v, Den s.heap H t v → Den h' H t v := by
  obtain ⟨oI, hoI, hit⟩ := hI
  have ne : ∀ b o, s.heap.get? b = some o → Pl o → b ∉ [I] := fun b o e p q => by
    rw [List.mem_singleton] at q; subst q
    rw [e] at hoI; cases hoI; exact hit.pl p
  have up : ∀ t v, Den s.heap H t v → Den h' H t v := fun t v => Den.mono' (fun b o p e q => ⟨hk b o (ne b o e p) e, q⟩) t v (.inr fun _ q => q)
  have ups : ∀ t v, Dens s.heap H t v → Dens h' H t v := fun t v => Dens.mono' (fun b o p e q => ⟨hk b o (ne b o e p) e, q⟩) t v (.inr fun _ q => q)
  obtain ⟨m, hn, hm⟩ := x.ns
  obtain ⟨oL, es, ep, hoL, hdL, hr⟩ := hn
  have neL : C.env.locals ∉ [I] := fun q => by
    rw [List.mem_singleton] at q
    obtain ⟨vs, n, h1, _⟩ := hit
    rw [q, hoI] at hoL; cases hoL; rw [h1] at hdL; cases hdL
  have neC : ∀ c v, s.heap.IsCell c v → c ∉ [I] := fun c v hc q => by
    rw [List.mem_singleton] at q
    obtain ⟨vs, n, h1, _⟩ := hit
    obtain ⟨o, h2, h3⟩ := hc
    rw [q, hoI] at h2; cases h2; rw [h1] at h3; cases h3
  refine ⟨⟨⟨⟨x.ok, fun b o q => hk b o (fun e => by rw [List.mem_singleton] at e; subst e; rw [hb] at q; cases q) (x.base b o q), fun a ts q => ?_, ?_⟩,
    ⟨m, ⟨oL, es, ep, hk _ _ neL hoL, hdL, hr⟩, fun y t hy hl => let ⟨v, h1, h2⟩ := hm y t hy hl; ⟨v, h1, up _ _ h2⟩⟩, fun y t hy hl => ?_⟩, x.sok, fun y hy => ?_⟩, up⟩
  · obtain ⟨vs, h1, h2⟩ := x.muts a ts q
    obtain ⟨o, p, e⟩ := pl_list h1
    exact ⟨vs, h1.at fun o' e' => hk a o' (ne a o e p) e', ups _ _ h2⟩
  · exact Nat.le_of_lt (Nat.lt_of_le_of_lt x.ok.loc (Heap.lt_size (hk _ _ neL hoL)))
  · obtain ⟨h1, c, v, h2, h3, h4⟩ := x.cells y t hy hl
    obtain ⟨o, h5, h6⟩ := id h3
    exact ⟨h1, c, v, h2, ⟨o, hk c o (neC c _ h3) h5, h6⟩, up _ _ h4⟩
  · obtain ⟨c, v, h2, h3⟩ := x.has y hy
    obtain ⟨o, h5, h6⟩ := id h3
    exact ⟨c, v, h2, ⟨o, hk c o (neC c _ h3) h5, h6⟩⟩

theorem owned_go {M : Model} {A : Around} {E : Value → Shared → Prop} {s : Shared} {target : Expr} {I : Addr} {v : Value} {Q : Unit → Shared → Prop} (hI : ∃ o, s.heap.get? I = some o ∧ ItO o) (q : Q () s) :
    wpAny M A (letOwnedTupleGo target (.ref I) v) Q E s := by
  obtain ⟨o, ho, vs, n, h1, h2, h3, h4⟩ := hI
  have go : wpAny M A (do
      let (.ref r, .ref a) := (Value.ref I, v) | return
      let o ← load r
      match o.cls, o.data with
      | .type n, .fields vs =>
        if ["enumerate", "zip", "dict_itemiterator", "dict_reverseitemiterator", "odict_iterator", "itertools.zip_longest", "itertools.pairwise"].contains n && vs[0]? == some (rawInt a) then
          rule "for.unpacks-the-owned-tuple"
          updateField r 0 .none
      | _, _ => pure () : Sem Unit) Q E s := by
    cases v <;> first | exact wpAny_pure q | skip
    refine wpAny_bind (wpAny_load ho ?_)
    rw [h1, h2]
    show wpAny M A (if (_ && _) = true then _ else _) Q E s
    rw [h4, Bool.false_and, if_neg Bool.false_ne_true]
    exact wpAny_pure q
  unfold letOwnedTupleGo
  cases target <;> first | exact wpAny_pure q | exact go

/-- for x in ..: by what holds of the turn's number -/
theorem ex_for {target iter : Expr} {body : List Stmt} {pos : Pos}
    (h : Ev C iter σ H fun t H₁ => ∃ (ts : List PT) (I : Nat → Sg → AH → Prop), Itr C H₁ t ts true ∧ NMs ts = true ∧ I 0 σ H₁ ∧
      (∀ k u σ H, ts[k]? = some u → I k σ H → Asg C target u σ H fun σ' H' => Exs C body σ' H' fun f σ'' H'' => match f with
        | .next | .cont => I (k + 1) σ'' H''
        | .brk => R .next σ'' H''
        | .ret t => R (.ret t) σ'' H'') ∧
      (∀ σ H, I ts.length σ H → R .next σ H))
    (hs : ∀ x, foldedSetIterable iter C.env x = pure x := by intro _; rfl) : Ex C (.For target iter body [] pos) σ H R := fun s x => by
  refine wpAny_For ((h s x.toSv).then fun v t s₁ H₁ e₁ m₁ d₁ q₁ => ?_) hs
  obtain ⟨ts, I, hi, hnm, h0, turn, fin⟩ := q₁
  have x₁ := x.ext e₁ m₁
  refine wpAny_mono (hi s₁ v x₁.toBs d₁) (fun it s₂ q₂ => ?_) fun _ _ f => f.elim
  obtain ⟨J, fp, Pr, S, rfl, W, hS, hk, hJs, hob, hfp, hit⟩ := q₂
  have hJ : s₁.heap.get? J = Option.none := by
    cases q : s₁.heap.get? J with
    | none => rfl
    | some o => exact absurd (Heap.lt_size q) (Nat.not_lt.mpr hJs)
  have hb : C.G.h₀.get? J = Option.none := by
    cases q : C.G.h₀.get? J with
    | none => rfl
    | some o => rw [x₁.base J o q] at hJ; cases hJ
  have k₂ : Kp C s₁ H₁ s₂ H₁ := Kp.of_ext (Ext.of_keeps H₁ hk)
  have x₂ : St C σ H₁ s₂ := x₁.ext (Ext.of_keeps H₁ hk) ((Ext.of_keeps H₁ hk).muts m₁)
  refine codeAny_forLoop_any (fun k s' => ∃ i σ' H', i ≤ ts.length ∧ k = ts.length + 1 - i ∧ I i σ' H' ∧ St C σ' H' s' ∧ S i s'.heap ∧ Kp C s₁ H₁ s' H') (fun k s' hI => ?_) (ts.length + 1)
    ⟨0, σ, H₁, Nat.zero_le _, rfl, h0, x₂, hS, k₂⟩
  obtain ⟨i, σ', H', hle, rfl, hI, x', hS', k'⟩ := hI
  have hob' := hob i _ hS'
  have step : ∀ h' tk, (∀ b o, b ∉ [J] → s'.heap.get? b = some o → h'.get? b = some o) → St C σ' H' { s' with heap := h', toks := tk } ∧ Kp C s₁ H₁ { s' with heap := h', toks := tk } H' := fun h' tk hk' => by
    refine ⟨(x'.turn hob' hb hk').1, ?_, fun b o e f => ?_, fun b o e => ?_, k'.frz, k'.frn⟩
    · obtain ⟨h2, t2, rfl⟩ := k'.same
      exact ⟨h', tk, rfl⟩
    · exact hk' b o (fun q => by rw [List.mem_singleton] at q; subst q; rw [hJ] at e; cases e) (k'.keep b o e f)
    · obtain ⟨o', e'⟩ := k'.alive b o e
      exact ⟨o', hk' b o' (fun q => by rw [List.mem_singleton] at q; subst q; rw [hJ] at e; cases e) e'⟩
  by_cases hlt : i < ts.length
  · refine W.item i _ _ _ hlt hS' fun w h' tk hP hS'' hk' => ?_
    obtain ⟨xa, ka⟩ := step h' tk hk'
    obtain ⟨u, hu, hd⟩ := hit i w hP
    have nmu : NM u = true := nm_get hnm hu
    have hda : Den h' H' u w := den_keep x₁ ka (.inl nmu) hd
    have hoba : ∃ o, h'.get? J = some o ∧ ItO o := hob (i + 1) _ hS''
    refine owned_go hoba ?_
    refine wpAny_mono (turn i u σ' H' hu hI { s' with heap := h', toks := tk } w xa hda) (fun _ sc qc => ?_) fun _ _ f => f.elim
    obtain ⟨σc, Hc, xc, kc, qc⟩ := qc
    refine wpAny_mono (qc sc xc) (fun fl sd qd => ?_) fun _ _ f => f.elim
    obtain ⟨f, σd, Hd, xd, kd, fd, rd⟩ := qd
    have kad := kc.trans kd
    have hSd : S (i + 1) sd.heap := by
      refine W.frame _ _ _ hS'' fun b hb' o e => kad.keep b o e ?_
      rcases List.mem_cons.mp hb' with rfl | hb'
      · obtain ⟨oJ, hoJ, hitJ⟩ := hoba
        refine ⟨fun q => ?_, fun _ y hy hc => ?_, .inl ?_⟩
        · obtain ⟨_, ⟨o', es, ep, ho', hd', _⟩, _⟩ := xa.ns
          obtain ⟨vs, n, h1, _⟩ := hitJ
          rw [← q] at ho'
          have : (oJ : Obj) = o' := Option.some.inj (hoJ.symm.trans ho')
          rw [← this, h1] at hd'; cases hd'
        · obtain ⟨c, v, h1, h2⟩ := xa.has y hy
          rw [h1] at hc; cases hc
          obtain ⟨o', ho', hd'⟩ := h2
          obtain ⟨vs, n, h1', _⟩ := hitJ
          have : (oJ : Obj) = o' := Option.some.inj (hoJ.symm.trans ho')
          rw [← this, h1'] at hd'; cases hd'
        · cases q : H' b with
          | none => rfl
          | some us =>
            obtain ⟨vs, h1, _⟩ := xa.muts b us q
            obtain ⟨o', p', e'⟩ := pl_list h1
            have : (oJ : Obj) = o' := Option.some.inj (hoJ.symm.trans e')
            exact absurd (this ▸ p') hitJ.pl
      · obtain ⟨⟨o', p', e'⟩, hfr⟩ := hfp b hb'
        have f₁ : Fz C H₁ b := by
          obtain ⟨m, hn, _⟩ := x₁.ns
          refine ⟨ns_ne hn p' e', fun _ y hy hc => ?_, hfr rfl⟩
          obtain ⟨c, v, h1, h2⟩ := x₁.has y hy
          rw [h1] at hc; cases hc
          exact cell_ne h2 p' e' rfl
        exact f₁.step ka e'
    have kall := (Kp.of_ext e₁).trans (ka.trans kad)
    cases f with
    | next => simp only [FlD] at fd; subst fd; exact ⟨ts.length + 1 - (i + 1), by omega, i + 1, σd, Hd, hlt, rfl, rd, xd, hSd, ka.trans kad⟩
    | cont => simp only [FlD] at fd; subst fd; exact ⟨ts.length + 1 - (i + 1), by omega, i + 1, σd, Hd, hlt, rfl, rd, xd, hSd, ka.trans kad⟩
    | brk => simp only [FlD] at fd; subst fd; exact ⟨.next, σd, Hd, xd, kall, rfl, rd⟩
    | ret t => simp only [FlD] at fd; obtain ⟨v, rfl, hv⟩ := fd; exact ⟨.ret t, σd, Hd, xd, kall, ⟨v, rfl, hv⟩, rd⟩
  · have hin : i = ts.length := by omega
    subst hin
    refine W.done _ _ _ hS' fun h' tk hk' => ?_
    obtain ⟨xa, ka⟩ := step h' tk hk'
    exact wpAny_execs_nil ⟨.next, σ', H', xa, (Kp.of_ext e₁).trans ka, rfl, fin σ' H' hI⟩
end


/-- the names of a frame at its start -/
def upds : List Str → List PT → Sg → Sg
  | x :: xs, t :: ts, σ => upds xs ts (upd σ x t)
  | _, _, σ => σ
def σ0 : Sg := fun _ => Option.none

/-- the context of a def's body -/
def mkC (G : Gx) (A : Around) (name : Str) (scope : Scope) (f : Addr) (cd : Value) (L d : Nat) : Cx :=
  ⟨G, A, envOfC name scope L f cd, L, d, true⟩

mutual
/-- the lists that a call has made for itself are read off at its end -/
inductive Res (H' H : AH) : PT → PT → Prop where
  | nm {t : PT} : NM t = true → Res H' H t t
  | frn {a : Addr} : H a ≠ Option.none → Res H' H (.mut a) (.mut a)
  | tup {ts us : List PT} : Ress H' H ts us → Res H' H (.tup ts) (.tup us)
  | lst {ts us : List PT} : Ress H' H ts us → Res H' H (.lst ts) (.lst us)
  | mut {a : Addr} {ts us : List PT} : H a = Option.none → H' a = some ts → Ress H' H ts us → Res H' H (.mut a) (.lst us)
inductive Ress (H' H : AH) : List PT → List PT → Prop where
  | nil : Ress H' H [] []
  | cons {t u : PT} {ts us : List PT} : Res H' H t u → Ress H' H ts us → Ress H' H (t :: ts) (u :: us)
end

theorem Ress.nms {H' H : AH} : ∀ {ts : List PT}, NMs ts = true → Ress H' H ts ts
  | [], _ => .nil
  | t :: ts, h => by simp only [NMs, Bool.and_eq_true] at h; exact .cons (.nm h.1) (Ress.nms h.2)

mutual
theorem Res.den {h : Heap} {H' H : AH} (m : Muts h H') (hf : ∀ a, H' a = Option.none → H a = Option.none) :
    ∀ {t u : PT} {v : Value}, Res H' H t u → Den h H' t v → Den h H u v
  | _, _, v, .nm q, d => Den.mono' (fun a o _ e z => ⟨e, hf a z⟩) _ v (.inl q) d
  | _, _, _, .frn q, d => by
    obtain ⟨rfl, _⟩ := of_mut d
    simp only [Den]; exact ⟨trivial, q⟩
  | _, _, _, .tup q, d => by
    obtain ⟨a, vs, rfl, h1, h2, h3⟩ := of_tup d
    simp only [Den]; exact ⟨a, vs, rfl, hf a h1, h2, Ress.dens m hf q h3⟩
  | _, _, _, .lst q, d => by
    obtain ⟨a, vs, rfl, h1, h2, h3⟩ := of_lst d
    simp only [Den]; exact ⟨a, vs, rfl, hf a h1, h2, Ress.dens m hf q h3⟩
  | _, _, _, .mut (a := a) q1 q2 q3, d => by
    obtain ⟨rfl, _⟩ := of_mut d
    obtain ⟨vs, h1, h2⟩ := m a _ q2
    simp only [Den]; exact ⟨a, vs, rfl, q1, h1, Ress.dens m hf q3 h2⟩
theorem Ress.dens {h : Heap} {H' H : AH} (m : Muts h H') (hf : ∀ a, H' a = Option.none → H a = Option.none) :
    ∀ {t u : List PT} {v : List Value}, Ress H' H t u → Dens h H' t v → Dens h H u v
  | _, _, _, .nil, d => by cases of_nil d; exact dens_nil
  | _, _, _, .cons q1 q2, d => by
    obtain ⟨v, r, rfl, h1, h2⟩ := of_cons d
    exact dens_cons (Res.den m hf q1 h1) (Ress.dens m hf q2 h2)
end

/-- a def, by what it gives back -/
def Fn (G : Gx) (d : Nat) (f : Addr) (ts : List PT) (H : AH) (Q : PT → Prop) : Prop :=
  (∃ o fd, G.h₀.get? f = some o ∧ o.data = .func fd) ∧
  ∀ (A : Around) (s : Shared) (vs : List Value), GOk G → A.handled = Option.none → A.depth + d ≤ 900 → A.units + 10 * d ≤ 9000 → G.h₀.objs.size ≤ s.heap.objs.size → (∀ b o, G.h₀.get? b = some o → s.heap.get? b = some o) →
    Muts s.heap H → Dens s.heap H ts vs →
    codeAny (model G.prog G.w) A (.call (.ref f) ⟨vs, []⟩) (fun r s' => ∃ v u, r = .ok (.ret v) ∧ Keeps s s' ∧ Den s'.heap H u v ∧ Q u) s

theorem Fn.mono {G : Gx} {d : Nat} {f : Addr} {ts : List PT} {H : AH} {Q Q' : PT → Prop} (h : Fn G d f ts H Q) (k : ∀ u, Q u → Q' u) : Fn G d f ts H Q' :=
  ⟨h.1, fun A s vs a b c e e' f' m q => codeAny_mono (h.2 A s vs a b c e e' f' m q) fun r s' ⟨v, u, h1, h2, h3, h4⟩ => ⟨v, u, h1, h2, h3, k u h4⟩⟩

theorem upds_bind {h : Heap} {H : AH} (k : Str → Option NameKind) : ∀ (xs : List Str) (ts : List PT) (vs : List Value) (σ : Sg) (m cm : Str → Option Value), Dens h H ts vs →
    (∀ x t, σ x = some t → (k x = some .local → ∃ v, m x = some v ∧ Den h H t v) ∧ (k x ≠ some .local → ∃ v, cm x = some v ∧ Den h H t v)) →
    ∀ x t, upds xs ts σ x = some t → (k x = some .local → ∃ v, bindL k (xs.zip vs) m x = some v ∧ Den h H t v) ∧ (k x ≠ some .local → ∃ v, bindC k (xs.zip vs) cm x = some v ∧ Den h H t v)
  | [], ts, vs, σ, m, cm, d, hσ => by intro x t e; simpa [upds, bindL, bindC] using hσ x t (by simpa [upds] using e)
  | y :: xs, [], vs, σ, m, cm, d, hσ => by
    cases of_nil d
    intro x t e; simpa [upds, bindL, bindC] using hσ x t (by simpa [upds] using e)
  | y :: xs, u :: ts, vs, σ, m, cm, d, hσ => by
    obtain ⟨w, r, rfl, h1, h2⟩ := of_cons d
    intro x t e
    refine upds_bind k xs ts r (upd σ y u) (if k y = some .local then fun z => if z = y then some w else m z else m) (if k y = some .local then cm else fun z => if z = y then some w else cm z) h2 (fun x t e => ?_) x t e
    by_cases q : x = y
    · subst q
      rw [upd_same] at e; cases e
      refine ⟨fun hl => ⟨w, ?_, h1⟩, fun hl => ⟨w, ?_, h1⟩⟩
      · rw [if_pos hl]; simp
      · rw [if_neg hl]; simp
    · rw [upd, if_neg q] at e
      refine ⟨fun hl => ?_, fun hl => ?_⟩
      · obtain ⟨v, h3, h4⟩ := (hσ x t e).1 hl
        refine ⟨v, ?_, h4⟩
        split
        · simp [q, h3]
        · exact h3
      · obtain ⟨v, h3, h4⟩ := (hσ x t e).2 hl
        refine ⟨v, ?_, h4⟩
        split
        · exact h3
        · simp [q, h3]

/-- kinds of a def's parameters -/
def parOk (scope : Scope) (xs : List Str) : Bool := xs.all fun y => scope.names.lookup y == some .local || scope.names.lookup y == some .cell
theorem upds_dom : ∀ (xs : List Str) (ts : List PT) (σ : Sg) (x : Str) (t : PT), upds xs ts σ x = some t → x ∈ xs ∨ σ x = some t
  | [], _, _, _, _, e => .inr (by simpa [upds] using e)
  | _ :: _, [], _, _, _, e => .inr (by simpa [upds] using e)
  | y :: xs, u :: ts, σ, x, t, e => by
    rcases upds_dom xs ts (upd σ y u) x t e with h | h
    · exact .inl (.tail _ h)
    · by_cases q : x = y
      · exact .inl (q ▸ .head _)
      · rw [upd, if_neg q] at h; exact .inr h

theorem fn_of_body {G : Gx} {d : Nat} {f : Addr} {o : Obj} {name : Str} {params : Arguments} {body : List Stmt} {scope : Scope} {pm cd doc : Value} {xs : List Str} {ts : List PT} {H : AH} {Q : PT → Prop}
    (ho : G.h₀.get? f = some o) (hd : o.data = .func (Calls.docDef name params body scope pm cd doc)) (hcd : G.h₀.CodeRec cd name)
    (hbind : ∀ vs, vs.length = ts.length → bindArgs (Calls.docDef name params body scope pm cd doc) ⟨vs, []⟩ = pure (xs.zip vs)) (hpar : parOk scope xs = true) (hlen : ts.length = xs.length)
    (h : ∀ A L, Exs (mkC G A name scope f cd L d) body (upds xs ts σ0) H fun fl σ' H' => ∃ t u, fl = .ret t ∧ Res H' H t u ∧ Q u)
    (hco : scope.isCoroutine = false := by rfl) (hgen : scope.isGenerator = false := by rfl) (hk : scope.kind = .function := by rfl) : Fn G (d + 1) f ts H Q := by
  refine ⟨⟨o, _, ho, hd⟩, fun A s vs g hh hde hu hsz hb hm hv => ?_⟩
  have hkind : ((xs.zip vs).all fun y => scope.names.lookup y.1 == some .local || scope.names.lookup y.1 == some .cell) = true := by
    rw [List.all_eq_true]
    intro y hy
    exact List.all_eq_true.mp hpar y.1 (List.of_mem_zip hy).1
  refine codeAny_call_cells (fd := Calls.docDef name params body scope pm cd doc) (body := body) (binds := xs.zip vs) (by show A.depth < 1000; omega) (hb _ _ ho) hd (g.nolimit.keeps hb) (hcd.keeps hb) rfl
    (hbind vs hv.length) rfl (kindsX hkind _) (fun s₁ x => ?_) hco hgen hk
  have hce : callEnvC (Calls.docDef name params body scope pm cd doc) s.heap.objs.size f = envOfC name scope s.heap.objs.size f cd := rfl
  rw [hce] at x ⊢
  have kp : Keeps s s₁ := by
    obtain ⟨h', tk, e⟩ := x.toInCall.same
    exact ⟨h', tk, e, fun b o q => by have := x.toInCall.keep b o q; rw [e] at this; exact this⟩
  have ex : Ext s H s₁ H := Ext.of_keeps H kp
  have hcells : ∀ y, (envOfC name scope s.heap.objs.size f cd).kindOf y = some .cell → ∃ c, (envOfC name scope s.heap.objs.size f cd).cells.lookup y = some c := fun y hy =>
    Option.isSome_iff_exists.mp (cellsFrom_some scope.names _ [] (.inl hy))
  have st : St (mkC G (A.deeper (envOfC name scope s.heap.objs.size f cd)) name scope f cd s.heap.objs.size d) (upds xs ts σ0) H s₁ := by
    have key := upds_bind (envOfC name scope s.heap.objs.size f cd).kindOf xs ts vs σ0 (fun _ => Option.none) (fun _ => Option.none) (ex.dens hv) (fun x t e => by cases e)
    refine ⟨⟨⟨⟨g, hh, ?_, ?_, hk, rfl, rfl, hsz, Nat.le_refl _⟩, fun b o q => Keeps.get kp (hb b o q), ex.muts hm, ?_⟩, ⟨_, x.toInCall.ns, fun y t e hl => (key y t e).1 hl⟩, fun y t e hl => ?_⟩, ⟨fun _ y c _ hc => ?_, fun _ y z c h1 h2 => ?_⟩, fun y hy => ?_⟩
    · show A.depth + 1 + d ≤ 900; omega
    · show A.units + 3 + 10 * d ≤ 9000; omega
    · obtain ⟨o', _, _, ho', _⟩ := x.toInCall.ns
      exact Nat.le_of_lt (Heap.lt_size ho')
    · obtain ⟨v, h1, h2⟩ := (key y t e).2 hl
      have hy : y ∈ xs := (upds_dom xs ts σ0 y t e).resolve_right (by intro q; cases q)
      have hkk : (envOfC name scope s.heap.objs.size f cd).kindOf y = some .cell := by
        have q := List.all_eq_true.mp hpar y hy
        rcases Bool.or_eq_true_iff.mp q with q | q
        · exact absurd (show scope.names.lookup y = some .local by simpa using q) hl
        · show scope.names.lookup y = some .cell
          simpa using q
      obtain ⟨c, hc⟩ := hcells y hkk
      refine ⟨.inl hkk, c, v, hc, ?_, h2⟩
      have := x.cell y c hc
      rw [h1] at this
      exact this
    · exact Nat.le_of_lt (x.above y c (mem_of_lookup hc))
    · exact name_of_addr x.apart (mem_of_lookup h1) (mem_of_lookup h2)
    · obtain ⟨c, hc⟩ := hcells y hy
      exact ⟨c, _, hc, x.cell y c hc⟩
  refine wpAny_mono (h (A.deeper (envOfC name scope s.heap.objs.size f cd)) s.heap.objs.size s₁ st) (fun fl s' p => ?_) fun _ _ f => f.elim
  obtain ⟨fl', σ', H', st', kp', fd, t, u, rfl, hr, q⟩ := p
  obtain ⟨v, rfl, hd⟩ := fd
  have mlt : ∀ a ts, H a = some ts → a < s.heap.objs.size := fun a ts e => by
    obtain ⟨vs', ⟨_, h1⟩, _⟩ := hm a ts e
    exact Heap.lt_size h1
  refine ⟨v, u, rfl, ?_, hr.den st'.muts (fun a ha => ?_) hd, q⟩
  · have all : ∀ b o, s.heap.get? b = some o → s'.heap.get? b = some o := fun b o q => by
      have hlt := Heap.lt_size q
      refine kp'.keep b o (Keeps.get kp q) ⟨Nat.ne_of_lt hlt, fun _ y hy hc => ?_, .inr hlt⟩
      exact absurd (x.above y b (mem_of_lookup hc)) (Nat.not_lt.mpr (Nat.le_of_lt hlt))
    obtain ⟨h1, t1, rfl, _⟩ := kp
    obtain ⟨h', tk, rfl⟩ := kp'.same
    exact ⟨h', tk, rfl, all⟩
  · cases z : H a with
    | none => rfl
    | some ts => rw [kp'.frn a ts z (mlt a ts z)] at ha; cases ha

section
variable {C : Cx} {σ : Sg} {H : AH} {Q : PT → AH → Prop}
theorem cal_fn {f : Addr} {ts : List PT} (d : Nat) (h : Fn C.G d f ts H fun u => Q u H) (hd : d ≤ C.d) : Cal C (.oth (.ref f)) ts H Q := fun s v vs x hv hvs => by
  cases of_oth hv
  obtain ⟨⟨o, fd, ho, hdat⟩, k⟩ := h
  have := x.ok.depth
  have := x.ok.units
  refine ⟨⟨.frame, .inl rfl, ?_⟩, ?_⟩
  · have ho' := x.base f o ho
    refine (Looks.ld (part := Option.none) ho').andThen ?_
    rw [hdat]
    exact .now
  · refine wpAny_call (codeAny_mono (k C.A s vs x.ok.G x.ok.hh (by omega) (by omega) (Nat.le_trans x.ok.low x.lo) x.base x.muts hvs) fun r s' p => ?_)
    obtain ⟨v, u, rfl, h1, h2, h3⟩ := p
    exact ⟨H, u, Ext.of_keeps H h1, (Ext.of_keeps H h1).muts x.muts, h2, h3⟩
end


/-- the cells that a comprehension closes over -/
def clo (names : List (Str × NameKind)) (env : Env) (acc : List (Str × Addr)) : List (Str × Addr) := match names with
  | [] => acc
  | (n, k) :: r => if k == .free then clo r env ((n, (env.cells.lookup n).getD 0) :: acc) else clo r env acc

theorem closure_go {env : Env} : ∀ (names : List (Str × NameKind)) (acc : List (Str × Addr)), (∀ n, (n, NameKind.free) ∈ names → (env.cells.lookup n).isSome = true) →
    (forIn names acc fun (x : Str × NameKind) (r : List (Str × Addr)) => (match x with | (name, kind) => if (kind == NameKind.free) = true then do let a ← cellOf env name; pure (ForInStep.yield ((name, a) :: r)) else pure (ForInStep.yield r) : Sem (ForInStep (List (Str × Addr))))) = pure (clo names env acc)
  | [], acc, _ => rfl
  | (n, k) :: r, acc, h => by
    rw [List.forIn_cons]
    cases hk : (k == NameKind.free) with
    | true =>
      have hk' : k = .free := by simpa using hk
      obtain ⟨c, hc⟩ := Option.isSome_iff_exists.mp (h n (by rw [hk']; exact .head _))
      have e1 : cellOf env n = pure c := by unfold cellOf; rw [hc]
      have ih := closure_go r ((n, c) :: acc) fun m hm => h m (.tail _ hm)
      simp only [hk, if_true, e1, pure_bind]
      rw [show clo ((n, k) :: r) env acc = clo r env ((n, c) :: acc) by simp [clo, hk, hc]]
      exact ih
    | false =>
      have ih := closure_go r acc fun m hm => h m (.tail _ hm)
      simp only [hk, Bool.false_eq_true, if_false, pure_bind]
      rw [show clo ((n, k) :: r) env acc = clo r env acc by simp [clo, hk]]
      exact ih
theorem closure_is {env : Env} {scope : Scope} (h : ∀ n, (n, NameKind.free) ∈ scope.names → (env.cells.lookup n).isSome = true) : closureFor scope env = pure (clo scope.names env []) := by
  have := closure_go scope.names [] h
  unfold closureFor
  exact (congrArg (fun t => t >>= fun cs => pure cs) this)
theorem clo_lookup {env : Env} {x : Str} {c : Addr} (hc : env.cells.lookup x = some c) : ∀ (names : List (Str × NameKind)) (acc : List (Str × Addr)),
    ((x, NameKind.free) ∈ names ∨ acc.lookup x = some c) → (clo names env acc).lookup x = some c
  | [], acc, h => by
    rcases h with h | h
    · cases h
    · exact h
  | (n, k) :: r, acc, h => by
    unfold clo
    by_cases q : x = n
    · subst q
      split
      · exact clo_lookup hc r _ (.inr (by simp [hc]))
      · rename_i hk
        refine clo_lookup hc r _ (h.imp (fun m => ?_) id)
        rcases List.mem_cons.mp m with e | e
        · cases e; exact absurd rfl hk
        · exact e
    · have qb : (x == n) = false := by simpa using q
      have nx : (x, NameKind.free) ∈ (n, k) :: r → (x, NameKind.free) ∈ r := fun m => by
        rcases List.mem_cons.mp m with e | e
        · cases e; exact absurd rfl q
        · exact e
      split
      · exact clo_lookup hc r _ (h.imp nx fun e => by rw [List.lookup_cons, qb]; exact e)
      · exact clo_lookup hc r _ (h.imp nx id)

/-- what a comprehension sees of the names around it -/
def frees (scope : Scope) : List Str := (scope.names.filter fun p => p.2 == .free).map (·.1)
def σc (scope : Scope) (σ : Sg) : Sg := fun x => if x ∈ frees scope then σ x else Option.none
def FvOk (C : Cx) (σ : Sg) : List Str → Prop
  | [] => True
  | x :: xs => (∃ t, σ x = some t) ∧ C.env.kindOf x ≠ some .local ∧ FvOk C σ xs
theorem FvOk.mem {C : Cx} {σ : Sg} : ∀ {xs : List Str}, FvOk C σ xs → ∀ x ∈ xs, (∃ t, σ x = some t) ∧ C.env.kindOf x ≠ some .local
  | _ :: _, h, _, .head _ => ⟨h.1, h.2.1⟩
  | _ :: _, h, x, .tail _ m => FvOk.mem h.2.2 x m
theorem mem_frees {scope : Scope} {n : Str} (h : (n, NameKind.free) ∈ scope.names) : n ∈ frees scope :=
  List.mem_map.mpr ⟨(n, .free), List.mem_filter.mpr ⟨h, rfl⟩, rfl⟩
theorem of_frees {scope : Scope} {n : Str} (h : n ∈ frees scope) : (n, NameKind.free) ∈ scope.names := by
  obtain ⟨⟨m, k⟩, h1, rfl⟩ := List.mem_map.mp h
  obtain ⟨h2, h3⟩ := List.mem_filter.mp h1
  have : k = .free := by simpa using h3
  rw [← this]; exact h2

/-- the context of a comprehension -/
def cmpC (C : Cx) (scope : Scope) (L lo : Nat) : Cx := ⟨C.G, C.A, compEnvC scope (clo scope.names C.env []) L C.env, lo, C.d, false⟩

def Tsts (C : Cx) (ifs : List Expr) (σ : Sg) (H : AH) (Q : Bool → AH → Prop) : Prop := ∀ s, Sv C σ H s →
  wpAny C.M C.A (forIn ifs true fun c r => if r = true then do let ok ← isTrue c C.env (eval c C.env); pure (ForInStep.yield ok) else pure (ForInStep.yield r)) (postB s H Q) no s
theorem tsts_nil {C : Cx} {σ : Sg} {H : AH} {Q : Bool → AH → Prop} (q : Q true H) : Tsts C [] σ H Q := fun s x => by
  rw [List.forIn_nil]
  exact wpAny_pure (postB.same x.muts q)
/-- a new list -/
def postA (lo : Nat) (s : Shared) (H : AH) (Q : List PT → AH → Prop) (v : Value) (s' : Shared) : Prop :=
  ∃ H' a us vs, v = .ref a ∧ lo ≤ a ∧ s.heap.get? a = Option.none ∧ Ext s H s' H' ∧ H' a = Option.none ∧ s'.heap.PlainList a vs ∧ Muts s'.heap H' ∧ Dens s'.heap H' us vs.toList ∧ Muts s'.heap (hup H' a us) ∧ Q us H'
def EvA (C : Cx) (e : Expr) (σ : Sg) (H : AH) (Q : List PT → AH → Prop) : Prop := ∀ s, Sv C σ H s → wpAny C.M C.A (eval e C.env) (postA C.lo s H Q) no s

theorem postA.frz {s : Shared} {H : AH} {Q : PT → AH → Prop} {v : Value} {s' : Shared} {lo : Nat} (p : postA lo s H (fun us H' => Q (.lst us) H') v s') : postW s H Q v s' := by
  obtain ⟨H', a, us, vs, rfl, _, _, e, h1, h2, m, d, _, q⟩ := p
  exact ⟨H', .lst us, e, m, by simp only [Den]; exact ⟨a, vs, rfl, h1, h2, d⟩, q⟩
theorem postA.trk {s : Shared} {H : AH} {Q : PT → AH → Prop} {v : Value} {s' : Shared} {lo : Nat} (p : postA lo s H (fun us H' => ∀ a, H' a = Option.none → lo ≤ a → Q (.mut a) (hup H' a us)) v s') : postW s H Q v s' := by
  obtain ⟨H', a, us, vs, rfl, hlo, gone, e, h1, h2, m, d, m', q⟩ := p
  refine ⟨hup H' a us, .mut a, ⟨e.keeps, fun b ts q' => ?_, fun b q1 q2 => ?_⟩, m', by simp only [Den]; exact ⟨trivial, by rw [hup_same]; simp⟩, q a h1 hlo⟩
  · have : b ≠ a := by rintro rfl; rw [e.old b ts q'] at h1; cases h1
    exact hup_ne this (e.old b ts q')
  · by_cases z : b = a
    · rw [z]; exact gone
    · rw [hup, if_neg z] at q2; exact e.new b q1 q2
theorem ev_frz {C : Cx} {e : Expr} {σ : Sg} {H : AH} {Q : PT → AH → Prop} (h : EvA C e σ H fun us H' => Q (.lst us) H') : Ev C e σ H Q := fun s x =>
  wpAny_mono (h s x) (fun _ _ p => p.frz) fun _ _ f => f
theorem ev_trk {C : Cx} {e : Expr} {σ : Sg} {H : AH} {Q : PT → AH → Prop} (h : EvA C e σ H fun us H' => ∀ a, H' a = Option.none → C.lo ≤ a → Q (.mut a) (hup H' a us)) : Ev C e σ H Q := fun s x =>
  wpAny_mono (h s x) (fun _ _ p => p.trk) fun _ _ f => f

/-- a new list at the heap's end -/
theorem postA.push {s : Shared} {H : AH} {Q : List PT → AH → Prop} {us : List PT} {vs : Array Value} {tk lo : Nat} (hlo : lo ≤ s.heap.objs.size) (m : Muts s.heap H) (d : Dens s.heap H us vs.toList) (q : Q us H) :
    postA lo s H Q (.ref s.heap.objs.size) { s with heap := s.heap.push { cls := .type "list", data := .seq vs }, toks := tk } := by
  have k : Keeps s { s with heap := s.heap.push { cls := .type "list", data := .seq vs }, toks := tk } := ⟨_, tk, rfl, fun b o' e => Heap.get?_push_of_some _ e⟩
  have e := Ext.of_keeps H k
  have hn : H s.heap.objs.size = Option.none := by
    cases z : H s.heap.objs.size with
    | none => rfl
    | some ts =>
      obtain ⟨_, ⟨_, h1⟩, _⟩ := m _ ts z
      exact absurd (Heap.lt_size h1) (Nat.lt_irrefl _)
  have hl : (s.heap.push { cls := .type "list", data := .seq vs }).PlainList s.heap.objs.size vs := ⟨0, Heap.get?_push_size _ rfl⟩
  have up : ∀ t v, Dens s.heap H t v → Dens (s.heap.push { cls := .type "list", data := .seq vs }) (hup H s.heap.objs.size us) t v := fun t v => Dens.mono' (fun b o _ e q => by
    have : b ≠ s.heap.objs.size := Nat.ne_of_lt (Heap.lt_size e)
    exact ⟨Heap.get?_push_of_some _ e, hup_ne this q⟩) t v (.inr fun b q => by
      by_cases z : b = s.heap.objs.size
      · rw [z, hup_same]; simp
      · rw [hup_ne z rfl]; exact q)
  refine ⟨H, s.heap.objs.size, us, vs, rfl, hlo, get_size_none _, e, hn, hl, e.muts m, e.dens d, fun b ts z => ?_, q⟩
  by_cases w : b = s.heap.objs.size
  · subst w
    rw [hup_same] at z; cases z
    exact ⟨vs, hl, up _ _ d⟩
  · rw [hup, if_neg w] at z
    obtain ⟨ws, h1, h2⟩ := m b ts z
    exact ⟨ws, h1.at fun o e => Heap.get?_push_of_some _ e, up _ _ h2⟩

theorem postA.before {lo : Nat} {s s₁ : Shared} {H H₁ : AH} {Q : List PT → AH → Prop} {v : Value} {s' : Shared} (e : Ext s H s₁ H₁) (p : postA lo s₁ H₁ Q v s') : postA lo s H Q v s' := by
  obtain ⟨H', a, us, vs, h0, h1, h2, h3, h4, h5, h6, h7, h8, h9⟩ := p
  refine ⟨H', a, us, vs, h0, h1, ?_, e.trans h3, h4, h5, h6, h7, h8, h9⟩
  cases z : s.heap.get? a with
  | none => rfl
  | some o => rw [Keeps.get e.keeps z] at h2; cases h2

theorem Sv.less {C : Cx} {σ σ' : Sg} {H : AH} {s : Shared} (h : ∀ x t, σ' x = some t → σ x = some t) (x : Sv C σ H s) : Sv C σ' H s :=
  ⟨x.toBs, let ⟨m, h1, h2⟩ := x.ns; ⟨m, h1, fun y t e => h2 y t (h y t e)⟩, fun y t e => x.cells y t (h y t e)⟩
theorem St.less {C : Cx} {σ σ' : Sg} {H : AH} {s : Shared} (h : ∀ x t, σ' x = some t → σ x = some t) (x : St C σ H s) : St C σ' H s := ⟨x.toSv.less h, x.sok, x.has⟩

/-- a turn of a comprehension, whatever its target -/
theorem compLoop_any {prog : Program} {w : World} {A : Around} {R : Result → Shared → Prop} {s : Shared} {elt target iter : Expr} {ifs : List Expr} {scope : Scope} {pos : Pos} {it acc : Value} {env : Env} (I : Nat → Shared → Prop)
    (turn : ∀ n s, I n s → wpAny (model prog w) A (pyNext it) (fun r s₁ => match r with
      | Option.none => R (.ok .next) s₁
      | some v => wpAny (model prog w) A (letOwnedTupleGo target it v) (fun _ s₁' => wpAny (model prog w) A (assign target env v) (fun _ s₂ =>
          wpAny (model prog w) A (forIn ifs true fun c r => if r = true then do let ok ← isTrue c env (eval c env); pure (ForInStep.yield ok) else pure (ForInStep.yield r)) (fun ok s₃ =>
            if ok = true then wpAny (model prog w) A (eval elt env) (fun x s₄ =>
              wpAny (model prog w) A (call (.builtin "list.append") [acc, x]) (fun _ s₅ => ∃ m, m < n ∧ I m s₅) no s₄) no s₃
            else ∃ m, m < n ∧ I m s₃) no s₂) no s₁') no s₁) no s)
    (n : Nat) (h : I n s) : codeAny (model prog w) A (.compLoop (.ListComp elt [⟨target, iter, ifs, 0⟩] scope pos) 0 it acc env) R s := by
  refine codeAny_loop rfl I (fun n s hI => ?_) n h
  show wpAny _ A ((compTurn (.ListComp elt [⟨target, iter, ifs, 0⟩] scope pos) 0 it acc env).onRaise (fun x => do noteFrame x env; theTreesLotGoes x)) _ _ s
  refine wpAny_noted ?_
  rw [compTurn_list]
  have dn : ∀ {α : Type} {E' : Value → Shared → Prop} {t : Sem α} {Q Q' : α → Shared → Prop} {s : Shared}, wpAny (model prog w) A t Q no s → (∀ a s, Q a s → Q' a s) → wpAny (model prog w) A t Q' E' s :=
    fun h k => wpAny_mono h k fun _ _ f => f.elim
  refine wpAny_bind (wpAny_standAt (wpAny_bind (dn (turn n s hI) fun r s₁ h₁ => ?_)))
  cases r with
  | none => exact wpAny_pure h₁
  | some v =>
    refine wpAny_bind (dn h₁ fun _ s₁' h₁' => ?_)
    refine wpAny_bind (dn h₁' fun _ s₂ h₂ => wpAny_bind (dn h₂ fun ok s₃ h₃ => ?_))
    cases ok with
    | false => exact wpAny_pure ⟨rfl, h₃⟩
    | true =>
      refine wpAny_bind (wpAny_bind (dn h₃ fun x s₄ h₄ => wpAny_bind (dn h₄ fun _ s₅ h₅ => ?_)))
      exact wpAny_pure (wpAny_pure ⟨rfl, h₅⟩)


/-- what a comprehension's turn must give: g k is its item, if any -/
def CTurn (C : Cx) (target elt : Expr) (ifs : List Expr) (σ : Sg) (Hf : AH) (u : PT) (r : Option PT) : Prop :=
  Asg C target u σ Hf fun σ' H' => H' = Hf ∧ (∀ x t, σ x = some t → σ' x = some t) ∧
    Tsts C ifs σ' Hf fun b H₃ => H₃ = Hf ∧ if b = true then Ev C elt σ' Hf fun w H₄ => H₄ = Hf ∧ r = some w else r = Option.none

theorem filterMap_succ {α : Type} (g : Nat → Option α) (i : Nat) : (List.range (i + 1)).filterMap g = (List.range i).filterMap g ++ (g i).toList := by
  rw [List.range_succ, List.filterMap_append]
  cases h : g i <;> simp [h]

theorem comp_loop {C : Cx} {scope : Scope} {L : Nat} {σ : Sg} {H : AH} {s₁ s₄ : Shared} {D I : Addr} {fp : List Addr} {Pr : Nat → Value → Prop} {S : Nat → Heap → Prop} {ts : List PT} {g : Nat → Option PT}
    {elt target iter : Expr} {ifs : List Expr} {scope' : Scope} {pos : Pos} {R : Result → Shared → Prop}
    (W : Walks C.G.prog C.G.w C.A I (I :: fp) [I] ts.length Pr S) (hS : S 0 s₄.heap) (hob : ∀ i h, S i h → ∃ o, h.get? I = some o ∧ ItO o) (hfp : ∀ b ∈ fp, ∃ o, s₁.heap.get? b = some o)
    (hit : ∀ i v, Pr i v → ∃ t, ts[i]? = some t ∧ Den s₁.heap H t v) (hn : ts.length ≤ sizeLine)
    (x₄ : St (cmpC C scope L D) (σc scope σ) (hup H D []) s₄) (hsame : ∃ h tk, s₄ = { s₁ with heap := h, toks := tk }) (hk₄ : ∀ b o, s₁.heap.get? b = some o → s₄.heap.get? b = some o)
    (hI1 : s₁.heap.objs.size ≤ I) (hID : I < D) (hDL : D < L) (hb : C.G.h₀.objs.size ≤ s₁.heap.objs.size) (hHD : H D = Option.none)
    (turn : ∀ k u Hf, ts[k]? = some u → (∀ a us, H a = some us → Hf a = some us) → CTurn (cmpC C scope L D) target elt ifs (σc scope σ) Hf u (g k))
    (fin : ∀ s' us, us = (List.range ts.length).filterMap g → St (cmpC C scope L D) (σc scope σ) (hup H D us) s' → (∃ h tk, s' = { s₁ with heap := h, toks := tk }) → (∀ b o, s₁.heap.get? b = some o → s'.heap.get? b = some o) → R (.ok .next) s') :
    codeAny C.M C.A (.compLoop (.ListComp elt [⟨target, iter, ifs, 0⟩] scope' pos) 0 (.ref I) (.ref D) (cmpC C scope L D).env) R s₄ := by
  refine compLoop_any (fun k s' => ∃ i, i ≤ ts.length ∧ k = ts.length + 1 - i ∧ St (cmpC C scope L D) (σc scope σ) (hup H D ((List.range i).filterMap g)) s' ∧ S i s'.heap ∧
    (∃ h tk, s' = { s₁ with heap := h, toks := tk }) ∧ (∀ b o, s₁.heap.get? b = some o → s'.heap.get? b = some o)) (fun k s' hI => ?_) (ts.length + 1)
    ⟨0, Nat.zero_le _, rfl, by simpa using x₄, hS, hsame, hk₄⟩
  obtain ⟨i, hle, rfl, x', hS', hsm', hk'⟩ := hI
  have hob' := hob i _ hS'
  have hbI : (cmpC C scope L D).G.h₀.get? I = Option.none := by
    cases q : C.G.h₀.get? I with
    | none => exact q
    | some o => exact absurd (Heap.lt_size q) (Nat.not_lt.mpr (Nat.le_trans hb hI1))
  by_cases hlt : i < ts.length
  · refine W.item i _ _ _ hlt hS' fun w h' tk hP hS'' hkw => ?_
    obtain ⟨xa, dk⟩ := x'.turn (tk := tk) hob' hbI hkw
    obtain ⟨u, hu, hd⟩ := hit i w hP
    have ka : ∀ b o, s₁.heap.get? b = some o → h'.get? b = some o := fun b o e =>
      hkw b o (fun q => by rw [List.mem_singleton] at q; subst q; exact absurd (Heap.lt_size e) (Nat.not_lt.mpr hI1)) (hk' b o e)
    have hda : Den h' (hup H D ((List.range i).filterMap g)) u w := Den.mono' (fun a o _ e q => ⟨ka a o e, hup_ne (Nat.ne_of_lt (Nat.lt_of_lt_of_le (Heap.lt_size e) (Nat.le_trans hI1 (Nat.le_of_lt hID)))) q⟩) u w (.inr fun a q => by
      by_cases z : a = D
      · subst z; rw [hup_same]; simp
      · rw [hup_ne z rfl]; exact q) hd
    refine owned_go (hob (i + 1) _ hS'') ?_
    have T := turn i u (hup H D ((List.range i).filterMap g)) hu (fun a us e => hup_ne (by rintro rfl; rw [hHD] at e; cases e) e)
    have fzI : ∀ Hx : AH, Fz (cmpC C scope L D) Hx I := fun Hx => ⟨Nat.ne_of_lt (Nat.lt_trans hID hDL), fun q => (nomatch q), .inr hID⟩
    have fz1 : ∀ (Hx : AH) b o, s₁.heap.get? b = some o → Fz (cmpC C scope L D) Hx b := fun Hx b o e =>
      have h1 := Nat.lt_of_lt_of_le (Heap.lt_size e) (Nat.le_trans hI1 (Nat.le_of_lt hID))
      ⟨Nat.ne_of_lt (Nat.lt_trans h1 hDL), fun q => (nomatch q), .inr h1⟩
    have close : ∀ (s₅ : Shared) (H₅ : AH) (σ₅ : Sg) (us : List PT), St (cmpC C scope L D) σ₅ H₅ s₅ → (∀ x t, σc scope σ x = some t → σ₅ x = some t) → H₅ = hup H D ((List.range (i + 1)).filterMap g) →
        Kp (cmpC C scope L D) { s' with heap := h', toks := tk } (hup H D ((List.range i).filterMap g)) s₅ H₅ →
        ∃ m, m < ts.length + 1 - i ∧ ∃ i, i ≤ ts.length ∧ m = ts.length + 1 - i ∧ St (cmpC C scope L D) (σc scope σ) (hup H D ((List.range i).filterMap g)) s₅ ∧ S i s₅.heap ∧
          (∃ h tk, s₅ = { s₁ with heap := h, toks := tk }) ∧ (∀ b o, s₁.heap.get? b = some o → s₅.heap.get? b = some o) := by
      intro s₅ H₅ σ₅ us x₅ hσ e₅ k₅
      subst e₅
      refine ⟨ts.length + 1 - (i + 1), by omega, i + 1, hlt, rfl, x₅.less hσ, ?_, ?_, fun b o e => k₅.keep b o (ka b o e) (fz1 _ b o e)⟩
      · refine W.frame _ _ _ hS'' fun b hb' o e => k₅.keep b o e ?_
        rcases List.mem_cons.mp hb' with rfl | hb'
        · exact fzI _
        · obtain ⟨o', e'⟩ := hfp b hb'
          exact fz1 _ b o' e'
      · obtain ⟨h5, t5, rfl⟩ := k₅.same
        obtain ⟨h6, t6, rfl⟩ := hsm'
        exact ⟨h5, t5, rfl⟩
    refine wpAny_mono (T { s' with heap := h', toks := tk } w xa hda) (fun _ sc qc => ?_) fun _ _ f => f
    obtain ⟨σ₂, H₂, xc, kc, rfl, hσ, qt⟩ := qc
    refine wpAny_mono (qt sc xc.toSv) (fun ok s₃ q₃ => ?_) fun _ _ f => f
    obtain ⟨H₃, e₃, m₃, rfl, q₃⟩ := q₃
    have x₃ := xc.ext e₃ m₃
    have k₃ := kc.trans (Kp.of_ext e₃)
    cases ok with
    | false =>
      simp only [Bool.false_eq_true, if_false] at q₃ ⊢
      refine close s₃ _ σ₂ [] x₃ hσ ?_ k₃
      rw [filterMap_succ, q₃]; simp
    | true =>
      simp only [if_true] at q₃ ⊢
      refine (q₃ s₃ x₃.toSv).then fun y wt s₅ H₅ e₅ m₅ d₅ q₅ => ?_
      obtain ⟨rfl, hg⟩ := q₅
      have x₅ := x₃.ext e₅ m₅
      have k₅ := k₃.trans (Kp.of_ext e₅)
      obtain ⟨vs, hl, hdv⟩ := x₅.muts D _ hup_same
      have hvs : vs.size ≤ sizeLine := by
        have h1 := hdv.length
        have h2 : ((List.range i).filterMap g).length ≤ (List.range i).length := List.length_filterMap_le _ _
        have h3 : (List.range i).length = i := List.length_range
        have h4 : vs.toList.length = vs.size := by simp
        omega
      refine wpAny_list_append_plain (hsz := hvs) hl fun h₆ hl₆ hs₆ => ?_
      have hw := st_write (C := cmpC C scope L D) (us := (List.range i).filterMap g ++ [wt]) (tk := s₅.toks) x₅ hup_same (Nat.le_refl _) hl₆ hs₆ (by
        rw [Array.toList_push]; exact hdv.append (dens_cons d₅ dens_nil))
      have ee : hup (hup H D ((List.range i).filterMap g)) D ((List.range i).filterMap g ++ [wt]) = hup H D ((List.range (i + 1)).filterMap g) := by
        rw [filterMap_succ, hg]
        funext b
        simp only [hup, Option.toList]
        split <;> rfl
      rw [ee] at hw
      exact close _ _ σ₂ [] hw.1 hσ rfl (k₅.trans hw.2)
  · have hin : i = ts.length := by omega
    subst hin
    refine W.done _ _ _ hS' fun h' tk hkw => ?_
    obtain ⟨xa, dk⟩ := x'.turn (tk := tk) hob' hbI hkw
    refine fin _ _ rfl xa ?_ fun b o e => hkw b o (fun q => by rw [List.mem_singleton] at q; subst q; exact absurd (Heap.lt_size e) (Nat.not_lt.mpr hI1)) (hk' b o e)
    obtain ⟨h6, t6, rfl⟩ := hsm'
    exact ⟨h', tk, rfl⟩


theorem relabel_free {env : Env} {x : Str} : ∀ {names : List (Str × NameKind)}, names.lookup x = some .free →
    (names.map fun (n, k) => if (k == NameKind.free && env.scope.kind == .function && env.kindOf n == some .cell) then (n, NameKind.cell) else (n, k)).lookup x = some .cell ∨
    (names.map fun (n, k) => if (k == NameKind.free && env.scope.kind == .function && env.kindOf n == some .cell) then (n, NameKind.cell) else (n, k)).lookup x = some .free
  | [], h => by simp at h
  | (n, k) :: r, h => by
    show List.lookup x ((if (k == NameKind.free && env.scope.kind == .function && env.kindOf n == some .cell) = true then (n, NameKind.cell) else (n, k)) :: _) = _ ∨ List.lookup x ((if (k == NameKind.free && env.scope.kind == .function && env.kindOf n == some .cell) = true then (n, NameKind.cell) else (n, k)) :: _) = _
    cases hx : x == n with
    | true =>
      simp only [List.lookup_cons, hx] at h
      cases h
      by_cases hc : (NameKind.free == NameKind.free && env.scope.kind == .function && env.kindOf n == some .cell) = true
      · rw [if_pos hc]; left; simp only [List.lookup_cons, hx]
      · rw [if_neg hc]; right; simp only [List.lookup_cons, hx]
    | false =>
      simp only [List.lookup_cons, hx] at h
      have ih := @relabel_free env x r h
      by_cases hc : (k == NameKind.free && env.scope.kind == .function && env.kindOf n == some .cell) = true
      · rw [if_pos hc]; simp only [List.lookup_cons, hx]; exact ih
      · rw [if_neg hc]; simp only [List.lookup_cons, hx]; exact ih
theorem relabel_cell {env : Env} {x : Str} : ∀ {names : List (Str × NameKind)}, (∀ p ∈ names, p.2 ≠ .cell) →
    (names.map fun (n, k) => if (k == NameKind.free && env.scope.kind == .function && env.kindOf n == some .cell) then (n, NameKind.cell) else (n, k)).lookup x = some .cell → names.lookup x = some .free
  | [], _, h => by simp at h
  | (n, k) :: r, hc, h => by
    have h' : List.lookup x ((if (k == NameKind.free && env.scope.kind == .function && env.kindOf n == some .cell) = true then (n, NameKind.cell) else (n, k)) :: (r.map fun (n, k) => if (k == NameKind.free && env.scope.kind == .function && env.kindOf n == some .cell) then (n, NameKind.cell) else (n, k))) = some .cell := h
    have ih := @relabel_cell env x r (fun p hp => hc p (.tail _ hp))
    cases hx : x == n with
    | true =>
      by_cases hq : (k == NameKind.free && env.scope.kind == .function && env.kindOf n == some .cell) = true
      · have : k = .free := by simp only [Bool.and_eq_true] at hq; simpa using hq.1.1
        simp only [List.lookup_cons, hx, this]
      · rw [if_neg hq] at h'
        simp only [List.lookup_cons, hx] at h'
        exact absurd (Option.some.inj h') (hc (n, k) (.head _))
    | false =>
      by_cases hq : (k == NameKind.free && env.scope.kind == .function && env.kindOf n == some .cell) = true
      · rw [if_pos hq] at h'; simp only [List.lookup_cons, hx] at h' ⊢; exact ih h'
      · rw [if_neg hq] at h'; simp only [List.lookup_cons, hx] at h' ⊢; exact ih h'

/-- how a comprehension's table of names must look -/
def scOk (scope : Scope) : Bool := (scope.names.all fun p => p.2 != .cell) && ((frees scope).all fun x => scope.names.lookup x == some .free) &&
  scope.names.all fun p => p.2 != .local || scope.names.lookup p.1 == some .local

/-- what is known where a comprehension's list stands -/
structure CEnd (s₁ : Shared) (H : AH) (s' : Shared) (D L : Addr) (us : List PT) : Prop where
  keeps : Keeps s₁ s'
  dsize : s₁.heap.objs.size ≤ D
  lsize : D < L
  none : H D = Option.none
  noneL : H L = Option.none
  list : ∃ vs, s'.heap.PlainList D vs ∧ Dens s'.heap H us vs.toList
  muts : Muts s'.heap (hup H D us)
  ns : ∃ m, s'.heap.Ns L m

theorem nms_of : ∀ {ts : List PT}, (∀ t ∈ ts, NM t = true) → NMs ts = true
  | [], _ => by simp [NMs]
  | t :: ts, h => by simp only [NMs, Bool.and_eq_true]; exact ⟨h t (.head _), nms_of fun u hu => h u (.tail _ hu)⟩

theorem comp_all {C : Cx} {σ : Sg} {H : AH} {s : Shared} {elt target iter : Expr} {ifs : List Expr} {scope : Scope} {pos pos' : Pos} {use : Option (Value → Sem Unit)} {QA : List PT → AH → Prop} {QQ : Value → Shared → Prop} (x : Sv C σ H s)
    (h : Ev C iter σ H fun t H₁ => ∃ (ts : List PT) (g : Nat → Option PT), Itr C H₁ t ts false ∧ ts.length ≤ sizeLine ∧ (∀ k w, g k = some w → NM w = true) ∧
      (∀ L lo k u Hf, ts[k]? = some u → (∀ a us, H₁ a = some us → Hf a = some us) → CTurn (cmpC C scope L lo) target elt ifs (σc scope σ) Hf u (g k)) ∧ QA ((List.range ts.length).filterMap g) H₁)
    (fin : ∀ s₁ H₁ s' D L us, Ext s H s₁ H₁ → Muts s₁.heap H₁ → QA us H₁ → CEnd s₁ H₁ s' D L us → compPost C.M C.A no use QQ (.ref D) L (.ok .next) s')
    (hfv : FvOk C σ (frees scope)) (hsc : scOk scope = true) (hkind : scope.kind = .function) (hs : ∀ x, foldedSetIterable iter C.env x = pure x) :
    wpAny C.M C.A (comprehension (.ListComp elt [⟨target, iter, ifs, 0⟩] scope pos) scope C.env pos' (newList []) false (eval iter C.env) use) QQ no s := by
  simp only [scOk, Bool.and_eq_true] at hsc
  obtain ⟨⟨hc1, hc2⟩, hc3⟩ := hsc
  have hcell : ∀ p ∈ scope.names, p.2 ≠ .cell := fun p hp => by simpa using List.all_eq_true.mp hc1 p hp
  have hfree : ∀ y ∈ frees scope, scope.names.lookup y = some .free := fun y hy => by simpa using List.all_eq_true.mp hc2 y hy
  have hnames : ∀ p ∈ scope.names, p.2 = .local → scope.names.lookup p.1 = some .local := fun p hp hl => by
    have := List.all_eq_true.mp hc3 p hp
    rw [hl] at this
    simpa using this
  have hclos : closureFor scope C.env = pure (clo scope.names C.env []) := closure_is fun n hn => by
    obtain ⟨⟨t, ht⟩, hl⟩ := hfv.mem n (mem_frees hn)
    obtain ⟨_, c, _, hc, _⟩ := x.cells n t ht hl
    rw [hc]; rfl
  refine wpAny_comprehension_free (cl := clo scope.names C.env []) rfl hs hclos hkind hnames ((h s x).then fun v t s₁ H₁ e₁ m₁ d₁ q₁ => ?_)
  obtain ⟨ts, g, hi, hn, hnm, turn, hq⟩ := q₁
  have x₁ := x.ext e₁ m₁
  refine wpAny_mono (hi s₁ v x₁.toBs d₁) (fun it s₂ q₂ => ?_) fun _ _ f => f
  obtain ⟨I, fp, Pr, S, rfl, W, hS, hk, hI, hob, hfp, hit⟩ := q₂
  refine wpAny_newList ?_ (by simp)
  refine wpAny_newFunctionEnv hcell (by intro y hy; simp at hy) (fun h₁ hns₁ hsb₁ => ?_) hkind
  dsimp only at hns₁ hsb₁ ⊢
  generalize hH2 : s₂.heap.push { cls := .type "list", dict := Option.none, data := .seq ([] : List Value).toArray } = H2 at hns₁ hsb₁ ⊢
  have hL : H2.objs.size = s₂.heap.objs.size + 1 := by rw [← hH2, Heap.size_push]
  have hDL : s₂.heap.objs.size < H2.objs.size := by rw [hL]; exact Nat.lt_succ_self _
  obtain ⟨oI, hoI, _⟩ := hob 0 _ hS
  have hID : I < s₂.heap.objs.size := Heap.lt_size hoI
  have k24 : ∀ b o, s₂.heap.get? b = some o → h₁.get? b = some o := fun b o e =>
    hsb₁.extBut b o (Nat.ne_of_lt (Nat.lt_trans (Heap.lt_size e) hDL)) (Heap.get?_push_of_some _ (hH2 ▸ Heap.get?_push_of_some _ e))
  have k14 : ∀ b o, s₁.heap.get? b = some o → h₁.get? b = some o := fun b o e => k24 b o (Keeps.get hk e)
  have hD1 : s₁.heap.objs.size ≤ s₂.heap.objs.size := Nat.le_trans hI (Nat.le_of_lt hID)
  have hHD : H₁ s₂.heap.objs.size = Option.none := by
    cases z : H₁ s₂.heap.objs.size with
    | none => rfl
    | some us => obtain ⟨_, ⟨_, q⟩, _⟩ := m₁ _ us z; exact absurd (Heap.lt_size q) (Nat.not_lt.mpr hD1)
  have hHL : H₁ H2.objs.size = Option.none := by
    cases z : H₁ H2.objs.size with
    | none => rfl
    | some us => obtain ⟨_, ⟨_, q⟩, _⟩ := m₁ _ us z; exact absurd (Heap.lt_size q) (Nat.not_lt.mpr (Nat.le_trans hD1 (Nat.le_of_lt hDL)))
  have hacc : h₁.PlainList s₂.heap.objs.size #[] := ⟨0, hsb₁.extBut _ _ (Nat.ne_of_lt hDL) (Heap.get?_push_of_some _ (hH2 ▸ Heap.get?_push_size _ rfl))⟩
  have hlow : C.G.h₀.objs.size ≤ s₁.heap.objs.size := Nat.le_trans x₁.ok.low x₁.lo
  have up : ∀ t v, Den s₁.heap H₁ t v → Den h₁ (hup H₁ s₂.heap.objs.size []) t v := fun t v => Den.mono' (fun b o _ e q =>
    ⟨k14 b o e, hup_ne (Nat.ne_of_lt (Nat.lt_of_lt_of_le (Heap.lt_size e) hD1)) q⟩) t v (.inr fun b q => by
      by_cases z : b = s₂.heap.objs.size
      · rw [z, hup_same]; simp
      · rw [hup_ne z rfl]; exact q)
  have ups : ∀ t v, Dens s₁.heap H₁ t v → Dens h₁ (hup H₁ s₂.heap.objs.size []) t v := fun t v => Dens.mono' (fun b o _ e q =>
    ⟨k14 b o e, hup_ne (Nat.ne_of_lt (Nat.lt_of_lt_of_le (Heap.lt_size e) hD1)) q⟩) t v (.inr fun b q => by
      by_cases z : b = s₂.heap.objs.size
      · rw [z, hup_same]; simp
      · rw [hup_ne z rfl]; exact q)
  have seen : ∀ y, y ∈ frees scope → ∃ t c v, σ y = some t ∧ (clo scope.names C.env []).lookup y = some c ∧ h₁.IsCell c (some v) ∧ Den h₁ (hup H₁ s₂.heap.objs.size []) t v := fun y hy => by
    obtain ⟨⟨t, ht⟩, hl⟩ := hfv.mem y hy
    obtain ⟨_, c, v, hc, h3, h4⟩ := x₁.cells y t ht hl
    exact ⟨t, c, v, ht, clo_lookup hc _ _ (.inl (of_frees hy)), h3.keeps k14, up t v h4⟩
  have x₄ : St (cmpC C scope H2.objs.size s₂.heap.objs.size) (σc scope σ) (hup H₁ s₂.heap.objs.size []) { s₂ with heap := h₁, toks := s₂.toks + ([] : List (Str × Value)).length } := by
    refine ⟨⟨⟨⟨x.ok.G, x.ok.hh, x.ok.depth, x.ok.units, hkind, x.ok.glob, x.ok.blt, Nat.le_trans hlow hD1, Nat.le_of_lt hDL⟩, fun b o q => k14 b o (x₁.base b o q), fun b us q => ?_, ?_⟩, ⟨_, hns₁, fun y t e hl => ?_⟩, fun y t e hl => ?_⟩, ⟨fun q => (nomatch q), fun q => (nomatch q)⟩, fun y hy => ?_⟩
    · by_cases z : b = s₂.heap.objs.size
      · subst z
        rw [hup_same] at q; cases q
        exact ⟨#[], hacc, by simpa using dens_nil⟩
      · rw [hup, if_neg z] at q
        obtain ⟨vs, h1, h2⟩ := m₁ b us q
        exact ⟨vs, h1.at fun o e => k14 b o e, ups _ _ h2⟩
    · obtain ⟨o, _, _, ho, _⟩ := hns₁
      exact Nat.le_of_lt (Nat.lt_trans hDL (Heap.lt_size ho))
    · simp only [σc] at e
      split at e
      · rename_i hy
        have := relabel_free (env := C.env) (hfree y hy)
        have hl' : (scope.names.map fun (n, k) => if (k == NameKind.free && C.env.scope.kind == .function && C.env.kindOf n == some .cell) then (n, NameKind.cell) else (n, k)).lookup y = some .local := hl
        rcases this with q | q <;> rw [hl'] at q <;> cases q
      · cases e
    · simp only [σc] at e
      split at e
      · rename_i hy
        obtain ⟨t', c, v, ht, h1, h2, h3⟩ := seen y hy
        rw [e] at ht; cases ht
        exact ⟨relabel_free (env := C.env) (hfree y hy), c, v, h1, h2, h3⟩
      · cases e
    · have := relabel_cell (env := C.env) hcell hy
      obtain ⟨_, c, v, _, h1, h2, _⟩ := seen y (mem_frees (mem_of_lookup this))
      exact ⟨c, _, h1, h2⟩
  have hS₄ : S 0 h₁ := W.frame _ _ _ hS fun b _ o e => k24 b o e
  have loop : codeAny C.M C.A (.compLoop (.ListComp elt [⟨target, iter, ifs, 0⟩] scope pos) 0 (.ref I) (.ref s₂.heap.objs.size) (cmpC C scope H2.objs.size s₂.heap.objs.size).env)
      (compPost C.M C.A no use QQ (.ref s₂.heap.objs.size) H2.objs.size) { s₂ with heap := h₁, toks := s₂.toks + ([] : List (Str × Value)).length } := by
    refine comp_loop (s₁ := s₁) (g := g) W hS₄ hob (fun b hb => let ⟨⟨o, _, e⟩, _⟩ := hfp b hb; ⟨o, e⟩) hit hn x₄ ?_ k14 hI hID hDL hlow hHD (fun k u Hf => turn _ _ k u Hf) fun s' us hus x' hsm hkp => ?_
    · obtain ⟨h2, t2, rfl, _⟩ := hk
      exact ⟨h₁, _, rfl⟩
    · have nm : NMs us = true := nms_of fun t ht => by
        rw [hus] at ht
        obtain ⟨k, _, hg⟩ := List.mem_filterMap.mp ht
        exact hnm k t hg
      refine fin s₁ H₁ s' _ _ us e₁ m₁ (hus ▸ hq) ⟨?_, hD1, hDL, hHD, hHL, ?_, x'.muts, let ⟨m, h1, _⟩ := x'.ns; ⟨m, h1⟩⟩
      · obtain ⟨h6, t6, rfl⟩ := hsm
        exact ⟨h6, t6, rfl, hkp⟩
      · obtain ⟨vs, h1, h2⟩ := x'.muts _ us hup_same
        refine ⟨vs, h1, Dens.mono' (fun b o _ e q => ⟨e, ?_⟩) us _ (.inl nm) h2⟩
        by_cases z : b = s₂.heap.objs.size
        · subst z; exact hHD
        · rw [hup, if_neg z] at q; exact q
  exact codeAny_compStart_list loop (W.self 0 _ _ _ hS₄ loop)

/-- the end of a comprehension, behind the turn of its names -/
theorem CEnd.but {s₁ : Shared} {H : AH} {s' : Shared} {D L : Addr} {us : List PT} {h' : Heap} (c : CEnd s₁ H s' D L us) (hs : Heap.SameBut L s'.heap h') :
    Keeps s₁ { s' with heap := h' } ∧ (∃ vs, h'.PlainList D vs ∧ Dens h' H us vs.toList) ∧ Muts h' (hup H D us) := by
  obtain ⟨m, hn⟩ := c.ns
  refine ⟨?_, ?_, fun a ts q => ?_⟩
  · obtain ⟨h1, t1, rfl, k⟩ := c.keeps
    exact ⟨h', t1, rfl, fun b o e => (hs.2 b (Nat.ne_of_lt (Nat.lt_of_lt_of_le (Heap.lt_size e) (Nat.le_trans c.dsize (Nat.le_of_lt c.lsize))))).trans (k b o e)⟩
  · obtain ⟨vs, h1, h2⟩ := c.list
    exact ⟨vs, h1.at fun o e => (hs.2 D (ns_ne_list hn h1)).trans e, dens_ns hn hs h2⟩
  · obtain ⟨vs, h1, h2⟩ := c.muts a ts q
    exact ⟨vs, h1.at fun o e => (hs.2 a (ns_ne_list hn h1)).trans e, dens_ns hn hs h2⟩

theorem CEnd.post {lo : Nat} {s s₁ : Shared} {H H₁ : AH} {s' : Shared} {D : Addr} {us : List PT} {Q : List PT → AH → Prop} (hlo : lo ≤ s₁.heap.objs.size) (e : Ext s H s₁ H₁) (m : Muts s₁.heap H₁) (q : Q us H₁) (k : Keeps s₁ s') (dsize : s₁.heap.objs.size ≤ D) (hn : H₁ D = Option.none)
    (hl : ∃ vs, s'.heap.PlainList D vs ∧ Dens s'.heap H₁ us vs.toList) (hm : Muts s'.heap (hup H₁ D us)) : postA lo s H Q (.ref D) s' := by
  obtain ⟨vs, h1, h2⟩ := hl
  refine ⟨H₁, D, us, vs, rfl, Nat.le_trans hlo dsize, ?_, e.trans (Ext.of_keeps H₁ k), hn, h1, (Ext.of_keeps H₁ k).muts m, h2, hm, q⟩
  cases z : s.heap.get? D with
  | none => rfl
  | some o => exact absurd (Heap.lt_size (Keeps.get e.keeps z)) (Nat.not_lt.mpr dsize)

section
variable {C : Cx} {σ : Sg} {H : AH}

/-- a comprehension -/
theorem ev_comp {elt target iter : Expr} {ifs : List Expr} {scope : Scope} {pos : Pos} {QA : List PT → AH → Prop}
    (h : Ev C iter σ H fun t H₁ => ∃ (ts : List PT) (g : Nat → Option PT), Itr C H₁ t ts false ∧ ts.length ≤ sizeLine ∧ (∀ k w, g k = some w → NM w = true) ∧
      (∀ L lo k u Hf, ts[k]? = some u → (∀ a us, H₁ a = some us → Hf a = some us) → CTurn (cmpC C scope L lo) target elt ifs (σc scope σ) Hf u (g k)) ∧ QA ((List.range ts.length).filterMap g) H₁)
    (hfv : FvOk C σ (frees scope)) (hsc : scOk scope = true := by decide) (hkind : scope.kind = .function := by rfl) (hs : ∀ x, foldedSetIterable iter C.env x = pure x := by intro _; rfl) :
    EvA C (.ListComp elt [⟨target, iter, ifs, 0⟩] scope pos) σ H QA := fun s x => by
  rw [eval_ListComp]
  refine comp_all x h (fun s₁ H₁ s' D L us e m q c => ?_) hfv hsc hkind hs
  obtain ⟨mm, hn⟩ := c.ns
  refine ⟨mm, hn, fun h' hs' => ?_⟩
  obtain ⟨k1, k2, k3⟩ := c.but hs'
  exact CEnd.post (x.ext e m).lo e m q k1 c.dsize c.none k2 k3

/-- a dict's object beside the frame is turned -/
theorem St.beside {s : Shared} {L : Addr} {m : Str → Option Value} {h' : Heap} (x : St C σ H s) (hn : s.heap.Ns L m) (hne : L ≠ C.env.locals) (hb : C.G.h₀.get? L = Option.none) (hs : Heap.SameBut L s.heap h') : St C σ H { s with heap := h' } := by
  obtain ⟨mm, h1, h2⟩ := x.ns
  refine ⟨⟨⟨x.ok, fun b o q => (hs.2 b (by rintro rfl; rw [hb] at q; cases q)).trans (x.base b o q), fun a ts q => ?_, by rw [show ({ s with heap := h' } : Shared).heap.objs.size = s.heap.objs.size from hs.1]; exact x.lo⟩,
    ⟨mm, h1.at' fun o e => (hs.2 _ (Ne.symm hne)).trans e, fun y t e hl => let ⟨v, h3, h4⟩ := h2 y t e hl; ⟨v, h3, den_ns hn hs h4⟩⟩, fun y t e hl => ?_⟩, x.sok, fun y hy => ?_⟩
  · obtain ⟨vs, h3, h4⟩ := x.muts a ts q
    exact ⟨vs, h3.at fun o e => (hs.2 a (ns_ne_list hn h3)).trans e, dens_ns hn hs h4⟩
  · obtain ⟨h3, c, v, h4, h5, h6⟩ := x.cells y t e hl
    exact ⟨h3, c, v, h4, h5.sameBut hs (ns_ne_cell hn h5), den_ns hn hs h6⟩
  · obtain ⟨c, v, h4, h5⟩ := x.has y hy
    exact ⟨c, v, h4, h5.sameBut hs (ns_ne_cell hn h5)⟩

theorem Kp.beside {s s₃ : Shared} {H₂ : AH} {L : Addr} {h' : Heap} (k : Kp C s H s₃ H₂) (hs : Heap.SameBut L s₃.heap h') (hL : s.heap.get? L = Option.none) : Kp C s H { s₃ with heap := h' } H₂ := by
  refine ⟨?_, fun b o e f => (hs.2 b (by rintro rfl; rw [hL] at e; cases e)).trans (k.keep b o e f), fun b o e => ?_, k.frz, k.frn⟩
  · obtain ⟨h1, t1, rfl⟩ := k.same
    exact ⟨h', t1, rfl⟩
  · obtain ⟨o', e'⟩ := k.alive b o e
    exact ⟨o', (hs.2 b (by rintro rfl; rw [hL] at e; cases e)).trans e'⟩

/-- x = [.. for ..], x no cell -/
theorem ex_set_comp {R : Fl → Sg → AH → Prop} {y : Str} {py : Pos} {elt target iter : Expr} {ifs : List Expr} {scope : Scope} {pos pos₂ : Pos} (trk : Bool)
    (h : Ev C iter σ H fun t H₁ => ∃ (ts : List PT) (g : Nat → Option PT), Itr C H₁ t ts false ∧ ts.length ≤ sizeLine ∧ (∀ k w, g k = some w → NM w = true) ∧
      (∀ L lo k u Hf, ts[k]? = some u → (∀ a us, H₁ a = some us → Hf a = some us) → CTurn (cmpC C scope L lo) target elt ifs (σc scope σ) Hf u (g k)) ∧
      (if trk = true then ∀ a, H₁ a = Option.none → C.lo ≤ a → R .next (upd σ y (.mut a)) (hup H₁ a ((List.range ts.length).filterMap g)) else R .next (upd σ y (.lst ((List.range ts.length).filterMap g))) H₁))
    (hfv : FvOk C σ (frees scope)) (hsc : scOk scope = true := by decide) (hkind : scope.kind = .function := by rfl) (hs : ∀ x, foldedSetIterable iter C.env x = pure x := by intro _; rfl) (hy : stb C y = true := by rfl)
    (hw : swapsWithSole [.Name y py] (.ListComp elt [⟨target, iter, ifs, 0⟩] scope pos) pos₂.line C.env = pure true := by rfl) :
    Ex C (.Assign [.Name y py] (.ListComp elt [⟨target, iter, ifs, 0⟩] scope pos) pos₂) σ H R := fun s x => by
  rw [exec_Assign_arm]
  refine wpAny_bind (wpAny_standAt ?_)
  rw [hw]
  refine wpAny_bind (wpAny_pure ?_)
  rw [if_pos rfl]
  refine wpAny_bind ?_
  show wpAny C.M C.A (do let _ ← comprehension (.ListComp elt [⟨target, iter, ifs, 0⟩] scope pos) scope C.env (firstIterPos [⟨target, iter, ifs, 0⟩] pos) (newList []) false (eval iter C.env) (some fun v => assign (.Name y py) C.env v)) _ _ s
  refine wpAny_bind ?_
  refine comp_all (QA := fun us H₁ => if trk = true then ∀ a, H₁ a = Option.none → C.lo ≤ a → R .next (upd σ y (.mut a)) (hup H₁ a us) else R .next (upd σ y (.lst us)) H₁) x.toSv h (fun s₁ H₁ s' D L us e m q c => ?_) hfv hsc hkind hs
  have x₁ := x.ext e m
  have p : postW s H (fun t H' => R .next (upd σ y t) H') (.ref D) s' := by
    cases trk with
    | true =>
      simp only [if_true] at q
      exact postA.trk (lo := C.lo) (CEnd.post (lo := C.lo) (Q := fun us H₁ => ∀ a, H₁ a = Option.none → C.lo ≤ a → R .next (upd σ y (.mut a)) (hup H₁ a us)) x₁.lo e m q c.keeps c.dsize c.none c.list c.muts)
    | false =>
      simp only [Bool.false_eq_true, if_false] at q
      exact postA.frz (lo := C.lo) (CEnd.post (lo := C.lo) (Q := fun us H₁ => R .next (upd σ y (.lst us)) H₁) x₁.lo e m q c.keeps c.dsize c.none c.list c.muts)
  obtain ⟨H₂, t, e₂, m₂, d₂, q₂⟩ := p
  have x₂ := x.ext e₂ m₂
  have hLs : s.heap.get? L = Option.none := by
    cases z : s.heap.get? L with
    | none => rfl
    | some o => exact absurd (Heap.lt_size (Keeps.get e.keeps z)) (Nat.not_lt.mpr (Nat.le_trans c.dsize (Nat.le_of_lt c.lsize)))
  have hneL : L ≠ C.env.locals := by
    rintro rfl
    obtain ⟨_, ⟨o, _, _, ho, _⟩, _⟩ := x.ns
    rw [ho] at hLs; cases hLs
  have hbL : C.G.h₀.get? L = Option.none := by
    cases z : C.G.h₀.get? L with
    | none => rfl
    | some o => rw [x.base L o z] at hLs; cases hLs
  show wpAny C.M C.A (assign (.Name y py) C.env (.ref D)) (fun _ s'' => ∃ m, s''.heap.Ns L m ∧ ∀ h', Heap.SameBut L s''.heap h' → _) no s'
  refine wpAny_assign_Name (st_store x₂ d₂ hy fun s₃ x₃ k₃ => ?_)
  obtain ⟨mm, hn⟩ := c.ns
  have hn₃ : s₃.heap.Ns L mm := by
    refine hn.at' fun o e' => k₃.keep L o e' ⟨hneL, fun _ z hz hc => ?_, .inl ?_⟩
    · obtain ⟨c', v', h4, h5⟩ := x.has z hz
      rw [h4] at hc; cases hc
      obtain ⟨o', h6, _⟩ := h5
      rw [h6] at hLs; cases hLs
    · cases z : H₂ L with
      | none => rfl
      | some ts =>
        obtain ⟨vs, h4, _⟩ := m₂ L ts z
        exact absurd rfl (ns_ne_list hn h4)
  refine ⟨mm, hn₃, fun h' hs' => wpAny_pure (wpAny_pure ?_)⟩
  refine ⟨.next, _, H₂, x₃.beside hn₃ hneL hbL hs', ((Kp.of_ext e₂).trans k₃).beside hs' hLs, rfl, q₂⟩
end


/-- a text by its signs -/
def tx (l : List Nat) : Str := ⟨l.toArray⟩
theorem tx_cps (l : List Nat) : (tx l).cps.toList = l := by simp [tx]
theorem tx_length (l : List Nat) : (tx l).length = l.length := by simp [tx, Str.length]
theorem tx_of (x : Str) : tx x.cps.toList = x := by cases x; simp [tx]
theorem tx_inj {l m : List Nat} : tx l = tx m ↔ l = m := by
  constructor
  · intro h; have := congrArg (fun x => x.cps.toList) h; simpa [tx] using this
  · intro h; rw [h]
/-- what a slice without a step takes -/
def cut {α : Type} (lo hi : Option Int) (l : List α) : List α := (l.drop (lo.elim 0 (clipAt l.length))).take (hi.elim l.length (clipAt l.length) - lo.elim 0 (clipAt l.length))
theorem cut_from {α : Type} (k : Nat) (l : List α) : cut (some (k : Int)) Option.none l = l.drop k := by
  simp only [cut, Option.elim, clipAt_nat]
  rcases Nat.le_total k l.length with h | h
  · rw [Nat.min_eq_left h, List.take_of_length_le (by simp)]
  · rw [Nat.min_eq_right h, List.drop_of_length_le (by simp), List.drop_of_length_le h]; simp
theorem cut_upto {α : Type} (k : Nat) (l : List α) : cut Option.none (some (k : Int)) l = l.take k := by
  simp only [cut, Option.elim, clipAt_nat, List.drop_zero, Nat.sub_zero]
  rcases Nat.le_total k l.length with h | h
  · rw [Nat.min_eq_left h]
  · rw [Nat.min_eq_right h, List.take_of_length_le (by simp), List.take_of_length_le h]
theorem cut_all {α : Type} (l : List α) : cut Option.none Option.none l = l := by simp [cut]
theorem cut_neg {α : Type} (k : Nat) (hk : 1 ≤ k) (l : List α) : cut Option.none (some (-(k : Int))) l = l.take (l.length - k) := by
  simp only [cut, Option.elim, clipAt_neg _ _ hk, List.drop_zero, Nat.sub_zero]
theorem strIdx (lo hi : Option Int) (n : Nat) : Builtin.Str.strSliceIndices lo hi 1 n = (List.range (hi.elim n (clipAt n) - lo.elim 0 (clipAt n))).map (lo.elim 0 (clipAt n) + ·) := by
  rw [← sliceRange_one]
  unfold Builtin.Str.strSliceIndices
  cases lo <;> cases hi <;> simp [clipAt_cast]
theorem clipAt_le (n : Nat) (i : Int) : clipAt n i ≤ n := by
  have := clipAt_cast n i
  omega
theorem slice_tx (x : Str) (lo hi : Option Int) : Txt.slice x lo hi = tx (cut lo hi x.cps.toList) := by
  unfold Txt.slice
  have hx : x.length = x.cps.size := rfl
  have hc : cut lo hi x.cps.toList = (x.cps.toList.drop (lo.elim 0 (clipAt x.cps.size))).take (hi.elim x.cps.size (clipAt x.cps.size) - lo.elim 0 (clipAt x.cps.size)) := by
    simp [cut]
  split
  · rename_i h
    simp only [Bool.and_eq_true] at h
    have hl := h.2
    rw [strIdx] at hl
    simp only [List.length_map, List.length_range, beq_iff_eq, hx] at hl
    have h1 : lo.elim 0 (clipAt x.cps.size) ≤ x.cps.size := by cases lo <;> simp [clipAt_le]
    have h2 : hi.elim x.cps.size (clipAt x.cps.size) ≤ x.cps.size := by cases hi <;> simp [clipAt_le]
    have e : cut lo hi x.cps.toList = x.cps.toList := by
      rw [hc, hl]
      by_cases z : x.cps.size = 0
      · have : x.cps.toList = [] := List.length_eq_zero_iff.mp (by simpa using z)
        rw [this]; simp
      · have e0 : lo.elim 0 (clipAt x.cps.size) = 0 := by omega
        rw [e0, List.drop_zero]; exact List.take_of_length_le (by simp)
    rw [e, tx_of]
  · rw [hx, strIdx, pick_run, hc]; rfl

section
variable {C : Cx} {σ : Sg} {H : AH} {Q : PT → AH → Prop}

-- arithmetic
theorem bin_add {i j : Int} (q : Q (.int (i + j)) H) : Bin C .Add (.int i) (.int j) H Q := fun s v w x hv hw => by
  obtain ⟨t, rfl⟩ := of_int hv; obtain ⟨u, rfl⟩ := of_int hw
  exact add_int (postW.toks _ x.muts den_int q)
theorem bin_sub {i j : Int} (q : Q (.int (i - j)) H) : Bin C .Sub (.int i) (.int j) H Q := fun s v w x hv hw => by
  obtain ⟨t, rfl⟩ := of_int hv; obtain ⟨u, rfl⟩ := of_int hw
  exact sub_int (postW.toks _ x.muts den_int q)
theorem mulOk_small {a b : Int} (h : b.natAbs < 1000000) : IntMulOk a b := by
  unfold IntMulOk
  intro z
  simp only [Bool.and_eq_true, decide_eq_true_eq] at z
  have h1 : Builtin.Int.intBits b ≤ 20 := by
    unfold Builtin.Int.intBits
    split
    · omega
    · rename_i hb
      have h0 : b.natAbs ≠ 0 := by have : b ≠ 0 := by simpa using hb
                                   omega
      have : b.natAbs.log2 < 20 := (Nat.log2_lt h0).mpr (by omega)
      omega
  have h2 : shortFactorBits = 64 := rfl
  rw [h2] at z
  omega
theorem mulOk_small' {a b : Int} (h : a.natAbs < 1000000) : IntMulOk a b := by
  unfold IntMulOk
  intro z
  simp only [Bool.and_eq_true, decide_eq_true_eq] at z
  have h1 : Builtin.Int.intBits a ≤ 20 := by
    unfold Builtin.Int.intBits
    split
    · omega
    · rename_i hb
      have h0 : a.natAbs ≠ 0 := by have : a ≠ 0 := by simpa using hb
                                   omega
      have : a.natAbs.log2 < 20 := (Nat.log2_lt h0).mpr (by omega)
      omega
  have h2 : shortFactorBits = 64 := rfl
  rw [h2] at z
  omega
theorem bin_mul {i j : Int} (q : Q (.int (i * j)) H) (h : i.natAbs < 1000000 ∨ j.natAbs < 1000000) : Bin C .Mult (.int i) (.int j) H Q := fun s v w x hv hw => by
  obtain ⟨t, rfl⟩ := of_int hv; obtain ⟨u, rfl⟩ := of_int hw
  exact mul_int (postW.toks _ x.muts den_int q) (h.elim mulOk_small' mulOk_small)
theorem bin_mod {i j : Int} (q : Q (.int (i % j)) H) (h : 0 < j := by omega) : Bin C .Mod (.int i) (.int j) H Q := fun s v w x hv hw => by
  obtain ⟨t, rfl⟩ := of_int hv; obtain ⟨u, rfl⟩ := of_int hw
  refine mod_int (by omega) ?_
  rw [Int.fmod_eq_emod_of_nonneg _ (by omega)]
  exact postW.toks _ x.muts den_int q
theorem bin_div {i j : Int} (q : Q (.int (i / j)) H) (h : 0 < j := by omega) (h' : j.natAbs < 1073741824 := by omega) : Bin C .FloorDiv (.int i) (.int j) H Q := fun s v w x hv hw => by
  obtain ⟨t, rfl⟩ := of_int hv; obtain ⟨u, rfl⟩ := of_int hw
  refine floordiv_int (by omega) ?_ (.inl (PyProof.noPylong_small h'))
  rw [Int.fdiv_eq_ediv_of_nonneg _ (by omega)]
  exact postW.toks _ x.muts den_int q
-- comparisons
theorem cmp_eq {i j : Int} (q : Q (.bool (i == j)) H) : Cmp C .Eq (.int i) (.int j) H Q := fun s v w x hv hw => by
  obtain ⟨t, rfl⟩ := of_int hv; obtain ⟨u, rfl⟩ := of_int hw
  exact eq_int (postW.same x.muts den_bool q)
theorem cmp_ne {i j : Int} (q : Q (.bool (i != j)) H) : Cmp C .NotEq (.int i) (.int j) H Q := fun s v w x hv hw => by
  obtain ⟨t, rfl⟩ := of_int hv; obtain ⟨u, rfl⟩ := of_int hw
  exact ne_int (postW.same x.muts den_bool q)
theorem cmp_lt {i j : Int} (q : Q (.bool (decide (i < j))) H) : Cmp C .Lt (.int i) (.int j) H Q := fun s v w x hv hw => by
  obtain ⟨t, rfl⟩ := of_int hv; obtain ⟨u, rfl⟩ := of_int hw
  exact lt_int (postW.same x.muts den_bool q)
theorem cmp_le {i j : Int} (q : Q (.bool (decide (i ≤ j))) H) : Cmp C .LtE (.int i) (.int j) H Q := fun s v w x hv hw => by
  obtain ⟨t, rfl⟩ := of_int hv; obtain ⟨u, rfl⟩ := of_int hw
  exact le_int (postW.same x.muts den_bool q)
theorem cmp_gt {i j : Int} (q : Q (.bool (decide (j < i))) H) : Cmp C .Gt (.int i) (.int j) H Q := fun s v w x hv hw => by
  obtain ⟨t, rfl⟩ := of_int hv; obtain ⟨u, rfl⟩ := of_int hw
  exact gt_int (postW.same x.muts den_bool q)
theorem cmp_eqs {i j : Str} (q : Q (.bool (i == j)) H) : Cmp C .Eq (.str i) (.str j) H Q := fun s v w x hv hw => by
  obtain ⟨t, rfl⟩ := of_str hv; obtain ⟨u, rfl⟩ := of_str hw
  exact eq_str (postW.same x.muts den_bool q)
-- truth
theorem tru_bool {b : Bool} {Q : Bool → AH → Prop} (q : Q b H) : Tru C (.bool b) H Q := fun s v x hv => by
  cases of_bool hv
  exact wpAny_truthy_bool (postB.same x.muts q)
theorem tru_int {i : Int} {Q : Bool → AH → Prop} (q : Q (i != 0) H) : Tru C (.int i) H Q := fun s v x hv => by
  obtain ⟨t, rfl⟩ := of_int hv
  exact truthy_int (postB.same x.muts q)
theorem tru_str {i : Str} {Q : Bool → AH → Prop} (q : Q (!(i.cps.toList.isEmpty)) H) (h : i.length < 4611686018427387904) : Tru C (.str i) H Q := fun s v x hv => by
  obtain ⟨t, rfl⟩ := of_str hv
  refine P.truthy_str (by omega) ?_
  have : ((i.length : Int) != 0) = !(i.cps.toList.isEmpty) := by
    have hl : i.length = i.cps.toList.length := rfl
    rw [hl]
    cases i.cps.toList <;> simp
    omega
  rw [this]
  exact postB.toks _ x.muts q

-- tests
theorem ts_val {e : Expr} {Q : Bool → AH → Prop} (h : Ev C e σ H fun t H₁ => Tru C t H₁ Q)
    (he : ∀ whole, isTrue e C.env whole = (do let v ← whole; standAt e.pos; holding [v] (truthy v)) := by intro _; rfl) : Ts C e σ H Q := fun s x => by
  refine wpAny_isTrue_value ((h s x).then fun v a s₁ H₁ e₁ m₁ d₁ q₁ => ?_) (he _)
  exact wpAny_mono (q₁ s₁ v (x.ext e₁ m₁).toBs d₁) (fun _ _ p => p.trans e₁) fun _ _ f => f
theorem ts_not {e : Expr} {pos : Pos} {Q : Bool → AH → Prop} (h : Ts C e σ H fun b H₁ => Q (!b) H₁) : Ts C (.UnaryOp .Not e pos) σ H Q := fun s x => by
  refine wpAny_isTrue_Not ((h s x).then fun b s₁ H₁ e₁ m₁ q₁ => ?_)
  exact ⟨H₁, e₁, m₁, q₁⟩
theorem ts_and_nil {pos : Pos} {Q : Bool → AH → Prop} (q : Q true H) : Ts C (.BoolOp .And [] pos) σ H Q := fun s x => isTrue_and_nil (postB.same x.muts q)
theorem ts_or_nil {pos : Pos} {Q : Bool → AH → Prop} (q : Q false H) : Ts C (.BoolOp .Or [] pos) σ H Q := fun s x => isTrue_or_nil (postB.same x.muts q)
theorem ts_and {e : Expr} {es : List Expr} {pos : Pos} {Q : Bool → AH → Prop} (h : Ts C e σ H fun b H₁ => if b = true then Ts C (.BoolOp .And es pos) σ H₁ Q else Q false H₁) : Ts C (.BoolOp .And (e :: es) pos) σ H Q := fun s x => by
  refine isTrue_and ((h s x).then fun b s₁ H₁ e₁ m₁ q₁ => ?_)
  cases b with
  | true => exact wpAny_mono (q₁ s₁ (x.ext e₁ m₁)) (fun _ _ p => p.trans e₁) fun _ _ f => f
  | false => exact ⟨H₁, e₁, m₁, q₁⟩
theorem ts_or {e : Expr} {es : List Expr} {pos : Pos} {Q : Bool → AH → Prop} (h : Ts C e σ H fun b H₁ => if b = true then Q true H₁ else Ts C (.BoolOp .Or es pos) σ H₁ Q) : Ts C (.BoolOp .Or (e :: es) pos) σ H Q := fun s x => by
  refine isTrue_or ((h s x).then fun b s₁ H₁ e₁ m₁ q₁ => ?_)
  cases b with
  | true => exact ⟨H₁, e₁, m₁, q₁⟩
  | false => exact wpAny_mono (q₁ s₁ (x.ext e₁ m₁)) (fun _ _ p => p.trans e₁) fun _ _ f => f
theorem ev_if {t b o : Expr} {pos : Pos} (h : Ts C t σ H fun c H₁ => if c = true then Ev C b σ H₁ Q else Ev C o σ H₁ Q) : Ev C (.IfExp t b o pos) σ H Q := fun s x => by
  refine IfExp_ ((h s x).then fun c s₁ H₁ e₁ m₁ q₁ => ?_)
  cases c with
  | true => exact wpAny_mono (q₁ s₁ (x.ext e₁ m₁)) (fun _ _ p => p.trans e₁) fun _ _ f => f
  | false => exact wpAny_mono (q₁ s₁ (x.ext e₁ m₁)) (fun _ _ p => p.trans e₁) fun _ _ f => f
theorem ev_or2 {a b : Expr} {pos : Pos} (h : Ev C a σ H fun t H₁ => Tru C t H₁ fun c H₂ => if c = true then Q t H₂ else Ev C b σ H₂ Q) : Ev C (.BoolOp .Or [a, b] pos) σ H Q := fun s x => by
  refine wpAny_Or2 ((h s x).then fun v t s₁ H₁ e₁ m₁ d₁ q₁ => ?_)
  have x₁ := x.ext e₁ m₁
  refine (q₁ s₁ v x₁.toBs d₁).then fun c s₂ H₂ e₂ m₂ q₂ => ?_
  cases c with
  | true => exact ⟨H₂, t, e₁.trans e₂, m₂, e₂.den d₁, q₂⟩
  | false => exact wpAny_mono (q₂ s₂ (x₁.ext e₂ m₂)) (fun _ _ p => (p.trans e₂).trans e₁) fun _ _ f => f
theorem ev_neg {e : Expr} {pos : Pos} (h : Ev C e σ H fun t H₁ => ∃ i, t = .int i ∧ Q (.int (-i)) H₁) : Ev C (.UnaryOp .USub e pos) σ H Q := fun s x => by
  refine UnaryOp_ ((h s x).then fun v t s₁ H₁ e₁ m₁ d₁ q₁ => ?_)
  obtain ⟨i, rfl, q⟩ := q₁
  obtain ⟨tk, rfl⟩ := of_int d₁
  exact neg_int ((postW.toks _ m₁ den_int q).trans e₁)

/-- a < b < c, where a truth is asked -/
theorem ts_chain {l r₁ r₂ : Expr} {op₁ op₂ : CmpOp} {pos : Pos} {Q : Bool → AH → Prop}
    (h : Ev C l σ H fun a H₁ => Ev C r₁ σ H₁ fun b H₂ => Cmp C op₁ a b H₂ fun c H₃ => Tru C c H₃ fun t H₄ => if t = true then Ev C r₂ σ H₄ fun d H₅ => Cmp C op₂ b d H₅ fun c' H₆ => Tru C c' H₆ Q else Q false H₄)
    (hm : lastMarks [op₁, op₂] [r₁, r₂] = false := by with_unfolding_all rfl) : Ts C (.Compare l [op₁, op₂] [r₁, r₂] pos) σ H Q := fun s x => by
  refine isTrue_chain ((h s x).then fun v a s₁ H₁ e₁ m₁ d₁ q₁ => ?_) hm
  have x₁ := x.ext e₁ m₁
  refine test_link ((q₁ s₁ x₁).then fun w b s₂ H₂ e₂ m₂ d₂ q₂ => ?_)
  have x₂ := x₁.ext e₂ m₂
  refine (q₂ s₂ v w x₂.toBs (e₂.den d₁) d₂).then fun u c s₃ H₃ e₃ m₃ d₃ q₃ => ?_
  have x₃ := x₂.ext e₃ m₃
  refine (q₃ s₃ u x₃.toBs d₃).then fun t s₄ H₄ e₄ m₄ q₄ => ?_
  have x₄ := x₃.ext e₄ m₄
  have e14 := (e₁.trans e₂).trans (e₃.trans e₄)
  cases t with
  | false => exact ⟨H₄, e14, m₄, q₄⟩
  | true =>
    refine test_last ((q₄ s₄ x₄).then fun w' d s₅ H₅ e₅ m₅ d₅ q₅ => ?_)
    have x₅ := x₄.ext e₅ m₅
    refine (q₅ s₅ w w' x₅.toBs ((e₃.trans (e₄.trans e₅)).den d₂) d₅).then fun u' c' s₆ H₆ e₆ m₆ d₆ q₆ => ?_
    exact wpAny_mono (q₆ s₆ u' (x₅.ext e₆ m₆).toBs d₆) (fun _ _ p => ((p.trans e₆).trans e₅).trans e14) fun _ _ f => f

-- displays
theorem eva_list {es : List Expr} {pos : Pos} {QA : List PT → AH → Prop} (h : Evs C es σ H fun ts H₁ => ts.length ≤ 16777216 ∧ QA ts H₁) : EvA C (.List es pos) σ H QA := fun s x => by
  refine List_ (wpAny_mono (h pos s x) (fun vs s₁ p => ?_) fun _ _ f => f)
  obtain ⟨H₁, us, e₁, m₁, d₁, hl, q⟩ := p
  have hlen := d₁.length
  refine wpAny_newList ?_ (by rw [sizeLine_eq]; omega)
  have := postA.push (tk := s₁.toks) (lo := C.lo) (Q := QA) (us := us) (vs := vs.toArray) (x.ext e₁ m₁).lo m₁ (by simpa using d₁) q
  exact this.before e₁
theorem ev_tuple {es : List Expr} {k : Nat} {pos : Pos} (h : Evs C es σ H fun ts H₁ => ts.length ≤ 16777216 ∧ Q (.tup ts) H₁) : Ev C (.Tuple es k pos) σ H Q := fun s x => by
  refine Tuple_ (wpAny_mono (h pos s x) (fun vs s₁ p => ?_) fun _ _ f => f)
  obtain ⟨H₁, us, e₁, m₁, d₁, hl, q⟩ := p
  have hlen := d₁.length
  have hn : H₁ s₁.heap.objs.size = Option.none := by
    cases z : H₁ s₁.heap.objs.size with
    | none => rfl
    | some ts => obtain ⟨_, ⟨_, h1⟩, _⟩ := m₁ _ ts z; exact absurd (Heap.lt_size h1) (Nat.lt_irrefl _)
  have ke := Ext.of_keeps H₁ (push_keeps s₁ { cls := .type "tuple", data := .seq vs.toArray })
  refine wpAny_newObj_type ?_ (by show vs.toArray.size ≤ sizeLine; rw [List.size_toArray, sizeLine_eq]; omega)
  exact ⟨H₁, .tup us, e₁.trans ke, ke.muts m₁, by simp only [Den]; exact ⟨_, vs.toArray, rfl, hn, ⟨0, Heap.get?_push_size _ rfl⟩, by simpa using ke.dens d₁⟩, q⟩
end


/-- a tree that is a list with these items -/
def Lv (H : AH) (t : PT) (ts : List PT) : Prop := t = .lst ts ∨ ∃ a, t = .mut a ∧ H a = some ts
theorem lv_lst {H : AH} {ts : List PT} : Lv H (.lst ts) ts := .inl rfl
theorem lv_mut {H : AH} {a : Addr} {ts : List PT} (h : H a = some ts) : Lv H (.mut a) ts := .inr ⟨a, rfl, h⟩
theorem Lv.at {H : AH} {t : PT} {ts : List PT} {h : Heap} {v : Value} (l : Lv H t ts) (m : Muts h H) (d : Den h H t v) : ∃ a vs, v = .ref a ∧ h.PlainList a vs ∧ Dens h H ts vs.toList := by
  rcases l with rfl | ⟨a, rfl, e⟩
  · obtain ⟨a, vs, rfl, _, h2, h3⟩ := of_lst d
    exact ⟨a, vs, rfl, h2, h3⟩
  · obtain ⟨rfl, _⟩ := of_mut d
    obtain ⟨vs, h2, h3⟩ := m a ts e
    exact ⟨a, vs, rfl, h2, h3⟩
theorem itr_lv {C : Cx} {H : AH} {t : PT} {ts : List PT} (l : Lv H t ts) : Itr C H t ts false := by
  rcases l with rfl | ⟨a, rfl, e⟩
  · exact itr_lst
  · exact itr_mut e fun q => (nomatch q)

theorem dens_drop {h : Heap} {H : AH} : ∀ (n : Nat) {ts : List PT} {vs : List Value}, Dens h H ts vs → Dens h H (ts.drop n) (vs.drop n)
  | 0, _, _, d => by simpa using d
  | n + 1, [], _, d => by cases of_nil d; simpa using dens_nil
  | n + 1, t :: ts, vs, d => by
    obtain ⟨v, r, rfl, h1, h2⟩ := of_cons d
    simpa using dens_drop n h2
theorem dens_take {h : Heap} {H : AH} : ∀ (n : Nat) {ts : List PT} {vs : List Value}, Dens h H ts vs → Dens h H (ts.take n) (vs.take n)
  | 0, _, _, d => by simpa using dens_nil
  | n + 1, [], _, d => by cases of_nil d; simpa using dens_nil
  | n + 1, t :: ts, vs, d => by
    obtain ⟨v, r, rfl, h1, h2⟩ := of_cons d
    simpa using dens_cons h1 (dens_take n h2)
theorem dens_cut {h : Heap} {H : AH} {lo hi : Option Int} {ts : List PT} {vs : List Value} (d : Dens h H ts vs) : Dens h H (cut lo hi ts) (cut lo hi vs) := by
  unfold cut
  rw [d.length]
  exact dens_take _ (dens_drop _ d)

section
variable {C : Cx} {σ : Sg} {H : AH} {Q : PT → AH → Prop}

/-- an item or a slice of a value -/
def Sub (C : Cx) (o i : PT) (H : AH) (Q : PT → AH → Prop) : Prop := ∀ s v w, Bs C H s → Den s.heap H o v → Den s.heap H i w →
  ∃ T id, s.TypeIs v T ∧ typeLookup (.type T) "__getitem__" = pure (some (.builtin id)) ∧ Wp C H (getItem v w) s Q
theorem ev_sub {value slice : Expr} {pos : Pos} (h : Ev C value σ H fun o H₁ => Ev C slice σ H₁ fun i H₂ => Sub C o i H₂ Q)
    (hs : ∀ o i, subscripted slice false o i = operate [o, i] (getItem o i) := by intro _ _; rfl) : Ev C (.Subscript value slice pos) σ H Q := fun s x => by
  refine Subscript_ ((h s x).then fun v a s₁ H₁ e₁ m₁ d₁ q₁ => ?_)
  have x₁ := x.ext e₁ m₁
  refine (q₁ s₁ x₁).then fun w b s₂ H₂ e₂ m₂ d₂ q₂ => ?_
  obtain ⟨T, id, h1, h2, h3⟩ := q₂ s₂ v w (x₁.ext e₂ m₂).toBs (e₂.den d₁) d₂
  exact tail_any h1 h2 (wpAny_mono h3 (fun _ _ p => (p.trans e₂).trans e₁) fun _ _ f => f) (hs v w)

/-- the place that an index means -/
def place (i : Int) (n : Nat) : Nat := (if i < 0 then i + n else i).toNat
theorem place_nonneg {i : Int} {n : Nat} (h : 0 ≤ i) : place i n = i.toNat := by simp [place, Int.not_lt.mpr h]
theorem place_neg {i : Int} {n : Nat} (h : i < 0) : place i n = (i + n).toNat := by simp [place, h]

theorem sub_lst {o : PT} {ts : List PT} {i : Int} {t : PT} (l : Lv H o ts) (h1 : -(ts.length : Int) ≤ i) (h2 : i < ts.length) (hb : ts.length ≤ 16777216) (ht : ts[place i ts.length]? = some t) (q : Q t H) : Sub C o (.int i) H Q := fun s v w x hv hw => by
  obtain ⟨a, vs, rfl, hl, hd⟩ := l.at x.muts hv
  obtain ⟨tk, rfl⟩ := of_int hw
  have hlen : vs.size = ts.length := by have := hd.length; simpa using this
  obtain ⟨u, hu, hdu⟩ := hd.get ht
  have hu' : vs[place i ts.length]? = some u := by simpa using hu
  refine ⟨"list", _, hl.isList.typeIs, slot_list_getitem.lookup, ?_⟩
  by_cases h0 : 0 ≤ i
  · exact wpAny_getItem_list hl.isList h0 (by omega) (by rw [place_nonneg h0] at hu'; exact hu') (postW.same x.muts hdu q)
  · have h0' : i < 0 := by omega
    exact wpAny_getItem_list_neg hl.isList h0' (by rw [hlen]; exact h1) (by omega) (by rw [place_neg h0', ← hlen] at hu'; exact hu') (postW.same x.muts hdu q)
theorem seqIndex_place {i : Int} {n : Nat} (h1 : -(n : Int) ≤ i) (h2 : i < n) : seqIndex? i n = some (place i n) := by
  unfold seqIndex? place
  by_cases h : i < 0
  · simp only [h, if_true]
    rw [if_pos]
    simp only [Bool.and_eq_true, decide_eq_true_eq]; omega
  · simp only [h, if_false]
    rw [if_pos]
    simp only [Bool.and_eq_true, decide_eq_true_eq]; omega
theorem sub_str {l : Str} {i : Int} {c : Nat} (h1 : -(l.length : Int) ≤ i) (h2 : i < l.length) (hb : l.length ≤ 16777216) (hc : l.cps.toList[place i l.length]? = some c) (q : Q (.str (tx [c])) H) : Sub C (.str l) (.int i) H Q := fun s v w x hv hw => by
  obtain ⟨t, rfl⟩ := of_str hv
  obtain ⟨tk, rfl⟩ := of_int hw
  refine ⟨"str", _, typeIs_str _ _ _, F.slot_str_getitem.lookup, ?_⟩
  refine PyProof.Rows.getItem_str (c := c) (by simp only [Bool.or_eq_false_iff, decide_eq_false_iff_not]; omega) ?_ (postW.toks _ x.muts den_str q)
  rw [seqIndex_place h1 h2]
  show l.cps[place i l.length]? = some c
  simpa using hc

/-- a part of a slice -/
def Evo (C : Cx) (e : Option Expr) (σ : Sg) (H : AH) (Q : PT → AH → Prop) : Prop := ∀ s, Sv C σ H s → Wp C H (evalPart e C.env) s Q
theorem evo_none (q : Q .none H) : Evo C Option.none σ H Q := fun s x => wpAny_evalPart_none (postW.same x.muts den_none q)
theorem evo_some {e : Expr} (h : Ev C e σ H Q) : Evo C (some e) σ H Q := fun s x => wpAny_evalPart_some (h s x)
/-- the bound that a part of a slice says -/
inductive Prt : PT → Option Int → Prop where
  | none : Prt .none Option.none
  | int {i : Int} : Prt (.int i) (some i)
theorem Prt.isPart {t : PT} {o : Option Int} {h : Heap} {H : AH} {v : Value} (p : Prt t o) (d : Den h H t v) : IsPart v o := by
  cases p with
  | none => cases of_none d; exact .none
  | int => obtain ⟨tk, rfl⟩ := of_int d; exact .int _ _

theorem keptPush (s₀ : Shared) : KeptByPush fun s => Keeps s₀ s := fun s ob k ⟨h, tk, e, hk⟩ => by
  subst e
  exact ⟨_, k, rfl, fun b o q => Heap.get?_push_of_some _ (hk b o q)⟩
theorem sub_slice_str {l : Str} {s : Shared} {t : Tok} {vl vu : Value} {lo hi : Option Int} (pl : IsPart vl lo) (pu : IsPart vu hi) (hb : l.length ≤ 16777216) {R : Value → Shared → Prop}
    (h : ∀ s' t', Keeps s s' → R (.str (tx (cut lo hi l.cps.toList)) t') s') :
    ItemOn C.M C.A no (.str l t) (.ref s.heap.objs.size) R { s with heap := s.heap.push { cls := .type "slice", data := .fields #[vl, vu, .none] } } := by
  have hsz : l.length ≤ sizeLine := by rw [sizeLine_eq]; exact hb
  cases pl with
  | none =>
    cases pu with
    | none => exact SBG.sliceItem_nn (keptPush s) (Mine.Keeps.refl s) (fun s' t' k => by rw [slice_tx]; exact h s' t' k) hsz
    | int j u => exact SBG.sliceItem_ns (keptPush s) (Mine.Keeps.refl s) (fun s' t' k => by rw [slice_tx]; exact h s' t' k) hsz
  | int i t =>
    cases pu with
    | none => exact SBG.sliceItem_sn (keptPush s) (Mine.Keeps.refl s) (fun s' t' k => by rw [slice_tx]; exact h s' t' k) hsz
    | int j u => exact SBG.sliceItem_ss (keptPush s) (Mine.Keeps.refl s) (fun s' t' k => by rw [slice_tx]; exact h s' t' k) hsz

/-- a slice of a text -/
theorem ev_slice_str {value : Expr} {lower upper : Option Expr} {p pos : Pos}
    (h : Ev C value σ H fun o H₁ => Evo C lower σ H₁ fun l H₂ => Evo C upper σ H₂ fun u H₃ => ∃ x lo hi, o = .str x ∧ Prt l lo ∧ Prt u hi ∧ x.length ≤ 16777216 ∧ Q (.str (tx (cut lo hi x.cps.toList))) H₃) :
    Ev C (.Subscript value (.Slice lower upper Option.none p) pos) σ H Q := fun s x => by
  refine Subscript_ ((h s x).then fun v a s₁ H₁ e₁ m₁ d₁ q₁ => ?_)
  have x₁ := x.ext e₁ m₁
  refine wpAny_Slice ((q₁ s₁ x₁).then fun vl l s₂ H₂ e₂ m₂ d₂ q₂ => ?_)
  have x₂ := x₁.ext e₂ m₂
  refine (q₂ s₂ x₂).then fun vu u s₃ H₃ e₃ m₃ d₃ q₃ => ?_
  obtain ⟨y, lo, hi, rfl, pl, pu, hb, q⟩ := q₃
  refine wpAny_evalPart_none ?_
  obtain ⟨tk, rfl⟩ := of_str d₁
  obtain ⟨T, id, h1, h2, h3⟩ := sub_slice_str (C := C) (s := s₃) (t := tk) (R := postW s H Q) (pl.isPart (e₃.den d₂)) (pu.isPart d₃) hb fun s' t' k => by
    have e := (e₁.trans (e₂.trans e₃)).trans (Ext.of_keeps H₃ k)
    exact ⟨H₃, _, e, (Ext.of_keeps H₃ k).muts m₃, den_str, q⟩
  exact tail_any (ops := [.ref s₃.heap.objs.size, .str y tk]) h2 h1 h3 rfl

/-- a slice of a list -/
theorem eva_slice {value : Expr} {lower upper : Option Expr} {p pos : Pos} {QA : List PT → AH → Prop}
    (h : Ev C value σ H fun o H₁ => Evo C lower σ H₁ fun l H₂ => Evo C upper σ H₂ fun u H₃ => ∃ ts lo hi, Lv H₃ o ts ∧ Prt l lo ∧ Prt u hi ∧ ts.length ≤ 16777216 ∧ QA (cut lo hi ts) H₃) :
    EvA C (.Subscript value (.Slice lower upper Option.none p) pos) σ H QA := fun s x => by
  refine Subscript_ ((h s x).then fun v a s₁ H₁ e₁ m₁ d₁ q₁ => ?_)
  have x₁ := x.ext e₁ m₁
  refine wpAny_Slice ((q₁ s₁ x₁).then fun vl l s₂ H₂ e₂ m₂ d₂ q₂ => ?_)
  have x₂ := x₁.ext e₂ m₂
  refine (q₂ s₂ x₂).then fun vu u s₃ H₃ e₃ m₃ d₃ q₃ => ?_
  have x₃ := x₂.ext e₃ m₃
  obtain ⟨ts, lo, hi, lv, pl, pu, hb, q⟩ := q₃
  refine wpAny_evalPart_none ?_
  obtain ⟨b, vs, rfl, hl, hd⟩ := lv.at m₃ ((e₂.trans e₃).den d₁)
  have hlen : vs.size = ts.length := by have := hd.length; simpa using this
  have k₄ := push_keeps s₃ { cls := .type "slice", data := .fields #[vl, vu, .none] }
  have e₄ := Ext.of_keeps H₃ k₄
  have hl₄ := hl.at fun o e => Keeps.get k₄ e
  refine tail_any (ops := [.ref s₃.heap.objs.size, .ref b]) hl₄.isList.typeIs slot_list_getitem.lookup ?_ rfl
  refine wpAny_getItem_list_slice (st := Option.none) hl₄.isList ⟨_, Heap.get?_push_size _ rfl, rfl, rfl⟩ (pl.isPart (e₃.den d₂)) (pu.isPart d₃) .none (by simp) ?_ (by rw [hlen, sizeLine_eq]; exact hb)
  have hpick : (slicePick vs lo hi Option.none).toList = cut lo hi vs.toList := by
    rw [slicePick_plain]; simp [cut]
  have hdc : Dens (s₃.heap.push { cls := .type "slice", data := .fields #[vl, vu, .none] }) H₃ (cut lo hi ts) (slicePick vs lo hi Option.none).toList := by
    rw [hpick]
    refine dens_cut ?_
    exact e₄.dens hd
  have := postA.push (s := { s₃ with heap := s₃.heap.push { cls := .type "slice", data := .fields #[vl, vu, .none] } }) (tk := s₃.toks) (lo := C.lo) (Q := QA) (x₃.ext e₄ (e₄.muts m₃)).lo (e₄.muts m₃) hdc q
  exact this.before ((e₁.trans (e₂.trans e₃)).trans e₄)
end


theorem of_one {h : Heap} {H : AH} {t : PT} {vs : List Value} (d : Dens h H [t] vs) : ∃ v, vs = [v] ∧ Den h H t v := by
  obtain ⟨v, r, rfl, h1, h2⟩ := of_cons d
  cases of_nil h2
  exact ⟨v, rfl, h1⟩
theorem of_two {h : Heap} {H : AH} {t u : PT} {vs : List Value} (d : Dens h H [t, u] vs) : ∃ v w, vs = [v, w] ∧ Den h H t v ∧ Den h H u w := by
  obtain ⟨v, r, rfl, h1, h2⟩ := of_cons d
  obtain ⟨w, rfl, h3⟩ := of_one h2
  exact ⟨v, w, rfl, h1, h3⟩
theorem of_three {h : Heap} {H : AH} {t u x : PT} {vs : List Value} (d : Dens h H [t, u, x] vs) : ∃ v w y, vs = [v, w, y] ∧ Den h H t v ∧ Den h H u w ∧ Den h H x y := by
  obtain ⟨v, r, rfl, h1, h2⟩ := of_cons d
  obtain ⟨w, y, rfl, h3, h4⟩ := of_two h2
  exact ⟨v, w, y, rfl, h1, h3, h4⟩

/-- a keeping end -/
theorem postW.kept {s : Shared} {H : AH} {Q : PT → AH → Prop} {v : Value} {u : PT} {h' : Heap} {tk : Nat} (hk : ∀ b o, s.heap.get? b = some o → h'.get? b = some o) (m : Muts s.heap H) (d : Den h' H u v) (q : Q u H) : postW s H Q v { s with heap := h', toks := tk } := by
  have e : Ext s H { s with heap := h', toks := tk } H := Ext.of_keeps H ⟨h', tk, rfl, hk⟩
  exact ⟨H, u, e, e.muts m, d, q⟩

section
variable {C : Cx} {σ : Sg} {H : AH} {Q : PT → AH → Prop}

theorem len_str' {x : Str} (q : Q (.int x.length) H) (h : x.length ≤ 16777216) : Blt C "len" [.str x] H Q := fun s vs x hv => by
  obtain ⟨v, rfl, hw⟩ := of_one hv
  obtain ⟨t, rfl⟩ := of_str hw
  exact len_str (by omega) (postW.toks _ x.muts den_int q)
theorem len_lst {t : PT} {ts : List PT} (l : Lv H t ts) (q : Q (.int ts.length) H) (h : ts.length ≤ 16777216) : Blt C "len" [t] H Q := fun s vs x hv => by
  obtain ⟨v, rfl, hw⟩ := of_one hv
  obtain ⟨a, ws, rfl, hl, hd⟩ := l.at x.muts hw
  have hlen : ws.size = ts.length := by have := hd.length; simpa using this
  refine PyProof.Rows.len_list hl.isList (by omega) ?_
  rw [hlen]
  exact postW.toks _ x.muts den_int q
theorem min_ints {a b : Int} (q : Q (.int (min a b)) H) : Blt C "min" [.int a, .int b] H Q := fun s vs x hv => by
  obtain ⟨v, w, rfl, hv, hw⟩ := of_two hv
  obtain ⟨t, rfl⟩ := of_int hv
  obtain ⟨u, rfl⟩ := of_int hw
  refine min_two_ints x.ok.hh fun h' tk hk => ?_
  split
  · rename_i h; rw [Int.min_eq_right (by omega)] at q; exact postW.kept hk x.muts den_int q
  · rename_i h; rw [Int.min_eq_left (by omega)] at q; exact postW.kept hk x.muts den_int q
theorem max_ints {a b : Int} (q : Q (.int (max a b)) H) : Blt C "max" [.int a, .int b] H Q := fun s vs x hv => by
  obtain ⟨v, w, rfl, hv, hw⟩ := of_two hv
  obtain ⟨t, rfl⟩ := of_int hv
  obtain ⟨u, rfl⟩ := of_int hw
  refine max_two_ints x.ok.hh fun h' tk hk => ?_
  split
  · rename_i h; rw [Int.max_eq_right (by omega)] at q; exact postW.kept hk x.muts den_int q
  · rename_i h; rw [Int.max_eq_left (by omega)] at q; exact postW.kept hk x.muts den_int q
theorem abs_int {i : Int} (q : Q (.int i.natAbs) H) : Blt C "abs" [.int i] H Q := fun s vs x hv => by
  obtain ⟨v, rfl, hw⟩ := of_one hv
  obtain ⟨t, rfl⟩ := of_int hw
  refine call_abs_int fun u tk => ?_
  have e : (if i < 0 then -i else i) = ((i.natAbs : Nat) : Int) := by split <;> omega
  rw [e]
  exact postW.toks _ x.muts den_int q

-- ranges
theorem den_rng_push {s : Shared} {H : AH} {a b c : Int} {t u w : Tok} (hn : H s.heap.objs.size = Option.none) :
    Den (s.heap.push { cls := .type "range", data := .fields #[.int a t, .int b u, .int c w] }) H (.rng a b c) (.ref s.heap.objs.size) := by
  simp only [Den]; exact ⟨_, t, u, w, rfl, hn, Heap.get?_push_size _ rfl⟩
theorem size_none {s : Shared} {H : AH} (m : Muts s.heap H) : H s.heap.objs.size = Option.none := by
  cases z : H s.heap.objs.size with
  | none => rfl
  | some ts => obtain ⟨_, ⟨_, h1⟩, _⟩ := m _ ts z; exact absurd (Heap.lt_size h1) (Nat.lt_irrefl _)
theorem range1 {n : Int} (q : Q (.rng 0 n 1) H) : Typ C "range" [.int n] H Q := fun s vs x hv => by
  obtain ⟨v, rfl, hw⟩ := of_one hv
  obtain ⟨t, rfl⟩ := of_int hw
  exact call_range_1 (postW.kept (fun b o e => Heap.get?_push_of_some _ e) x.muts (den_rng_push (size_none x.muts)) q)
theorem range3 {a b c : Int} (h : 0 < c) (h' : c < 1000000) (q : Q (.rng a b c) H) : Typ C "range" [.int a, .int b, .int c] H Q := fun s vs x hv => by
  obtain ⟨v, w, y, rfl, hv, hw, hy⟩ := of_three hv
  obtain ⟨t, rfl⟩ := of_int hv
  obtain ⟨u, rfl⟩ := of_int hw
  obtain ⟨r, rfl⟩ := of_int hy
  exact call_range_3 (by omega) (postW.kept (fun b o e => Heap.get?_push_of_some _ e) x.muts (den_rng_push (size_none x.muts)) q) (.inl (PyProof.noPylong_small (by omega)))
theorem rng_fits {a b c : Int} {n : Nat} (h : Builtin.Range.rangeSize a b c = (n : Int)) (ha : -1000000000 ≤ a) (ha' : a ≤ 1000000000) (hb : -1000000000 ≤ b) (hb' : b ≤ 1000000000) (hc : 0 < c) (hc' : c ≤ 1000000) (hn : n ≤ 1000000000) : Builtin.Range.small a b c = true := by
  unfold Builtin.Range.small Builtin.Range.rangeFitsLong
  rw [h]
  simp only [Bool.and_eq_true, decide_eq_true_eq, Bool.or_eq_true]
  refine ⟨⟨⟨⟨?_, ?_⟩, ?_⟩, ?_⟩, .inr ?_⟩ <;> first | omega | (rw [if_pos (by omega)]; simp only [Bool.and_eq_true, decide_eq_true_eq]; omega)
theorem rng1_size (b : Nat) : Builtin.Range.rangeSize 0 (b : Int) 1 = (b : Int) := by
  rw [rangeSize_one]; split <;> omega
/-- the numbers from 0 on -/
theorem itr_upto {n : Nat} {fr : Bool} (h : n ≤ 1000000000) : Itr C H (.rng 0 n 1) (rngL 0 1 n) fr :=
  itr_rng (rng_fits (rng1_size n) (by omega) (by omega) (by omega) (by omega) (by omega) (by omega) h) (rng1_size n)

theorem itemsOf_dens {h : Heap} {H : AH} {a c : Int} {acc : Array Value} {n : Nat} (x : ItemsOf (fun i v => ∃ t, v = .int (a + i * c) t) acc n) : Dens h H (rngL a c n) acc.toList := by
  refine Dens.of_get (by simp [rngL_length, x.1]) fun i t v h1 h2 => ?_
  have hi : i < n := by
    rcases Nat.lt_or_ge i n with q | q
    · exact q
    · rw [List.getElem?_eq_none (by rw [rngL_length]; exact q)] at h1; cases h1
  rw [rngL_get hi] at h1; cases h1
  obtain ⟨t, rfl⟩ := x.2 i v (by simpa using h2)
  exact den_int

/-- list(range(..)), as a new list -/
theorem eva_call_list_rng {g : Str} {p pos : Pos} {e : Expr} {QA : List PT → AH → Prop} (hg : Ev C (.Name g p) σ H fun f H₁ => f = .oth (.type "list") ∧ Ev C e σ H₁ fun t H₂ => ∃ a b c n, t = .rng a b c ∧ Builtin.Range.small a b c = true ∧ Builtin.Range.rangeSize a b c = ((n : Nat) : Int) ∧ n ≤ 16777216 ∧ QA (rngL a c n) H₂)
    (he : starEach [e] C.env = [(false, eval e C.env)] := by rfl) : EvA C (.Call (.Name g p) [e] [] pos) σ H QA := fun s x => by
  refine wpAny_Call_NameR ((hg s x).then fun v t s₁ H₁ e₁ m₁ d₁ q₁ => ?_)
  obtain ⟨rfl, q₁⟩ := q₁
  cases of_oth d₁
  have x₁ := x.ext e₁ m₁
  refine callWith_any (by rw [he]; rfl) ?_
  rw [he]
  show wpAny _ _ (spliced [(false, eval e C.env)]) _ _ _
  refine Calls.spliced_cons ((q₁ s₁ x₁).then fun w u s₂ H₂ e₂ m₂ d₂ q₂ => Calls.spliced_nil ⟨keeper_type, ?_⟩)
  obtain ⟨a, b, c, n, rfl, h1, h2, h3, q⟩ := q₂
  obtain ⟨r, t, u, y, rfl, h4, h5⟩ := of_rng d₂
  refine call_list_range x.ok.hh h5 h1 h2 (by omega) fun h' tk acc c' hk hl hi => ?_
  have k : Keeps s₂ { s₂ with heap := h', toks := tk } := ⟨h', tk, rfl, hk⟩
  have e₃ := Ext.of_keeps H₂ k
  have x₂ := x₁.ext e₂ m₂
  have hn := size_none m₂
  refine postA.before (e₁.trans e₂) ⟨H₂, s₂.heap.objs.size, rngL a c n, acc, rfl, x₂.lo, get_size_none _, e₃, hn, ⟨_, hl⟩, e₃.muts m₂, itemsOf_dens hi, fun b' ts z => ?_, q⟩
  by_cases w : b' = s₂.heap.objs.size
  · subst w
    rw [hup_same] at z; cases z
    exact ⟨acc, ⟨_, hl⟩, itemsOf_dens hi⟩
  · rw [hup, if_neg w] at z
    obtain ⟨ws, h6, h7⟩ := m₂ b' ts z
    refine ⟨ws, h6.at fun o e => hk b' o e, Dens.mono' (fun d o _ e q => ⟨hk d o e, hup_ne (Nat.ne_of_lt (Heap.lt_size e)) q⟩) ts _ (.inr fun d q => ?_) h7⟩
    by_cases w' : d = s₂.heap.objs.size
    · rw [w', hup_same]; simp
    · rw [hup_ne w' rfl]; exact q

-- texts
theorem mth_lower {x : Str} : Mth C (.str x) "lower" "str.lower" H := fun s v b d => by
  obtain ⟨t, rfl⟩ := of_str d
  exact ⟨"str", F.plainAttrs_str, F.slot_str_lower, F.type_str_lower, typeIs_str _ _ _, fun a e => nomatch e⟩
theorem lower_str {x : Str} (h : x.length ≤ 5592405) (q : Q (.str (Txt.lower x)) H) : Blt C "str.lower" [.str x] H Q := fun s vs b d => by
  obtain ⟨v, rfl, hw⟩ := of_one d
  obtain ⟨t, rfl⟩ := of_str hw
  refine call_gives F.slot_str_lower (typeIs_str s x t) F.entry_str_lower (F.args_str_lower_1 _) (gives_str_lower x t (fit_lower h)) ⟨?_, postW.toks _ b.muts den_str q⟩
  have := fit_lower h
  unfold Builtin.Str.tooLong at this
  have h' : (Txt.lower x).length ≤ sizeLine := by simpa using this
  exact h'
theorem mth_join {x : Str} : Mth C (.str x) "join" "str.join" H := fun s v b d => by
  obtain ⟨t, rfl⟩ := of_str d
  exact ⟨"str", F.plainAttrs_str, F.slot_str_join, F.type_str_join, typeIs_str _ _ _, fun a e => nomatch e⟩
end


section
variable {C : Cx} {σ : Sg} {H : AH} {R : Fl → Sg → AH → Prop}

theorem mth_append {t : PT} {ts : List PT} (l : Lv H t ts) : Mth C t "append" "list.append" H := fun s v b d => by
  obtain ⟨a, vs, rfl, ⟨n, e⟩, _⟩ := l.at b.muts d
  exact ⟨"list", F.plainAttrs_list, F.slot_list_append, F.type_list_append, ⟨_, e, rfl⟩, fun a' q => by cases q; exact ⟨_, e, rfl⟩⟩
/-- x.append(e) -/
theorem ex_append {o e : Expr} {apos pos' pos : Pos}
    (h : Ev C o σ H fun t H₁ => ∃ a, t = .mut a ∧ C.lo ≤ a ∧ (∃ ts, H₁ a = some ts) ∧ Ev C e σ H₁ fun u H₂ => ∃ ts, H₂ a = some ts ∧ ts.length ≤ 16777216 ∧ R .next σ (hup H₂ a (ts ++ [u])))
    (hbase : attributeBase o "append" C.env (eval o C.env) = eval o C.env := by rfl)
    (he : starEach [e] C.env = [(false, eval e C.env)] := by rfl) (hline : (apos.endLine == pos'.line) = true := by rfl)
    (hi : interactive C.env = false := by rfl) (hsw : swapsWith (.Call (.Attribute o "append" apos) [e] [] pos') Option.none pos.line C.env = pure false := by rfl) :
    Ex C (.Expr (.Call (.Attribute o "append" apos) [e] [] pos') pos) σ H R := fun s x => by
  refine wpAny_Expr_any ?_ hi hsw
  refine wpAny_Call_method_late hbase (by rw [he]; rfl) hline rfl ((h s x.toSv).then fun v t s₁ H₁ e₁ m₁ d₁ q₁ => ?_)
  have x₁ := x.ext e₁ m₁
  obtain ⟨a, rfl, hlo, ⟨ts₀, ht₀⟩, q₁⟩ := q₁
  obtain ⟨T, p1, p2, p3, p4, p5⟩ := mth_append (C := C) (lv_mut ht₀) s₁ v x₁.toBs d₁
  refine ⟨T, _, p1, p2, p3, p4, p5, ?_⟩
  refine callWith_any (by rw [he]; rfl) ?_
  rw [he]
  show wpAny _ _ (spliced [(false, eval e C.env)]) _ _ _
  refine Calls.spliced_cons ((q₁ s₁ x₁.toSv).then fun w u s₂ H₂ e₂ m₂ d₂ q₂ => Calls.spliced_nil ⟨keeper_builtin, ?_⟩)
  have x₂ := x₁.ext e₂ m₂
  obtain ⟨ts, ht, hb, r⟩ := q₂
  obtain ⟨rfl, _⟩ := of_mut d₁
  obtain ⟨vs, hl, hd⟩ := m₂ a ts ht
  have hlen : vs.size = ts.length := by have := hd.length; simpa using this
  refine wpAny_list_append_plain (hsz := by rw [hlen, sizeLine_eq]; exact hb) hl fun h' hl' hs' => ?_
  have hw := st_write (us := ts ++ [u]) (tk := s₂.toks) x₂ ht hlo hl' hs' (by rw [Array.toList_push]; exact hd.append (dens_cons d₂ dens_nil))
  exact ⟨.next, σ, _, hw.1, ((Kp.of_ext e₁).trans (Kp.of_ext e₂)).trans hw.2, rfl, r⟩

theorem dens_set {h : Heap} {H : AH} {ts : List PT} {vs : Array Value} {k : Nat} {t : PT} {v : Value} (d : Dens h H ts vs.toList) (e : Den h H t v) : Dens h H (ts.set k t) (vs.setIfInBounds k v).toList := by
  refine Dens.of_get (by have := d.length; simpa using this) fun i u w h1 h2 => ?_
  have h2' : (vs.setIfInBounds k v)[i]? = some w := by rw [← Array.getElem?_toList]; exact h2
  rw [Array.getElem?_setIfInBounds] at h2'
  rw [List.getElem?_set] at h1
  have hlen : vs.size = ts.length := by have := d.length; simpa using this
  by_cases q : k = i
  · rw [if_pos q] at h1 h2'
    split at h1
    · rename_i hk
      rw [if_pos (by omega)] at h2'
      cases h1; cases h2'; exact e
    · cases h1
  · rw [if_neg q] at h1 h2'
    obtain ⟨w', e1, e2⟩ := d.get h1
    have e1' : vs[i]? = some w' := by simpa using e1
    rw [h2'] at e1'; cases e1'; exact e2

/-- an item is stored, the list stays plain -/
theorem setItem_plain {prog : Program} {w : World} {A : Around} {E : Value → Shared → Prop} {s : Shared} {l : Addr} {items : Array Value} {k : Int} {t : Tok} {v : Value} {Q : Unit → Shared → Prop} (hl : s.heap.PlainList l items)
    (h0 : 0 ≤ k) (hfit : k < 2 ^ 63) (hn : k < items.size)
    (hQ : ∀ h', h'.PlainList l (items.setIfInBounds k.toNat v) → Heap.SameBut l s.heap h' → Q () { s with heap := h' }) :
    wpAny (model prog w) A (setItem (.ref l) (.int k t) v) Q E s := by
  obtain ⟨n, e⟩ := hl
  exact ki_setAt e h0 hfit hn (hQ _ ⟨_, Heap.get?_update_self (Obj.mapSeq (·.setIfInBounds k.toNat v)) e rfl⟩ (Heap.SameBut.update ..))

/-- o[i] = e -/
theorem ex_setitem {o i e : Expr} {pos' pos : Pos}
    (h : Ev C e σ H fun u H₁ => Ev C o σ H₁ fun t H₂ => Ev C i σ H₂ fun k H₃ => ∃ a ts j, t = .mut a ∧ k = .int j ∧ C.lo ≤ a ∧ H₃ a = some ts ∧ 0 ≤ j ∧ j < ts.length ∧ ts.length ≤ 16777216 ∧ R .next σ (hup H₃ a (ts.set j.toNat u)))
    (hs : swapsWith e (some (.Subscript o i pos')) pos.line C.env = pure false := by rfl) : Ex C (.Assign [.Subscript o i pos'] e pos) σ H R := fun s x => by
  refine wpAny_Assign_Subscript ((h s x.toSv).then fun v u s₁ H₁ e₁ m₁ d₁ q₁ => ?_) hs
  have x₁ := x.ext e₁ m₁
  refine (q₁ s₁ x₁.toSv).then fun vo t s₂ H₂ e₂ m₂ d₂ q₂ => ?_
  have x₂ := x₁.ext e₂ m₂
  refine (q₂ s₂ x₂.toSv).then fun vi k s₃ H₃ e₃ m₃ d₃ q₃ => ?_
  have x₃ := x₂.ext e₃ m₃
  obtain ⟨a, ts, j, rfl, rfl, hlo, ht, h0, hj, hb, r⟩ := q₃
  obtain ⟨rfl, _⟩ := of_mut d₂
  obtain ⟨tk, rfl⟩ := of_int d₃
  obtain ⟨vs, hl, hd⟩ := m₃ a ts ht
  have hlen : vs.size = ts.length := by have := hd.length; simpa using this
  refine setItem_plain hl h0 (by omega) (by omega) fun h' hl' hs' => ?_
  have hw := st_write (us := ts.set j.toNat u) (tk := s₃.toks) x₃ ht hlo hl' hs' (dens_set hd ((e₂.trans e₃).den d₁))
  exact ⟨.next, σ, _, hw.1, (((Kp.of_ext e₁).trans (Kp.of_ext e₂)).trans (Kp.of_ext e₃)).trans hw.2, rfl, r⟩

/-- what an augmented assignment reckons -/
def Inp (C : Cx) (op : Operator) (a b : PT) (H : AH) (Q : PT → AH → Prop) : Prop :=
  ∀ s v w, Bs C H s → Den s.heap H a v → Den s.heap H b w → Wp C H (inplaceOp op v w) s Q
theorem inp_add {i j : Int} {Q : PT → AH → Prop} (q : Q (.int (i + j)) H) : Inp C .Add (.int i) (.int j) H Q := fun s v w x hv hw => by
  obtain ⟨t, rfl⟩ := of_int hv; obtain ⟨u, rfl⟩ := of_int hw
  exact iadd_int (postW.toks _ x.muts den_int q)
theorem inp_sub {i j : Int} {Q : PT → AH → Prop} (q : Q (.int (i - j)) H) : Inp C .Sub (.int i) (.int j) H Q := fun s v w x hv hw => by
  obtain ⟨t, rfl⟩ := of_int hv; obtain ⟨u, rfl⟩ := of_int hw
  exact isub_int (postW.toks _ x.muts den_int q)
/-- x op= e -/
theorem ex_aug {y : Str} {t : PT} {op : Operator} {e : Expr} {pos' pos : Pos} (ht : σ y = some t) (h : Ev C e σ H fun u H₁ => Inp C op t u H₁ fun r H₂ => R .next (upd σ y r) H₂) (hy : stb C y = true := by rfl)
    (hn : (y == ("__classdict__" : Str)) = false := by decide) : Ex C (.AugAssign (.Name y pos') op e pos) σ H R := fun s x => by
  refine wpAny_AugAssign_Name ?_
  have go : ∀ v, Den s.heap H t v → wpAny C.M C.A (eval e C.env) (fun v' s₂ => wpAny C.M C.A (inplaceOp op v v') (fun r s₃ => wpAny C.M C.A (storeName C.env y r) (fun _ => postS C s H R .next) no s₃) no s₂) no s := fun v d => by
    refine (h s x.toSv).then fun w u s₁ H₁ e₁ m₁ d₁ q₁ => ?_
    have x₁ := x.ext e₁ m₁
    refine (q₁ s₁ v w x₁.toBs (e₁.den d) d₁).then fun r' r s₂ H₂ e₂ m₂ d₂ q₂ => ?_
    exact st_store (x₁.ext e₂ m₂) d₂ hy fun s' x' z' => ⟨.next, _, H₂, x', ((Kp.of_ext e₁).trans (Kp.of_ext e₂)).trans z', rfl, q₂⟩
  by_cases hl : C.env.kindOf y = some .local
  · obtain ⟨m, h1, h2⟩ := x.ns
    obtain ⟨v, h3, h4⟩ := h2 y t ht hl
    exact wpAny_loadName_local x.ok.kind hl h1 h3 (go v h4)
  · obtain ⟨h1, c, v, h2, h3, h4⟩ := x.cells y t ht hl
    rcases h1 with h1 | h1
    · exact wpAny_loadName_cell x.ok.kind h1 h2 h3 (go v h4)
    · exact wpAny_loadName_free x.ok.kind h1 h2 h3 (go v h4) hn
end


section
variable {C : Cx} {σ : Sg} {H : AH}

/-- several targets, one behind the other -/
def Asgs (C : Cx) (es : List Expr) (ts : List PT) (σ : Sg) (H : AH) (R : Sg → AH → Prop) : Prop :=
  ∀ s vs, St C σ H s → Dens s.heap H ts vs → wpAny C.M C.A (assignInOrder ((assignEach es C.env).map (·.2)) vs) (fun _ s' => ∃ σ' H', St C σ' H' s' ∧ Kp C s H s' H' ∧ R σ' H') no s
theorem asgs_nil {R : Sg → AH → Prop} (r : R σ H) : Asgs C [] [] σ H R := fun s vs x d => by
  cases of_nil d
  exact wpAny_pure ⟨σ, H, x, Kp.refl C s H, r⟩
/-- a name, then others -/
theorem asgs_name {y : Str} {pos : Pos} {es : List Expr} {t : PT} {ts : List PT} {R : Sg → AH → Prop} (h : Asgs C es ts (upd σ y t) H R) (hy : stb C y = true := by rfl) : Asgs C (.Name y pos :: es) (t :: ts) σ H R := fun s vs x d => by
  obtain ⟨v, r, rfl, d1, d2⟩ := of_cons d
  show wpAny C.M C.A (assignInOrder (assign (.Name y pos) C.env :: (assignEach es C.env).map (·.2)) (v :: r)) _ _ s
  refine wpAny_assignInOrder_more (wpAny_assign_Name (st_store' x d1 hy fun s' x' k' up => ?_))
  refine wpAny_mono (h s' r x' (Dens.of_get d2.length fun i u w h1 h2 => ?_)) (fun _ s'' p => ?_) fun _ _ f => f
  · obtain ⟨w', e1, e2⟩ := d2.get h1
    rw [h2] at e1; cases e1
    exact up _ _ e2
  · obtain ⟨σ', H', h1, h2, h3⟩ := p
    exact ⟨σ', H', h1, k'.trans h2, h3⟩
theorem asg_tuple {es : List Expr} {k : Nat} {pos : Pos} {ts : List PT} {R : Sg → AH → Prop} (h : Asgs C es ts σ H R) (hn : (assignEach es C.env).length = ts.length := by rfl) (hstar : (assignEach es C.env).findIdx? (·.1) = Option.none := by rfl) :
    Asg C (.Tuple es k pos) (.tup ts) σ H R := fun s v x d => by
  obtain ⟨a, vs, rfl, h1, ⟨n, h2⟩, h3⟩ := of_tup d
  have hlen : vs.size = ts.length := by have := h3.length; simpa using this
  refine wpAny_assign_Tuple x.ok.hh ⟨_, h2, rfl, n, rfl⟩ (by rw [hlen]; exact hn) hstar fun h' hs' => ?_
  have k : Keeps s { s with heap := h' } := ⟨h', s.toks, rfl, fun b o e => hs' b o (Nat.ne_of_lt (Heap.lt_size e)) e⟩
  have e := Ext.of_keeps H k
  refine wpAny_mono (h { s with heap := h' } vs.toList (x.ext e (e.muts x.muts)) (e.dens h3)) (fun _ s'' p => ?_) fun _ _ f => f
  obtain ⟨σ', H', q1, q2, q3⟩ := p
  exact ⟨σ', H', q1, (Kp.of_ext e).trans q2, q3⟩

/-- a, b = .., ..: the stores are made from behind -/
theorem ex_swap {R : Fl → Sg → AH → Prop} {es vs : List Expr} {k k' : Nat} {p p' pos : Pos} {names : List Str} (hsw : swappedStores [.Tuple es k p] (.Tuple vs k' p') C.env = pure (some names))
    (h : Evs C vs σ H fun ts H₁ => ts.length = names.length ∧ ts.length ≤ 16777216 ∧ R .next (upds names.reverse ts.reverse σ) H₁)
    (hs : swapsWithSole [.Tuple es k p] (.Tuple vs k' p') pos.line C.env = pure false := by rfl) (hst : names.all (stb C) = true) : Ex C (.Assign [.Tuple es k p] (.Tuple vs k' p') pos) σ H R := fun s x => by
  rw [exec_Assign_arm]
  refine wpAny_bind (wpAny_standAt ?_)
  rw [hs]
  refine wpAny_bind (wpAny_pure ?_)
  rw [if_neg (by decide)]
  have hv : Ev C (.Tuple vs k' p') σ H fun t H₁ => ∃ ts, t = .tup ts ∧ ts.length = names.length ∧ R .next (upds names.reverse ts.reverse σ) H₁ :=
    ev_tuple fun pos s x => wpAny_mono (h pos s x) (fun _ _ ⟨H', us, h1, h2, h3, h4, h5, h6⟩ => ⟨H', us, h1, h2, h3, h5, us, rfl, h4, h6⟩) fun _ _ f => f
  refine wpAny_bind ((hv s x.toSv).then fun v t s₁ H₁ e₁ m₁ d₁ q₁ => ?_)
  obtain ⟨ts, rfl, hl, r⟩ := q₁
  have x₁ := x.ext e₁ m₁
  rw [hsw]
  refine wpAny_bind (wpAny_pure ?_)
  show wpAny C.M C.A (do rule "assign.swapped-stores"; let items ← unpackItems v names.length Option.none; assignInOrder (names.reverse.map fun n => bindName C.env n) items.reverse; pure Flow.next) _ _ s₁
  refine wpAny_bind (wpAny_rule ?_)
  obtain ⟨a, ws, rfl, h1, ⟨n, h2⟩, h3⟩ := of_tup d₁
  have hlen : ws.size = ts.length := by have := h3.length; simpa using this
  refine wpAny_bind ?_
  rw [← hl, ← hlen]
  refine wpAny_unpackItems_tuple x.ok.hh ⟨_, h2, rfl, n, rfl⟩ fun h' hs' => ?_
  have kk : Keeps s₁ { s₁ with heap := h' } := ⟨h', s₁.toks, rfl, fun b o e => hs' b o (Nat.ne_of_lt (Heap.lt_size e)) e⟩
  have e₂ := Ext.of_keeps H₁ kk
  have x₂ := x₁.ext e₂ (e₂.muts m₁)
  have d₂ : Dens h' H₁ ts ws.toList := e₂.dens h3
  have rev : ∀ {ts : List PT} {vs : List Value} {h : Heap}, Dens h H₁ ts vs → Dens h H₁ ts.reverse vs.reverse := by
    intro ts vs h d
    induction ts generalizing vs with
    | nil => cases of_nil d; simpa using dens_nil
    | cons t ts ih =>
      obtain ⟨v, r, rfl, q1, q2⟩ := of_cons d
      rw [List.reverse_cons, List.reverse_cons]
      exact (ih q2).append (dens_cons q1 dens_nil)
  have all : ∀ (ns : List Str) (us : List PT) (xs : List Value) (σ' : Sg) (s' : Shared), (∀ n ∈ ns, stb C n = true) → us.length = ns.length → St C σ' H₁ s' → Dens s'.heap H₁ us xs →
      wpAny C.M C.A (assignInOrder (ns.map fun n => bindName C.env n) xs) (fun _ s'' => St C (upds ns us σ') H₁ s'' ∧ Kp C s' H₁ s'' H₁) no s' := by
    intro ns
    induction ns with
    | nil =>
      intro us xs σ' s' _ hl' x' d'
      have : us = [] := List.length_eq_zero_iff.mp hl'
      subst this
      cases of_nil d'
      exact wpAny_pure ⟨x', Kp.refl C s' H₁⟩
    | cons y ns ih =>
      intro us xs σ' s' hst' hl' x' d'
      cases us with
      | nil => simp at hl'
      | cons u us =>
        obtain ⟨v, r, rfl, q1, q2⟩ := of_cons d'
        show wpAny C.M C.A (assignInOrder (bindName C.env y :: ns.map fun n => bindName C.env n) (v :: r)) _ _ s'
        refine wpAny_assignInOrder_more (wpAny_bindName (st_store' x' q1 (hst' y (.head _)) fun s₃ x₃ k₃ up => ?_))
        refine wpAny_mono (ih us r (upd σ' y u) s₃ (fun n hn => hst' n (.tail _ hn)) (by simpa using hl') x₃ (Dens.of_get q2.length fun i z w h1 h2 => ?_)) (fun _ s₄ p => ⟨p.1, k₃.trans p.2⟩) fun _ _ f => f
        obtain ⟨w', e1, e2⟩ := q2.get h1
        rw [h2] at e1; cases e1
        exact up _ _ e2
  refine wpAny_bind (wpAny_mono (all names.reverse ts.reverse ws.toList.reverse σ { s₁ with heap := h' } (fun n hn => List.all_eq_true.mp hst n (List.mem_reverse.mp hn)) (by simp [hl]) x₂ (rev d₂)) (fun _ s₃ p => wpAny_pure ?_) fun _ _ f => f)
  exact ⟨.next, _, H₁, p.1, ((Kp.of_ext e₁).trans (Kp.of_ext e₂)).trans p.2, rfl, r⟩
end


/-- the k-th statement of the top, a def -/
def fnAt (p : Program) (k : Nat) : Arguments × List Stmt × Scope := match p.main.body[k]? with
  | some (.FunctionDef _ a b _ _ _ sc _ _ _) => (a, b, sc)
  | _ => (⟨[], [], Option.none, [], [], Option.none, []⟩, [], default)

/-- a def of the top, where it stands -/
structure FnIs (G : Gx) (p : Program) (n : Str) (k : Nat) (f : Addr) : Prop where
  mg : G.mg n = some (.ref f)
  obj : ∃ o pm cd doc, G.h₀.get? f = some o ∧ o.data = .func (Calls.docDef n (fnAt p k).1 (fnAt p k).2.1 (fnAt p k).2.2 pm cd doc) ∧ G.h₀.CodeRec cd n

/-- the spec of a def, out of its body's -/
theorem FnIs.spec {G : Gx} {p : Program} {n : Str} {k : Nat} {f : Addr} (F : FnIs G p n k f) {d : Nat} {xs : List Str} {ts : List PT} {H : AH} {Q : PT → Prop}
    (hbind : ∀ pm cd doc vs, vs.length = ts.length → bindArgs (Calls.docDef n (fnAt p k).1 (fnAt p k).2.1 (fnAt p k).2.2 pm cd doc) ⟨vs, []⟩ = pure (xs.zip vs)) (hpar : parOk (fnAt p k).2.2 xs = true) (hlen : ts.length = xs.length)
    (h : ∀ A L cd, Exs (mkC G A n (fnAt p k).2.2 f cd L d) (fnAt p k).2.1 (upds xs ts σ0) H fun fl σ' H' => ∃ t u, fl = .ret t ∧ Res H' H t u ∧ Q u)
    (hco : (fnAt p k).2.2.isCoroutine = false := by rfl) (hgen : (fnAt p k).2.2.isGenerator = false := by rfl) (hk : (fnAt p k).2.2.kind = .function := by rfl) : Fn G (d + 1) f ts H Q := by
  obtain ⟨o, pm, cd, doc, h1, h2, h3⟩ := F.obj
  exact fn_of_body h1 h2 h3 (fun vs hv => hbind pm cd doc vs hv) hpar hlen (fun A L => h A L cd) hco hgen hk

/-- a call of a def of the top -/
theorem ev_fn {C : Cx} {σ : Sg} {H : AH} {Q : PT → AH → Prop} {p : Program} {n : Str} {k : Nat} {f : Addr} {np pos : Pos} {args : List Expr} (d : Nat) (F : FnIs C.G p n k f)
    (hk : C.env.kindOf n = some .globalImplicit)
    (h : Evs C args σ H fun ts H₁ => Fn C.G d f ts H₁ fun u => Q u H₁) (hd : d ≤ C.d)
    (hplain : (backTo pos (starEach args C.env)).any (·.1) = false := by rfl) (hdb : (n == ("__debug__" : Str)) = false := by decide) : Ev C (.Call (.Name n np) args [] pos) σ H Q :=
  ev_call (ev_gname hk F.mg (fun _ => den_oth) (fun pos s x => wpAny_mono (h pos s x) (fun _ _ ⟨H', us, h1, h2, h3, h4⟩ => ⟨H', us, h1, h2, h3, cal_fn d h4 hd⟩) fun _ _ f => f) hdb) hplain

/-- the names of the top, out of the part of the heap that is written out -/
theorem mg_of {K : Frag} {h : Heap} {mg : Str → Option Value} {x : Str} {r : Option Value} (X : K.In h) (g : h.Ns mainGlobals mg) (e : nsIn K mainGlobals x = some r) : mg x = r := by
  obtain ⟨o, es, ep, ho, hd, hk, hf⟩ := g
  unfold nsIn at e
  split at e
  · rename_i c d es' n sl hl
    have := X _ _ hl
    rw [ho] at this
    cases this
    cases hd
    rw [← hf x]
    unfold nsFind findBy
    rw [← Array.find?_toList]
    split at e
    · rename_i en hen
      cases e
      rw [hen]; rfl
    · rename_i hen
      split at e
      · cases e
      · cases e
        rw [hen]; rfl
  · cases e

theorem script_den {P : Params} {h : Heap} {a : Addr} {ns : List Int} (W : Well P h (.ref a) (ofPy (.list (ns.map PyData.int)))) (H : AH) (hH : H a = Option.none) : Den h H (.lst (ns.map PT.int)) (.ref a) := by
  simp only [ofPy] at W
  cases W with
  | list ho hw =>
    rename_i vs
    have all : ∀ (ns : List Int) (vs : List Value), WellAll P h vs (ofPys (ns.map PyData.int)) → Dens h H (ns.map PT.int) vs := by
      intro ns
      induction ns with
      | nil => intro vs hw; simp only [List.map_nil, ofPys] at hw; cases hw; exact dens_nil
      | cons n r ih =>
        intro vs hw
        simp only [List.map_cons, ofPys, ofPy] at hw
        cases hw with
        | cons h1 h2 => cases h1 with | int i t => exact dens_cons den_int (ih _ h2)
    simp only [Den]
    exact ⟨a, vs.toArray, rfl, hH, ⟨0, ho⟩, by simpa using all ns vs hw⟩

/-- a law, by the spec of its def -/
theorem law_ends {prog : Program} {w : World} {s₁ : Shared} {c : ClaimW} {cl : Str → Option Addr} {mean : ExcName → Option Value} {args : List WData} {f a : Addr} {P : Params} {ns : List Int} {mg mb : Str → Option Value} {p : Program} {loose : List Str} {mean' : ExcName → Option Value}
    (T : Top p loose mean' mg mb s₁.heap) (hg : s₁.gens = #[]) (W : Well P s₁.heap (.ref a) (ofPy (.list (ns.map PyData.int))))
    (hr : ∀ cls, c.raises args cls = false) (hp : c.post args (.bool true) args = true)
    (h : GOk ⟨prog, w, s₁.heap, mg, mb⟩ → Fn ⟨prog, w, s₁.heap, mg, mb⟩ 50 f [.lst (ns.map PT.int)] (fun _ => Option.none) fun u => u = .bool true) :
    codeAny (model prog w) callerA (.call (.ref f) ⟨[.ref a], []⟩) (GoodW c cl mean args s₁) s₁ := by
  have g : GOk ⟨prog, w, s₁.heap, mg, mb⟩ := ⟨T.g, T.b, T.nolimit, T.builtins⟩
  refine codeAny_mono ((h g).2 callerA s₁ [.ref a] g rfl (by decide) (by decide) (Nat.le_refl _) (fun _ _ e => e) (fun a ts e => by cases e) (dens_cons (script_den W _ rfl) dens_nil)) fun r s' p => ?_
  obtain ⟨v, u, rfl, h1, h2, rfl⟩ := p
  cases of_bool h2
  obtain ⟨h', tk, rfl, hk⟩ := h1
  exact ⟨.inl ⟨_, .bool true, [], rfl, hr, .bool true, hp, fun _ => ⟨List.nodup_nil, fun _ q => nomatch q⟩⟩, hk, rfl, hg⟩


theorem then_next {C : Cx} {ss : List Stmt} {R : Fl → Sg → AH → Prop} {σ : Sg} {H : AH} (h : Exs C ss σ H R) : Then C ss R .next σ H := h
theorem then_ret {C : Cx} {ss : List Stmt} {R : Fl → Sg → AH → Prop} {σ : Sg} {H : AH} {t : PT} (h : R (.ret t) σ H) : Then C ss R (.ret t) σ H := h
theorem ite_true' {P Q : Prop} (h : P) : if true = true then P else Q := by simpa using h
theorem ite_false' {P Q : Prop} (h : Q) : if false = true then P else Q := by simpa using h
theorem ite_beq {α : Type} [BEq α] [LawfulBEq α] {a b : α} {P Q : Prop} (ht : a = b → P) (hf : a ≠ b → Q) : if (a == b) = true then P else Q := by
  split
  · rename_i h; exact ht (by simpa using h)
  · rename_i h; exact hf (by simpa using h)
theorem ite_bne {α : Type} [BEq α] [LawfulBEq α] {a b : α} {P Q : Prop} (ht : a ≠ b → P) (hf : a = b → Q) : if (a != b) = true then P else Q := by
  split
  · rename_i h; exact ht (by simpa using h)
  · rename_i h; exact hf (by simpa using h)
theorem ite_not {b : Bool} {P Q : Prop} (h : if b = true then Q else P) : if (!b) = true then P else Q := by
  cases b <;> simpa using h
theorem ite_emp {α : Type} {l : List α} {P Q : Prop} (ht : l = [] → P) (hf : l ≠ [] → Q) : if l.isEmpty = true then P else Q := by
  split
  · rename_i h; exact ht (by simpa using h)
  · rename_i h; exact hf (by simpa using h)

/-- the body of the k-th statement, a for, a while or an if -/
def forB (ss : List Stmt) (k : Nat) : List Stmt := match ss[k]? with
  | some (.For _ _ b _ _) => b
  | some (.While _ b _ _) => b
  | some (.If _ b _ _) => b
  | _ => []
/-- the test of the k-th statement, a while or an if -/
def tstE (ss : List Stmt) (k : Nat) : Expr := match ss[k]? with
  | some (.While t _ _ _) => t
  | some (.If t _ _ _) => t
  | _ => default

/-- the built-in names that no line of the top binds -/
structure Bl (G : Gx) : Prop where
  len : G.mg "len" = Option.none
  chr : G.mg "chr" = Option.none
  range : G.mg "range" = Option.none
  list : G.mg "list" = Option.none
  min : G.mg "min" = Option.none
  max : G.mg "max" = Option.none
  sum : G.mg "sum" = Option.none
  abs : G.mg "abs" = Option.none
  sorted : G.mg "sorted" = Option.none
  isinstance : G.mg "isinstance" = Option.none
  type : G.mg "type" = Option.none
  zip : G.mg "zip" = Option.none
  int : G.mg "int" = Option.none
  bool : G.mg "bool" = Option.none

section
variable {C : Cx} {σ : Sg} {H : AH} {Q : PT → AH → Prop}
theorem evs_mono {es : List Expr} {Q Q' : List PT → AH → Prop} (h : Evs C es σ H Q) (k : ∀ ts H', Q ts H' → Q' ts H') : Evs C es σ H Q' := fun pos s x =>
  wpAny_mono (h pos s x) (fun _ _ ⟨H', us, h1, h2, h3, h4⟩ => ⟨H', us, h1, h2, h3, k _ _ h4⟩) fun _ _ f => f
theorem ev_blt {n : Str} {id : String} {np pos : Pos} {args : List Expr} (hm : C.G.mg n = Option.none) (hb : bootBuiltins n = some (.builtin id)) (h : Evs C args σ H fun ts H₁ => Blt C id ts H₁ Q)
    (hk : C.env.kindOf n = some .globalImplicit := by rfl) (hplain : (backTo pos (starEach args C.env)).any (·.1) = false := by rfl) (hn : n ≠ "__name__" := by decide) (hdb : (n == ("__debug__" : Str)) = false := by decide) :
    Ev C (.Call (.Name n np) args [] pos) σ H Q :=
  ev_call (ev_bname hk hm hb (evs_mono h fun _ _ q => cal_builtin q) hn hdb) hplain
theorem ev_typ {n : Str} {id : String} {np pos : Pos} {args : List Expr} (hm : C.G.mg n = Option.none) (hb : bootBuiltins n = some (.type id)) (h : Evs C args σ H fun ts H₁ => Typ C id ts H₁ Q)
    (hk : C.env.kindOf n = some .globalImplicit := by rfl) (hplain : (backTo pos (starEach args C.env)).any (·.1) = false := by rfl) (hn : n ≠ "__name__" := by decide) (hdb : (n == ("__debug__" : Str)) = false := by decide) :
    Ev C (.Call (.Name n np) args [] pos) σ H Q :=
  ev_call (ev_bname hk hm hb (evs_mono h fun _ _ q => cal_type q) hn hdb) hplain
end


/-- a text n times -/
def reps (n : Int) (l : List Nat) : List Nat := (List.replicate n.toNat l).flatten
theorem foldl_app {α : Type} : ∀ (ls : List (Array α)) (acc : Array α), (ls.foldl (· ++ ·) acc).toList = acc.toList ++ (ls.map Array.toList).flatten
  | [], acc => by simp
  | a :: ls, acc => by rw [List.foldl_cons, foldl_app ls]; simp
section
variable {C : Cx} {σ : Sg} {H : AH} {Q : PT → AH → Prop}

/-- list + list -/
theorem eva_addl {l r : Expr} {pos : Pos} {QA : List PT → AH → Prop}
    (h : Ev C l σ H fun a H₁ => Ev C r σ H₁ fun b H₂ => ∃ ts us, Lv H₂ a ts ∧ Lv H₂ b us ∧ ts.length + us.length ≤ 16777216 ∧ QA (ts ++ us) H₂) : EvA C (.BinOp l .Add r pos) σ H QA := fun s x => by
  refine wpAny_BinOp ((h s x).then fun v a s₁ H₁ e₁ m₁ d₁ q₁ => ?_)
  have x₁ := x.ext e₁ m₁
  refine (q₁ s₁ x₁).then fun w b s₂ H₂ e₂ m₂ d₂ q₂ => ?_
  have x₂ := x₁.ext e₂ m₂
  obtain ⟨ts, us, l1, l2, hb, q⟩ := q₂
  obtain ⟨a, vs, rfl, ⟨n1, h1⟩, hd1⟩ := l1.at m₂ (e₂.den d₁)
  obtain ⟨b, ws, rfl, ⟨n2, h2⟩, hd2⟩ := l2.at m₂ d₂
  have hlen : vs.size = ts.length := by have := hd1.length; simpa using this
  have hlen2 : ws.size = us.length := by have := hd2.length; simpa using this
  refine P.add_list h1 h2 ?_ (by rw [hlen, hlen2, sizeLine_eq]; exact hb)
  have := postA.push (tk := s₂.toks) (lo := C.lo) (Q := QA) (us := ts ++ us) (vs := vs ++ ws) x₂.lo m₂ (by rw [Array.toList_append]; exact hd1.append hd2) q
  exact this.before (e₁.trans e₂)

theorem foldl_app' {α : Type} (n : Nat) (a : Array α) : (List.foldl (fun x1 x2 => x1 ++ x2) #[] (List.replicate n a)).toList = (List.replicate n a.toList).flatten := by
  have := foldl_app (List.replicate n a) #[]
  simpa using this
theorem dens_reps {h : Heap} {H : AH} {ts : List PT} {vs : List Value} (d : Dens h H ts vs) : ∀ n : Nat, Dens h H (List.replicate n ts).flatten (List.replicate n vs).flatten
  | 0 => by simpa using dens_nil
  | n + 1 => by
    rw [List.replicate_succ, List.replicate_succ, List.flatten_cons, List.flatten_cons]
    exact d.append (dens_reps d n)
/-- list * int -/
theorem eva_mull {l r : Expr} {pos : Pos} {QA : List PT → AH → Prop}
    (h : Ev C l σ H fun a H₁ => Ev C r σ H₁ fun b H₂ => ∃ ts i, Lv H₂ a ts ∧ b = .int i ∧ i ≤ 100000 ∧ -100000 ≤ i ∧ ts.length ≤ 100 ∧ QA (List.replicate i.toNat ts).flatten H₂) : EvA C (.BinOp l .Mult r pos) σ H QA := fun s x => by
  refine wpAny_BinOp ((h s x).then fun v a s₁ H₁ e₁ m₁ d₁ q₁ => ?_)
  have x₁ := x.ext e₁ m₁
  refine (q₁ s₁ x₁).then fun w b s₂ H₂ e₂ m₂ d₂ q₂ => ?_
  have x₂ := x₁.ext e₂ m₂
  obtain ⟨ts, i, l1, rfl, hi, hi', hb, q⟩ := q₂
  obtain ⟨a, vs, rfl, ⟨n1, hl⟩, hd1⟩ := l1.at m₂ (e₂.den d₁)
  obtain ⟨u, rfl⟩ := of_int d₂
  have hlen : vs.size = ts.length := by have := hd1.length; simpa using this
  have hm : vs.size * i.toNat ≤ 100 * 100000 := Nat.mul_le_mul (by omega) (by omega)
  refine wpAny_binaryOp_repeat_ref (T := "list") (U := "int") (by decide) ⟨_, hl, rfl⟩ (fun s' => typeIs_int s' i u) noFill_list_mul F.fills_int_mul F.slot_int_rmul repeat_list F.slot_int_index.lookup
    (call_meets F.slot_int_rmul (typeIs_int _ i u) F.entry_int_rmul (F.args_int_rmul_2 _ _) (int___rmul___int_list i u a vs n1)
      ⟨hl, rfl, ⟨_, hl, rfl⟩, call_meets F.slot_list_mul ⟨_, hl, rfl⟩ F.entry_list_mul (F.args_list_mul_2 _ _)
        (AutoListH.list___mul___list_int_3 a vs n1 i u (by simp [Builtin.List.listFitsIndex]; omega) (by omega) (by simp [Builtin.List.listTooLong, sizeLine]; omega))
        ⟨hl, ?_⟩⟩)
  have e : (List.foldl (fun x1 x2 => x1 ++ x2) #[] (List.replicate (if vs.isEmpty = true then 0 else i.toNat) vs)).toList = (List.replicate i.toNat vs.toList).flatten := by
    rw [foldl_app']
    split
    · rename_i hz
      have : vs.toList = [] := by simpa using hz
      rw [this]; simp
    · rfl
  have := postA.push (tk := s₂.toks) (lo := C.lo) (Q := QA) (us := (List.replicate i.toNat ts).flatten) (vs := List.foldl (fun x1 x2 => x1 ++ x2) #[] (List.replicate (if vs.isEmpty = true then 0 else i.toNat) vs)) x₂.lo m₂ (by rw [e]; exact dens_reps hd1 _) q
  exact this.before (e₁.trans e₂)

/-- a list that is written out, as a list that nothing writes to -/
theorem ev_list {es : List Expr} {pos : Pos} (h : Evs C es σ H fun ts H₁ => ts.length ≤ 16777216 ∧ Q (.lst ts) H₁) : Ev C (.List es pos) σ H Q := ev_frz (eva_list h)

/-- script + [0] -/
theorem ite_dec {p : Prop} [Decidable p] {P Q : Prop} (ht : p → P) (hf : ¬ p → Q) : if decide p = true then P else Q := by
  split
  · rename_i h; exact ht (by simpa using h)
  · rename_i h; exact hf (by simpa using h)
end


section
variable {C : Cx} {σ : Sg} {H : AH} {Q : PT → AH → Prop}

theorem ev_lit {i : Str} {l : List Nat} {k : Nat} {pos : Pos} (e : i = tx l) (q : Q (.str (tx l)) H) : Ev C (.Constant (.str i) k pos) σ H Q := by
  subst e
  exact ev_str q
/-- x, y = a, b -/
theorem ex_swap2 {R : Fl → Sg → AH → Prop} {x y : Str} {e₁ e₂ : Expr} {k k' : Nat} {p1 p2 p p' pos : Pos} (h : Ev C e₁ σ H fun t H₁ => Ev C e₂ σ H₁ fun u H₂ => R .next (upd (upd σ y u) x t) H₂)
    (hsw : swappedStores [.Tuple [.Name x p1, .Name y p2] k p] (.Tuple [e₁, e₂] k' p') C.env = pure (some [x, y]) := by rfl)
    (hs : swapsWithSole [.Tuple [.Name x p1, .Name y p2] k p] (.Tuple [e₁, e₂] k' p') pos.line C.env = pure false := by rfl) (hst : [x, y].all (stb C) = true := by rfl)
    (he : starEach [e₁, e₂] C.env = (false, eval e₁ C.env) :: starEach [e₂] C.env := by rfl) (he' : starEach [e₂] C.env = [(false, eval e₂ C.env)] := by rfl) :
    Ex C (.Assign [.Tuple [.Name x p1, .Name y p2] k p] (.Tuple [e₁, e₂] k' p') pos) σ H R := by
  refine ex_swap (names := [x, y]) hsw ?_ hs hst
  refine evs_cons (h.mono fun t H₁ h₁ => evs_cons (h₁.mono fun u H₂ h₂ => evs_nil ⟨rfl, by simp, h₂⟩) he') he
/-- (script + [0])[0] -/
theorem ev_first {y : Str} {ns : List Int} {p1 p2 p3 p4 p5 p6 : Pos} {k1 k2 : Nat} (hy : σ y = some (.lst (ns.map PT.int))) (hl : ns.length ≤ 1000) (q : Q (.int (ns.headD 0)) H)
    (h1 : (y == ("__debug__" : Str)) = false := by decide) (h2 : (y == ("__classdict__" : Str)) = false := by decide)
    (he : starEach [Expr.Constant (.int 0) k1 p2] C.env = [(false, eval (Expr.Constant (.int 0) k1 p2) C.env)] := by rfl) :
    Ev C (.Subscript (.BinOp (.Name y p1) .Add (.List [.Constant (.int 0) k1 p2] p3) p4) (.Constant (.int 0) k2 p5) p6) σ H Q := by
  refine ev_sub ?_ (fun _ _ => rfl)
  refine ev_frz (eva_addl ?_)
  refine ev_name hy ?_ h1 h2
  refine ev_list (evs_cons (ev_int (evs_nil ⟨by simp, ?_⟩)) (by rw [he]; rfl))
  refine ⟨_, _, lv_lst, lv_lst, by simp; omega, ?_⟩
  refine ev_int ?_
  refine sub_lst lv_lst (by simp <;> omega) (by simp <;> omega) (by simp <;> omega) (t := .int (ns.headD 0)) ?_ q
  rw [place_nonneg (by omega)]
  cases ns <;> simp
/-- script[1:] -/
theorem ev_behind {y : Str} {ns : List Int} {p1 p2 p3 p4 : Pos} {k1 : Nat} (hy : σ y = some (.lst (ns.map PT.int))) (hl : ns.length ≤ 1000) (q : Q (.lst ((ns.drop 1).map PT.int)) H)
    (h1 : (y == ("__debug__" : Str)) = false := by decide) (h2 : (y == ("__classdict__" : Str)) = false := by decide) :
    Ev C (.Subscript (.Name y p1) (.Slice (some (.Constant (.int 1) k1 p2)) Option.none Option.none p3) p4) σ H Q := by
  refine ev_frz (eva_slice ?_)
  refine ev_name hy ?_ h1 h2
  refine evo_some (ev_int (evo_none ⟨_, some 1, Option.none, lv_lst, .int, .none, by simp; omega, ?_⟩))
  have := cut_from 1 (ns.map PT.int)
  rw [show ((1 : Int)) = ((1 : Nat) : Int) from rfl, this, ← List.map_drop]
  exact q
theorem nm_ints (ns : List Int) : NMs (ns.map PT.int) = true := nms_of fun t ht => by
  rw [List.mem_map] at ht
  obtain ⟨_, _, rfl⟩ := ht
  rfl
end


/-- where a def of the top stands -/
def adIn (K : Frag) (n : Str) : Addr := match nsIn K mainGlobals n with
  | some (some (.ref a)) => a
  | _ => 0
def fdIn (K : Frag) (f : Addr) : Option FuncData := match K.lookup f with
  | some ⟨_, _, .func fd, _⟩ => some fd
  | _ => Option.none
def pmOf (K : Frag) (n : Str) : Value := match fdIn K (adIn K n) with
  | some fd => fd.pyModule
  | _ => .none
def cdOf (K : Frag) (n : Str) : Value := match fdIn K (adIn K n) with
  | some fd => fd.code
  | _ => .none
def dcOf (K : Frag) (n : Str) : Value := match fdIn K (adIn K n) with
  | some fd => fd.doc
  | _ => .none
theorem fnIs_of {K : Frag} {G : Gx} {p : Program} {n : Str} {k : Nat} (X : K.In G.h₀) (g : G.h₀.Ns mainGlobals G.mg) (hmg : nsIn K mainGlobals n = some (some (.ref (adIn K n))))
    (e : fdIn K (adIn K n) = some (Calls.docDef n (fnAt p k).1 (fnAt p k).2.1 (fnAt p k).2.2 (pmOf K n) (cdOf K n) (dcOf K n))) (hc : codeIn K (cdOf K n) n = true) : FnIs G p n k (adIn K n) := by
  refine ⟨mg_of X g hmg, ?_⟩
  unfold fdIn at e
  split at e
  · rename_i c d fd sl hl
    cases e
    exact ⟨_, _, _, _, X _ _ hl, rfl, codeRec_of X hc⟩
  · cases e
def unb (K : Frag) (x : Str) : Bool := match nsIn K mainGlobals x with
  | some Option.none => true
  | _ => false
theorem unb_of {K : Frag} {G : Gx} {x : Str} (X : K.In G.h₀) (g : G.h₀.Ns mainGlobals G.mg) (e : unb K x = true) : G.mg x = Option.none := by
  unfold unb at e
  split at e
  · rename_i h; exact mg_of X g h
  · cases e
def intIn (K : Frag) (x : Str) (i : Int) : Bool := match nsIn K mainGlobals x with
  | some (some (.int j _)) => j == i
  | _ => false
theorem intIn_of {K : Frag} {G : Gx} {x : Str} {i : Int} (X : K.In G.h₀) (g : G.h₀.Ns mainGlobals G.mg) (e : intIn K x i = true) : ∃ tk, G.mg x = some (.int i tk) := by
  unfold intIn at e
  split at e
  · rename_i j tk h
    have : j = i := by simpa using e
    subst this
    exact ⟨tk, mg_of X g h⟩
  · cases e
def blIn (K : Frag) : Bool := unb K "len" && (unb K "chr" && (unb K "range" && (unb K "list" && (unb K "min" && (unb K "max" && (unb K "sum" && (unb K "abs" && (unb K "sorted" && (unb K "isinstance" && (unb K "type" && (unb K "zip" && (unb K "int" && unb K "bool"))))))))))))
theorem bl_of {K : Frag} {G : Gx} (X : K.In G.h₀) (g : G.h₀.Ns mainGlobals G.mg) (e : blIn K = true) : Bl G := by
  unfold blIn at e
  simp only [Bool.and_eq_true] at e
  obtain ⟨h1, h2, h3, h4, h5, h6, h7, h8, h9, h10, h11, h12, h13, h14⟩ := e
  exact ⟨unb_of X g h1, unb_of X g h2, unb_of X g h3, unb_of X g h4, unb_of X g h5, unb_of X g h6, unb_of X g h7, unb_of X g h8, unb_of X g h9, unb_of X g h10, unb_of X g h11, unb_of X g h12, unb_of X g h13, unb_of X g h14⟩

mutual
/-- a tree as data -/
def pd : PT → PyData
  | .none => .none
  | .bool b => .bool b
  | .int i => .int i
  | .str x => .str x
  | .tup ts => .tuple (pds ts)
  | .lst ts => .list (pds ts)
  | .mut _ => .none
  | .rng _ _ _ => .none
  | .oth _ => .none
def pds : List PT → List PyData
  | [] => []
  | t :: ts => pd t :: pds ts
end
mutual
/-- a tree that is data -/
def dok : PT → Bool
  | .none => true
  | .bool _ => true
  | .int _ => true
  | .str x => PyData.strOk x
  | .tup ts => doks ts
  | .lst ts => doks ts
  | .mut _ => false
  | .rng _ _ _ => false
  | .oth _ => false
def doks : List PT → Bool
  | [] => true
  | t :: ts => dok t && doks ts
end
mutual
theorem Den.reads {h : Heap} {H : AH} : ∀ (t : PT) (v : Value), dok t = true → Den h H t v → ∃ as, Reads h v (pd t) as
  | .none, v, _, d => by cases of_none d; exact ⟨_, .none⟩
  | .bool b, v, _, d => by cases of_bool d; exact ⟨_, .bool b⟩
  | .int i, v, _, d => by obtain ⟨t, rfl⟩ := of_int d; exact ⟨_, .int i t⟩
  | .str x, v, _, d => by obtain ⟨t, rfl⟩ := of_str d; exact ⟨_, .str x t⟩
  | .tup ts, v, k, d => by
    obtain ⟨a, vs, rfl, _, ⟨n, e⟩, h3⟩ := of_tup d
    obtain ⟨as, r⟩ := Dens.reads ts _ (by simpa only [dok] using k) h3
    exact ⟨_, by simp only [pd]; exact .tuple e rfl rfl r⟩
  | .lst ts, v, k, d => by
    obtain ⟨a, vs, rfl, _, ⟨n, e⟩, h3⟩ := of_lst d
    obtain ⟨as, r⟩ := Dens.reads ts _ (by simpa only [dok] using k) h3
    exact ⟨_, by simp only [pd]; exact .list e rfl rfl r⟩
  | .mut _, _, k, _ => by simp [dok] at k
  | .rng _ _ _, _, k, _ => by simp [dok] at k
  | .oth _, _, k, _ => by simp [dok] at k
theorem Dens.reads {h : Heap} {H : AH} : ∀ (ts : List PT) (vs : List Value), doks ts = true → Dens h H ts vs → ∃ as, ReadsAll h vs (pds ts) as
  | [], _, _, d => by cases of_nil d; exact ⟨_, .nil⟩
  | t :: ts, _, k, d => by
    obtain ⟨v, r, rfl, h1, h2⟩ := of_cons d
    simp only [doks, Bool.and_eq_true] at k
    obtain ⟨as, r1⟩ := Den.reads t v k.1 h1
    obtain ⟨bs, r2⟩ := Dens.reads ts r k.2 h2
    exact ⟨_, by simp only [pds]; exact .cons r1 r2⟩
end
mutual
theorem dok_lay : ∀ t : PT, dok t = true → (pd t).canLay0 = true
  | .none, _ => by simp [pd, PyData.canLay0]
  | .bool b, _ => by simp [pd, PyData.canLay0]
  | .int i, _ => by simp [pd, PyData.canLay0]
  | .str x, k => by simpa [pd, PyData.canLay0, dok] using k
  | .tup ts, k => by simp only [pd, PyData.canLay0]; exact doks_lay ts (by simpa only [dok] using k)
  | .lst ts, k => by simp only [pd, PyData.canLay0]; exact doks_lay ts (by simpa only [dok] using k)
  | .mut _, k => by simp [dok] at k
  | .rng _ _ _, k => by simp [dok] at k
  | .oth _, k => by simp [dok] at k
theorem doks_lay : ∀ ts : List PT, doks ts = true → PyData.canLayAll0 (pds ts) = true
  | [], _ => by simp [pds, PyData.canLayAll0]
  | t :: ts, k => by
    simp only [doks, Bool.and_eq_true] at k
    simp only [pds, PyData.canLayAll0, Bool.and_eq_true]
    exact ⟨dok_lay t k.1, doks_lay ts k.2⟩
end
theorem doks_of : ∀ {ts : List PT}, (∀ t ∈ ts, dok t = true) → doks ts = true
  | [], _ => rfl
  | t :: ts, h => by simp only [doks, Bool.and_eq_true]; exact ⟨h t (.head _), doks_of fun u hu => h u (.tail _ hu)⟩
theorem pds_map (ts : List PT) : pds ts = ts.map pd := by
  induction ts with
  | nil => rfl
  | cons t ts ih => simp [pds, ih]
theorem depthAll_le {n : Nat} : ∀ {ds : List PyData}, (∀ d ∈ ds, d.depth ≤ n) → PyData.depthAll ds ≤ n
  | [], _ => by simp [PyData.depthAll]
  | d :: ds, h => by
    have h1 := h d (.head _)
    have h2 := depthAll_le (ds := ds) fun e he => h e (.tail _ he)
    simp only [PyData.depthAll]; omega

theorem eqv_ints : ∀ xs ys : List Int, PyData.eqvAll (pds (xs.map PT.int)) (pds (ys.map PT.int)) = (xs == ys)
  | [], [] => by simp [pds, PyData.eqvAll]
  | [], _ :: _ => by simp [pds, PyData.eqvAll]
  | _ :: _, [] => by simp [pds, PyData.eqvAll]
  | x :: xs, y :: ys => by
    have := eqv_ints xs ys
    simp only [List.map_cons, pds, pd, PyData.eqvAll, PyData.eqv, this]
    rfl
theorem any_ints (x : Int) : ∀ xs : List Int, ((pds (xs.map PT.int)).any fun y => PyData.eqv y (.int x)) = decide (x ∈ xs)
  | [] => by simp [pds]
  | y :: xs => by
    have ih := any_ints x xs
    simp only [List.map_cons, pds, pd, List.any_cons, PyData.eqv, ih, List.mem_cons]
    by_cases h : y = x
    · subst h; simp
    · have h' : ¬ x = y := fun e => h e.symm
      simp [h, h']
theorem doks_ints (xs : List Int) : doks (xs.map PT.int) = true := doks_of fun t ht => by
  rw [List.mem_map] at ht; obtain ⟨x, _, rfl⟩ := ht; rfl
theorem depth_ints (xs : List Int) : PyData.depthAll (pds (xs.map PT.int)) ≤ 0 := depthAll_le fun d hd => by
  rw [pds_map, List.map_map, List.mem_map] at hd; obtain ⟨x, _, rfl⟩ := hd; simp [pd, PyData.depth]

section
variable {C : Cx} {σ : Sg} {H : AH} {Q : PT → AH → Prop}

theorem room {C : Cx} {H : AH} {s : Shared} (x : Bs C H s) : C.A.units ≤ 9000 := by have := x.ok.units; omega
theorem cLine_eq : cLine = 9900 := rfl

/-- data trees, any -/
theorem cmp_eqd {t u : PT} (ht : dok t = true) (hu : dok u = true) (hd : min (pd t).depth (pd u).depth ≤ 100) (q : Q (.bool (PyData.eqv (pd t) (pd u))) H) : Cmp C .Eq t u H Q := fun s v w x hv hw => by
  obtain ⟨as, r1⟩ := Den.reads t v ht hv
  obtain ⟨bs, r2⟩ := Den.reads u w hu hw
  exact SeqAt.compareEq_reads r1 r2 (dok_lay t ht) (dok_lay u hu) (by rw [cLine_eq]; have := room x; omega) (postW.same x.muts den_bool q)
/-- lists -/
theorem Lv.reads {s : Shared} {t : PT} {ts : List PT} {v : Value} (l : Lv H t ts) (m : Muts s.heap H) (k : doks ts = true) (d : Den s.heap H t v) : ∃ as, Reads s.heap v (.list (pds ts)) as := by
  obtain ⟨a, vs, rfl, ⟨n, e⟩, h3⟩ := l.at m d
  obtain ⟨as, r⟩ := Dens.reads ts _ k h3
  exact ⟨_, .list e rfl rfl r⟩
theorem cmp_eql {t u : PT} {ts us : List PT} (lt : Lv H t ts) (lu : Lv H u us) (ht : doks ts = true) (hu : doks us = true) (hd : PyData.depthAll (pds ts) ≤ 100) (q : Q (.bool (PyData.eqvAll (pds ts) (pds us))) H) : Cmp C .Eq t u H Q := fun s v w x hv hw => by
  obtain ⟨as, r1⟩ := lt.reads x.muts ht hv
  obtain ⟨bs, r2⟩ := lu.reads x.muts hu hw
  refine SeqAt.compareEq_reads r1 r2 (by simp only [PyData.canLay0]; exact doks_lay ts ht) (by simp only [PyData.canLay0]; exact doks_lay us hu) (by rw [cLine_eq]; have := room x; simp only [PyData.depth]; omega) (postW.same x.muts den_bool ?_)
  simpa only [PyData.eqv] using q
theorem cmp_nel {t u : PT} {ts us : List PT} (lt : Lv H t ts) (lu : Lv H u us) (ht : doks ts = true) (hu : doks us = true) (hd : PyData.depthAll (pds ts) ≤ 100) (q : Q (.bool (!PyData.eqvAll (pds ts) (pds us))) H) : Cmp C .NotEq t u H Q := fun s v w x hv hw => by
  obtain ⟨as, r1⟩ := lt.reads x.muts ht hv
  obtain ⟨bs, r2⟩ := lu.reads x.muts hu hw
  refine SeqAt.compareNe_reads r1 r2 (by simp only [PyData.canLay0]; exact doks_lay ts ht) (by simp only [PyData.canLay0]; exact doks_lay us hu) (by rw [cLine_eq]; have := room x; simp only [PyData.depth]; omega) (postW.same x.muts den_bool ?_)
  simpa only [PyData.eqv] using q
theorem cmp_eq_ints {t u : PT} {xs ys : List Int} (lt : Lv H t (xs.map PT.int)) (lu : Lv H u (ys.map PT.int)) (q : Q (.bool (xs == ys)) H) : Cmp C .Eq t u H Q :=
  cmp_eql lt lu (doks_ints xs) (doks_ints ys) (by have := depth_ints xs; omega) (by rw [eqv_ints]; exact q)
theorem cmp_ne_ints {t u : PT} {xs ys : List Int} (lt : Lv H t (xs.map PT.int)) (lu : Lv H u (ys.map PT.int)) (q : Q (.bool (xs != ys)) H) : Cmp C .NotEq t u H Q :=
  cmp_nel lt lu (doks_ints xs) (doks_ints ys) (by have := depth_ints xs; omega) (by rw [eqv_ints]; exact q)
end


section
variable {C : Cx} {σ : Sg} {H : AH} {Q : PT → AH → Prop}

/-- a new list in the frame -/
theorem ev_newlist {es : List Expr} {pos : Pos} (h : Evs C es σ H fun ts H' => ts.length ≤ 16777216 ∧ ∀ a, H' a = Option.none → C.lo ≤ a → Q (.mut a) (hup H' a ts)) : Ev C (.List es pos) σ H Q := ev_trk (eva_list h)
end

theorem filterMap_range {α β : Type} (f : α → Option β) : ∀ (xs : List α), (List.range xs.length).filterMap (fun k => xs[k]?.bind f) = xs.filterMap f := by
  intro xs
  have : ∀ (xs ys : List α), (List.range xs.length).filterMap (fun k => (ys ++ xs)[k + ys.length]?.bind f) = xs.filterMap f := by
    intro xs
    induction xs with
    | nil => intro ys; rfl
    | cons x xs ih =>
      intro ys
      rw [List.length_cons, List.range_succ_eq_map, List.filterMap_cons, List.filterMap_map]
      have h0 : (ys ++ x :: xs)[0 + ys.length]? = some x := by simp
      rw [h0]
      have h1 : (List.range xs.length).filterMap ((fun k => (ys ++ x :: xs)[k + ys.length]?.bind f) ∘ Nat.succ) = xs.filterMap f := by
        have := ih (ys ++ [x])
        rw [← this]
        congr 1
        funext k
        simp only [Function.comp, List.append_assoc, List.cons_append, List.nil_append, List.length_append, List.length_cons, List.length_nil]
        congr 2
        omega
      rw [h1, List.filterMap_cons]
      rfl
  simpa using this xs []

section
variable {C : Cx} {σ : Sg} {H : AH} {Q : PT → AH → Prop}

/-- a comprehension over things that are written as trees -/
theorem ev_compM {α : Type} {elt target iter : Expr} {ifs : List Expr} {scope : Scope} {pos : Pos} {QA : List PT → AH → Prop} (enc : α → PT) (f : α → Option PT)
    (h : Ev C iter σ H fun t H₁ => ∃ (xs : List α), Itr C H₁ t (xs.map enc) false ∧ xs.length ≤ 16777216 ∧ (∀ x w, f x = some w → NM w = true) ∧
      (∀ L lo x Hf, x ∈ xs → (∀ a us, H₁ a = some us → Hf a = some us) → CTurn (cmpC C scope L lo) target elt ifs (σc scope σ) Hf (enc x) (f x)) ∧ QA (xs.filterMap f) H₁)
    (hfv : FvOk C σ (frees scope)) (hsc : scOk scope = true := by decide) (hkind : scope.kind = .function := by rfl) (hs : ∀ x, foldedSetIterable iter C.env x = pure x := by intro _; rfl) :
    EvA C (.ListComp elt [⟨target, iter, ifs, 0⟩] scope pos) σ H QA := by
  refine ev_comp (h.mono fun t H₁ ⟨xs, h1, h2, h3, h4, h5⟩ => ⟨xs.map enc, fun k => xs[k]?.bind f, h1, by rw [List.length_map, sizeLine_eq]; exact h2, ?_, ?_, ?_⟩) hfv hsc hkind hs
  · intro k w e
    replace e : xs[k]?.bind f = some w := e
    cases q : xs[k]? with
    | none => rw [q] at e; cases e
    | some x => rw [q] at e; exact h3 x w e
  · intro L lo k u Hf hu hH
    rw [List.getElem?_map] at hu
    cases q : xs[k]? with
    | none => rw [q] at hu; cases hu
    | some x =>
      rw [q] at hu
      cases hu
      show CTurn _ _ _ _ _ _ _ (xs[k]?.bind f)
      rw [q]
      exact h4 L lo x Hf (List.mem_of_getElem? q) hH
  · rw [List.length_map, filterMap_range]; exact h5
theorem ex_set_compM {α : Type} {R : Fl → Sg → AH → Prop} {y : Str} {py : Pos} {elt target iter : Expr} {ifs : List Expr} {scope : Scope} {pos pos₂ : Pos} (trk : Bool) (enc : α → PT) (f : α → Option PT)
    (h : Ev C iter σ H fun t H₁ => ∃ (xs : List α), Itr C H₁ t (xs.map enc) false ∧ xs.length ≤ 16777216 ∧ (∀ x w, f x = some w → NM w = true) ∧
      (∀ L lo x Hf, x ∈ xs → (∀ a us, H₁ a = some us → Hf a = some us) → CTurn (cmpC C scope L lo) target elt ifs (σc scope σ) Hf (enc x) (f x)) ∧
      (if trk = true then ∀ a, H₁ a = Option.none → C.lo ≤ a → R .next (upd σ y (.mut a)) (hup H₁ a (xs.filterMap f)) else R .next (upd σ y (.lst (xs.filterMap f))) H₁))
    (hfv : FvOk C σ (frees scope)) (hsc : scOk scope = true := by decide) (hkind : scope.kind = .function := by rfl) (hs : ∀ x, foldedSetIterable iter C.env x = pure x := by intro _; rfl) (hy : stb C y = true := by rfl)
    (hw : swapsWithSole [.Name y py] (.ListComp elt [⟨target, iter, ifs, 0⟩] scope pos) pos₂.line C.env = pure true := by rfl) :
    Ex C (.Assign [.Name y py] (.ListComp elt [⟨target, iter, ifs, 0⟩] scope pos) pos₂) σ H R := by
  refine ex_set_comp trk (h.mono fun t H₁ ⟨xs, h1, h2, h3, h4, h5⟩ => ⟨xs.map enc, fun k => xs[k]?.bind f, h1, by rw [List.length_map, sizeLine_eq]; exact h2, ?_, ?_, ?_⟩) hfv hsc hkind hs hy hw
  · intro k w e
    replace e : xs[k]?.bind f = some w := e
    cases q : xs[k]? with
    | none => rw [q] at e; cases e
    | some x => rw [q] at e; exact h3 x w e
  · intro L lo k u Hf hu hH
    rw [List.getElem?_map] at hu
    cases q : xs[k]? with
    | none => rw [q] at hu; cases hu
    | some x =>
      rw [q] at hu
      cases hu
      show CTurn _ _ _ _ _ _ _ (xs[k]?.bind f)
      rw [q]
      exact h4 L lo x Hf (List.mem_of_getElem? q) hH
  · rw [List.length_map, filterMap_range]; exact h5

/-- one frame within -/
def inC (C : Cx) : Cx := { C with A := C.A.in1, d := 0 }
theorem Bs.inC {s : Shared} (x : Bs C H s) (hd : 1 ≤ C.d) : Bs (inC C) H s := by
  refine ⟨⟨x.ok.G, x.ok.hh, ?_, ?_, x.ok.kind, x.ok.glob, x.ok.blt, x.ok.low, x.ok.loc⟩, x.base, x.muts, x.lo⟩
  · have := x.ok.depth
    show C.A.depth + 0 ≤ 900
    omega
  · have := x.ok.units
    show C.A.units + 1 + 10 * 0 ≤ 9000
    omega

theorem argBest_lt (bt : Nat → Nat → Bool) : ∀ n, argBest bt n ≤ n
  | 0 => Nat.le_refl _
  | n + 1 => by
    have := argBest_lt bt n
    simp only [argBest]; split <;> omega
theorem argBest_max (ns : List Int) (bt : Nat → Nat → Bool) (hb : ∀ i j, bt i j = decide (ns.getD j 0 < ns.getD i 0)) : ∀ n i, i ≤ n → ns.getD i 0 ≤ ns.getD (argBest bt n) 0
  | 0, i, h => by
    have : i = 0 := by omega
    subst this; exact Int.le_refl _
  | n + 1, i, h => by
    simp only [argBest]
    rcases Nat.lt_or_ge i (n + 1) with q | q
    · have := argBest_max ns bt hb n i (by omega)
      split
      · rename_i z; rw [hb] at z; simp only [decide_eq_true_eq] at z; omega
      · exact this
    · have : i = n + 1 := by omega
      subst this
      split
      · exact Int.le_refl _
      · rename_i z; rw [hb] at z; simp only [decide_eq_true_eq] at z; omega
/-- ''.join(list of texts) -/
theorem strsAre_of {h : Heap} : ∀ (ls : List (List Nat)) (vs : List Value), Dens h H (ls.map fun l => PT.str (tx l)) vs → StrsAre vs (ls.map tx)
  | [], _, d => by cases of_nil d; exact .nil
  | l :: ls, _, d => by
    obtain ⟨v, r, rfl, h1, h2⟩ := of_cons d
    obtain ⟨tk, rfl⟩ := of_str h1
    exact .cons _ tk (strsAre_of ls r h2)
theorem join_tx (ls : List (List Nat)) : Txt.join (tx []) (ls.map tx) = tx ls.flatten := by
  have key : ∀ x : Str, x.cps.toList = ls.flatten → x = tx ls.flatten := fun x h => by rw [← h, tx_of]
  refine key _ ?_
  unfold Txt.join
  cases ls with
  | nil => simp [Builtin.Str.glued, Str.empty]
  | cons l ls =>
    simp only [List.map_cons, Builtin.Str.glued]
    have : ∀ (ls : List (List Nat)) (acc : Array Nat), (List.foldl (fun acc p => acc ++ (tx []).cps ++ p.cps) acc (ls.map tx)).toList = acc.toList ++ ls.flatten := by
      intro ls
      induction ls with
      | nil => intro acc; simp
      | cons m ls ih =>
        intro acc
        rw [List.map_cons, List.foldl_cons, ih]
        simp [tx]
    show (List.foldl (fun acc p => acc ++ (tx []).cps ++ p.cps) (tx l).cps (ls.map tx)).toList = _
    rw [this]
    simp [tx]
theorem join_txt {t : PT} {ls : List (List Nat)} (l : Lv H t (ls.map fun l => PT.str (tx l))) (q : Q (.str (tx ls.flatten)) H) (h : (ls.map List.length).sum ≤ 16777216) : Blt C "str.join" [.str (tx []), t] H Q := fun s vs x hv => by
  obtain ⟨v, w, rfl, hv, hw⟩ := of_two hv
  obtain ⟨tk, rfl⟩ := of_str hv
  obtain ⟨a, ws, rfl, hl, hd⟩ := l.at x.muts hw
  refine join_list hl.isList (strsAre_of ls _ hd) ?_ fun t' k => ?_
  · rw [tx_length]
    have e : (ls.map tx).map (·.length) = ls.map List.length := by
      rw [List.map_map]; refine List.map_congr_left fun l _ => ?_; exact tx_length l
    rw [e]
    simpa using h
  · rw [join_tx]
    exact postW.toks _ x.muts den_str q
end

theorem σc_at {scope : Scope} {σ : Sg} {x : Str} (hm : (frees scope).contains x = true) : σc scope σ x = σ x := by
  unfold σc
  rw [if_pos (by simpa using hm)]
theorem σc_look {scope : Scope} {σ : Sg} {x : Str} {r : Option PT} (hm : (frees scope).contains x = true) (e : σ x = r) : σc scope σ x = r := (σc_at hm).trans e
theorem σc_none {scope : Scope} {σ : Sg} {x : Str} (hm : (frees scope).contains x = false := by decide) : σc scope σ x = Option.none := by
  unfold σc
  rw [if_neg (by simpa using hm)]
theorem fv_nil {C : Cx} {σ : Sg} : FvOk C σ [] := trivial
theorem fv_cons {C : Cx} {σ : Sg} {x : Str} {xs : List Str} {t : PT} (h : σ x = some t) (r : FvOk C σ xs) (hk : C.env.kindOf x = some .cell := by rfl) : FvOk C σ (x :: xs) := ⟨⟨t, h⟩, by rw [hk]; decide, r⟩
theorem cturn_name {C : Cx} {y : Str} {p : Pos} {elt : Expr} {ifs : List Expr} {σ : Sg} {Hf : AH} {u : PT} {r : Option PT} (hy : σ y = Option.none)
    (h : Tsts C ifs (upd σ y u) Hf fun b H₃ => H₃ = Hf ∧ if b = true then Ev C elt (upd σ y u) Hf fun w H₄ => H₄ = Hf ∧ r = some w else r = Option.none) (hs : stb C y = true := by rfl) : CTurn C (.Name y p) elt ifs σ Hf u r := by
  refine asg_name ⟨rfl, fun x t e => ?_, h⟩ hs
  unfold upd
  split
  · rename_i q; subst q; rw [hy] at e; cases e
  · exact e
theorem rngL_nat (n : Nat) : rngL 0 1 n = (List.range n).map fun (i : Nat) => PT.int (i : Int) := by
  unfold rngL
  refine List.map_congr_left fun i _ => ?_
  congr 1
  omega
theorem itr_nats {C : Cx} {H : AH} {n : Nat} {m : Int} {fr : Bool} (hm : m = (n : Int)) (h : n ≤ 1000000000) : Itr C H (.rng 0 m 1) ((List.range n).map fun (i : Nat) => PT.int (i : Int)) fr := by
  subst hm
  rw [← rngL_nat]
  exact itr_upto h
theorem filterMap_some {α β : Type} (xs : List α) (e : α → β) : xs.filterMap (fun x => some (e x)) = xs.map e := by
  induction xs with
  | nil => rfl
  | cons x xs ih => rw [List.filterMap_cons, ih]; rfl
theorem cturn_map {C : Cx} {y : Str} {p : Pos} {elt : Expr} {σ : Sg} {Hf : AH} {t v : PT} (hy : σ y = Option.none) (h : Ev C elt (upd σ y t) Hf fun w H₄ => H₄ = Hf ∧ w = v) (hs : stb C y = true := by rfl) : CTurn C (.Name y p) elt [] σ Hf t (some v) := by
  refine cturn_name hy (tsts_nil ⟨rfl, ite_true' (h.mono fun w H₄ ⟨e1, e2⟩ => ⟨e1, by rw [e2]⟩)⟩) hs
section
variable {C : Cx} {σ : Sg} {H : AH} {Q : PT → AH → Prop}
/-- a sign of a text, by a place within -/
theorem sub_txt {l : List Nat} {i : Int} {c : Nat} (h1 : 0 ≤ i) (h2 : i < l.length) (hb : l.length ≤ 16777216) (hc : l[i.toNat]? = some c) (q : Q (.str (tx [c])) H) : Sub C (.str (tx l)) (.int i) H Q :=
  sub_str (c := c) (by rw [tx_length]; omega) (by rw [tx_length]; omega) (by rw [tx_length]; exact hb) (by rw [place_nonneg h1, tx_cps]; exact hc) q
/-- an item of a list, by a place within -/
theorem sub_at {o : PT} {ts : List PT} {i : Int} {t : PT} (l : Lv H o ts) (h1 : 0 ≤ i) (h2 : i < ts.length) (hb : ts.length ≤ 16777216) (ht : ts[i.toNat]? = some t) (q : Q t H) : Sub C o (.int i) H Q :=
  sub_lst l (by omega) h2 hb (by rw [place_nonneg h1]; exact ht) q
end

section
variable {C : Cx} {σ : Sg} {H : AH} {R : Fl → Sg → AH → Prop}
/-- a statement by what is known behind it -/
theorem exs_cut {st : Stmt} {rest : List Stmt} (M : Sg → AH → Prop) (h : Ex C st σ H fun f σ' H' => f = .next ∧ M σ' H') (k : ∀ σ' H', M σ' H' → Exs C rest σ' H' R) : Exs C (st :: rest) σ H R :=
  exs_cons (h.mono fun f σ' H' ⟨e, m⟩ => by subst e; exact then_next (k σ' H' m))
end
section
variable {C : Cx} {σ : Sg} {H : AH} {Q : PT → AH → Prop}
theorem bin_pow {i j : Int} (h0 : 0 ≤ j) (h1 : j ≤ 1000000) (h2 : i.natAbs < 2 ^ 64) (q : Q (.int (i ^ j.toNat)) H) : Bin C .Pow (.int i) (.int j) H Q := fun s v w x hv hw => by
  obtain ⟨t, rfl⟩ := of_int hv; obtain ⟨u, rfl⟩ := of_int hw
  exact pow_int_small h0 h1 h2 (postW.toks _ x.muts den_int q)
end
/-- many lists of the same items -/
def hups (H : AH) (as : List Addr) (us : List PT) : AH := fun b => if b ∈ as then some us else H b
theorem hups_nil (H : AH) (us : List PT) : hups H [] us = H := by funext b; simp [hups]
/-- new addresses, apart from each other and behind D -/
def AsOk (H : AH) (D : Addr) (as : List Addr) : Prop := as.Nodup ∧ ∀ a ∈ as, H a = Option.none ∧ D < a
/-- a turn of a comprehension whose items are new lists -/
def CTurnF (C : Cx) (target elt : Expr) (σ : Sg) (Hf : AH) (u : PT) (us : List PT) : Prop :=
  Asg C target u σ Hf fun σ' H' => H' = Hf ∧ (∀ x t, σ x = some t → σ' x = some t) ∧ Ev C elt σ' Hf fun w H₄ => ∃ a, w = .mut a ∧ Hf a = Option.none ∧ C.lo ≤ a ∧ H₄ = hup Hf a us
theorem comp_loopF {C : Cx} {scope : Scope} {L : Nat} {σ : Sg} {H : AH} {s₁ s₄ : Shared} {D I : Addr} {fp : List Addr} {Pr : Nat → Value → Prop} {S : Nat → Heap → Prop} {ts : List PT} {us : List PT}
    {elt target iter : Expr} {scope' : Scope} {pos : Pos} {R : Result → Shared → Prop}
    (W : Walks C.G.prog C.G.w C.A I (I :: fp) [I] ts.length Pr S) (hS : S 0 s₄.heap) (hob : ∀ i h, S i h → ∃ o, h.get? I = some o ∧ ItO o) (hfp : ∀ b ∈ fp, ∃ o, s₁.heap.get? b = some o)
    (hit : ∀ i v, Pr i v → ∃ t, ts[i]? = some t ∧ Den s₁.heap H t v) (hn : ts.length ≤ sizeLine)
    (x₄ : St (cmpC C scope L D) (σc scope σ) (hup H D []) s₄) (hsame : ∃ h tk, s₄ = { s₁ with heap := h, toks := tk }) (hk₄ : ∀ b o, s₁.heap.get? b = some o → s₄.heap.get? b = some o)
    (hI1 : s₁.heap.objs.size ≤ I) (hID : I < D) (hDL : D < L) (hb : C.G.h₀.objs.size ≤ s₁.heap.objs.size) (hHD : H D = Option.none)
    (turn : ∀ (k : Nat) u Hf, ts[k]? = some u → (∀ a us, H a = some us → Hf a = some us) → CTurnF (cmpC C scope L D) target elt (σc scope σ) Hf u us)
    (fin : ∀ s' as, AsOk H D as → as.length = ts.length → St (cmpC C scope L D) (σc scope σ) (hup (hups H as us) D (as.map PT.mut)) s' → (∃ h tk, s' = { s₁ with heap := h, toks := tk }) → (∀ b o, s₁.heap.get? b = some o → s'.heap.get? b = some o) → R (.ok .next) s') :
    codeAny C.M C.A (.compLoop (.ListComp elt [⟨target, iter, [], 0⟩] scope' pos) 0 (.ref I) (.ref D) (cmpC C scope L D).env) R s₄ := by
  refine compLoop_any (fun k s' => ∃ i as, i ≤ ts.length ∧ k = ts.length + 1 - i ∧ AsOk H D as ∧ as.length = i ∧ St (cmpC C scope L D) (σc scope σ) (hup (hups H as us) D (as.map PT.mut)) s' ∧ S i s'.heap ∧
    (∃ h tk, s' = { s₁ with heap := h, toks := tk }) ∧ (∀ b o, s₁.heap.get? b = some o → s'.heap.get? b = some o)) (fun k s' hI => ?_) (ts.length + 1)
    ⟨0, [], Nat.zero_le _, rfl, ⟨by simp, by simp⟩, rfl, by rw [hups_nil]; exact x₄, hS, hsame, hk₄⟩
  obtain ⟨i, as, hle, rfl, hA, hAl, x', hS', hsm', hk'⟩ := hI
  have hob' := hob i _ hS'
  have hbI : (cmpC C scope L D).G.h₀.get? I = Option.none := by
    cases q : C.G.h₀.get? I with
    | none => exact q
    | some o => exact absurd (Heap.lt_size q) (Nat.not_lt.mpr (Nat.le_trans hb hI1))
  by_cases hlt : i < ts.length
  · refine W.item i _ _ _ hlt hS' fun w h' tk hP hS'' hkw => ?_
    obtain ⟨xa, dk⟩ := x'.turn (tk := tk) hob' hbI hkw
    obtain ⟨u, hu, hd⟩ := hit i w hP
    have ka : ∀ b o, s₁.heap.get? b = some o → h'.get? b = some o := fun b o e =>
      hkw b o (fun q => by rw [List.mem_singleton] at q; subst q; exact absurd (Heap.lt_size e) (Nat.not_lt.mpr hI1)) (hk' b o e)
    have big : ∀ b o, s₁.heap.get? b = some o → b < D := fun b o e => Nat.lt_of_lt_of_le (Heap.lt_size e) (Nat.le_trans hI1 (Nat.le_of_lt hID))
    have hfH : ∀ a us', H a = some us' → hup (hups H as us) D (as.map PT.mut) a = some us' := fun a us' e => by
      have hne : a ≠ D := by rintro rfl; rw [hHD] at e; cases e
      rw [hup_ne hne rfl]
      unfold hups
      rw [if_neg]
      · exact e
      · intro hm; rw [(hA.2 a hm).1] at e; cases e
    have hfN : ∀ a, H a = Option.none → a < D → hup (hups H as us) D (as.map PT.mut) a = Option.none := fun a e hlt => by
      rw [hup_ne (Nat.ne_of_lt hlt) rfl]
      unfold hups
      rw [if_neg]
      · exact e
      · intro hm; exact absurd (hA.2 a hm).2 (Nat.not_lt.mpr (Nat.le_of_lt hlt))
    have hda : Den h' (hup (hups H as us) D (as.map PT.mut)) u w := Den.mono' (fun a o _ e q => ⟨ka a o e, hfN a q (big a o e)⟩) u w (.inr fun a q => by
      cases z : H a with
      | none => exact absurd z q
      | some us' => rw [hfH a us' z]; simp) hd
    refine owned_go (hob (i + 1) _ hS'') ?_
    have T := turn i u (hup (hups H as us) D (as.map PT.mut)) hu hfH
    have fzI : ∀ Hx : AH, Fz (cmpC C scope L D) Hx I := fun Hx => ⟨Nat.ne_of_lt (Nat.lt_trans hID hDL), fun q => (nomatch q), .inr hID⟩
    have fz1 : ∀ (Hx : AH) b o, s₁.heap.get? b = some o → Fz (cmpC C scope L D) Hx b := fun Hx b o e =>
      have h1 := Nat.lt_of_lt_of_le (Heap.lt_size e) (Nat.le_trans hI1 (Nat.le_of_lt hID))
      ⟨Nat.ne_of_lt (Nat.lt_trans h1 hDL), fun q => (nomatch q), .inr h1⟩
    refine wpAny_mono (T { s' with heap := h', toks := tk } w xa hda) (fun _ sc qc => ?_) fun _ _ f => f
    obtain ⟨σ₂, H₂, xc, kc, rfl, hσ, qt⟩ := qc
    rw [List.forIn_nil]
    refine wpAny_pure ?_
    simp only [if_true]
    refine (qt sc xc.toSv).then fun y wt s₅ H₅ e₅ m₅ d₅ q₅ => ?_
    obtain ⟨a, rfl, ha, hlo, rfl⟩ := q₅
    have hla : D ≤ a := hlo
    have hanD : a ≠ D := by rintro rfl; rw [hup_same] at ha; cases ha
    have haA : a ∉ as := fun hm => by
      rw [hup_ne hanD rfl] at ha
      unfold hups at ha
      rw [if_pos hm] at ha; cases ha
    have haH : H a = Option.none := by
      rw [hup_ne hanD rfl] at ha
      unfold hups at ha
      rw [if_neg haA] at ha; exact ha
    have x₅ := xc.ext e₅ m₅
    have k₅ := kc.trans (Kp.of_ext e₅)
    have hD5 : hup (hup (hups H as us) D (as.map PT.mut)) a us D = some (as.map PT.mut) := hup_ne (Ne.symm hanD) hup_same
    obtain ⟨vs, hl, hdv⟩ := x₅.muts D _ hD5
    have hvs : vs.size ≤ sizeLine := by
      have h1 := hdv.length
      rw [List.length_map, Array.length_toList] at h1
      omega
    refine wpAny_list_append_plain (hsz := hvs) hl fun h₆ hl₆ hs₆ => ?_
    have hw := st_write (C := cmpC C scope L D) (us := as.map PT.mut ++ [.mut a]) (tk := s₅.toks) x₅ hD5 (Nat.le_refl _) hl₆ hs₆ (by
      rw [Array.toList_push]; exact hdv.append (dens_cons d₅ dens_nil))
    have ee : hup (hup (hup (hups H as us) D (as.map PT.mut)) a us) D (as.map PT.mut ++ [.mut a]) = hup (hups H (as ++ [a]) us) D ((as ++ [a]).map PT.mut) := by
      funext b
      simp only [hup, hups, List.map_append, List.map_cons, List.map_nil, List.mem_append, List.mem_singleton]
      by_cases z : b = D
      · simp only [if_pos z]
      · simp only [if_neg z]
        by_cases z' : b = a
        · simp only [z', or_true, if_true]
        · simp only [z', or_false, if_false]
    rw [ee] at hw
    have k₆ := k₅.trans hw.2
    refine ⟨ts.length + 1 - (i + 1), by omega, i + 1, as ++ [a], hlt, rfl, ⟨?_, ?_⟩, by simp [hAl], hw.1.less hσ, ?_, ?_, fun b o e => k₆.keep b o (ka b o e) (fz1 _ b o e)⟩
    · rw [List.nodup_append]
      exact ⟨hA.1, by simp, fun x hx y hy e => by rw [List.mem_singleton] at hy; subst hy; subst e; exact haA hx⟩
    · intro x hx
      rcases List.mem_append.mp hx with hx | hx
      · exact hA.2 x hx
      · rw [List.mem_singleton] at hx; subst hx; exact ⟨haH, Nat.lt_of_le_of_ne hla (Ne.symm hanD)⟩
    · refine W.frame _ _ _ hS'' fun b hb' o e => k₆.keep b o e ?_
      rcases List.mem_cons.mp hb' with rfl | hb'
      · exact fzI _
      · obtain ⟨o', e'⟩ := hfp b hb'
        exact fz1 _ b o' e'
    · obtain ⟨h5, t5, e5⟩ := k₆.same
      obtain ⟨h6, t6, rfl⟩ := hsm'
      exact ⟨h5, t5, e5⟩
  · have hin : i = ts.length := by omega
    subst hin
    refine W.done _ _ _ hS' fun h' tk hkw => ?_
    obtain ⟨xa, dk⟩ := x'.turn (tk := tk) hob' hbI hkw
    refine fin _ as hA hAl xa ?_ fun b o e => hkw b o (fun q => by rw [List.mem_singleton] at q; subst q; exact absurd (Heap.lt_size e) (Nat.not_lt.mpr hI1)) (hk' b o e)
    obtain ⟨h6, t6, rfl⟩ := hsm'
    exact ⟨h', tk, rfl⟩


theorem comp_allF {C : Cx} {σ : Sg} {H : AH} {s : Shared} {elt target iter : Expr} {scope : Scope} {pos pos' : Pos} {use : Option (Value → Sem Unit)} {QA : Nat → List PT → AH → Prop} {QQ : Value → Shared → Prop} (x : Sv C σ H s)
    (h : Ev C iter σ H fun t H₁ => ∃ (ts us : List PT), Itr C H₁ t ts false ∧ ts.length ≤ sizeLine ∧
      (∀ L lo (k : Nat) u Hf, ts[k]? = some u → (∀ a us, H₁ a = some us → Hf a = some us) → CTurnF (cmpC C scope L lo) target elt (σc scope σ) Hf u us) ∧ QA ts.length us H₁)
    (fin : ∀ s₁ H₁ s' D L us n as, Ext s H s₁ H₁ → Muts s₁.heap H₁ → QA n us H₁ → as.length = n → AsOk H₁ D as → Keeps s₁ s' → s₁.heap.objs.size ≤ D → D < L → H₁ D = Option.none → H₁ L = Option.none → Muts s'.heap (hup (hups H₁ as us) D (as.map PT.mut)) → (∃ m, s'.heap.Ns L m) → compPost C.M C.A no use QQ (.ref D) L (.ok .next) s')
    (hfv : FvOk C σ (frees scope)) (hsc : scOk scope = true) (hkind : scope.kind = .function) (hs : ∀ x, foldedSetIterable iter C.env x = pure x) :
    wpAny C.M C.A (comprehension (.ListComp elt [⟨target, iter, [], 0⟩] scope pos) scope C.env pos' (newList []) false (eval iter C.env) use) QQ no s := by
  simp only [scOk, Bool.and_eq_true] at hsc
  obtain ⟨⟨hc1, hc2⟩, hc3⟩ := hsc
  have hcell : ∀ p ∈ scope.names, p.2 ≠ .cell := fun p hp => by simpa using List.all_eq_true.mp hc1 p hp
  have hfree : ∀ y ∈ frees scope, scope.names.lookup y = some .free := fun y hy => by simpa using List.all_eq_true.mp hc2 y hy
  have hnames : ∀ p ∈ scope.names, p.2 = .local → scope.names.lookup p.1 = some .local := fun p hp hl => by
    have := List.all_eq_true.mp hc3 p hp
    rw [hl] at this
    simpa using this
  have hclos : closureFor scope C.env = pure (clo scope.names C.env []) := closure_is fun n hn => by
    obtain ⟨⟨t, ht⟩, hl⟩ := hfv.mem n (mem_frees hn)
    obtain ⟨_, c, _, hc, _⟩ := x.cells n t ht hl
    rw [hc]; rfl
  refine wpAny_comprehension_free (cl := clo scope.names C.env []) rfl hs hclos hkind hnames ((h s x).then fun v t s₁ H₁ e₁ m₁ d₁ q₁ => ?_)
  obtain ⟨ts, us₀, hi, hn, turn, hq⟩ := q₁
  have x₁ := x.ext e₁ m₁
  refine wpAny_mono (hi s₁ v x₁.toBs d₁) (fun it s₂ q₂ => ?_) fun _ _ f => f
  obtain ⟨I, fp, Pr, S, rfl, W, hS, hk, hI, hob, hfp, hit⟩ := q₂
  refine wpAny_newList ?_ (by simp)
  refine wpAny_newFunctionEnv hcell (by intro y hy; simp at hy) (fun h₁ hns₁ hsb₁ => ?_) hkind
  dsimp only at hns₁ hsb₁ ⊢
  generalize hH2 : s₂.heap.push { cls := .type "list", dict := Option.none, data := .seq ([] : List Value).toArray } = H2 at hns₁ hsb₁ ⊢
  have hL : H2.objs.size = s₂.heap.objs.size + 1 := by rw [← hH2, Heap.size_push]
  have hDL : s₂.heap.objs.size < H2.objs.size := by rw [hL]; exact Nat.lt_succ_self _
  obtain ⟨oI, hoI, _⟩ := hob 0 _ hS
  have hID : I < s₂.heap.objs.size := Heap.lt_size hoI
  have k24 : ∀ b o, s₂.heap.get? b = some o → h₁.get? b = some o := fun b o e =>
    hsb₁.extBut b o (Nat.ne_of_lt (Nat.lt_trans (Heap.lt_size e) hDL)) (Heap.get?_push_of_some _ (hH2 ▸ Heap.get?_push_of_some _ e))
  have k14 : ∀ b o, s₁.heap.get? b = some o → h₁.get? b = some o := fun b o e => k24 b o (Keeps.get hk e)
  have hD1 : s₁.heap.objs.size ≤ s₂.heap.objs.size := Nat.le_trans hI (Nat.le_of_lt hID)
  have hHD : H₁ s₂.heap.objs.size = Option.none := by
    cases z : H₁ s₂.heap.objs.size with
    | none => rfl
    | some us => obtain ⟨_, ⟨_, q⟩, _⟩ := m₁ _ us z; exact absurd (Heap.lt_size q) (Nat.not_lt.mpr hD1)
  have hHL : H₁ H2.objs.size = Option.none := by
    cases z : H₁ H2.objs.size with
    | none => rfl
    | some us => obtain ⟨_, ⟨_, q⟩, _⟩ := m₁ _ us z; exact absurd (Heap.lt_size q) (Nat.not_lt.mpr (Nat.le_trans hD1 (Nat.le_of_lt hDL)))
  have hacc : h₁.PlainList s₂.heap.objs.size #[] := ⟨0, hsb₁.extBut _ _ (Nat.ne_of_lt hDL) (Heap.get?_push_of_some _ (hH2 ▸ Heap.get?_push_size _ rfl))⟩
  have hlow : C.G.h₀.objs.size ≤ s₁.heap.objs.size := Nat.le_trans x₁.ok.low x₁.lo
  have up : ∀ t v, Den s₁.heap H₁ t v → Den h₁ (hup H₁ s₂.heap.objs.size []) t v := fun t v => Den.mono' (fun b o _ e q =>
    ⟨k14 b o e, hup_ne (Nat.ne_of_lt (Nat.lt_of_lt_of_le (Heap.lt_size e) hD1)) q⟩) t v (.inr fun b q => by
      by_cases z : b = s₂.heap.objs.size
      · rw [z, hup_same]; simp
      · rw [hup_ne z rfl]; exact q)
  have ups : ∀ t v, Dens s₁.heap H₁ t v → Dens h₁ (hup H₁ s₂.heap.objs.size []) t v := fun t v => Dens.mono' (fun b o _ e q =>
    ⟨k14 b o e, hup_ne (Nat.ne_of_lt (Nat.lt_of_lt_of_le (Heap.lt_size e) hD1)) q⟩) t v (.inr fun b q => by
      by_cases z : b = s₂.heap.objs.size
      · rw [z, hup_same]; simp
      · rw [hup_ne z rfl]; exact q)
  have seen : ∀ y, y ∈ frees scope → ∃ t c v, σ y = some t ∧ (clo scope.names C.env []).lookup y = some c ∧ h₁.IsCell c (some v) ∧ Den h₁ (hup H₁ s₂.heap.objs.size []) t v := fun y hy => by
    obtain ⟨⟨t, ht⟩, hl⟩ := hfv.mem y hy
    obtain ⟨_, c, v, hc, h3, h4⟩ := x₁.cells y t ht hl
    exact ⟨t, c, v, ht, clo_lookup hc _ _ (.inl (of_frees hy)), h3.keeps k14, up t v h4⟩
  have x₄ : St (cmpC C scope H2.objs.size s₂.heap.objs.size) (σc scope σ) (hup H₁ s₂.heap.objs.size []) { s₂ with heap := h₁, toks := s₂.toks + ([] : List (Str × Value)).length } := by
    refine ⟨⟨⟨⟨x.ok.G, x.ok.hh, x.ok.depth, x.ok.units, hkind, x.ok.glob, x.ok.blt, Nat.le_trans hlow hD1, Nat.le_of_lt hDL⟩, fun b o q => k14 b o (x₁.base b o q), fun b us q => ?_, ?_⟩, ⟨_, hns₁, fun y t e hl => ?_⟩, fun y t e hl => ?_⟩, ⟨fun q => (nomatch q), fun q => (nomatch q)⟩, fun y hy => ?_⟩
    · by_cases z : b = s₂.heap.objs.size
      · subst z
        rw [hup_same] at q; cases q
        exact ⟨#[], hacc, by simpa using dens_nil⟩
      · rw [hup, if_neg z] at q
        obtain ⟨vs, h1, h2⟩ := m₁ b us q
        exact ⟨vs, h1.at fun o e => k14 b o e, ups _ _ h2⟩
    · obtain ⟨o, _, _, ho, _⟩ := hns₁
      exact Nat.le_of_lt (Nat.lt_trans hDL (Heap.lt_size ho))
    · simp only [σc] at e
      split at e
      · rename_i hy
        have := relabel_free (env := C.env) (hfree y hy)
        have hl' : (scope.names.map fun (n, k) => if (k == NameKind.free && C.env.scope.kind == .function && C.env.kindOf n == some .cell) then (n, NameKind.cell) else (n, k)).lookup y = some .local := hl
        rcases this with q | q <;> rw [hl'] at q <;> cases q
      · cases e
    · simp only [σc] at e
      split at e
      · rename_i hy
        obtain ⟨t', c, v, ht, h1, h2, h3⟩ := seen y hy
        rw [e] at ht; cases ht
        exact ⟨relabel_free (env := C.env) (hfree y hy), c, v, h1, h2, h3⟩
      · cases e
    · have := relabel_cell (env := C.env) hcell hy
      obtain ⟨_, c, v, _, h1, h2, _⟩ := seen y (mem_frees (mem_of_lookup this))
      exact ⟨c, _, h1, h2⟩
  have hS₄ : S 0 h₁ := W.frame _ _ _ hS fun b _ o e => k24 b o e
  have loop : codeAny C.M C.A (.compLoop (.ListComp elt [⟨target, iter, [], 0⟩] scope pos) 0 (.ref I) (.ref s₂.heap.objs.size) (cmpC C scope H2.objs.size s₂.heap.objs.size).env)
      (compPost C.M C.A no use QQ (.ref s₂.heap.objs.size) H2.objs.size) { s₂ with heap := h₁, toks := s₂.toks + ([] : List (Str × Value)).length } := by
    refine comp_loopF (s₁ := s₁) (us := us₀) W hS₄ hob (fun b hb => let ⟨⟨o, _, e⟩, _⟩ := hfp b hb; ⟨o, e⟩) hit hn x₄ ?_ k14 hI hID hDL hlow hHD (fun k u Hf => turn _ _ k u Hf) fun s' as hA hAl x' hsm hkp => ?_
    · obtain ⟨h2, t2, rfl, _⟩ := hk
      exact ⟨h₁, _, rfl⟩
    · refine fin s₁ H₁ s' _ _ us₀ ts.length as e₁ m₁ hq hAl hA ?_ hD1 hDL hHD hHL x'.muts (let ⟨m, h1, _⟩ := x'.ns; ⟨m, h1⟩)
      obtain ⟨h6, t6, rfl⟩ := hsm
      exact ⟨h6, t6, rfl, hkp⟩
  exact codeAny_compStart_list loop (W.self 0 _ _ _ hS₄ loop)

section
variable {C : Cx} {σ : Sg} {H : AH}
/-- x = [.. for ..], x no cell -/
theorem ex_set_compF {R : Fl → Sg → AH → Prop} {y : Str} {py : Pos} {elt target iter : Expr} {scope : Scope} {pos pos₂ : Pos}
    (h : Ev C iter σ H fun t H₁ => ∃ (ts us : List PT), Itr C H₁ t ts false ∧ ts.length ≤ sizeLine ∧
      (∀ L lo (k : Nat) u Hf, ts[k]? = some u → (∀ a us, H₁ a = some us → Hf a = some us) → CTurnF (cmpC C scope L lo) target elt (σc scope σ) Hf u us) ∧
      ∀ D as, as.length = ts.length → AsOk H₁ D as → H₁ D = Option.none → C.lo ≤ D → R .next (upd σ y (.mut D)) (hup (hups H₁ as us) D (as.map PT.mut)))
    (hfv : FvOk C σ (frees scope)) (hsc : scOk scope = true := by decide) (hkind : scope.kind = .function := by rfl) (hs : ∀ x, foldedSetIterable iter C.env x = pure x := by intro _; rfl) (hy : stb C y = true := by rfl)
    (hw : swapsWithSole [.Name y py] (.ListComp elt [⟨target, iter, [], 0⟩] scope pos) pos₂.line C.env = pure true := by rfl) :
    Ex C (.Assign [.Name y py] (.ListComp elt [⟨target, iter, [], 0⟩] scope pos) pos₂) σ H R := fun s x => by
  rw [exec_Assign_arm]
  refine wpAny_bind (wpAny_standAt ?_)
  rw [hw]
  refine wpAny_bind (wpAny_pure ?_)
  rw [if_pos rfl]
  refine wpAny_bind ?_
  show wpAny C.M C.A (do let _ ← comprehension (.ListComp elt [⟨target, iter, [], 0⟩] scope pos) scope C.env (firstIterPos [⟨target, iter, [], 0⟩] pos) (newList []) false (eval iter C.env) (some fun v => assign (.Name y py) C.env v)) _ _ s
  refine wpAny_bind ?_
  refine comp_allF (QA := fun n us H₁ => ∀ D as, as.length = n → AsOk H₁ D as → H₁ D = Option.none → C.lo ≤ D → R .next (upd σ y (.mut D)) (hup (hups H₁ as us) D (as.map PT.mut))) x.toSv h (fun s₁ H₁ s' D L us n as e m q hal hA ckeeps cdsize clsize cnone cnoneL cmuts cns => ?_) hfv hsc hkind hs
  have x₁ := x.ext e m
  have hDn : s₁.heap.get? D = Option.none := by
    cases z : s₁.heap.get? D with
    | none => rfl
    | some o => exact absurd (Heap.lt_size z) (Nat.not_lt.mpr cdsize)
  have p : postW s H (fun t H' => R .next (upd σ y t) H') (.ref D) s' := by
    refine ⟨_, .mut D, e.trans ⟨ckeeps, fun b ts z => ?_, fun b z1 z2 => ?_⟩, cmuts, by simp only [Den]; exact ⟨trivial, by rw [hup_same]; simp⟩, q D as hal hA cnone (Nat.le_trans x₁.lo cdsize)⟩
    · have hne : b ≠ D := by rintro rfl; rw [cnone] at z; cases z
      rw [hup_ne hne rfl]
      unfold hups
      rw [if_neg]
      · exact z
      · intro hm; rw [(hA.2 b hm).1] at z; cases z
    · by_cases w : b = D
      · rw [w]; exact hDn
      · rw [hup_ne w rfl] at z2
        unfold hups at z2
        by_cases hm : b ∈ as
        · cases zz : s₁.heap.get? b with
          | none => rfl
          | some o => exact absurd (Heap.lt_size zz) (Nat.not_lt.mpr (Nat.le_trans cdsize (Nat.le_of_lt (hA.2 b hm).2)))
        · rw [if_neg hm] at z2; exact absurd z1 z2
  obtain ⟨H₂, t, e₂, m₂, d₂, q₂⟩ := p
  have x₂ := x.ext e₂ m₂
  have hLs : s.heap.get? L = Option.none := by
    cases z : s.heap.get? L with
    | none => rfl
    | some o => exact absurd (Heap.lt_size (Keeps.get e.keeps z)) (Nat.not_lt.mpr (Nat.le_trans cdsize (Nat.le_of_lt clsize)))
  have hneL : L ≠ C.env.locals := by
    rintro rfl
    obtain ⟨_, ⟨o, _, _, ho, _⟩, _⟩ := x.ns
    rw [ho] at hLs; cases hLs
  have hbL : C.G.h₀.get? L = Option.none := by
    cases z : C.G.h₀.get? L with
    | none => rfl
    | some o => rw [x.base L o z] at hLs; cases hLs
  show wpAny C.M C.A (assign (.Name y py) C.env (.ref D)) (fun _ s'' => ∃ m, s''.heap.Ns L m ∧ ∀ h', Heap.SameBut L s''.heap h' → _) no s'
  refine wpAny_assign_Name (st_store x₂ d₂ hy fun s₃ x₃ k₃ => ?_)
  obtain ⟨mm, hn⟩ := cns
  have hn₃ : s₃.heap.Ns L mm := by
    refine hn.at' fun o e' => k₃.keep L o e' ⟨hneL, fun _ z hz hc => ?_, .inl ?_⟩
    · obtain ⟨c', v', h4, h5⟩ := x.has z hz
      rw [h4] at hc; cases hc
      obtain ⟨o', h6, _⟩ := h5
      rw [h6] at hLs; cases hLs
    · cases z : H₂ L with
      | none => rfl
      | some ts =>
        obtain ⟨vs, h4, _⟩ := m₂ L ts z
        exact absurd rfl (ns_ne_list hn h4)
  refine ⟨mm, hn₃, fun h' hs' => wpAny_pure (wpAny_pure ?_)⟩
  refine ⟨.next, _, H₂, x₃.beside hn₃ hneL hbL hs', ((Kp.of_ext e₂).trans k₃).beside hs' hLs, rfl, q₂⟩
end


/-- (x, y) < (u, v), of numbers -/
theorem pair_lt (l b : Addr) (x1 x2 y1 y2 : Int) (t1 t2 u1 u2 : Tok) (n n2 : Nat) :
    Meets (Builtin.«tuple.__lt__» ⟨[.ref l, .ref b], []⟩)
      (fun A R s => s.heap.get? l = some { cls := .type "tuple", data := .seq #[.int x1 t1, .int x2 t2] n } ∧ s.heap.get? b = some { cls := .type "tuple", data := .seq #[.int y1 u1, .int y2 u2] n2 } ∧
        R (.ok (.ret (.bool (decide (x1 < y1 ∨ (x1 = y1 ∧ x2 < y2)))))) s) :=
  .of_wp fun prog w A R s h => by
    obtain ⟨hp, g, d, tk, os⟩ := s; obtain ⟨hl, hb, h⟩ := h
    have f2 := AutoSeq1.sub_tuple_tuple
    wp_walk using AutoSeq1.wpAny_loadPart' hl, AutoSeq1.wpAny_loadPart' hb, wpAny_forIn_list _ (fun rest b s' => b.1 = none ∧ s' = ⟨hp, g, d, tk, os⟩ ∧
      (rest = [(Value.int x1 t1, Value.int y1 u1), (Value.int x2 t2, Value.int y2 u2)] ∨ (rest = [(Value.int x2 t2, Value.int y2 u2)] ∧ x1 = y1) ∨ (rest = [] ∧ x1 = y1 ∧ x2 = y2))) _
    case turn =>
      rintro ⟨y, x⟩ rest b s' ⟨hb', rfl, hz⟩
      rcases hz with hz | ⟨hz, e1⟩ | ⟨hz, _⟩
      · injection hz with hyx hrest
        injection hyx with hy hx
        subst hy hx
        refine wpAny_bind (wpAny_eqBool_int ?_)
        cases hq : (x1 == y1) with
        | true =>
          wp_walk
          exact ⟨rfl, rfl, .inr (.inl ⟨hrest, by simpa using hq⟩)⟩
        | false =>
          have hne : x1 ≠ y1 := by simpa using hq
          have e : decide (x1 < y1 ∨ x1 = y1 ∧ x2 < y2) = decide (x1 < y1) := by
            apply decide_eq_decide.mpr; omega
          rw [e] at h
          show wpAny _ _ (rule _ >>= _) _ _ _
          refine wpAny_bind (wpAny_rule ?_)
          refine wpAny_bind (lt_int ?_)
          wp_walk
          exact ⟨_, rfl, h⟩
      · injection hz with hyx hrest
        injection hyx with hy hx
        subst hy hx
        refine wpAny_bind (wpAny_eqBool_int ?_)
        cases hq : (x2 == y2) with
        | true =>
          wp_walk
          exact ⟨rfl, rfl, .inr (.inr ⟨hrest, e1, by simpa using hq⟩)⟩
        | false =>
          have e : decide (x1 < y1 ∨ x1 = y1 ∧ x2 < y2) = decide (x2 < y2) := by
            apply decide_eq_decide.mpr; omega
          rw [e] at h
          show wpAny _ _ (rule _ >>= _) _ _ _
          refine wpAny_bind (wpAny_rule ?_)
          refine wpAny_bind (lt_int ?_)
          wp_walk
          exact ⟨_, rfl, h⟩
      · cases hz
    case fin =>
      rintro ⟨b1, b2⟩ s' ⟨hb', rfl, hz⟩
      simp only at hb'
      subst hb'
      rcases hz with hz | ⟨hz, e1⟩ | ⟨_, e1, e2⟩
      · cases hz
      · cases hz
      have e : decide (x1 < y1 ∨ x1 = y1 ∧ x2 < y2) = false := by
        apply decide_eq_false; omega
      rw [e] at h
      wp_walk
      exact ⟨_, rfl, by simpa [Builtin.Tuple.tupleCompareSizes] using h⟩
    case h =>
      exact ⟨rfl, rfl, .inl rfl⟩
/-- the loop of min, on values whose order hangs on the heap -/
theorem min_loopP {prog : Program} {w : World} {A : Around} {R : Result → Shared → Prop} {I : Addr} {fp : List Addr} {n : Nat} {P : Nat → Value → Prop} {S : Nat → Heap → Prop} {s₀ : Shared}
    (W : Walks prog w A.in1 I (I :: fp) [I] n P S) (bt : Nat → Nat → Bool)
    (hcmp : ∀ i j vi vj (s : Shared) (Q E : Value → Shared → Prop), P i vi → P j vj → (∀ b o, s₀.heap.get? b = some o → s.heap.get? b = some o) → Q (.bool (bt i j)) s → wpAny (model prog w) A.in1 (richCompare .Lt vi vj) Q E s)
    (hI : s₀.heap.objs.size ≤ I) (T : Addr) (hTf : T ∉ I :: fp) (hT0 : s₀.heap.objs.size ≤ T) :
    ∀ (k j : Nat) (s : Shared) (vb : Value) (c : Nat), n - (j + 1) = k → j + 1 ≤ n → S (j + 1) s.heap → P (argBest bt j) vb →
    s.heap.get? T = some { cls := .type "list", dict := none, data := .seq #[vb, vb] c, slots := #[] } →
    (∃ h tk, s = { s₀ with heap := h, toks := tk }) → (∀ b o, s₀.heap.get? b = some o → s.heap.get? b = some o) →
    (∀ v s', P (argBest bt (n - 1)) v → (∃ h tk, s' = { s₀ with heap := h, toks := tk }) → (∀ b o, s₀.heap.get? b = some o → s'.heap.get? b = some o) → R (.ok (.ret v)) s') →
    codeAny (model prog w) A (.builtin "min.loop" ⟨[.ref I, .none, .ref T], []⟩) R s := by
  have hTw : T ∉ [I] := fun h => hTf (W.sub _ h)
  have hname : (toString "min" ++ toString ".loop" : String) = "min.loop" := by decide
  have old : ∀ (b : Addr) (o : Obj), s₀.heap.get? b = some o → b ∉ [I] ∧ b ≠ T := fun b o e => by
    refine ⟨fun q => ?_, fun q => ?_⟩
    · rw [List.mem_singleton] at q; subst q; exact absurd (Heap.lt_size e) (Nat.not_lt.mpr hI)
    · subst q; exact absurd (Heap.lt_size e) (Nat.not_lt.mpr hT0)
  intro k
  induction k with
  | zero =>
    intro j s vb c hk hj hst hPb hS hsm hkp hR
    have hin : j + 1 = n := by omega
    refine codeAny_builtin F.entry_min_loop ?_
    rw [Around.under_plainId F.plain_min_loop _]
    show wpAny _ A.in1 (seqItems? (.ref T) >>= _) _ _ s
    refine wpAny_bind (wpAny_seqItems hS rfl ?_)
    show wpAny _ A.in1 (tryCatch (pyNext (.ref I)) _ >>= _) _ _ s
    refine wpAny_bind (wpAny_tryCatch (W.done s _ _ (hin ▸ hst) fun h' tk hk' => ?_))
    have hS' := hk' T _ hTw hS
    show wpAny _ A.in1 (updateSeq T (fun _ => #[]) >>= _) _ _ _
    refine wpAny_bind ?_
    refine wpAny_updateSeq hS' rfl (wpAny_bind (wpAny_letGo (wpAny_pure ?_)))
    refine hR vb _ (by rw [← hin]; exact hPb) ?_ fun b o e => (Heap.get?_update_other _ _ (Ne.symm (old b o e).2)).trans (hk' b o (old b o e).1 (hkp b o e))
    obtain ⟨h1, t1, rfl⟩ := hsm
    exact ⟨_, _, rfl⟩
  | succ k ih =>
    intro j s vb c hk hj hst hPb hS hsm hkp hR
    have hlt : j + 1 < n := by omega
    refine codeAny_builtin F.entry_min_loop ?_
    rw [Around.under_plainId F.plain_min_loop _]
    show wpAny _ A.in1 (seqItems? (.ref T) >>= _) _ _ s
    refine wpAny_bind (wpAny_seqItems hS rfl ?_)
    show wpAny _ A.in1 (tryCatch (pyNext (.ref I)) _ >>= _) _ _ s
    refine wpAny_bind (wpAny_tryCatch (W.item (j + 1) s _ _ hlt hst fun v h' tk hP hst' hk' => ?_))
    have hS' := hk' T _ hTw hS
    have hkp' : ∀ b o, s₀.heap.get? b = some o → h'.get? b = some o := fun b o e => hk' b o (old b o e).1 (hkp b o e)
    show wpAny _ A.in1 (tryCatch (holding [v, v] (richCompare .Lt v vb >>= _)) _ >>= _) _ _ _
    refine wpAny_bind (wpAny_tryCatch (wpAny_holding (wpAny_bind (hcmp (j + 1) (argBest bt j) v vb _ _ _ hP hPb hkp' ?_))))
    refine wpAny_bind (wpAny_holding (wpAny_truthy_bool ?_))
    refine wpAny_bind (wpAny_letGo (wpAny_pure ?_))
    cases hb : bt (j + 1) (argBest bt j) with
    | true =>
      simp only [if_true]
      refine wpAny_bind ?_
      refine wpAny_updateSeq hS' rfl (wpAny_bind (wpAny_letGo ?_))
      rw [hname]
      refine wpAny_pure ⟨plainId_quiet F.plain_min_loop _, ih (j + 1) _ v _ (by omega) hlt (W.frame _ _ _ hst' fun b hbf o e => ?_) (by simp only [argBest, hb, if_true]; exact hP) (Heap.get?_update_self _ hS' rfl) ?_ (fun b o e => ?_) hR⟩
      · exact (Heap.get?_update_other _ _ (fun h : T = b => hTf (by rw [h]; exact hbf))).trans e
      · obtain ⟨h1, t1, rfl⟩ := hsm
        exact ⟨_, _, rfl⟩
      · exact (Heap.get?_update_other _ _ (Ne.symm (old b o e).2)).trans (hkp' b o e)
    | false =>
      simp only [Bool.false_eq_true, if_false]
      refine wpAny_bind (wpAny_letGo ?_)
      rw [hname]
      refine wpAny_pure ⟨plainId_quiet F.plain_min_loop _, ih (j + 1) _ vb c (by omega) hlt hst' (by simp only [argBest, hb, Bool.false_eq_true, if_false]; exact hPb) hS' ?_ hkp' hR⟩
      obtain ⟨h1, t1, rfl⟩ := hsm
      exact ⟨_, _, rfl⟩
/-- min, on values whose order hangs on the heap -/
theorem call_minP {prog : Program} {w : World} {A : Around} {E : Value → Shared → Prop} {s : Shared} {x : Value} {Q : Value → Shared → Prop}
    (h : wpAny (model prog w) A.in1 (pyIter x) (fun it s₂ => ∃ I fp n P S bt, it = .ref I ∧ Walks prog w A.in1 I (I :: fp) [I] n P S ∧ S 0 s₂.heap ∧ (∀ b ∈ I :: fp, b < s₂.heap.objs.size) ∧ 0 < n ∧ Keeps s s₂ ∧ s.heap.objs.size ≤ I ∧
      (∀ i j vi vj (s' : Shared) (Q E : Value → Shared → Prop), P i vi → P j vj → (∀ b o, s.heap.get? b = some o → s'.heap.get? b = some o) → Q (.bool (bt i j)) s' → wpAny (model prog w) A.in1 (richCompare .Lt vi vj) Q E s') ∧
      ∀ v h' tk, P (argBest bt (n - 1)) v → (∀ b o, s.heap.get? b = some o → h'.get? b = some o) → Q v { s with heap := h', toks := tk }) E s) :
    wpAny (model prog w) A (call (.builtin "min") [x]) Q E s := by
  have hname : (toString "min" ++ toString ".loop" : String) = "min.loop" := by decide
  refine call_function_tree F.kind_min F.plain_min F.entry_min (F.args_min1 _) ?_
  show wpAny _ A.in1 (Builtin.Builtins.bindParams "min" ["key", "default"] 0 ⟨[], []⟩ >>= _) _ _ s
  refine wpAny_bind (wpAny_of_eq (show Builtin.Builtins.bindParams "min" ["key", "default"] 0 ⟨[], []⟩ = pure [none, none] from rfl) ?_)
  refine wpAny_bind (wpAny_pure ?_)
  refine wpAny_bind (wpAny_mono h (fun it s₂ h₂ => ?_) fun _ _ e => e)
  obtain ⟨I, fp, n, P, S, bt, rfl, W, hst, hfp, hn, hks, hI, hcmp, hQ⟩ := h₂
  refine wpAny_bind (wpAny_newObj_type ?_)
  have hTf : s₂.heap.objs.size ∉ I :: fp := fun hm => Nat.lt_irrefl _ (hfp _ hm)
  have hT0 : s.heap.objs.size ≤ s₂.heap.objs.size := Nat.le_trans hI (Nat.le_of_lt (hfp I (.head _)))
  have hTw : s₂.heap.objs.size ∉ [I] := fun h => hTf (W.sub _ h)
  have old : ∀ (b : Addr) (o : Obj), s.heap.get? b = some o → b ∉ [I] ∧ b ≠ s₂.heap.objs.size := fun b o e => by
    refine ⟨fun q => ?_, fun q => ?_⟩
    · rw [List.mem_singleton] at q; subst q; exact absurd (Heap.lt_size e) (Nat.not_lt.mpr hI)
    · subst q; exact absurd (Heap.lt_size e) (Nat.not_lt.mpr hT0)
  obtain ⟨h2, t2, rfl, k2⟩ := hks
  rw [hname]
  refine wpAny_pure ⟨plainId_quiet F.plain_min_loop _, ?_⟩
  have hS : (h2.push { cls := .type "list", dict := none, data := .seq #[] 0, slots := #[] }).get? h2.objs.size = some { cls := .type "list", dict := none, data := .seq #[] 0, slots := #[] } := Heap.get?_push_size _ rfl
  have hst0 : S 0 (h2.push { cls := .type "list", dict := none, data := .seq #[] 0, slots := #[] }) := W.frame _ _ _ hst fun b _ o e => Heap.get?_push_of_some _ e
  refine codeAny_builtin F.entry_min_loop ?_
  rw [Around.under_plainId F.plain_min_loop _]
  show wpAny _ A.in1 (seqItems? (.ref h2.objs.size) >>= _) _ _ _
  refine wpAny_bind (wpAny_seqItems hS rfl ?_)
  show wpAny _ A.in1 (tryCatch (pyNext (.ref I)) _ >>= _) _ _ _
  refine wpAny_bind (wpAny_tryCatch (W.item 0 _ _ _ hn hst0 fun v h' tk hP hst' hk' => ?_))
  have hS' := hk' h2.objs.size _ hTw hS
  show wpAny _ A.in1 (updateSeq h2.objs.size (fun _ => #[v, v]) >>= _) _ _ _
  refine wpAny_bind ?_
  refine wpAny_updateSeq hS' rfl ?_
  rw [hname]
  refine wpAny_pure ⟨plainId_quiet F.plain_min_loop _, min_loopP (s₀ := s) W bt hcmp hI h2.objs.size hTf hT0 _ 0 _ v _ rfl hn (W.frame _ _ _ hst' fun b hbf o e => ?_) hP (Heap.get?_update_self _ hS' rfl) ⟨_, _, rfl⟩ (fun b o e => ?_) fun v' s' hP' hs' hk'' => ?_⟩
  · exact (Heap.get?_update_other _ _ (fun h : h2.objs.size = b => hTf (by rw [h]; exact hbf))).trans e
  · exact (Heap.get?_update_other _ _ (Ne.symm (old b o e).2)).trans (hk' b o (old b o e).1 (Heap.get?_push_of_some _ (k2 b o e)))
  · obtain ⟨h3, t3, rfl⟩ := hs'
    exact hQ v' h3 t3 hP' hk''
/-- (x, y) is not behind (u, v) -/
def lexle (m x : Nat × Nat) : Prop := m.1 < x.1 ∨ (m.1 = x.1 ∧ m.2 ≤ x.2)
theorem argBest_minP (ps : List (Nat × Nat)) (bt : Nat → Nat → Bool) (hb : ∀ i j, bt i j = decide (((ps.getD i (0, 0)).1 : Int) < ((ps.getD j (0, 0)).1 : Int) ∨ (((ps.getD i (0, 0)).1 : Int) = ((ps.getD j (0, 0)).1 : Int) ∧ ((ps.getD i (0, 0)).2 : Int) < ((ps.getD j (0, 0)).2 : Int)))) :
    ∀ n i, i ≤ n → lexle (ps.getD (argBest bt n) (0, 0)) (ps.getD i (0, 0))
  | 0, i, h => by
    have : i = 0 := by omega
    subst this; exact .inr ⟨rfl, Nat.le_refl _⟩
  | n + 1, i, h => by
    simp only [argBest]
    have hn := argBest_minP ps bt hb n
    rcases Nat.lt_or_ge i (n + 1) with q | q
    · have := hn i (by omega)
      split
      · rename_i z
        rw [hb] at z
        simp only [decide_eq_true_eq] at z
        unfold lexle at this ⊢
        omega
      · exact this
    · have : i = n + 1 := by omega
      subst this
      split
      · exact .inr ⟨rfl, Nat.le_refl _⟩
      · rename_i z
        rw [hb] at z
        simp only [decide_eq_true_eq] at z
        unfold lexle
        omega
section
variable {C : Cx} {σ : Sg} {H : AH} {Q : PT → AH → Prop}
/-- min(a list of pairs of numbers) -/
theorem min_pairs {t : PT} {ps : List (Nat × Nat)} (l : Lv H t (ps.map fun x => PT.tup [.int (x.1 : Nat), .int (x.2 : Nat)])) (hne : ps ≠ []) (q : ∀ m, m ∈ ps → (∀ x ∈ ps, lexle m x) → Q (.tup [.int (m.1 : Nat), .int (m.2 : Nat)]) H) (hd : 1 ≤ C.d) : Blt C "min" [t] H Q := fun s vs x hv => by
  obtain ⟨v, rfl, hw⟩ := of_one hv
  have hpos : 0 < ps.length := List.length_pos_iff.mpr hne
  have it := itr_lv (C := inC C) l s v (x.inC hd) hw
  have hroom : C.A.in1.units ≤ 9000 := room (x.inC hd)
  refine call_minP (wpAny_mono it (fun w s' p => ?_) fun _ _ f => f.elim)
  obtain ⟨I, fp, Pr, S, rfl, W, hS, hk, hI, hob, hfp, hit⟩ := p
  rw [List.length_map] at W
  have pr : ∀ i v, Pr i v → ∃ a n t1 t2, v = .ref a ∧ H a = Option.none ∧ s.heap.get? a = some { cls := .type "tuple", data := .seq #[.int ((ps.getD i (0, 0)).1 : Nat) t1, .int ((ps.getD i (0, 0)).2 : Nat) t2] n } := fun i v hv => by
    obtain ⟨t, ht, d⟩ := hit i v hv
    rw [List.getElem?_map] at ht
    cases z : ps[i]? with
    | none => rw [z] at ht; cases ht
    | some y =>
      rw [z] at ht; cases ht
      obtain ⟨a, vs, rfl, h1, ⟨n, h2⟩, h3⟩ := of_tup d
      obtain ⟨v1, v2, e, d1, d2⟩ := of_two h3
      obtain ⟨t1, rfl⟩ := of_int d1
      obtain ⟨t2, rfl⟩ := of_int d2
      have ev : vs = #[.int (y.1 : Nat) t1, .int (y.2 : Nat) t2] := Array.toList_inj.mp (by rw [e])
      subst ev
      have eg : ps.getD i (0, 0) = y := by rw [List.getD_eq_getElem?_getD, z]; rfl
      rw [eg]
      exact ⟨a, n, t1, t2, rfl, h1, h2⟩
  refine ⟨I, fp, ps.length, Pr, S, fun i j => decide (((ps.getD i (0, 0)).1 : Int) < ((ps.getD j (0, 0)).1 : Int) ∨ (((ps.getD i (0, 0)).1 : Int) = ((ps.getD j (0, 0)).1 : Int) ∧ ((ps.getD i (0, 0)).2 : Int) < ((ps.getD j (0, 0)).2 : Int))), rfl, W, hS, ?_, hpos, hk, hI, ?_, ?_⟩
  · intro b hb
    rcases List.mem_cons.mp hb with rfl | hb
    · obtain ⟨o, ho, _⟩ := hob 0 _ hS
      exact Heap.lt_size ho
    · obtain ⟨⟨o, _, ho⟩, _⟩ := hfp b hb
      exact Heap.lt_size (Keeps.get hk ho)
  · intro i j vi vj s₂ Q₂ E₂ h1 h2 hkp hq
    obtain ⟨a, n, t1, t2, rfl, _, ha⟩ := pr i vi h1
    obtain ⟨b, m, u1, u2, rfl, _, hb⟩ := pr j vj h2
    exact richCompare_meets_room (op := .Lt) ⟨_, hkp _ _ ha, rfl⟩ ⟨_, hkp _ _ hb, rfl⟩ F.slot_tuple_lt F.entry_tuple_lt (F.args_tuple_lt_2 _ _) (pair_lt a b _ _ _ _ t1 t2 u1 u2 n m)
      ⟨hkp _ _ ha, hkp _ _ hb, (fun x => nomatch x), hq⟩ (by rw [cLine_eq]; exact Nat.lt_of_le_of_lt hroom (by decide))
  · intro v' h' tk hp hk'
    obtain ⟨a, n, t1, t2, rfl, ha0, ha⟩ := pr _ v' hp
    have hlt := argBest_lt (fun i j => decide (((ps.getD i (0, 0)).1 : Int) < ((ps.getD j (0, 0)).1 : Int) ∨ (((ps.getD i (0, 0)).1 : Int) = ((ps.getD j (0, 0)).1 : Int) ∧ ((ps.getD i (0, 0)).2 : Int) < ((ps.getD j (0, 0)).2 : Int)))) (ps.length - 1)
    have hmin := argBest_minP ps _ (fun _ _ => rfl) (ps.length - 1)
    generalize argBest (fun i j => decide (((ps.getD i (0, 0)).1 : Int) < ((ps.getD j (0, 0)).1 : Int) ∨ (((ps.getD i (0, 0)).1 : Int) = ((ps.getD j (0, 0)).1 : Int) ∧ ((ps.getD i (0, 0)).2 : Int) < ((ps.getD j (0, 0)).2 : Int)))) (ps.length - 1) = k at *
    have hkl : k < ps.length := by omega
    refine postW.kept hk' x.muts ?_ (q (ps.getD k (0, 0)) ?_ fun y hy => ?_)
    · simp only [Den]
      exact ⟨a, _, rfl, ha0, ⟨n, hk' _ _ ha⟩, dens_cons den_int (dens_cons den_int dens_nil)⟩
    · rw [List.getD_eq_getElem?_getD, List.getElem?_eq_getElem hkl]; exact List.getElem_mem hkl
    · obtain ⟨i, hi, rfl⟩ := List.getElem_of_mem hy
      have := hmin i (by omega)
      rw [List.getD_eq_getElem?_getD (l := ps) (i := i), List.getElem?_eq_getElem hi] at this
      exact this
end
def subc (x y : Str) : Int := if x = y then 0 else if Txt.lower x = Txt.lower y then 1 else 2
def sc (c d : Nat) : Int := subc (tx [c]) (tx [d])
theorem sc_nonneg (c d : Nat) : 0 ≤ sc c d := by unfold sc subc; split <;> (try split) <;> omega
theorem sc_le (c d : Nat) : sc c d ≤ 2 := by unfold sc subc; split <;> (try split) <;> omega

/-- how many signs two texts have in common at the head -/
def lcp : List Nat → List Nat → Nat
  | x :: xs, y :: ys => if x = y then lcp xs ys + 1 else 0
  | _, _ => 0
theorem lcp_le_left : ∀ (a b : List Nat), lcp a b ≤ a.length
  | [], _ => by simp [lcp]
  | _ :: _, [] => by simp [lcp]
  | x :: xs, y :: ys => by
    have := lcp_le_left xs ys
    simp only [lcp, List.length_cons]; split <;> omega
theorem lcp_le_right : ∀ (a b : List Nat), lcp a b ≤ b.length
  | [], _ => by simp [lcp]
  | _ :: _, [] => by simp [lcp]
  | x :: xs, y :: ys => by
    have := lcp_le_right xs ys
    simp only [lcp, List.length_cons]; split <;> omega
theorem lcp_take : ∀ (a b : List Nat), a.take (lcp a b) = b.take (lcp a b)
  | [], b => by simp [lcp]
  | _ :: _, [] => by simp [lcp]
  | x :: xs, y :: ys => by
    have := lcp_take xs ys
    simp only [lcp]; split
    · rename_i h; subst h; simp [this]
    · simp
theorem lcp_stop : ∀ (a b : List Nat) (x y : Nat), a[lcp a b]? = some x → b[lcp a b]? = some y → x ≠ y
  | [], b, x, y, h, _ => by simp at h
  | _ :: _, [], x, y, _, h => by simp [lcp] at h
  | u :: us, v :: vs, x, y, h1, h2 => by
    simp only [lcp] at h1 h2
    split at h1
    · rename_i e
      rw [if_pos e] at h2
      simp only [List.getElem?_cons_succ] at h1 h2
      exact lcp_stop us vs x y h1 h2
    · rename_i e
      rw [if_neg e] at h2
      simp at h1 h2
      omega
theorem lcp_lt {a b : List Nat} {p : Nat} (h : p < lcp a b) : ∃ x, a[p]? = some x ∧ b[p]? = some x := by
  have h1 := lcp_le_left a b
  have h2 := lcp_take a b
  have e1 : a[p]? = (a.take (lcp a b))[p]? := by rw [List.getElem?_take, if_pos h]
  have e2 : b[p]? = (b.take (lcp a b))[p]? := by rw [List.getElem?_take, if_pos h]
  have hp : p < a.length := by omega
  refine ⟨a[p], by simp [hp], ?_⟩
  rw [e2, ← h2, ← e1]; simp [hp]

/-- one row of the table -/
def inner (bc : Nat) : List Nat → List Int → Int → Int → Int → List Int × Int × Int × Int
  | c :: cs, r :: rs, dist, res, mn =>
    let res' := min (min res r + 2) (dist + sc bc c)
    let o := inner bc cs rs r res' (if res' < mn then res' else mn)
    (res' :: o.1, o.2)
  | _, _, dist, res, mn => ([], dist, res, mn)
def dpl (S : List Nat) (k : Int) : List Nat → Int → List Int → Int → Int
  | bc :: l, i, row, _ =>
    let o := inner bc S row (2 * i) (2 * i) 9223372036854775807
    if o.2.2.2 > k then k + 1 else dpl S k l (i + 1) o.1 o.2.2.1
  | [], _, _, res => res
/-- what is left between the common ends -/
def rest (a b : List Nat) : List Nat × List Nat :=
  let p := lcp a b
  let a' := a.drop p
  let b' := b.drop p
  let q := lcp a'.reverse b'.reverse
  (a'.take (a'.length - q), b'.take (b'.length - q))
def row0 (n : Nat) : List Int := (List.range n).map fun (i : Nat) => 2 + (i : Int) * 2
def levc (a b : List Nat) (k : Int) : Int :=
  if a = [] ∨ b = [] then 2 * ((a.length : Int) + b.length)
  else if a.length > 40 ∨ b.length > 40 then k + 1
  else
    let s := if b.length < a.length then b else a
    let l := if b.length < a.length then a else b
    if ((l.length : Int) - s.length) * 2 > k then k + 1 else dpl s k l 0 (row0 s.length) 0
def lev (a b : List Nat) (k : Int) : Int := if a = b then 0 else levc (rest a b).1 (rest a b).2 k

local macro_rules | `(tactic| walk_at "Llook") => `(tactic| first
  | exact upd_same
  | (refine upd_ne (name_ne (by decide)) ?_; walk_at "Llook")
  | assumption)
local macro_rules | `(tactic| walk_at "Lcall") => `(tactic| first
  | ((with_reducible show Ev _ (Expr.Call (Expr.Name (PySem.Str.ofString "len") _) _ _ _) _ _ _); refine ev_blt (Bl.len (by assumption)) PyProof.Rows.Boot.len ?_)
  | ((with_reducible show Ev _ (Expr.Call (Expr.Name (PySem.Str.ofString "min") _) _ _ _) _ _ _); refine ev_blt (Bl.min (by assumption)) PyProof.Rows.Boot.min ?_)
  | ((with_reducible show Ev _ (Expr.Call (Expr.Name (PySem.Str.ofString "range") _) _ _ _) _ _ _); refine ev_typ (Bl.range (by assumption)) PyProof.Rows.Boot.range ?_)
  | ((with_reducible show Blt _ "min" [PT.int _, PT.int _] _ _); refine min_ints ?_)
  | ((with_reducible show Typ _ "range" [PT.int _] _ _); refine range1 ?_)
  | ((with_reducible show Typ _ "range" [PT.int _, PT.int _, PT.int _] _ _); refine range3 (by omega) (by omega) ?_))
local macro_rules | `(tactic| walk_at "Lop") => `(tactic| first
  | ((with_reducible show Bin _ Operator.Add (PT.int _) (PT.int _) _ _); refine bin_add ?_)
  | ((with_reducible show Bin _ Operator.Sub (PT.int _) (PT.int _) _ _); refine bin_sub ?_)
  | ((with_reducible show Bin _ Operator.Mult (PT.int _) (PT.int _) _ _); refine bin_mul ?_ (by first | exact .inl (by decide) | exact .inr (by decide) | omega))
  | ((with_reducible show Cmp _ CmpOp.Lt (PT.int _) (PT.int _) _ _); refine cmp_lt ?_)
  | ((with_reducible show Cmp _ CmpOp.Gt (PT.int _) (PT.int _) _ _); refine cmp_gt ?_)
  | ((with_reducible show Cmp _ CmpOp.Eq (PT.str _) (PT.str _) _ _); refine cmp_eqs ?_)
  | ((with_reducible show Tru _ (PT.bool _) _ _); refine tru_bool ?_)
  | ((with_reducible show Tru _ (PT.int _) _ _); refine tru_int ?_)
  | ((with_reducible show Inp _ Operator.Add (PT.int _) (PT.int _) _ _); refine inp_add ?_)
  | ((with_reducible show Inp _ Operator.Sub (PT.int _) (PT.int _) _ _); refine inp_sub ?_))
local macro_rules | `(tactic| walk_at "Lst") => `(tactic| first
  | ((with_reducible show Exs _ (List.cons _ _) _ _ _); refine exs_cons ?_)
  | ((with_reducible show Exs _ [] _ _ _); refine exs_nil ?_)
  | ((with_reducible show Then _ _ _ Fl.next _ _); refine then_next ?_)
  | ((with_reducible show Then _ _ _ (Fl.ret _) _ _); refine then_ret ?_)
  | ((with_reducible show Ex _ (Stmt.Return (some _) _) _ _ _); refine ex_return ?_)
  | ((with_reducible show Ex _ (Stmt.If _ _ _ _) _ _ _); refine ex_if ?_)
  | ((with_reducible show Ex _ (Stmt.Assign [Expr.Name _ _] _ _) _ _ _); refine ex_set ?_)
  | ((with_reducible show Ex _ (Stmt.AugAssign (Expr.Name _ _) _ _ _) _ _ _); refine ex_aug (by walk_at "Llook") ?_)
  | ((with_reducible show Ts _ (Expr.Compare _ [_] [_] _) _ _ _); refine ts_compare ?_)
  | ((with_reducible show Ts _ (Expr.UnaryOp UnaryOp.Not _ _) _ _ _); refine ts_not ?_)
  | ((with_reducible show Ts _ (Expr.BoolOp BoolOp.And (List.cons _ _) _) _ _ _); refine ts_and ?_)
  | ((with_reducible show Ts _ (Expr.BoolOp BoolOp.Or (List.cons _ _) _) _ _ _); refine ts_or ?_)
  | ((with_reducible show Ts _ (Expr.BoolOp BoolOp.And [] _) _ _ _); refine ts_and_nil ?_)
  | ((with_reducible show Ts _ (Expr.BoolOp BoolOp.Or [] _) _ _ _); refine ts_or_nil ?_)
  | ((with_reducible show Ts _ _ _ _ _); refine ts_val ?_)
  | ((with_reducible show Ev _ (Expr.Name _ _) _ _ _); refine ev_name (by walk_at "Llook") ?_)
  | ((with_reducible show Ev _ (Expr.Constant (Const.int _) _ _) _ _ _); refine ev_int ?_)
  | ((with_reducible show Ev _ (Expr.Constant Const.none _ _) _ _ _); refine ev_none ?_)
  | ((with_reducible show Ev _ (Expr.BinOp _ _ _ _) _ _ _); refine ev_binop ?_)
  | ((with_reducible show Ev _ (Expr.Subscript _ (Expr.Slice _ _ none _) _) _ _ _); fail)
  | ((with_reducible show Ev _ (Expr.Subscript _ _ _) _ _ _); refine ev_sub ?_)
  | ((with_reducible show Evs _ [] _ _ _); refine evs_nil ?_)
  | ((with_reducible show Evs _ (List.cons _ _) _ _ _); refine evs_cons ?_)
  | ((with_reducible show Evo _ none _ _ _); refine evo_none ?_)
  | ((with_reducible show Evo _ (some _) _ _ _); refine evo_some ?_)
  | ((with_reducible show if true = true then _ else _); refine ite_true' ?_)
  | ((with_reducible show if false = true then _ else _); refine ite_false' ?_)
  | ((with_reducible show if (!_) = true then _ else _); refine ite_not ?_)
  | walk_at "Lop"
  | walk_at "Lcall")
local macro_rules | `(tactic| walk_at "Lgo") => `(tactic| repeat' walk_at "Lst")

structure Pg (G : Gx) (fs fl : Addr) : Prop where
  b : Bl G
  s : FnIs G PySem.Challenge.pw_dn0226_09 "_substitution_cost" 4 fs
  l : FnIs G PySem.Challenge.pw_dn0226_09 "_levenshtein_distance" 5 fl
  mv : ∃ tk, G.mg "_MOVE_COST" = some (.int 2 tk)
  cs : ∃ tk, G.mg "_CASE_COST" = some (.int 1 tk)
  mx : ∃ tk, G.mg "_MAX_STRING_SIZE" = some (.int 40 tk)

set_option maxHeartbeats 1000000 in
theorem sub_ok {G : Gx} {fs fl : Addr} (P : Pg G fs fl) (x y : Str) (hx : x.length ≤ 1000000) (hy : y.length ≤ 1000000) (H : AH) : Fn G 1 fs [.str x, .str y] H fun u => u = .int (subc x y) := by
  refine P.s.spec (xs := ["ch_a", "ch_b"]) ?_ (by decide) rfl ?_
  · intro pm cd doc vs hv
    match vs, hv with
    | [a, b], _ => rfl
  intro A L cd
  dsimp only [upds]
  obtain ⟨t1, e1⟩ := P.cs
  obtain ⟨t2, e2⟩ := P.mv
  refine exs_cons ?_
  walk_at "Lgo"
  refine ite_beq (fun h => ?_) fun h => ?_
  · walk_at "Lgo"
    exact ⟨_, _, rfl, .nm rfl, by simp [subc, h]⟩
  walk_at "Lgo"
  refine ev_method ?_
  walk_at "Lgo"
  refine ⟨_, mth_lower, evs_nil (lower_str (by omega) ?_)⟩
  refine ev_method ?_
  walk_at "Lgo"
  refine ⟨_, mth_lower, evs_nil (lower_str (by omega) ?_)⟩
  walk_at "Lgo"
  refine ite_beq (fun h' => ?_) fun h' => ?_
  · walk_at "Lgo"
    refine ev_gname rfl e1 (fun _ => den_int) ?_
    exact ⟨_, _, rfl, .nm rfl, by simp [subc, h, h']⟩
  walk_at "Lgo"
  refine ev_gname rfl e2 (fun _ => den_int) ?_
  exact ⟨_, _, rfl, .nm rfl, by simp [subc, h, h']⟩

theorem set_at {α : Type} (r x : α) (rs : List α) : ∀ (dn : List α) (i : Nat), dn.length = i → (dn ++ r :: rs).set i x = dn ++ x :: rs
  | [], i, h => by subst h; rfl
  | d :: dn, i, h => by subst h; simp [set_at r x rs dn dn.length rfl]
theorem rngL_nm (a c : Int) (n : Nat) : NMs (rngL a c n) = true := nms_of fun t ht => by simp only [rngL, List.mem_map] at ht; obtain ⟨_, _, rfl⟩ := ht; rfl
theorem rngL_at {a c : Int} {n i : Nat} {u : PT} (h : (rngL a c n)[i]? = some u) : i < n ∧ u = .int (a + i * c) := by
  rcases Nat.lt_or_ge i n with q | q
  · rw [rngL_get q] at h; cases h; exact ⟨q, rfl⟩
  · rw [List.getElem?_eq_none (by rw [rngL_length]; exact q)] at h; cases h

abbrev levB : List Stmt := (fnAt PySem.Challenge.pw_dn0226_09 5).2.1
abbrev levC (G : Gx) (A : Around) (f : Addr) (cd : Value) (L d : Nat) : Cx := mkC G A "_levenshtein_distance" (fnAt PySem.Challenge.pw_dn0226_09 5).2.2 f cd L d

structure LevI (S Lg : List Nat) (k : Int) (ar : Addr) (σ : Sg) : Prop where
  a : σ "a" = some (.str (tx S))
  b : σ "b" = some (.str (tx Lg))
  k : σ "max_cost" = some (.int k)
  row : σ "row" = some (.mut ar)
def OutI (S Lg : List Nat) (k : Int) (ar : Addr) (j : Nat) (σ : Sg) (H : AH) : Prop := LevI S Lg k ar σ ∧ ∃ row res, σ "result" = some (.int res) ∧ H ar = some (row.map PT.int) ∧ row.length = S.length ∧
  dpl S k (Lg.drop j) j row res = dpl S k Lg 0 (row0 S.length) 0
def InnI (S Lg : List Nat) (k : Int) (ar : Addr) (row : List Int) (j bc : Nat) (i : Nat) (σ : Sg) (H : AH) : Prop := LevI S Lg k ar σ ∧ σ "bchar" = some (.str (tx [bc])) ∧ ∃ dn rs dist res mn, σ "result" = some (.int res) ∧ σ "distance" = some (.int dist) ∧
  σ "minimum" = some (.int mn) ∧ H ar = some ((dn ++ rs).map PT.int) ∧ dn.length = i ∧ (dn ++ rs).length = S.length ∧
  (dn ++ (inner bc (S.drop i) rs dist res mn).1, (inner bc (S.drop i) rs dist res mn).2) = inner bc S row (2 * j) (2 * j) 9223372036854775807

set_option maxHeartbeats 4000000 in
theorem lev_inner {G : Gx} {fs fl : Addr} (P : Pg G fs fl) {A : Around} {L : Nat} {cd : Value} {H : AH} {σ : Sg} {S Lg : List Nat} {k : Int} {ar : Addr} {row : List Int} {j bc i : Nat} (hS : S.length ≤ 1000) (hlo : L ≤ ar) (hi : i < S.length) {R : Fl → Sg → AH → Prop}
    (hI : InnI S Lg k ar row j bc i σ H) (hR : ∀ σ' H', InnI S Lg k ar row j bc (i + 1) σ' H' → R .next σ' H') :
    Exs (levC G A fl cd L 1) (forB (forB levB 15) 3) (upd σ "index" (.int i)) H R := by
  have B := P.b
  obtain ⟨tm, em⟩ := P.mv
  obtain ⟨⟨q1, q2, q3, q4⟩, q8, dn, rs, dist, res, mn, q5, q6, q7, hH, hdn, hall, hin⟩ := hI
  obtain ⟨r, rs', hrs⟩ : ∃ r rs', rs = r :: rs' := by
    cases rs with
    | nil => simp only [List.append_nil] at hall; omega
    | cons r rs' => exact ⟨r, rs', rfl⟩
  subst hrs
  have hic : S[i]? = some S[i] := by simp [hi]
  have hdrop : S.drop i = S[i] :: S.drop (i + 1) := List.drop_eq_getElem_cons hi
  rw [hdrop] at hin
  simp only [inner] at hin
  refine exs_cons ?_
  walk_at "Lgo"
  refine ev_fn 1 P.s rfl ?_ (Nat.le_refl _)
  walk_at "Lgo"
  refine sub_str (c := S[i]) (by rw [tx_length]; omega) (by rw [tx_length]; omega) (by rw [tx_length]; omega) (by rw [place_nonneg (by omega), tx_cps]; simp) ?_
  walk_at "Lgo"
  refine (sub_ok P (tx [bc]) (tx [S[i]]) (by rw [tx_length]; simp) (by rw [tx_length]; simp) H).mono fun u hu => ?_
  subst hu
  walk_at "Lgo"
  have hlenm : ((dn ++ r :: rs').map PT.int).length = S.length := by rw [List.length_map]; exact hall
  have hget : ((dn ++ r :: rs').map PT.int)[i]? = some (.int r) := by
    rw [List.getElem?_map, List.getElem?_append_right (by omega), hdn]; simp
  refine sub_lst (lv_mut hH) (by rw [hlenm]; omega) (by rw [hlenm]; omega) (by rw [hlenm]; omega) (by rw [place_nonneg (by omega)]; exact hget) ?_
  walk_at "Lgo"
  refine ev_gname rfl em (fun _ => den_int) ?_
  walk_at "Lgo"
  refine ex_setitem ?_
  walk_at "Lgo"
  refine ⟨ar, (dn ++ r :: rs').map PT.int, i, rfl, rfl, hlo, hH, by omega, by rw [hlenm]; omega, by rw [hlenm]; omega, ?_⟩
  have hset : ((dn ++ r :: rs').map PT.int).set (i : Int).toNat (PT.int (min (min res r + 2) (dist + subc (tx [bc]) (tx [S[i]])))) = ((dn ++ [min (min res r + 2) (dist + sc bc S[i])]) ++ rs').map PT.int := by
    rw [← List.map_set, Int.toNat_natCast, set_at r _ rs' dn i hdn]
    simp [sc]
  rw [hset]
  change _ at hin
  have fin : ∀ (σ' : Sg) (mn' : Int), LevI S Lg k ar σ' → σ' "result" = some (.int (min (min res r + 2) (dist + sc bc S[i]))) → σ' "distance" = some (.int r) → mn' = (if min (min res r + 2) (dist + sc bc S[i]) < mn then min (min res r + 2) (dist + sc bc S[i]) else mn) →
      σ' "minimum" = some (.int mn') → σ' "bchar" = some (.str (tx [bc])) → InnI S Lg k ar row j bc (i + 1) σ' (hup H ar (((dn ++ [min (min res r + 2) (dist + sc bc S[i])]) ++ rs').map PT.int)) := by
    intro σ' mn' w w5 w6 hm w7 w8
    refine ⟨w, w8, dn ++ [min (min res r + 2) (dist + sc bc S[i])], rs', r, _, mn', w5, w6, w7, hup_same, by simp [hdn], by simp only [List.length_append, List.length_cons, List.length_nil] at hall ⊢; omega, ?_⟩
    subst hm
    simpa using hin
  walk_at "Lgo"
  refine split_dec (fun h => ?_) fun h => ?_
  · walk_at "Lgo"
    refine hR _ _ (fin _ (min (min res r + 2) (dist + sc bc S[i])) ⟨by walk_at "Llook", by walk_at "Llook", by walk_at "Llook", by walk_at "Llook"⟩ (by walk_at "Llook") (by walk_at "Llook") (by rw [if_pos (show min (min res r + 2) (dist + sc bc S[i]) < mn from h)]) (by walk_at "Llook") (by walk_at "Llook"))
  · walk_at "Lgo"
    refine hR _ _ (fin _ mn ⟨by walk_at "Llook", by walk_at "Llook", by walk_at "Llook", by walk_at "Llook"⟩ (by walk_at "Llook") (by walk_at "Llook") (by rw [if_neg (show ¬ min (min res r + 2) (dist + sc bc S[i]) < mn from h)]) (by walk_at "Llook") (by walk_at "Llook"))

set_option maxHeartbeats 4000000 in
theorem lev_outer {G : Gx} {fs fl : Addr} (P : Pg G fs fl) {A : Around} {L : Nat} {cd : Value} {H : AH} {σ : Sg} {S Lg : List Nat} {k : Int} {ar : Addr} {j : Nat} (hS : S.length ≤ 1000) (hL : Lg.length ≤ 1000) (hlo : L ≤ ar) (hj : j < Lg.length) {R : Fl → Sg → AH → Prop}
    (hI : OutI S Lg k ar j σ H) (hR : ∀ σ' H', OutI S Lg k ar (j + 1) σ' H' → R .next σ' H') (hret : ∀ σ' H', k + 1 = dpl S k Lg 0 (row0 S.length) 0 → R (.ret (.int (k + 1))) σ' H') :
    Exs (levC G A fl cd L 1) (forB levB 15) (upd σ "bindex" (.int j)) H R := by
  have B := P.b
  obtain ⟨tm, em⟩ := P.mv
  obtain ⟨⟨q1, q2, q3, q4⟩, row, res, q5, hH, hlen, heq⟩ := hI
  have hdrop : Lg.drop j = Lg[j] :: Lg.drop (j + 1) := List.drop_eq_getElem_cons hj
  rw [hdrop] at heq
  simp only [dpl] at heq
  refine exs_cons ?_
  walk_at "Lgo"
  refine sub_str (c := Lg[j]) (by rw [tx_length]; omega) (by rw [tx_length]; omega) (by rw [tx_length]; omega) (by rw [place_nonneg (by omega), tx_cps]; simp) ?_
  walk_at "Lst"
  walk_at "Lst"
  refine ex_set2 ?_
  walk_at "Lgo"
  refine ev_gname rfl em (fun _ => den_int) ?_
  walk_at "Lgo"
  refine ex_for ?_
  walk_at "Lgo"
  refine len_str' ?_ (by rw [tx_length]; omega)
  rw [tx_length]
  walk_at "Lgo"
  refine ⟨rngL 0 1 S.length, InnI S Lg k ar row j Lg[j], itr_upto (by omega), rngL_nm _ _ _, ?_, ?_, ?_⟩
  · refine ⟨⟨by walk_at "Llook", by walk_at "Llook", by walk_at "Llook", by walk_at "Llook"⟩, by walk_at "Llook", [], row, _, _, _, by walk_at "Llook", by walk_at "Llook", by walk_at "Llook", hH, rfl, hlen, ?_⟩
    have e : (j : Int) * 2 = 2 * j := by omega
    simp only [List.drop_zero, List.nil_append, e]
  · intro i u σ H hu hI
    obtain ⟨hi, rfl⟩ := rngL_at hu
    simp only [Int.zero_add, Int.mul_one]
    refine asg_name ?_
    exact lev_inner P hS hlo hi hI fun σ' H' h => h
  · intro σ H ⟨⟨q1, q2, q3, q4⟩, q8, dn, rs, dist, res, mn, q5, q6, q7, hH, hdn, hall, hin⟩
    rw [rngL_length] at hdn hin
    have hrs : rs = [] := by
      rw [List.length_append] at hall
      exact List.length_eq_zero_iff.mp (by omega)
    subst hrs
    simp only [List.drop_length, inner, List.append_nil] at hin hH
    rw [← hin] at heq
    simp only at heq
    walk_at "Lgo"
    refine split_dec (fun h => ?_) fun h => ?_
    · rw [if_pos h] at heq
      walk_at "Lgo"
      exact hret _ _ heq
    · rw [if_neg h] at heq
      walk_at "Lgo"
      exact hR _ _ ⟨⟨q1, q2, q3, q4⟩, dn, res, q5, hH, hdn, by push_cast; exact heq⟩

set_option maxHeartbeats 4000000 in
theorem lev_rows {G : Gx} {fs fl : Addr} (P : Pg G fs fl) {A : Around} {L : Nat} {cd : Value} {H H₀ : AH} {σ : Sg} {S Lg : List Nat} {k : Int} {ar : Addr} (hS : S.length ≤ 1000) (hL : Lg.length ≤ 1000)
    (hI : LevI S Lg k ar σ) (hres : σ "result" = some (.int 0)) (hH : H ar = some ((row0 S.length).map PT.int)) (hlo : L ≤ ar) :
    Exs (levC G A fl cd L 1) (levB.drop 15) σ H fun fl σ' H' => ∃ t u, fl = .ret t ∧ Res H' H₀ t u ∧ u = .int (dpl S k Lg 0 (row0 S.length) 0) := by
  have B := P.b
  obtain ⟨q1, q2, q3, q4⟩ := hI
  refine exs_cons ?_
  refine ex_for ?_
  walk_at "Lgo"
  refine len_str' ?_ (by rw [tx_length]; omega)
  rw [tx_length]
  walk_at "Lgo"
  refine ⟨rngL 0 1 Lg.length, OutI S Lg k ar, itr_upto (by omega), rngL_nm _ _ _, ?_, ?_, ?_⟩
  · exact ⟨⟨q1, q2, q3, q4⟩, row0 S.length, 0, hres, hH, by simp [row0], by simp⟩
  · intro j u σ H hu hI
    obtain ⟨hj, rfl⟩ := rngL_at hu
    simp only [Int.zero_add, Int.mul_one]
    refine asg_name ?_
    refine lev_outer P hS hL hlo hj hI (fun σ' H' h => h) fun σ' H' e => ?_
    exact ⟨_, _, rfl, .nm rfl, by rw [e]⟩
  · intro σ H ⟨⟨q1, q2, q3, q4⟩, row, res, q5, hH, hlen, heq⟩
    rw [rngL_length] at heq
    simp only [List.drop_length, dpl] at heq
    walk_at "Lgo"
    exact ⟨_, _, rfl, .nm rfl, by rw [heq]⟩

set_option maxHeartbeats 4000000 in
theorem lev_core {G : Gx} {fs fl : Addr} (P : Pg G fs fl) {A : Around} {L : Nat} {cd : Value} {H H₀ : AH} {σ : Sg} {a b : List Nat} {k : Int} (ha' : a.length ≤ 1000) (hb' : b.length ≤ 1000)
    (ha : σ "a" = some (.str (tx a))) (hb : σ "b" = some (.str (tx b))) (hk : σ "max_cost" = some (.int k)) :
    Exs (levC G A fl cd L 1) (levB.drop 9) σ H fun fl σ' H' => ∃ t u, fl = .ret t ∧ Res H' H₀ t u ∧ u = .int (levc a b k) := by
  have B := P.b
  obtain ⟨tm, em⟩ := P.mv
  obtain ⟨tx', ex⟩ := P.mx
  refine exs_cons ?_
  walk_at "Lgo"
  refine tru_str ?_ (by rw [tx_length]; omega)
  rw [tx_cps]
  walk_at "Lgo"
  have early : ∀ σ' : Sg, σ' "a" = some (.str (tx a)) → σ' "b" = some (.str (tx b)) → (a = [] ∨ b = []) → Exs (levC G A fl cd L 1) (forB levB 9) σ' H (Then (levC G A fl cd L 1) (levB.drop 10) fun fl σ' H' => ∃ t u, fl = .ret t ∧ Res H' H₀ t u ∧ u = .int (levc a b k)) := by
    intro σ' ha hb h
    refine exs_cons ?_
    walk_at "Lgo"
    refine ev_gname rfl em (fun _ => den_int) ?_
    walk_at "Lgo"
    refine len_str' ?_ (by rw [tx_length]; omega)
    rw [tx_length]
    walk_at "Lgo"
    refine len_str' ?_ (by rw [tx_length]; omega)
    rw [tx_length]
    walk_at "Lgo"
    exact ⟨_, _, rfl, .nm rfl, by simp [levc, h]⟩
  refine ite_emp (fun h => ?_) fun h1 => ?_
  · walk_at "Lst"
    exact early _ ha hb (.inl h)
  walk_at "Lgo"
  refine tru_str ?_ (by rw [tx_length]; omega)
  rw [tx_cps]
  walk_at "Lgo"
  refine ite_emp (fun h => ?_) fun h2 => ?_
  · walk_at "Lst"
    exact early _ ha hb (.inr h)
  walk_at "Lgo"
  refine len_str' ?_ (by rw [tx_length]; omega)
  rw [tx_length]
  walk_at "Lgo"
  refine ev_gname rfl ex (fun _ => den_int) ?_
  walk_at "Lgo"
  refine split_dec (fun h => ?_) fun h3 => ?_
  · walk_at "Lgo"
    exact ⟨_, _, rfl, .nm rfl, by rw [levc, if_neg (by simp [h1, h2]), if_pos (by omega)]⟩
  walk_at "Lgo"
  refine len_str' ?_ (by rw [tx_length]; omega)
  rw [tx_length]
  walk_at "Lgo"
  refine ev_gname rfl ex (fun _ => den_int) ?_
  walk_at "Lgo"
  refine split_dec (fun h => ?_) fun h4 => ?_
  · walk_at "Lgo"
    exact ⟨_, _, rfl, .nm rfl, by rw [levc, if_neg (by simp [h1, h2]), if_pos (by omega)]⟩
  walk_at "Lgo"
  refine len_str' ?_ (by rw [tx_length]; omega)
  rw [tx_length]
  walk_at "Lgo"
  refine len_str' ?_ (by rw [tx_length]; omega)
  rw [tx_length]
  walk_at "Lgo"
  have back : ∀ (σ' : Sg) (s l : List Nat), σ' "a" = some (.str (tx s)) → σ' "b" = some (.str (tx l)) → σ' "max_cost" = some (.int k) → s.length ≤ 1000 → l.length ≤ 1000 →
      (if ((l.length : Int) - s.length) * 2 > k then k + 1 else dpl s k l 0 (row0 s.length) 0) = levc a b k →
      Exs (levC G A fl cd L 1) (levB.drop 12) σ' H fun fl σ' H' => ∃ t u, fl = .ret t ∧ Res H' H₀ t u ∧ u = .int (levc a b k) := by
    intro σ' s l hs hl hk hs' hl' he
    refine exs_cons ?_
    walk_at "Lgo"
    refine len_str' ?_ (by rw [tx_length]; omega)
    rw [tx_length]
    walk_at "Lgo"
    refine len_str' ?_ (by rw [tx_length]; omega)
    rw [tx_length]
    walk_at "Lgo"
    refine ev_gname rfl em (fun _ => den_int) ?_
    walk_at "Lgo"
    refine split_dec (fun h => ?_) fun h => ?_
    · walk_at "Lgo"
      exact ⟨_, _, rfl, .nm rfl, by rw [if_pos h] at he; rw [he]⟩
    rw [if_neg h] at he
    walk_at "Lgo"
    refine ev_trk (eva_call_list_rng ?_)
    refine ev_bname rfl B.list PyProof.Rows.Boot.list ⟨rfl, ?_⟩
    walk_at "Lgo"
    refine ev_gname rfl em (fun _ => den_int) ?_
    walk_at "Lgo"
    refine ev_gname rfl em (fun _ => den_int) ?_
    walk_at "Lgo"
    refine len_str' ?_ (by rw [tx_length]; omega)
    rw [tx_length]
    walk_at "Lgo"
    refine ev_gname rfl em (fun _ => den_int) ?_
    walk_at "Lgo"
    have hsz : Builtin.Range.rangeSize 2 (2 * ((s.length : Int) + 1)) 2 = (s.length : Int) := by
      unfold Builtin.Range.rangeSize
      rw [if_pos (by decide)]
      split <;> omega
    refine ⟨2, 2 * ((s.length : Int) + 1), 2, s.length, rfl, rng_fits hsz (by omega) (by omega) (by omega) (by omega) (by omega) (by omega) (by omega), hsz, by omega, ?_⟩
    intro ar hn hlo
    (walk_at "Lst"); (walk_at "Lst"); (walk_at "Lst"); (walk_at "Lst"); (walk_at "Lst")
    rw [← he]
    refine lev_rows P hs' hl' ⟨by walk_at "Llook", by walk_at "Llook", by walk_at "Llook", by walk_at "Llook"⟩ (by walk_at "Llook") ?_ hlo
    rw [hup_same]
    simp [row0, rngL]
  have hc : ∀ s l : List Nat, s = (if b.length < a.length then b else a) → l = (if b.length < a.length then a else b) → (if ((l.length : Int) - s.length) * 2 > k then k + 1 else dpl s k l 0 (row0 s.length) 0) = levc a b k := by
    intro s l hs hl
    unfold levc
    rw [if_neg (show ¬ (a = [] ∨ b = []) by simp [h1, h2]), if_neg (show ¬ (a.length > 40 ∨ b.length > 40) by omega), hs, hl]
  refine split_dec (fun h => ?_) fun h => ?_
  · refine exs_cons ?_
    refine ex_swap (names := ["a", "b"]) rfl ?_ rfl rfl
    walk_at "Lgo"
    refine ⟨rfl, by simp, ?_⟩
    simp only [List.reverse_cons, List.reverse_nil, List.nil_append, List.cons_append, upds]
    (walk_at "Lst"); (walk_at "Lst"); (walk_at "Lst")
    have h' : b.length < a.length := by omega
    exact back _ b a (by walk_at "Llook") (by walk_at "Llook") (by walk_at "Llook") hb' ha' (hc b a (by rw [if_pos h']) (by rw [if_pos h']))
  · (walk_at "Lst"); (walk_at "Lst")
    have h' : ¬ b.length < a.length := by omega
    exact back _ a b (by walk_at "Llook") (by walk_at "Llook") (by walk_at "Llook") ha' hb' (hc a b (by rw [if_neg h']) (by rw [if_neg h']))

theorem take_all {α : Type} (l : List α) (q : Nat) (h : q = 0) : l.take (l.length - q) = l := by subst h; simp
/-- a[:post or None] -/
theorem cut_post {α : Type} (l : List α) (q : Nat) : cut Option.none (if q = 0 then Option.none else some (-(q : Int))) l = l.take (l.length - q) := by
  by_cases h : q = 0
  · rw [if_pos h, cut_all, take_all l q h]
  · rw [if_neg h, cut_neg q (by omega)]

set_option maxHeartbeats 4000000 in
/-- a[:post or None], whatever post is -/
theorem ev_post {C : Cx} {σ : Sg} {H : AH} {Q : PT → AH → Prop} {y : Str} {l : List Nat} {q : Nat} {p1 p2 p3 p4 p5 p6 : Pos} {k : Nat} (hy : σ y = some (.str (tx l))) (hp : σ "post" = some (.int (-(q : Int)))) (hl : l.length ≤ 1000) (h : Q (.str (tx (l.take (l.length - q)))) H)
    (h1 : (y == ("__debug__" : Str)) = false := by decide) (h2 : (y == ("__classdict__" : Str)) = false := by decide) :
    Ev C (.Subscript (.Name y p1) (.Slice Option.none (some (.BoolOp .Or [.Name "post" p2, .Constant .none k p3] p4)) Option.none p5) p6) σ H Q := by
  refine ev_slice_str ?_
  refine ev_name hy ?_ h1 h2
  walk_at "Lgo"
  refine ev_or2 ?_
  walk_at "Lgo"
  have e := cut_post l q
  refine ite_bne (fun hq => ?_) fun hq => ?_
  · rw [if_neg (by omega)] at e
    exact ⟨tx l, _, _, rfl, .none, .int, by rw [tx_length]; omega, by rw [tx_cps, e]; exact h⟩
  · rw [if_pos (by omega)] at e
    walk_at "Lgo"
    exact ⟨tx l, _, _, rfl, .none, .none, by rw [tx_length]; omega, by rw [tx_cps, e]; exact h⟩

theorem getElem?_rev {l : List Nat} {q : Nat} (h : q < l.length) : l.reverse[q]? = l[l.length - q - 1]? := by
  rw [List.getElem?_reverse h]
  congr 1
  omega

set_option maxHeartbeats 4000000 in
theorem lev_post {G : Gx} {fs fl : Addr} (P : Pg G fs fl) {A : Around} {L : Nat} {cd : Value} {H H₀ : AH} {σ : Sg} {a b : List Nat} {k : Int} (ha' : a.length ≤ 1000) (hb' : b.length ≤ 1000)
    (ha : σ "a" = some (.str (tx a))) (hb : σ "b" = some (.str (tx b))) (hk : σ "max_cost" = some (.int k)) :
    Exs (levC G A fl cd L 1) (levB.drop 5) σ H fun fl σ' H' => ∃ t u, fl = .ret t ∧ Res H' H₀ t u ∧ u = .int (levc (a.take (a.length - lcp a.reverse b.reverse)) (b.take (b.length - lcp a.reverse b.reverse)) k) := by
  have B := P.b
  have h1 := lcp_le_left a.reverse b.reverse
  have h2 := lcp_le_right a.reverse b.reverse
  rw [List.length_reverse] at h1 h2
  refine exs_cons ?_
  walk_at "Lgo"
  refine ex_while (fun n σ _H => _H = H ∧ ∃ q : Nat, σ "a" = some (.str (tx a)) ∧ σ "b" = some (.str (tx b)) ∧ σ "max_cost" = some (.int k) ∧ σ "post" = some (.int (-(q : Int))) ∧ q ≤ lcp a.reverse b.reverse ∧ n = lcp a.reverse b.reverse - q) _
    ⟨rfl, 0, by walk_at "Llook", by walk_at "Llook", by walk_at "Llook", by walk_at "Llook", by omega, rfl⟩ ?_
  intro n σ H' ⟨hH, q, ha, hb, hk, hp, hq, hn⟩
  subst hH
  have done : ¬ q < lcp a.reverse b.reverse → Then (levC G A fl cd L 1) (levB.drop 7) (fun fl σ' H' => ∃ t u, fl = .ret t ∧ Res H' H₀ t u ∧ u = .int (levc (a.take (a.length - lcp a.reverse b.reverse)) (b.take (b.length - lcp a.reverse b.reverse)) k)) .next σ H' := by
    intro hlt
    have hq' : q = lcp a.reverse b.reverse := by omega
    refine then_next ?_
    refine exs_cons ?_
    walk_at "Lst"
    refine ev_post ha hp ha' ?_
    (walk_at "Lst"); (walk_at "Lst"); (walk_at "Lst")
    refine ev_post (by walk_at "Llook") (by walk_at "Llook") hb' ?_
    walk_at "Lst"
    rw [← hq']
    exact lev_core P (by rw [List.length_take]; omega) (by rw [List.length_take]; omega) (by walk_at "Llook") (by walk_at "Llook") (by walk_at "Llook")
  walk_at "Lst"
  walk_at "Lst"
  refine ev_post ha hp ha' ?_
  refine tru_str ?_ (by rw [tx_length, List.length_take]; omega)
  rw [tx_cps]
  walk_at "Lst"
  refine ite_emp (fun h => ?_) fun hne1 => ?_
  · walk_at "Lst"
    refine done ?_
    have := congrArg List.length h
    rw [List.length_take] at this
    simp only [List.length_nil] at this
    omega
  walk_at "Lst"
  walk_at "Lst"
  refine ev_post hb hp hb' ?_
  refine tru_str ?_ (by rw [tx_length, List.length_take]; omega)
  rw [tx_cps]
  walk_at "Lst"
  refine ite_emp (fun h => ?_) fun hne2 => ?_
  · walk_at "Lst"
    refine done ?_
    have := congrArg List.length h
    rw [List.length_take] at this
    simp only [List.length_nil] at this
    omega
  have la : q < a.length := by
    rcases Nat.lt_or_ge q a.length with h | h
    · exact h
    · exact absurd (by rw [Nat.sub_eq_zero_of_le h]; simp) hne1
  have lb : q < b.length := by
    rcases Nat.lt_or_ge q b.length with h | h
    · exact h
    · exact absurd (by rw [Nat.sub_eq_zero_of_le h]; simp) hne2
  have ga : a[a.length - q - 1]? = some a[a.length - q - 1] := by simp
  have gb : b[b.length - q - 1]? = some b[b.length - q - 1] := by simp
  have pl : ∀ n : Nat, q < n → place (-(q : Int) - 1) n = n - q - 1 := fun n hn => by rw [place_neg (by omega)]; omega
  walk_at "Lgo"
  refine sub_str (c := a[a.length - q - 1]) (by rw [tx_length]; omega) (by rw [tx_length]; omega) (by rw [tx_length]; omega) (by rw [tx_cps, tx_length, pl _ la]; exact ga) ?_
  walk_at "Lgo"
  refine sub_str (c := b[b.length - q - 1]) (by rw [tx_length]; omega) (by rw [tx_length]; omega) (by rw [tx_length]; omega) (by rw [tx_cps, tx_length, pl _ lb]; exact gb) ?_
  walk_at "Lst"
  walk_at "Lst"
  refine ite_beq (fun h => ?_) fun h => ?_
  · rw [tx_inj] at h
    have h := (List.cons.inj h).1
    have hlt : q < lcp a.reverse b.reverse := by
      rcases Nat.lt_or_ge q (lcp a.reverse b.reverse) with z | z
      · exact z
      · have e : q = lcp a.reverse b.reverse := by omega
        exact absurd h (lcp_stop a.reverse b.reverse _ _ (by rw [← e, getElem?_rev la]; exact ga) (by rw [← e, getElem?_rev lb]; exact gb))
    walk_at "Lgo"
    exact ⟨lcp a.reverse b.reverse - (q + 1), by omega, rfl, q + 1, by walk_at "Llook", by walk_at "Llook", by walk_at "Llook", by rw [upd_same]; congr 2; push_cast; omega, by omega, rfl⟩
  · rw [Ne, tx_inj] at h
    walk_at "Lst"
    refine done fun hlt => ?_
    obtain ⟨x, g1, g2⟩ := lcp_lt hlt
    rw [getElem?_rev la, ga] at g1
    rw [getElem?_rev lb, gb] at g2
    rw [← g2] at g1
    exact h (by rw [Option.some.inj g1])

set_option maxHeartbeats 4000000 in
theorem lev_ok {G : Gx} {fs fl : Addr} (P : Pg G fs fl) (a b : List Nat) (k : Int) (ha' : a.length ≤ 1000) (hb' : b.length ≤ 1000) (H : AH) : Fn G 2 fl [.str (tx a), .str (tx b), .int k] H fun u => u = .int (lev a b k) := by
  refine P.l.spec (xs := ["a", "b", "max_cost"]) ?_ (by decide) rfl ?_
  · intro pm cd doc vs hv
    match vs, hv with
    | [a, b, c], _ => rfl
  intro A L cd
  dsimp only [upds]
  have B := P.b
  have h1 := lcp_le_left a b
  have h2 := lcp_le_right a b
  refine exs_cons ?_
  walk_at "Lgo"
  refine ite_beq (fun h => ?_) fun hne => ?_
  · rw [tx_inj] at h
    walk_at "Lgo"
    exact ⟨_, _, rfl, .nm rfl, by simp [lev, h]⟩
  rw [Ne, tx_inj] at hne
  walk_at "Lgo"
  refine ex_while (fun n σ _H => _H = H ∧ ∃ p : Nat, σ "a" = some (.str (tx a)) ∧ σ "b" = some (.str (tx b)) ∧ σ "max_cost" = some (.int k) ∧ σ "pre" = some (.int p) ∧ p ≤ lcp a b ∧ n = lcp a b - p) _
    ⟨rfl, 0, by walk_at "Llook", by walk_at "Llook", by walk_at "Llook", by walk_at "Llook", by omega, rfl⟩ ?_
  intro n σ H' ⟨hH, p, ha, hb, hk, hp, hq, hn⟩
  subst hH
  have done : ¬ p < lcp a b → Then (levC G A fl cd L 1) (levB.drop 3) (fun fl σ' H'' => ∃ t u, fl = .ret t ∧ Res H'' H' t u ∧ u = .int (lev a b k)) .next σ H' := by
    intro hlt
    have hq' : p = lcp a b := by omega
    refine then_next ?_
    refine exs_cons ?_
    walk_at "Lst"
    refine ev_slice_str ?_
    walk_at "Lgo"
    refine ⟨tx a, _, _, rfl, .int, .none, by rw [tx_length]; omega, ?_⟩
    rw [tx_cps, cut_from]
    walk_at "Lgo"
    refine ev_slice_str ?_
    walk_at "Lgo"
    refine ⟨tx b, _, _, rfl, .int, .none, by rw [tx_length]; omega, ?_⟩
    rw [tx_cps, cut_from]
    walk_at "Lst"
    have e : lev a b k = levc ((a.drop p).take ((a.drop p).length - lcp (a.drop p).reverse (b.drop p).reverse)) ((b.drop p).take ((b.drop p).length - lcp (a.drop p).reverse (b.drop p).reverse)) k := by
      rw [lev, if_neg hne, rest, ← hq']
    rw [e]
    exact lev_post P (by rw [List.length_drop]; omega) (by rw [List.length_drop]; omega) (by walk_at "Llook") (by walk_at "Llook") (by walk_at "Llook")
  walk_at "Lst"
  walk_at "Lst"
  refine ev_slice_str ?_
  walk_at "Lgo"
  refine ⟨tx a, _, _, rfl, .int, .none, by rw [tx_length]; omega, ?_⟩
  rw [tx_cps, cut_from]
  refine tru_str ?_ (by rw [tx_length, List.length_drop]; omega)
  rw [tx_cps]
  walk_at "Lst"
  refine ite_emp (fun h => ?_) fun hne1 => ?_
  · walk_at "Lst"
    refine done ?_
    have := congrArg List.length h
    rw [List.length_drop] at this
    simp only [List.length_nil] at this
    omega
  walk_at "Lst"
  walk_at "Lst"
  refine ev_slice_str ?_
  walk_at "Lgo"
  refine ⟨tx b, _, _, rfl, .int, .none, by rw [tx_length]; omega, ?_⟩
  rw [tx_cps, cut_from]
  refine tru_str ?_ (by rw [tx_length, List.length_drop]; omega)
  rw [tx_cps]
  walk_at "Lst"
  refine ite_emp (fun h => ?_) fun hne2 => ?_
  · walk_at "Lst"
    refine done ?_
    have := congrArg List.length h
    rw [List.length_drop] at this
    simp only [List.length_nil] at this
    omega
  have la : p < a.length := by
    rcases Nat.lt_or_ge p a.length with h | h
    · exact h
    · exact absurd (List.drop_of_length_le h) hne1
  have lb : p < b.length := by
    rcases Nat.lt_or_ge p b.length with h | h
    · exact h
    · exact absurd (List.drop_of_length_le h) hne2
  have ga : a[p]? = some a[p] := by simp
  have gb : b[p]? = some b[p] := by simp
  walk_at "Lgo"
  refine sub_str (c := a[p]) (by rw [tx_length]; omega) (by rw [tx_length]; omega) (by rw [tx_length]; omega) (by rw [place_nonneg (by omega), tx_cps]; exact ga) ?_
  walk_at "Lgo"
  refine sub_str (c := b[p]) (by rw [tx_length]; omega) (by rw [tx_length]; omega) (by rw [tx_length]; omega) (by rw [place_nonneg (by omega), tx_cps]; exact gb) ?_
  walk_at "Lst"
  walk_at "Lst"
  refine ite_beq (fun h => ?_) fun h => ?_
  · rw [tx_inj] at h
    have h := (List.cons.inj h).1
    have hlt : p < lcp a b := by
      rcases Nat.lt_or_ge p (lcp a b) with z | z
      · exact z
      · have e : p = lcp a b := by omega
        exact absurd h (lcp_stop a b _ _ (by rw [← e]; exact ga) (by rw [← e]; exact gb))
    walk_at "Lgo"
    exact ⟨lcp a b - (p + 1), by omega, rfl, p + 1, by walk_at "Llook", by walk_at "Llook", by walk_at "Llook", by rw [upd_same]; rfl, by omega, rfl⟩
  · rw [Ne, tx_inj] at h
    walk_at "Lst"
    refine done fun hlt => ?_
    obtain ⟨x, g1, g2⟩ := lcp_lt hlt
    rw [ga] at g1
    rw [gb] at g2
    rw [← g2] at g1
    exact h (by rw [Option.some.inj g1])

theorem sc_self (c : Nat) : sc c c = 0 := by simp [sc, subc]
theorem sc_comm (c d : Nat) : sc c d = sc d c := by
  unfold sc subc
  simp only [@eq_comm Str (tx [c]) (tx [d]), @eq_comm Str (Txt.lower (tx [c])) (Txt.lower (tx [d]))]
theorem sc_pos {c d : Nat} (h : c ≠ d) : 1 ≤ sc c d := by
  unfold sc subc
  rw [if_neg (fun e => h (by rw [tx_inj] at e; exact (List.cons.inj e).1))]
  split <;> omega

/-- the least cost to make one text of the other -/
def ed : List Nat → List Nat → Int
  | [], b => 2 * (b.length : Int)
  | _ :: a, [] => 2 * ((a.length : Int) + 1)
  | x :: a, y :: b => min (min (ed a (y :: b)) (ed (x :: a) b) + 2) (ed a b + sc x y)
termination_by a b => a.length + b.length
theorem ed_nil_left (b : List Nat) : ed [] b = 2 * (b.length : Int) := by rw [ed]
theorem ed_nil_right (a : List Nat) : ed a [] = 2 * (a.length : Int) := by
  cases a with
  | nil => rw [ed]
  | cons x a => rw [ed]; simp
theorem ed_cons (x : Nat) (a : List Nat) (y : Nat) (b : List Nat) : ed (x :: a) (y :: b) = min (min (ed a (y :: b)) (ed (x :: a) b) + 2) (ed a b + sc x y) := by rw [ed]

/-- a road from one text to the other, and its cost -/
inductive Al : List Nat → List Nat → Int → Prop where
  | nil : Al [] [] 0
  | del {x : Nat} {a b : List Nat} {c : Int} : Al a b c → Al (x :: a) b (c + 2)
  | ins {y : Nat} {a b : List Nat} {c : Int} : Al a b c → Al a (y :: b) (c + 2)
  | sub {x y : Nat} {a b : List Nat} {c : Int} : Al a b c → Al (x :: a) (y :: b) (c + sc x y)

theorem al_dels : ∀ a : List Nat, Al a [] (2 * (a.length : Int))
  | [] => .nil
  | x :: a => by
    have := Al.del (x := x) (al_dels a)
    have e : 2 * (((x :: a).length : Nat) : Int) = 2 * (a.length : Int) + 2 := by simp; omega
    rw [e]; exact this
theorem al_inss : ∀ a : List Nat, Al [] a (2 * (a.length : Int))
  | [] => .nil
  | x :: a => by
    have := Al.ins (y := x) (al_inss a)
    have e : 2 * (((x :: a).length : Nat) : Int) = 2 * (a.length : Int) + 2 := by simp; omega
    rw [e]; exact this
theorem ed_al : ∀ (n : Nat) (a b : List Nat), a.length + b.length ≤ n → Al a b (ed a b)
  | _, [], b, _ => by rw [ed_nil_left]; exact al_inss b
  | _, x :: a, [], _ => by rw [ed_nil_right]; exact al_dels _
  | 0, x :: a, y :: b, h => by simp at h
  | n + 1, x :: a, y :: b, h => by
    simp only [List.length_cons] at h
    have h1 := ed_al n a (y :: b) (by simp only [List.length_cons]; omega)
    have h2 := ed_al n (x :: a) b (by simp only [List.length_cons]; omega)
    have h3 := ed_al n a b (by omega)
    rw [ed_cons]
    rcases Int.le_total (min (ed a (y :: b)) (ed (x :: a) b) + 2) (ed a b + sc x y) with q | q
    · rw [Int.min_eq_left q]
      rcases Int.le_total (ed a (y :: b)) (ed (x :: a) b) with r | r
      · rw [Int.min_eq_left r]; exact .del h1
      · rw [Int.min_eq_right r]; exact .ins h2
    · rw [Int.min_eq_right q]; exact .sub h3
theorem al_ed (a b : List Nat) : Al a b (ed a b) := ed_al _ a b (Nat.le_refl _)
theorem ed_le {a b : List Nat} {c : Int} (h : Al a b c) : ed a b ≤ c := by
  induction h with
  | nil => rw [ed_nil_left]; simp
  | @del x a b c h ih =>
    cases b with
    | nil => rw [ed_nil_right] at ih ⊢; simp only [List.length_cons]; omega
    | cons y b => rw [ed_cons]; omega
  | @ins y a b c h ih =>
    cases a with
    | nil => rw [ed_nil_left] at ih ⊢; simp only [List.length_cons]; omega
    | cons x a => rw [ed_cons]; omega
  | @sub x y a b c h ih => rw [ed_cons]; omega
theorem Al.symm {a b : List Nat} {c : Int} (h : Al a b c) : Al b a c := by
  induction h with
  | nil => exact .nil
  | del _ ih => exact .ins ih
  | ins _ ih => exact .del ih
  | sub _ ih => rw [sc_comm]; exact .sub ih
theorem Al.append {a b a' b' : List Nat} {c c' : Int} (h : Al a b c) (h' : Al a' b' c') : Al (a ++ a') (b ++ b') (c + c') := by
  induction h with
  | nil => simpa using h'
  | del _ ih => rw [Int.add_right_comm]; exact .del ih
  | ins _ ih => rw [Int.add_right_comm]; exact .ins ih
  | sub _ ih => rw [Int.add_right_comm]; exact .sub ih
theorem Al.rev {a b : List Nat} {c : Int} (h : Al a b c) : Al a.reverse b.reverse c := by
  induction h with
  | nil => exact .nil
  | del _ ih => rw [List.reverse_cons]; simpa using ih.append (.del .nil)
  | ins _ ih => rw [List.reverse_cons]; simpa using ih.append (.ins .nil)
  | sub _ ih => rw [List.reverse_cons, List.reverse_cons]; simpa using ih.append (.sub .nil)
theorem ed_comm (a b : List Nat) : ed a b = ed b a := by
  have h1 := ed_le (al_ed b a).symm
  have h2 := ed_le (al_ed a b).symm
  omega
theorem ed_rev (a b : List Nat) : ed a.reverse b.reverse = ed a b := by
  have h1 := ed_le (al_ed a b).rev
  have h2 := ed_le (al_ed a.reverse b.reverse).rev
  rw [List.reverse_reverse, List.reverse_reverse] at h2
  omega
theorem ed_nonneg (a b : List Nat) : 0 ≤ ed a b := by
  have h := al_ed a b
  generalize ed a b = c at h
  induction h with
  | nil => omega
  | del _ ih => omega
  | ins _ ih => omega
  | @sub x y _ _ _ _ ih => have := sc_nonneg x y; omega
theorem Al.len {a b : List Nat} {c : Int} (h : Al a b c) : 2 * (a.length : Int) - 2 * b.length ≤ c := by
  induction h with
  | nil => simp
  | del _ ih => simp only [List.length_cons]; omega
  | ins _ ih => simp only [List.length_cons]; omega
  | @sub x y _ _ _ _ ih => have := sc_nonneg x y; simp only [List.length_cons]; omega
theorem ed_len (a b : List Nat) : 2 * (a.length : Int) - 2 * b.length ≤ ed a b := (al_ed a b).len
theorem ed_top (a b : List Nat) : ed a b ≤ 2 * (a.length : Int) + 2 * b.length := by
  have := ed_le ((al_dels a).append (al_inss b))
  simpa using this
/-- a sign less costs 2 more at most -/
theorem Al.less {a b : List Nat} {c : Int} (h : Al a b c) : ∀ y b', b = y :: b' → ∃ c', c' ≤ c + 2 ∧ Al a b' c' := by
  induction h with
  | nil => intro y b' e; cases e
  | @del x a b c h ih =>
    intro y b' e
    obtain ⟨c', h1, h2⟩ := ih y b' e
    exact ⟨c' + 2, by omega, .del h2⟩
  | @ins z a b c h ih =>
    intro y b' e
    cases e
    exact ⟨c, by omega, h⟩
  | @sub x z a b c h ih =>
    intro y b' e
    cases e
    have := sc_nonneg x z
    exact ⟨c + 2, by omega, .del h⟩
theorem ed_less (a : List Nat) (y : Nat) (b : List Nat) : ed a b ≤ ed a (y :: b) + 2 := by
  obtain ⟨c', h1, h2⟩ := (al_ed a (y :: b)).less y b rfl
  have := ed_le h2
  omega
theorem ed_same (x : Nat) (a b : List Nat) : ed (x :: a) (x :: b) = ed a b := by
  have h1 := ed_less a x b
  have h2 := ed_less b x a
  rw [ed_comm b a, ed_comm b (x :: a)] at h2
  rw [ed_cons, sc_self]
  omega
theorem ed_head (h a b : List Nat) : ed (h ++ a) (h ++ b) = ed a b := by
  induction h with
  | nil => rfl
  | cons x h ih => rw [List.cons_append, List.cons_append, ed_same, ih]
theorem ed_tail (t a b : List Nat) : ed (a ++ t) (b ++ t) = ed a b := by
  rw [← ed_rev, List.reverse_append, List.reverse_append, ed_head, ed_rev]
theorem ed_self (a : List Nat) : ed a a = 0 := by
  have := ed_head a [] []
  rw [List.append_nil, ed_nil_left] at this
  simpa using this

-- the table
def edrow (u v : List Nat) : List Nat → List Int
  | c :: cs => ed u (c :: v) :: edrow u (c :: v) cs
  | [] => []
/-- farther than k from each beginning (texts from behind) -/
def far (k : Int) (u : List Nat) : List Nat → Prop
  | [] => k < ed u []
  | y :: v => k < ed u (y :: v) ∧ far k u v
theorem far_cons {k : Int} {u : List Nat} (c : Nat) : ∀ {v : List Nat}, far k u v → far k (c :: u) v
  | [], h => by simp only [far, ed_nil_right, List.length_cons] at h ⊢; omega
  | y :: v, h => by
    simp only [far] at h ⊢
    have ih := far_cons c h.2
    have hv : k < ed u v := by
      cases v with
      | nil => simpa only [far] using h.2
      | cons z v => simp only [far] at h; exact h.2.1
    have hc : k < ed (c :: u) v := by
      cases v with
      | nil => simpa only [far] using ih
      | cons z v => simp only [far] at ih; exact ih.1
    have := sc_nonneg c y
    exact ⟨by rw [ed_cons]; omega, ih⟩
theorem far_app {k : Int} {u : List Nat} : ∀ (w : List Nat) {v : List Nat}, far k u v → far k (w ++ u) v
  | [], _, h => h
  | c :: w, _, h => far_cons c (far_app w h)
theorem far_row {k : Int} {u : List Nat} : ∀ (S v : List Nat), far k u (S.reverse ++ v) ↔ (∀ r ∈ edrow u v S, k < r) ∧ far k u v
  | [], v => by simp [edrow]
  | c :: S, v => by
    rw [List.reverse_cons, List.append_assoc, far_row S]
    simp only [edrow, List.mem_cons, forall_eq_or_imp, List.cons_append, List.nil_append, far]
    constructor
    · rintro ⟨h1, h2, h3⟩; exact ⟨⟨h2, h1⟩, h3⟩
    · rintro ⟨⟨h2, h1⟩, h3⟩; exact ⟨h1, h2, h3⟩
theorem far_row' {k : Int} {x : Nat} {u : List Nat} {S : List Nat} (hS : S ≠ []) : far k (x :: u) S.reverse ↔ ∀ r ∈ edrow (x :: u) [] S, k < r := by
  have := far_row (k := k) (u := x :: u) S []
  rw [List.append_nil] at this
  rw [this]
  constructor
  · exact fun h => h.1
  · intro h
    refine ⟨h, ?_⟩
    cases S with
    | nil => exact absurd rfl hS
    | cons c S =>
      have h1 := h (ed (x :: u) [c]) (by simp [edrow])
      simp only [far]
      rw [ed_cons] at h1
      rw [ed_nil_right] at h1 ⊢
      have := sc_le x c
      rw [ed_nil_right] at h1
      simp only [List.length_cons] at h1 ⊢
      omega

theorem inner_ed (bc : Nat) (u : List Nat) : ∀ (S v : List Nat) (mn : Int), (inner bc S (edrow u v S) (ed u v) (ed (bc :: u) v) mn).1 = edrow (bc :: u) v S ∧
    (inner bc S (edrow u v S) (ed u v) (ed (bc :: u) v) mn).2.2.1 = ed (bc :: u) (S.reverse ++ v) ∧
    ∀ k, (inner bc S (edrow u v S) (ed u v) (ed (bc :: u) v) mn).2.2.2 > k ↔ mn > k ∧ ∀ r ∈ edrow (bc :: u) v S, k < r
  | [], v, mn => by simp [inner, edrow]
  | c :: S, v, mn => by
    have e : min (min (ed (bc :: u) v) (ed u (c :: v)) + 2) (ed u v + sc bc c) = ed (bc :: u) (c :: v) := by rw [ed_cons, Int.min_comm (ed (bc :: u) v)]
    obtain ⟨h1, h2, h3⟩ := inner_ed bc u S (c :: v) (if ed (bc :: u) (c :: v) < mn then ed (bc :: u) (c :: v) else mn)
    simp only [inner, edrow, e, h1, h2, h3]
    refine ⟨trivial, by simp, fun k => ?_⟩
    simp only [List.mem_cons, forall_eq_or_imp]
    constructor
    · rintro ⟨g1, g2⟩
      split at g1
      · exact ⟨by omega, by omega, g2⟩
      · exact ⟨by omega, by omega, g2⟩
    · rintro ⟨g1, g2, g3⟩
      split
      · exact ⟨by omega, g3⟩
      · exact ⟨by omega, g3⟩
theorem inner_first {bc : Nat} {u S : List Nat} (hS : S ≠ []) (mn : Int) : inner bc S (edrow u [] S) (2 * (u.length : Int)) (2 * (u.length : Int)) mn = inner bc S (edrow u [] S) (ed u []) (ed (bc :: u) []) mn := by
  cases S with
  | nil => exact absurd rfl hS
  | cons c S =>
    have e : min (min (2 * (u.length : Int)) (ed u [c]) + 2) (2 * (u.length : Int) + sc bc c) = min (min (ed (bc :: u) []) (ed u [c]) + 2) (ed u [] + sc bc c) := by
      have := sc_le bc c
      rw [ed_nil_right, ed_nil_right]
      simp only [List.length_cons]
      omega
    simp only [inner, edrow, e]
theorem dpl_ed {S : List Nat} (hS : S ≠ []) (hs : S.length ≤ 1000) (k : Int) : ∀ (l u : List Nat) (res : Int), l.length + u.length ≤ 1000 → l ≠ [] →
    (far k (l.reverse ++ u) S.reverse → dpl S k l u.length (edrow u [] S) res = k + 1) ∧ (¬ far k (l.reverse ++ u) S.reverse → dpl S k l u.length (edrow u [] S) res = ed (l.reverse ++ u) S.reverse)
  | [], _, _, _, h => absurd rfl h
  | bc :: l, u, res, hl, _ => by
    obtain ⟨h1, h2, h3⟩ := inner_ed bc u S [] 9223372036854775807
    rw [List.append_nil] at h2
    have h4 : (inner bc S (edrow u [] S) (ed u []) (ed (bc :: u) []) 9223372036854775807).2.2.2 > k ↔ far k (bc :: u) S.reverse := by
      rw [h3, far_row' hS]
      constructor
      · exact fun h => h.2
      · intro h
        refine ⟨?_, h⟩
        have hf := (far_row' hS).mpr h
        have hk : k < ed (bc :: u) S.reverse := by
          cases q : S.reverse with
          | nil => rw [q] at hf; exact hf
          | cons y v => rw [q] at hf; exact hf.1
        have := ed_top (bc :: u) S.reverse
        rw [List.length_reverse] at this
        simp only [List.length_cons] at this hl
        omega
    simp only [dpl]
    rw [inner_first hS]
    have e : ((u.length : Int) + 1) = (((bc :: u).length : Nat) : Int) := by simp
    have e2 : (bc :: l).reverse ++ u = l.reverse ++ (bc :: u) := by simp
    rw [e2]
    by_cases hf : far k (bc :: u) S.reverse
    · rw [if_pos (h4.mpr hf)]
      exact ⟨fun _ => rfl, fun q => absurd (far_app _ hf) q⟩
    · rw [if_neg (fun q => hf (h4.mp q)), h1, h2, e]
      cases l with
      | nil => simp only [dpl, List.reverse_nil, List.nil_append]; exact ⟨fun q => absurd q hf, fun _ => trivial⟩
      | cons d l => exact dpl_ed hS hs k (d :: l) (bc :: u) _ (by simp only [List.length_cons] at hl ⊢; omega) (by simp)
theorem row0_ed (S : List Nat) : row0 S.length = edrow [] [] S := by
  have go : ∀ (S v : List Nat), edrow [] v S = (List.range S.length).map fun (i : Nat) => 2 * (v.length : Int) + 2 + (i : Int) * 2 := by
    intro S
    induction S with
    | nil => intro v; rfl
    | cons c S ih =>
      intro v
      simp only [edrow, ed_nil_left, ih, List.length_cons, List.range_succ_eq_map, List.map_cons, List.map_map]
      refine List.cons_eq_cons.mpr ⟨by omega, ?_⟩
      refine List.map_congr_left fun i _ => ?_
      simp only [Function.comp]
      omega
  rw [go]
  unfold row0
  refine List.map_congr_left fun i _ => ?_
  simp

/-- farther than k from each beginning -/
def Far (k : Int) (l s : List Nat) : Prop := ∀ j, k < ed l (s.take j)
theorem far_Far (k : Int) (l : List Nat) : ∀ (n : Nat) (s : List Nat), s.length = n → (far k l.reverse s.reverse ↔ Far k l s)
  | 0, s, h => by
    have : s = [] := List.length_eq_zero_iff.mp h
    subst this
    have e : ed l.reverse [] = ed l [] := by rw [ed_nil_right, ed_nil_right, List.length_reverse]
    simp only [List.reverse_nil, far, Far, List.take_nil, e]
    exact ⟨fun h _ => h, fun h => h 0⟩
  | n + 1, s, h => by
    have hs : s ≠ [] := by intro e; subst e; simp at h
    have e := List.dropLast_concat_getLast hs
    have hd : s.dropLast.length = n := by rw [List.length_dropLast]; omega
    have ih := far_Far k l n s.dropLast hd
    have e2 : s.reverse = s.getLast hs :: s.dropLast.reverse := by
      conv => lhs; rw [← e]
      rw [List.reverse_append]; rfl
    rw [e2]
    simp only [far]
    rw [ih, ← e2, ed_rev]
    constructor
    · rintro ⟨h1, h2⟩ j
      rcases Nat.lt_or_ge j s.length with q | q
      · have := h2 j
        rw [List.dropLast_eq_take, List.take_take, Nat.min_eq_left (by omega)] at this
        exact this
      · rw [List.take_of_length_le q]; exact h1
    · intro h1
      refine ⟨by have := h1 s.length; rwa [List.take_length] at this, fun j => ?_⟩
      rw [List.dropLast_eq_take, List.take_take]
      exact h1 _

theorem levc_long {s l : List Nat} (k : Int) (hs : s ≠ []) (hl : l ≠ []) (h : s.length ≤ l.length) (hb : l.length ≤ 40) :
    (Far k l s → (if ((l.length : Int) - s.length) * 2 > k then k + 1 else dpl s k l 0 (row0 s.length) 0) = k + 1) ∧
    (¬ Far k l s → (if ((l.length : Int) - s.length) * 2 > k then k + 1 else dpl s k l 0 (row0 s.length) 0) = ed l s) := by
  have hd := dpl_ed hs (by omega) k l [] 0 (by simp; omega) hl
  rw [List.append_nil, far_Far k l s.length s rfl, ed_rev, ← row0_ed] at hd
  refine ⟨fun hf => ?_, fun hf => ?_⟩
  · split
    · rfl
    · exact hd.1 hf
  · split
    · rename_i hk
      refine absurd (fun j => ?_) hf
      have := ed_len l (s.take j)
      rw [List.length_take] at this
      omega
    · exact hd.2 hf

-- the ends
theorem lcp_head (h a b : List Nat) : lcp (h ++ a) (h ++ b) = h.length + lcp a b := by
  induction h with
  | nil => simp
  | cons x h ih => simp only [List.cons_append, lcp, if_true, ih, List.length_cons]; omega
theorem lcp_eq_ends : ∀ (a b t : List Nat), lcp a b < a.length → lcp a b < b.length → ∀ t', lcp (a ++ t) (b ++ t') = lcp a b
  | [], _, _, h, _, _ => by simp at h
  | _ :: _, [], _, _, h, _ => by simp at h
  | x :: a, y :: b, t, h1, h2, t' => by
    simp only [lcp, List.cons_append, List.length_cons] at h1 h2 ⊢
    split
    · rename_i e
      rw [if_pos e] at h1 h2
      rw [lcp_eq_ends a b t (by omega) (by omega) t']
    · rfl
theorem lcp_prefix {a b : List Nat} (h : lcp a b = a.length) : ∃ c, b = a ++ c := by
  have := lcp_take a b
  rw [h, List.take_length] at this
  exact ⟨b.drop a.length, by conv => lhs; rw [← List.take_append_drop a.length b, ← this]⟩
theorem lcp_comm : ∀ (a b : List Nat), lcp a b = lcp b a
  | [], [] => rfl
  | [], _ :: _ => rfl
  | _ :: _, [] => rfl
  | x :: a, y :: b => by
    simp only [lcp]
    by_cases h : x = y
    · rw [if_pos h, if_pos h.symm, lcp_comm a b]
    · rw [if_neg h, if_neg (fun e => h e.symm)]
theorem rest_comm (a b : List Nat) : rest b a = ((rest a b).2, (rest a b).1) := by
  simp only [rest]
  rw [lcp_comm b a, lcp_comm (b.drop _).reverse]
theorem rest_head (h a b : List Nat) : rest (h ++ a) (h ++ b) = rest a b := by
  simp only [rest, lcp_head]
  have e : ∀ x : List Nat, (h ++ x).drop (h.length + lcp a b) = x.drop (lcp a b) := fun x => by
    rw [← List.drop_drop]; simp
  rw [e, e]
/-- one text is the other with one piece put in -/
theorem lcp_self_app (t c : List Nat) : lcp t (t ++ c) = t.length := by
  have := lcp_head t [] c
  simpa [lcp] using this
theorem rest_ins (t c : List Nat) : (rest t (c ++ t)).1 = [] ∧ (rest t (c ++ t)).2.length = c.length := by
  simp only [rest]
  have hp : lcp t (c ++ t) ≤ t.length := lcp_le_left _ _
  generalize lcp t (c ++ t) = p at hp
  have e : t.drop p <:+ (c ++ t).drop p := by
    rw [List.drop_append]
    have : t.drop p <:+ t.drop (p - c.length) := by
      have e : t.drop p = (t.drop (p - c.length)).drop (p - (p - c.length)) := by rw [List.drop_drop]; congr 1; omega
      rw [e]; exact List.drop_suffix _ _
    exact this.trans (List.suffix_append _ _)
  obtain ⟨z, hz⟩ := e
  rw [← hz, List.reverse_append, lcp_self_app]
  simp only [List.length_reverse, Nat.sub_self, List.take_zero, true_and]
  have h1 : (z ++ t.drop p).length = ((c ++ t).drop p).length := by rw [hz]
  simp only [List.length_append, List.length_drop] at h1 ⊢
  rw [List.length_take]
  simp only [List.length_append, List.length_drop]
  omega
theorem lev_rest (a b : List Nat) (k : Int) : lev a b k = levc (rest a b).1 (rest a b).2 k := by
  unfold lev
  split
  · rename_i h
    subst h
    have := rest_ins a []
    rw [List.nil_append] at this
    have h2 : (rest a a).2 = [] := List.length_eq_zero_iff.mp (by simpa using this.2)
    rw [this.1, h2]
    simp [levc]
  · rfl
theorem levc_empty {a b : List Nat} (k : Int) (h : a = [] ∨ b = []) : levc a b k = 2 * ((a.length : Int) + b.length) := by simp [levc, h]
theorem lev_prefix (a c t : List Nat) (k : Int) : lev (a ++ t) (a ++ c ++ t) k = 2 * (c.length : Int) := by
  rw [lev_rest, List.append_assoc, rest_head]
  have := rest_ins t c
  rw [levc_empty k (.inl this.1), this.1, this.2]
  simp
theorem lev_comm_empty {a b : List Nat} (k : Int) (h : (rest a b).1 = [] ∨ (rest a b).2 = []) : lev b a k = lev a b k := by
  rw [lev_rest, lev_rest, rest_comm, levc_empty k h, levc_empty k h.symm]
  omega
theorem lev_prefix' (a c t : List Nat) (k : Int) : lev (a ++ c ++ t) (a ++ t) k = 2 * (c.length : Int) := by
  rw [lev_comm_empty, lev_prefix]
  left
  rw [List.append_assoc, rest_head]
  exact (rest_ins t c).1
theorem rest_tail {a b : List Nat} (t : List Nat) (h1 : lcp a b < a.length) (h2 : lcp a b < b.length) : rest (a ++ t) (b ++ t) = rest a b := by
  simp only [rest]
  rw [lcp_eq_ends a b t h1 h2 t]
  have e : ∀ x : List Nat, lcp a b ≤ x.length → (x ++ t).drop (lcp a b) = x.drop (lcp a b) ++ t := fun x hx => by
    rw [List.drop_append, Nat.sub_eq_zero_of_le hx, List.drop_zero]
  rw [e a (by omega), e b (by omega), List.reverse_append, List.reverse_append, lcp_head]
  have e2 : ∀ (x : List Nat) (q : Nat), (x ++ t).take ((x ++ t).length - (t.reverse.length + q)) = x.take (x.length - q) := fun x q => by
    rw [List.take_append]
    simp only [List.length_append, List.length_reverse]
    have h3 : x.length + t.length - (t.length + q) = x.length - q := by omega
    have h4 : x.length - q - x.length = 0 := by omega
    rw [h3, h4]; simp
  rw [e2, e2]
/-- common ends say nothing -/
theorem lev_ends (h a b t : List Nat) (k : Int) : lev (h ++ a ++ t) (h ++ b ++ t) k = lev a b k := by
  have e : lev (h ++ a ++ t) (h ++ b ++ t) k = lev (a ++ t) (b ++ t) k := by
    rw [lev_rest, lev_rest, List.append_assoc, List.append_assoc, rest_head]
  rw [e]
  rcases Nat.lt_or_ge (lcp a b) a.length with h1 | h1
  · rcases Nat.lt_or_ge (lcp a b) b.length with h2 | h2
    · rw [lev_rest, lev_rest, rest_tail t h1 h2]
    · obtain ⟨c, rfl⟩ := lcp_prefix (a := b) (b := a) (by rw [lcp_comm]; have := lcp_le_right a b; omega)
      rw [lev_prefix']
      have := lev_prefix' b c [] k
      simpa using this.symm
  · obtain ⟨c, rfl⟩ := lcp_prefix (a := a) (b := b) (by have := lcp_le_left a b; omega)
    rw [lev_prefix]
    have := lev_prefix a c [] k
    simpa using this.symm
/-- texts whose first signs are unlike, and whose last signs are -/
theorem rest_apart {a b : List Nat} (h1 : lcp a b = 0) (h2 : lcp a.reverse b.reverse = 0) : rest a b = (a, b) := by
  simp [rest, h1, h2]
theorem lcp_zero {a b : List Nat} (h : ∀ x y, a.head? = some x → b.head? = some y → x ≠ y) : lcp a b = 0 := by
  cases a with
  | nil => simp [lcp]
  | cons x a =>
    cases b with
    | nil => simp [lcp]
    | cons y b => simp only [lcp]; rw [if_neg (h x y rfl rfl)]
theorem lev_big {a b : List Nat} (k : Int) (h1 : lcp a b = 0) (h2 : lcp a.reverse b.reverse = 0) (ha : a ≠ []) (hb : b ≠ []) (h : 40 < a.length ∨ 40 < b.length) : lev a b k = k + 1 := by
  rw [lev_rest, rest_apart h1 h2]
  simp only [levc]
  rw [if_neg (fun q => q.elim ha hb), if_pos (by omega)]
/-- what is told of texts that aren't too long -/
theorem lev_told {a b : List Nat} (k : Int) (h1 : lcp a b = 0) (h2 : lcp a.reverse b.reverse = 0) (ha : a ≠ []) (hb : b ≠ []) (ha' : a.length ≤ 40) (hb' : b.length ≤ 40) :
    (b.length < a.length → (Far k a b → lev a b k = k + 1) ∧ (¬ Far k a b → lev a b k = ed a b)) ∧
    (a.length ≤ b.length → (Far k b a → lev a b k = k + 1) ∧ (¬ Far k b a → lev a b k = ed a b)) := by
  rw [lev_rest, rest_apart h1 h2]
  simp only [levc]
  rw [if_neg (fun q => q.elim ha hb), if_neg (by omega)]
  refine ⟨fun h => ?_, fun h => ?_⟩
  · rw [if_pos h, if_pos h]
    exact levc_long k hb ha (by omega) ha'
  · have hn : ¬ b.length < a.length := by omega
    rw [if_neg hn, if_neg hn, ed_comm a b]
    exact levc_long k ha hb h hb'

theorem sc_ascii {c d : Nat} (hc : c < 128) (hd : d < 128) : sc c d = if c = d then 0 else if lo1 c = lo1 d then 1 else 2 := by
  unfold sc subc
  rw [lower_ascii (x := tx [c]) (by rw [tx_cps]; simpa using hc), lower_ascii (x := tx [d]) (by rw [tx_cps]; simpa using hd)]
  have e1 : (tx [c] = tx [d]) ↔ c = d := by rw [tx_inj]; simp
  have e2 : ((⟨(tx [c]).cps.map lo1⟩ : Str) = ⟨(tx [d]).cps.map lo1⟩) ↔ lo1 c = lo1 d := by simp [tx]
  simp only [e1, e2]
/-- one sign written for another, as long as there are any -/
theorem al_max : ∀ (u v : List Nat), ∃ c, c ≤ 2 * (max u.length v.length : Int) ∧ Al u v c
  | [], v => ⟨_, by simp <;> omega, al_inss v⟩
  | x :: u, [] => ⟨_, by simp <;> omega, al_dels (x :: u)⟩
  | x :: u, y :: v => by
    obtain ⟨c, h1, h2⟩ := al_max u v
    have := sc_le x y
    exact ⟨c + sc x y, by simp only [List.length_cons]; omega, .sub h2⟩
theorem ed_max (u v : List Nat) : ed u v ≤ 2 * (max u.length v.length : Int) := by
  obtain ⟨c, h1, h2⟩ := al_max u v
  have := ed_le h2
  omega
theorem lcp_rev_suffix {a b : List Nat} {n : Nat} (h : n ≤ lcp a.reverse b.reverse) : a.drop (a.length - n) = b.drop (b.length - n) := by
  have e := lcp_take a.reverse b.reverse
  have e' : a.reverse.take n = b.reverse.take n := by
    have := congrArg (List.take n) e
    rw [List.take_take, List.take_take, Nat.min_eq_left h] at this
    exact this
  rw [List.take_reverse, List.take_reverse] at e'
  exact List.reverse_inj.mp e'
theorem lcp_drop (a b : List Nat) : lcp (a.drop (lcp a b)) (b.drop (lcp a b)) = 0 := by
  refine lcp_zero fun x y h1 h2 => ?_
  rw [List.head?_drop] at h1 h2
  exact lcp_stop a b x y h1 h2
theorem lcp_take_zero {a b : List Nat} (h : lcp a b = 0) (m n : Nat) : lcp (a.take m) (b.take n) = 0 := by
  refine lcp_zero fun x y h1 h2 => ?_
  rw [List.head?_take] at h1 h2
  split at h1
  · cases h1
  split at h2
  · cases h2
  exact lcp_stop a b x y (by rw [h, ← List.head?_eq_getElem?]; exact h1) (by rw [h, ← List.head?_eq_getElem?]; exact h2)
/-- what rest gives -/
theorem rest_spec (a b : List Nat) : ∃ h t, a = h ++ (rest a b).1 ++ t ∧ b = h ++ (rest a b).2 ++ t ∧ lcp (rest a b).1 (rest a b).2 = 0 ∧ lcp (rest a b).1.reverse (rest a b).2.reverse = 0 := by
  have hp := lcp_take a b
  have hd := lcp_drop a b
  have hs := lcp_rev_suffix (Nat.le_refl (lcp (a.drop (lcp a b)).reverse (b.drop (lcp a b)).reverse))
  have hr := lcp_drop (a.drop (lcp a b)).reverse (b.drop (lcp a b)).reverse
  simp only [rest]
  generalize lcp a b = p at *
  generalize lcp (a.drop p).reverse (b.drop p).reverse = q at *
  refine ⟨a.take p, (a.drop p).drop ((a.drop p).length - q), ?_, ?_, lcp_take_zero hd _ _, ?_⟩
  · rw [List.append_assoc, List.take_append_drop, List.take_append_drop]
  · rw [hp, hs, List.append_assoc, List.take_append_drop, List.take_append_drop]
  · rw [List.drop_reverse, List.drop_reverse] at hr
    exact hr
/-- signs written as codes -/
theorem lcp_map {f : Nat → Nat} : ∀ {a b : List Nat}, (∀ x ∈ a, ∀ y ∈ b, f x = f y → x = y) → lcp (a.map f) (b.map f) = lcp a b
  | [], _, _ => by simp [lcp]
  | _ :: _, [], _ => by simp [lcp]
  | x :: a, y :: b, h => by
    have ih := lcp_map (f := f) (a := a) (b := b) fun u hu v hv => h u (.tail _ hu) v (.tail _ hv)
    simp only [List.map_cons, lcp, ih]
    by_cases e : x = y
    · simp [e]
    · rw [if_neg e, if_neg (fun q => e (h x (.head _) y (.head _) q))]
theorem rest_sub (a b : List Nat) : (∀ x ∈ (rest a b).1, x ∈ a) ∧ (∀ x ∈ (rest a b).2, x ∈ b) := by
  obtain ⟨h, t, ea, eb, _⟩ := rest_spec a b
  refine ⟨fun x hx => ?_, fun x hx => ?_⟩
  · rw [ea]; simp [hx]
  · rw [eb]; simp [hx]

/-- the signs a, A, b, B, c, C and _ -/
def cod (n : Nat) : Nat := [97, 65, 98, 66, 99, 67, 95].getD n 0
def prc (m n : Nat) : Int := if m = n then 0 else if m / 2 = n / 2 then 1 else 2
theorem cod_lt : ∀ m < 7, cod m < 128 := by decide
theorem cod_inj {m n : Nat} (hm : m < 7) (hn : n < 7) (h : cod m = cod n) : m = n := by
  have : ∀ m < 7, ∀ n < 7, cod m = cod n → m = n := by decide
  exact this m hm n hn h
theorem sc_cod {m n : Nat} (hm : m < 7) (hn : n < 7) : sc (cod m) (cod n) = prc m n := by
  rw [sc_ascii (cod_lt m hm) (cod_lt n hn)]
  have : ∀ m < 7, ∀ n < 7, (if cod m = cod n then (0 : Int) else if lo1 (cod m) = lo1 (cod n) then 1 else 2) = prc m n := by decide
  exact this m hm n hn
theorem cod_get {n : Nat} (h : n < 7) : [97, 65, 98, 66, 99, 67, 95][n]? = some (cod n) := by
  have : ∀ n < 7, [97, 65, 98, 66, 99, 67, 95][n]? = some (cod n) := by decide
  exact this n h
def nat (n : Nat) : PT := .int (n : Int)

structure DP (n m top : Nat) (p D : Nat → Nat → Nat) : Prop where
  zero : D 0 0 = 0
  le : ∀ i j, i ≤ n → j ≤ m → D i j ≤ top
  down : ∀ i j, D (i + 1) j ≤ D i j + 2
  right : ∀ i j, D i (j + 1) ≤ D i j + 2
  diag : ∀ i j, i < n → j < m → D (i + 1) (j + 1) ≤ D i j + p i j
  pred : ∀ i j, i ≤ n → j ≤ m → (i = 0 ∧ j = 0) ∨ (∃ i', i = i' + 1 ∧ D i j = D i' j + 2) ∨ (∃ j', j = j' + 1 ∧ D i j = D i j' + 2) ∨ (∃ i' j', i = i' + 1 ∧ j = j' + 1 ∧ D i j = D i' j' + p i' j')
def cells (n m : Nat) : List (Nat × Nat) := (List.range (n + 1)).flatMap fun i => (List.range (m + 1)).map fun j => (i, j)
theorem mem_cells {n m i j : Nat} : (i, j) ∈ cells n m ↔ i ≤ n ∧ j ≤ m := by
  unfold cells
  rw [List.mem_flatMap]
  constructor
  · rintro ⟨a, ha, hb⟩
    rw [List.mem_map] at hb
    obtain ⟨b, hb, e⟩ := hb
    cases e
    rw [List.mem_range] at ha hb
    omega
  · rintro ⟨h1, h2⟩
    exact ⟨i, List.mem_range.mpr (by omega), List.mem_map.mpr ⟨j, List.mem_range.mpr (by omega), rfl⟩⟩
theorem len_cells (n m : Nat) : (cells n m).length = (n + 1) * (m + 1) := by
  unfold cells
  generalize n + 1 = a
  generalize m + 1 = b
  induction a with
  | zero => simp
  | succ a ih => rw [List.range_succ, List.flatMap_append, List.length_append, ih, Nat.succ_mul]; simp
theorem nodup_cells (n m : Nat) : (cells n m).Nodup := by
  unfold cells
  generalize n + 1 = a
  generalize m + 1 = b
  induction a with
  | zero => simp
  | succ a ih =>
    rw [List.range_succ, List.flatMap_append, List.nodup_append]
    refine ⟨ih, ?_, ?_⟩
    · simp only [List.flatMap_cons, List.flatMap_nil, List.append_nil]
      exact List.Pairwise.map _ (R := (· ≠ ·)) (fun x y h e => h (by cases e; rfl)) List.nodup_range
    · intro x hx y hy e
      subst e
      rw [List.mem_flatMap] at hx
      obtain ⟨i, hi, hx⟩ := hx
      rw [List.mem_map] at hx
      obtain ⟨j, _, rfl⟩ := hx
      rw [List.mem_range] at hi
      simp only [List.flatMap_cons, List.flatMap_nil, List.append_nil, List.mem_map] at hy
      obtain ⟨j', _, e⟩ := hy
      cases e
      omega
/-- the cells that no cost is known of -/
def un (n m top : Nat) (c : Nat → Nat → Nat) : Nat := (cells n m).countP fun x => decide (top < c x.1 x.2)
def put (c : Nat → Nat → Nat) (i j v : Nat) : Nat → Nat → Nat := fun a b => if a = i ∧ b = j then v else c a b
theorem put_same {c : Nat → Nat → Nat} {i j v : Nat} : put c i j v i j = v := by simp [put]
theorem put_ne {c : Nat → Nat → Nat} {i j v a b : Nat} (h : ¬ (a = i ∧ b = j)) : put c i j v a b = c a b := by simp [put, h]
theorem countP_put {l : List (Nat × Nat)} {top : Nat} {c : Nat → Nat → Nat} {i j v : Nat} (hn : l.Nodup) (hm : (i, j) ∈ l) (hc : top < c i j) (hv : v ≤ top) :
    (l.countP fun x => decide (top < put c i j v x.1 x.2)) + 1 = l.countP fun x => decide (top < c x.1 x.2) := by
  induction l with
  | nil => cases hm
  | cons x l ih =>
    rw [List.nodup_cons] at hn
    rw [List.countP_cons, List.countP_cons]
    rcases List.mem_cons.mp hm with e | hm
    · subst e
      have same : (l.countP fun x => decide (top < put c i j v x.1 x.2)) = l.countP fun x => decide (top < c x.1 x.2) := by
        refine List.countP_congr fun y hy => ?_
        have : ¬ (y.1 = i ∧ y.2 = j) := fun q => hn.1 (by rw [← q.1, ← q.2]; exact hy)
        rw [put_ne this]
      rw [same, put_same]
      simp only [decide_eq_true hc, if_true]
      rw [decide_eq_false (by omega), if_neg (by decide)]
    · have := ih hn.2 hm
      have hne : ¬ (x.1 = i ∧ x.2 = j) := fun q => hn.1 (by have : x = (i, j) := by rw [← q.1, ← q.2]
                                                            rw [this]; exact hm)
      rw [put_ne hne]
      omega
def app (w : Nat → List (Nat × Nat)) (t : Nat) (x : Nat × Nat) : Nat → List (Nat × Nat) := fun s => if s = t then w s ++ [x] else w s
theorem app_mem {w : Nat → List (Nat × Nat)} {t s : Nat} {x y : Nat × Nat} (h : y ∈ w s) : y ∈ app w t x s := by
  unfold app
  split
  · exact List.mem_append_left _ h
  · exact h
theorem app_new {w : Nat → List (Nat × Nat)} {t : Nat} {x : Nat × Nat} : x ∈ app w t x t := by simp [app]
theorem mem_app {w : Nat → List (Nat × Nat)} {t s : Nat} {x y : Nat × Nat} (h : y ∈ app w t x s) : y ∈ w s ∨ (s = t ∧ y = x) := by
  unfold app at h
  split at h
  · rename_i e
    rcases List.mem_append.mp h with h | h
    · exact .inl h
    · rw [List.mem_singleton] at h; exact .inr ⟨e, h⟩
  · exact .inl h
theorem app_len {w : Nat → List (Nat × Nat)} {t s : Nat} {x : Nat × Nat} : (app w t x s).length ≤ (w s).length + 1 := by
  unfold app
  split
  · simp
  · omega
theorem app_get {w : Nat → List (Nat × Nat)} {t s q : Nat} {x y : Nat × Nat} (h : (w s)[q]? = some y) : (app w t x s)[q]? = some y := by
  unfold app
  split
  · have : q < (w s).length := by
      rcases Nat.lt_or_ge q (w s).length with z | z
      · exact z
      · rw [List.getElem?_eq_none z] at h; cases h
    rw [List.getElem?_append_left this]; exact h
  · exact h
theorem app_other {w : Nat → List (Nat × Nat)} {t s : Nat} {x : Nat × Nat} (h : s ≠ t) : app w t x s = w s := by simp [app, h]
/-- what holds while level l is worked off, k of its entries done -/
structure BF (n m top : Nat) (p D : Nat → Nat → Nat) (c : Nat → Nat → Nat) (w : Nat → List (Nat × Nat)) (l k : Nat) : Prop where
  S : ∀ i j, i ≤ n → j ≤ m → c i j = D i j ∨ c i j = top + 1
  K : ∀ i j, i ≤ n → j ≤ m → D i j < l → c i j = D i j
  U : ∀ i j, i ≤ n → j ≤ m → c i j ≤ top → D i j ≤ l
  B : ∀ t i j, (i, j) ∈ w t → i ≤ n ∧ j ≤ m ∧ D i j ≤ t
  C1 : ∀ i j, i ≤ n → j ≤ m → c i j ≤ top → i < n → (i + 1, j) ∈ w (D i j + 2)
  C2 : ∀ i j, i ≤ n → j ≤ m → c i j ≤ top → j < m → (i, j + 1) ∈ w (D i j + 2)
  C3 : ∀ i j, i ≤ n → j ≤ m → c i j ≤ top → i < n → j < m → (i + 1, j + 1) ∈ w (D i j + p i j)
  Z : (0, 0) ∈ w 0
  E : ∀ q x, q < k → (w l)[q]? = some x → c x.1 x.2 ≤ top
  L : ∀ t, (w t).length + 3 * un n m top c ≤ 1 + 3 * ((n + 1) * (m + 1))
section
variable {n m top : Nat} {p D : Nat → Nat → Nat} {c : Nat → Nat → Nat} {w : Nat → List (Nat × Nat)} {l k : Nat}
theorem BF.skip (b : BF n m top p D c w l k) {i j : Nat} (h : (w l)[k]? = some (i, j)) (hl : l ≤ top) (hc : c i j ≤ l) : BF n m top p D c w l (k + 1) := by
  refine ⟨b.S, b.K, b.U, b.B, b.C1, b.C2, b.C3, b.Z, fun q x hq hx => ?_, b.L⟩
  by_cases e : q = k
  · subst e; rw [h] at hx; cases hx; show c i j ≤ top; omega
  · exact b.E q x (by omega) hx
theorem BF.next (d : DP n m top p D) (b : BF n m top p D c w l k) (hk : (w l).length ≤ k) : BF n m top p D c w (l + 1) 0 := by
  have all : ∀ x, x ∈ w l → c x.1 x.2 ≤ top := fun x hx => by
    obtain ⟨q, hq, e⟩ := List.getElem_of_mem hx
    exact b.E q x (by omega) (by rw [List.getElem?_eq_getElem hq, e])
  have key : ∀ s i j, i + j = s → i ≤ n → j ≤ m → D i j ≤ l → c i j = D i j := by
    intro s
    induction s using Nat.strongRecOn with
    | ind s ih =>
      intro i j hs hi hj hd
      by_cases hlt : D i j < l
      · exact b.K i j hi hj hlt
      have hdl : D i j = l := by omega
      have done : (i, j) ∈ w l → c i j = D i j := fun hm => by
        have h1 := all (i, j) hm
        rcases b.S i j hi hj with e | e
        · exact e
        · rw [e] at h1; omega
      rcases d.pred i j hi hj with ⟨rfl, rfl⟩ | ⟨i', rfl, e⟩ | ⟨j', rfl, e⟩ | ⟨i', j', rfl, rfl, e⟩
      · rw [d.zero] at hdl
        subst hdl
        exact done b.Z
      · have h1 := ih (i' + j) (by omega) i' j rfl (by omega) hj (by omega)
        have h2 := b.C1 i' j (by omega) hj (by rw [h1]; exact d.le i' j (by omega) hj) (by omega)
        rw [← e, hdl] at h2
        exact done h2
      · have h1 := ih (i + j') (by omega) i j' rfl hi (by omega) (by omega)
        have h2 := b.C2 i j' hi (by omega) (by rw [h1]; exact d.le i j' hi (by omega)) (by omega)
        rw [← e, hdl] at h2
        exact done h2
      · have h1 := ih (i' + j') (by omega) i' j' rfl (by omega) (by omega) (by omega)
        have h2 := b.C3 i' j' (by omega) (by omega) (by rw [h1]; exact d.le i' j' (by omega) (by omega)) (by omega) (by omega)
        rw [← e, hdl] at h2
        exact done h2
  refine ⟨b.S, fun i j hi hj h => key (i + j) i j rfl hi hj (by omega), fun i j hi hj h => by have := b.U i j hi hj h; omega, b.B, b.C1, b.C2, b.C3, b.Z, fun q x hq => by omega, b.L⟩
/-- what is set down when a cell's cost is known -/
def grow (n m : Nat) (p : Nat → Nat → Nat) (w : Nat → List (Nat × Nat)) (l i j : Nat) : Nat → List (Nat × Nat) :=
  let w1 := if i < n then app w (l + 2) (i + 1, j) else w
  let w2 := if j < m then app w1 (l + 2) (i, j + 1) else w1
  if i < n ∧ j < m then app w2 (l + p i j) (i + 1, j + 1) else w2
theorem grow_mem {s i j : Nat} {y : Nat × Nat} (h : y ∈ w s) : y ∈ grow n m p w l i j s := by
  unfold grow
  split <;> split <;> split <;> first | exact h | exact app_mem h | exact app_mem (app_mem h) | exact app_mem (app_mem (app_mem h))
theorem mem_grow {s i j : Nat} {y : Nat × Nat} (h : y ∈ grow n m p w l i j s) : y ∈ w s ∨ (i < n ∧ s = l + 2 ∧ y = (i + 1, j)) ∨ (j < m ∧ s = l + 2 ∧ y = (i, j + 1)) ∨ (i < n ∧ j < m ∧ s = l + p i j ∧ y = (i + 1, j + 1)) := by
  have h1 : ∀ z, z ∈ (if i < n then app w (l + 2) (i + 1, j) else w) s → z ∈ w s ∨ (i < n ∧ s = l + 2 ∧ z = (i + 1, j)) := fun z hz => by
    split at hz
    · rename_i q
      rcases mem_app hz with hz | ⟨e1, e2⟩
      · exact .inl hz
      · exact .inr ⟨q, e1, e2⟩
    · exact .inl hz
  have h2 : ∀ z, z ∈ (if j < m then app (if i < n then app w (l + 2) (i + 1, j) else w) (l + 2) (i, j + 1) else (if i < n then app w (l + 2) (i + 1, j) else w)) s → z ∈ w s ∨ (i < n ∧ s = l + 2 ∧ z = (i + 1, j)) ∨ (j < m ∧ s = l + 2 ∧ z = (i, j + 1)) := fun z hz => by
    split at hz
    · rename_i q
      rcases mem_app hz with hz | ⟨e1, e2⟩
      · rcases h1 z hz with r | r
        · exact .inl r
        · exact .inr (.inl r)
      · exact .inr (.inr ⟨q, e1, e2⟩)
    · rcases h1 z hz with r | r
      · exact .inl r
      · exact .inr (.inl r)
  unfold grow at h
  split at h
  · rename_i q
    rcases mem_app h with h | ⟨e1, e2⟩
    · rcases h2 y h with r | r | r
      · exact .inl r
      · exact .inr (.inl r)
      · exact .inr (.inr (.inl r))
    · exact .inr (.inr (.inr ⟨q.1, q.2, e1, e2⟩))
  · rcases h2 y h with r | r | r
    · exact .inl r
    · exact .inr (.inl r)
    · exact .inr (.inr (.inl r))
theorem grow_len {s i j : Nat} : (grow n m p w l i j s).length ≤ (w s).length + 3 := by
  have h1 : ((if i < n then app w (l + 2) (i + 1, j) else w) s).length ≤ (w s).length + 1 := by
    split
    · exact app_len
    · omega
  have h2 : ((if j < m then app (if i < n then app w (l + 2) (i + 1, j) else w) (l + 2) (i, j + 1) else (if i < n then app w (l + 2) (i + 1, j) else w)) s).length ≤ (w s).length + 2 := by
    split
    · exact Nat.le_trans app_len (by omega)
    · omega
  unfold grow
  split
  · exact Nat.le_trans app_len (by omega)
  · omega
theorem grow_here {i j : Nat} : (grow n m p w l i j l).length ≤ (w l).length + 1 := by
  have ne : l ≠ l + 2 := by omega
  have h2 : (if j < m then app (if i < n then app w (l + 2) (i + 1, j) else w) (l + 2) (i, j + 1) else (if i < n then app w (l + 2) (i + 1, j) else w)) l = w l := by
    split <;> split <;> simp [app_other ne]
  unfold grow
  split
  · refine Nat.le_trans app_len ?_
    rw [h2]; exact Nat.le_refl _
  · rw [h2]; omega
theorem grow_get {s q i j : Nat} {y : Nat × Nat} (h : (w s)[q]? = some y) : (grow n m p w l i j s)[q]? = some y := by
  unfold grow
  split <;> split <;> split <;> first | exact h | exact app_get h | exact app_get (app_get h) | exact app_get (app_get (app_get h))
theorem BF.settle (d : DP n m top p D) (b : BF n m top p D c w l k) {i j : Nat} (h : (w l)[k]? = some (i, j)) (hl : l ≤ top) (hc : l < c i j) :
    i ≤ n ∧ j ≤ m ∧ BF n m top p D (put c i j l) (grow n m p w l i j) l (k + 1) ∧ un n m top (put c i j l) + 1 = un n m top c := by
  obtain ⟨hi, hj, hd⟩ := b.B l i j (List.mem_of_getElem? h)
  have hct : top < c i j := by
    rcases b.S i j hi hj with e | e
    · rw [e] at hc; omega
    · omega
  have hdl : D i j = l := by
    rcases Nat.lt_or_ge (D i j) l with z | z
    · have := b.K i j hi hj z
      have := d.le i j hi hj
      omega
    · omega
  have hun := countP_put (top := top) (c := c) (v := l) (nodup_cells n m) (mem_cells.mpr ⟨hi, hj⟩) hct hl
  have old : ∀ a e, ¬ (a = i ∧ e = j) → put c i j l a e = c a e := fun a e q => put_ne q
  refine ⟨hi, hj, ⟨?_, ?_, ?_, ?_, ?_, ?_, ?_, grow_mem b.Z, ?_, ?_⟩, hun⟩
  · intro a e ha he
    by_cases q : a = i ∧ e = j
    · obtain ⟨rfl, rfl⟩ := q; left; rw [put_same, hdl]
    · rw [old a e q]; exact b.S a e ha he
  · intro a e ha he hlt
    by_cases q : a = i ∧ e = j
    · obtain ⟨rfl, rfl⟩ := q; omega
    · rw [old a e q]; exact b.K a e ha he hlt
  · intro a e ha he ht
    by_cases q : a = i ∧ e = j
    · obtain ⟨rfl, rfl⟩ := q; omega
    · rw [old a e q] at ht; exact b.U a e ha he ht
  · intro t a e hm
    rcases mem_grow hm with hm | ⟨q1, rfl, q3⟩ | ⟨q1, rfl, q3⟩ | ⟨q1, q2, rfl, q3⟩
    · exact b.B t a e hm
    · cases q3; have := d.down i j; exact ⟨by omega, by omega, by omega⟩
    · cases q3; have := d.right i j; exact ⟨by omega, by omega, by omega⟩
    · cases q3; have := d.diag i j q1 q2; exact ⟨by omega, by omega, by omega⟩
  · intro a e ha he ht hlt
    by_cases q : a = i ∧ e = j
    · obtain ⟨rfl, rfl⟩ := q
      rw [hdl]
      unfold grow
      rw [if_pos hlt]
      split <;> split <;> first | exact app_new | exact app_mem app_new | exact app_mem (app_mem app_new)
    · rw [old a e q] at ht
      exact grow_mem (b.C1 a e ha he ht hlt)
  · intro a e ha he ht hlt
    by_cases q : a = i ∧ e = j
    · obtain ⟨rfl, rfl⟩ := q
      rw [hdl]
      unfold grow
      rw [if_pos hlt]
      split <;> first | exact app_new | exact app_mem app_new
    · rw [old a e q] at ht
      exact grow_mem (b.C2 a e ha he ht hlt)
  · intro a e ha he ht h1 h2
    by_cases q : a = i ∧ e = j
    · obtain ⟨rfl, rfl⟩ := q
      rw [hdl]
      unfold grow
      rw [if_pos ⟨h1, h2⟩]
      exact app_new
    · rw [old a e q] at ht
      exact grow_mem (b.C3 a e ha he ht h1 h2)
  · intro q x hq hx
    have hlt : q < (w l).length := by
      have hk : k < (w l).length := by
        rcases Nat.lt_or_ge k (w l).length with z | z
        · exact z
        · rw [List.getElem?_eq_none z] at h; cases h
      omega
    have hx' : (w l)[q]? = some x := by
      have := grow_get (n := n) (m := m) (p := p) (l := l) (i := i) (j := j) (List.getElem?_eq_getElem hlt)
      rw [this] at hx; cases hx
      exact List.getElem?_eq_getElem hlt
    by_cases e : q = k
    · subst e; rw [h] at hx'; cases hx'
      show put c i j l i j ≤ top
      rw [put_same]; exact hl
    · have := b.E q x (by omega) hx'
      by_cases z : x.1 = i ∧ x.2 = j
      · rw [z.1, z.2, put_same]; exact hl
      · rw [old _ _ z]; exact this
  · intro t
    have h1 := b.L t
    have h2 := grow_len (n := n) (m := m) (p := p) (w := w) (l := l) (i := i) (j := j) (s := t)
    have hun' : un n m top (put c i j l) + 1 = un n m top c := hun
    omega
theorem BF.end (d : DP n m top p D) (b : BF n m top p D c w (top + 1) 0) : ∀ i j, i ≤ n → j ≤ m → c i j = D i j := fun i j hi hj => b.K i j hi hj (by have := d.le i j hi hj; omega)
theorem BF.start (hD : D 0 0 = 0) : BF n m top p D (fun _ _ => top + 1) (fun t => if t = 0 then [(0, 0)] else []) 0 0 := by
  have hun : un n m top (fun _ _ => top + 1) = (n + 1) * (m + 1) := by
    unfold un
    rw [← len_cells, List.countP_eq_length]
    intro x _; simp
  refine ⟨fun i j _ _ => .inr rfl, fun i j _ _ h => by omega, fun i j _ _ h => by omega, fun t i j h => ?_, fun i j _ _ h => by omega, fun i j _ _ h => by omega, fun i j _ _ h => by omega, by simp, fun q x h => by omega, fun t => ?_⟩
  · split at h
    · rw [List.mem_singleton] at h; cases h; exact ⟨by omega, by omega, by omega⟩
    · cases h
  · rw [hun]
    split <;> simp
end

theorem prc_nonneg (x y : Nat) : 0 ≤ prc x y := by unfold prc; split <;> (try split) <;> omega
theorem prc_le (x y : Nat) : prc x y ≤ 2 := by unfold prc; split <;> (try split) <;> omega

def pr2 (x : Nat × Nat) : PT := .tup [.int (x.1 : Nat), .int (x.2 : Nat)]
def rowP (c : Nat → Nat → Nat) (m i : Nat) : List PT := (List.range (m + 1)).map fun j => nat (c i j)
theorem rowP_len (c : Nat → Nat → Nat) (m i : Nat) : (rowP c m i).length = m + 1 := by simp [rowP]
theorem rowP_get {c : Nat → Nat → Nat} {m i j : Nat} (h : j ≤ m) : (rowP c m i)[j]? = some (nat (c i j)) := by
  unfold rowP
  rw [List.getElem?_map, List.getElem?_range (by omega)]; rfl
theorem rowP_put {c : Nat → Nat → Nat} {m i j v : Nat} : rowP (put c i j v) m i = (rowP c m i).set j (nat v) := by
  refine List.ext_getElem? fun b => ?_
  rw [List.getElem?_set, rowP_len]
  by_cases hb : b ≤ m
  · rw [rowP_get hb, rowP_get hb]
    by_cases e : j = b
    · subst e; rw [put_same, if_pos rfl, if_pos (by omega)]
    · rw [put_ne (fun q => e q.2.symm), if_neg e]
  · have h1 : (rowP (put c i j v) m i)[b]? = none := List.getElem?_eq_none (by rw [rowP_len]; omega)
    have h2 : (rowP c m i)[b]? = none := List.getElem?_eq_none (by rw [rowP_len]; omega)
    rw [h1, h2]
    split
    · rw [if_neg (by omega)]
    · rfl
theorem rowP_other {c : Nat → Nat → Nat} {m i j v a : Nat} (h : a ≠ i) : rowP (put c i j v) m a = rowP c m a := by
  unfold rowP
  refine List.map_congr_left fun b _ => ?_
  rw [put_ne (fun q => h q.1)]
structure Ad (H₀ : AH) (L : Nat) (a0 b0 : Addr) (rs ws : List Addr) : Prop where
  ab : a0 ≠ b0
  a : a0 ∉ rs ++ ws
  b : b0 ∉ rs ++ ws
  nr : rs.Nodup
  nw : ws.Nodup
  rw : ∀ x ∈ rs, x ∉ ws
  lo : ∀ x ∈ a0 :: b0 :: (rs ++ ws), L ≤ x ∧ H₀ x = Option.none
structure CS (H₀ : AH) (a0 b0 : Addr) (rs ws : List Addr) (m : Nat) (c : Nat → Nat → Nat) (w : Nat → List (Nat × Nat)) (H : AH) : Prop where
  h0 : H a0 = some (rs.map PT.mut)
  h1 : H b0 = some (ws.map PT.mut)
  hr : ∀ (i : Nat) r, rs[i]? = some r → H r = some (rowP c m i)
  hw : ∀ (t : Nat) r, ws[t]? = some r → H r = some ((w t).map pr2)
  fr : ∀ x us, H₀ x = some us → H x = some us
theorem get_lt {α : Type} {l : List α} {i : Nat} {x : α} (h : l[i]? = some x) : i < l.length := by
  rcases Nat.lt_or_ge i l.length with z | z
  · exact z
  · rw [List.getElem?_eq_none z] at h; cases h
section
variable {H₀ H : AH} {L : Nat} {a0 b0 : Addr} {rs ws : List Addr} {m : Nat} {c : Nat → Nat → Nat} {w : Nat → List (Nat × Nat)}
theorem CS.row (A : Ad H₀ L a0 b0 rs ws) (s : CS H₀ a0 b0 rs ws m c w H) {i j v : Nat} {r : Addr} (hi : rs[i]? = some r) : CS H₀ a0 b0 rs ws m (put c i j v) w (hup H r ((rowP c m i).set j (nat v))) := by
  have hm : r ∈ rs := List.mem_of_getElem? hi
  have ra : a0 ≠ r := fun e => A.a (by rw [e]; exact List.mem_append_left _ hm)
  have rb : b0 ≠ r := fun e => A.b (by rw [e]; exact List.mem_append_left _ hm)
  refine ⟨hup_ne ra s.h0, hup_ne rb s.h1, fun i' r' h => ?_, fun t r' h => ?_, fun x us e => ?_⟩
  · by_cases e : i' = i
    · subst e; rw [hi] at h; cases h; rw [hup_same, rowP_put]
    · have : r' ≠ r := fun z => e ((List.getElem?_inj (get_lt h) A.nr).mp (by rw [h, hi, z]))
      rw [hup_ne this rfl, s.hr i' r' h, rowP_other e]
  · have : r' ≠ r := fun z => A.rw r hm (by rw [← z]; exact List.mem_of_getElem? h)
    rw [hup_ne this rfl, s.hw t r' h]
  · have : x ≠ r := fun z => by
      have := (A.lo r (by simp [hm])).2
      rw [← z, e] at this; cases this
    rw [hup_ne this rfl, s.fr x us e]
theorem CS.app (A : Ad H₀ L a0 b0 rs ws) (s : CS H₀ a0 b0 rs ws m c w H) {t : Nat} {x : Nat × Nat} {r : Addr} (ht : ws[t]? = some r) : CS H₀ a0 b0 rs ws m c (app w t x) (hup H r ((w t).map pr2 ++ [pr2 x])) := by
  have hm : r ∈ ws := List.mem_of_getElem? ht
  have ra : a0 ≠ r := fun e => A.a (by rw [e]; exact List.mem_append_right _ hm)
  have rb : b0 ≠ r := fun e => A.b (by rw [e]; exact List.mem_append_right _ hm)
  refine ⟨hup_ne ra s.h0, hup_ne rb s.h1, fun i' r' h => ?_, fun t' r' h => ?_, fun y us e => ?_⟩
  · have : r' ≠ r := fun z => A.rw r' (List.mem_of_getElem? h) (by rw [z]; exact hm)
    rw [hup_ne this rfl, s.hr i' r' h]
  · by_cases e : t' = t
    · subst e; rw [ht] at h; cases h
      rw [hup_same, Mine.app, if_pos rfl, List.map_append]; rfl
    · have : r' ≠ r := fun z => e ((List.getElem?_inj (get_lt h) A.nw).mp (by rw [h, ht, z]))
      rw [hup_ne this rfl, s.hw t' r' h, app_other e]
  · have : y ≠ r := fun z => by
      have := (A.lo r (by simp [hm])).2
      rw [← z, e] at this; cases this
    rw [hup_ne this rfl, s.fr y us e]
end

local macro_rules | `(tactic| walk_at "look") => `(tactic| first
  | exact upd_same
  | (refine upd_ne (name_ne (by decide)) ?_; walk_at "look")
  | assumption
  | (refine σc_look (by rfl) ?_; walk_at "look")
  | fail "look")
local macro_rules | `(tactic| walk_at "call") => `(tactic| first
  | ((with_reducible show Ev _ (Expr.Call (Expr.Name (PySem.Str.ofString "len") _) _ _ _) _ _ _); refine ev_blt (Bl.len (by assumption)) PyProof.Rows.Boot.len ?_)
  | ((with_reducible show Ev _ (Expr.Call (Expr.Name (PySem.Str.ofString "min") _) _ _ _) _ _ _); refine ev_blt (Bl.min (by assumption)) PyProof.Rows.Boot.min ?_)
  | ((with_reducible show Ev _ (Expr.Call (Expr.Name (PySem.Str.ofString "max") _) _ _ _) _ _ _); refine ev_blt (Bl.max (by assumption)) PyProof.Rows.Boot.max ?_)
  | ((with_reducible show Ev _ (Expr.Call (Expr.Name (PySem.Str.ofString "abs") _) _ _ _) _ _ _); refine ev_blt (Bl.abs (by assumption)) PyProof.Rows.Boot.abs ?_)
  | ((with_reducible show Ev _ (Expr.Call (Expr.Name (PySem.Str.ofString "range") _) _ _ _) _ _ _); refine ev_typ (Bl.range (by assumption)) PyProof.Rows.Boot.range ?_)
  | ((with_reducible show Blt _ "min" [PT.int _, PT.int _] _ _); refine min_ints ?_)
  | ((with_reducible show Blt _ "max" [PT.int _, PT.int _] _ _); refine max_ints ?_)
  | ((with_reducible show Typ _ "range" [PT.int _] _ _); refine range1 ?_)
  | fail "call")
local macro_rules | `(tactic| walk_at "op") => `(tactic| first
  | ((with_reducible show Bin _ Operator.Add (PT.int _) (PT.int _) _ _); refine bin_add ?_)
  | ((with_reducible show Bin _ Operator.Sub (PT.int _) (PT.int _) _ _); refine bin_sub ?_)
  | ((with_reducible show Bin _ Operator.Mod (PT.int _) (PT.int _) _ _); refine bin_mod ?_)
  | ((with_reducible show Bin _ Operator.FloorDiv (PT.int _) (PT.int _) _ _); refine bin_div ?_)
  | ((with_reducible show Bin _ Operator.Mult (PT.int _) (PT.int _) _ _); refine bin_mul ?_ (by first | exact .inl (by decide) | exact .inr (by decide) | omega))
  | ((with_reducible show Sub _ (PT.lst [PT.int _, PT.int _]) (PT.int _) _ _); refine sub_at lv_lst (by simp) (by simp) (by simp) rfl ?_)
  | ((with_reducible show Cmp _ CmpOp.Eq (PT.int _) (PT.int _) _ _); refine cmp_eq ?_)
  | ((with_reducible show Cmp _ CmpOp.NotEq (PT.int _) (PT.int _) _ _); refine cmp_ne ?_)
  | ((with_reducible show Cmp _ CmpOp.Lt (PT.int _) (PT.int _) _ _); refine cmp_lt ?_)
  | ((with_reducible show Cmp _ CmpOp.LtE (PT.int _) (PT.int _) _ _); refine cmp_le ?_)
  | ((with_reducible show Cmp _ CmpOp.Gt (PT.int _) (PT.int _) _ _); refine cmp_gt ?_)
  | ((with_reducible show Tru _ (PT.bool _) _ _); refine tru_bool ?_)
  | ((with_reducible show Inp _ Operator.Add (PT.int _) (PT.int _) _ _); refine inp_add ?_)
  | fail "op")
local macro_rules | `(tactic| walk_at "len") => `(tactic| first | (simp only [List.length_append, reps_length, List.length_cons, List.length_nil] <;> omega) | omega)
local macro_rules | `(tactic| walk_at "if") => `(tactic| first
  | ((with_reducible show if ((_ : Int) == _) = true then _ else _); refine ite_beq (fun _ => ?_) (fun h' => absurd (by omega) h'))
  | ((with_reducible show if ((_ : Int) == _) = true then _ else _); refine ite_beq (fun h' => absurd h' (by omega)) (fun _ => ?_))
  | ((with_reducible show if ((_ : Int) != _) = true then _ else _); refine ite_bne (fun h' => absurd (by omega) h') (fun _ => ?_))
  | ((with_reducible show if ((_ : Int) != _) = true then _ else _); refine ite_bne (fun _ => ?_) (fun h' => absurd h' (by omega)))
  | ((with_reducible show if decide _ = true then _ else _); refine ite_dec (fun _ => ?_) (fun h' => absurd (by omega) h'))
  | ((with_reducible show if decide _ = true then _ else _); refine ite_dec (fun h' => absurd h' (by omega)) (fun _ => ?_))
  | fail "if")
local macro_rules | `(tactic| walk_at "st") => `(tactic| first
  | ((with_reducible show Exs _ (List.cons _ _) _ _ _); refine exs_cons ?_)
  | ((with_reducible show Exs _ [] _ _ _); refine exs_nil ?_)
  | ((with_reducible show Then _ _ _ Fl.next _ _); refine then_next ?_)
  | ((with_reducible show Then _ _ _ (Fl.ret _) _ _); refine then_ret ?_)
  | ((with_reducible show Ex _ (Stmt.Return (some _) _) _ _ _); refine ex_return ?_)
  | ((with_reducible show Ex _ (Stmt.If _ _ _ _) _ _ _); refine ex_if ?_)
  | ((with_reducible show Ex _ (Stmt.Assign [Expr.Name _ _] _ _) _ _ _); refine ex_set ?_)
  | ((with_reducible show Ex _ (Stmt.Assign [Expr.Tuple [Expr.Name _ _, Expr.Name _ _] _ _] (Expr.Tuple [_, _] _ _) _) _ _ _); refine ex_swap2 ?_)
  | ((with_reducible show Ex _ (Stmt.Assign [Expr.Tuple _ _ _] _ _) _ _ _); refine ex_assign ?_)
  | ((with_reducible show Asg _ (Expr.Name _ _) _ _ _ _); refine asg_name ?_)
  | ((with_reducible show Asg _ (Expr.Tuple _ _ _) (PT.tup _) _ _ _); refine asg_tuple ?_)
  | ((with_reducible show Asgs _ (List.cons (Expr.Name _ _) _) (List.cons _ _) _ _ _); refine asgs_name ?_)
  | ((with_reducible show Asgs _ [] [] _ _ _); refine asgs_nil ?_)
  | ((with_reducible show (List.length _ ≤ 16777216 ∧ _)); refine ⟨by simp, ?_⟩)
  | ((with_reducible show Ex _ (Stmt.AugAssign (Expr.Name _ _) _ _ _) _ _ _); refine ex_aug (by walk_at "look") ?_)
  | ((with_reducible show Ts _ (Expr.Compare _ [_] [_] _) _ _ _); refine ts_compare ?_)
  | ((with_reducible show Ts _ (Expr.Compare _ [_, _] [_, _] _) _ _ _); refine ts_chain ?_)
  | ((with_reducible show Ts _ (Expr.BoolOp BoolOp.And (List.cons _ _) _) _ _ _); refine ts_and ?_)
  | ((with_reducible show Ts _ (Expr.BoolOp BoolOp.And [] _) _ _ _); refine ts_and_nil ?_)
  | ((with_reducible show Ev _ (Expr.Name _ _) _ _ _); refine ev_name (by walk_at "look") ?_)
  | ((with_reducible show Ev _ (Expr.Constant (Const.int _) _ _) _ _ _); refine ev_int ?_)
  | ((with_reducible show Ev _ (Expr.Constant (Const.str (PySem.Str.ofString "")) _ _) _ _ _); refine ev_lit (l := []) rfl ?_)
  | ((with_reducible show Ev _ (Expr.BinOp _ _ _ _) _ _ _); refine ev_binop ?_)
  | ((with_reducible show Ev _ (Expr.Compare _ [_] [_] _) _ _ _); refine ev_compare ?_)
  | ((with_reducible show Ev _ (Expr.IfExp _ _ _ _) _ _ _); refine ev_if ?_)
  | ((with_reducible show Ev _ (Expr.Subscript _ (Expr.Slice _ _ none _) _) _ _ _); fail)
  | ((with_reducible show Ev _ (Expr.Subscript _ _ _) _ _ _); refine ev_sub ?_)
  | ((with_reducible show Ev _ (Expr.Tuple _ _ _) _ _ _); refine ev_tuple ?_)
  | ((with_reducible show Evs _ [] _ _ _); refine evs_nil ?_)
  | ((with_reducible show Evs _ (List.cons _ _) _ _ _); refine evs_cons ?_)
  | ((with_reducible show Evo _ none _ _ _); refine evo_none ?_)
  | ((with_reducible show Evo _ (some _) _ _ _); refine evo_some ?_)
  | ((with_reducible show if true = true then _ else _); refine ite_true' ?_)
  | ((with_reducible show if false = true then _ else _); refine ite_false' ?_)
  | walk_at "op"
  | walk_at "call"
  | walk_at "if"
  | fail "st")
local macro_rules | `(tactic| walk_at "go") => `(tactic| repeat' walk_at "st")

local macro_rules | `(tactic| walk_at "as1") => `(tactic| first
  | ((with_reducible show Exs _ (List.cons _ _) _ _ _); refine exs_cons ?_)
  | ((with_reducible show Then _ _ _ Fl.next _ _); refine then_next ?_)
  | ((with_reducible show Ex _ (Stmt.Assign [Expr.Name _ _] _ _) _ _ _); refine ex_set ?_)
  | ((with_reducible show Asg _ (Expr.Name _ _) _ _ _ _); refine asg_name ?_)
  | ((with_reducible show Asg _ (Expr.Tuple _ _ _) (PT.tup _) _ _ _); refine asg_tuple ?_)
  | ((with_reducible show Asgs _ (List.cons (Expr.Name _ _) _) (List.cons _ _) _ _ _); refine asgs_name ?_)
  | ((with_reducible show Asgs _ [] [] _ _ _); refine asgs_nil ?_)
  | fail "as")
local macro_rules | `(tactic| walk_at "as") => `(tactic| repeat' walk_at "as1")

abbrev priC (G : Gx) (A : Around) (f : Addr) (cd : Value) (L d : Nat) : Cx := mkC G A "_law_price" (fnAt PySem.Challenge.pw_dn0226_09 7).2.2 f cd L d
set_option maxHeartbeats 4000000 in
theorem price_ok {G : Gx} {fp : Addr} (F : FnIs G PySem.Challenge.pw_dn0226_09 "_law_price" 7 fp) (m n : Nat) (H : AH) :
    Fn G 1 fp [nat m, nat n] H fun u => u = .int (prc m n) := by
  refine F.spec (xs := ["m", "n"]) ?_ (by decide) rfl ?_
  · intro pm cd doc vs hv
    match vs, hv with
    | [a, b], _ => rfl
  intro A L cd
  dsimp only [upds, nat]
  refine exs_cons ?_
  walk_at "go"
  refine ite_beq (fun e => ?_) fun e => ?_
  · walk_at "go"
    exact ⟨_, _, rfl, .nm rfl, by rw [prc, if_pos (by omega)]⟩
  · walk_at "go"
    refine ite_beq (fun e' => ?_) fun e' => ?_
    · walk_at "go"
      exact ⟨_, _, rfl, .nm rfl, by rw [prc, if_neg (by omega), if_pos (by omega)]⟩
    · walk_at "go"
      exact ⟨_, _, rfl, .nm rfl, by rw [prc, if_neg (by omega), if_neg (by omega)]⟩

abbrev cosB : List Stmt := (fnAt PySem.Challenge.pw_dn0226_09 8).2.1
abbrev cosC (G : Gx) (A : Around) (f : Addr) (cd : Value) (L d : Nat) : Cx := mkC G A "_law_costs" (fnAt PySem.Challenge.pw_dn0226_09 8).2.2 f cd L d
theorem lv_mono {H H' : AH} {t : PT} {ts : List PT} (hH : ∀ a us, H a = some us → H' a = some us) (l : Lv H t ts) : Lv H' t ts := by
  rcases l with e | ⟨x, e, hx⟩
  · exact .inl e
  · exact .inr ⟨x, e, hH _ _ hx⟩
/-- the names of the def -/
structure CN (σ : Sg) (ta tb : PT) (top : Nat) (a0 b0 : Addr) : Prop where
  xl : σ "long" = some ta
  xs : σ "short" = some tb
  xt : σ "top" = some (.int top)
  xc : σ "costs" = some (.mut a0)
  xw : σ "waiting" = some (.mut b0)
set_option maxHeartbeats 2000000 in
theorem cos_settle {G : Gx} (B : Bl G) {fp : Addr} (FP : FnIs G PySem.Challenge.pw_dn0226_09 "_law_price" 7 fp) {A : Around} {fc : Addr} {cd : Value} {L : Nat} {H₀ H : AH} {ta tb : PT} {a b : List Nat} (la : Lv H₀ ta (a.map nat)) (lb : Lv H₀ tb (b.map nat)) (hal : a.length ≤ 100) (hbl : b.length ≤ 100) {top : Nat} {a0 b0 : Addr} {rs ws : List Addr}
    (AD : Ad H₀ L a0 b0 rs ws) (hrl : rs.length = a.length + 1) (hwl : ws.length = top + 3) (htop : top ≤ 1000) {c : Nat → Nat → Nat} {w : Nat → List (Nat × Nat)} {l i j k : Nat} (hl : l ≤ top) (hi : i ≤ a.length) (hj : j ≤ b.length) (hlen : ∀ t, (w t).length ≤ 100000)
    {σ : Sg} (N : CN σ ta tb top a0 b0) (x1 : σ "level" = some (.int l)) (x2 : σ "i" = some (.int i)) (x3 : σ "j" = some (.int j)) (x4 : σ "k" = some (.int k)) (s : CS H₀ a0 b0 rs ws b.length c w H) {R : Fl → Sg → AH → Prop}
    (hR : ∀ H', CS H₀ a0 b0 rs ws b.length (put c i j l) (grow a.length b.length (fun i j => (prc (a.getD i 0) (b.getD j 0)).toNat) w l i j) H' → R .next σ H') :
    Exs (cosC G A fc cd L 1) (forB (forB (forB cosB 4) 1) 2) σ H R := by
  obtain ⟨xl, xs, xt, xc, xw⟩ := N
  obtain ⟨r, hr⟩ : ∃ r, rs[i]? = some r := ⟨_, List.getElem?_eq_getElem (by omega)⟩
  have hrm : r ∈ rs := List.mem_of_getElem? hr
  have wsg : ∀ t, t < top + 3 → ∃ r, ws[t]? = some r := fun t ht => ⟨_, List.getElem?_eq_getElem (by omega)⟩
  have putw : ∀ (w : Nat → List (Nat × Nat)) (t : Nat) (r : Addr), ws[t]? = some r → (ws.map PT.mut)[((t : Nat) : Int).toNat]? = some (PT.mut r) := fun w t r h => by rw [Int.toNat_natCast, List.getElem?_map, h]; rfl
  refine exs_cut (fun σ' H' => σ' = σ ∧ CS H₀ a0 b0 rs ws b.length (put c i j l) w H') ?_ ?_
  · refine ex_setitem ?_
    walk_at "go"
    refine sub_at (lv_mut s.h0) (by omega) (by rw [List.length_map]; omega) (by rw [List.length_map]; omega) (t := .mut r) (by rw [Int.toNat_natCast, List.getElem?_map, hr]; rfl) ?_
    walk_at "go"
    refine ⟨r, _, _, rfl, rfl, (AD.lo r (by simp [hrm])).1, s.hr i r hr, by omega, by rw [rowP_len]; omega, by rw [rowP_len]; omega, ?_⟩
    refine ⟨rfl, rfl, ?_⟩
    rw [Int.toNat_natCast]
    exact s.row AD hr
  rintro σ₁ H₁ ⟨rfl, s⟩
  refine exs_cut (fun σ' H' => σ' = σ₁ ∧ CS H₀ a0 b0 rs ws b.length (put c i j l) (if i < a.length then app w (l + 2) (i + 1, j) else w) H') ?_ ?_
  · refine ex_if ?_
    walk_at "go"
    refine len_lst (lv_mono s.fr la) ?_ (by rw [List.length_map]; omega)
    walk_at "go"
    rw [List.length_map]
    refine ite_dec (fun h => ?_) fun h => ?_
    · obtain ⟨q, hq⟩ := wsg (l + 2) (by omega)
      have hqm : q ∈ ws := List.mem_of_getElem? hq
      refine exs_cons ?_
      refine ex_append ?_
      walk_at "go"
      refine sub_at (lv_mut s.h1) (by omega) (by rw [List.length_map]; omega) (by rw [List.length_map]; omega) (t := .mut q) (putw w (l + 2) q hq) ?_
      refine ⟨q, rfl, (AD.lo q (by simp [hqm])).1, ⟨_, s.hw _ q hq⟩, ?_⟩
      walk_at "go"
      refine ⟨_, s.hw _ q hq, by rw [List.length_map]; have := hlen (l + 2); omega, ?_⟩
      walk_at "go"
      rw [if_pos (by omega)]
      exact ⟨rfl, rfl, s.app AD hq⟩
    · walk_at "go"
      rw [if_neg (by omega)]
      exact ⟨rfl, rfl, s⟩
  rintro σ₂ H₂ ⟨rfl, s⟩
  have hlen1 : ∀ t, ((if i < a.length then app w (l + 2) (i + 1, j) else w) t).length ≤ 100001 := fun t => by
    have := hlen t
    split
    · exact Nat.le_trans app_len (by omega)
    · omega
  generalize hw1 : (if i < a.length then app w (l + 2) (i + 1, j) else w) = w1 at *
  refine exs_cut (fun σ' H' => σ' = σ₂ ∧ CS H₀ a0 b0 rs ws b.length (put c i j l) (if j < b.length then app w1 (l + 2) (i, j + 1) else w1) H') ?_ ?_
  · refine ex_if ?_
    walk_at "go"
    refine len_lst (lv_mono s.fr lb) ?_ (by rw [List.length_map]; omega)
    walk_at "go"
    rw [List.length_map]
    refine ite_dec (fun h => ?_) fun h => ?_
    · obtain ⟨q, hq⟩ := wsg (l + 2) (by omega)
      have hqm : q ∈ ws := List.mem_of_getElem? hq
      refine exs_cons ?_
      refine ex_append ?_
      walk_at "go"
      refine sub_at (lv_mut s.h1) (by omega) (by rw [List.length_map]; omega) (by rw [List.length_map]; omega) (t := .mut q) (putw w (l + 2) q hq) ?_
      refine ⟨q, rfl, (AD.lo q (by simp [hqm])).1, ⟨_, s.hw _ q hq⟩, ?_⟩
      walk_at "go"
      refine ⟨_, s.hw _ q hq, by rw [List.length_map]; have := hlen1 (l + 2); omega, ?_⟩
      walk_at "go"
      rw [if_pos (by omega)]
      exact ⟨rfl, rfl, s.app AD hq⟩
    · walk_at "go"
      rw [if_neg (by omega)]
      exact ⟨rfl, rfl, s⟩
  rintro σ₃ H₃ ⟨rfl, s⟩
  have hlen2 : ∀ t, ((if j < b.length then app w1 (l + 2) (i, j + 1) else w1) t).length ≤ 100002 := fun t => by
    have := hlen1 t
    split
    · exact Nat.le_trans app_len (by omega)
    · omega
  have hgr : grow a.length b.length (fun i j => (prc (a.getD i 0) (b.getD j 0)).toNat) w l i j = if i < a.length ∧ j < b.length then app (if j < b.length then app w1 (l + 2) (i, j + 1) else w1) (l + (prc (a.getD i 0) (b.getD j 0)).toNat) (i + 1, j + 1) else (if j < b.length then app w1 (l + 2) (i, j + 1) else w1) := by
    unfold grow
    rw [hw1]
  rw [hgr] at hR
  generalize (if j < b.length then app w1 (l + 2) (i, j + 1) else w1) = w2 at *
  have hp0 := prc_nonneg (a.getD i 0) (b.getD j 0)
  have hp2 := prc_le (a.getD i 0) (b.getD j 0)
  refine exs_cons ?_
  refine ex_if ?_
  refine ts_and ?_
  walk_at "go"
  refine len_lst (lv_mono s.fr la) ?_ (by rw [List.length_map]; omega)
  walk_at "go"
  rw [List.length_map]
  refine ite_dec (fun h1 => ?_) fun h1 => ?_
  · refine ts_and ?_
    walk_at "go"
    refine len_lst (lv_mono s.fr lb) ?_ (by rw [List.length_map]; omega)
    walk_at "go"
    rw [List.length_map]
    refine ite_dec (fun h2 => ?_) fun h2 => ?_
    · refine ts_and_nil ?_
      refine ite_true' ?_
      obtain ⟨q, hq⟩ := wsg (l + (prc (a.getD i 0) (b.getD j 0)).toNat) (by omega)
      have hqm : q ∈ ws := List.mem_of_getElem? hq
      refine exs_cons ?_
      refine ex_append ?_
      walk_at "go"
      refine ev_fn 1 FP rfl ?_ (show 1 ≤ 1 by decide)
      walk_at "go"
      refine sub_at (lv_mono s.fr la) (by omega) (by rw [List.length_map]; omega) (by rw [List.length_map]; omega) (t := nat (a.getD i 0)) (by rw [Int.toNat_natCast, List.getElem?_map, List.getD_eq_getElem?_getD, List.getElem?_eq_getElem (by omega)]; rfl) ?_
      walk_at "go"
      refine sub_at (lv_mono s.fr lb) (by omega) (by rw [List.length_map]; omega) (by rw [List.length_map]; omega) (t := nat (b.getD j 0)) (by rw [Int.toNat_natCast, List.getElem?_map, List.getD_eq_getElem?_getD, List.getElem?_eq_getElem (by omega)]; rfl) ?_
      walk_at "go"
      refine (price_ok FP _ _ H₃).mono fun z hz => ?_
      subst hz
      walk_at "go"
      have ep : (l : Int) + prc (a.getD i 0) (b.getD j 0) = ((l + (prc (a.getD i 0) (b.getD j 0)).toNat : Nat) : Int) := by omega
      rw [ep]
      refine sub_at (lv_mut s.h1) (by omega) (by rw [List.length_map]; omega) (by rw [List.length_map]; omega) (t := .mut q) (putw w _ q hq) ?_
      refine ⟨q, rfl, (AD.lo q (by simp [hqm])).1, ⟨_, s.hw _ q hq⟩, ?_⟩
      walk_at "go"
      refine ⟨_, s.hw _ q hq, by rw [List.length_map]; have := hlen2 (l + (prc (a.getD i 0) (b.getD j 0)).toNat); omega, ?_⟩
      walk_at "go"
      refine hR _ ?_
      rw [if_pos (by omega)]
      exact s.app AD hq
    · walk_at "go"
      refine hR _ ?_
      rw [if_neg (by omega)]
      exact s
  · walk_at "go"
    refine hR _ ?_
    rw [if_neg (by omega)]
    exact s

theorem keep_upd {σ σ' : Sg} {y : Str} {t : PT} (hy : σ y = Option.none) (h : ∀ x u, σ x = some u → σ' x = some u) : ∀ x u, σ x = some u → upd σ' y t x = some u := fun x u e => by
  unfold upd
  split
  · rename_i q; subst q; rw [hy] at e; cases e
  · exact h x u e
theorem keep_self {σ : Sg} : ∀ x u, σ x = some u → σ x = some u := fun _ _ e => e
theorem rep_row (x m : Nat) : (List.replicate (m + 1) [PT.int ((x : Int) + 1)]).flatten = rowP (fun _ _ => x + 1) m 0 := by
  unfold rowP
  generalize m + 1 = k
  induction k with
  | zero => rfl
  | succ k ih =>
    rw [List.replicate_succ', List.flatten_append, ih, List.range_succ, List.map_append]
    rfl
theorem at_nats {n k : Nat} {u : PT} (h : ((List.range n).map nat)[k]? = some u) : u = nat k ∧ k < n := by
  rw [List.getElem?_map] at h
  rcases Nat.lt_or_ge k n with q | q
  · rw [List.getElem?_range q] at h; cases h; exact ⟨rfl, q⟩
  · rw [List.getElem?_eq_none (by simpa using q)] at h; cases h
theorem nat_ints (l : List Nat) : l.map nat = (l.map fun (n : Nat) => (n : Int)).map PT.int := by rw [List.map_map]; rfl
theorem nm_nats (l : List Nat) : NMs (l.map nat) = true := by rw [nat_ints]; exact nm_ints _
theorem ress_rows {H' H₀ : AH} {f : Nat → List Nat} : ∀ {rs : List Addr} (o : Nat), (∀ (i : Nat) r, rs[i]? = some r → H₀ r = Option.none ∧ H' r = some ((f (o + i)).map nat)) → Ress H' H₀ (rs.map PT.mut) ((List.range rs.length).map fun i => PT.lst ((f (o + i)).map nat))
  | [], _, _ => .nil
  | r :: rs, o, h => by
    rw [List.length_cons, List.range_succ_eq_map, List.map_cons, List.map_cons, List.map_map]
    obtain ⟨h1, h2⟩ := h 0 r rfl
    refine .cons (.mut h1 h2 (Ress.nms (nm_nats _))) ?_
    have ih := ress_rows (H' := H') (H₀ := H₀) (f := f) (rs := rs) (o + 1) fun i r' hr => by
      have := h (i + 1) r' (by simpa using hr)
      rw [show o + 1 + i = o + (i + 1) by omega]; exact this
    have e : ((List.range rs.length).map fun i => PT.lst ((f (o + 1 + i)).map nat)) = (List.range rs.length).map ((fun i => PT.lst ((f (o + i)).map nat)) ∘ Nat.succ) := by
      refine List.map_congr_left fun i _ => ?_
      show PT.lst _ = PT.lst ((f (o + (i + 1))).map nat)
      rw [show o + 1 + i = o + (i + 1) by omega]
    rw [e] at ih
    exact ih
set_option maxHeartbeats 2000000 in
theorem cos_while {G : Gx} (B : Bl G) {fp : Addr} (FP : FnIs G PySem.Challenge.pw_dn0226_09 "_law_price" 7 fp) {A : Around} {fc : Addr} {cd : Value} {L : Nat} {H₀ H : AH} {ta tb : PT} {a b : List Nat} (la : Lv H₀ ta (a.map nat)) (lb : Lv H₀ tb (b.map nat)) (hal : a.length ≤ 100) (hbl : b.length ≤ 100) {top : Nat} {a0 b0 : Addr} {rs ws : List Addr}
    (AD : Ad H₀ L a0 b0 rs ws) (hrl : rs.length = a.length + 1) (hwl : ws.length = top + 3) (htop : top ≤ 1000) {D : Nat → Nat → Nat} (dp : DP a.length b.length top (fun i j => (prc (a.getD i 0) (b.getD j 0)).toNat) D) {c : Nat → Nat → Nat} {w : Nat → List (Nat × Nat)} {l : Nat} (hl : l ≤ top)
    {σ : Sg} (N : CN σ ta tb top a0 b0) (bf : BF a.length b.length top (fun i j => (prc (a.getD i 0) (b.getD j 0)).toNat) D c w l 0) (s : CS H₀ a0 b0 rs ws b.length c w H) {R : Fl → Sg → AH → Prop}
    (hR : ∀ σ' H' c' w', CN σ' ta tb top a0 b0 → BF a.length b.length top (fun i j => (prc (a.getD i 0) (b.getD j 0)).toNat) D c' w' (l + 1) 0 → CS H₀ a0 b0 rs ws b.length c' w' H' → R .next σ' H') :
    Exs (cosC G A fc cd L 1) (forB cosB 4) (upd σ "level" (nat l)) H R := by
  obtain ⟨q, hq⟩ : ∃ q, ws[l]? = some q := ⟨_, List.getElem?_eq_getElem (by omega)⟩
  have hqi : (ws.map PT.mut)[((l : Nat) : Int).toNat]? = some (PT.mut q) := by rw [Int.toNat_natCast, List.getElem?_map, hq]; rfl
  have hmul : (a.length + 1) * (b.length + 1) ≤ 101 * 101 := Nat.mul_le_mul (by omega) (by omega)
  obtain ⟨xl, xs, xt, xc, xw⟩ := N
  refine exs_cons ?_
  walk_at "go"
  dsimp only [nat]
  refine ex_while (fun n σ H => ∃ c w k, CN σ ta tb top a0 b0 ∧ σ "level" = some (.int l) ∧ σ "k" = some (.int (k : Nat)) ∧ k ≤ (w l).length ∧ BF a.length b.length top (fun i j => (prc (a.getD i 0) (b.getD j 0)).toNat) D c w l k ∧ CS H₀ a0 b0 rs ws b.length c w H ∧ n = 2 * un a.length b.length top c + (w l).length - k) _
    ⟨c, w, 0, ⟨by walk_at "look", by walk_at "look", by walk_at "look", by walk_at "look", by walk_at "look"⟩, by walk_at "look", by walk_at "look", by omega, bf, s, rfl⟩ ?_
  intro n σ H ⟨c, w, k, N, x1, x2, hk, bf, s, hn⟩
  have N' := N
  obtain ⟨xl, xs, xt, xc, xw⟩ := N'
  have hL := fun t => bf.L t
  walk_at "go"
  refine sub_at (lv_mut s.h1) (by omega) (by rw [List.length_map]; omega) (by rw [List.length_map]; omega) (t := .mut q) hqi ?_
  walk_at "go"
  refine len_lst (lv_mut (s.hw l q hq)) ?_ (by rw [List.length_map]; have := hL l; omega)
  walk_at "go"
  rw [List.length_map]
  refine ite_dec (fun h => ?_) fun h => ?_
  · have hkl : k < (w l).length := by omega
    have hx := List.getElem?_eq_getElem hkl
    generalize (w l)[k] = x at hx
    obtain ⟨i, j⟩ := x
    obtain ⟨hi, hj, _⟩ := bf.B l i j (List.mem_of_getElem? hx)
    obtain ⟨r, hr⟩ : ∃ r, rs[i]? = some r := ⟨_, List.getElem?_eq_getElem (by omega)⟩
    refine exs_cons ?_
    refine ex_assign ?_
    walk_at "go"
    refine sub_at (lv_mut s.h1) (by omega) (by rw [List.length_map]; omega) (by rw [List.length_map]; omega) (t := .mut q) hqi ?_
    walk_at "go"
    refine sub_at (lv_mut (s.hw l q hq)) (by omega) (by rw [List.length_map]; omega) (by rw [List.length_map]; have := hL l; omega) (t := pr2 (i, j)) (by rw [Int.toNat_natCast, List.getElem?_map, hx]; rfl) ?_
    dsimp only [pr2]
    walk_at "go"
    refine sub_at (lv_mut s.h0) (by omega) (by rw [List.length_map]; omega) (by rw [List.length_map]; omega) (t := .mut r) (by rw [Int.toNat_natCast, List.getElem?_map, hr]; rfl) ?_
    walk_at "go"
    refine sub_at (lv_mut (s.hr i r hr)) (by omega) (by rw [rowP_len]; omega) (by rw [rowP_len]; omega) (t := nat (c i j)) (by rw [Int.toNat_natCast]; exact rowP_get hj) ?_
    dsimp only [nat]
    walk_at "go"
    refine ite_dec (fun hc => ?_) fun hc => ?_
    · obtain ⟨_, _, bf', hun⟩ := bf.settle dp hx hl (by omega)
      refine cos_settle B FP la lb hal hbl AD hrl hwl htop (c := c) (w := w) (k := k + 1) hl hi hj (fun t => by have := hL t; omega) ⟨by walk_at "look", by walk_at "look", by walk_at "look", by walk_at "look", by walk_at "look"⟩ (by walk_at "look") (by walk_at "look") (by walk_at "look") (by rw [upd_same]; rfl) s fun H' s' => ?_
      have hg := grow_here (n := a.length) (m := b.length) (p := fun i j => (prc (a.getD i 0) (b.getD j 0)).toNat) (w := w) (l := l) (i := i) (j := j)
      have hg2 : k + 1 ≤ (grow a.length b.length (fun i j => (prc (a.getD i 0) (b.getD j 0)).toNat) w l i j l).length := by
        have := grow_get (n := a.length) (m := b.length) (p := fun i j => (prc (a.getD i 0) (b.getD j 0)).toNat) (w := w) (l := l) (i := i) (j := j) hx
        exact get_lt this
      walk_at "go"
      exact ⟨_, by omega, _, _, k + 1, ⟨by walk_at "look", by walk_at "look", by walk_at "look", by walk_at "look", by walk_at "look"⟩, by walk_at "look", by rw [upd_same]; rfl, hg2, bf', s', rfl⟩
    · walk_at "go"
      exact ⟨_, by omega, c, w, k + 1, ⟨by walk_at "look", by walk_at "look", by walk_at "look", by walk_at "look", by walk_at "look"⟩, by walk_at "look", by rw [upd_same]; rfl, by omega, bf.skip hx hl (by omega), s, rfl⟩
  · walk_at "go"
    exact hR _ _ c w N (bf.next dp (by omega)) s

set_option maxHeartbeats 2000000 in
theorem costs_ok {G : Gx} (B : Bl G) {fp fc : Addr} (FP : FnIs G PySem.Challenge.pw_dn0226_09 "_law_price" 7 fp) (F : FnIs G PySem.Challenge.pw_dn0226_09 "_law_costs" 8 fc) {H : AH} {ta tb : PT} {a b : List Nat} (la : Lv H ta (a.map nat)) (lb : Lv H tb (b.map nat)) (hal : a.length ≤ 100) (hbl : b.length ≤ 100)
    {D : Nat → Nat → Nat} (dp : DP a.length b.length (2 * max a.length b.length) (fun i j => (prc (a.getD i 0) (b.getD j 0)).toNat) D) :
    Fn G 2 fc [ta, tb] H fun u => u = .lst ((List.range (a.length + 1)).map fun i => PT.lst (((List.range (b.length + 1)).map fun j => D i j).map nat)) := by
  refine F.spec (xs := ["long", "short"]) ?_ (by decide) rfl ?_
  · intro pm cd doc vs hv
    match vs, hv with
    | [a, b], _ => rfl
  intro A L cd
  dsimp only [upds]
  refine exs_cons ?_
  walk_at "go"
  refine len_lst la ?_ (by rw [List.length_map]; omega)
  walk_at "go"
  refine len_lst lb ?_ (by rw [List.length_map]; omega)
  walk_at "go"
  rw [List.length_map, List.length_map]
  obtain ⟨top, htop⟩ : ∃ top : Nat, top = 2 * max a.length b.length := ⟨_, rfl⟩
  have et : (2 : Int) * max (a.length : Int) (b.length : Int) = (top : Int) := by omega
  rw [et]
  rw [← htop] at dp
  have htb : top ≤ 1000 := by omega
  refine ex_set_compF ?_ ?_
  · walk_at "go"
    refine len_lst la ?_ (by rw [List.length_map]; omega)
    walk_at "go"
    rw [List.length_map]
    refine ⟨(List.range (a.length + 1)).map nat, rowP (fun _ _ => top + 1) b.length 0, itr_nats (by omega) (by omega), by rw [List.length_map, List.length_range, sizeLine_eq]; omega, ?_, ?_⟩
    · intro L' lo k u Hf hu hH
      refine asg_name ⟨rfl, keep_upd (σc_none (by rfl)) keep_self, ?_⟩
      refine ev_trk (eva_mull ?_)
      refine ev_list ?_
      refine evs_cons ?_
      walk_at "go"
      refine len_lst (lv_mono hH lb) ?_ (by rw [List.length_map]; omega)
      walk_at "go"
      rw [List.length_map]
      refine ⟨[PT.int ((top : Int) + 1)], (b.length : Int) + 1, lv_lst, rfl, by omega, by omega, by simp, ?_⟩
      intro x hx lx
      refine ⟨x, rfl, hx, lx, ?_⟩
      have e : ((b.length : Int) + 1).toNat = b.length + 1 := by omega
      rw [e, rep_row]
    intro a0 rs hrl hA ha0 la0
    rw [List.length_map, List.length_range] at hrl
    refine then_next ?_
    refine exs_cons ?_
    refine ex_set_compF ?_ ?_
    · walk_at "go"
      refine ⟨(List.range (top + 3)).map nat, [], itr_nats (by omega) (by omega), by rw [List.length_map, List.length_range, sizeLine_eq]; omega, ?_, ?_⟩
      · intro L' lo k u Hf hu hH
        refine asg_name ⟨rfl, keep_upd (σc_none (by rfl)) keep_self, ?_⟩
        refine ev_newlist ?_
        refine evs_nil ⟨by simp, ?_⟩
        intro x hx lx
        exact ⟨x, rfl, hx, lx, rfl⟩
      intro b0 ws hwl hB hb0 lb0
      rw [List.length_map, List.length_range] at hwl
      have out : ∀ x, hup (hups H rs (rowP (fun _ _ => top + 1) b.length 0)) a0 (rs.map PT.mut) x = Option.none → x ≠ a0 ∧ x ∉ rs ∧ H x = Option.none := fun x hx => by
        have h1 : x ≠ a0 := by rintro rfl; rw [hup_same] at hx; cases hx
        rw [hup_ne h1 rfl] at hx
        unfold hups at hx
        by_cases h2 : x ∈ rs
        · rw [if_pos h2] at hx; cases hx
        · rw [if_neg h2] at hx; exact ⟨h1, h2, hx⟩
      have AD : Ad H L a0 b0 rs ws := by
        refine ⟨fun e => (out b0 hb0).1 e.symm, fun hm => ?_, fun hm => ?_, hA.1, hB.1, fun x hx hw => (out x (hB.2 x hw).1).2.1 hx, fun x hx => ?_⟩
        · rcases List.mem_append.mp hm with h | h
          · exact Nat.lt_irrefl _ (hA.2 a0 h).2
          · exact (out a0 (hB.2 a0 h).1).1 rfl
        · rcases List.mem_append.mp hm with h | h
          · exact (out b0 hb0).2.1 h
          · exact Nat.lt_irrefl _ (hB.2 b0 h).2
        · rcases List.mem_cons.mp hx with rfl | hx
          · exact ⟨la0, ha0⟩
          · rcases List.mem_cons.mp hx with rfl | hx
            · exact ⟨lb0, (out _ hb0).2.2⟩
            · rcases List.mem_append.mp hx with h | h
              · exact ⟨Nat.le_trans la0 (Nat.le_of_lt (hA.2 x h).2), (hA.2 x h).1⟩
              · exact ⟨Nat.le_trans lb0 (Nat.le_of_lt (hB.2 x h).2), (out x (hB.2 x h).1).2.2⟩
      have s0 : CS H a0 b0 rs ws b.length (fun _ _ => top + 1) (fun _ => []) (hup (hups (hup (hups H rs (rowP (fun _ _ => top + 1) b.length 0)) a0 (rs.map PT.mut)) ws []) b0 (ws.map PT.mut)) := by
        have inw : ∀ x, x ≠ b0 → x ∉ ws → hup (hups (hup (hups H rs (rowP (fun _ _ => top + 1) b.length 0)) a0 (rs.map PT.mut)) ws []) b0 (ws.map PT.mut) x = hup (hups H rs (rowP (fun _ _ => top + 1) b.length 0)) a0 (rs.map PT.mut) x := fun x h1 h2 => by
          rw [hup_ne h1 rfl]; unfold hups; rw [if_neg h2]
        refine ⟨?_, hup_same, fun i r h => ?_, fun t r h => ?_, fun x us e => ?_⟩
        · rw [inw a0 AD.ab (fun h => AD.a (List.mem_append_right _ h)), hup_same]
        · have hm := List.mem_of_getElem? h
          rw [inw r (fun e => AD.b (by rw [← e]; exact List.mem_append_left _ hm)) (AD.rw r hm), hup_ne (fun e => AD.a (by rw [← e]; exact List.mem_append_left _ hm)) rfl]
          unfold hups
          rw [if_pos hm]; rfl
        · have hm := List.mem_of_getElem? h
          rw [hup_ne (fun e => AD.b (by rw [← e]; exact List.mem_append_right _ hm)) rfl]
          unfold hups
          rw [if_pos hm]; rfl
        · have nx : ∀ y ∈ a0 :: b0 :: (rs ++ ws), x ≠ y := fun y hy e' => by
            have := (AD.lo y hy).2
            rw [← e', e] at this; cases this
          rw [inw x (nx b0 (by simp)) (fun h => nx x (by simp [h]) rfl), hup_ne (nx a0 (by simp)) rfl]
          unfold hups
          rw [if_neg (fun h => nx x (by simp [h]) rfl)]; exact e
      generalize hup (hups (hup (hups H rs (rowP (fun _ _ => top + 1) b.length 0)) a0 (rs.map PT.mut)) ws []) b0 (ws.map PT.mut) = H1 at s0
      obtain ⟨q, hq⟩ : ∃ q, ws[0]? = some q := ⟨_, List.getElem?_eq_getElem (by omega)⟩
      have hqm : q ∈ ws := List.mem_of_getElem? hq
      refine then_next ?_
      refine exs_cons ?_
      refine ex_append ?_
      walk_at "go"
      refine sub_at (lv_mut s0.h1) (by omega) (by rw [List.length_map]; omega) (by rw [List.length_map]; omega) (t := .mut q) (by rw [Int.toNat_zero, List.getElem?_map, hq]; rfl) ?_
      refine ⟨q, rfl, (AD.lo q (by simp [hqm])).1, ⟨_, s0.hw 0 q hq⟩, ?_⟩
      walk_at "go"
      refine ⟨_, s0.hw 0 q hq, by simp, ?_⟩
      have s1 := s0.app AD (x := (0, 0)) hq
      have ew : app (fun _ => []) 0 (0, 0) = fun t => if t = 0 then [(0, 0)] else ([] : List (Nat × Nat)) := by funext t; unfold app; rfl
      rw [ew] at s1
      walk_at "go"
      refine ex_for ?_
      walk_at "go"
      refine ⟨_, fun l σ H' => CN σ ta tb top a0 b0 ∧ ∃ c w, BF a.length b.length top (fun i j => (prc (a.getD i 0) (b.getD j 0)).toNat) D c w l 0 ∧ CS H a0 b0 rs ws b.length c w H', itr_nats (n := top + 1) (by omega) (by omega), nm_nats _, ⟨⟨by walk_at "look", by walk_at "look", by walk_at "look", by walk_at "look", by walk_at "look"⟩, _, _, BF.start dp.zero, s1⟩, ?_, ?_⟩
      · intro l t σ H' ht ⟨N, c, w, bf, s⟩
        obtain ⟨rfl, hl⟩ := at_nats ht
        refine asg_name ?_
        exact cos_while B FP la lb hal hbl AD hrl hwl htb dp (by omega) N bf s fun σ' H' c' w' n' b' s' => ⟨n', c', w', b', s'⟩
      · intro σ H' ⟨N, c, w, bf, s⟩
        rw [List.length_map, List.length_range] at bf
        have xc := N.xc
        walk_at "go"
        have hc := bf.end dp
        refine ⟨_, _, rfl, .mut (AD.lo a0 (by simp)).2 s.h0 (ress_rows (f := fun i => (List.range (b.length + 1)).map fun j => D i j) 0 fun i r hr => ⟨(AD.lo r (by simp [List.mem_of_getElem? hr])).2, ?_⟩), ?_⟩
        · rw [s.hr i r hr, Nat.zero_add]
          unfold rowP
          rw [List.map_map]
          congr 1
          refine List.map_congr_left fun j hj => ?_
          have := get_lt hr
          show nat _ = nat _
          rw [hc i j (by omega) (by have := List.mem_range.mp hj; omega)]
        · rw [hrl]
          simp only [Nat.zero_add]
    · exact fv_nil
  · show FvOk _ _ ["short", "top"]
    exact fv_cons (by walk_at "look") (fv_cons (by walk_at "look") fv_nil)

theorem ed_snoc (a b : List Nat) (x y : Nat) : ed (a ++ [x]) (b ++ [y]) = min (min (ed a (b ++ [y])) (ed (a ++ [x]) b) + 2) (ed a b + sc x y) := by
  have e : ∀ u v : List Nat, ed u v = ed u.reverse v.reverse := fun u v => (ed_rev u v).symm
  rw [e (a ++ [x]) (b ++ [y]), e a (b ++ [y]), e (a ++ [x]) b, e a b]
  simp only [List.reverse_append, List.reverse_cons, List.reverse_nil, List.nil_append, List.cons_append]
  rw [ed_cons]
theorem take_snoc {l : List Nat} {i : Nat} (h : i < l.length) : l.take (i + 1) = l.take i ++ [l.getD i 0] := by
  rw [List.take_add_one, List.getElem?_eq_getElem h, List.getD_eq_getElem?_getD, List.getElem?_eq_getElem h]; rfl
def D4 (A B : List Nat) (i j : Nat) : Nat := (ed (A.take i) (B.take j)).toNat
theorem D4_int (A B : List Nat) (i j : Nat) : ((D4 A B i j : Nat) : Int) = ed (A.take i) (B.take j) := by
  have := ed_nonneg (A.take i) (B.take j)
  unfold D4; omega
theorem ed_del_le (x : Nat) (a b : List Nat) : ed (a ++ [x]) b ≤ ed a b + 2 := by
  have h := ed_le ((al_ed a b).append (Al.del (x := x) Al.nil))
  simpa using h
theorem ed_ins_le (y : Nat) (a b : List Nat) : ed a (b ++ [y]) ≤ ed a b + 2 := by
  have h := ed_le ((al_ed a b).append (Al.ins (y := y) Al.nil))
  simpa using h
theorem getD_map_cod {a : List Nat} {i : Nat} (h : i < a.length) : (a.map cod).getD i 0 = cod (a.getD i 0) := by
  rw [List.getD_eq_getElem?_getD, List.getElem?_map, List.getElem?_eq_getElem h, List.getD_eq_getElem?_getD, List.getElem?_eq_getElem h]; rfl
theorem getD_lt {a : List Nat} {i n : Nat} (h : i < a.length) (ha : ∀ x ∈ a, x < n) : a.getD i 0 < n := by
  rw [List.getD_eq_getElem?_getD, List.getElem?_eq_getElem h]; exact ha _ (List.getElem_mem h)
theorem D4_dp {a b : List Nat} (ha : ∀ x ∈ a, x < 7) (hb : ∀ x ∈ b, x < 7) : DP a.length b.length (2 * max a.length b.length) (fun i j => (prc (a.getD i 0) (b.getD j 0)).toNat) (D4 (a.map cod) (b.map cod)) := by
  have I := D4_int (a.map cod) (b.map cod)
  have la : (a.map cod).length = a.length := List.length_map ..
  have lb : (b.map cod).length = b.length := List.length_map ..
  refine ⟨?_, fun i j hi hj => ?_, fun i j => ?_, fun i j => ?_, fun i j hi hj => ?_, fun i j hi hj => ?_⟩
  · have := I 0 0
    simp only [List.take_zero] at this
    rw [ed_nil_left] at this
    simp at this; omega
  · have h1 := I i j
    have h2 := ed_max ((a.map cod).take i) ((b.map cod).take j)
    rw [List.length_take, List.length_take, la, lb] at h2
    omega
  · have h1 := I (i + 1) j
    have h2 := I i j
    rcases Nat.lt_or_ge i a.length with h | h
    · rw [take_snoc (by rw [la]; exact h)] at h1
      have := ed_del_le ((a.map cod).getD i 0) ((a.map cod).take i) ((b.map cod).take j)
      omega
    · rw [List.take_of_length_le (by rw [la]; omega)] at h1
      rw [List.take_of_length_le (by rw [la]; omega)] at h2
      omega
  · have h1 := I i (j + 1)
    have h2 := I i j
    rcases Nat.lt_or_ge j b.length with h | h
    · rw [take_snoc (l := b.map cod) (by rw [lb]; exact h)] at h1
      have := ed_ins_le ((b.map cod).getD j 0) ((a.map cod).take i) ((b.map cod).take j)
      omega
    · rw [List.take_of_length_le (l := b.map cod) (by rw [lb]; omega)] at h1
      rw [List.take_of_length_le (l := b.map cod) (by rw [lb]; omega)] at h2
      omega
  · have h1 := I (i + 1) (j + 1)
    have h2 := I i j
    rw [take_snoc (by rw [la]; exact hi), take_snoc (l := b.map cod) (by rw [lb]; exact hj), ed_snoc, getD_map_cod hi, getD_map_cod hj, sc_cod (getD_lt hi ha) (getD_lt hj hb)] at h1
    have := prc_nonneg (a.getD i 0) (b.getD j 0)
    omega
  · cases i with
    | zero =>
      cases j with
      | zero => exact .inl ⟨rfl, rfl⟩
      | succ j =>
        right; right; left
        refine ⟨j, rfl, ?_⟩
        have h1 := I 0 (j + 1)
        have h2 := I 0 j
        simp only [List.take_zero, ed_nil_left, List.length_take, lb] at h1 h2
        omega
    | succ i =>
      cases j with
      | zero =>
        right; left
        refine ⟨i, rfl, ?_⟩
        have h1 := I (i + 1) 0
        have h2 := I i 0
        simp only [List.take_zero, ed_nil_right, List.length_take, la] at h1 h2
        omega
      | succ j =>
        have h1 := I (i + 1) (j + 1)
        have h2 := I i j
        have h3 := I i (j + 1)
        have h4 := I (i + 1) j
        have hi' : i < a.length := by omega
        have hj' : j < b.length := by omega
        rw [take_snoc (l := b.map cod) (by rw [lb]; exact hj')] at h1 h3
        rw [take_snoc (l := a.map cod) (by rw [la]; exact hi')] at h1 h4
        rw [ed_snoc, getD_map_cod hi', getD_map_cod hj', sc_cod (getD_lt hi' ha) (getD_lt hj' hb), ← getD_map_cod hj', ← getD_map_cod hi'] at h1
        have := prc_nonneg (a.getD i 0) (b.getD j 0)
        rcases Int.le_total (min (ed ((a.map cod).take i) ((b.map cod).take j ++ [(b.map cod).getD j 0])) (ed ((a.map cod).take i ++ [(a.map cod).getD i 0]) ((b.map cod).take j)) + 2) (ed ((a.map cod).take i) ((b.map cod).take j) + prc (a.getD i 0) (b.getD j 0)) with q | q
        · rcases Int.le_total (ed ((a.map cod).take i) ((b.map cod).take j ++ [(b.map cod).getD j 0])) (ed ((a.map cod).take i ++ [(a.map cod).getD i 0]) ((b.map cod).take j)) with r | r
          · right; left; exact ⟨i, rfl, by omega⟩
          · right; right; left; exact ⟨j, rfl, by omega⟩
        · right; right; right; exact ⟨i, j, rfl, rfl, by omega⟩

/-- what is told of two texts of signs -/
theorem told4 {a b : List Nat} (ha : ∀ x ∈ a, x < 7) (hb : ∀ x ∈ b, x < 7) (k : Int) :
    ((rest a b).1 = [] ∨ (rest a b).2 = [] → lev (a.map cod) (b.map cod) k = 2 * (((rest a b).1.length : Int) + (rest a b).2.length)) ∧
    ((rest a b).1 ≠ [] → (rest a b).2 ≠ [] → ((rest a b).1.length > 40 ∨ (rest a b).2.length > 40) → lev (a.map cod) (b.map cod) k = k + 1) ∧
    ((rest a b).1 ≠ [] → (rest a b).2 ≠ [] → (rest a b).1.length ≤ 40 → (rest a b).2.length ≤ 40 → ∀ l s, (l, s) = (if (rest a b).1.length > (rest a b).2.length then ((rest a b).1, (rest a b).2) else ((rest a b).2, (rest a b).1)) →
      ((∀ j, j ≤ s.length → k < ed (l.map cod) ((s.map cod).take j)) → lev (a.map cod) (b.map cod) k = k + 1) ∧
      ((∃ j, j ≤ s.length ∧ ed (l.map cod) ((s.map cod).take j) ≤ k) → lev (a.map cod) (b.map cod) k = ed (l.map cod) (s.map cod))) := by
  obtain ⟨h, t, ea, eb, z1, z2⟩ := rest_spec a b
  have hs := rest_sub a b
  have m1 : ∀ x ∈ (rest a b).1, x < 7 := fun x hx => ha x (hs.1 x hx)
  have m2 : ∀ x ∈ (rest a b).2, x < 7 := fun x hx => hb x (hs.2 x hx)
  generalize (rest a b).1 = u at *
  generalize (rest a b).2 = v at *
  have inj : ∀ x ∈ u, ∀ y ∈ v, cod x = cod y → x = y := fun x hx y hy e => cod_inj (m1 x hx) (m2 y hy) e
  have el : lev (a.map cod) (b.map cod) k = lev (u.map cod) (v.map cod) k := by
    rw [ea, eb]
    simp only [List.map_append]
    rw [lev_ends]
  have y1 : lcp (u.map cod) (v.map cod) = 0 := by rw [lcp_map inj]; exact z1
  have y2 : lcp (u.map cod).reverse (v.map cod).reverse = 0 := by
    rw [← List.map_reverse, ← List.map_reverse, lcp_map (fun x hx y hy e => inj x (List.mem_reverse.mp hx) y (List.mem_reverse.mp hy) e)]; exact z2
  rw [el]
  refine ⟨fun he => ?_, fun n1 n2 hbig => ?_, fun n1 n2 l1 l2 l s hls => ?_⟩
  · rcases he with rfl | rfl
    · have := lev_prefix [] (v.map cod) [] k
      simp only [List.nil_append, List.append_nil, List.length_map] at this
      rw [List.map_nil, this]; simp
    · have := lev_prefix' [] (u.map cod) [] k
      simp only [List.nil_append, List.append_nil, List.length_map] at this
      rw [List.map_nil, this]; simp
  · exact lev_big k y1 y2 (by simpa using n1) (by simpa using n2) (by simpa using hbig)
  · obtain ⟨t1, t2⟩ := lev_told k y1 y2 (by simpa using n1) (by simpa using n2) (by simpa using l1) (by simpa using l2)
    have far : ∀ l s : List Nat, (∀ j, j ≤ s.length → k < ed (l.map cod) ((s.map cod).take j)) → Far k (l.map cod) (s.map cod) := fun l s h j => by
      rcases Nat.le_total j s.length with q | q
      · exact h j q
      · have := h s.length (Nat.le_refl _)
        rw [List.take_of_length_le (by simp)] at this
        rw [List.take_of_length_le (by simpa using q)]; exact this
    by_cases hg : u.length > v.length
    · rw [if_pos hg] at hls; cases hls
      have t := t1 (by simpa using hg)
      refine ⟨fun h => t.1 (far u v h), fun ⟨j, hj, hk⟩ => t.2 fun f => ?_⟩
      have := f j; omega
    · rw [if_neg hg] at hls; cases hls
      have t := t2 (by simp; omega)
      refine ⟨fun h => t.1 (far v u h), fun ⟨j, hj, hk⟩ => ?_⟩
      rw [t.2 fun f => by have := f j; omega, ed_comm]

/-- the name of a number -/
def nameF (n : Nat) : List Nat := if h : n = 0 then [] else (n - 1) % 7 :: nameF ((n - 1) / 7)
termination_by n
decreasing_by omega
theorem nameF_zero : nameF 0 = [] := by rw [nameF]; simp
theorem nameF_pos {n : Nat} (h : 0 < n) : nameF n = (n - 1) % 7 :: nameF ((n - 1) / 7) := by rw [nameF]; simp [Nat.ne_of_gt h]
theorem nameF_len : ∀ (k n : Nat), n < 7 ^ k → (nameF n).length ≤ k
  | 0, n, h => by
    have : n = 0 := by simpa using h
    subst this; rw [nameF_zero]; simp
  | k + 1, n, h => by
    rcases Nat.eq_zero_or_pos n with e | e
    · subst e; rw [nameF_zero]; simp
    · rw [nameF_pos e, List.length_cons]
      have := nameF_len k ((n - 1) / 7) (by rw [Nat.div_lt_iff_lt_mul (by decide)]; rw [Nat.pow_succ] at h; omega)
      omega
theorem nameF_lt (n : Nat) : ∀ x ∈ nameF n, x < 7 := by
  induction n using Nat.strongRecOn with
  | ind n ih =>
    intro x hx
    rcases Nat.eq_zero_or_pos n with e | e
    · subst e; rw [nameF_zero] at hx; cases hx
    · rw [nameF_pos e] at hx
      rcases List.mem_cons.mp hx with rfl | hx
      · omega
      · exact ih _ (by omega) x hx
/-- a sign, as its number says -/
def stepF (s : Nat) (way : Int) : List Nat := (if way = 1 then [(s + 2) % 7] else if way = 2 ∧ s < 6 then [s + 1 - s % 2 * 2] else if way ≠ 3 then [s] else []) ++ (if way = 4 then [s] else [])
def likeF : List Nat → Int → List Nat
  | [], _ => []
  | s :: r, n => stepF s (n % 16) ++ likeF r (n / 16)
theorem stepF_lt {s : Nat} (h : s < 7) (way : Int) : ∀ x ∈ stepF s way, x < 7 := by
  intro x hx
  unfold stepF at hx
  rcases List.mem_append.mp hx with hx | hx
  · split at hx
    · rw [List.mem_singleton] at hx; omega
    · split at hx
      · rw [List.mem_singleton] at hx; omega
      · split at hx
        · rw [List.mem_singleton] at hx; omega
        · cases hx
  · split at hx
    · rw [List.mem_singleton] at hx; omega
    · cases hx
theorem stepF_len (s : Nat) (way : Int) : (stepF s way).length ≤ 2 := by
  unfold stepF
  rw [List.length_append]
  have h1 : (if way = 1 then [(s + 2) % 7] else if way = 2 ∧ s < 6 then [s + 1 - s % 2 * 2] else if way ≠ 3 then [s] else []).length ≤ 1 := by
    split
    · simp
    · split
      · simp
      · split <;> simp
  have h2 : (if way = 4 then [s] else []).length ≤ 1 := by split <;> simp
  omega
theorem likeF_lt : ∀ (l : List Nat) (n : Int), (∀ x ∈ l, x < 7) → ∀ x ∈ likeF l n, x < 7
  | [], _, _, x, hx => by cases hx
  | s :: r, n, h, x, hx => by
    rcases List.mem_append.mp (show x ∈ stepF s (n % 16) ++ likeF r (n / 16) from hx) with hx | hx
    · exact stepF_lt (h s (.head _)) _ x hx
    · exact likeF_lt r (n / 16) (fun y hy => h y (.tail _ hy)) x hx
theorem likeF_len : ∀ (l : List Nat) (n : Int), (likeF l n).length ≤ 2 * l.length
  | [], _ => by simp [likeF]
  | s :: r, n => by
    show (stepF s (n % 16) ++ likeF r (n / 16)).length ≤ _
    rw [List.length_append, List.length_cons]
    have h1 := stepF_len s (n % 16)
    have h2 := likeF_len r (n / 16)
    omega
/-- the name that a number of the script gives -/
def nmF (w : List Nat) (x : Int) : List Nat := if x % 2 = 0 then nameF ((x / 2).natAbs % 117649) else (likeF w (x / 2)).take 8
def wrF (x : Int) : List Nat := nameF (x.natAbs % 117649)
theorem wrF_lt (x : Int) : ∀ y ∈ wrF x, y < 7 := nameF_lt _
theorem wrF_len (x : Int) : (wrF x).length ≤ 6 := by
  refine nameF_len 6 _ ?_
  have e : (7 : Nat) ^ 6 = 117649 := by decide
  rw [e]
  exact Nat.mod_lt _ (by decide)
theorem nmF_lt {w : List Nat} (hw : ∀ y ∈ w, y < 7) (x : Int) : ∀ y ∈ nmF w x, y < 7 := by
  intro y hy
  unfold nmF at hy
  split at hy
  · exact nameF_lt _ y hy
  · exact likeF_lt w (x / 2) hw y (List.mem_of_mem_take hy)
theorem nmF_len (w : List Nat) (x : Int) : (nmF w x).length ≤ 8 := by
  unfold nmF
  split
  · have := wrF_len (x / 2)
    unfold wrF at this
    omega
  · rw [List.length_take]; omega

theorem Al.zero {a b : List Nat} {c : Int} (h : Al a b c) : 0 ≤ c ∧ (c = 0 → a = b) := by
  induction h with
  | nil => exact ⟨by omega, fun _ => rfl⟩
  | del _ ih => exact ⟨by omega, fun e => by omega⟩
  | ins _ ih => exact ⟨by omega, fun e => by omega⟩
  | @sub x y a b c h ih =>
    have hs := sc_nonneg x y
    refine ⟨by omega, fun e => ?_⟩
    have hxy : x = y := Classical.byContradiction fun q => by have := sc_pos q; omega
    rw [hxy, ih.2 (by omega)]
theorem map_cod_inj : ∀ {a b : List Nat}, (∀ x ∈ a, x < 7) → (∀ x ∈ b, x < 7) → a.map cod = b.map cod → a = b
  | [], [], _, _, _ => rfl
  | [], _ :: _, _, _, h => by simp at h
  | _ :: _, [], _, _, h => by simp at h
  | x :: a, y :: b, ha, hb, h => by
    simp only [List.map_cons, List.cons.injEq] at h
    rw [cod_inj (ha x (.head _)) (hb y (.head _)) h.1, map_cod_inj (fun z hz => ha z (.tail _ hz)) (fun z hz => hb z (.tail _ hz)) h.2]
/-- how far a name is -/
def farF (w n : List Nat) : Nat := D4 (w.map cod) (n.map cod) w.length n.length
theorem farF_ed (w n : List Nat) : ((farF w n : Nat) : Int) = ed (w.map cod) (n.map cod) := by
  unfold farF
  rw [D4_int, List.take_of_length_le (by simp), List.take_of_length_le (by simp)]
theorem farF_zero {w n : List Nat} (hw : ∀ x ∈ w, x < 7) (hn : ∀ x ∈ n, x < 7) : farF w n = 0 ↔ n = w := by
  have h1 := farF_ed w n
  constructor
  · intro h
    rw [h] at h1
    exact (map_cod_inj hw hn ((al_ed _ _).zero.2 h1.symm)).symm
  · rintro rfl
    rw [ed_self] at h1
    omega
/-- what is told of a name -/
theorem lev_near {a b : List Nat} (ha : ∀ x ∈ a, x < 7) (hb : ∀ x ∈ b, x < 7) (la : a.length ≤ 40) (lb : b.length ≤ 40) (k : Int) :
    ((farF a b : Int) ≤ k → lev (a.map cod) (b.map cod) k = farF a b) ∧ (k < (farF a b : Int) → k < lev (a.map cod) (b.map cod) k) := by
  rw [farF_ed]
  obtain ⟨t1, t2, t3⟩ := told4 ha hb k
  obtain ⟨h, t, ea, eb, _⟩ := rest_spec a b
  have ra := congrArg List.length ea
  have rb := congrArg List.length eb
  simp only [List.length_append] at ra rb
  have ee : ed (a.map cod) (b.map cod) = ed ((rest a b).1.map cod) ((rest a b).2.map cod) := by
    have e1 : a.map cod = h.map cod ++ (rest a b).1.map cod ++ t.map cod := by rw [← List.map_append, ← List.map_append, ← ea]
    have e2 : b.map cod = h.map cod ++ (rest a b).2.map cod ++ t.map cod := by rw [← List.map_append, ← List.map_append, ← eb]
    rw [e1, e2, ed_tail, ed_head]
  rw [ee]
  clear ea eb
  generalize (rest a b).1 = u at *
  generalize (rest a b).2 = v at *
  by_cases h0 : u = [] ∨ v = []
  · rw [t1 h0]
    rcases h0 with rfl | rfl
    · simp only [List.map_nil, List.length_nil]
      rw [ed_nil_left, List.length_map]
      exact ⟨fun _ => by omega, fun h => by omega⟩
    · simp only [List.map_nil, List.length_nil]
      rw [ed_nil_right, List.length_map]
      exact ⟨fun _ => by omega, fun h => by omega⟩
  · have n1 : u ≠ [] := fun e => h0 (.inl e)
    have n2 : v ≠ [] := fun e => h0 (.inr e)
    have key : ∀ l s : List Nat, (l, s) = (if u.length > v.length then (u, v) else (v, u)) → ed (l.map cod) (s.map cod) = ed (u.map cod) (v.map cod) := fun l s e => by
      split at e
      · cases e; rfl
      · cases e; exact ed_comm _ _
    obtain ⟨l, s, hls⟩ : ∃ l s, (l, s) = (if u.length > v.length then (u, v) else (v, u)) := by
      split
      · exact ⟨_, _, rfl⟩
      · exact ⟨_, _, rfl⟩
    obtain ⟨g1, g2⟩ := t3 n1 n2 (by omega) (by omega) l s hls
    have hk := key l s hls
    have hfull : (s.map cod).take s.length = s.map cod := List.take_of_length_le (by simp)
    refine ⟨fun h => ?_, fun h => ?_⟩
    · rw [g2 ⟨s.length, Nat.le_refl _, by rw [hfull, hk]; exact h⟩, hk]
    · by_cases hf : ∃ j, j ≤ s.length ∧ ed (l.map cod) ((s.map cod).take j) ≤ k
      · rw [g2 hf, hk]; exact h
      · rw [g1 fun j hj => ?_]
        · omega
        · rcases Int.lt_or_le k (ed (l.map cod) ((s.map cod).take j)) with q | q
          · exact q
          · exact absurd ⟨j, hj, q⟩ hf

/-- the names that are near enough -/
def Ok9 (W : Nat) (len f : Nat → Nat) (k : Nat) : Prop := 0 < f k ∧ f k < W ∧ 3 * f k ≤ len k + W + 3
/-- the search, when j names are done -/
def Sc9 (W : Nat) (len f : Nat → Nat) (j : Nat) (best : Int) (least : Nat) : Prop :=
  (best = -1 ∧ least = W ∧ ∀ k, k < j → ¬ Ok9 W len f k) ∨ ∃ b : Nat, b < j ∧ Ok9 W len f b ∧ best = (b : Int) ∧ least = f b ∧ ∀ k, k < j → Ok9 W len f k → lexle (f b, b) (f k, k)
theorem Sc9.start (W : Nat) (len f : Nat → Nat) : Sc9 W len f 0 (-1) W := .inl ⟨rfl, rfl, fun k h => by omega⟩
theorem Sc9.keep {W : Nat} {len f : Nat → Nat} {j : Nat} {best : Int} {least : Nat} (s : Sc9 W len f j best least) (h : f j = 0 ∨ least ≤ f j ∨ len j + W + 3 < 3 * f j) : Sc9 W len f (j + 1) best least := by
  rcases s with ⟨h1, h2, h3⟩ | ⟨b, hb, ok, h1, h2, h3⟩
  · refine .inl ⟨h1, h2, fun k hk q => ?_⟩
    rcases Nat.lt_or_ge k j with z | z
    · exact h3 k z q
    · have : k = j := by omega
      subst this
      obtain ⟨q1, q2, q3⟩ := q
      omega
  · refine .inr ⟨b, by omega, ok, h1, h2, fun k hk q => ?_⟩
    rcases Nat.lt_or_ge k j with z | z
    · exact h3 k z q
    · have : k = j := by omega
      subst this
      obtain ⟨q1, q2, q3⟩ := q
      unfold lexle
      show f b < f k ∨ (f b = f k ∧ b ≤ k)
      omega
theorem Sc9.take {W : Nat} {len f : Nat → Nat} {j : Nat} {best : Int} {least : Nat} (s : Sc9 W len f j best least) (h0 : 0 < f j) (h1 : f j < least) (h2 : 3 * f j ≤ len j + W + 3) : Sc9 W len f (j + 1) (j : Int) (f j) := by
  have hW : least ≤ W := by
    rcases s with ⟨_, h, _⟩ | ⟨b, _, ok, _, h, _⟩
    · omega
    · have := ok.2.1; omega
  refine .inr ⟨j, by omega, ⟨h0, by omega, h2⟩, rfl, rfl, fun k hk q => ?_⟩
  unfold lexle
  show f j < f k ∨ (f j = f k ∧ j ≤ k)
  rcases Nat.lt_or_ge k j with z | z
  · rcases s with ⟨_, _, h3⟩ | ⟨b, hb, ok, _, h, h3⟩
    · exact absurd q (h3 k z)
    · have := h3 k z q
      unfold lexle at this
      replace this : f b < f k ∨ (f b = f k ∧ b ≤ k) := this
      omega
  · have : k = j := by omega
    subst this
    omega
def near9 (W : Nat) (len f : Nat → Nat) (j : Nat) : List (Nat × Nat) := (List.range j).filterMap fun k => if 0 < f k ∧ f k < W ∧ 3 * f k ≤ len k + W + 3 then some (f k, k) else none
theorem near9_succ (W : Nat) (len f : Nat → Nat) (j : Nat) : near9 W len f (j + 1) = near9 W len f j ++ (if 0 < f j ∧ f j < W ∧ 3 * f j ≤ len j + W + 3 then [(f j, j)] else []) := by
  unfold near9
  rw [List.range_succ, List.filterMap_append]
  congr 1
  by_cases h : 0 < f j ∧ f j < W ∧ 3 * f j ≤ len j + W + 3
  · rw [if_pos h]; simp [h]
  · rw [if_neg h]; simp [h]
theorem mem_near9 {W : Nat} {len f : Nat → Nat} {j : Nat} {x : Nat × Nat} : x ∈ near9 W len f j ↔ ∃ k, k < j ∧ Ok9 W len f k ∧ x = (f k, k) := by
  unfold near9
  rw [List.mem_filterMap]
  constructor
  · rintro ⟨k, hk, e⟩
    split at e
    · rename_i h; cases e; exact ⟨k, List.mem_range.mp hk, h, rfl⟩
    · cases e
  · rintro ⟨k, hk, h, rfl⟩
    exact ⟨k, List.mem_range.mpr hk, if_pos h⟩
theorem near9_len (W : Nat) (len f : Nat → Nat) (j : Nat) : (near9 W len f j).length ≤ j := by
  unfold near9
  have := List.length_filterMap_le (fun k => if 0 < f k ∧ f k < W ∧ 3 * f k ≤ len k + W + 3 then some (f k, k) else none) (List.range j)
  rw [List.length_range] at this; exact this
theorem near9_nil {W : Nat} {len f : Nat → Nat} {j : Nat} {best : Int} {least : Nat} (s : Sc9 W len f j best least) (h : near9 W len f j = []) : best = -1 := by
  rcases s with ⟨h1, _⟩ | ⟨b, hb, ok, _⟩
  · exact h1
  · have : (f b, b) ∈ near9 W len f j := mem_near9.mpr ⟨b, hb, ok, rfl⟩
    rw [h] at this; cases this
theorem near9_min {W : Nat} {len f : Nat → Nat} {j : Nat} {best : Int} {least : Nat} (s : Sc9 W len f j best least) {m : Nat × Nat} (hm : m ∈ near9 W len f j) (hx : ∀ x ∈ near9 W len f j, lexle m x) : (least : Int) = (m.1 : Int) ∧ best = (m.2 : Int) := by
  obtain ⟨k, hk, ok, rfl⟩ := mem_near9.mp hm
  rcases s with ⟨_, _, h3⟩ | ⟨b, hb, okb, h1, h2, h3⟩
  · exact absurd ok (h3 k hk)
  · have a1 := h3 k hk ok
    have a2 := hx _ (mem_near9.mpr ⟨b, hb, okb, rfl⟩)
    unfold lexle at a1 a2
    replace a1 : f b < f k ∨ (f b = f k ∧ b ≤ k) := a1
    replace a2 : f k < f b ∨ (f k = f b ∧ k ≤ b) := a2
    refine ⟨?_, ?_⟩
    · show (least : Int) = (f k : Int); omega
    · show best = (k : Int); omega

theorem flat_one {α : Type} (f : α → Nat) : ∀ l : List α, (l.map fun x => [f x]).flatten = l.map f
  | [] => rfl
  | x :: l => by rw [List.map_cons, List.flatten_cons, flat_one f l]; rfl
theorem sum_one {α : Type} (f : α → Nat) : ∀ l : List α, ((l.map fun x => [f x]).map List.length).sum = l.length
  | [] => rfl
  | x :: l => by
    have := sum_one f l
    simp only [List.map_cons, List.sum_cons, List.length_cons, List.length_nil] at this ⊢
    omega

theorem cast_inj : ∀ {a b : List Nat}, (a.map fun (n : Nat) => (n : Int)) = (b.map fun (n : Nat) => (n : Int)) → a = b
  | [], [], _ => rfl
  | [], _ :: _, h => by simp at h
  | _ :: _, [], h => by simp at h
  | x :: a, y :: b, h => by
    simp only [List.map_cons, List.cons.injEq] at h
    rw [cast_inj h.2]
    congr 1
    omega
theorem cast_beq (a b : List Nat) : ((a.map fun (n : Nat) => (n : Int)) == (b.map fun (n : Nat) => (n : Int))) = (a == b) := by
  rw [Bool.eq_iff_iff, beq_iff_eq, beq_iff_eq]
  exact ⟨cast_inj, fun h => by rw [h]⟩
theorem cmp_ne_nats {C : Cx} {H : AH} {Q : PT → AH → Prop} {t u : PT} {xs ys : List Nat} (lt : Lv H t (xs.map nat)) (lu : Lv H u (ys.map nat)) (q : Q (.bool (xs != ys)) H) : Cmp C .NotEq t u H Q := by
  rw [nat_ints] at lt lu
  exact cmp_ne_ints lt lu (by rw [bne, cast_beq]; exact q)
/-- a slice of a list, of places that are known -/
theorem ev_slice_lv {C : Cx} {σ : Sg} {H : AH} {Q : PT → AH → Prop} {y : Str} {t : PT} {lower upper : Option Expr} {p1 p2 p3 : Pos} {ts : List PT} {lo hi : Option Int} (hy : σ y = some t) (l : Lv H t ts) (hb : ts.length ≤ 16777216)
    (hl : Evo C lower σ H fun u H₁ => H₁ = H ∧ Prt u lo) (hu : Evo C upper σ H fun u H₁ => H₁ = H ∧ Prt u hi) (q : Q (.lst (cut lo hi ts)) H)
    (h1 : (y == ("__debug__" : Str)) = false := by decide) (h2 : (y == ("__classdict__" : Str)) = false := by decide) : Ev C (.Subscript (.Name y p1) (.Slice lower upper Option.none p2) p3) σ H Q := by
  refine ev_frz (eva_slice (ev_name hy ?_ h1 h2))
  refine fun s x => (hl s x).mono ?_
  rintro u H₁ ⟨rfl, pu⟩
  refine fun s x => (hu s x).mono ?_
  rintro w H₁ ⟨rfl, pw⟩
  exact ⟨ts, lo, hi, l, pu, pw, hb, q⟩
set_option maxHeartbeats 2000000 in
theorem name_ok {G : Gx} (B : Bl G) {fn : Addr} (F : FnIs G PySem.Challenge.pw_dn0226_09 "_law_name" 9 fn) (x : Int) (H : AH) :
    Fn G 1 fn [.int x] H fun u => u = .lst ((wrF x).map nat) := by
  refine F.spec (xs := ["x"]) ?_ (by decide) rfl ?_
  · intro pm cd doc vs hv
    match vs, hv with
    | [a], _ => rfl
  intro A L cd
  dsimp only [upds]
  refine exs_cons ?_
  walk_at "go"
  refine abs_int ?_
  walk_at "go"
  refine bin_pow (by decide) (by decide) (by decide) ?_
  have e7 : (7 : Int) ^ (6 : Int).toNat = 117649 := by decide
  rw [e7]
  walk_at "go"
  refine ev_newlist ?_
  walk_at "go"
  intro a ha la
  walk_at "go"
  obtain ⟨n0, hn0⟩ : ∃ n0 : Nat, n0 = x.natAbs % 117649 := ⟨_, rfl⟩
  have en : ((x.natAbs : Int) % 117649) = (n0 : Int) := by omega
  rw [en]
  have hw : wrF x = nameF n0 := by unfold wrF; rw [hn0]
  have hlen := wrF_len x
  rw [hw] at hlen
  rw [hw]
  refine ex_while (fun m σ H' => ∃ w : List Nat, σ "n" = some (.int (m : Nat)) ∧ σ "name" = some (.mut a) ∧ H' a = some (w.map nat) ∧ w ++ nameF m = nameF n0) n0
    ⟨[], by walk_at "look", by walk_at "look", hup_same, rfl⟩ ?_
  intro m σ H' ⟨w, x1, x2, g, hwm⟩
  walk_at "go"
  refine ite_dec (fun h => ?_) fun h => ?_
  · have hm : 0 < m := by omega
    have hwl : w.length ≤ 6 := by
      have := congrArg List.length hwm
      rw [List.length_append] at this
      omega
    refine exs_cons ?_
    refine ex_append ?_
    walk_at "go"
    refine ⟨a, rfl, la, ⟨_, g⟩, ?_⟩
    walk_at "go"
    refine ⟨_, g, by rw [List.length_map]; omega, ?_⟩
    walk_at "go"
    have e1 : ((m : Int) - 1) % 7 = (((m - 1) % 7 : Nat) : Int) := by omega
    have e2 : ((m : Int) - 1) / 7 = (((m - 1) / 7 : Nat) : Int) := by omega
    rw [e1, e2]
    refine ⟨(m - 1) / 7, by omega, w ++ [(m - 1) % 7], by walk_at "look", by walk_at "look", ?_, ?_⟩
    · rw [hup_same]; simp [nat]
    · rw [nameF_pos hm] at hwm
      rw [← hwm]; simp
  · have hm : m = 0 := by omega
    subst hm
    rw [nameF_zero, List.append_nil] at hwm
    subst hwm
    walk_at "go"
    exact ⟨_, _, rfl, .mut ha g (Ress.nms (nm_nats _)), rfl⟩
set_option maxHeartbeats 2000000 in
theorem text_ok {G : Gx} (B : Bl G) {ft : Addr} (F : FnIs G PySem.Challenge.pw_dn0226_09 "_law_text" 11 ft) {l : List Nat} (hl : ∀ x ∈ l, x < 7) (hb : l.length ≤ 1000) (H : AH) :
    Fn G 1 ft [.lst (l.map nat)] H fun u => u = .str (tx (l.map cod)) := by
  refine F.spec (xs := ["name"]) ?_ (by decide) rfl ?_
  · intro pm cd doc vs hv
    match vs, hv with
    | [a], _ => rfl
  intro A L cd
  dsimp only [upds]
  refine exs_cons ?_
  refine ex_return ?_
  refine ev_method ?_
  walk_at "go"
  refine ⟨_, mth_join, ?_⟩
  refine evs_cons ?_
  refine ev_frz (ev_compM nat (fun n => some (PT.str (tx [cod n]))) ?_ ?_)
  · walk_at "go"
    refine ⟨l, itr_lst, by omega, ?_, ?_, ?_⟩
    · intro x w e; cases e; rfl
    · intro L' lo z Hf hz hH
      refine cturn_map (σc_none (by rfl)) ?_
      refine ev_sub ?_
      refine ev_lit (l := [97, 65, 98, 66, 99, 67, 95]) rfl ?_
      have hz7 := hl z hz
      dsimp only [nat]
      walk_at "go"
      refine sub_txt (by omega) (by simp; omega) (by simp) (by rw [Int.toNat_natCast]; exact cod_get hz7) ⟨rfl, rfl⟩
    rw [filterMap_some]
    walk_at "go"
    have e2 : (l.map fun n => PT.str (tx [cod n])) = (l.map fun n => [cod n]).map fun l => PT.str (tx l) := by rw [List.map_map]; rfl
    rw [e2]
    refine join_txt lv_lst ?_ (by rw [sum_one]; omega)
    rw [flat_one]
    exact ⟨_, _, rfl, .nm rfl, rfl⟩
  · exact fv_nil

abbrev likB : List Stmt := (fnAt PySem.Challenge.pw_dn0226_09 10).2.1
abbrev likC (G : Gx) (A : Around) (f : Addr) (cd : Value) (L d : Nat) : Cx := mkC G A "_law_like" (fnAt PySem.Challenge.pw_dn0226_09 10).2.2 f cd L d
structure LI (a : Addr) (σ : Sg) (H : AH) (md : List Nat) (n : Int) : Prop where
  xn : σ "n" = some (.int n)
  xm : σ "made" = some (.mut a)
  hm : H a = some (md.map nat)
set_option maxHeartbeats 2000000 in
theorem like_turn {G : Gx} (B : Bl G) {A : Around} {f : Addr} {cd : Value} {L : Nat} {a : Addr} {σ : Sg} {H : AH} {md : List Nat} {n : Int} {s : Nat} {R : Fl → Sg → AH → Prop} (la : L ≤ a) (hml : md.length ≤ 1000)
    (I : LI a σ H md n) (hR : ∀ σ' H', LI a σ' H' (md ++ stepF s (n % 16)) (n / 16) → R .next σ' H') :
    Exs (likC G A f cd L 0) (forB likB 1) (upd σ "sign" (nat s)) H R := by
  obtain ⟨x1, x2, g⟩ := I
  dsimp only [nat]
  refine exs_cut (fun σ' H' => H' = H ∧ σ' "sign" = some (.int (s : Nat)) ∧ σ' "way" = some (.int (n % 16)) ∧ σ' "n" = some (.int (n / 16)) ∧ σ' "made" = some (.mut a)) ?_ ?_
  · walk_at "go"
    exact ⟨rfl, rfl, by walk_at "look", by walk_at "look", by walk_at "look", by walk_at "look"⟩
  rintro σ₁ H₁ ⟨rfl, z1, z2, z3, z4⟩
  generalize n % 16 = way at *
  generalize n / 16 = n' at *
  refine exs_cut (fun σ' H' => σ' = σ₁ ∧ H' a = some ((md ++ (if way = 1 then [(s + 2) % 7] else if way = 2 ∧ s < 6 then [s + 1 - s % 2 * 2] else if way ≠ 3 then [s] else [])).map nat)) ?_ ?_
  · have app : ∀ (y : Nat), H₁ a = some (md.map nat) → hup H₁ a (md.map nat ++ [PT.int (y : Nat)]) a = some ((md ++ [y]).map nat) := fun y _ => by rw [hup_same]; simp [nat]
    by_cases c1 : way = 1
    · rw [if_pos c1]
      walk_at "go"
      refine ex_append ?_
      walk_at "go"
      refine ⟨a, rfl, la, ⟨_, g⟩, ?_⟩
      walk_at "go"
      refine ⟨_, g, by rw [List.length_map]; omega, ?_⟩
      walk_at "go"
      have e : ((s : Int) + 2) % 7 = (((s + 2) % 7 : Nat) : Int) := by omega
      rw [e]
      exact ⟨rfl, rfl, app _ g⟩
    · rw [if_neg c1]
      by_cases c2 : way = 2
      · by_cases c3 : s < 6
        · rw [if_pos ⟨c2, c3⟩]
          walk_at "go"
          refine ex_append ?_
          walk_at "go"
          refine ⟨a, rfl, la, ⟨_, g⟩, ?_⟩
          walk_at "go"
          refine ⟨_, g, by rw [List.length_map]; omega, ?_⟩
          walk_at "go"
          have e : (s : Int) + 1 - (s : Int) % 2 * 2 = ((s + 1 - s % 2 * 2 : Nat) : Int) := by omega
          rw [e]
          exact ⟨rfl, rfl, app _ g⟩
        · rw [if_neg (fun q => c3 q.2), if_pos (by omega)]
          walk_at "go"
          refine ex_append ?_
          walk_at "go"
          refine ⟨a, rfl, la, ⟨_, g⟩, ?_⟩
          walk_at "go"
          refine ⟨_, g, by rw [List.length_map]; omega, ?_⟩
          walk_at "go"
          exact ⟨rfl, rfl, app _ g⟩
      · rw [if_neg (fun q => c2 q.1)]
        by_cases c4 : way = 3
        · rw [if_neg (fun q => q c4), List.append_nil]
          walk_at "go"
          exact ⟨rfl, rfl, g⟩
        · rw [if_pos c4]
          walk_at "go"
          refine ex_append ?_
          walk_at "go"
          refine ⟨a, rfl, la, ⟨_, g⟩, ?_⟩
          walk_at "go"
          refine ⟨_, g, by rw [List.length_map]; omega, ?_⟩
          walk_at "go"
          exact ⟨rfl, rfl, app _ g⟩
  rintro σ₂ H₂ ⟨rfl, g2⟩
  have hst : stepF s way = (if way = 1 then [(s + 2) % 7] else if way = 2 ∧ s < 6 then [s + 1 - s % 2 * 2] else if way ≠ 3 then [s] else []) ++ (if way = 4 then [s] else []) := rfl
  have hpl : (if way = 1 then [(s + 2) % 7] else if way = 2 ∧ s < 6 then [s + 1 - s % 2 * 2] else if way ≠ 3 then [s] else []).length ≤ 2 := by
    have := stepF_len s way
    rw [hst, List.length_append] at this
    omega
  rw [hst, ← List.append_assoc] at hR
  generalize (if way = 1 then [(s + 2) % 7] else if way = 2 ∧ s < 6 then [s + 1 - s % 2 * 2] else if way ≠ 3 then [s] else []) = pt at *
  refine exs_cons ?_
  by_cases c5 : way = 4
  · rw [if_pos c5] at hR
    walk_at "go"
    refine ex_append ?_
    walk_at "go"
    refine ⟨a, rfl, la, ⟨_, g2⟩, ?_⟩
    walk_at "go"
    refine ⟨_, g2, by rw [List.length_map, List.length_append]; omega, ?_⟩
    walk_at "go"
    exact hR _ _ ⟨by walk_at "look", by walk_at "look", by rw [hup_same]; simp [nat]⟩
  · rw [if_neg c5, List.append_nil] at hR
    walk_at "go"
    exact hR _ _ ⟨by walk_at "look", by walk_at "look", g2⟩
set_option maxHeartbeats 2000000 in
theorem like_ok {G : Gx} (B : Bl G) {fk : Addr} (F : FnIs G PySem.Challenge.pw_dn0226_09 "_law_like" 10 fk) {l : List Nat} (hb : l.length ≤ 100) (n : Int) (H : AH) :
    Fn G 1 fk [.lst (l.map nat), .int n] H fun u => u = .lst (((likeF l n).take 8).map nat) := by
  refine F.spec (xs := ["name", "n"]) ?_ (by decide) rfl ?_
  · intro pm cd doc vs hv
    match vs, hv with
    | [a, b], _ => rfl
  intro A L cd
  dsimp only [upds]
  have hll := likeF_len l n
  refine exs_cons ?_
  walk_at "go"
  refine ev_newlist ?_
  walk_at "go"
  intro a ha la
  walk_at "go"
  refine ex_for ?_
  walk_at "go"
  refine ⟨_, fun k σ H' => ∃ md m, LI a σ H' md m ∧ md ++ likeF (l.drop k) m = likeF l n, itr_lst, nm_nats _, ⟨[], n, ⟨by walk_at "look", by walk_at "look", hup_same⟩, rfl⟩, ?_, ?_⟩
  · intro k u σ H' hu ⟨md, m, I, hmd⟩
    rw [List.getElem?_map] at hu
    cases z : l[k]? with
    | none => rw [z] at hu; cases hu
    | some s =>
      rw [z] at hu
      cases hu
      have hk : k < l.length := get_lt z
      have hd : l.drop k = s :: l.drop (k + 1) := by
        rw [List.drop_eq_getElem_cons hk]
        congr 1
        rw [List.getElem?_eq_getElem hk] at z
        exact Option.some.inj z
      rw [hd] at hmd
      replace hmd : md ++ (stepF s (m % 16) ++ likeF (l.drop (k + 1)) (m / 16)) = likeF l n := hmd
      have hml : md.length ≤ 1000 := by
        have := congrArg List.length hmd
        rw [List.length_append] at this
        omega
      refine asg_name ?_
      refine like_turn B la hml I fun σ' H' I' => ⟨_, _, I', ?_⟩
      rw [List.append_assoc]; exact hmd
  · intro σ H' ⟨md, m, I, hmd⟩
    rw [List.length_map, List.drop_length] at hmd
    replace hmd : md ++ [] = likeF l n := hmd
    rw [List.append_nil] at hmd
    subst hmd
    obtain ⟨x1, x2, g⟩ := I
    refine then_next ?_
    refine exs_cons ?_
    refine ex_return ?_
    refine ev_slice_lv (by walk_at "look") (lv_mut g) (by rw [List.length_map]; omega) (lo := none) (hi := some ((8 : Nat) : Int)) ?_ ?_ ?_
    · walk_at "go"
      exact ⟨rfl, .none⟩
    · walk_at "go"
      exact ⟨rfl, .int⟩
    rw [cut_upto, ← List.map_take]
    refine ⟨_, _, rfl, .nm ?_, rfl⟩
    simp only [NM, nm_nats]

abbrev lawB : List Stmt := (fnAt PySem.Challenge.pw_dn0226_09 12).2.1
abbrev lawC (G : Gx) (A : Around) (f : Addr) (cd : Value) (L d : Nat) : Cx := mkC G A "law" (fnAt PySem.Challenge.pw_dn0226_09 12).2.2 f cd L d
structure E9 (σ : Sg) (w : List Nat) (nms : List (List Nat)) (best : Int) (least : Nat) : Prop where
  xw : σ "wrong" = some (.lst (w.map nat))
  xn : σ "names" = some (.lst (nms.map fun l => PT.lst (l.map nat)))
  xb : σ "best" = some (.int best)
  xl : σ "least" = some (.int (least : Nat))
theorem nms_get {nms : List (List Nat)} {k : Nat} (hk : k < nms.length) : (nms.map fun l => PT.lst (l.map nat))[((k : Nat) : Int).toNat]? = some (PT.lst ((nms.getD k []).map nat)) := by
  rw [Int.toNat_natCast, List.getElem?_map, List.getD_eq_getElem?_getD, List.getElem?_eq_getElem hk]; rfl
def fN (w : List Nat) (nms : List (List Nat)) (k : Nat) : Nat := farF w (nms.getD k [])
def lN (nms : List (List Nat)) (k : Nat) : Nat := (nms.getD k []).length
set_option maxHeartbeats 4000000 in
theorem search_turn {G : Gx} {fs fl ft fw : Addr} (P : Pg G fs fl) (FT : FnIs G PySem.Challenge.pw_dn0226_09 "_law_text" 11 ft) {A : Around} {cd : Value} {L : Nat} {σ : Sg} {H : AH} {w : List Nat} {nms : List (List Nat)} {best : Int} {least k : Nat} {R : Fl → Sg → AH → Prop}
    (hw : ∀ x ∈ w, x < 7) (hwl : w.length ≤ 8) (hn : ∀ l ∈ nms, (∀ x ∈ l, x < 7) ∧ l.length ≤ 8) (hnl : nms.length ≤ 63) (hk : k < nms.length)
    (hE : E9 σ w nms best least) (S : Sc9 w.length (lN nms) (fN w nms) k best least)
    (hR : ∀ σ' best' least', E9 σ' w nms best' least' → Sc9 w.length (lN nms) (fN w nms) (k + 1) best' least' → R .next σ' H) :
    Exs (lawC G A fw cd L 49) (forB lawB 3) (upd σ "k" (nat k)) H R := by
  have B := P.b
  obtain ⟨x1, x2, x3, x4⟩ := hE
  have hg : (nms.getD k []) ∈ nms := by rw [List.getD_eq_getElem?_getD, List.getElem?_eq_getElem hk]; exact List.getElem_mem hk
  obtain ⟨hm, hml⟩ := hn _ hg
  have hget := nms_get hk
  have hlen1 : (nms.map fun l => PT.lst (l.map nat)).length = nms.length := List.length_map ..
  have hf : fN w nms k = farF w (nms.getD k []) := rfl
  have hl : lN nms k = (nms.getD k []).length := rfl
  generalize nms.getD k [] = nm at *
  dsimp only [nat]
  refine exs_cons ?_
  walk_at "go"
  refine sub_at lv_lst (by omega) (by rw [hlen1]; omega) (by rw [hlen1]; omega) (t := .lst (nm.map nat)) hget ?_
  walk_at "go"
  refine cmp_ne_nats (xs := nm) (ys := w) lv_lst lv_lst ?_
  walk_at "go"
  refine ite_bne (fun hne => ?_) fun he => ?_
  · have hpos : 0 < farF w nm := by
      rcases Nat.eq_zero_or_pos (farF w nm) with e | e
      · exact absurd ((farF_zero hw hm).mp e) hne
      · exact e
    walk_at "go"
    refine sub_at lv_lst (by omega) (by rw [hlen1]; omega) (by rw [hlen1]; omega) (t := .lst (nm.map nat)) hget ?_
    walk_at "go"
    refine len_lst lv_lst ?_ (by rw [List.length_map]; omega)
    walk_at "go"
    refine len_lst lv_lst ?_ (by rw [List.length_map]; omega)
    walk_at "go"
    rw [List.length_map, List.length_map]
    obtain ⟨bd, hbd⟩ : ∃ bd : Int, bd = min (((nm.length : Int) + (w.length : Int) + 3) * 2 / 6) ((least : Int) - 1) := ⟨_, rfl⟩
    rw [← hbd]
    refine ev_fn 2 P.l rfl ?_ (show 2 ≤ 49 by decide)
    walk_at "go"
    refine ev_fn 1 FT rfl ?_ (show 1 ≤ 49 by decide)
    walk_at "go"
    refine (text_ok B FT hw (by omega) H).mono fun u hu => ?_
    subst hu
    walk_at "go"
    refine ev_fn 1 FT rfl ?_ (show 1 ≤ 49 by decide)
    walk_at "go"
    refine sub_at lv_lst (by omega) (by rw [hlen1]; omega) (by rw [hlen1]; omega) (t := .lst (nm.map nat)) hget ?_
    walk_at "go"
    refine (text_ok B FT hm (by omega) H).mono fun u hu => ?_
    subst hu
    walk_at "go"
    refine (lev_ok P _ _ bd (by rw [List.length_map]; omega) (by rw [List.length_map]; omega) H).mono fun u hu => ?_
    subst hu
    walk_at "go"
    obtain ⟨near1, near2⟩ := lev_near hw hm (by omega) (by omega) bd
    refine ite_dec (fun h => ?_) fun h => ?_
    · have hle : (farF w nm : Int) ≤ bd := by
        rcases Int.lt_or_le bd (farF w nm : Int) with q | q
        · have := near2 q; omega
        · exact q
      rw [near1 hle]
      walk_at "go"
      refine hR _ (k : Int) (farF w nm) ⟨by walk_at "look", by walk_at "look", by walk_at "look", by walk_at "look"⟩ ?_
      rw [← hf]
      exact S.take (by rw [hf]; exact hpos) (by rw [hf]; omega) (by rw [hf, hl]; omega)
    · have hgt : bd < (farF w nm : Int) := by
        rcases Int.lt_or_le bd (farF w nm : Int) with q | q
        · exact q
        · have := near1 q; omega
      walk_at "go"
      refine hR _ best least ⟨by walk_at "look", by walk_at "look", by walk_at "look", by walk_at "look"⟩ (S.keep ?_)
      rw [hf, hl]
      omega
  · walk_at "go"
    refine hR _ best least ⟨by walk_at "look", by walk_at "look", by walk_at "look", by walk_at "look"⟩ (S.keep (.inl ?_))
    rw [hf]
    exact (farF_zero hw hm).mpr he
set_option maxHeartbeats 4000000 in
theorem near_turn {G : Gx} (B : Bl G) {fp fc fw : Addr} (FP : FnIs G PySem.Challenge.pw_dn0226_09 "_law_price" 7 fp) (FC : FnIs G PySem.Challenge.pw_dn0226_09 "_law_costs" 8 fc) {A : Around} {cd : Value} {L : Nat} {σ : Sg} {H : AH} {w : List Nat} {nms : List (List Nat)} {best : Int} {least k : Nat} {a : Addr} {R : Fl → Sg → AH → Prop}
    (hw : ∀ x ∈ w, x < 7) (hwl : w.length ≤ 8) (hn : ∀ l ∈ nms, (∀ x ∈ l, x < 7) ∧ l.length ≤ 8) (hnl : nms.length ≤ 63) (hk : k < nms.length) (la : L ≤ a)
    (hE : E9 σ w nms best least) (xa : σ "near" = some (.mut a)) (g : H a = some ((near9 w.length (lN nms) (fN w nms) k).map pr2))
    (hR : ∀ σ' H', E9 σ' w nms best least → σ' "near" = some (.mut a) → H' a = some ((near9 w.length (lN nms) (fN w nms) (k + 1)).map pr2) → R .next σ' H') :
    Exs (lawC G A fw cd L 49) (forB lawB 5) (upd σ "k" (nat k)) H R := by
  obtain ⟨x1, x2, x3, x4⟩ := hE
  have hg : (nms.getD k []) ∈ nms := by rw [List.getD_eq_getElem?_getD, List.getElem?_eq_getElem hk]; exact List.getElem_mem hk
  obtain ⟨hm, hml⟩ := hn _ hg
  have hget := nms_get hk
  have hlen1 : (nms.map fun l => PT.lst (l.map nat)).length = nms.length := List.length_map ..
  have hf : fN w nms k = farF w (nms.getD k []) := rfl
  have hl : lN nms k = (nms.getD k []).length := rfl
  have hnlen := near9_len w.length (lN nms) (fN w nms) k
  rw [near9_succ, hf, hl] at hR
  generalize near9 w.length (lN nms) (fN w nms) k = ps at *
  generalize nms.getD k [] = nm at *
  dsimp only [nat]
  refine exs_cut (fun σ' H' => H' = H ∧ σ' "far" = some (.int (farF w nm : Nat)) ∧ σ' "k" = some (.int (k : Nat)) ∧ σ' "near" = some (.mut a) ∧ E9 σ' w nms best least) ?_ ?_
  · walk_at "go"
    refine ev_fn 2 FC rfl ?_ (show 2 ≤ 49 by decide)
    walk_at "go"
    refine sub_at lv_lst (by omega) (by rw [hlen1]; omega) (by rw [hlen1]; omega) (t := .lst (nm.map nat)) hget ?_
    walk_at "go"
    refine (costs_ok B FP FC lv_lst lv_lst (by omega) (by omega) (D4_dp hw hm)).mono fun t ht => ?_
    subst ht
    walk_at "go"
    refine len_lst lv_lst ?_ (by rw [List.length_map]; omega)
    rw [List.length_map]
    refine sub_at lv_lst (by omega) (by rw [List.length_map, List.length_range]; omega) (by rw [List.length_map, List.length_range]; omega) (t := .lst (((List.range (nm.length + 1)).map fun j => D4 (w.map cod) (nm.map cod) w.length j).map nat)) (by rw [Int.toNat_natCast, List.getElem?_map, List.getElem?_range (by omega)]; rfl) ?_
    walk_at "go"
    refine sub_at lv_lst (by omega) (by rw [hlen1]; omega) (by rw [hlen1]; omega) (t := .lst (nm.map nat)) hget ?_
    walk_at "go"
    refine len_lst lv_lst ?_ (by rw [List.length_map]; omega)
    rw [List.length_map]
    refine sub_at lv_lst (by omega) (by rw [List.length_map, List.length_map, List.length_range]; omega) (by rw [List.length_map, List.length_map, List.length_range]; omega) (t := nat (farF w nm)) (by rw [Int.toNat_natCast, List.getElem?_map, List.getElem?_map, List.getElem?_range (by omega)]; rfl) ?_
    dsimp only [nat]
    walk_at "go"
    exact ⟨rfl, rfl, by walk_at "look", by walk_at "look", by walk_at "look", by walk_at "look", by walk_at "look", by walk_at "look", by walk_at "look"⟩
  rintro σ₁ H₁ ⟨rfl, z1, z2, z3, ⟨x1, x2, x3, x4⟩⟩
  refine exs_cons ?_
  refine ex_if ?_
  refine ts_and ?_
  walk_at "go"
  refine ite_dec (fun h1 => ?_) fun h1 => ?_
  · walk_at "go"
    refine len_lst lv_lst ?_ (by rw [List.length_map]; omega)
    walk_at "go"
    rw [List.length_map]
    refine ite_dec (fun h2 => ?_) fun h2 => ?_
    · walk_at "go"
      refine sub_at lv_lst (by omega) (by rw [hlen1]; omega) (by rw [hlen1]; omega) (t := .lst (nm.map nat)) hget ?_
      walk_at "go"
      refine len_lst lv_lst ?_ (by rw [List.length_map]; omega)
      walk_at "go"
      refine len_lst lv_lst ?_ (by rw [List.length_map]; omega)
      walk_at "go"
      rw [List.length_map, List.length_map]
      refine ite_dec (fun h3 => ?_) fun h3 => ?_
      · rw [if_pos ⟨by omega, by omega, by omega⟩] at hR
        walk_at "go"
        refine ex_append ?_
        walk_at "go"
        refine ⟨a, rfl, la, ⟨_, g⟩, ?_⟩
        walk_at "go"
        refine ⟨_, g, by rw [List.length_map]; omega, ?_⟩
        walk_at "go"
        refine hR _ _ ⟨by walk_at "look", by walk_at "look", by walk_at "look", by walk_at "look"⟩ (by walk_at "look") ?_
        rw [hup_same, List.map_append]; rfl
      · rw [if_neg (fun q => h3 (by omega)), List.append_nil] at hR
        walk_at "go"
        exact hR _ _ ⟨by walk_at "look", by walk_at "look", by walk_at "look", by walk_at "look"⟩ (by walk_at "look") g
    · rw [if_neg (fun q => h2 (by omega)), List.append_nil] at hR
      walk_at "go"
      exact hR _ _ ⟨by walk_at "look", by walk_at "look", by walk_at "look", by walk_at "look"⟩ (by walk_at "look") g
  · rw [if_neg (fun q => h1 (by omega)), List.append_nil] at hR
    walk_at "go"
    exact hR _ _ ⟨by walk_at "look", by walk_at "look", by walk_at "look", by walk_at "look"⟩ (by walk_at "look") g

theorem doks_pairs (ps : List (Nat × Nat)) : doks (ps.map pr2) = true := doks_of fun t ht => by
  obtain ⟨x, _, rfl⟩ := List.mem_map.mp ht
  rfl
theorem depth_pairs (ps : List (Nat × Nat)) : PyData.depthAll (pds (ps.map pr2)) ≤ 100 := depthAll_le fun d hd => by
  rw [pds_map, List.mem_map] at hd
  obtain ⟨t, ht, rfl⟩ := hd
  obtain ⟨x, _, rfl⟩ := List.mem_map.mp ht
  simp [pr2, pd, pds, PyData.depth, PyData.depthAll]
theorem eqv_pairs_nil (ps : List (Nat × Nat)) : PyData.eqvAll (pds (ps.map pr2)) (pds []) = ps.isEmpty := by
  cases ps with
  | nil => rfl
  | cons x ps => rfl
set_option maxHeartbeats 8000000 in
theorem law_ok {G : Gx} {fs fl fp fc fn fk ft fw : Addr} (P : Pg G fs fl) (FP : FnIs G PySem.Challenge.pw_dn0226_09 "_law_price" 7 fp) (FC : FnIs G PySem.Challenge.pw_dn0226_09 "_law_costs" 8 fc) (FN : FnIs G PySem.Challenge.pw_dn0226_09 "_law_name" 9 fn) (FK : FnIs G PySem.Challenge.pw_dn0226_09 "_law_like" 10 fk) (FT : FnIs G PySem.Challenge.pw_dn0226_09 "_law_text" 11 ft) (W : FnIs G PySem.Challenge.pw_dn0226_09 "law" 12 fw) (ns : List Int) (hn : ns.length ≤ 63) (H : AH) : Fn G 50 fw [.lst (ns.map PT.int)] H fun u => u = .bool true := by
  refine W.spec (xs := ["script"]) ?_ (by decide) rfl ?_
  · intro pm cd doc vs hv
    match vs, hv with
    | [a], _ => rfl
  intro A L cd
  dsimp only [upds]
  have B := P.b
  refine exs_cons ?_
  walk_at "st"
  refine ev_fn 1 FN rfl ?_ (show 1 ≤ 49 by decide)
  refine evs_cons ?_
  refine ev_first (by walk_at "look") (by omega) ?_
  walk_at "go"
  refine (name_ok B FN (ns.headD 0) H).mono fun u hu => ?_
  subst hu
  have hw := wrF_lt (ns.headD 0)
  have hwl := wrF_len (ns.headD 0)
  generalize wrF (ns.headD 0) = w at *
  refine then_next ?_
  refine exs_cons ?_
  have hlen : (ns.drop 1).length ≤ 63 := by rw [List.length_drop]; omega
  refine ex_set_compM false PT.int (fun x => some (PT.lst ((nmF w x).map nat))) ?_ ?_
  · refine ev_behind (by walk_at "look") (by omega) ?_
    refine ⟨ns.drop 1, itr_lst, by omega, ?_, ?_, ?_⟩
    · intro x v e; cases e; simp only [NM, nm_nats]
    · intro L' lo x Hf hx hH
      refine cturn_map (σc_none (by rfl)) ?_
      unfold nmF
      walk_at "go"
      refine ite_beq (fun h => ?_) fun h => ?_
      · rw [if_pos h]
        refine ev_fn 1 FN rfl ?_ (show 1 ≤ 49 by decide)
        walk_at "go"
        refine (name_ok B FN (x / 2) Hf).mono fun u hu => ?_
        subst hu
        exact ⟨rfl, rfl⟩
      · rw [if_neg h]
        refine ev_fn 1 FK rfl ?_ (show 1 ≤ 49 by decide)
        walk_at "go"
        refine (like_ok B FK (l := w) (by omega) (x / 2) Hf).mono fun u hu => ?_
        subst hu
        exact ⟨rfl, rfl⟩
    rw [filterMap_some]
    simp only [Bool.false_eq_true, if_false]
    have enm : ((ns.drop 1).map fun x => PT.lst ((nmF w x).map nat)) = ((ns.drop 1).map (nmF w)).map fun l => PT.lst (l.map nat) := by rw [List.map_map]; rfl
    rw [enm]
    have hnm : ∀ l ∈ (ns.drop 1).map (nmF w), (∀ x ∈ l, x < 7) ∧ l.length ≤ 8 := fun l hl => by
      obtain ⟨x, _, rfl⟩ := List.mem_map.mp hl
      exact ⟨nmF_lt hw x, nmF_len w x⟩
    have hnl : ((ns.drop 1).map (nmF w)).length ≤ 63 := by rw [List.length_map]; exact hlen
    generalize (ns.drop 1).map (nmF w) = nms at *
    have hlen1 : (nms.map fun l => PT.lst (l.map nat)).length = nms.length := List.length_map ..
    refine then_next ?_
    refine exs_cons ?_
    walk_at "go"
    refine ev_neg ?_
    walk_at "go"
    refine ⟨1, rfl, ?_⟩
    walk_at "go"
    refine len_lst lv_lst ?_ (by rw [List.length_map]; omega)
    walk_at "go"
    rw [List.length_map]
    refine ex_for ?_
    walk_at "go"
    refine len_lst lv_lst ?_ (by rw [hlen1]; omega)
    walk_at "go"
    rw [hlen1]
    refine ⟨_, fun k σ H' => H' = H ∧ ∃ best least, E9 σ w nms best least ∧ Sc9 w.length (lN nms) (fN w nms) k best least, itr_nats (n := nms.length) rfl (by omega), nm_nats _, ⟨rfl, -1, w.length, ⟨by walk_at "look", by walk_at "look", by walk_at "look", by walk_at "look"⟩, Sc9.start _ _ _⟩, ?_, ?_⟩
    · intro k t σ H' ht ⟨hH, best, least, hE, S⟩
      subst hH
      obtain ⟨rfl, hk⟩ := at_nats ht
      refine asg_name ?_
      exact search_turn P FT hw (by omega) hnm hnl hk hE S fun σ' b' l' e' s' => ⟨rfl, b', l', e', s'⟩
    intro σ H' ⟨hH, best, least, ⟨x1, x2, x3, x4⟩, S⟩
    subst hH
    rw [List.length_map, List.length_range] at S
    walk_at "go"
    refine ev_newlist ?_
    walk_at "go"
    intro a ha la
    walk_at "go"
    refine ex_for ?_
    walk_at "go"
    refine len_lst lv_lst ?_ (by rw [hlen1]; omega)
    walk_at "go"
    rw [hlen1]
    refine ⟨_, fun k σ H'' => E9 σ w nms best least ∧ σ "near" = some (.mut a) ∧ H'' a = some ((near9 w.length (lN nms) (fN w nms) k).map pr2), itr_nats (n := nms.length) rfl (by omega), nm_nats _, ⟨⟨by walk_at "look", by walk_at "look", by walk_at "look", by walk_at "look"⟩, by walk_at "look", hup_same⟩, ?_, ?_⟩
    · intro k t σ H'' ht ⟨hE, xa, g⟩
      obtain ⟨rfl, hk⟩ := at_nats ht
      refine asg_name ?_
      exact near_turn B FP FC hw (by omega) hnm hnl hk la hE xa g fun σ' H' e' y' g' => ⟨e', y', g'⟩
    intro σ H'' ⟨⟨x1, x2, x3, x4⟩, xa, g⟩
    rw [List.length_map, List.length_range] at g
    have hnil := near9_nil S
    have hmin := fun m hm hx => near9_min S (m := m) hm hx
    generalize near9 w.length (lN nms) (fN w nms) nms.length = ps at *
    walk_at "go"
    refine ev_list ?_
    walk_at "go"
    refine cmp_eql (lv_mut g) lv_lst (doks_pairs ps) rfl (depth_pairs ps) ?_
    rw [eqv_pairs_nil]
    walk_at "go"
    refine ite_emp (fun he => ?_) fun hne => ?_
    · walk_at "go"
      refine ev_neg ?_
      walk_at "go"
      refine ⟨1, rfl, ?_⟩
      walk_at "go"
      rw [hnil he]
      exact ⟨_, _, rfl, .nm rfl, rfl⟩
    · walk_at "go"
      refine min_pairs (ps := ps) (lv_mut g) hne (fun m hm hx => ?_) (by show 1 ≤ 49; decide)
      obtain ⟨e1, e2⟩ := hmin m hm hx
      rw [e1, e2]
      refine cmp_eqd rfl rfl ?_ ?_
      · simp [pd, pds, PyData.depth, PyData.depthAll]
      refine ⟨_, _, rfl, .nm rfl, ?_⟩
      simp [pd, pds, PyData.eqv, PyData.eqvAll]
  · show FvOk _ _ ["wrong"]
    exact fv_cons (by walk_at "look") fv_nil

end Mine
set_option maxHeartbeats 8000000 in
theorem PySem.Challenge.cw_dn0226_09_holds : PySem.Challenge.rw_dn0226_09.Holds := by
  w_on
  o_law
  k_head
  case hw => w_witness2
  intro w s₀ s₁ mg mb G Y fa o pm cd doc dV kV ho hd hcd hD hmg hg args vals as hpre hlay hrd hwl hlo
  have KX := kIn_of Y
  refine Ground.open G ?_
  intro T B D TE TW
  wrow_args hpre hlay hrd hwl hlo
  refine enter_call ?_
  refine codeAny_mono ?_ (fun _ _ g => GoodW.toG g)
  clear ho hd hcd hD
  have W := Mine.fnIs_of (G := ⟨PySem.Challenge.rw_dn0226_09.row.prog, w, s₁.heap, mg, mb⟩) (p := PySem.Challenge.pw_dn0226_09) (n := "law") (k := 12) KX T.g (by kernel_rfl) (by kernel_rfl) (by kernel_rfl)
  have e := (show mg "law" = some (.ref fa) from hmg).symm.trans W.mg
  cases e
  rename_i w1 _ _ _ hcond _
  refine Mine.law_ends T hg w1 (raisesW_false (by intro _ h; cases h)) (by wrow_post) fun g => ?_
  refine Mine.law_ok (fs := _) (fl := _) ⟨Mine.bl_of KX T.g (by kernel_rfl), Mine.fnIs_of KX T.g (by kernel_rfl) (by kernel_rfl) (by kernel_rfl), Mine.fnIs_of KX T.g (by kernel_rfl) (by kernel_rfl) (by kernel_rfl), Mine.intIn_of KX T.g (by kernel_rfl), Mine.intIn_of KX T.g (by kernel_rfl), Mine.intIn_of KX T.g (by kernel_rfl)⟩ (Mine.fnIs_of KX T.g (by kernel_rfl) (by kernel_rfl) (by kernel_rfl)) (Mine.fnIs_of KX T.g (by kernel_rfl) (by kernel_rfl) (by kernel_rfl)) (Mine.fnIs_of KX T.g (by kernel_rfl) (by kernel_rfl) (by kernel_rfl)) (Mine.fnIs_of KX T.g (by kernel_rfl) (by kernel_rfl) (by kernel_rfl)) (Mine.fnIs_of KX T.g (by kernel_rfl) (by kernel_rfl) (by kernel_rfl)) W _ (by omega) _
