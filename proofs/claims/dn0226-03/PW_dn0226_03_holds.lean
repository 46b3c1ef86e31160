import PyProof.Rows.All
import Wide.All
import OpenK.AllK
import Wide.FinOn
import PySem.Challenge.RW_dn0226_03
open PySem PySem.W PyProof.Rows
set_option Elab.async false
set_option maxRecDepth 100000
set_option linter.unusedVariables false
namespace Mine

/-- values without their tokens; lists that are written to are met by their address -/
inductive PT where
  | none
  | bool (b : Bool)
  | int (i : Int)
  | str (x : Str)
  | tup (ts : List PT)
  | lst (ts : List PT)
  | mut (a : Addr)
  | rng (a b c : Int)
  | oth (v : Value)

/-- the lists that are written to -/
abbrev AH := Addr → Option (List PT)
/-- the names of a frame -/
abbrev Sg := Str → Option PT

def upd (σ : Sg) (x : Str) (t : PT) : Sg := fun y => if y = x then some t else σ y
def hup (H : AH) (a : Addr) (ts : List PT) : AH := fun b => if b = a then some ts else H b

theorem upd_same {σ : Sg} {x : Str} {t : PT} : upd σ x t x = some t := by simp [upd]
theorem upd_ne {σ : Sg} {x y : Str} {t : PT} {r : Option PT} (h : y ≠ x) (e : σ y = r) : upd σ x t y = r := by simp [upd, h, e]
theorem hup_same {H : AH} {a : Addr} {ts : List PT} : hup H a ts a = some ts := by simp [hup]
theorem hup_ne {H : AH} {a b : Addr} {ts : List PT} {r} (h : b ≠ a) (e : H b = r) : hup H a ts b = r := by simp [hup, h, e]
theorem name_ne {a b : String} (h : a ≠ b) : Str.ofString a ≠ Str.ofString b := by
  intro e
  rw [Str.ofString_eq_toList, Str.ofString_eq_toList] at e
  have e2 : a.toList.map Char.toNat = b.toList.map Char.toNat := by simpa using e
  have inj : ∀ (l m : List Char), l.map Char.toNat = m.map Char.toNat → l = m := by
    intro l
    induction l with
    | nil => intro m hm; cases m <;> simp_all
    | cons c r ih =>
      intro m hm
      cases m with
      | nil => simp at hm
      | cons d q =>
        simp only [List.map_cons, List.cons.injEq] at hm
        obtain ⟨h1, h2⟩ := hm
        rw [ih q h2, Char.toNat_inj.mp h1]
  exact h (String.toList_inj.mp (inj _ _ e2))

def PlainTuple (h : Heap) (a : Addr) (items : Array Value) : Prop := ∃ n, h.get? a = some { cls := .type "tuple", data := .seq items n }

mutual
/-- the value v stands for the tree, on the heap h -/
def Den (h : Heap) (H : AH) : PT → Value → Prop
  | .none, v => v = .none
  | .bool b, v => v = .bool b
  | .int i, v => ∃ tk, v = .int i tk
  | .str x, v => ∃ tk, v = .str x tk
  | .tup ts, v => ∃ a vs, v = .ref a ∧ H a = Option.none ∧ PlainTuple h a vs ∧ Dens h H ts vs.toList
  | .lst ts, v => ∃ a vs, v = .ref a ∧ H a = Option.none ∧ h.PlainList a vs ∧ Dens h H ts vs.toList
  | .mut a, v => v = .ref a ∧ H a ≠ Option.none
  | .rng a b c, v => ∃ r t u w, v = .ref r ∧ H r = Option.none ∧ IsRange h r a b c t u w
  | .oth w, v => v = w
def Dens (h : Heap) (H : AH) : List PT → List Value → Prop
  | [], vs => vs = []
  | t :: ts, vs => ∃ v r, vs = v :: r ∧ Den h H t v ∧ Dens h H ts r
end

theorem den_none {h : Heap} {H : AH} : Den h H .none .none := by simp only [Den]
theorem den_bool {h : Heap} {H : AH} {b : Bool} : Den h H (.bool b) (.bool b) := by simp only [Den]
theorem den_int {h : Heap} {H : AH} {i : Int} {tk : Tok} : Den h H (.int i) (.int i tk) := by simp only [Den]; exact ⟨tk, rfl⟩
theorem den_str {h : Heap} {H : AH} {x : Str} {tk : Tok} : Den h H (.str x) (.str x tk) := by simp only [Den]; exact ⟨tk, rfl⟩
theorem den_oth {h : Heap} {H : AH} {v : Value} : Den h H (.oth v) v := by simp only [Den]
theorem of_none {h : Heap} {H : AH} {v : Value} (d : Den h H .none v) : v = .none := by simpa only [Den] using d
theorem of_bool {h : Heap} {H : AH} {v : Value} {b : Bool} (d : Den h H (.bool b) v) : v = .bool b := by simpa only [Den] using d
theorem of_int {h : Heap} {H : AH} {v : Value} {i : Int} (d : Den h H (.int i) v) : ∃ tk, v = .int i tk := by simpa only [Den] using d
theorem of_str {h : Heap} {H : AH} {v : Value} {x : Str} (d : Den h H (.str x) v) : ∃ tk, v = .str x tk := by simpa only [Den] using d
theorem of_oth {h : Heap} {H : AH} {v w : Value} (d : Den h H (.oth w) v) : v = w := by simpa only [Den] using d
theorem of_tup {h : Heap} {H : AH} {v : Value} {ts : List PT} (d : Den h H (.tup ts) v) : ∃ a vs, v = .ref a ∧ H a = Option.none ∧ PlainTuple h a vs ∧ Dens h H ts vs.toList := by simpa only [Den] using d
theorem of_lst {h : Heap} {H : AH} {v : Value} {ts : List PT} (d : Den h H (.lst ts) v) : ∃ a vs, v = .ref a ∧ H a = Option.none ∧ h.PlainList a vs ∧ Dens h H ts vs.toList := by simpa only [Den] using d
theorem of_mut {h : Heap} {H : AH} {v : Value} {a : Addr} (d : Den h H (.mut a) v) : v = .ref a ∧ H a ≠ Option.none := by simpa only [Den] using d
theorem of_rng {h : Heap} {H : AH} {v : Value} {a b c : Int} (d : Den h H (.rng a b c) v) : ∃ r t u w, v = .ref r ∧ H r = Option.none ∧ IsRange h r a b c t u w := by simpa only [Den] using d
theorem dens_nil {h : Heap} {H : AH} : Dens h H [] [] := by simp only [Dens]
theorem dens_cons {h : Heap} {H : AH} {t : PT} {ts : List PT} {v : Value} {vs : List Value} (d : Den h H t v) (e : Dens h H ts vs) : Dens h H (t :: ts) (v :: vs) := by simp only [Dens]; exact ⟨v, vs, rfl, d, e⟩
theorem of_nil {h : Heap} {H : AH} {vs : List Value} (d : Dens h H [] vs) : vs = [] := by simpa only [Dens] using d
theorem of_cons {h : Heap} {H : AH} {t : PT} {ts : List PT} {vs : List Value} (d : Dens h H (t :: ts) vs) : ∃ v r, vs = v :: r ∧ Den h H t v ∧ Dens h H ts r := by simpa only [Dens] using d

/-- the heap has grown: nothing that stood is changed; the new lists that are written to are new objects -/
structure Ext (s : Shared) (H : AH) (s' : Shared) (H' : AH) : Prop where
  keeps : Keeps s s'
  old : ∀ a ts, H a = some ts → H' a = some ts
  new : ∀ a, H a = Option.none → H' a ≠ Option.none → s.heap.get? a = Option.none

theorem Keeps.refl (s : Shared) : Keeps s s := ⟨s.heap, s.toks, rfl, fun _ _ e => e⟩
theorem Keeps.trans {s s₁ s₂ : Shared} (x : Keeps s s₁) (y : Keeps s₁ s₂) : Keeps s s₂ := by
  obtain ⟨h₁, t₁, rfl, k₁⟩ := x
  obtain ⟨h₂, t₂, rfl, k₂⟩ := y
  exact ⟨h₂, t₂, rfl, fun b o e => k₂ b o (k₁ b o e)⟩
theorem Keeps.get {s s' : Shared} (x : Keeps s s') {b o} (e : s.heap.get? b = some o) : s'.heap.get? b = some o := by
  obtain ⟨h₁, t₁, rfl, k₁⟩ := x
  exact k₁ b o e

theorem Ext.refl (s : Shared) (H : AH) : Ext s H s H := ⟨Keeps.refl s, fun _ _ e => e, fun _ h h' => absurd h h'⟩
theorem Ext.of_keeps {s s' : Shared} (H : AH) (k : Keeps s s') : Ext s H s' H := ⟨k, fun _ _ e => e, fun _ h h' => absurd h h'⟩
theorem Ext.trans {s s₁ s₂ : Shared} {H H₁ H₂ : AH} (x : Ext s H s₁ H₁) (y : Ext s₁ H₁ s₂ H₂) : Ext s H s₂ H₂ := by
  refine ⟨Keeps.trans x.keeps y.keeps, fun a ts e => y.old a ts (x.old a ts e), fun a h h' => ?_⟩
  cases q : H₁ a with
  | some ts => exact x.new a h (by simp [q])
  | none =>
    have := y.new a q h'
    cases z : s.heap.get? a with
    | none => rfl
    | some o => rw [Keeps.get x.keeps z] at this; cases this
/-- an address that stood and was no list written to stays so -/
theorem Ext.stays {s s' : Shared} {H H' : AH} (x : Ext s H s' H') {a : Addr} {o : Obj} (e : s.heap.get? a = some o) (h : H a = Option.none) : H' a = Option.none := by
  cases q : H' a with
  | none => rfl
  | some ts => have := x.new a h (by simp [q]); rw [e] at this; cases this

theorem PlainTuple.at {h h' : Heap} {a : Addr} {items : Array Value} (x : PlainTuple h a items) (hk : ∀ o, h.get? a = some o → h'.get? a = some o) : PlainTuple h' a items := let ⟨n, e⟩ := x; ⟨n, hk _ e⟩

/-- the objects that trees are read from -/
def Pl (o : Obj) : Prop := (∃ its n, o = { cls := .type "list", data := .seq its n }) ∨ (∃ its n, o = { cls := .type "tuple", data := .seq its n }) ∨
  ∃ fs, o = { cls := .type "range", dict := Option.none, data := .fields fs, slots := #[] }
mutual
/-- trees without a list that is written to -/
def NM : PT → Bool
  | .none => true
  | .bool _ => true
  | .int _ => true
  | .str _ => true
  | .tup ts => NMs ts
  | .lst ts => NMs ts
  | .mut _ => false
  | .rng _ _ _ => true
  | .oth _ => true
def NMs : List PT → Bool
  | [] => true
  | t :: ts => NM t && NMs ts
end
mutual
theorem Den.mono' {h h' : Heap} {H H' : AH} (hk : ∀ a o, Pl o → h.get? a = some o → H a = Option.none → h'.get? a = some o ∧ H' a = Option.none) :
    ∀ (t : PT) (v : Value), (NM t = true ∨ ∀ a, H a ≠ Option.none → H' a ≠ Option.none) → Den h H t v → Den h' H' t v
  | .none, _, _, e => e
  | .bool _, _, _, e => e
  | .int _, _, _, e => e
  | .str _, _, _, e => e
  | .tup ts, v, hm, e => by
    simp only [Den] at e ⊢
    obtain ⟨a, vs, rfl, h1, ⟨n, h2⟩, h3⟩ := e
    have := hk a _ (.inr (.inl ⟨_, _, rfl⟩)) h2 h1
    exact ⟨a, vs, rfl, this.2, ⟨n, this.1⟩, Dens.mono' hk ts _ (hm.imp (fun q => by simpa only [NM] using q) id) h3⟩
  | .lst ts, v, hm, e => by
    simp only [Den] at e ⊢
    obtain ⟨a, vs, rfl, h1, ⟨n, h2⟩, h3⟩ := e
    have := hk a _ (.inl ⟨_, _, rfl⟩) h2 h1
    exact ⟨a, vs, rfl, this.2, ⟨n, this.1⟩, Dens.mono' hk ts _ (hm.imp (fun q => by simpa only [NM] using q) id) h3⟩
  | .mut a, v, hm, e => by
    simp only [Den] at e ⊢
    rcases hm with hm | hm
    · simp [NM] at hm
    · exact ⟨e.1, hm a e.2⟩
  | .rng a b c, v, hm, e => by
    simp only [Den] at e ⊢
    obtain ⟨r, t, u, w, rfl, h1, h2⟩ := e
    have := hk r _ (.inr (.inr ⟨_, rfl⟩)) h2 h1
    exact ⟨r, t, u, w, rfl, this.2, this.1⟩
  | .oth _, _, _, e => e
theorem Dens.mono' {h h' : Heap} {H H' : AH} (hk : ∀ a o, Pl o → h.get? a = some o → H a = Option.none → h'.get? a = some o ∧ H' a = Option.none) :
    ∀ (ts : List PT) (vs : List Value), (NMs ts = true ∨ ∀ a, H a ≠ Option.none → H' a ≠ Option.none) → Dens h H ts vs → Dens h' H' ts vs
  | [], _, _, e => e
  | t :: ts, vs, hm, e => by
    simp only [Dens] at e ⊢
    obtain ⟨v, r, rfl, h1, h2⟩ := e
    exact ⟨v, r, rfl, Den.mono' hk t v (hm.imp (fun q => by simp only [NMs, Bool.and_eq_true] at q; exact q.1) id) h1, Dens.mono' hk ts r (hm.imp (fun q => by simp only [NMs, Bool.and_eq_true] at q; exact q.2) id) h2⟩
end
theorem Ext.den {s s' : Shared} {H H' : AH} (x : Ext s H s' H') {t : PT} {v : Value} (d : Den s.heap H t v) : Den s'.heap H' t v :=
  Den.mono' (fun _ _ _ e h => ⟨Keeps.get x.keeps e, x.stays e h⟩) t v (.inr fun a h => by
    cases q : H a with
    | none => exact absurd q h
    | some ts => rw [x.old a ts q]; simp) d
theorem Ext.dens {s s' : Shared} {H H' : AH} (x : Ext s H s' H') {ts : List PT} {vs : List Value} (d : Dens s.heap H ts vs) : Dens s'.heap H' ts vs :=
  Dens.mono' (fun _ _ _ e h => ⟨Keeps.get x.keeps e, x.stays e h⟩) ts vs (.inr fun a h => by
    cases q : H a with
    | none => exact absurd q h
    | some ts => rw [x.old a ts q]; simp) d

theorem Dens.length {h : Heap} {H : AH} : ∀ {ts : List PT} {vs : List Value}, Dens h H ts vs → vs.length = ts.length
  | [], _, e => by simp only [Dens] at e; subst e; rfl
  | t :: ts, vs, e => by
    simp only [Dens] at e
    obtain ⟨v, r, rfl, _, h2⟩ := e
    simp [Dens.length h2]
theorem Dens.append {h : Heap} {H : AH} : ∀ {ts us : List PT} {vs ws : List Value}, Dens h H ts vs → Dens h H us ws → Dens h H (ts ++ us) (vs ++ ws)
  | [], _, _, _, e, f => by simp only [Dens] at e; subst e; exact f
  | t :: ts, us, vs, ws, e, f => by
    simp only [Dens] at e
    obtain ⟨v, r, rfl, h1, h2⟩ := e
    show Dens h H (t :: (ts ++ us)) _
    simp only [Dens]
    exact ⟨v, r ++ ws, rfl, h1, Dens.append h2 f⟩
theorem Dens.get {h : Heap} {H : AH} : ∀ {ts : List PT} {vs : List Value} {i : Nat} {t : PT}, Dens h H ts vs → ts[i]? = some t → ∃ v, vs[i]? = some v ∧ Den h H t v
  | [], _, _, _, _, q => by simp at q
  | t :: ts, vs, i, u, e, q => by
    simp only [Dens] at e
    obtain ⟨v, r, rfl, h1, h2⟩ := e
    cases i with
    | zero => simp at q; subst q; exact ⟨v, rfl, h1⟩
    | succ j =>
      have q' : ts[j]? = some u := by simpa using q
      obtain ⟨v', e1, e2⟩ := Dens.get h2 q'
      exact ⟨v', by simpa using e1, e2⟩
theorem Dens.get' {h : Heap} {H : AH} : ∀ {ts : List PT} {vs : List Value} {i : Nat} {v : Value}, Dens h H ts vs → vs[i]? = some v → ∃ t, ts[i]? = some t ∧ Den h H t v
  | [], _, _, _, e, q => by simp only [Dens] at e; subst e; simp at q
  | t :: ts, vs, i, u, e, q => by
    simp only [Dens] at e
    obtain ⟨v, r, rfl, h1, h2⟩ := e
    cases i with
    | zero => simp at q; subst q; exact ⟨t, rfl, h1⟩
    | succ j =>
      have q' : r[j]? = some u := by simpa using q
      obtain ⟨t', e1, e2⟩ := Dens.get' h2 q'
      exact ⟨t', by simpa using e1, e2⟩
theorem Dens.of_get {h : Heap} {H : AH} : ∀ {ts : List PT} {vs : List Value}, vs.length = ts.length → (∀ (i : Nat) t v, ts[i]? = some t → vs[i]? = some v → Den h H t v) → Dens h H ts vs
  | [], vs, e, _ => by simp only [Dens]; exact List.length_eq_zero_iff.mp e
  | t :: ts, vs, e, f => by
    cases vs with
    | nil => simp at e
    | cons v r =>
      simp only [Dens]
      exact ⟨v, r, rfl, f 0 t v rfl rfl, Dens.of_get (by simpa using e) fun i t' v' h1 h2 => f (i + 1) t' v' h1 h2⟩

/-- the lists that are written to, on the heap -/
def Muts (h : Heap) (H : AH) : Prop := ∀ a ts, H a = some ts → ∃ vs, h.PlainList a vs ∧ Dens h H ts vs.toList

theorem Ext.muts {s s' : Shared} {H : AH} (x : Ext s H s' H) (m : Muts s.heap H) : Muts s'.heap H := fun a ts e => by
  obtain ⟨vs, h1, h2⟩ := m a ts e
  exact ⟨vs, h1.at fun o q => Keeps.get x.keeps q, x.dens h2⟩


structure Gx where
  prog : Program
  w : World
  h₀ : Heap
  mg : Str → Option Value
  mb : Str → Option Value
structure GOk (G : Gx) : Prop where
  g : G.h₀.Ns mainGlobals G.mg
  b : G.h₀.Ns builtinsNs G.mb
  nolimit : G.h₀.NoLimit
  builtins : ∀ x : Str, x ≠ "__name__" → G.mb x = bootBuiltins x
structure Cx where
  G : Gx
  A : Around
  env : Env
  lo : Nat
  d : Nat
  fn : Bool
structure COk (C : Cx) : Prop where
  G : GOk C.G
  hh : C.A.handled = Option.none
  depth : C.A.depth + C.d ≤ 900
  units : C.A.units + 10 * C.d ≤ 9000
  kind : C.env.scope.kind = .function
  glob : C.env.globals = mainGlobals
  blt : C.env.builtins = builtinsNs
  low : C.G.h₀.objs.size ≤ C.lo
  loc : C.lo ≤ C.env.locals

/-- the heap, as far as a value's operation asks -/
structure Bs (C : Cx) (H : AH) (s : Shared) : Prop where
  ok : COk C
  base : ∀ b o, C.G.h₀.get? b = some o → s.heap.get? b = some o
  muts : Muts s.heap H
  lo : C.lo ≤ s.heap.objs.size
/-- the heap, and the names of the frame -/
structure Sv (C : Cx) (σ : Sg) (H : AH) (s : Shared) : Prop extends Bs C H s where
  ns : ∃ m, s.heap.Ns C.env.locals m ∧ ∀ x t, σ x = some t → C.env.kindOf x = some .local → ∃ v, m x = some v ∧ Den s.heap H t v
  cells : ∀ x t, σ x = some t → C.env.kindOf x ≠ some .local → (C.env.kindOf x = some .cell ∨ C.env.kindOf x = some .free) ∧
    ∃ c v, C.env.cells.lookup x = some c ∧ s.heap.IsCell c (some v) ∧ Den s.heap H t v


def postW (s : Shared) (H : AH) (Q : PT → AH → Prop) (v : Value) (s' : Shared) : Prop :=
  ∃ H' u, Ext s H s' H' ∧ Muts s'.heap H' ∧ Den s'.heap H' u v ∧ Q u H'
def postB (s : Shared) (H : AH) (Q : Bool → AH → Prop) (b : Bool) (s' : Shared) : Prop :=
  ∃ H', Ext s H s' H' ∧ Muts s'.heap H' ∧ Q b H'

def no : Value → Shared → Prop := fun _ _ => False
abbrev Cx.M (C : Cx) : Model := model C.G.prog C.G.w

def Wp (C : Cx) (H : AH) (t : Sem Value) (s : Shared) (Q : PT → AH → Prop) : Prop := wpAny C.M C.A t (postW s H Q) no s
def WpB (C : Cx) (H : AH) (t : Sem Bool) (s : Shared) (Q : Bool → AH → Prop) : Prop := wpAny C.M C.A t (postB s H Q) no s

def Ev (C : Cx) (e : Expr) (σ : Sg) (H : AH) (Q : PT → AH → Prop) : Prop := ∀ s, Sv C σ H s → Wp C H (eval e C.env) s Q
def Ts (C : Cx) (e : Expr) (σ : Sg) (H : AH) (Q : Bool → AH → Prop) : Prop := ∀ s, Sv C σ H s → WpB C H (isTrue e C.env (eval e C.env)) s Q

theorem Bs.ext {C : Cx} {H H' : AH} {s s' : Shared} (x : Bs C H s) (e : Ext s H s' H') (hs : C.lo ≤ s'.heap.objs.size) (m : Muts s'.heap H') : Bs C H' s' :=
  ⟨x.ok, fun b o q => Keeps.get e.keeps (x.base b o q), m, hs⟩
theorem Sv.ext {C : Cx} {σ : Sg} {H H' : AH} {s s' : Shared} (x : Sv C σ H s) (e : Ext s H s' H') (m : Muts s'.heap H') : Sv C σ H' s' := by
  refine ⟨x.toBs.ext e (by
    obtain ⟨_, ⟨o, _, _, ho, _⟩, _⟩ := x.ns
    exact Nat.le_of_lt (Nat.lt_of_le_of_lt x.ok.loc (Heap.lt_size (Keeps.get e.keeps ho)))) m, ?_, fun y t hy hk => ?_⟩
  · obtain ⟨mm, h1, h2⟩ := x.ns
    exact ⟨mm, h1.keeps fun b o q => Keeps.get e.keeps q, fun y t hy hk => let ⟨v, h3, h4⟩ := h2 y t hy hk; ⟨v, h3, e.den h4⟩⟩
  · obtain ⟨h1, c, v, h2, h3, h4⟩ := x.cells y t hy hk
    exact ⟨h1, c, v, h2, h3.keeps fun b o q => Keeps.get e.keeps q, e.den h4⟩

theorem postW.trans {s s₁ : Shared} {H H₁ : AH} {Q : PT → AH → Prop} {v : Value} {s' : Shared} (e : Ext s H s₁ H₁) (p : postW s₁ H₁ Q v s') : postW s H Q v s' := by
  obtain ⟨H', u, h1, h3, h4, h5⟩ := p
  exact ⟨H', u, e.trans h1, h3, h4, h5⟩
theorem postB.trans {s s₁ : Shared} {H H₁ : AH} {Q : Bool → AH → Prop} {v : Bool} {s' : Shared} (e : Ext s H s₁ H₁) (p : postB s₁ H₁ Q v s') : postB s H Q v s' := by
  obtain ⟨H', h1, h3, h4⟩ := p
  exact ⟨H', e.trans h1, h3, h4⟩

/-- one step behind another -/
theorem Wp.then {C : Cx} {H : AH} {t : Sem Value} {s : Shared} {Q₁ : PT → AH → Prop} {R : Value → Shared → Prop} (h : Wp C H t s Q₁)
    (k : ∀ v u s₁ H₁, Ext s H s₁ H₁ → Muts s₁.heap H₁ → Den s₁.heap H₁ u v → Q₁ u H₁ → R v s₁) : wpAny C.M C.A t R no s :=
  wpAny_mono h (fun v s₁ ⟨H₁, u, h1, h3, h4, h5⟩ => k v u s₁ H₁ h1 h3 h4 h5) fun _ _ f => f
theorem WpB.then {C : Cx} {H : AH} {t : Sem Bool} {s : Shared} {Q₁ : Bool → AH → Prop} {R : Bool → Shared → Prop} (h : WpB C H t s Q₁)
    (k : ∀ b s₁ H₁, Ext s H s₁ H₁ → Muts s₁.heap H₁ → Q₁ b H₁ → R b s₁) : wpAny C.M C.A t R no s :=
  wpAny_mono h (fun v s₁ ⟨H₁, h1, h3, h4⟩ => k v s₁ H₁ h1 h3 h4) fun _ _ f => f
theorem Wp.mono {C : Cx} {H : AH} {t : Sem Value} {s : Shared} {Q Q' : PT → AH → Prop} (h : Wp C H t s Q) (k : ∀ u H', Q u H' → Q' u H') : Wp C H t s Q' :=
  wpAny_mono h (fun v s₁ ⟨H₁, u, h1, h3, h4, h5⟩ => ⟨H₁, u, h1, h3, h4, k _ _ h5⟩) fun _ _ f => f
theorem WpB.mono {C : Cx} {H : AH} {t : Sem Bool} {s : Shared} {Q Q' : Bool → AH → Prop} (h : WpB C H t s Q) (k : ∀ u H', Q u H' → Q' u H') : WpB C H t s Q' :=
  wpAny_mono h (fun v s₁ ⟨H₁, h1, h3, h5⟩ => ⟨H₁, h1, h3, k _ _ h5⟩) fun _ _ f => f
theorem Ev.mono {C : Cx} {e : Expr} {σ : Sg} {H : AH} {Q Q' : PT → AH → Prop} (h : Ev C e σ H Q) (k : ∀ u H', Q u H' → Q' u H') : Ev C e σ H Q' := fun s x => (h s x).mono k

/-- an end that changes nothing but the tokens -/
theorem postW.toks {s : Shared} {H : AH} {Q : PT → AH → Prop} {v : Value} {u : PT} (tk : Nat) (m : Muts s.heap H) (d : Den s.heap H u v) (q : Q u H) : postW s H Q v { s with toks := tk } :=
  ⟨H, u, Ext.of_keeps H ⟨s.heap, tk, rfl, fun _ _ e => e⟩, m, d, q⟩
theorem postW.same {s : Shared} {H : AH} {Q : PT → AH → Prop} {v : Value} {u : PT} (m : Muts s.heap H) (d : Den s.heap H u v) (q : Q u H) : postW s H Q v s :=
  ⟨H, u, Ext.refl s H, m, d, q⟩
theorem postB.toks {s : Shared} {H : AH} {Q : Bool → AH → Prop} {v : Bool} (tk : Nat) (m : Muts s.heap H) (q : Q v H) : postB s H Q v { s with toks := tk } :=
  ⟨H, Ext.of_keeps H ⟨s.heap, tk, rfl, fun _ _ e => e⟩, m, q⟩
theorem postB.same {s : Shared} {H : AH} {Q : Bool → AH → Prop} {v : Bool} (m : Muts s.heap H) (q : Q v H) : postB s H Q v s :=
  ⟨H, Ext.refl s H, m, q⟩

section
variable {C : Cx} {σ : Sg} {H : AH} {Q : PT → AH → Prop}

theorem ev_int {i : Int} {k : Nat} {pos : Pos} (q : Q (.int i) H) : Ev C (.Constant (.int i) k pos) σ H Q :=
  fun _ x => wpAny_Constant_int (postW.toks _ x.muts den_int q)
theorem ev_str {i : Str} {k : Nat} {pos : Pos} (q : Q (.str i) H) : Ev C (.Constant (.str i) k pos) σ H Q :=
  fun s x => by
    show wpAny _ _ (mkText i) _ _ s
    exact wpAny_mkText (postW.toks _ x.muts den_str q)
theorem ev_bool {b : Bool} {k : Nat} {pos : Pos} (q : Q (.bool b) H) : Ev C (.Constant (.bool b) k pos) σ H Q :=
  fun s x => by
    show wpAny _ _ (pure (Value.bool b)) _ _ s
    exact wpAny_pure (postW.same x.muts den_bool q)
theorem ev_none {k : Nat} {pos : Pos} (q : Q .none H) : Ev C (.Constant .none k pos) σ H Q :=
  fun s x => by
    show wpAny _ _ (pure Value.none) _ _ s
    exact wpAny_pure (postW.same x.muts den_none q)

/-- a name of the frame -/
theorem ev_name {y : Str} {pos : Pos} {t : PT} (h : σ y = some t) (q : Q t H) (hd : (y == ("__debug__" : Str)) = false := by decide) (hn : (y == ("__classdict__" : Str)) = false := by decide) : Ev C (.Name y pos) σ H Q :=
  fun s x => by
    refine wpAny_Name ?_ hd
    by_cases hl : C.env.kindOf y = some .local
    · obtain ⟨m, h1, h2⟩ := x.ns
      obtain ⟨v, h3, h4⟩ := h2 y t h hl
      exact wpAny_loadName_local x.ok.kind hl h1 h3 (postW.same x.muts h4 q)
    · obtain ⟨h1, c, v, h2, h3, h4⟩ := x.cells y t h hl
      rcases h1 with h1 | h1
      · exact wpAny_loadName_cell x.ok.kind h1 h2 h3 (postW.same x.muts h4 q)
      · exact wpAny_loadName_free x.ok.kind h1 h2 h3 (postW.same x.muts h4 q) hn

/-- what a binary operation gives -/
def Bin (C : Cx) (op : Operator) (a b : PT) (H : AH) (Q : PT → AH → Prop) : Prop :=
  ∀ s v w, Bs C H s → Den s.heap H a v → Den s.heap H b w → Wp C H (binaryOp op v w) s Q
def Cmp (C : Cx) (op : CmpOp) (a b : PT) (H : AH) (Q : PT → AH → Prop) : Prop :=
  ∀ s v w, Bs C H s → Den s.heap H a v → Den s.heap H b w → Wp C H (compareOp op v w) s Q
def Tru (C : Cx) (a : PT) (H : AH) (Q : Bool → AH → Prop) : Prop :=
  ∀ s v, Bs C H s → Den s.heap H a v → WpB C H (truthy v) s Q

theorem ev_binop {l r : Expr} {op : Operator} {pos : Pos} (h : Ev C l σ H fun a H₁ => Ev C r σ H₁ fun b H₂ => Bin C op a b H₂ Q) : Ev C (.BinOp l op r pos) σ H Q :=
  fun s x => by
    refine wpAny_BinOp ((h s x).then fun v a s₁ H₁ e₁ m₁ d₁ q₁ => ?_)
    have x₁ := x.ext e₁ m₁
    refine (q₁ s₁ x₁).then fun w b s₂ H₂ e₂ m₂ d₂ q₂ => ?_
    exact wpAny_mono (q₂ s₂ v w (x₁.ext e₂ m₂).toBs (e₂.den d₁) d₂) (fun _ _ p => (p.trans e₂).trans e₁) fun _ _ f => f
theorem ev_compare {l r : Expr} {op : CmpOp} {pos : Pos} (h : Ev C l σ H fun a H₁ => Ev C r σ H₁ fun b H₂ => Cmp C op a b H₂ Q)
    (hm : behindInMarks op r = false := by with_unfolding_all rfl) : Ev C (.Compare l [op] [r] pos) σ H Q :=
  fun s x => by
    refine wpAny_Compare1 ((h s x).then fun v a s₁ H₁ e₁ m₁ d₁ q₁ => ?_) hm
    have x₁ := x.ext e₁ m₁
    refine (q₁ s₁ x₁).then fun w b s₂ H₂ e₂ m₂ d₂ q₂ => ?_
    exact wpAny_mono (q₂ s₂ v w (x₁.ext e₂ m₂).toBs (e₂.den d₁) d₂) (fun _ _ p => (p.trans e₂).trans e₁) fun _ _ f => f
theorem ts_compare {l r : Expr} {op : CmpOp} {pos : Pos} {Q : Bool → AH → Prop} (h : Ev C l σ H fun a H₁ => Ev C r σ H₁ fun b H₂ => Cmp C op a b H₂ fun c H₃ => Tru C c H₃ Q)
    (hm : behindInMarks op r = false := by with_unfolding_all rfl) : Ts C (.Compare l [op] [r] pos) σ H Q :=
  fun s x => by
    refine wpAny_isTrue_Compare1 ((h s x).then fun v a s₁ H₁ e₁ m₁ d₁ q₁ => ?_) hm
    have x₁ := x.ext e₁ m₁
    refine (q₁ s₁ x₁).then fun w b s₂ H₂ e₂ m₂ d₂ q₂ => ?_
    have x₂ := x₁.ext e₂ m₂
    refine (q₂ s₂ v w x₂.toBs (e₂.den d₁) d₂).then fun u c s₃ H₃ e₃ m₃ d₃ q₃ => ?_
    exact wpAny_mono (q₃ s₃ u (x₂.ext e₃ m₃).toBs d₃) (fun _ _ p => ((p.trans e₃).trans e₂).trans e₁) fun _ _ f => f


/-- a name of the top -/
theorem ev_gname {y : Str} {pos : Pos} {t : PT} {v : Value} (hk : C.env.kindOf y = some .globalImplicit) (hm : C.G.mg y = some v) (hv : ∀ h, Den h H t v) (q : Q t H)
    (hd : (y == ("__debug__" : Str)) = false := by decide) : Ev C (.Name y pos) σ H Q :=
  fun s x => by
    refine wpAny_Name (ks_loadName_global x.ok.kind hk ?_) hd
    unfold loadGlobal
    rw [x.ok.glob]
    refine wpAny_bind (wpAny_nsGet (x.ok.G.g.keeps x.base) ?_)
    rw [hm]
    exact wpAny_pure (postW.same x.muts (hv _) q)
/-- a built-in name -/
theorem ev_bname {y : Str} {pos : Pos} {v : Value} (hk : C.env.kindOf y = some .globalImplicit) (hm : C.G.mg y = Option.none) (hb : bootBuiltins y = some v) (q : Q (.oth v) H)
    (hn : y ≠ "__name__" := by decide) (hd : (y == ("__debug__" : Str)) = false := by decide) : Ev C (.Name y pos) σ H Q :=
  fun s x => by
    refine wpAny_Name (ks_loadName_global x.ok.kind hk ?_) hd
    unfold loadGlobal
    rw [x.ok.glob, x.ok.blt]
    refine wpAny_bind (wpAny_nsGet (x.ok.G.g.keeps x.base) ?_)
    rw [hm]
    refine wpAny_bind (wpAny_nsGet (x.ok.G.b.keeps x.base) ?_)
    rw [x.ok.G.builtins y hn, hb]
    exact wpAny_pure (postW.same x.muts den_oth q)

/-- several expressions, one behind the other -/
def postL (s : Shared) (H : AH) (Q : List PT → AH → Prop) (vs : List Value) (s' : Shared) : Prop :=
  ∃ H' us, Ext s H s' H' ∧ Muts s'.heap H' ∧ Dens s'.heap H' us vs ∧ Q us H'
def Evs (C : Cx) (es : List Expr) (σ : Sg) (H : AH) (Q : List PT → AH → Prop) : Prop :=
  ∀ pos s, Sv C σ H s → wpAny C.M C.A (spliced (backTo pos (starEach es C.env))) (postL s H Q) no s
theorem evs_nil {Q : List PT → AH → Prop} (q : Q [] H) : Evs C [] σ H Q :=
  fun pos s x => Calls.spliced_nil ⟨H, [], Ext.refl s H, x.muts, dens_nil, q⟩
theorem evs_cons {e : Expr} {es : List Expr} {Q : List PT → AH → Prop} (h : Ev C e σ H fun t H₁ => Evs C es σ H₁ fun ts H₂ => Q (t :: ts) H₂)
    (he : starEach (e :: es) C.env = (false, eval e C.env) :: starEach es C.env := by rfl) : Evs C (e :: es) σ H Q :=
  fun pos s x => by
    rw [he]
    refine Calls.spliced_cons ((h s x).then fun v a s₁ H₁ e₁ m₁ d₁ q₁ => ?_)
    refine wpAny_mono (q₁ pos s₁ (x.ext e₁ m₁)) (fun vs s₂ p => ?_) fun _ _ f => f
    obtain ⟨H₂, us, e₂, m₂, d₂, q₂⟩ := p
    exact ⟨H₂, a :: us, e₁.trans e₂, m₂, dens_cons (e₂.den d₁) d₂, q₂⟩

/-- what a call gives -/
def Cal (C : Cx) (f : PT) (ts : List PT) (H : AH) (Q : PT → AH → Prop) : Prop :=
  ∀ s v vs, Bs C H s → Den s.heap H f v → Dens s.heap H ts vs →
    (∃ k, (k = Keeper.frame ∨ k = Keeper.machine ∨ k = Keeper.boundFrame) ∧ Looks C.M s.heap (keeperOf v) k) ∧ Wp C H (call v vs) s Q

theorem evalArgs_zero {M : Model} {A : Around} {E : Value → Shared → Prop} {s : Shared} {f : Value} {R : Args → Shared → Prop}
    (h : wpAny M A (spliced []) (fun vs s' => R ⟨vs, []⟩ s') E s) : wpAny M A (evalArgs f true [] []) R E s := by
  unfold evalArgs
  show wpAny M A (spliced [] >>= _) R E s
  refine wpAny_bind (wpAny_mono h (fun vs s' h' => ?_) fun _ _ x => x)
  refine wpAny_bind (wpAny_pure ?_)
  refine wpAny_holding ?_
  exact wpAny_bind (wpAny_pure (wpAny_bind (wpAny_pure (wpAny_pure h'))))

theorem callWith_any {M : Model} {A : Around} {E : Value → Shared → Prop} {s : Shared} {env : Env} {pos : Pos} {f : Value} {first : List Value} {R : Value → Shared → Prop} {args : List Expr}
    (hplain : (backTo pos (starEach args env)).any (·.1) = false)
    (h : wpAny M A (spliced (backTo pos (starEach args env))) (fun vs s₁ => (∃ k, (k = Keeper.frame ∨ k = Keeper.machine ∨ k = Keeper.boundFrame) ∧ Looks M s₁.heap (keeperOf f) k) ∧ wpAny M A (call f (first ++ vs)) R E s₁) E s) :
    wpAny M A (callWith pos f first (backTo pos (starEach args env)) []) R E s := by
  refine callWith_of (P := fun h => ∃ k, (k = Keeper.frame ∨ k = Keeper.machine ∨ k = Keeper.boundFrame) ∧ Looks M h (keeperOf f) k) (by rw [hplain]; rfl) (fun h x => x) ?_
  revert h hplain
  generalize backTo pos (starEach args env) = l
  intro hplain h
  cases l with
  | nil => exact evalArgs_zero h
  | cons x r =>
    obtain ⟨b, t⟩ := x
    simp only [List.any_cons, Bool.or_eq_false_iff] at hplain
    obtain ⟨rfl, _⟩ := hplain
    exact Calls.evalArgs_plain h

theorem ev_call {g : Str} {p pos : Pos} {args : List Expr} (h : Ev C (.Name g p) σ H fun f H₁ => Evs C args σ H₁ fun ts H₂ => Cal C f ts H₂ Q)
    (hplain : (backTo pos (starEach args C.env)).any (·.1) = false := by rfl) : Ev C (.Call (.Name g p) args [] pos) σ H Q :=
  fun s x => by
    refine wpAny_Call_NameR ((h s x).then fun v a s₁ H₁ e₁ m₁ d₁ q₁ => ?_)
    have x₁ := x.ext e₁ m₁
    refine callWith_any hplain (wpAny_mono (q₁ pos s₁ x₁) (fun vs s₂ p => ?_) fun _ _ f => f)
    obtain ⟨H₂, us, e₂, m₂, d₂, q₂⟩ := p
    obtain ⟨k, w⟩ := q₂ s₂ v vs (x₁.ext e₂ m₂).toBs (e₂.den d₁) d₂
    exact ⟨k, wpAny_mono w (fun _ _ p => (p.trans e₂).trans e₁) fun _ _ f => f⟩

theorem keeper_builtin {M : Model} {h : Heap} {id : String} : ∃ k, (k = Keeper.frame ∨ k = Keeper.machine ∨ k = Keeper.boundFrame) ∧ Looks M h (keeperOf (.builtin id)) k :=
  ⟨.machine, .inr (.inl rfl), Looks.of_pure rfl⟩
theorem keeper_type {M : Model} {h : Heap} {id : String} : ∃ k, (k = Keeper.frame ∨ k = Keeper.machine ∨ k = Keeper.boundFrame) ∧ Looks M h (keeperOf (.type id)) k :=
  ⟨.machine, .inr (.inl rfl), Looks.of_pure rfl⟩

/-- what a built-in gives of its arguments -/
def Blt (C : Cx) (id : String) (ts : List PT) (H : AH) (Q : PT → AH → Prop) : Prop :=
  ∀ s vs, Bs C H s → Dens s.heap H ts vs → Wp C H (call (.builtin id) vs) s Q
def Typ (C : Cx) (id : String) (ts : List PT) (H : AH) (Q : PT → AH → Prop) : Prop :=
  ∀ s vs, Bs C H s → Dens s.heap H ts vs → Wp C H (call (.type id) vs) s Q
theorem cal_builtin {id : String} {ts : List PT} (h : Blt C id ts H Q) : Cal C (.oth (.builtin id)) ts H Q := fun s v vs x hv hvs => by
  cases of_oth hv
  exact ⟨keeper_builtin, h s vs x hvs⟩
theorem cal_type {id : String} {ts : List PT} (h : Typ C id ts H Q) : Cal C (.oth (.type id)) ts H Q := fun s v vs x hv hvs => by
  cases of_oth hv
  exact ⟨keeper_type, h s vs x hvs⟩

/-- a method of a value: the built-in that stands for it -/
def Mth (C : Cx) (t : PT) (name : Str) (id : String) (H : AH) : Prop :=
  ∀ s v, Bs C H s → Den s.heap H t v → ∃ T, PlainAttrs T ∧ PySem.Slot T name id ∧ typeOf (.builtin id) = pure (.type "method_descriptor") ∧ s.TypeIs v T ∧ (∀ a, v = .ref a → ∃ ob, s.heap.get? a = some ob ∧ ob.dict = Option.none)

theorem ev_method {o : Expr} {name : Str} {apos pos : Pos} {args : List Expr} (h : Ev C o σ H fun t H₁ => ∃ id, Mth C t name id H₁ ∧ Evs C args σ H₁ fun ts H₂ => Blt C id (t :: ts) H₂ Q)
    (hbase : attributeBase o name C.env (eval o C.env) = eval o C.env := by rfl)
    (hfew : ((backTo pos (starEach args C.env)).all (fun x => !x.1) && (backToKw pos (keywordEach [] C.env)).all (fun x => x.1.isSome)
      && decide (args.length + ([] : List Keyword).length + (if ([] : List Keyword).isEmpty then 0 else 1) < 30)) = true := by rfl)
    (hline : (apos.endLine == pos.line) = true := by rfl) (hplain : (backTo pos (starEach args C.env)).any (·.1) = false := by rfl) :
    Ev C (.Call (.Attribute o name apos) args [] pos) σ H Q :=
  fun s x => by
    refine wpAny_Call_method_late hbase hfew hline rfl ((h s x).then fun v a s₁ H₁ e₁ m₁ d₁ q₁ => ?_)
    have x₁ := x.ext e₁ m₁
    obtain ⟨id, hm, q₁⟩ := q₁
    obtain ⟨T, p1, p2, p3, p4, p5⟩ := hm s₁ v x₁.toBs d₁
    refine ⟨T, id, p1, p2, p3, p4, p5, ?_⟩
    refine callWith_any hplain (wpAny_mono (q₁ pos s₁ x₁) (fun vs s₂ p => ?_) fun _ _ f => f)
    obtain ⟨H₂, us, e₂, m₂, d₂, q₂⟩ := p
    exact ⟨keeper_builtin, wpAny_mono (q₂ s₂ (v :: vs) (x₁.ext e₂ m₂).toBs (dens_cons (e₂.den d₁) d₂)) (fun _ _ p => (p.trans e₂).trans e₁) fun _ _ f => f⟩

end


inductive Fl where
  | next
  | brk
  | cont
  | ret (t : PT)
def FlD (h : Heap) (H : AH) : Fl → Flow → Prop
  | .next, f => f = .next
  | .brk, f => f = .brk
  | .cont, f => f = .cont
  | .ret t, f => ∃ v, f = .ret v ∧ Den h H t v

/-- a frame that statements run in -/
structure SOk (C : Cx) : Prop where
  cell : C.fn = true → ∀ x c, C.env.kindOf x = some .cell → C.env.cells.lookup x = some c → C.lo ≤ c
  apart : C.fn = true → ∀ x y c, C.env.cells.lookup x = some c → C.env.cells.lookup y = some c → x = y

structure St (C : Cx) (σ : Sg) (H : AH) (s : Shared) : Prop extends Sv C σ H s where
  sok : SOk C
  has : ∀ x, C.env.kindOf x = some .cell → ∃ c v, C.env.cells.lookup x = some c ∧ s.heap.IsCell c v

/-- what no statement of the frame turns -/
structure Fz (C : Cx) (H : AH) (b : Addr) : Prop where
  loc : b ≠ C.env.locals
  cell : C.fn = true → ∀ x, C.env.kindOf x = some .cell → C.env.cells.lookup x ≠ some b
  mt : H b = Option.none ∨ b < C.lo
structure Kp (C : Cx) (s : Shared) (H : AH) (s' : Shared) (H' : AH) : Prop where
  same : ∃ h tk, s' = { s with heap := h, toks := tk }
  keep : ∀ b o, s.heap.get? b = some o → Fz C H b → s'.heap.get? b = some o
  alive : ∀ b o, s.heap.get? b = some o → ∃ o', s'.heap.get? b = some o'
  frz : ∀ b o, s.heap.get? b = some o → H b = Option.none → H' b = Option.none
  frn : ∀ b ts, H b = some ts → b < C.lo → H' b = some ts
theorem Kp.refl (C : Cx) (s : Shared) (H : AH) : Kp C s H s H := ⟨⟨s.heap, s.toks, rfl⟩, fun _ _ e _ => e, fun _ o e => ⟨o, e⟩, fun _ _ _ e => e, fun _ _ e _ => e⟩
theorem Fz.step {C : Cx} {s s' : Shared} {H H' : AH} (x : Kp C s H s' H') {b : Addr} {o : Obj} (e : s.heap.get? b = some o) (f : Fz C H b) : Fz C H' b := by
  refine ⟨f.loc, f.cell, ?_⟩
  rcases f.mt with h | h
  · exact .inl (x.frz b o e h)
  · exact .inr h
theorem Kp.trans {C : Cx} {s s₁ s₂ : Shared} {H H₁ H₂ : AH} (x : Kp C s H s₁ H₁) (y : Kp C s₁ H₁ s₂ H₂) : Kp C s H s₂ H₂ := by
  refine ⟨?_, fun b o e f => y.keep b o (x.keep b o e f) (f.step x e), fun b o e => ?_, fun b o e q => ?_, fun b ts q l => y.frn b ts (x.frn b ts q l) l⟩
  · obtain ⟨h₁, t₁, rfl⟩ := x.same
    obtain ⟨h₂, t₂, rfl⟩ := y.same
    exact ⟨h₂, t₂, rfl⟩
  · obtain ⟨o', e'⟩ := x.alive b o e
    exact y.alive b o' e'
  · obtain ⟨o', e'⟩ := x.alive b o e
    exact y.frz b o' e' (x.frz b o e q)
theorem Kp.of_ext {C : Cx} {s s' : Shared} {H H' : AH} (e : Ext s H s' H') : Kp C s H s' H' := by
  refine ⟨?_, fun b o q _ => Keeps.get e.keeps q, fun b o q => ⟨o, Keeps.get e.keeps q⟩, fun b o q h => e.stays q h, fun b ts q _ => e.old b ts q⟩
  obtain ⟨h, tk, rfl, _⟩ := e.keeps
  exact ⟨h, tk, rfl⟩

theorem St.ext {C : Cx} {σ : Sg} {H H' : AH} {s s' : Shared} (x : St C σ H s) (e : Ext s H s' H') (m : Muts s'.heap H') : St C σ H' s' := by
  refine ⟨x.toSv.ext e m, x.sok, fun y hy => ?_⟩
  obtain ⟨c, v, h1, h2⟩ := x.has y hy
  exact ⟨c, v, h1, h2.keeps fun b o q => Keeps.get e.keeps q⟩

theorem ns_ne {h : Heap} {L a : Addr} {m : Str → Option Value} {o : Obj} (n : h.Ns L m) (p : Pl o) (e : h.get? a = some o) : a ≠ L := by
  rintro rfl
  obtain ⟨o', es, ep, ho, hd, _⟩ := n
  rw [e] at ho; cases ho
  rcases p with ⟨_, _, rfl⟩ | ⟨_, _, rfl⟩ | ⟨_, rfl⟩ <;> cases hd
theorem cell_ne {h : Heap} {c a : Addr} {v : Option Value} {o : Obj} (n : h.IsCell c v) (p : Pl o) (e : h.get? a = some o) : a ≠ c := by
  rintro rfl
  obtain ⟨o', ho, hd⟩ := n
  rw [e] at ho; cases ho
  rcases p with ⟨_, _, rfl⟩ | ⟨_, _, rfl⟩ | ⟨_, rfl⟩ <;> cases hd
theorem pl_list {h : Heap} {a : Addr} {vs : Array Value} (l : h.PlainList a vs) : ∃ o, Pl o ∧ h.get? a = some o := let ⟨_, e⟩ := l; ⟨_, .inl ⟨_, _, rfl⟩, e⟩
theorem ns_ne_list {h : Heap} {L a : Addr} {m : Str → Option Value} {vs : Array Value} (n : h.Ns L m) (l : h.PlainList a vs) : a ≠ L := let ⟨_, p, e⟩ := pl_list l; ns_ne n p e
theorem cell_ne_list {h : Heap} {c a : Addr} {v : Option Value} {vs : Array Value} (n : h.IsCell c v) (l : h.PlainList a vs) : a ≠ c := let ⟨_, p, e⟩ := pl_list l; cell_ne n p e
theorem ns_ne_cell {h : Heap} {L c : Addr} {m : Str → Option Value} {v : Option Value} (n : h.Ns L m) (l : h.IsCell c v) : c ≠ L := by
  rintro rfl
  obtain ⟨o, es, ep, ho, hd, _⟩ := n
  obtain ⟨o', q, hd'⟩ := l
  rw [ho] at q; cases q; rw [hd] at hd'; cases hd'

theorem den_ns {h h' : Heap} {H : AH} {L : Addr} {m : Str → Option Value} (n : h.Ns L m) (hs : Heap.SameBut L h h') {t : PT} {v : Value} (d : Den h H t v) : Den h' H t v :=
  Den.mono' (fun a o p e q => ⟨(hs.2 a (ns_ne n p e)).trans e, q⟩) t v (.inr fun _ q => q) d
theorem den_cell {h h' : Heap} {H : AH} {L : Addr} {m : Option Value} (n : h.IsCell L m) (hs : Heap.SameBut L h h') {t : PT} {v : Value} (d : Den h H t v) : Den h' H t v :=
  Den.mono' (fun a o p e q => ⟨(hs.2 a (cell_ne n p e)).trans e, q⟩) t v (.inr fun _ q => q) d
theorem dens_ns {h h' : Heap} {H : AH} {L : Addr} {m : Str → Option Value} (n : h.Ns L m) (hs : Heap.SameBut L h h') {ts : List PT} {vs : List Value} (d : Dens h H ts vs) : Dens h' H ts vs :=
  Dens.mono' (fun a o p e q => ⟨(hs.2 a (ns_ne n p e)).trans e, q⟩) ts vs (.inr fun _ q => q) d
theorem dens_cell {h h' : Heap} {H : AH} {L : Addr} {m : Option Value} (n : h.IsCell L m) (hs : Heap.SameBut L h h') {ts : List PT} {vs : List Value} (d : Dens h H ts vs) : Dens h' H ts vs :=
  Dens.mono' (fun a o p e q => ⟨(hs.2 a (cell_ne n p e)).trans e, q⟩) ts vs (.inr fun _ q => q) d

/-- frozen objects are read as they were -/
theorem St.fz {C : Cx} {σ : Sg} {H : AH} {s : Shared} (x : St C σ H s) {a : Addr} {o : Obj} (p : Pl o) (e : s.heap.get? a = some o) (q : H a = Option.none) : Fz C H a := by
  obtain ⟨m, hn, _⟩ := x.ns
  refine ⟨ns_ne hn p e, fun _ y hy hc => ?_, .inl q⟩
  obtain ⟨c, v, h1, h2⟩ := x.has y hy
  rw [h1] at hc; cases hc
  exact cell_ne h2 p e rfl
theorem den_keep {C : Cx} {σ : Sg} {s s' : Shared} {H H' : AH} (x : St C σ H s) (k : Kp C s H s' H') {t : PT} {v : Value} (hm : NM t = true ∨ ∀ a, H a ≠ Option.none → H' a ≠ Option.none) (d : Den s.heap H t v) : Den s'.heap H' t v :=
  Den.mono' (fun a o p e q => ⟨k.keep a o e (x.fz p e q), k.frz a o e q⟩) t v hm d
theorem dens_keep {C : Cx} {σ : Sg} {s s' : Shared} {H H' : AH} (x : St C σ H s) (k : Kp C s H s' H') {t : List PT} {v : List Value} (hm : NMs t = true ∨ ∀ a, H a ≠ Option.none → H' a ≠ Option.none) (d : Dens s.heap H t v) : Dens s'.heap H' t v :=
  Dens.mono' (fun a o p e q => ⟨k.keep a o e (x.fz p e q), k.frz a o e q⟩) t v hm d

/-- a name that may be stored -/
def stb (C : Cx) (x : Str) : Bool := match C.env.kindOf x with
  | some .local => true
  | some .cell => C.fn
  | _ => false

theorem base_ne {C : Cx} (k : COk C) {a : Addr} (ha : C.lo ≤ a) {b : Addr} {o : Obj} (e : C.G.h₀.get? b = some o) : b ≠ a := by
  rintro rfl
  exact absurd (Heap.lt_size e) (Nat.not_lt.mpr (Nat.le_trans k.low ha))

/-- the store of a name -/
theorem st_store {C : Cx} {σ : Sg} {H : AH} {s : Shared} {y : Str} {t : PT} {v : Value} {R : Unit → Shared → Prop} (x : St C σ H s) (d : Den s.heap H t v)
    (hy : stb C y = true) (h : ∀ s', St C (upd σ y t) H s' → Kp C s H s' H → R () s') : wpAny C.M C.A (storeName C.env y v) R no s := by
  obtain ⟨m, hn, hm⟩ := x.ns
  unfold stb at hy
  have hkl : C.env.kindOf y = some .local ∨ (C.env.kindOf y = some .cell ∧ C.fn = true) := by
    revert hy
    cases hq : C.env.kindOf y with
    | none => intro hy; cases hy
    | some k => cases k <;> first | (intro _; exact .inl rfl) | (intro q; exact .inr ⟨rfl, q⟩) | (intro hy; cases hy)
  rcases hkl with hl | ⟨hl, hfn⟩
  · refine wpAny_storeName_local hl hn (fun h' hn' hs' => h _ ?_ ?_) (by rw [x.ok.kind]; rfl)
    · refine ⟨⟨⟨x.ok, fun b o q => ?_, fun a ts q => ?_, ?_⟩, ⟨_, hn', fun z u hz hk => ?_⟩, fun z u hz hk => ?_⟩, x.sok, fun z hz => ?_⟩
      · exact (hs'.2 b (base_ne x.ok x.ok.loc q)).trans (x.base b o q)
      · obtain ⟨vs, h1, h2⟩ := x.muts a ts q
        exact ⟨vs, h1.at fun o w => (hs'.2 a (ns_ne_list hn h1)).trans w, dens_ns hn hs' h2⟩
      · rw [hs'.1]; exact x.lo
      · by_cases e : z = y
        · subst e
          rw [upd_same] at hz; cases hz
          exact ⟨v, by simp, den_ns hn hs' d⟩
        · rw [upd, if_neg e] at hz
          obtain ⟨w, h1, h2⟩ := hm z u hz hk
          exact ⟨w, by simp [e, h1], den_ns hn hs' h2⟩
      · have e : z ≠ y := by rintro rfl; exact hk hl
        rw [upd, if_neg e] at hz
        obtain ⟨h1, c, w, h2, h3, h4⟩ := x.cells z u hz hk
        exact ⟨h1, c, w, h2, h3.sameBut hs' (ns_ne_cell hn h3), den_ns hn hs' h4⟩
      · obtain ⟨c, w, h2, h3⟩ := x.has z hz
        exact ⟨c, w, h2, h3.sameBut hs' (ns_ne_cell hn h3)⟩
    · refine ⟨⟨_, _, rfl⟩, fun b o e f => (hs'.2 b f.loc).trans e, fun b o e => ?_, fun b o e q => q, fun b ts q _ => q⟩
      by_cases q : b = C.env.locals
      · subst q; obtain ⟨o', _, _, h1, _⟩ := hn'; exact ⟨o', h1⟩
      · exact ⟨o, (hs'.2 b q).trans e⟩
  · obtain ⟨c, v₀, hc, hcv⟩ := x.has y hl
    refine wpAny_storeName_cell x.ok.kind hl hc hcv (fun h' hn' hs' => h _ ?_ ?_)
    · refine ⟨⟨⟨x.ok, fun b o q => ?_, fun a ts q => ?_, ?_⟩, ⟨m, ?_, fun z u hz hk => ?_⟩, fun z u hz hk => ?_⟩, x.sok, fun z hz => ?_⟩
      · exact (hs'.2 b (base_ne x.ok (x.sok.cell hfn y c hl hc) q)).trans (x.base b o q)
      · obtain ⟨vs, h1, h2⟩ := x.muts a ts q
        exact ⟨vs, h1.at fun o w => (hs'.2 a (cell_ne_list hcv h1)).trans w, dens_cell hcv hs' h2⟩
      · rw [hs'.1]; exact x.lo
      · exact hn.at' fun o w => (hs'.2 _ (Ne.symm (ns_ne_cell hn hcv))).trans w
      · have e : z ≠ y := by rintro rfl; rw [hl] at hk; cases hk
        rw [upd, if_neg e] at hz
        obtain ⟨w, h1, h2⟩ := hm z u hz hk
        exact ⟨w, h1, den_cell hcv hs' h2⟩
      · by_cases e : z = y
        · subst e
          rw [upd_same] at hz; cases hz
          exact ⟨.inl hl, c, v, hc, hn', den_cell hcv hs' d⟩
        · rw [upd, if_neg e] at hz
          obtain ⟨h1, c', w, h2, h3, h4⟩ := x.cells z u hz hk
          have : c' ≠ c := fun q => e (x.sok.apart hfn z y c (q ▸ h2) hc)
          exact ⟨h1, c', w, h2, h3.sameBut hs' this, den_cell hcv hs' h4⟩
      · by_cases e : z = y
        · subst e; exact ⟨c, _, hc, hn'⟩
        · obtain ⟨c', w, h2, h3⟩ := x.has z hz
          have : c' ≠ c := fun q => e (x.sok.apart hfn z y c (q ▸ h2) hc)
          exact ⟨c', w, h2, h3.sameBut hs' this⟩
    · refine ⟨⟨_, s.toks, rfl⟩, fun b o e f => (hs'.2 b fun q => f.cell hfn y hl (q ▸ hc)).trans e, fun b o e => ?_, fun b o e q => q, fun b ts q _ => q⟩
      by_cases q : b = c
      · subst q; obtain ⟨o', h1, _⟩ := hn'; exact ⟨o', h1⟩
      · exact ⟨o, (hs'.2 b q).trans e⟩

theorem st_store' {C : Cx} {σ : Sg} {H : AH} {s : Shared} {y : Str} {t : PT} {v : Value} {R : Unit → Shared → Prop} (x : St C σ H s) (d : Den s.heap H t v)
    (hy : stb C y = true) (h : ∀ s', St C (upd σ y t) H s' → Kp C s H s' H → (∀ u w, Den s.heap H u w → Den s'.heap H u w) → R () s') : wpAny C.M C.A (storeName C.env y v) R no s :=
  st_store x d hy fun s' x' k' => h s' x' k' fun u w e => den_keep x k' (.inr fun _ q => q) e

/-- a list that is written to is turned -/
theorem st_write {C : Cx} {σ : Sg} {H : AH} {s : Shared} {a : Addr} {ts us : List PT} {ws : Array Value} {h' : Heap} {tk : Nat} (x : St C σ H s) (ha : H a = some ts) (hlo : C.lo ≤ a)
    (hl : h'.PlainList a ws) (hs : Heap.SameBut a s.heap h') (d : Dens s.heap H us ws.toList) : St C σ (hup H a us) { s with heap := h', toks := tk } ∧ Kp C s H { s with heap := h', toks := tk } (hup H a us) := by
  obtain ⟨m, hn, hm⟩ := x.ns
  obtain ⟨vs, hv, _⟩ := x.muts a ts ha
  have up : ∀ t v, Den s.heap H t v → Den h' (hup H a us) t v := fun t v => Den.mono' (fun b o _ e q => by
    have hne : b ≠ a := by rintro rfl; rw [ha] at q; cases q
    exact ⟨(hs.2 b hne).trans e, hup_ne hne q⟩) t v (.inr fun b q => by
      by_cases e : b = a
      · subst e; rw [hup_same]; simp
      · rw [hup_ne e rfl]; exact q)
  have ups : ∀ t v, Dens s.heap H t v → Dens h' (hup H a us) t v := fun t v => Dens.mono' (fun b o _ e q => by
    have hne : b ≠ a := by rintro rfl; rw [ha] at q; cases q
    exact ⟨(hs.2 b hne).trans e, hup_ne hne q⟩) t v (.inr fun b q => by
      by_cases e : b = a
      · subst e; rw [hup_same]; simp
      · rw [hup_ne e rfl]; exact q)
  constructor
  · refine ⟨⟨⟨x.ok, fun b o q => ?_, fun b ts' q => ?_, ?_⟩, ⟨m, ?_, fun z u hz hk => ?_⟩, fun z u hz hk => ?_⟩, x.sok, fun z hz => ?_⟩
    · exact (hs.2 b (base_ne x.ok hlo q)).trans (x.base b o q)
    · by_cases e : b = a
      · subst e
        rw [hup_same] at q; cases q
        exact ⟨ws, hl, ups _ _ d⟩
      · rw [hup, if_neg e] at q
        obtain ⟨vs', h1, h2⟩ := x.muts b ts' q
        exact ⟨vs', h1.at fun o w => (hs.2 b e).trans w, ups _ _ h2⟩
    · show C.lo ≤ h'.objs.size
      rw [hs.1]; exact x.lo
    · exact hn.at' fun o w => (hs.2 _ (Ne.symm (ns_ne_list hn hv))).trans w
    · obtain ⟨w, h1, h2⟩ := hm z u hz hk
      exact ⟨w, h1, up _ _ h2⟩
    · obtain ⟨h1, c', w, h2, h3, h4⟩ := x.cells z u hz hk
      exact ⟨h1, c', w, h2, h3.sameBut hs (Ne.symm (cell_ne_list h3 hv)), up _ _ h4⟩
    · obtain ⟨c', w, h2, h3⟩ := x.has z hz
      exact ⟨c', w, h2, h3.sameBut hs (Ne.symm (cell_ne_list h3 hv))⟩
  · refine ⟨⟨_, tk, rfl⟩, fun b o e f => (hs.2 b fun q => ?_).trans e, fun b o e => ?_, fun b o e q => ?_, fun b ts' q l => ?_⟩
    · rcases f.mt with h | h
      · rw [q, ha] at h; cases h
      · rw [q] at h; exact absurd hlo (Nat.not_le.mpr h)
    · by_cases q : b = a
      · subst q; obtain ⟨_, h1⟩ := hl; exact ⟨_, h1⟩
      · exact ⟨o, (hs.2 b q).trans e⟩
    · exact hup_ne (by rintro rfl; rw [ha] at q; cases q) q
    · exact hup_ne (by rintro rfl; exact absurd hlo (Nat.not_le.mpr l)) q

/-- what statements do -/
def postS (C : Cx) (s : Shared) (H : AH) (R : Fl → Sg → AH → Prop) (fl : Flow) (s' : Shared) : Prop :=
  ∃ f σ' H', St C σ' H' s' ∧ Kp C s H s' H' ∧ FlD s'.heap H' f fl ∧ R f σ' H'
def Exs (C : Cx) (ss : List Stmt) (σ : Sg) (H : AH) (R : Fl → Sg → AH → Prop) : Prop :=
  ∀ s, St C σ H s → wpAny C.M C.A (execs ss C.env) (postS C s H R) no s
def Ex (C : Cx) (st : Stmt) (σ : Sg) (H : AH) (R : Fl → Sg → AH → Prop) : Prop :=
  ∀ s, St C σ H s → wpAny C.M C.A (exec st C.env) (postS C s H R) no s
def Then (C : Cx) (ss : List Stmt) (R : Fl → Sg → AH → Prop) (f : Fl) (σ : Sg) (H : AH) : Prop := match f with
  | .next => Exs C ss σ H R
  | f => R f σ H
def Asg (C : Cx) (e : Expr) (t : PT) (σ : Sg) (H : AH) (R : Sg → AH → Prop) : Prop :=
  ∀ s v, St C σ H s → Den s.heap H t v → wpAny C.M C.A (assign e C.env v) (fun _ s' => ∃ σ' H', St C σ' H' s' ∧ Kp C s H s' H' ∧ R σ' H') no s

theorem postS.trans {C : Cx} {s s₁ : Shared} {H H₁ : AH} {R : Fl → Sg → AH → Prop} {fl : Flow} {s' : Shared} (z : Kp C s H s₁ H₁) (p : postS C s₁ H₁ R fl s') : postS C s H R fl s' := by
  obtain ⟨f, σ', H', h1, h2, h3, h4⟩ := p
  exact ⟨f, σ', H', h1, z.trans h2, h3, h4⟩

section
variable {C : Cx} {σ : Sg} {H : AH} {R : Fl → Sg → AH → Prop}

theorem Exs.mono {ss : List Stmt} {R' : Fl → Sg → AH → Prop} (h : Exs C ss σ H R) (k : ∀ f σ' H', R f σ' H' → R' f σ' H') : Exs C ss σ H R' := fun s x =>
  wpAny_mono (h s x) (fun fl s' ⟨f, σ', H', h1, h2, h3, h4⟩ => ⟨f, σ', H', h1, h2, h3, k _ _ _ h4⟩) fun _ _ f => f
theorem Ex.mono {ss : Stmt} {R' : Fl → Sg → AH → Prop} (h : Ex C ss σ H R) (k : ∀ f σ' H', R f σ' H' → R' f σ' H') : Ex C ss σ H R' := fun s x =>
  wpAny_mono (h s x) (fun fl s' ⟨f, σ', H', h1, h2, h3, h4⟩ => ⟨f, σ', H', h1, h2, h3, k _ _ _ h4⟩) fun _ _ f => f

theorem exs_nil (r : R .next σ H) : Exs C [] σ H R := fun s x => wpAny_execs_nil ⟨.next, σ, H, x, Kp.refl C s H, rfl, r⟩
theorem exs_cons {st : Stmt} {rest : List Stmt} (h : Ex C st σ H (Then C rest R)) : Exs C (st :: rest) σ H R := fun s x => by
  refine wpAny_execs_cons (wpAny_mono (h s x) (fun fl s' q => ?_) fun _ _ f => f)
  obtain ⟨f, σ', H', h1, h2, h3, h4⟩ := q
  cases f with
  | next => simp only [FlD] at h3; subst h3; exact wpAny_mono (h4 s' h1) (fun _ _ q => q.trans h2) fun _ _ f => f
  | brk => simp only [FlD] at h3; subst h3; exact ⟨.brk, σ', H', h1, h2, rfl, h4⟩
  | cont => simp only [FlD] at h3; subst h3; exact ⟨.cont, σ', H', h1, h2, rfl, h4⟩
  | ret t => simp only [FlD] at h3; obtain ⟨v, rfl, hv⟩ := h3; exact ⟨.ret t, σ', H', h1, h2, ⟨v, rfl, hv⟩, h4⟩

theorem ex_return {e : Expr} {pos : Pos} (h : Ev C e σ H fun t H₁ => R (.ret t) σ H₁) : Ex C (.Return (some e) pos) σ H R := fun s x => by
  refine wpAny_Return_some ((h s x.toSv).then fun v a s₁ H₁ e₁ m₁ d₁ q₁ => ?_)
  exact ⟨.ret a, σ, H₁, x.ext e₁ m₁, Kp.of_ext e₁, ⟨v, rfl, d₁⟩, q₁⟩

theorem ex_if {test : Expr} {body orelse : List Stmt} {pos : Pos} (h : Ts C test σ H fun t H₁ => if t = true then Exs C body σ H₁ R else Exs C orelse σ H₁ R) : Ex C (.If test body orelse pos) σ H R := fun s x => by
  refine wpAny_If ((h s x.toSv).then fun v s₁ H₁ e₁ m₁ q₁ => ?_)
  have x₁ := x.ext e₁ m₁
  cases v with
  | true => exact wpAny_mono (q₁ s₁ x₁) (fun _ _ q => q.trans (Kp.of_ext e₁)) fun _ _ f => f
  | false => exact wpAny_mono (q₁ s₁ x₁) (fun _ _ q => q.trans (Kp.of_ext e₁)) fun _ _ f => f

theorem asg_name {y : Str} {pos : Pos} {t : PT} {R : Sg → AH → Prop} (r : R (upd σ y t) H) (hy : stb C y = true := by rfl) : Asg C (.Name y pos) t σ H R := fun s v x d =>
  wpAny_assign_Name (st_store x d hy fun s' x' z' => ⟨_, H, x', z', r⟩)

theorem ex_assign {target e : Expr} {pos : Pos} (h : Ev C e σ H fun t H₁ => Asg C target t σ H₁ fun σ' H' => R .next σ' H')
    (hs : swapsWithSole [target] e pos.line C.env = pure false := by rfl) (hw : swappedStores [target] e C.env = pure Option.none := by rfl) (he : (assignEach [target] C.env).map (·.2) = [assign target C.env] := by rfl) : Ex C (.Assign [target] e pos) σ H R := fun s x => by
  refine wpAny_Assign_stores ((h s x.toSv).then fun v a s₁ H₁ e₁ m₁ d₁ q₁ => ?_) hs hw
  rw [he]
  refine wpAny_mono (q₁ s₁ v (x.ext e₁ m₁) d₁) (fun _ s' q => ?_) fun _ _ f => f
  obtain ⟨σ', H', h1, h2, h3⟩ := q
  exact ⟨.next, σ', H', h1, (Kp.of_ext e₁).trans h2, rfl, h3⟩
/-- x = e -/
theorem ex_set {y : Str} {e : Expr} {pos' pos : Pos} (h : Ev C e σ H fun t H₁ => R .next (upd σ y t) H₁) (hy : stb C y = true := by rfl)
    (hs : swapsWith e (some (.Name y pos')) pos.line C.env = pure false := by rfl) : Ex C (.Assign [.Name y pos'] e pos) σ H R := fun s x => by
  refine wpAny_Assign_Name ((h s x.toSv).then fun v a s₁ H₁ e₁ m₁ d₁ q₁ => ?_) hs
  exact st_store (x.ext e₁ m₁) d₁ hy fun s' x' z' => ⟨.next, _, H₁, x', (Kp.of_ext e₁).trans z', rfl, q₁⟩
/-- x = y = e -/
theorem ex_set2 {y z : Str} {e : Expr} {p1 p2 pos : Pos} (h : Ev C e σ H fun t H₁ => R .next (upd (upd σ y t) z t) H₁) (hy : stb C y = true := by rfl) (hz : stb C z = true := by rfl)
    (hw : swappedStores [.Name y p1, .Name z p2] e C.env = pure Option.none := by rfl) : Ex C (.Assign [.Name y p1, .Name z p2] e pos) σ H R := fun s x => by
  refine wpAny_Assign_two ((h s x.toSv).then fun v a s₁ H₁ e₁ m₁ d₁ q₁ => ?_) rfl hw
  have x₁ := x.ext e₁ m₁
  refine wpAny_assign_Name (st_store' x₁ d₁ hy fun s₂ x₂ k₂ d₂ => ?_)
  exact wpAny_assign_Name (st_store x₂ (d₂ _ _ d₁) hz fun s₃ x₃ k₃ => ⟨.next, _, H₁, x₃, ((Kp.of_ext e₁).trans k₂).trans k₃, rfl, q₁⟩)

/-- while, by a measure -/
theorem ex_while {test : Expr} {body : List Stmt} {pos : Pos} (I : Nat → Sg → AH → Prop) (n : Nat) (h0 : I n σ H)
    (turn : ∀ n σ H, I n σ H → Ts C test σ H fun t H₁ => if t = true then Exs C body σ H₁ (fun f σ' H' => match f with
      | .next | .cont => ∃ m, m < n ∧ I m σ' H'
      | .brk => R .next σ' H'
      | .ret t => R (.ret t) σ' H') else R .next σ H₁) : Ex C (.While test body [] pos) σ H R := fun s x => by
  refine wpAny_While ?_
  refine codeAny_whileLoop (fun n s' => ∃ σ' H', I n σ' H' ∧ St C σ' H' s' ∧ Kp C s H s' H') (fun n s' hI => ?_) n ⟨σ, H, h0, x, Kp.refl C s H⟩
  obtain ⟨σ', H', hI, x', z'⟩ := hI
  refine wpAny_mono (turn n σ' H' hI s' x'.toSv) (fun t s₁ q => ?_) fun _ _ f => f.elim
  obtain ⟨H₁, e₁, m₁, q₁⟩ := q
  have x₁ := x'.ext e₁ m₁
  have w₁ := z'.trans (Kp.of_ext e₁)
  cases t with
  | true =>
    simp only [if_true] at q₁ ⊢
    refine wpAny_mono (q₁ s₁ x₁) (fun fl s₂ q => ?_) fun _ _ f => f.elim
    obtain ⟨f, σ₂, H₂, h1, h2, h3, h4⟩ := q
    cases f with
    | next => simp only [FlD] at h3; subst h3; obtain ⟨k, hk, hI'⟩ := h4; exact ⟨k, hk, σ₂, H₂, hI', h1, w₁.trans h2⟩
    | cont => simp only [FlD] at h3; subst h3; obtain ⟨k, hk, hI'⟩ := h4; exact ⟨k, hk, σ₂, H₂, hI', h1, w₁.trans h2⟩
    | brk => simp only [FlD] at h3; subst h3; exact ⟨.next, σ₂, H₂, h1, w₁.trans h2, rfl, h4⟩
    | ret t => simp only [FlD] at h3; obtain ⟨v, rfl, hv⟩ := h3; exact ⟨.ret t, σ₂, H₂, h1, w₁.trans h2, ⟨v, rfl, hv⟩, h4⟩
  | false =>
    simp only [Bool.false_eq_true, if_false] at q₁ ⊢
    exact wpAny_execs_nil ⟨.next, σ', H₁, x₁, w₁, rfl, q₁⟩
end


/-- an iterator's object -/
def ItO (o : Obj) : Prop := ∃ vs n, o.data = .fields vs ∧ o.cls = .type n ∧ n ≠ "range" ∧
  ["enumerate", "zip", "dict_itemiterator", "dict_reverseitemiterator", "odict_iterator", "itertools.zip_longest", "itertools.pairwise"].contains n = false
theorem ItO.pl {o : Obj} (x : ItO o) : ¬ Pl o := by
  obtain ⟨vs, n, h1, h2, h3, _⟩ := x
  rintro (⟨_, _, rfl⟩ | ⟨_, _, rfl⟩ | ⟨_, rfl⟩)
  · cases h1
  · cases h1
  · cases h2; exact h3 rfl

/-- what a value is walked over; fr: nobody writes to it -/
def Itr (C : Cx) (H : AH) (t : PT) (ts : List PT) (fr : Bool) : Prop := ∀ s v, Bs C H s → Den s.heap H t v → wpAny C.M C.A (pyIter v) (fun it s' =>
  ∃ I fp Pr S, it = .ref I ∧ Walks C.G.prog C.G.w C.A I (I :: fp) [I] ts.length Pr S ∧ S 0 s'.heap ∧ Keeps s s' ∧ s.heap.objs.size ≤ I ∧ (∀ i h, S i h → ∃ o, h.get? I = some o ∧ ItO o) ∧
    (∀ b ∈ fp, (∃ o, Pl o ∧ s.heap.get? b = some o) ∧ (fr = true → H b = Option.none ∨ b < C.lo)) ∧ (∀ i v, Pr i v → ∃ t, ts[i]? = some t ∧ Den s.heap H t v)) no s

theorem push_keeps (s : Shared) (o : Obj) : Keeps s { s with heap := s.heap.push o } := ⟨_, s.toks, rfl, fun b o' e => Heap.get?_push_of_some _ e⟩
theorem get_size_none (h : Heap) : h.get? h.objs.size = Option.none := by
  cases q : h.get? h.objs.size with
  | none => rfl
  | some o => exact absurd (Heap.lt_size q) (Nat.lt_irrefl _)

theorem nm_get {ts : List PT} (h : NMs ts = true) {i : Nat} {t : PT} (e : ts[i]? = some t) : NM t = true := by
  induction ts generalizing i with
  | nil => simp at e
  | cons a r ih =>
    simp only [NMs, Bool.and_eq_true] at h
    cases i with
    | zero => simp at e; subst e; exact h.1
    | succ j => exact ih h.2 (by simpa using e)

section
variable {C : Cx} {σ : Sg} {H : AH}

theorem itr_list_at {s : Shared} {H : AH} {a : Addr} {vs : Array Value} {ts : List PT} {fr : Bool} (x : Bs C H s) (hl : s.heap.PlainList a vs) (hd : Dens s.heap H ts vs.toList) (hf : fr = true → H a = Option.none ∨ a < C.lo) :
    wpAny C.M C.A (pyIter (.ref a)) (fun it s' =>
  ∃ I fp Pr S, it = .ref I ∧ Walks C.G.prog C.G.w C.A I (I :: fp) [I] ts.length Pr S ∧ S 0 s'.heap ∧ Keeps s s' ∧ s.heap.objs.size ≤ I ∧ (∀ i h, S i h → ∃ o, h.get? I = some o ∧ ItO o) ∧
    (∀ b ∈ fp, (∃ o, Pl o ∧ s.heap.get? b = some o) ∧ (fr = true → H b = Option.none ∨ b < C.lo)) ∧ (∀ i v, Pr i v → ∃ t, ts[i]? = some t ∧ Den s.heap H t v)) no s := by
  have hne : a ≠ s.heap.objs.size := by obtain ⟨_, e⟩ := hl; exact Nat.ne_of_lt (Heap.lt_size e)
  have hlen : vs.size = ts.length := by have := hd.length; simpa using this
  refine wpAny_pyIter_list hl.isList ⟨s.heap.objs.size, [a], _, _, rfl, hlen ▸ Walks.list x.ok.hh _ a hne vs, ⟨⟨_, Heap.get?_push_size _ rfl, rfl, rfl⟩, hl.isList.at fun o e => Heap.get?_push_of_some _ e⟩, push_keeps _ _, Nat.le_refl _, ?_, ?_, ?_⟩
  · rintro i h ⟨⟨o, h1, h2, h3⟩, _⟩
    exact ⟨o, h1, _, _, h3, h2, by decide, by decide +kernel⟩
  · intro b hb
    rw [List.mem_singleton] at hb; subst hb
    exact ⟨let ⟨o, p, e⟩ := pl_list hl; ⟨o, p, e⟩, hf⟩
  · intro i v hv
    obtain ⟨t, h1, h2⟩ := hd.get' (i := i) (v := v) (by simpa using hv)
    exact ⟨t, h1, h2⟩

theorem itr_lst {ts : List PT} {fr : Bool} : Itr C H (.lst ts) ts fr := fun s v x d => by
  obtain ⟨a, vs, rfl, h1, h2, h3⟩ := of_lst d
  exact itr_list_at x h2 h3 fun _ => .inl h1
theorem itr_mut {a : Addr} {ts : List PT} {fr : Bool} (h : H a = some ts) (hf : fr = true → a < C.lo) : Itr C H (.mut a) ts fr := fun s v x d => by
  obtain ⟨rfl, _⟩ := of_mut d
  obtain ⟨vs, h2, h3⟩ := x.muts a ts h
  exact itr_list_at x h2 h3 fun q => .inr (hf q)
theorem itr_tup {ts : List PT} {fr : Bool} : Itr C H (.tup ts) ts fr := fun s v x d => by
  obtain ⟨a, vs, rfl, h1, h2, hd⟩ := of_tup d
  have ht : s.heap.IsTuple a vs := let ⟨n, e⟩ := h2; ⟨_, e, rfl, n, rfl⟩
  have hne : a ≠ s.heap.objs.size := by obtain ⟨_, e⟩ := h2; exact Nat.ne_of_lt (Heap.lt_size e)
  have hlen : vs.size = ts.length := by have := hd.length; simpa using this
  refine wpAny_pyIter_tuple ht ⟨s.heap.objs.size, [a], _, _, rfl, hlen ▸ Walks.tuple x.ok.hh _ a hne vs, ⟨⟨_, Heap.get?_push_size _ rfl, rfl, rfl⟩, ht.at fun o e => Heap.get?_push_of_some _ e⟩, push_keeps _ _, Nat.le_refl _, ?_, ?_, ?_⟩
  · rintro i h ⟨⟨o, h1, h2, h3⟩, _⟩
    exact ⟨o, h1, _, _, h3, h2, by decide, by decide +kernel⟩
  · intro b hb
    rw [List.mem_singleton] at hb; subst hb
    exact ⟨let ⟨n, e⟩ := h2; ⟨_, .inr (.inl ⟨_, _, rfl⟩), e⟩, fun _ => .inl h1⟩
  · intro i v hv
    obtain ⟨t, h1, h2⟩ := hd.get' (i := i) (v := v) (by simpa using hv)
    exact ⟨t, h1, h2⟩

/-- the ints of a range -/
def rngL (a c : Int) (n : Nat) : List PT := (List.range n).map fun (i : Nat) => .int (a + (i : Int) * c)
theorem rngL_get {a c : Int} {n i : Nat} (h : i < n) : (rngL a c n)[i]? = some (.int (a + i * c)) := by
  simp [rngL, h]
theorem rngL_length {a c : Int} {n : Nat} : (rngL a c n).length = n := by simp [rngL]

theorem itr_rng {a b c : Int} {n : Nat} {fr : Bool} (hs : Builtin.Range.small a b c = true) (hn : Builtin.Range.rangeSize a b c = (n : Int)) : Itr C H (.rng a b c) (rngL a c n) fr := fun s v x d => by
  obtain ⟨r, t, u, w, rfl, h1, h2⟩ := of_rng d
  rw [rngL_length]
  refine wpAny_pyIter_range h2 hs ⟨s.heap.objs.size, [], _, _, rfl, (Walks.range x.ok.hh _ a c n).bound, ?_, push_keeps _ _, Nat.le_refl _, ?_, ?_, ?_⟩
  · show IsRangeIter _ _ (a + ((0 : Nat) : Int) * c) ((n : Int) - ((0 : Nat) : Int)) c
    have e1 : a + ((0 : Nat) : Int) * c = a := by simp
    have e2 : (n : Int) - ((0 : Nat) : Int) = n := by simp
    rw [e1, e2, ← hn]
    exact Heap.get?_push_size _ rfl
  · rintro i h h1
    exact ⟨_, h1, _, _, rfl, rfl, by decide, by decide +kernel⟩
  · intro b hb; cases hb
  · rintro i v ⟨hi, t, rfl⟩
    exact ⟨_, rngL_get hi, den_int⟩
variable {R : Fl → Sg → AH → Prop}

/-- the walk's own object is turned: nothing that is read is -/
theorem St.turn {s : Shared} {I : Addr} {h' : Heap} {tk : Nat} (x : St C σ H s) (hI : ∃ o, s.heap.get? I = some o ∧ ItO o) (hb : C.G.h₀.get? I = Option.none)
    (hk : ∀ b o, b ∉ [I] → s.heap.get? b = some o → h'.get? b = some o) : St C σ H { s with heap := h', toks := tk } ∧ ∀ t v, Den s.heap H t v → Den h' H t v := by
  obtain ⟨oI, hoI, hit⟩ := hI
  have ne : ∀ b o, s.heap.get? b = some o → Pl o → b ∉ [I] := fun b o e p q => by
    rw [List.mem_singleton] at q; subst q
    rw [e] at hoI; cases hoI; exact hit.pl p
  have up : ∀ t v, Den s.heap H t v → Den h' H t v := fun t v => Den.mono' (fun b o p e q => ⟨hk b o (ne b o e p) e, q⟩) t v (.inr fun _ q => q)
  have ups : ∀ t v, Dens s.heap H t v → Dens h' H t v := fun t v => Dens.mono' (fun b o p e q => ⟨hk b o (ne b o e p) e, q⟩) t v (.inr fun _ q => q)
  obtain ⟨m, hn, hm⟩ := x.ns
  obtain ⟨oL, es, ep, hoL, hdL, hr⟩ := hn
  have neL : C.env.locals ∉ [I] := fun q => by
    rw [List.mem_singleton] at q
    obtain ⟨vs, n, h1, _⟩ := hit
    rw [q, hoI] at hoL; cases hoL; rw [h1] at hdL; cases hdL
  have neC : ∀ c v, s.heap.IsCell c v → c ∉ [I] := fun c v hc q => by
    rw [List.mem_singleton] at q
    obtain ⟨vs, n, h1, _⟩ := hit
    obtain ⟨o, h2, h3⟩ := hc
    rw [q, hoI] at h2; cases h2; rw [h1] at h3; cases h3
  refine ⟨⟨⟨⟨x.ok, fun b o q => hk b o (fun e => by rw [List.mem_singleton] at e; subst e; rw [hb] at q; cases q) (x.base b o q), fun a ts q => ?_, ?_⟩,
    ⟨m, ⟨oL, es, ep, hk _ _ neL hoL, hdL, hr⟩, fun y t hy hl => let ⟨v, h1, h2⟩ := hm y t hy hl; ⟨v, h1, up _ _ h2⟩⟩, fun y t hy hl => ?_⟩, x.sok, fun y hy => ?_⟩, up⟩
  · obtain ⟨vs, h1, h2⟩ := x.muts a ts q
    obtain ⟨o, p, e⟩ := pl_list h1
    exact ⟨vs, h1.at fun o' e' => hk a o' (ne a o e p) e', ups _ _ h2⟩
  · exact Nat.le_of_lt (Nat.lt_of_le_of_lt x.ok.loc (Heap.lt_size (hk _ _ neL hoL)))
  · obtain ⟨h1, c, v, h2, h3, h4⟩ := x.cells y t hy hl
    obtain ⟨o, h5, h6⟩ := id h3
    exact ⟨h1, c, v, h2, ⟨o, hk c o (neC c _ h3) h5, h6⟩, up _ _ h4⟩
  · obtain ⟨c, v, h2, h3⟩ := x.has y hy
    obtain ⟨o, h5, h6⟩ := id h3
    exact ⟨c, v, h2, ⟨o, hk c o (neC c _ h3) h5, h6⟩⟩

theorem owned_go {M : Model} {A : Around} {E : Value → Shared → Prop} {s : Shared} {target : Expr} {I : Addr} {v : Value} {Q : Unit → Shared → Prop} (hI : ∃ o, s.heap.get? I = some o ∧ ItO o) (q : Q () s) :
    wpAny M A (letOwnedTupleGo target (.ref I) v) Q E s := by
  obtain ⟨o, ho, vs, n, h1, h2, h3, h4⟩ := hI
  have go : wpAny M A (do
      let (.ref r, .ref a) := (Value.ref I, v) | return
      let o ← load r
      match o.cls, o.data with
      | .type n, .fields vs =>
        if ["enumerate", "zip", "dict_itemiterator", "dict_reverseitemiterator", "odict_iterator", "itertools.zip_longest", "itertools.pairwise"].contains n && vs[0]? == some (rawInt a) then
          rule "for.unpacks-the-owned-tuple"
          updateField r 0 .none
      | _, _ => pure () : Sem Unit) Q E s := by
    cases v <;> first | exact wpAny_pure q | skip
    refine wpAny_bind (wpAny_load ho ?_)
    rw [h1, h2]
    show wpAny M A (if (_ && _) = true then _ else _) Q E s
    rw [h4, Bool.false_and, if_neg Bool.false_ne_true]
    exact wpAny_pure q
  unfold letOwnedTupleGo
  cases target <;> first | exact wpAny_pure q | exact go

/-- for x in ..: by what holds of the turn's number -/
theorem ex_for {target iter : Expr} {body : List Stmt} {pos : Pos}
    (h : Ev C iter σ H fun t H₁ => ∃ (ts : List PT) (I : Nat → Sg → AH → Prop), Itr C H₁ t ts true ∧ NMs ts = true ∧ I 0 σ H₁ ∧
      (∀ k u σ H, ts[k]? = some u → I k σ H → Asg C target u σ H fun σ' H' => Exs C body σ' H' fun f σ'' H'' => match f with
        | .next | .cont => I (k + 1) σ'' H''
        | .brk => R .next σ'' H''
        | .ret t => R (.ret t) σ'' H'') ∧
      (∀ σ H, I ts.length σ H → R .next σ H))
    (hs : ∀ x, foldedSetIterable iter C.env x = pure x := by intro _; rfl) : Ex C (.For target iter body [] pos) σ H R := fun s x => by
  refine wpAny_For ((h s x.toSv).then fun v t s₁ H₁ e₁ m₁ d₁ q₁ => ?_) hs
  obtain ⟨ts, I, hi, hnm, h0, turn, fin⟩ := q₁
  have x₁ := x.ext e₁ m₁
  refine wpAny_mono (hi s₁ v x₁.toBs d₁) (fun it s₂ q₂ => ?_) fun _ _ f => f.elim
  obtain ⟨J, fp, Pr, S, rfl, W, hS, hk, hJs, hob, hfp, hit⟩ := q₂
  have hJ : s₁.heap.get? J = Option.none := by
    cases q : s₁.heap.get? J with
    | none => rfl
    | some o => exact absurd (Heap.lt_size q) (Nat.not_lt.mpr hJs)
  have hb : C.G.h₀.get? J = Option.none := by
    cases q : C.G.h₀.get? J with
    | none => rfl
    | some o => rw [x₁.base J o q] at hJ; cases hJ
  have k₂ : Kp C s₁ H₁ s₂ H₁ := Kp.of_ext (Ext.of_keeps H₁ hk)
  have x₂ : St C σ H₁ s₂ := x₁.ext (Ext.of_keeps H₁ hk) ((Ext.of_keeps H₁ hk).muts m₁)
  refine codeAny_forLoop_any (fun k s' => ∃ i σ' H', i ≤ ts.length ∧ k = ts.length + 1 - i ∧ I i σ' H' ∧ St C σ' H' s' ∧ S i s'.heap ∧ Kp C s₁ H₁ s' H') (fun k s' hI => ?_) (ts.length + 1)
    ⟨0, σ, H₁, Nat.zero_le _, rfl, h0, x₂, hS, k₂⟩
  obtain ⟨i, σ', H', hle, rfl, hI, x', hS', k'⟩ := hI
  have hob' := hob i _ hS'
  have step : ∀ h' tk, (∀ b o, b ∉ [J] → s'.heap.get? b = some o → h'.get? b = some o) → St C σ' H' { s' with heap := h', toks := tk } ∧ Kp C s₁ H₁ { s' with heap := h', toks := tk } H' := fun h' tk hk' => by
    refine ⟨(x'.turn hob' hb hk').1, ?_, fun b o e f => ?_, fun b o e => ?_, k'.frz, k'.frn⟩
    · obtain ⟨h2, t2, rfl⟩ := k'.same
      exact ⟨h', tk, rfl⟩
    · exact hk' b o (fun q => by rw [List.mem_singleton] at q; subst q; rw [hJ] at e; cases e) (k'.keep b o e f)
    · obtain ⟨o', e'⟩ := k'.alive b o e
      exact ⟨o', hk' b o' (fun q => by rw [List.mem_singleton] at q; subst q; rw [hJ] at e; cases e) e'⟩
  by_cases hlt : i < ts.length
  · refine W.item i _ _ _ hlt hS' fun w h' tk hP hS'' hk' => ?_
    obtain ⟨xa, ka⟩ := step h' tk hk'
    obtain ⟨u, hu, hd⟩ := hit i w hP
    have nmu : NM u = true := nm_get hnm hu
    have hda : Den h' H' u w := den_keep x₁ ka (.inl nmu) hd
    have hoba : ∃ o, h'.get? J = some o ∧ ItO o := hob (i + 1) _ hS''
    refine owned_go hoba ?_
    refine wpAny_mono (turn i u σ' H' hu hI { s' with heap := h', toks := tk } w xa hda) (fun _ sc qc => ?_) fun _ _ f => f.elim
    obtain ⟨σc, Hc, xc, kc, qc⟩ := qc
    refine wpAny_mono (qc sc xc) (fun fl sd qd => ?_) fun _ _ f => f.elim
    obtain ⟨f, σd, Hd, xd, kd, fd, rd⟩ := qd
    have kad := kc.trans kd
    have hSd : S (i + 1) sd.heap := by
      refine W.frame _ _ _ hS'' fun b hb' o e => kad.keep b o e ?_
      rcases List.mem_cons.mp hb' with rfl | hb'
      · obtain ⟨oJ, hoJ, hitJ⟩ := hoba
        refine ⟨fun q => ?_, fun _ y hy hc => ?_, .inl ?_⟩
        · obtain ⟨_, ⟨o', es, ep, ho', hd', _⟩, _⟩ := xa.ns
          obtain ⟨vs, n, h1, _⟩ := hitJ
          rw [← q] at ho'
          have : (oJ : Obj) = o' := Option.some.inj (hoJ.symm.trans ho')
          rw [← this, h1] at hd'; cases hd'
        · obtain ⟨c, v, h1, h2⟩ := xa.has y hy
          rw [h1] at hc; cases hc
          obtain ⟨o', ho', hd'⟩ := h2
          obtain ⟨vs, n, h1', _⟩ := hitJ
          have : (oJ : Obj) = o' := Option.some.inj (hoJ.symm.trans ho')
          rw [← this, h1'] at hd'; cases hd'
        · cases q : H' b with
          | none => rfl
          | some us =>
            obtain ⟨vs, h1, _⟩ := xa.muts b us q
            obtain ⟨o', p', e'⟩ := pl_list h1
            have : (oJ : Obj) = o' := Option.some.inj (hoJ.symm.trans e')
            exact absurd (this ▸ p') hitJ.pl
      · obtain ⟨⟨o', p', e'⟩, hfr⟩ := hfp b hb'
        have f₁ : Fz C H₁ b := by
          obtain ⟨m, hn, _⟩ := x₁.ns
          refine ⟨ns_ne hn p' e', fun _ y hy hc => ?_, hfr rfl⟩
          obtain ⟨c, v, h1, h2⟩ := x₁.has y hy
          rw [h1] at hc; cases hc
          exact cell_ne h2 p' e' rfl
        exact f₁.step ka e'
    have kall := (Kp.of_ext e₁).trans (ka.trans kad)
    cases f with
    | next => simp only [FlD] at fd; subst fd; exact ⟨ts.length + 1 - (i + 1), by omega, i + 1, σd, Hd, hlt, rfl, rd, xd, hSd, ka.trans kad⟩
    | cont => simp only [FlD] at fd; subst fd; exact ⟨ts.length + 1 - (i + 1), by omega, i + 1, σd, Hd, hlt, rfl, rd, xd, hSd, ka.trans kad⟩
    | brk => simp only [FlD] at fd; subst fd; exact ⟨.next, σd, Hd, xd, kall, rfl, rd⟩
    | ret t => simp only [FlD] at fd; obtain ⟨v, rfl, hv⟩ := fd; exact ⟨.ret t, σd, Hd, xd, kall, ⟨v, rfl, hv⟩, rd⟩
  · have hin : i = ts.length := by omega
    subst hin
    refine W.done _ _ _ hS' fun h' tk hk' => ?_
    obtain ⟨xa, ka⟩ := step h' tk hk'
    exact wpAny_execs_nil ⟨.next, σ', H', xa, (Kp.of_ext e₁).trans ka, rfl, fin σ' H' hI⟩
end


/-- the names of a frame at its start -/
def upds : List Str → List PT → Sg → Sg
  | x :: xs, t :: ts, σ => upds xs ts (upd σ x t)
  | _, _, σ => σ
def σ0 : Sg := fun _ => Option.none

/-- the context of a def's body -/
def mkC (G : Gx) (A : Around) (name : Str) (scope : Scope) (f : Addr) (cd : Value) (L d : Nat) : Cx :=
  ⟨G, A, envOfC name scope L f cd, L, d, true⟩

mutual
/-- the lists that a call has made for itself are read off at its end -/
inductive Res (H' H : AH) : PT → PT → Prop where
  | nm {t : PT} : NM t = true → Res H' H t t
  | frn {a : Addr} : H a ≠ Option.none → Res H' H (.mut a) (.mut a)
  | tup {ts us : List PT} : Ress H' H ts us → Res H' H (.tup ts) (.tup us)
  | lst {ts us : List PT} : Ress H' H ts us → Res H' H (.lst ts) (.lst us)
  | mut {a : Addr} {ts us : List PT} : H a = Option.none → H' a = some ts → Ress H' H ts us → Res H' H (.mut a) (.lst us)
inductive Ress (H' H : AH) : List PT → List PT → Prop where
  | nil : Ress H' H [] []
  | cons {t u : PT} {ts us : List PT} : Res H' H t u → Ress H' H ts us → Ress H' H (t :: ts) (u :: us)
end

theorem Ress.nms {H' H : AH} : ∀ {ts : List PT}, NMs ts = true → Ress H' H ts ts
  | [], _ => .nil
  | t :: ts, h => by simp only [NMs, Bool.and_eq_true] at h; exact .cons (.nm h.1) (Ress.nms h.2)

mutual
theorem Res.den {h : Heap} {H' H : AH} (m : Muts h H') (hf : ∀ a, H' a = Option.none → H a = Option.none) :
    ∀ {t u : PT} {v : Value}, Res H' H t u → Den h H' t v → Den h H u v
  | _, _, v, .nm q, d => Den.mono' (fun a o _ e z => ⟨e, hf a z⟩) _ v (.inl q) d
  | _, _, _, .frn q, d => by
    obtain ⟨rfl, _⟩ := of_mut d
    simp only [Den]; exact ⟨trivial, q⟩
  | _, _, _, .tup q, d => by
    obtain ⟨a, vs, rfl, h1, h2, h3⟩ := of_tup d
    simp only [Den]; exact ⟨a, vs, rfl, hf a h1, h2, Ress.dens m hf q h3⟩
  | _, _, _, .lst q, d => by
    obtain ⟨a, vs, rfl, h1, h2, h3⟩ := of_lst d
    simp only [Den]; exact ⟨a, vs, rfl, hf a h1, h2, Ress.dens m hf q h3⟩
  | _, _, _, .mut (a := a) q1 q2 q3, d => by
    obtain ⟨rfl, _⟩ := of_mut d
    obtain ⟨vs, h1, h2⟩ := m a _ q2
    simp only [Den]; exact ⟨a, vs, rfl, q1, h1, Ress.dens m hf q3 h2⟩
theorem Ress.dens {h : Heap} {H' H : AH} (m : Muts h H') (hf : ∀ a, H' a = Option.none → H a = Option.none) :
    ∀ {t u : List PT} {v : List Value}, Ress H' H t u → Dens h H' t v → Dens h H u v
  | _, _, _, .nil, d => by cases of_nil d; exact dens_nil
  | _, _, _, .cons q1 q2, d => by
    obtain ⟨v, r, rfl, h1, h2⟩ := of_cons d
    exact dens_cons (Res.den m hf q1 h1) (Ress.dens m hf q2 h2)
end

/-- a def, by what it gives back -/
def Fn (G : Gx) (d : Nat) (f : Addr) (ts : List PT) (H : AH) (Q : PT → Prop) : Prop :=
  (∃ o fd, G.h₀.get? f = some o ∧ o.data = .func fd) ∧
  ∀ (A : Around) (s : Shared) (vs : List Value), GOk G → A.handled = Option.none → A.depth + d ≤ 900 → A.units + 10 * d ≤ 9000 → G.h₀.objs.size ≤ s.heap.objs.size → (∀ b o, G.h₀.get? b = some o → s.heap.get? b = some o) →
    Muts s.heap H → Dens s.heap H ts vs →
    codeAny (model G.prog G.w) A (.call (.ref f) ⟨vs, []⟩) (fun r s' => ∃ v u, r = .ok (.ret v) ∧ Keeps s s' ∧ Den s'.heap H u v ∧ Q u) s

theorem Fn.mono {G : Gx} {d : Nat} {f : Addr} {ts : List PT} {H : AH} {Q Q' : PT → Prop} (h : Fn G d f ts H Q) (k : ∀ u, Q u → Q' u) : Fn G d f ts H Q' :=
  ⟨h.1, fun A s vs a b c e e' f' m q => codeAny_mono (h.2 A s vs a b c e e' f' m q) fun r s' ⟨v, u, h1, h2, h3, h4⟩ => ⟨v, u, h1, h2, h3, k u h4⟩⟩

theorem upds_bind {h : Heap} {H : AH} (k : Str → Option NameKind) : ∀ (xs : List Str) (ts : List PT) (vs : List Value) (σ : Sg) (m cm : Str → Option Value), Dens h H ts vs →
    (∀ x t, σ x = some t → (k x = some .local → ∃ v, m x = some v ∧ Den h H t v) ∧ (k x ≠ some .local → ∃ v, cm x = some v ∧ Den h H t v)) →
    ∀ x t, upds xs ts σ x = some t → (k x = some .local → ∃ v, bindL k (xs.zip vs) m x = some v ∧ Den h H t v) ∧ (k x ≠ some .local → ∃ v, bindC k (xs.zip vs) cm x = some v ∧ Den h H t v)
  | [], ts, vs, σ, m, cm, d, hσ => by intro x t e; simpa [upds, bindL, bindC] using hσ x t (by simpa [upds] using e)
  | y :: xs, [], vs, σ, m, cm, d, hσ => by
    cases of_nil d
    intro x t e; simpa [upds, bindL, bindC] using hσ x t (by simpa [upds] using e)
  | y :: xs, u :: ts, vs, σ, m, cm, d, hσ => by
    obtain ⟨w, r, rfl, h1, h2⟩ := of_cons d
    intro x t e
    refine upds_bind k xs ts r (upd σ y u) (if k y = some .local then fun z => if z = y then some w else m z else m) (if k y = some .local then cm else fun z => if z = y then some w else cm z) h2 (fun x t e => ?_) x t e
    by_cases q : x = y
    · subst q
      rw [upd_same] at e; cases e
      refine ⟨fun hl => ⟨w, ?_, h1⟩, fun hl => ⟨w, ?_, h1⟩⟩
      · rw [if_pos hl]; simp
      · rw [if_neg hl]; simp
    · rw [upd, if_neg q] at e
      refine ⟨fun hl => ?_, fun hl => ?_⟩
      · obtain ⟨v, h3, h4⟩ := (hσ x t e).1 hl
        refine ⟨v, ?_, h4⟩
        split
        · simp [q, h3]
        · exact h3
      · obtain ⟨v, h3, h4⟩ := (hσ x t e).2 hl
        refine ⟨v, ?_, h4⟩
        split
        · exact h3
        · simp [q, h3]

/-- kinds of a def's parameters -/
def parOk (scope : Scope) (xs : List Str) : Bool := xs.all fun y => scope.names.lookup y == some .local || scope.names.lookup y == some .cell
theorem upds_dom : ∀ (xs : List Str) (ts : List PT) (σ : Sg) (x : Str) (t : PT), upds xs ts σ x = some t → x ∈ xs ∨ σ x = some t
  | [], _, _, _, _, e => .inr (by simpa [upds] using e)
  | _ :: _, [], _, _, _, e => .inr (by simpa [upds] using e)
  | y :: xs, u :: ts, σ, x, t, e => by
    rcases upds_dom xs ts (upd σ y u) x t e with h | h
    · exact .inl (.tail _ h)
    · by_cases q : x = y
      · exact .inl (q ▸ .head _)
      · rw [upd, if_neg q] at h; exact .inr h

theorem fn_of_body {G : Gx} {d : Nat} {f : Addr} {o : Obj} {name : Str} {params : Arguments} {body : List Stmt} {scope : Scope} {pm cd doc : Value} {xs : List Str} {ts : List PT} {H : AH} {Q : PT → Prop}
    (ho : G.h₀.get? f = some o) (hd : o.data = .func (Calls.docDef name params body scope pm cd doc)) (hcd : G.h₀.CodeRec cd name)
    (hbind : ∀ vs, vs.length = ts.length → bindArgs (Calls.docDef name params body scope pm cd doc) ⟨vs, []⟩ = pure (xs.zip vs)) (hpar : parOk scope xs = true) (hlen : ts.length = xs.length)
    (h : ∀ A L, Exs (mkC G A name scope f cd L d) body (upds xs ts σ0) H fun fl σ' H' => ∃ t u, fl = .ret t ∧ Res H' H t u ∧ Q u)
    (hco : scope.isCoroutine = false := by rfl) (hgen : scope.isGenerator = false := by rfl) (hk : scope.kind = .function := by rfl) : Fn G (d + 1) f ts H Q := by
  refine ⟨⟨o, _, ho, hd⟩, fun A s vs g hh hde hu hsz hb hm hv => ?_⟩
  have hkind : ((xs.zip vs).all fun y => scope.names.lookup y.1 == some .local || scope.names.lookup y.1 == some .cell) = true := by
    rw [List.all_eq_true]
    intro y hy
    exact List.all_eq_true.mp hpar y.1 (List.of_mem_zip hy).1
  refine codeAny_call_cells (fd := Calls.docDef name params body scope pm cd doc) (body := body) (binds := xs.zip vs) (by show A.depth < 1000; omega) (hb _ _ ho) hd (g.nolimit.keeps hb) (hcd.keeps hb) rfl
    (hbind vs hv.length) rfl (kindsX hkind _) (fun s₁ x => ?_) hco hgen hk
  have hce : callEnvC (Calls.docDef name params body scope pm cd doc) s.heap.objs.size f = envOfC name scope s.heap.objs.size f cd := rfl
  rw [hce] at x ⊢
  have kp : Keeps s s₁ := by
    obtain ⟨h', tk, e⟩ := x.toInCall.same
    exact ⟨h', tk, e, fun b o q => by have := x.toInCall.keep b o q; rw [e] at this; exact this⟩
  have ex : Ext s H s₁ H := Ext.of_keeps H kp
  have hcells : ∀ y, (envOfC name scope s.heap.objs.size f cd).kindOf y = some .cell → ∃ c, (envOfC name scope s.heap.objs.size f cd).cells.lookup y = some c := fun y hy =>
    Option.isSome_iff_exists.mp (cellsFrom_some scope.names _ [] (.inl hy))
  have st : St (mkC G (A.deeper (envOfC name scope s.heap.objs.size f cd)) name scope f cd s.heap.objs.size d) (upds xs ts σ0) H s₁ := by
    have key := upds_bind (envOfC name scope s.heap.objs.size f cd).kindOf xs ts vs σ0 (fun _ => Option.none) (fun _ => Option.none) (ex.dens hv) (fun x t e => by cases e)
    refine ⟨⟨⟨⟨g, hh, ?_, ?_, hk, rfl, rfl, hsz, Nat.le_refl _⟩, fun b o q => Keeps.get kp (hb b o q), ex.muts hm, ?_⟩, ⟨_, x.toInCall.ns, fun y t e hl => (key y t e).1 hl⟩, fun y t e hl => ?_⟩, ⟨fun _ y c _ hc => ?_, fun _ y z c h1 h2 => ?_⟩, fun y hy => ?_⟩
    · show A.depth + 1 + d ≤ 900; omega
    · show A.units + 3 + 10 * d ≤ 9000; omega
    · obtain ⟨o', _, _, ho', _⟩ := x.toInCall.ns
      exact Nat.le_of_lt (Heap.lt_size ho')
    · obtain ⟨v, h1, h2⟩ := (key y t e).2 hl
      have hy : y ∈ xs := (upds_dom xs ts σ0 y t e).resolve_right (by intro q; cases q)
      have hkk : (envOfC name scope s.heap.objs.size f cd).kindOf y = some .cell := by
        have q := List.all_eq_true.mp hpar y hy
        rcases Bool.or_eq_true_iff.mp q with q | q
        · exact absurd (show scope.names.lookup y = some .local by simpa using q) hl
        · show scope.names.lookup y = some .cell
          simpa using q
      obtain ⟨c, hc⟩ := hcells y hkk
      refine ⟨.inl hkk, c, v, hc, ?_, h2⟩
      have := x.cell y c hc
      rw [h1] at this
      exact this
    · exact Nat.le_of_lt (x.above y c (mem_of_lookup hc))
    · exact name_of_addr x.apart (mem_of_lookup h1) (mem_of_lookup h2)
    · obtain ⟨c, hc⟩ := hcells y hy
      exact ⟨c, _, hc, x.cell y c hc⟩
  refine wpAny_mono (h (A.deeper (envOfC name scope s.heap.objs.size f cd)) s.heap.objs.size s₁ st) (fun fl s' p => ?_) fun _ _ f => f.elim
  obtain ⟨fl', σ', H', st', kp', fd, t, u, rfl, hr, q⟩ := p
  obtain ⟨v, rfl, hd⟩ := fd
  have mlt : ∀ a ts, H a = some ts → a < s.heap.objs.size := fun a ts e => by
    obtain ⟨vs', ⟨_, h1⟩, _⟩ := hm a ts e
    exact Heap.lt_size h1
  refine ⟨v, u, rfl, ?_, hr.den st'.muts (fun a ha => ?_) hd, q⟩
  · have all : ∀ b o, s.heap.get? b = some o → s'.heap.get? b = some o := fun b o q => by
      have hlt := Heap.lt_size q
      refine kp'.keep b o (Keeps.get kp q) ⟨Nat.ne_of_lt hlt, fun _ y hy hc => ?_, .inr hlt⟩
      exact absurd (x.above y b (mem_of_lookup hc)) (Nat.not_lt.mpr (Nat.le_of_lt hlt))
    obtain ⟨h1, t1, rfl, _⟩ := kp
    obtain ⟨h', tk, rfl⟩ := kp'.same
    exact ⟨h', tk, rfl, all⟩
  · cases z : H a with
    | none => rfl
    | some ts => rw [kp'.frn a ts z (mlt a ts z)] at ha; cases ha

section
variable {C : Cx} {σ : Sg} {H : AH} {Q : PT → AH → Prop}
theorem cal_fn {f : Addr} {ts : List PT} (d : Nat) (h : Fn C.G d f ts H fun u => Q u H) (hd : d ≤ C.d) : Cal C (.oth (.ref f)) ts H Q := fun s v vs x hv hvs => by
  cases of_oth hv
  obtain ⟨⟨o, fd, ho, hdat⟩, k⟩ := h
  have := x.ok.depth
  have := x.ok.units
  refine ⟨⟨.frame, .inl rfl, ?_⟩, ?_⟩
  · have ho' := x.base f o ho
    refine (Looks.ld (part := Option.none) ho').andThen ?_
    rw [hdat]
    exact .now
  · refine wpAny_call (codeAny_mono (k C.A s vs x.ok.G x.ok.hh (by omega) (by omega) (Nat.le_trans x.ok.low x.lo) x.base x.muts hvs) fun r s' p => ?_)
    obtain ⟨v, u, rfl, h1, h2, h3⟩ := p
    exact ⟨H, u, Ext.of_keeps H h1, (Ext.of_keeps H h1).muts x.muts, h2, h3⟩
end


/-- the cells that a comprehension closes over -/
def clo (names : List (Str × NameKind)) (env : Env) (acc : List (Str × Addr)) : List (Str × Addr) := match names with
  | [] => acc
  | (n, k) :: r => if k == .free then clo r env ((n, (env.cells.lookup n).getD 0) :: acc) else clo r env acc

theorem closure_go {env : Env} : ∀ (names : List (Str × NameKind)) (acc : List (Str × Addr)), (∀ n, (n, NameKind.free) ∈ names → (env.cells.lookup n).isSome = true) →
    (forIn names acc fun (x : Str × NameKind) (r : List (Str × Addr)) => (match x with | (name, kind) => if (kind == NameKind.free) = true then do let a ← cellOf env name; pure (ForInStep.yield ((name, a) :: r)) else pure (ForInStep.yield r) : Sem (ForInStep (List (Str × Addr))))) = pure (clo names env acc)
  | [], acc, _ => rfl
  | (n, k) :: r, acc, h => by
    rw [List.forIn_cons]
    cases hk : (k == NameKind.free) with
    | true =>
      have hk' : k = .free := by simpa using hk
      obtain ⟨c, hc⟩ := Option.isSome_iff_exists.mp (h n (by rw [hk']; exact .head _))
      have e1 : cellOf env n = pure c := by unfold cellOf; rw [hc]
      have ih := closure_go r ((n, c) :: acc) fun m hm => h m (.tail _ hm)
      simp only [hk, if_true, e1, pure_bind]
      rw [show clo ((n, k) :: r) env acc = clo r env ((n, c) :: acc) by simp [clo, hk, hc]]
      exact ih
    | false =>
      have ih := closure_go r acc fun m hm => h m (.tail _ hm)
      simp only [hk, Bool.false_eq_true, if_false, pure_bind]
      rw [show clo ((n, k) :: r) env acc = clo r env acc by simp [clo, hk]]
      exact ih
theorem closure_is {env : Env} {scope : Scope} (h : ∀ n, (n, NameKind.free) ∈ scope.names → (env.cells.lookup n).isSome = true) : closureFor scope env = pure (clo scope.names env []) := by
  have := closure_go scope.names [] h
  unfold closureFor
  exact (congrArg (fun t => t >>= fun cs => pure cs) this)
theorem clo_lookup {env : Env} {x : Str} {c : Addr} (hc : env.cells.lookup x = some c) : ∀ (names : List (Str × NameKind)) (acc : List (Str × Addr)),
    ((x, NameKind.free) ∈ names ∨ acc.lookup x = some c) → (clo names env acc).lookup x = some c
  | [], acc, h => by
    rcases h with h | h
    · cases h
    · exact h
  | (n, k) :: r, acc, h => by
    unfold clo
    by_cases q : x = n
    · subst q
      split
      · exact clo_lookup hc r _ (.inr (by simp [hc]))
      · rename_i hk
        refine clo_lookup hc r _ (h.imp (fun m => ?_) id)
        rcases List.mem_cons.mp m with e | e
        · cases e; exact absurd rfl hk
        · exact e
    · have qb : (x == n) = false := by simpa using q
      have nx : (x, NameKind.free) ∈ (n, k) :: r → (x, NameKind.free) ∈ r := fun m => by
        rcases List.mem_cons.mp m with e | e
        · cases e; exact absurd rfl q
        · exact e
      split
      · exact clo_lookup hc r _ (h.imp nx fun e => by rw [List.lookup_cons, qb]; exact e)
      · exact clo_lookup hc r _ (h.imp nx id)

/-- what a comprehension sees of the names around it -/
def frees (scope : Scope) : List Str := (scope.names.filter fun p => p.2 == .free).map (·.1)
def σc (scope : Scope) (σ : Sg) : Sg := fun x => if x ∈ frees scope then σ x else Option.none
def FvOk (C : Cx) (σ : Sg) : List Str → Prop
  | [] => True
  | x :: xs => (∃ t, σ x = some t) ∧ C.env.kindOf x ≠ some .local ∧ FvOk C σ xs
theorem FvOk.mem {C : Cx} {σ : Sg} : ∀ {xs : List Str}, FvOk C σ xs → ∀ x ∈ xs, (∃ t, σ x = some t) ∧ C.env.kindOf x ≠ some .local
  | _ :: _, h, _, .head _ => ⟨h.1, h.2.1⟩
  | _ :: _, h, x, .tail _ m => FvOk.mem h.2.2 x m
theorem mem_frees {scope : Scope} {n : Str} (h : (n, NameKind.free) ∈ scope.names) : n ∈ frees scope :=
  List.mem_map.mpr ⟨(n, .free), List.mem_filter.mpr ⟨h, rfl⟩, rfl⟩
theorem of_frees {scope : Scope} {n : Str} (h : n ∈ frees scope) : (n, NameKind.free) ∈ scope.names := by
  obtain ⟨⟨m, k⟩, h1, rfl⟩ := List.mem_map.mp h
  obtain ⟨h2, h3⟩ := List.mem_filter.mp h1
  have : k = .free := by simpa using h3
  rw [← this]; exact h2

/-- the context of a comprehension -/
def cmpC (C : Cx) (scope : Scope) (L lo : Nat) : Cx := ⟨C.G, C.A, compEnvC scope (clo scope.names C.env []) L C.env, lo, C.d, false⟩

def Tsts (C : Cx) (ifs : List Expr) (σ : Sg) (H : AH) (Q : Bool → AH → Prop) : Prop := ∀ s, Sv C σ H s →
  wpAny C.M C.A (forIn ifs true fun c r => if r = true then do let ok ← isTrue c C.env (eval c C.env); pure (ForInStep.yield ok) else pure (ForInStep.yield r)) (postB s H Q) no s
theorem tsts_nil {C : Cx} {σ : Sg} {H : AH} {Q : Bool → AH → Prop} (q : Q true H) : Tsts C [] σ H Q := fun s x => by
  rw [List.forIn_nil]
  exact wpAny_pure (postB.same x.muts q)
theorem tsts_one {C : Cx} {c : Expr} {σ : Sg} {H : AH} {Q : Bool → AH → Prop} (h : Ts C c σ H Q) : Tsts C [c] σ H Q := fun s x => by
  rw [List.forIn_cons]
  simp only [if_true]
  refine wpAny_bind (wpAny_bind (wpAny_mono (h s x) (fun b s' p => wpAny_pure ?_) fun _ _ f => f))
  dsimp only
  rw [List.forIn_nil]
  exact wpAny_pure p

/-- a new list -/
def postA (lo : Nat) (s : Shared) (H : AH) (Q : List PT → AH → Prop) (v : Value) (s' : Shared) : Prop :=
  ∃ H' a us vs, v = .ref a ∧ lo ≤ a ∧ s.heap.get? a = Option.none ∧ Ext s H s' H' ∧ H' a = Option.none ∧ s'.heap.PlainList a vs ∧ Muts s'.heap H' ∧ Dens s'.heap H' us vs.toList ∧ Muts s'.heap (hup H' a us) ∧ Q us H'
def EvA (C : Cx) (e : Expr) (σ : Sg) (H : AH) (Q : List PT → AH → Prop) : Prop := ∀ s, Sv C σ H s → wpAny C.M C.A (eval e C.env) (postA C.lo s H Q) no s

theorem postA.frz {s : Shared} {H : AH} {Q : PT → AH → Prop} {v : Value} {s' : Shared} {lo : Nat} (p : postA lo s H (fun us H' => Q (.lst us) H') v s') : postW s H Q v s' := by
  obtain ⟨H', a, us, vs, rfl, _, _, e, h1, h2, m, d, _, q⟩ := p
  exact ⟨H', .lst us, e, m, by simp only [Den]; exact ⟨a, vs, rfl, h1, h2, d⟩, q⟩
theorem postA.trk {s : Shared} {H : AH} {Q : PT → AH → Prop} {v : Value} {s' : Shared} {lo : Nat} (p : postA lo s H (fun us H' => ∀ a, H' a = Option.none → lo ≤ a → Q (.mut a) (hup H' a us)) v s') : postW s H Q v s' := by
  obtain ⟨H', a, us, vs, rfl, hlo, gone, e, h1, h2, m, d, m', q⟩ := p
  refine ⟨hup H' a us, .mut a, ⟨e.keeps, fun b ts q' => ?_, fun b q1 q2 => ?_⟩, m', by simp only [Den]; exact ⟨trivial, by rw [hup_same]; simp⟩, q a h1 hlo⟩
  · have : b ≠ a := by rintro rfl; rw [e.old b ts q'] at h1; cases h1
    exact hup_ne this (e.old b ts q')
  · by_cases z : b = a
    · rw [z]; exact gone
    · rw [hup, if_neg z] at q2; exact e.new b q1 q2
theorem ev_frz {C : Cx} {e : Expr} {σ : Sg} {H : AH} {Q : PT → AH → Prop} (h : EvA C e σ H fun us H' => Q (.lst us) H') : Ev C e σ H Q := fun s x =>
  wpAny_mono (h s x) (fun _ _ p => p.frz) fun _ _ f => f
theorem ev_trk {C : Cx} {e : Expr} {σ : Sg} {H : AH} {Q : PT → AH → Prop} (h : EvA C e σ H fun us H' => ∀ a, H' a = Option.none → C.lo ≤ a → Q (.mut a) (hup H' a us)) : Ev C e σ H Q := fun s x =>
  wpAny_mono (h s x) (fun _ _ p => p.trk) fun _ _ f => f

/-- a new list at the heap's end -/
theorem postA.push {s : Shared} {H : AH} {Q : List PT → AH → Prop} {us : List PT} {vs : Array Value} {tk lo : Nat} (hlo : lo ≤ s.heap.objs.size) (m : Muts s.heap H) (d : Dens s.heap H us vs.toList) (q : Q us H) :
    postA lo s H Q (.ref s.heap.objs.size) { s with heap := s.heap.push { cls := .type "list", data := .seq vs }, toks := tk } := by
  have k : Keeps s { s with heap := s.heap.push { cls := .type "list", data := .seq vs }, toks := tk } := ⟨_, tk, rfl, fun b o' e => Heap.get?_push_of_some _ e⟩
  have e := Ext.of_keeps H k
  have hn : H s.heap.objs.size = Option.none := by
    cases z : H s.heap.objs.size with
    | none => rfl
    | some ts =>
      obtain ⟨_, ⟨_, h1⟩, _⟩ := m _ ts z
      exact absurd (Heap.lt_size h1) (Nat.lt_irrefl _)
  have hl : (s.heap.push { cls := .type "list", data := .seq vs }).PlainList s.heap.objs.size vs := ⟨0, Heap.get?_push_size _ rfl⟩
  have up : ∀ t v, Dens s.heap H t v → Dens (s.heap.push { cls := .type "list", data := .seq vs }) (hup H s.heap.objs.size us) t v := fun t v => Dens.mono' (fun b o _ e q => by
    have : b ≠ s.heap.objs.size := Nat.ne_of_lt (Heap.lt_size e)
    exact ⟨Heap.get?_push_of_some _ e, hup_ne this q⟩) t v (.inr fun b q => by
      by_cases z : b = s.heap.objs.size
      · rw [z, hup_same]; simp
      · rw [hup_ne z rfl]; exact q)
  refine ⟨H, s.heap.objs.size, us, vs, rfl, hlo, get_size_none _, e, hn, hl, e.muts m, e.dens d, fun b ts z => ?_, q⟩
  by_cases w : b = s.heap.objs.size
  · subst w
    rw [hup_same] at z; cases z
    exact ⟨vs, hl, up _ _ d⟩
  · rw [hup, if_neg w] at z
    obtain ⟨ws, h1, h2⟩ := m b ts z
    exact ⟨ws, h1.at fun o e => Heap.get?_push_of_some _ e, up _ _ h2⟩

theorem postA.before {lo : Nat} {s s₁ : Shared} {H H₁ : AH} {Q : List PT → AH → Prop} {v : Value} {s' : Shared} (e : Ext s H s₁ H₁) (p : postA lo s₁ H₁ Q v s') : postA lo s H Q v s' := by
  obtain ⟨H', a, us, vs, h0, h1, h2, h3, h4, h5, h6, h7, h8, h9⟩ := p
  refine ⟨H', a, us, vs, h0, h1, ?_, e.trans h3, h4, h5, h6, h7, h8, h9⟩
  cases z : s.heap.get? a with
  | none => rfl
  | some o => rw [Keeps.get e.keeps z] at h2; cases h2

theorem Sv.less {C : Cx} {σ σ' : Sg} {H : AH} {s : Shared} (h : ∀ x t, σ' x = some t → σ x = some t) (x : Sv C σ H s) : Sv C σ' H s :=
  ⟨x.toBs, let ⟨m, h1, h2⟩ := x.ns; ⟨m, h1, fun y t e => h2 y t (h y t e)⟩, fun y t e => x.cells y t (h y t e)⟩
theorem St.less {C : Cx} {σ σ' : Sg} {H : AH} {s : Shared} (h : ∀ x t, σ' x = some t → σ x = some t) (x : St C σ H s) : St C σ' H s := ⟨x.toSv.less h, x.sok, x.has⟩

/-- a turn of a comprehension, whatever its target -/
theorem compLoop_any {prog : Program} {w : World} {A : Around} {R : Result → Shared → Prop} {s : Shared} {elt target iter : Expr} {ifs : List Expr} {scope : Scope} {pos : Pos} {it acc : Value} {env : Env} (I : Nat → Shared → Prop)
    (turn : ∀ n s, I n s → wpAny (model prog w) A (pyNext it) (fun r s₁ => match r with
      | Option.none => R (.ok .next) s₁
      | some v => wpAny (model prog w) A (letOwnedTupleGo target it v) (fun _ s₁' => wpAny (model prog w) A (assign target env v) (fun _ s₂ =>
          wpAny (model prog w) A (forIn ifs true fun c r => if r = true then do let ok ← isTrue c env (eval c env); pure (ForInStep.yield ok) else pure (ForInStep.yield r)) (fun ok s₃ =>
            if ok = true then wpAny (model prog w) A (eval elt env) (fun x s₄ =>
              wpAny (model prog w) A (call (.builtin "list.append") [acc, x]) (fun _ s₅ => ∃ m, m < n ∧ I m s₅) no s₄) no s₃
            else ∃ m, m < n ∧ I m s₃) no s₂) no s₁') no s₁) no s)
    (n : Nat) (h : I n s) : codeAny (model prog w) A (.compLoop (.ListComp elt [⟨target, iter, ifs, 0⟩] scope pos) 0 it acc env) R s := by
  refine codeAny_loop rfl I (fun n s hI => ?_) n h
  show wpAny _ A ((compTurn (.ListComp elt [⟨target, iter, ifs, 0⟩] scope pos) 0 it acc env).onRaise (fun x => do noteFrame x env; theTreesLotGoes x)) _ _ s
  refine wpAny_noted ?_
  rw [compTurn_list]
  have dn : ∀ {α : Type} {E' : Value → Shared → Prop} {t : Sem α} {Q Q' : α → Shared → Prop} {s : Shared}, wpAny (model prog w) A t Q no s → (∀ a s, Q a s → Q' a s) → wpAny (model prog w) A t Q' E' s :=
    fun h k => wpAny_mono h k fun _ _ f => f.elim
  refine wpAny_bind (wpAny_standAt (wpAny_bind (dn (turn n s hI) fun r s₁ h₁ => ?_)))
  cases r with
  | none => exact wpAny_pure h₁
  | some v =>
    refine wpAny_bind (dn h₁ fun _ s₁' h₁' => ?_)
    refine wpAny_bind (dn h₁' fun _ s₂ h₂ => wpAny_bind (dn h₂ fun ok s₃ h₃ => ?_))
    cases ok with
    | false => exact wpAny_pure ⟨rfl, h₃⟩
    | true =>
      refine wpAny_bind (wpAny_bind (dn h₃ fun x s₄ h₄ => wpAny_bind (dn h₄ fun _ s₅ h₅ => ?_)))
      exact wpAny_pure (wpAny_pure ⟨rfl, h₅⟩)


/-- what a comprehension's turn must give: g k is its item, if any -/
def CTurn (C : Cx) (target elt : Expr) (ifs : List Expr) (σ : Sg) (Hf : AH) (u : PT) (r : Option PT) : Prop :=
  Asg C target u σ Hf fun σ' H' => H' = Hf ∧ (∀ x t, σ x = some t → σ' x = some t) ∧
    Tsts C ifs σ' Hf fun b H₃ => H₃ = Hf ∧ if b = true then Ev C elt σ' Hf fun w H₄ => H₄ = Hf ∧ r = some w else r = Option.none

theorem filterMap_succ {α : Type} (g : Nat → Option α) (i : Nat) : (List.range (i + 1)).filterMap g = (List.range i).filterMap g ++ (g i).toList := by
  rw [List.range_succ, List.filterMap_append]
  cases h : g i <;> simp [h]

theorem comp_loop {C : Cx} {scope : Scope} {L : Nat} {σ : Sg} {H : AH} {s₁ s₄ : Shared} {D I : Addr} {fp : List Addr} {Pr : Nat → Value → Prop} {S : Nat → Heap → Prop} {ts : List PT} {g : Nat → Option PT}
    {elt target iter : Expr} {ifs : List Expr} {scope' : Scope} {pos : Pos} {R : Result → Shared → Prop}
    (W : Walks C.G.prog C.G.w C.A I (I :: fp) [I] ts.length Pr S) (hS : S 0 s₄.heap) (hob : ∀ i h, S i h → ∃ o, h.get? I = some o ∧ ItO o) (hfp : ∀ b ∈ fp, ∃ o, s₁.heap.get? b = some o)
    (hit : ∀ i v, Pr i v → ∃ t, ts[i]? = some t ∧ Den s₁.heap H t v) (hn : ts.length ≤ sizeLine)
    (x₄ : St (cmpC C scope L D) (σc scope σ) (hup H D []) s₄) (hsame : ∃ h tk, s₄ = { s₁ with heap := h, toks := tk }) (hk₄ : ∀ b o, s₁.heap.get? b = some o → s₄.heap.get? b = some o)
    (hI1 : s₁.heap.objs.size ≤ I) (hID : I < D) (hDL : D < L) (hb : C.G.h₀.objs.size ≤ s₁.heap.objs.size) (hHD : H D = Option.none)
    (turn : ∀ k u Hf, ts[k]? = some u → (∀ a us, H a = some us → Hf a = some us) → CTurn (cmpC C scope L D) target elt ifs (σc scope σ) Hf u (g k))
    (fin : ∀ s' us, us = (List.range ts.length).filterMap g → St (cmpC C scope L D) (σc scope σ) (hup H D us) s' → (∃ h tk, s' = { s₁ with heap := h, toks := tk }) → (∀ b o, s₁.heap.get? b = some o → s'.heap.get? b = some o) → R (.ok .next) s') :
    codeAny C.M C.A (.compLoop (.ListComp elt [⟨target, iter, ifs, 0⟩] scope' pos) 0 (.ref I) (.ref D) (cmpC C scope L D).env) R s₄ := by
  refine compLoop_any (fun k s' => ∃ i, i ≤ ts.length ∧ k = ts.length + 1 - i ∧ St (cmpC C scope L D) (σc scope σ) (hup H D ((List.range i).filterMap g)) s' ∧ S i s'.heap ∧
    (∃ h tk, s' = { s₁ with heap := h, toks := tk }) ∧ (∀ b o, s₁.heap.get? b = some o → s'.heap.get? b = some o)) (fun k s' hI => ?_) (ts.length + 1)
    ⟨0, Nat.zero_le _, rfl, by simpa using x₄, hS, hsame, hk₄⟩
  obtain ⟨i, hle, rfl, x', hS', hsm', hk'⟩ := hI
  have hob' := hob i _ hS'
  have hbI : (cmpC C scope L D).G.h₀.get? I = Option.none := by
    cases q : C.G.h₀.get? I with
    | none => exact q
    | some o => exact absurd (Heap.lt_size q) (Nat.not_lt.mpr (Nat.le_trans hb hI1))
  by_cases hlt : i < ts.length
  · refine W.item i _ _ _ hlt hS' fun w h' tk hP hS'' hkw => ?_
    obtain ⟨xa, dk⟩ := x'.turn (tk := tk) hob' hbI hkw
    obtain ⟨u, hu, hd⟩ := hit i w hP
    have ka : ∀ b o, s₁.heap.get? b = some o → h'.get? b = some o := fun b o e =>
      hkw b o (fun q => by rw [List.mem_singleton] at q; subst q; exact absurd (Heap.lt_size e) (Nat.not_lt.mpr hI1)) (hk' b o e)
    have hda : Den h' (hup H D ((List.range i).filterMap g)) u w := Den.mono' (fun a o _ e q => ⟨ka a o e, hup_ne (Nat.ne_of_lt (Nat.lt_of_lt_of_le (Heap.lt_size e) (Nat.le_trans hI1 (Nat.le_of_lt hID)))) q⟩) u w (.inr fun a q => by
      by_cases z : a = D
      · subst z; rw [hup_same]; simp
      · rw [hup_ne z rfl]; exact q) hd
    refine owned_go (hob (i + 1) _ hS'') ?_
    have T := turn i u (hup H D ((List.range i).filterMap g)) hu (fun a us e => hup_ne (by rintro rfl; rw [hHD] at e; cases e) e)
    have fzI : ∀ Hx : AH, Fz (cmpC C scope L D) Hx I := fun Hx => ⟨Nat.ne_of_lt (Nat.lt_trans hID hDL), fun q => (nomatch q), .inr hID⟩
    have fz1 : ∀ (Hx : AH) b o, s₁.heap.get? b = some o → Fz (cmpC C scope L D) Hx b := fun Hx b o e =>
      have h1 := Nat.lt_of_lt_of_le (Heap.lt_size e) (Nat.le_trans hI1 (Nat.le_of_lt hID))
      ⟨Nat.ne_of_lt (Nat.lt_trans h1 hDL), fun q => (nomatch q), .inr h1⟩
    have close : ∀ (s₅ : Shared) (H₅ : AH) (σ₅ : Sg) (us : List PT), St (cmpC C scope L D) σ₅ H₅ s₅ → (∀ x t, σc scope σ x = some t → σ₅ x = some t) → H₅ = hup H D ((List.range (i + 1)).filterMap g) →
        Kp (cmpC C scope L D) { s' with heap := h', toks := tk } (hup H D ((List.range i).filterMap g)) s₅ H₅ →
        ∃ m, m < ts.length + 1 - i ∧ ∃ i, i ≤ ts.length ∧ m = ts.length + 1 - i ∧ St (cmpC C scope L D) (σc scope σ) (hup H D ((List.range i).filterMap g)) s₅ ∧ S i s₅.heap ∧
          (∃ h tk, s₅ = { s₁ with heap := h, toks := tk }) ∧ (∀ b o, s₁.heap.get? b = some o → s₅.heap.get? b = some o) := by
      intro s₅ H₅ σ₅ us x₅ hσ e₅ k₅
      subst e₅
      refine ⟨ts.length + 1 - (i + 1), by omega, i + 1, hlt, rfl, x₅.less hσ, ?_, ?_, fun b o e => k₅.keep b o (ka b o e) (fz1 _ b o e)⟩
      · refine W.frame _ _ _ hS'' fun b hb' o e => k₅.keep b o e ?_
        rcases List.mem_cons.mp hb' with rfl | hb'
        · exact fzI _
        · obtain ⟨o', e'⟩ := hfp b hb'
          exact fz1 _ b o' e'
      · obtain ⟨h5, t5, rfl⟩ := k₅.same
        obtain ⟨h6, t6, rfl⟩ := hsm'
        exact ⟨h5, t5, rfl⟩
    refine wpAny_mono (T { s' with heap := h', toks := tk } w xa hda) (fun _ sc qc => ?_) fun _ _ f => f
    obtain ⟨σ₂, H₂, xc, kc, rfl, hσ, qt⟩ := qc
    refine wpAny_mono (qt sc xc.toSv) (fun ok s₃ q₃ => ?_) fun _ _ f => f
    obtain ⟨H₃, e₃, m₃, rfl, q₃⟩ := q₃
    have x₃ := xc.ext e₃ m₃
    have k₃ := kc.trans (Kp.of_ext e₃)
    cases ok with
    | false =>
      simp only [Bool.false_eq_true, if_false] at q₃ ⊢
      refine close s₃ _ σ₂ [] x₃ hσ ?_ k₃
      rw [filterMap_succ, q₃]; simp
    | true =>
      simp only [if_true] at q₃ ⊢
      refine (q₃ s₃ x₃.toSv).then fun y wt s₅ H₅ e₅ m₅ d₅ q₅ => ?_
      obtain ⟨rfl, hg⟩ := q₅
      have x₅ := x₃.ext e₅ m₅
      have k₅ := k₃.trans (Kp.of_ext e₅)
      obtain ⟨vs, hl, hdv⟩ := x₅.muts D _ hup_same
      have hvs : vs.size ≤ sizeLine := by
        have h1 := hdv.length
        have h2 : ((List.range i).filterMap g).length ≤ (List.range i).length := List.length_filterMap_le _ _
        have h3 : (List.range i).length = i := List.length_range
        have h4 : vs.toList.length = vs.size := by simp
        omega
      refine wpAny_list_append_plain (hsz := hvs) hl fun h₆ hl₆ hs₆ => ?_
      have hw := st_write (C := cmpC C scope L D) (us := (List.range i).filterMap g ++ [wt]) (tk := s₅.toks) x₅ hup_same (Nat.le_refl _) hl₆ hs₆ (by
        rw [Array.toList_push]; exact hdv.append (dens_cons d₅ dens_nil))
      have ee : hup (hup H D ((List.range i).filterMap g)) D ((List.range i).filterMap g ++ [wt]) = hup H D ((List.range (i + 1)).filterMap g) := by
        rw [filterMap_succ, hg]
        funext b
        simp only [hup, Option.toList]
        split <;> rfl
      rw [ee] at hw
      exact close _ _ σ₂ [] hw.1 hσ rfl (k₅.trans hw.2)
  · have hin : i = ts.length := by omega
    subst hin
    refine W.done _ _ _ hS' fun h' tk hkw => ?_
    obtain ⟨xa, dk⟩ := x'.turn (tk := tk) hob' hbI hkw
    refine fin _ _ rfl xa ?_ fun b o e => hkw b o (fun q => by rw [List.mem_singleton] at q; subst q; exact absurd (Heap.lt_size e) (Nat.not_lt.mpr hI1)) (hk' b o e)
    obtain ⟨h6, t6, rfl⟩ := hsm'
    exact ⟨h', tk, rfl⟩


theorem relabel_free {env : Env} {x : Str} : ∀ {names : List (Str × NameKind)}, names.lookup x = some .free →
    (names.map fun (n, k) => if (k == NameKind.free && env.scope.kind == .function && env.kindOf n == some .cell) then (n, NameKind.cell) else (n, k)).lookup x = some .cell ∨
    (names.map fun (n, k) => if (k == NameKind.free && env.scope.kind == .function && env.kindOf n == some .cell) then (n, NameKind.cell) else (n, k)).lookup x = some .free
  | [], h => by simp at h
  | (n, k) :: r, h => by
    show List.lookup x ((if (k == NameKind.free && env.scope.kind == .function && env.kindOf n == some .cell) = true then (n, NameKind.cell) else (n, k)) :: _) = _ ∨ List.lookup x ((if (k == NameKind.free && env.scope.kind == .function && env.kindOf n == some .cell) = true then (n, NameKind.cell) else (n, k)) :: _) = _
    cases hx : x == n with
    | true =>
      simp only [List.lookup_cons, hx] at h
      cases h
      by_cases hc : (NameKind.free == NameKind.free && env.scope.kind == .function && env.kindOf n == some .cell) = true
      · rw [if_pos hc]; left; simp only [List.lookup_cons, hx]
      · rw [if_neg hc]; right; simp only [List.lookup_cons, hx]
    | false =>
      simp only [List.lookup_cons, hx] at h
      have ih := @relabel_free env x r h
      by_cases hc : (k == NameKind.free && env.scope.kind == .function && env.kindOf n == some .cell) = true
      · rw [if_pos hc]; simp only [List.lookup_cons, hx]; exact ih
      · rw [if_neg hc]; simp only [List.lookup_cons, hx]; exact ih
theorem relabel_cell {env : Env} {x : Str} : ∀ {names : List (Str × NameKind)}, (∀ p ∈ names, p.2 ≠ .cell) →
    (names.map fun (n, k) => if (k == NameKind.free && env.scope.kind == .function && env.kindOf n == some .cell) then (n, NameKind.cell) else (n, k)).lookup x = some .cell → names.lookup x = some .free
  | [], _, h => by simp at h
  | (n, k) :: r, hc, h => by
    have h' : List.lookup x ((if (k == NameKind.free && env.scope.kind == .function && env.kindOf n == some .cell) = true then (n, NameKind.cell) else (n, k)) :: (r.map fun (n, k) => if (k == NameKind.free && env.scope.kind == .function && env.kindOf n == some .cell) then (n, NameKind.cell) else (n, k))) = some .cell := h
    have ih := @relabel_cell env x r (fun p hp => hc p (.tail _ hp))
    cases hx : x == n with
    | true =>
      by_cases hq : (k == NameKind.free && env.scope.kind == .function && env.kindOf n == some .cell) = true
      · have : k = .free := by simp only [Bool.and_eq_true] at hq; simpa using hq.1.1
        simp only [List.lookup_cons, hx, this]
      · rw [if_neg hq] at h'
        simp only [List.lookup_cons, hx] at h'
        exact absurd (Option.some.inj h') (hc (n, k) (.head _))
    | false =>
      by_cases hq : (k == NameKind.free && env.scope.kind == .function && env.kindOf n == some .cell) = true
      · rw [if_pos hq] at h'; simp only [List.lookup_cons, hx] at h' ⊢; exact ih h'
      · rw [if_neg hq] at h'; simp only [List.lookup_cons, hx] at h' ⊢; exact ih h'

/-- how a comprehension's table of names must look -/
def scOk (scope : Scope) : Bool := (scope.names.all fun p => p.2 != .cell) && ((frees scope).all fun x => scope.names.lookup x == some .free) &&
  scope.names.all fun p => p.2 != .local || scope.names.lookup p.1 == some .local

/-- what is known where a comprehension's list stands -/
structure CEnd (s₁ : Shared) (H : AH) (s' : Shared) (D L : Addr) (us : List PT) : Prop where
  keeps : Keeps s₁ s'
  dsize : s₁.heap.objs.size ≤ D
  lsize : D < L
  none : H D = Option.none
  noneL : H L = Option.none
  list : ∃ vs, s'.heap.PlainList D vs ∧ Dens s'.heap H us vs.toList
  muts : Muts s'.heap (hup H D us)
  ns : ∃ m, s'.heap.Ns L m

theorem nms_of : ∀ {ts : List PT}, (∀ t ∈ ts, NM t = true) → NMs ts = true
  | [], _ => by simp [NMs]
  | t :: ts, h => by simp only [NMs, Bool.and_eq_true]; exact ⟨h t (.head _), nms_of fun u hu => h u (.tail _ hu)⟩

theorem comp_all {C : Cx} {σ : Sg} {H : AH} {s : Shared} {elt target iter : Expr} {ifs : List Expr} {scope : Scope} {pos pos' : Pos} {use : Option (Value → Sem Unit)} {QA : List PT → AH → Prop} {QQ : Value → Shared → Prop} (x : Sv C σ H s)
    (h : Ev C iter σ H fun t H₁ => ∃ (ts : List PT) (g : Nat → Option PT), Itr C H₁ t ts false ∧ ts.length ≤ sizeLine ∧ (∀ k w, g k = some w → NM w = true) ∧
      (∀ L lo k u Hf, ts[k]? = some u → (∀ a us, H₁ a = some us → Hf a = some us) → CTurn (cmpC C scope L lo) target elt ifs (σc scope σ) Hf u (g k)) ∧ QA ((List.range ts.length).filterMap g) H₁)
    (fin : ∀ s₁ H₁ s' D L us, Ext s H s₁ H₁ → Muts s₁.heap H₁ → QA us H₁ → CEnd s₁ H₁ s' D L us → compPost C.M C.A no use QQ (.ref D) L (.ok .next) s')
    (hfv : FvOk C σ (frees scope)) (hsc : scOk scope = true) (hkind : scope.kind = .function) (hs : ∀ x, foldedSetIterable iter C.env x = pure x) :
    wpAny C.M C.A (comprehension (.ListComp elt [⟨target, iter, ifs, 0⟩] scope pos) scope C.env pos' (newList []) false (eval iter C.env) use) QQ no s := by
  simp only [scOk, Bool.and_eq_true] at hsc
  obtain ⟨⟨hc1, hc2⟩, hc3⟩ := hsc
  have hcell : ∀ p ∈ scope.names, p.2 ≠ .cell := fun p hp => by simpa using List.all_eq_true.mp hc1 p hp
  have hfree : ∀ y ∈ frees scope, scope.names.lookup y = some .free := fun y hy => by simpa using List.all_eq_true.mp hc2 y hy
  have hnames : ∀ p ∈ scope.names, p.2 = .local → scope.names.lookup p.1 = some .local := fun p hp hl => by
    have := List.all_eq_true.mp hc3 p hp
    rw [hl] at this
    simpa using this
  have hclos : closureFor scope C.env = pure (clo scope.names C.env []) := closure_is fun n hn => by
    obtain ⟨⟨t, ht⟩, hl⟩ := hfv.mem n (mem_frees hn)
    obtain ⟨_, c, _, hc, _⟩ := x.cells n t ht hl
    rw [hc]; rfl
  refine wpAny_comprehension_free (cl := clo scope.names C.env []) rfl hs hclos hkind hnames ((h s x).then fun v t s₁ H₁ e₁ m₁ d₁ q₁ => ?_)
  obtain ⟨ts, g, hi, hn, hnm, turn, hq⟩ := q₁
  have x₁ := x.ext e₁ m₁
  refine wpAny_mono (hi s₁ v x₁.toBs d₁) (fun it s₂ q₂ => ?_) fun _ _ f => f
  obtain ⟨I, fp, Pr, S, rfl, W, hS, hk, hI, hob, hfp, hit⟩ := q₂
  refine wpAny_newList ?_ (by simp)
  refine wpAny_newFunctionEnv hcell (by intro y hy; simp at hy) (fun h₁ hns₁ hsb₁ => ?_) hkind
  dsimp only at hns₁ hsb₁ ⊢
  generalize hH2 : s₂.heap.push { cls := .type "list", dict := Option.none, data := .seq ([] : List Value).toArray } = H2 at hns₁ hsb₁ ⊢
  have hL : H2.objs.size = s₂.heap.objs.size + 1 := by rw [← hH2, Heap.size_push]
  have hDL : s₂.heap.objs.size < H2.objs.size := by rw [hL]; exact Nat.lt_succ_self _
  obtain ⟨oI, hoI, _⟩ := hob 0 _ hS
  have hID : I < s₂.heap.objs.size := Heap.lt_size hoI
  have k24 : ∀ b o, s₂.heap.get? b = some o → h₁.get? b = some o := fun b o e =>
    hsb₁.extBut b o (Nat.ne_of_lt (Nat.lt_trans (Heap.lt_size e) hDL)) (Heap.get?_push_of_some _ (hH2 ▸ Heap.get?_push_of_some _ e))
  have k14 : ∀ b o, s₁.heap.get? b = some o → h₁.get? b = some o := fun b o e => k24 b o (Keeps.get hk e)
  have hD1 : s₁.heap.objs.size ≤ s₂.heap.objs.size := Nat.le_trans hI (Nat.le_of_lt hID)
  have hHD : H₁ s₂.heap.objs.size = Option.none := by
    cases z : H₁ s₂.heap.objs.size with
    | none => rfl
    | some us => obtain ⟨_, ⟨_, q⟩, _⟩ := m₁ _ us z; exact absurd (Heap.lt_size q) (Nat.not_lt.mpr hD1)
  have hHL : H₁ H2.objs.size = Option.none := by
    cases z : H₁ H2.objs.size with
    | none => rfl
    | some us => obtain ⟨_, ⟨_, q⟩, _⟩ := m₁ _ us z; exact absurd (Heap.lt_size q) (Nat.not_lt.mpr (Nat.le_trans hD1 (Nat.le_of_lt hDL)))
  have hacc : h₁.PlainList s₂.heap.objs.size #[] := ⟨0, hsb₁.extBut _ _ (Nat.ne_of_lt hDL) (Heap.get?_push_of_some _ (hH2 ▸ Heap.get?_push_size _ rfl))⟩
  have hlow : C.G.h₀.objs.size ≤ s₁.heap.objs.size := Nat.le_trans x₁.ok.low x₁.lo
  have up : ∀ t v, Den s₁.heap H₁ t v → Den h₁ (hup H₁ s₂.heap.objs.size []) t v := fun t v => Den.mono' (fun b o _ e q =>
    ⟨k14 b o e, hup_ne (Nat.ne_of_lt (Nat.lt_of_lt_of_le (Heap.lt_size e) hD1)) q⟩) t v (.inr fun b q => by
      by_cases z : b = s₂.heap.objs.size
      · rw [z, hup_same]; simp
      · rw [hup_ne z rfl]; exact q)
  have ups : ∀ t v, Dens s₁.heap H₁ t v → Dens h₁ (hup H₁ s₂.heap.objs.size []) t v := fun t v => Dens.mono' (fun b o _ e q =>
    ⟨k14 b o e, hup_ne (Nat.ne_of_lt (Nat.lt_of_lt_of_le (Heap.lt_size e) hD1)) q⟩) t v (.inr fun b q => by
      by_cases z : b = s₂.heap.objs.size
      · rw [z, hup_same]; simp
      · rw [hup_ne z rfl]; exact q)
  have seen : ∀ y, y ∈ frees scope → ∃ t c v, σ y = some t ∧ (clo scope.names C.env []).lookup y = some c ∧ h₁.IsCell c (some v) ∧ Den h₁ (hup H₁ s₂.heap.objs.size []) t v := fun y hy => by
    obtain ⟨⟨t, ht⟩, hl⟩ := hfv.mem y hy
    obtain ⟨_, c, v, hc, h3, h4⟩ := x₁.cells y t ht hl
    exact ⟨t, c, v, ht, clo_lookup hc _ _ (.inl (of_frees hy)), h3.keeps k14, up t v h4⟩
  have x₄ : St (cmpC C scope H2.objs.size s₂.heap.objs.size) (σc scope σ) (hup H₁ s₂.heap.objs.size []) { s₂ with heap := h₁, toks := s₂.toks + ([] : List (Str × Value)).length } := by
    refine ⟨⟨⟨⟨x.ok.G, x.ok.hh, x.ok.depth, x.ok.units, hkind, x.ok.glob, x.ok.blt, Nat.le_trans hlow hD1, Nat.le_of_lt hDL⟩, fun b o q => k14 b o (x₁.base b o q), fun b us q => ?_, ?_⟩, ⟨_, hns₁, fun y t e hl => ?_⟩, fun y t e hl => ?_⟩, ⟨fun q => (nomatch q), fun q => (nomatch q)⟩, fun y hy => ?_⟩
    · by_cases z : b = s₂.heap.objs.size
      · subst z
        rw [hup_same] at q; cases q
        exact ⟨#[], hacc, by simpa using dens_nil⟩
      · rw [hup, if_neg z] at q
        obtain ⟨vs, h1, h2⟩ := m₁ b us q
        exact ⟨vs, h1.at fun o e => k14 b o e, ups _ _ h2⟩
    · obtain ⟨o, _, _, ho, _⟩ := hns₁
      exact Nat.le_of_lt (Nat.lt_trans hDL (Heap.lt_size ho))
    · simp only [σc] at e
      split at e
      · rename_i hy
        have := relabel_free (env := C.env) (hfree y hy)
        have hl' : (scope.names.map fun (n, k) => if (k == NameKind.free && C.env.scope.kind == .function && C.env.kindOf n == some .cell) then (n, NameKind.cell) else (n, k)).lookup y = some .local := hl
        rcases this with q | q <;> rw [hl'] at q <;> cases q
      · cases e
    · simp only [σc] at e
      split at e
      · rename_i hy
        obtain ⟨t', c, v, ht, h1, h2, h3⟩ := seen y hy
        rw [e] at ht; cases ht
        exact ⟨relabel_free (env := C.env) (hfree y hy), c, v, h1, h2, h3⟩
      · cases e
    · have := relabel_cell (env := C.env) hcell hy
      obtain ⟨_, c, v, _, h1, h2, _⟩ := seen y (mem_frees (mem_of_lookup this))
      exact ⟨c, _, h1, h2⟩
  have hS₄ : S 0 h₁ := W.frame _ _ _ hS fun b _ o e => k24 b o e
  have loop : codeAny C.M C.A (.compLoop (.ListComp elt [⟨target, iter, ifs, 0⟩] scope pos) 0 (.ref I) (.ref s₂.heap.objs.size) (cmpC C scope H2.objs.size s₂.heap.objs.size).env)
      (compPost C.M C.A no use QQ (.ref s₂.heap.objs.size) H2.objs.size) { s₂ with heap := h₁, toks := s₂.toks + ([] : List (Str × Value)).length } := by
    refine comp_loop (s₁ := s₁) (g := g) W hS₄ hob (fun b hb => let ⟨⟨o, _, e⟩, _⟩ := hfp b hb; ⟨o, e⟩) hit hn x₄ ?_ k14 hI hID hDL hlow hHD (fun k u Hf => turn _ _ k u Hf) fun s' us hus x' hsm hkp => ?_
    · obtain ⟨h2, t2, rfl, _⟩ := hk
      exact ⟨h₁, _, rfl⟩
    · have nm : NMs us = true := nms_of fun t ht => by
        rw [hus] at ht
        obtain ⟨k, _, hg⟩ := List.mem_filterMap.mp ht
        exact hnm k t hg
      refine fin s₁ H₁ s' _ _ us e₁ m₁ (hus ▸ hq) ⟨?_, hD1, hDL, hHD, hHL, ?_, x'.muts, let ⟨m, h1, _⟩ := x'.ns; ⟨m, h1⟩⟩
      · obtain ⟨h6, t6, rfl⟩ := hsm
        exact ⟨h6, t6, rfl, hkp⟩
      · obtain ⟨vs, h1, h2⟩ := x'.muts _ us hup_same
        refine ⟨vs, h1, Dens.mono' (fun b o _ e q => ⟨e, ?_⟩) us _ (.inl nm) h2⟩
        by_cases z : b = s₂.heap.objs.size
        · subst z; exact hHD
        · rw [hup, if_neg z] at q; exact q
  exact codeAny_compStart_list loop (W.self 0 _ _ _ hS₄ loop)

theorem ns_ne_iter {h : Heap} {L b : Addr} {m : Str → Option Value} {vs : Array Value} (n : h.Ns L m) (l : h.PlainList b vs) : b ≠ L := ns_ne_list n l

/-- the end of a comprehension, behind the turn of its names -/
theorem CEnd.but {s₁ : Shared} {H : AH} {s' : Shared} {D L : Addr} {us : List PT} {h' : Heap} (c : CEnd s₁ H s' D L us) (hs : Heap.SameBut L s'.heap h') :
    Keeps s₁ { s' with heap := h' } ∧ (∃ vs, h'.PlainList D vs ∧ Dens h' H us vs.toList) ∧ Muts h' (hup H D us) := by
  obtain ⟨m, hn⟩ := c.ns
  refine ⟨?_, ?_, fun a ts q => ?_⟩
  · obtain ⟨h1, t1, rfl, k⟩ := c.keeps
    exact ⟨h', t1, rfl, fun b o e => (hs.2 b (Nat.ne_of_lt (Nat.lt_of_lt_of_le (Heap.lt_size e) (Nat.le_trans c.dsize (Nat.le_of_lt c.lsize))))).trans (k b o e)⟩
  · obtain ⟨vs, h1, h2⟩ := c.list
    exact ⟨vs, h1.at fun o e => (hs.2 D (ns_ne_list hn h1)).trans e, dens_ns hn hs h2⟩
  · obtain ⟨vs, h1, h2⟩ := c.muts a ts q
    exact ⟨vs, h1.at fun o e => (hs.2 a (ns_ne_list hn h1)).trans e, dens_ns hn hs h2⟩

theorem CEnd.post {lo : Nat} {s s₁ : Shared} {H H₁ : AH} {s' : Shared} {D : Addr} {us : List PT} {Q : List PT → AH → Prop} (hlo : lo ≤ s₁.heap.objs.size) (e : Ext s H s₁ H₁) (m : Muts s₁.heap H₁) (q : Q us H₁) (k : Keeps s₁ s') (dsize : s₁.heap.objs.size ≤ D) (hn : H₁ D = Option.none)
    (hl : ∃ vs, s'.heap.PlainList D vs ∧ Dens s'.heap H₁ us vs.toList) (hm : Muts s'.heap (hup H₁ D us)) : postA lo s H Q (.ref D) s' := by
  obtain ⟨vs, h1, h2⟩ := hl
  refine ⟨H₁, D, us, vs, rfl, Nat.le_trans hlo dsize, ?_, e.trans (Ext.of_keeps H₁ k), hn, h1, (Ext.of_keeps H₁ k).muts m, h2, hm, q⟩
  cases z : s.heap.get? D with
  | none => rfl
  | some o => exact absurd (Heap.lt_size (Keeps.get e.keeps z)) (Nat.not_lt.mpr dsize)

section
variable {C : Cx} {σ : Sg} {H : AH}

/-- a comprehension -/
theorem ev_comp {elt target iter : Expr} {ifs : List Expr} {scope : Scope} {pos : Pos} {QA : List PT → AH → Prop}
    (h : Ev C iter σ H fun t H₁ => ∃ (ts : List PT) (g : Nat → Option PT), Itr C H₁ t ts false ∧ ts.length ≤ sizeLine ∧ (∀ k w, g k = some w → NM w = true) ∧
      (∀ L lo k u Hf, ts[k]? = some u → (∀ a us, H₁ a = some us → Hf a = some us) → CTurn (cmpC C scope L lo) target elt ifs (σc scope σ) Hf u (g k)) ∧ QA ((List.range ts.length).filterMap g) H₁)
    (hfv : FvOk C σ (frees scope)) (hsc : scOk scope = true := by decide) (hkind : scope.kind = .function := by rfl) (hs : ∀ x, foldedSetIterable iter C.env x = pure x := by intro _; rfl) :
    EvA C (.ListComp elt [⟨target, iter, ifs, 0⟩] scope pos) σ H QA := fun s x => by
  rw [eval_ListComp]
  refine comp_all x h (fun s₁ H₁ s' D L us e m q c => ?_) hfv hsc hkind hs
  obtain ⟨mm, hn⟩ := c.ns
  refine ⟨mm, hn, fun h' hs' => ?_⟩
  obtain ⟨k1, k2, k3⟩ := c.but hs'
  exact CEnd.post (x.ext e m).lo e m q k1 c.dsize c.none k2 k3

/-- a dict's object beside the frame is turned -/
theorem St.beside {s : Shared} {L : Addr} {m : Str → Option Value} {h' : Heap} (x : St C σ H s) (hn : s.heap.Ns L m) (hne : L ≠ C.env.locals) (hb : C.G.h₀.get? L = Option.none) (hs : Heap.SameBut L s.heap h') : St C σ H { s with heap := h' } := by
  obtain ⟨mm, h1, h2⟩ := x.ns
  refine ⟨⟨⟨x.ok, fun b o q => (hs.2 b (by rintro rfl; rw [hb] at q; cases q)).trans (x.base b o q), fun a ts q => ?_, by rw [show ({ s with heap := h' } : Shared).heap.objs.size = s.heap.objs.size from hs.1]; exact x.lo⟩,
    ⟨mm, h1.at' fun o e => (hs.2 _ (Ne.symm hne)).trans e, fun y t e hl => let ⟨v, h3, h4⟩ := h2 y t e hl; ⟨v, h3, den_ns hn hs h4⟩⟩, fun y t e hl => ?_⟩, x.sok, fun y hy => ?_⟩
  · obtain ⟨vs, h3, h4⟩ := x.muts a ts q
    exact ⟨vs, h3.at fun o e => (hs.2 a (ns_ne_list hn h3)).trans e, dens_ns hn hs h4⟩
  · obtain ⟨h3, c, v, h4, h5, h6⟩ := x.cells y t e hl
    exact ⟨h3, c, v, h4, h5.sameBut hs (ns_ne_cell hn h5), den_ns hn hs h6⟩
  · obtain ⟨c, v, h4, h5⟩ := x.has y hy
    exact ⟨c, v, h4, h5.sameBut hs (ns_ne_cell hn h5)⟩

theorem Kp.beside {s s₃ : Shared} {H₂ : AH} {L : Addr} {h' : Heap} (k : Kp C s H s₃ H₂) (hs : Heap.SameBut L s₃.heap h') (hL : s.heap.get? L = Option.none) : Kp C s H { s₃ with heap := h' } H₂ := by
  refine ⟨?_, fun b o e f => (hs.2 b (by rintro rfl; rw [hL] at e; cases e)).trans (k.keep b o e f), fun b o e => ?_, k.frz, k.frn⟩
  · obtain ⟨h1, t1, rfl⟩ := k.same
    exact ⟨h', t1, rfl⟩
  · obtain ⟨o', e'⟩ := k.alive b o e
    exact ⟨o', (hs.2 b (by rintro rfl; rw [hL] at e; cases e)).trans e'⟩

/-- x = [.. for ..], x no cell -/
theorem ex_set_comp {R : Fl → Sg → AH → Prop} {y : Str} {py : Pos} {elt target iter : Expr} {ifs : List Expr} {scope : Scope} {pos pos₂ : Pos} (trk : Bool)
    (h : Ev C iter σ H fun t H₁ => ∃ (ts : List PT) (g : Nat → Option PT), Itr C H₁ t ts false ∧ ts.length ≤ sizeLine ∧ (∀ k w, g k = some w → NM w = true) ∧
      (∀ L lo k u Hf, ts[k]? = some u → (∀ a us, H₁ a = some us → Hf a = some us) → CTurn (cmpC C scope L lo) target elt ifs (σc scope σ) Hf u (g k)) ∧
      (if trk = true then ∀ a, H₁ a = Option.none → C.lo ≤ a → R .next (upd σ y (.mut a)) (hup H₁ a ((List.range ts.length).filterMap g)) else R .next (upd σ y (.lst ((List.range ts.length).filterMap g))) H₁))
    (hfv : FvOk C σ (frees scope)) (hsc : scOk scope = true := by decide) (hkind : scope.kind = .function := by rfl) (hs : ∀ x, foldedSetIterable iter C.env x = pure x := by intro _; rfl) (hy : stb C y = true := by rfl)
    (hw : swapsWithSole [.Name y py] (.ListComp elt [⟨target, iter, ifs, 0⟩] scope pos) pos₂.line C.env = pure true := by rfl) :
    Ex C (.Assign [.Name y py] (.ListComp elt [⟨target, iter, ifs, 0⟩] scope pos) pos₂) σ H R := fun s x => by
  rw [exec_Assign_arm]
  refine wpAny_bind (wpAny_standAt ?_)
  rw [hw]
  refine wpAny_bind (wpAny_pure ?_)
  rw [if_pos rfl]
  refine wpAny_bind ?_
  show wpAny C.M C.A (do let _ ← comprehension (.ListComp elt [⟨target, iter, ifs, 0⟩] scope pos) scope C.env (firstIterPos [⟨target, iter, ifs, 0⟩] pos) (newList []) false (eval iter C.env) (some fun v => assign (.Name y py) C.env v)) _ _ s
  refine wpAny_bind ?_
  refine comp_all (QA := fun us H₁ => if trk = true then ∀ a, H₁ a = Option.none → C.lo ≤ a → R .next (upd σ y (.mut a)) (hup H₁ a us) else R .next (upd σ y (.lst us)) H₁) x.toSv h (fun s₁ H₁ s' D L us e m q c => ?_) hfv hsc hkind hs
  have x₁ := x.ext e m
  have p : postW s H (fun t H' => R .next (upd σ y t) H') (.ref D) s' := by
    cases trk with
    | true =>
      simp only [if_true] at q
      exact postA.trk (lo := C.lo) (CEnd.post (lo := C.lo) (Q := fun us H₁ => ∀ a, H₁ a = Option.none → C.lo ≤ a → R .next (upd σ y (.mut a)) (hup H₁ a us)) x₁.lo e m q c.keeps c.dsize c.none c.list c.muts)
    | false =>
      simp only [Bool.false_eq_true, if_false] at q
      exact postA.frz (lo := C.lo) (CEnd.post (lo := C.lo) (Q := fun us H₁ => R .next (upd σ y (.lst us)) H₁) x₁.lo e m q c.keeps c.dsize c.none c.list c.muts)
  obtain ⟨H₂, t, e₂, m₂, d₂, q₂⟩ := p
  have x₂ := x.ext e₂ m₂
  have hLs : s.heap.get? L = Option.none := by
    cases z : s.heap.get? L with
    | none => rfl
    | some o => exact absurd (Heap.lt_size (Keeps.get e.keeps z)) (Nat.not_lt.mpr (Nat.le_trans c.dsize (Nat.le_of_lt c.lsize)))
  have hneL : L ≠ C.env.locals := by
    rintro rfl
    obtain ⟨_, ⟨o, _, _, ho, _⟩, _⟩ := x.ns
    rw [ho] at hLs; cases hLs
  have hbL : C.G.h₀.get? L = Option.none := by
    cases z : C.G.h₀.get? L with
    | none => rfl
    | some o => rw [x.base L o z] at hLs; cases hLs
  show wpAny C.M C.A (assign (.Name y py) C.env (.ref D)) (fun _ s'' => ∃ m, s''.heap.Ns L m ∧ ∀ h', Heap.SameBut L s''.heap h' → _) no s'
  refine wpAny_assign_Name (st_store x₂ d₂ hy fun s₃ x₃ k₃ => ?_)
  obtain ⟨mm, hn⟩ := c.ns
  have hn₃ : s₃.heap.Ns L mm := by
    refine hn.at' fun o e' => k₃.keep L o e' ⟨hneL, fun _ z hz hc => ?_, .inl ?_⟩
    · obtain ⟨c', v', h4, h5⟩ := x.has z hz
      rw [h4] at hc; cases hc
      obtain ⟨o', h6, _⟩ := h5
      rw [h6] at hLs; cases hLs
    · cases z : H₂ L with
      | none => rfl
      | some ts =>
        obtain ⟨vs, h4, _⟩ := m₂ L ts z
        exact absurd rfl (ns_ne_list hn h4)
  refine ⟨mm, hn₃, fun h' hs' => wpAny_pure (wpAny_pure ?_)⟩
  refine ⟨.next, _, H₂, x₃.beside hn₃ hneL hbL hs', ((Kp.of_ext e₂).trans k₃).beside hs' hLs, rfl, q₂⟩
end


/-- a text by its signs -/
def tx (l : List Nat) : Str := ⟨l.toArray⟩
theorem tx_cps (l : List Nat) : (tx l).cps.toList = l := by simp [tx]
theorem tx_length (l : List Nat) : (tx l).length = l.length := by simp [tx, Str.length]
theorem tx_of (x : Str) : tx x.cps.toList = x := by cases x; simp [tx]
theorem tx_append (l m : List Nat) : tx l ++ tx m = tx (l ++ m) := by
  show Str.append (tx l) (tx m) = tx (l ++ m)
  simp [tx, Str.append]
theorem tx_inj {l m : List Nat} : tx l = tx m ↔ l = m := by
  constructor
  · intro h; have := congrArg (fun x => x.cps.toList) h; simpa [tx] using this
  · intro h; rw [h]
theorem tx_beq (l m : List Nat) : (tx l == tx m) = (l == m) := by
  rw [Bool.eq_iff_iff]; simp [tx_inj]

/-- what a slice without a step takes -/
def cut {α : Type} (lo hi : Option Int) (l : List α) : List α := (l.drop (lo.elim 0 (clipAt l.length))).take (hi.elim l.length (clipAt l.length) - lo.elim 0 (clipAt l.length))
theorem cut_from {α : Type} (k : Nat) (l : List α) : cut (some (k : Int)) Option.none l = l.drop k := by
  simp only [cut, Option.elim, clipAt_nat]
  rcases Nat.le_total k l.length with h | h
  · rw [Nat.min_eq_left h, List.take_of_length_le (by simp)]
  · rw [Nat.min_eq_right h, List.drop_of_length_le (by simp), List.drop_of_length_le h]; simp
theorem cut_upto {α : Type} (k : Nat) (l : List α) : cut Option.none (some (k : Int)) l = l.take k := by
  simp only [cut, Option.elim, clipAt_nat, List.drop_zero, Nat.sub_zero]
  rcases Nat.le_total k l.length with h | h
  · rw [Nat.min_eq_left h]
  · rw [Nat.min_eq_right h, List.take_of_length_le (by simp), List.take_of_length_le h]
theorem cut_all {α : Type} (l : List α) : cut Option.none Option.none l = l := by simp [cut]
theorem cut_neg {α : Type} (k : Nat) (hk : 1 ≤ k) (l : List α) : cut Option.none (some (-(k : Int))) l = l.take (l.length - k) := by
  simp only [cut, Option.elim, clipAt_neg _ _ hk, List.drop_zero, Nat.sub_zero]
theorem cut_map {α β : Type} (f : α → β) (lo hi : Option Int) (l : List α) : cut lo hi (l.map f) = (cut lo hi l).map f := by
  simp [cut, List.map_drop, List.map_take]
theorem cut_length_le {α : Type} (lo hi : Option Int) (l : List α) : (cut lo hi l).length ≤ l.length := by
  simp only [cut, List.length_take, List.length_drop]; omega

theorem strIdx (lo hi : Option Int) (n : Nat) : Builtin.Str.strSliceIndices lo hi 1 n = (List.range (hi.elim n (clipAt n) - lo.elim 0 (clipAt n))).map (lo.elim 0 (clipAt n) + ·) := by
  rw [← sliceRange_one]
  unfold Builtin.Str.strSliceIndices
  cases lo <;> cases hi <;> simp [clipAt_cast]
theorem clipAt_le (n : Nat) (i : Int) : clipAt n i ≤ n := by
  have := clipAt_cast n i
  omega
theorem slice_tx (x : Str) (lo hi : Option Int) : Txt.slice x lo hi = tx (cut lo hi x.cps.toList) := by
  unfold Txt.slice
  have hx : x.length = x.cps.size := rfl
  have hc : cut lo hi x.cps.toList = (x.cps.toList.drop (lo.elim 0 (clipAt x.cps.size))).take (hi.elim x.cps.size (clipAt x.cps.size) - lo.elim 0 (clipAt x.cps.size)) := by
    simp [cut]
  split
  · rename_i h
    simp only [Bool.and_eq_true] at h
    have hl := h.2
    rw [strIdx] at hl
    simp only [List.length_map, List.length_range, beq_iff_eq, hx] at hl
    have h1 : lo.elim 0 (clipAt x.cps.size) ≤ x.cps.size := by cases lo <;> simp [clipAt_le]
    have h2 : hi.elim x.cps.size (clipAt x.cps.size) ≤ x.cps.size := by cases hi <;> simp [clipAt_le]
    have e : cut lo hi x.cps.toList = x.cps.toList := by
      rw [hc, hl]
      by_cases z : x.cps.size = 0
      · have : x.cps.toList = [] := List.length_eq_zero_iff.mp (by simpa using z)
        rw [this]; simp
      · have e0 : lo.elim 0 (clipAt x.cps.size) = 0 := by omega
        rw [e0, List.drop_zero]; exact List.take_of_length_le (by simp)
    rw [e, tx_of]
  · rw [hx, strIdx, pick_run, hc]; rfl

section
variable {C : Cx} {σ : Sg} {H : AH} {Q : PT → AH → Prop}

-- arithmetic
theorem bin_add {i j : Int} (q : Q (.int (i + j)) H) : Bin C .Add (.int i) (.int j) H Q := fun s v w x hv hw => by
  obtain ⟨t, rfl⟩ := of_int hv; obtain ⟨u, rfl⟩ := of_int hw
  exact add_int (postW.toks _ x.muts den_int q)
theorem bin_sub {i j : Int} (q : Q (.int (i - j)) H) : Bin C .Sub (.int i) (.int j) H Q := fun s v w x hv hw => by
  obtain ⟨t, rfl⟩ := of_int hv; obtain ⟨u, rfl⟩ := of_int hw
  exact sub_int (postW.toks _ x.muts den_int q)
theorem mulOk_small {a b : Int} (h : b.natAbs < 1000000) : IntMulOk a b := by
  unfold IntMulOk
  intro z
  simp only [Bool.and_eq_true, decide_eq_true_eq] at z
  have h1 : Builtin.Int.intBits b ≤ 20 := by
    unfold Builtin.Int.intBits
    split
    · omega
    · rename_i hb
      have h0 : b.natAbs ≠ 0 := by have : b ≠ 0 := by simpa using hb
                                   omega
      have : b.natAbs.log2 < 20 := (Nat.log2_lt h0).mpr (by omega)
      omega
  have h2 : shortFactorBits = 64 := rfl
  rw [h2] at z
  omega
theorem mulOk_small' {a b : Int} (h : a.natAbs < 1000000) : IntMulOk a b := by
  unfold IntMulOk
  intro z
  simp only [Bool.and_eq_true, decide_eq_true_eq] at z
  have h1 : Builtin.Int.intBits a ≤ 20 := by
    unfold Builtin.Int.intBits
    split
    · omega
    · rename_i hb
      have h0 : a.natAbs ≠ 0 := by have : a ≠ 0 := by simpa using hb
                                   omega
      have : a.natAbs.log2 < 20 := (Nat.log2_lt h0).mpr (by omega)
      omega
  have h2 : shortFactorBits = 64 := rfl
  rw [h2] at z
  omega
theorem bin_mul {i j : Int} (q : Q (.int (i * j)) H) (h : i.natAbs < 1000000 ∨ j.natAbs < 1000000) : Bin C .Mult (.int i) (.int j) H Q := fun s v w x hv hw => by
  obtain ⟨t, rfl⟩ := of_int hv; obtain ⟨u, rfl⟩ := of_int hw
  exact mul_int (postW.toks _ x.muts den_int q) (h.elim mulOk_small' mulOk_small)
theorem bin_mod {i j : Int} (q : Q (.int (i % j)) H) (h : 0 < j := by omega) : Bin C .Mod (.int i) (.int j) H Q := fun s v w x hv hw => by
  obtain ⟨t, rfl⟩ := of_int hv; obtain ⟨u, rfl⟩ := of_int hw
  refine mod_int (by omega) ?_
  rw [Int.fmod_eq_emod_of_nonneg _ (by omega)]
  exact postW.toks _ x.muts den_int q
theorem bin_div {i j : Int} (q : Q (.int (i / j)) H) (h : 0 < j := by omega) (h' : j.natAbs < 1073741824 := by omega) : Bin C .FloorDiv (.int i) (.int j) H Q := fun s v w x hv hw => by
  obtain ⟨t, rfl⟩ := of_int hv; obtain ⟨u, rfl⟩ := of_int hw
  refine floordiv_int (by omega) ?_ (.inl (PyProof.noPylong_small h'))
  rw [Int.fdiv_eq_ediv_of_nonneg _ (by omega)]
  exact postW.toks _ x.muts den_int q
theorem bin_adds {i j : Str} (q : Q (.str (i ++ j)) H) (h : i.length + j.length ≤ 16777216) : Bin C .Add (.str i) (.str j) H Q := fun s v w x hv hw => by
  obtain ⟨t, rfl⟩ := of_str hv; obtain ⟨u, rfl⟩ := of_str hw
  exact add_str (fun t' tk => postW.toks _ x.muts den_str q) (by rw [sizeLine_eq]; exact h)

-- comparisons
theorem cmp_eq {i j : Int} (q : Q (.bool (i == j)) H) : Cmp C .Eq (.int i) (.int j) H Q := fun s v w x hv hw => by
  obtain ⟨t, rfl⟩ := of_int hv; obtain ⟨u, rfl⟩ := of_int hw
  exact eq_int (postW.same x.muts den_bool q)
theorem cmp_ne {i j : Int} (q : Q (.bool (i != j)) H) : Cmp C .NotEq (.int i) (.int j) H Q := fun s v w x hv hw => by
  obtain ⟨t, rfl⟩ := of_int hv; obtain ⟨u, rfl⟩ := of_int hw
  exact ne_int (postW.same x.muts den_bool q)
theorem cmp_lt {i j : Int} (q : Q (.bool (decide (i < j))) H) : Cmp C .Lt (.int i) (.int j) H Q := fun s v w x hv hw => by
  obtain ⟨t, rfl⟩ := of_int hv; obtain ⟨u, rfl⟩ := of_int hw
  exact lt_int (postW.same x.muts den_bool q)
theorem cmp_le {i j : Int} (q : Q (.bool (decide (i ≤ j))) H) : Cmp C .LtE (.int i) (.int j) H Q := fun s v w x hv hw => by
  obtain ⟨t, rfl⟩ := of_int hv; obtain ⟨u, rfl⟩ := of_int hw
  exact le_int (postW.same x.muts den_bool q)
theorem cmp_gt {i j : Int} (q : Q (.bool (decide (j < i))) H) : Cmp C .Gt (.int i) (.int j) H Q := fun s v w x hv hw => by
  obtain ⟨t, rfl⟩ := of_int hv; obtain ⟨u, rfl⟩ := of_int hw
  exact gt_int (postW.same x.muts den_bool q)
theorem cmp_ge {i j : Int} (q : Q (.bool (decide (j ≤ i))) H) : Cmp C .GtE (.int i) (.int j) H Q := fun s v w x hv hw => by
  obtain ⟨t, rfl⟩ := of_int hv; obtain ⟨u, rfl⟩ := of_int hw
  exact ge_int (postW.same x.muts den_bool q)
theorem cmp_eqs {i j : Str} (q : Q (.bool (i == j)) H) : Cmp C .Eq (.str i) (.str j) H Q := fun s v w x hv hw => by
  obtain ⟨t, rfl⟩ := of_str hv; obtain ⟨u, rfl⟩ := of_str hw
  exact eq_str (postW.same x.muts den_bool q)
theorem cmp_nes {i j : Str} (q : Q (.bool (i != j)) H) : Cmp C .NotEq (.str i) (.str j) H Q := fun s v w x hv hw => by
  obtain ⟨t, rfl⟩ := of_str hv; obtain ⟨u, rfl⟩ := of_str hw
  exact ne_str (postW.same x.muts den_bool q)

-- truth
theorem tru_bool {b : Bool} {Q : Bool → AH → Prop} (q : Q b H) : Tru C (.bool b) H Q := fun s v x hv => by
  cases of_bool hv
  exact wpAny_truthy_bool (postB.same x.muts q)
theorem tru_int {i : Int} {Q : Bool → AH → Prop} (q : Q (i != 0) H) : Tru C (.int i) H Q := fun s v x hv => by
  obtain ⟨t, rfl⟩ := of_int hv
  exact truthy_int (postB.same x.muts q)
theorem tru_str {i : Str} {Q : Bool → AH → Prop} (q : Q (!(i.cps.toList.isEmpty)) H) (h : i.length < 4611686018427387904) : Tru C (.str i) H Q := fun s v x hv => by
  obtain ⟨t, rfl⟩ := of_str hv
  refine P.truthy_str (by omega) ?_
  have : ((i.length : Int) != 0) = !(i.cps.toList.isEmpty) := by
    have hl : i.length = i.cps.toList.length := rfl
    rw [hl]
    cases i.cps.toList <;> simp
    omega
  rw [this]
  exact postB.toks _ x.muts q

-- tests
theorem ts_val {e : Expr} {Q : Bool → AH → Prop} (h : Ev C e σ H fun t H₁ => Tru C t H₁ Q)
    (he : ∀ whole, isTrue e C.env whole = (do let v ← whole; standAt e.pos; holding [v] (truthy v)) := by intro _; rfl) : Ts C e σ H Q := fun s x => by
  refine wpAny_isTrue_value ((h s x).then fun v a s₁ H₁ e₁ m₁ d₁ q₁ => ?_) (he _)
  exact wpAny_mono (q₁ s₁ v (x.ext e₁ m₁).toBs d₁) (fun _ _ p => p.trans e₁) fun _ _ f => f
theorem ts_not {e : Expr} {pos : Pos} {Q : Bool → AH → Prop} (h : Ts C e σ H fun b H₁ => Q (!b) H₁) : Ts C (.UnaryOp .Not e pos) σ H Q := fun s x => by
  refine wpAny_isTrue_Not ((h s x).then fun b s₁ H₁ e₁ m₁ q₁ => ?_)
  exact ⟨H₁, e₁, m₁, q₁⟩
theorem ts_and_nil {pos : Pos} {Q : Bool → AH → Prop} (q : Q true H) : Ts C (.BoolOp .And [] pos) σ H Q := fun s x => isTrue_and_nil (postB.same x.muts q)
theorem ts_or_nil {pos : Pos} {Q : Bool → AH → Prop} (q : Q false H) : Ts C (.BoolOp .Or [] pos) σ H Q := fun s x => isTrue_or_nil (postB.same x.muts q)
theorem ts_and {e : Expr} {es : List Expr} {pos : Pos} {Q : Bool → AH → Prop} (h : Ts C e σ H fun b H₁ => if b = true then Ts C (.BoolOp .And es pos) σ H₁ Q else Q false H₁) : Ts C (.BoolOp .And (e :: es) pos) σ H Q := fun s x => by
  refine isTrue_and ((h s x).then fun b s₁ H₁ e₁ m₁ q₁ => ?_)
  cases b with
  | true => exact wpAny_mono (q₁ s₁ (x.ext e₁ m₁)) (fun _ _ p => p.trans e₁) fun _ _ f => f
  | false => exact ⟨H₁, e₁, m₁, q₁⟩
theorem ts_or {e : Expr} {es : List Expr} {pos : Pos} {Q : Bool → AH → Prop} (h : Ts C e σ H fun b H₁ => if b = true then Q true H₁ else Ts C (.BoolOp .Or es pos) σ H₁ Q) : Ts C (.BoolOp .Or (e :: es) pos) σ H Q := fun s x => by
  refine isTrue_or ((h s x).then fun b s₁ H₁ e₁ m₁ q₁ => ?_)
  cases b with
  | true => exact ⟨H₁, e₁, m₁, q₁⟩
  | false => exact wpAny_mono (q₁ s₁ (x.ext e₁ m₁)) (fun _ _ p => p.trans e₁) fun _ _ f => f
theorem ev_if {t b o : Expr} {pos : Pos} (h : Ts C t σ H fun c H₁ => if c = true then Ev C b σ H₁ Q else Ev C o σ H₁ Q) : Ev C (.IfExp t b o pos) σ H Q := fun s x => by
  refine IfExp_ ((h s x).then fun c s₁ H₁ e₁ m₁ q₁ => ?_)
  cases c with
  | true => exact wpAny_mono (q₁ s₁ (x.ext e₁ m₁)) (fun _ _ p => p.trans e₁) fun _ _ f => f
  | false => exact wpAny_mono (q₁ s₁ (x.ext e₁ m₁)) (fun _ _ p => p.trans e₁) fun _ _ f => f
theorem ev_or2 {a b : Expr} {pos : Pos} (h : Ev C a σ H fun t H₁ => Tru C t H₁ fun c H₂ => if c = true then Q t H₂ else Ev C b σ H₂ Q) : Ev C (.BoolOp .Or [a, b] pos) σ H Q := fun s x => by
  refine wpAny_Or2 ((h s x).then fun v t s₁ H₁ e₁ m₁ d₁ q₁ => ?_)
  have x₁ := x.ext e₁ m₁
  refine (q₁ s₁ v x₁.toBs d₁).then fun c s₂ H₂ e₂ m₂ q₂ => ?_
  cases c with
  | true => exact ⟨H₂, t, e₁.trans e₂, m₂, e₂.den d₁, q₂⟩
  | false => exact wpAny_mono (q₂ s₂ (x₁.ext e₂ m₂)) (fun _ _ p => (p.trans e₂).trans e₁) fun _ _ f => f
theorem ev_neg {e : Expr} {pos : Pos} (h : Ev C e σ H fun t H₁ => ∃ i, t = .int i ∧ Q (.int (-i)) H₁) : Ev C (.UnaryOp .USub e pos) σ H Q := fun s x => by
  refine UnaryOp_ ((h s x).then fun v t s₁ H₁ e₁ m₁ d₁ q₁ => ?_)
  obtain ⟨i, rfl, q⟩ := q₁
  obtain ⟨tk, rfl⟩ := of_int d₁
  exact neg_int ((postW.toks _ m₁ den_int q).trans e₁)

/-- a < b < c, where a truth is asked -/
theorem ts_chain {l r₁ r₂ : Expr} {op₁ op₂ : CmpOp} {pos : Pos} {Q : Bool → AH → Prop}
    (h : Ev C l σ H fun a H₁ => Ev C r₁ σ H₁ fun b H₂ => Cmp C op₁ a b H₂ fun c H₃ => Tru C c H₃ fun t H₄ => if t = true then Ev C r₂ σ H₄ fun d H₅ => Cmp C op₂ b d H₅ fun c' H₆ => Tru C c' H₆ Q else Q false H₄)
    (hm : lastMarks [op₁, op₂] [r₁, r₂] = false := by with_unfolding_all rfl) : Ts C (.Compare l [op₁, op₂] [r₁, r₂] pos) σ H Q := fun s x => by
  refine isTrue_chain ((h s x).then fun v a s₁ H₁ e₁ m₁ d₁ q₁ => ?_) hm
  have x₁ := x.ext e₁ m₁
  refine test_link ((q₁ s₁ x₁).then fun w b s₂ H₂ e₂ m₂ d₂ q₂ => ?_)
  have x₂ := x₁.ext e₂ m₂
  refine (q₂ s₂ v w x₂.toBs (e₂.den d₁) d₂).then fun u c s₃ H₃ e₃ m₃ d₃ q₃ => ?_
  have x₃ := x₂.ext e₃ m₃
  refine (q₃ s₃ u x₃.toBs d₃).then fun t s₄ H₄ e₄ m₄ q₄ => ?_
  have x₄ := x₃.ext e₄ m₄
  have e14 := (e₁.trans e₂).trans (e₃.trans e₄)
  cases t with
  | false => exact ⟨H₄, e14, m₄, q₄⟩
  | true =>
    refine test_last ((q₄ s₄ x₄).then fun w' d s₅ H₅ e₅ m₅ d₅ q₅ => ?_)
    have x₅ := x₄.ext e₅ m₅
    refine (q₅ s₅ w w' x₅.toBs ((e₃.trans (e₄.trans e₅)).den d₂) d₅).then fun u' c' s₆ H₆ e₆ m₆ d₆ q₆ => ?_
    exact wpAny_mono (q₆ s₆ u' (x₅.ext e₆ m₆).toBs d₆) (fun _ _ p => ((p.trans e₆).trans e₅).trans e14) fun _ _ f => f

-- displays
theorem eva_list {es : List Expr} {pos : Pos} {QA : List PT → AH → Prop} (h : Evs C es σ H fun ts H₁ => ts.length ≤ 16777216 ∧ QA ts H₁) : EvA C (.List es pos) σ H QA := fun s x => by
  refine List_ (wpAny_mono (h pos s x) (fun vs s₁ p => ?_) fun _ _ f => f)
  obtain ⟨H₁, us, e₁, m₁, d₁, hl, q⟩ := p
  have hlen := d₁.length
  refine wpAny_newList ?_ (by rw [sizeLine_eq]; omega)
  have := postA.push (tk := s₁.toks) (lo := C.lo) (Q := QA) (us := us) (vs := vs.toArray) (x.ext e₁ m₁).lo m₁ (by simpa using d₁) q
  exact this.before e₁
theorem ev_tuple {es : List Expr} {k : Nat} {pos : Pos} (h : Evs C es σ H fun ts H₁ => ts.length ≤ 16777216 ∧ Q (.tup ts) H₁) : Ev C (.Tuple es k pos) σ H Q := fun s x => by
  refine Tuple_ (wpAny_mono (h pos s x) (fun vs s₁ p => ?_) fun _ _ f => f)
  obtain ⟨H₁, us, e₁, m₁, d₁, hl, q⟩ := p
  have hlen := d₁.length
  have hn : H₁ s₁.heap.objs.size = Option.none := by
    cases z : H₁ s₁.heap.objs.size with
    | none => rfl
    | some ts => obtain ⟨_, ⟨_, h1⟩, _⟩ := m₁ _ ts z; exact absurd (Heap.lt_size h1) (Nat.lt_irrefl _)
  have ke := Ext.of_keeps H₁ (push_keeps s₁ { cls := .type "tuple", data := .seq vs.toArray })
  refine wpAny_newObj_type ?_ (by show vs.toArray.size ≤ sizeLine; rw [List.size_toArray, sizeLine_eq]; omega)
  exact ⟨H₁, .tup us, e₁.trans ke, ke.muts m₁, by simp only [Den]; exact ⟨_, vs.toArray, rfl, hn, ⟨0, Heap.get?_push_size _ rfl⟩, by simpa using ke.dens d₁⟩, q⟩
end


/-- a tree that is a list with these items -/
def Lv (H : AH) (t : PT) (ts : List PT) : Prop := t = .lst ts ∨ ∃ a, t = .mut a ∧ H a = some ts
theorem lv_lst {H : AH} {ts : List PT} : Lv H (.lst ts) ts := .inl rfl
theorem lv_mut {H : AH} {a : Addr} {ts : List PT} (h : H a = some ts) : Lv H (.mut a) ts := .inr ⟨a, rfl, h⟩
theorem Lv.at {H : AH} {t : PT} {ts : List PT} {h : Heap} {v : Value} (l : Lv H t ts) (m : Muts h H) (d : Den h H t v) : ∃ a vs, v = .ref a ∧ h.PlainList a vs ∧ Dens h H ts vs.toList := by
  rcases l with rfl | ⟨a, rfl, e⟩
  · obtain ⟨a, vs, rfl, _, h2, h3⟩ := of_lst d
    exact ⟨a, vs, rfl, h2, h3⟩
  · obtain ⟨rfl, _⟩ := of_mut d
    obtain ⟨vs, h2, h3⟩ := m a ts e
    exact ⟨a, vs, rfl, h2, h3⟩
theorem itr_lv {C : Cx} {H : AH} {t : PT} {ts : List PT} (l : Lv H t ts) : Itr C H t ts false := by
  rcases l with rfl | ⟨a, rfl, e⟩
  · exact itr_lst
  · exact itr_mut e fun q => (nomatch q)

theorem dens_drop {h : Heap} {H : AH} : ∀ (n : Nat) {ts : List PT} {vs : List Value}, Dens h H ts vs → Dens h H (ts.drop n) (vs.drop n)
  | 0, _, _, d => by simpa using d
  | n + 1, [], _, d => by cases of_nil d; simpa using dens_nil
  | n + 1, t :: ts, vs, d => by
    obtain ⟨v, r, rfl, h1, h2⟩ := of_cons d
    simpa using dens_drop n h2
theorem dens_take {h : Heap} {H : AH} : ∀ (n : Nat) {ts : List PT} {vs : List Value}, Dens h H ts vs → Dens h H (ts.take n) (vs.take n)
  | 0, _, _, d => by simpa using dens_nil
  | n + 1, [], _, d => by cases of_nil d; simpa using dens_nil
  | n + 1, t :: ts, vs, d => by
    obtain ⟨v, r, rfl, h1, h2⟩ := of_cons d
    simpa using dens_cons h1 (dens_take n h2)
theorem dens_cut {h : Heap} {H : AH} {lo hi : Option Int} {ts : List PT} {vs : List Value} (d : Dens h H ts vs) : Dens h H (cut lo hi ts) (cut lo hi vs) := by
  unfold cut
  rw [d.length]
  exact dens_take _ (dens_drop _ d)

section
variable {C : Cx} {σ : Sg} {H : AH} {Q : PT → AH → Prop}

/-- an item or a slice of a value -/
def Sub (C : Cx) (o i : PT) (H : AH) (Q : PT → AH → Prop) : Prop := ∀ s v w, Bs C H s → Den s.heap H o v → Den s.heap H i w →
  ∃ T id, s.TypeIs v T ∧ typeLookup (.type T) "__getitem__" = pure (some (.builtin id)) ∧ Wp C H (getItem v w) s Q
theorem ev_sub {value slice : Expr} {pos : Pos} (h : Ev C value σ H fun o H₁ => Ev C slice σ H₁ fun i H₂ => Sub C o i H₂ Q)
    (hs : ∀ o i, subscripted slice false o i = operate [o, i] (getItem o i) := by intro _ _; rfl) : Ev C (.Subscript value slice pos) σ H Q := fun s x => by
  refine Subscript_ ((h s x).then fun v a s₁ H₁ e₁ m₁ d₁ q₁ => ?_)
  have x₁ := x.ext e₁ m₁
  refine (q₁ s₁ x₁).then fun w b s₂ H₂ e₂ m₂ d₂ q₂ => ?_
  obtain ⟨T, id, h1, h2, h3⟩ := q₂ s₂ v w (x₁.ext e₂ m₂).toBs (e₂.den d₁) d₂
  exact tail_any h1 h2 (wpAny_mono h3 (fun _ _ p => (p.trans e₂).trans e₁) fun _ _ f => f) (hs v w)

/-- the place that an index means -/
def place (i : Int) (n : Nat) : Nat := (if i < 0 then i + n else i).toNat
theorem place_nonneg {i : Int} {n : Nat} (h : 0 ≤ i) : place i n = i.toNat := by simp [place, Int.not_lt.mpr h]
theorem place_neg {i : Int} {n : Nat} (h : i < 0) : place i n = (i + n).toNat := by simp [place, h]

theorem sub_lst {o : PT} {ts : List PT} {i : Int} {t : PT} (l : Lv H o ts) (h1 : -(ts.length : Int) ≤ i) (h2 : i < ts.length) (hb : ts.length ≤ 16777216) (ht : ts[place i ts.length]? = some t) (q : Q t H) : Sub C o (.int i) H Q := fun s v w x hv hw => by
  obtain ⟨a, vs, rfl, hl, hd⟩ := l.at x.muts hv
  obtain ⟨tk, rfl⟩ := of_int hw
  have hlen : vs.size = ts.length := by have := hd.length; simpa using this
  obtain ⟨u, hu, hdu⟩ := hd.get ht
  have hu' : vs[place i ts.length]? = some u := by simpa using hu
  refine ⟨"list", _, hl.isList.typeIs, slot_list_getitem.lookup, ?_⟩
  by_cases h0 : 0 ≤ i
  · exact wpAny_getItem_list hl.isList h0 (by omega) (by rw [place_nonneg h0] at hu'; exact hu') (postW.same x.muts hdu q)
  · have h0' : i < 0 := by omega
    exact wpAny_getItem_list_neg hl.isList h0' (by rw [hlen]; exact h1) (by omega) (by rw [place_neg h0', ← hlen] at hu'; exact hu') (postW.same x.muts hdu q)
theorem seqIndex_place {i : Int} {n : Nat} (h1 : -(n : Int) ≤ i) (h2 : i < n) : seqIndex? i n = some (place i n) := by
  unfold seqIndex? place
  by_cases h : i < 0
  · simp only [h, if_true]
    rw [if_pos]
    simp only [Bool.and_eq_true, decide_eq_true_eq]; omega
  · simp only [h, if_false]
    rw [if_pos]
    simp only [Bool.and_eq_true, decide_eq_true_eq]; omega
theorem sub_tup {ts : List PT} {i : Int} {t : PT} (h1 : -(ts.length : Int) ≤ i) (h2 : i < ts.length) (hb : ts.length ≤ 16777216) (ht : ts[place i ts.length]? = some t) (q : Q t H) : Sub C (.tup ts) (.int i) H Q := fun s v w x hv hw => by
  obtain ⟨a, vs, rfl, _, hl, hd⟩ := of_tup hv
  obtain ⟨tk, rfl⟩ := of_int hw
  have hlen : vs.size = ts.length := by have := hd.length; simpa using this
  obtain ⟨u, hu, hdu⟩ := hd.get ht
  have ht' : IsTup s.heap a vs := let ⟨n, e⟩ := hl; ⟨_, e, rfl, n, rfl⟩
  exact ⟨"tuple", _, ht'.typeIs, slot_tuple_getitem.lookup, PyProof.Rows.getItem_tuple ht' (by omega) (by omega) (seqIndex_place (by omega) (by omega)) (by rw [hlen]; simpa using hu) (postW.same x.muts hdu q)⟩
theorem sub_str {l : Str} {i : Int} {c : Nat} (h1 : -(l.length : Int) ≤ i) (h2 : i < l.length) (hb : l.length ≤ 16777216) (hc : l.cps.toList[place i l.length]? = some c) (q : Q (.str (tx [c])) H) : Sub C (.str l) (.int i) H Q := fun s v w x hv hw => by
  obtain ⟨t, rfl⟩ := of_str hv
  obtain ⟨tk, rfl⟩ := of_int hw
  refine ⟨"str", _, typeIs_str _ _ _, F.slot_str_getitem.lookup, ?_⟩
  refine PyProof.Rows.getItem_str (c := c) (by simp only [Bool.or_eq_false_iff, decide_eq_false_iff_not]; omega) ?_ (postW.toks _ x.muts den_str q)
  rw [seqIndex_place h1 h2]
  show l.cps[place i l.length]? = some c
  simpa using hc

/-- a part of a slice -/
def Evo (C : Cx) (e : Option Expr) (σ : Sg) (H : AH) (Q : PT → AH → Prop) : Prop := ∀ s, Sv C σ H s → Wp C H (evalPart e C.env) s Q
theorem evo_none (q : Q .none H) : Evo C Option.none σ H Q := fun s x => wpAny_evalPart_none (postW.same x.muts den_none q)
theorem evo_some {e : Expr} (h : Ev C e σ H Q) : Evo C (some e) σ H Q := fun s x => wpAny_evalPart_some (h s x)
/-- the bound that a part of a slice says -/
inductive Prt : PT → Option Int → Prop where
  | none : Prt .none Option.none
  | int {i : Int} : Prt (.int i) (some i)
theorem Prt.isPart {t : PT} {o : Option Int} {h : Heap} {H : AH} {v : Value} (p : Prt t o) (d : Den h H t v) : IsPart v o := by
  cases p with
  | none => cases of_none d; exact .none
  | int => obtain ⟨tk, rfl⟩ := of_int d; exact .int _ _

theorem keptPush (s₀ : Shared) : KeptByPush fun s => Keeps s₀ s := fun s ob k ⟨h, tk, e, hk⟩ => by
  subst e
  exact ⟨_, k, rfl, fun b o q => Heap.get?_push_of_some _ (hk b o q)⟩
theorem sub_slice_str {l : Str} {s : Shared} {t : Tok} {vl vu : Value} {lo hi : Option Int} (pl : IsPart vl lo) (pu : IsPart vu hi) (hb : l.length ≤ 16777216) {R : Value → Shared → Prop}
    (h : ∀ s' t', Keeps s s' → R (.str (tx (cut lo hi l.cps.toList)) t') s') :
    ItemOn C.M C.A no (.str l t) (.ref s.heap.objs.size) R { s with heap := s.heap.push { cls := .type "slice", data := .fields #[vl, vu, .none] } } := by
  have hsz : l.length ≤ sizeLine := by rw [sizeLine_eq]; exact hb
  cases pl with
  | none =>
    cases pu with
    | none => exact SBG.sliceItem_nn (keptPush s) (Mine.Keeps.refl s) (fun s' t' k => by rw [slice_tx]; exact h s' t' k) hsz
    | int j u => exact SBG.sliceItem_ns (keptPush s) (Mine.Keeps.refl s) (fun s' t' k => by rw [slice_tx]; exact h s' t' k) hsz
  | int i t =>
    cases pu with
    | none => exact SBG.sliceItem_sn (keptPush s) (Mine.Keeps.refl s) (fun s' t' k => by rw [slice_tx]; exact h s' t' k) hsz
    | int j u => exact SBG.sliceItem_ss (keptPush s) (Mine.Keeps.refl s) (fun s' t' k => by rw [slice_tx]; exact h s' t' k) hsz

/-- a slice of a text -/
theorem ev_slice_str {value : Expr} {lower upper : Option Expr} {p pos : Pos}
    (h : Ev C value σ H fun o H₁ => Evo C lower σ H₁ fun l H₂ => Evo C upper σ H₂ fun u H₃ => ∃ x lo hi, o = .str x ∧ Prt l lo ∧ Prt u hi ∧ x.length ≤ 16777216 ∧ Q (.str (tx (cut lo hi x.cps.toList))) H₃) :
    Ev C (.Subscript value (.Slice lower upper Option.none p) pos) σ H Q := fun s x => by
  refine Subscript_ ((h s x).then fun v a s₁ H₁ e₁ m₁ d₁ q₁ => ?_)
  have x₁ := x.ext e₁ m₁
  refine wpAny_Slice ((q₁ s₁ x₁).then fun vl l s₂ H₂ e₂ m₂ d₂ q₂ => ?_)
  have x₂ := x₁.ext e₂ m₂
  refine (q₂ s₂ x₂).then fun vu u s₃ H₃ e₃ m₃ d₃ q₃ => ?_
  obtain ⟨y, lo, hi, rfl, pl, pu, hb, q⟩ := q₃
  refine wpAny_evalPart_none ?_
  obtain ⟨tk, rfl⟩ := of_str d₁
  obtain ⟨T, id, h1, h2, h3⟩ := sub_slice_str (C := C) (s := s₃) (t := tk) (R := postW s H Q) (pl.isPart (e₃.den d₂)) (pu.isPart d₃) hb fun s' t' k => by
    have e := (e₁.trans (e₂.trans e₃)).trans (Ext.of_keeps H₃ k)
    exact ⟨H₃, _, e, (Ext.of_keeps H₃ k).muts m₃, den_str, q⟩
  exact tail_any (ops := [.ref s₃.heap.objs.size, .str y tk]) h2 h1 h3 rfl

/-- a slice of a list -/
theorem eva_slice {value : Expr} {lower upper : Option Expr} {p pos : Pos} {QA : List PT → AH → Prop}
    (h : Ev C value σ H fun o H₁ => Evo C lower σ H₁ fun l H₂ => Evo C upper σ H₂ fun u H₃ => ∃ ts lo hi, Lv H₃ o ts ∧ Prt l lo ∧ Prt u hi ∧ ts.length ≤ 16777216 ∧ QA (cut lo hi ts) H₃) :
    EvA C (.Subscript value (.Slice lower upper Option.none p) pos) σ H QA := fun s x => by
  refine Subscript_ ((h s x).then fun v a s₁ H₁ e₁ m₁ d₁ q₁ => ?_)
  have x₁ := x.ext e₁ m₁
  refine wpAny_Slice ((q₁ s₁ x₁).then fun vl l s₂ H₂ e₂ m₂ d₂ q₂ => ?_)
  have x₂ := x₁.ext e₂ m₂
  refine (q₂ s₂ x₂).then fun vu u s₃ H₃ e₃ m₃ d₃ q₃ => ?_
  have x₃ := x₂.ext e₃ m₃
  obtain ⟨ts, lo, hi, lv, pl, pu, hb, q⟩ := q₃
  refine wpAny_evalPart_none ?_
  obtain ⟨b, vs, rfl, hl, hd⟩ := lv.at m₃ ((e₂.trans e₃).den d₁)
  have hlen : vs.size = ts.length := by have := hd.length; simpa using this
  have k₄ := push_keeps s₃ { cls := .type "slice", data := .fields #[vl, vu, .none] }
  have e₄ := Ext.of_keeps H₃ k₄
  have hl₄ := hl.at fun o e => Keeps.get k₄ e
  refine tail_any (ops := [.ref s₃.heap.objs.size, .ref b]) hl₄.isList.typeIs slot_list_getitem.lookup ?_ rfl
  refine wpAny_getItem_list_slice (st := Option.none) hl₄.isList ⟨_, Heap.get?_push_size _ rfl, rfl, rfl⟩ (pl.isPart (e₃.den d₂)) (pu.isPart d₃) .none (by simp) ?_ (by rw [hlen, sizeLine_eq]; exact hb)
  have hpick : (slicePick vs lo hi Option.none).toList = cut lo hi vs.toList := by
    rw [slicePick_plain]; simp [cut]
  have hdc : Dens (s₃.heap.push { cls := .type "slice", data := .fields #[vl, vu, .none] }) H₃ (cut lo hi ts) (slicePick vs lo hi Option.none).toList := by
    rw [hpick]
    refine dens_cut ?_
    exact e₄.dens hd
  have := postA.push (s := { s₃ with heap := s₃.heap.push { cls := .type "slice", data := .fields #[vl, vu, .none] } }) (tk := s₃.toks) (lo := C.lo) (Q := QA) (x₃.ext e₄ (e₄.muts m₃)).lo (e₄.muts m₃) hdc q
  exact this.before ((e₁.trans (e₂.trans e₃)).trans e₄)
end


theorem of_one {h : Heap} {H : AH} {t : PT} {vs : List Value} (d : Dens h H [t] vs) : ∃ v, vs = [v] ∧ Den h H t v := by
  obtain ⟨v, r, rfl, h1, h2⟩ := of_cons d
  cases of_nil h2
  exact ⟨v, rfl, h1⟩
theorem of_two {h : Heap} {H : AH} {t u : PT} {vs : List Value} (d : Dens h H [t, u] vs) : ∃ v w, vs = [v, w] ∧ Den h H t v ∧ Den h H u w := by
  obtain ⟨v, r, rfl, h1, h2⟩ := of_cons d
  obtain ⟨w, rfl, h3⟩ := of_one h2
  exact ⟨v, w, rfl, h1, h3⟩
theorem of_three {h : Heap} {H : AH} {t u x : PT} {vs : List Value} (d : Dens h H [t, u, x] vs) : ∃ v w y, vs = [v, w, y] ∧ Den h H t v ∧ Den h H u w ∧ Den h H x y := by
  obtain ⟨v, r, rfl, h1, h2⟩ := of_cons d
  obtain ⟨w, y, rfl, h3, h4⟩ := of_two h2
  exact ⟨v, w, y, rfl, h1, h3, h4⟩

/-- a keeping end -/
theorem postW.kept {s : Shared} {H : AH} {Q : PT → AH → Prop} {v : Value} {u : PT} {h' : Heap} {tk : Nat} (hk : ∀ b o, s.heap.get? b = some o → h'.get? b = some o) (m : Muts s.heap H) (d : Den h' H u v) (q : Q u H) : postW s H Q v { s with heap := h', toks := tk } := by
  have e : Ext s H { s with heap := h', toks := tk } H := Ext.of_keeps H ⟨h', tk, rfl, hk⟩
  exact ⟨H, u, e, e.muts m, d, q⟩

section
variable {C : Cx} {σ : Sg} {H : AH} {Q : PT → AH → Prop}

theorem len_str' {x : Str} (q : Q (.int x.length) H) (h : x.length ≤ 16777216) : Blt C "len" [.str x] H Q := fun s vs x hv => by
  obtain ⟨v, rfl, hw⟩ := of_one hv
  obtain ⟨t, rfl⟩ := of_str hw
  exact len_str (by omega) (postW.toks _ x.muts den_int q)
theorem len_lst {t : PT} {ts : List PT} (l : Lv H t ts) (q : Q (.int ts.length) H) (h : ts.length ≤ 16777216) : Blt C "len" [t] H Q := fun s vs x hv => by
  obtain ⟨v, rfl, hw⟩ := of_one hv
  obtain ⟨a, ws, rfl, hl, hd⟩ := l.at x.muts hw
  have hlen : ws.size = ts.length := by have := hd.length; simpa using this
  refine PyProof.Rows.len_list hl.isList (by omega) ?_
  rw [hlen]
  exact postW.toks _ x.muts den_int q
theorem min_ints {a b : Int} (q : Q (.int (min a b)) H) : Blt C "min" [.int a, .int b] H Q := fun s vs x hv => by
  obtain ⟨v, w, rfl, hv, hw⟩ := of_two hv
  obtain ⟨t, rfl⟩ := of_int hv
  obtain ⟨u, rfl⟩ := of_int hw
  refine min_two_ints x.ok.hh fun h' tk hk => ?_
  split
  · rename_i h; rw [Int.min_eq_right (by omega)] at q; exact postW.kept hk x.muts den_int q
  · rename_i h; rw [Int.min_eq_left (by omega)] at q; exact postW.kept hk x.muts den_int q
theorem max_ints {a b : Int} (q : Q (.int (max a b)) H) : Blt C "max" [.int a, .int b] H Q := fun s vs x hv => by
  obtain ⟨v, w, rfl, hv, hw⟩ := of_two hv
  obtain ⟨t, rfl⟩ := of_int hv
  obtain ⟨u, rfl⟩ := of_int hw
  refine max_two_ints x.ok.hh fun h' tk hk => ?_
  split
  · rename_i h; rw [Int.max_eq_right (by omega)] at q; exact postW.kept hk x.muts den_int q
  · rename_i h; rw [Int.max_eq_left (by omega)] at q; exact postW.kept hk x.muts den_int q
theorem chr_int {i : Int} (h0 : 0 ≤ i) (h1 : i ≤ 1114111) (q : Q (.str (tx [i.toNat])) H) : Blt C "chr" [.int i] H Q := fun s vs x hv => by
  obtain ⟨v, rfl, hw⟩ := of_one hv
  obtain ⟨t, rfl⟩ := of_int hw
  exact P.chr_of_int (by simp only [Bool.or_eq_false_iff, decide_eq_false_iff_not]; omega) (postW.toks _ x.muts den_str q)
theorem abs_int {i : Int} (q : Q (.int i.natAbs) H) : Blt C "abs" [.int i] H Q := fun s vs x hv => by
  obtain ⟨v, rfl, hw⟩ := of_one hv
  obtain ⟨t, rfl⟩ := of_int hw
  refine call_abs_int fun u tk => ?_
  have e : (if i < 0 then -i else i) = ((i.natAbs : Nat) : Int) := by split <;> omega
  rw [e]
  exact postW.toks _ x.muts den_int q

-- ranges
theorem den_rng_push {s : Shared} {H : AH} {a b c : Int} {t u w : Tok} (hn : H s.heap.objs.size = Option.none) :
    Den (s.heap.push { cls := .type "range", data := .fields #[.int a t, .int b u, .int c w] }) H (.rng a b c) (.ref s.heap.objs.size) := by
  simp only [Den]; exact ⟨_, t, u, w, rfl, hn, Heap.get?_push_size _ rfl⟩
theorem size_none {s : Shared} {H : AH} (m : Muts s.heap H) : H s.heap.objs.size = Option.none := by
  cases z : H s.heap.objs.size with
  | none => rfl
  | some ts => obtain ⟨_, ⟨_, h1⟩, _⟩ := m _ ts z; exact absurd (Heap.lt_size h1) (Nat.lt_irrefl _)
theorem range1 {n : Int} (q : Q (.rng 0 n 1) H) : Typ C "range" [.int n] H Q := fun s vs x hv => by
  obtain ⟨v, rfl, hw⟩ := of_one hv
  obtain ⟨t, rfl⟩ := of_int hw
  exact call_range_1 (postW.kept (fun b o e => Heap.get?_push_of_some _ e) x.muts (den_rng_push (size_none x.muts)) q)
theorem range2 {a b : Int} (q : Q (.rng a b 1) H) : Typ C "range" [.int a, .int b] H Q := fun s vs x hv => by
  obtain ⟨v, w, rfl, hv, hw⟩ := of_two hv
  obtain ⟨t, rfl⟩ := of_int hv
  obtain ⟨u, rfl⟩ := of_int hw
  exact call_range_2 (postW.kept (fun b o e => Heap.get?_push_of_some _ e) x.muts (den_rng_push (size_none x.muts)) q)
theorem range3 {a b c : Int} (h : 0 < c) (h' : c < 1000000) (q : Q (.rng a b c) H) : Typ C "range" [.int a, .int b, .int c] H Q := fun s vs x hv => by
  obtain ⟨v, w, y, rfl, hv, hw, hy⟩ := of_three hv
  obtain ⟨t, rfl⟩ := of_int hv
  obtain ⟨u, rfl⟩ := of_int hw
  obtain ⟨r, rfl⟩ := of_int hy
  exact call_range_3 (by omega) (postW.kept (fun b o e => Heap.get?_push_of_some _ e) x.muts (den_rng_push (size_none x.muts)) q) (.inl (PyProof.noPylong_small (by omega)))
theorem rng_fits {a b c : Int} {n : Nat} (h : Builtin.Range.rangeSize a b c = (n : Int)) (ha : -1000000000 ≤ a) (ha' : a ≤ 1000000000) (hb : -1000000000 ≤ b) (hb' : b ≤ 1000000000) (hc : 0 < c) (hc' : c ≤ 1000000) (hn : n ≤ 1000000000) : Builtin.Range.small a b c = true := by
  unfold Builtin.Range.small Builtin.Range.rangeFitsLong
  rw [h]
  simp only [Bool.and_eq_true, decide_eq_true_eq, Bool.or_eq_true]
  refine ⟨⟨⟨⟨?_, ?_⟩, ?_⟩, ?_⟩, .inr ?_⟩ <;> first | omega | (rw [if_pos (by omega)]; simp only [Bool.and_eq_true, decide_eq_true_eq]; omega)
theorem rng1_size (b : Nat) : Builtin.Range.rangeSize 0 (b : Int) 1 = (b : Int) := by
  rw [rangeSize_one]; split <;> omega
/-- the numbers from 0 on -/
theorem itr_upto {n : Nat} {fr : Bool} (h : n ≤ 1000000000) : Itr C H (.rng 0 n 1) (rngL 0 1 n) fr :=
  itr_rng (rng_fits (rng1_size n) (by omega) (by omega) (by omega) (by omega) (by omega) (by omega) h) (rng1_size n)

theorem itemsOf_dens {h : Heap} {H : AH} {a c : Int} {acc : Array Value} {n : Nat} (x : ItemsOf (fun i v => ∃ t, v = .int (a + i * c) t) acc n) : Dens h H (rngL a c n) acc.toList := by
  refine Dens.of_get (by simp [rngL_length, x.1]) fun i t v h1 h2 => ?_
  have hi : i < n := by
    rcases Nat.lt_or_ge i n with q | q
    · exact q
    · rw [List.getElem?_eq_none (by rw [rngL_length]; exact q)] at h1; cases h1
  rw [rngL_get hi] at h1; cases h1
  obtain ⟨t, rfl⟩ := x.2 i v (by simpa using h2)
  exact den_int

/-- list(range(..)), as a new list -/
theorem eva_call_list_rng {g : Str} {p pos : Pos} {e : Expr} {QA : List PT → AH → Prop} (hg : Ev C (.Name g p) σ H fun f H₁ => f = .oth (.type "list") ∧ Ev C e σ H₁ fun t H₂ => ∃ a b c n, t = .rng a b c ∧ Builtin.Range.small a b c = true ∧ Builtin.Range.rangeSize a b c = ((n : Nat) : Int) ∧ n ≤ 16777216 ∧ QA (rngL a c n) H₂)
    (he : starEach [e] C.env = [(false, eval e C.env)] := by rfl) : EvA C (.Call (.Name g p) [e] [] pos) σ H QA := fun s x => by
  refine wpAny_Call_NameR ((hg s x).then fun v t s₁ H₁ e₁ m₁ d₁ q₁ => ?_)
  obtain ⟨rfl, q₁⟩ := q₁
  cases of_oth d₁
  have x₁ := x.ext e₁ m₁
  refine callWith_any (by rw [he]; rfl) ?_
  rw [he]
  show wpAny _ _ (spliced [(false, eval e C.env)]) _ _ _
  refine Calls.spliced_cons ((q₁ s₁ x₁).then fun w u s₂ H₂ e₂ m₂ d₂ q₂ => Calls.spliced_nil ⟨keeper_type, ?_⟩)
  obtain ⟨a, b, c, n, rfl, h1, h2, h3, q⟩ := q₂
  obtain ⟨r, t, u, y, rfl, h4, h5⟩ := of_rng d₂
  refine call_list_range x.ok.hh h5 h1 h2 (by omega) fun h' tk acc c' hk hl hi => ?_
  have k : Keeps s₂ { s₂ with heap := h', toks := tk } := ⟨h', tk, rfl, hk⟩
  have e₃ := Ext.of_keeps H₂ k
  have x₂ := x₁.ext e₂ m₂
  have hn := size_none m₂
  refine postA.before (e₁.trans e₂) ⟨H₂, s₂.heap.objs.size, rngL a c n, acc, rfl, x₂.lo, get_size_none _, e₃, hn, ⟨_, hl⟩, e₃.muts m₂, itemsOf_dens hi, fun b' ts z => ?_, q⟩
  by_cases w : b' = s₂.heap.objs.size
  · subst w
    rw [hup_same] at z; cases z
    exact ⟨acc, ⟨_, hl⟩, itemsOf_dens hi⟩
  · rw [hup, if_neg w] at z
    obtain ⟨ws, h6, h7⟩ := m₂ b' ts z
    refine ⟨ws, h6.at fun o e => hk b' o e, Dens.mono' (fun d o _ e q => ⟨hk d o e, hup_ne (Nat.ne_of_lt (Heap.lt_size e)) q⟩) ts _ (.inr fun d q => ?_) h7⟩
    by_cases w' : d = s₂.heap.objs.size
    · rw [w', hup_same]; simp
    · rw [hup_ne w' rfl]; exact q

-- texts
theorem mth_lower {x : Str} : Mth C (.str x) "lower" "str.lower" H := fun s v b d => by
  obtain ⟨t, rfl⟩ := of_str d
  exact ⟨"str", F.plainAttrs_str, F.slot_str_lower, F.type_str_lower, typeIs_str _ _ _, fun a e => nomatch e⟩
theorem lower_str {x : Str} (h : x.length ≤ 5592405) (q : Q (.str (Txt.lower x)) H) : Blt C "str.lower" [.str x] H Q := fun s vs b d => by
  obtain ⟨v, rfl, hw⟩ := of_one d
  obtain ⟨t, rfl⟩ := of_str hw
  refine call_gives F.slot_str_lower (typeIs_str s x t) F.entry_str_lower (F.args_str_lower_1 _) (gives_str_lower x t (fit_lower h)) ⟨?_, postW.toks _ b.muts den_str q⟩
  have := fit_lower h
  unfold Builtin.Str.tooLong at this
  have h' : (Txt.lower x).length ≤ sizeLine := by simpa using this
  exact h'
theorem mth_join {x : Str} : Mth C (.str x) "join" "str.join" H := fun s v b d => by
  obtain ⟨t, rfl⟩ := of_str d
  exact ⟨"str", F.plainAttrs_str, F.slot_str_join, F.type_str_join, typeIs_str _ _ _, fun a e => nomatch e⟩
end


section
variable {C : Cx} {σ : Sg} {H : AH} {R : Fl → Sg → AH → Prop}

theorem mth_append {t : PT} {ts : List PT} (l : Lv H t ts) : Mth C t "append" "list.append" H := fun s v b d => by
  obtain ⟨a, vs, rfl, ⟨n, e⟩, _⟩ := l.at b.muts d
  exact ⟨"list", F.plainAttrs_list, F.slot_list_append, F.type_list_append, ⟨_, e, rfl⟩, fun a' q => by cases q; exact ⟨_, e, rfl⟩⟩
theorem mth_extend {t : PT} {ts : List PT} (l : Lv H t ts) : Mth C t "extend" "list.extend" H := fun s v b d => by
  obtain ⟨a, vs, rfl, ⟨n, e⟩, _⟩ := l.at b.muts d
  exact ⟨"list", F.plainAttrs_list, F.slot_list_extend, F.type_list_extend, ⟨_, e, rfl⟩, fun a' q => by cases q; exact ⟨_, e, rfl⟩⟩

/-- x.append(e) -/
theorem ex_append {o e : Expr} {apos pos' pos : Pos}
    (h : Ev C o σ H fun t H₁ => ∃ a, t = .mut a ∧ C.lo ≤ a ∧ (∃ ts, H₁ a = some ts) ∧ Ev C e σ H₁ fun u H₂ => ∃ ts, H₂ a = some ts ∧ ts.length ≤ 16777216 ∧ R .next σ (hup H₂ a (ts ++ [u])))
    (hbase : attributeBase o "append" C.env (eval o C.env) = eval o C.env := by rfl)
    (he : starEach [e] C.env = [(false, eval e C.env)] := by rfl) (hline : (apos.endLine == pos'.line) = true := by rfl)
    (hi : interactive C.env = false := by rfl) (hsw : swapsWith (.Call (.Attribute o "append" apos) [e] [] pos') Option.none pos.line C.env = pure false := by rfl) :
    Ex C (.Expr (.Call (.Attribute o "append" apos) [e] [] pos') pos) σ H R := fun s x => by
  refine wpAny_Expr_any ?_ hi hsw
  refine wpAny_Call_method_late hbase (by rw [he]; rfl) hline rfl ((h s x.toSv).then fun v t s₁ H₁ e₁ m₁ d₁ q₁ => ?_)
  have x₁ := x.ext e₁ m₁
  obtain ⟨a, rfl, hlo, ⟨ts₀, ht₀⟩, q₁⟩ := q₁
  obtain ⟨T, p1, p2, p3, p4, p5⟩ := mth_append (C := C) (lv_mut ht₀) s₁ v x₁.toBs d₁
  refine ⟨T, _, p1, p2, p3, p4, p5, ?_⟩
  refine callWith_any (by rw [he]; rfl) ?_
  rw [he]
  show wpAny _ _ (spliced [(false, eval e C.env)]) _ _ _
  refine Calls.spliced_cons ((q₁ s₁ x₁.toSv).then fun w u s₂ H₂ e₂ m₂ d₂ q₂ => Calls.spliced_nil ⟨keeper_builtin, ?_⟩)
  have x₂ := x₁.ext e₂ m₂
  obtain ⟨ts, ht, hb, r⟩ := q₂
  obtain ⟨rfl, _⟩ := of_mut d₁
  obtain ⟨vs, hl, hd⟩ := m₂ a ts ht
  have hlen : vs.size = ts.length := by have := hd.length; simpa using this
  refine wpAny_list_append_plain (hsz := by rw [hlen, sizeLine_eq]; exact hb) hl fun h' hl' hs' => ?_
  have hw := st_write (us := ts ++ [u]) (tk := s₂.toks) x₂ ht hlo hl' hs' (by rw [Array.toList_push]; exact hd.append (dens_cons d₂ dens_nil))
  exact ⟨.next, σ, _, hw.1, ((Kp.of_ext e₁).trans (Kp.of_ext e₂)).trans hw.2, rfl, r⟩

theorem tooLong_no {n : Nat} (h : n ≤ 16777216) : Builtin.List.listTooLong n = false := by
  unfold Builtin.List.listTooLong
  simp only [decide_eq_false_iff_not]
  have := sizeLine_eq
  omega

/-- what list.extend and += do -/
theorem extend_at {s : Shared} {a b : Addr} {vs ws : Array Value} {n : Nat} (h1 : s.heap.get? a = some { cls := .type "list", data := .seq vs n }) :
    (s.heap.update a (Obj.mapSeq fun x => x ++ ws)).PlainList a (vs ++ ws) := by
  have e := Heap.get?_update_self (Obj.mapSeq fun x => x ++ ws) h1 rfl
  exact ⟨_, e⟩

/-- x.extend(e) -/
theorem ex_extend {o e : Expr} {apos pos' pos : Pos}
    (h : Ev C o σ H fun t H₁ => ∃ a, t = .mut a ∧ C.lo ≤ a ∧ (∃ ts, H₁ a = some ts) ∧ Ev C e σ H₁ fun u H₂ => ∃ ts us, H₂ a = some ts ∧ Lv H₂ u us ∧ ts.length + us.length ≤ 16777216 ∧ R .next σ (hup H₂ a (ts ++ us)))
    (hbase : attributeBase o "extend" C.env (eval o C.env) = eval o C.env := by rfl)
    (he : starEach [e] C.env = [(false, eval e C.env)] := by rfl) (hline : (apos.endLine == pos'.line) = true := by rfl)
    (hi : interactive C.env = false := by rfl) (hsw : swapsWith (.Call (.Attribute o "extend" apos) [e] [] pos') Option.none pos.line C.env = pure false := by rfl) :
    Ex C (.Expr (.Call (.Attribute o "extend" apos) [e] [] pos') pos) σ H R := fun s x => by
  refine wpAny_Expr_any ?_ hi hsw
  refine wpAny_Call_method_late hbase (by rw [he]; rfl) hline rfl ((h s x.toSv).then fun v t s₁ H₁ e₁ m₁ d₁ q₁ => ?_)
  have x₁ := x.ext e₁ m₁
  obtain ⟨a, rfl, hlo, ⟨ts₀, ht₀⟩, q₁⟩ := q₁
  obtain ⟨T, p1, p2, p3, p4, p5⟩ := mth_extend (C := C) (lv_mut ht₀) s₁ v x₁.toBs d₁
  refine ⟨T, _, p1, p2, p3, p4, p5, ?_⟩
  refine callWith_any (by rw [he]; rfl) ?_
  rw [he]
  show wpAny _ _ (spliced [(false, eval e C.env)]) _ _ _
  refine Calls.spliced_cons ((q₁ s₁ x₁.toSv).then fun w u s₂ H₂ e₂ m₂ d₂ q₂ => Calls.spliced_nil ⟨keeper_builtin, ?_⟩)
  have x₂ := x₁.ext e₂ m₂
  obtain ⟨ts, us, ht, lv, hb, r⟩ := q₂
  obtain ⟨rfl, _⟩ := of_mut d₁
  obtain ⟨vs, ⟨n, hl⟩, hd⟩ := m₂ a ts ht
  obtain ⟨b, ws, rfl, ⟨n2, hl2⟩, hd2⟩ := lv.at m₂ d₂
  have hlen : vs.size = ts.length := by have := hd.length; simpa using this
  have hlen2 : ws.size = us.length := by have := hd2.length; simpa using this
  have hsl := sizeLine_eq
  refine call_meets F.slot_list_extend ⟨_, hl, rfl⟩ F.entry_list_extend (F.args_list_extend_2 _ _) (AutoSeq1.list_extend_list_list_0 a vs n b ws n2 (by rw [tooLong_no (by omega)]; simp) (by omega) (by omega)) ⟨hl, hl2, ?_⟩
  have hw := st_write (us := ts ++ us) (tk := s₂.toks) x₂ ht hlo (extend_at (b := b) (ws := ws) hl) (Heap.SameBut.update ..) (by rw [Array.toList_append]; exact hd.append hd2)
  exact ⟨.next, σ, _, hw.1, ((Kp.of_ext e₁).trans (Kp.of_ext e₂)).trans hw.2, rfl, r⟩

theorem dens_set {h : Heap} {H : AH} {ts : List PT} {vs : Array Value} {k : Nat} {t : PT} {v : Value} (d : Dens h H ts vs.toList) (e : Den h H t v) : Dens h H (ts.set k t) (vs.setIfInBounds k v).toList := by
  refine Dens.of_get (by have := d.length; simpa using this) fun i u w h1 h2 => ?_
  have h2' : (vs.setIfInBounds k v)[i]? = some w := by rw [← Array.getElem?_toList]; exact h2
  rw [Array.getElem?_setIfInBounds] at h2'
  rw [List.getElem?_set] at h1
  have hlen : vs.size = ts.length := by have := d.length; simpa using this
  by_cases q : k = i
  · rw [if_pos q] at h1 h2'
    split at h1
    · rename_i hk
      rw [if_pos (by omega)] at h2'
      cases h1; cases h2'; exact e
    · cases h1
  · rw [if_neg q] at h1 h2'
    obtain ⟨w', e1, e2⟩ := d.get h1
    have e1' : vs[i]? = some w' := by simpa using e1
    rw [h2'] at e1'; cases e1'; exact e2

/-- an item is stored, the list stays plain -/
theorem setItem_plain {prog : Program} {w : World} {A : Around} {E : Value → Shared → Prop} {s : Shared} {l : Addr} {items : Array Value} {k : Int} {t : Tok} {v : Value} {Q : Unit → Shared → Prop} (hl : s.heap.PlainList l items)
    (h0 : 0 ≤ k) (hfit : k < 2 ^ 63) (hn : k < items.size)
    (hQ : ∀ h', h'.PlainList l (items.setIfInBounds k.toNat v) → Heap.SameBut l s.heap h' → Q () { s with heap := h' }) :
    wpAny (model prog w) A (setItem (.ref l) (.int k t) v) Q E s := by
  obtain ⟨n, e⟩ := hl
  exact ki_setAt e h0 hfit hn (hQ _ ⟨_, Heap.get?_update_self (Obj.mapSeq (·.setIfInBounds k.toNat v)) e rfl⟩ (Heap.SameBut.update ..))

/-- o[i] = e -/
theorem ex_setitem {o i e : Expr} {pos' pos : Pos}
    (h : Ev C e σ H fun u H₁ => Ev C o σ H₁ fun t H₂ => Ev C i σ H₂ fun k H₃ => ∃ a ts j, t = .mut a ∧ k = .int j ∧ C.lo ≤ a ∧ H₃ a = some ts ∧ 0 ≤ j ∧ j < ts.length ∧ ts.length ≤ 16777216 ∧ R .next σ (hup H₃ a (ts.set j.toNat u)))
    (hs : swapsWith e (some (.Subscript o i pos')) pos.line C.env = pure false := by rfl) : Ex C (.Assign [.Subscript o i pos'] e pos) σ H R := fun s x => by
  refine wpAny_Assign_Subscript ((h s x.toSv).then fun v u s₁ H₁ e₁ m₁ d₁ q₁ => ?_) hs
  have x₁ := x.ext e₁ m₁
  refine (q₁ s₁ x₁.toSv).then fun vo t s₂ H₂ e₂ m₂ d₂ q₂ => ?_
  have x₂ := x₁.ext e₂ m₂
  refine (q₂ s₂ x₂.toSv).then fun vi k s₃ H₃ e₃ m₃ d₃ q₃ => ?_
  have x₃ := x₂.ext e₃ m₃
  obtain ⟨a, ts, j, rfl, rfl, hlo, ht, h0, hj, hb, r⟩ := q₃
  obtain ⟨rfl, _⟩ := of_mut d₂
  obtain ⟨tk, rfl⟩ := of_int d₃
  obtain ⟨vs, hl, hd⟩ := m₃ a ts ht
  have hlen : vs.size = ts.length := by have := hd.length; simpa using this
  refine setItem_plain hl h0 (by omega) (by omega) fun h' hl' hs' => ?_
  have hw := st_write (us := ts.set j.toNat u) (tk := s₃.toks) x₃ ht hlo hl' hs' (dens_set hd ((e₂.trans e₃).den d₁))
  exact ⟨.next, σ, _, hw.1, (((Kp.of_ext e₁).trans (Kp.of_ext e₂)).trans (Kp.of_ext e₃)).trans hw.2, rfl, r⟩

/-- what an augmented assignment reckons -/
def Inp (C : Cx) (op : Operator) (a b : PT) (H : AH) (Q : PT → AH → Prop) : Prop :=
  ∀ s v w, Bs C H s → Den s.heap H a v → Den s.heap H b w → Wp C H (inplaceOp op v w) s Q
theorem inp_add {i j : Int} {Q : PT → AH → Prop} (q : Q (.int (i + j)) H) : Inp C .Add (.int i) (.int j) H Q := fun s v w x hv hw => by
  obtain ⟨t, rfl⟩ := of_int hv; obtain ⟨u, rfl⟩ := of_int hw
  exact iadd_int (postW.toks _ x.muts den_int q)
theorem inp_sub {i j : Int} {Q : PT → AH → Prop} (q : Q (.int (i - j)) H) : Inp C .Sub (.int i) (.int j) H Q := fun s v w x hv hw => by
  obtain ⟨t, rfl⟩ := of_int hv; obtain ⟨u, rfl⟩ := of_int hw
  exact isub_int (postW.toks _ x.muts den_int q)
theorem inp_adds {i j : Str} {Q : PT → AH → Prop} (q : Q (.str (i ++ j)) H) (h : i.length + j.length ≤ 16777216) : Inp C .Add (.str i) (.str j) H Q := fun s v w x hv hw => by
  obtain ⟨t, rfl⟩ := of_str hv; obtain ⟨u, rfl⟩ := of_str hw
  exact iadd_str (fun t' tk => postW.toks _ x.muts den_str q) (by rw [sizeLine_eq]; exact h)
/-- x op= e -/
theorem ex_aug {y : Str} {t : PT} {op : Operator} {e : Expr} {pos' pos : Pos} (ht : σ y = some t) (h : Ev C e σ H fun u H₁ => Inp C op t u H₁ fun r H₂ => R .next (upd σ y r) H₂) (hy : stb C y = true := by rfl)
    (hn : (y == ("__classdict__" : Str)) = false := by decide) : Ex C (.AugAssign (.Name y pos') op e pos) σ H R := fun s x => by
  refine wpAny_AugAssign_Name ?_
  have go : ∀ v, Den s.heap H t v → wpAny C.M C.A (eval e C.env) (fun v' s₂ => wpAny C.M C.A (inplaceOp op v v') (fun r s₃ => wpAny C.M C.A (storeName C.env y r) (fun _ => postS C s H R .next) no s₃) no s₂) no s := fun v d => by
    refine (h s x.toSv).then fun w u s₁ H₁ e₁ m₁ d₁ q₁ => ?_
    have x₁ := x.ext e₁ m₁
    refine (q₁ s₁ v w x₁.toBs (e₁.den d) d₁).then fun r' r s₂ H₂ e₂ m₂ d₂ q₂ => ?_
    exact st_store (x₁.ext e₂ m₂) d₂ hy fun s' x' z' => ⟨.next, _, H₂, x', ((Kp.of_ext e₁).trans (Kp.of_ext e₂)).trans z', rfl, q₂⟩
  by_cases hl : C.env.kindOf y = some .local
  · obtain ⟨m, h1, h2⟩ := x.ns
    obtain ⟨v, h3, h4⟩ := h2 y t ht hl
    exact wpAny_loadName_local x.ok.kind hl h1 h3 (go v h4)
  · obtain ⟨h1, c, v, h2, h3, h4⟩ := x.cells y t ht hl
    rcases h1 with h1 | h1
    · exact wpAny_loadName_cell x.ok.kind h1 h2 h3 (go v h4)
    · exact wpAny_loadName_free x.ok.kind h1 h2 h3 (go v h4) hn
end


section
variable {C : Cx} {σ : Sg} {H : AH}

/-- several targets, one behind the other -/
def Asgs (C : Cx) (es : List Expr) (ts : List PT) (σ : Sg) (H : AH) (R : Sg → AH → Prop) : Prop :=
  ∀ s vs, St C σ H s → Dens s.heap H ts vs → wpAny C.M C.A (assignInOrder ((assignEach es C.env).map (·.2)) vs) (fun _ s' => ∃ σ' H', St C σ' H' s' ∧ Kp C s H s' H' ∧ R σ' H') no s
theorem asgs_nil {R : Sg → AH → Prop} (r : R σ H) : Asgs C [] [] σ H R := fun s vs x d => by
  cases of_nil d
  exact wpAny_pure ⟨σ, H, x, Kp.refl C s H, r⟩
/-- a name, then others -/
theorem asgs_name {y : Str} {pos : Pos} {es : List Expr} {t : PT} {ts : List PT} {R : Sg → AH → Prop} (h : Asgs C es ts (upd σ y t) H R) (hy : stb C y = true := by rfl) : Asgs C (.Name y pos :: es) (t :: ts) σ H R := fun s vs x d => by
  obtain ⟨v, r, rfl, d1, d2⟩ := of_cons d
  show wpAny C.M C.A (assignInOrder (assign (.Name y pos) C.env :: (assignEach es C.env).map (·.2)) (v :: r)) _ _ s
  refine wpAny_assignInOrder_more (wpAny_assign_Name (st_store' x d1 hy fun s' x' k' up => ?_))
  refine wpAny_mono (h s' r x' (Dens.of_get d2.length fun i u w h1 h2 => ?_)) (fun _ s'' p => ?_) fun _ _ f => f
  · obtain ⟨w', e1, e2⟩ := d2.get h1
    rw [h2] at e1; cases e1
    exact up _ _ e2
  · obtain ⟨σ', H', h1, h2, h3⟩ := p
    exact ⟨σ', H', h1, k'.trans h2, h3⟩
theorem asg_tuple {es : List Expr} {k : Nat} {pos : Pos} {ts : List PT} {R : Sg → AH → Prop} (h : Asgs C es ts σ H R) (hn : (assignEach es C.env).length = ts.length := by rfl) (hstar : (assignEach es C.env).findIdx? (·.1) = Option.none := by rfl) :
    Asg C (.Tuple es k pos) (.tup ts) σ H R := fun s v x d => by
  obtain ⟨a, vs, rfl, h1, ⟨n, h2⟩, h3⟩ := of_tup d
  have hlen : vs.size = ts.length := by have := h3.length; simpa using this
  refine wpAny_assign_Tuple x.ok.hh ⟨_, h2, rfl, n, rfl⟩ (by rw [hlen]; exact hn) hstar fun h' hs' => ?_
  have k : Keeps s { s with heap := h' } := ⟨h', s.toks, rfl, fun b o e => hs' b o (Nat.ne_of_lt (Heap.lt_size e)) e⟩
  have e := Ext.of_keeps H k
  refine wpAny_mono (h { s with heap := h' } vs.toList (x.ext e (e.muts x.muts)) (e.dens h3)) (fun _ s'' p => ?_) fun _ _ f => f
  obtain ⟨σ', H', q1, q2, q3⟩ := p
  exact ⟨σ', H', q1, (Kp.of_ext e).trans q2, q3⟩

/-- a, b = .., ..: the stores are made from behind -/
theorem ex_swap {R : Fl → Sg → AH → Prop} {es vs : List Expr} {k k' : Nat} {p p' pos : Pos} {names : List Str} (hsw : swappedStores [.Tuple es k p] (.Tuple vs k' p') C.env = pure (some names))
    (h : Evs C vs σ H fun ts H₁ => ts.length = names.length ∧ ts.length ≤ 16777216 ∧ R .next (upds names.reverse ts.reverse σ) H₁)
    (hs : swapsWithSole [.Tuple es k p] (.Tuple vs k' p') pos.line C.env = pure false := by rfl) (hst : names.all (stb C) = true) : Ex C (.Assign [.Tuple es k p] (.Tuple vs k' p') pos) σ H R := fun s x => by
  rw [exec_Assign_arm]
  refine wpAny_bind (wpAny_standAt ?_)
  rw [hs]
  refine wpAny_bind (wpAny_pure ?_)
  rw [if_neg (by decide)]
  have hv : Ev C (.Tuple vs k' p') σ H fun t H₁ => ∃ ts, t = .tup ts ∧ ts.length = names.length ∧ R .next (upds names.reverse ts.reverse σ) H₁ :=
    ev_tuple fun pos s x => wpAny_mono (h pos s x) (fun _ _ ⟨H', us, h1, h2, h3, h4, h5, h6⟩ => ⟨H', us, h1, h2, h3, h5, us, rfl, h4, h6⟩) fun _ _ f => f
  refine wpAny_bind ((hv s x.toSv).then fun v t s₁ H₁ e₁ m₁ d₁ q₁ => ?_)
  obtain ⟨ts, rfl, hl, r⟩ := q₁
  have x₁ := x.ext e₁ m₁
  rw [hsw]
  refine wpAny_bind (wpAny_pure ?_)
  show wpAny C.M C.A (do rule "assign.swapped-stores"; let items ← unpackItems v names.length Option.none; assignInOrder (names.reverse.map fun n => bindName C.env n) items.reverse; pure Flow.next) _ _ s₁
  refine wpAny_bind (wpAny_rule ?_)
  obtain ⟨a, ws, rfl, h1, ⟨n, h2⟩, h3⟩ := of_tup d₁
  have hlen : ws.size = ts.length := by have := h3.length; simpa using this
  refine wpAny_bind ?_
  rw [← hl, ← hlen]
  refine wpAny_unpackItems_tuple x.ok.hh ⟨_, h2, rfl, n, rfl⟩ fun h' hs' => ?_
  have kk : Keeps s₁ { s₁ with heap := h' } := ⟨h', s₁.toks, rfl, fun b o e => hs' b o (Nat.ne_of_lt (Heap.lt_size e)) e⟩
  have e₂ := Ext.of_keeps H₁ kk
  have x₂ := x₁.ext e₂ (e₂.muts m₁)
  have d₂ : Dens h' H₁ ts ws.toList := e₂.dens h3
  have rev : ∀ {ts : List PT} {vs : List Value} {h : Heap}, Dens h H₁ ts vs → Dens h H₁ ts.reverse vs.reverse := by
    intro ts vs h d
    induction ts generalizing vs with
    | nil => cases of_nil d; simpa using dens_nil
    | cons t ts ih =>
      obtain ⟨v, r, rfl, q1, q2⟩ := of_cons d
      rw [List.reverse_cons, List.reverse_cons]
      exact (ih q2).append (dens_cons q1 dens_nil)
  have all : ∀ (ns : List Str) (us : List PT) (xs : List Value) (σ' : Sg) (s' : Shared), (∀ n ∈ ns, stb C n = true) → us.length = ns.length → St C σ' H₁ s' → Dens s'.heap H₁ us xs →
      wpAny C.M C.A (assignInOrder (ns.map fun n => bindName C.env n) xs) (fun _ s'' => St C (upds ns us σ') H₁ s'' ∧ Kp C s' H₁ s'' H₁) no s' := by
    intro ns
    induction ns with
    | nil =>
      intro us xs σ' s' _ hl' x' d'
      have : us = [] := List.length_eq_zero_iff.mp hl'
      subst this
      cases of_nil d'
      exact wpAny_pure ⟨x', Kp.refl C s' H₁⟩
    | cons y ns ih =>
      intro us xs σ' s' hst' hl' x' d'
      cases us with
      | nil => simp at hl'
      | cons u us =>
        obtain ⟨v, r, rfl, q1, q2⟩ := of_cons d'
        show wpAny C.M C.A (assignInOrder (bindName C.env y :: ns.map fun n => bindName C.env n) (v :: r)) _ _ s'
        refine wpAny_assignInOrder_more (wpAny_bindName (st_store' x' q1 (hst' y (.head _)) fun s₃ x₃ k₃ up => ?_))
        refine wpAny_mono (ih us r (upd σ' y u) s₃ (fun n hn => hst' n (.tail _ hn)) (by simpa using hl') x₃ (Dens.of_get q2.length fun i z w h1 h2 => ?_)) (fun _ s₄ p => ⟨p.1, k₃.trans p.2⟩) fun _ _ f => f
        obtain ⟨w', e1, e2⟩ := q2.get h1
        rw [h2] at e1; cases e1
        exact up _ _ e2
  refine wpAny_bind (wpAny_mono (all names.reverse ts.reverse ws.toList.reverse σ { s₁ with heap := h' } (fun n hn => List.all_eq_true.mp hst n (List.mem_reverse.mp hn)) (by simp [hl]) x₂ (rev d₂)) (fun _ s₃ p => wpAny_pure ?_) fun _ _ f => f)
  exact ⟨.next, _, H₁, p.1, ((Kp.of_ext e₁).trans (Kp.of_ext e₂)).trans p.2, rfl, r⟩
end


/-- the k-th statement of the top, a def -/
def fnAt (p : Program) (k : Nat) : Arguments × List Stmt × Scope := match p.main.body[k]? with
  | some (.FunctionDef _ a b _ _ _ sc _ _ _) => (a, b, sc)
  | _ => (⟨[], [], Option.none, [], [], Option.none, []⟩, [], default)

/-- a def of the top, where it stands -/
structure FnIs (G : Gx) (p : Program) (n : Str) (k : Nat) (f : Addr) : Prop where
  mg : G.mg n = some (.ref f)
  obj : ∃ o pm cd doc, G.h₀.get? f = some o ∧ o.data = .func (Calls.docDef n (fnAt p k).1 (fnAt p k).2.1 (fnAt p k).2.2 pm cd doc) ∧ G.h₀.CodeRec cd n

/-- the spec of a def, out of its body's -/
theorem FnIs.spec {G : Gx} {p : Program} {n : Str} {k : Nat} {f : Addr} (F : FnIs G p n k f) {d : Nat} {xs : List Str} {ts : List PT} {H : AH} {Q : PT → Prop}
    (hbind : ∀ pm cd doc vs, vs.length = ts.length → bindArgs (Calls.docDef n (fnAt p k).1 (fnAt p k).2.1 (fnAt p k).2.2 pm cd doc) ⟨vs, []⟩ = pure (xs.zip vs)) (hpar : parOk (fnAt p k).2.2 xs = true) (hlen : ts.length = xs.length)
    (h : ∀ A L cd, Exs (mkC G A n (fnAt p k).2.2 f cd L d) (fnAt p k).2.1 (upds xs ts σ0) H fun fl σ' H' => ∃ t u, fl = .ret t ∧ Res H' H t u ∧ Q u)
    (hco : (fnAt p k).2.2.isCoroutine = false := by rfl) (hgen : (fnAt p k).2.2.isGenerator = false := by rfl) (hk : (fnAt p k).2.2.kind = .function := by rfl) : Fn G (d + 1) f ts H Q := by
  obtain ⟨o, pm, cd, doc, h1, h2, h3⟩ := F.obj
  exact fn_of_body h1 h2 h3 (fun vs hv => hbind pm cd doc vs hv) hpar hlen (fun A L => h A L cd) hco hgen hk

/-- a call of a def of the top -/
theorem ev_fn {C : Cx} {σ : Sg} {H : AH} {Q : PT → AH → Prop} {p : Program} {n : Str} {k : Nat} {f : Addr} {np pos : Pos} {args : List Expr} (d : Nat) (F : FnIs C.G p n k f)
    (hk : C.env.kindOf n = some .globalImplicit)
    (h : Evs C args σ H fun ts H₁ => Fn C.G d f ts H₁ fun u => Q u H₁) (hd : d ≤ C.d)
    (hplain : (backTo pos (starEach args C.env)).any (·.1) = false := by rfl) (hdb : (n == ("__debug__" : Str)) = false := by decide) : Ev C (.Call (.Name n np) args [] pos) σ H Q :=
  ev_call (ev_gname hk F.mg (fun _ => den_oth) (fun pos s x => wpAny_mono (h pos s x) (fun _ _ ⟨H', us, h1, h2, h3, h4⟩ => ⟨H', us, h1, h2, h3, cal_fn d h4 hd⟩) fun _ _ f => f) hdb) hplain

/-- the names of the top, out of the part of the heap that is written out -/
theorem mg_of {K : Frag} {h : Heap} {mg : Str → Option Value} {x : Str} {r : Option Value} (X : K.In h) (g : h.Ns mainGlobals mg) (e : nsIn K mainGlobals x = some r) : mg x = r := by
  obtain ⟨o, es, ep, ho, hd, hk, hf⟩ := g
  unfold nsIn at e
  split at e
  · rename_i c d es' n sl hl
    have := X _ _ hl
    rw [ho] at this
    cases this
    cases hd
    rw [← hf x]
    unfold nsFind findBy
    rw [← Array.find?_toList]
    split at e
    · rename_i en hen
      cases e
      rw [hen]; rfl
    · rename_i hen
      split at e
      · cases e
      · cases e
        rw [hen]; rfl
  · cases e

theorem script_den {P : Params} {h : Heap} {a : Addr} {ns : List Int} (W : Well P h (.ref a) (ofPy (.list (ns.map PyData.int)))) (H : AH) (hH : H a = Option.none) : Den h H (.lst (ns.map PT.int)) (.ref a) := by
  simp only [ofPy] at W
  cases W with
  | list ho hw =>
    rename_i vs
    have all : ∀ (ns : List Int) (vs : List Value), WellAll P h vs (ofPys (ns.map PyData.int)) → Dens h H (ns.map PT.int) vs := by
      intro ns
      induction ns with
      | nil => intro vs hw; simp only [List.map_nil, ofPys] at hw; cases hw; exact dens_nil
      | cons n r ih =>
        intro vs hw
        simp only [List.map_cons, ofPys, ofPy] at hw
        cases hw with
        | cons h1 h2 => cases h1 with | int i t => exact dens_cons den_int (ih _ h2)
    simp only [Den]
    exact ⟨a, vs.toArray, rfl, hH, ⟨0, ho⟩, by simpa using all ns vs hw⟩

/-- a law, by the spec of its def -/
theorem law_ends {prog : Program} {w : World} {s₁ : Shared} {c : ClaimW} {cl : Str → Option Addr} {mean : ExcName → Option Value} {args : List WData} {f a : Addr} {P : Params} {ns : List Int} {mg mb : Str → Option Value} {p : Program} {loose : List Str} {mean' : ExcName → Option Value}
    (T : Top p loose mean' mg mb s₁.heap) (hg : s₁.gens = #[]) (W : Well P s₁.heap (.ref a) (ofPy (.list (ns.map PyData.int))))
    (hr : ∀ cls, c.raises args cls = false) (hp : c.post args (.bool true) args = true)
    (h : GOk ⟨prog, w, s₁.heap, mg, mb⟩ → Fn ⟨prog, w, s₁.heap, mg, mb⟩ 50 f [.lst (ns.map PT.int)] (fun _ => Option.none) fun u => u = .bool true) :
    codeAny (model prog w) callerA (.call (.ref f) ⟨[.ref a], []⟩) (GoodW c cl mean args s₁) s₁ := by
  have g : GOk ⟨prog, w, s₁.heap, mg, mb⟩ := ⟨T.g, T.b, T.nolimit, T.builtins⟩
  refine codeAny_mono ((h g).2 callerA s₁ [.ref a] g rfl (by decide) (by decide) (Nat.le_refl _) (fun _ _ e => e) (fun a ts e => by cases e) (dens_cons (script_den W _ rfl) dens_nil)) fun r s' p => ?_
  obtain ⟨v, u, rfl, h1, h2, rfl⟩ := p
  cases of_bool h2
  obtain ⟨h', tk, rfl, hk⟩ := h1
  exact ⟨.inl ⟨_, .bool true, [], rfl, hr, .bool true, hp, fun _ => ⟨List.nodup_nil, fun _ q => nomatch q⟩⟩, hk, rfl, hg⟩


theorem then_next {C : Cx} {ss : List Stmt} {R : Fl → Sg → AH → Prop} {σ : Sg} {H : AH} (h : Exs C ss σ H R) : Then C ss R .next σ H := h
theorem then_ret {C : Cx} {ss : List Stmt} {R : Fl → Sg → AH → Prop} {σ : Sg} {H : AH} {t : PT} (h : R (.ret t) σ H) : Then C ss R (.ret t) σ H := h
theorem ite_true' {P Q : Prop} (h : P) : if true = true then P else Q := by simpa using h
theorem ite_false' {P Q : Prop} (h : Q) : if false = true then P else Q := by simpa using h
theorem ite_beq {α : Type} [BEq α] [LawfulBEq α] {a b : α} {P Q : Prop} (ht : a = b → P) (hf : a ≠ b → Q) : if (a == b) = true then P else Q := by
  split
  · rename_i h; exact ht (by simpa using h)
  · rename_i h; exact hf (by simpa using h)
theorem ite_bne {α : Type} [BEq α] [LawfulBEq α] {a b : α} {P Q : Prop} (ht : a ≠ b → P) (hf : a = b → Q) : if (a != b) = true then P else Q := by
  split
  · rename_i h; exact ht (by simpa using h)
  · rename_i h; exact hf (by simpa using h)
theorem ite_not {b : Bool} {P Q : Prop} (h : if b = true then Q else P) : if (!b) = true then P else Q := by
  cases b <;> simpa using h
theorem ite_emp {α : Type} {l : List α} {P Q : Prop} (ht : l = [] → P) (hf : l ≠ [] → Q) : if l.isEmpty = true then P else Q := by
  split
  · rename_i h; exact ht (by simpa using h)
  · rename_i h; exact hf (by simpa using h)

/-- the body of the k-th statement, a for, a while or an if -/
def forB (ss : List Stmt) (k : Nat) : List Stmt := match ss[k]? with
  | some (.For _ _ b _ _) => b
  | some (.While _ b _ _) => b
  | some (.If _ b _ _) => b
  | _ => []
/-- the test of the k-th statement, a while or an if -/
def tstE (ss : List Stmt) (k : Nat) : Expr := match ss[k]? with
  | some (.While t _ _ _) => t
  | some (.If t _ _ _) => t
  | _ => default

/-- the built-in names that no line of the top binds -/
structure Bl (G : Gx) : Prop where
  len : G.mg "len" = Option.none
  chr : G.mg "chr" = Option.none
  range : G.mg "range" = Option.none
  list : G.mg "list" = Option.none
  min : G.mg "min" = Option.none
  max : G.mg "max" = Option.none
  sum : G.mg "sum" = Option.none
  abs : G.mg "abs" = Option.none
  sorted : G.mg "sorted" = Option.none
  isinstance : G.mg "isinstance" = Option.none
  type : G.mg "type" = Option.none
  zip : G.mg "zip" = Option.none
  int : G.mg "int" = Option.none
  bool : G.mg "bool" = Option.none

section
variable {C : Cx} {σ : Sg} {H : AH} {Q : PT → AH → Prop}
theorem evs_mono {es : List Expr} {Q Q' : List PT → AH → Prop} (h : Evs C es σ H Q) (k : ∀ ts H', Q ts H' → Q' ts H') : Evs C es σ H Q' := fun pos s x =>
  wpAny_mono (h pos s x) (fun _ _ ⟨H', us, h1, h2, h3, h4⟩ => ⟨H', us, h1, h2, h3, k _ _ h4⟩) fun _ _ f => f
theorem ev_blt {n : Str} {id : String} {np pos : Pos} {args : List Expr} (hm : C.G.mg n = Option.none) (hb : bootBuiltins n = some (.builtin id)) (h : Evs C args σ H fun ts H₁ => Blt C id ts H₁ Q)
    (hk : C.env.kindOf n = some .globalImplicit := by rfl) (hplain : (backTo pos (starEach args C.env)).any (·.1) = false := by rfl) (hn : n ≠ "__name__" := by decide) (hdb : (n == ("__debug__" : Str)) = false := by decide) :
    Ev C (.Call (.Name n np) args [] pos) σ H Q :=
  ev_call (ev_bname hk hm hb (evs_mono h fun _ _ q => cal_builtin q) hn hdb) hplain
theorem ev_typ {n : Str} {id : String} {np pos : Pos} {args : List Expr} (hm : C.G.mg n = Option.none) (hb : bootBuiltins n = some (.type id)) (h : Evs C args σ H fun ts H₁ => Typ C id ts H₁ Q)
    (hk : C.env.kindOf n = some .globalImplicit := by rfl) (hplain : (backTo pos (starEach args C.env)).any (·.1) = false := by rfl) (hn : n ≠ "__name__" := by decide) (hdb : (n == ("__debug__" : Str)) = false := by decide) :
    Ev C (.Call (.Name n np) args [] pos) σ H Q :=
  ev_call (ev_bname hk hm hb (evs_mono h fun _ _ q => cal_type q) hn hdb) hplain
end


/-- a text n times -/
def reps (n : Int) (l : List Nat) : List Nat := (List.replicate n.toNat l).flatten
theorem reps_length (n : Int) (l : List Nat) : (reps n l).length = n.toNat * l.length := by
  unfold reps
  generalize n.toNat = k
  induction k with
  | zero => simp
  | succ k ih => rw [List.replicate_succ, List.flatten_cons, List.length_append, ih, Nat.succ_mul]; omega
theorem foldl_app {α : Type} : ∀ (ls : List (Array α)) (acc : Array α), (ls.foldl (· ++ ·) acc).toList = acc.toList ++ (ls.map Array.toList).flatten
  | [], acc => by simp
  | a :: ls, acc => by rw [List.foldl_cons, foldl_app ls]; simp
theorem mul_tx (n : Int) (l : List Nat) : Txt.mul (tx l) n = tx (reps n l) := by
  have key : ∀ x : Str, x.cps.toList = reps n l → x = tx (reps n l) := fun x h => by rw [← h, tx_of]
  unfold Txt.mul
  split
  · rename_i h
    refine key _ ?_
    have : n.toNat = 0 := by omega
    simp [reps, this, Str.empty]
  · split
    · rename_i h h2
      simp only [Bool.or_eq_true, beq_iff_eq] at h2
      rcases h2 with h2 | h2
      · subst h2; simp [reps]
      · rw [tx_length] at h2
        have : l = [] := List.length_eq_zero_iff.mp h2
        subst this
        refine key _ ?_
        have : (reps n []).length = 0 := by rw [reps_length]; simp
        rw [List.length_eq_zero_iff.mp this]; simp [tx]
    · refine key _ ?_
      rw [foldl_app]
      simp [reps, tx]

section
variable {C : Cx} {σ : Sg} {H : AH} {Q : PT → AH → Prop}

theorem bin_muls {l : List Nat} {n : Int} (q : Q (.str (tx (reps n l))) H) (h : n ≤ 100000) (h' : -100000 ≤ n) (hl : l.length ≤ 100) : Bin C .Mult (.str (tx l)) (.int n) H Q := fun s v w x hv hw => by
  obtain ⟨t, rfl⟩ := of_str hv; obtain ⟨u, rfl⟩ := of_int hw
  refine SB.mul ⟨?_, ?_, ?_⟩ fun t' k => ?_
  · simp only [Bool.or_eq_false_iff, decide_eq_false_iff_not]; omega
  · intro h1 h2 h3
    rw [tx_length] at h3
    have : (2 ^ 63 - 1 : Int) / n ≥ 100 := by
      refine (Int.le_ediv_iff_mul_le (by omega)).mpr ?_
      omega
    omega
  · intro h1 h2
    rw [tx_length]
    have : l.length * n.toNat ≤ 100 * 100000 := Nat.mul_le_mul hl (by omega)
    unfold Builtin.Str.tooLong
    have := sizeLine_eq
    simp only [decide_eq_false_iff_not]
    omega
  · rw [mul_tx]
    exact postW.toks _ x.muts den_str q

/-- list + list -/
theorem eva_addl {l r : Expr} {pos : Pos} {QA : List PT → AH → Prop}
    (h : Ev C l σ H fun a H₁ => Ev C r σ H₁ fun b H₂ => ∃ ts us, Lv H₂ a ts ∧ Lv H₂ b us ∧ ts.length + us.length ≤ 16777216 ∧ QA (ts ++ us) H₂) : EvA C (.BinOp l .Add r pos) σ H QA := fun s x => by
  refine wpAny_BinOp ((h s x).then fun v a s₁ H₁ e₁ m₁ d₁ q₁ => ?_)
  have x₁ := x.ext e₁ m₁
  refine (q₁ s₁ x₁).then fun w b s₂ H₂ e₂ m₂ d₂ q₂ => ?_
  have x₂ := x₁.ext e₂ m₂
  obtain ⟨ts, us, l1, l2, hb, q⟩ := q₂
  obtain ⟨a, vs, rfl, ⟨n1, h1⟩, hd1⟩ := l1.at m₂ (e₂.den d₁)
  obtain ⟨b, ws, rfl, ⟨n2, h2⟩, hd2⟩ := l2.at m₂ d₂
  have hlen : vs.size = ts.length := by have := hd1.length; simpa using this
  have hlen2 : ws.size = us.length := by have := hd2.length; simpa using this
  refine P.add_list h1 h2 ?_ (by rw [hlen, hlen2, sizeLine_eq]; exact hb)
  have := postA.push (tk := s₂.toks) (lo := C.lo) (Q := QA) (us := ts ++ us) (vs := vs ++ ws) x₂.lo m₂ (by rw [Array.toList_append]; exact hd1.append hd2) q
  exact this.before (e₁.trans e₂)

theorem foldl_app' {α : Type} (n : Nat) (a : Array α) : (List.foldl (fun x1 x2 => x1 ++ x2) #[] (List.replicate n a)).toList = (List.replicate n a.toList).flatten := by
  have := foldl_app (List.replicate n a) #[]
  simpa using this
theorem dens_reps {h : Heap} {H : AH} {ts : List PT} {vs : List Value} (d : Dens h H ts vs) : ∀ n : Nat, Dens h H (List.replicate n ts).flatten (List.replicate n vs).flatten
  | 0 => by simpa using dens_nil
  | n + 1 => by
    rw [List.replicate_succ, List.replicate_succ, List.flatten_cons, List.flatten_cons]
    exact d.append (dens_reps d n)
/-- list * int -/
theorem eva_mull {l r : Expr} {pos : Pos} {QA : List PT → AH → Prop}
    (h : Ev C l σ H fun a H₁ => Ev C r σ H₁ fun b H₂ => ∃ ts i, Lv H₂ a ts ∧ b = .int i ∧ i ≤ 100000 ∧ -100000 ≤ i ∧ ts.length ≤ 100 ∧ QA (List.replicate i.toNat ts).flatten H₂) : EvA C (.BinOp l .Mult r pos) σ H QA := fun s x => by
  refine wpAny_BinOp ((h s x).then fun v a s₁ H₁ e₁ m₁ d₁ q₁ => ?_)
  have x₁ := x.ext e₁ m₁
  refine (q₁ s₁ x₁).then fun w b s₂ H₂ e₂ m₂ d₂ q₂ => ?_
  have x₂ := x₁.ext e₂ m₂
  obtain ⟨ts, i, l1, rfl, hi, hi', hb, q⟩ := q₂
  obtain ⟨a, vs, rfl, ⟨n1, hl⟩, hd1⟩ := l1.at m₂ (e₂.den d₁)
  obtain ⟨u, rfl⟩ := of_int d₂
  have hlen : vs.size = ts.length := by have := hd1.length; simpa using this
  have hm : vs.size * i.toNat ≤ 100 * 100000 := Nat.mul_le_mul (by omega) (by omega)
  refine wpAny_binaryOp_repeat_ref (T := "list") (U := "int") (by decide) ⟨_, hl, rfl⟩ (fun s' => typeIs_int s' i u) noFill_list_mul F.fills_int_mul F.slot_int_rmul repeat_list F.slot_int_index.lookup
    (call_meets F.slot_int_rmul (typeIs_int _ i u) F.entry_int_rmul (F.args_int_rmul_2 _ _) (int___rmul___int_list i u a vs n1)
      ⟨hl, rfl, ⟨_, hl, rfl⟩, call_meets F.slot_list_mul ⟨_, hl, rfl⟩ F.entry_list_mul (F.args_list_mul_2 _ _)
        (AutoListH.list___mul___list_int_3 a vs n1 i u (by simp [Builtin.List.listFitsIndex]; omega) (by omega) (by simp [Builtin.List.listTooLong, sizeLine]; omega))
        ⟨hl, ?_⟩⟩)
  have e : (List.foldl (fun x1 x2 => x1 ++ x2) #[] (List.replicate (if vs.isEmpty = true then 0 else i.toNat) vs)).toList = (List.replicate i.toNat vs.toList).flatten := by
    rw [foldl_app']
    split
    · rename_i hz
      have : vs.toList = [] := by simpa using hz
      rw [this]; simp
    · rfl
  have := postA.push (tk := s₂.toks) (lo := C.lo) (Q := QA) (us := (List.replicate i.toNat ts).flatten) (vs := List.foldl (fun x1 x2 => x1 ++ x2) #[] (List.replicate (if vs.isEmpty = true then 0 else i.toNat) vs)) x₂.lo m₂ (by rw [e]; exact dens_reps hd1 _) q
  exact this.before (e₁.trans e₂)

/-- a list that is written out, as a list that nothing writes to -/
theorem ev_list {es : List Expr} {pos : Pos} (h : Evs C es σ H fun ts H₁ => ts.length ≤ 16777216 ∧ Q (.lst ts) H₁) : Ev C (.List es pos) σ H Q := ev_frz (eva_list h)

/-- script + [0] -/
theorem ite_dec {p : Prop} [Decidable p] {P Q : Prop} (ht : p → P) (hf : ¬ p → Q) : if decide p = true then P else Q := by
  split
  · rename_i h; exact ht (by simpa using h)
  · rename_i h; exact hf (by simpa using h)
end


section
variable {C : Cx} {σ : Sg} {H : AH} {Q : PT → AH → Prop}

theorem ev_lit {i : Str} {l : List Nat} {k : Nat} {pos : Pos} (e : i = tx l) (q : Q (.str (tx l)) H) : Ev C (.Constant (.str i) k pos) σ H Q := by
  subst e
  exact ev_str q
theorem bin_addt {l m : List Nat} (q : Q (.str (tx (l ++ m))) H) (h : l.length + m.length ≤ 16777216) : Bin C .Add (.str (tx l)) (.str (tx m)) H Q :=
  bin_adds (by rw [tx_append]; exact q) (by rw [tx_length, tx_length]; exact h)
theorem inp_addt {l m : List Nat} (q : Q (.str (tx (l ++ m))) H) (h : l.length + m.length ≤ 16777216) : Inp C .Add (.str (tx l)) (.str (tx m)) H Q :=
  inp_adds (by rw [tx_append]; exact q) (by rw [tx_length, tx_length]; exact h)
theorem len_txt {l : List Nat} (q : Q (.int l.length) H) (h : l.length ≤ 16777216) : Blt C "len" [.str (tx l)] H Q :=
  len_str' (by rw [tx_length]; exact q) (by rw [tx_length]; exact h)
theorem cmp_eqt {l m : List Nat} (q : Q (.bool (l == m)) H) : Cmp C .Eq (.str (tx l)) (.str (tx m)) H Q := cmp_eqs (by rw [tx_beq]; exact q)
theorem cmp_net {l m : List Nat} (q : Q (.bool (l != m)) H) : Cmp C .NotEq (.str (tx l)) (.str (tx m)) H Q := cmp_nes (by
  have : (tx l != tx m) = (l != m) := by rw [bne, bne, tx_beq]
  rw [this]; exact q)
/-- one of two numbers -/
theorem sub_two {a b i : Int} (h : i = 0 ∨ i = 1) (q : Q (.int (a + (b - a) * i)) H) : Sub C (.tup [.int a, .int b]) (.int i) H Q := by
  rcases h with rfl | rfl
  · exact sub_tup (by simp) (by simp) (by simp) (t := .int a) rfl (by simpa using q)
  · exact sub_tup (by simp) (by simp) (by simp) (t := .int b) rfl (by
      have e : a + (b - a) * 1 = b := by omega
      rw [e] at q; exact q)
theorem ite_int_eq {i j : Int} {P Q : Prop} (ht : i = j → P) (hf : i ≠ j → Q) : if (i == j) = true then P else Q := ite_beq ht hf

/-- x, y = a, b -/
theorem ex_swap2 {R : Fl → Sg → AH → Prop} {x y : Str} {e₁ e₂ : Expr} {k k' : Nat} {p1 p2 p p' pos : Pos} (h : Ev C e₁ σ H fun t H₁ => Ev C e₂ σ H₁ fun u H₂ => R .next (upd (upd σ y u) x t) H₂)
    (hsw : swappedStores [.Tuple [.Name x p1, .Name y p2] k p] (.Tuple [e₁, e₂] k' p') C.env = pure (some [x, y]) := by rfl)
    (hs : swapsWithSole [.Tuple [.Name x p1, .Name y p2] k p] (.Tuple [e₁, e₂] k' p') pos.line C.env = pure false := by rfl) (hst : [x, y].all (stb C) = true := by rfl)
    (he : starEach [e₁, e₂] C.env = (false, eval e₁ C.env) :: starEach [e₂] C.env := by rfl) (he' : starEach [e₂] C.env = [(false, eval e₂ C.env)] := by rfl) :
    Ex C (.Assign [.Tuple [.Name x p1, .Name y p2] k p] (.Tuple [e₁, e₂] k' p') pos) σ H R := by
  refine ex_swap (names := [x, y]) hsw ?_ hs hst
  refine evs_cons (h.mono fun t H₁ h₁ => evs_cons (h₁.mono fun u H₂ h₂ => evs_nil ⟨rfl, by simp, h₂⟩) he') he
/-- x, y, z = a, b, c -/
theorem ex_swap3 {R : Fl → Sg → AH → Prop} {x y z : Str} {e₁ e₂ e₃ : Expr} {k k' : Nat} {p1 p2 p3 p p' pos : Pos} (h : Ev C e₁ σ H fun t H₁ => Ev C e₂ σ H₁ fun u H₂ => Ev C e₃ σ H₂ fun w H₃ => R .next (upd (upd (upd σ z w) y u) x t) H₃)
    (hsw : swappedStores [.Tuple [.Name x p1, .Name y p2, .Name z p3] k p] (.Tuple [e₁, e₂, e₃] k' p') C.env = pure (some [x, y, z]) := by rfl)
    (hs : swapsWithSole [.Tuple [.Name x p1, .Name y p2, .Name z p3] k p] (.Tuple [e₁, e₂, e₃] k' p') pos.line C.env = pure false := by rfl) (hst : [x, y, z].all (stb C) = true := by rfl)
    (he : starEach [e₁, e₂, e₃] C.env = (false, eval e₁ C.env) :: starEach [e₂, e₃] C.env := by rfl) (he' : starEach [e₂, e₃] C.env = (false, eval e₂ C.env) :: starEach [e₃] C.env := by rfl) (he'' : starEach [e₃] C.env = [(false, eval e₃ C.env)] := by rfl) :
    Ex C (.Assign [.Tuple [.Name x p1, .Name y p2, .Name z p3] k p] (.Tuple [e₁, e₂, e₃] k' p') pos) σ H R := by
  refine ex_swap (names := [x, y, z]) hsw ?_ hs hst
  refine evs_cons (h.mono fun t H₁ h₁ => evs_cons (h₁.mono fun u H₂ h₂ => evs_cons (h₂.mono fun w H₃ h₃ => evs_nil ⟨rfl, by simp, h₃⟩) he'') he') he

/-- (script + [0])[0] -/
theorem ev_first {y : Str} {ns : List Int} {p1 p2 p3 p4 p5 p6 : Pos} {k1 k2 : Nat} (hy : σ y = some (.lst (ns.map PT.int))) (hl : ns.length ≤ 1000) (q : Q (.int (ns.headD 0)) H)
    (h1 : (y == ("__debug__" : Str)) = false := by decide) (h2 : (y == ("__classdict__" : Str)) = false := by decide)
    (he : starEach [Expr.Constant (.int 0) k1 p2] C.env = [(false, eval (Expr.Constant (.int 0) k1 p2) C.env)] := by rfl) :
    Ev C (.Subscript (.BinOp (.Name y p1) .Add (.List [.Constant (.int 0) k1 p2] p3) p4) (.Constant (.int 0) k2 p5) p6) σ H Q := by
  refine ev_sub ?_ (fun _ _ => rfl)
  refine ev_frz (eva_addl ?_)
  refine ev_name hy ?_ h1 h2
  refine ev_list (evs_cons (ev_int (evs_nil ⟨by simp, ?_⟩)) (by rw [he]; rfl))
  refine ⟨_, _, lv_lst, lv_lst, by simp; omega, ?_⟩
  refine ev_int ?_
  refine sub_lst lv_lst (by simp <;> omega) (by simp <;> omega) (by simp <;> omega) (t := .int (ns.headD 0)) ?_ q
  rw [place_nonneg (by omega)]
  cases ns <;> simp
/-- script[1:] -/
theorem ev_behind {y : Str} {ns : List Int} {p1 p2 p3 p4 : Pos} {k1 : Nat} (hy : σ y = some (.lst (ns.map PT.int))) (hl : ns.length ≤ 1000) (q : Q (.lst ((ns.drop 1).map PT.int)) H)
    (h1 : (y == ("__debug__" : Str)) = false := by decide) (h2 : (y == ("__classdict__" : Str)) = false := by decide) :
    Ev C (.Subscript (.Name y p1) (.Slice (some (.Constant (.int 1) k1 p2)) Option.none Option.none p3) p4) σ H Q := by
  refine ev_frz (eva_slice ?_)
  refine ev_name hy ?_ h1 h2
  refine evo_some (ev_int (evo_none ⟨_, some 1, Option.none, lv_lst, .int, .none, by simp; omega, ?_⟩))
  have := cut_from 1 (ns.map PT.int)
  rw [show ((1 : Int)) = ((1 : Nat) : Int) from rfl, this, ← List.map_drop]
  exact q
theorem nm_ints (ns : List Int) : NMs (ns.map PT.int) = true := nms_of fun t ht => by
  rw [List.mem_map] at ht
  obtain ⟨_, _, rfl⟩ := ht
  rfl
theorem at_ints {ns : List Int} {k : Nat} {u : PT} (h : (ns.map PT.int)[k]? = some u) : ∃ x, u = .int x ∧ ns[k]? = some x ∧ k < ns.length := by
  rw [List.getElem?_map] at h
  cases q : ns[k]? with
  | none => rw [q] at h; cases h
  | some x =>
    rw [q] at h; cases h
    refine ⟨x, rfl, rfl, ?_⟩
    rcases Nat.lt_or_ge k ns.length with r | r
    · exact r
    · rw [List.getElem?_eq_none r] at q; cases q
end


/-- where a def of the top stands -/
def adIn (K : Frag) (n : Str) : Addr := match nsIn K mainGlobals n with
  | some (some (.ref a)) => a
  | _ => 0
def fdIn (K : Frag) (f : Addr) : Option FuncData := match K.lookup f with
  | some ⟨_, _, .func fd, _⟩ => some fd
  | _ => Option.none
def pmOf (K : Frag) (n : Str) : Value := match fdIn K (adIn K n) with
  | some fd => fd.pyModule
  | _ => .none
def cdOf (K : Frag) (n : Str) : Value := match fdIn K (adIn K n) with
  | some fd => fd.code
  | _ => .none
def dcOf (K : Frag) (n : Str) : Value := match fdIn K (adIn K n) with
  | some fd => fd.doc
  | _ => .none
theorem fnIs_of {K : Frag} {G : Gx} {p : Program} {n : Str} {k : Nat} (X : K.In G.h₀) (g : G.h₀.Ns mainGlobals G.mg) (hmg : nsIn K mainGlobals n = some (some (.ref (adIn K n))))
    (e : fdIn K (adIn K n) = some (Calls.docDef n (fnAt p k).1 (fnAt p k).2.1 (fnAt p k).2.2 (pmOf K n) (cdOf K n) (dcOf K n))) (hc : codeIn K (cdOf K n) n = true) : FnIs G p n k (adIn K n) := by
  refine ⟨mg_of X g hmg, ?_⟩
  unfold fdIn at e
  split at e
  · rename_i c d fd sl hl
    cases e
    exact ⟨_, _, _, _, X _ _ hl, rfl, codeRec_of X hc⟩
  · cases e
def unb (K : Frag) (x : Str) : Bool := match nsIn K mainGlobals x with
  | some Option.none => true
  | _ => false
theorem unb_of {K : Frag} {G : Gx} {x : Str} (X : K.In G.h₀) (g : G.h₀.Ns mainGlobals G.mg) (e : unb K x = true) : G.mg x = Option.none := by
  unfold unb at e
  split at e
  · rename_i h; exact mg_of X g h
  · cases e
def intIn (K : Frag) (x : Str) (i : Int) : Bool := match nsIn K mainGlobals x with
  | some (some (.int j _)) => j == i
  | _ => false
theorem intIn_of {K : Frag} {G : Gx} {x : Str} {i : Int} (X : K.In G.h₀) (g : G.h₀.Ns mainGlobals G.mg) (e : intIn K x i = true) : ∃ tk, G.mg x = some (.int i tk) := by
  unfold intIn at e
  split at e
  · rename_i j tk h
    have : j = i := by simpa using e
    subst this
    exact ⟨tk, mg_of X g h⟩
  · cases e
def blIn (K : Frag) : Bool := unb K "len" && (unb K "chr" && (unb K "range" && (unb K "list" && (unb K "min" && (unb K "max" && (unb K "sum" && (unb K "abs" && (unb K "sorted" && (unb K "isinstance" && (unb K "type" && (unb K "zip" && (unb K "int" && unb K "bool"))))))))))))
theorem bl_of {K : Frag} {G : Gx} (X : K.In G.h₀) (g : G.h₀.Ns mainGlobals G.mg) (e : blIn K = true) : Bl G := by
  unfold blIn at e
  simp only [Bool.and_eq_true] at e
  obtain ⟨h1, h2, h3, h4, h5, h6, h7, h8, h9, h10, h11, h12, h13, h14⟩ := e
  exact ⟨unb_of X g h1, unb_of X g h2, unb_of X g h3, unb_of X g h4, unb_of X g h5, unb_of X g h6, unb_of X g h7, unb_of X g h8, unb_of X g h9, unb_of X g h10, unb_of X g h11, unb_of X g h12, unb_of X g h13, unb_of X g h14⟩

mutual
/-- a tree as data -/
def pd : PT → PyData
  | .none => .none
  | .bool b => .bool b
  | .int i => .int i
  | .str x => .str x
  | .tup ts => .tuple (pds ts)
  | .lst ts => .list (pds ts)
  | .mut _ => .none
  | .rng _ _ _ => .none
  | .oth _ => .none
def pds : List PT → List PyData
  | [] => []
  | t :: ts => pd t :: pds ts
end
mutual
/-- a tree that is data -/
def dok : PT → Bool
  | .none => true
  | .bool _ => true
  | .int _ => true
  | .str x => PyData.strOk x
  | .tup ts => doks ts
  | .lst ts => doks ts
  | .mut _ => false
  | .rng _ _ _ => false
  | .oth _ => false
def doks : List PT → Bool
  | [] => true
  | t :: ts => dok t && doks ts
end
mutual
theorem Den.reads {h : Heap} {H : AH} : ∀ (t : PT) (v : Value), dok t = true → Den h H t v → ∃ as, Reads h v (pd t) as
  | .none, v, _, d => by cases of_none d; exact ⟨_, .none⟩
  | .bool b, v, _, d => by cases of_bool d; exact ⟨_, .bool b⟩
  | .int i, v, _, d => by obtain ⟨t, rfl⟩ := of_int d; exact ⟨_, .int i t⟩
  | .str x, v, _, d => by obtain ⟨t, rfl⟩ := of_str d; exact ⟨_, .str x t⟩
  | .tup ts, v, k, d => by
    obtain ⟨a, vs, rfl, _, ⟨n, e⟩, h3⟩ := of_tup d
    obtain ⟨as, r⟩ := Dens.reads ts _ (by simpa only [dok] using k) h3
    exact ⟨_, by simp only [pd]; exact .tuple e rfl rfl r⟩
  | .lst ts, v, k, d => by
    obtain ⟨a, vs, rfl, _, ⟨n, e⟩, h3⟩ := of_lst d
    obtain ⟨as, r⟩ := Dens.reads ts _ (by simpa only [dok] using k) h3
    exact ⟨_, by simp only [pd]; exact .list e rfl rfl r⟩
  | .mut _, _, k, _ => by simp [dok] at k
  | .rng _ _ _, _, k, _ => by simp [dok] at k
  | .oth _, _, k, _ => by simp [dok] at k
theorem Dens.reads {h : Heap} {H : AH} : ∀ (ts : List PT) (vs : List Value), doks ts = true → Dens h H ts vs → ∃ as, ReadsAll h vs (pds ts) as
  | [], _, _, d => by cases of_nil d; exact ⟨_, .nil⟩
  | t :: ts, _, k, d => by
    obtain ⟨v, r, rfl, h1, h2⟩ := of_cons d
    simp only [doks, Bool.and_eq_true] at k
    obtain ⟨as, r1⟩ := Den.reads t v k.1 h1
    obtain ⟨bs, r2⟩ := Dens.reads ts r k.2 h2
    exact ⟨_, by simp only [pds]; exact .cons r1 r2⟩
end
mutual
theorem dok_lay : ∀ t : PT, dok t = true → (pd t).canLay0 = true
  | .none, _ => by simp [pd, PyData.canLay0]
  | .bool b, _ => by simp [pd, PyData.canLay0]
  | .int i, _ => by simp [pd, PyData.canLay0]
  | .str x, k => by simpa [pd, PyData.canLay0, dok] using k
  | .tup ts, k => by simp only [pd, PyData.canLay0]; exact doks_lay ts (by simpa only [dok] using k)
  | .lst ts, k => by simp only [pd, PyData.canLay0]; exact doks_lay ts (by simpa only [dok] using k)
  | .mut _, k => by simp [dok] at k
  | .rng _ _ _, k => by simp [dok] at k
  | .oth _, k => by simp [dok] at k
theorem doks_lay : ∀ ts : List PT, doks ts = true → PyData.canLayAll0 (pds ts) = true
  | [], _ => by simp [pds, PyData.canLayAll0]
  | t :: ts, k => by
    simp only [doks, Bool.and_eq_true] at k
    simp only [pds, PyData.canLayAll0, Bool.and_eq_true]
    exact ⟨dok_lay t k.1, doks_lay ts k.2⟩
end
theorem doks_of : ∀ {ts : List PT}, (∀ t ∈ ts, dok t = true) → doks ts = true
  | [], _ => rfl
  | t :: ts, h => by simp only [doks, Bool.and_eq_true]; exact ⟨h t (.head _), doks_of fun u hu => h u (.tail _ hu)⟩
theorem pds_map (ts : List PT) : pds ts = ts.map pd := by
  induction ts with
  | nil => rfl
  | cons t ts ih => simp [pds, ih]
theorem depthAll_le {n : Nat} : ∀ {ds : List PyData}, (∀ d ∈ ds, d.depth ≤ n) → PyData.depthAll ds ≤ n
  | [], _ => by simp [PyData.depthAll]
  | d :: ds, h => by
    have h1 := h d (.head _)
    have h2 := depthAll_le (ds := ds) fun e he => h e (.tail _ he)
    simp only [PyData.depthAll]; omega

theorem eqv_ints : ∀ xs ys : List Int, PyData.eqvAll (pds (xs.map PT.int)) (pds (ys.map PT.int)) = (xs == ys)
  | [], [] => by simp [pds, PyData.eqvAll]
  | [], _ :: _ => by simp [pds, PyData.eqvAll]
  | _ :: _, [] => by simp [pds, PyData.eqvAll]
  | x :: xs, y :: ys => by
    have := eqv_ints xs ys
    simp only [List.map_cons, pds, pd, PyData.eqvAll, PyData.eqv, this]
    rfl
theorem any_ints (x : Int) : ∀ xs : List Int, ((pds (xs.map PT.int)).any fun y => PyData.eqv y (.int x)) = decide (x ∈ xs)
  | [] => by simp [pds]
  | y :: xs => by
    have ih := any_ints x xs
    simp only [List.map_cons, pds, pd, List.any_cons, PyData.eqv, ih, List.mem_cons]
    by_cases h : y = x
    · subst h; simp
    · have h' : ¬ x = y := fun e => h e.symm
      simp [h, h']
theorem doks_ints (xs : List Int) : doks (xs.map PT.int) = true := doks_of fun t ht => by
  rw [List.mem_map] at ht; obtain ⟨x, _, rfl⟩ := ht; rfl
theorem depth_ints (xs : List Int) : PyData.depthAll (pds (xs.map PT.int)) ≤ 0 := depthAll_le fun d hd => by
  rw [pds_map, List.map_map, List.mem_map] at hd; obtain ⟨x, _, rfl⟩ := hd; simp [pd, PyData.depth]

section
variable {C : Cx} {σ : Sg} {H : AH} {Q : PT → AH → Prop}

theorem room {C : Cx} {H : AH} {s : Shared} (x : Bs C H s) : C.A.units ≤ 9000 := by have := x.ok.units; omega
theorem cLine_eq : cLine = 9900 := rfl

/-- data trees, any -/
theorem cmp_eqd {t u : PT} (ht : dok t = true) (hu : dok u = true) (hd : min (pd t).depth (pd u).depth ≤ 100) (q : Q (.bool (PyData.eqv (pd t) (pd u))) H) : Cmp C .Eq t u H Q := fun s v w x hv hw => by
  obtain ⟨as, r1⟩ := Den.reads t v ht hv
  obtain ⟨bs, r2⟩ := Den.reads u w hu hw
  exact SeqAt.compareEq_reads r1 r2 (dok_lay t ht) (dok_lay u hu) (by rw [cLine_eq]; have := room x; omega) (postW.same x.muts den_bool q)
/-- lists -/
theorem Lv.reads {s : Shared} {t : PT} {ts : List PT} {v : Value} (l : Lv H t ts) (m : Muts s.heap H) (k : doks ts = true) (d : Den s.heap H t v) : ∃ as, Reads s.heap v (.list (pds ts)) as := by
  obtain ⟨a, vs, rfl, ⟨n, e⟩, h3⟩ := l.at m d
  obtain ⟨as, r⟩ := Dens.reads ts _ k h3
  exact ⟨_, .list e rfl rfl r⟩
theorem cmp_eql {t u : PT} {ts us : List PT} (lt : Lv H t ts) (lu : Lv H u us) (ht : doks ts = true) (hu : doks us = true) (hd : PyData.depthAll (pds ts) ≤ 100) (q : Q (.bool (PyData.eqvAll (pds ts) (pds us))) H) : Cmp C .Eq t u H Q := fun s v w x hv hw => by
  obtain ⟨as, r1⟩ := lt.reads x.muts ht hv
  obtain ⟨bs, r2⟩ := lu.reads x.muts hu hw
  refine SeqAt.compareEq_reads r1 r2 (by simp only [PyData.canLay0]; exact doks_lay ts ht) (by simp only [PyData.canLay0]; exact doks_lay us hu) (by rw [cLine_eq]; have := room x; simp only [PyData.depth]; omega) (postW.same x.muts den_bool ?_)
  simpa only [PyData.eqv] using q
theorem cmp_nel {t u : PT} {ts us : List PT} (lt : Lv H t ts) (lu : Lv H u us) (ht : doks ts = true) (hu : doks us = true) (hd : PyData.depthAll (pds ts) ≤ 100) (q : Q (.bool (!PyData.eqvAll (pds ts) (pds us))) H) : Cmp C .NotEq t u H Q := fun s v w x hv hw => by
  obtain ⟨as, r1⟩ := lt.reads x.muts ht hv
  obtain ⟨bs, r2⟩ := lu.reads x.muts hu hw
  refine SeqAt.compareNe_reads r1 r2 (by simp only [PyData.canLay0]; exact doks_lay ts ht) (by simp only [PyData.canLay0]; exact doks_lay us hu) (by rw [cLine_eq]; have := room x; simp only [PyData.depth]; omega) (postW.same x.muts den_bool ?_)
  simpa only [PyData.eqv] using q
theorem cmp_eq_ints {t u : PT} {xs ys : List Int} (lt : Lv H t (xs.map PT.int)) (lu : Lv H u (ys.map PT.int)) (q : Q (.bool (xs == ys)) H) : Cmp C .Eq t u H Q :=
  cmp_eql lt lu (doks_ints xs) (doks_ints ys) (by have := depth_ints xs; omega) (by rw [eqv_ints]; exact q)
theorem cmp_ne_ints {t u : PT} {xs ys : List Int} (lt : Lv H t (xs.map PT.int)) (lu : Lv H u (ys.map PT.int)) (q : Q (.bool (xs != ys)) H) : Cmp C .NotEq t u H Q :=
  cmp_nel lt lu (doks_ints xs) (doks_ints ys) (by have := depth_ints xs; omega) (by rw [eqv_ints]; exact q)
theorem cmp_in_ints {t : PT} {x : Int} {xs : List Int} (lt : Lv H t (xs.map PT.int)) (q : Q (.bool (decide (x ∈ xs))) H) : Cmp C .In (.int x) t H Q := fun s v w b hv hw => by
  obtain ⟨as, r1⟩ := lt.reads b.muts (doks_ints xs) hw
  obtain ⟨tk, rfl⟩ := of_int hv
  refine SeqAt.in_list_reads r1 (.int x tk) (doks_lay _ (doks_ints xs)) (by simp [PyData.canLay0]) (by rw [cLine_eq]; have := room b; simp only [PyData.depth]; omega) ?_
  rw [any_ints]
  exact postW.same b.muts den_bool q
theorem cmp_notin_ints {t : PT} {x : Int} {xs : List Int} (lt : Lv H t (xs.map PT.int)) (q : Q (.bool (!decide (x ∈ xs))) H) : Cmp C .NotIn (.int x) t H Q := fun s v w b hv hw => by
  obtain ⟨as, r1⟩ := lt.reads b.muts (doks_ints xs) hw
  obtain ⟨tk, rfl⟩ := of_int hv
  refine SeqAt.notIn_list_reads r1 (.int x tk) (doks_lay _ (doks_ints xs)) (by simp [PyData.canLay0]) (by rw [cLine_eq]; have := room b; simp only [PyData.depth]; omega) ?_
  rw [any_ints]
  exact postW.same b.muts den_bool q
end


section
variable {C : Cx} {σ : Sg} {H : AH} {Q : PT → AH → Prop}

theorem ev_and2 {a b : Expr} {pos : Pos} (h : Ev C a σ H fun t H₁ => Tru C t H₁ fun c H₂ => if c = true then Ev C b σ H₂ Q else Q t H₂) : Ev C (.BoolOp .And [a, b] pos) σ H Q := fun s x => by
  refine wpAny_And2 ((h s x).then fun v t s₁ H₁ e₁ m₁ d₁ q₁ => ?_)
  have x₁ := x.ext e₁ m₁
  refine (q₁ s₁ v x₁.toBs d₁).then fun c s₂ H₂ e₂ m₂ q₂ => ?_
  cases c with
  | true => exact wpAny_mono (q₂ s₂ (x₁.ext e₂ m₂)) (fun _ _ p => (p.trans e₂).trans e₁) fun _ _ f => f
  | false => exact ⟨H₂, t, e₁.trans e₂, m₂, e₂.den d₁, q₂⟩
/-- a and b, of truths that change nothing -/
theorem ev_andb {a b : Expr} {pos : Pos} {b₁ b₂ : Bool} (h₁ : Ev C a σ H fun t H₁ => H₁ = H ∧ t = .bool b₁) (h₂ : Ev C b σ H fun t H₁ => H₁ = H ∧ t = .bool b₂) (q : Q (.bool (b₁ && b₂)) H) : Ev C (.BoolOp .And [a, b] pos) σ H Q := by
  refine ev_and2 (h₁.mono ?_)
  intro c' H' ⟨hH, hc⟩
  subst hH
  subst hc
  refine tru_bool ?_
  cases b₁ with
  | true =>
    refine ite_true' (h₂.mono ?_)
    rintro _ _ ⟨rfl, rfl⟩
    simpa using q
  | false => exact ite_false' (by simpa using q)
theorem ev_orb {a b : Expr} {pos : Pos} {b₁ b₂ : Bool} (h₁ : Ev C a σ H fun t H₁ => H₁ = H ∧ t = .bool b₁) (h₂ : Ev C b σ H fun t H₁ => H₁ = H ∧ t = .bool b₂) (q : Q (.bool (b₁ || b₂)) H) : Ev C (.BoolOp .Or [a, b] pos) σ H Q := by
  refine ev_or2 (h₁.mono ?_)
  intro c' H' ⟨hH, hc⟩
  subst hH
  subst hc
  refine tru_bool ?_
  cases b₁ with
  | true => exact ite_true' (by simpa using q)
  | false =>
    refine ite_false' (h₂.mono ?_)
    rintro _ _ ⟨rfl, rfl⟩
    simpa using q
/-- a if c else b, of numbers, where the test and both change nothing -/
theorem ev_ifint {t a b : Expr} {pos : Pos} {c : Bool} {i j : Int} (h : Ts C t σ H fun c' H₁ => H₁ = H ∧ c' = c) (h₁ : Ev C a σ H fun t H₁ => H₁ = H ∧ t = .int i) (h₂ : Ev C b σ H fun t H₁ => H₁ = H ∧ t = .int j) (q : Q (.int (if c = true then i else j)) H) :
    Ev C (.IfExp t a b pos) σ H Q := by
  refine ev_if fun s x => (h s x).mono ?_
  intro c' H' ⟨hH, hc⟩
  subst hH
  subst hc
  cases c' with
  | true => exact ite_true' (h₁.mono fun _ _ ⟨e1, e2⟩ => by subst e1; subst e2; simpa using q)
  | false => exact ite_false' (h₂.mono fun _ _ ⟨e1, e2⟩ => by subst e1; subst e2; simpa using q)
theorem tsb_or {a b : Expr} {pos : Pos} {b₁ b₂ : Bool} {Q : Bool → AH → Prop} (h₁ : Ts C a σ H fun t H₁ => H₁ = H ∧ t = b₁) (h₂ : Ts C b σ H fun t H₁ => H₁ = H ∧ t = b₂) (q : Q (b₁ || b₂) H) : Ts C (.BoolOp .Or [a, b] pos) σ H Q := by
  refine ts_or fun s x => (h₁ s x).mono ?_
  intro c' H' ⟨hH, hc⟩
  subst hH
  subst hc
  cases c' with
  | true => exact ite_true' (by simpa using q)
  | false =>
    refine ite_false' (ts_or fun s x => (h₂ s x).mono ?_)
    intro c'' H'' ⟨hH, hc⟩
    subst hH
    subst hc
    cases c'' with
    | true => exact ite_true' (by simpa using q)
    | false => exact ite_false' (ts_or_nil (by simpa using q))
theorem tsb_and {a b : Expr} {pos : Pos} {b₁ b₂ : Bool} {Q : Bool → AH → Prop} (h₁ : Ts C a σ H fun t H₁ => H₁ = H ∧ t = b₁) (h₂ : Ts C b σ H fun t H₁ => H₁ = H ∧ t = b₂) (q : Q (b₁ && b₂) H) : Ts C (.BoolOp .And [a, b] pos) σ H Q := by
  refine ts_and fun s x => (h₁ s x).mono ?_
  intro c' H' ⟨hH, hc⟩
  subst hH
  subst hc
  cases c' with
  | false => exact ite_false' (by simpa using q)
  | true =>
    refine ite_true' (ts_and fun s x => (h₂ s x).mono ?_)
    intro c'' H'' ⟨hH, hc⟩
    subst hH
    subst hc
    cases c'' with
    | false => exact ite_false' (by simpa using q)
    | true => exact ite_true' (ts_and_nil (by simpa using q))
/-- a new list in the frame -/
theorem ev_newlist {es : List Expr} {pos : Pos} (h : Evs C es σ H fun ts H' => ts.length ≤ 16777216 ∧ ∀ a, H' a = Option.none → C.lo ≤ a → Q (.mut a) (hup H' a ts)) : Ev C (.List es pos) σ H Q := ev_trk (eva_list h)
end

theorem filterMap_range {α β : Type} (f : α → Option β) : ∀ (xs : List α), (List.range xs.length).filterMap (fun k => xs[k]?.bind f) = xs.filterMap f := by
  intro xs
  have : ∀ (xs ys : List α), (List.range xs.length).filterMap (fun k => (ys ++ xs)[k + ys.length]?.bind f) = xs.filterMap f := by
    intro xs
    induction xs with
    | nil => intro ys; rfl
    | cons x xs ih =>
      intro ys
      rw [List.length_cons, List.range_succ_eq_map, List.filterMap_cons, List.filterMap_map]
      have h0 : (ys ++ x :: xs)[0 + ys.length]? = some x := by simp
      rw [h0]
      have h1 : (List.range xs.length).filterMap ((fun k => (ys ++ x :: xs)[k + ys.length]?.bind f) ∘ Nat.succ) = xs.filterMap f := by
        have := ih (ys ++ [x])
        rw [← this]
        congr 1
        funext k
        simp only [Function.comp, List.append_assoc, List.cons_append, List.nil_append, List.length_append, List.length_cons, List.length_nil]
        congr 2
        omega
      rw [h1, List.filterMap_cons]
      rfl
  simpa using this xs []

section
variable {C : Cx} {σ : Sg} {H : AH} {Q : PT → AH → Prop}

/-- a comprehension over things that are written as trees -/
theorem ev_compM {α : Type} {elt target iter : Expr} {ifs : List Expr} {scope : Scope} {pos : Pos} {QA : List PT → AH → Prop} (enc : α → PT) (f : α → Option PT)
    (h : Ev C iter σ H fun t H₁ => ∃ (xs : List α), Itr C H₁ t (xs.map enc) false ∧ xs.length ≤ 16777216 ∧ (∀ x w, f x = some w → NM w = true) ∧
      (∀ L lo x Hf, x ∈ xs → (∀ a us, H₁ a = some us → Hf a = some us) → CTurn (cmpC C scope L lo) target elt ifs (σc scope σ) Hf (enc x) (f x)) ∧ QA (xs.filterMap f) H₁)
    (hfv : FvOk C σ (frees scope)) (hsc : scOk scope = true := by decide) (hkind : scope.kind = .function := by rfl) (hs : ∀ x, foldedSetIterable iter C.env x = pure x := by intro _; rfl) :
    EvA C (.ListComp elt [⟨target, iter, ifs, 0⟩] scope pos) σ H QA := by
  refine ev_comp (h.mono fun t H₁ ⟨xs, h1, h2, h3, h4, h5⟩ => ⟨xs.map enc, fun k => xs[k]?.bind f, h1, by rw [List.length_map, sizeLine_eq]; exact h2, ?_, ?_, ?_⟩) hfv hsc hkind hs
  · intro k w e
    replace e : xs[k]?.bind f = some w := e
    cases q : xs[k]? with
    | none => rw [q] at e; cases e
    | some x => rw [q] at e; exact h3 x w e
  · intro L lo k u Hf hu hH
    rw [List.getElem?_map] at hu
    cases q : xs[k]? with
    | none => rw [q] at hu; cases hu
    | some x =>
      rw [q] at hu
      cases hu
      show CTurn _ _ _ _ _ _ _ (xs[k]?.bind f)
      rw [q]
      exact h4 L lo x Hf (List.mem_of_getElem? q) hH
  · rw [List.length_map, filterMap_range]; exact h5
theorem ex_set_compM {α : Type} {R : Fl → Sg → AH → Prop} {y : Str} {py : Pos} {elt target iter : Expr} {ifs : List Expr} {scope : Scope} {pos pos₂ : Pos} (trk : Bool) (enc : α → PT) (f : α → Option PT)
    (h : Ev C iter σ H fun t H₁ => ∃ (xs : List α), Itr C H₁ t (xs.map enc) false ∧ xs.length ≤ 16777216 ∧ (∀ x w, f x = some w → NM w = true) ∧
      (∀ L lo x Hf, x ∈ xs → (∀ a us, H₁ a = some us → Hf a = some us) → CTurn (cmpC C scope L lo) target elt ifs (σc scope σ) Hf (enc x) (f x)) ∧
      (if trk = true then ∀ a, H₁ a = Option.none → C.lo ≤ a → R .next (upd σ y (.mut a)) (hup H₁ a (xs.filterMap f)) else R .next (upd σ y (.lst (xs.filterMap f))) H₁))
    (hfv : FvOk C σ (frees scope)) (hsc : scOk scope = true := by decide) (hkind : scope.kind = .function := by rfl) (hs : ∀ x, foldedSetIterable iter C.env x = pure x := by intro _; rfl) (hy : stb C y = true := by rfl)
    (hw : swapsWithSole [.Name y py] (.ListComp elt [⟨target, iter, ifs, 0⟩] scope pos) pos₂.line C.env = pure true := by rfl) :
    Ex C (.Assign [.Name y py] (.ListComp elt [⟨target, iter, ifs, 0⟩] scope pos) pos₂) σ H R := by
  refine ex_set_comp trk (h.mono fun t H₁ ⟨xs, h1, h2, h3, h4, h5⟩ => ⟨xs.map enc, fun k => xs[k]?.bind f, h1, by rw [List.length_map, sizeLine_eq]; exact h2, ?_, ?_, ?_⟩) hfv hsc hkind hs hy hw
  · intro k w e
    replace e : xs[k]?.bind f = some w := e
    cases q : xs[k]? with
    | none => rw [q] at e; cases e
    | some x => rw [q] at e; exact h3 x w e
  · intro L lo k u Hf hu hH
    rw [List.getElem?_map] at hu
    cases q : xs[k]? with
    | none => rw [q] at hu; cases hu
    | some x =>
      rw [q] at hu
      cases hu
      show CTurn _ _ _ _ _ _ _ (xs[k]?.bind f)
      rw [q]
      exact h4 L lo x Hf (List.mem_of_getElem? q) hH
  · rw [List.length_map, filterMap_range]; exact h5

/-- one frame within -/
def inC (C : Cx) : Cx := { C with A := C.A.in1, d := 0 }
theorem Bs.inC {s : Shared} (x : Bs C H s) (hd : 1 ≤ C.d) : Bs (inC C) H s := by
  refine ⟨⟨x.ok.G, x.ok.hh, ?_, ?_, x.ok.kind, x.ok.glob, x.ok.blt, x.ok.low, x.ok.loc⟩, x.base, x.muts, x.lo⟩
  · have := x.ok.depth
    show C.A.depth + 0 ≤ 900
    omega
  · have := x.ok.units
    show C.A.units + 1 + 10 * 0 ≤ 9000
    omega

theorem preSum_eq (ns : List Int) : ∀ n, n ≤ ns.length → preSum (fun i => ns.getD i 0) n = (ns.take n).sum
  | 0, _ => by simp [preSum]
  | n + 1, h => by
    rw [preSum, preSum_eq ns n (by omega)]
    have hn : n < ns.length := by omega
    rw [List.take_add_one, List.sum_append, List.getD_eq_getElem?_getD, List.getElem?_eq_getElem hn]
    simp
theorem sum_ints {t : PT} {ns : List Int} (l : Lv H t (ns.map PT.int)) (q : Q (.int ns.sum) H) (hd : 1 ≤ C.d) : Blt C "sum" [t] H Q := fun s vs x hv => by
  obtain ⟨v, rfl, hw⟩ := of_one hv
  have it := itr_lv (C := inC C) l s v (x.inC hd) hw
  refine call_sum_walkG (wpAny_mono it (fun w s' p => ?_) fun _ _ f => f.elim)
  obtain ⟨I, fp, Pr, S, rfl, W, hS, hk, hI, hob, hfp, hit⟩ := p
  rw [List.length_map] at W
  refine ⟨I, I :: fp, [I], ns.length, Pr, S, fun i => ns.getD i 0, rfl, W, hS, ?_, ?_, ?_⟩
  · intro b hb
    rcases List.mem_cons.mp hb with rfl | hb
    · obtain ⟨o, ho, _⟩ := hob 0 _ hS
      exact Heap.lt_size ho
    · obtain ⟨⟨o, _, ho⟩, _⟩ := hfp b hb
      exact Heap.lt_size (Keeps.get hk ho)
  · intro i v hv
    obtain ⟨t, ht, d⟩ := hit i v hv
    rw [List.getElem?_map] at ht
    cases z : ns[i]? with
    | none => rw [z] at ht; cases ht
    | some n =>
      rw [z] at ht; cases ht
      obtain ⟨tk, rfl⟩ := of_int d
      refine ⟨tk, ?_⟩
      show Value.int n tk = Value.int (ns.getD i 0) tk
      rw [List.getD_eq_getElem?_getD, z]; rfl
  · intro h' tk t' hk'
    rw [preSum_eq ns _ (Nat.le_refl _), List.take_length]
    obtain ⟨h2, t2, rfl, k2⟩ := hk
    have kk : ∀ b o, s.heap.get? b = some o → h'.get? b = some o := fun b o e => hk' b o (by
      intro hb
      rw [List.mem_singleton] at hb
      subst hb
      exact absurd (Heap.lt_size e) (Nat.not_lt.mpr hI)) (k2 b o e)
    exact postW.kept kk x.muts den_int q

theorem argBest_lt (bt : Nat → Nat → Bool) : ∀ n, argBest bt n ≤ n
  | 0 => Nat.le_refl _
  | n + 1 => by
    have := argBest_lt bt n
    simp only [argBest]; split <;> omega
theorem argBest_max (ns : List Int) (bt : Nat → Nat → Bool) (hb : ∀ i j, bt i j = decide (ns.getD j 0 < ns.getD i 0)) : ∀ n i, i ≤ n → ns.getD i 0 ≤ ns.getD (argBest bt n) 0
  | 0, i, h => by
    have : i = 0 := by omega
    subst this; exact Int.le_refl _
  | n + 1, i, h => by
    simp only [argBest]
    rcases Nat.lt_or_ge i (n + 1) with q | q
    · have := argBest_max ns bt hb n i (by omega)
      split
      · rename_i z; rw [hb] at z; simp only [decide_eq_true_eq] at z; omega
      · exact this
    · have : i = n + 1 := by omega
      subst this
      split
      · exact Int.le_refl _
      · rename_i z; rw [hb] at z; simp only [decide_eq_true_eq] at z; omega
theorem argBest_min (ns : List Int) (bt : Nat → Nat → Bool) (hb : ∀ i j, bt i j = decide (ns.getD i 0 < ns.getD j 0)) : ∀ n i, i ≤ n → ns.getD (argBest bt n) 0 ≤ ns.getD i 0
  | 0, i, h => by
    have : i = 0 := by omega
    subst this; exact Int.le_refl _
  | n + 1, i, h => by
    simp only [argBest]
    rcases Nat.lt_or_ge i (n + 1) with q | q
    · have := argBest_min ns bt hb n i (by omega)
      split
      · rename_i z; rw [hb] at z; simp only [decide_eq_true_eq] at z; omega
      · exact this
    · have : i = n + 1 := by omega
      subst this
      split
      · exact Int.le_refl _
      · rename_i z; rw [hb] at z; simp only [decide_eq_true_eq] at z; omega
theorem getD_mem {ns : List Int} {i : Nat} (h : i < ns.length) : ns.getD i 0 ∈ ns := by
  rw [List.getD_eq_getElem?_getD, List.getElem?_eq_getElem h]; exact List.getElem_mem h
theorem mem_getD {ns : List Int} {x : Int} (h : x ∈ ns) : ∃ i, i < ns.length ∧ ns.getD i 0 = x := by
  obtain ⟨i, hi, e⟩ := List.getElem_of_mem h
  exact ⟨i, hi, by rw [List.getD_eq_getElem?_getD, List.getElem?_eq_getElem hi]; exact e⟩
theorem max_list {t : PT} {ns : List Int} (l : Lv H t (ns.map PT.int)) (hne : ns ≠ []) (q : ∀ m, m ∈ ns → (∀ x ∈ ns, x ≤ m) → Q (.int m) H) (hd : 1 ≤ C.d) : Blt C "max" [t] H Q := fun s vs x hv => by
  obtain ⟨v, rfl, hw⟩ := of_one hv
  have hpos : 0 < ns.length := List.length_pos_iff.mpr hne
  have it := itr_lv (C := inC C) l s v (x.inC hd) hw
  refine call_max_walk (wpAny_mono it (fun w s' p => ?_) fun _ _ f => f.elim)
  obtain ⟨I, fp, Pr, S, rfl, W, hS, hk, hI, hob, hfp, hit⟩ := p
  rw [List.length_map] at W
  have pr : ∀ i v, Pr i v → ∃ tk, v = .int (ns.getD i 0) tk := fun i v hv => by
    obtain ⟨t, ht, d⟩ := hit i v hv
    rw [List.getElem?_map] at ht
    cases z : ns[i]? with
    | none => rw [z] at ht; cases ht
    | some n =>
      rw [z] at ht; cases ht
      obtain ⟨tk, rfl⟩ := of_int d
      refine ⟨tk, ?_⟩
      rw [List.getD_eq_getElem?_getD, z]; rfl
  refine ⟨I, I :: fp, [I], ns.length, Pr, S, fun i j => decide (ns.getD j 0 < ns.getD i 0), rfl, W, hS, ?_, hpos, ?_, ?_⟩
  · intro b hb
    rcases List.mem_cons.mp hb with rfl | hb
    · obtain ⟨o, ho, _⟩ := hob 0 _ hS
      exact Heap.lt_size ho
    · obtain ⟨⟨o, _, ho⟩, _⟩ := hfp b hb
      exact Heap.lt_size (Keeps.get hk ho)
  · intro i j vi vj s₂ Q₂ E₂ h1 h2 hq
    obtain ⟨t1, rfl⟩ := pr i vi h1
    obtain ⟨t2, rfl⟩ := pr j vj h2
    exact gt_int hq
  · intro v' h' tk hp hk'
    obtain ⟨t1, rfl⟩ := pr _ v' hp
    obtain ⟨h2, t2, rfl, k2⟩ := hk
    have kk : ∀ b o, s.heap.get? b = some o → h'.get? b = some o := fun b o e => hk' b o (by
      intro hb
      rw [List.mem_singleton] at hb
      subst hb
      exact absurd (Heap.lt_size e) (Nat.not_lt.mpr hI)) (k2 b o e)
    refine postW.kept kk x.muts den_int (q _ (getD_mem ?_) fun y hy => ?_)
    · have := argBest_lt (fun i j => decide (ns.getD j 0 < ns.getD i 0)) (ns.length - 1); omega
    · obtain ⟨i, hi, rfl⟩ := mem_getD hy
      exact argBest_max ns _ (fun _ _ => rfl) _ i (by omega)
theorem min_list {t : PT} {ns : List Int} (l : Lv H t (ns.map PT.int)) (hne : ns ≠ []) (q : ∀ m, m ∈ ns → (∀ x ∈ ns, m ≤ x) → Q (.int m) H) (hd : 1 ≤ C.d) : Blt C "min" [t] H Q := fun s vs x hv => by
  obtain ⟨v, rfl, hw⟩ := of_one hv
  have hpos : 0 < ns.length := List.length_pos_iff.mpr hne
  have it := itr_lv (C := inC C) l s v (x.inC hd) hw
  refine call_min_walk (wpAny_mono it (fun w s' p => ?_) fun _ _ f => f.elim)
  obtain ⟨I, fp, Pr, S, rfl, W, hS, hk, hI, hob, hfp, hit⟩ := p
  rw [List.length_map] at W
  have pr : ∀ i v, Pr i v → ∃ tk, v = .int (ns.getD i 0) tk := fun i v hv => by
    obtain ⟨t, ht, d⟩ := hit i v hv
    rw [List.getElem?_map] at ht
    cases z : ns[i]? with
    | none => rw [z] at ht; cases ht
    | some n =>
      rw [z] at ht; cases ht
      obtain ⟨tk, rfl⟩ := of_int d
      refine ⟨tk, ?_⟩
      rw [List.getD_eq_getElem?_getD, z]; rfl
  refine ⟨I, I :: fp, [I], ns.length, Pr, S, fun i j => decide (ns.getD i 0 < ns.getD j 0), rfl, W, hS, ?_, hpos, ?_, ?_⟩
  · intro b hb
    rcases List.mem_cons.mp hb with rfl | hb
    · obtain ⟨o, ho, _⟩ := hob 0 _ hS
      exact Heap.lt_size ho
    · obtain ⟨⟨o, _, ho⟩, _⟩ := hfp b hb
      exact Heap.lt_size (Keeps.get hk ho)
  · intro i j vi vj s₂ Q₂ E₂ h1 h2 hq
    obtain ⟨t1, rfl⟩ := pr i vi h1
    obtain ⟨t2, rfl⟩ := pr j vj h2
    exact lt_int hq
  · intro v' h' tk hp hk'
    obtain ⟨t1, rfl⟩ := pr _ v' hp
    obtain ⟨h2, t2, rfl, k2⟩ := hk
    have kk : ∀ b o, s.heap.get? b = some o → h'.get? b = some o := fun b o e => hk' b o (by
      intro hb
      rw [List.mem_singleton] at hb
      subst hb
      exact absurd (Heap.lt_size e) (Nat.not_lt.mpr hI)) (k2 b o e)
    refine postW.kept kk x.muts den_int (q _ (getD_mem ?_) fun y hy => ?_)
    · have := argBest_lt (fun i j => decide (ns.getD i 0 < ns.getD j 0)) (ns.length - 1); omega
    · obtain ⟨i, hi, rfl⟩ := mem_getD hy
      exact argBest_min ns _ (fun _ _ => rfl) _ i (by omega)

/-- ''.join(list of texts) -/
theorem strsAre_of {h : Heap} : ∀ (ls : List (List Nat)) (vs : List Value), Dens h H (ls.map fun l => PT.str (tx l)) vs → StrsAre vs (ls.map tx)
  | [], _, d => by cases of_nil d; exact .nil
  | l :: ls, _, d => by
    obtain ⟨v, r, rfl, h1, h2⟩ := of_cons d
    obtain ⟨tk, rfl⟩ := of_str h1
    exact .cons _ tk (strsAre_of ls r h2)
theorem join_tx (ls : List (List Nat)) : Txt.join (tx []) (ls.map tx) = tx ls.flatten := by
  have key : ∀ x : Str, x.cps.toList = ls.flatten → x = tx ls.flatten := fun x h => by rw [← h, tx_of]
  refine key _ ?_
  unfold Txt.join
  cases ls with
  | nil => simp [Builtin.Str.glued, Str.empty]
  | cons l ls =>
    simp only [List.map_cons, Builtin.Str.glued]
    have : ∀ (ls : List (List Nat)) (acc : Array Nat), (List.foldl (fun acc p => acc ++ (tx []).cps ++ p.cps) acc (ls.map tx)).toList = acc.toList ++ ls.flatten := by
      intro ls
      induction ls with
      | nil => intro acc; simp
      | cons m ls ih =>
        intro acc
        rw [List.map_cons, List.foldl_cons, ih]
        simp [tx]
    show (List.foldl (fun acc p => acc ++ (tx []).cps ++ p.cps) (tx l).cps (ls.map tx)).toList = _
    rw [this]
    simp [tx]
theorem join_txt {t : PT} {ls : List (List Nat)} (l : Lv H t (ls.map fun l => PT.str (tx l))) (q : Q (.str (tx ls.flatten)) H) (h : (ls.map List.length).sum ≤ 16777216) : Blt C "str.join" [.str (tx []), t] H Q := fun s vs x hv => by
  obtain ⟨v, w, rfl, hv, hw⟩ := of_two hv
  obtain ⟨tk, rfl⟩ := of_str hv
  obtain ⟨a, ws, rfl, hl, hd⟩ := l.at x.muts hw
  refine join_list hl.isList (strsAre_of ls _ hd) ?_ fun t' k => ?_
  · rw [tx_length]
    have e : (ls.map tx).map (·.length) = ls.map List.length := by
      rw [List.map_map]; refine List.map_congr_left fun l _ => ?_; exact tx_length l
    rw [e]
    simpa using h
  · rw [join_tx]
    exact postW.toks _ x.muts den_str q
end

theorem σc_get {scope : Scope} {σ : Sg} {x : Str} {t : PT} (h : σ x = some t) (hm : (frees scope).contains x = true := by decide) : σc scope σ x = some t := by
  unfold σc
  rw [if_pos (by simpa using hm)]; exact h
theorem σc_at {scope : Scope} {σ : Sg} {x : Str} (hm : (frees scope).contains x = true) : σc scope σ x = σ x := by
  unfold σc
  rw [if_pos (by simpa using hm)]
theorem σc_look {scope : Scope} {σ : Sg} {x : Str} {r : Option PT} (hm : (frees scope).contains x = true) (e : σ x = r) : σc scope σ x = r := (σc_at hm).trans e
theorem σc_none {scope : Scope} {σ : Sg} {x : Str} (hm : (frees scope).contains x = false := by decide) : σc scope σ x = Option.none := by
  unfold σc
  rw [if_neg (by simpa using hm)]
theorem fv_nil {C : Cx} {σ : Sg} : FvOk C σ [] := trivial
theorem fv_cons {C : Cx} {σ : Sg} {x : Str} {xs : List Str} {t : PT} (h : σ x = some t) (r : FvOk C σ xs) (hk : C.env.kindOf x = some .cell := by rfl) : FvOk C σ (x :: xs) := ⟨⟨t, h⟩, by rw [hk]; decide, r⟩
theorem fv_free {C : Cx} {σ : Sg} {x : Str} {xs : List Str} {t : PT} (h : σ x = some t) (r : FvOk C σ xs) (hk : C.env.kindOf x = some .free := by rfl) : FvOk C σ (x :: xs) := ⟨⟨t, h⟩, by rw [hk]; decide, r⟩
theorem cturn_name {C : Cx} {y : Str} {p : Pos} {elt : Expr} {ifs : List Expr} {σ : Sg} {Hf : AH} {u : PT} {r : Option PT} (hy : σ y = Option.none)
    (h : Tsts C ifs (upd σ y u) Hf fun b H₃ => H₃ = Hf ∧ if b = true then Ev C elt (upd σ y u) Hf fun w H₄ => H₄ = Hf ∧ r = some w else r = Option.none) (hs : stb C y = true := by rfl) : CTurn C (.Name y p) elt ifs σ Hf u r := by
  refine asg_name ⟨rfl, fun x t e => ?_, h⟩ hs
  unfold upd
  split
  · rename_i q; subst q; rw [hy] at e; cases e
  · exact e
theorem rngL_nat (n : Nat) : rngL 0 1 n = (List.range n).map fun (i : Nat) => PT.int (i : Int) := by
  unfold rngL
  refine List.map_congr_left fun i _ => ?_
  congr 1
  omega
theorem itr_nats {C : Cx} {H : AH} {n : Nat} {m : Int} {fr : Bool} (hm : m = (n : Int)) (h : n ≤ 1000000000) : Itr C H (.rng 0 m 1) ((List.range n).map fun (i : Nat) => PT.int (i : Int)) fr := by
  subst hm
  rw [← rngL_nat]
  exact itr_upto h
theorem filterMap_int {α : Type} (xs : List α) (p : α → Bool) (e : α → Int) : xs.filterMap (fun x => if p x = true then some (PT.int (e x)) else Option.none) = ((xs.filter p).map e).map PT.int := by
  induction xs with
  | nil => rfl
  | cons x xs ih =>
    rw [List.filterMap_cons, List.filter_cons]
    by_cases h : p x = true
    · simp only [h, if_true, List.map_cons, ih]
    · simp only [h, if_false, ih]
      rfl
theorem filterMap_some {α β : Type} (xs : List α) (e : α → β) : xs.filterMap (fun x => some (e x)) = xs.map e := by
  induction xs with
  | nil => rfl
  | cons x xs ih => rw [List.filterMap_cons, ih]; rfl
theorem cturn_filter {C : Cx} {y : Str} {p p' : Pos} {cond : Expr} {σ : Sg} {Hf : AH} {t : PT} {b : Bool} (hy : σ y = Option.none) (ht : Ts C cond (upd σ y t) Hf fun c H₃ => H₃ = Hf ∧ c = b) (hs : stb C y = true := by rfl)
    (hd : (y == ("__debug__" : Str)) = false := by decide) (hn : (y == ("__classdict__" : Str)) = false := by decide) : CTurn C (.Name y p) (.Name y p') [cond] σ Hf t (if b = true then some t else Option.none) := by
  refine cturn_name hy (tsts_one fun s x => (ht s x).mono ?_) hs
  intro c H' ⟨e1, e2⟩
  subst e1
  subst e2
  refine ⟨rfl, ?_⟩
  split
  · exact ev_name upd_same ⟨rfl, rfl⟩ hd hn
  · rfl
theorem cturn_map {C : Cx} {y : Str} {p : Pos} {elt : Expr} {σ : Sg} {Hf : AH} {t v : PT} (hy : σ y = Option.none) (h : Ev C elt (upd σ y t) Hf fun w H₄ => H₄ = Hf ∧ w = v) (hs : stb C y = true := by rfl) : CTurn C (.Name y p) elt [] σ Hf t (some v) := by
  refine cturn_name hy (tsts_nil ⟨rfl, ite_true' (h.mono fun w H₄ ⟨e1, e2⟩ => ⟨e1, by rw [e2]⟩)⟩) hs
theorem cturn_both {C : Cx} {y : Str} {p : Pos} {elt cond : Expr} {σ : Sg} {Hf : AH} {t v : PT} {b : Bool} (hy : σ y = Option.none) (ht : Ts C cond (upd σ y t) Hf fun c H₃ => H₃ = Hf ∧ c = b) (h : b = true → Ev C elt (upd σ y t) Hf fun w H₄ => H₄ = Hf ∧ w = v) (hs : stb C y = true := by rfl) :
    CTurn C (.Name y p) elt [cond] σ Hf t (if b = true then some v else Option.none) := by
  refine cturn_name hy (tsts_one fun s x => (ht s x).mono ?_) hs
  intro c H' ⟨e1, e2⟩
  subst e1
  subst e2
  refine ⟨rfl, ?_⟩
  split
  · rename_i hb
    exact (h hb).mono fun w H₄ ⟨e1, e2⟩ => ⟨e1, by rw [e2]⟩
  · rfl

section
variable {C : Cx} {σ : Sg} {H : AH} {Q : PT → AH → Prop}
/-- one of two texts -/
theorem sub_two_str {a b : Str} {i : Int} (h : i = 0 ∨ i = 1) (q : Q (.str (if i = 0 then a else b)) H) : Sub C (.tup [.str a, .str b]) (.int i) H Q := by
  rcases h with rfl | rfl
  · exact sub_tup (by simp) (by simp) (by simp) (t := .str a) rfl (by simpa using q)
  · exact sub_tup (by simp) (by simp) (by simp) (t := .str b) rfl (by simpa using q)
/-- one of four -/
theorem sub_four {a b c d : PT} {i : Int} (h : i = 0 ∨ i = 1 ∨ i = 2 ∨ i = 3) (q : Q (if i = 0 then a else if i = 1 then b else if i = 2 then c else d) H) : Sub C (.tup [a, b, c, d]) (.int i) H Q := by
  rcases h with rfl | rfl | rfl | rfl
  · exact sub_tup (by simp) (by simp) (by simp) (t := a) rfl (by simpa using q)
  · exact sub_tup (by simp) (by simp) (by simp) (t := b) rfl (by simpa using q)
  · exact sub_tup (by simp) (by simp) (by simp) (t := c) rfl (by simpa using q)
  · exact sub_tup (by simp) (by simp) (by simp) (t := d) rfl (by simpa using q)
/-- a sign of a text, by a place within -/
theorem sub_txt {l : List Nat} {i : Int} {c : Nat} (h1 : 0 ≤ i) (h2 : i < l.length) (hb : l.length ≤ 16777216) (hc : l[i.toNat]? = some c) (q : Q (.str (tx [c])) H) : Sub C (.str (tx l)) (.int i) H Q :=
  sub_str (c := c) (by rw [tx_length]; omega) (by rw [tx_length]; omega) (by rw [tx_length]; exact hb) (by rw [place_nonneg h1, tx_cps]; exact hc) q
/-- an item of a list, by a place within -/
theorem sub_at {o : PT} {ts : List PT} {i : Int} {t : PT} (l : Lv H o ts) (h1 : 0 ≤ i) (h2 : i < ts.length) (hb : ts.length ≤ 16777216) (ht : ts[i.toNat]? = some t) (q : Q t H) : Sub C o (.int i) H Q :=
  sub_lst l (by omega) h2 hb (by rw [place_nonneg h1]; exact ht) q
/-- the last item -/
theorem sub_last {o : PT} {ts : List PT} {t : PT} (l : Lv H o ts) (hne : ts ≠ []) (hb : ts.length ≤ 16777216) (ht : ts.getLast? = some t) (q : Q t H) : Sub C o (.int (-1)) H Q := by
  have hp : 0 < ts.length := List.length_pos_iff.mpr hne
  refine sub_lst l (by omega) (by omega) hb ?_ q
  rw [place_neg (by omega)]
  have e : (-1 + (ts.length : Int)).toNat = ts.length - 1 := by omega
  rw [e, ← List.getLast?_eq_getElem?]
  exact ht
theorem ts_mono {e : Expr} {Q Q' : Bool → AH → Prop} (h : Ts C e σ H Q) (k : ∀ b H', Q b H' → Q' b H') : Ts C e σ H Q' := fun s x => (h s x).mono k
/-- a < b < c, of numbers -/
theorem tsb_false_and {a b : Expr} {pos : Pos} {Q : Bool → AH → Prop} (h₁ : Ts C a σ H fun t H₁ => H₁ = H ∧ t = false) (q : Q false H) : Ts C (.BoolOp .And [a, b] pos) σ H Q := by
  refine ts_and (ts_mono h₁ ?_)
  intro c' H' ⟨hH, hc⟩
  subst hH
  subst hc
  exact ite_false' q
end

section
variable {C : Cx} {σ : Sg} {H : AH} {R : Fl → Sg → AH → Prop}
/-- o[i] op= e -/
theorem ex_augitem {o i e : Expr} {op : Operator} {pos' pos : Pos}
    (h : Ev C o σ H fun t H₁ => Ev C i σ H₁ fun k H₂ => ∃ a ts j u, t = .mut a ∧ k = .int j ∧ C.lo ≤ a ∧ H₂ a = some ts ∧ 0 ≤ j ∧ j < ts.length ∧ ts.length ≤ 16777216 ∧ ts[j.toNat]? = some u ∧
      Ev C e σ H₂ fun v H₃ => Inp C op u v H₃ fun r H₄ => H₄ a = some ts ∧ R .next σ (hup H₄ a (ts.set j.toNat r)))
    (hi : ∀ ov iv new, augStore i ov iv new = (do holding [new, ov, iv] (setItem ov iv new); release [new, ov, iv] []; pure .next) := by intros; rfl) : Ex C (.AugAssign (.Subscript o i pos') op e pos) σ H R := fun s x => by
  refine wpAny_AugAssign_SubscriptAny ((h s x.toSv).then fun vo t s₁ H₁ e₁ m₁ d₁ q₁ => ?_) hi
  have x₁ := x.ext e₁ m₁
  refine (q₁ s₁ x₁.toSv).then fun vi k s₂ H₂ e₂ m₂ d₂ q₂ => ?_
  have x₂ := x₁.ext e₂ m₂
  obtain ⟨a, ts, j, u, rfl, rfl, hlo, ht, h0, hj, hb, hu, q₂⟩ := q₂
  obtain ⟨rfl, _⟩ := of_mut d₁
  obtain ⟨tk, rfl⟩ := of_int d₂
  obtain ⟨vs, hl, hd⟩ := m₂ a ts ht
  have hlen : vs.size = ts.length := by have := hd.length; simpa using this
  obtain ⟨old, ho, hdo⟩ := hd.get hu
  refine wpAny_getItem_list hl.isList h0 (by omega) (by simpa using ho) ?_
  refine (q₂ s₂ x₂.toSv).then fun v w s₃ H₃ e₃ m₃ d₃ q₃ => ?_
  have x₃ := x₂.ext e₃ m₃
  refine (q₃ s₃ old v x₃.toBs (e₃.den hdo) d₃).then fun vr r s₄ H₄ e₄ m₄ d₄ q₄ => ?_
  have x₄ := x₃.ext e₄ m₄
  obtain ⟨ht₄, q₄⟩ := q₄
  obtain ⟨vs₄, hl₄, hd₄⟩ := m₄ a ts ht₄
  have hlen₄ : vs₄.size = ts.length := by have := hd₄.length; simpa using this
  refine setItem_plain hl₄ h0 (by omega) (by omega) fun h' hl' hs' => ?_
  have hw := st_write (us := ts.set j.toNat r) (tk := s₄.toks) x₄ ht₄ hlo hl' hs' (dens_set hd₄ d₄)
  exact ⟨.next, σ, _, hw.1, ((((Kp.of_ext e₁).trans (Kp.of_ext e₂)).trans (Kp.of_ext e₃)).trans (Kp.of_ext e₄)).trans hw.2, rfl, q₄⟩
end

section
variable {C : Cx} {σ : Sg} {H : AH} {R : Fl → Sg → AH → Prop}
/-- a statement by what is known behind it -/
theorem exs_cut {st : Stmt} {rest : List Stmt} (M : Sg → AH → Prop) (h : Ex C st σ H fun f σ' H' => f = .next ∧ M σ' H') (k : ∀ σ' H', M σ' H' → Exs C rest σ' H' R) : Exs C (st :: rest) σ H R :=
  exs_cons (h.mono fun f σ' H' ⟨e, m⟩ => by subst e; exact then_next (k σ' H' m))
theorem ex_cut {st : Stmt} (M : Sg → AH → Prop) (h : Ex C st σ H fun f σ' H' => f = .next ∧ M σ' H') (k : ∀ σ' H', M σ' H' → R .next σ' H') : Ex C st σ H R :=
  h.mono fun f σ' H' ⟨e, m⟩ => by subst e; exact k σ' H' m
theorem ev_cut {Q : PT → AH → Prop} {e : Expr} (M : PT → AH → Prop) (h : Ev C e σ H M) (k : ∀ t H', M t H' → Q t H') : Ev C e σ H Q := h.mono k
end

section
variable {C : Cx} {σ : Sg} {H : AH} {Q : PT → AH → Prop}

theorem draw_walk {I : Addr} {fp : List Addr} {n : Nat} {Pr : Nat → Value → Prop} {S : Nat → Heap → Prop} (W : Walks C.G.prog C.G.w C.A I (I :: fp) [I] n Pr S) :
    ∀ (m i : Nat) (s : Shared) (Q : List Value → Shared → Prop), S i s.heap → i + m ≤ n →
      (∀ vs h' tk, vs.length = m → (∀ (j : Nat) v, vs[j]? = some v → Pr (i + j) v) → S (i + m) h' → (∀ b o, b ∉ [I] → s.heap.get? b = some o → h'.get? b = some o) → Q vs { s with heap := h', toks := tk }) →
      wpAny C.M C.A (draw (.ref I) m) Q no s
  | 0, i, s, Q, hS, _, hQ => by
    show wpAny _ _ (pure []) Q no s
    refine wpAny_pure ?_
    have := hQ [] s.heap s.toks rfl (by simp) (by simpa using hS) (fun _ _ _ e => e)
    exact this
  | m + 1, i, s, Q, hS, hle, hQ => by
    show wpAny _ _ (pyNext (.ref I) >>= _) Q no s
    refine wpAny_bind (W.item i s _ _ (by omega) hS fun v h₁ tk₁ hP hS₁ hk₁ => ?_)
    refine wpAny_bind (wpAny_holding (draw_walk W m (i + 1) { s with heap := h₁, toks := tk₁ } _ hS₁ (by omega) fun vs h' tk hl hp hS' hk' => wpAny_pure ?_))
    refine hQ (v :: vs) h' tk (by simp [hl]) (fun j u hj => ?_) (by rw [show i + (m + 1) = i + 1 + m by omega]; exact hS') (fun b o hb e => hk' b o hb (hk₁ b o hb e))
    cases j with
    | zero => simp at hj; subst hj; exact hP
    | succ j =>
      have := hp j u (by simpa using hj)
      rw [show i + (j + 1) = i + 1 + j by omega]; exact this

theorem unpackItems_lv {s : Shared} {t : PT} {ts : List PT} {v : Value} {Q : List Value → Shared → Prop} (x : Bs C H s) (l : Lv H t ts) (d : Den s.heap H t v)
    (hQ : ∀ vs s', Keeps s s' → Dens s.heap H ts vs → Q vs s') : wpAny C.M C.A (unpackItems v ts.length Option.none) Q no s := by
  have it := itr_lv (C := C) l s v x d
  obtain ⟨a, ws, rfl, hl, hd⟩ := l.at x.muts d
  unfold unpackItems
  refine wpAny_bind ?_
  unfold notIterableAtAll
  refine wpAny_bind (wpAny_specialOf hl.isList.typeIs slot_list_iter.lookup ?_)
  refine wpAny_pure ?_
  simp only [Bool.false_eq_true, if_false]
  refine wpAny_bind (wpAny_holding (wpAny_mono it (fun w s₁ p => ?_) fun _ _ f => f))
  obtain ⟨I, fp, Pr, S, rfl, W, hS, hk, hI, hob, hfp, hit⟩ := p
  refine wpAny_bind (wpAny_holding (draw_walk W ts.length 0 s₁ _ hS (by omega) fun vs h₁ tk₁ hvl hp hS₁ hk₁ => ?_))
  rw [if_neg (by omega)]
  rw [Nat.zero_add] at hS₁
  refine wpAny_bind (wpAny_holding (W.done { s₁ with heap := h₁, toks := tk₁ } _ _ hS₁ fun h₂ tk₂ hk₂ => ?_))
  simp only [Option.isSome_none, Bool.false_eq_true, if_false]
  refine wpAny_pure (hQ vs _ ?_ ?_)
  · obtain ⟨h0, t0, rfl, k0⟩ := hk
    refine ⟨h₂, tk₂, rfl, fun b o e => ?_⟩
    have hb : b ∉ [I] := by
      intro hb
      rw [List.mem_singleton] at hb
      subst hb
      exact absurd (Heap.lt_size e) (Nat.not_lt.mpr hI)
    exact hk₂ b o hb (hk₁ b o hb (k0 b o e))
  · refine Dens.of_get hvl fun i u w h1 h2 => ?_
    obtain ⟨u', hu, hdu⟩ := hit i w (by have := hp i w h2; rwa [Nat.zero_add] at this)
    rw [h1] at hu; cases hu; exact hdu

/-- x, y = a list -/
theorem asg_unlist {es : List Expr} {k : Nat} {pos : Pos} {t : PT} {ts : List PT} {R : Sg → AH → Prop} (l : Lv H t ts) (h : Asgs C es ts σ H R) (hn : (assignEach es C.env).length = ts.length := by rfl) (hstar : (assignEach es C.env).findIdx? (·.1) = Option.none := by rfl) :
    Asg C (.Tuple es k pos) t σ H R := fun s v x d => by
  rw [arm_assign_Tuple]
  refine wpAny_bind (wpAny_standAt ?_)
  unfold unpack
  rw [hn, hstar]
  refine wpAny_bind (wpAny_holding (unpackItems_lv x.toBs l d fun vs s' kp hd => ?_))
  have e := Ext.of_keeps H kp
  refine wpAny_mono (h s' vs (x.ext e (e.muts x.muts)) (e.dens hd)) (fun _ s'' p => ?_) fun _ _ f => f
  obtain ⟨σ', H', q1, q2, q3⟩ := p
  exact ⟨σ', H', q1, (Kp.of_ext e).trans q2, q3⟩

theorem intsAre_of {h : Heap} : ∀ (ns : List Int) (vs : List Value), Dens h H (ns.map PT.int) vs → IntsAre vs ns
  | [], _, d => by cases of_nil d; exact .nil
  | n :: ns, _, d => by
    obtain ⟨v, r, rfl, h1, h2⟩ := of_cons d
    obtain ⟨t, rfl⟩ := of_int h1
    exact .cons n t (intsAre_of ns r h2)
theorem dens_of_ints {h : Heap} : ∀ {vs : List Value} {ns : List Int}, IntsAre vs ns → Dens h H (ns.map PT.int) vs
  | _, _, .nil => dens_nil
  | _, _, .cons n t r => dens_cons den_int (dens_of_ints r)
/-- sorted(a list of numbers) -/
theorem sorted_lst {t : PT} {ns : List Int} (l : Lv H t (ns.map PT.int)) (h : ns.length < 64) (q : ∀ ns' : List Int, ns'.Perm ns → ns'.Pairwise (· ≤ ·) → Q (.lst (ns'.map PT.int)) H) : Blt C "sorted" [t] H Q := fun s vs x hv => by
  obtain ⟨v, rfl, hw⟩ := of_one hv
  obtain ⟨a, ws, rfl, hl, hd⟩ := l.at x.muts hw
  have hlen : ws.toList.length = ns.length := by have := hd.length; simpa using this
  refine sorted_ints (vs := ws.toList) (ns := ns) (by simpa using hl.isList) (intsAre_of ns _ hd) (by omega) fun out ns' a1 a2 a3 => ?_
  have kk : ∀ b o, s.heap.get? b = some o → (sortedAll s.heap ws.toList out).get? b = some o := fun b o e => sortedAll_old e
  have hno : H (s.heap.objs.size + 1) = Option.none := by
    cases z : H (s.heap.objs.size + 1) with
    | none => rfl
    | some ts => obtain ⟨_, ⟨_, h1⟩, _⟩ := x.muts _ ts z; exact absurd (Heap.lt_size h1) (Nat.not_lt.mpr (Nat.le_succ _))
  obtain ⟨e, he⟩ := sortedAll_at s.heap ws.toList out
  refine postW.kept (tk := s.toks) kk x.muts ?_ (q ns' a2 a3)
  simp only [Den]
  exact ⟨_, out, rfl, hno, ⟨e, he⟩, dens_of_ints a1⟩
end

theorem seq_list_iadd' : seqSlot? (.type "list") (dunderI "add") = pure (some (.builtin "list.__iadd__")) := PySem.seqSlot_of F.slot_list_iadd.lookup (by decide +kernel)
theorem fillsI_list : fillsInplaceSlot (.type "list") "add" (Operator.Add == .Add) = pure false := by
  unfold fillsInplaceSlot
  show (typeLookup (.type "list") (dunderI "add") >>= fun fi => pure (fi.isSome && !isSeqSlot fi)) = pure false
  rw [F.slot_list_iadd.lookup, pure_bind]
  congr 1
theorem inplace_list {M : Model} {A : Around} {E : Value → Shared → Prop} {s : Shared} {a b : Value} {Q : Value → Shared → Prop} (ha : s.TypeIs a "list") (hb : s.TypeIs b "list") (hc : wpAny M A (call (.builtin "list.__iadd__") [a, b]) Q E s) :
    wpAny M A (inplaceOp .Add a b) Q E s := by
  unfold inplaceOp
  refine wpAny_holding ?_
  refine wpAny_bind (wpAny_typeOf ha (wpAny_bind (wpAny_of_eq fillsI_list ?_)))
  show wpAny M A (if false = true then _ else _) Q E s
  rw [if_neg Bool.false_ne_true]
  refine wpAny_bind (wpAny_binaryOp1_none (nm := "add") ha hb noFill_list_add ?_)
  refine wpAny_bind (wpAny_of_eq seq_list_iadd' ?_)
  exact wpAny_bind (wpAny_rule hc)

section
variable {C : Cx} {σ : Sg} {H : AH} {R : Fl → Sg → AH → Prop}

/-- x += a list -/
theorem ex_augl {y : Str} {a : Addr} {e : Expr} {pos' pos : Pos} (ht : σ y = some (.mut a)) (hlo : C.lo ≤ a) (h : Ev C e σ H fun u H₁ => ∃ ts us, H₁ a = some ts ∧ Lv H₁ u us ∧ ts.length + us.length ≤ 16777216 ∧ R .next (upd σ y (.mut a)) (hup H₁ a (ts ++ us))) (hy : stb C y = true := by rfl)
    (hn : (y == ("__classdict__" : Str)) = false := by decide) : Ex C (.AugAssign (.Name y pos') .Add e pos) σ H R := fun s x => by
  refine wpAny_AugAssign_Name ?_
  have go : ∀ v, Den s.heap H (.mut a) v → wpAny C.M C.A (eval e C.env) (fun v' s₂ => wpAny C.M C.A (inplaceOp .Add v v') (fun r s₃ => wpAny C.M C.A (storeName C.env y r) (fun _ => postS C s H R .next) no s₃) no s₂) no s := fun v d => by
    refine (h s x.toSv).then fun w u s₁ H₁ e₁ m₁ d₁ q₁ => ?_
    have x₁ := x.ext e₁ m₁
    obtain ⟨ts, us, hts, lv, hb, r⟩ := q₁
    have dm := e₁.den d
    obtain ⟨rfl, hne⟩ := of_mut dm
    obtain ⟨vs, ⟨n, hl⟩, hd⟩ := m₁ a ts hts
    obtain ⟨b, ws, rfl, ⟨n2, hl2⟩, hd2⟩ := lv.at m₁ d₁
    have hlen : vs.size = ts.length := by have := hd.length; simpa using this
    have hlen2 : ws.size = us.length := by have := hd2.length; simpa using this
    have hsl := sizeLine_eq
    refine inplace_list ⟨_, hl, rfl⟩ ⟨_, hl2, rfl⟩ ?_
    refine call_meets F.slot_list_iadd ⟨_, hl, rfl⟩ F.entry_list_iadd (F.args_list_iadd_2 _ _) (AutoSeq1.list___iadd___list_list_0 a vs n b ws n2 (by rw [tooLong_no (by omega)]; simp) (by omega) (by omega)) ⟨hl, hl2, ?_⟩
    have hw := st_write (us := ts ++ us) (tk := s₁.toks) x₁ hts hlo (extend_at (b := b) (ws := ws) hl) (Heap.SameBut.update ..) (by rw [Array.toList_append]; exact hd.append hd2)
    refine st_store (t := .mut a) hw.1 ?_ hy fun s' x' z' => ⟨.next, _, _, x', ((Kp.of_ext e₁).trans hw.2).trans z', rfl, r⟩
    simp only [Den]
    exact ⟨trivial, by rw [hup_same]; simp⟩
  by_cases hl : C.env.kindOf y = some .local
  · obtain ⟨m, h1, h2⟩ := x.ns
    obtain ⟨v, h3, h4⟩ := h2 y _ ht hl
    exact wpAny_loadName_local x.ok.kind hl h1 h3 (go v h4)
  · obtain ⟨h1, c, v, h2, h3, h4⟩ := x.cells y _ ht hl
    rcases h1 with h1 | h1
    · exact wpAny_loadName_cell x.ok.kind h1 h2 h3 (go v h4)
    · exact wpAny_loadName_free x.ok.kind h1 h2 h3 (go v h4) hn

/-- list(a tuple), as a new list -/
theorem eva_call_list_tup {g : Str} {p pos : Pos} {e : Expr} {QA : List PT → AH → Prop} (hg : Ev C (.Name g p) σ H fun f H₁ => f = .oth (.type "list") ∧ Ev C e σ H₁ fun t H₂ => ∃ ts, t = .tup ts ∧ ts.length ≤ 16777216 ∧ QA ts H₂)
    (he : starEach [e] C.env = [(false, eval e C.env)] := by rfl) : EvA C (.Call (.Name g p) [e] [] pos) σ H QA := fun s x => by
  refine wpAny_Call_NameR ((hg s x).then fun v t s₁ H₁ e₁ m₁ d₁ q₁ => ?_)
  obtain ⟨rfl, q₁⟩ := q₁
  cases of_oth d₁
  have x₁ := x.ext e₁ m₁
  refine callWith_any (by rw [he]; rfl) ?_
  rw [he]
  show wpAny _ _ (spliced [(false, eval e C.env)]) _ _ _
  refine Calls.spliced_cons ((q₁ s₁ x₁).then fun w u s₂ H₂ e₂ m₂ d₂ q₂ => Calls.spliced_nil ⟨keeper_type, ?_⟩)
  obtain ⟨ts, rfl, hb, q⟩ := q₂
  obtain ⟨r, vs, rfl, h4, ⟨n, h5⟩, hd⟩ := of_tup d₂
  have hlen : vs.size = ts.length := by have := hd.length; simpa using this
  refine call_list_seq (T := "tuple") r (.inr rfl) h5 rfl rfl (fun h' c' hk hl => ?_) (by rw [hlen, sizeLine_eq]; exact hb)
  have k : Keeps s₂ { s₂ with heap := h' } := ⟨h', s₂.toks, rfl, hk⟩
  have e₃ := Ext.of_keeps H₂ k
  have x₂ := x₁.ext e₂ m₂
  have hn := size_none m₂
  refine postA.before (e₁.trans e₂) ⟨H₂, s₂.heap.objs.size, ts, vs, rfl, x₂.lo, get_size_none _, e₃, hn, ⟨_, hl⟩, e₃.muts m₂, e₃.dens hd, fun b' us z => ?_, q⟩
  have up : ∀ t v, Dens s₂.heap H₂ t v → Dens h' (hup H₂ s₂.heap.objs.size ts) t v := fun t v => Dens.mono' (fun d o _ e q => ⟨hk d o e, hup_ne (Nat.ne_of_lt (Heap.lt_size e)) q⟩) t v (.inr fun d q => by
    by_cases w' : d = s₂.heap.objs.size
    · rw [w', hup_same]; simp
    · rw [hup_ne w' rfl]; exact q)
  by_cases w : b' = s₂.heap.objs.size
  · subst w
    rw [hup_same] at z; cases z
    exact ⟨vs, ⟨_, hl⟩, up _ _ hd⟩
  · rw [hup, if_neg w] at z
    obtain ⟨ws, h6, h7⟩ := m₂ b' us z
    exact ⟨ws, h6.at fun o e => hk b' o e, up _ _ h7⟩

theorem star_tuple (es : List Expr) (k : Nat) (p : Pos) (rest : List Expr) (env : Env) : starEach (.Tuple es k p :: rest) env = (false, eval (.Tuple es k p) env) :: starEach rest env := rfl
theorem star_const (c : Const) (k : Nat) (p : Pos) (rest : List Expr) (env : Env) : starEach (.Constant c k p :: rest) env = (false, eval (.Constant c k p) env) :: starEach rest env := rfl
theorem star_list (es : List Expr) (p : Pos) (rest : List Expr) (env : Env) : starEach (.List es p :: rest) env = (false, eval (.List es p) env) :: starEach rest env := rfl
theorem evs_tuple {es : List Expr} {k : Nat} {p : Pos} {rest : List Expr} {Q : List PT → AH → Prop} (h : Ev C (.Tuple es k p) σ H fun t H₁ => Evs C rest σ H₁ fun ts H₂ => Q (t :: ts) H₂) : Evs C (.Tuple es k p :: rest) σ H Q := evs_cons h (star_tuple _ _ _ _ _)
theorem evs_const {c : Const} {k : Nat} {p : Pos} {rest : List Expr} {Q : List PT → AH → Prop} (h : Ev C (.Constant c k p) σ H fun t H₁ => Evs C rest σ H₁ fun ts H₂ => Q (t :: ts) H₂) : Evs C (.Constant c k p :: rest) σ H Q := evs_cons h (star_const _ _ _ _ _)
theorem evs_list {es : List Expr} {p : Pos} {rest : List Expr} {Q : List PT → AH → Prop} (h : Ev C (.List es p) σ H fun t H₁ => Evs C rest σ H₁ fun ts H₂ => Q (t :: ts) H₂) : Evs C (.List es p :: rest) σ H Q := evs_cons h (star_list _ _ _ _)
variable {Q : PT → AH → Prop}
/-- type(a number) -/
theorem type_int {i : Int} (q : Q (.oth (.type "int")) H) : Typ C "type" [.int i] H Q := fun s vs x hv => by
  obtain ⟨v, rfl, hw⟩ := of_one hv
  obtain ⟨t, rfl⟩ := of_int hw
  exact call_type_of (typeIs_int s i t) (by decide +kernel) (postW.same x.muts den_oth q)
theorem cmp_isnot_type {X : String} (q : Q (.bool false) H) : Cmp C .IsNot (.oth (.type X)) (.oth (.type X)) H Q := fun s v w x hv hw => by
  cases of_oth hv
  cases of_oth hw
  exact isnot_type_same (postW.same x.muts den_bool q)
/-- an item of a tuple, by a place within -/
theorem sub_tat {ts : List PT} {i : Int} {t : PT} (h1 : 0 ≤ i) (h2 : i < ts.length) (hb : ts.length ≤ 16777216) (ht : ts[i.toNat]? = some t) (q : Q t H) : Sub C (.tup ts) (.int i) H Q :=
  sub_tup (by omega) h2 hb (by rw [place_nonneg h1]; exact ht) q
end

mutual
/-- trees without a tuple -/
def NT : PT → Bool
  | .none => true
  | .bool _ => true
  | .int _ => true
  | .str _ => true
  | .tup _ => false
  | .lst ts => NTs ts
  | .mut _ => true
  | .rng _ _ _ => true
  | .oth _ => true
def NTs : List PT → Bool
  | [] => true
  | t :: ts => NT t && NTs ts
end
/-- lists and ranges -/
def PlL (o : Obj) : Prop := (∃ its n, o = { cls := .type "list", data := .seq its n }) ∨ ∃ fs, o = { cls := .type "range", dict := Option.none, data := .fields fs, slots := #[] }
mutual
theorem Den.monoNT {h h' : Heap} {H : AH} (hk : ∀ a o, PlL o → h.get? a = some o → h'.get? a = some o) :
    ∀ (t : PT) (v : Value), NT t = true → Den h H t v → Den h' H t v
  | .none, _, _, e => e
  | .bool _, _, _, e => e
  | .int _, _, _, e => e
  | .str _, _, _, e => e
  | .tup ts, v, hm, e => by simp [NT] at hm
  | .lst ts, v, hm, e => by
    simp only [Den] at e ⊢
    obtain ⟨a, vs, rfl, h1, ⟨n, h2⟩, h3⟩ := e
    exact ⟨a, vs, rfl, h1, ⟨n, hk a _ (.inl ⟨_, _, rfl⟩) h2⟩, Dens.monoNT hk ts _ (by simpa only [NT] using hm) h3⟩
  | .mut a, v, hm, e => e
  | .rng a b c, v, hm, e => by
    simp only [Den] at e ⊢
    obtain ⟨r, t, u, w, rfl, h1, h2⟩ := e
    exact ⟨r, t, u, w, rfl, h1, hk r _ (.inr ⟨_, rfl⟩) h2⟩
  | .oth _, _, _, e => e
theorem Dens.monoNT {h h' : Heap} {H : AH} (hk : ∀ a o, PlL o → h.get? a = some o → h'.get? a = some o) :
    ∀ (ts : List PT) (vs : List Value), NTs ts = true → Dens h H ts vs → Dens h' H ts vs
  | [], _, _, e => e
  | t :: ts, vs, hm, e => by
    simp only [Dens] at e ⊢
    obtain ⟨v, r, rfl, h1, h2⟩ := e
    simp only [NTs, Bool.and_eq_true] at hm
    exact ⟨v, r, rfl, Den.monoNT hk t v hm.1 h1, Dens.monoNT hk ts r hm.2 h2⟩
end

section
variable {C : Cx} {σ : Sg} {H : AH} {R : Fl → Sg → AH → Prop}

/-- objects that are no list, no frame's names and no cell -/
def NoL (o : Obj) : Prop := ¬ PlL o ∧ (∀ es ep, o.data ≠ .dict es ep) ∧ (∀ v, o.data ≠ .cell v)
/-- such objects are turned, and others stay -/
theorem St.turnNT {s₀ s : Shared} {wr : List Addr} {h' : Heap} {tk : Nat} (x₀ : St C σ H s₀) (hlo : ∀ a ts, H a = some ts → a < C.lo) {σ' : Sg} (x : St C σ' H s) (k : Kp C s₀ H s H) (hnt : ∀ y t, σ' y = some t → NT t = true)
    (hwr : ∀ b ∈ wr, s₀.heap.objs.size ≤ b ∧ ∃ o, s.heap.get? b = some o ∧ NoL o)
    (hk : ∀ b o, b ∉ wr → s.heap.get? b = some o → h'.get? b = some o) : St C σ' H { s with heap := h', toks := tk } ∧ Kp C s₀ H { s with heap := h', toks := tk } H := by
  have old : ∀ b, b < s₀.heap.objs.size → b ∉ wr := fun b hb hm => absurd (hwr b hm).1 (Nat.not_le.mpr hb)
  have notL : ∀ b o, PlL o → s.heap.get? b = some o → b ∉ wr := fun b o p e hm => by
    obtain ⟨_, o', e', n, _⟩ := hwr b hm
    rw [e] at e'; cases e'; exact n p
  have notD : ∀ b o es ep, o.data = .dict es ep → s.heap.get? b = some o → b ∉ wr := fun b o es ep p e hm => by
    obtain ⟨_, o', e', _, n, _⟩ := hwr b hm
    rw [e] at e'; cases e'; exact n es ep p
  have notC : ∀ b o v, o.data = .cell v → s.heap.get? b = some o → b ∉ wr := fun b o v p e hm => by
    obtain ⟨_, o', e', _, _, n⟩ := hwr b hm
    rw [e] at e'; cases e'; exact n v p
  have lo₀ := x₀.lo
  have low := x.ok.low
  have up : ∀ t v, NT t = true → Den s.heap H t v → Den h' H t v := fun t v hn d => Den.monoNT (fun a o p e => hk a o (notL a o p e) e) t v hn d
  have kp : Kp C s₀ H { s with heap := h', toks := tk } H := by
    refine ⟨?_, fun b o e f => hk b o (old b (Heap.lt_size e)) (k.keep b o e f), fun b o e => ?_, k.frz, k.frn⟩
    · obtain ⟨h1, t1, rfl⟩ := k.same
      exact ⟨h', tk, rfl⟩
    · obtain ⟨o', e'⟩ := k.alive b o e
      exact ⟨o', hk b o' (old b (Heap.lt_size e)) e'⟩
  obtain ⟨m, hn, hm⟩ := x.ns
  obtain ⟨oL, es, ep, hoL, hdL, hr⟩ := hn
  have hL' := hk _ _ (notD _ _ es ep hdL hoL) hoL
  refine ⟨⟨⟨⟨x.ok, fun b o q => ?_, fun a ts q => ?_, ?_⟩, ⟨m, ⟨oL, es, ep, hL', hdL, hr⟩, fun y t hy hl => let ⟨v, h1, h2⟩ := hm y t hy hl; ⟨v, h1, up _ _ (hnt y t hy) h2⟩⟩, fun y t hy hl => ?_⟩, x.sok, fun y hy => ?_⟩, kp⟩
  · exact hk b o (old b (Nat.lt_of_lt_of_le (Heap.lt_size q) (Nat.le_trans low lo₀))) (x.base b o q)
  · obtain ⟨vs, h1, h2⟩ := x₀.muts a ts q
    obtain ⟨m₀, hn₀, _⟩ := x₀.ns
    refine ⟨vs, h1.at fun o e => kp.keep a o e ⟨ns_ne_list hn₀ h1, fun _ y hy hc => ?_, .inr (hlo a ts q)⟩, Dens.mono' (fun b o p e z => ⟨kp.keep b o e (x₀.fz p e z), z⟩) ts _ (.inr fun _ z => z) h2⟩
    obtain ⟨c, v, g1, g2⟩ := x₀.has y hy
    rw [g1] at hc; cases hc
    exact cell_ne_list g2 h1 rfl
  · exact Nat.le_of_lt (Nat.lt_of_le_of_lt x.ok.loc (Heap.lt_size hL'))
  · obtain ⟨h1, c, v, h2, ⟨o, h5, h6⟩, h4⟩ := x.cells y t hy hl
    exact ⟨h1, c, v, h2, ⟨o, hk c o (notC c o _ h6 h5) h5, h6⟩, up _ _ (hnt y t hy) h4⟩
  · obtain ⟨c, v, h2, ⟨o, h5, h6⟩⟩ := x.has y hy
    exact ⟨c, v, h2, ⟨o, hk c o (notC c o _ h6 h5) h5, h6⟩⟩

theorem NoL.ne_locals {s : Shared} {b : Addr} {o : Obj} (x : St C σ H s) (n : NoL o) (e : s.heap.get? b = some o) : b ≠ C.env.locals := by
  rintro rfl
  obtain ⟨_, ⟨o', es, ep, ho', hd', _⟩, _⟩ := x.ns
  rw [e] at ho'; cases ho'
  exact n.2.1 es ep hd'
theorem NoL.fz {s : Shared} {b : Addr} {o : Obj} (x : St C σ H s) (n : NoL o) (e : s.heap.get? b = some o) : Fz C H b := by
  refine ⟨n.ne_locals x e, fun _ y hy hc => ?_, .inl ?_⟩
  · obtain ⟨c, v, h1, ⟨o', h2, h3⟩⟩ := x.has y hy
    rw [h1] at hc; cases hc
    rw [e] at h2; cases h2
    exact n.2.2 v h3
  · cases q : H b with
    | none => rfl
    | some us =>
      obtain ⟨vs, ⟨n', h1⟩, _⟩ := x.muts b us q
      rw [e] at h1; cases h1
      exact absurd (.inl ⟨_, _, rfl⟩) n.1

theorem zipApart_of (N l1 l2 : Nat) (h1 : l1 < N) (h2 : l2 < N) : ZipApart (N + 4) (N + 2) (N + 3) N (N + 1) l1 l2 := by
  have key : ∀ a b : Nat, a ≠ b → (a : Addr) ≠ b := fun a b h => h
  constructor <;> (apply key; omega)
/-- for x, y in zip(a, b) -/
theorem ex_zip {es : List Expr} {k₀ : Nat} {tp gp cpos pos : Pos} {g : Str} {e₁ e₂ : Expr} {body : List Stmt}
    (h : Ev C (.Name g gp) σ H fun f H₀ => f = .oth (.type "zip") ∧ Ev C e₁ σ H₀ fun a H₁ => Ev C e₂ σ H₁ fun b H₂ => ∃ (ts us : List PT) (I : Nat → Sg → Prop), a = .lst ts ∧ b = .lst us ∧ NMs ts = true ∧ NMs us = true ∧
      (∀ a ts, H₂ a = some ts → a < C.lo) ∧ I 0 σ ∧ (∀ k σ', I k σ' → ∀ x t, σ' x = some t → NT t = true) ∧
      (∀ k t u σ', ts[k]? = some t → us[k]? = some u → I k σ' → Asgs C es [t, u] σ' H₂ fun σ'' H'' => Exs C body σ'' H'' fun f σ₃ H₃ => match f with
        | .next | .cont => H₃ = H₂ ∧ I (k + 1) σ₃
        | .brk => R .next σ₃ H₃
        | .ret t => R (.ret t) σ₃ H₃) ∧
      (∀ σ', I (min ts.length us.length) σ' → R .next σ' H₂))
    (hs : ∀ x, foldedSetIterable (.Call (.Name g gp) [e₁, e₂] [] cpos) C.env x = pure x := by intro _; rfl)
    (he : starEach [e₁, e₂] C.env = [(false, eval e₁ C.env), (false, eval e₂ C.env)] := by rfl) (hn : (assignEach es C.env).length = 2 := by rfl) (hstar : (assignEach es C.env).findIdx? (·.1) = Option.none := by rfl) :
    Ex C (.For (.Tuple es k₀ tp) (.Call (.Name g gp) [e₁, e₂] [] cpos) body [] pos) σ H R := fun s x => by
  refine wpAny_For ?_ hs
  refine wpAny_Call_NameR ((h s x.toSv).then fun v t s₀ H₀ e₀ m₀ d₀ q₀ => ?_)
  obtain ⟨rfl, q₀⟩ := q₀
  cases of_oth d₀
  have x₀ := x.ext e₀ m₀
  refine callWith_any (by rw [he]; rfl) ?_
  rw [he]
  show wpAny _ _ (spliced [(false, eval e₁ C.env), (false, eval e₂ C.env)]) _ _ _
  refine Calls.spliced_cons ((q₀ s₀ x₀.toSv).then fun w u s₁ H₁ e₁' m₁ d₁ q₁ => ?_)
  have x₁ := x₀.ext e₁' m₁
  refine Calls.spliced_cons ((q₁ s₁ x₁.toSv).then fun w' u' s₂ H₂ e₂' m₂ d₂ q₂ => Calls.spliced_nil ⟨keeper_type, ?_⟩)
  have x₂ := x₁.ext e₂' m₂
  obtain ⟨ts, us, I, rfl, rfl, nmt, nmu, hlo, h0, hnt, turn, fin⟩ := q₂
  obtain ⟨l1, xs, rfl, hH1, hl1, hd1⟩ := of_lst (e₂'.den d₁)
  obtain ⟨l2, ys, rfl, hH2, hl2, hd2⟩ := of_lst d₂
  have len1 : xs.size = ts.length := by have := hd1.length; simpa using this
  have len2 : ys.size = us.length := by have := hd2.length; simpa using this
  have lt1 : l1 < s₂.heap.objs.size := by obtain ⟨_, e⟩ := hl1; exact Heap.lt_size e
  have lt2 : l2 < s₂.heap.objs.size := by obtain ⟨_, e⟩ := hl2; exact Heap.lt_size e
  refine call_zip_2 hl1.isList hl2.isList fun h₃ z1 z2 z3 z4 z5 z6 kz => ?_
  refine wpAny_pyIter_zip z1 ?_
  generalize hN : s₂.heap.objs.size = N at *
  have D : ZipApart (N + 4) (N + 2) (N + 3) N (N + 1) l1 l2 := zipApart_of N l1 l2 lt1 lt2
  have W := WalksT.zip2 (prog := C.G.prog) (w := C.G.w) (A := C.A) x.ok.hh (N + 4) (N + 2) (N + 3) N (N + 1) l1 l2 D xs ys
  have k₃ : Keeps s₂ { s₂ with heap := h₃ } := ⟨h₃, s₂.toks, rfl, kz⟩
  have e₃ := Ext.of_keeps H₂ k₃
  have x₃ := x₂.ext e₃ (e₃.muts m₂)
  have ee : Ext s H s₂ H₂ := (e₀.trans e₁').trans e₂'
  generalize hSt : (fun (i : Nat) (h : Heap) => IsZip h (N + 4) (N + 2) (N + 3) .none ∧ IsPair h (N + 2) (.ref N) (.ref (N + 1)) ∧ (∃ a b, IsPair h (N + 3) a b) ∧ h.IsListIter N l1 i ∧ h.IsListIter (N + 1) l2 i ∧ h.IsList l1 xs ∧ h.IsList l2 ys) = S at W
  have hS0 : S 0 h₃ := by
    rw [← hSt]
    exact ⟨z1, z2, ⟨_, _, z3⟩, z4, z5, hl1.isList.at fun o e => kz l1 o e, hl2.isList.at fun o e => kz l2 o e⟩
  have noL : ∀ i h, S i h → ∀ b ∈ [N + 4, N + 2, N + 3, N, N + 1], ∃ o, h.get? b = some o ∧ NoL o := by
    intro i h hS b hb
    rw [← hSt] at hS
    obtain ⟨g1, g2, ⟨_, _, g3⟩, ⟨o4, g4, g4c, g4d⟩, ⟨o5, g5, g5c, g5d⟩, _⟩ := hS
    simp only [List.mem_cons, List.not_mem_nil, or_false] at hb
    rcases hb with rfl | rfl | rfl | rfl | rfl
    · exact ⟨_, g1, (by rintro (⟨_, _, q⟩ | ⟨_, q⟩) <;> (injection q with z; injection z with z; exact absurd z (by decide))), (by intro _ _ q; cases q), (by intro _ q; cases q)⟩
    · exact ⟨_, g2, (by rintro (⟨_, _, q⟩ | ⟨_, q⟩) <;> (injection q with z; injection z with z; exact absurd z (by decide))), (by intro _ _ q; cases q), (by intro _ q; cases q)⟩
    · exact ⟨_, g3, (by rintro (⟨_, _, q⟩ | ⟨_, q⟩) <;> (injection q with z; injection z with z; exact absurd z (by decide))), (by intro _ _ q; cases q), (by intro _ q; cases q)⟩
    · refine ⟨o4, g4, ?_, (by intro _ _ q; rw [g4d] at q; cases q), (by intro _ q; rw [g4d] at q; cases q)⟩
      rintro (⟨_, _, q⟩ | ⟨_, q⟩)
      · rw [q] at g4d; cases g4d
      · rw [q] at g4c; injection g4c with z; exact absurd z (by decide)
    · refine ⟨o5, g5, ?_, (by intro _ _ q; rw [g5d] at q; cases q), (by intro _ q; rw [g5d] at q; cases q)⟩
      rintro (⟨_, _, q⟩ | ⟨_, q⟩)
      · rw [q] at g5d; cases g5d
      · rw [q] at g5c; injection g5c with z; exact absurd z (by decide)
  have lenz : min xs.size ys.size = min ts.length us.length := by rw [len1, len2]
  refine codeAny_forLoop_any (fun k s' => ∃ i σ', i ≤ min ts.length us.length ∧ k = min ts.length us.length + 1 - i ∧ I i σ' ∧ St C σ' H₂ s' ∧ S i s'.heap ∧ Kp C s₂ H₂ s' H₂) (fun k s' hI => ?_) (min ts.length us.length + 1)
    ⟨0, σ, Nat.zero_le _, rfl, h0, x₃, hS0, Kp.of_ext e₃⟩
  obtain ⟨i, σ', hle, rfl, hI, x', hS', k'⟩ := hI
  have wrOk : ∀ (s' : Shared) (i : Nat), S i s'.heap → ∀ b ∈ [N + 4, N + 3, N, N + 1], s₂.heap.objs.size ≤ b ∧ ∃ o, s'.heap.get? b = some o ∧ NoL o := by
    intro s' i hS b hb
    refine ⟨?_, noL i _ hS b ?_⟩
    · rw [hN]
      simp only [List.mem_cons, List.not_mem_nil, or_false] at hb
      rcases hb with rfl | rfl | rfl | rfl
      · exact Nat.le_add_right _ _
      · exact Nat.le_add_right _ _
      · exact Nat.le_refl _
      · exact Nat.le_add_right _ _
    · simp only [List.mem_cons, List.not_mem_nil, or_false] at hb ⊢
      rcases hb with rfl | rfl | rfl | rfl <;> simp
  by_cases hlt : i < min ts.length us.length
  · refine W.item i _ _ _ (by rw [lenz]; exact hlt) hS' fun T vals h₄ tk₄ hP hTge hT hMid hk₄ => ?_
    refine W.go _ _ _ i T _ _ _ hMid fun h₅ hS₅ hk₅ => ?_
    have hTw := W.apart i T _ hMid
    obtain ⟨xa, ka⟩ := St.turnNT (wr := [N + 4, N + 3, N, N + 1]) (h' := h₅) (tk := tk₄) x₂ hlo x' k' (hnt i σ' hI) (wrOk s' i hS') (fun b o hb e => hk₅ b o hb (hk₄ b o hb e))
    have hT₅ : h₅.IsTuple T vals := hT.at fun o e => hk₅ T o hTw e
    obtain ⟨a, b, ha, hb, rfl⟩ := hP
    obtain ⟨t, ht, hdt⟩ := hd1.get' (i := i) (v := a) (by simpa using ha)
    obtain ⟨u, hu, hdu⟩ := hd2.get' (i := i) (v := b) (by simpa using hb)
    have hdt' : Den h₅ H₂ t a := den_keep x₂ ka (.inl (nm_get nmt ht)) hdt
    have hdu' : Den h₅ H₂ u b := den_keep x₂ ka (.inl (nm_get nmu hu)) hdu
    refine wpAny_assign_Tuple x.ok.hh hT₅ (by rw [hn]; rfl) hstar fun h₆ hs₆ => ?_
    have k₆ : Keeps { s' with heap := h₅, toks := tk₄ } { s' with heap := h₆, toks := tk₄ } := ⟨h₆, tk₄, rfl, fun b o e => hs₆ b o (Nat.ne_of_lt (Heap.lt_size e)) e⟩
    have e₆ := Ext.of_keeps H₂ k₆
    have x₆ := xa.ext e₆ (e₆.muts xa.muts)
    refine wpAny_mono (turn i t u σ' ht hu hI { s' with heap := h₆, toks := tk₄ } [a, b] x₆ (dens_cons (e₆.den hdt') (dens_cons (e₆.den hdu') dens_nil))) (fun _ sc qc => ?_) fun _ _ f => f.elim
    obtain ⟨σc, Hc, xc, kc, qc⟩ := qc
    refine wpAny_mono (qc sc xc) (fun fl sd qd => ?_) fun _ _ f => f.elim
    obtain ⟨f, σd, Hd, xd, kd, fd, rd⟩ := qd
    have kcd := kc.trans kd
    have k6d : Kp C { s' with heap := h₅, toks := tk₄ } H₂ sd Hd := (Kp.of_ext e₆).trans kcd
    have hSd : S (i + 1) sd.heap := by
      refine W.frame _ _ _ hS₅ fun b hb' o e => k6d.keep b o e ?_
      have hb2 : b ∈ [N + 4, N + 2, N + 3, N, N + 1] ∨ b = l1 ∨ b = l2 := by
        simp only [List.mem_cons, List.not_mem_nil, or_false] at hb' ⊢
        rcases hb' with r | r | r | r | r | r | r <;> simp [r]
      rcases hb2 with hb2 | rfl | rfl
      · obtain ⟨o', e', n'⟩ := noL (i + 1) _ hS₅ b hb2
        exact n'.fz xa e'
      · obtain ⟨o', p', e'⟩ := pl_list hl1
        exact (x₂.fz p' e' hH1).step ka e'
      · obtain ⟨o', p', e'⟩ := pl_list hl2
        exact (x₂.fz p' e' hH2).step ka e'
    have kall := (Kp.of_ext ee).trans (ka.trans k6d)
    cases f with
    | next => simp only [FlD] at fd; subst fd; obtain ⟨rfl, rd⟩ := rd; exact ⟨min ts.length us.length + 1 - (i + 1), by omega, i + 1, σd, hlt, rfl, rd, xd, hSd, ka.trans k6d⟩
    | cont => simp only [FlD] at fd; subst fd; obtain ⟨rfl, rd⟩ := rd; exact ⟨min ts.length us.length + 1 - (i + 1), by omega, i + 1, σd, hlt, rfl, rd, xd, hSd, ka.trans k6d⟩
    | brk => simp only [FlD] at fd; subst fd; exact ⟨.next, σd, Hd, xd, kall, rfl, rd⟩
    | ret t => simp only [FlD] at fd; obtain ⟨v, rfl, hv⟩ := fd; exact ⟨.ret t, σd, Hd, xd, kall, ⟨v, rfl, hv⟩, rd⟩
  · have hin : i = min ts.length us.length := by omega
    subst hin
    refine W.done _ _ _ (by rw [lenz]; exact hS') fun h₄ tk₄ hk₄ => ?_
    obtain ⟨xa, ka⟩ := St.turnNT (wr := [N + 4, N + 3, N, N + 1]) (h' := h₄) (tk := tk₄) x₂ hlo x' k' (hnt _ σ' hI) (wrOk s' _ hS') hk₄
    exact wpAny_execs_nil ⟨.next, σ', H₂, xa, (Kp.of_ext ee).trans ka, rfl, fin σ' hI⟩
end
section
variable {C : Cx} {σ : Sg} {H : AH} {Q : PT → AH → Prop}
theorem bin_pow {i j : Int} (h0 : 0 ≤ j) (h1 : j ≤ 1000000) (h2 : i.natAbs < 2 ^ 64) (q : Q (.int (i ^ j.toNat)) H) : Bin C .Pow (.int i) (.int j) H Q := fun s v w x hv hw => by
  obtain ⟨t, rfl⟩ := of_int hv; obtain ⟨u, rfl⟩ := of_int hw
  exact pow_int_small h0 h1 h2 (postW.toks _ x.muts den_int q)
theorem isi_bool {i : Int} (q : Q (.bool false) H) : Blt C "isinstance" [.int i, .oth (.type "bool")] H Q := fun s vs x hv => by
  obtain ⟨v, w, rfl, hv, hw⟩ := of_two hv
  obtain ⟨t, rfl⟩ := of_int hv
  cases of_oth hw
  exact IsiPair.int_bool (postW.toks _ x.muts den_bool q)
theorem isi_int {i : Int} (q : Q (.bool true) H) : Blt C "isinstance" [.int i, .oth (.type "int")] H Q := fun s vs x hv => by
  obtain ⟨v, w, rfl, hv, hw⟩ := of_two hv
  obtain ⟨t, rfl⟩ := of_int hv
  cases of_oth hw
  exact IsiPair.int_int (postW.same x.muts den_bool q)
end
/-- a def that gives a number, whatever is written to around it -/
theorem Fn.int {G : Gx} {d : Nat} {f : Addr} {ts : List PT} {H : AH} {Q : PT → Prop} (h : Fn G d f ts (fun _ => Option.none) Q) (hn : NMs ts = true) (hQ : ∀ u, Q u → ∃ i, u = .int i) : Fn G d f ts H Q := by
  refine ⟨h.1, fun A s vs a b c e e' f' m q => codeAny_mono (h.2 A s vs a b c e e' f' (fun _ _ z => by cases z) (Dens.mono' (fun _ o _ e _ => ⟨e, rfl⟩) ts vs (.inl hn) q)) fun r s' ⟨v, u, h1, h2, h3, h4⟩ => ?_⟩
  obtain ⟨i, rfl⟩ := hQ u h4
  obtain ⟨t, rfl⟩ := of_int h3
  exact ⟨_, _, h1, h2, den_int, h4⟩
def hdel (H : AH) (a : Addr) : AH := fun b => if b = a then Option.none else H b
section
variable {C : Cx} {σ : Sg} {H : AH} {R : Fl → Sg → AH → Prop}
/-- a list is written to no more -/
theorem exs_freeze {ss : List Stmt} {σ' : Sg} {a : Addr} {ts : List PT} (ha : H a = some ts) (hts : NMs ts = true) (hlo : C.lo ≤ a) (hH : ∀ b us, H b = some us → b ≠ a → NMs us = true)
    (hσ : ∀ x t, σ' x = some t → (σ x = some (.mut a) ∧ t = .lst ts) ∨ (σ x = some t ∧ NM t = true)) (h : Exs C ss σ' (hdel H a) R) : Exs C ss σ H R := fun s x => by
  have del : ∀ b, H b = Option.none → hdel H a b = Option.none := fun b e => by unfold hdel; split <;> first | rfl | exact e
  have up : ∀ t v, NM t = true → Den s.heap H t v → Den s.heap (hdel H a) t v := fun t v n d => Den.mono' (fun b o _ e q => ⟨e, del b q⟩) t v (.inl n) d
  have ups : ∀ t v, NMs t = true → Dens s.heap H t v → Dens s.heap (hdel H a) t v := fun t v n d => Dens.mono' (fun b o _ e q => ⟨e, del b q⟩) t v (.inl n) d
  obtain ⟨vs, hl, hd⟩ := x.muts a ts ha
  have the : Den s.heap (hdel H a) (.lst ts) (.ref a) := by
    simp only [Den]
    exact ⟨a, vs, rfl, by simp [hdel], hl, ups _ _ hts hd⟩
  have one : ∀ y t v, σ' y = some t → (∀ u, σ y = some u → Den s.heap H u v) → Den s.heap (hdel H a) t v := fun y t v e k => by
    rcases hσ y t e with ⟨h1, rfl⟩ | ⟨h1, h2⟩
    · obtain ⟨rfl, _⟩ := of_mut (k _ h1)
      exact the
    · exact up _ _ h2 (k _ h1)
  have some' : ∀ y t, σ' y = some t → ∃ u, σ y = some u := fun y t e => by
    rcases hσ y t e with ⟨h1, _⟩ | ⟨h1, _⟩
    · exact ⟨_, h1⟩
    · exact ⟨_, h1⟩
  have x' : St C σ' (hdel H a) s := by
    obtain ⟨m, hn, hm⟩ := x.ns
    refine ⟨⟨⟨x.ok, x.base, fun b us q => ?_, x.lo⟩, ⟨m, hn, fun y t e hk => ?_⟩, fun y t e hk => ?_⟩, x.sok, x.has⟩
    · unfold hdel at q
      split at q
      · cases q
      · rename_i hne
        obtain ⟨ws, h1, h2⟩ := x.muts b us q
        exact ⟨ws, h1, ups _ _ (hH b us q hne) h2⟩
    · obtain ⟨u, hu⟩ := some' y t e
      obtain ⟨v, h1, h2⟩ := hm y u hu hk
      exact ⟨v, h1, one y t v e fun u' hu' => by rw [hu] at hu'; cases hu'; exact h2⟩
    · obtain ⟨u, hu⟩ := some' y t e
      obtain ⟨h1, c, v, h2, h3, h4⟩ := x.cells y u hu hk
      exact ⟨h1, c, v, h2, h3, one y t v e fun u' hu' => by rw [hu] at hu'; cases hu'; exact h4⟩
  have k : Kp C s H s (hdel H a) := by
    refine ⟨⟨s.heap, s.toks, rfl⟩, fun _ _ e _ => e, fun _ o e => ⟨o, e⟩, fun b o _ q => del b q, fun b us q l => ?_⟩
    unfold hdel
    rw [if_neg]
    · exact q
    · rintro rfl; exact absurd hlo (Nat.not_le.mpr l)
  exact wpAny_mono (h s x') (fun _ _ p => p.trans k) fun _ _ f => f
end

theorem dens_rev {h : Heap} {H : AH} : ∀ {ts : List PT} {vs : List Value}, Dens h H ts vs → Dens h H ts.reverse vs.reverse
  | [], _, d => by cases of_nil d; simpa using dens_nil
  | t :: ts, _, d => by
    obtain ⟨v, r, rfl, q1, q2⟩ := of_cons d
    rw [List.reverse_cons, List.reverse_cons]
    exact (dens_rev q2).append (dens_cons q1 dens_nil)
section
variable {C : Cx} {σ : Sg} {H : AH} {Q : PT → AH → Prop}
/-- a list from behind -/
theorem eva_rev {value step : Expr} {p pos : Pos} {QA : List PT → AH → Prop}
    (h : Ev C value σ H fun o H₁ => Ev C step σ H₁ fun st H₂ => ∃ ts, Lv H₂ o ts ∧ st = .int (-1) ∧ ts.length ≤ 16777216 ∧ QA ts.reverse H₂) :
    EvA C (.Subscript value (.Slice Option.none Option.none (some step) p) pos) σ H QA := fun s x => by
  refine Subscript_ ((h s x).then fun v a s₁ H₁ e₁ m₁ d₁ q₁ => ?_)
  have x₁ := x.ext e₁ m₁
  refine wpAny_Slice (wpAny_evalPart_none (wpAny_evalPart_none ?_))
  refine wpAny_evalPart_some ((q₁ s₁ x₁).then fun vs u s₃ H₃ e₃ m₃ d₃ q₃ => ?_)
  have x₃ := x₁.ext e₃ m₃
  obtain ⟨ts, lv, rfl, hb, q⟩ := q₃
  obtain ⟨tk, rfl⟩ := of_int d₃
  obtain ⟨b, ws, rfl, hl, hd⟩ := lv.at m₃ (e₃.den d₁)
  have hlen : ws.size = ts.length := by have := hd.length; simpa using this
  have k₄ := push_keeps s₃ { cls := .type "slice", data := .fields #[.none, .none, .int (-1) tk] }
  have e₄ := Ext.of_keeps H₃ k₄
  have hl₄ := hl.at fun o e => Keeps.get k₄ e
  refine tail_any (ops := [.ref b, .ref s₃.heap.objs.size]) hl₄.isList.typeIs slot_list_getitem.lookup ?_ rfl
  refine wpAny_getItem_list_slice (lo := Option.none) (hi := Option.none) (st := some (-1)) hl₄.isList ⟨_, Heap.get?_push_size _ rfl, rfl, rfl⟩ .none .none (.int _ _) (by simp) ?_ (by rw [hlen, sizeLine_eq]; exact hb)
  have hdc : Dens (s₃.heap.push { cls := .type "slice", data := .fields #[.none, .none, .int (-1) tk] }) H₃ ts.reverse (slicePick ws Option.none Option.none (some (-1))).toList := by
    rw [krv_pick]
    simpa using dens_rev (e₄.dens hd)
  have := postA.push (s := { s₃ with heap := s₃.heap.push { cls := .type "slice", data := .fields #[.none, .none, .int (-1) tk] } }) (tk := s₃.toks) (lo := C.lo) (Q := QA) (x₃.ext e₄ (e₄.muts m₃)).lo (e₄.muts m₃) hdc q
  exact this.before ((e₁.trans e₃).trans e₄)

theorem mth_index {t : PT} {ts : List PT} (l : Lv H t ts) : Mth C t "index" "list.index" H := fun s v b d => by
  obtain ⟨a, vs, rfl, ⟨n, e⟩, _⟩ := l.at b.muts d
  exact ⟨"list", F.plainAttrs_list, F.slot_list_index, F.type_list_index, ⟨_, e, rfl⟩, fun a' q => by cases q; exact ⟨_, e, rfl⟩⟩
/-- the first place of a thing in a list -/
theorem index_lst {t u : PT} {ts : List PT} {j : Nat} (l : Lv H t ts) (ht : doks ts = true) (hu : dok u = true) (hd : (pd u).depth ≤ 100) (hb : ts.length ≤ 16777216) (hj : j < ts.length) (hit : PyData.eqv (pd (ts.getD j .none)) (pd u) = true)
    (hno : ∀ m, m < j → PyData.eqv (pd (ts.getD m .none)) (pd u) = false) (q : Q (.int j) H) : Blt C "list.index" [t, u] H Q := fun s vs x hv => by
  obtain ⟨v, w, rfl, hv, hw⟩ := of_two hv
  obtain ⟨a, ws, rfl, ⟨n, hl⟩, hdl⟩ := l.at x.muts hv
  obtain ⟨as, rs⟩ := Dens.reads ts _ ht hdl
  obtain ⟨bs, rx⟩ := Den.reads u w hu hw
  have hlen : ws.size = ts.length := by have := hdl.length; simpa using this
  have hmap := SeqAt.readsAll_map (pds ts) _ _ (doks_lay ts ht) rs
  have rd : ∀ (m : Nat) (hm : m < ws.size), SeqAt.readOf s.heap ws[m] = pd (ts.getD m .none) := fun m hm => by
    have := congrArg (fun l => l[m]?) hmap
    rw [pds_map] at this
    simp only [List.getElem?_map] at this
    have e1 : ws.toList[m]? = some ws[m] := by simp [hm]
    have e2 : ts[m]? = some (ts.getD m .none) := by rw [List.getD_eq_getElem?_getD, List.getElem?_eq_getElem (by omega)]; rfl
    rw [e1, e2] at this
    simpa using this
  refine call_meets F.slot_list_index ⟨_, hl, rfl⟩ F.entry_list_index (F.args_list_index_2 _ _)
    (SeqAt.list_indexAt a ws n Option.none #[] w (fun y => PyData.eqv (SeqAt.readOf s.heap y) (pd u)) j (by omega) (by omega) (by rw [rd j (by omega)]; exact hit) (fun m hm hlt => by rw [rd m hm]; exact hno m hlt))
    ⟨hl, ?_, postW.toks _ x.muts den_int q⟩
  refine SeqAt.items_eqAt rs rx (doks_lay ts ht) (dok_lay u hu) ?_
  rw [cLine_eq]
  have := room x
  have h1 : C.A.in1.units = C.A.units + 1 := rfl
  omega

/-- a thing that is data, in a list of data -/
theorem cmp_in_data {t u : PT} {ts : List PT} (l : Lv H t ts) (ht : doks ts = true) (hu : dok u = true) (hd : (pd u).depth ≤ 100) (q : Q (.bool ((pds ts).any fun y => PyData.eqv y (pd u))) H) : Cmp C .In u t H Q := fun s v w b hv hw => by
  obtain ⟨as, r1⟩ := l.reads b.muts ht hw
  obtain ⟨bs, r2⟩ := Den.reads u v hu hv
  exact SeqAt.in_list_reads r1 r2 (doks_lay _ ht) (dok_lay u hu) (by rw [cLine_eq]; have := room b; omega) (postW.same b.muts den_bool q)

theorem flat_take {α : Type} (ls : List (List α)) (i : Nat) (l : List α) (h : ls[i]? = some l) : (ls.take (i + 1)).flatten = (ls.take i).flatten ++ l := by
  rw [List.take_add_one, h, List.flatten_append]; simp
/-- the loop of sum, on lists of numbers -/
theorem sum_loopL {prog : Program} {w : World} {A : Around} {R : Result → Shared → Prop} {I : Addr} {fp : List Addr} {P : Nat → Value → Prop} {S : Nat → Heap → Prop} {s₀ : Shared} {nss : List (List Int)}
    (W : Walks prog w A.in1 I (I :: fp) [I] nss.length P S) (hob : ∀ i h, S i h → ∃ o, h.get? I = some o ∧ ItO o) (hP : ∀ i v, P i v → ∃ ns a vs, nss[i]? = some ns ∧ v = .ref a ∧ s₀.heap.PlainList a vs ∧ IntsAre vs.toList ns) (hI : s₀.heap.objs.size ≤ I) (hsz : (nss.flatten).length ≤ 16777216)
    (T : Addr) (hTf : T ∉ I :: fp) (hT0 : s₀.heap.objs.size ≤ T) :
    ∀ (k i : Nat) (s : Shared) (tot : Addr) (c : Nat) (vs : Array Value), nss.length - i = k → i ≤ nss.length → S i s.heap → s.heap.get? T = some { cls := .type "list", dict := none, data := .seq #[.ref tot] c, slots := #[] } →
    (∃ h tk, s = { s₀ with heap := h, toks := tk }) → (∀ b o, s₀.heap.get? b = some o → s.heap.get? b = some o) → tot ≠ T → s.heap.PlainList tot vs → IntsAre vs.toList (nss.take i).flatten → (i = 0 ∨ s₀.heap.objs.size ≤ tot) →
    (∀ s' tot' vs', (∃ h tk, s' = { s₀ with heap := h, toks := tk }) → (∀ b o, s₀.heap.get? b = some o → s'.heap.get? b = some o) → s'.heap.PlainList tot' vs' → IntsAre vs'.toList nss.flatten → (nss = [] ∧ tot' = tot ∨ s₀.heap.objs.size ≤ tot') → R (.ok (.ret (.ref tot'))) s') →
    codeAny (model prog w) A (.builtin "sum.loop" ⟨[.ref I, .ref T, rawInt 2, rawInt 0], []⟩) R s := by
  intro k
  have old : ∀ (b : Addr) (o : Obj), s₀.heap.get? b = some o → b ∉ [I] ∧ b ≠ T := fun b o e => by
    refine ⟨fun q => ?_, fun q => ?_⟩
    · rw [List.mem_singleton] at q; subst q; exact absurd (Heap.lt_size e) (Nat.not_lt.mpr hI)
    · subst q; exact absurd (Heap.lt_size e) (Nat.not_lt.mpr hT0)
  have hTI : T ∉ [I] := fun q => hTf (by rw [List.mem_singleton] at q; subst q; exact .head _)
  have notI : ∀ (i : Nat) (h : Heap) (a : Addr) (vs : Array Value), S i h → h.PlainList a vs → a ∉ [I] := fun i h a vs hs hl q => by
    rw [List.mem_singleton] at q; subst q
    obtain ⟨o, ho, hit⟩ := hob i h hs
    obtain ⟨n, e⟩ := hl
    rw [e] at ho; cases ho
    exact hit.pl (.inl ⟨_, _, rfl⟩)
  induction k with
  | zero =>
    intro i s tot c vs hk hi hst hS hsm hkp hne hl hv hz hR
    have hin : i = nss.length := by omega
    subst hin
    refine codeAny_builtin F.entry_sum_loop ?_
    rw [Around.under_plainId F.plain_sum_loop _]
    show wpAny _ A.in1 (seqItems? (.ref T) >>= _) _ _ s
    refine wpAny_bind (wpAny_seqItems hS rfl ?_)
    show wpAny _ A.in1 (tryCatch (pyNext (.ref I)) _ >>= _) _ _ s
    refine wpAny_bind (wpAny_tryCatch (W.done s _ _ hst fun h' tk hk' => ?_))
    refine wpAny_pure (hR _ tot vs ?_ ?_ ?_ ?_ ?_)
    · obtain ⟨h1, t1, rfl⟩ := hsm; exact ⟨h', tk, rfl⟩
    · intro b o e; exact hk' b o (old b o e).1 (hkp b o e)
    · exact hl.at fun o e => hk' tot o (notI _ _ _ _ hst hl) e
    · rw [List.take_length] at hv; exact hv
    · rcases hz with hz | hz
      · exact .inl ⟨List.length_eq_zero_iff.mp hz, rfl⟩
      · exact .inr hz
  | succ k ih =>
    intro i s tot c vs hk hi hst hS hsm hkp hne hl hv hz hR
    have hlt : i < nss.length := by omega
    refine codeAny_builtin F.entry_sum_loop ?_
    rw [Around.under_plainId F.plain_sum_loop _]
    show wpAny _ A.in1 (seqItems? (.ref T) >>= _) _ _ s
    refine wpAny_bind (wpAny_seqItems hS rfl ?_)
    show wpAny _ A.in1 (tryCatch (pyNext (.ref I)) _ >>= _) _ _ s
    refine wpAny_bind (wpAny_tryCatch (W.item i s _ _ hlt hst fun v h' tk hPv hst' hk' => ?_))
    obtain ⟨ns, a, ws, hns, rfl, hla, hia⟩ := hP i v hPv
    have hS' := hk' T _ hTI hS
    have hl' : h'.PlainList tot vs := hl.at fun o e => hk' tot o (notI _ _ _ _ hst hl) e
    have hla' : h'.PlainList a ws := hla.at fun o e => hk' a o (old a o e).1 (hkp a o e)
    have hflat := flat_take nss i ns hns
    have hlen1 : vs.size = (nss.take i).flatten.length := by
      have := (dens_of_ints (h := h') (H := fun _ => Option.none) hv).length
      rw [List.length_map, Array.length_toList] at this; exact this
    have hlen2 : ws.size = ns.length := by
      have := (dens_of_ints (h := h') (H := fun _ => Option.none) hia).length
      rw [List.length_map, Array.length_toList] at this; exact this
    have hall : ((nss.take (i + 1)).flatten).length ≤ (nss.flatten).length := by
      conv => rhs; rw [← List.take_append_drop (i + 1) nss, List.flatten_append, List.length_append]
      exact Nat.le_add_right _ _
    rw [hflat, List.length_append] at hall
    obtain ⟨n1, e1⟩ := hl'
    obtain ⟨n2, e2⟩ := hla'
    show wpAny _ A.in1 ((holding [Value.ref a] (binaryOp .Add (.ref tot) (.ref a))).attempt >>= _) _ _ _
    refine wpAny_bind (wpAny_attempt (wpAny_holding (PySem.P.add_list e1 e2 ?_ (by rw [hlen1, hlen2, sizeLine_eq]; omega))))
    have hS₂ : (h'.push { cls := .type "list", data := .seq (vs ++ ws) }).get? T = some { cls := .type "list", dict := none, data := .seq #[.ref tot] c, slots := #[] } := Heap.get?_push_of_some _ hS'
    show wpAny _ A.in1 (updateSeq T (fun _ => #[.ref h'.objs.size]) >>= _) _ _ { s with heap := h'.push { cls := .type "list", data := .seq (vs ++ ws) }, toks := tk }
    refine wpAny_bind (wpAny_updateSeq hS₂ rfl ?_)
    have hS₃ := Heap.get?_update_self (Obj.mapSeq fun _ => #[Value.ref h'.objs.size]) hS₂ rfl
    refine wpAny_bind (wpAny_letGo ?_)
    refine wpAny_bind (wpAny_updateSeq hS₃ rfl (wpAny_pure ⟨plainId_quiet F.plain_sum_loop _, ?_⟩))
    have hTlt : T < h'.objs.size := Heap.lt_size hS'
    have kk : ∀ b o, b ≠ T → h'.get? b = some o → (((h'.push { cls := .type "list", data := .seq (vs ++ ws) }).update T (Obj.mapSeq fun _ => #[Value.ref h'.objs.size])).update T (Obj.mapSeq fun _ => #[Value.ref h'.objs.size])).get? b = some o := fun b o hb e =>
      (Heap.get?_update_other _ _ (Ne.symm hb)).trans ((Heap.get?_update_other _ _ (Ne.symm hb)).trans (Heap.get?_push_of_some _ e))
    have hnT : h'.objs.size ≠ T := Nat.ne_of_gt hTlt
    refine ih (i + 1) _ h'.objs.size _ (vs ++ ws) (by omega) hlt (W.frame _ _ _ hst' fun b hb o e => kk b o (fun q => hTf (q ▸ hb)) e) (Heap.get?_update_self _ hS₃ rfl) ?_ (fun b o e => kk b o (old b o e).2 (hk' b o (old b o e).1 (hkp b o e))) hnT ?_ ?_ (.inr ?_) ?_
    · obtain ⟨h1, t1, rfl⟩ := hsm; exact ⟨_, tk, rfl⟩
    · refine ⟨0, ?_⟩
      exact (Heap.get?_update_other _ _ (Ne.symm hnT)).trans ((Heap.get?_update_other _ _ (Ne.symm hnT)).trans (Heap.get?_push_size _ rfl))
    · rw [hflat, Array.toList_append]
      have := (dens_of_ints (h := h') (H := fun _ => Option.none) hv).append (dens_of_ints (h := h') (H := fun _ => Option.none) hia)
      rw [← List.map_append] at this
      exact intsAre_of _ _ this
    · exact Nat.le_trans hT0 (Nat.le_of_lt hTlt)
    · intro s' tot' vs' p1 p2 p3 p4 p5
      refine hR s' tot' vs' p1 p2 p3 p4 (.inr ?_)
      rcases p5 with ⟨p, _⟩ | p
      · subst p; simp at hlt
      · exact p

theorem sub_list_str' : isSubtype (.type "list") (.type "str") = pure false := by rw [isSubtype_type]; kernel_rfl
theorem sub_list_bytes' : isSubtype (.type "list") (.type "bytes") = pure false := by rw [isSubtype_type]; kernel_rfl
theorem sub_list_bytearray' : isSubtype (.type "list") (.type "bytearray") = pure false := by rw [isSubtype_type]; kernel_rfl
theorem args_sum_2 (a b : Value) : argsOk "sum" ⟨[a, b], []⟩ := by unfold argsOk; kernel_rfl
/-- sum(lists of numbers, []) -/
theorem sum_lists {t : PT} {nss : List (List Int)} (l : Lv H t (nss.map fun ns => .lst (ns.map PT.int))) (hsz : (nss.flatten).length ≤ 16777216) (q : Q (.lst (nss.flatten.map PT.int)) H) (hd : 1 ≤ C.d) : Blt C "sum" [t, .lst []] H Q := fun s vs x hv => by
  obtain ⟨v, w, rfl, hv1, hw⟩ := of_two hv
  obtain ⟨b, ws, rfl, hHb, hlb, hdb⟩ := of_lst hw
  have it := itr_lv (C := inC C) l s v (x.inC hd) hv1
  refine call_function_tree F.kind_sum F.plain_sum F.entry_sum (args_sum_2 _ _) ?_
  unfold Builtin.«sum»
  simp only [List.length_cons, List.length_nil]
  rw [if_neg (by decide)]
  refine wpAny_bind (wpAny_of_eq (show Builtin.Builtins.bindParams "sum" ["start"] 0 ⟨[.ref b], []⟩ = pure [some (.ref b)] from rfl) ?_)
  refine wpAny_bind (wpAny_mono it (fun it s₂ h₂ => ?_) fun _ _ e => e.elim)
  obtain ⟨I, fp, Pr, S, rfl, W, hS, hk, hI, hob, hfp, hit⟩ := h₂
  rw [List.length_map] at W
  refine wpAny_bind (wpAny_pure ?_)
  have hlb₂ : s₂.heap.PlainList b ws := hlb.at fun o e => Keeps.get hk e
  have tb : s₂.TypeIs (.ref b) "list" := hlb₂.isList.typeIs
  simp only [List.forIn_cons, List.forIn_nil]
  refine wpAny_bind (wpAny_bind (wpAny_bind (wpAny_isInstance (T := "list") (b := false) tb sub_list_str' ?_)))
  simp only [Bool.false_eq_true, if_false]
  refine wpAny_pure (wpAny_bind (wpAny_bind (wpAny_isInstance (T := "list") (b := false) tb sub_list_bytes' ?_)))
  simp only [Bool.false_eq_true, if_false]
  refine wpAny_pure (wpAny_bind (wpAny_bind (wpAny_isInstance (T := "list") (b := false) tb sub_list_bytearray' ?_)))
  simp only [Bool.false_eq_true, if_false]
  refine wpAny_pure (wpAny_pure ?_)
  refine wpAny_bind (wpAny_newObj_type ?_)
  have hIlt : I < s₂.heap.objs.size := by obtain ⟨o, ho, _⟩ := hob 0 _ hS; exact Heap.lt_size ho
  have hTf : s₂.heap.objs.size ∉ I :: fp := fun hm => by
    rcases List.mem_cons.mp hm with q | q
    · rw [← q] at hIlt; exact Nat.lt_irrefl _ hIlt
    · obtain ⟨⟨o, _, e⟩, _⟩ := hfp _ q; exact Nat.lt_irrefl _ (Heap.lt_size (Keeps.get hk e))
  obtain ⟨h2, t2, hs2, k2⟩ := id hk
  have hsz0 : s.heap.objs.size ≤ s₂.heap.objs.size := Nat.le_trans hI (Nat.le_of_lt hIlt)
  have ws0 : ws.toList = [] := of_nil hdb
  refine wpAny_pure ⟨plainId_quiet F.plain_sum_loop _, sum_loopL (s₀ := s) (nss := nss) W hob (fun i v hPv => ?_) hI hsz s₂.heap.objs.size hTf hsz0 nss.length 0 _ b 0 ws rfl (Nat.zero_le _)
    (W.frame _ _ _ hS fun b _ o e => Heap.get?_push_of_some _ e) (Heap.get?_push_size _ rfl) ?_ (fun b' o e => Heap.get?_push_of_some _ (Keeps.get hk e)) ?_ (hlb₂.at fun o e => Heap.get?_push_of_some _ e) ?_ (.inl rfl) ?_⟩
  · obtain ⟨t, ht, dt⟩ := hit i v hPv
    rw [List.getElem?_map] at ht
    cases z : nss[i]? with
    | none => rw [z] at ht; cases ht
    | some ns =>
      rw [z] at ht; cases ht
      obtain ⟨a, vs, rfl, _, hla, hda⟩ := of_lst dt
      exact ⟨ns, a, vs, rfl, rfl, hla, intsAre_of _ _ hda⟩
  · subst hs2; exact ⟨_, _, rfl⟩
  · intro q
    obtain ⟨_, e⟩ := hlb₂
    rw [q] at e
    exact Nat.lt_irrefl _ (Heap.lt_size e)
  · rw [ws0]; exact .nil
  · intro s' tot' vs' p1 p2 p3 p4 p5
    obtain ⟨h', tk', rfl⟩ := p1
    refine postW.kept (tk := tk') p2 x.muts ?_ q
    simp only [Den]
    refine ⟨tot', vs', rfl, ?_, p3, dens_of_ints p4⟩
    rcases p5 with ⟨_, rfl⟩ | p5
    · exact hHb
    · cases z : H tot' with
      | none => rfl
      | some us =>
        obtain ⟨_, ⟨_, e⟩, _⟩ := x.muts tot' us z
        exact absurd (Heap.lt_size e) (Nat.not_lt.mpr p5)
end
local macro_rules | `(tactic| walk_at "look") => `(tactic| first
  | exact upd_same
  | (refine upd_ne (name_ne (by decide)) ?_; walk_at "look")
  | assumption
  | (refine σc_look (by rfl) ?_; walk_at "look")
  | fail "look")
local macro_rules | `(tactic| walk_at "call") => `(tactic| first
  | ((with_reducible show Ev _ (Expr.Call (Expr.Name (PySem.Str.ofString "len") _) _ _ _) _ _ _); refine ev_blt (Bl.len (by assumption)) PyProof.Rows.Boot.len ?_)
  | ((with_reducible show Ev _ (Expr.Call (Expr.Name (PySem.Str.ofString "chr") _) _ _ _) _ _ _); refine ev_blt (Bl.chr (by assumption)) PyProof.Rows.Boot.chr ?_)
  | ((with_reducible show Ev _ (Expr.Call (Expr.Name (PySem.Str.ofString "min") _) _ _ _) _ _ _); refine ev_blt (Bl.min (by assumption)) PyProof.Rows.Boot.min ?_)
  | ((with_reducible show Ev _ (Expr.Call (Expr.Name (PySem.Str.ofString "max") _) _ _ _) _ _ _); refine ev_blt (Bl.max (by assumption)) PyProof.Rows.Boot.max ?_)
  | ((with_reducible show Ev _ (Expr.Call (Expr.Name (PySem.Str.ofString "sum") _) _ _ _) _ _ _); refine ev_blt (Bl.sum (by assumption)) PyProof.Rows.Boot.sum ?_)
  | ((with_reducible show Ev _ (Expr.Call (Expr.Name (PySem.Str.ofString "abs") _) _ _ _) _ _ _); refine ev_blt (Bl.abs (by assumption)) PyProof.Rows.Boot.abs ?_)
  | ((with_reducible show Ev _ (Expr.Call (Expr.Name (PySem.Str.ofString "range") _) _ _ _) _ _ _); refine ev_typ (Bl.range (by assumption)) PyProof.Rows.Boot.range ?_)
  | ((with_reducible show Blt _ "chr" [PT.int _] _ _); refine chr_int (by omega) (by omega) ?_)
  | ((with_reducible show Blt _ "len" [PT.str (tx _)] _ _); refine len_txt ?_ (by walk_at "len"))
  | ((with_reducible show Blt _ "min" [PT.int _, PT.int _] _ _); refine min_ints ?_)
  | ((with_reducible show Blt _ "max" [PT.int _, PT.int _] _ _); refine max_ints ?_)
  | ((with_reducible show Typ _ "range" [PT.int _] _ _); refine range1 ?_)
  | ((with_reducible show Typ _ "range" [PT.int _, PT.int _] _ _); refine range2 ?_)
  | ((with_reducible show Typ _ "range" [PT.int _, PT.int _, PT.int _] _ _); refine range3 (by omega) (by omega) ?_)
  | fail "call")
local macro_rules | `(tactic| walk_at "op") => `(tactic| first
  | ((with_reducible show Bin _ Operator.Add (PT.int _) (PT.int _) _ _); refine bin_add ?_)
  | ((with_reducible show Bin _ Operator.Sub (PT.int _) (PT.int _) _ _); refine bin_sub ?_)
  | ((with_reducible show Bin _ Operator.Mod (PT.int _) (PT.int _) _ _); refine bin_mod ?_)
  | ((with_reducible show Bin _ Operator.FloorDiv (PT.int _) (PT.int _) _ _); refine bin_div ?_)
  | ((with_reducible show Bin _ Operator.Mult (PT.int _) (PT.int _) _ _); refine bin_mul ?_ (by first | exact .inl (by decide) | exact .inr (by decide) | omega))
  | ((with_reducible show Bin _ Operator.Mult (PT.str (tx _)) (PT.int _) _ _); refine bin_muls ?_ (by omega) (by omega) (by walk_at "len"))
  | ((with_reducible show Bin _ Operator.Add (PT.str (tx _)) (PT.str (tx _)) _ _); refine bin_addt ?_ (by walk_at "len"))
  | ((with_reducible show Inp _ Operator.Add (PT.str (tx _)) (PT.str (tx _)) _ _); refine inp_addt ?_ (by walk_at "len"))
  | ((with_reducible show Sub _ (PT.tup [PT.int _, PT.int _]) (PT.int _) _ _); refine sub_two (by omega) ?_)
  | ((with_reducible show Sub _ (PT.lst [PT.int _, PT.int _]) (PT.int _) _ _); refine sub_at lv_lst (by simp) (by simp) (by simp) rfl ?_)
  | ((with_reducible show Cmp _ CmpOp.Eq (PT.str (tx _)) (PT.str (tx _)) _ _); refine cmp_eqt ?_)
  | ((with_reducible show Cmp _ CmpOp.NotEq (PT.str (tx _)) (PT.str (tx _)) _ _); refine cmp_net ?_)
  | ((with_reducible show Cmp _ CmpOp.Eq (PT.int _) (PT.int _) _ _); refine cmp_eq ?_)
  | ((with_reducible show Cmp _ CmpOp.NotEq (PT.int _) (PT.int _) _ _); refine cmp_ne ?_)
  | ((with_reducible show Cmp _ CmpOp.Lt (PT.int _) (PT.int _) _ _); refine cmp_lt ?_)
  | ((with_reducible show Cmp _ CmpOp.LtE (PT.int _) (PT.int _) _ _); refine cmp_le ?_)
  | ((with_reducible show Cmp _ CmpOp.Gt (PT.int _) (PT.int _) _ _); refine cmp_gt ?_)
  | ((with_reducible show Cmp _ CmpOp.GtE (PT.int _) (PT.int _) _ _); refine cmp_ge ?_)
  | ((with_reducible show Cmp _ CmpOp.Eq (PT.str _) (PT.str _) _ _); refine cmp_eqs ?_)
  | ((with_reducible show Cmp _ CmpOp.NotEq (PT.str _) (PT.str _) _ _); refine cmp_nes ?_)
  | ((with_reducible show Tru _ (PT.bool _) _ _); refine tru_bool ?_)
  | ((with_reducible show Tru _ (PT.int _) _ _); refine tru_int ?_)
  | ((with_reducible show Inp _ Operator.Add (PT.int _) (PT.int _) _ _); refine inp_add ?_)
  | ((with_reducible show Inp _ Operator.Sub (PT.int _) (PT.int _) _ _); refine inp_sub ?_)
  | fail "op")
local macro_rules | `(tactic| walk_at "len") => `(tactic| first | (simp only [List.length_append, reps_length, List.length_cons, List.length_nil] <;> omega) | omega)
local macro_rules | `(tactic| walk_at "if") => `(tactic| first
  | ((with_reducible show if ((_ : Int) == _) = true then _ else _); refine ite_beq (fun _ => ?_) (fun h' => absurd (by omega) h'))
  | ((with_reducible show if ((_ : Int) == _) = true then _ else _); refine ite_beq (fun h' => absurd h' (by omega)) (fun _ => ?_))
  | ((with_reducible show if ((_ : Int) != _) = true then _ else _); refine ite_bne (fun h' => absurd (by omega) h') (fun _ => ?_))
  | ((with_reducible show if ((_ : Int) != _) = true then _ else _); refine ite_bne (fun _ => ?_) (fun h' => absurd h' (by omega)))
  | ((with_reducible show if decide _ = true then _ else _); refine ite_dec (fun _ => ?_) (fun h' => absurd (by omega) h'))
  | ((with_reducible show if decide _ = true then _ else _); refine ite_dec (fun h' => absurd h' (by omega)) (fun _ => ?_))
  | fail "if")
local macro_rules | `(tactic| walk_at "st") => `(tactic| first
  | ((with_reducible show Exs _ (List.cons _ _) _ _ _); refine exs_cons ?_)
  | ((with_reducible show Exs _ [] _ _ _); refine exs_nil ?_)
  | ((with_reducible show Then _ _ _ Fl.next _ _); refine then_next ?_)
  | ((with_reducible show Then _ _ _ (Fl.ret _) _ _); refine then_ret ?_)
  | ((with_reducible show Ex _ (Stmt.Return (some _) _) _ _ _); refine ex_return ?_)
  | ((with_reducible show Ex _ (Stmt.If _ _ _ _) _ _ _); refine ex_if ?_)
  | ((with_reducible show Ex _ (Stmt.Assign [Expr.Name _ _] _ _) _ _ _); refine ex_set ?_)
  | ((with_reducible show Ex _ (Stmt.Assign [Expr.Tuple [Expr.Name _ _, Expr.Name _ _] _ _] (Expr.Tuple [_, _] _ _) _) _ _ _); refine ex_swap2 ?_)
  | ((with_reducible show Ex _ (Stmt.Assign [Expr.Tuple [Expr.Name _ _, Expr.Name _ _, Expr.Name _ _] _ _] (Expr.Tuple [_, _, _] _ _) _) _ _ _); refine ex_swap3 ?_)
  | ((with_reducible show Ex _ (Stmt.Assign [Expr.Tuple _ _ _] _ _) _ _ _); refine ex_assign ?_)
  | ((with_reducible show Asg _ (Expr.Name _ _) _ _ _ _); refine asg_name ?_)
  | ((with_reducible show Asg _ (Expr.Tuple _ _ _) (PT.tup _) _ _ _); refine asg_tuple ?_)
  | ((with_reducible show Asgs _ (List.cons (Expr.Name _ _) _) (List.cons _ _) _ _ _); refine asgs_name ?_)
  | ((with_reducible show Asgs _ [] [] _ _ _); refine asgs_nil ?_)
  | ((with_reducible show (List.length _ ≤ 16777216 ∧ _)); refine ⟨by simp, ?_⟩)
  | ((with_reducible show Ex _ (Stmt.AugAssign (Expr.Name _ _) _ _ _) _ _ _); refine ex_aug (by walk_at "look") ?_)
  | ((with_reducible show Ts _ (Expr.Compare _ [_] [_] _) _ _ _); refine ts_compare ?_)
  | ((with_reducible show Ts _ (Expr.Compare _ [_, _] [_, _] _) _ _ _); refine ts_chain ?_)
  | ((with_reducible show Ts _ (Expr.UnaryOp UnaryOp.Not _ _) _ _ _); refine ts_not ?_)
  | ((with_reducible show Ts _ (Expr.BoolOp BoolOp.And (List.cons _ _) _) _ _ _); refine ts_and ?_)
  | ((with_reducible show Ts _ (Expr.BoolOp BoolOp.Or (List.cons _ _) _) _ _ _); refine ts_or ?_)
  | ((with_reducible show Ts _ (Expr.BoolOp BoolOp.And [] _) _ _ _); refine ts_and_nil ?_)
  | ((with_reducible show Ts _ (Expr.BoolOp BoolOp.Or [] _) _ _ _); refine ts_or_nil ?_)
  | ((with_reducible show Ts _ _ _ _ _); refine ts_val ?_)
  | ((with_reducible show Ev _ (Expr.Name _ _) _ _ _); refine ev_name (by walk_at "look") ?_)
  | ((with_reducible show Ev _ (Expr.Constant (Const.int _) _ _) _ _ _); refine ev_int ?_)
  | ((with_reducible show Ev _ (Expr.Constant (Const.str (PySem.Str.ofString "")) _ _) _ _ _); refine ev_lit (l := []) rfl ?_)
  | ((with_reducible show Ev _ (Expr.Constant (Const.bool _) _ _) _ _ _); refine ev_bool ?_)
  | ((with_reducible show Ev _ (Expr.Constant Const.none _ _) _ _ _); refine ev_none ?_)
  | ((with_reducible show Ev _ (Expr.BinOp _ _ _ _) _ _ _); refine ev_binop ?_)
  | ((with_reducible show Ev _ (Expr.Compare _ [_] [_] _) _ _ _); refine ev_compare ?_)
  | ((with_reducible show Ev _ (Expr.IfExp _ _ _ _) _ _ _); refine ev_if ?_)
  | ((with_reducible show Ev _ (Expr.Subscript _ (Expr.Slice _ _ none _) _) _ _ _); fail)
  | ((with_reducible show Ev _ (Expr.Subscript _ _ _) _ _ _); refine ev_sub ?_)
  | ((with_reducible show Ev _ (Expr.Tuple _ _ _) _ _ _); refine ev_tuple ?_)
  | ((with_reducible show Evs _ [] _ _ _); refine evs_nil ?_)
  | ((with_reducible show Evs _ (List.cons _ _) _ _ _); refine evs_cons ?_)
  | ((with_reducible show Evo _ none _ _ _); refine evo_none ?_)
  | ((with_reducible show Evo _ (some _) _ _ _); refine evo_some ?_)
  | ((with_reducible show if true = true then _ else _); refine ite_true' ?_)
  | ((with_reducible show if false = true then _ else _); refine ite_false' ?_)
  | ((with_reducible show if (!_) = true then _ else _); refine ite_not ?_)
  | walk_at "op"
  | walk_at "call"
  | walk_at "if"
  | fail "st")
local macro_rules | `(tactic| walk_at "go") => `(tactic| repeat' walk_at "st")

local macro_rules | `(tactic| walk_at "as1") => `(tactic| first
  | ((with_reducible show Exs _ (List.cons _ _) _ _ _); refine exs_cons ?_)
  | ((with_reducible show Then _ _ _ Fl.next _ _); refine then_next ?_)
  | ((with_reducible show Ex _ (Stmt.Assign [Expr.Name _ _] _ _) _ _ _); refine ex_set ?_)
  | ((with_reducible show Asg _ (Expr.Name _ _) _ _ _ _); refine asg_name ?_)
  | ((with_reducible show Asg _ (Expr.Tuple _ _ _) (PT.tup _) _ _ _); refine asg_tuple ?_)
  | ((with_reducible show Asgs _ (List.cons (Expr.Name _ _) _) (List.cons _ _) _ _ _); refine asgs_name ?_)
  | ((with_reducible show Asgs _ [] [] _ _ _); refine asgs_nil ?_)
  | fail "as")
local macro_rules | `(tactic| walk_at "as") => `(tactic| repeat' walk_at "as1")

local macro_rules | `(tactic| walk_at "cs1") => `(tactic| first
  | ((with_reducible show Evs _ (List.cons (Expr.Constant _ _ _) _) _ _ _); refine evs_const ?_)
  | ((with_reducible show Evs _ (List.cons (Expr.Tuple _ _ _) _) _ _ _); refine evs_tuple ?_)
  | ((with_reducible show Evs _ (List.cons (Expr.List _ _) _) _ _ _); refine evs_list ?_)
  | ((with_reducible show Evs _ [] _ _ _); refine evs_nil ?_)
  | ((with_reducible show (List.length _ ≤ 16777216 ∧ _)); refine ⟨by simp, ?_⟩)
  | ((with_reducible show Ev _ (Expr.Tuple _ _ _) _ _ _); refine ev_tuple ?_)
  | ((with_reducible show Ev _ (Expr.Constant (Const.int _) _ _) _ _ _); refine ev_int ?_)
  | fail "cs")
local macro_rules | `(tactic| walk_at "cs") => `(tactic| repeat' walk_at "cs1")

def subc (x y : Str) : Int := if x = y then 0 else if Txt.lower x = Txt.lower y then 1 else 2
structure Pg (G : Gx) (fs : Addr) : Prop where
  b : Bl G
  s : FnIs G PySem.Challenge.pw_dn0226_03 "_substitution_cost" 3 fs
  mv : ∃ tk, G.mg "_MOVE_COST" = some (.int 2 tk)
  cs : ∃ tk, G.mg "_CASE_COST" = some (.int 1 tk)
set_option maxHeartbeats 1000000 in
theorem sub_ok {G : Gx} {fs : Addr} (P : Pg G fs) (x y : Str) (hx : x.length ≤ 1000000) (hy : y.length ≤ 1000000) (H : AH) : Fn G 1 fs [.str x, .str y] H fun u => u = .int (subc x y) := by
  refine P.s.spec (xs := ["ch_a", "ch_b"]) ?_ (by decide) rfl ?_
  · intro pm cd doc vs hv
    match vs, hv with
    | [a, b], _ => rfl
  intro A L cd
  dsimp only [upds]
  obtain ⟨t1, e1⟩ := P.cs
  obtain ⟨t2, e2⟩ := P.mv
  refine exs_cons ?_
  walk_at "go"
  refine ite_beq (fun h => ?_) fun h => ?_
  · walk_at "go"
    exact ⟨_, _, rfl, .nm rfl, by simp [subc, h]⟩
  walk_at "go"
  refine ev_method ?_
  walk_at "go"
  refine ⟨_, mth_lower, evs_nil (lower_str (by omega) ?_)⟩
  refine ev_method ?_
  walk_at "go"
  refine ⟨_, mth_lower, evs_nil (lower_str (by omega) ?_)⟩
  walk_at "go"
  refine ite_beq (fun h' => ?_) fun h' => ?_
  · walk_at "go"
    refine ev_gname rfl e1 (fun _ => den_int) ?_
    exact ⟨_, _, rfl, .nm rfl, by simp [subc, h, h']⟩
  walk_at "go"
  refine ev_gname rfl e2 (fun _ => den_int) ?_
  exact ⟨_, _, rfl, .nm rfl, by simp [subc, h, h']⟩

def nat (n : Nat) : PT := .int (n : Int)
theorem nat_ints (l : List Nat) : l.map nat = (l.map fun (n : Nat) => (n : Int)).map PT.int := by rw [List.map_map]; rfl
theorem nm_nats (l : List Nat) : NMs (l.map nat) = true := by rw [nat_ints]; exact nm_ints _

theorem cast_inj : ∀ {a b : List Nat}, (a.map fun (n : Nat) => (n : Int)) = (b.map fun (n : Nat) => (n : Int)) → a = b
  | [], [], _ => rfl
  | [], _ :: _, h => by simp at h
  | _ :: _, [], h => by simp at h
  | x :: a, y :: b, h => by
    simp only [List.map_cons, List.cons.injEq] at h
    rw [cast_inj h.2]
    congr 1
    omega
theorem cast_beq (a b : List Nat) : ((a.map fun (n : Nat) => (n : Int)) == (b.map fun (n : Nat) => (n : Int))) = (a == b) := by
  rw [Bool.eq_iff_iff, beq_iff_eq, beq_iff_eq]
  exact ⟨cast_inj, fun h => by rw [h]⟩
theorem cmp_eq_nats {C : Cx} {H : AH} {Q : PT → AH → Prop} {t u : PT} {xs ys : List Nat} (lt : Lv H t (xs.map nat)) (lu : Lv H u (ys.map nat)) (q : Q (.bool (xs == ys)) H) : Cmp C .Eq t u H Q := by
  rw [nat_ints] at lt lu
  exact cmp_eq_ints lt lu (by rw [cast_beq]; exact q)

def lt3 : List (Nat × List Nat × Nat) := [(97, [0], 1), (65, [0], 0), (107, [1], 3), (75, [1], 4), (8490, [1], 2), (969, [2], 6), (937, [2], 7), (8486, [2], 5), (105, [3], 9), (73, [3], 8), (304, [3, 4], 10), (775, [4], 11), (305, [5], 12), (223, [6], 14), (7838, [6], 13), (115, [7], 16), (83, [7], 15), (383, [8], 17), (95, [9], 18)]
def cd3 (i : Nat) : Nat := (lt3.getD i (0, [], 0)).1
def sm3 (i : Nat) : List Nat := (lt3.getD i (0, [], 0)).2.1
def nx3 (i : Nat) : Nat := (lt3.getD i (0, [], 0)).2.2
def so3 (s : Nat) : Nat := [97, 107, 969, 105, 775, 305, 223, 115, 383, 95].getD s 0
theorem lt3_low : ∀ i < 19, Unicode.lowerOf (cd3 i) = (sm3 i).map so3 ∧ cd3 i ≠ 931 ∧ cd3 i < 1114112 ∧ nx3 i < 19 ∧ (sm3 i).length ≤ 2 := by decide +kernel
theorem lt3_sm : ∀ i < 19, ∀ s ∈ sm3 i, s < 10 := by decide +kernel
theorem so3_inj : ∀ s < 10, ∀ t < 10, so3 s = so3 t → s = t := by decide +kernel
theorem map_inj {f : Nat → Nat} {n : Nat} (hf : ∀ s < n, ∀ t < n, f s = f t → s = t) : ∀ {a b : List Nat}, (∀ s ∈ a, s < n) → (∀ s ∈ b, s < n) → a.map f = b.map f → a = b
  | [], [], _, _, _ => rfl
  | [], _ :: _, _, _, h => by simp at h
  | _ :: _, [], _, _, h => by simp at h
  | x :: a, y :: b, ha, hb, h => by
    simp only [List.map_cons, List.cons.injEq] at h
    have e1 := hf x (ha x (.head _)) y (hb y (.head _)) h.1
    have e2 := map_inj hf (a := a) (b := b) (fun s hs => ha s (.tail _ hs)) (fun s hs => hb s (.tail _ hs)) h.2
    rw [e1, e2]
theorem lower_nosig {l : List Nat} (h : ∀ c ∈ l, c ≠ 931) : Txt.lower (tx l) = tx (l.flatMap Unicode.lowerOf) := by
  have key : ∀ x : Str, x.cps.toList = l.flatMap Unicode.lowerOf → x = tx (l.flatMap Unicode.lowerOf) := fun x h => by rw [← h, tx_of]
  refine key _ ?_
  unfold Txt.lower
  show (placed (tx l) fun i _ => Unicode.lowerAt (tx l).cps i).toList = _
  have e : ((tx l).cps.mapIdx fun i _ => (Unicode.lowerAt (tx l).cps i).toArray) = (tx l).cps.map fun c => (Unicode.lowerOf c).toArray := by
    refine Array.ext (by simp) fun i h1 h2 => ?_
    rw [Array.getElem_mapIdx, Array.getElem_map]
    have hi : i < (tx l).cps.size := by simpa using h2
    unfold Unicode.lowerAt
    rw [Array.getElem?_eq_getElem hi]
    have hne : (((tx l).cps[i] == 0x3A3) = false) := by
      rw [beq_eq_false_iff_ne]
      refine h _ ?_
      have : (tx l).cps[i] ∈ (tx l).cps.toList := by simp
      rwa [tx_cps] at this
    simp only [hne, Bool.false_and, Bool.false_eq_true, if_false]
  unfold placed
  rw [e, Array.toList_flatten, Array.toList_map, List.map_map]
  simp only [List.flatMap, tx_cps]
  rfl
abbrev P3 := List Nat × List Nat
structure G3 (p : P3) : Prop where
  low : Txt.lower (tx p.1) = tx (p.2.map so3)
  sm : ∀ s ∈ p.2, s < 10
  cd : ∀ c ∈ p.1, c < 1114112
  l1 : p.1.length ≤ 100
  l2 : p.2.length ≤ 100
def wd3 (nm : List Nat) : P3 := (nm.map cd3, nm.flatMap sm3)
theorem wd3_ok {nm : List Nat} (h : ∀ i ∈ nm, i < 19) (hl : nm.length ≤ 10) : G3 (wd3 nm) := by
  refine ⟨?_, ?_, ?_, by simp [wd3]; omega, ?_⟩
  · show Txt.lower (tx (nm.map cd3)) = tx ((nm.flatMap sm3).map so3)
    rw [lower_nosig (fun c hc => by
      rw [List.mem_map] at hc; obtain ⟨i, hi, rfl⟩ := hc; exact (lt3_low i (h i hi)).2.1)]
    congr 1
    rw [List.flatMap_map, List.map_flatMap]
    clear hl
    induction nm with
    | nil => rfl
    | cons i nm ih =>
      rw [List.flatMap_cons, List.flatMap_cons, ih fun j hj => h j (.tail _ hj), (lt3_low i (h i (.head _))).1]
  · intro s hs
    have hs : s ∈ nm.flatMap sm3 := hs
    rw [List.mem_flatMap] at hs
    obtain ⟨i, hi, hs⟩ := hs
    exact lt3_sm i (h i hi) s hs
  · intro c hc
    have hc : c ∈ nm.map cd3 := hc
    rw [List.mem_map] at hc; obtain ⟨i, hi, rfl⟩ := hc; exact (lt3_low i (h i hi)).2.2.1
  · show (nm.flatMap sm3).length ≤ 100
    have : (nm.flatMap sm3).length ≤ 2 * nm.length := by
      clear hl
      induction nm with
      | nil => simp
      | cons i nm ih =>
        have h1 := ih fun j hj => h j (.tail _ hj)
        have h2 := (lt3_low i (h i (.head _))).2.2.2.2
        rw [List.flatMap_cons, List.length_append, List.length_cons]; omega
    omega
def cost3 (p q : P3) : Int := if p.1 = q.1 then 0 else if p.2 = q.2 then 1 else 2
theorem G3.same {p q : P3} (hp : G3 p) (hq : G3 q) (h : p.1 = q.1) : p.2 = q.2 := by
  have := hp.low
  rw [h, hq.low, tx_inj] at this
  exact (map_inj so3_inj hq.sm hp.sm this).symm
theorem G3.sub {p q : P3} (hp : G3 p) (hq : G3 q) : subc (tx p.1) (tx q.1) = cost3 p q := by
  unfold subc cost3
  rw [hp.low, hq.low]
  have e1 : (tx p.1 = tx q.1) ↔ p.1 = q.1 := tx_inj
  have e2 : (tx (p.2.map so3) = tx (q.2.map so3)) ↔ p.2 = q.2 := by
    rw [tx_inj]
    exact ⟨map_inj so3_inj hp.sm hq.sm, fun h => by rw [h]⟩
  simp only [e1, e2]
theorem cost3_comm (p q : P3) : cost3 p q = cost3 q p := by
  unfold cost3
  by_cases h1 : p.1 = q.1
  · have h1' : q.1 = p.1 := h1.symm
    rw [if_pos h1, if_pos h1']
  · have h1' : ¬ q.1 = p.1 := fun e => h1 e.symm
    rw [if_neg h1, if_neg h1']
    by_cases h2 : p.2 = q.2
    · have h2' : q.2 = p.2 := h2.symm
      rw [if_pos h2, if_pos h2']
    · have h2' : ¬ q.2 = p.2 := fun e => h2 e.symm
      rw [if_neg h2, if_neg h2']
abbrev S3 := List P3 × List (List Int)
def stp (st : S3) (p : P3) : S3 := (if p.2 ∈ st.1.map (·.2) then st.1 else st.1 ++ [p], st.2 ++ [st.1.map (cost3 p), st.1.map (cost3 p)])
def stAt (ps : List P3) (k : Nat) : S3 := (ps.take k).foldl stp ([], [])
theorem stAt_succ {ps : List P3} {k : Nat} {p : P3} (h : ps[k]? = some p) : stAt ps (k + 1) = stp (stAt ps k) p := by
  unfold stAt
  rw [List.take_add_one, h, List.foldl_append]; rfl
theorem stAt_ok {ps : List P3} (hg : ∀ p ∈ ps, G3 p) : ∀ k, (∀ p ∈ (stAt ps k).1, G3 p) ∧ ((stAt ps k).1.map (·.2)).Nodup ∧ (stAt ps k).1.length ≤ k ∧ (stAt ps k).2.length ≤ 2 * k ∧ ∀ c ∈ (stAt ps k).2, c.length ≤ k
  | 0 => by simp [stAt]
  | k + 1 => by
    obtain ⟨h1, h2, h3, h4, h5⟩ := stAt_ok hg k
    cases q : ps[k]? with
    | none =>
      have e : stAt ps (k + 1) = stAt ps k := by
        unfold stAt
        rw [List.take_add_one, q]; simp
      rw [e]
      exact ⟨h1, h2, by omega, by omega, fun c hc => by have := h5 c hc; omega⟩
    | some p =>
      rw [stAt_succ q]
      have hp := hg p (List.mem_of_getElem? q)
      generalize stAt ps k = st at *
      unfold stp
      refine ⟨?_, ?_, ?_, by simp; omega, ?_⟩
      · dsimp only
        split
        · exact h1
        · intro r hr
          rcases List.mem_append.mp hr with hr | hr
          · exact h1 r hr
          · rw [List.mem_singleton] at hr; subst hr; exact hp
      · dsimp only
        split
        · exact h2
        · rename_i hn
          rw [List.map_append, List.nodup_append]
          refine ⟨h2, by simp, ?_⟩
          intro a ha b hb e
          simp only [List.map_cons, List.map_nil, List.mem_singleton] at hb
          subst hb; subst e; exact hn ha
      · dsimp only
        split
        · omega
        · simp; omega
      · intro c hc
        dsimp only at hc
        rcases List.mem_append.mp hc with hc | hc
        · have := h5 c hc; omega
        · simp only [List.mem_cons, List.not_mem_nil, or_false, or_self] at hc
          rw [hc, List.length_map]; omega
theorem cost3_mem {rs : List P3} {p : P3} (hrs : ∀ q ∈ rs, G3 q) (hp : G3 p) : (0 ∉ rs.map (cost3 p) ∧ 1 ∉ rs.map (cost3 p)) ↔ p.2 ∉ rs.map (·.2) := by
  constructor
  · rintro ⟨h0, h1⟩ hm
    rw [List.mem_map] at hm
    obtain ⟨q, hq, e⟩ := hm
    have c : cost3 p q = 0 ∨ cost3 p q = 1 := by
      unfold cost3
      split
      · exact .inl rfl
      · rw [if_pos e.symm]; exact .inr rfl
    rcases c with c | c
    · exact h0 (List.mem_map.mpr ⟨q, hq, c⟩)
    · exact h1 (List.mem_map.mpr ⟨q, hq, c⟩)
  · intro h
    refine ⟨fun hm => ?_, fun hm => ?_⟩
    · rw [List.mem_map] at hm
      obtain ⟨q, hq, e⟩ := hm
      refine h (List.mem_map.mpr ⟨q, hq, ?_⟩)
      unfold cost3 at e
      split at e
      · rename_i e'; exact (hp.same (hrs q hq) e').symm
      · split at e
        · rename_i e'; exact e'.symm
        · omega
    · rw [List.mem_map] at hm
      obtain ⟨q, hq, e⟩ := hm
      refine h (List.mem_map.mpr ⟨q, hq, ?_⟩)
      unfold cost3 at e
      split at e
      · omega
      · split at e
        · rename_i e'; exact e'.symm
        · omega
theorem cost3_far {rs : List P3} {p : P3} (hrs : ∀ q ∈ rs, G3 q) (hp : G3 p) (h : p.2 ∉ rs.map (·.2)) : rs.map (cost3 p) = List.replicate rs.length 2 := by
  rw [List.eq_replicate_iff]
  refine ⟨by simp, fun c hc => ?_⟩
  rw [List.mem_map] at hc
  obtain ⟨q, hq, rfl⟩ := hc
  have n2 : p.2 ≠ q.2 := fun e => h (List.mem_map.mpr ⟨q, hq, e.symm⟩)
  unfold cost3
  rw [if_neg (fun e => n2 (hp.same (hrs q hq) e)), if_neg n2]
theorem cost3_near {rs : List P3} {p : P3} (hrs : ∀ q ∈ rs, G3 q) (hp : G3 p) (hnd : (rs.map (·.2)).Nodup) {j : Nat} {r : P3} (hj : rs[j]? = some r) (he : r.2 = p.2) :
    rs.map (cost3 p) = (List.replicate rs.length 2).set j (if r.1 = p.1 then 0 else 1) := by
  refine List.ext_getElem? fun m => ?_
  rw [List.getElem?_map, List.getElem?_set]
  have hjl : j < rs.length := by
    rcases Nat.lt_or_ge j rs.length with z | z
    · exact z
    · rw [List.getElem?_eq_none z] at hj; cases hj
  by_cases e : j = m
  · subst e
    rw [hj, if_pos rfl, if_pos (by simpa using hjl)]
    show some (cost3 p r) = _
    unfold cost3
    by_cases h1 : p.1 = r.1
    · rw [if_pos h1, if_pos h1.symm]
    · rw [if_neg h1, if_pos he.symm, if_neg (fun z => h1 z.symm)]
  · rw [if_neg e]
    rcases Nat.lt_or_ge m rs.length with hm | hm
    · rw [List.getElem?_eq_getElem hm, List.getElem?_replicate, if_pos hm]
      show some (cost3 p rs[m]) = _
      have n2 : p.2 ≠ rs[m].2 := by
        intro z
        refine e ?_
        have h1 : (rs.map (·.2))[j]? = some p.2 := by rw [List.getElem?_map, hj, ← he]; rfl
        have h2 : (rs.map (·.2))[m]? = some p.2 := by rw [List.getElem?_map, List.getElem?_eq_getElem hm, z]; rfl
        exact (List.getElem?_inj (by rw [List.length_map]; exact hjl) hnd).mp (h1.trans h2.symm)
      unfold cost3
      rw [if_neg (fun z => n2 (hp.same (hrs _ (List.getElem_mem hm)) z)), if_neg n2]
    · rw [List.getElem?_eq_none hm, List.getElem?_eq_none (by simpa using hm)]; rfl
def name3 (x : Int) : List Nat := (List.range (1 + x % 3).toNat).map fun k => (x / 3 / 19 ^ k % 19).toNat
theorem name3_ok (x : Int) : (name3 x).length ≤ 3 ∧ ∀ i ∈ name3 x, i < 19 := by
  unfold name3
  refine ⟨by rw [List.length_map, List.length_range]; omega, fun i hi => ?_⟩
  rw [List.mem_map] at hi
  obtain ⟨k, _, rfl⟩ := hi
  omega

theorem ne_of_none {H : AH} {a b : Addr} {ts : List PT} (h : hup H a ts b = Option.none) : a ≠ b := by
  intro e; subst e; rw [hup_same] at h; cases h
theorem none_of_hup {H : AH} {a b : Addr} {ts : List PT} (h : hup H a ts b = Option.none) : H b = Option.none := by
  have := ne_of_none h
  unfold hup at h
  rwa [if_neg (fun e => this e.symm)] at h

theorem reps_single (n : Int) (c : Nat) : reps n [c] = List.replicate n.toNat c := by
  unfold reps
  generalize n.toNat = k
  induction k with
  | zero => rfl
  | succ k ih => rw [List.replicate_succ, List.flatten_cons, ih, List.replicate_succ]; rfl
theorem hup_hup (H : AH) (a : Addr) (x y : List PT) : hup (hup H a x) a y = hup H a y := by
  funext b
  unfold hup
  split <;> rfl
theorem nodup_le : ∀ (n : Nat) (l : List Nat), l.Nodup → (∀ x ∈ l, x < n) → l.length ≤ n
  | 0, l, _, h => by
    cases l with
    | nil => simp
    | cons x l => exact absurd (h x (.head _)) (by omega)
  | n + 1, l, hd, h => by
    by_cases hm : n ∈ l
    · have ih := nodup_le n (l.erase n) (hd.erase n) fun x hx => by
        have h1 := h x (List.mem_of_mem_erase hx)
        have h2 : x ≠ n := fun e => by subst e; exact (List.Nodup.not_mem_erase hd) hx
        omega
      rw [List.length_erase_of_mem hm] at ih
      omega
    · have ih := nodup_le n l hd fun x hx => by
        have h1 := h x hx
        have h2 : x ≠ n := fun e => by subst e; exact hm hx
        omega
      omega

mutual
theorem eqv_self : ∀ t : PT, dok t = true → PyData.eqv (pd t) (pd t) = true
  | .none, _ => rfl
  | .bool b, _ => by simp [pd, PyData.eqv]
  | .int i, _ => by simp [pd, PyData.eqv]
  | .str x, _ => by simp [pd, PyData.eqv]
  | .tup ts, h => by simp only [pd, PyData.eqv]; exact eqvs_self ts (by simpa only [dok] using h)
  | .lst ts, h => by simp only [pd, PyData.eqv]; exact eqvs_self ts (by simpa only [dok] using h)
  | .mut _, h => by simp [dok] at h
  | .rng _ _ _, h => by simp [dok] at h
  | .oth _, h => by simp [dok] at h
theorem eqvs_self : ∀ ts : List PT, doks ts = true → PyData.eqvAll (pds ts) (pds ts) = true
  | [], _ => rfl
  | t :: ts, h => by
    simp only [doks, Bool.and_eq_true] at h
    simp only [pds, PyData.eqvAll, eqv_self t h.1, eqvs_self ts h.2, Bool.and_self]
end
theorem dok_nats (l : List Nat) : dok (.lst (l.map nat)) = true := by simp only [dok]; rw [nat_ints]; exact doks_ints _
theorem eqv_nats (a b : List Nat) : PyData.eqv (pd (.lst (a.map nat))) (pd (.lst (b.map nat))) = (a == b) := by
  simp only [pd, PyData.eqv]
  rw [nat_ints, nat_ints, eqv_ints, cast_beq]
theorem depth_nats (l : List Nat) : (pd (.lst (l.map nat))).depth ≤ 1 := by
  simp only [pd, PyData.depth]
  rw [nat_ints]
  have := depth_ints (l.map fun (n : Nat) => (n : Int))
  omega
def ltT (l : Nat × List Nat × Nat) : PT := .tup [.int l.1, .lst (l.2.1.map nat), .int l.2.2]
theorem lt3_get {i : Nat} (h : i < 19) : (lt3.map ltT)[i]? = some (.tup [.int (cd3 i : Nat), .lst ((sm3 i).map nat), .int (nx3 i : Nat)]) := by
  have hl : i < lt3.length := h
  rw [List.getElem?_map, List.getElem?_eq_getElem hl]
  unfold cd3 sm3 nx3
  rw [List.getD_eq_getElem?_getD, List.getElem?_eq_getElem hl]
  rfl
set_option maxHeartbeats 1000000 in
theorem letters_ok {G : Gx} {fr : Addr} (F : FnIs G PySem.Challenge.pw_dn0226_03 "_law_letters" 5 fr) (H : AH) : Fn G 1 fr [] H fun u => u = .lst (lt3.map ltT) := by
  refine F.spec (xs := []) ?_ (by decide) rfl ?_
  · intro pm cd doc vs hv
    match vs, hv with
    | [], _ => rfl
  intro A L cd
  dsimp only [upds]
  refine exs_cons ?_
  refine ex_return ?_
  refine ev_list ?_
  repeat' first
    | walk_at "cs1"
    | refine ev_list ?_
  exact ⟨_, _, rfl, .nm rfl, rfl⟩
theorem pow19 {k : Nat} (h : k < 3) : (0 : Int) < (19 : Int) ^ (k : Int).toNat ∧ ((19 : Int) ^ (k : Int).toNat).natAbs < 1073741824 := by
  have : ∀ k : Nat, k < 3 → (0 : Int) < (19 : Int) ^ (k : Int).toNat ∧ ((19 : Int) ^ (k : Int).toNat).natAbs < 1073741824 := by decide
  exact this k h
theorem at_nats {n k : Nat} {u : PT} (h : ((List.range n).map nat)[k]? = some u) : u = nat k ∧ k < n := by
  rw [List.getElem?_map] at h
  rcases Nat.lt_or_ge k n with q | q
  · rw [List.getElem?_range q] at h; cases h; exact ⟨rfl, q⟩
  · rw [List.getElem?_eq_none (by simpa using q)] at h; cases h
theorem res_new {H' H : AH} {a : Addr} {ts us : List PT} (h : H a = Option.none) (h' : H' a = some ts) (hr : Ress H' H ts us) : Res H' H (.mut a) (.lst us) := .mut h h' hr
set_option maxHeartbeats 1000000 in
theorem name_ok {G : Gx} (B : Bl G) {fn : Addr} (F : FnIs G PySem.Challenge.pw_dn0226_03 "_law_name" 6 fn) (x : Int) (H : AH) : Fn G 1 fn [.int x] H fun u => u = .lst ((name3 x).map nat) := by
  refine F.spec (xs := ["x"]) ?_ (by decide) rfl ?_
  · intro pm cd doc vs hv
    match vs, hv with
    | [a], _ => rfl
  intro A L cd
  dsimp only [upds]
  refine exs_cons ?_
  refine ex_set ?_
  refine ev_newlist ?_
  walk_at "go"
  intro a ha la
  refine then_next ?_
  refine exs_cons ?_
  refine ex_for ?_
  walk_at "go"
  have hn : (1 + x % 3) = (((1 + x % 3).toNat : Nat) : Int) := by omega
  have hn3 : (1 + x % 3).toNat ≤ 3 := by omega
  refine ⟨_, fun k σ H' => σ "x" = some (.int x) ∧ σ "name" = some (.mut a) ∧ H' a = some (((List.range k).map fun k => (x / 3 / 19 ^ k % 19).toNat).map nat), itr_nats (n := (1 + x % 3).toNat) hn (by omega), nm_nats _, ⟨by walk_at "look", by walk_at "look", hup_same⟩, ?_, ?_⟩
  · intro k t σ H' ht ⟨q1, q2, q3⟩
    obtain ⟨rfl, hk⟩ := at_nats ht
    obtain ⟨p1, p2⟩ := pow19 (show k < 3 by omega)
    dsimp only [nat]
    refine asg_name ?_
    refine exs_cons ?_
    refine ex_append ?_
    refine ev_name (by walk_at "look") ?_
    refine ⟨a, rfl, la, ⟨_, q3⟩, ?_⟩
    walk_at "go"
    refine bin_pow (by omega) (by omega) (by decide) ?_
    refine bin_div ?_ p1 p2
    walk_at "go"
    refine ⟨_, q3, by rw [List.length_map, List.length_map, List.length_range]; omega, ?_⟩
    walk_at "go"
    refine ⟨by walk_at "look", by walk_at "look", ?_⟩
    rw [hup_same, List.range_succ, List.map_append, List.map_append]
    have e : x / 3 / (19 : Int) ^ (k : Int).toNat % 19 = (((x / 3 / 19 ^ k % 19).toNat : Nat) : Int) := by
      rw [Int.toNat_natCast]
      have := Int.emod_nonneg (x / 3 / 19 ^ k) (b := 19) (by decide)
      omega
    rw [e]
    rfl
  · intro σ H' ⟨q1, q2, q3⟩
    rw [List.length_map, List.length_range] at q3
    walk_at "go"
    exact ⟨_, _, rfl, res_new ha q3 (Ress.nms (nm_nats _)), rfl⟩

def wT (p : P3) : PT := .str (tx p.1)
def sT (p : P3) : PT := .lst (p.2.map nat)
def cT (c : List Int) : PT := .lst (c.map PT.int)
theorem nm_wT (l : List P3) : NMs (l.map wT) = true := nms_of fun t ht => by
  rw [List.mem_map] at ht; obtain ⟨_, _, rfl⟩ := ht; rfl
theorem nm_sT (l : List P3) : NMs (l.map sT) = true := nms_of fun t ht => by
  rw [List.mem_map] at ht; obtain ⟨p, _, rfl⟩ := ht; simp only [sT, NM]; exact nm_nats _
theorem nm_cT (l : List (List Int)) : NMs (l.map cT) = true := nms_of fun t ht => by
  rw [List.mem_map] at ht; obtain ⟨c, _, rfl⟩ := ht; simp only [cT, NM]; exact nm_ints _
def out3 (st : S3) : PT := .tup [.lst (st.1.map wT), .lst (st.2.map cT)]
theorem at_map {α : Type} {enc : α → PT} {l : List α} {k : Nat} {u : PT} (h : (l.map enc)[k]? = some u) : ∃ r, u = enc r ∧ l[k]? = some r ∧ k < l.length := by
  rw [List.getElem?_map] at h
  cases q : l[k]? with
  | none => rw [q] at h; cases h
  | some x =>
    rw [q] at h; cases h
    refine ⟨x, rfl, rfl, ?_⟩
    rcases Nat.lt_or_ge k l.length with r | r
    · exact r
    · rw [List.getElem?_eq_none r] at q; cases q
set_option maxHeartbeats 2000000 in
theorem told_ok {G : Gx} {fs ft : Addr} (P : Pg G fs) (F : FnIs G PySem.Challenge.pw_dn0226_03 "_law_told" 7 ft) (ps : List P3) (hg : ∀ p ∈ ps, G3 p) (hl : ps.length ≤ 100) (H : AH) :
    Fn G 2 ft [.lst (ps.map wT)] H fun u => u = out3 (stAt ps ps.length) := by
  refine F.spec (xs := ["words"]) ?_ (by decide) rfl ?_
  · intro pm cd doc vs hv
    match vs, hv with
    | [a], _ => rfl
  intro A L cd
  dsimp only [upds]
  refine exs_cons ?_
  walk_at "go"
  refine ev_newlist ?_
  walk_at "go"
  intro a1 h1 l1
  walk_at "go"
  refine ev_newlist ?_
  walk_at "go"
  intro a2 h2 l2
  walk_at "go"
  have n12 := ne_of_none h2
  have h2' := none_of_hup h2
  refine ex_for ?_
  refine ev_name (by walk_at "look") ?_
  refine ⟨_, fun k σ H' => σ "register" = some (.mut a1) ∧ σ "costs" = some (.mut a2) ∧ H' a1 = some ((stAt ps k).1.map wT) ∧ H' a2 = some ((stAt ps k).2.map cT), itr_lst, nm_wT ps, ⟨by walk_at "look", by walk_at "look", hup_ne n12 hup_same, hup_same⟩, ?_, ?_⟩
  · intro k u σ H' hu ⟨q1, q2, q3, q4⟩
    obtain ⟨p, rfl, hp, hk⟩ := at_map hu
    obtain ⟨g1, g2, g3, g4, g5⟩ := stAt_ok hg k
    have gp := hg p (List.mem_of_getElem? hp)
    have es := stAt_succ hp
    generalize stAt ps k = st at *
    have cm := cost3_mem g1 gp
    have stp1 : stp st p = (if p.2 ∈ st.1.map (·.2) then st.1 else st.1 ++ [p], st.2 ++ [st.1.map (cost3 p), st.1.map (cost3 p)]) := rfl
    rw [stp1] at es
    refine asg_name ?_
    refine exs_cons ?_
    refine ex_append ?_
    refine ev_name (by walk_at "look") ?_
    refine ⟨a2, rfl, l2, ⟨_, q4⟩, ?_⟩
    refine ev_frz (ev_compM wT (fun q => some (PT.int (cost3 p q))) ?_ ?_)
    · refine ev_name (by walk_at "look") ?_
      refine ⟨st.1, itr_lv (lv_mut q3), by omega, ?_, ?_, ?_⟩
      · intro x w e; cases e; rfl
      · intro L' lo q Hf hq hH
        refine cturn_map (σc_none (by rfl)) ?_
        refine ev_fn 1 P.s rfl ?_ (show 1 ≤ 1 by decide)
        dsimp only [wT]
        walk_at "go"
        have gq := g1 q hq
        refine (sub_ok P _ _ (by rw [tx_length]; have := gp.l1; omega) (by rw [tx_length]; have := gq.l1; omega) Hf).mono fun u hu => ?_
        subst hu
        rw [gp.sub gq]
        exact ⟨rfl, rfl⟩
      rw [filterMap_some]
      refine ⟨_, q4, by rw [List.length_map]; omega, ?_⟩
      have e1 : (st.1.map fun q => PT.int (cost3 p q)) = (st.1.map (cost3 p)).map PT.int := by rw [List.map_map]; rfl
      rw [e1]
      refine then_next ?_
      refine exs_cons ?_
      refine ex_append ?_
      refine ev_name (by walk_at "look") ?_
      refine ⟨a2, rfl, l2, ⟨_, hup_same⟩, ?_⟩
      have q3' : hup H' a2 (st.2.map cT ++ [PT.lst ((st.1.map (cost3 p)).map PT.int)]) a1 = some (st.1.map wT) := hup_ne n12 q3
      refine ev_frz (ev_compM wT (fun q => some (PT.int (cost3 p q))) ?_ ?_)
      · refine ev_name (by walk_at "look") ?_
        refine ⟨st.1, itr_lv (lv_mut q3'), by omega, ?_, ?_, ?_⟩
        · intro x w e; cases e; rfl
        · intro L' lo q Hf hq hH
          refine cturn_map (σc_none (by rfl)) ?_
          refine ev_fn 1 P.s rfl ?_ (show 1 ≤ 1 by decide)
          dsimp only [wT]
          walk_at "go"
          have gq := g1 q hq
          refine (sub_ok P _ _ (by rw [tx_length]; have := gq.l1; omega) (by rw [tx_length]; have := gp.l1; omega) Hf).mono fun u hu => ?_
          subst hu
          rw [gq.sub gp, cost3_comm q p]
          exact ⟨rfl, rfl⟩
        rw [filterMap_some, e1]
        refine ⟨_, hup_same, by rw [List.length_append, List.length_map]; simp; omega, ?_⟩
        rw [hup_hup]
        have eC : st.2.map cT ++ [PT.lst ((st.1.map (cost3 p)).map PT.int)] ++ [PT.lst ((st.1.map (cost3 p)).map PT.int)] = (st.2 ++ [st.1.map (cost3 p), st.1.map (cost3 p)]).map cT := by
          rw [List.map_append]; simp [cT]
        rw [eC]
        have hlc : ((st.2 ++ [st.1.map (cost3 p), st.1.map (cost3 p)]).map cT).length = st.2.length + 2 := by simp
        have hm2 : ((st.2 ++ [st.1.map (cost3 p), st.1.map (cost3 p)]).map cT)[st.2.length]? = some (cT (st.1.map (cost3 p))) := by
          rw [List.getElem?_map, List.getElem?_append_right (Nat.le_refl _), Nat.sub_self]; rfl
        have q3'' : hup H' a2 ((st.2 ++ [st.1.map (cost3 p), st.1.map (cost3 p)]).map cT) a1 = some (st.1.map wT) := hup_ne n12 q3
        have hplace : place (-2) (st.2.length + 2) = st.2.length := by rw [place_neg (by omega)]; omega
        have test : ∀ (i : Int) (σ' : Sg) {p1 p2 p3 p4 p5 p6 : Pos} {k1 k2 : Nat}, σ' "costs" = some (.mut a2) →
            Ts (mkC G A "_law_told" (fnAt PySem.Challenge.pw_dn0226_03 7).2.2 ft cd L 1) (.Compare (.Constant (.int i) k1 p1) [.NotIn] [.Subscript (.Name "costs" p2) (.UnaryOp .USub (.Constant (.int 2) k2 p3) p4) p5] p6) σ' (hup H' a2 ((st.2 ++ [st.1.map (cost3 p), st.1.map (cost3 p)]).map cT))
              fun b H₁ => H₁ = hup H' a2 ((st.2 ++ [st.1.map (cost3 p), st.1.map (cost3 p)]).map cT) ∧ b = !decide (i ∈ st.1.map (cost3 p)) := by
          intro i σ' p1 p2 p3 p4 p5 p6 k1 k2 hc
          refine ts_compare ?_
          refine ev_int ?_
          refine ev_sub ?_
          refine ev_name hc ?_
          refine ev_neg ?_
          refine ev_int ?_
          refine ⟨2, rfl, ?_⟩
          refine sub_lst (t := cT (st.1.map (cost3 p))) (lv_mut hup_same) (by rw [hlc]; omega) (by rw [hlc]; omega) (by rw [hlc]; omega) (by rw [hlc, hplace]; exact hm2) ?_
          refine cmp_notin_ints lv_lst ?_
          refine tru_bool ⟨rfl, rfl⟩
        refine then_next ?_
        refine exs_cons ?_
        refine ex_if ?_
        refine tsb_and (b₁ := !decide ((0 : Int) ∈ st.1.map (cost3 p))) (b₂ := !decide ((1 : Int) ∈ st.1.map (cost3 p))) (test 0 _ (by walk_at "look")) (test 1 _ (by walk_at "look")) ?_
        by_cases hin : p.2 ∈ st.1.map (·.2)
        · have hf : (!decide ((0 : Int) ∈ st.1.map (cost3 p)) && !decide ((1 : Int) ∈ st.1.map (cost3 p))) = false := by
            rw [Bool.eq_false_iff]
            intro z
            simp only [Bool.and_eq_true, Bool.not_eq_true', decide_eq_false_iff_not] at z
            exact cm.mp z hin
          rw [if_pos hin] at es
          rw [hf]
          walk_at "go"
          exact ⟨by walk_at "look", by walk_at "look", by rw [es]; exact q3'', by rw [es]; exact hup_same⟩
        · have hf : (!decide ((0 : Int) ∈ st.1.map (cost3 p)) && !decide ((1 : Int) ∈ st.1.map (cost3 p))) = true := by
            have := cm.mpr hin
            simp only [Bool.and_eq_true, Bool.not_eq_true', decide_eq_false_iff_not]
            exact this
          rw [if_neg hin] at es
          rw [hf]
          walk_at "go"
          refine ex_append ?_
          walk_at "go"
          refine ⟨a1, rfl, l1, ⟨_, q3''⟩, ?_⟩
          walk_at "go"
          refine ⟨_, q3'', by rw [List.length_map]; omega, ?_⟩
          walk_at "go"
          refine ⟨by walk_at "look", by walk_at "look", ?_, ?_⟩
          · rw [hup_same, es, List.map_append]; rfl
          · rw [hup_ne n12.symm hup_same, es]
      · show FvOk _ _ ["word"]
        exact fv_cons (by walk_at "look") fv_nil
    · show FvOk _ _ ["word"]
      exact fv_cons (by walk_at "look") fv_nil
  · intro σ H' ⟨q1, q2, q3, q4⟩
    rw [List.length_map] at q3 q4
    walk_at "go"
    refine ⟨_, out3 (stAt ps ps.length), rfl, ?_, rfl⟩
    exact .tup (.cons (res_new h1 q3 (Ress.nms (nm_wT _))) (.cons (res_new h2' q4 (Ress.nms (nm_cT _))) .nil))

/-- a list is written to no more, others are -/
theorem exs_freeze2 {C : Cx} {σ : Sg} {H : AH} {R : Fl → Sg → AH → Prop} {ss : List Stmt} {σ' : Sg} {a : Addr} {ts : List PT} (ha : H a = some ts) (hts : NMs ts = true) (hlo : C.lo ≤ a) (hH : ∀ b us, H b = some us → b ≠ a → NMs us = true)
    (hσ : ∀ x t, σ' x = some t → (σ x = some (.mut a) ∧ t = .lst ts) ∨ (σ x = some t ∧ (NM t = true ∨ ∃ b, t = .mut b ∧ b ≠ a))) (h : Exs C ss σ' (hdel H a) R) : Exs C ss σ H R := fun s x => by
  have del : ∀ b, H b = Option.none → hdel H a b = Option.none := fun b e => by unfold hdel; split <;> first | rfl | exact e
  have up : ∀ t v, (NM t = true ∨ ∃ b, t = .mut b ∧ b ≠ a) → Den s.heap H t v → Den s.heap (hdel H a) t v := fun t v n d => by
    rcases n with n | ⟨b, rfl, hb⟩
    · exact Den.mono' (fun b o _ e q => ⟨e, del b q⟩) t v (.inl n) d
    · obtain ⟨rfl, hn⟩ := of_mut d
      simp only [Den]
      refine ⟨trivial, ?_⟩
      unfold hdel
      rw [if_neg hb]; exact hn
  have ups : ∀ t v, NMs t = true → Dens s.heap H t v → Dens s.heap (hdel H a) t v := fun t v n d => Dens.mono' (fun b o _ e q => ⟨e, del b q⟩) t v (.inl n) d
  obtain ⟨vs, hl, hd⟩ := x.muts a ts ha
  have the : Den s.heap (hdel H a) (.lst ts) (.ref a) := by
    simp only [Den]
    exact ⟨a, vs, rfl, by simp [hdel], hl, ups _ _ hts hd⟩
  have one : ∀ y t v, σ' y = some t → (∀ u, σ y = some u → Den s.heap H u v) → Den s.heap (hdel H a) t v := fun y t v e k => by
    rcases hσ y t e with ⟨h1, rfl⟩ | ⟨h1, h2⟩
    · obtain ⟨rfl, _⟩ := of_mut (k _ h1)
      exact the
    · exact up _ _ h2 (k _ h1)
  have some' : ∀ y t, σ' y = some t → ∃ u, σ y = some u := fun y t e => by
    rcases hσ y t e with ⟨h1, _⟩ | ⟨h1, _⟩
    · exact ⟨_, h1⟩
    · exact ⟨_, h1⟩
  have x' : St C σ' (hdel H a) s := by
    obtain ⟨m, hn, hm⟩ := x.ns
    refine ⟨⟨⟨x.ok, x.base, fun b us q => ?_, x.lo⟩, ⟨m, hn, fun y t e hk => ?_⟩, fun y t e hk => ?_⟩, x.sok, x.has⟩
    · unfold hdel at q
      split at q
      · cases q
      · rename_i hne
        obtain ⟨ws, h1, h2⟩ := x.muts b us q
        exact ⟨ws, h1, ups _ _ (hH b us q hne) h2⟩
    · obtain ⟨u, hu⟩ := some' y t e
      obtain ⟨v, h1, h2⟩ := hm y u hu hk
      exact ⟨v, h1, one y t v e fun u' hu' => by rw [hu] at hu'; cases hu'; exact h2⟩
    · obtain ⟨u, hu⟩ := some' y t e
      obtain ⟨h1, c, v, h2, h3, h4⟩ := x.cells y u hu hk
      exact ⟨h1, c, v, h2, h3, one y t v e fun u' hu' => by rw [hu] at hu'; cases hu'; exact h4⟩
  have k : Kp C s H s (hdel H a) := by
    refine ⟨⟨s.heap, s.toks, rfl⟩, fun _ _ e _ => e, fun _ o e => ⟨o, e⟩, fun b o _ q => del b q, fun b us q l => ?_⟩
    unfold hdel
    rw [if_neg]
    · exact q
    · rintro rfl; exact absurd hlo (Nat.not_le.mpr l)
  exact wpAny_mono (h s x') (fun _ _ p => p.trans k) fun _ _ f => f

def N0 : AH := fun _ => Option.none
theorem hdel_hup {H : AH} {a : Addr} {ts : List PT} (h : H a = Option.none) : hdel (hup H a ts) a = H := by
  funext b
  unfold hdel hup
  by_cases e : b = a
  · subst e; rw [if_pos rfl, h]
  · rw [if_neg e, if_neg e]
theorem first_at {p : List Nat} : ∀ {l : List (List Nat)}, p ∈ l → ∃ j, j < l.length ∧ l[j]? = some p ∧ ∀ m, m < j → l[m]? ≠ some p
  | [], h => by cases h
  | x :: l, h => by
    by_cases e : x = p
    · subst e
      exact ⟨0, by simp, rfl, fun m hm => by omega⟩
    · rcases List.mem_cons.mp h with h | h
      · exact absurd h.symm e
      · obtain ⟨j, h1, h2, h3⟩ := first_at h
        refine ⟨j + 1, by simp; exact h1, by simpa using h2, fun m hm => ?_⟩
        cases m with
        | zero => simp; exact e
        | succ m => have := h3 m (by omega); simpa using this
theorem any_small {rs : List P3} {p : P3} : ((pds (rs.map sT)).any fun y => PyData.eqv y (pd (sT p))) = decide (p.2 ∈ rs.map (·.2)) := by
  rw [pds_map, List.map_map, List.any_map, Bool.eq_iff_iff, List.any_eq_true, decide_eq_true_eq, List.mem_map]
  constructor
  · rintro ⟨q, hq, e⟩
    have e' : PyData.eqv (pd (sT q)) (pd (sT p)) = true := e
    unfold sT at e'
    rw [eqv_nats, beq_iff_eq] at e'
    exact ⟨q, hq, e'⟩
  · rintro ⟨q, hq, e⟩
    refine ⟨q, hq, ?_⟩
    show PyData.eqv (pd (sT q)) (pd (sT p)) = true
    unfold sT
    rw [eqv_nats, beq_iff_eq]; exact e
theorem doks_sT (l : List P3) : doks (l.map sT) = true := doks_of fun t ht => by
  rw [List.mem_map] at ht; obtain ⟨p, _, rfl⟩ := ht; exact dok_nats _
structure I3 (a1 a2 a3 : Addr) (ps : List P3) (k : Nat) (σ : Sg) (H : AH) : Prop where
  xw : σ "words" = some (.lst (ps.map wT))
  xs : σ "smalls" = some (.lst (ps.map sT))
  xr : σ "register" = some (.mut a1)
  xt : σ "taken" = some (.mut a2)
  xc : σ "costs" = some (.mut a3)
  h : H = hup (hup (hup N0 a1 ((stAt ps k).1.map wT)) a2 ((stAt ps k).1.map sT)) a3 ((stAt ps k).2.map cT)
theorem hup_comm {H : AH} {a b : Addr} {ts us : List PT} (h : a ≠ b) : hup (hup H a ts) b us = hup (hup H b us) a ts := by
  funext c
  unfold hup
  by_cases e1 : c = b
  · subst e1; rw [if_pos rfl, if_neg (fun e => h e.symm), if_pos rfl]
  · rw [if_neg e1]
    by_cases e2 : c = a
    · rw [if_pos e2, if_pos e2]
    · rw [if_neg e2, if_neg e2, if_neg e1]
abbrev dueB : List Stmt := (fnAt PySem.Challenge.pw_dn0226_03 8).2.1
abbrev dueC (G : Gx) (A : Around) (f : Addr) (cd : Value) (L d : Nat) : Cx := mkC G A "_law_due" (fnAt PySem.Challenge.pw_dn0226_03 8).2.2 f cd L d
set_option maxHeartbeats 2000000 in
theorem due_turn {G : Gx} (B : Bl G) {A : Around} {fd : Addr} {cd : Value} {L : Nat} {a1 a2 a3 : Addr} {ps : List P3} {k : Nat} {p : P3} {σ : Sg} {H : AH} {R : Fl → Sg → AH → Prop} (hg : ∀ p ∈ ps, G3 p) (hl : ps.length ≤ 100) (hk : k < ps.length) (hp : ps[k]? = some p)
    (n12 : a1 ≠ a2) (n13 : a1 ≠ a3) (n23 : a2 ≠ a3) (l1 : L ≤ a1) (l2 : L ≤ a2) (l3 : L ≤ a3) (I : I3 a1 a2 a3 ps k σ H) (hR : ∀ σ' H', I3 a1 a2 a3 ps (k + 1) σ' H' → R .next σ' H') :
    Exs (dueC G A fd cd L 0) (forB dueB 1) (upd σ "k" (nat k)) H R := by
  obtain ⟨x1, x2, x3, x4, x5, hH⟩ := I
  obtain ⟨g1, g2, g3, g4, g5⟩ := stAt_ok hg k
  have gp := hg p (List.mem_of_getElem? hp)
  have es := stAt_succ hp
  have hR' := hR
  have r1 : H a1 = some ((stAt ps k).1.map wT) := by rw [hH]; exact hup_ne n13 (hup_ne n12 hup_same)
  have r2 : H a2 = some ((stAt ps k).1.map sT) := by rw [hH]; exact hup_ne n23 hup_same
  have r3 : H a3 = some ((stAt ps k).2.map cT) := by rw [hH]; exact hup_same
  generalize hst : stAt ps k = st at *
  have stp1 : stp st p = (if p.2 ∈ st.1.map (·.2) then st.1 else st.1 ++ [p], st.2 ++ [st.1.map (cost3 p), st.1.map (cost3 p)]) := rfl
  rw [stp1] at es
  have nmH : ∀ b us, H b = some us → NMs us = true := by
    intro b us e
    rw [hH] at e
    unfold hup at e
    split at e
    · cases e; exact nm_cT _
    · split at e
      · cases e; exact nm_sT _
      · split at e
        · cases e; exact nm_wT _
        · cases e
  have gw : (ps.map wT)[k]? = some (wT p) := by rw [List.getElem?_map, hp]; rfl
  have gs : (ps.map sT)[k]? = some (sT p) := by rw [List.getElem?_map, hp]; rfl
  refine exs_cons ?_
  refine ex_set ?_
  refine ev_trk (eva_mull ?_)
  refine ev_list ?_
  walk_at "go"
  refine len_lst (lv_mut r1) ?_ (by rw [List.length_map]; omega)
  rw [List.length_map]
  refine ⟨[.int 2], (st.1.length : Int), lv_lst, rfl, by omega, by omega, by simp, ?_⟩
  intro d hd ld
  have eR : (List.replicate (st.1.length : Int).toNat [PT.int 2]).flatten = (List.replicate st.1.length (2 : Int)).map PT.int := by
    rw [Int.toNat_natCast]
    generalize st.1.length = n
    induction n with
    | zero => rfl
    | succ n ih => rw [List.replicate_succ, List.flatten_cons, ih, List.replicate_succ]; rfl
  rw [eR]
  have nd1 : d ≠ a1 := fun e => by rw [e, r1] at hd; cases hd
  have nd2 : d ≠ a2 := fun e => by rw [e, r2] at hd; cases hd
  have nd3 : d ≠ a3 := fun e => by rw [e, r3] at hd; cases hd
  refine then_next ?_
  refine exs_cut (fun σ' H' => σ' "words" = some (.lst (ps.map wT)) ∧ σ' "smalls" = some (.lst (ps.map sT)) ∧ σ' "register" = some (.mut a1) ∧ σ' "taken" = some (.mut a2) ∧ σ' "costs" = some (.mut a3) ∧ σ' "due" = some (.mut d) ∧
    H' = hup (hup (hup (hup N0 a1 ((if p.2 ∈ st.1.map (·.2) then st.1 else st.1 ++ [p]).map wT)) a2 ((if p.2 ∈ st.1.map (·.2) then st.1 else st.1 ++ [p]).map sT)) a3 (st.2.map cT)) d ((st.1.map (cost3 p)).map PT.int)) ?_ ?_
  · refine ex_if ?_
    refine ts_compare ?_
    dsimp only [nat]
    walk_at "go"
    refine sub_at lv_lst (by omega) (by rw [List.length_map]; omega) (by rw [List.length_map]; omega) (t := sT p) (by rw [Int.toNat_natCast]; exact gs) ?_
    walk_at "go"
    refine cmp_in_data (lv_mut (hup_ne nd2.symm r2)) (doks_sT _) (dok_nats _) (by have := depth_nats p.2; unfold sT; omega) ?_
    rw [any_small]
    walk_at "go"
    refine ite_dec (fun hin => ?_) fun hin => ?_
    · obtain ⟨j, hj1, hj2, hj3⟩ := first_at hin
      rw [List.length_map] at hj1
      have hjr : st.1[j]? = some st.1[j] := List.getElem?_eq_getElem hj1
      have hje : st.1[j].2 = p.2 := by
        rw [List.getElem?_map, hjr] at hj2
        simpa using hj2
      have hnear := cost3_near g1 gp g2 hjr hje
      have gj : (st.1.map sT).getD j PT.none = sT st.1[j] := by rw [List.getD_eq_getElem?_getD, List.getElem?_map, hjr]; rfl
      refine exs_cons ?_
      refine ex_set ?_
      refine ev_method ?_
      walk_at "go"
      refine ⟨_, mth_index (lv_mut (hup_ne nd2.symm r2)), ?_⟩
      walk_at "go"
      refine sub_at lv_lst (by omega) (by rw [List.length_map]; omega) (by rw [List.length_map]; omega) (t := sT p) (by rw [Int.toNat_natCast]; exact gs) ?_
      walk_at "go"
      refine index_lst (j := j) (lv_mut (hup_ne nd2.symm r2)) (doks_sT _) (dok_nats _) (by have := depth_nats p.2; unfold sT; omega) (by rw [List.length_map]; omega) (by rw [List.length_map]; exact hj1) ?_ ?_ ?_
      · rw [gj]; unfold sT; rw [eqv_nats, beq_iff_eq]; exact hje
      · intro m hm
        have hm' : m < st.1.length := by omega
        have gm : (st.1.map sT).getD m PT.none = sT st.1[m] := by rw [List.getD_eq_getElem?_getD, List.getElem?_map, List.getElem?_eq_getElem hm']; rfl
        rw [gm]; unfold sT
        rw [eqv_nats, beq_eq_false_iff_ne]
        intro z
        refine hj3 m hm ?_
        rw [List.getElem?_map, List.getElem?_eq_getElem hm', ← z]; rfl
      refine then_next ?_
      refine exs_cons ?_
      refine ex_setitem ?_
      refine ev_ifint (c := st.1[j].1 == p.1) (i := 0) (j := 1) ?_ ?_ ?_ ?_
      · walk_at "go"
        refine sub_at (lv_mut (hup_ne nd1.symm r1)) (by omega) (by rw [List.length_map]; omega) (by rw [List.length_map]; omega) (t := wT st.1[j]) (by rw [Int.toNat_natCast, List.getElem?_map, hjr]; rfl) ?_
        walk_at "go"
        refine sub_at lv_lst (by omega) (by rw [List.length_map]; omega) (by rw [List.length_map]; omega) (t := wT p) (by rw [Int.toNat_natCast]; exact gw) ?_
        dsimp only [wT]
        walk_at "go"
        exact ⟨rfl, rfl⟩
      · walk_at "go"
        exact ⟨rfl, rfl⟩
      · walk_at "go"
        exact ⟨rfl, rfl⟩
      walk_at "go"
      refine ⟨d, _, _, rfl, rfl, ld, hup_same, by omega, by rw [List.length_map, List.length_replicate]; omega, by rw [List.length_map, List.length_replicate]; omega, ?_⟩
      walk_at "go"
      refine ⟨rfl, by walk_at "look", by walk_at "look", by walk_at "look", by walk_at "look", by walk_at "look", by walk_at "look", ?_⟩
      rw [hup_hup, if_pos hin, hH, hnear, Int.toNat_natCast, ← List.map_set]
      congr 3
      by_cases z : st.1[j].1 = p.1
      · rw [if_pos (by simpa using z), if_pos z]
      · rw [if_neg (by simpa using z), if_neg z]
    · walk_at "go"
      refine ex_append ?_
      walk_at "go"
      refine ⟨a1, rfl, l1, ⟨_, hup_ne nd1.symm r1⟩, ?_⟩
      walk_at "go"
      refine sub_at lv_lst (by omega) (by rw [List.length_map]; omega) (by rw [List.length_map]; omega) (t := wT p) (by rw [Int.toNat_natCast]; exact gw) ?_
      refine ⟨_, hup_ne nd1.symm r1, by rw [List.length_map]; omega, ?_⟩
      walk_at "go"
      refine ex_append ?_
      walk_at "go"
      refine ⟨a2, rfl, l2, ⟨_, hup_ne n12.symm (hup_ne nd2.symm r2)⟩, ?_⟩
      walk_at "go"
      refine sub_at lv_lst (by omega) (by rw [List.length_map]; omega) (by rw [List.length_map]; omega) (t := sT p) (by rw [Int.toNat_natCast]; exact gs) ?_
      refine ⟨_, hup_ne n12.symm (hup_ne nd2.symm r2), by rw [List.length_map]; omega, ?_⟩
      walk_at "go"
      refine ⟨rfl, by walk_at "look", by walk_at "look", by walk_at "look", by walk_at "look", by walk_at "look", by walk_at "look", ?_⟩
      rw [if_neg hin, hH, cost3_far g1 gp hin, List.map_append, List.map_append]
      show hup (hup (hup (hup (hup (hup N0 a1 _) a2 _) a3 _) d _) a1 (st.1.map wT ++ [wT p])) a2 (st.1.map sT ++ [sT p]) = hup (hup (hup (hup N0 a1 (st.1.map wT ++ [wT p])) a2 (st.1.map sT ++ [sT p])) a3 _) d _
      rw [hup_comm (a := d) (b := a1) nd1, hup_comm (a := a3) (b := a1) n13.symm, hup_comm (a := a2) (b := a1) n12.symm, hup_hup, hup_comm (a := d) (b := a2) nd2, hup_comm (a := a3) (b := a2) n23.symm, hup_hup]
  · rintro σ' H' ⟨w1, w2, w3, w4, w5, w6, rfl⟩
    have hd0 : hup (hup (hup N0 a1 ((if p.2 ∈ st.1.map (·.2) then st.1 else st.1 ++ [p]).map wT)) a2 ((if p.2 ∈ st.1.map (·.2) then st.1 else st.1 ++ [p]).map sT)) a3 (st.2.map cT) d = Option.none := by
      rw [hup_ne nd3 rfl, hup_ne nd2 rfl, hup_ne nd1 rfl]; rfl
    refine exs_freeze2 (a := d) (σ' := fun x => if x = "due" then some (.lst ((st.1.map (cost3 p)).map PT.int)) else if x = "words" then some (.lst (ps.map wT)) else if x = "smalls" then some (.lst (ps.map sT)) else if x = "register" then some (.mut a1) else if x = "taken" then some (.mut a2) else if x = "costs" then some (.mut a3) else none) hup_same (nm_ints _) ld ?_ ?_ ?_
    · intro b us e hb
      rw [hup, if_neg hb] at e
      unfold hup at e
      split at e
      · cases e; exact nm_cT _
      · split at e
        · cases e; exact nm_sT _
        · split at e
          · cases e; exact nm_wT _
          · cases e
    · intro x t e
      split at e
      · rename_i hx; subst hx; cases e; exact .inl ⟨w6, rfl⟩
      · split at e
        · rename_i hx; subst hx; cases e; exact .inr ⟨w1, .inl (by simp only [NM]; exact nm_wT _)⟩
        · split at e
          · rename_i hx; subst hx; cases e; exact .inr ⟨w2, .inl (by simp only [NM]; exact nm_sT _)⟩
          · split at e
            · rename_i hx; subst hx; cases e; exact .inr ⟨w3, .inr ⟨a1, rfl, nd1.symm⟩⟩
            · split at e
              · rename_i hx; subst hx; cases e; exact .inr ⟨w4, .inr ⟨a2, rfl, nd2.symm⟩⟩
              · split at e
                · rename_i hx; subst hx; cases e; exact .inr ⟨w5, .inr ⟨a3, rfl, nd3.symm⟩⟩
                · cases e
    rw [hdel_hup hd0]
    generalize hσ : (fun x : Str => if x = "due" then some (PT.lst ((st.1.map (cost3 p)).map PT.int)) else if x = "words" then some (.lst (ps.map wT)) else if x = "smalls" then some (.lst (ps.map sT)) else if x = "register" then some (.mut a1) else if x = "taken" then some (.mut a2) else if x = "costs" then some (.mut a3) else none) = σ₁
    have v1 : σ₁ "due" = some (.lst ((st.1.map (cost3 p)).map PT.int)) := by subst hσ; dsimp only; rw [if_pos rfl]
    have v2 : σ₁ "words" = some (.lst (ps.map wT)) := by subst hσ; dsimp only; rw [if_neg (name_ne (by decide)), if_pos rfl]
    have v3 : σ₁ "smalls" = some (.lst (ps.map sT)) := by subst hσ; dsimp only; rw [if_neg (name_ne (by decide)), if_neg (name_ne (by decide)), if_pos rfl]
    have v4 : σ₁ "register" = some (.mut a1) := by subst hσ; dsimp only; rw [if_neg (name_ne (by decide)), if_neg (name_ne (by decide)), if_neg (name_ne (by decide)), if_pos rfl]
    have v5 : σ₁ "taken" = some (.mut a2) := by subst hσ; dsimp only; rw [if_neg (name_ne (by decide)), if_neg (name_ne (by decide)), if_neg (name_ne (by decide)), if_neg (name_ne (by decide)), if_pos rfl]
    have v6 : σ₁ "costs" = some (.mut a3) := by subst hσ; dsimp only; rw [if_neg (name_ne (by decide)), if_neg (name_ne (by decide)), if_neg (name_ne (by decide)), if_neg (name_ne (by decide)), if_neg (name_ne (by decide)), if_pos rfl]
    clear hσ
    refine exs_cons ?_
    refine ex_extend ?_
    refine ev_name v6 ?_
    refine ⟨a3, rfl, l3, ⟨_, hup_same⟩, ?_⟩
    refine ev_list ?_
    walk_at "go"
    refine ⟨_, _, hup_same, lv_lst, by rw [List.length_map]; simp; omega, ?_⟩
    walk_at "go"
    refine hR _ _ ⟨v2, v3, v4, v5, v6, ?_⟩
    rw [es, hup_hup, List.map_append]
    rfl
set_option maxHeartbeats 2000000 in
theorem due_ok {G : Gx} (B : Bl G) {fd : Addr} (F : FnIs G PySem.Challenge.pw_dn0226_03 "_law_due" 8 fd) (ps : List P3) (hg : ∀ p ∈ ps, G3 p) (hl : ps.length ≤ 100) :
    Fn G 1 fd [.lst (ps.map wT), .lst (ps.map sT)] N0 fun u => u = out3 (stAt ps ps.length) := by
  refine F.spec (xs := ["words", "smalls"]) ?_ (by decide) rfl ?_
  · intro pm cd doc vs hv
    match vs, hv with
    | [a, b], _ => rfl
  intro A L cd
  dsimp only [upds]
  refine exs_cons ?_
  walk_at "go"
  refine ev_newlist ?_
  walk_at "go"
  intro a1 h1 l1
  walk_at "go"
  refine ev_newlist ?_
  walk_at "go"
  intro a2 h2 l2
  walk_at "go"
  refine ev_newlist ?_
  walk_at "go"
  intro a3 h3 l3
  walk_at "go"
  have n12 := ne_of_none h2
  have n23 := ne_of_none h3
  have n13 := ne_of_none (none_of_hup h3)
  refine ex_for ?_
  walk_at "go"
  refine len_lst lv_lst ?_ (by rw [List.length_map]; omega)
  walk_at "go"
  rw [List.length_map]
  refine ⟨_, fun k σ H' => I3 a1 a2 a3 ps k σ H', itr_nats (n := ps.length) rfl (by omega), nm_nats _, ⟨by walk_at "look", by walk_at "look", by walk_at "look", by walk_at "look", by walk_at "look", rfl⟩, ?_, ?_⟩
  · intro k t σ H' ht I
    obtain ⟨rfl, hk⟩ := at_nats ht
    refine asg_name ?_
    exact due_turn B hg hl hk (List.getElem?_eq_getElem hk) n12 n13 n23 l1 l2 l3 I fun σ' H' i => i
  · intro σ H' I
    rw [List.length_map, List.length_range] at I
    obtain ⟨x1, x2, x3, x4, x5, hH⟩ := I
    walk_at "go"
    refine ⟨_, out3 (stAt ps ps.length), rfl, ?_, rfl⟩
    exact .tup (.cons (res_new rfl (by rw [hH]; exact hup_ne n13 (hup_ne n12 hup_same)) (Ress.nms (nm_wT _))) (.cons (res_new rfl (by rw [hH]; exact hup_same) (Ress.nms (nm_cT _))) .nil))

theorem flat_one {α : Type} (f : α → Nat) : ∀ l : List α, (l.map fun x => [f x]).flatten = l.map f
  | [] => rfl
  | x :: l => by rw [List.map_cons, List.flatten_cons, flat_one f l]; rfl
theorem sum_one {α : Type} (f : α → Nat) : ∀ l : List α, ((l.map fun x => [f x]).map List.length).sum = l.length
  | [] => rfl
  | x :: l => by
    have := sum_one f l
    simp only [List.map_cons, List.sum_cons, List.length_cons, List.length_nil] at this ⊢
    omega
theorem flat_map_len {f : Nat → List Nat} : ∀ l : List Nat, ((l.map f).map fun s => s.map fun (n : Nat) => (n : Int)).flatten = (l.flatMap f).map fun (n : Nat) => (n : Int)
  | [] => rfl
  | x :: l => by
    rw [List.map_cons, List.map_cons, List.flatten_cons, flat_map_len l, List.flatMap_cons, List.map_append]
/-- a slice of a list, of places that are known -/
theorem ev_slice_lv {C : Cx} {σ : Sg} {H : AH} {Q : PT → AH → Prop} {y : Str} {t : PT} {lower upper : Option Expr} {p1 p2 p3 : Pos} {ts : List PT} {lo hi : Option Int} (hy : σ y = some t) (l : Lv H t ts) (hb : ts.length ≤ 16777216)
    (hl : Evo C lower σ H fun u H₁ => H₁ = H ∧ Prt u lo) (hu : Evo C upper σ H fun u H₁ => H₁ = H ∧ Prt u hi) (q : Q (.lst (cut lo hi ts)) H)
    (h1 : (y == ("__debug__" : Str)) = false := by decide) (h2 : (y == ("__classdict__" : Str)) = false := by decide) : Ev C (.Subscript (.Name y p1) (.Slice lower upper Option.none p2) p3) σ H Q := by
  refine ev_frz (eva_slice (ev_name hy ?_ h1 h2))
  refine fun s x => (hl s x).mono ?_
  rintro u H₁ ⟨rfl, pu⟩
  refine fun s x => (hu s x).mono ?_
  rintro w H₁ ⟨rfl, pw⟩
  exact ⟨ts, lo, hi, l, pu, pw, hb, q⟩
def nT (nm : List Nat) : PT := .lst (nm.map nat)
theorem nm_nT (l : List (List Nat)) : NMs (l.map nT) = true := nms_of fun t ht => by
  rw [List.mem_map] at ht; obtain ⟨p, _, rfl⟩ := ht; simp only [nT, NM]; exact nm_nats _
theorem dok_out {st : S3} (h : ∀ p ∈ st.1, G3 p) : dok (out3 st) = true := by
  unfold out3
  simp only [dok, doks, Bool.and_true, Bool.and_eq_true]
  refine ⟨doks_of fun t ht => ?_, doks_of fun t ht => ?_⟩
  · rw [List.mem_map] at ht; obtain ⟨p, hp, rfl⟩ := ht
    show PyData.strOk (tx p.1) = true
    unfold PyData.strOk
    have := (h p hp).cd
    simp only [tx, List.all_toArray, List.all_eq_true, decide_eq_true_eq]
    intro c hc; have := this c hc; omega
  · rw [List.mem_map] at ht; obtain ⟨c, hc, rfl⟩ := ht
    show doks (c.map PT.int) = true
    exact doks_ints c
theorem depth_out (st : S3) : (pd (out3 st)).depth ≤ 10 := by
  unfold out3
  simp only [pd, pds, PyData.depth, PyData.depthAll]
  have h1 : PyData.depthAll (pds (st.1.map wT)) ≤ 0 := depthAll_le fun d hd => by
    rw [pds_map, List.map_map, List.mem_map] at hd; obtain ⟨x, _, rfl⟩ := hd; simp [pd, PyData.depth, wT]
  have h2 : PyData.depthAll (pds (st.2.map cT)) ≤ 1 := depthAll_le fun d hd => by
    rw [pds_map, List.map_map, List.mem_map] at hd; obtain ⟨x, _, rfl⟩ := hd
    show (pd (cT x)).depth ≤ 1
    simp only [cT, pd, PyData.depth]
    have := depth_ints x
    omega
  omega
abbrev lawB : List Stmt := (fnAt PySem.Challenge.pw_dn0226_03 9).2.1
abbrev lawC (G : Gx) (A : Around) (f : Addr) (cd : Value) (L d : Nat) : Cx := mkC G A "law" (fnAt PySem.Challenge.pw_dn0226_03 9).2.2 f cd L d
set_option maxHeartbeats 2000000 in
theorem law_end {G : Gx} {fs ft fd fw : Addr} (P : Pg G fs) (FT : FnIs G PySem.Challenge.pw_dn0226_03 "_law_told" 7 ft) (FD : FnIs G PySem.Challenge.pw_dn0226_03 "_law_due" 8 fd) {A : Around} {cd : Value} {L : Nat} {σ : Sg} {nms : List (List Nat)}
    (h1 : σ "letters" = some (.lst (lt3.map ltT))) (h2 : σ "names" = some (.lst (nms.map nT))) (hn : ∀ nm ∈ nms, nm.length ≤ 3 ∧ ∀ i ∈ nm, i < 19) (hl : nms.length ≤ 100) :
    Exs (lawC G A fw cd L 49) (lawB.drop 3) σ N0 fun fl σ' H' => ∃ t u, fl = .ret t ∧ Res H' N0 t u ∧ u = .bool true := by
  have B := P.b
  have hg : ∀ p ∈ nms.map wd3, G3 p := fun p hp => by
    rw [List.mem_map] at hp; obtain ⟨nm, hnm, rfl⟩ := hp
    exact wd3_ok (hn nm hnm).2 (by have := (hn nm hnm).1; omega)
  refine exs_cons ?_
  refine ex_set_compM false nT (fun nm => some (wT (wd3 nm))) ?_ ?_
  · refine ev_name h2 ?_
    refine ⟨nms, itr_lst, by omega, ?_, ?_, ?_⟩
    · intro x w e; cases e; rfl
    · intro L' lo nm Hf hm hH
      obtain ⟨b1, b2⟩ := hn nm hm
      refine cturn_map (σc_none (by rfl)) ?_
      dsimp only [nT]
      refine ev_method ?_
      walk_at "go"
      refine ⟨_, mth_join, ?_⟩
      refine evs_cons ?_
      refine ev_frz (ev_compM nat (fun i => some (PT.str (tx [cd3 i]))) ?_ ?_)
      · refine ev_name upd_same ?_
        refine ⟨nm, itr_lst, by omega, ?_, ?_, ?_⟩
        · intro x w e; cases e; rfl
        · intro L'' lo' i Hf' hi hH'
          have hi19 := b2 i hi
          have hlow := lt3_low i hi19
          refine cturn_map (σc_none (by rfl)) ?_
          dsimp only [nat]
          walk_at "go"
          refine sub_at lv_lst (by omega) (by rw [List.length_map]; show _ < (19 : Int); omega) (by rw [List.length_map]; decide) (by rw [Int.toNat_natCast]; exact lt3_get hi19) ?_
          walk_at "go"
          refine sub_tat (by omega) (by simp) (by simp) (t := .int (cd3 i : Nat)) rfl ?_
          walk_at "go"
          rw [Int.toNat_natCast]
          exact ⟨rfl, rfl⟩
        rw [filterMap_some]
        walk_at "go"
        have e2 : (nm.map fun i => PT.str (tx [cd3 i])) = (nm.map fun i => [cd3 i]).map fun l => PT.str (tx l) := by rw [List.map_map]; rfl
        rw [e2]
        refine join_txt lv_lst ?_ (by rw [sum_one]; omega)
        rw [flat_one]
        exact ⟨rfl, rfl⟩
      · show FvOk _ _ ["letters"]
        exact fv_cons (by walk_at "look") fv_nil
    rw [filterMap_some]
    simp only [Bool.false_eq_true, if_false]
    have ew : (nms.map fun nm => wT (wd3 nm)) = (nms.map wd3).map wT := by rw [List.map_map]; rfl
    rw [ew]
    refine then_next ?_
    refine exs_cons ?_
    refine ex_set_compM false nT (fun nm => some (sT (wd3 nm))) ?_ ?_
    · refine ev_name (by walk_at "look") ?_
      refine ⟨nms, itr_lst, by omega, ?_, ?_, ?_⟩
      · intro x w e; cases e; simp only [sT, NM]; exact nm_nats _
      · intro L' lo nm Hf hm hH
        obtain ⟨b1, b2⟩ := hn nm hm
        refine cturn_map (σc_none (by rfl)) ?_
        dsimp only [nT]
        refine ev_blt B.sum PyProof.Rows.Boot.sum ?_
        refine evs_cons ?_
        refine ev_frz (ev_compM nat (fun i => some (PT.lst ((sm3 i).map nat))) ?_ ?_)
        · refine ev_name upd_same ?_
          refine ⟨nm, itr_lst, by omega, ?_, ?_, ?_⟩
          · intro x w e; cases e; simp only [NM]; exact nm_nats _
          · intro L'' lo' i Hf' hi hH'
            have hi19 := b2 i hi
            refine cturn_map (σc_none (by rfl)) ?_
            dsimp only [nat]
            walk_at "go"
            refine sub_at lv_lst (by omega) (by rw [List.length_map]; show _ < (19 : Int); omega) (by rw [List.length_map]; decide) (by rw [Int.toNat_natCast]; exact lt3_get hi19) ?_
            walk_at "go"
            refine sub_tat (by omega) (by simp) (by simp) (t := .lst ((sm3 i).map nat)) rfl ?_
            exact ⟨rfl, rfl⟩
          rw [filterMap_some]
          refine evs_list ?_
          refine ev_list ?_
          refine evs_nil ⟨by simp, ?_⟩
          refine evs_nil ?_
          have e2 : (nm.map fun i => PT.lst ((sm3 i).map nat)) = ((nm.map sm3).map fun s => s.map fun (n : Nat) => (n : Int)).map fun ns => PT.lst (ns.map PT.int) := by
            rw [List.map_map, List.map_map]
            refine List.map_congr_left fun i _ => ?_
            show PT.lst _ = PT.lst _
            rw [nat_ints]
          rw [e2]
          have g := (wd3_ok b2 (by omega)).l2
          have g' : (nm.flatMap sm3).length ≤ 100 := g
          refine sum_lists lv_lst ?_ ?_ (by show 1 ≤ 49; decide)
          · rw [flat_map_len, List.length_map]; omega
          · rw [flat_map_len, ← nat_ints]
            exact ⟨rfl, rfl⟩
        · show FvOk _ _ ["letters"]
          exact fv_cons (by walk_at "look") fv_nil
      rw [filterMap_some]
      simp only [Bool.false_eq_true, if_false]
      have es : (nms.map fun nm => sT (wd3 nm)) = (nms.map wd3).map sT := by rw [List.map_map]; rfl
      rw [es]
      have hps : (nms.map wd3).length ≤ 100 := by rw [List.length_map]; exact hl
      generalize nms.map wd3 = ps at *
      refine then_next ?_
      refine exs_cons ?_
      refine ex_return ?_
      refine ev_compare ?_
      refine ev_fn 2 FT rfl ?_ (show 2 ≤ 49 by decide)
      walk_at "go"
      refine (told_ok P FT ps hg hps _).mono fun u hu => ?_
      subst hu
      refine ev_fn 1 FD rfl ?_ (show 1 ≤ 49 by decide)
      walk_at "go"
      refine (due_ok B FD ps hg hps).mono fun u hu => ?_
      subst hu
      have hd := dok_out (stAt_ok hg ps.length).1
      refine cmp_eqd hd hd (by have := depth_out (stAt ps ps.length); omega) ?_
      rw [eqv_self _ hd]
      exact ⟨_, _, rfl, .nm rfl, rfl⟩
    · show FvOk _ _ ["letters"]
      exact fv_cons (by walk_at "look") fv_nil
  · show FvOk _ _ ["letters"]
    exact fv_cons (by walk_at "look") fv_nil
set_option maxHeartbeats 2000000 in
theorem law_ok {G : Gx} {fs fa fn ft fd fw : Addr} (P : Pg G fs) (FA : FnIs G PySem.Challenge.pw_dn0226_03 "_law_letters" 5 fa) (FN : FnIs G PySem.Challenge.pw_dn0226_03 "_law_name" 6 fn) (FT : FnIs G PySem.Challenge.pw_dn0226_03 "_law_told" 7 ft) (FD : FnIs G PySem.Challenge.pw_dn0226_03 "_law_due" 8 fd) (W : FnIs G PySem.Challenge.pw_dn0226_03 "law" 9 fw)
    (ns : List Int) (hn : ns.length ≤ 63) : Fn G 50 fw [.lst (ns.map PT.int)] (fun _ => Option.none) fun u => u = .bool true := by
  refine W.spec (xs := ["script"]) ?_ (by decide) rfl ?_
  · intro pm cd doc vs hv
    match vs, hv with
    | [a], _ => rfl
  intro A L cd
  dsimp only [upds]
  have B := P.b
  refine exs_cons ?_
  refine ex_set ?_
  refine ev_fn 1 FA rfl ?_ (show 1 ≤ 49 by decide)
  refine evs_nil ?_
  refine (letters_ok FA _).mono fun u hu => ?_
  subst hu
  refine then_next ?_
  refine exs_cons ?_
  refine ex_set_compM true PT.int (fun x => some (nT (name3 x))) ?_ ?_
  · refine ev_frz (eva_addl ?_)
    refine ev_slice_lv (by walk_at "look") lv_lst (by rw [List.length_map]; omega) (lo := none) (hi := some ((16 : Nat) : Int)) ?_ ?_ ?_
    · walk_at "go"
      exact ⟨rfl, .none⟩
    · walk_at "go"
      exact ⟨rfl, .int⟩
    refine ev_list ?_
    walk_at "go"
    refine len_lst lv_lst ?_ (by rw [List.length_map]; omega)
    walk_at "go"
    rw [cut_upto, ← List.map_take, List.length_map]
    refine ⟨_, _, lv_lst, lv_lst, by simp; omega, ?_⟩
    have e0 : (ns.take 16).map PT.int ++ [PT.int (ns.length : Int)] = (ns.take 16 ++ [(ns.length : Int)]).map PT.int := by rw [List.map_append]; rfl
    rw [e0]
    have hlen : (ns.take 16 ++ [(ns.length : Int)]).length ≤ 17 := by
      rw [List.length_append, List.length_take]; simp; omega
    generalize ns.take 16 ++ [(ns.length : Int)] = xs at hlen
    refine ⟨xs, itr_lst, by omega, ?_, ?_, ?_⟩
    · intro x w e; cases e; simp only [nT, NM]; exact nm_nats _
    · intro L' lo x Hf hx hH
      refine cturn_map (σc_none (by rfl)) ?_
      refine ev_fn 1 FN rfl ?_ (show 1 ≤ 49 by decide)
      walk_at "go"
      refine (name_ok B FN x Hf).mono fun u hu => ?_
      subst hu
      exact ⟨rfl, rfl⟩
    rw [filterMap_some]
    simp only [if_true]
    intro a ha la
    have en : (xs.map fun x => nT (name3 x)) = (xs.map name3).map nT := by rw [List.map_map]; rfl
    rw [en]
    have hnm : ∀ nm ∈ xs.map name3, nm.length ≤ 3 ∧ ∀ i ∈ nm, i < 19 := fun nm h => by
      rw [List.mem_map] at h; obtain ⟨x, _, rfl⟩ := h; exact name3_ok x
    have hnl : (xs.map name3).length ≤ 17 := by rw [List.length_map]; exact hlen
    generalize xs.map name3 = nms at *
    refine then_next ?_
    refine exs_cons ?_
    refine ex_augl upd_same la ?_
    refine ev_frz (ev_compM nT (fun nm => some (nT (nm.map nx3))) ?_ ?_)
    · refine ev_frz (eva_rev ?_)
      refine ev_name upd_same ?_
      refine ev_neg ?_
      refine ev_int ?_
      refine ⟨1, rfl, ?_⟩
      refine ⟨nms.map nT, lv_mut hup_same, rfl, by rw [List.length_map]; omega, ?_⟩
      rw [← List.map_reverse]
      refine ⟨nms.reverse, itr_lst, by rw [List.length_reverse]; omega, ?_, ?_, ?_⟩
      · intro x w e; cases e; simp only [nT, NM]; exact nm_nats _
      · intro L' lo nm Hf hm hH
        obtain ⟨b1, b2⟩ := hnm nm (List.mem_reverse.mp hm)
        refine cturn_map (σc_none (by rfl)) ?_
        dsimp only [nT]
        refine ev_frz (ev_compM nat (fun i => some (nat (nx3 i))) ?_ ?_)
        · refine ev_name upd_same ?_
          refine ⟨nm, itr_lst, by omega, ?_, ?_, ?_⟩
          · intro x w e; cases e; rfl
          · intro L'' lo' i Hf' hi hH'
            have hi19 := b2 i hi
            refine cturn_map (σc_none (by rfl)) ?_
            dsimp only [nat]
            walk_at "go"
            refine sub_at lv_lst (by omega) (by rw [List.length_map]; show _ < (19 : Int); omega) (by rw [List.length_map]; decide) (by rw [Int.toNat_natCast]; exact lt3_get hi19) ?_
            walk_at "go"
            refine sub_tat (by omega) (by simp) (by simp) (t := .int (nx3 i : Nat)) rfl ?_
            exact ⟨rfl, rfl⟩
          rw [filterMap_some]
          refine ⟨rfl, ?_⟩
          rw [List.map_map]; rfl
        · show FvOk _ _ ["letters"]
          exact fv_cons (by walk_at "look") fv_nil
      rw [filterMap_some]
      have er : (nms.reverse.map fun nm => nT (nm.map nx3)) = (nms.reverse.map fun nm => nm.map nx3).map nT := by rw [List.map_map]; rfl
      rw [er]
      refine ⟨_, _, hup_same, lv_lst, by rw [List.length_map, List.length_map, List.length_map, List.length_reverse]; omega, ?_⟩
      rw [hup_hup, ← List.map_append]
      refine then_next ?_
      refine exs_freeze2 (a := a) (σ' := fun x => if x = "letters" then some (.lst (lt3.map ltT)) else if x = "names" then some (.lst ((nms ++ nms.reverse.map fun nm => nm.map nx3).map nT)) else none) hup_same (nm_nT _) la ?_ ?_ ?_
      · intro b us e hb
        rw [hup, if_neg hb] at e
        cases e
      · intro x t e
        split at e
        · rename_i hx; subst hx; cases e; exact .inr ⟨by walk_at "look", .inl rfl⟩
        · split at e
          · rename_i hx; subst hx; cases e; exact .inl ⟨by walk_at "look", rfl⟩
          · cases e
      have ez : hdel (hup (fun _ => Option.none) a ((nms ++ nms.reverse.map fun nm => nm.map nx3).map nT)) a = N0 := hdel_hup rfl
      rw [ez]
      refine law_end P FT FD (nms := nms ++ nms.reverse.map fun nm => nm.map nx3) (by rw [if_pos rfl]) (by rw [if_neg (name_ne (by decide)), if_pos rfl]) ?_ ?_
      · intro nm h
        rcases List.mem_append.mp h with h | h
        · exact hnm nm h
        · rw [List.mem_map] at h
          obtain ⟨m, hm, rfl⟩ := h
          obtain ⟨b1, b2⟩ := hnm m (List.mem_reverse.mp hm)
          refine ⟨by rw [List.length_map]; exact b1, fun i hi => ?_⟩
          rw [List.mem_map] at hi
          obtain ⟨j, hj, rfl⟩ := hi
          exact (lt3_low j (b2 j hj)).2.2.2.1
      · rw [List.length_append, List.length_map, List.length_reverse]; omega
    · show FvOk _ _ ["letters"]
      exact fv_cons (by walk_at "look") fv_nil
  · exact fv_nil

end Mine
set_option maxHeartbeats 8000000 in
theorem PySem.Challenge.cw_dn0226_03_holds : PySem.Challenge.rw_dn0226_03.Holds := by
  w_on
  o_law
  k_head
  case hw => w_witness2
  intro w s₀ s₁ mg mb G Y fa o pm cd doc dV kV ho hd hcd hD hmg hg args vals as hpre hlay hrd hwl hlo
  have KX := kIn_of Y
  refine Ground.open G ?_
  intro T B D TE TW
  wrow_args hpre hlay hrd hwl hlo
  refine enter_call ?_
  refine codeAny_mono ?_ (fun _ _ g => GoodW.toG g)
  clear ho hd hcd hD
  have W := Mine.fnIs_of (G := ⟨PySem.Challenge.rw_dn0226_03.row.prog, w, s₁.heap, mg, mb⟩) (p := PySem.Challenge.pw_dn0226_03) (n := "law") (k := 9) KX T.g (by kernel_rfl) (by kernel_rfl) (by kernel_rfl)
  have e := (show mg "law" = some (.ref fa) from hmg).symm.trans W.mg
  cases e
  rename_i w1 _ _ _ hcond _
  refine Mine.law_ends T hg w1 (raisesW_false (by intro _ h; cases h)) (by wrow_post) fun g => ?_
  refine Mine.law_ok (fs := _) ⟨Mine.bl_of KX T.g (by kernel_rfl), Mine.fnIs_of KX T.g (by kernel_rfl) (by kernel_rfl) (by kernel_rfl), Mine.intIn_of KX T.g (by kernel_rfl), Mine.intIn_of KX T.g (by kernel_rfl)⟩ (Mine.fnIs_of KX T.g (by kernel_rfl) (by kernel_rfl) (by kernel_rfl)) (Mine.fnIs_of KX T.g (by kernel_rfl) (by kernel_rfl) (by kernel_rfl)) (Mine.fnIs_of KX T.g (by kernel_rfl) (by kernel_rfl) (by kernel_rfl)) (Mine.fnIs_of KX T.g (by kernel_rfl) (by kernel_rfl) (by kernel_rfl)) W _ (by omega)
