import PyProof.Rows.All
import Wide.All
import OpenK.AllK
import Wide.FinOn
import KE.BitLaws
import Lean
import PySem.Challenge.RW_ak5042_02
set_option Elab.async false
set_option linter.unusedVariables false
set_option linter.unusedSimpArgs false
open PySem PySem.W PyProof.Rows
set_option Elab.async false
set_option maxRecDepth 100000 in
set_option maxHeartbeats 8000000 in
open_top hd02 for PySem.Challenge.rw_ak5042_02
open PySem PySem.W PySem.Calls PyProof.Rows PySem.Spec
set_option linter.unusedVariables false
namespace Mine
/-! values, objects, the small heap -/
structure LamD where
  qual : Str
  params : Arguments
  body : Expr
  scope : Scope
inductive V where
  | undef | none | bool (b : Bool) | int (i : Int) | flt (x : UInt64) | str (s : Str) | bytes (b : Array UInt8)
  | ref (x : Nat) | tup (vs : List V) | rng (a b c : Int) | k (v : Value) | lam (ld : LamD)
def ok : V → Prop
  | .undef => False
  | .k v => handedIn v = true
  | _ => True
@[simp] theorem ok_none : ok .none := trivial
@[simp] theorem ok_bool {b} : ok (.bool b) := trivial
@[simp] theorem ok_int {b} : ok (.int b) := trivial
@[simp] theorem ok_flt {b} : ok (.flt b) := trivial
@[simp] theorem ok_str {b} : ok (.str b) := trivial
@[simp] theorem ok_bytes {b} : ok (.bytes b) := trivial
@[simp] theorem ok_ref {b} : ok (.ref b) := trivial
@[simp] theorem ok_tup {b} : ok (.tup b) := trivial
@[simp] theorem ok_rng {a b c} : ok (.rng a b c) := trivial
@[simp] theorem ok_kref {b} : ok (.k (.ref b)) := rfl
@[simp] theorem ok_lam {a} : ok (.lam a) := trivial
theorem ok_ne {v : V} (h : ok v) : v ≠ .undef := by cases v <;> first | exact h.elim | (intro e; cases e)
inductive O where
  | list (vs : List V)
  | inst (C : Addr) (fs : List V)
  | dict (es : List (Int × V))
structure Hp where
  at_ : Nat → Option O
  nx : Nat
def Hp.new (σ : Hp) (o : O) : Hp := ⟨fun x => if x = σ.nx then some o else σ.at_ x, σ.nx + 1⟩
def Hp.set (σ : Hp) (x : Nat) (o : O) : Hp := ⟨fun y => if y = x then some o else σ.at_ y, σ.nx⟩
abbrev Mp := Nat → Option (Addr × Addr)
abbrev tupOf (its : Array Value) (n : Nat) : Obj := { cls := .type "tuple", data := .seq its n }
mutual
def VR (μ : Mp) (h : Heap) : V → Value → Prop
  | .undef, _ => False
  | .none, r => r = .none
  | .bool b, r => r = .bool b
  | .int i, r => ∃ t, r = .int i t
  | .flt x, r => ∃ t, r = .float x t
  | .str x, r => ∃ t, r = .str x t
  | .bytes b, r => ∃ t, r = .bytes b t
  | .ref x, r => ∃ a d, μ x = some (a, d) ∧ r = .ref a
  | .tup vs, r => ∃ a its n, r = .ref a ∧ h.get? a = some (tupOf its n) ∧ VsR μ h vs its.toList
  | .rng a b c, r => ∃ p t u v, r = .ref p ∧ IsRange h p a b c t u v
  | .k v, r => r = v
  | .lam ld, r => ∃ a c' ctv pm oc vs t, r = .ref a ∧ h.get? a = some (kla_obj "<lambda>" ld.qual ld.params ld.body ld.scope [] pm c' ctv) ∧
      h.get? c' = some oc ∧ oc.cls = .type "code" ∧ oc.data = .fields vs ∧ vs[1]? = some (.str ld.qual t)
def VsR (μ : Mp) (h : Heap) : List V → List Value → Prop
  | [], rs => rs = []
  | v :: vs, rs => ∃ r rs', rs = r :: rs' ∧ VR μ h v r ∧ VsR μ h vs rs'
end
def Sub (μ μ' : Mp) : Prop := ∀ x p, μ x = some p → μ' x = some p
def NotDC : Data → Prop
  | .dict .. => False
  | .cell _ => False
  | _ => True
def Imm (o : Obj) : Prop := (o.cls = .type "tuple" ∨ o.cls = .type "range" ∨ o.cls = .type "function" ∨ o.cls = .type "code") ∧ NotDC o.data
mutual
theorem VR.mono {μ μ' : Mp} {h h' : Heap} (hs : Sub μ μ') (hk : ∀ b o, Imm o → h.get? b = some o → h'.get? b = some o) :
    ∀ (v : V) (r : Value), VR μ h v r → VR μ' h' v r
  | .undef, _, x => by cases x
  | .none, _, x => x
  | .bool _, _, x => x
  | .int _, _, x => x
  | .flt _, _, x => x
  | .str _, _, x => x
  | .bytes _, _, x => x
  | .ref _, _, x => let ⟨a, d, e, f⟩ := x; ⟨a, d, hs _ _ e, f⟩
  | .tup vs, _, x => let ⟨a, its, n, e, f, g⟩ := x; ⟨a, its, n, e, hk _ _ ⟨.inl rfl, trivial⟩ f, VsR.mono hs hk vs _ g⟩
  | .rng _ _ _, _, x => let ⟨p, t, u, v, e, f⟩ := x; ⟨p, t, u, v, e, hk _ _ ⟨.inr (.inl rfl), trivial⟩ f⟩
  | .k _, _, x => x
  | .lam _, _, x => let ⟨a, c', ctv, pm, oc, vs, t, e, f, g, i, r⟩ := x; ⟨a, c', ctv, pm, oc, vs, t, e, hk _ _ ⟨.inr (.inr (.inl rfl)), trivial⟩ f, hk _ _ ⟨.inr (.inr (.inr i)), by rw [r.1]; trivial⟩ g, i, r⟩
theorem VsR.mono {μ μ' : Mp} {h h' : Heap} (hs : Sub μ μ') (hk : ∀ b o, Imm o → h.get? b = some o → h'.get? b = some o) :
    ∀ (vs : List V) (rs : List Value), VsR μ h vs rs → VsR μ' h' vs rs
  | [], _, x => x
  | v :: vs, _, x => let ⟨r, rs', e, f, g⟩ := x; ⟨r, rs', e, VR.mono hs hk v _ f, VsR.mono hs hk vs _ g⟩
end
theorem VR.handed {μ : Mp} {h : Heap} {v : V} {r : Value} (x : VR μ h v r) (o : ok v) : handedIn r = true := by
  cases v with
  | undef => cases x
  | none => rw [show r = _ from x]; rfl
  | bool b => rw [show r = _ from x]; rfl
  | int i => obtain ⟨_, rfl⟩ := x; rfl
  | flt i => obtain ⟨_, rfl⟩ := x; rfl
  | str i => obtain ⟨_, rfl⟩ := x; rfl
  | bytes i => obtain ⟨_, rfl⟩ := x; rfl
  | ref x' => obtain ⟨_, _, _, rfl⟩ := x; rfl
  | tup vs => obtain ⟨_, _, _, rfl, _⟩ := x; rfl
  | rng a b d => obtain ⟨_, _, _, _, rfl, _⟩ := x; rfl
  | k v => rw [show r = _ from x]; exact o
  | lam ld => obtain ⟨_, _, _, _, _, _, _, rfl, _⟩ := x; rfl
theorem VsR.length {μ : Mp} {h : Heap} : ∀ {vs : List V} {rs : List Value}, VsR μ h vs rs → rs.length = vs.length
  | [], _, x => by rw [show _ = [] from x]; rfl
  | _ :: vs, _, x => by obtain ⟨r, rs', rfl, _, g⟩ := x; simp [VsR.length g]
theorem VsR.nil {μ : Mp} {h : Heap} : VsR μ h [] [] := rfl
theorem VsR.cons {μ : Mp} {h : Heap} {v : V} {r : Value} {vs : List V} {rs : List Value} (a : VR μ h v r) (b : VsR μ h vs rs) : VsR μ h (v :: vs) (r :: rs) := ⟨r, rs, rfl, a, b⟩
theorem VsR.get {μ : Mp} {h : Heap} : ∀ {vs : List V} {rs : List Value}, VsR μ h vs rs → ∀ {i : Nat} {v : V}, vs[i]? = some v → ∃ r, rs[i]? = some r ∧ VR μ h v r
  | [], _, _, i, v, e => by simp at e
  | v :: vs, _, x, 0, w, e => by obtain ⟨r, rs', rfl, f, g⟩ := x; cases e; exact ⟨r, rfl, f⟩
  | v :: vs, _, x, i + 1, w, e => by
    obtain ⟨r, rs', rfl, f, g⟩ := x
    exact VsR.get g (by simpa using e)
theorem VsR.append {μ : Mp} {h : Heap} : ∀ {vs ws : List V} {rs ss : List Value}, VsR μ h vs rs → VsR μ h ws ss → VsR μ h (vs ++ ws) (rs ++ ss)
  | [], _, _, _, x, y => by rw [show _ = [] from x]; exact y
  | v :: vs, _, _, _, x, y => by obtain ⟨r, rs', rfl, f, g⟩ := x; exact ⟨r, _, rfl, f, VsR.append g y⟩
theorem VsR.set {μ : Mp} {h : Heap} : ∀ {vs : List V} {rs : List Value}, VsR μ h vs rs → ∀ (i : Nat) {v : V} {r : Value}, VR μ h v r → VsR μ h (vs.set i v) (rs.set i r)
  | [], _, x, i, _, _, _ => by rw [show _ = [] from x]; exact rfl
  | w :: vs, _, x, 0, v, r, y => by obtain ⟨r', rs', rfl, f, g⟩ := x; exact ⟨r, rs', rfl, y, g⟩
  | w :: vs, _, x, i + 1, v, r, y => by obtain ⟨r', rs', rfl, f, g⟩ := x; exact ⟨r', _, rfl, f, VsR.set g i y⟩
theorem VsR.take {μ : Mp} {h : Heap} : ∀ {vs : List V} {rs : List Value}, VsR μ h vs rs → ∀ (i : Nat), VsR μ h (vs.take i) (rs.take i)
  | [], _, x, i => by rw [show _ = [] from x]; simp; exact rfl
  | w :: vs, _, x, 0 => rfl
  | w :: vs, _, x, i + 1 => by obtain ⟨r', rs', rfl, f, g⟩ := x; exact ⟨r', _, rfl, f, VsR.take g i⟩
theorem VsR.drop {μ : Mp} {h : Heap} : ∀ {vs : List V} {rs : List Value}, VsR μ h vs rs → ∀ (i : Nat), VsR μ h (vs.drop i) (rs.drop i)
  | [], _, x, i => by rw [show _ = [] from x]; simp; exact rfl
  | w :: vs, _, x, 0 => x
  | w :: vs, _, x, i + 1 => by obtain ⟨r', rs', rfl, f, g⟩ := x; exact VsR.drop g i
/-! the fixed part -/
structure Cx where
  prog : Program
  w : World
  K : Frag
  H0 : Heap
  pv : Program
  loose : List Str
  mean : ExcName → Option Value
  mg : Str → Option Value
  mb : Str → Option Value
  os : OsState
  flds : Addr → List Str
  /-- the code tables that may grow -/
  tabs : List (Addr × Addr × Str)
  frz : Addr → Option (List V)
  gp : Array GenState → Prop
  X0 : K.In H0
  T : Top pv loose mean mg mb H0
def lim : Nat := 1048576
def OR (c : Cx) (μ : Mp) (h : Heap) : O → Addr → Addr → Prop
  | .list vs, a, d => d = a ∧ vs.length ≤ lim ∧ ∃ its n, h.get? a = some (listOf its n) ∧ VsR μ h vs its.toList
  | .inst C fs, a, d => h.get? a = some (instObj C d) ∧ (∃ o, h.get? d = some o ∧ o.cls = .type "dict") ∧ fs.length = (c.flds C).length ∧ ((c.flds C).Nodup ∧ (c.flds C).length ≤ 1000) ∧ ∃ m, h.Ns1 d m ∧ Within m (c.flds C) ∧
      ∀ (i : Nat) (v : V), fs[i]? = some v → (∃ nm, (c.flds C)[i]? = some nm ∧ ((v = .undef ∧ m nm = none) ∨ (ok v ∧ ∃ r, m nm = some r ∧ VR μ h v r)))
  | .dict es, a, d => d = a ∧ (∃ o, h.get? a = some o ∧ o.cls = .type "dict") ∧ es.length ≤ 1000 ∧ ∃ f, h.IntMap a f ∧ h.DictLe a es.length ∧ ∀ k, match es.lookup k with
      | none => f k = none
      | some v => ok v ∧ ∃ r, f k = some r ∧ VR μ h v r
structure Rl (c : Cx) (μ : Mp) (σ : Hp) (h : Heap) : Prop where
  base : ∀ b o, c.H0.get? b = some o → h.get? b = some o
  dom : ∀ x, (σ.at_ x).isSome = (μ x).isSome
  fresh : ∀ x, σ.nx ≤ x → σ.at_ x = none
  obj : ∀ x a d, μ x = some (a, d) → ∃ o, σ.at_ x = some o ∧ OR c μ h o a d
  inj : ∀ x y a d a' d', μ x = some (a, d) → μ y = some (a', d') → x ≠ y → a ≠ a' ∧ a ≠ d' ∧ d ≠ a' ∧ d ≠ d'
  off : ∀ x a d, μ x = some (a, d) → c.H0.get? a = none ∧ c.H0.get? d = none ∧ ∀ q ∈ c.tabs, q.2.1 ≠ a ∧ q.2.1 ≠ d
def Off (μ : Mp) (b : Addr) : Prop := ∀ x a d, μ x = some (a, d) → b ≠ a ∧ b ≠ d
/-- one object, but for a frame's slots -/
def Alike (o o' : Obj) : Prop := o' = o ∨ ((∃ es n, o.data = .dict es n) ∧ ∃ sl, o' = { o with slots := sl })
theorem Alike.refl (o : Obj) : Alike o o := .inl rfl
theorem Alike.trans {a b c : Obj} (x : Alike a b) (y : Alike b c) : Alike a c := by
  rcases x with rfl | ⟨e, sl, rfl⟩
  · exact y
  · rcases y with rfl | ⟨_, sl', rfl⟩
    · exact .inr ⟨e, sl, rfl⟩
    · exact .inr ⟨e, sl', rfl⟩
structure Stp (c : Cx) (μ : Mp) (h : Heap) (μ' : Mp) (h' : Heap) : Prop where
  sub : Sub μ μ'
  new : ∀ x a d, μ' x = some (a, d) → μ x = none → h.objs.size ≤ a ∧ h.objs.size ≤ d
  kept : ∀ b o, h.get? b = some o → Off μ b → (∀ q ∈ c.tabs, q.2.1 ≠ b) → ∃ o', h'.get? b = some o' ∧ Alike o o'
  size : h.objs.size ≤ h'.objs.size
theorem Stp.refl (c : Cx) (μ : Mp) (h : Heap) : Stp c μ h μ h :=
  ⟨fun _ _ e => e, fun x a d e f => (by rw [f] at e; cases e), fun _ o e _ _ => ⟨o, e, .refl o⟩, Nat.le_refl _⟩
theorem Stp.trans {c : Cx} {μ μ₁ μ₂ : Mp} {h h₁ h₂ : Heap} (x : Stp c μ h μ₁ h₁) (y : Stp c μ₁ h₁ μ₂ h₂) : Stp c μ h μ₂ h₂ where
  sub := fun a p e => y.sub _ _ (x.sub _ _ e)
  new := fun a b d e f => by
    cases q : μ₁ a with
    | none => have := y.new a b d e q; exact ⟨Nat.le_trans x.size this.1, Nat.le_trans x.size this.2⟩
    | some p =>
      obtain ⟨p1, p2⟩ := p
      have := y.sub _ _ q
      rw [e] at this; cases this
      exact x.new a b d q f
  kept := fun b o e f g => by
    obtain ⟨o₁, e₁, l₁⟩ := x.kept b o e f g
    have f₁ : Off μ₁ b := fun z a d hz => by
      cases q : μ z with
      | none =>
        have := x.new z a d hz q
        have hb := Heap.lt_size e
        exact ⟨fun w => by rw [w] at hb; exact absurd this.1 (Nat.not_le.mpr hb), fun w => by rw [w] at hb; exact absurd this.2 (Nat.not_le.mpr hb)⟩
      | some p =>
        obtain ⟨p1, p2⟩ := p
        have := x.sub _ _ q
        rw [hz] at this; cases this
        exact f z a d q
    obtain ⟨o₂, e₂, l₂⟩ := y.kept b o₁ e₁ f₁ g
    exact ⟨o₂, e₂, l₁.trans l₂⟩
  size := Nat.le_trans x.size y.size
theorem OR.mut {c : Cx} {μ : Mp} {h : Heap} {o : O} {a d : Addr} (x : OR c μ h o a d) : (∃ oa, h.get? a = some oa ∧ ¬ Imm oa) ∧ (∃ od, h.get? d = some od ∧ ¬ Imm od) := by
  cases o with
  | list vs =>
    obtain ⟨rfl, _, its, n, e, _⟩ := x
    exact ⟨⟨_, e, by simp [Imm]⟩, ⟨_, e, by simp [Imm]⟩⟩
  | inst C fs =>
    obtain ⟨e, ⟨od, ed, cd⟩, _⟩ := x
    exact ⟨⟨_, e, by simp [Imm]⟩, ⟨od, ed, by simp [Imm, cd]⟩⟩
  | dict es =>
    obtain ⟨rfl, ⟨od, ed, cd⟩, _⟩ := x
    exact ⟨⟨od, ed, by simp [Imm, cd]⟩, ⟨od, ed, by simp [Imm, cd]⟩⟩
section
variable {c : Cx} {μ μ' : Mp} {σ σ' : Hp} {h h' : Heap}
theorem Rl.mut (R : Rl c μ σ h) {x : Nat} {a d : Addr} (e : μ x = some (a, d)) :
    (∃ oa, h.get? a = some oa ∧ ¬ Imm oa) ∧ (∃ od, h.get? d = some od ∧ ¬ Imm od) :=
  let ⟨_, _, f⟩ := R.obj x a d e; f.mut
theorem Rl.lt (R : Rl c μ σ h) {x : Nat} {a d : Addr} (e : μ x = some (a, d)) : a < h.objs.size ∧ d < h.objs.size :=
  let ⟨⟨_, f, _⟩, ⟨_, g, _⟩⟩ := R.mut e; ⟨Heap.lt_size f, Heap.lt_size g⟩
theorem Rl.immOff (R : Rl c μ σ h) {b : Addr} {o : Obj} (e : h.get? b = some o) (i : Imm o) : Off μ b := fun x a d f => by
  obtain ⟨⟨oa, ea, na⟩, ⟨od, ed, nd⟩⟩ := R.mut f
  exact ⟨fun q => by rw [q, ea] at e; cases e; exact na i, fun q => by rw [q, ed] at e; cases e; exact nd i⟩
theorem Rl.freshOff (R : Rl c μ σ h) {b : Addr} (hb : h.objs.size ≤ b) : Off μ b := fun x a d f => by
  have := R.lt f
  exact ⟨fun q => by rw [q] at hb; exact absurd this.1 (Nat.not_lt.mpr hb), fun q => by rw [q] at hb; exact absurd this.2 (Nat.not_lt.mpr hb)⟩
def TabOk (h : Heap) (q : Addr × Addr × Str) : Prop :=
  ∃ ps, h.get? q.2.1 = some (tabObj ps) ∧ TriplesOk ps.toList ∧ ∀ pos cv, codeAmong pos ps.toList = some cv → ∃ co oc vs t, cv = .ref co ∧ h.get? co = some oc ∧ oc.cls = .type "code" ∧ oc.data = .fields vs ∧ vs[1]? = some (.str q.2.2 t)
def TabsOk (c : Cx) (h : Heap) : Prop := ∀ q ∈ c.tabs, TabOk h q
theorem Rl.immTab {b : Addr} {o : Obj} (t : TabsOk c h) (e : h.get? b = some o) (i : Imm o) : ∀ q ∈ c.tabs, q.2.1 ≠ b := fun q hq z => by
  obtain ⟨ps, f, _⟩ := t q hq
  rw [z, e] at f; cases f
  rcases i.1 with i | i | i | i <;> cases i
theorem Stp.imm (S : Stp c μ h μ' h') (R : Rl c μ σ h) (t : TabsOk c h) : ∀ b o, Imm o → h.get? b = some o → h'.get? b = some o := fun b o i e => by
  obtain ⟨o', e', l⟩ := S.kept b o e (R.immOff e i) (Rl.immTab t e i)
  rcases l with rfl | ⟨⟨es, n, q⟩, _⟩
  · exact e'
  · have := i.2; rw [q] at this; exact this.elim
theorem Stp.vr (S : Stp c μ h μ' h') (R : Rl c μ σ h) (t : TabsOk c h) {v : V} {r : Value} (x : VR μ h v r) : VR μ' h' v r := VR.mono S.sub (S.imm R t) v r x
theorem Stp.vsr (S : Stp c μ h μ' h') (R : Rl c μ σ h) (t : TabsOk c h) {v : List V} {r : List Value} (x : VsR μ h v r) : VsR μ' h' v r := VsR.mono S.sub (S.imm R t) v r x
end
end Mine
open PySem PySem.W PySem.Calls PyProof.Rows PySem.Spec
set_option linter.unusedVariables false
namespace Mine
structure Lc (env : Env) (nm : List (Str × Nat)) (μ : Mp) (ρ : List V) (h : Heap) : Prop where
  ns : ∃ m, h.Ns env.locals m ∧ ∀ x i, nm.lookup x = some i → env.kindOf x = some .local → ∀ v, ρ[i]? = some v → v ≠ .undef → ∃ r, m x = some r ∧ VR μ h v r
  cl : ∀ x i, nm.lookup x = some i → (env.kindOf x = some .cell ∨ env.kindOf x = some .free) → ∃ ca ov, env.cells.lookup x = some ca ∧ h.IsCell ca ov ∧ ∀ v, ρ[i]? = some v → v ≠ .undef → ∃ r, ov = some r ∧ VR μ h v r
  offL : Off μ env.locals
  offC : ∀ q ∈ env.cells, Off μ q.2
  cA : ∀ q ∈ env.cells, ∃ ov, h.IsCell q.2 ov
  ap : ∀ x y cx cy, env.cells.lookup x = some cx → env.cells.lookup y = some cy → x ≠ y → cx ≠ cy
  one : ∀ x y i, nm.lookup x = some i → nm.lookup y = some i → x = y
def Fo (c : Cx) (μ : Mp) (l : List Env) (h : Heap) : Prop :=
  ∀ e ∈ l, e.scope.kind ≠ .module ∧ ∃ L m, e.frame = some L ∧ c.H0.get? L = none ∧ h.Ns L m ∧ Off μ L
structure St (c : Cx) (A : Around) (μ : Mp) (σ : Hp) (s : Shared) : Prop where
  rl : Rl c μ σ s.heap
  tb : TabsOk c s.heap
  fo : ∃ l, A.frames = some l ∧ Fo c μ l s.heap
  os : s.os = c.os
  gn : c.gp s.gens
structure Ev (c : Cx) (A : Around) (env : Env) (nm : List (Str × Nat)) (μ : Mp) (ρ : List V) (σ : Hp) (s : Shared) : Prop extends St c A μ σ s where
  lc : Lc env nm μ ρ s.heap
  hL : c.H0.get? env.locals = none
  hC : ∀ q ∈ env.cells, c.H0.get? q.2 = none
structure AOk (n : Nat) (A : Around) : Prop where
  hh : A.handled = none
  dp : A.depth + 4 * n + 8 ≤ recursionLimit
  un : A.units + 40 * n + 200 ≤ cLine
  gd : A.guards = some []
/-- room for a function's own body: its calls may go n deep -/
structure AB (n : Nat) (A : Around) : Prop where
  hh : A.handled = none
  dp : A.depth + 4 * n + 11 ≤ recursionLimit
  un : A.units + 40 * n + 237 ≤ cLine
  gd : A.guards = some []
theorem AB.ok {n : Nat} {A : Around} (h : AB n A) : AOk n A := ⟨h.hh, by have := h.dp; omega, by have := h.un; omega, h.gd⟩
theorem AOk.body {n : Nat} {A : Around} (h : AOk (n + 1) A) (env : Env) : AB n (A.deeper env) :=
  ⟨h.hh, by have := h.dp; show A.depth + 1 + _ + _ ≤ _; omega, by have := h.un; show A.units + 3 + _ + _ ≤ _; omega, h.gd⟩
theorem AB.more {n : Nat} {A A' : Around} (h : AB n A) (e1 : A'.handled = A.handled) (e2 : A'.guards = A.guards) (e3 : A'.depth ≤ A.depth + 2) (e4 : A'.units ≤ A.units + 30) : AOk n A' :=
  ⟨e1.trans h.hh, by have := h.dp; omega, by have := h.un; omega, e2.trans h.gd⟩
structure EOk (env : Env) (sc : Scope) : Prop where
  se : env.scope = sc
  kd : sc.kind = ScopeKind.function
  gl : env.globals = mainGlobals
  bi : env.builtins = builtinsNs
section
variable {c : Cx} {A : Around} {env : Env} {nm : List (Str × Nat)} {μ μ' : Mp} {ρ : List V} {σ σ' : Hp} {s s' : Shared} {h h' : Heap}
theorem Stp.ns (S : Stp c μ h μ' h') (t : TabsOk c h) {L : Addr} (o : Off μ L) {m : Str → Option Value} (hn : h.Ns L m) : h'.Ns L m := by
  obtain ⟨ob, es, ep, e, hd, r⟩ := hn
  obtain ⟨o', e', l⟩ := S.kept L ob e o fun q hq z => by
    obtain ⟨ps, f, _⟩ := t q hq
    rw [z, e] at f; cases f; cases hd
  refine ⟨o', es, ep, e', ?_, r⟩
  rcases l with rfl | ⟨_, sl, rfl⟩
  · exact hd
  · exact hd
theorem Stp.cell (S : Stp c μ h μ' h') (t : TabsOk c h) {L : Addr} (o : Off μ L) {v : Option Value} (hn : h.IsCell L v) : h'.IsCell L v := by
  obtain ⟨ob, e, hd⟩ := hn
  obtain ⟨o', e', l⟩ := S.kept L ob e o fun q hq z => by
    obtain ⟨ps, f, _⟩ := t q hq
    rw [z, e] at f; cases f; cases hd
  refine ⟨o', e', ?_⟩
  rcases l with rfl | ⟨_, sl, rfl⟩
  · exact hd
  · exact hd
theorem Stp.off (S : Stp c μ h μ' h') {b : Addr} (hb : b < h.objs.size) (o : Off μ b) : Off μ' b := fun x a d e => by
  cases q : μ x with
  | none =>
    have := S.new x a d e q
    exact ⟨fun z => by rw [z] at hb; exact absurd this.1 (Nat.not_le.mpr hb), fun z => by rw [z] at hb; exact absurd this.2 (Nat.not_le.mpr hb)⟩
  | some p =>
    obtain ⟨p1, p2⟩ := p
    have := S.sub _ _ q
    rw [e] at this; cases this
    exact o x a d q
theorem Stp.fo (S : Stp c μ h μ' h') (t : TabsOk c h) {l : List Env} (f : Fo c μ l h) : Fo c μ' l h' := fun e he => by
  obtain ⟨k, L, m, e1, e2, e3, e4⟩ := f e he
  exact ⟨k, L, m, e1, e2, S.ns t e4 e3, S.off e3.lt e4⟩
theorem IsCell_lt {L : Addr} {v : Option Value} (hn : h.IsCell L v) : L < h.objs.size := hn.lt
/-- cells alive -/
theorem Stp.lc (S : Stp c μ h μ' h') (R : Rl c μ σ h) (t : TabsOk c h) (l : Lc env nm μ ρ h) : Lc env nm μ' ρ h' where
  ns := by
    obtain ⟨m, hn, f⟩ := l.ns
    refine ⟨m, S.ns t l.offL hn, fun x i a b v d e => ?_⟩
    obtain ⟨r, g, z⟩ := f x i a b v d e
    exact ⟨r, g, S.vr R t z⟩
  cl := fun x i a b => by
    obtain ⟨ca, ov, e, f, g⟩ := l.cl x i a b
    refine ⟨ca, ov, e, S.cell t (l.offC (x, ca) (mem_of_lookup e)) f, fun v d e => ?_⟩
    obtain ⟨r, g, z⟩ := g v d e
    exact ⟨r, g, S.vr R t z⟩
  offL := by
    obtain ⟨m, hn, _⟩ := l.ns
    exact S.off hn.lt l.offL
  offC := fun q hq => S.off (let ⟨_, z⟩ := l.cA q hq; z.lt) (l.offC q hq)
  cA := fun q hq => let ⟨ov, z⟩ := l.cA q hq; ⟨ov, S.cell t (l.offC q hq) z⟩
  ap := l.ap
  one := l.one
end
end Mine
open PySem PySem.W PySem.Calls PyProof.Rows PySem.Spec
set_option linter.unusedVariables false
namespace Mine
/-! the small language -/
inductive BF where
  | len | range | int | isBool | isInt | floor | bool
  deriving DecidableEq
inductive BM where
  | append
  deriving DecidableEq
inductive MT where
  | nm (i : Nat)
  | tp (rev : Bool) (is : List Nat)
mutual
inductive ME where
  | cst (v : V)
  | loc (i : Nat)
  | bin (op : Operator) (a b : ME)
  | neg (a : ME)
  | bnot (a : ME)
  | bop (isAnd : Bool) (es : MEs)
  | cmp (op : CmpOp) (a b : ME)
  | cmp2 (a : ME) (o1 : CmpOp) (b : ME) (o2 : CmpOp) (d : ME)
  | ite (t : MC) (a b : ME)
  | bcall (f : BF) (as : MEs)
  | isi (f : BF) (a : ME)
  | fcall (f : Addr) (as : MEs) (kn : List Str) (ks : MEs)
  | lcall (i : Nat) (as : MEs)
  | meth (o : ME) (id : Nat) (as : MEs) (kn : List Str) (ks : MEs)
  | bmeth (o : ME) (m : BM) (as : MEs)
  | attr (o : ME) (id : Nat)
  | sub (o i : ME)
  | slc (o : ME) (lo hi st : MO)
  | list (es : MEs)
  | tup (es : MEs)
  | dict0
  | comp (own : List Nat) (s : MI) (g : MG)
  | lam (ld : LamD)
inductive MEs where
  | nil
  | cons (e : ME) (r : MEs)
inductive MO where
  | no
  | yes (e : ME)
/-- a test -/
inductive MC where
  | ex (e : ME)
  | bnot (t : MC)
  | bop (isAnd : Bool) (ts : MCs)
  | cmp2 (a : ME) (o1 : CmpOp) (b : ME) (o2 : CmpOp) (d : ME)
inductive MCs where
  | nil
  | cons (t : MC) (r : MCs)
inductive MI where
  | it (e : ME)
  | enum (e : ME)
inductive MG where
  | last (t : MT) (ifs : MCs) (elt : ME)
  | more (t : MT) (ifs : MCs) (s : MI) (g : MG)
end
mutual
inductive MS where
  | expr (e : ME)
  | asgn (t : MT) (e : ME)
  | asgnA (o : ME) (id : Nat) (e : ME)
  | asgnS (o i : ME) (e : ME)
  | asgnSl (o : ME) (lo hi : MO) (e : ME)
  | augN (i : Nat) (op : Operator) (e : ME)
  | augA (o : ME) (id : Nat) (op : Operator) (e : ME)
  | augS (o i : ME) (op : Operator) (e : ME)
  | ite (t : MC) (a b : MSs)
  | forr (t : MT) (s : MI) (b : MSs)
  | whl (t : MC) (b : MSs)
  | brk
  | cont
  | ret (e : ME)
  | retN
  | pass
  /-- raise TypeError(text + whole number) -/
  | raz (e : ME)
  /-- a statement that is never reached -/
  | dead
  /-- try: .. except C: return constant -/
  | tryR (b : MSs) (hs : List (String × V))
inductive MSs where
  | nil
  | cons (e : MS) (r : MSs)
end
inductive Fl where
  | next | brk | cont | ret (v : V)
abbrev XP := String → Hp → Prop
inductive FK where
  | fn (a : Addr)
  | lam (ld : LamD)
/-- what is known of the functions: how a call of each may be met -/
abbrev Fn := FK → List V → List (Str × V) → Hp → (V → Hp → Prop) → XP → Prop
inductive AK where
  | no | own (i : Nat) | prop (get : Addr) (set : Option Addr) | meth (f : Addr)
/-- the static facts that the small language asks -/
structure Sx where
  frz : Addr → Option (List V)
  nms : List Str
  ak : Addr → Nat → AK
def pLoc (ρ : List V) (i : Nat) (Q : V → Prop) : Prop := match ρ[i]? with
  | some v => ok v ∧ Q v
  | none => False
def pInt (op : Operator) (x y : Int) (Q : Int → Prop) : Prop := match op with
  | .Add => Q (x + y)
  | .Sub => Q (x - y)
  | .Mult => IntMulOk x y ∧ Q (x * y)
  | .FloorDiv => (y ≠ 0 ∧ (y.natAbs < 1073741824 ∨ y.natAbs.log2 < 9000)) ∧ Q (x.fdiv y)
  | .Mod => y ≠ 0 ∧ Q (x.fmod y)
  | .RShift => 0 ≤ y ∧ Q (x.fdiv (2 ^ y.toNat))
  | .LShift => (0 ≤ y ∧ y ≤ 1000000 ∧ x.natAbs < 2 ^ 64) ∧ Q (x * 2 ^ y.toNat)
  | .Pow => (0 ≤ y ∧ y ≤ 1000000 ∧ x.natAbs < 2 ^ 64) ∧ Q (x ^ y.toNat)
  | .BitAnd => Q (Builtin.bitAnd x y)
  | .BitOr => Q (Builtin.bitOr x y)
  | .BitXor => Q (Builtin.bitXor x y)
  | _ => False
/-- the items of a sequence -/
def items (S : Sx) (σ : Hp) : V → Option (List V)
  | .ref x => match σ.at_ x with
    | some (.list vs) => some vs
    | _ => none
  | .k (.ref a) => S.frz a
  | .tup vs => some vs
  | _ => none
def listItems (S : Sx) (σ : Hp) : V → Option (List V)
  | .ref x => match σ.at_ x with
    | some (.list vs) => some vs
    | _ => none
  | .k (.ref a) => S.frz a
  | _ => none
def pNew (σ : Hp) (o : O) (Q : V → Hp → Prop) : Prop := Q (.ref σ.nx) (σ.new o)
def pBin (S : Sx) (op : Operator) (a b : V) (σ : Hp) (Q : V → Hp → Prop) : Prop := match a, b with
  | .int x, .int y => match op with
    | .Div => y ≠ 0 ∧ Float64.isInf (Float64.ofFrac (decide (x < 0) != decide (y < 0)) x.natAbs y.natAbs) = false ∧ Q (.flt (Float64.ofFrac (decide (x < 0) != decide (y < 0)) x.natAbs y.natAbs)) σ
    | _ => pInt op x y fun z => Q (.int z) σ
  | .str x, .str y => op = .Add ∧ x.length + y.length ≤ lim ∧ Q (.str (x ++ y)) σ
  | .ref x, .int n => op = .Mult ∧ ∃ xs, items S σ (.ref x) = some xs ∧ 0 ≤ n ∧ (xs.length * n.toNat ≤ 16384 ∧ n < 2 ^ 40) ∧ pNew σ (.list ((List.replicate n.toNat xs).flatten)) Q
  | a, b => op = .Add ∧ ∃ xs ys, listItems S σ a = some xs ∧ listItems S σ b = some ys ∧ xs.length + ys.length ≤ lim ∧ pNew σ (.list (xs ++ ys)) Q
def pAug (op : Operator) (a b : V) (σ : Hp) (Q : V → Hp → Prop) : Prop := match a, b with
  | .int x, .int y => (op = .Add ∨ op = .Sub ∨ op = .BitOr ∨ op = .BitXor ∨ op = .BitAnd ∨ op = .RShift) ∧ pInt op x y fun z => Q (.int z) σ
  | _, _ => False
def pTruth (σ : Hp) (v : V) (Q : Bool → Hp → Prop) : Prop := match v with
  | .none => Q false σ
  | .bool b => Q b σ
  | .int i => Q (i != 0) σ
  | .ref x => match σ.at_ x with
    | some (.list vs) => Q (!vs.isEmpty) σ
    | _ => False
  | _ => False
mutual
/-- a value as data -/
inductive Rd (σ : Hp) : V → PyData → Prop where
  | none : Rd σ .none .none
  | bool (b) : Rd σ (.bool b) (.bool b)
  | int (i) : Rd σ (.int i) (.int i)
  | str (x) : Rd σ (.str x) (.str x)
  | list {x vs ds} : σ.at_ x = some (.list vs) → Rds σ vs ds → Rd σ (.ref x) (.list ds)
  | tup {vs ds} : Rds σ vs ds → Rd σ (.tup vs) (.tuple ds)
inductive Rds (σ : Hp) : List V → List PyData → Prop where
  | nil : Rds σ [] []
  | cons {v d vs ds} : Rd σ v d → Rds σ vs ds → Rds σ (v :: vs) (d :: ds)
end
def pEq (neg : Bool) (a b : V) (σ : Hp) (Q : V → Hp → Prop) : Prop := match a, b with
  | .int x, .int y => Q (.bool ((x == y) != neg)) σ
  | .bool x, .bool y => Q (.bool ((x == y) != neg)) σ
  | .str x, .str y => Q (.bool ((x == y) != neg)) σ
  | a, b => ∃ da db, Rd σ a da ∧ Rd σ b db ∧ SeqAt.shaped da = true ∧ SeqAt.shaped db = true ∧ Q (.bool (PyData.eqv da db != neg)) σ
def isNoneV : V → Option Bool
  | .undef => none
  | .none => some true
  | .k v => some (v == .none)
  | _ => some false
def pCmp (op : CmpOp) (a b : V) (σ : Hp) (Q : V → Hp → Prop) : Prop := match op with
  | .Lt => match a, b with | .int x, .int y => Q (.bool (decide (x < y))) σ | _, _ => False
  | .LtE => match a, b with | .int x, .int y => Q (.bool (decide (x ≤ y))) σ | _, _ => False
  | .Gt => match a, b with | .int x, .int y => Q (.bool (decide (y < x))) σ | _, _ => False
  | .GtE => match a, b with | .int x, .int y => Q (.bool (decide (y ≤ x))) σ | _, _ => False
  | .Eq => pEq false a b σ Q
  | .NotEq => pEq true a b σ Q
  | .Is => match a, b with
    | a, .none => ∃ r, isNoneV a = some r ∧ Q (.bool r) σ
    | _, _ => False
  | .IsNot => match a, b with
    | a, .none => ∃ r, isNoneV a = some r ∧ Q (.bool (!r)) σ
    | _, _ => False
  | _ => False
/-- a place in a sequence of n -/
def idx? (n : Nat) (i : Int) : Option Nat := if 0 ≤ i then (if i < n then some i.toNat else none) else if 0 ≤ i + n then some (i + n).toNat else none
def pSub (S : Sx) (o i : V) (σ : Hp) (Q : V → Hp → Prop) : Prop := match o, i with
  | .str x, .int i => ∃ k ch, idx? x.length i = some k ∧ x.cps[k]? = some ch ∧ x.length ≤ lim ∧ Q (.str ⟨#[ch]⟩) σ
  | .ref x, .int i => ∃ vs k v, items S σ (.ref x) = some vs ∧ idx? vs.length i = some k ∧ vs[k]? = some v ∧ ok v ∧ Q v σ
  | .k a, .int i => ∃ vs k v, items S σ (.k a) = some vs ∧ idx? vs.length i = some k ∧ vs[k]? = some v ∧ ok v ∧ Q v σ
  | .tup vs, .int i => ∃ k v, idx? vs.length i = some k ∧ vs[k]? = some v ∧ vs.length ≤ lim ∧ ok v ∧ Q v σ
  | _, _ => False
def optInt : V → Option (Option Int)
  | .none => some none
  | .int i => some (some i)
  | _ => none
/-- the part of a list that a slice picks -/
def sliceOf {α : Type} (xs : List α) (lo hi : Option Int) : List α :=
  let a := lo.elim 0 (clipAt xs.length)
  let b := hi.elim xs.length (clipAt xs.length)
  (xs.drop a).take (b - a)
def pSlc (S : Sx) (o lo hi st : V) (σ : Hp) (Q : V → Hp → Prop) : Prop :=
  ∃ l h, optInt lo = some l ∧ optInt hi = some h ∧ ∃ vs, listItems S σ o = some vs ∧
    ((st = .none ∧ pNew σ (.list (sliceOf vs l h)) Q) ∨ (st = .int (-1) ∧ l = none ∧ h = none ∧ pNew σ (.list vs.reverse) Q))
def pSetItem (o i v : V) (σ : Hp) (Q : Hp → Prop) : Prop := match o, i with
  | .ref x, .int i => match σ.at_ x with
    | some (.list vs) => ∃ k, idx? vs.length i = some k ∧ Q (σ.set x (.list (vs.set k v)))
    | some (.dict es) => es.length < 1000 ∧ Q (σ.set x (.dict ((i, v) :: es)))
    | _ => False
  | _, _ => False
/-- xs[a:b] = ys -/
def pSetSlc (o lo hi v : V) (σ : Hp) (Q : Hp → Prop) : Prop :=
  ∃ l h, optInt lo = some l ∧ optInt hi = some h ∧ match o, v with
    | .ref x, .ref y => x ≠ y ∧ ∃ vs ws, σ.at_ x = some (.list vs) ∧ σ.at_ y = some (.list ws) ∧
        (let a := l.elim 0 (clipAt vs.length); let b := h.elim vs.length (clipAt vs.length)
         a ≤ b ∧ ws.length = b - a ∧ Q (σ.set x (.list (vs.take a ++ ws ++ vs.drop b))))
    | _, _ => False
def pAttr (S : Sx) (Φ : Fn) (o : V) (id : Nat) (σ : Hp) (Q : V → Hp → Prop) (X : XP) : Prop := match o with
  | .ref x => match σ.at_ x with
    | some (.inst C fs) => match S.ak C id with
      | .own i => match fs[i]? with
        | some v => ok v ∧ Q v σ
        | none => False
      | .prop g _ => Φ (.fn g) [.ref x] [] σ Q fun _ _ => False
      | _ => False
    | _ => False
  | _ => False
def pSetAttr (S : Sx) (Φ : Fn) (o : V) (id : Nat) (v : V) (σ : Hp) (Q : Hp → Prop) (X : XP) : Prop := match o with
  | .ref x => match σ.at_ x with
    | some (.inst C fs) => match S.ak C id with
      | .own i => i < fs.length ∧ ok v ∧ Q (σ.set x (.inst C (fs.set i v)))
      | .prop _ (some f) => Φ (.fn f) [.ref x, v] [] σ (fun _ σ' => Q σ') X
      | _ => False
    | _ => False
  | _ => False
def pMeth (S : Sx) (o : V) (id : Nat) (σ : Hp) (K : Addr → Prop) : Prop := match o with
  | .ref x => match σ.at_ x with
    | some (.inst C _) => match S.ak C id with
      | .meth f => K f
      | _ => False
    | _ => False
  | _ => False
def pLcall (S : Sx) (Φ : Fn) (f : V) (as : List V) (σ : Hp) (Q : V → Hp → Prop) (X : XP) : Prop := match f with
  | .lam ld => Φ (.lam ld) as [] σ Q X
  | _ => False
def pBcall (S : Sx) (f : BF) (as : List V) (σ : Hp) (Q : V → Hp → Prop) : Prop := match f with
  | .len => match as with
    | [.str x] => x.length ≤ lim ∧ Q (.int x.length) σ
    | [.ref x] => ∃ vs, items S σ (.ref x) = some vs ∧ Q (.int vs.length) σ
    | [.k a] => ∃ vs, items S σ (.k a) = some vs ∧ Q (.int vs.length) σ
    | _ => False
  | .range => match as with
    | [.int b] => b.natAbs < 2 ^ 40 ∧ Q (.rng 0 b 1) σ
    | [.int a, .int b] => a.natAbs < 2 ^ 40 ∧ b.natAbs < 2 ^ 40 ∧ Q (.rng a b 1) σ
    | [.int a, .int b, .int d] => a.natAbs < 2 ^ 40 ∧ b.natAbs < 2 ^ 40 ∧ d.natAbs < 2 ^ 28 ∧ d ≠ 0 ∧ Q (.rng a b d) σ
    | _ => False
  | .int => match as with
    | [.int a] => Q (.int a) σ
    | _ => False
  | .isBool => match as with
    | [.bool _] => Q (.bool true) σ
    | [.int _] => Q (.bool false) σ
    | _ => False
  | .isInt => match as with
    | [.bool _] => Q (.bool true) σ
    | [.int _] => Q (.bool true) σ
    | [.str _] => Q (.bool false) σ
    | _ => False
  | .floor => match as with
    | [.flt x] => Float64.isFinite x = true ∧ Q (.int (Flt.toInt Float64.floorOf x)) σ
    | _ => False
  | .bool => False
def pBmeth (m : BM) (o : V) (as : List V) (σ : Hp) (Q : V → Hp → Prop) : Prop := match m, o, as with
  | .append, .ref x, [v] => ∃ vs, σ.at_ x = some (.list vs) ∧ vs.length < lim ∧ ok v ∧ Q .none (σ.set x (.list (vs ++ [v])))
  | _, _, _ => False
end Mine
open PySem PySem.W PySem.Calls PyProof.Rows PySem.Spec
set_option linter.unusedVariables false
namespace Mine
/-- a thing to go through -/
inductive It where
  | lst (x n : Nat)
  | frz (a : Addr) (vs : List V)
  | tup (vs : List V)
  | rng (a b d : Int)
  | str (x : Str)
  | enum (it : It)
def rngLen (a b d : Int) : Nat := (Builtin.Range.rangeSize a b d).toNat
def It.n : It → Nat
  | .lst _ n => n
  | .frz _ vs => vs.length
  | .tup vs => vs.length
  | .rng a b d => rngLen a b d
  | .str x => x.length
  | .enum it => it.n
def It.get : It → Nat → Hp → Option V
  | .lst x _, i, σ => match σ.at_ x with | some (.list ws) => ws[i]? | _ => none
  | .frz _ vs, i, _ => vs[i]?
  | .tup vs, i, _ => vs[i]?
  | .rng a _ d, i, _ => some (.int (a + i * d))
  | .str x, i, _ => (x.cps[i]?).map fun ch => .str ⟨#[ch]⟩
  | .enum it, i, σ => (it.get i σ).map fun v => .tup [.int i, v]
/-- a list has kept its length -/
def It.live : It → Hp → Prop
  | .lst x n, σ => ∃ ws, σ.at_ x = some (.list ws) ∧ ws.length = n
  | .enum it, σ => it.live σ
  | _, _ => True
def itOf (S : Sx) (σ : Hp) : V → Option It
  | .ref x => match σ.at_ x with
    | some (.list vs) => some (.lst x vs.length)
    | _ => none
  | .k (.ref a) => (S.frz a).map fun vs => .frz a vs
  | .tup vs => some (.tup vs)
  | .rng a b d => some (.rng a b d)
  | .str x => some (.str x)
  | _ => none
def enumOf (it : It) : It := .enum it
def isLst : It → Bool
  | .lst .. => true
  | .frz .. => true
  | _ => false
def itOk : It → Prop
  | .rng a b d => Builtin.Range.small a b d = true
  | .str x => x.cps.all (· < 128) = true
  | _ => True
def unp (σ : Hp) : V → Option (List V)
  | .tup vs => some vs
  | .ref x => match σ.at_ x with
    | some (.list vs) => some vs
    | _ => none
  | _ => none
def putAll (ρ : List V) : List (Nat × V) → List V
  | [] => ρ
  | p :: r => putAll (ρ.set p.1 p.2) r
def pAssign (t : MT) (v : V) (ρ : List V) (σ : Hp) (Q : List V → Prop) : Prop := match t with
  | .nm i => ok v ∧ i < ρ.length ∧ Q (ρ.set i v)
  | .tp rev is => ∃ vs, unp σ v = some vs ∧ vs.length = is.length ∧ (∀ v ∈ vs, ok v) ∧ (∀ i ∈ is, i < ρ.length) ∧ Q (putAll ρ (if rev then is.reverse.zip vs.reverse else is.zip vs))
/-- a loop: the rest of its turns (k) from turn i on -/
def wpLoop (it : It) (body : V → List V → Hp → (Fl → List V → Hp → Prop) → Prop) (Q : Fl → List V → Hp → Prop) : Nat → Nat → List V → Hp → Prop
  | 0, _, ρ, σ => it.live σ ∧ Q .next ρ σ
  | k + 1, i, ρ, σ => it.live σ ∧ ∃ v, it.get i σ = some v ∧ ok v ∧ body v ρ σ fun fl ρ' σ' => match fl with
    | .next => wpLoop it body Q k (i + 1) ρ' σ'
    | .cont => wpLoop it body Q k (i + 1) ρ' σ'
    | .brk => Q .next ρ' σ'
    | .ret v => Q (.ret v) ρ' σ'
def clr (own : List Nat) (ρ : List V) : List V := own.foldl (fun ρ i => ρ.set i .undef) ρ
/-- a comprehension's clause: what has been gathered grows -/
def wpGather (it : It) (body : V → List V → List V → Hp → (List V → List V → Hp → Prop) → Prop) (Q : List V → List V → Hp → Prop) : Nat → Nat → List V → List V → Hp → Prop
  | 0, _, acc, ρ, σ => it.live σ ∧ Q acc ρ σ
  | k + 1, i, acc, ρ, σ => it.live σ ∧ ∃ v, it.get i σ = some v ∧ ok v ∧ body v acc ρ σ fun acc' ρ' σ' => wpGather it body Q k (i + 1) acc' ρ' σ'
def wpWhile (test : List V → Hp → (Bool → Hp → Prop) → Prop) (body : List V → Hp → (Fl → List V → Hp → Prop) → Prop) (Q : Fl → List V → Hp → Prop) : Nat → List V → Hp → Prop
  | 0, _, _ => False
  | n + 1, ρ, σ => test ρ σ fun b σ' => match b with
    | false => Q .next ρ σ'
    | true => body ρ σ' fun fl ρ' σ'' => match fl with
      | .next => wpWhile test body Q n ρ' σ''
      | .cont => wpWhile test body Q n ρ' σ''
      | .brk => Q .next ρ' σ''
      | .ret v => Q (.ret v) ρ' σ''
section
variable (S : Sx) (Φ : Fn)
mutual
def wpE : ME → List V → Hp → (V → Hp → Prop) → XP → Prop
  | .cst v, _, σ, Q, _ => Q v σ
  | .loc i, ρ, σ, Q, _ => pLoc ρ i fun v => Q v σ
  | .bin op a b, ρ, σ, Q, X => wpE a ρ σ (fun va σ₁ => wpE b ρ σ₁ (fun vb σ₂ => pBin S op va vb σ₂ Q) X) X
  | .neg a, ρ, σ, Q, X => wpE a ρ σ (fun v σ₁ => match v with | .int i => Q (.int (-i)) σ₁ | _ => False) X
  | .bnot a, ρ, σ, Q, X => wpE a ρ σ (fun v σ₁ => pTruth σ₁ v fun b σ₂ => Q (.bool (!b)) σ₂) X
  | .bop k es, ρ, σ, Q, X => wpB k es ρ σ Q X
  | .cmp op a b, ρ, σ, Q, X => wpE a ρ σ (fun va σ₁ => wpE b ρ σ₁ (fun vb σ₂ => pCmp op va vb σ₂ Q) X) X
  | .cmp2 a o1 b o2 d, ρ, σ, Q, X => wpE a ρ σ (fun va σ₁ => wpE b ρ σ₁ (fun vb σ₂ => pCmp o1 va vb σ₂ fun r σ₃ =>
      match r with
      | .bool false => Q (.bool false) σ₃
      | .bool true => wpE d ρ σ₃ (fun vd σ₄ => pCmp o2 vb vd σ₄ Q) X
      | _ => False) X) X
  | .ite t a b, ρ, σ, Q, X => wpT t ρ σ (fun r σ₁ => match r with | true => wpE a ρ σ₁ Q X | false => wpE b ρ σ₁ Q X) X
  | .bcall f as, ρ, σ, Q, X => wpEs as ρ σ (fun vs σ₁ => pBcall S f vs σ₁ Q) X
  | .isi f a, ρ, σ, Q, X => wpE a ρ σ (fun v σ₁ => pBcall S f [v] σ₁ Q) X
  | .fcall f as kn ks, ρ, σ, Q, X => wpEs as ρ σ (fun vs σ₁ => wpEs ks ρ σ₁ (fun ws σ₂ => Φ (.fn f) vs (kn.zip ws) σ₂ Q X) X) X
  | .lcall i as, ρ, σ, Q, X => pLoc ρ i fun f => (∃ ld, f = .lam ld) ∧ wpEs as ρ σ (fun vs σ₁ => pLcall S Φ f vs σ₁ Q X) X
  | .meth o id as kn ks, ρ, σ, Q, X => wpE o ρ σ (fun vo σ₁ => pMeth S vo id σ₁ fun f => wpEs as ρ σ₁ (fun vs σ₂ => wpEs ks ρ σ₂ (fun ws σ₃ => Φ (.fn f) (vo :: vs) (kn.zip ws) σ₃ Q X) X) X) X
  | .bmeth o m as, ρ, σ, Q, X => wpE o ρ σ (fun vo σ₁ => (∃ x vs, vo = .ref x ∧ σ₁.at_ x = some (.list vs)) ∧ wpEs as ρ σ₁ (fun vs σ₂ => pBmeth m vo vs σ₂ Q) X) X
  | .attr o id, ρ, σ, Q, X => wpE o ρ σ (fun vo σ₁ => pAttr S Φ vo id σ₁ Q X) X
  | .sub o i, ρ, σ, Q, X => wpE o ρ σ (fun vo σ₁ => wpE i ρ σ₁ (fun vi σ₂ => pSub S vo vi σ₂ Q) X) X
  | .slc o lo hi st, ρ, σ, Q, X => wpE o ρ σ (fun vo σ₁ => wpO lo ρ σ₁ (fun l σ₂ => wpO hi ρ σ₂ (fun h σ₃ => wpO st ρ σ₃ (fun t σ₄ => pSlc S vo l h t σ₄ Q) X) X) X) X
  | .list es, ρ, σ, Q, X => wpEs es ρ σ (fun vs σ₁ => vs.length ≤ lim ∧ pNew σ₁ (.list vs) Q) X
  | .tup es, ρ, σ, Q, X => wpEs es ρ σ (fun vs σ₁ => vs.length ≤ lim ∧ Q (.tup vs) σ₁) X
  | .dict0, _, σ, Q, _ => pNew σ (.dict []) Q
  | .comp own s g, ρ, σ, Q, _ => wpI s ρ σ fun it σ₁ => wpGather it (fun v acc ρ σ K => wpG g v acc ρ σ K) (fun acc _ σ₂ => acc.length ≤ lim ∧ pNew σ₂ (.list acc) Q) it.n 0 [] (clr own ρ) σ₁
  | .lam ld, _, σ, Q, _ => Q (.lam ld) σ
def wpEs : MEs → List V → Hp → (List V → Hp → Prop) → XP → Prop
  | .nil, _, σ, Q, _ => Q [] σ
  | .cons e r, ρ, σ, Q, X => wpE e ρ σ (fun v σ₁ => wpEs r ρ σ₁ (fun vs σ₂ => Q (v :: vs) σ₂) X) X
def wpO : MO → List V → Hp → (V → Hp → Prop) → XP → Prop
  | .no, _, σ, Q, _ => Q .none σ
  | .yes e, ρ, σ, Q, X => wpE e ρ σ Q X
/-- and | or, as a value -/
def wpB : Bool → MEs → List V → Hp → (V → Hp → Prop) → XP → Prop
  | _, .nil, _, _, _, _ => False
  | _, .cons e .nil, ρ, σ, Q, X => wpE e ρ σ Q X
  | k, .cons e r, ρ, σ, Q, X => wpE e ρ σ (fun v σ₁ => pTruth σ₁ v fun b σ₂ => match b == k with | true => wpB k r ρ σ₂ Q X | false => Q v σ₂) X
def wpT : MC → List V → Hp → (Bool → Hp → Prop) → XP → Prop
  | .ex e, ρ, σ, Q, X => wpE e ρ σ (fun v σ₁ => pTruth σ₁ v Q) X
  | .bnot a, ρ, σ, Q, X => wpT a ρ σ (fun b σ₁ => Q (!b) σ₁) X
  | .bop k es, ρ, σ, Q, X => wpTs k es ρ σ Q X
  | .cmp2 a o1 b o2 d, ρ, σ, Q, X => wpE a ρ σ (fun va σ₁ => wpE b ρ σ₁ (fun vb σ₂ => pCmp o1 va vb σ₂ fun r σ₃ =>
      match r with
      | .bool false => Q false σ₃
      | .bool true => wpE d ρ σ₃ (fun vd σ₄ => pCmp o2 vb vd σ₄ fun r σ₅ => pTruth σ₅ r Q) X
      | _ => False) X) X
def wpTs : Bool → MCs → List V → Hp → (Bool → Hp → Prop) → XP → Prop
  | k, .nil, _, σ, Q, _ => Q k σ
  | k, .cons e r, ρ, σ, Q, X => wpT e ρ σ (fun b σ₁ => match b == k with | true => wpTs k r ρ σ₁ Q X | false => Q b σ₁) X
/-- what a clause does with one item -/
def wpG : MG → V → List V → List V → Hp → (List V → List V → Hp → Prop) → Prop
  | .last t ifs elt, v, acc, ρ, σ, K => pAssign t v ρ σ fun ρ₁ => wpTs true ifs ρ₁ σ (fun b σ₂ => match b with
      | true => wpE elt ρ₁ σ₂ (fun v σ₃ => ok v ∧ acc.length < lim ∧ K (acc ++ [v]) ρ₁ σ₃) (fun _ _ => False)
      | false => K acc ρ₁ σ₂) (fun _ _ => False)
  | .more t ifs s g, v, acc, ρ, σ, K => pAssign t v ρ σ fun ρ₁ => wpTs true ifs ρ₁ σ (fun b σ₂ => match b with
      | true => wpI s ρ₁ σ₂ fun it σ₃ => wpGather it (fun v acc ρ σ K => wpG g v acc ρ σ K) K it.n 0 acc ρ₁ σ₃
      | false => K acc ρ₁ σ₂) (fun _ _ => False)
def wpI : MI → List V → Hp → (It → Hp → Prop) → Prop
  | .it e, ρ, σ, Q => wpE e ρ σ (fun v σ₁ => ∃ it, itOf S σ₁ v = some it ∧ itOk it ∧ Q it σ₁) (fun _ _ => False)
  | .enum e, ρ, σ, Q => wpE e ρ σ (fun v σ₁ => ∃ it, itOf S σ₁ v = some it ∧ isLst it = true ∧ Q (enumOf it) σ₁) (fun _ _ => False)
end
mutual
def wpS : MS → List V → Hp → (Fl → List V → Hp → Prop) → XP → Prop
  | .expr e, ρ, σ, Q, X => wpE S Φ e ρ σ (fun _ σ₁ => Q .next ρ σ₁) X
  | .asgn t e, ρ, σ, Q, X => wpE S Φ e ρ σ (fun v σ₁ => pAssign t v ρ σ₁ fun ρ₁ => Q .next ρ₁ σ₁) X
  | .asgnA o id e, ρ, σ, Q, X => wpE S Φ e ρ σ (fun v σ₁ => wpE S Φ o ρ σ₁ (fun vo σ₂ => pSetAttr S Φ vo id v σ₂ (fun σ₃ => Q .next ρ σ₃) X) X) X
  | .asgnS o i e, ρ, σ, Q, X => wpE S Φ e ρ σ (fun v σ₁ => wpE S Φ o ρ σ₁ (fun vo σ₂ => wpE S Φ i ρ σ₂ (fun vi σ₃ => ok v ∧ pSetItem vo vi v σ₃ fun σ₄ => Q .next ρ σ₄) X) X) X
  | .asgnSl o lo hi e, ρ, σ, Q, X => wpE S Φ e ρ σ (fun v σ₁ => wpE S Φ o ρ σ₁ (fun vo σ₂ => wpO S Φ lo ρ σ₂ (fun l σ₃ => wpO S Φ hi ρ σ₃ (fun h σ₄ => pSetSlc vo l h v σ₄ fun σ₅ => Q .next ρ σ₅) X) X) X) X
  | .augN i op e, ρ, σ, Q, X => pLoc ρ i fun v => wpE S Φ e ρ σ (fun w σ₁ => pAug op v w σ₁ fun r σ₂ => ok r ∧ i < ρ.length ∧ Q .next (ρ.set i r) σ₂) X
  | .augA o id op e, ρ, σ, Q, X => wpE S Φ o ρ σ (fun vo σ₁ => pAttr S Φ vo id σ₁ (fun v σ₂ => wpE S Φ e ρ σ₂ (fun w σ₃ => pAug op v w σ₃ fun r σ₄ => pSetAttr S Φ vo id r σ₄ (fun σ₅ => Q .next ρ σ₅) X) X) X) X
  | .augS o i op e, ρ, σ, Q, X => wpE S Φ o ρ σ (fun vo σ₁ => wpE S Φ i ρ σ₁ (fun vi σ₂ => pSub S vo vi σ₂ fun v σ₃ => wpE S Φ e ρ σ₃ (fun w σ₄ => pAug op v w σ₄ fun r σ₅ => ok r ∧ pSetItem vo vi r σ₅ fun σ₆ => Q .next ρ σ₆) X) X) X
  | .ite t a b, ρ, σ, Q, X => wpT S Φ t ρ σ (fun r σ₁ => match r with | true => wpSs a ρ σ₁ Q X | false => wpSs b ρ σ₁ Q X) X
  | .forr t s b, ρ, σ, Q, _ => wpI S Φ s ρ σ fun it σ₁ => wpLoop it (fun v ρ σ K => pAssign t v ρ σ fun ρ₁ => wpSs b ρ₁ σ K (fun _ _ => False)) Q it.n 0 ρ σ₁
  | .whl t b, ρ, σ, Q, _ => ∃ n, wpWhile (fun ρ σ K => wpT S Φ t ρ σ K (fun _ _ => False)) (fun ρ σ K => wpSs b ρ σ K (fun _ _ => False)) Q n ρ σ
  | .brk, ρ, σ, Q, _ => Q .brk ρ σ
  | .cont, ρ, σ, Q, _ => Q .cont ρ σ
  | .ret e, ρ, σ, Q, X => wpE S Φ e ρ σ (fun v σ₁ => ok v ∧ Q (.ret v) ρ σ₁) X
  | .retN, ρ, σ, Q, _ => Q (.ret .none) ρ σ
  | .pass, ρ, σ, Q, _ => Q .next ρ σ
  | .raz e, ρ, σ, _, X => wpE S Φ e ρ σ (fun v σ₁ => (∃ i, v = .int i) ∧ X "TypeError" σ₁) X
  | .dead, _, _, _, _ => False
  | .tryR b hs, ρ, σ, Q, X => wpSs b ρ σ Q fun x σ' => match hs.lookup x with
    | some v => ok v ∧ ∀ ρ', Q (.ret v) ρ' σ'
    | none => False
def wpSs : MSs → List V → Hp → (Fl → List V → Hp → Prop) → XP → Prop
  | .nil, ρ, σ, Q, _ => Q .next ρ σ
  | .cons s r, ρ, σ, Q, X => wpS s ρ σ (fun fl ρ₁ σ₁ => match fl with
    | .next => wpSs r ρ₁ σ₁ Q X
    | fl => Q fl ρ₁ σ₁) X
end
end
end Mine
open PySem PySem.W PySem.Calls PyProof.Rows PySem.Spec
set_option linter.unusedVariables false
namespace Mine
section
variable {c : Cx} {A : Around} {env : Env} {nm : List (Str × Nat)} {μ μ' : Mp} {ρ : List V} {σ σ' : Hp} {s s' : Shared} {h h' : Heap}
theorem OR.mono {o : O} {a d : Addr} (x : OR c μ h o a d) (hs : Sub μ μ') (ka : ∀ oa, h.get? a = some oa → h'.get? a = some oa) (kd : ∀ oa, h.get? d = some oa → h'.get? d = some oa)
    (ki : ∀ b o, Imm o → h.get? b = some o → h'.get? b = some o) : OR c μ' h' o a d := by
  cases o with
  | list vs =>
    obtain ⟨rfl, l, its, n, e, r⟩ := x
    exact ⟨rfl, l, its, n, ka _ e, VsR.mono hs ki _ _ r⟩
  | inst C fs =>
    obtain ⟨e, ⟨od, ed, cd⟩, ln, nd, m, hn, w, f⟩ := x
    refine ⟨ka _ e, ⟨od, kd _ ed, cd⟩, ln, nd, m, hn.at kd, w, fun i v q => ?_⟩
    obtain ⟨nm, e1, e2⟩ := f i v q
    exact ⟨nm, e1, e2.imp id fun ⟨o, r, y, z⟩ => ⟨o, r, y, VR.mono hs ki _ _ z⟩⟩
  | dict es =>
    obtain ⟨rfl, ⟨od, ed, cd⟩, ln, f, ⟨o, ents, ep, e1, e2, e3, e4⟩, le, r⟩ := x
    refine ⟨rfl, ⟨od, ka _ ed, cd⟩, ln, f, ⟨o, ents, ep, ka _ e1, e2, e3, e4⟩, le.of_same e1 (ka _ e1), fun k => ?_⟩
    have := r k
    split at this
    · exact this
    · exact ⟨this.1, let ⟨r, y, z⟩ := this.2; ⟨r, y, VR.mono hs ki _ _ z⟩⟩
theorem Rl.keeps (R : Rl c μ σ h) (k : ∀ b o, h.get? b = some o → h'.get? b = some o) : Rl c μ σ h' where
  base := fun b o e => k _ _ (R.base b o e)
  dom := R.dom
  fresh := R.fresh
  obj := fun x a d e => let ⟨o, y, z⟩ := R.obj x a d e; ⟨o, y, z.mono (fun _ _ q => q) (fun _ q => k _ _ q) (fun _ q => k _ _ q) fun _ _ _ q => k _ _ q⟩
  inj := R.inj
  off := R.off
theorem Stp.keeps (k : ∀ b o, h.get? b = some o → h'.get? b = some o) (hz : h.objs.size ≤ h'.objs.size) : Stp c μ h μ h' :=
  ⟨fun _ _ e => e, fun x a d e f => (by rw [f] at e; cases e), fun b o e _ _ => ⟨o, k b o e, .refl o⟩, hz⟩
theorem TabsOk.keeps (t : TabsOk c h) (k : ∀ b o, h.get? b = some o → h'.get? b = some o) : TabsOk c h' := fun q hq =>
  let ⟨ps, e, f, g⟩ := t q hq
  ⟨ps, k _ _ e, f, fun pos cv z => let ⟨co, oc, vs, t, a1, a2, a3⟩ := g pos cv z; ⟨co, oc, vs, t, a1, k _ _ a2, a3⟩⟩
theorem St.step (x : St c A μ σ s) (S : Stp c μ s.heap μ' s'.heap) (R : Rl c μ' σ' s'.heap) (t : TabsOk c s'.heap) (ho : s'.os = s.os) (hg : c.gp s'.gens) : St c A μ' σ' s' where
  rl := R
  tb := t
  fo := let ⟨l, e, f⟩ := x.fo; ⟨l, e, S.fo x.tb f⟩
  os := ho.trans x.os
  gn := hg
theorem Ev.back (x : Ev c A env nm μ ρ σ s) (S : Stp c μ s.heap μ' s'.heap) (y : St c A μ' σ' s') : Ev c A env nm μ' ρ σ' s' := ⟨y, S.lc x.rl x.tb x.lc, x.hL, x.hC⟩
theorem Ev.step (x : Ev c A env nm μ ρ σ s) (S : Stp c μ s.heap μ' s'.heap) (R : Rl c μ' σ' s'.heap) (t : TabsOk c s'.heap) (ho : s'.os = s.os) (hg : c.gp s'.gens) : Ev c A env nm μ' ρ σ' s' :=
  x.back S (x.toSt.step S R t ho hg)
theorem Ev.keeps {tk : Nat} (x : Ev c A env nm μ ρ σ s) (k : ∀ b o, s.heap.get? b = some o → h'.get? b = some o) (hz : s.heap.objs.size ≤ h'.objs.size) : Ev c A env nm μ ρ σ { s with heap := h', toks := tk } :=
  x.step (Stp.keeps k hz) (x.rl.keeps k) (x.tb.keeps k) rfl x.gn
theorem Ev.tok {tk : Nat} (x : Ev c A env nm μ ρ σ s) : Ev c A env nm μ ρ σ { s with toks := tk } := x.keeps (fun _ _ e => e) (Nat.le_refl _)
theorem Ev.push {tk : Nat} (x : Ev c A env nm μ ρ σ s) (o : Obj) : Ev c A env nm μ ρ σ { s with heap := s.heap.push o, toks := tk } :=
  x.keeps (fun _ _ e => Heap.get?_push_of_some _ e) (by rw [Heap.size_push]; exact Nat.le_succ _)
theorem Stp.push (o : Obj) : Stp c μ h μ (h.push o) := Stp.keeps (fun _ _ e => Heap.get?_push_of_some _ e) (by rw [Heap.size_push]; exact Nat.le_succ _)
def Mp.new (μ : Mp) (x : Nat) (a d : Addr) : Mp := fun y => if y = x then some (a, d) else μ y
theorem Rl.nx_none (R : Rl c μ σ h) : μ σ.nx = none := by
  have e := R.dom σ.nx
  rw [R.fresh σ.nx (Nat.le_refl _)] at e
  cases q : μ σ.nx with
  | none => rfl
  | some p => rw [q] at e; cases e
theorem Sub.new (R : Rl c μ σ h) (a d : Addr) : Sub μ (μ.new σ.nx a d) := fun x p e => by
  unfold Mp.new
  by_cases q : x = σ.nx
  · rw [q, R.nx_none] at e; cases e
  · rw [if_neg q]; exact e
theorem Rl.tabLt (t : TabsOk c h) : ∀ q ∈ c.tabs, q.2.1 < h.objs.size := fun q hq => let ⟨_, e, _⟩ := t q hq; Heap.lt_size e
theorem Rl.h0_none (R : Rl c μ σ h) {b : Addr} (hb : h.objs.size ≤ b) : c.H0.get? b = none := by
  cases q : c.H0.get? b with
  | none => rfl
  | some o => exact absurd (Heap.lt_size (R.base _ _ q)) (Nat.not_lt.mpr hb)
/-- a new object of the small heap, laid at fresh addresses of a heap that keeps all -/
theorem Rl.alloc (R : Rl c μ σ h) (t : TabsOk c h) (k : ∀ b o, h.get? b = some o → h'.get? b = some o) {o : O} {a d : Addr} (ha : h.objs.size ≤ a) (hd : h.objs.size ≤ d)
    (ho : OR c (μ.new σ.nx a d) h' o a d) : Rl c (μ.new σ.nx a d) (σ.new o) h' where
  base := fun b o e => k _ _ (R.base b o e)
  dom := fun x => by
    unfold Mp.new Hp.new
    by_cases q : x = σ.nx
    · simp [q]
    · simp [q, R.dom x]
  fresh := fun x hx => by
    unfold Hp.new at hx ⊢
    have : x ≠ σ.nx := by have : σ.nx + 1 ≤ x := hx; omega
    simp only [this, if_false]
    exact R.fresh x (by have : σ.nx + 1 ≤ x := hx; omega)
  obj := fun x a' d' e => by
    unfold Mp.new at e
    by_cases q : x = σ.nx
    · rw [if_pos q] at e; cases e
      exact ⟨o, by simp [Hp.new, q], ho⟩
    · rw [if_neg q] at e
      obtain ⟨o', y, z⟩ := R.obj x a' d' e
      exact ⟨o', by simp [Hp.new, q, y], z.mono (Sub.new R a d) (fun _ q => k _ _ q) (fun _ q => k _ _ q) fun _ _ _ q => k _ _ q⟩
  inj := fun x y a1 d1 a2 d2 e1 e2 hne => by
    unfold Mp.new at e1 e2
    by_cases q : x = σ.nx
    · rw [if_pos q] at e1; cases e1
      rw [if_neg (fun w => hne (q.trans w.symm))] at e2
      have := R.lt e2
      exact ⟨Nat.ne_of_gt (Nat.lt_of_lt_of_le this.1 ha), Nat.ne_of_gt (Nat.lt_of_lt_of_le this.2 ha), Nat.ne_of_gt (Nat.lt_of_lt_of_le this.1 hd), Nat.ne_of_gt (Nat.lt_of_lt_of_le this.2 hd)⟩
    · rw [if_neg q] at e1
      by_cases q2 : y = σ.nx
      · rw [if_pos q2] at e2; cases e2
        have := R.lt e1
        exact ⟨Nat.ne_of_lt (Nat.lt_of_lt_of_le this.1 ha), Nat.ne_of_lt (Nat.lt_of_lt_of_le this.1 hd), Nat.ne_of_lt (Nat.lt_of_lt_of_le this.2 ha), Nat.ne_of_lt (Nat.lt_of_lt_of_le this.2 hd)⟩
      · rw [if_neg q2] at e2
        exact R.inj x y _ _ _ _ e1 e2 hne
  off := fun x a' d' e => by
    unfold Mp.new at e
    by_cases q : x = σ.nx
    · rw [if_pos q] at e; cases e
      exact ⟨R.h0_none ha, R.h0_none hd, fun q hq => ⟨Nat.ne_of_lt (Nat.lt_of_lt_of_le (Rl.tabLt t q hq) ha), Nat.ne_of_lt (Nat.lt_of_lt_of_le (Rl.tabLt t q hq) hd)⟩⟩
    · rw [if_neg q] at e
      exact R.off x _ _ e
theorem Stp.alloc (R : Rl c μ σ h) (k : ∀ b o, h.get? b = some o → h'.get? b = some o) {a d : Addr} (ha : h.objs.size ≤ a) (hd : h.objs.size ≤ d) (hz : h.objs.size ≤ h'.objs.size) : Stp c μ h (μ.new σ.nx a d) h' where
  sub := Sub.new R a d
  new := fun x a' d' e f => by
    unfold Mp.new at e
    by_cases q : x = σ.nx
    · rw [if_pos q] at e; cases e; exact ⟨ha, hd⟩
    · rw [if_neg q, f] at e; cases e
  kept := fun b o e _ _ => ⟨o, k b o e, .refl o⟩
  size := hz
theorem Mp.new_self (μ : Mp) (x : Nat) (a d : Addr) : μ.new x a d x = some (a, d) := by simp [Mp.new]
/-- one object changed -/
theorem Rl.set (R : Rl c μ σ h) {x : Nat} {a d : Addr} (e : μ x = some (a, d)) (k : ∀ b o, b ≠ a → b ≠ d → h.get? b = some o → h'.get? b = some o) {o : O} (ho : OR c μ h' o a d) : Rl c μ (σ.set x o) h' where
  base := fun b ob q => by
    have f := R.off x a d e
    refine k _ _ (fun z => ?_) (fun z => ?_) (R.base b ob q)
    · rw [z, f.1] at q; cases q
    · rw [z, f.2.1] at q; cases q
  dom := fun y => by
    unfold Hp.set
    by_cases q : y = x
    · subst q; simp [e]
    · simp [q, R.dom y]
  fresh := fun y hy => by
    unfold Hp.set at hy ⊢
    have : y ≠ x := fun q => by
      subst q
      have := R.dom y
      rw [R.fresh y hy, e] at this; cases this
    simp only [this, if_false]
    exact R.fresh y hy
  obj := fun y a' d' f => by
    by_cases q : y = x
    · subst q
      rw [e] at f; cases f
      exact ⟨o, by simp [Hp.set], ho⟩
    · obtain ⟨o', u, z⟩ := R.obj y a' d' f
      have i := R.inj y x a' d' a d f e q
      refine ⟨o', by simp [Hp.set, q, u], z.mono (fun _ _ w => w) (fun _ w => k _ _ i.1 i.2.1 w) (fun _ w => k _ _ i.2.2.1 i.2.2.2 w) fun b ob im w => ?_⟩
      have := R.immOff w im x a d e
      exact k _ _ this.1 this.2 w
  inj := R.inj
  off := R.off
theorem Stp.set {x : Nat} {a d : Addr} (e : μ x = some (a, d)) (k : ∀ b o, b ≠ a → b ≠ d → h.get? b = some o → h'.get? b = some o) (hz : h.objs.size ≤ h'.objs.size) : Stp c μ h μ h' :=
  ⟨fun _ _ e => e, fun x a d e f => (by rw [f] at e; cases e), fun b o q off _ => ⟨o, k b o (off x a d e).1 (off x a d e).2 q, .refl o⟩, hz⟩
theorem TabsOk.set (t : TabsOk c h) (R : Rl c μ σ h) {x : Nat} {a d : Addr} (e : μ x = some (a, d)) (k : ∀ b o, b ≠ a → b ≠ d → h.get? b = some o → h'.get? b = some o) : TabsOk c h' := fun q hq => by
  obtain ⟨ps, f, f1, g⟩ := t q hq
  have := (R.off x a d e).2.2 q hq
  refine ⟨ps, k _ _ this.1 this.2 f, f1, fun pos cv z => ?_⟩
  obtain ⟨co, oc, vs, t, a1, a2, a3, a4, a5⟩ := g pos cv z
  have i := R.immOff a2 ⟨.inr (.inr (.inr a3)), by rw [a4]; trivial⟩ x a d e
  exact ⟨co, oc, vs, t, a1, k _ _ i.1 i.2 a2, a3, a4, a5⟩
end
def iterCls : List String := ["list_iterator", "tuple_iterator", "range_iterator", "str_ascii_iterator", "enumerate"]
/-- an object that is none of those that a state's facts speak of -/
def Othr (o : Obj) : Prop := ¬ Imm o ∧ (∀ ps, o ≠ tabObj ps) ∧ NotDC o.data
theorem Othr.iter {o : Obj} {vs : Array Value} {T : String} (d : o.data = .fields vs) (cl : o.cls = .type T) (m : T ∈ iterCls) : Othr o := by
  refine ⟨fun i => ?_, fun ps e => ?_, by rw [d]; trivial⟩
  · rcases i.1 with i | i | i | i <;> (rw [i] at cl; cases cl; revert m; decide)
  · rw [e] at cl; cases cl
theorem Othr.list {its : Array Value} {n : Nat} : Othr (listOf its n) := ⟨by simp [Imm], ⟨fun ps e => (by cases e), trivial⟩⟩
structure Priv (c : Cx) (μ : Mp) (h : Heap) (I : Addr) : Prop where
  h0 : c.H0.get? I = none
  off : Off μ I
  ob : ∃ o, h.get? I = some o ∧ Othr o
section
variable {c : Cx} {A : Around} {env : Env} {nm : List (Str × Nat)} {μ μ' μ₀ : Mp} {ρ : List V} {σ σ' : Hp} {s s' : Shared} {h h' hb : Heap} {I J : Addr}
theorem Priv.imm (p : Priv c μ h I) {b : Addr} {o : Obj} (i : Imm o) (e : h.get? b = some o) : b ≠ I := fun q => by
  obtain ⟨o', e', d⟩ := p.ob
  rw [q, e'] at e; cases e
  exact d.1 i
theorem Priv.tab (p : Priv c μ h I) {b : Addr} {ps} (e : h.get? b = some (tabObj ps)) : b ≠ I := fun q => by
  obtain ⟨o', e', d⟩ := p.ob
  rw [q, e'] at e; cases e; exact d.2.1 _ rfl
theorem Priv.ns (p : Priv c μ h I) {b : Addr} {m} (e : h.Ns b m) : b ≠ I := fun q => by
  obtain ⟨o', e', d⟩ := p.ob
  obtain ⟨ob, es, ep, e, hd, r⟩ := e
  rw [q, e'] at e; cases e; have := d.2.2; rw [hd] at this; exact this
theorem Priv.cell (p : Priv c μ h I) {b : Addr} {m} (e : h.IsCell b m) : b ≠ I := fun q => by
  obtain ⟨o', e', d⟩ := p.ob
  obtain ⟨ob, e, hd⟩ := e
  rw [q, e'] at e; cases e; have := d.2.2; rw [hd] at this; exact this
end
end Mine
open PySem PySem.W PySem.Calls PyProof.Rows PySem.Spec
set_option linter.unusedVariables false
namespace Mine
/-- an exception in flight; it is newer than h₀ -/
structure Xc (c : Cx) (μ : Mp) (h₀ : Heap) (e : Addr) (x : String) (h : Heap) : Prop where
  fe : h₀.get? e = none
  pe : Priv c μ h e
  ob : ∃ oe vs, h.get? e = some oe ∧ oe.cls = .type x ∧ oe.data = .fields vs ∧ (vs[1]? = some .none ∨ ∃ T oT ts, vs[1]? = some (.ref T) ∧ T ≠ e ∧ h₀.get? T = none ∧ Priv c μ h T ∧ h.get? T = some oT ∧ oT.data = .fields ts ∧ ts[3]? = some .none)
theorem Xc.back {c : Cx} {μ : Mp} {h₀ h₁ h : Heap} {e : Addr} {x : String} (X : Xc c μ h₁ e x h) (k : ∀ b, Priv c μ h b → h₁.get? b = none → h₀.get? b = none) : Xc c μ h₀ e x h := by
  obtain ⟨fe, pe, oe, vs, e1, e2, e3, r⟩ := X
  refine ⟨k _ pe fe, pe, oe, vs, e1, e2, e3, r.imp id fun ⟨T, oT, ts, a, b, d, p, q⟩ => ⟨T, oT, ts, a, b, k _ p d, p, q⟩⟩
theorem dead_back {c : Cx} {μ μ₀ μ₁ : Mp} {h₀ h₁ h : Heap} (S : Stp c μ₀ h₀ μ₁ h₁) (hs : Sub μ₁ μ) (t : TabsOk c h) : ∀ b, Priv c μ h b → h₁.get? b = none → h₀.get? b = none := fun b p d => by
  cases q : h₀.get? b with
  | none => rfl
  | some o =>
    obtain ⟨o', e', _⟩ := S.kept b o q (fun x a d e => p.off x a d (hs _ _ (S.sub _ _ e))) fun z hz w => by
      obtain ⟨ps, f, _⟩ := t z hz
      exact p.tab f w
    rw [d] at e'; cases e'
section
variable (c : Cx) (A : Around) (env : Env) (nm : List (Str × Nat))
def PX (ρ : List V) (μ : Mp) (s : Shared) (X : XP) (E : Value → Shared → Prop) : Prop :=
  ∀ x σ' μ' e s', X x σ' → Ev c A env nm μ' ρ σ' s' → Stp c μ s.heap μ' s'.heap → Xc c μ' s.heap e x s'.heap → E (.ref e) s'
def PG {α β : Type} (rel : Mp → Heap → α → β → Prop) (ρ : List V) (μ : Mp) (s : Shared) (Q : α → Hp → Prop) (Q' : β → Shared → Prop) : Prop :=
  ∀ v σ' μ' r s', Q v σ' → Ev c A env nm μ' ρ σ' s' → Stp c μ s.heap μ' s'.heap → rel μ' s'.heap v r → Q' r s'
def TG {α β : Type} (rel : Mp → Heap → α → β → Prop) (t : Sem β) (P : List V → Hp → (α → Hp → Prop) → XP → Prop) : Prop :=
  ∀ ρ σ Q X, P ρ σ Q X → ∀ μ s, Ev c A env nm μ ρ σ s → ∀ Q' E, PG c A env nm rel ρ μ s Q Q' → PX c A env nm ρ μ s X E → wpAny (model c.prog c.w) A t Q' E s
abbrev EP := List V → Hp → (V → Hp → Prop) → XP → Prop
abbrev TE (e : Expr) (P : EP) : Prop := TG c A env nm VR (eval e env) P
abbrev relB : Mp → Heap → Bool → Bool → Prop := fun _ _ a b => a = b
end
section
variable {c : Cx} {A : Around} {env : Env} {nm : List (Str × Nat)} {μ μ' : Mp} {ρ : List V} {σ σ' : Hp} {s s' : Shared} {α β : Type} {rel : Mp → Heap → α → β → Prop} {X : XP} {E : Value → Shared → Prop}
theorem PX.trans (h : PX c A env nm ρ μ s X E) (S : Stp c μ s.heap μ' s'.heap) : PX c A env nm ρ μ' s' X E := fun x σ' μ'' e s'' hx ev st f => h x σ' μ'' e s'' hx ev (S.trans st) (f.back (dead_back S st.sub ev.tb))
theorem PG.trans {Q : α → Hp → Prop} {Q' : β → Shared → Prop} (h : PG c A env nm rel ρ μ s Q Q') (S : Stp c μ s.heap μ' s'.heap) : PG c A env nm rel ρ μ' s' Q Q' :=
  fun v σ' μ'' r s'' hq ev st f => h v σ' μ'' r s'' hq ev (S.trans st) f
theorem PG.here {Q : α → Hp → Prop} {Q' : β → Shared → Prop} (h : PG c A env nm rel ρ μ s Q Q') {v : α} {r : β} (hq : Q v σ) (ev : Ev c A env nm μ ρ σ s) (hr : rel μ s.heap v r) : Q' r s := h v σ μ r s hq ev (.refl ..) hr
/-- the counter of tokens turned -/
theorem PG.tok {Q : α → Hp → Prop} {Q' : β → Shared → Prop} (h : PG c A env nm rel ρ μ s Q Q') {v : α} {r : β} {tk : Nat} (hq : Q v σ) (ev : Ev c A env nm μ ρ σ s) (hr : rel μ s.heap v r) : Q' r { s with toks := tk } :=
  h v σ μ r _ hq ev.tok (.refl ..) hr
theorem PG.keep {Q : α → Hp → Prop} {Q' : β → Shared → Prop} (h : PG c A env nm rel ρ μ s Q Q') {v : α} {r : β} {h' : Heap} {tk : Nat} (hq : Q v σ) (ev : Ev c A env nm μ ρ σ s)
    (k : ∀ b o, s.heap.get? b = some o → h'.get? b = some o) (hz : s.heap.objs.size ≤ h'.objs.size) (hr : rel μ h' v r) : Q' r { s with heap := h', toks := tk } :=
  h v σ μ r _ hq (ev.keeps k hz) (Stp.keeps k hz) hr
/-! constants and names -/
theorem te_none {k pos} : TE c A env nm (.Constant .none k pos) fun _ σ Q _ => Q .none σ :=
  fun ρ σ Q X h μ s ev Q' E hQ _ => wpAny_pure (hQ.here h ev rfl)
theorem te_bool {b k pos} : TE c A env nm (.Constant (.bool b) k pos) fun _ σ Q _ => Q (.bool b) σ :=
  fun ρ σ Q X h μ s ev Q' E hQ _ => wpAny_pure (hQ.here h ev rfl)
theorem te_int {i k pos} : TE c A env nm (.Constant (.int i) k pos) fun _ σ Q _ => Q (.int i) σ :=
  fun ρ σ Q X h μ s ev Q' E hQ _ => wpAny_Constant_int (hQ.tok h ev ⟨_, rfl⟩)
theorem te_str {x k pos} : TE c A env nm (.Constant (.str x) k pos) fun _ σ Q _ => Q (.str x) σ :=
  fun ρ σ Q X h μ s ev Q' E hQ _ => Calls.Constant_str (hQ.tok h ev ⟨_, rfl⟩)
theorem te_loc {sc : Scope} (K : EOk env sc) {x : Str} {i : Nat} {pos : Pos} (hn : nm.lookup x = some i) (hk : sc.names.lookup x = some .local ∨ sc.names.lookup x = some .cell ∨ sc.names.lookup x = some .free)
    (hd : (x == ("__debug__" : Str)) = false) (hc : (x == ("__classdict__" : Str)) = false) : TE c A env nm (.Name x pos) fun ρ σ Q _ => pLoc ρ i fun v => Q v σ := fun ρ σ Q X h μ s ev Q' E hQ _ => by
  replace h : pLoc ρ i (fun v => Q v σ) := h
  unfold pLoc at h
  split at h
  · rename_i v hv
    obtain ⟨hok, h⟩ := h
    have hfn : env.scope.kind = .function := by rw [K.se]; exact K.kd
    have kk : env.kindOf x = sc.names.lookup x := by unfold Env.kindOf; rw [K.se]
    rcases hk with hk | hk | hk
    · obtain ⟨m, hns, f⟩ := ev.lc.ns
      obtain ⟨r, e, hr⟩ := f x i hn (kk.trans hk) v hv (ok_ne hok)
      exact wpAny_Name (wpAny_loadName_local hfn (kk.trans hk) hns e (hQ.here h ev hr)) hd
    · obtain ⟨ca, ov, e, f, g⟩ := ev.lc.cl x i hn (.inl (kk.trans hk))
      obtain ⟨r, rfl, hr⟩ := g v hv (ok_ne hok)
      exact wpAny_Name (wpAny_loadName_cell hfn (kk.trans hk) e f (hQ.here h ev hr)) hd
    · obtain ⟨ca, ov, e, f, g⟩ := ev.lc.cl x i hn (.inr (kk.trans hk))
      obtain ⟨r, rfl, hr⟩ := g v hv (ok_ne hok)
      exact wpAny_Name (wpAny_loadName_free hfn (kk.trans hk) e f (hQ.here h ev hr) hc) hd
  · exact h.elim
def ofVal : Value → V
  | .none => .none
  | .bool b => .bool b
  | .int i _ => .int i
  | .str x _ => .str x
  | .bytes b _ => .bytes b
  | v => .k v
theorem vr_ofVal {h : Heap} (v : Value) : VR μ h (ofVal v) v := by
  cases v <;> first | exact rfl | exact ⟨_, rfl⟩
/-- a name of the module's, or a built-in one -/
def globIn (K : Frag) (x : Str) : Option Value := match nsIn K mainGlobals x with
  | some (some v) => some v
  | some none => if x = "__name__" then none else bootBuiltins x
  | none => none
theorem te_glob {sc : Scope} (K : EOk env sc) {x : Str} {v : Value} {pos : Pos} (hg : globIn c.K x = some v) (hk : sc.names.lookup x = some .globalImplicit)
    (hd : (x == ("__debug__" : Str)) = false) : TE c A env nm (.Name x pos) fun _ σ Q _ => Q (ofVal v) σ := fun ρ σ Q X h μ s ev Q' E hQ _ => by
  have hfn : env.scope.kind = .function := by rw [K.se]; exact K.kd
  have kk : env.kindOf x = some .globalImplicit := by unfold Env.kindOf; rw [K.se]; exact hk
  unfold globIn at hg
  have T := c.T
  have g := T.g.keeps ev.rl.base
  have b := T.b.keeps ev.rl.base
  split at hg
  · rename_i v' e
    cases hg
    exact Name_function_global hfn kk (loadGlobal_global (by rw [K.gl]; exact g) (mg_of c.X0 T.g e) (hQ.here h ev (vr_ofVal v))) hd
  · rename_i e
    split at hg
    · cases hg
    · rename_i hne
      exact Name_function_global hfn kk (loadGlobal_builtin (by rw [K.gl]; exact g) (mg_none_of c.X0 T.g e) (by rw [K.bi]; exact b) ((T.builtins x hne).trans hg) (hQ.here h ev (vr_ofVal v))) hd
  · cases hg
/-! operators -/
theorem te_bin {e₁ e₂ : Expr} {op : Operator} {pos : Pos} {P₁ P₂ : EP} {O : V → V → Hp → (V → Hp → Prop) → Prop} (h₁ : TE c A env nm e₁ P₁) (h₂ : TE c A env nm e₂ P₂)
    (hO : ∀ a b σ Q, O a b σ Q → ∀ ρ μ s, Ev c A env nm μ ρ σ s → ∀ ra rb, VR μ s.heap a ra → VR μ s.heap b rb → ∀ Q' E, PG c A env nm VR ρ μ s Q Q' → wpAny (model c.prog c.w) A (binaryOp op ra rb) Q' E s) :
    TE c A env nm (.BinOp e₁ op e₂ pos) fun ρ σ Q X => P₁ ρ σ (fun a σ₁ => P₂ ρ σ₁ (fun b σ₂ => O a b σ₂ Q) X) X := fun ρ σ Q X h μ s ev Q' E hQ hX => by
  refine wpAny_BinOp (h₁ ρ σ _ X h μ s ev _ E (fun a σ₁ μ₁ ra s₁ q₁ ev₁ st₁ r₁ => ?_) hX)
  refine h₂ ρ σ₁ _ X q₁ μ₁ s₁ ev₁ _ E (fun b σ₂ μ₂ rb s₂ q₂ ev₂ st₂ r₂ => ?_) (hX.trans st₁)
  exact hO a b σ₂ Q q₂ ρ μ₂ s₂ ev₂ ra rb (st₂.vr ev₁.rl ev₁.tb r₁) r₂ Q' E (hQ.trans (st₁.trans st₂))
theorem te_cmp {e₁ e₂ : Expr} {op : CmpOp} {pos : Pos} {P₁ P₂ : EP} {O : V → V → Hp → (V → Hp → Prop) → Prop} (h₁ : TE c A env nm e₁ P₁) (h₂ : TE c A env nm e₂ P₂) (hm : behindInMarks op e₂ = false)
    (hO : ∀ a b σ Q, O a b σ Q → ∀ ρ μ s, Ev c A env nm μ ρ σ s → ∀ ra rb, VR μ s.heap a ra → VR μ s.heap b rb → ∀ Q' E, PG c A env nm VR ρ μ s Q Q' → wpAny (model c.prog c.w) A (compareOp op ra rb) Q' E s) :
    TE c A env nm (.Compare e₁ [op] [e₂] pos) fun ρ σ Q X => P₁ ρ σ (fun a σ₁ => P₂ ρ σ₁ (fun b σ₂ => O a b σ₂ Q) X) X := fun ρ σ Q X h μ s ev Q' E hQ hX => by
  refine wpAny_Compare1 (h₁ ρ σ _ X h μ s ev _ E (fun a σ₁ μ₁ ra s₁ q₁ ev₁ st₁ r₁ => ?_) hX) hm
  refine h₂ ρ σ₁ _ X q₁ μ₁ s₁ ev₁ _ E (fun b σ₂ μ₂ rb s₂ q₂ ev₂ st₂ r₂ => ?_) (hX.trans st₁)
  exact hO a b σ₂ Q q₂ ρ μ₂ s₂ ev₂ ra rb (st₂.vr ev₁.rl ev₁.tb r₁) r₂ Q' E (hQ.trans (st₁.trans st₂))
end
end Mine
open PySem PySem.W PySem.Calls PyProof.Rows PySem.Spec
set_option linter.unusedVariables false
namespace Mine
theorem lim_le : lim ≤ sizeLine := by decide
theorem lim_val : lim = 1048576 := rfl
theorem VsR.rep {μ : Mp} {h : Heap} {vs : List V} {rs : List Value} (x : VsR μ h vs rs) : ∀ k : Nat, VsR μ h (List.replicate k vs).flatten (List.replicate k rs).flatten
  | 0 => rfl
  | k + 1 => by
    rw [List.replicate_succ, List.replicate_succ, List.flatten_cons, List.flatten_cons]
    exact x.append (x.rep k)
section
variable {c : Cx} {A : Around} {env : Env} {nm : List (Str × Nat)} {μ μ' : Mp} {ρ : List V} {σ σ' : Hp} {s s' : Shared} {h h' : Heap}
theorem Ev.list (ev : Ev c A env nm μ ρ σ s) {x : Nat} {vs : List V} (e : σ.at_ x = some (.list vs)) :
    ∃ a its n, μ x = some (a, a) ∧ s.heap.get? a = some (listOf its n) ∧ VsR μ s.heap vs its.toList ∧ vs.length ≤ lim ∧ its.size = vs.length := by
  have d := ev.rl.dom x
  rw [e] at d
  cases q : μ x with
  | none => rw [q] at d; cases d
  | some p =>
    obtain ⟨a, b⟩ := p
    obtain ⟨o, y, z⟩ := ev.rl.obj x a b q
    rw [e] at y; cases y
    obtain ⟨rfl, l, its, n, f, g⟩ := z
    exact ⟨_, its, n, rfl, f, g, l, by have := g.length; rwa [Array.length_toList] at this⟩
/-- a fresh list is laid -/
theorem PG.newList {Q : V → Hp → Prop} {Q' : Value → Shared → Prop} (hQ : PG c A env nm VR ρ μ s Q Q') (ev : Ev c A env nm μ ρ σ s) {vs : List V} {its : Array Value} {tk n : Nat}
    (hv : VsR μ s.heap vs its.toList) (hl : vs.length ≤ lim) (hq : pNew σ (.list vs) Q) : Q' (.ref s.heap.objs.size) { s with heap := s.heap.push (listOf its n), toks := tk } := by
  have k : ∀ b o, s.heap.get? b = some o → (s.heap.push (listOf its n)).get? b = some o := fun b o e => Heap.get?_push_of_some _ e
  have sz : s.heap.objs.size ≤ (s.heap.push (listOf its n)).objs.size := by rw [Heap.size_push]; exact Nat.le_succ _
  have R := ev.rl.alloc ev.tb k (Nat.le_refl _) (Nat.le_refl _) (o := .list vs) ⟨rfl, hl, its, n, Heap.get?_push_size _ rfl, VsR.mono (Sub.new ev.rl _ _) (fun b o _ e => k b o e) _ _ hv⟩
  have S := Stp.alloc (c := c) ev.rl k (Nat.le_refl _) (Nat.le_refl _) sz
  exact hQ _ _ _ _ _ hq (ev.step S R (ev.tb.keeps k) rfl ev.gn) S ⟨_, _, Mp.new_self .., rfl⟩
theorem PG.update {α β : Type} {rel : Mp → Heap → α → β → Prop} {Q : α → Hp → Prop} {Q' : β → Shared → Prop} (hQ : PG c A env nm rel ρ μ s Q Q') (ev : Ev c A env nm μ ρ σ s) {x : Nat} {a : Addr} {ws : List V} {its' : Array Value} {n' tk : Nat} {v : α} {r : β}
    (e : μ x = some (a, a)) (hs : Heap.SameBut a s.heap h') (hg : h'.get? a = some (listOf its' n')) (hv : VsR μ s.heap ws its'.toList) (hl : ws.length ≤ lim) (hq : Q v (σ.set x (.list ws))) (hr : rel μ h' v r) :
    Q' r { s with heap := h', toks := tk } := by
  have k : ∀ b o, b ≠ a → b ≠ a → s.heap.get? b = some o → h'.get? b = some o := fun b o q _ f => (hs.2 b q).trans f
  have S := Stp.set (c := c) (μ := μ) (h := s.heap) (h' := h') e k (by rw [hs.1]; exact Nat.le_refl _)
  have im : ∀ b o, Imm o → s.heap.get? b = some o → h'.get? b = some o := S.imm ev.rl ev.tb
  have R := ev.rl.set e k (o := .list ws) ⟨rfl, hl, its', n', hg, VsR.mono (fun _ _ z => z) im _ _ hv⟩
  exact hQ _ _ _ _ _ hq (ev.step S R (ev.tb.set ev.rl e k) rfl ev.gn) S hr
/-! the frozen sequences -/
def FrzOk (c : Cx) (S : Sx) : Prop := ∀ a vs, S.frz a = some vs → vs.length ≤ lim ∧ ∃ its n, (c.H0.get? a = some (listOf its n)) ∧ ∀ μ h, VsR μ h vs its.toList
theorem listAt {S : Sx} (Z : FrzOk c S) (ev : Ev c A env nm μ ρ σ s) {v : V} {vs : List V} (e : listItems S σ v = some vs) {r : Value} (hr : VR μ s.heap v r) :
    ∃ a its n, r = .ref a ∧ s.heap.get? a = some (listOf its n) ∧ VsR μ s.heap vs its.toList ∧ vs.length ≤ lim ∧ its.size = vs.length := by
  unfold listItems at e
  split at e
  · split at e
    · rename_i x ws q
      cases e
      obtain ⟨a, its, n, q1, q2, q3, q4, q5⟩ := ev.list q
      obtain ⟨a', d', e1, rfl⟩ := hr
      rw [q1] at e1; cases e1
      exact ⟨a, its, n, rfl, q2, q3, q4, q5⟩
    · cases e
  · rename_i a
    obtain ⟨l, its, n, f, g⟩ := Z a vs e
    refine ⟨a, its, n, hr, ev.rl.base _ _ f, g _ _, l, ?_⟩
    have := (g μ s.heap).length
    rwa [Array.length_toList] at this
  · cases e
theorem binop_ok {S : Sx} (Z : FrzOk c S) {n : Nat} (hA : AOk n A) {op : Operator} : ∀ a b σ Q, pBin S op a b σ Q → ∀ ρ μ s, Ev c A env nm μ ρ σ s → ∀ ra rb, VR μ s.heap a ra → VR μ s.heap b rb → ∀ Q' E, PG c A env nm VR ρ μ s Q Q' →
    wpAny (model c.prog c.w) A (binaryOp op ra rb) Q' E s := by
  intro a b σ Q hq ρ μ s ev ra rb ha hb Q' E hQ
  unfold pBin at hq
  split at hq
  · rename_i x y
    obtain ⟨t, rfl⟩ := ha
    obtain ⟨u, rfl⟩ := hb
    cases op <;> (try (simp only [pInt] at hq)) <;> (try exact hq.elim)
    · exact add_int (hQ.tok hq ev ⟨_, rfl⟩)
    · exact sub_int (hQ.tok hq ev ⟨_, rfl⟩)
    · exact mul_int (hQ.tok hq.2 ev ⟨_, rfl⟩) hq.1
    · exact AutoIntOps.truediv_2 (by simpa using hq.1) (by simp [hq.2.1]) (hQ.tok hq.2.2 ev ⟨_, rfl⟩)
    · exact mod_int' hq.1 (hQ.tok hq.2 ev ⟨_, rfl⟩)
    · exact pow_int_small hq.1.1 hq.1.2.1 hq.1.2.2 (hQ.tok hq.2 ev ⟨_, rfl⟩)
    · exact lshift_int_small hq.1.1 hq.1.2.1 hq.1.2.2 (hQ.tok hq.2 ev ⟨_, rfl⟩)
    · exact rshift_int hq.1 (hQ.tok hq.2 ev ⟨_, rfl⟩)
    · exact or_int (hQ.tok hq ev ⟨_, rfl⟩)
    · exact xor_int (hQ.tok hq ev ⟨_, rfl⟩)
    · exact and_int (hQ.tok hq ev ⟨_, rfl⟩)
    · exact floordiv_int hq.1.1 (hQ.tok hq.2 ev ⟨_, rfl⟩) (.inl (hq.1.2.elim PyProof.noPylong_small PyProof.noPylong_of_log2))
  · rename_i x y
    obtain ⟨t, rfl⟩ := ha
    obtain ⟨u, rfl⟩ := hb
    obtain ⟨rfl, hl, hq⟩ := hq
    exact add_str (fun t' tk => hQ.tok hq ev ⟨_, rfl⟩) (Nat.le_trans hl lim_le)
  · rename_i x k
    obtain ⟨rfl, xs, hx, h0, hz, hq⟩ := hq
    obtain ⟨u, rfl⟩ := hb
    have hx' : listItems S σ (.ref x) = some xs := hx
    obtain ⟨l, its, n, rfl, hl, hv, hl2, hsz⟩ := listAt Z ev hx' ha
    have hb1 : its.size * k.toNat ≤ 16384 := by rw [hsz]; exact hz.1
    have hk : Builtin.List.listFitsIndex k = true := by
      have := hz.2
      simp [Builtin.List.listFitsIndex]; omega
    refine wpAny_binaryOp_repeat_ref (T := "list") (U := "int") (by decide) ⟨_, hl, rfl⟩ (fun s' => typeIs_int s' k u) noFill_list_mul F.fills_int_mul F.slot_int_rmul repeat_list F.slot_int_index.lookup
      (call_meets F.slot_int_rmul (typeIs_int s k u) F.entry_int_rmul (F.args_int_rmul_2 _ _) (lm_int_rmul_list_any k u l its n none #[])
        ⟨hl, rfl, ⟨_, hl, rfl⟩, call_meets F.slot_list_mul ⟨_, hl, rfl⟩ F.entry_list_mul (F.args_list_mul_2 _ _)
          (lm_list_mul_any l its n none #[] k u (by simp [hk]) (by omega) (by simp [Builtin.List.listTooLong, sizeLine]; omega))
          ⟨hl, ?_⟩⟩)
    have e : its = its.toList.toArray := by simp
    rw [show (List.foldl (fun x1 x2 => x1 ++ x2) #[] (List.replicate (if its.isEmpty = true then 0 else k.toNat) its)) = ((List.replicate k.toNat its.toList).flatten).toArray from by
      conv => lhs; rw [e]
      exact listMul_foldl_if _ _]
    refine hQ.newList ev (tk := s.toks) (n := 0) (vs := (List.replicate k.toNat xs).flatten) ?_ ?_ hq
    · show VsR _ _ _ (List.replicate k.toNat its.toList).flatten
      exact VsR.rep hv _
    · rw [List.length_flatten, List.map_replicate, List.sum_replicate_nat, Nat.mul_comm, lim_val]
      exact Nat.le_trans hz.1 (by decide)
  · obtain ⟨rfl, xs, ys, hx, hy, hl, hq⟩ := hq
    obtain ⟨a, its, n, rfl, e1, e2, e3, e4⟩ := listAt Z ev hx ha
    obtain ⟨b, its', n', rfl, f1, f2, f3, f4⟩ := listAt Z ev hy hb
    refine P.add_list e1 f1 ?_ (by rw [e4, f4]; exact Nat.le_trans hl lim_le)
    exact hQ.newList ev (tk := s.toks) (n := 0) (by rw [Array.toList_append]; exact e2.append f2) (by rw [List.length_append]; exact hl) hq
end
end Mine
open PySem PySem.W PySem.Calls PyProof.Rows PySem.Spec
set_option linter.unusedVariables false
namespace Mine
section
variable {c : Cx} {A : Around} {env : Env} {nm : List (Str × Nat)} {μ μ' : Mp} {ρ : List V} {σ σ' : Hp} {s s' : Shared} {h h' : Heap}
theorem truth_ok {v : V} {Q : Bool → Hp → Prop} (hq : pTruth σ v Q) (ev : Ev c A env nm μ ρ σ s) {r : Value} (hr : VR μ s.heap v r) {Q' : Bool → Shared → Prop} {E : Value → Shared → Prop}
    (hQ : PG c A env nm relB ρ μ s Q Q') : wpAny (model c.prog c.w) A (truthy r) Q' E s := by
  unfold pTruth at hq
  split at hq
  · rw [show r = .none from hr]; exact truthy_none (hQ.here hq ev rfl)
  · rw [show r = .bool _ from hr]; exact wpAny_truthy_bool (hQ.here hq ev rfl)
  · obtain ⟨t, rfl⟩ := hr; exact truthy_int (hQ.here hq ev rfl)
  · split at hq
    · rename_i x vs q
      obtain ⟨a, its, n, q1, q2, q3, q4, q5⟩ := ev.list q
      obtain ⟨a', d', e1, rfl⟩ := hr
      rw [q1] at e1; cases e1
      have hz : its.isEmpty = vs.isEmpty := by
        rw [Bool.eq_iff_iff]; simp only [Array.isEmpty_iff_size_eq_zero, List.isEmpty_iff_length_eq_zero, q5]
      have q2' : s.heap.IsList a its := PySem.IsL.isList (n := n) q2
      refine wpAny_truthy_list q2' (by rw [q5]; rw [lim_val] at q4; omega) ?_
      rw [hz]
      exact hQ.tok hq ev rfl
    · exact hq.elim
  · exact hq.elim
mutual
theorem rd_reads (ev : Ev c A env nm μ ρ σ s) : ∀ {v : V} {d : PyData}, Rd σ v d → ∀ {r : Value}, VR μ s.heap v r → ∃ as, Reads s.heap r d as
  | _, _, .none, r, hr => ⟨[], by have e : r = Value.none := hr; subst e; exact .none⟩
  | _, _, .bool b, r, hr => ⟨[], by have e : r = Value.bool b := hr; subst e; exact .bool b⟩
  | _, _, .int i, _, hr => by obtain ⟨t, rfl⟩ := hr; exact ⟨_, .int i t⟩
  | _, _, .str x, _, hr => by obtain ⟨t, rfl⟩ := hr; exact ⟨_, .str x t⟩
  | _, _, .list q y, _, hr => by
    obtain ⟨a, its, n, q1, q2, q3, q4, q5⟩ := ev.list q
    obtain ⟨a', d', e1, rfl⟩ := hr
    rw [q1] at e1; cases e1
    obtain ⟨as, z⟩ := rds_reads ev y q3
    exact ⟨_, .list q2 rfl rfl z⟩
  | _, _, .tup y, _, hr => by
    obtain ⟨a, its, n, rfl, e2, e3⟩ := hr
    obtain ⟨as, z⟩ := rds_reads ev y e3
    exact ⟨_, .tuple e2 rfl rfl z⟩
theorem rds_reads (ev : Ev c A env nm μ ρ σ s) : ∀ {vs : List V} {ds : List PyData}, Rds σ vs ds → ∀ {rs : List Value}, VsR μ s.heap vs rs → ∃ as, ReadsAll s.heap rs ds as
  | _, _, .nil, r, hr => ⟨[], by have e : r = [] := hr; subst e; exact .nil⟩
  | _, _, .cons x y, _, hr => by
    obtain ⟨r, rs', rfl, f, g⟩ := hr
    obtain ⟨as, z⟩ := rd_reads ev x f
    obtain ⟨bs, w⟩ := rds_reads ev y g
    exact ⟨_, .cons z w⟩
end
theorem eq_ok {n : Nat} (hA : AOk n A) {neg : Bool} {a b : V} {Q : V → Hp → Prop} (hq : pEq neg a b σ Q) (ev : Ev c A env nm μ ρ σ s) {ra rb : Value} (ha : VR μ s.heap a ra) (hb : VR μ s.heap b rb) {Q' : Value → Shared → Prop} {E : Value → Shared → Prop}
    (hQ : PG c A env nm VR ρ μ s Q Q') : wpAny (model c.prog c.w) A (compareOp (if neg then .NotEq else .Eq) ra rb) Q' E s := by
  have hu : A.units + 64 < cLine := by have := hA.un; omega
  unfold pEq at hq
  split at hq
  · obtain ⟨t, rfl⟩ := ha; obtain ⟨u, rfl⟩ := hb
    cases neg
    · exact eq_int (hQ.here (v := .bool _) (by simpa using hq) ev rfl)
    · exact ne_int (hQ.here (v := .bool _) (by simpa [bne] using hq) ev rfl)
  · rw [show ra = .bool _ from ha, show rb = .bool _ from hb]
    cases neg
    · exact eq_bool (hQ.here (v := .bool _) (by simpa using hq) ev rfl)
    · exact ne_bool (hQ.here (v := .bool _) (by simpa [bne] using hq) ev rfl)
  · obtain ⟨t, rfl⟩ := ha; obtain ⟨u, rfl⟩ := hb
    cases neg
    · exact eq_str (hQ.here (v := .bool _) (by simpa using hq) ev rfl)
    · exact ne_str (hQ.here (v := .bool _) (by simpa [bne] using hq) ev rfl)
  · obtain ⟨da, db, xa, xb, sa, sb, hq⟩ := hq
    obtain ⟨as, ya⟩ := rd_reads ev xa ha
    obtain ⟨bs, yb⟩ := rd_reads ev xb hb
    cases neg
    · exact SeqAt.compareEq_shaped ya yb sa sb hu (hQ.here (v := .bool _) (by simpa using hq) ev rfl)
    · exact SeqAt.compareNe_shaped ya yb sa sb hu (hQ.here (v := .bool _) (by simpa using hq) ev rfl)
theorem isNone_ok {v : V} {b : Bool} (e : isNoneV v = some b) {r : Value} (hr : VR μ h v r) : (r == Value.none) = b := by
  cases v <;> simp only [isNoneV, Option.some.injEq, reduceCtorEq] at e <;> subst e
  · rw [show r = .none from hr]; rfl
  · rw [show r = .bool _ from hr]; rfl
  · obtain ⟨t, rfl⟩ := hr; rfl
  · obtain ⟨t, rfl⟩ := hr; rfl
  · obtain ⟨t, rfl⟩ := hr; rfl
  · obtain ⟨t, rfl⟩ := hr; rfl
  · obtain ⟨_, _, _, rfl⟩ := hr; rfl
  · obtain ⟨_, _, _, rfl, _⟩ := hr; rfl
  · obtain ⟨_, _, _, _, rfl, _⟩ := hr; rfl
  · rw [show r = _ from hr]
  · obtain ⟨_, _, _, _, _, _, _, rfl, _⟩ := hr; rfl
theorem cmp_ok {n : Nat} (hA : AOk n A) {op : CmpOp} : ∀ a b σ Q, pCmp op a b σ Q → ∀ ρ μ s, Ev c A env nm μ ρ σ s → ∀ ra rb, VR μ s.heap a ra → VR μ s.heap b rb → ∀ Q' E, PG c A env nm VR ρ μ s Q Q' →
    wpAny (model c.prog c.w) A (compareOp op ra rb) Q' E s := by
  intro a b σ Q hq ρ μ s ev ra rb ha hb Q' E hQ
  cases op <;> simp only [pCmp] at hq
  · exact eq_ok hA (neg := false) hq ev ha hb hQ
  · exact eq_ok hA (neg := true) hq ev ha hb hQ
  · split at hq
    · obtain ⟨t, rfl⟩ := ha; obtain ⟨u, rfl⟩ := hb; exact lt_int (hQ.here hq ev rfl)
    · exact hq.elim
  · split at hq
    · obtain ⟨t, rfl⟩ := ha; obtain ⟨u, rfl⟩ := hb; exact le_int (hQ.here hq ev rfl)
    · exact hq.elim
  · split at hq
    · obtain ⟨t, rfl⟩ := ha; obtain ⟨u, rfl⟩ := hb; exact gt_int (hQ.here hq ev rfl)
    · exact hq.elim
  · split at hq
    · obtain ⟨t, rfl⟩ := ha; obtain ⟨u, rfl⟩ := hb; exact ge_int (hQ.here hq ev rfl)
    · exact hq.elim
  · split at hq
    · obtain ⟨r, e, hq⟩ := hq
      rw [show rb = .none from hb]
      refine is_none_gen ?_
      rw [isNone_ok e ha]
      exact hQ.here hq ev rfl
    · exact hq.elim
  · split at hq
    · obtain ⟨r, e, hq⟩ := hq
      rw [show rb = .none from hb]
      refine isnot_none_gen ?_
      rw [isNone_ok e ha]
      exact hQ.here hq ev rfl
    · exact hq.elim
end
end Mine
open PySem PySem.W PySem.Calls PyProof.Rows PySem.Spec
set_option linter.unusedVariables false
namespace Mine
theorem subscripted_no (slice : Expr) (o i : Value) : ∃ ops, subscripted slice false o i = operate ops (getItem o i) := by
  cases slice <;> try exact ⟨_, rfl⟩
  rename_i a b st p
  cases st <;> exact ⟨_, rfl⟩
theorem tail_at {prog : Program} {w : World} {A : Around} {E : Value → Shared → Prop} {s : Shared} {value slice : Expr} {o i : Value} {T id : String} {Q : Value → Shared → Prop} (hT : s.TypeIs o T)
    (hl : typeLookup (.type T) (Str.ofString "__getitem__") = pure (some (.builtin id))) (h : wpAny (model prog w) A (getItem o i) Q E s) : wpAny (model prog w) A (subscriptTail value slice o i) Q E s :=
  let ⟨_, e⟩ := subscripted_no slice o i
  tail_any hT hl h e
theorem idx_seq {n : Nat} {i : Int} : idx? n i = seqIndex? i n := by
  unfold idx? seqIndex?
  by_cases h : 0 ≤ i
  · have h' : ¬ i < 0 := by omega
    by_cases q : i < n
    · simp [h, h', q]
    · simp [h, h', q]
  · have h' : i < 0 := by omega
    have q : i + n < n := by omega
    by_cases z : 0 ≤ i + n
    · simp [h, h', q, z]
    · simp [h, h', z]
theorem idx_lt {n k : Nat} {i : Int} (e : idx? n i = some k) : k < n ∧ ((0 ≤ i ∧ k = i.toNat) ∨ (i < 0 ∧ 0 ≤ i + n ∧ k = (i + n).toNat)) := by
  unfold idx? at e
  split at e
  · split at e
    · cases e; omega
    · cases e
  · split at e
    · cases e; omega
    · cases e
section
variable {c : Cx} {A : Around} {env : Env} {nm : List (Str × Nat)} {μ μ' : Mp} {ρ : List V} {σ σ' : Hp} {s s' : Shared} {h h' : Heap}
theorem listSub {a : Addr} {its : Array Value} {n : Nat} {E : Value → Shared → Prop} {Q' : Value → Shared → Prop} {value slice : Expr} {i : Int} {u : Tok} {k : Nat} {r : Value} (e : s.heap.get? a = some (listOf its n)) (hz : its.size ≤ lim)
    (hk : idx? its.size i = some k) (hr : its[k]? = some r) (hq : Q' r s) : wpAny (model c.prog c.w) A (subscriptTail value slice (.ref a) (.int i u)) Q' E s := by
  have hl : s.heap.IsList a its := PySem.IsL.isList (n := n) e
  rw [lim_val] at hz
  refine tail_at hl.typeIs slot_list_getitem.lookup ?_
  rcases (idx_lt hk).2 with ⟨h0, rfl⟩ | ⟨h0, h1, rfl⟩
  · have := (idx_lt hk).1
    exact wpAny_getItem_list hl h0 (by omega) hr hq
  · exact wpAny_getItem_list_neg hl h0 (by omega) (by omega) hr hq
theorem sub_ok {S : Sx} (Z : FrzOk c S) {o i : V} {Q : V → Hp → Prop} (hq : pSub S o i σ Q) (ev : Ev c A env nm μ ρ σ s) {ro ri : Value} (ho : VR μ s.heap o ro) (hi : VR μ s.heap i ri) {Q' : Value → Shared → Prop} {E : Value → Shared → Prop}
    (hQ : PG c A env nm VR ρ μ s Q Q') {value slice : Expr} : wpAny (model c.prog c.w) A (subscriptTail value slice ro ri) Q' E s := by
  unfold pSub at hq
  split at hq
  · rename_i x i
    obtain ⟨t, rfl⟩ := ho
    obtain ⟨u, rfl⟩ := hi
    obtain ⟨k, ch, e1, e2, hl, hq⟩ := hq
    rw [lim_val] at hl
    refine tail_at (typeIs_str _ _ _) F.slot_str_getitem.lookup (getItem_str (c := ch) ?_ ?_ (hQ.tok hq ev ⟨_, rfl⟩))
    · have := idx_lt e1
      simp only [Bool.or_eq_false_iff, decide_eq_false_iff_not]
      omega
    · rw [← idx_seq, e1]; exact e2
  · rename_i x i
    obtain ⟨u, rfl⟩ := hi
    obtain ⟨vs, k, v, e0, e1, e2, hok, hq⟩ := hq
    obtain ⟨a, its, n, rfl, f1, f2, f3, f4⟩ := listAt Z ev (v := .ref x) e0 ho
    obtain ⟨r, g1, g2⟩ := f2.get e2
    exact listSub f1 (by rw [f4]; exact f3) (by rw [f4]; exact e1) (by simpa using g1) (hQ.here hq ev g2)
  · rename_i a i
    obtain ⟨u, rfl⟩ := hi
    obtain ⟨vs, k, v, e0, e1, e2, hok, hq⟩ := hq
    have e0' : listItems S σ (.k a) = some vs := by cases a <;> first | exact e0 | cases e0
    obtain ⟨a, its, n, rfl, f1, f2, f3, f4⟩ := listAt Z ev e0' ho
    obtain ⟨r, g1, g2⟩ := f2.get e2
    exact listSub f1 (by rw [f4]; exact f3) (by rw [f4]; exact e1) (by simpa using g1) (hQ.here hq ev g2)
  · rename_i vs i
    obtain ⟨u, rfl⟩ := hi
    obtain ⟨k, v, e1, e2, hl, hok, hq⟩ := hq
    obtain ⟨a, its, n, rfl, f1, f2⟩ := ho
    have f4 : its.size = vs.length := by have := f2.length; rwa [Array.length_toList] at this
    obtain ⟨r, g1, g2⟩ := f2.get e2
    have tp : IsTup s.heap a its := ⟨_, f1, rfl, n, rfl⟩
    have := idx_lt e1
    rw [lim_val] at hl
    exact tail_at tp.typeIs slot_tuple_getitem.lookup (getItem_tuple tp (by omega) (by omega) (by rw [f4, ← idx_seq]; exact e1) (by simpa using g1) (hQ.here hq ev g2))
  · exact hq.elim
theorem te_sub {S : Sx} (Z : FrzOk c S) {e₁ e₂ : Expr} {pos : Pos} {P₁ P₂ : EP} (h₁ : TE c A env nm e₁ P₁) (h₂ : TE c A env nm e₂ P₂) :
    TE c A env nm (.Subscript e₁ e₂ pos) fun ρ σ Q X => P₁ ρ σ (fun a σ₁ => P₂ ρ σ₁ (fun b σ₂ => pSub S a b σ₂ Q) X) X := fun ρ σ Q X h μ s ev Q' E hQ hX => by
  refine Subscript_ (h₁ ρ σ _ X h μ s ev _ E (fun a σ₁ μ₁ ra s₁ q₁ ev₁ st₁ r₁ => ?_) hX)
  refine h₂ ρ σ₁ _ X q₁ μ₁ s₁ ev₁ _ E (fun b σ₂ μ₂ rb s₂ q₂ ev₂ st₂ r₂ => ?_) (hX.trans st₁)
  exact sub_ok Z q₂ ev₂ (st₂.vr ev₁.rl ev₁.tb r₁) r₂ (hQ.trans (st₁.trans st₂))
/-- the parts of a slice -/
abbrev TO (c : Cx) (A : Around) (env : Env) (nm : List (Str × Nat)) (e : Option Expr) (P : EP) : Prop := TG c A env nm VR (evalPart e env) P
theorem to_none : TO c A env nm none fun _ σ Q _ => Q .none σ := fun ρ σ Q X h μ s ev Q' E hQ _ => wpAny_pure (hQ.here h ev rfl)
theorem to_some {e : Expr} {P : EP} (h : TE c A env nm e P) : TO c A env nm (some e) P := h
theorem optInt_part {v : V} {l : Option Int} (e : optInt v = some l) {r : Value} (hr : VR μ h v r) : IsPart r l := by
  unfold optInt at e
  split at e
  · cases e; rw [show r = .none from hr]; exact .none
  · cases e; obtain ⟨t, rfl⟩ := hr; exact .int _ _
  · cases e
theorem sliceOf_pick (its : Array Value) (l h : Option Int) : (slicePick its l h none).toList = sliceOf its.toList l h := by
  rw [slicePick_plain]; simp [sliceOf]
theorem VsR.slice {vs : List V} {rs : List Value} (x : VsR μ h vs rs) (l u : Option Int) : VsR μ h (sliceOf vs l u) (sliceOf rs l u) := by
  unfold sliceOf
  rw [x.length]
  exact (x.drop _).take _
theorem VsR.reverse : ∀ {vs : List V} {rs : List Value}, VsR μ h vs rs → VsR μ h vs.reverse rs.reverse
  | [], _, x => by rw [show _ = [] from x]; exact rfl
  | v :: vs, _, x => by
    obtain ⟨r, rs', rfl, f, g⟩ := x
    rw [List.reverse_cons, List.reverse_cons]
    exact g.reverse.append (VsR.cons f .nil)
theorem sliceOf_len {α : Type} (xs : List α) (l u : Option Int) : (sliceOf xs l u).length ≤ xs.length := by
  unfold sliceOf; simp only [List.length_take, List.length_drop]; omega
theorem te_slc {S : Sx} (Z : FrzOk c S) {e : Expr} {lo hi st : Option Expr} {p pos : Pos} {P P₁ P₂ P₃ : EP} (h₀ : TE c A env nm e P) (h₁ : TO c A env nm lo P₁) (h₂ : TO c A env nm hi P₂) (h₃ : TO c A env nm st P₃) :
    TE c A env nm (.Subscript e (.Slice lo hi st p) pos) fun ρ σ Q X => P ρ σ (fun o σ₁ => P₁ ρ σ₁ (fun l σ₂ => P₂ ρ σ₂ (fun u σ₃ => P₃ ρ σ₃ (fun t σ₄ => pSlc S o l u t σ₄ Q) X) X) X) X := fun ρ σ Q X h μ s ev Q' E hQ hX => by
  refine Subscript_ (h₀ ρ σ _ X h μ s ev _ E (fun a σ₁ μ₁ ra s₁ q₁ ev₁ st₁ r₁ => ?_) hX)
  refine wpAny_Slice (h₁ ρ σ₁ _ X q₁ μ₁ s₁ ev₁ _ E (fun l σ₂ μ₂ rl s₂ q₂ ev₂ st₂ r₂ => ?_) (hX.trans st₁))
  refine h₂ ρ σ₂ _ X q₂ μ₂ s₂ ev₂ _ E (fun u σ₃ μ₃ ru s₃ q₃ ev₃ st₃ r₃ => ?_) (hX.trans (st₁.trans st₂))
  refine h₃ ρ σ₃ _ X q₃ μ₃ s₃ ev₃ _ E (fun t σ₄ μ₄ rt s₄ q₄ ev₄ st₄ r₄ => ?_) (hX.trans ((st₁.trans st₂).trans st₃))
  obtain ⟨l', u', e1, e2, vs, e3, q⟩ := q₄
  have ra' := (st₄.vr ev₃.rl ev₃.tb (st₃.vr ev₂.rl ev₂.tb (st₂.vr ev₁.rl ev₁.tb r₁)))
  have rl' := (st₄.vr ev₃.rl ev₃.tb (st₃.vr ev₂.rl ev₂.tb r₂))
  have ru' := st₄.vr ev₃.rl ev₃.tb r₃
  obtain ⟨a, its, n, rfl, f1, f2, f3, f4⟩ := listAt Z ev₄ e3 ra'
  have evp := ev₄.push (tk := s₄.toks) { cls := Value.type "slice", data := Data.fields #[rl, ru, rt] }
  have stp : Stp c μ₄ s₄.heap μ₄ (s₄.heap.push { cls := Value.type "slice", data := Data.fields #[rl, ru, rt] }) := Stp.push _
  have g1 := Heap.get?_push_of_some { cls := Value.type "slice", data := Data.fields #[rl, ru, rt] } f1
  have g2 : VsR μ₄ (s₄.heap.push { cls := Value.type "slice", data := Data.fields #[rl, ru, rt] }) vs its.toList := stp.vsr ev₄.rl ev₄.tb f2
  have il : (s₄.heap.push { cls := Value.type "slice", data := Data.fields #[rl, ru, rt] }).IsList a its := PySem.IsL.isList (n := n) g1
  have isl := Heap.IsSliceOf.new s₄.heap rl ru rt
  have hz : its.size ≤ sizeLine := by rw [f4]; exact Nat.le_trans f3 lim_le
  have hQ4 := (hQ.trans (((st₁.trans st₂).trans st₃).trans st₄)).trans (s' := { s₄ with heap := s₄.heap.push { cls := Value.type "slice", data := Data.fields #[rl, ru, rt] } }) stp
  refine tail_at il.typeIs slot_list_getitem.lookup ?_
  rcases q with ⟨rfl, q⟩ | ⟨rfl, rfl, rfl, q⟩
  · rw [show rt = .none from r₄] at isl il hQ4 evp g1 g2 ⊢
    refine wpAny_getItem_list_slice il isl (optInt_part e1 rl') (optInt_part e2 ru') .none (by simp) ?_ hz
    exact hQ4.newList evp (tk := s₄.toks) (n := 0) (by rw [sliceOf_pick]; exact g2.slice _ _) (Nat.le_trans (sliceOf_len ..) f3) q
  · obtain ⟨tt, rfl⟩ := r₄
    refine wpAny_getItem_list_slice il isl (optInt_part e1 rl') (optInt_part e2 ru') (.int _ _) (by simp) ?_ hz
    rw [krv_pick]
    exact hQ4.newList evp (tk := s₄.toks) (n := 0) (by simpa using g2.reverse) (by rw [List.length_reverse]; exact f3) q
/-! displays -/
abbrev TL (c : Cx) (A : Around) (env : Env) (nm : List (Str × Nat)) (pos : Pos) (es : List Expr) (P : List V → Hp → (List V → Hp → Prop) → XP → Prop) : Prop := TG c A env nm VsR (spliced (backTo pos (starEach es env))) P
theorem tl_nil {pos : Pos} : TL c A env nm pos [] fun _ σ Q _ => Q [] σ := fun ρ σ Q X h μ s ev Q' E hQ _ => Calls.spliced_nil (hQ.here h ev .nil)
def noStar : Expr → Bool
  | .Starred .. => false
  | _ => true
theorem star_cons {e : Expr} (hs : noStar e = true) (r : List Expr) (pos : Pos) : backTo pos (starEach (e :: r) env) = (false, eval e env) :: backTo pos (starEach r env) := by
  cases e <;> first | rfl | cases hs
theorem tl_cons {e : Expr} {r : List Expr} {pos : Pos} {P : EP} {P' : List V → Hp → (List V → Hp → Prop) → XP → Prop} (hs : noStar e = true) (h₁ : TE c A env nm e P) (h₂ : TL c A env nm pos r P') :
    TL c A env nm pos (e :: r) fun ρ σ Q X => P ρ σ (fun v σ₁ => P' ρ σ₁ (fun vs σ₂ => Q (v :: vs) σ₂) X) X := fun ρ σ Q X h μ s ev Q' E hQ hX => by
  rw [star_cons hs]
  refine Calls.spliced_cons (h₁ ρ σ _ X h μ s ev _ E (fun v σ₁ μ₁ ra s₁ q₁ ev₁ st₁ r₁ => ?_) hX)
  refine h₂ ρ σ₁ _ X q₁ μ₁ s₁ ev₁ _ E (fun vs σ₂ μ₂ rb s₂ q₂ ev₂ st₂ r₂ => ?_) (hX.trans st₁)
  exact hQ _ _ _ _ _ q₂ ev₂ (st₁.trans st₂) (VsR.cons (st₂.vr ev₁.rl ev₁.tb r₁) r₂)
theorem te_list {es : List Expr} {pos : Pos} {P : List V → Hp → (List V → Hp → Prop) → XP → Prop} (h₁ : TL c A env nm pos es P) :
    TE c A env nm (.List es pos) fun ρ σ Q X => P ρ σ (fun vs σ₁ => vs.length ≤ lim ∧ pNew σ₁ (.list vs) Q) X := fun ρ σ Q X h μ s ev Q' E hQ hX => by
  refine List_ (h₁ ρ σ _ X h μ s ev _ E (fun vs σ₁ μ₁ rs s₁ q₁ ev₁ st₁ r₁ => ?_) hX)
  refine wpAny_newObj_type ?_ (by show rs.toArray.size ≤ sizeLine; rw [List.size_toArray, r₁.length]; exact Nat.le_trans q₁.1 lim_le)
  exact (hQ.trans st₁).newList ev₁ (tk := s₁.toks) (n := 0) (its := rs.toArray) r₁ q₁.1 q₁.2
theorem te_tup {es : List Expr} {k : Nat} {pos : Pos} {P : List V → Hp → (List V → Hp → Prop) → XP → Prop} (h₁ : TL c A env nm pos es P) :
    TE c A env nm (.Tuple es k pos) fun ρ σ Q X => P ρ σ (fun vs σ₁ => vs.length ≤ lim ∧ Q (.tup vs) σ₁) X := fun ρ σ Q X h μ s ev Q' E hQ hX => by
  refine Tuple_ (h₁ ρ σ _ X h μ s ev _ E (fun vs σ₁ μ₁ rs s₁ q₁ ev₁ st₁ r₁ => ?_) hX)
  refine wpAny_newTuple ?_ (by rw [r₁.length]; exact Nat.le_trans q₁.1 lim_le)
  have stp : Stp c μ₁ s₁.heap μ₁ (s₁.heap.push (tupOf rs.toArray 0)) := Stp.push _
  exact (hQ.trans st₁) _ _ _ _ _ q₁.2 (ev₁.push (tk := s₁.toks) _) stp ⟨_, _, 0, rfl, Heap.get?_push_size _ rfl, stp.vsr ev₁.rl ev₁.tb r₁⟩
end
end Mine
open PySem PySem.W PySem.Calls PyProof.Rows PySem.Spec
set_option linter.unusedVariables false
namespace Mine
section
variable {c : Cx} {A : Around} {env : Env} {nm : List (Str × Nat)} {μ μ' : Mp} {ρ : List V} {σ σ' : Hp} {s s' : Shared} {h h' : Heap}
theorem te_neg {e : Expr} {pos : Pos} {P : EP} (h₁ : TE c A env nm e P) :
    TE c A env nm (.UnaryOp .USub e pos) fun ρ σ Q X => P ρ σ (fun v σ₁ => match v with | .int i => Q (.int (-i)) σ₁ | _ => False) X := fun ρ σ Q X h μ s ev Q' E hQ hX => by
  refine UnaryOp_ (h₁ ρ σ _ X h μ s ev _ E (fun v σ₁ μ₁ r s₁ q₁ ev₁ st₁ r₁ => ?_) hX)
  cases v <;> first | exact q₁.elim | skip
  obtain ⟨t, rfl⟩ := r₁
  exact neg_int ((hQ.trans st₁).tok q₁ ev₁ ⟨_, rfl⟩)
theorem te_not {e : Expr} {pos : Pos} {P : EP} (h₁ : TE c A env nm e P) :
    TE c A env nm (.UnaryOp .Not e pos) fun ρ σ Q X => P ρ σ (fun v σ₁ => pTruth σ₁ v fun b σ₂ => Q (.bool (!b)) σ₂) X := fun ρ σ Q X h μ s ev Q' E hQ hX => by
  refine UnaryOp_ (h₁ ρ σ _ X h μ s ev _ E (fun v σ₁ μ₁ r s₁ q₁ ev₁ st₁ r₁ => not_of ?_) hX)
  refine truth_ok q₁ ev₁ r₁ (ρ := ρ) (fun b σ₂ μ₂ b' s₂ q₂ ev₂ st₂ r₂ => ?_)
  cases r₂
  exact hQ _ _ _ _ _ q₂ ev₂ (st₁.trans st₂) rfl
/-! and, or -/
theorem te_bop1 {e : Expr} {k : BoolOp} {pos : Pos} {P : EP} (h₁ : TE c A env nm e P) : TE c A env nm (.BoolOp k [e] pos) P := fun ρ σ Q X h μ s ev Q' E hQ hX => BoolOp_one (h₁ ρ σ Q X h μ s ev Q' E hQ hX)
theorem te_and {e₁ e₂ : Expr} {r : List Expr} {pos : Pos} {P P' : EP} (h₁ : TE c A env nm e₁ P) (h₂ : TE c A env nm (.BoolOp .And (e₂ :: r) pos) P') :
    TE c A env nm (.BoolOp .And (e₁ :: e₂ :: r) pos) fun ρ σ Q X => P ρ σ (fun v σ₁ => pTruth σ₁ v fun b σ₂ => match b == true with | true => P' ρ σ₂ Q X | false => Q v σ₂) X := fun ρ σ Q X h μ s ev Q' E hQ hX => by
  refine BoolOp_and (h₁ ρ σ _ X h μ s ev _ E (fun v σ₁ μ₁ r s₁ q₁ ev₁ st₁ r₁ => ?_) hX)
  refine truth_ok q₁ ev₁ r₁ (ρ := ρ) (fun b σ₂ μ₂ b' s₂ q₂ ev₂ st₂ r₂ => ?_)
  cases r₂
  cases b
  · exact hQ _ _ _ _ _ q₂ ev₂ (st₁.trans st₂) (st₂.vr ev₁.rl ev₁.tb r₁)
  · exact h₂ ρ σ₂ Q X q₂ μ₂ s₂ ev₂ Q' E (hQ.trans (st₁.trans st₂)) (hX.trans (st₁.trans st₂))
theorem te_or {e₁ e₂ : Expr} {r : List Expr} {pos : Pos} {P P' : EP} (h₁ : TE c A env nm e₁ P) (h₂ : TE c A env nm (.BoolOp .Or (e₂ :: r) pos) P') :
    TE c A env nm (.BoolOp .Or (e₁ :: e₂ :: r) pos) fun ρ σ Q X => P ρ σ (fun v σ₁ => pTruth σ₁ v fun b σ₂ => match b == false with | true => P' ρ σ₂ Q X | false => Q v σ₂) X := fun ρ σ Q X h μ s ev Q' E hQ hX => by
  refine BoolOp_or (h₁ ρ σ _ X h μ s ev _ E (fun v σ₁ μ₁ r s₁ q₁ ev₁ st₁ r₁ => ?_) hX)
  refine truth_ok q₁ ev₁ r₁ (ρ := ρ) (fun b σ₂ μ₂ b' s₂ q₂ ev₂ st₂ r₂ => ?_)
  cases r₂
  cases b
  · exact h₂ ρ σ₂ Q X q₂ μ₂ s₂ ev₂ Q' E (hQ.trans (st₁.trans st₂)) (hX.trans (st₁.trans st₂))
  · exact hQ _ _ _ _ _ q₂ ev₂ (st₁.trans st₂) (st₂.vr ev₁.rl ev₁.tb r₁)
/-! chains of two -/
theorem te_cmp2 {n : Nat} (hA : AOk n A) {a b d : Expr} {o1 o2 : CmpOp} {pos : Pos} {P₁ P₂ P₃ : EP} (h₁ : TE c A env nm a P₁) (h₂ : TE c A env nm b P₂) (h₃ : TE c A env nm d P₃) (hm : behindInMarks o2 d = false) :
    TE c A env nm (.Compare a [o1, o2] [b, d] pos) fun ρ σ Q X => P₁ ρ σ (fun va σ₁ => P₂ ρ σ₁ (fun vb σ₂ => pCmp o1 va vb σ₂ fun r σ₃ =>
      match r with
      | .bool false => Q (.bool false) σ₃
      | .bool true => P₃ ρ σ₃ (fun vd σ₄ => pCmp o2 vb vd σ₄ Q) X
      | _ => False) X) X := fun ρ σ Q X h μ s ev Q' E hQ hX => by
  refine Compare_chain (h₁ ρ σ _ X h μ s ev _ E (fun va σ₁ μ₁ ra s₁ q₁ ev₁ st₁ r₁ => ?_) hX) (by simpa [lastMarks] using hm)
  refine chain_link (h₂ ρ σ₁ _ X q₁ μ₁ s₁ ev₁ _ E (fun vb σ₂ μ₂ rb s₂ q₂ ev₂ st₂ r₂ => ?_) (hX.trans st₁))
  have st := st₁.trans st₂
  refine cmp_ok hA _ _ _ _ q₂ ρ μ₂ s₂ ev₂ _ _ (st₂.vr ev₁.rl ev₁.tb r₁) r₂ _ _ (fun v σ₃ μ₃ r s₃ q₃ ev₃ st₃ r₃ => ?_)
  dsimp only at q₃
  split at q₃
  · rw [show r = .bool _ from r₃]
    exact wpAny_truthy_bool (hQ _ _ _ _ _ q₃ ev₃ (st.trans st₃) rfl)
  · rw [show r = .bool _ from r₃]
    refine wpAny_truthy_bool (chain_last ?_)
    refine h₃ ρ σ₃ _ X q₃ μ₃ s₃ ev₃ _ E (fun vd σ₄ μ₄ rd s₄ q₄ ev₄ st₄ r₄ => ?_) (hX.trans (st.trans st₃))
    exact cmp_ok hA _ _ _ _ q₄ ρ μ₄ s₄ ev₄ _ _ (st₄.vr ev₃.rl ev₃.tb (st₃.vr ev₂.rl ev₂.tb r₂)) r₄ _ _ (hQ.trans ((st.trans st₃).trans st₄))
  · exact q₃.elim
/-! tests -/
abbrev BP := List V → Hp → (Bool → Hp → Prop) → XP → Prop
abbrev TT (c : Cx) (A : Around) (env : Env) (nm : List (Str × Nat)) (e : Expr) (P : BP) : Prop := ∀ whole, whole = eval e env → TG c A env nm relB (isTrue e env whole) P
def plainT : Expr → Bool
  | .UnaryOp .Not _ _ => false
  | .BoolOp .. => false
  | .IfExp .. => false
  | .Compare .. => false
  | _ => true
theorem plainT_eq {e : Expr} (hp : plainT e = true) (whole : Sem Value) : isTrue e env whole = (do let v ← whole; standAt e.pos; holding [v] (truthy v)) := by
  cases e <;> first | rfl | (exfalso; cases hp; done) | skip
  · rename_i op a p; cases op <;> first | rfl | (exfalso; cases hp; done)
theorem tt_ex {e : Expr} {P : EP} (hp : plainT e = true) (h₁ : TE c A env nm e P) : TT c A env nm e fun ρ σ Q X => P ρ σ (fun v σ₁ => pTruth σ₁ v Q) X := fun whole hw ρ σ Q X h μ s ev Q' E hQ hX => by
  subst hw
  refine isTrue_plain (h₁ ρ σ _ X h μ s ev _ E (fun v σ₁ μ₁ r s₁ q₁ ev₁ st₁ r₁ => ?_) hX) (plainT_eq hp _)
  exact truth_ok q₁ ev₁ r₁ (hQ.trans st₁)
theorem tt_cmp {e₁ e₂ : Expr} {op : CmpOp} {pos : Pos} {P₁ P₂ : EP} {O : V → V → Hp → (V → Hp → Prop) → Prop} (h₁ : TE c A env nm e₁ P₁) (h₂ : TE c A env nm e₂ P₂) (hm : behindInMarks op e₂ = false)
    (hO : ∀ a b σ Q, O a b σ Q → ∀ ρ μ s, Ev c A env nm μ ρ σ s → ∀ ra rb, VR μ s.heap a ra → VR μ s.heap b rb → ∀ Q' E, PG c A env nm VR ρ μ s Q Q' → wpAny (model c.prog c.w) A (compareOp op ra rb) Q' E s) :
    TT c A env nm (.Compare e₁ [op] [e₂] pos) fun ρ σ Q X => P₁ ρ σ (fun a σ₁ => P₂ ρ σ₁ (fun b σ₂ => O a b σ₂ (fun v σ₃ => pTruth σ₃ v Q)) X) X := fun whole _ ρ σ Q X h μ s ev Q' E hQ hX => by
  refine wpAny_isTrue_Compare1 (h₁ ρ σ _ X h μ s ev _ E (fun a σ₁ μ₁ ra s₁ q₁ ev₁ st₁ r₁ => ?_) hX) hm
  refine h₂ ρ σ₁ _ X q₁ μ₁ s₁ ev₁ _ E (fun b σ₂ μ₂ rb s₂ q₂ ev₂ st₂ r₂ => ?_) (hX.trans st₁)
  refine hO a b σ₂ _ q₂ ρ μ₂ s₂ ev₂ ra rb (st₂.vr ev₁.rl ev₁.tb r₁) r₂ _ E (fun v σ₃ μ₃ r s₃ q₃ ev₃ st₃ r₃ => ?_)
  exact truth_ok q₃ ev₃ r₃ (hQ.trans ((st₁.trans st₂).trans st₃))
theorem tt_not {e : Expr} {pos : Pos} {P : BP} (h₁ : TT c A env nm e P) : TT c A env nm (.UnaryOp .Not e pos) fun ρ σ Q X => P ρ σ (fun b σ₁ => Q (!b) σ₁) X := fun whole hw ρ σ Q X h μ s ev Q' E hQ hX => by
  refine isTrue_not (h₁ _ rfl ρ σ _ X h μ s ev _ E (fun v σ₁ μ₁ r s₁ q₁ ev₁ st₁ r₁ => ?_) hX)
  cases r₁
  exact hQ _ _ _ _ _ q₁ ev₁ st₁ rfl
abbrev TTs (c : Cx) (A : Around) (env : Env) (nm : List (Str × Nat)) (k : BoolOp) (es : List Expr) (P : BP) : Prop := ∀ pos whole, TG c A env nm relB (isTrue (.BoolOp k es pos) env whole) P
theorem tts_nil {k : BoolOp} : TTs c A env nm k [] fun _ σ Q _ => Q (decide (k = .And)) σ := fun pos whole ρ σ Q X h μ s ev Q' E hQ hX => by
  cases k
  · exact isTrue_and_nil (hQ.here h ev rfl)
  · exact isTrue_or_nil (hQ.here h ev rfl)
theorem tts_and {e : Expr} {r : List Expr} {P P' : BP} (h₁ : TT c A env nm e P) (h₂ : TTs c A env nm .And r P') :
    TTs c A env nm .And (e :: r) fun ρ σ Q X => P ρ σ (fun b σ₁ => match b == true with | true => P' ρ σ₁ Q X | false => Q b σ₁) X := fun pos whole ρ σ Q X h μ s ev Q' E hQ hX => by
  refine isTrue_and (h₁ _ rfl ρ σ _ X h μ s ev _ E (fun v σ₁ μ₁ r s₁ q₁ ev₁ st₁ r₁ => ?_) hX)
  cases r₁
  cases v
  · exact hQ _ _ _ _ _ q₁ ev₁ st₁ rfl
  · exact h₂ pos whole ρ σ₁ Q X q₁ μ₁ s₁ ev₁ Q' E (hQ.trans st₁) (hX.trans st₁)
theorem tts_or {e : Expr} {r : List Expr} {P P' : BP} (h₁ : TT c A env nm e P) (h₂ : TTs c A env nm .Or r P') :
    TTs c A env nm .Or (e :: r) fun ρ σ Q X => P ρ σ (fun b σ₁ => match b == false with | true => P' ρ σ₁ Q X | false => Q b σ₁) X := fun pos whole ρ σ Q X h μ s ev Q' E hQ hX => by
  refine isTrue_or (h₁ _ rfl ρ σ _ X h μ s ev _ E (fun v σ₁ μ₁ r s₁ q₁ ev₁ st₁ r₁ => ?_) hX)
  cases r₁
  cases v
  · exact h₂ pos whole ρ σ₁ Q X q₁ μ₁ s₁ ev₁ Q' E (hQ.trans st₁) (hX.trans st₁)
  · exact hQ _ _ _ _ _ q₁ ev₁ st₁ rfl
theorem tt_bop {k : BoolOp} {es : List Expr} {pos : Pos} {P : BP} (h : TTs c A env nm k es P) : TT c A env nm (.BoolOp k es pos) P := fun whole _ => h pos whole
theorem tt_cmp2 {n : Nat} (hA : AOk n A) {a b d : Expr} {o1 o2 : CmpOp} {pos : Pos} {P₁ P₂ P₃ : EP} (h₁ : TE c A env nm a P₁) (h₂ : TE c A env nm b P₂) (h₃ : TE c A env nm d P₃) (hm : behindInMarks o2 d = false) :
    TT c A env nm (.Compare a [o1, o2] [b, d] pos) fun ρ σ Q X => P₁ ρ σ (fun va σ₁ => P₂ ρ σ₁ (fun vb σ₂ => pCmp o1 va vb σ₂ fun r σ₃ =>
      match r with
      | .bool false => Q false σ₃
      | .bool true => P₃ ρ σ₃ (fun vd σ₄ => pCmp o2 vb vd σ₄ fun r σ₅ => pTruth σ₅ r Q) X
      | _ => False) X) X := fun whole _ ρ σ Q X h μ s ev Q' E hQ hX => by
  refine isTrue_chain (h₁ ρ σ _ X h μ s ev _ E (fun va σ₁ μ₁ ra s₁ q₁ ev₁ st₁ r₁ => ?_) hX) (by simpa [lastMarks] using hm)
  refine test_link (h₂ ρ σ₁ _ X q₁ μ₁ s₁ ev₁ _ E (fun vb σ₂ μ₂ rb s₂ q₂ ev₂ st₂ r₂ => ?_) (hX.trans st₁))
  have st := st₁.trans st₂
  refine cmp_ok hA _ _ _ _ q₂ ρ μ₂ s₂ ev₂ _ _ (st₂.vr ev₁.rl ev₁.tb r₁) r₂ _ _ (fun v σ₃ μ₃ r s₃ q₃ ev₃ st₃ r₃ => ?_)
  dsimp only at q₃
  split at q₃
  · rw [show r = .bool _ from r₃]
    exact wpAny_truthy_bool (hQ _ _ _ _ _ q₃ ev₃ (st.trans st₃) rfl)
  · rw [show r = .bool _ from r₃]
    refine wpAny_truthy_bool (test_last ?_)
    refine h₃ ρ σ₃ _ X q₃ μ₃ s₃ ev₃ _ E (fun vd σ₄ μ₄ rd s₄ q₄ ev₄ st₄ r₄ => ?_) (hX.trans (st.trans st₃))
    refine cmp_ok hA _ _ _ _ q₄ ρ μ₄ s₄ ev₄ _ _ (st₄.vr ev₃.rl ev₃.tb (st₃.vr ev₂.rl ev₂.tb r₂)) r₄ _ _ (fun v σ₅ μ₅ r s₅ q₅ ev₅ st₅ r₅ => ?_)
    exact truth_ok q₅ ev₅ r₅ (hQ.trans (((st.trans st₃).trans st₄).trans st₅))
  · exact q₃.elim
theorem te_ite {t a b : Expr} {pos : Pos} {P : BP} {P₁ P₂ : EP} (h₀ : TT c A env nm t P) (h₁ : TE c A env nm a P₁) (h₂ : TE c A env nm b P₂) :
    TE c A env nm (.IfExp t a b pos) fun ρ σ Q X => P ρ σ (fun r σ₁ => match r with | true => P₁ ρ σ₁ Q X | false => P₂ ρ σ₁ Q X) X := fun ρ σ Q X h μ s ev Q' E hQ hX => by
  refine IfExp_ (h₀ _ rfl ρ σ _ X h μ s ev _ E (fun v σ₁ μ₁ r s₁ q₁ ev₁ st₁ r₁ => ?_) hX)
  cases r₁
  cases v
  · exact h₂ ρ σ₁ Q X q₁ μ₁ s₁ ev₁ Q' E (hQ.trans st₁) (hX.trans st₁)
  · exact h₁ ρ σ₁ Q X q₁ μ₁ s₁ ev₁ Q' E (hQ.trans st₁) (hX.trans st₁)
end
end Mine
open PySem PySem.W PySem.Calls PyProof.Rows PySem.Spec
set_option linter.unusedVariables false
namespace Mine
theorem nsLookIn {h : Heap} {d : Addr} {m : Str → Option Value} (n : h.Ns d m) : ∃ od, h.get? d = some od ∧ ∀ name, lookIn name od = some (m name) := by
  obtain ⟨od, es, ep, e, hd, hk, hm⟩ := n
  refine ⟨od, e, fun name => ?_⟩
  have hany : es.toList.any (·.refKey) = false := by
    rw [List.any_eq_false]; intro x hx; obtain ⟨n, t, h⟩ := hk x (Array.mem_toList_iff.mp hx); simp [DictEntry.refKey, h]
  rw [← hm name]
  unfold lookIn
  rw [hd]
  dsimp only
  simp only [nsFind, findBy]
  rw [Array.find?_toList]
  cases q : Array.find? (fun e => e.key.isStr name) es with
  | some e => simp
  | none => rw [hany]; simp
def AkOk (c : Cx) (S : Sx) : Prop := ∀ C id, match S.ak C id with
  | .no => True
  | .own i => ∃ nm attr, S.nms[id]? = some nm ∧ (c.flds C)[i]? = some nm ∧ plainGet c.K C nm = true ∧ hasDictIn c.K C = true ∧ findIn c.K (.ref C) nm = some attr ∧ noGet c.K attr = true ∧
      findIn c.K (.ref C) "__setattr__" = some (some (.builtin "object.__setattr__")) ∧ plainOver c.K C = true ∧ takerIn c.K C nm = some none
  | .prop g st => ∃ nm p rest, S.nms[id]? = some nm ∧ plainGet c.K C nm = true ∧ hasDictIn c.K C = true ∧ findIn c.K (.ref C) nm = some (some (.ref p)) ∧
      specialIn c.K (.ref p) "__get__" = some (some (.builtin "property.__get__")) ∧ takesIn c.K (.ref p) = some true ∧ recIn c.K p "property" = some (.ref g :: rest) ∧
      ∀ f, st = some f → (∃ r', rest = .ref f :: r') ∧ findIn c.K (.ref C) "__setattr__" = some (some (.builtin "object.__setattr__")) ∧ plainOver c.K C = true ∧ takerIn c.K C nm = some (some (.ref p)) ∧ typeIn c.K (.ref p) = some (.type "property")
  | .meth f => ∃ nm, S.nms[id]? = some nm ∧ plainGet c.K C nm = true ∧ findIn c.K (.ref C) nm = some (some (.ref f)) ∧ isFn c.K (.ref f) = true ∧ nm ∉ c.flds C
def KsR (μ : Mp) (h : Heap) (ks : List (Str × V)) (ws : List (Str × Value)) : Prop := ws.map (·.1) = ks.map (·.1) ∧ VsR μ h (ks.map (·.2)) (ws.map (·.2))
/-- a call of a function of the module's, n deep -/
def FS (c : Cx) (Φ : Fn) (n : Nat) : Prop := ∀ f as ks σ Q X, Φ (.fn f) as ks σ Q X → ∀ A, AOk n A → ∀ μ s, St c A μ σ s → ∀ rs ws, VsR μ s.heap as rs → KsR μ s.heap ks ws → ∀ R : Result → Shared → Prop,
  (∀ v σ' μ' r s', Q v σ' → ok v → St c A μ' σ' s' → Stp c μ s.heap μ' s'.heap → VR μ' s'.heap v r → R (.ok (.ret r)) s') →
  (∀ x σ' μ' e s', X x σ' → St c A μ' σ' s' → Stp c μ s.heap μ' s'.heap → Xc c μ' s.heap e x s'.heap → R (.error (.ref e)) s') → codeAny (model c.prog c.w) A (.call (.ref f) ⟨rs, ws⟩) R s
/-- a call of a lambda -/
def LS (c : Cx) (Φ : Fn) (n : Nat) : Prop := ∀ ld as σ Q X, Φ (.lam ld) as [] σ Q X → ∀ A, AOk n A → ∀ μ s, St c A μ σ s → ∀ rf, VR μ s.heap (.lam ld) rf → ∀ rs, VsR μ s.heap as rs → ∀ R : Result → Shared → Prop,
  (∀ v σ' μ' r s', Q v σ' → ok v → St c A μ' σ' s' → Stp c μ s.heap μ' s'.heap → VR μ' s'.heap v r → R (.ok (.ret r)) s') →
  (∀ x σ' μ' e s', X x σ' → St c A μ' σ' s' → Stp c μ s.heap μ' s'.heap → Xc c μ' s.heap e x s'.heap → R (.error (.ref e)) s') → codeAny (model c.prog c.w) A (.call rf ⟨rs, []⟩) R s
section
variable {c : Cx} {A : Around} {env : Env} {nm : List (Str × Nat)} {μ μ' : Mp} {ρ : List V} {σ σ' : Hp} {s s' : Shared} {h h' : Heap}
theorem St.inst (ev : St c A μ σ s) {x : Nat} {C : Addr} {fs : List V} (e : σ.at_ x = some (.inst C fs)) :
    ∃ a d od m, μ x = some (a, d) ∧ s.heap.get? a = some (instObj C d) ∧ s.heap.get? d = some od ∧ od.cls = .type "dict" ∧ s.heap.Ns1 d m ∧ Within m (c.flds C) ∧ fs.length = (c.flds C).length ∧ ((c.flds C).Nodup ∧ (c.flds C).length ≤ 1000) ∧
      InstAt s.heap a (instObj C d) C (some od) ∧ (∀ name, lookIn name od = some (m name)) ∧
      ∀ (i : Nat) (v : V), fs[i]? = some v → (∃ nm, (c.flds C)[i]? = some nm ∧ ((v = .undef ∧ m nm = none) ∨ (ok v ∧ ∃ r, m nm = some r ∧ VR μ s.heap v r))) := by
  have d := ev.rl.dom x
  rw [e] at d
  cases q : μ x with
  | none => rw [q] at d; cases d
  | some p =>
    obtain ⟨a, b⟩ := p
    obtain ⟨o, y, z⟩ := ev.rl.obj x a b q
    rw [e] at y; cases y
    obtain ⟨f, ⟨od, g, gc⟩, ln, nd, m, hn, w, r⟩ := z
    obtain ⟨od', g', lk⟩ := nsLookIn hn.ns
    rw [g] at g'; cases g'
    exact ⟨a, b, od, m, rfl, f, g, gc, hn, w, ln, nd, ⟨f, rfl, rfl, g⟩, lk, r⟩
theorem St.toks {tk : Nat} (x : St c A μ σ s) : St c A μ σ { s with toks := tk } := x.step (s' := { s with toks := tk }) (.refl ..) x.rl x.tb rfl x.gn
theorem St.in1 (x : St c A μ σ s) : St c A.in1 μ σ s := ⟨x.rl, x.tb, x.fo, x.os, x.gn⟩
theorem St.around {A' : Around} (x : St c A μ σ s) (e : A'.frames = A.frames) : St c A' μ σ s := ⟨x.rl, x.tb, by rw [e]; exact x.fo, x.os, x.gn⟩
/-- reading an attribute -/
theorem attr_ok {S : Sx} {Φ : Fn} {n : Nat} (hA : AB n A) (hS : AkOk c S) (hF : FS c Φ n) {o : V} {id : Nat} {name : Str} (hn : S.nms[id]? = some name) {Q : V → Hp → Prop} {X : XP} (hq : pAttr S Φ o id σ Q X)
    (ev : St c A μ σ s) {ro : Value} (ho : VR μ s.heap o ro) {expr : Bool} {Q' : Value → Shared → Prop} {E : Value → Shared → Prop}
    (hQ : ∀ v σ' μ' r s', Q v σ' → St c A μ' σ' s' → Stp c μ s.heap μ' s'.heap → VR μ' s'.heap v r → Q' r s') : wpAny (model c.prog c.w) A (getAttr ro name expr) Q' E s := by
  unfold pAttr at hq
  split at hq
  · rename_i x
    split at hq
    · rename_i C fs e
      obtain ⟨a, d, od, m, e1, e2, e3, e4, hn1, hw, hln, hnd, I, lk, f⟩ := ev.inst e
      obtain ⟨a', d', e1', rfl⟩ := ho
      rw [e1] at e1'; cases e1'
      have K := hS C id
      have XX := c.X0.keeps ev.rl.base
      split at hq
      · rename_i i hak
        rw [hak] at K
        obtain ⟨nm, attr, k1, k2, k3, k4, k5, k6, _⟩ := K
        rw [hn] at k1; cases k1
        split at hq
        · rename_i v hv
          obtain ⟨hok, hq⟩ := hq
          obtain ⟨nm, g1, g2⟩ := f i v hv
          rw [k2] at g1; cases g1
          rcases g2 with ⟨rfl, _⟩ | ⟨_, r, g3, g4⟩
          · exact hok.elim
          · exact get_value XX I (plainGet_of k3).1 (findObj_own k4 k5 k6 ((lk _).trans (by rw [g3]))) (g4.handed hok) (hQ v σ μ r _ hq ev.toks (.refl ..) g4)
        · exact hq.elim
      · rename_i g st hak
        rw [hak] at K
        obtain ⟨nm, p, rest, k1, k2, k3, k4, k5, k6, k7, _⟩ := K
        rw [hn] at k1; cases k1
        refine get_bind XX I (plainGet_of k2).1 (findObj_data (by obtain ⟨cd, hc, _⟩ := any_some k3; rw [hc]; rfl) k4 k5 k6) (plainGet_of k2).2 (wpAny_call (prop_get (s := { s with toks := s.toks + 1 }) XX k7 ?_))
        refine hF _ _ _ _ _ _ hq A.in1 (hA.more rfl rfl (Nat.le_add_right _ _) (by show A.units + 1 ≤ _; omega)) μ _ ev.in1.toks _ [] (VsR.cons ⟨_, _, e1, rfl⟩ .nil) ⟨rfl, .nil⟩ _ (fun v σ' μ' r s' hv hok ev' st' hr => ?_) fun x σ' μ' e s' hx => ?_
        · exact handed_on (hr.handed hok) (hQ v σ' μ' r s' hv ⟨ev'.rl, ev'.tb, ev'.fo, ev'.os, ev'.gn⟩ st' hr)
        · exact hx.elim
      · exact hq.elim
    · exact hq.elim
  · exact hq.elim
end
end Mine
open PySem PySem.W PySem.Calls PyProof.Rows PySem.Spec
set_option linter.unusedVariables false
namespace Mine
theorem star_all : ∀ (es : List Expr) (env : Env) (pos : Pos), es.all noStar = true → (backTo pos (starEach es env)).any (·.1) = false ∧ (backTo pos (starEach es env)).all (!·.1) = true
  | [], _, _, _ => ⟨rfl, rfl⟩
  | e :: r, env, pos, h => by
    rw [List.all_cons, Bool.and_eq_true] at h
    obtain ⟨a, b⟩ := star_all r env pos h.2
    rw [star_cons h.1]
    exact ⟨by simp [a], by simp [b]⟩
theorem kw_all : ∀ (ks : List Keyword) (env : Env) (pos : Pos), ks.all (·.arg.isSome) = true → (backToKw pos (keywordEach ks env)).all (·.1.isSome) = true ∧ (backToKw pos (keywordEach ks env)).any (·.1.isNone) = false ∧ (backToKw pos (keywordEach ks env)).filterMap (·.1) = ks.filterMap (·.arg)
  | [], _, _, _ => ⟨rfl, rfl, rfl⟩
  | ⟨a, e, p⟩ :: r, env, pos, h => by
    rw [List.all_cons, Bool.and_eq_true] at h
    obtain ⟨x, y, z⟩ := kw_all r env pos h.2
    have h1 := h.1
    dsimp only at h1
    obtain ⟨a, rfl⟩ := Option.isSome_iff_exists.mp h1
    refine ⟨?_, ?_, ?_⟩
    · exact x
    · exact y
    · show List.filterMap _ ((some a, _) :: _) = _
      simp only [List.filterMap_cons]
      exact congrArg _ z
theorem KsR.zip {μ : Mp} {h : Heap} : ∀ (kn : List Str) {ws : List V} {ts : List Value}, VsR μ h ws ts → KsR μ h (kn.zip ws) (kn.zip ts)
  | [], _, _, _ => by simp [KsR]; exact VsR.nil
  | k :: kn, [], _, x => by rw [show _ = [] from x]; exact ⟨rfl, VsR.nil⟩
  | k :: kn, w :: ws, _, x => by
    obtain ⟨r, rs, rfl, f, g⟩ := x
    obtain ⟨a, b⟩ := KsR.zip kn g
    exact ⟨by simp [a], VsR.cons f b⟩
section
variable {c : Cx} {A : Around} {env : Env} {nm : List (Str × Nat)} {μ μ' : Mp} {ρ : List V} {σ σ' : Hp} {s s' : Shared} {h h' : Heap}
abbrev LP := List V → Hp → (List V → Hp → Prop) → XP → Prop
abbrev TK (c : Cx) (A : Around) (env : Env) (nm : List (Str × Nat)) (pos : Pos) (ks : List Keyword) (P : LP) : Prop := TG c A env nm VsR (evalAll ((backToKw pos (keywordEach ks env)).map (·.2))) P
theorem tk_nil {pos : Pos} : TK c A env nm pos [] fun _ σ Q _ => Q [] σ := fun ρ σ Q X h μ s ev Q' E hQ _ => kwAll_nil (hQ.here h ev .nil)
theorem tk_cons {a : Str} {e : Expr} {p : Pos} {r : List Keyword} {pos : Pos} {P : EP} {P' : LP} (h₁ : TE c A env nm e P) (h₂ : TK c A env nm pos r P') :
    TK c A env nm pos (⟨some a, e, p⟩ :: r) fun ρ σ Q X => P ρ σ (fun v σ₁ => P' ρ σ₁ (fun vs σ₂ => Q (v :: vs) σ₂) X) X := fun ρ σ Q X h μ s ev Q' E hQ hX => by
  refine kwAll_cons (h₁ ρ σ _ X h μ s ev _ E (fun v σ₁ μ₁ ra s₁ q₁ ev₁ st₁ r₁ => ?_) hX)
  refine h₂ ρ σ₁ _ X q₁ μ₁ s₁ ev₁ _ E (fun vs σ₂ μ₂ rb s₂ q₂ ev₂ st₂ r₂ => ?_) (hX.trans st₁)
  exact hQ _ _ _ _ _ q₂ ev₂ (st₁.trans st₂) (VsR.cons (st₂.vr ev₁.rl ev₁.tb r₁) r₂)
/-- the arguments of a call, positions then names -/
theorem args_ok {f : Value} {es : List Expr} {ks : List Keyword} {pos : Pos} {P₁ P₂ : LP} (h₁ : TL c A env nm pos es P₁) (h₂ : TK c A env nm pos ks P₂) (hs : es.all noStar = true) (hk : ks.all (·.arg.isSome) = true) (hnil : es = [] → ∀ ρ σ Q X, P₁ ρ σ Q X → Q [] σ)
    {Q : List V → List V → Hp → Prop} {X : XP} (hq : P₁ ρ σ (fun vs σ₁ => P₂ ρ σ₁ (fun ws σ₂ => Q vs ws σ₂) X) X) (ev : Ev c A env nm μ ρ σ s) {Q' : Args → Shared → Prop} {E : Value → Shared → Prop}
    (hQ : ∀ vs ws σ' μ' rs ts s', Q vs ws σ' → Ev c A env nm μ' ρ σ' s' → Stp c μ s.heap μ' s'.heap → VsR μ' s'.heap vs rs → VsR μ' s'.heap ws ts → Q' ⟨rs, (ks.filterMap (·.arg)).zip ts⟩ s')
    (hX : PX c A env nm ρ μ s X E) : wpAny (model c.prog c.w) A (evalArgs f true (backTo pos (starEach es env)) (backToKw pos (keywordEach ks env))) Q' E s := by
  have hk3 := (kw_all ks env pos hk).2.2
  cases es with
  | nil =>
    refine evalArgs_kw2_nil (kw_all ks env pos hk).1 ?_
    rw [hk3]
    refine h₂ ρ σ _ X (hnil rfl ρ σ _ X hq) μ s ev _ E (fun ws σ₂ μ₂ ts s₂ q₂ ev₂ st₂ r₂ => ?_) hX
    exact hQ _ _ _ _ _ _ _ q₂ ev₂ st₂ .nil r₂
  | cons e rest =>
    have hs1 : noStar e = true := by rw [List.all_cons, Bool.and_eq_true] at hs; exact hs.1
    refine evalArgs_kw2 (kw_all ks env pos hk).1 ?_ (by cases e <;> first | rfl | cases hs1)
    rw [hk3]
    refine h₁ ρ σ _ X hq μ s ev _ E (fun vs σ₁ μ₁ rs s₁ q₁ ev₁ st₁ r₁ => ?_) hX
    refine h₂ ρ σ₁ _ X q₁ μ₁ s₁ ev₁ _ E (fun ws σ₂ μ₂ ts s₂ q₂ ev₂ st₂ r₂ => ?_) (hX.trans st₁)
    exact hQ _ _ _ _ _ _ _ q₂ ev₂ (st₁.trans st₂) (st₂.vsr ev₁.rl ev₁.tb r₁) r₂
/-- a call of the module's function, or of its class, by name -/
theorem te_fcall {n : Nat} (hA : AOk n A) {Φ : Fn} (hF : FS c Φ n) {sc : Scope} (K : EOk env sc) {x : Str} {f : Addr} (hg : globIn c.K x = some (.ref f)) (hkd : sc.names.lookup x = some .globalImplicit) (hd : (x == ("__debug__" : Str)) = false)
    (hkeep : keepIn c.K (.ref f) = true) {es : List Expr} {ks : List Keyword} {p pos : Pos} {P₁ P₂ : LP} (h₁ : TL c A env nm pos es P₁) (h₂ : TK c A env nm pos ks P₂) (hs : es.all noStar = true) (hk : ks.all (·.arg.isSome) = true)
    (hnil : es = [] → ∀ ρ σ Q X, P₁ ρ σ Q X → Q [] σ) :
    TE c A env nm (.Call (.Name x p) es ks pos) fun ρ σ Q X => P₁ ρ σ (fun vs σ₁ => P₂ ρ σ₁ (fun ws σ₂ => Φ (.fn f) vs ((ks.filterMap (·.arg)).zip ws) σ₂ Q X) X) X := fun ρ σ Q X h μ s ev Q' E hQ hX => by
  refine wpAny_Call_Name_kw (te_glob K hg hkd hd ρ σ (fun v σ' => v = .k (.ref f) ∧ σ' = σ) (fun _ _ => False) ⟨rfl, rfl⟩ μ s ev _ E (fun v σ₁ μ₁ r s₁ q₁ ev₁ st₁ r₁ => ?_) (fun _ _ _ _ _ z => z.elim))
  obtain ⟨rfl, rfl⟩ := q₁
  rw [show r = .ref f from r₁]
  refine callWith_of (by rw [(star_all es env pos hs).1, (kw_all ks env pos hk).2.1]; rfl) (keeps_K hkeep) ?_
  refine args_ok h₁ h₂ hs hk hnil (X := X) h ev₁ (fun vs ws σ₂ μ₂ rs ts s₂ q₂ ev₂ st₂ r₂ r₃ => ⟨c.X0.keeps ev₂.rl.base, wpAny_call ?_⟩) (hX.trans st₁)
  refine hF _ _ _ _ _ _ q₂ A hA μ₂ s₂ ev₂.toSt _ _ r₂ ?_ _ (fun v σ' μ' r s' hv hok ev' st' hr => ?_) fun x σ' μ' e s' hx ev' st' xc => ?_
  · exact KsR.zip _ r₃
  · exact hQ _ _ _ _ _ hv (ev₂.back st' ev') ((st₁.trans st₂).trans st') hr
  · exact (hX.trans (st₁.trans st₂)) _ _ _ _ _ hx (ev₂.back st' ev') st' xc
end
end Mine
open PySem PySem.W PySem.Calls PyProof.Rows PySem.Spec
set_option linter.unusedVariables false
namespace Mine
def noCall : Expr → Bool
  | .Call .. => false
  | _ => true
theorem base_eq {o : Expr} (ho : noCall o = true) (attr : Str) (env : Env) (w : Sem Value) : attributeBase o attr env w = w := by
  cases o <;> first | rfl | cases ho
section
variable {c : Cx} {A : Around} {env : Env} {nm : List (Str × Nat)} {μ μ' : Mp} {ρ : List V} {σ σ' : Hp} {s s' : Shared} {h h' : Heap}
theorem te_attr {S : Sx} {Φ : Fn} {n : Nat} (hA : AB n A) (hS : AkOk c S) (hF : FS c Φ n) {e : Expr} {name : Str} {id : Nat} {pos : Pos} {P : EP} (he : noCall e = true) (hn : S.nms[id]? = some name) (h₁ : TE c A env nm e P) :
    TE c A env nm (.Attribute e name pos) fun ρ σ Q X => P ρ σ (fun o σ₁ => pAttr S Φ o id σ₁ Q X) X := fun ρ σ Q X h μ s ev Q' E hQ hX => by
  refine Attribute_any_ (h₁ ρ σ _ X h μ s ev _ E (fun v σ₁ μ₁ r s₁ q₁ ev₁ st₁ r₁ => ?_) hX) (by rw [arm_eval_Attribute, base_eq he])
  exact attr_ok hA hS hF hn q₁ ev₁.toSt r₁ fun v σ' μ' r s' hv ev' st' hr => hQ _ _ _ _ _ hv (ev₁.back st' ev') (st₁.trans st') hr
/-- a method's place in a text: one row -/
theorem eval_meth {o : Expr} {name : Str} {apos pos : Pos} {args : List Expr} {kws : List Keyword} (ho : noCall o = true) (hs : args.all noStar = true) (hk : kws.all (·.arg.isSome) = true) (hl : args.length + kws.length + 1 < 30) (hp : (apos.endLine == pos.line) = true) :
    ∃ pl, eval (.Call (.Attribute o name apos) args kws pos) env = (do
      let ov ← eval o env
      standAt apos.atName
      let (f, first) ← holding [ov] (getMethod ov name pl)
      callWith pos f first (backTo pos (starEach args env)) (backToKw pos (keywordEach kws env))) := by
  refine ⟨(do return (← importBound o env).getD true), ?_⟩
  rw [arm_eval_Call, base_eq ho]
  have few : methodCallForm (args.length + kws.length) (backTo pos (starEach args env)) (backToKw pos (keywordEach kws env)) = true := by
    unfold methodCallForm
    rw [(star_all args env pos hs).2, (kw_all kws env pos hk).1]
    simp only [Bool.true_and, decide_eq_true_eq]
    split <;> omega
  have e2 : methodCallPos true o env apos pos = pure pos := by unfold methodCallPos; rw [hp]; rfl
  unfold methodCall
  rw [few, e2]
  rfl
theorem te_meth {S : Sx} {Φ : Fn} {n : Nat} (hA : AB n A) (hS : AkOk c S) (hF : FS c Φ n) (hkf : ∀ C id f, S.ak C id = .meth f → keepIn c.K (.ref f) = true)
    {o : Expr} {name : Str} {id : Nat} {apos pos : Pos} {es : List Expr} {ks : List Keyword} {P : EP} {P₁ P₂ : LP} (ho : noCall o = true) (hn : S.nms[id]? = some name) (hl : es.length + ks.length + 1 < 30) (hp : (apos.endLine == pos.line) = true)
    (h₀ : TE c A env nm o P) (h₁ : TL c A env nm pos es P₁) (h₂ : TK c A env nm pos ks P₂) (hs : es.all noStar = true) (hk : ks.all (·.arg.isSome) = true) (hnil : es = [] → ∀ ρ σ Q X, P₁ ρ σ Q X → Q [] σ) :
    TE c A env nm (.Call (.Attribute o name apos) es ks pos) fun ρ σ Q X => P ρ σ (fun vo σ₁ => pMeth S vo id σ₁ fun f => P₁ ρ σ₁ (fun vs σ₂ => P₂ ρ σ₂ (fun ws σ₃ => Φ (.fn f) (vo :: vs) ((ks.filterMap (·.arg)).zip ws) σ₃ Q X) X) X) X := fun ρ σ Q X h μ s ev Q' E hQ hX => by
  obtain ⟨pl, he⟩ := eval_meth (env := env) (name := name) ho hs hk hl hp
  refine methodCall_KW (pl := pl) (h₀ ρ σ _ X h μ s ev _ E (fun vo σ₁ μ₁ r s₁ q₁ ev₁ st₁ r₁ => ?_) hX) he
  unfold pMeth at q₁
  dsimp only at q₁
  split at q₁
  case h_2 => exact q₁.elim
  rename_i x
  split at q₁
  case h_2 => exact q₁.elim
  rename_i C fs e
  split at q₁
  case h_2 => exact q₁.elim
  rename_i f hak
  obtain ⟨a, d, od, m, e1, e2, e3, e4, hn1, hw, hln, hnd, I, lk, ff⟩ := ev₁.toSt.inst e
  obtain ⟨a', d', e1', rfl⟩ := r₁
  rw [e1] at e1'; cases e1'
  have K := hS C id
  rw [hak] at K
  obtain ⟨nm', k1, k2, k3, k4, k5⟩ := K
  rw [hn] at k1; cases k1
  have hmn : m name = none := by
    cases q : m name with
    | none => rfl
    | some v => exact absurd (hw name (by rw [q]; simp)) k5
  refine method_fn (c.X0.keeps ev₁.rl.base) I (plainGet_of k2).1 (plainGet_of k2).2 k3 (beq_iff_eq.mp k4) (by show (lookIn name od).map _ = _; rw [lk, hmn]; rfl) ?_
  refine callWith_of (by rw [(star_all es env pos hs).1, (kw_all ks env pos hk).2.1]; rfl) (keeps_K (hkf _ _ _ hak)) ?_
  refine args_ok h₁ h₂ hs hk hnil (X := X) q₁ ev₁ (fun vs ws σ₂ μ₂ rs ts s₂ q₂ ev₂ st₂ r₂ r₃ => ⟨c.X0.keeps ev₂.rl.base, wpAny_call ?_⟩) (hX.trans st₁)
  have hx : VR μ₂ s₂.heap (.ref x) (.ref a) := ⟨a, d, st₂.sub _ _ e1, rfl⟩
  refine hF _ _ _ _ _ _ q₂ A hA.ok μ₂ s₂ ev₂.toSt _ _ (VsR.cons hx r₂) (KsR.zip _ r₃) _ (fun v σ' μ' r s' hv hok ev' st' hr => ?_) fun x σ' μ' e s' hx ev' st' xc => ?_
  · exact hQ _ _ _ _ _ hv (ev₂.back st' ev') ((st₁.trans st₂).trans st') hr
  · exact (hX.trans (st₁.trans st₂)) _ _ _ _ _ hx (ev₂.back st' ev') st' xc
end
end Mine
open PySem PySem.W PySem.Calls PyProof.Rows PySem.Spec
set_option linter.unusedVariables false
namespace Mine
section
variable {c : Cx} {A : Around} {env : Env} {nm : List (Str × Nat)} {μ μ' : Mp} {ρ : List V} {σ σ' : Hp} {s s' : Shared} {h h' : Heap}
/-- a lambda called by its name -/
theorem te_lcall {S : Sx} {Φ : Fn} {n : Nat} (hA : AOk n A) (hF : LS c Φ n) {x : Str} {i : Nat} {es : List Expr} {p pos : Pos} {P : EP} {P₁ : LP} (h₀ : TE c A env nm (.Name x p) P)
    (h₁ : TL c A env nm pos es P₁) (hs : es.all noStar = true) (hnil : es = [] → ∀ ρ σ Q X, P₁ ρ σ Q X → Q [] σ) :
    TE c A env nm (.Call (.Name x p) es [] pos) fun ρ σ Q X => P ρ σ (fun f σ₁ => (∃ ld, f = .lam ld) ∧ P₁ ρ σ₁ (fun vs σ₂ => pLcall S Φ f vs σ₂ Q X) X) X := fun ρ σ Q X h μ s ev Q' E hQ hX => by
  refine wpAny_Call_Name_kw (h₀ ρ σ _ X h μ s ev _ E (fun v σ₁ μ₁ r s₁ q₁ ev₁ st₁ r₁ => ?_) hX)
  obtain ⟨⟨ld, rfl⟩, q₁⟩ := q₁
  obtain ⟨a, c', ctv, pm, oc, vs, t, rfl, f1, f2, f3, f4, f5⟩ := id r₁
  refine callWith_function_kw (o := kla_obj "<lambda>" ld.qual ld.params ld.body ld.scope [] pm c' ctv) (fd := kla_fn "<lambda>" ld.qual ld.params ld.body ld.scope [] pm (.ref c') ctv) ?_
  refine args_ok (ks := []) h₁ tk_nil hs rfl hnil (X := X) (Q := fun vs ws σ₂ => pLcall S Φ (.lam ld) vs σ₂ Q X) q₁ ev₁ (fun vs ws σ₂ μ₂ rs ts s₂ q₂ ev₂ st₂ r₂ r₃ => ⟨⟨st₂.imm ev₁.rl ev₁.tb _ _ ⟨.inr (.inr (.inl rfl)), trivial⟩ f1, rfl⟩, wpAny_call ?_⟩) (hX.trans st₁)
  refine hF _ _ _ _ _ q₂ A hA μ₂ s₂ ev₂.toSt _ (st₂.vr ev₁.rl ev₁.tb r₁) _ r₂ _ (fun v σ' μ' r s' hv hok ev' st' hr => ?_) fun x σ' μ' e s' hx ev' st' xc => ?_
  · exact hQ _ _ _ _ _ hv (ev₂.back st' ev') ((st₁.trans st₂).trans st') hr
  · exact (hX.trans (st₁.trans st₂)) _ _ _ _ _ hx (ev₂.back st' ev') st' xc
/-- xs.append(v) -/
theorem te_append {n : Nat} (hA : AB n A) {o : Expr} {apos pos : Pos} {es : List Expr} {P : EP} {P₁ : LP} (ho : noCall o = true) (hl : es.length + 1 < 30) (hp : (apos.endLine == pos.line) = true)
    (h₀ : TE c A env nm o P) (h₁ : TL c A env nm pos es P₁) (hs : es.all noStar = true) (hnil : es = [] → ∀ ρ σ Q X, P₁ ρ σ Q X → Q [] σ) :
    TE c A env nm (.Call (.Attribute o "append" apos) es [] pos) fun ρ σ Q X => P ρ σ (fun vo σ₁ => (∃ x vs, vo = .ref x ∧ σ₁.at_ x = some (.list vs)) ∧ P₁ ρ σ₁ (fun vs σ₂ => pBmeth .append vo vs σ₂ Q) X) X := fun ρ σ Q X h μ s ev Q' E hQ hX => by
  obtain ⟨pl, he⟩ := eval_meth (env := env) (name := "append") (kws := []) ho hs rfl (by simpa using hl) hp
  refine methodCall_KW (pl := pl) (h₀ ρ σ _ X h μ s ev _ E (fun vo σ₁ μ₁ r s₁ q₁ ev₁ st₁ r₁ => ?_) hX) he
  obtain ⟨⟨x, vs0, rfl, e⟩, q₁⟩ := q₁
  obtain ⟨a, its, n', e1, e2, e3, e4, e5⟩ := ev₁.list e
  obtain ⟨a', d', e1', rfl⟩ := r₁
  rw [e1] at e1'; cases e1'
  refine getMethod_list_append e2 rfl rfl ?_
  refine Calls.callWith_builtin (star_all es env pos hs).1 ?_
  refine args_ok (ks := []) h₁ tk_nil hs rfl hnil (X := X) (Q := fun vs ws σ₂ => pBmeth .append (.ref x) vs σ₂ Q) q₁ ev₁ (fun vs ws σ₂ μ₂ rs ts s₂ q₂ ev₂ st₂ r₂ r₃ => ?_) (hX.trans st₁)
  unfold pBmeth at q₂
  split at q₂
  · rename_i _ _ _ x' v w1 w2
    cases w2
    obtain ⟨vs, g1, g2, g3, q₂⟩ := q₂
    obtain ⟨r, rs', rfl, r4, r5⟩ := r₂
    rw [show rs' = [] from r5]
    obtain ⟨a2, its2, n2, i1, i2, i3, i4, i5⟩ := ev₂.list g1
    have i6 := st₂.sub _ _ e1
    rw [i1] at i6; cases i6
    refine wpAny_list_append_plain ⟨_, i2⟩ (fun h' hl' hs' => ?_) (by rw [i5]; exact Nat.le_trans i4 lim_le)
    obtain ⟨n3, hl'⟩ := hl'
    exact (hQ.trans (st₁.trans st₂)).update ev₂ (tk := s₂.toks) i1 hs' hl' (by rw [Array.toList_push]; exact i3.append (VsR.cons r4 .nil)) (by rw [List.length_append]; exact g2) q₂ rfl
  · exact q₂.elim
theorem zip_nil_l {α β : Type} (l : List β) : ([] : List α).zip l = [] := by simp
/-- a call of a built-in function, or of a built-in class, by its name -/
theorem te_bcall {sc : Scope} (K : EOk env sc) {x : Str} {fv : Value} (hg : globIn c.K x = some fv) (hkd : sc.names.lookup x = some .globalImplicit) (hd : (x == ("__debug__" : Str)) = false) (hfv : (∃ i, fv = .builtin i) ∨ ∃ T, fv = .type T)
    {es : List Expr} {p pos : Pos} {P₁ : LP} (h₁ : TL c A env nm pos es P₁) (hs : es.all noStar = true) (hnil : es = [] → ∀ ρ σ Q X, P₁ ρ σ Q X → Q [] σ) {O : List V → Hp → (V → Hp → Prop) → Prop}
    (hO : ∀ vs σ Q, O vs σ Q → ∀ ρ μ s, Ev c A env nm μ ρ σ s → ∀ rs, VsR μ s.heap vs rs → ∀ Q' E, PG c A env nm VR ρ μ s Q Q' → wpAny (model c.prog c.w) A (call fv rs) Q' E s) :
    TE c A env nm (.Call (.Name x p) es [] pos) fun ρ σ Q X => P₁ ρ σ (fun vs σ₁ => O vs σ₁ Q) X := fun ρ σ Q X h μ s ev Q' E hQ hX => by
  refine wpAny_Call_Name_kw (te_glob K hg hkd hd ρ σ (fun v σ' => v = ofVal fv ∧ σ' = σ) (fun _ _ => False) ⟨rfl, rfl⟩ μ s ev _ E (fun v σ₁ μ₁ r s₁ q₁ ev₁ st₁ r₁ => ?_) (fun _ _ _ _ _ z => z.elim))
  obtain ⟨rfl, rfl⟩ := q₁
  have hr : r = fv := by rcases hfv with ⟨i, rfl⟩ | ⟨T, rfl⟩ <;> exact r₁
  subst hr
  have key : wpAny (model c.prog c.w) A (evalArgs r true (backTo pos (starEach es env)) (backToKw pos (keywordEach [] env))) (fun a s₁ => wpAny (model c.prog c.w) A (call r ([] ++ a.pos) a.kw) Q' E s₁) E s₁ :=
    args_ok (ks := []) h₁ tk_nil hs rfl hnil (X := X) (Q := fun vs ws σ₂ => O vs σ₂ Q) h ev₁ (fun vs ws σ₂ μ₂ rs ts s₂ q₂ ev₂ st₂ r₂ r₃ => hO _ _ _ q₂ ρ μ₂ s₂ ev₂ _ r₂ _ _ (hQ.trans (st₁.trans st₂))) (hX.trans st₁)
  rcases hfv with ⟨i, rfl⟩ | ⟨T, rfl⟩
  · exact Calls.callWith_builtin (star_all es env pos hs).1 key
  · exact PyProof.Rows.callWith_type (star_all es env pos hs).1 key
theorem len_ok {S : Sx} (Z : FrzOk c S) : ∀ vs σ Q, pBcall S .len vs σ Q → ∀ ρ μ s, Ev c A env nm μ ρ σ s → ∀ rs, VsR μ s.heap vs rs → ∀ Q' E, PG c A env nm VR ρ μ s Q Q' → wpAny (model c.prog c.w) A (call (.builtin "len") rs) Q' E s := by
  intro vs σ Q hq ρ μ s ev rs hr Q' E hQ
  unfold pBcall at hq
  dsimp only at hq
  split at hq
  · obtain ⟨r, _, rfl, ⟨t, rfl⟩, z⟩ := hr
    rw [show _ = [] from z]
    have hl := hq.1
    rw [lim_val] at hl
    exact len_str (by omega) (hQ.tok hq.2 ev ⟨_, rfl⟩)
  · rename_i x
    obtain ⟨vs, e0, hq⟩ := hq
    obtain ⟨r, _, rfl, r1, z⟩ := hr
    rw [show _ = [] from z]
    obtain ⟨a, its, n, rfl, f1, f2, f3, f4⟩ := listAt Z ev (v := .ref x) e0 r1
    rw [lim_val] at f3
    exact call_len_list (PySem.IsL.isList (n := n) f1) (by omega) (by rw [f4]; exact hQ.tok hq ev ⟨_, rfl⟩)
  · rename_i a
    obtain ⟨vs, e0, hq⟩ := hq
    obtain ⟨r, _, rfl, r1, z⟩ := hr
    rw [show _ = [] from z]
    have e0' : listItems S σ (.k a) = some vs := by cases a <;> first | exact e0 | cases e0
    obtain ⟨a, its, n, rfl, f1, f2, f3, f4⟩ := listAt Z ev e0' r1
    rw [lim_val] at f3
    exact call_len_list (PySem.IsL.isList (n := n) f1) (by omega) (by rw [f4]; exact hQ.tok hq ev ⟨_, rfl⟩)
  · exact hq.elim
theorem range_ok {S : Sx} : ∀ vs σ Q, pBcall S .range vs σ Q → ∀ ρ μ s, Ev c A env nm μ ρ σ s → ∀ rs, VsR μ s.heap vs rs → ∀ Q' E, PG c A env nm VR ρ μ s Q Q' → wpAny (model c.prog c.w) A (call (.type "range") rs) Q' E s := by
  intro vs σ Q hq ρ μ s ev rs hr Q' E hQ
  unfold pBcall at hq
  dsimp only at hq
  split at hq
  · obtain ⟨_, _, rfl, ⟨t, rfl⟩, z⟩ := hr
    rw [show _ = [] from z]
    exact call_range_1 (hQ.keep hq.2 ev (fun _ _ e => Heap.get?_push_of_some _ e) (by rw [Heap.size_push]; exact Nat.le_succ _) ⟨_, _, _, _, rfl, Heap.get?_push_size _ rfl⟩)
  · obtain ⟨_, _, rfl, ⟨t, rfl⟩, _, _, rfl, ⟨u, rfl⟩, z⟩ := hr
    rw [show _ = [] from z]
    exact call_range_2 (hQ.keep hq.2.2 ev (fun _ _ e => Heap.get?_push_of_some _ e) (by rw [Heap.size_push]; exact Nat.le_succ _) ⟨_, _, _, _, rfl, Heap.get?_push_size _ rfl⟩)
  · obtain ⟨_, _, rfl, ⟨t, rfl⟩, _, _, rfl, ⟨u, rfl⟩, _, _, rfl, ⟨v, rfl⟩, z⟩ := hr
    rw [show _ = [] from z]
    obtain ⟨h1, h2, h3, h4, hq⟩ := hq
    exact call_range_3 h4 (hQ.keep hq ev (fun _ _ e => Heap.get?_push_of_some _ e) (by rw [Heap.size_push]; exact Nat.le_succ _) ⟨_, _, _, _, rfl, Heap.get?_push_size _ rfl⟩) (.inl (PyProof.noPylong_small (by omega)))
  · exact hq.elim
end
end Mine
open PySem PySem.W PySem.Calls PyProof.Rows PySem.Spec
set_option linter.unusedVariables false
namespace Mine
section
variable {c : Cx} {A : Around} {env : Env} {nm : List (Str × Nat)} {μ μ' : Mp} {ρ : List V} {σ σ' : Hp} {s s' : Shared} {h h' : Heap}
theorem int_ok {S : Sx} : ∀ vs σ Q, pBcall S .int vs σ Q → ∀ ρ μ s, Ev c A env nm μ ρ σ s → ∀ rs, VsR μ s.heap vs rs → ∀ Q' E, PG c A env nm VR ρ μ s Q Q' → wpAny (model c.prog c.w) A (call (.type "int") rs) Q' E s := by
  intro vs σ Q hq ρ μ s ev rs hr Q' E hQ
  unfold pBcall at hq
  dsimp only at hq
  split at hq
  · obtain ⟨_, _, rfl, ⟨t, rfl⟩, z⟩ := hr
    rw [show _ = [] from z]
    exact call_int_int (hQ.here hq ev ⟨_, rfl⟩)
  · exact hq.elim
theorem floor_ok {S : Sx} {n : Nat} (hA : AOk n A) : ∀ vs σ Q, pBcall S .floor vs σ Q → ∀ ρ μ s, Ev c A env nm μ ρ σ s → ∀ rs, VsR μ s.heap vs rs → ∀ Q' E, PG c A env nm VR ρ μ s Q Q' → wpAny (model c.prog c.w) A (call (.builtin "math.floor") rs) Q' E s := by
  intro vs σ Q hq ρ μ s ev rs hr Q' E hQ
  unfold pBcall at hq
  dsimp only at hq
  split at hq
  · obtain ⟨_, _, rfl, ⟨t, rfl⟩, z⟩ := hr
    rw [show _ = [] from z]
    obtain ⟨hf, hq⟩ := hq
    exact Flt.call_floor_float hA.hh (fun e => by rw [Flt.not_nan_of_finite hf] at e; cases e) (fun e => by rw [Flt.not_inf_of_finite hf] at e; cases e) fun _ => hQ.tok hq ev ⟨_, rfl⟩
  · exact hq.elim
def isiT : BF → Option String
  | .isBool => some "bool"
  | .isInt => some "int"
  | _ => none
theorem isi_ok {S : Sx} {f : BF} {T : String} (hT : isiT f = some T) {v : V} {Q : V → Hp → Prop} (hq : pBcall S f [v] σ Q) (ev : Ev c A env nm μ ρ σ s) {r : Value} (hr : VR μ s.heap v r) {Q' : Value → Shared → Prop} {E : Value → Shared → Prop} (hQ : PG c A env nm VR ρ μ s Q Q') :
    wpAny (model c.prog c.w) A (call (.builtin "isinstance") [r, .type T]) Q' E s := by
  cases f <;> cases hT <;> unfold pBcall at hq <;> dsimp only at hq
  · split at hq
    · rename_i b e
      cases e
      rw [show r = .bool _ from hr]
      exact IsiPair.bool_bool (hQ.here hq ev rfl)
    · rename_i b e
      cases e
      obtain ⟨t, rfl⟩ := hr
      exact IsiPair.int_bool (hQ.tok hq ev rfl)
    · exact hq.elim
  · split at hq
    · rename_i b e
      cases e
      rw [show r = .bool _ from hr]
      exact IsiPair.bool_int (hQ.here hq ev rfl)
    · rename_i b e
      cases e
      obtain ⟨t, rfl⟩ := hr
      exact IsiPair.int_int (hQ.here hq ev rfl)
    · rename_i b e
      cases e
      obtain ⟨t, rfl⟩ := hr
      exact IsiPair.str_int (hQ.tok hq ev rfl)
    · exact hq.elim
theorem te_isi {S : Sx} {f : BF} {T : String} (hT : isiT f = some T) {sc : Scope} (K : EOk env sc) {x y : Str} (hg : globIn c.K x = some (.builtin "isinstance")) (hkd : sc.names.lookup x = some .globalImplicit) (hd : (x == ("__debug__" : Str)) = false)
    (hg2 : globIn c.K y = some (.type T)) (hkd2 : sc.names.lookup y = some .globalImplicit) (hd2 : (y == ("__debug__" : Str)) = false)
    {e : Expr} {p p2 pos : Pos} {P : EP} (h₁ : TE c A env nm e P) (hs : noStar e = true) :
    TE c A env nm (.Call (.Name x p) [e, .Name y p2] [] pos) fun ρ σ Q X => P ρ σ (fun v σ₁ => pBcall S f [v] σ₁ Q) X := fun ρ σ Q X h μ s ev Q' E hQ hX => by
  refine wpAny_Call_Name_kw (te_glob K hg hkd hd ρ σ (fun v σ' => v = .k (.builtin "isinstance") ∧ σ' = σ) (fun _ _ => False) ⟨rfl, rfl⟩ μ s ev _ E (fun v σ₁ μ₁ r s₁ q₁ ev₁ st₁ r₁ => ?_) (fun _ _ _ _ _ z => z.elim))
  obtain ⟨rfl, rfl⟩ := q₁
  rw [show r = .builtin "isinstance" from r₁]
  refine Calls.callWith_builtin (star_all _ env pos (by rw [List.all_cons, hs]; rfl)).1 ?_
  rw [star_cons hs]
  refine Calls.evalArgs_plain (Calls.spliced_cons (h₁ ρ σ₁ _ X h μ₁ s₁ ev₁ _ E (fun v σ₂ μ₂ rv s₂ q₂ ev₂ st₂ r₂ => ?_) (hX.trans st₁)))
  refine Calls.spliced_cons (te_glob K hg2 hkd2 hd2 ρ σ₂ (fun v σ' => v = .k (.type T) ∧ σ' = σ₂) (fun _ _ => False) ⟨rfl, rfl⟩ μ₂ s₂ ev₂ _ E (fun v' σ₃ μ₃ r3 s₃ q₃ ev₃ st₃ r₃ => ?_) (fun _ _ _ _ _ z => z.elim))
  obtain ⟨rfl, rfl⟩ := q₃
  rw [show r3 = .type T from r₃]
  refine Calls.spliced_nil ?_
  exact isi_ok hT q₂ ev₃ (st₃.vr ev₂.rl ev₂.tb r₂) (hQ.trans ((st₁.trans st₂).trans st₃))
end
end Mine
open PySem PySem.W PySem.Calls PyProof.Rows PySem.Spec
set_option linter.unusedVariables false
namespace Mine
section
variable {c : Cx} {A : Around} {env : Env} {nm : List (Str × Nat)} {μ μ' μ₀ : Mp} {ρ : List V} {σ σ' : Hp} {s s' : Shared} {h h' hb : Heap} {I J : Addr}
theorem Stp.but (S : Stp c μ₀ hb μ h) (hI : hb.objs.size ≤ I) (hJ : hb.objs.size ≤ J) (k : ∀ b o, b ≠ I → b ≠ J → h.get? b = some o → h'.get? b = some o) (hz : h.objs.size ≤ h'.objs.size) : Stp c μ₀ hb μ h' where
  sub := S.sub
  new := S.new
  kept := fun b o e f g => by
    obtain ⟨o', e', l⟩ := S.kept b o e f g
    have hl := Heap.lt_size e
    exact ⟨o', k _ _ (fun q => by rw [q] at hl; exact absurd hI (Nat.not_le.mpr hl)) (fun q => by rw [q] at hl; exact absurd hJ (Nat.not_le.mpr hl)) e', l⟩
  size := Nat.le_trans S.size hz
theorem St.but {A : Around} (x : St c A μ σ s) (p : Priv c μ s.heap I) (q : Priv c μ s.heap J) (k : ∀ b o, b ≠ I → b ≠ J → s.heap.get? b = some o → h'.get? b = some o) {tk : Nat} : St c A μ σ { s with heap := h', toks := tk } where
  rl := {
    base := fun b o e => k _ _ (fun z => by rw [z, p.h0] at e; cases e) (fun z => by rw [z, q.h0] at e; cases e) (x.rl.base b o e)
    dom := x.rl.dom
    fresh := x.rl.fresh
    obj := fun y a d e => by
      obtain ⟨o, f, g⟩ := x.rl.obj y a d e
      have i := p.off y a d e
      have j := q.off y a d e
      exact ⟨o, f, g.mono (fun _ _ z => z) (fun _ z => k _ _ (Ne.symm i.1) (Ne.symm j.1) z) (fun _ z => k _ _ (Ne.symm i.2) (Ne.symm j.2) z) fun b o im z => k _ _ (p.imm im z) (q.imm im z) z⟩
    inj := x.rl.inj
    off := x.rl.off }
  tb := fun t ht => by
    obtain ⟨ps, e, f, g⟩ := x.tb t ht
    refine ⟨ps, k _ _ (p.tab e) (q.tab e) e, f, fun pos cv z => ?_⟩
    obtain ⟨co, oc, vs, tt, a1, a2, a3, a4, a5⟩ := g pos cv z
    have im : Imm oc := ⟨.inr (.inr (.inr a3)), by rw [a4]; trivial⟩
    exact ⟨co, oc, vs, tt, a1, k _ _ (p.imm im a2) (q.imm im a2) a2, a3, a4, a5⟩
  fo := by
    obtain ⟨l, e, f⟩ := x.fo
    refine ⟨l, e, fun en hen => ?_⟩
    obtain ⟨a, L, m, b1, b2, b3, b4⟩ := f en hen
    obtain ⟨ob, es, ep, w, hd, r⟩ := b3
    exact ⟨a, L, m, b1, b2, ⟨ob, es, ep, k _ _ (p.ns ⟨ob, es, ep, w, hd, r⟩) (q.ns ⟨ob, es, ep, w, hd, r⟩) w, hd, r⟩, b4⟩
  os := x.os
  gn := x.gn
theorem Ev.but (x : Ev c A env nm μ ρ σ s) (p : Priv c μ s.heap I) (q : Priv c μ s.heap J) (k : ∀ b o, b ≠ I → b ≠ J → s.heap.get? b = some o → h'.get? b = some o) {tk : Nat} : Ev c A env nm μ ρ σ { s with heap := h', toks := tk } where
  toSt := x.toSt.but p q k
  hL := x.hL
  hC := x.hC
  lc := by
    have vm : ∀ {v r}, VR μ s.heap v r → VR μ h' v r := fun z => VR.mono (fun _ _ z => z) (fun b o im z => k _ _ (p.imm im z) (q.imm im z) z) _ _ z
    have cm : ∀ {b v}, s.heap.IsCell b v → h'.IsCell b v := fun {b v} ⟨o, e, d⟩ => ⟨o, k _ _ (p.cell ⟨o, e, d⟩) (q.cell ⟨o, e, d⟩) e, d⟩
    refine ⟨?_, fun y i a b => ?_, x.lc.offL, x.lc.offC, fun z hz => ?_, x.lc.ap, x.lc.one⟩
    · obtain ⟨m, ⟨ob, es, ep, w, hd, r⟩, f⟩ := x.lc.ns
      refine ⟨m, ⟨ob, es, ep, k _ _ (p.ns ⟨ob, es, ep, w, hd, r⟩) (q.ns ⟨ob, es, ep, w, hd, r⟩) w, hd, r⟩, fun y i a b v d e => ?_⟩
      obtain ⟨r, g, z⟩ := f y i a b v d e
      exact ⟨r, g, vm z⟩
    · obtain ⟨ca, ov, e, f, g⟩ := x.lc.cl y i a b
      exact ⟨ca, ov, e, cm f, fun v d e => let ⟨r, g, z⟩ := g v d e; ⟨r, g, vm z⟩⟩
    · obtain ⟨ov, w⟩ := x.lc.cA z hz
      exact ⟨ov, cm w⟩
theorem Priv.stp (p : Priv c μ h I) (S : Stp c μ h μ' h') (t : TabsOk c h) : Priv c μ' h' I where
  h0 := p.h0
  off := by obtain ⟨o, e, _⟩ := p.ob; exact S.off (Heap.lt_size e) p.off
  ob := by
    obtain ⟨o, e, d⟩ := p.ob
    obtain ⟨o', e', l⟩ := S.kept I o e p.off fun q hq z => by
      obtain ⟨ps, f, _⟩ := t q hq
      exact p.tab f z
    rcases l with rfl | ⟨⟨es, n, w⟩, _⟩
    · exact ⟨_, e', d⟩
    · have := d.2.2; rw [w] at this; exact this.elim
theorem Priv.keep (p : Priv c μ h I) (S : Stp c μ h μ' h') (t : TabsOk c h) : ∀ o, h.get? I = some o → h'.get? I = some o := fun o e => by
  obtain ⟨o1, e1, d⟩ := p.ob
  rw [e1] at e; cases e
  obtain ⟨o', e', l⟩ := S.kept I _ e1 p.off fun q hq z => by
      obtain ⟨ps, f, _⟩ := t q hq
      exact p.tab f z
  rcases l with rfl | ⟨⟨es, n, w⟩, _⟩
  · exact e'
  · have := d.2.2; rw [w] at this; exact this.elim
def ItS (c : Cx) (μ : Mp) (h : Heap) (I : Addr) (i : Nat) : It → Prop
  | .lst x _ => ∃ a, μ x = some (a, a) ∧ h.IsListIter I a i
  | .frz a vs => (∃ its n, c.H0.get? a = some (listOf its n) ∧ ∀ μ h, VsR μ h vs its.toList) ∧ h.IsListIter I a i
  | .tup vs => ∃ t its n, h.get? t = some (tupOf its n) ∧ VsR μ h vs its.toList ∧ h.IsTupleIter I t i
  | .rng a b d => IsRangeIter h I (a + i * d) (Builtin.Range.rangeSize a b d - i) d
  | .str x => ∃ t, h.IsStrIter I "str_ascii_iterator" x t i
  | .enum _ => False
def ItE (c : Cx) (μ : Mp) (h : Heap) (I J : Addr) (i : Nat) : It → Prop
  | .enum it => isLst it = true ∧ ItS c μ h J i it ∧ I ≠ J ∧ ∃ old, IsEnum h I J i old
  | it => J = I ∧ ItS c μ h I i it
theorem ItS.move {it : It} {i : Nat} (x : ItS c μ h I i it) (hs : Sub μ μ') (im : ∀ b o, Imm o → h.get? b = some o → h'.get? b = some o) (k : ∀ o, h.get? I = some o → h'.get? I = some o) : ItS c μ' h' I i it := by
  cases it with
  | lst x n => obtain ⟨a, e, o, f, g⟩ := x; exact ⟨a, hs _ _ e, o, k _ f, g⟩
  | frz a vs => obtain ⟨r, o, f, g⟩ := x; exact ⟨r, o, k _ f, g⟩
  | tup vs => obtain ⟨t, its, n, e1, e2, o, f, g⟩ := x; exact ⟨t, its, n, im _ _ ⟨.inl rfl, trivial⟩ e1, VsR.mono hs im _ _ e2, o, k _ f, g⟩
  | rng a b d => exact k _ x
  | str x' => obtain ⟨t, o, f, g⟩ := x; exact ⟨t, o, k _ f, g⟩
  | enum it => cases x
theorem ItE.move {it : It} {i : Nat} (x : ItE c μ h I J i it) (hs : Sub μ μ') (im : ∀ b o, Imm o → h.get? b = some o → h'.get? b = some o) (k : ∀ o, h.get? I = some o → h'.get? I = some o) (k' : ∀ o, h.get? J = some o → h'.get? J = some o) : ItE c μ' h' I J i it := by
  cases it with
  | enum it => obtain ⟨a, b, d, old, e⟩ := x; exact ⟨a, b.move hs im k', d, old, k _ e⟩
  | lst _ _ => exact ⟨x.1, x.2.move hs im k⟩
  | frz _ _ => exact ⟨x.1, x.2.move hs im k⟩
  | tup _ => exact ⟨x.1, x.2.move hs im k⟩
  | rng _ _ _ => exact ⟨x.1, x.2.move hs im k⟩
  | str _ => exact ⟨x.1, x.2.move hs im k⟩
end
end Mine
open PySem PySem.W PySem.Calls PyProof.Rows PySem.Spec
set_option linter.unusedVariables false
namespace Mine
def isTup : Expr → Bool
  | .Tuple .. => true
  | _ => false
section
variable {c : Cx} {A : Around} {env : Env} {nm : List (Str × Nat)} {μ μ' μ₀ : Mp} {ρ : List V} {σ σ' : Hp} {s s' : Shared} {h h' hb : Heap} {I J : Addr} {E : Value → Shared → Prop}
theorem letOwned_not {target : Expr} {v : Value} {o : Obj} {vs : Array Value} {T : String} (e : s.heap.get? I = some o) (d : o.data = .fields vs) (cl : o.cls = .type T)
    (hT : T = "list_iterator" ∨ T = "tuple_iterator" ∨ T = "range_iterator" ∨ T = "str_ascii_iterator") {Q : Unit → Shared → Prop} (h : Q () s) : wpAny (model c.prog c.w) A (letOwnedTupleGo target (.ref I) v) Q E s := by
  have body : wpAny (model c.prog c.w) A (do
      let (.ref r, .ref a) := ((.ref I : Value), v) | return
      let o ← load r
      match o.cls, o.data with
      | .type n, .fields vs =>
        if ["enumerate", "zip", "dict_itemiterator", "dict_reverseitemiterator", "odict_iterator", "itertools.zip_longest", "itertools.pairwise"].contains n && vs[0]? == some (rawInt a) then
          rule "for.unpacks-the-owned-tuple"
          updateField r 0 .none
      | _, _ => pure ()) Q E s := by
    cases v <;> try exact wpAny_pure h
    refine wpAny_bind (wpAny_load e ?_)
    rw [d, cl]
    have hc : (["enumerate", "zip", "dict_itemiterator", "dict_reverseitemiterator", "odict_iterator", "itertools.zip_longest", "itertools.pairwise"] : List String).contains T = false := by
      rcases hT with rfl | rfl | rfl | rfl <;> decide
    dsimp only
    rw [hc, Bool.false_and]
    exact wpAny_pure h
  cases target <;> first | exact wpAny_pure h | exact body
theorem lst_at {it : It} {i : Nat} (hl : isLst it = true) (x : ItS c μ s.heap I i it) (ev : Ev c A env nm μ ρ σ s) (live : it.live σ) :
    ∃ a its n0 ws, s.heap.IsListIter I a i ∧ s.heap.get? a = some (listOf its n0) ∧ VsR μ s.heap ws its.toList ∧ ws.length = it.n ∧ its.size = ws.length ∧ (∀ j, it.get j σ = ws[j]?) ∧ ∀ h' j, h'.IsListIter I a j → ItS c μ h' I j it := by
  cases it <;> first | (cases hl; done) | skip
  · rename_i y n
    obtain ⟨a, e, f⟩ := x
    obtain ⟨ws, g, hn⟩ := live
    obtain ⟨a', its, n0, e', g2, g3, g4, g5⟩ := ev.list g
    rw [e] at e'; cases e'
    exact ⟨a, its, n0, ws, f, g2, g3, hn, g5, fun j => by simp [It.get, g], fun h' j z => ⟨a, e, z⟩⟩
  · rename_i a vs
    obtain ⟨⟨its, n0, e, g⟩, f⟩ := x
    have := (g μ s.heap).length
    exact ⟨a, its, n0, vs, f, ev.rl.base _ _ e, g _ _, rfl, by rwa [Array.length_toList] at this, fun j => rfl, fun h' j z => ⟨⟨its, n0, e, g⟩, z⟩⟩
theorem Priv.new {μ' : Mp} (p : Priv c μ h I) {o : Obj} {vs : Array Value} {T : String} (e : h'.get? I = some o) (d : o.data = .fields vs) (cl : o.cls = .type T) (m : T ∈ iterCls) : Priv c μ h' I := ⟨p.h0, p.off, o, e, .iter d cl m⟩
theorem next_ok {n : Nat} (hA : AOk n A) {it : It} {i : Nat} (x : ItE c μ s.heap I J i it) (ev : Ev c A env nm μ ρ σ s) (p : Priv c μ s.heap I) (q : Priv c μ s.heap J) (live : it.live σ) {target : Expr} (ht : ∀ it', it = .enum it' → isTup target = true)
    (hi : i ≤ it.n) {K : Value → Shared → Prop} {N : Shared → Prop}
    (hN : i = it.n → ∀ h', (∀ b o, b ≠ I → b ≠ J → s.heap.get? b = some o → h'.get? b = some o) → N { s with heap := h' })
    (hK : ∀ v, it.get i σ = some v → i < it.n → ∀ r h' tk, VR μ h' v r → (∀ b o, b ≠ I → b ≠ J → s.heap.get? b = some o → h'.get? b = some o) → ItE c μ h' I J (i + 1) it → Priv c μ h' I → Priv c μ h' J → K r { s with heap := h', toks := tk }) :
    wpAny (model c.prog c.w) A (pyNext (.ref I)) (fun r s₁ => match r with | none => N s₁ | some v => wpAny (model c.prog c.w) A (letOwnedTupleGo target (.ref I) v) (fun _ s₂ => K v s₂) E s₁) E s := by
  have vm : ∀ {h'}, (∀ b o, b ≠ I → b ≠ J → s.heap.get? b = some o → h'.get? b = some o) → ∀ {v r}, VR μ s.heap v r → VR μ h' v r := fun {h'} k {v r} z => VR.mono (fun _ _ z => z) (fun b o im z => k _ _ (p.imm im z) (q.imm im z) z) _ _ z
  have lists : ∀ it, isLst it = true → ItS c μ s.heap I i it → J = I → it.live σ → i ≤ it.n → (∀ it', it = .enum it' → isTup target = true) → (i = it.n → ∀ h', (∀ b o, b ≠ I → b ≠ J → s.heap.get? b = some o → h'.get? b = some o) → N { s with heap := h' }) →
      (∀ v, it.get i σ = some v → i < it.n → ∀ r h' tk, VR μ h' v r → (∀ b o, b ≠ I → b ≠ J → s.heap.get? b = some o → h'.get? b = some o) → ItS c μ h' I (i + 1) it → Priv c μ h' I → K r { s with heap := h', toks := tk }) →
      wpAny (model c.prog c.w) A (pyNext (.ref I)) (fun r s₁ => match r with | none => N s₁ | some v => wpAny (model c.prog c.w) A (letOwnedTupleGo target (.ref I) v) (fun _ s₂ => K v s₂) E s₁) E s := by
    intro it hl x hJ live hi _ hN hK
    obtain ⟨a, its, n0, ws, f1, f2, f3, f4, f5, f6, f7⟩ := lst_at hl x ev live
    have hL : s.heap.IsList a its := PySem.IsL.isList (n := n0) f2
    cases hv : its[i]? with
    | none =>
      have : its.size ≤ i := by simpa using hv
      exact wpAny_pyNext_list_end hA.hh f1 hL hv fun h' he => hN (by omega) h' fun b o hb _ e => he b o hb e
    | some r =>
      have hlt : i < its.size := (Array.getElem?_eq_some_iff.mp hv).1
      refine wpAny_pyNext_list_item f1 hL hv fun h' hit' hs' => ?_
      obtain ⟨o, e1, e2, e3⟩ := id hit'
      refine letOwned_not e1 e3 e2 (.inl rfl) ?_
      have hw : ∃ v, ws[i]? = some v := ⟨ws[i]'(by omega), List.getElem?_eq_getElem (by omega)⟩
      obtain ⟨v, hw⟩ := hw
      obtain ⟨r', g1, g2⟩ := f3.get hw
      have : r' = r := by rw [Array.getElem?_toList, hv] at g1; cases g1; rfl
      subst this
      have k : ∀ b o, b ≠ I → b ≠ J → s.heap.get? b = some o → h'.get? b = some o := fun b o hb _ e => (hs'.2 b hb).trans e
      exact hK v ((f6 i).trans hw) (by omega) r' h' s.toks (vm k g2) k (f7 _ _ hit') (p.new (μ' := μ) e1 e3 e2 (by decide))
  cases it with
  | lst y m => exact lists _ rfl x.2 x.1 live hi (fun _ z => by cases z) hN fun v a b r h' tk d k e f => hK v a b r h' tk d k ⟨x.1, e⟩ f (x.1 ▸ f)
  | frz y m => exact lists _ rfl x.2 x.1 live hi (fun _ z => by cases z) hN fun v a b r h' tk d k e f => hK v a b r h' tk d k ⟨x.1, e⟩ f (x.1 ▸ f)
  | tup vs =>
    obtain ⟨hJ, t, its, n0, e1, e2, f1⟩ := x
    have hL : s.heap.IsTuple t its := ⟨_, e1, rfl, n0, rfl⟩
    have hsz : its.size = vs.length := by have := e2.length; rwa [Array.length_toList] at this
    cases hv : its[i]? with
    | none =>
      have : its.size ≤ i := by simpa using hv
      have hn : (It.tup vs).n = vs.length := rfl
      exact wpAny_pyNext_tuple_end hA.hh f1 hL hv fun h' he => hN (by omega) h' fun b o hb _ e => he b o hb e
    | some r =>
      have hlt : i < its.size := (Array.getElem?_eq_some_iff.mp hv).1
      refine wpAny_pyNext_tuple_item f1 hL hv fun h' hit' hs' => ?_
      obtain ⟨o, a1, a2, a3⟩ := id hit'
      refine letOwned_not a1 a3 a2 (.inr (.inl rfl)) ?_
      have hw : ∃ v, vs[i]? = some v := ⟨vs[i]'(by omega), List.getElem?_eq_getElem (by omega)⟩
      obtain ⟨v, hw⟩ := hw
      obtain ⟨r', g1, g2⟩ := e2.get hw
      have : r' = r := by rw [Array.getElem?_toList, hv] at g1; cases g1; rfl
      subst this
      have k : ∀ b o, b ≠ I → b ≠ J → s.heap.get? b = some o → h'.get? b = some o := fun b o hb _ e => (hs'.2 b hb).trans e
      have hp := p.new (μ' := μ) a1 a3 a2 (by decide)
      exact hK v hw (by show i < vs.length; omega) r' h' s.toks (vm k g2) k ⟨hJ, t, its, n0, k _ _ (p.imm (o := tupOf its n0) ⟨.inl rfl, trivial⟩ e1) (q.imm (o := tupOf its n0) ⟨.inl rfl, trivial⟩ e1) e1, VsR.mono (fun _ _ z => z) (fun b o im z => k _ _ (p.imm im z) (q.imm im z) z) _ _ e2, hit'⟩ hp (hJ ▸ hp)
  | rng a b d =>
    obtain ⟨hJ, hit⟩ := x
    have hn : (It.rng a b d).n = (Builtin.Range.rangeSize a b d).toNat := rfl
    by_cases hlt : i < (It.rng a b d).n
    · refine wpAny_pyNext_range_item hit (by omega) fun h' hit' hs' => ?_
      refine letOwned_not hit' rfl rfl (.inr (.inr (.inl rfl))) ?_
      have k : ∀ b o, b ≠ I → b ≠ J → s.heap.get? b = some o → h'.get? b = some o := fun b o hb _ e => (hs'.2 b hb).trans e
      have hp := p.new (μ' := μ) hit' rfl rfl (by decide)
      refine hK (.int (a + i * d)) rfl hlt _ h' _ ⟨_, rfl⟩ k ⟨hJ, ?_⟩ hp (hJ ▸ hp)
      show IsRangeIter h' I (a + ((i + 1 : Nat) : Int) * d) (Builtin.Range.rangeSize a b d - ((i + 1 : Nat) : Int)) d
      have e1 : a + ((i + 1 : Nat) : Int) * d = a + i * d + d := by rw [Int.natCast_add, Int.add_mul]; omega
      have e2 : Builtin.Range.rangeSize a b d - ((i + 1 : Nat) : Int) = Builtin.Range.rangeSize a b d - i - 1 := by omega
      rw [e1, e2]; exact hit'
    · exact wpAny_pyNext_range_end hA.hh hit (by omega) fun h' he => hN (by omega) h' fun b o hb _ e => he b o hb e
  | str y =>
    obtain ⟨hJ, t, hit⟩ := x
    have hn : (It.str y).n = y.length := rfl
    have hn2 : y.length = y.cps.size := rfl
    cases hv : y.cps[i]? with
    | none =>
      have : y.cps.size ≤ i := by simpa using hv
      exact wpAny_pyNext_ascii_end hA.hh hit hv fun h' he => hN (by omega) h' fun b o hb _ e => he b o hb e
    | some ch =>
      have hlt : i < y.cps.size := (Array.getElem?_eq_some_iff.mp hv).1
      refine wpAny_pyNext_ascii_item hit hv fun h' hit' hs' => ?_
      obtain ⟨o, a1, a2, a3⟩ := id hit'
      refine letOwned_not a1 a3 a2 (.inr (.inr (.inr rfl))) ?_
      have k : ∀ b o, b ≠ I → b ≠ J → s.heap.get? b = some o → h'.get? b = some o := fun b o hb _ e => (hs'.2 b hb).trans e
      have hp := p.new (μ' := μ) a1 a3 a2 (by decide)
      exact hK (.str ⟨#[ch]⟩) (by simp [It.get, hv]) (by omega) _ h' _ ⟨_, rfl⟩ k ⟨hJ, t, hit'⟩ hp (hJ ▸ hp)
  | enum it =>
    obtain ⟨hl, x, hne, old, he⟩ := x
    obtain ⟨a, its, n0, ws, f1, f2, f3, f4, f5, f6, f7⟩ := lst_at hl x ev live
    have hL : s.heap.IsList a its := PySem.IsL.isList (n := n0) f2
    have hn : (It.enum it).n = it.n := rfl
    cases hv : its[i]? with
    | none =>
      have : its.size ≤ i := by simpa using hv
      exact wpAny_pyNext_enum_end hA.hh he f1 hL hv fun h' he => hN (by omega) h' fun b o _ hb e => he b o hb e
    | some r =>
      have hlt : i < its.size := (Array.getElem?_eq_some_iff.mp hv).1
      refine wpAny_pyNext_enum_item he f1 hL hv hne fun h₁ a1 a2 a3 a4 a5 => ?_
      have hw : ∃ v, ws[i]? = some v := ⟨ws[i]'(by omega), List.getElem?_eq_getElem (by omega)⟩
      obtain ⟨v, hw⟩ := hw
      obtain ⟨r', g1, g2⟩ := f3.get hw
      have : r' = r := by rw [Array.getElem?_toList, hv] at g1; cases g1; rfl
      subst this
      have htt := ht _ rfl
      cases target <;> first | (cases htt; done) | skip
      refine wpAny_letOwnedTupleGo_enum a1 fun h₂ b1 b2 => ?_
      have k : ∀ b o, b ≠ I → b ≠ J → s.heap.get? b = some o → h₂.get? b = some o := fun b o hb hj e => (b2.2 b hb).trans (a5 b o hb hj e)
      have hII : s.heap.objs.size ≠ I := Nat.ne_of_gt (Heap.lt_size he)
      obtain ⟨o, c1, c2, c3⟩ := id a2
      have hJ2 : h₂.IsListIter J a (i + 1) := ⟨o, (b2.2 J (Ne.symm hne)).trans c1, c2, c3⟩
      refine hK (.tup [.int i, v]) (by simp [It.get, (f6 i).trans hw]) (by omega) _ h₂ _ ⟨_, _, 0, rfl, (b2.2 _ hII).trans a3, VsR.cons ⟨_, rfl⟩ (VsR.cons (vm k g2) .nil)⟩ k ⟨hl, f7 _ _ hJ2, hne, r', by simpa using b1⟩ (p.new (μ' := μ) b1 rfl rfl (by decide)) (q.new (μ' := μ) ((b2.2 J (Ne.symm hne)).trans c1) c3 c2 (by decide))
end
end Mine
open PySem PySem.W PySem.Calls PyProof.Rows PySem.Spec
set_option linter.unusedVariables false
namespace Mine
structure StpE (c : Cx) (B : Nat) (W : Addr → Prop) (μ : Mp) (h : Heap) (μ' : Mp) (h' : Heap) : Prop where
  sub : Sub μ μ'
  new : ∀ x a d, μ' x = some (a, d) → μ x = none → B ≤ a ∧ B ≤ d
  kept : ∀ b o, h.get? b = some o → Off μ b → (∀ q ∈ c.tabs, q.2.1 ≠ b) → ¬ W b → Off μ' b ∧ ∃ o', h'.get? b = some o' ∧ Alike o o'
def Wr (env : Env) (b : Addr) : Prop := b = env.locals ∨ ∃ q ∈ env.cells, q.2 = b
/-- the place that a store by name writes -/
def StW (env : Env) (sc : Scope) (x : Str) (b : Addr) : Prop := (sc.names.lookup x = some .local ∧ b = env.locals) ∨ (sc.names.lookup x = some .cell ∧ env.cells.lookup x = some b)
theorem StW.wr {env : Env} {sc : Scope} {x : Str} {b : Addr} (h : StW env sc x b) : Wr env b := by
  rcases h with ⟨_, rfl⟩ | ⟨_, h⟩
  · exact .inl rfl
  · exact .inr ⟨(x, b), mem_of_lookup h, rfl⟩
section
variable {c : Cx} {A : Around} {env : Env} {nm : List (Str × Nat)} {μ μ' μ₁ μ₂ μ₀ : Mp} {ρ : List V} {σ σ' : Hp} {s s' : Shared} {h h' h₁ h₂ hb : Heap} {I J : Addr} {E : Value → Shared → Prop} {B : Nat} {W : Addr → Prop}
theorem StpE.refl : StpE c B W μ h μ h := ⟨fun _ _ e => e, fun x a d e f => (by rw [f] at e; cases e), fun b o e f _ _ => ⟨f, o, e, .refl o⟩⟩
theorem StpE.trans (x : StpE c B W μ h μ₁ h₁) (y : StpE c B W μ₁ h₁ μ₂ h₂) : StpE c B W μ h μ₂ h₂ where
  sub := fun a p e => y.sub _ _ (x.sub _ _ e)
  new := fun a b d e f => by
    cases q : μ₁ a with
    | none => exact y.new a b d e q
    | some p =>
      obtain ⟨p1, p2⟩ := p
      have := y.sub _ _ q
      rw [e] at this; cases this
      exact x.new a b d q f
  kept := fun b o e f g w => by
    obtain ⟨f₁, o₁, e₁, l₁⟩ := x.kept b o e f g w
    obtain ⟨f₂, o₂, e₂, l₂⟩ := y.kept b o₁ e₁ f₁ g w
    exact ⟨f₂, o₂, e₂, l₁.trans l₂⟩
theorem Stp.toE (x : Stp c μ h μ' h') (hB : B ≤ h.objs.size) : StpE c B W μ h μ' h' where
  sub := x.sub
  new := fun a b d e f => let ⟨p, q⟩ := x.new a b d e f; ⟨Nat.le_trans hB p, Nat.le_trans hB q⟩
  kept := fun b o e f g _ => ⟨x.off (Heap.lt_size e) f, x.kept b o e f g⟩
theorem StpE.thenStp (x : StpE c B W μ h μ₁ h₁) (y : Stp c μ₁ h₁ μ₂ h₂) (hB : B ≤ h₁.objs.size) : StpE c B W μ h μ₂ h₂ := x.trans (y.toE hB)
theorem StpE.but (S : StpE c B W μ₀ hb μ h) (hI : hb.objs.size ≤ I) (hJ : hb.objs.size ≤ J) (k : ∀ b o, b ≠ I → b ≠ J → h.get? b = some o → h'.get? b = some o) : StpE c B W μ₀ hb μ h' where
  sub := S.sub
  new := S.new
  kept := fun b o e f g w => by
    obtain ⟨f', o', e', l⟩ := S.kept b o e f g w
    have hl := Heap.lt_size e
    exact ⟨f', o', k _ _ (fun q => by rw [q] at hl; exact absurd hI (Nat.not_le.mpr hl)) (fun q => by rw [q] at hl; exact absurd hJ (Nat.not_le.mpr hl)) e', l⟩
theorem StpE.wr (k : ∀ b o, ¬ W b → h.get? b = some o → h'.get? b = some o) : StpE c B W μ h μ h' :=
  ⟨fun _ _ e => e, fun x a d e f => (by rw [f] at e; cases e), fun b o e f _ w => ⟨f, o, k b o w e, .refl o⟩⟩
theorem Ev.floor (x : Ev c A env nm μ ρ σ s) (hB : B ≤ env.locals) : B ≤ s.heap.objs.size := by
  obtain ⟨m, n, _⟩ := x.lc.ns
  exact Nat.le_of_lt (Nat.lt_of_le_of_lt hB n.lt)
theorem St.all (x : St c A μ σ s) (k : ∀ b o, s.heap.get? b = some o → h'.get? b = some o) {tk : Nat} : St c A μ σ { s with heap := h', toks := tk } where
  rl := x.rl.keeps k
  tb := x.tb.keeps k
  fo := let ⟨l, e, f⟩ := x.fo; ⟨l, e, fun en hen => let ⟨a, L, m, b1, b2, b3, b4⟩ := f en hen; ⟨a, L, m, b1, b2, b3.keeps k, b4⟩⟩
  os := x.os
  gn := x.gn
theorem Lc.all (x : Lc env nm μ ρ h) (k : ∀ b o, h.get? b = some o → h'.get? b = some o) : Lc env nm μ ρ h' where
  ns := by
    obtain ⟨m, n, f⟩ := x.ns
    refine ⟨m, n.keeps k, fun y i a b v d e => ?_⟩
    obtain ⟨r, g, z⟩ := f y i a b v d e
    exact ⟨r, g, VR.mono (fun _ _ z => z) (fun _ _ _ z => k _ _ z) _ _ z⟩
  cl := fun y i a b => by
    obtain ⟨ca, ov, e, f, g⟩ := x.cl y i a b
    exact ⟨ca, ov, e, f.keeps k, fun v d e => let ⟨r, g, z⟩ := g v d e; ⟨r, g, VR.mono (fun _ _ z => z) (fun _ _ _ z => k _ _ z) _ _ z⟩⟩
  offL := x.offL
  offC := x.offC
  cA := fun q hq => let ⟨ov, z⟩ := x.cA q hq; ⟨ov, z.keeps k⟩
  ap := x.ap
  one := x.one
theorem Ev.all (x : Ev c A env nm μ ρ σ s) (k : ∀ b o, s.heap.get? b = some o → h'.get? b = some o) {tk : Nat} : Ev c A env nm μ ρ σ { s with heap := h', toks := tk } := ⟨x.toSt.all k, x.lc.all k, x.hL, x.hC⟩
theorem St.poke (x : St c A μ σ s) {b₀ : Addr} (h0 : c.H0.get? b₀ = none) (off : Off μ b₀) (dc : ∃ o, s.heap.get? b₀ = some o ∧ ¬ NotDC o.data) (k : ∀ b o, b ≠ b₀ → s.heap.get? b = some o → h'.get? b = some o)
    (hns : ∀ m, s.heap.Ns b₀ m → ∃ m', h'.Ns b₀ m') {tk : Nat} : St c A μ σ { s with heap := h', toks := tk } := by
  obtain ⟨o₀, e₀, d₀⟩ := dc
  have im : ∀ b o, Imm o → s.heap.get? b = some o → h'.get? b = some o := fun b o i e => k b o (fun q => by rw [q, e₀] at e; cases e; exact d₀ i.2) e
  refine ⟨⟨fun b o e => k _ _ (fun z => by rw [z, h0] at e; cases e) (x.rl.base b o e), x.rl.dom, x.rl.fresh, fun y a d e => ?_, x.rl.inj, x.rl.off⟩, fun t ht => ?_, ?_, x.os, x.gn⟩
  · obtain ⟨o, f, g⟩ := x.rl.obj y a d e
    have i := off y a d e
    exact ⟨o, f, g.mono (fun _ _ z => z) (fun _ z => k _ _ (Ne.symm i.1) z) (fun _ z => k _ _ (Ne.symm i.2) z) im⟩
  · obtain ⟨ps, e, f, g⟩ := x.tb t ht
    refine ⟨ps, k _ _ (fun q => by rw [q, e₀] at e; cases e; exact d₀ trivial) e, f, fun pos cv z => ?_⟩
    obtain ⟨co, oc, vs, tt, a1, a2, a3, a4, a5⟩ := g pos cv z
    exact ⟨co, oc, vs, tt, a1, im _ _ ⟨.inr (.inr (.inr a3)), by rw [a4]; trivial⟩ a2, a3, a4, a5⟩
  · obtain ⟨l, e, f⟩ := x.fo
    refine ⟨l, e, fun en hen => ?_⟩
    obtain ⟨a, L, m, b1, b2, b3, b4⟩ := f en hen
    by_cases q : L = b₀
    · subst q
      obtain ⟨m', n'⟩ := hns m b3
      exact ⟨a, L, m', b1, b2, n', b4⟩
    · obtain ⟨ob, es, ep, w, hd, r⟩ := b3
      exact ⟨a, L, m, b1, b2, ⟨ob, es, ep, k _ _ q w, hd, r⟩, b4⟩
theorem Rl.poke (x : Rl c μ σ h) {b₀ : Addr} (h0 : c.H0.get? b₀ = none) (off : Off μ b₀) (dc : ∃ o, h.get? b₀ = some o ∧ ¬ NotDC o.data) (k : ∀ b o, b ≠ b₀ → h.get? b = some o → h'.get? b = some o) : Rl c μ σ h' := by
  obtain ⟨o₀, e₀, d₀⟩ := dc
  have im : ∀ b o, Imm o → h.get? b = some o → h'.get? b = some o := fun b o i e => k b o (fun q => by rw [q, e₀] at e; cases e; exact d₀ i.2) e
  refine ⟨fun b o e => k _ _ (fun z => by rw [z, h0] at e; cases e) (x.base b o e), x.dom, x.fresh, fun y a d e => ?_, x.inj, x.off⟩
  obtain ⟨o, f, g⟩ := x.obj y a d e
  have i := off y a d e
  exact ⟨o, f, g.mono (fun _ _ z => z) (fun _ z => k _ _ (Ne.symm i.1) z) (fun _ z => k _ _ (Ne.symm i.2) z) im⟩
theorem TabsOk.poke (x : TabsOk c h) {b₀ : Addr} (dc : ∃ o, h.get? b₀ = some o ∧ ¬ NotDC o.data) (k : ∀ b o, b ≠ b₀ → h.get? b = some o → h'.get? b = some o) : TabsOk c h' := fun t ht => by
  obtain ⟨o₀, e₀, d₀⟩ := dc
  have im : ∀ b o, Imm o → h.get? b = some o → h'.get? b = some o := fun b o i e => k b o (fun q => by rw [q, e₀] at e; cases e; exact d₀ i.2) e
  obtain ⟨ps, e, f, g⟩ := x t ht
  refine ⟨ps, k _ _ (fun q => by rw [q, e₀] at e; cases e; exact d₀ trivial) e, f, fun pos cv z => ?_⟩
  obtain ⟨co, oc, vs, tt, a1, a2, a3, a4, a5⟩ := g pos cv z
  exact ⟨co, oc, vs, tt, a1, im _ _ ⟨.inr (.inr (.inr a3)), by rw [a4]; trivial⟩ a2, a3, a4, a5⟩
theorem lookup_some_eq {α : Type} {l : List (Str × α)} {x : Str} {a b : α} (h : l.lookup x = some a) (h' : l.lookup x = some b) : a = b := by rw [h] at h'; cases h'; rfl
theorem set_get_ne {ρ : List V} {i j : Nat} {v : V} (h : j ≠ i) : (ρ.set i v)[j]? = ρ[j]? := by rw [List.getElem?_set_ne (Ne.symm h)]
theorem set_get_eq {ρ : List V} {i : Nat} {v w : V} (h : (ρ.set i v)[i]? = some w) : w = v := by
  rw [List.getElem?_set] at h
  simp only [if_true] at h
  split at h
  · cases h; rfl
  · cases h
theorem store_ok {sc : Scope} (K : EOk env sc) (ev : Ev c A env nm μ ρ σ s) {x : Str} {i : Nat} (hn : nm.lookup x = some i) (hk : sc.names.lookup x = some .local ∨ sc.names.lookup x = some .cell) {v : V} {r : Value} (hr : VR μ s.heap v r)
    {Q : Unit → Shared → Prop} (h : ∀ h' tk, Ev c A env nm μ (ρ.set i v) σ { s with heap := h', toks := tk } → (∀ b o, ¬ StW env sc x b → s.heap.get? b = some o → h'.get? b = some o) → (∀ v r, VR μ s.heap v r → VR μ h' v r) → Q () { s with heap := h', toks := tk }) :
    wpAny (model c.prog c.w) A (storeName env x r) Q E s := by
  have hfn : env.scope.kind = .function := by rw [K.se]; exact K.kd
  have kk : ∀ x, env.kindOf x = sc.names.lookup x := fun x => by unfold Env.kindOf; rw [K.se]
  rcases hk with hk | hk
  · obtain ⟨m, hns, f⟩ := ev.lc.ns
    refine wpAny_storeName_local ((kk x).trans hk) hns (fun h' hn' hs' => ?_) (by rw [hfn]; rfl)
    obtain ⟨ob, es, ep, w, hd, _⟩ := id hns
    have k : ∀ b o, b ≠ env.locals → s.heap.get? b = some o → h'.get? b = some o := fun b o q e => (hs'.2 b q).trans e
    have im : ∀ b o, Imm o → s.heap.get? b = some o → h'.get? b = some o := fun b o i e => k b o (fun q => by rw [q, w] at e; cases e; have := i.2; rw [hd] at this; exact this) e
    have vm : ∀ {v r}, VR μ s.heap v r → VR μ h' v r := fun z => VR.mono (fun _ _ z => z) im _ _ z
    have cm : ∀ {b v}, s.heap.IsCell b v → h'.IsCell b v := fun {b v} ⟨o, e, d⟩ => ⟨o, k _ _ (fun q => by rw [q, w] at e; cases e; rw [hd] at d; cases d) e, d⟩
    refine h h' _ ⟨ev.toSt.poke ev.hL ev.lc.offL ⟨ob, w, by rw [hd]; exact id⟩ k (fun _ _ => ⟨_, hn'⟩), ⟨?_, fun y j a b => ?_, ev.lc.offL, ev.lc.offC, fun q hq => ?_, ev.lc.ap, ev.lc.one⟩, ev.hL, ev.hC⟩ (fun b o q e => k b o (fun z => q (.inl ⟨hk, z⟩)) e) fun _ _ z => vm z
    · refine ⟨_, hn', fun y j a b u d e => ?_⟩
      by_cases hj : j = i
      · subst hj
        have := ev.lc.one y x j a hn
        subst this
        rw [set_get_eq d]
        exact ⟨r, by simp, vm hr⟩
      · rw [set_get_ne hj] at d
        have : y ≠ x := fun q => by subst q; exact hj (lookup_some_eq a hn)
        obtain ⟨r', g, z⟩ := f y j a b u d e
        exact ⟨r', by simp [this, g], vm z⟩
    · obtain ⟨ca, ov, e, f', g⟩ := ev.lc.cl y j a b
      refine ⟨ca, ov, e, cm f', fun u d e' => ?_⟩
      by_cases hj : j = i
      · subst hj
        have := ev.lc.one y x j a hn
        subst this
        rw [kk, hk] at b
        rcases b with b | b <;> cases b
      · rw [set_get_ne hj] at d
        obtain ⟨r', g', z⟩ := g u d e'
        exact ⟨r', g', vm z⟩
    · obtain ⟨ov, z⟩ := ev.lc.cA q hq
      exact ⟨ov, cm z⟩
  · obtain ⟨ca, ov, e1, e2, e3⟩ := ev.lc.cl x i hn (.inl ((kk x).trans hk))
    have hmem := mem_of_lookup e1
    refine wpAny_storeName_cell hfn ((kk x).trans hk) e1 e2 fun h' hc' hs' => ?_
    obtain ⟨ob, w, hd⟩ := id e2
    have k : ∀ b o, b ≠ ca → s.heap.get? b = some o → h'.get? b = some o := fun b o q e => (hs'.2 b q).trans e
    have im : ∀ b o, Imm o → s.heap.get? b = some o → h'.get? b = some o := fun b o i e => k b o (fun q => by rw [q, w] at e; cases e; have := i.2; rw [hd] at this; exact this) e
    have vm : ∀ {v r}, VR μ s.heap v r → VR μ h' v r := fun z => VR.mono (fun _ _ z => z) im _ _ z
    have nsne : ∀ {b m}, s.heap.Ns b m → b ≠ ca := fun {b m} ⟨o, es, ep, e, d, _⟩ q => by rw [q, w] at e; cases e; rw [hd] at d; cases d
    have nsm : ∀ {b m}, s.heap.Ns b m → h'.Ns b m := fun {b m} z => let ⟨o, es, ep, e, d⟩ := id z; ⟨o, es, ep, k _ _ (nsne z) e, d⟩
    refine h h' s.toks ⟨ev.toSt.poke (ev.hC (x, ca) hmem) (ev.lc.offC (x, ca) hmem) ⟨ob, w, by rw [hd]; exact id⟩ k (fun m z => absurd rfl (nsne z)), ⟨?_, fun y j a b => ?_, ev.lc.offL, ev.lc.offC, fun q hq => ?_, ev.lc.ap, ev.lc.one⟩, ev.hL, ev.hC⟩
      (fun b o q e => k b o (fun z => q (.inr ⟨hk, z ▸ e1⟩)) e) fun _ _ z => vm z
    · obtain ⟨m, hns, f⟩ := ev.lc.ns
      refine ⟨m, nsm hns, fun y j a b u d e => ?_⟩
      by_cases hj : j = i
      · subst hj
        have := ev.lc.one y x j a hn
        subst this
        rw [kk, hk] at b; cases b
      · rw [set_get_ne hj] at d
        obtain ⟨r', g, z⟩ := f y j a b u d e
        exact ⟨r', g, vm z⟩
    · obtain ⟨ca', ov', f1, f2, f3⟩ := ev.lc.cl y j a b
      by_cases hj : j = i
      · subst hj
        have := ev.lc.one y x j a hn
        subst this
        rw [e1] at f1; cases f1
        exact ⟨ca, some r, e1, hc', fun u d _ => ⟨r, rfl, by rw [set_get_eq d]; exact vm hr⟩⟩
      · have hyx : y ≠ x := fun q => by subst q; exact hj (lookup_some_eq a hn)
        have hca : ca' ≠ ca := ev.lc.ap y x ca' ca f1 e1 hyx
        refine ⟨ca', ov', f1, f2.sameBut hs' hca, fun u d e' => ?_⟩
        rw [set_get_ne hj] at d
        obtain ⟨r', g', z⟩ := f3 u d e'
        exact ⟨r', g', vm z⟩
    · obtain ⟨ov', z⟩ := ev.lc.cA q hq
      by_cases hq' : q.2 = ca
      · exact ⟨some r, hq' ▸ hc'⟩
      · exact ⟨ov', z.sameBut hs' hq'⟩
end
end Mine
open PySem PySem.W PySem.Calls PyProof.Rows PySem.Spec
set_option linter.unusedVariables false
namespace Mine
/-- a name's store, in one of its forms -/
def StF (env : Env) (f : Value → Sem Unit) (x : Str) : Prop := ∀ {M : Model} {A : Around} {Q : Unit → Shared → Prop} {E : Value → Shared → Prop} {s : Shared} {v : Value}, wpAny M A (storeName env x v) Q E s → wpAny M A (f v) Q E s
theorem stF_assign {env : Env} {x : Str} {p : Pos} : StF env (assign (.Name x p) env) x := fun h => wpAny_assign_Name h
theorem stF_bind {env : Env} {x : Str} : StF env (bindName env x) x := fun h => wpAny_bindName h
inductive StFs (W : Addr → Prop) (env : Env) (sc : Scope) (nm : List (Str × Nat)) : List (Value → Sem Unit) → List Nat → Prop
  | nil : StFs W env sc nm [] []
  | cons {f fs x i is} : StF env f x → nm.lookup x = some i → (sc.names.lookup x = some .local ∨ sc.names.lookup x = some .cell) → (∀ b, StW env sc x b → W b) → StFs W env sc nm fs is → StFs W env sc nm (f :: fs) (i :: is)
theorem StFs.length {W : Addr → Prop} {env : Env} {sc : Scope} {nm : List (Str × Nat)} {fs is} (h : StFs W env sc nm fs is) : fs.length = is.length := by
  induction h with
  | nil => rfl
  | cons _ _ _ _ _ ih => simp [ih]
theorem VsR.rev {μ : Mp} {h : Heap} {vs : List V} {rs : List Value} (x : VsR μ h vs rs) : VsR μ h vs.reverse rs.reverse := x.reverse
section
variable {c : Cx} {A : Around} {env : Env} {nm : List (Str × Nat)} {μ μ' μ₁ μ₂ μ₀ : Mp} {ρ : List V} {σ σ' : Hp} {s s' : Shared} {h h' h₁ h₂ hb : Heap} {E : Value → Shared → Prop}
theorem seq_store {W : Addr → Prop} {sc : Scope} (K : EOk env sc) : ∀ {fs is vs rs}, StFs W env sc nm fs is → vs.length = is.length → ∀ {ρ s}, Ev c A env nm μ ρ σ s → VsR μ s.heap vs rs → ∀ {Q : Unit → Shared → Prop},
    (∀ h' tk, Ev c A env nm μ (putAll ρ (is.zip vs)) σ { s with heap := h', toks := tk } → (∀ b o, ¬ W b → s.heap.get? b = some o → h'.get? b = some o) → Q () { s with heap := h', toks := tk }) → wpAny (model c.prog c.w) A (assignInOrder fs rs) Q E s
  | [], [], [], rs, _, _, ρ, s, ev, hr, Q, h => by
    rw [show rs = [] from hr]
    exact wpAny_pure (h s.heap s.toks ev fun _ _ _ e => e)
  | f :: fs, i :: is, v :: vs, rs, .cons hf hn hk hw r, hl, ρ, s, ev, hr, Q, h => by
    obtain ⟨x, xs, rfl, g1, g2⟩ := hr
    show wpAny _ A (do holding xs (f x); assignInOrder fs xs) _ _ _
    refine wpAny_bind (wpAny_holding (hf (store_ok K ev hn hk g1 fun h₁ tk ev₁ k vm => ?_)))
    refine seq_store K r (by simpa using hl) ev₁ ?_ fun h₂ tk₂ ev₂ k₂ => h h₂ tk₂ ev₂ fun b o w e => k₂ b o w (k b o (fun z => w (hw b z)) e)
    clear hl h ev₁
    show VsR μ h₁ vs xs
    induction vs generalizing xs with
    | nil => exact g2
    | cons w vs ih =>
      obtain ⟨y, ys, rfl, a, b⟩ := g2
      exact ⟨y, ys, rfl, vm _ _ a, ih _ b⟩
  | [], _ :: _, _, _, h, _, _, _, _, _, _, _ => nomatch h
  | [], [], _ :: _, _, _, hl, _, _, _, _, _, _ => by simp at hl
  | _ :: _, [], _, _, h, _, _, _, _, _, _, _ => nomatch h
  | _ :: _, _ :: _, [], _, _, hl, _, _, _, _, _, _ => by simp at hl
theorem unpack_ok {n : Nat} (hA : AOk n A) (ev : Ev c A env nm μ ρ σ s) {v : V} {vs : List V} (e : unp σ v = some vs) {r : Value} (hr : VR μ s.heap v r) {Q : List Value → Shared → Prop}
    (h : ∀ rs h', VsR μ s.heap vs rs → (∀ b o, s.heap.get? b = some o → h'.get? b = some o) → Q rs { s with heap := h' }) : wpAny (model c.prog c.w) A (unpackItems r vs.length none) Q E s := by
  have keepAll : ∀ {h'}, Heap.ExtBut s.heap.objs.size s.heap h' → ∀ b o, s.heap.get? b = some o → h'.get? b = some o := fun he b o e => he b o (Nat.ne_of_lt (Heap.lt_size e)) e
  unfold unp at e
  split at e
  · cases e
    obtain ⟨a, its, n0, rfl, e1, e2⟩ := hr
    have hsz : its.size = vs.length := by have := e2.length; rwa [Array.length_toList] at this
    rw [← hsz]
    exact wpAny_unpackItems_tuple hA.hh ⟨_, e1, rfl, n0, rfl⟩ fun h' he => h _ h' e2 (keepAll he)
  · split at e
    · rename_i x _ q
      cases e
      obtain ⟨a, its, n0, e1, e2, e3, e4, e5⟩ := ev.list q
      obtain ⟨a', d', e1', rfl⟩ := hr
      rw [e1] at e1'; cases e1'
      rw [← e5]
      exact kun_itemsOf hA.hh (PySem.IsL.isList (n := n0) e2) fun h' he => h _ h' e3 (keepAll he)
    · cases e
  · cases e
/-- a target's store -/
structure Tgt (W : Addr → Prop) (env : Env) (sc : Scope) (nm : List (Str × Nat)) (target : Expr) (t : MT) : Prop where
  go : match t with
    | .nm i => ∃ x p, target = .Name x p ∧ nm.lookup x = some i ∧ (sc.names.lookup x = some .local ∨ sc.names.lookup x = some .cell) ∧ ∀ b, StW env sc x b → W b
    | .tp rev is => rev = false ∧ ∃ es k p, target = .Tuple es k p ∧ StFs W env sc nm ((assignEach es env).map (·.2)) is ∧ (assignEach es env).findIdx? (·.1) = none
theorem asg_ok {W : Addr → Prop} {n : Nat} (hA : AOk n A) {sc : Scope} (K : EOk env sc) {target : Expr} {t : MT} (T : Tgt W env sc nm target t) (ev : Ev c A env nm μ ρ σ s) {v : V} {r : Value} (hr : VR μ s.heap v r) {Q : List V → Prop} (hq : pAssign t v ρ σ Q)
    {Q' : Unit → Shared → Prop} (h : ∀ ρ' h' tk, Q ρ' → Ev c A env nm μ ρ' σ { s with heap := h', toks := tk } → (∀ b o, ¬ W b → s.heap.get? b = some o → h'.get? b = some o) → Q' () { s with heap := h', toks := tk }) :
    wpAny (model c.prog c.w) A (assign target env r) Q' E s := by
  obtain ⟨g⟩ := T
  cases t with
  | nm i =>
    obtain ⟨x, p, rfl, hn, hk, hw⟩ := g
    exact wpAny_assign_Name (store_ok K ev hn hk hr fun h' tk ev' k _ => h _ h' tk hq.2.2 ev' fun b o w e => k b o (fun z => w (hw b z)) e)
  | tp rev is =>
    obtain ⟨rfl, es, k, p, rfl, hf, hstar⟩ := g
    obtain ⟨vs, e1, e2, e3, e4, e5⟩ := hq
    rw [arm_assign_Tuple]
    refine wpAny_bind (wpAny_standAt ?_)
    unfold unpack
    rw [show (assignEach es env).length = vs.length from by rw [e2, ← hf.length, List.length_map], hstar]
    refine wpAny_bind (wpAny_holding (unpack_ok hA ev e1 hr fun rs h' hv k => ?_))
    have ev' := ev.all (tk := s.toks) k
    exact seq_store K hf e2 ev' (VsR.mono (fun _ _ z => z) (fun _ _ _ z => k _ _ z) _ _ hv) fun h₂ tk ev₂ k₂ => h _ h₂ tk e5 ev₂ fun b o w e => k₂ b o w (k b o e)
end
end Mine
open PySem PySem.W PySem.Calls PyProof.Rows PySem.Spec
set_option linter.unusedVariables false
namespace Mine
section
variable {c : Cx} {A : Around} {env : Env} {nm : List (Str × Nat)} {μ μ' μ₁ μ₂ μ₀ : Mp} {ρ : List V} {σ σ' : Hp} {s s' : Shared} {h h' h₁ h₂ hb : Heap} {E : Value → Shared → Prop} {I J : Addr}
theorem Priv.push (R : Rl c μ σ h) {T : String} {vs : Array Value} (m : T ∈ iterCls) : Priv c μ (h.push { cls := .type T, data := .fields vs }) h.objs.size :=
  ⟨R.h0_none (Nat.le_refl _), R.freshOff (Nat.le_refl _), _, Heap.get?_push_size _ rfl, .iter rfl rfl m⟩
theorem Priv.more (p : Priv c μ h I) (k : ∀ b o, h.get? b = some o → h'.get? b = some o) : Priv c μ h' I := ⟨p.h0, p.off, let ⟨o, e, r⟩ := p.ob; ⟨o, k _ _ e, r⟩⟩
theorem push_size_le (h : Heap) (o : Obj) : h.objs.size ≤ (h.push o).objs.size := by rw [Heap.size_push]; exact Nat.le_succ _
theorem iter_ok {S : Sx} (Z : FrzOk c S) (ev : Ev c A env nm μ ρ σ s) {v : V} {it : It} (e : itOf S σ v = some it) (hi : itOk it) {r : Value} (hr : VR μ s.heap v r) {K : Value → Shared → Prop}
    (hK : ∀ h', (∀ b o, s.heap.get? b = some o → h'.get? b = some o) → s.heap.objs.size ≤ h'.objs.size → ItE c μ h' s.heap.objs.size s.heap.objs.size 0 it → Priv c μ h' s.heap.objs.size → K (.ref s.heap.objs.size) { s with heap := h' }) :
    wpAny (model c.prog c.w) A (pyIter r) K E s := by
  have kp : ∀ o b ob, s.heap.get? b = some ob → (s.heap.push o).get? b = some ob := fun o b ob e => Heap.get?_push_of_some _ e
  unfold itOf at e
  split at e
  · split at e
    · rename_i x vs q
      cases e
      obtain ⟨a, its, n0, e1, e2, e3, e4, e5⟩ := ev.list q
      obtain ⟨a', d', e1', rfl⟩ := hr
      rw [e1] at e1'; cases e1'
      exact wpAny_pyIter_list (PySem.IsL.isList (n := n0) e2) (hK _ (kp _) (push_size_le _ _) ⟨rfl, a, e1, _, Heap.get?_push_size _ rfl, rfl, rfl⟩ (Priv.push ev.rl (by decide)))
    · cases e
  · rename_i a
    obtain ⟨vs, e1, rfl⟩ := Option.map_eq_some_iff.mp e
    obtain ⟨l, its, n0, f, g⟩ := Z a vs e1
    rw [show r = .ref a from hr]
    exact wpAny_pyIter_list (PySem.IsL.isList (n := n0) (ev.rl.base _ _ f)) (hK _ (kp _) (push_size_le _ _) ⟨rfl, ⟨its, n0, f, g⟩, _, Heap.get?_push_size _ rfl, rfl, rfl⟩ (Priv.push ev.rl (by decide)))
  · cases e
    obtain ⟨t, its, n0, rfl, e1, e2⟩ := hr
    exact wpAny_pyIter_tuple ⟨_, e1, rfl, n0, rfl⟩ (hK _ (kp _) (push_size_le _ _) ⟨rfl, t, its, n0, kp _ _ _ e1, VsR.mono (fun _ _ z => z) (fun _ _ _ z => kp _ _ _ z) _ _ e2, _, Heap.get?_push_size _ rfl, rfl, rfl⟩ (Priv.push ev.rl (by decide)))
  · cases e
    obtain ⟨p, t, u, v, rfl, e1⟩ := hr
    refine wpAny_pyIter_range e1 hi (hK _ (kp _) (push_size_le _ _) ⟨rfl, ?_⟩ (Priv.push ev.rl (by decide)))
    show IsRangeIter _ _ (_ + ((0 : Nat) : Int) * _) (_ - ((0 : Nat) : Int)) _
    rw [show ∀ a d : Int, a + ((0 : Nat) : Int) * d = a from fun a d => by simp, show ∀ a : Int, a - ((0 : Nat) : Int) = a from fun a => by simp]
    exact Heap.get?_push_size _ rfl
  · cases e
    obtain ⟨t, rfl⟩ := hr
    exact wpAny_pyIter_ascii hi (hK _ (kp _) (push_size_le _ _) ⟨rfl, t, _, Heap.get?_push_size _ rfl, rfl, rfl⟩ (Priv.push ev.rl (by decide)))
  · cases e
abbrev IP := List V → Hp → (It → Hp → Prop) → Prop
/-- an iterable, evaluated and opened -/
def TI (c : Cx) (A : Around) (env : Env) (nm : List (Str × Nat)) (en : Bool) (e : Expr) (P : IP) : Prop := ∀ ρ σ Q, P ρ σ Q → ∀ μ s, Ev c A env nm μ ρ σ s → ∀ K E,
  (∀ it σ' μ' I J s', Q it σ' → (∀ it', it = .enum it' → en = true) → Ev c A env nm μ' ρ σ' s' → Stp c μ s.heap μ' s'.heap → ItE c μ' s'.heap I J 0 it → Priv c μ' s'.heap I → Priv c μ' s'.heap J → s.heap.objs.size ≤ I → s.heap.objs.size ≤ J → K (.ref I) s') →
  wpAny (model c.prog c.w) A (eval e env) (fun x s₁ => wpAny (model c.prog c.w) A (pyIter x) K E s₁) E s
theorem itOf_no {S : Sx} {σ : Hp} {v : V} {it : It} (e : itOf S σ v = some it) : ∀ it', it = .enum it' → false = true := fun it' q => by
  subst q
  unfold itOf at e
  split at e
  · split at e <;> cases e
  · obtain ⟨_, _, h⟩ := Option.map_eq_some_iff.mp e; cases h
  all_goals cases e
theorem ti_it {S : Sx} (Z : FrzOk c S) {e : Expr} {P : EP} (h₁ : TE c A env nm e P) : TI c A env nm false e fun ρ σ Q => P ρ σ (fun v σ₁ => ∃ it, itOf S σ₁ v = some it ∧ itOk it ∧ Q it σ₁) (fun _ _ => False) := fun ρ σ Q h μ s ev K E hK => by
  refine h₁ ρ σ _ _ h μ s ev _ E (fun v σ₁ μ₁ r s₁ q₁ ev₁ st₁ r₁ => ?_) (fun _ _ _ _ _ z => z.elim)
  obtain ⟨it, e1, e2, q⟩ := q₁
  refine iter_ok Z ev₁ e1 e2 r₁ fun h' k hz hit hp => ?_
  have ev₂ := ev₁.keeps (tk := s₁.toks) k hz
  exact hK it σ₁ μ₁ _ _ _ q (itOf_no e1) ev₂ (st₁.trans (Stp.keeps k hz)) hit hp hp st₁.size st₁.size
theorem ti_enum {S : Sx} (Z : FrzOk c S) {sc : Scope} (K' : EOk env sc) {x : Str} (hg : globIn c.K x = some (.type "enumerate")) (hkd : sc.names.lookup x = some .globalImplicit) (hd : (x == ("__debug__" : Str)) = false)
    {e : Expr} {p pos : Pos} {P : EP} (hs : noStar e = true) (h₁ : TE c A env nm e P) :
    TI c A env nm true (.Call (.Name x p) [e] [] pos) fun ρ σ Q => P ρ σ (fun v σ₁ => ∃ it, itOf S σ₁ v = some it ∧ isLst it = true ∧ Q (enumOf it) σ₁) (fun _ _ => False) := fun ρ σ Q h μ s ev K E hK => by
  refine wpAny_Call_Name_kw (te_glob K' hg hkd hd ρ σ (fun v σ' => v = .k (.type "enumerate") ∧ σ' = σ) (fun _ _ => False) ⟨rfl, rfl⟩ μ s ev _ E (fun v σ₁ μ₁ r s₁ q₁ ev₁ st₁ r₁ => ?_) (fun _ _ _ _ _ z => z.elim))
  obtain ⟨rfl, rfl⟩ := q₁
  rw [show r = .type "enumerate" from r₁]
  refine PyProof.Rows.callWith_type (star_all _ env pos (by rw [List.all_cons, hs]; rfl)).1 ?_
  rw [star_cons hs]
  refine Calls.evalArgs_plain (Calls.spliced_cons (h₁ ρ σ₁ _ _ h μ₁ s₁ ev₁ _ E (fun v σ₂ μ₂ rv s₂ q₂ ev₂ st₂ r₂ => Calls.spliced_nil ?_) (fun _ _ _ _ _ z => z.elim)))
  obtain ⟨it, e1, e2, q⟩ := q₂
  have lst : ∃ a its n0, rv = .ref a ∧ s₂.heap.get? a = some (listOf its n0) ∧ ∀ h' I, h'.IsListIter I a 0 → ItS c μ₂ h' I 0 it := by
    unfold itOf at e1
    split at e1
    · split at e1
      · rename_i x vs w
        cases e1
        obtain ⟨a, its, n0, f1, f2, f3, f4, f5⟩ := ev₂.list w
        obtain ⟨a', d', f1', rfl⟩ := r₂
        rw [f1] at f1'; cases f1'
        exact ⟨a, its, n0, rfl, f2, fun h' I z => ⟨a, f1, z⟩⟩
      · cases e1
    · rename_i a
      obtain ⟨vs, e3, rfl⟩ := Option.map_eq_some_iff.mp e1
      obtain ⟨l, its, n0, f, g⟩ := Z a vs e3
      exact ⟨a, its, n0, r₂, ev₂.rl.base _ _ f, fun h' I z => ⟨⟨its, n0, f, g⟩, z⟩⟩
    · cases e1; cases e2
    · cases e1; cases e2
    · cases e1; cases e2
    · cases e1
  obtain ⟨a, its, n0, rfl, f1, f2⟩ := lst
  show wpAny _ A (call (.type "enumerate") [.ref a]) _ _ _
  refine call_enumerate_1 f1 fun h' he hit hz k => ?_
  refine wpAny_pyIter_enum he ?_
  have hz' : s₂.heap.objs.size ≤ h'.objs.size := by omega
  have ev₃ := ev₂.keeps (tk := s₂.toks) k hz'
  have pI : Priv c μ₂ h' (s₂.heap.objs.size + 1) := ⟨ev₂.rl.h0_none (Nat.le_succ _), ev₂.rl.freshOff (Nat.le_succ _), _, he, .iter rfl rfl (by decide)⟩
  obtain ⟨o, c1, c2, c3⟩ := id hit
  have pJ : Priv c μ₂ h' s₂.heap.objs.size := ⟨ev₂.rl.h0_none (Nat.le_refl _), ev₂.rl.freshOff (Nat.le_refl _), o, c1, .iter c3 c2 (by decide)⟩
  exact hK (.enum it) σ₂ μ₂ _ _ _ q (fun _ _ => rfl) ev₃ ((st₁.trans st₂).trans (Stp.keeps k hz')) ⟨e2, f2 _ _ hit, Nat.succ_ne_self _, _, he⟩ pI pJ (Nat.le_succ_of_le (st₁.trans st₂).size) (st₁.trans st₂).size
end
end Mine
open PySem PySem.W PySem.Calls PyProof.Rows PySem.Spec
set_option linter.unusedVariables false
namespace Mine
def relF (μ : Mp) (h : Heap) : Fl → Flow → Prop
  | .next, r => r = .next
  | .brk, r => r = .brk
  | .cont, r => r = .cont
  | .ret v, r => ok v ∧ ∃ w, r = .ret w ∧ VR μ h v w
section
variable (c : Cx) (A : Around) (env : Env) (nm : List (Str × Nat)) (B : Nat)
def GS (μ : Mp) (s : Shared) (Q : Fl → List V → Hp → Prop) (Q' : Flow → Shared → Prop) : Prop :=
  ∀ fl ρ' σ' μ' r s', Q fl ρ' σ' → Ev c A env nm μ' ρ' σ' s' → StpE c B (Wr env) μ s.heap μ' s'.heap → relF μ' s'.heap fl r → Q' r s'
def XS (μ : Mp) (s : Shared) (X : XP) (E : Value → Shared → Prop) : Prop :=
  ∀ x ρ' σ' μ' e s', X x σ' → Ev c A env nm μ' ρ' σ' s' → StpE c B (Wr env) μ s.heap μ' s'.heap → Xc c μ' s.heap e x s'.heap → E (.ref e) s'
abbrev SP := List V → Hp → (Fl → List V → Hp → Prop) → XP → Prop
def TS (t : Sem Flow) (P : SP) : Prop := ∀ ρ σ Q X, P ρ σ Q X → ∀ μ s, Ev c A env nm μ ρ σ s → B ≤ env.locals → ∀ Q' E, GS c A env nm B μ s Q Q' → XS c A env nm B μ s X E → wpAny (model c.prog c.w) A t Q' E s
end
section
variable {c : Cx} {A : Around} {env : Env} {nm : List (Str × Nat)} {μ μ' μ₁ μ₂ μ₀ : Mp} {ρ ρ' : List V} {σ σ' : Hp} {s s' : Shared} {h h' h₁ h₂ hb : Heap} {E : Value → Shared → Prop} {B : Nat} {X : XP}
theorem GS.trans {Q : Fl → List V → Hp → Prop} {Q' : Flow → Shared → Prop} (g : GS c A env nm B μ s Q Q') (S : StpE c B (Wr env) μ s.heap μ' s'.heap) : GS c A env nm B μ' s' Q Q' := fun fl ρ' σ' μ'' r s'' q ev st f => g fl ρ' σ' μ'' r s'' q ev (S.trans st) f
theorem notWr (ev : Ev c A env nm μ ρ σ s) {b : Addr} (p : Priv c μ s.heap b) : ¬ Wr env b := fun w => by
  rcases w with rfl | ⟨z, hz, w⟩
  · obtain ⟨m, hn, _⟩ := ev.lc.ns; exact p.ns hn rfl
  · obtain ⟨ov, hc⟩ := ev.lc.cA z hz; exact p.cell hc w
theorem dead_backE {W : Addr → Prop} (S : StpE c B W μ₀ h₁ μ₁ h₂) (hs : Sub μ₁ μ) (t : TabsOk c h) : ∀ b, Priv c μ h b → ¬ W b → h₂.get? b = none → h₁.get? b = none := fun b p w d => by
  cases q : h₁.get? b with
  | none => rfl
  | some o =>
    obtain ⟨_, o', e', _⟩ := S.kept b o q (fun x a d e => p.off x a d (hs _ _ (S.sub _ _ e))) (fun z hz w => by
      obtain ⟨ps, f, _⟩ := t z hz
      exact p.tab f w) w
    rw [d] at e'; cases e'
theorem XS.trans (g : XS c A env nm B μ s X E) (S : StpE c B (Wr env) μ s.heap μ' s'.heap) : XS c A env nm B μ' s' X E := fun x ρ' σ' μ'' e s'' q ev st f => g x ρ' σ' μ'' e s'' q ev (S.trans st) (f.back fun b p => dead_backE S st.sub ev.tb b p (notWr ev p))
theorem XS.px (g : XS c A env nm B μ s X E) (hB : B ≤ s.heap.objs.size) : PX c A env nm ρ μ s X E := fun x σ' μ' e s' hx ev st xc => g x ρ σ' μ' e s' hx ev (st.toE hB) xc
theorem XS.no : XS c A env nm B μ s (fun _ _ => False) E := fun _ _ _ _ _ _ z => z.elim
theorem PX.no : PX c A env nm ρ μ s (fun _ _ => False) E := fun _ _ _ _ _ z => z.elim
theorem ts_pass {pos : Pos} : TS c A env nm B (exec (.Pass pos) env) fun ρ σ Q _ => Q .next ρ σ := fun ρ σ Q X h μ s ev hB Q' E hQ hX => by
  rw [arm_exec_Pass]; exact wpAny_bind (wpAny_standAt (wpAny_pure (hQ _ _ _ _ _ _ h ev .refl rfl)))
theorem ts_brk {pos : Pos} : TS c A env nm B (exec (.Break pos) env) fun ρ σ Q _ => Q .brk ρ σ := fun ρ σ Q X h μ s ev hB Q' E hQ hX => by
  rw [arm_exec_Break]; exact wpAny_bind (wpAny_standAt (wpAny_pure (hQ _ _ _ _ _ _ h ev .refl rfl)))
theorem ts_cont {pos : Pos} : TS c A env nm B (exec (.Continue pos) env) fun ρ σ Q _ => Q .cont ρ σ := fun ρ σ Q X h μ s ev hB Q' E hQ hX => by
  rw [arm_exec_Continue]; exact wpAny_bind (wpAny_standAt (wpAny_pure (hQ _ _ _ _ _ _ h ev .refl rfl)))
theorem ts_retN {pos : Pos} : TS c A env nm B (exec (.Return none pos) env) fun ρ σ Q _ => Q (.ret .none) ρ σ := fun ρ σ Q X h μ s ev hB Q' E hQ hX =>
  wpAny_Return_none (hQ _ _ _ _ _ _ h ev .refl ⟨trivial, _, rfl, rfl⟩)
theorem ts_ret {e : Expr} {pos : Pos} {P : EP} (h₁ : TE c A env nm e P) : TS c A env nm B (exec (.Return (some e) pos) env) fun ρ σ Q X => P ρ σ (fun v σ₁ => ok v ∧ Q (.ret v) ρ σ₁) X := fun ρ σ Q X h μ s ev hB Q' E hQ hX => by
  have hz := ev.floor hB
  exact wpAny_Return_some (h₁ ρ σ _ X h μ s ev _ E (fun v σ₁ μ₁ r s₁ q₁ ev₁ st₁ r₁ => hQ _ _ _ _ _ _ q₁.2 ev₁ (st₁.toE hz) ⟨q₁.1, _, rfl, r₁⟩) (hX.px hz))
theorem ts_expr {sc : Scope} (K : EOk env sc) {e : Expr} {pos : Pos} {P : EP} (hc : ∀ a b s d, e ≠ .ListComp a b s d ∧ e ≠ .SetComp a b s d ∧ ∀ k, e ≠ .DictComp a k b s d) (h₁ : TE c A env nm e P) :
    TS c A env nm B (exec (.Expr e pos) env) fun ρ σ Q X => P ρ σ (fun _ σ₁ => Q .next ρ σ₁) X := fun ρ σ Q X h μ s ev hB Q' E hQ hX => by
  have hz := ev.floor hB
  rw [arm_exec_Expr]
  have hi : interactive env = false := by unfold interactive; rw [K.se, K.kd]; rfl
  have hw : swapsWith e none pos.line env = pure false := by cases e <;> first | rfl | (exfalso; first | exact (hc _ _ _ _).1 rfl | exact (hc _ _ _ _).2.1 rfl | exact (hc _ _ _ _).2.2 _ rfl)
  rw [hi, hw]
  refine wpAny_bind (wpAny_standAt ?_)
  refine wpAny_bind (m := pure false) (wpAny_pure ?_)
  refine wpAny_bind (h₁ ρ σ _ X h μ s ev _ E (fun v σ₁ μ₁ r s₁ q₁ ev₁ st₁ r₁ => ?_) (hX.px hz))
  exact wpAny_dropValue (hQ _ _ _ _ _ _ q₁ ev₁ (st₁.toE hz) rfl)
abbrev TSs (c : Cx) (A : Around) (env : Env) (nm : List (Str × Nat)) (B : Nat) (ss : List Stmt) (P : SP) : Prop := TS c A env nm B (execs ss env) P
theorem tss_nil : TSs c A env nm B [] fun ρ σ Q _ => Q .next ρ σ := fun ρ σ Q X h μ s ev hB Q' E hQ hX => wpAny_pure (hQ _ _ _ _ _ _ h ev .refl rfl)
theorem tss_cons {st : Stmt} {ss : List Stmt} {P P' : SP} (h₁ : TS c A env nm B (exec st env) P) (h₂ : TSs c A env nm B ss P') :
    TSs c A env nm B (st :: ss) fun ρ σ Q X => P ρ σ (fun fl ρ₁ σ₁ => match fl with | .next => P' ρ₁ σ₁ Q X | fl => Q fl ρ₁ σ₁) X := fun ρ σ Q X h μ s ev hB Q' E hQ hX => by
  refine wpAny_execs_cons (h₁ ρ σ _ X h μ s ev hB _ E (fun fl ρ₁ σ₁ μ₁ r s₁ q₁ ev₁ st₁ r₁ => ?_) hX)
  cases fl with
  | next => rw [show r = .next from r₁]; exact h₂ ρ₁ σ₁ Q X q₁ μ₁ s₁ ev₁ hB Q' E (hQ.trans st₁) (hX.trans st₁)
  | brk => rw [show r = .brk from r₁]; exact hQ _ _ _ _ _ _ q₁ ev₁ st₁ rfl
  | cont => rw [show r = .cont from r₁]; exact hQ _ _ _ _ _ _ q₁ ev₁ st₁ rfl
  | ret v => obtain ⟨a, w, rfl, b⟩ := r₁; exact hQ _ _ _ _ _ _ q₁ ev₁ st₁ ⟨a, w, rfl, b⟩
theorem ts_if {t : Expr} {a b : List Stmt} {pos : Pos} {P : BP} {P₁ P₂ : SP} (h₀ : TT c A env nm t P) (h₁ : TSs c A env nm B a P₁) (h₂ : TSs c A env nm B b P₂) :
    TS c A env nm B (exec (.If t a b pos) env) fun ρ σ Q X => P ρ σ (fun r σ₁ => match r with | true => P₁ ρ σ₁ Q X | false => P₂ ρ σ₁ Q X) X := fun ρ σ Q X h μ s ev hB Q' E hQ hX => by
  have hz := ev.floor hB
  rw [arm_exec_If]
  refine wpAny_bind (wpAny_standAt (wpAny_bind (h₀ _ rfl ρ σ _ X h μ s ev _ E (fun v σ₁ μ₁ r s₁ q₁ ev₁ st₁ r₁ => ?_) (hX.px hz))))
  cases r₁
  have st := st₁.toE (W := Wr env) hz
  cases v
  · exact h₂ ρ σ₁ Q X q₁ μ₁ s₁ ev₁ hB Q' E (hQ.trans st) (hX.trans st)
  · exact h₁ ρ σ₁ Q X q₁ μ₁ s₁ ev₁ hB Q' E (hQ.trans st) (hX.trans st)
/-! loops -/
theorem wpNo {α : Type} {M : Model} {t : Sem α} {Q : α → Shared → Prop} (h : wpAny M A t Q (fun _ _ => False) s) : wpAny M A t Q E s := wpAny_mono h (fun _ _ z => z) fun _ _ z => z.elim
theorem loop_ok {n : Nat} (hA : AOk n A) {sc : Scope} (K : EOk env sc) {target : Expr} {t : MT} (T : Tgt (Wr env) env sc nm target t) {it : It} (ht : ∀ it', it = .enum it' → isTup target = true) {body : List Stmt} {P : SP} (hb : TSs c A env nm B body P)
    (hB : B ≤ env.locals) {μ₀ : Mp} {h₀ : Heap} {I J : Addr} (hI : h₀.objs.size ≤ I) (hJ : h₀.objs.size ≤ J) {Q : Fl → List V → Hp → Prop} {R : Result → Shared → Prop}
    (hR : ∀ fl ρ' σ' μ' r s', Q fl ρ' σ' → (fl = .next ∨ ∃ v, fl = .ret v) → Ev c A env nm μ' ρ' σ' s' → StpE c B (Wr env) μ₀ h₀ μ' s'.heap → relF μ' s'.heap fl r → R (.ok r) s') :
    ∀ k i ρ σ μ s, i + k = it.n → wpLoop it (fun v ρ σ K => pAssign t v ρ σ fun ρ₁ => P ρ₁ σ K fun _ _ => False) Q k i ρ σ → Ev c A env nm μ ρ σ s → ItE c μ s.heap I J i it → Priv c μ s.heap I → Priv c μ s.heap J → StpE c B (Wr env) μ₀ h₀ μ s.heap →
      codeAny (model c.prog c.w) A (.forLoop target (.ref I) body [] env) R s := by
  intro k
  induction k with
  | zero =>
    intro i ρ σ μ s hk hw ev x p q st
    obtain ⟨live, hq⟩ := hw
    refine codeAny_of_tree ?_
    show wpAny _ A ((forTurn target (.ref I) body [] env).onRaise (fun x => do noteFrame x env; theTreesLotGoes x)) _ _ s
    refine wpAny_noted (wpNo ?_)
    simp only [forTurn]
    refine wpAny_bind (wpAny_standAt (wpAny_bind (wpAny_onRaise (wpAny_mono (next_ok (E := fun _ _ => False) hA x ev p q live ht (Nat.le_of_eq hk) (N := fun s₁ => R (.ok .next) s₁) (K := fun _ _ => False) (fun hi h' kp => ?_) (fun v _ hlt => absurd hlt (by omega))) (fun r s₁ h₁ => ?_) fun _ _ z => z.elim))))
    · exact hR _ _ _ μ _ _ hq (.inl rfl) (ev.but p q kp (tk := s.toks)) (st.but hI hJ kp) rfl
    · cases r with
      | none => exact wpAny_pure ⟨rfl, codeAny_block (wpAny_pure h₁)⟩
      | some v => exact wpAny_bind (wpAny_mono h₁ (fun _ _ z => z.elim) fun _ _ z => z)
  | succ k ih =>
    intro i ρ σ μ s hk hw ev x p q st
    obtain ⟨live, v, hv, hok, hw⟩ := hw
    refine codeAny_of_tree ?_
    show wpAny _ A ((forTurn target (.ref I) body [] env).onRaise (fun x => do noteFrame x env; theTreesLotGoes x)) _ _ s
    refine wpAny_noted (wpNo ?_)
    simp only [forTurn]
    refine wpAny_bind (wpAny_standAt (wpAny_bind (wpAny_onRaise (wpAny_mono (next_ok (E := fun _ _ => False) hA x ev p q live ht (by omega) (N := fun _ => False)
      (K := fun r s₁ => wpAny (model c.prog c.w) A (assign target env r) (fun _ s₂ => wpAny (model c.prog c.w) A (execs body env) (fun f s₃ => match f with
        | .next | .cont => codeAny (model c.prog c.w) A (.forLoop target (.ref I) body [] env) R s₃
        | .brk => R (.ok .next) s₃
        | .ret v => R (.ok (.ret v)) s₃) (fun _ _ => False) s₂) (fun _ _ => False) s₁) (fun hi => absurd hi (by omega)) (fun v' hv' hlt r h' tk hr kp x' p' q' => ?_)) (fun r s₁ h₁ => ?_) fun _ _ z => z.elim))))
    · rw [hv] at hv'; cases hv'
      have ev' := ev.but p q kp (tk := tk)
      refine asg_ok hA K T ev' hr hw fun ρ₁ h₁ tk₁ hq₁ ev₁ k₁ => ?_
      have pm : ∀ {I}, Priv c μ h' I → Priv c μ h₁ I := fun {I} p => by
        obtain ⟨o, e, d⟩ := p.ob
        have hne : ¬ Wr env I := fun w => by
          rcases w with rfl | ⟨z, hz, w⟩
          · obtain ⟨m, hn, _⟩ := ev'.lc.ns; exact p.ns hn rfl
          · obtain ⟨ov, hc⟩ := ev'.lc.cA z hz; exact p.cell hc w
        exact ⟨p.h0, p.off, o, k₁ _ _ hne e, d⟩
      have im : ∀ b o, Imm o → h'.get? b = some o → h₁.get? b = some o := fun b o i e => k₁ b o (fun w => by
          rcases w with rfl | ⟨z, hz, rfl⟩
          · obtain ⟨m, ⟨ob, es, ep, e', hd, _⟩, _⟩ := ev'.lc.ns
            have e' : h'.get? env.locals = some ob := e'
            rw [e] at e'; cases e'; have := i.2; rw [hd] at this; exact this
          · obtain ⟨ov, ob, e', hd⟩ := ev'.lc.cA z hz
            have e' : h'.get? z.2 = some ob := e'
            rw [e] at e'; cases e'; have := i.2; rw [hd] at this; exact this) e
      have kI : ∀ {I}, Priv c μ h' I → ∀ o, h'.get? I = some o → h₁.get? I = some o := fun {I} p o e => k₁ _ _ (fun w => by
          rcases w with rfl | ⟨z, hz, w⟩
          · obtain ⟨m, hn, _⟩ := ev'.lc.ns; exact p.ns hn rfl
          · obtain ⟨ov, hc⟩ := ev'.lc.cA z hz; exact p.cell hc w) e
      have x₁ : ItE c μ h₁ I J (i + 1) it := x'.move (fun _ _ z => z) im (kI p') (kI q')
      have p₁ := pm p'
      have q₁ := pm q'
      have st₁ : StpE c B (Wr env) μ₀ h₀ μ h₁ := (st.but hI hJ kp).trans (StpE.wr k₁)
      refine hb ρ₁ σ _ _ hq₁ μ _ ev₁ hB _ _ (fun fl ρ₂ σ₂ μ₂ f s₂ q₂ ev₂ st₂ r₂ => ?_) XS.no
      have st₃ := st₁.trans st₂
      have wn : ∀ {I}, Priv c μ h₁ I → ¬ Wr env I := fun {I} p w => by
          rcases w with rfl | ⟨z, hz, w⟩
          · obtain ⟨m, hn, _⟩ := ev₁.lc.ns; exact p.ns hn rfl
          · obtain ⟨ov, hc⟩ := ev₁.lc.cA z hz; exact p.cell hc w
      have pk : ∀ {I}, Priv c μ h₁ I → Priv c μ₂ s₂.heap I ∧ ∀ o, h₁.get? I = some o → s₂.heap.get? I = some o := fun {I} p => by
        obtain ⟨o, e, d⟩ := p.ob
        obtain ⟨f', o', e', l⟩ := st₂.kept I o e p.off (fun t ht z => by obtain ⟨ps, f, _⟩ := ev₁.tb t ht; exact p.tab f z) (wn p)
        rcases l with rfl | ⟨⟨es, n, w⟩, _⟩
        · exact ⟨⟨p.h0, f', _, e', d⟩, fun o2 e2 => by have e : h₁.get? I = _ := e; rw [e] at e2; cases e2; exact e'⟩
        · have := d.2.2; rw [w] at this; exact this.elim
      have im₂ : ∀ b o, Imm o → h₁.get? b = some o → s₂.heap.get? b = some o := fun b o i e => by
        obtain ⟨f', o', e', l⟩ := st₂.kept b o e (ev₁.rl.immOff e i) (Rl.immTab ev₁.tb e i) (fun w => by
          rcases w with rfl | ⟨z, hz, rfl⟩
          · obtain ⟨m, ⟨ob, es, ep, e', hd, _⟩, _⟩ := ev₁.lc.ns
            have e' : h₁.get? env.locals = some ob := e'
            rw [e] at e'; cases e'; have := i.2; rw [hd] at this; exact this
          · obtain ⟨ov, ob, e', hd⟩ := ev₁.lc.cA z hz
            have e' : h₁.get? z.2 = some ob := e'
            rw [e] at e'; cases e'; have := i.2; rw [hd] at this; exact this)
        rcases l with rfl | ⟨⟨es, n, w⟩, _⟩
        · exact e'
        · have := i.2; rw [w] at this; exact this.elim
      have x₂ : ItE c μ₂ s₂.heap I J (i + 1) it := x₁.move st₂.sub im₂ (pk p₁).2 (pk q₁).2
      cases fl with
      | next => rw [show f = .next from r₂]; exact ih (i + 1) ρ₂ σ₂ μ₂ s₂ (by omega) q₂ ev₂ x₂ (pk p₁).1 (pk q₁).1 st₃
      | cont => rw [show f = .cont from r₂]; exact ih (i + 1) ρ₂ σ₂ μ₂ s₂ (by omega) q₂ ev₂ x₂ (pk p₁).1 (pk q₁).1 st₃
      | brk => rw [show f = .brk from r₂]; exact hR .next _ _ μ₂ _ _ q₂ (.inl rfl) ev₂ st₃ rfl
      | ret v => obtain ⟨a, w, rfl, b⟩ := r₂; exact hR (.ret v) _ _ μ₂ _ _ q₂ (.inr ⟨_, rfl⟩) ev₂ st₃ ⟨a, w, rfl, b⟩
    · cases r with
      | none => exact h₁.elim
      | some v =>
        refine wpAny_bind (wpAny_mono h₁ (fun _ s₂ h₂ => wpAny_bind (wpAny_mono h₂ (fun _ s₃ h₃ => wpAny_bind (wpAny_mono h₃ (fun f s₄ h₄ => ?_) fun _ _ z => z)) fun _ _ z => z)) fun _ _ z => z)
        cases f with
        | next => exact wpAny_pure ⟨rfl, h₄⟩
        | cont => exact wpAny_pure ⟨rfl, h₄⟩
        | brk => exact wpAny_pure h₄
        | ret v => exact wpAny_pure h₄
end
end Mine
open PySem PySem.W PySem.Calls PyProof.Rows PySem.Spec
set_option linter.unusedVariables false
namespace Mine
def noSet : Expr → Bool
  | .Set .. => false
  | _ => true
theorem noSet_eq {e : Expr} (h : noSet e = true) (env : Env) (x : Value) : foldedSetIterable e env x = pure x := by
  cases e <;> first | rfl | cases h
section
variable {c : Cx} {A : Around} {env : Env} {nm : List (Str × Nat)} {μ μ' μ₁ μ₂ μ₀ : Mp} {ρ ρ' : List V} {σ σ' : Hp} {s s' : Shared} {h h' h₁ h₂ hb : Heap} {E : Value → Shared → Prop} {B : Nat} {X : XP}
theorem ts_for {n : Nat} {en : Bool} (hA : AOk n A) {sc : Scope} (K : EOk env sc) {target iter : Expr} {t : MT} (T : Tgt (Wr env) env sc nm target t) {body : List Stmt} {pos : Pos} {P : IP} {P' : SP} (hs : noSet iter = true) (hT : en = true → isTup target = true)
    (h₁ : TI c A env nm en iter P) (h₂ : TSs c A env nm B body P') :
    TS c A env nm B (exec (.For target iter body [] pos) env) fun ρ σ Q _ => P ρ σ fun it σ₁ => wpLoop it (fun v ρ σ K => pAssign t v ρ σ fun ρ₁ => P' ρ₁ σ K fun _ _ => False) Q it.n 0 ρ σ₁ := fun ρ σ Q X h μ s ev hB Q' E hQ hX => by
  have hz := ev.floor hB
  refine wpAny_For (h₁ ρ σ _ h μ s ev _ E (fun it σ₁ μ₁ I J s₁ q₁ hen ev₁ st₁ x p q hI hJ => ?_)) (noSet_eq hs env)
  refine loop_ok hA K T (fun it' e => hT (hen it' e)) h₂ hB hI hJ (Q := Q) (fun fl ρ' σ' μ' r s' hq hfl ev' st' hr => hQ _ _ _ _ _ _ hq ev' st' hr) it.n 0 ρ σ₁ μ₁ s₁ (by omega) q₁ ev₁ x p q (st₁.toE hz)
theorem while_ok {test : Expr} {P : BP} (h₀ : TT c A env nm test P) {body : List Stmt} {P' : SP} (hb : TSs c A env nm B body P')
    (hB : B ≤ env.locals) {μ₀ : Mp} {h₀' : Heap} {Q : Fl → List V → Hp → Prop} {R : Result → Shared → Prop}
    (hR : ∀ fl ρ' σ' μ' r s', Q fl ρ' σ' → Ev c A env nm μ' ρ' σ' s' → StpE c B (Wr env) μ₀ h₀' μ' s'.heap → relF μ' s'.heap fl r → R (.ok r) s') :
    ∀ k ρ σ μ s, wpWhile (fun ρ σ K => P ρ σ K fun _ _ => False) (fun ρ σ K => P' ρ σ K fun _ _ => False) Q k ρ σ → Ev c A env nm μ ρ σ s → StpE c B (Wr env) μ₀ h₀' μ s.heap →
      codeAny (model c.prog c.w) A (.whileLoop test body [] env) R s := by
  intro k
  induction k with
  | zero => intro ρ σ μ s hw; exact hw.elim
  | succ k ih =>
    intro ρ σ μ s hw ev st
    refine codeAny_of_tree ?_
    show wpAny _ A ((whileTurn test body [] env).onRaise (fun x => do noteFrame x env; theTreesLotGoes x)) _ _ s
    refine wpAny_noted (wpNo ?_)
    simp only [whileTurn]
    refine wpAny_bind (h₀ _ rfl ρ σ _ _ hw μ s ev _ _ (fun b σ₁ μ₁ r s₁ q₁ ev₁ st₁ r₁ => ?_) PX.no)
    have stA := st.trans (st₁.toE (W := Wr env) (ev.floor hB))
    cases r₁
    cases b with
    | false =>
      simp only [Bool.false_eq_true, if_false]
      exact wpAny_bind (m := execs [] env) (wpAny_pure (wpAny_pure (hR _ _ _ _ _ _ q₁ ev₁ stA rfl)))
    | true =>
      simp only [if_true]
      refine wpAny_bind (hb ρ σ₁ _ _ q₁ μ₁ s₁ ev₁ hB _ _ (fun fl ρ₂ σ₂ μ₂ f s₂ q₂ ev₂ st₂ r₂ => ?_) XS.no)
      have stB := stA.trans st₂
      cases fl with
      | next => rw [show f = .next from r₂]; exact wpAny_pure ⟨rfl, ih ρ₂ σ₂ μ₂ s₂ q₂ ev₂ stB⟩
      | cont => rw [show f = .cont from r₂]; exact wpAny_pure ⟨rfl, ih ρ₂ σ₂ μ₂ s₂ q₂ ev₂ stB⟩
      | brk => rw [show f = .brk from r₂]; exact wpAny_pure (hR _ _ _ _ _ _ q₂ ev₂ stB rfl)
      | ret v => obtain ⟨a, w, rfl, b⟩ := r₂; exact wpAny_pure (hR _ _ _ _ _ _ q₂ ev₂ stB ⟨a, w, rfl, b⟩)
theorem ts_while {test : Expr} {P : BP} {body : List Stmt} {P' : SP} {pos : Pos} (h₀ : TT c A env nm test P) (hb : TSs c A env nm B body P') :
    TS c A env nm B (exec (.While test body [] pos) env) fun ρ σ Q _ => ∃ n, wpWhile (fun ρ σ K => P ρ σ K fun _ _ => False) (fun ρ σ K => P' ρ σ K fun _ _ => False) Q n ρ σ := fun ρ σ Q X h μ s ev hB Q' E hQ hX => by
  obtain ⟨n, h⟩ := h
  exact wpAny_While (while_ok h₀ hb hB (fun fl ρ' σ' μ' r s' hq ev' st' hr => hQ _ _ _ _ _ _ hq ev' st' hr) n ρ σ μ s h ev .refl)
/-! stores by name -/
def noComp : Expr → Bool
  | .ListComp .. => false
  | .SetComp .. => false
  | .DictComp .. => false
  | _ => true
theorem swaps_no {e : Expr} (h : noComp e = true) (t : Option Expr) (l : Nat) : swapsWith e t l env = pure false := by
  cases e <;> first | rfl | cases h
theorem swapsSole_no {e t : Expr} (h : noComp e = true) (l : Nat) : swapsWithSole [t] e l env = pure false := swaps_no h (some t) l
/-- x = e | x, y = e (no stores swapped) -/
theorem ts_asgn {n : Nat} (hA : AOk n A) {sc : Scope} (K : EOk env sc) {target value : Expr} {t : MT} (T : Tgt (Wr env) env sc nm target t) {pos : Pos} {P : EP} (h₁ : TE c A env nm value P) (hns : noStar target = true)
    (hsw : swapsWithSole [target] value pos.line env = pure false) (hss : swappedStores [target] value env = pure none) :
    TS c A env nm B (exec (.Assign [target] value pos) env) fun ρ σ Q X => P ρ σ (fun v σ₁ => pAssign t v ρ σ₁ fun ρ₁ => Q .next ρ₁ σ₁) X := fun ρ σ Q X h μ s ev hB Q' E hQ hX => by
  have hz := ev.floor hB
  rw [arm_exec_Assign, hsw, hss]
  refine wpAny_bind (wpAny_standAt ?_)
  refine wpAny_bind (m := pure false) (wpAny_pure ?_)
  refine wpAny_bind (h₁ ρ σ _ X h μ s ev _ E (fun v σ₁ μ₁ r s₁ q₁ ev₁ st₁ r₁ => ?_) (hX.px hz))
  refine wpAny_bind (m := pure none) (wpAny_pure ?_)
  have e : (assignEach [target] env).map (·.2) = [assign target env] := by cases target <;> first | rfl | cases hns
  rw [e]
  refine wpAny_bind (m := assign target env r) (asg_ok hA K T ev₁ r₁ q₁ fun ρ₁ h₁ tk hq ev₂ k => wpAny_pure (hQ _ _ _ _ _ _ hq ev₂ ((st₁.toE hz).trans (StpE.wr k)) rfl))
/-- x, y = e1, e2, where CPython's own order turns the stores -/
theorem ts_asgnR {n : Nat} (hA : AOk n A) {sc : Scope} (K : EOk env sc) {target value : Expr} {names : List Str} {is : List Nat} (hf : StFs (Wr env) env sc nm (names.reverse.map fun n => bindName env n) is.reverse) {pos : Pos} {P : EP} (h₁ : TE c A env nm value P)
    (hsw : swapsWithSole [target] value pos.line env = pure false) (hss : swappedStores [target] value env = pure (some names)) :
    TS c A env nm B (exec (.Assign [target] value pos) env) fun ρ σ Q X => P ρ σ (fun v σ₁ => pAssign (.tp true is) v ρ σ₁ fun ρ₁ => Q .next ρ₁ σ₁) X := fun ρ σ Q X h μ s ev hB Q' E hQ hX => by
  have hz := ev.floor hB
  rw [arm_exec_Assign, hsw, hss]
  refine wpAny_bind (wpAny_standAt ?_)
  refine wpAny_bind (m := pure false) (wpAny_pure ?_)
  refine wpAny_bind (h₁ ρ σ _ X h μ s ev _ E (fun v σ₁ μ₁ r s₁ q₁ ev₁ st₁ r₁ => ?_) (hX.px hz))
  refine wpAny_bind (m := pure (some names)) (wpAny_pure ?_)
  obtain ⟨vs, e1, e2, e3, e4, e5⟩ := q₁
  have hl : names.length = vs.length := by have := hf.length; simp at this; omega
  refine wpAny_bind (wpAny_rule ?_)
  rw [hl]
  refine wpAny_bind (unpack_ok hA ev₁ e1 r₁ fun rs h' hv k => ?_)
  have ev₂ := ev₁.all (tk := s₁.toks) k
  refine wpAny_bind (seq_store K hf (vs := vs.reverse) (by simp [e2]) ev₂ (VsR.rev (VsR.mono (fun _ _ z => z) (fun _ _ _ z => k _ _ z) _ _ hv)) fun h₂ tk ev₃ k₂ => wpAny_pure ?_)
  exact hQ _ _ _ _ _ _ e5 ev₃ ((st₁.toE hz).trans (StpE.wr fun b o w e => k₂ b o w (k b o e))) rfl
end
end Mine
open PySem PySem.W PySem.Calls PyProof.Rows PySem.Spec
set_option linter.unusedVariables false
namespace Mine
abbrev ifsLoop (ifs : List Expr) (env : Env) (b : Bool) : Sem Bool :=
  forIn ifs b fun c r => if r = true then do let ok ← isTrue c env (eval c env); pure (ForInStep.yield ok) else pure (ForInStep.yield r)
theorem ifs_false : ∀ (ifs : List Expr) (env : Env), ifsLoop ifs env false = pure false
  | [], _ => by simp only [List.forIn_nil]
  | c :: r, env => by
    simp only [List.forIn_cons, Bool.false_eq_true, if_false, pure_bind]
    exact ifs_false r env
theorem compTurn_last {elt : Expr} {gens : List Comprehension} {scope : Scope} {pos : Pos} {d : Nat} {it acc : Value} {env : Env} {target iter : Expr} {ifs : List Expr} (hg : gens[d]? = some ⟨target, iter, ifs, 0⟩) (hn : gens[d + 1]? = none) :
    compTurn (.ListComp elt gens scope pos) d it acc env = (do
      standAt iter.pos
      match ← pyNext it with
      | none => pure (.done .next)
      | some v =>
        letOwnedTupleGo target it v
        assign target env v
        if ← ifsLoop ifs env true then do
          (do let _ ← call (.builtin "list.append") [acc, ← eval elt env] : Sem Unit)
          again (.compLoop (.ListComp elt gens scope pos) d it acc env)
        else again (.compLoop (.ListComp elt gens scope pos) d it acc env)) := by
  unfold compTurn
  simp only [hg, hn, bne_self_eq_false, Bool.false_eq_true, if_false]
  rfl
theorem compTurn_more {elt : Expr} {gens : List Comprehension} {scope : Scope} {pos : Pos} {d : Nat} {it acc : Value} {env : Env} {target iter target2 iter2 : Expr} {ifs ifs2 : List Expr} (hg : gens[d]? = some ⟨target, iter, ifs, 0⟩) (hn : gens[d + 1]? = some ⟨target2, iter2, ifs2, 0⟩) :
    compTurn (.ListComp elt gens scope pos) d it acc env = (do
      standAt iter.pos
      match ← pyNext it with
      | none => pure (.done .next)
      | some v =>
        letOwnedTupleGo target it v
        assign target env v
        if ← ifsLoop ifs env true then do
          let x ← eval iter2 env
          standAt iter2.pos
          let x ← foldedSetIterable iter2 env x
          let _ ← runOwn (.compStart (.ListComp elt gens scope pos) (d + 1) (← holding [x] (pyIter x)) acc env) env
          again (.compLoop (.ListComp elt gens scope pos) d it acc env)
        else again (.compLoop (.ListComp elt gens scope pos) d it acc env)) := by
  unfold compTurn
  simp only [hg, hn, bne_self_eq_false, Bool.false_eq_true, if_false]
  rfl
section
variable {c : Cx} {A : Around} {env : Env} {nm : List (Str × Nat)} {μ μ' μ₁ μ₂ μ₀ : Mp} {ρ ρ' : List V} {σ σ' : Hp} {s s' : Shared} {h h' h₁ h₂ hb : Heap} {E : Value → Shared → Prop} {B : Nat} {X : XP}
/-- the tests of a clause -/
def TF (c : Cx) (A : Around) (env : Env) (nm : List (Str × Nat)) (ifs : List Expr) (P : BP) : Prop := TG c A env nm relB (ifsLoop ifs env true) P
theorem tf_nil : TF c A env nm [] fun _ σ Q _ => Q true σ := fun ρ σ Q X h μ s ev Q' E hQ hX => by
  show wpAny _ A (ifsLoop [] env true) _ _ s
  simp only [List.forIn_nil]
  exact wpAny_pure (hQ.here h ev rfl)
theorem tf_cons {e : Expr} {r : List Expr} {P P' : BP} (h₁ : TT c A env nm e P) (h₂ : TF c A env nm r P') :
    TF c A env nm (e :: r) fun ρ σ Q X => P ρ σ (fun b σ₁ => match b == true with | true => P' ρ σ₁ Q X | false => Q b σ₁) X := fun ρ σ Q X h μ s ev Q' E hQ hX => by
  show wpAny _ A (ifsLoop (e :: r) env true) _ _ s
  simp only [List.forIn_cons, if_true]
  refine wpAny_bind (wpAny_bind (h₁ _ rfl ρ σ _ X h μ s ev _ E (fun v σ₁ μ₁ r s₁ q₁ ev₁ st₁ r₁ => ?_) hX))
  cases r₁
  refine wpAny_pure ?_
  cases v
  · show wpAny _ A (ifsLoop _ env false) _ _ _
    rw [ifs_false]
    exact wpAny_pure (hQ _ _ _ _ _ q₁ ev₁ st₁ rfl)
  · exact h₂ ρ σ₁ Q X q₁ μ₁ s₁ ev₁ Q' E (hQ.trans st₁) (hX.trans st₁)
/-- the list that a comprehension gathers, not yet anybody's -/
structure AccAt (c : Cx) (μ : Mp) (h : Heap) (D : Addr) (acc : List V) : Prop where
  ob : ∃ its n, h.get? D = some (listOf its n) ∧ VsR μ h acc its.toList
  len : acc.length ≤ lim
  pv : Priv c μ h D
def CW (C D b : Addr) : Prop := b = C ∨ b = D
abbrev GP := V → List V → List V → Hp → (List V → List V → Hp → Prop) → Prop
/-- the turns of a clause -/
def TC (c : Cx) (A : Around) (env : Env) (nm : List (Str × Nat)) (B : Nat) (e : Expr) (d : Nat) (target : Expr) (P : GP) : Prop :=
  ∀ (it : It) (I J D : Addr), (∀ it', it = .enum it' → isTup target = true) → ∀ (Q : List V → List V → Hp → Prop) (μ₀ : Mp) (h₀ : Heap) (R : Result → Shared → Prop), h₀.objs.size ≤ I → h₀.objs.size ≤ J → D ≠ I → D ≠ J → D ≠ env.locals → B ≤ env.locals →
    (∀ acc ρ' σ' μ' s', Q acc ρ' σ' → Ev c A env nm μ' ρ' σ' s' → StpE c B (CW env.locals D) μ₀ h₀ μ' s'.heap → AccAt c μ' s'.heap D acc → R (.ok .next) s') →
    ∀ k i acc ρ σ μ s, i + k = it.n → wpGather it P Q k i acc ρ σ → Ev c A env nm μ ρ σ s → ItE c μ s.heap I J i it → Priv c μ s.heap I → Priv c μ s.heap J → AccAt c μ s.heap D acc → StpE c B (CW env.locals D) μ₀ h₀ μ s.heap →
      codeAny (model c.prog c.w) A (.compLoop e d (.ref I) (.ref D) env) R s
theorem AccAt.stp {D : Addr} {acc : List V} (a : AccAt c μ h D acc) (R : Rl c μ σ h) (t : TabsOk c h) (S : Stp c μ h μ' h') : AccAt c μ' h' D acc := by
  obtain ⟨its, n, e, v⟩ := a.ob
  exact ⟨⟨its, n, a.pv.keep S t _ e, S.vsr R t v⟩, a.len, a.pv.stp S t⟩
theorem AccAt.but {D I J : Addr} {acc : List V} (a : AccAt c μ h D acc) (hI : D ≠ I) (hJ : D ≠ J) (im : ∀ b o, Imm o → h.get? b = some o → h'.get? b = some o) (k : ∀ b o, b ≠ I → b ≠ J → h.get? b = some o → h'.get? b = some o) : AccAt c μ h' D acc := by
  obtain ⟨its, n, e, v⟩ := a.ob
  exact ⟨⟨its, n, k _ _ hI hJ e, VsR.mono (fun _ _ z => z) im _ _ v⟩, a.len, a.pv.h0, a.pv.off, _, k _ _ hI hJ e, .list⟩
theorem CW.stw {sc : Scope} {D b : Addr} (x : b = env.locals) : CW env.locals D b := .inl x
theorem Priv.set {I : Addr} (p : Priv c μ h I) (k : ∀ o, h.get? I = some o → h'.get? I = some o) : Priv c μ h' I := ⟨p.h0, p.off, let ⟨o, e, r⟩ := p.ob; ⟨o, k _ e, r⟩⟩
theorem Ev.imm (ev : Ev c A env nm μ ρ σ s) (k : ∀ b o, b ≠ env.locals → s.heap.get? b = some o → h'.get? b = some o) : ∀ b o, Imm o → s.heap.get? b = some o → h'.get? b = some o := fun b o i e => k b o (fun w => by
  subst w
  obtain ⟨m, ⟨ob, es, ep, e', hd, _⟩, _⟩ := ev.lc.ns
  rw [e] at e'; cases e'; have := i.2; rw [hd] at this; exact this) e
theorem tc_last {n : Nat} (hA : AOk n A) {sc : Scope} (K : EOk env sc) {elt : Expr} {gens : List Comprehension} {scope : Scope} {pos : Pos} {d : Nat} {target iter : Expr} {ifs : List Expr} {t : MT} (hg : gens[d]? = some ⟨target, iter, ifs, 0⟩) (hn : gens[d + 1]? = none)
    (T : Tgt (· = env.locals) env sc nm target t) {Pt : BP} {Pe : EP} (h₁ : TF c A env nm ifs Pt) (h₂ : TE c A env nm elt Pe) :
    TC c A env nm B (.ListComp elt gens scope pos) d target fun v acc ρ σ K => pAssign t v ρ σ fun ρ₁ => Pt ρ₁ σ (fun b σ₂ => match b with
      | true => Pe ρ₁ σ₂ (fun v σ₃ => ok v ∧ acc.length < lim ∧ K (acc ++ [v]) ρ₁ σ₃) (fun _ _ => False)
      | false => K acc ρ₁ σ₂) (fun _ _ => False) := by
  intro it I J D ht Q μ₀ h₀ R hI hJ hDI hDJ hDC hB hR k
  induction k with
  | zero =>
    intro i acc ρ σ μ s hk hw ev x p q a st
    obtain ⟨live, hq⟩ := hw
    refine codeAny_of_tree ?_
    show wpAny _ A ((compTurn (.ListComp elt gens scope pos) d (.ref I) (.ref D) env).onRaise (fun x => do noteFrame x env; theTreesLotGoes x)) _ _ s
    refine wpAny_noted (wpNo ?_)
    rw [compTurn_last hg hn]
    refine wpAny_bind (wpAny_standAt (wpAny_bind (wpAny_mono (next_ok (target := target) (E := fun _ _ => False) hA x ev p q live ht (Nat.le_of_eq hk) (N := fun s₁ => R (.ok .next) s₁) (K := fun _ _ => False) (fun hi h' kp => ?_) (fun v _ hlt => absurd hlt (by omega))) (fun r s₁ h₁ => ?_) fun _ _ z => z.elim)))
    · exact hR _ _ _ μ _ hq (ev.but p q kp (tk := s.toks)) (st.but hI hJ kp) (a.but hDI hDJ (fun b o im z => kp _ _ (p.imm im z) (q.imm im z) z) kp)
    · cases r with
      | none => exact wpAny_pure h₁
      | some v => exact wpAny_bind (wpAny_mono h₁ (fun _ _ z => z.elim) fun _ _ z => z)
  | succ k ih =>
    intro i acc ρ σ μ s hk hw ev x p q a st
    obtain ⟨live, v, hv, hok, hw⟩ := hw
    refine codeAny_of_tree ?_
    show wpAny _ A ((compTurn (.ListComp elt gens scope pos) d (.ref I) (.ref D) env).onRaise (fun x => do noteFrame x env; theTreesLotGoes x)) _ _ s
    refine wpAny_noted (wpNo ?_)
    rw [compTurn_last hg hn]
    refine wpAny_bind (wpAny_standAt (wpAny_bind (wpAny_mono (next_ok (target := target) (E := fun _ _ => False) hA x ev p q live ht (by omega) (N := fun _ => False)
      (K := fun r s₁ => wpAny (model c.prog c.w) A (assign target env r) (fun _ s₂ => wpAny (model c.prog c.w) A (ifsLoop ifs env true) (fun b s₃ => if b = true then
          wpAny (model c.prog c.w) A (eval elt env) (fun y s₄ => wpAny (model c.prog c.w) A (call (.builtin "list.append") [.ref D, y]) (fun _ s₅ => codeAny (model c.prog c.w) A (.compLoop (.ListComp elt gens scope pos) d (.ref I) (.ref D) env) R s₅) (fun _ _ => False) s₄) (fun _ _ => False) s₃
          else codeAny (model c.prog c.w) A (.compLoop (.ListComp elt gens scope pos) d (.ref I) (.ref D) env) R s₃) (fun _ _ => False) s₂) (fun _ _ => False) s₁) (fun hi => absurd hi (by omega)) (fun v' hv' hlt r h' tk hr kp x' p' q' => ?_)) (fun r s₁ h₁ => ?_) fun _ _ z => z.elim)))
    · rw [hv] at hv'; cases hv'
      have ev' := ev.but p q kp (tk := tk)
      have a' := a.but hDI hDJ (fun b o im z => kp _ _ (p.imm im z) (q.imm im z) z) kp
      have st' := st.but hI hJ kp
      refine asg_ok hA K T ev' hr hw fun ρ₁ h₁' tk₁ hq₁ ev₁ k₁ => ?_
      have neL : ∀ {I}, Priv c μ h' I → I ≠ env.locals := fun {I} p w => by
        subst w; obtain ⟨m, hn, _⟩ := ev'.lc.ns; exact p.ns hn rfl
      have im := ev'.imm (h' := h₁') k₁
      have kI : ∀ {I}, Priv c μ h' I → ∀ o, h'.get? I = some o → h₁'.get? I = some o := fun {I} p o e => k₁ _ _ (neL p) e
      have x₁ : ItE c μ h₁' I J (i + 1) it := x'.move (fun _ _ z => z) im (kI p') (kI q')
      have p₁ := p'.set (kI p')
      have q₁ := q'.set (kI q')
      have a₁ : AccAt c μ h₁' D acc := by
        obtain ⟨its, n, e, w⟩ := a'.ob
        exact ⟨⟨its, n, kI a'.pv _ e, VsR.mono (fun _ _ z => z) im _ _ w⟩, a'.len, a'.pv.set (kI a'.pv)⟩
      have st₁ : StpE c B (CW env.locals D) μ₀ h₀ μ h₁' := st'.trans (StpE.wr fun b o w e => k₁ b o (fun z => w (.inl z)) e)
      refine h₁ ρ₁ σ _ _ hq₁ μ _ ev₁ _ _ (fun b σ₂ μ₂ b' s₂ q₂ ev₂ S₂ r₂ => ?_) PX.no
      cases r₂
      have st₂ := st₁.trans (S₂.toE (W := CW env.locals D) (ev₁.floor hB))
      have x₂ : ItE c μ₂ s₂.heap I J (i + 1) it := x₁.move S₂.sub (S₂.imm ev₁.rl ev₁.tb) (p₁.keep S₂ ev₁.tb) (q₁.keep S₂ ev₁.tb)
      have p₂ := p₁.stp S₂ ev₁.tb
      have q₂' := q₁.stp S₂ ev₁.tb
      have a₂ := a₁.stp ev₁.rl ev₁.tb S₂
      cases b with
      | false =>
        rw [if_neg Bool.false_ne_true]
        exact ih (i + 1) acc ρ₁ σ₂ μ₂ s₂ (by omega) q₂ ev₂ x₂ p₂ q₂' a₂ st₂
      | true =>
        rw [if_pos rfl]
        refine h₂ ρ₁ σ₂ _ _ q₂ μ₂ s₂ ev₂ _ _ (fun v σ₃ μ₃ y s₃ q₃ ev₃ S₃ r₃ => ?_) PX.no
        have st₃ := st₂.trans (S₃.toE (W := CW env.locals D) (ev₂.floor hB))
        have x₃ : ItE c μ₃ s₃.heap I J (i + 1) it := x₂.move S₃.sub (S₃.imm ev₂.rl ev₂.tb) (p₂.keep S₃ ev₂.tb) (q₂'.keep S₃ ev₂.tb)
        have p₃ := p₂.stp S₃ ev₂.tb
        have q₃' := q₂'.stp S₃ ev₂.tb
        have a₃ := a₂.stp ev₂.rl ev₂.tb S₃
        obtain ⟨hok', hlen, q₃⟩ := q₃
        obtain ⟨its, n0, e3, w3⟩ := a₃.ob
        have hsz : its.size = acc.length := by have := w3.length; rwa [Array.length_toList] at this
        refine wpAny_list_append_plain ⟨n0, e3⟩ (fun h₄ hl hs₄ => ?_) (by rw [hsz]; exact Nat.le_trans a₃.len lim_le)
        obtain ⟨n4, hl⟩ := hl
        have k₄ : ∀ b o, b ≠ D → b ≠ D → s₃.heap.get? b = some o → h₄.get? b = some o := fun b o z _ e => (hs₄.2 b z).trans e
        have ev₄ := ev₃.but a₃.pv a₃.pv k₄ (tk := s₃.toks)
        have im₄ : ∀ b o, Imm o → s₃.heap.get? b = some o → h₄.get? b = some o := fun b o i e => k₄ b o (a₃.pv.imm i e) (a₃.pv.imm i e) e
        have x₄ : ItE c μ₃ h₄ I J (i + 1) it := x₃.move (fun _ _ z => z) im₄ (fun o e => k₄ _ _ hDI.symm hDI.symm e) (fun o e => k₄ _ _ hDJ.symm hDJ.symm e)
        have a₄ : AccAt c μ₃ h₄ D (acc ++ [v]) := ⟨⟨_, n4, hl, by rw [Array.toList_push]; exact VsR.mono (fun _ _ z => z) im₄ _ _ (w3.append (VsR.cons r₃ .nil))⟩, by rw [List.length_append]; exact hlen, a₃.pv.h0, a₃.pv.off, _, hl, .list⟩
        exact ih (i + 1) (acc ++ [v]) ρ₁ σ₃ μ₃ _ (by omega) q₃ ev₄ x₄ (p₃.set fun o e => k₄ _ _ hDI.symm hDI.symm e) (q₃'.set fun o e => k₄ _ _ hDJ.symm hDJ.symm e) a₄ (st₃.trans (StpE.wr fun b o w e => k₄ b o (fun z => w (.inr z)) (fun z => w (.inr z)) e))
    · cases r with
      | none => exact h₁.elim
      | some v =>
        refine wpAny_bind (wpAny_mono h₁ (fun _ s₂ h₂ => wpAny_bind (wpAny_mono h₂ (fun _ s₃ h₃ => wpAny_bind (wpAny_mono h₃ (fun f s₄ h₄ => ?_) fun _ _ z => z)) fun _ _ z => z)) fun _ _ z => z)
        cases f with
        | false => rw [if_neg Bool.false_ne_true] at h₄ ⊢; exact wpAny_pure ⟨rfl, h₄⟩
        | true =>
          rw [if_pos rfl] at h₄ ⊢
          exact wpAny_bind (wpAny_bind (wpAny_mono h₄ (fun y s₅ h₅ => wpAny_bind (wpAny_mono h₅ (fun _ s₆ h₆ => wpAny_pure (wpAny_pure ⟨rfl, h₆⟩)) fun _ _ z => z)) fun _ _ z => z))
end
end Mine
open PySem PySem.W PySem.Calls PyProof.Rows PySem.Spec
set_option linter.unusedVariables false
namespace Mine
section
variable {c : Cx} {A : Around} {env : Env} {nm : List (Str × Nat)} {μ μ' μ₁ μ₂ μ₀ : Mp} {ρ ρ' : List V} {σ σ' : Hp} {s s' : Shared} {h h' h₁ h₂ hb : Heap} {E : Value → Shared → Prop} {B : Nat} {X : XP}
theorem self_iter {it : It} {i : Nat} {I J : Addr} (x : ItE c μ s.heap I J i it) {K : Value → Shared → Prop} (h : K (.ref I) s) : wpAny (model c.prog c.w) A (pyIter (.ref I)) K E s := by
  cases it with
  | lst y n => obtain ⟨_, a, e, f⟩ := x; exact wpAny_pyIter_listiter f h
  | frz a vs => obtain ⟨_, _, f⟩ := x; exact wpAny_pyIter_listiter f h
  | tup vs => obtain ⟨_, t, its, n, _, _, f⟩ := x; exact wpAny_pyIter_tupleiter f h
  | rng a b d => exact wpAny_pyIter_rangeiter x.2 h
  | str y => obtain ⟨_, t, f⟩ := x; exact wpAny_pyIter_striter_ascii f h
  | enum it => obtain ⟨_, _, _, old, f⟩ := x; exact wpAny_pyIter_enum f h
theorem start_ok {elt : Expr} {gens : List Comprehension} {scope : Scope} {pos : Pos} {d : Nat} {target iter : Expr} {ifs : List Expr} (hg : gens[d]? = some ⟨target, iter, ifs, 0⟩) {it : It} {i : Nat} {I J : Addr} {acc : Value} (x : ItE c μ s.heap I J i it) {R : Result → Shared → Prop}
    (h : codeAny (model c.prog c.w) A (.compLoop (.ListComp elt gens scope pos) d (.ref I) acc env) R s) : codeAny (model c.prog c.w) A (.compStart (.ListComp elt gens scope pos) d (.ref I) acc env) R s := by
  refine codeAny_of_tree ?_
  show wpAny _ A ((compStart (.ListComp elt gens scope pos) d (.ref I) acc env).onRaise (fun x => do noteFrame x env; standAt theWindowsPlace)) _ _ s
  refine wpAny_notedAt (wpNo ?_)
  have e1 : (((clausesOf (.ListComp elt gens scope pos))[d]?).elim false (·.is_async != 0)) = false := by
    show ((gens[d]?).elim false (·.is_async != 0)) = false
    rw [hg]; rfl
  have e2 : (clausesOf (.ListComp elt gens scope pos))[d]? = some ⟨target, iter, ifs, 0⟩ := hg
  unfold compStart
  rw [e1, e2]
  show wpAny _ A (ask >>= _) _ _ s
  refine wpAny_bind (wpAny_askSetting (wpAny_ite ?_))
  split
  · exact wpAny_bind (wpAny_pure (wpAny_pure ⟨rfl, h⟩))
  · exact wpAny_bind (wpAny_rule (wpAny_bind (wpAny_standAt (wpAny_bind (self_iter x (wpAny_pure ⟨rfl, h⟩))))))
theorem StpE.immC {C D : Addr} (S : StpE c B (CW C D) μ h μ' h') (R : Rl c μ σ h) (t : TabsOk c h) {m} (hC : h.Ns C m) (pD : Priv c μ h D) : ∀ b o, Imm o → h.get? b = some o → h'.get? b = some o := fun b o i e => by
  obtain ⟨f', o', e', l⟩ := S.kept b o e (R.immOff e i) (Rl.immTab t e i) (fun w => by
    rcases w with rfl | rfl
    · obtain ⟨ob, es, ep, e', hd, _⟩ := hC
      rw [e] at e'; cases e'; have := i.2; rw [hd] at this; exact this
    · exact pD.imm i e rfl)
  rcases l with rfl | ⟨⟨es, n, w⟩, _⟩
  · exact e'
  · have := i.2; rw [w] at this; exact this.elim
theorem StpE.priv {W : Addr → Prop} {I : Addr} (S : StpE c B W μ h μ' h') (t : TabsOk c h) (p : Priv c μ h I) (w : ¬ W I) : Priv c μ' h' I ∧ ∀ o, h.get? I = some o → h'.get? I = some o := by
  obtain ⟨o, e, d⟩ := p.ob
  obtain ⟨f', o', e', l⟩ := S.kept I o e p.off (fun q hq z => by obtain ⟨ps, f, _⟩ := t q hq; exact p.tab f z) w
  rcases l with rfl | ⟨⟨es, n, w⟩, _⟩
  · exact ⟨⟨p.h0, f', _, e', d⟩, fun o2 e2 => by rw [e] at e2; cases e2; exact e'⟩
  · have := d.2.2; rw [w] at this; exact this.elim
theorem tc_more {n : Nat} {en : Bool} (hA : AOk n A) {sc : Scope} (K : EOk env sc) {elt : Expr} {gens : List Comprehension} {scope : Scope} {pos : Pos} {d : Nat} {target iter target2 iter2 : Expr} {ifs ifs2 : List Expr} {t : MT} (hg : gens[d]? = some ⟨target, iter, ifs, 0⟩) (hn : gens[d + 1]? = some ⟨target2, iter2, ifs2, 0⟩)
    (T : Tgt (· = env.locals) env sc nm target t) {Pt : BP} {Pi : IP} {P' : GP} (h₁ : TF c A env nm ifs Pt) (hs : noSet iter2 = true) (hT : en = true → isTup target2 = true) (h₂ : TI c A env nm en iter2 Pi) (h₃ : TC c A env nm B (.ListComp elt gens scope pos) (d + 1) target2 P') :
    TC c A env nm B (.ListComp elt gens scope pos) d target fun v acc ρ σ K => pAssign t v ρ σ fun ρ₁ => Pt ρ₁ σ (fun b σ₂ => match b with
      | true => Pi ρ₁ σ₂ fun it σ₃ => wpGather it P' K it.n 0 acc ρ₁ σ₃
      | false => K acc ρ₁ σ₂) (fun _ _ => False) := by
  intro it I J D ht Q μ₀ h₀ R hI hJ hDI hDJ hDC hB hR k
  induction k with
  | zero =>
    intro i acc ρ σ μ s hk hw ev x p q a st
    obtain ⟨live, hq⟩ := hw
    refine codeAny_of_tree ?_
    show wpAny _ A ((compTurn (.ListComp elt gens scope pos) d (.ref I) (.ref D) env).onRaise (fun x => do noteFrame x env; theTreesLotGoes x)) _ _ s
    refine wpAny_noted (wpNo ?_)
    rw [compTurn_more hg hn]
    refine wpAny_bind (wpAny_standAt (wpAny_bind (wpAny_mono (next_ok (target := target) (E := fun _ _ => False) hA x ev p q live ht (Nat.le_of_eq hk) (N := fun s₁ => R (.ok .next) s₁) (K := fun _ _ => False) (fun hi h' kp => ?_) (fun v _ hlt => absurd hlt (by omega))) (fun r s₁ h₁ => ?_) fun _ _ z => z.elim)))
    · exact hR _ _ _ μ _ hq (ev.but p q kp (tk := s.toks)) (st.but hI hJ kp) (a.but hDI hDJ (fun b o im z => kp _ _ (p.imm im z) (q.imm im z) z) kp)
    · cases r with
      | none => exact wpAny_pure h₁
      | some v => exact wpAny_bind (wpAny_mono h₁ (fun _ _ z => z.elim) fun _ _ z => z)
  | succ k ih =>
    intro i acc ρ σ μ s hk hw ev x p q a st
    obtain ⟨live, v, hv, hok, hw⟩ := hw
    refine codeAny_of_tree ?_
    show wpAny _ A ((compTurn (.ListComp elt gens scope pos) d (.ref I) (.ref D) env).onRaise (fun x => do noteFrame x env; theTreesLotGoes x)) _ _ s
    refine wpAny_noted (wpNo ?_)
    rw [compTurn_more hg hn]
    refine wpAny_bind (wpAny_standAt (wpAny_bind (wpAny_mono (next_ok (target := target) (E := fun _ _ => False) hA x ev p q live ht (by omega) (N := fun _ => False)
      (K := fun r s₁ => wpAny (model c.prog c.w) A (assign target env r) (fun _ s₂ => wpAny (model c.prog c.w) A (ifsLoop ifs env true) (fun b s₃ => if b = true then
          wpAny (model c.prog c.w) A (eval iter2 env) (fun y s₄ => wpAny (model c.prog c.w) A (pyIter y) (fun z s₅ => wpAny (model c.prog c.w) A (runOwn (.compStart (.ListComp elt gens scope pos) (d + 1) z (.ref D) env) env) (fun _ s₆ => codeAny (model c.prog c.w) A (.compLoop (.ListComp elt gens scope pos) d (.ref I) (.ref D) env) R s₆) (fun _ _ => False) s₅) (fun _ _ => False) s₄) (fun _ _ => False) s₃
          else codeAny (model c.prog c.w) A (.compLoop (.ListComp elt gens scope pos) d (.ref I) (.ref D) env) R s₃) (fun _ _ => False) s₂) (fun _ _ => False) s₁) (fun hi => absurd hi (by omega)) (fun v' hv' hlt r h' tk hr kp x' p' q' => ?_)) (fun r s₁ h₁ => ?_) fun _ _ z => z.elim)))
    · rw [hv] at hv'; cases hv'
      have ev' := ev.but p q kp (tk := tk)
      have a' := a.but hDI hDJ (fun b o im z => kp _ _ (p.imm im z) (q.imm im z) z) kp
      have st' := st.but hI hJ kp
      refine asg_ok hA K T ev' hr hw fun ρ₁ h₁' tk₁ hq₁ ev₁ k₁ => ?_
      have neL : ∀ {I}, Priv c μ h' I → I ≠ env.locals := fun {I} p w => by
        subst w; obtain ⟨m, hn, _⟩ := ev'.lc.ns; exact p.ns hn rfl
      have im := ev'.imm (h' := h₁') k₁
      have kI : ∀ {I}, Priv c μ h' I → ∀ o, h'.get? I = some o → h₁'.get? I = some o := fun {I} p o e => k₁ _ _ (neL p) e
      have x₁ : ItE c μ h₁' I J (i + 1) it := x'.move (fun _ _ z => z) im (kI p') (kI q')
      have p₁ := p'.set (kI p')
      have q₁ := q'.set (kI q')
      have a₁ : AccAt c μ h₁' D acc := by
        obtain ⟨its, n, e, w⟩ := a'.ob
        exact ⟨⟨its, n, kI a'.pv _ e, VsR.mono (fun _ _ z => z) im _ _ w⟩, a'.len, a'.pv.set (kI a'.pv)⟩
      have st₁ : StpE c B (CW env.locals D) μ₀ h₀ μ h₁' := st'.trans (StpE.wr fun b o w e => k₁ b o (fun z => w (.inl z)) e)
      refine h₁ ρ₁ σ _ _ hq₁ μ _ ev₁ _ _ (fun b σ₂ μ₂ b' s₂ q₂ ev₂ S₂ r₂ => ?_) PX.no
      cases r₂
      have st₂ := st₁.trans (S₂.toE (W := CW env.locals D) (ev₁.floor hB))
      have x₂ : ItE c μ₂ s₂.heap I J (i + 1) it := x₁.move S₂.sub (S₂.imm ev₁.rl ev₁.tb) (p₁.keep S₂ ev₁.tb) (q₁.keep S₂ ev₁.tb)
      have p₂ := p₁.stp S₂ ev₁.tb
      have q₂' := q₁.stp S₂ ev₁.tb
      have a₂ := a₁.stp ev₁.rl ev₁.tb S₂
      cases b with
      | false =>
        rw [if_neg Bool.false_ne_true]
        exact ih (i + 1) acc ρ₁ σ₂ μ₂ s₂ (by omega) q₂ ev₂ x₂ p₂ q₂' a₂ st₂
      | true =>
        rw [if_pos rfl]
        refine h₂ ρ₁ σ₂ _ q₂ μ₂ s₂ ev₂ _ _ (fun it₂ σ₃ μ₃ I₂ J₂ s₃ q₃ hen ev₃ S₃ x₃ p₃ q₃' hI₂ hJ₂ => ?_)
        have a₃ := a₂.stp ev₂.rl ev₂.tb S₃
        have hDlt : D < s₂.heap.objs.size := let ⟨_, e, _⟩ := a₂.pv.ob; Heap.lt_size e
        refine wpAny_runOwn (h := none) ?_
        rw [show A.mark none = A from rfl]
        obtain ⟨t3, g3⟩ : ∃ w, gens[d + 1]? = some w := ⟨_, hn⟩
        refine start_ok hn x₃ ?_
        refine h₃ it₂ I₂ J₂ D (fun it' e => hT (hen it' e)) _ μ₂ s₂.heap _ hI₂ hJ₂ (Nat.ne_of_lt (Nat.lt_of_lt_of_le hDlt hI₂)) (Nat.ne_of_lt (Nat.lt_of_lt_of_le hDlt hJ₂)) hDC hB (fun acc' ρ' σ' μ' s' hq' ev₄ S₄ a₄ => ?_) it₂.n 0 acc ρ₁ σ₃ μ₃ s₃ (by omega) q₃ ev₃ x₃ p₃ q₃' a₃ (S₃.toE (ev₂.floor hB))
        have hIC : I ≠ env.locals := fun w => by subst w; obtain ⟨m, hn, _⟩ := ev₂.lc.ns; exact p₂.ns hn rfl
        have hJC : J ≠ env.locals := fun w => by subst w; obtain ⟨m, hn, _⟩ := ev₂.lc.ns; exact q₂'.ns hn rfl
        have pI := S₄.priv ev₂.tb p₂ (fun w => w.elim hIC (fun z => hDI z.symm))
        have pJ := S₄.priv ev₂.tb q₂' (fun w => w.elim hJC (fun z => hDJ z.symm))
        obtain ⟨m, hns, _⟩ := ev₂.lc.ns
        have x₄ : ItE c μ' s'.heap I J (i + 1) it := x₂.move S₄.sub (S₄.immC ev₂.rl ev₂.tb hns a₂.pv) pI.2 pJ.2
        exact ih (i + 1) acc' ρ' σ' μ' s' (by omega) hq' ev₄ x₄ pI.1 pJ.1 a₄ (st₂.trans S₄)
    · cases r with
      | none => exact h₁.elim
      | some v =>
        refine wpAny_bind (wpAny_mono h₁ (fun _ s₂ h₂ => wpAny_bind (wpAny_mono h₂ (fun _ s₃ h₃ => wpAny_bind (wpAny_mono h₃ (fun f s₄ h₄ => ?_) fun _ _ z => z)) fun _ _ z => z)) fun _ _ z => z)
        cases f with
        | false => rw [if_neg Bool.false_ne_true] at h₄ ⊢; exact wpAny_pure ⟨rfl, h₄⟩
        | true =>
          rw [if_pos rfl] at h₄ ⊢
          refine wpAny_bind (wpAny_mono h₄ (fun y s₅ h₅ => wpAny_bind (wpAny_standAt ?_)) fun _ _ z => z)
          rw [noSet_eq hs]
          refine wpAny_bind (wpAny_pure (wpAny_bind (wpAny_holding (wpAny_mono h₅ (fun z s₆ h₆ => wpAny_bind (wpAny_mono h₆ (fun _ s₇ h₇ => wpAny_pure ⟨rfl, h₇⟩) fun _ _ z => z)) fun _ _ z => z))))
end
end Mine
open PySem PySem.W PySem.Calls PyProof.Rows PySem.Spec
set_option linter.unusedVariables false
namespace Mine
def closL (cells : List (Str × Addr)) : List (Str × NameKind) → List (Str × Addr) → List (Str × Addr)
  | [], acc => acc
  | (n, k) :: r, acc => if k == .free then (match cells.lookup n with | some a => closL cells r ((n, a) :: acc) | none => closL cells r acc) else closL cells r acc
theorem closL_mem {cells : List (Str × Addr)} : ∀ (names : List (Str × NameKind)) (acc : List (Str × Addr)), (∀ q ∈ acc, cells.lookup q.1 = some q.2) → ∀ q ∈ closL cells names acc, cells.lookup q.1 = some q.2
  | [], acc, h => h
  | (n, k) :: r, acc, h => by
    unfold closL
    split
    · split
      · rename_i a e
        refine closL_mem r _ fun q hq => ?_
        rcases List.mem_cons.mp hq with rfl | hq
        · exact e
        · exact h q hq
      · exact closL_mem r _ h
    · exact closL_mem r _ h
theorem closL_acc {cells : List (Str × Addr)} : ∀ (names : List (Str × NameKind)) (acc : List (Str × Addr)) (q), q ∈ acc → q ∈ closL cells names acc
  | [], acc, q, h => h
  | (n, k) :: r, acc, q, h => by
    unfold closL
    split
    · split
      · exact closL_acc r _ q (List.mem_cons_of_mem _ h)
      · exact closL_acc r _ q h
    · exact closL_acc r _ q h
theorem closL_has {cells : List (Str × Addr)} : ∀ (names : List (Str × NameKind)) (acc : List (Str × Addr)) (x a), (x, NameKind.free) ∈ names → cells.lookup x = some a → (x, a) ∈ closL cells names acc
  | (n, k) :: r, acc, x, a, h, e => by
    unfold closL
    rcases List.mem_cons.mp h with h | h
    · cases h
      rw [if_pos (by rfl), e]
      exact closL_acc r _ _ (List.mem_cons_self ..)
    · split
      · split
        · exact closL_has r _ x a h e
        · exact closL_has r _ x a h e
      · exact closL_has r _ x a h e
theorem lookup_of_mem {α : Type} : ∀ {l : List (Str × α)} {x : Str} {a : α}, (x, a) ∈ l → ∃ b, l.lookup x = some b
  | (n, b) :: r, x, a, h => by
    rw [List.lookup_cons]
    cases q : x == n with
    | true => exact ⟨b, rfl⟩
    | false =>
      rcases List.mem_cons.mp h with h | h
      · cases h; simp at q
      · exact lookup_of_mem h
theorem closL_lookup {cells : List (Str × Addr)} {names : List (Str × NameKind)} {x : Str} {a : Addr} (h : (x, NameKind.free) ∈ names) (e : cells.lookup x = some a) : (closL cells names []).lookup x = some a := by
  obtain ⟨b, hb⟩ := lookup_of_mem (closL_has names [] x a h e)
  have := closL_mem names [] (fun _ h => nomatch h) _ (mem_of_lookup hb)
  rw [e] at this; cases this; exact hb
theorem closureFor_eq {scope : Scope} {env : Env} (h : ∀ x, (x, NameKind.free) ∈ scope.names → ∃ a, env.cells.lookup x = some a) : closureFor scope env = pure (closL env.cells scope.names []) := by
  have go : ∀ (names : List (Str × NameKind)) (acc : List (Str × Addr)), (∀ x, (x, NameKind.free) ∈ names → ∃ a, env.cells.lookup x = some a) →
      (forIn names acc fun (x : Str × NameKind) (cs : List (Str × Addr)) => match x with
        | (name, kind) => if (kind == NameKind.free) = true then do let a ← cellOf env name; pure (ForInStep.yield ((name, a) :: cs)) else (pure (ForInStep.yield cs) : Sem (ForInStep (List (Str × Addr))))) = pure (closL env.cells names acc) := by
    intro names
    induction names with
    | nil => intro acc _; simp only [List.forIn_nil, closL]
    | cons p r ih =>
      intro acc h
      obtain ⟨n, k⟩ := p
      simp only [List.forIn_cons]
      have hr := fun x hx => h x (List.mem_cons_of_mem _ hx)
      cases hk : (k == NameKind.free) with
      | true =>
        have : k = .free := by simpa using hk
        subst this
        obtain ⟨a, e⟩ := h n (List.mem_cons_self ..)
        simp only [cellOf, e, closL, if_true, pure_bind]
        simpa [cellOf] using ih _ hr
      | false =>
        simp only [closL, hk, Bool.false_eq_true, if_false, pure_bind]
        exact ih _ hr
  unfold closureFor
  exact (bind_pure _).trans (go scope.names [] h)
def relS (scope sc : Scope) : Scope :=
  { scope with names := scope.names.map fun (n, k) => if (k == .free && sc.kind == .function && sc.names.lookup n == some .cell) then (n, .cell) else (n, k) }
theorem relabel_eq {scope sc : Scope} {env : Env} (h : env.scope = sc) : relabel scope env = relS scope sc := by
  subst h; rfl
theorem lookup_relS {sc : Scope} : ∀ (names : List (Str × NameKind)) (x : Str), (names.map fun (n, k) => if (k == NameKind.free && sc.kind == .function && sc.names.lookup n == some .cell) then (n, NameKind.cell) else (n, k)).lookup x =
    (names.lookup x).map fun k => if (k == NameKind.free && sc.kind == .function && sc.names.lookup x == some .cell) then NameKind.cell else k
  | [], x => rfl
  | (n, k) :: r, x => by
    have ih := lookup_relS (sc := sc) r x
    rw [List.map_cons, List.lookup_cons]
    cases hx : x == n with
    | true =>
      have : x = n := by simpa using hx
      subst this
      show List.lookup x ((if (k == NameKind.free && sc.kind == .function && sc.names.lookup x == some .cell) = true then (x, NameKind.cell) else (x, k)) :: _) = _
      by_cases hc : (k == NameKind.free && sc.kind == .function && sc.names.lookup x == some .cell) = true
      · simp only [hc, if_true, List.lookup_cons, hx, Option.map_some]
      · simp only [Bool.not_eq_true] at hc
        simp only [hc, Bool.false_eq_true, if_false, List.lookup_cons, hx, Option.map_some]
    | false =>
      show List.lookup x ((if (k == NameKind.free && sc.kind == .function && sc.names.lookup n == some .cell) = true then (n, NameKind.cell) else (n, k)) :: _) = _
      by_cases hc : (k == NameKind.free && sc.kind == .function && sc.names.lookup n == some .cell) = true
      · simp only [hc, if_true, List.lookup_cons, hx]; exact ih
      · simp only [Bool.not_eq_true] at hc
        simp only [hc, Bool.false_eq_true, if_false, List.lookup_cons, hx]; exact ih
theorem clr_get : ∀ (own : List Nat) (ρ : List V) {i : Nat} {v : V}, (clr own ρ)[i]? = some v → v ≠ .undef → ρ[i]? = some v
  | [], ρ, i, v, h, _ => h
  | j :: own, ρ, i, v, h, n => by
    have := clr_get own (ρ.set j .undef) (i := i) h n
    by_cases q : i = j
    · subst q; exact absurd (set_get_eq this) n
    · rwa [set_get_ne q] at this
theorem clr_own : ∀ (own : List Nat) (ρ : List V) {i : Nat} {v : V}, i ∈ own → (clr own ρ)[i]? = some v → v = .undef
  | j :: own, ρ, i, v, hi, h => by
    by_cases q : v = .undef
    · exact q
    · have h2 := clr_get own (ρ.set j .undef) (i := i) h q
      rcases List.mem_cons.mp hi with rfl | hi
      · exact set_get_eq h2
      · exact clr_own own _ hi h
/-- what a comprehension's own scope must be like -/
def compOk (sc : Scope) (nm : List (Str × Nat)) (own : List Nat) (scope : Scope) : Bool :=
  scope.kind == .function && scope.names.all fun (n, k) => match k with
    | .cell => false
    | .free => sc.names.lookup n == some .cell || sc.names.lookup n == some .free
    | .local => scope.names.lookup n == some .local && (match nm.lookup n with | some i => own.contains i | none => true)
    | _ => true
section
variable {c : Cx} {A : Around} {env : Env} {nm : List (Str × Nat)} {μ μ' μ₁ μ₂ μ₀ : Mp} {ρ ρ' : List V} {σ σ' : Hp} {s s' : Shared} {h h' h₁ h₂ hb : Heap} {E : Value → Shared → Prop} {B : Nat} {X : XP}
theorem Ev.gone (x : Ev c A env nm μ ρ σ s) {C : Addr} (h0 : c.H0.get? C = none) (off : Off μ C) {m} (hns : s.heap.Ns C m) (hL : C ≠ env.locals) (hC : ∀ q ∈ env.cells, C ≠ q.2) (hF : ∀ l, A.frames = some l → ∀ e ∈ l, e.frame ≠ some C)
    (k : ∀ b o, b ≠ C → s.heap.get? b = some o → h'.get? b = some o) {tk : Nat} : Ev c A env nm μ ρ σ { s with heap := h', toks := tk } := by
  obtain ⟨oC, es, ep, eC, hd, _⟩ := hns
  have dc : ∃ o, s.heap.get? C = some o ∧ ¬ NotDC o.data := ⟨oC, eC, by rw [hd]; exact id⟩
  have im : ∀ b o, Imm o → s.heap.get? b = some o → h'.get? b = some o := fun b o i e => k b o (fun q => by rw [q, eC] at e; cases e; have := i.2; rw [hd] at this; exact this) e
  have vm : ∀ {v r}, VR μ s.heap v r → VR μ h' v r := fun z => VR.mono (fun _ _ z => z) im _ _ z
  have cm : ∀ {q}, q ∈ env.cells → ∀ {v}, s.heap.IsCell q.2 v → h'.IsCell q.2 v := fun {q} hq {v} z => let ⟨o, e, d⟩ := z; ⟨o, k _ _ (Ne.symm (hC _ hq)) e, d⟩
  refine ⟨⟨x.rl.poke h0 off dc k, x.tb.poke dc k, ?_, x.os, x.gn⟩, ⟨?_, fun y i a b => ?_, x.lc.offL, x.lc.offC, fun q hq => ?_, x.lc.ap, x.lc.one⟩, x.hL, x.hC⟩
  · obtain ⟨l, e, f⟩ := x.fo
    refine ⟨l, e, fun en hen => ?_⟩
    obtain ⟨a, L, m, b1, b2, ⟨ob, es, ep, w, r⟩, b4⟩ := f en hen
    exact ⟨a, L, m, b1, b2, ⟨ob, es, ep, k _ _ (fun q => hF l e en hen (by rw [b1, q])) w, r⟩, b4⟩
  · obtain ⟨m, ⟨ob, es, ep, w, r⟩, f⟩ := x.lc.ns
    refine ⟨m, ⟨ob, es, ep, k _ _ (Ne.symm hL) w, r⟩, fun y i a b v d e => ?_⟩
    obtain ⟨r, g, z⟩ := f y i a b v d e
    exact ⟨r, g, vm z⟩
  · obtain ⟨ca, ov, e, f, g⟩ := x.lc.cl y i a b
    exact ⟨ca, ov, e, cm (mem_of_lookup e) f, fun v d e => let ⟨r, g, z⟩ := g v d e; ⟨r, g, vm z⟩⟩
  · obtain ⟨ov, z⟩ := x.lc.cA q hq
    exact ⟨ov, cm hq z⟩
/-- a fresh list becomes one of the small heap's own -/
theorem Rl.adopt (R : Rl c μ σ h) (t : TabsOk c h) {D : Addr} {acc : List V} (a : AccAt c μ h D acc) : Rl c (μ.new σ.nx D D) (σ.new (.list acc)) h := by
  obtain ⟨its, n, e, v⟩ := a.ob
  have tD : ∀ q ∈ c.tabs, q.2.1 ≠ D := fun q hq z => by obtain ⟨ps, f, _⟩ := t q hq; exact a.pv.tab f z
  refine ⟨R.base, fun x => ?_, fun x hx => ?_, fun x a' d' e' => ?_, fun x y a1 d1 a2 d2 e1 e2 hne => ?_, fun x a' d' e' => ?_⟩
  · unfold Mp.new Hp.new
    by_cases q : x = σ.nx
    · simp [q]
    · simp [q, R.dom x]
  · unfold Hp.new at hx ⊢
    have : x ≠ σ.nx := by have : σ.nx + 1 ≤ x := hx; omega
    simp only [this, if_false]
    exact R.fresh x (by have : σ.nx + 1 ≤ x := hx; omega)
  · unfold Mp.new at e'
    by_cases q : x = σ.nx
    · rw [if_pos q] at e'; cases e'
      exact ⟨.list acc, by simp [Hp.new, q], rfl, a.len, its, n, e, VsR.mono (Sub.new R _ _) (fun _ _ _ z => z) _ _ v⟩
    · rw [if_neg q] at e'
      obtain ⟨o', y, z⟩ := R.obj x a' d' e'
      exact ⟨o', by simp [Hp.new, q, y], z.mono (Sub.new R D D) (fun _ q => q) (fun _ q => q) fun _ _ _ q => q⟩
  · unfold Mp.new at e1 e2
    by_cases q : x = σ.nx
    · rw [if_pos q] at e1; cases e1
      rw [if_neg (fun w => hne (q.trans w.symm))] at e2
      have := a.pv.off _ _ _ e2
      exact ⟨this.1, this.2, this.1, this.2⟩
    · rw [if_neg q] at e1
      by_cases q2 : y = σ.nx
      · rw [if_pos q2] at e2; cases e2
        have := a.pv.off _ _ _ e1
        exact ⟨this.1.symm, this.1.symm, this.2.symm, this.2.symm⟩
      · rw [if_neg q2] at e2
        exact R.inj x y _ _ _ _ e1 e2 hne
  · unfold Mp.new at e'
    by_cases q : x = σ.nx
    · rw [if_pos q] at e'; cases e'
      exact ⟨a.pv.h0, a.pv.h0, fun q hq => ⟨tD q hq, tD q hq⟩⟩
    · rw [if_neg q] at e'
      exact R.off x _ _ e'
end
end Mine
open PySem PySem.W PySem.Calls PyProof.Rows PySem.Spec
set_option linter.unusedVariables false
namespace Mine
theorem compOk_all {sc : Scope} {nm : List (Str × Nat)} {own : List Nat} {scope : Scope} (h : compOk sc nm own scope = true) :
    scope.kind = .function ∧ (∀ x, (x, NameKind.cell) ∉ scope.names) ∧ (∀ x, (x, NameKind.free) ∈ scope.names → sc.names.lookup x = some .cell ∨ sc.names.lookup x = some .free) ∧
    (∀ x, (x, NameKind.local) ∈ scope.names → scope.names.lookup x = some .local ∧ ∀ i, nm.lookup x = some i → i ∈ own) := by
  unfold compOk at h
  rw [Bool.and_eq_true, List.all_eq_true] at h
  obtain ⟨h1, h2⟩ := h
  refine ⟨by simpa using h1, fun x hx => ?_, fun x hx => ?_, fun x hx => ?_⟩
  · have := h2 _ hx; simp at this
  · have := h2 _ hx; simpa using this
  · have := h2 _ hx
    simp only [Bool.and_eq_true, beq_iff_eq] at this
    refine ⟨this.1, fun i hi => ?_⟩
    have h3 := this.2
    rw [hi] at h3
    simpa using h3
section
variable {c : Cx} {A : Around} {env : Env} {nm : List (Str × Nat)} {μ μ' μ₁ μ₂ μ₀ : Mp} {ρ ρ' : List V} {σ σ' : Hp} {s s' : Shared} {h h' h₁ h₂ hb : Heap} {E : Value → Shared → Prop} {B : Nat} {X : XP}
theorem cenv_lc {sc : Scope} (K : EOk env sc) (lc : Lc env nm μ ρ h) {own : List Nat} {scope : Scope} (hok : compOk sc nm own scope = true) {C : Addr} {m : Str → Option Value} (hns : h.Ns C m) (hm : ∀ x, m x = none) (offC : Off μ C) :
    Lc (compEnvC scope (closL env.cells scope.names []) C env) nm μ (clr own ρ) h := by
  obtain ⟨k1, k2, k3, k4⟩ := compOk_all hok
  have kk : ∀ x, (compEnvC scope (closL env.cells scope.names []) C env).kindOf x = (scope.names.lookup x).map fun k => if (k == NameKind.free && sc.kind == .function && sc.names.lookup x == some .cell) then NameKind.cell else k := fun x => by
    show (relabel scope env).names.lookup x = _
    rw [relabel_eq K.se]
    exact lookup_relS scope.names x
  have kf : ∀ x, env.kindOf x = sc.names.lookup x := fun x => by unfold Env.kindOf; rw [K.se]
  refine ⟨⟨m, hns, fun x i a b v d e => ?_⟩, fun x i a b => ?_, offC, fun q hq => lc.offC (q.1, q.2) (mem_of_lookup (closL_mem scope.names [] (fun _ h => nomatch h) q hq)), fun q hq => lc.cA (q.1, q.2) (mem_of_lookup (closL_mem scope.names [] (fun _ h => nomatch h) q hq)), fun x y cx cy hx hy hne => ?_, lc.one⟩
  · exfalso
    rw [kk] at b
    cases q : scope.names.lookup x with
    | none => rw [q] at b; cases b
    | some k =>
      rw [q] at b
      simp only [Option.map_some, Option.some.injEq] at b
      split at b
      · cases b
      · subst b
        have := k4 x (mem_of_lookup q)
        exact e (clr_own own ρ (this.2 i a) d)
  · have hfree : (x, NameKind.free) ∈ scope.names := by
      cases q : scope.names.lookup x with
      | none => rw [kk, q] at b; rcases b with b | b <;> cases b
      | some k =>
        have mem := mem_of_lookup q
        rw [kk, q] at b
        simp only [Option.map_some, Option.some.injEq] at b
        cases k with
        | free => exact mem
        | cell => exact absurd mem (k2 x)
        | _ => simp at b
    have h3 := k3 x hfree
    obtain ⟨ca, ov, e, f, g⟩ := lc.cl x i a (by rw [kf]; exact h3)
    exact ⟨ca, ov, closL_lookup hfree e, f, fun v d e => g v (clr_get own ρ d e) e⟩
  · have e1 := closL_mem scope.names [] (fun _ h => nomatch h) (x, cx) (mem_of_lookup hx)
    have e2 := closL_mem scope.names [] (fun _ h => nomatch h) (y, cy) (mem_of_lookup hy)
    exact lc.ap x y cx cy e1 e2 hne
theorem comp_core {n : Nat} {en : Bool} {sc : Scope} (K : EOk env sc) {elt target iter : Expr} {ifs : List Expr} {rest : List Comprehension} {scope : Scope} {pos fpos : Pos} {own : List Nat} {Pi : IP} {Pg : GP} (hok : compOk sc nm own scope = true)
    (hcl : ∀ x, (x, NameKind.free) ∈ scope.names → ∃ i, nm.lookup x = some i) (hs : noSet iter = true) (hT : en = true → isTup target = true) (hI : TI c A env nm en iter Pi)
    (hG : ∀ B cenv, EOk cenv (relS scope sc) → TC c A cenv nm B (.ListComp elt (⟨target, iter, ifs, 0⟩ :: rest) scope pos) 0 target Pg) {use : Option (Value → Sem Unit)}
    (ev : Ev c A env nm μ ρ σ s) {Y : List V → Hp → Prop} (hq : Pi ρ σ fun it σ₁ => wpGather it Pg (fun acc _ σ₂ => Y acc σ₂) it.n 0 [] (clr own ρ) σ₁) {Q' : Value → Shared → Prop}
    (hQ : ∀ (acc : List V) (σ' : Hp) (μ' : Mp) (D C : Addr) (s' : Shared) (m : Str → Option Value), Y acc σ' → acc.length ≤ lim → Ev c A env nm (μ'.new σ'.nx D D) ρ (σ'.new (.list acc)) s' → Stp c μ s.heap (μ'.new σ'.nx D D) s'.heap → s.heap.objs.size ≤ C → C ≠ D → s'.heap.Ns C m → c.H0.get? C = none → Off (μ'.new σ'.nx D D) C → VR (μ'.new σ'.nx D D) s'.heap (.ref σ'.nx) (.ref D) →
      match use with
      | none => ∀ h', Heap.SameBut C s'.heap h' → Q' (.ref D) { s' with heap := h' }
      | some u => wpAny (model c.prog c.w) A (u (.ref D)) (fun _ s'' => ∃ m, s''.heap.Ns C m ∧ ∀ h', Heap.SameBut C s''.heap h' → Q' .none { s'' with heap := h' }) E s') :
    wpAny (model c.prog c.w) A (comprehension (.ListComp elt (⟨target, iter, ifs, 0⟩ :: rest) scope pos) scope env fpos (newList []) false (eval iter env) use) Q' E s := by
  obtain ⟨k1, k2, k3, k4⟩ := compOk_all hok
  have kf : ∀ x, env.kindOf x = sc.names.lookup x := fun x => by unfold Env.kindOf; rw [K.se]
  have hclos : closureFor scope env = pure (closL env.cells scope.names []) := closureFor_eq fun x hx => by
    obtain ⟨i, hi⟩ := hcl x hx
    obtain ⟨ca, ov, e, _⟩ := ev.lc.cl x i hi (by rw [kf]; exact k3 x hx)
    exact ⟨ca, e⟩
  refine wpAny_comprehension_free (g := ⟨target, iter, ifs, 0⟩) (gs := rest) rfl (noSet_eq hs env) hclos k1 (fun x hx hl => (k4 x.1 (by obtain ⟨a, b⟩ := x; cases hl; exact hx)).1) ?_
  refine hI ρ σ _ hq μ s ev _ E fun it σ₁ μ₁ I J s₁ q₁ hen ev₁ st₁ x p q hIs hJs => ?_
  refine wpAny_newObj_type (wpAny_newFunctionEnv (fun y hy w => by obtain ⟨a, b⟩ := y; cases w; exact k2 a hy) (by intro y hy; simp at hy) (fun h₂ hns₂ hsb₂ => ?_) k1) (by size_fits)
  dsimp only at hns₂ hsb₂ ⊢
  generalize hH2 : s₁.heap.push { cls := .type "list", dict := none, data := .seq ([] : List Value).toArray } = H2 at hns₂ hsb₂ ⊢
  have hC : H2.objs.size = s₁.heap.objs.size + 1 := by rw [← hH2, Heap.size_push]
  have hDC : s₁.heap.objs.size ≠ H2.objs.size := by omega
  have old : ∀ b o, s₁.heap.get? b = some o → h₂.get? b = some o := fun b o e =>
    hsb₂.extBut b o (by rw [hC]; exact Nat.ne_of_lt (Nat.lt_succ_of_lt (Heap.lt_size e))) (Heap.get?_push_of_some _ (hH2 ▸ Heap.get?_push_of_some _ e))
  have hD : h₂.get? s₁.heap.objs.size = some (listOf #[] 0) := hsb₂.extBut _ _ hDC (Heap.get?_push_of_some _ (hH2 ▸ Heap.get?_push_size _ rfl))
  have evo := ev₁.all (tk := s₁.toks + ([] : List (Str × Value)).length) old
  have offC : Off μ₁ H2.objs.size := ev₁.rl.freshOff (by omega)
  have h0C : c.H0.get? H2.objs.size = none := ev₁.rl.h0_none (by omega)
  have lcc := cenv_lc K evo.lc hok (m := fun x => ([] : List (Str × Value)).reverse.lookup x) hns₂ (fun x => rfl) offC
  have Kc : EOk (compEnvC scope (closL env.cells scope.names []) H2.objs.size env) (relS scope sc) := ⟨relabel_eq K.se, k1, K.gl, K.bi⟩
  have evc : Ev c A (compEnvC scope (closL env.cells scope.names []) H2.objs.size env) nm μ₁ (clr own ρ) σ₁ { s₁ with heap := h₂, toks := s₁.toks + ([] : List (Str × Value)).length } :=
    ⟨evo.toSt, lcc, h0C, fun r hr => ev.hC (r.1, r.2) (mem_of_lookup (closL_mem scope.names [] (fun _ h => nomatch h) r hr))⟩
  have aD : AccAt c μ₁ h₂ s₁.heap.objs.size [] := ⟨⟨#[], 0, hD, VsR.nil⟩, by decide, ev₁.rl.h0_none (Nat.le_refl _), ev₁.rl.freshOff (Nat.le_refl _), _, hD, .list⟩
  have hz : s.heap.objs.size ≤ s₁.heap.objs.size := st₁.size
  have stA : StpE c s.heap.objs.size (CW H2.objs.size s₁.heap.objs.size) μ s.heap μ₁ h₂ := (st₁.toE (Nat.le_refl _)).trans (StpE.wr fun b o _ e => old b o e)
  have hIlt : I < s₁.heap.objs.size := let ⟨_, e, _⟩ := p.ob; Heap.lt_size e
  have hJlt : J < s₁.heap.objs.size := let ⟨_, e, _⟩ := q.ob; Heap.lt_size e
  have p' := p.set (h' := h₂) (fun o e => old _ _ e)
  have q' := q.set (h' := h₂) (fun o e => old _ _ e)
  have x' : ItE c μ₁ h₂ I J 0 it := x.move (fun _ _ z => z) (fun b o _ e => old b o e) (fun o e => old _ _ e) (fun o e => old _ _ e)
  show codeAny _ A (.compStart (.ListComp elt (⟨target, iter, ifs, 0⟩ :: rest) scope pos) 0 (.ref I) (.ref s₁.heap.objs.size) (compEnvC scope (closL env.cells scope.names []) H2.objs.size env)) _ _
  refine start_ok (s := { s₁ with heap := h₂, toks := s₁.toks + ([] : List (Str × Value)).length }) (by rfl) x' ?_
  refine hG s.heap.objs.size _ Kc it I J s₁.heap.objs.size (fun it' e => hT (hen it' e)) (fun acc _ σ₂ => Y acc σ₂) μ s.heap _ hIs hJs (Nat.ne_of_gt hIlt) (Nat.ne_of_gt hJlt) hDC (show s.heap.objs.size ≤ H2.objs.size by omega) (fun acc ρ' σ' μ' s' hY ev' st' a' => ?_) it.n 0 [] _ σ₁ μ₁ _ (by omega) q₁ evc x' p' q' aD stA
  -- the end
  have R' := ev'.rl.adopt ev'.tb a'
  have hCo : Off μ' H2.objs.size := ev'.lc.offL
  obtain ⟨m, hnsC, _⟩ := ev'.lc.ns
  have stp : Stp c μ s.heap (μ'.new σ'.nx s₁.heap.objs.size s₁.heap.objs.size) s'.heap := by
    refine ⟨fun x p e => Sub.new ev'.rl _ _ _ _ (st'.sub _ _ e), fun x a d e f => ?_, fun b o e f g => ?_, ?_⟩
    · unfold Mp.new at e
      by_cases w : x = σ'.nx
      · rw [if_pos w] at e; cases e; exact ⟨hz, hz⟩
      · rw [if_neg w] at e; exact st'.new x a d e f
    · have hb := Heap.lt_size e
      exact (st'.kept b o e f g (fun w => w.elim (fun w => absurd hb (Nat.not_lt.mpr (by rw [w]; show s.heap.objs.size ≤ H2.objs.size; omega))) (fun w => absurd hb (Nat.not_lt.mpr (by rw [w]; exact hz))))).2
    · obtain ⟨_, _, e, _⟩ := a'.ob
      exact Nat.le_trans hz (Nat.le_of_lt (Heap.lt_size e))
  have evF : Ev c A env nm (μ'.new σ'.nx s₁.heap.objs.size s₁.heap.objs.size) ρ (σ'.new (.list acc)) s' := ev.step stp R' ev'.tb (ev'.os.trans ev.os.symm) ev'.gn
  have offF : Off (μ'.new σ'.nx s₁.heap.objs.size s₁.heap.objs.size) H2.objs.size := fun x a d e => by
    unfold Mp.new at e
    by_cases w : x = σ'.nx
    · rw [if_pos w] at e; cases e; exact ⟨hDC.symm, hDC.symm⟩
    · rw [if_neg w] at e; exact hCo x a d e
  have := hQ acc σ' μ' s₁.heap.objs.size H2.objs.size s' m hY a'.len evF stp (by omega) hDC.symm hnsC h0C offF ⟨_, _, Mp.new_self .., rfl⟩
  cases use with
  | none => exact ⟨m, hnsC, this⟩
  | some u => exact this
end
end Mine
open PySem PySem.W PySem.Calls PyProof.Rows PySem.Spec
set_option linter.unusedVariables false
namespace Mine
section
variable {c : Cx} {A : Around} {env : Env} {nm : List (Str × Nat)} {μ μ' μ₁ μ₂ μ₀ : Mp} {ρ ρ' : List V} {σ σ' : Hp} {s s' : Shared} {h h' h₁ h₂ hb : Heap} {E : Value → Shared → Prop} {B : Nat} {X : XP}
theorem Ev.newer (ev : Ev c A env nm μ ρ σ s) {C : Addr} (hC : s.heap.objs.size ≤ C) : C ≠ env.locals ∧ (∀ q ∈ env.cells, C ≠ q.2) ∧ ∀ l, A.frames = some l → ∀ e ∈ l, e.frame ≠ some C := by
  refine ⟨fun w => ?_, fun q hq w => ?_, fun l hl e he w => ?_⟩
  · obtain ⟨m, hn, _⟩ := ev.lc.ns; have := hn.lt; rw [← w] at this; exact absurd hC (Nat.not_le.mpr this)
  · obtain ⟨ov, hn⟩ := ev.lc.cA q hq; have := hn.lt; rw [← w] at this; exact absurd hC (Nat.not_le.mpr this)
  · obtain ⟨l', e', f⟩ := ev.fo
    rw [hl] at e'; cases e'
    obtain ⟨_, L, m, b1, _, b3, _⟩ := f e he
    rw [w] at b1; cases b1
    exact absurd hC (Nat.not_le.mpr b3.lt)
theorem te_comp {en : Bool} {sc : Scope} (K : EOk env sc) {elt target iter : Expr} {ifs : List Expr} {rest : List Comprehension} {scope : Scope} {pos : Pos} {own : List Nat} {Pi : IP} {Pg : GP} (hok : compOk sc nm own scope = true)
    (hcl : ∀ x, (x, NameKind.free) ∈ scope.names → ∃ i, nm.lookup x = some i) (hs : noSet iter = true) (hT : en = true → isTup target = true) (hI : TI c A env nm en iter Pi)
    (hG : ∀ B cenv, EOk cenv (relS scope sc) → TC c A cenv nm B (.ListComp elt (⟨target, iter, ifs, 0⟩ :: rest) scope pos) 0 target Pg) :
    TE c A env nm (.ListComp elt (⟨target, iter, ifs, 0⟩ :: rest) scope pos) fun ρ σ Q _ => Pi ρ σ fun it σ₁ => wpGather it Pg (fun acc _ σ₂ => acc.length ≤ lim ∧ pNew σ₂ (.list acc) Q) it.n 0 [] (clr own ρ) σ₁ := fun ρ σ Q X h μ s ev Q' E hQ hX => by
  rw [eval_ListComp]
  show wpAny _ A (comprehension _ scope env _ (newList []) false (eval iter env)) _ _ _
  refine comp_core (n := 0) K hok hcl hs hT hI hG (use := none) ev h fun acc σ' μ' D C s' m hY hl ev' st' hC hCD hns h0 off hr h' hs' => ?_
  obtain ⟨n1, n2, n3⟩ := ev.newer hC
  have k : ∀ b o, b ≠ C → s'.heap.get? b = some o → h'.get? b = some o := fun b o q e => (hs'.2 b q).trans e
  refine hQ _ _ _ _ _ hY.2 (ev'.gone h0 off hns n1 n2 n3 k (tk := s'.toks)) (st'.but hC hC (fun b o q _ e => k b o q e) (Nat.le_of_eq hs'.1.symm)) ?_
  obtain ⟨a, d, e1, e2⟩ := hr
  exact ⟨a, d, e1, e2⟩
/-- x = [.. for ..] in one row: the comprehension's own names go behind the store -/
theorem ts_asgnC {n : Nat} {en : Bool} (hA : AOk n A) {sc : Scope} (K : EOk env sc) {x : Str} {i : Nat} {tp : Pos} (hn : nm.lookup x = some i) (hkl : sc.names.lookup x = some .local) {elt target iter : Expr} {ifs : List Expr} {rest : List Comprehension} {scope : Scope} {vp pos : Pos} {own : List Nat} {Pi : IP} {Pg : GP} (hok : compOk sc nm own scope = true)
    (hcl : ∀ x, (x, NameKind.free) ∈ scope.names → ∃ i, nm.lookup x = some i) (hs : noSet iter = true) (hT : en = true → isTup target = true) (hI : TI c A env nm en iter Pi)
    (hG : ∀ B cenv, EOk cenv (relS scope sc) → TC c A cenv nm B (.ListComp elt (⟨target, iter, ifs, 0⟩ :: rest) scope vp) 0 target Pg)
    (hsw : (tp.line == vp.line && !(scope.names.any fun (n, k) => n == x && (k == .local || k == .cell))) = true) :
    TS c A env nm B (exec (.Assign [.Name x tp] (.ListComp elt (⟨target, iter, ifs, 0⟩ :: rest) scope vp) pos) env) fun ρ σ Q _ => Pi ρ σ fun it σ₁ => wpGather it Pg (fun acc _ σ₂ => acc.length ≤ lim ∧ pNew σ₂ (.list acc) fun v σ₃ => pAssign (.nm i) v ρ σ₃ fun ρ₁ => Q .next ρ₁ σ₃) it.n 0 [] (clr own ρ) σ₁ := fun ρ σ Q X h μ s ev hB Q' E hQ hX => by
  have hz := ev.floor hB
  have kf : ∀ x, env.kindOf x = sc.names.lookup x := fun x => by unfold Env.kindOf; rw [K.se]
  have hw : swapsWithSole [.Name x tp] (.ListComp elt (⟨target, iter, ifs, 0⟩ :: rest) scope vp) pos.line env = pure true := by
    show (pure (env.blockKind == .function && env.kindOf x == some .local && tp.line == vp.line && !(scope.names.any fun (n, k) => n == x && (k == .local || k == .cell))) : Sem Bool) = pure true
    have hbk : env.blockKind = .function := by unfold Env.blockKind; rw [K.se, K.kd]; rfl
    rw [hbk, kf, hkl]
    simp only [beq_self_eq_true, Bool.true_and]
    rw [hsw]
  rw [arm_exec_Assign, hw]
  refine wpAny_bind (wpAny_standAt ?_)
  refine wpAny_bind (m := pure true) (wpAny_pure ?_)
  rw [if_pos rfl]
  refine wpAny_bind ?_
  show wpAny _ A (comprehension _ scope env _ (newList []) false (eval iter env) (some (assign (.Name x tp) env)) >>= fun _ => pure ()) _ _ _
  refine wpAny_bind (comp_core (n := 0) K hok hcl hs hT hI hG (use := some (assign (.Name x tp) env)) ev h fun acc σ' μ' D C s' m hY hl ev' st' hC hCD hns h0 off hr => ?_)
  obtain ⟨n1, n2, n3⟩ := ev.newer hC
  have T : Tgt (Wr env) env sc nm (.Name x tp) (.nm i) := ⟨⟨x, tp, rfl, hn, .inl hkl, fun b z => z.wr⟩⟩
  refine asg_ok (Q := fun ρ₁ => Q .next ρ₁ (σ'.new (.list acc))) hA K T ev' hr hY.2 fun ρ₁ h₁ tk hq ev₁ k₁ => ?_
  have hCw : ¬ Wr env C := fun w => by
    rcases w with w | ⟨q, hq, w⟩
    · exact n1 w
    · exact n2 q hq w.symm
  obtain ⟨ob, es, ep, w1, w2⟩ := hns
  have hns₁ : h₁.Ns C m := ⟨ob, es, ep, k₁ _ _ hCw w1, w2⟩
  refine ⟨m, hns₁, fun h₂ hs₂ => ?_⟩
  have k : ∀ b o, b ≠ C → h₁.get? b = some o → h₂.get? b = some o := fun b o q e => (hs₂.2 b q).trans e
  refine wpAny_pure (wpAny_pure ?_)
  refine hQ _ _ _ _ _ _ hq (ev₁.gone h0 off hns₁ n1 n2 n3 k (tk := tk)) ?_ rfl
  exact ((st'.toE hz).trans (StpE.wr k₁)).but hC hC fun b o q _ e => k b o q e
end
end Mine
open PySem PySem.W PySem.Calls PyProof.Rows PySem.Spec
set_option linter.unusedVariables false
namespace Mine
section
variable {c : Cx} {A : Around} {env : Env} {nm : List (Str × Nat)} {μ μ' μ₁ μ₂ μ₀ : Mp} {ρ ρ' : List V} {σ σ' : Hp} {s s' : Shared} {h h' h₁ h₂ hb : Heap} {E : Value → Shared → Prop} {B : Nat} {X : XP}
theorem aug_ok {op : Operator} {a b : V} {Q : V → Hp → Prop} (hq : pAug op a b σ Q) (ev : Ev c A env nm μ ρ σ s) {ra rb : Value} (ha : VR μ s.heap a ra) (hb : VR μ s.heap b rb) {Q' : Value → Shared → Prop} (hQ : PG c A env nm VR ρ μ s Q Q') :
    wpAny (model c.prog c.w) A (inplaceOp op ra rb) Q' E s := by
  unfold pAug at hq
  split at hq
  · obtain ⟨t, rfl⟩ := ha
    obtain ⟨u, rfl⟩ := hb
    obtain ⟨ho, hq⟩ := hq
    rcases ho with rfl | rfl | rfl | rfl | rfl | rfl <;> simp only [pInt] at hq
    · exact iadd_int (hQ.tok hq ev ⟨_, rfl⟩)
    · exact isub_int (hQ.tok hq ev ⟨_, rfl⟩)
    · exact ior_int (hQ.tok hq ev ⟨_, rfl⟩)
    · exact ixor_int (hQ.tok hq ev ⟨_, rfl⟩)
    · exact iand_int (hQ.tok hq ev ⟨_, rfl⟩)
    · exact irshift_int hq.1 (hQ.tok hq.2 ev ⟨_, rfl⟩)
  · exact hq.elim
theorem St.upd (x : St c A μ σ s) {y : Nat} {a d : Addr} (e : μ y = some (a, d)) (k : ∀ b o, b ≠ a → b ≠ d → s.heap.get? b = some o → h'.get? b = some o) (hz : s.heap.objs.size ≤ h'.objs.size) {o : O} (ho : OR c μ h' o a d) {tk : Nat} :
    St c A μ (σ.set y o) { s with heap := h', toks := tk } ∧ Stp c μ s.heap μ h' :=
  have S := Stp.set (c := c) (μ := μ) (h := s.heap) (h' := h') e k hz
  ⟨x.step (s' := { s with heap := h', toks := tk }) S (x.rl.set e k ho) (x.tb.set x.rl e k) rfl x.gn, S⟩
theorem setitem_ok {o i v : V} {Q : Hp → Prop} (hq : pSetItem o i v σ Q) (hok : ok v) (ev : Ev c A env nm μ ρ σ s) {ro ri rv : Value} (ho : VR μ s.heap o ro) (hi : VR μ s.heap i ri) (hv : VR μ s.heap v rv) {Q' : Unit → Shared → Prop}
    (hQ : ∀ σ' μ' s', Q σ' → Ev c A env nm μ' ρ σ' s' → Stp c μ s.heap μ' s'.heap → Q' () s') : wpAny (model c.prog c.w) A (setItem ro ri rv) Q' E s := by
  unfold pSetItem at hq
  split at hq
  · rename_i x i
    obtain ⟨u, rfl⟩ := hi
    split at hq
    · rename_i vs e
      obtain ⟨k, hk, hq⟩ := hq
      obtain ⟨a, its, n, e1, e2, e3, e4, e5⟩ := ev.list e
      obtain ⟨a', d', e1', rfl⟩ := ho
      rw [e1] at e1'; cases e1'
      have hlt := idx_lt hk
      rw [lim_val] at e4
      have fin : ∀ (s' : Shared), s' = { s with heap := s.heap.update a (Obj.mapSeq (·.setIfInBounds k rv)) } → Q' () s' := by
        rintro s' rfl
        obtain ⟨n', hn'⟩ : ∃ n', Obj.mapSeq (·.setIfInBounds k rv) (listOf its n) = listOf (its.setIfInBounds k rv) n' := ⟨_, rfl⟩
        have hg : (s.heap.update a (Obj.mapSeq (·.setIfInBounds k rv))).get? a = some (listOf (its.setIfInBounds k rv) n') := (Heap.get?_update_self _ e2 rfl).trans (congrArg some hn')
        have hs : Heap.SameBut a s.heap (s.heap.update a (Obj.mapSeq (·.setIfInBounds k rv))) := Heap.SameBut.update ..
        have kk : ∀ b o, b ≠ a → b ≠ a → s.heap.get? b = some o → (s.heap.update a (Obj.mapSeq (·.setIfInBounds k rv))).get? b = some o := fun b o q _ f => (hs.2 b q).trans f
        have S := Stp.set (c := c) (μ := μ) (h := s.heap) (h' := s.heap.update a (Obj.mapSeq (·.setIfInBounds k rv))) e1 kk (by rw [hs.1]; exact Nat.le_refl _)
        have im := S.imm ev.rl ev.tb
        have Y := ev.toSt.upd (tk := s.toks) e1 kk (by rw [hs.1]; exact Nat.le_refl _) (o := .list (vs.set k v)) ⟨rfl, by rw [List.length_set, lim_val]; exact e4, _, n', hg, by rw [Array.toList_setIfInBounds]; exact VsR.mono (fun _ _ z => z) im _ _ (e3.set k hv)⟩
        exact hQ _ _ _ hq (ev.back Y.2 Y.1) Y.2
      rcases hlt.2 with ⟨h0, rfl⟩ | ⟨h0, h1, rfl⟩
      · exact ki_setAt e2 h0 (by omega) (by omega) (fin _ rfl)
      · exact ki_setBack e2 h0 (by omega) (by omega) (fin _ (by rw [e5]))
    · rename_i es e
      obtain ⟨hl, hq⟩ := hq
      have d := ev.rl.dom x
      rw [e] at d
      cases q : μ x with
      | none => rw [q] at d; cases d
      | some p =>
        obtain ⟨a, b⟩ := p
        obtain ⟨o, y, z⟩ := ev.rl.obj x a b q
        rw [e] at y; cases y
        obtain ⟨rfl, ⟨od, g, gc⟩, ln, f, hm, hle, hf⟩ := z
        obtain ⟨a', d', e1', rfl⟩ := ho
        rw [q] at e1'; cases e1'
        refine wpAny_setItem_intMap_le hm hle (Nat.le_trans ln (by decide)) fun h' hm' hle' hs => ?_
        have kk : ∀ b' o, b' ≠ b → b' ≠ b → s.heap.get? b' = some o → h'.get? b' = some o := fun b' o q _ f => (hs.2 b' q).trans f
        have S := Stp.set (c := c) (μ := μ) (h := s.heap) (h' := h') q kk (by rw [hs.1]; exact Nat.le_refl _)
        have im := S.imm ev.rl ev.tb
        have Y := ev.toSt.upd (tk := s.toks + 1) q kk (by rw [hs.1]; exact Nat.le_refl _) (o := .dict ((i, v) :: es)) ⟨rfl, (by obtain ⟨o, _, _, a1, a2, _⟩ := hm'; exact ⟨o, a1, a2⟩), hl, _, hm', hle', fun k => by
          rw [List.lookup_cons]
          by_cases hk : k = i
          · subst hk
            simp only [beq_self_eq_true]
            exact ⟨hok, rv, by simp, VR.mono (fun _ _ z => z) im _ _ hv⟩
          · rw [show (k == i) = false by simpa using hk]
            have := hf k
            dsimp only
            rw [if_neg hk]
            split
            · rename_i w; rw [w] at this; exact this
            · rename_i v' w; rw [w] at this; exact ⟨this.1, let ⟨r, y, z⟩ := this.2; ⟨r, y, VR.mono (fun _ _ z => z) im _ _ z⟩⟩⟩
        exact hQ _ _ _ hq (ev.back Y.2 Y.1) Y.2
    · exact hq.elim
  · exact hq.elim
end
end Mine
open PySem PySem.W PySem.Calls PyProof.Rows PySem.Spec
set_option linter.unusedVariables false
namespace Mine
section
variable {c : Cx} {A : Around} {env : Env} {nm : List (Str × Nat)} {μ μ' μ₁ μ₂ μ₀ : Mp} {ρ ρ' : List V} {σ σ' : Hp} {s s' : Shared} {h h' h₁ h₂ hb : Heap} {E : Value → Shared → Prop} {B : Nat} {X : XP}
theorem setattr_ok {S : Sx} {Φ : Fn} {n : Nat} (hA : AB n A) (hS : AkOk c S) (hF : FS c Φ n) {o v : V} {id : Nat} {name : Str} (hn : S.nms[id]? = some name) {Q : Hp → Prop} (hq : pSetAttr S Φ o id v σ Q X)
    (ev : Ev c A env nm μ ρ σ s) {ro rv : Value} (ho : VR μ s.heap o ro) (hv : VR μ s.heap v rv) {Q' : Unit → Shared → Prop}
    (hQ : ∀ σ' μ' s', Q σ' → Ev c A env nm μ' ρ σ' s' → Stp c μ s.heap μ' s'.heap → Q' () s') (hX : PX c A env nm ρ μ s X E) : wpAny (model c.prog c.w) A (setAttr ro name rv) Q' E s := by
  unfold pSetAttr at hq
  split at hq
  · rename_i x
    split at hq
    · rename_i C fs e
      obtain ⟨a, d, od, m, e1, e2, e3, e4, hn1, hw, hln, hnd, I, lk, f⟩ := ev.toSt.inst e
      obtain ⟨a', d', e1', rfl⟩ := ho
      rw [e1] at e1'; cases e1'
      have K := hS C id
      have XX := c.X0.keeps ev.rl.base
      split at hq
      · rename_i i hak
        rw [hak] at K
        obtain ⟨nm', attr, k1, k2, k3, k4, k5, k6, k7, k8, k9⟩ := K
        rw [hn] at k1; cases k1
        obtain ⟨hi, hok, hq⟩ := hq
        refine set_plain XX I k7 (osa_open (s := { s with toks := s.toks + 1 }) XX I k8 k9 fun b => ?_)
        obtain ⟨cd, hc, hd'⟩ := any_some k4
        have hx := I.at_
        refine wpAny_bind (wpAny_pure (wpAny_bind (wpAny_bind (wpAny_loadPart hx (wpAny_bind (looks_clsIn XX hc _ _ _ _ (fun _ _ e => e) ?_))))))
        rw [hd']
        refine wpAny_pure (a := some d) (wpAny_bind (wpAny_pure (wpAny_bind (wpAny_nsSet1EFk hn1 fun h' hn' hs hcl => ?_))))
        have hs : Heap.SameBut d s.heap h' := hs
        obtain ⟨od', e3', c3, _⟩ := hcl od e3
        have hadm : a ≠ d := fun w => by subst w; rw [e2] at e3; cases e3; simp at e4
        have hmem : name ∈ c.flds C := List.mem_of_getElem? k2
        have hw' : Within (fun y => if y = name then some rv else m y) (c.flds C) := fun y hy => by
          by_cases w : y = name
          · rw [w]; exact hmem
          · exact hw y (by simpa [w] using hy)
        obtain ⟨oD, esD, epD, hoD, hdD, hcD⟩ := hn'.count hw'
        have hsz := hnd.2
        refine wpAny_bind (wpAny_lookBehind hoD (by rw [hdD]; exact pastItsLine_dict (Nat.le_trans hcD (Nat.le_trans hsz (by decide)))) ?_)
        have k : ∀ b o, b ≠ a → b ≠ d → s.heap.get? b = some o → h'.get? b = some o := fun b o _ q e => (hs.2 b q).trans e
        have S' := Stp.set (c := c) (μ := μ) (h := s.heap) (h' := h') e1 k (by rw [hs.1]; exact Nat.le_refl _)
        have im := S'.imm ev.rl ev.tb
        have Y := ev.toSt.upd (tk := s.toks + 1 + 1) e1 k (by rw [hs.1]; exact Nat.le_refl _) (o := .inst C (fs.set i v)) ⟨(hs.2 a hadm).trans e2, ⟨od', e3', c3.trans e4⟩, by rw [List.length_set]; exact hln, hnd, _, hn', hw', fun j w hj => by
          by_cases q : j = i
          · subst q
            rw [set_get_eq hj]
            exact ⟨name, k2, .inr ⟨hok, rv, by simp, VR.mono (fun _ _ z => z) im _ _ hv⟩⟩
          · rw [set_get_ne q] at hj
            obtain ⟨nm2, g1, g2⟩ := f j w hj
            have hne : nm2 ≠ name := fun w => by
              subst w
              exact q ((List.getElem?_inj (List.getElem?_eq_some_iff.mp g1).1 hnd.1).mp (g1.trans k2.symm))
            refine ⟨nm2, g1, ?_⟩
            rcases g2 with ⟨rfl, g3⟩ | ⟨g3, r, g4, g5⟩
            · exact .inl ⟨rfl, by simp [hne, g3]⟩
            · exact .inr ⟨g3, r, by simp [hne, g4], VR.mono (fun _ _ z => z) im _ _ g5⟩⟩
        exact wpAny_pure (hQ _ _ _ hq (ev.back Y.2 Y.1) Y.2)
      · rename_i g fset hak
        rw [hak] at K
        obtain ⟨nm', p, rest, k1, k2, k3, k4, k5, k6, k7, k8⟩ := K
        rw [hn] at k1; cases k1
        obtain ⟨⟨r', rfl⟩, k9, k10, k11, k12⟩ := k8 fset rfl
        refine set_plain XX I k9 (osa_descr (s := { s with toks := s.toks + 1 }) KF.slot_pset XX I k10 k11 k12 (prop_set (s := { s with toks := s.toks + 1 }) XX k7 ?_))
        have ev1 : St c A.in1.in1 μ σ { s with toks := s.toks + 1 } := ⟨ev.rl, ev.tb, ev.fo, ev.os, ev.gn⟩
        refine hF _ _ _ _ _ _ hq A.in1.in1 (hA.more rfl rfl (Nat.le_add_right _ _) (by show A.units + 1 + 1 ≤ _; omega)) μ _ ev1 _ [] (VsR.cons ⟨_, _, e1, rfl⟩ (VsR.cons hv .nil)) ⟨rfl, .nil⟩ _ (fun v σ' μ' r s' hv hok ev' st' hr => ?_) fun x σ' μ' e s' hx ev' st' xc => ?_
        · exact hQ _ _ _ hv (ev.back st' ⟨ev'.rl, ev'.tb, ev'.fo, ev'.os, ev'.gn⟩) st'
        · exact hX _ _ _ _ _ hx (ev.back st' ⟨ev'.rl, ev'.tb, ev'.fo, ev'.os, ev'.gn⟩) st' xc
      · exact hq.elim
    · exact hq.elim
  · exact hq.elim
theorem ts_asgnA {S : Sx} {Φ : Fn} {n : Nat} (hA : AB n A) (hS : AkOk c S) (hF : FS c Φ n) {o value : Expr} {name : Str} {id : Nat} {p pos : Pos} {P P' : EP} (hn : S.nms[id]? = some name) (h₁ : TE c A env nm value P) (h₂ : TE c A env nm o P') :
    TS c A env nm B (exec (.Assign [.Attribute o name p] value pos) env) fun ρ σ Q X => P ρ σ (fun v σ₁ => P' ρ σ₁ (fun vo σ₂ => pSetAttr S Φ vo id v σ₂ (fun σ₃ => Q .next ρ σ₃) X) X) X := fun ρ σ Q X h μ s ev hB Q' E hQ hX => by
  have hz := ev.floor hB
  refine plainObj_wpAny_Assign_Attribute ?_ (by cases value <;> rfl)
  refine h₁ ρ σ _ X h μ s ev _ E (fun v σ₁ μ₁ r s₁ q₁ ev₁ st₁ r₁ => ?_) (hX.px hz)
  refine h₂ ρ σ₁ _ X q₁ μ₁ s₁ ev₁ _ E (fun vo σ₂ μ₂ ro s₂ q₂ ev₂ st₂ r₂ => ?_) ((hX.px hz).trans st₁)
  have st := st₁.trans st₂
  exact setattr_ok hA hS hF hn q₂ ev₂ r₂ (st₂.vr ev₁.rl ev₁.tb r₁) (fun σ' μ' s' hq ev' st' => hQ _ _ _ _ _ _ hq ev' ((st.trans st').toE hz) rfl) ((hX.px hz).trans st)
theorem ts_asgnS {o i value : Expr} {p pos : Pos} {P P' P'' : EP} (h₁ : TE c A env nm value P) (h₂ : TE c A env nm o P') (h₃ : TE c A env nm i P'') :
    TS c A env nm B (exec (.Assign [.Subscript o i p] value pos) env) fun ρ σ Q X => P ρ σ (fun v σ₁ => P' ρ σ₁ (fun vo σ₂ => P'' ρ σ₂ (fun vi σ₃ => ok v ∧ pSetItem vo vi v σ₃ fun σ₄ => Q .next ρ σ₄) X) X) X := fun ρ σ Q X h μ s ev hB Q' E hQ hX => by
  have hz := ev.floor hB
  have hw : swapsWithSole [.Subscript o i p] value pos.line env = pure false := by cases value <;> rfl
  have hss : swappedStores [.Subscript o i p] value env = pure none := by rfl
  rw [arm_exec_Assign, hw, hss]
  refine wpAny_bind (wpAny_standAt ?_)
  refine wpAny_bind (m := pure false) (wpAny_pure ?_)
  refine wpAny_bind (h₁ ρ σ _ X h μ s ev _ E (fun v σ₁ μ₁ r s₁ q₁ ev₁ st₁ r₁ => ?_) (hX.px hz))
  refine wpAny_bind (m := pure none) (wpAny_pure ?_)
  refine wpAny_bind (m := assign (.Subscript o i p) env r) ?_
  rw [arm_assign_Subscript]
  refine wpAny_bind (wpAny_holding (h₂ ρ σ₁ _ X q₁ μ₁ s₁ ev₁ _ E (fun vo σ₂ μ₂ ro s₂ q₂ ev₂ st₂ r₂ => ?_) ((hX.px hz).trans st₁)))
  refine wpAny_bind (wpAny_holding (h₃ ρ σ₂ _ X q₂ μ₂ s₂ ev₂ _ E (fun vi σ₃ μ₃ ri s₃ q₃ ev₃ st₃ r₃ => ?_) ((hX.px hz).trans (st₁.trans st₂))))
  refine wpAny_bind (wpAny_standAt (wpAny_bind (wpAny_holding ?_)))
  refine setitem_ok q₃.2 q₃.1 ev₃ (st₃.vr ev₂.rl ev₂.tb r₂) r₃ (st₃.vr ev₂.rl ev₂.tb (st₂.vr ev₁.rl ev₁.tb r₁)) fun σ' μ' s' hq ev' st' => ?_
  exact wpAny_release' (wpAny_pure (hQ _ _ _ _ _ _ hq ev' ((((st₁.trans st₂).trans st₃).trans st').toE hz) rfl))
theorem ts_augN {n : Nat} {sc : Scope} (K : EOk env sc) {x : Str} {i : Nat} {op : Operator} {value : Expr} {np pos : Pos} {P : EP} (hn : nm.lookup x = some i) (hk : sc.names.lookup x = some .local ∨ sc.names.lookup x = some .cell) (hc : (x == ("__classdict__" : Str)) = false)
    (h₁ : TE c A env nm value P) :
    TS c A env nm B (exec (.AugAssign (.Name x np) op value pos) env) fun ρ σ Q X => pLoc ρ i fun v => P ρ σ (fun w σ₁ => pAug op v w σ₁ fun r σ₂ => ok r ∧ i < ρ.length ∧ Q .next (ρ.set i r) σ₂) X := fun ρ σ Q X h μ s ev hB Q' E hQ hX => by
  have hz := ev.floor hB
  have hfn : env.scope.kind = .function := by rw [K.se]; exact K.kd
  have kk : env.kindOf x = sc.names.lookup x := by unfold Env.kindOf; rw [K.se]
  rw [arm_exec_AugAssign]
  refine wpAny_bind (wpAny_standAt (wpAny_bind ?_))
  replace h : pLoc ρ i (fun v => P ρ σ (fun w σ₁ => pAug op v w σ₁ fun r σ₂ => ok r ∧ i < ρ.length ∧ Q .next (ρ.set i r) σ₂) X) := h
  unfold pLoc at h
  split at h
  case h_2 => exact h.elim
  rename_i v hv
  obtain ⟨hok, h⟩ := h
  have rest : ∀ r, VR μ s.heap v r → wpAny (model c.prog c.w) A (do
      let w ← holding [r] (eval value env)
      standAt pos
      let new ← operate [r, w] (inplaceOp op r w)
      standAt np
      bindName env x new
      pure .next) Q' E s := fun r hr => by
    refine wpAny_bind (wpAny_holding (h₁ ρ σ _ X h μ s ev _ E (fun w σ₁ μ₁ rw' s₁ q₁ ev₁ st₁ r₁ => ?_) (hX.px hz)))
    refine wpAny_bind (wpAny_standAt (wpAny_bind (wpAny_operate' ?_)))
    refine aug_ok q₁ ev₁ (st₁.vr ev.rl ev.tb hr) r₁ fun z σ₂ μ₂ rz s₂ q₂ ev₂ st₂ r₂ => ?_
    refine wpAny_bind (wpAny_standAt (wpAny_bind (wpAny_bindName (store_ok K ev₂ hn hk r₂ fun h' tk ev₃ k _ => wpAny_pure ?_))))
    exact hQ _ _ _ _ _ _ q₂.2.2 ev₃ (((st₁.trans st₂).toE hz).trans (StpE.wr fun b o w e => k b o (fun z => w z.wr) e)) rfl
  rcases hk with hk | hk
  · obtain ⟨m, hns, f⟩ := ev.lc.ns
    obtain ⟨r, e, hr⟩ := f x i hn (kk.trans hk) v hv (ok_ne hok)
    exact wpAny_loadName_local hfn (kk.trans hk) hns e (rest r hr)
  · obtain ⟨ca, ov, e, f, g⟩ := ev.lc.cl x i hn (.inl (kk.trans hk))
    obtain ⟨r, rfl, hr⟩ := g v hv (ok_ne hok)
    exact wpAny_loadName_cell hfn (kk.trans hk) e f (rest r hr)
theorem ts_augA {S : Sx} {Φ : Fn} {n : Nat} (hA : AB n A) (hS : AkOk c S) (hF : FS c Φ n) {o value : Expr} {name : Str} {id : Nat} {op : Operator} {p pos : Pos} {P P' : EP} (hn : S.nms[id]? = some name) (h₁ : TE c A env nm o P) (h₂ : TE c A env nm value P') :
    TS c A env nm B (exec (.AugAssign (.Attribute o name p) op value pos) env) fun ρ σ Q X => P ρ σ (fun vo σ₁ => pAttr S Φ vo id σ₁ (fun v σ₂ => P' ρ σ₂ (fun w σ₃ => pAug op v w σ₃ fun r σ₄ => pSetAttr S Φ vo id r σ₄ (fun σ₅ => Q .next ρ σ₅) X) X) X) X := fun ρ σ Q X h μ s ev hB Q' E hQ hX => by
  have hz := ev.floor hB
  rw [arm_exec_AugAssign_2]
  refine wpAny_bind (wpAny_standAt (wpAny_bind (h₁ ρ σ _ X h μ s ev _ E (fun vo σ₁ μ₁ ro s₁ q₁ ev₁ st₁ r₁ => ?_) (hX.px hz))))
  refine wpAny_bind (wpAny_holding (wpAny_bind (wpAny_standAt (wpAny_bind ?_))))
  refine attr_ok hA hS hF hn q₁ ev₁.toSt r₁ fun v σ₂ μ₂ rv s₂ q₂ ev₂' st₂ r₂ => ?_
  have ev₂ := ev₁.back st₂ ev₂'
  refine wpAny_bind (wpAny_holding (h₂ ρ σ₂ _ X q₂ μ₂ s₂ ev₂ _ E (fun w σ₃ μ₃ rw' s₃ q₃ ev₃ st₃ r₃ => ?_) ((hX.px hz).trans (st₁.trans st₂))))
  refine wpAny_bind (wpAny_standAt (wpAny_operate' ?_))
  refine aug_ok q₃ ev₃ (st₃.vr ev₂.rl ev₂.tb r₂) r₃ fun z σ₄ μ₄ rz s₄ q₄ ev₄ st₄ r₄ => ?_
  have st := ((st₁.trans st₂).trans st₃).trans st₄
  refine wpAny_bind (wpAny_standAt (wpAny_bind (wpAny_holding ?_)))
  refine setattr_ok hA hS hF hn q₄ ev₄ (st₄.vr ev₃.rl ev₃.tb (st₃.vr ev₂.rl ev₂.tb (st₂.vr ev₁.rl ev₁.tb r₁))) r₄ (fun σ' μ' s' hq ev' st' => ?_) ((hX.px hz).trans st)
  exact wpAny_bind (wpAny_release' (wpAny_pure (hQ _ _ _ _ _ _ hq ev' ((st.trans st').toE hz) rfl)))
end
end Mine
open PySem PySem.W PySem.Calls PyProof.Rows PySem.Spec
set_option linter.unusedVariables false
namespace Mine
theorem bindL_get {kindOf : Str → Option NameKind} : ∀ (ps : List Str) (vals : List Value) (m0 : Str → Option Value) (j : Nat) (x : Str) (r : Value), ps.Nodup → ps[j]? = some x → vals[j]? = some r → kindOf x = some .local → bindL kindOf (ps.zip vals) m0 x = some r
  | [], _, _, j, x, r, _, h, _, _ => by simp at h
  | p :: ps, [], _, j, x, r, _, _, h, _ => by simp at h
  | p :: ps, v :: vals, m0, 0, x, r, nd, h, h', k => by
    cases h; cases h'
    have keep : ∀ (ps : List Str) (vals : List Value) (m0 : Str → Option Value), p ∉ ps → bindL kindOf (ps.zip vals) m0 p = m0 p := by
      intro ps
      induction ps with
      | nil => intro vals m0 _; rfl
      | cons q ps ih =>
        intro vals m0 hn
        cases vals with
        | nil => rfl
        | cons w vals =>
          show bindL kindOf (ps.zip vals) _ p = _
          rw [ih _ _ (fun h => hn (List.mem_cons_of_mem _ h))]
          have : p ≠ q := fun e => hn (e ▸ List.mem_cons_self ..)
          split <;> simp [this]
    show bindL kindOf (ps.zip vals) _ p = _
    rw [keep _ _ _ (List.nodup_cons.mp nd).1, if_pos k]; simp
  | p :: ps, v :: vals, m0, j + 1, x, r, nd, h, h', k => bindL_get ps vals _ j x r (List.nodup_cons.mp nd).2 (by simpa using h) (by simpa using h') k
theorem bindC_get {kindOf : Str → Option NameKind} : ∀ (ps : List Str) (vals : List Value) (m0 : Str → Option Value) (j : Nat) (x : Str) (r : Value), ps.Nodup → ps[j]? = some x → vals[j]? = some r → kindOf x ≠ some .local → bindC kindOf (ps.zip vals) m0 x = some r
  | [], _, _, j, x, r, _, h, _, _ => by simp at h
  | p :: ps, [], _, j, x, r, _, _, h, _ => by simp at h
  | p :: ps, v :: vals, m0, 0, x, r, nd, h, h', k => by
    cases h; cases h'
    have keep : ∀ (ps : List Str) (vals : List Value) (m0 : Str → Option Value), p ∉ ps → bindC kindOf (ps.zip vals) m0 p = m0 p := by
      intro ps
      induction ps with
      | nil => intro vals m0 _; rfl
      | cons q ps ih =>
        intro vals m0 hn
        cases vals with
        | nil => rfl
        | cons w vals =>
          show bindC kindOf (ps.zip vals) _ p = _
          rw [ih _ _ (fun h => hn (List.mem_cons_of_mem _ h))]
          have : p ≠ q := fun e => hn (e ▸ List.mem_cons_self ..)
          split <;> simp [this]
    show bindC kindOf (ps.zip vals) _ p = _
    rw [keep _ _ _ (List.nodup_cons.mp nd).1, if_neg k]; simp
  | p :: ps, v :: vals, m0, j + 1, x, r, nd, h, h', k => bindC_get ps vals _ j x r (List.nodup_cons.mp nd).2 (by simpa using h) (by simpa using h') k
theorem cellsFrom_has : ∀ (names : List (Str × NameKind)) (n : Nat) (acc : List (Str × Addr)) (x : Str), ((x, NameKind.cell) ∈ names ∨ (acc.lookup x).isSome = true) → ((cellsFrom n names acc).lookup x).isSome = true
  | [], n, acc, x, h => by
    rcases h with h | h
    · simp at h
    · exact h
  | (y, k) :: r, n, acc, x, h => by
    unfold cellsFrom
    split
    · rename_i hk
      refine cellsFrom_has r _ _ x ?_
      rcases h with h | h
      · rcases List.mem_cons.mp h with h | h
        · cases h; right; simp
        · exact .inl h
      · right
        rw [List.lookup_cons]
        split
        · rfl
        · exact h
    · rename_i hk
      refine cellsFrom_has r _ _ x ?_
      rcases h with h | h
      · rcases List.mem_cons.mp h with h | h
        · cases h; exact absurd (by rfl) hk
        · exact .inl h
      · exact .inr h
/-- a function of the small language -/
structure Fd where
  nm : List (Str × Nat)
  /-- how many slots -/
  np : Nat
  bind : List V → List (Str × V) → Option (List V)
  body : MSs
inductive Fu where
  | fn (d : Fd)
  | cls (nf : Nat) (init : Addr)
structure Ld where
  nm : List (Str × Nat)
  np : Nat
  na : Nat
  body : ME
def isNoneOr (v : V) : Prop := v = .none
/-- the calls, n deep at the most -/
def Ph (S : Sx) (F : Addr → Option Fu) (L : LamD → Option Ld) : Nat → Fn
  | 0 => fun _ _ _ _ _ _ => False
  | n + 1 => fun k as ks σ Q X => match k with
    | .fn f => match F f with
      | some (.fn d) => ∃ bs, d.bind as ks = some bs ∧ bs.length ≤ d.np ∧ wpSs S (Ph S F L n) d.body (bs ++ List.replicate (d.np - bs.length) .undef) σ (fun fl _ σ' => match fl with
          | .ret v => ok v ∧ Q v σ'
          | .next => Q .none σ'
          | _ => False) X
      | some (.cls nf init) => Ph S F L n (.fn init) (.ref σ.nx :: as) ks (σ.new (.inst f (List.replicate nf .undef))) (fun v σ' => v = .none ∧ Q (.ref σ.nx) σ') X
      | none => False
    | .lam ld => match L ld with
      | some d => as.length = d.na ∧ ks = [] ∧ as.length ≤ d.np ∧ wpE S (Ph S F L n) d.body (as ++ List.replicate (d.np - as.length) .undef) σ (fun v σ' => ok v ∧ Q v σ') fun _ _ => False
      | none => False
/-- what the frame of a call asks of a function's scope: its parameters are the first slots -/
structure ScOk (scope : Scope) (nm : List (Str × Nat)) (ps : List Str) : Prop where
  kd : scope.kind = .function
  co : scope.isCoroutine = false
  gen : scope.isGenerator = false
  nd : ps.Nodup
  pk : ∀ x ∈ ps, scope.names.lookup x = some .local ∨ scope.names.lookup x = some .cell
  first : ∀ x i, nm.lookup x = some i → i < ps.length → ps[i]? = some x
  free : ∀ x, scope.names.lookup x ≠ some .free
  one : ∀ x y i, nm.lookup x = some i → nm.lookup y = some i → x = y
  cells : ((cellsFrom 0 scope.names []).map (·.1)).Nodup
section
variable {c : Cx} {A : Around} {env : Env} {nm : List (Str × Nat)} {μ μ' μ₁ μ₂ μ₀ : Mp} {ρ ρ' : List V} {σ σ' : Hp} {s s' : Shared} {h h' h₁ h₂ hb : Heap} {E : Value → Shared → Prop} {B : Nat} {X : XP}
theorem VsR.getR {vs : List V} {rs : List Value} (x : VsR μ h vs rs) {i : Nat} {v : V} (e : vs[i]? = some v) : ∃ r, rs[i]? = some r ∧ VR μ h v r := x.get e
/-- a frame newly laid -/
theorem frame_ok {scope : Scope} {ps : List Str} (O : ScOk scope nm ps) (st : St c A μ σ s) {bs : List V} {vals : List Value} (hv : VsR μ s.heap bs vals) (hl : bs.length = ps.length) {np : Nat} (hnp : bs.length ≤ np) {qual : Str} {f : Addr} {cd : Value} {e : Env}
    (he : e = newEnv scope s.heap.objs.size mainGlobals (cellsFrom (s.heap.objs.size + 1) scope.names []) qual (some f) cd none builtinsNs)
    (x : InCallC s e.locals (bindL e.kindOf (ps.zip vals) fun _ => none) e.cells (bindC e.kindOf (ps.zip vals) fun _ => none) s') :
    EOk e scope ∧ Ev c (A.deeper e) e nm μ (bs ++ List.replicate (np - bs.length) .undef) σ s' ∧ (∀ b o, s.heap.get? b = some o → s'.heap.get? b = some o) ∧ e.locals = s.heap.objs.size := by
  obtain ⟨h₁, tk, rfl, _⟩ := x.done
  have hk := x.toInCall.keep
  subst he
  have EO : EOk (newEnv scope s.heap.objs.size mainGlobals (cellsFrom (s.heap.objs.size + 1) scope.names []) qual (some f) cd none builtinsNs) scope := ⟨rfl, O.kd, rfl, rfl⟩
  have vm : ∀ {v r}, VR μ s.heap v r → VR μ h₁ v r := fun z => VR.mono (fun _ _ z => z) (fun _ _ _ z => hk _ _ z) _ _ z
  have slot : ∀ {i : Nat} {v : V}, (bs ++ List.replicate (np - bs.length) V.undef)[i]? = some v → v ≠ .undef → bs[i]? = some v ∧ i < bs.length := fun {i v} e n => by
    by_cases q : i < bs.length
    · rw [List.getElem?_append_left q] at e; exact ⟨e, q⟩
    · rw [List.getElem?_append_right (Nat.le_of_not_lt q), List.getElem?_replicate] at e
      split at e
      · cases e; exact absurd rfl n
      · cases e
  have kk : ∀ x, (newEnv scope s.heap.objs.size mainGlobals (cellsFrom (s.heap.objs.size + 1) scope.names []) qual (some f) cd none builtinsNs).kindOf x = scope.names.lookup x := fun x => rfl
  have cellnd : ((cellsFrom (s.heap.objs.size + 1) scope.names []).map (·.1)).Nodup := cellsFrom_names scope.names 0 (s.heap.objs.size + 1) [] [] rfl ▸ O.cells
  have sfr : ∀ b, s.heap.objs.size ≤ b → c.H0.get? b = none ∧ Off μ b := fun b hb => ⟨st.rl.h0_none hb, st.rl.freshOff hb⟩
  have st' := st.all (tk := tk) hk
  have ns1 := x.toInCall.ns
  refine ⟨EO, ⟨⟨st'.rl, st'.tb, ?_, st'.os, st'.gn⟩, ⟨⟨_, ns1, fun y i a b v d e => ?_⟩, fun y i a b => ?_, (sfr _ (Nat.le_refl _)).2, fun q hq => ?_, fun q hq => ?_, fun y z cy cz hy hz hne w => ?_, O.one⟩, (sfr _ (Nat.le_refl _)).1, fun q hq => ?_⟩, hk, rfl⟩
  · obtain ⟨l, e1, e2⟩ := st'.fo
    refine ⟨_ :: l, Around.frames_deeper e1, fun en hen => ?_⟩
    rcases List.mem_cons.mp hen with rfl | hen
    · exact ⟨by show scope.kind ≠ _; rw [O.kd]; decide, _, _, rfl, (sfr _ (Nat.le_refl _)).1, ns1, (sfr _ (Nat.le_refl _)).2⟩
    · exact e2 en hen
  · obtain ⟨d1, d2⟩ := slot d e
    obtain ⟨r, g1, g2⟩ := hv.get d1
    have hp := O.first y i a (by omega)
    exact ⟨r, bindL_get ps vals _ i y r O.nd hp g1 b, vm g2⟩
  · have hc : scope.names.lookup y = some .cell := by
      rcases b with b | b
      · exact b
      · exact absurd b (O.free y)
    have hs := cellsFrom_has scope.names (s.heap.objs.size + 1) [] y (.inl (mem_of_lookup hc))
    obtain ⟨ca, hca⟩ := Option.isSome_iff_exists.mp hs
    refine ⟨ca, _, hca, x.cell y ca hca, fun v d e => ?_⟩
    obtain ⟨d1, d2⟩ := slot d e
    obtain ⟨r, g1, g2⟩ := hv.get d1
    have hp := O.first y i a (by omega)
    exact ⟨r, bindC_get ps vals _ i y r O.nd hp g1 (by rw [kk, hc]; decide), vm g2⟩
  · exact (sfr _ (Nat.le_of_lt (x.above q.1 q.2 hq))).2
  · exact ⟨_, x.cell q.1 q.2 (lookup_of_mem_nodup cellnd hq)⟩
  · subst w
    exact hne (name_of_addr x.apart (mem_of_lookup hy) (mem_of_lookup hz))
  · exact (sfr _ (Nat.le_of_lt (x.above q.1 q.2 hq))).1
end
end Mine
open PySem PySem.W PySem.Calls PyProof.Rows PySem.Spec
set_option linter.unusedVariables false
namespace Mine
section
variable {c : Cx} {A : Around} {env : Env} {nm : List (Str × Nat)} {μ μ' μ₁ μ₂ μ₀ : Mp} {ρ ρ' : List V} {σ σ' : Hp} {s s' : Shared} {h h' h₁ h₂ hb : Heap} {E : Value → Shared → Prop} {B : Nat} {X : XP} {e T : Addr}
/-- all kept but two objects, and the slots of frames -/
def KeepX (l : List Env) (e T : Addr) (h h' : Heap) : Prop := ∀ b o, b ≠ e → b ≠ T → h.get? b = some o → ∃ o', h'.get? b = some o' ∧ (o' = o ∨ (b ∈ l.filterMap (·.frame) ∧ ∃ sl, o' = { o with slots := sl }))
theorem Fo.mem {l : List Env} (f : Fo c μ l h) {b : Addr} (hb : b ∈ l.filterMap (·.frame)) : c.H0.get? b = none ∧ (∃ m, h.Ns b m) ∧ Off μ b := by
  obtain ⟨en, h1, h2⟩ := List.mem_filterMap.mp hb
  obtain ⟨_, L, m, a, b1, d, g⟩ := f en h1
  rw [h2] at a; cases a
  exact ⟨b1, ⟨m, d⟩, g⟩
theorem KeepX.same {l : List Env} (k : KeepX l e T h h') (f : Fo c μ l h) {b : Addr} {o : Obj} (n1 : b ≠ e) (n2 : b ≠ T) (hb : h.get? b = some o) (hd : ∀ es n, o.data ≠ .dict es n) : h'.get? b = some o := by
  obtain ⟨o', e', r⟩ := k b o n1 n2 hb
  rcases r with rfl | ⟨m, _⟩
  · exact e'
  · obtain ⟨_, ⟨_, ob, es, ep, e2, hd2, _⟩, _⟩ := f.mem m
    rw [hb] at e2; cases e2; exact absurd hd2 (hd es ep)
theorem KeepX.notF {l : List Env} (k : KeepX l e T h h') {b : Addr} {o : Obj} (n1 : b ≠ e) (n2 : b ≠ T) (hb : h.get? b = some o) (hf : b ∉ l.filterMap (·.frame)) : h'.get? b = some o := by
  obtain ⟨o', e', r⟩ := k b o n1 n2 hb
  rcases r with rfl | ⟨m, _⟩
  · exact e'
  · exact absurd m hf
theorem KeepX.ns {l : List Env} (k : KeepX l e T h h') {b : Addr} {m} (n1 : b ≠ e) (n2 : b ≠ T) (hn : h.Ns b m) : h'.Ns b m := by
  obtain ⟨ob, es, ep, e2, hd2, r⟩ := hn
  obtain ⟨o', e', q⟩ := k b ob n1 n2 e2
  rcases q with rfl | ⟨_, sl, rfl⟩
  · exact ⟨_, es, ep, e', hd2, r⟩
  · exact ⟨_, es, ep, e', hd2, r⟩
theorem St.slots {l : List Env} (x : St c A μ σ s) (hl : A.frames = some l) (pe : Priv c μ s.heap e) (pT : Priv c μ s.heap T) (k : KeepX l e T s.heap h') {tk : Nat} : St c A μ σ { s with heap := h', toks := tk } := by
  obtain ⟨l', e1, f⟩ := x.fo
  rw [hl] at e1; cases e1
  have im : ∀ b o, Imm o → s.heap.get? b = some o → h'.get? b = some o := fun b o i eb => k.same f (pe.imm i eb) (pT.imm i eb) eb fun es n w => by have := i.2; rw [w] at this; exact this
  refine ⟨⟨fun b o eb => ?_, x.rl.dom, x.rl.fresh, fun y a d ey => ?_, x.rl.inj, x.rl.off⟩, fun t ht => ?_, ⟨l, hl, fun en hen => ?_⟩, x.os, x.gn⟩
  · have n1 : b ≠ e := fun w => by rw [w, pe.h0] at eb; cases eb
    have n2 : b ≠ T := fun w => by rw [w, pT.h0] at eb; cases eb
    exact k.notF n1 n2 (x.rl.base b o eb) fun w => by rw [(f.mem w).1] at eb; cases eb
  · obtain ⟨o, f1, g⟩ := x.rl.obj y a d ey
    have i := pe.off y a d ey
    have j := pT.off y a d ey
    exact ⟨o, f1, g.mono (fun _ _ z => z) (fun _ z => k.notF (Ne.symm i.1) (Ne.symm j.1) z fun w => ((f.mem w).2.2 y a d ey).1 rfl) (fun _ z => k.notF (Ne.symm i.2) (Ne.symm j.2) z fun w => ((f.mem w).2.2 y a d ey).2 rfl) im⟩
  · obtain ⟨ps, e1, f1, g⟩ := x.tb t ht
    refine ⟨ps, k.same f (pe.tab e1) (pT.tab e1) e1 (fun _ _ w => by cases w), f1, fun pos cv z => ?_⟩
    obtain ⟨co, oc, vs, tt, a1, a2, a3, a4, a5⟩ := g pos cv z
    exact ⟨co, oc, vs, tt, a1, im _ _ ⟨.inr (.inr (.inr a3)), by rw [a4]; trivial⟩ a2, a3, a4, a5⟩
  · obtain ⟨a, L, m, b1, b2, b3, b4⟩ := f en hen
    exact ⟨a, L, m, b1, b2, k.ns (pe.ns b3) (pT.ns b3) b3, b4⟩
theorem Ev.slots {l : List Env} (x : Ev c A env nm μ ρ σ s) (hl : A.frames = some l) (pe : Priv c μ s.heap e) (pT : Priv c μ s.heap T) (k : KeepX l e T s.heap h') {tk : Nat} : Ev c A env nm μ ρ σ { s with heap := h', toks := tk } := by
  have X := x.toSt.slots hl pe pT k (tk := tk)
  obtain ⟨l', e1, f⟩ := x.fo
  rw [hl] at e1; cases e1
  have im : ∀ b o, Imm o → s.heap.get? b = some o → h'.get? b = some o := fun b o i eb => k.same f (pe.imm i eb) (pT.imm i eb) eb fun es n w => by have := i.2; rw [w] at this; exact this
  have vm : ∀ {v r}, VR μ s.heap v r → VR μ h' v r := fun z => VR.mono (fun _ _ z => z) im _ _ z
  have cm : ∀ {b v}, s.heap.IsCell b v → h'.IsCell b v := fun {b v} z => by
    obtain ⟨o, e1, d⟩ := id z
    exact ⟨o, k.same f (pe.cell z) (pT.cell z) e1 (fun _ _ w => by rw [d] at w; cases w), d⟩
  refine ⟨X, ⟨?_, fun y i a b => ?_, x.lc.offL, x.lc.offC, fun q hq => ?_, x.lc.ap, x.lc.one⟩, x.hL, x.hC⟩
  · obtain ⟨m, hn, g⟩ := x.lc.ns
    refine ⟨m, k.ns (pe.ns hn) (pT.ns hn) hn, fun y i a b v d w => ?_⟩
    obtain ⟨r, g1, z⟩ := g y i a b v d w
    exact ⟨r, g1, vm z⟩
  · obtain ⟨ca, ov, e1, e2, g⟩ := x.lc.cl y i a b
    exact ⟨ca, ov, e1, cm e2, fun v d w => let ⟨r, g1, z⟩ := g v d w; ⟨r, g1, vm z⟩⟩
  · obtain ⟨ov, z⟩ := x.lc.cA q hq
    exact ⟨ov, cm z⟩
theorem Fo.fun : ∀ {l : List Env}, Fo c μ l h → h.FunFrames c.H0 l
  | [], _ => trivial
  | en :: r, f => by
    obtain ⟨a, L, m, b1, b2, ⟨ob, es, ep, e2, hd2, _⟩, _⟩ := f en (List.mem_cons_self ..)
    exact ⟨a, ⟨L, ob, b1, b2, e2, fun vs w => by rw [hd2] at w; cases w⟩, Fo.fun fun en' hen => f en' (List.mem_cons_of_mem _ hen)⟩
theorem Othr.ty {o o' : Obj} {x : String} {vs vs' : Array Value} (h : Othr o) (c1 : o.cls = .type x) (d1 : o.data = .fields vs) (c2 : o'.cls = .type x) (d2 : o'.data = .fields vs') : Othr o' :=
  ⟨fun i => h.1 ⟨by rw [c1, ← c2]; exact i.1, by rw [d1]; trivial⟩, ⟨fun ps w => (by rw [w] at c2; cases c2), by rw [d2]; trivial⟩⟩
theorem leave_core {l : List Env} {L : Addr} {h₀ : Heap} {x : String} (ev : Ev c A env nm μ ρ σ s) {fe : Env} (hl : A.frames = some (fe :: l)) (hf : fe.frame = some L) (xc : Xc c μ h₀ e x s.heap) (hdead : h₀.get? s.heap.objs.size = none) {Q : Unit → Shared → Prop}
    (hQ : ∀ h' T, Ev c A env nm μ ρ σ { s with heap := h' } → KeepX (fe :: l) e T s.heap h' → (T = e ∨ h₀.get? T = none) → Xc c μ h₀ e x h' → Q () { s with heap := h' }) :
    wpAny (model c.prog c.w) A (noteFrame (.ref e) fe) (fun _ s' => wpAny (model c.prog c.w) A (setFlight (.ref e) none) Q E s') E s := by
  obtain ⟨l', e1, f⟩ := ev.fo
  rw [hl] at e1; cases e1
  obtain ⟨fe', pe, oe, vs, he, hcls, hd, hv⟩ := xc
  have hsz : 1 < vs.size := by
    rcases hv with h1 | ⟨T, oT, ts, h1, _⟩
    · exact (Array.getElem?_eq_some_iff.mp h1).1
    · exact (Array.getElem?_eq_some_iff.mp h1).1
  have oth : Othr oe := by obtain ⟨o, e2, d⟩ := pe.ob; rw [he] at e2; cases e2; exact d
  have main : ∀ (T : Addr) (h1 : Heap) (head : Value) (had : Bool), Priv c μ s.heap T → (T = e ∨ h₀.get? T = none) → (∀ b o, b ≠ T → s.heap.get? b = some o → h1.get? b = some o) → h1.get? e = some oe → h1.FunFrames c.H0 (fe :: l) → h1.objs.size = s.heap.objs.size →
      wpAny (model c.prog c.w) A (do let a ← frameOf fe; let pl ← entryPlaceOf L had; let b ← EntryCells.newEntry head a .none (rawInt L) .none pl; setField (.ref e) 1 b) (fun _ s' => wpAny (model c.prog c.w) A (setFlight (.ref e) none) Q E s') E { s with heap := h1 } := by
    intro T h1 head had pT hT0 k1 he1 hff hz1
    have hene : e ∉ (fe :: l).filterMap (·.frame) := fun w => pe.ns (f.mem w).2.1.choose_spec rfl
    refine wpAny_bind (wpAny_frameOf_fun hl hff hf fun h2 hs2 => ?_)
    refine wpAny_bind (wpAny_entryPlaceOf fun pl hpl => ?_)
    unfold EntryCells.newEntry newFields
    refine wpAny_bind (wpAny_newObj_type ?_ (hpl.sizeOk5 _ _ _ _ _))
    have hs2 : Heap.SlotsOnly ((fe :: l).filterMap (·.frame)) h1 h2 := hs2
    have he2 : h2.get? e = some oe := (hs2.2.1 e hene).trans he1
    dsimp only
    generalize htb : ([head, .ref L, .none, rawInt L, .none] ++ (if pl.isEmpty then List.replicate 6 Value.none else pl)).toArray = tb
    have htbs : 3 < tb.size := by rw [← htb]; simp only [List.size_toArray, List.length_append, List.length_cons, List.length_nil]; omega
    have he3 := Heap.get?_push_of_some (h := h2) { cls := .type "traceback", dict := none, data := .fields tb } he2
    refine wpAny_setField he3 hd hsz ?_
    have hTe : h2.objs.size ≠ e := Nat.ne_of_gt (Heap.lt_size he2)
    have hd4 := Obj.data_mapFields hd (·.setIfInBounds 1 (Value.ref h2.objs.size))
    have he4 := Heap.get?_update_self (Obj.mapFields (·.setIfInBounds 1 (Value.ref h2.objs.size))) he3 (Obj.isFreed_of_fields hd4)
    have hT4 := (Heap.get?_update_other (h2.push { cls := .type "traceback", dict := none, data := .fields tb }) (Obj.mapFields (·.setIfInBounds 1 (Value.ref h2.objs.size))) (Ne.symm hTe)).trans (Heap.get?_push_size h2 rfl)
    refine wpAny_setFlight_none he4 hd4 (by simp [hsz]) hT4 rfl htbs ?_
    have hd5 := Obj.data_mapFields (o := { cls := .type "traceback", dict := none, data := .fields tb }) rfl (·.setIfInBounds 3 (Value.none))
    have hT5 := Heap.get?_update_self (Obj.mapFields (·.setIfInBounds 3 Value.none)) hT4 (Obj.isFreed_of_fields hd5)
    have keep : ∀ b o, b ≠ e → h2.get? b = some o →
      (((h2.push { cls := .type "traceback", dict := none, data := .fields tb }).update e (Obj.mapFields (·.setIfInBounds 1 (Value.ref h2.objs.size)))).update h2.objs.size (Obj.mapFields (·.setIfInBounds 3 Value.none))).get? b = some o := fun b o hbe hb => by
      have hbT : h2.objs.size ≠ b := Nat.ne_of_gt (Heap.lt_size hb)
      rw [Heap.get?_update_other _ _ hbT, Heap.get?_update_other _ _ (Ne.symm hbe)]
      exact Heap.get?_push_of_some _ hb
    have kx : KeepX (fe :: l) e T s.heap (((h2.push { cls := .type "traceback", dict := none, data := .fields tb }).update e (Obj.mapFields (·.setIfInBounds 1 (Value.ref h2.objs.size)))).update h2.objs.size (Obj.mapFields (·.setIfInBounds 3 Value.none))) := fun b o n1 n2 eb => by
      have eb1 := k1 b o n2 eb
      by_cases hm : b ∈ (fe :: l).filterMap (·.frame)
      · obtain ⟨sl, e2⟩ := hs2.2.2 b o eb1
        exact ⟨_, keep b _ n1 e2, .inr ⟨hm, sl, rfl⟩⟩
      · exact ⟨o, keep b o n1 ((hs2.2.1 b hm).trans eb1), .inl rfl⟩
    have sz2 : h2.objs.size = s.heap.objs.size := hs2.1.trans hz1
    have he5 := (Heap.get?_update_other ((h2.push { cls := .type "traceback", dict := none, data := .fields tb }).update e (Obj.mapFields (·.setIfInBounds 1 (Value.ref h2.objs.size)))) (Obj.mapFields (·.setIfInBounds 3 Value.none)) hTe).trans he4
    have hc5 : (Obj.mapFields (·.setIfInBounds 1 (Value.ref h2.objs.size)) oe).cls = .type x := (Obj.cls_mapFields _ _).trans hcls
    refine hQ _ T (ev.slots hl pe pT kx (tk := s.toks)) kx hT0 ⟨fe', ⟨pe.h0, pe.off, _, he5, oth.ty hcls hd hc5 hd4⟩, _, _, he5, hc5, hd4, .inr ⟨h2.objs.size, _, _, by simp [hsz], hTe, by rw [sz2]; exact hdead, ⟨?_, ?_, _, hT5, ?_⟩, hT5, hd5, by simp [htbs]⟩⟩
    · rw [sz2]; exact ev.rl.h0_none (Nat.le_refl _)
    · rw [sz2]; exact ev.rl.freshOff (Nat.le_refl _)
    · refine ⟨fun i => ?_, ⟨fun ps w => ?_, by rw [hd5]; trivial⟩⟩
      · have hc : (Obj.mapFields (·.setIfInBounds 3 Value.none) { cls := .type "traceback", dict := none, data := .fields tb } : Obj).cls = .type "traceback" := Obj.cls_mapFields _ _
        rcases i.1 with i | i | i | i <;> (rw [hc] at i; simp at i)
      · have hc : (Obj.mapFields (·.setIfInBounds 3 Value.none) { cls := .type "traceback", dict := none, data := .fields tb } : Obj).cls = .type "traceback" := Obj.cls_mapFields _ _
        rw [w] at hc; cases hc
  unfold noteFrame
  simp only [hf]
  rcases hv with h1 | ⟨T, oT, ts, h1, hTe, hT0, pT, hT, hdT, h3⟩
  · refine wpAny_bind (wpAny_field he hd h1 ?_)
    rw [if_neg (by decide)]
    exact main e s.heap _ _ pe (.inl rfl) (fun _ _ _ z => z) he (Fo.fun f) rfl
  · refine wpAny_bind (wpAny_field he hd h1 ?_)
    rw [if_pos (show (Value.ref T != Value.none) = true from by simp)]
    refine wpAny_bind (wpAny_field hT hdT h3 ?_)
    rw [if_neg (show ¬ ((Value.none == rawInt L) = true) from by simp [rawInt])]
    refine wpAny_bind (wpAny_setField hT hdT (Array.getElem?_eq_some_iff.mp h3).1 ?_)
    have other : ∀ b, b ≠ T → (s.heap.update T (Obj.mapFields (·.setIfInBounds 3 Value.none))).get? b = s.heap.get? b := fun b hb => Heap.get?_update_other _ _ (Ne.symm hb)
    refine main T _ _ _ pT (.inr hT0) (fun b o n z => (other b n).trans z) ((other e (Ne.symm hTe)).trans he) ?_ (Heap.size_after_update ..)
    refine Heap.FunFrames.of_keeps (fun b o hb hnf => ⟨o, (other b fun w => ?_).trans hb, rfl⟩) (Fo.fun f)
    rw [w, hT] at hb; cases hb; exact hnf ts hdT
theorem leave_ok {l : List Env} {L : Addr} {h₀ : Heap} {x : String} (ev : Ev c A env nm μ ρ σ s) {fe : Env} (hl : A.frames = some (fe :: l)) (hf : fe.frame = some L) (xc : Xc c μ h₀ e x s.heap) (hdead : h₀.get? s.heap.objs.size = none) {Q : Unit → Shared → Prop}
    (hQ : ∀ h' T, Ev c A env nm μ ρ σ { s with heap := h' } → KeepX (fe :: l) e T s.heap h' → (T = e ∨ h₀.get? T = none) → Xc c μ h₀ e x h' → Q () { s with heap := h' }) : wpAny (model c.prog c.w) A (leaving fe (.ref e)) Q E s :=
  wpAny_bind (leave_core ev hl hf xc hdead hQ)
end
end Mine
open PySem PySem.W PySem.Calls PyProof.Rows PySem.Spec
set_option linter.unusedVariables false
namespace Mine
structure FnK (c : Cx) (S : Sx) (F : Addr → Option Fu) (L : LamD → Option Ld) (f : Addr) (d : Fd) : Prop where
  go : ∃ (name qual : Str) (params : Arguments) (body : List Stmt) (scope : Scope) (dV kV doc pm : Value) (an : Option Addr) (cdv ct oc : Value) (od : Option Addr) (osl : Array (Option Value)) (ps : List Str),
    c.K.lookup f = some ⟨oc, od, .func (fnOf name qual params body scope dV kV doc pm an cdv ct), osl⟩ ∧ codeIn c.K cdv qual = true ∧ ScOk scope d.nm ps ∧
    (∀ as ks bs, d.bind as ks = some bs → bs.length = ps.length ∧ ∀ μ (s : Shared) rs ws, VsR μ s.heap as rs → KsR μ s.heap ks ws → c.K.In s.heap → ∃ vals, VsR μ s.heap bs vals ∧ BindsTo s (fnOf name qual params body scope dV kV doc pm an cdv ct) ⟨rs, ws⟩ (ps.zip vals)) ∧
    ∀ n, FS c (Ph S F L n) n → LS c (Ph S F L n) n → ∀ A, AB n A → ∀ env, EOk env scope → env.code = cdv → env.qual = qual ++ ".<locals>." → (∀ l, A.frames = some l → ∃ l', l = env :: l') → env.frame = some env.locals → ∀ B, TSs c A env d.nm B body (wpSs S (Ph S F L n) d.body)
structure ClK (c : Cx) (C : Addr) (nf : Nat) (init : Addr) : Prop where
  mak : makesIn c.K C = true
  ini : findIn c.K (.ref C) "__init__" = some (some (.ref init))
  fn : typeIn c.K (.ref init) = some (.type "function")
  len : (c.flds C).length = nf
  nd : (c.flds C).Nodup
  le : nf ≤ 1000
section
variable {c : Cx} {A : Around} {env : Env} {nm : List (Str × Nat)} {μ μ' μ₁ μ₂ μ₀ : Mp} {ρ ρ' : List V} {σ σ' : Hp} {s s' : Shared} {h h' h₁ h₂ hb : Heap} {E : Value → Shared → Prop} {B : Nat} {X : XP}
theorem St.leave {e : Env} (x : Ev c (A.deeper e) e nm μ' ρ' σ' s') (st : St c A μ σ s) : St c A μ' σ' s' := by
  refine ⟨x.rl, x.tb, ?_, x.os, x.gn⟩
  obtain ⟨l, e1, _⟩ := st.fo
  obtain ⟨l', e2, f⟩ := x.fo
  rw [Around.frames_deeper e1] at e2
  cases e2
  exact ⟨l, e1, fun en hen => f en (List.mem_cons_of_mem _ hen)⟩
theorem StpE.leave {e : Env} {h₁ : Heap} (x : StpE c h.objs.size (Wr e) μ h₁ μ' h') (k : ∀ b o, h.get? b = some o → h₁.get? b = some o) (hl : e.locals = h.objs.size) (hc : ∀ q ∈ e.cells, e.locals < q.2) (hz : h.objs.size < h'.objs.size) : Stp c μ h μ' h' where
  sub := x.sub
  new := x.new
  kept := fun b o e' f g => by
    have hb := Heap.lt_size e'
    refine (x.kept b o (k _ _ e') f g fun w => ?_).2
    rcases w with w | ⟨q, hq, w⟩
    · rw [w, hl] at hb; exact Nat.lt_irrefl _ hb
    · have := hc q hq; rw [w, hl] at this; exact Nat.lt_asymm hb this
  size := Nat.le_of_lt hz
theorem fn_ok {S : Sx} {F : Addr → Option Fu} {L : LamD → Option Ld} {n : Nat} (IF : FS c (Ph S F L n) n) (IL : LS c (Ph S F L n) n) {f : Addr} {d : Fd} (hf : F f = some (.fn d)) (K : FnK c S F L f d)
    {as : List V} {ks : List (Str × V)} {Q : V → Hp → Prop} (hq : Ph S F L (n + 1) (.fn f) as ks σ Q X) (hA : AOk (n + 1) A) (st : St c A μ σ s) {rs : List Value} {ws : List (Str × Value)} (hrs : VsR μ s.heap as rs) (hws : KsR μ s.heap ks ws) {R : Result → Shared → Prop}
    (hR : ∀ v σ' μ' r s', Q v σ' → ok v → St c A μ' σ' s' → Stp c μ s.heap μ' s'.heap → VR μ' s'.heap v r → R (.ok (.ret r)) s')
    (hX : ∀ x σ' μ' e s', X x σ' → St c A μ' σ' s' → Stp c μ s.heap μ' s'.heap → Xc c μ' s.heap e x s'.heap → R (.error (.ref e)) s') : codeAny (model c.prog c.w) A (.call (.ref f) ⟨rs, ws⟩) R s := by
  obtain ⟨name, qual, params, body, scope, dV, kV, doc, pm, an, cdv, ct, oc, od, osl, ps, k1, k2, O, k4, k5⟩ := K.go
  simp only [Ph, hf] at hq
  obtain ⟨bs, q1, q2, q3⟩ := hq
  obtain ⟨hl, k4⟩ := k4 as ks bs q1
  have XX := c.X0.keeps st.rl.base
  obtain ⟨vals, hv, hb⟩ := k4 μ s rs ws hrs hws XX
  have hroom : A.depth < recursionLimit := by have := hA.dp; omega
  refine codeAny_call_function hroom (XX _ _ k1) rfl O.co O.gen rfl (codeRec_of XX k2) (hb _ _ _ _ ?_)
  refine wpAny_newFunctionEnv_cells O.kd (fun x hx => ?_) fun e he s₁ x => ?_
  · have hm : x.1 ∈ ps := (List.of_mem_zip (show (x.1, x.2) ∈ ps.zip vals from hx)).1
    rcases O.pk x.1 hm with h | h
    · exact .inl h
    · exact .inr ⟨h, cellsFrom_has scope.names _ [] x.1 (.inl (mem_of_lookup h))⟩
  · obtain ⟨EO, ev, kp, hloc⟩ := frame_ok O st hv hl q2 he x
    refine ⟨((c.T.nolimit.keeps st.rl.base).keeps kp), codeAny_func ?_⟩
    have hcells : ∀ q ∈ e.cells, e.locals < q.2 := fun q hq => x.above q.1 q.2 hq
    refine k5 n IF IL _ (hA.body e) e EO (by subst he; rfl) (by subst he; rfl) (fun l hl => by obtain ⟨l', e1, _⟩ := st.fo; rw [Around.frames_deeper e1] at hl; cases hl; exact ⟨_, rfl⟩) (by subst he; rfl) s.heap.objs.size _ _ _ _ q3 μ s₁ ev (Nat.le_of_eq hloc.symm) _ _ (fun fl ρ' σ' μ' r s' hq ev' st' hr => ?_) (fun x ρ' σ' μ' er s' hx ev' st' xc => ?_)
    have lv := St.leave ev' st
    have hz : s.heap.objs.size < s'.heap.objs.size := by obtain ⟨m, n, _⟩ := ev'.lc.ns; have := n.lt; rw [hloc] at this; exact this
    have sp := StpE.leave st' kp hloc hcells hz
    cases fl with
    | ret v => obtain ⟨a, w, rfl, b⟩ := hr; exact hR v σ' μ' w s' hq.2 hq.1 lv sp b
    | next => rw [show r = .next from hr]; exact hR .none σ' μ' .none s' hq trivial lv sp rfl
    | brk => exact hq.elim
    | cont => exact hq.elim
    · obtain ⟨l, el, fl⟩ := st.fo
      have hfr : (A.deeper e).frames = some (e :: l) := Around.frames_deeper el
      have xc' : Xc c μ' s.heap er x s'.heap := xc.back fun b _ d => by cases q : s.heap.get? b with | none => rfl | some o => rw [kp _ _ q] at d; cases d
      have hz : s.heap.objs.size < s'.heap.objs.size := by obtain ⟨m, n, _⟩ := ev'.lc.ns; have := n.lt; rw [hloc] at this; exact this
      refine leave_ok ev' hfr (show e.frame = some e.locals by subst he; rfl) xc' (Heap.get?_none_of_le (Nat.le_of_lt hz)) fun h' T ev2 kx hT xc2 => ?_
      refine hX x σ' μ' er _ hx (St.leave ev2 st) ?_ xc2
      have sp := StpE.leave st' kp hloc hcells hz
      obtain ⟨m, n, _⟩ := ev2.lc.ns
      refine ⟨sp.sub, sp.new, fun b o eb fb gb => ?_, Nat.le_of_lt (by have := n.lt; rw [hloc] at this; exact this)⟩
      obtain ⟨o', e', lk⟩ := sp.kept b o eb fb gb
      have n1 : b ≠ er := fun w => by rw [w, xc'.fe] at eb; cases eb
      have n2 : b ≠ T := fun w => by
        rcases hT with hT | hT
        · exact n1 (w.trans hT)
        · rw [w, hT] at eb; cases eb
      obtain ⟨o2, e2, r⟩ := kx b o' n1 n2 e'
      refine ⟨o2, e2, lk.trans ?_⟩
      rcases r with rfl | ⟨hm, sl, rfl⟩
      · exact .refl _
      · obtain ⟨l2, el2, f2⟩ := ev'.fo
        rw [hfr] at el2; cases el2
        obtain ⟨_, ⟨_, ob, es, ep, e3, hd3, _⟩, _⟩ := f2.mem hm
        rw [e'] at e3; cases e3
        exact .inr ⟨⟨es, ep, hd3⟩, sl, rfl⟩
theorem cl_ok {S : Sx} {F : Addr → Option Fu} {L : LamD → Option Ld} {n : Nat} (IF : FS c (Ph S F L n) n) {C : Addr} {nf : Nat} {init : Addr} (hf : F C = some (.cls nf init)) (K : ClK c C nf init)
    {as : List V} {ks : List (Str × V)} {Q : V → Hp → Prop} (hq : Ph S F L (n + 1) (.fn C) as ks σ Q X) (hA : AOk (n + 1) A) (st : St c A μ σ s) {rs : List Value} {ws : List (Str × Value)} (hrs : VsR μ s.heap as rs) (hws : KsR μ s.heap ks ws) {R : Result → Shared → Prop}
    (hR : ∀ v σ' μ' r s', Q v σ' → ok v → St c A μ' σ' s' → Stp c μ s.heap μ' s'.heap → VR μ' s'.heap v r → R (.ok (.ret r)) s')
    (hX : ∀ x σ' μ' e s', X x σ' → St c A μ' σ' s' → Stp c μ s.heap μ' s'.heap → Xc c μ' s.heap e x s'.heap → R (.error (.ref e)) s') : codeAny (model c.prog c.w) A (.call (.ref C) ⟨rs, ws⟩) R s := by
  simp only [Ph, hf] at hq
  have XX := c.X0.keeps st.rl.base
  obtain ⟨hh, g, d, t, os⟩ := s
  refine make_core (makes_of XX K.mak) (looks_findIn XX K.ini) (fun self => bind_fn XX self K.fn) (.inl rfl) ?_
  generalize hAu : A.under (.builtin "type.__call__" ⟨.ref C :: rs, ws⟩) = A'
  have aF : A'.frames = A.frames := by subst hAu; rfl
  have aH : A'.handled = A.handled := by subst hAu; rfl
  have aG : A'.guards = A.guards := by subst hAu; rfl
  have aD : A'.depth = A.depth + 1 := by subst hAu; rfl
  have aU : A'.units ≤ A.units + 30 := by subst hAu; exact Nat.add_le_add_left (show (Code.builtin "type.__call__" ⟨.ref C :: rs, ws⟩).cUnits ≤ 30 from by show (1 : Nat) ≤ 30; decide) _
  have hA' : AOk n A' := ⟨aH.trans hA.hh, by have := hA.dp; rw [aD]; omega, by have := hA.un; omega, aG.trans hA.gd⟩
  have kp : ∀ b o, hh.get? b = some o → ((hh.push emptyDict).push (instObj C hh.objs.size)).get? b = some o := fun b o e => Heap.get?_push_of_some _ (Heap.get?_push_of_some _ e)
  have z1 : (hh.push emptyDict).objs.size = hh.objs.size + 1 := Heap.size_push ..
  have ga : ((hh.push emptyDict).push (instObj C hh.objs.size)).get? (hh.objs.size + 1) = some (instObj C hh.objs.size) := by rw [← z1]; exact Heap.get?_push_size _ rfl
  have gd : ((hh.push emptyDict).push (instObj C hh.objs.size)).get? hh.objs.size = some emptyDict := Heap.get?_push_of_some _ (Heap.get?_push_size _ rfl)
  have hz : hh.objs.size ≤ ((hh.push emptyDict).push (instObj C hh.objs.size)).objs.size := by rw [Heap.size_push, z1]; omega
  have hO : OR c (μ.new σ.nx (hh.objs.size + 1) hh.objs.size) ((hh.push emptyDict).push (instObj C hh.objs.size)) (.inst C (List.replicate nf .undef)) (hh.objs.size + 1) hh.objs.size := by
    refine ⟨ga, ⟨_, gd, rfl⟩, by rw [List.length_replicate, K.len], ⟨K.nd, by rw [K.len]; exact K.le⟩, fun _ => none, Heap.Ns1.of_empty ⟨_, #[], _, gd, rfl, fun e he => absurd he (by simp), fun _ => rfl⟩, fun y hy => absurd rfl hy, fun i v e => ?_⟩
    rw [List.getElem?_replicate] at e
    split at e
    · rename_i hi
      cases e
      exact ⟨(c.flds C)[i]'(by rw [K.len]; exact hi), List.getElem?_eq_getElem _, .inl ⟨rfl, rfl⟩⟩
    · cases e
  have R' := st.rl.alloc st.tb kp (Nat.le_succ _) (Nat.le_refl _) hO
  have S' := Stp.alloc (c := c) st.rl kp (Nat.le_succ hh.objs.size) (Nat.le_refl hh.objs.size) hz
  have st₁ : St c A' (μ.new σ.nx (hh.objs.size + 1) hh.objs.size) (σ.new (.inst C (List.replicate nf .undef))) ⟨(hh.push emptyDict).push (instObj C hh.objs.size), g, d, t, os⟩ :=
    (st.step (s' := ⟨(hh.push emptyDict).push (instObj C hh.objs.size), g, d, t, os⟩) S' R' (st.tb.keeps kp) rfl st.gn).around aF
  have vm : ∀ {vs rs}, VsR μ hh vs rs → VsR (μ.new σ.nx (hh.objs.size + 1) hh.objs.size) ((hh.push emptyDict).push (instObj C hh.objs.size)) vs rs := fun z => VsR.mono S'.sub (fun _ _ _ z => kp _ _ z) _ _ z
  refine IF _ _ _ _ _ _ hq A' hA' _ _ st₁ _ _ (VsR.cons ⟨_, _, Mp.new_self .., rfl⟩ (vm hrs)) ⟨hws.1, vm hws.2⟩ _ (fun v σ' μ' r s' hv hok st' sp hr => ?_) fun x σ' μ' e s' hx st' sp xc => ?_
  · obtain ⟨rfl, hv⟩ := hv
    rw [show r = .none from hr]
    exact ⟨rfl, hR (.ref σ.nx) σ' μ' _ s' hv trivial (st'.around aF.symm) (S'.trans sp) ⟨_, _, sp.sub _ _ (Mp.new_self ..), rfl⟩⟩
  · exact hX x σ' μ' e s' hx (st'.around aF.symm) (S'.trans sp) (xc.back fun b p d => by cases q : hh.get? b with | none => rfl | some o => rw [kp _ _ q] at d; cases d)
end
end Mine
open PySem PySem.W PySem.Calls PyProof.Rows PySem.Spec
set_option linter.unusedVariables false
namespace Mine
theorem triples_snoc (l : List Value) (h : TriplesOk l) (a b : Int) (v : Value) : TriplesOk (l ++ [rawInt a, rawInt b, v]) := by
  induction l using TriplesOk.induct with
  | case1 => exact trivial
  | case2 i t j u x r ih => exact ih h
  | case3 l h1 h2 => rw [TriplesOk.eq_3 l h1 h2] at h; exact h.elim
theorem among_snoc (pos : Pos) (l : List Value) (h : TriplesOk l) {a b : Int} {v cv : Value} (e : codeAmong pos (l ++ [rawInt a, rawInt b, v]) = some cv) : codeAmong pos l = some cv ∨ cv = v := by
  induction l using TriplesOk.induct with
  | case1 =>
    simp only [List.nil_append, rawInt, codeAmong] at e
    split at e
    · cases e; exact .inr rfl
    · cases e
  | case2 i t j u x r ih =>
    simp only [List.cons_append, codeAmong] at e ⊢
    split at e
    · rename_i w; rw [if_pos w]; exact .inl e
    · rename_i w; rw [if_neg w]; exact ih h e
  | case3 l h1 h2 => rw [TriplesOk.eq_3 l h1 h2] at h; exact h.elim
section
variable {c : Cx} {A : Around} {env : Env} {nm : List (Str × Nat)} {μ μ' μ₁ μ₂ μ₀ : Mp} {ρ ρ' : List V} {σ σ' : Hp} {s s' : Shared} {h h' h₁ h₂ hb : Heap} {E : Value → Shared → Prop} {B : Nat} {X : XP}
/-- the code tables that a lambda's place may write: the code object, its table, the name of what is laid there -/
def TabHd (c : Cx) (q : Addr × Addr × Str) : Prop := q ∈ c.tabs ∧ CodeHd c.H0 q.1 q.2.1 ∧ c.H0.get? q.2.1 = none ∧ ∀ q' ∈ c.tabs, q'.2.1 = q.2.1 → q' = q
theorem lamTail {q : Addr × Addr × Str} (hq : TabHd c q) (ev : Ev c A env nm μ ρ σ s) (hcode : env.code = .ref q.1) (hge : env.globals = mainGlobals) {params : Arguments} {body : Expr} {scope : Scope} {pos : Pos} {fl : Nat} (hcl : closureFor scope env = pure [])
    {Q : Value → Shared → Prop}
    (hQ : ∀ r h' tk, Ev c A env nm μ ρ σ { s with heap := h', toks := tk } → Stp c μ s.heap μ h' → VR μ h' (.lam ⟨q.2.2, params, body, scope⟩) r → Q r { s with heap := h', toks := tk }) :
    wpAny (model c.prog c.w) A (makeTail "<lambda>" q.2.2 params (.expr body) scope env .none .none none pos fl) Q E s := by
  obtain ⟨hm, C0, h0, huniq⟩ := hq
  obtain ⟨ps, hP, ht, hall⟩ := ev.tb q hm
  have C := C0.keeps ev.rl.base
  have T := c.T
  have hg := T.g.keeps ev.rl.base
  obtain ⟨bm, ob, b1, b2, b3, b4, b5, b6⟩ := T.bmain
  have b3' := ev.rl.base _ _ b3
  have hbP : bm ≠ q.2.1 := fun w => by rw [w, h0] at b3; cases b3
  have hgP : mainGlobals ≠ q.2.1 := fun w => by
    obtain ⟨o, es, ep, e, hd, _⟩ := T.g
    rw [w, h0] at e; cases e
  unfold makeTail
  rw [hcl, hge]
  refine wpAny_bind (wpAny_pure ?_)
  simp only [List.isEmpty_nil, if_true]
  refine wpAny_bind (wpAny_pure ?_)
  cases hf : codeAmong pos ps.toList with
  | some cv =>
    obtain ⟨co, oc, vs, t, rfl, e1, e2, e3, e4⟩ := hall pos cv hf
    refine wpAny_bind (wpAny_functionCode_hit hcode (C.code hP ht) hf ?_)
    refine wpAny_bind (wpAny_builtinsFor hg b1 b2 b3' b4 b5 b6 ?_)
    refine wpAny_bind (wpAny_nsGet hg ?_)
    refine wpAny_bind (wpAny_pure (wpAny_newObj_type ?_ (by size_fits)))
    have ev' := ev.push (tk := s.toks) (kla_obj "<lambda>" q.2.2 params body scope [] ((c.mg "__name__").getD .none) co .none)
    exact hQ _ _ _ ev' (Stp.push _) ⟨_, co, .none, _, oc, vs, t, rfl, Heap.get?_push_size _ rfl, Heap.get?_push_of_some _ e1, e2, e3, e4⟩
  | none =>
    refine wpAny_bind (wpAny_functionCodeX hcode (C.code hP ht) (C.tab hP) hf fun c' h₁ tk hx hge' hlt _ hrec htb htb' => ?_)
    have hg' := hg.extBut hx hgP
    refine wpAny_bind (wpAny_builtinsFor hg' b1 b2 (hx _ _ hbP b3') b4 b5 b6 ?_)
    refine wpAny_bind (wpAny_nsGet hg' ?_)
    refine wpAny_bind (wpAny_pure (wpAny_newObj_type ?_ (by size_fits)))
    obtain ⟨P', hP'1, hP'2, ⟨oc, vs, i1, i2, i3, i4⟩, _⟩ := htb'
    obtain ⟨c2, oc2, vs2, t, j1, j2, j3, j4⟩ := hrec
    cases j1
    rw [i1] at j2; cases j2
    rw [i3] at j3; cases j3
    have hz : s.heap.objs.size ≤ h₁.objs.size := Nat.le_of_lt (Nat.lt_of_le_of_lt hge' hlt)
    have offP : Off μ q.2.1 := fun x a d e => let z := (ev.rl.off x a d e).2.2 q hm; z
    have kq : ∀ b o, b ≠ q.2.1 → s.heap.get? b = some o → h₁.get? b = some o := fun b o w e => hx b o w e
    have tabd : ∀ {b o}, s.heap.get? b = some o → (∀ ps, o ≠ tabObj ps) → b ≠ q.2.1 := fun e w z => by rw [z, hP] at e; cases e; exact w _ rfl
    have im : ∀ b o, Imm o → s.heap.get? b = some o → h₁.get? b = some o := fun b o i e => kq b o (tabd e fun ps w => by subst w; rcases i.1 with i | i | i | i <;> cases i) e
    -- the state behind the table's growth
    have R₁ : Rl c μ σ h₁ := ⟨fun b o e => kq _ _ (fun z => by rw [z, h0] at e; cases e) (ev.rl.base b o e), ev.rl.dom, ev.rl.fresh, fun y a d e => by
      obtain ⟨o, f, g⟩ := ev.rl.obj y a d e
      have i := (ev.rl.off y a d e).2.2 q hm
      exact ⟨o, f, g.mono (fun _ _ z => z) (fun _ z => kq _ _ (Ne.symm i.1) z) (fun _ z => kq _ _ (Ne.symm i.2) z) im⟩, ev.rl.inj, ev.rl.off⟩
    have t₁ : TabsOk c h₁ := fun q' hq' => by
      by_cases w : q'.2.1 = q.2.1
      · rw [huniq q' hq' w]
        refine ⟨_, htb.2, ?_, fun pos' cv hcv => ?_⟩
        · rw [Array.toList_append]
          exact triples_snoc _ ht _ _ _
        · rw [Array.toList_append] at hcv
          rcases among_snoc pos' ps.toList ht hcv with hcv | rfl
          · obtain ⟨co, oc', vs', t', a1, a2, a3, a4, a5⟩ := hall pos' cv hcv
            exact ⟨co, oc', vs', t', a1, im _ _ ⟨.inr (.inr (.inr a3)), by rw [a4]; trivial⟩ a2, a3, a4, a5⟩
          · exact ⟨c', oc, vs, t, rfl, i1, i2, i3, j4⟩
      · obtain ⟨ps', e, f, g⟩ := ev.tb q' hq'
        refine ⟨ps', kq _ _ w e, f, fun pos' cv z => ?_⟩
        obtain ⟨co, oc', vs', t', a1, a2, a3, a4, a5⟩ := g pos' cv z
        exact ⟨co, oc', vs', t', a1, im _ _ ⟨.inr (.inr (.inr a3)), by rw [a4]; trivial⟩ a2, a3, a4, a5⟩
    have S₁ : Stp c μ s.heap μ h₁ := ⟨fun _ _ e => e, fun x a d e f => (by rw [f] at e; cases e), fun b o e f g => ⟨o, kq b o (fun z => g q hm z.symm) e, .refl o⟩, hz⟩
    have ev₁ : Ev c A env nm μ ρ σ { s with heap := h₁, toks := tk } := ev.step (s' := { s with heap := h₁, toks := tk }) S₁ R₁ t₁ rfl ev.gn
    have ev₂ := ev₁.push (tk := tk) (kla_obj "<lambda>" q.2.2 params body scope [] ((c.mg "__name__").getD .none) c' .none)
    exact hQ _ _ _ ev₂ (S₁.trans (Stp.push _)) ⟨_, c', .none, _, oc, vs, t, rfl, Heap.get?_push_size _ rfl, Heap.get?_push_of_some _ i1, i2, i3, j4⟩
end
end Mine
open PySem PySem.W PySem.Calls PyProof.Rows PySem.Spec
set_option linter.unusedVariables false
namespace Mine
def plainArgs : Arguments → Bool
  | ⟨[], _, none, [], [], none, []⟩ => true
  | _ => false
theorem plainArgs_eq {p : Arguments} (h : plainArgs p = true) : ∃ as, p = ⟨[], as, none, [], [], none, []⟩ := by
  unfold plainArgs at h
  split at h
  · exact ⟨_, rfl⟩
  · cases h
section
variable {c : Cx} {A : Around} {env : Env} {nm : List (Str × Nat)} {μ μ' μ₁ μ₂ μ₀ : Mp} {ρ ρ' : List V} {σ σ' : Hp} {s s' : Shared} {h h' h₁ h₂ hb : Heap} {E : Value → Shared → Prop} {B : Nat} {X : XP}
theorem te_lam {q : Addr × Addr × Str} (hq : TabHd c q) {sc : Scope} (K : EOk env sc) (hcode : env.code = .ref q.1) (hqual : env.qual ++ "<lambda>" = q.2.2) {params : Arguments} {body : Expr} {scope : Scope} {pos : Pos} (hp : plainArgs params = true)
    (hfree : ∀ x ∈ scope.names, x.2 ≠ .free) :
    TE c A env nm (.Lambda params body scope pos) fun _ σ Q _ => Q (.lam ⟨q.2.2, params, body, scope⟩) σ := fun ρ σ Q X h μ s ev Q' E hQ hX => by
  obtain ⟨as, rfl⟩ := plainArgs_eq hp
  refine kla_eval rfl ?_
  rw [makeFunction_eq, hqual]
  simp only [List.zip_nil_right, List.filterMap_nil, List.isEmpty_nil, if_true, pure_bind]
  exact lamTail hq ev hcode K.gl (closureFor_none hfree) fun r h' tk ev' st' hr => hQ _ _ _ _ _ h ev' st' hr
structure LdK (c : Cx) (S : Sx) (F : Addr → Option Fu) (L : LamD → Option Ld) (ld : LamD) (d : Ld) : Prop where
  go : ∃ ps : List Str, ScOk ld.scope d.nm ps ∧ ps.length = d.na ∧
    (∀ pm c' ctv rs, rs.length = d.na → bindArgs (kla_fn "<lambda>" ld.qual ld.params ld.body ld.scope [] pm c' ctv) ⟨rs, []⟩ = pure (ps.zip rs)) ∧
    ∀ n, FS c (Ph S F L n) n → LS c (Ph S F L n) n → ∀ A, AB n A → ∀ env, EOk env ld.scope → TE c A env d.nm ld.body (wpE S (Ph S F L n) d.body)
theorem lm_ok {S : Sx} {F : Addr → Option Fu} {L : LamD → Option Ld} {n : Nat} (IF : FS c (Ph S F L n) n) (IL : LS c (Ph S F L n) n) {ld : LamD} {d : Ld} (hf : L ld = some d) (K : LdK c S F L ld d)
    {as : List V} {Q : V → Hp → Prop} (hq : Ph S F L (n + 1) (.lam ld) as [] σ Q X) (hA : AOk (n + 1) A) (st : St c A μ σ s) {rf : Value} (hrf : VR μ s.heap (.lam ld) rf) {rs : List Value} (hrs : VsR μ s.heap as rs) {R : Result → Shared → Prop}
    (hR : ∀ v σ' μ' r s', Q v σ' → ok v → St c A μ' σ' s' → Stp c μ s.heap μ' s'.heap → VR μ' s'.heap v r → R (.ok (.ret r)) s') : codeAny (model c.prog c.w) A (.call rf ⟨rs, []⟩) R s := by
  obtain ⟨ps, O, hna, hbind, hbody⟩ := K.go
  simp only [Ph, hf] at hq
  obtain ⟨q1, _, q2, q3⟩ := hq
  obtain ⟨a, c', ctv, pm, oc, vs, t, rfl, f1, f2, f3, f4, f5⟩ := hrf
  have hroom : A.depth < recursionLimit := by have := hA.dp; omega
  have hl : rs.length = d.na := by rw [hrs.length, q1]
  refine kla_callFunE hroom f1 rfl O.co O.gen rfl ⟨c', oc, vs, t, rfl, f2, f4, f5⟩ ?_
  rw [hbind pm (.ref c') ctv rs hl]
  refine wpAny_pure ?_
  show wpAny _ A.in1 (newFunctionEnv ld.scope mainGlobals [] (ps.zip rs) (ld.qual ++ ".<locals>.") (some a) (.ref c') none builtinsNs) _ _ _
  refine wpAny_newFunctionEnv_cells O.kd (fun x hx => ?_) fun e he s₁ x => ?_
  · have hm : x.1 ∈ ps := (List.of_mem_zip (show (x.1, x.2) ∈ ps.zip rs from hx)).1
    rcases O.pk x.1 hm with h | h
    · exact .inl h
    · exact .inr ⟨h, cellsFrom_has ld.scope.names _ [] x.1 (.inl (mem_of_lookup h))⟩
  · obtain ⟨EO, ev, kp, hloc⟩ := frame_ok O st hrs (by rw [q1, hna]) q2 he x
    refine ⟨((c.T.nolimit.keeps st.rl.base).keeps kp), kla_codeExpr ?_⟩
    have hcells : ∀ q ∈ e.cells, e.locals < q.2 := fun q hq => x.above q.1 q.2 hq
    refine hbody n IF IL _ (hA.body e) e EO _ _ _ _ q3 μ s₁ ev _ _ (fun v σ' μ' r s' hq ev' st' hr => ?_) PX.no
    have hz₁ : s.heap.objs.size ≤ s₁.heap.objs.size := by obtain ⟨m, n, _⟩ := ev.lc.ns; have := n.lt; rw [hloc] at this; exact Nat.le_of_lt this
    have hz : s.heap.objs.size < s'.heap.objs.size := by obtain ⟨m, n, _⟩ := ev'.lc.ns; have := n.lt; rw [hloc] at this; exact this
    exact hR v σ' μ' r s' hq.2 hq.1 (St.leave ev' st) (StpE.leave (st'.toE hz₁) kp hloc hcells hz) hr
theorem fs_all {S : Sx} {F : Addr → Option Fu} {L : LamD → Option Ld} (hF : ∀ f d, F f = some (.fn d) → FnK c S F L f d) (hC : ∀ C nf init, F C = some (.cls nf init) → ClK c C nf init) (hL : ∀ ld d, L ld = some d → LdK c S F L ld d) :
    ∀ n, FS c (Ph S F L n) n ∧ LS c (Ph S F L n) n
  | 0 => ⟨fun f as ks σ Q X h => h.elim, fun ld as σ Q X h => h.elim⟩
  | n + 1 => by
    obtain ⟨IF, IL⟩ := fs_all hF hC hL n
    refine ⟨fun f as ks σ Q X h A hA μ s st rs ws hrs hws R hR hX => ?_, fun ld as σ Q X h A hA μ s st rf hrf rs hrs R hR hX => ?_⟩
    · cases q : F f with
      | none => simp only [Ph, q] at h
      | some u =>
        cases u with
        | fn d => exact fn_ok IF IL q (hF f d q) h hA st hrs hws hR hX
        | cls nf init => exact cl_ok IF q (hC f nf init q) h hA st hrs hws hR hX
    · cases q : L ld with
      | none => simp only [Ph, q] at h
      | some d => exact lm_ok IF IL q (hL ld d q) h hA st hrf hrs hR
end
end Mine
open PySem PySem.W PySem.Calls PyProof.Rows PySem.Spec
set_option linter.unusedVariables false
namespace Mine
theorem strAdd_run (x : Str) (t : Tok) (b : Int) (u : Tok) : Builtin.«str.__add__» ⟨[.str x t, .int b u], []⟩ = (do rule "str.__add__.not-a-str"; raiseErrorMade "TypeError" "can only concatenate str (not \"int\") to str") := by
  first | rfl | kernel_rfl
section
variable {c : Cx} {A : Around} {env : Env} {nm : List (Str × Nat)} {μ μ' μ₁ μ₂ μ₀ : Mp} {ρ ρ' : List V} {σ σ' : Hp} {s s' : Shared} {h h' h₁ h₂ hb : Heap} {E : Value → Shared → Prop} {B : Nat} {X : XP} {e T : Addr}
theorem raise_made {α : Type} {M : Model} {cls msg : String} {Q : α → Shared → Prop} (hp : PlainExc cls) (hh : A.handled = none)
    (h : ∀ o1 o2 tk t, o2.cls = .type cls → o2.data = .fields #[t, .none, .none, .none, .bool false, .none] → E (.ref (s.heap.push o1).objs.size) { s with heap := (s.heap.push o1).push o2, toks := tk }) (hm : (msg : Str).length ≤ sizeLine) :
    wpAny M A (raiseErrorMade cls msg : Sem α) Q E s := by
  unfold raiseErrorMade
  refine wpAny_bind (wpAny_mkStr (wpAny_bind ?_) hm)
  unfold newExc newTuple
  refine wpAny_bind (wpAny_newObj_type ?_)
  refine wpAny_bind (m := firstArgMember _ _) (wpAny_of_eq (a := Value.none) (by simp only [firstArgMember, hp.first]; rfl) ?_)
  rw [hp.own]
  refine wpAny_newObj_type ?_
  unfold raiseNew
  refine wpAny_bind (wpAny_handled ?_)
  rw [hh]
  refine wpAny_bind (wpAny_pure (wpAny_throw ?_))
  exact h _ _ _ (.ref s.heap.objs.size) rfl (by simp)
theorem Xc.made (ev : Ev c A env nm μ ρ σ s) {o1 o2 : Obj} {cls : String} {t : Value} (hc : o2.cls = .type cls) (hx : cls = "TypeError" ∨ cls = "ValueError") (hd : o2.data = .fields #[t, .none, .none, .none, .bool false, .none]) :
    Xc c μ s.heap (s.heap.push o1).objs.size cls ((s.heap.push o1).push o2) := by
  have sz : (s.heap.push o1).objs.size = s.heap.objs.size + 1 := Heap.size_push ..
  have hge : ((s.heap.push o1).push o2).get? (s.heap.push o1).objs.size = some o2 := Heap.get?_push_size _ (by cases q : o2 with | mk a b d sl => subst q; dsimp only at hd; subst hd; rfl)
  refine ⟨Heap.get?_none_of_le (by rw [sz]; exact Nat.le_succ _), ⟨ev.rl.h0_none (by rw [sz]; exact Nat.le_succ _), ev.rl.freshOff (by rw [sz]; exact Nat.le_succ _), o2, hge, ?_⟩, o2, _, hge, hc, hd, .inl rfl⟩
  refine ⟨fun i => ?_, ⟨fun ps w => (by rw [w] at hc; cases hc), by rw [hd]; trivial⟩⟩
  rcases hx with rfl | rfl <;> rcases i.1 with i | i | i | i <;> (rw [hc] at i; simp at i)
theorem strAddInt {x : Str} {t : Tok} {b : Int} {u : Tok} {Q : Value → Shared → Prop} (hh : A.handled = none)
    (h : ∀ o1 o2 tk t', o2.cls = .type "TypeError" → o2.data = .fields #[t', .none, .none, .none, .bool false, .none] → E (.ref (s.heap.push o1).objs.size) { s with heap := (s.heap.push o1).push o2, toks := tk }) :
    wpAny (model c.prog c.w) A (binaryOp .Add (.str x t) (.int b u)) Q E s := by
  unfold binaryOp
  refine wpAny_holding ?_
  refine wpAny_bind (wpAny_binaryOp1_right_declines (nm := "add") (T := "str") (U := "int") (by decide) (typeIs_str s x t) (typeIs_int s b u) PySem.noFill_str_add F.fills_int_add F.slot_int_radd
    (call_gives F.slot_int_radd (typeIs_int s b u) F.entry_int_radd (F.args_int_radd_2 _ _) (AutoIntG4.int___radd___int_str_0 b u x t) ⟨rfl, ?_⟩))
  refine wpAny_bind (wpAny_typeOf (typeIs_str s x t) ?_)
  refine wpAny_bind (wpAny_of_eq PySem.seq_str_add ?_)
  refine wpAny_bind (wpAny_rule ?_)
  refine wpAny_call_entry F.slot_str_add (typeIs_str s x t) F.entry_str_add ?_ (F.args_str_add_2 _ _)
  rw [strAdd_run]
  exact wpAny_bind (wpAny_rule (raise_made plainExc_TypeError hh h (by decide)))
/-- raise TypeError('..' + e) where e is a whole number -/
theorem ts_raz {n : Nat} (hA : AOk n A) {sc : Scope} (K : EOk env sc) {x : Str} (hg : globIn c.K x = some (.type "TypeError")) (hkd : sc.names.lookup x = some .globalImplicit) (hd : (x == ("__debug__" : Str)) = false) {e : Expr} {sv : Str} {k : Nat} {p cp bp cpos pos : Pos} {P : EP} (h₁ : TE c A env nm e P) :
    TS c A env nm B (exec (.Raise (some (.Call (.Name x p) [.BinOp (.Constant (.str sv) k cp) .Add e bp] [] cpos)) none pos) env) fun ρ σ _ X => P ρ σ (fun v σ₁ => (∃ i, v = .int i) ∧ X "TypeError" σ₁) X := fun ρ σ Q X h μ s ev hB Q' E hQ hX => by
  have hz := ev.floor hB
  rw [arm_exec_Raise]
  refine wpAny_bind (wpAny_standAt ?_)
  show wpAny _ A (do
    let xv ← (do let v ← eval (.Call (.Name x p) [.BinOp (.Constant (.str sv) k cp) .Add e bp] [] cpos) env; standAt pos; pure v)
    let cv ← (pure none : Sem (Option Value))
    let e ← holding cv.toList (excFromValue xv "exceptions must derive from BaseException")
    if let some cv := cv then
      let c ← if cv == .none then pure .none else holding [e] (excFromValue cv "exception causes must derive from BaseException")
      setField e 3 c
      setField e 4 (.bool true)
    let e ← if ← isType xv then holding [e] (raisedFor xv e) else raisedInstance e
    setFlight e none
    raiseNew e) _ _ _
  refine wpAny_bind (wpAny_bind ?_)
  refine wpAny_Call_Name_kw (te_glob K hg hkd hd ρ σ (fun v σ' => v = .k (.type "TypeError") ∧ σ' = σ) (fun _ _ => False) ⟨rfl, rfl⟩ μ s ev _ E (fun v σ₁ μ₁ r s₁ q₁ ev₁ st₁ r₁ => ?_) PX.no)
  obtain ⟨rfl, rfl⟩ := q₁
  rw [show r = .type "TypeError" from r₁]
  refine PyProof.Rows.callWith_type (star_all _ env cpos (by rfl)).1 ?_
  rw [star_cons (by rfl)]
  refine Calls.evalArgs_plain (Calls.spliced_cons ?_)
  refine wpAny_BinOp (te_str ρ σ₁ (fun v σ' => v = .str sv ∧ σ' = σ₁) (fun _ _ => False) ⟨rfl, rfl⟩ μ₁ s₁ ev₁ _ E (fun v σ₂ μ₂ ra s₂ q₂ ev₂ st₂ r₂ => ?_) PX.no)
  obtain ⟨rfl, rfl⟩ := q₂
  have hX₂ := (hX.px (ρ := ρ) hz).trans (st₁.trans st₂)
  refine h₁ ρ σ₂ _ X h μ₂ s₂ ev₂ _ E (fun v σ₃ μ₃ rb s₃ q₃ ev₃ st₃ r₃ => ?_) hX₂
  obtain ⟨⟨i, rfl⟩, hx⟩ := q₃
  obtain ⟨t, rfl⟩ := st₃.vr ev₂.rl ev₂.tb r₂
  obtain ⟨u, rfl⟩ := r₃
  refine strAddInt hA.hh fun o1 o2 tk t' a b => ?_
  have kp : ∀ b o, s₃.heap.get? b = some o → ((s₃.heap.push o1).push o2).get? b = some o := fun b o e => Heap.get?_push_of_some _ (Heap.get?_push_of_some _ e)
  have kz : s₃.heap.objs.size ≤ ((s₃.heap.push o1).push o2).objs.size := Nat.le_trans (push_size_le _ _) (push_size_le _ _)
  exact (hX₂.trans st₃) _ _ _ _ _ hx (ev₃.keeps (tk := tk) kp kz) (Stp.keeps kp kz) (Xc.made ev₃ a (.inl rfl) b)
end
end Mine
open PySem PySem.W PySem.Calls PyProof.Rows PySem.Spec
set_option linter.unusedVariables false
namespace Mine
def exT (T : String) : Prop := T = "TypeError" ∨ T = "ValueError"
theorem ex_base {T : String} (h : exT T) : isSubtype (.type T) (.type "BaseException") = pure true := by
  rcases h with rfl | rfl <;> (rw [isSubtype_type]; kernel_rfl)
theorem ex_meta {T : String} (h : exT T) : isSubtype (.type ((Manifest.find? T).elim "type" fun x => x.metatype)) (.type "tuple") = pure false := by
  rcases h with rfl | rfl <;> (rw [isSubtype_type]; kernel_rfl)
theorem ex_sub {X T : String} (h : exT T) (h' : exT X) : isSubtype (.type X) (.type T) = pure (X == T) := by
  rcases h with rfl | rfl <;> rcases h' with rfl | rfl <;> (rw [isSubtype_type]; kernel_rfl)
inductive HdOk (c : Cx) (env : Env) (sc : Scope) (nm : List (Str × Nat)) : List ExceptHandler → List (String × V) → Prop
  | nil : HdOk c env sc nm [] []
  | cons {x : Str} {T : String} {ce : Expr} {v : V} {p rp pos : Pos} {r hs} : globIn c.K x = some (.type T) → exT T → sc.names.lookup x = some .globalImplicit → (x == ("__debug__" : Str)) = false → ((∃ b k p, ce = .Constant (.bool b) k p ∧ v = .bool b) ∨ ∃ x k p, ce = .Constant (.str x) k p ∧ v = .str x) → HdOk c env sc nm r hs →
      HdOk c env sc nm (.ExceptHandler (some (.Name x p)) none [.Return (some ce) rp] pos :: r) ((T, v) :: hs)
section
variable {c : Cx} {A : Around} {env : Env} {nm : List (Str × Nat)} {μ μ' μ₁ μ₂ μ₀ : Mp} {ρ ρ' : List V} {σ σ' : Hp} {s s' : Shared} {h h' h₁ h₂ hb : Heap} {E : Value → Shared → Prop} {B : Nat} {X : XP} {e T : Addr}
theorem Ev.around {A' : Around} (x : Ev c A env nm μ ρ σ s) (e : A'.frames = A.frames) : Ev c A' env nm μ ρ σ s := ⟨x.toSt.around e, x.lc, x.hL, x.hC⟩
theorem glob_at {sc : Scope} (K : EOk env sc) {x : Str} {v : Value} {pos : Pos} (hg : globIn c.K x = some v) (hk : sc.names.lookup x = some .globalImplicit)
    (hd : (x == ("__debug__" : Str)) = false) (ev : Ev c A env nm μ ρ σ s) {Q' : Value → Shared → Prop} (h : Q' v s) : wpAny (model c.prog c.w) A (eval (.Name x pos) env) Q' E s := by
  have hfn : env.scope.kind = .function := by rw [K.se]; exact K.kd
  have kk : env.kindOf x = some .globalImplicit := by unfold Env.kindOf; rw [K.se]; exact hk
  unfold globIn at hg
  have T := c.T
  have g := T.g.keeps ev.rl.base
  have b := T.b.keeps ev.rl.base
  split at hg
  · rename_i v' e
    cases hg
    exact Name_function_global hfn kk (loadGlobal_global (by rw [K.gl]; exact g) (mg_of c.X0 T.g e) h) hd
  · rename_i e
    split at hg
    · cases hg
    · rename_i hne
      exact Name_function_global hfn kk (loadGlobal_builtin (by rw [K.gl]; exact g) (mg_none_of c.X0 T.g e) (by rw [K.bi]; exact b) ((T.builtins x hne).trans hg) h) hd
  · cases hg
/-- the traceback's mark goes -/
theorem flight_ok {l : List Env} {h₀ : Heap} {x : String} (ev : Ev c A env nm μ ρ σ s) (hl : A.frames = some l) (xc : Xc c μ h₀ e x s.heap) {Q : Unit → Shared → Prop}
    (hQ : ∀ h' T, Ev c A env nm μ ρ σ { s with heap := h' } → KeepX l e T s.heap h' → (T = e ∨ h₀.get? T = none) → Q () { s with heap := h' }) : wpAny (model c.prog c.w) A (setFlight (.ref e) none) Q E s := by
  obtain ⟨fe', pe, oe, vs, he, hcls, hd, hv⟩ := xc
  rcases hv with h1 | ⟨T, oT, ts, h1, hTe, hT0, pT, hT, hdT, h3⟩
  · unfold setFlight
    refine wpAny_bind (wpAny_field he hd h1 ?_)
    rw [if_neg (by decide)]
    exact wpAny_pure (hQ s.heap e ev (fun b o _ _ z => ⟨o, z, .inl rfl⟩) (.inl rfl))
  · refine wpAny_setFlight_none he hd h1 hT hdT (Array.getElem?_eq_some_iff.mp h3).1 ?_
    have kx : KeepX l e T s.heap (s.heap.update T (Obj.mapFields (·.setIfInBounds 3 .none))) := fun b o _ n z => ⟨o, (Heap.get?_update_other _ _ (Ne.symm n)).trans z, .inl rfl⟩
    exact hQ _ T (ev.slots hl pe pT kx (tk := s.toks)) kx (.inr hT0)
theorem handle_ok {l : List Env} {h₀ : Heap} {x : String} (hx : exT x) {sc : Scope} (K : EOk env sc) : ∀ {hds hs}, HdOk c env sc nm hds hs → ∀ {v : V}, hs.lookup x = some v → ∀ {s}, Ev c A env nm μ ρ σ s → A.frames = some l → Xc c μ h₀ e x s.heap → ∀ {Q : Flow → Shared → Prop},
    (∀ h' T tk r, Ev c A env nm μ ρ σ { s with heap := h', toks := tk } → KeepX l e T s.heap h' → (T = e ∨ h₀.get? T = none) → VR μ h' v r → Q (.ret r) { s with heap := h', toks := tk }) → wpAny (model c.prog c.w) A (handleBy (.ref e) env hds) Q E s
  | _, _, .nil, v, hv, s, ev, hl, xc, Q, hQ => by cases hv
  | _, _, .cons (x := y) (T := T) (v := w) hg hT hk hd hce r, v, hv, s, ev, hl, xc, Q, hQ => by
    have evm : Ev c (A.mark (some (.ref e))) env nm μ ρ σ s := ev.around rfl
    refine wpAny_handleBy_builtin (b := x == T) (ex_base hT) (ex_meta hT) (ex_sub hT hx) ?_
    refine glob_at K hg hk hd evm ⟨rfl, ?_, ?_⟩
    · obtain ⟨oe, vs, he, hcls, _⟩ := xc.ob
      exact ⟨oe, he, hcls⟩
    · cases hxT : x == T with
      | false =>
        rw [if_neg Bool.false_ne_true]
        rw [List.lookup_cons, hxT] at hv
        exact handle_ok hx K r hv ev hl xc hQ
      | true =>
        rw [if_pos rfl]
        rw [List.lookup_cons, hxT] at hv
        have hv : some w = some v := hv
        cases hv
        refine flight_ok evm hl xc fun h' T' ev' kx hT' => ?_
        refine wpAny_execs_cons (wpAny_Return_some ?_)
        rcases hce with ⟨b, k, q, rfl, rfl⟩ | ⟨z, k, q, rfl, rfl⟩
        · exact Constant_bool (hQ h' T' s.toks _ (ev'.around (A' := A) rfl) kx hT' rfl)
        · exact Calls.Constant_str (hQ h' T' _ _ ((ev'.around (A' := A) rfl).tok (tk := s.toks + 1)) kx hT' ⟨_, rfl⟩)
theorem ts_try {sc : Scope} (K : EOk env sc) {body : List Stmt} {h₀ : ExceptHandler} {hds : List ExceptHandler} {hs : List (String × V)} {pos : Pos} {P : SP} (h₁ : TSs c A env nm B body P) (H : HdOk c env sc nm (h₀ :: hds) hs) (hok : ∀ x v, hs.lookup x = some v → ok v ∧ exT x)
    (hfe : ∀ l, A.frames = some l → ∃ l', l = env :: l') (hff : env.frame = some env.locals) :
    TS c A env nm B (exec (.Try body (h₀ :: hds) [] [] pos) env) fun ρ σ Q X => P ρ σ Q fun x σ' => match hs.lookup x with
      | some v => ok v ∧ ∀ ρ', Q (.ret v) ρ' σ'
      | none => False := fun ρ σ Q X h μ s ev hB Q' E hQ hX => by
  refine wpAny_Try_except (h₁ ρ σ _ _ h μ s ev hB _ _ (fun fl ρ' σ' μ' r s' hq ev' st' hr => ?_) fun x ρ' σ' μ' er s' hx ev' st' xc => ?_)
  · have q : ∀ r, relF μ' s'.heap fl r → Q' r s' := fun r hr => hQ _ _ _ _ _ _ hq ev' st' hr
    cases fl with
    | next => rw [show r = .next from hr]; exact wpAny_pure (q _ rfl)
    | brk => rw [show r = .brk from hr]; exact q _ rfl
    | cont => rw [show r = .cont from hr]; exact q _ rfl
    | ret v => obtain ⟨a, w, rfl, b⟩ := hr; exact q _ ⟨a, w, rfl, b⟩
  · dsimp only at hx
    cases hl : hs.lookup x with
    | none => rw [hl] at hx; exact hx.elim
    | some v =>
      rw [hl] at hx
      obtain ⟨hok', hT⟩ := hok x v hl
      obtain ⟨l, el, _⟩ := ev'.fo
      obtain ⟨l', rfl⟩ := hfe l el
      have hdead : s.heap.get? s'.heap.objs.size = none := by
        cases q : s.heap.get? s'.heap.objs.size with
        | none => rfl
        | some o =>
          -- what lived at the start lives still
          obtain ⟨_, o', e', _⟩ := st'.kept _ o q (fun y a d ey => ev'.rl.freshOff (Nat.le_refl _) y a d (st'.sub _ _ ey)) (fun z hz w => by
            obtain ⟨ps, f, _⟩ := ev'.tb z hz
            have := Heap.lt_size f; rw [w] at this; exact Nat.lt_irrefl _ this) (fun w => by
            rcases w with w | ⟨z, hz, w⟩
            · obtain ⟨m, hn, _⟩ := ev'.lc.ns; have := hn.lt; rw [← w] at this; exact Nat.lt_irrefl _ this
            · obtain ⟨ov, hc⟩ := ev'.lc.cA z hz; have := hc.lt; rw [w] at this; exact Nat.lt_irrefl _ this)
          exact absurd (Heap.lt_size e') (Nat.lt_irrefl _)
      refine leave_core ev' el hff xc hdead fun h1 T1 ev1 k1 hT1 xc1 => ?_
      refine handle_ok hT K H hl ev1 el xc1 fun h2 T2 tk r ev2 k2 hT2 hr => ?_
      refine hQ (.ret v) ρ' σ' μ' (.ret r) _ (hx.2 ρ') ev2 ⟨st'.sub, st'.new, fun b o eb fb gb wb => ?_⟩ ⟨hx.1, r, rfl, hr⟩
      obtain ⟨f1, o', e', lk⟩ := st'.kept b o eb fb gb wb
      have n1 : b ≠ er := fun w => by rw [w, xc.fe] at eb; cases eb
      have nT : ∀ {T}, (T = er ∨ s.heap.get? T = none) → b ≠ T := fun hT w => by
        rcases hT with hT | hT
        · exact n1 (w.trans hT)
        · rw [w, hT] at eb; cases eb
      have lik : ∀ {o1 o2 : Obj} {h3 : Heap}, h3.get? b = some o1 → (o2 = o1 ∨ (b ∈ (env :: l').filterMap (·.frame) ∧ ∃ sl, o2 = { o1 with slots := sl })) → Fo c μ' (env :: l') h3 → Alike o1 o2 := fun e3 q f => by
        rcases q with rfl | ⟨hm, sl, rfl⟩
        · exact .refl _
        · obtain ⟨_, ⟨_, ob, es, ep, e4, hd4, _⟩, _⟩ := f.mem hm
          rw [e3] at e4; cases e4
          exact .inr ⟨⟨es, ep, hd4⟩, sl, rfl⟩
      have fo : ∀ {s''}, Ev c A env nm μ' ρ' σ' s'' → Fo c μ' (env :: l') s''.heap := fun z => by
        obtain ⟨l2, el2, f2⟩ := z.fo; rw [el] at el2; cases el2; exact f2
      obtain ⟨o1, e1, q1⟩ := k1 b o' n1 (nT hT1) e'
      obtain ⟨o2, e2, q2⟩ := k2 b o1 n1 (nT hT2) e1
      exact ⟨f1, o2, e2, lk.trans ((lik e' q1 (fo ev')).trans (lik e1 q2 (fo ev1)))⟩
end
end Mine
open PySem PySem.W PySem.Calls PyProof.Rows PySem.Spec
set_option linter.unusedVariables false
namespace Mine
section
variable {c : Cx} {A : Around} {env : Env} {nm : List (Str × Nat)} {μ μ' μ₁ μ₂ μ₀ : Mp} {ρ ρ' : List V} {σ σ' : Hp} {s s' : Shared} {h h' h₁ h₂ hb : Heap} {E : Value → Shared → Prop} {B : Nat} {X : XP} {e T : Addr}
theorem te_dict0 {pos : Pos} : TE c A env nm (.Dict [] [] pos) fun _ σ Q _ => pNew σ (.dict []) Q := fun ρ σ Q X h μ s ev Q' E hQ hX => by
  rw [eval_Dict_empty]
  refine wpAny_bind (wpAny_standAt ?_)
  unfold newDict
  refine wpAny_newObj_type ?_ (by size_fits)
  have k : ∀ b o, s.heap.get? b = some o → (s.heap.push { cls := .type "dict", data := .dict #[] }).get? b = some o := fun b o e => Heap.get?_push_of_some _ e
  have R := ev.rl.alloc ev.tb k (Nat.le_refl _) (Nat.le_refl _) (o := .dict []) ⟨rfl, ⟨_, Heap.get?_push_size _ rfl, rfl⟩, Nat.zero_le _, _, Heap.IntMap.new s.heap, Heap.DictLe.new s.heap, fun k => rfl⟩
  have S := Stp.alloc (c := c) ev.rl k (Nat.le_refl _) (Nat.le_refl _) (push_size_le s.heap _)
  exact hQ _ _ _ _ _ h (ev.step S R (ev.tb.keeps k) rfl ev.gn) S ⟨_, _, Mp.new_self .., rfl⟩
end
end Mine
open PySem PySem.W PySem.Calls PyProof.Rows PySem.Spec
set_option linter.unusedVariables false
namespace Mine
/-! the texts of the program in the small language -/
structure CC where
  sc : Scope
  nm : List (Str × Nat)
  ids : List Str
  gl : List (Str × Value)
  fns : List Addr
  lam : Option Str
def isStar : Expr → Bool
  | .Starred .. => true
  | _ => false
def swS (sc : Scope) (target value : Expr) : Option (Option (List Str)) := match target, value with
  | .Tuple ts _ _, .Tuple vs _ _ =>
    if (!(ts.length == 2 || ts.length == 3) || vs.length != ts.length || false) = true then some none else
    if (vs.any fun | .Starred .. => true | _ => false) = true then some none else
    let line := (ts.head?.map (·.pos.line)).getD 0
    let names := ts.filterMap fun
      | .Name id pos => if sc.names.lookup id == some .local && pos.line == line then some id else none
      | _ => none
    if (names.length != ts.length || names.eraseDups.length != names.length) = true then some none else
    if vs.all (foldedForSure 8) = true then some none else
    if vs.all (constantsAlone 8) = true then none else some (some names)
  | .List .., _ => none
  | _, _ => some none
theorem swS_eq {env : Env} {sc : Scope} (K : EOk env sc) {t v : Expr} {r : Option (List Str)} (h : swS sc t v = some r) : swappedStores [t] v env = pure r := by
  have kf : ∀ x, env.kindOf x = sc.names.lookup x := fun x => by unfold Env.kindOf; rw [K.se]
  have hb : (env.blockKind != ScopeKind.function) = false := by unfold Env.blockKind; rw [K.se, K.kd]; rfl
  unfold swS at h
  split at h
  · rename_i ts _ _ vs _ _
    unfold swappedStores
    simp only [hb, kf]
    dsimp only at h
    split at h
    · rename_i c1; cases h; exact (if_pos c1).trans rfl
    · rename_i c1
      refine (if_neg c1).trans ?_
      split at h
      · rename_i c2; cases h; exact (if_pos c2).trans rfl
      · rename_i c2
        refine (if_neg c2).trans ?_
        split at h
        · rename_i c3; cases h; exact (if_pos c3).trans rfl
        · rename_i c3
          refine (if_neg c3).trans ?_
          split at h
          · rename_i c4; cases h; exact (if_pos c4).trans rfl
          · rename_i c4
            refine (if_neg c4).trans ?_
            split at h
            · cases h
            · rename_i c5; cases h; exact (if_neg c5).trans rfl
  · cases h
  · rename_i h1 h2
    cases h
    unfold swappedStores
    cases t <;> first | rfl | (cases v <;> first | rfl | exact (h2 _ _ _ _ _ _ rfl rfl).elim | exact (h1 _ _ rfl).elim)
end Mine
open PySem PySem.W PySem.Calls PyProof.Rows PySem.Spec
set_option linter.unusedVariables false
namespace Mine
def mapEs (f : Expr → Option ME) : List Expr → Option MEs
  | [] => some .nil
  | e :: r => if noStar e then (f e).bind fun a => (mapEs f r).bind fun b => some (.cons a b) else none
def mapKs (f : Expr → Option ME) : List Keyword → Option MEs
  | [] => some .nil
  | ⟨some _, e, _⟩ :: r => (f e).bind fun a => (mapKs f r).bind fun b => some (.cons a b)
  | _ :: _ => none
/-- the parts of and / or, as a value -/
def mapBs (f : Expr → Option ME) : List Expr → Option MEs
  | [] => none
  | [e] => (f e).bind fun a => some (.cons a .nil)
  | e :: r => (f e).bind fun a => (mapBs f r).bind fun b => some (.cons a b)
def mapTs (f : Expr → Option MC) : List Expr → Option MCs
  | [] => some .nil
  | e :: r => (f e).bind fun a => (mapTs f r).bind fun b => some (.cons a b)
def mapO (f : Expr → Option ME) : Option Expr → Option MO
  | none => some .no
  | some e => (f e).bind fun a => some (.yes a)
def strEq (a b : Str) : Bool := a == b
def isDbg (x : Str) : Bool := x == ("__debug__" : Str) || x == ("__classdict__" : Str)
def slotK (cc : CC) (x : Str) : Bool := cc.sc.names.lookup x == some .local || cc.sc.names.lookup x == some .cell || cc.sc.names.lookup x == some .free
def globK (cc : CC) (x : Str) : Option Value := if isDbg x then none else if cc.sc.names.lookup x == some .globalImplicit then cc.gl.lookup x else none
def slotOf (cc : CC) (x : Str) : Option Nat := if isDbg x then none else if slotK cc x then cc.nm.lookup x else none
def idOf (ids : List Str) (x : Str) : Option Nat := ids.findIdx? (· == x)
def bfOf : Value → Option BF
  | .builtin "len" => some .len
  | .type "range" => some .range
  | .type "int" => some .int
  | .builtin "math.floor" => some .floor
  | _ => none
def isiOf : Value → Option BF
  | .type "bool" => some .isBool
  | .type "int" => some .isInt
  | _ => none
/-- a target: its names' slots -/
def tgtNames (cc : CC) (loc : Bool) : List Expr → Option (List Nat)
  | [] => some []
  | .Name x _ :: r => if isDbg x then none else if cc.sc.names.lookup x == some .local || (!loc && cc.sc.names.lookup x == some .cell) then (cc.nm.lookup x).bind fun i => (tgtNames cc loc r).bind fun is => some (i :: is) else none
  | _ :: _ => none
def cmpTgt (cc : CC) (loc : Bool) : Expr → Option MT
  | .Name x p => (tgtNames cc loc [.Name x p]).bind fun | [i] => some (.nm i) | _ => none
  | .Tuple es _ _ => (tgtNames cc loc es).bind fun is => some (.tp false is)
  | _ => none
def isEnum (cc : CC) : Expr → Bool
  | .Call (.Name x _) [_] [] _ => match globK cc x with | some (.type "enumerate") => true | _ => false
  | _ => false
def tgtFits (cc : CC) (target iter : Expr) : Bool := !isEnum cc iter || isTup target
def ownOf' (cc : CC) (scope : Scope) : List Nat := scope.names.filterMap fun (x, k) => if k == .local then cc.nm.lookup x else none
def freeOk (cc : CC) (scope : Scope) : Bool := scope.names.all fun (x, k) => k != .free || (cc.nm.lookup x).isSome
mutual
def cmpE (cc : CC) : Nat → Expr → Option ME
  | 0, _ => none
  | n + 1, e => match e with
    | .Constant .none _ _ => some (.cst .none)
    | .Constant (.bool b) _ _ => some (.cst (.bool b))
    | .Constant (.int i) _ _ => some (.cst (.int i))
    | .Constant (.str s) _ _ => some (.cst (.str s))
    | .Name x _ => match slotOf cc x with
      | some i => some (.loc i)
      | none => (globK cc x).bind fun v => some (.cst (ofVal v))
    | .BinOp a op b _ => (cmpE cc n a).bind fun a => (cmpE cc n b).bind fun b => some (.bin op a b)
    | .UnaryOp .USub a _ => (cmpE cc n a).bind fun a => some (.neg a)
    | .UnaryOp .Not a _ => (cmpE cc n a).bind fun a => some (.bnot a)
    | .BoolOp .And es _ => (mapBs (cmpE cc n) es).bind fun es => some (.bop true es)
    | .BoolOp .Or es _ => (mapBs (cmpE cc n) es).bind fun es => some (.bop false es)
    | .IfExp t a b _ => (cmpT cc n t).bind fun t => (cmpE cc n a).bind fun a => (cmpE cc n b).bind fun b => some (.ite t a b)
    | .Compare a [op] [b] _ => if behindInMarks op b then none else (cmpE cc n a).bind fun a => (cmpE cc n b).bind fun b => some (.cmp op a b)
    | .Compare a [o1, o2] [b, d] _ => if behindInMarks o2 d then none else (cmpE cc n a).bind fun a => (cmpE cc n b).bind fun b => (cmpE cc n d).bind fun d => some (.cmp2 a o1 b o2 d)
    | .Attribute o name _ => if noCall o then (cmpE cc n o).bind fun o => (idOf cc.ids name).bind fun id => some (.attr o id) else none
    | .Subscript o (.Slice lo hi st _) _ => (cmpE cc n o).bind fun o => (mapO (cmpE cc n) lo).bind fun lo => (mapO (cmpE cc n) hi).bind fun hi => (mapO (cmpE cc n) st).bind fun st => some (.slc o lo hi st)
    | .Subscript o i _ => (cmpE cc n o).bind fun o => (cmpE cc n i).bind fun i => some (.sub o i)
    | .List es _ => (mapEs (cmpE cc n) es).bind fun es => some (.list es)
    | .Tuple es _ _ => (mapEs (cmpE cc n) es).bind fun es => some (.tup es)
    | .Dict [] [] _ => some .dict0
    | .Lambda params body scope _ => match cc.lam with
      | some q => if plainArgs params && scope.names.all fun x => x.2 != .free then some (.lam ⟨q, params, body, scope⟩) else none
      | none => none
    | .ListComp elt (⟨target, iter, ifs, 0⟩ :: rest) scope _ =>
      if compOk cc.sc cc.nm (ownOf' cc scope) scope && freeOk cc scope && noSet iter && tgtFits cc target iter then
        (cmpI cc n iter).bind fun s => (cmpG { cc with sc := relS scope cc.sc, lam := none } n target ifs rest elt).bind fun g => some (.comp (ownOf' cc scope) s g)
      else none
    | .Call (.Name x _) args kws _ => match slotOf cc x with
      | some i => if kws.isEmpty then (mapEs (cmpE cc n) args).bind fun as => some (.lcall i as) else none
      | none => match globK cc x with
        | some (.ref f) => if cc.fns.contains f then (mapEs (cmpE cc n) args).bind fun as => (mapKs (cmpE cc n) kws).bind fun ks => some (.fcall f as (kws.filterMap (·.arg)) ks) else none
        | some (.builtin "isinstance") => match args, kws with
          | [e, .Name y _], [] => if noStar e then (globK cc y).bind fun v => (isiOf v).bind fun f => (cmpE cc n e).bind fun a => some (.isi f a) else none
          | _, _ => none
        | some v => if kws.isEmpty then (bfOf v).bind fun f => (mapEs (cmpE cc n) args).bind fun as => some (.bcall f as) else none
        | none => none
    | .Call (.Attribute o name apos) args kws pos =>
      if noCall o && decide (args.length + kws.length + 1 < 30) && (apos.endLine == pos.line) then
        if name == ("append" : Str) && kws.isEmpty then (cmpE cc n o).bind fun o => (mapEs (cmpE cc n) args).bind fun as => some (.bmeth o .append as)
        else (cmpE cc n o).bind fun o => (idOf cc.ids name).bind fun id => (mapEs (cmpE cc n) args).bind fun as => (mapKs (cmpE cc n) kws).bind fun ks => some (.meth o id as (kws.filterMap (·.arg)) ks)
      else none
    | _ => none
def cmpT (cc : CC) : Nat → Expr → Option MC
  | 0, _ => none
  | n + 1, e => match e with
    | .UnaryOp .Not a _ => (cmpT cc n a).bind fun a => some (.bnot a)
    | .BoolOp .And es _ => (mapTs (cmpT cc n) es).bind fun es => some (.bop true es)
    | .BoolOp .Or es _ => (mapTs (cmpT cc n) es).bind fun es => some (.bop false es)
    | .Compare a [op] [b] p => if behindInMarks op b then none else (cmpE cc n a).bind fun a => (cmpE cc n b).bind fun b => some (.ex (.cmp op a b))
    | .Compare a [o1, o2] [b, d] _ => if behindInMarks o2 d then none else (cmpE cc n a).bind fun a => (cmpE cc n b).bind fun b => (cmpE cc n d).bind fun d => some (.cmp2 a o1 b o2 d)
    | e => if plainT e then (cmpE cc n e).bind fun a => some (.ex a) else none
def cmpI (cc : CC) : Nat → Expr → Option MI
  | 0, _ => none
  | n + 1, e => if isEnum cc e then (match e with
      | .Call (.Name _ _) [a] [] _ => if noStar a then (cmpE cc n a).bind fun a => some (.enum a) else none
      | _ => none) else (cmpE cc n e).bind fun a => some (.it a)
def cmpG (cc : CC) : Nat → Expr → List Expr → List Comprehension → Expr → Option MG
  | 0, _, _, _, _ => none
  | n + 1, target, ifs, rest, elt => (cmpTgt cc true target).bind fun t => (mapTs (cmpT cc n) ifs).bind fun ts => match rest with
    | [] => (cmpE cc n elt).bind fun e => some (.last t ts e)
    | ⟨target2, iter2, ifs2, 0⟩ :: r => if noSet iter2 && tgtFits cc target2 iter2 then (cmpI cc n iter2).bind fun s => (cmpG cc n target2 ifs2 r elt).bind fun g => some (.more t ts s g) else none
    | _ => none
end
def excOf : Value → Option String
  | .type "TypeError" => some "TypeError"
  | .type "ValueError" => some "ValueError"
  | _ => none
def cmpHd (cc : CC) : List ExceptHandler → Option (List (String × V))
  | [] => some []
  | .ExceptHandler (some (.Name x _)) none [.Return (some (.Constant (.bool b) _ _)) _] _ :: r => (globK cc x).bind fun v => (excOf v).bind fun T => (cmpHd cc r).bind fun hs => some ((T, .bool b) :: hs)
  | .ExceptHandler (some (.Name x _)) none [.Return (some (.Constant (.str z) _ _)) _] _ :: r => (globK cc x).bind fun v => (excOf v).bind fun T => (cmpHd cc r).bind fun hs => some ((T, .str z) :: hs)
  | _ :: _ => none
def revNames (cc : CC) : List Str → Option (List Nat)
  | [] => some []
  | x :: r => if cc.sc.names.lookup x == some .local then (cc.nm.lookup x).bind fun i => (revNames cc r).bind fun is => some (i :: is) else none
mutual
def cmpS (cc : CC) : Nat → Stmt → Option MS
  | 0, _ => none
  | n + 1, st => match st with
    | .Pass _ => some .pass
    | .Break _ => some .brk
    | .Continue _ => some .cont
    | .Return none _ => some .retN
    | .Return (some e) _ => (cmpE cc n e).bind fun e => some (.ret e)
    | .Expr e _ => if noComp e then (cmpE cc n e).bind fun e => some (.expr e) else none
    | .Assign [.Attribute o name _] v _ => (cmpE cc n o).bind fun o => (idOf cc.ids name).bind fun id => (cmpE cc n v).bind fun v => some (.asgnA o id v)
    | .Assign [.Subscript o i _] v _ => (cmpE cc n o).bind fun o => (cmpE cc n i).bind fun i => (cmpE cc n v).bind fun v => some (.asgnS o i v)
    | .Assign [.Name x tp] (.ListComp elt gens scope vp) _ =>
      if cc.sc.names.lookup x == some .local && (tp.line == vp.line && !(scope.names.any fun (n, k) => n == x && (k == .local || k == .cell))) then
        (cmpTgt cc false (.Name x tp)).bind fun t => (cmpE cc n (.ListComp elt gens scope vp)).bind fun e => some (.asgn t e)
      else if cc.sc.names.lookup x == some .local && (tp.line == vp.line) then none else none
    | .Assign [target] v _ => if noComp v then (match swS cc.sc target v with
        | some none => (cmpTgt cc false target).bind fun t => (cmpE cc n v).bind fun e => some (.asgn t e)
        | some (some names) => (revNames cc names.reverse).bind fun is => (cmpE cc n v).bind fun e => some (.asgn (.tp true is.reverse) e)
        | none => none) else none
    | .AugAssign (.Name x _) op v _ => if isDbg x then none else if cc.sc.names.lookup x == some .local || cc.sc.names.lookup x == some .cell then (cc.nm.lookup x).bind fun i => (cmpE cc n v).bind fun v => some (.augN i op v) else none
    | .AugAssign (.Attribute o name _) op v _ => (cmpE cc n o).bind fun o => (idOf cc.ids name).bind fun id => (cmpE cc n v).bind fun v => some (.augA o id op v)
    | .If t a b _ => (cmpT cc n t).bind fun t => (cmpSs cc n a).bind fun a => (cmpSs cc n b).bind fun b => some (.ite t a b)
    | .For target iter body [] _ => if noSet iter && tgtFits cc target iter then (cmpTgt cc false target).bind fun t => (cmpI cc n iter).bind fun s => (cmpSs cc n body).bind fun b => some (.forr t s b) else none
    | .While t body [] _ => (cmpT cc n t).bind fun t => (cmpSs cc n body).bind fun b => some (.whl t b)
    | .Raise (some (.Call (.Name x _) [.BinOp (.Constant (.str _) _ _) .Add e _] [] _)) none _ => match globK cc x with
      | some (.type "TypeError") => (cmpE cc n e).bind fun e => some (.raz e)
      | _ => none
    | .Raise _ _ _ => some .dead
    | .Try body (h :: hs) [] [] _ => (cmpSs cc n body).bind fun b => (cmpHd cc (h :: hs)).bind fun hs => some (.tryR b hs)
    | _ => none
def cmpSs (cc : CC) : Nat → List Stmt → Option MSs
  | 0, _ => none
  | n + 1, ss => match ss with
    | [] => some .nil
    | s :: r => (cmpS cc n s).bind fun s => (cmpSs cc n r).bind fun r => some (.cons s r)
end
end Mine
open PySem PySem.W PySem.Calls PyProof.Rows PySem.Spec
set_option linter.unusedVariables false
namespace Mine
structure SH (c : Cx) (A : Around) (S : Sx) (Φ : Fn) (m : Nat) (env : Env) (cc : CC) : Prop where
  K : EOk env cc.sc
  hA : AB m A
  hS : AkOk c S
  hF : FS c Φ m
  hL : LS c Φ m
  Z : FrzOk c S
  ids : S.nms = cc.ids
  gl : ∀ x v, cc.gl.lookup x = some v → globIn c.K x = some v
  fns : ∀ f, f ∈ cc.fns → keepIn c.K (.ref f) = true
  kf : ∀ C id f, S.ak C id = .meth f → keepIn c.K (.ref f) = true
  lam : ∀ q, cc.lam = some q → ∃ t, TabHd c t ∧ env.code = .ref t.1 ∧ env.qual ++ "<lambda>" = t.2.2 ∧ t.2.2 = q
section
variable {c : Cx} {A : Around} {S : Sx} {Φ : Fn} {m : Nat} {env : Env} {cc : CC}
theorem globK_ok (H : SH c A S Φ m env cc) {x : Str} {v : Value} (h : globK cc x = some v) : globIn c.K x = some v ∧ cc.sc.names.lookup x = some .globalImplicit ∧ (x == ("__debug__" : Str)) = false := by
  unfold globK at h
  split at h
  · cases h
  · rename_i hd
    split at h
    · rename_i hk
      refine ⟨H.gl _ _ h, by simpa using hk, ?_⟩
      unfold isDbg at hd
      simp only [Bool.or_eq_true, not_or, Bool.not_eq_true] at hd
      exact hd.1
    · cases h
theorem slotOf_ok {x : Str} {i : Nat} (h : slotOf cc x = some i) : cc.nm.lookup x = some i ∧ (cc.sc.names.lookup x = some .local ∨ cc.sc.names.lookup x = some .cell ∨ cc.sc.names.lookup x = some .free) ∧ (x == ("__debug__" : Str)) = false ∧ (x == ("__classdict__" : Str)) = false := by
  unfold slotOf at h
  split at h
  · cases h
  · rename_i hd
    split at h
    · rename_i hk
      unfold isDbg at hd
      simp only [Bool.or_eq_true, not_or, Bool.not_eq_true] at hd
      refine ⟨h, ?_, hd⟩
      unfold slotK at hk
      simp only [Bool.or_eq_true, beq_iff_eq] at hk
      rcases hk with (hk | hk) | hk
      · exact .inl hk
      · exact .inr (.inl hk)
      · exact .inr (.inr hk)
    · cases h
theorem idOf_ok (H : SH c A S Φ m env cc) {x : Str} {i : Nat} (h : idOf cc.ids x = some i) : S.nms[i]? = some x := by
  unfold idOf at h
  obtain ⟨hl, h1, _⟩ := List.findIdx?_eq_some_iff_getElem.mp h
  rw [H.ids, List.getElem?_eq_getElem hl]
  congr 1
  simpa using h1
theorem mapEs_ok {f : Expr → Option ME} (hf : ∀ e me, f e = some me → TE c A env cc.nm e (wpE S Φ me)) : ∀ {es mes}, mapEs f es = some mes → es.all noStar = true ∧ (∀ pos, TL c A env cc.nm pos es (wpEs S Φ mes)) ∧ (es = [] → ∀ ρ σ Q X, wpEs S Φ mes ρ σ Q X → Q [] σ)
  | [], mes, h => by cases h; exact ⟨rfl, fun pos => tl_nil, fun _ ρ σ Q X z => z⟩
  | e :: r, mes, h => by
    unfold mapEs at h
    split at h
    · rename_i hs
      obtain ⟨a, ha, h⟩ := Option.bind_eq_some_iff.mp h
      obtain ⟨b, hb, h⟩ := Option.bind_eq_some_iff.mp h
      cases h
      obtain ⟨i1, i2, _⟩ := mapEs_ok hf hb
      exact ⟨by rw [List.all_cons, hs, i1]; rfl, fun pos => tl_cons hs (hf _ _ ha) (i2 pos), fun z => by cases z⟩
    · cases h
theorem mapKs_ok {f : Expr → Option ME} (hf : ∀ e me, f e = some me → TE c A env cc.nm e (wpE S Φ me)) : ∀ {ks mks}, mapKs f ks = some mks → ks.all (·.arg.isSome) = true ∧ ∀ pos, TK c A env cc.nm pos ks (wpEs S Φ mks)
  | [], mks, h => by cases h; exact ⟨rfl, fun pos => tk_nil⟩
  | ⟨none, e, p⟩ :: r, mks, h => by cases h
  | ⟨some a, e, p⟩ :: r, mks, h => by
    unfold mapKs at h
    obtain ⟨a', ha, h⟩ := Option.bind_eq_some_iff.mp h
    obtain ⟨b, hb, h⟩ := Option.bind_eq_some_iff.mp h
    cases h
    obtain ⟨i1, i2⟩ := mapKs_ok hf hb
    exact ⟨by rw [List.all_cons, i1]; rfl, fun pos => tk_cons (hf _ _ ha) (i2 pos)⟩
theorem mapBs_and {f : Expr → Option ME} (hf : ∀ e me, f e = some me → TE c A env cc.nm e (wpE S Φ me)) : ∀ {es mes}, mapBs f es = some mes → ∀ pos, TE c A env cc.nm (.BoolOp .And es pos) (wpB S Φ true mes)
  | [], mes, h, pos => by cases h
  | [e], mes, h, pos => by
    unfold mapBs at h
    obtain ⟨a, ha, h⟩ := Option.bind_eq_some_iff.mp h
    cases h
    exact te_bop1 (hf _ _ ha)
  | e :: e2 :: r, mes, h, pos => by
    unfold mapBs at h
    obtain ⟨a, ha, h⟩ := Option.bind_eq_some_iff.mp h
    obtain ⟨b, hb, h⟩ := Option.bind_eq_some_iff.mp h
    cases h
    have ih := mapBs_and hf hb pos
    cases b with
    | nil => unfold mapBs at hb; split at hb <;> simp_all [Option.bind_eq_some_iff]
    | cons b1 b2 => exact te_and (hf _ _ ha) ih
theorem mapBs_or {f : Expr → Option ME} (hf : ∀ e me, f e = some me → TE c A env cc.nm e (wpE S Φ me)) : ∀ {es mes}, mapBs f es = some mes → ∀ pos, TE c A env cc.nm (.BoolOp .Or es pos) (wpB S Φ false mes)
  | [], mes, h, pos => by cases h
  | [e], mes, h, pos => by
    unfold mapBs at h
    obtain ⟨a, ha, h⟩ := Option.bind_eq_some_iff.mp h
    cases h
    exact te_bop1 (hf _ _ ha)
  | e :: e2 :: r, mes, h, pos => by
    unfold mapBs at h
    obtain ⟨a, ha, h⟩ := Option.bind_eq_some_iff.mp h
    obtain ⟨b, hb, h⟩ := Option.bind_eq_some_iff.mp h
    cases h
    have ih := mapBs_or hf hb pos
    cases b with
    | nil => unfold mapBs at hb; split at hb <;> simp_all [Option.bind_eq_some_iff]
    | cons b1 b2 => exact te_or (hf _ _ ha) ih
theorem mapTs_and {f : Expr → Option MC} (hf : ∀ e me, f e = some me → TT c A env cc.nm e (wpT S Φ me)) : ∀ {es mes}, mapTs f es = some mes → TTs c A env cc.nm .And es (wpTs S Φ true mes)
  | [], mes, h => by cases h; exact tts_nil
  | e :: r, mes, h => by
    unfold mapTs at h
    obtain ⟨a, ha, h⟩ := Option.bind_eq_some_iff.mp h
    obtain ⟨b, hb, h⟩ := Option.bind_eq_some_iff.mp h
    cases h
    exact tts_and (hf _ _ ha) (mapTs_and hf hb)
theorem mapTs_or {f : Expr → Option MC} (hf : ∀ e me, f e = some me → TT c A env cc.nm e (wpT S Φ me)) : ∀ {es mes}, mapTs f es = some mes → TTs c A env cc.nm .Or es (wpTs S Φ false mes)
  | [], mes, h => by cases h; exact tts_nil
  | e :: r, mes, h => by
    unfold mapTs at h
    obtain ⟨a, ha, h⟩ := Option.bind_eq_some_iff.mp h
    obtain ⟨b, hb, h⟩ := Option.bind_eq_some_iff.mp h
    cases h
    exact tts_or (hf _ _ ha) (mapTs_or hf hb)
theorem mapTs_f {f : Expr → Option MC} (hf : ∀ e me, f e = some me → TT c A env cc.nm e (wpT S Φ me)) : ∀ {es mes}, mapTs f es = some mes → TF c A env cc.nm es (wpTs S Φ true mes)
  | [], mes, h => by cases h; exact tf_nil
  | e :: r, mes, h => by
    unfold mapTs at h
    obtain ⟨a, ha, h⟩ := Option.bind_eq_some_iff.mp h
    obtain ⟨b, hb, h⟩ := Option.bind_eq_some_iff.mp h
    cases h
    exact tf_cons (hf _ _ ha) (mapTs_f hf hb)
theorem mapO_ok {f : Expr → Option ME} (hf : ∀ e me, f e = some me → TE c A env cc.nm e (wpE S Φ me)) : ∀ {e me}, mapO f e = some me → TO c A env cc.nm e (wpO S Φ me)
  | none, me, h => by cases h; exact to_none
  | some e, me, h => by
    unfold mapO at h
    obtain ⟨a, ha, h⟩ := Option.bind_eq_some_iff.mp h
    cases h
    exact to_some (hf _ _ ha)
theorem tgtNames_ok {loc : Bool} {W : Addr → Prop} (hW : ∀ x b, (loc = true → cc.sc.names.lookup x = some .local) → StW env cc.sc x b → W b) : ∀ {es is}, tgtNames cc loc es = some is → StFs W env cc.sc cc.nm ((assignEach es env).map (·.2)) is ∧ (assignEach es env).findIdx? (·.1) = none
  | [], is, h => by cases h; exact ⟨.nil, rfl⟩
  | e :: r, is, h => by
    cases e <;> simp only [tgtNames, reduceCtorEq] at h
    rename_i x p
    split at h
    · cases h
    · split at h
      · rename_i hk
        obtain ⟨i, hi, h⟩ := Option.bind_eq_some_iff.mp h
        obtain ⟨is', his, h⟩ := Option.bind_eq_some_iff.mp h
        cases h
        obtain ⟨i1, i2⟩ := tgtNames_ok hW his
        simp only [Bool.or_eq_true, beq_iff_eq, Bool.and_eq_true, Bool.not_eq_true'] at hk
        refine ⟨.cons stF_assign hi (hk.imp id And.right) (fun b z => hW x b (fun hl => ?_) z) i1, ?_⟩
        · rcases hk with hk | hk
          · exact hk
          · rw [hl] at hk; cases hk.1
        · show List.findIdx? _ ((false, assign (.Name x p) env) :: assignEach r env) = none
          rw [List.findIdx?_cons, i2]; rfl
      · cases h
theorem cmpTgt_ok {loc : Bool} {W : Addr → Prop} (hW : ∀ x b, (loc = true → cc.sc.names.lookup x = some .local) → StW env cc.sc x b → W b) {target : Expr} {t : MT} (h : cmpTgt cc loc target = some t) : Tgt W env cc.sc cc.nm target t ∧ noStar target = true := by
  unfold cmpTgt at h
  split at h
  · rename_i x p
    obtain ⟨is, his, h⟩ := Option.bind_eq_some_iff.mp h
    obtain ⟨i1, i2⟩ := tgtNames_ok hW his
    split at h
    · cases h
      cases i1 with
      | cons a b d e f =>
        refine ⟨⟨⟨x, p, rfl, ?_⟩⟩, rfl⟩
        unfold tgtNames at his
        split at his
        · cases his
        · split at his
          · rename_i hk
            obtain ⟨i, hi, his⟩ := Option.bind_eq_some_iff.mp his
            simp only [tgtNames, Option.bind_some, Option.some.injEq, List.cons.injEq, and_true] at his
            subst his
            simp only [Bool.or_eq_true, beq_iff_eq, Bool.and_eq_true, Bool.not_eq_true'] at hk
            refine ⟨hi, hk.imp id And.right, fun b z => hW x b (fun hl => ?_) z⟩
            rcases hk with hk | hk
            · exact hk
            · rw [hl] at hk; cases hk.1
          · cases his
    · cases h
  · rename_i es k p
    obtain ⟨is, his, h⟩ := Option.bind_eq_some_iff.mp h
    obtain ⟨i1, i2⟩ := tgtNames_ok hW his
    cases h
    exact ⟨⟨rfl, es, k, p, rfl, i1, i2⟩, rfl⟩
  · cases h
end
end Mine
open PySem PySem.W PySem.Calls PyProof.Rows PySem.Spec
set_option linter.unusedVariables false
namespace Mine
section
variable {c : Cx} {A : Around} {S : Sx} {Φ : Fn} {m : Nat} {env : Env} {cc : CC}
/-- what is claimed of the compiled texts, with fuel k -/
structure CS (c : Cx) (A : Around) (S : Sx) (Φ : Fn) (m : Nat) (k : Nat) : Prop where
  E : ∀ env cc, SH c A S Φ m env cc → ∀ e me, cmpE cc k e = some me → TE c A env cc.nm e (wpE S Φ me)
  T : ∀ env cc, SH c A S Φ m env cc → ∀ e me, cmpT cc k e = some me → TT c A env cc.nm e (wpT S Φ me)
  I : ∀ env cc, SH c A S Φ m env cc → ∀ e me, cmpI cc k e = some me → TI c A env cc.nm (isEnum cc e) e (wpI S Φ me)
  G : ∀ env cc, SH c A S Φ m env cc → ∀ target ifs rest elt g, cmpG cc k target ifs rest elt = some g → ∀ B gens d scope pos iter, gens[d]? = some ⟨target, iter, ifs, 0⟩ → gens.drop (d + 1) = rest → TC c A env cc.nm B (.ListComp elt gens scope pos) d target (wpG S Φ g)
theorem fits_ok {target iter : Expr} (h : tgtFits cc target iter = true) : isEnum cc iter = true → isTup target = true := fun e => by
  unfold tgtFits at h; rw [e] at h; simpa using h
theorem cs_zero : CS c A S Φ m 0 := ⟨fun _ _ _ _ _ h => (by unfold cmpE at h; cases h), fun _ _ _ _ _ h => (by unfold cmpT at h; cases h), fun _ _ _ _ _ h => (by unfold cmpI at h; cases h), fun _ _ _ _ _ _ _ _ h => (by unfold cmpG at h; cases h)⟩
theorem cs_T {k : Nat} (IH : CS c A S Φ m k) : ∀ env cc, SH c A S Φ m env cc → ∀ e me, cmpT cc (k + 1) e = some me → TT c A env cc.nm e (wpT S Φ me) := by
  intro env cc H e me h
  have hE := IH.E env cc H
  have hT := IH.T env cc H
  unfold cmpT at h
  split at h
  · obtain ⟨a, ha, h⟩ := Option.bind_eq_some_iff.mp h
    cases h
    exact tt_not (hT _ _ ha)
  · obtain ⟨a, ha, h⟩ := Option.bind_eq_some_iff.mp h
    cases h
    exact tt_bop (mapTs_and hT ha)
  · obtain ⟨a, ha, h⟩ := Option.bind_eq_some_iff.mp h
    cases h
    exact tt_bop (mapTs_or hT ha)
  · split at h
    · cases h
    · rename_i hm
      obtain ⟨a, ha, h⟩ := Option.bind_eq_some_iff.mp h
      obtain ⟨b, hb, h⟩ := Option.bind_eq_some_iff.mp h
      cases h
      exact tt_cmp (hE _ _ ha) (hE _ _ hb) (by simpa using hm) (fun a b σ Q q ρ μ s ev ra rb h1 h2 Q' E hQ => cmp_ok H.hA.ok a b σ Q q ρ μ s ev ra rb h1 h2 Q' E hQ)
  · split at h
    · cases h
    · rename_i hm
      obtain ⟨a, ha, h⟩ := Option.bind_eq_some_iff.mp h
      obtain ⟨b, hb, h⟩ := Option.bind_eq_some_iff.mp h
      obtain ⟨d, hd, h⟩ := Option.bind_eq_some_iff.mp h
      cases h
      exact tt_cmp2 H.hA.ok (hE _ _ ha) (hE _ _ hb) (hE _ _ hd) (by simpa using hm)
  · split at h
    · rename_i hp
      obtain ⟨a, ha, h⟩ := Option.bind_eq_some_iff.mp h
      cases h
      exact tt_ex hp (hE _ _ ha)
    · cases h
theorem cs_I {k : Nat} (IH : CS c A S Φ m k) : ∀ env cc, SH c A S Φ m env cc → ∀ e me, cmpI cc (k + 1) e = some me → TI c A env cc.nm (isEnum cc e) e (wpI S Φ me) := by
  intro env cc H e me h
  have hE := IH.E env cc H
  unfold cmpI at h
  split at h
  · rename_i he
    rw [he]
    split at h
    · rename_i x p a pos
      split at h
      · rename_i hs
        obtain ⟨a', ha, h⟩ := Option.bind_eq_some_iff.mp h
        cases h
        unfold isEnum at he
        dsimp only at he
        split at he
        · rename_i hg
          obtain ⟨g1, g2, g3⟩ := globK_ok H hg
          exact ti_enum H.Z H.K g1 g2 g3 hs (hE _ _ ha)
        · cases he
      · cases h
    · cases h
  · rename_i he
    obtain ⟨a', ha, h⟩ := Option.bind_eq_some_iff.mp h
    cases h
    rw [Bool.not_eq_true] at he
    rw [he]
    exact ti_it H.Z (hE _ _ ha)
theorem cs_G {k : Nat} (IH : CS c A S Φ m k) : ∀ env cc, SH c A S Φ m env cc → ∀ target ifs rest elt g, cmpG cc (k + 1) target ifs rest elt = some g → ∀ B gens d scope pos iter, gens[d]? = some ⟨target, iter, ifs, 0⟩ → gens.drop (d + 1) = rest → TC c A env cc.nm B (.ListComp elt gens scope pos) d target (wpG S Φ g) := by
  intro env cc H target ifs rest elt g h B gens d scope pos iter hg hr
  have hE := IH.E env cc H
  have hT := IH.T env cc H
  unfold cmpG at h
  obtain ⟨t, ht, h⟩ := Option.bind_eq_some_iff.mp h
  obtain ⟨ts, hts, h⟩ := Option.bind_eq_some_iff.mp h
  have T := (cmpTgt_ok (env := env) (W := (· = env.locals)) (fun x b hl z => by
    rcases z with ⟨_, z⟩ | ⟨z, _⟩
    · exact z
    · rw [hl rfl] at z; cases z) ht).1
  split at h
  · obtain ⟨e, he, h⟩ := Option.bind_eq_some_iff.mp h
    cases h
    have hn : gens[d + 1]? = none := by
      have : gens.length ≤ d + 1 := by simpa using hr
      simpa using this
    exact tc_last H.hA.ok H.K hg hn T (mapTs_f hT hts) (hE _ _ he)
  · rename_i target2 iter2 ifs2 r _ _
    split at h
    · rename_i hc
      rw [Bool.and_eq_true] at hc
      obtain ⟨s, hs, h⟩ := Option.bind_eq_some_iff.mp h
      obtain ⟨g', hg', h⟩ := Option.bind_eq_some_iff.mp h
      cases h
      have hn : gens[d + 1]? = some ⟨target2, iter2, ifs2, 0⟩ := by
        have : (gens.drop (d + 1))[0]? = some ⟨target2, iter2, ifs2, 0⟩ := by rw [hr]; rfl
        simpa using this
      have hr' : gens.drop (d + 1 + 1) = r := by
        rw [← List.drop_drop, hr]; rfl
      exact tc_more H.hA.ok H.K hg hn T (mapTs_f hT hts) hc.1 (fits_ok hc.2) (IH.I env cc H _ _ hs) (IH.G env cc H _ _ _ _ _ hg' B gens (d + 1) scope pos iter2 hn hr')
    · cases h
  · cases h
end
end Mine
open PySem PySem.W PySem.Calls PyProof.Rows PySem.Spec
set_option linter.unusedVariables false
namespace Mine
section
variable {c : Cx} {A : Around} {S : Sx} {Φ : Fn} {m : Nat} {env : Env} {cc : CC}
theorem cs_name (H : SH c A S Φ m env cc) {k : Nat} {x : Str} {p : Pos} {me : ME} (h : cmpE cc (k + 1) (.Name x p) = some me) : TE c A env cc.nm (.Name x p) (wpE S Φ me) := by
  unfold cmpE at h; (try dsimp only at h)
  split at h
  · rename_i i hi
    cases h
    obtain ⟨h1, h2, h3, h4⟩ := slotOf_ok hi
    exact te_loc H.K h1 h2 h3 h4
  · obtain ⟨v, hv, h⟩ := Option.bind_eq_some_iff.mp h
    cases h
    obtain ⟨h1, h2, h3⟩ := globK_ok H hv
    exact te_glob H.K h1 h2 h3
theorem cs_call {k : Nat} (IH : CS c A S Φ m k) (H : SH c A S Φ m env cc) {x : Str} {p pos : Pos} {args : List Expr} {kws : List Keyword} {me : ME} (h : cmpE cc (k + 1) (.Call (.Name x p) args kws pos) = some me) :
    TE c A env cc.nm (.Call (.Name x p) args kws pos) (wpE S Φ me) := by
  have hE := IH.E env cc H
  unfold cmpE at h; (try dsimp only at h)
  split at h
  · rename_i i hi
    split at h
    · rename_i hk
      obtain ⟨as, ha, h⟩ := Option.bind_eq_some_iff.mp h
      cases h
      obtain ⟨i1, i2, i3⟩ := mapEs_ok hE ha
      obtain ⟨h1, h2, h3, h4⟩ := slotOf_ok hi
      have : kws = [] := by simpa using hk
      subst this
      exact te_lcall (i := i) H.hA.ok H.hL (te_loc (pos := p) H.K h1 h2 h3 h4) (i2 pos) i1 i3
    · cases h
  · split at h
    · rename_i f hf
      split at h
      · rename_i hc
        obtain ⟨as, ha, h⟩ := Option.bind_eq_some_iff.mp h
        obtain ⟨ks, hks, h⟩ := Option.bind_eq_some_iff.mp h
        cases h
        obtain ⟨i1, i2, i3⟩ := mapEs_ok hE ha
        obtain ⟨j1, j2⟩ := mapKs_ok hE hks
        obtain ⟨h1, h2, h3⟩ := globK_ok H hf
        exact te_fcall H.hA.ok H.hF H.K h1 h2 h3 (H.fns f (by simpa using hc)) (i2 pos) (j2 pos) i1 j1 i3
      · cases h
    · rename_i hf
      obtain ⟨h1, h2, h3⟩ := globK_ok H hf
      split at h
      · rename_i e y yp
        split at h
        · rename_i hs
          obtain ⟨v, hv, h⟩ := Option.bind_eq_some_iff.mp h
          obtain ⟨f, hf', h⟩ := Option.bind_eq_some_iff.mp h
          obtain ⟨a, ha, h⟩ := Option.bind_eq_some_iff.mp h
          cases h
          obtain ⟨g1, g2, g3⟩ := globK_ok H hv
          unfold isiOf at hf'
          split at hf'
          · cases hf'; exact te_isi (T := "bool") rfl H.K h1 h2 h3 g1 g2 g3 (hE _ _ ha) hs
          · cases hf'; exact te_isi (T := "int") rfl H.K h1 h2 h3 g1 g2 g3 (hE _ _ ha) hs
          · cases hf'
        · cases h
      · cases h
    · rename_i v _ _ hf
      obtain ⟨h1, h2, h3⟩ := globK_ok H hf
      split at h
      · rename_i hk
        have : kws = [] := by simpa using hk
        subst this
        obtain ⟨f, hf', h⟩ := Option.bind_eq_some_iff.mp h
        obtain ⟨as, ha, h⟩ := Option.bind_eq_some_iff.mp h
        cases h
        obtain ⟨i1, i2, i3⟩ := mapEs_ok hE ha
        unfold bfOf at hf'
        split at hf'
        · cases hf'; exact te_bcall H.K h1 h2 h3 (.inl ⟨_, rfl⟩) (i2 pos) i1 i3 (fun vs σ Q q ρ μ s ev rs hr Q' E hQ => len_ok H.Z vs σ Q q ρ μ s ev rs hr Q' E hQ)
        · cases hf'; exact te_bcall H.K h1 h2 h3 (.inr ⟨_, rfl⟩) (i2 pos) i1 i3 (fun vs σ Q q ρ μ s ev rs hr Q' E hQ => range_ok vs σ Q q ρ μ s ev rs hr Q' E hQ)
        · cases hf'; exact te_bcall H.K h1 h2 h3 (.inr ⟨_, rfl⟩) (i2 pos) i1 i3 (fun vs σ Q q ρ μ s ev rs hr Q' E hQ => int_ok vs σ Q q ρ μ s ev rs hr Q' E hQ)
        · cases hf'; exact te_bcall H.K h1 h2 h3 (.inl ⟨_, rfl⟩) (i2 pos) i1 i3 (fun vs σ Q q ρ μ s ev rs hr Q' E hQ => floor_ok H.hA.ok vs σ Q q ρ μ s ev rs hr Q' E hQ)
        · cases hf'
      · cases h
    · cases h
theorem cs_meth {k : Nat} (IH : CS c A S Φ m k) (H : SH c A S Φ m env cc) {o : Expr} {name : Str} {apos pos : Pos} {args : List Expr} {kws : List Keyword} {me : ME} (h : cmpE cc (k + 1) (.Call (.Attribute o name apos) args kws pos) = some me) :
    TE c A env cc.nm (.Call (.Attribute o name apos) args kws pos) (wpE S Φ me) := by
  have hE := IH.E env cc H
  unfold cmpE at h; (try dsimp only at h)
  split at h
  · rename_i hc
    simp only [Bool.and_eq_true, decide_eq_true_eq] at hc
    obtain ⟨⟨h1, h2⟩, h3⟩ := hc
    split at h
    · rename_i hn
      simp only [Bool.and_eq_true, beq_iff_eq, List.isEmpty_iff] at hn
      obtain ⟨rfl, rfl⟩ := hn
      obtain ⟨o', ho, h⟩ := Option.bind_eq_some_iff.mp h
      obtain ⟨as, ha, h⟩ := Option.bind_eq_some_iff.mp h
      cases h
      obtain ⟨i1, i2, i3⟩ := mapEs_ok hE ha
      exact te_append H.hA h1 (by simpa using h2) h3 (hE _ _ ho) (i2 pos) i1 i3
    · obtain ⟨o', ho, h⟩ := Option.bind_eq_some_iff.mp h
      obtain ⟨id, hid, h⟩ := Option.bind_eq_some_iff.mp h
      obtain ⟨as, ha, h⟩ := Option.bind_eq_some_iff.mp h
      obtain ⟨ks, hks, h⟩ := Option.bind_eq_some_iff.mp h
      cases h
      obtain ⟨i1, i2, i3⟩ := mapEs_ok hE ha
      obtain ⟨j1, j2⟩ := mapKs_ok hE hks
      exact te_meth H.hA H.hS H.hF H.kf h1 (idOf_ok H hid) h2 h3 (hE _ _ ho) (i2 pos) (j2 pos) i1 j1 i3
  · cases h
theorem cs_comp {k : Nat} (IH : CS c A S Φ m k) (H : SH c A S Φ m env cc) {elt target iter : Expr} {ifs : List Expr} {rest : List Comprehension} {scope : Scope} {pos : Pos} {s : MI} {g : MG}
    (hc : (compOk cc.sc cc.nm (ownOf' cc scope) scope && freeOk cc scope && noSet iter && tgtFits cc target iter) = true) (hs : cmpI cc k iter = some s) (hg : cmpG { cc with sc := relS scope cc.sc, lam := none } k target ifs rest elt = some g) :
    (compOk cc.sc cc.nm (ownOf' cc scope) scope = true) ∧ (∀ x, (x, NameKind.free) ∈ scope.names → ∃ i, cc.nm.lookup x = some i) ∧ noSet iter = true ∧ (isEnum cc iter = true → isTup target = true) ∧ TI c A env cc.nm (isEnum cc iter) iter (wpI S Φ s) ∧
      ∀ B cenv, EOk cenv (relS scope cc.sc) → TC c A cenv cc.nm B (.ListComp elt (⟨target, iter, ifs, 0⟩ :: rest) scope pos) 0 target (wpG S Φ g) := by
  simp only [Bool.and_eq_true] at hc
  obtain ⟨⟨⟨c1, c2⟩, c3⟩, c4⟩ := hc
  refine ⟨c1, fun x hx => ?_, c3, fits_ok c4, IH.I env cc H _ _ hs, fun B cenv K => ?_⟩
  · unfold freeOk at c2
    rw [List.all_eq_true] at c2
    have := c2 _ hx
    simp only [bne_self_eq_false, Bool.false_or] at this
    exact Option.isSome_iff_exists.mp this
  · exact IH.G cenv { cc with sc := relS scope cc.sc, lam := none } ⟨K, H.hA, H.hS, H.hF, H.hL, H.Z, H.ids, H.gl, H.fns, H.kf, fun q hq => by cases hq⟩ target ifs rest elt g hg B _ 0 scope pos iter rfl rfl
theorem cs_E {k : Nat} (IH : CS c A S Φ m k) : ∀ env cc, SH c A S Φ m env cc → ∀ e me, cmpE cc (k + 1) e = some me → TE c A env cc.nm e (wpE S Φ me) := by
  intro env cc H e me h
  have hE := IH.E env cc H
  have hT := IH.T env cc H
  cases e with
  | Name x p => exact cs_name H h
  | Call f args kws pos => cases f <;> first | exact cs_call IH H h | exact cs_meth IH H h | (unfold cmpE at h; (try dsimp only at h); cases h)
  | Constant v q pos => cases v <;> (unfold cmpE at h; (try dsimp only at h); first | (cases h; done) | (cases h; first | exact te_none | exact te_bool | exact te_int | exact te_str))
  | BinOp a op b pos =>
    unfold cmpE at h; (try dsimp only at h)
    obtain ⟨a', ha, h⟩ := Option.bind_eq_some_iff.mp h
    obtain ⟨b', hb, h⟩ := Option.bind_eq_some_iff.mp h
    cases h
    exact te_bin (hE _ _ ha) (hE _ _ hb) (fun a b σ Q q ρ μ s ev ra rb h1 h2 Q' E hQ => binop_ok H.Z H.hA.ok a b σ Q q ρ μ s ev ra rb h1 h2 Q' E hQ)
  | UnaryOp op a pos =>
    cases op <;> (unfold cmpE at h; (try dsimp only at h); first | (cases h; done) | (obtain ⟨a', ha, h⟩ := Option.bind_eq_some_iff.mp h; cases h; first | exact te_neg (hE _ _ ha) | exact te_not (hE _ _ ha)))
  | BoolOp op es pos =>
    cases op <;> (unfold cmpE at h; (try dsimp only at h); obtain ⟨a', ha, h⟩ := Option.bind_eq_some_iff.mp h; cases h; first | exact mapBs_and hE ha pos | exact mapBs_or hE ha pos)
  | IfExp t a b pos =>
    unfold cmpE at h; (try dsimp only at h)
    obtain ⟨t', ht, h⟩ := Option.bind_eq_some_iff.mp h
    obtain ⟨a', ha, h⟩ := Option.bind_eq_some_iff.mp h
    obtain ⟨b', hb, h⟩ := Option.bind_eq_some_iff.mp h
    cases h
    exact te_ite (hT _ _ ht) (hE _ _ ha) (hE _ _ hb)
  | Compare a ops bs pos =>
    rcases ops with _ | ⟨o1, _ | ⟨o2, _ | ⟨o3, os⟩⟩⟩ <;> rcases bs with _ | ⟨b1, _ | ⟨b2, _ | ⟨b3, bs⟩⟩⟩ <;> (unfold cmpE at h; (try dsimp only at h)) <;> try (cases h; done)
    · split at h
      · cases h
      · rename_i hm
        obtain ⟨a', ha, h⟩ := Option.bind_eq_some_iff.mp h
        obtain ⟨b', hb, h⟩ := Option.bind_eq_some_iff.mp h
        cases h
        exact te_cmp (hE _ _ ha) (hE _ _ hb) (by simpa using hm) (fun a b σ Q q ρ μ s ev ra rb h1 h2 Q' E hQ => cmp_ok H.hA.ok a b σ Q q ρ μ s ev ra rb h1 h2 Q' E hQ)
    · split at h
      · cases h
      · rename_i hm
        obtain ⟨a', ha, h⟩ := Option.bind_eq_some_iff.mp h
        obtain ⟨b', hb, h⟩ := Option.bind_eq_some_iff.mp h
        obtain ⟨d', hd, h⟩ := Option.bind_eq_some_iff.mp h
        cases h
        exact te_cmp2 H.hA.ok (hE _ _ ha) (hE _ _ hb) (hE _ _ hd) (by simpa using hm)
  | Attribute o name pos =>
    unfold cmpE at h; (try dsimp only at h)
    split at h
    · rename_i hn
      obtain ⟨o', ho, h⟩ := Option.bind_eq_some_iff.mp h
      obtain ⟨id, hid, h⟩ := Option.bind_eq_some_iff.mp h
      cases h
      exact te_attr H.hA H.hS H.hF hn (idOf_ok H hid) (hE _ _ ho)
    · cases h
  | Subscript o i pos =>
    cases i with
    | Slice lo hi st sp =>
      unfold cmpE at h; (try dsimp only at h)
      obtain ⟨o', ho, h⟩ := Option.bind_eq_some_iff.mp h
      obtain ⟨l', hl, h⟩ := Option.bind_eq_some_iff.mp h
      obtain ⟨u', hu, h⟩ := Option.bind_eq_some_iff.mp h
      obtain ⟨s', hs, h⟩ := Option.bind_eq_some_iff.mp h
      cases h
      exact te_slc H.Z (hE _ _ ho) (mapO_ok hE hl) (mapO_ok hE hu) (mapO_ok hE hs)
    | _ =>
      unfold cmpE at h; (try dsimp only at h)
      obtain ⟨o', ho, h⟩ := Option.bind_eq_some_iff.mp h
      obtain ⟨i', hi, h⟩ := Option.bind_eq_some_iff.mp h
      cases h
      exact te_sub H.Z (hE _ _ ho) (hE _ _ hi)
  | List es pos =>
    unfold cmpE at h; (try dsimp only at h)
    obtain ⟨a', ha, h⟩ := Option.bind_eq_some_iff.mp h
    cases h
    exact te_list ((mapEs_ok hE ha).2.1 pos)
  | Tuple es q pos =>
    unfold cmpE at h; (try dsimp only at h)
    obtain ⟨a', ha, h⟩ := Option.bind_eq_some_iff.mp h
    cases h
    exact te_tup ((mapEs_ok hE ha).2.1 pos)
  | Dict ks vs pos => cases ks <;> cases vs <;> (unfold cmpE at h; (try dsimp only at h); first | (cases h; done) | (cases h; exact te_dict0))
  | Lambda params body scope pos =>
    unfold cmpE at h; (try dsimp only at h)
    split at h
    · rename_i q hq
      split at h
      · rename_i hc
        cases h
        rw [Bool.and_eq_true, List.all_eq_true] at hc
        obtain ⟨t, t1, t2, t3, t4⟩ := H.lam q hq
        subst t4
        exact te_lam t1 H.K t2 t3 hc.1 (fun x hx => by simpa using hc.2 x hx)
      · cases h
    · cases h
  | ListComp elt gens scope pos =>
    unfold cmpE at h; (try dsimp only at h)
    split at h <;> (try (cases h; done)) <;> (try (rename_i q; cases q; done)) <;> rename_i q
    all_goals (first | cases q | skip)
    split at h
    · rename_i hc
      obtain ⟨s, hs, h⟩ := Option.bind_eq_some_iff.mp h
      obtain ⟨g, hg, h⟩ := Option.bind_eq_some_iff.mp h
      cases h
      obtain ⟨c1, c2, c3, c4, c5, c6⟩ := cs_comp IH H (pos := pos) hc hs hg
      exact te_comp H.K c1 c2 c3 c4 c5 c6
    · cases h
  | _ => unfold cmpE at h; (try dsimp only at h); cases h
end
end Mine
open PySem PySem.W PySem.Calls PyProof.Rows PySem.Spec
set_option linter.unusedVariables false
namespace Mine
section
variable {c : Cx} {A : Around} {S : Sx} {Φ : Fn} {m : Nat} {env : Env} {cc : CC}
theorem cs_all : ∀ k, CS c A S Φ m k
  | 0 => cs_zero
  | k + 1 => have IH := cs_all k; ⟨cs_E IH, cs_T IH, cs_I IH, cs_G IH⟩
structure SHs (c : Cx) (A : Around) (S : Sx) (Φ : Fn) (m : Nat) (env : Env) (cc : CC) : Prop extends SH c A S Φ m env cc where
  hfe : ∀ l, A.frames = some l → ∃ l', l = env :: l'
  hff : env.frame = some env.locals
theorem exc_ok {v : Value} {T : String} (h : excOf v = some T) : v = .type T ∧ exT T := by
  unfold excOf at h
  split at h
  · cases h; exact ⟨rfl, by simp [exT]⟩
  · cases h; exact ⟨rfl, by simp [exT]⟩
  · cases h
theorem cmpHd_ok (H : SH c A S Φ m env cc) : ∀ {hs ms}, cmpHd cc hs = some ms → HdOk c env cc.sc cc.nm hs ms ∧ ∀ x v, ms.lookup x = some v → ok v ∧ exT x
  | [], ms, h => by unfold cmpHd at h; cases h; exact ⟨.nil, fun x v h => by simp at h⟩
  | hd :: r, ms, h => by
    have fin : ∀ {ms' : List (String × V)} {T : String} {w : V}, exT T → ok w → (∀ x v, ms'.lookup x = some v → ok v ∧ exT x) → ∀ x v, ((T, w) :: ms').lookup x = some v → ok v ∧ exT x := fun {ms' T w} hT hw hm x v e => by
      rw [List.lookup_cons] at e
      split at e
      · rename_i q; cases e; rw [beq_iff_eq] at q; subst q; exact ⟨hw, hT⟩
      · exact hm x v e
    unfold cmpHd at h
    split at h
    · rename_i e; cases e
    · rename_i e
      cases e
      obtain ⟨v, hv, h⟩ := Option.bind_eq_some_iff.mp h
      obtain ⟨T, hT, h⟩ := Option.bind_eq_some_iff.mp h
      obtain ⟨hs', hh, h⟩ := Option.bind_eq_some_iff.mp h
      cases h
      obtain ⟨g1, g2, g3⟩ := globK_ok H hv
      obtain ⟨rfl, e2⟩ := exc_ok hT
      obtain ⟨i1, i2⟩ := cmpHd_ok H hh
      exact ⟨.cons g1 e2 g2 g3 (.inl ⟨_, _, _, rfl, rfl⟩) i1, fin e2 trivial i2⟩
    · rename_i e
      cases e
      obtain ⟨v, hv, h⟩ := Option.bind_eq_some_iff.mp h
      obtain ⟨T, hT, h⟩ := Option.bind_eq_some_iff.mp h
      obtain ⟨hs', hh, h⟩ := Option.bind_eq_some_iff.mp h
      cases h
      obtain ⟨g1, g2, g3⟩ := globK_ok H hv
      obtain ⟨rfl, e2⟩ := exc_ok hT
      obtain ⟨i1, i2⟩ := cmpHd_ok H hh
      exact ⟨.cons g1 e2 g2 g3 (.inr ⟨_, _, _, rfl, rfl⟩) i1, fin e2 trivial i2⟩
    · cases h
theorem revNames_ok {W : Addr → Prop} (hW : ∀ x b, StW env cc.sc x b → W b) : ∀ {xs is}, revNames cc xs = some is → StFs W env cc.sc cc.nm (xs.map fun n => bindName env n) is
  | [], is, h => by cases h; exact .nil
  | x :: r, is, h => by
    unfold revNames at h
    split at h
    · rename_i hk
      obtain ⟨i, hi, h⟩ := Option.bind_eq_some_iff.mp h
      obtain ⟨is', his, h⟩ := Option.bind_eq_some_iff.mp h
      cases h
      exact .cons stF_bind hi (.inl (by simpa using hk)) (fun b z => hW x b z) (revNames_ok hW his)
    · cases h
/-- what is claimed of the statements' texts, with fuel k -/
structure CT (c : Cx) (A : Around) (S : Sx) (Φ : Fn) (m : Nat) (k : Nat) : Prop where
  st : ∀ env cc, SHs c A S Φ m env cc → ∀ B st ms, cmpS cc k st = some ms → TS c A env cc.nm B (exec st env) (wpS S Φ ms)
  ss : ∀ env cc, SHs c A S Φ m env cc → ∀ B st ms, cmpSs cc k st = some ms → TSs c A env cc.nm B st (wpSs S Φ ms)
theorem ct_Ss {k : Nat} (IH : CT c A S Φ m k) : ∀ env cc, SHs c A S Φ m env cc → ∀ B st ms, cmpSs cc (k + 1) st = some ms → TSs c A env cc.nm B st (wpSs S Φ ms) := by
  intro env cc H B st ms h
  unfold cmpSs at h
  split at h
  · cases h; exact tss_nil
  · obtain ⟨a, ha, h⟩ := Option.bind_eq_some_iff.mp h
    obtain ⟨b, hb, h⟩ := Option.bind_eq_some_iff.mp h
    cases h
    exact tss_cons (IH.st env cc H B _ _ ha) (IH.ss env cc H B _ _ hb)
theorem ct_asgn1 {k : Nat} (H : SHs c A S Φ m env cc) {B : Nat} {target v : Expr} {pos : Pos} {ms : MS}
    (h : (if noComp v then (match swS cc.sc target v with
        | some none => (cmpTgt cc false target).bind fun t => (cmpE cc k v).bind fun e => some (.asgn t e)
        | some (some names) => (revNames cc names.reverse).bind fun is => (cmpE cc k v).bind fun e => some (.asgn (.tp true is.reverse) e)
        | none => none) else none) = some ms) : TS c A env cc.nm B (exec (.Assign [target] v pos) env) (wpS S Φ ms) := by
  have hE := (cs_all (c := c) (A := A) (S := S) (Φ := Φ) (m := m) k).E env cc H.toSH
  split at h
  · rename_i hn
    split at h
    · rename_i hs
      obtain ⟨t, ht, h⟩ := Option.bind_eq_some_iff.mp h
      obtain ⟨e, he, h⟩ := Option.bind_eq_some_iff.mp h
      cases h
      obtain ⟨t1, t2⟩ := cmpTgt_ok (env := env) (W := Wr env) (fun x b _ z => z.wr) ht
      exact ts_asgn H.hA.ok H.K t1 (hE _ _ he) t2 (swapsSole_no hn _) (swS_eq H.K hs)
    · rename_i names hs
      obtain ⟨is, ht, h⟩ := Option.bind_eq_some_iff.mp h
      obtain ⟨e, he, h⟩ := Option.bind_eq_some_iff.mp h
      cases h
      have hf := revNames_ok (env := env) (W := Wr env) (fun x b z => z.wr) ht
      exact ts_asgnR H.hA.ok H.K (is := is.reverse) (by rw [List.reverse_reverse]; exact hf) (hE _ _ he) (swapsSole_no hn _) (swS_eq H.K hs)
    · cases h
  · cases h
theorem ct_asgnC {k : Nat} (H : SHs c A S Φ m env cc) {B : Nat} {x : Str} {tp vp pos : Pos} {elt : Expr} {gens : List Comprehension} {scope : Scope} {ms : MS}
    (hk : cc.sc.names.lookup x = some .local) (hsw : (tp.line == vp.line && !(scope.names.any fun (n, k) => n == x && (k == .local || k == .cell))) = true)
    {t : MT} {e : ME} (ht : cmpTgt cc false (.Name x tp) = some t) (he : cmpE cc k (.ListComp elt gens scope vp) = some e) : TS c A env cc.nm B (exec (.Assign [.Name x tp] (.ListComp elt gens scope vp) pos) env) (wpS S Φ (.asgn t e)) := by
  cases k with
  | zero => unfold cmpE at he; cases he
  | succ k =>
    have IH := cs_all (c := c) (A := A) (S := S) (Φ := Φ) (m := m) k
    unfold cmpE at he; (try dsimp only at he)
    split at he <;> (try (cases he; done)) <;> (try (rename_i q; cases q; done)) <;> rename_i q
    all_goals (first | cases q | skip)
    split at he
    · rename_i hc
      obtain ⟨s, hs, he⟩ := Option.bind_eq_some_iff.mp he
      obtain ⟨g, hg, he⟩ := Option.bind_eq_some_iff.mp he
      cases he
      obtain ⟨c1, c2, c3, c4, c5, c6⟩ := cs_comp IH H.toSH (pos := vp) hc hs hg
      unfold cmpTgt at ht
      obtain ⟨is, his, ht⟩ := Option.bind_eq_some_iff.mp ht
      unfold tgtNames at his
      split at his
      · cases his
      · split at his
        · obtain ⟨i, hi, his⟩ := Option.bind_eq_some_iff.mp his
          simp only [tgtNames, Option.bind_some, Option.some.injEq] at his
          subst his
          cases ht
          exact ts_asgnC H.hA.ok H.K hi hk c1 c2 c3 c4 c5 c6 hsw
        · cases his
    · cases he
end
end Mine
open PySem PySem.W PySem.Calls PyProof.Rows PySem.Spec
set_option linter.unusedVariables false
namespace Mine
section
variable {c : Cx} {A : Around} {S : Sx} {Φ : Fn} {m : Nat} {env : Env} {cc : CC}
theorem ct_S {k : Nat} (IH : CT c A S Φ m k) : ∀ env cc, SHs c A S Φ m env cc → ∀ B st ms, cmpS cc (k + 1) st = some ms → TS c A env cc.nm B (exec st env) (wpS S Φ ms) := by
  intro env cc H B st ms h
  have CE := (cs_all (c := c) (A := A) (S := S) (Φ := Φ) (m := m) k)
  have hE := CE.E env cc H.toSH
  have hT := CE.T env cc H.toSH
  have hS := IH.st env cc H B
  have hSs := IH.ss env cc H B
  cases st with
  | Pass pos => unfold cmpS at h; cases h; exact ts_pass
  | Break pos => unfold cmpS at h; cases h; exact ts_brk
  | Continue pos => unfold cmpS at h; cases h; exact ts_cont
  | Return e pos =>
    cases e with
    | none => unfold cmpS at h; cases h; exact ts_retN
    | some e =>
      unfold cmpS at h; (try dsimp only at h)
      obtain ⟨a, ha, h⟩ := Option.bind_eq_some_iff.mp h
      cases h
      exact ts_ret (hE _ _ ha)
  | Expr e pos =>
    unfold cmpS at h; (try dsimp only at h)
    split at h
    · rename_i hn
      obtain ⟨a, ha, h⟩ := Option.bind_eq_some_iff.mp h
      cases h
      refine ts_expr H.K (fun a b s d => ⟨?_, ?_, fun k => ?_⟩) (hE _ _ ha) <;> (intro e; subst e; cases hn)
    · cases h
  | If t a b pos =>
    unfold cmpS at h; (try dsimp only at h)
    obtain ⟨t', ht, h⟩ := Option.bind_eq_some_iff.mp h
    obtain ⟨a', ha, h⟩ := Option.bind_eq_some_iff.mp h
    obtain ⟨b', hb, h⟩ := Option.bind_eq_some_iff.mp h
    cases h
    exact ts_if (hT _ _ ht) (hSs _ _ ha) (hSs _ _ hb)
  | For target iter body orelse pos =>
    cases orelse with
    | cons _ _ => unfold cmpS at h; (try dsimp only at h); cases h
    | nil =>
      unfold cmpS at h; (try dsimp only at h)
      split at h
      · rename_i hc
        rw [Bool.and_eq_true] at hc
        obtain ⟨t', ht, h⟩ := Option.bind_eq_some_iff.mp h
        obtain ⟨s', hs, h⟩ := Option.bind_eq_some_iff.mp h
        obtain ⟨b', hb, h⟩ := Option.bind_eq_some_iff.mp h
        cases h
        obtain ⟨t1, t2⟩ := cmpTgt_ok (env := env) (W := Wr env) (fun x b _ z => z.wr) ht
        exact ts_for H.hA.ok H.K t1 hc.1 (fits_ok hc.2) (CE.I env cc H.toSH _ _ hs) (hSs _ _ hb)
      · cases h
  | While t body orelse pos =>
    cases orelse with
    | cons _ _ => unfold cmpS at h; (try dsimp only at h); cases h
    | nil =>
      unfold cmpS at h; (try dsimp only at h)
      obtain ⟨t', ht, h⟩ := Option.bind_eq_some_iff.mp h
      obtain ⟨b', hb, h⟩ := Option.bind_eq_some_iff.mp h
      cases h
      exact ts_while (hT _ _ ht) (hSs _ _ hb)
  | AugAssign t op v pos =>
    cases t with
    | Name x p =>
      unfold cmpS at h; (try dsimp only at h)
      split at h
      · cases h
      · rename_i hd
        split at h
        · rename_i hk
          obtain ⟨i, hi, h⟩ := Option.bind_eq_some_iff.mp h
          obtain ⟨v', hv, h⟩ := Option.bind_eq_some_iff.mp h
          cases h
          unfold isDbg at hd
          simp only [Bool.or_eq_true, not_or, Bool.not_eq_true] at hd
          simp only [Bool.or_eq_true, beq_iff_eq] at hk
          exact ts_augN (n := 0) H.K hi hk hd.2 (hE _ _ hv)
        · cases h
    | Attribute o name p =>
      unfold cmpS at h; (try dsimp only at h)
      obtain ⟨o', ho, h⟩ := Option.bind_eq_some_iff.mp h
      obtain ⟨i, hi, h⟩ := Option.bind_eq_some_iff.mp h
      obtain ⟨v', hv, h⟩ := Option.bind_eq_some_iff.mp h
      cases h
      exact ts_augA H.hA H.hS H.hF (idOf_ok H.toSH hi) (hE _ _ ho) (hE _ _ hv)
    | _ => unfold cmpS at h; (try dsimp only at h); cases h
  | Raise e f pos =>
    unfold cmpS at h
    split at h <;> (try (rename_i q; cases q; done)) <;> (try (cases h; done))
    · rename_i q
      cases q
      split at h
      · rename_i hg
        obtain ⟨e', he, h⟩ := Option.bind_eq_some_iff.mp h
        cases h
        obtain ⟨g1, g2, g3⟩ := globK_ok H.toSH hg
        exact ts_raz H.hA.ok H.K g1 g2 g3 (hE _ _ he)
      · cases h
    · cases h
      exact fun ρ σ Q X h => h.elim
  | Try body hs orelse fin pos =>
    cases hs with
    | nil => unfold cmpS at h; (try dsimp only at h); cases h
    | cons hd hs =>
      cases orelse with
      | cons _ _ => unfold cmpS at h; (try dsimp only at h); cases h
      | nil =>
        cases fin with
        | cons _ _ => unfold cmpS at h; (try dsimp only at h); cases h
        | nil =>
          unfold cmpS at h; (try dsimp only at h)
          obtain ⟨b', hb, h⟩ := Option.bind_eq_some_iff.mp h
          obtain ⟨h', hh, h⟩ := Option.bind_eq_some_iff.mp h
          cases h
          obtain ⟨i1, i2⟩ := cmpHd_ok H.toSH hh
          exact ts_try H.K (hSs _ _ hb) i1 i2 H.hfe H.hff
  | Assign ts v pos =>
    rcases ts with _ | ⟨t, _ | ⟨t2, ts⟩⟩
    · unfold cmpS at h; (try dsimp only at h); cases h
    · cases t with
      | Attribute o name p =>
        unfold cmpS at h; (try dsimp only at h)
        obtain ⟨o', ho, h⟩ := Option.bind_eq_some_iff.mp h
        obtain ⟨i, hi, h⟩ := Option.bind_eq_some_iff.mp h
        obtain ⟨v', hv, h⟩ := Option.bind_eq_some_iff.mp h
        cases h
        exact ts_asgnA H.hA H.hS H.hF (idOf_ok H.toSH hi) (hE _ _ hv) (hE _ _ ho)
      | Subscript o i p =>
        unfold cmpS at h; (try dsimp only at h)
        obtain ⟨o', ho, h⟩ := Option.bind_eq_some_iff.mp h
        obtain ⟨i', hi, h⟩ := Option.bind_eq_some_iff.mp h
        obtain ⟨v', hv, h⟩ := Option.bind_eq_some_iff.mp h
        cases h
        exact ts_asgnS (hE _ _ hv) (hE _ _ ho) (hE _ _ hi)
      | Name x tp =>
        cases v with
        | ListComp elt gens scope vp =>
          unfold cmpS at h; (try dsimp only at h)
          split at h
          · rename_i hc
            rw [Bool.and_eq_true] at hc
            obtain ⟨t', ht, h⟩ := Option.bind_eq_some_iff.mp h
            obtain ⟨e', he, h⟩ := Option.bind_eq_some_iff.mp h
            cases h
            exact ct_asgnC (ms := .asgn t' e') H (by simpa using hc.1) hc.2 ht he
          · split at h <;> cases h
        | _ => unfold cmpS at h; (try dsimp only at h); exact ct_asgn1 (k := k) H h
      | _ => unfold cmpS at h; (try dsimp only at h); exact ct_asgn1 (k := k) H h
    · cases t <;> (unfold cmpS at h; simp only [reduceCtorEq] at h)
  | _ => unfold cmpS at h; (try dsimp only at h); cases h
theorem ct_all : ∀ k, CT c A S Φ m k
  | 0 => ⟨fun _ _ _ _ _ _ h => (by unfold cmpS at h; cases h), fun _ _ _ _ _ _ h => (by unfold cmpSs at h; cases h)⟩
  | k + 1 => have IH := ct_all k; ⟨ct_S IH, ct_Ss IH⟩
end
end Mine
open PySem PySem.W PySem.Calls PyProof.Rows PySem.Spec
set_option linter.unusedVariables false
namespace Mine
def scOkB (scope : Scope) (nm : List (Str × Nat)) (ps : List Str) : Bool :=
  scope.kind == .function && !scope.isCoroutine && !scope.isGenerator && decide ps.Nodup &&
  (ps.all fun x => scope.names.lookup x == some .local || scope.names.lookup x == some .cell) &&
  (nm.all fun q => decide (ps.length ≤ q.2) || ps[q.2]? == some q.1) &&
  (scope.names.all fun q => q.2 != .free) && decide (nm.map (·.2)).Nodup && decide ((cellsFrom 0 scope.names []).map (·.1)).Nodup
theorem snd_inj {α : Type} {nm : List (α × Nat)} (nd : (nm.map (·.2)).Nodup) {x y : α} {i : Nat} (hx : (x, i) ∈ nm) (hy : (y, i) ∈ nm) : x = y := by
  induction nm with
  | nil => cases hx
  | cons q r ih =>
    rw [List.map_cons, List.nodup_cons] at nd
    rcases List.mem_cons.mp hx with hx | hx <;> rcases List.mem_cons.mp hy with hy | hy
    · rw [← hx] at hy; cases hy; rfl
    · exact absurd (List.mem_map_of_mem (f := (·.2)) hy) (by rw [← hx] at nd; exact nd.1)
    · exact absurd (List.mem_map_of_mem (f := (·.2)) hx) (by rw [← hy] at nd; exact nd.1)
    · exact ih nd.2 hx hy
theorem scOkB_ok {scope : Scope} {nm : List (Str × Nat)} {ps : List Str} (h : scOkB scope nm ps = true) : ScOk scope nm ps := by
  unfold scOkB at h
  simp only [Bool.and_eq_true, decide_eq_true_eq, Bool.not_eq_true', List.all_eq_true, Bool.or_eq_true, beq_iff_eq] at h
  obtain ⟨⟨⟨⟨⟨⟨⟨⟨h1, h2⟩, h3⟩, h4⟩, h5⟩, h6⟩, h7⟩, h8⟩, h9⟩ := h
  refine ⟨h1, h2, h3, h4, h5, fun x i e hi => ?_, fun x e => ?_, fun x y i e f => snd_inj h8 (mem_of_lookup e) (mem_of_lookup f), h9⟩
  · rcases h6 _ (mem_of_lookup e) with q | q
    · omega
    · exact q
  · have := h7 _ (mem_of_lookup e)
    simp at this
/-- the module's facts, for every scope alike -/
structure MC0 where
  ids : List Str
  gl : List (Str × Value)
  fns : List Addr
def ccOf (M : MC0) (sc : Scope) (nm : List (Str × Nat)) (lam : Option Str) : CC := ⟨sc, nm, M.ids, M.gl, M.fns, lam⟩
structure MOk (c : Cx) (S : Sx) (M : MC0) : Prop where
  hS : AkOk c S
  Z : FrzOk c S
  ids : S.nms = M.ids
  gl : ∀ x v, M.gl.lookup x = some v → globIn c.K x = some v
  fns : ∀ f, f ∈ M.fns → keepIn c.K (.ref f) = true
  kf : ∀ C id f, S.ak C id = .meth f → keepIn c.K (.ref f) = true
theorem MOk.sh {c : Cx} {S : Sx} {M : MC0} (H : MOk c S M) {A : Around} {Φ : Fn} {m : Nat} (hA : AB m A) (hF : FS c Φ m) (hL : LS c Φ m) {env : Env} {sc : Scope} (K : EOk env sc) (nm : List (Str × Nat)) (lam : Option Str)
    (hl : ∀ q, lam = some q → ∃ t, TabHd c t ∧ env.code = .ref t.1 ∧ env.qual ++ "<lambda>" = t.2.2 ∧ t.2.2 = q) : SH c A S Φ m env (ccOf M sc nm lam) :=
  ⟨K, hA, H.hS, hF, hL, H.Z, H.ids, H.gl, H.fns, H.kf, hl⟩
def lamPs (p : Arguments) : List Str := p.args.map (·.arg)
def cmpL (M : MC0) (k : Nat) (ld : LamD) : Option Ld := match ld.params with
  | ⟨[], [⟨x, none, _⟩, ⟨y, none, _⟩], none, [], [], none, []⟩ =>
    if (x == ("i" : Str) && y == ("j" : Str)) && scOkB ld.scope [(x, 0), (y, 1)] [x, y] then (cmpE (ccOf M ld.scope [(x, 0), (y, 1)] none) k ld.body).bind fun b => some ⟨[(x, 0), (y, 1)], 2, 2, b⟩ else none
  | _ => none
theorem ldk {c : Cx} {S : Sx} {M : MC0} (H : MOk c S M) {F : Addr → Option Fu} {L : LamD → Option Ld} {k : Nat} {ld : LamD} {d : Ld} (h : cmpL M k ld = some d) : LdK c S F L ld d := by
  obtain ⟨qual, params, body, scope⟩ := ld
  unfold cmpL at h
  split at h
  · rename_i x p y p' e
    dsimp only at e
    subst e
    split at h
    · rename_i hc
      obtain ⟨b, hb, h⟩ := Option.bind_eq_some_iff.mp h
      cases h
      rw [Bool.and_eq_true, Bool.and_eq_true, beq_iff_eq, beq_iff_eq] at hc
      obtain ⟨⟨rfl, rfl⟩, hc⟩ := hc
      refine ⟨[_, _], scOkB_ok hc, rfl, fun pm c' ctv rs hl => ?_, fun n hF hL A hA env K => ?_⟩
      · match rs, hl with
        | [a, b], _ => rfl
      · exact (cs_all k).E env _ (H.sh hA hF hL K _ none fun q e => by cases e) _ _ hb
    · cases h
  · cases h
end Mine
open PySem PySem.W PySem.Calls PyProof.Rows PySem.Spec
set_option linter.unusedVariables false
namespace Mine
/-- a function's texts as they lie in the heap -/
def fnAt (K : Frag) (f : Addr) : Option FuncData := match K.lookup f with
  | some ⟨_, _, .func fd, _⟩ => some fd
  | _ => none
def plainFd (fd : FuncData) : Bool := (match fd.body with | .stmts _ => true | _ => false) && fd.globals == mainGlobals && fd.closure.isEmpty && fd.builtins == builtinsNs
def lamFor (tabs : List (Addr × Addr × Str)) (fd : FuncData) : Option Str := (tabs.find? fun t => fd.code == .ref t.1 && fd.qualname ++ ".<locals>." ++ "<lambda>" == t.2.2).map (·.2.2)
def fdPs (fd : FuncData) : List Str := fd.params.args.map (·.arg)
def cmpFn (K : Frag) (M : MC0) (tabs : List (Addr × Addr × Str)) (nm : List (Str × Nat)) (f : Addr) (k : Nat) : Option MSs := match fnAt K f with
  | some fd => match fd.body with
    | .stmts body => if plainFd fd && codeIn K fd.code fd.qualname && scOkB fd.scope nm (fdPs fd) then cmpSs (ccOf M fd.scope nm (lamFor tabs fd)) k body else none
    | _ => none
  | none => none
def BdOk (c : Cx) (f : Addr) (bind : List V → List (Str × V) → Option (List V)) : Prop := ∀ fd, fnAt c.K f = some fd → ∀ as ks bs, bind as ks = some bs → bs.length = (fdPs fd).length ∧
  ∀ μ (s : Shared) rs ws, VsR μ s.heap as rs → KsR μ s.heap ks ws → c.K.In s.heap → ∃ vals, VsR μ s.heap bs vals ∧ BindsTo s fd ⟨rs, ws⟩ ((fdPs fd).zip vals)
theorem fnAt_eq {K : Frag} {f : Addr} {fd : FuncData} (h : fnAt K f = some fd) : ∃ oc od osl, K.lookup f = some ⟨oc, od, .func fd, osl⟩ := by
  unfold fnAt at h
  split at h
  · rename_i e; cases h; exact ⟨_, _, _, e⟩
  · cases h
theorem fnk {c : Cx} {S : Sx} {M : MC0} (H : MOk c S M) (hT : ∀ t ∈ c.tabs, TabHd c t) {F : Addr → Option Fu} {L : LamD → Option Ld} {f : Addr} {d : Fd} {k : Nat} (h : cmpFn c.K M c.tabs d.nm f k = some d.body) (hb : BdOk c f d.bind) : FnK c S F L f d := by
  unfold cmpFn at h
  split at h
  · rename_i fd hfd
    obtain ⟨oc, od, osl, e⟩ := fnAt_eq hfd
    split at h
    · rename_i body hbody
      split at h
      · rename_i hc
        simp only [Bool.and_eq_true] at hc
        obtain ⟨⟨hp, hcode⟩, hsc⟩ := hc
        have hbd := hb fd hfd
        obtain ⟨name, qual, params, fbody, scope, globals, closure, dV, kV, doc, pm, an, cdv, ct, bi⟩ := fd
        unfold plainFd at hp
        simp only [Bool.and_eq_true, beq_iff_eq, List.isEmpty_iff] at hp
        obtain ⟨⟨⟨_, rfl⟩, rfl⟩, rfl⟩ := hp
        dsimp only at hbody
        subst hbody
        refine ⟨name, qual, params, body, scope, dV, kV, doc, pm, an, cdv, ct, oc, od, osl, _, e, hcode, scOkB_ok hsc, hbd, fun n hF hL A hA env K hcd hq hfe hff B => ?_⟩
        refine (ct_all k).ss env _ ⟨H.sh hA hF hL K _ _ fun q hq' => ?_, hfe, hff⟩ B _ _ h
        unfold lamFor at hq'
        obtain ⟨t, ht, rfl⟩ := Option.map_eq_some_iff.mp hq'
        have hm := List.mem_of_find?_eq_some ht
        have hx := List.find?_some ht
        simp only [Bool.and_eq_true, beq_iff_eq] at hx
        exact ⟨t, hT t hm, hcd.trans hx.1, by rw [hq]; exact hx.2, rfl⟩
      · cases h
    · cases h
  · cases h
end Mine
open PySem PySem.W PySem.Calls PyProof.Rows PySem.Spec
set_option linter.unusedVariables false
namespace Mine
theorem lookup_zip_some {names : List Str} {rs : List Value} (hl : rs.length = names.length) {n : Str} (h : n ∈ names) : ((names.zip rs).lookup n).isSome = true := by
  induction names generalizing rs with
  | nil => cases h
  | cons a r ih =>
    cases rs with
    | nil => cases hl
    | cons b q =>
      rw [List.zip_cons_cons, List.lookup_cons]
      split
      · rfl
      · rename_i e
        rcases List.mem_cons.mp h with h | h
        · subst h; simp at e
        · exact ih (by simpa using hl) h
theorem filterMap_cg {α β : Type} {f g : α → Option β} : ∀ {l : List α}, (∀ x ∈ l, f x = g x) → l.filterMap f = l.filterMap g
  | [], _ => rfl
  | a :: r, h => by rw [List.filterMap_cons, List.filterMap_cons, h a (List.mem_cons_self ..), filterMap_cg fun x hx => h x (List.mem_cons_of_mem _ hx)]
theorem filterMap_zip : ∀ {names : List Str} {rs : List Value}, rs.length = names.length → names.Nodup → names.filterMap (fun n => ((names.zip rs).lookup n).map (n, ·)) = names.zip rs
  | [], rs, hl, nd => by cases rs <;> rfl
  | a :: r, [], hl, nd => by cases hl
  | a :: r, b :: q, hl, nd => by
    rw [List.nodup_cons] at nd
    rw [List.zip_cons_cons, List.filterMap_cons, List.lookup_cons, beq_self_eq_true]
    show (a, b) :: _ = _
    congr 1
    refine (filterMap_cg fun x hx => ?_).trans (filterMap_zip (by simpa using hl) nd.2)
    rw [List.lookup_cons]
    have : (x == a) = false := by rw [beq_eq_false_iff_ne]; intro e; subst e; exact nd.1 hx
    rw [this]
def plainPs (fd : FuncData) : Bool := fd.params.posonlyargs.isEmpty && fd.params.vararg.isNone && fd.params.kwonlyargs.isEmpty && fd.params.kwarg.isNone
theorem bind_plain {fd : FuncData} (hp : plainPs fd = true) (hd : fd.defaults = .none) {rs : List Value} (hl : rs.length = (fdPs fd).length) (nd : (fdPs fd).Nodup) (s : Shared) : BindsTo s fd ⟨rs, []⟩ ((fdPs fd).zip rs) := by
  intro M A E Q hq
  obtain ⟨name, qual, ⟨po, as, va, ko, kd, kw, ds⟩, fbody, scope, globals, closure, dV, kV, doc, pm, an, cdv, ct, bi⟩ := fd
  unfold plainPs at hp
  simp only [Bool.and_eq_true, List.isEmpty_iff, Option.isNone_iff_eq_none] at hp
  obtain ⟨⟨⟨rfl, rfl⟩, rfl⟩, rfl⟩ := hp
  dsimp only at hd
  subst hd
  simp only [fdPs] at hl nd hq ⊢
  have hm : List.filter (fun n => (((as.map (·.arg)).zip rs).lookup n).isNone) (as.map (·.arg)) = [] := by
    rw [List.filter_eq_nil_iff]
    intro x hx
    rw [Bool.not_eq_true, Option.isNone_eq_false_iff]
    exact lookup_zip_some hl hx
  unfold bindArgs
  have hs : seqItems? .none = (pure none : Sem (Option (Array Value))) := rfl
  simp only [List.map_nil, List.nil_append, List.append_nil, List.forIn_nil, hs, pure_bind, Option.getD_none, Option.isNone_none, List.length_nil, Nat.zero_sub, List.drop_nil, Nat.sub_zero, List.drop_length, List.take_length, List.zip_nil_left, List.zip_nil_right, hm, List.isEmpty_nil, Bool.not_true, Bool.and_true, filterMap_zip hl nd, hl, gt_iff_lt, Nat.lt_irrefl, decide_false, if_false, Bool.false_eq_true]
  exact wpAny_pure hq
end Mine
open PySem PySem.W PySem.Calls PyProof.Rows PySem.Spec
set_option linter.unusedVariables false
namespace Mine
def bindP (n : Nat) : List V → List (Str × V) → Option (List V) := fun as ks => if ks.isEmpty && as.length == n then some as else none
def bdPlain (K : Frag) (f : Addr) (n : Nat) : Bool := match fnAt K f with
  | some fd => plainPs fd && fd.defaults == .none && (fdPs fd).length == n && decide (fdPs fd).Nodup
  | none => false
theorem bd_plain {c : Cx} {f : Addr} {n : Nat} (h : bdPlain c.K f n = true) : BdOk c f (bindP n) := by
  intro fd hfd as ks bs hb
  unfold bdPlain at h
  rw [hfd] at h
  simp only [Bool.and_eq_true, beq_iff_eq, decide_eq_true_eq] at h
  obtain ⟨⟨⟨h1, h2⟩, h3⟩, h4⟩ := h
  unfold bindP at hb
  split at hb
  · rename_i hc
    simp only [Bool.and_eq_true, List.isEmpty_iff, beq_iff_eq] at hc
    obtain ⟨rfl, hl⟩ := hc
    cases hb
    refine ⟨hl.trans h3.symm, fun μ s rs ws hrs hws X => ⟨rs, hrs, ?_⟩⟩
    have : ws = [] := by
      have := hws.1
      simpa using this
    subst this
    exact bind_plain h1 h2 (by rw [hrs.length, hl, h3]) h4 s
  · cases hb
end Mine
open PySem PySem.W PySem.Calls PyProof.Rows PySem.Spec
set_option linter.unusedVariables false
namespace Mine
def akB (K : Frag) (fl nms : List Str) (C : Addr) (id : Nat) : AK → Bool
  | .no => true
  | .own i => match nms[id]?, findIn K (.ref C) ((nms[id]?).getD "") with
    | some nm, some attr => fl[i]? == some nm && plainGet K C nm && hasDictIn K C && noGet K attr && findIn K (.ref C) "__setattr__" == some (some (.builtin "object.__setattr__")) && plainOver K C && takerIn K C nm == some none
    | _, _ => false
  | .prop g st => match nms[id]?, findIn K (.ref C) ((nms[id]?).getD "") with
    | some nm, some (some (.ref p)) => plainGet K C nm && hasDictIn K C && specialIn K (.ref p) "__get__" == some (some (.builtin "property.__get__")) && takesIn K (.ref p) == some true &&
      (match recIn K p "property" with
        | some (.ref g' :: rest) => g' == g && (match st with
          | none => true
          | some f => rest.head? == some (.ref f) && findIn K (.ref C) "__setattr__" == some (some (.builtin "object.__setattr__")) && plainOver K C && takerIn K C nm == some (some (.ref p)) && typeIn K (.ref p) == some (.type "property"))
        | _ => false)
    | _, _ => false
  | .meth f => match nms[id]? with
    | some nm => plainGet K C nm && findIn K (.ref C) nm == some (some (.ref f)) && isFn K (.ref f) && !fl.contains nm && keepIn K (.ref f)
    | none => false
def akOf (tbl : List ((Addr × Nat) × AK)) (C : Addr) (id : Nat) : AK := (tbl.lookup (C, id)).getD .no
theorem lookupMem {α β : Type} [BEq α] [LawfulBEq α] : ∀ {l : List (α × β)} {a : α} {b : β}, l.lookup a = some b → (a, b) ∈ l
  | [], a, b, h => by cases h
  | (x, y) :: r, a, b, h => by
    rw [List.lookup_cons] at h
    split at h
    · rename_i e; rw [beq_iff_eq] at e; subst e; cases h; exact List.mem_cons_self ..
    · exact List.mem_cons_of_mem _ (lookupMem h)
theorem akOk {c : Cx} {S : Sx} {tbl : List ((Addr × Nat) × AK)} (hak : S.ak = akOf tbl) (h : (tbl.all fun q => akB c.K (c.flds q.1.1) S.nms q.1.1 q.1.2 q.2) = true) : AkOk c S ∧ ∀ C id f, S.ak C id = .meth f → keepIn c.K (.ref f) = true := by
  rw [List.all_eq_true] at h
  have key : ∀ C id a, S.ak C id = a → a ≠ .no → akB c.K (c.flds C) S.nms C id a = true := by
    intro C id a e hn
    rw [hak] at e
    unfold akOf at e
    cases q : tbl.lookup (C, id) with
    | none => rw [q] at e; exact absurd e.symm hn
    | some b =>
      rw [q] at e
      have : b = a := e
      subst this
      exact h _ (lookupMem q)
  refine ⟨fun C id => ?_, fun C id f e => ?_⟩
  · split
    · trivial
    · rename_i i e
      have := key C id _ e (by simp)
      unfold akB at this; dsimp only at this
      split at this
      · rename_i nm attr e1 e2
        rw [e1] at e2
        simp only [Bool.and_eq_true, beq_iff_eq] at this
        obtain ⟨⟨⟨⟨⟨⟨h1, h2⟩, h3⟩, h4⟩, h5⟩, h6⟩, h7⟩ := this
        exact ⟨nm, attr, e1, h1, h2, h3, e2, h4, h5, h6, h7⟩
      · cases this
    · rename_i g st e
      have := key C id _ e (by simp)
      unfold akB at this; dsimp only at this
      split at this
      · rename_i nm p e1 e2
        rw [e1] at e2
        simp only [Bool.and_eq_true, beq_iff_eq] at this
        obtain ⟨⟨⟨⟨h1, h2⟩, h3⟩, h4⟩, h5⟩ := this
        split at h5
        · rename_i g' rest hr
          simp only [Bool.and_eq_true, beq_iff_eq] at h5
          obtain ⟨rfl, h5⟩ := h5
          refine ⟨nm, p, rest, e1, h1, h2, e2, h3, h4, hr, fun f hf => ?_⟩
          subst hf
          simp only [Bool.and_eq_true, beq_iff_eq] at h5
          obtain ⟨⟨⟨⟨k1, k2⟩, k3⟩, k4⟩, k5⟩ := h5
          refine ⟨?_, k2, k3, k4, k5⟩
          cases rest with
          | nil => cases k1
          | cons a r => cases k1; exact ⟨r, rfl⟩
        · cases h5
      · cases this
    · rename_i f e
      have := key C id _ e (by simp)
      unfold akB at this; dsimp only at this
      split at this
      · rename_i nm e1
        simp only [Bool.and_eq_true, beq_iff_eq, Bool.not_eq_true', List.contains_eq_mem, decide_eq_false_iff_not] at this
        obtain ⟨⟨⟨⟨h1, h2⟩, h3⟩, h4⟩, h5⟩ := this
        exact ⟨nm, e1, h1, h2, h3, h4⟩
      · cases this
  · have := key C id _ e (by simp)
    unfold akB at this; dsimp only at this
    split at this
    · simp only [Bool.and_eq_true] at this
      exact this.2
    · cases this
end Mine
open PySem PySem.W PySem.Calls PyProof.Rows PySem.Spec
set_option linter.unusedVariables false
namespace Mine
def cstB : V → Value → Bool
  | .none, .none => true
  | .bool a, .bool b => a == b
  | .int a, .int b _ => a == b
  | .str a, .str b _ => a == b
  | .k a, b => a == b
  | _, _ => false
def cstsB : List V → List Value → Bool
  | [], [] => true
  | a :: r, b :: q => cstB a b && cstsB r q
  | _, _ => false
theorem cstB_ok {μ : Mp} {h : Heap} {v : V} {r : Value} (e : cstB v r = true) : VR μ h v r := by
  unfold cstB at e
  split at e
  · rfl
  · rw [beq_iff_eq] at e; subst e; rfl
  · rw [beq_iff_eq] at e; subst e; exact ⟨_, rfl⟩
  · rw [beq_iff_eq] at e; subst e; exact ⟨_, rfl⟩
  · rw [beq_iff_eq] at e; subst e; rfl
  · cases e
theorem cstsB_ok {μ : Mp} {h : Heap} : ∀ {vs : List V} {rs : List Value}, cstsB vs rs = true → VsR μ h vs rs
  | [], [], _ => rfl
  | [], _ :: _, e => by cases e
  | _ :: _, [], e => by cases e
  | a :: r, b :: q, e => by
    unfold cstsB at e
    rw [Bool.and_eq_true] at e
    exact .cons (cstB_ok e.1) (cstsB_ok e.2)
def frzB (K : Frag) (q : Addr × List V) : Bool := match K.lookup q.1 with
  | some ⟨cl, none, .seq its n, sl⟩ => cl == .type "list" && sl.size == 0 && cstsB q.2 its.toList && decide (q.2.length ≤ lim)
  | _ => false
theorem frzB_ok {K : Frag} {q : Addr × List V} (h : frzB K q = true) : q.2.length ≤ lim ∧ ∃ its n, K.lookup q.1 = some (PySem.W.listOf its n) ∧ ∀ μ h, VsR μ h q.2 its.toList := by
  unfold frzB at h
  split at h
  · rename_i cl its n sl e
    simp only [Bool.and_eq_true, beq_iff_eq, decide_eq_true_eq] at h
    obtain ⟨⟨⟨rfl, h2⟩, h3⟩, h4⟩ := h
    have : sl = #[] := Array.eq_empty_of_size_eq_zero h2
    subst this
    exact ⟨h4, its, n, e, fun μ h => cstsB_ok h3⟩
  · cases h
structure MTab where
  ids : List Str
  gl : List (Str × Value)
  fns : List Addr
  frz : List (Addr × List V)
  ak : List ((Addr × Nat) × AK)
  flds : List (Addr × List Str)
def MTab.mc (T : MTab) : MC0 := ⟨T.ids, T.gl, T.fns⟩
def MTab.sx (T : MTab) : Sx := ⟨fun a => T.frz.lookup a, T.ids, akOf T.ak⟩
def MTab.fl (T : MTab) (C : Addr) : List Str := (T.flds.lookup C).getD []
def MTab.okB (T : MTab) (K : Frag) : Bool := (T.gl.all fun q => globIn K q.1 == some q.2) && (T.fns.all fun f => keepIn K (.ref f)) && (T.frz.all fun q => frzB K q) && T.ak.all fun q => akB K (T.fl q.1.1) T.ids q.1.1 q.1.2 q.2
theorem MTab.ok {T : MTab} {c : Cx} (hf : c.flds = T.fl) (h : T.okB c.K = true) : MOk c T.sx T.mc := by
  unfold MTab.okB at h
  simp only [Bool.and_eq_true, List.all_eq_true, beq_iff_eq] at h
  obtain ⟨⟨⟨h1, h2⟩, h3⟩, h4⟩ := h
  obtain ⟨a1, a2⟩ := akOk (c := c) (S := T.sx) (tbl := T.ak) rfl (by rw [List.all_eq_true, hf]; exact h4)
  refine ⟨a1, fun a vs e => ?_, rfl, fun x v e => h1 _ (lookupMem e), h2, a2⟩
  obtain ⟨b1, its, n, b2, b3⟩ := frzB_ok (h3 _ (lookupMem e))
  exact ⟨b1, its, n, c.X0 _ _ b2, b3⟩
end Mine
open PySem PySem.W PySem.Calls PyProof.Rows PySem.Spec
set_option linter.unusedVariables false
namespace Mine
def canonPs (names : List Str) : Arguments := ⟨[], names.map fun n => ⟨n, none, ⟨0, 0, 0, 0⟩⟩, none, [], [], none, []⟩
theorem bind_canon {fd : FuncData} (hp : plainPs fd = true) {names : List Str} (hn : fdPs fd = names) (args : Args) : bindArgs fd args = bindArgs { fd with params := canonPs names } args := by
  obtain ⟨name, qual, ⟨po, as, va, ko, kd, kw, ds⟩, fbody, scope, globals, closure, dV, kV, doc, pm, an, cdv, ct, bi⟩ := fd
  unfold plainPs at hp
  simp only [Bool.and_eq_true, List.isEmpty_iff, Option.isNone_iff_eq_none] at hp
  obtain ⟨⟨⟨rfl, rfl⟩, rfl⟩, rfl⟩ := hp
  subst hn
  have hm : (canonPs (fdPs ⟨name, qual, ⟨[], as, none, [], kd, none, ds⟩, fbody, scope, globals, closure, dV, kV, doc, pm, an, cdv, ct, bi⟩)).args.map (·.arg) = as.map (·.arg) := by
    simp [canonPs, fdPs, List.map_map, Function.comp_def]
  unfold bindArgs
  dsimp only
  rw [hm]
  rfl
end Mine
open PySem PySem.W PySem.Calls PyProof.Rows PySem.Spec
set_option linter.unusedVariables false
namespace Mine
def bdKw (K : Frag) (f : Addr) (names : List Str) (ds : List V) : Bool := match fnAt K f with
  | some fd => plainPs fd && fdPs fd == names && (match fd.defaults with
    | .ref T => (match K.lookup T with | some ⟨_, _, .seq its _, _⟩ => cstsB ds its.toList | _ => false)
    | _ => false)
  | none => false
/-- a keyword's call of a function with defaults, once what it computes for these names is known -/
theorem bd_kw {c : Cx} {f : Addr} {names : List Str} {ds : List V} {bind : List V → List (Str × V) → Option (List V)} (h : bdKw c.K f names ds = true)
    (hb : ∀ as ks bs, bind as ks = some bs → bs.length = names.length ∧ ∀ μ h rs ws (its : Array Value), VsR μ h as rs → KsR μ h ks ws → VsR μ h ds its.toList → ∃ vals, VsR μ h bs vals ∧ ∀ fd : FuncData, ∃ k : Option (Array Value) → Sem (List (Str × Value)),
      bindArgs { fd with params := canonPs names } ⟨rs, ws⟩ = seqItems? fd.defaults >>= k ∧ k (some its) = pure (names.zip vals)) : BdOk c f bind := by
  intro fd hfd as ks bs e
  unfold bdKw at h
  rw [hfd] at h
  simp only [Bool.and_eq_true, beq_iff_eq] at h
  obtain ⟨⟨h1, h2⟩, h3⟩ := h
  split at h3
  · rename_i T hT
    split at h3
    · rename_i cl d its n sl hl
      obtain ⟨b1, b2⟩ := hb as ks bs e
      refine ⟨by rw [h2]; exact b1, fun μ s rs ws hrs hws X => ?_⟩
      obtain ⟨vals, v1, v2⟩ := b2 μ s.heap rs ws its hrs hws (cstsB_ok h3)
      obtain ⟨k, k1, k2⟩ := v2 fd
      refine ⟨vals, v1, ?_⟩
      rw [h2]
      exact BindsTo.of_defaults (k := k) hT (X _ _ hl) rfl ((bind_canon h1 h2 _).trans k1) k2
    · cases h3
  · cases h3
end Mine
open PySem PySem.W PySem.Calls PyProof.Rows PySem.Spec
set_option linter.unusedVariables false
namespace Mine
def mu0 : Mp := fun _ => none
def hp0 : Hp := ⟨fun _ => none, 0⟩
theorem off0 {b : Addr} : Off mu0 b := fun _ _ _ h => by cases h
/-- a law's frame, newly laid: the script is its first slot -/
theorem ev0 {c : Cx} {A : Around} {env : Env} {nm : List (Str × Nat)} {s : Shared} {m : Str → Option Value} {a : Addr} {k : Nat} {x0 : Str}
    (hfr : A.frames = some []) (hk : env.scope.kind ≠ .module) (hframe : env.frame = some env.locals) (hns : s.heap.Ns env.locals m) (keep : ∀ b o, c.H0.get? b = some o → s.heap.get? b = some o) (hos : s.os = c.os) (hgp : c.gp s.gens)
    (htab : ∀ q ∈ c.tabs, s.heap.get? q.2.1 = some (tabObj #[])) (hcells : ∀ q ∈ env.cells, (∃ ov, s.heap.IsCell q.2 ov) ∧ c.H0.get? q.2 = none) (hap : ∀ x y cx cy, env.cells.lookup x = some cx → env.cells.lookup y = some cy → x ≠ y → cx ≠ cy) (hL : c.H0.get? env.locals = none)
    (hscript : m x0 = some (.ref a)) (h0 : ∀ x, nm.lookup x = some 0 → x = x0) (hone : ∀ x y i, nm.lookup x = some i → nm.lookup y = some i → x = y)
    (hck : ∀ x i, nm.lookup x = some i → (env.kindOf x = some .cell ∨ env.kindOf x = some .free) → (env.cells.lookup x).isSome = true ∧ i ≠ 0) :
    Ev c (A.deeper env) env nm mu0 (.k (.ref a) :: List.replicate k .undef) hp0 s := by
  have slot : ∀ {i : Nat} {v : V}, (V.k (.ref a) :: List.replicate k V.undef)[i]? = some v → v ≠ .undef → i = 0 ∧ v = .k (.ref a) := fun {i v} e n => by
    cases i with
    | zero => cases e; exact ⟨rfl, rfl⟩
    | succ i =>
      rw [List.getElem?_cons_succ, List.getElem?_replicate] at e
      split at e
      · cases e; exact absurd rfl n
      · cases e
  refine ⟨⟨⟨keep, fun _ => rfl, fun _ _ => rfl, fun _ _ _ h => (by cases h), fun _ _ _ _ _ _ h => (by cases h), fun _ _ _ h => (by cases h)⟩, fun q hq => ⟨#[], htab q hq, trivial, fun pos cv e => (by simp [codeAmong] at e)⟩, ⟨[env], Around.frames_deeper hfr, fun e he => ?_⟩, hos, hgp⟩,
    ⟨⟨m, hns, fun x i e1 e2 v e3 e4 => ?_⟩, fun x i e1 e2 => ?_, off0, fun _ _ => off0, fun q hq => (hcells q hq).1, hap, hone⟩, hL, fun q hq => (hcells q hq).2⟩
  · have : e = env := by simpa using he
    subst this
    exact ⟨hk, _, m, hframe, hL, hns, off0⟩
  · obtain ⟨rfl, rfl⟩ := slot e3 e4
    have := h0 x e1
    subst this
    exact ⟨_, hscript, rfl⟩
  · obtain ⟨q1, q2⟩ := hck x i e1 e2
    obtain ⟨ca, hca⟩ := Option.isSome_iff_exists.mp q1
    obtain ⟨ov, hov⟩ := (hcells (x, ca) (mem_of_lookup hca)).1
    exact ⟨ca, ov, hca, hov, fun v e3 e4 => absurd (slot e3 e4).1 q2⟩
end Mine
open PySem PySem.W PySem.Calls PyProof.Rows PySem.Spec
set_option linter.unusedVariables false
namespace Mine
/-! rules for the plain part: invariants, the heap's frame -/
theorem loop_inv {it : It} {body : V → List V → Hp → (Fl → List V → Hp → Prop) → Prop} {Q : Fl → List V → Hp → Prop} (I : Nat → List V → Hp → Prop) (n : Nat)
    (step : ∀ i ρ σ, i < n → I i ρ σ → it.live σ ∧ ∃ v, it.get i σ = some v ∧ ok v ∧ ∀ K : Fl → List V → Hp → Prop,
      (∀ ρ' σ', I (i + 1) ρ' σ' → K .next ρ' σ') → (∀ ρ' σ', I (i + 1) ρ' σ' → K .cont ρ' σ') → (∀ v ρ' σ', Q (.ret v) ρ' σ' → K (.ret v) ρ' σ') → (∀ ρ' σ', Q .next ρ' σ' → K .brk ρ' σ') → body v ρ σ K)
    (fin : ∀ ρ σ, I n ρ σ → it.live σ ∧ Q .next ρ σ) : ∀ k i ρ σ, i + k = n → I i ρ σ → wpLoop it body Q k i ρ σ
  | 0, i, ρ, σ, e, h => by
    have : i = n := by omega
    subst this
    exact fin _ _ h
  | k + 1, i, ρ, σ, e, h => by
    obtain ⟨a, v, b, d, f⟩ := step i ρ σ (by omega) h
    refine ⟨a, v, b, d, f _ (fun ρ' σ' h' => loop_inv I n step fin k (i + 1) ρ' σ' (by omega) h') (fun ρ' σ' h' => loop_inv I n step fin k (i + 1) ρ' σ' (by omega) h') (fun v ρ' σ' h' => h') fun ρ' σ' h' => h'⟩
theorem loop_inv0 {it : It} {body : V → List V → Hp → (Fl → List V → Hp → Prop) → Prop} {Q : Fl → List V → Hp → Prop} {n : Nat} {ρ : List V} {σ : Hp} (I : Nat → List V → Hp → Prop) (h0 : I 0 ρ σ)
    (step : ∀ i ρ σ, i < n → I i ρ σ → it.live σ ∧ ∃ v, it.get i σ = some v ∧ ok v ∧ ∀ K : Fl → List V → Hp → Prop,
      (∀ ρ' σ', I (i + 1) ρ' σ' → K .next ρ' σ') → (∀ ρ' σ', I (i + 1) ρ' σ' → K .cont ρ' σ') → (∀ v ρ' σ', Q (.ret v) ρ' σ' → K (.ret v) ρ' σ') → (∀ ρ' σ', Q .next ρ' σ' → K .brk ρ' σ') → body v ρ σ K)
    (fin : ∀ ρ σ, I n ρ σ → it.live σ ∧ Q .next ρ σ) : wpLoop it body Q n 0 ρ σ := loop_inv I n step fin n 0 ρ σ (Nat.zero_add _) h0
theorem gather_inv {it : It} {body : V → List V → List V → Hp → (List V → List V → Hp → Prop) → Prop} {Q : List V → List V → Hp → Prop} (I : Nat → List V → List V → Hp → Prop) (n : Nat)
    (step : ∀ i acc ρ σ, i < n → I i acc ρ σ → it.live σ ∧ ∃ v, it.get i σ = some v ∧ ok v ∧ ∀ K : List V → List V → Hp → Prop,
      (∀ acc' ρ' σ', I (i + 1) acc' ρ' σ' → K acc' ρ' σ') → body v acc ρ σ K)
    (fin : ∀ acc ρ σ, I n acc ρ σ → it.live σ ∧ Q acc ρ σ) : ∀ k i acc ρ σ, i + k = n → I i acc ρ σ → wpGather it body Q k i acc ρ σ
  | 0, i, acc, ρ, σ, e, h => by
    have : i = n := by omega
    subst this
    exact fin _ _ _ h
  | k + 1, i, acc, ρ, σ, e, h => by
    obtain ⟨a, v, b, d, f⟩ := step i acc ρ σ (by omega) h
    exact ⟨a, v, b, d, f _ fun acc' ρ' σ' h' => gather_inv I n step fin k (i + 1) acc' ρ' σ' (by omega) h'⟩
theorem gather_inv0 {it : It} {body : V → List V → List V → Hp → (List V → List V → Hp → Prop) → Prop} {Q : List V → List V → Hp → Prop} {n : Nat} {acc ρ : List V} {σ : Hp} (I : Nat → List V → List V → Hp → Prop) (h0 : I 0 acc ρ σ)
    (step : ∀ i acc ρ σ, i < n → I i acc ρ σ → it.live σ ∧ ∃ v, it.get i σ = some v ∧ ok v ∧ ∀ K : List V → List V → Hp → Prop,
      (∀ acc' ρ' σ', I (i + 1) acc' ρ' σ' → K acc' ρ' σ') → body v acc ρ σ K)
    (fin : ∀ acc ρ σ, I n acc ρ σ → it.live σ ∧ Q acc ρ σ) : wpGather it body Q n 0 acc ρ σ := gather_inv I n step fin n 0 acc ρ σ (Nat.zero_add _) h0
theorem while_inv {test : List V → Hp → (Bool → Hp → Prop) → Prop} {body : List V → Hp → (Fl → List V → Hp → Prop) → Prop} {Q : Fl → List V → Hp → Prop} (I : Nat → List V → Hp → Prop)
    (step : ∀ m ρ σ, I m ρ σ → ∀ T : Bool → Hp → Prop, (∀ σ', Q .next ρ σ' → T false σ') →
      (∀ σ', (∀ K : Fl → List V → Hp → Prop, (∀ m' ρ' σ'', m' < m → I m' ρ' σ'' → K .next ρ' σ'') → (∀ m' ρ' σ'', m' < m → I m' ρ' σ'' → K .cont ρ' σ'') → (∀ ρ' σ'', Q .next ρ' σ'' → K .brk ρ' σ'') → (∀ v ρ' σ'', Q (.ret v) ρ' σ'' → K (.ret v) ρ' σ'') → body ρ σ' K) → T true σ') → test ρ σ T) :
    ∀ m n ρ σ, m < n → I m ρ σ → wpWhile test body Q n ρ σ
  | m, 0, ρ, σ, e, h => by omega
  | m, n + 1, ρ, σ, e, h => by
    refine step m ρ σ h _ (fun σ' h' => h') fun σ' h' => h' _ (fun m' ρ' σ'' e' h' => ?_) (fun m' ρ' σ'' e' h' => ?_) (fun ρ' σ'' h' => h') fun v ρ' σ'' h' => h'
    · exact while_inv I step m' n ρ' σ'' (by omega) h'
    · exact while_inv I step m' n ρ' σ'' (by omega) h'
theorem while_inv0 {test : List V → Hp → (Bool → Hp → Prop) → Prop} {body : List V → Hp → (Fl → List V → Hp → Prop) → Prop} {Q : Fl → List V → Hp → Prop} {ρ : List V} {σ : Hp} (I : Nat → List V → Hp → Prop) (m : Nat) (h0 : I m ρ σ)
    (step : ∀ m ρ σ, I m ρ σ → ∀ T : Bool → Hp → Prop, (∀ σ', Q .next ρ σ' → T false σ') →
      (∀ σ', (∀ K : Fl → List V → Hp → Prop, (∀ m' ρ' σ'', m' < m → I m' ρ' σ'' → K .next ρ' σ'') → (∀ m' ρ' σ'', m' < m → I m' ρ' σ'' → K .cont ρ' σ'') → (∀ ρ' σ'', Q .next ρ' σ'' → K .brk ρ' σ'') → (∀ v ρ' σ'', Q (.ret v) ρ' σ'' → K (.ret v) ρ' σ'') → body ρ σ' K) → T true σ') → test ρ σ T) :
    ∃ n, wpWhile test body Q n ρ σ := ⟨m + 1, while_inv I step m (m + 1) ρ σ (Nat.lt_succ_self m) h0⟩
section
variable {S : Sx} {Φ : Fn} {ρ : List V} {σ : Hp} {X : XP}
/-- one statement, then the rest -/
theorem seqK {s : MS} {r : MSs} {Q : Fl → List V → Hp → Prop} (h : ∀ K : Fl → List V → Hp → Prop, (∀ ρ' σ', wpSs S Φ r ρ' σ' Q X → K .next ρ' σ') → (∀ v ρ' σ', Q (.ret v) ρ' σ' → K (.ret v) ρ' σ') → (∀ ρ' σ', Q .brk ρ' σ' → K .brk ρ' σ') → (∀ ρ' σ', Q .cont ρ' σ' → K .cont ρ' σ') → wpS S Φ s ρ σ K X) :
    wpSs S Φ (.cons s r) ρ σ Q X := h _ (fun _ _ h => h) (fun _ _ _ h => h) (fun _ _ h => h) fun _ _ h => h
theorem wp_for {t : MT} {s : MI} {b : MSs} {Q : Fl → List V → Hp → Prop} (h : ∀ G : It → Hp → Prop, (∀ it σ₁, wpLoop it (fun v ρ σ K => pAssign t v ρ σ fun ρ₁ => wpSs S Φ b ρ₁ σ K (fun _ _ => False)) Q it.n 0 ρ σ₁ → G it σ₁) → wpI S Φ s ρ σ G) :
    wpS S Φ (.forr t s b) ρ σ Q X := h _ fun _ _ h => h
theorem wp_comp {own : List Nat} {s : MI} {g : MG} {Q : V → Hp → Prop} (h : ∀ G : It → Hp → Prop, (∀ it σ₁, wpGather it (fun v acc ρ σ K => wpG S Φ g v acc ρ σ K) (fun acc _ σ₂ => acc.length ≤ lim ∧ pNew σ₂ (.list acc) Q) it.n 0 [] (clr own ρ) σ₁ → G it σ₁) → wpI S Φ s ρ σ G) :
    wpE S Φ (.comp own s g) ρ σ Q X := h _ fun _ _ h => h
theorem wp_whl {t : MC} {b : MSs} {Q : Fl → List V → Hp → Prop} (h : ∃ n, wpWhile (fun ρ σ K => wpT S Φ t ρ σ K (fun _ _ => False)) (fun ρ σ K => wpSs S Φ b ρ σ K (fun _ _ => False)) Q n ρ σ) : wpS S Φ (.whl t b) ρ σ Q X := h
/-- a test with two ends -/
theorem wp_ite {t : MC} {a b : MSs} {Q : Fl → List V → Hp → Prop} (h : ∀ G : Bool → Hp → Prop, (∀ σ₁, wpSs S Φ a ρ σ₁ Q X → G true σ₁) → (∀ σ₁, wpSs S Φ b ρ σ₁ Q X → G false σ₁) → wpT S Φ t ρ σ G X) : wpS S Φ (.ite t a b) ρ σ Q X := by
  refine h (fun r σ₁ => match r with | true => wpSs S Φ a ρ σ₁ Q X | false => wpSs S Φ b ρ σ₁ Q X) (fun _ h => h) fun _ h => h
theorem wp_nil {Q : Fl → List V → Hp → Prop} (h : Q .next ρ σ) : wpSs S Φ .nil ρ σ Q X := h
end
/-- a comprehension of one clause whose element makes nothing -/
theorem gath_pure {S : Sx} {Φ : Fn} {it : It} {k n : Nat} {elt : ME} {ρ : List V} {σ : Hp} (f : Nat → V) {P : List V → List V → Hp → Prop} (hn : n ≤ lim) (hk : k < ρ.length) (hlive : it.live σ)
    (hv : ∀ i, i < n → ∃ v, it.get i σ = some v ∧ ok v ∧ ok (f i) ∧ ∀ Q' : V → Hp → Prop, Q' (f i) σ → wpE S Φ elt (ρ.set k v) σ Q' (fun _ _ => False)) (hq : ∀ ρ', P ((List.range n).map f) ρ' σ) :
    wpGather it (fun v acc ρ σ K => wpG S Φ (.last (.nm k) .nil elt) v acc ρ σ K) P n 0 [] ρ σ := by
  refine gather_inv0 (fun i acc ρ' σ' => acc = (List.range i).map f ∧ σ' = σ ∧ ∃ w, ρ' = ρ.set k w) ⟨rfl, rfl, ρ[k], by simp⟩ ?_ ?_
  · rintro i acc ρ' σ' hi ⟨rfl, rfl, w, rfl⟩
    obtain ⟨v, h1, h2, h3, h4⟩ := hv i hi
    refine ⟨hlive, v, h1, h2, fun K hK => ?_⟩
    simp only [wpG, wpTs, pAssign, List.length_set, List.set_set]
    refine ⟨h2, hk, h4 _ ⟨h3, by simp; omega, hK _ _ _ ⟨?_, rfl, v, rfl⟩⟩⟩
    rw [List.range_succ, List.map_append]; rfl
  · rintro acc ρ' σ' ⟨rfl, rfl, w, rfl⟩
    exact ⟨hlive, hq _⟩
theorem fmod_b (a : Int) {b : Int} (h : 0 < b) : 0 ≤ a.fmod b ∧ a.fmod b < b := by
  rw [Int.fmod_eq_emod_of_nonneg _ (Int.le_of_lt h)]
  exact ⟨Int.emod_nonneg _ (Int.ne_of_gt h), Int.emod_lt_of_pos _ h⟩
theorem rngLen_up (b : Nat) : rngLen 0 b 1 = b := by
  unfold rngLen Builtin.Range.rangeSize
  split <;> simp <;> omega
theorem bmatch {b : Bool} {P R : Prop} : (b = true → P) → (b = false → R) → (match b with | true => P | false => R) := by
  intro h1 h2
  cases b
  · exact h2 rfl
  · exact h1 rfl
/-- the heap but for the objects that M names; what is new lies above -/
def Ext (M : Nat → Prop) (σ σ' : Hp) : Prop := σ.nx ≤ σ'.nx ∧ ∀ x, x < σ.nx → ¬ M x → σ'.at_ x = σ.at_ x
abbrev Kp (σ σ' : Hp) : Prop := Ext (fun _ => False) σ σ'
variable {M M' : Nat → Prop} {σ σ' σ₁ σ₂ : Hp} {x y : Nat} {o : O}
theorem Ext.refl : Ext M σ σ := ⟨Nat.le_refl _, fun _ _ _ => rfl⟩
theorem Ext.trans (a : Ext M σ σ₁) (b : Ext M σ₁ σ₂) : Ext M σ σ₂ := ⟨Nat.le_trans a.1 b.1, fun x h m => (b.2 x (Nat.lt_of_lt_of_le h a.1) m).trans (a.2 x h m)⟩
theorem Ext.weak (a : Ext M σ σ') (h : ∀ x, x < σ.nx → M x → M' x) : Ext M' σ σ' := ⟨a.1, fun x hx m => a.2 x hx fun k => m (h x hx k)⟩
theorem Kp.ext (a : Kp σ σ') : Ext M σ σ' := a.weak fun _ _ h => h.elim
theorem Ext.new : Ext M σ (σ.new o) := ⟨Nat.le_succ _, fun x hx _ => if_neg (Nat.ne_of_lt hx)⟩
theorem Ext.set (h : M x) : Ext M σ (σ.set x o) := ⟨Nat.le_refl _, fun y _ m => if_neg fun e => m (by subst e; exact h)⟩
/-- a write to what is new -/
theorem Ext.setNew (a : Ext M σ σ') (h : σ.nx ≤ x) : Ext M σ (σ'.set x o) := ⟨a.1, fun y hy m => (if_neg (by omega)).trans (a.2 y hy m)⟩
theorem Ext.setR (a : Ext M σ σ') (h : M x) : Ext M σ (σ'.set x o) := a.trans (.set h)
theorem Ext.newR (a : Ext M σ σ') : Ext M σ (σ'.new o) := a.trans .new
theorem Ext.at (a : Ext M σ σ') (hx : x < σ.nx) (m : ¬ M x) (h : σ.at_ x = some o) : σ'.at_ x = some o := (a.2 x hx m).trans h
theorem Kp.at (a : Kp σ σ') (hx : x < σ.nx) (h : σ.at_ x = some o) : σ'.at_ x = some o := Ext.at a hx id h
theorem Hp.new_self : (σ.new o).at_ σ.nx = some o := if_pos rfl
theorem Hp.new_ne (h : x ≠ σ.nx) : (σ.new o).at_ x = σ.at_ x := if_neg h
theorem Hp.new_nx : (σ.new o).nx = σ.nx + 1 := rfl
theorem Hp.set_self : (σ.set x o).at_ x = some o := if_pos rfl
theorem Hp.set_ne (h : y ≠ x) : (σ.set x o).at_ y = σ.at_ y := if_neg h
theorem Hp.set_nx : (σ.set x o).nx = σ.nx := rfl
theorem Hp.set_at : (σ.set x o).at_ y = if y = x then some o else σ.at_ y := rfl
theorem Hp.new_at : (σ.new o).at_ y = if y = σ.nx then some o else σ.at_ y := rfl
/-- an object made, then written to -/
theorem Ext.ofNew {y : Nat} (a : Ext (· = y) (σ.new o) σ') (h : σ.nx ≤ y) : Kp σ σ' := ⟨Nat.le_trans (Nat.le_succ _) a.1, fun x hx _ => (a.2 x (Nat.lt_succ_of_lt hx) (Nat.ne_of_lt (Nat.lt_of_lt_of_le hx h))).trans (if_neg (Nat.ne_of_lt hx))⟩
end Mine
open PySem PySem.W PyProof.Rows
namespace Mine
def fl02 : List Str := ["_version", "error_correction", "box_size", "border", "_mask_pattern", "image_factory", "precomputed_qr_blanks", "modules", "modules_count", "data_cache", "data_list"]
def tab02 (pics : List (Addr × List V)) : MTab where
  ids := ["buffer", "length", "join", "put_bit", "version", "error_correction", "box_size", "border", "mask_pattern", "image_factory", "precomputed_qr_blanks", "clear", "_version", "best_fit", "setter", "_mask_pattern", "modules", "modules_count", "data_cache", "data_list", "put", "mode", "write", "map_data"]
  gl := [("QRCode", .ref 327), ("TypeError", .type "TypeError"), ("ValueError", .type "ValueError"), ("_check_border", .ref 167), ("_check_box_size", .ref 160), ("_check_mask_pattern", .ref 174), ("_law_pictures", .ref 340), ("_law_refused", .ref 357), ("_law_row", .ref 345), ("_law_walk", .ref 350), ("_wall", .ref 57), ("bool", .type "bool"), ("check_version", .ref 99), ("enumerate", .type "enumerate"), ("floor", .builtin "math.floor"), ("int", .type "int"), ("isinstance", .builtin "isinstance"), ("len", .builtin "len"), ("mask_func", .ref 85), ("mask_func_util", .ref 85), ("range", .type "range")]
  fns := [160, 167, 174, 345, 350, 357, 99, 85, 327, 57]
  frz := pics
  ak := [((327, 4), .prop 196 (some 205)), ((327, 5), .own 1), ((327, 6), .own 2), ((327, 7), .own 3), ((327, 8), .prop 213 (some 222)), ((327, 9), .own 5), ((327, 10), .own 6), ((327, 11), .meth 230), ((327, 12), .own 0), ((327, 15), .own 4), ((327, 16), .own 7), ((327, 17), .own 8), ((327, 18), .own 9), ((327, 19), .own 10), ((327, 23), .meth 317)]
  flds := [(327, fl02)]
set_option maxRecDepth 100000 in
theorem tab02_ok (p : Params) : (tab02 []).okB (hd02.heap_39 p) = true := by kernel_rfl
end Mine
open PySem PySem.W PyProof.Rows
namespace Mine
def frz02 : List (Addr × List V) := [(340, [.k (.ref 332), .k (.ref 333), .k (.ref 334), .k (.ref 335), .k (.ref 336), .k (.ref 337), .k (.ref 338), .k (.ref 339)]),
  (332, [.str "#.#.#.", .str ".#.#.#"]), (333, [.str "######", .str "......"]), (334, [.str "#..#.."]), (335, [.str "#..#..", .str "..#..#", .str ".#..#."]),
  (336, [.str "###...", .str "###...", .str "...###", .str "...###"]), (337, [.str "######", .str "#.....", .str "#..#..", .str "#.#.#.", .str "#..#..", .str "#....."]),
  (338, [.str "######", .str "###...", .str "##.##.", .str "#.#.#.", .str "#.##.#", .str "#...##"]), (339, [.str "#.#.#.", .str "...###", .str "#...##", .str ".#.#.#", .str "###...", .str ".###.."])]
def P0 : Params := { strHash := fun _ => 0, shareClass := fun _ => 0, mergeTok := id, idOf := fun _ => 0, idOfShared := fun _ _ => 0, followText := fun _ => true, idOfImm := fun _ => 0 }
def lamsOf (fd : FuncData) : List LamD := match fd.body with | .stmts ss => ss.filterMap (fun st => match st with | .If _ [.Return (some (.Lambda p b s _)) _] _ _ => some ⟨"mask_func.<locals>.<lambda>", p, b, s⟩ | _ => none) | _ => []
noncomputable def lam85 : List LamD := match fnAt (hd02.heap_39 P0) 85 with | some fd => lamsOf fd | none => []
noncomputable def lamX (line : Nat) : LamD := (lam85[(line - 21) / 2]?).getD ⟨"", ⟨[], [], none, [], [], none, []⟩, .Constant .none 0 default, default⟩
def nm85 : List (Str × Nat) := [("pattern", 0)]
noncomputable def tx85 : MSs :=
  (.cons (.ite (.ex (.cmp .Eq (.loc 0) (.cst (.int 0)))) 
  (.cons (.ret (.lam (lamX 21))) .nil) .nil) 
  (.cons (.ite (.ex (.cmp .Eq (.loc 0) (.cst (.int 1)))) 
  (.cons (.ret (.lam (lamX 23))) .nil) .nil) 
  (.cons (.ite (.ex (.cmp .Eq (.loc 0) (.cst (.int 2)))) 
  (.cons (.ret (.lam (lamX 25))) .nil) .nil) 
  (.cons (.ite (.ex (.cmp .Eq (.loc 0) (.cst (.int 3)))) 
  (.cons (.ret (.lam (lamX 27))) .nil) .nil) 
  (.cons (.ite (.ex (.cmp .Eq (.loc 0) (.cst (.int 4)))) 
  (.cons (.ret (.lam (lamX 29))) .nil) .nil) 
  (.cons (.ite (.ex (.cmp .Eq (.loc 0) (.cst (.int 5)))) 
  (.cons (.ret (.lam (lamX 31))) .nil) .nil) 
  (.cons (.ite (.ex (.cmp .Eq (.loc 0) (.cst (.int 6)))) 
  (.cons (.ret (.lam (lamX 33))) .nil) .nil) 
  (.cons (.ite (.ex (.cmp .Eq (.loc 0) (.cst (.int 7)))) 
  (.cons (.ret (.lam (lamX 35))) .nil) .nil) 
  (.cons (.raz (.loc 0)) .nil)))))))))
set_option maxRecDepth 100000 in
theorem cf85 (p : Params) : cmpFn (hd02.heap_39 p) (tab02 frz02).mc [(84, 80, "mask_func.<locals>.<lambda>")] nm85 85 60 = some tx85 := by kernel_rfl
def nm99 : List (Str × Nat) := [("version", 0)]
def tx99 : MSs :=
  (.cons (.ite (.bop false 
  (.cons (.ex (.cmp .Lt (.loc 0) (.cst (.int 1)))) 
  (.cons (.ex (.cmp .Gt (.loc 0) (.cst (.int 40)))) .nil))) (.cons .dead .nil) .nil) .nil)
set_option maxRecDepth 100000 in
theorem cf99 (p : Params) : cmpFn (hd02.heap_39 p) (tab02 frz02).mc [(84, 80, "mask_func.<locals>.<lambda>")] nm99 99 60 = some tx99 := by kernel_rfl
def nm160 : List (Str × Nat) := [("size", 0)]
def tx160 : MSs :=
  (.cons (.ite (.ex (.cmp .LtE (.bcall .int 
  (.cons (.loc 0) .nil)) (.cst (.int 0)))) (.cons .dead .nil) .nil) .nil)
set_option maxRecDepth 100000 in
theorem cf160 (p : Params) : cmpFn (hd02.heap_39 p) (tab02 frz02).mc [(84, 80, "mask_func.<locals>.<lambda>")] nm160 160 60 = some tx160 := by kernel_rfl
def nm167 : List (Str × Nat) := [("size", 0)]
def tx167 : MSs :=
  (.cons (.ite (.ex (.cmp .Lt (.bcall .int 
  (.cons (.loc 0) .nil)) (.cst (.int 0)))) (.cons .dead .nil) .nil) .nil)
set_option maxRecDepth 100000 in
theorem cf167 (p : Params) : cmpFn (hd02.heap_39 p) (tab02 frz02).mc [(84, 80, "mask_func.<locals>.<lambda>")] nm167 167 60 = some tx167 := by kernel_rfl
def nm174 : List (Str × Nat) := [("mask_pattern", 0)]
def tx174 : MSs :=
  (.cons (.ite (.ex (.cmp .Is (.loc 0) (.cst .none))) (.cons .retN .nil) .nil) 
  (.cons (.ite (.bnot (.ex (.isi .isInt (.loc 0)))) (.cons .dead .nil) .nil) 
  (.cons (.ite (.bop false 
  (.cons (.ex (.cmp .Lt (.loc 0) (.cst (.int 0)))) 
  (.cons (.ex (.cmp .Gt (.loc 0) (.cst (.int 7)))) .nil))) (.cons .dead .nil) .nil) .nil)))
set_option maxRecDepth 100000 in
theorem cf174 (p : Params) : cmpFn (hd02.heap_39 p) (tab02 frz02).mc [(84, 80, "mask_func.<locals>.<lambda>")] nm174 174 60 = some tx174 := by kernel_rfl
def nm189 : List (Str × Nat) := [("self", 0), ("version", 1), ("error_correction", 2), ("box_size", 3), ("border", 4), ("image_factory", 5), ("mask_pattern", 6)]
def tx189 : MSs :=
  (.cons (.expr (.fcall 160 
  (.cons (.loc 3) .nil) [] .nil)) 
  (.cons (.expr (.fcall 167 
  (.cons (.loc 4) .nil) [] .nil)) 
  (.cons (.asgnA (.loc 0) 4 (.loc 1)) 
  (.cons (.asgnA (.loc 0) 5 (.bcall .int 
  (.cons (.loc 2) .nil))) 
  (.cons (.asgnA (.loc 0) 6 (.bcall .int 
  (.cons (.loc 3) .nil))) 
  (.cons (.asgnA (.loc 0) 7 (.bcall .int 
  (.cons (.loc 4) .nil))) 
  (.cons (.asgnA (.loc 0) 8 (.loc 6)) 
  (.cons (.asgnA (.loc 0) 9 (.loc 5)) 
  (.cons (.asgnA (.loc 0) 10 .dict0) 
  (.cons (.expr (.meth (.loc 0) 11 .nil [] .nil)) .nil))))))))))
set_option maxRecDepth 100000 in
theorem cf189 (p : Params) : cmpFn (hd02.heap_39 p) (tab02 frz02).mc [(84, 80, "mask_func.<locals>.<lambda>")] nm189 189 60 = some tx189 := by kernel_rfl
def nm205 : List (Str × Nat) := [("self", 0), ("value", 1)]
def tx205 : MSs :=
  (.cons (.ite (.ex (.cmp .IsNot (.loc 1) (.cst .none))) 
  (.cons (.asgn (.nm 1) (.bcall .int 
  (.cons (.loc 1) .nil))) 
  (.cons (.expr (.fcall 99 
  (.cons (.loc 1) .nil) [] .nil)) .nil)) .nil) 
  (.cons (.asgnA (.loc 0) 12 (.loc 1)) .nil))
set_option maxRecDepth 100000 in
theorem cf205 (p : Params) : cmpFn (hd02.heap_39 p) (tab02 frz02).mc [(84, 80, "mask_func.<locals>.<lambda>")] nm205 205 60 = some tx205 := by kernel_rfl
def nm222 : List (Str × Nat) := [("self", 0), ("pattern", 1)]
def tx222 : MSs :=
  (.cons (.expr (.fcall 174 
  (.cons (.loc 1) .nil) [] .nil)) 
  (.cons (.asgnA (.loc 0) 15 (.loc 1)) .nil))
set_option maxRecDepth 100000 in
theorem cf222 (p : Params) : cmpFn (hd02.heap_39 p) (tab02 frz02).mc [(84, 80, "mask_func.<locals>.<lambda>")] nm222 222 60 = some tx222 := by kernel_rfl
def nm230 : List (Str × Nat) := [("self", 0)]
def tx230 : MSs :=
  (.cons (.asgnA (.loc 0) 16 (.list 
  (.cons (.list .nil) .nil))) 
  (.cons (.asgnA (.loc 0) 17 (.cst (.int 0))) 
  (.cons (.asgnA (.loc 0) 18 (.cst .none)) 
  (.cons (.asgnA (.loc 0) 19 (.list .nil)) .nil))))
set_option maxRecDepth 100000 in
theorem cf230 (p : Params) : cmpFn (hd02.heap_39 p) (tab02 frz02).mc [(84, 80, "mask_func.<locals>.<lambda>")] nm230 230 60 = some tx230 := by kernel_rfl
def nm317 : List (Str × Nat) := [("self", 0), ("data", 1), ("mask_pattern", 2), ("inc", 3), ("row", 4), ("bitIndex", 5), ("byteIndex", 6), ("mask_func", 7), ("data_len", 8), ("col", 9), ("col_range", 10), ("c", 11), ("dark", 12)]
def b317_1 : MSs :=
  (.cons (.ite (.ex (.cmp .Is (.sub (.sub (.attr (.loc 0) 16) (.loc 4)) (.loc 11)) (.cst .none))) (.cons (.asgn (.nm 12) (.cst (.bool false))) (.cons (.ite (.ex (.cmp .Lt (.loc 6) (.loc 8))) (.cons (.asgn (.nm 12) (.cmp .Eq (.bin .BitAnd (.bin .RShift (.sub (.loc 1) (.loc 6)) (.loc 5)) (.cst (.int 1))) (.cst (.int 1)))) .nil) .nil) (.cons (.ite (.ex (.lcall 7 (.cons (.loc 4) (.cons (.loc 11) .nil)))) (.cons (.asgn (.nm 12) (.bnot (.loc 12))) .nil) .nil) (.cons (.asgnS (.sub (.attr (.loc 0) 16) (.loc 4)) (.loc 11) (.loc 12)) (.cons (.augN 5 .Sub (.cst (.int 1))) (.cons (.ite (.ex (.cmp .Eq (.loc 5) (.neg (.cst (.int 1))))) (.cons (.augN 6 .Add (.cst (.int 1))) (.cons (.asgn (.nm 5) (.cst (.int 7))) .nil)) .nil) .nil)))))) .nil) .nil)
def b317_2 : MSs :=
  (.cons (.forr (.nm 11) (.it (.loc 10)) b317_1) (.cons (.augN 4 .Add (.loc 3)) (.cons (.ite (.bop false (.cons (.ex (.cmp .Lt (.loc 4) (.cst (.int 0)))) (.cons (.ex (.cmp .LtE (.attr (.loc 0) 17) (.loc 4))) .nil))) (.cons (.augN 4 .Sub (.loc 3)) (.cons (.asgn (.nm 3) (.neg (.loc 3))) (.cons .brk .nil))) .nil) .nil)))
def b317_3 : MSs :=
  (.cons (.ite (.ex (.cmp .LtE (.loc 9) (.cst (.int 6)))) (.cons (.augN 9 .Sub (.cst (.int 1))) .nil) .nil) (.cons (.asgn (.nm 10) (.tup (.cons (.loc 9) (.cons (.bin .Sub (.loc 9) (.cst (.int 1))) .nil)))) (.cons (.whl (.ex (.cst (.bool true))) b317_2) .nil)))
def tx317 : MSs :=
  (.cons (.asgn (.nm 3) (.neg (.cst (.int 1)))) 
  (.cons (.asgn (.nm 4) (.bin .Sub (.attr (.loc 0) 17) (.cst (.int 1)))) 
  (.cons (.asgn (.nm 5) (.cst (.int 7))) 
  (.cons (.asgn (.nm 6) (.cst (.int 0))) 
  (.cons (.asgn (.nm 7) (.fcall 85 
  (.cons (.loc 2) .nil) [] .nil)) 
  (.cons (.asgn (.nm 8) (.bcall .len 
  (.cons (.loc 1) .nil))) 
  (.cons (.forr (.nm 9) (.it (.bcall .range 
  (.cons (.bin .Sub (.attr (.loc 0) 17) (.cst (.int 1))) 
  (.cons (.cst (.int 0)) 
  (.cons (.neg (.cst (.int 2))) .nil))))) b317_3) .nil)))))))
set_option maxRecDepth 100000 in
theorem cf317 (p : Params) : cmpFn (hd02.heap_39 p) (tab02 frz02).mc [(84, 80, "mask_func.<locals>.<lambda>")] nm317 317 60 = some tx317 := by kernel_rfl
def nm345 : List (Str × Nat) := [("number", 0), ("side", 1), ("kind", 2), ("rest", 3), ("low", 4), ("many", 5), ("col", 6)]
def c345_1 : ME :=
  (.comp [6] (.it (.bcall .range (.cons (.loc 1) .nil))) (.last (.nm 6) .nil (.ite (.cmp2 (.loc 4) .LtE (.loc 6) .LtE (.bin .Add (.loc 4) (.loc 5))) (.cst .none) (.cmp .Eq (.bin .Mod (.bin .Add (.loc 6) (.loc 3)) (.cst (.int 3))) (.cst (.int 0))))))
def c345_2 : ME :=
  (.comp [6] (.it (.bcall .range (.cons (.loc 1) .nil))) (.last (.nm 6) .nil (.sub (.list (.cons (.cst .none) (.cons (.cst (.bool true)) (.cons (.cst .none) (.cons (.cst (.bool false)) .nil))))) (.bin .Mod (.bin .FloorDiv (.bin .Add (.loc 6) (.loc 3)) (.bin .Add (.cst (.int 1)) (.bin .Mod (.loc 3) (.cst (.int 3))))) (.cst (.int 4))))))
def c345_3 : ME :=
  (.comp [6] (.it (.bcall .range (.cons (.loc 1) .nil))) (.last (.nm 6) .nil (.ite (.ex (.cmp .Eq (.bin .Mod (.bin .FloorDiv (.loc 3) (.bin .Pow (.cst (.int 2)) (.bin .Mod (.loc 6) (.cst (.int 13))))) (.cst (.int 2))) (.cst (.int 1)))) (.cst .none) (.cmp .Eq (.bin .Mod (.loc 6) (.cst (.int 2))) (.cst (.int 0))))))
def tx345 : MSs :=
  (.cons (.asgn (.tp false [2, 3]) (.tup 
  (.cons (.bin .Mod (.loc 0) (.cst (.int 4))) 
  (.cons (.bin .FloorDiv (.loc 0) (.cst (.int 4))) .nil)))) 
  (.cons (.ite (.ex (.cmp .Eq (.loc 2) (.cst (.int 0)))) 
  (.cons (.ret (.bin .Mult (.list 
  (.cons (.cst .none) .nil)) (.loc 1))) .nil) .nil) 
  (.cons (.ite (.ex (.cmp .Eq (.loc 2) (.cst (.int 1)))) 
  (.cons (.asgn (.tp false [4, 5]) (.tup 
  (.cons (.bin .Mod (.loc 3) (.loc 1)) 
  (.cons (.bin .Mod (.bin .FloorDiv (.loc 3) (.loc 1)) (.loc 1)) .nil)))) 
  (.cons (.ret c345_1) .nil)) .nil) 
  (.cons (.ite (.ex (.cmp .Eq (.loc 2) (.cst (.int 2)))) 
  (.cons (.ret c345_2) .nil) .nil) 
  (.cons (.ret c345_3) .nil)))))
set_option maxRecDepth 100000 in
theorem cf345 (p : Params) : cmpFn (hd02.heap_39 p) (tab02 frz02).mc [(84, 80, "mask_func.<locals>.<lambda>")] nm345 345 60 = some tx345 := by kernel_rfl
def nm350 : List (Str × Nat) := [("side", 0), ("places", 1), ("turn", 2), ("right", 3), ("rows", 4), ("col", 5), ("row", 6)]
def c350_1 : ME :=
  (.comp [5] (.it (.bcall .range (.cons (.bin .Sub (.loc 0) (.cst (.int 1))) (.cons (.cst (.int 6)) (.cons (.neg (.cst (.int 2))) .nil))))) (.last (.nm 5) .nil (.loc 5)))
def c350_2 : ME :=
  (.comp [6, 5] (.it (.loc 4)) (.more (.nm 6) .nil (.it (.list (.cons (.loc 3) (.cons (.bin .Sub (.loc 3) (.cst (.int 1))) .nil)))) (.last (.nm 5) .nil (.tup (.cons (.loc 6) (.cons (.loc 5) .nil))))))
def b350_3 : MSs :=
  (.cons (.asgn (.nm 4) (.ite (.ex (.cmp .Eq (.bin .Mod (.loc 2) (.cst (.int 2))) (.cst (.int 0)))) (.bcall .range (.cons (.bin .Sub (.loc 0) (.cst (.int 1))) (.cons (.neg (.cst (.int 1))) (.cons (.neg (.cst (.int 1))) .nil)))) (.bcall .range (.cons (.loc 0) .nil)))) (.cons (.asgn (.nm 1) (.bin .Add (.loc 1) c350_2)) .nil))
def tx350 : MSs :=
  (.cons (.asgn (.nm 1) (.list .nil)) 
  (.cons (.forr (.tp false [2, 3]) (.enum (.bin .Add c350_1 (.list 
  (.cons (.cst (.int 5)) 
  (.cons (.cst (.int 3)) 
  (.cons (.cst (.int 1)) .nil)))))) b350_3) 
  (.cons (.ret (.loc 1)) .nil)))
set_option maxRecDepth 100000 in
theorem cf350 (p : Params) : cmpFn (hd02.heap_39 p) (tab02 frz02).mc [(84, 80, "mask_func.<locals>.<lambda>")] nm350 350 60 = some tx350 := by kernel_rfl
def nm357 : List (Str × Nat) := [("code", 0), ("words", 1), ("mask", 2)]
def tx357 : MSs :=
  (.cons (.tryR 
  (.cons (.expr (.meth (.loc 0) 23 
  (.cons (.loc 1) 
  (.cons (.loc 2) .nil)) [] .nil)) .nil) [("TypeError", (.bool true))]) 
  (.cons (.ret (.cst (.bool false))) .nil))
set_option maxRecDepth 100000 in
theorem cf357 (p : Params) : cmpFn (hd02.heap_39 p) (tab02 frz02).mc [(84, 80, "mask_func.<locals>.<lambda>")] nm357 357 60 = some tx357 := by kernel_rfl
def nm362 : List (Str × Nat) := [("script", 0), ("first", 1), ("second", 2), ("version", 3), ("mask", 4), ("side", 5), ("numbers", 6), ("laid", 7), ("words", 8), ("code", 9), ("handed", 10), ("due", 11), ("turn", 12), ("picture", 13), ("row", 14), ("col", 15), ("far", 16), ("bit", 17), ("cell", 18)]
def c362_1 : ME :=
  (.comp [14] (.it (.bcall .range (.cons (.loc 5) .nil))) (.last (.nm 14) .nil (.fcall 345 (.cons (.bin .Add (.sub (.loc 6) (.bin .Mod (.loc 14) (.bcall .len (.cons (.loc 6) .nil)))) (.bin .FloorDiv (.loc 14) (.bcall .len (.cons (.loc 6) .nil)))) (.cons (.loc 5) .nil)) [] .nil)))
def c362_2 : ME :=
  (.comp [12] (.it (.bcall .range (.cons (.bin .Mod (.loc 2) (.cst (.int 140))) .nil))) (.last (.nm 12) .nil (.bin .Mod (.bin .Add (.bin .Mult (.sub (.loc 6) (.bin .Mod (.loc 12) (.bcall .len (.cons (.loc 6) .nil)))) (.bin .Add (.bin .Mult (.cst (.int 2)) (.loc 12)) (.cst (.int 1)))) (.bin .Mult (.cst (.int 89)) (.loc 12))) (.cst (.int 256)))))
def c362_3 : ME :=
  (.comp [14] (.it (.loc 7)) (.last (.nm 14) .nil (.slc (.loc 14) .no .no .no)))
def c362_4 : ME :=
  (.comp [14] (.it (.loc 7)) (.last (.nm 14) .nil (.slc (.loc 14) .no .no .no)))
def b362_5 : MSs :=
  (.cons (.ite (.ex (.cmp .Is (.sub (.sub (.loc 7) (.loc 14)) (.loc 15)) (.cst .none))) (.cons (.asgn (.nm 17) (.bop true (.cons (.cmp .Lt (.loc 12) (.bin .Mult (.cst (.int 8)) (.bcall .len (.cons (.loc 8) .nil)))) (.cons (.cmp .Eq (.bin .Mod (.bin .RShift (.sub (.loc 8) (.bin .FloorDiv (.loc 12) (.cst (.int 8)))) (.bin .Sub (.cst (.int 7)) (.bin .Mod (.loc 12) (.cst (.int 8))))) (.cst (.int 2))) (.cst (.int 1))) .nil)))) (.cons (.asgnS (.sub (.loc 11) (.loc 14)) (.loc 15) (.cmp .NotEq (.loc 17) (.cmp .Eq (.sub (.sub (.loc 13) (.bin .Mod (.loc 14) (.bcall .len (.cons (.loc 13) .nil)))) (.bin .Mod (.loc 15) (.cst (.int 6)))) (.cst (.str "#"))))) (.cons (.augN 12 .Add (.cst (.int 1))) .nil))) .nil) .nil)
def c362_6 : ME :=
  (.comp [18] (.it (.sub (.attr (.loc 9) 16) (.bin .Mod (.loc 2) (.loc 5)))) (.last (.nm 18) (.cons (.bop true (.cons (.ex (.cmp .IsNot (.loc 18) (.cst .none))) (.cons (.bnot (.ex (.isi .isBool (.loc 18)))) .nil))) .nil) (.loc 18)))
def tx362 : MSs :=
  (.cons (.asgn (.tp false [1, 2]) (.slc (.bin .Add (.slc (.loc 0) .no (.yes (.cst (.int 2))) .no) (.list 
  (.cons (.cst (.int 0)) 
  (.cons (.cst (.int 0)) .nil)))) .no (.yes (.cst (.int 2))) .no)) 
  (.cons (.asgn (.tp true [3, 4]) (.tup 
  (.cons (.bin .Add (.cst (.int 1)) (.bin .Mod (.loc 1) (.cst (.int 4)))) 
  (.cons (.bin .Mod (.bin .FloorDiv (.loc 1) (.cst (.int 4))) (.cst (.int 8))) .nil)))) 
  (.cons (.asgn (.nm 5) (.bin .Add (.bin .Mult (.cst (.int 4)) (.loc 3)) (.cst (.int 17)))) 
  (.cons (.asgn (.nm 6) (.bop false 
  (.cons (.slc (.loc 0) (.yes (.cst (.int 2))) (.yes (.cst (.int 14))) .no) 
  (.cons (.list 
  (.cons (.loc 2) .nil)) .nil)))) 
  (.cons (.asgn (.nm 7) c362_1) 
  (.cons (.asgn (.nm 8) c362_2) 
  (.cons (.asgn (.nm 9) (.fcall 327 .nil ["version"] 
  (.cons (.loc 3) .nil))) 
  (.cons (.asgnA (.loc 9) 17 (.loc 5)) 
  (.cons (.asgnA (.loc 9) 16 c362_3) 
  (.cons (.asgn (.nm 10) (.slc (.loc 8) .no .no .no)) 
  (.cons (.ite (.ex (.cmp .Eq (.bin .Mod (.bin .FloorDiv (.loc 1) (.cst (.int 32))) (.cst (.int 4))) (.cst (.int 3)))) 
  (.cons (.asgn (.nm 16) (.bin .Mod (.bin .FloorDiv (.loc 2) (.cst (.int 140))) (.cst (.int 1000)))) 
  (.cons (.ite (.bop false 
  (.cons (.bnot (.ex (.fcall 357 
  (.cons (.loc 9) 
  (.cons (.loc 10) 
  (.cons (.ite (.ex (.cmp .Eq (.bin .Mod (.bin .FloorDiv (.loc 1) (.cst (.int 128))) (.cst (.int 2))) (.cst (.int 0)))) (.bin .Add (.cst (.int 8)) (.loc 16)) (.bin .Sub (.neg (.cst (.int 1))) (.loc 16))) .nil))) [] .nil))) 
  (.cons (.ex (.cmp .NotEq (.attr (.loc 9) 16) (.loc 7))) .nil))) 
  (.cons (.ret (.cst (.bool false))) .nil) .nil) .nil)) .nil) 
  (.cons (.expr (.meth (.loc 9) 23 
  (.cons (.loc 10) 
  (.cons (.loc 4) .nil)) [] .nil)) 
  (.cons (.asgn (.tp true [11, 12]) (.tup (.cons c362_4 
  (.cons (.cst (.int 0)) .nil)))) 
  (.cons (.asgn (.nm 13) (.sub (.cst (.k (.ref 340))) (.loc 4))) 
  (.cons (.forr (.tp false [14, 15]) (.it (.fcall 350 
  (.cons (.loc 5) .nil) [] .nil)) b362_5) 
  (.cons (.ite (.bop false 
  (.cons (.ex (.cmp .NotEq (.attr (.loc 9) 16) (.loc 11))) 
  (.cons (.ex (.cmp .NotEq (.loc 10) (.loc 8))) .nil))) 
  (.cons (.ret (.cst (.bool false))) .nil) .nil) 
  (.cons (.ret (.cmp .Eq c362_6 (.list .nil))) .nil)))))))))))))))))
set_option maxRecDepth 100000 in
theorem cf362 (p : Params) : cmpFn (hd02.heap_39 p) (tab02 frz02).mc [(84, 80, "mask_func.<locals>.<lambda>")] nm362 362 60 = some tx362 := by kernel_rfl
end Mine
open PySem PySem.W PyProof.Rows
namespace Mine
set_option maxRecDepth 100000
def ldnm : List (Str × Nat) := [("i", 0), ("j", 1)]
noncomputable def lt0 : Option Ld := cmpL (tab02 frz02).mc 60 (lamX 21)
theorem cl21 : cmpL (tab02 frz02).mc 60 (lamX 21) = some ⟨ldnm, 2, 2, .cmp .Eq (.bin .Mod (.bin .Add (.loc 0) (.loc 1)) (.cst (.int 2))) (.cst (.int 0))⟩ := by kernel_rfl
theorem cl23 : cmpL (tab02 frz02).mc 60 (lamX 23) = some ⟨ldnm, 2, 2, .cmp .Eq (.bin .Mod (.loc 0) (.cst (.int 2))) (.cst (.int 0))⟩ := by kernel_rfl
theorem cl25 : cmpL (tab02 frz02).mc 60 (lamX 25) = some ⟨ldnm, 2, 2, .cmp .Eq (.bin .Mod (.loc 1) (.cst (.int 3))) (.cst (.int 0))⟩ := by kernel_rfl
theorem cl27 : cmpL (tab02 frz02).mc 60 (lamX 27) = some ⟨ldnm, 2, 2, .cmp .Eq (.bin .Mod (.bin .Add (.loc 0) (.loc 1)) (.cst (.int 3))) (.cst (.int 0))⟩ := by kernel_rfl
theorem cl29 : cmpL (tab02 frz02).mc 60 (lamX 29) = some ⟨ldnm, 2, 2, .cmp .Eq (.bin .Mod (.bin .Add (.bcall .floor (.cons (.bin .Div (.loc 0) (.cst (.int 2))) .nil)) (.bcall .floor (.cons (.bin .Div (.loc 1) (.cst (.int 3))) .nil))) (.cst (.int 2))) (.cst (.int 0))⟩ := by kernel_rfl
theorem cl31 : cmpL (tab02 frz02).mc 60 (lamX 31) = some ⟨ldnm, 2, 2, .cmp .Eq (.bin .Add (.bin .Mod (.bin .Mult (.loc 0) (.loc 1)) (.cst (.int 2))) (.bin .Mod (.bin .Mult (.loc 0) (.loc 1)) (.cst (.int 3)))) (.cst (.int 0))⟩ := by kernel_rfl
theorem cl33 : cmpL (tab02 frz02).mc 60 (lamX 33) = some ⟨ldnm, 2, 2, .cmp .Eq (.bin .Mod (.bin .Add (.bin .Mod (.bin .Mult (.loc 0) (.loc 1)) (.cst (.int 2))) (.bin .Mod (.bin .Mult (.loc 0) (.loc 1)) (.cst (.int 3)))) (.cst (.int 2))) (.cst (.int 0))⟩ := by kernel_rfl
theorem cl35 : cmpL (tab02 frz02).mc 60 (lamX 35) = some ⟨ldnm, 2, 2, .cmp .Eq (.bin .Mod (.bin .Add (.bin .Mod (.bin .Mult (.loc 0) (.loc 1)) (.cst (.int 3))) (.bin .Mod (.bin .Add (.loc 0) (.loc 1)) (.cst (.int 2)))) (.cst (.int 2))) (.cst (.int 0))⟩ := by kernel_rfl
end Mine
open PySem PySem.W PyProof.Rows
namespace Mine
set_option maxRecDepth 100000
def tabs02 : List (Addr × Addr × Str) := [(84, 80, "mask_func.<locals>.<lambda>")]
theorem tab02_okF (p : Params) : (tab02 frz02).okB (hd02.heap_39 p) = true := by kernel_rfl
theorem bd85 (p : Params) : bdPlain (hd02.heap_39 p) 85 1 = true := by kernel_rfl
theorem bd99 (p : Params) : bdPlain (hd02.heap_39 p) 99 1 = true := by kernel_rfl
theorem bd160 (p : Params) : bdPlain (hd02.heap_39 p) 160 1 = true := by kernel_rfl
theorem bd167 (p : Params) : bdPlain (hd02.heap_39 p) 167 1 = true := by kernel_rfl
theorem bd174 (p : Params) : bdPlain (hd02.heap_39 p) 174 1 = true := by kernel_rfl
theorem bd205 (p : Params) : bdPlain (hd02.heap_39 p) 205 2 = true := by kernel_rfl
theorem bd222 (p : Params) : bdPlain (hd02.heap_39 p) 222 2 = true := by kernel_rfl
theorem bd230 (p : Params) : bdPlain (hd02.heap_39 p) 230 1 = true := by kernel_rfl
theorem bd317 (p : Params) : bdPlain (hd02.heap_39 p) 317 3 = true := by kernel_rfl
theorem bd345 (p : Params) : bdPlain (hd02.heap_39 p) 345 2 = true := by kernel_rfl
theorem bd350 (p : Params) : bdPlain (hd02.heap_39 p) 350 1 = true := by kernel_rfl
theorem bd357 (p : Params) : bdPlain (hd02.heap_39 p) 357 3 = true := by kernel_rfl
end Mine
open PySem PySem.W PySem.Calls PyProof.Rows PySem.Spec
namespace Mine
set_option maxRecDepth 100000
def ps189 : List Str := ["self", "version", "error_correction", "box_size", "border", "image_factory", "mask_pattern"]
def bind189 : List V → List (Str × V) → Option (List V)
  | [a], [(k, v)] => if k == ("version" : Str) then some [a, v, .int 0, .int 10, .int 4, .none, .none] else none
  | _, _ => none
theorem kw189 (p : Params) : bdKw (hd02.heap_39 p) 189 ps189 [.none, .int 0, .int 10, .int 4, .none, .none] = true := by kernel_rfl
theorem bd189 {c : Cx} {p : Params} (h : c.K = hd02.heap_39 p) : BdOk c 189 bind189 := by
  refine bd_kw (names := ps189) (ds := [.none, .int 0, .int 10, .int 4, .none, .none]) (by rw [h]; exact kw189 p) fun as ks bs e => ?_
  unfold bind189 at e
  split at e
  · rename_i a k v
    split at e
    · rename_i hk
      rw [beq_iff_eq] at hk
      subst hk
      cases e
      refine ⟨rfl, fun μ hh rs ws its hrs hws hds => ?_⟩
      obtain ⟨r, _, rfl, r1, r2⟩ := hrs
      cases r2
      obtain ⟨wn, wv⟩ := hws
      match ws, wn with
      | [(k', w)], wn =>
        have : k' = ("version" : Str) := by simpa using wn
        subst this
        obtain ⟨w', _, e1, w1, w2⟩ := wv
        cases w2
        cases e1
        obtain ⟨d1, _, e1, a1, hds⟩ := hds
        obtain ⟨d2, _, rfl, a2, hds⟩ := hds
        obtain ⟨d3, _, rfl, a3, hds⟩ := hds
        obtain ⟨d4, _, rfl, a4, hds⟩ := hds
        obtain ⟨d5, _, rfl, a5, hds⟩ := hds
        obtain ⟨d6, _, rfl, a6, hds⟩ := hds
        cases hds
        refine ⟨[r, w, d2, d3, d4, d5, d6], .cons r1 (.cons w1 (.cons a2 (.cons a3 (.cons a4 (.cons a5 (.cons a6 .nil)))))), fun fd => ⟨_, rfl, ?_⟩⟩
        obtain ⟨l⟩ := its
        dsimp only at e1
        subst e1
        rfl
    · cases e
  · cases e
end Mine
open PySem PySem.W PySem.Calls PyProof.Rows PySem.Spec
set_option linter.unusedVariables false
namespace Mine
theorem ph_fn {S : Sx} {F : Addr → Option Fu} {L : LamD → Option Ld} {n : Nat} {f : Addr} {d : Fd} {as bs : List V} {ks : List (Str × V)} {σ : Hp} {Q : V → Hp → Prop} {X : XP} (hf : F f = some (.fn d)) (hb : d.bind as ks = some bs) (hl : bs.length ≤ d.np)
    (h : wpSs S (Ph S F L n) d.body (bs ++ List.replicate (d.np - bs.length) .undef) σ (fun fl _ σ' => match fl with | .ret v => ok v ∧ Q v σ' | .next => Q .none σ' | _ => False) X) : Ph S F L (n + 1) (.fn f) as ks σ Q X := by
  simp only [Ph, hf]; exact ⟨bs, hb, hl, h⟩
theorem ph_cls {S : Sx} {F : Addr → Option Fu} {L : LamD → Option Ld} {n : Nat} {f init : Addr} {nf : Nat} {as : List V} {ks : List (Str × V)} {σ : Hp} {Q : V → Hp → Prop} {X : XP} (hf : F f = some (.cls nf init))
    (h : Ph S F L n (.fn init) (.ref σ.nx :: as) ks (σ.new (.inst f (List.replicate nf .undef))) (fun v σ' => v = .none ∧ Q (.ref σ.nx) σ') X) : Ph S F L (n + 1) (.fn f) as ks σ Q X := by
  simp only [Ph, hf]; exact h
theorem ph_lam {S : Sx} {F : Addr → Option Fu} {L : LamD → Option Ld} {n : Nat} {ld : LamD} {d : Ld} {as : List V} {σ : Hp} {Q : V → Hp → Prop} {X : XP} (hf : L ld = some d) (ha : as.length = d.na) (hl : as.length ≤ d.np)
    (h : wpE S (Ph S F L n) d.body (as ++ List.replicate (d.np - as.length) .undef) σ (fun v σ' => ok v ∧ Q v σ') fun _ _ => False) : Ph S F L (n + 1) (.lam ld) as [] σ Q X := by
  simp only [Ph, hf]; exact ⟨ha, trivial, hl, h⟩
noncomputable def fns02 : List (Addr × Fu) := [(85, .fn ⟨nm85, 1, bindP 1, tx85⟩), (99, .fn ⟨nm99, 1, bindP 1, tx99⟩), (160, .fn ⟨nm160, 1, bindP 1, tx160⟩), (167, .fn ⟨nm167, 1, bindP 1, tx167⟩), (174, .fn ⟨nm174, 1, bindP 1, tx174⟩),
  (189, .fn ⟨nm189, 7, bind189, tx189⟩), (205, .fn ⟨nm205, 2, bindP 2, tx205⟩), (222, .fn ⟨nm222, 2, bindP 2, tx222⟩), (230, .fn ⟨nm230, 1, bindP 1, tx230⟩), (317, .fn ⟨nm317, 13, bindP 3, tx317⟩), (327, .cls 11 189),
  (345, .fn ⟨nm345, 7, bindP 2, tx345⟩), (350, .fn ⟨nm350, 7, bindP 1, tx350⟩), (357, .fn ⟨nm357, 3, bindP 3, tx357⟩)]
noncomputable def F02 (f : Addr) : Option Fu := fns02.lookup f
noncomputable def L02 (ld : LamD) : Option Ld := cmpL (tab02 frz02).mc 60 ld
def sx02 (A : Addr) (ns : List Int) : Sx where
  frz := fun a => match frz02.lookup a with | some vs => some vs | none => if a = A then some (ns.map .int) else none
  nms := (tab02 frz02).ids
  ak := akOf (tab02 frz02).ak
section
variable {A : Addr} {ns : List Int} {n : Nat} {σ : Hp} {Q : V → Hp → Prop} {X : XP}
theorem ak4 : (sx02 A ns).ak 327 4 = .prop 196 (some 205) := rfl
theorem ak5 : (sx02 A ns).ak 327 5 = .own 1 := rfl
theorem ak6 : (sx02 A ns).ak 327 6 = .own 2 := rfl
theorem ak7 : (sx02 A ns).ak 327 7 = .own 3 := rfl
theorem ak8 : (sx02 A ns).ak 327 8 = .prop 213 (some 222) := rfl
theorem ak9 : (sx02 A ns).ak 327 9 = .own 5 := rfl
theorem ak10 : (sx02 A ns).ak 327 10 = .own 6 := rfl
theorem ak11 : (sx02 A ns).ak 327 11 = .meth 230 := rfl
theorem ak12 : (sx02 A ns).ak 327 12 = .own 0 := rfl
theorem ak15 : (sx02 A ns).ak 327 15 = .own 4 := rfl
theorem ak16 : (sx02 A ns).ak 327 16 = .own 7 := rfl
theorem ak17 : (sx02 A ns).ak 327 17 = .own 8 := rfl
theorem ak18 : (sx02 A ns).ak 327 18 = .own 9 := rfl
theorem ak19 : (sx02 A ns).ak 327 19 = .own 10 := rfl
theorem ak23 : (sx02 A ns).ak 327 23 = .meth 317 := rfl
theorem sp99 {v : Int} (h1 : 1 ≤ v) (h2 : v ≤ 40) (hq : Q .none σ) : Ph (sx02 A ns) F02 L02 (n + 1) (.fn 99) [.int v] [] σ Q X := by
  refine ph_fn rfl rfl (Nat.le_refl _) ?_
  have a : ¬ v < 1 := by omega
  have b : ¬ 40 < v := by omega
  simp [wpSs, wpS, wpT, wpTs, wpE, wpEs, wpO, wpB, wpI, pLoc, pCmp, pEq, pTruth, pBin, pInt, pAug, pSub, pBcall, pBmeth, pAssign, pAttr, pSetAttr, pMeth, pLcall, pSetItem, pSlc, pNew, isNoneV, unp, putAll, items, listItems, itOf, itOk, clr, Hp.new_at, Hp.set_at, Hp.new_nx, Hp.set_nx, tx99, a, b, hq]
theorem sp160 {v : Int} (h1 : 0 < v) (hq : Q .none σ) : Ph (sx02 A ns) F02 L02 (n + 1) (.fn 160) [.int v] [] σ Q X := by
  refine ph_fn rfl rfl (Nat.le_refl _) ?_
  have a : ¬ v ≤ 0 := by omega
  simp [wpSs, wpS, wpT, wpTs, wpE, wpEs, wpO, wpB, wpI, pLoc, pCmp, pEq, pTruth, pBin, pInt, pAug, pSub, pBcall, pBmeth, pAssign, pAttr, pSetAttr, pMeth, pLcall, pSetItem, pSlc, pNew, isNoneV, unp, putAll, items, listItems, itOf, itOk, clr, Hp.new_at, Hp.set_at, Hp.new_nx, Hp.set_nx, tx160, a, hq]
theorem sp167 {v : Int} (h1 : 0 ≤ v) (hq : Q .none σ) : Ph (sx02 A ns) F02 L02 (n + 1) (.fn 167) [.int v] [] σ Q X := by
  refine ph_fn rfl rfl (Nat.le_refl _) ?_
  have a : ¬ v < 0 := by omega
  simp [wpSs, wpS, wpT, wpTs, wpE, wpEs, wpO, wpB, wpI, pLoc, pCmp, pEq, pTruth, pBin, pInt, pAug, pSub, pBcall, pBmeth, pAssign, pAttr, pSetAttr, pMeth, pLcall, pSetItem, pSlc, pNew, isNoneV, unp, putAll, items, listItems, itOf, itOk, clr, Hp.new_at, Hp.set_at, Hp.new_nx, Hp.set_nx, tx167, a, hq]
theorem sp174n (hq : Q .none σ) : Ph (sx02 A ns) F02 L02 (n + 1) (.fn 174) [.none] [] σ Q X := by
  refine ph_fn rfl rfl (Nat.le_refl _) ?_
  simp [wpSs, wpS, wpT, wpTs, wpE, wpEs, wpO, wpB, wpI, pLoc, pCmp, pEq, pTruth, pBin, pInt, pAug, pSub, pBcall, pBmeth, pAssign, pAttr, pSetAttr, pMeth, pLcall, pSetItem, pSlc, pNew, isNoneV, unp, putAll, items, listItems, itOf, itOk, clr, Hp.new_at, Hp.set_at, Hp.new_nx, Hp.set_nx, tx174, hq]
theorem sp205 {v : Int} {x : Nat} {fs : List V} (h1 : 1 ≤ v) (h2 : v ≤ 40) (hx : σ.at_ x = some (.inst 327 fs)) (hl : fs.length = 11) (hq : Q .none (σ.set x (.inst 327 (fs.set 0 (.int v))))) : Ph (sx02 A ns) F02 L02 (n + 2) (.fn 205) [.ref x, .int v] [] σ Q X := by
  refine ph_fn rfl rfl (Nat.le_refl _) ?_
  simp [wpSs, wpS, wpT, wpTs, wpE, wpEs, wpO, wpB, wpI, pLoc, pCmp, pEq, pTruth, pBin, pInt, pAug, pSub, pBcall, pBmeth, pAssign, pAttr, pSetAttr, pMeth, pLcall, pSetItem, pSlc, pNew, isNoneV, unp, putAll, items, listItems, itOf, itOk, clr, Hp.new_at, Hp.set_at, Hp.new_nx, Hp.set_nx, tx205]
  refine sp99 h1 h2 ?_
  simp [wpSs, wpS, wpT, wpTs, wpE, wpEs, wpO, wpB, wpI, pLoc, pCmp, pEq, pTruth, pBin, pInt, pAug, pSub, pBcall, pBmeth, pAssign, pAttr, pSetAttr, pMeth, pLcall, pSetItem, pSlc, pNew, isNoneV, unp, putAll, items, listItems, itOf, itOk, clr, Hp.new_at, Hp.set_at, Hp.new_nx, Hp.set_nx, hx, ak12, hl, hq]
theorem sp222n {x : Nat} {fs : List V} (hx : σ.at_ x = some (.inst 327 fs)) (hl : fs.length = 11) (hq : Q .none (σ.set x (.inst 327 (fs.set 4 .none)))) : Ph (sx02 A ns) F02 L02 (n + 2) (.fn 222) [.ref x, .none] [] σ Q X := by
  refine ph_fn rfl rfl (Nat.le_refl _) ?_
  simp [wpSs, wpS, wpT, wpTs, wpE, wpEs, wpO, wpB, wpI, pLoc, pCmp, pEq, pTruth, pBin, pInt, pAug, pSub, pBcall, pBmeth, pAssign, pAttr, pSetAttr, pMeth, pLcall, pSetItem, pSlc, pNew, isNoneV, unp, putAll, items, listItems, itOf, itOk, clr, Hp.new_at, Hp.set_at, Hp.new_nx, Hp.set_nx, tx222]
  refine sp174n ?_
  simp [wpSs, wpS, wpT, wpTs, wpE, wpEs, wpO, wpB, wpI, pLoc, pCmp, pEq, pTruth, pBin, pInt, pAug, pSub, pBcall, pBmeth, pAssign, pAttr, pSetAttr, pMeth, pLcall, pSetItem, pSlc, pNew, isNoneV, unp, putAll, items, listItems, itOf, itOk, clr, Hp.new_at, Hp.set_at, Hp.new_nx, Hp.set_nx, hx, ak15, hl, hq]
end
end Mine
open PySem PySem.W PySem.Calls PyProof.Rows PySem.Spec
set_option linter.unusedVariables false
set_option linter.unusedSimpArgs false
namespace Mine
section
variable {A : Addr} {ns : List Int} {n : Nat} {σ : Hp} {Q : V → Hp → Prop} {X : XP}
theorem sp230 {x : Nat} {a0 a1 a2 a3 a4 a5 a6 a7 a8 a9 a10 : V} (hx : σ.at_ x = some (.inst 327 [a0, a1, a2, a3, a4, a5, a6, a7, a8, a9, a10])) (hl : x < σ.nx)
    (hq : ∀ σ' m dl, Ext (· = x) σ σ' → σ'.at_ x = some (.inst 327 [a0, a1, a2, a3, a4, a5, a6, .ref m, .int 0, .none, .ref dl]) → Q .none σ') : Ph (sx02 A ns) F02 L02 (n + 1) (.fn 230) [.ref x] [] σ Q X := by
  refine ph_fn rfl rfl (Nat.le_refl _) ?_
  have e0 : x ≠ σ.nx := by omega
  have e1 : x ≠ σ.nx + 1 := by omega
  have e2 : x ≠ σ.nx + 1 + 1 := by omega
  simp [wpSs, wpS, wpT, wpTs, wpE, wpEs, wpO, wpB, wpI, pLoc, pCmp, pEq, pTruth, pBin, pInt, pAug, pSub, pBcall, pBmeth, pAssign, pAttr, pSetAttr, pMeth, pLcall, pSetItem, pSlc, pNew, isNoneV, unp, putAll, items, listItems, itOf, itOk, clr, Hp.new_at, Hp.set_at, Hp.new_nx, Hp.set_nx, tx230, ak16, ak17, ak18, ak19, hx, lim, e0, e1, e2]
  refine hq _ (σ.nx + 1) (σ.nx + 2) ?_ ?_
  · (repeat (first | assumption | exact Ext.refl | (refine Ext.setR ?_ (by simp)) | refine Ext.newR ?_))
  · simp [Hp.set_at]
theorem sp189 {x : Nat} {v : Int} (h1 : 1 ≤ v) (h2 : v ≤ 40) (hx : σ.at_ x = some (.inst 327 (List.replicate 11 .undef))) (hl : x < σ.nx)
    (hq : ∀ σ' p m dl, Ext (· = x) σ σ' → σ'.at_ x = some (.inst 327 [.int v, .int 0, .int 10, .int 4, .none, .none, .ref p, .ref m, .int 0, .none, .ref dl]) → Q .none σ') :
    Ph (sx02 A ns) F02 L02 (n + 3) (.fn 189) [.ref x] [("version", .int v)] σ Q X := by
  refine ph_fn rfl rfl (Nat.le_refl _) ?_
  have e0 : x ≠ σ.nx := by omega
  simp [wpSs, wpS, wpT, wpTs, wpE, wpEs, wpO, wpB, wpI, pLoc, pCmp, pEq, pTruth, pBin, pInt, pAug, pSub, pBcall, pBmeth, pAssign, pAttr, pSetAttr, pMeth, pLcall, pSetItem, pSlc, pNew, isNoneV, unp, putAll, items, listItems, itOf, itOk, clr, Hp.new_at, Hp.set_at, Hp.new_nx, Hp.set_nx, tx189]
  refine sp160 (by decide) ?_
  refine sp167 (by decide) ?_
  simp [wpSs, wpS, wpT, wpTs, wpE, wpEs, wpO, wpB, wpI, pLoc, pCmp, pEq, pTruth, pBin, pInt, pAug, pSub, pBcall, pBmeth, pAssign, pAttr, pSetAttr, pMeth, pLcall, pSetItem, pSlc, pNew, isNoneV, unp, putAll, items, listItems, itOf, itOk, clr, Hp.new_at, Hp.set_at, Hp.new_nx, Hp.set_nx, hx, ak4]
  refine sp205 h1 h2 hx rfl ?_
  simp [wpSs, wpS, wpT, wpTs, wpE, wpEs, wpO, wpB, wpI, pLoc, pCmp, pEq, pTruth, pBin, pInt, pAug, pSub, pBcall, pBmeth, pAssign, pAttr, pSetAttr, pMeth, pLcall, pSetItem, pSlc, pNew, isNoneV, unp, putAll, items, listItems, itOf, itOk, clr, Hp.new_at, Hp.set_at, Hp.new_nx, Hp.set_nx, ak5, ak6, ak7, ak8]
  refine sp222n (by simp [Hp.set_at]; rfl) rfl ?_
  simp [wpSs, wpS, wpT, wpTs, wpE, wpEs, wpO, wpB, wpI, pLoc, pCmp, pEq, pTruth, pBin, pInt, pAug, pSub, pBcall, pBmeth, pAssign, pAttr, pSetAttr, pMeth, pLcall, pSetItem, pSlc, pNew, isNoneV, unp, putAll, items, listItems, itOf, itOk, clr, Hp.new_at, Hp.set_at, Hp.new_nx, Hp.set_nx, ak9, ak10, ak11, e0]
  refine sp230 (x := x) Hp.set_self (by simp [Hp.set_nx, Hp.new_nx]; omega) fun σ' m dl a b => ?_
  refine hq σ' σ.nx m dl ?_ b
  refine Ext.trans ?_ a
  (repeat (first | assumption | exact Ext.refl | (refine Ext.setR ?_ (by simp)) | refine Ext.newR ?_))
theorem sp327 {v : Int} (h1 : 1 ≤ v) (h2 : v ≤ 40)
    (hq : ∀ x σ' p m dl, Kp σ σ' → σ.nx ≤ x → x < σ'.nx → σ'.at_ x = some (.inst 327 [.int v, .int 0, .int 10, .int 4, .none, .none, .ref p, .ref m, .int 0, .none, .ref dl]) → Q (.ref x) σ') :
    Ph (sx02 A ns) F02 L02 (n + 4) (.fn 327) [] [("version", .int v)] σ Q X := by
  refine ph_cls rfl (sp189 h1 h2 (Hp.new_self (σ := σ)) (Nat.lt_succ_self _) fun σ' p m dl a b => ⟨rfl, hq _ _ p m dl ?_ (Nat.le_refl _) (Nat.lt_of_lt_of_le (Nat.lt_succ_self _) a.1) b⟩)
  exact a.ofNew (Nat.le_refl _)
end
end Mine
open PySem PySem.W PySem.Calls PyProof.Rows PySem.Spec
set_option linter.unusedVariables false
set_option linter.unusedSimpArgs false
namespace Mine
def picV : Nat → List Str
  | 0 => ["#.#.#.", ".#.#.#"] | 1 => ["######", "......"] | 2 => ["#..#.."] | 3 => ["#..#..", "..#..#", ".#..#."] | 4 => ["###...", "###...", "...###", "...###"]
  | 5 => ["######", "#.....", "#..#..", "#.#.#.", "#..#..", "#....."] | 6 => ["######", "###...", "##.##.", "#.#.#.", "#.##.#", "#...##"]
  | _ => ["#.#.#.", "...###", "#...##", ".#.#.#", "###...", ".###.."]
/-- is the mask's picture dark at a place -/
def dk (m i j : Nat) : Bool := ((((picV m)[i % (picV m).length]?).getD "").cps[j % 6]?).getD 0 == 35
/-- the masks as they are reckoned -/
def mk (m : Nat) (i j : Int) : Bool := match m with
  | 0 => (i + j).fmod 2 == 0
  | 1 => i.fmod 2 == 0
  | 2 => j.fmod 3 == 0
  | 3 => (i + j).fmod 3 == 0
  | 4 => (i.fdiv 2 + j.fdiv 3).fmod 2 == 0
  | 5 => (i * j).fmod 2 + (i * j).fmod 3 == 0
  | 6 => ((i * j).fmod 2 + (i * j).fmod 3).fmod 2 == 0
  | _ => ((i * j).fmod 3 + (i + j).fmod 2).fmod 2 == 0
theorem mk_dk (m : Fin 8) (i j : Fin 46) : mk m i j = dk m i j := by revert m i j; decide +kernel
def fq (i d : Int) : UInt64 := Float64.ofFrac (decide (i < 0) != decide (d < 0)) i.natAbs d.natAbs
theorem fq2 (i : Fin 46) : Float64.isInf (fq i 2) = false ∧ Float64.isFinite (fq i 2) = true ∧ Flt.toInt Float64.floorOf (fq i 2) = (i : Int).fdiv 2 := by revert i; decide +kernel
theorem fq3 (i : Fin 46) : Float64.isInf (fq i 3) = false ∧ Float64.isFinite (fq i 3) = true ∧ Flt.toInt Float64.floorOf (fq i 3) = (i : Int).fdiv 3 := by revert i; decide +kernel
end Mine
open PySem PySem.W PySem.Calls PyProof.Rows PySem.Spec
set_option linter.unusedVariables false
set_option linter.unusedSimpArgs false
namespace Mine
section
variable {A : Addr} {ns : List Int} {n : Nat} {σ : Hp} {Q : V → Hp → Prop} {X : XP}
theorem mulOk_s {a b : Int} (h1 : -(2 ^ 64) < b) (h2 : b < 2 ^ 64) : IntMulOk a b := .of_right (intBits_le_64 h1 h2)
theorem lt8 {m : Nat} (h : m < 8) : m = 0 ∨ m = 1 ∨ m = 2 ∨ m = 3 ∨ m = 4 ∨ m = 5 ∨ m = 6 ∨ m = 7 := by omega
theorem splam {m i j : Nat} (hm : m < 8) (hi : i < 46) (hj : j < 46) (hq : Q (.bool (dk m i j)) σ) : Ph (sx02 A ns) F02 L02 (n + 1) (.lam (lamX (21 + 2 * m))) [.int i, .int j] [] σ Q X := by
  have e := mk_dk ⟨m, hm⟩ ⟨i, hi⟩ ⟨j, hj⟩
  dsimp only at e
  have mo : IntMulOk i j := mulOk_s (by omega) (by omega)
  obtain ⟨a1, a2, a3⟩ := fq2 ⟨i, hi⟩
  obtain ⟨b1, b2, b3⟩ := fq3 ⟨j, hj⟩
  unfold fq at a1 a2 a3 b1 b2 b3
  dsimp only at a1 a2 a3 b1 b2 b3
  rw [← e] at hq
  rcases lt8 hm with rfl | rfl | rfl | rfl | rfl | rfl | rfl | rfl
  · exact ph_lam cl21 rfl (Nat.le_refl _) (by simpa [wpE, pLoc, pBin, pInt, pCmp, pEq, mk, mo] using hq)
  · exact ph_lam cl23 rfl (Nat.le_refl _) (by simpa [wpE, pLoc, pBin, pInt, pCmp, pEq, mk, mo] using hq)
  · exact ph_lam cl25 rfl (Nat.le_refl _) (by simpa [wpE, pLoc, pBin, pInt, pCmp, pEq, mk, mo] using hq)
  · exact ph_lam cl27 rfl (Nat.le_refl _) (by simpa [wpE, pLoc, pBin, pInt, pCmp, pEq, mk, mo] using hq)
  · refine ph_lam cl29 rfl (Nat.le_refl _) ?_
    simp only [wpE, wpEs, pLoc, pBin, List.cons_append, List.getElem?_cons_zero, List.getElem?_cons_succ, ok_int, true_and, pBcall, a1, a2, b1, b2, a3, b3, pInt, pCmp, pEq]
    simpa [mk] using hq
  · exact ph_lam cl31 rfl (Nat.le_refl _) (by simpa [wpE, pLoc, pBin, pInt, pCmp, pEq, mk, mo] using hq)
  · exact ph_lam cl33 rfl (Nat.le_refl _) (by simpa [wpE, pLoc, pBin, pInt, pCmp, pEq, mk, mo] using hq)
  · exact ph_lam cl35 rfl (Nat.le_refl _) (by simpa [wpE, pLoc, pBin, pInt, pCmp, pEq, mk, mo] using hq)
theorem sp85 {m : Nat} (hm : m < 8) (hq : Q (.lam (lamX (21 + 2 * m))) σ) : Ph (sx02 A ns) F02 L02 (n + 1) (.fn 85) [.int m] [] σ Q X := by
  refine ph_fn rfl rfl (Nat.le_refl _) ?_
  rcases lt8 hm with rfl | rfl | rfl | rfl | rfl | rfl | rfl | rfl <;> simp [wpSs, wpS, wpT, wpTs, wpE, wpEs, wpO, wpB, wpI, pLoc, pCmp, pEq, pTruth, pBin, pInt, pAug, pSub, pBcall, pBmeth, pAssign, pAttr, pSetAttr, pMeth, pLcall, pSetItem, pSlc, pNew, isNoneV, unp, putAll, items, listItems, itOf, itOk, clr, Hp.new_at, Hp.set_at, Hp.new_nx, Hp.set_nx, tx85, hq] <;> exact hq
theorem sp85x {m : Int} (hm : m < 0 ∨ 7 < m) (hx : X "TypeError" σ) : Ph (sx02 A ns) F02 L02 (n + 1) (.fn 85) [.int m] [] σ Q X := by
  refine ph_fn rfl rfl (Nat.le_refl _) ?_
  have h0 : (m == 0) = false := beq_eq_false_iff_ne.mpr (by omega)
  have h1 : (m == 1) = false := beq_eq_false_iff_ne.mpr (by omega)
  have h2 : (m == 2) = false := beq_eq_false_iff_ne.mpr (by omega)
  have h3 : (m == 3) = false := beq_eq_false_iff_ne.mpr (by omega)
  have h4 : (m == 4) = false := beq_eq_false_iff_ne.mpr (by omega)
  have h5 : (m == 5) = false := beq_eq_false_iff_ne.mpr (by omega)
  have h6 : (m == 6) = false := beq_eq_false_iff_ne.mpr (by omega)
  have h7 : (m == 7) = false := beq_eq_false_iff_ne.mpr (by omega)
  simp [wpSs, wpS, wpT, wpTs, wpE, wpEs, wpO, wpB, wpI, pLoc, pCmp, pEq, pTruth, pBin, pInt, pAug, pSub, pBcall, pBmeth, pAssign, pAttr, pSetAttr, pMeth, pLcall, pSetItem, pSlc, pNew, isNoneV, unp, putAll, items, listItems, itOf, itOk, clr, Hp.new_at, Hp.set_at, Hp.new_nx, Hp.set_nx, tx85, hx, h0, h1, h2, h3, h4, h5, h6, h7]
end
end Mine
open PySem PySem.W PySem.Calls PyProof.Rows PySem.Spec
set_option linter.unusedVariables false
set_option linter.unusedSimpArgs false
namespace Mine
def cellV : Option Bool → V
  | none => .none
  | some b => .bool b
theorem ok_cell {b} : ok (cellV b) := by cases b <;> trivial
theorem range_small1 {b : Nat} (h2 : b < 2 ^ 40) : Builtin.Range.small 0 b 1 = true := by
  have e := rngLen_up b
  unfold rngLen at e
  have h0 : 0 ≤ Builtin.Range.rangeSize 0 b 1 := by unfold Builtin.Range.rangeSize; split <;> simp <;> split <;> omega
  have : Builtin.Range.rangeSize 0 b 1 = b := by omega
  unfold Builtin.Range.small
  rw [this]
  simp [Builtin.Range.rangeFitsLong]
  omega
section
variable {A : Addr} {ns : List Int} {n : Nat} {σ : Hp} {Q : V → Hp → Prop} {X : XP}
/-- a row of cells newly made -/
def NewRow (σ σ' : Hp) (x : Nat) (side : Nat) : Prop := Kp σ σ' ∧ σ.nx ≤ x ∧ x < σ'.nx ∧ ∃ cs : List (Option Bool), σ'.at_ x = some (.list (cs.map cellV)) ∧ cs.length = side
theorem sp345 {num : Int} {side : Nat} (h1 : 0 < side) (h2 : side < 200) (hq : ∀ σ' x, NewRow σ σ' x side → Q (.ref x) σ') : Ph (sx02 A ns) F02 L02 (n + 1) (.fn 345) [.int num, .int side] [] σ Q X := by
  have s0 : ¬ (side = 0) := by omega
  have s1 : side ≤ 16384 := by omega
  have s2 : (side : Int) < 1099511627776 := by omega
  have s3 : side < 1099511627776 := by omega
  have s4 : side < 1073741824 := by omega
  have s5 := range_small1 (b := side) (by omega)
  have s6 : side ≤ lim := by unfold lim; omega
  have s7 : (It.rng 0 side 1).n = side := rngLen_up side
  have pw : ∀ k : Int, (2 : Int) ^ (k.fmod 13).toNat ≠ 0 ∧ ((2 : Int) ^ (k.fmod 13).toNat).natAbs < 1073741824 := fun k => by
    obtain ⟨a, b⟩ := fmod_b k (show (0 : Int) < 13 by decide)
    have : ∀ t : Fin 13, (2 : Int) ^ t.val ≠ 0 ∧ ((2 : Int) ^ t.val).natAbs < 1073741824 := by decide
    exact this ⟨(k.fmod 13).toNat, by omega⟩
  refine ph_fn rfl rfl (by decide : 2 ≤ 7) ?_
  simp [wpSs, wpS, wpT, wpTs, wpE, wpEs, wpO, wpB, wpI, pLoc, pCmp, pEq, pTruth, pBin, pInt, pAug, pSub, pBcall, pBmeth, pAssign, pAttr, pSetAttr, pMeth, pLcall, pSetItem, pSlc, pNew, isNoneV, unp, putAll, items, listItems, itOf, itOk, clr, Hp.new_at, Hp.set_at, Hp.new_nx, Hp.set_nx, tx345, lim]
  refine bmatch (fun _ => ?_) fun _ => bmatch (fun _ => ?_) fun _ => bmatch (fun _ => ?_) fun _ => ?_
  · refine ⟨⟨s1, s2⟩, hq _ _ ⟨by (repeat (first | assumption | exact Ext.refl | (refine Ext.setR ?_ (by simp)) | refine Ext.newR ?_)), by simp, by simp [Hp.new_nx], List.replicate side none, ?_⟩⟩
    simp [Hp.new_at, Hp.new_nx, cellV]
  · refine ⟨s0, ⟨s0, .inl s4⟩, s0, ?_⟩
    refine wp_comp fun G hG => ?_
    simp [wpSs, wpS, wpT, wpTs, wpE, wpEs, wpO, wpB, wpI, pLoc, pCmp, pEq, pTruth, pBin, pInt, pAug, pSub, pBcall, pBmeth, pAssign, pAttr, pSetAttr, pMeth, pLcall, pSetItem, pSlc, pNew, isNoneV, unp, putAll, items, listItems, itOf, itOk, clr, Hp.new_at, Hp.set_at, Hp.new_nx, Hp.set_nx, s3, s5]
    refine hG _ _ (gather_inv0 (fun i acc ρ σ' => ∃ w cs, acc = List.map cellV cs ∧ cs.length = i ∧ ρ = [V.int num, V.int side, V.int (num.fmod 4), V.int (num.fdiv 4), V.int ((num.fdiv 4).fmod side), V.int (((num.fdiv 4).fdiv side).fmod side), w] ∧ Kp σ σ') ?_ ?_ ?_)
    · exact ⟨_, [], rfl, rfl, rfl, .refl⟩
    · rintro i acc ρ σ' hi ⟨w, cs, rfl, rfl, rfl, kp⟩
      refine ⟨trivial, _, rfl, trivial, fun K hK => ?_⟩
      have fin : ∀ c w, K (cs.map cellV ++ [cellV c]) [V.int num, V.int side, V.int (num.fmod 4), V.int (num.fdiv 4), V.int ((num.fdiv 4).fmod side), V.int (((num.fdiv 4).fdiv side).fmod side), w] σ' := fun c w => hK _ _ _ ⟨w, cs ++ [c], by simp, by simp, rfl, kp⟩
      rw [s7] at hi
      have hl : cs.length < 1048576 := by omega
      simp [wpSs, wpS, wpT, wpTs, wpE, wpEs, wpO, wpB, wpI, pLoc, pCmp, pEq, pTruth, pBin, pInt, pAug, pSub, pBcall, pBmeth, pAssign, pAttr, pSetAttr, pMeth, pLcall, pSetItem, pSlc, pNew, isNoneV, unp, putAll, items, listItems, itOf, itOk, clr, Hp.new_at, Hp.set_at, Hp.new_nx, Hp.set_nx, wpG, lim]
      cases decide ((num.fdiv 4).fmod side ≤ cs.length)
      · exact ⟨hl, fin (some _) _⟩
      · exact bmatch (fun _ => ⟨hl, fin none _⟩) fun _ => ⟨hl, fin (some _) _⟩
    · rintro acc ρ σ' ⟨w, cs, rfl, hl, rfl, kp⟩
      rw [s7] at hl
      exact ⟨trivial, by simpa [hl] using s6, trivial, hq _ _ ⟨kp.trans .new, kp.1, Nat.lt_succ_self _, cs, Hp.new_self, hl⟩⟩
  · refine wp_comp fun G hG => ?_
    simp [wpSs, wpS, wpT, wpTs, wpE, wpEs, wpO, wpB, wpI, pLoc, pCmp, pEq, pTruth, pBin, pInt, pAug, pSub, pBcall, pBmeth, pAssign, pAttr, pSetAttr, pMeth, pLcall, pSetItem, pSlc, pNew, isNoneV, unp, putAll, items, listItems, itOf, itOk, clr, Hp.new_at, Hp.set_at, Hp.new_nx, Hp.set_nx, s3, s5]
    refine hG _ _ (gather_inv0 (fun i acc ρ σ' => ∃ w cs, acc = List.map cellV cs ∧ cs.length = i ∧ ρ = [V.int num, V.int side, V.int (num.fmod 4), V.int (num.fdiv 4), .undef, .undef, w] ∧ Kp σ σ') ?_ ?_ ?_)
    · exact ⟨_, [], rfl, rfl, rfl, .refl⟩
    · rintro i acc ρ σ' hi ⟨w, cs, rfl, rfl, rfl, kp⟩
      refine ⟨trivial, _, rfl, trivial, fun K hK => ?_⟩
      rw [s7] at hi
      have fin : ∀ c w σ₁, Kp σ' σ₁ → K (cs.map cellV ++ [cellV c]) [V.int num, V.int side, V.int (num.fmod 4), V.int (num.fdiv 4), .undef, .undef, w] σ₁ := fun c w σ₁ k => hK _ _ _ ⟨w, cs ++ [c], by simp, by simp, rfl, kp.trans k⟩
      have hl : cs.length < 1048576 := by omega
      obtain ⟨a, b⟩ := fmod_b (num.fdiv 4) (show (0 : Int) < 3 by decide)
      obtain ⟨c, d⟩ := fmod_b ((cs.length + num.fdiv 4).fdiv (1 + (num.fdiv 4).fmod 3)) (show (0 : Int) < 4 by decide)
      simp [wpSs, wpS, wpT, wpTs, wpE, wpEs, wpO, wpB, wpI, pLoc, pCmp, pEq, pTruth, pBin, pInt, pAug, pSub, pBcall, pBmeth, pAssign, pAttr, pSetAttr, pMeth, pLcall, pSetItem, pSlc, pNew, isNoneV, unp, putAll, items, listItems, itOf, itOk, clr, Hp.new_at, Hp.set_at, Hp.new_nx, Hp.set_nx, wpG, lim]
      refine ⟨⟨by omega, .inl (by omega)⟩, ?_⟩
      generalize ((cs.length + num.fdiv 4).fdiv (1 + (num.fdiv 4).fmod 3)).fmod 4 = z at c d
      have hz : z = 0 ∨ z = 1 ∨ z = 2 ∨ z = 3 := by omega
      rcases hz with rfl | rfl | rfl | rfl
      · exact ⟨0, rfl, _, rfl, trivial, hl, fin none _ _ .new⟩
      · exact ⟨1, rfl, _, rfl, trivial, hl, fin (some true) _ _ .new⟩
      · exact ⟨2, rfl, _, rfl, trivial, hl, fin none _ _ .new⟩
      · exact ⟨3, rfl, _, rfl, trivial, hl, fin (some false) _ _ .new⟩
    · rintro acc ρ σ' ⟨w, cs, rfl, hl, rfl, kp⟩
      rw [s7] at hl
      exact ⟨trivial, by simpa [hl] using s6, trivial, hq _ _ ⟨kp.trans .new, kp.1, Nat.lt_succ_self _, cs, Hp.new_self, hl⟩⟩
  · refine wp_comp fun G hG => ?_
    simp [wpSs, wpS, wpT, wpTs, wpE, wpEs, wpO, wpB, wpI, pLoc, pCmp, pEq, pTruth, pBin, pInt, pAug, pSub, pBcall, pBmeth, pAssign, pAttr, pSetAttr, pMeth, pLcall, pSetItem, pSlc, pNew, isNoneV, unp, putAll, items, listItems, itOf, itOk, clr, Hp.new_at, Hp.set_at, Hp.new_nx, Hp.set_nx, s3, s5]
    refine hG _ _ (gather_inv0 (fun i acc ρ σ' => ∃ w cs, acc = List.map cellV cs ∧ cs.length = i ∧ ρ = [V.int num, V.int side, V.int (num.fmod 4), V.int (num.fdiv 4), .undef, .undef, w] ∧ Kp σ σ') ?_ ?_ ?_)
    · exact ⟨_, [], rfl, rfl, rfl, .refl⟩
    · rintro i acc ρ σ' hi ⟨w, cs, rfl, rfl, rfl, kp⟩
      refine ⟨trivial, _, rfl, trivial, fun K hK => ?_⟩
      rw [s7] at hi
      have fin : ∀ c w σ₁, Kp σ' σ₁ → K (cs.map cellV ++ [cellV c]) [V.int num, V.int side, V.int (num.fmod 4), V.int (num.fdiv 4), .undef, .undef, w] σ₁ := fun c w σ₁ k => hK _ _ _ ⟨w, cs ++ [c], by simp, by simp, rfl, kp.trans k⟩
      have hl : cs.length < 1048576 := by omega
      obtain ⟨a, b⟩ := fmod_b (cs.length) (show (0 : Int) < 13 by decide)
      obtain ⟨p1, p2⟩ := pw cs.length
      simp [wpSs, wpS, wpT, wpTs, wpE, wpEs, wpO, wpB, wpI, pLoc, pCmp, pEq, pTruth, pBin, pInt, pAug, pSub, pBcall, pBmeth, pAssign, pAttr, pSetAttr, pMeth, pLcall, pSetItem, pSlc, pNew, isNoneV, unp, putAll, items, listItems, itOf, itOk, clr, Hp.new_at, Hp.set_at, Hp.new_nx, Hp.set_nx, wpG, lim]
      exact ⟨⟨a, by omega⟩, ⟨by simpa using p1, .inr (by omega)⟩, bmatch (fun _ => ⟨hl, fin none _ _ .refl⟩) fun _ => ⟨hl, fin (some _) _ _ .refl⟩⟩
    · rintro acc ρ σ' ⟨w, cs, rfl, hl, rfl, kp⟩
      rw [s7] at hl
      exact ⟨trivial, by simpa [hl] using s6, trivial, hq _ _ ⟨kp.trans .new, kp.1, Nat.lt_succ_self _, cs, Hp.new_self, hl⟩⟩
end
end Mine
open PySem PySem.W PySem.Calls PyProof.Rows PySem.Spec
set_option linter.unusedVariables false
set_option linter.unusedSimpArgs false
namespace Mine
abbrev Side (s : Nat) : Prop := s = 21 ∨ s = 25 ∨ s = 29 ∨ s = 33
def colAt (side t : Nat) : Nat := if side - 1 - 2 * t ≤ 6 then side - 1 - 2 * t - 1 else side - 1 - 2 * t
def rowAt (side t j : Nat) : Nat := if t % 2 = 0 then side - 1 - j else j
def blkN (side t : Nat) : Nat → List (Nat × Nat)
  | 0 => []
  | j + 1 => blkN side t j ++ [(rowAt side t j, colAt side t), (rowAt side t j, colAt side t - 1)]
def walkN (side : Nat) : Nat → List (Nat × Nat)
  | 0 => []
  | t + 1 => walkN side t ++ blkN side t side
def plV (p : Nat × Nat) : V := .tup [.int p.1, .int p.2]
theorem blkN_len (side t j : Nat) : (blkN side t j).length = 2 * j := by
  induction j with
  | zero => rfl
  | succ j ih => simp [blkN, ih]; omega
theorem walkN_len (side t : Nat) : (walkN side t).length = 2 * side * t := by
  induction t with
  | zero => rfl
  | succ j ih => simp [walkN, ih, blkN_len, Nat.mul_add]
theorem side_b {s : Nat} (h : Side s) : 21 ≤ s ∧ s ≤ 33 := by omega
theorem rngDn {s : Nat} (h : Side s) : (It.rng ((s : Int) - 1) (-1) (-1)).n = s ∧ Builtin.Range.small ((s : Int) - 1) (-1) (-1) = true := by rcases h with rfl | rfl | rfl | rfl <;> decide
theorem rng6 {s : Nat} (h : Side s) : (It.rng ((s : Int) - 1) 6 (-2)).n = (s - 7) / 2 ∧ Builtin.Range.small ((s : Int) - 1) 6 (-2) = true := by rcases h with rfl | rfl | rfl | rfl <;> decide
theorem rng0 {s : Nat} (h : Side s) : (It.rng ((s : Int) - 1) 0 (-2)).n = (s - 1) / 2 ∧ Builtin.Range.small ((s : Int) - 1) 0 (-2) = true := by rcases h with rfl | rfl | rfl | rfl <;> decide
theorem colsAre {s : Nat} (h : Side s) : ((List.range ((s - 7) / 2)).map fun i => s - 1 - 2 * i) ++ [5, 3, 1] = (List.range ((s - 1) / 2)).map (colAt s) := by rcases h with rfl | rfl | rfl | rfl <;> decide
theorem colGe {s t : Nat} (h : Side s) (ht : t < (s - 1) / 2) : 1 ≤ colAt s t ∧ colAt s t < s := by
  unfold colAt
  split <;> rcases h with rfl | rfl | rfl | rfl <;> omega
theorem rowLt {s t j : Nat} (hj : j < s) : rowAt s t j < s := by unfold rowAt; split <;> omega
section
variable {A : Addr} {ns : List Int} {n : Nat} {σ : Hp} {Q : V → Hp → Prop} {X : XP}
theorem c350_2_ok {Φ : Fn} {side i : Nat} {a b d : Int} {p w5 w6 : V} {Q' : V → Hp → Prop} (h1 : Side side) (hn : (It.rng a b d).n = side) (hs : Builtin.Range.small a b d = true) (hg : ∀ j : Nat, j < side → a + j * d = (rowAt side i j : Nat)) (hi : i < (side - 1) / 2)
    (hq : ∀ σ' x, Kp σ σ' → σ.nx ≤ x → x < σ'.nx → σ'.at_ x = some (.list ((blkN side i side).map plV)) → Q' (.ref x) σ') : wpE (sx02 A ns) Φ c350_2 [.int side, p, .int i, .int (colAt side i), .rng a b d, w5, w6] σ Q' X := by
  obtain ⟨b1, b2⟩ := side_b h1
  obtain ⟨c1, c2⟩ := colGe h1 hi
  refine wp_comp fun G hG => ?_
  simp [wpSs, wpS, wpT, wpTs, wpE, wpEs, wpO, wpB, wpI, pLoc, pCmp, pEq, pTruth, pBin, pInt, pAug, pSub, pBcall, pBmeth, pAssign, pAttr, pSetAttr, pMeth, pLcall, pSetItem, pSlc, pNew, isNoneV, unp, putAll, items, listItems, itOf, itOk, clr, Hp.new_at, Hp.set_at, Hp.new_nx, Hp.set_nx, hs]
  refine hG _ _ ?_
  rw [hn]
  refine gather_inv0 (fun j acc ρ σ' => ∃ w5 w6, acc = (blkN side i j).map plV ∧ ρ = [.int side, p, .int i, .int (colAt side i), .rng a b d, w5, w6] ∧ Kp σ σ') ⟨_, _, rfl, rfl, .refl⟩ ?_ ?_
  · rintro j acc ρ σ' hj ⟨w5, w6, rfl, rfl, kp⟩
    refine ⟨trivial, .int (a + j * d), rfl, trivial, fun K hK => ?_⟩
    have hl := blkN_len side i j
    have e1 : (blkN side i j).length < lim := by unfold lim; omega
    have e2 : (blkN side i j).length + 1 < lim := by unfold lim; omega
    simp [wpSs, wpS, wpT, wpTs, wpE, wpEs, wpO, wpB, wpI, pLoc, pCmp, pEq, pTruth, pBin, pInt, pAug, pSub, pBcall, pBmeth, pAssign, pAttr, pSetAttr, pMeth, pLcall, pSetItem, pSlc, pNew, isNoneV, unp, putAll, items, listItems, itOf, itOk, clr, Hp.new_at, Hp.set_at, Hp.new_nx, Hp.set_nx, wpG, wpGather, It.live, It.get, It.n, hg j hj, lim]
    unfold lim at e1 e2
    refine ⟨e1, e2, hK _ _ _ ⟨_, _, ?_, rfl, kp.trans .new⟩⟩
    have : (colAt side i : Int) - 1 = ((colAt side i - 1 : Nat) : Int) := by omega
    rw [this]
    simp [blkN, plV]
  · rintro acc ρ σ' ⟨w5, w6, rfl, rfl, kp⟩
    have hl := blkN_len side i side
    refine ⟨trivial, by rw [List.length_map]; unfold lim; omega, ?_⟩
    exact hq _ _ (kp.trans .new) kp.1 (Nat.lt_succ_self _) Hp.new_self
theorem sp350 {side : Nat} (h1 : Side side) (hq : ∀ σ' x, Kp σ σ' → σ.nx ≤ x → x < σ'.nx → σ'.at_ x = some (.list ((walkN side ((side - 1) / 2)).map plV)) → Q (.ref x) σ') : Ph (sx02 A ns) F02 L02 (n + 1) (.fn 350) [.int side] [] σ Q X := by
  obtain ⟨b1, b2⟩ := side_b h1
  obtain ⟨r1, r2⟩ := rng6 h1
  obtain ⟨r3, r4⟩ := rngDn h1
  have s5 := range_small1 (b := side) (by omega)
  have s7 : (It.rng 0 side 1).n = side := rngLen_up side
  refine ph_fn rfl rfl (by decide : 1 ≤ 7) ?_
  unfold tx350
  refine seqK fun K kn _ _ _ => ?_
  simp [wpSs, wpS, wpT, wpTs, wpE, wpEs, wpO, wpB, wpI, pLoc, pCmp, pEq, pTruth, pBin, pInt, pAug, pSub, pBcall, pBmeth, pAssign, pAttr, pSetAttr, pMeth, pLcall, pSetItem, pSlc, pNew, isNoneV, unp, putAll, items, listItems, itOf, itOk, clr, Hp.new_at, Hp.set_at, Hp.new_nx, Hp.set_nx, lim]
  refine kn _ _ (seqK fun K kn _ _ _ => wp_for fun G hG => ?_)
  simp only [wpI, wpE, pBin]
  refine wp_comp fun G' hG' => ?_
  have z1 : ((side : Int) - 1).natAbs < 2 ^ 40 := by omega
  simp [wpSs, wpS, wpT, wpTs, wpE, wpEs, wpO, wpB, wpI, pLoc, pCmp, pEq, pTruth, pBin, pInt, pAug, pSub, pBcall, pBmeth, pAssign, pAttr, pSetAttr, pMeth, pLcall, pSetItem, pSlc, pNew, isNoneV, unp, putAll, items, listItems, itOf, itOk, clr, Hp.new_at, Hp.set_at, Hp.new_nx, Hp.set_nx, z1, r2]
  refine hG' _ _ (gath_pure (fun i => .int ((side - 1 - 2 * i : Nat) : Int)) ?_ ?_ trivial (fun i hi => ?_) fun ρ' => ?_)
  · rw [r1]; unfold lim; omega
  · exact (by decide : 5 < 7)
  · rw [r1] at hi
    refine ⟨_, rfl, trivial, trivial, fun Q' hQ' => ?_⟩
    simp [wpSs, wpS, wpT, wpTs, wpE, wpEs, wpO, wpB, wpI, pLoc, pCmp, pEq, pTruth, pBin, pInt, pAug, pSub, pBcall, pBmeth, pAssign, pAttr, pSetAttr, pMeth, pLcall, pSetItem, pSlc, pNew, isNoneV, unp, putAll, items, listItems, itOf, itOk, clr, Hp.new_at, Hp.set_at, Hp.new_nx, Hp.set_nx]
    have : (side : Int) - 1 + i * -2 = ((side - 1 - 2 * i : Nat) : Int) := by omega
    rw [this]
    exact hQ'
  · rw [r1]
    simp [wpSs, wpS, wpT, wpTs, wpE, wpEs, wpO, wpB, wpI, pLoc, pCmp, pEq, pTruth, pBin, pInt, pAug, pSub, pBcall, pBmeth, pAssign, pAttr, pSetAttr, pMeth, pLcall, pSetItem, pSlc, pNew, isNoneV, unp, putAll, items, listItems, itOf, itOk, clr, Hp.new_at, Hp.set_at, Hp.new_nx, Hp.set_nx, lim]
    have hcols : List.map (fun i => V.int ((side - 1 - 2 * i : Nat) : Int)) (List.range ((side - 7) / 2)) ++ [V.int 5, V.int 3, V.int 1] = (List.range ((side - 1) / 2)).map fun i => V.int (colAt side i) := by
      have := congrArg (List.map fun c : Nat => V.int c) (colsAre h1)
      simpa [List.map_append, List.map_map, Function.comp_def] using this
    have hn : (side - 7) / 2 + 3 = (side - 1) / 2 := by omega
    rw [hcols, hn]
    refine ⟨by omega, by omega, rfl, hG _ _ ?_⟩
    refine loop_inv0 (fun i ρ σ' => ∃ x w2 w3 w4 w5 w6, ρ = [V.int side, .ref x, w2, w3, w4, w5, w6] ∧ Kp σ σ' ∧ σ.nx ≤ x ∧ x < σ'.nx ∧ σ'.at_ x = some (.list ((walkN side i).map plV)) ∧
      σ'.at_ (σ.nx + 1 + 1 + 1) = some (.list ((List.range ((side - 1) / 2)).map fun i => V.int (colAt side i))) ∧ σ.nx + 1 + 1 + 1 < σ'.nx) ?_ ?_ ?_
    · refine ⟨σ.nx, _, _, _, _, _, rfl, by (repeat (first | assumption | exact Ext.refl | (refine Ext.setR ?_ (by simp)) | refine Ext.newR ?_)), Nat.le_refl _, ?_, ?_, ?_, ?_⟩
      · simp [Hp.new_nx]; omega
      · simp [Hp.new_at, Hp.new_nx, walkN]; rw [if_neg (by omega), if_neg (by omega)]
      · simp [Hp.new_at, Hp.new_nx]
      · simp [Hp.new_nx]
    · rintro i ρ σ' hi ⟨x, w2, w3, w4, w5, w6, rfl, kp, hx1, hx2, hx3, hL, hL2⟩
      have hi' : i < (side - 1) / 2 := hi
      obtain ⟨c1, c2⟩ := colGe h1 hi'
      have hwl := walkN_len side i
      have hb : 2 * side * i ≤ 66 * 33 := Nat.mul_le_mul (by omega) (by omega)
      refine ⟨⟨_, hL, by simp⟩, .tup [.int i, .int (colAt side i)], ?_, trivial, fun K hn hc hr hbk => ?_⟩
      · simp [enumOf, It.get, hL, hi']
      refine ⟨_, rfl, rfl, by simp, by simp, ?_⟩
      show wpSs _ _ b350_3 [V.int side, .ref x, .int i, .int (colAt side i), w4, w5, w6] σ' K _
      unfold b350_3
      have fin : ∀ a b d : Int, (It.rng a b d).n = side → Builtin.Range.small a b d = true → (∀ j : Nat, j < side → a + j * d = (rowAt side i j : Nat)) →
          wpSs (sx02 A ns) (Ph (sx02 A ns) F02 L02 n) (.cons (.asgn (.nm 1) (.bin .Add (.loc 1) c350_2)) .nil) [.int side, .ref x, .int i, .int (colAt side i), .rng a b d, w5, w6] σ' K (fun _ _ => False) := fun a b d hn' hs hg => by
        simp only [wpSs, wpS, wpE, pLoc, List.getElem?_cons_succ, List.getElem?_cons_zero, ok_ref, true_and]
        refine c350_2_ok h1 hn' hs hg hi' fun σ₁ y kp' hy1 hy2 hy3 => ?_
        have hx4 := kp'.at hx2 hx3
        have bl := blkN_len side i side
        have e3 : (walkN side i).length + (blkN side i side).length ≤ 1048576 := by omega
        simp [wpSs, wpS, wpT, wpTs, wpE, wpEs, wpO, wpB, wpI, pLoc, pCmp, pEq, pTruth, pBin, pInt, pAug, pSub, pBcall, pBmeth, pAssign, pAttr, pSetAttr, pMeth, pLcall, pSetItem, pSlc, pNew, isNoneV, unp, putAll, items, listItems, itOf, itOk, clr, Hp.new_at, Hp.set_at, Hp.new_nx, Hp.set_nx, hx4, hy3, lim, e3]
        refine hn _ _ ⟨σ₁.nx, _, _, _, _, _, rfl, (kp.trans kp').trans .new, ?_, Nat.lt_succ_self _, ?_, ?_, ?_⟩
        · exact Nat.le_trans kp.1 kp'.1
        · rw [Hp.new_self]; simp [walkN]
        · exact Kp.at (.new) (Nat.lt_of_lt_of_le hL2 kp'.1) (kp'.at hL2 hL)
        · exact Nat.lt_succ_of_lt (Nat.lt_of_lt_of_le hL2 kp'.1)
      refine seqK fun K' kn' _ _ _ => ?_
      simp [wpSs, wpS, wpT, wpTs, wpE, wpEs, wpO, wpB, wpI, pLoc, pCmp, pEq, pTruth, pBin, pInt, pAug, pSub, pBcall, pBmeth, pAssign, pAttr, pSetAttr, pMeth, pLcall, pSetItem, pSlc, pNew, isNoneV, unp, putAll, items, listItems, itOf, itOk, clr, Hp.new_at, Hp.set_at, Hp.new_nx, Hp.set_nx, z1]
      refine bmatch (fun ht => kn' _ _ (fin _ _ _ r3 r4 fun j hj => ?_)) fun ht => ⟨by omega, kn' _ _ (fin _ _ _ s7 s5 fun j hj => ?_)⟩
      · rw [beq_iff_eq, Int.fmod_eq_emod_of_nonneg _ (by decide)] at ht
        unfold rowAt
        rw [if_pos (by omega)]; omega
      · rw [beq_eq_false_iff_ne, Int.fmod_eq_emod_of_nonneg _ (by decide)] at ht
        unfold rowAt
        rw [if_neg (by omega)]; omega
    · rintro ρ σ' ⟨x, w2, w3, w4, w5, w6, rfl, kp, hx1, hx2, hx3, hL, hL2⟩
      refine ⟨⟨_, hL, by simp⟩, kn _ _ ?_⟩
      simp [wpSs, wpS, wpT, wpTs, wpE, wpEs, wpO, wpB, wpI, pLoc, pCmp, pEq, pTruth, pBin, pInt, pAug, pSub, pBcall, pBmeth, pAssign, pAttr, pSetAttr, pMeth, pLcall, pSetItem, pSlc, pNew, isNoneV, unp, putAll, items, listItems, itOf, itOk, clr, Hp.new_at, Hp.set_at, Hp.new_nx, Hp.set_nx]
      exact hq _ _ kp hx1 hx2 hx3
end
end Mine
open PySem PySem.W PySem.Calls PyProof.Rows PySem.Spec
set_option linter.unusedVariables false
set_option linter.unusedSimpArgs false
namespace Mine
abbrev Cells := List (List (Option Bool))
/-- rows of cells in the heap -/
structure MatR (σ : Hp) (mo : Nat) (rs : List Nat) (M : Cells) : Prop where
  top : σ.at_ mo = some (.list (rs.map .ref))
  len : rs.length = M.length
  row : ∀ (i : Nat) r cs, rs[i]? = some r → M[i]? = some cs → σ.at_ r = some (.list (cs.map cellV))
  nd : rs.Nodup
  off : mo ∉ rs
  lt : mo < σ.nx ∧ ∀ r ∈ rs, r < σ.nx
def cellAt (M : Cells) (p : Nat × Nat) : Option (Option Bool) := (M[p.1]?).bind (·[p.2]?)
def setC (M : Cells) (p : Nat × Nat) (v : Option Bool) : Cells := M.set p.1 (((M[p.1]?).getD []).set p.2 v)
/-- side rows of side cells -/
def Sq (side : Nat) (M : Cells) : Prop := M.length = side ∧ ∀ cs ∈ M, cs.length = side
theorem Sq.cell {side : Nat} {M : Cells} (h : Sq side M) {r c : Nat} (hr : r < side) (hc : c < side) : ∃ cs v, M[r]? = some cs ∧ cs[c]? = some v ∧ cellAt M (r, c) = some v ∧ cs.length = side := by
  have h1 : r < M.length := by rw [h.1]; exact hr
  have h2 : M[r].length = side := h.2 _ (List.getElem_mem h1)
  refine ⟨M[r], M[r][c]'(by omega), List.getElem?_eq_getElem h1, List.getElem?_eq_getElem _, ?_, h2⟩
  simp [cellAt, List.getElem?_eq_getElem h1, List.getElem?_eq_getElem (show c < M[r].length by omega)]
theorem Sq.set {side : Nat} {M : Cells} (h : Sq side M) {r c : Nat} (hr : r < side) {v} : Sq side (setC M (r, c) v) := by
  refine ⟨by simp [setC, h.1], fun cs hcs => ?_⟩
  unfold setC at hcs
  rcases List.mem_or_eq_of_mem_set hcs with h' | rfl
  · exact h.2 _ h'
  · have h1 : r < M.length := by rw [h.1]; exact hr
    simp [List.getElem?_eq_getElem h1, h.2 _ (List.getElem_mem h1)]
theorem MatR.set {σ : Hp} {mo : Nat} {rs : List Nat} {M : Cells} (m : MatR σ mo rs M) {i r : Nat} {cs : List (Option Bool)} (hr : rs[i]? = some r) : MatR (σ.set r (.list (cs.map cellV))) mo rs (M.set i cs) where
  top := by
    rw [Hp.set_ne]
    · exact m.top
    · rintro rfl; exact m.off (List.mem_of_getElem? hr)
  len := by rw [List.length_set]; exact m.len
  row := fun j r' cs' hj hcs => by
    by_cases e : r' = r
    · subst e
      have : i = j := (List.getElem?_inj (by obtain ⟨h, _⟩ := List.getElem?_eq_some_iff.mp hr; exact h) m.nd).mp (hr.trans hj.symm)
      subst this
      obtain ⟨h, _⟩ := List.getElem?_eq_some_iff.mp hr
      rw [List.getElem?_set_self (by rw [← m.len]; exact h)] at hcs
      cases hcs
      exact Hp.set_self
    · have : i ≠ j := fun q => e (by subst q; rw [hr] at hj; cases hj; rfl)
      rw [List.getElem?_set_ne this] at hcs
      rw [Hp.set_ne e]
      exact m.row j r' cs' hj hcs
  nd := m.nd
  off := m.off
  lt := m.lt
theorem MatR.ext {σ σ' : Hp} {P : Nat → Prop} {mo : Nat} {rs : List Nat} {M : Cells} (m : MatR σ mo rs M) (e : Ext P σ σ') (h0 : ¬ P mo) (h1 : ∀ r ∈ rs, ¬ P r) : MatR σ' mo rs M :=
  ⟨e.at m.lt.1 h0 m.top, m.len, fun i r cs a b => e.at (m.lt.2 r (List.mem_of_getElem? a)) (h1 r (List.mem_of_getElem? a)) (m.row i r cs a b), m.nd, m.off, Nat.lt_of_lt_of_le m.lt.1 e.1, fun r hr => Nat.lt_of_lt_of_le (m.lt.2 r hr) e.1⟩
def wbit (w : Int) (k : Nat) : Bool := (w.fdiv (2 ^ k)).fmod 2 == 1
def bitAt (words : List Int) (t : Nat) : Bool := match words[t / 8]? with
  | some w => wbit w (7 - t % 8)
  | none => false
/-- what one place of the walk becomes -/
def stepM (words : List Int) (m : Nat) (st : Cells × Nat) (p : Nat × Nat) : Cells × Nat :=
  if cellAt st.1 p = some none then (setC st.1 p (some (bitAt words st.2 != dk m p.1 p.2)), st.2 + 1) else st
theorem stepM_sq {words : List Int} {m side : Nat} {st : Cells × Nat} {p : Nat × Nat} (h : Sq side st.1) (hp : p.1 < side) : Sq side (stepM words m st p).1 := by
  unfold stepM
  split
  · exact h.set hp
  · exact h
end Mine
open PySem PySem.W PySem.Calls PyProof.Rows PySem.Spec
set_option linter.unusedVariables false
set_option linter.unusedSimpArgs false
namespace Mine
theorem idx_nat {n k : Nat} (h : k < n) : idx? n (k : Int) = some k := by
  unfold idx?
  rw [if_pos (by omega), if_pos (by omega)]; simp
structure HM (x mo dw : Nat) (rs : List Nat) (fs : List V) (words : List Int) (side : Nat) (σ : Hp) (M : Cells) : Prop where
  hx : σ.at_ x = some (.inst 327 fs)
  f7 : fs[7]? = some (.ref mo)
  f8 : fs[8]? = some (.int side)
  d : σ.at_ dw = some (.list (words.map .int))
  m : MatR σ mo rs M
  sq : Sq side M
  xo : ¬ x ∈ rs
  dO : dw ∉ rs
theorem HM.set {x mo dw : Nat} {rs : List Nat} {fs : List V} {words : List Int} {side : Nat} {σ : Hp} {M : Cells} (h : HM x mo dw rs fs words side σ M) {r c rr : Nat} {cs : List (Option Bool)} {v : Option Bool} (hr : rs[r]? = some rr) (hcs : M[r]? = some cs) (hlt : r < side) :
    HM x mo dw rs fs words side (σ.set rr (.list ((cs.map cellV).set c (cellV v)))) (setC M (r, c) v) := by
  have e : (cs.map cellV).set c (cellV v) = (cs.set c v).map cellV := by rw [List.map_set]
  refine ⟨?_, h.f7, h.f8, ?_, ?_, h.sq.set hlt, h.xo, h.dO⟩
  · rw [Hp.set_ne]
    · exact h.hx
    · intro q; exact h.xo (q ▸ List.mem_of_getElem? hr)
  · rw [Hp.set_ne]
    · exact h.d
    · intro q; exact h.dO (q ▸ List.mem_of_getElem? hr)
  · rw [e]
    have := h.m.set (cs := cs.set c v) hr
    simpa [setC, hcs] using this
section
variable {A : Addr} {ns : List Int} {n : Nat} {σ : Hp} {X : XP} {x mo dw : Nat} {rs : List Nat} {fs : List V} {words : List Int} {side m : Nat} {M : Cells} {T : Nat}
def bI (T : Nat) : Nat := T / 8
def tI (T : Nat) : Nat := 7 - T % 8
noncomputable def rho317 (x dw m : Nat) (inc : Int) (r T len : Nat) (w9 w10 w11 w12 : V) : List V :=
  [.ref x, .ref dw, .int m, .int inc, .int r, .int (tI T), .int (bI T), .lam (lamX (21 + 2 * m)), .int len, w9, w10, w11, w12]
theorem cell317 {K : Fl → List V → Hp → Prop} {inc : Int} {r c : Nat} {w9 w10 w12 : V} (h : HM x mo dw rs fs words side σ M) (hw : ∀ w ∈ words, 0 ≤ w) (hs : side < 46) (hm : m < 8) (hr : r < side) (hc : c < side)
    (hK : ∀ σ' w12', HM x mo dw rs fs words side σ' (stepM words m (M, T) (r, c)).1 → Ext (· ∈ rs) σ σ' → K .next (rho317 x dw m inc r (stepM words m (M, T) (r, c)).2 words.length w9 w10 (.int c) w12') σ') :
    wpSs (sx02 A ns) (Ph (sx02 A ns) F02 L02 (n + 1)) b317_1 (rho317 x dw m inc r T words.length w9 w10 (.int c) w12) σ K (fun _ _ => False) := by
  obtain ⟨cs, v, e1, e2, e3, e4⟩ := h.sq.cell hr hc
  have hrs : r < rs.length := by rw [h.m.len, h.sq.1]; exact hr
  have hx := h.hx
  have f7 := h.f7
  obtain ⟨rr, hrr⟩ : ∃ rr, rs[r]? = some rr := ⟨_, List.getElem?_eq_getElem hrs⟩
  have hrow := h.m.row r rr cs hrr e1
  have htop := h.m.top
  have hd := h.d
  have i1 : idx? rs.length (r : Int) = some r := idx_nat hrs
  have i2 : idx? cs.length (c : Int) = some c := idx_nat (by omega)
  have okv : ok (cellV v) := ok_cell
  unfold b317_1
  rw [show rho317 x dw m inc r T words.length w9 w10 (.int c) w12 = [.ref x, .ref dw, .int m, .int inc, .int r, .int (7 - T % 8 : Nat), .int (T / 8 : Nat), .lam (lamX (21 + 2 * m)), .int words.length, w9, w10, .int c, w12] from rfl]
  obtain ⟨B, hB⟩ : ∃ B, B = T / 8 := ⟨_, rfl⟩
  obtain ⟨b, hb⟩ : ∃ b, b = 7 - T % 8 := ⟨_, rfl⟩
  have hT : T = 8 * B + (7 - b) ∧ b ≤ 7 := by omega
  rw [← hB, ← hb]
  refine seqK fun K1 kn _ _ _ => wp_ite fun G g1 g2 => ?_
  simp [wpSs, wpS, wpT, wpTs, wpE, wpEs, wpO, wpB, wpI, pLoc, pCmp, pEq, pTruth, pBin, pInt, pAug, pSub, pBcall, pBmeth, pAssign, pAttr, pSetAttr, pMeth, pLcall, pSetItem, pSlc, pNew, isNoneV, unp, putAll, items, listItems, itOf, itOk, clr, Hp.new_at, Hp.set_at, Hp.new_nx, Hp.set_nx, hx, ak16, f7, htop, i1, hrr, hrow, i2, e2, okv]
  cases v with
  | some b =>
    refine .inl ⟨rfl, g2 _ (wp_nil (kn _ _ (wp_nil ?_)))⟩
    have : stepM words m (M, T) (r, c) = (M, T) := by unfold stepM; rw [e3]; rfl
    rw [this] at hK
    subst hB hb
    exact hK _ _ h .refl
  | none =>
    refine .inr ⟨rfl, g1 _ ?_⟩
    have st : stepM words m (M, T) (r, c) = (setC M (r, c) (some (bitAt words T != dk m r c)), T + 1) := by unfold stepM; rw [e3]; rfl
    rw [st] at hK
    refine seqK fun K2 kn2 _ _ _ => ?_
    simp [wpSs, wpS, wpT, wpTs, wpE, wpEs, wpO, wpB, wpI, pLoc, pCmp, pEq, pTruth, pBin, pInt, pAug, pSub, pBcall, pBmeth, pAssign, pAttr, pSetAttr, pMeth, pLcall, pSetItem, pSlc, pNew, isNoneV, unp, putAll, items, listItems, itOf, itOk, clr, Hp.new_at, Hp.set_at, Hp.new_nx, Hp.set_nx]
    refine kn2 _ _ (seqK fun K3 kn3 _ _ _ => ?_)
    -- the bit
    have bitOk : ∀ K3 : Fl → List V → Hp → Prop, K3 .next [.ref x, .ref dw, .int m, .int inc, .int r, .int b, .int B, .lam (lamX (21 + 2 * m)), .int words.length, w9, w10, .int c, .bool (bitAt words T)] σ →
        wpS (sx02 A ns) (Ph (sx02 A ns) F02 L02 (n + 1)) (.ite (.ex (.cmp .Lt (.loc 6) (.loc 8))) (.cons (.asgn (.nm 12) (.cmp .Eq (.bin .BitAnd (.bin .RShift (.sub (.loc 1) (.loc 6)) (.loc 5)) (.cst (.int 1))) (.cst (.int 1)))) .nil) .nil)
          [.ref x, .ref dw, .int m, .int inc, .int r, .int b, .int B, .lam (lamX (21 + 2 * m)), .int words.length, w9, w10, .int c, .bool false] σ K3 (fun _ _ => False) := fun K3 hK3 => by
      unfold bitAt at hK3
      rw [← hB, ← hb] at hK3
      by_cases hlt : B < words.length
      · have i3 : idx? words.length (B : Int) = some B := idx_nat hlt
        have i4 : words[B]? = some words[B] := List.getElem?_eq_getElem hlt
        rw [i4] at hK3
        have i5 : Builtin.bitAnd (words[B].fdiv (2 ^ b)) 1 = (words[B].fdiv (2 ^ b)).fmod 2 := by rw [bitAnd_m1, Int.fmod_eq_emod_of_nonneg _ (by decide)]
        simp [wpSs, wpS, wpT, wpTs, wpE, wpEs, wpO, wpB, wpI, pLoc, pCmp, pEq, pTruth, pBin, pInt, pAug, pSub, pBcall, pBmeth, pAssign, pAttr, pSetAttr, pMeth, pLcall, pSetItem, pSlc, pNew, isNoneV, unp, putAll, items, listItems, itOf, itOk, clr, Hp.new_at, Hp.set_at, Hp.new_nx, Hp.set_nx, hd, i3, i4, hlt, i5]
        exact hK3
      · rw [List.getElem?_eq_none (by omega)] at hK3
        simp [wpSs, wpS, wpT, wpTs, wpE, wpEs, wpO, wpB, wpI, pLoc, pCmp, pEq, pTruth, pBin, pInt, pAug, pSub, pBcall, pBmeth, pAssign, pAttr, pSetAttr, pMeth, pLcall, pSetItem, pSlc, pNew, isNoneV, unp, putAll, items, listItems, itOf, itOk, clr, Hp.new_at, Hp.set_at, Hp.new_nx, Hp.set_nx, hd, hlt]
        exact hK3
    refine bitOk _ (kn3 _ _ (seqK fun K4 kn4 _ _ _ => wp_ite fun G4 g41 g42 => ?_))
    clear bitOk
    simp [wpSs, wpS, wpT, wpTs, wpE, wpEs, wpO, wpB, wpI, pLoc, pCmp, pEq, pTruth, pBin, pInt, pAug, pSub, pBcall, pBmeth, pAssign, pAttr, pSetAttr, pMeth, pLcall, pSetItem, pSlc, pNew, isNoneV, unp, putAll, items, listItems, itOf, itOk, clr, Hp.new_at, Hp.set_at, Hp.new_nx, Hp.set_nx]
    refine splam hm (Nat.lt_of_lt_of_le hr (Nat.le_of_lt hs)) (Nat.lt_of_lt_of_le hc (Nat.le_of_lt hs)) ?_
    -- the mask
    have mkOk : ∀ G4 : Bool → Hp → Prop, True := fun _ => trivial
    suffices hrest : wpSs (sx02 A ns) (Ph (sx02 A ns) F02 L02 (n + 1)) (.cons (.asgnS (.sub (.attr (.loc 0) 16) (.loc 4)) (.loc 11) (.loc 12)) (.cons (.augN 5 .Sub (.cst (.int 1))) (.cons (.ite (.ex (.cmp .Eq (.loc 5) (.neg (.cst (.int 1))))) (.cons (.augN 6 .Add (.cst (.int 1))) (.cons (.asgn (.nm 5) (.cst (.int 7))) .nil)) .nil) .nil)))
        [.ref x, .ref dw, .int m, .int inc, .int r, .int b, .int B, .lam (lamX (21 + 2 * m)), .int words.length, w9, w10, .int c, .bool (bitAt words T != dk m r c)] σ K1 (fun _ _ => False) by
      cases hdk : dk m r c
      · refine g42 _ (wp_nil (kn4 _ _ ?_))
        rw [hdk, Bool.bne_false] at hrest
        exact hrest
      · refine g41 _ ?_
        simp [wpSs, wpS, wpT, wpTs, wpE, wpEs, wpO, wpB, wpI, pLoc, pCmp, pEq, pTruth, pBin, pInt, pAug, pSub, pBcall, pBmeth, pAssign, pAttr, pSetAttr, pMeth, pLcall, pSetItem, pSlc, pNew, isNoneV, unp, putAll, items, listItems, itOf, itOk, clr, Hp.new_at, Hp.set_at, Hp.new_nx, Hp.set_nx]
        refine kn4 _ _ ?_
        rw [hdk, Bool.bne_true] at hrest
        exact hrest
    have hM := h.set (v := some (bitAt words T != dk m r c)) hrr e1 hr (c := c)
    have hE : Ext (· ∈ rs) σ (σ.set rr (.list ((cs.map cellV).set c (cellV (some (bitAt words T != dk m r c)))))) := .set (List.mem_of_getElem? hrr)
    refine seqK fun K5 kn5 _ _ _ => ?_
    simp [wpSs, wpS, wpT, wpTs, wpE, wpEs, wpO, wpB, wpI, pLoc, pCmp, pEq, pTruth, pBin, pInt, pAug, pSub, pBcall, pBmeth, pAssign, pAttr, pSetAttr, pMeth, pLcall, pSetItem, pSlc, pNew, isNoneV, unp, putAll, items, listItems, itOf, itOk, clr, Hp.new_at, Hp.set_at, Hp.new_nx, Hp.set_nx, hx, ak16, f7, htop, i1, hrr, hrow, i2]
    refine kn5 _ _ (seqK fun K6 kn6 _ _ _ => ?_)
    simp [wpSs, wpS, wpT, wpTs, wpE, wpEs, wpO, wpB, wpI, pLoc, pCmp, pEq, pTruth, pBin, pInt, pAug, pSub, pBcall, pBmeth, pAssign, pAttr, pSetAttr, pMeth, pLcall, pSetItem, pSlc, pNew, isNoneV, unp, putAll, items, listItems, itOf, itOk, clr, Hp.new_at, Hp.set_at, Hp.new_nx, Hp.set_nx]
    refine kn6 _ _ (seqK fun K7 kn7 _ _ _ => wp_ite fun G7 g71 g72 => ?_)
    simp [wpSs, wpS, wpT, wpTs, wpE, wpEs, wpO, wpB, wpI, pLoc, pCmp, pEq, pTruth, pBin, pInt, pAug, pSub, pBcall, pBmeth, pAssign, pAttr, pSetAttr, pMeth, pLcall, pSetItem, pSlc, pNew, isNoneV, unp, putAll, items, listItems, itOf, itOk, clr, Hp.new_at, Hp.set_at, Hp.new_nx, Hp.set_nx]
    by_cases hz : b = 0
    · have e : ((b : Int) - 1 == -1) = true := by subst hz; rfl
      rw [e]
      refine g71 _ ?_
      simp [wpSs, wpS, wpT, wpTs, wpE, wpEs, wpO, wpB, wpI, pLoc, pCmp, pEq, pTruth, pBin, pInt, pAug, pSub, pBcall, pBmeth, pAssign, pAttr, pSetAttr, pMeth, pLcall, pSetItem, pSlc, pNew, isNoneV, unp, putAll, items, listItems, itOf, itOk, clr, Hp.new_at, Hp.set_at, Hp.new_nx, Hp.set_nx]
      refine kn7 _ _ (wp_nil (kn _ _ (wp_nil ?_)))
      have := hK _ (.bool (bitAt words T != dk m r c)) hM hE
      unfold rho317 tI bI at this
      rw [show 7 - (T + 1) % 8 = 7 by omega, show (T + 1) / 8 = B + 1 by omega] at this
      exact this
    · have e : ((b : Int) - 1 == -1) = false := by rw [beq_eq_false_iff_ne]; omega
      rw [e]
      refine g72 _ (wp_nil (kn7 _ _ (wp_nil (kn _ _ (wp_nil ?_)))))
      have := hK _ (.bool (bitAt words T != dk m r c)) hM hE
      unfold rho317 tI bI at this
      rw [show 7 - (T + 1) % 8 = b - 1 by omega, show (T + 1) / 8 = B by omega, show ((b - 1 : Nat) : Int) = (b : Int) - 1 by omega] at this
      exact this
end
end Mine
open PySem PySem.W PySem.Calls PyProof.Rows PySem.Spec
set_option linter.unusedVariables false
set_option linter.unusedSimpArgs false
namespace Mine
def incAt (t : Nat) : Int := if t % 2 = 0 then -1 else 1
theorem row_step {side t j : Nat} (hj : j + 1 < side) : (rowAt side t j : Int) + incAt t = (rowAt side t (j + 1) : Nat) := by
  unfold rowAt incAt
  split <;> omega
theorem row_end {side t : Nat} (h : 0 < side) : ((rowAt side t (side - 1) : Int) + incAt t = -1 ∨ (rowAt side t (side - 1) : Int) + incAt t = side) ∧ rowAt side t (side - 1) = rowAt side (t + 1) 0 ∧ - incAt t = incAt (t + 1) := by
  unfold rowAt incAt
  by_cases q : t % 2 = 0
  · have : ¬ (t + 1) % 2 = 0 := by omega
    simp only [if_pos q, if_neg this]
    refine ⟨?_, ?_, ?_⟩ <;> omega
  · have : (t + 1) % 2 = 0 := by omega
    simp only [if_neg q, if_pos this]
    exact ⟨by omega, by omega, trivial⟩
theorem fold_sq {words : List Int} {m side : Nat} : ∀ {l : List (Nat × Nat)} {st : Cells × Nat}, Sq side st.1 → (∀ p ∈ l, p.1 < side) → Sq side (l.foldl (stepM words m) st).1
  | [], _, h, _ => h
  | p :: l, st, h, hl => fold_sq (l := l) (st := stepM words m st p) (stepM_sq h (hl p (List.mem_cons_self ..))) fun q hq => hl q (List.mem_cons_of_mem _ hq)
section
variable {A : Addr} {ns : List Int} {n : Nat} {σ : Hp} {X : XP} {x mo dw : Nat} {rs : List Nat} {fs : List V} {words : List Int} {side m t : Nat} {M : Cells} {T : Nat}
theorem while317 {K : Fl → List V → Hp → Prop} {w11 w12 : V} (h : HM x mo dw rs fs words side σ M) (hw : ∀ w ∈ words, 0 ≤ w) (h1 : Side side) (hm : m < 8) (ht : t < (side - 1) / 2)
    (hK : ∀ σ' w11' w12', HM x mo dw rs fs words side σ' ((blkN side t side).foldl (stepM words m) (M, T)).1 → Ext (· ∈ rs) σ σ' →
      K .next (rho317 x dw m (incAt (t + 1)) (rowAt side (t + 1) 0) ((blkN side t side).foldl (stepM words m) (M, T)).2 words.length (.int (colAt side t)) (.tup [.int (colAt side t), .int ((colAt side t : Int) - 1)]) w11' w12') σ') :
    wpS (sx02 A ns) (Ph (sx02 A ns) F02 L02 (n + 1)) (.whl (.ex (.cst (.bool true))) b317_2) (rho317 x dw m (incAt t) (rowAt side t 0) T words.length (.int (colAt side t)) (.tup [.int (colAt side t), .int ((colAt side t : Int) - 1)]) w11 w12) σ K X := by
  obtain ⟨b1, b2⟩ := side_b h1
  obtain ⟨c1, c2⟩ := colGe h1 ht
  refine wp_whl (while_inv0 (fun k ρ σ' => ∃ j w11 w12, k + j + 1 = side ∧ ρ = rho317 x dw m (incAt t) (rowAt side t j) ((blkN side t j).foldl (stepM words m) (M, T)).2 words.length (.int (colAt side t)) (.tup [.int (colAt side t), .int ((colAt side t : Int) - 1)]) w11 w12 ∧
    HM x mo dw rs fs words side σ' ((blkN side t j).foldl (stepM words m) (M, T)).1 ∧ Ext (· ∈ rs) σ σ') (side - 1) ⟨0, w11, w12, by omega, rfl, h, .refl⟩ ?_)
  rintro k ρ σ' ⟨j, w11, w12, hkj, hρ, hM, hE⟩ G g1 g2
  generalize hst : (blkN side t j).foldl (stepM words m) (M, T) = st at hM hρ
  obtain ⟨M1, T1⟩ := st
  subst hρ
  simp [wpSs, wpS, wpT, wpTs, wpE, wpEs, wpO, wpB, wpI, pLoc, pCmp, pEq, pTruth, pBin, pInt, pAug, pSub, pBcall, pBmeth, pAssign, pAttr, pSetAttr, pMeth, pLcall, pSetItem, pSlc, pNew, isNoneV, unp, putAll, items, listItems, itOf, itOk, clr, Hp.new_at, Hp.set_at, Hp.new_nx, Hp.set_nx]
  refine g2 _ fun K' kn kc kb kr => ?_
  clear g1 g2
  unfold b317_2
  refine seqK fun K1 kn1 _ _ _ => wp_for fun G hG => ?_
  have hj : j < side := by omega
  have hr := rowLt (t := t) hj
  simp [wpSs, wpS, wpT, wpTs, wpE, wpEs, wpO, wpB, wpI, pLoc, pCmp, pEq, pTruth, pBin, pInt, pAug, pSub, pBcall, pBmeth, pAssign, pAttr, pSetAttr, pMeth, pLcall, pSetItem, pSlc, pNew, isNoneV, unp, putAll, items, listItems, itOf, itOk, clr, Hp.new_at, Hp.set_at, Hp.new_nx, Hp.set_nx, rho317]
  refine hG _ _ (loop_inv0 (fun i ρ σ'' => ∃ w11 w12, ρ = rho317 x dw m (incAt t) (rowAt side t j) ((([(rowAt side t j, colAt side t), (rowAt side t j, colAt side t - 1)].take i).foldl (stepM words m) (M1, T1)).2) words.length (.int (colAt side t)) (.tup [.int (colAt side t), .int ((colAt side t : Int) - 1)]) w11 w12 ∧
    HM x mo dw rs fs words side σ'' (([(rowAt side t j, colAt side t), (rowAt side t j, colAt side t - 1)].take i).foldl (stepM words m) (M1, T1)).1 ∧ Ext (· ∈ rs) σ σ'') ⟨w11, w12, rfl, hM, hE⟩ ?_ ?_)
  · rintro i ρ σ'' hi ⟨w11, w12, rfl, hM', hE'⟩
    have hi' : i < 2 := hi
    have hi2 : i = 0 ∨ i = 1 := by omega
    rcases hi2 with rfl | rfl
    · refine ⟨trivial, _, rfl, trivial, fun K2 k2 _ _ _ => ?_⟩
      refine ⟨trivial, by simp [rho317], ?_⟩
      refine cell317 (T := T1) (M := M1) hM' hw (by omega) hm hr c2 fun σ3 w12' hM3 hE3 => k2 _ _ ⟨_, w12', rfl, hM3, hE'.trans hE3⟩
    · refine ⟨trivial, _, rfl, trivial, fun K2 k2 _ _ _ => ?_⟩
      refine ⟨trivial, by simp [rho317], ?_⟩
      have e : ((colAt side t : Int) - 1) = ((colAt side t - 1 : Nat) : Int) := by omega
      show wpSs _ _ b317_1 (rho317 x dw m (incAt t) (rowAt side t j) _ words.length (.int (colAt side t)) (.tup [.int (colAt side t), .int ((colAt side t : Int) - 1)]) (.int ((colAt side t : Int) - 1)) w12) σ'' K2 _
      rw [e]
      refine cell317 hM' hw (by omega) hm hr (by omega) fun σ3 w12' hM3 hE3 => k2 _ _ ⟨.int (colAt side t - 1 : Nat), w12', ?_, hM3, hE'.trans hE3⟩
      rw [← e]; rfl
  · rintro ρ σ'' ⟨w11, w12, rfl, hM', hE'⟩
    refine ⟨trivial, kn1 _ _ ?_⟩
    have hs : ((blkN side t (j + 1)).foldl (stepM words m) (M, T)) = ([(rowAt side t j, colAt side t), (rowAt side t j, colAt side t - 1)].foldl (stepM words m) (M1, T1)) := by
      rw [blkN, List.foldl_append, hst]
    have hM2 : HM x mo dw rs fs words side σ'' ((blkN side t (j + 1)).foldl (stepM words m) (M, T)).1 := by rw [hs]; exact hM'
    rw [show (It.tup [V.int ↑(colAt side t), V.int (↑(colAt side t) - 1)]).n = 2 from rfl, show List.take 2 [(rowAt side t j, colAt side t), (rowAt side t j, colAt side t - 1)] = [(rowAt side t j, colAt side t), (rowAt side t j, colAt side t - 1)] from rfl, ← hs]
    have hx := hM2.hx
    have f8 := hM2.f8
    refine seqK fun K3 kn3 _ _ _ => ?_
    simp [wpSs, wpS, wpT, wpTs, wpE, wpEs, wpO, wpB, wpI, pLoc, pCmp, pEq, pTruth, pBin, pInt, pAug, pSub, pBcall, pBmeth, pAssign, pAttr, pSetAttr, pMeth, pLcall, pSetItem, pSlc, pNew, isNoneV, unp, putAll, items, listItems, itOf, itOk, clr, Hp.new_at, Hp.set_at, Hp.new_nx, Hp.set_nx, rho317]
    refine kn3 _ _ ?_
    obtain ⟨z, hz⟩ : ∃ z, z = (rowAt side t j : Int) + incAt t := ⟨_, rfl⟩
    rw [← hz]
    refine seqK fun K4 kn4 _ kb4 _ => wp_ite fun G4 g41 g42 => ?_
    by_cases hjj : j + 1 < side
    · rw [row_step hjj] at hz
      subst hz
      have hr2 := rowLt (t := t) hjj
      simp [wpSs, wpS, wpT, wpTs, wpE, wpEs, wpO, wpB, wpI, pLoc, pCmp, pEq, pTruth, pBin, pInt, pAug, pSub, pBcall, pBmeth, pAssign, pAttr, pSetAttr, pMeth, pLcall, pSetItem, pSlc, pNew, isNoneV, unp, putAll, items, listItems, itOf, itOk, clr, Hp.new_at, Hp.set_at, Hp.new_nx, Hp.set_nx, hx, ak17, f8, hr2, Int.not_lt.mpr (Int.natCast_nonneg _), Nat.not_le.mpr hr2]
      refine g42 _ (wp_nil (kn4 _ _ (wp_nil (kn (k - 1) _ _ (by omega) ⟨j + 1, _, _, by omega, rfl, hM2, hE'⟩))))
    · have : j = side - 1 := by omega
      subst this
      obtain ⟨r1, r2, r3⟩ := row_end (t := t) (show 0 < side by omega)
      rw [← hz] at r1
      rw [show side - 1 + 1 = side by omega] at hM2 g41
      have hg : G4 true σ'' := g41 _ (by
        simp [wpSs, wpS, wpT, wpTs, wpE, wpEs, wpO, wpB, wpI, pLoc, pCmp, pEq, pTruth, pBin, pInt, pAug, pSub, pBcall, pBmeth, pAssign, pAttr, pSetAttr, pMeth, pLcall, pSetItem, pSlc, pNew, isNoneV, unp, putAll, items, listItems, itOf, itOk, clr, Hp.new_at, Hp.set_at, Hp.new_nx, Hp.set_nx]
        refine kb4 _ _ (kb _ _ ?_)
        have := hK σ'' w11 w12 hM2 hE'
        rw [show z - incAt t = (rowAt side (t + 1) 0 : Nat) by rw [← r2]; omega, r3]
        exact this)
      rcases r1 with r1 | r1
      · have : z < 0 := by omega
        simp [wpSs, wpS, wpT, wpTs, wpE, wpEs, wpO, wpB, wpI, pLoc, pCmp, pEq, pTruth, pBin, pInt, pAug, pSub, pBcall, pBmeth, pAssign, pAttr, pSetAttr, pMeth, pLcall, pSetItem, pSlc, pNew, isNoneV, unp, putAll, items, listItems, itOf, itOk, clr, Hp.new_at, Hp.set_at, Hp.new_nx, Hp.set_nx, this, hg]
      · have a : ¬ z < 0 := by omega
        have b : (side : Int) ≤ z := by omega
        simp [wpSs, wpS, wpT, wpTs, wpE, wpEs, wpO, wpB, wpI, pLoc, pCmp, pEq, pTruth, pBin, pInt, pAug, pSub, pBcall, pBmeth, pAssign, pAttr, pSetAttr, pMeth, pLcall, pSetItem, pSlc, pNew, isNoneV, unp, putAll, items, listItems, itOf, itOk, clr, Hp.new_at, Hp.set_at, Hp.new_nx, Hp.set_nx, a, hx, ak17, f8, b, hg]
end
end Mine
open PySem PySem.W PySem.Calls PyProof.Rows PySem.Spec
set_option linter.unusedVariables false
set_option linter.unusedSimpArgs false
namespace Mine
section
variable {A : Addr} {ns : List Int} {n : Nat} {σ : Hp} {X : XP} {x mo dw : Nat} {rs : List Nat} {fs : List V} {words : List Int} {side m : Nat} {M : Cells} {Q : V → Hp → Prop}
theorem sp317 (h : HM x mo dw rs fs words side σ M) (hw : ∀ w ∈ words, 0 ≤ w) (h1 : Side side) (hm : m < 8)
    (hq : ∀ σ', HM x mo dw rs fs words side σ' ((walkN side ((side - 1) / 2)).foldl (stepM words m) (M, 0)).1 → Ext (· ∈ rs) σ σ' → Q .none σ') : Ph (sx02 A ns) F02 L02 (n + 2) (.fn 317) [.ref x, .ref dw, .int m] [] σ Q X := by
  obtain ⟨b1, b2⟩ := side_b h1
  obtain ⟨r1, r2⟩ := rng0 h1
  have hx := h.hx
  have f8 := h.f8
  have hd := h.d
  refine ph_fn rfl rfl (by decide : 3 ≤ 13) ?_
  unfold tx317
  refine seqK fun K1 k1 _ _ _ => ?_
  simp [wpSs, wpS, wpT, wpTs, wpE, wpEs, wpO, wpB, wpI, pLoc, pCmp, pEq, pTruth, pBin, pInt, pAug, pSub, pBcall, pBmeth, pAssign, pAttr, pSetAttr, pMeth, pLcall, pSetItem, pSlc, pNew, isNoneV, unp, putAll, items, listItems, itOf, itOk, clr, Hp.new_at, Hp.set_at, Hp.new_nx, Hp.set_nx]
  refine k1 _ _ (seqK fun K2 k2 _ _ _ => ?_)
  simp [wpSs, wpS, wpT, wpTs, wpE, wpEs, wpO, wpB, wpI, pLoc, pCmp, pEq, pTruth, pBin, pInt, pAug, pSub, pBcall, pBmeth, pAssign, pAttr, pSetAttr, pMeth, pLcall, pSetItem, pSlc, pNew, isNoneV, unp, putAll, items, listItems, itOf, itOk, clr, Hp.new_at, Hp.set_at, Hp.new_nx, Hp.set_nx, hx, ak17, f8]
  refine k2 _ _ (seqK fun K3 k3 _ _ _ => ?_)
  simp [wpSs, wpS, wpT, wpTs, wpE, wpEs, wpO, wpB, wpI, pLoc, pCmp, pEq, pTruth, pBin, pInt, pAug, pSub, pBcall, pBmeth, pAssign, pAttr, pSetAttr, pMeth, pLcall, pSetItem, pSlc, pNew, isNoneV, unp, putAll, items, listItems, itOf, itOk, clr, Hp.new_at, Hp.set_at, Hp.new_nx, Hp.set_nx]
  refine k3 _ _ (seqK fun K4 k4 _ _ _ => ?_)
  simp [wpSs, wpS, wpT, wpTs, wpE, wpEs, wpO, wpB, wpI, pLoc, pCmp, pEq, pTruth, pBin, pInt, pAug, pSub, pBcall, pBmeth, pAssign, pAttr, pSetAttr, pMeth, pLcall, pSetItem, pSlc, pNew, isNoneV, unp, putAll, items, listItems, itOf, itOk, clr, Hp.new_at, Hp.set_at, Hp.new_nx, Hp.set_nx]
  refine k4 _ _ (seqK fun K5 k5 _ _ _ => ?_)
  simp [wpSs, wpS, wpT, wpTs, wpE, wpEs, wpO, wpB, wpI, pLoc, pCmp, pEq, pTruth, pBin, pInt, pAug, pSub, pBcall, pBmeth, pAssign, pAttr, pSetAttr, pMeth, pLcall, pSetItem, pSlc, pNew, isNoneV, unp, putAll, items, listItems, itOf, itOk, clr, Hp.new_at, Hp.set_at, Hp.new_nx, Hp.set_nx]
  refine sp85 hm ?_
  simp [wpSs, wpS, wpT, wpTs, wpE, wpEs, wpO, wpB, wpI, pLoc, pCmp, pEq, pTruth, pBin, pInt, pAug, pSub, pBcall, pBmeth, pAssign, pAttr, pSetAttr, pMeth, pLcall, pSetItem, pSlc, pNew, isNoneV, unp, putAll, items, listItems, itOf, itOk, clr, Hp.new_at, Hp.set_at, Hp.new_nx, Hp.set_nx]
  refine k5 _ _ (seqK fun K6 k6 _ _ _ => ?_)
  simp [wpSs, wpS, wpT, wpTs, wpE, wpEs, wpO, wpB, wpI, pLoc, pCmp, pEq, pTruth, pBin, pInt, pAug, pSub, pBcall, pBmeth, pAssign, pAttr, pSetAttr, pMeth, pLcall, pSetItem, pSlc, pNew, isNoneV, unp, putAll, items, listItems, itOf, itOk, clr, Hp.new_at, Hp.set_at, Hp.new_nx, Hp.set_nx, hd]
  refine k6 _ _ (seqK fun K7 k7 _ _ _ => wp_for fun G hG => ?_)
  have z1 : ((side : Int) - 1).natAbs < 2 ^ 40 := by omega
  simp [wpSs, wpS, wpT, wpTs, wpE, wpEs, wpO, wpB, wpI, pLoc, pCmp, pEq, pTruth, pBin, pInt, pAug, pSub, pBcall, pBmeth, pAssign, pAttr, pSetAttr, pMeth, pLcall, pSetItem, pSlc, pNew, isNoneV, unp, putAll, items, listItems, itOf, itOk, clr, Hp.new_at, Hp.set_at, Hp.new_nx, Hp.set_nx, hx, ak17, f8, r2, z1]
  refine hG _ _ ?_
  rw [r1]
  refine loop_inv0 (fun t ρ σ' => ∃ w9 w10 w11 w12, ρ = rho317 x dw m (incAt t) (rowAt side t 0) ((walkN side t).foldl (stepM words m) (M, 0)).2 words.length w9 w10 w11 w12 ∧
    HM x mo dw rs fs words side σ' ((walkN side t).foldl (stepM words m) (M, 0)).1 ∧ Ext (· ∈ rs) σ σ') ⟨.undef, .undef, .undef, .undef, ?_, h, .refl⟩ ?_ ?_
  · have : (side : Int) - 1 = (rowAt side 0 0 : Nat) := by unfold rowAt; simp; omega
    rw [this]; simp [rho317, incAt, tI, bI, walkN]
  · rintro t ρ σ' ht ⟨w9, w10, w11, w12, hρ, hM, hE⟩
    generalize hst : (walkN side t).foldl (stepM words m) (M, 0) = st at hM hρ
    obtain ⟨M1, T1⟩ := st
    subst hρ
    refine ⟨trivial, _, rfl, trivial, fun K kn kc kr kb => ?_⟩
    refine ⟨trivial, by simp [rho317], ?_⟩
    obtain ⟨z, hz⟩ : ∃ z : Nat, z = side - 1 - 2 * t := ⟨_, rfl⟩
    have e : (side : Int) - 1 + t * -2 = z := by omega
    rw [e]
    show wpSs _ _ b317_3 (rho317 x dw m (incAt t) (rowAt side t 0) T1 words.length (.int z) w10 w11 w12) σ' K _
    unfold b317_3
    have fin : wpSs (sx02 A ns) (Ph (sx02 A ns) F02 L02 (n + 1)) (.cons (.asgn (.nm 10) (.tup (.cons (.loc 9) (.cons (.bin .Sub (.loc 9) (.cst (.int 1))) .nil)))) (.cons (.whl (.ex (.cst (.bool true))) b317_2) .nil))
        (rho317 x dw m (incAt t) (rowAt side t 0) T1 words.length (.int (colAt side t)) w10 w11 w12) σ' K (fun _ _ => False) := by
      refine seqK fun K1 k1 _ _ _ => ?_
      simp [wpSs, wpS, wpT, wpTs, wpE, wpEs, wpO, wpB, wpI, pLoc, pCmp, pEq, pTruth, pBin, pInt, pAug, pSub, pBcall, pBmeth, pAssign, pAttr, pSetAttr, pMeth, pLcall, pSetItem, pSlc, pNew, isNoneV, unp, putAll, items, listItems, itOf, itOk, clr, Hp.new_at, Hp.set_at, Hp.new_nx, Hp.set_nx, rho317, lim]
      refine k1 _ _ (seqK fun K2 k2 _ _ _ => ?_)
      refine while317 (M := M1) (T := T1) hM hw h1 hm ht fun σ'' w11' w12' hM2 hE2 => ?_
      have hs : (walkN side (t + 1)).foldl (stepM words m) (M, 0) = (blkN side t side).foldl (stepM words m) (M1, T1) := by rw [walkN, List.foldl_append, hst]
      rw [← hs] at hM2 ⊢
      exact k2 _ _ (wp_nil (kn _ _ ⟨_, _, w11', w12', rfl, hM2, hE.trans hE2⟩))
    refine seqK fun K1 k1 _ _ _ => wp_ite fun G1 g1 g2 => ?_
    by_cases hz6 : z ≤ 6
    · have a : (z : Int) ≤ 6 := by omega
      simp [wpSs, wpS, wpT, wpTs, wpE, wpEs, wpO, wpB, wpI, pLoc, pCmp, pEq, pTruth, pBin, pInt, pAug, pSub, pBcall, pBmeth, pAssign, pAttr, pSetAttr, pMeth, pLcall, pSetItem, pSlc, pNew, isNoneV, unp, putAll, items, listItems, itOf, itOk, clr, Hp.new_at, Hp.set_at, Hp.new_nx, Hp.set_nx, rho317, a]
      have hc : (z : Int) - 1 = (colAt side t : Nat) := by unfold colAt; rw [← hz, if_pos hz6]; omega
      refine g1 _ ?_
      simp [wpSs, wpS, wpT, wpTs, wpE, wpEs, wpO, wpB, wpI, pLoc, pCmp, pEq, pTruth, pBin, pInt, pAug, pSub, pBcall, pBmeth, pAssign, pAttr, pSetAttr, pMeth, pLcall, pSetItem, pSlc, pNew, isNoneV, unp, putAll, items, listItems, itOf, itOk, clr, Hp.new_at, Hp.set_at, Hp.new_nx, Hp.set_nx, rho317]
      refine k1 _ _ ?_
      rw [hc]
      exact fin
    · have a : ¬ (z : Int) ≤ 6 := by omega
      have hc : z = colAt side t := by unfold colAt; rw [← hz, if_neg hz6]
      rw [← hc] at fin
      simp [wpSs, wpS, wpT, wpTs, wpE, wpEs, wpO, wpB, wpI, pLoc, pCmp, pEq, pTruth, pBin, pInt, pAug, pSub, pBcall, pBmeth, pAssign, pAttr, pSetAttr, pMeth, pLcall, pSetItem, pSlc, pNew, isNoneV, unp, putAll, items, listItems, itOf, itOk, clr, Hp.new_at, Hp.set_at, Hp.new_nx, Hp.set_nx, rho317, a]
      exact g2 _ (wp_nil (k1 _ _ fin))
  · rintro ρ σ' ⟨w9, w10, w11, w12, rfl, hM, hE⟩
    exact ⟨trivial, k7 _ _ (wp_nil (hq _ hM hE))⟩
theorem sp317x {mi : Int} (h : HM x mo dw rs fs words side σ M) (hm : mi < 0 ∨ 7 < mi) (hx' : X "TypeError" σ) : Ph (sx02 A ns) F02 L02 (n + 2) (.fn 317) [.ref x, .ref dw, .int mi] [] σ Q X := by
  have hx := h.hx
  have f8 := h.f8
  refine ph_fn rfl rfl (by decide : 3 ≤ 13) ?_
  unfold tx317
  refine seqK fun K1 k1 _ _ _ => ?_
  simp [wpSs, wpS, wpT, wpTs, wpE, wpEs, wpO, wpB, wpI, pLoc, pCmp, pEq, pTruth, pBin, pInt, pAug, pSub, pBcall, pBmeth, pAssign, pAttr, pSetAttr, pMeth, pLcall, pSetItem, pSlc, pNew, isNoneV, unp, putAll, items, listItems, itOf, itOk, clr, Hp.new_at, Hp.set_at, Hp.new_nx, Hp.set_nx]
  refine k1 _ _ (seqK fun K2 k2 _ _ _ => ?_)
  simp [wpSs, wpS, wpT, wpTs, wpE, wpEs, wpO, wpB, wpI, pLoc, pCmp, pEq, pTruth, pBin, pInt, pAug, pSub, pBcall, pBmeth, pAssign, pAttr, pSetAttr, pMeth, pLcall, pSetItem, pSlc, pNew, isNoneV, unp, putAll, items, listItems, itOf, itOk, clr, Hp.new_at, Hp.set_at, Hp.new_nx, Hp.set_nx, hx, ak17, f8]
  refine k2 _ _ (seqK fun K3 k3 _ _ _ => ?_)
  simp [wpSs, wpS, wpT, wpTs, wpE, wpEs, wpO, wpB, wpI, pLoc, pCmp, pEq, pTruth, pBin, pInt, pAug, pSub, pBcall, pBmeth, pAssign, pAttr, pSetAttr, pMeth, pLcall, pSetItem, pSlc, pNew, isNoneV, unp, putAll, items, listItems, itOf, itOk, clr, Hp.new_at, Hp.set_at, Hp.new_nx, Hp.set_nx]
  refine k3 _ _ (seqK fun K4 k4 _ _ _ => ?_)
  simp [wpSs, wpS, wpT, wpTs, wpE, wpEs, wpO, wpB, wpI, pLoc, pCmp, pEq, pTruth, pBin, pInt, pAug, pSub, pBcall, pBmeth, pAssign, pAttr, pSetAttr, pMeth, pLcall, pSetItem, pSlc, pNew, isNoneV, unp, putAll, items, listItems, itOf, itOk, clr, Hp.new_at, Hp.set_at, Hp.new_nx, Hp.set_nx]
  refine k4 _ _ (seqK fun K5 k5 _ _ _ => ?_)
  simp [wpSs, wpS, wpT, wpTs, wpE, wpEs, wpO, wpB, wpI, pLoc, pCmp, pEq, pTruth, pBin, pInt, pAug, pSub, pBcall, pBmeth, pAssign, pAttr, pSetAttr, pMeth, pLcall, pSetItem, pSlc, pNew, isNoneV, unp, putAll, items, listItems, itOf, itOk, clr, Hp.new_at, Hp.set_at, Hp.new_nx, Hp.set_nx]
  exact sp85x hm hx'
theorem sp357 {mi : Int} (h : HM x mo dw rs fs words side σ M) (hm : mi < 0 ∨ 7 < mi) (hq : Q (.bool true) σ) : Ph (sx02 A ns) F02 L02 (n + 3) (.fn 357) [.ref x, .ref dw, .int mi] [] σ Q X := by
  have hx := h.hx
  refine ph_fn rfl rfl (Nat.le_refl _) ?_
  unfold tx357
  simp [wpSs, wpS, wpT, wpTs, wpE, wpEs, wpO, wpB, wpI, pLoc, pCmp, pEq, pTruth, pBin, pInt, pAug, pSub, pBcall, pBmeth, pAssign, pAttr, pSetAttr, pMeth, pLcall, pSetItem, pSlc, pNew, isNoneV, unp, putAll, items, listItems, itOf, itOk, clr, Hp.new_at, Hp.set_at, Hp.new_nx, Hp.set_nx, hx, ak23]
  refine sp317x h hm ?_
  simp [wpSs, wpS, wpT, wpTs, wpE, wpEs, wpO, wpB, wpI, pLoc, pCmp, pEq, pTruth, pBin, pInt, pAug, pSub, pBcall, pBmeth, pAssign, pAttr, pSetAttr, pMeth, pLcall, pSetItem, pSlc, pNew, isNoneV, unp, putAll, items, listItems, itOf, itOk, clr, Hp.new_at, Hp.set_at, Hp.new_nx, Hp.set_nx, List.lookup, hq]
end
end Mine
open PySem PySem.W PySem.Calls PyProof.Rows PySem.Spec
set_option linter.unusedVariables false
set_option linter.unusedSimpArgs false
namespace Mine
/-- rows newly made, not yet in a list of their own -/
structure PartM (σ σ' : Hp) (rs : List Nat) (M : Cells) : Prop where
  kp : Kp σ σ'
  len : rs.length = M.length
  row : ∀ (i : Nat) r cs, rs[i]? = some r → M[i]? = some cs → σ'.at_ r = some (.list (cs.map cellV))
  nd : rs.Nodup
  bd : ∀ r ∈ rs, σ.nx ≤ r ∧ r < σ'.nx
theorem PartM.nil {σ : Hp} : PartM σ σ [] [] := ⟨.refl, rfl, fun i r cs h => by simp at h, List.nodup_nil, fun r h => by cases h⟩
theorem PartM.push {σ σ' σ'' : Hp} {rs : List Nat} {M : Cells} (p : PartM σ σ' rs M) (k : Kp σ' σ'') {x : Nat} {cs : List (Option Bool)} (h1 : σ'.nx ≤ x) (h2 : x < σ''.nx) (h3 : σ''.at_ x = some (.list (cs.map cellV))) : PartM σ σ'' (rs ++ [x]) (M ++ [cs]) where
  kp := p.kp.trans k
  len := by simp [p.len]
  row := fun i r cs' a b => by
    by_cases hi : i < rs.length
    · rw [List.getElem?_append_left hi] at a
      rw [List.getElem?_append_left (by rw [← p.len]; exact hi)] at b
      exact k.at (p.bd r (List.mem_of_getElem? a)).2 (p.row i r cs' a b)
    · rw [List.getElem?_append_right (by omega)] at a
      rw [List.getElem?_append_right (by rw [← p.len]; omega), ← p.len] at b
      cases hz : i - rs.length with
      | zero => rw [hz] at a b; cases a; cases b; exact h3
      | succ z => rw [hz] at a; simp at a
  nd := by
    rw [List.nodup_append]
    exact ⟨p.nd, by simp, fun a ha b hb => by simp at hb; subst hb; have := (p.bd a ha).2; omega⟩
  bd := fun r hr => by
    rcases List.mem_append.mp hr with hr | hr
    · have := p.bd r hr; exact ⟨this.1, Nat.lt_of_lt_of_le this.2 k.1⟩
    · simp at hr; subst hr; exact ⟨Nat.le_trans p.kp.1 h1, h2⟩
theorem PartM.done {σ σ' : Hp} {rs : List Nat} {M : Cells} (p : PartM σ σ' rs M) : MatR (σ'.new (.list (rs.map .ref))) σ'.nx rs M where
  top := Hp.new_self
  len := p.len
  row := fun i r cs a b => by
    rw [Hp.new_ne (Nat.ne_of_lt (p.bd r (List.mem_of_getElem? a)).2)]
    exact p.row i r cs a b
  nd := p.nd
  off := fun h => Nat.lt_irrefl _ (p.bd _ h).2
  lt := ⟨Nat.lt_succ_self _, fun r hr => Nat.lt_succ_of_lt (p.bd r hr).2⟩
/-- a matrix newly made -/
def NewM (σ σ' : Hp) (y : Nat) (rs : List Nat) (M : Cells) : Prop := Kp σ σ' ∧ MatR σ' y rs M ∧ σ.nx ≤ y ∧ ∀ r ∈ rs, σ.nx ≤ r
theorem sliceAll {α : Type} (xs : List α) : sliceOf xs none none = xs := by simp [sliceOf]
theorem sliceTo {α : Type} (xs : List α) (k : Nat) : sliceOf xs none (some (k : Int)) = xs.take k := by
  simp only [sliceOf, Option.elim, List.drop_zero, Nat.sub_zero, clipAt]
  rw [if_neg (by omega)]
  have : (max 0 (min (k : Int) xs.length)).toNat = min k xs.length := by omega
  rw [this]
  by_cases h : k ≤ xs.length
  · rw [Nat.min_eq_left h]
  · rw [Nat.min_eq_right (by omega), List.take_of_length_le (by omega), List.take_of_length_le (by omega)]
theorem sliceFT {α : Type} (xs : List α) (j k : Nat) : ∃ ys, sliceOf xs (some (j : Int)) (some (k : Int)) = ys ∧ ys.length ≤ k - j ∧ (∀ y ∈ ys, y ∈ xs) ∧ (xs.drop j).take (k - j) = ys := by
  refine ⟨(xs.drop j).take (k - j), ?_, ?_, fun y h => List.mem_of_mem_drop (List.mem_of_mem_take h), rfl⟩
  · simp only [sliceOf, Option.elim, clipAt]
    rw [if_neg (by omega), if_neg (by omega)]
    have e1 : (max 0 (min (k : Int) xs.length)).toNat = min k xs.length := by omega
    have e2 : (max 0 (min (j : Int) xs.length)).toNat = min j xs.length := by omega
    rw [e1, e2]
    by_cases h : j ≤ xs.length
    · rw [Nat.min_eq_left h]
      by_cases h2 : k ≤ xs.length
      · rw [Nat.min_eq_left h2]
      · rw [Nat.min_eq_right (by omega), List.take_of_length_le (by simp), List.take_of_length_le (by simp; omega)]
    · rw [List.drop_of_length_le (show xs.length ≤ min j xs.length by omega), List.drop_of_length_le (show xs.length ≤ j by omega)]; simp
  · rw [List.length_take]; omega
section
variable {A : Addr} {ns : List Int} {n : Nat} {σ : Hp} {X : XP} {Q : V → Hp → Prop} {Φ : Fn} {S : Sx}
/-- [row[:] for row in M] -/
theorem copy_ok {k l : Nat} {ρ : List V} {lx : Nat} {rs : List Nat} {M : Cells} (hm : MatR σ lx rs M) (hk : k < ρ.length) (hl : ρ[l]? = some (.ref lx)) (hs : M.length ≤ lim)
    (hq : ∀ σ' y rs', NewM σ σ' y rs' M → Q (.ref y) σ') : wpE S Φ (.comp [k] (.it (.loc l)) (.last (.nm k) .nil (.slc (.loc k) .no .no .no))) ρ σ Q X := by
  refine wp_comp fun G hG => ?_
  have htop := hm.top
  simp only [wpI, wpE, pLoc, hl, ok_ref, true_and, itOf, htop]
  refine ⟨_, rfl, trivial, hG _ _ ?_⟩
  have hn : (It.lst lx (rs.map V.ref).length).n = M.length := by simp [It.n, hm.len]
  rw [hn]
  refine gather_inv0 (fun i acc ρ' σ' => ∃ rs' w, acc = rs'.map .ref ∧ ρ' = ρ.set k w ∧ PartM σ σ' rs' (M.take i)) ?_ ?_ ?_
  · exact ⟨[], .undef, rfl, rfl, by rw [List.take_zero]; exact .nil⟩
  · rintro i acc ρ' σ' hi ⟨rs', w, rfl, rfl, p⟩
    have ht' := p.kp.at hm.lt.1 htop
    obtain ⟨r, hr⟩ : ∃ r, rs[i]? = some r := ⟨_, List.getElem?_eq_getElem (by rw [hm.len]; exact hi)⟩
    obtain ⟨cs, hcs⟩ : ∃ cs, M[i]? = some cs := ⟨_, List.getElem?_eq_getElem hi⟩
    have hrow := p.kp.at (hm.lt.2 r (List.mem_of_getElem? hr)) (hm.row i r cs hr hcs)
    refine ⟨⟨_, ht', by simp⟩, .ref r, ?_, trivial, fun K hK => ?_⟩
    · simp [It.get, ht', hr]
    · have hlen : rs'.length < lim := by rw [p.len, List.length_take]; omega
      have hk2 : (ρ.set k (.ref r))[k]? = some (.ref r) := by rw [List.getElem?_set_self hk]
      simp only [wpG, wpTs, pAssign, List.length_set, List.set_set, wpE, wpO, pLoc, hk2, ok_ref, true_and, hk, pSlc, optInt]
      refine ⟨_, _, rfl, rfl, cs.map cellV, by simp [listItems, hrow], .inl ⟨trivial, by rw [List.length_map]; exact hlen, hK _ _ _ ⟨rs' ++ [σ'.nx], _, by simp, rfl, ?_⟩⟩⟩
      rw [sliceAll]
      rw [List.take_add_one, hcs]
      exact p.push .new (Nat.le_refl _) (Nat.lt_succ_self _) Hp.new_self
  · rintro acc ρ' σ' ⟨rs', w, rfl, rfl, p⟩
    rw [List.take_length] at p
    refine ⟨⟨_, p.kp.at hm.lt.1 htop, by simp⟩, by rw [List.length_map, p.len]; exact hs, hq _ _ rs' ⟨p.kp.trans .new, p.done, p.kp.1, fun r hr => (p.bd r hr).1⟩⟩
end
end Mine
open PySem PySem.W PySem.Calls PyProof.Rows PySem.Spec
set_option linter.unusedVariables false
set_option linter.unusedSimpArgs false
namespace Mine
theorem fmod_nat (a b : Nat) : (a : Int).fmod (b : Int) = ((a % b : Nat) : Int) := by
  rw [Int.fmod_eq_emod_of_nonneg _ (Int.natCast_nonneg b)]; exact (Int.natCast_emod a b).symm
theorem fdiv_nat (a b : Nat) : (a : Int).fdiv (b : Int) = ((a / b : Nat) : Int) := by
  rw [Int.fdiv_eq_ediv_of_nonneg _ (Int.natCast_nonneg b)]; exact (Int.natCast_ediv a b).symm
section
variable {A : Addr} {ns : List Int} {n : Nat} {σ : Hp} {X : XP} {Q : V → Hp → Prop}
theorem c362_1_ok {ρ : List V} {side nb : Nat} {nums : List Int} (h1 : Side side) (hn : σ.at_ nb = some (.list (nums.map .int))) (hb : nb < σ.nx) (hp : 0 < nums.length) (hp2 : nums.length ≤ 100) (h5 : ρ[5]? = some (.int side)) (h6 : ρ[6]? = some (.ref nb)) (h14 : 14 < ρ.length)
    (hq : ∀ σ' y rs M, NewM σ σ' y rs M → Sq side M → Q (.ref y) σ') : wpE (sx02 A ns) (Ph (sx02 A ns) F02 L02 (n + 1)) c362_1 ρ σ Q X := by
  obtain ⟨b1, b2⟩ := side_b h1
  have s5 := range_small1 (b := side) (by omega)
  have s7 : (It.rng 0 side 1).n = side := rngLen_up side
  refine wp_comp fun G hG => ?_
  simp [wpSs, wpS, wpT, wpTs, wpE, wpEs, wpO, wpB, wpI, pLoc, pCmp, pEq, pTruth, pBin, pInt, pAug, pSub, pBcall, pBmeth, pAssign, pAttr, pSetAttr, pMeth, pLcall, pSetItem, pSlc, pNew, isNoneV, unp, putAll, items, listItems, itOf, itOk, clr, Hp.new_at, Hp.set_at, Hp.new_nx, Hp.set_nx, h5, s5]
  refine ⟨by omega, hG _ _ ?_⟩
  rw [s7]
  refine gather_inv0 (fun i acc ρ' σ' => ∃ rs M w, acc = rs.map .ref ∧ ρ' = ρ.set 14 w ∧ PartM σ σ' rs M ∧ M.length = i ∧ ∀ cs ∈ M, cs.length = side) ⟨[], [], .undef, rfl, rfl, .nil, rfl, fun cs h => by cases h⟩ ?_ ?_
  · rintro i acc ρ' σ' hi ⟨rs, M, w, rfl, rfl, p, hM, hc⟩
    refine ⟨trivial, .int (0 + i * 1), rfl, trivial, fun K hK => ?_⟩
    have hn' := p.kp.at hb hn
    have e1 : (ρ.set 14 (.int i))[6]? = some (.ref nb) := by rw [List.getElem?_set_ne (by decide)]; exact h6
    have e2 : (ρ.set 14 (.int i))[5]? = some (.int side) := by rw [List.getElem?_set_ne (by decide)]; exact h5
    have e3 : (ρ.set 14 (.int i))[14]? = some (.int i) := by rw [List.getElem?_set_self h14]
    have e4 : (i : Int).fmod (nums.length : Int) = ((i % nums.length : Nat) : Int) := fmod_nat ..
    have e5 : idx? nums.length (((i % nums.length : Nat) : Int)) = some (i % nums.length) := idx_nat (Nat.mod_lt _ hp)
    have e6 : nums[i % nums.length]? = some (nums[i % nums.length]'(Nat.mod_lt _ hp)) := List.getElem?_eq_getElem _
    have e7 : ¬ nums = [] := by rintro rfl; simp at hp
    have e8 : rs.length < 1048576 := by rw [p.len]; omega
    simp only [wpG, pAssign, List.length_set, h14, List.set_set, wpTs, Int.zero_add, Int.mul_one, ok_int, true_and]
    simp [wpSs, wpS, wpT, wpTs, wpE, wpEs, wpO, wpB, wpI, pLoc, pCmp, pEq, pTruth, pBin, pInt, pAug, pSub, pBcall, pBmeth, pAssign, pAttr, pSetAttr, pMeth, pLcall, pSetItem, pSlc, pNew, isNoneV, unp, putAll, items, listItems, itOf, itOk, clr, Hp.new_at, Hp.set_at, Hp.new_nx, Hp.set_nx, e1, e2, e3, hn', e7, lim]
    rw [e4, e5]
    refine ⟨_, rfl, _, ⟨_, e6, rfl⟩, ?_⟩
    simp [wpSs, wpS, wpT, wpTs, wpE, wpEs, wpO, wpB, wpI, pLoc, pCmp, pEq, pTruth, pBin, pInt, pAug, pSub, pBcall, pBmeth, pAssign, pAttr, pSetAttr, pMeth, pLcall, pSetItem, pSlc, pNew, isNoneV, unp, putAll, items, listItems, itOf, itOk, clr, Hp.new_at, Hp.set_at, Hp.new_nx, Hp.set_nx, hp2]
    refine ⟨.inl (by omega), ?_⟩
    refine sp345 (by omega) (by omega) fun σ'' x ⟨k1, k2, k3, cs, k4, k5⟩ => ?_
    refine ⟨trivial, e8, hK _ _ _ ⟨rs ++ [x], M ++ [cs], _, by simp, rfl, p.push k1 k2 k3 k4, by simp [hM], fun c hc' => ?_⟩⟩
    rcases List.mem_append.mp hc' with h | h
    · exact hc c h
    · simp at h; subst h; exact k5
  · rintro acc ρ' σ' ⟨rs, M, w, rfl, rfl, p, hM, hc⟩
    refine ⟨trivial, by rw [List.length_map, p.len]; unfold lim; omega, hq _ _ rs M ⟨p.kp.trans .new, p.done, p.kp.1, fun r hr => (p.bd r hr).1⟩ ⟨hM, hc⟩⟩
set_option maxRecDepth 8000 in
theorem c362_2_ok {ρ : List V} {nb : Nat} {s : Int} {nums : List Int} (hn : σ.at_ nb = some (.list (nums.map .int))) (hp : 0 < nums.length) (h5 : ρ[2]? = some (.int s)) (h6 : ρ[6]? = some (.ref nb)) (h14 : 12 < ρ.length)
    (hq : ∀ ws : List Int, ws.length ≤ 140 → (∀ w ∈ ws, 0 ≤ w) → Q (.ref σ.nx) (σ.new (.list (ws.map .int)))) : wpE (sx02 A ns) (Ph (sx02 A ns) F02 L02 (n + 1)) c362_2 ρ σ Q X := by
  obtain ⟨b1, b2⟩ := fmod_b s (show (0 : Int) < 140 by decide)
  obtain ⟨k, hk⟩ : ∃ k : Nat, s.fmod 140 = k := ⟨(s.fmod 140).toNat, by omega⟩
  rw [hk] at b1 b2
  have s5 := range_small1 (b := k) (by omega)
  have s7 : (It.rng 0 k 1).n = k := rngLen_up k
  refine wp_comp fun G hG => ?_
  simp [wpSs, wpS, wpT, wpTs, wpE, wpEs, wpO, wpB, wpI, pLoc, pCmp, pEq, pTruth, pBin, pInt, pAug, pSub, pBcall, pBmeth, pAssign, pAttr, pSetAttr, pMeth, pLcall, pSetItem, pSlc, pNew, isNoneV, unp, putAll, items, listItems, itOf, itOk, clr, Hp.new_at, Hp.set_at, Hp.new_nx, Hp.set_nx, h5, hk, s5]
  refine ⟨by omega, hG _ _ ?_⟩
  rw [s7]
  refine gath_pure (fun i => .int ((nums[i % nums.length]?.getD 0 * (2 * i + 1) + 89 * i).fmod 256)) (by unfold lim; omega) (by first | exact h14 | (simp only [clr, List.foldl, List.length_set]; exact h14)) trivial (fun i hi => ?_) fun ρ' => ?_
  · refine ⟨.int (0 + i * 1), rfl, trivial, trivial, fun Q' hQ' => ?_⟩
    have e1 : (ρ.set 12 (.int i))[6]? = some (.ref nb) := by rw [List.getElem?_set_ne (by decide)]; exact h6
    have e3 : (ρ.set 12 (.int i))[12]? = some (.int i) := by rw [List.getElem?_set_self h14]
    have e4 : (i : Int).fmod (nums.length : Int) = ((i % nums.length : Nat) : Int) := fmod_nat ..
    have e5 : idx? nums.length (((i % nums.length : Nat) : Int)) = some (i % nums.length) := idx_nat (Nat.mod_lt _ hp)
    have e6 : nums[i % nums.length]? = some (nums[i % nums.length]'(Nat.mod_lt _ hp)) := List.getElem?_eq_getElem _
    have e7 : ¬ nums = [] := by rintro rfl; simp at hp
    have m1 : IntMulOk 2 i := .of_left (by decide)
    have m2 : IntMulOk 89 i := .of_left (by decide)
    have m3 : ∀ z : Int, IntMulOk z (2 * i + 1) := fun z => mulOk_s (by omega) (by omega)
    rw [e6] at hQ'
    simp only [Int.zero_add, Int.mul_one]
    simp [wpSs, wpS, wpT, wpTs, wpE, wpEs, wpO, wpB, wpI, pLoc, pCmp, pEq, pTruth, pBin, pInt, pAug, pSub, pBcall, pBmeth, pAssign, pAttr, pSetAttr, pMeth, pLcall, pSetItem, pSlc, pNew, isNoneV, unp, putAll, items, listItems, itOf, itOk, clr, Hp.new_at, Hp.set_at, Hp.new_nx, Hp.set_nx, e1, e3, hn, e7, m1, m2]
    rw [e4, e5]
    refine ⟨_, rfl, _, ⟨_, e6, rfl⟩, ?_⟩
    exact ⟨trivial, m3 _, hQ'⟩
  · refine ⟨by simp; unfold lim; omega, ?_⟩
    have := hq ((List.range k).map fun i => (nums[i % nums.length]?.getD 0 * (2 * i + 1) + 89 * i).fmod 256) (by simp; omega) (fun w hw => by
      obtain ⟨i, _, rfl⟩ := List.mem_map.mp hw
      exact (fmod_b _ (by decide)).1)
    rw [List.map_map] at this
    exact this
end
end Mine
open PySem PySem.W PySem.Calls PyProof.Rows PySem.Spec
set_option linter.unusedVariables false
set_option linter.unusedSimpArgs false
namespace Mine
def cellD : Option Bool → PyData
  | none => .none
  | some b => .bool b
def rowD (cs : List (Option Bool)) : PyData := .list (cs.map cellD)
def matD (M : Cells) : PyData := .list (M.map rowD)
theorem rd_cell {σ : Hp} (c : Option Bool) : Rd σ (cellV c) (cellD c) := by cases c <;> constructor
theorem rds_map {σ : Hp} {α : Type} {f : α → V} {g : α → PyData} : ∀ {l : List α}, (∀ a ∈ l, Rd σ (f a) (g a)) → Rds σ (l.map f) (l.map g)
  | [], _ => .nil
  | a :: l, h => .cons (h a (List.mem_cons_self ..)) (rds_map fun b hb => h b (List.mem_cons_of_mem _ hb))
theorem rds_zip {σ : Hp} : ∀ {vs : List V} {ds : List PyData}, vs.length = ds.length → (∀ (i : Nat) v d, vs[i]? = some v → ds[i]? = some d → Rd σ v d) → Rds σ vs ds
  | [], [], _, _ => .nil
  | [], _ :: _, h, _ => by cases h
  | _ :: _, [], h, _ => by cases h
  | v :: vs, d :: ds, h, k => .cons (k 0 v d rfl rfl) (rds_zip (by simpa using h) fun i v d a b => k (i + 1) v d (by simpa using a) (by simpa using b))
theorem MatR.rd {σ : Hp} {mo : Nat} {rs : List Nat} {M : Cells} (m : MatR σ mo rs M) : Rd σ (.ref mo) (matD M) := by
  refine .list m.top (rds_zip (by simp [m.len]) fun i v d a b => ?_)
  rw [List.getElem?_map] at a b
  cases hr : rs[i]? with
  | none => rw [hr] at a; cases a
  | some r =>
    cases hc : M[i]? with
    | none => rw [hc] at b; cases b
    | some cs =>
      rw [hr] at a; rw [hc] at b; cases a; cases b
      exact .list (m.row i r cs hr hc) (rds_map fun c _ => rd_cell c)
theorem canLay_cells : ∀ cs : List (Option Bool), PyData.canLayAll0 (cs.map cellD) = true ∧ PyData.depthAll (cs.map cellD) = 0
  | [] => ⟨rfl, rfl⟩
  | c :: cs => by
    obtain ⟨a, b⟩ := canLay_cells cs
    cases c <;> simp [PyData.canLayAll0, PyData.depthAll, cellD, PyData.canLay0, PyData.depth, a, b]
theorem canLay_rows : ∀ M : Cells, PyData.canLayAll0 (M.map rowD) = true ∧ PyData.depthAll (M.map rowD) ≤ 1
  | [] => ⟨rfl, by simp [PyData.depthAll]⟩
  | cs :: M => by
    obtain ⟨a, b⟩ := canLay_rows M
    obtain ⟨c, d⟩ := canLay_cells cs
    simp [PyData.canLayAll0, PyData.depthAll, rowD, PyData.canLay0, PyData.depth, a, c, d]
    omega
theorem shaped_mat (M : Cells) : SeqAt.shaped (matD M) = true := by
  obtain ⟨a, b⟩ := canLay_rows M
  simp [SeqAt.shaped, matD, PyData.canLay0, PyData.depth, a]
  omega
theorem eqv_mat (M : Cells) : PyData.eqv (matD M) (matD M) = true := SeqAt.eqv_refl _ (SeqAt.canLay_of_shaped (shaped_mat M))
theorem canLay_ints : ∀ l : List Int, PyData.canLayAll0 (l.map .int) = true ∧ PyData.depthAll (l.map .int) = 0
  | [] => ⟨rfl, rfl⟩
  | c :: cs => by
    obtain ⟨a, b⟩ := canLay_ints cs
    simp [PyData.canLayAll0, PyData.depthAll, PyData.canLay0, PyData.depth, a, b]
theorem shaped_ints (l : List Int) : SeqAt.shaped (.list (l.map .int)) = true := by
  obtain ⟨a, b⟩ := canLay_ints l
  simp [SeqAt.shaped, PyData.canLay0, PyData.depth, a, b]
theorem eqv_ints (l : List Int) : PyData.eqv (.list (l.map .int)) (.list (l.map .int)) = true := SeqAt.eqv_refl _ (SeqAt.canLay_of_shaped (shaped_ints l))
theorem rd_ints {σ : Hp} {x : Nat} {l : List Int} (h : σ.at_ x = some (.list (l.map .int))) : Rd σ (.ref x) (.list (l.map .int)) := .list h (rds_map fun i _ => .int i)
/-! no place twice -/
theorem blk_mem {side t j : Nat} {p : Nat × Nat} (h : p ∈ blkN side t j) : (∃ i, i < j ∧ p.1 = rowAt side t i) ∧ (p.2 = colAt side t ∨ p.2 = colAt side t - 1) := by
  induction j with
  | zero => cases h
  | succ j ih =>
    rw [blkN, List.mem_append] at h
    rcases h with h | h
    · obtain ⟨⟨i, a, b⟩, c⟩ := ih h
      exact ⟨⟨i, by omega, b⟩, c⟩
    · simp at h
      rcases h with rfl | rfl
      · exact ⟨⟨j, by omega, rfl⟩, .inl rfl⟩
      · exact ⟨⟨j, by omega, rfl⟩, .inr rfl⟩
theorem row_inj {side t i j : Nat} (hi : i < side) (hj : j < side) (h : rowAt side t i = rowAt side t j) : i = j := by
  unfold rowAt at h
  split at h <;> omega
theorem blk_nodup {side t j : Nat} (hc : 1 ≤ colAt side t) (hj : j ≤ side) : (blkN side t j).Nodup := by
  induction j with
  | zero => exact List.nodup_nil
  | succ j ih =>
    rw [blkN, List.nodup_append]
    refine ⟨ih (by omega), by simp; omega, fun p hp q hq e => ?_⟩
    subst e
    obtain ⟨⟨i, a, b⟩, _⟩ := blk_mem hp
    have : p.1 = rowAt side t j := by
      simp at hq
      rcases hq with rfl | rfl <;> rfl
    have := row_inj (by omega) (by omega) (b.symm.trans this)
    omega
theorem col_lt {side t' t : Nat} (h : t' < t) (ht : t < (side - 1) / 2) (hs : side % 2 = 1) : colAt side t < colAt side t' - 1 := by
  unfold colAt
  split <;> split <;> omega
theorem walk_mem {side t : Nat} {p : Nat × Nat} (h : p ∈ walkN side t) : (∃ i, i < side ∧ ∃ t', p.1 = rowAt side t' i) ∧ ∃ t', t' < t ∧ (p.2 = colAt side t' ∨ p.2 = colAt side t' - 1) := by
  induction t with
  | zero => cases h
  | succ t ih =>
    rw [walkN, List.mem_append] at h
    rcases h with h | h
    · obtain ⟨a, t', b, c⟩ := ih h
      exact ⟨a, t', by omega, c⟩
    · obtain ⟨⟨i, a, b⟩, c⟩ := blk_mem h
      exact ⟨⟨i, a, t, b⟩, t, by omega, c⟩
theorem walk_nodup {side t : Nat} (h1 : Side side) (ht : t ≤ (side - 1) / 2) : (walkN side t).Nodup := by
  induction t with
  | zero => exact List.nodup_nil
  | succ t ih =>
    rw [walkN, List.nodup_append]
    refine ⟨ih (by omega), blk_nodup (colGe h1 (by omega)).1 (Nat.le_refl _), fun p hp q hq e => ?_⟩
    subst e
    obtain ⟨_, t', a, b⟩ := walk_mem hp
    obtain ⟨_, c⟩ := blk_mem hq
    have := col_lt a (show t < (side - 1) / 2 by omega) (by rcases h1 with rfl | rfl | rfl | rfl <;> rfl)
    omega
theorem walk_in {side : Nat} (h1 : Side side) {p : Nat × Nat} (h : p ∈ walkN side ((side - 1) / 2)) : p.1 < side ∧ p.2 < side := by
  obtain ⟨⟨i, a, t, b⟩, t', c, d⟩ := walk_mem h
  have := rowLt (t := t) a
  have := (colGe h1 c).2
  omega
def stepL (words : List Int) (m : Nat) (laid : Cells) (st : Cells × Nat) (p : Nat × Nat) : Cells × Nat :=
  if cellAt laid p = some none then (setC st.1 p (some (bitAt words st.2 != dk m p.1 p.2)), st.2 + 1) else st
theorem cellAt_set {M : Cells} {p q : Nat × Nat} {v} (h : p ≠ q) : cellAt (setC M p v) q = cellAt M q := by
  obtain ⟨a, b⟩ := p
  obtain ⟨c, d⟩ := q
  unfold cellAt setC
  dsimp only
  by_cases e : a = c
  · subst e
    have : b ≠ d := fun w => h (by rw [w])
    by_cases l : a < M.length
    · rw [List.getElem?_set_self l, List.getElem?_eq_getElem l]
      simp only [Option.bind_some, Option.getD_some]
      rw [List.getElem?_set_ne this]
    · rw [List.getElem?_eq_none (by simp; omega), List.getElem?_eq_none (by omega)]
  · rw [List.getElem?_set_ne e]
theorem steps_eq {words : List Int} {m : Nat} {laid : Cells} : ∀ {l : List (Nat × Nat)} {st : Cells × Nat}, l.Nodup → (∀ p ∈ l, cellAt st.1 p = cellAt laid p) → l.foldl (stepM words m) st = l.foldl (stepL words m laid) st
  | [], _, _, _ => rfl
  | p :: l, st, nd, h => by
    rw [List.nodup_cons] at nd
    have e : stepM words m st p = stepL words m laid st p := by
      unfold stepM stepL
      rw [h p (List.mem_cons_self ..)]
    rw [List.foldl_cons, List.foldl_cons, e]
    refine steps_eq nd.2 fun q hq => ?_
    rw [← h q (List.mem_cons_of_mem _ hq)]
    unfold stepL
    split
    · exact cellAt_set fun w => nd.1 (w ▸ hq)
    · rfl
end Mine
open PySem PySem.W PySem.Calls PyProof.Rows PySem.Spec
set_option linter.unusedVariables false
set_option linter.unusedSimpArgs false
namespace Mine
def picB (m r c : Nat) : Bool := match (picV m)[r]? with
  | some tx => tx.cps.size == 6 && (match tx.cps[c]? with | some ch => ((⟨#[ch]⟩ : Str) == "#") == (ch == 35) | none => false)
  | none => false
theorem pic_fin : ∀ (m : Fin 8) (r c : Fin 6), r.val < (picV m).length → picB m r c = true := by decide +kernel
theorem pic_len : ∀ m : Fin 8, 0 < (picV m).length ∧ (picV m).length ≤ 6 := by decide +kernel
theorem pic_ok {m : Nat} (hm : m < 8) (i j : Nat) : ∃ tx ch, (picV m)[i % (picV m).length]? = some tx ∧ tx.length = 6 ∧ tx.cps[j % 6]? = some ch ∧ ((⟨#[ch]⟩ : Str) == "#") = dk m i j := by
  obtain ⟨a, b⟩ := pic_len ⟨m, hm⟩
  dsimp only at a b
  have c := Nat.mod_lt i a
  have := pic_fin ⟨m, hm⟩ ⟨i % (picV m).length, by omega⟩ ⟨j % 6, by omega⟩ c
  dsimp only at this
  unfold dk
  unfold picB at this
  cases h : (picV m)[i % (picV m).length]? with
  | none => rw [h] at this; cases this
  | some tx =>
    rw [h] at this
    simp only [Bool.and_eq_true, beq_iff_eq] at this
    obtain ⟨h6, this⟩ := this
    cases h2 : tx.cps[j % 6]? with
    | none => rw [h2] at this; cases this
    | some ch =>
      rw [h2] at this
      refine ⟨tx, ch, rfl, h6, h2, ?_⟩
      simp only [Option.getD_some, h2]
      simpa using this
structure LM (lx wb du : Nat) (rsl rsd : List Nat) (words : List Int) (side : Nat) (M0 : Cells) (σ : Hp) (D : Cells) : Prop where
  l : MatR σ lx rsl M0
  w : σ.at_ wb = some (.list (words.map .int))
  d : MatR σ du rsd D
  sl : Sq side M0
  sd : Sq side D
  wo : ¬ wb ∈ rsd
  lo : ¬ lx ∈ rsd
  ro : ∀ r ∈ rsl, ¬ r ∈ rsd
  wl : wb < σ.nx
section
variable {A : Addr} {ns : List Int} {n : Nat} {σ : Hp} {lx wb du : Nat} {rsl rsd : List Nat} {words : List Int} {side m : Nat} {M0 D : Cells} {T : Nat}
theorem LM.set (h : LM lx wb du rsl rsd words side M0 σ D) {r c rr : Nat} {cs : List (Option Bool)} {v : Option Bool} (hr : rsd[r]? = some rr) (hcs : D[r]? = some cs) (hlt : r < side) :
    LM lx wb du rsl rsd words side M0 (σ.set rr (.list ((cs.map cellV).set c (cellV v)))) (setC D (r, c) v) := by
  have e : (cs.map cellV).set c (cellV v) = (cs.set c v).map cellV := by rw [List.map_set]
  have hE : Ext (· ∈ rsd) σ (σ.set rr (.list ((cs.map cellV).set c (cellV v)))) := .set (List.mem_of_getElem? hr)
  refine ⟨h.l.ext hE h.lo h.ro, hE.at h.wl h.wo h.w, ?_, h.sl, h.sd.set hlt, h.wo, h.lo, h.ro, h.wl⟩
  rw [e]
  have := h.d.set (cs := cs.set c v) hr
  simpa [setC, hcs] using this
def rhoL (A : Addr) (f s v : Int) (m side nb lx wb x hd du T : Nat) (w14 w15 w16 w17 w18 : V) : List V :=
  [.k (.ref A), .int f, .int s, .int v, .int m, .int side, .ref nb, .ref lx, .ref wb, .ref x, .ref hd, .ref du, .int T, .k (.ref (332 + m)), w14, w15, w16, w17, w18]
theorem b362_ok {K : Fl → List V → Hp → Prop} {f s v : Int} {nb x hd r c : Nat} {w16 w17 w18 : V} (h : LM lx wb du rsl rsd words side M0 σ D) (hf : (sx02 A ns).frz (332 + m) = some ((picV m).map .str)) (hm : m < 8) (hr : r < side) (hc : c < side) (hs : side < 46) (hwl : words.length < 1000)
    (hK : ∀ σ' w17', LM lx wb du rsl rsd words side M0 σ' (stepL words m M0 (D, T) (r, c)).1 → Ext (· ∈ rsd) σ σ' → K .next (rhoL A f s v m side nb lx wb x hd du (stepL words m M0 (D, T) (r, c)).2 (.int r) (.int c) w16 w17' w18) σ') :
    wpSs (sx02 A ns) (Ph (sx02 A ns) F02 L02 n) b362_5 (rhoL A f s v m side nb lx wb x hd du T (.int r) (.int c) w16 w17 w18) σ K (fun _ _ => False) := by
  obtain ⟨cs, cv, e1, e2, e3, e4⟩ := h.sl.cell hr hc
  obtain ⟨ds, dv, d1, d2, d3, d4⟩ := h.sd.cell hr hc
  have hrs : r < rsl.length := by rw [h.l.len, h.sl.1]; exact hr
  have hrd : r < rsd.length := by rw [h.d.len, h.sd.1]; exact hr
  obtain ⟨rr, hrr⟩ : ∃ rr, rsl[r]? = some rr := ⟨_, List.getElem?_eq_getElem hrs⟩
  obtain ⟨rd, hrd'⟩ : ∃ rr, rsd[r]? = some rr := ⟨_, List.getElem?_eq_getElem hrd⟩
  have hrow := h.l.row r rr cs hrr e1
  have htop := h.l.top
  have hdow := h.d.row r rd ds hrd' d1
  have hdtop := h.d.top
  have hw := h.w
  have i1 : idx? rsl.length (r : Int) = some r := idx_nat hrs
  have i1d : idx? rsd.length (r : Int) = some r := idx_nat hrd
  have i2 : idx? cs.length (c : Int) = some c := idx_nat (by omega)
  have i2d : idx? ds.length (c : Int) = some c := idx_nat (by omega)
  have okv : ok (cellV cv) := ok_cell
  unfold b362_5 rhoL
  refine seqK fun K1 kn _ _ _ => wp_ite fun G g1 g2 => ?_
  simp [wpSs, wpS, wpT, wpTs, wpE, wpEs, wpO, wpB, wpI, pLoc, pCmp, pEq, pTruth, pBin, pInt, pAug, pSub, pBcall, pBmeth, pAssign, pAttr, pSetAttr, pMeth, pLcall, pSetItem, pSlc, pNew, isNoneV, unp, putAll, items, listItems, itOf, itOk, clr, Hp.new_at, Hp.set_at, Hp.new_nx, Hp.set_nx, htop, i1, hrr, hrow, i2, e2, okv]
  cases cv with
  | some b =>
    refine .inl ⟨rfl, g2 _ (wp_nil (kn _ _ (wp_nil ?_)))⟩
    have : stepL words m M0 (D, T) (r, c) = (D, T) := by unfold stepL; rw [e3]; rfl
    rw [this] at hK
    exact hK _ _ h .refl
  | none =>
    refine .inr ⟨rfl, g1 _ ?_⟩
    have st : stepL words m M0 (D, T) (r, c) = (setC D (r, c) (some (bitAt words T != dk m r c)), T + 1) := by unfold stepL; rw [e3]; rfl
    rw [st] at hK
    obtain ⟨B, hB⟩ : ∃ B, B = T / 8 := ⟨_, rfl⟩
    obtain ⟨b, hb⟩ : ∃ b, b = T % 8 := ⟨_, rfl⟩
    have f1 : (T : Int).fmod 8 = (b : Int) := by rw [hb]; exact fmod_nat T 8
    have f2 : (T : Int).fdiv 8 = (B : Int) := by rw [hB]; exact fdiv_nat T 8
    have m8 : IntMulOk 8 (words.length) := .of_left (by decide)
    refine seqK fun K2 kn2 _ _ _ => ?_
    have hbit : ∀ Q' : V → Hp → Prop, Q' (.bool (bitAt words T)) σ → wpE (sx02 A ns) (Ph (sx02 A ns) F02 L02 n) (.bop true (.cons (.cmp .Lt (.loc 12) (.bin .Mult (.cst (.int 8)) (.bcall .len (.cons (.loc 8) .nil)))) (.cons (.cmp .Eq (.bin .Mod (.bin .RShift (.sub (.loc 8) (.bin .FloorDiv (.loc 12) (.cst (.int 8)))) (.bin .Sub (.cst (.int 7)) (.bin .Mod (.loc 12) (.cst (.int 8))))) (.cst (.int 2))) (.cst (.int 1))) .nil)))
        [.k (.ref A), .int f, .int s, .int v, .int m, .int side, .ref nb, .ref lx, .ref wb, .ref x, .ref hd, .ref du, .int T, .k (.ref (332 + m)), .int r, .int c, w16, w17, w18] σ Q' (fun _ _ => False) := fun Q' hQ' => by
      by_cases hlt : B < words.length
      · have i3 : idx? words.length (B : Int) = some B := idx_nat hlt
        have i4 : words[B]? = some words[B] := List.getElem?_eq_getElem hlt
        have i5 : (T : Int) < 8 * words.length := by omega
        have i6 : bitAt words T = ((words[B].fdiv (2 ^ (7 - b))).fmod 2 == 1) := by
          unfold bitAt; rw [← hB, ← hb, i4]; rfl
        have i7 : (b : Int) ≤ 7 := by omega
        have i8 : (7 - (b : Int)).toNat = 7 - b := by omega
        rw [i6] at hQ'
        simp [wpSs, wpS, wpT, wpTs, wpE, wpEs, wpO, wpB, wpI, pLoc, pCmp, pEq, pTruth, pBin, pInt, pAug, pSub, pBcall, pBmeth, pAssign, pAttr, pSetAttr, pMeth, pLcall, pSetItem, pSlc, pNew, isNoneV, unp, putAll, items, listItems, itOf, itOk, clr, Hp.new_at, Hp.set_at, Hp.new_nx, Hp.set_nx, hw, m8, i5, f1, f2, i3, i4, i7, i8, hQ']
      · have i5 : 8 * (words.length : Int) ≤ T := by omega
        have i6 : bitAt words T = false := by unfold bitAt; rw [← hB, List.getElem?_eq_none (by omega)]
        rw [i6] at hQ'
        simp [wpSs, wpS, wpT, wpTs, wpE, wpEs, wpO, wpB, wpI, pLoc, pCmp, pEq, pTruth, pBin, pInt, pAug, pSub, pBcall, pBmeth, pAssign, pAttr, pSetAttr, pMeth, pLcall, pSetItem, pSlc, pNew, isNoneV, unp, putAll, items, listItems, itOf, itOk, clr, Hp.new_at, Hp.set_at, Hp.new_nx, Hp.set_nx, hw, m8, Int.not_lt.mpr i5, hQ']
    refine hbit _ ⟨trivial, (by decide : 17 < 19), kn2 _ _ ?_⟩
    clear hbit
    obtain ⟨tx, ch, p1, p2, p3, p4⟩ := pic_ok hm r c
    obtain ⟨pl1, pl2⟩ := pic_len ⟨m, hm⟩
    dsimp only at pl1 pl2
    have g3 : (r : Int).fmod ((picV m).length : Int) = ((r % (picV m).length : Nat) : Int) := fmod_nat ..
    have g4 : idx? (picV m).length ((r % (picV m).length : Nat) : Int) = some (r % (picV m).length) := idx_nat (Nat.mod_lt _ pl1)
    have g5 : (c : Int).fmod 6 = ((c % 6 : Nat) : Int) := fmod_nat c 6
    have g6 : idx? tx.length ((c % 6 : Nat) : Int) = some (c % 6) := by rw [p2]; exact idx_nat (Nat.mod_lt _ (by decide))
    have g7 : ¬ picV m = [] := fun e => by rw [e] at pl1; cases pl1
    have g8 : tx.length ≤ lim := by rw [p2]; decide
    refine seqK fun K3 kn3 _ _ _ => ?_
    generalize hr9 : r % (picV m).length = r9 at p1 g3 g4
    generalize hc9 : c % 6 = c9 at p3 g5 g6
    simp [wpSs, wpS, wpT, wpTs, wpE, wpEs, wpO, wpB, wpI, pLoc, pCmp, pEq, pTruth, pBin, pInt, pAug, pSub, pBcall, pBmeth, pAssign, pAttr, pSetAttr, pMeth, pLcall, pSetItem, pSlc, pNew, isNoneV, unp, putAll, items, listItems, itOf, itOk, clr, Hp.new_at, Hp.set_at, Hp.new_nx, Hp.set_nx, hdtop, i1d, hrd', hdow, i2d, hf, g7, g3, g4, p1, g5, g6, p3, g8, p4]
    refine kn3 _ _ (seqK fun K4 kn4 _ _ _ => ?_)
    simp [wpSs, wpS, wpT, wpTs, wpE, wpEs, wpO, wpB, wpI, pLoc, pCmp, pEq, pTruth, pBin, pInt, pAug, pSub, pBcall, pBmeth, pAssign, pAttr, pSetAttr, pMeth, pLcall, pSetItem, pSlc, pNew, isNoneV, unp, putAll, items, listItems, itOf, itOk, clr, Hp.new_at, Hp.set_at, Hp.new_nx, Hp.set_nx]
    refine kn4 _ _ (wp_nil (kn _ _ (wp_nil ?_)))
    have hM := h.set (v := some (bitAt words T != dk m r c)) hrd' d1 hr (c := c)
    exact hK _ (.bool (bitAt words T)) hM (.set (List.mem_of_getElem? hrd'))
end
end Mine
open PySem PySem.W PySem.Calls PyProof.Rows PySem.Spec
set_option linter.unusedVariables false
set_option linter.unusedSimpArgs false
namespace Mine
theorem sliceTo2 {α : Type} (xs : List α) : sliceOf xs none (some (2 : Int)) = xs.take 2 := sliceTo xs 2
theorem firstTwo (ns : List Int) : ∃ f s : Int, (((ns.map V.int).take 2 ++ [V.int 0, V.int 0]).take 2) = [V.int f, V.int s] := by
  match ns with
  | [] => exact ⟨0, 0, rfl⟩
  | [a] => exact ⟨a, 0, rfl⟩
  | a :: b :: r => exact ⟨a, b, rfl⟩
theorem numsAre (ns : List Int) : ∃ ms : List Int, sliceOf (ns.map V.int) (some (2 : Int)) (some (14 : Int)) = ms.map .int ∧ ms.length ≤ 12 := by
  obtain ⟨ys, e1, e2, e3, e4⟩ := sliceFT (ns.map V.int) 2 14
  refine ⟨(ns.drop 2).take 12, ?_, by rw [List.length_take]; omega⟩
  rw [show ((2 : Int)) = ((2 : Nat) : Int) from rfl, show ((14 : Int)) = ((14 : Nat) : Int) from rfl, e1, ← e4]
  rw [List.map_take, List.map_drop]
def dropS : Nat → MSs → MSs
  | 0, s => s
  | n + 1, .cons _ r => dropS n r
  | _ + 1, .nil => .nil
section
variable {A : Addr} {ns : List Int} {n : Nat} {σ : Hp}
theorem frzPic {m : Nat} (hm : m < 8) : (sx02 A ns).frz (332 + m) = some ((picV m).map .str) := by
  rcases lt8 hm with rfl | rfl | rfl | rfl | rfl | rfl | rfl | rfl <;> rfl
theorem HM.ext {x mo dw : Nat} {rs : List Nat} {fs : List V} {words : List Int} {side : Nat} {σ σ' : Hp} {M : Cells} {P : Nat → Prop} (h : HM x mo dw rs fs words side σ M) (e : Ext P σ σ') (h1 : ¬ P x) (h2 : ¬ P dw) (h3 : ¬ P mo) (h4 : ∀ r ∈ rs, ¬ P r) (l1 : x < σ.nx) (l2 : dw < σ.nx) : HM x mo dw rs fs words side σ' M :=
  ⟨e.at l1 h1 h.hx, h.f7, h.f8, e.at l2 h2 h.d, h.m.ext e h3 h4, h.sq, h.xo, h.dO⟩
theorem law02_c {f s v : Int} {m side nb lx wb x hd mo : Nat} {rsl rsm : List Nat} {fs : List V} {words : List Int} {M0 : Cells} {w16 : V} (hm8 : m < 8) (h1 : Side side) (hwl : words.length ≤ 140) (hw0 : ∀ w ∈ words, 0 ≤ w)
    (H7 : HM x mo hd rsm fs words side σ M0) (ml7 : MatR σ lx rsl M0) (hw7 : σ.at_ wb = some (.list (words.map .int))) (hwn : wb < σ.nx) (hhn : hd < σ.nx) (hro : ∀ r ∈ rsl, ¬ r ∈ rsm) (hlo : ¬ lx ∈ rsm) (hwo : ¬ wb ∈ rsm) (hxl : x < σ.nx) (hxm : ¬ x = mo) :
    wpSs (sx02 A ns) (Ph (sx02 A ns) F02 L02 (n + 4)) (dropS 11 tx362) [.k (.ref A), .int f, .int s, .int v, .int m, .int side, .ref nb, .ref lx, .ref wb, .ref x, .ref hd, .undef, .undef, .undef, .undef, .undef, w16, .undef, .undef] σ (fun fl _ _ => fl = .ret (.bool true)) (fun _ _ => False) := by
  unfold tx362
  simp only [dropS]
  obtain ⟨b1, b2⟩ := side_b h1
  have hx := H7.hx
  refine seqK fun K1 k1 _ _ _ => ?_
  simp [wpSs, wpS, wpT, wpTs, wpE, wpEs, wpO, wpB, wpI, pLoc, pCmp, pEq, pTruth, pBin, pInt, pAug, pSub, pBcall, pBmeth, pAssign, pAttr, pSetAttr, pMeth, pLcall, pSetItem, pSlc, pNew, isNoneV, unp, putAll, items, listItems, itOf, itOk, clr, Hp.new_at, Hp.set_at, Hp.new_nx, Hp.set_nx, hx, ak23]
  refine sp317 H7 hw0 h1 hm8 fun σ8 H8 hE8 => ?_
  refine k1 _ _ (seqK fun K2 k2 _ _ _ => ?_)
  have ml8 := ml7.ext hE8 hlo hro
  have hw8 := hE8.at hwn hwo hw7
  simp only [wpS, wpE, wpEs]
  refine copy_ok ml8 (by decide : 14 < 19) rfl (by rw [H7.sq.1]; unfold lim; omega) fun σ9 du rsd ⟨kp9, md, nd, nrd⟩ => ?_
  simp [wpSs, wpS, wpT, wpTs, wpE, wpEs, wpO, wpB, wpI, pLoc, pCmp, pEq, pTruth, pBin, pInt, pAug, pSub, pBcall, pBmeth, pAssign, pAttr, pSetAttr, pMeth, pLcall, pSetItem, pSlc, pNew, isNoneV, unp, putAll, items, listItems, itOf, itOk, clr, Hp.new_at, Hp.set_at, Hp.new_nx, Hp.set_nx, lim]
  refine k2 _ _ (seqK fun K3 k3 _ _ _ => ?_)
  have hf := frzPic (A := A) (ns := ns) hm8
  have f340 : (sx02 A ns).frz 340 = some [.k (.ref 332), .k (.ref 333), .k (.ref 334), .k (.ref 335), .k (.ref 336), .k (.ref 337), .k (.ref 338), .k (.ref 339)] := rfl
  have hpic : ∀ Q' : V → Hp → Prop, Q' (.k (.ref (332 + m))) σ9 → pSub (sx02 A ns) (.k (.ref 340)) (.int m) σ9 Q' := fun Q' hQ' => by
    unfold pSub
    refine ⟨_, m, _, f340, idx_nat hm8, ?_, ?_, hQ'⟩
    · rcases lt8 hm8 with rfl | rfl | rfl | rfl | rfl | rfl | rfl | rfl <;> rfl
    · rfl
  simp only [wpS, wpE, pLoc, List.getElem?_cons_succ, List.getElem?_cons_zero, ok_int, true_and]
  refine hpic _ ?_
  simp only [pAssign, unp, putAll, List.length_cons, List.length_nil, List.length_singleton, ok_int, ok_bool, ok_none, ok_ref, ok_tup, ok_str, ok_rng, ok_lam, ok_kref, true_and, and_true, List.set_cons_zero, List.set_cons_succ, Nat.reduceLT, Nat.reduceAdd, Nat.zero_lt_succ, Nat.lt_add_left_iff_pos]
  refine k3 _ _ (seqK fun K4 k4 _ _ _ => wp_for fun G hG => ?_)
  have md9 := md
  have ml9 := ml8.ext kp9 id fun _ _ => id
  have hw9 := kp9.at (Nat.lt_of_lt_of_le hwn hE8.1) hw8
  simp [wpSs, wpS, wpT, wpTs, wpE, wpEs, wpO, wpB, wpI, pLoc, pCmp, pEq, pTruth, pBin, pInt, pAug, pSub, pBcall, pBmeth, pAssign, pAttr, pSetAttr, pMeth, pLcall, pSetItem, pSlc, pNew, isNoneV, unp, putAll, items, listItems, itOf, itOk, clr, Hp.new_at, Hp.set_at, Hp.new_nx, Hp.set_nx]
  refine sp350 h1 fun σ10 wx kp10 hwx1 hwx2 hwx => ?_
  simp [wpSs, wpS, wpT, wpTs, wpE, wpEs, wpO, wpB, wpI, pLoc, pCmp, pEq, pTruth, pBin, pInt, pAug, pSub, pBcall, pBmeth, pAssign, pAttr, pSetAttr, pMeth, pLcall, pSetItem, pSlc, pNew, isNoneV, unp, putAll, items, listItems, itOf, itOk, clr, Hp.new_at, Hp.set_at, Hp.new_nx, Hp.set_nx, hwx]
  refine hG _ _ ?_
  have x8 : x < σ8.nx := Nat.lt_of_lt_of_le hxl hE8.1
  have hd8 : hd < σ8.nx := Nat.lt_of_lt_of_le hhn hE8.1
  have wb8 : wb < σ8.nx := Nat.lt_of_lt_of_le hwn hE8.1
  have H10 := (H8.ext kp9 id id id (fun _ _ => id) x8 hd8).ext kp10 id id id (fun _ _ => id) (Nat.lt_of_lt_of_le x8 kp9.1) (Nat.lt_of_lt_of_le hd8 kp9.1)
  have rd1 : ∀ y, y < σ8.nx → ¬ y ∈ rsd := fun y hy h => Nat.lt_irrefl _ (Nat.lt_of_lt_of_le hy (nrd y h))
  have L10 : LM lx wb du rsl rsd words side M0 σ10 M0 := ⟨ml9.ext kp10 id fun _ _ => id, kp10.at (Nat.lt_of_lt_of_le wb8 kp9.1) hw9, md9.ext kp10 id fun _ _ => id, H7.sq, H7.sq, rd1 _ wb8, rd1 _ ml8.lt.1, fun r hr => rd1 r (ml8.lt.2 r hr), Nat.lt_of_lt_of_le (Nat.lt_of_lt_of_le wb8 kp9.1) kp10.1⟩
  have wxd : ¬ wx ∈ rsd := fun h => Nat.lt_irrefl _ (Nat.lt_of_lt_of_le (md9.lt.2 wx h) hwx1)
  generalize hwalk : walkN side ((side - 1) / 2) = walk at hwx H10 ⊢
  have hlen : (It.lst wx walk.length).n = walk.length := rfl
  rw [hlen]
  refine loop_inv0 (fun i ρ σ' => ∃ w14 w15 w16 w17, ρ = rhoL A f s v m side nb lx wb x hd du ((walk.take i).foldl (stepL words m M0) (M0, 0)).2 w14 w15 w16 w17 .undef ∧ LM lx wb du rsl rsd words side M0 σ' ((walk.take i).foldl (stepL words m M0) (M0, 0)).1 ∧ Ext (· ∈ rsd) σ10 σ')
    ⟨.undef, .undef, w16, .undef, rfl, L10, .refl⟩ ?_ ?_
  · rintro i ρ σ' hi ⟨w14, w15, w16, w17, hρ, hL, hE⟩
    generalize hst : (walk.take i).foldl (stepL words m M0) (M0, 0) = st at hL hρ
    obtain ⟨D, T⟩ := st
    subst hρ
    have hwx' := hE.at hwx2 wxd hwx
    have hp : walk[i]? = some walk[i] := List.getElem?_eq_getElem hi
    have hin := walk_in h1 (p := walk[i]) (by rw [hwalk]; exact List.getElem_mem hi)
    refine ⟨⟨_, hwx', by simp⟩, plV walk[i], by simp [It.get, hwx', hp], trivial, fun K kn kc kr kb => ?_⟩
    refine ⟨_, rfl, rfl, by simp, by simp [rhoL], ?_⟩
    refine b362_ok (D := D) (T := T) (r := walk[i].1) (c := walk[i].2) hL hf hm8 hin.1 hin.2 (by omega) (by omega) fun σ'' w17' hL' hE' => ?_
    have hs : (walk.take (i + 1)).foldl (stepL words m M0) (M0, 0) = stepL words m M0 (D, T) (walk[i].1, walk[i].2) := by
      rw [List.take_add_one, hp, Option.toList_some, List.foldl_append, hst]; rfl
    rw [← hs] at hL' ⊢
    exact kn _ _ ⟨_, _, w16, w17', rfl, hL', hE.trans hE'⟩
  · rintro ρ σ' ⟨w14, w15, w16, w17, rfl, hL, hE⟩
    refine ⟨⟨_, hE.at hwx2 wxd hwx, by simp⟩, k4 _ _ (seqK fun K5 k5 _ _ _ => ?_)⟩
    rw [List.take_length] at hL ⊢
    have hsame : walk.foldl (stepM words m) (M0, 0) = walk.foldl (stepL words m M0) (M0, 0) := steps_eq (by rw [← hwalk]; exact walk_nodup h1 (Nat.le_refl _)) fun _ _ => rfl
    rw [hsame] at H10
    generalize walk.foldl (stepL words m M0) (M0, 0) = st at hL H10 ⊢
    obtain ⟨D, T⟩ := st
    have H11 := H10.ext hE (rd1 _ x8) (rd1 _ hd8) (rd1 _ H8.m.lt.1) (fun r hr => rd1 r (H8.m.lt.2 r hr)) (Nat.lt_of_lt_of_le (Nat.lt_of_lt_of_le x8 kp9.1) kp10.1) (Nat.lt_of_lt_of_le (Nat.lt_of_lt_of_le hd8 kp9.1) kp10.1)
    have hx11 := H11.hx
    have f7 := H11.f7
    refine wp_ite fun G5 g51 g52 => ?_
    simp [wpSs, wpS, wpT, wpTs, wpE, wpEs, wpO, wpB, wpI, pLoc, pCmp, pEq, pTruth, pBin, pInt, pAug, pSub, pBcall, pBmeth, pAssign, pAttr, pSetAttr, pMeth, pLcall, pSetItem, pSlc, pNew, isNoneV, unp, putAll, items, listItems, itOf, itOk, clr, Hp.new_at, Hp.set_at, Hp.new_nx, Hp.set_nx, rhoL, hx11, ak16, f7]
    refine ⟨_, H11.m.rd, _, hL.d.rd, shaped_mat _, shaped_mat _, ?_⟩
    rw [eqv_mat]
    refine ⟨_, rd_ints H11.d, _, rd_ints hL.w, shaped_ints _, shaped_ints _, ?_⟩
    rw [eqv_ints]
    refine g52 _ (wp_nil (k5 _ _ ?_))
    clear g51 g52
    obtain ⟨q1, q2⟩ := fmod_b s (show (0 : Int) < side by omega)
    obtain ⟨z, hz⟩ : ∃ z : Nat, s.fmod side = z := ⟨(s.fmod side).toNat, by omega⟩
    have hzs : z < side := by omega
    have hrs : z < rsm.length := by rw [H11.m.len, H11.sq.1]; exact hzs
    have hr : rsm[z]? = some rsm[z] := List.getElem?_eq_getElem hrs
    obtain ⟨cs, _, e1, _⟩ := H11.sq.cell hzs hzs
    have hrow := H11.m.row z _ cs hr e1
    have htop := H11.m.top
    have i1 : idx? rsm.length (z : Int) = some z := idx_nat hrs
    have s0 : ¬ side = 0 := by omega
    simp only [wpSs, wpS, wpE]
    refine wp_comp fun G6 hG6 => ?_
    simp [wpSs, wpS, wpT, wpTs, wpE, wpEs, wpO, wpB, wpI, pLoc, pCmp, pEq, pTruth, pBin, pInt, pAug, pSub, pBcall, pBmeth, pAssign, pAttr, pSetAttr, pMeth, pLcall, pSetItem, pSlc, pNew, isNoneV, unp, putAll, items, listItems, itOf, itOk, clr, Hp.new_at, Hp.set_at, Hp.new_nx, Hp.set_nx, rhoL, hx11, ak16, f7, hz, htop, i1, hr, hrow, s0]
    refine hG6 _ _ (gather_inv0 (fun i acc ρ σ'' => acc = [] ∧ σ'' = σ' ∧ ∃ w, ρ = [.k (.ref A), .int f, .int s, .int v, .int m, .int side, .ref nb, .ref lx, .ref wb, .ref x, .ref hd, .ref du, .int T, .k (.ref (332 + m)), w14, w15, w16, w17, w]) ⟨rfl, rfl, _, rfl⟩ ?_ ?_)
    · rintro i acc ρ σ'' hi ⟨rfl, rfl, w, rfl⟩
      have hi' : i < cs.length := by simpa [It.n] using hi
      have hci : cs[i]? = some cs[i] := List.getElem?_eq_getElem hi'
      refine ⟨⟨_, hrow, by simp⟩, cellV cs[i], by simp [It.get, hrow, hci], ok_cell, fun K hK => ?_⟩
      have hKK := fun w => hK [] _ σ'' ⟨rfl, rfl, w, rfl⟩
      cases cs[i] with
      | none =>
        simp [wpSs, wpS, wpT, wpTs, wpE, wpEs, wpO, wpB, wpI, pLoc, pCmp, pEq, pTruth, pBin, pInt, pAug, pSub, pBcall, pBmeth, pAssign, pAttr, pSetAttr, pMeth, pLcall, pSetItem, pSlc, pNew, isNoneV, unp, putAll, items, listItems, itOf, itOk, clr, Hp.new_at, Hp.set_at, Hp.new_nx, Hp.set_nx, wpG, cellV]
        exact hKK _
      | some b =>
        simp [wpSs, wpS, wpT, wpTs, wpE, wpEs, wpO, wpB, wpI, pLoc, pCmp, pEq, pTruth, pBin, pInt, pAug, pSub, pBcall, pBmeth, pAssign, pAttr, pSetAttr, pMeth, pLcall, pSetItem, pSlc, pNew, isNoneV, unp, putAll, items, listItems, itOf, itOk, clr, Hp.new_at, Hp.set_at, Hp.new_nx, Hp.set_nx, wpG, cellV]
        exact hKK _
    · rintro acc ρ σ'' ⟨rfl, rfl, w, rfl⟩
      refine ⟨⟨_, hrow, by simp⟩, by decide, ?_⟩
      simp [wpSs, wpS, wpT, wpTs, wpE, wpEs, wpO, wpB, wpI, pLoc, pCmp, pEq, pTruth, pBin, pInt, pAug, pSub, pBcall, pBmeth, pAssign, pAttr, pSetAttr, pMeth, pLcall, pSetItem, pSlc, pNew, isNoneV, unp, putAll, items, listItems, itOf, itOk, clr, Hp.new_at, Hp.set_at, Hp.new_nx, Hp.set_nx, lim]
      exact ⟨_, .list (vs := []) (by simp [Hp.new_at, Hp.new_nx]) .nil, _, .list (vs := []) (by simp [Hp.new_at, Hp.new_nx]) .nil, by decide, by decide, rfl⟩
theorem law02_b {f s v : Int} {m side nb : Nat} {nums : List Int} (hm8 : m < 8) (h1 : Side side) (hside : 4 * v + 17 = side) (hn : σ.at_ nb = some (.list (nums.map .int))) (hnb : nb < σ.nx) (hp : 0 < nums.length) (hp2 : nums.length ≤ 12) :
    wpSs (sx02 A ns) (Ph (sx02 A ns) F02 L02 (n + 4)) (dropS 4 tx362) (.k (.ref A) :: .int f :: .int s :: .int v :: .int m :: .int side :: .ref nb :: List.replicate 12 .undef) σ (fun fl _ _ => fl = .ret (.bool true)) (fun _ _ => False) := by
  unfold tx362
  simp only [dropS, List.replicate]
  obtain ⟨b1, b2⟩ := side_b h1
  refine seqK fun K5 k5 _ _ _ => ?_
  simp only [wpS]
  refine c362_1_ok h1 hn hnb hp (by omega) rfl rfl (by decide : 14 < 19) fun σ1 lx rsl M0 ⟨kp1, ml, nl, nrl⟩ sq => ?_
  simp only [pAssign, unp, putAll, List.length_cons, List.length_nil, List.length_singleton, ok_int, ok_bool, ok_none, ok_ref, ok_tup, ok_str, ok_rng, ok_lam, ok_kref, true_and, and_true, List.set_cons_zero, List.set_cons_succ, Nat.reduceLT, Nat.reduceAdd, Nat.zero_lt_succ, Nat.lt_add_left_iff_pos]
  refine k5 _ _ (seqK fun K6 k6 _ _ _ => ?_)
  have hn1 := kp1.at hnb hn
  simp only [wpS]
  refine c362_2_ok hn1 hp rfl rfl (by decide : 12 < 19) fun words hwl hw0 => ?_
  simp only [pAssign, unp, putAll, List.length_cons, List.length_nil, List.length_singleton, ok_int, ok_bool, ok_none, ok_ref, ok_tup, ok_str, ok_rng, ok_lam, ok_kref, true_and, and_true, List.set_cons_zero, List.set_cons_succ, Nat.reduceLT, Nat.reduceAdd, Nat.zero_lt_succ, Nat.lt_add_left_iff_pos]
  refine k6 _ _ (seqK fun K7 k7 _ _ _ => ?_)
  have kp2 : Kp σ1 (σ1.new (.list (words.map .int))) := .new
  have hw := Hp.new_self (σ := σ1) (o := .list (words.map .int))
  have hwn : σ1.nx < (σ1.new (.list (words.map .int))).nx := Nat.lt_succ_self _
  generalize hσ2 : σ1.new (.list (words.map .int)) = σ2 at kp2 hw hwn
  obtain ⟨wb, hwb⟩ : ∃ wb, wb = σ1.nx := ⟨_, rfl⟩
  rw [← hwb] at hw hwn ⊢
  simp [wpSs, wpS, wpT, wpTs, wpE, wpEs, wpO, wpB, wpI, pLoc, pCmp, pEq, pTruth, pBin, pInt, pAug, pSub, pBcall, pBmeth, pAssign, pAttr, pSetAttr, pMeth, pLcall, pSetItem, pSlc, pNew, isNoneV, unp, putAll, items, listItems, itOf, itOk, clr, Hp.new_at, Hp.set_at, Hp.new_nx, Hp.set_nx]
  refine sp327 (by omega) (by omega) fun x σ3 p m0 dl kp3 hx1 hx2 hx => ?_
  simp [wpSs, wpS, wpT, wpTs, wpE, wpEs, wpO, wpB, wpI, pLoc, pCmp, pEq, pTruth, pBin, pInt, pAug, pSub, pBcall, pBmeth, pAssign, pAttr, pSetAttr, pMeth, pLcall, pSetItem, pSlc, pNew, isNoneV, unp, putAll, items, listItems, itOf, itOk, clr, Hp.new_at, Hp.set_at, Hp.new_nx, Hp.set_nx]
  refine k7 _ _ (seqK fun K8 k8 _ _ _ => ?_)
  simp [wpSs, wpS, wpT, wpTs, wpE, wpEs, wpO, wpB, wpI, pLoc, pCmp, pEq, pTruth, pBin, pInt, pAug, pSub, pBcall, pBmeth, pAssign, pAttr, pSetAttr, pMeth, pLcall, pSetItem, pSlc, pNew, isNoneV, unp, putAll, items, listItems, itOf, itOk, clr, Hp.new_at, Hp.set_at, Hp.new_nx, Hp.set_nx, hx, ak17]
  refine k8 _ _ (seqK fun K9 k9 _ _ _ => ?_)
  have kp4 : Kp σ2 (σ3.set x (.inst 327 [.int v, .int 0, .int 10, .int 4, .none, .none, .ref p, .ref m0, .int side, .none, .ref dl])) := kp3.setNew hx1
  have hx4 : (σ3.set x (.inst 327 [.int v, .int 0, .int 10, .int 4, .none, .none, .ref p, .ref m0, .int side, .none, .ref dl])).at_ x = some (.inst 327 [.int v, .int 0, .int 10, .int 4, .none, .none, .ref p, .ref m0, .int side, .none, .ref dl]) := Hp.set_self
  have hxn4 : x < (σ3.set x (.inst 327 [.int v, .int 0, .int 10, .int 4, .none, .none, .ref p, .ref m0, .int side, .none, .ref dl])).nx := hx2
  generalize σ3.set x (.inst 327 [.int v, .int 0, .int 10, .int 4, .none, .none, .ref p, .ref m0, .int side, .none, .ref dl]) = σ4 at kp4 hx4 hxn4
  have ml4 : MatR σ4 lx rsl M0 := (ml.ext kp2 id fun _ _ => id).ext kp4 id fun _ _ => id
  simp only [wpS]
  refine copy_ok ml4 (by decide : 14 < 19) rfl (by rw [sq.1]; unfold lim; omega) fun σ5 mo rsm ⟨kp5, mm, nm, nrm⟩ => ?_
  have hx5 := kp5.at hxn4 hx4
  simp [wpSs, wpS, wpT, wpTs, wpE, wpEs, wpO, wpB, wpI, pLoc, pCmp, pEq, pTruth, pBin, pInt, pAug, pSub, pBcall, pBmeth, pAssign, pAttr, pSetAttr, pMeth, pLcall, pSetItem, pSlc, pNew, isNoneV, unp, putAll, items, listItems, itOf, itOk, clr, Hp.new_at, Hp.set_at, Hp.new_nx, Hp.set_nx, hx5, ak16]
  have hE6 : Ext (· = x) σ5 (σ5.set x (.inst 327 [.int v, .int 0, .int 10, .int 4, .none, .none, .ref p, .ref mo, .int side, .none, .ref dl])) := .set rfl
  have hx6 : (σ5.set x (.inst 327 [.int v, .int 0, .int 10, .int 4, .none, .none, .ref p, .ref mo, .int side, .none, .ref dl])).at_ x = some (.inst 327 [.int v, .int 0, .int 10, .int 4, .none, .none, .ref p, .ref mo, .int side, .none, .ref dl]) := Hp.set_self
  have hxn6 : x < (σ5.set x (.inst 327 [.int v, .int 0, .int 10, .int 4, .none, .none, .ref p, .ref mo, .int side, .none, .ref dl])).nx := Nat.lt_of_lt_of_le hxn4 kp5.1
  refine k9 _ _ (seqK fun K10 k10 _ _ _ => ?_)
  generalize σ5.set x (.inst 327 [.int v, .int 0, .int 10, .int 4, .none, .none, .ref p, .ref mo, .int side, .none, .ref dl]) = σ6 at hE6 hx6 hxn6
  have xw : σ2.nx ≤ x := hx1
  have lxx : lx < x := Nat.lt_of_lt_of_le ml.lt.1 (Nat.le_trans kp2.1 hx1)
  have rlx : ∀ r ∈ rsl, r < x := fun r hr => Nat.lt_of_lt_of_le (ml.lt.2 r hr) (Nat.le_trans kp2.1 hx1)
  have wbx : wb < x := Nat.lt_of_lt_of_le hwn hx1
  have mox : x < mo := Nat.lt_of_lt_of_le hxn4 nm
  have rmx : ∀ r ∈ rsm, x < r := fun r hr => Nat.lt_of_lt_of_le hxn4 (nrm r hr)
  have mm6 : MatR σ6 mo rsm M0 := mm.ext hE6 (by omega) fun r hr e => by have := rmx r hr; omega
  have ml6 : MatR σ6 lx rsl M0 := (ml4.ext kp5 id fun _ _ => id).ext hE6 (by omega) fun r hr e => by have := rlx r hr; omega
  have hw6 : σ6.at_ wb = some (.list (words.map .int)) := hE6.at (Nat.lt_of_lt_of_le hwn (Nat.le_trans kp4.1 kp5.1)) (by omega) (kp5.at (Nat.lt_of_lt_of_le hwn kp4.1) (kp4.at hwn hw))
  have hwn6 : wb < σ6.nx := by omega
  simp [wpSs, wpS, wpT, wpTs, wpE, wpEs, wpO, wpB, wpI, pLoc, pCmp, pEq, pTruth, pBin, pInt, pAug, pSub, pBcall, pBmeth, pAssign, pAttr, pSetAttr, pMeth, pLcall, pSetItem, pSlc, pNew, isNoneV, unp, putAll, items, listItems, itOf, itOk, clr, Hp.new_at, Hp.set_at, Hp.new_nx, Hp.set_nx, optInt, hw6, sliceAll]
  refine k10 _ _ (seqK fun K11 k11 _ _ _ => ?_)
  have kp7 : Kp σ6 (σ6.new (.list (words.map .int))) := .new
  have hh7 := Hp.new_self (σ := σ6) (o := .list (words.map .int))
  have hhn : σ6.nx < (σ6.new (.list (words.map .int))).nx := Nat.lt_succ_self _
  generalize hσ7 : σ6.new (.list (words.map .int)) = σ7 at kp7 hh7 hhn
  obtain ⟨hd, hhd⟩ : ∃ hd, hd = σ6.nx := ⟨_, rfl⟩
  rw [← hhd] at hh7 hhn ⊢
  have mm7 := mm6.ext kp7 id fun _ _ => id
  have ml7 := ml6.ext kp7 id fun _ _ => id
  have hw7 := kp7.at hwn6 hw6
  have hx7 := kp7.at hxn6 hx6
  have H7 : HM x mo hd rsm [.int v, .int 0, .int 10, .int 4, .none, .none, .ref p, .ref mo, .int side, .none, .ref dl] words side σ7 M0 :=
    ⟨hx7, rfl, rfl, hh7, mm7, sq, fun h => by have := rmx x h; omega, fun h => by have := mm6.lt.2 hd h; omega⟩
  have fin : ∀ w16, wpSs (sx02 A ns) (Ph (sx02 A ns) F02 L02 (n + 4)) (dropS 11 tx362) [.k (.ref A), .int f, .int s, .int v, .int m, .int side, .ref nb, .ref lx, .ref wb, .ref x, .ref hd, .undef, .undef, .undef, .undef, .undef, w16, .undef, .undef] σ7 (fun fl _ _ => fl = .ret (.bool true)) (fun _ _ => False) := fun w16 =>
    law02_c hm8 h1 hwl hw0 H7 ml7 hw7 (Nat.lt_of_lt_of_le hwn6 kp7.1) hhn (fun r hr h => by have := rlx r hr; have := rmx r h; omega) (fun h => by have := rmx _ h; omega) (fun h => by have := rmx _ h; omega) (by omega) (by omega)
  refine wp_ite fun G g1 g2 => ?_
  simp [wpSs, wpS, wpT, wpTs, wpE, wpEs, wpO, wpB, wpI, pLoc, pCmp, pEq, pTruth, pBin, pInt, pAug, pSub, pBcall, pBmeth, pAssign, pAttr, pSetAttr, pMeth, pLcall, pSetItem, pSlc, pNew, isNoneV, unp, putAll, items, listItems, itOf, itOk, clr, Hp.new_at, Hp.set_at, Hp.new_nx, Hp.set_nx]
  cases hc : (f.fdiv 32).fmod 4 == 3
  · exact g2 _ (wp_nil (k11 _ _ (fin _)))
  · refine g1 _ (seqK fun K12 k12 _ _ _ => ?_)
    simp [wpSs, wpS, wpT, wpTs, wpE, wpEs, wpO, wpB, wpI, pLoc, pCmp, pEq, pTruth, pBin, pInt, pAug, pSub, pBcall, pBmeth, pAssign, pAttr, pSetAttr, pMeth, pLcall, pSetItem, pSlc, pNew, isNoneV, unp, putAll, items, listItems, itOf, itOk, clr, Hp.new_at, Hp.set_at, Hp.new_nx, Hp.set_nx]
    refine k12 _ _ (seqK fun K13 k13 _ _ _ => wp_ite fun G2 g21 g22 => ?_)
    have hfar := fmod_b (s.fdiv 140) (show (0 : Int) < 1000 by decide)
    generalize (s.fdiv 140).fmod 1000 = far at *
    have hG : G2 false σ7 := g22 _ (wp_nil (k13 _ _ (wp_nil (k11 _ _ (fin _)))))
    simp [wpSs, wpS, wpT, wpTs, wpE, wpEs, wpO, wpB, wpI, pLoc, pCmp, pEq, pTruth, pBin, pInt, pAug, pSub, pBcall, pBmeth, pAssign, pAttr, pSetAttr, pMeth, pLcall, pSetItem, pSlc, pNew, isNoneV, unp, putAll, items, listItems, itOf, itOk, clr, Hp.new_at, Hp.set_at, Hp.new_nx, Hp.set_nx]
    refine bmatch (fun _ => ?_) fun _ => ?_
    · refine sp357 H7 (.inr (by omega)) ?_
      simp [wpSs, wpS, wpT, wpTs, wpE, wpEs, wpO, wpB, wpI, pLoc, pCmp, pEq, pTruth, pBin, pInt, pAug, pSub, pBcall, pBmeth, pAssign, pAttr, pSetAttr, pMeth, pLcall, pSetItem, pSlc, pNew, isNoneV, unp, putAll, items, listItems, itOf, itOk, clr, Hp.new_at, Hp.set_at, Hp.new_nx, Hp.set_nx, hx7, ak16]
      exact ⟨_, mm7.rd, _, ml7.rd, shaped_mat _, shaped_mat _, by rw [eqv_mat]; exact hG⟩
    · refine sp357 H7 (.inl (by omega)) ?_
      simp [wpSs, wpS, wpT, wpTs, wpE, wpEs, wpO, wpB, wpI, pLoc, pCmp, pEq, pTruth, pBin, pInt, pAug, pSub, pBcall, pBmeth, pAssign, pAttr, pSetAttr, pMeth, pLcall, pSetItem, pSlc, pNew, isNoneV, unp, putAll, items, listItems, itOf, itOk, clr, Hp.new_at, Hp.set_at, Hp.new_nx, Hp.set_nx, hx7, ak16]
      exact ⟨_, mm7.rd, _, ml7.rd, shaped_mat _, shaped_mat _, by rw [eqv_mat]; exact hG⟩
theorem law02 (hfr : (sx02 A ns).frz A = some (ns.map .int)) (hlen : ns.length ≤ 100) :
    wpSs (sx02 A ns) (Ph (sx02 A ns) F02 L02 (n + 4)) tx362 (.k (.ref A) :: List.replicate 18 .undef) σ (fun fl _ _ => fl = .ret (.bool true)) (fun _ _ => False) := by
  unfold tx362
  refine seqK fun K1 k1 _ _ _ => ?_
  obtain ⟨f, s, hfs⟩ := firstTwo ns
  have z1 : min 2 ns.length + 2 ≤ 1048576 := by omega
  simp [wpSs, wpS, wpT, wpTs, wpE, wpEs, wpO, wpB, wpI, pLoc, pCmp, pEq, pTruth, pBin, pInt, pAug, pSub, pBcall, pBmeth, pAssign, pAttr, pSetAttr, pMeth, pLcall, pSetItem, pSlc, pNew, isNoneV, unp, putAll, items, listItems, itOf, itOk, clr, Hp.new_at, Hp.set_at, Hp.new_nx, Hp.set_nx, optInt, hfr, sliceTo2, lim, hfs, z1, Nat.lt_irrefl]
  refine ⟨by omega, k1 _ _ (seqK fun K2 k2 _ _ _ => ?_)⟩
  clear k1
  obtain ⟨v1, v2⟩ := fmod_b f (show (0 : Int) < 4 by decide)
  obtain ⟨m1, m2⟩ := fmod_b (f.fdiv 4) (show (0 : Int) < 8 by decide)
  obtain ⟨v, hv⟩ : ∃ v : Int, v = 1 + f.fmod 4 := ⟨_, rfl⟩
  obtain ⟨m, hm⟩ : ∃ m : Nat, (f.fdiv 4).fmod 8 = m := ⟨((f.fdiv 4).fmod 8).toNat, by omega⟩
  simp [wpSs, wpS, wpT, wpTs, wpE, wpEs, wpO, wpB, wpI, pLoc, pCmp, pEq, pTruth, pBin, pInt, pAug, pSub, pBcall, pBmeth, pAssign, pAttr, pSetAttr, pMeth, pLcall, pSetItem, pSlc, pNew, isNoneV, unp, putAll, items, listItems, itOf, itOk, clr, Hp.new_at, Hp.set_at, Hp.new_nx, Hp.set_nx, lim, ← hv, hm]
  refine k2 _ _ (seqK fun K3 k3 _ _ _ => ?_)
  have hm8 : m < 8 := by omega
  obtain ⟨side, hside⟩ : ∃ side : Nat, 4 * v + 17 = side := ⟨(4 * v + 17).toNat, by omega⟩
  have h1 : Side side := by unfold Side; omega
  have i4 : IntMulOk 4 v := .of_left (by decide)
  simp [wpSs, wpS, wpT, wpTs, wpE, wpEs, wpO, wpB, wpI, pLoc, pCmp, pEq, pTruth, pBin, pInt, pAug, pSub, pBcall, pBmeth, pAssign, pAttr, pSetAttr, pMeth, pLcall, pSetItem, pSlc, pNew, isNoneV, unp, putAll, items, listItems, itOf, itOk, clr, Hp.new_at, Hp.set_at, Hp.new_nx, Hp.set_nx, i4, hside]
  refine k3 _ _ (seqK fun K4 k4 _ _ _ => ?_)
  have fin : ∀ (σ' : Hp) (nb : Nat) (nums : List Int), σ'.at_ nb = some (.list (nums.map .int)) → nb < σ'.nx → 0 < nums.length → nums.length ≤ 12 →
      K4 .next [.k (.ref A), .int f, .int s, .int v, .int m, .int side, .ref nb, .undef, .undef, .undef, .undef, .undef, .undef, .undef, .undef, .undef, .undef, .undef, .undef] σ' := fun σ' nb nums a b c d => k4 _ _ (law02_b hm8 h1 hside a b c d)
  clear k4
  generalize (((σ.new (O.list (List.take 2 (List.map V.int ns)))).new (O.list [V.int 0, V.int 0])).new (O.list (List.take 2 (List.map V.int ns) ++ [V.int 0, V.int 0]))).new (O.list [V.int f, V.int s]) = σ1
  obtain ⟨nums, hnums, hnl⟩ := numsAre ns
  cases nums with
  | nil =>
    simp [wpSs, wpS, wpT, wpTs, wpE, wpEs, wpO, wpB, wpI, pLoc, pCmp, pEq, pTruth, pBin, pInt, pAug, pSub, pBcall, pBmeth, pAssign, pAttr, pSetAttr, pMeth, pLcall, pSetItem, pSlc, pNew, isNoneV, unp, putAll, items, listItems, itOf, itOk, clr, Hp.new_at, Hp.set_at, Hp.new_nx, Hp.set_nx, optInt, hfr, hnums, lim]
    exact fin _ _ [s] (by simp [Hp.new_at, Hp.new_nx]) (Nat.lt_succ_self _) (by simp) (by simp)
  | cons a r =>
    simp [wpSs, wpS, wpT, wpTs, wpE, wpEs, wpO, wpB, wpI, pLoc, pCmp, pEq, pTruth, pBin, pInt, pAug, pSub, pBcall, pBmeth, pAssign, pAttr, pSetAttr, pMeth, pLcall, pSetItem, pSlc, pNew, isNoneV, unp, putAll, items, listItems, itOf, itOk, clr, Hp.new_at, Hp.set_at, Hp.new_nx, Hp.set_nx, optInt, hfr, hnums, lim]
    exact fin _ _ (a :: r) (by simp [Hp.new_at]) (Nat.lt_succ_self _) (by simp) hnl
end
end Mine
open PySem PySem.W PySem.Calls PyProof.Rows PySem.Spec
set_option linter.unusedVariables false
namespace Mine
def notInt (v : V) : Prop := ∀ μ h i t, ¬ VR μ h v (.int i t)
theorem notInt_str {x : Str} : notInt (.str x) := fun μ h i t e => by obtain ⟨_, e⟩ := e; cases e
theorem notInt_k {a : Addr} : notInt (.k (.ref a)) := fun μ h i t e => by cases (show Value.int i t = .ref a from e)
theorem frz02_head : ∀ q ∈ frz02, ∃ v r, q.2 = v :: r ∧ notInt v := by
  intro q hq
  simp only [frz02, List.mem_cons, List.not_mem_nil, or_false] at hq
  rcases hq with rfl | rfl | rfl | rfl | rfl | rfl | rfl | rfl | rfl
  · exact ⟨_, _, rfl, notInt_k⟩
  all_goals exact ⟨_, _, rfl, notInt_str⟩
theorem ints_vsr {vs : List Value} {ns : List Int} (h : IntsAre vs ns) : ∀ μ hh, VsR μ hh (ns.map .int) vs := by
  intro μ hh
  induction h with
  | nil => exact .nil
  | cons n t _ ih => exact .cons ⟨t, rfl⟩ ih
theorem well_list {P : Params} {h : Heap} {a : Addr} {xs : List PyData} (w : Well P h (.ref a) (ofPy (.list xs))) : ∃ vs : List Value, h.get? a = some (PySem.W.listOf vs.toArray 0) := by
  have : ofPy (.list xs) = .list (ofPys xs) := by simp [ofPy]
  rw [this] at w
  cases w with
  | list h _ => exact ⟨_, h⟩
/-- the facts of the module and of the script -/
theorem mok02 {c : Cx} {p : Params} {A : Addr} {vs : List Value} {ns : List Int} (hK : c.K = hd02.heap_39 p) (hf : c.flds = (tab02 frz02).fl) (hl : c.H0.get? A = some (PySem.W.listOf vs.toArray 0)) (hI : IntsAre vs ns) (hn : ns.length ≤ 63) :
    MOk c (sx02 A ns) (tab02 frz02).mc ∧ (sx02 A ns).frz A = some (ns.map .int) := by
  have H := MTab.ok (T := tab02 frz02) (c := c) hf (by rw [hK]; exact tab02_okF p)
  have Z := H.Z
  have hno : frz02.lookup A = none := by
    cases q : frz02.lookup A with
    | none => rfl
    | some ws =>
      obtain ⟨_, its, n, e1, e2⟩ := Z A ws q
      rw [hl] at e1
      cases e1
      obtain ⟨v, r, e3, e4⟩ := frz02_head _ (lookupMem q)
      dsimp only at e3
      subst e3
      obtain ⟨r', rs, e5, e6, _⟩ := e2 (fun _ => none) c.H0
      dsimp only at e5
      subst e5
      cases hI with
      | cons n t _ => exact absurd e6 (e4 _ _ _ _)
  have hfr : (sx02 A ns).frz A = some (ns.map .int) := by
    show (match frz02.lookup A with | some vs => some vs | none => if A = A then some (ns.map V.int) else none) = _
    rw [hno]; simp
  refine ⟨⟨H.hS, fun a ws e => ?_, H.ids, H.gl, H.fns, H.kf⟩, hfr⟩
  have e' : (match frz02.lookup a with | some vs => some vs | none => if a = A then some (ns.map V.int) else none) = some ws := e
  cases q : frz02.lookup a with
  | some ws' =>
    rw [q] at e'
    cases e'
    exact Z a _ q
  | none =>
    rw [q] at e'
    by_cases h : a = A
    · subst h
      rw [if_pos rfl] at e'
      cases e'
      exact ⟨by rw [List.length_map]; unfold lim; omega, vs.toArray, 0, hl, fun μ h => ints_vsr hI μ h⟩
    · rw [if_neg h] at e'; cases e'
set_option maxRecDepth 100000 in
theorem mak327 (p : Params) : makesIn (hd02.heap_39 p) 327 = true := by kernel_rfl
set_option maxRecDepth 100000 in
theorem ini327 (p : Params) : findIn (hd02.heap_39 p) (.ref 327) "__init__" = some (some (.ref 189)) := by kernel_rfl
set_option maxRecDepth 100000 in
theorem fn189 (p : Params) : typeIn (hd02.heap_39 p) (.ref 189) = some (.type "function") := by kernel_rfl
theorem fs02 {c : Cx} {p : Params} {A : Addr} {ns : List Int} (hK : c.K = hd02.heap_39 p) (ht : c.tabs = tabs02) (hf : c.flds = (tab02 frz02).fl) (hT : ∀ t ∈ c.tabs, TabHd c t) (H : MOk c (sx02 A ns) (tab02 frz02).mc) :
    ∀ n, FS c (Ph (sx02 A ns) F02 L02 n) n ∧ LS c (Ph (sx02 A ns) F02 L02 n) n := by
  have pl : ∀ {f : Addr} {d : Fd} {k : Nat}, cmpFn (hd02.heap_39 p) (tab02 frz02).mc tabs02 d.nm f 60 = some d.body → bdPlain (hd02.heap_39 p) f k = true → d.bind = bindP k → FnK c (sx02 A ns) F02 L02 f d := fun {f d k} a b e =>
    fnk H hT (k := 60) (by rw [hK, ht]; exact a) (by rw [e]; exact bd_plain (by rw [hK]; exact b))
  refine fs_all (fun f d e => ?_) (fun C nf init e => ?_) (fun ld d e => ldk H (k := 60) e)
  · have hm := lookupMem e
    simp only [fns02, List.mem_cons, List.not_mem_nil, or_false, Prod.mk.injEq, Fu.fn.injEq, reduceCtorEq, and_false, false_or] at hm
    rcases hm with ⟨rfl, rfl⟩ | ⟨rfl, rfl⟩ | ⟨rfl, rfl⟩ | ⟨rfl, rfl⟩ | ⟨rfl, rfl⟩ | ⟨rfl, rfl⟩ | ⟨rfl, rfl⟩ | ⟨rfl, rfl⟩ | ⟨rfl, rfl⟩ | ⟨rfl, rfl⟩ | ⟨rfl, rfl⟩ | ⟨rfl, rfl⟩ | ⟨rfl, rfl⟩
    · exact pl (cf85 p) (bd85 p) rfl
    · exact pl (cf99 p) (bd99 p) rfl
    · exact pl (cf160 p) (bd160 p) rfl
    · exact pl (cf167 p) (bd167 p) rfl
    · exact pl (cf174 p) (bd174 p) rfl
    · exact fnk H hT (k := 60) (by rw [hK, ht]; exact cf189 p) (bd189 hK)
    · exact pl (cf205 p) (bd205 p) rfl
    · exact pl (cf222 p) (bd222 p) rfl
    · exact pl (cf230 p) (bd230 p) rfl
    · exact pl (cf317 p) (bd317 p) rfl
    · exact pl (cf345 p) (bd345 p) rfl
    · exact pl (cf350 p) (bd350 p) rfl
    · exact pl (cf357 p) (bd357 p) rfl
  · have hm := lookupMem e
    simp only [fns02, List.mem_cons, List.not_mem_nil, or_false, Prod.mk.injEq, Fu.cls.injEq, reduceCtorEq, and_false, false_or] at hm
    obtain ⟨rfl, rfl, rfl⟩ := hm
    have hfl : c.flds 327 = fl02 := by rw [hf]; rfl
    exact ⟨by rw [hK]; exact mak327 p, by rw [hK]; exact ini327 p, by rw [hK]; exact fn189 p, by rw [hfl]; rfl, by rw [hfl]; decide, by decide⟩
theorem join02 {w : World} {s₁ : Shared} {mean : ExcName → Option Value} {mg mb : Str → Option Value} {loose : List Str} {A fa : Addr} {cd : Value} {vs : List Value} {ns : List Int} {h₁ : Heap} {tk : Nat} {m : Str → Option Value} {o1 o2 : Obj} {v1 v2 : Option Value} {name : Str} {scope : Scope} {body : List Stmt}
    {Q : Flow → Shared → Prop} {E : Value → Shared → Prop} {xs : List PyData}
    (hX : (hd02.heap_39 w.params).In (ghostOf s₁.heap [(84, 80)])) (hT : Top topProg loose mean mg mb (ghostOf s₁.heap [(84, 80)])) (hg : s₁.gens = #[]) (hCd : CodeHd (ghostOf s₁.heap [(84, 80)]) 84 80)
    (hlift : (ghostOf s₁.heap [(84, 80)]).IsList A vs.toArray) (hW : Well w.params s₁.heap (.ref A) (ofPy (.list xs))) (hI : IntsAre vs ns) (hn : ns.length ≤ 63)
    (hF : Fr (ghostOf s₁.heap [(84, 80)]) s₁.heap.objs.size h₁ m) (hm : m "script" = some (.ref A))
    (hN : News (ghostOf s₁.heap [(84, 80)]) s₁.heap.objs.size h₁ [(s₁.heap.objs.size + 1 + 1, o1), (s₁.heap.objs.size + 1, o2), (80, tabObj #[])]) (h1 : o1.data = .cell v1) (h2 : o2.data = .cell v2)
    (hsc : cmpSs (ccOf (tab02 frz02).mc scope nm362 none) 60 body = some tx362) (hkd : scope.kind = .function) (hcells : ∀ n, cellsFrom n scope.names [] = [(("numbers" : Str), n + 1), (("side" : Str), n)])
    (hkB : (nm362.all fun q => (scope.names.lookup q.1 != some .cell && scope.names.lookup q.1 != some .free) || (q.1 == ("numbers" : Str) || q.1 == ("side" : Str))) = true)
    (hQ : ∀ s', (∀ b o, (ghostOf s₁.heap [(84, 80)]).get? b = some o → s'.heap.get? b = some o) → s'.os = s₁.os → s'.gens = #[] → (∃ ps, s'.heap.get? 80 = some (tabObj ps)) → Q (.ret (.bool true)) s') :
    wpAny (model PySem.Challenge.rw_ak5042_02.row.prog w) (callerA.deeper (envOfC name scope s₁.heap.objs.size fa cd)) (execs body (envOfC name scope s₁.heap.objs.size fa cd)) Q E { heap := h₁, gens := s₁.gens, drawn := s₁.drawn, toks := tk, os := s₁.os } := by
  let c : Cx := { prog := PySem.Challenge.rw_ak5042_02.row.prog, w := w, K := hd02.heap_39 w.params, H0 := ghostOf s₁.heap [(84, 80)], pv := topProg, loose := loose, mean := mean, mg := mg, mb := mb, os := s₁.os, flds := (tab02 frz02).fl, tabs := tabs02, frz := fun _ => none, gp := fun g => g = #[], X0 := hX, T := hT }
  have hk : ∀ x i, nm362.lookup x = some i → (scope.names.lookup x = some .cell ∨ scope.names.lookup x = some .free) → x = ("numbers" : Str) ∨ x = ("side" : Str) := fun x i hx hc => by
    have := List.all_eq_true.mp hkB _ (mem_of_lookup hx)
    simp only [Bool.or_eq_true, Bool.and_eq_true, bne_iff_ne, beq_iff_eq] at this
    rcases this with ⟨h1, h2⟩ | h
    · rcases hc with hc | hc
      · exact absurd hc h1
      · exact absurd hc h2
    · exact h
  obtain ⟨oA, e1, e2, n0, e3⟩ := hlift
  obtain ⟨vs', e4⟩ := well_list hW
  have e5 := of_hideAll _ e1
  rw [e4] at e5
  cases e5
  have e6 : vs'.toArray = vs.toArray := by cases e3; rfl
  rw [e6] at e1
  have hnone : c.H0.get? 80 = none := hideAll_none _ (List.mem_singleton.mpr rfl)
  obtain ⟨M, hfr⟩ := mok02 (c := c) (p := w.params) (A := A) rfl rfl e1 hI hn
  have hTH : ∀ t ∈ c.tabs, TabHd c t := fun t ht => by
    have : t = (84, 80, ("mask_func.<locals>.<lambda>" : Str)) := by simpa [c, tabs02] using ht
    subst this
    exact ⟨ht, hCd, hnone, fun q hq _ => by simpa [c, tabs02] using hq⟩
  obtain ⟨hFS, hLS⟩ := fs02 (c := c) (p := w.params) rfl rfl rfl hTH M 4
  have law := law02 (A := A) (ns := ns) (n := 0) (σ := hp0) hfr (by omega)
  have hle : c.H0.objs.size ≤ s₁.heap.objs.size := hF.above
  have fresh : ∀ b, s₁.heap.objs.size ≤ b → c.H0.get? b = none := fun b hb => Heap.get?_none_of_le (Nat.le_trans hle hb)
  have ev : Ev c (callerA.deeper (envOfC name scope s₁.heap.objs.size fa cd)) (envOfC name scope s₁.heap.objs.size fa cd) nm362 mu0 (.k (.ref A) :: List.replicate 18 .undef) hp0 { heap := h₁, gens := s₁.gens, drawn := s₁.drawn, toks := tk, os := s₁.os } := by
    refine ev0 (m := m) (x0 := "script") rfl (by show scope.kind ≠ _; rw [hkd]; decide) rfl hF.ns hF.keep rfl hg (fun q hq => ?_) (fun q hq => ?_) (fun x y cx cy hx hy hne => ?_) (fresh _ (Nat.le_refl _)) hm (fun x hx => ?_) (fun x y i hx hy => ?_) fun x i hx hc => ?_
    · have : q = (84, 80, ("mask_func.<locals>.<lambda>" : Str)) := by simpa [c, tabs02] using hq
      subst this
      exact hN.get (by simp)
    · have hq' : q ∈ cellsFrom (s₁.heap.objs.size + 1) scope.names [] := hq
      rw [hcells] at hq'
      simp only [List.mem_cons, List.not_mem_nil, or_false] at hq'
      rcases hq' with rfl | rfl
      · exact ⟨⟨_, _, hN.get (by simp), h1⟩, fresh _ (by omega)⟩
      · exact ⟨⟨_, _, hN.get (by simp), h2⟩, fresh _ (by omega)⟩
    · have hx' := mem_of_lookup hx
      have hy' := mem_of_lookup hy
      have e : (envOfC name scope s₁.heap.objs.size fa cd).cells = [(("numbers" : Str), s₁.heap.objs.size + 1 + 1), (("side" : Str), s₁.heap.objs.size + 1)] := hcells _
      rw [e] at hx' hy'
      simp only [List.mem_cons, List.not_mem_nil, or_false, Prod.mk.injEq] at hx' hy'
      rcases hx' with ⟨rfl, rfl⟩ | ⟨rfl, rfl⟩ <;> rcases hy' with ⟨rfl, rfl⟩ | ⟨rfl, rfl⟩ <;> first | exact absurd rfl hne | exact Nat.ne_of_gt (Nat.lt_succ_self _) | exact Nat.ne_of_lt (Nat.lt_succ_self _)
    · have := mem_of_lookup hx
      simpa [nm362] using this
    · have nd : (nm362.map (·.2)).Nodup := by decide
      exact snd_inj nd (mem_of_lookup hx) (mem_of_lookup hy)
    · have e : (envOfC name scope s₁.heap.objs.size fa cd).cells = [(("numbers" : Str), s₁.heap.objs.size + 1 + 1), (("side" : Str), s₁.heap.objs.size + 1)] := hcells _
      rw [e]
      rcases hk x i hx hc with rfl | rfl
      · refine ⟨rfl, ?_⟩
        rw [show nm362.lookup ("numbers" : Str) = some 6 from rfl] at hx
        cases hx; decide
      · refine ⟨rfl, ?_⟩
        rw [show nm362.lookup ("side" : Str) = some 5 from rfl] at hx
        cases hx; decide
  have K : EOk (envOfC name scope s₁.heap.objs.size fa cd) scope := ⟨rfl, hkd, rfl, rfl⟩
  have hA : AB 4 (callerA.deeper (envOfC name scope s₁.heap.objs.size fa cd)) := AOk.body (n := 4) ⟨rfl, by decide, by decide, rfl⟩ _
  refine (ct_all 60).ss _ _ ⟨M.sh hA hFS hLS K nm362 none (fun q e => by cases e), fun l hl => ?_, rfl⟩ s₁.heap.objs.size _ _ hsc _ _ _ _ law _ _ ev (Nat.le_refl _) _ _ (fun fl ρ' σ' μ' r s' hq ev' st' hr => ?_) fun x ρ' σ' μ' e s' hx => hx.elim
  · rw [Around.frames_deeper (A := callerA) rfl] at hl
    cases hl
    exact ⟨_, rfl⟩
  · subst hq
    obtain ⟨_, w', rfl, hw'⟩ := hr
    rw [show w' = .bool true from hw']
    refine hQ s' ev'.rl.base ev'.os ev'.gn ?_
    obtain ⟨ps, e, _⟩ := ev'.tb (84, 80, ("mask_func.<locals>.<lambda>" : Str)) (by simp [c, tabs02])
    exact ⟨ps, e⟩
end Mine
open PySem PySem.W PySem.Calls PyProof.Rows PySem.Spec
set_option linter.unusedVariables false
set_option Elab.async false
set_option maxRecDepth 100000 in
set_option maxHeartbeats 8000000 in
theorem PySem.Challenge.cw_ak5042_02_holds : PySem.Challenge.rw_ak5042_02.Holds := by
  refine hd02 (by
  k_go0
  refine Mine.join02 (hX := by assumption) (hT := by assumption) (hg := by assumption) (hCd := by assumption) (hlift := by assumption) (hW := by assumption) (hI := by assumption) (hn := ?hn) (hF := by assumption) (hm := ?hm) (hN := by assumption) (h1 := by assumption) (h2 := by assumption) (hsc := ?hsc) (hkd := ?hkd) (hcells := ?hcells) (hkB := ?hk) (hQ := ?hQ)
  case hn => omega
  case hm => rfl
  case hsc => kernel_rfl
  case hkd => rfl
  case hcells => exact fun _ => rfl
  case hk => kernel_rfl
  case hQ => exact fun s' hk ho hg hgr => ⟨⟨.inl ⟨.bool true, .bool true, [], rfl, fun _ => rfl, .bool true, (by wrow_post), fun _ => ⟨List.nodup_nil, fun a ha => nomatch ha⟩⟩, hk, ho, hg⟩, ⟨hgr, trivial⟩⟩)
