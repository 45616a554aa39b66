import PyProof.Rows.All
import Wide.All
import OpenK.AllK
import Wide.FinOn
import PySem.Challenge.RW_re0056_01
open PySem PySem.W PySem.Calls PyProof.Rows PySem.Spec
set_option Elab.async false
set_option linter.unusedVariables false
namespace Mine
/-! plain data, read off a part of the heap that nobody changes any more -/
abbrev View := Addr → Option Obj
def VLe (g g' : View) : Prop := ∀ a o, g a = some o → g' a = some o
def VIn (g : View) (h : Heap) : Prop := ∀ a o, g a = some o → h.get? a = some o
theorem VLe.refl (g : View) : VLe g g := fun _ _ e => e
theorem VLe.trans {g g' g'' : View} (x : VLe g g') (y : VLe g' g'') : VLe g g'' := fun a o e => y a o (x a o e)
inductive D where
  | none
  | bool (b : Bool)
  | int (i : Int)
  | flt (x : UInt64)
  | str (x : Str)
  | tup (l : List D)
  | lst (l : List D)
abbrev tupO (vs : List Value) (n : Nat) : Obj := { cls := .type "tuple", data := .seq vs.toArray n }
abbrev lstO (vs : List Value) (n : Nat) : Obj := { cls := .type "list", data := .seq vs.toArray n }
mutual
def Rd (g : View) : D → Value → Prop
  | .none, v => v = .none
  | .bool b, v => v = .bool b
  | .int i, v => ∃ t, v = .int i t
  | .flt x, v => ∃ t, v = .float x t
  | .str x, v => ∃ t, v = .str x t
  | .tup ds, v => ∃ a vs n, v = .ref a ∧ g a = some (tupO vs n) ∧ RdL g ds vs
  | .lst ds, v => ∃ a vs n, v = .ref a ∧ g a = some (lstO vs n) ∧ RdL g ds vs
def RdL (g : View) : List D → List Value → Prop
  | [], vs => vs = []
  | d :: ds, vs => ∃ v r, vs = v :: r ∧ Rd g d v ∧ RdL g ds r
end
mutual
theorem Rd.mono {g g' : View} (h : VLe g g') : ∀ (d : D) (v : Value), Rd g d v → Rd g' d v
  | .none, _, x => by simpa only [Rd] using x
  | .bool _, _, x => by simpa only [Rd] using x
  | .int _, _, x => by simpa only [Rd] using x
  | .flt _, _, x => by simpa only [Rd] using x
  | .str _, _, x => by simpa only [Rd] using x
  | .tup ds, v, x => by
    simp only [Rd] at x ⊢
    obtain ⟨a, vs, n, rfl, ha, hl⟩ := x
    exact ⟨a, vs, n, rfl, h _ _ ha, RdL.mono h ds vs hl⟩
  | .lst ds, v, x => by
    simp only [Rd] at x ⊢
    obtain ⟨a, vs, n, rfl, ha, hl⟩ := x
    exact ⟨a, vs, n, rfl, h _ _ ha, RdL.mono h ds vs hl⟩
theorem RdL.mono {g g' : View} (h : VLe g g') : ∀ (ds : List D) (vs : List Value), RdL g ds vs → RdL g' ds vs
  | [], _, x => by simpa only [RdL] using x
  | d :: ds, vs, x => by
    simp only [RdL] at x ⊢
    obtain ⟨v, r, rfl, hv, hr⟩ := x
    exact ⟨v, r, rfl, Rd.mono h d v hv, RdL.mono h ds r hr⟩
end
theorem Rd.int_iff {g : View} {i : Int} {v : Value} : Rd g (.int i) v ↔ ∃ t, v = .int i t := by simp only [Rd]
theorem Rd.str_iff {g : View} {x : Str} {v : Value} : Rd g (.str x) v ↔ ∃ t, v = .str x t := by simp only [Rd]
theorem Rd.flt_iff {g : View} {x : UInt64} {v : Value} : Rd g (.flt x) v ↔ ∃ t, v = .float x t := by simp only [Rd]
theorem Rd.bool_iff {g : View} {b : Bool} {v : Value} : Rd g (.bool b) v ↔ v = .bool b := by simp only [Rd]
theorem Rd.none_iff {g : View} {v : Value} : Rd g .none v ↔ v = .none := by simp only [Rd]
theorem Rd.tup_iff {g : View} {ds : List D} {v : Value} : Rd g (.tup ds) v ↔ ∃ a vs n, v = .ref a ∧ g a = some (tupO vs n) ∧ RdL g ds vs := by simp only [Rd]
theorem Rd.lst_iff {g : View} {ds : List D} {v : Value} : Rd g (.lst ds) v ↔ ∃ a vs n, v = .ref a ∧ g a = some (lstO vs n) ∧ RdL g ds vs := by simp only [Rd]
theorem Rd.mkInt {g : View} (i : Int) (t : Tok) : Rd g (.int i) (.int i t) := Rd.int_iff.mpr ⟨t, rfl⟩
theorem Rd.mkStr {g : View} (x : Str) (t : Tok) : Rd g (.str x) (.str x t) := Rd.str_iff.mpr ⟨t, rfl⟩
theorem Rd.mkFlt {g : View} (x : UInt64) (t : Tok) : Rd g (.flt x) (.float x t) := Rd.flt_iff.mpr ⟨t, rfl⟩
theorem Rd.mkBool {g : View} (b : Bool) : Rd g (.bool b) (.bool b) := Rd.bool_iff.mpr rfl
theorem Rd.mkNone {g : View} : Rd g .none .none := Rd.none_iff.mpr rfl
theorem Rd.mkTup {g : View} {a : Addr} {vs : List Value} {n : Nat} {ds : List D} (h : g a = some (tupO vs n)) (hl : RdL g ds vs) : Rd g (.tup ds) (.ref a) := Rd.tup_iff.mpr ⟨a, vs, n, rfl, h, hl⟩
theorem Rd.mkLst {g : View} {a : Addr} {vs : List Value} {n : Nat} {ds : List D} (h : g a = some (lstO vs n)) (hl : RdL g ds vs) : Rd g (.lst ds) (.ref a) := Rd.lst_iff.mpr ⟨a, vs, n, rfl, h, hl⟩
theorem RdL.nil {g : View} : RdL g [] [] := by simp only [RdL]
theorem RdL.nil_iff {g : View} {vs : List Value} : RdL g [] vs ↔ vs = [] := by simp only [RdL]
theorem RdL.cons_iff {g : View} {d : D} {ds : List D} {vs : List Value} : RdL g (d :: ds) vs ↔ ∃ v r, vs = v :: r ∧ Rd g d v ∧ RdL g ds r := by simp only [RdL]
theorem RdL.cons {g : View} {d : D} {ds : List D} {v : Value} {vs : List Value} (h : Rd g d v) (hs : RdL g ds vs) : RdL g (d :: ds) (v :: vs) := RdL.cons_iff.mpr ⟨v, vs, rfl, h, hs⟩
theorem RdL.length {g : View} : ∀ {ds : List D} {vs : List Value}, RdL g ds vs → vs.length = ds.length
  | [], vs, h => by rw [RdL.nil_iff.mp h]; rfl
  | d :: ds, vs, h => by
    obtain ⟨v, r, rfl, _, hr⟩ := RdL.cons_iff.mp h
    rw [List.length_cons, List.length_cons, RdL.length hr]
theorem RdL.append {g : View} : ∀ {ds es : List D} {vs ws : List Value}, RdL g ds vs → RdL g es ws → RdL g (ds ++ es) (vs ++ ws)
  | [], es, vs, ws, h, k => by rw [RdL.nil_iff.mp h]; exact k
  | d :: ds, es, vs, ws, h, k => by
    obtain ⟨v, r, rfl, hv, hr⟩ := RdL.cons_iff.mp h
    exact .cons hv (RdL.append hr k)
theorem RdL.get {g : View} : ∀ {ds : List D} {vs : List Value} {i : Nat} {d : D}, RdL g ds vs → ds[i]? = some d → ∃ v, vs[i]? = some v ∧ Rd g d v
  | [], _, _, _, _, e => by simp at e
  | d :: ds, vs, i, d', h, e => by
    obtain ⟨v, r, rfl, hv, hr⟩ := RdL.cons_iff.mp h
    cases i with
    | zero => simp only [List.getElem?_cons_zero, Option.some.injEq] at e ⊢; subst e; exact ⟨v, rfl, hv⟩
    | succ i => simp only [List.getElem?_cons_succ] at e ⊢; exact RdL.get hr e
theorem RdL.set {g : View} : ∀ {ds : List D} {vs : List Value} {i : Nat} {d : D} {v : Value}, RdL g ds vs → Rd g d v → RdL g (ds.set i d) (vs.set i v)
  | [], vs, i, d, v, h, _ => by rw [RdL.nil_iff.mp h]; simp only [List.set_nil]; exact .nil
  | d₀ :: ds, vs, i, d, v, h, k => by
    obtain ⟨v₀, r, rfl, hv, hr⟩ := RdL.cons_iff.mp h
    cases i with
    | zero => simp only [List.set_cons_zero]; exact .cons k hr
    | succ i => simp only [List.set_cons_succ]; exact .cons hv (RdL.set hr k)
theorem RdL.snoc {g : View} {ds : List D} {vs : List Value} {d : D} {v : Value} (h : RdL g ds vs) (k : Rd g d v) : RdL g (ds ++ [d]) (vs ++ [v]) := h.append (.cons k .nil)
/-! the ground that every frame stands on -/
structure Gd where
  prog : Program
  KF : Params → Frag
  p : Program
  loose : List Str
def Gd.Std (G : Gd) (w : World) (h : Heap) : Prop := (∃ mg mb, TopRead G.p G.loose mg mb h) ∧ (G.KF w.params).In h
abbrev Kp (h h' : Heap) : Prop := ∀ b o, h.get? b = some o → h'.get? b = some o
theorem Gd.Std.keeps {G : Gd} {w : World} {h h' : Heap} (x : G.Std w h) (k : Kp h h') : G.Std w h' := by
  obtain ⟨⟨mg, mb, t⟩, y⟩ := x
  exact ⟨⟨mg, mb, t.keeps k⟩, y.keeps k⟩
structure Room (A : Around) (n : Nat) : Prop where
  handled : A.handled = none
  depth : A.depth + n < recursionLimit
  units : A.units + 8 * n + 8 < cLine
theorem Room.mono {A : Around} {n k : Nat} (h : Room A n) (hk : k ≤ n) : Room A k := ⟨h.1, by have := h.2; omega, by have := h.3; omega⟩
/-- one frame: lk, what must not be changed; nb, the heap's size where it began -/
structure Cx where
  w : World
  A : Around
  S : Scope
  L : Addr
  cl : List (Str × Addr)
  f : Option Addr
  cd : Value
  qual : Str
  fr : Option Addr
  lk : View
  mu : Addr → Prop
  nb : Nat
  g0 : View
  os : OsState
  gl : Nat → Option GenState
def Cx.env (K : Cx) : Env := { scope := K.S, locals := K.L, globals := mainGlobals, cells := K.cl, qual := K.qual, func := K.f, code := K.cd, frame := K.fr, builtins := builtinsNs }
/-- what the generators keep -/
def Cx.Gn (K : Cx) (gens : Array GenState) : Prop := AllBare gens ∧ ∀ (i : Nat) (y : GenState), K.gl i = some y → gens[i]? = some y
def GKp (a b : Array GenState) : Prop := AllBare b ∧ ∀ (i : Nat) (y : GenState), a[i]? = some y → b[i]? = some y
abbrev Rho := Str → Option D
def upd (ρ : Rho) (x : Str) (d : D) : Rho := fun y => if y = x then some d else ρ y
def del (ρ : Rho) (x : Str) : Rho := fun y => if y = x then none else ρ y
abbrev Own := Option (Str × Addr × List D)
def OwnAt (K : Cx) (g : View) (h : Heap) (m : Str → Option Value) : Own → Prop
  | none => True
  | some (x, a, ds) => ∃ vs n, m x = some (.ref a) ∧ h.get? a = some (lstO vs n) ∧ RdL g ds vs ∧ g a = none ∧ K.nb ≤ a ∧ a ≠ K.L ∧ K.lk a = none ∧ ∀ y c, K.cl.lookup y = some c → c ≠ a
structure St (K : Cx) (ρ : Rho) (ow : Own) (s : Shared) (g : View) : Prop where
  vin : VIn g s.heap
  old : ∀ a, a < K.nb → g a = K.g0 a
  keep : VIn K.lk s.heap
  os : s.os = K.os
  bare : K.Gn s.gens
  lo : K.nb ≤ K.L
  gL : g K.L = none
  kL : K.lk K.L = none
  mu : ∀ a, K.mu a → g a = none ∧ ∃ o, K.lk a = some o
  ns : ∃ m, s.heap.Ns K.L m ∧ (∀ x d, K.S.names.lookup x = some .local → ρ x = some d → ∃ v, m x = some v ∧ Rd g d v) ∧ OwnAt K g s.heap m ow
  cx : ∀ x, K.S.names.lookup x = some .cell → (K.cl.lookup x).isSome = true
  ce : ∀ x c, K.cl.lookup x = some c → g c = none ∧ c ≠ K.L ∧ ∃ ov, s.heap.IsCell c ov ∧ ∀ d, K.S.names.lookup x = some .cell → ρ x = some d → ∃ v, ov = some v ∧ Rd g d v
def Cx.On (K : Cx) (G : Gd) : Prop := ∃ hb : Heap, G.Std K.w hb ∧ ∀ b o, hb.get? b = some o → K.lk b = some o
theorem St.std {G : Gd} {K : Cx} {ρ : Rho} {ow : Own} {s : Shared} {g : View} (x : St K ρ ow s g) (y : K.On G) : G.Std K.w s.heap := by
  obtain ⟨hb, h1, h2⟩ := y
  exact h1.keeps fun b o e => x.keep b o (h2 b o e)
theorem St.size {K : Cx} {ρ : Rho} {ow : Own} {s : Shared} {g : View} (x : St K ρ ow s g) : K.nb ≤ s.heap.objs.size := by
  obtain ⟨m, hn, _⟩ := x.ns
  exact Nat.le_of_lt (Nat.lt_of_le_of_lt x.lo hn.lt)
/-- whatever grows the heap and leaves the old as it was -/
theorem St.growL {K : Cx} {ρ : Rho} {ow : Own} {s s' : Shared} {g g' : View} (x : St K ρ ow s g) (hk : ∀ b o, b ≠ K.L → s.heap.get? b = some o → s'.heap.get? b = some o) (hL : ∀ m, s.heap.Ns K.L m → s'.heap.Ns K.L m)
    (hv : VIn g' s'.heap) (hl : VLe g g') (ho : ∀ a, a < s.heap.objs.size → g' a = g a) (hos : s'.os = s.os) (hg : K.Gn s'.gens) : St K ρ ow s' g' := by
  have sz := x.size
  obtain ⟨m, hn, hm, hw⟩ := x.ns
  refine ⟨hv, fun a ha => (ho a (Nat.lt_of_lt_of_le ha sz)).trans (x.old a ha), fun b o e => hk b o (fun q => ?_) (x.keep b o e), hos.trans x.os, hg, x.lo, (ho _ hn.lt).trans x.gL, x.kL, fun a ha => (let ⟨h1, o, h2⟩ := x.mu a ha; ⟨(ho _ (Heap.lt_size (x.keep a o h2))).trans h1, o, h2⟩), ⟨m, hL m hn, fun y d h1 h2 => ?_, ?_⟩, x.cx, fun y c h => ?_⟩
  · rw [q, x.kL] at e; cases e
  · obtain ⟨v, e, r⟩ := hm y d h1 h2
    exact ⟨v, e, Rd.mono hl d v r⟩
  · cases ow with
    | none => trivial
    | some p =>
      obtain ⟨vs, n, h1, h2, h3, h4, h5, h6, h7⟩ := hw
      exact ⟨vs, n, h1, hk _ _ h6 h2, RdL.mono hl _ _ h3, (ho _ (Heap.lt_size h2)).trans h4, h5, h6, h7⟩
  · obtain ⟨h1, h2, ov, h3, h4⟩ := x.ce y c h
    refine ⟨(ho _ h3.lt).trans h1, h2, ov, ?_, fun d q1 q2 => ?_⟩
    · obtain ⟨oc, e1, e2⟩ := h3
      exact ⟨oc, hk _ _ h2 e1, e2⟩
    · obtain ⟨v, e, r⟩ := h4 d q1 q2
      exact ⟨v, e, Rd.mono hl d v r⟩
theorem St.grow {K : Cx} {ρ : Rho} {ow : Own} {s s' : Shared} {g g' : View} (x : St K ρ ow s g) (hk : Kp s.heap s'.heap) (hv : VIn g' s'.heap) (hl : VLe g g')
    (ho : ∀ a, a < s.heap.objs.size → g' a = g a) (hos : s'.os = s.os) (hg : K.Gn s'.gens) : St K ρ ow s' g' :=
  x.growL (fun b o _ e => hk b o e) (fun _ hn => hn.keeps hk) hv hl ho hos hg
theorem St.same {K : Cx} {ρ : Rho} {ow : Own} {s s' : Shared} {g : View} (x : St K ρ ow s g) (hk : Kp s.heap s'.heap) (hos : s'.os = s.os) (hg : K.Gn s'.gens) : St K ρ ow s' g :=
  x.grow hk (fun a o e => hk a o (x.vin a o e)) (VLe.refl g) (fun _ _ => rfl) hos hg
theorem St.toks {K : Cx} {ρ : Rho} {ow : Own} {s : Shared} {g : View} (x : St K ρ ow s g) (t : Nat) : St K ρ ow { s with toks := t } g :=
  x.same (fun _ _ e => e) rfl x.bare
/-- a new thing that nobody changes -/
def vput (g : View) (a : Addr) (o : Obj) : View := fun b => if b = a then some o else g b
theorem vput_at (g : View) (a : Addr) (o : Obj) : vput g a o a = some o := by simp [vput]
theorem vput_ne {g : View} {a b : Addr} {o : Obj} (h : b ≠ a) : vput g a o b = g b := by simp [vput, h]
theorem VLe.put {g : View} {a : Addr} {o : Obj} (h : g a = none) : VLe g (vput g a o) := fun b o' e => by
  unfold vput
  by_cases q : b = a
  · subst q; rw [h] at e; cases e
  · rw [if_neg q]; exact e
theorem VIn.none {g : View} {h : Heap} (x : VIn g h) {a : Addr} (ha : h.objs.size ≤ a) : g a = Option.none := by
  cases e : g a with
  | none => rfl
  | some o => exact absurd (Heap.lt_size (x _ _ e)) (Nat.not_lt.mpr ha)
theorem VIn.put {g : View} {h : Heap} {a : Addr} {o : Obj} (x : VIn g h) (ho : h.get? a = some o) : VIn (vput g a o) h := fun b o' e => by
  unfold vput at e
  by_cases q : b = a
  · subst q; rw [if_pos rfl] at e; cases e; exact ho
  · rw [if_neg q] at e; exact x _ _ e
/-- .. read back at its place -/
theorem St.frz {K : Cx} {ρ : Rho} {ow : Own} {s s' : Shared} {g : View} (x : St K ρ ow s g) (hk : Kp s.heap s'.heap) {a : Addr} {o : Obj} (ha : s.heap.objs.size ≤ a) (ho : s'.heap.get? a = some o) (hos : s'.os = s.os) (hg : K.Gn s'.gens) :
    St K ρ ow s' (vput g a o) ∧ VLe g (vput g a o) :=
  ⟨x.grow hk (VIn.put (fun b o e => hk b o (x.vin b o e)) ho) (VLe.put (x.vin.none ha)) (fun b hb => vput_ne (Nat.ne_of_lt (Nat.lt_of_lt_of_le hb ha))) hos hg, VLe.put (x.vin.none ha)⟩
theorem St.push {K : Cx} {ρ : Rho} {ow : Own} {s : Shared} {g : View} (x : St K ρ ow s g) (o : Obj) (hf : o.isFreed = false) : St K ρ ow { s with heap := s.heap.push o } (vput g s.heap.objs.size o) ∧ VLe g (vput g s.heap.objs.size o) :=
  x.frz (s' := { s with heap := s.heap.push o }) (fun _ _ e => Heap.get?_push_of_some _ e) (Nat.le_refl _) (Heap.get?_push_size _ hf) rfl x.bare
/-- into the library's frame and ledger, and back -/
def newsOf (h : Heap) (L : Addr) : List (Addr × Obj) := (List.range h.objs.size).filterMap fun a => if a = L then none else (h.get? a).map fun o => (a, o)
theorem newsOf_mem {h : Heap} {L : Addr} {p : Addr × Obj} : p ∈ newsOf h L ↔ p.1 ≠ L ∧ h.get? p.1 = some p.2 := by
  unfold newsOf
  rw [List.mem_filterMap]
  constructor
  · rintro ⟨a, _, e⟩
    by_cases q : a = L
    · rw [if_pos q] at e; cases e
    · rw [if_neg q] at e
      cases hg : h.get? a with
      | none => rw [hg] at e; cases e
      | some o => rw [hg] at e; cases e; exact ⟨q, hg⟩
  · rintro ⟨h1, h2⟩
    exact ⟨p.1, List.mem_range.mpr (Heap.lt_size h2), by rw [if_neg h1, h2]; rfl⟩
abbrev H0 : Heap := {}
theorem H0_get (b : Addr) : H0.get? b = none := by simp [Heap.get?]
theorem Ns.uniq {h : Heap} {L : Addr} {m m' : Str → Option Value} (x : h.Ns L m) (y : h.Ns L m') : m = m' := by
  obtain ⟨o, es, ep, h1, h2, _, h4⟩ := x
  obtain ⟨o', es', ep', k1, k2, _, k4⟩ := y
  rw [h1] at k1; cases k1
  rw [h2] at k2; cases k2
  funext z
  rw [← h4, ← k4]
theorem St.toFr {K : Cx} {ρ : Rho} {ow : Own} {s : Shared} {g : View} (x : St K ρ ow s g) : ∃ m, Fr H0 K.L s.heap m ∧ News H0 K.L s.heap (newsOf s.heap K.L) ∧
    ∀ h', Fr H0 K.L h' m → News H0 K.L h' (newsOf s.heap K.L) → (∀ b o, b ≠ K.L → s.heap.get? b = some o → h'.get? b = some o) ∧ ∀ m', s.heap.Ns K.L m' → h'.Ns K.L m' := by
  obtain ⟨m, hn, _, _⟩ := x.ns
  refine ⟨m, ⟨hn, fun b o e => (by rw [H0_get] at e; cases e), Nat.zero_le _⟩, fun p hp => ⟨(newsOf_mem.mp hp).2, (newsOf_mem.mp hp).1, H0_get _⟩, fun h' F N => ⟨fun b o hb e => (N (b, o) (newsOf_mem.mpr ⟨hb, e⟩)).1, fun m' e => ?_⟩⟩
  rw [Ns.uniq e hn]; exact F.ns
theorem St.sameL {K : Cx} {ρ : Rho} {ow : Own} {s s' : Shared} {g : View} (x : St K ρ ow s g) (hk : ∀ b o, b ≠ K.L → s.heap.get? b = some o → s'.heap.get? b = some o) (hL : ∀ m, s.heap.Ns K.L m → s'.heap.Ns K.L m)
    (hos : s'.os = s.os) (hg : K.Gn s'.gens) : St K ρ ow s' g :=
  x.growL hk hL (fun a o e => hk a o (fun q => by rw [q, x.gL] at e; cases e) (x.vin a o e)) (VLe.refl g) (fun _ _ => rfl) hos hg
theorem St.frzL {K : Cx} {ρ : Rho} {ow : Own} {s s' : Shared} {g : View} (x : St K ρ ow s g) (hk : ∀ b o, b ≠ K.L → s.heap.get? b = some o → s'.heap.get? b = some o) (hL : ∀ m, s.heap.Ns K.L m → s'.heap.Ns K.L m)
    {a : Addr} {o : Obj} (ha : s.heap.objs.size ≤ a) (ho : s'.heap.get? a = some o) (hos : s'.os = s.os) (hg : K.Gn s'.gens) : St K ρ ow s' (vput g a o) ∧ VLe g (vput g a o) :=
  ⟨x.growL hk hL (VIn.put (fun b o e => hk b o (fun q => by rw [q, x.gL] at e; cases e) (x.vin b o e)) ho) (VLe.put (x.vin.none ha)) (fun b hb => vput_ne (Nat.ne_of_lt (Nat.lt_of_lt_of_le hb ha))) hos hg, VLe.put (x.vin.none ha)⟩
/-- the judgements -/
def EX (G : Gd) (n : Nat) (S : Scope) (ρ : Rho) (ow : Own) (e : Expr) (d : D) : Prop :=
  ∀ (K : Cx), K.S = S → Room K.A n → K.On G → ∀ (s : Shared) (g : View) (Q : Value → Shared → Prop) (E : Value → Shared → Prop), St K ρ ow s g →
    (∀ v s' g', St K ρ ow s' g' → VLe g g' → Rd g' d v → Q v s') → wpAny (model G.prog K.w) K.A (eval e K.env) Q E s
def TX (G : Gd) (n : Nat) (S : Scope) (ρ : Rho) (ow : Own) (e : Expr) (b : Bool) : Prop :=
  ∀ (K : Cx), K.S = S → Room K.A n → K.On G → ∀ (s : Shared) (g : View) (Q : Bool → Shared → Prop) (E : Value → Shared → Prop), St K ρ ow s g →
    (∀ s' g', St K ρ ow s' g' → VLe g g' → Q b s') → wpAny (model G.prog K.w) K.A (isTrue e K.env (eval e K.env)) Q E s
/-- arguments, items of a display -/
def AX (G : Gd) (n : Nat) (S : Scope) (ρ : Rho) (ow : Own) (es : List Expr) (ds : List D) : Prop :=
  ∀ (K : Cx), K.S = S → Room K.A n → K.On G → ∀ (pos : Pos) (s : Shared) (g : View) (Q : List Value → Shared → Prop) (E : Value → Shared → Prop), St K ρ ow s g →
    (∀ vs s' g', St K ρ ow s' g' → VLe g g' → RdL g' ds vs → Q vs s') → wpAny (model G.prog K.w) K.A (spliced (backTo pos (starEach es K.env))) Q E s
inductive Fl where
  | next | brk | cont
  | ret (d : D)
def FlRd (g : View) : Fl → Flow → Prop
  | .next, f => f = .next
  | .brk, f => f = .brk
  | .cont, f => f = .cont
  | .ret d, f => ∃ v, f = .ret v ∧ Rd g d v
theorem FlRd.mono {g g' : View} (h : VLe g g') : ∀ {fl : Fl} {f : Flow}, FlRd g fl f → FlRd g' fl f
  | .next, _, x => x
  | .brk, _, x => x
  | .cont, _, x => x
  | .ret d, _, ⟨v, e, r⟩ => ⟨v, e, Rd.mono h d v r⟩
abbrev Pst := Fl → Rho → Own → Prop
def Cx.Ce (K : Cx) : Prop := (∀ x c, K.cl.lookup x = some c → K.lk c = none ∧ K.nb ≤ c) ∧ K.cl.Pairwise fun x y => x.2 ≠ y.2
def SX (G : Gd) (n : Nat) (S : Scope) (ρ : Rho) (ow : Own) (b : List Stmt) (P : Pst) : Prop :=
  ∀ (K : Cx), K.S = S → Room K.A n → K.On G → K.Ce → ∀ (s : Shared) (g : View) (Q : Flow → Shared → Prop) (E : Value → Shared → Prop), St K ρ ow s g →
    (∀ f fl ρ' ow' s' g', P fl ρ' ow' → St K ρ' ow' s' g' → VLe g g' → FlRd g' fl f → Q f s') → wpAny (model G.prog K.w) K.A (execs b K.env) Q E s
def S1 (G : Gd) (n : Nat) (S : Scope) (ρ : Rho) (ow : Own) (b : Stmt) (P : Pst) : Prop :=
  ∀ (K : Cx), K.S = S → Room K.A n → K.On G → K.Ce → ∀ (s : Shared) (g : View) (Q : Flow → Shared → Prop) (E : Value → Shared → Prop), St K ρ ow s g →
    (∀ f fl ρ' ow' s' g', P fl ρ' ow' → St K ρ' ow' s' g' → VLe g g' → FlRd g' fl f → Q f s') → wpAny (model G.prog K.w) K.A (exec b K.env) Q E s
/-- a def of the text's: what it gives for these arguments -/
def Fn (G : Gd) (n : Nat) (fa : Addr) (ds : List D) (r : D) : Prop :=
  ∀ (w : World) (A : Around) (s : Shared) (g : View) (vs : List Value) (Q : Value → Shared → Prop) (E : Value → Shared → Prop), Room A n → G.Std w s.heap → VIn g s.heap → AllBare s.gens → RdL g ds vs →
    (∀ v s' g', Kp s.heap s'.heap → VIn g' s'.heap → VLe g g' → (∀ a, a < s.heap.objs.size → g' a = g a) → s'.os = s.os → GKp s.gens s'.gens → Rd g' r v → Q v s') →
    wpAny (model G.prog w) A (call (.ref fa) vs) Q E s
end Mine
namespace Mine
section
variable {G : Gd} {n : Nat} {S : Scope} {ρ : Rho} {ow : Own}
/-! names and constants -/
theorem EX.int {i : Int} {k : Nat} {pos : Pos} : EX G n S ρ ow (.Constant (.int i) k pos) (.int i) :=
  fun _ _ _ _ _ _ _ _ x q => wpAny_Constant_int (q _ _ _ (x.toks _) (VLe.refl _) (Rd.mkInt _ _))
theorem EX.flt {i : UInt64} {k : Nat} {pos : Pos} : EX G n S ρ ow (.Constant (.float i) k pos) (.flt i) :=
  fun _ _ _ _ _ _ _ _ x q => wpAny_Constant_float (q _ _ _ (x.toks _) (VLe.refl _) (Rd.mkFlt _ _))
theorem EX.str {i : Str} {k : Nat} {pos : Pos} : EX G n S ρ ow (.Constant (.str i) k pos) (.str i) :=
  fun _ _ _ _ _ _ _ _ x q => wpAny_Constant_str (q _ _ _ (x.toks _) (VLe.refl _) (Rd.mkStr _ _))
theorem EX.noneC {k : Nat} {pos : Pos} : EX G n S ρ ow (.Constant .none k pos) .none :=
  fun _ _ _ _ _ _ _ _ x q => wpAny_Constant_none (q _ _ _ x (VLe.refl _) Rd.mkNone)
theorem EX.loc {x : Str} {pos : Pos} {d : D} (hρ : ρ x = some d) (hl : S.names.lookup x = some .local) (hk : S.kind = .function) (hd : (x == ("__debug__" : Str)) = false) : EX G n S ρ ow (.Name x pos) d := by
  rintro K rfl R Y s g Q E T q
  obtain ⟨m, hn, hm, _⟩ := T.ns
  obtain ⟨v, e, r⟩ := hm x d hl hρ
  exact wpAny_Name (wpAny_loadName_local (env := K.env) hk hl hn e (q _ _ _ T (VLe.refl _) r)) hd
theorem EX.cell {x : Str} {pos : Pos} {d : D} (hρ : ρ x = some d) (hl : S.names.lookup x = some .cell) (hk : S.kind = .function) (hd : (x == ("__debug__" : Str)) = false) : EX G n S ρ ow (.Name x pos) d := by
  rintro K rfl R Y s g Q E T q
  obtain ⟨c, ec⟩ := Option.isSome_iff_exists.mp (T.cx x hl)
  obtain ⟨_, _, ov, h3, h4⟩ := T.ce x c ec
  obtain ⟨v, rfl, r⟩ := h4 d hl hρ
  exact wpAny_Name (wpAny_loadName_cell (env := K.env) hk hl ec h3 (q _ _ _ T (VLe.refl _) r)) hd
/-- a module's own name that holds plain data -/
theorem EX.glob {x : Str} {pos : Pos} {d : D} (hf : ∀ P : Params, ∃ v, nsIn (G.KF P) mainGlobals x = some (some v) ∧ Rd (fun _ => none) d v) (hl : S.names.lookup x = some .globalImplicit) (hk : S.kind = .function) (hd : (x == ("__debug__" : Str)) = false) : EX G n S ρ ow (.Name x pos) d := by
  rintro K rfl R Y s g Q E T q
  obtain ⟨⟨mg, mb, t⟩, Y⟩ := T.std Y
  obtain ⟨v, e, r⟩ := hf K.w.params
  exact Name_function_global (env := K.env) hk hl (loadGlobal_global (env := K.env) t.g (mg_of Y t.g e) (q _ _ _ T (VLe.refl _) (Rd.mono (fun _ _ e => by cases e) _ _ r))) hd
/-- .. and what is no plain data -/
def NX (G : Gd) (S : Scope) (x : Str) (v : Value) : Prop := ∀ (K : Cx), K.S = S → K.On G → ∀ (pos : Pos) (s : Shared) (g : View) (ρ : Rho) (ow : Own) (Q : Value → Shared → Prop) (E : Value → Shared → Prop), St K ρ ow s g → Q v s → wpAny (model G.prog K.w) K.A (eval (.Name x pos) K.env) Q E s
theorem NX.glob {x : Str} {v : Value} (hf : ∀ P : Params, nsIn (G.KF P) mainGlobals x = some (some v)) (hl : S.names.lookup x = some .globalImplicit) (hk : S.kind = .function) (hd : (x == ("__debug__" : Str)) = false) : NX G S x v := by
  rintro K rfl Y pos s g ρ ow Q E T q
  obtain ⟨⟨mg, mb, t⟩, Y⟩ := T.std Y
  exact Name_function_global (env := K.env) hk hl (loadGlobal_global (env := K.env) t.g (mg_of Y t.g (hf _)) q) hd
theorem NX.blt {x : Str} {v : Value} (hf : ∀ P : Params, nsIn (G.KF P) mainGlobals x = some none) (hv : bootBuiltins x = some v) (hn : x ≠ "__name__") (hl : S.names.lookup x = some .globalImplicit) (hk : S.kind = .function) (hd : (x == ("__debug__" : Str)) = false) : NX G S x v := by
  rintro K rfl Y pos s g ρ ow Q E T q
  obtain ⟨⟨mg, mb, t⟩, Y⟩ := T.std Y
  exact Name_function_global (env := K.env) hk hl (loadGlobal_builtin (env := K.env) t.g (mg_none_of Y t.g (hf _)) t.b ((t.builtins x hn).trans hv) q) hd
/-! sums of parts -/
theorem EX.bin {l r : Expr} {op : Operator} {pos : Pos} {a b c : D} (hl : EX G n S ρ ow l a) (hr : EX G n S ρ ow r b)
    (ho : ∀ (K : Cx), Room K.A n → ∀ (s : Shared) (g : View) (Q : Value → Shared → Prop) (E : Value → Shared → Prop) (v u : Value), St K ρ ow s g → Rd g a v → Rd g b u →
      (∀ v s' g', St K ρ ow s' g' → VLe g g' → Rd g' c v → Q v s') → wpAny (model G.prog K.w) K.A (binaryOp op v u) Q E s) : EX G n S ρ ow (.BinOp l op r pos) c := by
  rintro K rfl R Y s g Q E T q
  exact wpAny_BinOp (hl K rfl R Y _ _ _ _ T fun v s1 g1 T1 l1 r1 => hr K rfl R Y _ _ _ _ T1 fun u s2 g2 T2 l2 r2 => ho K R _ _ _ _ _ _ T2 (Rd.mono l2 _ _ r1) r2 fun v' s3 g3 T3 l3 r3 => q _ _ _ T3 ((l1.trans l2).trans l3) r3)
variable {l r : Expr} {pos : Pos}
theorem EX.addI {a b : Int} (hl : EX G n S ρ ow l (.int a)) (hr : EX G n S ρ ow r (.int b)) : EX G n S ρ ow (.BinOp l .Add r pos) (.int (a + b)) :=
  hl.bin hr fun K _ s g Q E v u T r1 r2 q => by
    obtain ⟨_, rfl⟩ := Rd.int_iff.mp r1
    obtain ⟨_, rfl⟩ := Rd.int_iff.mp r2
    exact add_int (q _ _ _ (T.toks _) (VLe.refl _) (Rd.mkInt _ _))
theorem EX.subI {a b : Int} (hl : EX G n S ρ ow l (.int a)) (hr : EX G n S ρ ow r (.int b)) : EX G n S ρ ow (.BinOp l .Sub r pos) (.int (a - b)) :=
  hl.bin hr fun K _ s g Q E v u T r1 r2 q => by
    obtain ⟨_, rfl⟩ := Rd.int_iff.mp r1
    obtain ⟨_, rfl⟩ := Rd.int_iff.mp r2
    exact sub_int (q _ _ _ (T.toks _) (VLe.refl _) (Rd.mkInt _ _))
theorem EX.mulI {a b : Int} (hl : EX G n S ρ ow l (.int a)) (hr : EX G n S ρ ow r (.int b)) (hm : IntMulOk a b) : EX G n S ρ ow (.BinOp l .Mult r pos) (.int (a * b)) :=
  hl.bin hr fun K _ s g Q E v u T r1 r2 q => by
    obtain ⟨_, rfl⟩ := Rd.int_iff.mp r1
    obtain ⟨_, rfl⟩ := Rd.int_iff.mp r2
    exact PyProof.Rows.mul_int (q _ _ _ (T.toks _) (VLe.refl _) (Rd.mkInt _ _)) hm
theorem EX.modI {a b : Int} (hl : EX G n S ρ ow l (.int a)) (hr : EX G n S ρ ow r (.int b)) (hb : b ≠ 0) : EX G n S ρ ow (.BinOp l .Mod r pos) (.int (a.fmod b)) :=
  hl.bin hr fun K _ s g Q E v u T r1 r2 q => by
    obtain ⟨_, rfl⟩ := Rd.int_iff.mp r1
    obtain ⟨_, rfl⟩ := Rd.int_iff.mp r2
    exact mod_int' hb (q _ _ _ (T.toks _) (VLe.refl _) (Rd.mkInt _ _))
theorem EX.addF {a b : UInt64} (hl : EX G n S ρ ow l (.flt a)) (hr : EX G n S ρ ow r (.flt b)) : EX G n S ρ ow (.BinOp l .Add r pos) (.flt (Float64.add a b)) :=
  hl.bin hr fun K _ s g Q E v u T r1 r2 q => by
    obtain ⟨_, rfl⟩ := Rd.flt_iff.mp r1
    obtain ⟨_, rfl⟩ := Rd.flt_iff.mp r2
    exact add_float (q _ _ _ (T.toks _) (VLe.refl _) (Rd.mkFlt _ _))
theorem EX.subF {a b : UInt64} (hl : EX G n S ρ ow l (.flt a)) (hr : EX G n S ρ ow r (.flt b)) : EX G n S ρ ow (.BinOp l .Sub r pos) (.flt (Float64.sub a b)) :=
  hl.bin hr fun K _ s g Q E v u T r1 r2 q => by
    obtain ⟨_, rfl⟩ := Rd.flt_iff.mp r1
    obtain ⟨_, rfl⟩ := Rd.flt_iff.mp r2
    exact sub_float (q _ _ _ (T.toks _) (VLe.refl _) (Rd.mkFlt _ _))
theorem EX.mulF {a b : UInt64} (hl : EX G n S ρ ow l (.flt a)) (hr : EX G n S ρ ow r (.flt b)) : EX G n S ρ ow (.BinOp l .Mult r pos) (.flt (Float64.mul a b)) :=
  hl.bin hr fun K _ s g Q E v u T r1 r2 q => by
    obtain ⟨_, rfl⟩ := Rd.flt_iff.mp r1
    obtain ⟨_, rfl⟩ := Rd.flt_iff.mp r2
    exact mul_float (q _ _ _ (T.toks _) (VLe.refl _) (Rd.mkFlt _ _))
theorem EX.divF {a b : UInt64} (hl : EX G n S ρ ow l (.flt a)) (hr : EX G n S ρ ow r (.flt b)) (hz : Float64.isZero b = false) : EX G n S ρ ow (.BinOp l .Div r pos) (.flt (Float64.div a b)) :=
  hl.bin hr fun K R s g Q E v u T r1 r2 q => by
    obtain ⟨_, rfl⟩ := Rd.flt_iff.mp r1
    obtain ⟨_, rfl⟩ := Rd.flt_iff.mp r2
    exact truediv_float_or R.handled (fun h => by rw [hz] at h; cases h) fun _ => q _ _ _ (T.toks _) (VLe.refl _) (Rd.mkFlt _ _)
theorem EX.modF {a b : UInt64} (hl : EX G n S ρ ow l (.flt a)) (hr : EX G n S ρ ow r (.flt b)) (hz : Float64.isZero b = false) : EX G n S ρ ow (.BinOp l .Mod r pos) (.flt (Float64.divmod a b).2) :=
  hl.bin hr fun K R s g Q E v u T r1 r2 q => by
    obtain ⟨_, rfl⟩ := Rd.flt_iff.mp r1
    obtain ⟨_, rfl⟩ := Rd.flt_iff.mp r2
    exact AutoFloatOps.mod_1 (by rw [hz]; exact Bool.false_ne_true) (q _ _ _ (T.toks _) (VLe.refl _) (Rd.mkFlt _ _))
theorem EX.divIF {a : Int} {b : UInt64} (hl : EX G n S ρ ow l (.int a)) (hr : EX G n S ρ ow r (.flt b)) (hi : Float64.isInf (Float64.ofInt a) = false) (hz : Float64.isZero b = false) : EX G n S ρ ow (.BinOp l .Div r pos) (.flt (Float64.div (Float64.ofInt a) b)) :=
  hl.bin hr fun K R s g Q E v u T r1 r2 q => by
    obtain ⟨_, rfl⟩ := Rd.int_iff.mp r1
    obtain ⟨_, rfl⟩ := Rd.flt_iff.mp r2
    exact AutoFloatOps.truediv_if_2 (by rw [hi]; exact Bool.false_ne_true) (by rw [hz]; exact Bool.false_ne_true) (q _ _ _ (T.toks _) (VLe.refl _) (Rd.mkFlt _ _))
theorem EX.mulIF {a : Int} {b : UInt64} (hl : EX G n S ρ ow l (.int a)) (hr : EX G n S ρ ow r (.flt b)) (hi : a.natAbs < 2 ^ 1023) : EX G n S ρ ow (.BinOp l .Mult r pos) (.flt (Float64.mul (Float64.ofInt a) b)) :=
  hl.bin hr fun K R s g Q E v u T r1 r2 q => by
    obtain ⟨_, rfl⟩ := Rd.int_iff.mp r1
    obtain ⟨_, rfl⟩ := Rd.flt_iff.mp r2
    exact mul_if_fits hi (q _ _ _ (T.toks _) (VLe.refl _) (Rd.mkFlt _ _))
theorem EX.mulFI {a : Int} {b : UInt64} (hl : EX G n S ρ ow l (.flt b)) (hr : EX G n S ρ ow r (.int a)) (hi : a.natAbs < 2 ^ 1023) : EX G n S ρ ow (.BinOp l .Mult r pos) (.flt (Float64.mul b (Float64.ofInt a))) :=
  hl.bin hr fun K R s g Q E v u T r1 r2 q => by
    obtain ⟨_, rfl⟩ := Rd.flt_iff.mp r1
    obtain ⟨_, rfl⟩ := Rd.int_iff.mp r2
    exact mul_fi_fits hi (q _ _ _ (T.toks _) (VLe.refl _) (Rd.mkFlt _ _))
theorem EX.addS {a b : Str} (hl : EX G n S ρ ow l (.str a)) (hr : EX G n S ρ ow r (.str b)) (hz : a.length + b.length ≤ sizeLine) : EX G n S ρ ow (.BinOp l .Add r pos) (.str (a ++ b)) :=
  hl.bin hr fun K R s g Q E v u T r1 r2 q => by
    obtain ⟨_, rfl⟩ := Rd.str_iff.mp r1
    obtain ⟨_, rfl⟩ := Rd.str_iff.mp r2
    exact SBL.add (fun t' k _ => q _ _ _ (T.toks _) (VLe.refl _) (Rd.mkStr _ _)) hz
theorem EX.mulS {a : Str} {b : Int} (hl : EX G n S ρ ow l (.str a)) (hr : EX G n S ρ ow r (.int b)) (hz : MulOk a b) : EX G n S ρ ow (.BinOp l .Mult r pos) (.str (Txt.mul a b)) :=
  hl.bin hr fun K R s g Q E v u T r1 r2 q => by
    obtain ⟨_, rfl⟩ := Rd.str_iff.mp r1
    obtain ⟨_, rfl⟩ := Rd.int_iff.mp r2
    exact SB.mul hz fun t' k => q _ _ _ (T.toks _) (VLe.refl _) (Rd.mkStr _ _)
theorem isList_of {h : Heap} {a : Addr} {vs : List Value} {n : Nat} (e : h.get? a = some (lstO vs n)) : h.IsList a vs.toArray := ⟨_, e, rfl, n, rfl⟩
theorem isTup_of {h : Heap} {a : Addr} {vs : List Value} {n : Nat} (e : h.get? a = some (tupO vs n)) : IsTup h a vs.toArray := ⟨_, e, rfl, n, rfl⟩
theorem isTuple_of {h : Heap} {a : Addr} {vs : List Value} {n : Nat} (e : h.get? a = some (tupO vs n)) : h.IsTuple a vs.toArray := ⟨_, e, rfl, n, rfl⟩
theorem EX.addL {a b : List D} (hl : EX G n S ρ ow l (.lst a)) (hr : EX G n S ρ ow r (.lst b)) (hz : a.length + b.length ≤ sizeLine) : EX G n S ρ ow (.BinOp l .Add r pos) (.lst (a ++ b)) :=
  hl.bin hr fun K R s g Q E v u T r1 r2 q => by
    obtain ⟨p, vs, k, rfl, e1, h1⟩ := Rd.lst_iff.mp r1
    obtain ⟨p', vs', k', rfl, e2, h2⟩ := Rd.lst_iff.mp r2
    obtain ⟨m, F, N, back⟩ := T.toFr
    refine add_arrays F N (isList_of (T.vin _ _ e1)) (isList_of (T.vin _ _ e2)) (fun h' F' N' => ?_) (by simp only [List.size_toArray]; rw [h1.length, h2.length]; exact hz)
    obtain ⟨kp, kL⟩ := back h' F' fun p hp => N' p (.tail _ hp)
    have ho : h'.get? s.heap.objs.size = some (lstO (vs ++ vs') 0) := by simpa using (N' _ (.head _)).1
    obtain ⟨T', le⟩ := T.frzL (s' := { s with heap := h' }) kp kL (Nat.le_refl _) ho rfl T.bare
    exact q _ _ _ T' le (Rd.mkLst (vput_at ..) (RdL.append (RdL.mono le _ _ h1) (RdL.mono le _ _ h2)))
end
end Mine
namespace Mine
section
variable {G : Gd} {n : Nat} {S : Scope} {ρ : Rho} {ow : Own}
/-! arguments and displays -/
theorem AX.nil : AX G n S ρ ow [] [] := fun K _ _ _ pos s g Q E T q => spliced_none (q _ _ _ T (VLe.refl _) .nil)
theorem AX.cons {e : Expr} {es : List Expr} {d : D} {ds : List D} (h : EX G n S ρ ow e d) (hs : AX G n S ρ ow es ds) (he : ∀ env, starEach (e :: es) env = (false, eval e env) :: starEach es env := by intro _; rfl) : AX G n S ρ ow (e :: es) (d :: ds) := by
  rintro K rfl R Y pos s g Q E T q
  refine spliced_more ?_ (he _)
  exact h K rfl R Y _ _ _ _ T fun v s1 g1 T1 l1 r1 => hs K rfl R Y _ _ _ _ _ T1 fun vs s2 g2 T2 l2 r2 => q _ _ _ T2 (l1.trans l2) (.cons (Rd.mono l2 _ _ r1) r2)
theorem EX.tuple {es : List Expr} {k : Nat} {pos : Pos} {ds : List D} (h : AX G n S ρ ow es ds) (hz : ds.length ≤ sizeLine) : EX G n S ρ ow (.Tuple es k pos) (.tup ds) := by
  rintro K rfl R Y s g Q E T q
  refine PySem.wpAny_Tuple (h K rfl R Y _ _ _ _ _ T fun vs s1 g1 T1 l1 r1 => ⟨by rw [r1.length]; exact hz, ?_⟩)
  obtain ⟨T2, l2⟩ := T1.push (tupO vs 0) rfl
  exact q _ _ _ T2 (l1.trans l2) (Rd.mkTup (vput_at ..) (RdL.mono l2 _ _ r1))
theorem EX.list {es : List Expr} {pos : Pos} {ds : List D} (h : AX G n S ρ ow es ds) (hz : ds.length ≤ sizeLine) : EX G n S ρ ow (.List es pos) (.lst ds) := by
  rintro K rfl R Y s g Q E T q
  refine PySem.wpAny_List (h K rfl R Y _ _ _ _ _ T fun vs s1 g1 T1 l1 r1 => ⟨by rw [r1.length]; exact hz, ?_⟩)
  obtain ⟨T2, l2⟩ := T1.push (lstO vs 0) rfl
  exact q _ _ _ T2 (l1.trans l2) (Rd.mkLst (vput_at ..) (RdL.mono l2 _ _ r1))
/-! calls -/
def OP (G : Gd) (n : Nat) (f : Value) (ds : List D) (d : D) : Prop :=
  ∀ (K : Cx), Room K.A n → K.On G → ∀ (ρ : Rho) (ow : Own) (s : Shared) (g : View) (vs : List Value) (Q : Value → Shared → Prop) (E : Value → Shared → Prop), St K ρ ow s g → RdL g ds vs →
    (∀ v s' g', St K ρ ow s' g' → VLe g g' → Rd g' d v → Q v s') → wpAny (model G.prog K.w) K.A (call f vs) Q E s
theorem EX.callB {x : Str} {np pos : Pos} {id : String} {e : Expr} {es : List Expr} {ds : List D} {d : D} (hx : NX G S x (.builtin id)) (ha : AX G n S ρ ow (e :: es) ds) (ho : OP G n (.builtin id) ds d)
    (he : ∀ env, starEach (e :: es) env = (false, eval e env) :: starEach es env := by intro _; rfl) (hp : ∀ env, (backTo pos (starEach es env)).any (·.1) = false := by intro _; rfl) : EX G n S ρ ow (.Call (.Name x np) (e :: es) [] pos) d := by
  rintro K rfl R Y s g Q E T q
  refine wpAny_Call_NameR (hx K rfl Y _ _ _ _ _ _ _ T ?_)
  rw [he]
  refine callWith_builtin (by show (false || (backTo pos (starEach es K.env)).any (·.1)) = false; rw [hp]; rfl) (evalArgs_plain ?_)
  have hb := ha K rfl R Y pos s g (fun vs s' => wpAny (model G.prog K.w) K.A (call (.builtin id) ([] ++ vs)) Q E s') E T fun vs s1 g1 T1 l1 r1 => ho K R Y _ _ _ _ _ _ _ T1 r1 fun v s2 g2 T2 l2 r2 => q _ _ _ T2 (l1.trans l2) r2
  rw [he] at hb
  exact hb
theorem EX.callT {x : Str} {np pos : Pos} {id : String} {e : Expr} {es : List Expr} {ds : List D} {d : D} (hx : NX G S x (.type id)) (ha : AX G n S ρ ow (e :: es) ds) (ho : OP G n (.type id) ds d)
    (he : ∀ env, starEach (e :: es) env = (false, eval e env) :: starEach es env := by intro _; rfl) (hp : ∀ env, (backTo pos (starEach es env)).any (·.1) = false := by intro _; rfl) : EX G n S ρ ow (.Call (.Name x np) (e :: es) [] pos) d := by
  rintro K rfl R Y s g Q E T q
  refine wpAny_Call_NameR (hx K rfl Y _ _ _ _ _ _ _ T ?_)
  exact Pv.callWith_type1 (ha K rfl R Y pos s g _ E T fun vs s1 g1 T1 l1 r1 => ho K R Y _ _ _ _ _ _ _ T1 r1 fun v s2 g2 T2 l2 r2 => q _ _ _ T2 (l1.trans l2) r2) (he _) (hp _)
theorem EX.callF {x : Str} {np pos : Pos} {fa : Addr} {e : Expr} {es : List Expr} {ds : List D} {d : D} (hx : NX G S x (.ref fa)) (hk : ∀ P : Params, keepIn (G.KF P) (.ref fa) = true) (ha : AX G n S ρ ow (e :: es) ds) (ho : Fn G n fa ds d)
    (he : ∀ env, starEach (e :: es) env = (false, eval e env) :: starEach es env := by intro _; rfl) (hp : ∀ env, (backTo pos (starEach es env)).any (·.1) = false := by intro _; rfl) : EX G n S ρ ow (.Call (.Name x np) (e :: es) [] pos) d := by
  rintro K rfl R Y s g Q E T q
  refine wpAny_Call_NameR (hx K rfl Y _ _ _ _ _ _ _ T ?_)
  refine callWith_K (T.std Y).2 (hk _) (ha K rfl R Y pos s g _ E T fun vs s1 g1 T1 l1 r1 => ⟨(T1.std Y).2, ?_⟩) (he _) (hp _)
  refine ho K.w K.A s1 g1 vs Q E R (T1.std Y) T1.vin T1.bare.1 r1 fun v s' g' h1 h2 h3 h4 h5 h6 h7 => q _ _ _ (T1.grow h1 h2 h3 h4 h5 ⟨h6.1, fun i y e => h6.2 i y (T1.bare.2 i y e)⟩) (l1.trans h3) h7
/-! tests -/
theorem TX.cmp {l r : Expr} {op : CmpOp} {pos : Pos} {a b : D} {c : Bool} (hl : EX G n S ρ ow l a) (hr : EX G n S ρ ow r b)
    (ho : ∀ (K : Cx), Room K.A n → ∀ (s : Shared) (g : View) (Q : Value → Shared → Prop) (E : Value → Shared → Prop) (v u : Value), St K ρ ow s g → Rd g a v → Rd g b u →
      (∀ s' g', St K ρ ow s' g' → VLe g g' → Q (.bool c) s') → wpAny (model G.prog K.w) K.A (compareOp op v u) Q E s) (hm : behindInMarks op r = false := by rfl) : TX G n S ρ ow (.Compare l [op] [r] pos) c := by
  rintro K rfl R Y s g Q E T q
  exact wpAny_isTrue_Compare1 (hl K rfl R Y _ _ _ _ T fun v s1 g1 T1 l1 r1 => hr K rfl R Y _ _ _ _ T1 fun u s2 g2 T2 l2 r2 => ho K R _ _ _ _ _ _ T2 (Rd.mono l2 _ _ r1) r2 fun s3 g3 T3 l3 => wpAny_truthy_bool (q _ _ T3 ((l1.trans l2).trans l3))) hm
variable {l r : Expr} {pos : Pos}
theorem TX.ltI {a b : Int} (hl : EX G n S ρ ow l (.int a)) (hr : EX G n S ρ ow r (.int b)) (hm : behindInMarks .Lt r = false := by rfl) : TX G n S ρ ow (.Compare l [.Lt] [r] pos) (decide (a < b)) :=
  TX.cmp hl hr (fun K _ s g Q E v u T r1 r2 q => by
    obtain ⟨_, rfl⟩ := Rd.int_iff.mp r1
    obtain ⟨_, rfl⟩ := Rd.int_iff.mp r2
    exact lt_int (q _ _ T (VLe.refl _))) hm
theorem TX.leI {a b : Int} (hl : EX G n S ρ ow l (.int a)) (hr : EX G n S ρ ow r (.int b)) (hm : behindInMarks .LtE r = false := by rfl) : TX G n S ρ ow (.Compare l [.LtE] [r] pos) (decide (a ≤ b)) :=
  TX.cmp hl hr (fun K _ s g Q E v u T r1 r2 q => by
    obtain ⟨_, rfl⟩ := Rd.int_iff.mp r1
    obtain ⟨_, rfl⟩ := Rd.int_iff.mp r2
    exact PyProof.Rows.le_int (q _ _ T (VLe.refl _))) hm
theorem TX.gtI {a b : Int} (hl : EX G n S ρ ow l (.int a)) (hr : EX G n S ρ ow r (.int b)) (hm : behindInMarks .Gt r = false := by rfl) : TX G n S ρ ow (.Compare l [.Gt] [r] pos) (decide (b < a)) :=
  TX.cmp hl hr (fun K _ s g Q E v u T r1 r2 q => by
    obtain ⟨_, rfl⟩ := Rd.int_iff.mp r1
    obtain ⟨_, rfl⟩ := Rd.int_iff.mp r2
    exact gt_int (q _ _ T (VLe.refl _))) hm
theorem TX.eqI {a b : Int} (hl : EX G n S ρ ow l (.int a)) (hr : EX G n S ρ ow r (.int b)) (hm : behindInMarks .Eq r = false := by rfl) : TX G n S ρ ow (.Compare l [.Eq] [r] pos) (a == b) :=
  TX.cmp hl hr (fun K _ s g Q E v u T r1 r2 q => by
    obtain ⟨_, rfl⟩ := Rd.int_iff.mp r1
    obtain ⟨_, rfl⟩ := Rd.int_iff.mp r2
    exact eq_int (q _ _ T (VLe.refl _))) hm
theorem TX.neI {a b : Int} (hl : EX G n S ρ ow l (.int a)) (hr : EX G n S ρ ow r (.int b)) (hm : behindInMarks .NotEq r = false := by rfl) : TX G n S ρ ow (.Compare l [.NotEq] [r] pos) (a != b) :=
  TX.cmp hl hr (fun K _ s g Q E v u T r1 r2 q => by
    obtain ⟨_, rfl⟩ := Rd.int_iff.mp r1
    obtain ⟨_, rfl⟩ := Rd.int_iff.mp r2
    exact ne_int (q _ _ T (VLe.refl _))) hm
theorem TX.eqS {a b : Str} (hl : EX G n S ρ ow l (.str a)) (hr : EX G n S ρ ow r (.str b)) (hm : behindInMarks .Eq r = false := by rfl) : TX G n S ρ ow (.Compare l [.Eq] [r] pos) (a == b) :=
  TX.cmp hl hr (fun K _ s g Q E v u T r1 r2 q => by
    obtain ⟨_, rfl⟩ := Rd.str_iff.mp r1
    obtain ⟨_, rfl⟩ := Rd.str_iff.mp r2
    exact eq_str (q _ _ T (VLe.refl _))) hm
theorem TX.eqF {a b : UInt64} (hl : EX G n S ρ ow l (.flt a)) (hr : EX G n S ρ ow r (.flt b)) (hm : behindInMarks .Eq r = false := by rfl) : TX G n S ρ ow (.Compare l [.Eq] [r] pos) (Float64.cmp a b == some Ordering.eq) :=
  TX.cmp hl hr (fun K _ s g Q E v u T r1 r2 q => by
    obtain ⟨_, rfl⟩ := Rd.flt_iff.mp r1
    obtain ⟨_, rfl⟩ := Rd.flt_iff.mp r2
    exact AutoFloatOps.eq_0 (q _ _ T (VLe.refl _))) hm
theorem TX.leF {a b : UInt64} (hl : EX G n S ρ ow l (.flt a)) (hr : EX G n S ρ ow r (.flt b)) (hm : behindInMarks .LtE r = false := by rfl) : TX G n S ρ ow (.Compare l [.LtE] [r] pos) (Float64.cmp a b == some Ordering.lt || Float64.cmp a b == some Ordering.eq) :=
  TX.cmp hl hr (fun K _ s g Q E v u T r1 r2 q => by
    obtain ⟨_, rfl⟩ := Rd.flt_iff.mp r1
    obtain ⟨_, rfl⟩ := Rd.flt_iff.mp r2
    exact AutoFloatOps.le_0 (q _ _ T (VLe.refl _))) hm
theorem TX.ltF {a b : UInt64} (hl : EX G n S ρ ow l (.flt a)) (hr : EX G n S ρ ow r (.flt b)) (hm : behindInMarks .Lt r = false := by rfl) : TX G n S ρ ow (.Compare l [.Lt] [r] pos) (Float64.cmp a b == some Ordering.lt) :=
  TX.cmp hl hr (fun K _ s g Q E v u T r1 r2 q => by
    obtain ⟨_, rfl⟩ := Rd.flt_iff.mp r1
    obtain ⟨_, rfl⟩ := Rd.flt_iff.mp r2
    exact AutoFloatOps.lt_0 (q _ _ T (VLe.refl _))) hm
theorem TX.not {e : Expr} {b : Bool} (h : TX G n S ρ ow e b) : TX G n S ρ ow (.UnaryOp .Not e pos) (!b) := by
  rintro K rfl R Y s g Q E T q
  exact isTrue_not (h K rfl R Y _ _ _ _ T fun s1 g1 T1 l1 => q _ _ T1 l1)
/-- conjunctions and disjunctions of a written list of tests; what is not looked at need not be known -/
def CX (G : Gd) (n : Nat) (S : Scope) (ρ : Rho) (ow : Own) (op : BoolOp) (es : List Expr) (b : Bool) : Prop :=
  ∀ (K : Cx), K.S = S → Room K.A n → K.On G → ∀ (s : Shared) (g : View) (Q : Bool → Shared → Prop) (E : Value → Shared → Prop), St K ρ ow s g →
    (∀ s' g', St K ρ ow s' g' → VLe g g' → Q b s') → wpAny (model G.prog K.w) K.A (allTrue op es K.env) Q E s
theorem CX.andNil : CX G n S ρ ow .And [] true := fun K _ _ _ s g Q E T q => PySem.wpAny_allTrue_And_nil (q _ _ T (VLe.refl _))
theorem CX.orNil : CX G n S ρ ow .Or [] false := fun K _ _ _ s g Q E T q => PySem.wpAny_allTrue_Or_nil (q _ _ T (VLe.refl _))
theorem CX.and {e : Expr} {es : List Expr} {b c : Bool} (h : TX G n S ρ ow e b) (hs : b = true → CX G n S ρ ow .And es c) : CX G n S ρ ow .And (e :: es) (b && c) := by
  rintro K rfl R Y s g Q E T q
  refine wpAny_allTrue_And_cons (h K rfl R Y _ _ _ _ T fun s1 g1 T1 l1 => ?_)
  cases b with
  | true => rw [if_pos rfl]; exact hs rfl K rfl R Y _ _ _ _ T1 fun s2 g2 T2 l2 => q _ _ T2 (l1.trans l2)
  | false => rw [if_neg Bool.false_ne_true]; exact q _ _ T1 l1
theorem CX.or {e : Expr} {es : List Expr} {b c : Bool} (h : TX G n S ρ ow e b) (hs : b = false → CX G n S ρ ow .Or es c) : CX G n S ρ ow .Or (e :: es) (b || c) := by
  rintro K rfl R Y s g Q E T q
  refine PySem.wpAny_allTrue_Or_cons (h K rfl R Y _ _ _ _ T fun s1 g1 T1 l1 => ?_)
  cases b with
  | false => rw [if_neg Bool.false_ne_true]; exact hs rfl K rfl R Y _ _ _ _ T1 fun s2 g2 T2 l2 => q _ _ T2 (l1.trans l2)
  | true => rw [if_pos rfl]; exact q _ _ T1 l1
theorem TX.bool {op : BoolOp} {es : List Expr} {b : Bool} (h : CX G n S ρ ow op es b) : TX G n S ρ ow (.BoolOp op es pos) b := by
  rintro K rfl R Y s g Q E T q
  exact wpAny_isTrue_BoolOp (h K rfl R Y _ _ _ _ T q)
/-- a text's own truth -/
theorem TX.str {e : Expr} {x : Str} (h : EX G n S ρ ow e (.str x)) (hz : (x.length : Int) < 2 ^ 63) (hp : ∀ env whole, isTrue e env whole = (do let v ← whole; standAt e.pos; holding [v] (truthy v)) := by intro _ _; rfl) : TX G n S ρ ow e ((x.length : Int) != 0) := by
  rintro K rfl R Y s g Q E T q
  refine isTrue_plain (h K rfl R Y _ _ _ _ T fun v s1 g1 T1 l1 r1 => ?_) (hp _ _)
  obtain ⟨_, rfl⟩ := Rd.str_iff.mp r1
  exact PySem.P.truthy_str (by omega) (q _ _ (T1.toks _) l1)
theorem EX.ifx {t b e : Expr} {c : Bool} {d : D} (h : TX G n S ρ ow t c) (h1 : c = true → EX G n S ρ ow b d) (h2 : c = false → EX G n S ρ ow e d) : EX G n S ρ ow (.IfExp t b e pos) d := by
  rintro K rfl R Y s g Q E T q
  refine PySem.wpAny_IfExp (h K rfl R Y _ _ _ _ T fun s1 g1 T1 l1 => ?_)
  cases c with
  | true => rw [if_pos rfl]; exact h1 rfl K rfl R Y _ _ _ _ T1 fun v s2 g2 T2 l2 r2 => q _ _ _ T2 (l1.trans l2) r2
  | false => rw [if_neg Bool.false_ne_true]; exact h2 rfl K rfl R Y _ _ _ _ T1 fun v s2 g2 T2 l2 r2 => q _ _ _ T2 (l1.trans l2) r2
end
end Mine
namespace Mine
section
variable {G : Gd} {n : Nat} {S : Scope} {ρ : Rho} {ow : Own}
/-! items -/
theorem EX.sub {v i : Expr} {pos : Pos} {a b d : D} (hv : EX G n S ρ ow v a) (hi : EX G n S ρ ow i b)
    (ho : ∀ (K : Cx), Room K.A n → ∀ (s : Shared) (g : View) (Q : Value → Shared → Prop) (E : Value → Shared → Prop) (x y : Value), St K ρ ow s g → Rd g a x → Rd g b y →
      (∀ v s' g', St K ρ ow s' g' → VLe g g' → Rd g' d v → Q v s') → wpAny (model G.prog K.w) K.A (subscriptTail v i x y) Q E s) : EX G n S ρ ow (.Subscript v i pos) d := by
  rintro K rfl R Y s g Q E T q
  exact Subscript_ (hv K rfl R Y _ _ _ _ T fun x s1 g1 T1 l1 r1 => hi K rfl R Y _ _ _ _ T1 fun y s2 g2 T2 l2 r2 => ho K R _ _ _ _ _ _ T2 (Rd.mono l2 _ _ r1) r2 fun v' s3 g3 T3 l3 r3 => q _ _ _ T3 ((l1.trans l2).trans l3) r3)
theorem EX.itemL {v i : Expr} {pos : Pos} {ds : List D} {k : Int} {d : D} (hv : EX G n S ρ ow v (.lst ds)) (hi : EX G n S ρ ow i (.int k)) (h0 : 0 ≤ k) (h1 : k < 2 ^ 63) (hd : ds[k.toNat]? = some d)
    (hs : ∀ x y, subscripted i false x y = operate [x, y] (getItem x y) := by intro _ _; rfl) : EX G n S ρ ow (.Subscript v i pos) d :=
  hv.sub hi fun K R s g Q E x y T r1 r2 q => by
    obtain ⟨a, vs, m, rfl, e1, hl⟩ := Rd.lst_iff.mp r1
    obtain ⟨_, rfl⟩ := Rd.int_iff.mp r2
    obtain ⟨u, hu, ru⟩ := hl.get hd
    have hL := isList_of (T.vin _ _ e1)
    exact tail_any hL.typeIs slot_list_getitem.lookup (wpAny_getItem_list hL h0 h1 (by simpa using hu) (q _ _ _ T (VLe.refl _) ru)) (hs _ _)
theorem EX.itemT {v i : Expr} {pos : Pos} {ds : List D} {k : Int} {j : Nat} {d : D} (hv : EX G n S ρ ow v (.tup ds)) (hi : EX G n S ρ ow i (.int k)) (h0 : -2 ^ 63 ≤ k) (h1 : k < 2 ^ 63) (hj : seqIndex? k ds.length = some j) (hd : ds[j]? = some d)
    (hs : ∀ x y, subscripted i false x y = operate [x, y] (getItem x y) := by intro _ _; rfl) : EX G n S ρ ow (.Subscript v i pos) d :=
  hv.sub hi fun K R s g Q E x y T r1 r2 q => by
    obtain ⟨a, vs, m, rfl, e1, hl⟩ := Rd.tup_iff.mp r1
    obtain ⟨_, rfl⟩ := Rd.int_iff.mp r2
    obtain ⟨u, hu, ru⟩ := hl.get hd
    exact item_tupleT (isTup_of (T.vin _ _ e1)) h0 h1 (by rw [hl.length]; exact hj) hu (q _ _ _ T (VLe.refl _) ru) (hs _ _)
theorem EX.itemS {v i : Expr} {pos : Pos} {x : Str} {k : Int} (hv : EX G n S ρ ow v (.str x)) (hi : EX G n S ρ ow i (.int k)) (hf : fitsSsize k = true) (h0 : -(x.length : Int) ≤ k) (h1 : k < x.length)
    (hs : ∀ x y, subscripted i false x y = operate [x, y] (getItem x y) := by intro _ _; rfl) : EX G n S ρ ow (.Subscript v i pos) (.str (Txt.item x k)) :=
  hv.sub hi fun K R s g Q E p y T r1 r2 q => by
    obtain ⟨_, rfl⟩ := Rd.str_iff.mp r1
    obtain ⟨_, rfl⟩ := Rd.int_iff.mp r2
    exact item_str hf h0 h1 (fun _ => q _ _ _ (T.toks _) (VLe.refl _) (Rd.mkStr _ _)) (hs _ _) (by intro _; cases v <;> rfl)
/-! statements -/
theorem SX.nil {P : Pst} (h : P .next ρ ow) : SX G n S ρ ow [] P := fun K _ _ _ _ s g Q E T q => wpAny_execs_nil (q _ _ _ _ _ _ h T (VLe.refl _) rfl)
theorem SX.cons {st : Stmt} {rest : List Stmt} {P : Pst} (h : S1 G n S ρ ow st (fun fl ρ' ow' => match fl with | .next => SX G n S ρ' ow' rest P | fl => P fl ρ' ow')) : SX G n S ρ ow (st :: rest) P := by
  rintro K rfl R Y C s g Q E T q
  refine wpAny_execs_cons (h K rfl R Y C _ _ _ _ T fun f fl ρ' ow' s' g' p T' l' r' => ?_)
  cases fl with
  | next =>
    have e : f = .next := r'
    subst e
    exact p K rfl R Y C _ _ _ _ T' fun f fl ρ2 ow2 s2 g2 p2 T2 l2 r2 => q _ _ _ _ _ _ p2 T2 (l'.trans l2) r2
  | brk =>
    have e : f = .brk := r'
    subst e
    exact q _ _ _ _ _ _ p T' l' rfl
  | cont =>
    have e : f = .cont := r'
    subst e
    exact q _ _ _ _ _ _ p T' l' rfl
  | ret d =>
    obtain ⟨v, rfl, rv⟩ := r'
    exact q _ _ _ _ _ _ p T' l' ⟨v, rfl, rv⟩
theorem S1.ret {e : Expr} {pos : Pos} {d : D} {P : Pst} (h : EX G n S ρ ow e d) (p : P (.ret d) ρ ow) : S1 G n S ρ ow (.Return (some e) pos) P := by
  rintro K rfl R Y C s g Q E T q
  exact wpAny_Return_some (h K rfl R Y _ _ _ _ T fun v s1 g1 T1 l1 r1 => q _ _ _ _ _ _ p T1 l1 ⟨v, rfl, r1⟩)
theorem S1.brk {pos : Pos} {P : Pst} (p : P .brk ρ ow) : S1 G n S ρ ow (.Break pos) P := fun K _ _ _ _ s g Q E T q => PySem.wpAny_Break (q _ _ _ _ _ _ p T (VLe.refl _) rfl)
theorem S1.cont {pos : Pos} {P : Pst} (p : P .cont ρ ow) : S1 G n S ρ ow (.Continue pos) P := fun K _ _ _ _ s g Q E T q => PySem.wpAny_Continue (q _ _ _ _ _ _ p T (VLe.refl _) rfl)
theorem S1.ite {t : Expr} {b e : List Stmt} {pos : Pos} {c : Bool} {P : Pst} (h : TX G n S ρ ow t c) (h1 : c = true → SX G n S ρ ow b P) (h2 : c = false → SX G n S ρ ow e P) : S1 G n S ρ ow (.If t b e pos) P := by
  rintro K rfl R Y C s g Q E T q
  refine wpAny_If (h K rfl R Y _ _ _ _ T fun s1 g1 T1 l1 => ?_)
  cases c with
  | true => rw [if_pos rfl]; exact h1 rfl K rfl R Y C _ _ _ _ T1 fun f fl ρ2 ow2 s2 g2 p2 T2 l2 r2 => q _ _ _ _ _ _ p2 T2 (l1.trans l2) r2
  | false => rw [if_neg Bool.false_ne_true]; exact h2 rfl K rfl R Y C _ _ _ _ T1 fun f fl ρ2 ow2 s2 g2 p2 T2 l2 r2 => q _ _ _ _ _ _ p2 T2 (l1.trans l2) r2
/-! stores -/
/-- the name is no list that is being filled -/
def Free (ow : Own) (x : Str) : Prop := match ow with | none => True | some (y, _, _) => y ≠ x
theorem St.setLoc {K : Cx} {s : Shared} {g : View} {x : Str} {v : Value} {d : D} {h' : Heap} {tk : Nat} {m : Str → Option Value} (T : St K ρ ow s g) (hf : Free ow x) (hm : s.heap.Ns K.L m) (hn : h'.Ns K.L (fun y => if y = x then some v else m y)) (hs : Heap.SameBut K.L s.heap h') (hl : K.S.names.lookup x = some .local) (r : Rd g d v) :
    St K (upd ρ x d) ow { s with heap := h', toks := tk } g := by
  have kp : ∀ b o, b ≠ K.L → s.heap.get? b = some o → h'.get? b = some o := fun b o hb e => (hs.2 b hb).trans e
  obtain ⟨m', hm', hv, hw⟩ := T.ns
  have em := Ns.uniq hm' hm
  subst em
  refine ⟨fun a o e => kp a o (fun q => by rw [q, T.gL] at e; cases e) (T.vin a o e), T.old, fun a o e => kp a o (fun q => by rw [q, T.kL] at e; cases e) (T.keep a o e), T.os, T.bare, T.lo, T.gL, T.kL, T.mu, ⟨_, hn, fun y d' h1 h2 => ?_, ?_⟩, T.cx, fun y c h => ?_⟩
  · unfold upd at h2
    by_cases q : y = x
    · rw [if_pos q] at h2; cases h2
      exact ⟨v, by rw [if_pos q], r⟩
    · rw [if_neg q] at h2
      obtain ⟨u, e, ru⟩ := hv y d' h1 h2
      exact ⟨u, by rw [if_neg q]; exact e, ru⟩
  · cases ow with
    | none => trivial
    | some p =>
      obtain ⟨vs, n, h1, h2, h3, h4, h5, h6, h7⟩ := hw
      exact ⟨vs, n, (by show (if p.1 = x then _ else _) = _; rw [if_neg hf]; exact h1), kp _ _ h6 h2, h3, h4, h5, h6, h7⟩
  · obtain ⟨h1, h2, ov, ⟨oc, e1, e2⟩, h4⟩ := T.ce y c h
    refine ⟨h1, h2, ov, ⟨oc, kp _ _ h2 e1, e2⟩, fun d' q1 q2 => h4 d' q1 ?_⟩
    unfold upd at q2
    by_cases q : y = x
    · subst q; rw [hl] at q1; cases q1
    · rw [if_neg q] at q2; exact q2
/-- storing under a name of the frame's own -/
def Stor (G : Gd) (S : Scope) (x : Str) : Prop := ∀ (K : Cx), K.S = S → K.Ce → ∀ (ρ : Rho) (ow : Own) (s : Shared) (g : View) (v : Value) (d : D) (Q : Unit → Shared → Prop) (E : Value → Shared → Prop), St K ρ ow s g → Free ow x → Rd g d v →
  (∀ s', St K (upd ρ x d) ow s' g → Q () s') → wpAny (model G.prog K.w) K.A (storeName K.env x v) Q E s
theorem Stor.loc {x : Str} (hl : S.names.lookup x = some .local) (hk : S.kind = .function) : Stor G S x := by
  rintro K rfl C ρ ow s g v d Q E T hf r q
  obtain ⟨m, hm, _⟩ := T.ns
  exact wpAny_storeName_local (env := K.env) hl hm (fun h' hn hs => q _ (T.setLoc hf hm hn hs hl r)) (by show (K.S.kind == .class || (K.S.kind == .module && _)) = false; rw [hk]; rfl)
theorem nodup_cells : ∀ {l : List (Str × Addr)}, l.Pairwise (fun x y => x.2 ≠ y.2) → ∀ {x y : Str} {c : Addr}, l.lookup x = some c → l.lookup y = some c → x = y := by
  intro l hp x y c h1 h2
  exact name_of_addr hp (mem_of_lookup h1) (mem_of_lookup h2)
theorem Stor.cell {x : Str} (hl : S.names.lookup x = some .cell) (hk : S.kind = .function) : Stor G S x := by
  rintro K rfl C ρ ow s g v d Q E T hf r q
  obtain ⟨c, ec⟩ := Option.isSome_iff_exists.mp (T.cx x hl)
  obtain ⟨hg, hL, ov, hcell, _⟩ := T.ce x c ec
  refine wpAny_storeName_cell (env := K.env) hk hl ec hcell fun h' hv hs => q _ ?_
  have kp : ∀ b o, b ≠ c → s.heap.get? b = some o → h'.get? b = some o := fun b o hb e => (hs.2 b hb).trans e
  obtain ⟨m, hm, hvs, hw⟩ := T.ns
  refine ⟨fun a o e => kp a o (fun q => by rw [q, hg] at e; cases e) (T.vin a o e), T.old, fun a o e => kp a o (fun q => by rw [q, (C.1 x c ec).1] at e; cases e) (T.keep a o e), T.os, T.bare, T.lo, T.gL, T.kL, T.mu, ⟨m, hm.sameBut hs (Ne.symm hL), fun y d' h1 h2 => ?_, ?_⟩, T.cx, fun y c' h => ?_⟩
  · refine hvs y d' h1 ?_
    unfold upd at h2
    by_cases q : y = x
    · subst q; rw [hl] at h1; cases h1
    · rw [if_neg q] at h2; exact h2
  · cases ow with
    | none => trivial
    | some p =>
      obtain ⟨vs, n, h1, h2, h3, h4, h5, h6, h7, h8⟩ := hw
      exact ⟨vs, n, h1, kp _ _ (Ne.symm (h8 x c ec)) h2, h3, h4, h5, h6, h7, h8⟩
  · obtain ⟨h1, h2, ov', ⟨oc, e1, e2⟩, h4⟩ := T.ce y c' h
    by_cases q : y = x
    · subst q
      rw [ec] at h; cases h
      refine ⟨hg, hL, _, hv, fun d' _ q2 => ?_⟩
      unfold upd at q2
      rw [if_pos rfl] at q2; cases q2
      exact ⟨v, rfl, r⟩
    · have hcc : c' ≠ c := fun e => q (nodup_cells C.2 h (e ▸ ec))
      refine ⟨h1, h2, ov', ⟨oc, kp _ _ hcc e1, e2⟩, fun d' q1 q2 => h4 d' q1 ?_⟩
      unfold upd at q2
      rw [if_neg q] at q2; exact q2
theorem S1.assign {x : Str} {p pos : Pos} {e : Expr} {d : D} {P : Pst} (hs : Stor G S x) (h : EX G n S ρ ow e d) (p' : P .next (upd ρ x d) ow) (hf : Free ow x) (hw : ∀ env, swapsWith e (some (.Name x p)) pos.line env = pure false := by intro _; rfl) : S1 G n S ρ ow (.Assign [.Name x p] e pos) P := by
  rintro K rfl R Y C s g Q E T q
  exact wpAny_Assign_Name (h K rfl R Y _ _ _ _ T fun v s1 g1 T1 l1 r1 => hs K rfl C _ _ _ _ _ _ _ _ T1 hf r1 fun s2 T2 => q _ _ _ _ _ _ p' T2 l1 rfl) (hw _)
theorem S1.augI {x : Str} {p pos : Pos} {e : Expr} {a b : Int} {P : Pst} (hρ : ρ x = some (.int a)) (hl : S.names.lookup x = some .local) (hk : S.kind = .function) (h : EX G n S ρ ow e (.int b)) (p' : P .next (upd ρ x (.int (a + b))) ow) (hf : Free ow x) : S1 G n S ρ ow (.AugAssign (.Name x p) .Add e pos) P := by
  rintro K rfl R Y C s g Q E T q
  obtain ⟨m, hn, hm, _⟩ := T.ns
  obtain ⟨v, ev, r⟩ := hm x _ hl hρ
  refine wpAny_AugAssign_Name (wpAny_loadName_local (env := K.env) hk hl hn ev (h K rfl R Y _ _ _ _ T fun u s2 g2 T2 l2 r2 => ?_))
  obtain ⟨_, rfl⟩ := Rd.int_iff.mp r
  obtain ⟨_, rfl⟩ := Rd.int_iff.mp r2
  exact wpAny_iadd_int (Stor.loc hl hk K rfl C _ _ _ _ _ _ _ _ (T2.toks _) hf (Rd.mkInt _ _) fun s3 T3 => q _ _ _ _ _ _ p' T3 l2 rfl)
theorem S1.augS {x : Str} {p pos : Pos} {e : Expr} {a b : Int} {P : Pst} (hρ : ρ x = some (.int a)) (hl : S.names.lookup x = some .local) (hk : S.kind = .function) (h : EX G n S ρ ow e (.int b)) (p' : P .next (upd ρ x (.int (a - b))) ow) (hf : Free ow x) : S1 G n S ρ ow (.AugAssign (.Name x p) .Sub e pos) P := by
  rintro K rfl R Y C s g Q E T q
  obtain ⟨m, hn, hm, _⟩ := T.ns
  obtain ⟨v, ev, r⟩ := hm x _ hl hρ
  refine wpAny_AugAssign_Name (wpAny_loadName_local (env := K.env) hk hl hn ev (h K rfl R Y _ _ _ _ T fun u s2 g2 T2 l2 r2 => ?_))
  obtain ⟨_, rfl⟩ := Rd.int_iff.mp r
  obtain ⟨_, rfl⟩ := Rd.int_iff.mp r2
  exact isub_int (Stor.loc hl hk K rfl C _ _ _ _ _ _ _ _ (T2.toks _) hf (Rd.mkInt _ _) fun s3 T3 => q _ _ _ _ _ _ p' T3 l2 rfl)
/-! a def is called -/
def bindRho (ps : List Str) (ds : List D) : Rho := fun x => ((ps.zip ds).reverse).lookup x
structure FnObj (G : Gd) (fa : Addr) (nm : Str) (ps : List Str) (body : List Stmt) (S : Scope) : Prop where
  obj : ∀ P : Params, ∃ o pm cd doc params, (G.KF P).lookup fa = some o ∧ o.data = .func (docDef nm params body S pm cd doc) ∧ codeIn (G.KF P) cd nm = true ∧
    ∀ vs : List Value, vs.length = ps.length → bindArgs (docDef nm params body S pm cd doc) ⟨vs, []⟩ = pure (ps.zip vs)
  loc : ∀ x ∈ ps, S.names.lookup x = some .local
  co : S.isCoroutine = false
  gen : S.isGenerator = false
  kind : S.kind = .function
  cell : ∀ x ∈ S.names, x.2 ≠ .cell
theorem zip_lookup {g : View} : ∀ {ps : List Str} {ds : List D} {vs : List Value} {x : Str} {d : D}, RdL g ds vs → ps.length = ds.length → ((ps.zip ds).reverse).lookup x = some d → ∃ v, ((ps.zip vs).reverse).lookup x = some v ∧ Rd g d v := by
  have key : ∀ (ps : List Str) (ds : List D) (vs : List Value) (acc : List (Str × D)) (acc' : List (Str × Value)) (x : Str) (d : D), RdL g ds vs → (∀ d, acc.lookup x = some d → ∃ v, acc'.lookup x = some v ∧ Rd g d v) → (acc.lookup x = none → acc'.lookup x = none) →
      ((ps.zip ds).reverse ++ acc).lookup x = some d → ∃ v, ((ps.zip vs).reverse ++ acc').lookup x = some v ∧ Rd g d v := by
    intro ps
    induction ps with
    | nil => intro ds vs acc acc' x d _ h1 _ h; simp at h ⊢; exact h1 d h
    | cons p ps ih =>
      intro ds vs acc acc' x d hr h1 h2 h
      cases ds with
      | nil => rw [RdL.nil_iff.mp hr]; simp at h ⊢; exact h1 d h
      | cons d0 ds =>
        obtain ⟨v0, r, rfl, hv, hr'⟩ := RdL.cons_iff.mp hr
        simp only [List.zip_cons_cons, List.reverse_cons, List.append_assoc, List.singleton_append] at h ⊢
        refine ih ds r ((p, d0) :: acc) ((p, v0) :: acc') x d hr' (fun d' e => ?_) (fun e => ?_) h
        · simp only [List.lookup_cons] at e ⊢
          cases q : x == p with
          | true => simp only [q] at e ⊢; cases e; exact ⟨v0, rfl, hv⟩
          | false => simp only [q] at e ⊢; exact h1 d' e
        · simp only [List.lookup_cons] at e ⊢
          cases q : x == p with
          | true => simp only [q] at e; cases e
          | false => simp only [q] at e ⊢; exact h2 e
  intro ps ds vs x d hr _ h
  have := key ps ds vs [] [] x d hr (by intro d e; cases e) (by intro _; rfl) (by simpa using h)
  simpa using this
theorem Room.deeper {A : Around} {n : Nat} (h : Room A (n + 1)) (env : Env) : Room (A.deeper env) n := ⟨h.1, by have := h.2; rw [depth_deeper]; omega, by have := h.3; rw [units_deeper]; omega⟩
theorem Fn.of {fa : Addr} {nm : Str} {ps : List Str} {body : List Stmt} {ds : List D} {r : D} (F : FnObj G fa nm ps body S) (hl : ds.length = ps.length)
    (h : SX G n S (bindRho ps ds) none body (fun fl _ _ => fl = .ret r ∨ (fl = .next ∧ r = .none))) : Fn G (n + 1) fa ds r := by
  intro w A s g vs Q E R Y V B hr q
  obtain ⟨⟨mg, mb, t⟩, X⟩ := id Y
  obtain ⟨o, pm, cd, doc, params, e1, e2, e3, e4⟩ := F.obj w.params
  have ho := X _ _ e1
  have hlen : vs.length = ps.length := hr.length.trans hl
  refine wpAny_call (call_plain (by have := R.depth; omega) ho e2 t.nolimit (codeRec_of X e3) (e4 vs hlen) (fun y hy => ?_) (fun h₁ Fr1 => ?_) F.co F.gen F.kind F.cell)
  · obtain ⟨x, v⟩ := y
    exact F.loc x (List.of_mem_zip hy).1
  · let K : Cx := { w := w, A := A.deeper (envOf nm S s.heap.objs.size fa cd), S := S, L := s.heap.objs.size, cl := [], f := some fa, cd := cd, qual := nm ++ ".<locals>.", fr := some s.heap.objs.size, lk := s.heap.get?, mu := fun _ => False, nb := s.heap.objs.size, g0 := g, os := s.os, gl := fun i => s.gens[i]? }
    have hL : s.heap.get? s.heap.objs.size = none := by
      cases e : s.heap.get? s.heap.objs.size with
      | none => rfl
      | some o => exact absurd (Heap.lt_size e) (Nat.lt_irrefl _)
    have T : St K (bindRho ps ds) none { s with heap := h₁, toks := s.toks + (ps.zip vs).length } g :=
      ⟨fun a o e => Fr1.keep _ _ (V a o e), fun _ _ => rfl, fun a o e => Fr1.keep _ _ e, rfl, ⟨B, fun _ _ e => e⟩, Nat.le_refl _, V.none (Nat.le_refl _), hL, (fun _ h => h.elim), ⟨_, Fr1.ns, fun x d h1 h2 => zip_lookup hr hl.symm h2, trivial⟩, fun x e => absurd rfl (F.cell _ (mem_of_lookup e)), fun x c e => by cases e⟩
    refine wpAny_mono (h K rfl (R.deeper _) ⟨s.heap, Y, fun _ _ e => e⟩ ⟨fun x c e => (by cases e), .nil⟩ _ _ (fun f s' => Q (match f with | .ret v => v | _ => .none) s') (fun _ _ => False) T fun f fl ρ' ow' s' g' p T' l' r' => ?_) (fun f s' hq => hq) (fun _ _ hf => hf.elim)
    have fin : ∀ v, Rd g' r v → Q v s' := fun v rv => q v s' g' (fun b o e => T'.keep b o e) T'.vin l' (fun a ha => T'.old a ha) T'.os T'.bare rv
    rcases p with rfl | ⟨rfl, rfl⟩
    · obtain ⟨v, rfl, rv⟩ := r'
      exact fin v rv
    · have e : f = .next := r'
      subst e
      exact fin _ Rd.mkNone
end
end Mine
namespace Mine
/-! an object that the frame must not touch for a while: a loop's iterator -/
def Cx.lock (K : Cx) (a : Addr) (o : Obj) : Cx := { K with lk := vput K.lk a o, mu := fun b => b = a ∨ K.mu b }
theorem Cx.lock_on {K : Cx} {G : Gd} {a : Addr} {o : Obj} (h : K.On G) (hn : K.lk a = none) : (K.lock a o).On G := by
  obtain ⟨hb, h1, h2⟩ := h
  exact ⟨hb, h1, fun b ob e => VLe.put hn b ob (h2 b ob e)⟩
theorem St.lock {K : Cx} {ρ : Rho} {ow : Own} {s s' : Shared} {g : View} {a : Addr} {o : Obj} (x : St K ρ ow s g) (ha : s.heap.objs.size ≤ a) (hk : Kp s.heap s'.heap) (ho : s'.heap.get? a = some o) (hos : s'.os = s.os) (hg : K.Gn s'.gens) :
    St (K.lock a o) ρ ow s' g := by
  have y := x.same hk hos hg
  have hne : ∀ {b : Addr} {ob : Obj}, s.heap.get? b = some ob → b ≠ a := fun e q => Nat.lt_irrefl _ (Nat.lt_of_lt_of_le (Heap.lt_size e) (q ▸ ha))
  obtain ⟨m, hm, hv, hw⟩ := x.ns
  obtain ⟨oL, _, _, eL, _⟩ := id hm
  obtain ⟨m', hm', hv', hw'⟩ := y.ns
  have em := Ns.uniq hm' (hm.keeps hk)
  subst em
  refine ⟨y.vin, y.old, fun b ob e => ?_, y.os, y.bare, y.lo, y.gL, ?_, fun b hb => ?_, ⟨m', hm', hv', ?_⟩, y.cx, y.ce⟩
  · by_cases q : b = a
    · subst q
      have : vput K.lk b o b = some ob := e
      rw [vput_at] at this; cases this; exact ho
    · have : vput K.lk a o b = some ob := e
      rw [vput_ne q] at this; exact y.keep b ob this
  · show vput K.lk a o K.L = none
    rw [vput_ne (hne eL)]; exact x.kL
  · rcases hb with rfl | hb
    · exact ⟨x.vin.none ha, o, vput_at ..⟩
    · obtain ⟨h1, ob, h2⟩ := x.mu b hb
      refine ⟨h1, ob, ?_⟩
      show vput K.lk a o b = some ob
      rw [vput_ne (hne (x.keep b ob h2))]; exact h2
  · cases ow with
    | none => trivial
    | some p =>
      obtain ⟨y, c, ds⟩ := p
      obtain ⟨vs, n, h1, h2, h3, h4, h5, h6, h7, h8⟩ := hw
      refine ⟨vs, n, h1, hk _ _ h2, h3, h4, h5, h6, ?_, h8⟩
      show vput K.lk a o c = none
      rw [vput_ne (hne h2)]; exact h7
/-- the iterator moves on -/
theorem St.move {K K' : Cx} {ρ : Rho} {ow : Own} {s s' : Shared} {g : View} {a : Addr} {o : Obj} (x : St (K.lock a o) ρ ow s g) (hd : ∀ ov, o.data ≠ .cell ov) (hk : ∀ b ob, b ≠ a → s.heap.get? b = some ob → s'.heap.get? b = some ob)
    (hos : s'.os = s.os) (hg : K.Gn s'.gens) (hK : (K' = K ∧ K.lk a = none ∧ ¬ K.mu a) ∨ ∃ o', K' = K.lock a o' ∧ s'.heap.get? a = some o') : St K' ρ ow s' g := by
  have ha : s.heap.get? a = some o := x.keep a o (vput_at ..)
  have ga : g a = none := (x.mu a (.inl rfl)).1
  have hL : K.L ≠ a := fun q => by
    have := x.kL
    rw [show (K.lock a o).L = K.L from rfl, q, show (K.lock a o).lk = vput K.lk a o from rfl, vput_at] at this; cases this
  obtain ⟨m, hm, hv, hw⟩ := x.ns
  have hv' : VIn g s'.heap := fun b ob e => hk b ob (fun q => by rw [q, ga] at e; cases e) (x.vin b ob e)
  have hc : ∀ y c, K.cl.lookup y = some c → c ≠ a := fun y c h q => by
    obtain ⟨_, _, ov, ⟨oc, e1, e2⟩, _⟩ := x.ce y c h
    rw [q, ha] at e1; cases e1; exact hd _ e2
  have hm' : s'.heap.Ns K.L m := by
    obtain ⟨oL, es, ep, eL, r⟩ := hm
    exact ⟨oL, es, ep, hk _ _ hL eL, r⟩
  have hkL : K.lk K.L = none := by
    have := x.kL
    rwa [show (K.lock a o).L = K.L from rfl, show (K.lock a o).lk = vput K.lk a o from rfl, vput_ne hL] at this
  have hce : ∀ y c, K.cl.lookup y = some c → g c = none ∧ c ≠ K.L ∧ ∃ ov, s'.heap.IsCell c ov ∧ ∀ d, K.S.names.lookup y = some .cell → ρ y = some d → ∃ v, ov = some v ∧ Rd g d v := fun y c h => by
    obtain ⟨h1, h2, ov, ⟨oc, e1, e2⟩, h4⟩ := x.ce y c h
    exact ⟨h1, h2, ov, ⟨oc, hk _ _ (hc y c h) e1, e2⟩, h4⟩
  rcases hK with ⟨rfl, hn, hmu⟩ | ⟨o', rfl, ho'⟩
  · refine ⟨hv', x.old, fun b ob e => ?_, hos.trans x.os, hg, x.lo, x.gL, hkL, fun b hb => ?_, ⟨m, hm', hv, ?_⟩, x.cx, hce⟩
    · have q : b ≠ a := fun q => by rw [q, hn] at e; cases e
      exact hk b ob q (x.keep b ob (by show vput K'.lk a o b = _; rw [vput_ne q]; exact e))
    · obtain ⟨h1, ob, h2⟩ := x.mu b (.inr hb)
      by_cases q : b = a
      · exact absurd (q ▸ hb) hmu
      · exact ⟨h1, ob, by rwa [show (K'.lock a o).lk = vput K'.lk a o from rfl, vput_ne q] at h2⟩
    · cases ow with
      | none => trivial
      | some p =>
        obtain ⟨y, c, ds⟩ := p
        obtain ⟨vs, n, h1, h2, h3, h4, h5, h6, h7, h8⟩ := hw
        have q : c ≠ a := fun q => by rw [q, show (K'.lock a o).lk = vput K'.lk a o from rfl, vput_at] at h7; cases h7
        exact ⟨vs, n, h1, hk _ _ q h2, h3, h4, h5, h6, by rwa [show (K'.lock a o).lk = vput K'.lk a o from rfl, vput_ne q] at h7, h8⟩
  · refine ⟨hv', x.old, fun b ob e => ?_, hos.trans x.os, hg, x.lo, x.gL, ?_, fun b hb => ?_, ⟨m, hm', hv, ?_⟩, x.cx, hce⟩
    · have e' : vput K.lk a o' b = some ob := e
      by_cases q : b = a
      · subst q; rw [vput_at] at e'; cases e'; exact ho'
      · rw [vput_ne q] at e'
        exact hk b ob q (x.keep b ob (by show vput K.lk a o b = _; rw [vput_ne q]; exact e'))
    · show vput K.lk a o' K.L = none
      rw [vput_ne hL]; exact hkL
    · by_cases q : b = a
      · subst q; exact ⟨ga, o', vput_at ..⟩
      · obtain ⟨h1, ob, h2⟩ := x.mu b hb
        refine ⟨h1, ob, ?_⟩
        show vput K.lk a o' b = _
        rw [show (K.lock a o).lk = vput K.lk a o from rfl, vput_ne q] at h2
        rw [vput_ne q]; exact h2
    · cases ow with
      | none => trivial
      | some p =>
        obtain ⟨y, c, ds⟩ := p
        obtain ⟨vs, n, h1, h2, h3, h4, h5, h6, h7, h8⟩ := hw
        have q : c ≠ a := fun q => by rw [q, show (K.lock a o).lk = vput K.lk a o from rfl, vput_at] at h7; cases h7
        refine ⟨vs, n, h1, hk _ _ q h2, h3, h4, h5, h6, ?_, h8⟩
        show vput K.lk a o' c = none
        rw [show (K.lock a o).lk = vput K.lk a o from rfl, vput_ne q] at h7
        rw [vput_ne q]; exact h7
section
variable {G : Gd} {n : Nat} {S : Scope}
/-- a target takes a datum -/
def AT (G : Gd) (n : Nat) (S : Scope) (t : Expr) (d : D) (ρ : Rho) (ow : Own) (ρ' : Rho) : Prop :=
  ∀ (K : Cx), K.S = S → Room K.A n → K.Ce → ∀ (s : Shared) (g : View) (v : Value) (Q : Unit → Shared → Prop) (E : Value → Shared → Prop), St K ρ ow s g → Rd g d v →
    (∀ s' g', St K ρ' ow s' g' → VLe g g' → Q () s') → wpAny (model G.prog K.w) K.A (assign t K.env v) Q E s
theorem AT.name {x : Str} {pos : Pos} {d : D} {ρ : Rho} {ow : Own} (hs : Stor G S x) (hf : Free ow x) : AT G n S (.Name x pos) d ρ ow (upd ρ x d) := by
  rintro K rfl R C s g v Q E T r q
  exact wpAny_assign_Name (hs K rfl C _ _ _ _ _ _ _ _ T hf r fun s' T' => q _ _ T' (VLe.refl _))
/-- several names at once -/
def updL (ρ : Rho) : List Str → List D → Rho
  | x :: xs, d :: ds => updL (upd ρ x d) xs ds
  | _, _ => ρ
theorem AT.tuple {xs : List Str} {es : List Expr} {k : Nat} {pos : Pos} {ds : List D} {ρ : Rho} {ow : Own} (he : ∀ env, (assignEach es env).map (·.2) = xs.map fun x => assign (.Name x default) env) (he1 : ∀ env, (assignEach es env).findIdx? (·.1) = none) (hl : xs.length = ds.length) (hs : ∀ x ∈ xs, Stor G S x ∧ Free ow x) :
    AT G n S (.Tuple es k pos) (.tup ds) ρ ow (updL ρ xs ds) := by
  rintro K rfl R C s g v Q E T r q
  obtain ⟨a, vs, m, rfl, e, hr⟩ := Rd.tup_iff.mp r
  have hlen : (assignEach es K.env).length = vs.toArray.size := by
    have := congrArg List.length (he K.env)
    rw [List.length_map, List.length_map] at this
    rw [this, hl, List.size_toArray, hr.length]
  refine PySem.wpAny_assign_Tuple R.handled (isTuple_of (T.vin _ _ e)) hlen (he1 _) fun h' hx => ?_
  have kp : Kp s.heap h' := fun b o eb => hx b o (Nat.ne_of_lt (Heap.lt_size eb)) eb
  have T1 : St K ρ ow { s with heap := h' } g := T.same kp rfl T.bare
  rw [he]
  generalize ({ s with heap := h' } : Shared) = s1 at T1 ⊢
  clear hlen kp hx h' T r e he he1
  induction xs generalizing ds vs ρ s1 with
  | nil =>
    cases ds with
    | nil => rw [RdL.nil_iff.mp hr]; exact wpAny_assignInOrder_none (q _ _ T1 (VLe.refl _))
    | cons _ _ => simp at hl
  | cons x xs ih =>
    cases ds with
    | nil => simp at hl
    | cons d ds =>
      obtain ⟨v, r, rfl, hv, hr'⟩ := RdL.cons_iff.mp hr
      refine wpAny_assignInOrder_more (wpAny_assign_Name ((hs x (.head _)).1 K rfl C _ _ _ _ _ _ _ _ T1 (hs x (.head _)).2 hv fun s2 T2 => ?_))
      exact ih (by simpa using hl) (fun y hy => hs y (.tail _ hy)) q _ hr' s2 T2
/-- the core of every for -/
theorem loopCore {K : Cx} {ρ : Rho} {ow : Own} {g : View} {t : Expr} {body : List Stmt} {P : Pst} {I : Addr} {fp : List Addr} {N : Nat} {PI : Nat → Value → Prop} {Si : Nat → Heap → Prop} {ds : List D} {s s0 : Shared}
    {E : Value → Shared → Prop} {Q : Flow → Shared → Prop}
    (W : Walks G.prog K.w K.A I fp [I] N PI Si) (hS : K.S = S) (R : Room K.A n) (Y : K.On G) (C : K.Ce)
    (T : St K ρ ow s0 g) (hI : s0.heap.objs.size ≤ I) (hk : Kp s0.heap s.heap) (hos : s.os = s0.os) (hg : K.Gn s.gens) (hst : Si 0 s.heap)
    (hfp : ∀ b ∈ fp, b = I ∨ ∃ o, g b = some o) (hob : ∀ i h, Si i h → ∃ o, h.get? I = some o ∧ ∀ ov, o.data ≠ .cell ov) (hds : ds.length = N)
    (hPI : ∀ i v, PI i v → ∀ d, ds[i]? = some d → Rd g d v) (hgo : ∀ i (s : Shared) v (Q : Unit → Shared → Prop) (E : Value → Shared → Prop), Si i s.heap → Q () s → wpAny (model G.prog K.w) K.A (letOwnedTupleGo t (.ref I) v) Q E s)
    (J : List D → Rho → Own → Prop) (h0 : J [] ρ ow)
    (turn : ∀ pre d post ρ1 ow1, ds = pre ++ d :: post → J pre ρ1 ow1 → ∃ ρ2, AT G n S t d ρ1 ow1 ρ2 ∧ SX G n S ρ2 ow1 body (fun fl ρ3 ow3 => match fl with
      | .next => J (pre ++ [d]) ρ3 ow3
      | .cont => J (pre ++ [d]) ρ3 ow3
      | .brk => P .next ρ3 ow3
      | .ret r => P (.ret r) ρ3 ow3))
    (done : ∀ ρ1 ow1, J ds ρ1 ow1 → P .next ρ1 ow1)
    (q : ∀ f fl ρ' ow' s' g', P fl ρ' ow' → St K ρ' ow' s' g' → VLe g g' → FlRd g' fl f → Q f s') :
    codeAny (model G.prog K.w) K.A (.forLoop t (.ref I) body [] K.env) (fun r s' => match r with | .ok f => Q f s' | .error e => cameBackBy (model G.prog K.w) K.A K.env E e s') s := by
  have hlk : K.lk I = none := by
    cases e : K.lk I with
    | none => rfl
    | some o => exact absurd (Heap.lt_size (T.keep _ _ e)) (Nat.not_lt.mpr hI)
  have hmu : ¬ K.mu I := fun h => by
    obtain ⟨_, o, e⟩ := T.mu I h
    rw [hlk] at e; cases e
  obtain ⟨o0, ho0, hd0⟩ := hob 0 _ hst
  have T0 : St (K.lock I o0) ρ ow s g := T.lock hI hk ho0 hos hg
  refine codeAny_forLoop_any (fun k s => ∃ pre post ρ1 ow1 g1 o1, ds = pre ++ post ∧ k = post.length ∧ J pre ρ1 ow1 ∧ Si pre.length s.heap ∧ (∀ ov, o1.data ≠ .cell ov) ∧ St (K.lock I o1) ρ1 ow1 s g1 ∧ VLe g g1) ?_ ds.length ⟨[], ds, ρ, ow, g, o0, rfl, rfl, h0, hst, hd0, T0, VLe.refl _⟩
  rintro k s1 ⟨pre, post, ρ1, ow1, g1, o1, hd, hk1, hJ, hS1, hdc, T1, l1⟩
  cases post with
  | nil =>
    have hp : pre = ds := by rw [hd, List.append_nil]
    refine W.done s1 _ _ (by rw [← hds, ← hp]; exact hS1) fun h' tk kp => ?_
    refine wpAny_execs_nil (q _ _ _ _ _ _ (done _ _ (hp ▸ hJ)) (T1.move hdc (s' := { s1 with heap := h', toks := tk }) (fun b ob hb e => kp b ob (by simpa using hb) e) rfl T1.bare (.inl ⟨rfl, hlk, hmu⟩)) l1 rfl)
  | cons d post =>
    have hlt : pre.length < N := by rw [← hds, hd]; simp
    have hdi : ds[pre.length]? = some d := by rw [hd]; simp
    refine W.item pre.length s1 _ _ hlt hS1 fun v h' tk hP hS2 kp => ?_
    obtain ⟨o2, ho2, hd2⟩ := hob _ _ hS2
    have T2 : St (K.lock I o2) ρ1 ow1 { s1 with heap := h', toks := tk } g1 := T1.move hdc (fun b ob hb e => kp b ob (by simpa using hb) e) rfl T1.bare (.inr ⟨o2, rfl, ho2⟩)
    refine hgo _ _ _ _ _ hS2 ?_
    obtain ⟨ρ2, hA, hB⟩ := turn pre d post ρ1 ow1 hd hJ
    have C' : (K.lock I o2).Ce := ⟨fun x c e => ⟨by
        show vput K.lk I o2 c = none
        have hcI : c ≠ I := fun qq => by
          obtain ⟨_, _, ov, ⟨oc, e1, e2⟩, _⟩ := T2.ce x c e
          rw [qq, ho2] at e1; cases e1; exact hd2 _ e2
        rw [vput_ne hcI]; exact (C.1 x c e).1, (C.1 x c e).2⟩, C.2⟩
    refine hA (K.lock I o2) hS R C' _ _ _ _ _ T2 (Rd.mono l1 _ _ (hPI _ _ hP d hdi)) fun s3 g3 T3 l3 => ?_
    refine hB (K.lock I o2) hS R (Cx.lock_on Y hlk) C' _ _ _ _ T3 fun f fl ρ4 ow4 s4 g4 p4 T4 l4 r4 => ?_
    have hS4 : Si (pre.length + 1) s4.heap := by
      refine W.frame _ _ _ hS2 fun b hb ob e => ?_
      rcases hfp b hb with rfl | ⟨oo, eo⟩
      · rw [ho2] at e; cases e
        exact T4.keep b o2 (vput_at ..)
      · have e1 := T2.vin b oo (l1 _ _ eo)
        rw [show h'.get? b = some oo from e1] at e; cases e
        exact T4.vin b _ (l4 _ _ (l3 _ _ (l1 _ _ eo)))
    have un : St K ρ4 ow4 s4 g4 := T4.move hd2 (fun b ob _ e => e) rfl T4.bare (.inl ⟨rfl, hlk, hmu⟩)
    have le : VLe g g4 := (l1.trans l3).trans l4
    have nx : J (pre ++ [d]) ρ4 ow4 → ∃ m, m < k ∧ ∃ pre post ρ1 ow1 g1 o1, ds = pre ++ post ∧ m = post.length ∧ J pre ρ1 ow1 ∧ Si pre.length s4.heap ∧ (∀ ov, o1.data ≠ .cell ov) ∧ St (K.lock I o1) ρ1 ow1 s4 g1 ∧ VLe g g1 := fun hj =>
      ⟨post.length, by rw [hk1]; simp, pre ++ [d], post, ρ4, ow4, g4, o2, by rw [hd]; simp, rfl, hj, by simpa using hS4, hd2, T4, le⟩
    cases fl with
    | next =>
      have e : f = .next := r4
      subst e
      exact nx p4
    | cont =>
      have e : f = .cont := r4
      subst e
      exact nx p4
    | brk =>
      have e : f = .brk := r4
      subst e
      exact q _ _ _ _ _ _ p4 un le rfl
    | ret r =>
      obtain ⟨v', rfl, rv⟩ := r4
      exact q _ _ _ _ _ _ p4 un le ⟨v', rfl, rv⟩
end
end Mine
namespace Mine
section
variable {G : Gd} {n : Nat} {S : Scope} {ρ : Rho} {ow : Own}
/-! while -/
theorem S1.while_ {t : Expr} {b : List Stmt} {pos : Pos} {P : Pst} (J : Nat → Rho → Own → Prop) (k0 : Nat) (h0 : J k0 ρ ow)
    (step : ∀ k ρ1 ow1, J k ρ1 ow1 → ∃ c, TX G n S ρ1 ow1 t c ∧ (c = true → SX G n S ρ1 ow1 b (fun fl ρ2 ow2 => match fl with
      | .next => ∃ k', k' < k ∧ J k' ρ2 ow2
      | .cont => ∃ k', k' < k ∧ J k' ρ2 ow2
      | .brk => P .next ρ2 ow2
      | .ret d => P (.ret d) ρ2 ow2)) ∧ (c = false → P .next ρ1 ow1)) : S1 G n S ρ ow (.While t b [] pos) P := by
  rintro K rfl R Y C s g Q E T q
  refine wpAny_While ?_
  refine codeAny_whileLoop (fun k s' => ∃ ρ1 ow1 g1, J k ρ1 ow1 ∧ St K ρ1 ow1 s' g1 ∧ VLe g g1) ?_ k0 ⟨ρ, ow, g, h0, T, VLe.refl _⟩
  rintro k s1 ⟨ρ1, ow1, g1, hJ, T1, l1⟩
  obtain ⟨c, hT, hB, hE⟩ := step k ρ1 ow1 hJ
  refine hT K rfl R Y _ _ _ _ T1 fun s2 g2 T2 l2 => ?_
  cases c with
  | false =>
    rw [if_neg Bool.false_ne_true]
    exact wpAny_execs_nil (q _ _ _ _ _ _ (hE rfl) T2 (l1.trans l2) rfl)
  | true =>
    rw [if_pos rfl]
    refine hB rfl K rfl R Y C _ _ _ _ T2 fun f fl ρ3 ow3 s3 g3 p3 T3 l3 r3 => ?_
    have le := (l1.trans l2).trans l3
    cases fl with
    | next =>
      have e : f = .next := r3
      subst e
      obtain ⟨k', hk, hj⟩ := p3
      exact ⟨k', hk, ρ3, ow3, g3, hj, T3, le⟩
    | cont =>
      have e : f = .cont := r3
      subst e
      obtain ⟨k', hk, hj⟩ := p3
      exact ⟨k', hk, ρ3, ow3, g3, hj, T3, le⟩
    | brk =>
      have e : f = .brk := r3
      subst e
      exact q _ _ _ _ _ _ p3 T3 le rfl
    | ret d =>
      obtain ⟨v, rfl, rv⟩ := r3
      exact q _ _ _ _ _ _ p3 T3 le ⟨v, rfl, rv⟩
/-! for over a list, over a range -/
abbrev LoopPost (P : Pst) (J : List D → Rho → Own → Prop) (pre : List D) : Pst := fun fl ρ3 ow3 => match fl with
  | .next => J pre ρ3 ow3
  | .cont => J pre ρ3 ow3
  | .brk => P .next ρ3 ow3
  | .ret r => P (.ret r) ρ3 ow3
theorem S1.forList {t it : Expr} {b : List Stmt} {pos : Pos} {ds : List D} {P : Pst} (hi : EX G n S ρ ow it (.lst ds)) (J : List D → Rho → Own → Prop) (h0 : J [] ρ ow)
    (turn : ∀ pre d post ρ1 ow1, ds = pre ++ d :: post → J pre ρ1 ow1 → ∃ ρ2, AT G n S t d ρ1 ow1 ρ2 ∧ SX G n S ρ2 ow1 b (LoopPost P J (pre ++ [d])))
    (done : ∀ ρ1 ow1, J ds ρ1 ow1 → P .next ρ1 ow1) (ht : (∀ i v, letOwnedTupleGo t i v = pure ()) ∨ ∃ es k p, t = .Tuple es k p) (hs : ∀ env x, foldedSetIterable it env x = pure x := by intro _ _; rfl) : S1 G n S ρ ow (.For t it b [] pos) P := by
  rintro K rfl R Y C s g Q E T q
  refine wpAny_For (hi K rfl R Y _ _ _ _ T fun v s1 g1 T1 l1 r1 => ?_) (hs _)
  obtain ⟨l, vs, k, rfl, el, hr⟩ := Rd.lst_iff.mp r1
  have hL := isList_of (T1.vin _ _ el)
  refine wpAny_pyIter_list hL ?_
  have hne : l ≠ s1.heap.objs.size := Nat.ne_of_lt (Heap.lt_size (T1.vin _ _ el))
  have hds : ds.length = vs.toArray.size := by rw [List.size_toArray, hr.length]
  refine loopCore (S := K.S) (W := Walks.list R.handled s1.heap.objs.size l hne vs.toArray) rfl R Y C T1 (Nat.le_refl _) (fun _ _ e => Heap.get?_push_of_some _ e) rfl T1.bare
    ⟨⟨_, Heap.get?_push_size _ rfl, rfl, rfl⟩, hL.at fun o e => Heap.get?_push_of_some _ e⟩ (fun c hc => ?_) (fun i h hi' => ?_) hds (fun i v hv d hd => ?_) (fun i s2 v Q2 E2 hi' hq => ?_) J h0 turn done
    fun f fl ρ' ow' s' g' p T' l' r' => q _ _ _ _ _ _ p T' (l1.trans l') r'
  · simp only [List.mem_cons, List.not_mem_nil, or_false] at hc
    rcases hc with rfl | rfl
    · exact .inl rfl
    · exact .inr ⟨_, el⟩
  · obtain ⟨⟨o, e1, e2, e3⟩, _⟩ := hi'
    exact ⟨o, e1, fun ov q => by rw [e3] at q; cases q⟩
  · obtain ⟨u, hu, ru⟩ := hr.get hd
    have : vs[i]? = some v := by simpa using hv
    rw [hu] at this; cases this; exact ru
  · rcases ht with ht | ⟨es, k, p, rfl⟩
    · rw [ht]; exact wpAny_pure hq
    · cases v with
      | ref a => exact wpAny_letOwnedTupleGo_listiter hi'.1 hq
      | _ => exact wpAny_pure hq
/-- an expression that makes a range -/
def RX (G : Gd) (n : Nat) (S : Scope) (ρ : Rho) (ow : Own) (e : Expr) (a b c : Int) : Prop :=
  ∀ (K : Cx), K.S = S → Room K.A n → K.On G → ∀ (s : Shared) (g : View) (Q : Value → Shared → Prop) (E : Value → Shared → Prop), St K ρ ow s g →
    (∀ r s' g' t u v, St K ρ ow s' g' → VLe g g' → IsRange s'.heap r a b c t u v → Q (.ref r) s') → wpAny (model G.prog K.w) K.A (eval e K.env) Q E s
theorem RX.of {x : Str} {np pos : Pos} {e : Expr} {es : List Expr} {ds : List D} {a b c : Int} (hx : NX G S x (.type "range")) (ha : AX G n S ρ ow (e :: es) ds)
    (ho : ∀ (K : Cx), Room K.A n → K.On G → ∀ (s : Shared) (g : View) (vs : List Value) (Q : Value → Shared → Prop) (E : Value → Shared → Prop), St K ρ ow s g → RdL g ds vs →
      (∀ r s' g' t u v, St K ρ ow s' g' → VLe g g' → IsRange s'.heap r a b c t u v → Q (.ref r) s') → wpAny (model G.prog K.w) K.A (call (.type "range") vs) Q E s)
    (he : ∀ env, starEach (e :: es) env = (false, eval e env) :: starEach es env := by intro _; rfl) (hp : ∀ env, (backTo pos (starEach es env)).any (·.1) = false := by intro _; rfl) : RX G n S ρ ow (.Call (.Name x np) (e :: es) [] pos) a b c := by
  rintro K rfl R Y s g Q E T q
  refine wpAny_Call_NameR (hx K rfl Y _ _ _ _ _ _ _ T ?_)
  exact Pv.callWith_type1 (ha K rfl R Y pos s g _ E T fun vs s1 g1 T1 l1 r1 => ho K R Y _ _ _ _ _ T1 r1 fun r s2 g2 t u v T2 l2 r2 => q _ _ _ _ _ _ T2 (l1.trans l2) r2) (he _) (hp _)
theorem RX.one {x : Str} {np pos : Pos} {e : Expr} {b : Int} (hx : NX G S x (.type "range")) (h : EX G n S ρ ow e (.int b)) (he : ∀ env, starEach (e :: []) env = (false, eval e env) :: starEach [] env := by intro _; rfl) : RX G n S ρ ow (.Call (.Name x np) [e] [] pos) 0 b 1 :=
  RX.of hx (AX.cons h AX.nil he) (fun K R Y s g vs Q E T r q => by
    obtain ⟨v, r1, rfl, h1, h2⟩ := RdL.cons_iff.mp r
    obtain rfl := RdL.nil_iff.mp h2
    obtain ⟨t, rfl⟩ := Rd.int_iff.mp h1
    refine call_range_1 ?_
    obtain ⟨T2, l2⟩ := T.push { cls := .type "range", data := .fields #[.int 0 s.toks, .int b t, .int 1 (s.toks + 1)] } rfl
    exact q _ _ _ _ _ _ (T2.toks _) l2 (IsRange.new ..)) he
theorem RX.three {x : Str} {np pos : Pos} {e1 e2 e3 : Expr} {a b c : Int} (hx : NX G S x (.type "range")) (h1 : EX G n S ρ ow e1 (.int a)) (h2 : EX G n S ρ ow e2 (.int b)) (h3 : EX G n S ρ ow e3 (.int c)) (hc : c ≠ 0) (hp : Builtin.divisionGoesByPylong (b - a) c = false)
    (he1 : ∀ env, starEach (e1 :: [e2, e3]) env = (false, eval e1 env) :: starEach [e2, e3] env := by intro _; rfl) (he2 : ∀ env, starEach (e2 :: [e3]) env = (false, eval e2 env) :: starEach [e3] env := by intro _; rfl) (he3 : ∀ env, starEach (e3 :: []) env = (false, eval e3 env) :: starEach [] env := by intro _; rfl)
    (hpl : ∀ env, (backTo pos (starEach [e2, e3] env)).any (·.1) = false := by intro _; rfl) : RX G n S ρ ow (.Call (.Name x np) [e1, e2, e3] [] pos) a b c :=
  RX.of hx (AX.cons h1 (AX.cons h2 (AX.cons h3 AX.nil he3) he2) he1) (fun K R Y s g vs Q E T r q => by
    obtain ⟨v1, r1, rfl, k1, r⟩ := RdL.cons_iff.mp r
    obtain ⟨v2, r2, rfl, k2, r⟩ := RdL.cons_iff.mp r
    obtain ⟨v3, r3, rfl, k3, r⟩ := RdL.cons_iff.mp r
    obtain rfl := RdL.nil_iff.mp r
    obtain ⟨t, rfl⟩ := Rd.int_iff.mp k1
    obtain ⟨u, rfl⟩ := Rd.int_iff.mp k2
    obtain ⟨v, rfl⟩ := Rd.int_iff.mp k3
    refine call_range_3 hc ?_ (.inl hp)
    obtain ⟨T2, l2⟩ := T.push { cls := .type "range", data := .fields #[.int a t, .int b u, .int c v] } rfl
    exact q _ _ _ _ _ _ (T2.toks _) l2 (IsRange.new ..)) he1 hpl
def rangeL (a c : Int) (N : Nat) : List D := (List.range N).map fun (i : Nat) => D.int (a + (i : Int) * c)
theorem S1.forRange {t it : Expr} {b : List Stmt} {pos : Pos} {a e c : Int} {N : Nat} {P : Pst} (hi : RX G n S ρ ow it a e c) (hsm : Builtin.Range.small a e c = true) (hN : Builtin.Range.rangeSize a e c = (N : Int)) (J : List D → Rho → Own → Prop) (h0 : J [] ρ ow)
    (turn : ∀ pre d post ρ1 ow1, rangeL a c N = pre ++ d :: post → J pre ρ1 ow1 → ∃ ρ2, AT G n S t d ρ1 ow1 ρ2 ∧ SX G n S ρ2 ow1 b (LoopPost P J (pre ++ [d])))
    (done : ∀ ρ1 ow1, J (rangeL a c N) ρ1 ow1 → P .next ρ1 ow1) (ht : ∀ i v, letOwnedTupleGo t i v = pure () := by intro _ _; rfl) (hs : ∀ env x, foldedSetIterable it env x = pure x := by intro _ _; rfl) : S1 G n S ρ ow (.For t it b [] pos) P := by
  rintro K rfl R Y C s g Q E T q
  refine wpAny_For (hi K rfl R Y _ _ _ _ T fun r s1 g1 t1 u1 v1 T1 l1 r1 => ?_) (hs _)
  refine wpAny_pyIter_range r1 hsm ?_
  rw [hN]
  refine loopCore (S := K.S) (ds := rangeL a c N) (W := Walks.range R.handled s1.heap.objs.size a c N) rfl R Y C T1 (Nat.le_refl _) (fun _ _ e => Heap.get?_push_of_some _ e) rfl T1.bare ?_
    (fun c hc => .inl (by simpa using hc)) (fun i h hi' => ⟨_, hi', fun ov q => by cases q⟩) (by simp [rangeL]) (fun i v hv d hd => ?_) (fun i s2 v Q2 E2 hi' hq => by rw [ht]; exact wpAny_pure hq) J h0 turn done
    fun f fl ρ' ow' s' g' p T' l' r' => q _ _ _ _ _ _ p T' (l1.trans l') r'
  · show IsRangeIter _ _ _ _ _
    have := Heap.get?_push_size s1.heap (o := { cls := Value.type "range_iterator", data := Data.fields #[rawInt a, rawInt (N : Int), rawInt c] }) rfl
    simpa [IsRangeIter] using this
  · obtain ⟨t, rfl⟩ := hv
    unfold rangeL at hd
    rw [List.getElem?_map, Option.map_eq_some_iff] at hd
    obtain ⟨j, hj, rfl⟩ := hd
    have : j = i := by
      rw [List.getElem?_eq_some_iff] at hj
      obtain ⟨_, e⟩ := hj
      simpa using e.symm
    subst this
    exact Rd.mkInt _ _
/-! the list that is being filled -/
theorem storeOwn {K : Cx} {x : Str} {a : Addr} {ds : List D} {vs : List Value} {k : Nat} {s s2 : Shared} {g : View} {Q : Unit → Shared → Prop} {E : Value → Shared → Prop} (T : St K ρ none s g) (kp2 : Kp s.heap s2.heap) (ha : s.heap.objs.size ≤ a) (hget : s2.heap.get? a = some (lstO vs k)) (hr : RdL g ds vs) (hos : s2.os = s.os) (hg : K.Gn s2.gens)
    (hl : K.S.names.lookup x = some .local) (hk : K.S.kind = .function) (q : ∀ s3, St K (del ρ x) (some (x, a, ds)) s3 g → Q () s3) : wpAny (model G.prog K.w) K.A (storeName K.env x (.ref a)) Q E s2 := by
  have T1 : St K ρ none s2 g := T.same kp2 hos hg
  obtain ⟨m, hm, hv, _⟩ := T1.ns
  obtain ⟨m0, hm0, _⟩ := T.ns
  refine wpAny_storeName_local (env := K.env) hl hm (fun h' hn hs => q _ ?_) (by show (K.S.kind == .class || (K.S.kind == .module && _)) = false; rw [hk]; rfl)
  have hsz : K.L < a := Nat.lt_of_lt_of_le hm0.lt ha
  have kp : ∀ b o, b ≠ K.L → s2.heap.get? b = some o → h'.get? b = some o := fun b o hb e => (hs.2 b hb).trans e
  refine ⟨fun a o e => kp a o (fun q => by rw [q, T.gL] at e; cases e) (T1.vin a o e), T.old, fun a o e => kp a o (fun q => by rw [q, T.kL] at e; cases e) (T1.keep a o e), T1.os, T1.bare, T.lo, T.gL, T.kL, T.mu, ⟨_, hn, fun y d' h1 h2 => ?_, vs, k, by simp, kp _ _ (Nat.ne_of_gt hsz) hget, hr, T.vin.none ha, Nat.le_trans T.size ha, Nat.ne_of_gt hsz, T.keep.none ha, fun y c h => ?_⟩, T.cx, fun y c h => ?_⟩
  · unfold del at h2
    by_cases q : y = x
    · rw [if_pos q] at h2; cases h2
    · rw [if_neg q] at h2
      obtain ⟨u, e, ru⟩ := hv y d' h1 h2
      exact ⟨u, by show (if y = x then _ else _) = _; rw [if_neg q]; exact e, ru⟩
  · obtain ⟨_, _, ov, hc, _⟩ := T.ce y c h
    exact Nat.ne_of_lt (Nat.lt_of_lt_of_le hc.lt ha)
  · obtain ⟨h1, h2, ov, ⟨oc, e1, e2⟩, h4⟩ := T1.ce y c h
    refine ⟨h1, h2, ov, ⟨oc, kp _ _ h2 e1, e2⟩, fun d' q1 q2 => h4 d' q1 ?_⟩
    unfold del at q2
    by_cases q : y = x
    · rw [if_pos q] at q2; cases q2
    · rw [if_neg q] at q2; exact q2
theorem S1.own {x : Str} {p pos lp : Pos} {P : Pst} (hl : S.names.lookup x = some .local) (hk : S.kind = .function) (p' : ∀ a, P .next (del ρ x) (some (x, a, []))) (hw : ∀ env, swapsWith (.List [] lp) (some (.Name x p)) pos.line env = pure false := by intro _; rfl) : S1 G n S ρ none (.Assign [.Name x p] (.List [] lp) pos) P := by
  rintro K rfl R Y C s g Q E T q
  refine wpAny_Assign_Name (PySem.wpAny_List (spliced_none ⟨by simp [sizeLine], ?_⟩)) (hw _)
  exact storeOwn (vs := []) (k := 0) T (fun _ _ e => Heap.get?_push_of_some _ e) (Nat.le_refl _) (Heap.get?_push_size _ rfl) .nil rfl T.bare hl hk fun s3 T3 => q _ .next _ _ _ _ (p' _) T3 (VLe.refl _) rfl
/-- it is full: nobody changes it any more -/
theorem St.freeze {K : Cx} {x : Str} {a : Addr} {ds : List D} {s : Shared} {g : View} (T : St K ρ (some (x, a, ds)) s g) (hl : K.S.names.lookup x = some .local) : ∃ g', St K (upd ρ x (.lst ds)) none s g' ∧ VLe g g' := by
  obtain ⟨m, hm, hv, vs, k, h1, h2, h3, h4, h5, h6, h7, h8⟩ := T.ns
  refine ⟨vput g a (lstO vs k), ⟨VIn.put T.vin h2, fun b hb => ?_, T.keep, T.os, T.bare, T.lo, ?_, T.kL, fun b hb => ?_, ⟨m, hm, fun y d e1 e2 => ?_, trivial⟩, T.cx, fun y c h => ?_⟩, VLe.put h4⟩
  · rw [vput_ne (Nat.ne_of_lt (Nat.lt_of_lt_of_le hb h5))]; exact T.old b hb
  · rw [vput_ne (Ne.symm h6)]; exact T.gL
  · obtain ⟨e1, o, e2⟩ := T.mu b hb
    refine ⟨?_, o, e2⟩
    rw [vput_ne (fun q => by rw [q, h7] at e2; cases e2)]; exact e1
  · unfold upd at e2
    by_cases q : y = x
    · rw [if_pos q] at e2; cases e2
      exact ⟨.ref a, by rw [q]; exact h1, Rd.mkLst (vput_at ..) (RdL.mono (VLe.put h4) _ _ h3)⟩
    · rw [if_neg q] at e2
      obtain ⟨u, e, ru⟩ := hv y d e1 e2
      exact ⟨u, e, Rd.mono (VLe.put h4) _ _ ru⟩
  · obtain ⟨e1, e2, ov, e3, e4⟩ := T.ce y c h
    refine ⟨by rw [vput_ne (h8 y c h)]; exact e1, e2, ov, e3, fun d q1 q2 => ?_⟩
    unfold upd at q2
    by_cases q : y = x
    · rw [q, hl] at q1; cases q1
    · rw [if_neg q] at q2
      obtain ⟨v, r1, r2⟩ := e4 d q1 q2
      exact ⟨v, r1, Rd.mono (VLe.put h4) _ _ r2⟩
theorem SX.freeze {x : Str} {a : Addr} {ds : List D} {b : List Stmt} {P : Pst} (hl : S.names.lookup x = some .local) (h : SX G n S (upd ρ x (.lst ds)) none b P) : SX G n S ρ (some (x, a, ds)) b P := by
  rintro K rfl R Y C s g Q E T q
  obtain ⟨g', T', l'⟩ := T.freeze hl
  exact h K rfl R Y C _ _ _ _ T' fun f fl ρ2 ow2 s2 g2 p2 T2 l2 r2 => q _ _ _ _ _ _ p2 T2 (l'.trans l2) r2
/-- its object has changed, nothing else -/
theorem St.turn {K : Cx} {x : Str} {ds ds' : List D} {s s' : Shared} {g : View} {a : Addr} {vs' : List Value} {k' : Nat} (T : St K ρ (some (x, a, ds)) s g) (hk : ∀ b o, b ≠ a → s.heap.get? b = some o → s'.heap.get? b = some o) (ho : s'.heap.get? a = some (lstO vs' k')) (hr : RdL g ds' vs') (hos : s'.os = s.os) (hg : K.Gn s'.gens) :
    St K ρ (some (x, a, ds')) s' g := by
  obtain ⟨m, hm, hv, vs, k, h1, h2, h3, h4, h5, h6, h7, h8⟩ := T.ns
  have hm2 : s'.heap.Ns K.L m := by
    obtain ⟨oL, es, ep, eL, r⟩ := hm
    exact ⟨oL, es, ep, hk _ _ (Ne.symm h6) eL, r⟩
  refine ⟨fun b o e => hk b o (fun q => by rw [q, h4] at e; cases e) (T.vin b o e), T.old, fun b o e => hk b o (fun q => by rw [q, h7] at e; cases e) (T.keep b o e), hos.trans T.os, hg, T.lo, T.gL, T.kL, T.mu, ⟨m, hm2, hv, vs', k', h1, ho, hr, h4, h5, h6, h7, h8⟩, T.cx, fun y c h => ?_⟩
  obtain ⟨e1, e2, ov, ⟨oc, e3, e4⟩, e5⟩ := T.ce y c h
  exact ⟨e1, e2, ov, ⟨oc, hk _ _ (h8 y c h) e3, e4⟩, e5⟩
theorem St.ownAt {K : Cx} {x : Str} {ds : List D} {s : Shared} {g : View} {a : Addr} (T : St K ρ (some (x, a, ds)) s g) : ∃ vs k, s.heap.get? a = some (lstO vs k) ∧ RdL g ds vs := by
  obtain ⟨m, hm, hv, vs, k, h1, h2, h3, _⟩ := T.ns
  exact ⟨vs, k, h2, h3⟩
/-- the name itself, read -/
theorem loadOwn {K : Cx} {x : Str} {ds : List D} {s : Shared} {g : View} {a : Addr} {pos : Pos} {Q : Value → Shared → Prop} {E : Value → Shared → Prop} (T : St K ρ (some (x, a, ds)) s g) (hl : K.S.names.lookup x = some .local) (hk : K.S.kind = .function) (hd : (x == ("__debug__" : Str)) = false)
    (q : Q (.ref a) s) : wpAny (model G.prog K.w) K.A (eval (.Name x pos) K.env) Q E s := by
  obtain ⟨m, hm, hv, vs, k, h1, h2, h3, _⟩ := T.ns
  exact wpAny_Name (wpAny_loadName_local (env := K.env) hk hl hm h1 q) hd
theorem S1.append {x : Str} {p ap pos pos' : Pos} {e : Expr} {a : Addr} {ds : List D} {d : D} {P : Pst} (hl : S.names.lookup x = some .local) (hk : S.kind = .function) (hd : (x == ("__debug__" : Str)) = false) (h : EX G n S ρ (some (x, a, ds)) e d) (hz : ds.length ≤ sizeLine) (p' : P .next ρ (some (x, a, ds ++ [d])))
    (hb : ∀ env, attributeBase (.Name x p) (Str.ofString "append") env (eval (.Name x p) env) = eval (.Name x p) env := by intro _; rfl)
    (hq1 : ∀ env, ((((backTo pos (starEach [e] env)).all fun x => !x.fst) && (backToKw pos (keywordEach [] env)).all fun x => x.fst.isSome) && decide (([e].length + ([] : List Keyword).length + if ([] : List Keyword).isEmpty = true then 0 else 1) < 30)) = true := by intro _; rfl)
    (hq2 : (ap.endLine == pos.line) = true := by rfl) (hq3 : ∀ env, backTo pos (starEach [e] env) = [(false, eval e env)] := by intro _; rfl) (hq4 : ∀ K : Cx, K.S = S → interactive K.env = false)
    (hq5 : ∀ env, swapsWith (.Call (.Attribute (.Name x p) (Str.ofString "append") ap) [e] [] pos) none pos'.line env = pure false := by intro _; rfl) :
    S1 G n S ρ (some (x, a, ds)) (.Expr (.Call (.Attribute (.Name x p) (Str.ofString "append") ap) [e] [] pos) pos') P := by
  rintro K rfl R Y C s g Q E T q
  obtain ⟨vs, k, ho, hr⟩ := T.ownAt
  refine wpAny_Expr_any (wpAny_Call_append (hb _) (hq1 _) hq2 (hq3 _) (loadOwn T hl hk hd ⟨a, vs.toArray, rfl, ⟨_, k, ho, rfl, rfl, rfl⟩, ?_⟩)) (hq4 K rfl) (hq5 _)
  refine h K rfl R Y _ _ _ _ T fun v s1 g1 T1 l1 r1 => ?_
  obtain ⟨vs1, k1, ho1, hr1⟩ := T1.ownAt
  refine wpAny_list_append_plain (items := vs1.toArray) ⟨k1, ho1⟩ (fun h' ⟨k2, hp⟩ hs => ?_) (by rw [List.size_toArray, hr1.length]; exact hz)
  refine q _ .next _ _ _ _ p' (T1.turn (vs' := vs1 ++ [v]) (k' := k2) (fun b o hb e => (hs.2 b hb).trans e) (by simpa using hp) (hr1.snoc r1) rfl T1.bare) l1 rfl
theorem EX.lenOwn {f x : Str} {np p pos : Pos} {a : Addr} {ds : List D} (hf : NX G S f (.builtin "len")) (hl : S.names.lookup x = some .local) (hk : S.kind = .function) (hd : (x == ("__debug__" : Str)) = false) (hz : (ds.length : Int) < 2 ^ 63) :
    EX G n S ρ (some (x, a, ds)) (.Call (.Name f np) [.Name x p] [] pos) (.int ds.length) := by
  rintro K rfl R Y s g Q E T q
  refine wpAny_Call_NameR (hf K rfl Y _ _ _ _ _ _ _ T ?_)
  refine callWith_builtin rfl (evalArgs_plain ?_)
  refine spliced_more (env := K.env) (e := .Name x p) (rest := []) (pos := pos) (loadOwn T hl hk hd (spliced_none ?_)) rfl
  obtain ⟨vs, k, ho, hr⟩ := T.ownAt
  refine len_list (isList_of ho) (by rw [List.size_toArray, hr.length]; exact hz) ?_
  rw [List.size_toArray, hr.length]
  exact q _ _ _ (T.toks _) (VLe.refl _) (Rd.mkInt _ _)
theorem EX.itemOwn {x : Str} {p pos : Pos} {i : Expr} {a : Addr} {ds : List D} {k : Int} {d : D} (hl : S.names.lookup x = some .local) (hk : S.kind = .function) (hd : (x == ("__debug__" : Str)) = false) (hi : EX G n S ρ (some (x, a, ds)) i (.int k)) (h0 : 0 ≤ k) (h1 : k < 2 ^ 63) (hg : ds[k.toNat]? = some d)
    (hs : ∀ x y, subscripted i false x y = operate [x, y] (getItem x y) := by intro _ _; rfl) : EX G n S ρ (some (x, a, ds)) (.Subscript (.Name x p) i pos) d := by
  rintro K rfl R Y s g Q E T q
  refine Subscript_ (loadOwn T hl hk hd (hi K rfl R Y _ _ _ _ T fun y s1 g1 T1 l1 r1 => ?_))
  obtain ⟨vs, m, ho, hr⟩ := T1.ownAt
  obtain ⟨_, rfl⟩ := Rd.int_iff.mp r1
  obtain ⟨u, hu, ru⟩ := hr.get hg
  have hL := isList_of ho
  exact tail_any hL.typeIs slot_list_getitem.lookup (wpAny_getItem_list hL h0 h1 (by simpa using hu) (q _ _ _ T1 l1 ru)) (hs _ _)
theorem S1.setOwn {x : Str} {p sp pos : Pos} {i e : Expr} {a : Addr} {ds : List D} {k : Int} {d : D} {P : Pst} (hl : S.names.lookup x = some .local) (hk : S.kind = .function) (hd : (x == ("__debug__" : Str)) = false) (he : EX G n S ρ (some (x, a, ds)) e d) (hi : EX G n S ρ (some (x, a, ds)) i (.int k)) (h0 : 0 ≤ k) (h1 : k < 2 ^ 63) (hg : k < ds.length)
    (p' : P .next ρ (some (x, a, ds.set k.toNat d))) (hw : ∀ env, swapsWith e (some (.Subscript (.Name x p) i sp)) pos.line env = pure false := by intro _; rfl) : S1 G n S ρ (some (x, a, ds)) (.Assign [.Subscript (.Name x p) i sp] e pos) P := by
  rintro K rfl R Y C s g Q E T q
  refine PySem.wpAny_Assign_Subscript (he K rfl R Y _ _ _ _ T fun v s1 g1 T1 l1 r1 => loadOwn T1 hl hk hd (hi K rfl R Y _ _ _ _ T1 fun y s2 g2 T2 l2 r2 => ?_)) (hw _)
  obtain ⟨vs, m, ho, hr⟩ := T2.ownAt
  obtain ⟨_, rfl⟩ := Rd.int_iff.mp r2
  refine ki_setAt ho h0 h1 (by rw [List.size_toArray, hr.length]; exact hg) ?_
  have hn := get?_update_seq (c := "list") ho (·.setIfInBounds k.toNat v)
  refine q _ .next _ _ _ _ p' (T2.turn (vs' := vs.set k.toNat v) (k' := m) (fun b o hb e => (Heap.get?_update_other _ _ (Ne.symm hb)).trans e) (by simpa using hn) (hr.set (Rd.mono l2 _ _ r1)) rfl T2.bare) (l1.trans l2) rfl
/-- .. made out of a range -/
theorem S1.ownRange {x f : Str} {p np pos cp : Pos} {e : Expr} {b c st : Int} {N : Nat} {P : Pst} (hf : NX G S f (.type "list")) (hr : RX G n S ρ none e b c st) (hsm : Builtin.Range.small b c st = true) (hN : Builtin.Range.rangeSize b c st = (N : Int)) (hz : N ≤ 2 ^ 24) (hl : S.names.lookup x = some .local) (hk : S.kind = .function)
    (p' : ∀ a, P .next (del ρ x) (some (x, a, rangeL b st N))) (hw : ∀ env, swapsWith (.Call (.Name f np) [e] [] cp) (some (.Name x p)) pos.line env = pure false := by intro _; rfl) (he : ∀ env, starEach (e :: []) env = (false, eval e env) :: starEach [] env := by intro _; rfl) : S1 G n S ρ none (.Assign [.Name x p] (.Call (.Name f np) [e] [] cp) pos) P := by
  rintro K rfl R Y C s g Q E T q
  refine wpAny_Assign_Name (wpAny_Call_NameR (hf K rfl Y _ _ _ _ _ _ _ T (Pv.callWith_type1 (spliced_more (hr K rfl R Y _ _ _ _ T fun r s1 g1 t u v T1 l1 r1 => spliced_none ?_) (he _)) (he _) rfl))) (hw _)
  refine call_list_range R.handled r1 hsm hN hz fun h2 tk acc c' kp hget hit => ?_
  have hrd : RdL g1 (rangeL b st N) acc.toList := by
    obtain ⟨hsz, hall⟩ := hit
    have key : ∀ (ds : List D) (vs : List Value), vs.length = ds.length → (∀ (i : Nat) v d, vs[i]? = some v → ds[i]? = some d → Rd g1 d v) → RdL g1 ds vs := by
      intro ds
      induction ds with
      | nil => intro vs hl _; cases vs with | nil => exact .nil | cons _ _ => simp at hl
      | cons d ds ih => intro vs hl h; cases vs with
        | nil => simp at hl
        | cons v vs => exact .cons (h 0 v d rfl rfl) (ih vs (by simpa using hl) fun i v' d' h1 h2 => h (i + 1) v' d' (by simpa using h1) (by simpa using h2))
    refine key _ _ (by simp [rangeL, hsz]) fun i v d hv hd => ?_
    obtain ⟨t', rfl⟩ := hall i v (by simpa using hv)
    unfold rangeL at hd
    rw [List.getElem?_map, Option.map_eq_some_iff] at hd
    obtain ⟨j, hj, rfl⟩ := hd
    have : j = i := by
      rw [List.getElem?_eq_some_iff] at hj
      obtain ⟨_, e⟩ := hj
      simpa using e.symm
    subst this
    exact Rd.mkInt _ _
  exact storeOwn (vs := acc.toList) (k := c') T1 kp (Nat.le_refl _) (by simpa using hget) hrd rfl T1.bare hl hk fun s3 T3 => q _ .next _ _ _ _ (p' _) T3 l1 rfl
end
end Mine
namespace Mine
section
variable {G : Gd} {n : Nat} {S : Scope} {ρ : Rho} {ow : Own}
/-! slices of texts -/
theorem EX.sliceFrom {v e : Expr} {p pos : Pos} {x : Str} {j : Int} (hv : EX G n S ρ ow v (.str x)) (he : EX G n S ρ ow e (.int j)) (hz : x.length ≤ sizeLine) : EX G n S ρ ow (.Subscript v (.Slice (some e) none none p) pos) (.str (Txt.slice x (some j) none)) := by
  rintro K rfl R Y s g Q E T q
  refine Subscript_ (hv K rfl R Y _ _ _ _ T fun y s1 g1 T1 l1 r1 => PySem.wpAny_Slice (wpAny_evalPart_some (he K rfl R Y _ _ _ _ T1 fun u s2 g2 T2 l2 r2 => wpAny_evalPart_none (wpAny_evalPart_none ?_))))
  obtain ⟨t, rfl⟩ := Rd.str_iff.mp r1
  obtain ⟨t', rfl⟩ := Rd.int_iff.mp r2
  obtain ⟨m, F, N, back⟩ := T2.toFr
  refine slice_strN_sn F N (fun h' t' k F' N' => ?_) rfl (by intro _; cases v <;> rfl) hz
  obtain ⟨kp, kL⟩ := back h' F' N'
  exact q _ _ _ (T2.sameL (s' := { s2 with heap := h', toks := k }) kp kL rfl T2.bare) (l1.trans l2) (Rd.mkStr _ _)
theorem EX.sliceTo {v e : Expr} {p pos : Pos} {x : Str} {j : Int} (hv : EX G n S ρ ow v (.str x)) (he : EX G n S ρ ow e (.int j)) (hz : x.length ≤ sizeLine) : EX G n S ρ ow (.Subscript v (.Slice none (some e) none p) pos) (.str (Txt.slice x none (some j))) := by
  rintro K rfl R Y s g Q E T q
  refine Subscript_ (hv K rfl R Y _ _ _ _ T fun y s1 g1 T1 l1 r1 => PySem.wpAny_Slice (wpAny_evalPart_none (wpAny_evalPart_some (he K rfl R Y _ _ _ _ T1 fun u s2 g2 T2 l2 r2 => wpAny_evalPart_none ?_))))
  obtain ⟨t, rfl⟩ := Rd.str_iff.mp r1
  obtain ⟨t', rfl⟩ := Rd.int_iff.mp r2
  obtain ⟨m, F, N, back⟩ := T2.toFr
  refine slice_strN_ns F N (fun h' t' k F' N' => ?_) rfl (by intro _; cases v <;> rfl) hz
  obtain ⟨kp, kL⟩ := back h' F' N'
  exact q _ _ _ (T2.sameL (s' := { s2 with heap := h', toks := k }) kp kL rfl T2.bare) (l1.trans l2) (Rd.mkStr _ _)
theorem EX.sliceNone {v e : Expr} {p pos : Pos} {x : Str} (hv : EX G n S ρ ow v (.str x)) (he : EX G n S ρ ow e .none) (hz : x.length ≤ sizeLine) : EX G n S ρ ow (.Subscript v (.Slice none (some e) none p) pos) (.str (Txt.slice x none none)) := by
  rintro K rfl R Y s g Q E T q
  refine Subscript_ (hv K rfl R Y _ _ _ _ T fun y s1 g1 T1 l1 r1 => PySem.wpAny_Slice (wpAny_evalPart_none (wpAny_evalPart_some (he K rfl R Y _ _ _ _ T1 fun u s2 g2 T2 l2 r2 => wpAny_evalPart_none ?_))))
  obtain ⟨t, rfl⟩ := Rd.str_iff.mp r1
  obtain rfl := Rd.none_iff.mp r2
  obtain ⟨m, F, N, back⟩ := T2.toFr
  refine slice_strN_nn F N (fun h' t' k F' N' => ?_) rfl (by intro _; cases v <;> rfl) hz
  obtain ⟨kp, kL⟩ := back h' F' N'
  exact q _ _ _ (T2.sameL (s' := { s2 with heap := h', toks := k }) kp kL rfl T2.bare) (l1.trans l2) (Rd.mkStr _ _)
/-- n or None -/
theorem EX.orNone {x e : Expr} {pos : Pos} {k : Int} (h : EX G n S ρ ow x (.int k)) (he : EX G n S ρ ow e .none) : EX G n S ρ ow (.BoolOp .Or [x, e] pos) (if k = 0 then .none else .int k) := by
  rintro K rfl R Y s g Q E T q
  show wpAny _ _ (boolOp pos .Or [eval x K.env, eval e K.env]) Q E s
  show wpAny _ _ (eval x K.env >>= fun v => standAt pos >>= fun _ => holding [v] (truthy v) >>= fun t => match BoolOp.Or, t with | .And, false => pure v | .Or, true => pure v | _, _ => boolOp pos .Or [eval e K.env]) Q E s
  refine wpAny_bind (h K rfl R Y _ _ _ _ T fun v s1 g1 T1 l1 r1 => wpAny_bind (wpAny_standAt (wpAny_bind (wpAny_holding ?_))))
  obtain ⟨t, rfl⟩ := Rd.int_iff.mp r1
  refine PyProof.Rows.truthy_int ?_
  by_cases hk : k = 0
  · subst hk
    exact he K rfl R Y _ _ _ _ T1 fun v s2 g2 T2 l2 r2 => q _ _ _ T2 (l1.trans l2) (by simpa using r2)
  · have e1 : (k != 0) = true := by simpa using hk
    rw [e1]
    exact wpAny_pure (q _ _ _ T1 l1 (by rw [if_neg hk]; exact Rd.mkInt _ _))
theorem EX.lower {o : Expr} {ap pos : Pos} {x : Str} (h : EX G n S ρ ow o (.str x)) (hz : x.length ≤ 5592405) (hq2 : (ap.endLine == pos.line) = true := by rfl)
    (hb : ∀ env, attributeBase o (Str.ofString "lower") env (eval o env) = eval o env := by intro _; rfl) : EX G n S ρ ow (.Call (.Attribute o (Str.ofString "lower") ap) [] [] pos) (.str (Txt.lower x)) := by
  rintro K rfl R Y s g Q E T q
  refine wpAny_Call_method (hb _) rfl hq2 F.plainAttrs_str F.slot_str_lower rfl (h K rfl R Y _ _ _ _ T fun v s1 g1 T1 l1 r1 => ?_)
  obtain ⟨t, rfl⟩ := Rd.str_iff.mp r1
  refine ⟨rfl, (fun a e => by cases e), ?_⟩
  exact callWith_method0 (SCL.lower hz fun _ => q _ _ _ (T1.toks _) l1 (Rd.mkStr _ _))
/-! built-ins -/
theorem OP.lenS {x : Str} (hz : (x.length : Int) < 2 ^ 63) : OP G n (.builtin "len") [.str x] (.int x.length) := by
  intro K R Y ρ ow s g vs Q E T r q
  obtain ⟨v, r1, rfl, k1, r⟩ := RdL.cons_iff.mp r
  obtain rfl := RdL.nil_iff.mp r
  obtain ⟨t, rfl⟩ := Rd.str_iff.mp k1
  exact PyProof.Rows.len_str (by omega) (q _ _ _ (T.toks _) (VLe.refl _) (Rd.mkInt _ _))
end
def minI (a b : Int) : Int := if b < a then b else a
theorem free_of {x y : Str} {a : Addr} {ds : List D} (h : (x == y) = false) : Free (some (x, a, ds)) y := fun q => by rw [q] at h; simp at h
section
variable {G : Gd} {n : Nat} {S : Scope} {ρ : Rho} {ow : Own}
theorem OP.min2 {a b : Int} : OP G n (.builtin "min") [.int a, .int b] (.int (minI a b)) := by
  intro K R Y ρ ow s g vs Q E T r q
  obtain ⟨v, r1, rfl, k1, r⟩ := RdL.cons_iff.mp r
  obtain ⟨v2, r2, rfl, k2, r⟩ := RdL.cons_iff.mp r
  obtain rfl := RdL.nil_iff.mp r
  obtain ⟨t, rfl⟩ := Rd.int_iff.mp k1
  obtain ⟨u, rfl⟩ := Rd.int_iff.mp k2
  refine PySem.min_two_ints R.handled fun h' tk hk => q _ _ _ (T.same (s' := { s with heap := h', toks := tk }) hk rfl T.bare) (VLe.refl _) ?_
  unfold minI
  by_cases c : b < a
  · rw [if_pos c, if_pos c]; exact Rd.mkInt _ _
  · rw [if_neg c, if_neg c]; exact Rd.mkInt _ _
theorem OP.max2 {a b : Int} : OP G n (.builtin "max") [.int a, .int b] (.int (if b > a then b else a)) := by
  intro K R Y ρ ow s g vs Q E T r q
  obtain ⟨v, r1, rfl, k1, r⟩ := RdL.cons_iff.mp r
  obtain ⟨v2, r2, rfl, k2, r⟩ := RdL.cons_iff.mp r
  obtain rfl := RdL.nil_iff.mp r
  obtain ⟨t, rfl⟩ := Rd.int_iff.mp k1
  obtain ⟨u, rfl⟩ := Rd.int_iff.mp k2
  refine PySem.max_two_ints R.handled fun h' tk hk => q _ _ _ (T.same (s' := { s with heap := h', toks := tk }) hk rfl T.bare) (VLe.refl _) ?_
  by_cases c : b > a
  · rw [if_pos c, if_pos c]; exact Rd.mkInt _ _
  · rw [if_neg c, if_neg c]; exact Rd.mkInt _ _
theorem OP.round {x : UInt64} (hf : Float64.isFinite x = true) (hn : Float64.isNaN x = false) (hi : Float64.isInf x = false) : OP G n (.builtin "round") [.flt x] (.int (Flt.toInt Float64.nearestOf x)) := by
  intro K R Y ρ ow s g vs Q E T r q
  obtain ⟨v, r1, rfl, k1, r⟩ := RdL.cons_iff.mp r
  obtain rfl := RdL.nil_iff.mp r
  obtain ⟨t, rfl⟩ := Rd.flt_iff.mp k1
  exact Flt.call_round_float R.handled (fun h => by rw [hn] at h; cases h) (fun h => by rw [hi] at h; cases h) fun _ => q _ _ _ (T.toks _) (VLe.refl _) (Rd.mkInt _ _)
theorem OP.copy {ds : List D} (hz : ds.length ≤ sizeLine) : OP G n (.type "list") [.lst ds] (.lst ds) := by
  intro K R Y ρ ow s g vs Q E T r q
  obtain ⟨v, r1, rfl, k1, r⟩ := RdL.cons_iff.mp r
  obtain rfl := RdL.nil_iff.mp r
  obtain ⟨a, us, k, rfl, e, hr⟩ := Rd.lst_iff.mp k1
  refine call_list_seq a (.inl rfl) (T.vin _ _ e) rfl rfl (fun h' c' kp ho => ?_) (by rw [List.size_toArray, hr.length]; exact hz)
  obtain ⟨T', le⟩ := T.frz (s' := { s with heap := h' }) kp (Nat.le_refl _) (o := lstO us c') ho rfl T.bare
  exact q _ _ _ T' le (Rd.mkLst (vput_at ..) (RdL.mono le _ _ hr))
/-! two targets -/
theorem S1.assign2 {x y : Str} {px py pos : Pos} {e : Expr} {d : D} {P : Pst} (hx : Stor G S x) (hy : Stor G S y) (h : EX G n S ρ ow e d) (p' : P .next (upd (upd ρ x d) y d) ow) (fx : Free ow x) (fy : Free ow y)
    (hw : ∀ env, (assignEach [.Name x px, .Name y py] env).map (·.2) = [PySem.assign (.Name x px) env, PySem.assign (.Name y py) env] := by intro _; rfl) (hs : ∀ env, swappedStores [.Name x px, .Name y py] e env = pure none := by intro _; rfl) :
    S1 G n S ρ ow (.Assign [.Name x px, .Name y py] e pos) P := by
  rintro K rfl R Y C s g Q E T q
  refine PySem.wpAny_Assign_two (h K rfl R Y _ _ _ _ T fun v s1 g1 T1 l1 r1 => wpAny_assign_Name (hx K rfl C _ _ _ _ _ _ _ _ T1 fx r1 fun s2 T2 => wpAny_assign_Name (hy K rfl C _ _ _ _ _ _ _ _ T2 fy r1 fun s3 T3 => q _ .next _ _ _ _ p' T3 l1 rfl))) (hw _) (hs _)
end
end Mine
namespace Mine
/-- an iterator over these data stands at I -/
def ItOk (G : Gd) (K : Cx) (g : View) (I : Addr) (h : Heap) (ds : List D) : Prop := ∃ fp N PI Si, Walks G.prog K.w K.A I fp [I] N PI Si ∧ Si 0 h ∧ (∀ b ∈ fp, b = I ∨ ∃ o, g b = some o) ∧ (∀ i h, Si i h → ∃ o, h.get? I = some o ∧ ∀ ov, o.data ≠ .cell ov) ∧ ds.length = N ∧
  (∀ i v, PI i v → ∀ d, ds[i]? = some d → Rd g d v) ∧ ∀ es k p i (s : Shared) v (Q : Unit → Shared → Prop) (E : Value → Shared → Prop), Si i s.heap → Q () s → wpAny (model G.prog K.w) K.A (letOwnedTupleGo (.Tuple es k p) (.ref I) v) Q E s
def IX (G : Gd) (n : Nat) (S : Scope) (ρ : Rho) (ow : Own) (it : Expr) (ds : List D) : Prop :=
  ∀ (K : Cx), K.S = S → Room K.A n → K.On G → ∀ (s : Shared) (g : View) (Q : Value → Shared → Prop) (E : Value → Shared → Prop), St K ρ ow s g →
    (∀ I s0 s' g', St K ρ ow s0 g' → VLe g g' → s0.heap.objs.size ≤ I → Kp s0.heap s'.heap → s'.os = s0.os → K.Gn s'.gens → ItOk G K g' I s'.heap ds → Q (.ref I) s') → wpAny (model G.prog K.w) K.A (eval it K.env) (fun x s1 => wpAny (model G.prog K.w) K.A (pyIter x) Q E s1) E s
section
variable {G : Gd} {n : Nat} {S : Scope} {ρ : Rho} {ow : Own}
theorem IX.list {it : Expr} {ds : List D} (hi : EX G n S ρ ow it (.lst ds)) : IX G n S ρ ow it ds := by
  rintro K rfl R Y s g Q E T q
  refine hi K rfl R Y _ _ _ _ T fun v s1 g1 T1 l1 r1 => ?_
  obtain ⟨l, vs, k, rfl, el, hr⟩ := Rd.lst_iff.mp r1
  have hL := isList_of (T1.vin _ _ el)
  refine wpAny_pyIter_list hL ?_
  have hne : l ≠ s1.heap.objs.size := Nat.ne_of_lt (Heap.lt_size (T1.vin _ _ el))
  refine q _ _ _ _ T1 l1 (Nat.le_refl _) (fun _ _ e => Heap.get?_push_of_some _ e) rfl T1.bare ⟨_, _, _, _, Walks.list R.handled s1.heap.objs.size l hne vs.toArray, ⟨⟨_, Heap.get?_push_size _ rfl, rfl, rfl⟩, hL.at fun o e => Heap.get?_push_of_some _ e⟩, fun c hc => ?_, fun i h hi' => ?_, by rw [List.size_toArray, hr.length], fun i v hv d hd => ?_, fun es k p i s2 v Q2 E2 hi' hq => ?_⟩
  · simp only [List.mem_cons, List.not_mem_nil, or_false] at hc
    rcases hc with rfl | rfl
    · exact .inl rfl
    · exact .inr ⟨_, el⟩
  · obtain ⟨⟨o, e1, e2, e3⟩, _⟩ := hi'
    exact ⟨o, e1, fun ov q => by rw [e3] at q; cases q⟩
  · obtain ⟨u, hu, ru⟩ := hr.get hd
    have : vs[i]? = some v := by simpa using hv
    rw [hu] at this; cases this; exact ru
  · cases v with
    | ref a => exact wpAny_letOwnedTupleGo_listiter hi'.1 hq
    | _ => exact wpAny_pure hq
theorem IX.tuple {it : Expr} {ds : List D} (hi : EX G n S ρ ow it (.tup ds)) : IX G n S ρ ow it ds := by
  rintro K rfl R Y s g Q E T q
  refine hi K rfl R Y _ _ _ _ T fun v s1 g1 T1 l1 r1 => ?_
  obtain ⟨l, vs, k, rfl, el, hr⟩ := Rd.tup_iff.mp r1
  have hL := isTuple_of (T1.vin _ _ el)
  refine wpAny_pyIter_tuple hL ?_
  have hne : l ≠ s1.heap.objs.size := Nat.ne_of_lt (Heap.lt_size (T1.vin _ _ el))
  refine q _ _ _ _ T1 l1 (Nat.le_refl _) (fun _ _ e => Heap.get?_push_of_some _ e) rfl T1.bare ⟨_, _, _, _, Walks.tuple R.handled s1.heap.objs.size l hne vs.toArray, ⟨⟨_, Heap.get?_push_size _ rfl, rfl, rfl⟩, hL.push _⟩, fun c hc => ?_, fun i h hi' => ?_, by rw [List.size_toArray, hr.length], fun i v hv d hd => ?_, fun es k p i s2 v Q2 E2 hi' hq => ?_⟩
  · simp only [List.mem_cons, List.not_mem_nil, or_false] at hc
    rcases hc with rfl | rfl
    · exact .inl rfl
    · exact .inr ⟨_, el⟩
  · obtain ⟨⟨o, e1, e2, e3⟩, _⟩ := hi'
    exact ⟨o, e1, fun ov q => by rw [e3] at q; cases q⟩
  · obtain ⟨u, hu, ru⟩ := hr.get hd
    have : vs[i]? = some v := by simpa using hv
    rw [hu] at this; cases this; exact ru
  · cases v with
    | ref a =>
      obtain ⟨⟨o, ho, hc, hd⟩, _⟩ := hi'
      unfold letOwnedTupleGo
      refine wpAny_bind (wpAny_load ho ?_)
      simp only [hc, hd]
      exact wpAny_pure hq
    | _ => exact wpAny_pure hq
theorem IX.range {it : Expr} {a e c : Int} {N : Nat} (hi : RX G n S ρ ow it a e c) (hsm : Builtin.Range.small a e c = true) (hN : Builtin.Range.rangeSize a e c = (N : Int)) : IX G n S ρ ow it (rangeL a c N) := by
  rintro K rfl R Y s g Q E T q
  refine hi K rfl R Y _ _ _ _ T fun r s1 g1 t1 u1 v1 T1 l1 r1 => ?_
  refine wpAny_pyIter_range r1 hsm ?_
  rw [hN]
  refine q _ _ _ _ T1 l1 (Nat.le_refl _) (fun _ _ e => Heap.get?_push_of_some _ e) rfl T1.bare ⟨_, _, _, _, Walks.range R.handled s1.heap.objs.size a c N, ?_, fun c hc => .inl (by simpa using hc), fun i h hi' => ⟨_, hi', fun ov q => by cases q⟩, by simp [rangeL], fun i v hv d hd => ?_, fun es k p i s2 v Q2 E2 hi' hq => ?_⟩
  · show IsRangeIter _ _ _ _ _
    have := Heap.get?_push_size s1.heap (o := { cls := Value.type "range_iterator", data := Data.fields #[rawInt a, rawInt (N : Int), rawInt c] }) rfl
    simpa [IsRangeIter] using this
  · obtain ⟨t, rfl⟩ := hv
    unfold rangeL at hd
    rw [List.getElem?_map, Option.map_eq_some_iff] at hd
    obtain ⟨j, hj, rfl⟩ := hd
    have : j = i := by
      rw [List.getElem?_eq_some_iff] at hj
      obtain ⟨_, e⟩ := hj
      simpa using e.symm
    subst this
    exact Rd.mkInt _ _
  · cases v with
    | ref a =>
      have ho : s2.heap.get? _ = some _ := hi'
      unfold letOwnedTupleGo
      refine wpAny_bind (wpAny_load ho ?_)
      exact wpAny_pure hq
    | _ => exact wpAny_pure hq
/-! what a comprehension's own frame sees -/
def clo1 (cl : List (Str × Addr)) (cs : List (Str × Addr)) (x : Str × NameKind) : List (Str × Addr) := if x.2 == .free then (x.1, (cl.lookup x.1).getD 0) :: cs else cs
def clo (names : List (Str × NameKind)) (cl : List (Str × Addr)) (acc : List (Str × Addr)) : List (Str × Addr) := names.foldl (clo1 cl) acc
theorem forIn_fold {α β : Type} {l : List α} {f : α → β → Sem (ForInStep β)} {k : β → α → β} (c : β) (h : ∀ x ∈ l, ∀ c, f x c = pure (.yield (k c x))) : forIn l c f = pure (l.foldl k c) := by
  induction l generalizing c with
  | nil => rfl
  | cons x l ih =>
    rw [List.forIn_cons, h x List.mem_cons_self, pure_bind]
    exact ih _ fun y hy => h y (List.mem_cons_of_mem _ hy)
theorem closure_eq {env : Env} {scope : Scope} (h : ∀ x ∈ scope.names, x.2 = .free → (env.cells.lookup x.1).isSome = true) : closureFor scope env = pure (clo scope.names env.cells []) := by
  simp only [closureFor]
  rw [forIn_fold (k := clo1 env.cells) [] (fun x hx c => by
    obtain ⟨n, kind⟩ := x
    by_cases hk : (kind == NameKind.free) = true
    · obtain ⟨a, ea⟩ := Option.isSome_iff_exists.mp (h _ hx (by simpa using hk))
      have e1 : cellOf env n = pure a := by unfold cellOf; rw [show env.cells.lookup n = some a from ea]
      unfold clo1
      simp only [hk, if_true, e1, pure_bind]
      rw [show env.cells.lookup n = some a from ea]; rfl
    · unfold clo1
      simp only [hk, Bool.false_eq_true, if_false])]
  rfl
theorem clo_lookup {cl : List (Str × Addr)} {y : Str} {c : Addr} : ∀ (names : List (Str × NameKind)) (acc : List (Str × Addr)), (clo names cl acc).lookup y = some c → acc.lookup y = some c ∨ ((y, NameKind.free) ∈ names ∧ c = (cl.lookup y).getD 0)
  | [], acc, h => .inl h
  | (n, k) :: r, acc, h => by
    have h' : (clo r cl (clo1 cl acc (n, k))).lookup y = some c := h
    rcases clo_lookup r _ h' with h1 | ⟨h1, h2⟩
    · unfold clo1 at h1
      by_cases hk : (k == NameKind.free) = true
      · simp only [hk, if_true, List.lookup_cons] at h1
        cases hy : y == n with
        | true =>
          rw [hy] at h1
          have e1 : y = n := by simpa using hy
          have e2 : k = .free := by simpa using hk
          subst e1; subst e2
          exact .inr ⟨.head _, (Option.some.inj h1).symm⟩
        | false => rw [hy] at h1; exact .inl h1
      · simp only [hk, Bool.false_eq_true, if_false] at h1
        exact .inl h1
    · exact .inr ⟨.tail _ h1, h2⟩
theorem clo_some {cl : List (Str × Addr)} {y : Str} : ∀ (names : List (Str × NameKind)) (acc : List (Str × Addr)), ((acc.lookup y).isSome = true ∨ (y, NameKind.free) ∈ names) → ((clo names cl acc).lookup y).isSome = true
  | [], acc, h => by
    rcases h with h | h
    · exact h
    · cases h
  | (n, k) :: r, acc, h => by
    show ((clo r cl (clo1 cl acc (n, k))).lookup y).isSome = true
    refine clo_some r _ ?_
    rcases h with h | h
    · left
      unfold clo1
      by_cases hk : (k == NameKind.free) = true
      · simp only [hk, if_true, List.lookup_cons]
        cases hy : y == n with
        | true => rfl
        | false => exact h
      · simp only [hk, Bool.false_eq_true, if_false]; exact h
    · cases h with
      | head => left; unfold clo1; simp
      | tail _ h => exact .inr h
theorem relab_cell {env : Env} {y : Str} : ∀ {names : List (Str × NameKind)}, (names.map fun (n, k) => if (k == NameKind.free && env.scope.kind == .function && env.kindOf n == some .cell) then (n, NameKind.cell) else (n, k)).lookup y = some .cell →
    (∀ x ∈ names, x.2 ≠ .cell) → (y, NameKind.free) ∈ names
  | [], h, _ => by simp at h
  | (n, k) :: r, h, hc => by
    have ih := @relab_cell env y r
    have h' : List.lookup y ((if (k == NameKind.free && env.scope.kind == .function && env.kindOf n == some .cell) = true then (n, NameKind.cell) else (n, k)) :: (r.map fun (n, k) => if (k == NameKind.free && env.scope.kind == .function && env.kindOf n == some .cell) then (n, NameKind.cell) else (n, k))) = some .cell := h
    by_cases q : (k == NameKind.free && env.scope.kind == .function && env.kindOf n == some .cell) = true
    · rw [if_pos q] at h'
      simp only [List.lookup_cons] at h'
      cases hy : y == n with
      | true =>
        have e1 : y = n := by simpa using hy
        have e2 : k = .free := by
          simp only [Bool.and_eq_true] at q
          simpa using q.1.1
        subst e1; subst e2; exact .head _
      | false => rw [hy] at h'; exact .tail _ (ih h' fun x hx => hc x (.tail _ hx))
    · rw [if_neg q] at h'
      simp only [List.lookup_cons] at h'
      cases hy : y == n with
      | true =>
        rw [hy] at h'
        exact absurd (Option.some.inj h') (hc (n, k) (.head _))
      | false => rw [hy] at h'; exact .tail _ (ih h' fun x hx => hc x (.tail _ hx))
/-- a target of a comprehension's own takes a datum -/
def AT0 (G : Gd) (S : Scope) (t : Expr) (d : D) (ρ : Rho) (ρ' : Rho) : Prop :=
  ∀ (K : Cx), K.S = S → K.A.handled = none → ∀ (s : Shared) (g : View) (v : Value) (Q : Unit → Shared → Prop) (E : Value → Shared → Prop), St K ρ none s g → Rd g d v →
    (∀ s' g', St K ρ' none s' g' → VLe g g' → Q () s') → wpAny (model G.prog K.w) K.A (assign t K.env v) Q E s
theorem store0 {K : Cx} {ρ : Rho} {s : Shared} {g : View} {x : Str} {v : Value} {d : D} {Q : Unit → Shared → Prop} {E : Value → Shared → Prop} (hl : K.S.names.lookup x = some .local) (hk : K.S.kind = .function) (T : St K ρ none s g) (r : Rd g d v)
    (q : ∀ s', St K (upd ρ x d) none s' g → Q () s') : wpAny (model G.prog K.w) K.A (storeName K.env x v) Q E s := by
  obtain ⟨m, hm, _⟩ := T.ns
  exact wpAny_storeName_local (env := K.env) hl hm (fun h' hn hs => q _ (T.setLoc (ow := none) trivial hm hn hs hl r)) (by show (K.S.kind == .class || (K.S.kind == .module && _)) = false; rw [hk]; rfl)
theorem AT0.name {x : Str} {pos : Pos} {d : D} (hl : S.names.lookup x = some .local) (hk : S.kind = .function) : AT0 G S (.Name x pos) d ρ (upd ρ x d) := by
  rintro K rfl R s g v Q E T r q
  exact wpAny_assign_Name (store0 hl hk T r fun s' T' => q _ _ T' (VLe.refl _))
theorem AT0.tuple {xs : List Str} {es : List Expr} {k : Nat} {pos : Pos} {ds : List D} (he : ∀ env, (assignEach es env).map (·.2) = xs.map fun x => assign (.Name x default) env) (he1 : ∀ env, (assignEach es env).findIdx? (·.1) = none) (hl : xs.length = ds.length) (hs : ∀ x ∈ xs, S.names.lookup x = some .local) (hk : S.kind = .function) :
    AT0 G S (.Tuple es k pos) (.tup ds) ρ (updL ρ xs ds) := by
  rintro K rfl R s g v Q E T r q
  obtain ⟨a, vs, m, rfl, e, hr⟩ := Rd.tup_iff.mp r
  have hlen : (assignEach es K.env).length = vs.toArray.size := by
    have := congrArg List.length (he K.env)
    rw [List.length_map, List.length_map] at this
    rw [this, hl, List.size_toArray, hr.length]
  refine PySem.wpAny_assign_Tuple R (isTuple_of (T.vin _ _ e)) hlen (he1 _) fun h' hx => ?_
  have kp : Kp s.heap h' := fun b o eb => hx b o (Nat.ne_of_lt (Heap.lt_size eb)) eb
  have T1 : St K ρ none { s with heap := h' } g := T.same kp rfl T.bare
  rw [he]
  generalize ({ s with heap := h' } : Shared) = s1 at T1 ⊢
  clear hlen kp hx h' T r e he he1
  induction xs generalizing ds vs ρ s1 with
  | nil =>
    cases ds with
    | nil => rw [RdL.nil_iff.mp hr]; exact wpAny_assignInOrder_none (q _ _ T1 (VLe.refl _))
    | cons _ _ => simp at hl
  | cons x xs ih =>
    cases ds with
    | nil => simp at hl
    | cons d ds =>
      obtain ⟨v, r, rfl, hv, hr'⟩ := RdL.cons_iff.mp hr
      refine wpAny_assignInOrder_more (wpAny_assign_Name (store0 (hs x (.head _)) hk T1 hv fun s2 T2 => ?_))
      exact ih (by simpa using hl) (fun y hy => hs y (.tail _ hy)) q _ hr' s2 T2
/-- a comprehension's conditions -/
def CT (G : Gd) (n : Nat) (S : Scope) (ρ : Rho) : List Expr → Bool → Prop
  | [], b => b = true
  | [c], b => TX G n S ρ none c b
  | _, _ => False
/-- the names that come from without -/
def outer (S : Scope) (ρ : Rho) : Rho := fun y => if S.names.lookup y = some .local then none else ρ y
end
end Mine
namespace Mine
section
variable {G : Gd} {n : Nat} {S : Scope} {ρ : Rho} {ow : Own}
/-- the frame of a comprehension's turn -/
def Cx.comp (K : Cx) (S' : Scope) (C : Addr) (cl : List (Str × Addr)) (h : Heap) (I D0 : Addr) (nb : Nat) (g : View) : Cx :=
  { w := K.w, A := K.A, S := S', L := C, cl := cl, f := none, cd := K.cd, qual := K.qual, fr := K.fr, lk := fun b => if b = C then none else h.get? b, mu := fun b => b = I ∨ b = D0, nb := nb, g0 := g, os := K.os, gl := K.gl }
theorem comp_st {K : Cx} {g0 g : View} {s0 s : Shared} {scope S' : Scope} {I D0 C : Addr} {m : Str → Option Value} (T0 : St K ρ ow s0 g0) (hI : s0.heap.objs.size ≤ I) (hD : s0.heap.objs.size ≤ D0) (hC : s0.heap.objs.size ≤ C) (hIC : I ≠ C) (hDC : D0 ≠ C)
    (hS : relabel scope K.env = S') (hcell : ∀ y ∈ scope.names, y.2 ≠ .cell) (hfree : ∀ y ∈ scope.names, y.2 = .free → K.S.names.lookup y.1 = some .cell)
    (hk : Kp s0.heap s.heap) (hv : VIn g s.heap) (hl : VLe g0 g) (ho : ∀ a, a < s0.heap.objs.size → g a = g0 a) (hos : s.os = s0.os) (hg : K.Gn s.gens) (hn : s.heap.Ns C m) (gI : g I = none) (gD : g D0 = none) (gC : g C = none)
    (oI : ∃ o, s.heap.get? I = some o) (oD : ∃ o, s.heap.get? D0 = some o) : St (K.comp S' C (clo scope.names K.cl []) s.heap I D0 s0.heap.objs.size g) (outer S' ρ) none s g := by
  have hcl : ∀ x c, (clo scope.names K.cl []).lookup x = some c → K.S.names.lookup x = some .cell ∧ K.cl.lookup x = some c := fun x c h => by
    rcases clo_lookup _ _ h with h1 | ⟨h1, h2⟩
    · simp at h1
    · have e1 := hfree _ h1 rfl
      obtain ⟨c', e2⟩ := Option.isSome_iff_exists.mp (T0.cx x e1)
      rw [e2] at h2
      exact ⟨e1, by rw [e2, h2]; rfl⟩
  refine ⟨hv, fun _ _ => rfl, fun b o e => ?_, hos.trans T0.os, hg, hC, gC, if_pos rfl, fun a ha => ?_, ⟨m, hn, fun x d h1 h2 => ?_, trivial⟩, fun x h => ?_, fun x c h => ?_⟩
  · have e' : (if b = C then none else s.heap.get? b) = some o := e
    by_cases q : b = C
    · rw [if_pos q] at e'; cases e'
    · rwa [if_neg q] at e'
  · rcases ha with rfl | rfl
    · obtain ⟨o, e⟩ := oI
      exact ⟨gI, o, by show (if _ then _ else _) = _; rw [if_neg hIC]; exact e⟩
    · obtain ⟨o, e⟩ := oD
      exact ⟨gD, o, by show (if _ then _ else _) = _; rw [if_neg hDC]; exact e⟩
  · unfold outer at h2
    rw [if_pos (show S'.names.lookup x = some .local from h1)] at h2; cases h2
  · refine clo_some _ _ (.inr ?_)
    have h' : S'.names.lookup x = some .cell := h
    rw [← hS] at h'
    exact relab_cell (env := K.env) h' hcell
  · obtain ⟨h1, h2⟩ := hcl x c h
    obtain ⟨k1, k2, ov, ⟨oc, e1, e2⟩, k4⟩ := T0.ce x c h2
    refine ⟨(ho c (Heap.lt_size e1)).trans k1, fun q => absurd (Heap.lt_size e1) (Nat.not_lt.mpr (by rw [show c = C from q]; exact hC)), ov, ⟨oc, hk _ _ e1, e2⟩, fun d q1 q2 => ?_⟩
    unfold outer at q2
    rw [if_neg (fun q => by rw [show S'.names.lookup x = some .cell from q1] at q; cases q)] at q2
    obtain ⟨v, ev, rv⟩ := k4 d h1 q2
    exact ⟨v, ev, Rd.mono hl _ _ rv⟩
theorem comp_on {K : Cx} {g0 g : View} {s0 s : Shared} {S' : Scope} {I D0 C : Addr} {cl : List (Str × Addr)} (T0 : St K ρ ow s0 g0) (Y : K.On G) (hC : s0.heap.objs.size ≤ C) (hk : Kp s0.heap s.heap) : (K.comp S' C cl s.heap I D0 s0.heap.objs.size g).On G := by
  obtain ⟨hb, h1, h2⟩ := Y
  refine ⟨hb, h1, fun b o e => ?_⟩
  have e1 := T0.keep b o (h2 b o e)
  show (if b = C then none else s.heap.get? b) = some o
  rw [if_neg (fun q => absurd (Heap.lt_size e1) (Nat.not_lt.mpr (by rw [q]; exact hC)))]
  exact hk _ _ e1
def compOut (tb : D → Bool) (fe : D → D) (ds : List D) : List D := ds.flatMap fun d => if tb d then [fe d] else []
theorem compOut_snoc {tb : D → Bool} {fe : D → D} {ds : List D} {d : D} : compOut tb fe (ds ++ [d]) = compOut tb fe ds ++ (if tb d then [fe d] else []) := by simp [compOut]
theorem compOut_le {tb : D → Bool} {fe : D → D} : ∀ {ds : List D}, (compOut tb fe ds).length ≤ ds.length
  | [] => by simp [compOut]
  | d :: ds => by
    have := @compOut_le tb fe ds
    have e : compOut tb fe (d :: ds) = (if tb d then [fe d] else []) ++ compOut tb fe ds := rfl
    rw [e, List.length_append, List.length_cons]
    by_cases q : tb d = true
    · rw [if_pos q, List.length_singleton]; omega
    · rw [if_neg q, List.length_nil]; omega
theorem compCore {K : Cx} {g0 : View} {s0 s : Shared} {elt t iter : Expr} {ifs : List Expr} {scope S' : Scope} {pos : Pos} {I : Addr} {ds : List D} {tb : D → Bool} {fe : D → D} {RR : Value → Addr → Result → Shared → Prop} {E : Value → Shared → Prop}
    (R : Room K.A n) (Y : K.On G) (T0 : St K ρ ow s0 g0) (hI : s0.heap.objs.size ≤ I) (hk : Kp s0.heap s.heap) (hos : s.os = s0.os) (hg : K.Gn s.gens) (hit : ItOk G K g0 I s.heap ds)
    (hS : relabel scope K.env = S') (hkind : scope.kind = .function) (hcell : ∀ y ∈ scope.names, y.2 ≠ .cell) (hfree : ∀ y ∈ scope.names, y.2 = .free → K.S.names.lookup y.1 = some .cell)
    (ht : (∀ i v, letOwnedTupleGo t i v = pure ()) ∨ ∃ es k p, t = .Tuple es k p) (hz : ds.length ≤ sizeLine)
    (turn : ∀ d ∈ ds, ∃ ρ1, AT0 G S' t d (outer S' ρ) ρ1 ∧ CT G n S' ρ1 ifs (tb d) ∧ (tb d = true → EX G n S' ρ1 none elt (fe d)))
    (hRR : ∀ D0 C s' g' m vs k, s0.heap.objs.size ≤ D0 → s0.heap.objs.size ≤ C → D0 ≠ C → Kp s0.heap s'.heap → VIn g' s'.heap → VLe g0 g' → (∀ a, a < s0.heap.objs.size → g' a = g0 a) → s'.os = s0.os → K.Gn s'.gens → s'.heap.Ns C m →
      s'.heap.get? D0 = some (lstO vs k) → RdL g' (compOut tb fe ds) vs → g' D0 = none → g' C = none → RR (.ref D0) C (.ok .next) s') :
    wpAny (model G.prog K.w) K.A (newList []) (fun acc s₃ => wpAny (model G.prog K.w) K.A (newFunctionEnv scope K.env.globals (clo scope.names K.cl []) [] K.env.qual none .none (some K.env)) (fun cenv s₄ =>
      codeAny (model G.prog K.w) K.A (.compStart (.ListComp elt [⟨t, iter, ifs, 0⟩] scope pos) 0 (.ref I) acc { cenv with scope := relabel scope K.env }) (RR acc cenv.locals) s₄) E s₃) E s := by
  refine wpAny_newObj_type (wpAny_newFunctionEnv hcell (by intro y hy; simp at hy) (fun h₁ hns₁ hsb₁ => ?_) hkind)
  dsimp only at hns₁ hsb₁ ⊢
  obtain ⟨fp, N, PI, Si, W, hst, hfp, hob, hds, hPI, hgo⟩ := hit
  generalize hH2 : s.heap.push { cls := .type "list", dict := none, data := .seq ([] : List Value).toArray } = H2 at hns₁ hsb₁ ⊢
  have hC : H2.objs.size = s.heap.objs.size + 1 := by rw [← hH2, Heap.size_push]
  have hs0 : s0.heap.objs.size ≤ s.heap.objs.size := Nat.le_of_lt (by
    obtain ⟨o, e, _⟩ := hob 0 _ hst
    exact Nat.lt_of_le_of_lt hI (Heap.lt_size e))
  have hDC : s.heap.objs.size ≠ H2.objs.size := by rw [hC]; exact Nat.ne_of_lt (Nat.lt_succ_self _)
  obtain ⟨o0, ho0, hd0⟩ := hob 0 _ hst
  have hIlt : I < s.heap.objs.size := Heap.lt_size ho0
  have hID : I ≠ s.heap.objs.size := Nat.ne_of_lt hIlt
  have hIC : I ≠ H2.objs.size := by rw [hC]; exact Nat.ne_of_lt (Nat.lt_succ_of_lt hIlt)
  have old : ∀ b o, s.heap.get? b = some o → h₁.get? b = some o := fun b o e => hsb₁.extBut b o (by rw [hC]; exact Nat.ne_of_lt (Nat.lt_succ_of_lt (Heap.lt_size e))) (Heap.get?_push_of_some _ (hH2 ▸ Heap.get?_push_of_some _ e))
  have hacc : h₁.get? s.heap.objs.size = some (lstO [] 0) := hsb₁.extBut _ _ hDC (Heap.get?_push_of_some _ (hH2 ▸ Heap.get?_push_size _ rfl))
  have hst₁ : Si 0 h₁ := W.frame _ _ _ hst fun b _ o e => old b o e
  have hCle : s0.heap.objs.size ≤ H2.objs.size := by rw [hC]; exact Nat.le_succ_of_le hs0
  generalize hDD : s.heap.objs.size = D0 at *
  generalize hCC : H2.objs.size = C at *
  have gv : VIn g0 s.heap := fun a o e => hk a o (T0.vin a o e)
  have gD : g0 D0 = none := T0.vin.none hs0
  have gC : g0 C = none := T0.vin.none hCle
  have gI : g0 I = none := T0.vin.none hI
  have loop : ∀ s₃ : Shared, s₃ = { s with heap := h₁, toks := s.toks + ([] : List (Str × Value)).length } →
      codeAny (model G.prog K.w) K.A (.compLoop (.ListComp elt [⟨t, iter, ifs, 0⟩] scope pos) 0 (.ref I) (.ref D0) (compEnvC scope (clo scope.names K.cl []) C K.env)) (RR (.ref D0) C) s₃ := by
    rintro s₃ rfl
    refine codeAny_loop rfl (fun k s1 => ∃ pre post g1 m vs k1, ds = pre ++ post ∧ k = post.length ∧ Kp s0.heap s1.heap ∧ VIn g1 s1.heap ∧ VLe g0 g1 ∧ (∀ a, a < s0.heap.objs.size → g1 a = g0 a) ∧ s1.os = s0.os ∧ K.Gn s1.gens ∧ s1.heap.Ns C m ∧
      s1.heap.get? D0 = some (lstO vs k1) ∧ RdL g1 (compOut tb fe pre) vs ∧ g1 D0 = none ∧ g1 C = none ∧ g1 I = none ∧ Si pre.length s1.heap) ?_ ds.length
      ⟨[], ds, g0, _, [], 0, rfl, rfl, fun b o e => old b o (hk b o e), fun a o e => old a o (gv a o e), VLe.refl _, fun _ _ => rfl, hos, hg, hns₁, hacc, .nil, gD, gC, gI, hst₁⟩
    rintro k s1 ⟨pre, post, g1, m, vs, k1, hd, rfl, kp, gv1, l1, ho1, hos1, hg1, hn1, hD1, hr1, gD1, gC1, gI1, hS1⟩
    show wpAny _ K.A ((compTurn (.ListComp elt [⟨t, iter, ifs, 0⟩] scope pos) 0 (.ref I) (.ref D0) (compEnvC scope (clo scope.names K.cl []) C K.env)).onRaise (fun x => do noteFrame x _; theTreesLotGoes x)) _ _ s1
    refine wpAny_noted ?_
    rw [compTurn_list]
    refine wpAny_bind (wpAny_standAt (wpAny_bind ?_))
    cases post with
    | nil =>
      have hp : pre = ds := by rw [hd, List.append_nil]
      refine W.done s1 _ _ (by rw [← hds, ← hp]; exact hS1) fun h' tk kp' => ?_
      have kp2 : ∀ b ob, b ≠ I → s1.heap.get? b = some ob → h'.get? b = some ob := fun b ob hb e => kp' b ob (by simpa using hb) e
      refine wpAny_pure (hRR _ _ { s1 with heap := h', toks := tk } g1 m vs k1 hs0 hCle hDC (fun b o e => kp2 b o (fun q => absurd (Heap.lt_size e) (Nat.not_lt.mpr (by rw [q]; exact hI))) (kp b o e)) (fun b o e => kp2 b o (fun q => by rw [q, gI1] at e; cases e) (gv1 b o e)) l1 ho1 hos1 hg1 ?_ (kp2 _ _ (Ne.symm hID) hD1) (hp ▸ hr1) gD1 gC1)
      obtain ⟨oL, es, ep, eL, r⟩ := hn1
      exact ⟨oL, es, ep, kp2 _ _ (Ne.symm hIC) eL, r⟩
    | cons d post =>
      have hlt : pre.length < N := by rw [← hds, hd]; simp
      have hdi : ds[pre.length]? = some d := by rw [hd]; simp
      refine W.item pre.length s1 _ _ hlt hS1 fun v h' tk hP hS2 kp' => ?_
      have kp2 : ∀ b ob, b ≠ I → s1.heap.get? b = some ob → h'.get? b = some ob := fun b ob hb e => kp' b ob (by simpa using hb) e
      obtain ⟨o2, ho2, hd2⟩ := hob _ _ hS2
      refine wpAny_bind (?_ : wpAny _ _ (letOwnedTupleGo t (.ref I) v) _ _ _)
      have go : ∀ (Q : Unit → Shared → Prop) E, Q () { s1 with heap := h', toks := tk } → wpAny (model G.prog K.w) K.A (letOwnedTupleGo t (.ref I) v) Q E { s1 with heap := h', toks := tk } := fun Q E hq => by
        rcases ht with ht | ⟨es, k, p, rfl⟩
        · rw [ht]; exact wpAny_pure hq
        · exact hgo _ _ _ _ _ _ _ _ hS2 hq
      refine go _ _ ?_
      have kp3 : Kp s0.heap h' := fun b o e => kp2 b o (fun q => absurd (Heap.lt_size e) (Nat.not_lt.mpr (by rw [q]; exact hI))) (kp b o e)
      have gv3 : VIn g1 h' := fun b o e => kp2 b o (fun q => by rw [q, gI1] at e; cases e) (gv1 b o e)
      have hn3 : h'.Ns C m := by
        obtain ⟨oL, es, ep, eL, r⟩ := hn1
        exact ⟨oL, es, ep, kp2 _ _ (Ne.symm hIC) eL, r⟩
      have hD3 : h'.get? D0 = some (lstO vs k1) := kp2 _ _ (Ne.symm hID) hD1
      have T2 := comp_st (scope := scope) (s := { s1 with heap := h', toks := tk }) T0 hI hs0 hCle hIC hDC hS hcell hfree kp3 gv3 l1 ho1 hos1 hg1 hn3 gI1 gD1 gC1 ⟨_, ho2⟩ ⟨_, hD3⟩
      have Y2 : (K.comp S' C (clo scope.names K.cl []) h' I D0 s0.heap.objs.size g1).On G := comp_on (s := { s1 with heap := h', toks := tk }) T0 Y hCle kp3
      obtain ⟨ρ1, hA, hT, hE⟩ := turn d (by rw [hd]; simp)
      have eenv : compEnvC scope (clo scope.names K.cl []) C K.env = (K.comp S' C (clo scope.names K.cl []) h' I D0 s0.heap.objs.size g1).env := by
        unfold compEnvC
        rw [hS]; rfl
      rw [eenv]
      refine wpAny_bind (hA (K.comp S' C (clo scope.names K.cl []) h' I D0 s0.heap.objs.size g1) rfl R.handled _ _ _ _ _ T2 (Rd.mono l1 _ _ (hPI _ _ hP d hdi)) fun s4 g4 T4 l4 => ?_)
      have tests : ∀ (Q : Bool → Shared → Prop) E, (∀ s5 g5, St (K.comp S' C (clo scope.names K.cl []) h' I D0 s0.heap.objs.size g1) ρ1 none s5 g5 → VLe g4 g5 → Q (tb d) s5) → wpAny (model G.prog K.w) K.A (forIn ifs true fun c r => if r = true then do let ok ← isTrue c (K.comp S' C (clo scope.names K.cl []) h' I D0 s0.heap.objs.size g1).env (eval c (K.comp S' C (clo scope.names K.cl []) h' I D0 s0.heap.objs.size g1).env); pure (ForInStep.yield ok) else pure (ForInStep.yield r)) Q E s4 := fun Q E hq => by
        cases ifs with
        | nil =>
          have e : tb d = true := hT
          exact wpAny_tests_nil (by rw [← e]; exact hq _ _ T4 (VLe.refl _))
        | cons c cs =>
          cases cs with
          | nil => exact wpAny_tests_one (hT (K.comp S' C (clo scope.names K.cl []) h' I D0 s0.heap.objs.size g1) rfl R Y2 _ _ _ _ T4 fun s5 g5 T5 l5 => hq _ _ T5 l5)
          | cons _ _ => exact hT.elim
      refine wpAny_bind (tests _ _ fun s5 g5 T5 l5 => ?_)
      have keepAll : ∀ {s6 : Shared} {g6 : View} {ρ6 : Rho}, St (K.comp S' C (clo scope.names K.cl []) h' I D0 s0.heap.objs.size g1) ρ6 none s6 g6 → ∀ b o, b ≠ C → h'.get? b = some o → s6.heap.get? b = some o := fun T6 b o hb e =>
        T6.keep b o (by show (if _ then _ else _) = _; rw [if_neg hb]; exact e)
      have kC : ∀ {b o}, s0.heap.get? b = some o → b ≠ C := fun e q => absurd (Heap.lt_size e) (Nat.not_lt.mpr (by rw [q]; exact hCle))
      have kD : ∀ {b o}, s0.heap.get? b = some o → b ≠ D0 := fun e q => absurd (Heap.lt_size e) (Nat.not_lt.mpr (by rw [q]; exact hs0))
      cases htb : tb d with
      | false =>
        simp only [Bool.false_eq_true, if_false]
        obtain ⟨m5, hn5, _⟩ := T5.ns
        refine wpAny_pure ⟨by rw [← eenv], post.length, by simp, pre ++ [d], post, g5, m5, vs, k1, by rw [hd]; simp, rfl, fun b o e => keepAll T5 b o (kC e) (kp3 b o e), T5.vin, (l1.trans l4).trans l5, fun a ha => (T5.old a ha).trans (ho1 a ha), T5.os.trans T0.os.symm, T5.bare, hn5, keepAll T5 _ _ hDC hD3, ?_, (T5.mu _ (.inr rfl)).1, T5.gL, (T5.mu _ (.inl rfl)).1, ?_⟩
        · rw [compOut_snoc, htb]
          simpa using RdL.mono (l4.trans l5) _ _ hr1
        · rw [List.length_append]
          refine W.frame _ _ _ hS2 fun b hb ob e => ?_
          refine keepAll T5 _ _ (fun q => ?_) e
          rcases hfp b hb with rfl | ⟨oo, eo⟩
          · exact hIC q
          · rw [q, gC] at eo; cases eo
      | true =>
        simp only [if_true]
        refine wpAny_bind (wpAny_bind (hE htb (K.comp S' C (clo scope.names K.cl []) h' I D0 s0.heap.objs.size g1) rfl R Y2 _ _ _ _ T5 fun x s6 g6 T6 l6 r6 => wpAny_bind ?_))
        have hD6 := keepAll T6 _ _ hDC hD3
        refine wpAny_list_append_plain (items := vs.toArray) ⟨k1, hD6⟩ (fun h7 ⟨k7, hp⟩ hs => ?_) (by
          rw [List.size_toArray, hr1.length]
          refine Nat.le_trans compOut_le (Nat.le_trans ?_ hz)
          rw [hd]; simp)
        obtain ⟨m6, hn6, _⟩ := T6.ns
        have gD6 : g6 D0 = none := (T6.mu _ (.inr rfl)).1
        have kp7 : ∀ b o, b ≠ D0 → s6.heap.get? b = some o → h7.get? b = some o := fun b o hb e => (hs.2 b hb).trans e
        refine wpAny_pure (wpAny_pure ⟨by rw [← eenv], post.length, by simp, pre ++ [d], post, g6, m6, vs ++ [x], k7, by rw [hd]; simp, rfl, fun b o e => kp7 b o (kD e) (keepAll T6 b o (kC e) (kp3 b o e)), fun b o e => kp7 b o (fun q => by rw [q, gD6] at e; cases e) (T6.vin b o e), ((l1.trans l4).trans l5).trans l6, fun a ha => (T6.old a ha).trans (ho1 a ha), T6.os.trans T0.os.symm, T6.bare, hn6.sameBut hs (Ne.symm hDC), by simpa using hp, ?_, gD6, T6.gL, (T6.mu _ (.inl rfl)).1, ?_⟩)
        · rw [compOut_snoc, htb]
          exact (RdL.mono ((l4.trans l5).trans l6) _ _ hr1).snoc r6
        · rw [List.length_append]
          refine W.frame _ _ _ hS2 fun b hb ob e => ?_
          refine kp7 _ _ (fun q => ?_) (keepAll T6 _ _ (fun q => ?_) e)
          · rcases hfp b hb with rfl | ⟨oo, eo⟩
            · exact hID q
            · rw [q, gD] at eo; cases eo
          · rcases hfp b hb with rfl | ⟨oo, eo⟩
            · exact hIC q
            · rw [q, gC] at eo; cases eo
  exact codeAny_compStart_list (loop _ rfl) (W.self 0 _ _ _ hst₁ (loop _ rfl))
theorem EX.comp {it elt t : Expr} {ifs : List Expr} {scope S' : Scope} {pos : Pos} {ds : List D} {tb : D → Bool} {fe : D → D} (hi : IX G n S ρ ow it ds)
    (hS : ∀ env : Env, env.scope = S → relabel scope env = S') (hkind : scope.kind = .function) (hcell : ∀ y ∈ scope.names, y.2 ≠ .cell) (hfree : ∀ y ∈ scope.names, y.2 = .free → S.names.lookup y.1 = some .cell)
    (hnames : ∀ y ∈ scope.names, y.2 = .local → scope.names.lookup y.1 = some .local)
    (ht : (∀ i v, letOwnedTupleGo t i v = pure ()) ∨ ∃ es k p, t = .Tuple es k p) (hz : ds.length ≤ sizeLine)
    (turn : ∀ d ∈ ds, ∃ ρ1, AT0 G S' t d (outer S' ρ) ρ1 ∧ CT G n S' ρ1 ifs (tb d) ∧ (tb d = true → EX G n S' ρ1 none elt (fe d)))
    (hs : ∀ env x, foldedSetIterable it env x = pure x := by intro _ _; rfl) : EX G n S ρ ow (.ListComp elt [⟨t, it, ifs, 0⟩] scope pos) (.lst (compOut tb fe ds)) := by
  rintro K rfl R Y s g Q E T q
  rw [eval_ListComp]
  refine wpAny_comprehension_free (use := none) rfl (hs _) (closure_eq (env := K.env) fun x hx hf => T.cx _ (hfree x hx hf)) hkind hnames ?_
  refine hi K rfl R Y s g _ _ T fun I s0 s' g' T0 l0 hI hk hos hg hit => ?_
  refine compCore R Y T0 hI hk hos hg hit (hS K.env rfl) hkind hcell hfree ht hz turn fun D0 C s2 g2 m vs k hD hC hDC kp gv l2 ho hos2 hg2 hn hDo hr gD gC => ?_
  refine ⟨m, hn, fun h' hs' => ?_⟩
  have kp' : ∀ b o, b ≠ C → s2.heap.get? b = some o → h'.get? b = some o := fun b o hb e => hs'.extBut b o hb e
  have kC : ∀ {b o}, s0.heap.get? b = some o → b ≠ C := fun e q => absurd (Heap.lt_size e) (Nat.not_lt.mpr (by rw [q]; exact hC))
  refine q _ _ (vput g2 D0 (lstO vs k)) (T0.grow (s' := { s2 with heap := h' }) (fun b o e => kp' b o (kC e) (kp b o e)) (VIn.put (fun b o e => kp' b o (fun q => by rw [q, gC] at e; cases e) (gv b o e)) (kp' _ _ hDC hDo)) (l2.trans (VLe.put gD)) (fun a ha => by
    rw [vput_ne (Nat.ne_of_lt (Nat.lt_of_lt_of_le ha hD))]; exact ho a ha) hos2 hg2) ((l0.trans l2).trans (VLe.put gD)) (Rd.mkLst (vput_at ..) (RdL.mono (VLe.put gD) _ _ hr))
theorem St.lockAt {K : Cx} {ρ : Rho} {ow : Own} {s : Shared} {g : View} {a : Addr} {o : Obj} (x : St K ρ ow s g) (ho : s.heap.get? a = some o) (ga : g a = none) (hL : a ≠ K.L) (hw : ∀ y c ds, ow = some (y, c, ds) → c ≠ a) (hn : K.lk a = none) : St (K.lock a o) ρ ow s g := by
  obtain ⟨m, hm, hv, hw'⟩ := x.ns
  refine ⟨x.vin, x.old, fun b ob e => ?_, x.os, x.bare, x.lo, x.gL, ?_, fun b hb => ?_, ⟨m, hm, hv, ?_⟩, x.cx, x.ce⟩
  · have e' : vput K.lk a o b = some ob := e
    by_cases q : b = a
    · subst q; rw [vput_at] at e'; cases e'; exact ho
    · rw [vput_ne q] at e'; exact x.keep b ob e'
  · show vput K.lk a o K.L = none
    rw [vput_ne (Ne.symm hL)]; exact x.kL
  · rcases hb with rfl | hb
    · exact ⟨ga, o, vput_at ..⟩
    · obtain ⟨h1, ob, h2⟩ := x.mu b hb
      refine ⟨h1, ob, ?_⟩
      show vput K.lk a o b = some ob
      rw [vput_ne (fun q => by rw [q, hn] at h2; cases h2)]; exact h2
  · cases ow with
    | none => trivial
    | some p =>
      obtain ⟨y, c, ds⟩ := p
      obtain ⟨vs, n, h1, h2, h3, h4, h5, h6, h7, h8⟩ := hw'
      refine ⟨vs, n, h1, h2, h3, h4, h5, h6, ?_, h8⟩
      show vput K.lk a o c = none
      rw [vput_ne (hw _ _ _ rfl)]; exact h7
/-- x = [..], the store made before the comprehension's names go -/
theorem S1.assignComp {x : Str} {px spos : Pos} {P : Pst} {it elt t : Expr} {ifs : List Expr} {scope S' : Scope} {pos : Pos} {ds : List D} {tb : D → Bool} {fe : D → D} (hx : Stor G S x) (hi : IX G n S ρ none it ds)
    (hS : ∀ env : Env, env.scope = S → relabel scope env = S') (hkind : scope.kind = .function) (hcell : ∀ y ∈ scope.names, y.2 ≠ .cell) (hfree : ∀ y ∈ scope.names, y.2 = .free → S.names.lookup y.1 = some .cell)
    (hnames : ∀ y ∈ scope.names, y.2 = .local → scope.names.lookup y.1 = some .local)
    (ht : (∀ i v, letOwnedTupleGo t i v = pure ()) ∨ ∃ es k p, t = .Tuple es k p) (hz : ds.length ≤ sizeLine)
    (turn : ∀ d ∈ ds, ∃ ρ1, AT0 G S' t d (outer S' ρ) ρ1 ∧ CT G n S' ρ1 ifs (tb d) ∧ (tb d = true → EX G n S' ρ1 none elt (fe d)))
    (hsw : ∀ env : Env, env.scope = S → swapsWith (.ListComp elt [⟨t, it, ifs, 0⟩] scope pos) (some (.Name x px)) spos.line env = pure true)
    (p' : P .next (upd ρ x (.lst (compOut tb fe ds))) none)
    (hs : ∀ env x, foldedSetIterable it env x = pure x := by intro _ _; rfl) : S1 G n S ρ none (.Assign [.Name x px] (.ListComp elt [⟨t, it, ifs, 0⟩] scope pos) spos) P := by
  rintro K rfl R Y Ce s g Q E T q
  rw [exec_Assign_Name_used _ _ _ _ (hsw K.env rfl)]
  refine wpAny_bind (wpAny_standAt (wpAny_bind ?_))
  show wpAny _ K.A (do let _ ← comprehension (.ListComp elt [⟨t, it, ifs, 0⟩] scope pos) scope K.env _ (newList []) false (eval it K.env) (some (PySem.assign (.Name x px) K.env))) _ _ s
  refine wpAny_bind (wpAny_mono (wpAny_comprehension_free (use := some (PySem.assign (.Name x px) K.env)) (Q := fun _ s' => Q .next s') rfl (hs _) (closure_eq (env := K.env) fun x hx hf => T.cx _ (hfree x hx hf)) hkind hnames ?_) (fun _ s' hq => wpAny_pure (wpAny_pure hq)) fun _ _ e => e)
  refine hi K rfl R Y s g _ _ T fun I s0 s' g' T0 l0 hI hk hos hg hit => ?_
  refine compCore R Y T0 hI hk hos hg hit (hS K.env rfl) hkind hcell hfree ht hz turn fun D0 C s2 g2 m vs k hD hC hDC kp gv l2 ho hos2 hg2 hn hDo hr gD gC => ?_
  have T2 := T0.grow (s' := s2) kp (VIn.put gv hDo) (l2.trans (VLe.put gD)) (fun a ha => by
    rw [vput_ne (Nat.ne_of_lt (Nat.lt_of_lt_of_le ha hD))]; exact ho a ha) hos2 hg2
  have gC' : vput g2 D0 (lstO vs k) C = none := by rw [vput_ne (Ne.symm hDC)]; exact gC
  have hlk : K.lk C = none := by
    cases e : K.lk C with
    | none => rfl
    | some o => exact absurd (Heap.lt_size (T0.keep _ _ e)) (Nat.not_lt.mpr hC)
  have hmu : ¬ K.mu C := fun h => by
    obtain ⟨_, o, e⟩ := T0.mu C h
    rw [hlk] at e; cases e
  have hL : C ≠ K.L := fun q => by
    obtain ⟨m0, hm0, _⟩ := T0.ns
    exact absurd hm0.lt (Nat.not_lt.mpr (by rw [← q]; exact hC))
  obtain ⟨oC, es, ep, eC, eD, er⟩ := id hn
  have hdC : ∀ ov, oC.data ≠ .cell ov := fun ov q => by rw [q] at eD; cases eD
  have T3 := T2.lockAt eC gC' hL (by intro _ _ _ h; cases h) hlk
  have Ce' : (K.lock C oC).Ce := ⟨fun x c e => ⟨by
    show vput K.lk C oC c = none
    have hcI : c ≠ C := fun qq => by
      obtain ⟨_, _, ov, ⟨oc, e1, e2⟩, _⟩ := T2.ce x c e
      rw [qq, eC] at e1; cases e1; exact hdC _ e2
    rw [vput_ne hcI]; exact (Ce.1 x c e).1, (Ce.1 x c e).2⟩, Ce.2⟩
  show wpAny _ K.A (PySem.assign (.Name x px) K.env (.ref D0)) _ _ _
  refine wpAny_assign_Name (hx (K.lock C oC) rfl Ce' _ _ _ _ _ _ _ _ T3 trivial (Rd.mkLst (vput_at ..) (RdL.mono (VLe.put gD) _ _ hr)) fun s4 T4 => ?_)
  have eC4 : s4.heap.get? C = some oC := T4.keep _ _ (vput_at ..)
  refine ⟨m, ⟨oC, es, ep, eC4, eD, er⟩, fun h' hs' => ?_⟩
  exact q _ .next _ _ _ _ p' (T4.move hdC (s' := { s4 with heap := h' }) (fun b ob hb e => hs'.extBut b ob hb e) rfl T4.bare (.inl ⟨rfl, hlk, hmu⟩)) ((l0.trans l2).trans (VLe.put gD)) rfl
end
end Mine
namespace Mine
/-! a generator's run up to its next yield -/
section
variable {prog : Program} {w : World} {A : Around} {c : Code} {fs : List Frame} {s : Shared} {P : End → Shared → Prop} {env : Env}
abbrev Sg (prog : Program) (w : World) := X.SegX (model prog w)
theorem sx_wrap {α : Type} {m : Sem α} {K : α → Sem Fin} {H : Value → Sem Fin} {gd lv} (h : wpAny (model prog w) (A.over c fs) m (fun a s' => Sg prog w A c (K a) fs s' P) (fun x s' => Sg prog w A c (H x) fs s' P) s) : Sg prog w A c (m.wrap K H gd lv) fs s P := by
  rintro Γ p rfl hΓ
  obtain ⟨e, s', hr, hq⟩ := runs_wrap_of_wp (Φ := fun e s' => e.quiet = true ∧ P e s') K H gd lv m (h (Γ.over fs) p (hΓ.over fs)) (fun a p' s' h' => h' Γ p' rfl hΓ) (fun x p' s' h' => h' Γ p' rfl hΓ)
  exact ⟨e, s', hr, hq⟩
theorem sx_at {p' : Pos} {k : Unit → Sem Fin} (h : Sg prog w A c (k ()) fs s P) : Sg prog w A c (.at p' k) fs s P :=
  sx_wrap (m := standAt p') (K := k) (H := .raise) (gd := id) (lv := id) (wpAny_standAt h)
theorem sx_point {l : List Value} {k : Unit → Sem Fin} (h : Sg prog w A c (k ()) fs s P) : Sg prog w A c (.point l k) fs s P :=
  sx_wrap (m := point) (K := k) (H := .raise) (gd := id) (lv := fun _ => l) (wpAny_point h)
variable {K : Flow → Sem Fin} {H : Value → Sem Fin} {gd : Bool → Bool} {lv : List Value → List Value}
theorem sx_execs_cons {st : Stmt} {rest : List Stmt} (h : Sg prog w A c ((exec st env).wrap (fun f => match f with | .next => (execs rest env).wrap K H gd lv | f => K f) H gd lv) fs s P) : Sg prog w A c ((execs (st :: rest) env).wrap K H gd lv) fs s P := by rw [execs_cons_wrap]; exact h
/-- a statement without a yield -/
theorem sx_plain {st : Stmt} (h : wpAny (model prog w) (A.over c fs) (exec st env) (fun f s' => Sg prog w A c (K f) fs s' P) (fun _ _ => False) s) : Sg prog w A c ((exec st env).wrap K H gd lv) fs s P :=
  sx_wrap (wpAny_mono h (fun _ _ x => x) fun _ _ x => x.elim)
theorem sx_If {test : Expr} {body orelse : List Stmt} {pos : Pos} {b : Bool} (h : wpAny (model prog w) (A.over c fs) (isTrue test env (eval test env)) (fun b' s' => b' = b ∧ Sg prog w A c ((execs (if b then body else orelse) env).wrap K H gd lv) fs s' P) (fun _ _ => False) s) :
    Sg prog w A c ((exec (.If test body orelse pos) env).wrap K H gd lv) fs s P := by
  show Sg prog w A c (.at pos fun _ => (isTrue test env (eval test env) >>= fun b => if b then execs body env else execs orelse env).wrap K H gd lv) fs s P
  refine sx_at ?_
  rw [Sem.bind_eq_wrap', Sem.wrap_wrap]
  refine sx_wrap (wpAny_mono h (fun b' s' h' => ?_) fun _ _ x => x.elim)
  obtain ⟨rfl, h'⟩ := h'
  cases b' <;> exact h'
theorem sx_yield {e : Expr} {ypos pos : Pos} (hfs : splitAtGen fs = none) (hgd : gd false = false) (hfg : fs.any Frame.guarded = false)
    (h : wpAny (model prog w) (A.over c fs) (eval e env) (fun v s' => ∀ k l p, (∀ s'', Sg prog w A c (K .next) fs s'' = Sg prog w A c (k (.send .none)) fs s'') → P (.susp v false l k c p fs) s') (fun _ _ => False) s) (hco : env.scope.isCoroutine = false := by rfl) (hi : interactive env = false := by rfl) :
    Sg prog w A c ((exec (.Expr (.Yield (some e) ypos) pos) env).wrap K H gd lv) fs s P := by
  rw [exec_Expr env _ pos hi rfl]
  show Sg prog w A c (.at pos fun _ => ((eval e env >>= fun v => (standAt ypos >>= fun _ => yieldOut env v)) >>= fun x => dropValue (.Yield (some e) ypos) pos x).wrap K H gd lv) fs s P
  have hy : ∀ v, yieldOut env v = yieldValue v := fun v => by simp only [yieldOut, hco, Bool.false_eq_true, if_false]
  simp only [hy]
  refine sx_at ?_
  rw [Sem.bind_eq_wrap', Sem.bind_eq_wrap', Sem.wrap_wrap, Sem.wrap_wrap]
  refine sx_wrap (wpAny_mono h (fun v s' h' => ?_) fun _ _ x => x.elim)
  refine sx_at ?_
  rintro Γ p rfl hΓ
  refine ⟨_, s', Runs.yield' fs hfs, ?_, ?_⟩
  · simp [End.quiet, hgd, hfg]
  · have hg' : ∀ x, gd (id (id x)) = gd x := fun _ => rfl
    simp only [hgd, id]
    exact h' _ _ _ fun s'' => rfl
theorem sx_call {c' : Code} {hd : Option Value} {g : Bool} {l : List Value} {k : Result → Sem Fin} (x : ∀ p, Sg prog w A c' ((model prog w).den c') (.ret k hd g l c p [] :: fs) s P) : Sg prog w A c (.call c' hd g l k) fs s P := by
  rintro Γ p rfl hΓ
  obtain ⟨e, s', hr, hq⟩ := x p (Γ.goto c') p rfl (hΓ.goto c')
  exact ⟨e, s', runs_call_seg hr, hq⟩
theorem sx_again {c' : Code} (hq : c'.quiet = true) (x : Sg prog w A c' ((model prog w).den c') fs s P) : Sg prog w A c (.pure (.again c')) fs s P := by
  rintro Γ p rfl hΓ
  obtain ⟨e, s', hr, hq'⟩ := x (Γ.goto c') p rfl (hΓ.goto c')
  exact ⟨e, s', Runs.head (c₁ := c') (fun _ _ y => .again hq y) hr, hq'⟩
theorem sx_While {test : Expr} {body orelse : List Stmt} {pos : Pos} (hgd : gd false = false)
    (h : ∀ k l p, Sg prog w A (.whileLoop test body orelse env) ((model prog w).den (.whileLoop test body orelse env)) (.ret k none false l c p [] :: fs) s P) : Sg prog w A c ((exec (.While test body orelse pos) env).wrap K H gd lv) fs s P := by
  have h' := h (fun r => ((match r with | .ok f => (.pure f : Sem Flow) | .error e => .raise e).onRaise fun (x : Value) => do
        if (← field x 1) == Value.none then unsupported "frame.own-activation:exception-without-traceback"
        setFlight x env.frame).wrap K H gd lv) (lv [])
  rw [← hgd] at h'
  exact sx_at (sx_call h')
theorem sx_For {t it : Expr} {body orelse : List Stmt} {pos : Pos} (hgd : gd false = false) (hs : ∀ x, foldedSetIterable it env x = pure x)
    (h : wpAny (model prog w) (A.over c fs) (eval it env) (fun x s1 => wpAny (model prog w) (A.over c fs) (pyIter x) (fun i s2 => ∀ k l p, Sg prog w A (.forLoop t i body orelse env) ((model prog w).den (.forLoop t i body orelse env)) (.ret k none false l c p [] :: fs) s2 P) (fun _ _ => False) s1) (fun _ _ => False) s) :
    Sg prog w A c ((exec (.For t it body orelse pos) env).wrap K H gd lv) fs s P := by
  rw [exec_For]
  show Sg prog w A c (.at pos fun _ => (eval it env >>= fun x0 => foldedSetIterable it env x0 >>= fun x => standAt it.pos >>= fun _ => holding [x] (pyIter x) >>= fun i => runOwn (.forLoop t i body orelse env) env).wrap K H gd lv) fs s P
  refine sx_at ?_
  rw [Sem.bind_eq_wrap', Sem.wrap_wrap]
  refine sx_wrap (wpAny_mono h (fun x s1 h1 => ?_) fun _ _ x => x.elim)
  rw [hs, pure_bind]
  refine sx_at ?_
  show Sg prog w A c ((holding [x] (pyIter x) >>= fun i => runOwn (.forLoop t i body orelse env) env).wrap K H gd lv) fs s1 P
  rw [Sem.bind_eq_wrap', Sem.wrap_wrap]
  refine sx_wrap (wpAny_holding (wpAny_mono h1 (fun i s2 h2 => ?_) fun _ _ x => x.elim))
  have h' := h2 (fun r => ((match r with | .ok f => (.pure f : Sem Flow) | .error e => .raise e).onRaise fun (x : Value) => do
        if (← field x 1) == Value.none then unsupported "frame.own-activation:exception-without-traceback"
        setFlight x env.frame).wrap K H gd lv) (lv [])
  rw [← hgd] at h'
  exact sx_call h'
theorem sx_forLoop {t : Expr} {it : Value} {body orelse : List Stmt} (hgo : ∀ v, letOwnedTupleGo t it v = pure ())
    (h : wpAny (model prog w) (A.over (.forLoop t it body orelse env) fs) (pyNext it) (fun r s1 => ∃ v, r = some v ∧ wpAny (model prog w) (A.over (.forLoop t it body orelse env) fs) (assign t env v) (fun _ s2 =>
      ∀ (K : Flow → Sem Fin) H gd lv, gd false = false → K .next = .pure (.again (.forLoop t it body orelse env)) → Sg prog w A (.forLoop t it body orelse env) ((execs body env).wrap K H gd lv) fs s2 P) (fun _ _ => False) s1) (fun _ _ => False) s) :
    Sg prog w A (.forLoop t it body orelse env) ((model prog w).den (.forLoop t it body orelse env)) fs s P := by
  show Sg prog w A _ ((forTurn t it body orelse env).onRaise (fun x => do noteFrame x env; theTreesLotGoes x)) fs s P
  rw [Sem.onRaise_eq_wrap]
  show Sg prog w A _ (.at t.pos fun _ => ((pyNext it).onRaise (fun _ => standAt { t.pos with line := 0 }) >>= fun r => match r with
    | none => again (.block orelse env)
    | some v => letOwnedTupleGo t it v >>= fun _ => assign t env v >>= fun _ => execs body env >>= fun f => match f with
      | .next | .cont => again (.forLoop t it body orelse env)
      | .brk => pure (.done .next)
      | .ret v => pure (.done (.ret v))).wrap _ _ _ _) fs s P
  refine sx_at ?_
  rw [Sem.bind_eq_wrap', Sem.wrap_wrap]
  refine sx_wrap (wpAny_onRaise (wpAny_mono h (fun r s1 h1 => ?_) fun _ _ x => x.elim))
  obtain ⟨v, rfl, h1⟩ := h1
  dsimp only
  rw [hgo, pure_bind, Sem.bind_eq_wrap', Sem.wrap_wrap]
  refine sx_wrap (wpAny_mono h1 (fun _ s2 h2 => ?_) fun _ _ x => x.elim)
  rw [Sem.bind_eq_wrap', Sem.wrap_wrap]
  exact h2 _ _ _ _ rfl rfl
theorem sx_whileLoop {test : Expr} {body orelse : List Stmt}
    (h : wpAny (model prog w) (A.over (.whileLoop test body orelse env) fs) (isTrue test env (eval test env)) (fun b s2 => b = true ∧
      ∀ (K : Flow → Sem Fin) H gd lv, gd false = false → K .next = .pure (.again (.whileLoop test body orelse env)) → Sg prog w A (.whileLoop test body orelse env) ((execs body env).wrap K H gd lv) fs s2 P) (fun _ _ => False) s) :
    Sg prog w A (.whileLoop test body orelse env) ((model prog w).den (.whileLoop test body orelse env)) fs s P := by
  show Sg prog w A _ ((whileTurn test body orelse env).onRaise (fun x => do noteFrame x env; theTreesLotGoes x)) fs s P
  unfold whileTurn
  rw [Sem.onRaise_eq_wrap, Sem.bind_eq_wrap', Sem.wrap_wrap]
  refine sx_wrap (wpAny_mono h (fun b s' hb => ?_) fun _ _ x => x.elim)
  obtain ⟨rfl, hb⟩ := hb
  rw [if_pos rfl, Sem.bind_eq_wrap', Sem.wrap_wrap]
  exact hb _ _ _ _ rfl rfl
theorem sx_func {body : List Stmt} (h : ∀ (K : Flow → Sem Fin) H gd lv, gd false = false → Sg prog w A (.func body env) ((execs body env).wrap K H gd lv) fs s P) : Sg prog w A (.func body env) ((model prog w).den (.func body env)) fs s P := by
  show Sg prog w A _ (.point [] fun _ => ((execs body env).onRaise (leaving env)) >>= _) fs s P
  refine sx_point ?_
  rw [Sem.onRaise_eq_wrap, Sem.bind_eq_wrap', Sem.wrap_wrap]
  exact h _ _ _ _ rfl
/-- a generator's next value -/
theorem sx_next {a : Addr} {g : Nat} {gs : GenState} {c₀ : Code} {t₀ : Sem Fin} {fs₀ : List Frame} {Q : Option Value → Shared → Prop} {E : Value → Shared → Prop}
    (hl : s.heap.NoLimit) (hroom : A.depth < recursionLimit) (hg : s.heap.IsGen a g) (hgs : s.gens[g]? = some gs)
    (hst : (gs = .fresh c₀ ∧ t₀ = (model prog w).den c₀ ∧ fs₀ = []) ∨ ∃ k₀ l₀ p₀ cl, gs = .suspended k₀ l₀ c₀ p₀ fs₀ cl ∧ t₀ = k₀ (.send .none))
    (h : Sg prog w A.in1 c₀ t₀ fs₀ (s.setGen g .running) (fun e s1 => ∃ v l k c p fs, e = .susp v false l k c p fs ∧ ((End.susp v false l k c p fs).quiet = true → Q (some v) (s1.setGen g (End.susp v false l k c p fs).genState)))) :
    wpAny (model prog w) A (pyNext (.ref a)) Q E s := by
  unfold pyNext
  refine wpAny_bind (wpAny_attempt (wpAny_callSpecial?_slot (name := Str.ofString "__next__") hg.typeIs slot_gen_next
    (wpAny_call_entry slot_gen_next hg.typeIs entry_gen_next ?_ (args_gen_next _))))
  show wpAny _ _ (Builtin.Generator.genWake (.ref a) (.send .none)) _ _ s
  unfold Builtin.Generator.genWake
  refine wpAny_bind (wpAny_holding (wpAny_genNumber hg (wpAny_bind (wpAny_genState hgs ?_))))
  have quiet : Sg prog w A.in1 c₀ t₀ fs₀ (s.setGen g .running) (fun e s1 => ∃ v l k c p fs, e = .susp v false l k c p fs ∧ Q (some v) (s1.setGen g (End.susp v false l k c p fs).genState)) := fun Γ p hc hΓ => by
    obtain ⟨e, s', hr, hq, v, l, k, c, p, fs, rfl, hQ⟩ := h Γ p hc hΓ
    exact ⟨_, s', hr, hq, v, l, k, c, p, fs, rfl, hQ hq⟩
  have go : ∀ (k : GenResult → Sem PySem.Fin) (Q' : PySem.Fin → Shared → Prop) (E' : Value → Shared → Prop) (l : List Value), (∀ v s1, Q (some v) s1 → wpAny (model prog w) A.in1 (k (.yielded v)) Q' E' s1) → wpAny (model prog w) A.in1 (.resume g (.send .none) l k) Q' E' s := fun k Q' E' l hk => by
    refine X.wake_any _ prog w hgs ?_ (fun Γ => Γ.In A.in1) (fun _ h => h) (quiet.mono ?_)
    · rcases hst with ⟨h1, h2, h3⟩ | ⟨k₀, l₀, p₀, cl, h1, h2⟩
      · exact .inl ⟨h1, rfl, h2, h3⟩
      · exact .inr ⟨k₀, l₀, p₀, cl, h1, h2⟩
    · rintro e s1 ⟨v, l, k', c, p, fs, rfl, hQ⟩ Γ p' hΓ
      exact hk v _ hQ Γ p' hΓ
  rcases hst with ⟨rfl, _⟩ | ⟨k₀, l₀, p₀, cl, rfl, _⟩
  · refine wpAny_bind (wpAny_roomToWake hl hroom ?_)
    show wpAny _ _ (.resume g (.send .none) [] _) _ _ s
    exact go _ _ _ _ fun v s1 hq => wpAny_pure ⟨v, rfl, wpAny_pure hq⟩
  · refine wpAny_bind (wpAny_roomToWake hl hroom ?_)
    show wpAny _ _ (.resume g (.send .none) [] _) _ _ s
    exact go _ _ _ _ fun v s1 hq => wpAny_pure ⟨v, rfl, wpAny_pure hq⟩
end
end Mine
namespace Mine
/-! several objects and a generator that the frame must not touch -/
def Cx.lockV (K : Cx) (v : View) (gn : Nat) (gs : GenState) : Cx :=
  { K with lk := fun b => match v b with | some o => some o | none => K.lk b, mu := fun b => (∃ o, v b = some o) ∨ K.mu b, gl := fun i => if i = gn then some gs else K.gl i }
theorem lockV_some {K : Cx} {v : View} {gn : Nat} {gs : GenState} {b : Addr} {o : Obj} (h : v b = some o) : (K.lockV v gn gs).lk b = some o := by
  show (match v b with | some o => some o | none => K.lk b) = some o
  rw [h]
theorem lockV_none {K : Cx} {v : View} {gn : Nat} {gs : GenState} {b : Addr} (h : v b = none) : (K.lockV v gn gs).lk b = K.lk b := by
  show (match v b with | some o => some o | none => K.lk b) = K.lk b
  rw [h]
abbrev NoCell (v : View) : Prop := ∀ b o, v b = some o → ∀ ov, o.data ≠ .cell ov
theorem St.lockV {K : Cx} {ρ : Rho} {ow : Own} {s s' : Shared} {g v : View} {gn : Nat} {gs : GenState} (x : St K ρ ow s g) (hv : VIn v s'.heap) (hf : ∀ b o, v b = some o → s.heap.objs.size ≤ b) (hk : Kp s.heap s'.heap) (hos : s'.os = s.os)
    (hb : AllBare s'.gens) (hp : ∀ (i : Nat) (y : GenState), s.gens[i]? = some y → s'.gens[i]? = some y) (hgn : s'.gens[gn]? = some gs) (hge : s.gens.size ≤ gn) : St (K.lockV v gn gs) ρ ow s' g := by
  have y := x.same hk hos ⟨hb, fun i z e => hp i z (x.bare.2 i z e)⟩
  have hne : ∀ {b : Addr} {ob : Obj}, s.heap.get? b = some ob → v b = none := fun {b ob} e => by
    cases q : v b with
    | none => rfl
    | some o => exact absurd (Heap.lt_size e) (Nat.not_lt.mpr (hf _ _ q))
  obtain ⟨m, hm, hv1, hw⟩ := x.ns
  obtain ⟨oL, _, _, eL, _⟩ := id hm
  obtain ⟨m', hm', hv', hw'⟩ := y.ns
  have em := Ns.uniq hm' (hm.keeps hk)
  subst em
  refine ⟨y.vin, y.old, fun b ob e => ?_, y.os, ⟨hb, fun i z e => ?_⟩, y.lo, y.gL, ?_, fun b hb' => ?_, ⟨m', hm', hv', ?_⟩, y.cx, y.ce⟩
  · cases q : v b with
    | none => rw [lockV_none q] at e; exact y.keep b ob e
    | some o => rw [lockV_some q] at e; cases e; exact hv _ _ q
  · have e' : (if i = gn then some gs else K.gl i) = some z := e
    by_cases q : i = gn
    · rw [if_pos q] at e'; cases e'; rw [q]; exact hgn
    · rw [if_neg q] at e'; exact y.bare.2 i z e'
  · rw [show (K.lockV v gn gs).L = K.L from rfl, lockV_none (hne eL)]; exact x.kL
  · rcases hb' with ⟨o, ho⟩ | hb'
    · exact ⟨x.vin.none (hf _ _ ho), o, lockV_some ho⟩
    · obtain ⟨h1, ob, h2⟩ := x.mu b hb'
      exact ⟨h1, ob, by rw [lockV_none (hne (x.keep b ob h2))]; exact h2⟩
  · cases ow with
    | none => trivial
    | some p =>
      obtain ⟨y, c, ds⟩ := p
      obtain ⟨vs, n, h1, h2, h3, h4, h5, h6, h7, h8⟩ := hw
      exact ⟨vs, n, h1, hk _ _ h2, h3, h4, h5, h6, by rw [lockV_none (hne h2)]; exact h7, h8⟩
theorem St.moveV {K : Cx} {ρ : Rho} {ow : Own} {s s' : Shared} {g v v' : View} {gn : Nat} {gs gs' : GenState} (x : St (K.lockV v gn gs) ρ ow s g) (hnc : NoCell v) (hk : ∀ b ob, v b = none → s.heap.get? b = some ob → s'.heap.get? b = some ob) (hv' : VIn v' s'.heap)
    (h1 : ∀ b o, v' b = some o → (∃ o, v b = some o) ∨ s.heap.objs.size ≤ b) (h2 : ∀ b o, v b = some o → ∃ o', v' b = some o') (hos : s'.os = s.os) (hb : AllBare s'.gens) (hp : ∀ (i : Nat) (y : GenState), i ≠ gn → s.gens[i]? = some y → s'.gens[i]? = some y) (hgn : s'.gens[gn]? = some gs') :
    St (K.lockV v' gn gs') ρ ow s' g := by
  have hvs : ∀ b o, v b = some o → s.heap.get? b = some o := fun b o e => x.keep b o (lockV_some e)
  have gv : ∀ b o, v b = some o → g b = none := fun b o e => (x.mu b (.inl ⟨o, e⟩)).1
  have new : ∀ {b : Addr} {ob : Obj}, s.heap.get? b = some ob → v b = none → v' b = none := fun {b ob} e q => by
    cases q' : v' b with
    | none => rfl
    | some o =>
      rcases h1 b o q' with ⟨o2, e2⟩ | e2
      · rw [q] at e2; cases e2
      · exact absurd (Heap.lt_size e) (Nat.not_lt.mpr e2)
  have hL : v K.L = none := by
    cases q : v K.L with
    | none => rfl
    | some o =>
      have := x.kL
      rw [show (K.lockV v gn gs).L = K.L from rfl, lockV_some q] at this; cases this
  have hkL : K.lk K.L = none := by
    have := x.kL
    rwa [show (K.lockV v gn gs).L = K.L from rfl, lockV_none hL] at this
  obtain ⟨m, hm, hv, hw⟩ := x.ns
  have hm0 : s.heap.Ns K.L m := hm
  obtain ⟨oL, es, ep, eL, rL⟩ := id hm0
  have hc : ∀ y c, K.cl.lookup y = some c → v c = none := fun y c h => by
    cases q : v c with
    | none => rfl
    | some o =>
      obtain ⟨_, _, ov, ⟨oc, e1, e2⟩, _⟩ := x.ce y c h
      rw [hvs _ _ q] at e1; cases e1; exact absurd e2 (hnc _ _ q _)
  refine ⟨fun b ob e => hk b ob ?_ (x.vin b ob e), x.old, fun b ob e => ?_, hos.trans x.os, ⟨hb, fun i z e => ?_⟩, x.lo, x.gL, ?_, fun b hb' => ?_, ⟨m, ⟨oL, es, ep, hk _ _ hL eL, rL⟩, hv, ?_⟩, x.cx, fun y c h => ?_⟩
  · cases q : v b with
    | none => rfl
    | some o => rw [gv _ _ q] at e; cases e
  · cases q : v' b with
    | some o => rw [lockV_some q] at e; cases e; exact hv' _ _ q
    | none =>
      rw [lockV_none q] at e
      have qv : v b = none := by
        cases q2 : v b with
        | none => rfl
        | some o => obtain ⟨o', e'⟩ := h2 _ _ q2; rw [q] at e'; cases e'
      exact hk b ob qv (x.keep b ob (by rw [lockV_none qv]; exact e))
  · have e' : (if i = gn then some gs' else K.gl i) = some z := e
    by_cases q : i = gn
    · rw [if_pos q] at e'; cases e'; rw [q]; exact hgn
    · rw [if_neg q] at e'
      exact hp i z q (x.bare.2 i z (by show (if i = gn then _ else _) = _; rw [if_neg q]; exact e'))
  · rw [show (K.lockV v' gn gs').L = K.L from rfl, lockV_none (new eL hL)]; exact hkL
  · rcases hb' with ⟨o, ho⟩ | hb'
    · refine ⟨?_, o, lockV_some ho⟩
      rcases h1 _ _ ho with ⟨o2, e2⟩ | e2
      · exact gv _ _ e2
      · exact x.vin.none e2
    · obtain ⟨k1, ob, k2⟩ := x.mu b (.inr hb')
      cases q : v b with
      | some o =>
        obtain ⟨o', e'⟩ := h2 _ _ q
        exact ⟨k1, o', lockV_some e'⟩
      | none =>
        refine ⟨k1, ob, ?_⟩
        rw [lockV_none (new (x.keep b ob k2) q)]
        rwa [lockV_none q] at k2
  · cases ow with
    | none => trivial
    | some p =>
      obtain ⟨y, c, ds⟩ := p
      obtain ⟨vs, n, k1, k2, k3, k4, k5, k6, k7, k8⟩ := hw
      have qc : v c = none := by
        cases q : v c with
        | none => rfl
        | some o => rw [lockV_some q] at k7; cases k7
      refine ⟨vs, n, k1, hk _ _ qc k2, k3, k4, k5, k6, ?_, k8⟩
      rw [lockV_none (new k2 qc)]
      rwa [lockV_none qc] at k7
  · obtain ⟨k1, k2, ov, ⟨oc, e1, e2⟩, k4⟩ := x.ce y c h
    exact ⟨k1, k2, ov, ⟨oc, hk _ _ (hc y c h) e1, e2⟩, k4⟩
theorem St.unlockV {K : Cx} {ρ : Rho} {ow : Own} {s : Shared} {g v : View} {gn : Nat} {gs : GenState} (x : St (K.lockV v gn gs) ρ ow s g) (hn : ∀ b o, v b = some o → K.lk b = none) (hmu : ∀ a, K.mu a → ∃ o, K.lk a = some o) (hgl : K.gl gn = none) : St K ρ ow s g := by
  have ne : ∀ {b ob}, K.lk b = some ob → v b = none := fun {b ob} e => by
    cases q : v b with
    | none => rfl
    | some o => rw [hn _ _ q] at e; cases e
  obtain ⟨m, hm, hv, hw⟩ := x.ns
  have dn : ∀ {c}, (K.lockV v gn gs).lk c = none → K.lk c = none := fun {c} e => by
    cases q : v c with
    | none => rwa [lockV_none q] at e
    | some o => rw [lockV_some q] at e; cases e
  refine ⟨x.vin, x.old, fun b ob e => x.keep b ob (by rw [lockV_none (ne e)]; exact e), x.os, ⟨x.bare.1, fun i z e => x.bare.2 i z ?_⟩, x.lo, x.gL, dn x.kL, fun a ha => ⟨(x.mu a (.inr ha)).1, hmu a ha⟩, ⟨m, hm, hv, ?_⟩, x.cx, x.ce⟩
  · show (if i = gn then _ else _) = _
    rw [if_neg (fun q => by rw [q, hgl] at e; cases e)]; exact e
  · cases ow with
    | none => trivial
    | some p =>
      obtain ⟨y, c, ds⟩ := p
      obtain ⟨vs, n, k1, k2, k3, k4, k5, k6, k7, k8⟩ := hw
      exact ⟨vs, n, k1, k2, k3, k4, k5, k6, dn k7, k8⟩
/-- a generator in this state gives these numbers -/
def Yl (G : Gd) (w : World) (A : Around) (hb : Heap) (u : View) : List Int → View → GenState → Prop
  | [], _, _ => True
  | i :: r, v, gs => ∀ (s : Shared) (a : Addr) (g : Nat) (Q : Option Value → Shared → Prop) (E : Value → Shared → Prop), s.heap.IsGen a g → v a = none → s.gens[g]? = some gs → Kp hb s.heap → VIn u s.heap → VIn v s.heap → AllBare s.gens →
    (∀ t s' v' gs', Yl G w A hb u r v' gs' → VIn v' s'.heap → NoCell v' → (∀ b o, v' b = some o → (∃ o, v b = some o) ∨ s.heap.objs.size ≤ b) → (∀ b o, v b = some o → ∃ o', v' b = some o') →
      (∀ b o, v b = none → s.heap.get? b = some o → s'.heap.get? b = some o) → s'.os = s.os → s'.gens[g]? = some gs' → (∀ (j : Nat) (y : GenState), j ≠ g → s.gens[j]? = some y → s'.gens[j]? = some y) → AllBare s'.gens → Q (some (.int i t)) s') →
    wpAny (model G.prog w) A (pyNext (.ref a)) Q E s
section
variable {G : Gd} {n : Nat} {S : Scope} {ρ : Rho} {ow : Own}
def GX (G : Gd) (n : Nat) (S : Scope) (ρ : Rho) (ow : Own) (it : Expr) (vals : List Int) : Prop :=
  ∀ (K : Cx), K.S = S → Room K.A n → K.On G → ∀ (s : Shared) (g : View) (Q : Value → Shared → Prop) (E : Value → Shared → Prop), St K ρ ow s g →
    (∀ a s0 s' g' v gs gn hb u, St K ρ ow s0 g' → VLe g g' → Kp s0.heap s'.heap → s'.os = s0.os → AllBare s'.gens → (∀ (i : Nat) (y : GenState), s0.gens[i]? = some y → s'.gens[i]? = some y) → s0.gens.size ≤ gn → s'.gens[gn]? = some gs → s'.heap.IsGen a gn →
      s0.heap.objs.size ≤ a → v a = none → VIn v s'.heap → (∀ b o, v b = some o → s0.heap.objs.size ≤ b) → NoCell v → (∀ b o, hb.get? b = some o → K.lk b = some o) → VLe u g' → Yl G K.w K.A hb u vals v gs → Q (.ref a) s') →
    wpAny (model G.prog K.w) K.A (eval it K.env) Q E s
theorem vput_some {v : View} {a b : Addr} {oa o : Obj} (h : vput v a oa b = some o) : (b = a ∧ o = oa) ∨ (b ≠ a ∧ v b = some o) := by
  by_cases q : b = a
  · subst q; rw [vput_at] at h; cases h; exact .inl ⟨rfl, rfl⟩
  · rw [vput_ne q] at h; exact .inr ⟨q, h⟩
theorem S1.forGen {x : Str} {p : Pos} {it : Expr} {b : List Stmt} {pos : Pos} {vals : List Int} {P : Pst} (hi : GX G n S ρ ow it vals) (J : List Int → Rho → Own → Prop) (h0 : J [] ρ ow)
    (turn : ∀ pre i post ρ1 ow1, vals = pre ++ i :: post → J pre ρ1 ow1 → ∃ ρ2, AT G n S (.Name x p) (.int i) ρ1 ow1 ρ2 ∧ SX G n S ρ2 ow1 b (fun fl ρ3 ow3 => match fl with
      | .next => J (pre ++ [i]) ρ3 ow3
      | .cont => J (pre ++ [i]) ρ3 ow3
      | .brk => P .next ρ3 ow3
      | .ret r => P (.ret r) ρ3 ow3))
    (done : ∀ ρ1 ow1, ¬ J vals ρ1 ow1) (hs : ∀ env x, foldedSetIterable it env x = pure x := by intro _ _; rfl) : S1 G n S ρ ow (.For (.Name x p) it b [] pos) P := by
  rintro K rfl R Y C s g Q E T q
  refine wpAny_For (hi K rfl R Y _ _ _ _ T fun a s0 s1 g1 v gs gn hb u T0 l1 hk hos hbare hpre hge hgn hgen ha va hv hvf hnc hhb hu hY => ?_) (hs _)
  refine wpAny_pyIter_gen hgen ?_
  obtain ⟨oa, nm, qn, ea, ca, da, sa⟩ := id hgen
  have hvp : ∀ bb o, vput v a oa bb = some o → s0.heap.objs.size ≤ bb := fun bb o e => by
    rcases vput_some e with ⟨rfl, _⟩ | ⟨_, e⟩
    · exact ha
    · exact hvf _ _ e
  have hlkn : ∀ bb : Addr, s0.heap.objs.size ≤ bb → K.lk bb = none := fun bb hle => by
    cases e : K.lk bb with
    | none => rfl
    | some o => exact absurd (Heap.lt_size (T0.keep _ _ e)) (Nat.not_lt.mpr hle)
  have hmu : ∀ a, K.mu a → ∃ o, K.lk a = some o := fun a h => (T0.mu a h).2
  have hgl : K.gl gn = none := by
    cases e : K.gl gn with
    | none => rfl
    | some y =>
      have := T0.bare.2 gn y e
      rw [Array.getElem?_eq_none hge] at this; cases this
  have T1 : St (K.lockV (vput v a oa) gn gs) ρ ow s1 g1 := T0.lockV (fun bb o e => by
    rcases vput_some e with ⟨rfl, rfl⟩ | ⟨_, e⟩
    · exact ea
    · exact hv _ _ e) hvp hk hos hbare hpre hgn hge
  have hd0 : ∀ ov, oa.data ≠ .cell ov := fun ov qq => by rw [da] at qq; cases qq
  refine codeAny_forLoop_any (fun k s => ∃ pre post ρ1 ow1 g2 v gs, vals = pre ++ post ∧ k = post.length ∧ J pre ρ1 ow1 ∧ Yl G K.w K.A hb u post v gs ∧ NoCell v ∧ v a = none ∧ St (K.lockV (vput v a oa) gn gs) ρ1 ow1 s g2 ∧ VLe g1 g2 ∧ (∀ bb o, v bb = some o → s0.heap.objs.size ≤ bb)) ?_ vals.length
    ⟨[], vals, ρ, ow, g1, v, gs, rfl, rfl, h0, hY, hnc, va, T1, VLe.refl _, hvf⟩
  clear T1 hY hnc va hv hvf hgn hvp
  rintro k s2 ⟨pre, post, ρ1, ow1, g2, v2, gs2, hd, hk1, hJ, hY2, hnc2, va2, T2, l2, hvf2⟩
  cases post with
  | nil => exact absurd (by rw [hd, List.append_nil]; exact hJ) (done ρ1 ow1)
  | cons i post =>
    have keepV : ∀ {s3 : Shared} {v3 : View} {gs3 : GenState} {ρ3 : Rho} {ow3 : Own} {g3 : View}, St (K.lockV (vput v3 a oa) gn gs3) ρ3 ow3 s3 g3 → s3.heap.get? a = some oa := fun T => T.keep a oa (lockV_some (vput_at ..))
    have hvn : ∀ (bb : Addr) (o : Obj), hb.get? bb = some o → bb < s0.heap.objs.size := fun bb o e => Heap.lt_size (T0.keep bb o (hhb bb o e))
    refine hY2 s2 a gn _ _ ⟨oa, nm, qn, keepV T2, ca, da, sa⟩ va2 (T2.bare.2 gn gs2 (by show (if gn = gn then _ else _) = _; rw [if_pos rfl])) (fun bb o e => T2.keep bb o ?_) (fun bb o e => T2.vin bb o (l2 _ _ (hu _ _ e))) (fun bb o e => T2.keep bb o (lockV_some (by rw [vput_ne (fun qq => by rw [qq, va2] at e; cases e)]; exact e))) T2.bare.1
      fun t s3 v3 gs3 hY3 hv3 hnc3 hd1 hd2 hk3 hos3 hgn3 hpre3 hbare3 => ?_
    · have : vput v2 a oa bb = none := by
        cases qq : vput v2 a oa bb with
        | none => rfl
        | some o' =>
          rcases vput_some qq with ⟨rfl, _⟩ | ⟨_, e'⟩
          · exact absurd (hvn _ _ e) (Nat.not_lt.mpr ha)
          · exact absurd (hvn _ _ e) (Nat.not_lt.mpr (hvf2 _ _ e'))
      rw [lockV_none this]; exact hhb _ _ e
    · have va3 : v3 a = none := by
        cases qq : v3 a with
        | none => rfl
        | some o =>
          rcases hd1 _ _ qq with ⟨o', e'⟩ | e'
          · rw [va2] at e'; cases e'
          · exact absurd (Heap.lt_size (keepV T2)) (Nat.not_lt.mpr e')
      have hsz : s0.heap.objs.size ≤ s2.heap.objs.size := by
        have h := Heap.lt_size (keepV T2)
        exact Nat.le_trans ha (Nat.le_of_lt h)
      have hvf3 : ∀ bb o, v3 bb = some o → s0.heap.objs.size ≤ bb := fun bb o e => by
        rcases hd1 _ _ e with ⟨o', e'⟩ | e'
        · exact hvf2 _ _ e'
        · exact Nat.le_trans hsz e'
      have ea3 : s3.heap.get? a = some oa := hk3 a oa va2 (keepV T2)
      have T3 : St (K.lockV (vput v3 a oa) gn gs3) ρ1 ow1 s3 g2 := T2.moveV (fun bb o e => by
          rcases vput_some e with ⟨rfl, rfl⟩ | ⟨_, e⟩
          · exact hd0
          · exact hnc2 _ _ e) (fun bb ob e1 e2 => hk3 bb ob (by
            cases qq : v2 bb with
            | none => rfl
            | some o => rw [vput_ne (fun q3 => by rw [q3, va2] at qq; cases qq), qq] at e1; cases e1) e2) (fun bb o e => by
          rcases vput_some e with ⟨rfl, rfl⟩ | ⟨_, e⟩
          · exact ea3
          · exact hv3 _ _ e) (fun bb o e => by
          rcases vput_some e with ⟨rfl, rfl⟩ | ⟨qq, e⟩
          · exact .inl ⟨_, vput_at ..⟩
          · rcases hd1 _ _ e with ⟨o', e'⟩ | e'
            · exact .inl ⟨o', by rw [vput_ne qq]; exact e'⟩
            · exact .inr e') (fun bb o e => by
          rcases vput_some e with ⟨rfl, rfl⟩ | ⟨qq, e⟩
          · exact ⟨_, vput_at ..⟩
          · obtain ⟨o', e'⟩ := hd2 _ _ e
            exact ⟨o', by rw [vput_ne qq]; exact e'⟩) hos3 hbare3 hpre3 hgn3
      have hlk3 : ∀ bb o, vput v3 a oa bb = some o → K.lk bb = none := fun bb o e => by
        rcases vput_some e with ⟨rfl, rfl⟩ | ⟨_, e⟩
        · exact hlkn _ ha
        · exact hlkn _ (hvf3 _ _ e)
      have Y3 : (K.lockV (vput v3 a oa) gn gs3).On G := by
        obtain ⟨hb0, k1, k2⟩ := Y
        refine ⟨hb0, k1, fun bb o e => ?_⟩
        have e1 := k2 bb o e
        have : vput v3 a oa bb = none := by
          cases qq : vput v3 a oa bb with
          | none => rfl
          | some o' => rw [hlk3 _ _ qq] at e1; cases e1
        rw [lockV_none this]; exact e1
      have C3 : (K.lockV (vput v3 a oa) gn gs3).Ce := ⟨fun y c e => ⟨by
        have : vput v3 a oa c = none := by
          cases qq : vput v3 a oa c with
          | none => rfl
          | some o' =>
            obtain ⟨_, _, ov, ⟨oc, e1, e2⟩, _⟩ := T3.ce y c e
            have e3 := T3.keep c o' (lockV_some qq)
            rw [e3] at e1; cases e1
            rcases vput_some qq with ⟨_, rfl⟩ | ⟨_, e4⟩
            · exact absurd e2 (hd0 _)
            · exact absurd e2 (hnc3 _ _ e4 _)
        rw [lockV_none this]; exact (C.1 y c e).1, (C.1 y c e).2⟩, C.2⟩
      refine wpAny_of_eq (show letOwnedTupleGo (.Name x p) (.ref a) _ = pure () from rfl) ?_
      obtain ⟨ρ2, hA, hB⟩ := turn pre i post ρ1 ow1 hd hJ
      refine hA (K.lockV (vput v3 a oa) gn gs3) rfl R C3 _ _ _ _ _ T3 (Rd.mkInt _ _) fun s4 g4 T4 l4 => ?_
      refine hB (K.lockV (vput v3 a oa) gn gs3) rfl R Y3 C3 _ _ _ _ T4 fun f fl ρ5 ow5 s5 g5 p5 T5 l5 r5 => ?_
      have un : St K ρ5 ow5 s5 g5 := T5.unlockV hlk3 hmu hgl
      have le : VLe g g5 := ((l1.trans l2).trans l4).trans l5
      have nx : J (pre ++ [i]) ρ5 ow5 → ∃ m, m < k ∧ ∃ pre post ρ1 ow1 g2 v gs, vals = pre ++ post ∧ m = post.length ∧ J pre ρ1 ow1 ∧ Yl G K.w K.A hb u post v gs ∧ NoCell v ∧ v a = none ∧ St (K.lockV (vput v a oa) gn gs) ρ1 ow1 s5 g2 ∧ VLe g1 g2 ∧ (∀ bb o, v bb = some o → s0.heap.objs.size ≤ bb) := fun hj =>
        ⟨post.length, by rw [hk1]; simp, pre ++ [i], post, ρ5, ow5, g5, v3, gs3, by rw [hd]; simp, rfl, hj, hY3, hnc3, va3, T5, (l2.trans l4).trans l5, hvf3⟩
      cases fl with
      | next =>
        have e : f = .next := r5
        subst e
        exact nx p5
      | cont =>
        have e : f = .cont := r5
        subst e
        exact nx p5
      | brk =>
        have e : f = .brk := r5
        subst e
        exact q _ _ _ _ _ _ p5 un le rfl
      | ret r =>
        obtain ⟨v', rfl, rv⟩ := r5
        exact q _ _ _ _ _ _ p5 un le ⟨v', rfl, rv⟩
end
end Mine
namespace Mine
/-! the library's sort, run on keys -/
def SOk {α : Type} (N : Nat) (key : Nat → Int) : KasT α → (α → Prop) → Prop
  | .ret a, P => P a
  | .ask i j k, P => i < N ∧ j < N ∧ i ≠ j ∧ SOk N key (k (decide (key i < key j))) P
section
variable {N : Nat} {key : Nat → Int}
theorem SOk.bind {α β : Type} {f : α → KasT β} {P : β → Prop} : ∀ {t : KasT α}, SOk N key t (fun a => SOk N key (f a) P) → SOk N key (t.bind f) P
  | .ret a, h => h
  | .ask i j k, ⟨h1, h2, h3, h4⟩ => ⟨h1, h2, h3, SOk.bind h4⟩
theorem SOk.mono {α : Type} {P P' : α → Prop} (hp : ∀ a, P a → P' a) : ∀ {t : KasT α}, SOk N key t P → SOk N key t P'
  | .ret a, h => hp a h
  | .ask i j k, ⟨h1, h2, h3, h4⟩ => ⟨h1, h2, h3, SOk.mono hp h4⟩
theorem SOk.wp {α : Type} {P : α → Prop} {cmp : Nat → Nat → (Bool → Shared → Prop) → Shared → Prop} {Q : α → Shared → Prop} {s : Shared} (hc : ∀ i j C, i < N → j < N → i ≠ j → C (decide (key i < key j)) s → cmp i j C s) (hq : ∀ a, P a → Q a s) : ∀ {t : KasT α}, SOk N key t P → t.kasWp cmp Q s
  | .ret a, h => hq a h
  | .ask i j k, ⟨h1, h2, h3, h4⟩ => hc i j _ h1 h2 h3 (SOk.wp hc hq h4)
/-- an array that holds the numbers below N, each once -/
def Pm (N : Nat) (p : Array Nat) : Prop := p.Perm (List.range N).toArray
theorem Pm.size {p : Array Nat} (h : Pm N p) : p.size = N := by have := h.size_eq; simpa using this
theorem Pm.nodup {p : Array Nat} (h : Pm N p) : p.toList.Nodup := by
  have h1 : p.toList.Perm (List.range N) := by simpa using Array.perm_iff_toList_perm.mp h
  exact h1.nodup_iff.mpr List.nodup_range
theorem getD_at {p : Array Nat} {a : Nat} (h : a < p.size) : p.getD a 0 = p[a] := by simp [Array.getD, h]
theorem Pm.lt {p : Array Nat} (h : Pm N p) {a : Nat} (ha : a < N) : p.getD a 0 < N := by
  have ha' : a < p.size := by rw [h.size]; exact ha
  rw [getD_at ha']
  have h1 : p.toList.Perm (List.range N) := by simpa using Array.perm_iff_toList_perm.mp h
  have : p[a] ∈ p.toList := by simp
  exact List.mem_range.mp (h1.mem_iff.mp this)
theorem Pm.ne {p : Array Nat} (h : Pm N p) {a b : Nat} (ha : a < N) (hb : b < N) (hab : a ≠ b) : p.getD a 0 ≠ p.getD b 0 := by
  have ha' : a < p.size := by rw [h.size]; exact ha
  have hb' : b < p.size := by rw [h.size]; exact hb
  rw [getD_at ha', getD_at hb']
  intro q
  have hn := h.nodup
  have hw := List.pairwise_iff_getElem.mp hn
  rcases Nat.lt_or_gt_of_ne hab with h1 | h1
  · exact hw a b (by simpa using ha') (by simpa using hb') h1 (by simpa using q)
  · exact hw b a (by simpa using hb') (by simpa using ha') h1 (by simpa using q.symm)
theorem Pm.ask {α : Type} {p : Array Nat} (h : Pm N p) {a b : Nat} {k : Bool → KasT α} {P : α → Prop} (ha : a < N) (hb : b < N) (hab : a ≠ b) (hk : SOk N key (k (decide (key (p.getD a 0) < key (p.getD b 0)))) P) : SOk N key (.ask (p.getD a 0) (p.getD b 0) k) P := ⟨h.lt ha, h.lt hb, h.ne ha hb hab, hk⟩
theorem rev_perm {p : Array Nat} {i j : Nat} (h : Pm N p) : Pm N (kas_rev p i j) := (mirror_perm _ _ _ _).trans h
theorem bub_perm {p : Array Nat} {k d : Nat} (h : Pm N p) : Pm N (bubble p k d) := (bubble_perm _ _ _).trans h
theorem getD_of {p : Array Nat} {a : Nat} : p.getD a 0 = (p[a]?).getD 0 := by simp [Array.getD_eq_getD_getElem?]
theorem rev_at {p : Array Nat} {i j : Nat} (hj : j ≤ p.size) (x : Nat) : (kas_rev p i j).getD x 0 = if i ≤ x ∧ x < j then p.getD (i + j - 1 - x) 0 else p.getD x 0 := by
  unfold kas_rev
  rw [getD_of, getElem?_mirror_all hj]
  split <;> rw [getD_of]
theorem bub_at {p : Array Nat} {k d : Nat} (hk : k < p.size) (hd : d ≤ k) (x : Nat) : (bubble p k d).getD x 0 = if x = k - d then p.getD k 0 else if k - d < x ∧ x ≤ k then p.getD (x - 1) 0 else p.getD x 0 := by
  rw [getD_of, getElem?_bubble hk d hd]
  by_cases h1 : x = k - d
  · rw [if_pos h1, if_pos h1, getD_of]
  · rw [if_neg h1, if_neg h1]
    by_cases h2 : k - d < x ∧ x ≤ k
    · rw [if_pos h2, if_pos h2, getD_of]
    · rw [if_neg h2, if_neg h2, getD_of]
abbrev kv (key : Nat → Int) (p : Array Nat) (i : Nat) : Int := key (p.getD i 0)
def Up (key : Nat → Int) (p : Array Nat) (m : Nat) : Prop := ∀ i j, i ≤ j → j < m → kv key p i ≤ kv key p j
def Down (key : Nat → Int) (p : Array Nat) (m : Nat) : Prop := ∀ i j, i ≤ j → j < m → kv key p j ≤ kv key p i
theorem Up.snoc {p : Array Nat} {m : Nat} (h : Up key p m) (h1 : 1 ≤ m) (hl : kv key p (m - 1) ≤ kv key p m) : Up key p (m + 1) := by
  intro i j hij hj
  by_cases q : j = m
  · subst q
    by_cases q' : i = j
    · subst q'; exact Int.le_refl _
    · exact Int.le_trans (h i (j - 1) (by omega) (by omega)) hl
  · exact h i j hij (by omega)
theorem Down.snoc {p : Array Nat} {m : Nat} (h : Down key p m) (h1 : 1 ≤ m) (hl : kv key p m ≤ kv key p (m - 1)) : Down key p (m + 1) := by
  intro i j hij hj
  by_cases q : j = m
  · subst q
    by_cases q' : i = j
    · subst q'; exact Int.le_refl _
    · exact Int.le_trans hl (h i (j - 1) (by omega) (by omega))
  · exact h i j hij (by omega)
theorem asc_ok {p : Array Nat} (hp : Pm N p) : ∀ (f n : Nat), 1 ≤ n → n + f ≤ N → Up key p n → SOk N key (kas_asc p f n) (fun m => n ≤ m ∧ m ≤ n + f ∧ Up key p m ∧ (m < n + f → kv key p m < kv key p (m - 1)))
  | 0, n, h1, hn, hu => ⟨Nat.le_refl _, Nat.le_refl _, hu, fun h => absurd h (Nat.lt_irrefl _)⟩
  | f + 1, n, h1, hn, hu => by
    refine hp.ask (by omega) (by omega) (by omega) ?_
    by_cases c : kv key p n < kv key p (n - 1)
    · rw [decide_eq_true c, if_pos rfl]
      exact ⟨Nat.le_refl _, by omega, hu, fun _ => c⟩
    · rw [decide_eq_false c, if_neg (by decide)]
      refine (asc_ok hp f (n + 1) (by omega) (by omega) (hu.snoc h1 (Int.not_lt.mp c))).mono fun m hm => ?_
      obtain ⟨h2, h3, h4, h5⟩ := hm
      exact ⟨by omega, by omega, h4, fun h => h5 (by omega)⟩
/-- a block of equal keys, turned round -/
def Flt0 (key : Nat → Int) (p : Array Nat) (a n : Nat) : Prop := ∀ i, a ≤ i → i < n → kv key p i = kv key p (n - 1)
theorem turn_same {p : Array Nat} {a n : Nat} (hn : n ≤ p.size) (h : Flt0 key p a n) (x : Nat) : kv key (kas_rev p a n) x = kv key p x := by
  unfold kv
  rw [rev_at hn]
  by_cases q : a ≤ x ∧ x < n
  · rw [if_pos q]
    have e1 : kv key p (a + n - 1 - x) = kv key p (n - 1) := h _ (by omega) (by omega)
    have e2 : kv key p x = kv key p (n - 1) := h _ q.1 q.2
    exact e1.trans e2.symm
  · rw [if_neg q]
theorem Down.same {p p' : Array Nat} {m : Nat} (h : Down key p m) (e : ∀ x, kv key p' x = kv key p x) : Down key p' m := fun i j hij hj => by rw [e, e]; exact h i j hij hj
theorem desc_ok : ∀ (f : Nat) (p : Array Nat) (n q : Nat), Pm N p → n + f ≤ N → q + 1 ≤ n → Down key p n → Flt0 key p (n - (q + 1)) n →
    SOk N key (kas_desc f p n q) (fun r => Pm N r.1 ∧ n ≤ r.2.1 ∧ r.2.1 ≤ n + f ∧ r.2.2 + 1 ≤ r.2.1 ∧ Down key r.1 r.2.1 ∧ Flt0 key r.1 (r.2.1 - (r.2.2 + 1)) r.2.1)
  | 0, p, n, q, hp, hn, hq, hd, hf => ⟨hp, Nat.le_refl _, Nat.le_refl _, hq, hd, hf⟩
  | f + 1, p, n, q, hp, hn, hq, hd, hf => by
    have one : ∀ p' : Array Nat, Flt0 key p' (n + 1 - (0 + 1)) (n + 1) := fun p' i h1 h2 => by
      have : i = n := by omega
      rw [this]; rfl
    refine hp.ask (by omega) (by omega) (by omega) ?_
    by_cases c : kv key p n < kv key p (n - 1)
    · rw [decide_eq_true c, if_pos rfl]
      by_cases hq0 : q > 0
      · rw [if_pos hq0]
        have e := turn_same (key := key) (p := p) (a := n - (q + 1)) (n := n) (by rw [hp.size]; omega) hf
        refine (desc_ok f _ (n + 1) 0 (rev_perm hp) (by omega) (by omega) (Down.same (hd.snoc (by omega) (Int.le_of_lt c)) e) (one _)).mono fun r hr => ?_
        obtain ⟨h1, h2, h3, h4⟩ := hr
        exact ⟨h1, by omega, by omega, h4⟩
      · rw [if_neg hq0]
        refine (desc_ok f p (n + 1) 0 hp (by omega) (by omega) (hd.snoc (by omega) (Int.le_of_lt c)) (one _)).mono fun r hr => ?_
        obtain ⟨h1, h2, h3, h4⟩ := hr
        exact ⟨h1, by omega, by omega, h4⟩
    · rw [decide_eq_false c, if_neg (by decide)]
      refine hp.ask (by omega) (by omega) (by omega) ?_
      by_cases d : kv key p (n - 1) < kv key p n
      · rw [decide_eq_true d, if_pos rfl]
        exact ⟨hp, Nat.le_refl _, Nat.le_add_right _ _, hq, hd, hf⟩
      · rw [decide_eq_false d, if_neg (by decide)]
        have eq : kv key p n = kv key p (n - 1) := Int.le_antisymm (Int.not_lt.mp d) (Int.not_lt.mp c)
        refine (desc_ok f p (n + 1) (q + 1) hp (by omega) (by omega) (hd.snoc (by omega) (Int.le_of_eq eq)) (fun i h1 h2 => ?_)).mono fun r hr => ?_
        · show _ = kv key p n
          by_cases qi : i = n
          · rw [qi]
          · rw [hf i (by omega) (by omega), eq]
        · obtain ⟨h1, h2, h3, h4⟩ := hr
          exact ⟨h1, by omega, by omega, h4⟩
theorem tail3_ok {p : Array Nat} {n : Nat} (hp : Pm N p) (h1 : 1 ≤ n) (hn : n ≤ N) (hd : Down key p n) : SOk N key (kas_tail3 n N p) (fun r => Pm N r.2 ∧ 1 ≤ r.1 ∧ r.1 ≤ N ∧ Up key r.2 r.1) := by
  have hu : Up key (kas_rev p 0 n) n := fun i j hij hj => by
    unfold kv
    rw [rev_at (by rw [hp.size]; exact hn), rev_at (by rw [hp.size]; exact hn), if_pos ⟨Nat.zero_le _, by omega⟩, if_pos ⟨Nat.zero_le _, hj⟩]
    exact hd _ _ (by omega) (by omega)
  refine SOk.bind ((asc_ok (rev_perm hp) (N - n) n h1 (by omega) hu).mono fun m hm => ?_)
  obtain ⟨h2, h3, h4, _⟩ := hm
  exact ⟨rev_perm hp, by omega, by omega, h4⟩
theorem descPart_ok {p : Array Nat} {n : Nat} (hp : Pm N p) (h1 : 1 ≤ n) (hn : n + 1 ≤ N) (hd : Down key p (n + 1)) : SOk N key (kas_descPart n N p) (fun r => Pm N r.2 ∧ 1 ≤ r.1 ∧ r.1 ≤ N ∧ Up key r.2 r.1) := by
  refine SOk.bind ((desc_ok (N - (n + 1)) p (n + 1) 0 hp (by omega) (by omega) hd (fun i h1 h2 => by
    have : i = n := by omega
    rw [this]; rfl)).mono fun r hr => ?_)
  obtain ⟨h2, h3, h4, h5, h6, h7⟩ := hr
  by_cases hq : r.2.2 > 0
  · rw [if_pos hq]
    exact tail3_ok (rev_perm h2) (by omega) (by omega) (h6.same (turn_same (by rw [h2.size]; omega) h7))
  · rw [if_neg hq]
    exact tail3_ok h2 (by omega) (by omega) h6
theorem count_ok {p : Array Nat} (hN : 1 ≤ N) (hp : Pm N p) : SOk N key (kas_count N p) (fun r => Pm N r.2 ∧ 1 ≤ r.1 ∧ r.1 ≤ N ∧ Up key r.2 r.1) := by
  refine SOk.bind ((asc_ok hp (N - 1) 1 (Nat.le_refl _) (by omega) (fun i j h1 h2 => by
    have e1 : i = 0 := by omega
    have e2 : j = 0 := by omega
    rw [e1, e2]; exact Int.le_refl _)).mono fun n hn => ?_)
  obtain ⟨h2, h3, h4, h5⟩ := hn
  by_cases c : (n == N) = true
  · rw [if_pos c]
    exact ⟨hp, h2, by omega, h4⟩
  · rw [if_neg c]
    have hne : n ≠ N := by simpa using c
    have hlt := h5 (by omega)
    by_cases c1 : n > 1
    · rw [if_pos c1]
      refine hp.ask (by omega) (by omega) (by omega) ?_
      by_cases d : kv key p 0 < kv key p (n - 1)
      · rw [decide_eq_true d, if_pos rfl]
        exact ⟨hp, h2, by omega, h4⟩
      · rw [decide_eq_false d, if_neg (by decide)]
        have hf : Flt0 key p 0 n := fun i _ hi => Int.le_antisymm (h4 i (n - 1) (by omega) (by omega)) (Int.le_trans (Int.not_lt.mp d) (h4 0 i (Nat.zero_le _) hi))
        have e := turn_same (key := key) (p := p) (a := 0) (n := n) (by rw [hp.size]; omega) hf
        have hd : Down key p n := fun i j hij hj => by rw [hf i (Nat.zero_le _) (by omega), hf j (Nat.zero_le _) hj]; exact Int.le_refl _
        exact descPart_ok (rev_perm hp) (by omega) (by omega) ((hd.snoc (by omega) (Int.le_of_lt hlt)).same e)
    · rw [if_neg c1]
      have : n = 1 := by omega
      subst this
      have hd : Down key p 1 := fun i j h1 h2 => by
        have e1 : i = 0 := by omega
        have e2 : j = 0 := by omega
        rw [e1, e2]; exact Int.le_refl _
      exact descPart_ok hp (Nat.le_refl _) (by omega) (hd.snoc (Nat.le_refl _) (Int.le_of_lt hlt))
theorem place_ok {p : Array Nat} {k : Nat} (hp : Pm N p) (hk : k < N) (hu : Up key p k) : ∀ (f l r : Nat), r ≤ k → l ≤ r → r - l ≤ f → (∀ i, i < l → kv key p i ≤ kv key p k) → (∀ i, r ≤ i → i < k → kv key p k ≤ kv key p i) →
    SOk N key (kas_place p k f l r) (fun m => m ≤ k ∧ (∀ i, i < m → kv key p i ≤ kv key p k) ∧ ∀ i, m ≤ i → i < k → kv key p k ≤ kv key p i)
  | 0, l, r, hr, hlr, hf, h1, h2 => by
    have : l = r := by omega
    subst this
    exact ⟨hr, h1, h2⟩
  | f + 1, l, r, hr, hlr, hf, h1, h2 => by
    unfold kas_place
    by_cases c : l ≥ r
    · rw [if_pos c]
      have : l = r := by omega
      subst this
      exact ⟨hr, h1, h2⟩
    · rw [if_neg c]
      refine hp.ask hk (by omega) (by omega) ?_
      by_cases d : kv key p k < kv key p ((l + r) / 2)
      · rw [decide_eq_true d, if_pos rfl]
        exact place_ok hp hk hu f l ((l + r) / 2) (by omega) (by omega) (by omega) h1 fun i hi hik => Int.le_trans (Int.le_of_lt d) (hu _ i hi hik)
      · rw [decide_eq_false d, if_neg (by decide)]
        exact place_ok hp hk hu f ((l + r) / 2 + 1) r hr (by omega) (by omega) (fun i hi => Int.le_trans (hu i ((l + r) / 2) (by omega) (by omega)) (Int.not_lt.mp d)) h2
theorem bin_ok : ∀ (f : Nat) (p : Array Nat) (k : Nat), Pm N p → k + f = N → Up key p k → SOk N key (kas_bin f p k) (fun r => Pm N r ∧ Up key r N)
  | 0, p, k, hp, hk, hu => ⟨hp, by rw [← hk]; exact hu⟩
  | f + 1, p, k, hp, hk, hu => by
    refine SOk.bind ((place_ok hp (by omega) hu k 0 k (Nat.le_refl _) (Nat.zero_le _) (by omega) (fun i hi => absurd hi (Nat.not_lt_zero _)) (fun i h1 h2 => absurd h2 (by omega))).mono fun l hl => ?_)
    obtain ⟨h1, h2, h3⟩ := hl
    refine bin_ok f _ (k + 1) (bub_perm hp) (by omega) fun i j hij hj => ?_
    have at' := bub_at (p := p) (k := k) (d := k - l) (by rw [hp.size]; omega) (by omega)
    have e : k - (k - l) = l := by omega
    rw [e] at at'
    unfold kv
    rw [at' i, at' j]
    by_cases qi : i = l
    · rw [if_pos qi]
      by_cases qj : j = l
      · rw [if_pos qj]; exact Int.le_refl _
      · rw [if_neg qj, if_pos ⟨by omega, by omega⟩]
        exact h3 (j - 1) (by omega) (by omega)
    · rw [if_neg qi]
      by_cases ri : l < i ∧ i ≤ k
      · rw [if_pos ri, if_neg (by omega), if_pos ⟨by omega, by omega⟩]
        exact hu _ _ (by omega) (by omega)
      · rw [if_neg ri]
        by_cases qj : j = l
        · rw [if_pos qj]; exact h2 i (by omega)
        · rw [if_neg qj]
          by_cases rj : l < j ∧ j ≤ k
          · rw [if_pos rj]; exact hu _ _ (by omega) (by omega)
          · rw [if_neg rj]; exact hu _ _ hij (by omega)
theorem sort_ok (hN : 1 ≤ N) : SOk N key (kas_sort N) (fun r => Pm N r ∧ Up key r N) := by
  refine SOk.bind ((count_ok hN (Array.Perm.refl _)).mono fun r hr => ?_)
  obtain ⟨h1, h2, h3, h4⟩ := hr
  by_cases c : r.1 < N
  · rw [if_pos c]
    have e : max r.1 1 = r.1 := by omega
    rw [e]
    exact bin_ok _ _ _ h1 (by omega) h4
  · rw [if_neg c]
    have : r.1 = N := by omega
    exact ⟨h1, this ▸ h4⟩
end
end Mine
namespace Mine
/-! sorted -/
section
variable {prog : Program} {w : World} {A : Around} {E : Value → Shared → Prop} {s : Shared} {h₀ : Heap} {L : Addr} {m : Str → Option Value} {news : List (Addr × Obj)} {vs : List Value}
/-- sorted, with the place of what it gives -/
theorem sortedAt {l : Addr} {Q : Value → Shared → Prop} (F : Fr h₀ L s.heap m) (N : News h₀ L s.heap news) (hl : s.heap.IsList l vs.toArray) (h2 : 2 ≤ vs.length) (h64 : vs.length < 64)
    (h : ∀ e1 h', Fr h₀ L h' m → News h₀ L h' ((s.heap.objs.size + 1, seqObj "list" #[] e1) :: news) →
      wpAny (model prog w) A.in1.in1 (keyKind' vs.toArray) (fun κ s' => (kas_sort vs.length).kasWp (kas_ask prog w A.in1.in1 κ vs) (fun p s'' => KasFin h₀ L m (s.heap.objs.size + 1) e1 (p.toList.map fun i => vs.getD i Value.none) (fun s3 => Q (.ref (s.heap.objs.size + 1)) s3) s'') s') (fun _ _ => False) { s with heap := h' }) :
    wpAny (model prog w) A (call (.builtin "sorted") [.ref l]) Q E s := by
  have z : vs.length ≤ sizeLine := by rw [sizeLine_eq]; omega
  have hL : L < s.heap.objs.size := F.ns.lt
  refine Calls.call_function_entry kind_sorted plain_sorted entry_sorted (args_sorted1 _) ?_
  unfold Builtin.«sorted»
  refine wpAny_bind (m := checkCount "sorted" 1 1 _) (wpAny_pure (wpAny_bind (collect_list hl (wpAny_bind (wpAny_newList ?_ z)) z)))
  generalize hH : (s.heap.push (seqObj "list" #[] 0)).update s.heap.objs.size (Obj.mapSeq (· ++ vs.toArray)) = H
  have hsz : H.objs.size = s.heap.objs.size + 1 := by rw [← hH, Heap.size_update, size_push']
  have keep : ∀ b o, s.heap.get? b = some o → (H.push (seqObj "list" vs.toArray 0)).get? b = some o := fun b o q => by
    refine Heap.get?_push_of_some _ ?_
    rw [← hH, Heap.get?_update_ne _ _ _ _ (Nat.ne_of_lt (Heap.lt_size q))]
    exact Heap.get?_push_of_some _ q
  have ho : (H.push (seqObj "list" vs.toArray 0)).get? (s.heap.objs.size + 1) = some (seqObj "list" vs.toArray 0) := by
    rw [← hsz]; exact Heap.get?_push_size _ rfl
  dsimp only
  show wpAny _ _ _ _ _ { s with heap := H.push (seqObj "list" vs.toArray 0) }
  rw [hsz]
  have run := kat_list_sort (prog := prog) (w := w) (A := A.in1.in1) (E := E) (s := { s with heap := H.push (seqObj "list" vs.toArray 0) }) (a := s.heap.objs.size + 1) (n := 0) (vs := vs) (P := fun fin s' => ∃ v, fin = .done (.ret v) ∧ Q (.ref (s.heap.objs.size + 1)) s')
    (F.kept keep) (N.grown keep) ho (Nat.ne_of_gt (Nat.lt_succ_of_lt hL)) (Heap.get?_none_of_le (Nat.le_trans F.above (Nat.le_succ_of_le (Nat.le_of_lt hL)))) (fun p hp => Nat.ne_of_lt (Nat.lt_succ_of_lt (Heap.lt_size (N p hp).1))) h2 h64 fun e1 h' F' N' => by
      refine wpAny_mono (h e1 h' F' N') (fun κ s' hk => ?_) fun _ _ x => x
      rw [kat_ask_eq rfl] at hk ⊢
      exact kas_wp_mono hk fun p s'' hk' => hk'.mono fun s3 hq => ⟨_, rfl, hq⟩
  refine wpAny_bind (wpAny_holding (wpAny_call_entry slot_list_sort ⟨_, ho, rfl⟩ entry_list_sort ?_ (args_list_sort _)))
  refine wpAny_mono run (fun fin s' hf => ?_) fun _ _ x => x
  obtain ⟨v, rfl, hq⟩ := hf
  exact ⟨_, rfl, wpAny_pure ⟨_, rfl, hq⟩⟩
end
/-- how the sort compares two data -/
def CmpD (d1 d2 : D) (b : Bool) : Prop := ∀ (prog : Program) (w : World) (A : Around) (s : Shared) (g : View) (v1 v2 : Value) (Q : Bool → Shared → Prop) (E : Value → Shared → Prop), VIn g s.heap → Rd g d1 v1 → Rd g d2 v2 → Q b s → wpAny (model prog w) A (keyLt' (tuples' true) v1 v2) Q E s
theorem katTups_of {g : View} {h : Heap} (hv : VIn g h) : ∀ {ds : List D} {us : List Value}, RdL g ds us → (∀ d ∈ ds, ∃ a r, d = .tup (.int a :: r)) → ∃ fs, KatTups h us fs ∧ fs.length = us.length ∧ ∀ v ∈ fs, ∃ a t, v = Value.int a t
  | [], us, hr, _ => by
    rw [RdL.nil_iff.mp hr]
    exact ⟨[], .nil, rfl, fun v h => by cases h⟩
  | d :: ds, us, hr, hd => by
    obtain ⟨v, r, rfl, h1, h2⟩ := RdL.cons_iff.mp hr
    obtain ⟨a, r', rfl⟩ := hd d (.head _)
    obtain ⟨ad, vs, n, rfl, e, hs⟩ := Rd.tup_iff.mp h1
    obtain ⟨v0, r0, rfl, k1, k2⟩ := RdL.cons_iff.mp hs
    obtain ⟨t, rfl⟩ := Rd.int_iff.mp k1
    obtain ⟨fs, i1, i2, i3⟩ := katTups_of hv h2 fun d hd' => hd d (.tail _ hd')
    refine ⟨.int a t :: fs, KatTups.cons (hv _ _ e) rfl rfl (by simp) i1, by simp [i2], fun v hv' => ?_⟩
    rcases List.mem_cons.mp hv' with rfl | hv'
    · exact ⟨a, t, rfl⟩
    · exact i3 v hv'
theorem RdL.getD {g : View} {ds : List D} {us : List Value} (h : RdL g ds us) {i : Nat} (hi : i < ds.length) : Rd g (ds.getD i .none) (us.getD i Value.none) := by
  obtain ⟨v, e, r⟩ := h.get (i := i) (d := ds.getD i .none) (by simp [List.getD_eq_getElem?_getD, hi])
  have : us.getD i Value.none = v := by simp [List.getD_eq_getElem?_getD, e]
  rw [this]; exact r
theorem RdL.pick {g : View} {ds : List D} {us : List Value} (h : RdL g ds us) : ∀ {p : List Nat}, (∀ i ∈ p, i < ds.length) → RdL g (p.map fun i => ds.getD i .none) (p.map fun i => us.getD i Value.none)
  | [], _ => .nil
  | i :: p, hp => .cons (h.getD (hp i (.head _))) (RdL.pick h fun j hj => hp j (.tail _ hj))
/-- a list is told by its things and their order -/
theorem perm_uniq {α : Type} {key : α → Int} : ∀ {a b : List α}, a.Perm b → a.Pairwise (fun x y => key x ≤ key y) → b.Pairwise (fun x y => key x ≤ key y) → (∀ x ∈ a, ∀ y ∈ a, key x = key y → x = y) → a = b
  | [], b, hp, _, _, _ => by rw [List.nil_perm.mp hp]
  | x :: a, [], hp, _, _, _ => by have := hp.length_eq; simp at this
  | x :: a, y :: b, hp, ha, hb, hi => by
    have hx : x ∈ y :: b := hp.mem_iff.mp (.head _)
    have hy : y ∈ x :: a := hp.mem_iff.mpr (.head _)
    have e : x = y := by
      rcases List.mem_cons.mp hx with e | hx'
      · exact e
      · rcases List.mem_cons.mp hy with e | hy'
        · exact e.symm
        · exact hi x (.head _) y (.tail _ hy') (Int.le_antisymm ((List.pairwise_cons.mp ha).1 y hy') ((List.pairwise_cons.mp hb).1 x hx'))
    subst e
    rw [perm_uniq ((List.perm_cons x).mp hp) (List.pairwise_cons.mp ha).2 (List.pairwise_cons.mp hb).2 fun u hu v hv => hi u (.tail _ hu) v (.tail _ hv)]
theorem map_getD_range {α : Type} (ds : List α) (d : α) : (List.range ds.length).map (fun i => ds.getD i d) = ds := by
  apply List.ext_getElem
  · simp
  · intro i h1 h2
    simp [List.getD_eq_getElem?_getD, h2]
section
variable {G : Gd} {n : Nat}
theorem OP.sorted {ds out : List D} (key : D → Int) (h2 : 2 ≤ ds.length) (h64 : ds.length < 64) (hf : ∀ d ∈ ds, ∃ a r, d = .tup (.int a :: r)) (hlt : ∀ i j, i < ds.length → j < ds.length → i ≠ j → CmpD (ds.getD i .none) (ds.getD j .none) (decide (key (ds.getD i .none) < key (ds.getD j .none))))
    (hp : out.Perm ds) (hs : out.Pairwise fun x y => key x ≤ key y) (hinj : ∀ x ∈ ds, ∀ y ∈ ds, key x = key y → x = y) : OP G n (.builtin "sorted") [.lst ds] (.lst out) := by
  intro K R Y ρ ow s g vs Q E T r q
  obtain ⟨v, r1, rfl, k1, r⟩ := RdL.cons_iff.mp r
  obtain rfl := RdL.nil_iff.mp r
  obtain ⟨l, us, k, rfl, el, hr⟩ := Rd.lst_iff.mp k1
  have hlen := hr.length
  obtain ⟨m, F, N, back⟩ := T.toFr
  refine sortedAt F N (isList_of (T.vin _ _ el)) (by omega) (by omega) fun e1 h' F' N' => ?_
  obtain ⟨kp, kL⟩ := back h' F' fun p hp => N' p (.tail _ hp)
  have gv : VIn g h' := fun b o e => kp b o (fun q => by rw [q, T.gL] at e; cases e) (T.vin b o e)
  obtain ⟨fs, t1, t2, t3⟩ := katTups_of (h := h') gv hr hf
  refine kat_kind (s := { s with heap := h' }) (T := .type "int") t1 (by omega) (fun v hv => ?_) rfl ?_
  · obtain ⟨a, t, rfl⟩ := t3 v hv
    exact Looks.of_pure rfl
  show (kas_sort us.length).kasWp (kas_ask G.prog K.w K.A.in1.in1 (tuples' true) us) _ _
  refine SOk.wp (key := fun i => key (ds.getD i .none)) (fun i j C hi hj hij hC => ?_) (fun p hpq => ?_) (sort_ok (by omega))
  · exact hlt i j (by omega) (by omega) hij _ _ _ { s with heap := h' } g _ _ _ _ gv (hr.getD (by omega)) (hr.getD (by omega)) hC
  · obtain ⟨pm, up⟩ := hpq
    refine KasFin.intro F' N' (.head fun p hp => ?_) fun h3 c F3 N3 => ?_
    · exact Nat.ne_of_lt (Nat.lt_succ_of_lt (Heap.lt_size (newsOf_mem.mp hp).2))
    obtain ⟨kp3, kL3⟩ := back h3 F3 fun p hp => N3 p (.tail _ hp)
    have hpl : p.toList.Perm (List.range us.length) := by simpa using Array.perm_iff_toList_perm.mp pm
    have hmem : ∀ i ∈ p.toList, i < ds.length := fun i hi => by
      have := List.mem_range.mp (hpl.mem_iff.mp hi); omega
    have eout : (p.toList.map fun i => ds.getD i .none) = out := by
      have q1 : (p.toList.map fun i => ds.getD i .none).Perm ds := by
        have := hpl.map fun i => ds.getD i D.none
        rw [hlen, map_getD_range] at this
        exact this
      refine perm_uniq (key := key) (q1.trans hp.symm) ?_ hs fun x hx y hy => hinj x (q1.mem_iff.mp hx) y (q1.mem_iff.mp hy)
      rw [List.pairwise_iff_getElem]
      intro i j hi hj hij
      have hi' : i < p.size := by simpa using hi
      have hj' : j < p.size := by simpa using hj
      have := up i j (Nat.le_of_lt hij) (by rw [← pm.size]; exact hj')
      unfold kv at this
      rw [getD_at hi', getD_at hj'] at this
      simpa using this
    have ho := (N3 _ (.head _)).1
    obtain ⟨T', l'⟩ := T.frzL (s' := { s with heap := h3 }) kp3 kL3 (Nat.le_succ _) ho rfl T.bare
    refine q _ _ _ T' l' (Rd.mkLst (vput_at ..) ?_)
    rw [← eout]
    exact RdL.mono l' _ _ (hr.pick hmem)
end
/-! what is compared here -/
theorem CmpD.first {a b : Int} {r1 r2 : List D} (h : a ≠ b) : CmpD (.tup (.int a :: r1)) (.tup (.int b :: r2)) (decide (a < b)) := by
  intro prog w A s g v1 v2 Q E hv k1 k2 hq
  obtain ⟨x, vs, n, rfl, e1, h1⟩ := Rd.tup_iff.mp k1
  obtain ⟨y, ws, n', rfl, e2, h2⟩ := Rd.tup_iff.mp k2
  obtain ⟨u1, t1, rfl, i1, _⟩ := RdL.cons_iff.mp h1
  obtain ⟨u2, t2, rfl, i2, _⟩ := RdL.cons_iff.mp h2
  obtain ⟨t, rfl⟩ := Rd.int_iff.mp i1
  obtain ⟨t', rfl⟩ := Rd.int_iff.mp i2
  refine kat_lt (hv _ _ e1) rfl (hv _ _ e2) rfl ?_
  show KatLex _ _ _ _ _ _ ((Value.int a t, Value.int b t') :: _) 0 s
  refine kat_cons (wpAny_eqBool_int ?_)
  rw [show (a == b) = false by simpa using h]
  exact kat_no (oneLt_int hq)
def lt4 (a b : Int × Int × Int × Int) : Bool := if a.1 = b.1 then (if a.2.1 = b.2.1 then (if a.2.2.1 = b.2.2.1 then (if a.2.2.2 = b.2.2.2 then false else decide (a.2.2.2 < b.2.2.2)) else decide (a.2.2.1 < b.2.2.1)) else decide (a.2.1 < b.2.1)) else decide (a.1 < b.1)
abbrev tup4 (a : Int × Int × Int × Int) : D := .tup [.int a.1, .int a.2.1, .int a.2.2.1, .int a.2.2.2]
theorem kat_int {prog : Program} {w : World} {A : Around} {fin : Bool} {Q : Bool → Shared → Prop} {s : Shared} {a b : Int} {t u : Tok} {r : List (Value × Value)} {i : Nat} (h1 : a = b → KatLex prog w A true fin Q r (i + 1) s) (h2 : a ≠ b → Q (decide (a < b)) s) : KatLex prog w A true fin Q ((.int a t, .int b u) :: r) i s := by
  refine kat_cons (wpAny_eqBool_int ?_)
  by_cases c : a = b
  · rw [show (a == b) = true by simpa using c]
    exact kat_yes (h1 c)
  · rw [show (a == b) = false by simpa using c]
    refine kat_no ?_
    cases i with
    | zero => exact oneLt_int (h2 c)
    | succ i => exact kat_one _ _ (lt_int (h2 c))
theorem CmpD.four {a b : Int × Int × Int × Int} : CmpD (tup4 a) (tup4 b) (lt4 a b) := by
  obtain ⟨a1, a2, a3, a4⟩ := a
  obtain ⟨b1, b2, b3, b4⟩ := b
  intro prog w A s g v1 v2 Q E hv k1 k2 hq
  obtain ⟨x, vs, n, rfl, e1, h1⟩ := Rd.tup_iff.mp k1
  obtain ⟨y, ws, n', rfl, e2, h2⟩ := Rd.tup_iff.mp k2
  obtain ⟨u1, s1, rfl, i1, h1⟩ := RdL.cons_iff.mp h1
  obtain ⟨u2, s2, rfl, i2, h1⟩ := RdL.cons_iff.mp h1
  obtain ⟨u3, s3, rfl, i3, h1⟩ := RdL.cons_iff.mp h1
  obtain ⟨u4, s4, rfl, i4, h1⟩ := RdL.cons_iff.mp h1
  obtain rfl := RdL.nil_iff.mp h1
  obtain ⟨w1, s1, rfl, j1, h2⟩ := RdL.cons_iff.mp h2
  obtain ⟨w2, s2, rfl, j2, h2⟩ := RdL.cons_iff.mp h2
  obtain ⟨w3, s3, rfl, j3, h2⟩ := RdL.cons_iff.mp h2
  obtain ⟨w4, s4, rfl, j4, h2⟩ := RdL.cons_iff.mp h2
  obtain rfl := RdL.nil_iff.mp h2
  obtain ⟨_, rfl⟩ := Rd.int_iff.mp i1
  obtain ⟨_, rfl⟩ := Rd.int_iff.mp i2
  obtain ⟨_, rfl⟩ := Rd.int_iff.mp i3
  obtain ⟨_, rfl⟩ := Rd.int_iff.mp i4
  obtain ⟨_, rfl⟩ := Rd.int_iff.mp j1
  obtain ⟨_, rfl⟩ := Rd.int_iff.mp j2
  obtain ⟨_, rfl⟩ := Rd.int_iff.mp j3
  obtain ⟨_, rfl⟩ := Rd.int_iff.mp j4
  unfold lt4 at hq
  refine kat_lt (hv _ _ e1) rfl (hv _ _ e2) rfl ?_
  show KatLex _ _ _ _ _ _ [(Value.int a1 _, Value.int b1 _), (Value.int a2 _, Value.int b2 _), (Value.int a3 _, Value.int b3 _), (Value.int a4 _, Value.int b4 _)] 0 s
  dsimp only at hq
  refine kat_int (fun c => ?_) (fun c => by rw [if_neg c] at hq; exact hq)
  rw [if_pos c] at hq
  refine kat_int (fun c => ?_) (fun c => by rw [if_neg c] at hq; exact hq)
  rw [if_pos c] at hq
  refine kat_int (fun c => ?_) (fun c => by rw [if_neg c] at hq; exact hq)
  rw [if_pos c] at hq
  refine kat_int (fun c => ?_) (fun c => by rw [if_neg c] at hq; exact hq)
  rw [if_pos c] at hq
  exact kat_nil hq
end Mine
namespace Mine
/-! == of two lists of four numbers each -/
abbrev pd4 (a : Int × Int × Int × Int) : PyData := .tuple [.int a.1, .int a.2.1, .int a.2.2.1, .int a.2.2.2]
theorem reads4 {g : View} {h : Heap} (hv : VIn g h) {a : Int × Int × Int × Int} {v : Value} (r : Rd g (tup4 a) v) : Reads h v (pd4 a) [] := by
  obtain ⟨a1, a2, a3, a4⟩ := a
  obtain ⟨x, vs, n, rfl, e1, h1⟩ := Rd.tup_iff.mp r
  obtain ⟨u1, s1, rfl, i1, h1⟩ := RdL.cons_iff.mp h1
  obtain ⟨u2, s2, rfl, i2, h1⟩ := RdL.cons_iff.mp h1
  obtain ⟨u3, s3, rfl, i3, h1⟩ := RdL.cons_iff.mp h1
  obtain ⟨u4, s4, rfl, i4, h1⟩ := RdL.cons_iff.mp h1
  obtain rfl := RdL.nil_iff.mp h1
  obtain ⟨_, rfl⟩ := Rd.int_iff.mp i1
  obtain ⟨_, rfl⟩ := Rd.int_iff.mp i2
  obtain ⟨_, rfl⟩ := Rd.int_iff.mp i3
  obtain ⟨_, rfl⟩ := Rd.int_iff.mp i4
  exact .tuple (hv _ _ e1) rfl rfl (.cons (as := []) (bs := []) (.int _ _) (.cons (as := []) (bs := []) (.int _ _) (.cons (as := []) (bs := []) (.int _ _) (.cons (as := []) (bs := []) (.int _ _) .nil))))
theorem readsAll4 {g : View} {h : Heap} (hv : VIn g h) : ∀ {xs : List (Int × Int × Int × Int)} {us : List Value}, RdL g (xs.map tup4) us → ReadsAll h us (xs.map pd4) []
  | [], us, hr => by rw [RdL.nil_iff.mp hr]; exact .nil
  | a :: xs, us, hr => by
    obtain ⟨v, r, rfl, h1, h2⟩ := RdL.cons_iff.mp hr
    exact .cons (as := []) (bs := []) (reads4 hv h1) (readsAll4 hv h2)
theorem lay4 : ∀ (xs : List (Int × Int × Int × Int)), PyData.canLayAll0 (xs.map pd4) = true
  | [] => rfl
  | a :: xs => by
    show (PyData.canLay0 (pd4 a) && PyData.canLayAll0 (xs.map pd4)) = true
    rw [lay4 xs]; rfl
theorem depth4 (xs : List (Int × Int × Int × Int)) : (PyData.list (xs.map pd4)).depth ≤ 5 := by
  have h : ∀ xs : List (Int × Int × Int × Int), PyData.depthAll (xs.map pd4) ≤ 4 := fun xs => by
    induction xs with
    | nil => decide
    | cons a xs ih =>
      show max (pd4 a).depth (PyData.depthAll (xs.map pd4)) ≤ 4
      have : (pd4 a).depth ≤ 4 := by simp [pd4, PyData.depth, PyData.depthAll]
      omega
  have := h xs
  show PyData.depthAll (xs.map pd4) + 1 ≤ 5
  omega
section
variable {G : Gd} {n : Nat} {S : Scope} {ρ : Rho} {ow : Own}
theorem EX.eq4 {l r : Expr} {pos : Pos} {xs : List (Int × Int × Int × Int)} (hl : EX G n S ρ ow l (.lst (xs.map tup4))) (hr : EX G n S ρ ow r (.lst (xs.map tup4))) (hm : behindInMarks .Eq r = false := by rfl) : EX G n S ρ ow (.Compare l [.Eq] [r] pos) (.bool true) := by
  rintro K rfl R Y s g Q E T q
  refine wpAny_Compare1 (hl K rfl R Y _ _ _ _ T fun v s1 g1 T1 l1 r1 => hr K rfl R Y _ _ _ _ T1 fun u s2 g2 T2 l2 r2 => ?_) hm
  obtain ⟨a, vs, k, rfl, ea, ha⟩ := Rd.lst_iff.mp (Rd.mono l2 _ _ r1)
  obtain ⟨b, ws, k', rfl, eb, hb⟩ := Rd.lst_iff.mp r2
  have ra : Reads s2.heap (.ref a) (.list (xs.map pd4)) [a] := .list (T2.vin _ _ ea) rfl rfl (by simpa using readsAll4 T2.vin ha)
  have rb : Reads s2.heap (.ref b) (.list (xs.map pd4)) [b] := .list (T2.vin _ _ eb) rfl rfl (by simpa using readsAll4 T2.vin hb)
  refine SeqAt.compareEq_reads ra rb (lay4 xs) (lay4 xs) (by have := R.units; have := depth4 xs; omega) ?_
  rw [SeqAt.eqv_refl (.list (xs.map pd4)) (show PyData.canLay0 (.list (xs.map pd4)) = true from lay4 xs)]
  exact q _ _ _ T2 (l1.trans l2) (Rd.mkBool _)
end
end Mine
namespace Mine
theorem RdL.take {g : View} : ∀ {ds : List D} {vs : List Value} (k : Nat), RdL g ds vs → RdL g (ds.take k) (vs.take k)
  | _, _, 0, _ => by rw [List.take_zero, List.take_zero]; exact .nil
  | [], vs, k + 1, h => by rw [RdL.nil_iff.mp h]; exact .nil
  | d :: ds, vs, k + 1, h => by
    obtain ⟨v, r, rfl, h1, h2⟩ := RdL.cons_iff.mp h
    exact .cons h1 (RdL.take k h2)
section
variable {G : Gd} {n : Nat} {S : Scope} {ρ : Rho} {ow : Own}
/-- x[:j] of a list -/
theorem EX.sliceL {v e : Expr} {p pos : Pos} {ds : List D} {j : Int} (hv : EX G n S ρ ow v (.lst ds)) (he : EX G n S ρ ow e (.int j)) (hz : ds.length ≤ sizeLine)
    (ht : ∀ a r, letTemporaryGo v (.ref a) r = pure () := by intro _ _; rfl) : EX G n S ρ ow (.Subscript v (.Slice none (some e) none p) pos) (.lst (ds.take (clipAt ds.length j))) := by
  rintro K rfl R Y s g Q E T q
  refine Subscript_ (hv K rfl R Y _ _ _ _ T fun y s1 g1 T1 l1 r1 => PySem.wpAny_Slice (wpAny_evalPart_none (wpAny_evalPart_some (he K rfl R Y _ _ _ _ T1 fun u s2 g2 T2 l2 r2 => wpAny_evalPart_none ?_))))
  obtain ⟨l, vs, k, rfl, el, hr⟩ := Rd.lst_iff.mp r1
  obtain ⟨t', rfl⟩ := Rd.int_iff.mp r2
  have el2 := l2 _ _ el
  have hr2 := RdL.mono l2 _ _ hr
  obtain ⟨m, F, N, back⟩ := T2.toFr
  refine slice_list F N (isList_of (T2.vin _ _ el2)) .none (.int _ _) (fun h' F' N' => ?_) rfl (ht _) (by rw [List.size_toArray, hr.length]; exact hz)
  obtain ⟨kp, kL⟩ := back h' F' fun p hp => N' p (.tail _ hp)
  have ho := (N' _ (.head _)).1
  rw [slicePick_plain] at ho
  have e1 : (vs.toArray.toList.drop (Option.elim none 0 (clipAt vs.toArray.size))).take ((some j).elim vs.toArray.size (clipAt vs.toArray.size) - Option.elim none 0 (clipAt vs.toArray.size)) = vs.take (clipAt ds.length j) := by
    simp [hr.length]
  rw [e1] at ho
  obtain ⟨T', le⟩ := T2.frzL (s' := { s2 with heap := h' }) kp kL (Nat.le_succ _) (o := lstO (vs.take (clipAt ds.length j)) 0) ho rfl T2.bare
  exact q _ _ _ T' ((l1.trans l2).trans le) (Rd.mkLst (vput_at ..) (RdL.mono le _ _ (hr2.take _)))
/-- sum of numbers -/
def intAt (ns : List Int) (i : Nat) : Int := ns.getD i 0
theorem OP.sum {ns : List Int} : OP G n (.builtin "sum") [.lst (ns.map .int)] (.int (preSum (intAt ns) ns.length)) := by
  intro K R Y ρ ow s g vs Q E T r q
  obtain ⟨v, r1, rfl, k1, r⟩ := RdL.cons_iff.mp r
  obtain rfl := RdL.nil_iff.mp r
  obtain ⟨l, us, k, rfl, el, hr⟩ := Rd.lst_iff.mp k1
  have hL := isList_of (T.vin _ _ el)
  have hne : l ≠ s.heap.objs.size := Nat.ne_of_lt (Heap.lt_size (T.vin _ _ el))
  have hlen : us.toArray.size = ns.length := by rw [List.size_toArray, hr.length, List.length_map]
  refine call_sum_walkG (wpAny_pyIter_list hL ?_)
  refine ⟨_, [s.heap.objs.size, l], [s.heap.objs.size], _, _, _, intAt ns, rfl, Walks.list (A := K.A.in1) R.handled s.heap.objs.size l hne us.toArray, ⟨⟨_, Heap.get?_push_size _ rfl, rfl, rfl⟩, hL.at fun o e => Heap.get?_push_of_some _ e⟩, fun b hb => ?_, fun i v hv => ?_, fun h' tk t' hk => ?_⟩
  · rw [Heap.size_push]
    rcases List.mem_cons.mp hb with rfl | hb
    · exact Nat.lt_succ_self _
    · rcases List.mem_cons.mp hb with rfl | hb
      · exact Nat.lt_succ_of_lt (Heap.lt_size (T.vin _ _ el))
      · cases hb
  · have hi : i < ns.length := by
      have := (Array.getElem?_eq_some_iff.mp hv).1
      omega
    obtain ⟨v', e1, r1⟩ := hr.get (i := i) (d := .int (intAt ns i)) (by simp [intAt, List.getD_eq_getElem?_getD, hi])
    have : us[i]? = some v := by simpa using hv
    rw [this] at e1; cases e1
    exact Rd.int_iff.mp r1
  · rw [hlen]
    refine q _ _ _ (T.same (s' := { s with heap := h', toks := tk }) (fun b o e => hk b o (fun hm => ?_) (Heap.get?_push_of_some _ e)) rfl T.bare) (VLe.refl _) (Rd.mkInt _ _)
    have := Heap.lt_size e
    rw [List.mem_singleton.mp hm] at this
    exact Nat.lt_irrefl _ this
/-! a def whose names its comprehensions see -/
theorem cellsFrom_some {x : Str} : ∀ (names : List (Str × NameKind)) (k : Nat) (acc : List (Str × Addr)), ((x, NameKind.cell) ∈ names ∨ (acc.lookup x).isSome = true) → ((cellsFrom k names acc).lookup x).isSome = true
  | [], k, acc, h => by
    rcases h with h | h
    · cases h
    · exact h
  | (y, kd) :: r, k, acc, h => by
    unfold cellsFrom
    by_cases c : (kd == NameKind.cell) = true
    · rw [if_pos c]
      refine cellsFrom_some r _ _ ?_
      rcases h with h | h
      · cases h with
        | head => right; simp
        | tail _ h => exact .inl h
      · right
        simp only [List.lookup_cons]
        cases x == y with
        | true => rfl
        | false => exact h
    · rw [if_neg c]
      refine cellsFrom_some r _ _ ?_
      rcases h with h | h
      · cases h with
        | head => exact absurd rfl c
        | tail _ h => exact .inl h
      · exact .inr h
structure FnObjC (G : Gd) (fa : Addr) (nm : Str) (x : Str) (body : List Stmt) (S : Scope) : Prop where
  obj : ∀ P : Params, ∃ o pm cd doc params, (G.KF P).lookup fa = some o ∧ o.data = .func (docDef nm params body S pm cd doc) ∧ codeIn (G.KF P) cd nm = true ∧
    ∀ v : Value, bindArgs (docDef nm params body S pm cd doc) ⟨[v], []⟩ = pure [(x, v)]
  loc : S.names.lookup x = some .local
  co : S.isCoroutine = false
  gen : S.isGenerator = false
  kind : S.kind = .function
theorem Fn.ofC {fa : Addr} {nm x : Str} {body : List Stmt} {d r : D} (F : FnObjC G fa nm x body S)
    (h : SX G n S (upd (fun _ => none) x d) none body (fun fl _ _ => fl = .ret r ∨ (fl = .next ∧ r = .none))) : Fn G (n + 1) fa [d] r := by
  intro w A s g vs Q E R Y V B hr q
  obtain ⟨v, r1, rfl, k1, r2⟩ := RdL.cons_iff.mp hr
  obtain rfl := RdL.nil_iff.mp r2
  obtain ⟨⟨mg, mb, t⟩, X⟩ := id Y
  obtain ⟨o, pm, cd, doc, params, e1, e2, e3, e4⟩ := F.obj w.params
  have ho := X _ _ e1
  refine wpAny_call (call_cells_ret (by have := R.depth; omega) ho e2 t.nolimit (codeRec_of X e3) (e4 v) (fun y hy => .inl (by rw [List.mem_singleton.mp hy]; exact F.loc)) (fun h₁ tk Fr1 X1 => ?_) F.co F.gen F.kind)
  let K : Cx := { w := w, A := A.deeper (envOfC nm S s.heap.objs.size fa cd), S := S, L := s.heap.objs.size, cl := cellsFrom (s.heap.objs.size + 1) S.names [], f := some fa, cd := cd, qual := nm ++ ".<locals>.", fr := some s.heap.objs.size, lk := s.heap.get?, mu := fun _ => False, nb := s.heap.objs.size, g0 := g, os := s.os, gl := fun i => s.gens[i]? }
  have hL : ∀ c : Addr, s.heap.objs.size ≤ c → s.heap.get? c = none := fun c hc => by
    cases e : s.heap.get? c with
    | none => rfl
    | some o => exact absurd (Heap.lt_size e) (Nat.not_lt.mpr hc)
  have hab : ∀ y c, (cellsFrom (s.heap.objs.size + 1) S.names []).lookup y = some c → s.heap.objs.size < c := fun y c e => X1.above y c (mem_of_lookup e)
  have T : St K (upd (fun _ => none) x d) none { s with heap := h₁, toks := tk } g := by
    refine ⟨fun a o e => Fr1.keep _ _ (V a o e), fun _ _ => rfl, fun a o e => Fr1.keep _ _ e, rfl, ⟨B, fun _ _ e => e⟩, Nat.le_refl _, V.none (Nat.le_refl _), hL _ (Nat.le_refl _), (fun _ h => h.elim), ⟨_, Fr1.ns, fun y d' h1 h2 => ?_, trivial⟩, fun y e => cellsFrom_some _ _ _ (.inl (mem_of_lookup e)), fun y c e => ?_⟩
    · unfold upd at h2
      by_cases q : y = x
      · rw [if_pos q] at h2; cases h2
        refine ⟨v, ?_, k1⟩
        subst q
        show bindL (envOfC nm S s.heap.objs.size fa cd).kindOf [(y, v)] (fun _ => none) y = some v
        unfold bindL bindL
        rw [if_pos (show (envOfC nm S s.heap.objs.size fa cd).kindOf y = some .local from F.loc)]
        rw [if_pos rfl]
      · rw [if_neg q] at h2; cases h2
    · refine ⟨V.none (Nat.le_of_lt (hab y c e)), Nat.ne_of_gt (hab y c e), _, X1.cell y c e, fun d' q1 q2 => ?_⟩
      unfold upd at q2
      by_cases q : y = x
      · have q1' : S.names.lookup y = some .cell := q1
        rw [q, F.loc] at q1'; cases q1'
      · rw [if_neg q] at q2; cases q2
  refine wpAny_mono (h K rfl (R.deeper _) ⟨s.heap, Y, fun _ _ e => e⟩ ⟨fun y c e => ⟨hL _ (Nat.le_of_lt (hab y c e)), Nat.le_of_lt (hab y c e)⟩, X1.apart⟩ _ _ (fun f s' => Q (match f with | .ret v => v | _ => .none) s') (fun _ _ => False) T fun f fl ρ' ow' s' g' p T' l' r' => ?_) (fun f s' hq => hq) (fun _ _ hf => hf.elim)
  have fin : ∀ v, Rd g' r v → Q v s' := fun v rv => q v s' g' (fun b o e => T'.keep b o e) T'.vin l' (fun a ha => T'.old a ha) T'.os T'.bare rv
  rcases p with rfl | ⟨rfl, rfl⟩
  · obtain ⟨v, rfl, rv⟩ := r'
    exact fin v rv
  · have e : f = .next := r'
    subst e
    exact fin _ Rd.mkNone
end
end Mine
namespace Mine
set_option maxRecDepth 100000
set_option maxHeartbeats 8000000
open_top hd for PySem.Challenge.rw_re0056_01
end Mine
namespace Mine
noncomputable abbrev G0 : Gd := { prog := PySem.Challenge.pw_re0056_01, KF := hd.heap_39, p := hd.view_39, loose := [Str.ofString "ONE_THIRD", Str.ofString "ONE_SIXTH", Str.ofString "TWO_THIRD"] }
noncomputable def bodyAt (k : Nat) : List Stmt := match PySem.Challenge.pw_re0056_01.main.body[k]? with | some (.FunctionDef _ _ b _ _ _ _ _ _ _) => b | _ => []
noncomputable def scopeAt (k : Nat) : Scope := match PySem.Challenge.pw_re0056_01.main.body[k]? with | some (.FunctionDef _ _ _ _ _ _ s _ _ _) => s | _ => default
theorem due_obj : FnObj G0 75 (Str.ofString "_law_due") [Str.ofString "gap", Str.ofString "last", Str.ofString "word"] (bodyAt 19) (scopeAt 19) where
  obj := fun P => ⟨_, _, _, _, _, rfl, rfl, rfl, fun vs h => by
    match vs, h with
    | [a, b, c], _ => rfl⟩
  loc := by decide +kernel
  co := rfl
  gen := rfl
  kind := rfl
  cell := by decide +kernel
section
variable {G : Gd} {n : Nat} {S : Scope} {ρ : Rho} {ow : Own}
theorem EX.negI {e : Expr} {pos : Pos} {a : Int} (h : EX G n S ρ ow e (.int a)) : EX G n S ρ ow (.UnaryOp .USub e pos) (.int (-a)) := by
  rintro K rfl R Y s g Q E T q
  refine wpAny_UnaryOp (h K rfl R Y _ _ _ _ T fun v s1 g1 T1 l1 r1 => ?_)
  obtain ⟨_, rfl⟩ := Rd.int_iff.mp r1
  exact neg_int (q _ _ _ (T1.toks _) l1 (Rd.mkInt _ _))
end
def sS : Str := Str.ofString "s"
def dueF (gap : Int) (last word : Str) : Int :=
  if Txt.item word (-1) == sS then 2 * gap else if Txt.item last (-1) == sS then 2 * gap + 2 else if Txt.item last (-1) == Txt.item word (-1) then 2 * gap else 2 * gap + 1
set_option maxRecDepth 10000 in
theorem due_fn {n : Nat} {gap : Int} {last word : Str} (h1 : 0 < last.length) (h2 : 0 < word.length) (hg : IntMulOk 2 gap) : Fn G0 (n + 1) 75 [.int gap, .str last, .str word] (.int (dueF gap last word)) := by
  refine Fn.of due_obj rfl ?_
  unfold dueF
  refine SX.cons (S1.ite (TX.eqS (EX.itemS (EX.loc rfl rfl rfl rfl) (EX.negI EX.int) rfl (by omega) (by omega)) EX.str) (fun c => ?_) (fun c => SX.nil ?_))
  · exact SX.cons (S1.ret (EX.mulI EX.int (EX.loc rfl rfl rfl rfl) hg) (Or.inl (by rw [if_pos (show (_ == sS) = true from c)])))
  have c' : ¬ (Txt.item word (-1) == sS) = true := by rw [show (Txt.item word (-1) == sS) = false from c]; exact Bool.false_ne_true
  rw [if_neg c']
  refine SX.cons (S1.ite (TX.eqS (EX.itemS (EX.loc rfl rfl rfl rfl) (EX.negI EX.int) rfl (by omega) (by omega)) EX.str) (fun c => ?_) (fun c => SX.nil ?_))
  · exact SX.cons (S1.ret (EX.addI (EX.mulI EX.int (EX.loc rfl rfl rfl rfl) hg) EX.int) (Or.inl (by rw [if_pos (show (_ == sS) = true from c)])))
  have c' : ¬ (Txt.item last (-1) == sS) = true := by rw [show (Txt.item last (-1) == sS) = false from c]; exact Bool.false_ne_true
  rw [if_neg c']
  refine SX.cons (S1.ite (TX.eqS (EX.itemS (EX.loc rfl rfl rfl rfl) (EX.negI EX.int) rfl (by omega) (by omega)) (EX.itemS (EX.loc rfl rfl rfl rfl) (EX.negI EX.int) rfl (by omega) (by omega))) (fun c => ?_) (fun c => SX.nil ?_))
  · exact SX.cons (S1.ret (EX.mulI EX.int (EX.loc rfl rfl rfl rfl) hg) (Or.inl (by rw [if_pos c])))
  rw [if_neg (by rw [c]; exact Bool.false_ne_true)]
  exact SX.cons (S1.ret (EX.addI (EX.mulI EX.int (EX.loc rfl rfl rfl rfl) hg) EX.int) (Or.inl rfl))
end Mine
namespace Mine
theorem glob_int {x : Str} {k : Int} {t : Tok} (h : ∀ P : Params, nsIn (G0.KF P) mainGlobals x = some (some (.int k t))) : ∀ P : Params, ∃ v, nsIn (G0.KF P) mainGlobals x = some (some v) ∧ Rd (fun _ => none) (.int k) v := fun P => ⟨_, h P, Rd.mkInt _ _⟩
theorem g_move : ∀ P : Params, ∃ v, nsIn (G0.KF P) mainGlobals (Str.ofString "_MOVE_COST") = some (some v) ∧ Rd (fun _ => none) (.int 2) v := glob_int (t := 257) fun P => rfl
theorem g_case : ∀ P : Params, ∃ v, nsIn (G0.KF P) mainGlobals (Str.ofString "_CASE_COST") = some (some v) ∧ Rd (fun _ => none) (.int 1) v := glob_int (t := 259) fun P => rfl
theorem g_max : ∀ P : Params, ∃ v, nsIn (G0.KF P) mainGlobals (Str.ofString "_MAX_STRING_SIZE") = some (some v) ∧ Rd (fun _ => none) (.int 40) v := glob_int (t := 255) fun P => rfl
theorem sub_obj : FnObj G0 49 (Str.ofString "_substitution_cost") [Str.ofString "ch_a", Str.ofString "ch_b"] (bodyAt 14) (scopeAt 14) where
  obj := fun P => ⟨_, _, _, _, _, rfl, rfl, rfl, fun vs h => by
    match vs, h with
    | [a, b], _ => rfl⟩
  loc := by decide +kernel
  co := rfl
  gen := rfl
  kind := rfl
  cell := by decide +kernel
def substF (a b : Str) : Int := if a == b then 0 else if Txt.lower a == Txt.lower b then 1 else 2
set_option maxRecDepth 10000 in
theorem sub_fn {n : Nat} {a b : Str} (h1 : a.length ≤ 5592405) (h2 : b.length ≤ 5592405) : Fn G0 (n + 1) 49 [.str a, .str b] (.int (substF a b)) := by
  refine Fn.of sub_obj rfl ?_
  unfold substF
  refine SX.cons (S1.ite (TX.eqS (EX.loc rfl rfl rfl rfl) (EX.loc rfl rfl rfl rfl)) (fun c => ?_) (fun c => SX.nil ?_))
  · exact SX.cons (S1.ret EX.int (Or.inl (by rw [if_pos c])))
  rw [if_neg (by rw [c]; exact Bool.false_ne_true)]
  refine SX.cons (S1.ite (TX.eqS (EX.lower (EX.loc rfl rfl rfl rfl) h1) (EX.lower (EX.loc rfl rfl rfl rfl) h2)) (fun c => ?_) (fun c => SX.nil ?_))
  · exact SX.cons (S1.ret (EX.glob g_case rfl rfl rfl) (Or.inl (by rw [if_pos c])))
  rw [if_neg (by rw [c]; exact Bool.false_ne_true)]
  exact SX.cons (S1.ret (EX.glob g_move rfl rfl rfl) (Or.inl rfl))
theorem lev_obj : FnObj G0 56 (Str.ofString "_levenshtein_distance") [Str.ofString "a", Str.ofString "b", Str.ofString "max_cost"] (bodyAt 15) (scopeAt 15) where
  obj := fun P => ⟨_, _, _, _, _, rfl, rfl, rfl, fun vs h => by
    match vs, h with
    | [a, b, c], _ => rfl⟩
  loc := by decide +kernel
  co := rfl
  gen := rfl
  kind := rfl
  cell := by decide +kernel
end Mine
namespace Mine
def tail0 (x : Str) (p : Int) : Str := if p = 0 then Txt.slice x none none else Txt.slice x none (some p)
section
variable {G : Gd} {n : Nat} {S : Scope} {ρ : Rho} {ow : Own}
theorem CX.and1 {e : Expr} {b : Bool} (h : TX G n S ρ ow e b) : CX G n S ρ ow .And [e] b := by
  have := CX.and h (fun _ => CX.andNil)
  rwa [Bool.and_true] at this
theorem CX.or1 {e : Expr} {b : Bool} (h : TX G n S ρ ow e b) : CX G n S ρ ow .Or [e] b := by
  have := CX.or h (fun _ => CX.orNil)
  rwa [Bool.or_false] at this
theorem fits_small {k : Int} (h : -100000 ≤ k) (h2 : k ≤ 100000) : fitsSsize k = true := by
  exact fitsSsize_of (N := 200000) (by omega) (by omega) (by omega)
theorem EX.sliceOr {v x e : Expr} {p bp pos : Pos} {a : Str} {k : Int} (hv : EX G n S ρ ow v (.str a)) (hx : EX G n S ρ ow x (.int k)) (he : EX G n S ρ ow e .none) (hz : a.length ≤ sizeLine) :
    EX G n S ρ ow (.Subscript v (.Slice none (some (.BoolOp .Or [x, e] bp)) none p) pos) (.str (tail0 a k)) := by
  have h := EX.orNone (pos := bp) hx he
  unfold tail0
  by_cases hk : k = 0
  · rw [if_pos hk] at h ⊢
    exact EX.sliceNone hv h hz
  · rw [if_neg hk] at h ⊢
    exact EX.sliceTo hv h hz
end
theorem len_tail0 (x : Str) (p : Int) : (tail0 x p).length ≤ x.length := by
  unfold tail0
  split <;> exact Txt.slice_le _ _ _
def preF : Nat → Str → Str → Int → Option Int
  | 0, _, _, _ => none
  | k + 1, a, b, j =>
    if (((Txt.slice a (some j) none).length : Int) != 0 && (((Txt.slice b (some j) none).length : Int) != 0)) = true then
      (if 0 ≤ j ∧ j < a.length ∧ j < b.length then (if (Txt.item a j == Txt.item b j) = true then preF k a b (j + 1) else some j) else none)
    else some j
def postF : Nat → Str → Str → Int → Option Int
  | 0, _, _, _ => none
  | k + 1, a, b, p =>
    if (((tail0 a p).length : Int) != 0 && (((tail0 b p).length : Int) != 0)) = true then
      (if p ≤ 0 ∧ -(a.length : Int) ≤ p - 1 ∧ -(b.length : Int) ≤ p - 1 then (if (Txt.item a (p - 1) == Txt.item b (p - 1)) = true then postF k a b (p - 1) else some p) else none)
    else some p
def outF (ach b : Str) (mc : Int) : Nat → Nat → Int → Int → Option Int
  | 0, _, _, res => some res
  | k + 1, bi, r0, _ =>
    let result := minI (minI ((bi : Int) * 2) r0 + 2) ((bi : Int) * 2 + substF (Txt.item b bi) ach)
    let mn := if result < 9223372036854775807 then result else 9223372036854775807
    if mc < mn then some (mc + 1) else outF ach b mc k (bi + 1) result result
def levT (a b : Str) (mc : Int) : Option Int :=
  if a.length = 0 ∨ b.length = 0 then some (2 * (a.length + b.length))
  else if a.length ≠ 1 ∨ 40 < b.length then none
  else if mc < ((b.length : Int) - a.length) * 2 then some (mc + 1)
  else outF (Txt.item a 0) b mc b.length 0 2 0
def levF (a b : Str) (mc : Int) : Option Int :=
  if (a == b) = true then some 0 else
  if 1000 < a.length ∨ 1000 < b.length then none else
  match preF 100 a b 0 with
  | none => none
  | some j => match postF 100 (Txt.slice a (some j) none) (Txt.slice b (some j) none) 0 with
    | none => none
    | some p => levT (tail0 (Txt.slice a (some j) none) p) (tail0 (Txt.slice b (some j) none) p) mc
abbrev sA : Str := Str.ofString "a"
abbrev sB : Str := Str.ofString "b"
abbrev sM : Str := Str.ofString "max_cost"
abbrev levP (r : Int) : Pst := fun fl _ _ => fl = .ret (.int r) ∨ (fl = .next ∧ D.int r = .none)
theorem nx_len {k : Nat} (h : (scopeAt k).names.lookup (Str.ofString "len") = some .globalImplicit) (hk : (scopeAt k).kind = .function) : NX G0 (scopeAt k) (Str.ofString "len") (.builtin "len") :=
  NX.blt (fun P => rfl) (by decide +kernel) (by decide +kernel) h hk rfl
theorem nx_min {k : Nat} (h : (scopeAt k).names.lookup (Str.ofString "min") = some .globalImplicit) (hk : (scopeAt k).kind = .function) : NX G0 (scopeAt k) (Str.ofString "min") (.builtin "min") :=
  NX.blt (fun P => rfl) (by decide +kernel) (by decide +kernel) h hk rfl
theorem nx_range {k : Nat} (h : (scopeAt k).names.lookup (Str.ofString "range") = some .globalImplicit) (hk : (scopeAt k).kind = .function) : NX G0 (scopeAt k) (Str.ofString "range") (.type "range") :=
  NX.blt (fun P => rfl) (by decide +kernel) (by decide +kernel) h hk rfl
theorem nx_list {k : Nat} (h : (scopeAt k).names.lookup (Str.ofString "list") = some .globalImplicit) (hk : (scopeAt k).kind = .function) : NX G0 (scopeAt k) (Str.ofString "list") (.type "list") :=
  NX.blt (fun P => rfl) (by decide +kernel) (by decide +kernel) h hk rfl
set_option maxRecDepth 10000 in
theorem lev_7 {n : Nat} {a b : Str} {mc r p : Int} {ρ : Rho} (ha : ρ sA = some (.str a)) (hb : ρ sB = some (.str b)) (hm : ρ sM = some (.int mc)) (hp : ρ (Str.ofString "post") = some (.int p)) (la : a.length ≤ 1000) (lb : b.length ≤ 1000)
    (h9 : ∀ ρ : Rho, ρ sA = some (.str (tail0 a p)) → ρ sB = some (.str (tail0 b p)) → ρ sM = some (.int mc) → SX G0 n (scopeAt 15) ρ none ((bodyAt 15).drop 9) (levP r)) : SX G0 n (scopeAt 15) ρ none ((bodyAt 15).drop 7) (levP r) := by
  have hz : (1000 : Nat) ≤ sizeLine := by decide
  refine SX.cons (S1.assign (Stor.loc rfl rfl) (EX.sliceOr (EX.loc ha rfl rfl rfl) (EX.loc hp rfl rfl rfl) EX.noneC (by omega)) ?_ trivial)
  refine SX.cons (S1.assign (Stor.loc rfl rfl) (EX.sliceOr (EX.loc hb rfl rfl rfl) (EX.loc hp rfl rfl rfl) EX.noneC (by omega)) ?_ trivial)
  exact h9 _ rfl rfl hm
set_option maxRecDepth 10000 in
theorem lev_5 {n : Nat} {a b : Str} {mc r p : Int} {ρ : Rho} (ha : ρ sA = some (.str a)) (hb : ρ sB = some (.str b)) (hm : ρ sM = some (.int mc)) (la : a.length ≤ 1000) (lb : b.length ≤ 1000) (hp : postF 100 a b 0 = some p)
    (h9 : ∀ ρ : Rho, ρ sA = some (.str (tail0 a p)) → ρ sB = some (.str (tail0 b p)) → ρ sM = some (.int mc) → SX G0 n (scopeAt 15) ρ none ((bodyAt 15).drop 9) (levP r)) : SX G0 n (scopeAt 15) ρ none ((bodyAt 15).drop 5) (levP r) := by
  have hz : (1000 : Nat) ≤ sizeLine := by decide
  refine SX.cons (S1.assign (Stor.loc rfl rfl) EX.int ?_ trivial)
  refine SX.cons (S1.while_ (fun k ρ1 ow1 => ow1 = none ∧ ρ1 sA = some (.str a) ∧ ρ1 sB = some (.str b) ∧ ρ1 sM = some (.int mc) ∧ ∃ q, ρ1 (Str.ofString "post") = some (.int q) ∧ postF k a b q = some p) 100 ⟨rfl, ha, hb, hm, 0, rfl, hp⟩ ?_)
  rintro k ρ1 ow1 ⟨rfl, ea, eb, em, q, eq, hq⟩
  cases k with
  | zero => cases hq
  | succ k =>
    unfold postF at hq
    have lt1 := len_tail0 a q
    have lt2 := len_tail0 b q
    refine ⟨_, TX.bool (CX.and (TX.str (EX.sliceOr (EX.loc ea rfl rfl rfl) (EX.loc eq rfl rfl rfl) EX.noneC (by omega)) (by omega)) (fun c1 => CX.and (TX.str (EX.sliceOr (EX.loc eb rfl rfl rfl) (EX.loc eq rfl rfl rfl) EX.noneC (by omega)) (by omega)) (c := Txt.item a (q - 1) == Txt.item b (q - 1)) (fun c2 => ?_))), ?_, ?_⟩
    · rw [c1, c2] at hq
      simp only [Bool.and_self, if_true] at hq
      by_cases hc : q ≤ 0 ∧ -(a.length : Int) ≤ q - 1 ∧ -(b.length : Int) ≤ q - 1
      · exact CX.and1 (TX.eqS (EX.itemS (EX.loc ea rfl rfl rfl) (EX.subI (EX.loc eq rfl rfl rfl) EX.int) (fits_small (by omega) (by omega)) (by omega) (by omega)) (EX.itemS (EX.loc eb rfl rfl rfl) (EX.subI (EX.loc eq rfl rfl rfl) EX.int) (fits_small (by omega) (by omega)) (by omega) (by omega)))
      · rw [if_neg hc] at hq; cases hq
    · intro c
      simp only [Bool.and_eq_true] at c
      obtain ⟨c1, c2, c3⟩ := c
      rw [c1, c2] at hq
      simp only [Bool.and_self, if_true] at hq
      by_cases hc : q ≤ 0 ∧ -(a.length : Int) ≤ q - 1 ∧ -(b.length : Int) ≤ q - 1
      · rw [if_pos hc, if_pos c3] at hq
        exact SX.cons (S1.augS eq rfl rfl EX.int (SX.nil ⟨k, Nat.lt_succ_self _, rfl, ea, eb, em, q - 1, rfl, hq⟩) trivial)
      · rw [if_neg hc] at hq; cases hq
    · intro c
      have : q = p := by
        by_cases h1 : (((tail0 a q).length : Int) != 0 && (((tail0 b q).length : Int) != 0)) = true
        · rw [if_pos h1] at hq
          by_cases hc : q ≤ 0 ∧ -(a.length : Int) ≤ q - 1 ∧ -(b.length : Int) ≤ q - 1
          · rw [if_pos hc] at hq
            have h3 : (Txt.item a (q - 1) == Txt.item b (q - 1)) = false := by
              rw [← Bool.and_assoc, h1, Bool.true_and] at c; exact c
            rw [h3, if_neg Bool.false_ne_true] at hq
            exact Option.some.inj hq
          · rw [if_neg hc] at hq; cases hq
        · rw [if_neg h1] at hq; exact Option.some.inj hq
      subst this
      exact lev_7 ea eb em eq la lb h9
set_option maxRecDepth 10000 in
theorem lev_3 {n : Nat} {a b : Str} {mc r j : Int} {ρ : Rho} (ha : ρ sA = some (.str a)) (hb : ρ sB = some (.str b)) (hm : ρ sM = some (.int mc)) (hj : ρ (Str.ofString "pre") = some (.int j)) (la : a.length ≤ 1000) (lb : b.length ≤ 1000)
    (h5 : ∀ ρ : Rho, ρ sA = some (.str (Txt.slice a (some j) none)) → ρ sB = some (.str (Txt.slice b (some j) none)) → ρ sM = some (.int mc) → SX G0 n (scopeAt 15) ρ none ((bodyAt 15).drop 5) (levP r)) : SX G0 n (scopeAt 15) ρ none ((bodyAt 15).drop 3) (levP r) := by
  have hz : (1000 : Nat) ≤ sizeLine := by decide
  refine SX.cons (S1.assign (Stor.loc rfl rfl) (EX.sliceFrom (EX.loc ha rfl rfl rfl) (EX.loc hj rfl rfl rfl) (by omega)) ?_ trivial)
  refine SX.cons (S1.assign (Stor.loc rfl rfl) (EX.sliceFrom (EX.loc hb rfl rfl rfl) (EX.loc hj rfl rfl rfl) (by omega)) ?_ trivial)
  exact h5 _ rfl rfl hm
set_option maxRecDepth 10000 in
theorem lev_1 {n : Nat} {a b : Str} {mc r j : Int} {ρ : Rho} (ha : ρ sA = some (.str a)) (hb : ρ sB = some (.str b)) (hm : ρ sM = some (.int mc)) (la : a.length ≤ 1000) (lb : b.length ≤ 1000) (hj : preF 100 a b 0 = some j)
    (h5 : ∀ ρ : Rho, ρ sA = some (.str (Txt.slice a (some j) none)) → ρ sB = some (.str (Txt.slice b (some j) none)) → ρ sM = some (.int mc) → SX G0 n (scopeAt 15) ρ none ((bodyAt 15).drop 5) (levP r)) : SX G0 n (scopeAt 15) ρ none ((bodyAt 15).drop 1) (levP r) := by
  have hz : (1000 : Nat) ≤ sizeLine := by decide
  refine SX.cons (S1.assign (Stor.loc rfl rfl) EX.int ?_ trivial)
  refine SX.cons (S1.while_ (fun k ρ1 ow1 => ow1 = none ∧ ρ1 sA = some (.str a) ∧ ρ1 sB = some (.str b) ∧ ρ1 sM = some (.int mc) ∧ ∃ q, ρ1 (Str.ofString "pre") = some (.int q) ∧ preF k a b q = some j) 100 ⟨rfl, ha, hb, hm, 0, rfl, hj⟩ ?_)
  rintro k ρ1 ow1 ⟨rfl, ea, eb, em, q, eq, hq⟩
  cases k with
  | zero => cases hq
  | succ k =>
    unfold preF at hq
    have lt1 := Txt.slice_le a (some q) none
    have lt2 := Txt.slice_le b (some q) none
    refine ⟨_, TX.bool (CX.and (TX.str (EX.sliceFrom (EX.loc ea rfl rfl rfl) (EX.loc eq rfl rfl rfl) (by omega)) (by omega)) (fun c1 => CX.and (TX.str (EX.sliceFrom (EX.loc eb rfl rfl rfl) (EX.loc eq rfl rfl rfl) (by omega)) (by omega)) (c := Txt.item a q == Txt.item b q) (fun c2 => ?_))), ?_, ?_⟩
    · rw [c1, c2] at hq
      simp only [Bool.and_self, if_true] at hq
      by_cases hc : 0 ≤ q ∧ q < a.length ∧ q < b.length
      · exact CX.and1 (TX.eqS (EX.itemS (EX.loc ea rfl rfl rfl) (EX.loc eq rfl rfl rfl) (fits_small (by omega) (by omega)) (by omega) (by omega)) (EX.itemS (EX.loc eb rfl rfl rfl) (EX.loc eq rfl rfl rfl) (fits_small (by omega) (by omega)) (by omega) (by omega)))
      · rw [if_neg hc] at hq; cases hq
    · intro c
      simp only [Bool.and_eq_true] at c
      obtain ⟨c1, c2, c3⟩ := c
      rw [c1, c2] at hq
      simp only [Bool.and_self, if_true] at hq
      by_cases hc : 0 ≤ q ∧ q < a.length ∧ q < b.length
      · rw [if_pos hc, if_pos c3] at hq
        exact SX.cons (S1.augI eq rfl rfl EX.int (SX.nil ⟨k, Nat.lt_succ_self _, rfl, ea, eb, em, q + 1, rfl, hq⟩) trivial)
      · rw [if_neg hc] at hq; cases hq
    · intro c
      have : q = j := by
        by_cases h1 : (((Txt.slice a (some q) none).length : Int) != 0 && (((Txt.slice b (some q) none).length : Int) != 0)) = true
        · rw [if_pos h1] at hq
          by_cases hc : 0 ≤ q ∧ q < a.length ∧ q < b.length
          · rw [if_pos hc] at hq
            have h3 : (Txt.item a q == Txt.item b q) = false := by
              rw [← Bool.and_assoc, h1, Bool.true_and] at c; exact c
            rw [h3, if_neg Bool.false_ne_true] at hq
            exact Option.some.inj hq
          · rw [if_neg hc] at hq; cases hq
        · rw [if_neg h1] at hq; exact Option.some.inj hq
      subst this
      exact lev_3 ea eb em eq la lb h5
theorem rs_one (N : Nat) : Builtin.Range.rangeSize 0 (N : Int) 1 = (N : Int) := by
  rw [rangeSize_one]; split <;> omega
theorem rangeL_split {a c : Int} {N : Nat} {pre post : List D} {d : D} (h : rangeL a c N = pre ++ d :: post) : d = .int (a + (pre.length : Int) * c) ∧ pre.length < N ∧ post.length = N - pre.length - 1 := by
  have h1 : (rangeL a c N)[pre.length]? = some d := by rw [h]; simp
  have h2 : (rangeL a c N).length = N := by simp [rangeL]
  have h3 : (pre ++ d :: post).length = N := by rw [← h, h2]
  simp only [List.length_append, List.length_cons] at h3
  unfold rangeL at h1
  rw [List.getElem?_map, List.getElem?_range (by omega)] at h1
  exact ⟨(Option.some.inj h1).symm, by omega, by omega⟩
noncomputable def nth (l : List Stmt) (k : Nat) : Stmt := l.getD k (.Pass default)
noncomputable def forBody (s : Stmt) : List Stmt := match s with | .For _ _ b _ _ => b | _ => []
abbrev sRow : Str := Str.ofString "row"
abbrev sRes : Str := Str.ofString "result"
abbrev sDist : Str := Str.ofString "distance"
abbrev sMin : Str := Str.ofString "minimum"
abbrev sBch : Str := Str.ofString "bchar"
set_option maxRecDepth 10000 in
/-- the one turn of the inner loop -/
theorem lev_in {n : Nat} {a b : Str} {mc r0 bi : Int} {bc : Str} {ad : Addr} {P : Pst} {ρ : Rho} (h1 : a.length = 1) (hbc : bc.length ≤ 1) (ha : ρ sA = some (.str a)) (hb : ρ sB = some (.str b)) (hm : ρ sM = some (.int mc)) (hc : ρ sBch = some (.str bc)) (hd : ρ sDist = some (.int bi)) (hr : ρ sRes = some (.int bi)) (hmn : ρ sMin = some (.int 9223372036854775807))
    (h : ∀ ρ : Rho, ρ sA = some (.str a) → ρ sB = some (.str b) → ρ sM = some (.int mc) → ρ sRes = some (.int (minI (minI bi r0 + 2) (bi + substF bc (Txt.item a 0)))) →
      ρ sMin = some (.int (if minI (minI bi r0 + 2) (bi + substF bc (Txt.item a 0)) < 9223372036854775807 then minI (minI bi r0 + 2) (bi + substF bc (Txt.item a 0)) else 9223372036854775807)) →
      P .next ρ (some (sRow, ad, [.int (minI (minI bi r0 + 2) (bi + substF bc (Txt.item a 0)))]))) :
    S1 G0 (n + 1) (scopeAt 15) ρ (some (sRow, ad, [.int r0])) (nth (forBody (nth (bodyAt 15) 15)) 3) P := by
  have nl : NX G0 (scopeAt 15) (Str.ofString "len") (.builtin "len") := nx_len rfl rfl
  have nm : NX G0 (scopeAt 15) (Str.ofString "min") (.builtin "min") := nx_min rfl rfl
  have hlen : ∀ {pos np p2 : Pos}, EX G0 (n + 1) (scopeAt 15) ρ (some (sRow, ad, [.int r0])) (.Call (.Name (Str.ofString "len") np) [.Name sA p2] [] pos) (.int ((1 : Nat) : Int)) := fun {pos np p2} => by
    have := EX.callB (pos := pos) (np := np) (n := n + 1) (ρ := ρ) (ow := some (sRow, ad, [.int r0])) nl (AX.cons (EX.loc (pos := p2) ha rfl rfl rfl) AX.nil) (OP.lenS (x := a) (by omega))
    rwa [h1] at this
  refine S1.forRange (RX.one (nx_range rfl rfl) hlen) (small_one (by omega) (by omega) (by omega) (by omega)) (rs_one 1) (fun pre ρ1 ow1 => (pre = [] ∧ ρ1 = ρ ∧ ow1 = some (sRow, ad, [.int r0])) ∨ (pre.length = 1 ∧ P .next ρ1 ow1)) (.inl ⟨rfl, rfl, rfl⟩) ?_ ?_
  · intro pre d post ρ1 ow1 hsp hJ
    obtain ⟨rfl, hlt, _⟩ := rangeL_split hsp
    rcases hJ with ⟨rfl, rfl, rfl⟩ | ⟨h2, _⟩
    · refine ⟨_, AT.name (Stor.loc rfl rfl) (free_of rfl), ?_⟩
      have hi0 : ((0 : Int) + (([] : List D).length : Int) * 1) = 0 := by simp
      rw [hi0]
      have s1 := sub_fn (n := n) (a := bc) (b := Txt.item a 0) (by omega) (by show 1 ≤ _; omega)
      refine SX.cons (S1.assign (Stor.loc rfl rfl) (EX.addI (EX.loc hd rfl rfl rfl) (EX.callF (NX.glob (fun P => rfl) rfl rfl rfl) (fun P => rfl) (AX.cons (EX.loc hc rfl rfl rfl) (AX.cons (EX.itemS (EX.loc ha rfl rfl rfl) (EX.loc rfl rfl rfl rfl) rfl (by omega) (by omega)) AX.nil)) s1)) ?_ (free_of rfl))
      refine SX.cons (S1.assign (Stor.loc rfl rfl) (EX.itemOwn rfl rfl rfl (EX.loc rfl rfl rfl rfl) (by omega) (by omega) rfl) ?_ (free_of rfl))
      refine SX.cons (S1.assign (Stor.loc rfl rfl) (EX.addI (EX.callB nm (AX.cons (EX.loc hr rfl rfl rfl) (AX.cons (EX.loc rfl rfl rfl rfl) AX.nil)) OP.min2) (EX.glob g_move rfl rfl rfl)) ?_ (free_of rfl))
      refine SX.cons (S1.assign (Stor.loc rfl rfl) (EX.callB nm (AX.cons (EX.loc rfl rfl rfl rfl) (AX.cons (EX.loc rfl rfl rfl rfl) AX.nil)) OP.min2) ?_ (free_of rfl))
      refine SX.cons (S1.setOwn rfl rfl rfl (EX.loc rfl rfl rfl rfl) (EX.loc rfl rfl rfl rfl) (by omega) (by omega) (by simp) ?_)
      refine SX.cons (S1.ite (TX.ltI (EX.loc rfl rfl rfl rfl) (EX.loc hmn rfl rfl rfl)) (fun c => ?_) (fun c => SX.nil (SX.nil ?_)))
      · refine SX.cons (S1.assign (Stor.loc rfl rfl) (EX.loc rfl rfl rfl rfl) (SX.nil (SX.nil (.inr ⟨rfl, ?_⟩))) (free_of rfl))
        exact h _ ha hb hm rfl (by show some _ = some _; rw [if_pos (of_decide_eq_true c)])
      · refine .inr ⟨rfl, ?_⟩
        refine h _ ha hb hm rfl ?_
        show ρ1 sMin = _
        rw [if_neg (of_decide_eq_false c)]; exact hmn
    · omega
  · intro ρ1 ow1 hJ
    rcases hJ with ⟨h2, _⟩ | ⟨_, h2⟩
    · simp [rangeL] at h2
    · exact h2
set_option maxRecDepth 10000 in
theorem lev_13 {n : Nat} {a b : Str} {mc r : Int} {ρ : Rho} (ha : ρ sA = some (.str a)) (hb : ρ sB = some (.str b)) (hm : ρ sM = some (.int mc)) (h1 : a.length = 1) (lb : b.length ≤ 1000) (h : outF (Txt.item a 0) b mc b.length 0 2 0 = some r) : SX G0 (n + 1) (scopeAt 15) ρ none ((bodyAt 15).drop 13) (levP r) := by
  have nl : NX G0 (scopeAt 15) (Str.ofString "len") (.builtin "len") := nx_len rfl rfl
  have hlen : ∀ {pos np p2 : Pos}, EX G0 (n + 1) (scopeAt 15) ρ none (.Call (.Name (Str.ofString "len") np) [.Name sA p2] [] pos) (.int ((1 : Nat) : Int)) := fun {pos np p2} => by
    have := EX.callB (pos := pos) (np := np) (n := n + 1) (ρ := ρ) (ow := none) nl (AX.cons (EX.loc (pos := p2) ha rfl rfl rfl) AX.nil) (OP.lenS (x := a) (by omega))
    rwa [h1] at this
  refine SX.cons (S1.ownRange (N := 1) (nx_list rfl rfl) (RX.three (nx_range rfl rfl) (EX.glob g_move rfl rfl rfl) (EX.mulI (EX.glob g_move rfl rfl rfl) (EX.addI hlen EX.int) (IntMulOk.of_left (by decide))) (EX.glob g_move rfl rfl rfl) (by decide) (by decide +kernel)) (by decide +kernel) (by decide +kernel) (by decide) rfl rfl (fun ad => ?_))
  have hr2 : rangeL 2 2 1 = [.int 2] := rfl
  rw [hr2]
  refine SX.cons (S1.assign (Stor.loc rfl rfl) EX.int ?_ (free_of rfl))
  refine SX.cons (S1.forRange (RX.one (nx_range rfl rfl) (EX.callB nl (AX.cons (EX.loc hb rfl rfl rfl) AX.nil) (OP.lenS (by omega)))) (small_one (by omega) (by omega) (by omega) (by omega)) (rs_one b.length)
    (fun pre ρ1 ow1 => ∃ r0 res, ow1 = some (sRow, ad, [.int r0]) ∧ ρ1 sA = some (.str a) ∧ ρ1 sB = some (.str b) ∧ ρ1 sM = some (.int mc) ∧ ρ1 sRes = some (.int res) ∧ outF (Txt.item a 0) b mc (b.length - pre.length) pre.length r0 res = some r) ⟨2, 0, rfl, ha, hb, hm, rfl, h⟩ ?_ ?_)
  · rintro pre d post ρ1 ow1 hsp ⟨r0, res, rfl, ea, eb, em, er, ho⟩
    obtain ⟨rfl, hlt, _⟩ := rangeL_split hsp
    have hbi : (0 + (pre.length : Int) * 1) = (pre.length : Int) := by omega
    rw [hbi]
    refine ⟨_, AT.name (Stor.loc rfl rfl) (free_of rfl), ?_⟩
    obtain ⟨k, hk⟩ : ∃ k, b.length - pre.length = k + 1 := ⟨b.length - pre.length - 1, by omega⟩
    rw [hk] at ho
    unfold outF at ho
    refine SX.cons (S1.assign (Stor.loc rfl rfl) (EX.itemS (EX.loc eb rfl rfl rfl) (EX.loc rfl rfl rfl rfl) (fits_small (by omega) (by omega)) (by omega) (by omega)) ?_ (free_of rfl))
    refine SX.cons (S1.assign2 (Stor.loc rfl rfl) (Stor.loc rfl rfl) (EX.mulI (EX.loc rfl rfl rfl rfl) (EX.glob g_move rfl rfl rfl) (IntMulOk.of_right (by decide))) ?_ (free_of rfl) (free_of rfl))
    refine SX.cons (S1.assign (Stor.loc rfl rfl) EX.int ?_ (free_of rfl))
    refine SX.cons (lev_in (a := a) (b := b) (mc := mc) (bc := Txt.item b pre.length) h1 (by show 1 ≤ 1; omega) ea eb em rfl rfl rfl rfl fun ρ3 fa fb fm fr fn => ?_)
    refine SX.cons (S1.ite (TX.gtI (EX.loc fn rfl rfl rfl) (EX.loc fm rfl rfl rfl)) (fun c => ?_) (fun c => SX.nil (SX.nil ?_)))
    · have c' := of_decide_eq_true c
      dsimp only at ho
      rw [if_pos c'] at ho
      exact SX.cons (S1.ret (EX.addI (EX.loc fm rfl rfl rfl) EX.int) (Or.inl (by rw [Option.some.inj ho])))
    · have c' := of_decide_eq_false c
      dsimp only at ho
      rw [if_neg c'] at ho
      refine ⟨_, _, rfl, fa, fb, fm, fr, ?_⟩
      have e1 : (pre ++ [D.int (pre.length : Int)]).length = pre.length + 1 := by simp
      have e2 : b.length - (pre.length + 1) = k := by omega
      rw [e1, e2]
      exact ho
  · rintro ρ1 ow1 ⟨r0, res, rfl, ea, eb, em, er, ho⟩
    have e : (rangeL 0 1 b.length).length = b.length := by simp [rangeL]
    rw [e, Nat.sub_self] at ho
    have : res = r := Option.some.inj ho
    subst this
    exact SX.cons (S1.ret (EX.loc er rfl rfl rfl) (Or.inl rfl))
set_option maxRecDepth 10000 in
theorem lev_9 {n : Nat} {a b : Str} {mc r : Int} {ρ : Rho} (ha : ρ sA = some (.str a)) (hb : ρ sB = some (.str b)) (hm : ρ sM = some (.int mc)) (la : a.length ≤ 1000) (lb : b.length ≤ 1000) (h : levT a b mc = some r) : SX G0 (n + 1) (scopeAt 15) ρ none ((bodyAt 15).drop 9) (levP r) := by
  have ea := fun {m : Nat} {pos : Pos} {ow : Own} => EX.loc (G := G0) (n := m) (S := scopeAt 15) (ρ := ρ) (ow := ow) (pos := pos) ha rfl rfl rfl
  have eb := fun {m : Nat} {pos : Pos} {ow : Own} => EX.loc (G := G0) (n := m) (S := scopeAt 15) (ρ := ρ) (ow := ow) (pos := pos) hb rfl rfl rfl
  have em := fun {m : Nat} {pos : Pos} {ow : Own} => EX.loc (G := G0) (n := m) (S := scopeAt 15) (ρ := ρ) (ow := ow) (pos := pos) hm rfl rfl rfl
  have nl : NX G0 (scopeAt 15) (Str.ofString "len") (.builtin "len") := nx_len rfl rfl
  have sl : ∀ {m : Nat} {np pos p2 : Pos}, EX G0 m (scopeAt 15) ρ none (.Call (.Name (Str.ofString "len") np) [.Name sA p2] [] pos) (.int a.length) := EX.callB nl (AX.cons ea AX.nil) (OP.lenS (by omega))
  have sb : ∀ {m : Nat} {np pos p2 : Pos}, EX G0 m (scopeAt 15) ρ none (.Call (.Name (Str.ofString "len") np) [.Name sB p2] [] pos) (.int b.length) := EX.callB nl (AX.cons eb AX.nil) (OP.lenS (by omega))
  unfold levT at h
  refine SX.cons (S1.ite (TX.bool (CX.or (TX.not (TX.str ea (by omega))) fun _ => CX.or1 (TX.not (TX.str eb (by omega))))) (fun c => ?_) (fun c => SX.nil ?_))
  · have hc : a.length = 0 ∨ b.length = 0 := by
      simp only [Bool.or_eq_true, Bool.not_eq_true', bne_eq_false_iff_eq] at c
      omega
    rw [if_pos hc] at h
    exact SX.cons (S1.ret (EX.mulI (EX.glob g_move rfl rfl rfl) (EX.addI sl sb) (IntMulOk.of_left (by decide))) (Or.inl (by rw [← Option.some.inj h])))
  have hc : ¬ (a.length = 0 ∨ b.length = 0) := by
    simp only [Bool.or_eq_false_iff, Bool.not_eq_false', bne_iff_ne, ne_eq] at c
    omega
  rw [if_neg hc] at h
  by_cases h2 : a.length ≠ 1 ∨ 40 < b.length
  · rw [if_pos h2] at h; cases h
  rw [if_neg h2] at h
  refine SX.cons (S1.ite (TX.bool (CX.or (TX.gtI sl (EX.glob g_max rfl rfl rfl)) fun _ => CX.or1 (TX.gtI sb (EX.glob g_max rfl rfl rfl)))) (fun c => ?_) (fun c => SX.nil ?_))
  · exfalso
    simp only [Bool.or_eq_true, decide_eq_true_eq] at c
    omega
  refine SX.cons (S1.ite (TX.ltI sb sl) (fun c => ?_) (fun c => SX.nil ?_))
  · exfalso
    have := of_decide_eq_true c
    omega
  refine SX.cons (S1.ite (TX.gtI (EX.mulI (EX.subI sb sl) (EX.glob g_move rfl rfl rfl) (IntMulOk.of_right (by decide))) em) (fun c => ?_) (fun c => SX.nil ?_))
  · rw [if_pos (of_decide_eq_true c)] at h
    exact SX.cons (S1.ret (EX.addI em EX.int) (Or.inl (by rw [← Option.some.inj h])))
  rw [if_neg (of_decide_eq_false c)] at h
  exact lev_13 ha hb hm (by omega) lb h
set_option maxRecDepth 10000 in
theorem lev_fn {n : Nat} {a b : Str} {mc r : Int} (h : levF a b mc = some r) : Fn G0 (n + 2) 56 [.str a, .str b, .int mc] (.int r) := by
  refine Fn.of lev_obj rfl ?_
  unfold levF at h
  refine SX.cons (S1.ite (TX.eqS (EX.loc rfl rfl rfl rfl) (EX.loc rfl rfl rfl rfl)) (fun c => ?_) (fun c => SX.nil ?_))
  · rw [if_pos c] at h
    exact SX.cons (S1.ret EX.int (Or.inl (by rw [← Option.some.inj h])))
  rw [c, if_neg Bool.false_ne_true] at h
  by_cases hl : 1000 < a.length ∨ 1000 < b.length
  · rw [if_pos hl] at h; cases h
  rw [if_neg hl] at h
  cases hp : preF 100 a b 0 with
  | none => rw [hp] at h; cases h
  | some j =>
    rw [hp] at h
    dsimp only at h
    cases hq : postF 100 (Txt.slice a (some j) none) (Txt.slice b (some j) none) 0 with
    | none => rw [hq] at h; cases h
    | some p =>
      rw [hq] at h
      dsimp only at h
      have l1 := Txt.slice_le a (some j) none
      have l2 := Txt.slice_le b (some j) none
      have l3 := len_tail0 (Txt.slice a (some j) none) p
      have l4 := len_tail0 (Txt.slice b (some j) none) p
      exact lev_1 rfl rfl rfl (by omega) (by omega) hp fun ρ e1 e2 e3 => lev_5 e1 e2 e3 (by omega) (by omega) hq fun ρ f1 f2 f3 => lev_9 f1 f2 f3 (by omega) (by omega) h
end Mine
namespace Mine
section
variable {G : Gd} {n : Nat} {S : Scope} {ρ : Rho} {ow : Own}
theorem floatsAre3 {a b c : UInt64} {t u x : Tok} {i : Nat} {v : Value} (h : (#[Value.float a t, .float b u, .float c x] : Array Value)[i]? = some v) : ∃ y k, v = .float y k ∧ [a, b, c][i]? = some y := by
  match i, h with
  | 0, h => exact ⟨a, t, by simpa using h.symm, rfl⟩
  | 1, h => exact ⟨b, u, by simpa using h.symm, rfl⟩
  | 2, h => exact ⟨c, x, by simpa using h.symm, rfl⟩
  | i + 3, h => simp at h
theorem max3F {prog : Program} {w : World} {A : Around} {E : Value → Shared → Prop} {s : Shared} {a b c : UInt64} {t u x : Tok} {Q : Value → Shared → Prop} (hh : A.handled = none)
    (h : ∀ h' tk k, (∀ d o, s.heap.get? d = some o → h'.get? d = some o) → Q (.float (Flt.maxOfBits [a, b, c]) k) { s with heap := h', toks := tk }) :
    wpAny (model prog w) A (call (.builtin "max") [.float a t, .float b u, .float c x]) Q E s := by
  have hT : (s.heap.push { cls := .type "tuple", data := .seq #[.float a t, .float b u, .float c x] }).IsTuple s.heap.objs.size #[.float a t, .float b u, .float c x] := ⟨_, Heap.get?_push_size _ rfl, rfl, 0, rfl⟩
  refine call_max_three (wpAny_pyIter_tuple hT ?_)
  have hsz : (s.heap.push { cls := .type "tuple", data := .seq #[.float a t, .float b u, .float c x] }).objs.size = s.heap.objs.size + 1 := Heap.size_push ..
  refine ⟨_, [_, s.heap.objs.size], [_], _, _, _, fun i j => Flt.gtB ([a, b, c].getD i 0) ([a, b, c].getD j 0), rfl, Walks.tuple (A := A.in1) hh _ s.heap.objs.size (by rw [hsz]; exact Nat.ne_of_lt (Nat.lt_succ_self _)) #[.float a t, .float b u, .float c x],
    ⟨⟨_, Heap.get?_push_size _ rfl, rfl, rfl⟩, hT.push _⟩, fun d hd => ?_, by simp, fun i j vi vj s Q E hi hj h => ?_, fun v h' tk hP hk => ?_⟩
  · show d < ((s.heap.push _).push _).objs.size
    rw [Heap.size_push, hsz]
    rcases List.mem_cons.mp hd with rfl | hd
    · rw [hsz]; exact Nat.lt_succ_self _
    · rcases List.mem_cons.mp hd with rfl | hd
      · exact Nat.lt_succ_of_lt (Nat.lt_succ_self _)
      · cases hd
  · obtain ⟨y, k, rfl, e1⟩ := floatsAre3 hi
    obtain ⟨z, k', rfl, e2⟩ := floatsAre3 hj
    simp only [List.getD_eq_getElem?_getD, e1, e2, Option.getD_some] at h
    exact AutoFloatOps.gt_0 (by rw [Flt.cmp_gt]; exact h)
  · obtain ⟨y, k, rfl, e1⟩ := floatsAre3 hP
    have e2 := Flt.argBest_bits Flt.gtB [a, b, c] 2 (by simp)
    rw [List.getD_eq_getElem?_getD, show [a, b, c][argBest (fun i j => Flt.gtB ([a, b, c].getD i 0) ([a, b, c].getD j 0)) 2]? = some y from e1, Option.getD_some] at e2
    rw [e2]
    refine h h' tk k fun d o e => ?_
    refine hk d o (fun hm => ?_) (Heap.get?_push_of_some _ (Heap.get?_push_of_some _ e))
    rcases List.mem_cons.mp hm with e1 | hm
    · have := Heap.lt_size e; rw [e1, hsz] at this; exact Nat.lt_irrefl _ (Nat.lt_of_succ_lt this)
    · cases hm
theorem min3F {prog : Program} {w : World} {A : Around} {E : Value → Shared → Prop} {s : Shared} {a b c : UInt64} {t u x : Tok} {Q : Value → Shared → Prop} (hh : A.handled = none)
    (h : ∀ h' tk k, (∀ d o, s.heap.get? d = some o → h'.get? d = some o) → Q (.float (Flt.minOfBits [a, b, c]) k) { s with heap := h', toks := tk }) :
    wpAny (model prog w) A (call (.builtin "min") [.float a t, .float b u, .float c x]) Q E s := by
  have hT : (s.heap.push { cls := .type "tuple", data := .seq #[.float a t, .float b u, .float c x] }).IsTuple s.heap.objs.size #[.float a t, .float b u, .float c x] := ⟨_, Heap.get?_push_size _ rfl, rfl, 0, rfl⟩
  refine call_min_three (wpAny_pyIter_tuple hT ?_)
  have hsz : (s.heap.push { cls := .type "tuple", data := .seq #[.float a t, .float b u, .float c x] }).objs.size = s.heap.objs.size + 1 := Heap.size_push ..
  refine ⟨_, [_, s.heap.objs.size], [_], _, _, _, fun i j => Flt.ltB ([a, b, c].getD i 0) ([a, b, c].getD j 0), rfl, Walks.tuple (A := A.in1) hh _ s.heap.objs.size (by rw [hsz]; exact Nat.ne_of_lt (Nat.lt_succ_self _)) #[.float a t, .float b u, .float c x],
    ⟨⟨_, Heap.get?_push_size _ rfl, rfl, rfl⟩, hT.push _⟩, fun d hd => ?_, by simp, fun i j vi vj s Q E hi hj h => ?_, fun v h' tk hP hk => ?_⟩
  · show d < ((s.heap.push _).push _).objs.size
    rw [Heap.size_push, hsz]
    rcases List.mem_cons.mp hd with rfl | hd
    · rw [hsz]; exact Nat.lt_succ_self _
    · rcases List.mem_cons.mp hd with rfl | hd
      · exact Nat.lt_succ_of_lt (Nat.lt_succ_self _)
      · cases hd
  · obtain ⟨y, k, rfl, e1⟩ := floatsAre3 hi
    obtain ⟨z, k', rfl, e2⟩ := floatsAre3 hj
    simp only [List.getD_eq_getElem?_getD, e1, e2, Option.getD_some] at h
    exact AutoFloatOps.lt_0 h
  · obtain ⟨y, k, rfl, e1⟩ := floatsAre3 hP
    have e2 := Flt.argBest_bits Flt.ltB [a, b, c] 2 (by simp)
    rw [List.getD_eq_getElem?_getD, show [a, b, c][argBest (fun i j => Flt.ltB ([a, b, c].getD i 0) ([a, b, c].getD j 0)) 2]? = some y from e1, Option.getD_some] at e2
    rw [e2]
    refine h h' tk k fun d o e => ?_
    refine hk d o (fun hm => ?_) (Heap.get?_push_of_some _ (Heap.get?_push_of_some _ e))
    rcases List.mem_cons.mp hm with e1 | hm
    · have := Heap.lt_size e; rw [e1, hsz] at this; exact Nat.lt_irrefl _ (Nat.lt_of_succ_lt this)
    · cases hm
theorem OP.max3F {a b c : UInt64} : OP G n (.builtin "max") [.flt a, .flt b, .flt c] (.flt (Flt.maxOfBits [a, b, c])) := by
  intro K R Y ρ ow s g vs Q E T r q
  obtain ⟨v, r1, rfl, k1, r⟩ := RdL.cons_iff.mp r
  obtain ⟨v2, r2, rfl, k2, r⟩ := RdL.cons_iff.mp r
  obtain ⟨v3, r3, rfl, k3, r⟩ := RdL.cons_iff.mp r
  obtain rfl := RdL.nil_iff.mp r
  obtain ⟨t, rfl⟩ := Rd.flt_iff.mp k1
  obtain ⟨u, rfl⟩ := Rd.flt_iff.mp k2
  obtain ⟨x, rfl⟩ := Rd.flt_iff.mp k3
  exact Mine.max3F R.handled fun h' tk k hk => q _ _ _ (T.same (s' := { s with heap := h', toks := tk }) hk rfl T.bare) (VLe.refl _) (Rd.mkFlt _ _)
theorem OP.min3F {a b c : UInt64} : OP G n (.builtin "min") [.flt a, .flt b, .flt c] (.flt (Flt.minOfBits [a, b, c])) := by
  intro K R Y ρ ow s g vs Q E T r q
  obtain ⟨v, r1, rfl, k1, r⟩ := RdL.cons_iff.mp r
  obtain ⟨v2, r2, rfl, k2, r⟩ := RdL.cons_iff.mp r
  obtain ⟨v3, r3, rfl, k3, r⟩ := RdL.cons_iff.mp r
  obtain rfl := RdL.nil_iff.mp r
  obtain ⟨t, rfl⟩ := Rd.flt_iff.mp k1
  obtain ⟨u, rfl⟩ := Rd.flt_iff.mp k2
  obtain ⟨x, rfl⟩ := Rd.flt_iff.mp k3
  exact Mine.min3F R.handled fun h' tk k hk => q _ _ _ (T.same (s' := { s with heap := h', toks := tk }) hk rfl T.bare) (VLe.refl _) (Rd.mkFlt _ _)
end
theorem glob_flt {x : Str} {k : UInt64} {t : Tok} (h : ∀ P : Params, nsIn (G0.KF P) mainGlobals x = some (some (.float k t))) : ∀ P : Params, ∃ v, nsIn (G0.KF P) mainGlobals x = some (some v) ∧ Rd (fun _ => none) (.flt k) v := fun P => ⟨_, h P, Rd.mkFlt _ _⟩
theorem g_third : ∀ P : Params, ∃ v, nsIn (G0.KF P) mainGlobals (Str.ofString "ONE_THIRD") = some (some v) ∧ Rd (fun _ => none) (.flt 4599676419421066581) v := glob_flt (t := 191) fun P => rfl
theorem g_sixth : ∀ P : Params, ∃ v, nsIn (G0.KF P) mainGlobals (Str.ofString "ONE_SIXTH") = some (some v) ∧ Rd (fun _ => none) (.flt 4595172819793696085) v := glob_flt (t := 195) fun P => rfl
theorem g_two : ∀ P : Params, ∃ v, nsIn (G0.KF P) mainGlobals (Str.ofString "TWO_THIRD") = some (some v) ∧ Rd (fun _ => none) (.flt 4604180019048437077) v := glob_flt (t := 199) fun P => rfl
theorem v_obj : FnObj G0 35 (Str.ofString "_v") [Str.ofString "m1", Str.ofString "m2", Str.ofString "hue"] (bodyAt 6) (scopeAt 6) where
  obj := fun P => ⟨_, _, _, _, _, rfl, rfl, rfl, fun vs h => by
    match vs, h with
    | [a, b, c], _ => rfl⟩
  loc := by decide +kernel
  co := rfl
  gen := rfl
  kind := rfl
  cell := by decide +kernel
def vF (m1 m2 hue : UInt64) : UInt64 :=
  if (Float64.cmp (Float64.divmod hue 4607182418800017408).2 4595172819793696085 == some Ordering.lt) = true then Float64.add m1 (Float64.mul (Float64.mul (Float64.sub m2 m1) (Float64.divmod hue 4607182418800017408).2) 4618441417868443648)
  else if (Float64.cmp (Float64.divmod hue 4607182418800017408).2 4602678819172646912 == some Ordering.lt) = true then m2
  else if (Float64.cmp (Float64.divmod hue 4607182418800017408).2 4604180019048437077 == some Ordering.lt) = true then Float64.add m1 (Float64.mul (Float64.mul (Float64.sub m2 m1) (Float64.sub 4604180019048437077 (Float64.divmod hue 4607182418800017408).2)) 4618441417868443648)
  else m1
set_option maxRecDepth 10000 in
theorem v_fn {n : Nat} {m1 m2 hue : UInt64} : Fn G0 (n + 1) 35 [.flt m1, .flt m2, .flt hue] (.flt (vF m1 m2 hue)) := by
  refine Fn.of v_obj rfl ?_
  unfold vF
  refine SX.cons (S1.assign (Stor.loc rfl rfl) (EX.modF (EX.loc rfl rfl rfl rfl) EX.flt (by decide +kernel)) ?_ trivial)
  refine SX.cons (S1.ite (TX.ltF (EX.loc rfl rfl rfl rfl) (EX.glob g_sixth rfl rfl rfl)) (fun c => ?_) (fun c => SX.nil ?_))
  · exact SX.cons (S1.ret (EX.addF (EX.loc rfl rfl rfl rfl) (EX.mulF (EX.mulF (EX.subF (EX.loc rfl rfl rfl rfl) (EX.loc rfl rfl rfl rfl)) (EX.loc rfl rfl rfl rfl)) EX.flt)) (Or.inl (by rw [if_pos c])))
  rw [if_neg (by rw [c]; exact Bool.false_ne_true)]
  refine SX.cons (S1.ite (TX.ltF (EX.loc rfl rfl rfl rfl) EX.flt) (fun c => ?_) (fun c => SX.nil ?_))
  · exact SX.cons (S1.ret (EX.loc rfl rfl rfl rfl) (Or.inl (by rw [if_pos c])))
  rw [if_neg (by rw [c]; exact Bool.false_ne_true)]
  refine SX.cons (S1.ite (TX.ltF (EX.loc rfl rfl rfl rfl) (EX.glob g_two rfl rfl rfl)) (fun c => ?_) (fun c => SX.nil ?_))
  · exact SX.cons (S1.ret (EX.addF (EX.loc rfl rfl rfl rfl) (EX.mulF (EX.mulF (EX.subF (EX.loc rfl rfl rfl rfl) (EX.loc rfl rfl rfl rfl)) (EX.subF (EX.glob g_two rfl rfl rfl) (EX.loc rfl rfl rfl rfl))) EX.flt)) (Or.inl (by rw [if_pos c])))
  rw [if_neg (by rw [c]; exact Bool.false_ne_true)]
  exact SX.cons (S1.ret (EX.loc rfl rfl rfl rfl) (Or.inl rfl))
theorem rgb_obj : FnObj G0 28 (Str.ofString "hls_to_rgb") [Str.ofString "h", Str.ofString "l", Str.ofString "s"] (bodyAt 5) (scopeAt 5) where
  obj := fun P => ⟨_, _, _, _, _, rfl, rfl, rfl, fun vs h => by
    match vs, h with
    | [a, b, c], _ => rfl⟩
  loc := by decide +kernel
  co := rfl
  gen := rfl
  kind := rfl
  cell := by decide +kernel
def m2F : UInt64 := Float64.mul 4602678819172646912 (Float64.add 4607182418800017408 4607182418800017408)
def m1F : UInt64 := Float64.sub (Float64.mul 4611686018427387904 4602678819172646912) m2F
def rgbF (h : UInt64) : List UInt64 := [vF m1F m2F (Float64.add h 4599676419421066581), vF m1F m2F h, vF m1F m2F (Float64.sub h 4599676419421066581)]
theorem nx_v : NX G0 (scopeAt 5) (Str.ofString "_v") (.ref 35) := NX.glob (fun P => rfl) rfl rfl rfl
set_option maxRecDepth 10000 in
theorem rgb_fn {n : Nat} {h : UInt64} : Fn G0 (n + 2) 28 [.flt h, .flt 4602678819172646912, .flt 4607182418800017408] (.tup ((rgbF h).map .flt)) := by
  refine Fn.of rgb_obj rfl ?_
  refine SX.cons (S1.ite (TX.eqF (EX.loc rfl rfl rfl rfl) EX.flt) (fun c => absurd c (by decide +kernel)) (fun _ => SX.nil ?_))
  refine SX.cons (S1.ite (TX.leF (EX.loc rfl rfl rfl rfl) EX.flt) (fun _ => ?_) (fun c => absurd c (by decide +kernel)))
  refine SX.cons (S1.assign (Stor.loc rfl rfl) (EX.mulF (EX.loc rfl rfl rfl rfl) (EX.addF EX.flt (EX.loc rfl rfl rfl rfl))) (SX.nil ?_) trivial)
  refine SX.cons (S1.assign (Stor.loc rfl rfl) (EX.subF (EX.mulF EX.flt (EX.loc rfl rfl rfl rfl)) (EX.loc rfl rfl rfl rfl)) ?_ trivial)
  refine SX.cons (S1.ret (EX.tuple (AX.cons (EX.callF nx_v (fun P => rfl) (AX.cons (EX.loc rfl rfl rfl rfl) (AX.cons (EX.loc rfl rfl rfl rfl) (AX.cons (EX.addF (EX.loc rfl rfl rfl rfl) (EX.glob g_third rfl rfl rfl)) AX.nil))) v_fn)
    (AX.cons (EX.callF nx_v (fun P => rfl) (AX.cons (EX.loc rfl rfl rfl rfl) (AX.cons (EX.loc rfl rfl rfl rfl) (AX.cons (EX.loc rfl rfl rfl rfl) AX.nil))) v_fn)
    (AX.cons (EX.callF nx_v (fun P => rfl) (AX.cons (EX.loc rfl rfl rfl rfl) (AX.cons (EX.loc rfl rfl rfl rfl) (AX.cons (EX.subF (EX.loc rfl rfl rfl rfl) (EX.glob g_third rfl rfl rfl)) AX.nil))) v_fn) AX.nil))) (show 3 ≤ sizeLine by decide)) (Or.inl rfl))
theorem hls_obj : FnObj G0 21 (Str.ofString "rgb_to_hls") [Str.ofString "r", Str.ofString "g", Str.ofString "b"] (bodyAt 4) (scopeAt 4) where
  obj := fun P => ⟨_, _, _, _, _, rfl, rfl, rfl, fun vs h => by
    match vs, h with
    | [a, b, c], _ => rfl⟩
  loc := by decide +kernel
  co := rfl
  gen := rfl
  kind := rfl
  cell := by decide +kernel
theorem nx_max4 : NX G0 (scopeAt 4) (Str.ofString "max") (.builtin "max") := NX.blt (fun P => rfl) rfl (by decide) rfl rfl rfl
theorem nx_min4 : NX G0 (scopeAt 4) (Str.ofString "min") (.builtin "min") := NX.blt (fun P => rfl) rfl (by decide) rfl rfl rfl
/-- the lights that the law asks for: largest part 1.0, least part 0.0 -/
def hueF (r g b : UInt64) : UInt64 :=
  let one : UInt64 := 4607182418800017408
  let rg := Float64.sub one 0
  let rc := Float64.div (Float64.sub one r) rg
  let gc := Float64.div (Float64.sub one g) rg
  let bc := Float64.div (Float64.sub one b) rg
  (Float64.divmod (Float64.div (if (Float64.cmp r one == some Ordering.eq) = true then Float64.sub bc gc else if (Float64.cmp g one == some Ordering.eq) = true then Float64.sub (Float64.add 4611686018427387904 rc) bc else Float64.sub (Float64.add 4616189618054758400 gc) rc) 4618441417868443648) one).2
set_option maxRecDepth 10000 in
theorem hls_fn {n : Nat} {r g b : UInt64} (h1 : Flt.maxOfBits [r, g, b] = 4607182418800017408) (h0 : Flt.minOfBits [r, g, b] = 0) : Fn G0 (n + 1) 21 [.flt r, .flt g, .flt b] (.tup [.flt (hueF r g b), .flt (Float64.div (Float64.add 4607182418800017408 0) 4611686018427387904), .flt (Float64.div (Float64.sub 4607182418800017408 0) (Float64.add 4607182418800017408 0))]) := by
  refine Fn.of hls_obj rfl ?_
  refine SX.cons (S1.assign (Stor.loc rfl rfl) (EX.callB nx_max4 (AX.cons (EX.loc rfl rfl rfl rfl) (AX.cons (EX.loc rfl rfl rfl rfl) (AX.cons (EX.loc rfl rfl rfl rfl) AX.nil))) OP.max3F) ?_ trivial)
  refine SX.cons (S1.assign (Stor.loc rfl rfl) (EX.callB nx_min4 (AX.cons (EX.loc rfl rfl rfl rfl) (AX.cons (EX.loc rfl rfl rfl rfl) (AX.cons (EX.loc rfl rfl rfl rfl) AX.nil))) OP.min3F) ?_ trivial)
  rw [h1, h0]
  refine SX.cons (S1.assign (Stor.loc rfl rfl) (EX.addF (EX.loc rfl rfl rfl rfl) (EX.loc rfl rfl rfl rfl)) ?_ trivial)
  refine SX.cons (S1.assign (Stor.loc rfl rfl) (EX.subF (EX.loc rfl rfl rfl rfl) (EX.loc rfl rfl rfl rfl)) ?_ trivial)
  refine SX.cons (S1.assign (Stor.loc rfl rfl) (EX.divF (EX.loc rfl rfl rfl rfl) EX.flt (by decide +kernel)) ?_ trivial)
  refine SX.cons (S1.ite (TX.eqF (EX.loc rfl rfl rfl rfl) (EX.loc rfl rfl rfl rfl)) (fun c => absurd c (by decide +kernel)) (fun _ => SX.nil ?_))
  refine SX.cons (S1.ite (TX.leF (EX.loc rfl rfl rfl rfl) EX.flt) (fun _ => ?_) (fun c => absurd c (by decide +kernel)))
  refine SX.cons (S1.assign (Stor.loc rfl rfl) (EX.divF (EX.loc rfl rfl rfl rfl) (EX.loc rfl rfl rfl rfl) (by decide +kernel)) (SX.nil ?_) trivial)
  refine SX.cons (S1.assign (Stor.loc rfl rfl) (EX.divF (EX.subF (EX.loc rfl rfl rfl rfl) (EX.loc rfl rfl rfl rfl)) (EX.loc rfl rfl rfl rfl) (by decide +kernel)) ?_ trivial)
  refine SX.cons (S1.assign (Stor.loc rfl rfl) (EX.divF (EX.subF (EX.loc rfl rfl rfl rfl) (EX.loc rfl rfl rfl rfl)) (EX.loc rfl rfl rfl rfl) (by decide +kernel)) ?_ trivial)
  refine SX.cons (S1.assign (Stor.loc rfl rfl) (EX.divF (EX.subF (EX.loc rfl rfl rfl rfl) (EX.loc rfl rfl rfl rfl)) (EX.loc rfl rfl rfl rfl) (by decide +kernel)) ?_ trivial)
  have fin : ∀ (ρ : Rho) (h l s : UInt64), ρ (Str.ofString "h") = some (.flt h) → ρ (Str.ofString "l") = some (.flt l) → ρ (Str.ofString "s") = some (.flt s) → SX G0 n (scopeAt 4) ρ none ((bodyAt 4).drop 11) (fun fl _ _ => fl = .ret (.tup [.flt (Float64.divmod (Float64.div h 4618441417868443648) 4607182418800017408).2, .flt l, .flt s]) ∨ (fl = .next ∧ D.tup [.flt (Float64.divmod (Float64.div h 4618441417868443648) 4607182418800017408).2, .flt l, .flt s] = .none)) := fun ρ h l s e1 e2 e3 => by
    refine SX.cons (S1.assign (Stor.loc rfl rfl) (EX.modF (EX.divF (EX.loc e1 rfl rfl rfl) EX.flt (by decide +kernel)) EX.flt (by decide +kernel)) ?_ trivial)
    exact SX.cons (S1.ret (EX.tuple (AX.cons (EX.loc (by rfl) rfl rfl rfl) (AX.cons (EX.loc (show upd ρ _ _ (Str.ofString "l") = some (.flt l) from e2) rfl rfl rfl) (AX.cons (EX.loc (show upd ρ _ _ (Str.ofString "s") = some (.flt s) from e3) rfl rfl rfl) AX.nil))) (show 3 ≤ sizeLine by decide)) (Or.inl rfl))
  unfold hueF
  dsimp only
  refine SX.cons (S1.ite (TX.eqF (EX.loc rfl rfl rfl rfl) (EX.loc rfl rfl rfl rfl)) (fun c => ?_) (fun c => ?_))
  · rw [if_pos c]
    exact SX.cons (S1.assign (Stor.loc rfl rfl) (EX.subF (EX.loc rfl rfl rfl rfl) (EX.loc rfl rfl rfl rfl)) (SX.nil (fin _ _ _ _ rfl rfl rfl)) trivial)
  rw [if_neg (by rw [c]; exact Bool.false_ne_true)]
  refine SX.cons (S1.ite (TX.eqF (EX.loc rfl rfl rfl rfl) (EX.loc rfl rfl rfl rfl)) (fun c => ?_) (fun c => ?_))
  · rw [if_pos c]
    exact SX.cons (S1.assign (Stor.loc rfl rfl) (EX.subF (EX.addF EX.flt (EX.loc rfl rfl rfl rfl)) (EX.loc rfl rfl rfl rfl)) (SX.nil (SX.nil (fin _ _ _ _ rfl rfl rfl))) trivial)
  rw [if_neg (by rw [c]; exact Bool.false_ne_true)]
  exact SX.cons (S1.assign (Stor.loc rfl rfl) (EX.subF (EX.addF EX.flt (EX.loc rfl rfl rfl rfl)) (EX.loc rfl rfl rfl rfl)) (SX.nil (SX.nil (fin _ _ _ _ rfl rfl rfl))) trivial)
end Mine
namespace Mine
def relab (scope S : Scope) : Scope :=
  { scope with names := scope.names.map fun (n, k) => if (k == .free && S.kind == .function && S.names.lookup n == some .cell) then (n, .cell) else (n, k) }
theorem relab_is {scope S : Scope} (env : Env) (h : env.scope = S) : relabel scope env = relab scope S := by subst h; rfl
theorem paint_obj : FnObj G0 61 (Str.ofString "_law_paint") [Str.ofString "corner"] (bodyAt 17) (scopeAt 17) where
  obj := fun P => ⟨_, _, _, _, _, rfl, rfl, rfl, fun vs h => by
    match vs, h with
    | [a], _ => rfl⟩
  loc := by decide +kernel
  co := rfl
  gen := rfl
  kind := rfl
  cell := by decide +kernel
theorem nx_rgb : NX G0 (scopeAt 17) (Str.ofString "hls_to_rgb") (.ref 28) := NX.glob (fun P => rfl) rfl rfl rfl
noncomputable def compScope (e : Expr) : Scope := match e with | .ListComp _ _ s _ => s | _ => default
noncomputable def paintComp : Expr := match bodyAt 17 with | [.Return (some e) _] => e | _ => .Tuple [] 0 default
theorem nx_round : NX G0 (relab (compScope paintComp) (scopeAt 17)) (Str.ofString "round") (.builtin "round") := NX.blt (fun P => rfl) rfl (by decide) rfl rfl rfl
def roundF (x : UInt64) : Int := Flt.toInt Float64.nearestOf x
def okF (x : UInt64) : Bool := Float64.isFinite x && !Float64.isNaN x && !Float64.isInf x
theorem compOut_all {fe : D → D} {ds : List D} : compOut (fun _ => true) fe ds = ds.map fe := by
  unfold compOut
  induction ds with
  | nil => rfl
  | cons d r ih => rw [List.flatMap_cons, ih]; rfl
set_option maxRecDepth 10000 in
theorem paint_fn {n : Nat} {c : Int} (hi : Float64.isInf (Float64.ofInt c) = false) (ho : ∀ x ∈ rgbF (Float64.div (Float64.ofInt c) 4618441417868443648), okF x = true) : Fn G0 (n + 3) 61 [.int c] (.lst ((rgbF (Float64.div (Float64.ofInt c) 4618441417868443648)).map fun x => .int (roundF x))) := by
  refine Fn.of paint_obj rfl ?_
  refine SX.cons (S1.ret ?_ (Or.inl rfl))
  rw [show ((rgbF (Float64.div (Float64.ofInt c) 4618441417868443648)).map fun x => D.int (roundF x)) = compOut (fun _ => true) (fun d => match d with | .flt x => .int (roundF x) | _ => .none) ((rgbF (Float64.div (Float64.ofInt c) 4618441417868443648)).map .flt) by rw [compOut_all, List.map_map]; rfl]
  refine EX.comp (IX.tuple (EX.callF nx_rgb (fun P => rfl) (AX.cons (EX.divIF (EX.loc rfl rfl rfl rfl) EX.flt hi (by decide +kernel)) (AX.cons EX.flt (AX.cons EX.flt AX.nil))) rgb_fn)) relab_is rfl (by decide +kernel) (by decide +kernel) (by decide +kernel) (.inl fun _ _ => rfl) (show 3 ≤ sizeLine by decide) ?_
  intro d hd
  obtain ⟨x, hx, rfl⟩ := List.mem_map.mp hd
  have hok := ho x hx
  unfold okF at hok
  simp only [Bool.and_eq_true, Bool.not_eq_true'] at hok
  refine ⟨_, AT0.name rfl rfl, rfl, fun _ => ?_⟩
  exact EX.callB nx_round (AX.cons (EX.loc rfl rfl rfl rfl) AX.nil) (OP.round hok.1.1 hok.1.2 hok.2)
def paintOf : Int → List D
  | 0 => [.int 1, .int 0, .int 0]
  | 1 => [.int 1, .int 1, .int 0]
  | 2 => [.int 0, .int 1, .int 0]
  | 3 => [.int 0, .int 1, .int 1]
  | 4 => [.int 0, .int 0, .int 1]
  | _ => [.int 1, .int 0, .int 1]
theorem paint_at {n : Nat} {c : Int} (h : c ∈ ([0, 1, 2, 3, 4, 5] : List Int)) : Fn G0 (n + 3) 61 [.int c] (.lst (paintOf c)) := by
  have h1 : ∀ c ∈ ([0, 1, 2, 3, 4, 5] : List Int), Float64.isInf (Float64.ofInt c) = false := by decide +kernel
  have h2 : ∀ c ∈ ([0, 1, 2, 3, 4, 5] : List Int), ∀ x ∈ rgbF (Float64.div (Float64.ofInt c) 4618441417868443648), okF x = true := by decide +kernel
  have h3 : ([0, 1, 2, 3, 4, 5] : List Int).map (fun c => (rgbF (Float64.div (Float64.ofInt c) 4618441417868443648)).map roundF) = [[1, 0, 0], [1, 1, 0], [0, 1, 0], [0, 1, 1], [0, 0, 1], [1, 0, 1]] := by decide +kernel
  have h4 : ∀ c ∈ ([0, 1, 2, 3, 4, 5] : List Int), ((rgbF (Float64.div (Float64.ofInt c) 4618441417868443648)).map fun x => D.int (roundF x)) = paintOf c := by
    simp only [List.map_cons, List.map_nil, List.cons.injEq, and_true] at h3
    obtain ⟨e0, e1, e2, e3, e4, e5⟩ := h3
    have k : ∀ l : List UInt64, (l.map fun x => D.int (roundF x)) = (l.map roundF).map .int := fun l => by rw [List.map_map]; rfl
    intro c hc
    rw [k]
    simp only [List.mem_cons, List.not_mem_nil, or_false] at hc
    rcases hc with rfl | rfl | rfl | rfl | rfl | rfl
    · rw [e0]; rfl
    · rw [e1]; rfl
    · rw [e2]; rfl
    · rw [e3]; rfl
    · rw [e4]; rfl
    · rw [e5]; rfl
  have := paint_fn (n := n) (h1 c h) (h2 c h)
  rwa [h4 c h] at this
end Mine
namespace Mine
/-! the generator _grouping_intervals -/
section
variable {G : Gd} {n : Nat} {S : Scope} {ρ : Rho} {ow : Own}
theorem TX.trueC {k : Nat} {pos : Pos} : TX G n S ρ ow (.Constant (.bool true) k pos) true := by
  rintro K rfl R Y s g Q E T q
  show wpAny _ _ (eval (.Constant (.bool true) k pos) K.env >>= fun v => standAt _ >>= fun _ => holding [v] (truthy v)) Q E s
  exact wpAny_bind (wpAny_Constant_bool (wpAny_bind (wpAny_standAt (wpAny_holding (wpAny_truthy_bool (q _ _ T (VLe.refl _)))))))
theorem TX.isNoneI {l r : Expr} {pos : Pos} {a : Int} (hl : EX G n S ρ ow l (.int a)) (hr : EX G n S ρ ow r .none) (hm : behindInMarks .Is r = false := by rfl) : TX G n S ρ ow (.Compare l [.Is] [r] pos) false :=
  TX.cmp hl hr (fun K _ s g Q E v u T r1 r2 q => by
    obtain ⟨_, rfl⟩ := Rd.int_iff.mp r1
    obtain rfl := Rd.none_iff.mp r2
    exact wpAny_is_other rfl (by intro h; cases h) (q _ _ T (VLe.refl _))) hm
end
theorem setGen_ne {s : Shared} {g j : Nat} {x y : GenState} (h : j ≠ g) (e : s.gens[j]? = some y) : (s.setGen g x).gens[j]? = some y := ((GenOnly.setGen s g x).2 j h).trans e
theorem bare_set {s : Shared} {g : Nat} {x y : GenState} (h : AllBare s.gens) (hg : s.gens[g]? = some y) (hx : x.bare = true) : AllBare (s.setGen g x).gens :=
  AllBare.moved (g := g) h (GenOnlyQ.of (GenOnly.setGen s g x) (setGen_self hg) hx)
/-- what a run up to a yield leaves -/
def YP (G : Gd) (w : World) (A : Around) (hb : Heap) (u : View) (i : Int) (r : List Int) (dom : List Addr) (s₀ : Shared) : End → Shared → Prop := fun e s' =>
  ∃ t l k c p fs v', e = .susp (.int i t) false l k c p fs ∧ Yl G w A hb u r v' (End.susp (.int i t) false l k c p fs).genState ∧ VIn v' s'.heap ∧ NoCell v' ∧ (∀ b o, v' b = some o → b ∈ dom ∨ s₀.heap.objs.size ≤ b) ∧ (∀ b ∈ dom, ∃ o, v' b = some o) ∧
    (∀ b o, b ∉ dom → s₀.heap.get? b = some o → s'.heap.get? b = some o) ∧ s'.os = s₀.os ∧ (∀ (i : Nat) (y : GenState), s₀.gens[i]? = some y → s'.gens[i]? = some y) ∧ AllBare s'.gens
theorem yl_of {G : Gd} {w : World} {A : Around} {hb : Heap} {u v : View} {i : Int} {r : List Int} {dom : List Addr} {gs : GenState} {c₀ : Code} {t₀ : Sem PySem.Fin} {fs₀ : List Frame} (hstd : G.Std w hb) (hroom : A.depth < recursionLimit) (hd : ∀ b, b ∈ dom ↔ ∃ o, v b = some o)
    (hst : (gs = .fresh c₀ ∧ t₀ = (model G.prog w).den c₀ ∧ fs₀ = []) ∨ ∃ k₀ l₀ p₀ cl, gs = .suspended k₀ l₀ c₀ p₀ fs₀ cl ∧ t₀ = k₀ (.send .none))
    (h : ∀ s : Shared, Kp hb s.heap → VIn u s.heap → VIn v s.heap → AllBare s.gens → Sg G.prog w A.in1 c₀ t₀ fs₀ s (YP G w A hb u i r dom s)) : Yl G w A hb u (i :: r) v gs := by
  intro s a g Q E hgen va hgs kb hu hv hbare q
  obtain ⟨⟨mg, mb, tr⟩, _⟩ := hstd
  refine sx_next (tr.nolimit.keeps kb) hroom hgen hgs hst ((h (s.setGen g .running) kb hu hv (bare_set hbare hgs rfl)).mono ?_)
  rintro e s1 ⟨t, l, k, c, p, fs, v', rfl, hY, hv', hnc, hd1, hd2, hk, hos, hpre, hb1⟩
  refine ⟨_, l, k, c, p, fs, rfl, fun hq => ?_⟩
  have hg1 : s1.gens[g]? = some .running := hpre g _ (setGen_self hgs)
  refine q t _ v' _ hY hv' hnc (fun b o e => ?_) (fun b o e => hd2 b ((hd b).mpr ⟨o, e⟩)) (fun b o e e' => hk b o (fun hm => ?_) e') hos (setGen_self hg1) (fun j y hj e => setGen_ne hj (hpre j y (setGen_ne hj e))) (bare_set hb1 hg1 (End.bare_of_quiet hq))
  · rcases hd1 b o e with h1 | h1
    · exact .inl ((hd b).mp h1)
    · exact .inr h1
  · obtain ⟨o', e2⟩ := (hd b).mp hm
    rw [e] at e2; cases e2
/-! its frame -/
noncomputable def gK (w : World) (A' : Around) (L : Addr) (cd : Value) (s : Shared) : Cx :=
  { w := w, A := A', S := scopeAt 9, L := L, cl := [], f := some 42, cd := cd, qual := Str.ofString "_grouping_intervals" ++ ".<locals>.", fr := some L, lk := fun b => if b = L then none else s.heap.get? b, mu := fun _ => False, nb := 0, g0 := fun _ => none, os := s.os, gl := fun i => s.gens[i]? }
noncomputable abbrev gEnv (L : Addr) (cd : Value) : Env := envOf (Str.ofString "_grouping_intervals") (scopeAt 9) L 42 cd
def Flat (ρ : Rho) : Prop := ∀ x d, ρ x = some d → (∃ i, d = .int i) ∨ d = .none
theorem Rd.flat {g g' : View} {d : D} {v : Value} (h : (∃ i, d = .int i) ∨ d = .none) (r : Rd g d v) : Rd g' d v := by
  rcases h with ⟨i, rfl⟩ | rfl
  · obtain ⟨t, rfl⟩ := Rd.int_iff.mp r; exact Rd.mkInt _ _
  · obtain rfl := Rd.none_iff.mp r; exact Rd.mkNone
structure GR (L : Addr) (hb : Heap) (ρ : Rho) (s : Shared) : Prop where
  ns : ∃ m, s.heap.Ns L m ∧ ∀ x d, ρ x = some d → ∃ v, m x = some v ∧ Rd (fun _ => none) d v
  kb : Kp hb s.heap
  bare : AllBare s.gens
def Mv (L : Addr) (s s' : Shared) : Prop := (∀ b o, b ≠ L → s.heap.get? b = some o → s'.heap.get? b = some o) ∧ s'.os = s.os ∧ ∀ (i : Nat) (y : GenState), s.gens[i]? = some y → s'.gens[i]? = some y
theorem cells9 : ∀ x ∈ (scopeAt 9).names, x.2 ≠ .cell := by decide +kernel
section
variable {w : World} {A' : Around} {L : Addr} {cd : Value} {hb : Heap} {ρ : Rho} {s : Shared}
theorem gr_st (x : GR L hb ρ s) : St (gK w A' L cd s) ρ none s (fun _ => none) := by
  obtain ⟨m, hm, hr⟩ := x.ns
  refine ⟨fun _ _ e => (by cases e), fun _ _ => rfl, fun b o e => ?_, rfl, ⟨x.bare, fun _ _ e => e⟩, Nat.zero_le _, rfl, if_pos rfl, fun _ h => h.elim, ⟨m, hm, fun y d _ h => hr y d h, trivial⟩, fun y e => absurd rfl (cells9 _ (mem_of_lookup e)), fun y c e => by cases e⟩
  have e' : (if b = L then none else s.heap.get? b) = some o := e
  by_cases q : b = L
  · rw [if_pos q] at e'; cases e'
  · rwa [if_neg q] at e'
theorem gr_on (hs : G0.Std w hb) (hL : hb.get? L = none) (x : GR L hb ρ s) : (gK w A' L cd s).On G0 := by
  refine ⟨hb, hs, fun b o e => ?_⟩
  show (if b = L then none else s.heap.get? b) = some o
  rw [if_neg (fun q => by rw [q, hL] at e; cases e)]
  exact x.kb b o e
theorem gr_ce : (gK w A' L cd s).Ce := ⟨fun x c e => (by cases e), .nil⟩
theorem gr_back {ρ' : Rho} {s' : Shared} {g : View} (hL : hb.get? L = none) (x : GR L hb ρ s) (hl : ∀ y d, ρ' y = some d → (scopeAt 9).names.lookup y = some .local) (hf : Flat ρ') (T : St (gK w A' L cd s) ρ' none s' g) : GR L hb ρ' s' ∧ Mv L s s' := by
  have kp : ∀ b o, b ≠ L → s.heap.get? b = some o → s'.heap.get? b = some o := fun b o hb e => T.keep b o (by show (if b = L then none else _) = _; rw [if_neg hb]; exact e)
  obtain ⟨m, hm, hr, _⟩ := T.ns
  refine ⟨⟨⟨m, hm, fun y d e => ?_⟩, fun b o e => kp b o (fun q => by rw [q, hL] at e; cases e) (x.kb b o e), T.bare.1⟩, kp, T.os, T.bare.2⟩
  obtain ⟨v, e1, e2⟩ := hr y d (hl y d e) e
  exact ⟨v, e1, Rd.flat (hf y d e) e2⟩
end
def gρ (iv lv : Option D) : Rho := fun x => if x = Str.ofString "interval" then iv else if x = Str.ofString "last_interval" then lv else none
theorem gρ_loc {iv lv : Option D} (y : Str) (d : D) (h : gρ iv lv y = some d) : (scopeAt 9).names.lookup y = some .local := by
  unfold gρ at h
  by_cases q : y = Str.ofString "interval"
  · rw [q]; rfl
  · rw [if_neg q] at h
    by_cases q' : y = Str.ofString "last_interval"
    · rw [q']; rfl
    · rw [if_neg q'] at h; cases h
theorem gρ_flat {iv lv : Option D} (h1 : ∀ d, iv = some d → (∃ i, d = .int i) ∨ d = .none) (h2 : ∀ d, lv = some d → (∃ i, d = .int i) ∨ d = .none) : Flat (gρ iv lv) := fun y d h => by
  unfold gρ at h
  by_cases q : y = Str.ofString "interval"
  · rw [if_pos q] at h; exact h1 d h
  · rw [if_neg q] at h
    by_cases q' : y = Str.ofString "last_interval"
    · rw [if_pos q'] at h; exact h2 d h
    · rw [if_neg q'] at h; cases h
theorem gρ_iv {iv lv : Option D} {d : D} : upd (gρ iv lv) (Str.ofString "interval") d = gρ (some d) lv := by
  funext y
  unfold upd gρ
  by_cases q : y = Str.ofString "interval"
  · rw [if_pos q, if_pos q]
  · rw [if_neg q, if_neg q, if_neg q]
theorem gρ_lv {iv lv : Option D} {d : D} : upd (gρ iv lv) (Str.ofString "last_interval") d = gρ iv (some d) := by
  have ne : Str.ofString "last_interval" ≠ Str.ofString "interval" := by decide
  funext y
  unfold upd gρ
  by_cases q : y = Str.ofString "last_interval"
  · rw [if_pos q, q, if_neg ne, if_pos rfl]
  · rw [if_neg q]
    by_cases q' : y = Str.ofString "interval"
    · rw [if_pos q', if_pos q']
    · rw [if_neg q', if_neg q', if_neg q, if_neg q]
noncomputable def giBody : List Stmt := match bodyAt 9 with | [_, .For _ _ b _ _] => b | _ => []
noncomputable def giTest : Expr := match giBody with | [_, .If _ [_, .While t _ _ _] _ _, _, _] => t | _ => .Tuple [] 0 default
noncomputable def giLoop : List Stmt := match giBody with | [_, .If _ [_, .While _ b _ _] _ _, _, _] => b | _ => []
noncomputable def giTgt : Expr := match bodyAt 9 with | [_, .For t _ _ _ _] => t | _ => .Tuple [] 0 default
theorem g_char : ∀ P : Params, ∃ v, nsIn (G0.KF P) mainGlobals (Str.ofString "CHAR_MAX") = some (some v) ∧ Rd (fun _ => none) (.int 127) v := glob_int (t := 242) fun P => rfl
/-- what it owns between two values -/
def vOf (dom : List Addr) (h : Heap) : View := fun b => if b ∈ dom then h.get? b else none
theorem vOf_some {dom : List Addr} {h : Heap} {b : Addr} {o : Obj} : vOf dom h b = some o ↔ b ∈ dom ∧ h.get? b = some o := by
  unfold vOf
  by_cases q : b ∈ dom
  · rw [if_pos q]; exact ⟨fun e => ⟨q, e⟩, fun e => e.2⟩
  · rw [if_neg q]; exact ⟨fun e => (by cases e), fun e => absurd e.1 q⟩
structure FS (L I l : Addr) (hb : Heap) (vs : List Value) (kk : Nat) (j : Nat) (ρ : Rho) (s : Shared) : Prop where
  gr : GR L hb ρ s
  it : s.heap.IsListIter I l j
  ls : s.heap.get? l = some (lstO vs kk)
structure Rl (L I : Addr) (dom : List Addr) (s₀ s : Shared) : Prop where
  kp : ∀ b o, b ∉ dom → s₀.heap.get? b = some o → s.heap.get? b = some o
  os : s.os = s₀.os
  gn : ∀ (i : Nat) (y : GenState), s₀.gens[i]? = some y → s.gens[i]? = some y
  memL : L ∈ dom
  memI : I ∈ dom ∨ s₀.heap.objs.size ≤ I
  only : ∀ b ∈ dom, b = I ∨ b = L
section
variable {w : World} {A : Around} {L I l : Addr} {cd : Value} {hb : Heap} {vs : List Value} {kk : Nat} {ρ : Rho} {s s₀ s' : Shared} {dom : List Addr}
theorem Rl.mv (x : Rl L I dom s₀ s) (y : Mv L s s') : Rl L I dom s₀ s' := ⟨fun b o hb e => y.1 b o (fun q => hb (q ▸ x.memL)) (x.kp b o hb e), y.2.1.trans x.os, fun i z e => y.2.2 i z (x.gn i z e), x.memL, x.memI, x.only⟩
theorem Rl.step {h' : Heap} {tk : Nat} (x : Rl L I dom s₀ s) (y : Heap.SameBut I s.heap h') : Rl L I dom s₀ { s with heap := h', toks := tk } := by
  refine ⟨fun b o hb e => y.extBut b o (fun q => ?_) (x.kp b o hb e), x.os, x.gn, x.memL, x.memI, x.only⟩
  rcases x.memI with h | h
  · exact hb (q ▸ h)
  · exact absurd (Heap.lt_size e) (Nat.not_lt.mpr (q ▸ h))
theorem FS.mv {j : Nat} {ρ' : Rho} (x : FS L I l hb vs kk j ρ s) (hI : I ≠ L) (hl : l ≠ L) (y : Mv L s s') (g : GR L hb ρ' s') : FS L I l hb vs kk j ρ' s' := ⟨g, x.it.at fun o e => y.1 _ o hI e, y.1 _ _ hl x.ls⟩
/-- at a yield -/
theorem yp_now {j : Nat} {i : Int} {r : List Int} {t : Tok} {lv : List Value} {k : Resume → Sem PySem.Fin} {c : Code} {p : Pos} {fs : List Frame} (x : FS L I l hb vs kk j ρ s) (y : Rl L I dom s₀ s)
    (h : Yl G0 w A hb (vput (fun _ => none) l (lstO vs kk)) r (vOf [I, L] s.heap) (End.susp (.int i t) false lv k c p fs).genState) : YP G0 w A hb (vput (fun _ => none) l (lstO vs kk)) i r dom s₀ (.susp (.int i t) false lv k c p fs) s := by
  obtain ⟨oI, eI, cI, dI⟩ := id x.it
  obtain ⟨m, ⟨oL, es, ep, eL, dL, rL⟩, _⟩ := x.gr.ns
  refine ⟨t, lv, k, c, p, fs, _, rfl, h, fun b o e => (vOf_some.mp e).2, fun b o e ov q => ?_, fun b o e => ?_, fun b hb => ?_, y.kp, y.os, y.gn, x.gr.bare⟩
  · obtain ⟨hm, e'⟩ := vOf_some.mp e
    rcases List.mem_cons.mp hm with rfl | hm
    · rw [eI] at e'; cases e'; rw [dI] at q; cases q
    · rcases List.mem_cons.mp hm with rfl | hm
      · rw [eL] at e'; cases e'; rw [dL] at q; cases q
      · cases hm
  · obtain ⟨hm, e⟩ := vOf_some.mp e
    rcases List.mem_cons.mp hm with rfl | hm
    · exact y.memI
    · rcases List.mem_cons.mp hm with rfl | hm
      · exact .inl y.memL
      · cases hm
  · rcases y.only b hb with rfl | rfl
    · exact ⟨oI, vOf_some.mpr ⟨by simp, eI⟩⟩
    · exact ⟨oL, vOf_some.mpr ⟨by simp, eL⟩⟩
/-- woken again -/
theorem fs_wake {j : Nat} (x : FS L I l hb vs kk j ρ s) (kb : Kp hb s'.heap) (hu : VIn (vput (fun _ => none) l (lstO vs kk)) s'.heap) (hv : VIn (vOf [I, L] s.heap) s'.heap) (hbare : AllBare s'.gens) : FS L I l hb vs kk j ρ s' ∧ Rl L I [I, L] s' s' := by
  obtain ⟨m, hm, hr⟩ := x.gr.ns
  refine ⟨⟨⟨⟨m, hm.at' fun o e => hv _ _ (vOf_some.mpr ⟨by simp, e⟩), hr⟩, kb, hbare⟩, x.it.at fun o e => hv _ _ (vOf_some.mpr ⟨by simp, e⟩), hu _ _ (vput_at ..)⟩, ⟨fun _ _ _ e => e, rfl, fun _ _ e => e, by simp, .inl (by simp), fun b hb => ?_⟩⟩
  simpa using hb
theorem dom_iff {j : Nat} (x : FS L I l hb vs kk j ρ s) (b : Addr) : b ∈ [I, L] ↔ ∃ o, vOf [I, L] s.heap b = some o := by
  obtain ⟨oI, eI, cI, dI⟩ := id x.it
  obtain ⟨m, ⟨oL, es, ep, eL, dL, rL⟩, _⟩ := x.gr.ns
  refine ⟨fun hm => ?_, fun ⟨o, e⟩ => (vOf_some.mp e).1⟩
  rcases List.mem_cons.mp hm with rfl | hm'
  · exact ⟨oI, vOf_some.mpr ⟨hm, eI⟩⟩
  · rcases List.mem_cons.mp hm' with rfl | hm'
    · exact ⟨oL, vOf_some.mpr ⟨hm, eL⟩⟩
    · cases hm'
/-- a value of its own, a test, a store -/
theorem gr_eval {A' : Around} {n : Nat} {e : Expr} {i : Int} {Q : Value → Shared → Prop} {E : Value → Shared → Prop} (hs : G0.Std w hb) (hL : hb.get? L = none) (R : Room A' n) (x : GR L hb ρ s) (hl : ∀ y d, ρ y = some d → (scopeAt 9).names.lookup y = some .local) (hf : Flat ρ)
    (h : EX G0 n (scopeAt 9) ρ none e (.int i)) (q : ∀ t s', GR L hb ρ s' → Mv L s s' → Q (.int i t) s') : wpAny (model G0.prog w) A' (eval e (gEnv L cd)) Q E s :=
  h (gK w A' L cd s) rfl R (gr_on hs hL x) _ _ _ _ (gr_st x) fun v s' g' T _ r => by
    obtain ⟨t, rfl⟩ := Rd.int_iff.mp r
    obtain ⟨h1, h2⟩ := gr_back hL x hl hf T
    exact q t s' h1 h2
theorem gr_test {A' : Around} {n : Nat} {e : Expr} {b : Bool} {Q : Bool → Shared → Prop} {E : Value → Shared → Prop} (hs : G0.Std w hb) (hL : hb.get? L = none) (R : Room A' n) (x : GR L hb ρ s) (hl : ∀ y d, ρ y = some d → (scopeAt 9).names.lookup y = some .local) (hf : Flat ρ)
    (h : TX G0 n (scopeAt 9) ρ none e b) (q : ∀ s', GR L hb ρ s' → Mv L s s' → Q b s') : wpAny (model G0.prog w) A' (isTrue e (gEnv L cd) (eval e (gEnv L cd))) Q E s :=
  h (gK w A' L cd s) rfl R (gr_on hs hL x) _ _ _ _ (gr_st x) fun s' g' T _ => by
    obtain ⟨h1, h2⟩ := gr_back hL x hl hf T
    exact q s' h1 h2
theorem gr_exec {A' : Around} {n : Nat} {st : Stmt} {ρ' : Rho} {Q : Flow → Shared → Prop} {E : Value → Shared → Prop} (hs : G0.Std w hb) (hL : hb.get? L = none) (R : Room A' n) (x : GR L hb ρ s) (hl : ∀ y d, ρ' y = some d → (scopeAt 9).names.lookup y = some .local) (hf : Flat ρ')
    (h : S1 G0 n (scopeAt 9) ρ none st (fun fl ρ1 ow1 => fl = .next ∧ ρ1 = ρ' ∧ ow1 = none)) (q : ∀ s', GR L hb ρ' s' → Mv L s s' → Q .next s') : wpAny (model G0.prog w) A' (exec st (gEnv L cd)) Q E s :=
  h (gK w A' L cd s) rfl R (gr_on hs hL x) gr_ce _ _ _ _ (gr_st x) fun f fl ρ1 ow1 s' g' p T _ r => by
    obtain ⟨rfl, rfl, rfl⟩ := p
    have e : f = .next := r
    subst e
    obtain ⟨h1, h2⟩ := gr_back hL x hl hf T
    exact q s' h1 h2
theorem gr_assign {A' : Around} {n : Nat} {t : Expr} {ρ' : Rho} {i : Int} {tk : Tok} {Q : Unit → Shared → Prop} {E : Value → Shared → Prop} (hL : hb.get? L = none) (R : Room A' n) (x : GR L hb ρ s) (hl : ∀ y d, ρ' y = some d → (scopeAt 9).names.lookup y = some .local) (hf : Flat ρ')
    (h : AT G0 n (scopeAt 9) t (.int i) ρ none ρ') (q : ∀ s', GR L hb ρ' s' → Mv L s s' → Q () s') : wpAny (model G0.prog w) A' (assign t (gEnv L cd) (.int i tk)) Q E s :=
  h (gK w A' L cd s) rfl R gr_ce _ _ _ _ _ (gr_st x) (Rd.mkInt _ _) fun s' g' T _ => by
    obtain ⟨h1, h2⟩ := gr_back hL x hl hf T
    exact q s' h1 h2
end
end Mine
namespace Mine
section
variable {w : World} {A : Around} {L I l : Addr} {cd : Value} {hb : Heap} {vs : List Value} {kk : Nat} {n : Nat}
/-- the ground of a generator's run -/
structure Gy (w : World) (A : Around) (L I l : Addr) (hb : Heap) (n : Nat) : Prop where
  std : G0.Std w hb
  hL : hb.get? L = none
  IL : I ≠ L
  lL : l ≠ L
  lI : l ≠ I
  iI : hb.get? I = none
  room : Room A (n + 1)
noncomputable abbrev cF (L : Addr) (cd : Value) : Code := .func (bodyAt 9) (gEnv L cd)
noncomputable abbrev cFor (L I : Addr) (cd : Value) : Code := .forLoop giTgt (.ref I) giBody [] (gEnv L cd)
noncomputable abbrev cWh (L : Addr) (cd : Value) : Code := .whileLoop giTest giLoop [] (gEnv L cd)
theorem room_f (R : Room A (n + 1)) : Room (A.in1.over (cF L cd) []) 0 := ⟨R.1, by have := R.2; show A.depth + 0 + 1 + 0 < _; omega, by have := R.3; show A.units + 1 + 0 + 3 + 8 * 0 + 8 < _; omega⟩
theorem room_for {k lv p} (R : Room A (n + 1)) : Room (A.in1.over (cFor L I cd) [.ret k none false lv (cF L cd) p []]) 0 := ⟨R.1, by have := R.2; show A.depth + 1 + 0 + 0 < _; omega, by have := R.3; show A.units + 1 + 3 + 0 + 8 * 0 + 8 < _; omega⟩
theorem room_wh {k lv p k' lv' p'} (R : Room A (n + 1)) : Room (A.in1.over (cWh L cd) [.ret k' none false lv' (cFor L I cd) p' [], .ret k none false lv (cF L cd) p []]) 0 := ⟨R.1, by have := R.2; show A.depth + 1 + 0 + 0 < _; omega, by have := R.3; show A.units + 1 + 3 + 0 + 8 * 0 + 8 < _; omega⟩
theorem flat_ints {iv lv : Option Int} : Flat (gρ (iv.map .int) (lv.map .int)) := gρ_flat (fun d h => by
  cases iv with
  | none => cases h
  | some i => exact .inl ⟨i, (Option.some.inj h).symm⟩) (fun d h => by
  cases lv with
  | none => cases h
  | some i => exact .inl ⟨i, (Option.some.inj h).symm⟩)
abbrev uOf (l : Addr) (vs : List Value) (kk : Nat) : View := vput (fun _ => none) l (lstO vs kk)
/-- while True: yield last_interval -/
theorem gi_while {st iv : Int} {j : Nat} {k lv p k' lv' p'} (Y : Gy w A L I l hb n) : ∀ (r : Nat) (s₀ s : Shared) (dom : List Addr), FS L I l hb vs kk j (gρ (some (.int iv)) (some (.int st))) s → Rl L I dom s₀ s →
    Sg G0.prog w A.in1 (cWh L cd) ((model G0.prog w).den (cWh L cd)) [.ret k' none false lv' (cFor L I cd) p' [], .ret k none false lv (cF L cd) p []] s (YP G0 w A hb (uOf l vs kk) st (List.replicate r st) dom s₀)
  | r, s₀, s, dom, x, y => by
    have fl : Flat (gρ (some (.int iv)) (some (.int st))) := flat_ints (iv := some iv) (lv := some st)
    refine sx_whileLoop (gr_test Y.std Y.hL (room_wh Y.room) x.gr gρ_loc fl TX.trueC fun s1 g1 m1 => ⟨rfl, fun K H gd lvv hgd hK => ?_⟩)
    have x1 := x.mv Y.IL Y.lL m1 g1
    have y1 := y.mv m1
    refine sx_execs_cons (sx_yield (e := .Name (Str.ofString "last_interval") _) rfl hgd rfl ?_)
    refine gr_eval Y.std Y.hL (room_wh Y.room) x1.gr gρ_loc fl (EX.loc rfl rfl rfl rfl) fun t s2 g2 m2 kc lc pc hkc => ?_
    have x2 := x1.mv Y.IL Y.lL m2 g2
    refine yp_now x2 (y1.mv m2) ?_
    match r with
    | 0 => exact trivial
    | r + 1 =>
      refine yl_of Y.std (by have := Y.room.depth; omega) (dom_iff x2) (.inr ⟨_, _, _, _, rfl, rfl⟩) fun s3 kb hu hv hbare => ?_
      obtain ⟨x3, y3⟩ := fs_wake x2 kb hu hv hbare
      rw [← hkc]
      show Sg G0.prog w A.in1 _ (K .next) _ s3 _
      rw [hK]
      exact sx_again rfl (gi_while Y r s3 s3 _ x3 y3)
/-- one more number of the list: 0 -/
theorem gi_zero {st : Int} {iv : Option Int} {j : Nat} {k lv p} {t0 : Tok} (Y : Gy w A L I l hb n) (hv : vs.toArray[j]? = some (.int 0 t0)) (r : Nat) (s₀ s : Shared) (dom : List Addr) (x : FS L I l hb vs kk j (gρ (iv.map .int) (some (.int st))) s) (y : Rl L I dom s₀ s) :
    Sg G0.prog w A.in1 (cFor L I cd) ((model G0.prog w).den (cFor L I cd)) [.ret k none false lv (cF L cd) p []] s (YP G0 w A hb (uOf l vs kk) st (List.replicate r st) dom s₀) := by
  have R := room_for (L := L) (I := I) (cd := cd) (k := k) (lv := lv) (p := p) Y.room
  have fl : Flat (gρ (some (.int 0)) (some (.int st))) := flat_ints (iv := some 0) (lv := some st)
  refine sx_forLoop (fun _ => rfl) (wpAny_pyNext_list_item x.it (isList_of x.ls) hv fun h' hit hs => ⟨_, rfl, ?_⟩)
  have kp : ∀ b o, b ≠ I → s.heap.get? b = some o → h'.get? b = some o := fun b o hb e => hs.extBut b o hb e
  have g0 : GR L hb (gρ (iv.map .int) (some (.int st))) { s with heap := h' } := by
    obtain ⟨m, hm, hr⟩ := x.gr.ns
    exact ⟨⟨m, hm.sameBut hs (Ne.symm Y.IL), hr⟩, fun b o e => kp b o (fun q => by rw [q, Y.iI] at e; cases e) (x.gr.kb b o e), x.gr.bare⟩
  refine gr_assign Y.hL R g0 gρ_loc fl (by rw [← gρ_iv (iv := iv.map .int)]; exact AT.name (Stor.loc rfl rfl) trivial) fun s1 g1 m1 K H gd lvv hgd hK => ?_
  have x1 : FS L I l hb vs kk (j + 1) (gρ (some (.int 0)) (some (.int st))) s1 := ⟨g1, hit.at fun o e => m1.1 _ o Y.IL e, m1.1 _ _ Y.lL (kp _ _ Y.lI x.ls)⟩
  have y1 : Rl L I dom s₀ s1 := (Rl.step (tk := s.toks) y hs).mv m1
  refine sx_execs_cons (sx_If (b := false) (gr_test Y.std Y.hL R x1.gr gρ_loc fl (TX.eqI (EX.loc rfl rfl rfl rfl) (EX.glob g_char rfl rfl rfl)) fun s2 g2 m2 => ⟨rfl, ?_⟩))
  have x2 := x1.mv Y.IL Y.lL m2 g2
  have y2 := y1.mv m2
  show Sg G0.prog w A.in1 _ ((execs (giBody.drop 1) (gEnv L cd)).wrap _ _ _ _) _ _ _
  refine sx_execs_cons (sx_If (b := true) (gr_test Y.std Y.hL R x2.gr gρ_loc fl (TX.eqI (EX.loc rfl rfl rfl rfl) EX.int) fun s3 g3 m3 => ⟨rfl, ?_⟩))
  have x3 := x2.mv Y.IL Y.lL m3 g3
  have y3 := y2.mv m3
  refine sx_execs_cons (sx_If (b := false) (gr_test Y.std Y.hL R x3.gr gρ_loc fl (TX.isNoneI (EX.loc rfl rfl rfl rfl) EX.noneC) fun s4 g4 m4 => ⟨rfl, ?_⟩))
  have x4 := x3.mv Y.IL Y.lL m4 g4
  have y4 := y3.mv m4
  refine sx_execs_cons (sx_While hgd fun k' l' p' => ?_)
  exact gi_while Y r s₀ s4 dom x4 y4
/-- .. and another -/
theorem gi_item {iv i' : Int} {lst : Option D} {ivo : Option Int} {j : Nat} {k lv p} {t0 : Tok} {r : List Int} (Y : Gy w A L I l hb n) (hfl : ∀ d, lst = some d → (∃ i, d = .int i) ∨ d = .none) (hv : vs.toArray[j]? = some (.int iv t0)) (h0 : iv ≠ 0) (h127 : iv ≠ 127) (s₀ s : Shared) (dom : List Addr) (x : FS L I l hb vs kk j (gρ (ivo.map .int) lst) s) (y : Rl L I dom s₀ s)
    (nxt : ∀ s₀ s : Shared, FS L I l hb vs kk (j + 1) (gρ ((some iv).map .int) (some (.int iv))) s → Rl L I [I, L] s₀ s → Sg G0.prog w A.in1 (cFor L I cd) ((model G0.prog w).den (cFor L I cd)) [.ret k none false lv (cF L cd) p []] s (YP G0 w A hb (uOf l vs kk) i' r [I, L] s₀)) :
    Sg G0.prog w A.in1 (cFor L I cd) ((model G0.prog w).den (cFor L I cd)) [.ret k none false lv (cF L cd) p []] s (YP G0 w A hb (uOf l vs kk) iv (i' :: r) dom s₀) := by
  have R := room_for (L := L) (I := I) (cd := cd) (k := k) (lv := lv) (p := p) Y.room
  have fl : Flat (gρ (some (.int iv)) lst) := gρ_flat (fun d h => .inl ⟨iv, (Option.some.inj h).symm⟩) hfl
  refine sx_forLoop (fun _ => rfl) (wpAny_pyNext_list_item x.it (isList_of x.ls) hv fun h' hit hs => ⟨_, rfl, ?_⟩)
  have kp : ∀ b o, b ≠ I → s.heap.get? b = some o → h'.get? b = some o := fun b o hb e => hs.extBut b o hb e
  have g0 : GR L hb (gρ (ivo.map .int) lst) { s with heap := h' } := by
    obtain ⟨m, hm, hr⟩ := x.gr.ns
    exact ⟨⟨m, hm.sameBut hs (Ne.symm Y.IL), hr⟩, fun b o e => kp b o (fun q => by rw [q, Y.iI] at e; cases e) (x.gr.kb b o e), x.gr.bare⟩
  refine gr_assign Y.hL R g0 gρ_loc fl (by rw [← gρ_iv (iv := ivo.map .int)]; exact AT.name (Stor.loc rfl rfl) trivial) fun s1 g1 m1 K H gd lvv hgd hK => ?_
  have x1 : FS L I l hb vs kk (j + 1) (gρ (some (.int iv)) lst) s1 := ⟨g1, hit.at fun o e => m1.1 _ o Y.IL e, m1.1 _ _ Y.lL (kp _ _ Y.lI x.ls)⟩
  have y1 : Rl L I dom s₀ s1 := (Rl.step (tk := s.toks) y hs).mv m1
  have e1 : (iv == 127) = false := by simpa using h127
  have e0 : (iv == 0) = false := by simpa using h0
  refine sx_execs_cons (sx_If (b := false) (gr_test Y.std Y.hL R x1.gr gρ_loc fl (TX.eqI (EX.loc rfl rfl rfl rfl) (EX.glob g_char rfl rfl rfl)) fun s2 g2 m2 => ⟨e1, ?_⟩))
  have x2 := x1.mv Y.IL Y.lL m2 g2
  have y2 := y1.mv m2
  show Sg G0.prog w A.in1 _ ((execs (giBody.drop 1) (gEnv L cd)).wrap _ _ _ _) _ _ _
  refine sx_execs_cons (sx_If (b := false) (gr_test Y.std Y.hL R x2.gr gρ_loc fl (TX.eqI (EX.loc rfl rfl rfl rfl) EX.int) fun s3 g3 m3 => ⟨e0, ?_⟩))
  have x3 := x2.mv Y.IL Y.lL m3 g3
  have y3 := y2.mv m3
  show Sg G0.prog w A.in1 _ ((execs (giBody.drop 2) (gEnv L cd)).wrap _ _ _ _) _ _ _
  refine sx_execs_cons (sx_yield rfl hgd rfl ?_)
  refine gr_eval Y.std Y.hL R x3.gr gρ_loc fl (EX.loc rfl rfl rfl rfl) fun t s4 g4 m4 kc lc pc hkc => ?_
  have x4 := x3.mv Y.IL Y.lL m4 g4
  refine yp_now x4 (y3.mv m4) ?_
  refine yl_of Y.std (by have := Y.room.depth; omega) (dom_iff x4) (.inr ⟨_, _, _, _, rfl, rfl⟩) fun s5 kb hu hv5 hbare => ?_
  obtain ⟨x5, y5⟩ := fs_wake x4 kb hu hv5 hbare
  rw [← hkc]
  show Sg G0.prog w A.in1 _ ((execs (giBody.drop 3) (gEnv L cd)).wrap _ _ _ _) _ _ _
  have fl2 : Flat (gρ (some (.int iv)) (some (.int iv))) := flat_ints (iv := some iv) (lv := some iv)
  refine sx_execs_cons (sx_plain (gr_exec Y.std Y.hL R x5.gr gρ_loc fl2 (S1.assign (Stor.loc rfl rfl) (EX.loc rfl rfl rfl rfl) ⟨rfl, gρ_lv, rfl⟩ trivial) fun s6 g6 m6 => ?_))
  have x6 := x5.mv Y.IL Y.lL m6 g6
  show Sg G0.prog w A.in1 _ (K .next) _ s6 _
  rw [hK]
  exact sx_again rfl (nxt s5 s6 x6 (y5.mv m6))
end
end Mine
namespace Mine
section
variable {w : World} {A : Around} {L l : Addr} {cd : Value} {hb : Heap} {kk : Nat} {n : Nat} {f st : Int} {t0 t1 t2 : Tok}
theorem gi_start (hs : G0.Std w hb) (hL : hb.get? L = none) (hl : l ≠ L) (R : Room A (n + 1)) (hf : f ≠ 0 ∧ f ≠ 127) (hst : st ≠ 0 ∧ st ≠ 127) (r : Nat) (h0 : Heap) (hn0 : h0.Ns L (fun x => ([(Str.ofString "grouping", Value.ref l)] : List (Str × Value)).reverse.lookup x)) :
    Yl G0 w A hb (uOf l [.int f t0, .int st t1, .int 0 t2] kk) (f :: st :: st :: List.replicate r st) (vOf [L] h0) (.fresh (cF L cd)) := by
  obtain ⟨oL, es, ep, eL, rL⟩ := id hn0
  refine yl_of (dom := [L]) hs (by have := R.depth; omega) (fun b => ⟨fun hm => ⟨oL, vOf_some.mpr ⟨hm, by rw [List.mem_singleton.mp hm]; exact eL⟩⟩, fun ⟨o, e⟩ => (vOf_some.mp e).1⟩) (.inl ⟨rfl, rfl, rfl⟩) fun s kb hu hv hbare => ?_
  have hn : s.heap.Ns L (fun x => ([(Str.ofString "grouping", Value.ref l)] : List (Str × Value)).reverse.lookup x) := hn0.at' fun o e => hv _ _ (vOf_some.mpr ⟨by simp, e⟩)
  have hls : s.heap.get? l = some (lstO [.int f t0, .int st t1, .int 0 t2] kk) := hu _ _ (vput_at ..)
  refine sx_func fun K H gd lv hgd => ?_
  refine sx_execs_cons (sx_plain (wpAny_Assign_Name (wpAny_Constant_none (wpAny_storeName_local (env := gEnv L cd) rfl hn (fun h1 hn1 hs1 => ?_) rfl)) rfl))
  have ls1 : h1.get? l = some (lstO [.int f t0, .int st t1, .int 0 t2] kk) := hs1.extBut _ _ hl hls
  have hL1 := isList_of ls1
  refine sx_execs_cons (sx_For hgd (fun _ => rfl) (wpAny_Name (wpAny_loadName_local (env := gEnv L cd) (v := .ref l) rfl rfl hn1 rfl (wpAny_pyIter_list hL1 fun k lv' p => ?_)) rfl))
  have hsz : h1.objs.size = s.heap.objs.size := hs1.1
  have hLlt : L < h1.objs.size := hn1.lt
  have hllt : l < h1.objs.size := Heap.lt_size ls1
  have Y : Gy w A L h1.objs.size l hb n := ⟨hs, hL, Nat.ne_of_gt hLlt, hl, Nat.ne_of_lt hllt, (by
    cases e : hb.get? h1.objs.size with
    | none => rfl
    | some o => exact absurd (Heap.lt_size (kb _ _ e)) (by rw [hsz]; exact Nat.lt_irrefl _)), R⟩
  have kp : ∀ b o, b ≠ L → s.heap.get? b = some o → h1.get? b = some o := fun b o hb e => hs1.extBut b o hb e
  refine gi_item (ivo := none) (lst := some .none) (j := 0) Y (fun d h => .inr (Option.some.inj h).symm) rfl hf.1 hf.2 s _ [L]
    ⟨⟨⟨_, hn1.push _, fun x d h => ?_⟩, fun b o e => Heap.get?_push_of_some _ (kp b o (fun q => by rw [q, hL] at e; cases e) (kb b o e)), hbare⟩, ⟨_, Heap.get?_push_size _ rfl, rfl, rfl⟩, Heap.get?_push_of_some _ ls1⟩
    ⟨fun b o hb e => Heap.get?_push_of_some _ (kp b o (fun q => hb (by rw [q]; simp)) e), rfl, fun _ _ e => e, by simp, .inr (Nat.le_of_eq hsz.symm), fun b hb => .inr (by simpa using hb)⟩ fun s₀ s1 x1 y1 => ?_
  · unfold gρ at h
    by_cases q : x = Str.ofString "interval"
    · rw [if_pos q] at h; cases h
    · rw [if_neg q] at h
      by_cases q' : x = Str.ofString "last_interval"
      · rw [if_pos q'] at h; cases h
        exact ⟨.none, by rw [if_pos q'], Rd.mkNone⟩
      · rw [if_neg q'] at h; cases h
  refine gi_item (ivo := some f) (j := 1) Y (fun d h => .inl ⟨f, (Option.some.inj h).symm⟩) rfl hst.1 hst.2 s₀ s1 [_, L] x1 y1 fun s₀' s2 x2 y2 => ?_
  exact gi_zero (iv := some st) (j := 2) Y rfl r s₀' s2 [_, L] x2 y2
end
theorem gi_obj : ∀ P : Params, ∃ o pm cd doc params, (G0.KF P).lookup 42 = some o ∧ o.data = .func (docDef (Str.ofString "_grouping_intervals") params (bodyAt 9) (scopeAt 9) pm cd doc) ∧ codeIn (G0.KF P) cd (Str.ofString "_grouping_intervals") = true ∧
    ∀ v : Value, bindArgs (docDef (Str.ofString "_grouping_intervals") params (bodyAt 9) (scopeAt 9) pm cd doc) ⟨[v], []⟩ = pure [(Str.ofString "grouping", v)] :=
  fun P => ⟨_, _, _, _, _, rfl, rfl, rfl, fun v => rfl⟩
section
variable {n : Nat} {S : Scope} {ρ : Rho} {ow : Own}
theorem GX.gi {np pos : Pos} {e : Expr} {f st : Int} {r : Nat} (hx : NX G0 S (Str.ofString "_grouping_intervals") (.ref 42)) (hf : f ≠ 0 ∧ f ≠ 127) (hst : st ≠ 0 ∧ st ≠ 127) (he : EX G0 (n + 1) S ρ ow e (.lst [.int f, .int st, .int 0]))
    (hst1 : ∀ env, starEach [e] env = (false, eval e env) :: starEach [] env := by intro _; rfl) : GX G0 (n + 1) S ρ ow (.Call (.Name (Str.ofString "_grouping_intervals") np) [e] [] pos) (f :: st :: st :: List.replicate r st) := by
  rintro K rfl R Y s g Q E T q
  refine wpAny_Call_NameR (hx K rfl Y _ _ _ _ _ _ _ T ?_)
  refine callWith_K (T.std Y).2 (show keepIn (G0.KF K.w.params) (.ref 42) = true from rfl) (AX.cons he AX.nil hst1 K rfl R Y pos s g _ E T fun vs s1 g1 T1 l1 r1 => ⟨(T1.std Y).2, ?_⟩) (hst1 _) rfl
  obtain ⟨v, r', rfl, k1, r2⟩ := RdL.cons_iff.mp r1
  obtain rfl := RdL.nil_iff.mp r2
  obtain ⟨l, vs, kk, rfl, el, hr⟩ := Rd.lst_iff.mp k1
  obtain ⟨v0, r3, rfl, k2, hr⟩ := RdL.cons_iff.mp hr
  obtain ⟨v1, r4, rfl, k3, hr⟩ := RdL.cons_iff.mp hr
  obtain ⟨v2, r5, rfl, k4, hr⟩ := RdL.cons_iff.mp hr
  obtain rfl := RdL.nil_iff.mp hr
  obtain ⟨t0, rfl⟩ := Rd.int_iff.mp k2
  obtain ⟨t1, rfl⟩ := Rd.int_iff.mp k3
  obtain ⟨t2, rfl⟩ := Rd.int_iff.mp k4
  obtain ⟨⟨mg, mb, t⟩, X⟩ := T1.std Y
  obtain ⟨o, pm, cd, doc, params, e1, e2, e3, e4⟩ := gi_obj K.w.params
  have ho := X _ _ e1
  refine wpAny_call (codeAny_call_generator (by have := R.depth; omega) ho e2 rfl rfl rfl (codeRec_of X e3) ?_)
  rw [show bindArgs (docDef (Str.ofString "_grouping_intervals") params (bodyAt 9) (scopeAt 9) pm cd doc) ⟨[] ++ [Value.ref l], []⟩ = pure [(Str.ofString "grouping", Value.ref l)] from e4 _]
  refine wpAny_pure (wpAny_newFunctionEnv cells9 (fun x hx => by rw [List.mem_singleton.mp hx]; rfl) (fun h₁ hns hsb => ⟨t.nolimit.fresh _ hsb, ?_⟩) rfl)
  obtain ⟨hb0, hs0, hs1⟩ := Y
  have kp : Kp s1.heap h₁ := fun b o e => hsb.extBut b o (Nat.ne_of_lt (Heap.lt_size e)) (Heap.get?_push_of_some _ e)
  have hsz : h₁.objs.size = s1.heap.objs.size + 1 := by rw [hsb.1, Heap.size_push]
  have hbl : hb0.get? s1.heap.objs.size = none := by
    cases e : hb0.get? s1.heap.objs.size with
    | none => rfl
    | some o => exact absurd (Heap.lt_size (T1.keep _ _ (hs1 _ _ e))) (Nat.lt_irrefl _)
  have hll : l < s1.heap.objs.size := Heap.lt_size (T1.vin _ _ el)
  have eC : ∀ b o, vOf [s1.heap.objs.size] h₁ b = some o → b = s1.heap.objs.size ∧ h₁.get? b = some o := fun b o e => ⟨by simpa using (vOf_some.mp e).1, (vOf_some.mp e).2⟩
  refine q _ s1 _ g1 (vOf [s1.heap.objs.size] h₁) (.fresh (cF s1.heap.objs.size cd)) s1.gens.size hb0 (uOf l [.int f t0, .int st t1, .int 0 t2] kk) T1 l1 (fun b o e => Heap.get?_push_of_some _ (kp b o e)) rfl (AllBare.push T1.bare.1 rfl) (fun i y e => ?_) (Nat.le_refl _) (Array.getElem?_push_size ..) ⟨_, _, _, Heap.get?_push_size _ rfl, rfl, rfl, rfl⟩ (by show s1.heap.objs.size ≤ h₁.objs.size; omega) ?_ (fun b o e => Heap.get?_push_of_some _ (eC b o e).2) (fun b o e => Nat.le_of_eq (eC b o e).1.symm) (fun b o e ov qq => ?_) hs1 (fun b o e => ?_) (gi_start (t0 := t0) (t1 := t1) (t2 := t2) hs0 hbl (Nat.ne_of_lt hll) R hf hst r h₁ hns)
  · show (s1.gens.push _)[i]? = some y
    have hi : i < s1.gens.size := by
      cases Nat.lt_or_ge i s1.gens.size with
      | inl h => exact h
      | inr h => rw [Array.getElem?_eq_none h] at e; cases e
    rw [Array.getElem?_push_lt hi]
    rw [Array.getElem?_eq_getElem hi] at e; exact e
  · cases qq : vOf [s1.heap.objs.size] h₁ h₁.objs.size with
    | none => rfl
    | some o => exact absurd (hsz.symm.trans (eC _ _ qq).1) (Nat.succ_ne_self _)
  · obtain ⟨rfl, e'⟩ := eC b o e
    obtain ⟨oL, es, ep, eL, dL, rL⟩ := hns
    rw [eL] at e'; cases e'; rw [dL] at qq; cases qq
  · rcases vput_some e with ⟨rfl, rfl⟩ | ⟨_, e⟩
    · exact el
    · cases e
end
end Mine
namespace Mine
def wordF (p : Int) (t : Str) : Str := Txt.mul sS p ++ t
def markD (home : Int) (t0 t1 : Str) (paint : D) (k : Nat) (wt : Int) : D := .tup [.int (home + 6 * k), .int wt, .str (wordF (home + 6 * k) (if k % 2 = 0 then t0 else t1)), paint]
/-- the marks of one ruler -/
def rulerF (home : Int) (t0 t1 : Str) (paint : D) (top : Int) : List Int → Nat → Int → Option (List D)
  | [], _, _ => none
  | i :: r, k, wt => if top < wt + i then some [] else if 0 ≤ home + 6 * (k : Int) ∧ home + 6 * (k : Int) ≤ 100 then (rulerF home t0 t1 paint top r (k + 1) (wt + i)).map fun l => markD home t0 t1 paint k (wt + i) :: l else none
theorem mul_small : ∀ p : Fin 101, MulOk sS (p.val : Int) ∧ (Txt.mul sS (p.val : Int)).length = p.val := by
  unfold MulOk
  decide +kernel
theorem mulOk_small {p : Int} (h0 : 0 ≤ p) (h1 : p ≤ 100) : MulOk sS p ∧ (Txt.mul sS p).length = p.toNat := by
  have := mul_small ⟨p.toNat, by omega⟩
  have e : ((p.toNat : Nat) : Int) = p := Int.toNat_of_nonneg h0
  simp only [e] at this
  exact this
theorem ruler_obj : FnObj G0 68 (Str.ofString "_law_ruler") [Str.ofString "first", Str.ofString "step", Str.ofString "home", Str.ofString "tails", Str.ofString "paint", Str.ofString "top"] (bodyAt 18) (scopeAt 18) where
  obj := fun P => ⟨_, _, _, _, _, rfl, rfl, rfl, fun vs h => by
    match vs, h with
    | [a, b, c, d, e, f], _ => rfl⟩
  loc := by decide +kernel
  co := rfl
  gen := rfl
  kind := rfl
  cell := by decide +kernel
theorem nx_gi : NX G0 (scopeAt 18) (Str.ofString "_grouping_intervals") (.ref 42) := NX.glob (fun P => rfl) rfl rfl rfl
theorem nx_len18 : NX G0 (scopeAt 18) (Str.ofString "len") (.builtin "len") := NX.blt (fun P => rfl) rfl (by decide) rfl rfl rfl
abbrev sMarks : Str := Str.ofString "marks"
structure RuJ (home : Int) (t0 t1 : Str) (paint : D) (top : Int) (ms : List D) (ρ : Rho) (post : List Int) (ow : Own) : Prop where
  kHome : ρ (Str.ofString "home") = some (.int home)
  kTails : ρ (Str.ofString "tails") = some (.lst [.str t0, .str t1])
  kPaint : ρ (Str.ofString "paint") = some paint
  kTop : ρ (Str.ofString "top") = some (.int top)
  run : ∃ a done wt rest, ow = some (sMarks, a, done) ∧ ρ (Str.ofString "weight") = some (.int wt) ∧ rulerF home t0 t1 paint top post done.length wt = some rest ∧ ms = done ++ rest
set_option maxRecDepth 10000 in
theorem ruler_fn {n : Nat} {first step home top : Int} {t0 t1 : Str} {paint : D} {ms : List D} {r : Nat} (hf : first ≠ 0 ∧ first ≠ 127) (hst : step ≠ 0 ∧ step ≠ 127) (h0 : t0.length ≤ 100) (h1 : t1.length ≤ 100) (hm : ms.length ≤ 1000)
    (hr : rulerF home t0 t1 paint top (first :: step :: step :: List.replicate r step) 0 0 = some ms) : Fn G0 (n + 2) 68 [.int first, .int step, .int home, .lst [.str t0, .str t1], paint, .int top] (.lst ms) := by
  refine Fn.of ruler_obj rfl ?_
  have hz : (1000 : Nat) ≤ sizeLine := by decide
  refine SX.cons (S1.own rfl rfl fun ad => ?_)
  refine SX.cons (S1.assign (Stor.loc rfl rfl) EX.int ?_ (free_of rfl))
  refine SX.cons (S1.forGen (GX.gi (r := r) nx_gi hf hst (EX.list (AX.cons (EX.loc rfl rfl rfl rfl) (AX.cons (EX.loc rfl rfl rfl rfl) (AX.cons EX.int AX.nil))) (show 3 ≤ sizeLine by decide)))
    (fun pre ρ1 ow1 => ∃ post, (first :: step :: step :: List.replicate r step) = pre ++ post ∧ RuJ home t0 t1 paint top ms ρ1 post ow1)
    ⟨_, rfl, rfl, rfl, rfl, rfl, ad, [], 0, ms, rfl, rfl, hr, rfl⟩ ?_ ?_)
  · rintro pre i post ρ1 ow1 hv ⟨post', hv', j⟩
    have : post' = i :: post := by
      have := hv'.symm.trans hv
      exact List.append_cancel_left this
    subst this
    obtain ⟨a, done, wt, rest, rfl, hw, hrun, hms⟩ := j.run
    refine ⟨_, AT.name (Stor.loc rfl rfl) (free_of rfl), ?_⟩
    refine SX.cons (S1.assign (Stor.loc rfl rfl) (EX.addI (EX.loc (show upd ρ1 _ _ (Str.ofString "weight") = some (.int wt) from hw) rfl rfl rfl) (EX.loc rfl rfl rfl rfl)) ?_ (free_of rfl))
    unfold rulerF at hrun
    refine SX.cons (S1.ite (TX.gtI (EX.loc rfl rfl rfl rfl) (EX.loc (show upd (upd ρ1 _ _) _ _ (Str.ofString "top") = some (.int top) from j.kTop) rfl rfl rfl)) (fun c => ?_) (fun c => SX.nil ?_))
    · refine SX.cons (S1.brk ?_)
      have c' : top < wt + i := by simpa using c
      rw [if_pos c'] at hrun
      cases hrun
      rw [List.append_nil] at hms
      subst hms
      refine SX.freeze rfl ?_
      exact SX.cons (S1.ret (EX.loc rfl rfl rfl rfl) (Or.inl rfl))
    have c' : ¬ top < wt + i := by simpa using c
    rw [if_neg c'] at hrun
    by_cases hp : 0 ≤ home + 6 * (done.length : Int) ∧ home + 6 * (done.length : Int) ≤ 100
    · rw [if_pos hp] at hrun
      cases hnx : rulerF home t0 t1 paint top post (done.length + 1) (wt + i) with
      | none => rw [hnx] at hrun; cases hrun
      | some l =>
        rw [hnx] at hrun
        have hrest : rest = markD home t0 t1 paint done.length (wt + i) :: l := (Option.some.inj hrun).symm
        have hdl : done.length ≤ 1000 := by
          have := congrArg List.length hms
          rw [List.length_append] at this; omega
        have hlt : (done.length : Int) < 2 ^ 63 := by omega
        obtain ⟨mo, ml⟩ := mulOk_small hp.1 hp.2
        refine SX.cons (S1.assign (Stor.loc rfl rfl) (EX.addI (EX.loc (show upd (upd ρ1 _ _) _ _ (Str.ofString "home") = some (.int home) from j.kHome) rfl rfl rfl) (EX.mulI EX.int (EX.lenOwn nx_len18 rfl rfl rfl hlt) (IntMulOk.of_left (by decide)))) ?_ (free_of rfl))
        have htail : EX G0 (n + 1) (scopeAt 18) (upd (upd (upd ρ1 (Str.ofString "size") (.int i)) (Str.ofString "weight") (.int (wt + i))) (Str.ofString "place") (.int (home + 6 * (done.length : Int)))) (some (sMarks, a, done)) (.Name (Str.ofString "tails") default) (.lst [.str t0, .str t1]) := EX.loc (show upd (upd (upd ρ1 _ _) _ _) _ _ (Str.ofString "tails") = _ from j.kTails) rfl rfl rfl
        have hit : [D.str t0, D.str t1][(((done.length : Int).fmod 2)).toNat]? = some (.str (if done.length % 2 = 0 then t0 else t1)) := by
          have e : ((done.length : Int).fmod 2) = ((done.length % 2 : Nat) : Int) := by
            rw [Int.fmod_eq_emod_of_nonneg _ (by decide)]; omega
          rw [e, Int.toNat_natCast]
          have h2 : done.length % 2 < 2 := Nat.mod_lt _ (by decide)
          generalize done.length % 2 = q at h2
          match q, h2 with
          | 0, _ => rfl
          | 1, _ => rfl
        have hm0 : 0 ≤ (done.length : Int).fmod 2 := by rw [Int.fmod_eq_emod_of_nonneg _ (by decide)]; omega
        have hm1 : (done.length : Int).fmod 2 < 2 ^ 63 := by rw [Int.fmod_eq_emod_of_nonneg _ (by decide)]; omega
        refine SX.cons (S1.append rfl rfl rfl (EX.tuple (AX.cons (EX.loc rfl rfl rfl rfl) (AX.cons (EX.loc rfl rfl rfl rfl) (AX.cons (EX.addS (EX.mulS EX.str (EX.loc rfl rfl rfl rfl) mo) (EX.itemL (EX.loc (show upd (upd (upd ρ1 _ _) _ _) _ _ (Str.ofString "tails") = _ from j.kTails) rfl rfl rfl) (EX.modI (EX.lenOwn nx_len18 rfl rfl rfl hlt) EX.int (by decide)) hm0 hm1 hit) (by
          rw [show (Str.ofString "s") = sS from rfl, ml]
          have : (if done.length % 2 = 0 then t0 else t1).length ≤ 100 := by split <;> assumption
          omega)) (AX.cons (EX.loc (show upd (upd (upd ρ1 _ _) _ _) _ _ (Str.ofString "paint") = _ from j.kPaint) rfl rfl rfl) AX.nil)))) (show 4 ≤ sizeLine by decide)) (by omega) ?_ (hq4 := fun K hK => by unfold interactive; rw [show K.env.scope = scopeAt 18 from hK]; rfl))
        refine SX.nil ⟨post, by rw [hv]; simp, j.kHome, j.kTails, j.kPaint, j.kTop, a, done ++ [markD home t0 t1 paint done.length (wt + i)], wt + i, l, rfl, rfl, by rw [List.length_append]; exact hnx, by rw [hms, hrest]; simp⟩
    · rw [if_neg hp] at hrun; cases hrun
  · rintro ρ1 ow1 ⟨post, hv, j⟩
    have : post = [] := by
      have h := congrArg List.length hv
      rw [List.length_append] at h
      exact List.eq_nil_of_length_eq_zero (by omega)
    subst this
    obtain ⟨a, done, wt, rest, rfl, hw, hrun, hms⟩ := j.run
    unfold rulerF at hrun
    cases hrun
end Mine
namespace Mine
section
variable {G : Gd} {n : Nat} {S : Scope} {ρ : Rho} {ow : Own}
theorem S1.imp {st : Stmt} {P P' : Pst} (h : S1 G n S ρ ow st P) (hp : ∀ fl ρ' ow', P fl ρ' ow' → P' fl ρ' ow') : S1 G n S ρ ow st P' := fun K hS R Y C s g Q E T q =>
  h K hS R Y C s g Q E T fun f fl ρ' ow' s' g' p => q f fl ρ' ow' s' g' (hp _ _ _ p)
theorem SX.imp {b : List Stmt} {P P' : Pst} (h : SX G n S ρ ow b P) (hp : ∀ fl ρ' ow', P fl ρ' ow' → P' fl ρ' ow') : SX G n S ρ ow b P' := fun K hS R Y C s g Q E T q =>
  h K hS R Y C s g Q E T fun f fl ρ' ow' s' g' p => q f fl ρ' ow' s' g' (hp _ _ _ p)
/-- one statement, then the rest -/
theorem SX.step {st : Stmt} {rest : List Stmt} {P : Pst} (I : Rho → Prop) (h : S1 G n S ρ ow st (fun fl ρ' ow' => fl = .next ∧ ow' = none ∧ I ρ')) (hr : ∀ ρ', I ρ' → SX G n S ρ' none rest P) : SX G n S ρ ow (st :: rest) P := by
  refine SX.cons (h.imp fun fl ρ' ow' p => ?_)
  obtain ⟨rfl, rfl, hi⟩ := p
  exact hr ρ' hi
theorem S1.assignE {x : Str} {p pos : Pos} {e : Expr} {d : D} {P : Pst} (hs : Stor G S x) (h : EX G n S ρ ow e d) (p' : P .next (upd ρ x d) ow) (hf : Free ow x) (hw : ∀ env : Env, env.scope = S → swapsWith e (some (.Name x p)) pos.line env = pure false) : S1 G n S ρ ow (.Assign [.Name x p] e pos) P := by
  rintro K rfl R Y C s g Q E T q
  exact wpAny_Assign_Name (h K rfl R Y _ _ _ _ T fun v s1 g1 T1 l1 r1 => hs K rfl C _ _ _ _ _ _ _ _ T1 hf r1 fun s2 T2 => q _ _ _ _ _ _ p' T2 l1 rfl) (hw _ rfl)
/-- loops over data of a kind -/
theorem map_split {α : Type} {f : α → D} {xs pre post : List α} {d : D} {post' : List D} (h : xs.map f = pre.map f ++ d :: post') (hx : xs = pre ++ post) : ∃ x r, post = x :: r ∧ d = f x := by
  subst hx
  rw [List.map_append, List.append_cancel_left_eq] at h
  cases post with
  | nil => cases h
  | cons x r =>
    rw [List.map_cons] at h
    exact ⟨x, r, rfl, (List.cons.inj h).1.symm⟩
theorem S1.forListT {α : Type} {f : α → D} {t it : Expr} {b : List Stmt} {pos : Pos} {xs : List α} {P : Pst} (hi : EX G n S ρ ow it (.lst (xs.map f))) (J : List α → Rho → Own → Prop) (h0 : J [] ρ ow)
    (turn : ∀ pre x post ρ1 ow1, xs = pre ++ x :: post → J pre ρ1 ow1 → ∃ ρ2, AT G n S t (f x) ρ1 ow1 ρ2 ∧ SX G n S ρ2 ow1 b (fun fl ρ3 ow3 => match fl with
      | .next => J (pre ++ [x]) ρ3 ow3
      | .cont => J (pre ++ [x]) ρ3 ow3
      | .brk => P .next ρ3 ow3
      | .ret r => P (.ret r) ρ3 ow3))
    (done : ∀ ρ1 ow1, J xs ρ1 ow1 → P .next ρ1 ow1) (ht : (∀ i v, letOwnedTupleGo t i v = pure ()) ∨ ∃ es k p, t = .Tuple es k p) (hs : ∀ env x, foldedSetIterable it env x = pure x := by intro _ _; rfl) : S1 G n S ρ ow (.For t it b [] pos) P := by
  refine S1.forList hi (fun pre' ρ1 ow1 => ∃ pre post, xs = pre ++ post ∧ pre' = pre.map f ∧ J pre ρ1 ow1) ⟨[], xs, rfl, rfl, h0⟩ ?_ ?_ ht hs
  · rintro pre' d post' ρ1 ow1 hd ⟨pre, post, hx, rfl, hJ⟩
    obtain ⟨x, r, rfl, rfl⟩ := map_split hd hx
    obtain ⟨ρ2, hA, hB⟩ := turn pre x r ρ1 ow1 hx hJ
    refine ⟨ρ2, hA, hB.imp fun fl ρ3 ow3 p => ?_⟩
    cases fl with
    | next => exact ⟨pre ++ [x], r, by rw [hx]; simp, by simp, p⟩
    | cont => exact ⟨pre ++ [x], r, by rw [hx]; simp, by simp, p⟩
    | brk => exact p
    | ret _ => exact p
  · rintro ρ1 ow1 ⟨pre, post, hx, he, hJ⟩
    have hl := congrArg List.length he
    rw [List.length_map, List.length_map, hx, List.length_append] at hl
    have : post = [] := List.eq_nil_of_length_eq_zero (by omega)
    rw [this, List.append_nil] at hx
    exact done ρ1 ow1 (hx ▸ hJ)
theorem S1.forRangeT {t it : Expr} {b : List Stmt} {pos : Pos} {a e c : Int} {N : Nat} {P : Pst} (hi : RX G n S ρ ow it a e c) (hsm : Builtin.Range.small a e c = true) (hN : Builtin.Range.rangeSize a e c = (N : Int)) (J : Nat → Rho → Own → Prop) (h0 : J 0 ρ ow)
    (turn : ∀ k ρ1 ow1, k < N → J k ρ1 ow1 → ∃ ρ2, AT G n S t (.int (a + (k : Int) * c)) ρ1 ow1 ρ2 ∧ SX G n S ρ2 ow1 b (fun fl ρ3 ow3 => match fl with
      | .next => J (k + 1) ρ3 ow3
      | .cont => J (k + 1) ρ3 ow3
      | .brk => P .next ρ3 ow3
      | .ret r => P (.ret r) ρ3 ow3))
    (done : ∀ ρ1 ow1, J N ρ1 ow1 → P .next ρ1 ow1) (ht : ∀ i v, letOwnedTupleGo t i v = pure () := by intro _ _; rfl) (hs : ∀ env x, foldedSetIterable it env x = pure x := by intro _ _; rfl) : S1 G n S ρ ow (.For t it b [] pos) P := by
  refine S1.forRange hi hsm hN (fun pre ρ1 ow1 => J pre.length ρ1 ow1) h0 ?_ ?_ ht hs
  · intro pre d post ρ1 ow1 hd hJ
    obtain ⟨rfl, hlt, _⟩ := rangeL_split hd
    obtain ⟨ρ2, hA, hB⟩ := turn _ ρ1 ow1 hlt hJ
    refine ⟨ρ2, hA, hB.imp fun fl ρ3 ow3 p => ?_⟩
    cases fl with
    | next => show J (pre ++ [_]).length _ _; rw [List.length_append]; exact p
    | cont => show J (pre ++ [_]).length _ _; rw [List.length_append]; exact p
    | brk => exact p
    | ret _ => exact p
  · intro ρ1 ow1 hJ
    have : (rangeL a c N).length = N := by simp [rangeL]
    rw [this] at hJ
    exact done _ _ hJ
end
/-! the words: a place tells its mark's word -/
def sT : Str := Str.ofString "t"
def sTT : Str := Str.ofString "T"
def tailOf (p : Nat) : Str :=
  if p % 6 = 2 ∨ p % 6 = 4 ∨ p % 6 = 5 then (if p / 6 % 2 = 0 then sT else sTT) else Str.empty
def wordOf (p : Nat) : Str := if p = 0 then Str.empty else wordF (p : Int) (tailOf p)
def placesL : List Nat := [2, 4, 5, 6, 7, 8, 9, 10, 11, 12, 13, 14, 15, 16, 17, 18, 19, 20, 21]
def dueP (e p : Nat) : Int := dueF ((p : Int) - (e : Int)) (wordOf e) (wordOf p)
def okPair (e p : Nat) : Bool := match levF (wordOf e) (wordOf p) 12 with
  | some told => if dueP e p ≤ 12 then decide (told = dueP e p) else decide (12 < told)
  | none => false
/-- are two marks far enough apart? -/
def kindP (p : Nat) : Nat := if p % 6 = 2 ∨ p % 6 = 4 ∨ p % 6 = 5 then 1 + p / 6 % 2 else 0
def farP (e p : Nat) : Bool := if kindP p = 0 then 6 < p - e else if kindP e = 0 then 6 ≤ p - e else if kindP e = kindP p then 6 < p - e else 6 ≤ p - e
/-! the same, by code points: quick for the kernel -/
theorem item_beq (a b : Str) (i j : Int) : (Txt.item a i == Txt.item b j) = Nat.beq ((Txt.charAt a i).getD 0) ((Txt.charAt b j).getD 0) := by
  rw [Bool.eq_iff_iff, beq_iff_eq, Nat.beq_eq]
  unfold Txt.item
  constructor
  · intro h
    have h1 := congrArg (fun x : Str => x.cps[0]?) h
    simpa using h1
  · intro h
    rw [h]
def preQ : Nat → Str → Str → Int → Option Int
  | 0, _, _, _ => none
  | k + 1, a, b, j =>
    if (((Txt.slice a (some j) none).length : Int) != 0 && (((Txt.slice b (some j) none).length : Int) != 0)) = true then
      (if 0 ≤ j ∧ j < a.length ∧ j < b.length then (if Nat.beq ((Txt.charAt a j).getD 0) ((Txt.charAt b j).getD 0) = true then preQ k a b (j + 1) else some j) else none)
    else some j
theorem preF_Q : ∀ (k : Nat) (a b : Str) (j : Int), preF k a b j = preQ k a b j
  | 0, _, _, _ => rfl
  | k + 1, a, b, j => by
    unfold preF preQ
    rw [item_beq, preF_Q k a b (j + 1)]
def postQ : Nat → Str → Str → Int → Option Int
  | 0, _, _, _ => none
  | k + 1, a, b, p =>
    if (((tail0 a p).length : Int) != 0 && (((tail0 b p).length : Int) != 0)) = true then
      (if p ≤ 0 ∧ -(a.length : Int) ≤ p - 1 ∧ -(b.length : Int) ≤ p - 1 then (if Nat.beq ((Txt.charAt a (p - 1)).getD 0) ((Txt.charAt b (p - 1)).getD 0) = true then postQ k a b (p - 1) else some p) else none)
    else some p
theorem postF_Q : ∀ (k : Nat) (a b : Str) (p : Int), postF k a b p = postQ k a b p
  | 0, _, _, _ => rfl
  | k + 1, a, b, p => by
    unfold postF postQ
    rw [item_beq, postF_Q k a b (p - 1)]
def levQ (a b : Str) (mc : Int) : Option Int :=
  if (a == b) = true then some 0 else
  if 1000 < a.length ∨ 1000 < b.length then none else
  match preQ 100 a b 0 with
  | none => none
  | some j => match postQ 100 (Txt.slice a (some j) none) (Txt.slice b (some j) none) 0 with
    | none => none
    | some p => levT (tail0 (Txt.slice a (some j) none) p) (tail0 (Txt.slice b (some j) none) p) mc
theorem levF_Q (a b : Str) (mc : Int) : levF a b mc = levQ a b mc := by
  unfold levF levQ
  by_cases h : (a == b) = true
  · rw [if_pos h, if_pos h]
  · rw [if_neg h, if_neg h]
    by_cases h2 : 1000 < a.length ∨ 1000 < b.length
    · rw [if_pos h2, if_pos h2]
    · rw [if_neg h2, if_neg h2, preF_Q]
      cases preQ 100 a b 0 with
      | none => rfl
      | some j =>
        dsimp only
        rw [postF_Q]
        all_goals (cases postQ 100 (Txt.slice a (some j) none) (Txt.slice b (some j) none) 0 <;> rfl)
def okPairQ (e p : Nat) : Bool := match levQ (wordOf e) (wordOf p) 12 with
  | some told => if dueP e p ≤ 12 then decide (told = dueP e p) else decide (12 < told)
  | none => false
theorem okPair_Q (e p : Nat) : okPair e p = okPairQ e p := by
  unfold okPair okPairQ
  rw [levF_Q]
def pairsB (e : Nat) : Bool := placesL.all fun p => if e < p ∧ e + p ≤ 21 then okPairQ e p && (farP e p == decide (12 < dueP e p)) else true
theorem pb2 : pairsB 2 = true := by decide +kernel
theorem pb4 : pairsB 4 = true := by decide +kernel
theorem pb5 : pairsB 5 = true := by decide +kernel
theorem pb6 : pairsB 6 = true := by decide +kernel
theorem pb7 : pairsB 7 = true := by decide +kernel
theorem pb8 : pairsB 8 = true := by decide +kernel
theorem pb9 : pairsB 9 = true := by decide +kernel
theorem pb10 : pairsB 10 = true := by decide +kernel
theorem pairs_ok {e p : Nat} (he : e ∈ placesL) (hp : p ∈ placesL) (hlt : e < p) (hs : e + p ≤ 21) : okPair e p = true ∧ farP e p = decide (12 < dueP e p) := by
  have key : pairsB e = true := by
    have h : e ≤ 10 := by omega
    have h' : ∀ e ∈ placesL, e ≤ 10 → pairsB e = true := by
      intro e he h
      simp only [placesL, List.mem_cons, List.not_mem_nil, or_false] at he
      rcases he with rfl | rfl | rfl | rfl | rfl | rfl | rfl | rfl | rfl | rfl | rfl | rfl | rfl | rfl | rfl | rfl | rfl | rfl | rfl
      · exact pb2
      · exact pb4
      · exact pb5
      · exact pb6
      · exact pb7
      · exact pb8
      · exact pb9
      · exact pb10
      · exact absurd h (by decide)
      · exact absurd h (by decide)
      · exact absurd h (by decide)
      · exact absurd h (by decide)
      · exact absurd h (by decide)
      · exact absurd h (by decide)
      · exact absurd h (by decide)
      · exact absurd h (by decide)
      · exact absurd h (by decide)
      · exact absurd h (by decide)
      · exact absurd h (by decide)
    exact h' e he h
  have := List.all_eq_true.mp key p hp
  rw [if_pos ⟨hlt, hs⟩] at this
  simp only [Bool.and_eq_true, beq_iff_eq] at this
  exact ⟨(okPair_Q e p).trans this.1, this.2⟩
theorem words_ok : ∀ p ∈ placesL, 0 < (wordOf p).length ∧ (wordOf p).length ≤ 100 := by decide +kernel
end Mine
namespace Mine
noncomputable abbrev SL : Scope := scopeAt 20
theorem law_obj : FnObjC G0 80 (Str.ofString "law") (Str.ofString "script") (bodyAt 20) SL where
  obj := fun P => ⟨_, _, _, _, _, rfl, rfl, rfl, fun v => rfl⟩
  loc := rfl
  co := rfl
  gen := rfl
  kind := rfl
theorem nl_list : NX G0 SL (Str.ofString "list") (.type "list") := NX.blt (fun P => rfl) rfl (by decide) rfl rfl rfl
theorem nl_sum : NX G0 SL (Str.ofString "sum") (.builtin "sum") := NX.blt (fun P => rfl) rfl (by decide) rfl rfl rfl
theorem nl_range : NX G0 SL (Str.ofString "range") (.type "range") := NX.blt (fun P => rfl) rfl (by decide) rfl rfl rfl
theorem nl_round : NX G0 SL (Str.ofString "round") (.builtin "round") := NX.blt (fun P => rfl) rfl (by decide) rfl rfl rfl
theorem nl_sorted : NX G0 SL (Str.ofString "sorted") (.builtin "sorted") := NX.blt (fun P => rfl) rfl (by decide) rfl rfl rfl
theorem nl_ruler : NX G0 SL (Str.ofString "_law_ruler") (.ref 68) := NX.glob (fun P => rfl) rfl rfl rfl
theorem nl_paint : NX G0 SL (Str.ofString "_law_paint") (.ref 61) := NX.glob (fun P => rfl) rfl rfl rfl
theorem nl_hls : NX G0 SL (Str.ofString "rgb_to_hls") (.ref 21) := NX.glob (fun P => rfl) rfl rfl rfl
theorem nl_due : NX G0 SL (Str.ofString "_law_due") (.ref 75) := NX.glob (fun P => rfl) rfl rfl rfl
theorem nl_lev : NX G0 SL (Str.ofString "_levenshtein_distance") (.ref 56) := NX.glob (fun P => rfl) rfl rfl rfl
/-- what the law has drawn -/
structure LF (l0 l1 l2 st tp c0 c1 c2 : Int) (ρ : Rho) : Prop where
  lows : ρ (Str.ofString "lows") = some (.lst [.int l0, .int l1, .int l2])
  step : ρ (Str.ofString "step") = some (.int st)
  top : ρ (Str.ofString "top") = some (.int tp)
  corners : ρ (Str.ofString "corners") = some (.lst [.int c0, .int c1, .int c2])
  paints : ρ (Str.ofString "paints") = some (.lst [.lst (paintOf c0), .lst (paintOf c1), .lst (paintOf c2)])
def mine : List Str := [Str.ofString "lows", Str.ofString "step", Str.ofString "top", Str.ofString "corners", Str.ofString "paints"]
theorem LF.upd {l0 l1 l2 st tp c0 c1 c2 : Int} {ρ : Rho} {x : Str} {d : D} (h : LF l0 l1 l2 st tp c0 c1 c2 ρ) (hx : mine.all (fun y => !(y == x)) = true) : LF l0 l1 l2 st tp c0 c1 c2 (Mine.upd ρ x d) := by
  have ne : ∀ y ∈ mine, y ≠ x := fun y hy q => by
    have := List.all_eq_true.mp hx y hy
    rw [q] at this
    simp at this
  have up : ∀ y ∈ mine, Mine.upd ρ x d y = ρ y := fun y hy => by unfold Mine.upd; rw [if_neg (ne y hy)]
  exact ⟨(up _ (by simp [mine])).trans h.lows, (up _ (by simp [mine])).trans h.step, (up _ (by simp [mine])).trans h.top, (up _ (by simp [mine])).trans h.corners, (up _ (by simp [mine])).trans h.paints⟩
def sMk : Str := Str.ofString "marks"
section
variable {n : Nat} {l0 l1 l2 st tp c0 c1 c2 : Int} {ρ : Rho}
def catF (rs : List (List D)) : Nat → List D
  | 0 => []
  | k + 1 => catF rs k ++ rs.getD k []
theorem catF_len {rs : List (List D)} (h : ∀ r ∈ rs, r.length ≤ 10) : ∀ k, (catF rs k).length ≤ 10 * k
  | 0 => by simp [catF]
  | k + 1 => by
    have := catF_len h k
    unfold catF
    rw [List.length_append]
    have h2 : (rs.getD k []).length ≤ 10 := by
      rw [List.getD_eq_getElem?_getD]
      cases e : rs[k]? with
      | none => simp
      | some r => exact h r (List.mem_of_getElem? e)
    omega
abbrev rv (f st : Int) : List Int := f :: st :: st :: List.replicate 3 st
/-- the three unmixed rulers -/
theorem seg_rulers {rs : List (List D)} (F : LF l0 l1 l2 st tp c0 c1 c2 ρ) (hm : ρ sMk = some (.lst [])) (hl : ∀ f ∈ [l0, l1, l2, st], f ≠ 0 ∧ f ≠ 127) (hs : ∀ r ∈ rs, r.length ≤ 10)
    (h0 : rulerF 2 sT sTT (.lst (paintOf c0)) tp (rv l0 st) 0 0 = some (rs.getD 0 [])) (h1 : rulerF 4 sT sTT (.lst (paintOf c1)) tp (rv l1 st) 0 0 = some (rs.getD 1 [])) (h2 : rulerF 5 sT sTT (.lst (paintOf c2)) tp (rv l2 st) 0 0 = some (rs.getD 2 [])) :
    S1 G0 (n + 3) SL ρ none (nth (bodyAt 20) 7) (fun fl ρ' ow' => fl = .next ∧ ow' = none ∧ LF l0 l1 l2 st tp c0 c1 c2 ρ' ∧ ρ' sMk = some (.lst (catF rs 3))) := by
  have hz : (1000 : Nat) ≤ sizeLine := by decide
  have cl := catF_len hs
  have len : ∀ k, (rs.getD k []).length ≤ 10 := fun k => by
    rw [List.getD_eq_getElem?_getD]
    cases e : rs[k]? with
    | none => simp
    | some r => exact hs r (List.mem_of_getElem? e)
  refine S1.forRangeT (N := 3) (RX.one nl_range EX.int) (by decide +kernel) (by decide +kernel) (fun k ρ1 ow1 => ow1 = none ∧ LF l0 l1 l2 st tp c0 c1 c2 ρ1 ∧ ρ1 sMk = some (.lst (catF rs k))) ⟨rfl, F, hm⟩ ?_ (fun ρ1 ow1 h => ⟨rfl, h⟩)
  rintro k ρ1 ow1 hk ⟨rfl, F1, m1⟩
  refine ⟨_, AT.name (Stor.cell rfl rfl) trivial, ?_⟩
  have hst := hl st (by simp)
  have : k = 0 ∨ k = 1 ∨ k = 2 := by omega
  have fin : ∀ (ρ2 : Rho) (e : Expr) (f h : Int) (c : Int), LF l0 l1 l2 st tp c0 c1 c2 ρ2 → ρ2 sMk = some (.lst (catF rs k)) → True := fun _ _ _ _ _ _ _ => trivial
  rcases this with rfl | rfl | rfl
  · refine SX.cons (S1.assign (Stor.loc rfl rfl) (EX.addL (EX.loc m1 rfl rfl rfl) (EX.callF nl_ruler (fun P => rfl) (AX.cons (EX.itemL (EX.loc (show Mine.upd ρ1 _ _ _ = _ from F1.lows) rfl rfl rfl) (EX.cell rfl rfl rfl rfl) (by decide) (by decide) rfl) (AX.cons (EX.loc (show Mine.upd ρ1 _ _ _ = _ from F1.step) rfl rfl rfl) (AX.cons (EX.itemL (EX.list (AX.cons EX.int (AX.cons EX.int (AX.cons EX.int AX.nil))) (by decide)) (EX.cell rfl rfl rfl rfl) (by decide) (by decide) rfl) (AX.cons (EX.list (AX.cons EX.str (AX.cons EX.str AX.nil)) (by decide)) (AX.cons (EX.itemL (EX.cell (show Mine.upd ρ1 _ _ _ = _ from F1.paints) rfl rfl rfl) (EX.cell rfl rfl rfl rfl) (by decide) (by decide) rfl) (AX.cons (EX.cell (show Mine.upd ρ1 _ _ _ = _ from F1.top) rfl rfl rfl) AX.nil)))))) (ruler_fn (r := 3) (hl l0 (by simp)) hst (by decide) (by decide) (by have := len 0; omega) h0)) (by have := cl 0; have := len 0; omega)) (SX.nil ?_) trivial)
    exact ⟨rfl, (F1.upd (by decide +kernel)).upd (by decide +kernel), rfl⟩
  · refine SX.cons (S1.assign (Stor.loc rfl rfl) (EX.addL (EX.loc m1 rfl rfl rfl) (EX.callF nl_ruler (fun P => rfl) (AX.cons (EX.itemL (EX.loc (show Mine.upd ρ1 _ _ _ = _ from F1.lows) rfl rfl rfl) (EX.cell rfl rfl rfl rfl) (by decide) (by decide) rfl) (AX.cons (EX.loc (show Mine.upd ρ1 _ _ _ = _ from F1.step) rfl rfl rfl) (AX.cons (EX.itemL (EX.list (AX.cons EX.int (AX.cons EX.int (AX.cons EX.int AX.nil))) (by decide)) (EX.cell rfl rfl rfl rfl) (by decide) (by decide) rfl) (AX.cons (EX.list (AX.cons EX.str (AX.cons EX.str AX.nil)) (by decide)) (AX.cons (EX.itemL (EX.cell (show Mine.upd ρ1 _ _ _ = _ from F1.paints) rfl rfl rfl) (EX.cell rfl rfl rfl rfl) (by decide) (by decide) rfl) (AX.cons (EX.cell (show Mine.upd ρ1 _ _ _ = _ from F1.top) rfl rfl rfl) AX.nil)))))) (ruler_fn (r := 3) (hl l1 (by simp)) hst (by decide) (by decide) (by have := len 1; omega) h1)) (by have := cl 1; have := len 1; omega)) (SX.nil ?_) trivial)
    exact ⟨rfl, (F1.upd (by decide +kernel)).upd (by decide +kernel), rfl⟩
  · refine SX.cons (S1.assign (Stor.loc rfl rfl) (EX.addL (EX.loc m1 rfl rfl rfl) (EX.callF nl_ruler (fun P => rfl) (AX.cons (EX.itemL (EX.loc (show Mine.upd ρ1 _ _ _ = _ from F1.lows) rfl rfl rfl) (EX.cell rfl rfl rfl rfl) (by decide) (by decide) rfl) (AX.cons (EX.loc (show Mine.upd ρ1 _ _ _ = _ from F1.step) rfl rfl rfl) (AX.cons (EX.itemL (EX.list (AX.cons EX.int (AX.cons EX.int (AX.cons EX.int AX.nil))) (by decide)) (EX.cell rfl rfl rfl rfl) (by decide) (by decide) rfl) (AX.cons (EX.list (AX.cons EX.str (AX.cons EX.str AX.nil)) (by decide)) (AX.cons (EX.itemL (EX.cell (show Mine.upd ρ1 _ _ _ = _ from F1.paints) rfl rfl rfl) (EX.cell rfl rfl rfl rfl) (by decide) (by decide) rfl) (AX.cons (EX.cell (show Mine.upd ρ1 _ _ _ = _ from F1.top) rfl rfl rfl) AX.nil)))))) (ruler_fn (r := 3) (hl l2 (by simp)) hst (by decide) (by decide) (by have := len 2; omega) h2)) (by have := cl 2; have := len 2; omega)) (SX.nil ?_) trivial)
    exact ⟨rfl, (F1.upd (by decide +kernel)).upd (by decide +kernel), rfl⟩
end
end Mine
namespace Mine
def paintI : Int → List Int
  | 0 => [1, 0, 0]
  | 1 => [1, 1, 0]
  | 2 => [0, 1, 0]
  | 3 => [0, 1, 1]
  | 4 => [0, 0, 1]
  | _ => [1, 0, 1]
theorem paintOf_I (c : Int) : paintOf c = (paintI c).map .int := by
  unfold paintOf paintI
  split <;> first
    | rfl
    | (split <;> first
        | rfl
        | (rename_i h1 h2 h3 h4 h5; first | exact (h1 rfl).elim | exact (h2 rfl).elim | exact (h3 rfl).elim | exact (h4 rfl).elim | exact (h5 rfl).elim))
theorem paintI_len (c : Int) : (paintI c).length = 3 := by
  unfold paintI
  split <;> rfl
theorem paintI_01 (c : Int) : ∀ x ∈ paintI c, x = 0 ∨ x = 1 := by
  unfold paintI
  split <;> simp
def maxI (a b : Int) : Int := if b > a then b else a
def litF (ca cb : Int) (k : Nat) : UInt64 := Float64.mul 4607182418800017408 (Float64.ofInt (maxI ((paintI ca).getD k 0) ((paintI cb).getD k 0)))
def hueM (ca cb : Int) : UInt64 := Float64.mul (Float64.ofInt 6) (hueF (litF ca cb 0) (litF ca cb 1) (litF ca cb 2))
/-- which corner lies between two -/
def mixOf (ca cb : Int) : Int := if ca + cb = 2 then 1 else if ca + cb = 6 then 3 else 5
theorem mix_ok : ∀ ca ∈ ([0, 2, 4] : List Int), ∀ cb ∈ ([0, 2, 4] : List Int), ca ≠ cb → Flt.maxOfBits [litF ca cb 0, litF ca cb 1, litF ca cb 2] = 4607182418800017408 ∧ Flt.minOfBits [litF ca cb 0, litF ca cb 1, litF ca cb 2] = 0 ∧ okF (hueM ca cb) = true ∧ roundF (hueM ca cb) = mixOf ca cb ∧ mixOf ca cb ∈ ([0, 1, 2, 3, 4, 5] : List Int) := by decide +kernel
noncomputable def mixBody : List Stmt := forBody (nth (bodyAt 20) 8)
noncomputable def lightE : Expr := match nth mixBody 0 with | .Assign _ e _ => e | _ => .Tuple [] 0 default
noncomputable abbrev SLi : Scope := relab (compScope lightE) SL
theorem ni_max : NX G0 SLi (Str.ofString "max") (.builtin "max") := NX.blt (fun P => rfl) rfl (by decide) rfl rfl rfl
def lightFe (ca cb : Int) : D → D
  | .int k => .flt (litF ca cb k.toNat)
  | _ => .none
section
variable {n : Nat} {l0 l1 l2 st tp c0 c1 c2 : Int} {ρ : Rho}
theorem sw_true {elt it t : Expr} {ifs : List Expr} {scope : Scope} {pos px : Pos} {x : Str} {line : Nat} {S : Scope} (h1 : (S.kind.isAnnotationScope) = false) (h2 : S.kind = .function) (h3 : S.names.lookup x = some .local) (h4 : (px.line == pos.line) = true) (h5 : (scope.names.any fun (n, k) => n == x && (k == .local || k == .cell)) = false)
    (env : Env) (h : env.scope = S) : swapsWith (.ListComp elt [⟨t, it, ifs, 0⟩] scope pos) (some (.Name x px)) line env = pure true := by
  show (pure (env.blockKind == .function && env.kindOf x == some .local && px.line == pos.line && !(scope.names.any fun (n, k) => n == x && (k == .local || k == .cell))) : Sem Bool) = pure true
  unfold Env.blockKind Env.kindOf
  rw [h, h1, h2, h3, h4, h5]
  rfl
theorem sw_cell {e : Expr} {x : Str} {px : Pos} {line : Nat} {S : Scope} (h3 : S.names.lookup x = some .cell) (env : Env) (h : env.scope = S) : swapsWith e (some (.Name x px)) line env = pure false := by
  have hk : (env.kindOf x == some .local) = false := by unfold Env.kindOf; rw [h, h3]; rfl
  unfold swapsWith
  cases e <;> first
    | rfl
    | (show (pure (env.blockKind == .function && env.kindOf x == some .local && _ && _) : Sem Bool) = pure false
       rw [hk, Bool.and_false, Bool.false_and, Bool.false_and])
set_option maxHeartbeats 1000000 in
theorem seg_mix1 {ia ib home la lb ca cb : Int} {ms r : List D} (F : LF l0 l1 l2 st tp c0 c1 c2 ρ) (hm : ρ sMk = some (.lst ms)) (e1 : ρ (Str.ofString "one") = some (.int ia)) (e2 : ρ (Str.ofString "two") = some (.int ib)) (e3 : ρ (Str.ofString "home") = some (.int home))
    (a0 : 0 ≤ ia ∧ ia < 3) (b0 : 0 ≤ ib ∧ ib < 3) (hA : [D.lst (paintOf c0), .lst (paintOf c1), .lst (paintOf c2)][ia.toNat]? = some (.lst (paintOf ca))) (hB : [D.lst (paintOf c0), .lst (paintOf c1), .lst (paintOf c2)][ib.toNat]? = some (.lst (paintOf cb)))
    (hLa : [D.int l0, .int l1, .int l2][ia.toNat]? = some (.int la)) (hLb : [D.int l0, .int l1, .int l2][ib.toNat]? = some (.int lb)) (hca : ca ∈ ([0, 2, 4] : List Int)) (hcb : cb ∈ ([0, 2, 4] : List Int)) (hne : ca ≠ cb)
    (hf : la + lb ≠ 0 ∧ la + lb ≠ 127) (hst : st ≠ 0 ∧ st ≠ 127) (hr : rulerF home Str.empty Str.empty (.lst (paintOf (mixOf ca cb))) tp (rv (la + lb) st) 0 0 = some r) (hl : ms.length + r.length ≤ 1000) :
    SX G0 (n + 3) SL ρ none mixBody (fun fl ρ' ow' => fl = .next ∧ ow' = none ∧ LF l0 l1 l2 st tp c0 c1 c2 ρ' ∧ ρ' sMk = some (.lst (ms ++ r))) := by
  have hz : (1000 : Nat) ≤ sizeLine := by decide
  obtain ⟨q1, q2, q3, q4, q5⟩ := mix_ok ca hca cb hcb hne
  have item : ∀ (c : Int) (k : Nat), k < 3 → (paintOf c)[(0 + (k : Int) * 1).toNat]? = some (.int ((paintI c).getD k 0)) := fun c k hk => by
    rw [paintOf_I, List.getElem?_map]
    have e : (0 + (k : Int) * 1).toNat = k := by omega
    rw [e, List.getD_eq_getElem?_getD, List.getElem?_eq_getElem (by rw [paintI_len]; exact hk)]
    rfl
  have small : ∀ (c : Int) (k : Nat), (paintI c).getD k 0 = 0 ∨ (paintI c).getD k 0 = 1 := fun c k => by
    rw [List.getD_eq_getElem?_getD]
    cases e : (paintI c)[k]? with
    | none => exact .inl rfl
    | some x => exact paintI_01 c x (List.mem_of_getElem? e)
  refine SX.cons (S1.assignComp (tb := fun _ => true) (fe := lightFe ca cb) (Stor.loc rfl rfl) (IX.range (N := 3) (RX.one nl_range EX.int) (by decide +kernel) (by decide +kernel)) relab_is rfl (by decide +kernel) (by decide +kernel) (by decide +kernel) (.inl fun _ _ => rfl) (by decide) ?_ (sw_true rfl rfl rfl rfl (by decide +kernel)) ?_)
  · intro d hd
    unfold rangeL at hd
    obtain ⟨k, hk, rfl⟩ := List.mem_map.mp hd
    have hk3 : k < 3 := List.mem_range.mp hk
    refine ⟨_, AT0.name rfl rfl, rfl, fun _ => ?_⟩
    have e : lightFe ca cb (.int (0 + (k : Int) * 1)) = .flt (Float64.mul 4607182418800017408 (Float64.ofInt (if (paintI cb).getD k 0 > (paintI ca).getD k 0 then (paintI cb).getD k 0 else (paintI ca).getD k 0))) := by
      have e : (0 + (k : Int) * 1).toNat = k := by omega
      show D.flt (litF ca cb (0 + (k : Int) * 1).toNat) = _
      unfold litF maxI
      rw [e]
    rw [e]
    refine EX.mulFI EX.flt (EX.callB ni_max (AX.cons (EX.itemL (EX.itemL (EX.cell (show Mine.upd (outer SLi ρ) _ _ _ = _ from F.paints) rfl rfl rfl) (EX.cell (show Mine.upd (outer SLi ρ) _ _ _ = _ from e1) rfl rfl rfl) a0.1 (by omega) hA) (EX.loc rfl rfl rfl rfl) (by omega) (by omega) (item ca k hk3)) (AX.cons (EX.itemL (EX.itemL (EX.cell (show Mine.upd (outer SLi ρ) _ _ _ = _ from F.paints) rfl rfl rfl) (EX.cell (show Mine.upd (outer SLi ρ) _ _ _ = _ from e2) rfl rfl rfl) b0.1 (by omega) hB) (EX.loc rfl rfl rfl rfl) (by omega) (by omega) (item cb k hk3)) AX.nil)) OP.max2) ?_
    rcases small ca k with h1 | h1 <;> rcases small cb k with h2 | h2 <;> rw [h1, h2] <;> decide +kernel
  rw [show compOut (fun _ => true) (lightFe ca cb) (rangeL 0 1 3) = [.flt (litF ca cb 0), .flt (litF ca cb 1), .flt (litF ca cb 2)] by rw [compOut_all]; rfl]
  refine SX.cons (S1.assign (Stor.loc rfl rfl) (EX.itemT (j := 0) (EX.callF nl_hls (fun P => rfl) (AX.cons (EX.itemL (EX.loc rfl rfl rfl rfl) EX.int (by decide) (by decide) rfl) (AX.cons (EX.itemL (EX.loc rfl rfl rfl rfl) EX.int (by decide) (by decide) rfl) (AX.cons (EX.itemL (EX.loc rfl rfl rfl rfl) EX.int (by decide) (by decide) rfl) AX.nil))) (hls_fn q1 q2)) EX.int (by decide) (by decide) rfl rfl) ?_ trivial)
  have hok := q3
  unfold okF at hok
  simp only [Bool.and_eq_true, Bool.not_eq_true'] at hok
  refine SX.cons (S1.assign (Stor.loc rfl rfl) (EX.callF nl_paint (fun P => rfl) (AX.cons (EX.callB nl_round (AX.cons (EX.mulIF EX.int (EX.loc rfl rfl rfl rfl) (by decide +kernel)) AX.nil) (OP.round hok.1.1 hok.1.2 hok.2)) AX.nil) (by
    show Fn G0 (n + 3) 61 [.int (roundF (hueM ca cb))] (.lst (paintOf (mixOf ca cb)))
    rw [q4]
    exact paint_at q5)) ?_ trivial)
  refine SX.cons (S1.assign (Stor.loc rfl rfl) (EX.addL (EX.loc (show Mine.upd (Mine.upd (Mine.upd ρ _ _) _ _) _ _ _ = _ from hm) rfl rfl rfl) (EX.callF nl_ruler (fun P => rfl) (AX.cons (EX.addI (EX.itemL (EX.loc (show Mine.upd (Mine.upd (Mine.upd ρ _ _) _ _) _ _ _ = _ from F.lows) rfl rfl rfl) (EX.cell (show Mine.upd (Mine.upd (Mine.upd ρ _ _) _ _) _ _ _ = _ from e1) rfl rfl rfl) a0.1 (by omega) hLa) (EX.itemL (EX.loc (show Mine.upd (Mine.upd (Mine.upd ρ _ _) _ _) _ _ _ = _ from F.lows) rfl rfl rfl) (EX.cell (show Mine.upd (Mine.upd (Mine.upd ρ _ _) _ _) _ _ _ = _ from e2) rfl rfl rfl) b0.1 (by omega) hLb)) (AX.cons (EX.loc (show Mine.upd (Mine.upd (Mine.upd ρ _ _) _ _) _ _ _ = _ from F.step) rfl rfl rfl) (AX.cons (EX.loc (show Mine.upd (Mine.upd (Mine.upd ρ _ _) _ _) _ _ _ = _ from e3) rfl rfl rfl) (AX.cons (EX.list (AX.cons EX.str (AX.cons EX.str AX.nil)) (by decide)) (AX.cons (EX.loc rfl rfl rfl rfl) (AX.cons (EX.cell (show Mine.upd (Mine.upd (Mine.upd ρ _ _) _ _) _ _ _ = _ from F.top) rfl rfl rfl) AX.nil)))))) (ruler_fn (r := 3) hf hst (by decide) (by decide) (by omega) hr)) (by omega)) (SX.nil ⟨rfl, rfl, ?_, rfl⟩) trivial)
  exact (((F.upd (by decide +kernel)).upd (by decide +kernel)).upd (by decide +kernel)).upd (by decide +kernel)
end
end Mine
namespace Mine
section
variable {G : Gd} {n : Nat} {S : Scope}
theorem AT.tup {xs : List (Str × Pos)} {es : List Expr} {k : Nat} {pos : Pos} {ds : List D} {ρ : Rho} {ow : Own} (he : ∀ env, (assignEach es env).map (·.2) = xs.map fun x => assign (.Name x.1 x.2) env) (he1 : ∀ env, (assignEach es env).findIdx? (·.1) = none) (hl : xs.length = ds.length) (hs : ∀ x ∈ xs, Stor G S x.1 ∧ Free ow x.1) :
    AT G n S (.Tuple es k pos) (.tup ds) ρ ow (updL ρ (xs.map (·.1)) ds) := by
  rintro K rfl R C s g v Q E T r q
  obtain ⟨a, vs, m, rfl, e, hr⟩ := Rd.tup_iff.mp r
  have hlen : (assignEach es K.env).length = vs.toArray.size := by
    have := congrArg List.length (he K.env)
    rw [List.length_map, List.length_map] at this
    rw [this, hl, List.size_toArray, hr.length]
  refine PySem.wpAny_assign_Tuple R.handled (isTuple_of (T.vin _ _ e)) hlen (he1 _) fun h' hx => ?_
  have kp : Kp s.heap h' := fun b o eb => hx b o (Nat.ne_of_lt (Heap.lt_size eb)) eb
  have T1 : St K ρ ow { s with heap := h' } g := T.same kp rfl T.bare
  rw [he]
  generalize ({ s with heap := h' } : Shared) = s1 at T1 ⊢
  clear hlen kp hx h' T r e he he1
  induction xs generalizing ds vs ρ s1 with
  | nil =>
    cases ds with
    | nil => rw [RdL.nil_iff.mp hr]; exact wpAny_assignInOrder_none (q _ _ T1 (VLe.refl _))
    | cons _ _ => simp at hl
  | cons x xs ih =>
    cases ds with
    | nil => simp at hl
    | cons d ds =>
      obtain ⟨v, r, rfl, hv, hr'⟩ := RdL.cons_iff.mp hr
      refine wpAny_assignInOrder_more (wpAny_assign_Name ((hs x (.head _)).1 K rfl C _ _ _ _ _ _ _ _ T1 (hs x (.head _)).2 hv fun s2 T2 => ?_))
      exact ih (by simpa using hl) (fun y hy => hs y (.tail _ hy)) q _ hr' s2 T2
theorem AT0.tup {ρ : Rho} {xs : List (Str × Pos)} {es : List Expr} {k : Nat} {pos : Pos} {ds : List D} (he : ∀ env, (assignEach es env).map (·.2) = xs.map fun x => assign (.Name x.1 x.2) env) (he1 : ∀ env, (assignEach es env).findIdx? (·.1) = none) (hl : xs.length = ds.length) (hs : ∀ x ∈ xs, S.names.lookup x.1 = some .local) (hk : S.kind = .function) :
    AT0 G S (.Tuple es k pos) (.tup ds) ρ (updL ρ (xs.map (·.1)) ds) := by
  rintro K rfl R s g v Q E T r q
  obtain ⟨a, vs, m, rfl, e, hr⟩ := Rd.tup_iff.mp r
  have hlen : (assignEach es K.env).length = vs.toArray.size := by
    have := congrArg List.length (he K.env)
    rw [List.length_map, List.length_map] at this
    rw [this, hl, List.size_toArray, hr.length]
  refine PySem.wpAny_assign_Tuple R (isTuple_of (T.vin _ _ e)) hlen (he1 _) fun h' hx => ?_
  have kp : Kp s.heap h' := fun b o eb => hx b o (Nat.ne_of_lt (Heap.lt_size eb)) eb
  have T1 : St K ρ none { s with heap := h' } g := T.same kp rfl T.bare
  rw [he]
  generalize ({ s with heap := h' } : Shared) = s1 at T1 ⊢
  clear hlen kp hx h' T r e he he1
  induction xs generalizing ds vs ρ s1 with
  | nil =>
    cases ds with
    | nil => rw [RdL.nil_iff.mp hr]; exact wpAny_assignInOrder_none (q _ _ T1 (VLe.refl _))
    | cons _ _ => simp at hl
  | cons x xs ih =>
    cases ds with
    | nil => simp at hl
    | cons d ds =>
      obtain ⟨v, r, rfl, hv, hr'⟩ := RdL.cons_iff.mp hr
      refine wpAny_assignInOrder_more (wpAny_assign_Name (store0 (hs x (.head _)) hk T1 hv fun s2 T2 => ?_))
      exact ih (by simpa using hl) (fun y hy => hs y (.tail _ hy)) q _ hr' s2 T2
end
section
variable {n : Nat} {l0 l1 l2 st tp c0 c1 c2 : Int} {ρ : Rho}
def tr3 (x : Int × Int × Int) : D := .tup [.int x.1, .int x.2.1, .int x.2.2]
def mixes : List (Int × Int × Int) := [(0, 1, 6), (0, 2, 7), (1, 2, 9)]
set_option maxHeartbeats 1000000 in
theorem seg_mixed {ms : List D} {rs : List (List D)} (F : LF l0 l1 l2 st tp c0 c1 c2 ρ) (hm : ρ sMk = some (.lst ms)) (hml : ms.length ≤ 30) (hs : ∀ r ∈ rs, r.length ≤ 10)
    (hl : ∀ f ∈ [l0 + l1, l0 + l2, l1 + l2, st], f ≠ 0 ∧ f ≠ 127) (hc : c0 ∈ ([0, 2, 4] : List Int) ∧ c1 ∈ ([0, 2, 4] : List Int) ∧ c2 ∈ ([0, 2, 4] : List Int)) (hne : c0 ≠ c1 ∧ c0 ≠ c2 ∧ c1 ≠ c2)
    (h0 : rulerF 6 Str.empty Str.empty (.lst (paintOf (mixOf c0 c1))) tp (rv (l0 + l1) st) 0 0 = some (rs.getD 0 [])) (h1 : rulerF 7 Str.empty Str.empty (.lst (paintOf (mixOf c0 c2))) tp (rv (l0 + l2) st) 0 0 = some (rs.getD 1 []))
    (h2 : rulerF 9 Str.empty Str.empty (.lst (paintOf (mixOf c1 c2))) tp (rv (l1 + l2) st) 0 0 = some (rs.getD 2 [])) :
    S1 G0 (n + 3) SL ρ none (nth (bodyAt 20) 8) (fun fl ρ' ow' => fl = .next ∧ ow' = none ∧ LF l0 l1 l2 st tp c0 c1 c2 ρ' ∧ ρ' sMk = some (.lst (ms ++ catF rs 3))) := by
  have cl := catF_len hs
  have len : ∀ k, (rs.getD k []).length ≤ 10 := fun k => by
    rw [List.getD_eq_getElem?_getD]
    cases e : rs[k]? with
    | none => simp
    | some r => exact hs r (List.mem_of_getElem? e)
  have hst := hl st (by simp)
  refine S1.forListT (f := tr3) (xs := mixes) (EX.list (AX.cons (EX.tuple (AX.cons EX.int (AX.cons EX.int (AX.cons EX.int AX.nil))) (by decide)) (AX.cons (EX.tuple (AX.cons EX.int (AX.cons EX.int (AX.cons EX.int AX.nil))) (by decide)) (AX.cons (EX.tuple (AX.cons EX.int (AX.cons EX.int (AX.cons EX.int AX.nil))) (by decide)) AX.nil))) (by decide))
    (fun pre ρ1 ow1 => ow1 = none ∧ LF l0 l1 l2 st tp c0 c1 c2 ρ1 ∧ ρ1 sMk = some (.lst (ms ++ catF rs pre.length))) ⟨rfl, F, by rw [hm]; simp [catF]⟩ ?_ (fun ρ1 ow1 h => ⟨rfl, h⟩) (.inr ⟨_, _, _, rfl⟩)
  rintro pre x post ρ1 ow1 hx ⟨rfl, F1, m1⟩
  refine ⟨updL ρ1 [Str.ofString "one", Str.ofString "two", Str.ofString "home"] [.int x.1, .int x.2.1, .int x.2.2], AT.tup (xs := [(Str.ofString "one", _), (Str.ofString "two", _), (Str.ofString "home", _)]) (fun _ => rfl) (fun _ => rfl) rfl fun y hy => ?_, ?_⟩
  · simp only [List.mem_cons, List.not_mem_nil, or_false] at hy
    rcases hy with rfl | rfl | rfl
    · exact ⟨Stor.cell rfl rfl, trivial⟩
    · exact ⟨Stor.cell rfl rfl, trivial⟩
    · exact ⟨Stor.loc rfl rfl, trivial⟩
  have F2 : LF l0 l1 l2 st tp c0 c1 c2 (updL ρ1 [Str.ofString "one", Str.ofString "two", Str.ofString "home"] [.int x.1, .int x.2.1, .int x.2.2]) := ((F1.upd (by decide +kernel)).upd (by decide +kernel)).upd (by decide +kernel)
  have fin : ∀ (k : Nat) (r : List D), pre.length = k → r = rs.getD k [] → ∀ (fl : Fl) (ρ' : Rho) (ow' : Own), (fl = Fl.next ∧ ow' = none ∧ LF l0 l1 l2 st tp c0 c1 c2 ρ' ∧ ρ' sMk = some (D.lst ((ms ++ catF rs pre.length) ++ r))) → (match fl with
      | Fl.next => ow' = none ∧ LF l0 l1 l2 st tp c0 c1 c2 ρ' ∧ ρ' sMk = some (D.lst (ms ++ catF rs (pre ++ [x]).length))
      | Fl.cont => ow' = none ∧ LF l0 l1 l2 st tp c0 c1 c2 ρ' ∧ ρ' sMk = some (D.lst (ms ++ catF rs (pre ++ [x]).length))
      | Fl.brk => Fl.next = Fl.next ∧ ow' = none ∧ LF l0 l1 l2 st tp c0 c1 c2 ρ' ∧ ρ' sMk = some (D.lst (ms ++ catF rs 3))
      | Fl.ret r => Fl.ret r = Fl.next ∧ ow' = none ∧ LF l0 l1 l2 st tp c0 c1 c2 ρ' ∧ ρ' sMk = some (D.lst (ms ++ catF rs 3))) := by
    rintro k r hk rfl fl ρ' ow' ⟨rfl, rfl, h3, h4⟩
    refine ⟨rfl, h3, ?_⟩
    rw [h4, List.length_append, hk]
    show _ = some (D.lst (ms ++ (catF rs k ++ rs.getD k [])))
    rw [List.append_assoc]
  unfold mixes at hx
  match pre, hx with
  | [], hx =>
    obtain ⟨rfl, _⟩ := List.cons.inj hx
    exact (seg_mix1 (ia := 0) (ib := 1) (home := 6) (la := l0) (lb := l1) (ca := c0) (cb := c1) F2 m1 rfl rfl rfl (by decide) (by decide) rfl rfl rfl rfl hc.1 hc.2.1 hne.1 (hl _ (by simp)) hst h0 (by have := cl 0; have := len 0; rw [List.length_append]; show _ + (catF rs 0).length + _ ≤ _; omega)).imp (fin 0 _ rfl rfl)
  | [a], hx =>
    obtain ⟨_, hx1⟩ := List.cons.inj hx
    obtain ⟨rfl, _⟩ := List.cons.inj hx1
    exact (seg_mix1 (ia := 0) (ib := 2) (home := 7) (la := l0) (lb := l2) (ca := c0) (cb := c2) F2 m1 rfl rfl rfl (by decide) (by decide) rfl rfl rfl rfl hc.1 hc.2.2 hne.2.1 (hl _ (by simp)) hst h1 (by have := cl 1; have := len 1; rw [List.length_append]; show _ + (catF rs 1).length + _ ≤ _; omega)).imp (fin 1 _ rfl rfl)
  | [a, b], hx =>
    obtain ⟨_, hx1⟩ := List.cons.inj hx
    obtain ⟨_, hx2⟩ := List.cons.inj hx1
    obtain ⟨rfl, _⟩ := List.cons.inj hx2
    exact (seg_mix1 (ia := 1) (ib := 2) (home := 9) (la := l1) (lb := l2) (ca := c1) (cb := c2) F2 m1 rfl rfl rfl (by decide) (by decide) rfl rfl rfl rfl hc.2.1 hc.2.2 hne.2.2 (hl _ (by simp)) hst h2 (by have := cl 2; have := len 2; rw [List.length_append]; show _ + (catF rs 2).length + _ ≤ _; omega)).imp (fin 2 _ rfl rfl)
  | a :: b :: c :: r, hx =>
    have := congrArg List.length hx
    simp at this
end
end Mine
namespace Mine
abbrev T4 := Nat × Nat × Nat × Nat
abbrev Pt := Nat × Nat × Nat
abbrev Mk := Nat × Nat × Pt
abbrev c4 (t : T4) : Int × Int × Int × Int := ((t.1 : Int), (t.2.1 : Int), (t.2.2.1 : Int), (t.2.2.2 : Int))
abbrev d4 (t : T4) : D := tup4 (c4 t)
abbrev ptD (p : Pt) : D := .lst [.int (p.1 : Int), .int (p.2.1 : Int), .int (p.2.2 : Int)]
def mkD (m : Mk) : D := .tup [.int (m.1 : Int), .int (m.2.1 : Int), .str (wordOf m.1), ptD m.2.2]
def chD (x : Nat × T4) : D := .tup [.int (x.1 : Int), .str (wordOf x.1), d4 x.2]
def add4 (t : T4) (w : Nat) (p : Pt) : T4 := (t.1 + w, t.2.1 + p.1, t.2.2.1 + p.2.1, t.2.2.2 + p.2.2)
def one1 (top : Nat) (m : Mk) (x : Nat × T4) : Option (Nat × T4) :=
  if top < x.2.1 + m.2.1 then none else if 0 < x.1 ∧ farP x.1 m.1 = false then none else some (m.1, add4 x.2 m.2.1 m.2.2)
def chStep (top : Nat) (ch : List (Nat × T4)) (m : Mk) : List (Nat × T4) := ch ++ ch.filterMap (one1 top m)
def chainsF (top : Nat) (ms : List Mk) : List (Nat × T4) := ms.foldl (chStep top) [(0, (0, 0, 0, 0))]
theorem chainsF_snoc {top : Nat} {ms : List Mk} {m : Mk} : chainsF top (ms ++ [m]) = chStep top (chainsF top ms) m := by unfold chainsF; rw [List.foldl_append]; rfl
theorem chainsF_le {top : Nat} : ∀ (post : List Mk) (ch : List (Nat × T4)), ch.length ≤ (post.foldl (chStep top) ch).length
  | [], ch => Nat.le_refl _
  | m :: r, ch => by
    refine Nat.le_trans ?_ (chainsF_le r (chStep top ch m))
    unfold chStep
    rw [List.length_append]; exact Nat.le_add_right _ _
theorem chainsF_pre {top : Nat} {pre post : List Mk} : (chainsF top pre).length ≤ (chainsF top (pre ++ post)).length := by
  unfold chainsF
  rw [List.foldl_append]
  exact chainsF_le _ _
/-- where a row's last mark may lie -/
theorem ends_from {top : Nat} : ∀ (ms don : List Mk) (ch : List (Nat × T4)), (∀ m ∈ ms, m.1 ≤ m.2.1) → (∀ x ∈ ch, x.1 = 0 ∨ (x.1 ∈ don.map (·.1) ∧ x.1 ≤ x.2.1)) → ∀ x ∈ ms.foldl (chStep top) ch, x.1 = 0 ∨ (x.1 ∈ (don ++ ms).map (·.1) ∧ x.1 ≤ x.2.1)
  | [], don, ch, _, h, x, hx => by rw [List.append_nil]; exact h x hx
  | m :: ms, don, ch, hw, h, x, hx => by
    have := ends_from ms (don ++ [m]) (chStep top ch m) (fun y hy => hw y (.tail _ hy)) (fun y hy => ?_) x hx
    · rwa [List.append_assoc] at this
    · unfold chStep at hy
      rcases List.mem_append.mp hy with hy | hy
      · rcases h y hy with h1 | ⟨h1, h2⟩
        · exact .inl h1
        · exact .inr ⟨by rw [List.map_append]; exact List.mem_append_left _ h1, h2⟩
      · obtain ⟨z, hz, e⟩ := List.mem_filterMap.mp hy
        unfold one1 at e
        split at e
        · cases e
        · split at e
          · cases e
          · cases e
            refine .inr ⟨by simp, ?_⟩
            have := hw m (.head _)
            show m.1 ≤ z.2.1 + m.2.1
            omega
theorem ends_ok {top : Nat} {pre : List Mk} (hw : ∀ m ∈ pre, m.1 ≤ m.2.1) : ∀ x ∈ chainsF top pre, x.1 = 0 ∨ (x.1 ∈ pre.map (·.1) ∧ x.1 ≤ x.2.1) := fun x hx =>
  ends_from pre [] _ hw (fun y hy => .inl (by rw [List.mem_singleton.mp hy])) x hx
noncomputable def chBody : List Stmt := forBody (nth (bodyAt 20) 10)
noncomputable def inBody : List Stmt := forBody (nth chBody 1)
noncomputable def endBody : List Stmt := match nth inBody 1 with | .If _ b _ _ => b | _ => []
abbrev sLonger : Str := Str.ofString "longer"
/-- within one mark's turn -/
structure IF (l0 l1 l2 st c0 c1 c2 : Int) (tp : Nat) (m : Mk) (ch : List (Nat × T4)) (ρ : Rho) : Prop where
  lf : LF l0 l1 l2 st (tp : Int) c0 c1 c2 ρ
  place : ρ (Str.ofString "place") = some (.int (m.1 : Int))
  weight : ρ (Str.ofString "weight") = some (.int (m.2.1 : Int))
  word : ρ (Str.ofString "word") = some (.str (wordOf m.1))
  paint : ρ (Str.ofString "paint") = some (ptD m.2.2)
  chains : ρ (Str.ofString "chains") = some (.lst (ch.map chD))
def mineI : List Str := mine ++ [Str.ofString "place", Str.ofString "weight", Str.ofString "word", Str.ofString "paint", Str.ofString "chains"]
theorem IF.upd {l0 l1 l2 st c0 c1 c2 : Int} {tp : Nat} {m : Mk} {ch : List (Nat × T4)} {ρ : Rho} {x : Str} {d : D} (h : IF l0 l1 l2 st c0 c1 c2 tp m ch ρ) (hx : mineI.all (fun y => !(y == x)) = true) : IF l0 l1 l2 st c0 c1 c2 tp m ch (Mine.upd ρ x d) := by
  have ne : ∀ y ∈ mineI, y ≠ x := fun y hy q => by
    have := List.all_eq_true.mp hx y hy
    rw [q] at this
    simp at this
  have up : ∀ y ∈ mineI, Mine.upd ρ x d y = ρ y := fun y hy => by unfold Mine.upd; rw [if_neg (ne y hy)]
  refine ⟨h.lf.upd ?_, (up _ (by simp [mineI])).trans h.place, (up _ (by simp [mineI])).trans h.weight, (up _ (by simp [mineI])).trans h.word, (up _ (by simp [mineI])).trans h.paint, (up _ (by simp [mineI])).trans h.chains⟩
  unfold mineI at hx
  rw [List.all_append, Bool.and_eq_true] at hx
  exact hx.1
end Mine
namespace Mine
section
variable {n : Nat} {l0 l1 l2 st c0 c1 c2 : Int} {tp : Nat} {m : Mk} {ch : List (Nat × T4)} {ρ : Rho} {a : Addr} {don : List D}
/-- the row grows by one mark -/
theorem seg_app {e : Nat} {t : T4} (F : IF l0 l1 l2 st c0 c1 c2 tp m ch ρ) (ht : ρ (Str.ofString "tally") = some (d4 t)) (hz : don.length ≤ 1000) {P : Pst} (hp : P .next ρ (some (sLonger, a, don ++ [chD (m.1, add4 t m.2.1 m.2.2)]))) :
    SX G0 (n + 3) SL ρ (some (sLonger, a, don)) (inBody.drop 2) P := by
  have z : (1000 : Nat) ≤ sizeLine := by decide
  refine SX.cons (S1.append rfl rfl rfl (EX.tuple (AX.cons (EX.loc F.place rfl rfl rfl) (AX.cons (EX.loc F.word rfl rfl rfl) (AX.cons (EX.tuple (AX.cons (EX.addI (EX.itemT (j := 0) (EX.loc ht rfl rfl rfl) EX.int (by decide) (by decide) rfl rfl) (EX.cell F.weight rfl rfl rfl))
    (AX.cons (EX.addI (EX.itemT (j := 1) (EX.loc ht rfl rfl rfl) EX.int (by decide) (by decide) rfl rfl) (EX.itemL (EX.loc F.paint rfl rfl rfl) EX.int (by decide) (by decide) rfl))
    (AX.cons (EX.addI (EX.itemT (j := 2) (EX.loc ht rfl rfl rfl) EX.int (by decide) (by decide) rfl rfl) (EX.itemL (EX.loc F.paint rfl rfl rfl) EX.int (by decide) (by decide) rfl))
    (AX.cons (EX.addI (EX.itemT (j := 3) (EX.loc ht rfl rfl rfl) EX.int (by decide) (by decide) rfl rfl) (EX.itemL (EX.loc F.paint rfl rfl rfl) EX.int (by decide) (by decide) rfl)) AX.nil)))) (by show 4 ≤ sizeLine; omega)) AX.nil))) (by show 3 ≤ sizeLine; omega)) (by omega) (SX.nil hp) (hq4 := fun K hK => by unfold interactive; rw [show K.env.scope = SL from hK]; rfl))
set_option maxHeartbeats 1000000 in
/-- one row, one mark -/
theorem seg_one {x : Nat × T4} (F : IF l0 l1 l2 st c0 c1 c2 tp m ch ρ) (he : ρ (Str.ofString "end") = some (.int (x.1 : Int))) (hl : ρ (Str.ofString "last") = some (.str (wordOf x.1))) (ht : ρ (Str.ofString "tally") = some (d4 x.2)) (hz : don.length ≤ 1000)
    (htp : tp ≤ 21) (hm : m.1 ∈ placesL) (hw : m.1 ≤ m.2.1) (hx : x.1 = 0 ∨ (x.1 ∈ placesL ∧ x.1 < m.1 ∧ x.1 ≤ x.2.1)) {P : Pst}
    (hp : ∀ fl ρ', (fl = .next ∨ fl = .cont) → IF l0 l1 l2 st c0 c1 c2 tp m ch ρ' → P fl ρ' (some (sLonger, a, don ++ ((one1 tp m x).toList.map chD)))) :
    SX G0 (n + 3) SL ρ (some (sLonger, a, don)) inBody P := by
  have cast : ((x.2.1 : Int) + (m.2.1 : Int)) = ((x.2.1 + m.2.1 : Nat) : Int) := by omega
  refine SX.cons (S1.ite (TX.gtI (EX.addI (EX.itemT (j := 0) (EX.loc ht rfl rfl rfl) EX.int (by decide) (by decide) rfl rfl) (EX.cell F.weight rfl rfl rfl)) (EX.cell F.lf.top rfl rfl rfl)) (fun c => ?_) (fun c => SX.nil ?_))
  · have c' : tp < x.2.1 + m.2.1 := by
      have : (tp : Int) < (x.2.1 : Int) + (m.2.1 : Int) := by simpa using c
      omega
    refine SX.cons (S1.cont ?_)
    have := hp .cont ρ (.inr rfl) F
    unfold one1 at this
    rw [if_pos c'] at this
    simpa using this
  have c' : ¬ tp < x.2.1 + m.2.1 := by
    have : ¬ (tp : Int) < (x.2.1 : Int) + (m.2.1 : Int) := by simpa using c
    omega
  refine SX.cons (S1.ite (TX.gtI (EX.loc he rfl rfl rfl) EX.int) (fun c => ?_) (fun c => SX.nil ?_))
  · have e0 : 0 < x.1 := by
      have : (0 : Int) < (x.1 : Int) := by simpa using c
      omega
    obtain ⟨hxp, hlt, hle⟩ : x.1 ∈ placesL ∧ x.1 < m.1 ∧ x.1 ≤ x.2.1 := by
      rcases hx with h | h
      · omega
      · exact h
    obtain ⟨pk, pf⟩ := pairs_ok hxp hm hlt (by omega)
    unfold okPair at pk
    cases hlev : levF (wordOf x.1) (wordOf m.1) 12 with
    | none => rw [hlev] at pk; cases pk
    | some told =>
      rw [hlev] at pk
      dsimp only at pk
      refine SX.cons (S1.assign (Stor.loc rfl rfl) (EX.callF nl_due (fun P => rfl) (AX.cons (EX.subI (EX.loc F.place rfl rfl rfl) (EX.loc he rfl rfl rfl)) (AX.cons (EX.loc hl rfl rfl rfl) (AX.cons (EX.loc F.word rfl rfl rfl) AX.nil))) (due_fn (words_ok _ hxp).1 (words_ok _ hm).1 (IntMulOk.of_left (by decide)))) ?_ (free_of rfl))
      have F1 := F.upd (x := Str.ofString "due") (d := .int (dueP x.1 m.1)) (by decide +kernel)
      refine SX.cons (S1.assign (Stor.loc rfl rfl) (EX.callF nl_lev (fun P => rfl) (AX.cons (EX.loc (show Mine.upd ρ _ _ _ = _ from hl) rfl rfl rfl) (AX.cons (EX.loc F1.word rfl rfl rfl) (AX.cons EX.int AX.nil))) (lev_fn hlev)) ?_ (free_of rfl))
      have F2 := F1.upd (x := Str.ofString "told") (d := .int told) (by decide +kernel)
      have bad1 : ¬ ((decide (dueP x.1 m.1 ≤ 12) && (told != dueP x.1 m.1)) = true) := fun h => by
        simp only [Bool.and_eq_true, decide_eq_true_eq, bne_iff_ne] at h
        rw [if_pos h.1] at pk
        exact h.2 (by simpa using pk)
      have bad2 : ¬ ((decide (12 < dueP x.1 m.1) && decide (told ≤ 12)) = true) := fun h => by
        simp only [Bool.and_eq_true, decide_eq_true_eq] at h
        rw [if_neg (by omega)] at pk
        have : 12 < told := by simpa using pk
        omega
      refine SX.cons (S1.ite (TX.bool (CX.and (TX.leI (EX.loc rfl rfl rfl rfl) EX.int) fun _ => CX.and1 (TX.neI (EX.loc rfl rfl rfl rfl) (EX.loc rfl rfl rfl rfl)))) (fun c => absurd c bad1) (fun _ => SX.nil ?_))
      refine SX.cons (S1.ite (TX.bool (CX.and (TX.gtI (EX.loc rfl rfl rfl rfl) EX.int) fun _ => CX.and1 (TX.leI (EX.loc rfl rfl rfl rfl) EX.int))) (fun c => absurd c bad2) (fun _ => SX.nil ?_))
      refine SX.cons (S1.ite (TX.leI (EX.loc rfl rfl rfl rfl) EX.int) (fun c => ?_) (fun c => SX.nil (SX.nil ?_)))
      · refine SX.cons (S1.cont ?_)
        have ct : told ≤ 12 := by simpa using c
        have hf : farP x.1 m.1 = false := by
          rw [pf, decide_eq_false]
          intro h
          rw [if_neg (by omega)] at pk
          have : 12 < told := by simpa using pk
          omega
        have := hp .cont _ (.inr rfl) F2
        unfold one1 at this
        rw [if_neg c', if_pos ⟨e0, hf⟩] at this
        rw [show don ++ (Option.toList none).map chD = don by simp] at this
        exact this
      · have ct : ¬ told ≤ 12 := by simpa using c
        have hf : farP x.1 m.1 = true := by
          rw [pf, decide_eq_true]
          by_cases h : dueP x.1 m.1 ≤ 12
          · rw [if_pos h] at pk
            have : told = dueP x.1 m.1 := by simpa using pk
            omega
          · omega
        refine seg_app (e := x.1) F2 (show Mine.upd (Mine.upd ρ _ _) _ _ _ = _ from ht) hz ?_
        have := hp .next _ (.inl rfl) F2
        unfold one1 at this
        rw [if_neg c', if_neg (by rw [hf]; simp)] at this
        exact this
  · have e0 : ¬ 0 < x.1 := by
      have : ¬ (0 : Int) < (x.1 : Int) := by simpa using c
      omega
    refine seg_app (e := x.1) F ht hz ?_
    have := hp .next _ (.inl rfl) F
    unfold one1 at this
    rw [if_neg c', if_neg (fun h => e0 h.1)] at this
    exact this
end
end Mine
namespace Mine
theorem LF.del {l0 l1 l2 st tp c0 c1 c2 : Int} {ρ : Rho} {x : Str} (h : LF l0 l1 l2 st tp c0 c1 c2 ρ) (hx : mine.all (fun y => !(y == x)) = true) : LF l0 l1 l2 st tp c0 c1 c2 (Mine.del ρ x) := by
  have ne : ∀ y ∈ mine, y ≠ x := fun y hy q => by
    have := List.all_eq_true.mp hx y hy
    rw [q] at this
    simp at this
  have up : ∀ y ∈ mine, Mine.del ρ x y = ρ y := fun y hy => by unfold Mine.del; rw [if_neg (ne y hy)]
  exact ⟨(up _ (by simp [mine])).trans h.lows, (up _ (by simp [mine])).trans h.step, (up _ (by simp [mine])).trans h.top, (up _ (by simp [mine])).trans h.corners, (up _ (by simp [mine])).trans h.paints⟩
theorem IF.del {l0 l1 l2 st c0 c1 c2 : Int} {tp : Nat} {m : Mk} {ch : List (Nat × T4)} {ρ : Rho} {x : Str} (h : IF l0 l1 l2 st c0 c1 c2 tp m ch ρ) (hx : mineI.all (fun y => !(y == x)) = true) : IF l0 l1 l2 st c0 c1 c2 tp m ch (Mine.del ρ x) := by
  have ne : ∀ y ∈ mineI, y ≠ x := fun y hy q => by
    have := List.all_eq_true.mp hx y hy
    rw [q] at this
    simp at this
  have up : ∀ y ∈ mineI, Mine.del ρ x y = ρ y := fun y hy => by unfold Mine.del; rw [if_neg (ne y hy)]
  refine ⟨h.lf.del ?_, (up _ (by simp [mineI])).trans h.place, (up _ (by simp [mineI])).trans h.weight, (up _ (by simp [mineI])).trans h.word, (up _ (by simp [mineI])).trans h.paint, (up _ (by simp [mineI])).trans h.chains⟩
  unfold mineI at hx
  rw [List.all_append, Bool.and_eq_true] at hx
  exact hx.1
section
variable {n : Nat} {l0 l1 l2 st c0 c1 c2 : Int} {tp : Nat} {m : Mk} {ch : List (Nat × T4)} {ρ : Rho}
theorem filterMap_snoc {α β : Type} {f : α → Option β} {l : List α} {x : α} : (l ++ [x]).filterMap f = l.filterMap f ++ (f x).toList := by
  rw [List.filterMap_append]
  cases h : f x <;> simp [h]
set_option maxHeartbeats 1000000 in
theorem seg_turn (F : IF l0 l1 l2 st c0 c1 c2 tp m ch ρ) (htp : tp ≤ 21) (hm : m.1 ∈ placesL) (hw : m.1 ≤ m.2.1) (hch : ∀ x ∈ ch, x.1 = 0 ∨ (x.1 ∈ placesL ∧ x.1 < m.1 ∧ x.1 ≤ x.2.1)) (hlen : ch.length ≤ 100) :
    SX G0 (n + 3) SL ρ none chBody (fun fl ρ' ow' => fl = .next ∧ ow' = none ∧ LF l0 l1 l2 st (tp : Int) c0 c1 c2 ρ' ∧ ρ' (Str.ofString "chains") = some (.lst ((chStep tp ch m).map chD))) := by
  have z : (1000 : Nat) ≤ sizeLine := by decide
  refine SX.cons (S1.own rfl rfl fun a => ?_)
  have F1 := F.del (x := Str.ofString "longer") (by decide +kernel)
  refine SX.cons (S1.forListT (f := chD) (xs := ch) (EX.loc F1.chains rfl rfl rfl) (fun pre ρ1 ow1 => IF l0 l1 l2 st c0 c1 c2 tp m ch ρ1 ∧ ow1 = some (sLonger, a, (pre.filterMap (one1 tp m)).map chD)) ⟨F1, rfl⟩ ?_ ?_ (.inr ⟨_, _, _, rfl⟩))
  · rintro pre x post ρ1 ow1 hx ⟨F2, rfl⟩
    refine ⟨updL ρ1 [Str.ofString "end", Str.ofString "last", Str.ofString "tally"] [.int (x.1 : Int), .str (wordOf x.1), d4 x.2], AT.tup (xs := [(Str.ofString "end", _), (Str.ofString "last", _), (Str.ofString "tally", _)]) (fun _ => rfl) (fun _ => rfl) rfl fun y hy => ?_, ?_⟩
    · simp only [List.mem_cons, List.not_mem_nil, or_false] at hy
      rcases hy with rfl | rfl | rfl
      · exact ⟨Stor.loc rfl rfl, free_of rfl⟩
      · exact ⟨Stor.loc rfl rfl, free_of rfl⟩
      · exact ⟨Stor.loc rfl rfl, free_of rfl⟩
    have F3 : IF l0 l1 l2 st c0 c1 c2 tp m ch (updL ρ1 [Str.ofString "end", Str.ofString "last", Str.ofString "tally"] [.int (x.1 : Int), .str (wordOf x.1), d4 x.2]) := ((F2.upd (by decide +kernel)).upd (by decide +kernel)).upd (by decide +kernel)
    have hpl : ((pre.filterMap (one1 tp m)).map chD).length ≤ 1000 := by
      rw [List.length_map]
      have h1 := List.length_filterMap_le (one1 tp m) pre
      have h2 : pre.length ≤ ch.length := by rw [hx]; simp
      omega
    refine seg_one F3 rfl rfl rfl hpl htp hm hw (hch x (by rw [hx]; simp)) fun fl ρ' hfl F4 => ?_
    have e : (pre.filterMap (one1 tp m)).map chD ++ ((one1 tp m x).toList.map chD) = ((pre ++ [x]).filterMap (one1 tp m)).map chD := by rw [filterMap_snoc, List.map_append]
    rcases hfl with rfl | rfl
    · exact ⟨F4, by rw [e]⟩
    · exact ⟨F4, by rw [e]⟩
  · rintro ρ1 ow1 ⟨F2, rfl⟩
    refine SX.freeze rfl ?_
    have F3 := F2.upd (x := Str.ofString "longer") (d := .lst ((ch.filterMap (one1 tp m)).map chD)) (by decide +kernel)
    refine SX.cons (S1.assign (Stor.loc rfl rfl) (EX.addL (EX.loc F3.chains rfl rfl rfl) (EX.loc rfl rfl rfl rfl) (by
      rw [List.length_map, List.length_map]
      have h1 := List.length_filterMap_le (one1 tp m) ch
      omega)) (SX.nil ⟨rfl, rfl, F3.lf.upd (by decide +kernel), ?_⟩) trivial)
    show some (D.lst (ch.map chD ++ (ch.filterMap (one1 tp m)).map chD)) = some (.lst ((chStep tp ch m).map chD))
    unfold chStep
    rw [List.map_append]
theorem pre_lt {sms pre post : List Mk} {m : Mk} (h : sms.Pairwise fun a b => a.1 < b.1) (e : sms = pre ++ m :: post) {p : Nat} (hp : p ∈ pre.map (·.1)) : p < m.1 := by
  subst e
  obtain ⟨q, hq, rfl⟩ := List.mem_map.mp hp
  exact (List.pairwise_append.mp h).2.2 q hq m (.head _)
set_option maxHeartbeats 1000000 in
/-- all the rows of marks -/
theorem seg_chains {ds : List D} {sms : List Mk} (F : LF l0 l1 l2 st (tp : Int) c0 c1 c2 ρ) (hk : ρ sMk = some (.lst ds)) (hc : ρ (Str.ofString "chains") = some (.lst [chD (0, (0, 0, 0, 0))])) (hs : OP G0 (n + 3) (.builtin "sorted") [.lst ds] (.lst (sms.map mkD))) (htp : tp ≤ 21)
    (hp : ∀ m ∈ sms, m.1 ∈ placesL ∧ m.1 ≤ m.2.1) (hlt : sms.Pairwise fun a b => a.1 < b.1) (hlen : (chainsF tp sms).length ≤ 100) :
    S1 G0 (n + 3) SL ρ none (nth (bodyAt 20) 10) (fun fl ρ' ow' => fl = .next ∧ ow' = none ∧ LF l0 l1 l2 st (tp : Int) c0 c1 c2 ρ' ∧ ρ' (Str.ofString "chains") = some (.lst ((chainsF tp sms).map chD))) := by
  refine S1.forListT (f := mkD) (xs := sms) (EX.callB nl_sorted (AX.cons (EX.loc hk rfl rfl rfl) AX.nil) hs) (fun pre ρ1 ow1 => ow1 = none ∧ LF l0 l1 l2 st (tp : Int) c0 c1 c2 ρ1 ∧ ρ1 (Str.ofString "chains") = some (.lst ((chainsF tp pre).map chD))) ⟨rfl, F, hc⟩ ?_ (fun ρ1 ow1 h => ⟨rfl, h⟩) (.inr ⟨_, _, _, rfl⟩)
  rintro pre m post ρ1 ow1 hx ⟨rfl, F1, k1⟩
  refine ⟨updL ρ1 [Str.ofString "place", Str.ofString "weight", Str.ofString "word", Str.ofString "paint"] [.int (m.1 : Int), .int (m.2.1 : Int), .str (wordOf m.1), ptD m.2.2], AT.tup (xs := [(Str.ofString "place", _), (Str.ofString "weight", _), (Str.ofString "word", _), (Str.ofString "paint", _)]) (fun _ => rfl) (fun _ => rfl) rfl fun y hy => ?_, ?_⟩
  · simp only [List.mem_cons, List.not_mem_nil, or_false] at hy
    rcases hy with rfl | rfl | rfl | rfl
    · exact ⟨Stor.loc rfl rfl, trivial⟩
    · exact ⟨Stor.cell rfl rfl, trivial⟩
    · exact ⟨Stor.loc rfl rfl, trivial⟩
    · exact ⟨Stor.loc rfl rfl, trivial⟩
  have F2 : IF l0 l1 l2 st c0 c1 c2 tp m (chainsF tp pre) (updL ρ1 [Str.ofString "place", Str.ofString "weight", Str.ofString "word", Str.ofString "paint"] [.int (m.1 : Int), .int (m.2.1 : Int), .str (wordOf m.1), ptD m.2.2]) :=
    ⟨(((F1.upd (by decide +kernel)).upd (by decide +kernel)).upd (by decide +kernel)).upd (by decide +kernel), rfl, rfl, rfl, rfl, k1⟩
  have hmm := hp m (by rw [hx]; simp)
  refine (seg_turn F2 htp hmm.1 hmm.2 (fun x hxc => ?_) (by
    have := @chainsF_pre tp pre (m :: post)
    rw [← hx] at this; omega)).imp fun fl ρ' ow' p => ?_
  · rcases ends_ok (top := tp) (fun y hy => (hp y (by rw [hx]; simp [hy])).2) x hxc with h | ⟨h1, h2⟩
    · exact .inl h
    · refine .inr ⟨?_, pre_lt hlt hx h1, h2⟩
      obtain ⟨q, hq, e⟩ := List.mem_map.mp h1
      rw [← e]
      exact (hp q (by rw [hx]; simp [hq])).1
  · obtain ⟨rfl, rfl, h3, h4⟩ := p
    exact ⟨rfl, h3, by rw [h4, chainsF_snoc]⟩
end
end Mine
namespace Mine
/-! sorting rows of four numbers -/
def key4 (t : T4) : Int := (((t.1 : Int) * 100 + (t.2.1 : Int)) * 100 + (t.2.2.1 : Int)) * 100 + (t.2.2.2 : Int)
def keyD : D → Int
  | .tup [.int a, .int b, .int c, .int d] => ((a * 100 + b) * 100 + c) * 100 + d
  | _ => 0
def Small4 (t : T4) : Prop := t.2.1 < 100 ∧ t.2.2.1 < 100 ∧ t.2.2.2 < 100
theorem lt4_key {a b : T4} (ha : Small4 a) (hb : Small4 b) : lt4 (c4 a) (c4 b) = decide (key4 a < key4 b) := by
  obtain ⟨a1, a2, a3, a4⟩ := a
  obtain ⟨b1, b2, b3, b4⟩ := b
  unfold Small4 at ha hb
  unfold lt4 key4
  dsimp only at *
  by_cases h1 : (a1 : Int) = (b1 : Int)
  · rw [if_pos h1]
    by_cases h2 : (a2 : Int) = (b2 : Int)
    · rw [if_pos h2]
      by_cases h3 : (a3 : Int) = (b3 : Int)
      · rw [if_pos h3]
        by_cases h4 : (a4 : Int) = (b4 : Int)
        · rw [if_pos h4]; symm; rw [decide_eq_false_iff_not]; omega
        · rw [if_neg h4, decide_eq_decide]; omega
      · rw [if_neg h3, decide_eq_decide]; omega
    · rw [if_neg h2, decide_eq_decide]; omega
  · rw [if_neg h1, decide_eq_decide]; omega
theorem key4_inj {a b : T4} (ha : Small4 a) (hb : Small4 b) (h : key4 a = key4 b) : a = b := by
  obtain ⟨a1, a2, a3, a4⟩ := a
  obtain ⟨b1, b2, b3, b4⟩ := b
  unfold Small4 at ha hb
  unfold key4 at h
  dsimp only at *
  have h1 : a1 = b1 := by omega
  have h2 : a2 = b2 := by omega
  have h3 : a3 = b3 := by omega
  have h4 : a4 = b4 := by omega
  rw [h1, h2, h3, h4]
def insT {α : Type} (key : α → Int) (x : α) : List α → List α
  | [] => [x]
  | y :: l => if key x ≤ key y then x :: y :: l else y :: insT key x l
def isortT {α : Type} (key : α → Int) : List α → List α
  | [] => []
  | x :: l => insT key x (isortT key l)
theorem insT_perm {α : Type} {key : α → Int} {x : α} : ∀ l : List α, (insT key x l).Perm (x :: l)
  | [] => .refl _
  | y :: l => by
    unfold insT
    by_cases h : key x ≤ key y
    · rw [if_pos h]
    · rw [if_neg h]
      exact ((insT_perm l).cons y).trans (List.Perm.swap x y l)
theorem isortT_perm {α : Type} {key : α → Int} : ∀ l : List α, (isortT key l).Perm l
  | [] => .refl _
  | x :: l => (insT_perm _).trans ((isortT_perm l).cons x)
theorem insT_sorted {α : Type} {key : α → Int} {x : α} : ∀ {l : List α}, l.Pairwise (fun a b => key a ≤ key b) → (insT key x l).Pairwise fun a b => key a ≤ key b
  | [], _ => by unfold insT; exact List.pairwise_singleton _ _
  | y :: l, h => by
    obtain ⟨h1, h2⟩ := List.pairwise_cons.mp h
    unfold insT
    by_cases c : key x ≤ key y
    · rw [if_pos c]
      refine List.pairwise_cons.mpr ⟨fun z hz => ?_, h⟩
      rcases List.mem_cons.mp hz with rfl | hz
      · exact c
      · exact Int.le_trans c (h1 z hz)
    · rw [if_neg c]
      refine List.pairwise_cons.mpr ⟨fun z hz => ?_, insT_sorted h2⟩
      rcases List.mem_cons.mp ((insT_perm l).mem_iff.mp hz) with rfl | hz
      · omega
      · exact h1 z hz
theorem isortT_sorted {α : Type} {key : α → Int} : ∀ l : List α, (isortT key l).Pairwise fun a b => key a ≤ key b
  | [] => .nil
  | x :: l => insT_sorted (isortT_sorted l)
theorem keyD_d4 (t : T4) : keyD (d4 t) = key4 t := rfl
theorem op_sorted4 {G : Gd} {n : Nat} {ts out : List T4} (h2 : 2 ≤ ts.length) (h64 : ts.length < 64) (hs : ∀ t ∈ ts, Small4 t) (hp : out.Perm ts) (ho : out.Pairwise fun a b => key4 a ≤ key4 b) : OP G n (.builtin "sorted") [.lst (ts.map d4)] (.lst (out.map d4)) := by
  have at' : ∀ i, i < ts.length → (ts.map d4).getD i .none = d4 (ts.getD i (0, 0, 0, 0)) ∧ ts.getD i (0, 0, 0, 0) ∈ ts := fun i hi => by
    simp [List.getD_eq_getElem?_getD, hi]
  refine OP.sorted keyD (by simpa using h2) (by simpa using h64) (fun d hd => ?_) (fun i j hi hj _ => ?_) (hp.map _) ?_ (fun x hx y hy h => ?_)
  · obtain ⟨t, _, rfl⟩ := List.mem_map.mp hd
    exact ⟨_, _, rfl⟩
  · rw [List.length_map] at hi hj
    rw [(at' i hi).1, (at' j hj).1, keyD_d4, keyD_d4, ← lt4_key (hs _ (at' i hi).2) (hs _ (at' j hj).2)]
    exact CmpD.four
  · rw [List.pairwise_map]
    exact ho
  · obtain ⟨t, ht, rfl⟩ := List.mem_map.mp hx
    obtain ⟨u, hu, rfl⟩ := List.mem_map.mp hy
    rw [key4_inj (hs t ht) (hs u hu) h]
/-! the return -/
noncomputable def retE : Expr := match nth (bodyAt 20) 13 with | .Return (some e) _ => e | _ => .Tuple [] 0 default
noncomputable def tallyE : Expr := match retE with | .Compare (.Call _ [e] _ _) _ _ _ => e | _ => .Tuple [] 0 default
noncomputable abbrev STa : Scope := relab (compScope tallyE) SL
def thirdD : D → D
  | .tup [_, _, d] => d
  | _ => .none
section
variable {n : Nat} {ρ : Rho}
theorem seg_ret {ch : List (Nat × T4)} {hs : List T4} {P : Pst} (hc : ρ (Str.ofString "chains") = some (.lst (ch.map chD))) (hh : ρ (Str.ofString "heaps") = some (.lst (hs.map d4))) (hp : (ch.map (·.2)).Perm hs) (h2 : 2 ≤ hs.length) (h64 : hs.length < 64) (hsm : ∀ t ∈ hs, Small4 t) (p : P (.ret (.bool true)) ρ none) :
    SX G0 (n + 3) SL ρ none ((bodyAt 20).drop 13) P := by
  have z : (1000 : Nat) ≤ sizeLine := by decide
  have hl : ch.length = hs.length := by have := hp.length_eq; rwa [List.length_map] at this
  have e1 : (isortT key4 hs).map d4 = ((isortT key4 hs).map c4).map tup4 := by rw [List.map_map]; rfl
  refine SX.cons (S1.ret (EX.eq4 (xs := (isortT key4 hs).map c4) (EX.callB nl_sorted (AX.cons (d := .lst ((ch.map (·.2)).map d4)) ?_ AX.nil) ?_) (EX.callB nl_sorted (AX.cons (EX.loc hh rfl rfl rfl) AX.nil) ?_)) p)
  · rw [show (ch.map (·.2)).map d4 = compOut (fun _ => true) thirdD (ch.map chD) by rw [compOut_all, List.map_map, List.map_map]; rfl]
    refine EX.comp (IX.list (EX.loc hc rfl rfl rfl)) relab_is rfl (by decide +kernel) (by decide +kernel) (by decide +kernel) (.inr ⟨_, _, _, rfl⟩) (by rw [List.length_map]; omega) ?_
    intro d hd
    obtain ⟨x, _, rfl⟩ := List.mem_map.mp hd
    refine ⟨updL (outer STa ρ) [Str.ofString "end", Str.ofString "last", Str.ofString "tally"] [.int (x.1 : Int), .str (wordOf x.1), d4 x.2], AT0.tup (xs := [(Str.ofString "end", _), (Str.ofString "last", _), (Str.ofString "tally", _)]) (fun _ => rfl) (fun _ => rfl) rfl (fun y hy => ?_) rfl, rfl, fun _ => EX.loc rfl rfl rfl rfl⟩
    simp only [List.mem_cons, List.not_mem_nil, or_false] at hy
    rcases hy with rfl | rfl | rfl <;> rfl
  · rw [← e1]
    exact op_sorted4 (by rw [List.length_map]; omega) (by rw [List.length_map]; omega) (fun t ht => hsm t (hp.mem_iff.mp ht)) ((isortT_perm hs).trans hp.symm) (isortT_sorted hs)
  · rw [← e1]
    exact op_sorted4 h2 h64 hsm (isortT_perm hs) (isortT_sorted hs)
end
end Mine
namespace Mine
/-! the heaps -/
def hStep (top w : Nat) (g : Pt) (hs : List T4) : List T4 := hs ++ (hs.filter fun h => decide (h.1 + w ≤ top)).map fun h => add4 h w g
def hRun (top low step : Nat) (g : Pt) (hs : List T4) : Nat → List T4
  | 0 => hs
  | i + 1 => hStep top (low + i * step) g (hRun top low step g hs i)
theorem hStep_le {top w : Nat} {g : Pt} {hs : List T4} : hs.length ≤ (hStep top w g hs).length := by unfold hStep; rw [List.length_append]; exact Nat.le_add_right _ _
theorem hRun_le {top low step : Nat} {g : Pt} {hs : List T4} {i : Nat} : ∀ (k : Nat), (hRun top low step g hs i).length ≤ (hRun top low step g hs (i + k)).length
  | 0 => Nat.le_refl _
  | k + 1 => Nat.le_trans (hRun_le k) hStep_le
def heapTb (top w : Int) : D → Bool
  | .tup (.int a :: _) => decide (a + w ≤ top)
  | _ => false
def heapFe (w x y z : Int) : D → D
  | .tup [.int a, .int b, .int c, .int d] => .tup [.int (a + w), .int (b + x), .int (c + y), .int (d + z)]
  | _ => .none
theorem heap_out (top w : Nat) (g : Pt) : ∀ hs : List T4, compOut (heapTb (top : Int) (w : Int)) (heapFe (w : Int) (g.1 : Int) (g.2.1 : Int) (g.2.2 : Int)) (hs.map d4) = ((hs.filter fun h => decide (h.1 + w ≤ top)).map fun h => add4 h w g).map d4
  | [] => rfl
  | h :: hs => by
    have e : compOut (heapTb (top : Int) (w : Int)) (heapFe (w : Int) (g.1 : Int) (g.2.1 : Int) (g.2.2 : Int)) ((h :: hs).map d4) = (if heapTb (top : Int) (w : Int) (d4 h) then [heapFe (w : Int) (g.1 : Int) (g.2.1 : Int) (g.2.2 : Int) (d4 h)] else []) ++ compOut (heapTb (top : Int) (w : Int)) (heapFe (w : Int) (g.1 : Int) (g.2.1 : Int) (g.2.2 : Int)) (hs.map d4) := rfl
    rw [e, heap_out top w g hs]
    have eb : heapTb (top : Int) (w : Int) (d4 h) = decide (h.1 + w ≤ top) := by
      show decide ((h.1 : Int) + (w : Int) ≤ (top : Int)) = _
      rw [decide_eq_decide]; omega
    rw [eb, List.filter_cons]
    by_cases c : h.1 + w ≤ top
    · rw [decide_eq_true c, if_pos rfl, if_pos rfl]; rfl
    · rw [decide_eq_false c, if_neg (by simp), if_neg (by simp)]; rfl
noncomputable def heBody : List Stmt := forBody (nth (bodyAt 20) 12)
noncomputable def heFor : Stmt := nth heBody 1
noncomputable def growE : Expr := match nth heBody 0 with | .Assign _ e _ => e | _ => .Tuple [] 0 default
noncomputable def addE : Expr := match nth (forBody heFor) 0 with | .Assign _ (.BinOp _ _ e _) _ => e | _ => .Tuple [] 0 default
noncomputable abbrev SGr : Scope := relab (compScope growE) SL
noncomputable abbrev SAd : Scope := relab (compScope addE) SL
def grI (c k : Int) : Int := if c = k then 1 else 0
def grP (c : Int) : Pt := ((grI c 0).toNat, (grI c 2).toNat, (grI c 4).toNat)
def grFe (c : Int) : D → D
  | .int k => .int (grI c k)
  | _ => .none
/-- how long such a range is -/
def rOk (l st tp N : Nat) : Bool := Builtin.divisionGoesByPylong (((tp : Int) + 1) - (l : Int)) (st : Int) == false && Builtin.Range.small (l : Int) ((tp : Int) + 1) (st : Int) && (Builtin.Range.rangeSize (l : Int) ((tp : Int) + 1) (st : Int) == (N : Int))
section
variable {n : Nat} {l0 l1 l2 st tp : Nat} {c0 c1 c2 : Int} {ρ : Rho} {cs : D}
abbrev LFN (l0 l1 l2 st tp : Nat) (c0 c1 c2 : Int) (ρ : Rho) : Prop := LF (l0 : Int) (l1 : Int) (l2 : Int) (st : Int) (tp : Int) c0 c1 c2 ρ
set_option maxHeartbeats 1000000 in
theorem seg_heap1 {ia : Int} {l N : Nat} {c : Int} {hs : List T4} (F : LFN l0 l1 l2 st tp c0 c1 c2 ρ) (hc : ρ (Str.ofString "chains") = some cs) (hh : ρ (Str.ofString "heaps") = some (.lst (hs.map d4))) (e1 : ρ (Str.ofString "one") = some (.int ia)) (a0 : 0 ≤ ia ∧ ia < 3)
    (hL : [D.int (l0 : Int), .int (l1 : Int), .int (l2 : Int)][ia.toNat]? = some (.int (l : Int))) (hC : [D.int c0, .int c1, .int c2][ia.toNat]? = some (.int c)) (hst : st ≠ 0) (hN : rOk l st tp N = true) (hlen : (hRun tp l st (grP c) hs N).length ≤ 100) :
    SX G0 (n + 3) SL ρ none heBody (fun fl ρ' ow' => fl = .next ∧ ow' = none ∧ LFN l0 l1 l2 st tp c0 c1 c2 ρ' ∧ ρ' (Str.ofString "chains") = some cs ∧ ρ' (Str.ofString "heaps") = some (.lst ((hRun tp l st (grP c) hs N).map d4))) := by
  have z : (1000 : Nat) ≤ sizeLine := by decide
  unfold rOk at hN
  simp only [Bool.and_eq_true, beq_iff_eq] at hN
  obtain ⟨⟨hN1, hN2⟩, hN3⟩ := hN
  refine SX.cons (S1.assignE (Stor.cell rfl rfl) (EX.comp (tb := fun _ => true) (fe := grFe c) (IX.list (EX.list (AX.cons EX.int (AX.cons EX.int (AX.cons EX.int AX.nil))) (by show 3 ≤ sizeLine; omega))) relab_is rfl (by decide +kernel) (by decide +kernel) (by decide +kernel) (.inl fun _ _ => rfl) (by show 3 ≤ sizeLine; omega) ?_) ?_ trivial (sw_cell rfl))
  · intro d hd
    have hd' : ∃ k : Int, d = .int k := by
      simp only [List.mem_cons, List.not_mem_nil, or_false] at hd
      rcases hd with rfl | rfl | rfl
      · exact ⟨_, rfl⟩
      · exact ⟨_, rfl⟩
      · exact ⟨_, rfl⟩
    obtain ⟨k, rfl⟩ := hd'
    refine ⟨_, AT0.name rfl rfl, rfl, fun _ => ?_⟩
    show EX G0 (n + 3) SGr _ none _ (.int (grI c k))
    refine EX.ifx (TX.eqI (EX.itemL (EX.cell (show Mine.upd (outer SGr ρ) _ _ _ = _ from F.corners) rfl rfl rfl) (EX.cell (show Mine.upd (outer SGr ρ) _ _ _ = _ from e1) rfl rfl rfl) a0.1 (by omega) hC) (EX.loc rfl rfl rfl rfl)) (fun h => ?_) (fun h => ?_)
    · have : c = k := by simpa using h
      rw [show grI c k = 1 by unfold grI; rw [if_pos this]]
      exact EX.int
    · have : c ≠ k := by simpa using h
      rw [show grI c k = 0 by unfold grI; rw [if_neg this]]
      exact EX.int
  have hg : compOut (fun _ => true) (grFe c) [D.int 0, D.int 2, D.int 4] = [.int ((grP c).1 : Int), .int ((grP c).2.1 : Int), .int ((grP c).2.2 : Int)] := by
    rw [compOut_all]
    have h : ∀ k : Int, ((grI c k).toNat : Int) = grI c k := fun k => by
      unfold grI
      split <;> rfl
    unfold grP
    rw [h, h, h]; rfl
  rw [hg]
  have F1 : LFN l0 l1 l2 st tp c0 c1 c2 (Mine.upd ρ (Str.ofString "grown") (.lst [.int ((grP c).1 : Int), .int ((grP c).2.1 : Int), .int ((grP c).2.2 : Int)])) := F.upd (by decide +kernel)
  refine SX.cons (S1.forRangeT (N := N) (RX.three nl_range (EX.itemL (EX.loc F1.lows rfl rfl rfl) (EX.cell (show Mine.upd ρ _ _ _ = _ from e1) rfl rfl rfl) a0.1 (by omega) hL) (EX.addI (EX.cell F1.top rfl rfl rfl) EX.int) (EX.loc F1.step rfl rfl rfl) (by omega) hN1) hN2 hN3
    (fun i ρ1 ow1 => ow1 = none ∧ LFN l0 l1 l2 st tp c0 c1 c2 ρ1 ∧ ρ1 (Str.ofString "chains") = some cs ∧ ρ1 (Str.ofString "heaps") = some (.lst ((hRun tp l st (grP c) hs i).map d4)) ∧ ρ1 (Str.ofString "grown") = some (.lst [.int ((grP c).1 : Int), .int ((grP c).2.1 : Int), .int ((grP c).2.2 : Int)]))
    ⟨rfl, F1, hc, hh, rfl⟩ ?_ (fun ρ1 ow1 h => SX.nil ⟨rfl, h.1, h.2.1, h.2.2.1, h.2.2.2.1⟩))
  rintro i ρ1 ow1 hi ⟨rfl, F2, k1, k2, k3⟩
  have ew : ((l : Int) + (i : Int) * (st : Int)) = ((l + i * st : Nat) : Int) := by rw [Int.natCast_add, Int.natCast_mul]
  rw [ew]
  refine ⟨_, AT.name (Stor.cell rfl rfl) trivial, ?_⟩
  have hlen1 : (hRun tp l st (grP c) hs (i + 1)).length ≤ 100 := by
    have := @hRun_le tp l st (grP c) hs (i + 1) (N - (i + 1))
    rw [show i + 1 + (N - (i + 1)) = N by omega] at this
    omega
  have hlen2 : (hRun tp l st (grP c) hs i).length ≤ 100 := Nat.le_trans hStep_le hlen1
  have hout := heap_out tp (l + i * st) (grP c) (hRun tp l st (grP c) hs i)
  refine SX.cons (S1.assign (Stor.loc rfl rfl) (EX.addL (EX.loc k2 rfl rfl rfl) (EX.comp (tb := heapTb (tp : Int) ((l + i * st : Nat) : Int)) (fe := heapFe ((l + i * st : Nat) : Int) ((grP c).1 : Int) ((grP c).2.1 : Int) ((grP c).2.2 : Int)) (IX.list (EX.loc k2 rfl rfl rfl)) relab_is rfl (by decide +kernel) (by decide +kernel) (by decide +kernel) (.inl fun _ _ => rfl) (by rw [List.length_map]; omega) ?_) (by
      have := @compOut_le (heapTb (tp : Int) ((l + i * st : Nat) : Int)) (heapFe ((l + i * st : Nat) : Int) ((grP c).1 : Int) ((grP c).2.1 : Int) ((grP c).2.2 : Int)) ((hRun tp l st (grP c) hs i).map d4)
      rw [List.length_map] at this ⊢
      omega)) (SX.nil ⟨rfl, (F2.upd (by decide +kernel)).upd (by decide +kernel), k1, ?_, k3⟩) trivial)
  · intro d hd
    obtain ⟨t, _, rfl⟩ := List.mem_map.mp hd
    refine ⟨_, AT0.name rfl rfl, ?_, fun _ => ?_⟩
    · exact TX.leI (EX.addI (EX.itemT (j := 0) (EX.loc rfl rfl rfl rfl) EX.int (by decide) (by decide) rfl rfl) (EX.cell rfl rfl rfl rfl)) (EX.cell (show Mine.upd (outer SAd (Mine.upd ρ1 _ _)) _ _ _ = _ from F2.top) rfl rfl rfl)
    · have gr : Mine.upd (outer SAd (Mine.upd ρ1 (Str.ofString "weight") (.int ((l + i * st : Nat) : Int)))) (Str.ofString "h") (d4 t) (Str.ofString "grown") = some (.lst [.int ((grP c).1 : Int), .int ((grP c).2.1 : Int), .int ((grP c).2.2 : Int)]) := k3
      exact EX.tuple (AX.cons (EX.addI (EX.itemT (j := 0) (EX.loc rfl rfl rfl rfl) EX.int (by decide) (by decide) rfl rfl) (EX.cell rfl rfl rfl rfl))
        (AX.cons (EX.addI (EX.itemT (j := 1) (EX.loc rfl rfl rfl rfl) EX.int (by decide) (by decide) rfl rfl) (EX.itemL (EX.cell gr rfl rfl rfl) EX.int (by decide) (by decide) rfl))
        (AX.cons (EX.addI (EX.itemT (j := 2) (EX.loc rfl rfl rfl rfl) EX.int (by decide) (by decide) rfl rfl) (EX.itemL (EX.cell gr rfl rfl rfl) EX.int (by decide) (by decide) rfl))
        (AX.cons (EX.addI (EX.itemT (j := 3) (EX.loc rfl rfl rfl rfl) EX.int (by decide) (by decide) rfl rfl) (EX.itemL (EX.cell gr rfl rfl rfl) EX.int (by decide) (by decide) rfl)) AX.nil)))) (by show 4 ≤ sizeLine; omega)
  · show some (D.lst ((hRun tp l st (grP c) hs i).map d4 ++ _)) = some (.lst ((hRun tp l st (grP c) hs (i + 1)).map d4))
    rw [hout, ← List.map_append]
    rfl
def heapsF (tp st : Nat) (r : List (Nat × Nat × Pt)) : List T4 := r.foldl (fun hs x => hRun tp x.1 st x.2.2 hs x.2.1) [(0, 0, 0, 0)]
set_option maxHeartbeats 1000000 in
theorem seg_heaps {N0 N1 N2 : Nat} (F : LFN l0 l1 l2 st tp c0 c1 c2 ρ) (hc : ρ (Str.ofString "chains") = some cs) (hh : ρ (Str.ofString "heaps") = some (.lst [d4 (0, 0, 0, 0)])) (hst : st ≠ 0) (h0 : rOk l0 st tp N0 = true) (h1 : rOk l1 st tp N1 = true) (h2 : rOk l2 st tp N2 = true)
    (hlen : (heapsF tp st [(l0, N0, grP c0), (l1, N1, grP c1), (l2, N2, grP c2)]).length ≤ 100) :
    S1 G0 (n + 3) SL ρ none (nth (bodyAt 20) 12) (fun fl ρ' ow' => fl = .next ∧ ow' = none ∧ LFN l0 l1 l2 st tp c0 c1 c2 ρ' ∧ ρ' (Str.ofString "chains") = some cs ∧ ρ' (Str.ofString "heaps") = some (.lst ((heapsF tp st [(l0, N0, grP c0), (l1, N1, grP c1), (l2, N2, grP c2)]).map d4))) := by
  have g1 : ∀ (l : Nat) (g : Pt) (hs : List T4) (N : Nat), hs.length ≤ (hRun tp l st g hs N).length := fun l g hs N => by
    have := @hRun_le tp l st g hs 0 N
    rwa [Nat.zero_add] at this
  have b2 : (heapsF tp st [(l0, N0, grP c0), (l1, N1, grP c1)]).length ≤ 100 := Nat.le_trans (g1 l2 (grP c2) _ N2) hlen
  have b1 : (heapsF tp st [(l0, N0, grP c0)]).length ≤ 100 := Nat.le_trans (g1 l1 (grP c1) _ N1) b2
  refine S1.forRangeT (N := 3) (RX.one nl_range EX.int) (by decide +kernel) (by decide +kernel) (fun k ρ1 ow1 => ow1 = none ∧ LFN l0 l1 l2 st tp c0 c1 c2 ρ1 ∧ ρ1 (Str.ofString "chains") = some cs ∧ ρ1 (Str.ofString "heaps") = some (.lst ((heapsF tp st ([(l0, N0, grP c0), (l1, N1, grP c1), (l2, N2, grP c2)].take k)).map d4))) ⟨rfl, F, hc, hh⟩ ?_ (fun ρ1 ow1 h => ⟨rfl, h⟩)
  rintro k ρ1 ow1 hk ⟨rfl, F1, k1, k2⟩
  refine ⟨_, AT.name (Stor.cell rfl rfl) trivial, ?_⟩
  have F2 : LFN l0 l1 l2 st tp c0 c1 c2 (Mine.upd ρ1 (Str.ofString "one") (.int (0 + (k : Int) * 1))) := F1.upd (by decide +kernel)
  have k3 : Mine.upd ρ1 (Str.ofString "one") (.int (0 + (k : Int) * 1)) (Str.ofString "chains") = some cs := k1
  have k4 : Mine.upd ρ1 (Str.ofString "one") (.int (0 + (k : Int) * 1)) (Str.ofString "heaps") = some (.lst ((heapsF tp st ([(l0, N0, grP c0), (l1, N1, grP c1), (l2, N2, grP c2)].take k)).map d4)) := k2
  have : k = 0 ∨ k = 1 ∨ k = 2 := by omega
  rcases this with rfl | rfl | rfl
  · refine (seg_heap1 (l := l0) (c := c0) (N := N0) F2 k3 k4 rfl (by decide) rfl rfl hst h0 b1).imp fun fl ρ' ow' p => ?_
    obtain ⟨rfl, rfl, p⟩ := p
    exact ⟨rfl, p⟩
  · refine (seg_heap1 (l := l1) (c := c1) (N := N1) F2 k3 k4 rfl (by decide) rfl rfl hst h1 b2).imp fun fl ρ' ow' p => ?_
    obtain ⟨rfl, rfl, p⟩ := p
    exact ⟨rfl, p⟩
  · refine (seg_heap1 (l := l2) (c := c2) (N := N2) F2 k3 k4 rfl (by decide) rfl rfl hst h2 hlen).imp fun fl ρ' ow' p => ?_
    obtain ⟨rfl, rfl, p⟩ := p
    exact ⟨rfl, p⟩
end
end Mine
namespace Mine
/-! the plain law, in the rulers' own basis -/
def rulR (home : Nat) (pt : Pt) (tp st : Nat) : Nat → Nat → Nat → List Mk
  | 0, _, _ => []
  | n + 1, k, wt => if tp < wt then [] else (home + 6 * k, wt, pt) :: rulR home pt tp st n (k + 1) (wt + st)
def insB {α : Type} (le : α → α → Bool) (x : α) : List α → List α
  | [] => [x]
  | y :: l => bif le x y then x :: y :: l else y :: insB le x l
def isortB {α : Type} (le : α → α → Bool) : List α → List α
  | [] => []
  | x :: l => insB le x (isortB le l)
def marksB (P0 P1 P2 Q0 Q1 Q2 : Pt) (l0 l1 l2 st tp : Nat) : List Mk :=
  rulR 2 P0 tp st 6 0 l0 ++ (rulR 4 P1 tp st 6 0 l1 ++ (rulR 5 P2 tp st 6 0 l2 ++ (rulR 6 Q0 tp st 6 0 (l0 + l1) ++ (rulR 7 Q1 tp st 6 0 (l0 + l2) ++ rulR 9 Q2 tp st 6 0 (l1 + l2)))))
def sortM (l : List Mk) : List Mk := isortB (fun a b => Nat.ble a.1 b.1) l
def k4N (t : T4) : Nat := ((t.1 * 100 + t.2.1) * 100 + t.2.2.1) * 100 + t.2.2.2
def rN (l st tp : Nat) : Nat := (tp - l) / st + 1
def basisM (l0 l1 l2 st tp : Nat) : List Mk := sortM (marksB (1, 0, 0) (0, 1, 0) (0, 0, 1) (1, 1, 0) (1, 0, 1) (0, 1, 1) l0 l1 l2 st tp)
def basisH (l0 l1 l2 st tp : Nat) : List T4 := heapsF tp st [(l0, rN l0 st tp, (1, 0, 0)), (l1, rN l1 st tp, (0, 1, 0)), (l2, rN l2 st tp, (0, 0, 1))]
def upB : List Mk → Bool
  | a :: b :: l => Nat.blt a.1 b.1 && upB (b :: l)
  | _ => true
def eqB : List T4 → List T4 → Bool
  | [], [] => true
  | a :: l, b :: r => (Nat.beq a.1 b.1 && (Nat.beq a.2.1 b.2.1 && (Nat.beq a.2.2.1 b.2.2.1 && Nat.beq a.2.2.2 b.2.2.2))) && eqB l r
  | _, _ => false
def okCfg (l0 l1 l2 st tp : Nat) : Bool :=
  let ms := basisM l0 l1 l2 st tp
  let ch := (chainsF tp ms).map (·.2)
  let hs := basisH l0 l1 l2 st tp
  upB ms && (ms.all fun m => placesL.contains m.1 && Nat.ble m.1 m.2.1) && eqB (isortB (fun a b => Nat.ble (k4N a) (k4N b)) ch) (isortB (fun a b => Nat.ble (k4N a) (k4N b)) hs) && Nat.ble 2 hs.length && Nat.blt hs.length 64 && (hs.all fun t => Nat.blt t.2.1 30 && (Nat.blt t.2.2.1 30 && Nat.blt t.2.2.2 30)) && (ch.all fun t => Nat.blt t.2.1 30 && (Nat.blt t.2.2.1 30 && Nat.blt t.2.2.2 30)) && Nat.ble 2 ms.length && Nat.blt ms.length 64
def okRow (l0 l1 l2 : Nat) : Bool := [6, 7, 8].all fun st => [16, 17, 18, 19, 20, 21].all fun tp => okCfg l0 l1 l2 st tp
theorem ok245 : okRow 2 4 5 = true := by decide +kernel
theorem ok246 : okRow 2 4 6 = true := by decide +kernel
theorem ok247 : okRow 2 4 7 = true := by decide +kernel
theorem ok255 : okRow 2 5 5 = true := by decide +kernel
theorem ok256 : okRow 2 5 6 = true := by decide +kernel
theorem ok257 : okRow 2 5 7 = true := by decide +kernel
theorem ok265 : okRow 2 6 5 = true := by decide +kernel
theorem ok266 : okRow 2 6 6 = true := by decide +kernel
theorem ok267 : okRow 2 6 7 = true := by decide +kernel
theorem ok345 : okRow 3 4 5 = true := by decide +kernel
theorem ok346 : okRow 3 4 6 = true := by decide +kernel
theorem ok347 : okRow 3 4 7 = true := by decide +kernel
theorem ok355 : okRow 3 5 5 = true := by decide +kernel
theorem ok356 : okRow 3 5 6 = true := by decide +kernel
theorem ok357 : okRow 3 5 7 = true := by decide +kernel
theorem ok365 : okRow 3 6 5 = true := by decide +kernel
theorem ok366 : okRow 3 6 6 = true := by decide +kernel
theorem ok367 : okRow 3 6 7 = true := by decide +kernel
theorem ok445 : okRow 4 4 5 = true := by decide +kernel
theorem ok446 : okRow 4 4 6 = true := by decide +kernel
theorem ok447 : okRow 4 4 7 = true := by decide +kernel
theorem ok455 : okRow 4 5 5 = true := by decide +kernel
theorem ok456 : okRow 4 5 6 = true := by decide +kernel
theorem ok457 : okRow 4 5 7 = true := by decide +kernel
theorem ok465 : okRow 4 6 5 = true := by decide +kernel
theorem ok466 : okRow 4 6 6 = true := by decide +kernel
theorem ok467 : okRow 4 6 7 = true := by decide +kernel
theorem okCfg_all {l0 l1 l2 st tp : Nat} (h0 : 2 ≤ l0 ∧ l0 ≤ 4) (h1 : 4 ≤ l1 ∧ l1 ≤ 6) (h2 : 5 ≤ l2 ∧ l2 ≤ 7) (h3 : 6 ≤ st ∧ st ≤ 8) (h4 : 16 ≤ tp ∧ tp ≤ 21) : okCfg l0 l1 l2 st tp = true := by
  have row : okRow l0 l1 l2 = true := by
    have e0 : l0 = 2 ∨ l0 = 3 ∨ l0 = 4 := by omega
    have e1 : l1 = 4 ∨ l1 = 5 ∨ l1 = 6 := by omega
    have e2 : l2 = 5 ∨ l2 = 6 ∨ l2 = 7 := by omega
    rcases e0 with rfl | rfl | rfl
    · rcases e1 with rfl | rfl | rfl
      · rcases e2 with rfl | rfl | rfl
        · exact ok245
        · exact ok246
        · exact ok247
      · rcases e2 with rfl | rfl | rfl
        · exact ok255
        · exact ok256
        · exact ok257
      · rcases e2 with rfl | rfl | rfl
        · exact ok265
        · exact ok266
        · exact ok267
    · rcases e1 with rfl | rfl | rfl
      · rcases e2 with rfl | rfl | rfl
        · exact ok345
        · exact ok346
        · exact ok347
      · rcases e2 with rfl | rfl | rfl
        · exact ok355
        · exact ok356
        · exact ok357
      · rcases e2 with rfl | rfl | rfl
        · exact ok365
        · exact ok366
        · exact ok367
    · rcases e1 with rfl | rfl | rfl
      · rcases e2 with rfl | rfl | rfl
        · exact ok445
        · exact ok446
        · exact ok447
      · rcases e2 with rfl | rfl | rfl
        · exact ok455
        · exact ok456
        · exact ok457
      · rcases e2 with rfl | rfl | rfl
        · exact ok465
        · exact ok466
        · exact ok467
  unfold okRow at row
  have hs : st ∈ [6, 7, 8] := by
    have : st = 6 ∨ st = 7 ∨ st = 8 := by omega
    rcases this with rfl | rfl | rfl <;> simp
  have ht : tp ∈ [16, 17, 18, 19, 20, 21] := by
    have : tp = 16 ∨ tp = 17 ∨ tp = 18 ∨ tp = 19 ∨ tp = 20 ∨ tp = 21 := by omega
    rcases this with rfl | rfl | rfl | rfl | rfl | rfl <;> simp
  exact List.all_eq_true.mp (List.all_eq_true.mp row st hs) tp ht
end Mine
namespace Mine
theorem insB_perm {α : Type} {le : α → α → Bool} {x : α} : ∀ l : List α, (insB le x l).Perm (x :: l)
  | [] => .refl _
  | y :: l => by
    unfold insB
    cases h : le x y with
    | true => exact .refl _
    | false => exact ((insB_perm l).cons y).trans (List.Perm.swap x y l)
theorem isortB_perm {α : Type} {le : α → α → Bool} : ∀ l : List α, (isortB le l).Perm l
  | [] => .refl _
  | x :: l => (insB_perm _).trans ((isortB_perm l).cons x)
theorem insB_map {α β : Type} {le : α → α → Bool} {le' : β → β → Bool} {f : α → β} (h : ∀ a b, le' (f a) (f b) = le a b) {x : α} : ∀ l : List α, insB le' (f x) (l.map f) = (insB le x l).map f
  | [] => rfl
  | y :: l => by
    show (bif le' (f x) (f y) then f x :: f y :: l.map f else f y :: insB le' (f x) (l.map f)) = (bif le x y then x :: y :: l else y :: insB le x l).map f
    rw [h, insB_map h l]
    cases le x y <;> rfl
theorem isortB_map {α β : Type} {le : α → α → Bool} {le' : β → β → Bool} {f : α → β} (h : ∀ a b, le' (f a) (f b) = le a b) : ∀ l : List α, isortB le' (l.map f) = (isortB le l).map f
  | [] => rfl
  | x :: l => by
    show insB le' (f x) (isortB le' (l.map f)) = (insB le x (isortB le l)).map f
    rw [isortB_map h l, insB_map h]
theorem upB_pair : ∀ {l : List Mk}, upB l = true → l.Pairwise fun a b => a.1 < b.1
  | [], _ => .nil
  | [a], _ => List.pairwise_singleton _ _
  | a :: b :: l, h => by
    have h' : (Nat.blt a.1 b.1 && upB (b :: l)) = true := h
    rw [Bool.and_eq_true] at h'
    have ih := upB_pair h'.2
    have ab : a.1 < b.1 := by simpa [Nat.blt_eq] using h'.1
    refine List.pairwise_cons.mpr ⟨fun c hc => ?_, ih⟩
    rcases List.mem_cons.mp hc with rfl | hc
    · exact ab
    · exact Nat.lt_trans ab ((List.pairwise_cons.mp ih).1 c hc)
theorem eqB_eq : ∀ {l r : List T4}, eqB l r = true → l = r
  | [], [], _ => rfl
  | [], _ :: _, h => by cases h
  | _ :: _, [], h => by cases h
  | a :: l, b :: r, h => by
    have h' : ((Nat.beq a.1 b.1 && (Nat.beq a.2.1 b.2.1 && (Nat.beq a.2.2.1 b.2.2.1 && Nat.beq a.2.2.2 b.2.2.2))) && eqB l r) = true := h
    simp only [Bool.and_eq_true, Nat.beq_eq] at h'
    obtain ⟨⟨h1, h2, h3, h4⟩, h5⟩ := h'
    rw [eqB_eq h5]
    congr 1
    exact Prod.ext h1 (Prod.ext h2 (Prod.ext h3 h4))
/-! colours by turns -/
section
variable (P0 P1 P2 : Pt)
def linP (b : Pt) : Pt := (b.1 * P0.1 + b.2.1 * P1.1 + b.2.2 * P2.1, b.1 * P0.2.1 + b.2.1 * P1.2.1 + b.2.2 * P2.2.1, b.1 * P0.2.2 + b.2.1 * P1.2.2 + b.2.2 * P2.2.2)
def lin4 (t : T4) : T4 := (t.1, linP P0 P1 P2 t.2)
def linM (m : Mk) : Mk := (m.1, m.2.1, linP P0 P1 P2 m.2.2)
def linC (x : Nat × T4) : Nat × T4 := (x.1, lin4 P0 P1 P2 x.2)
theorem add4_lin (t : T4) (w : Nat) (p : Pt) : add4 (lin4 P0 P1 P2 t) w (linP P0 P1 P2 p) = lin4 P0 P1 P2 (add4 t w p) := by
  unfold add4 lin4 linP
  simp only [Nat.add_mul, Prod.mk.injEq, true_and]
  refine ⟨?_, ?_, ?_⟩ <;> omega
theorem one1_lin (tp : Nat) (m : Mk) (x : Nat × T4) : one1 tp (linM P0 P1 P2 m) (linC P0 P1 P2 x) = (one1 tp m x).map (linC P0 P1 P2) := by
  have e : add4 (linC P0 P1 P2 x).2 (linM P0 P1 P2 m).2.1 (linM P0 P1 P2 m).2.2 = lin4 P0 P1 P2 (add4 x.2 m.2.1 m.2.2) := add4_lin P0 P1 P2 _ _ _
  unfold one1
  rw [e]
  show (if tp < x.2.1 + m.2.1 then none else if 0 < x.1 ∧ farP x.1 m.1 = false then none else some (m.1, lin4 P0 P1 P2 (add4 x.2 m.2.1 m.2.2))) = _
  by_cases h : tp < x.2.1 + m.2.1
  · rw [if_pos h, if_pos h]; rfl
  · rw [if_neg h, if_neg h]
    by_cases h' : 0 < x.1 ∧ farP x.1 m.1 = false
    · rw [if_pos h', if_pos h']; rfl
    · rw [if_neg h', if_neg h']; rfl
theorem fold_lin (tp : Nat) : ∀ (ms : List Mk) (ch : List (Nat × T4)), (ms.map (linM P0 P1 P2)).foldl (chStep tp) (ch.map (linC P0 P1 P2)) = (ms.foldl (chStep tp) ch).map (linC P0 P1 P2)
  | [], ch => rfl
  | m :: ms, ch => by
    show (ms.map (linM P0 P1 P2)).foldl (chStep tp) (chStep tp (ch.map (linC P0 P1 P2)) (linM P0 P1 P2 m)) = (ms.foldl (chStep tp) (chStep tp ch m)).map (linC P0 P1 P2)
    rw [← fold_lin tp ms]
    congr 1
    unfold chStep
    rw [List.map_append, List.filterMap_map, List.map_filterMap]
    have e : (one1 tp (linM P0 P1 P2 m) ∘ linC P0 P1 P2) = fun x => Option.map (linC P0 P1 P2) (one1 tp m x) := funext fun x => one1_lin P0 P1 P2 tp m x
    rw [e]
theorem chains_lin (tp : Nat) (ms : List Mk) : chainsF tp (ms.map (linM P0 P1 P2)) = (chainsF tp ms).map (linC P0 P1 P2) := by
  unfold chainsF
  rw [← fold_lin]
  congr 1
  show _ = [linC P0 P1 P2 (0, (0, 0, 0, 0))]
  unfold linC lin4 linP
  simp
theorem hRun_lin (tp l st : Nat) (g : Pt) (hs : List T4) : ∀ N, hRun tp l st (linP P0 P1 P2 g) (hs.map (lin4 P0 P1 P2)) N = (hRun tp l st g hs N).map (lin4 P0 P1 P2)
  | 0 => rfl
  | N + 1 => by
    show hStep tp (l + N * st) (linP P0 P1 P2 g) (hRun tp l st (linP P0 P1 P2 g) (hs.map (lin4 P0 P1 P2)) N) = (hStep tp (l + N * st) g (hRun tp l st g hs N)).map (lin4 P0 P1 P2)
    rw [hRun_lin tp l st g hs N]
    unfold hStep
    rw [List.map_append, List.filter_map, List.map_map, List.map_map]
    congr 1
    refine List.map_congr_left fun t _ => ?_
    exact add4_lin P0 P1 P2 t _ g
theorem heaps_lin (tp st : Nat) (a b c : Nat × Nat × Pt) : heapsF tp st [(a.1, a.2.1, linP P0 P1 P2 a.2.2), (b.1, b.2.1, linP P0 P1 P2 b.2.2), (c.1, c.2.1, linP P0 P1 P2 c.2.2)] = (heapsF tp st [a, b, c]).map (lin4 P0 P1 P2) := by
  have e0 : ([(0, 0, 0, 0)] : List T4) = ([(0, 0, 0, 0)] : List T4).map (lin4 P0 P1 P2) := by
    unfold lin4 linP
    simp
  show hRun tp c.1 st _ (hRun tp b.1 st _ (hRun tp a.1 st _ [(0, 0, 0, 0)] a.2.1) b.2.1) c.2.1 = (hRun tp c.1 st _ (hRun tp b.1 st _ (hRun tp a.1 st _ [(0, 0, 0, 0)] a.2.1) b.2.1) c.2.1).map _
  rw [e0, hRun_lin, hRun_lin, hRun_lin, ← e0]
theorem rulR_lin (home : Nat) (pt : Pt) (tp st : Nat) : ∀ (n k wt : Nat), rulR home (linP P0 P1 P2 pt) tp st n k wt = (rulR home pt tp st n k wt).map (linM P0 P1 P2)
  | 0, _, _ => rfl
  | n + 1, k, wt => by
    unfold rulR
    by_cases h : tp < wt
    · rw [if_pos h, if_pos h]; rfl
    · rw [if_neg h, if_neg h, rulR_lin home pt tp st n]; rfl
theorem marks_lin (Q0 Q1 Q2 Q3 Q4 Q5 : Pt) (l0 l1 l2 st tp : Nat) : marksB (linP P0 P1 P2 Q0) (linP P0 P1 P2 Q1) (linP P0 P1 P2 Q2) (linP P0 P1 P2 Q3) (linP P0 P1 P2 Q4) (linP P0 P1 P2 Q5) l0 l1 l2 st tp = (marksB Q0 Q1 Q2 Q3 Q4 Q5 l0 l1 l2 st tp).map (linM P0 P1 P2) := by
  unfold marksB
  simp only [List.map_append, rulR_lin]
theorem sort_lin (ms : List Mk) : sortM (ms.map (linM P0 P1 P2)) = (sortM ms).map (linM P0 P1 P2) := isortB_map (fun _ _ => rfl) ms
end
end Mine
namespace Mine
theorem rulR_len (home : Nat) (pt : Pt) (tp st : Nat) : ∀ (n k wt : Nat), (rulR home pt tp st n k wt).length ≤ n
  | 0, _, _ => Nat.le_refl _
  | n + 1, k, wt => by
    unfold rulR
    by_cases h : tp < wt
    · rw [if_pos h]; exact Nat.zero_le _
    · rw [if_neg h, List.length_cons]
      exact Nat.succ_le_succ (rulR_len home pt tp st n _ _)
theorem rulF_typed {home : Nat} {t0 t1 : Str} {pt : Pt} {tp st : Nat} (hw : ∀ k : Nat, k < 6 → wordF ((home : Int) + 6 * (k : Int)) (if k % 2 = 0 then t0 else t1) = wordOf (home + 6 * k)) (hh : home ≤ 50) : ∀ (m k wt i : Nat), k + m ≤ 5 → tp < wt + i + m * st →
    rulerF (home : Int) t0 t1 (ptD pt) (tp : Int) ((i : Int) :: List.replicate m (st : Int)) k (wt : Int) = some ((rulR home pt tp st (m + 1) k (wt + i)).map mkD)
  | 0, k, wt, i, hk, ht => by
    unfold rulerF rulR
    rw [if_pos (by omega), if_pos (by omega)]; rfl
  | m + 1, k, wt, i, hk, ht => by
    unfold rulerF rulR
    by_cases h : tp < wt + i
    · rw [if_pos (by omega), if_pos h]; rfl
    · rw [if_neg (by omega), if_neg h, if_pos (by omega)]
      have ih := rulF_typed (pt := pt) (tp := tp) (st := st) hw hh m (k + 1) (wt + i) st (by omega) (by rw [Nat.succ_mul] at ht; omega)
      rw [Int.natCast_add] at ih
      rw [show List.replicate (m + 1) (st : Int) = (st : Int) :: List.replicate m (st : Int) from rfl, ih]
      show some (markD (home : Int) t0 t1 (ptD pt) k ((wt : Int) + (i : Int)) :: _) = some (mkD (home + 6 * k, wt + i, pt) :: _)
      have e : markD (home : Int) t0 t1 (ptD pt) k ((wt : Int) + (i : Int)) = mkD (home + 6 * k, wt + i, pt) := by
        unfold markD mkD
        rw [hw k (by omega)]
        have e1 : (home : Int) + 6 * (k : Int) = ((home + 6 * k : Nat) : Int) := by omega
        have e2 : (wt : Int) + (i : Int) = ((wt + i : Nat) : Int) := by omega
        rw [e1, e2]
      rw [e]
theorem word2 : ∀ k : Nat, k < 6 → wordF (((2 : Nat) : Int) + 6 * (k : Int)) (if k % 2 = 0 then sT else sTT) = wordOf (2 + 6 * k) := by decide +kernel
theorem word4 : ∀ k : Nat, k < 6 → wordF (((4 : Nat) : Int) + 6 * (k : Int)) (if k % 2 = 0 then sT else sTT) = wordOf (4 + 6 * k) := by decide +kernel
theorem word5 : ∀ k : Nat, k < 6 → wordF (((5 : Nat) : Int) + 6 * (k : Int)) (if k % 2 = 0 then sT else sTT) = wordOf (5 + 6 * k) := by decide +kernel
theorem word6 : ∀ k : Nat, k < 6 → wordF (((6 : Nat) : Int) + 6 * (k : Int)) (if k % 2 = 0 then Str.empty else Str.empty) = wordOf (6 + 6 * k) := by decide +kernel
theorem word7 : ∀ k : Nat, k < 6 → wordF (((7 : Nat) : Int) + 6 * (k : Int)) (if k % 2 = 0 then Str.empty else Str.empty) = wordOf (7 + 6 * k) := by decide +kernel
theorem word9 : ∀ k : Nat, k < 6 → wordF (((9 : Nat) : Int) + 6 * (k : Int)) (if k % 2 = 0 then Str.empty else Str.empty) = wordOf (9 + 6 * k) := by decide +kernel
def ptOf (c : Int) : Pt := (((paintI c).getD 0 0).toNat, ((paintI c).getD 1 0).toNat, ((paintI c).getD 2 0).toNat)
theorem ptOf_D (c : Int) : D.lst (paintOf c) = ptD (ptOf c) := by
  rw [paintOf_I]
  unfold ptOf paintI
  split <;> rfl
def triples : List (Int × Int × Int) := [(0, 2, 4), (0, 4, 2), (2, 0, 4), (2, 4, 0), (4, 0, 2), (4, 2, 0)]
def le1 (p : Pt) : Prop := p.1 ≤ 1 ∧ p.2.1 ≤ 1 ∧ p.2.2 ≤ 1
def TripleOk (x : Int × Int × Int) : Prop := (x.1 ∈ ([0, 2, 4] : List Int) ∧ x.2.1 ∈ ([0, 2, 4] : List Int) ∧ x.2.2 ∈ ([0, 2, 4] : List Int)) ∧ (x.1 ≠ x.2.1 ∧ x.1 ≠ x.2.2 ∧ x.2.1 ≠ x.2.2) ∧
  (ptOf x.1 = linP (ptOf x.1) (ptOf x.2.1) (ptOf x.2.2) (1, 0, 0) ∧ ptOf x.2.1 = linP (ptOf x.1) (ptOf x.2.1) (ptOf x.2.2) (0, 1, 0) ∧ ptOf x.2.2 = linP (ptOf x.1) (ptOf x.2.1) (ptOf x.2.2) (0, 0, 1)) ∧
  (ptOf (mixOf x.1 x.2.1) = linP (ptOf x.1) (ptOf x.2.1) (ptOf x.2.2) (1, 1, 0) ∧ ptOf (mixOf x.1 x.2.2) = linP (ptOf x.1) (ptOf x.2.1) (ptOf x.2.2) (1, 0, 1) ∧ ptOf (mixOf x.2.1 x.2.2) = linP (ptOf x.1) (ptOf x.2.1) (ptOf x.2.2) (0, 1, 1)) ∧
  (grP x.1 = ptOf x.1 ∧ grP x.2.1 = ptOf x.2.1 ∧ grP x.2.2 = ptOf x.2.2) ∧ le1 (ptOf x.1) ∧ le1 (ptOf x.2.1) ∧ le1 (ptOf x.2.2)
theorem triple_ok : ∀ x ∈ triples, TripleOk x := by
  unfold TripleOk le1
  decide +kernel
theorem rOk_all {l st tp : Nat} (hl : 2 ≤ l ∧ l ≤ 7) (hs : 6 ≤ st ∧ st ≤ 8) (ht : 16 ≤ tp ∧ tp ≤ 21) : rOk l st tp (rN l st tp) = true := by
  have h : ∀ l : Fin 6, ∀ st : Fin 3, ∀ tp : Fin 6, rOk (l.val + 2) (st.val + 6) (tp.val + 16) (rN (l.val + 2) (st.val + 6) (tp.val + 16)) = true := by decide +kernel
  have := h ⟨l - 2, by omega⟩ ⟨st - 6, by omega⟩ ⟨tp - 16, by omega⟩
  simp only [show l - 2 + 2 = l by omega, show st - 6 + 6 = st by omega, show tp - 16 + 16 = tp by omega] at this
  exact this
theorem lin_small {P0 P1 P2 : Pt} (h0 : le1 P0) (h1 : le1 P1) (h2 : le1 P2) {t : T4} (h : t.2.1 < 30 ∧ t.2.2.1 < 30 ∧ t.2.2.2 < 30) : Small4 (lin4 P0 P1 P2 t) := by
  have m : ∀ a p : Nat, p ≤ 1 → a * p ≤ a := fun a p hp => by
    have := Nat.mul_le_mul_left a hp
    rwa [Nat.mul_one] at this
  unfold le1 at h0 h1 h2
  unfold Small4 lin4 linP
  dsimp only
  have := m t.2.1 P0.1 h0.1
  have := m t.2.2.1 P1.1 h1.1
  have := m t.2.2.2 P2.1 h2.1
  have := m t.2.1 P0.2.1 h0.2.1
  have := m t.2.2.1 P1.2.1 h1.2.1
  have := m t.2.2.2 P2.2.1 h2.2.1
  have := m t.2.1 P0.2.2 h0.2.2
  have := m t.2.2.1 P1.2.2 h1.2.2
  have := m t.2.2.2 P2.2.2 h2.2.2
  refine ⟨?_, ?_, ?_⟩ <;> omega
/-! sorted marks -/
def placeD : D → Int
  | .tup (.int a :: _) => a
  | _ => 0
theorem pair_inj {S : List Mk} (h : S.Pairwise fun a b => a.1 < b.1) : ∀ x ∈ S, ∀ y ∈ S, x.1 = y.1 → x = y := by
  induction S with
  | nil => intro x hx; cases hx
  | cons a l ih =>
    obtain ⟨h1, h2⟩ := List.pairwise_cons.mp h
    intro x hx y hy e
    rcases List.mem_cons.mp hx with ex | hx' <;> rcases List.mem_cons.mp hy with ey | hy'
    · rw [ex, ey]
    · have := h1 y hy'; rw [ex] at e; omega
    · have := h1 x hx'; rw [ey] at e; omega
    · exact ih h2 x hx' y hy' e
theorem op_marks {G : Gd} {n : Nat} {M S : List Mk} (h2 : 2 ≤ M.length) (h64 : M.length < 64) (hp : S.Perm M) (hs : S.Pairwise fun a b => a.1 < b.1) : OP G n (.builtin "sorted") [.lst (M.map mkD)] (.lst (S.map mkD)) := by
  have at' : ∀ i (hi : i < M.length), (M.map mkD).getD i .none = mkD M[i] := fun i hi => by simp [List.getD_eq_getElem?_getD, hi]
  have nd : (M.map (·.1)).Nodup := by
    have h1 : (S.map (·.1)).Nodup := by
      unfold List.Nodup
      rw [List.pairwise_map]
      exact hs.imp fun h => Nat.ne_of_lt h
    exact ((hp.map (·.1)).nodup_iff).mp h1
  refine OP.sorted placeD (by simpa using h2) (by simpa using h64) (fun d hd => ?_) (fun i j hi hj hij => ?_) (hp.map _) ?_ (fun x hx y hy h => ?_)
  · obtain ⟨t, _, rfl⟩ := List.mem_map.mp hd
    exact ⟨_, _, rfl⟩
  · rw [List.length_map] at hi hj
    rw [at' i hi, at' j hj]
    have hne : M[i].1 ≠ M[j].1 := by
      have hw := List.pairwise_iff_getElem.mp nd
      rcases Nat.lt_or_gt_of_ne hij with h | h
      · have := hw i j (by simpa using hi) (by simpa using hj) h
        simpa using this
      · have := hw j i (by simpa using hj) (by simpa using hi) h
        exact fun q => (by simpa using this : ¬ M[j].1 = M[i].1) q.symm
    exact CmpD.first (by omega)
  · rw [List.pairwise_map]
    exact hs.imp fun {a b} h => by show (a.1 : Int) ≤ (b.1 : Int); omega
  · obtain ⟨t, ht, rfl⟩ := List.mem_map.mp hx
    obtain ⟨u, hu, rfl⟩ := List.mem_map.mp hy
    have e : t.1 = u.1 := by
      have : (t.1 : Int) = (u.1 : Int) := h
      omega
    rw [pair_inj hs t (hp.mem_iff.mpr ht) u (hp.mem_iff.mpr hu) e]
end Mine
namespace Mine
section
variable {n : Nat}
theorem z4 : 4 ≤ sizeLine := by
  have z : (100000 : Nat) ≤ sizeLine := by decide
  omega
theorem z1 : 1 ≤ sizeLine := by have := z4; omega
theorem zz3 : 3 ≤ sizeLine := by have := z4; omega
theorem tupC4 {G : Gd} {S : Scope} {ρ : Rho} {ow : Own} {a b c d : Int} {k1 k2 k3 k4 k : Nat} {p1 p2 p3 p4 p : Pos} : EX G n S ρ ow (.Tuple [.Constant (.int a) k1 p1, .Constant (.int b) k2 p2, .Constant (.int c) k3 p3, .Constant (.int d) k4 p4] k p) (.tup [.int a, .int b, .int c, .int d]) :=
  EX.tuple (AX.cons EX.int (AX.cons EX.int (AX.cons EX.int (AX.cons EX.int AX.nil)))) z4
/-- the row of no mark -/
theorem seg9 {ρ : Rho} : S1 G0 (n + 3) SL ρ none (nth (bodyAt 20) 9) (fun fl ρ' ow' => fl = .next ∧ ow' = none ∧ ρ' = upd ρ (Str.ofString "chains") (.lst [chD (0, (0, 0, 0, 0))])) := by
  show S1 _ _ _ _ _ (.Assign [.Name _ _] (.List [.Tuple [_, _, .Tuple [_, _, _, _] _ _] _ _] _) _) _
  with_reducible refine S1.assign (d := .lst [.tup [.int 0, .str (Str.ofString ""), .tup [.int 0, .int 0, .int 0, .int 0]]]) ?a ?x ?b ?c ?d
  case a => exact Stor.loc rfl rfl
  case b => exact ⟨rfl, rfl, rfl⟩
  case c => exact trivial
  case d => intro _; rfl
  with_reducible refine EX.list ?h ?z
  case z => exact z1
  with_reducible refine AX.cons ?h1 AX.nil ?h2
  case h2 => intro _; rfl
  with_reducible refine EX.tuple ?k ?kz
  case kz => exact zz3
  with_reducible refine AX.cons EX.int ?m1 ?m2
  case m2 => intro _; rfl
  with_reducible refine AX.cons EX.str ?n1 ?n2
  case n2 => intro _; rfl
  with_reducible refine AX.cons tupC4 AX.nil ?o2
  intro _; rfl
/-- the heap of no mark -/
theorem seg11 {ρ : Rho} : S1 G0 (n + 3) SL ρ none (nth (bodyAt 20) 11) (fun fl ρ' ow' => fl = .next ∧ ow' = none ∧ ρ' = upd ρ (Str.ofString "heaps") (.lst [d4 (0, 0, 0, 0)])) := by
  show S1 _ _ _ _ _ (.Assign [.Name _ _] (.List [.Tuple [_, _, _, _] _ _] _) _) _
  with_reducible refine S1.assign (d := .lst [.tup [.int 0, .int 0, .int 0, .int 0]]) ?a ?x ?b ?c ?d
  case a => exact Stor.loc rfl rfl
  case b => exact ⟨rfl, rfl, rfl⟩
  case c => exact trivial
  case d => intro _; rfl
  with_reducible refine EX.list ?h ?z
  case z => exact z1
  with_reducible refine AX.cons tupC4 AX.nil ?h2
  intro _; rfl
end
end Mine
namespace Mine
theorem drop_nth {l : List Stmt} {k : Nat} (h : k < l.length) : l.drop k = nth l k :: l.drop (k + 1) := by
  unfold nth
  rw [List.drop_eq_getElem_cons h]
  simp [List.getD_eq_getElem?_getD, h]
theorem len20 : (bodyAt 20).length = 14 := rfl
section
variable {n : Nat} {l0 l1 l2 st tp : Nat} {c0 c1 c2 : Int} {ρ : Rho}
set_option maxHeartbeats 2000000 in
theorem law_cfg (h0 : 2 ≤ l0 ∧ l0 ≤ 4) (h1 : 4 ≤ l1 ∧ l1 ≤ 6) (h2 : 5 ≤ l2 ∧ l2 ≤ 7) (h3 : 6 ≤ st ∧ st ≤ 8) (h4 : 16 ≤ tp ∧ tp ≤ 21) (hc : (c0, c1, c2) ∈ triples) (F : LFN l0 l1 l2 st tp c0 c1 c2 ρ) :
    SX G0 (n + 3) SL ρ none ((bodyAt 20).drop 6) (fun fl _ _ => fl = .ret (.bool true) ∨ (fl = .next ∧ D.bool true = .none)) := by
  have z : (1000 : Nat) ≤ sizeLine := by decide
  obtain ⟨t1, t2, ⟨p0, p1, p2⟩, ⟨q0, q1, q2⟩, ⟨g0, g1, g2⟩, s0, s1, s2⟩ := triple_ok _ hc
  dsimp only at t1 t2 p0 p1 p2 q0 q1 q2 g0 g1 g2 s0 s1 s2
  have ok := okCfg_all h0 h1 h2 h3 h4
  unfold okCfg at ok
  simp only [Bool.and_eq_true, List.all_eq_true] at ok
  obtain ⟨⟨⟨⟨⟨⟨⟨⟨k1, k2⟩, k3⟩, k4⟩, k5⟩, k6⟩, k7⟩, k8⟩, k9⟩ := ok
  generalize hP0 : ptOf c0 = P0 at *
  generalize hP1 : ptOf c1 = P1 at *
  generalize hP2 : ptOf c2 = P2 at *
  generalize hB : marksB (1, 0, 0) (0, 1, 0) (0, 0, 1) (1, 1, 0) (1, 0, 1) (0, 1, 1) l0 l1 l2 st tp = B
  have eB : basisM l0 l1 l2 st tp = sortM B := by unfold basisM; rw [hB]
  rw [eB] at k1 k2 k3 k7 k8 k9
  generalize hM : marksB P0 P1 P2 (ptOf (mixOf c0 c1)) (ptOf (mixOf c0 c2)) (ptOf (mixOf c1 c2)) l0 l1 l2 st tp = M
  have eM : M = B.map (linM P0 P1 P2) := by
    rw [← hM, ← hB, ← marks_lin, ← p0, ← p1, ← p2, ← q0, ← q1, ← q2]
  have eS : sortM M = (sortM B).map (linM P0 P1 P2) := by rw [eM, sort_lin]
  have hperm : (sortM M).Perm M := isortB_perm M
  have hlenB : (sortM B).length = B.length := (isortB_perm (le := fun a b : Mk => Nat.ble a.1 b.1) B).length_eq
  have hlenM : M.length = B.length := by rw [eM, List.length_map]
  have hMl : 2 ≤ M.length ∧ M.length < 64 := by
    have a8 : 2 ≤ (sortM B).length := Nat.le_of_ble_eq_true k8
    have a9 : (sortM B).length < 64 := by simpa [Nat.blt_eq] using k9
    omega
  have hup : (sortM M).Pairwise fun a b => a.1 < b.1 := by
    rw [eS, List.pairwise_map]
    exact upB_pair k1
  have hpl : ∀ m ∈ sortM M, m.1 ∈ placesL ∧ m.1 ≤ m.2.1 := fun m hm => by
    rw [eS] at hm
    obtain ⟨b, hb, rfl⟩ := List.mem_map.mp hm
    have := k2 b hb
    exact ⟨show b.1 ∈ placesL by simpa using this.1, Nat.le_of_ble_eq_true this.2⟩
  have hPm : ((chainsF tp (sortM B)).map (·.2)).Perm (basisH l0 l1 l2 st tp) := by
    have e := eqB_eq k3
    have a := isortB_perm (le := fun a b => Nat.ble (k4N a) (k4N b)) ((chainsF tp (sortM B)).map (·.2))
    rw [e] at a
    exact a.symm.trans (isortB_perm _)
  have eC : (chainsF tp (sortM M)).map (·.2) = ((chainsF tp (sortM B)).map (·.2)).map (lin4 P0 P1 P2) := by
    rw [eS, chains_lin, List.map_map, List.map_map]; rfl
  have eH : heapsF tp st [(l0, rN l0 st tp, grP c0), (l1, rN l1 st tp, grP c1), (l2, rN l2 st tp, grP c2)] = (basisH l0 l1 l2 st tp).map (lin4 P0 P1 P2) := by
    unfold basisH
    rw [← heaps_lin, ← p0, ← p1, ← p2, g0, g1, g2]
  have hHl : 2 ≤ (basisH l0 l1 l2 st tp).length ∧ (basisH l0 l1 l2 st tp).length < 64 := ⟨Nat.le_of_ble_eq_true k4, by simpa [Nat.blt_eq] using k5⟩
  have hCl : (chainsF tp (sortM M)).length < 64 := by
    have a := hPm.length_eq
    rw [List.length_map] at a
    have b := congrArg List.length eC
    rw [List.length_map, List.length_map, List.length_map] at b
    omega
  have hsm : ∀ t ∈ (basisH l0 l1 l2 st tp).map (lin4 P0 P1 P2), Small4 t := fun t ht => by
    obtain ⟨u, hu, rfl⟩ := List.mem_map.mp ht
    have := k6 u hu
    exact lin_small s0 s1 s2 ⟨by simpa [Nat.blt_eq] using this.1, by simpa [Nat.blt_eq] using this.2.1, by simpa [Nat.blt_eq] using this.2.2⟩
  have nz : ∀ f : Nat, 2 ≤ f → f ≤ 20 → (f : Int) ≠ 0 ∧ (f : Int) ≠ 127 := fun f _ _ => by omega
  have m24 : 5 * 6 ≤ 5 * st := Nat.mul_le_mul_left 5 h3.1
  -- marks = []
  rw [drop_nth (k := 6) (by rw [len20]; decide)]
  refine SX.step (fun ρ' => LFN l0 l1 l2 st tp c0 c1 c2 ρ' ∧ ρ' sMk = some (.lst [])) (S1.assign (Stor.loc rfl rfl) (EX.list AX.nil (Nat.zero_le _)) ⟨rfl, rfl, F.upd (by decide +kernel), rfl⟩ trivial) ?_
  rintro ρ1 ⟨F1, m1⟩
  rw [drop_nth (k := 7) (by rw [len20]; decide)]
  have u1 : ∀ f ∈ [(l0 : Int), (l1 : Int), (l2 : Int), (st : Int)], f ≠ 0 ∧ f ≠ 127 := by
    intro f hf
    simp only [List.mem_cons, List.not_mem_nil, or_false] at hf
    rcases hf with rfl | rfl | rfl | rfl <;> exact nz _ (by omega) (by omega)
  have u2 : ∀ r ∈ [(rulR 2 P0 tp st 6 0 l0).map mkD, (rulR 4 P1 tp st 6 0 l1).map mkD, (rulR 5 P2 tp st 6 0 l2).map mkD], r.length ≤ 10 := by
    intro r hr
    simp only [List.mem_cons, List.not_mem_nil, or_false] at hr
    rcases hr with rfl | rfl | rfl <;> (rw [List.length_map]; exact Nat.le_trans (rulR_len ..) (by decide))
  have u3 : rulerF 2 sT sTT (.lst (paintOf c0)) (tp : Int) (rv (l0 : Int) (st : Int)) 0 0 = some ((rulR 2 P0 tp st 6 0 l0).map mkD) := by
    rw [ptOf_D, hP0]
    have := rulF_typed (pt := P0) (tp := tp) (st := st) word2 (by decide) 5 0 0 l0 (by decide) (by omega)
    rw [Nat.zero_add] at this; exact this
  have u4 : rulerF 4 sT sTT (.lst (paintOf c1)) (tp : Int) (rv (l1 : Int) (st : Int)) 0 0 = some ((rulR 4 P1 tp st 6 0 l1).map mkD) := by
    rw [ptOf_D, hP1]
    have := rulF_typed (pt := P1) (tp := tp) (st := st) word4 (by decide) 5 0 0 l1 (by decide) (by omega)
    rw [Nat.zero_add] at this; exact this
  have u5 : rulerF 5 sT sTT (.lst (paintOf c2)) (tp : Int) (rv (l2 : Int) (st : Int)) 0 0 = some ((rulR 5 P2 tp st 6 0 l2).map mkD) := by
    rw [ptOf_D, hP2]
    have := rulF_typed (pt := P2) (tp := tp) (st := st) word5 (by decide) 5 0 0 l2 (by decide) (by omega)
    rw [Nat.zero_add] at this; exact this
  with_reducible refine SX.step _ (seg_rulers (rs := [(rulR 2 P0 tp st 6 0 l0).map mkD, (rulR 4 P1 tp st 6 0 l1).map mkD, (rulR 5 P2 tp st 6 0 l2).map mkD]) F1 m1 u1 u2 ?u3 ?u4 ?u5) ?ruB
  case u3 => exact u3
  case u4 => exact u4
  case u5 => exact u5
  case ruB =>
  rintro ρ2 ⟨F2, m2⟩
  rw [drop_nth (k := 8) (by rw [len20]; decide)]
  have v0 : (catF [(rulR 2 P0 tp st 6 0 l0).map mkD, (rulR 4 P1 tp st 6 0 l1).map mkD, (rulR 5 P2 tp st 6 0 l2).map mkD] 3).length ≤ 30 := catF_len u2 3
  have v1 : ∀ r ∈ [(rulR 6 (ptOf (mixOf c0 c1)) tp st 6 0 (l0 + l1)).map mkD, (rulR 7 (ptOf (mixOf c0 c2)) tp st 6 0 (l0 + l2)).map mkD, (rulR 9 (ptOf (mixOf c1 c2)) tp st 6 0 (l1 + l2)).map mkD], r.length ≤ 10 := by
    intro r hr
    simp only [List.mem_cons, List.not_mem_nil, or_false] at hr
    rcases hr with rfl | rfl | rfl <;> (rw [List.length_map]; exact Nat.le_trans (rulR_len ..) (by decide))
  have v2 : ∀ f ∈ [(l0 : Int) + (l1 : Int), (l0 : Int) + (l2 : Int), (l1 : Int) + (l2 : Int), (st : Int)], f ≠ 0 ∧ f ≠ 127 := by
    intro f hf
    simp only [List.mem_cons, List.not_mem_nil, or_false] at hf
    rcases hf with rfl | rfl | rfl | rfl
    · have := nz (l0 + l1) (by omega) (by omega); rwa [Int.natCast_add] at this
    · have := nz (l0 + l2) (by omega) (by omega); rwa [Int.natCast_add] at this
    · have := nz (l1 + l2) (by omega) (by omega); rwa [Int.natCast_add] at this
    · exact nz _ (by omega) (by omega)
  have v3 : rulerF 6 Str.empty Str.empty (.lst (paintOf (mixOf c0 c1))) (tp : Int) (rv ((l0 : Int) + (l1 : Int)) (st : Int)) 0 0 = some ((rulR 6 (ptOf (mixOf c0 c1)) tp st 6 0 (l0 + l1)).map mkD) := by
    rw [ptOf_D]
    have := rulF_typed (pt := ptOf (mixOf c0 c1)) (tp := tp) (st := st) word6 (by decide) 5 0 0 (l0 + l1) (by decide) (by omega)
    rw [Nat.zero_add, Int.natCast_add] at this; exact this
  have v4 : rulerF 7 Str.empty Str.empty (.lst (paintOf (mixOf c0 c2))) (tp : Int) (rv ((l0 : Int) + (l2 : Int)) (st : Int)) 0 0 = some ((rulR 7 (ptOf (mixOf c0 c2)) tp st 6 0 (l0 + l2)).map mkD) := by
    rw [ptOf_D]
    have := rulF_typed (pt := ptOf (mixOf c0 c2)) (tp := tp) (st := st) word7 (by decide) 5 0 0 (l0 + l2) (by decide) (by omega)
    rw [Nat.zero_add, Int.natCast_add] at this; exact this
  have v5 : rulerF 9 Str.empty Str.empty (.lst (paintOf (mixOf c1 c2))) (tp : Int) (rv ((l1 : Int) + (l2 : Int)) (st : Int)) 0 0 = some ((rulR 9 (ptOf (mixOf c1 c2)) tp st 6 0 (l1 + l2)).map mkD) := by
    rw [ptOf_D]
    have := rulF_typed (pt := ptOf (mixOf c1 c2)) (tp := tp) (st := st) word9 (by decide) 5 0 0 (l1 + l2) (by decide) (by omega)
    rw [Nat.zero_add, Int.natCast_add] at this; exact this
  with_reducible refine SX.step _ (seg_mixed (rs := [(rulR 6 (ptOf (mixOf c0 c1)) tp st 6 0 (l0 + l1)).map mkD, (rulR 7 (ptOf (mixOf c0 c2)) tp st 6 0 (l0 + l2)).map mkD, (rulR 9 (ptOf (mixOf c1 c2)) tp st 6 0 (l1 + l2)).map mkD]) F2 m2 v0 v1 v2 t1 t2 ?v3 ?v4 ?v5) ?miB
  case v3 => exact v3
  case v4 => exact v4
  case v5 => exact v5
  case miB =>
  rintro ρ3 ⟨F3, m3'⟩
  have m3 : ρ3 sMk = some (.lst (M.map mkD)) := by
    rw [m3', ← hM]
    unfold marksB
    simp only [List.map_append]
    show some (D.lst (((([] ++ _) ++ _) ++ _) ++ ((([] ++ _) ++ _) ++ _))) = _
    simp only [List.nil_append, List.append_assoc]
    rfl
  -- chains
  rw [drop_nth (k := 9) (by rw [len20]; decide)]
  with_reducible refine SX.step _ seg9 ?chB
  case chB =>
  intro ρ4 r4
  have F4 : LFN l0 l1 l2 st tp c0 c1 c2 ρ4 := by rw [r4]; exact F3.upd (by decide +kernel)
  have m4 : ρ4 sMk = some (.lst (M.map mkD)) := by rw [r4]; exact m3
  have c4' : ρ4 (Str.ofString "chains") = some (.lst [chD (0, (0, 0, 0, 0))]) := by rw [r4]; rfl
  rw [drop_nth (k := 10) (by rw [len20]; decide)]
  refine SX.step (fun ρ' => LFN l0 l1 l2 st tp c0 c1 c2 ρ' ∧ ρ' (Str.ofString "chains") = some (.lst ((chainsF tp (sortM M)).map chD))) (seg_chains F4 m4 c4' (op_marks hMl.1 hMl.2 hperm hup) h4.2 hpl hup (by omega)) ?_
  rintro ρ5 ⟨F5, c5⟩
  rw [drop_nth (k := 11) (by rw [len20]; decide)]
  with_reducible refine SX.step _ seg11 ?heB
  case heB =>
  intro ρ6 r6
  have F6 : LFN l0 l1 l2 st tp c0 c1 c2 ρ6 := by rw [r6]; exact F5.upd (by decide +kernel)
  have c6 : ρ6 (Str.ofString "chains") = some (.lst ((chainsF tp (sortM M)).map chD)) := by rw [r6]; exact c5
  have h6 : ρ6 (Str.ofString "heaps") = some (.lst [d4 (0, 0, 0, 0)]) := by rw [r6]; rfl
  rw [drop_nth (k := 12) (by rw [len20]; decide)]
  refine SX.step (fun ρ' => LFN l0 l1 l2 st tp c0 c1 c2 ρ' ∧ ρ' (Str.ofString "chains") = some (.lst ((chainsF tp (sortM M)).map chD)) ∧ ρ' (Str.ofString "heaps") = some (.lst (((basisH l0 l1 l2 st tp).map (lin4 P0 P1 P2)).map d4))) ((seg_heaps F6 c6 h6 (by omega) (rOk_all (by omega) h3 h4) (rOk_all (by omega) h3 h4) (rOk_all (by omega) h3 h4) (by rw [eH, List.length_map]; omega)).imp fun fl ρ' ow' p => ⟨p.1, p.2.1, p.2.2.1, p.2.2.2.1, by rw [p.2.2.2.2, eH]⟩) ?_
  rintro ρ7 ⟨F7, c7, h7⟩
  exact seg_ret c7 h7 (by rw [eC]; exact hPm.map _) (by rw [List.length_map]; omega) (by rw [List.length_map]; omega) hsm (.inl rfl)
end
end Mine
namespace Mine
noncomputable def paintsE : Expr := match nth (bodyAt 20) 5 with | .Assign _ e _ => e | _ => .Tuple [] 0 default
noncomputable abbrev SPa : Scope := relab (compScope paintsE) SL
theorem np_paint : NX G0 SPa (Str.ofString "_law_paint") (.ref 61) := NX.glob (fun P => rfl) rfl rfl rfl
def triD (x : Int × Int × Int) : D := .lst [.int x.1, .int x.2.1, .int x.2.2]
def paintFe : D → D
  | .int c => .lst (paintOf c)
  | _ => .none
theorem fmod_small (a : Int) {b : Int} (hb : 0 < b) : 0 ≤ a.fmod b ∧ a.fmod b < b := by
  rw [Int.fmod_eq_emod_of_nonneg _ (Int.le_of_lt hb)]
  exact ⟨Int.emod_nonneg _ (by omega), Int.emod_lt_of_pos _ hb⟩
section
variable {n : Nat}
/-- the five numbers drawn -/
theorem drawn_at (ns : List Int) (k : Nat) (i : Nat) (hi : i < 5) : ∃ d : Int, (((ns.map D.int).take k) ++ [D.int 0, .int 0, .int 0, .int 0, .int 0])[i]? = some (.int d) := by
  rw [List.getElem?_append]
  by_cases h : i < ((ns.map D.int).take k).length
  · rw [if_pos h]
    have hi' : i < ns.length := by
      rw [List.length_take, List.length_map] at h; omega
    have hk : i < k := by rw [List.length_take] at h; omega
    refine ⟨ns[i], ?_⟩
    rw [List.getElem?_take, if_pos hk, List.getElem?_map, List.getElem?_eq_getElem hi']
    rfl
  · rw [if_neg h]
    have hj : i - ((ns.map D.int).take k).length < 5 := by omega
    generalize i - ((ns.map D.int).take k).length = j at hj
    refine ⟨0, ?_⟩
    match j, hj with
    | 0, _ => rfl
    | 1, _ => rfl
    | 2, _ => rfl
    | 3, _ => rfl
    | 4, _ => rfl
theorem corner_at {q : Int} (h : 0 ≤ q ∧ q < 6) : ∃ x ∈ triples, (triples.map triD)[q.toNat]? = some (triD x) := by
  have : q.toNat < 6 := by omega
  generalize q.toNat = k at this
  match k, this with
  | 0, _ => exact ⟨_, by decide, rfl⟩
  | 1, _ => exact ⟨_, by decide, rfl⟩
  | 2, _ => exact ⟨_, by decide, rfl⟩
  | 3, _ => exact ⟨_, by decide, rfl⟩
  | 4, _ => exact ⟨_, by decide, rfl⟩
  | 5, _ => exact ⟨_, by decide, rfl⟩
/-- the drawn numbers, with zeros behind them -/
def drawnOf (ns : List Int) : List D := (ns.map D.int).take (clipAt (ns.map D.int).length 5) ++ [D.int 0, D.int 0, D.int 0, D.int 0, D.int 0]
theorem seg0 {ρ : Rho} {ns : List Int} (hn : ns.length ≤ 1000) (h : ρ (Str.ofString "script") = some (.lst (ns.map .int))) :
    S1 G0 (n + 3) SL ρ none (nth (bodyAt 20) 0) (fun fl ρ' ow' => fl = .next ∧ ow' = none ∧ ρ' = upd ρ (Str.ofString "drawn") (.lst (drawnOf ns))) := by
  have z : (100000 : Nat) ≤ sizeLine := by decide
  have tl : ((ns.map D.int).take (clipAt (ns.map D.int).length 5)).length ≤ 1000 := by rw [List.length_take, List.length_map]; omega
  exact S1.assign (Stor.loc rfl rfl) (EX.addL (EX.callT nl_list (AX.cons (EX.sliceL (EX.loc h rfl rfl rfl) EX.int (by rw [List.length_map]; omega)) AX.nil) (OP.copy (by omega))) (EX.list (AX.cons EX.int (AX.cons EX.int (AX.cons EX.int (AX.cons EX.int (AX.cons EX.int AX.nil))))) (show 5 ≤ sizeLine by omega)) (by show _ + 5 ≤ sizeLine; omega)) ⟨rfl, rfl, rfl⟩ trivial
end
end Mine
namespace Mine
section
variable {n : Nat}
theorem seg1 {ρ : Rho} {dr : List D} {a b c : Int} (h : ρ (Str.ofString "drawn") = some (.lst dr)) (e0 : dr[0]? = some (.int a)) (e1 : dr[1]? = some (.int b)) (e2 : dr[2]? = some (.int c)) :
    S1 G0 (n + 3) SL ρ none (nth (bodyAt 20) 1) (fun fl ρ' ow' => fl = .next ∧ ow' = none ∧ ρ' = upd ρ (Str.ofString "lows") (.lst [.int (2 + a.fmod 3), .int (4 + b.fmod 3), .int (5 + c.fmod 3)])) := by
  have z : (100000 : Nat) ≤ sizeLine := by decide
  exact S1.assign (Stor.loc rfl rfl) (EX.list (AX.cons (EX.addI EX.int (EX.modI (EX.itemL (EX.loc h rfl rfl rfl) EX.int (by decide) (by decide) e0) EX.int (by decide))) (AX.cons (EX.addI EX.int (EX.modI (EX.itemL (EX.loc h rfl rfl rfl) EX.int (by decide) (by decide) e1) EX.int (by decide))) (AX.cons (EX.addI EX.int (EX.modI (EX.itemL (EX.loc h rfl rfl rfl) EX.int (by decide) (by decide) e2) EX.int (by decide))) AX.nil))) (show 3 ≤ sizeLine by omega)) ⟨rfl, rfl, rfl⟩ trivial
theorem seg2 {ρ : Rho} {dr : List D} {a : Int} (h : ρ (Str.ofString "drawn") = some (.lst dr)) (e3 : dr[3]? = some (.int a)) :
    S1 G0 (n + 3) SL ρ none (nth (bodyAt 20) 2) (fun fl ρ' ow' => fl = .next ∧ ow' = none ∧ ρ' = upd ρ (Str.ofString "step") (.int (6 + a.fmod 3))) :=
  S1.assign (Stor.loc rfl rfl) (EX.addI EX.int (EX.modI (EX.itemL (EX.loc h rfl rfl rfl) EX.int (by decide) (by decide) e3) EX.int (by decide))) ⟨rfl, rfl, rfl⟩ trivial
theorem seg3 {ρ : Rho} {dr : List D} {a : Int} (h : ρ (Str.ofString "drawn") = some (.lst dr)) (e4 : dr[4]? = some (.int a)) :
    S1 G0 (n + 3) SL ρ none (nth (bodyAt 20) 3) (fun fl ρ' ow' => fl = .next ∧ ow' = none ∧ ρ' = upd ρ (Str.ofString "top") (.int (16 + a.fmod 6))) :=
  S1.assign (Stor.cell rfl rfl) (EX.addI EX.int (EX.modI (EX.itemL (EX.loc h rfl rfl rfl) EX.int (by decide) (by decide) e4) EX.int (by decide))) ⟨rfl, rfl, rfl⟩ trivial
end
end Mine
namespace Mine
section
variable {n : Nat}
theorem z6 : 6 ≤ sizeLine := by
  have z : (100000 : Nat) ≤ sizeLine := by decide
  omega
theorem z3 : 3 ≤ sizeLine := by have := z6; omega
theorem tri3 {G : Gd} {S : Scope} {ρ : Rho} {ow : Own} {a b c : Int} {k1 k2 k3 : Nat} {p1 p2 p3 p : Pos} : EX G n S ρ ow (.List [.Constant (.int a) k1 p1, .Constant (.int b) k2 p2, .Constant (.int c) k3 p3] p) (.lst [.int a, .int b, .int c]) :=
  EX.list (AX.cons EX.int (AX.cons EX.int (AX.cons EX.int AX.nil))) z3
/-- the order of the corners -/
theorem seg4 {ρ : Rho} {ns : List Int} {x : Int × Int × Int} (h : ρ (Str.ofString "script") = some (.lst (ns.map .int))) (e5 : (triples.map triD)[((preSum (intAt ns) ns.length).fmod 6).toNat]? = some (triD x)) (f5 : 0 ≤ (preSum (intAt ns) ns.length).fmod 6 ∧ (preSum (intAt ns) ns.length).fmod 6 < 6) :
    S1 G0 (n + 3) SL ρ none (nth (bodyAt 20) 4) (fun fl ρ' ow' => fl = .next ∧ ow' = none ∧ ρ' = upd ρ (Str.ofString "corners") (triD x)) := by
  show S1 _ _ _ _ _ (.Assign [.Name _ _] (.Subscript (.List [_, _, _, _, _, _] _) (.BinOp _ _ _ _) _) _) _
  refine S1.assignE (d := triD x) ?a ?x ?b ?c ?d
  case a => exact Stor.cell rfl rfl
  case b => exact ⟨rfl, rfl, rfl⟩
  case c => exact trivial
  case d => exact sw_cell rfl
  have lt : (preSum (intAt ns) ns.length).fmod 6 < 2 ^ 63 := Int.lt_trans f5.2 (by decide)
  refine EX.itemL (ds := triples.map triD) (k := (preSum (intAt ns) ns.length).fmod 6) ?p ?q ?r ?s ?t ?u
  case r => exact f5.1
  case s => exact lt
  case t => exact e5
  case u => intro _ _; rfl
  · unfold triples
    simp only [List.map_cons, List.map_nil]
    unfold triD
    with_reducible refine EX.list ?h ?z
    case z => exact z6
    with_reducible refine AX.cons ?a0 ?b0 ?c0
    case a0 => exact tri3
    case c0 => intro _; rfl
    with_reducible refine AX.cons ?a1 ?b1 ?c1
    case a1 => exact tri3
    case c1 => intro _; rfl
    with_reducible refine AX.cons ?a2 ?b2 ?c2
    case a2 => exact tri3
    case c2 => intro _; rfl
    with_reducible refine AX.cons ?a3 ?b3 ?c3
    case a3 => exact tri3
    case c3 => intro _; rfl
    with_reducible refine AX.cons ?a4 ?b4 ?c4
    case a4 => exact tri3
    case c4 => intro _; rfl
    with_reducible refine AX.cons ?a5 ?b5 ?c5
    case a5 => exact tri3
    case c5 => intro _; rfl
    exact AX.nil
  · exact EX.modI (EX.callB nl_sum (AX.cons (EX.loc h rfl rfl rfl) AX.nil) OP.sum) EX.int (by decide)
/-- the three lights -/
theorem seg5 {ρ : Rho} {c0 c1 c2 : Int} (h : ρ (Str.ofString "corners") = some (triD (c0, c1, c2))) (hall : ∀ c ∈ [c0, c1, c2], c ∈ ([0, 1, 2, 3, 4, 5] : List Int)) :
    S1 G0 (n + 3) SL ρ none (nth (bodyAt 20) 5) (fun fl ρ' ow' => fl = .next ∧ ow' = none ∧ ρ' = upd ρ (Str.ofString "paints") (.lst [.lst (paintOf c0), .lst (paintOf c1), .lst (paintOf c2)])) := by
  show S1 _ _ _ _ _ (.Assign [.Name _ _] (.ListComp _ [⟨_, _, _, 0⟩] _ _) _) _
  have hp : (fun (fl : Fl) (ρ' : Rho) (ow' : Own) => fl = .next ∧ ow' = none ∧ ρ' = upd ρ (Str.ofString "paints") (.lst (compOut (fun _ => true) paintFe [.int c0, .int c1, .int c2]))) = (fun fl ρ' ow' => fl = .next ∧ ow' = none ∧ ρ' = upd ρ (Str.ofString "paints") (.lst [.lst (paintOf c0), .lst (paintOf c1), .lst (paintOf c2)])) := by
    rw [compOut_all]; rfl
  rw [← hp]
  refine S1.assignE (Stor.cell rfl rfl) (EX.comp (tb := fun _ => true) (fe := paintFe) (ds := [.int c0, .int c1, .int c2]) (IX.list (EX.cell h rfl rfl rfl)) relab_is rfl (by decide +kernel) (by decide +kernel) (by decide +kernel) (.inl fun _ _ => rfl) z3 ?_) ⟨rfl, rfl, rfl⟩ trivial (sw_cell rfl)
  intro d hd
  have hd' : ∃ c : Int, c ∈ [c0, c1, c2] ∧ d = .int c := by
    simp only [List.mem_cons, List.not_mem_nil, or_false] at hd
    rcases hd with rfl | rfl | rfl
    · exact ⟨_, by simp, rfl⟩
    · exact ⟨_, by simp, rfl⟩
    · exact ⟨_, by simp, rfl⟩
  obtain ⟨c, hc, rfl⟩ := hd'
  refine ⟨_, AT0.name rfl rfl, rfl, fun _ => ?_⟩
  exact EX.callF np_paint (fun P => rfl) (AX.cons (EX.loc rfl rfl rfl rfl) AX.nil) (paint_at (hall c hc))
end
end Mine
namespace Mine
section
variable {n : Nat}
theorem law_fn {ns : List Int} (hn : ns.length ≤ 1000) : Fn G0 (n + 4) 80 [.lst (ns.map .int)] (.bool true) := by
  refine Fn.ofC law_obj ?_
  have b0 : bodyAt 20 = nth (bodyAt 20) 0 :: (bodyAt 20).drop 1 := drop_nth (l := bodyAt 20) (k := 0) (by rw [len20]; decide)
  have b1 : (bodyAt 20).drop 1 = nth (bodyAt 20) 1 :: (bodyAt 20).drop 2 := drop_nth (l := bodyAt 20) (k := 1) (by rw [len20]; decide)
  have b2 : (bodyAt 20).drop 2 = nth (bodyAt 20) 2 :: (bodyAt 20).drop 3 := drop_nth (l := bodyAt 20) (k := 2) (by rw [len20]; decide)
  have b3 : (bodyAt 20).drop 3 = nth (bodyAt 20) 3 :: (bodyAt 20).drop 4 := drop_nth (l := bodyAt 20) (k := 3) (by rw [len20]; decide)
  have b4 : (bodyAt 20).drop 4 = nth (bodyAt 20) 4 :: (bodyAt 20).drop 5 := drop_nth (l := bodyAt 20) (k := 4) (by rw [len20]; decide)
  have b5 : (bodyAt 20).drop 5 = nth (bodyAt 20) 5 :: (bodyAt 20).drop 6 := drop_nth (l := bodyAt 20) (k := 5) (by rw [len20]; decide)
  have dat : ∀ i, i < 5 → ∃ d : Int, (drawnOf ns)[i]? = some (.int d) := fun i hi => drawn_at ns _ i hi
  obtain ⟨d0, e0⟩ := dat 0 (by decide)
  obtain ⟨d1, e1⟩ := dat 1 (by decide)
  obtain ⟨d2, e2⟩ := dat 2 (by decide)
  obtain ⟨d3, e3⟩ := dat 3 (by decide)
  obtain ⟨d4', e4⟩ := dat 4 (by decide)
  have f0 := fmod_small d0 (b := 3) (by decide)
  have f1 := fmod_small d1 (b := 3) (by decide)
  have f2 := fmod_small d2 (b := 3) (by decide)
  have f3 := fmod_small d3 (b := 3) (by decide)
  have f4 := fmod_small d4' (b := 6) (by decide)
  have f5 := fmod_small (preSum (intAt ns) ns.length) (b := 6) (by decide)
  obtain ⟨x, hx, e5⟩ := corner_at f5
  have hall : ∀ c ∈ [x.1, x.2.1, x.2.2], c ∈ ([0, 1, 2, 3, 4, 5] : List Int) := by
    have t1 := (triple_ok _ hx).1
    have sub : ∀ c ∈ ([0, 2, 4] : List Int), c ∈ ([0, 1, 2, 3, 4, 5] : List Int) := by decide
    intro c hc
    simp only [List.mem_cons, List.not_mem_nil, or_false] at hc
    rcases hc with rfl | rfl | rfl
    · exact sub _ t1.1
    · exact sub _ t1.2.1
    · exact sub _ t1.2.2
  obtain ⟨c0, c1, c2⟩ := x
  dsimp only at hall
  obtain ⟨l0, q0⟩ : ∃ l : Nat, 2 + d0.fmod 3 = (l : Int) := ⟨(2 + d0.fmod 3).toNat, by omega⟩
  obtain ⟨l1, q1⟩ : ∃ l : Nat, 4 + d1.fmod 3 = (l : Int) := ⟨(4 + d1.fmod 3).toNat, by omega⟩
  obtain ⟨l2, q2⟩ : ∃ l : Nat, 5 + d2.fmod 3 = (l : Int) := ⟨(5 + d2.fmod 3).toNat, by omega⟩
  obtain ⟨st, q3⟩ : ∃ l : Nat, 6 + d3.fmod 3 = (l : Int) := ⟨(6 + d3.fmod 3).toNat, by omega⟩
  obtain ⟨tp, q4⟩ : ∃ l : Nat, 16 + d4'.fmod 6 = (l : Int) := ⟨(16 + d4'.fmod 6).toNat, by omega⟩
  rw [b0]
  have g0 : upd (fun _ => none) (Str.ofString "script") (D.lst (ns.map D.int)) (Str.ofString "script") = some (.lst (ns.map .int)) := rfl
  with_reducible refine SX.step _ (seg0 hn g0) ?s0
  case s0 =>
  intro ρ1 r1
  rw [b1]
  have g1 : ρ1 (Str.ofString "drawn") = some (.lst (drawnOf ns)) := by rw [r1]; rfl
  have k1 : ρ1 (Str.ofString "script") = some (.lst (ns.map .int)) := by rw [r1]; rfl
  with_reducible refine SX.step _ (seg1 g1 e0 e1 e2) ?s1
  case s1 =>
  intro ρ2 r2
  rw [b2]
  have g2 : ρ2 (Str.ofString "drawn") = some (.lst (drawnOf ns)) := by rw [r2]; exact g1
  have k2 : ρ2 (Str.ofString "script") = some (.lst (ns.map .int)) := by rw [r2]; exact k1
  with_reducible refine SX.step _ (seg2 g2 e3) ?s2
  case s2 =>
  intro ρ3 r3
  rw [b3]
  have g3 : ρ3 (Str.ofString "drawn") = some (.lst (drawnOf ns)) := by rw [r3]; exact g2
  have k3 : ρ3 (Str.ofString "script") = some (.lst (ns.map .int)) := by rw [r3]; exact k2
  with_reducible refine SX.step _ (seg3 g3 e4) ?s3
  case s3 =>
  intro ρ4 r4
  rw [b4]
  have k4 : ρ4 (Str.ofString "script") = some (.lst (ns.map .int)) := by rw [r4]; exact k3
  with_reducible refine SX.step _ (seg4 k4 e5 f5) ?s4
  case s4 =>
  intro ρ5 r5
  rw [b5]
  have g5 : ρ5 (Str.ofString "corners") = some (triD (c0, c1, c2)) := by rw [r5]; rfl
  with_reducible refine SX.step _ (seg5 g5 hall) ?s5
  case s5 =>
  intro ρ6 r6
  refine law_cfg (l0 := l0) (l1 := l1) (l2 := l2) (st := st) (tp := tp) (by omega) (by omega) (by omega) (by omega) (by omega) hx ?_
  rw [q0, q1, q2] at r2
  rw [q3] at r3
  rw [q4] at r4
  rw [r6, r5, r4, r3, r2]
  exact ⟨rfl, rfl, rfl, rfl, rfl⟩
end
end Mine
namespace Mine
/-- the script, as the head lays it -/
theorem ints_of_items {R : WRecords} : ∀ {xs : List WData}, WShape.hasItems R xs .int = true → ∃ ns : List Int, xs = ns.map WData.int
  | [], _ => ⟨[], rfl⟩
  | x :: r, h => by
    have hx := hasItemsW_at h x (by simp)
    simp only [WShape.hasItems, Bool.and_eq_true] at h
    obtain ⟨i, rfl⟩ := hasW_int hx
    obtain ⟨ns, rfl⟩ := ints_of_items h.2
    exact ⟨i :: ns, rfl⟩
theorem rdL_of_well {P : Params} {h : Heap} : ∀ {ns : List Int} {vs : List Value}, WellAll P h vs (ns.map WData.int) → RdL h.get? (ns.map D.int) vs
  | [], vs, x => by cases x; exact .nil
  | n :: ns, vs, x => by
    cases x with
    | cons a b =>
      cases a
      exact .cons (Rd.mkInt _ _) (rdL_of_well b)
theorem rd_of_well {P : Params} {h : Heap} {ns : List Int} {vs : List Value} (x : WellAll P h vs [.list (ns.map WData.int)]) : RdL h.get? [.lst (ns.map D.int)] vs := by
  cases x with
  | cons a b =>
    cases b
    cases a with
    | list e y => exact .cons (Rd.mkLst e (rdL_of_well y)) .nil
theorem loose_is : looseW hd.view_39 [Str.ofString "ONE_THIRD", Str.ofString "ONE_SIXTH", Str.ofString "TWO_THIRD"] = [Str.ofString "ONE_THIRD", Str.ofString "ONE_SIXTH", Str.ofString "TWO_THIRD"] := by decide +kernel
theorem law_at (P : Params) : nsIn (hd.heap_39 P) mainGlobals (Str.ofString "law") = some (some (.ref 80)) := rfl
theorem join (law : ∀ ns : List Int, ns.length ≤ 1000 → Fn G0 (0 + 4) 80 [.lst (ns.map .int)] (.bool true)) : PySem.Challenge.rw_re0056_01.Holds := by
  refine hd ?_
  intro w s₀ s₁ mg mb G Y fa o pm cd doc dV kV ho hdd hcd hD hmg hg args vals as hpre hlay hrd hwl hlo
  clear hdd hD
  have X := kIn_of Y
  have T := topRead_of G.T
  rw [loose_is] at T
  obtain rfl : fa = 80 := by
    have e := mg_of X T.g (law_at _)
    have e' := hmg.symm.trans e
    cases e'
    rfl
  obtain ⟨hsh, hcond⟩ := pre_splitW hpre
  obtain ⟨d, r, rfl, h1, h2⟩ := hasAllW_cons hsh
  have h2' : r = [] := by
    cases r with
    | nil => rfl
    | cons a b => cases h2
  subst h2'
  obtain ⟨xs, rfl, hi⟩ := hasW_list h1
  obtain ⟨ns, rfl⟩ := ints_of_items hi
  have hlen : ns.length ≤ 63 := by
    have c1 := (holds_andW hcond).1
    have c2 := condW_of c1 (by wtm_val)
    simp only [Bool.not_eq_true', decide_eq_false_iff_not, List.length_map] at c2
    omega
  refine law ns (by omega) w callerA s₁ s₁.heap.get? vals _ _ ⟨rfl, by decide, by decide⟩ ⟨⟨mg, mb, T⟩, X⟩ (fun _ _ e => e) (.of_eq hg) (rd_of_well hwl) fun v s' g' kp vi vl _ os gk rd => ?_
  obtain rfl := Rd.bool_iff.mp rd
  have hpost : PySem.Challenge.rw_re0056_01.row.toRowW.claim.post [WData.list (ns.map WData.int)] (.bool true) [WData.list (ns.map WData.int)] = true := by wrow_post
  exact ⟨.inl ⟨_, .bool true, [], rfl, fun _ => rfl, .bool true, hpost, fun _ => ⟨.nil, fun a ha => nomatch ha⟩⟩, .of_keep kp, os, gk.1⟩
end Mine
theorem PySem.Challenge.cw_re0056_01_holds : PySem.Challenge.rw_re0056_01.Holds :=
  Mine.join fun ns hn => Mine.law_fn hn
